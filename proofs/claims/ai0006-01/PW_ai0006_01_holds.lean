import PyProof.Rows.All
import Wide.All
import OpenK.AllK
import Wide.FinOn
import PySem.Challenge.RW_ai0006_01
set_option linter.all false
set_option Elab.async false
set_option maxRecDepth 100000
set_option maxHeartbeats 4000000
set_option pp.deepTerms false
set_option compiler.extract_closed false
set_option genSizeOf false
open PySem PySem.Calls PyProof.Rows PySem.W
section
set_option genSizeOf false
namespace DL
noncomputable def nmc0 (s:Str):Option Nat:=if s.cps.all (fun c=>decide (c<255)) then some (s.cps.toList.foldr (fun c a=>c+1+256*a) 0) else none
theorem foldr_inj:∀ (a b:List Nat),(∀ c∈a,c<255)→(∀ c∈b,c<255) →
  a.foldr (fun c a=>c+1+256*a) 0=b.foldr (fun c a=>c+1+256*a) 0→a=b
 | [],[],_,_,_=>rfl
 | [],c::r,_,_,h=>absurd (h.trans (Nat.add_right_comm _ _ _)) (Nat.succ_ne_zero _).symm
 | c::r,[],_,_,h=>absurd ((Nat.add_right_comm _ _ _).symm.trans h) (Nat.succ_ne_zero _)
 | c::r,d::t,ha,hb,h=>by
  have h1:=ha c (.head _)
  have h2:=hb d (.head _)
  simp only [List.foldr_cons] at h
  have m:∀ {c:Nat} {x:Nat},c<255→(c+1+256*x)%256=c+1∧(c+1+256*x)/256=x:=fun h=>⟨by rw [Nat.add_mul_mod_self_left,Nat.mod_eq_of_lt (Nat.succ_lt_succ h)],by rw [Nat.add_mul_div_left _ _ (by decide),Nat.div_eq_of_lt (Nat.succ_lt_succ h),Nat.zero_add]⟩
  have e1:c=d:=Nat.succ.inj ((m h1).1.symm.trans ((congrArg (·%256) h).trans (m h2).1))
  have e2:r.foldr (fun c a=>c+1+256*a) 0=t.foldr (fun c a=>c+1+256*a) 0:=(m h1).2.symm.trans ((congrArg (·/256) h).trans (m h2).2)
  rw [e1,foldr_inj r t (fun c hc=>ha c (.tail _ hc)) (fun c hc=>hb c (.tail _ hc)) e2]
theorem nmc0_inj {x y:Str} {k:Nat} (hx:nmc0 x=some k) (hy:nmc0 y=some k):x=y:=by
 unfold nmc0 at hx hy
 split at hx
 ·split at hy
  ·rename_i h1 h2
   obtain e:=foldr_inj x.cps.toList y.cps.toList
    (fun c hc=>by have:=Array.all_eq_true'.mp h1 c (Array.mem_toList_iff.mp hc);simpa using this)
    (fun c hc=>by have:=Array.all_eq_true'.mp h2 c (Array.mem_toList_iff.mp hc);simpa using this)
    (by rw [Option.some.inj hx,Option.some.inj hy])
   obtain ⟨⟨l⟩⟩:_:=x
   obtain ⟨⟨l'⟩⟩:_:=y
   simp only at e
   rw [e]
  ·cases hy
 ·cases hx
/- codes -/
noncomputable def codeList:List Nat:=[599394915521669199662461812269478210,2341386388756759757738744466404418,1223631755195043825488,36328742469198855167162409808,1223631755195042973267,843204948,736933085043657456229110459554091981689660117721668024427872,168657266298795811337324998872290691450680218379616,8927449398600033368471156228765881710568800,1999481813178129739104,122585318852215855122640224,8464062915188780384,479015137796973828140384,122585392206853182803045728,8819856081844071776,549665661512770843209056,1889521937870391242080,2167016858410358566240,2054970397005636070752,1870211632966179908960,8678563340116716896,526072057427810003873120,122585245070888851027946848,483865979046955610959200,1888875681219468225888,34476701206588154122852265312,435510080610,30050,99,1718903395,510983965444836783767421298549221987,1836085347,1718975075,2257596917697066924643,499935181411,100,1717923940,8391735966522372196,7698020,1651860069,483828293181468524242533,39949222589038920461154174199508046276197,111533564062309,2019717989,6714981,1718117734,6647654,32763704688078694,525923086182,1890026345452306591590,7561831,7091327045655685735,504464894567,1853059175,126883624805993,1768450665,106,7696234,483534081766703640507498,108,1970366060,1701800556,1970561645,7889517,7300717,1970563693,7893101,7955054,28825219694356078,1718510191,33040738450039407,499934716527,126883592042095,9300158072117206873511304061808,504230143088,128047578965104,129082900047728,498014275104059079092848,6648688,495639426416,10052756446528185089667141370313804932735601,1970496113,500186702449,439770836337,478526205297,7630961,439838794355,7889523,1970562675,7693939,7893107,1954050163,129129977701492,6449524,439988939124,440022493556,127983371315572,1719364212,111490731569268,504447006068,111490697819508,7239284,1835688565,39943802094712285628651898768733065994869,1701671029,1869837941,7959671851250186869,123831709720260774707949430,440073544311,12591]
/- end of codes -/
noncomputable def nmc (s:Str):Option Nat:=match nmc0 s with
 | some c=>codeList.findIdx? (fun d=>d == c)
 | none=>none
theorem nmc_inj {x y:Str} {k:Nat} (hx:nmc x=some k) (hy:nmc y=some k):x=y:=by
 unfold nmc at hx hy
 cases qx:nmc0 x with
 | none=>rw [qx] at hx;cases hx
 | some c =>
  cases qy:nmc0 y with
  | none=>rw [qy] at hy;cases hy
  | some d =>
   rw [qx] at hx;rw [qy] at hy
   obtain ⟨h1,h2,_⟩:=List.findIdx?_eq_some_iff_getElem.mp hx
   obtain ⟨h3,h4,_⟩:=List.findIdx?_eq_some_iff_getElem.mp hy
   obtain e1:=eq_of_beq h2
   obtain e2:=eq_of_beq h4
   exact nmc0_inj qx (by rw [qy,← e2,e1])
inductive V where
 | none
 | bool (b:Bool)
 | int (i:Int)
 | str (x:Str)
 | bytes (b:List UInt8)
 | ref (a:Addr)
 | ty (n:String)
 | bi (n:String)
 | gl (k:Nat)
inductive O where
 | list (xs:List V)
 | ilist (o:Obj) (xs:List V)
 | tuple (xs:List V)
 | barr (b:List UInt8)
 | raw (o:Obj)
noncomputable abbrev MG:=Str→Option Value
noncomputable abbrev Loc:=List (Nat×V)
noncomputable abbrev Hp:=Addr→Option O
noncomputable abbrev Kp:=Addr→Option Obj
noncomputable def SZ:Nat:=1000000
noncomputable def VR (mg:MG) (v:Value):V→Prop
 | .none=>v = .none
 | .bool b=>v = .bool b
 | .int i=>∃ t,v = .int i t
 | .str x=>∃ t,v = .str x t
 | .bytes b=>b.length≤SZ∧∃ t,v = .bytes b.toArray t
 | .ref a=>v = .ref a
 | .ty n=>v = .type n
 | .bi n=>v = .builtin n
 | .gl k=>∃ x,nmc x=some k∧mg x=some v
inductive VRs (mg:MG):List Value→List V→Prop where
 | nil:VRs mg [] []
 | cons {v x vs xs}:VR mg v x→VRs mg vs xs→VRs mg (v::vs) (x::xs)
noncomputable def OR (mg:MG) (o:Obj):O→Prop
 | .list xs=>xs.length≤SZ∧∃ vs n,o={ cls:=.type "list",data:=.seq vs n }∧VRs mg vs.toList xs
 | .ilist x xs=>xs.length≤SZ∧(o=x∧o.cls = .type "list")∧∃ vs n,o.data = .seq vs n∧VRs mg vs.toList xs
 | .tuple xs=>xs.length≤SZ∧∃ vs n,o={ cls:=.type "tuple",data:=.seq vs n }∧VRs mg vs.toList xs
 | .barr b=>b.length≤SZ∧o={ cls:=.type "bytearray",data:=.bytearray b.toArray }
 | .raw x=>o=x∧(∀ es n,x.data≠.dict es n)∧∀ v,x.data≠.cell v
noncomputable def upd (H:Hp) (a:Addr) (o:O):Hp:=fun b=>if b=a then some o else H b
noncomputable def del (H:Hp) (a:Addr):Hp:=fun b=>if b=a then none else H b
theorem upd_same {H:Hp} {a:Addr} {o:O}:upd H a o a=some o:=if_pos rfl
theorem upd_ne {H:Hp} {a b:Addr} {o:O} (h:b≠a):upd H a o b=H b:=if_neg h
theorem upd_upd {H:Hp} {a:Addr} {o o':O}:upd (upd H a o) a o'=upd H a o':=by
 funext b;unfold upd;split<;>rfl
theorem upd_keep {H:Hp} {a b:Addr} {o x:O} (hn:H a=none) (h:H b=some x):upd H a o b=some x:=by
 rw [upd_ne,h];intro e;rw [e,hn] at h;cases h
noncomputable def Ext (H H':Hp):Prop:=∀ a o,H a=some o→H' a=some o
theorem Ext.refl (H:Hp):Ext H H:=fun _ _ h=>h
theorem Ext.trans {H H' H'':Hp} (x:Ext H H') (y:Ext H' H''):Ext H H'':=fun a o h=>y a o (x a o h)
theorem Ext.upd {H H':Hp} {a:Addr} {o:O} (x:Ext H H') (hn:H' a=none):Ext H (upd H' a o):=fun _ _ h=>upd_keep hn (x _ _ h)
theorem Ext.get {H H':Hp} (x:Ext H H') {a:Addr} {o:O} (h:H a=some o):H' a=some o:=x a o h
theorem Ext.none {H H':Hp} (x:Ext H H') {a:Addr} (h:H' a=none):H a=none:=by
 cases q:H a with
 | none=>rfl
 | some o=>rw [x a o q] at h;cases h
noncomputable def SubL (m m':Loc):Prop:=∀ k v,m.lookup k=some v→m'.lookup k=some v
inductive Exn where
 | assertion
 | applyDelta
noncomputable abbrev QE:=V→Hp→Prop
noncomputable abbrev XE:=Exn→Hp→Prop
noncomputable abbrev Spec:=List V→Hp→QE→XE→Prop
set_option genInjectivity false in
structure Cx where
 w:World
 prog:Program
 mg:MG
 base:Kp
 A:Around
 env:Env
 stk:List Env
 fs:List (Addr×(Str→Option Value))
 os:OsState
 lv:Nat
 wr:Bool
structure St (C:Cx) (P:Kp) (m:Loc) (H:Hp) (s:Shared):Prop where
 pbase:∀ b o,C.base b=some o→P b=some o
 keep:∀ b o,P b=some o→s.heap.get? b=some o
 objs:∀ a o,H a=some o→P a=none∧∃ ob,s.heap.get? a=some ob∧OR C.mg ob o
 pL:P C.env.locals=none
 ns:∃ mc,s.heap.Ns C.env.locals mc∧∀ x k v,nmc x=some k→m.lookup k=some v→C.env.kindOf x=some .local→∃ u,mc x=some u∧VR C.mg u v
 own:C.wr=true→∀ x a,C.env.cells.lookup x=some a→C.env.kindOf x=some .cell→P a=none∧∃ c,s.heap.IsCell a c
 cells:∀ x k v,nmc x=some k→m.lookup k=some v→C.env.kindOf x=some .cell∨C.env.kindOf x=some .free →
  ∃ a u,C.env.cells.lookup x=some a∧s.heap.IsCell a (some u)∧VR C.mg u v
 fs:∀ f∈C.fs,s.heap.Ns f.1 f.2∧P f.1=none∧f.1≠C.env.locals
 gens:s.gens=#[]
 os:s.os=C.os
end DL
end
section
set_option genSizeOf false
namespace DL
@[irreducible] noncomputable def BIG:Int:=2^1000000
@[irreducible] noncomputable def DIV:Int:=2^8999
noncomputable def gd (b:Bool) (P:Prop):Prop:=match b with
 | true=>P
 | false=>False
noncomputable def oE {α:Type} (o:Option α) (K:α→Prop):Prop:=match o with
 | some a=>K a
 | none=>False
noncomputable def iI (v:V) (K:Int→Prop):Prop:=@V.casesOn (fun _=>Prop) v False (fun _=>False) K (fun _=>False) (fun _=>False) (fun _=>False) (fun _=>False) (fun _=>False) (fun _=>False)
noncomputable def iB (v:V) (K:List UInt8→Prop):Prop:=@V.casesOn (fun _=>Prop) v False (fun _=>False) (fun _=>False) (fun _=>False) K (fun _=>False) (fun _=>False) (fun _=>False) (fun _=>False)
noncomputable def iR (v:V) (K:Addr→Prop):Prop:=@V.casesOn (fun _=>Prop) v False (fun _=>False) (fun _=>False) (fun _=>False) (fun _=>False) K (fun _=>False) (fun _=>False) (fun _=>False)
noncomputable def iT (v:V) (K:String→Prop):Prop:=@V.casesOn (fun _=>Prop) v False (fun _=>False) (fun _=>False) (fun _=>False) (fun _=>False) (fun _=>False) K (fun _=>False) (fun _=>False)
noncomputable def l1 (vs:List V) (K:V→Prop):Prop:=match vs with
 | []=>False
 | v::r=>(match r with
  | []=>K v
  | _::_=>False)
noncomputable def l2 (vs:List V) (K:V→V→Prop):Prop:=match vs with
 | []=>False
 | v::r=>l1 r (K v)
noncomputable def oL (o:Option O):Option (List V):=match o with
 | some (.list xs)=>some xs
 | _=>none
noncomputable def oS (o:Option O):Option (List V):=match o with
 | some (.list xs)=>some xs
 | some (.ilist _ xs)=>some xs
 | _=>none
noncomputable def oA (o:Option O):Option (List V):=match o with
 | some (.list xs)=>some xs
 | some (.ilist _ xs)=>some xs
 | some (.tuple xs)=>some xs
 | _=>none
noncomputable def oT (o:Option O):Option (List V):=match o with
 | some (.tuple xs)=>some xs
 | _=>none
noncomputable def oLT (o:Option O):Option (List V):=match o with
 | some (.list xs)=>some xs
 | some (.tuple xs)=>some xs
 | _=>none
noncomputable def oBa (o:Option O):Option (List UInt8):=match o with
 | some (.barr b)=>some b
 | _=>none
theorem gd_e {b:Bool} {P:Prop} (h:gd b P):b=true∧P:=by
 cases b with
 | true=>exact ⟨rfl,h⟩
 | false=>exact False.elim h
theorem oE_e {α:Type} {o:Option α} {K:α→Prop} (h:oE o K):∃ a,o=some a∧K a:=by
 cases o with
 | some a=>exact ⟨a,rfl,h⟩
 | none=>exact False.elim h
theorem oE_i {α:Type} {o:Option α} {a:α} {K:α→Prop} (e:o=some a) (h:K a):oE o K:=e▸h
theorem oL_e {o:Option O} {xs:List V} (h:oL o=some xs):o=some (.list xs):=by
 cases o with
 | none=>contradiction
 | some o=>cases o<;>first | exact congrArg (fun x=>some (O.list x)) (Option.some.inj h) | contradiction
theorem oT_e {o:Option O} {xs:List V} (h:oT o=some xs):o=some (.tuple xs):=by
 cases o with
 | none=>contradiction
 | some o=>cases o<;>first | exact congrArg (fun x=>some (O.tuple x)) (Option.some.inj h) | contradiction
theorem oBa_e {o:Option O} {b:List UInt8} (h:oBa o=some b):o=some (.barr b):=by
 cases o with
 | none=>contradiction
 | some o=>cases o<;>first | exact congrArg (fun x=>some (O.barr x)) (Option.some.inj h) | contradiction
theorem oS_e {o:Option O} {xs:List V} (h:oS o=some xs):o=some (.list xs)∨∃ x,o=some (.ilist x xs):=by
 cases o with
 | none=>contradiction
 | some o=>cases o<;>first | exact .inl (congrArg (fun x=>some (O.list x)) (Option.some.inj h)) | exact .inr ⟨_,congrArg (fun x=>some (O.ilist _ x)) (Option.some.inj h)⟩ | contradiction
theorem oA_e {o:Option O} {xs:List V} (h:oA o=some xs):oS o=some xs∨o=some (.tuple xs):=by
 cases o with
 | none=>contradiction
 | some o=>cases o<;>first | exact .inl h | exact .inr (congrArg (fun x=>some (O.tuple x)) (Option.some.inj h)) | contradiction
theorem oLT_e {o:Option O} {xs:List V} (h:oLT o=some xs):o=some (.list xs)∨o=some (.tuple xs):=by
 cases o with
 | none=>contradiction
 | some o=>cases o<;>first | exact .inl (congrArg (fun x=>some (O.list x)) (Option.some.inj h)) | exact .inr (congrArg (fun x=>some (O.tuple x)) (Option.some.inj h)) | contradiction
section
variable {mg:MG} {u:Value} {v:V}
theorem iI_v {K:Int→Prop} (r:VR mg u v) (h:iI v K):∃ i t,u = .int i t∧K i:=by
 cases v with
 | int=>obtain ⟨t,e⟩:_:=r;exact ⟨_,t,e,h⟩
 | _=>exact False.elim h
theorem iB_v {K:List UInt8→Prop} (r:VR mg u v) (h:iB v K):∃ b t,u = .bytes b.toArray t∧b.length≤SZ∧K b:=by
 cases v with
 | bytes=>obtain ⟨z,t,e⟩:_:=r;exact ⟨_,t,e,z,h⟩
 | _=>exact False.elim h
theorem iR_v {K:Addr→Prop} (r:VR mg u v) (h:iR v K):∃ a,u = .ref a∧K a:=by
 cases v with
 | ref=>exact ⟨_,r,h⟩
 | _=>exact False.elim h
theorem iR_e {K:Addr→Prop} (h:iR v K):∃ a,v = .ref a∧K a:=by
 cases v with
 | ref a=>exact ⟨a,rfl,h⟩
 | _=>exact False.elim h
theorem iT_v {K:String→Prop} (r:VR mg u v) (h:iT v K):∃ n,u = .type n∧K n:=by
 cases v with
 | ty=>exact ⟨_,r,h⟩
 | _=>exact False.elim h
theorem l1_v {us:List Value} {vs:List V} {K:V→Prop} (r:VRs mg us vs) (h:l1 vs K):∃ u v,us=[u]∧VR mg u v∧K v:=by
 cases r with
 | nil=>exact False.elim h
 | cons a b=>cases b with
  | nil=>exact ⟨_,_,rfl,a,h⟩
  | cons _ _=>exact False.elim h
theorem l2_v {us:List Value} {vs:List V} {K:V→V→Prop} (r:VRs mg us vs) (h:l2 vs K):∃ u w v x,us=[u,w]∧VR mg u v∧VR mg w x∧K v x:=by
 cases r with
 | nil=>exact False.elim h
 | cons a b =>
  obtain ⟨u,v,e,c,h⟩:=l1_v b h
  exact ⟨_,_,_,_,congrArg _ e,a,c,h⟩
theorem l2_e {vs:List V} {K:V→V→Prop} (h:l2 vs K):∃ v x,vs=[v,x]∧K v x:=by
 obtain _ | ⟨v,_ | ⟨x,_ | _⟩⟩:=vs
 ·exact False.elim h
 ·exact False.elim h
 ·exact ⟨v,x,rfl,h⟩
 ·exact False.elim h
end
noncomputable def tvO (o:Option O):Option Bool:=(oS o).map fun xs=>!xs.isEmpty
noncomputable def tv (v:V) (H:Hp):Option Bool:=match v with
 | .none=>some false
 | .bool b=>some b
 | .int i=>some (decide (i≠0))
 | .bytes b=>some (!b.isEmpty)
 | .ref a=>tvO (H a)
 | _=>none
noncomputable def truthyV (v:V) (H:Hp) (Q:Bool→Prop):Prop:=oE (tv v H) Q
noncomputable def nB (n:Nat):Bool:=Nat.ble n 29
theorem nB_e {n:Nat} (h:nB n=true):n<30:=Nat.lt_succ_of_le (Nat.le_of_ble_eq_true h)
noncomputable def constV (c:Const) (Q:V→Prop):Prop:=match c with
 | .none=>Q .none
 | .bool b=>Q (.bool b)
 | .int i=>Q (.int i)
 | .str s=>Q (.str s)
 | .bytes b=>gd (nB b.length) (Q (.bytes b))
 | _=>False
noncomputable def binI (op:Operator) (a b:Int) (Q:Int→Prop):Prop:=match op with
 | .Add=>Q (a+b)
 | .Sub=>Q (a-b)
 | .Mult=>(a.natAbs<2^64∨b.natAbs<2^64)∧Q (a*b)
 | .FloorDiv=>(0<b∧b<DIV)∧Q (a/b)
 | .Mod=>0<b∧Q (a%b)
 | .Pow=>(0≤b∧b≤1000000∧a.natAbs<2^64)∧Q (a^b.toNat)
 | .LShift=>(0≤b∧b≤1000000∧-BIG<a∧a<BIG)∧Q (a*2^b.toNat)
 | .RShift=>(0≤b∧b≤1000000)∧Q (a/2^b.toNat)
 | .BitAnd=>Q (Builtin.bitAnd a b)
 | .BitOr=>Q (Builtin.bitOr a b)
 | _=>False
noncomputable def opA (op:Operator) (P:Prop):Prop:=match op with
 | .Add=>P
 | _=>False
noncomputable def opM (op:Operator) (P:Prop):Prop:=match op with
 | .Mult=>P
 | _=>False
theorem opA_e {op:Operator} {P:Prop} (h:opA op P):op = .Add∧P:=by
 cases op<;>first | exact ⟨rfl,h⟩ | exact False.elim h
theorem opM_e {op:Operator} {P:Prop} (h:opM op P):op = .Mult∧P:=by
 cases op<;>first | exact ⟨rfl,h⟩ | exact False.elim h
noncomputable def addRef (a b:Addr) (H:Hp) (Q:V→Hp→Prop):Prop :=
 oE (oL (H a)) fun xs=>oE (oL (H b)) fun ys=>xs.length+ys.length≤SZ∧∀ c,H c=none→Q (.ref c) (upd H c (.list (xs++ys)))
noncomputable def binop (op:Operator) (x y:V) (H:Hp) (Q:V→Hp→Prop):Prop:=match x with
 | .int a=>iI y fun b=>binI op a b fun i=>Q (.int i) H
 | .bytes a=>(match y with
  | .bytes b=>opA op (a.length+b.length≤SZ∧Q (.bytes (a++b)) H)
  | .int n=>opM op ((a.length=1∧0≤n∧n≤1000000)∧Q (.bytes (List.replicate n.toNat a).flatten) H)
  | _=>False)
 | .ref a=>iR y fun b=>opA op (addRef a b H Q)
 | _=>False
noncomputable def unop (op:UnaryOp) (x:V) (H:Hp) (Q:V→Hp→Prop):Prop:=match op with
 | .Not=>truthyV x H fun b=>Q (.bool (!b)) H
 | .USub=>iI x fun i=>Q (.int (-i)) H
 | _=>False
noncomputable def bltB:List UInt8→List UInt8→Bool
 | [],[]=>false
 | [],_::_=>true
 | _::_,[]=>false
 | a::r,b::t=>if a=b then bltB r t else decide (a.toNat<b.toNat)
noncomputable def pydS:V→Option PyData
 | .none=>some .none
 | .bool b=>some (.bool b)
 | .int i=>some (.int i)
 | _=>none
noncomputable def pydC (a:Option PyData) (b:Option (List PyData)):Option (List PyData):=match a with
 | some d=>(match b with
  | some ds=>some (d::ds)
  | none=>none)
 | none=>none
theorem pydC_e {a:Option PyData} {b:Option (List PyData)} {r:List PyData} (h:pydC a b=some r):∃ d ds,a=some d∧b=some ds∧r=d::ds:=by
 cases a with
 | none=>contradiction
 | some d=>cases b with
  | none=>contradiction
  | some ds=>exact ⟨d,ds,rfl,rfl,(Option.some.inj h).symm⟩
noncomputable def pydL:List V→Option (List PyData)
 | []=>some []
 | v::r=>pydC (pydS v) (pydL r)
noncomputable def pydR (f:List V→Option (List PyData)) (o:Option O):Option PyData:=match o with
 | some (.list xs)=>(pydL xs).map .list
 | some (.tuple xs)=>(f xs).map .tuple
 | _=>none
noncomputable def pyd1 (v:V) (H:Hp):Option PyData:=match v with
 | .none=>some .none
 | .bool b=>some (.bool b)
 | .int i=>some (.int i)
 | .ref a=>pydR pydL (H a)
 | _=>none
noncomputable def pydL1 (H:Hp):List V→Option (List PyData)
 | []=>some []
 | v::r=>pydC (pyd1 v H) (pydL1 H r)
noncomputable def pyd2 (v:V) (H:Hp):Option PyData:=match v with
 | .none=>some .none
 | .bool b=>some (.bool b)
 | .int i=>some (.int i)
 | .ref a=>pydR (pydL1 H) (H a)
 | _=>none
noncomputable def isInts:List V→Option (List Int)
 | []=>some []
 | .int i::r=>(isInts r).map (i::·)
 | _::_=>none
noncomputable def eqR (a b:Option PyData):Option Bool:=match a with
 | some d=>b.map fun e=>PyData.eqv d e
 | none=>none
noncomputable def eqV (x y:V) (H:Hp):Option Bool:=match x with
 | .int a=>(match y with
  | .int b=>some (decide (a=b))
  | _=>eqR (some (.int a)) (pyd2 y H))
 | .bytes a=>(match y with
  | .bytes b=>some (decide (a=b))
  | _=>none)
 | _=>eqR (pyd2 x H) (pyd2 y H)
noncomputable def memV (x:V) (ys:List V):Option Bool:=match pydS x with
 | some d=>(pydL ys).map fun ds=>ds.any fun e=>PyData.eqv e d
 | none=>none
noncomputable def optQ (o:Option Bool) (Q:Bool→Prop):Prop:=oE o Q
noncomputable def memO (x:V) (o:Option O):Option Bool:=match o with
 | some (.list ys)=>memV x ys
 | _=>none
noncomputable def memR (x y:V) (H:Hp) (Q:Bool→Prop):Prop:=iR y fun b=>oE (memO x (H b)) Q
noncomputable def isN (v:V):Option Bool:=match v with
 | .none=>some true
 | .ref _=>some false
 | .int _=>some false
 | _=>none
noncomputable def isNone (v:V) (P:Prop):Prop:=@V.casesOn (fun _=>Prop) v P (fun _=>False) (fun _=>False) (fun _=>False) (fun _=>False) (fun _=>False) (fun _=>False) (fun _=>False) (fun _=>False)
noncomputable def ltV (x y:V) (K1:Int→Int→Prop) (K2:List UInt8→List UInt8→Prop):Prop:=match x with
 | .int a=>iI y (K1 a)
 | .bytes a=>iB y (K2 a)
 | _=>False
noncomputable def cmpop (op:CmpOp) (x y:V) (H:Hp) (Q:Bool→Prop):Prop:=match op with
 | .Eq=>oE (eqV x y H) Q
 | .NotEq=>oE (eqV x y H) fun b=>Q (!b)
 | .In=>memR x y H Q
 | .NotIn=>memR x y H fun c=>Q (!c)
 | .IsNot=>isNone y (oE (isN x) fun b=>Q (!b))
 | .Is=>isNone y (oE (isN x) Q)
 | .Lt=>ltV x y (fun a b=>Q (decide (a<b))) fun a b=>Q (bltB a b)
 | .Gt=>ltV x y (fun a b=>Q (decide (b<a))) fun a b=>Q (bltB b a)
 | .LtE=>iI x fun a=>iI y fun b=>Q (decide (a≤b))
 | .GtE=>iI x fun a=>iI y fun b=>Q (decide (b≤a))
noncomputable def pyIx (i:Int) (n:Nat):Option Nat:=if 0≤i∧i<n then some i.toNat else if i<0∧0≤i+n then some (i+n).toNat else none
noncomputable def at? (xs:List V) (i:Int):Option V:=match pyIx i xs.length with | some k=>xs[k]? | none=>none
noncomputable def atB? (xs:List UInt8) (i:Int):Option UInt8:=match pyIx i xs.length with | some k=>xs[k]? | none=>none
noncomputable def atO (o:Option O) (i:Int):Option V:=match oA o with
 | some xs=>at? xs i
 | none=>none
noncomputable def indexop (o i:V) (H:Hp) (Q:V→Hp→Prop):Prop:=match o with
 | .ref a=>iI i fun k=>oE (atO (H a) k) fun v=>Q v H
 | .bytes b=>iI i fun k=>oE (atB? b k) fun c=>Q (.int c.toNat) H
 | _=>False
noncomputable def partI:V→Option (Option Int)
 | .none=>some none
 | .int i=>some (some i)
 | _=>none
noncomputable def cutOf {α:Type} (xs:List α) (lo hi:Option Int):List α :=
 (xs.drop (lo.elim 0 (clipAt xs.length))).take (hi.elim xs.length (clipAt xs.length)-lo.elim 0 (clipAt xs.length))
noncomputable def sliceop (o l u:V) (H:Hp) (Q:V→Hp→Prop):Prop:=oE (partI l) fun lo=>oE (partI u) fun hi=>match o with
 | .ref a=>oE (oL (H a)) fun xs=>∀ c,H c=none→Q (.ref c) (upd H c (.list (cutOf xs lo hi)))
 | .bytes b=>Q (.bytes (cutOf b lo hi)) H
 | _=>False
noncomputable def lenR (o:Option O):Option Nat:=(oS o).map List.length
noncomputable def lenOf (v:V) (H:Hp):Option Nat:=match v with
 | .bytes b=>some b.length
 | .ref a=>lenR (H a)
 | _=>none
noncomputable def octs (ns:List Int):Prop:=∀ i∈ns,0≤i∧i<256
noncomputable def ofOcts (ns:List Int):List UInt8:=ns.map fun i=>UInt8.ofNat i.toNat
noncomputable def toOcts (b:List UInt8):List Int:=b.map fun c=>(c.toNat:Int)
noncomputable def vInts (ns:List Int):List V:=ns.map V.int
noncomputable def isBytesL:List V→Option (List (List UInt8))
 | []=>some []
 | .bytes b::r=>(isBytesL r).map (b::·)
 | _::_=>none
noncomputable def SortedOf (xs ys:List (List UInt8)):Prop:=ys.Perm xs∧ys.Pairwise fun a b=>bltB b a=false
noncomputable def bO (b:Bool) (r:Bool) (o:Option Bool):Option Bool:=match b with
 | true=>some r
 | false=>o
noncomputable def isOf (v:V) (n:String):Option Bool:=match v with
 | .none=>bO (n == "int" || (n == "bytes" || n == "bool")) false none
 | .int _=>bO (n == "int") true (bO (n == "bytes" || n == "bool") false none)
 | .bytes _=>bO (n == "bytes") true (bO (n == "int") false none)
 | _=>none
theorem bO_e {b r c:Bool} {o:Option Bool} (h:bO b r o=some c):b=true∧r=c∨o=some c:=by
 cases b with
 | true=>exact .inl ⟨rfl,Option.some.inj h⟩
 | false=>exact .inr h
noncomputable def ord1 (b:List UInt8) (K:UInt8→Prop):Prop:=match b with
 | []=>False
 | c::r=>(match r with
  | []=>K c
  | _::_=>False)
theorem ord1_e {b:List UInt8} {K:UInt8→Prop} (h:ord1 b K):∃ c,b=[c]∧K c:=by
 obtain _ | ⟨c,_ | _⟩:=b
 ·exact False.elim h
 ·exact ⟨c,rfl,h⟩
 ·exact False.elim h
theorem it_e {c A B R:Prop} [Decidable c] (h:if c then A else B) (x:c→A→R) (y:B→R):R :=
 if e:c then x e (by rwa [if_pos e] at h) else y (by rwa [if_neg e] at h)
noncomputable def builtinCall (n:String) (vs:List V) (H:Hp) (Q:V→Hp→Prop):Prop :=
 if n = "len" then l1 vs fun v=>oE (lenOf v H) fun k=>Q (.int k) H
 else if n = "divmod" then l2 vs fun v w=>iI v fun a=>iI w fun b=>(0<b∧b<DIV)∧∀ c,H c=none→Q (.ref c) (upd H c (.tuple [.int (a/b),.int (a%b)]))
 else if n = "max" then l2 vs fun v w=>iI v fun a=>iI w fun b=>Q (.int (max a b)) H
 else if n = "sum" then l1 vs fun v=>iR v fun a=>oE (oL (H a)) fun xs=>oE (isInts xs) fun ns=>Q (.int ns.sum) H
 else if n = "ord" then l1 vs fun v=>iB v fun b=>ord1 b fun c=>Q (.int c.toNat) H
 else if n = "isinstance" then l2 vs fun v w=>iT w fun t=>oE (isOf v t) fun b=>Q (.bool b) H
 else if n = "sorted" then l1 vs fun v=>iR v fun a=>oE (oL (H a)) fun xs=>oE (isBytesL xs) fun bs=>bs.length≤8∧∀ c ys,H c=none→SortedOf bs ys→Q (.ref c) (upd H c (.list (ys.map V.bytes)))
 else False
noncomputable def bytesO (o:Option O) (Q:List UInt8→Prop):Prop:=match o with
 | some (.list xs)=>oE (isInts xs) fun ns=>octs ns∧Q (ofOcts ns)
 | some (.barr b)=>Q b
 | _=>False
noncomputable def typeCall (n:String) (vs:List V) (H:Hp) (Q:V→Hp→Prop):Prop :=
 if n = "bytes" then l1 vs fun v=>(match v with
  | .ref a=>bytesO (H a) fun b=>Q (.bytes b) H
  | .bytes b=>Q (.bytes b) H
  | _=>False)
 else if n = "bytearray" then (match vs with
  | []=>∀ c,H c=none→Q (.ref c) (upd H c (.barr []))
  | v::r=>l1 (v::r) fun v=>iR v fun a=>oE (oL (H a)) fun xs=>oE (isInts xs) fun ns=>octs ns∧∀ c,H c=none→Q (.ref c) (upd H c (.barr (ofOcts ns))))
 else if n = "list" then l1 vs fun v=>(match v with
  | .bytes b=>∀ c,H c=none→Q (.ref c) (upd H c (.list (vInts (toOcts b))))
  | .ref a=>oE (oBa (H a)) fun b=>∀ c,H c=none→Q (.ref c) (upd H c (.list (vInts (toOcts b))))
  | _=>False)
 else False
inductive Mk where
 | append | insert | extend | bappend
noncomputable def rcO (name:Str) (o:Option O):Option Mk:=match o with
 | some (.list _)=>if name=("append" : Str) then some .append else if name=("insert" : Str) then some .insert else if name=("extend" : Str) then some .extend else none
 | some (.barr _)=>if name=("append" : Str) then some .bappend else none
 | _=>none
noncomputable def recv (name:Str) (o:V) (H:Hp):Option Mk:=match o with
 | .ref a=>rcO name (H a)
 | _=>none
noncomputable def methop (k:Mk) (o:V) (vs:List V) (H:Hp) (Q:V→Hp→Prop):Prop:=iR o fun a=>match k with
 | .append=>oE (oL (H a)) fun xs=>l1 vs fun v=>xs.length<SZ∧Q .none (upd H a (.list (xs++[v])))
 | .insert=>oE (oL (H a)) fun xs=>l2 vs fun z v=>iI z fun i=>gd (i == 0) (xs.length<SZ∧Q .none (upd H a (.list (v::xs))))
 | .extend=>oE (oL (H a)) fun xs=>l1 vs fun w=>iR w fun b=>oE (oL (H b)) fun ys=>xs.length+ys.length≤SZ∧Q .none (upd H a (.list (xs++ys)))
 | .bappend=>oE (oBa (H a)) fun b=>l1 vs fun v=>iI v fun i=>(b.length<SZ∧0≤i∧i<256)∧Q .none (upd H a (.barr (b++[UInt8.ofNat i.toNat])))
set_option genInjectivity false in
structure Ge where
 kinds:List (Nat×NameKind)
 globs:List (Nat×V)
 gam:Nat→Option Spec
 fnv:Addr→Option Spec
 forms:Addr→Option Int
 hd:Bool
 ba:Bool
noncomputable def kdV (kd:Option NameKind) (a b:Option V):Option V:=match kd with
 | some kd=>(match kd with
  | .globalImplicit=>a
  | .globalExplicit=>none
  | _=>b)
 | none=>none
noncomputable def nameR (g:Ge) (x:Str) (m:Loc):Option V:=match nmc x with
 | some k=>kdV (g.kinds.lookup k) (g.globs.lookup k) (m.lookup k)
 | none=>none
noncomputable def nameV (g:Ge) (x:Str) (m:Loc) (Q:V→Prop):Prop:=oE (nameR g x m) Q
noncomputable def callop (g:Ge) (f:V) (vs:List V) (H:Hp) (Q:QE) (X:XE):Prop:=match f with
 | .bi n=>builtinCall n vs H Q
 | .ty n=>typeCall n vs H Q
 | .gl k=>oE (g.gam k) fun sp=>sp vs H Q X
 | .ref a=>oE (g.fnv a) fun sp=>sp vs H Q X
 | _=>False
noncomputable def attrop (g:Ge) (o:V) (name:Str) (Q:V→Prop):Prop:=iR o fun a=>oE (nmc name) fun k=>gd (k == 77) (oE (g.forms a) fun n=>Q (.int n))
inductive It where
 | one (v:V)
 | two (i:Int) (v:V)
noncomputable def only (H:Hp) (a:Addr):Hp:=fun b=>if b=a then H a else none
noncomputable def noH:Hp:=fun _=>none
noncomputable def itemsOf (v:V) (H:Hp) (K:List It→Hp→Prop):Prop:=iR v fun a=>oE (oLT (H a)) fun xs=>K (xs.map .one) (only H a)
noncomputable def enumOf (i:Int):List V→List It
 | []=>[]
 | v::r=>.two i v::enumOf (i+1) r
noncomputable def rangeOf (lo hi:Int):List It:=(List.range (hi-lo).toNat).map fun (k:Nat)=>It.one (.int (lo+(k:Int)))
noncomputable def rangeV (vs:List V) (K:List It→Prop):Prop:=match vs with
 | []=>False
 | v::r=>(match r with
  | []=>iI v fun hi=>(-1000000000000000000<hi∧hi<1000000000000000000)∧K (rangeOf 0 hi)
  | w::r=>l1 (w::r) fun w=>iI v fun lo=>iI w fun hi=>(-1000000000000000000<lo∧lo<1000000000000000000∧-1000000000000000000<hi∧hi<1000000000000000000)∧K (rangeOf lo hi))
noncomputable def enumV (vs:List V) (H:Hp) (K:List It→Hp→Prop):Prop:=l1 vs fun v=>iR v fun a=>oE (oL (H a)) fun xs=>K (enumOf 0 xs) (only H a)
inductive ItKind where
 | range | enum | plain
noncomputable def itT (a b:Bool):ItKind:=match a with
 | true=>.range
 | false=>(match b with
  | true=>.enum
  | false=>.plain)
noncomputable def itV (kd:Option NameKind) (o:Option V):ItKind:=match kd with
 | some .globalImplicit=>(match o with
  | some (.ty n)=>itT (n == "range") (n == "enumerate")
  | _=>.plain)
 | _=>.plain
noncomputable def itK (o:Option Nat) (K:Nat→ItKind):ItKind:=match o with
 | some k=>K k
 | none=>.plain
noncomputable def nmX (e:Expr):Option Str:=match e with
 | .Name x _=>some x
 | _=>none
theorem nmX_e {e:Expr} {x:Str} (h:nmX e=some x):∃ p,e = .Name x p:=by
 cases e with
 | Name y p=>exact ⟨p,congrArg (Expr.Name · p) (Option.some.inj h)⟩
 | _=>contradiction
noncomputable def tuX (e:Expr):Option (List Expr):=match e with
 | .Tuple es _ _=>some es
 | _=>none
theorem tuX_e {e:Expr} {es:List Expr} (h:tuX e=some es):∃ c p,e = .Tuple es c p:=by
 cases e with
 | Tuple _ c p=>exact ⟨c,p,congrArg (Expr.Tuple · c p) (Option.some.inj h)⟩
 | _=>contradiction
noncomputable def itX (g:Ge) (o:Option Str):ItKind:=match o with
 | some x=>itK (nmc x) fun k=>itV (g.kinds.lookup k) (g.globs.lookup k)
 | none=>.plain
noncomputable def itKind (g:Ge) (f:Expr):ItKind:=itX g (nmX f)
noncomputable def isLoc (kd:Option NameKind):Bool:=match kd with
 | some .local=>true
 | _=>false
theorem isLoc_e {kd:Option NameKind} (h:isLoc kd=true):kd=some .local:=by
 cases kd with
 | none=>contradiction
 | some k=>cases k<;>first | rfl | contradiction
noncomputable def nmL (g:Ge) (x:Str) (K:Nat→Prop):Prop:=oE (nmc x) fun k=>gd (isLoc (g.kinds.lookup k)) (K k)
theorem nmL_e {g:Ge} {x:Str} {K:Nat→Prop} (h:nmL g x K):∃ k,nmc x=some k∧g.kinds.lookup k=some .local∧K k:=by
 obtain ⟨k,e,h⟩:=oE_e h
 exact ⟨k,e,isLoc_e (gd_e h).1,(gd_e h).2⟩
theorem nmL_i {g:Ge} {x:Str} {k:Nat} {K:Nat→Prop} (e:nmc x=some k) (l:g.kinds.lookup k=some .local) (h:K k):nmL g x K:=oE_i e (by rw [l];exact h)
noncomputable def e2 (es:List Expr) (K:Expr→Expr→Prop):Prop:=match es with
 | []=>False
 | a::r=>(match r with
  | []=>False
  | b::r=>(match r with
   | []=>K a b
   | _::_=>False))
theorem e2_e {es:List Expr} {K:Expr→Expr→Prop} (h:e2 es K):∃ a b,es=[a,b]∧K a b:=by
 obtain _ | ⟨v,_ | ⟨x,_ | _⟩⟩:=es
 ·exact False.elim h
 ·exact False.elim h
 ·exact ⟨v,x,rfl,h⟩
 ·exact False.elim h
noncomputable def bind2 (g:Ge) (x y:Str) (u v:V) (m:Loc) (K:Loc→Prop):Prop:=nmL g x fun k=>nmL g y fun l=>K ((l,v)::(k,u)::m)
noncomputable def it1 (it:It) (K:V→Prop):Prop:=match it with
 | .one v=>K v
 | _=>False
theorem it1_e {it:It} {K:V→Prop} (h:it1 it K):∃ v,it = .one v∧K v:=by
 cases it with
 | one v=>exact ⟨v,rfl,h⟩
 | two _ _=>exact False.elim h
noncomputable def bindT (g:Ge) (es:List Expr) (it:It) (m:Loc) (H:Hp) (K:Loc→Prop):Prop:=e2 es fun a b=>oE (nmX a) fun x=>oE (nmX b) fun y=>match it with
 | .two i v=>bind2 g x y (.int i) v m K
 | .one v=>iR v fun a=>oE (oT (H a)) fun ts=>l2 ts fun u w=>bind2 g x y u w m K
noncomputable def bindX (g:Ge) (o:Option Str) (t:Expr) (it:It) (m:Loc) (H:Hp) (K:Loc→Prop):Prop:=match o with
 | some x=>it1 it fun v=>nmL g x fun k=>K ((k,v)::m)
 | none=>oE (tuX t) fun es=>bindT g es it m H K
noncomputable def bindIt (g:Ge) (t:Expr) (it:It) (m:Loc) (H:Hp) (K:Loc→Prop):Prop:=bindX g (nmX t) t it m H K
end DL
end
namespace DL
noncomputable def kindsOf (sc:Scope):List (Nat×NameKind):=sc.names.filterMap fun x=>(nmc x.1).map fun k=>(k,x.2)
noncomputable def isFree:Option NameKind→Bool
 | some .free=>true
 | _=>false
noncomputable def isCellK:Option NameKind→Bool
 | some .cell=>true
 | some .free=>true
 | _=>false
noncomputable def pick (ks:List (Nat×NameKind)) (m:Loc):Loc:=m.filter fun p=>isFree (ks.lookup p.1)
noncomputable def goodName (x:Str):Bool:=(nmc x).isSome&&!(x == ("__debug__" : Str))&&!(x == ("__classdict__" : Str))
noncomputable def compNames (sc:Scope):Bool:=(sc.kind == .function)&&sc.names.all fun x=>goodName x.1&&(sc.names.lookup x.1 == some x.2)&&(x.2 == .local||x.2 == .globalImplicit||x.2 == .free)
noncomputable def freesIn (g:Ge) (m:Loc) (l:List (Nat×NameKind)):Bool:=l.all fun p=>!isFree (some p.2)||((m.lookup p.1).isSome&&isCellK (g.kinds.lookup p.1))
noncomputable def isSlice:Expr→Bool
 | .Slice ..=>true
 | _=>false
noncomputable def isAttr:Expr→Bool
 | .Attribute ..=>true
 | _=>false
noncomputable def isName (e:Expr):Bool:=(nmX e).isSome
noncomputable def posOk (f:Expr) (pos:Pos):Bool:=match f with
 | .Attribute _ _ apos=>apos.endLine == pos.line
 | _=>true
noncomputable def iterKind (g:Ge):Expr→ItKind
 | .Call f _ _ _=>itKind g f
 | _=>.plain
noncomputable def notStar (e:Expr):Bool:=match e with
 | .Starred ..=>false
 | _=>true
noncomputable def noStar (es:List Expr):Bool:=es.all notStar
noncomputable def Ge.bare (g:Ge):Ge:={ g with gam:=fun _=>none,fnv:=fun _=>none,ba:=false }
noncomputable def mkOk (g:Ge):Mk→Bool
 | .bappend=>g.ba
 | _=>true
noncomputable def callable (g:Ge):V→Bool
 | .bi _=>true
 | .ty n=>n != "bytearray" || g.ba
 | .gl k=>(g.gam k).isSome
 | .ref a=>(g.fnv a).isSome
 | _=>false
mutual
noncomputable def wE:Expr→Ge→Loc→Hp→QE→XE→Prop
 | .Constant c _ _,_,_,H,Q,_=>constV c fun v=>Q v H
 | .Name x _,g,m,H,Q,_=>nameV g x m fun v=>Q v H
 | .BinOp l op r _,g,m,H,Q,X=>wE l g m H (fun a H1=>wE r g m H1 (fun b H2=>binop op a b H2 Q) X) X
 | .UnaryOp op e _,g,m,H,Q,X=>wE e g m H (fun a H1=>unop op a H1 Q) X
 | .BoolOp op es _,g,m,H,Q,X=>wB es op g m H Q X
 | .IfExp t a b _,g,m,H,Q,X=>wE t g m H (fun v H1=>truthyV v H1 fun c=>if c then wE a g m H1 Q X else wE b g m H1 Q X) X
 | .Compare l ops rs _,g,m,H,Q,X=>gd (!lastMarks ops rs) (wE l g m H (fun a H1=>wC rs a ops g m H1 Q X) X)
 | .List es _,g,m,H,Q,X=>wL es g m H (fun vs H1=>gd (nB vs.length) (∀ a,H1 a=none→Q (.ref a) (upd H1 a (.list vs)))) X
 | .Tuple es _ _,g,m,H,Q,X=>wL es g m H (fun vs H1=>gd (nB vs.length) (∀ a,H1 a=none→Q (.ref a) (upd H1 a (.tuple vs)))) X
 | .Subscript o i _,g,m,H,Q,X=>wE o g m H (fun ov H1=>match isSlice i with
   | true=>wSl i g m H1 (fun l u H2=>sliceop ov l u H2 Q) X
   | false=>wE i g m H1 (fun iv H2=>indexop ov iv H2 Q) X) X
 | .Call f args kws pos,g,m,H,Q,X=>gd (kws.isEmpty&&(g.hd&&(posOk f pos&&(nB args.length&&noStar args)))) (match isAttr f with
   | true=>wAt f g m H (fun name ov H1=>oE (recv name ov H1) fun k=>gd (mkOk g k) (wL args g m H1 (fun vs H2=>methop k ov vs H2 Q) X)) X
   | false=>wE f g m H (fun fv H1=>gd (callable g fv) (wL args g m H1 (fun vs H2=>callop g fv vs H2 Q X) X)) X)
 | .Attribute o name _,g,m,H,Q,X=>gd (isName o) (wE o g m H (fun ov H1=>attrop g ov name fun v=>Q v H1) X)
 | .ListComp elt gens sc _,g,m,H,Q,_=>(match gens with
  | []=>False
  | c::more=>gd (g.hd&&more.isEmpty) (compNames sc=true∧gd (freesIn g.bare m (kindsOf sc)) (wG c g.bare m H (fun its _ H1=>its.length≤SZ∧∃ f:It→Option V,(∀ it∈its,wGi c { g.bare with kinds:=kindsOf sc } it (pick (kindsOf sc) m) H1 (fun ok m'=>if ok then wE elt { g.bare with kinds:=kindsOf sc } m' H1 (fun v H2=>H2=H1∧f it=some v) (fun _ _=>False) else f it=none)) ∧
    ∀ a,H1 a=none→Q (.ref a) (upd H1 a (.list (its.filterMap f)))))))
 | _,_,_,_,_,_=>False
noncomputable def wL:List Expr→Ge→Loc→Hp→(List V→Hp→Prop)→XE→Prop
 | [],_,_,H,Q,_=>Q [] H
 | e::r,g,m,H,Q,X=>wE e g m H (fun v H1=>wL r g m H1 (fun vs H2=>Q (v::vs) H2) X) X
noncomputable def wB:List Expr→BoolOp→Ge→Loc→Hp→QE→XE→Prop
 | [],_,_,_,_,_,_=>False
 | e::r,op,g,m,H,Q,X=>wE e g m H (fun v H1=>match r with
  | []=>Q v H1
  | _::_=>truthyV v H1 fun b=>(match op with
   | .And=>if b then wB r op g m H1 Q X else Q v H1
   | .Or=>if b then Q v H1 else wB r op g m H1 Q X)) X
noncomputable def wC:List Expr→V→List CmpOp→Ge→Loc→Hp→QE→XE→Prop
 | [],_,_,_,_,_,_,_=>False
 | e::r,a,ops,g,m,H,Q,X=>(match ops with
  | []=>False
  | op::ops'=>gd (ops'.isEmpty == r.isEmpty) (wE e g m H (fun b H1=>cmpop op a b H1 fun c=>(match r with
   | []=>Q (.bool c) H1
   | _::_=>if c then wC r b ops' g m H1 Q X else Q (.bool false) H1)) X))
noncomputable def wO:Option Expr→Ge→Loc→Hp→QE→XE→Prop
 | none,_,_,H,Q,_=>Q .none H
 | some e,g,m,H,Q,X=>wE e g m H Q X
noncomputable def wG:Comprehension→Ge→Loc→Hp→(List It→Hp→Hp→Prop)→Prop
 | ⟨_,iter,_,asy⟩,g,m,H,K=>gd (asy == 0) (match iterKind g iter with
  | .range=>wIt iter g m H (fun vs H1=>rangeV vs fun its=>K its noH H1)
  | .enum=>wIt iter g m H (fun vs H1=>enumV vs H1 fun its Hs=>K its Hs H1)
  | .plain=>wE iter g m H (fun v H1=>itemsOf v H1 fun its Hs=>K its Hs H1) (fun _ _=>False))
noncomputable def wIt:Expr→Ge→Loc→Hp→(List V→Hp→Prop)→Prop
 | .Call _ args kws _,g,m,H,K=>gd (kws.isEmpty&&(g.hd&&noStar args)) (wL args g m H K (fun _ _=>False))
 | _,_,_,_,_=>False
noncomputable def wSl:Expr→Ge→Loc→Hp→(V→V→Hp→Prop)→XE→Prop
 | .Slice lo hi st _,g,m,H,K,X=>gd st.isNone (wO lo g m H (fun l H2=>wO hi g m H2 (fun u H3=>K l u H3) X) X)
 | _,_,_,_,_,_=>False
noncomputable def wAt:Expr→Ge→Loc→Hp→(Str→V→Hp→Prop)→XE→Prop
 | .Attribute o name _,g,m,H,K,X=>gd (isName o) (wE o g m H (fun ov H1=>K name ov H1) X)
 | _,_,_,_,_,_=>False
noncomputable def wGi:Comprehension→Ge→It→Loc→Hp→(Bool→Loc→Prop)→Prop
 | ⟨tgt,_,ifs,_⟩,g,it,m,H,K=>bindIt g tgt it m H fun m'=>(match ifs with
  | []=>K true m'
  | t::more=>gd more.isEmpty (wE t g m' H (fun v H1=>truthyV v H1 fun b=>H1=H∧K b m') (fun _ _=>False)))
end
end DL
section
namespace DL
theorem n1:Nonempty V:=⟨.none⟩
theorem n2:Nonempty O:=⟨.list []⟩
theorem n3:Nonempty Exn:=⟨.assertion⟩
theorem n4:Nonempty Mk:=⟨.append⟩
theorem n5:Nonempty It:=⟨.one .none⟩
theorem n6:Nonempty ItKind:=⟨.plain⟩
theorem n7:Nonempty Around:=⟨{}⟩
theorem n8:Nonempty Env:=by constructor;constructor<;>first | exact default | exact none | exact [] | exact 0 | exact false
theorem n9:Nonempty Obj:=by constructor;constructor<;>first | exact default | exact none | exact [] | exact 0 | exact false
theorem n10:Nonempty Program:=by constructor;constructor<;>first | exact default | exact none | exact [] | exact 0 | exact false
theorem n11:Nonempty OsState:=by constructor;constructor<;>first | exact default | exact none | exact [] | exact 0 | exact false
theorem n12:Nonempty PySem.World:=⟨{ draws:=fun _ _=>0,params:={ strHash:=fun _=>0,shareClass:=fun _=>0,mergeTok:=id,idOf:=fun _=>0,idOfShared:=fun _ _=>8,followText:=fun _=>false,idOfImm:=fun _=>16 } }⟩
theorem n13:Nonempty Cx :=
 n12.elim fun a=>n10.elim fun b=>n7.elim fun c=>n8.elim fun d=>n11.elim fun e =>
  ⟨⟨a,b,fun _=>none,fun _=>none,c,d,[],[],e,0,false⟩⟩
theorem n14:Nonempty Ge:=⟨⟨[],[],fun _=>none,fun _=>none,fun _=>none,false,false⟩⟩
theorem n15:Nonempty Shared:=⟨{}⟩
theorem n16:Nonempty Model:=n10.elim fun b=>n12.elim fun a=>⟨model b a⟩
theorem n17:Nonempty Drawn:=⟨{}⟩
theorem n18:Nonempty PyData:=⟨.none⟩
theorem nn {α:Type} (h:α=Cx∨α=V∨α=O∨α=Shared∨α=PySem.World∨α=Program∨α=Env∨α=Obj∨α=Ge∨α=It∨α=Exn∨α=Mk∨α=ItKind∨α=Around∨α=OsState∨α=Model∨α=Drawn∨α=PyData):Nonempty α:=by
 rcases h with rfl | rfl | rfl | rfl | rfl | rfl | rfl | rfl | rfl | rfl | rfl | rfl | rfl | rfl | rfl | rfl | rfl | rfl
 ·exact n13
 ·exact n1
 ·exact n2
 ·exact n15
 ·exact n12
 ·exact n10
 ·exact n8
 ·exact n9
 ·exact n14
 ·exact n5
 ·exact n3
 ·exact n4
 ·exact n6
 ·exact n7
 ·exact n11
 ·exact n16
 ·exact n17
 ·exact n18
theorem dk {α:Type} [Nonempty α] (q:α→Prop):∃ c:α,q c→∀ x,q x :=
 (Classical.em (∃ c:α,¬ q c)).elim (fun h=>h.elim fun c h=>⟨c,fun k=>absurd k h⟩) fun h=>⟨Classical.choice ‹_›,fun _ x=>Classical.byContradiction fun k=>h ⟨x,k⟩⟩
noncomputable def wi {α:Type} [Nonempty α] (q:α→Prop):α:=Classical.choose (dk q)
theorem al {α:Type} [Nonempty α] {q:α→Prop} (h:q (wi q)):∀ x,q x:=Classical.choose_spec (dk q) h
noncomputable def ap2 {A1 A2:Type} (q:A1→A2→Prop) (t:A1×A2):Prop:=q t.1 t.2
theorem al2 {A1 A2:Type} [Nonempty (A1×A2)] {q:A1→A2→Prop} (h:(fun t=>q t.1 t.2) (wi (ap2 q))) x1 x2:q x1 x2:=al (q:=ap2 q) h (x1,x2)
noncomputable def ap3 {A1 A2 A3:Type} (q:A1→A2→A3→Prop) (t:A1×A2×A3):Prop:=ap2 (q t.1) t.2
theorem al3 {A1 A2 A3:Type} [Nonempty (A1×A2×A3)] {q:A1→A2→A3→Prop} (h:(fun t=>q t.1 t.2.1 t.2.2) (wi (ap3 q))) x1 x2 x3:q x1 x2 x3:=al (q:=ap3 q) h (x1,x2,x3)
noncomputable def ap4 {A1 A2 A3 A4:Type} (q:A1→A2→A3→A4→Prop) (t:A1×A2×A3×A4):Prop:=ap3 (q t.1) t.2
theorem al4 {A1 A2 A3 A4:Type} [Nonempty (A1×A2×A3×A4)] {q:A1→A2→A3→A4→Prop} (h:(fun t=>q t.1 t.2.1 t.2.2.1 t.2.2.2) (wi (ap4 q))) x1 x2 x3 x4:q x1 x2 x3 x4:=al (q:=ap4 q) h (x1,x2,x3,x4)
noncomputable def ap5 {A1 A2 A3 A4 A5:Type} (q:A1→A2→A3→A4→A5→Prop) (t:A1×A2×A3×A4×A5):Prop:=ap4 (q t.1) t.2
theorem al5 {A1 A2 A3 A4 A5:Type} [Nonempty (A1×A2×A3×A4×A5)] {q:A1→A2→A3→A4→A5→Prop} (h:(fun t=>q t.1 t.2.1 t.2.2.1 t.2.2.2.1 t.2.2.2.2) (wi (ap5 q))) x1 x2 x3 x4 x5:q x1 x2 x3 x4 x5:=al (q:=ap5 q) h (x1,x2,x3,x4,x5)
noncomputable def ap6 {A1 A2 A3 A4 A5 A6:Type} (q:A1→A2→A3→A4→A5→A6→Prop) (t:A1×A2×A3×A4×A5×A6):Prop:=ap5 (q t.1) t.2
theorem al6 {A1 A2 A3 A4 A5 A6:Type} [Nonempty (A1×A2×A3×A4×A5×A6)] {q:A1→A2→A3→A4→A5→A6→Prop} (h:(fun t=>q t.1 t.2.1 t.2.2.1 t.2.2.2.1 t.2.2.2.2.1 t.2.2.2.2.2) (wi (ap6 q))) x1 x2 x3 x4 x5 x6:q x1 x2 x3 x4 x5 x6:=al (q:=ap6 q) h (x1,x2,x3,x4,x5,x6)
noncomputable def ap7 {A1 A2 A3 A4 A5 A6 A7:Type} (q:A1→A2→A3→A4→A5→A6→A7→Prop) (t:A1×A2×A3×A4×A5×A6×A7):Prop:=ap6 (q t.1) t.2
theorem al7 {A1 A2 A3 A4 A5 A6 A7:Type} [Nonempty (A1×A2×A3×A4×A5×A6×A7)] {q:A1→A2→A3→A4→A5→A6→A7→Prop} (h:(fun t=>q t.1 t.2.1 t.2.2.1 t.2.2.2.1 t.2.2.2.2.1 t.2.2.2.2.2.1 t.2.2.2.2.2.2) (wi (ap7 q))) x1 x2 x3 x4 x5 x6 x7:q x1 x2 x3 x4 x5 x6 x7:=al (q:=ap7 q) h (x1,x2,x3,x4,x5,x6,x7)
noncomputable def ap8 {A1 A2 A3 A4 A5 A6 A7 A8:Type} (q:A1→A2→A3→A4→A5→A6→A7→A8→Prop) (t:A1×A2×A3×A4×A5×A6×A7×A8):Prop:=ap7 (q t.1) t.2
theorem al8 {A1 A2 A3 A4 A5 A6 A7 A8:Type} [Nonempty (A1×A2×A3×A4×A5×A6×A7×A8)] {q:A1→A2→A3→A4→A5→A6→A7→A8→Prop} (h:(fun t=>q t.1 t.2.1 t.2.2.1 t.2.2.2.1 t.2.2.2.2.1 t.2.2.2.2.2.1 t.2.2.2.2.2.2.1 t.2.2.2.2.2.2.2) (wi (ap8 q))) x1 x2 x3 x4 x5 x6 x7 x8:q x1 x2 x3 x4 x5 x6 x7 x8:=al (q:=ap8 q) h (x1,x2,x3,x4,x5,x6,x7,x8)
noncomputable def ap9 {A1 A2 A3 A4 A5 A6 A7 A8 A9:Type} (q:A1→A2→A3→A4→A5→A6→A7→A8→A9→Prop) (t:A1×A2×A3×A4×A5×A6×A7×A8×A9):Prop:=ap8 (q t.1) t.2
theorem al9 {A1 A2 A3 A4 A5 A6 A7 A8 A9:Type} [Nonempty (A1×A2×A3×A4×A5×A6×A7×A8×A9)] {q:A1→A2→A3→A4→A5→A6→A7→A8→A9→Prop} (h:(fun t=>q t.1 t.2.1 t.2.2.1 t.2.2.2.1 t.2.2.2.2.1 t.2.2.2.2.2.1 t.2.2.2.2.2.2.1 t.2.2.2.2.2.2.2.1 t.2.2.2.2.2.2.2.2) (wi (ap9 q))) x1 x2 x3 x4 x5 x6 x7 x8 x9:q x1 x2 x3 x4 x5 x6 x7 x8 x9:=al (q:=ap9 q) h (x1,x2,x3,x4,x5,x6,x7,x8,x9)
noncomputable def ap10 {A1 A2 A3 A4 A5 A6 A7 A8 A9 A10:Type} (q:A1→A2→A3→A4→A5→A6→A7→A8→A9→A10→Prop) (t:A1×A2×A3×A4×A5×A6×A7×A8×A9×A10):Prop:=ap9 (q t.1) t.2
theorem al10 {A1 A2 A3 A4 A5 A6 A7 A8 A9 A10:Type} [Nonempty (A1×A2×A3×A4×A5×A6×A7×A8×A9×A10)] {q:A1→A2→A3→A4→A5→A6→A7→A8→A9→A10→Prop} (h:(fun t=>q t.1 t.2.1 t.2.2.1 t.2.2.2.1 t.2.2.2.2.1 t.2.2.2.2.2.1 t.2.2.2.2.2.2.1 t.2.2.2.2.2.2.2.1 t.2.2.2.2.2.2.2.2.1 t.2.2.2.2.2.2.2.2.2) (wi (ap10 q))) x1 x2 x3 x4 x5 x6 x7 x8 x9 x10:q x1 x2 x3 x4 x5 x6 x7 x8 x9 x10:=al (q:=ap10 q) h (x1,x2,x3,x4,x5,x6,x7,x8,x9,x10)
noncomputable def ap11 {A1 A2 A3 A4 A5 A6 A7 A8 A9 A10 A11:Type} (q:A1→A2→A3→A4→A5→A6→A7→A8→A9→A10→A11→Prop) (t:A1×A2×A3×A4×A5×A6×A7×A8×A9×A10×A11):Prop:=ap10 (q t.1) t.2
theorem al11 {A1 A2 A3 A4 A5 A6 A7 A8 A9 A10 A11:Type} [Nonempty (A1×A2×A3×A4×A5×A6×A7×A8×A9×A10×A11)] {q:A1→A2→A3→A4→A5→A6→A7→A8→A9→A10→A11→Prop} (h:(fun t=>q t.1 t.2.1 t.2.2.1 t.2.2.2.1 t.2.2.2.2.1 t.2.2.2.2.2.1 t.2.2.2.2.2.2.1 t.2.2.2.2.2.2.2.1 t.2.2.2.2.2.2.2.2.1 t.2.2.2.2.2.2.2.2.2.1 t.2.2.2.2.2.2.2.2.2.2) (wi (ap11 q))) x1 x2 x3 x4 x5 x6 x7 x8 x9 x10 x11:q x1 x2 x3 x4 x5 x6 x7 x8 x9 x10 x11:=al (q:=ap11 q) h (x1,x2,x3,x4,x5,x6,x7,x8,x9,x10,x11)
noncomputable def ap12 {A1 A2 A3 A4 A5 A6 A7 A8 A9 A10 A11 A12:Type} (q:A1→A2→A3→A4→A5→A6→A7→A8→A9→A10→A11→A12→Prop) (t:A1×A2×A3×A4×A5×A6×A7×A8×A9×A10×A11×A12):Prop:=ap11 (q t.1) t.2
theorem al12 {A1 A2 A3 A4 A5 A6 A7 A8 A9 A10 A11 A12:Type} [Nonempty (A1×A2×A3×A4×A5×A6×A7×A8×A9×A10×A11×A12)] {q:A1→A2→A3→A4→A5→A6→A7→A8→A9→A10→A11→A12→Prop} (h:(fun t=>q t.1 t.2.1 t.2.2.1 t.2.2.2.1 t.2.2.2.2.1 t.2.2.2.2.2.1 t.2.2.2.2.2.2.1 t.2.2.2.2.2.2.2.1 t.2.2.2.2.2.2.2.2.1 t.2.2.2.2.2.2.2.2.2.1 t.2.2.2.2.2.2.2.2.2.2.1 t.2.2.2.2.2.2.2.2.2.2.2) (wi (ap12 q))) x1 x2 x3 x4 x5 x6 x7 x8 x9 x10 x11 x12:q x1 x2 x3 x4 x5 x6 x7 x8 x9 x10 x11 x12:=al (q:=ap12 q) h (x1,x2,x3,x4,x5,x6,x7,x8,x9,x10,x11,x12)
noncomputable def ap14 {A1 A2 A3 A4 A5 A6 A7 A8 A9 A10 A11 A12 A13 A14:Type} (q:A1→A2→A3→A4→A5→A6→A7→A8→A9→A10→A11→A12→A13→A14→Prop) (t:A1×A2×A3×A4×A5×A6×A7×A8×A9×A10×A11×A12×A13×A14):Prop:=ap12 (q t.1 t.2.1) t.2.2
theorem al14 {A1 A2 A3 A4 A5 A6 A7 A8 A9 A10 A11 A12 A13 A14:Type} [Nonempty (A1×A2×A3×A4×A5×A6×A7×A8×A9×A10×A11×A12×A13×A14)] {q:A1→A2→A3→A4→A5→A6→A7→A8→A9→A10→A11→A12→A13→A14→Prop} (h:(fun t=>q t.1 t.2.1 t.2.2.1 t.2.2.2.1 t.2.2.2.2.1 t.2.2.2.2.2.1 t.2.2.2.2.2.2.1 t.2.2.2.2.2.2.2.1 t.2.2.2.2.2.2.2.2.1 t.2.2.2.2.2.2.2.2.2.1 t.2.2.2.2.2.2.2.2.2.2.1 t.2.2.2.2.2.2.2.2.2.2.2.1 t.2.2.2.2.2.2.2.2.2.2.2.2.1 t.2.2.2.2.2.2.2.2.2.2.2.2.2) (wi (ap14 q))) x1 x2 x3 x4 x5 x6 x7 x8 x9 x10 x11 x12 x13 x14:q x1 x2 x3 x4 x5 x6 x7 x8 x9 x10 x11 x12 x13 x14:=al (q:=ap14 q) h (x1,x2,x3,x4,x5,x6,x7,x8,x9,x10,x11,x12,x13,x14)
noncomputable def ap16 {A1 A2 A3 A4 A5 A6 A7 A8 A9 A10 A11 A12 A13 A14 A15 A16:Type} (q:A1→A2→A3→A4→A5→A6→A7→A8→A9→A10→A11→A12→A13→A14→A15→A16→Prop) (t:A1×A2×A3×A4×A5×A6×A7×A8×A9×A10×A11×A12×A13×A14×A15×A16):Prop:=ap14 (q t.1 t.2.1) t.2.2
theorem al16 {A1 A2 A3 A4 A5 A6 A7 A8 A9 A10 A11 A12 A13 A14 A15 A16:Type} [Nonempty (A1×A2×A3×A4×A5×A6×A7×A8×A9×A10×A11×A12×A13×A14×A15×A16)] {q:A1→A2→A3→A4→A5→A6→A7→A8→A9→A10→A11→A12→A13→A14→A15→A16→Prop} (h:(fun t=>q t.1 t.2.1 t.2.2.1 t.2.2.2.1 t.2.2.2.2.1 t.2.2.2.2.2.1 t.2.2.2.2.2.2.1 t.2.2.2.2.2.2.2.1 t.2.2.2.2.2.2.2.2.1 t.2.2.2.2.2.2.2.2.2.1 t.2.2.2.2.2.2.2.2.2.2.1 t.2.2.2.2.2.2.2.2.2.2.2.1 t.2.2.2.2.2.2.2.2.2.2.2.2.1 t.2.2.2.2.2.2.2.2.2.2.2.2.2.1 t.2.2.2.2.2.2.2.2.2.2.2.2.2.2.1 t.2.2.2.2.2.2.2.2.2.2.2.2.2.2.2) (wi (ap16 q))) x1 x2 x3 x4 x5 x6 x7 x8 x9 x10 x11 x12 x13 x14 x15 x16:q x1 x2 x3 x4 x5 x6 x7 x8 x9 x10 x11 x12 x13 x14 x15 x16:=al (q:=ap16 q) h (x1,x2,x3,x4,x5,x6,x7,x8,x9,x10,x11,x12,x13,x14,x15,x16)
noncomputable def ap18 {A1 A2 A3 A4 A5 A6 A7 A8 A9 A10 A11 A12 A13 A14 A15 A16 A17 A18:Type} (q:A1→A2→A3→A4→A5→A6→A7→A8→A9→A10→A11→A12→A13→A14→A15→A16→A17→A18→Prop) (t:A1×A2×A3×A4×A5×A6×A7×A8×A9×A10×A11×A12×A13×A14×A15×A16×A17×A18):Prop:=ap16 (q t.1 t.2.1) t.2.2
theorem al18 {A1 A2 A3 A4 A5 A6 A7 A8 A9 A10 A11 A12 A13 A14 A15 A16 A17 A18:Type} [Nonempty (A1×A2×A3×A4×A5×A6×A7×A8×A9×A10×A11×A12×A13×A14×A15×A16×A17×A18)] {q:A1→A2→A3→A4→A5→A6→A7→A8→A9→A10→A11→A12→A13→A14→A15→A16→A17→A18→Prop} (h:(fun t=>q t.1 t.2.1 t.2.2.1 t.2.2.2.1 t.2.2.2.2.1 t.2.2.2.2.2.1 t.2.2.2.2.2.2.1 t.2.2.2.2.2.2.2.1 t.2.2.2.2.2.2.2.2.1 t.2.2.2.2.2.2.2.2.2.1 t.2.2.2.2.2.2.2.2.2.2.1 t.2.2.2.2.2.2.2.2.2.2.2.1 t.2.2.2.2.2.2.2.2.2.2.2.2.1 t.2.2.2.2.2.2.2.2.2.2.2.2.2.1 t.2.2.2.2.2.2.2.2.2.2.2.2.2.2.1 t.2.2.2.2.2.2.2.2.2.2.2.2.2.2.2.1 t.2.2.2.2.2.2.2.2.2.2.2.2.2.2.2.2.1 t.2.2.2.2.2.2.2.2.2.2.2.2.2.2.2.2.2) (wi (ap18 q))) x1 x2 x3 x4 x5 x6 x7 x8 x9 x10 x11 x12 x13 x14 x15 x16 x17 x18:q x1 x2 x3 x4 x5 x6 x7 x8 x9 x10 x11 x12 x13 x14 x15 x16 x17 x18:=al (q:=ap18 q) h (x1,x2,x3,x4,x5,x6,x7,x8,x9,x10,x11,x12,x13,x14,x15,x16,x17,x18)
noncomputable def ap20 {A1 A2 A3 A4 A5 A6 A7 A8 A9 A10 A11 A12 A13 A14 A15 A16 A17 A18 A19 A20:Type} (q:A1→A2→A3→A4→A5→A6→A7→A8→A9→A10→A11→A12→A13→A14→A15→A16→A17→A18→A19→A20→Prop) (t:A1×A2×A3×A4×A5×A6×A7×A8×A9×A10×A11×A12×A13×A14×A15×A16×A17×A18×A19×A20):Prop:=ap18 (q t.1 t.2.1) t.2.2
theorem al20 {A1 A2 A3 A4 A5 A6 A7 A8 A9 A10 A11 A12 A13 A14 A15 A16 A17 A18 A19 A20:Type} [Nonempty (A1×A2×A3×A4×A5×A6×A7×A8×A9×A10×A11×A12×A13×A14×A15×A16×A17×A18×A19×A20)] {q:A1→A2→A3→A4→A5→A6→A7→A8→A9→A10→A11→A12→A13→A14→A15→A16→A17→A18→A19→A20→Prop} (h:(fun t=>q t.1 t.2.1 t.2.2.1 t.2.2.2.1 t.2.2.2.2.1 t.2.2.2.2.2.1 t.2.2.2.2.2.2.1 t.2.2.2.2.2.2.2.1 t.2.2.2.2.2.2.2.2.1 t.2.2.2.2.2.2.2.2.2.1 t.2.2.2.2.2.2.2.2.2.2.1 t.2.2.2.2.2.2.2.2.2.2.2.1 t.2.2.2.2.2.2.2.2.2.2.2.2.1 t.2.2.2.2.2.2.2.2.2.2.2.2.2.1 t.2.2.2.2.2.2.2.2.2.2.2.2.2.2.1 t.2.2.2.2.2.2.2.2.2.2.2.2.2.2.2.1 t.2.2.2.2.2.2.2.2.2.2.2.2.2.2.2.2.1 t.2.2.2.2.2.2.2.2.2.2.2.2.2.2.2.2.2.1 t.2.2.2.2.2.2.2.2.2.2.2.2.2.2.2.2.2.2.1 t.2.2.2.2.2.2.2.2.2.2.2.2.2.2.2.2.2.2.2) (wi (ap20 q))) x1 x2 x3 x4 x5 x6 x7 x8 x9 x10 x11 x12 x13 x14 x15 x16 x17 x18 x19 x20:q x1 x2 x3 x4 x5 x6 x7 x8 x9 x10 x11 x12 x13 x14 x15 x16 x17 x18 x19 x20:=al (q:=ap20 q) h (x1,x2,x3,x4,x5,x6,x7,x8,x9,x10,x11,x12,x13,x14,x15,x16,x17,x18,x19,x20)
noncomputable def ap24 {A1 A2 A3 A4 A5 A6 A7 A8 A9 A10 A11 A12 A13 A14 A15 A16 A17 A18 A19 A20 A21 A22 A23 A24:Type} (q:A1→A2→A3→A4→A5→A6→A7→A8→A9→A10→A11→A12→A13→A14→A15→A16→A17→A18→A19→A20→A21→A22→A23→A24→Prop) (t:A1×A2×A3×A4×A5×A6×A7×A8×A9×A10×A11×A12×A13×A14×A15×A16×A17×A18×A19×A20×A21×A22×A23×A24):Prop:=ap20 (q t.1 t.2.1 t.2.2.1 t.2.2.2.1) t.2.2.2.2
theorem al24 {A1 A2 A3 A4 A5 A6 A7 A8 A9 A10 A11 A12 A13 A14 A15 A16 A17 A18 A19 A20 A21 A22 A23 A24:Type} [Nonempty (A1×A2×A3×A4×A5×A6×A7×A8×A9×A10×A11×A12×A13×A14×A15×A16×A17×A18×A19×A20×A21×A22×A23×A24)] {q:A1→A2→A3→A4→A5→A6→A7→A8→A9→A10→A11→A12→A13→A14→A15→A16→A17→A18→A19→A20→A21→A22→A23→A24→Prop} (h:(fun t=>q t.1 t.2.1 t.2.2.1 t.2.2.2.1 t.2.2.2.2.1 t.2.2.2.2.2.1 t.2.2.2.2.2.2.1 t.2.2.2.2.2.2.2.1 t.2.2.2.2.2.2.2.2.1 t.2.2.2.2.2.2.2.2.2.1 t.2.2.2.2.2.2.2.2.2.2.1 t.2.2.2.2.2.2.2.2.2.2.2.1 t.2.2.2.2.2.2.2.2.2.2.2.2.1 t.2.2.2.2.2.2.2.2.2.2.2.2.2.1 t.2.2.2.2.2.2.2.2.2.2.2.2.2.2.1 t.2.2.2.2.2.2.2.2.2.2.2.2.2.2.2.1 t.2.2.2.2.2.2.2.2.2.2.2.2.2.2.2.2.1 t.2.2.2.2.2.2.2.2.2.2.2.2.2.2.2.2.2.1 t.2.2.2.2.2.2.2.2.2.2.2.2.2.2.2.2.2.2.1 t.2.2.2.2.2.2.2.2.2.2.2.2.2.2.2.2.2.2.2.1 t.2.2.2.2.2.2.2.2.2.2.2.2.2.2.2.2.2.2.2.2.1 t.2.2.2.2.2.2.2.2.2.2.2.2.2.2.2.2.2.2.2.2.2.1 t.2.2.2.2.2.2.2.2.2.2.2.2.2.2.2.2.2.2.2.2.2.2.1 t.2.2.2.2.2.2.2.2.2.2.2.2.2.2.2.2.2.2.2.2.2.2.2) (wi (ap24 q))) x1 x2 x3 x4 x5 x6 x7 x8 x9 x10 x11 x12 x13 x14 x15 x16 x17 x18 x19 x20 x21 x22 x23 x24:q x1 x2 x3 x4 x5 x6 x7 x8 x9 x10 x11 x12 x13 x14 x15 x16 x17 x18 x19 x20 x21 x22 x23 x24:=al (q:=ap24 q) h (x1,x2,x3,x4,x5,x6,x7,x8,x9,x10,x11,x12,x13,x14,x15,x16,x17,x18,x19,x20,x21,x22,x23,x24)
noncomputable def ap28 {A1 A2 A3 A4 A5 A6 A7 A8 A9 A10 A11 A12 A13 A14 A15 A16 A17 A18 A19 A20 A21 A22 A23 A24 A25 A26 A27 A28:Type} (q:A1→A2→A3→A4→A5→A6→A7→A8→A9→A10→A11→A12→A13→A14→A15→A16→A17→A18→A19→A20→A21→A22→A23→A24→A25→A26→A27→A28→Prop) (t:A1×A2×A3×A4×A5×A6×A7×A8×A9×A10×A11×A12×A13×A14×A15×A16×A17×A18×A19×A20×A21×A22×A23×A24×A25×A26×A27×A28):Prop:=ap24 (q t.1 t.2.1 t.2.2.1 t.2.2.2.1) t.2.2.2.2
theorem al28 {A1 A2 A3 A4 A5 A6 A7 A8 A9 A10 A11 A12 A13 A14 A15 A16 A17 A18 A19 A20 A21 A22 A23 A24 A25 A26 A27 A28:Type} [Nonempty (A1×A2×A3×A4×A5×A6×A7×A8×A9×A10×A11×A12×A13×A14×A15×A16×A17×A18×A19×A20×A21×A22×A23×A24×A25×A26×A27×A28)] {q:A1→A2→A3→A4→A5→A6→A7→A8→A9→A10→A11→A12→A13→A14→A15→A16→A17→A18→A19→A20→A21→A22→A23→A24→A25→A26→A27→A28→Prop} (h:(fun t=>q t.1 t.2.1 t.2.2.1 t.2.2.2.1 t.2.2.2.2.1 t.2.2.2.2.2.1 t.2.2.2.2.2.2.1 t.2.2.2.2.2.2.2.1 t.2.2.2.2.2.2.2.2.1 t.2.2.2.2.2.2.2.2.2.1 t.2.2.2.2.2.2.2.2.2.2.1 t.2.2.2.2.2.2.2.2.2.2.2.1 t.2.2.2.2.2.2.2.2.2.2.2.2.1 t.2.2.2.2.2.2.2.2.2.2.2.2.2.1 t.2.2.2.2.2.2.2.2.2.2.2.2.2.2.1 t.2.2.2.2.2.2.2.2.2.2.2.2.2.2.2.1 t.2.2.2.2.2.2.2.2.2.2.2.2.2.2.2.2.1 t.2.2.2.2.2.2.2.2.2.2.2.2.2.2.2.2.2.1 t.2.2.2.2.2.2.2.2.2.2.2.2.2.2.2.2.2.2.1 t.2.2.2.2.2.2.2.2.2.2.2.2.2.2.2.2.2.2.2.1 t.2.2.2.2.2.2.2.2.2.2.2.2.2.2.2.2.2.2.2.2.1 t.2.2.2.2.2.2.2.2.2.2.2.2.2.2.2.2.2.2.2.2.2.1 t.2.2.2.2.2.2.2.2.2.2.2.2.2.2.2.2.2.2.2.2.2.2.1 t.2.2.2.2.2.2.2.2.2.2.2.2.2.2.2.2.2.2.2.2.2.2.2.1 t.2.2.2.2.2.2.2.2.2.2.2.2.2.2.2.2.2.2.2.2.2.2.2.2.1 t.2.2.2.2.2.2.2.2.2.2.2.2.2.2.2.2.2.2.2.2.2.2.2.2.2.1 t.2.2.2.2.2.2.2.2.2.2.2.2.2.2.2.2.2.2.2.2.2.2.2.2.2.2.1 t.2.2.2.2.2.2.2.2.2.2.2.2.2.2.2.2.2.2.2.2.2.2.2.2.2.2.2) (wi (ap28 q))) x1 x2 x3 x4 x5 x6 x7 x8 x9 x10 x11 x12 x13 x14 x15 x16 x17 x18 x19 x20 x21 x22 x23 x24 x25 x26 x27 x28:q x1 x2 x3 x4 x5 x6 x7 x8 x9 x10 x11 x12 x13 x14 x15 x16 x17 x18 x19 x20 x21 x22 x23 x24 x25 x26 x27 x28:=al (q:=ap28 q) h (x1,x2,x3,x4,x5,x6,x7,x8,x9,x10,x11,x12,x13,x14,x15,x16,x17,x18,x19,x20,x21,x22,x23,x24,x25,x26,x27,x28)
noncomputable def ap34 {A1 A2 A3 A4 A5 A6 A7 A8 A9 A10 A11 A12 A13 A14 A15 A16 A17 A18 A19 A20 A21 A22 A23 A24 A25 A26 A27 A28 A29 A30 A31 A32 A33 A34:Type} (q:A1→A2→A3→A4→A5→A6→A7→A8→A9→A10→A11→A12→A13→A14→A15→A16→A17→A18→A19→A20→A21→A22→A23→A24→A25→A26→A27→A28→A29→A30→A31→A32→A33→A34→Prop) (t:A1×A2×A3×A4×A5×A6×A7×A8×A9×A10×A11×A12×A13×A14×A15×A16×A17×A18×A19×A20×A21×A22×A23×A24×A25×A26×A27×A28×A29×A30×A31×A32×A33×A34):Prop:=ap28 (q t.1 t.2.1 t.2.2.1 t.2.2.2.1 t.2.2.2.2.1 t.2.2.2.2.2.1) t.2.2.2.2.2.2
theorem al34 {A1 A2 A3 A4 A5 A6 A7 A8 A9 A10 A11 A12 A13 A14 A15 A16 A17 A18 A19 A20 A21 A22 A23 A24 A25 A26 A27 A28 A29 A30 A31 A32 A33 A34:Type} [Nonempty (A1×A2×A3×A4×A5×A6×A7×A8×A9×A10×A11×A12×A13×A14×A15×A16×A17×A18×A19×A20×A21×A22×A23×A24×A25×A26×A27×A28×A29×A30×A31×A32×A33×A34)] {q:A1→A2→A3→A4→A5→A6→A7→A8→A9→A10→A11→A12→A13→A14→A15→A16→A17→A18→A19→A20→A21→A22→A23→A24→A25→A26→A27→A28→A29→A30→A31→A32→A33→A34→Prop} (h:(fun t=>q t.1 t.2.1 t.2.2.1 t.2.2.2.1 t.2.2.2.2.1 t.2.2.2.2.2.1 t.2.2.2.2.2.2.1 t.2.2.2.2.2.2.2.1 t.2.2.2.2.2.2.2.2.1 t.2.2.2.2.2.2.2.2.2.1 t.2.2.2.2.2.2.2.2.2.2.1 t.2.2.2.2.2.2.2.2.2.2.2.1 t.2.2.2.2.2.2.2.2.2.2.2.2.1 t.2.2.2.2.2.2.2.2.2.2.2.2.2.1 t.2.2.2.2.2.2.2.2.2.2.2.2.2.2.1 t.2.2.2.2.2.2.2.2.2.2.2.2.2.2.2.1 t.2.2.2.2.2.2.2.2.2.2.2.2.2.2.2.2.1 t.2.2.2.2.2.2.2.2.2.2.2.2.2.2.2.2.2.1 t.2.2.2.2.2.2.2.2.2.2.2.2.2.2.2.2.2.2.1 t.2.2.2.2.2.2.2.2.2.2.2.2.2.2.2.2.2.2.2.1 t.2.2.2.2.2.2.2.2.2.2.2.2.2.2.2.2.2.2.2.2.1 t.2.2.2.2.2.2.2.2.2.2.2.2.2.2.2.2.2.2.2.2.2.1 t.2.2.2.2.2.2.2.2.2.2.2.2.2.2.2.2.2.2.2.2.2.2.1 t.2.2.2.2.2.2.2.2.2.2.2.2.2.2.2.2.2.2.2.2.2.2.2.1 t.2.2.2.2.2.2.2.2.2.2.2.2.2.2.2.2.2.2.2.2.2.2.2.2.1 t.2.2.2.2.2.2.2.2.2.2.2.2.2.2.2.2.2.2.2.2.2.2.2.2.2.1 t.2.2.2.2.2.2.2.2.2.2.2.2.2.2.2.2.2.2.2.2.2.2.2.2.2.2.1 t.2.2.2.2.2.2.2.2.2.2.2.2.2.2.2.2.2.2.2.2.2.2.2.2.2.2.2.1 t.2.2.2.2.2.2.2.2.2.2.2.2.2.2.2.2.2.2.2.2.2.2.2.2.2.2.2.2.1 t.2.2.2.2.2.2.2.2.2.2.2.2.2.2.2.2.2.2.2.2.2.2.2.2.2.2.2.2.2.1 t.2.2.2.2.2.2.2.2.2.2.2.2.2.2.2.2.2.2.2.2.2.2.2.2.2.2.2.2.2.2.1 t.2.2.2.2.2.2.2.2.2.2.2.2.2.2.2.2.2.2.2.2.2.2.2.2.2.2.2.2.2.2.2.1 t.2.2.2.2.2.2.2.2.2.2.2.2.2.2.2.2.2.2.2.2.2.2.2.2.2.2.2.2.2.2.2.2.1 t.2.2.2.2.2.2.2.2.2.2.2.2.2.2.2.2.2.2.2.2.2.2.2.2.2.2.2.2.2.2.2.2.2) (wi (ap34 q))) x1 x2 x3 x4 x5 x6 x7 x8 x9 x10 x11 x12 x13 x14 x15 x16 x17 x18 x19 x20 x21 x22 x23 x24 x25 x26 x27 x28 x29 x30 x31 x32 x33 x34:q x1 x2 x3 x4 x5 x6 x7 x8 x9 x10 x11 x12 x13 x14 x15 x16 x17 x18 x19 x20 x21 x22 x23 x24 x25 x26 x27 x28 x29 x30 x31 x32 x33 x34:=al (q:=ap34 q) h (x1,x2,x3,x4,x5,x6,x7,x8,x9,x10,x11,x12,x13,x14,x15,x16,x17,x18,x19,x20,x21,x22,x23,x24,x25,x26,x27,x28,x29,x30,x31,x32,x33,x34)
noncomputable def ap42 {A1 A2 A3 A4 A5 A6 A7 A8 A9 A10 A11 A12 A13 A14 A15 A16 A17 A18 A19 A20 A21 A22 A23 A24 A25 A26 A27 A28 A29 A30 A31 A32 A33 A34 A35 A36 A37 A38 A39 A40 A41 A42:Type} (q:A1→A2→A3→A4→A5→A6→A7→A8→A9→A10→A11→A12→A13→A14→A15→A16→A17→A18→A19→A20→A21→A22→A23→A24→A25→A26→A27→A28→A29→A30→A31→A32→A33→A34→A35→A36→A37→A38→A39→A40→A41→A42→Prop) (t:A1×A2×A3×A4×A5×A6×A7×A8×A9×A10×A11×A12×A13×A14×A15×A16×A17×A18×A19×A20×A21×A22×A23×A24×A25×A26×A27×A28×A29×A30×A31×A32×A33×A34×A35×A36×A37×A38×A39×A40×A41×A42):Prop:=ap34 (q t.1 t.2.1 t.2.2.1 t.2.2.2.1 t.2.2.2.2.1 t.2.2.2.2.2.1 t.2.2.2.2.2.2.1 t.2.2.2.2.2.2.2.1) t.2.2.2.2.2.2.2.2
theorem al42 {A1 A2 A3 A4 A5 A6 A7 A8 A9 A10 A11 A12 A13 A14 A15 A16 A17 A18 A19 A20 A21 A22 A23 A24 A25 A26 A27 A28 A29 A30 A31 A32 A33 A34 A35 A36 A37 A38 A39 A40 A41 A42:Type} [Nonempty (A1×A2×A3×A4×A5×A6×A7×A8×A9×A10×A11×A12×A13×A14×A15×A16×A17×A18×A19×A20×A21×A22×A23×A24×A25×A26×A27×A28×A29×A30×A31×A32×A33×A34×A35×A36×A37×A38×A39×A40×A41×A42)] {q:A1→A2→A3→A4→A5→A6→A7→A8→A9→A10→A11→A12→A13→A14→A15→A16→A17→A18→A19→A20→A21→A22→A23→A24→A25→A26→A27→A28→A29→A30→A31→A32→A33→A34→A35→A36→A37→A38→A39→A40→A41→A42→Prop} (h:(fun t=>q t.1 t.2.1 t.2.2.1 t.2.2.2.1 t.2.2.2.2.1 t.2.2.2.2.2.1 t.2.2.2.2.2.2.1 t.2.2.2.2.2.2.2.1 t.2.2.2.2.2.2.2.2.1 t.2.2.2.2.2.2.2.2.2.1 t.2.2.2.2.2.2.2.2.2.2.1 t.2.2.2.2.2.2.2.2.2.2.2.1 t.2.2.2.2.2.2.2.2.2.2.2.2.1 t.2.2.2.2.2.2.2.2.2.2.2.2.2.1 t.2.2.2.2.2.2.2.2.2.2.2.2.2.2.1 t.2.2.2.2.2.2.2.2.2.2.2.2.2.2.2.1 t.2.2.2.2.2.2.2.2.2.2.2.2.2.2.2.2.1 t.2.2.2.2.2.2.2.2.2.2.2.2.2.2.2.2.2.1 t.2.2.2.2.2.2.2.2.2.2.2.2.2.2.2.2.2.2.1 t.2.2.2.2.2.2.2.2.2.2.2.2.2.2.2.2.2.2.2.1 t.2.2.2.2.2.2.2.2.2.2.2.2.2.2.2.2.2.2.2.2.1 t.2.2.2.2.2.2.2.2.2.2.2.2.2.2.2.2.2.2.2.2.2.1 t.2.2.2.2.2.2.2.2.2.2.2.2.2.2.2.2.2.2.2.2.2.2.1 t.2.2.2.2.2.2.2.2.2.2.2.2.2.2.2.2.2.2.2.2.2.2.2.1 t.2.2.2.2.2.2.2.2.2.2.2.2.2.2.2.2.2.2.2.2.2.2.2.2.1 t.2.2.2.2.2.2.2.2.2.2.2.2.2.2.2.2.2.2.2.2.2.2.2.2.2.1 t.2.2.2.2.2.2.2.2.2.2.2.2.2.2.2.2.2.2.2.2.2.2.2.2.2.2.1 t.2.2.2.2.2.2.2.2.2.2.2.2.2.2.2.2.2.2.2.2.2.2.2.2.2.2.2.1 t.2.2.2.2.2.2.2.2.2.2.2.2.2.2.2.2.2.2.2.2.2.2.2.2.2.2.2.2.1 t.2.2.2.2.2.2.2.2.2.2.2.2.2.2.2.2.2.2.2.2.2.2.2.2.2.2.2.2.2.1 t.2.2.2.2.2.2.2.2.2.2.2.2.2.2.2.2.2.2.2.2.2.2.2.2.2.2.2.2.2.2.1 t.2.2.2.2.2.2.2.2.2.2.2.2.2.2.2.2.2.2.2.2.2.2.2.2.2.2.2.2.2.2.2.1 t.2.2.2.2.2.2.2.2.2.2.2.2.2.2.2.2.2.2.2.2.2.2.2.2.2.2.2.2.2.2.2.2.1 t.2.2.2.2.2.2.2.2.2.2.2.2.2.2.2.2.2.2.2.2.2.2.2.2.2.2.2.2.2.2.2.2.2.1 t.2.2.2.2.2.2.2.2.2.2.2.2.2.2.2.2.2.2.2.2.2.2.2.2.2.2.2.2.2.2.2.2.2.2.1 t.2.2.2.2.2.2.2.2.2.2.2.2.2.2.2.2.2.2.2.2.2.2.2.2.2.2.2.2.2.2.2.2.2.2.2.1 t.2.2.2.2.2.2.2.2.2.2.2.2.2.2.2.2.2.2.2.2.2.2.2.2.2.2.2.2.2.2.2.2.2.2.2.2.1 t.2.2.2.2.2.2.2.2.2.2.2.2.2.2.2.2.2.2.2.2.2.2.2.2.2.2.2.2.2.2.2.2.2.2.2.2.2.1 t.2.2.2.2.2.2.2.2.2.2.2.2.2.2.2.2.2.2.2.2.2.2.2.2.2.2.2.2.2.2.2.2.2.2.2.2.2.2.1 t.2.2.2.2.2.2.2.2.2.2.2.2.2.2.2.2.2.2.2.2.2.2.2.2.2.2.2.2.2.2.2.2.2.2.2.2.2.2.2.1 t.2.2.2.2.2.2.2.2.2.2.2.2.2.2.2.2.2.2.2.2.2.2.2.2.2.2.2.2.2.2.2.2.2.2.2.2.2.2.2.2.1 t.2.2.2.2.2.2.2.2.2.2.2.2.2.2.2.2.2.2.2.2.2.2.2.2.2.2.2.2.2.2.2.2.2.2.2.2.2.2.2.2.2) (wi (ap42 q))) x1 x2 x3 x4 x5 x6 x7 x8 x9 x10 x11 x12 x13 x14 x15 x16 x17 x18 x19 x20 x21 x22 x23 x24 x25 x26 x27 x28 x29 x30 x31 x32 x33 x34 x35 x36 x37 x38 x39 x40 x41 x42:q x1 x2 x3 x4 x5 x6 x7 x8 x9 x10 x11 x12 x13 x14 x15 x16 x17 x18 x19 x20 x21 x22 x23 x24 x25 x26 x27 x28 x29 x30 x31 x32 x33 x34 x35 x36 x37 x38 x39 x40 x41 x42:=al (q:=ap42 q) h (x1,x2,x3,x4,x5,x6,x7,x8,x9,x10,x11,x12,x13,x14,x15,x16,x17,x18,x19,x20,x21,x22,x23,x24,x25,x26,x27,x28,x29,x30,x31,x32,x33,x34,x35,x36,x37,x38,x39,x40,x41,x42)
end DL
end
local macro_rules | `(tactic| k_call_by "e" [$xs,*])=>do
 let xs:=xs.getElems
 let f:=Lean.mkIdent (`DL++.mkSimple s!"al{xs.size}")
 let hs:Array Lean.Term ← xs.mapM fun _=>`(_)
 let ids:Array Lean.Ident:=xs.map fun x=>⟨x.raw⟩
 `(tactic| (revert $ids*;refine @$f $hs* ?ne ?q ((?F:∀ $[$ids:ident]*,?q $xs*) $hs*);(case ne=>repeat' (first | refine @instNonemptyProd _ _ ?_ ?_ | infer_instance | refine DL.nn ?_ | exact Or.inl rfl | rfl | refine Or.inr ?_));set_option tactic.hygienic false in intros))
local macro_rules
 | `(tactic| obtain ⟨$ps,*⟩:=$e:term)=>do
  let ps:=ps.getElems
  if h:ps.size<2 then Lean.Macro.throwUnsupported
  else
  let f (p:Lean.TSyntax ``Lean.Parser.Tactic.rcasesPatLo) (a:Lean.Ident):Lean.MacroM (Lean.Ident×Lean.TSyntax `tactic):=do
   let m:=p.raw[0][0]
   if m.getNumArgs == 1&&p.raw[1].getNumArgs == 0 then
    let x:=m[0]
    if x.isOfKind ``Lean.Parser.Tactic.rcasesPat.ignore then return (a,← `(tactic| skip))
    if x.isOfKind ``Lean.Parser.Tactic.rcasesPat.one&&x[0].getId != `rfl then return (⟨x[0]⟩,← `(tactic| skip))
   return (a,← `(tactic| obtain $(⟨p.raw[0]⟩):rcasesPatMed:=$a:ident))
  let rest:=ps.extract 1 ps.size
  let q ← if rest.size == 1 then pure rest[0]! else `(Lean.Parser.Tactic.rcasesPatLo| ⟨$rest,*⟩)
  let (x,k) ← f ps[0]! ⟨(← `(a)).raw⟩
  let (y,l) ← f q ⟨(← `(b)).raw⟩
  if e.raw.isIdent then
   `(tactic| first
    | (refine (?_:_→_→_) (And.left $e) (And.right $e);(try clear $(⟨e.raw⟩):ident);intro $x:ident $y:ident;$k:tactic;$l:tactic)
    | (refine Exists.elim $e ?_;(try clear $(⟨e.raw⟩):ident);intro $x:ident $y:ident;$k:tactic;$l:tactic)
    | rcases $e:term with ⟨$ps,*⟩)
  else
   `(tactic| (obtain t:=$e:term;obtain ⟨$ps,*⟩:=t))
local macro_rules | `(tactic| cases $e:ident)=>`(tactic| first | contradiction | (have t:=Option.some.inj $e;subst t;clear $e) | cases ($e))
namespace DL
theorem nm_ApplyDeltaError:nmc (Str.ofString "ApplyDeltaError")=some 0:=by kernel_rfl
theorem nm_AssertionError:nmc (Str.ofString "AssertionError")=some 1:=by kernel_rfl
theorem nm_OFS_DELTA:nmc (Str.ofString "OFS_DELTA")=some 2:=by kernel_rfl
theorem nm_ObjectFormat:nmc (Str.ofString "ObjectFormat")=some 3:=by kernel_rfl
theorem nm_REF_DELTA:nmc (Str.ofString "REF_DELTA")=some 4:=by kernel_rfl
theorem nm_SHA1:nmc (Str.ofString "SHA1")=some 5:=by kernel_rfl
theorem nm_decode_delta_base_offset:nmc (Str.ofString "_decode_delta_base_offset")=some 6:=by kernel_rfl
theorem nm_decode_object_header:nmc (Str.ofString "_decode_object_header")=some 7:=by kernel_rfl
theorem nm_delta_encode_size:nmc (Str.ofString "_delta_encode_size")=some 8:=by kernel_rfl
theorem nm_law_back:nmc (Str.ofString "_law_back")=some 9:=by kernel_rfl
theorem nm_law_barred:nmc (Str.ofString "_law_barred")=some 10:=by kernel_rfl
theorem nm_law_cut:nmc (Str.ofString "_law_cut")=some 11:=by kernel_rfl
theorem nm_law_found:nmc (Str.ofString "_law_found")=some 12:=by kernel_rfl
theorem nm_law_halved:nmc (Str.ofString "_law_halved")=some 13:=by kernel_rfl
theorem nm_law_key:nmc (Str.ofString "_law_key")=some 14:=by kernel_rfl
theorem nm_law_kinds:nmc (Str.ofString "_law_kinds")=some 15:=by kernel_rfl
theorem nm_law_name:nmc (Str.ofString "_law_name")=some 16:=by kernel_rfl
theorem nm_law_next:nmc (Str.ofString "_law_next")=some 17:=by kernel_rfl
theorem nm_law_open:nmc (Str.ofString "_law_open")=some 18:=by kernel_rfl
theorem nm_law_read:nmc (Str.ofString "_law_read")=some 19:=by kernel_rfl
theorem nm_law_row:nmc (Str.ofString "_law_row")=some 20:=by kernel_rfl
theorem nm_law_taken:nmc (Str.ofString "_law_taken")=some 21:=by kernel_rfl
theorem nm_law_turned:nmc (Str.ofString "_law_turned")=some 22:=by kernel_rfl
theorem nm_law_value:nmc (Str.ofString "_law_value")=some 23:=by kernel_rfl
theorem nm_law_wide:nmc (Str.ofString "_law_wide")=some 24:=by kernel_rfl
theorem nm_law_written:nmc (Str.ofString "_law_written")=some 25:=by kernel_rfl
theorem nm_asked:nmc (Str.ofString "asked")=some 26:=by kernel_rfl
theorem nm_at:nmc (Str.ofString "at")=some 27:=by kernel_rfl
theorem nm_b:nmc (Str.ofString "b")=some 28:=by kernel_rfl
theorem nm_base:nmc (Str.ofString "base")=some 29:=by kernel_rfl
theorem nm_bisect_find_sha:nmc (Str.ofString "bisect_find_sha")=some 30:=by kernel_rfl
theorem nm_bool:nmc (Str.ofString "bool")=some 31:=by kernel_rfl
theorem nm_byte:nmc (Str.ofString "byte")=some 32:=by kernel_rfl
theorem nm_bytearray:nmc (Str.ofString "bytearray")=some 33:=by kernel_rfl
theorem nm_bytes:nmc (Str.ofString "bytes")=some 34:=by kernel_rfl
theorem nm_c:nmc (Str.ofString "c")=some 35:=by kernel_rfl
theorem nm_code:nmc (Str.ofString "code")=some 36:=by kernel_rfl
theorem nm_contents:nmc (Str.ofString "contents")=some 37:=by kernel_rfl
theorem nm_cut:nmc (Str.ofString "cut")=some 38:=by kernel_rfl
theorem nm_data:nmc (Str.ofString "data")=some 39:=by kernel_rfl
theorem nm_delta_base:nmc (Str.ofString "delta_base")=some 40:=by kernel_rfl
theorem nm_delta_base_offset:nmc (Str.ofString "delta_base_offset")=some 41:=by kernel_rfl
theorem nm_divmod:nmc (Str.ofString "divmod")=some 42:=by kernel_rfl
theorem nm_draw:nmc (Str.ofString "draw")=some 43:=by kernel_rfl
theorem nm_due:nmc (Str.ofString "due")=some 44:=by kernel_rfl
theorem nm_edge:nmc (Str.ofString "edge")=some 45:=by kernel_rfl
theorem nm_end:nmc (Str.ofString "end")=some 46:=by kernel_rfl
theorem nm_entries:nmc (Str.ofString "entries")=some 47:=by kernel_rfl
theorem nm_entry:nmc (Str.ofString "entry")=some 48:=by kernel_rfl
theorem nm_enumerate:nmc (Str.ofString "enumerate")=some 49:=by kernel_rfl
theorem nm_far:nmc (Str.ofString "far")=some 50:=by kernel_rfl
theorem nm_file_sha:nmc (Str.ofString "file_sha")=some 51:=by kernel_rfl
theorem nm_first:nmc (Str.ofString "first")=some 52:=by kernel_rfl
theorem nm_form:nmc (Str.ofString "form")=some 53:=by kernel_rfl
theorem nm_header:nmc (Str.ofString "header")=some 54:=by kernel_rfl
theorem nm_high:nmc (Str.ofString "high")=some 55:=by kernel_rfl
theorem nm_i:nmc (Str.ofString "i")=some 56:=by kernel_rfl
theorem nm_int:nmc (Str.ofString "int")=some 57:=by kernel_rfl
theorem nm_isinstance:nmc (Str.ofString "isinstance")=some 58:=by kernel_rfl
theorem nm_k:nmc (Str.ofString "k")=some 59:=by kernel_rfl
theorem nm_kept:nmc (Str.ofString "kept")=some 60:=by kernel_rfl
theorem nm_kind:nmc (Str.ofString "kind")=some 61:=by kernel_rfl
theorem nm_last:nmc (Str.ofString "last")=some 62:=by kernel_rfl
theorem nm_law:nmc (Str.ofString "law")=some 63:=by kernel_rfl
theorem nm_len:nmc (Str.ofString "len")=some 64:=by kernel_rfl
theorem nm_list:nmc (Str.ofString "list")=some 65:=by kernel_rfl
theorem nm_low:nmc (Str.ofString "low")=some 66:=by kernel_rfl
theorem nm_max:nmc (Str.ofString "max")=some 67:=by kernel_rfl
theorem nm_message:nmc (Str.ofString "message")=some 68:=by kernel_rfl
theorem nm_name:nmc (Str.ofString "name")=some 69:=by kernel_rfl
theorem nm_name_at:nmc (Str.ofString "name_at")=some 70:=by kernel_rfl
theorem nm_names:nmc (Str.ofString "names")=some 71:=by kernel_rfl
theorem nm_number:nmc (Str.ofString "number")=some 72:=by kernel_rfl
theorem nm_object_format:nmc (Str.ofString "object_format")=some 73:=by kernel_rfl
theorem nm_octet:nmc (Str.ofString "octet")=some 74:=by kernel_rfl
theorem nm_octets:nmc (Str.ofString "octets")=some 75:=by kernel_rfl
theorem nm_offset:nmc (Str.ofString "offset")=some 76:=by kernel_rfl
theorem nm_oid_length:nmc (Str.ofString "oid_length")=some 77:=by kernel_rfl
theorem nm_ord:nmc (Str.ofString "ord")=some 78:=by kernel_rfl
theorem nm_other:nmc (Str.ofString "other")=some 79:=by kernel_rfl
theorem nm_pack_object_header:nmc (Str.ofString "pack_object_header")=some 80:=by kernel_rfl
theorem nm_part:nmc (Str.ofString "part")=some 81:=by kernel_rfl
theorem nm_parts:nmc (Str.ofString "parts")=some 82:=by kernel_rfl
theorem nm_place:nmc (Str.ofString "place")=some 83:=by kernel_rfl
theorem nm_plain:nmc (Str.ofString "plain")=some 84:=by kernel_rfl
theorem nm_pos:nmc (Str.ofString "pos")=some 85:=by kernel_rfl
theorem nm_range:nmc (Str.ofString "range")=some 86:=by kernel_rfl
theorem nm_raw:nmc (Str.ofString "raw")=some 87:=by kernel_rfl
theorem nm_rest:nmc (Str.ofString "rest")=some 88:=by kernel_rfl
theorem nm_ret:nmc (Str.ofString "ret")=some 89:=by kernel_rfl
theorem nm_row:nmc (Str.ofString "row")=some 90:=by kernel_rfl
theorem nm_rows:nmc (Str.ofString "rows")=some 91:=by kernel_rfl
theorem nm_script:nmc (Str.ofString "script")=some 92:=by kernel_rfl
theorem nm_sha:nmc (Str.ofString "sha")=some 93:=by kernel_rfl
theorem nm_shape:nmc (Str.ofString "shape")=some 94:=by kernel_rfl
theorem nm_share:nmc (Str.ofString "share")=some 95:=by kernel_rfl
theorem nm_shares:nmc (Str.ofString "shares")=some 96:=by kernel_rfl
theorem nm_size:nmc (Str.ofString "size")=some 97:=by kernel_rfl
theorem nm_sorted:nmc (Str.ofString "sorted")=some 98:=by kernel_rfl
theorem nm_start:nmc (Str.ofString "start")=some 99:=by kernel_rfl
theorem nm_stored:nmc (Str.ofString "stored")=some 100:=by kernel_rfl
theorem nm_sum:nmc (Str.ofString "sum")=some 101:=by kernel_rfl
theorem nm_tail:nmc (Str.ofString "tail")=some 102:=by kernel_rfl
theorem nm_take_msb_bytes_at:nmc (Str.ofString "take_msb_bytes_at")=some 103:=by kernel_rfl
theorem nm_told:nmc (Str.ofString "told")=some 104:=by kernel_rfl
theorem nm_turn:nmc (Str.ofString "turn")=some 105:=by kernel_rfl
theorem nm_type_num:nmc (Str.ofString "type_num")=some 106:=by kernel_rfl
theorem nm_unpack_name:nmc (Str.ofString "unpack_name")=some 107:=by kernel_rfl
theorem nm_value:nmc (Str.ofString "value")=some 108:=by kernel_rfl
theorem nm_dot0:nmc (Str.ofString ".0")=some 109:=by kernel_rfl
end DL
section
namespace DL
variable {C:Cx} {P:Kp} {m:Loc} {H:Hp} {s:Shared}
theorem OR.noDict {mg:MG} {ob:Obj} {o:O} (x:OR mg ob o):(∀ es n,ob.data≠.dict es n)∧(∀ v,ob.data≠.cell v):=by
 cases o with
 | list xs=>obtain ⟨_,vs,n,rfl,_⟩:=x;exact ⟨fun _ _ q=>(by cases q),fun _ q=>(by cases q)⟩
 | ilist _ xs=>obtain ⟨_,_,vs,n,h,_⟩:=x;rw [h];exact ⟨fun _ _ q=>(by cases q),fun _ q=>(by cases q)⟩
 | tuple xs=>obtain ⟨_,vs,n,rfl,_⟩:=x;exact ⟨fun _ _ q=>(by cases q),fun _ q=>(by cases q)⟩
 | barr xs=>obtain ⟨_,rfl⟩:=x;exact ⟨fun _ _ q=>(by cases q),fun _ q=>(by cases q)⟩
 | raw y=>obtain ⟨rfl,h1,h2⟩:=x;exact ⟨h1,h2⟩
theorem St.grow (S:St C P m H s) {h':Heap} {t:Tok} (hk:∀ b o,s.heap.get? b=some o→h'.get? b=some o):St C P m H { s with heap:=h',toks:=t } where
 pbase:=S.pbase
 keep:=fun b o e=>hk b o (S.keep b o e)
 objs:=fun a o e=>let ⟨p,ob,h1,h2⟩:=S.objs a o e;⟨p,ob,hk _ _ h1,h2⟩
 pL:=S.pL
 ns:=let ⟨mc,h1,h2⟩:=S.ns;⟨mc,h1.keeps hk,h2⟩
 own:=fun hw x a h1 h2=>let ⟨p,c,h3⟩:=S.own hw x a h1 h2;⟨p,c,h3.keeps hk⟩
 cells:=fun x k v h1 h2 h3=>let ⟨a,u,h4,h5,h6⟩:=S.cells x k v h1 h2 h3;⟨a,u,h4,h5.keeps hk,h6⟩
 fs:=fun f hf=>let ⟨h1,h2⟩:=S.fs f hf;⟨h1.keeps hk,h2⟩
 gens:=S.gens
 os:=S.os
theorem St.toks (S:St C P m H s) {t:Tok}:St C P m H { s with toks:=t }:=S.grow (h':=s.heap) fun _ _ e=>e
theorem St.pushed (S:St C P m H s) (o:Obj) {t:Tok}:St C P m H { s with heap:=s.heap.push o,toks:=t }:=S.grow fun _ _ e=>Heap.get?_push_of_some o e
theorem St.free (S:St C P m H s) {a:Addr} (e:s.heap.get? a=none):H a=none∧P a=none:=by
 constructor
 ·cases q:H a with
  | none=>rfl
  | some o=>obtain ⟨_,ob,h1,_⟩:=S.objs a o q;rw [e] at h1;cases h1
 ·cases q:P a with
  | none=>rfl
  | some o=>have:=S.keep a o q;rw [e] at this;cases this
theorem St.weak (S:St C P m H s) {m':Loc} {H':Hp} (hm:SubL m' m) (hH:Ext H' H):St C P m' H' s where
 pbase:=S.pbase
 keep:=S.keep
 objs:=fun a o e=>S.objs a o (hH a o e)
 pL:=S.pL
 ns:=let ⟨mc,h1,h2⟩:=S.ns;⟨mc,h1,fun x k v e1 e2 e3=>h2 x k v e1 (hm k v e2) e3⟩
 own:=S.own
 cells:=fun x k v h1 h2 h3=>S.cells x k v h1 (hm k v h2) h3
 fs:=S.fs
 gens:=S.gens
 os:=S.os
theorem SubL.refl (m:Loc):SubL m m:=fun _ _ h=>h
theorem St.put (S:St C P m H s) {a:Addr} {o:O} {ob:Obj} (hP:P a=none) (ho:s.heap.get? a=some ob) (r:OR C.mg ob o):St C P m (upd H a o) s where
 pbase:=S.pbase
 keep:=S.keep
 objs:=fun b x e=>by
  by_cases q:b=a
  ·subst q;rw [upd_same] at e;cases e;exact ⟨hP,ob,ho,r⟩
  ·rw [upd_ne q] at e;exact S.objs b x e
 pL:=S.pL
 ns:=S.ns
 own:=S.own
 cells:=S.cells
 fs:=S.fs
 gens:=S.gens
 os:=S.os
theorem St.mut (S:St C P m H s) {a:Addr} {o o':O} {ob':Obj} {h':Heap} {t:Tok} (hH:H a=some o) (hs:∀ b,b≠a→∀ x,s.heap.get? b=some x→h'.get? b=some x)
  (ho:h'.get? a=some ob') (r:OR C.mg ob' o'):St C P m (upd H a o') { s with heap:=h',toks:=t }:=by
 revert S hH hs ho r
 k_call_by "e" [C,P,m,H,s,a,o,o',ob',h',t]
 obtain ⟨hP,ob,hob,ro⟩:=S.objs a o hH
 obtain u90:=()
 revert hob ro
 k_call_by "e" [ob,u90]
 have nd:=ro.noDict
 have keepNs:∀ {L mc},s.heap.Ns L mc→h'.Ns L mc:=fun {L mc} hn=>by
  obtain ⟨x,es,ep,h1,h2,h3⟩:=hn
  refine ⟨x,es,ep,hs L (fun q=>?_) x h1,h2,h3⟩
  rw [q,hob] at h1;cases h1;exact nd.1 _ _ h2
 have keepC:∀ {c v},s.heap.IsCell c v→h'.IsCell c v:=fun {c v} hc=>by
  obtain ⟨x,h1,h2⟩:=hc
  refine ⟨x,hs c (fun q=>?_) x h1,h2⟩
  rw [q,hob] at h1;cases h1;exact nd.2 _ h2
 exact {
  pbase:=S.pbase
  keep:=fun b x e=>hs b (fun q=>by rw [q,hP] at e;cases e) x (S.keep b x e)
  objs:=fun b x e=>by
   by_cases q:b=a
   ·subst q;rw [upd_same] at e;cases e;exact ⟨hP,ob',ho,r⟩
   ·rw [upd_ne q] at e
    obtain ⟨p,ob1,h1,h2⟩:=S.objs b x e
    exact ⟨p,ob1,hs b q _ h1,h2⟩
  pL:=S.pL
  ns:=let ⟨mc,h1,h2⟩:=S.ns;⟨mc,keepNs h1,h2⟩
  own:=fun hw x c h1 h2=>let ⟨p,v,h3⟩:=S.own hw x c h1 h2;⟨p,v,keepC h3⟩
  cells:=fun x k v h1 h2 h3=>let ⟨c,u,h4,h5,h6⟩:=S.cells x k v h1 h2 h3;⟨c,u,h4,keepC h5,h6⟩
  fs:=fun f hf=>let ⟨h1,h2⟩:=S.fs f hf;⟨keepNs h1,h2⟩
  gens:=S.gens
  os:=S.os }
noncomputable abbrev Md (C:Cx):Model:=model C.prog C.w
noncomputable def Res (C:Cx) (P:Kp) (m:Loc) (Q:V→Hp→Prop):Value→Shared→Prop:=fun v s'=>∃ z H',VR C.mg v z∧St C P m H' s'∧Q z H'
theorem Res.of {Q:V→Hp→Prop} {v:Value} {z:V} (hv:VR C.mg v z) (S:St C P m H s) (q:Q z H):Res C P m Q v s:=⟨z,H,hv,S,q⟩
section ops
variable {Q:V→Hp→Prop} {E:Value→Shared→Prop}
theorem St.new (S:St C P m H s) (ob:Obj) {o:O} {t:Tok} (hfr:ob.isFreed=false) (r:OR C.mg ob o):H s.heap.objs.size=none∧St C P m (upd H s.heap.objs.size o) { s with heap:=s.heap.push ob,toks:=t }:=by
 obtain hf:=S.free (a:=s.heap.objs.size) (by cases q:s.heap.get? s.heap.objs.size with | none=>rfl | some o=>exact absurd (Heap.lt_size q) (Nat.lt_irrefl _))
 exact ⟨hf.1,(S.pushed ob (t:=t)).put hf.2 (Heap.get?_push_size _ hfr) r⟩
theorem VRs.len {mg:MG} {vs:List Value} {xs:List V} (h:VRs mg vs xs):vs.length=xs.length:=by induction h<;>simp_all
theorem SZ_line {n:Nat} (h:n≤SZ):n≤sizeLine:=by unfold SZ at h;unfold sizeLine;exact Nat.le_trans ‹_› (by decide)
theorem new_list (S:St C P m H s) {vs:List Value} {xs:List V} (hv:VRs C.mg vs xs) (hsz:xs.length≤SZ)
  (h:∀ a,H a=none→Q (.ref a) (upd H a (.list xs))):wpAny (Md C) C.A (newList vs) (Res C P m Q) E s:=by
 refine wpAny_newObj_type ?_ (by show vs.toArray.size≤sizeLine;rw [List.size_toArray,hv.len];exact SZ_line hsz)
 obtain S':=S.new { cls:=.type "list",data:=.seq vs.toArray } (o:=.list xs) (t:=s.toks) rfl ⟨hsz,vs.toArray,0,rfl,by simpa using hv⟩
 exact Res.of (z:=.ref _) rfl S'.2 (h _ S'.1)
theorem new_tuple (S:St C P m H s) {vs:List Value} {xs:List V} (hv:VRs C.mg vs xs) (hsz:xs.length≤SZ)
  (h:∀ a,H a=none→Q (.ref a) (upd H a (.tuple xs))):wpAny (Md C) C.A (newTuple vs) (Res C P m Q) E s:=by
 refine wpAny_newObj_type ?_ (by show vs.toArray.size≤sizeLine;rw [List.size_toArray,hv.len];exact SZ_line hsz)
 obtain S':=S.new { cls:=.type "tuple",data:=.seq vs.toArray } (o:=.tuple xs) (t:=s.toks) rfl ⟨hsz,vs.toArray,0,rfl,by simpa using hv⟩
 exact Res.of (z:=.ref _) rfl S'.2 (h _ S'.1)
theorem nat_pow {k:Nat}:((2^k:Nat):Int)=(2:Int)^k:=by simp
theorem abs_lt {a:Int} {k:Nat} (h1:-(2:Int)^k<a) (h2:a<(2:Int)^k):a.natAbs<2^k:=by
 rw [← nat_pow] at h1 h2
 cases a with
 | ofNat n=>exact Int.ofNat_lt.mp h2
 | negSucc n=>exact Int.ofNat_lt.mp (Int.lt_of_neg_lt_neg h1)
theorem div_small {a b:Int} (h1:0<b) (h2:b<DIV):Builtin.divisionGoesByPylong a b=false:=by
 refine PyProof.noPylong_of_log2 ?_
 unfold DIV at h2
 have h9:8999<9000:=by decide
 generalize 8999=k at h2 h9
 exact Nat.lt_trans ((Nat.log2_lt (Int.natAbs_ne_zero.mpr (Int.ne_of_gt h1))).mpr (abs_lt (Int.lt_of_le_of_lt (Int.neg_nonpos_of_nonneg (Int.pow_nonneg (by decide))) h1) h2)) h9
theorem big_bits {a:Int} (h1:-BIG<a) (h2:a<BIG):Builtin.Int.intBits a≤1000000:=by
 refine intBits_le ?_
 unfold BIG at h1 h2
 generalize 1000000=k at *
 exact abs_lt h1 h2
theorem binI_ok (S:St C P m H s) {op:Operator} {a b:Int} {t u:Tok} {K:Int→Prop} (h:binI op a b K) :
  wpAny (Md C) C.A (binaryOp op (.int a t) (.int b u)) (fun v s'=>∃ i,(∃ t',v = .int i t')∧St C P m H s'∧K i) E s:=by
 revert S h
 k_call_by "e" [C,P,m,H,s,E,op,a,b,t,u,K]
 cases op with
 | Add =>
  exact add_int ⟨_,⟨_,rfl⟩,S.toks,h⟩
 | Sub =>
  exact sub_int ⟨_,⟨_,rfl⟩,S.toks,h⟩
 | Mult =>
  refine mul_int ⟨_,⟨_,rfl⟩,S.toks,h.2⟩ ?_
  rcases h.1 with q | q
  ·exact IntMulOk.of_left (intBits_le q)
  ·exact IntMulOk.of_right (intBits_le q)
 | FloorDiv =>
  obtain ⟨⟨h1,h2⟩,h3⟩:=h
  refine floordiv_int (by exact Int.ne_of_gt ‹_›) ⟨_,⟨_,rfl⟩,S.toks,?_⟩ (.inl (div_small h1 h2))
  rw [Int.fdiv_eq_ediv_of_nonneg _ (Int.le_of_lt h1)];exact h3
 | Mod =>
  obtain ⟨h1,h2⟩:=h
  refine mod_int' (Int.ne_of_gt h1) ⟨_,⟨_,rfl⟩,S.toks,?_⟩
  rw [Int.fmod_eq_emod_of_nonneg _ (Int.le_of_lt h1)];exact h2
 | Pow =>
  exact pow_int_small h.1.1 h.1.2.1 h.1.2.2 ⟨_,⟨_,rfl⟩,S.toks,h.2⟩
 | LShift =>
  obtain ⟨⟨h1,h2,h3,h4⟩,h5⟩:=h
  refine lshift_int h1 ?_ ⟨_,⟨_,rfl⟩,S.toks,h5⟩
  have:=big_bits h3 h4
  lia
 | RShift =>
  refine rshift_int h.1.1 ⟨_,⟨_,rfl⟩,S.toks,?_⟩
  rw [Int.fdiv_eq_ediv_of_nonneg _ (Int.pow_nonneg (by decide))];exact h.2
 | BitAnd =>
  exact and_int ⟨_,⟨_,rfl⟩,S.toks,h⟩
 | BitOr =>
  exact or_int ⟨_,⟨_,rfl⟩,S.toks,h⟩
 | _ =>
  exact h.elim
end ops
end DL
end
section
namespace DL
namespace FX
open PySem.Builtin
theorem slot_bytes_lt:Slot "bytes" (cmpInfo .Lt).2.1 "bytes.__lt__" :=
 .of (owner:="bytes") (n:="__lt__") (by rw [typeLookup_type,builtinLookup_eq_fast];kernel_rfl) (by decide +kernel) (by decide +kernel) (by decide +kernel)
  (by first | exact .inl (by decide +kernel) | exact .inr (by decide +kernel)) (by rw [isSubtype_type];kernel_rfl)
theorem entry_bytes_lt:entryFor table "bytes.__lt__" = some Builtin.«bytes.__lt__»:=entryFor_of_tree (by kernel_rfl)
theorem args_bytes_lt_2 (a b:Value):argsOk "bytes.__lt__" ⟨[a,b],[]⟩:=by
 unfold argsOk;rw [signature?_of (id:="bytes.__lt__") (n:=['_','_','t','l','_','_']) (o:=['s','e','t','y','b']) (by kernel_rfl) PySem.W.FB.owner_bytes];kernel_rfl
theorem slot_bytes_gt:Slot "bytes" (cmpInfo .Gt).2.1 "bytes.__gt__" :=
 .of (owner:="bytes") (n:="__gt__") (by rw [typeLookup_type,builtinLookup_eq_fast];kernel_rfl) (by decide +kernel) (by decide +kernel) (by decide +kernel)
  (by first | exact .inl (by decide +kernel) | exact .inr (by decide +kernel)) (by rw [isSubtype_type];kernel_rfl)
theorem entry_bytes_gt:entryFor table "bytes.__gt__" = some Builtin.«bytes.__gt__»:=entryFor_of_tree (by kernel_rfl)
theorem args_bytes_gt_2 (a b:Value):argsOk "bytes.__gt__" ⟨[a,b],[]⟩:=by
 unfold argsOk;rw [signature?_of (id:="bytes.__gt__") (n:=['_','_','t','g','_','_']) (o:=['s','e','t','y','b']) (by kernel_rfl) PySem.W.FB.owner_bytes];kernel_rfl
end FX
theorem order_lt:∀ a b:List UInt8,(Builtin.Bytes.order a b == .lt)=bltB a b
 | [],[] | [],_::_ | _::_,[]=>rfl
 | x::a,y::b=>by
  simp only [Builtin.Bytes.order,bltB]
  by_cases h1:x<y
  ·have:x≠y:=fun e=>by subst e;exact absurd h1 (UInt8.lt_irrefl _)
   have h2:x.toNat<y.toNat:=h1
   simp [h1,this,h2]
  ·by_cases h2:x>y
   ·have:x≠y:=fun e=>by subst e;exact absurd h2 (UInt8.lt_irrefl _)
    have h3:¬ x.toNat<y.toNat:=h1
    simp [h1,h2,this,h3]
   ·have:x=y:=UInt8.le_antisymm (UInt8.not_lt.mp h2) (UInt8.not_lt.mp h1)
    simp [this,order_lt a b]
theorem order_gt:∀ a b:List UInt8,(Builtin.Bytes.order a b == .gt)=bltB b a
 | [],[] | [],_::_ | _::_,[]=>rfl
 | x::a,y::b=>by
  simp only [Builtin.Bytes.order,bltB]
  by_cases h1:x<y
  ·have:y≠x:=fun e=>by subst e;exact absurd h1 (UInt8.lt_irrefl _)
   have h2:¬ y.toNat<x.toNat:=by have:x.toNat<y.toNat:=h1;lia
   simp [h1,this,h2]
  ·by_cases h2:x>y
   ·have:y≠x:=fun e=>by subst e;exact absurd h2 (UInt8.lt_irrefl _)
    have h3:y.toNat<x.toNat:=h2
    simp [h1,h2,this,h3]
   ·have:x=y:=UInt8.le_antisymm (UInt8.not_lt.mp h2) (UInt8.not_lt.mp h1)
    simp [this,order_gt a b]
theorem gives_bytes_lt (b c:Array UInt8) (t u:Tok):Gives (Builtin.«bytes.__lt__» ⟨[.bytes b t,.bytes c u],[]⟩) (.val (.bool (bltB b.toList c.toList))):=by
 refine .of_wp fun M A E s Q hq=>?_
 show wpAny M A (isInstance (.bytes c u) (.type "bytes") >>= fun r=>_) _ E s
 refine wpAny_bind (wpAny_isInstance (typeIs_bytes s c u) F.sub_bytes_bytes ?_)
 exact wpAny_pure ⟨_,rfl,by rw [← order_lt] at hq;exact hq⟩
theorem gives_bytes_gt (b c:Array UInt8) (t u:Tok):Gives (Builtin.«bytes.__gt__» ⟨[.bytes b t,.bytes c u],[]⟩) (.val (.bool (bltB c.toList b.toList))):=by
 refine .of_wp fun M A E s Q hq=>?_
 show wpAny M A (isInstance (.bytes c u) (.type "bytes") >>= fun r=>_) _ E s
 refine wpAny_bind (wpAny_isInstance (typeIs_bytes s c u) F.sub_bytes_bytes ?_)
 exact wpAny_pure ⟨_,rfl,by rw [← order_gt] at hq;exact hq⟩
variable {C:Cx} {P:Kp} {m:Loc} {H:Hp} {s:Shared} {Q:V→Hp→Prop} {E:Value→Shared→Prop}
theorem St.seq (S:St C P m H s) {a:Addr} {xs:List V} (q:oS (H a)=some xs):xs.length≤SZ∧∃ vs,s.heap.IsList a vs∧VRs C.mg vs.toList xs∧vs.size=xs.length:=by
 rcases oS_e q with h | ⟨x,h⟩
 ·obtain ⟨_,ob,h1,hz,vs,n,rfl,h4⟩:=S.objs a _ h
  exact ⟨hz,vs,⟨_,h1,rfl,n,rfl⟩,h4,h4.len⟩
 ·obtain ⟨_,ob,h1,hz,h2,vs,n,h3,h4⟩:=S.objs a _ h
  exact ⟨hz,vs,⟨ob,h1,h2.2,n,h3⟩,h4,h4.len⟩
theorem truthy_ok (S:St C P m H s) {v:Value} {x:V} {K:Bool→Prop} (hv:VR C.mg v x) (h:truthyV x H K) :
  wpAny (Md C) C.A (truthy v) (fun b s'=>St C P m H s'∧K b) E s:=by
 revert S hv h
 k_call_by "e" [C,P,m,H,s,E,v,x,K]
 cases x with
 | none=>obtain rfl:=hv;exact wpAny_pure ⟨S,h⟩
 | bool b=>obtain rfl:=hv;exact wpAny_truthy_bool ⟨S,h⟩
 | int i =>
  obtain ⟨t,rfl⟩:=hv
  refine truthy_int ⟨S,?_⟩
  have e:(i != 0)=decide (i≠0):=by by_cases q:i=0<;>simp [q]
  rw [e];exact h
 | bytes b =>
  obtain ⟨hz,t,rfl⟩:=hv
  refine truthy_bytes (by unfold SZ at hz;simp;exact Nat.le_trans ‹_› (by decide)) ⟨S.toks,?_⟩
  have e:((b.toArray.size:Int) != 0) = !b.isEmpty:=by cases b<;>simp;lia
  rw [e];exact h
 | ref a =>
  obtain rfl:=hv
  obtain ⟨b,e,h⟩:=oE_e h
  obtain ⟨xs,q,rfl⟩:=Option.map_eq_some_iff.mp e
  obtain ⟨hz,vs,hl,h4,hlen⟩:=S.seq q
  refine wpAny_truthy_list hl (by unfold SZ at hz;lia) ⟨S.toks,?_⟩
  have e:(!vs.isEmpty) = !xs.isEmpty:=by
   cases xs<;>simp_all [Array.isEmpty]
  rw [e];exact h
 | _=>exact False.elim h
theorem cmp_int (S:St C P m H s) {op:CmpOp} {a b:Int} {t u:Tok} {K:Bool→Prop} (h:cmpop op (.int a) (.int b) H K) :
  wpAny (Md C) C.A (compareOp op (.int a t) (.int b u)) (fun v s'=>∃ c,v = .bool c∧St C P m H s'∧K c) E s:=by
 cases op with
 | Eq=>exact eq_int ⟨_,rfl,S,by rw [show (a == b)=decide (a=b) from rfl];exact h⟩
 | NotEq=>exact ne_int ⟨_,rfl,S,by rw [show (a != b) = !decide (a=b) from rfl];exact h⟩
 | Lt=>exact lt_int ⟨_,rfl,S,h⟩
 | LtE=>exact le_int ⟨_,rfl,S,h⟩
 | Gt=>exact gt_int ⟨_,rfl,S,h⟩
 | GtE=>exact ge_int ⟨_,rfl,S,h⟩
 | _=>exact h.elim
end DL
end
section
namespace DL
variable {C:Cx} {P:Kp} {m:Loc} {H:Hp} {s:Shared} {Q:V→Hp→Prop} {E:Value→Shared→Prop}
theorem VRs.append {mg:MG} {vs ws:List Value} {xs ys:List V} (h:VRs mg vs xs) (k:VRs mg ws ys):VRs mg (vs++ws) (xs++ys):=by
 induction h with
 | nil=>exact k
 | cons a _ ih=>exact .cons a ih
theorem VRs.get {mg:MG} {vs:List Value} {xs:List V} (h:VRs mg vs xs):∀ {k:Nat} {x:V},xs[k]?=some x→∃ v,vs[k]?=some v∧VR mg v x:=by
 induction h with
 | nil=>intro k x e;simp at e
 | cons a _ ih =>
  intro k x e
  cases k with
  | zero=>simp at e;subst e;exact ⟨_,by simp,a⟩
  | succ k=>simp at e;simpa using ih e
theorem VRs.take {mg:MG} {vs:List Value} {xs:List V} (h:VRs mg vs xs):∀ n,VRs mg (vs.take n) (xs.take n):=by
 induction h with
 | nil=>intro n;simp;exact .nil
 | cons a _ ih =>
  intro n
  cases n with
  | zero=>exact .nil
  | succ n=>simpa using .cons a (ih n)
theorem VRs.drop {mg:MG} {vs:List Value} {xs:List V} (h:VRs mg vs xs):∀ n,VRs mg (vs.drop n) (xs.drop n):=by
 induction h with
 | nil=>intro n;simp;exact .nil
 | cons a b ih =>
  intro n
  cases n with
  | zero=>exact .cons a b
  | succ n=>simpa using ih n
theorem St.list (S:St C P m H s) {a:Addr} {xs:List V} (h:H a=some (.list xs)):xs.length≤SZ∧∃ vs,s.heap.IsList a vs∧VRs C.mg vs.toList xs∧vs.size=xs.length:=S.seq (by rw [h];rfl)
theorem St.plist (S:St C P m H s) {a:Addr} {xs:List V} (h:H a=some (.list xs)):xs.length≤SZ∧∃ vs n,s.heap.get? a=some { cls:=.type "list",data:=.seq vs n }∧VRs C.mg vs.toList xs∧vs.size=xs.length:=by
 obtain ⟨_,ob,h1,hz,vs,n,rfl,h4⟩:=S.objs a _ h
 exact ⟨hz,vs,n,h1,h4,by simpa using h4.len⟩
theorem St.tuple (S:St C P m H s) {a:Addr} {xs:List V} (h:H a=some (.tuple xs)):xs.length≤SZ∧∃ vs n,s.heap.get? a=some { cls:=.type "tuple",data:=.seq vs n }∧IsTup s.heap a vs∧VRs C.mg vs.toList xs∧vs.size=xs.length:=by
 obtain ⟨_,ob,h1,hz,vs,n,rfl,h4⟩:=S.objs a _ h
 exact ⟨hz,vs,n,h1,⟨_,h1,rfl,n,rfl⟩,h4,by simpa using h4.len⟩
theorem St.barr (S:St C P m H s) {a:Addr} {b:List UInt8} (h:H a=some (.barr b)):b.length≤SZ∧s.heap.get? a=some { cls:=.type "bytearray",data:=.bytearray b.toArray }:=by
 obtain ⟨_,ob,h1,hz,rfl⟩:=S.objs a _ h
 exact ⟨hz,h1⟩
theorem cmp_bytes (S:St C P m H s) {op:CmpOp} {a b:List UInt8} {t u:Tok} {K:Bool→Prop} (h:cmpop op (.bytes a) (.bytes b) H K) :
  wpAny (Md C) C.A (compareOp op (.bytes a.toArray t) (.bytes b.toArray u)) (fun v s'=>∃ c,v = .bool c∧St C P m H s'∧K c) E s:=by
 cases op with
 | Eq=>exact eq_bytes ⟨_,rfl,S,by
  have e:(a.toArray.toList == b.toArray.toList)=decide (a=b):=by rw [Bool.eq_iff_iff];simp
  rw [e];exact h⟩
 | NotEq=>exact ne_bytes ⟨_,rfl,S,by
  have e:(a.toArray.toList != b.toArray.toList) = !decide (a=b):=by rw [Bool.eq_iff_iff];simp
  rw [e];exact h⟩
 | Lt=>exact compareOp_gives (op:=.Lt) (typeIs_bytes s _ t) (typeIs_bytes s _ u) FX.slot_bytes_lt FX.entry_bytes_lt (FX.args_bytes_lt_2 _ _) (gives_bytes_lt _ _ t u) (fun e=>nomatch e) ⟨_,rfl,S,h⟩
 | Gt=>exact compareOp_gives (op:=.Gt) (typeIs_bytes s _ t) (typeIs_bytes s _ u) FX.slot_bytes_gt FX.entry_bytes_gt (FX.args_bytes_gt_2 _ _) (gives_bytes_gt _ _ t u) (fun e=>nomatch e) ⟨_,rfl,S,h⟩
 | _=>exact h.elim
theorem isNone_e {v:V} {P:Prop} (h:isNone v P):v = .none∧P:=by
 cases v with
 | none=>exact ⟨rfl,h⟩
 | _=>exact False.elim h
theorem cmp_isnot (S:St C P m H s) {v:Value} {x y:V} {u:Value} {K:Bool→Prop} (hv:VR C.mg v x) (hu:VR C.mg u y) (h:cmpop .IsNot x y H K) :
  wpAny (Md C) C.A (compareOp .IsNot v u) (fun v s'=>∃ c,v = .bool c∧St C P m H s'∧K c) E s:=by
 obtain ⟨e,h1⟩:=isNone_e h
 clear h
 subst e
 obtain rfl:=hu
 have h:=h1
 cases x with
 | none=>obtain rfl:=hv;exact isnot_none_none ⟨_,rfl,S,h⟩
 | int i=>obtain ⟨t,rfl⟩:=hv;exact isnot_int_none ⟨_,rfl,S,h⟩
 | ref a=>obtain rfl:=hv;exact isnot_ref_none ⟨_,rfl,S,h⟩
 | _=>exact False.elim h
theorem cmp_is (S:St C P m H s) {v:Value} {x y:V} {u:Value} {K:Bool→Prop} (hv:VR C.mg v x) (hu:VR C.mg u y) (h:cmpop .Is x y H K) :
  wpAny (Md C) C.A (compareOp .Is v u) (fun v s'=>∃ c,v = .bool c∧St C P m H s'∧K c) E s:=by
 obtain ⟨e,h1⟩:=isNone_e h
 clear h
 subst e
 obtain rfl:=hu
 have h:=h1
 cases x with
 | none=>obtain rfl:=hv;exact is_none_none ⟨_,rfl,S,h⟩
 | int i=>obtain ⟨t,rfl⟩:=hv;exact is_int_none ⟨_,rfl,S,h⟩
 | ref a=>obtain rfl:=hv;exact is_ref_none ⟨_,rfl,S,h⟩
 | _=>exact False.elim h
theorem add_neg {k b:Int} (h:k<0):k+b<b:=by have:=Int.add_lt_add_right h b;rwa [Int.zero_add] at this
theorem pyIx_e {i:Int} {n j:Nat} (h:pyIx i n=some j):(0≤i∧i<n)∧j=i.toNat∨(i<0∧0≤i+n)∧j=(i+n).toNat:=by
 unfold pyIx at h
 by_cases c:0≤i∧i<n
 ·rw [if_pos c] at h;exact .inl ⟨c,(Option.some.inj h).symm⟩
 ·rw [if_neg c] at h
  by_cases c:i<0∧0≤i+n
  ·rw [if_pos c] at h;exact .inr ⟨c,(Option.some.inj h).symm⟩
  ·rw [if_neg c] at h;contradiction
theorem pyIx_some {i:Int} {n j:Nat} (h:pyIx i n=some j):j<n∧-(n:Int)≤i∧i<n:=by
 revert h
 k_call_by "e" [i,n,j]
 rcases pyIx_e h with ⟨c,rfl⟩ | ⟨c,rfl⟩
 ·exact ⟨(Int.toNat_lt c.1).mpr c.2,Int.le_trans (Int.neg_nonpos_of_nonneg (Int.natCast_nonneg _)) c.1,c.2⟩
 ·exact ⟨(Int.toNat_lt c.2).mpr (add_neg c.1),Int.neg_le_of_neg_le (Int.le_of_sub_nonneg (by rw [Int.sub_neg,Int.add_comm];exact c.2)),Int.lt_of_lt_of_le c.1 (Int.natCast_nonneg _)⟩
theorem sub_plain {sl:Expr} (hs:isSlice sl=false) (o i:Value):subscripted sl false o i=operate [o,i] (getItem o i):=by
 cases sl<;>first | rfl | contradiction
theorem at_e {xs:List V} {k:Int} {z:V} (e:at? xs k=some z):∃ j,pyIx k xs.length=some j∧xs[j]?=some z:=by
 unfold at? at e
 cases q:pyIx k xs.length with
 | none=>rw [q] at e;contradiction
 | some j=>rw [q] at e;exact ⟨j,rfl,e⟩
theorem pyIx_seq {k:Int} {n:Nat}:pyIx k n=seqIndex? k n:=by
 unfold pyIx seqIndex?
 by_cases c:k<0
 ·have:¬ (0≤k∧k<(n:Int)):=fun q=>absurd q.1 (Int.not_le.mpr c)
  rw [if_neg this]
  simp only [c,if_true,true_and]
  by_cases c3:0≤k+(n:Int)
  ·have:k+(n:Int)<n:=add_neg c
   simp [c3,this]
  ·simp [c3]
 ·by_cases c4:k<n
  ·have:0≤k:=by exact Int.not_lt.mp ‹_›
   simp [c,c4,this]
  ·simp [c,c4]
theorem index_ok (S:St C P m H s) {value slice:Expr} {o i:Value} {x y:V} (ho:VR C.mg o x) (hi:VR C.mg i y) (hs:isSlice slice=false) (h:indexop x y H Q) :
  wpAny (Md C) C.A (subscriptTail value slice o i) (Res C P m Q) E s:=by
 obtain u0:=()
 revert S ho hi hs h
 k_call_by "e" [C,P,m,H,s,Q,E,value,slice,o,i,x,y,u0]
 cases x with
 | ref a =>
  obtain rfl:=ho
  obtain ⟨k,t,e0,h1⟩:=iI_v hi h
  clear hi h
  subst e0
  obtain ⟨z,e,h⟩:=oE_e h1
  clear h1
  revert e h
  k_call_by "e" [a,k,t,z]
  unfold atO at e
  cases q:oA (H a) with
  | none=>rw [q] at e;contradiction
  | some xs =>
   rw [q] at e
   obtain ⟨j,hj,e⟩:=at_e e
   have hp:=pyIx_some hj
   rcases oA_e q with q | q
   ·obtain ⟨hz,vs,hl,hv,hlen⟩:=S.seq q
    obtain ⟨u,hu,hr⟩:=hv.get e
    unfold SZ at hz
    refine tail_any hl.typeIs slot_list_getitem.lookup ?_ (sub_plain hs _ _)
    rcases pyIx_e hj with ⟨c,rfl⟩ | ⟨c,rfl⟩
    ·exact wpAny_getItem_list hl c.1 (by lia) (x:=u) (by simpa using hu) (Res.of hr S h)
    ·exact wpAny_getItem_list_neg hl c.1 (by lia) (by lia) (x:=u) (by rw [hlen];simpa using hu) (Res.of hr S h)
   ·obtain ⟨hz,vs,n,hob,hl,hv,hlen⟩:=S.tuple q
    obtain ⟨u,hu,hr⟩:=hv.get e
    unfold SZ at hz
    refine tail_any (T:="tuple") (by obtain ⟨ob,h1,h2,_⟩:=hl;exact ⟨ob,h1,h2⟩) F.slot_tuple_getitem.lookup ?_ (sub_plain hs _ _)
    exact getItem_tuple hl (by lia) (by lia) (j:=j) (by rw [hlen,← pyIx_seq];exact hj) (x:=u) (by simpa using hu) (Res.of hr S h)
 | bytes b =>
  obtain ⟨hz,t',rfl⟩:=ho
  obtain ⟨k,t,e0,h1⟩:=iI_v hi h
  clear hi h
  subst e0
  obtain ⟨z,e,h⟩:=oE_e h1
  clear h1
  revert hz e h
  k_call_by "e" [b,t',k,t,z]
  unfold SZ at hz
  unfold atB? at e
  cases hj:pyIx k b.length with
  | none=>rw [hj] at e;contradiction
  | some j =>
   rw [hj] at e
   have hp:=pyIx_some hj
   refine tail_any (typeIs_bytes s _ _) FB.slot_bytes_getitem.lookup ?_ (sub_plain hs _ _)
   refine getItem_gives (typeIs_bytes s _ t') (by decide) FB.slot_bytes_getitem FB.entry_bytes_getitem (FB.args_bytes_getitem_2 _ _) (gives_bytes_getitem _ k t' t z ?_ ?_) (Res.of (z:=.int z.toNat) ⟨_,rfl⟩ S.toks h)
   ·simp only [Builtin.Bytes.fitsIndex,Bool.and_eq_true,decide_eq_true_eq]
    have hs:(b.length:Int)≤1000000:=Int.ofNat_le.mpr hz
    exact ⟨Int.le_trans (Int.neg_le_neg (Int.le_trans hs (by decide:(1000000:Int)≤2^63))) hp.2.1,Int.lt_of_lt_of_le hp.2.2 (Int.le_trans hs (by decide))⟩
   ·rw [List.size_toArray,← pyIx_seq,hj];simpa using e
 | _=>exact False.elim h
end DL
end
section
namespace DL
variable {C:Cx} {P:Kp} {m:Loc} {H:Hp} {s:Shared} {Q:V→Hp→Prop} {E:Value→Shared→Prop}
theorem cutOf_len {α:Type} (xs:List α) (lo hi:Option Int):(cutOf xs lo hi).length≤xs.length:=by
 unfold cutOf;rw [List.length_take,List.length_drop];exact Nat.le_trans (Nat.min_le_right _ _) (Nat.sub_le _ _)
theorem part_is {mg:MG} {v:Value} {x:V} {p:Option Int} (hv:VR mg v x) (h:partI x=some p):IsPart v p:=by
 cases x with
 | none=>obtain rfl:=hv;cases h;exact .none
 | int i=>obtain ⟨t,rfl⟩:=hv;cases h;exact .int i t
 | _=>cases h
theorem slice_ok (S:St C P m H s) {value sl:Expr} {o l u:Value} {x y z:V} {a:Addr} (ho:VR C.mg o x) (hl:VR C.mg l y) (hu:VR C.mg u z)
  (ha:s.heap.IsSliceOf a l u .none) (hs:∀ o,subscripted sl false o (.ref a)=operate [.ref a,o] (getItem o (.ref a))) (h:sliceop x y z H Q) :
  wpAny (Md C) C.A (subscriptTail value sl o (.ref a)) (Res C P m Q) E s:=by
 revert S ho hl hu ha hs h
 k_call_by "e" [C,P,m,H,s,Q,E,value,sl,o,l,u,x,y,z,a]
 obtain ⟨lo,e1,h1⟩:=oE_e h
 clear h
 obtain ⟨hi,e2,h⟩:=oE_e h1
 clear h1
 have p1:=part_is hl e1
 have p2:=part_is hu e2
 clear hl hu e1 e2
 cases x with
 | ref b =>
  obtain rfl:=ho
  obtain ⟨xs,q,h1⟩:=oE_e h
  clear h
  obtain ⟨hz,vs,hL,hv,hlen⟩:=S.list (oL_e q)
  refine tail_any hL.typeIs slot_list_getitem.lookup ?_ (hs _)
  have e:(slicePick vs lo hi none).toList=cutOf vs.toList lo hi:=by
   unfold slicePick cutOf
   rw [sliceBounds_plain]
   simp only [sliceRange_one,pick_run,Array.length_toList]
  have hv2:VRs C.mg (slicePick vs lo hi none).toList (cutOf xs lo hi):=by
   rw [e]
   have hl2:vs.toList.length=xs.length:=hlen
   unfold cutOf
   rw [hl2]
   exact (hv.drop _).take _
  refine wpAny_getItem_list_slice hL ha p1 p2 .none (by simp) ?_ (SZ_line (by rw [hlen];exact hz))
  have S':=S.new { cls:=.type "list",data:=.seq (slicePick vs lo hi none) } (o:=.list (cutOf xs lo hi)) (t:=s.toks) rfl ⟨Nat.le_trans (cutOf_len _ _ _) hz,_,0,rfl,hv2⟩
  exact Res.of (z:=.ref _) rfl S'.2 (h1 _ S'.1)
 | bytes b =>
  obtain ⟨hz,t,rfl⟩:=ho
  refine tail_any (typeIs_bytes s _ _) FB.slot_bytes_getitem.lookup ?_ (hs _)
  have e:KBy.picked b.toArray lo hi=(cutOf b lo hi).toArray:=by
   rw [KBc.picked_eq]
   unfold cutOf
   simp only [List.size_toArray]
  refine getItem_meets (typeIs_bytes s _ t) (by decide) FB.slot_bytes_getitem FB.entry_bytes_getitem (FB.args_bytes_getitem_2 _ _) (KBc.meets_slice2 b.toArray t a p1 p2) ⟨ha,?_,fun t' k=>?_⟩
  ·have:=KBc.size_picked_le b.toArray lo hi
   rw [List.size_toArray] at this
   exact SZ_line (Nat.le_trans this hz)
  ·rw [e]
   exact Res.of (z:=.bytes (cutOf b lo hi)) ⟨Nat.le_trans (cutOf_len _ _ _) hz,_,rfl⟩ S.toks h
 | _=>exact False.elim h
noncomputable def allNews (h:Heap) (L:Addr):List (Addr×Obj):=(List.range h.objs.size).filterMap fun b=>if b=L then none else (h.get? b).map fun o=>(b,o)
theorem mem_allNews {h:Heap} {L b:Addr} {o:Obj}:(b,o)∈allNews h L↔b≠L∧h.get? b=some o:=by
 k_call_by "e" [h,L,b,o]
 unfold allNews
 rw [List.mem_filterMap]
 constructor
 ·rintro ⟨c,_,hc⟩
  split at hc
  ·cases hc
  ·rename_i hne
   cases q:h.get? c with
   | none=>rw [q] at hc;cases hc
   | some x=>rw [q] at hc;cases hc;exact ⟨hne,q⟩
 ·rintro ⟨h1,h2⟩
  exact ⟨b,List.mem_range.mpr (Heap.lt_size h2),by rw [if_neg h1,h2];rfl⟩
theorem empty_get (a:Addr):(({}:Heap).get? a)=none:=by
 cases q:(({}:Heap).get? a) with
 | none=>rfl
 | some o=>exact absurd (Heap.lt_size q) (Nat.not_lt_zero _)
theorem St.lib (S:St C P m H s):∃ mc,Fr {} C.env.locals s.heap mc∧News {} C.env.locals s.heap (allNews s.heap C.env.locals) ∧
  ∀ h' t more,Fr {} C.env.locals h' mc→News {} C.env.locals h' (more++allNews s.heap C.env.locals)→St C P m H { s with heap:=h',toks:=t }:=by
 revert S
 k_call_by "e" [C,P,m,H,s]
 obtain ⟨mc,hn,hm⟩:=S.ns
 refine ⟨mc,⟨hn,fun b o e=>(by rw [empty_get] at e;cases e),Nat.zero_le _⟩,fun p hp=>⟨(mem_allNews.mp hp).2,(mem_allNews.mp hp).1,empty_get _⟩,fun h' t more F N=>?_⟩
 have keep:∀ b,b≠C.env.locals→∀ o,s.heap.get? b=some o→h'.get? b=some o:=fun b hb o e=>(N (b,o) (List.mem_append_right _ (mem_allNews.mpr ⟨hb,e⟩))).1
 obtain ⟨ol,es,ep,hol,hdl,_⟩:=hn
 have keepC:∀ {c v},s.heap.IsCell c v→h'.IsCell c v:=fun {c v} hc=>by
  obtain ⟨x,h1,h2⟩:=hc
  refine ⟨x,keep c (fun q=>?_) x h1,h2⟩
  rw [q,hol] at h1;cases h1;rw [hdl] at h2;cases h2
 exact {
  pbase:=S.pbase
  keep:=fun b o e=>keep b (fun q=>by rw [q,S.pL] at e;cases e) o (S.keep b o e)
  objs:=fun a o e=>by
   obtain ⟨p,ob,h1,h2⟩:=S.objs a o e
   refine ⟨p,ob,keep a (fun q=>?_) ob h1,h2⟩
   rw [q,hol] at h1;cases h1;exact h2.noDict.1 _ _ hdl
  pL:=S.pL
  ns:=⟨mc,F.ns,hm⟩
  own:=fun hw x a h1 h2=>let ⟨p,c,h3⟩:=S.own hw x a h1 h2;⟨p,c,keepC h3⟩
  cells:=fun x k v h1 h2 h3=>let ⟨a,u,h4,h5,h6⟩:=S.cells x k v h1 h2 h3;⟨a,u,h4,keepC h5,h6⟩
  fs:=fun f hf=>by
   obtain ⟨⟨o,es',ep',h1,r⟩,h2,h3⟩:=S.fs f hf
   exact ⟨⟨o,es',ep',keep f.1 h3 o h1,r⟩,h2,h3⟩
  gens:=S.gens
  os:=S.os }
theorem bin_bytes_add (S:St C P m H s) {a b:List UInt8} {t u:Tok} (hz:a.length+b.length≤SZ) (h:Q (.bytes (a++b)) H) :
  wpAny (Md C) C.A (binaryOp .Add (.bytes a.toArray t) (.bytes b.toArray u)) (Res C P m Q) E s:=by
 refine KBy.add_bytes (by unfold SZ at hz;simp only [List.size_toArray];exact Nat.le_trans ‹_› (by decide)) fun t' k=>?_
 have e:a.toArray++b.toArray=(a++b).toArray:=by simp
 rw [e]
 exact Res.of (z:=.bytes (a++b)) ⟨by rw [List.length_append];exact hz,_,rfl⟩ S.toks h
theorem bin_bytes_mul (S:St C P m H s) {a:List UInt8} {n:Int} {t u:Tok} (h1:a.length=1) (h2:0≤n) (h3:n≤1000000) (h:Q (.bytes (List.replicate n.toNat a).flatten) H) :
  wpAny (Md C) C.A (binaryOp .Mult (.bytes a.toArray t) (.int n u)) (Res C P m Q) E s:=by
 refine bytes_mul_any (by intro q;rw [q] at h1;cases h1) (by lia) (by exact Int.le_trans ‹_› (by decide)) (by simp [*]) fun t' k=>?_
 refine Res.of (z:=.bytes _) ⟨?_,_,rfl⟩ S.toks h
 rw [List.length_flatten,List.map_replicate,List.sum_replicate_nat,h1]
 unfold SZ;simp [*]
theorem bin_list_add (S:St C P m H s) {a b:Addr} (h:addRef a b H Q):wpAny (Md C) C.A (binaryOp .Add (.ref a) (.ref b)) (Res C P m Q) E s:=by
 revert S h
 k_call_by "e" [C,P,m,H,s,Q,E,a,b]
 obtain ⟨xs,q1,h1⟩:=oE_e h
 obtain ⟨ys,q2,h⟩:=oE_e h1
 clear h1
 obtain ⟨_,vs,hl,hv,hlen⟩:=S.list (oL_e q1)
 obtain ⟨_,ws,hl',hw,hlen'⟩:=S.list (oL_e q2)
 obtain ⟨mc,F,N,back⟩:=S.lib
 refine add_lists (vs:=vs.toList) (ws:=ws.toList) F N (by simpa using hl) (by simpa using hl') (fun h' F' N'=>?_) (SZ_line (by simp only [Array.length_toList,hlen,hlen'];exact h.1))
 have S':=back h' s.toks [_] F' N'
 have g:=N' _ (.head _)
 have hf:=S.free (a:=s.heap.objs.size) (by cases q:s.heap.get? s.heap.objs.size with | none=>rfl | some o=>exact absurd (Heap.lt_size q) (Nat.lt_irrefl _))
 exact Res.of (z:=.ref _) rfl (S'.put (o:=.list (xs++ys)) hf.2 g.1 ⟨by rw [List.length_append];exact h.1,_,0,rfl,by simpa using hv.append hw⟩) (h.2 _ hf.1)
theorem binop_ok (S:St C P m H s) {op:Operator} {x y:V} {a b:Value} (ha:VR C.mg a x) (hb:VR C.mg b y) (h:binop op x y H Q) :
  wpAny (Md C) C.A (binaryOp op a b) (Res C P m Q) E s:=by
 revert S ha hb h
 k_call_by "e" [C,P,m,H,s,Q,E,op,x,y,a,b]
 cases x with
 | int i =>
  obtain ⟨t,rfl⟩:=ha
  obtain ⟨j,u,e,h1⟩:=iI_v hb h
  clear hb h
  subst e
  refine wpAny_mono (binI_ok (K:=fun i=>Q (.int i) H) S h1) (fun v s' h'=>?_) fun _ _ x=>x
  obtain ⟨i,⟨t',rfl⟩,S',q⟩:=h'
  exact Res.of (z:=.int i) ⟨_,rfl⟩ S' q
 | bytes i =>
  obtain ⟨_,t,rfl⟩:=ha
  cases y with
  | bytes b =>
   obtain ⟨_,u,rfl⟩:=hb
   obtain ⟨rfl,h1⟩:=opA_e h
   exact bin_bytes_add S h1.1 h1.2
  | int b =>
   obtain ⟨u,rfl⟩:=hb
   obtain ⟨rfl,h1⟩:=opM_e h
   exact bin_bytes_mul S h1.1.1 h1.1.2.1 h1.1.2.2 h1.2
  | _=>exact False.elim h
 | ref i =>
  obtain rfl:=ha
  obtain ⟨j,e,h1⟩:=iR_v hb h
  clear hb h
  subst e
  obtain ⟨rfl,h1⟩:=opA_e h1
  exact bin_list_add S h1
 | _=>exact False.elim h
end DL
end
section
namespace DL
theorem bltB_nat:∀ a b:List UInt8,bltB a b=decide (a.map UInt8.toNat<b.map UInt8.toNat)
 | [],[]=>by simp [bltB]
 | [],_::_=>by simp [bltB]
 | _::_,[]=>by simp [bltB]
 | x::a,y::b=>by
  simp only [bltB,List.map_cons,List.cons_lt_cons_iff]
  by_cases h:x=y
  ·subst h;simp [bltB_nat a b]
  ·have h2:x.toNat≠y.toNat:=fun e=>h (UInt8.toNat_inj.mp e)
   simp [h,h2]
@[reducible] def bytesKind:KeyKind where
 α:=List Nat
 blt a b:=decide (a<b)
 irrefl a:=by simpa using List.lt_irrefl a
 trans a b c h1 h2:=by simp only [decide_eq_true_eq] at *;exact List.lt_trans h1 h2
 negTrans a b c h:=by
  simp only [decide_eq_true_eq] at *
  by_cases hab:a<b
  ·exact .inl hab
  ·exact .inr (List.lt_of_le_of_lt (List.not_lt.mp hab) h)
 total a b h1 h2:=by simp only [decide_eq_false_iff_not] at *;exact List.le_antisymm (List.not_lt.mp h2) (List.not_lt.mp h1)
 keyOf v:=match v with | .bytes x _=>some (x.toList.map UInt8.toNat) | _=>none
 dflt:=[]
theorem oneLt_bytes {prog:Program} {w:World} {A:Around} {E:Value→Shared→Prop} {s:Shared} {a b:Array UInt8} {t u:Tok} {Q:Bool→Shared→Prop}
  (h:Q (bltB a.toList b.toList) s):wpAny (model prog w) A (oneLt' true (.bytes a t) (.bytes b u)) Q E s:=by
 rw [oneLt'_eq]
 simp only [if_true]
 refine wpAny_bind (wpAny_cRoomFor_byValue rfl ?_)
 refine wpAny_bind (wpAny_callSpecialIfBound?_slot (typeIs_bytes s a t) FX.slot_bytes_lt (call_gives FX.slot_bytes_lt (typeIs_bytes s a t) FX.entry_bytes_lt (FX.args_bytes_lt_2 _ _) (gives_bytes_lt a b t u) ?_))
 exact wpAny_truthy_bool h
theorem bytesKind_oneLt:bytesKind.OneLt:=by
 intro prog w A E s x y a b Q ha hb h
 cases x<;>simp only [bytesKind,reduceCtorEq,Option.some.injEq] at ha
 cases y<;>simp only [bytesKind,reduceCtorEq,Option.some.injEq] at hb
 cases ha;cases hb
 refine oneLt_bytes ?_
 rw [bltB_nat];exact h
noncomputable def bytesOf:Value→List UInt8
 | .bytes b _=>b.toList
 | _=>[]
inductive BytesAre:List Value→List (List UInt8)→Prop where
 | nil:BytesAre [] []
 | cons (b:List UInt8) (t:Tok) {vs bs}:b.length≤SZ→BytesAre vs bs→BytesAre (.bytes b.toArray t::vs) (b::bs)
theorem BytesAre.all {vs:List Value} {ss:List (List UInt8)} (r:BytesAre vs ss):∀ v,v∈vs→∃ x t,v = .bytes (List.toArray x) t∧x.length≤SZ:=by
 induction r with
 | nil=>intro v hv;cases hv
 | cons x t hz _ ih =>
  intro v hv
  rcases List.mem_cons.mp hv with rfl | hv
  ·exact ⟨x,t,rfl,hz⟩
  ·exact ih v hv
theorem BytesAre.of {vs:List Value} {ss:List (List UInt8)} (r:BytesAre vs ss):vs.map bytesOf=ss:=by
 induction r with
 | nil=>rfl
 | cons x t _ _ ih=>rw [List.map_cons,ih];rfl
theorem bytesAre_map:∀ (vs:List Value),(∀ v,v∈vs→∃ x t,v = .bytes (List.toArray x) t∧x.length≤SZ)→BytesAre vs (vs.map bytesOf)
 | [],_=>.nil
 | v::vs,h=>by
  obtain ⟨x,t,rfl,hz⟩:=h v (List.mem_cons_self ..)
  exact .cons x t hz (bytesAre_map vs fun u hu=>h u (List.mem_cons_of_mem _ hu))
theorem BytesAre.vrs {mg:MG} {vs:List Value} {ss:List (List UInt8)} (r:BytesAre vs ss):VRs mg vs (ss.map V.bytes):=by
 induction r with
 | nil=>exact .nil
 | cons x t hz _ ih=>exact .cons ⟨hz,t,rfl⟩ ih
theorem bytes_are {mg:MG} {vs:List Value} {xs:List V} (r:VRs mg vs xs):∀ {bs:List (List UInt8)},isBytesL xs=some bs→BytesAre vs bs:=by
 induction r with
 | nil=>intro ns e;obtain rfl:=Option.some.inj e;exact .nil
 | @cons _ x _ _ hv _ ih =>
  intro ns e
  cases x with
  | bytes b =>
   obtain ⟨hz,t,rfl⟩:=hv
   obtain ⟨ms,q,rfl⟩:=Option.map_eq_some_iff.mp e
   exact .cons b t hz (ih q)
  | _=>contradiction
theorem BytesAre.keysOf {vs:List Value} {ss:List (List UInt8)} (hS:BytesAre vs ss):KeysOf bytesKind (pairsOf vs):=by
 intro p hp
 rw [pairsOf_toList] at hp
 obtain ⟨x,t,e,_⟩:=hS.all _ (mem_zip_self hp).2
 exact ⟨x.map UInt8.toNat,by rw [e]⟩
theorem KK_bytes {xs:Array Keyed} {i:Nat} (hi:i<xs.size) {x:List UInt8} {t:Tok} {q:Value} (hx:xs[i]=(.bytes x.toArray t,q)):KK bytesKind xs i=x.map UInt8.toNat:=by
 unfold KK;rw [getElem?_pos xs i hi,hx];rfl
theorem mapM_first_bytes {vs:List Value} {ss:List (List UInt8)} (r:BytesAre vs ss):vs.mapM firstOfTuple'=pure (vs.map fun _=>none):=by
 induction r with
 | nil=>simp
 | cons x t _ _ ih =>
  rw [List.mapM_cons,show firstOfTuple' (.bytes x.toArray t)=pure none from rfl,ih];simp
theorem mapM_typeOf_bytes {vs:List Value} {ss:List (List UInt8)} (r:BytesAre vs ss):vs.mapM typeOf=pure (vs.map fun _=>Value.type "bytes"):=by
 induction r with
 | nil=>simp
 | cons x t _ _ ih =>
  rw [List.mapM_cons,ih]
  show (pure (Value.type "bytes") >>= fun b=>pure _ >>= fun bs=>pure (b::bs))=_
  simp
theorem keyKind_bytes {v₁ v₂:Value} {vs:List Value} {ss:List (List UInt8)} (hS:BytesAre (v₁::v₂::vs) ss):keyKind' (v₁::v₂::vs).toArray=pure oneType':=by
 rw [keyKind'_eq,List.mapM_toArray,mapM_first_bytes hS]
 simp only [map_pure,pure_bind]
 rw [if_neg (by simp),if_neg (by simp)]
 rw [oneTypeOnly'_eq,List.mapM_toArray,mapM_typeOf_bytes hS]
 simp only [map_pure,pure_bind]
 have hall:((List.map (fun _=>Value.type "bytes") (v₁::v₂::vs)).toArray.all fun x=>x == Value.type "bytes")=true:=by
  simp only [List.all_toArray,List.all_map,List.all_eq_true]
  intro _ _
  rfl
 have h0:(List.map (fun _=>Value.type "bytes") (v₁::v₂::vs)).toArray[0]?=some (Value.type "bytes"):=by simp
 rw [h0]
 simp only [hall,if_true,pure_bind,Option.isSome_some]
theorem sorted_out_bytes {vs:List Value} {ss:List (List UInt8)} (hS:BytesAre vs ss) {xs:Array Keyed} (hp:xs.Perm (pairsOf vs)) (hs:SortedToK bytesKind xs (pairsOf vs).size) :
  ∃ ss',BytesAre (xs.map (·.2)).toList ss'∧SortedOf ss ss':=by
 revert hS hp hs
 k_call_by "e" [vs,ss,xs]
 have hl:xs.toList.Perm (vs.zip vs):=by rw [← pairsOf_toList];exact Array.perm_iff_toList_perm.mp hp
 have hmem:∀ p,p∈xs.toList→p.1=p.2∧p.1∈vs:=fun p hp'=>mem_zip_self (hl.mem_iff.mp hp')
 refine ⟨xs.toList.map (fun p=>bytesOf p.1),?_,?_,?_⟩
 ·have e:(xs.map (·.2)).toList=xs.toList.map (·.1):=by
   rw [Array.toList_map];exact List.map_congr_left fun p hp'=>(hmem p hp').1.symm
  rw [e]
  have h1:=bytesAre_map (xs.toList.map (·.1)) (by
   intro v hv
   obtain ⟨p,hp',rfl⟩:=List.mem_map.mp hv
   exact hS.all _ (hmem p hp').2)
  rwa [List.map_map] at h1
 ·obtain h1:=hl.map (fun p=>bytesOf p.1)
  have e2:(vs.zip vs).map (fun p=>bytesOf p.1)=ss:=by
   have:(vs.zip vs).map (fun p=>bytesOf p.1)=((vs.zip vs).map Prod.fst).map bytesOf:=by rw [List.map_map];rfl
   rw [this,List.map_fst_zip (Nat.le_refl _),hS.of]
  rwa [e2] at h1
 ·rw [List.pairwise_iff_getElem]
  intro i j hi hj hij
  have hi':i<xs.size:=by simpa using hi
  have hj':j<xs.size:=by simpa using hj
  obtain h1:=hs i j (Nat.le_of_lt hij) (by rw [← hp.size_eq];exact hj')
  obtain ⟨x,t,ex,_⟩:=hS.all _ (hmem xs[i] (by simp)).2
  obtain ⟨y,u,ey,_⟩:=hS.all _ (hmem xs[j] (by simp)).2
  rw [KK_bytes hi' (x:=x) (t:=t) (q:=xs[i].2) (Prod.ext ex rfl),KK_bytes hj' (x:=y) (t:=u) (q:=xs[j].2) (Prod.ext ey rfl)] at h1
  simp only [List.getElem_map,Array.getElem_toList]
  rw [show bytesOf xs[i].1=x by rw [ex];rfl,show bytesOf xs[j].1=y by rw [ey];rfl,bltB_nat]
  exact h1
variable {C:Cx} {P:Kp} {m:Loc} {H:Hp} {s:Shared} {Q:V→Hp→Prop} {E:Value→Shared→Prop}
theorem call_sorted (S:St C P m H s) {a:Addr} {xs:List V} {bs:List (List UInt8)} (q:H a=some (.list xs)) (e:isBytesL xs=some bs) (hn:bs.length≤8)
  (h:∀ c ys,H c=none→SortedOf bs ys→Q (.ref c) (upd H c (.list (ys.map V.bytes)))):wpAny (Md C) C.A (call (.builtin "sorted") [.ref a]) (Res C P m Q) E s:=by
 obtain ⟨hz,vs,hl,hv,hlen⟩:=S.list q
 have hS:=bytes_are hv e
 have hbl:vs.toList.length=bs.length:=by
  have:=congrArg List.length hS.of
  simpa using this
 refine sortedK (vs:=vs.toList) bytesKind_oneLt (by simpa using hl) hS.keysOf (fun v₁ v₂ rest e=>keyKind_bytes (by rw [← e];exact hS)) (by lia) fun st' hp hs=>?_
 obtain ⟨ss',h1,h2⟩:=sorted_out_bytes hS hp hs
 obtain ⟨k,hk⟩:=sortedAll_at s.heap vs.toList ((arrOf st').map (·.2))
 obtain hf:=S.free (a:=s.heap.objs.size+1) (by cases q:s.heap.get? (s.heap.objs.size+1) with | none=>rfl | some o=>exact absurd (Heap.lt_size q) (Nat.not_lt.mpr (Nat.le_succ _)))
 have S':St C P m H { s with heap:=sortedAll s.heap vs.toList ((arrOf st').map (·.2)),toks:=s.toks }:=S.grow fun _ _=>sortedAll_old
 refine Res.of (z:=.ref _) rfl (S'.put (o:=.list (ss'.map V.bytes)) hf.2 hk ⟨?_,_,_,rfl,h1.vrs⟩) (h _ _ hf.1 h2)
 rw [List.length_map,h2.1.length_eq];unfold SZ;exact Nat.le_trans ‹_› (by decide)
end DL
end
section
namespace DL
variable {C:Cx} {P:Kp} {m:Loc} {H:Hp} {s:Shared} {Q:V→Hp→Prop} {E:Value→Shared→Prop}
theorem ints_are {mg:MG} {vs:List Value} {xs:List V} (r:VRs mg vs xs):∀ {ns:List Int},isInts xs=some ns→IntsAre vs ns:=by
 induction r with
 | nil=>intro ns e;obtain rfl:=Option.some.inj e;exact .nil
 | @cons _ x _ _ hv _ ih =>
  intro ns e
  cases x with
  | int i =>
   obtain ⟨t,rfl⟩:=hv
   obtain ⟨ms,q,rfl⟩:=Option.map_eq_some_iff.mp e
   exact .cons i t (ih q)
  | _=>contradiction
theorem isInts_vInts:∀ ns:List Int,isInts (vInts ns)=some ns
 | []=>rfl
 | n::r=>by show (isInts (vInts r)).map (n::·)=_;rw [isInts_vInts r];rfl
theorem call_len (S:St C P m H s) {v:Value} {x:V} {k:Nat} (hv:VR C.mg v x) (e:lenOf x H=some k) (h:Q (.int k) H) :
  wpAny (Md C) C.A (call (.builtin "len") [v]) (Res C P m Q) E s:=by
 revert S hv e h
 k_call_by "e" [C,P,m,H,s,Q,E,v,x,k]
 cases x with
 | bytes b =>
  obtain ⟨hz,t,rfl⟩:=hv
  obtain rfl:=Option.some.inj e
  refine len_bytes (by unfold SZ at hz;simp;exact Nat.le_trans ‹_› (by decide)) ?_
  rw [List.size_toArray]
  exact Res.of (z:=.int _) ⟨_,rfl⟩ S.toks h
 | ref a =>
  obtain rfl:=hv
  obtain ⟨xs,q,rfl⟩:=Option.map_eq_some_iff.mp e
  obtain ⟨hz,vs,hl,hv,hlen⟩:=S.seq q
  refine len_list hl (by unfold SZ at hz;lia) ?_
  rw [hlen]
  exact Res.of (z:=.int _) ⟨_,rfl⟩ S.toks h
 | _=>contradiction
theorem call_divmod (S:St C P m H s) {a b:Int} {t u:Tok} (h1:0<b) (h2:b<DIV) (h:∀ c,H c=none→Q (.ref c) (upd H c (.tuple [.int (a/b),.int (a%b)]))) :
  wpAny (Md C) C.A (call (.builtin "divmod") [.int a t,.int b u]) (Res C P m Q) E s:=by
 obtain ⟨mc,F,N,back⟩:=S.lib
 refine divmod_N F N (by exact Int.ne_of_gt ‹_›) (fun h' F' N'=>?_) (.inl (div_small h1 h2))
 obtain S':=back h' (s.toks+1+1) [_] F' N'
 obtain g:=N' _ (.head _)
 obtain hf:=S.free (a:=s.heap.objs.size) (by cases q:s.heap.get? s.heap.objs.size with | none=>rfl | some o=>exact absurd (Heap.lt_size q) (Nat.lt_irrefl _))
 rw [Int.fdiv_eq_ediv_of_nonneg _ (by exact Int.le_of_lt ‹_›),Int.fmod_eq_emod_of_nonneg _ (by exact Int.le_of_lt ‹_›)] at g
 exact Res.of (z:=.ref _) rfl (S'.put (o:=.tuple [.int (a/b),.int (a%b)]) hf.2 g.1 ⟨by unfold SZ;simp,_,0,rfl,.cons ⟨_,rfl⟩ (.cons ⟨_,rfl⟩ .nil)⟩) (h _ hf.1)
theorem call_max (S:St C P m H s) (hh:C.A.handled=none) {a b:Int} {t u:Tok} (h:Q (.int (max a b)) H) :
  wpAny (Md C) C.A (call (.builtin "max") [.int a t,.int b u]) (Res C P m Q) E s:=by
 refine max_two_ints hh fun h' tk hk=>?_
 by_cases c:b>a
 ·rw [if_pos c]
  have e:max a b=b:=by lia
  rw [e] at h
  exact Res.of (z:=.int b) ⟨_,rfl⟩ (S.grow hk) h
 ·rw [if_neg c]
  have e:max a b=a:=by grind
  rw [e] at h
  exact Res.of (z:=.int a) ⟨_,rfl⟩ (S.grow hk) h
theorem call_sum (S:St C P m H s) (hh:C.A.handled=none) {a:Addr} {xs:List V} {ns:List Int} (q:H a=some (.list xs)) (e:isInts xs=some ns) (h:Q (.int ns.sum) H) :
  wpAny (Md C) C.A (call (.builtin "sum") [.ref a]) (Res C P m Q) E s:=by
 obtain ⟨hz,vs,hl,hv,hlen⟩:=S.list q
 obtain hi:=ints_are hv e
 have hall:AllInts vs:=by have:=hi.allInts;simpa using this
 obtain ⟨ys,rfl⟩:=hall.items
 refine sum_intListG hh hl fun h' tk t' hk=>?_
 have e2:preSum (numAt ys) ys.size=ns.sum:=by
  obtain h3:=hi.numsOf
  rw [← h3,nums_intItems,preSum_eq,List.take_of_length_le (by simp)]
 rw [e2]
 exact Res.of (z:=.int _) ⟨_,rfl⟩ (S.grow hk) h
theorem ty_int:typeOf (.type "int")=pure (.type "type"):=by first | rfl | kernel_rfl
theorem ty_bytes:typeOf (.type "bytes")=pure (.type "type"):=by first | rfl | kernel_rfl
theorem ty_bool:typeOf (.type "bool")=pure (.type "type"):=by first | rfl | kernel_rfl
theorem sub_nb:isSubtype (.type "NoneType") (.type "bytes")=pure false:=by rw [isSubtype_type];kernel_rfl
theorem sub_bi:isSubtype (.type "bytes") (.type "int")=pure false:=by rw [isSubtype_type];kernel_rfl
theorem isinstance_false_bytes {b:Array UInt8} {u:Tok} {T:String} (hne:(Value.type "bytes" == Value.type T)=false) (hty:typeOf (.type T)=pure (.type "type")) (hsub:isSubtype (.type "bytes") (.type T)=pure false) :
  Meets (Builtin.«isinstance» ⟨[.bytes b u,.type T],[]⟩) (fun _ R s=>R (.ok (.ret (.bool false))) { s with toks:=s.toks+1 }) :=
 fun _ _ _ _ s hs=>by
  obtain ⟨h,g,d,t,os⟩:_:=s
  exact isinstance_outer (isinstance_nested_false_bytes hne hty hsub hs)
theorem call_isinstance_ok (S:St C P m H s) {v:Value} {x:V} {n:String} {b:Bool} (hv:VR C.mg v x) (e:isOf x n=some b) (h:Q (.bool b) H) :
  wpAny (Md C) C.A (call (.builtin "isinstance") [v,.type n]) (Res C P m Q) E s:=by
 revert S hv e h
 k_call_by "e" [C,P,m,H,s,Q,E,v,x,n,b]
 have fin:Res C P m Q (.bool b) { s with toks:=s.toks+1 }:=Res.of (z:=.bool b) rfl S.toks h
 cases x with
 | none =>
  obtain rfl:=hv
  rcases bO_e e with ⟨hn,rfl⟩ | e
  ·rcases Bool.or_eq_true_iff.mp hn with hn | hn
   ·obtain rfl:=eq_of_beq hn
    exact call_isinstance (isinstance_false_none (by decide) ty_int (by rw [isSubtype_type];kernel_rfl)) fin
   rcases Bool.or_eq_true_iff.mp hn with hn | hn
   ·obtain rfl:=eq_of_beq hn
    exact call_isinstance (isinstance_false_none (by decide) ty_bytes sub_nb) fin
   ·obtain rfl:=eq_of_beq hn
    exact call_isinstance (isinstance_false_none (by decide) ty_bool (by rw [isSubtype_type];kernel_rfl)) fin
  ·contradiction
 | int i =>
  obtain ⟨t,rfl⟩:=hv
  rcases bO_e e with ⟨hn,rfl⟩ | e
  ·obtain rfl:=eq_of_beq hn
   exact call_isinstance_yes (Tx:="int") rfl ty_int (by rw [isSubtype_type];kernel_rfl) (Res.of (z:=.bool true) rfl S h)
  rcases bO_e e with ⟨hn,rfl⟩ | e
  ·rcases Bool.or_eq_true_iff.mp hn with hn | hn
   ·obtain rfl:=eq_of_beq hn
    exact call_isinstance (isinstance_false_int (by decide) ty_bytes (by rw [isSubtype_type];kernel_rfl)) fin
   ·obtain rfl:=eq_of_beq hn
    exact call_isinstance (isinstance_false_int (by decide) ty_bool (by rw [isSubtype_type];kernel_rfl)) fin
  ·contradiction
 | bytes b =>
  obtain ⟨_,t,rfl⟩:=hv
  rcases bO_e e with ⟨hn,rfl⟩ | e
  ·obtain rfl:=eq_of_beq hn
   exact call_isinstance_yes (typeIs_bytes s _ t) ty_bytes (by rw [isSubtype_type];kernel_rfl) (Res.of (z:=.bool true) rfl S h)
  rcases bO_e e with ⟨hn,rfl⟩ | e
  ·obtain rfl:=eq_of_beq hn
   exact call_isinstance (isinstance_false_bytes (by decide) ty_int sub_bi) fin
  ·contradiction
 | _=>contradiction
theorem call_ord (S:St C P m H s) {c:UInt8} {t:Tok} (h:Q (.int c.toNat) H):wpAny (Md C) C.A (call (.builtin "ord") [.bytes [c].toArray t]) (Res C P m Q) E s:=by
 refine Calls.call_function_entry F.kind_ord F.plain_ord F.entry_ord (F.args_ord1 _) ?_
 unfold Builtin.«ord»
 refine wpAny_bind (m:=oneArg "ord" _) (wpAny_pure ?_)
 refine wpAny_bind (wpAny_of_eq (a:=none) rfl ?_)
 refine wpAny_bind (wpAny_bind (wpAny_of_eq (a:=some [c].toArray) rfl (wpAny_pure ?_)))
 show wpAny _ _ (retInt c.toNat) _ _ _
 unfold retInt
 exact wpAny_bind (wpAny_mkInt (wpAny_pure ⟨_,rfl,Res.of (z:=.int c.toNat) ⟨_,rfl⟩ S.toks h⟩))
theorem builtin_ok (S:St C P m H s) (hh:C.A.handled=none) {n:String} {vs:List Value} {xs:List V} (hv:VRs C.mg vs xs) (h:builtinCall n xs H Q) :
  wpAny (Md C) C.A (call (.builtin n) vs) (Res C P m Q) E s:=by
 revert S hh hv h
 k_call_by "e" [C,P,m,H,s,Q,E,n,vs,xs]
 refine it_e h ?_ ?_<;>clear h
 ·intro e h
  subst e
  obtain ⟨u,v,e,hu,h1⟩:=l1_v hv h
  clear hv h
  subst e
  obtain ⟨k,q,h⟩:=oE_e h1
  exact call_len S hu q h
 intro h
 refine it_e h ?_ ?_<;>clear h
 ·intro e h
  subst e
  obtain ⟨u,u',v,v',e,hu,hu',h1⟩:=l2_v hv h
  clear hv h
  subst e
  obtain ⟨a,t,e,h⟩:=iI_v hu h1
  clear hu h1
  subst e
  obtain ⟨b,t',e,h1⟩:=iI_v hu' h
  clear hu' h
  subst e
  exact call_divmod S h1.1.1 h1.1.2 h1.2
 intro h
 refine it_e h ?_ ?_<;>clear h
 ·intro e h
  subst e
  obtain ⟨u,u',v,v',e,hu,hu',h1⟩:=l2_v hv h
  clear hv h
  subst e
  obtain ⟨a,t,e,h⟩:=iI_v hu h1
  clear hu h1
  subst e
  obtain ⟨b,t',e,h1⟩:=iI_v hu' h
  clear hu' h
  subst e
  exact call_max S hh h1
 intro h
 refine it_e h ?_ ?_<;>clear h
 ·intro e h
  subst e
  obtain ⟨u,v,e,hu,h1⟩:=l1_v hv h
  clear hv h
  subst e
  obtain ⟨a,e,h⟩:=iR_v hu h1
  clear hu h1
  subst e
  obtain ⟨ys,q,h1⟩:=oE_e h
  obtain ⟨ns,q2,h2⟩:=oE_e h1
  exact call_sum S hh (oL_e q) q2 h2
 intro h
 refine it_e h ?_ ?_<;>clear h
 ·intro e h
  subst e
  obtain ⟨u,v,e,hu,h1⟩:=l1_v hv h
  clear hv h
  subst e
  obtain ⟨b,t,e,_,h⟩:=iB_v hu h1
  clear hu h1
  subst e
  obtain ⟨c,e,h1⟩:=ord1_e h
  clear h
  subst e
  exact call_ord S h1
 intro h
 refine it_e h ?_ ?_<;>clear h
 ·intro e h
  subst e
  obtain ⟨u,u',v,v',e,hu,hu',h1⟩:=l2_v hv h
  clear hv h
  subst e
  obtain ⟨t,e,h⟩:=iT_v hu' h1
  clear hu' h1
  subst e
  obtain ⟨b,q,h1⟩:=oE_e h
  exact call_isinstance_ok S hu q h1
 intro h
 refine it_e h ?_ fun h=>False.elim h<;>clear h
 ·intro e h
  subst e
  obtain ⟨u,v,e,hu,h1⟩:=l1_v hv h
  clear hv h
  subst e
  obtain ⟨a,e,h⟩:=iR_v hu h1
  clear hu h1
  subst e
  obtain ⟨ys,q,h1⟩:=oE_e h
  obtain ⟨bs,q2,h2⟩:=oE_e h1
  exact call_sorted S (oL_e q) q2 h2.1 h2.2
end DL
end
section
namespace DL
variable {C:Cx} {P:Kp} {m:Loc} {H:Hp} {s:Shared} {Q:V→Hp→Prop} {E:Value→Shared→Prop}
theorem VRs.one {mg:MG} {v:Value} {x:V} (h:VR mg v x):VRs mg [v] [x]:=.cons h .nil
theorem meth_append (S:St C P m H s) {a:Addr} {xs:List V} {v:Value} {x:V} (q:H a=some (.list xs)) (hx:VR C.mg v x) (hz:xs.length<SZ) (h:Q .none (upd H a (.list (xs++[x])))) :
  wpAny (Md C) C.A (call (.builtin "list.append") [.ref a,v]) (Res C P m Q) E s:=by
 obtain ⟨_,vs,n,h1,hv,hlen⟩:=S.plist q
 refine wpAny_list_append_plain ⟨n,h1⟩ (fun h' hp hs=>?_) (by rw [hlen];exact SZ_line (Nat.le_of_lt hz))
 obtain ⟨n',h2⟩:=hp
 refine Res.of (z:=.none) rfl (S.mut (o':=.list (xs++[x])) (t:=s.toks) q (fun b hb o e=>hs.extBut b o hb e) h2 ⟨?_,_,_,rfl,?_⟩) h
 ·rw [List.length_append];exact hz
 ·rw [Array.toList_push];exact hv.append (VRs.one hx)
theorem meth_insert (S:St C P m H s) {a:Addr} {xs:List V} {v:Value} {x:V} {u:Tok} (q:H a=some (.list xs)) (hx:VR C.mg v x) (hz:xs.length<SZ) (h:Q .none (upd H a (.list (x::xs)))) :
  wpAny (Md C) C.A (call (.builtin "list.insert") [.ref a,.int 0 u,v]) (Res C P m Q) E s:=by
 obtain ⟨_,vs,n,h1,hv,hlen⟩:=S.plist q
 refine call_meets PySem.F.slot_list_insert ⟨_,h1,rfl⟩ PySem.F.entry_list_insert (PySem.F.args_list_insert_3 _ _ _)
  (PySem.AutoSeq1.list_insert_list_int_val_1 a vs n 0 u v (by decide) (by rw [hlen];exact SZ_line (Nat.le_of_lt hz))) ⟨h1,?_⟩
 refine Res.of (z:=.none) rfl (S.mut (o':=.list (x::xs)) (t:=s.toks) (ob':=Obj.mapSeq (fun xs=>have k:=if (0:Int)<0 then ((0:Int)+(xs.size:Int)).toNat else min (0:Int).toNat xs.size;(xs.extract 0 k).push v++xs.extract k) { cls:=.type "list",data:=.seq vs n })
  q (fun b hb o e=>(Heap.get?_update_other _ _ (Ne.symm hb)).trans e) (Heap.get?_update_self _ h1 rfl) ⟨?_,_,_,rfl,?_⟩) h
 ·exact hz
 ·have e:(((vs.extract 0 0).push v)++vs.extract 0).toList=v::vs.toList:=by simp
  have e2:(if (0:Int)<0 then ((0:Int)+(vs.size:Int)).toNat else min (0:Int).toNat vs.size)=0:=by simp
  simp only [e2]
  rw [e]
  exact .cons hx hv
theorem meth_extend (S:St C P m H s) {a b:Addr} {xs ys:List V} (q:H a=some (.list xs)) (q':H b=some (.list ys)) (hz:xs.length+ys.length≤SZ) (h:Q .none (upd H a (.list (xs++ys)))) :
  wpAny (Md C) C.A (call (.builtin "list.extend") [.ref a,.ref b]) (Res C P m Q) E s:=by
 obtain ⟨_,vs,n,h1,hv,hlen⟩:=S.plist q
 obtain ⟨_,ws,n',h2,hw,hlen'⟩:=S.plist q'
 have hle:vs.size+ws.size≤sizeLine:=by rw [hlen,hlen'];exact SZ_line hz
 refine call_meets PySem.F.slot_list_extend ⟨_,h1,rfl⟩ PySem.F.entry_list_extend (PySem.F.args_list_extend_2 _ _)
  (PySem.AutoSeq1.list_extend_list_list_0 a vs n b ws n' ?_ (by lia) (by exact Nat.le_trans ‹_› (by decide))) ⟨h1,h2,?_⟩
 ·simp only [Builtin.List.listTooLong,Bool.and_eq_true,decide_eq_true_eq,not_and]
  intro _;exact Nat.not_lt.mpr ‹_›
 refine Res.of (z:=.none) rfl (S.mut (o':=.list (xs++ys)) (ob':=Obj.mapSeq (fun x=>x++ws) { cls:=.type "list",data:=.seq vs n })
  q (fun b hb o e=>(Heap.get?_update_other _ _ (Ne.symm hb)).trans e) (Heap.get?_update_self _ h1 rfl) ⟨?_,_,_,rfl,?_⟩) h
 ·rw [List.length_append];exact hz
 ·rw [Array.toList_append];exact hv.append hw
namespace FX
theorem plainAttrs_bytearray:PlainAttrs "bytearray" :=
 ⟨⟨"bytearray.__getattribute__",by rw [typeLookup_type,builtinLookup_eq_fast];kernel_rfl,by decide +kernel⟩,by rw [typeLookup_type,builtinLookup_eq_fast];kernel_rfl⟩
theorem slot_bytearray_append:Slot "bytearray" "append" "bytearray.append" :=
 .of (owner:="bytearray") (n:="append") (by rw [typeLookup_type,builtinLookup_eq_fast];kernel_rfl) (by decide +kernel) (by decide +kernel) (by decide +kernel)
  (by first | exact .inl (by decide +kernel) | exact .inr (by decide +kernel)) (by rw [isSubtype_type];kernel_rfl)
theorem entry_bytearray_append:entryFor table "bytearray.append" = some Builtin.«bytearray.append»:=entryFor_of_tree (by kernel_rfl)
theorem type_bytearray_append:typeOf (.builtin "bytearray.append")=pure (.type "method_descriptor"):=by show builtinType _=_;rw [builtinType_eq_fast];kernel_rfl
theorem args_bytearray_append (a b:Value):argsOk "bytearray.append" ⟨[a,b],[]⟩:=by unfold argsOk;kernel_rfl
end FX
theorem type_bytes_list (S:St C P m H s) (hh:C.A.handled=none) {a:Addr} {xs:List V} {ns:List Int} (q:H a=some (.list xs)) (e:isInts xs=some ns) (ho:octs ns) (h:Q (.bytes (ofOcts ns)) H) :
  wpAny (Md C) C.A (call (.type "bytes") [.ref a]) (Res C P m Q) E s:=by
 obtain ⟨hz,vs,hl,hv,hlen⟩:=S.list q
 have hi:=ints_are hv e
 refine call_bytes_ints (vs:=vs.toList) (by simpa using hl) hi ho (by rw [Array.length_toList,hlen];exact SZ_line hz) hh fun h' t k hk=>?_
 refine Res.of (z:=.bytes (ofOcts ns)) ⟨?_,t,rfl⟩ (S.grow hk) h
 have:=hi.length
 rw [Array.length_toList,hlen] at this
 unfold ofOcts;rw [List.length_map];lia
end DL
end
section
namespace DL
section
variable {prog:Program} {w:PySem.World} {A:Around} {E:Value→Shared→Prop} {s:Shared} {R:Result→Shared→Prop} {I:Addr} {fp wr:List Addr} {G:Array GenState→Array GenState→Prop} {n:Nat} {P:Nat→Value→Prop} {St:Nat→Shared→Prop}
theorem walks_shift (W:WalksS prog w A I fp wr G n P St) (k0:Nat) (P0:Nat→Value→Prop) :
  WalksS prog w A I fp wr G (k0+n) (fun j v=>if j<k0 then P0 j v else P (j-k0) v) (fun j s=>k0≤j∧St (j-k0) s) where
 sub:=W.sub
 grefl:=W.grefl
 gtrans:=W.gtrans
 frame:=fun i s h' tk st ht hk=>⟨st.1,W.frame _ s h' tk st.2 ht hk⟩
 item:=fun i s Q E hi st hQ=>W.item (i-k0) s Q E (Nat.sub_lt_left_of_lt_add st.1 hi) st.2 fun v s' hP hst hm=>hQ v s' (by rw [if_neg (by have:=st.1;exact Nat.not_lt.mpr ‹_›)];exact hP) ⟨Nat.le_succ_of_le st.1,by rw [Nat.sub_add_comm st.1];exact hst⟩ hm
 done:=fun s Q E st hQ=>W.done s Q E (by have:=st.2;rwa [show k0+n-k0=n by simp] at this) hQ
 self:=fun i s Q E st hQ=>W.self _ s Q E st.2 hQ
theorem ext_tail (W:WalksS prog w A.in1 I fp wr G n P St) {S:Addr} {res:Value} {acc0:Array Value} {c0:Nat} (hst:St 0 s) (hSf:S∉fp) (hS:s.heap.get? S=some { cls:=.type "list",data:=.seq acc0 c0 }) (hz:acc0.size+n≤sizeLine)
  (hR:∀ s' acc' c',Moved (S::wr) G s s'→s'.heap.get? S=some { cls:=.type "list",dict:=none,data:=.seq acc' c',slots:=#[] } →
   (∃ tl,acc'.toList=acc0.toList++tl∧tl.length=n∧∀ j v,tl[j]?=some v→P j v)→R (.ok (.ret res)) s') :
  codeAny (model prog w) A (.builtin "list.extend.loop" ⟨[.ref S,.ref I,res],[]⟩) R s:=by
 refine codeAny_extend_loopS (walks_shift W acc0.size fun j v=>acc0[j]?=some v) hz S hSf res n acc0.size s acc0 c0 (by simp) (by exact Nat.le_add_right _ _) ⟨Nat.le_refl _,by rw [Nat.sub_self];exact hst⟩ hS ⟨rfl,fun j v hj=>?_⟩ fun s' acc' c' hm hS' hacc=>?_
 ·show (if j<acc0.size then acc0[j]?=some v else P (j-acc0.size) v)
  rw [if_pos (Array.getElem?_eq_some_iff.mp hj).1];exact hj
 ·refine hR s' acc' c' hm hS' ⟨acc'.toList.drop acc0.size,?_,?_,fun j v hj=>?_⟩
  ·have e:acc'.toList.take acc0.size=acc0.toList:=by
    refine List.ext_getElem? fun j=>?_
    by_cases hj:j<acc0.size
    ·rw [List.getElem?_take_of_lt hj]
     have hlt:j<acc'.size:=by rw [hacc.1];lia
     have:=hacc.2 j acc'[j] (Array.getElem?_eq_some_iff.mpr ⟨hlt,rfl⟩)
     dsimp only at this
     rw [if_pos hj] at this
     rw [Array.getElem?_toList,Array.getElem?_toList,this]
     exact Array.getElem?_eq_some_iff.mpr ⟨hlt,rfl⟩
    ·rw [List.getElem?_eq_none (by rw [List.length_take];grind),List.getElem?_eq_none (by rw [Array.length_toList];exact Nat.not_lt.mp ‹_›)]
   exact (List.take_append_drop acc0.size acc'.toList).symm.trans (by rw [e])
  ·rw [List.length_drop,Array.length_toList,hacc.1];simp
  ·rw [List.getElem?_drop,Array.getElem?_toList] at hj
   have:=hacc.2 _ _ hj
   dsimp only at this
   rw [if_neg (by simp),show acc0.size+j-acc0.size=j by simp] at this
   exact this
theorem octs_vrs {mg:MG}:∀ {b:List UInt8} {tl:List Value},tl.length=b.length→(∀ (j:Nat) (v:Value),tl[j]?=some v→∃ (c:UInt8) (u:Tok),b[j]?=some c∧v=Value.int (c.toNat:Int) u)→VRs mg tl (vInts (toOcts b))
 | [],[],_,_=>.nil
 | c::b,v::tl,h,hp=>by
  obtain ⟨c',u,h1,rfl⟩:=hp 0 v rfl
  cases h1
  exact .cons ⟨u,rfl⟩ (octs_vrs (by simpa using h) fun j v hj=>hp (j+1) v hj)
 | [],_::_,h,_=>by cases h
 | _::_,[],h,_=>by cases h
noncomputable abbrev bP (b:Array UInt8) (i:Nat) (v:Value):Prop:=∃ (c:UInt8) (u:Tok),b[i]?=some c∧v=Value.int (c.toNat:Int) u
theorem hint_of {M:Model} {v:Value} {T:String} {Q:Bool→Shared→Prop} (hT:s.TypeIs v T) (hl:(T = "bytes" ∨ T = "bytearray")) (h:Q false s):wpAny M A (Builtin.List.listLengthHint v) Q E s:=by
 revert hT hl h
 k_call_by "e" [A,E,s,M,v,T,Q]
 unfold Builtin.List.listLengthHint
 rcases hl with rfl | rfl
 ·refine wpAny_bind (wpAny_specialOf hT FB.slot_bytes_len.lookup ?_)
  dsimp only
  rw [show splitId "bytes.__len__" = some ("bytes","__len__") by decide +kernel]
  dsimp only
  refine wpAny_bind (wpAny_isInstance hT F.bm_sub ?_)
  refine bm_if_false rfl ?_
  refine bm_if_true (by decide +kernel) ?_
  exact wpAny_bind (wpAny_typeOf hT (wpAny_pure h))
 ·refine wpAny_bind (wpAny_specialOf (r:=some (.builtin "bytearray.__len__")) (name:=Str.ofString "__len__") hT (by rw [typeLookup_type,builtinLookup_eq_fast];kernel_rfl) ?_)
  dsimp only
  rw [show splitId "bytearray.__len__" = some ("bytearray","__len__") by decide +kernel]
  dsimp only
  refine wpAny_bind (wpAny_isInstance hT (b:=true) (by rw [isSubtype_type];kernel_rfl) ?_)
  refine bm_if_false rfl ?_
  refine bm_if_true (by decide +kernel) ?_
  exact wpAny_bind (wpAny_typeOf hT (wpAny_pure h))
theorem ext_bytes (hh:A.handled=none) {b:Array UInt8} {t:Tok} {S:Addr} {res:Value} {acc0:Array Value} {c0:Nat} (hS:s.heap.get? S=some { cls:=.type "list",data:=.seq acc0 c0 }) (hz:acc0.size+b.size≤sizeLine)
  (hR:∀ (h':Heap) (tk:Tok) acc' c',Heap.ExtBut S s.heap h'→h'.get? S=some { cls:=.type "list",dict:=none,data:=.seq acc' c',slots:=#[] } →
   (∃ tl,acc'.toList=acc0.toList++tl∧tl.length=b.size∧∀ j v,tl[j]?=some v→bP b j v)→R (.ok (.ret res)) { s with heap:=h',toks:=tk }) :
  wpAny (model prog w) A.in1 (Builtin.List.listExtendWith (.ref S) (.bytes b t) res)
   (fun fin s'=>match fin with | .done f=>R (.ok f) s' | .again c'=>c'.quiet=true∧codeAny (model prog w) A c' R s') (fun e s'=>R (.error e) s') s:=by
 revert hh hS hz hR
 k_call_by "e" [prog,w,A,s,R,b,t,S,res,acc0,c0]
 have hT:s.TypeIs (.bytes b t) "bytes" := PySem.W.typeIs_bytes _ _ _
 unfold Builtin.List.listExtendWith
 refine wpAny_bind (wpAny_typeOf hT ?_)
 rw [if_neg (by rw [show Builtin.List.listSameRef (.ref S) (.bytes b t)=false from rfl];decide)]
 refine wpAny_bind (KBw.pyIter_bytes ?_)
 have hS₁:=Heap.get?_push_of_some { cls:=.type "bytes_iterator",data:=.fields #[.bytes b t,.int 0 0] } hS
 refine wpAny_bind (wpAny_holding ?_)
 refine hint_of (typeIs_bytes _ b t) (.inl rfl) ?_
 refine bm_if_false (by decide) ?_
 refine wpAny_pure ⟨plainId_quiet F.plain_extend_loop _,?_⟩
 have hne:S≠s.heap.objs.size:=Nat.ne_of_lt (Heap.lt_size hS)
 refine ext_tail (KBw.walks (A:=A.in1) hh s.heap.objs.size b t).toS ⟨_,Heap.get?_push_size _ rfl,rfl,rfl⟩ (by simpa using hne) hS₁ hz fun s' acc' c' hm hS' htl=>?_
 obtain ⟨h',g',d',t',o'⟩:_:=s'
 obtain ⟨m1,m2,m3,m4,m5⟩:_:=hm
 dsimp only at m1 m2 m3 m4 hS' ⊢
 subst m2 m3 m4
 refine hR h' t' acc' c' (fun b' o hb e=>m1 b' o ?_ (Heap.get?_push_of_some _ e)) hS' htl
 simp only [List.mem_cons,List.not_mem_nil,or_false,not_or]
 exact ⟨hb,Nat.ne_of_lt (Heap.lt_size e)⟩
end
end DL
end
section
namespace DL
namespace FX
theorem slot_bai_next:Slot "bytearray_iterator" "__next__" "bytearray_iterator.__next__" :=
 .of (owner:="bytearray_iterator") (n:="__next__") (by rw [typeLookup_type,builtinLookup_eq_fast];kernel_rfl) (by decide +kernel) (by decide +kernel) (by decide +kernel)
  (by first | exact .inl (by decide +kernel) | exact .inr (by decide +kernel)) (by rw [isSubtype_type];kernel_rfl)
theorem slot_bai_self:Slot "bytearray_iterator" "__iter__" "bytearray_iterator.__iter__" :=
 .of (owner:="bytearray_iterator") (n:="__iter__") (by rw [typeLookup_type,builtinLookup_eq_fast];kernel_rfl) (by decide +kernel) (by decide +kernel) (by decide +kernel)
  (by first | exact .inl (by decide +kernel) | exact .inr (by decide +kernel)) (by rw [isSubtype_type];kernel_rfl)
theorem slot_ba_iter:Slot "bytearray" "__iter__" "bytearray.__iter__" :=
 .of (owner:="bytearray") (n:="__iter__") (by rw [typeLookup_type,builtinLookup_eq_fast];kernel_rfl) (by decide +kernel) (by decide +kernel) (by decide +kernel)
  (by first | exact .inl (by decide +kernel) | exact .inr (by decide +kernel)) (by rw [isSubtype_type];kernel_rfl)
theorem entry_bai_next:entryFor table "bytearray_iterator.__next__" = some Builtin.«bytearray_iterator.__next__»:=entryFor_of_tree (by kernel_rfl)
theorem entry_bai_self:entryFor table "bytearray_iterator.__iter__" = some Builtin.«dict_keyiterator.__iter__»:=entryFor_alias (id':="dict_keyiterator.__iter__") (by kernel_rfl) rfl (by decide +kernel) (by rw [fastTable_eq_tree];kernel_rfl)
theorem entry_ba_iter:entryFor table "bytearray.__iter__" = some Builtin.«bytearray.__iter__»:=entryFor_of_tree (by kernel_rfl)
theorem args_bai_next (a:Value):argsOk "bytearray_iterator.__next__" ⟨[a],[]⟩:=by unfold argsOk;kernel_rfl
theorem args_bai_self (a:Value):argsOk "bytearray_iterator.__iter__" ⟨[a],[]⟩:=by unfold argsOk;kernel_rfl
theorem args_ba_iter (a:Value):argsOk "bytearray.__iter__" ⟨[a],[]⟩:=by unfold argsOk;kernel_rfl
end FX
section
variable {prog:Program} {w:PySem.World} {A:Around} {E:Value→Shared→Prop} {s:Shared} {R:Result→Shared→Prop}
noncomputable def IsBaIter (h:Heap) (I a:Addr) (i:Nat):Prop:=∃ o,h.get? I=some o∧o.cls = .type "bytearray_iterator" ∧ o.data = .fields #[.ref a,.int i 0]
theorem IsBaIter.typeIs {I a:Addr} {i:Nat} (y:IsBaIter s.heap I a i):s.TypeIs (.ref I) "bytearray_iterator" := let ⟨o,ho,hc,_⟩:=y;⟨o,ho,hc⟩
theorem pyIter_ba {a:Addr} {b:Array UInt8} {Q:Value→Shared→Prop} (ho:s.heap.get? a=some { cls:=.type "bytearray",data:=.bytearray b })
  (hQ:Q (.ref s.heap.objs.size) { s with heap:=s.heap.push { cls:=.type "bytearray_iterator",data:=.fields #[.ref a,.int 0 0] } }):wpAny (model prog w) A (pyIter (.ref a)) Q E s:=by
 have hT:s.TypeIs (.ref a) "bytearray" := ⟨_,ho,rfl⟩
 refine wpAny_pyIter_slot hT FX.slot_ba_iter (wpAny_call_entry FX.slot_ba_iter hT FX.entry_ba_iter ?_ (FX.args_ba_iter _))
 show wpAny _ _ (do ret (← newFields "bytearray_iterator" [.ref a,rawInt 0])) _ _ s
 exact wpAny_bind (wpAny_newObj_type (wpAny_pure ⟨_,rfl,"bytearray_iterator",_,⟨_,Heap.get?_push_size _ rfl,rfl⟩,FX.slot_bai_next.lookup,hQ⟩))
theorem bai_item {I a:Addr} {b:Array UInt8} {i:Nat} {c:UInt8} {Q:Option Value→Shared→Prop} (hit:IsBaIter s.heap I a i) (hb:s.heap.get? a=some { cls:=.type "bytearray",data:=.bytearray b }) (hx:b[i]?=some c)
  (hQ:∀ h',IsBaIter h' I a (i+1)→Heap.SameBut I s.heap h'→Q (some (.int (c.toNat:Int) s.toks)) { s with heap:=h',toks:=s.toks+1 }):wpAny (model prog w) A (pyNext (.ref I)) Q E s:=by
 revert hit hb hx hQ
 k_call_by "e" [prog,w,A,E,s,I,a,b,i,c,Q]
 obtain ⟨o,ho,hc,hd⟩:=id hit
 unfold pyNext
 refine wpAny_bind (wpAny_attempt (wpAny_callSpecial?_slot (name:=PySem.Str.ofString "__next__") hit.typeIs FX.slot_bai_next
  (wpAny_call_entry FX.slot_bai_next hit.typeIs FX.entry_bai_next ?_ (FX.args_bai_next _))))
 show wpAny _ _ (field (.ref I) 0 >>= _) _ _ s
 refine wpAny_bind (wpAny_field ho hd (x:=.ref a) rfl ?_)
 refine wpAny_bind (wpAny_load hb ?_)
 dsimp only
 refine wpAny_bind (wpAny_field ho hd (x:=.int i 0) rfl ?_)
 simp only [Int.toNat_natCast,hx]
 refine wpAny_bind (wpAny_setField ho hd (by simp) (wpAny_bind (wpAny_mkInt (wpAny_pure ⟨_,rfl,wpAny_pure (hQ _ ?_ (Heap.SameBut.update ..))⟩))))
 exact ⟨_,Heap.get?_update_self _ ho (Obj.isFreed_of_fields (Obj.data_mapFields hd _)),(Obj.cls_mapFields ..).trans hc,by
  rw [Obj.data_mapFields hd];simp [rawInt]⟩
theorem bai_end {I a:Addr} {b:Array UInt8} {i:Nat} {Q:Option Value→Shared→Prop} (hh:A.handled=none) (hit:IsBaIter s.heap I a i) (hb:s.heap.get? a=some { cls:=.type "bytearray",data:=.bytearray b }) (hx:b[i]?=none)
  (hQ:∀ h',Heap.ExtBut I s.heap h'→Q none { s with heap:=h' }):wpAny (model prog w) A (pyNext (.ref I)) Q E s:=by
 revert hh hit hb hx hQ
 k_call_by "e" [prog,w,A,E,s,I,a,b,i,Q]
 obtain ⟨o,ho,hc,hd⟩:=id hit
 unfold pyNext
 refine wpAny_bind (wpAny_attempt (wpAny_callSpecial?_slot (name:=PySem.Str.ofString "__next__") hit.typeIs FX.slot_bai_next
  (wpAny_call_entry FX.slot_bai_next hit.typeIs FX.entry_bai_next ?_ (FX.args_bai_next _))))
 show wpAny _ _ (field (.ref I) 0 >>= _) _ _ s
 refine wpAny_bind (wpAny_field ho hd (x:=.ref a) rfl ?_)
 refine wpAny_bind (wpAny_load hb ?_)
 dsimp only
 refine wpAny_bind (wpAny_field ho hd (x:=.int i 0) rfl ?_)
 simp only [Int.toNat_natCast,hx]
 refine wpAny_bind (wpAny_rule (wpAny_bind (wpAny_setField ho hd (by simp) (wpAny_bind (wpAny_letGo ?_)))))
 show wpAny _ _ (newExc (.type "StopIteration") [] >>= _) _ _ _
 refine wpAny_bind ?_
 simp only [newExc,newTuple]
 refine wpAny_bind (wpAny_newObj_type ?_ (by size_fits))
 refine wpAny_bind (m:=firstArgMember _ _) (wpAny_of_eq (a:=Value.none) (by first | rfl | (simp only [firstArgMember];rfl)) ?_)
 refine wpAny_newObj_type ?_ (by size_fits)
 unfold raiseNew
 refine wpAny_bind (wpAny_handled ?_)
 rw [show A.in1.handled=none from hh]
 refine wpAny_bind (wpAny_pure (wpAny_throw ?_))
 refine wpAny_bind (wpAny_isInstance (T:="StopIteration") (b:=true) ⟨_,Heap.get?_push_size _ rfl,rfl⟩ (by rw [isSubtype_type];kernel_rfl) ?_)
 exact wpAny_pure (hQ _ (((Heap.SameBut.update ..).extBut.push _).push _))
theorem bai_self {I a:Addr} {i:Nat} {Q:Value→Shared→Prop} (hit:IsBaIter s.heap I a i) (h:Q (.ref I) s):wpAny (model prog w) A (pyIter (.ref I)) Q E s:=by
 refine wpAny_pyIter_slot hit.typeIs FX.slot_bai_self (wpAny_call_entry FX.slot_bai_self hit.typeIs FX.entry_bai_self ?_ (FX.args_bai_self _))
 show wpAny _ _ (ret (.ref I)) _ _ s
 exact wpAny_pure ⟨_,rfl,"bytearray_iterator",_,hit.typeIs,FX.slot_bai_next.lookup,h⟩
theorem bai_walks (hh:A.handled=none) {I a:Addr} (hI:a≠I) (b:Array UInt8) :
  Walks prog w A I [I,a] [I] b.size (fun i v=>bP b i v) (fun i h=>IsBaIter h I a i∧h.get? a=some { cls:=.type "bytearray",data:=.bytearray b }) where
 sub:=fun _ hb=>by rw [List.mem_singleton] at hb;subst hb;exact .head _
 frame:=fun _ _ _ st hk=>⟨let ⟨o,ho,r⟩:=st.1;⟨o,hk I (.head _) o ho,r⟩,hk a (.tail _ (.head _)) _ st.2⟩
 item:=fun i s Q E hi st hQ=>by
  refine bai_item st.1 st.2 (c:=b[i]) (by simp [hi]) fun h' hit' hs'=>?_
  exact hQ _ h' (s.toks+1) ⟨_,_,by simp [hi],rfl⟩ ⟨hit',hs'.extBut _ _ hI st.2⟩ fun b o hb e=>hs'.extBut b o (fun h=>hb (by simp [h])) e
 done:=fun s Q E st hQ=>bai_end hh st.1 st.2 (by simp) fun h' he'=>hQ h' s.toks fun b o hb e=>he' b o (fun h=>hb (by simp [h])) e
 self:=fun _ _ _ _ st hQ=>bai_self st.1 hQ
theorem ext_ba (hh:A.handled=none) {b:Array UInt8} {a S:Addr} {res:Value} {acc0:Array Value} {c0:Nat} (hb:s.heap.get? a=some { cls:=.type "bytearray",data:=.bytearray b }) (hS:s.heap.get? S=some { cls:=.type "list",data:=.seq acc0 c0 }) (hz:acc0.size+b.size≤sizeLine)
  (hR:∀ (h':Heap) (tk:Tok) acc' c',Heap.ExtBut S s.heap h'→h'.get? S=some { cls:=.type "list",dict:=none,data:=.seq acc' c',slots:=#[] } →
   (∃ tl,acc'.toList=acc0.toList++tl∧tl.length=b.size∧∀ j v,tl[j]?=some v→bP b j v)→R (.ok (.ret res)) { s with heap:=h',toks:=tk }) :
  wpAny (model prog w) A.in1 (Builtin.List.listExtendWith (.ref S) (.ref a) res)
   (fun fin s'=>match fin with | .done f=>R (.ok f) s' | .again c'=>c'.quiet=true∧codeAny (model prog w) A c' R s') (fun e s'=>R (.error e) s') s:=by
 revert hh hb hS hz hR
 k_call_by "e" [prog,w,A,s,R,b,a,S,res,acc0,c0]
 have hT:s.TypeIs (.ref a) "bytearray" := ⟨_,hb,rfl⟩
 have hSa:S≠a:=fun e=>by rw [e,hb] at hS;simp at hS
 unfold Builtin.List.listExtendWith
 refine wpAny_bind (wpAny_typeOf hT ?_)
 rw [if_neg (by rw [show Builtin.List.listSameRef (.ref S) (.ref a)=false from by simp [Builtin.List.listSameRef,hSa]];decide)]
 refine wpAny_bind (pyIter_ba hb ?_)
 have hS₁:=Heap.get?_push_of_some { cls:=.type "bytearray_iterator",data:=.fields #[.ref a,.int 0 0] } hS
 have hb₁:=Heap.get?_push_of_some { cls:=.type "bytearray_iterator",data:=.fields #[.ref a,.int 0 0] } hb
 refine wpAny_bind (wpAny_holding ?_)
 refine hint_of ⟨_,hb₁,rfl⟩ (.inr rfl) ?_
 refine bm_if_false (by decide) ?_
 refine wpAny_pure ⟨plainId_quiet F.plain_extend_loop _,?_⟩
 have hne:S≠s.heap.objs.size:=Nat.ne_of_lt (Heap.lt_size hS)
 refine ext_tail (bai_walks (A:=A.in1) hh (I:=s.heap.objs.size) (Nat.ne_of_lt (Heap.lt_size hb)) b).toS ⟨⟨_,Heap.get?_push_size _ rfl,rfl,rfl⟩,hb₁⟩ (by simp [hne,hSa]) hS₁ hz fun s' acc' c' hm hS' htl=>?_
 obtain ⟨h',g',d',t',o'⟩:_:=s'
 obtain ⟨m1,m2,m3,m4,m5⟩:_:=hm
 dsimp only at m1 m2 m3 m4 hS' ⊢
 subst m2 m3 m4
 refine hR h' t' acc' c' (fun b' o hb e=>m1 b' o ?_ (Heap.get?_push_of_some _ e)) hS' htl
 simp only [List.mem_cons,List.not_mem_nil,or_false,not_or]
 exact ⟨hb,Nat.ne_of_lt (Heap.lt_size e)⟩
theorem list_init (S:Addr) {it:Value} (hS:s.heap.get? S=some { cls:=.type "list",data:=.seq #[] })
  (h:wpAny (model prog w) A.in1 (Builtin.List.listExtendWith (.ref S) it .none)
   (fun fin s'=>match fin with | .done f=>R (.ok f) s' | .again c'=>c'.quiet=true∧codeAny (model prog w) A c' R s') (fun e s'=>R (.error e) s') { s with heap:=s.heap.update S (Obj.mapSeq fun _=>(#[]:Array Value)) }) :
  wpAny (model prog w) A.in1 (Builtin.«list.__init__» ⟨[.ref S,it],[]⟩)
   (fun fin s'=>match fin with | .done f=>R (.ok f) s' | .again c'=>c'.quiet=true∧codeAny (model prog w) A c' R s') (fun e s'=>R (.error e) s') s:=by
 show wpAny _ A.in1 (do let old ← Builtin.List.listItems (.ref S);Builtin.List.listUpdate (.ref S) (fun _=>#[]);letGo old.toList.reverse;Builtin.List.listExtendWith (.ref S) it .none) _ _ s
 refine wpAny_bind ?_
 unfold Builtin.List.listItems
 refine wpAny_bind (wpAny_seqItems hS rfl (wpAny_pure ?_))
 show wpAny _ A.in1 (updateSeq S (fun _=>#[]) >>= fun _=>letGo (#[]:Array Value).toList.reverse >>= fun _=>Builtin.List.listExtendWith (.ref S) it .none) _ _ s
 refine wpAny_bind (wpAny_updateSeq hS rfl ?_)
 exact wpAny_bind (wpAny_letGo h)
theorem call_list_of {it:Value} {b:Array UInt8} {Q:Value→Shared→Prop} (hh:A.handled=none) (hit:(∃ t,it = .bytes b t)∨∃ a,it = .ref a∧s.heap.get? a=some { cls:=.type "bytearray",data:=.bytearray b }) (hz:b.size≤sizeLine)
  (hQ:∀ (h':Heap) (tk:Tok) (acc':Array Value) c',Heap.ExtBut s.heap.objs.size s.heap h'→h'.get? s.heap.objs.size=some { cls:=.type "list",data:=.seq acc' c' } →
   (acc'.toList.length=b.size∧∀ j v,acc'.toList[j]?=some v→bP b j v)→Q (.ref s.heap.objs.size) { s with heap:=h',toks:=tk }) :
  wpAny (model prog w) A (call (.type "list") [it]) Q E s:=by
 revert hh hit hz hQ
 k_call_by "e" [prog,w,A,E,s,it,b,Q]
 refine callType_codes (Q₁:=fun obj s₁=>obj = .ref s.heap.objs.size∧s₁={ s with heap:=s.heap.push { cls:=.type "list",data:=.seq #[] } }) F.called_list (F.typeCall_list_1 _) F.entry_list_init
  (code_list_new _ ⟨rfl,rfl⟩) fun obj s₁ h₁=>?_
 obtain ⟨rfl,rfl⟩:=h₁
 have hS:(s.heap.push { cls:=.type "list",data:=.seq #[] }).get? s.heap.objs.size=some { cls:=.type "list",data:=.seq #[] }:=Heap.get?_push_size _ rfl
 have hS₂:=Heap.get?_update_self (Obj.mapSeq (fun _=>(#[]:Array Value))) hS rfl
 have oth:∀ b o,b≠s.heap.objs.size→s.heap.get? b=some o→((s.heap.push { cls:=.type "list",data:=.seq #[] }).update s.heap.objs.size (Obj.mapSeq (fun _=>(#[]:Array Value)))).get? b=some o :=
  fun b o hb e=>(Heap.get?_update_other _ _ (Ne.symm hb)).trans (Heap.get?_push_of_some _ e)
 refine ⟨⟨_,hS,rfl⟩,F.args_list_init_2 _ _,list_init (s:={ s with heap:=s.heap.push { cls:=.type "list",data:=.seq #[] } }) _ hS ?_⟩
 have fin:∀ (h':Heap) (tk:Tok) (acc':Array Value) (c':Nat),Heap.ExtBut s.heap.objs.size ((s.heap.push { cls:=.type "list",data:=.seq #[] }).update s.heap.objs.size (Obj.mapSeq (fun _=>(#[]:Array Value)))) h'→h'.get? s.heap.objs.size=some { cls:=.type "list",dict:=none,data:=.seq acc' c',slots:=#[] } →
   (∃ tl,acc'.toList=(#[]:Array Value).toList++tl∧tl.length=b.size∧∀ j v,tl[j]?=some v→bP b j v)→wants (fun r s₂=>r = .none∧Q (.ref s.heap.objs.size) s₂) E (.ok (.ret .none)) { s with heap:=h',toks:=tk }:=fun h' tk acc' c' hk hS' ⟨tl,e1,e2,e3⟩=>by
  obtain rfl:acc'.toList=tl:=e1
  exact ⟨rfl,hQ h' tk acc' c' (fun b o hb e=>hk b o hb (oth b o hb e)) hS' ⟨e2,e3⟩⟩
 rcases hit with ⟨t,rfl⟩ | ⟨a,rfl,ha⟩
 ·exact ext_bytes (A:=A.in1) (s:={ s with heap:=(s.heap.push { cls:=.type "list",data:=.seq #[] }).update s.heap.objs.size (Obj.mapSeq (fun _=>(#[]:Array Value))) }) hh hS₂ (by simpa using hz) fin
 ·exact ext_ba (A:=A.in1) (s:={ s with heap:=(s.heap.push { cls:=.type "list",data:=.seq #[] }).update s.heap.objs.size (Obj.mapSeq (fun _=>(#[]:Array Value))) }) hh (oth a _ (Nat.ne_of_lt (Heap.lt_size ha)) ha) hS₂ (by simpa using hz) fin
theorem lb_fillsI:fillsInplaceSlot (.type "list") "add" (Operator.Add == .Add)=pure false:=by
 unfold fillsInplaceSlot
 show (typeLookup (.type "list") (dunderI "add") >>= fun fi=>pure (fi.isSome&&!isSeqSlot fi))=pure false
 rw [PySem.F.slot_list_iadd.lookup];kernel_rfl
theorem lb_fillsL:fillsNumberSlot (.type "list") "add" = pure false:=by
 unfold fillsNumberSlot
 simp only [typeLookup_type,builtinLookup_eq_fast];kernel_rfl
theorem lb_fillsB:fillsNumberSlot (.type "bytes") "add" = pure false:=by
 unfold fillsNumberSlot
 simp only [typeLookup_type,builtinLookup_eq_fast];kernel_rfl
theorem lb_seq:seqSlot? (.type "list") (dunderI "add")=pure (some (.builtin "list.__iadd__")):=by
 unfold seqSlot?
 rw [PySem.F.slot_list_iadd.lookup];kernel_rfl
theorem iadd_list_bytes {a:Addr} {acc0:Array Value} {c0:Nat} {b:Array UInt8} {t:Tok} {Q:Value→Shared→Prop} (hh:A.handled=none) (hS:s.heap.get? a=some { cls:=.type "list",data:=.seq acc0 c0 }) (hz:acc0.size+b.size≤sizeLine)
  (hQ:∀ (h':Heap) (tk:Tok) acc' c',Heap.ExtBut a s.heap h'→h'.get? a=some { cls:=.type "list",dict:=none,data:=.seq acc' c',slots:=#[] } →
   (∃ tl,acc'.toList=acc0.toList++tl∧tl.length=b.size∧∀ j v,tl[j]?=some v→bP b j v)→Q (.ref a) { s with heap:=h',toks:=tk }) :
  wpAny (model prog w) A (inplaceOp .Add (.ref a) (.bytes b t)) Q E s:=by
 revert hh hS hz hQ
 k_call_by "e" [prog,w,A,E,s,a,acc0,c0,b,t,Q]
 have hT:s.TypeIs (.ref a) "list" := ⟨_,hS,rfl⟩
 unfold inplaceOp
 refine wpAny_holding ?_
 refine wpAny_bind (wpAny_typeOf hT (wpAny_bind (wpAny_of_eq lb_fillsI (bm_if_false rfl (wpAny_bind ?_)))))
 show wpAny _ _ (typeOf _ >>= _) _ _ _
 refine wpAny_bind (wpAny_typeOf hT (wpAny_bind (wpAny_typeOf (typeIs_bytes _ b t) (wpAny_bind (wpAny_of_eq lb_fillsL (wpAny_bind (bm_if_false (a:=pure false) (show (Value.type "list" == Value.type "bytes")=false by decide) (wpAny_of_eq lb_fillsB ?_))))))))
 refine bm_if_false rfl (bm_if_false rfl ?_)
 refine wpAny_bind (wpAny_of_eq (a:=false) rfl ?_)
 refine wpAny_of_eq (a:=none) rfl ?_
 refine wpAny_bind (wpAny_of_eq lb_seq (wpAny_bind (wpAny_rule ?_)))
 refine wpAny_call (codeAny_call_builtin F.plain_list_iadd F.entry_list_iadd (PySem.F.slot_list_iadd.check _ _ _ _ _ _ _ _ hT (PySem.F.args_list_iadd_2 _ _) ?_))
 exact ext_bytes (R:=fun r s'=>match r with | .ok (.ret v)=>Q v s' | .ok _=>False | .error e=>E e s') hh hS hz hQ
theorem bytes_new {x:Value} {Q:Value→Shared→Prop}
  (h:wpAny (model prog w) A.in1 (Builtin.«bytes.__new__» ⟨[.type "bytes",x],[]⟩) (fun fin s'=>∃ v,fin = .done (.ret v)∧s'.TypeIs v "bytes" ∧ Q v s') E s) :
  codeAny (model prog w) A (.call (.builtin "bytes.__new__") ⟨[.type "bytes",x],[]⟩) (wants (fun obj s₁=>s₁.TypeIs obj "bytes" ∧ Q obj s₁) E) s:=by
 refine codeAny_of_tree ?_
 show wpAny _ A.in1 (do checkBuiltinCall "bytes.__new__" ⟨[.type "bytes",x],[]⟩;again (.builtin "bytes.__new__" ⟨[.type "bytes",x],[]⟩)) _ _ s
 refine wpAny_bind (wpAny_of_eq (F.bm_newCall _) (wpAny_pure ⟨plainId_quiet F.bm_plain _,codeAny_builtin F.bm_entry ?_⟩))
 rw [Around.under_plainId F.bm_plain _]
 refine wpAny_mono h (fun fin s' h'=>?_) fun _ _ x=>x
 obtain ⟨v,rfl,h1,h2⟩:=h'
 exact ⟨h1,h2⟩
theorem call_bytes_with {x:Value} {Q:Value→Shared→Prop}
  (h:wpAny (model prog w) A.in1.in1 (Builtin.«bytes.__new__» ⟨[.type "bytes",x],[]⟩) (fun fin s'=>∃ v,fin = .done (.ret v)∧s'.TypeIs v "bytes" ∧ Q v s') E s) :
  wpAny (model prog w) A (call (.type "bytes") [x]) Q E s:=by
 refine callType_codes (Q₁:=fun obj s₁=>s₁.TypeIs obj "bytes" ∧ Q obj s₁) F.bm_called (F.bm_typeCall _) F.entry_object_init (bytes_new h) fun obj s₁ h₁=>?_
 exact ⟨h₁.1,F.args_object_init_2 obj _,object_init_meets F.bm_called.init.lookup F.bm_called.made (by decide) prog w A.in1 _ s₁ ⟨h₁.1,rfl,h₁.2⟩⟩
theorem call_bytes_bytes {b:Array UInt8} {t:Tok} {Q:Value→Shared→Prop} (h:Q (.bytes b t) s):wpAny (model prog w) A (call (.type "bytes") [.bytes b t]) Q E s:=by
 revert h
 k_call_by "e" [prog,w,A,E,s,b,t,Q]
 refine call_bytes_with ?_
 have hT:s.TypeIs (.bytes b t) "bytes" := typeIs_bytes _ _ _
 unfold Builtin.«bytes.__new__»
 refine wpAny_bind (wpAny_of_eq (a:=true) rfl ?_)
 refine bm_if_false rfl ?_
 refine wpAny_bind (wpAny_of_eq F.bm_sub ?_)
 refine bm_if_false rfl ?_
 refine wpAny_bind (wpAny_of_eq (F.bm_bind _) ?_)
 refine wpAny_bind (wpAny_of_eq (a:=()) rfl ?_)
 refine wpAny_bind (wpAny_of_eq (a:=()) rfl ?_)
 refine bm_if_false rfl ?_
 refine wpAny_bind (wpAny_specialOf (r:=some (.builtin "bytes.__bytes__")) (name:=Str.ofString "__bytes__") hT (by rw [typeLookup_type,builtinLookup_eq_fast];kernel_rfl) ?_)
 refine wpAny_bind (wpAny_rule (wpAny_bind (wpAny_typeOf hT ?_)))
 refine bm_if_true (by decide) ?_
 show wpAny _ _ (if (Value.type "bytes" == Value.type "bytes")=true then _ else _) _ _ _
 refine bm_if_true (by decide) ?_
 exact wpAny_pure ⟨_,rfl,hT,h⟩
theorem ba_buffer {M:Model} {id:String} {a:Addr} {b:Array UInt8} {Q:Option (Array UInt8)→Shared→Prop} (ho:s.heap.get? a=some { cls:=.type "bytearray",data:=.bytearray b }) (h:Q (some b) s) :
  wpAny M A (Builtin.Bytes.buffer? id (.ref a) true) Q E s:=by
 revert ho h
 k_call_by "e" [A,E,s,M,id,a,b,Q]
 have hT:s.TypeIs (.ref a) "bytearray" := ⟨_,ho,rfl⟩
 have hB:typeLookup (.type "bytearray") "__buffer__" = pure (some (.builtin "bytearray.__buffer__")):=by rw [typeLookup_type,builtinLookup_eq_fast];kernel_rfl
 have hR:typeLookup (.type "bytearray") "__release_buffer__" = pure (some (.builtin "bytearray.__release_buffer__")):=by rw [typeLookup_type,builtinLookup_eq_fast];kernel_rfl
 have hS:isSubtype (.type "bytearray") (.type "bytearray")=pure true:=by rw [isSubtype_type];kernel_rfl
 unfold Builtin.Bytes.buffer?
 refine wpAny_bind (wpAny_specialOf hT hB ?_)
 dsimp only
 unfold Builtin.Bytes.slotIsOwn
 refine wpAny_bind (wpAny_bind (wpAny_specialOf hT hB ?_))
 dsimp only
 rw [if_neg (by decide +kernel)]
 refine wpAny_isInstance hT (b:=true) (by rw [show ("bytearray.__buffer__".dropRight ("__buffer__".length+1)) = "bytearray" by decide +kernel];exact hS) ?_
 refine bm_if_false rfl ?_
 refine wpAny_bind (wpAny_specialOf hT hB ?_)
 unfold Builtin.Bytes.ownRelease Builtin.Bytes.slotIsOwn
 refine wpAny_bind (wpAny_bind (wpAny_bind (wpAny_specialOf hT hR ?_)))
 dsimp only
 rw [if_neg (by decide +kernel)]
 refine wpAny_isInstance hT (b:=true) (by rw [show ("bytearray.__release_buffer__".dropRight ("__release_buffer__".length+1)) = "bytearray" by decide +kernel];exact hS) ?_
 refine wpAny_pure ?_
 refine bm_if_false rfl ?_
 unfold Builtin.Bytes.payload Builtin.Bytes.payload?
 exact wpAny_bind (wpAny_bind (wpAny_bind (wpAny_load ho (wpAny_pure (wpAny_pure (wpAny_pure h))))))
theorem call_bytes_ba {a:Addr} {b:Array UInt8} {Q:Value→Shared→Prop} (ho:s.heap.get? a=some { cls:=.type "bytearray",data:=.bytearray b }) (hz:b.size≤sizeLine) (h:∀ t k,Q (.bytes b t) { s with toks:=k }) :
  wpAny (model prog w) A (call (.type "bytes") [.ref a]) Q E s:=by
 revert ho hz h
 k_call_by "e" [prog,w,A,E,s,a,b,Q]
 refine call_bytes_with ?_
 have hT:s.TypeIs (.ref a) "bytearray" := ⟨_,ho,rfl⟩
 unfold Builtin.«bytes.__new__»
 refine wpAny_bind (wpAny_of_eq (a:=true) rfl ?_)
 refine bm_if_false rfl ?_
 refine wpAny_bind (wpAny_of_eq F.bm_sub ?_)
 refine bm_if_false rfl ?_
 refine wpAny_bind (wpAny_of_eq (F.bm_bind _) ?_)
 refine wpAny_bind (wpAny_of_eq (a:=()) rfl ?_)
 refine wpAny_bind (wpAny_of_eq (a:=()) rfl ?_)
 refine bm_if_false rfl ?_
 refine wpAny_bind (wpAny_specialOf (r:=none) (name:=Str.ofString "__bytes__") hT (by rw [typeLookup_type,builtinLookup_eq_fast];kernel_rfl) ?_)
 refine wpAny_bind (wpAny_bind ?_)
 show wpAny _ _ (load a >>= _) _ _ _
 refine wpAny_bind (wpAny_load ho ?_)
 refine wpAny_pure (wpAny_pure ?_)
 refine bm_if_false rfl ?_
 refine wpAny_bind (wpAny_specialOf (r:=none) (name:=Str.ofString "__index__") hT (by rw [typeLookup_type,builtinLookup_eq_fast];kernel_rfl) ?_)
 refine bm_if_true rfl ?_
 first
  | show wpAny _ _ (Builtin.Bytes.buffer? "bytes.__new__" (.ref a) true >>= _) _ _ _
  | (refine wpAny_bind ?_;show wpAny _ _ (Builtin.Bytes.buffer? "bytes.__new__" (.ref a) true >>= _) _ _ _)
 refine wpAny_bind (ba_buffer ho ?_)
 refine wpAny_bind (wpAny_rule (wpAny_bind (wpAny_mkBytes ?_ hz)))
 show wpAny _ _ (if (Value.type "bytes" == Value.type "bytes")=true then _ else _) _ _ _
 refine bm_if_true (by decide) ?_
 exact wpAny_pure ⟨_,rfl,typeIs_bytes _ _ _,h _ _⟩
end
end DL
end
section
namespace DL
noncomputable def badIds:List String:=["bytearray.__contains__","bytearray.__mod__","bytearray.__rmod__","_struct.pack_into.held","bytearray.find.held"]++Builtin.Bytes.decodersThatHold
noncomputable def okCode:Code→Bool
 | .builtin id _=>!badIds.contains id
 | _=>true
noncomputable def Good (Γ:Ctx):Prop:=okCode Γ.code=true∧∀ x∈Γ.below,okCode x.1=true
noncomputable def wpN {α:Type} (M:Model) (A:Around) (t:Sem α) (Q:α→Shared→Prop) (E:Value→Shared→Prop) (s:Shared):Prop :=
 ∀ Γ p,Γ.In A→Good Γ→Sem.wp M Γ t (fun a _ s'=>Q a s') (fun e _ s'=>E e s') p s
noncomputable def codeN (M:Model) (A:Around) (c:Code) (R:Result→Shared→Prop) (s:Shared):Prop :=
 ∀ Γ p,Γ.code=c→Γ.Below A→Good Γ→wpCode M Γ R p s
section core
variable {α β:Type} {M:Model} {A:Around} {E:Value→Shared→Prop} {s:Shared}
theorem nOf {t:Sem α} {Q:α→Shared→Prop} (h:wpAny M A t Q E s):wpN M A t Q E s:=fun Γ p hΓ _=>h Γ p hΓ
theorem cOf {c:Code} {R:Result→Shared→Prop} (h:codeAny M A c R s):codeN M A c R s:=fun Γ p hc hΓ _=>h Γ p hc hΓ
theorem nPure {a:α} {Q:α→Shared→Prop} (h:Q a s):wpN M A (pure a) Q E s:=nOf (wpAny_pure h)
theorem nMono {t:Sem α} {Q Q':α→Shared→Prop} {E':Value→Shared→Prop} (h:wpN M A t Q E s)
  (hQ:∀ a s,Q a s→Q' a s) (hE:∀ e s,E e s→E' e s):wpN M A t Q' E' s :=
 fun Γ p hΓ hG=>Sem.wp_mono M Γ t (fun a _ s=>hQ a s) (fun e _ s=>hE e s) p s (h Γ p hΓ hG)
theorem nBind {m:Sem α} {f:α→Sem β} {Q:β→Shared→Prop} (h:wpN M A m (fun a s'=>wpN M A (f a) Q E s') E s):wpN M A (m >>= f) Q E s:=fun Γ p hΓ hG=>by
 rw [Sem.wp_bind']
 exact Sem.wp_mono M Γ m (fun a p' s' h'=>h' Γ p' hΓ hG) (fun _ _ _ h'=>h') p s (h Γ p hΓ hG)
theorem nStand {pos:Pos} {f:Unit→Sem β} {Q:β→Shared→Prop} (h:wpN M A (f ()) Q E s):wpN M A (standAt pos >>= f) Q E s:=nBind (nOf (wpAny_standAt h))
theorem nHold {vs:List Value} {m:Sem α} {Q:α→Shared→Prop} (h:wpN M A m Q E s):wpN M A (holding vs m) Q E s :=
 fun Γ p hΓ hG=>by rw [Sem.wp_holding];exact h Γ p hΓ hG
theorem nRaise {m:Sem α} {k:Value→Sem Unit} {Q:α→Shared→Prop}
  (h:wpN M A m Q (fun e s'=>wpN M A (k e) (fun _ s''=>E e s'') E s') s):wpN M A (m.onRaise k) Q E s:=fun Γ p hΓ hG=>by
 rw [Sem.wp_onRaise]
 exact Sem.wp_mono M Γ m (fun _ _ _ h'=>h') (fun e p' s' h'=>h' Γ p' hΓ hG) p s (h Γ p hΓ hG)
theorem nAttempt {m:Sem α} {Q:Except Value α→Shared→Prop} (h:wpN M A m (fun a=>Q (.ok a)) (fun e=>Q (.error e)) s) :
  wpN M A m.attempt Q E s:=fun Γ p hΓ hG=>by rw [Sem.wp_attempt];exact h Γ p hΓ hG
theorem nKeep {vs:List Value} {m:Sem α} {Q:α→Shared→Prop} (h:wpN M A m Q E s):wpN M A (m.keep vs) Q E s:=fun Γ p hΓ hG=>by
 rw [Sem.wp_keep];exact h Γ p hΓ hG
theorem nOperate {vs:List Value} {m:Sem Value} {Q:Value→Shared→Prop} (h:wpN M A m Q E s):wpN M A (operate vs m) Q E s:=fun Γ p hΓ hG=>by
 rw [Sem.wp_operate];exact h Γ p hΓ hG
theorem Good.enter {Γ:Ctx} (g:Good Γ) {c:Code} (hc:okCode c=true) (h:Option Value) (p:Pos):Good (Γ.enter c h p) :=
 ⟨hc,fun x hx=>by
  rcases List.mem_cons.mp (show x∈(Γ.code,p)::Γ.below from hx) with e | e
  ·rw [e];exact g.1
  ·exact g.2 x e⟩
theorem Good.goto {Γ:Ctx} (g:Good Γ) {c:Code} (hc:okCode c=true):Good (Γ.goto c):=⟨hc,g.2⟩
theorem nRun {c:Code} {h:Option Value} {Q:Flow→Shared→Prop} (hok:okCode c=true)
  (hc:codeN M (A.mark h) c (fun r s'=>match r with | .ok f=>Q f s' | .error e=>E e s') s) (hnb:h≠some byPass:=by intro x;cases x) :
  wpN M A (run c h) Q E s :=
 fun Γ p hΓ hG=>by rw [Sem.wp_run];exact hc _ p rfl (hΓ.enter c h p hnb) (hG.enter hok h p)
theorem nCall {f:Value} {pos:List Value} {kw:List (Str×Value)} {Q:Value→Shared→Prop}
  (hc:codeN M A (.call f ⟨pos,kw⟩) (fun r s'=>match r with | .ok (.ret v)=>Q v s' | .ok _=>False | .error e=>E e s') s) :
  wpN M A (call f pos kw) Q E s:=fun Γ p hΓ hG=>by
 show Sem.wp M Γ (runValue _) _ _ p s
 rw [Sem.wp_runValue];exact hc _ p rfl (hΓ.enter _ none p (by intro x;cases x)) (hG.enter rfl none p)
theorem cMono {c:Code} {R R':Result→Shared→Prop} (h:codeN M A c R s) (hR:∀ r s,R r s→R' r s):codeN M A c R' s :=
 fun Γ p hc hΓ hG=>wpCode_mono hR (h Γ p hc hΓ hG)
theorem cTree {c:Code} {R:Result→Shared→Prop}
  (h:wpN M (A.under c) (M.den c) (fun fin s'=>match fin with | .done f=>R (.ok f) s' | .again c'=>c'.quiet=true∧okCode c'=true∧codeN M A c' R s')
   (fun e s'=>R (.error e) s') s):codeN M A c R s:=fun Γ p hc hΓ hG=>by
 rw [wpCode_iff_wp,hc]
 refine Sem.wp_mono M Γ _ (fun fin p' s' h'=>?_) (fun _ _ _ h'=>h') p s (h Γ p (hc▸hΓ.in) hG)
 cases fin with
 | done f=>exact h'
 | again c'=>exact ⟨h'.1,h'.2.2 (Γ.goto c') p' rfl (hΓ.goto c') (hG.goto h'.2.1)⟩
theorem cLoop {c:Code} {R:Result→Shared→Prop} (hq:c.quiet=true) (hok:okCode c=true) (I:Nat→Shared→Prop)
  (turn:∀ n s,I n s→wpN M (A.under c) (M.den c)
   (fun fin s'=>match fin with | .done f=>R (.ok f) s' | .again c'=>(c'=c∧∃ m,m<n∧I m s')∨(c'.quiet=true∧okCode c'=true∧codeN M A c' R s')) (fun e s'=>R (.error e) s') s)
  (n:Nat) (h:I n s):codeN M A c R s:=by
 induction n using Nat.strongRecOn generalizing s with
 | ind n ih =>
  refine cTree (nMono (turn n s h) (fun fin s' hf=>?_) fun _ _ h'=>h')
  cases fin with
  | done f=>exact hf
  | again c' =>
   rcases hf with ⟨rfl,m,hm,hI⟩ | hf
   ·exact ⟨hq,hok,ih m hm hI⟩
   ·exact hf
end core
section ex
variable {M:Model} {A:Around} {E:Value→Shared→Prop} {s:Shared} {env:Env}
theorem nBinOp {l r:Expr} {op:Operator} {pos:Pos} {Q:Value→Shared→Prop}
  (h:wpN M A (eval l env) (fun a s₁=>wpN M A (eval r env) (fun b s₂=>wpN M A (binaryOp op a b) Q E s₂) E s₁) E s):wpN M A (eval (.BinOp l op r pos) env) Q E s:=by
 rw [eval_BinOp]
 exact nBind (nMono h (fun a s₁ h₁=>nBind (nHold (nMono h₁ (fun b s₂ h₂=>nStand (nOperate h₂)) fun _ _ x=>x))) fun _ _ x=>x)
theorem nUnary {op:UnaryOp} {x:Expr} {pos:Pos} {Q:Value→Shared→Prop} (h:wpN M A (eval x env) (fun v s₁=>wpN M A (unaryOp op v) Q E s₁) E s) :
  wpN M A (eval (.UnaryOp op x pos) env) Q E s:=by
 rw [eval_UnaryOp]
 exact nBind (nMono h (fun v s₁ h₁=>nStand (nHold h₁)) fun _ _ x=>x)
theorem nIfExp {test body orelse:Expr} {pos:Pos} {Q:Value→Shared→Prop}
  (h:wpN M A (isTrue test env (eval test env)) (fun c s₂=>if c then wpN M A (eval body env) Q E s₂ else wpN M A (eval orelse env) Q E s₂) E s) :
  wpN M A (eval (.IfExp test body orelse pos) env) Q E s:=by
 rw [eval_IfExp]
 refine nBind (nMono h (fun c s₂ h₂=>?_) fun _ _ x=>x)
 cases c<;>exact h₂
theorem nTuple {elts:List Expr} {k:Nat} {pos:Pos} {Q:Value→Shared→Prop}
  (h:wpN M A (spliced (backTo pos (starEach elts env))) (fun vs s₁=>wpN M A (newTuple vs) Q E s₁) E s):wpN M A (eval (.Tuple elts k pos) env) Q E s:=by
 show wpN M A (do standAt pos;newTuple (← spliced (backTo pos (starEach elts env)))) Q E s
 exact nStand (nBind h)
theorem nList {elts:List Expr} {pos:Pos} {Q:Value→Shared→Prop}
  (h:wpN M A (spliced (backTo pos (starEach elts env))) (fun vs s₁=>wpN M A (newList vs) Q E s₁) E s):wpN M A (eval (.List elts pos) env) Q E s:=by
 show wpN M A (do standAt pos;newList (← spliced (backTo pos (starEach elts env)))) Q E s
 exact nStand (nBind h)
theorem nSubscript {value slice:Expr} {pos:Pos} {Q:Value→Shared→Prop}
  (h:wpN M A (eval value env) (fun o s₁=>wpN M A (eval slice env) (fun i s₂=>wpN M A (subscriptTail value slice o i) Q E s₂) E s₁) E s) :
  wpN M A (eval (.Subscript value slice pos) env) Q E s:=by
 rw [eval_Subscript]
 exact nBind (nMono h (fun o s₁ h₁=>nBind (nHold (nMono h₁ (fun i s₂ h₂=>nStand h₂) fun _ _ x=>x))) fun _ _ x=>x)
theorem nSlice {lower upper step:Option Expr} {p:Pos} {Q:Value→Shared→Prop}
  (h:wpN M A (evalPart lower env) (fun l s₁=>wpN M A (evalPart upper env) (fun u s₂=>wpN M A (evalPart step env) (fun st s₃ =>
   Q (.ref s₃.heap.objs.size) { s₃ with heap:=s₃.heap.push { cls:=.type "slice",data:=.fields #[l,u,st] } }) E s₂) E s₁) E s) :
  wpN M A (eval (.Slice lower upper step p) env) Q E s:=by
 rw [arm_eval_Slice]
 refine nBind (nMono h (fun l s₁ h₁=>nBind (nHold (nMono h₁ (fun u s₂ h₂=>nBind (nHold (nMono h₂ (fun st s₃ h₃=>?_) fun _ _ x=>x))) fun _ _ x=>x))) fun _ _ x=>x)
 exact nOf (wpAny_newObj_type h₃)
theorem nTrue_not {x:Expr} {pos:Pos} {whole:Sem Value} {Q:Bool→Shared→Prop} (h:wpN M A (isTrue x env (eval x env)) (fun c s'=>Q (!c) s') E s) :
  wpN M A (isTrue (.UnaryOp .Not x pos) env whole) Q E s:=by
 show wpN M A (do return !(← isTrue x env (eval x env))) Q E s
 exact nBind (nMono h (fun c s' h'=>nPure h') fun _ _ x=>x)
theorem nTrue_IfExp {test body orelse:Expr} {pos:Pos} {whole:Sem Value} {Q:Bool→Shared→Prop}
  (h:wpN M A (isTrue test env (eval test env)) (fun c s₂=>if c then wpN M A (isTrue body env (eval body env)) Q E s₂ else wpN M A (isTrue orelse env (eval orelse env)) Q E s₂) E s) :
  wpN M A (isTrue (.IfExp test body orelse pos) env whole) Q E s:=by
 show wpN M A (do if ← isTrue test env (eval test env) then isTrue body env (eval body env) else isTrue orelse env (eval orelse env)) Q E s
 refine nBind (nMono h (fun c s₂ h₂=>?_) fun _ _ x=>x)
 cases c<;>exact h₂
theorem nTrue_plain {e:Expr} {whole:Sem Value} {Q:Bool→Shared→Prop} (h:wpN M A whole (fun v s₁=>wpN M A (truthy v) Q E s₁) E s)
  (he:isTrue e env whole=(do let v ← whole;standAt e.pos;holding [v] (truthy v)):=by rfl):wpN M A (isTrue e env whole) Q E s:=by
 rw [he]
 exact nBind (nMono h (fun v s₁ h₁=>nStand (nHold h₁)) fun _ _ x=>x)
theorem nTrue_BoolOp {op:BoolOp} {values:List Expr} {pos:Pos} {whole:Sem Value} {Q:Bool→Shared→Prop} (h:wpN M A (allTrue op values env) Q E s) :
  wpN M A (isTrue (.BoolOp op values pos) env whole) Q E s:=by rw [arm_isTrue_BoolOp];exact h
theorem nSpl_nil {Q:List Value→Shared→Prop} (h:Q [] s):wpN M A (spliced []) Q E s:=nPure h
theorem nSpl_cons {x:Sem Value} {rest:List (Bool×Sem Value)} {Q:List Value→Shared→Prop}
  (h:wpN M A x (fun v s₁=>wpN M A (spliced rest) (fun vs s₂=>Q (v::vs) s₂) E s₁) E s):wpN M A (spliced ((false,x)::rest)) Q E s:=by
 rw [spliced]
 refine nBind (nMono h (fun v s₁ h₁=>?_) fun _ _ x=>x)
 simp only [Bool.false_eq_true,if_false]
 first
  | exact nBind (nHold (nMono h₁ (fun vs s₂ h₂=>nPure h₂) fun _ _ x=>x))
  | exact nBind (nPure (nBind (nHold (nMono h₁ (fun vs s₂ h₂=>nPure h₂) fun _ _ x=>x))))
theorem nArgs_plain {f:Value} {x:Sem Value} {rest:List (Bool×Sem Value)} {Q:Args→Shared→Prop}
  (h:wpN M A (spliced ((false,x)::rest)) (fun vs s'=>Q ⟨vs,[]⟩ s') E s):wpN M A (evalArgs f true ((false,x)::rest) []) Q E s:=by
 unfold evalArgs
 show wpN M A (spliced ((false,x)::rest) >>= _) Q E s
 refine nBind (nMono h (fun vs s' h'=>?_) fun _ _ x=>x)
 refine nHold ?_
 exact nBind (nPure (nBind (nPure (nPure h'))))
theorem nTail {t:Sem Value} {Q:Value→Shared→Prop} (h:wpN M A t Q E s):wpN M A (t >>= fun r=>holding [r] point >>= fun _=>pure r) Q E s :=
 nBind (nMono h (fun r s₂ hr=>nBind (nHold (nOf (wpAny_point (nPure hr))))) fun _ _ x=>x)
theorem nWith_builtin {pos:Pos} {id:String} {first:List Value} {args:List (Bool×Sem Value)} {Q:Value→Shared→Prop} (hplain:args.any (·.1)=false)
  (h:wpN M A (evalArgs (.builtin id) true args []) (fun a s₁=>wpN M A (call (.builtin id) (first++a.pos) a.kw) Q E s₁) E s) :
  wpN M A (callWith pos (.builtin id) first args []) Q E s:=by
 unfold callWith
 refine nBind (nHold (nMono h (fun a s₁ h₁=>nStand ?_) fun _ _ x=>x))
 rw [hplain]
 exact nBind (nPure (nTail h₁))
theorem nWith_type {pos:Pos} {T:String} {first:List Value} {args:List (Bool×Sem Value)} {Q:Value→Shared→Prop} (hplain:args.any (·.1)=false)
  (h:wpN M A (evalArgs (.type T) true args []) (fun a s₁=>wpN M A (call (.type T) (first++a.pos) a.kw) Q E s₁) E s) :
  wpN M A (callWith pos (.type T) first args []) Q E s:=by
 unfold callWith
 refine nBind (nHold (nMono h (fun a s₁ h₁=>nStand ?_) fun _ _ x=>x))
 rw [hplain]
 exact nBind (nPure (nTail h₁))
theorem nWith_function {pos:Pos} {a:Addr} {o:Obj} {fd:FuncData} {first:List Value} {args:List (Bool×Sem Value)} {Q:Value→Shared→Prop} (hplain:args.any (·.1)=false)
  (h:wpN M A (evalArgs (.ref a) true args []) (fun x s₁=>(s₁.heap.get? a=some o∧o.data = .func fd)∧wpN M A (call (.ref a) (first++x.pos) x.kw) Q E s₁) E s) :
  wpN M A (callWith pos (.ref a) first args []) Q E s:=by
 unfold callWith
 refine nBind (nHold (nMono h (fun x s₁ h₁=>nStand ?_) fun _ _ x=>x))
 rw [hplain,List.any_nil,Bool.or_false]
 refine nBind (m:=keeperOf (.ref a)) ?_
 unfold keeperOf
 refine nBind (nOf (wpAny_load h₁.1.1 ?_))
 rw [h₁.1.2]
 refine nPure ?_
 dsimp only
 split
 ·exact nTail h₁.2
 ·refine nTail ?_
  unfold callMarked
  exact nKeep h₁.2
theorem nArgs_none {f:Value} {Q:Args→Shared→Prop} (h:Q ⟨[],[]⟩ s):wpN M A (evalArgs f true [] []) Q E s:=nOf (PyProof.Rows.evalArgs_none h)
end ex
section st
variable {prog:Program} {w:World} {A:Around} {E:Value→Shared→Prop} {s:Shared} {env:Env} {R:Result→Shared→Prop}
theorem nMethod {o:Expr} {name:Str} {apos pos:Pos} {args:List Expr} {Q:Value→Shared→Prop}
  (hbase:attributeBase o name env (eval o env)=eval o env)
  (hfew:((backTo pos (starEach args env)).all (fun x=>!x.1)&&(backToKw pos (keywordEach [] env)).all (fun x=>x.1.isSome)
   && decide (args.length+([]:List Keyword).length+(if ([]:List Keyword).isEmpty then 0 else 1)<30))=true)
  (hline:(apos.endLine == pos.line)=true)
  (h:wpN (model prog w) A (eval o env) (fun ov s₁=>∃ T id,PlainAttrs T∧Slot T name id∧typeOf (.builtin id)=pure (.type "method_descriptor")∧s₁.TypeIs ov T∧(∀ a,ov = .ref a→∃ ob,s₁.heap.get? a=some ob∧ob.dict=none) ∧
   wpN (model prog w) A (callWith pos (.builtin id) [ov] (backTo pos (starEach args env)) []) Q E s₁) E s) :
  wpN (model prog w) A (eval (.Call (.Attribute o name apos) args [] pos) env) Q E s:=by
 rw [arm_eval_Call,hbase]
 refine nBind (nMono h (fun ov s₁ h₁=>?_) fun _ _ e=>e)
 obtain ⟨T,id,pa,slot,hty,hT,hd,hc⟩:=h₁
 refine nStand ?_
 have hform:methodCallForm (args.length+([]:List Keyword).length) (backTo pos (starEach args env)) (backToKw pos (keywordEach [] env))=true:=hfew
 have hpos:methodCallPos true o env apos pos=pure pos:=by unfold methodCallPos;simp [hline]
 unfold methodCall
 rw [hform]
 refine nBind (nHold (nOf (getMethod_builtin hT pa slot hty hd ?_)))
 rw [hpos]
 exact nBind (nPure hc)
theorem nBindName {x:Str} {v:Value} {Q:Unit→Shared→Prop} (h:wpN (model prog w) A (storeName env x v) Q E s):wpN (model prog w) A (bindName env x v) Q E s:=fun Γ p hΓ hG=>by
 rw [Sem.wp_bindName];exact h Γ p hΓ hG
theorem nExecs {st:Stmt} {rest:List Stmt} {Q:Flow→Shared→Prop}
  (h:wpN (model prog w) A (exec st env) (fun f s'=>match f with | .next=>wpN (model prog w) A (execs rest env) Q E s' | f=>Q f s') E s) :
  wpN (model prog w) A (execs (st::rest) env) Q E s:=by
 rw [execs_cons]
 refine nBind (nMono h (fun f s' h'=>?_) fun _ _ x=>x)
 cases f<;>first | exact h' | exact nPure h'
theorem nAssign {x:Str} {pos' pos:Pos} {value:Expr} {Q:Flow→Shared→Prop}
  (h:wpN (model prog w) A (eval value env) (fun v s₁=>wpN (model prog w) A (storeName env x v) (fun _=>Q .next) E s₁) E s)
  (hs:swapsWith value (some (.Name x pos')) pos.line env=pure false:=by rfl) :
  wpN (model prog w) A (exec (.Assign [.Name x pos'] value pos) env) Q E s:=by
 rw [exec_Assign_Name env x pos' value pos hs]
 refine nStand (nBind (nMono h (fun v s₁ h₁=>?_) fun _ _ x=>x))
 exact nStand (nBind (nBindName (nMono h₁ (fun _ _ q=>nPure q) fun _ _ x=>x)))
theorem nExpr {e:Expr} {pos:Pos} {Q:Flow→Shared→Prop} (h:wpN (model prog w) A (eval e env) (fun _=>Q .next) E s)
  (hi:interactive env=false:=by rfl) (hs:swapsWith e none pos.line env=pure false:=by rfl) :
  wpN (model prog w) A (exec (.Expr e pos) env) Q E s:=by
 rw [exec_Expr env e pos hi hs]
 exact nStand (nBind (nMono h (fun v s' h'=>nOf (wpAny_dropValue h')) fun _ _ x=>x))
theorem nReturn {e:Expr} {pos:Pos} {Q:Flow→Shared→Prop} (h:wpN (model prog w) A (eval e env) (fun v=>Q (.ret v)) E s) :
  wpN (model prog w) A (exec (.Return (some e) pos) env) Q E s:=by
 rw [exec_Return_some]
 exact nStand (nBind (nMono h (fun v s' h'=>nPure h') fun _ _ x=>x))
theorem nIf {test:Expr} {body orelse:List Stmt} {pos:Pos} {Q:Flow→Shared→Prop}
  (h:wpN (model prog w) A (isTrue test env (eval test env)) (fun b s₂=>if b then wpN (model prog w) A (execs body env) Q E s₂ else wpN (model prog w) A (execs orelse env) Q E s₂) E s) :
  wpN (model prog w) A (exec (.If test body orelse pos) env) Q E s:=by
 rw [exec_If]
 refine nStand (nBind (nMono h (fun b s₂ h₂=>?_) fun _ _ x=>x))
 cases b<;>exact h₂
theorem nAssert {test:Expr} {pos:Pos} {Q:Flow→Shared→Prop} (hh:A.handled=none)
  (h:wpN (model prog w) A (isTrue test env (eval test env)) (fun b s₁=>if b then Q .next s₁ else ∀ h' e,Heap.NewExc s₁.heap h' e "AssertionError" → E (.ref e) { s₁ with heap:=h' }) E s) :
  wpN (model prog w) A (exec (.Assert test none pos) env) Q E s:=by
 rw [arm_exec_Assert]
 refine nStand (nBind (nMono h (fun b s₁ h₁=>?_) fun _ _ x=>x))
 cases b with
 | true=>exact nPure h₁
 | false =>
  simp only [Bool.false_eq_true,if_false] at h₁ ⊢
  refine nOf ?_
  unfold assertFails valueOfOpt
  refine wpAny_bind (wpAny_pure (wpAny_bind (wpAny_standAt (wpAny_bind (wpAny_rule ?_)))))
  exact wpAny_bind (wpAny_newExc_plain plainExc_AssertionError fun h' e hm=>wpAny_raiseNew_none hh (h₁ h' e hm.newExc))
theorem nRunOwn {c:Code} {Q:Flow→Shared→Prop} (hok:okCode c=true)
  (hc:codeN (model prog w) A c (fun r s'=>match r with | .ok f=>Q f s' | .error e=>cameBackBy (model prog w) A env E e s') s) :
  wpN (model prog w) A (runOwn c env) Q E s:=by
 unfold runOwn
 refine nRaise (nRun hok (cMono hc fun r s' hr=>?_))
 cases r with
 | ok f=>exact hr
 | error e=>exact nOf hr
theorem nWhile {test:Expr} {body orelse:List Stmt} {pos:Pos} {Q:Flow→Shared→Prop}
  (h:codeN (model prog w) A (.whileLoop test body orelse env) (fun r s'=>match r with | .ok f=>Q f s' | .error e=>cameBackBy (model prog w) A env E e s') s) :
  wpN (model prog w) A (exec (.While test body orelse pos) env) Q E s:=by
 rw [exec_While];exact nStand (nRunOwn rfl h)
theorem nFor {target iter:Expr} {body orelse:List Stmt} {pos:Pos} {Q:Flow→Shared→Prop}
  (h:wpN (model prog w) A (eval iter env) (fun x s₁=>wpN (model prog w) A (pyIter x) (fun it s₂ =>
   codeN (model prog w) A (.forLoop target it body orelse env) (fun r s'=>match r with | .ok f=>Q f s' | .error e=>cameBackBy (model prog w) A env E e s') s₂) E s₁) E s)
  (hs:∀ x,foldedSetIterable iter env x=pure x:=by intro _;rfl) :
  wpN (model prog w) A (exec (.For target iter body orelse pos) env) Q E s:=by
 rw [exec_For]
 refine nStand (nBind (nMono h (fun x s₁ h₁=>?_) fun _ _ x=>x))
 rw [hs x]
 exact nBind (nPure (nStand (nBind (nHold (nMono h₁ (fun it s₂ h₂=>nRunOwn rfl h₂) fun _ _ x=>x)))))
theorem nNoted {α:Type} {m:Sem α} {Q:α→Shared→Prop} (h:wpN (model prog w) A m Q (notedBy (model prog w) A env E) s):wpN (model prog w) A (m.onRaise fun x=>do noteFrame x env;theTreesLotGoes x) Q E s :=
 nRaise (nMono h (fun _ _ q=>q) fun _ _ hx=>nOf (wpAny_bind (wpAny_mono hx (fun _ _ e=>wpAny_theTreesLotGoes e) fun _ _ e=>e)))
theorem cWhile {test:Expr} {body:List Stmt} (I:Nat→Shared→Prop)
  (turn:∀ n s,I n s →
   wpN (model prog w) A (isTrue test env (eval test env)) (fun b s₂ =>
    if b then wpN (model prog w) A (execs body env) (fun f s₃=>match f with
      | .next | .cont=>∃ m,m<n∧I m s₃
      | .brk=>R (.ok .next) s₃
      | .ret v=>R (.ok (.ret v)) s₃) (notedBy (model prog w) A env fun e s'=>R (.error e) s') s₂
    else R (.ok .next) s₂)
    (notedBy (model prog w) A env fun e s'=>R (.error e) s') s)
  (n:Nat) (h:I n s):codeN (model prog w) A (.whileLoop test body [] env) R s:=by
 revert turn h
 k_call_by "e" [prog,w,A,s,env,R,test,body,I,n]
 refine cLoop rfl rfl I (fun n s hI=>?_) n h
 show wpN _ A ((whileTurn test body [] env).onRaise (fun x=>do noteFrame x env;theTreesLotGoes x)) _ _ s
 refine nNoted ?_
 simp only [whileTurn]
 refine nBind (nMono (turn n s hI) (fun b s₂ h₂=>?_) fun _ _ h'=>h')
 cases b with
 | false =>
  simp only [Bool.false_eq_true,if_false] at h₂ ⊢
  exact nBind (nOf (wpAny_pure (a:=Flow.next) (nPure h₂)))
 | true =>
  simp only [if_true] at h₂ ⊢
  refine nBind (nMono h₂ (fun f s₃ h₃=>?_) fun _ _ h'=>h')
  cases f with
  | next=>exact nPure (.inl ⟨rfl,h₃⟩)
  | cont=>exact nPure (.inl ⟨rfl,h₃⟩)
  | brk=>exact nPure h₃
  | ret v=>exact nPure h₃
theorem cFor {target:Expr} {itv:Value} {body:List Stmt} (I:Nat→Shared→Prop)
  (turn:∀ n s,I n s→wpAny (model prog w) A (pyNext itv) (fun r s₁=>match r with
   | none=>R (.ok .next) s₁
   | some v=>wpAny (model prog w) A (letOwnedTupleGo target itv v) (fun _ s₁'=>wpAny (model prog w) A (assign target env v) (fun _ s₂=>wpN (model prog w) A (execs body env) (fun f s₃=>match f with
      | .next | .cont=>∃ m,m<n∧I m s₃
      | .brk=>R (.ok .next) s₃
      | .ret v=>R (.ok (.ret v)) s₃) (notedBy (model prog w) A env fun e s'=>R (.error e) s') s₂) (notedBy (model prog w) A env fun e s'=>R (.error e) s') s₁') (notedBy (model prog w) A env fun e s'=>R (.error e) s') s₁) (notedBy (model prog w) A env fun e s'=>R (.error e) s') s)
  (n:Nat) (h:I n s):codeN (model prog w) A (.forLoop target itv body [] env) R s:=by
 revert turn h
 k_call_by "e" [prog,w,A,s,env,R,target,itv,body,I,n]
 refine cLoop rfl rfl I (fun n s hI=>?_) n h
 show wpN _ A ((forTurn target itv body [] env).onRaise (fun x=>do noteFrame x env;theTreesLotGoes x)) _ _ s
 refine nNoted ?_
 simp only [forTurn]
 refine nStand (nBind (nOf (wpAny_onRaise (wpAny_mono (turn n s hI) (fun r s₁ h₁=>?_) fun _ _ h'=>wpAny_standAt h'))))
 cases r with
 | none=>exact nPure (.inr ⟨rfl,rfl,cOf (codeAny_block (wpAny_pure (a:=Flow.next) h₁))⟩)
 | some v =>
  refine nBind (nOf (wpAny_mono h₁ (fun _ s₁' h₁'=>?_) fun _ _ h'=>h'))
  refine nBind (nOf (wpAny_mono h₁' (fun _ s₂ h₂=>nBind (nMono h₂ (fun f s₃ h₃=>?_) fun _ _ h'=>h')) fun _ _ h'=>h'))
  cases f with
  | next=>exact nPure (.inl ⟨rfl,h₃⟩)
  | cont=>exact nPure (.inl ⟨rfl,h₃⟩)
  | brk=>exact nPure h₃
  | ret v=>exact nPure h₃
theorem cFunc {body:List Stmt}
  (h:wpN (model prog w) (A.deeper env) (execs body env) (fun f s'=>R (.ok (.ret (match f with | .ret v=>v | _=>.none))) s')
   (fun e s'=>wpAny (model prog w) (A.deeper env) (leaving env e) (fun _ s''=>R (.error e) s'') (fun e' s''=>R (.error e') s'') s') s) :
  codeN (model prog w) A (.func body env) R s:=by
 refine cTree ?_
 show wpN _ (A.deeper env) (do point;match ← (execs body env).onRaise (leaving env) with | .ret v=>ret v | _=>ret .none) _ _ s
 refine nBind (nOf (wpAny_point (nBind (nRaise (nMono h (fun f s' h'=>?_) fun _ _ h'=>nOf h')))))
 cases f<;>exact nPure h'
theorem cFunction {a:Addr} {args:Args} {o:Obj} {fd:FuncData} {body:List Stmt} (hroom:A.depth<recursionLimit)
  (ho:s.heap.get? a=some o)
  (hd':o.data = .func fd) (hco:fd.scope.isCoroutine=false) (hgen:fd.scope.isGenerator=false) (hbody:fd.body = .stmts body) (hcd:s.heap.CodeRec fd.code fd.qualname)
  (h:wpAny (model prog w) A.in1 (bindArgs fd args) (fun binds s₁ =>
   wpAny (model prog w) A.in1 (newFunctionEnv fd.scope fd.globals fd.closure binds (fd.qualname ++ ".<locals>.") (some a) fd.code none fd.builtins)
    (fun env s₂=>s₂.heap.NoLimit∧codeN (model prog w) A (.func body env) R s₂) (fun e s'=>R (.error e) s') s₁) (fun e s'=>R (.error e) s') s) :
  codeN (model prog w) A (.call (.ref a) args) R s:=by
 revert hroom ho hd' hco hgen hbody hcd h
 k_call_by "e" [prog,w,A,s,R,a,args,o,fd,body]
 refine cTree ?_
 show wpN _ A.in1 (load a >>= _) _ _ s
 refine nBind (nOf (wpAny_load ho ?_))
 obtain ⟨c,oc,vs,tq,hc,hoc,hdc,hq⟩:=hcd
 simp only [hd',callFunction,hco,hgen,hbody,hc]
 rw [hc] at h
 refine nBind (m:=field (.ref c) 1) (nOf (wpAny_field hoc hdc hq (nBind (nPure ?_))))
 exact nBind (nOf (wpAny_mono h (fun binds s₁ h₁=>nBind (nOf (wpAny_mono h₁ (fun env s₂ h₂=>nBind (nOf (wpAny_enterFrame h₂.1 hroom
  (nPure (And.intro rfl (And.intro rfl h₂.2)))))) fun _ _ h'=>h'))) fun _ _ h'=>h'))
theorem cCells {name:Str} {params:Arguments} {body:List Stmt} {scope:Scope}
  {pm cd doc:Value} {a:Addr} {o:Obj} {args:List Value} {binds:List (Str×Value)}
  (hroom:A.depth<recursionLimit) (ho:s.heap.get? a=some o) (hdata:o.data = .func (Calls.docDef name params body scope pm cd doc)) (hlim:s.heap.NoLimit) (hcd:s.heap.CodeRec cd name)
  (hbind:bindArgs (Calls.docDef name params body scope pm cd doc) ⟨args,[]⟩=pure binds)
  (hkind:∀ x∈binds,scope.names.lookup x.1=some .local∨(scope.names.lookup x.1=some .cell∧((cellsFrom (s.heap.objs.size+1) scope.names []).lookup x.1).isSome=true))
  (h:∀ h₁ tk,Fr s.heap s.heap.objs.size h₁ (bindL (envOfC name scope s.heap.objs.size a cd).kindOf binds fun _=>none) →
   Cl s.heap.objs.size (cellsFrom (s.heap.objs.size+1) scope.names []) h₁ (bindC (envOfC name scope s.heap.objs.size a cd).kindOf binds fun _=>none) →
   wpN (model prog w) (A.deeper (envOfC name scope s.heap.objs.size a cd)) (execs body (envOfC name scope s.heap.objs.size a cd))
    (fun f s'=>R (.ok (.ret (match f with | .ret v=>v | _=>.none))) s')
    (fun e s'=>wpAny (model prog w) (A.deeper (envOfC name scope s.heap.objs.size a cd)) (leaving (envOfC name scope s.heap.objs.size a cd) e)
     (fun _ s''=>R (.error e) s'') (fun e' s''=>R (.error e') s'') s')
    { s with heap:=h₁,toks:=tk })
  (hco:scope.isCoroutine=false) (hgen:scope.isGenerator=false) (hk:scope.kind = .function) :
  codeN (model prog w) A (.call (.ref a) ⟨args,[]⟩) R s:=by
 revert hroom ho hdata hlim hcd hbind hkind h hco hgen hk
 k_call_by "e" [prog,w,A,s,R,name,params,body,scope,pm,cd,doc,a,o,args,binds]
 refine cFunction hroom ho hdata hco hgen rfl hcd ?_
 rw [hbind]
 refine wpAny_pure (wpAny_newFunctionEnv_cells hk hkind fun env he s' X=>?_)
 subst he
 refine ⟨hlim.keeps X.toInCall.keep,cFunc ?_⟩
 obtain ⟨h₁,tk,rfl,_⟩:=X.done
 exact h h₁ tk ⟨X.toInCall.ns,X.toInCall.keep,X.toInCall.fresh⟩ ⟨X.cell,X.apart,X.above⟩
theorem nTry {body:List Stmt} {h₀:ExceptHandler} {hs:List ExceptHandler} {pos:Pos} {Q:Flow→Shared→Prop}
  (h:wpN (model prog w) A (execs body env) (fun f s₁=>match f with | .next=>Q .next s₁ | f=>Q f s₁)
   (fun e s₁=>wpAny (model prog w) A (noteFrame e env) (fun _ s₂=>wpAny (model prog w) A (setFlight e none) (fun _ s₃=>wpN (model prog w) A (handleBy e env (h₀::hs)) Q E s₃) E s₂) E s₁) s) :
  wpN (model prog w) A (exec (.Try body (h₀::hs) [] [] pos) env) Q E s:=by
 revert h
 k_call_by "e" [prog,w,A,E,s,env,body,h₀,hs,pos,Q]
 rw [arm_exec_Try]
 refine nStand ?_
 unfold tryStmt
 simp only [List.isEmpty_nil,if_true,List.isEmpty_cons,Bool.false_and,Bool.false_eq_true,if_false]
 refine nBind (nAttempt (nMono h (fun f s₁ h₁=>?_) fun e s₁ h₁=>?_))
 ·cases f<;>first | exact nPure h₁ | exact nOf (wpAny_pure (a:=Flow.next) h₁)
 ·exact nBind (nOf (wpAny_mono h₁ (fun _ _ h₂=>nBind (nOf h₂)) fun _ _ x=>x))
theorem nRunOwnH {c:Code} {e:Value} {Q:Flow→Shared→Prop} (hok:okCode c=true) (hnb:e≠byPass) (hc:codeN (model prog w) (A.mark (some e)) c (fun r s'=>∃ f,r = .ok f∧Q f s') s) :
  wpN (model prog w) A (runOwn c env (some e)) Q E s:=by
 unfold runOwn
 refine nRaise (nRun hok (cMono hc fun r s' hr=>?_) fun x=>hnb (Option.some.inj x))
 obtain ⟨f,rfl,hr⟩:=hr
 exact hr
theorem cSuite {e:Value} {b₀:Stmt} {body:List Stmt} {pos:Pos}
  (h:wpAny (model prog w) A (setFlight e none) (fun _ s₁=>wpN (model prog w) A (execs (b₀::body) env) (fun f s₂=>R (.ok f) s₂) (fun _ _=>False) s₁) (fun _ _=>False) s) :
  codeN (model prog w) A (.handlers e [.ExceptHandler none none (b₀::body) pos] env) R s:=by
 refine cTree ?_
 show wpN _ A (do return Fin.done (← (handleWith e env [.ExceptHandler none none (b₀::body) pos]).onRaise (fun x=>do noteFrame x env;theTreesLotGoes x))) _ _ s
 refine nBind (nNoted ?_)
 unfold handleWith
 exact nStand (nBind (nOf (wpAny_mono h (fun _ s₁ h₁=>nMono h₁ (fun f s₂ h₂=>nPure h₂) fun _ _ x=>x.elim) fun _ _ x=>x.elim)))
theorem nHandle {e:Value} {t:Expr} {b₀:Stmt} {suite:List Stmt} {pos:Pos} {rest:List ExceptHandler} {Q:Flow→Shared→Prop} (hnb:e≠byPass)
  (h:wpAny (model prog w) (A.mark (some e)) (eval t env) (fun c s₁=>wpAny (model prog w) (A.mark (some e)) (excMatches e c) (fun b s₂=>b=true∧wpAny (model prog w) (A.mark (some e)) (setFlight e none)
   (fun _ s₃=>wpN (model prog w) (A.mark (some e)) (execs (b₀::suite) env) Q (fun _ _=>False) s₃) (fun _ _=>False) s₂) (fun _ _=>False) s₁) (fun _ _=>False) s) :
  wpN (model prog w) A (handleBy e env (.ExceptHandler (some t) none (b₀::suite) pos::rest)) Q E s:=by
 rw [handleBy]
 refine nBind (nHold (nRunOwnH rfl hnb (cMono (cOf (codeAny_handlers_test (R:=fun r s₁=>r = .ok .brk∧wpAny (model prog w) (A.mark (some e)) (setFlight e none)
   (fun _ s₃=>wpN (model prog w) (A.mark (some e)) (execs (b₀::suite) env) Q (fun _ _=>False) s₃) (fun _ _=>False) s₁) (wpAny_mono h (fun c s₁ h₁=>wpAny_mono h₁ (fun b s₂ h₂=>?_) fun _ _ x=>x.elim) fun _ _ x=>x.elim))) fun r s₁ hr=>⟨.brk,hr.1,?_⟩)))
 ·obtain ⟨rfl,h₂⟩:=h₂
  exact ⟨rfl,h₂⟩
 ·refine nBind (nPure ?_)
  show wpN (model prog w) A (if (!true)=true then handleBy e env rest else _) Q E s₁
  rw [if_neg (by decide)]
  exact nBind (nHold (nRunOwnH rfl hnb (cSuite (wpAny_mono hr.2 (fun _ s₃ h₃=>nMono h₃ (fun f s₄ h₄=>⟨f,rfl,nPure h₄⟩) fun _ _ x=>x.elim) fun _ _ x=>x))))
end st
end DL
end
section
namespace DL
section
variable {prog:Program} {w:PySem.World} {A:Around} {E:Value→Shared→Prop} {s:Shared} {R:Result→Shared→Prop}
theorem cBuiltin {id:String} {args:Args} {b:Builtin} (hb:entryFor table id=some b)
  (h:wpN (model prog w) (A.under (.builtin id args)) (b args)
   (fun fin s'=>match fin with | .done f=>R (.ok f) s' | .again c'=>c'.quiet=true∧okCode c'=true∧codeN (model prog w) A c' R s') (fun e s'=>R (.error e) s') s) :
  codeN (model prog w) A (.builtin id args) R s:=by
 refine cTree ?_
 show wpN _ _ (match entryFor table id with | some b=>b args | none=>unsupported ((withoutEnding? id "#data").getD id)) _ _ s
 rw [hb];exact h
theorem cCallBuiltin {id:String} {args:Args} {b:Builtin} (hq:plainId id=true) (hok:okCode (.builtin id args)=true) (hb:entryFor table id=some b)
  (h:wpN (model prog w) A.in1 (checkBuiltinCall id args) (fun _ s₁=>wpN (model prog w) A.in1 (b args)
   (fun fin s'=>match fin with | .done f=>R (.ok f) s' | .again c'=>c'.quiet=true∧okCode c'=true∧codeN (model prog w) A c' R s') (fun e s'=>R (.error e) s') s₁)
   (fun e s'=>R (.error e) s') s):codeN (model prog w) A (.call (.builtin id) args) R s:=by
 refine cTree ?_
 show wpN _ A.in1 (do checkBuiltinCall id args;again (.builtin id args)) _ _ s
 refine nBind (nMono h (fun _ s₁ h₁=>nPure (And.intro (plainId_quiet hq args) (And.intro hok (cBuiltin hb ?_)))) fun _ _ h'=>h')
 rw [Around.under_plainId hq args];exact h₁
theorem nStack {M:Model} {Q:List (Code×Pos)→Shared→Prop} (h:∀ l:List (Code×Pos),(∀ x∈l,okCode x.1=true)→Q l s):wpN M A stack Q E s:=fun Γ p hΓ hG=>by
 show Q ((Γ.code,p)::Γ.below) s
 refine h _ fun x hx=>?_
 rcases List.mem_cons.mp hx with e | e
 ·rw [e];exact hG.1
 ·exact hG.2 x e
theorem dif_no {c:Prop} {d:Decidable c} {t:c→Bool} {e:¬c→Bool} (h:¬ c) (k:e h=false):dite c t e=false:=(dif_neg h).trans k
theorem badId {id x:String} (hb:badIds.contains id=false) (hx:badIds.contains x=true):¬ id=x:=fun e=>Bool.noConfusion (hb.symm.trans (e▸hx))
theorem heldId {id:String} (hb:badIds.contains id=false):Builtin.Bytes.decodersThatHold.contains id=false :=
 Bool.eq_false_iff.mpr fun z=>Bool.noConfusion (hb.symm.trans (List.contains_iff_mem.mpr (List.mem_append_right _ (List.contains_iff_mem.mp z))))
theorem nExported {M:Model} {self:Value} {Q:Bool→Shared→Prop} (h:Q false s):wpN M A (Builtin.Bytes.exported self) Q E s:=by
 delta Builtin.Bytes.exported
 refine nBind (nStack fun l hl=>nPure ?_)
 rw [List.any_eq_false.mpr fun x hx=>Bool.eq_false_iff.mp ?_]
 ·exact h
 ·obtain ⟨c,p⟩:=x
  revert h hl hx
  k_call_by "e" [A,E,s,M,self,Q,l,c,p]
  have hok:=hl _ hx
  clear hx hl h
  cases c with
  | builtin id args =>
   obtain ⟨ps,kw⟩:=args
   have hb:badIds.contains id=false:=Bool.not_eq_true' _ |>.mp hok
   delta Builtin.Bytes.exported.match_1
   refine dif_no (badId (x:="bytearray.__contains__") hb (by decide +kernel)) ?_
   refine dif_no (badId (x:="bytearray.__mod__") hb (by decide +kernel)) ?_
   refine dif_no (badId (x:="bytearray.__rmod__") hb (by decide +kernel)) ?_
   refine dif_no (badId (x:="_struct.pack_into.held") hb (by decide +kernel)) ?_
   refine dif_no (badId (x:="bytearray.find.held") hb (by decide +kernel)) ?_
   cases ps with
   | nil=>rfl
   | cons v t=>exact (congrArg _ (heldId hb)).trans (Bool.and_false _)
  | _=>rfl
theorem nResize {M:Model} {a:Addr} {o:Obj} {b:Array UInt8} {Q:Unit→Shared→Prop} (ho:s.heap.get? a=some o) (hd:o.data = .bytearray b) (h:Q () s):wpN M A (Builtin.Bytes.checkResize (.ref a)) Q E s:=by
 unfold Builtin.Bytes.checkResize
 refine nBind (nBind (nExported (nBind (nBind (nOf (wpAny_load ho ?_))))))
 rw [hd]
 exact nPure (nPure (nPure h))
theorem nWrite {M:Model} {a:Addr} {b:Array UInt8} {f:Array UInt8→Array UInt8} {Q:Unit→Shared→Prop} (ho:s.heap.get? a=some { cls:=.type "bytearray",data:=.bytearray b }) (hz:(f b).size≤sizeLine)
  (h:Q () { s with heap:=s.heap.update a (Obj.mapBytearray f) }):wpN M A (Builtin.Bytes.write (.ref a) f) Q E s:=nOf (by
 show wpAny _ _ (updateBytearray a f) _ _ _
 unfold updateBytearray
 refine wpAny_bind (wpAny_load ho ?_)
 show wpAny _ _ (update a (Obj.mapBytearray f) >>= fun _=>lookBehind a) _ _ _
 refine wpAny_bind (wpAny_update ho ?_)
 refine wpAny_lookBehind (Heap.get?_update_self _ ho rfl) ?_ h
 show (if (f b).size>sizeLine then some "bytearray:memory" else none)=none
 rw [if_neg];exact Nat.not_lt.mpr ‹_›)
theorem call_bappend {a:Addr} {b:Array UInt8} {i:Int} {t:Tok} {Q:Value→Shared→Prop} (ho:s.heap.get? a=some { cls:=.type "bytearray",data:=.bytearray b }) (hz:b.size<sizeLine) (h0:0≤i) (h1:i<256)
  (h:Q .none { s with heap:=s.heap.update a (Obj.mapBytearray (·.push i.toNat.toUInt8)) }):wpN (model prog w) A (call (.builtin "bytearray.append") [.ref a,.int i t]) Q E s:=by
 revert ho hz h0 h1 h
 k_call_by "e" [prog,w,A,E,s,a,b,i,t,Q]
 refine nCall (cCallBuiltin FX.slot_bytearray_append.plain (by show (!badIds.contains "bytearray.append")=true;decide +kernel) FX.entry_bytearray_append (nOf (FX.slot_bytearray_append.check _ _ _ _ _ _ _ _ ⟨_,ho,rfl⟩ (FX.args_bytearray_append _ _) ?_)))
 unfold Builtin.«bytearray.append»
 refine nBind (nOf (wpAny_of_eq (a:=(.ref a,.int i t)) (by first | rfl | kernel_rfl) ?_))
 dsimp only
 unfold Builtin.Bytes.byteValue
 refine nBind (nBind (nOf (wpAny_of_eq (rfl:asIndex (.int i t)=pure i) ?_)))
 rw [if_neg (by simp only [Bool.or_eq_true,decide_eq_true_eq];simp [*])]
 show wpN _ _ (pure i.toNat.toUInt8) _ _ _
 refine nPure (nBind (nResize ho rfl (nBind (nWrite ho (by rw [Array.size_push];assumption) (nPure h)))))
theorem nCallType {T newId initId:String} {Bi:Builtin} {args:List Value} {Q Q₁:Value→Shared→Prop} (ft:TypeCalled T newId initId)
  (hct:checkTypeCall T ⟨args,[]⟩=pure ()) (entryI:entryFor table initId=some Bi) (hok:∀ obj:Value,okCode (.builtin initId ⟨obj::args,[]⟩)=true)
  (hnew:wpAny (model prog w) A.in1 (call (.builtin newId) (.type T::args)) Q₁ E s)
  (hnext:∀ obj s₁,Q₁ obj s₁→s₁.TypeIs obj T∧argsOk initId ⟨obj::args,[]⟩ ∧
   wpN (model prog w) A.in1.in1 (Bi ⟨obj::args,[]⟩) (fun fin s'=>fin = .done (.ret .none)∧Q obj s') E s₁) :
  wpN (model prog w) A (call (.type T) args) Q E s:=by
 revert ft hct entryI hok hnew hnext
 k_call_by "e" [prog,w,A,E,s,T,newId,initId,Bi,args,Q,Q₁]
 obtain ⟨c,tl,hmro⟩:=ft.mro
 have hT:∀ (o:Value) (args:List Value),okCode (.builtin "type.__call__" ⟨o::args,[]⟩)=true:=fun o args=>by show (!badIds.contains "type.__call__")=true;decide +kernel
 refine nCall (cTree ?_)
 show wpN _ _ (callAny (.type T) _) _ _ _
 refine nPure ⟨Code.quiet_builtin _ (by decide +kernel),hT _ _,cBuiltin F.entry_type_call ?_⟩
 rw [Around.under_plain (weight_type_call_type T args []) rfl]
 unfold Builtin.«type.__call__»
 dsimp only
 rw [if_neg (by rw [ft.notType];exact Bool.false_ne_true),if_neg (by rw [ft.canCreate];exact Bool.false_ne_true)]
 refine nBind (nOf (wpAny_of_eq hct ?_))
 refine nBind (nOf (wpAny_of_eq hmro ?_))
 rw [if_neg (by simp)]
 refine nBind (nOf (wpAny_of_eq ft.made ?_))
 dsimp only
 refine nBind (nPure ?_)
 refine nBind (nHold (nOf (wpAny_mono hnew (fun obj s₁ h₁=>?_) fun _ _ x=>x)))
 obtain ⟨hti,ha,hb⟩:=hnext _ _ h₁
 refine nBind (nOf (wpAny_isInstance hti ft.sub ?_))
 simp only [Bool.not_true,Bool.false_eq_true,if_false]
 refine nBind (nHold ?_)
 simp only [callSpecial?]
 refine nBind (nOf (wpAny_specialOf hti ft.init.lookup ?_))
 simp only [ft.init.bind]
 refine nHold (nBind (nPure (nBind ?_)))
 refine nCall (cCallBuiltin ft.init.plain (hok _) entryI (nOf (ft.init.check _ _ _ _ _ _ _ _ hti ha (nMono hb (fun fin s' h'=>?_) fun _ _ h'=>h'))))
 obtain ⟨rfl,hq⟩:=h'
 exact nPure (nPure hq)
end
namespace FX
theorem mro_ba:mroOf (.type "bytearray")=pure [.type "bytearray",.type "object"]:=by rw [mroOf_type];kernel_rfl
theorem lookup_ba_new:typeLookup (.type "bytearray") "__new__" = pure (some (.builtin "bytearray.__new__")):=by rw [typeLookup_type,builtinLookup_eq_fast];kernel_rfl
theorem sub_ba:isSubtype (.type "bytearray") (.type "bytearray")=pure true:=by rw [isSubtype_type];kernel_rfl
theorem slot_ba_init:Slot "bytearray" "__init__" "bytearray.__init__" :=
 .of (owner:="bytearray") (n:="__init__") (by rw [typeLookup_type,builtinLookup_eq_fast];kernel_rfl) (by decide +kernel) (by decide +kernel) (by decide +kernel)
  (by first | exact .inl (by decide +kernel) | exact .inr (by decide +kernel)) sub_ba
theorem called_ba:TypeCalled "bytearray" "bytearray.__new__" "bytearray.__init__" :=
 ⟨by decide +kernel,by decide +kernel,⟨_,_,mro_ba⟩,madeBy_type mro_ba lookup_ba_new (by decide +kernel),by decide +kernel,sub_ba,slot_ba_init⟩
theorem tcall_ba0:checkTypeCall "bytearray" ⟨[],[]⟩=pure ():=by kernel_rfl
theorem tcall_ba1 (a:Value):checkTypeCall "bytearray" ⟨[a],[]⟩=pure ():=by kernel_rfl
theorem ncall_ba0:checkBuiltinCall "bytearray.__new__" ⟨[.type "bytearray"],[]⟩=pure ():=by kernel_rfl
theorem ncall_ba1 (a:Value):checkBuiltinCall "bytearray.__new__" ⟨[.type "bytearray",a],[]⟩=pure ():=by kernel_rfl
theorem entry_ba_new:entryFor table "bytearray.__new__" = some Builtin.«list.__new__»:=entryFor_alias (id':="list.__new__") (by rw [fastTable_eq_tree];kernel_rfl) (by first | rfl | decide +kernel) (by first | rfl | decide +kernel) (by rw [fastTable_eq_tree];kernel_rfl)
theorem plain_ba_new:plainId "bytearray.__new__" = true:=by decide +kernel
theorem entry_ba_init:entryFor table "bytearray.__init__" = some Builtin.«bytearray.__init__»:=entryFor_of_tree (by kernel_rfl)
theorem args_ba0 (a:Value):argsOk "bytearray.__init__" ⟨[a],[]⟩:=by unfold argsOk;kernel_rfl
theorem args_ba1 (a b:Value):argsOk "bytearray.__init__" ⟨[a,b],[]⟩:=by unfold argsOk;kernel_rfl
theorem ba_bind0:Builtin.Bytes.bindOptional "bytearray.__init__" "bytearray" ["source","encoding","errors"] [] []=pure [none,none,none]:=by kernel_rfl
theorem ba_bind1 (v:Value):Builtin.Bytes.bindOptional "bytearray.__init__" "bytearray" ["source","encoding","errors"] [v] []=pure [some v,none,none]:=by kernel_rfl
theorem ba_release:typeLookup (.type "bytearray") "__release_buffer__" = pure (some (.builtin "bytearray.__release_buffer__")):=by rw [typeLookup_type,builtinLookup_eq_fast];kernel_rfl
end FX
end DL
end
section
namespace DL
set_option maxRecDepth 1000000 in
set_option maxHeartbeats 4000000 in
theorem owner_ba_new:("bytearray.__new__".splitOn ".__new__").headD "" = "bytearray" := by simp +decide [String.splitOn,String.splitOnAux]
section
variable {prog:Program} {w:PySem.World} {A:Around} {E:Value→Shared→Prop} {s:Shared} {R:Result→Shared→Prop}
noncomputable abbrev baObj (b:Array UInt8):Obj:={ cls:=.type "bytearray",data:=.bytearray b }
theorem ba_new {args:List Value} {Q₁:Value→Shared→Prop} (hc:checkBuiltinCall "bytearray.__new__" ⟨.type "bytearray" :: args,[]⟩=pure ())
  (h:Q₁ (.ref s.heap.objs.size) { s with heap:=s.heap.push (baObj #[]) }) :
  wpAny (model prog w) A (call (.builtin "bytearray.__new__") (.type "bytearray" :: args)) Q₁ E s:=by
 revert hc h
 k_call_by "e" [prog,w,A,E,s,args,Q₁]
 refine wpAny_call (codeAny_of_tree ?_)
 show wpAny _ A.in1 (do checkBuiltinCall "bytearray.__new__" ⟨.type "bytearray" :: args,[]⟩;again (.builtin "bytearray.__new__" ⟨.type "bytearray" :: args,[]⟩)) _ _ s
 refine wpAny_bind (wpAny_of_eq hc (wpAny_pure ⟨plainId_quiet FX.plain_ba_new _,codeAny_builtin_stack FX.entry_ba_new rfl fun p st=>?_⟩))
 rw [Around.under_plainId FX.plain_ba_new _]
 obtain hsub:=FX.sub_ba
 obtain hown:=owner_ba_new
 obtain ⟨hp,g,d,tk,os⟩:_:=s
 simp only [hown]
 wp_walk
 exact h
theorem nOrFalse {M:Model} {p q:Sem Bool} {Q:Bool→Shared→Prop} (h:wpN M A p (fun b s'=>b=false∧wpN M A q Q E s') E s):wpN M A (p <||> q) Q E s:=by
 refine nBind (nMono h (fun b s' h'=>?_) fun _ _ x=>x)
 obtain ⟨rfl,h'⟩:=h'
 exact h'
theorem nBusy {M:Model} {a:Addr} {o:Obj} {b:Array UInt8} {Q:Bool→Shared→Prop} (ho:s.heap.get? a=some o) (hd:o.data = .bytearray b) (h:Q false s) :
  wpN M A (Builtin.Bytes.exported (.ref a) <||> (do return (← Builtin.Bytes.exportsOf (.ref a))>0)) Q E s:=by
 refine nOrFalse (nExported ⟨rfl,?_⟩)
 refine nBind (nBind (nOf (wpAny_load ho ?_)))
 rw [hd]
 exact nPure (nPure h)
theorem ba_own {M:Model} {a:Addr} {o:Obj} {Q:Bool→Shared→Prop} (ho:s.heap.get? a=some o) (hc:o.cls = .type "bytearray") (h:Q false s):wpAny M A (Builtin.Bytes.ownRelease (.ref a)) Q E s:=by
 have hT:s.TypeIs (.ref a) "bytearray" := ⟨o,ho,hc⟩
 unfold Builtin.Bytes.ownRelease Builtin.Bytes.slotIsOwn
 refine wpAny_bind (wpAny_bind (wpAny_specialOf hT FX.ba_release ?_))
 dsimp only
 rw [if_neg (by decide +kernel)]
 refine wpAny_isInstance hT (by rw [show ("bytearray.__release_buffer__".dropRight ("__release_buffer__".length+1)) = "bytearray" by decide +kernel];exact FX.sub_ba) ?_
 exact wpAny_pure h
theorem ba_init0 {a:Addr} {b:Array UInt8} {Q:Shared→Prop} (ho:s.heap.get? a=some (baObj b)) (h:Q { s with heap:=s.heap.update a (Obj.mapBytearray fun _=>#[]) }) :
  wpN (model prog w) A (Builtin.«bytearray.__init__» ⟨[.ref a],[]⟩) (fun fin s'=>fin = .done (.ret .none)∧Q s') E s:=by
 revert ho h
 k_call_by "e" [prog,w,A,E,s,a,b,Q]
 unfold Builtin.«bytearray.__init__»
 refine nBind (nOf (ba_own ho rfl ?_))
 rw [if_neg (by decide)]
 refine nBind (nOf (wpAny_of_eq FX.ba_bind0 ?_))
 dsimp only
 refine nBind (nOf (wpAny_of_eq (a:=()) rfl ?_))
 refine nBind (nOf (wpAny_of_eq (a:=()) rfl ?_))
 refine nBind (nBusy ho rfl ?_)
 rw [if_neg (by decide)]
 refine nBind (nWrite ho (Nat.zero_le _) ?_)
 exact nPure ⟨rfl,h⟩
theorem ints_take {vs:List Value} {ns:List Int} (hi:IntsAre vs ns) (hr:∀ n∈ns,0≤n∧n<256) (p:Value→Bool) (hp:∀ i t,0≤i→i<256→p (.int i t)=true):vs.takeWhile p=vs:=by
 induction hi with
 | nil=>rfl
 | cons n t _ ih =>
  rw [List.takeWhile_cons,if_pos (hp n t (hr n (.head _)).1 (hr n (.head _)).2),ih fun n hn=>hr n (.tail _ hn)]
theorem ints_map {vs:List Value} {ns:List Int} (hi:IntsAre vs ns) (f:Value→Option UInt8) (hf:∀ i t,f (.int i t)=some i.toNat.toUInt8):vs.filterMap f=ns.map fun n=>n.toNat.toUInt8:=by
 induction hi with
 | nil=>rfl
 | cons n t _ ih=>rw [List.filterMap_cons_some (hf n t),ih];rfl
theorem ba_init1 {a l:Addr} {b:Array UInt8} {vs:List Value} {ns:List Int} {Q:Shared→Prop} (ho:s.heap.get? a=some (baObj b)) (hl:s.heap.IsList l vs.toArray) (hi:IntsAre vs ns) (hr:∀ n∈ns,0≤n∧n<256) (hz:ns.length≤sizeLine)
  (h:Q { s with heap:=(s.heap.update a (Obj.mapBytearray fun _=>#[])).update a (Obj.mapBytearray fun _=>byteArr ns) }) :
  wpN (model prog w) A (Builtin.«bytearray.__init__» ⟨[.ref a,.ref l],[]⟩) (fun fin s'=>fin = .done (.ret .none)∧Q s') E s:=by
 revert ho hl hi hr hz h
 k_call_by "e" [prog,w,A,E,s,a,l,b,vs,ns,Q]
 have hal:a≠l:=fun e=>by
  obtain ⟨ol,hol,hoc,_⟩:=id hl
  rw [← e,ho] at hol;cases hol;exact absurd hoc (by show Value.type "bytearray" ≠ .type "list";decide)
 have hl':(s.heap.update a (Obj.mapBytearray fun _=>#[])).IsList l vs.toArray:=by
  obtain ⟨ol,hol,r⟩:=hl
  exact ⟨ol,(Heap.get?_update_other _ _ hal).trans hol,r⟩
 have ho':(s.heap.update a (Obj.mapBytearray fun _=>#[])).get? a=some (baObj #[]):=Heap.get?_update_self _ ho rfl
 unfold Builtin.«bytearray.__init__»
 refine nBind (nOf (ba_own ho rfl ?_))
 rw [if_neg (by decide)]
 refine nBind (nOf (wpAny_of_eq (FX.ba_bind1 _) ?_))
 dsimp only
 refine nBind (nOf (wpAny_of_eq (a:=()) rfl ?_))
 refine nBind (nOf (wpAny_of_eq (a:=()) rfl ?_))
 refine nBind (nBusy ho rfl ?_)
 rw [if_neg (by decide)]
 refine nBind (nWrite ho (Nat.zero_le _) ?_)
 generalize hs₂:({ s with heap:=s.heap.update a (Obj.mapBytearray fun _=>#[]) }:Shared)=s₂ at h ⊢
 have hl2:s₂.heap.IsList l vs.toArray:=by rw [← hs₂];exact hl'
 have ho2:s₂.heap.get? a=some (baObj #[]):=by rw [← hs₂];exact ho'
 have hT:s₂.TypeIs (.ref l) "list" := hl2.typeIs
 obtain ⟨ol,hol,hoc,nl,hod⟩:=id hl2
 refine nBind (nOf ?_)
 unfold asStr?
 refine wpAny_bind (wpAny_load hol ?_)
 rw [hod]
 refine wpAny_pure ?_
 rw [if_neg (by decide)]
 refine nBind (nOf (wpAny_of_eq (a:=()) rfl ?_))
 refine nBind (nOf (wpAny_specialOf hT F.bm_no_index ?_))
 rw [if_neg (by decide)]
 refine nBind (nOf ?_)
 unfold Builtin.Bytes.buffer?
 refine wpAny_bind (wpAny_specialOf hT F.bm_no_buffer ?_)
 refine wpAny_bind (wpAny_specialOf hT F.bm_no_buffer ?_)
 refine wpAny_pure ?_
 dsimp only
 refine nBind (nOf (wpAny_typeOf hT ?_))
 rw [if_pos (by decide)]
 refine nBind (nOf (wpAny_seqItems hol hod ?_))
 dsimp only
 rw [ints_take hi hr _ (fun i t h0 h1=>by simp [h0,h1])]
 rw [ints_map hi _ (fun i t=>rfl)]
 rw [show vs.toArray[vs.length]?=none by simp]
 refine nBind (nOf (wpAny_rule ?_))
 refine nBind (nWrite ho2 (by rw [List.size_toArray,List.length_map];exact hz) ?_)
 exact nPure ⟨rfl,by rw [← hs₂];exact h⟩
theorem call_ba0 {Q:Value→Shared→Prop} (h:∀ h',Heap.ExtBut s.heap.objs.size s.heap h'→h'.get? s.heap.objs.size=some (baObj #[])→Q (.ref s.heap.objs.size) { s with heap:=h' }) :
  wpN (model prog w) A (call (.type "bytearray") []) Q E s:=by
 refine nCallType (Q₁:=fun obj s₁=>obj = .ref s.heap.objs.size∧s₁={ s with heap:=s.heap.push (baObj #[]) }) FX.called_ba FX.tcall_ba0 FX.entry_ba_init (fun obj=>by show (!badIds.contains "bytearray.__init__")=true;decide +kernel) (ba_new FX.ncall_ba0 ⟨rfl,rfl⟩) fun obj s₁ h₁=>?_
 obtain ⟨rfl,rfl⟩:=h₁
 have ho:(s.heap.push (baObj #[])).get? s.heap.objs.size=some (baObj #[]):=Heap.get?_push_size _ rfl
 refine ⟨⟨_,ho,rfl⟩,FX.args_ba0 _,ba_init0 (s:={ s with heap:=s.heap.push (baObj #[]) }) ho (h _ (fun b o hb e=>?_) ?_)⟩
 ·exact (Heap.get?_update_other _ _ (Ne.symm hb)).trans (Heap.get?_push_of_some _ e)
 ·exact Heap.get?_update_self _ ho rfl
theorem call_ba1 {l:Addr} {vs:List Value} {ns:List Int} {Q:Value→Shared→Prop} (hl:s.heap.IsList l vs.toArray) (hi:IntsAre vs ns) (hr:∀ n∈ns,0≤n∧n<256) (hz:ns.length≤sizeLine)
  (h:∀ h',Heap.ExtBut s.heap.objs.size s.heap h'→h'.get? s.heap.objs.size=some (baObj (byteArr ns))→Q (.ref s.heap.objs.size) { s with heap:=h' }) :
  wpN (model prog w) A (call (.type "bytearray") [.ref l]) Q E s:=by
 refine nCallType (Q₁:=fun obj s₁=>obj = .ref s.heap.objs.size∧s₁={ s with heap:=s.heap.push (baObj #[]) }) FX.called_ba (FX.tcall_ba1 _) FX.entry_ba_init (fun obj=>by show (!badIds.contains "bytearray.__init__")=true;decide +kernel) (ba_new (FX.ncall_ba1 _) ⟨rfl,rfl⟩) fun obj s₁ h₁=>?_
 obtain ⟨rfl,rfl⟩:=h₁
 have ho:(s.heap.push (baObj #[])).get? s.heap.objs.size=some (baObj #[]):=Heap.get?_push_size _ rfl
 refine ⟨⟨_,ho,rfl⟩,FX.args_ba1 _ _,ba_init1 (s:={ s with heap:=s.heap.push (baObj #[]) }) ho (hl.push _) hi hr hz (h _ (fun b o hb e=>?_) ?_)⟩
 ·exact (Heap.get?_update_other _ _ (Ne.symm hb)).trans ((Heap.get?_update_other _ _ (Ne.symm hb)).trans (Heap.get?_push_of_some _ e))
 ·exact Heap.get?_update_self _ (Heap.get?_update_self _ ho rfl) rfl
end
end DL
end
section
namespace DL
noncomputable def xnIs (C:Cx):Exn→Value→Prop
 | .assertion,cls=>cls = .type "AssertionError"
 | .applyDelta,cls=>∃ a,cls = .ref a∧C.mg (Str.ofString "ApplyDeltaError")=some (.ref a)
noncomputable def Cov (P:Kp) (H:Hp) (B h:Heap):Prop:=∀ b o,h.get? b=some o→(P b).isSome=true∨(H b).isSome=true→B.get? b=some o
inductive ExS (C:Cx) (P:Kp) (m:Loc) (H:Hp) (e:Addr) (cls:Value) (s:Shared):Prop where
 | fresh (h0:Heap) (ob:Obj) (a0:Value):St C P m H { s with heap:=h0 }→(∀ b o,h0.get? b=some o→s.heap.get? b=some o)→h0.get? e=none →
   s.heap.get? e=some ob→ob.cls=cls→ob.data = .fields #[a0,.none,.none,.none,.bool false,.none]→ExS C P m H e cls s
 | held (B:Heap) (a0:Value):Cov P H B s.heap→Heap.HeldW B C.stk e cls a0 C.env.locals s.heap→St C P m H s→ExS C P m H e cls s
 | flying (B:Heap) (a0:Value):Cov P H B s.heap→Heap.FlyingW B C.stk e cls a0 s.heap→St C P m H s→ExS C P m H e cls s
noncomputable def XP (C:Cx) (P:Kp) (m:Loc) (X:XE):Value→Shared→Prop:=fun v s' =>
 ∃ e cls xn H',v = .ref e∧xnIs C xn cls∧ExS C P m H' e cls s'∧X xn H'
noncomputable def frsOf (C:Cx):List Addr:=C.env.locals::C.fs.map (·.1)
noncomputable def Like (C C':Cx):Prop:=(∃ env fs wr,C'={ C with env:=env,fs:=fs,wr:=wr })∧∀ L,L∈frsOf C→L∈frsOf C'
theorem Like.refl (C:Cx):Like C C:=⟨⟨C.env,C.fs,C.wr,rfl⟩,fun _ h=>h⟩
theorem Like.trans {A B C:Cx} (x:Like A B) (y:Like B C):Like A C:=by
 revert x y
 k_call_by "e" [A,B,C]
 obtain ⟨⟨e,f,w,rfl⟩,h⟩:=x
 obtain ⟨⟨e',f',w',rfl⟩,h'⟩:=y
 exact ⟨⟨e',f',w',rfl⟩,fun L hL=>h' L (h L hL)⟩
noncomputable def FnN (C:Cx) (v:Value) (sp:Spec):Prop :=
 (∃ a o fd,v = .ref a∧o.data = .func fd∧C.base a=some o) ∧
 ∀ C',Like C C'→∀ P m H s vs xs Q X,St C' P m H s→VRs C.mg vs xs→sp xs H Q X→wpN (Md C) C.A (call v vs) (Res C' P m Q) (XP C' P m X) s
structure Ck (C:Cx) (g:Ge):Prop where
 kind:C.env.scope.kind = .function
 globals:C.env.globals=mainGlobals
 builtins:C.env.builtins=builtinsNs
 handled:g.hd=true→C.A.handled=none
 units:C.A.units+16<cLine
 kinds:∀ x k kd,nmc x=some k→g.kinds.lookup k=some kd→∃ kd',C.env.kindOf x=some kd'∧(kd'=kd∨kd = .free∧kd' = .cell)
 plain:∀ x k kd,nmc x=some k→g.kinds.lookup k=some kd→(x == ("__debug__" : Str))=false∧(x == ("__classdict__" : Str))=false
 globs:∀ x k v,nmc x=some k→g.globs.lookup k=some v→∀ h:Heap,(∀ b o,C.base b=some o→h.get? b=some o) →
  ∃ mb u,h.Ns mainGlobals C.mg∧h.Ns builtinsNs mb∧VR C.mg u v∧(C.mg x=some u∨(C.mg x=none∧mb x=some u))
 forms:∀ a n,g.forms a=some n→∀ C',Like C C'→∀ P m H s,St C' P m H s→∀ (Q:Value→Shared→Prop) E,(∀ t s',St C' P m H s'→Q (.int n t) s')→wpAny (Md C) C.A (getAttr (.ref a) (Str.ofString "oid_length") true) Q E s
structure CkN (C:Cx) (g:Ge):Prop where
 base:Ck C g.bare
 gam:∀ x k sp u,nmc x=some k→g.gam k=some sp→C.mg x=some u→FnN C u sp
 fnv:∀ a sp,g.fnv a=some sp→FnN C (.ref a) sp
theorem Ck.of_local {C:Cx} {g:Ge} (K:Ck C g) {x:Str} {k:Nat} {kd:NameKind} (hx:nmc x=some k) (h:g.kinds.lookup k=some kd) (hn:kd≠.free):C.env.kindOf x=some kd:=by
 obtain ⟨kd',h1,rfl | ⟨h2,_⟩⟩:=K.kinds x k kd hx h
 ·exact h1
 ·exact absurd h2 hn
variable {C:Cx} {g:Ge} {P:Kp} {m:Loc} {H:Hp} {s:Shared} {Q:V→Hp→Prop} {X:XE} {E:Value→Shared→Prop}
theorem St.base (S:St C P m H s):∀ b o,C.base b=some o→s.heap.get? b=some o:=fun b o e=>S.keep b o (S.pbase b o e)
theorem nameR_e {x:Str} {v:V} (h:nameR g x m=some v):∃ k,nmc x=some k∧kdV (g.kinds.lookup k) (g.globs.lookup k) (m.lookup k)=some v:=by
 unfold nameR at h
 cases q:nmc x with
 | none=>rw [q] at h;contradiction
 | some k=>rw [q] at h;exact ⟨k,rfl,h⟩
theorem kdV_e {o:Option NameKind} {a b:Option V} {v:V} (h:kdV o a b=some v):(o=some .globalImplicit∧a=some v)∨∃ kd,o=some kd∧kd≠.globalImplicit∧kd≠.globalExplicit∧b=some v:=by
 cases o with
 | none=>contradiction
 | some kd=>cases kd<;>first | exact .inl ⟨rfl,h⟩ | contradiction | exact .inr ⟨_,rfl,(by decide),(by decide),h⟩
theorem name_ok (K:Ck C g) (S:St C P m H s) {x:Str} {pos:Pos} (h:nameV g x m fun v=>Q v H) :
  wpAny (Md C) C.A (eval (.Name x pos) C.env) (Res C P m Q) E s:=by
 revert K S h
 k_call_by "e" [C,g,P,m,H,s,Q,E,x,pos]
 obtain ⟨v,e,hQ⟩:=oE_e h
 clear h
 obtain ⟨k,hk,e1⟩:=nameR_e e
 clear e
 revert hQ hk e1
 k_call_by "e" [v,k]
 rcases kdV_e e1 with ⟨e,q⟩ | ⟨kd,e,n1,n2,hm⟩
 ·have hd:=(K.plain x k _ hk e).1
  obtain ⟨mb,u,h1,h2,h3,h4⟩:=K.globs x k v hk q s.heap S.base
  refine Calls.Name_function_global K.kind (K.of_local hk e (by decide)) ?_ hd
  rcases h4 with h4 | ⟨h4,h5⟩
  ·exact Calls.loadGlobal_global (by rw [K.globals];exact h1) h4 (Res.of h3 S hQ)
  ·exact Calls.loadGlobal_builtin (by rw [K.globals];exact h1) h4 (by rw [K.builtins];exact h2) h5 (Res.of h3 S hQ)
 ·obtain ⟨hd,hc⟩:=K.plain x k kd hk e
  obtain ⟨kd',hkd,hor⟩:=K.kinds x k kd hk e
  have n1':kd'≠.globalImplicit:=by rcases hor with rfl | ⟨_,rfl⟩;exact n1;decide
  have n2':kd'≠.globalExplicit:=by rcases hor with rfl | ⟨_,rfl⟩;exact n2;decide
  clear hor n1 n2 e e1
  cases kd' with
  | «local» =>
   obtain ⟨mc,hn,hv⟩:=S.ns
   obtain ⟨u,hu,hr⟩:=hv x k v hk hm hkd
   exact wpAny_Name (wpAny_loadName_local K.kind hkd hn hu (Res.of hr S hQ)) hd
  | cell =>
   obtain ⟨a,u,h1,h2,h3⟩:=S.cells x k v hk hm (.inl hkd)
   exact wpAny_Name (wpAny_loadName_cell K.kind hkd h1 h2 (Res.of h3 S hQ)) hd
  | free =>
   obtain ⟨a,u,h1,h2,h3⟩:=S.cells x k v hk hm (.inr hkd)
   exact wpAny_Name (wpAny_loadName_free K.kind hkd h1 h2 (Res.of h3 S hQ) hc) hd
  | globalExplicit=>exact absurd rfl n2'
  | globalImplicit=>exact absurd rfl n1'
theorem const_ok (S:St C P m H s) {c:Const} {k:Nat} {pos:Pos} (h:constV c fun v=>Q v H):wpAny (Md C) C.A (eval (.Constant c k pos) C.env) (Res C P m Q) E s:=by
 cases c with
 | none=>exact wpAny_Constant_none (Res.of (z:=.none) rfl S h)
 | bool b=>exact wpAny_Constant_bool (Res.of (z:=.bool b) rfl S h)
 | int i=>exact wpAny_Constant_int (Res.of (z:=.int i) ⟨_,rfl⟩ S.toks h)
 | str x=>exact wpAny_Constant_str (Res.of (z:=.str x) ⟨_,rfl⟩ S.toks h)
 | bytes b =>
  obtain ⟨h1,h2⟩:=gd_e h
  exact PySem.W.Constant_bytes (Res.of (z:=.bytes b) ⟨Nat.le_of_lt (Nat.lt_trans (nB_e h1) (by decide)),_,rfl⟩ S.toks h2)
 | _=>exact False.elim h
theorem unop_ok (S:St C P m H s) {op:UnaryOp} {v:Value} {x:V} (hv:VR C.mg v x) (h:unop op x H Q):wpAny (Md C) C.A (unaryOp op v) (Res C P m Q) E s:=by
 cases op with
 | Not =>
  exact not_of (wpAny_mono (truthy_ok S hv h) (fun b s' h'=>Res.of (z:=.bool (!b)) rfl h'.1 h'.2) fun _ _ x=>x)
 | USub =>
  obtain ⟨i,t,rfl,h⟩:=iI_v hv h
  exact neg_int (Res.of (z:=.int (-i)) ⟨_,rfl⟩ S.toks h)
 | _=>exact False.elim h
theorem pydS_reads {mg:MG} {h:Heap} {v:Value} {x:V} {d:PyData} (hv:VR mg v x) (e:pydS x=some d):Reads h v d []∧d.canLay0=true∧d.depth=0:=by
 cases x with
 | none=>obtain rfl:=hv;obtain rfl:=Option.some.inj e;exact ⟨.none,rfl,rfl⟩
 | bool b=>obtain rfl:=hv;obtain rfl:=Option.some.inj e;exact ⟨.bool _,rfl,rfl⟩
 | int i=>obtain ⟨t,rfl⟩:=hv;obtain rfl:=Option.some.inj e;exact ⟨.int _ _,rfl,rfl⟩
 | _=>contradiction
theorem pydL_reads {mg:MG} {h:Heap} {vs:List Value} {xs:List V} (r:VRs mg vs xs):∀ {ds:List PyData},pydL xs=some ds→(∃ as,ReadsAll h vs ds as)∧PyData.canLayAll0 ds=true∧PyData.depthAll ds=0:=by
 induction r with
 | nil=>intro ds e;obtain rfl:=Option.some.inj e;exact ⟨⟨_,.nil⟩,rfl,rfl⟩
 | cons hx _ ih =>
  intro ds e
  obtain ⟨d,ds',e1,e2,rfl⟩:=pydC_e e
  obtain ⟨h1,h2,h3⟩:=pydS_reads (h:=h) hx e1
  obtain ⟨⟨as,h4⟩,h5,h6⟩:=ih e2
  exact ⟨⟨_,.cons h1 h4⟩,by show (d.canLay0&&PyData.canLayAll0 ds')=true;rw [h2,h5];rfl,by show max d.depth (PyData.depthAll ds')=0;rw [h3,h6];rfl⟩
theorem pydR_reads (S:St C P m H s) {a:Addr} {d:PyData} {n:Nat} {f:List V→Option (List PyData)} (e:pydR f (H a)=some d)
  (hf:∀ {vs:List Value} {xs:List V} {ds:List PyData},VRs C.mg vs xs→f xs=some ds→(∃ as,ReadsAll s.heap vs ds as)∧PyData.canLayAll0 ds=true∧PyData.depthAll ds≤n) :
  (∃ as,Reads s.heap (.ref a) d as)∧d.canLay0=true∧d.depth≤n+1:=by
 revert S e hf
 k_call_by "e" [C,P,m,H,s,a,d,n,f]
 cases q:H a with
 | none=>rw [q] at e;contradiction
 | some o =>
  rw [q] at e
  cases o with
  | list xs =>
   obtain ⟨_,vs,⟨o,h1,h2,n',h3⟩,h4,_⟩:=S.list q
   obtain ⟨ds,z,rfl⟩:=Option.map_eq_some_iff.mp e
   obtain ⟨⟨as,h5⟩,h6,h7⟩:=pydL_reads (h:=s.heap) h4 z
   exact ⟨⟨_,.list h1 h2 h3 h5⟩,h6,Nat.succ_le_succ (by rw [h7];exact Nat.zero_le _)⟩
  | tuple xs =>
   obtain ⟨_,vs,n',h1,_,h4,_⟩:=S.tuple q
   obtain ⟨ds,z,rfl⟩:=Option.map_eq_some_iff.mp e
   obtain ⟨⟨as,h5⟩,h6,h7⟩:=hf h4 z
   exact ⟨⟨_,.tuple h1 rfl rfl h5⟩,h6,Nat.succ_le_succ h7⟩
  | _=>contradiction
theorem pydK_reads {h:Heap} {v:Value} {x:V} {d:PyData} {n:Nat} (hv:VR C.mg v x) (e:pydS x=some d):(∃ as,Reads h v d as)∧d.canLay0=true∧d.depth≤n:=by
 obtain ⟨h1,h2,h3⟩:=pydS_reads (h:=h) hv e
 exact ⟨⟨_,h1⟩,h2,h3▸Nat.zero_le n⟩
theorem pyd1_reads (S:St C P m H s) {v:Value} {x:V} {d:PyData} (hv:VR C.mg v x) (e:pyd1 x H=some d):(∃ as,Reads s.heap v d as)∧d.canLay0=true∧d.depth≤1:=by
 cases x with
 | ref a=>obtain rfl:=hv;exact pydR_reads S e fun r z=>by have h:=pydL_reads (h:=s.heap) r z;exact ⟨h.1,h.2.1,h.2.2▸Nat.le_refl _⟩
 | none=>exact pydK_reads hv e
 | bool b=>exact pydK_reads hv e
 | int i=>exact pydK_reads hv e
 | _=>contradiction
theorem pydL1_reads (S:St C P m H s) {vs:List Value} {xs:List V} (r:VRs C.mg vs xs):∀ {ds:List PyData},pydL1 H xs=some ds→(∃ as,ReadsAll s.heap vs ds as)∧PyData.canLayAll0 ds=true∧PyData.depthAll ds≤1:=by
 induction r with
 | nil=>intro ds e;obtain rfl:=Option.some.inj e;exact ⟨⟨_,.nil⟩,rfl,Nat.zero_le _⟩
 | cons hx _ ih =>
  intro ds e
  obtain ⟨d,ds',e1,e2,rfl⟩:=pydC_e e
  obtain ⟨⟨as1,h1⟩,h2,h3⟩:=pyd1_reads S hx e1
  obtain ⟨⟨as,h4⟩,h5,h6⟩:=ih e2
  exact ⟨⟨_,.cons h1 h4⟩,by show (d.canLay0&&PyData.canLayAll0 ds')=true;rw [h2,h5];rfl,Nat.max_le.mpr ⟨h3,h6⟩⟩
theorem pyd2_reads (S:St C P m H s) {v:Value} {x:V} {d:PyData} (hv:VR C.mg v x) (e:pyd2 x H=some d):(∃ as,Reads s.heap v d as)∧d.canLay0=true∧d.depth≤2:=by
 cases x with
 | ref a=>obtain rfl:=hv;exact pydR_reads S e fun r z=>pydL1_reads S r z
 | none=>exact pydK_reads hv e
 | bool b=>exact pydK_reads hv e
 | int i=>exact pydK_reads hv e
 | _=>contradiction
theorem cmp_data (S:St C P m H s) (hu:C.A.units+16<cLine) {a b:Value} {x y:V} {d e:PyData} (ha:VR C.mg a x) (hb:VR C.mg b y) (h1:pyd2 x H=some d) (h2:pyd2 y H=some e) :
  (∀ {K:Bool→Prop},K (PyData.eqv d e)→wpAny (Md C) C.A (compareOp .Eq a b) (fun v s'=>∃ c,v = .bool c∧St C P m H s'∧K c) E s) ∧
  (∀ {K:Bool→Prop},K (!PyData.eqv d e)→wpAny (Md C) C.A (compareOp .NotEq a b) (fun v s'=>∃ c,v = .bool c∧St C P m H s'∧K c) E s):=by
 obtain ⟨⟨as,r1⟩,l1,d1⟩:=pyd2_reads S ha h1
 obtain ⟨⟨bs,r2⟩,l2,d2⟩:=pyd2_reads S hb h2
 have hd:C.A.units+min d.depth e.depth<cLine:=Nat.lt_of_le_of_lt (Nat.add_le_add_left (Nat.le_trans (Nat.min_le_left _ _) (Nat.le_trans d1 (by decide))) _) hu
 exact ⟨fun h=>SeqAt.compareEq_reads r1 r2 l1 l2 hd ⟨_,rfl,S,h⟩,fun h=>SeqAt.compareNe_reads r1 r2 l1 l2 hd ⟨_,rfl,S,h⟩⟩
theorem mem_data (S:St C P m H s) {a b:Value} {x y:V} (ha:VR C.mg a x) (hb:VR C.mg b y) {K':Bool→Prop} (h:memR x y H K') :
  ∃ d ds as,Reads s.heap b (.list ds) as∧Reads s.heap a d []∧PyData.canLayAll0 ds=true∧d.canLay0=true∧d.depth=0∧PyData.depthAll ds=0∧K' (ds.any fun e=>PyData.eqv e d):=by
 revert S ha hb h
 k_call_by "e" [C,P,m,H,s,a,b,x,y,K']
 obtain ⟨l,rfl,h1⟩:=iR_v hb h
 obtain ⟨c,e,h2⟩:=oE_e h1
 clear h1 h hb
 unfold memO at e
 cases q:H l with
 | none=>rw [q] at e;contradiction
 | some o =>
  rw [q] at e
  cases o with
  | list ys =>
   obtain ⟨_,vs,⟨o,g1,g2,n,g3⟩,g4,_⟩:=S.list q
   have e:memV x ys=some c:=e
   unfold memV at e
   cases z1:pydS x with
   | none=>rw [z1] at e;contradiction
   | some d =>
    rw [z1] at e
    obtain ⟨ds,z2,rfl⟩:=Option.map_eq_some_iff.mp e
    obtain ⟨h1,h3,h4⟩:=pydS_reads (h:=s.heap) ha z1
    obtain ⟨⟨as,h5⟩,h6,h7⟩:=pydL_reads (h:=s.heap) g4 z2
    exact ⟨d,ds,_,.list g1 g2 g3 h5,h1,h6,h3,h4,h7,h2⟩
  | _=>contradiction
theorem eqR_e {a b:Option PyData} {c:Bool} (h:eqR a b=some c):∃ d e,a=some d∧b=some e∧PyData.eqv d e=c:=by
 cases a with
 | none=>contradiction
 | some d=>obtain ⟨e,q,z⟩:=Option.map_eq_some_iff.mp h;exact ⟨d,e,rfl,q,z⟩
theorem eqV_e {x y:V} {c:Bool} (h:eqV x y H=some c):(∃ i j,x = .int i∧y = .int j)∨(∃ i j,x = .bytes i∧y = .bytes j)∨eqR (pyd2 x H) (pyd2 y H)=some c:=by
 cases x with
 | int a=>cases y<;>first | exact .inl ⟨_,_,rfl,rfl⟩ | exact .inr (.inr h)
 | bytes a=>cases y<;>first | exact .inr (.inl ⟨_,_,rfl,rfl⟩) | contradiction
 | _=>exact .inr (.inr h)
theorem cmp_ok (S:St C P m H s) (hu:C.A.units+16<cLine) {op:CmpOp} {a b:Value} {x y:V} {K:Bool→Prop} (ha:VR C.mg a x) (hb:VR C.mg b y) (h:cmpop op x y H K) :
  wpAny (Md C) C.A (compareOp op a b) (fun v s'=>∃ c,v = .bool c∧St C P m H s'∧K c) E s:=by
 revert S hu ha hb h
 k_call_by "e" [C,P,m,H,s,E,op,a,b,x,y,K]
 have cInts:∀ i j,x = .int i→y = .int j→wpAny (Md C) C.A (compareOp op a b) (fun v s'=>∃ c,v = .bool c∧St C P m H s'∧K c) E s:=fun i j e1 e2=>by
  subst e1;subst e2
  obtain ⟨t,rfl⟩:=ha
  obtain ⟨u,rfl⟩:=hb
  exact cmp_int S h
 have cBytes:∀ i j,x = .bytes i→y = .bytes j→wpAny (Md C) C.A (compareOp op a b) (fun v s'=>∃ c,v = .bool c∧St C P m H s'∧K c) E s:=fun i j e1 e2=>by
  subst e1;subst e2
  obtain ⟨_,t,rfl⟩:=ha
  obtain ⟨_,u,rfl⟩:=hb
  exact cmp_bytes S h
 have eqs:∀ c,eqV x y H=some c→(∀ d e,pyd2 x H=some d→pyd2 y H=some e→PyData.eqv d e=c→wpAny (Md C) C.A (compareOp op a b) (fun v s'=>∃ c,v = .bool c∧St C P m H s'∧K c) E s) →
   wpAny (Md C) C.A (compareOp op a b) (fun v s'=>∃ c,v = .bool c∧St C P m H s'∧K c) E s:=fun c h k=>by
  rcases eqV_e h with ⟨i,j,e1,e2⟩ | ⟨i,j,e1,e2⟩ | q
  ·exact cInts i j e1 e2
  ·exact cBytes i j e1 e2
  ·obtain ⟨d,e,h1,h2,h3⟩:=eqR_e q
   exact k d e h1 h2 h3
 have nums:∀ {K1:Int→Int→Prop},(iI x fun i=>iI y fun j=>K1 i j)→wpAny (Md C) C.A (compareOp op a b) (fun v s'=>∃ c,v = .bool c∧St C P m H s'∧K c) E s:=fun h=>by
  cases x with
  | int i=>cases y with
   | int j=>exact cInts _ _ rfl rfl
   | _=>exact False.elim h
  | _=>exact False.elim h
 have lts:∀ {K1:Int→Int→Prop} {K2:List UInt8→List UInt8→Prop},ltV x y K1 K2→wpAny (Md C) C.A (compareOp op a b) (fun v s'=>∃ c,v = .bool c∧St C P m H s'∧K c) E s:=fun h=>by
  cases x with
  | int i=>exact nums h
  | bytes i=>cases y with
   | bytes j=>exact cBytes _ _ rfl rfl
   | _=>exact False.elim h
  | _=>exact False.elim h
 cases op with
 | Eq =>
  obtain ⟨c,e,h⟩:=oE_e h
  exact eqs c e fun d e h1 h2 h3=>(cmp_data S hu ha hb h1 h2).1 (h3▸h)
 | NotEq =>
  obtain ⟨c,e,h⟩:=oE_e h
  exact eqs c e fun d e h1 h2 h3=>(cmp_data S hu ha hb h1 h2).2 (h3▸h)
 | In =>
  obtain ⟨d,ds,as,r1,r2,l1,l2,d1,d2,h3⟩:=mem_data S ha hb h
  exact SeqAt.in_list_reads r1 r2 l1 l2 (by rw [d1,d2];lia) ⟨_,rfl,S,h3⟩
 | NotIn =>
  obtain ⟨d,ds,as,r1,r2,l1,l2,d1,d2,h3⟩:=mem_data S ha hb h
  exact SeqAt.notIn_list_reads r1 r2 l1 l2 (by rw [d1,d2];lia) ⟨_,rfl,S,h3⟩
 | IsNot=>exact cmp_isnot S ha hb h
 | Is=>exact cmp_is S ha hb h
 | Lt=>exact lts h
 | Gt=>exact lts h
 | LtE=>exact nums h
 | GtE=>exact nums h
theorem type_ok (S:St C P m H s) (hh:C.A.handled=none) {n:String} (hn:n≠"bytearray") {vs:List Value} {xs:List V} (hv:VRs C.mg vs xs) (h:typeCall n xs H Q) :
  wpAny (Md C) C.A (call (.type n) vs) (Res C P m Q) E s:=by
 revert S hh hn hv h
 k_call_by "e" [C,P,m,H,s,Q,E,n,vs,xs]
 have hab:=S.free (a:=s.heap.objs.size) (by
  cases z:s.heap.get? s.heap.objs.size with
  | none=>rfl
  | some o=>exact absurd (Heap.lt_size z) (Nat.lt_irrefl _))
 have lst:∀ {it:Value} {b:List UInt8},((∃ t,it = .bytes b.toArray t)∨∃ a,it = .ref a∧s.heap.get? a=some { cls:=.type "bytearray",data:=.bytearray b.toArray })→b.length≤SZ→(∀ c,H c=none→Q (.ref c) (upd H c (.list (vInts (toOcts b))))) →
   wpAny (Md C) C.A (call (.type "list") [it]) (Res C P m Q) E s:=fun {it b} hit hz h=>by
  refine call_list_of (b:=b.toArray) hh hit (by rw [List.size_toArray];exact SZ_line hz) fun h' tk acc' c' hb hat ⟨h1,h2⟩=>Res.of (z:=.ref s.heap.objs.size) rfl ((S.grow (h':=h') (t:=tk) fun c o e=>hb c o (Nat.ne_of_lt (Heap.lt_size e)) e).put (o:=.list (vInts (toOcts b))) hab.2 hat ⟨?_,_,_,rfl,?_⟩) (h _ hab.1)
  ·unfold vInts toOcts;rw [List.length_map,List.length_map];exact hz
  ·exact octs_vrs (by rw [h1,List.size_toArray]) fun j v hj=>by
    obtain ⟨c,u,e1,e2⟩:=h2 j v hj
    exact ⟨c,u,by simpa using e1,e2⟩
 refine it_e h ?_ ?_<;>clear h
 ·intro e h
  subst e
  obtain ⟨u,v,e,hx,h1⟩:=l1_v hv h
  clear hv h
  subst e
  cases v with
  | ref a =>
   obtain rfl:=hx
   have h:bytesO (H a) fun b=>Q (.bytes b) H:=h1
   clear h1
   cases q:H a with
   | none=>rw [q] at h;exact False.elim h
   | some o =>
    rw [q] at h
    cases o with
    | list ys =>
     obtain ⟨ns,e,h1⟩:=oE_e h
     exact type_bytes_list S hh q e h1.1 h1.2
    | barr b =>
     obtain ⟨hz,ho⟩:=S.barr q
     exact call_bytes_ba ho (by rw [List.size_toArray];exact SZ_line hz) fun t k=>Res.of (z:=.bytes b) ⟨hz,t,rfl⟩ S.toks h
    | _=>exact False.elim h
  | bytes b =>
   obtain ⟨hz,t,rfl⟩:=hx
   exact call_bytes_bytes (Res.of (z:=.bytes _) ⟨hz,t,rfl⟩ S h1)
  | _=>exact False.elim h1
 intro h
 refine it_e h (fun e _=>absurd e hn) ?_<;>clear h
 intro h
 refine it_e h ?_ fun h=>False.elim h<;>clear h
 ·intro e h
  subst e
  obtain ⟨u,v,e,hx,h1⟩:=l1_v hv h
  clear hv h
  subst e
  cases v with
  | ref a =>
   obtain rfl:=hx
   obtain ⟨b,q,h⟩:=oE_e h1
   obtain ⟨hz,ho⟩:=S.barr (oBa_e q)
   exact lst (.inr ⟨a,rfl,ho⟩) hz h
  | bytes b =>
   obtain ⟨hz,t,rfl⟩:=hx
   exact lst (.inl ⟨t,rfl⟩) hz h1
  | _=>exact False.elim h1
theorem Ck.bare (K:Ck C g):Ck C g.bare where
 kind:=K.kind
 globals:=K.globals
 builtins:=K.builtins
 handled:=K.handled
 units:=K.units
 kinds:=K.kinds
 plain:=K.plain
 globs:=K.globs
 forms:=K.forms
end DL
end
section
namespace DL
variable {C:Cx} {g:Ge} {P:Kp} {m:Loc} {H:Hp} {s:Shared}
structure Cl1 (C:Cx):Prop where
 wr:C.wr=true
 apart:∀ x y a,C.env.cells.lookup x=some a→C.env.cells.lookup y=some a→C.env.kindOf x=some .cell→x=y
 cell:∀ x,C.env.kindOf x=some .cell→∃ a,C.env.cells.lookup x=some a
theorem lookup_store {m:Loc} {k j:Nat} {v u:V} (h:List.lookup j ((k,v)::m)=some u):(j=k∧u=v)∨(j≠k∧m.lookup j=some u):=by
 rw [List.lookup_cons] at h
 by_cases e:j=k
 ·subst e;simp at h;exact .inl ⟨rfl,h.symm⟩
 ·have:(j == k)=false:=by simpa using e
  rw [this] at h;exact .inr ⟨e,h⟩
theorem St.store_local (S:St C P m H s) {x:Str} {k:Nat} {v:Value} {z:V} {h':Heap} {t:Tok} (hk:nmc x=some k) (hx:C.env.kindOf x=some .local) (hv:VR C.mg v z) {mc:Str→Option Value}
  (hmc:s.heap.Ns C.env.locals mc∧∀ x k v,nmc x=some k→m.lookup k=some v→C.env.kindOf x=some .local→∃ u,mc x=some u∧VR C.mg u v)
  (hn:h'.Ns C.env.locals (fun y=>if y=x then some v else mc y)) (hs:Heap.SameBut C.env.locals s.heap h'):St C P ((k,z)::m) H { s with heap:=h',toks:=t }:=by
 revert S hk hx hv hmc hn hs
 k_call_by "e" [C,P,m,H,s,x,k,v,z,h',t,mc]
 obtain ⟨ol,es,ep,hol,hdl,_⟩:=hmc.1
 have keep:∀ b,b≠C.env.locals→∀ o,s.heap.get? b=some o→h'.get? b=some o:=fun b hb o e=>hs.extBut b o hb e
 have keepC:∀ {c w},s.heap.IsCell c w→h'.IsCell c w:=fun {c w} hc=>by
  obtain ⟨y,h1,h2⟩:=hc
  refine ⟨y,keep c (fun q=>?_) y h1,h2⟩
  rw [q,hol] at h1;cases h1;rw [hdl] at h2;cases h2
 exact {
  pbase:=S.pbase
  keep:=fun b o e=>keep b (fun q=>by rw [q,S.pL] at e;cases e) o (S.keep b o e)
  objs:=fun a o e=>by
   obtain ⟨p,ob,h1,h2⟩:=S.objs a o e
   refine ⟨p,ob,keep a (fun q=>?_) ob h1,h2⟩
   rw [q,hol] at h1;cases h1;exact h2.noDict.1 _ _ hdl
  pL:=S.pL
  ns:=⟨_,hn,fun y j u hy hj hl=>by
   rcases lookup_store hj with ⟨rfl,rfl⟩ | ⟨hne,hj⟩
   ·have:y=x:=nmc_inj hy hk
    subst this
    exact ⟨v,by rw [if_pos rfl],hv⟩
   ·have:y≠x:=fun e=>by rw [e,hk] at hy;exact hne (Option.some.inj hy).symm
    rw [if_neg this]
    exact hmc.2 y j u hy hj hl⟩
  own:=fun hw y a h1 h2=>let ⟨p,c,h3⟩:=S.own hw y a h1 h2;⟨p,c,keepC h3⟩
  cells:=fun y j u h1 h2 h3=>by
   rcases lookup_store h2 with ⟨rfl,rfl⟩ | ⟨hne,hj⟩
   ·have:y=x:=nmc_inj h1 hk
    subst this
    rw [hx] at h3;rcases h3 with h3 | h3<;>cases h3
   ·obtain ⟨a,w,h4,h5,h6⟩:=S.cells y j u h1 hj h3
    exact ⟨a,w,h4,keepC h5,h6⟩
  fs:=fun f hf=>by
   obtain ⟨⟨o,es',ep',h1,r⟩,h2,h3⟩:=S.fs f hf
   exact ⟨⟨o,es',ep',keep f.1 h3 o h1,r⟩,h2,h3⟩
  gens:=S.gens
  os:=S.os }
theorem St.store_cell (L:Cl1 C) (S:St C P m H s) {x:Str} {k:Nat} {v:Value} {z:V} {h':Heap} {a:Addr} (hk:nmc x=some k) (hx:C.env.kindOf x=some .cell) (hv:VR C.mg v z) (ha:C.env.cells.lookup x=some a)
  (hn:h'.IsCell a (some v)) (hs:Heap.SameBut a s.heap h'):St C P ((k,z)::m) H { s with heap:=h' }:=by
 revert L S hk hx hv ha hn hs
 k_call_by "e" [C,P,m,H,s,x,k,v,z,h',a]
 obtain ⟨pa,c0,ob0,hob0,hdob0⟩:=S.own L.wr x a ha hx
 revert hob0 hdob0
 k_call_by "e" [c0,ob0]
 have keep:∀ b,b≠a→∀ o,s.heap.get? b=some o→h'.get? b=some o:=fun b hb o e=>hs.extBut b o hb e
 have keepNs:∀ {L mc},s.heap.Ns L mc→h'.Ns L mc:=fun {L mc} hn=>by
  obtain ⟨y,es,ep,h1,h2,h3⟩:=hn
  refine ⟨y,es,ep,keep L (fun q=>?_) y h1,h2,h3⟩
  rw [q,hob0] at h1;cases h1;rw [hdob0] at h2;cases h2
 exact {
  pbase:=S.pbase
  keep:=fun b o e=>keep b (fun q=>by rw [q,pa] at e;cases e) o (S.keep b o e)
  objs:=fun b o e=>by
   obtain ⟨p,ob,h1,h2⟩:=S.objs b o e
   refine ⟨p,ob,keep b (fun q=>?_) ob h1,h2⟩
   rw [q,hob0] at h1;cases h1;exact h2.noDict.2 _ hdob0
  pL:=S.pL
  ns:=by
   obtain ⟨mc,h1,h2⟩:=S.ns
   refine ⟨mc,keepNs h1,fun y j u hy hj hl=>?_⟩
   rcases lookup_store hj with ⟨rfl,rfl⟩ | ⟨hne,hj⟩
   ·have:y=x:=nmc_inj hy hk
    subst this;rw [hx] at hl;cases hl
   ·exact h2 y j u hy hj hl
  own:=fun hw y b h1 h2=>by
   obtain ⟨p,c,ob,h3,h4⟩:=S.own hw y b h1 h2
   by_cases q:b=a
   ·subst q;exact ⟨p,_,hn⟩
   ·exact ⟨p,c,ob,keep b q ob h3,h4⟩
  cells:=fun y j u h1 h2 h3=>by
   rcases lookup_store h2 with ⟨rfl,rfl⟩ | ⟨hne,hj⟩
   ·have:y=x:=nmc_inj h1 hk
    subst this
    exact ⟨a,v,ha,hn,hv⟩
   ·obtain ⟨b,w,h4,⟨ob,h5,h5'⟩,h6⟩:=S.cells y j u h1 hj h3
    have hb:b≠a:=fun q=>by
     subst q
     have:=L.apart x y b ha h4 hx
     subst this
     rw [hk] at h1;exact hne (Option.some.inj h1).symm
    exact ⟨b,w,h4,⟨ob,keep b hb ob h5,h5'⟩,h6⟩
  fs:=fun f hf=>let ⟨h1,h2⟩:=S.fs f hf;⟨keepNs h1,h2⟩
  gens:=S.gens
  os:=S.os }
noncomputable def storeOk (g:Ge) (x:Str) (k:Nat):Prop:=nmc x=some k∧(g.kinds.lookup k=some .local∨g.kinds.lookup k=some .cell)
theorem store_ok (K:Ck C g) (L:Cl1 C) (S:St C P m H s) {x:Str} {k:Nat} {v:Value} {z:V} (hx:storeOk g x k) (hv:VR C.mg v z) {Q:Unit→Shared→Prop} {E:Value→Shared→Prop}
  (h:∀ s',St C P ((k,z)::m) H s'→Q () s'):wpAny (Md C) C.A (storeName C.env x v) Q E s:=by
 obtain ⟨hk,hl | hl⟩:=hx
 ·have hkd:=K.of_local hk hl (by decide)
  obtain ⟨mc,hmc⟩:=S.ns
  refine wpAny_storeName_local hkd hmc.1 (fun h' hn hs=>h _ (S.store_local hk hkd hv hmc hn hs)) ?_
  rw [K.kind];rfl
 ·have hkd:=K.of_local hk hl (by decide)
  obtain ⟨a,ha⟩:=L.cell x hkd
  obtain ⟨_,c,hc⟩:=S.own L.wr x a ha hkd
  exact wpAny_storeName_cell K.kind hkd ha hc fun h' hv' hs=>h _ (S.store_cell L hk hkd hv ha hv' hs)
theorem store_loc (K:Ck C g) (S:St C P m H s) {x:Str} {k:Nat} {v:Value} {z:V} (hk:nmc x=some k) (hl:g.kinds.lookup k=some .local) (hv:VR C.mg v z) {Q:Unit→Shared→Prop} {E:Value→Shared→Prop}
  (h:∀ s',St C P ((k,z)::m) H s'→Q () s'):wpAny (Md C) C.A (storeName C.env x v) Q E s:=by
 have hkd:=K.of_local hk hl (by decide)
 obtain ⟨mc,hmc⟩:_:=S.ns
 refine wpAny_storeName_local hkd hmc.1 (fun h' hn hs=>h _ (S.store_local hk hkd hv hmc hn hs)) ?_
 rw [K.kind];rfl
noncomputable def Recs (own:List Addr) (h:Heap):Prop:=∀ b∈own,∃ o vs,h.get? b=some o∧o.data = .fields vs
theorem St.touchL (S:St C P m H s) {own:List Addr} {h':Heap} {t:Tok} (hI:∀ b∈own,P b=none) (hH:∀ b∈own,H b=none) (ho:Recs own s.heap)
  (hs:∀ b,b∉own→∀ o,s.heap.get? b=some o→h'.get? b=some o):St C P m H { s with heap:=h',toks:=t }:=by
 revert S hI hH ho hs
 k_call_by "e" [C,P,m,H,s,own,h',t]
 have keepC:∀ {c w},s.heap.IsCell c w→h'.IsCell c w:=fun {c w} hc=>by
  obtain ⟨y,h1,h2⟩:_:=hc
  refine ⟨y,hs c (fun q=>?_) y h1,h2⟩
  obtain ⟨o,vs,h3,h4⟩:_:=ho c q
  rw [h3] at h1;cases h1;rw [h4] at h2;cases h2
 have keepNs:∀ {L mc},s.heap.Ns L mc→h'.Ns L mc:=fun {L mc} hn=>by
  obtain ⟨y,es,ep,h1,h2,h3⟩:_:=hn
  refine ⟨y,es,ep,hs L (fun q=>?_) y h1,h2,h3⟩
  obtain ⟨o,vs,h4,h5⟩:_:=ho L q
  rw [h4] at h1;cases h1;rw [h5] at h2;cases h2
 exact {
  pbase:=S.pbase
  keep:=fun b x e=>hs b (fun q=>by rw [hI b q] at e;cases e) x (S.keep b x e)
  objs:=fun a x e=>by
   obtain ⟨p,ob,h1,h2⟩:_:=S.objs a x e
   exact ⟨p,ob,hs a (fun q=>by rw [hH a q] at e;cases e) ob h1,h2⟩
  pL:=S.pL
  ns:=let ⟨mc,h1,h2⟩:=S.ns;⟨mc,keepNs h1,h2⟩
  own:=fun hw x c h1 h2=>let ⟨p,v,h3⟩:=S.own hw x c h1 h2;⟨p,v,keepC h3⟩
  cells:=fun x k v h1 h2 h3=>let ⟨c,u,h4,h5,h6⟩:=S.cells x k v h1 h2 h3;⟨c,u,h4,keepC h5,h6⟩
  fs:=fun f hf=>let ⟨h1,h2⟩:=S.fs f hf;⟨keepNs h1,h2⟩
  gens:=S.gens
  os:=S.os }
theorem St.touch (S:St C P m H s) {I:Addr} {h':Heap} {t:Tok} (hI:P I=none) (hH:H I=none) {o:Obj} {vs:Array Value} (ho:s.heap.get? I=some o) (hd:o.data = .fields vs)
  (hs:Heap.ExtBut I s.heap h'):St C P m H { s with heap:=h',toks:=t } :=
 S.touchL (own:=[I]) (fun b hb=>by rw [List.mem_singleton.mp hb];exact hI) (fun b hb=>by rw [List.mem_singleton.mp hb];exact hH) (fun b hb=>by rw [List.mem_singleton.mp hb];exact ⟨o,vs,ho,hd⟩) fun b hb o e=>hs b o (fun q=>hb (by rw [q];exact .head _)) e
noncomputable def addP (P:Kp) (own:List Addr) (h:Heap):Kp:=fun b=>if own.contains b then h.get? b else P b
theorem addP_sub {P:Kp} {own:List Addr} {h:Heap} (hk:∀ b o,P b=some o→h.get? b=some o):∀ b o,P b=some o→addP P own h b=some o:=fun b o e=>by
 unfold addP;split
 ·exact hk b o e
 ·exact e
theorem St.more (S:St C P m H s) {own:List Addr} (hH:∀ b∈own,H b=none) (ho:Recs own s.heap):St C (addP P own s.heap) m H s:=by
 have off:∀ b,(∀ o vs,s.heap.get? b=some o→o.data≠.fields vs)→addP P own s.heap b=P b:=fun b hb=>by
  unfold addP;split
  ·rename_i hc
   obtain ⟨o,vs,h1,h2⟩:=ho b (List.contains_iff_mem.mp hc)
   exact absurd h2 (hb o vs h1)
  ·rfl
 have offNs:∀ {L mc},s.heap.Ns L mc→addP P own s.heap L=P L:=fun {L mc} hn=>off L fun o vs h1 h2=>by
  obtain ⟨y,es,ep,h3,h4,_⟩:=hn
  rw [h1] at h3;cases h3;rw [h2] at h4;cases h4
 exact {
  pbase:=fun b o e=>addP_sub S.keep b o (S.pbase b o e)
  keep:=fun b o e=>by
   unfold addP at e;split at e
   ·exact e
   ·exact S.keep b o e
  objs:=fun a x e=>by
   obtain ⟨p,ob,h1,h2⟩:=S.objs a x e
   refine ⟨?_,ob,h1,h2⟩
   have:own.contains a=false:=by
    cases q:own.contains a with
    | false=>rfl
    | true=>rw [hH a (List.contains_iff_mem.mp q)] at e;cases e
   unfold addP;rw [this];exact p
  pL:=by obtain ⟨mc,h1,_⟩:=S.ns;rw [offNs h1];exact S.pL
  ns:=S.ns
  own:=fun hw x c h1 h2=>by
   obtain ⟨p,v,h3⟩:=S.own hw x c h1 h2
   refine ⟨?_,v,h3⟩
   rw [off c fun o vs h4 h5=>?_];exact p
   obtain ⟨y,h6,h7⟩:=h3
   rw [h4] at h6;cases h6;rw [h5] at h7;cases h7
  cells:=S.cells
  fs:=fun f hf=>let ⟨h1,h2,h3⟩:=S.fs f hf;⟨h1,(by rw [offNs h1];exact h2),h3⟩
  gens:=S.gens
  os:=S.os }
theorem St.less {P':Kp} (S:St C P' m H s) (hb:∀ b o,C.base b=some o→P b=some o) (hs:∀ b o,P b=some o→P' b=some o):St C P m H s:=by
 have none_of:∀ b,P' b=none→P b=none:=fun b e=>by
  cases q:P b with
  | none=>rfl
  | some o=>rw [hs b o q] at e;cases e
 exact {
  pbase:=hb
  keep:=fun b o e=>S.keep b o (hs b o e)
  objs:=fun a x e=>let ⟨p,r⟩:=S.objs a x e;⟨none_of a p,r⟩
  pL:=none_of _ S.pL
  ns:=S.ns
  own:=fun hw x c h1 h2=>let ⟨p,r⟩:=S.own hw x c h1 h2;⟨none_of c p,r⟩
  cells:=S.cells
  fs:=fun f hf=>let ⟨h1,h2,h3⟩:=S.fs f hf;⟨h1,none_of _ h2,h3⟩
  gens:=S.gens
  os:=S.os }
theorem assign_name (K:Ck C g) (S:St C P m H s) {x:Str} {k:Nat} {p:Pos} {v:Value} {z:V} (hk:nmc x=some k) (hx:g.kinds.lookup k=some .local) (hv:VR C.mg v z) {Q:Unit→Shared→Prop} {E:Value→Shared→Prop}
  (h:∀ s',St C P ((k,z)::m) H s'→Q () s'):wpAny (Md C) C.A (assign (.Name x p) C.env v) Q E s :=
 PyProof.Rows.assign_Name (store_loc K S hk hx hv h)
noncomputable def bindNames (g:Ge) (es:List Expr) (vs:List V) (m:Loc) (K:Loc→Prop):Prop:=match es with
 | []=>(match vs with
  | []=>K m
  | _::_=>False)
 | e::r=>(match vs with
  | []=>False
  | v::vs=>oE (nmX e) fun x=>nmL g x fun k=>bindNames g r vs ((k,v)::m) K)
theorem bn_none {α:Type} {l:List (Bool×α)} {x:α} (h:l.findIdx? (·.1)=none):((false,x)::l).findIdx? (·.1)=none:=by
 rw [List.findIdx?_cons];exact congrArg (Option.map (·+1)) h
theorem bindNames_c {g:Ge} {e:Expr} {r:List Expr} {vs:List V} {m:Loc} {K:Loc→Prop} (h:bindNames g (e::r) vs m K) :
  ∃ v vs' x p k,vs=v::vs'∧e = .Name x p∧nmc x=some k∧g.kinds.lookup k=some .local∧bindNames g r vs' ((k,v)::m) K:=by
 cases vs with
 | nil=>exact False.elim h
 | cons v vs =>
  obtain ⟨x,e1,h1⟩:=oE_e h
  obtain ⟨p,e2⟩:=nmX_e e1
  obtain ⟨k,h2,h3,h4⟩:=nmL_e h1
  exact ⟨v,vs,x,p,k,rfl,e2,h2,h3,h4⟩
theorem bindNames_len {g:Ge} {K:Loc→Prop} {env:Env}:∀ {es:List Expr} {vs:List V} {m:Loc},bindNames g es vs m K→(assignEach es env).length=vs.length∧(assignEach es env).findIdx? (·.1)=none:=by
 intro es
 induction es with
 | nil =>
  intro vs m h
  cases vs with
  | nil=>exact ⟨rfl,rfl⟩
  | cons _ _=>exact False.elim h
 | cons e r ih =>
  intro vs m h
  obtain ⟨v,vs',x,p,k,rfl,rfl,_,_,h1⟩:=bindNames_c h
  have h2:=ih h1
  exact ⟨congrArg (·+1) h2.1,bn_none h2.2⟩
theorem names_ok (K:Ck C g) {Kp:Loc→Prop} {Q:Unit→Shared→Prop} {E:Value→Shared→Prop} (hQ:∀ m' s',Kp m'→St C P m' H s'→Q () s') :
  ∀ {es:List Expr} {vs:List V} {us:List Value} {m:Loc} {s:Shared},bindNames g es vs m Kp→VRs C.mg us vs→St C P m H s →
  wpAny (Md C) C.A (assignInOrder ((assignEach es C.env).map (·.2)) us) Q E s:=by
 intro es
 induction es with
 | nil =>
  intro vs us m s h hv S
  cases hv with
  | nil=>exact wpAny_pure (hQ m s h S)
  | cons _ _=>exact False.elim h
 | cons e r ih =>
  intro vs us m s h hv S
  cases hv with
  | nil=>exact False.elim h
  | cons hx hr =>
   rename_i v z us' vs'
   obtain ⟨x,e1,h1⟩:=oE_e h
   clear h
   obtain ⟨p,rfl⟩:=nmX_e e1
   obtain ⟨k,hk,hl,h2⟩:=nmL_e h1
   show wpAny _ _ (do holding us' (assign (.Name x p) C.env v);assignInOrder ((assignEach r C.env).map (·.2)) us') _ _ _
   exact wpAny_bind (wpAny_holding (assign_name K S hk hl hx fun s' S'=>ih h2 hr S'))
theorem St.fresh_obj (S:St C P m H s) {h':Heap} {t:Tok} (hs:Heap.ExtBut s.heap.objs.size s.heap h'):St C P m H { s with heap:=h',toks:=t } :=
 S.grow fun b o e=>hs b o (Nat.ne_of_lt (Heap.lt_size e)) e
theorem assign_tuple (K:Ck C g) (hh:g.hd=true) {es:List Expr} {vs:List V} {us:Array Value} {Kp:Loc→Prop} {a:Addr} {x1:Nat} {pos:Pos} (S:St C P m H s) (ht:s.heap.IsTuple a us) (hv:VRs C.mg us.toList vs)
  (h:bindNames g es vs m Kp) {Q:Unit→Shared→Prop} {E:Value→Shared→Prop} (hQ:∀ m' s',Kp m'→St C P m' H s'→Q () s'):wpAny (Md C) C.A (assign (.Tuple es x1 pos) C.env (.ref a)) Q E s:=by
 obtain ⟨h1,h2⟩:=bindNames_len (env:=C.env) h
 refine wpAny_assign_Tuple (K.handled hh) ht (by rw [h1,← hv.len];simp) h2 fun h' hs=>?_
 exact names_ok K hQ h hv (S.fresh_obj (t:=s.toks) hs)
structure ItSt (mg:MG) (prog:Program) (w:World) (tgt:Expr) (I:Addr) (own:List Addr) (Hs:Hp) (its:List It) (Si:Nat→Heap→Prop):Prop where
 frame:∀ k h h',Si k h→(∀ b∈own,∀ o,h.get? b=some o→h'.get? b=some o)→Si k h'
 recs:∀ k h,Si k h→Recs own h
 item:∀ (C:Cx) (g:Ge) (k:Nat) (it:It) (P:Kp) (m:Loc) (H:Hp) (s:Shared) (K:Loc→Prop) (Q:Unit→Shared→Prop) (E:Value→Shared→Prop),C.mg=mg→C.prog=prog→C.w=w→Ck C g→g.hd=true →
  its[k]?=some it→St C P m H s→(∀ b∈own,P b=none)→(∀ b∈own,H b=none)→Ext Hs H→Si k s.heap→bindIt g tgt it m H K→(∀ m' s',K m'→St C P m' H s'→Si (k+1) s'.heap→Q () s') →
  wpAny (Md C) C.A (pyNext (.ref I)) (fun r s1=>match r with
   | none=>False
   | some v=>wpAny (Md C) C.A (letOwnedTupleGo tgt (.ref I) v) (fun _ s2=>wpAny (Md C) C.A (assign tgt C.env v) Q E s2) E s1) E s
 done:∀ (C:Cx) (P:Kp) (m:Loc) (H:Hp) (s:Shared) (Q:Option Value→Shared→Prop) (E:Value→Shared→Prop),C.mg=mg→C.prog=prog→C.w=w→C.A.handled=none →
  St C P m H s→(∀ b∈own,P b=none)→(∀ b∈own,H b=none)→Ext Hs H→Si its.length s.heap→(∀ s',St C P m H s'→Q none s')→wpAny (Md C) C.A (pyNext (.ref I)) Q E s
 self:∀ (A:Around) (k:Nat) (s:Shared) (Q:Value→Shared→Prop) (E:Value→Shared→Prop),Si k s.heap→Q (.ref I) s→wpAny (model prog w) A (pyIter (.ref I)) Q E s
theorem step_bind {tgt:Expr} {own:List Addr} {Si:Nat→Heap→Prop} {k:Nat} (fr:∀ k h h',Si k h→(∀ b∈own,∀ o,h.get? b=some o→h'.get? b=some o)→Si k h') (rc:∀ k h,Si k h→Recs own h)
  (S:St C P m H s) (hH:∀ b∈own,H b=none) (hs:Si (k+1) s.heap) {v:Value} {Kp:Loc→Prop} {Q:Unit→Shared→Prop} {E:Value→Shared→Prop}
  (hb:∀ P' (Q':Unit→Shared→Prop),St C P' m H s→(∀ m' s',Kp m'→St C P' m' H s'→Q' () s')→wpAny (Md C) C.A (assign tgt C.env v) Q' E s)
  (hQ:∀ m' s',Kp m'→St C P m' H s'→Si (k+1) s'.heap→Q () s'):wpAny (Md C) C.A (assign tgt C.env v) Q E s:=by
 obtain R:=rc _ _ hs
 refine hb (addP P own s.heap) Q (S.more hH R) fun m' s' hm S'=>?_
 refine hQ m' s' hm (S'.less S.pbase (addP_sub S.keep)) (fr _ _ _ hs fun b hb o e=>?_)
 exact S'.keep b o (by unfold addP;rw [List.contains_iff_mem.mpr hb];exact e)
theorem bind2_e {g:Ge} {x y:Str} {u v:V} {m:Loc} {K:Loc→Prop} (h:bind2 g x y u v m K):∃ k l,nmc x=some k∧nmc y=some l∧g.kinds.lookup k=some .local∧g.kinds.lookup l=some .local∧K ((l,v)::(k,u)::m):=by
 obtain ⟨k,h1,h2,h3⟩:=nmL_e h
 obtain ⟨l,h4,h5,h6⟩:=nmL_e h3
 exact ⟨k,l,h1,h4,h2,h5,h6⟩
theorem bindIt_cases {g:Ge} {tgt:Expr} {it:It} {m:Loc} {H:Hp} {K:Loc→Prop} {R:Prop} (h:bindIt g tgt it m H K)
  (h1:∀ x p v k,tgt = .Name x p→it = .one v→nmc x=some k→g.kinds.lookup k=some .local→K ((k,v)::m)→R)
  (h2:∀ x p y q c pos i v,tgt = .Tuple [.Name x p,.Name y q] c pos→it = .two i v→bind2 g x y (.int i) v m K→R)
  (h3:∀ x p y q c pos a u w,tgt = .Tuple [.Name x p,.Name y q] c pos→it = .one (.ref a)→H a=some (.tuple [u,w])→bind2 g x y u w m K→R):R:=by
 revert h h1 h2 h3
 k_call_by "e" [g,tgt,it,m,H,K,R]
 unfold bindIt at h
 cases q:nmX tgt with
 | some x =>
  rw [q] at h
  obtain ⟨p,e⟩:=nmX_e q
  obtain ⟨v,e2,h⟩:=it1_e h
  obtain ⟨k,h4,h5,h6⟩:=nmL_e h
  exact h1 x p v k e e2 h4 h5 h6
 | none =>
  rw [q] at h
  obtain ⟨es,e,h⟩:=oE_e h
  obtain ⟨c,pos,e⟩:=tuX_e e
  obtain ⟨a,b,e2,h⟩:=e2_e h
  obtain ⟨x,ex,h⟩:=oE_e h
  obtain ⟨y,ey,h⟩:=oE_e h
  obtain ⟨p,ex⟩:=nmX_e ex
  obtain ⟨r,ey⟩:=nmX_e ey
  have e:tgt = .Tuple [.Name x p,.Name y r] c pos:=by rw [e,e2,ex,ey]
  cases it with
  | two i v=>exact h2 x p y r c pos i v e rfl h
  | one v =>
   obtain ⟨a,e3,h⟩:=iR_e h
   obtain ⟨ts,e4,h⟩:=oE_e h
   obtain ⟨u,w,e5,h⟩:=l2_e h
   exact h3 x p y r c pos a u w e (congrArg It.one e3) (by rw [oT_e e4,e5]) h
theorem bind_one (K:Ck C g) (hh:g.hd=true) (S:St C P m H s) {tgt:Expr} {v:Value} {x:V} {Kp:Loc→Prop} (hv:VR C.mg v x) (h:bindIt g tgt (.one x) m H Kp) {Q:Unit→Shared→Prop} {E:Value→Shared→Prop}
  (hQ:∀ m' s',Kp m'→St C P m' H s'→Q () s'):wpAny (Md C) C.A (assign tgt C.env v) Q E s:=by
 revert K hh S hv h hQ
 k_call_by "e" [C,g,P,m,H,s,tgt,v,x,Kp,Q,E]
 refine bindIt_cases h (fun y p x k e1 e2 hk h1 h2=>?_) (fun _ _ _ _ _ _ _ _ _ e2=>?_) (fun y p z q x1 pos a u w e1 e2 ho h9=>?_)
 ·subst e1;cases e2
  exact assign_name K S hk h1 hv fun s' S'=>hQ _ s' h2 S'
 ·cases e2
 ·subst e1;cases e2
  obtain rfl:=hv
  obtain ⟨_,vs,n,hob,ht,hvs,hlen⟩:=S.tuple ho
  refine assign_tuple K hh S (us:=vs) (vs:=[u,w]) (Kp:=Kp) (by obtain ⟨o,h1,h2,h3⟩:=ht;exact ⟨o,h1,h2,h3⟩) hvs ?_ hQ
  exact h9
theorem letOwned_other {prog:Program} {w:World} {A:Around} {s:Shared} {tgt:Expr} {I:Addr} {v:Value} {o:Obj} {n:String} (ho:s.heap.get? I=some o) (hc:o.cls = .type n)
  (hn:["enumerate","zip","dict_itemiterator","dict_reverseitemiterator","odict_iterator","itertools.zip_longest","itertools.pairwise"].contains n=false) {Q:Unit→Shared→Prop} {E:Value→Shared→Prop} (h:Q () s) :
  wpAny (model prog w) A (letOwnedTupleGo tgt (.ref I) v) Q E s:=by
 obtain ⟨c,d,dt,sl⟩:_:=o
 cases hc
 have key:∀ a,wpAny (model prog w) A (do
   let o ← load I
   match o.cls,o.data with
   | .type n,.fields vs =>
    if ["enumerate","zip","dict_itemiterator","dict_reverseitemiterator","odict_iterator","itertools.zip_longest","itertools.pairwise"].contains n&&vs[0]? == some (rawInt a) then
     rule "for.unpacks-the-owned-tuple"
     updateField I 0 .none
   | _,_=>pure ()) Q E s:=fun a=>by
  refine wpAny_bind (wpAny_load ho ?_)
  cases dt<;>first | exact wpAny_pure h | skip
  simp only [hn,Bool.false_and,Bool.false_eq_true,if_false]
  exact wpAny_pure h
 cases tgt<;>first
  | exact wpAny_pure h
  | (cases v<;>first | exact wpAny_pure h | exact key _)
end DL
end
section
namespace DL
variable {C:Cx} {g:Ge} {P:Kp} {m:Loc} {H:Hp} {s:Shared}
theorem only_get {H H':Hp} {a:Addr} {o:O} (x:Ext (only H a) H') (h:H a=some o):H' a=some o:=x a o (by unfold only;rw [if_pos rfl];exact h)
theorem itst_list {mg:MG} {prog:Program} {w:World} {tgt:Expr} {I l:Addr} {H0:Hp} {xs:List V} (hl:H0 l=some (.list xs)) :
  ItSt mg prog w tgt I [I] (only H0 l) (xs.map .one) (fun k h=>h.IsListIter I l k) where
 frame:=fun k h h' hs hk=>by obtain ⟨o,h1,h2⟩:=hs;exact ⟨o,hk I (.head _) o h1,h2⟩
 recs:=fun k h hs b hb=>by
  rw [List.mem_singleton] at hb;subst hb
  obtain ⟨o,h1,_,h3⟩:=hs;exact ⟨o,_,h1,h3⟩
 item:=fun C g k it P m H s K Q E e1 e2 e3 hK hL hit S hP hH hE hs hb hQ=>by
  subst e1;subst e2;subst e3
  obtain ⟨_,vs,hlist,hv,hlen⟩:=S.list (only_get hE hl)
  rw [List.getElem?_map] at hit
  cases q:xs[k]? with
  | none=>rw [q] at hit;cases hit
  | some x =>
   rw [q] at hit;cases hit
   obtain ⟨v,hvk,hr⟩:=hv.get q
   obtain ⟨oi,ho1,ho2,ho3⟩:=id hs
   refine wpAny_pyNext_list_item hs hlist (x:=v) (by simpa using hvk) fun h' hi' hsb=>?_
   obtain S1:=S.touch (t:=s.toks) (hP I (.head _)) (hH I (.head _)) ho1 ho3 hsb.extBut
   obtain ⟨oj,hj1,hj2,hj3⟩:=id hi'
   refine letOwned_other hj1 hj2 (by decide) ?_
   exact step_bind (own:=[I]) (Si:=fun k h=>h.IsListIter I l k)
    (fun k h h' hs hk=>by obtain ⟨o,h1,h2⟩:=hs;exact ⟨o,hk I (.head _) o h1,h2⟩)
    (fun k h hs b hb=>by rw [List.mem_singleton] at hb;subst hb;obtain ⟨o,h1,_,h3⟩:=hs;exact ⟨o,_,h1,h3⟩)
    S1 hH hi' (fun P' Q' S' h'=>bind_one hK hL S' hr hb h') hQ
 done:=fun C P m H s Q E e1 e2 e3 hh S hP hH hE hs hQ=>by
  subst e1;subst e2;subst e3
  obtain ⟨_,vs,hlist,hv,hlen⟩:=S.list (only_get hE hl)
  obtain ⟨oi,ho1,ho2,ho3⟩:=id hs
  rw [List.length_map] at hs
  exact wpAny_pyNext_list_end hh hs hlist (by rw [← hlen];simp) fun h' hsb=>hQ _ (S.touch (t:=s.toks) (hP I (.head _)) (hH I (.head _)) ho1 ho3 hsb)
 self:=fun A k s Q E hs hQ=>wpAny_pyIter_listiter hs hQ
theorem itst_tuple {mg:MG} {prog:Program} {w:World} {tgt:Expr} {I l:Addr} {H0:Hp} {xs:List V} (hl:H0 l=some (.tuple xs)) :
  ItSt mg prog w tgt I [I] (only H0 l) (xs.map .one) (fun k h=>h.IsTupleIter I l k) where
 frame:=fun k h h' hs hk=>by obtain ⟨o,h1,h2⟩:=hs;exact ⟨o,hk I (.head _) o h1,h2⟩
 recs:=fun k h hs b hb=>by
  rw [List.mem_singleton] at hb;subst hb
  obtain ⟨o,h1,_,h3⟩:=hs;exact ⟨o,_,h1,h3⟩
 item:=fun C g k it P m H s K Q E e1 e2 e3 hK hL hit S hP hH hE hs hb hQ=>by
  subst e1;subst e2;subst e3
  obtain ⟨_,vs,n,hob,_,hv,hlen⟩:=S.tuple (only_get hE hl)
  rw [List.getElem?_map] at hit
  cases q:xs[k]? with
  | none=>rw [q] at hit;cases hit
  | some x =>
   rw [q] at hit;cases hit
   obtain ⟨v,hvk,hr⟩:=hv.get q
   obtain ⟨oi,ho1,ho2,ho3⟩:=id hs
   refine wpAny_pyNext_tuple_item hs ⟨_,hob,rfl,n,rfl⟩ (x:=v) (by simpa using hvk) fun h' hi' hsb=>?_
   obtain S1:=S.touch (t:=s.toks) (hP I (.head _)) (hH I (.head _)) ho1 ho3 hsb.extBut
   obtain ⟨oj,hj1,hj2,hj3⟩:=id hi'
   refine letOwned_other hj1 hj2 (by decide) ?_
   exact step_bind (own:=[I]) (Si:=fun k h=>h.IsTupleIter I l k)
    (fun k h h' hs hk=>by obtain ⟨o,h1,h2⟩:=hs;exact ⟨o,hk I (.head _) o h1,h2⟩)
    (fun k h hs b hb=>by rw [List.mem_singleton] at hb;subst hb;obtain ⟨o,h1,_,h3⟩:=hs;exact ⟨o,_,h1,h3⟩)
    S1 hH hi' (fun P' Q' S' h'=>bind_one hK hL S' hr hb h') hQ
 done:=fun C P m H s Q E e1 e2 e3 hh S hP hH hE hs hQ=>by
  subst e1;subst e2;subst e3
  obtain ⟨_,vs,n,hob,_,hv,hlen⟩:=S.tuple (only_get hE hl)
  obtain ⟨oi,ho1,ho2,ho3⟩:=id hs
  rw [List.length_map] at hs
  exact wpAny_pyNext_tuple_end hh hs ⟨_,hob,rfl,n,rfl⟩ (by rw [← hlen];simp) fun h' hsb=>hQ _ (S.touch (t:=s.toks) (hP I (.head _)) (hH I (.head _)) ho1 ho3 hsb)
 self:=fun A k s Q E hs hQ=>wpAny_pyIter_tupleiter hs hQ
theorem itst_range {mg:MG} {prog:Program} {w:World} {tgt:Expr} {I:Addr} {lo hi:Int} :
  ItSt mg prog w tgt I [I] noH (rangeOf lo hi) (fun k h=>k≤(hi-lo).toNat∧IsRangeIter h I (lo+k) ((hi-lo).toNat-k:Nat) 1) where
 frame:=fun k h h' hs hk=>⟨hs.1,hk I (.head _) _ hs.2⟩
 recs:=fun k h hs b hb=>by
  rw [List.mem_singleton] at hb;subst hb
  exact ⟨_,_,hs.2,rfl⟩
 item:=fun C g k it P m H s K Q E e1 e2 e3 hK hL hit S hP hH hE hs hb hQ=>by
  subst e1;subst e2;subst e3
  unfold rangeOf at hit
  rw [List.getElem?_map] at hit
  by_cases hk:k<(hi-lo).toNat
  ·rw [List.getElem?_range hk] at hit
   cases hit
   obtain ⟨hle,hi0⟩:=hs
   refine wpAny_pyNext_range_item hi0 (Int.ofNat_lt.mpr (Nat.sub_pos_of_lt hk)) fun h' hi' hsb=>?_
   obtain S1:=S.touch (t:=s.toks+1) (hP I (.head _)) (hH I (.head _)) hi0 rfl hsb.extBut
   have hi2:k+1≤(hi-lo).toNat∧IsRangeIter h' I (lo+(k+1:Nat)) ((hi-lo).toNat-(k+1):Nat) 1:=by
    refine ⟨hk,?_⟩
    have e1:lo+(k:Int)+1=lo+((k+1:Nat):Int):=Int.add_assoc _ _ _
    have e2:(((hi-lo).toNat-k:Nat):Int)-1=(((hi-lo).toNat-(k+1):Nat):Int):=(Int.ofNat_sub (Nat.sub_pos_of_lt hk)).symm
    rw [e1,e2] at hi';exact hi'
   refine letOwned_other hi' rfl (by decide) ?_
   exact step_bind (own:=[I]) (Si:=fun k h=>k≤(hi-lo).toNat∧IsRangeIter h I (lo+k) ((hi-lo).toNat-k:Nat) 1)
    (fun k h h' hs hk=>⟨hs.1,hk I (.head _) _ hs.2⟩)
    (fun k h hs b hb=>by rw [List.mem_singleton] at hb;subst hb;exact ⟨_,_,hs.2,rfl⟩)
    S1 hH hi2 (fun P' Q' S' h'=>bind_one hK hL S' (x:=.int (lo+k)) ⟨_,rfl⟩ hb h') hQ
  ·have:(List.range (hi-lo).toNat)[k]?=none:=List.getElem?_eq_none (by rw [List.length_range];exact Nat.not_lt.mp hk)
   rw [this] at hit;cases hit
 done:=fun C P m H s Q E e1 e2 e3 hh S hP hH hE hs hQ=>by
  subst e1;subst e2;subst e3
  have hl:(rangeOf lo hi).length=(hi-lo).toNat:=by simp [rangeOf]
  rw [hl] at hs
  exact wpAny_pyNext_range_end hh hs.2 (by simp) fun h' hsb=>hQ _ (S.touch (t:=s.toks) (hP I (.head _)) (hH I (.head _)) hs.2 rfl hsb)
 self:=fun A k s Q E hs hQ=>wpAny_pyIter_rangeiter hs.2 hQ
theorem enumOf_get:∀ (xs:List V) (i:Int) (k:Nat),(enumOf i xs)[k]?=(xs[k]?).map fun x=>.two (i+k) x
 | [],_,_=>by simp [enumOf]
 | x::r,i,0=>by simp [enumOf]
 | x::r,i,k+1=>by
  simp only [enumOf,List.getElem?_cons_succ]
  rw [enumOf_get r (i+1) k]
  have:i+1+(k:Int)=i+((k+1:Nat):Int):=by rw [Int.add_assoc,Int.add_comm 1];rfl
  rw [this]
theorem enumOf_len:∀ (xs:List V) (i:Int),(enumOf i xs).length=xs.length
 | [],_=>rfl
 | x::r,i=>by simp [enumOf,enumOf_len r (i+1)]
noncomputable def EnSt (I it l:Addr) (k:Nat) (h:Heap):Prop:=I≠it∧(∃ old,IsEnum h I it k old)∧h.IsListIter it l k
theorem itst_enum {mg:MG} {prog:Program} {w:World} {tgt:Expr} {I it l:Addr} {H0:Hp} {xs:List V} (hl:H0 l=some (.list xs)) :
  ItSt mg prog w tgt I [I,it] (only H0 l) (enumOf 0 xs) (EnSt I it l) where
 frame:=fun k h h' ⟨h1,⟨old,h2⟩,h3⟩ hk=>⟨h1,⟨old,hk I (.head _) _ h2⟩,by obtain ⟨o,a,b⟩:=h3;exact ⟨o,hk it (.tail _ (.head _)) o a,b⟩⟩
 recs:=fun k h ⟨h1,⟨old,h2⟩,h3⟩ b hb=>by
  rcases List.mem_cons.mp hb with rfl | hb
  ·exact ⟨_,_,h2,rfl⟩
  ·rw [List.mem_singleton] at hb;subst hb
   obtain ⟨o,a,_,c⟩:=h3;exact ⟨o,_,a,c⟩
 item:=fun C g k itm P m H s K Q E e1 e2 e3 hK hL hit S hP hH hE hs hb hQ=>by
  subst e1;subst e2;subst e3
  obtain ⟨hne,⟨old,he⟩,hi⟩:=hs
  revert hl hK hL hit S hP hH hE hb hQ hne hi he
  k_call_by "e" [tgt,I,it,l,H0,xs,C,g,k,itm,P,m,H,s,K,Q,E,old]
  obtain ⟨_,vs,hlist,hv,hlen⟩:=S.list (only_get hE hl)
  rw [enumOf_get] at hit
  cases q:xs[k]? with
  | none=>rw [q] at hit;cases hit
  | some x =>
   rw [q] at hit;cases hit
   obtain ⟨v,hvk,hr⟩:=hv.get q
   obtain ⟨oi,ho1,ho2,ho3⟩:=id hi
   refine wpAny_pyNext_enum_item he hi hlist (x:=v) (by simpa using hvk) hne fun h₁ heo hit₁ ht₁ hz₁ hk₁=>?_
   have R0:Recs [I,it] s.heap:=fun b hb=>by
    rcases List.mem_cons.mp hb with rfl | hb
    ·exact ⟨_,_,he,rfl⟩
    ·rw [List.mem_singleton] at hb;subst hb;exact ⟨_,_,ho1,ho3⟩
   have S1:=S.touchL (own:=[I,it]) (h':=h₁) (t:=s.toks+1) hP hH R0 fun b hb o e=>hk₁ b o (fun q=>hb (by rw [q];exact .head _)) (fun q=>hb (by rw [q];exact .tail _ (.head _))) e
   have hb:bindIt g tgt (.two (0+(k:Int)) x) m H K:=hb
   refine bindIt_cases hb (fun _ _ _ _ _ e2=>by cases e2) (fun nx p9 ny q9 c9 pos9 i9 v9 e0 e9 hb9=>?_) (fun _ _ _ _ _ _ _ _ _ _ e2=>by cases e2)
   subst e0;injection e9 with hq1 hq2;subst hq1;subst hq2
   refine wpAny_letOwnedTupleGo_enum heo fun h₂ he₂ hs₂=>?_
   have S2:=S1.touch (h':=h₂) (t:=s.toks+1) (hP I (.head _)) (hH I (.head _)) heo rfl hs₂.extBut
   have hlt:I<s.heap.objs.size:=Heap.lt_size he
   have ht₂:h₂.IsTuple s.heap.objs.size #[.int k s.toks,v]:=⟨_,(hs₂.2 _ (Nat.ne_of_gt hlt)).trans ht₁,rfl,_,rfl⟩
   have hcast:((k+1:Nat):Int)=(k:Int)+1:=by push_cast;rfl
   have hen:EnSt I it l (k+1) h₂:=⟨hne,⟨v,by rw [hcast];exact he₂⟩,hit₁.extBut hs₂.extBut (Ne.symm hne)⟩
   refine step_bind (own:=[I,it]) (Si:=EnSt I it l) ?_ ?_ S2 hH hen (fun P' Q' S' h'=>?_) hQ
   ·exact fun k h h' ⟨h1,⟨old,h2⟩,h3⟩ hk=>⟨h1,⟨old,hk I (.head _) _ h2⟩,by obtain ⟨o,a,b⟩:=h3;exact ⟨o,hk it (.tail _ (.head _)) o a,b⟩⟩
   ·exact fun k h ⟨h1,⟨old,h2⟩,h3⟩ b hb=>by
     rcases List.mem_cons.mp hb with rfl | hb
     ·exact ⟨_,_,h2,rfl⟩
     ·rw [List.mem_singleton] at hb;subst hb
      obtain ⟨o,a,_,c⟩:=h3;exact ⟨o,_,a,c⟩
   ·exact assign_tuple hK hL S' ht₂ (es:=[.Name nx p9,.Name ny q9]) (vs:=[.int (0+(k:Int)),x]) (.cons ⟨s.toks,by rw [Int.zero_add]⟩ (.cons hr .nil)) (Kp:=K) hb9 h'
 done:=fun C P m H s Q E e1 e2 e3 hh S hP hH hE hs hQ=>by
  subst e1;subst e2;subst e3
  obtain ⟨hne,⟨old,he⟩,hi⟩:=hs
  obtain ⟨_,vs,hlist,hv,hlen⟩:=S.list (only_get hE hl)
  obtain ⟨oi,ho1,ho2,ho3⟩:=id hi
  rw [enumOf_len] at he hi
  exact wpAny_pyNext_enum_end hh he hi hlist (by rw [← hlen];simp) fun h' hsb=>hQ _ (S.touch (t:=s.toks) (hP it (.tail _ (.head _))) (hH it (.tail _ (.head _))) ho1 ho3 hsb)
 self:=fun A k s Q E ⟨_,⟨old,he⟩,_⟩ hQ=>wpAny_pyIter_enum he hQ
end DL
end
section
namespace DL
variable {C:Cx} {g:Ge} {P:Kp} {m:Loc} {H:Hp} {s:Shared}
noncomputable def RB (C:Cx) (P:Kp) (m:Loc) (Q:Bool→Hp→Prop):Bool→Shared→Prop:=fun b s'=>∃ H',St C P m H' s'∧Q b H'
noncomputable def EOkN (e:Expr):Prop:=∀ ⦃C:Cx⦄ ⦃g:Ge⦄ ⦃P:Kp⦄ ⦃m:Loc⦄ ⦃H:Hp⦄ ⦃s:Shared⦄,CkN C g→St C P m H s →
 (∀ Q X,wE e g m H Q X→wpN (Md C) C.A (eval e C.env) (Res C P m Q) (XP C P m X) s) ∧
 (∀ Q X,wE e g m H (fun v H1=>truthyV v H1 fun b=>Q b H1) X→wpN (Md C) C.A (isTrue e C.env (eval e C.env)) (RB C P m Q) (XP C P m X) s)
noncomputable def GQ (C:Cx) (P:Kp) (m:Loc) (tgt:Expr) (K:List It→Hp→Hp→Prop):Value→Shared→Prop:=fun v s' =>
 ∃ I own Hs its H' Si,v = .ref I∧ItSt C.mg C.prog C.w tgt I own Hs its Si∧(∀ b∈own,P b=none∧H' b=none)∧Ext Hs H'∧Si 0 s'.heap∧St C P m H' s'∧K its Hs H'
theorem only_ext {H:Hp} {a:Addr}:Ext (only H a) H:=fun b o e=>by
 unfold only at e;split at e
 ·rename_i q;rw [q];exact e
 ·cases e
theorem noH_ext {H:Hp}:Ext noH H:=fun b o e=>by cases e
theorem St.above (S:St C P m H s) {b:Addr} (h:s.heap.objs.size≤b):H b=none∧P b=none:=by
 refine S.free ?_
 cases q:s.heap.get? b with
 | none=>rfl
 | some o=>exact absurd (Heap.lt_size q) (Nat.not_lt.mpr h)
variable {E:Value→Shared→Prop} {tgt:Expr} {K:List It→Hp→Hp→Prop}
theorem pyIter_ok (S:St C P m H s) {v:Value} {x:V} (hv:VR C.mg v x) (h:itemsOf x H fun its Hs=>K its Hs H):wpAny (Md C) C.A (pyIter v) (GQ C P m tgt K) E s:=by
 revert S hv h
 k_call_by "e" [C,P,m,H,s,E,tgt,K,v,x]
 obtain ⟨a,e,h1⟩:=iR_v hv h
 clear hv h
 subst e
 obtain ⟨xs,q,h⟩:=oE_e h1
 rcases oLT_e q with q | q
 ·obtain ⟨_,vs,hl,_⟩:=S.list q
  refine wpAny_pyIter_list hl ⟨_,[_],only H a,xs.map .one,H,fun k h=>h.IsListIter _ a k,rfl,itst_list q,fun b hb=>?_,only_ext,⟨_,Heap.get?_push_size _ rfl,rfl,rfl⟩,S.pushed _ (t:=s.toks),h⟩
  rw [List.mem_singleton.mp hb]
  exact (S.above (Nat.le_refl _)).symm
 ·obtain ⟨_,vs,n,ht,_⟩:=S.tuple q
  refine wpAny_pyIter_tuple ⟨_,ht,rfl,n,rfl⟩ ⟨_,[_],only H a,xs.map .one,H,fun k h=>h.IsTupleIter _ a k,rfl,itst_tuple q,fun b hb=>?_,only_ext,⟨_,Heap.get?_push_size _ rfl,rfl,rfl⟩,S.pushed _ (t:=s.toks),h⟩
  rw [List.mem_singleton.mp hb]
  exact (S.above (Nat.le_refl _)).symm
theorem range_iter (S:St C P m H s) {r:Addr} {lo hi:Int} {t u v:Tok} (hr:IsRange s.heap r lo hi 1 t u v) (h1:-1000000000000000000<lo) (h2:lo<1000000000000000000) (h3:-1000000000000000000<hi) (h4:hi<1000000000000000000)
  (h:K (rangeOf lo hi) noH H):wpAny (Md C) C.A (pyIter (.ref r)) (GQ C P m tgt K) E s:=by
 revert S hr h1 h2 h3 h4 h
 k_call_by "e" [C,P,m,H,s,E,tgt,K,r,lo,hi,t,u,v]
 refine wpAny_pyIter_range hr (small_one (by lia) (by exact Int.lt_trans ‹_› (by decide)) (by lia) (by exact Int.lt_trans ‹_› (by decide))) ⟨_,[_],noH,rangeOf lo hi,H,_,rfl,itst_range,fun b hb=>?_,noH_ext,⟨Nat.zero_le _,?_⟩,S.pushed _ (t:=s.toks),h⟩
 ·rw [List.mem_singleton.mp hb]
  exact (S.above (Nat.le_refl _)).symm
 ·have e1:lo+((0:Nat):Int)=lo:=by simp
  have e2:((((hi-lo).toNat-0:Nat)):Int)=Builtin.Range.rangeSize lo hi 1:=by rw [rangeSize_one];split<;>grind
  rw [e1,e2]
  exact Heap.get?_push_size _ rfl
theorem range_ok (S:St C P m H s) {vs:List Value} {xs:List V} (hv:VRs C.mg vs xs) (h:rangeV xs fun its=>K its noH H) :
  wpAny (Md C) C.A (call (.type "range") vs) (fun x s1=>wpAny (Md C) C.A (pyIter x) (GQ C P m tgt K) E s1) E s:=by
 revert S hv h
 k_call_by "e" [C,P,m,H,s,E,tgt,K,vs,xs]
 cases hv with
 | nil=>exact False.elim h
 | cons hx hr =>
  cases hr with
  | nil =>
   obtain ⟨i,t,rfl,h⟩:=iI_v hx h
   refine call_range_1 ?_
   exact range_iter (S.pushed _ (t:=s.toks+1+1)) (IsRange.new ..) (by decide) (by decide) h.1.1 h.1.2 h.2
  | cons hy hr =>
   cases hr with
   | nil =>
    obtain ⟨i,t,rfl,h⟩:=iI_v hx h
    obtain ⟨j,u,rfl,h⟩:=iI_v hy h
    refine call_range_2 ?_
    exact range_iter (S.pushed _ (t:=s.toks+1)) (IsRange.new ..) h.1.1 h.1.2.1 h.1.2.2.1 h.1.2.2.2 h.2
   | cons _ _=>exact False.elim h
theorem enum_ok (S:St C P m H s) {vs:List Value} {xs:List V} (hv:VRs C.mg vs xs) (h:enumV xs H fun its Hs=>K its Hs H) :
  wpAny (Md C) C.A (call (.type "enumerate") vs) (fun x s1=>wpAny (Md C) C.A (pyIter x) (GQ C P m tgt K) E s1) E s:=by
 revert S hv h
 k_call_by "e" [C,P,m,H,s,E,tgt,K,vs,xs]
 obtain ⟨u,v,e,hu,h1⟩:=l1_v hv h
 clear hv h
 subst e
 obtain ⟨a,e,h⟩:=iR_v hu h1
 clear hu h1
 subst e
 obtain ⟨ys,q,h1⟩:=oE_e h
 obtain ⟨_,us,hl,_⟩:=S.list (oL_e q)
 refine call_enumerate_list hl fun h' he hi hz hk=>wpAny_pyIter_enum he ?_
 have S':=S.grow (h':=h') (t:=s.toks) hk
 refine ⟨_,[s.heap.objs.size+1,s.heap.objs.size],only H a,enumOf 0 ys,H,EnSt _ s.heap.objs.size a,rfl,itst_enum (oL_e q),fun b hb=>?_,only_ext,⟨Nat.succ_ne_self _,⟨_,he⟩,hi⟩,S',h1⟩
 rcases List.mem_cons.mp hb with rfl | hb
 ·exact (S.above (Nat.le_succ _)).symm
 ·rw [List.mem_singleton.mp hb]
  exact (S.above (Nat.le_refl _)).symm
end DL
end
section
namespace DL
variable {C:Cx} {g:Ge} {P:Kp} {m:Loc} {H:Hp} {s:Shared}
theorem bindIt_mono {t:Expr} {it:It} {K K':Loc→Prop} (hk:∀ m':Loc,(∀ j v,m.lookup j=some v→g.kinds.lookup j≠some .local→m'.lookup j=some v)→K m'→K' m') (h:bindIt g t it m H K):bindIt g t it m H K':=by
 revert hk h
 k_call_by "e" [g,m,H,t,it,K,K']
 have one:∀ (m0:Loc) (k:Nat) (v:V),g.kinds.lookup k=some .local→∀ j u,m0.lookup j=some u→g.kinds.lookup j≠some .local→List.lookup j ((k,v)::m0)=some u:=fun m0 k v hkl j u h1 h2=>by
  have:(j == k)=false:=by
   cases q:(j == k) with
   | false=>rfl
   | true=>have:=eq_of_beq q;subst this;exact absurd hkl h2
  rw [List.lookup_cons,this];exact h1
 have two:∀ (x y:Str) (u v:V),bind2 g x y u v m K→bind2 g x y u v m K':=fun x y u v h=>by
  obtain ⟨k,l,hx,hy,h1,h2,h3⟩:=bind2_e h
  exact nmL_i hx h1 (nmL_i hy h2 (hk _ (fun j w h4 h5=>one _ _ _ h2 j w (one _ _ _ h1 j w h4 h5) h5) h3))
 unfold bindIt at h ⊢
 cases q:nmX t with
 | some x =>
  rw [q] at h
  obtain ⟨v,e,h⟩:=it1_e h
  obtain ⟨k,hx,h1,h2⟩:=nmL_e h
  subst e
  exact nmL_i hx h1 (hk _ (one _ _ _ h1) h2)
 | none =>
  rw [q] at h
  obtain ⟨es,e,h⟩:=oE_e h
  refine oE_i e ?_
  obtain ⟨a,b,e2,h1⟩:=e2_e h
  clear h
  subst e2
  obtain ⟨x,ex,h2⟩:=oE_e h1
  obtain ⟨y,ey,h3⟩:=oE_e h2
  clear h1 h2
  refine oE_i ex (oE_i ey ?_)
  cases it with
  | two i v=>exact two _ _ _ _ h3
  | one v =>
   obtain ⟨a,e3,h4⟩:=iR_e h3
   obtain ⟨ts,e4,h5⟩:=oE_e h4
   obtain ⟨u,w,e5,h6⟩:=l2_e h5
   clear h3 h4 h5
   subst e3
   refine oE_i e4 ?_
   rw [e5]
   exact two _ _ _ _ h6
theorem kindsOf_lookup {sc:Scope} {x:Str} {k:Nat} (hx:nmc x=some k) {kd:NameKind} (h:(kindsOf sc).lookup k=some kd):sc.names.lookup x=some kd:=by
 revert hx h
 k_call_by "e" [sc,x,k,kd]
 unfold kindsOf at h
 revert h
 induction sc.names with
 | nil=>intro h;simp at h
 | cons p r ih =>
  intro h
  obtain ⟨y,ky⟩:_:=p
  rw [List.filterMap_cons] at h
  rw [List.lookup_cons]
  cases q:nmc y with
  | none =>
   rw [q] at h
   have:(x == y)=false:=by
    cases z:(x == y) with
    | false=>rfl
    | true=>have:=eq_of_beq z;subst this;rw [hx] at q;cases q
   rw [this];exact ih h
  | some j =>
   rw [q] at h
   simp only [Option.map_some] at h
   rw [List.lookup_cons] at h
   cases z:(x == y) with
   | true =>
    have:=eq_of_beq z;subst this;rw [hx] at q;cases q
    simp at h;rw [h]
   | false =>
    have:(k == j)=false:=by
     cases z':(k == j) with
     | false=>rfl
     | true=>have:=eq_of_beq z';subst this;have:=nmc_inj hx q;subst this;simp at z
    rw [this] at h;exact ih h
noncomputable def closL (env:Env):List (Str×NameKind)→List (Str×Addr)→List (Str×Addr)
 | [],acc=>acc
 | (x,kd)::r,acc=>if kd == .free then (match env.cells.lookup x with
  | some a=>closL env r ((x,a)::acc)
  | none=>closL env r acc) else closL env r acc
theorem closureFor_ok {sc:Scope} {env:Env} (h:∀ x∈sc.names,x.2 = .free→∃ a,env.cells.lookup x.1=some a):closureFor sc env=pure (closL env sc.names []):=by
 revert h
 k_call_by "e" [sc,env]
 unfold closureFor
 have go:∀ (l:List (Str×NameKind)) (acc:List (Str×Addr)),(∀ x∈l,x.2 = .free→∃ a,env.cells.lookup x.1=some a) →
   (forIn l acc fun x cs=>if (x.2 == NameKind.free)=true then (do let a ← cellOf env x.1;pure (ForInStep.yield ((x.1,a)::cs))) else pure (ForInStep.yield cs):Sem _)=pure (closL env l acc):=by
  intro l
  induction l with
  | nil=>intro acc _;rfl
  | cons p r ih =>
   intro acc hl
   obtain ⟨x,kd⟩:=p
   rw [List.forIn_cons]
   unfold closL
   cases q:(kd == NameKind.free) with
   | false =>
    simp only [Bool.false_eq_true,if_false,pure_bind]
    exact ih acc fun y hy=>hl y (.tail _ hy)
   | true =>
    have e:kd = .free:=by cases kd<;>first | rfl | cases q
    obtain ⟨a,ha⟩:=hl (x,kd) (.head _) e
    have hc:cellOf env x=pure a:=by unfold cellOf;rw [ha]
    simp only [if_true,hc,pure_bind,ha]
    exact ih _ fun y hy=>hl y (.tail _ hy)
 have:=go sc.names [] h
 simp only [bind_pure]
 exact this
theorem closL_sub {env:Env}:∀ {l:List (Str×NameKind)} {acc:List (Str×Addr)} {x:Str} {a:Addr},(closL env l acc).lookup x=some a→acc.lookup x=some a∨env.cells.lookup x=some a
 | [],acc,x,a,h=>.inl h
 | (y,kd)::r,acc,x,a,h=>by
  unfold closL at h
  split at h
  ·split at h
   ·rename_i b hb
    rcases closL_sub h with h | h
    ·rw [List.lookup_cons] at h
     cases z:(x == y) with
     | true=>rw [z] at h;obtain e:=eq_of_beq z;rw [e,hb];exact .inr h
     | false=>rw [z] at h;exact .inl h
    ·exact .inr h
   ·exact closL_sub h
  ·exact closL_sub h
theorem closL_acc {env:Env}:∀ {l:List (Str×NameKind)} {acc:List (Str×Addr)} {x:Str},(acc.lookup x).isSome=true→((closL env l acc).lookup x).isSome=true
 | [],acc,x,h=>h
 | (y,kd)::r,acc,x,h=>by
  unfold closL
  split
  ·split
   ·refine closL_acc ?_
    rw [List.lookup_cons];split
    ·rfl
    ·exact h
   ·exact closL_acc h
  ·exact closL_acc h
theorem closL_has {env:Env}:∀ {l:List (Str×NameKind)} {acc:List (Str×Addr)} {x:Str} {a:Addr},(x,NameKind.free)∈l→env.cells.lookup x=some a→((closL env l acc).lookup x).isSome=true
 | (y,kd)::r,acc,x,a,hm,ha=>by
  unfold closL
  rcases List.mem_cons.mp hm with e | e
  ·cases e
   simp only [beq_self_eq_true,if_true,ha]
   refine closL_acc ?_
   rw [List.lookup_cons];simp
  ·split
   ·split
    ·exact closL_has e ha
    ·exact closL_has e ha
   ·exact closL_has e ha
theorem mem_of_lookup' {α:Type}:∀ {l:List (Str×α)} {x:Str} {v:α},l.lookup x=some v→(x,v)∈l:=PySem.mem_of_lookup
theorem St.off (S:St C P m H s) {I:Addr} {h':Heap} {t:Tok} (hP:P I=none) (hH:H I=none) (hfr:I∉frsOf C) (hc:∀ v,¬ s.heap.IsCell I v) (hs:Heap.ExtBut I s.heap h'):St C P m H { s with heap:=h',toks:=t }:=by
 revert S hP hH hfr hc hs
 k_call_by "e" [C,P,m,H,s,I,h',t]
 have keepC:∀ {c w},s.heap.IsCell c w→h'.IsCell c w:=fun {c w} hx=>by
  obtain ⟨y,h1,h2⟩:=id hx
  exact ⟨y,hs c y (fun q=>hc w (q▸hx)) h1,h2⟩
 have keepNs:∀ {L mc},L∈frsOf C→s.heap.Ns L mc→h'.Ns L mc:=fun {L mc} hL hn=>by
  obtain ⟨y,es,ep,h1,h2⟩:=hn
  exact ⟨y,es,ep,hs L y (fun q=>hfr (q▸hL)) h1,h2⟩
 exact {
  pbase:=S.pbase
  keep:=fun b x e=>hs b x (fun q=>by rw [q,hP] at e;cases e) (S.keep b x e)
  objs:=fun a x e=>let ⟨p,ob,h1,h2⟩:=S.objs a x e;⟨p,ob,hs a ob (fun q=>by rw [q,hH] at e;cases e) h1,h2⟩
  pL:=S.pL
  ns:=let ⟨mc,h1,h2⟩:=S.ns;⟨mc,keepNs (.head _) h1,h2⟩
  own:=fun hw x c h1 h2=>let ⟨p,v,h3⟩:=S.own hw x c h1 h2;⟨p,v,keepC h3⟩
  cells:=fun x k v h1 h2 h3=>let ⟨c,u,h4,h5,h6⟩:=S.cells x k v h1 h2 h3;⟨c,u,h4,keepC h5,h6⟩
  fs:=fun f hf=>let ⟨h1,h2⟩:=S.fs f hf;⟨keepNs (.tail _ (List.mem_map_of_mem hf)) h1,h2⟩
  gens:=S.gens
  os:=S.os }
noncomputable def pin (P:Kp) (a:Addr) (ob:Obj):Kp:=fun b=>if b=a then some ob else P b
theorem pin_same {P:Kp} {a:Addr} {ob:Obj}:pin P a ob a=some ob:=if_pos rfl
theorem pin_ne {P:Kp} {a b:Addr} {ob:Obj} (h:b≠a):pin P a ob b=P b:=if_neg h
theorem St.hold (S:St C P m (upd H a o) s) (hn:H a=none):∃ ob,OR C.mg ob o∧P a=none∧St C (pin P a ob) m H s:=by
 revert S hn
 k_call_by "e" [C,P,m,H,s,a,o]
 obtain ⟨hP,ob,ho,hr⟩:=S.objs a o upd_same
 have nd:=hr.noDict
 refine ⟨ob,hr,hP,?_⟩
 have hNs:∀ {L mc},s.heap.Ns L mc→L≠a:=fun {L mc} hx e=>by
  obtain ⟨y,es,ep,h1,h2,_⟩:=hx
  rw [e,ho] at h1;cases h1;exact nd.1 _ _ h2
 exact {
  pbase:=fun b x e=>by
   have h1:=S.pbase b x e
   rw [pin_ne (fun q=>by rw [q,hP] at h1;cases h1)];exact h1
  keep:=fun b x e=>by
   by_cases q:b=a
   ·rw [q,pin_same] at e;cases e;rw [q];exact ho
   ·rw [pin_ne q] at e;exact S.keep b x e
  objs:=fun b x e=>by
   have q:b≠a:=fun q=>by rw [q,hn] at e;cases e
   have:=S.objs b x (by rw [upd_ne q];exact e)
   rw [pin_ne q];exact this
  pL:=by
   obtain ⟨mc,h1,_⟩:=S.ns
   rw [pin_ne (hNs h1)];exact S.pL
  ns:=S.ns
  own:=fun hw x c h1 h2=>by
   obtain ⟨p,v,h3⟩:=S.own hw x c h1 h2
   refine ⟨?_,v,h3⟩
   rw [pin_ne (fun q=>by obtain ⟨y,h4,h5⟩:=h3;rw [q,ho] at h4;cases h4;exact nd.2 _ h5)];exact p
  cells:=S.cells
  fs:=fun f hf=>let ⟨h1,h2,h3⟩:=S.fs f hf;⟨h1,(by rw [pin_ne (hNs h1)];exact h2),h3⟩
  gens:=S.gens
  os:=S.os }
theorem St.unhold {a:Addr} {o:O} {ob:Obj} (S:St C (pin P a ob) m H s) (hb:∀ b x,C.base b=some x→P b=some x) (hP:P a=none) (hr:OR C.mg ob o):St C P m (upd H a o) s :=
 St.put (S.less hb fun b x e=>by rw [pin_ne (fun q=>by rw [q,hP] at e;cases e)];exact e) hP (S.keep a ob pin_same) hr
end DL
end
section
namespace DL
variable {C:Cx} {g:Ge} {P:Kp} {m:Loc} {H:Hp} {s:Shared}
theorem nk_eq {a b:NameKind} (h:(a == b)=true):a=b:=by cases a<;>cases b<;>first | rfl | cases h
theorem compNames_of {sc:Scope} (h:compNames sc=true):sc.kind = .function∧∀ x∈sc.names,goodName x.1=true∧sc.names.lookup x.1=some x.2∧(x.2 = .local∨x.2 = .globalImplicit∨x.2 = .free):=by
 unfold compNames at h
 rw [Bool.and_eq_true] at h
 refine ⟨by cases q:sc.kind<;>first | rfl | (rw [q] at h;cases h.1),fun x hx=>?_⟩
 have:=List.all_eq_true.mp h.2 x hx
 simp only [Bool.and_eq_true,Bool.or_eq_true] at this
 refine ⟨this.1.1,?_,?_⟩
 ·cases q:sc.names.lookup x.1 with
  | none=>rw [q] at this;cases this.1.2
  | some kd=>rw [q] at this;rw [nk_eq (a:=kd) (b:=x.2) this.1.2]
 ·rcases this.2 with (h | h) | h
  ·exact .inl (nk_eq h)
  ·exact .inr (.inl (nk_eq h))
  ·exact .inr (.inr (nk_eq h))
theorem relabel_lookup {sc:Scope} {env:Env} {x:Str} {kd:NameKind} (h:sc.names.lookup x=some kd):∃ kd',(relabel sc env).names.lookup x=some kd'∧(kd'=kd∨kd = .free∧kd' = .cell):=by
 revert h
 k_call_by "e" [sc,env,x,kd]
 unfold relabel
 show ∃ kd',(sc.names.map fun (n,k)=>if (k == NameKind.free&&env.scope.kind == .function&&env.kindOf n == some .cell) then (n,NameKind.cell) else (n,k)).lookup x=some kd'∧_
 revert h
 induction sc.names with
 | nil=>intro h;simp at h
 | cons p r ih =>
  intro h
  obtain ⟨y,ky⟩:=p
  rw [List.lookup_cons] at h
  rw [List.map_cons]
  cases z:(x == y) with
  | true =>
   rw [z] at h;cases (h)
   by_cases hc:(kd == NameKind.free&&env.scope.kind == .function&&env.kindOf y == some .cell)=true
   ·refine ⟨.cell,?_,.inr ⟨?_,rfl⟩⟩
    ·simp only [hc,if_true,List.lookup_cons,z]
    ·simp only [Bool.and_eq_true] at hc;exact nk_eq hc.1.1
   ·refine ⟨kd,?_,.inl rfl⟩
    rw [Bool.not_eq_true] at hc
    simp only [hc,Bool.false_eq_true,if_false,List.lookup_cons,z]
  | false =>
   rw [z] at h
   obtain ⟨kd',h1,h2⟩:=ih h
   refine ⟨kd',?_,h2⟩
   have:(x == (if (ky == NameKind.free&&env.scope.kind == .function&&env.kindOf y == some .cell)=true then (y,NameKind.cell) else (y,ky)).1)=false:=by split<;>exact z
   rw [show ∀ (p:Str×NameKind) l,List.lookup x (p::l)=if x == p.1 then some p.2 else List.lookup x l from fun p l=>by obtain ⟨a,b⟩:=p;rw [List.lookup_cons];cases (x == a)<;>rfl]
   rw [this];exact h1
noncomputable def inCx (C:Cx) (sc:Scope) (mc:Str→Option Value) (L:Addr):Cx :=
 { C with env:=compEnvC sc (closL C.env sc.names []) L C.env,fs:=(C.env.locals,mc)::C.fs,wr:=false }
theorem inCx_like {sc:Scope} {mc:Str→Option Value} {L:Addr}:Like C (inCx C sc mc L):=⟨⟨_,_,_,rfl⟩,fun L hL=>List.mem_cons_of_mem _ hL⟩
theorem Ck.inner (K:Ck C g) {sc:Scope} {mc:Str→Option Value} {L:Addr} (hn:compNames sc=true):Ck (inCx C sc mc L) { g with kinds:=kindsOf sc } where
 kind:=(compNames_of hn).1
 globals:=K.globals
 builtins:=K.builtins
 handled:=K.handled
 units:=K.units
 kinds:=fun x k kd hx hk=>relabel_lookup (kindsOf_lookup hx hk)
 plain:=fun x k kd hx hk=>by
  have:=((compNames_of hn).2 _ (mem_of_lookup' (kindsOf_lookup hx hk))).1
  unfold goodName at this
  simp only [Bool.and_eq_true,Bool.not_eq_true'] at this
  exact ⟨this.1.2,this.2⟩
 globs:=K.globs
 forms:=fun a n h C' hC'=>K.forms a n h C' (inCx_like.trans hC')
noncomputable def inP (C:Cx) (H:Hp) (own:List Addr) (h:Heap):Kp:=fun b=>if (frsOf C).contains b||(H b).isSome||own.contains b then none else h.get? b
theorem inP_some {own:List Addr} {h:Heap} {b:Addr} {o:Obj} (e:inP C H own h b=some o):b∉frsOf C∧H b=none∧b∉own∧h.get? b=some o:=by
 revert e
 k_call_by "e" [C,H,own,h,b,o]
 unfold inP at e
 split at e
 ·cases e
 ·rename_i hc
  simp only [Bool.or_eq_true,not_or,Bool.not_eq_true,Option.isSome_eq_false_iff,Option.isNone_iff_eq_none] at hc
  refine ⟨fun hm=>?_,hc.1.2,fun hm=>?_,e⟩
  ·have:=List.contains_iff_mem.mpr hm;rw [hc.1.1] at this;cases this
  ·have:=List.contains_iff_mem.mpr hm;rw [hc.2] at this;cases this
theorem inP_of {own:List Addr} {h:Heap} {b:Addr} {o:Obj} (h1:b∉frsOf C) (h2:H b=none) (h3:b∉own) (h4:h.get? b=some o):inP C H own h b=some o:=by
 unfold inP
 have e1:(frsOf C).contains b=false:=by
  cases q:(frsOf C).contains b with
  | false=>rfl
  | true=>exact absurd (List.contains_iff_mem.mp q) h1
 have e2:own.contains b=false:=by
  cases q:own.contains b with
  | false=>rfl
  | true=>exact absurd (List.contains_iff_mem.mp q) h3
 rw [e1,h2,e2];exact h4
theorem inP_frs {own:List Addr} {h:Heap} {b:Addr} (h1:b∈frsOf C):inP C H own h b=none:=by
 unfold inP
 rw [List.contains_iff_mem.mpr h1];rfl
theorem inP_H {own:List Addr} {h:Heap} {b:Addr} {o:O} (h1:H b=some o):inP C H own h b=none:=by
 unfold inP
 rw [h1];simp
theorem inP_own {own:List Addr} {h:Heap} {b:Addr} (h1:b∈own):inP C H own h b=none:=by
 unfold inP
 rw [List.contains_iff_mem.mpr h1];simp
theorem frs_iff {C:Cx} {L:Addr}:L∈frsOf C↔(L=C.env.locals∨∃ f∈C.fs,f.1=L):=by
 unfold frsOf;simp [List.mem_cons,List.mem_map]
theorem St.notFrs (S:St C P m H s) {b:Addr} (h:b∈frsOf C):P b=none∧H b=none:=by
 revert S h
 k_call_by "e" [C,P,m,H,s,b]
 rcases frs_iff.mp h with rfl | ⟨f,hf,rfl⟩
 ·refine ⟨S.pL,?_⟩
  cases q:H C.env.locals with
  | none=>rfl
  | some o =>
   obtain ⟨_,ob,h1,h2⟩:=S.objs _ o q
   obtain ⟨mc,⟨ol,es,ep,h3,h4,_⟩,_⟩:=S.ns
   rw [h1] at h3;cases h3;exact absurd h4 (h2.noDict.1 _ _)
 ·obtain ⟨⟨ol,es,ep,h3,h4,_⟩,h5,h6⟩:=S.fs f hf
  refine ⟨h5,?_⟩
  cases q:H f.1 with
  | none=>rfl
  | some o =>
   obtain ⟨_,ob,h1,h2⟩:=S.objs _ o q
   rw [h1] at h3;cases h3;exact absurd h4 (h2.noDict.1 _ _)
theorem St.apart (S:St C P m H s) {b:Addr} {o:Obj} (e:P b=some o):b∉frsOf C∧H b=none:=by
 constructor
 ·intro hm
  rw [(S.notFrs hm).1] at e;cases e
 ·cases q:H b with
  | none=>rfl
  | some x=>rw [(S.objs b x q).1] at e;cases e
theorem St.cellApart (S:St C P m H s) {c:Addr} {w:Option Value} (hc:s.heap.IsCell c w):c∉frsOf C∧H c=none:=by
 revert S hc
 k_call_by "e" [C,P,m,H,s,c,w]
 obtain ⟨x,h1,h2⟩:=hc
 refine ⟨fun hm=>?_,?_⟩
 ·rcases frs_iff.mp hm with rfl | ⟨f,hf,rfl⟩
  ·obtain ⟨mc,⟨ol,es,ep,h3,h4,_⟩,_⟩:=S.ns
   rw [h1] at h3;cases h3;rw [h2] at h4;cases h4
  ·obtain ⟨⟨ol,es,ep,h3,h4,_⟩,_⟩:=S.fs f hf
   rw [h1] at h3;cases h3;rw [h2] at h4;cases h4
 ·cases q:H c with
  | none=>rfl
  | some o =>
   obtain ⟨_,ob,h3,h4⟩:=S.objs c o q
   rw [h1] at h3;cases h3;exact absurd h2 (h4.noDict.2 _)
theorem freesIn_of {l:List (Nat×NameKind)} (h:freesIn g m l=true) {k:Nat} (hk:(k,NameKind.free)∈l):(m.lookup k).isSome=true∧isCellK (g.kinds.lookup k)=true:=by
 have h1:((m.lookup k).isSome&&isCellK (g.kinds.lookup k))=true:=List.all_eq_true.mp h _ hk
 exact (Bool.and_eq_true _ _).mp h1
theorem kindsOf_mem {sc:Scope} {x:Str} {k:Nat} {kd:NameKind} (hx:nmc x=some k) (h:(x,kd)∈sc.names):(k,kd)∈kindsOf sc:=by
 unfold kindsOf
 exact List.mem_filterMap.mpr ⟨(x,kd),h,by simp [hx]⟩
theorem isFree_e {o:Option NameKind} (h:isFree o=true):o=some .free:=by
 cases o with
 | none=>contradiction
 | some k=>cases k<;>first | rfl | contradiction
theorem isCellK_e {o:Option NameKind} (h:isCellK o=true):o=some .cell∨o=some .free:=by
 cases o with
 | none=>contradiction
 | some k=>cases k<;>first | exact .inl rfl | exact .inr rfl | contradiction
theorem pick_lookup {ks:List (Nat×NameKind)} {m:Loc} {k:Nat} {v:V} (h:(pick ks m).lookup k=some v):m.lookup k=some v∧ks.lookup k=some .free:=by
 revert h
 k_call_by "e" [ks,m,k,v]
 unfold pick at h
 induction m with
 | nil=>simp at h
 | cons p r ih =>
  obtain ⟨j,u⟩:=p
  rw [List.filter_cons] at h
  rw [List.lookup_cons]
  split at h
  ·rename_i hf
   rw [List.lookup_cons] at h
   cases z:(k == j) with
   | true =>
    rw [z] at h
    have:=eq_of_beq z;subst this
    refine ⟨h,?_⟩
    exact isFree_e hf
   | false=>rw [z] at h;exact ih h
  ·rename_i hf
   obtain ⟨h1,h2⟩:=ih h
   refine ⟨?_,h2⟩
   cases z:(k == j) with
   | true =>
    have:=eq_of_beq z;subst this
    simp only at hf
    rw [h2] at hf;exact absurd rfl hf
   | false=>exact h1
theorem Ck.cellish (K:Ck C g) {x:Str} {k:Nat} (hx:nmc x=some k) (h:isCellK (g.kinds.lookup k)=true):C.env.kindOf x=some .cell∨C.env.kindOf x=some .free:=by
 revert K hx h
 k_call_by "e" [C,g,x,k]
 rcases isCellK_e h with q | q
 ·exact .inl (K.of_local hx q (by decide))
 ·obtain ⟨kd,h1,rfl | ⟨_,rfl⟩⟩:=K.kinds x k _ hx q
  ·exact .inr h1
  ·exact .inl h1
theorem good_code {x:Str} (h:goodName x=true):∃ k,nmc x=some k:=by
 unfold goodName at h
 simp only [Bool.and_eq_true] at h
 exact Option.isSome_iff_exists.mp h.1.1
theorem free_cell (K:Ck C g) (S:St C P m H s) {sc:Scope} (hn:compNames sc=true) (hf:freesIn g m (kindsOf sc)=true) {x:Str} (hx:(x,NameKind.free)∈sc.names) :
  ∃ k v a u,nmc x=some k∧m.lookup k=some v∧C.env.cells.lookup x=some a∧s.heap.IsCell a (some u)∧VR C.mg u v:=by
 obtain ⟨k,hk⟩:=good_code ((compNames_of hn).2 _ hx).1
 obtain ⟨h1,h2⟩:=freesIn_of hf (kindsOf_mem hk hx)
 obtain ⟨v,hv⟩:=Option.isSome_iff_exists.mp h1
 obtain ⟨a,u,h3,h4,h5⟩:=S.cells x k v hk hv (K.cellish hk h2)
 exact ⟨k,v,a,u,hk,hv,h3,h4,h5⟩
theorem inSt (K:Ck C g) (S:St C P m H s) {sc:Scope} (hn:compNames sc=true) (hf:freesIn g m (kindsOf sc)=true) {own:List Addr} (hown:∀ b∈own,P b=none) {mc:Str→Option Value} (hmc:s.heap.Ns C.env.locals mc)
  {h₁:Heap} {tk:Tok} {L:Addr} {ml:Str→Option Value} (hk:∀ b o,s.heap.get? b=some o→h₁.get? b=some o) (hL:s.heap.objs.size≤L) (hns:h₁.Ns L ml) :
  St (inCx C sc mc L) (inP C H own s.heap) (pick (kindsOf sc) m) H { s with heap:=h₁,toks:=tk } where
 pbase:=fun b o e=>by
  have h1:=S.pbase b o e
  obtain ⟨h2,h3⟩:=S.apart h1
  exact inP_of h2 h3 (fun hm=>by rw [hown b hm] at h1;cases h1) (S.keep b o h1)
 keep:=fun b o e=>hk b o (inP_some e).2.2.2
 objs:=fun a o e=>by
  obtain ⟨_,ob,h1,h2⟩:=S.objs a o e
  exact ⟨inP_H e,ob,hk a ob h1,h2⟩
 pL:=by
  cases q:inP C H own s.heap L with
  | none=>exact q
  | some o=>exact absurd (Heap.lt_size (inP_some q).2.2.2) (Nat.not_lt.mpr hL)
 ns:=⟨ml,hns,fun x k v hx hm hl=>by
  have h1:=kindsOf_lookup hx (pick_lookup hm).2
  obtain ⟨kd,h2,h3⟩:=relabel_lookup (env:=C.env) h1
  have h2':(inCx C sc mc L).env.kindOf x=some kd:=h2
  rw [hl] at h2'
  cases h2'
  rcases h3 with h | ⟨_,h⟩<;>cases h⟩
 own:=fun hw=>by cases hw
 cells:=fun x k v hx hm hkd=>by
  obtain ⟨h1,h2⟩:=pick_lookup hm
  obtain ⟨k',v',a,u,h3,h4,h5,h6,h7⟩:=free_cell K S hn hf (mem_of_lookup' (kindsOf_lookup hx h2))
  rw [hx] at h3;cases h3;rw [h1] at h4;cases h4
  obtain ⟨b,hb⟩:=Option.isSome_iff_exists.mp (closL_has (acc:=[]) (mem_of_lookup' (kindsOf_lookup hx h2)) h5)
  rcases closL_sub hb with h | h
  ·simp at h
  ·rw [h5] at h;cases h
   exact ⟨a,u,hb,h6.keeps hk,h7⟩
 fs:=fun f hf=>by
  rcases List.mem_cons.mp hf with rfl | hf
  ·exact ⟨hmc.keeps hk,inP_frs (.head _),fun e=>absurd hmc.lt (by rw [show C.env.locals=L from e];exact Nat.not_lt.mpr hL)⟩
  ·obtain ⟨h1,h2,h3⟩:=S.fs f hf
   exact ⟨h1.keeps hk,inP_frs (.tail _ (List.mem_map_of_mem hf)),fun e=>absurd h1.lt (by rw [show f.1=L from e];exact Nat.not_lt.mpr hL)⟩
 gens:=S.gens
 os:=S.os
theorem St.inBack (S:St C P m H s) {sc:Scope} {own:List Addr} (hown:∀ b∈own,P b=none) (hr:Recs own s.heap) {mc:Str→Option Value} {L:Addr}
  (hmc:s.heap.Ns C.env.locals mc∧∀ x k v,nmc x=some k→m.lookup k=some v→C.env.kindOf x=some .local→∃ u,mc x=some u∧VR C.mg u v)
  {m':Loc} {H':Hp} {s':Shared} (S':St (inCx C sc mc L) (inP C H own s.heap) m' H' s'):St C P m H' s':=by
 have keepC:∀ {c w},s.heap.IsCell c w→s'.heap.IsCell c w:=fun {c w} hc=>by
  obtain ⟨h1,h2⟩:_:=S.cellApart hc
  obtain ⟨x,h3,h4⟩:_:=hc
  refine ⟨x,S'.keep c x (inP_of h1 h2 (fun hm=>?_) h3),h4⟩
  obtain ⟨o,vs,h5,h6⟩:_:=hr c hm
  rw [h3] at h5;cases h5;rw [h4] at h6;cases h6
 have inPP:∀ b o,P b=some o→inP C H own s.heap b=some o:=fun b o e=>by
  obtain ⟨h1,h2⟩:_:=S.apart e
  exact inP_of h1 h2 (fun hm=>by rw [hown b hm] at e;cases e) (S.keep b o e)
 exact {
  pbase:=S.pbase
  keep:=fun b o e=>S'.keep b o (inPP b o e)
  objs:=fun a o e=>by
   obtain ⟨p,ob,h1,h2⟩:_:=S'.objs a o e
   refine ⟨?_,ob,h1,h2⟩
   cases q:P a with
   | none=>rfl
   | some x=>rw [inPP a x q] at p;cases p
  pL:=S.pL
  ns:=⟨mc,(S'.fs _ (.head _)).1,hmc.2⟩
  own:=fun hw x a h1 h2=>let ⟨p,c,h3⟩:=S.own hw x a h1 h2;⟨p,c,keepC h3⟩
  cells:=fun x k v h1 h2 h3=>let ⟨a,u,h4,h5,h6⟩:=S.cells x k v h1 h2 h3;⟨a,u,h4,keepC h5,h6⟩
  fs:=fun f hf=>⟨(S'.fs f (.tail _ hf)).1,(S.fs f hf).2⟩
  gens:=S'.gens
  os:=S'.os }
section
variable {prog:Program} {w:World} {A:Around} {E:Value→Shared→Prop} {R:Result→Shared→Prop}
theorem nIte {α:Type} {M:Model} {s:Shared} {c:Prop} [Decidable c] {t u:Sem α} {Q:α→Shared→Prop} (h1:wpN M A t Q E s) (h2:wpN M A u Q E s):wpN M A (if c then t else u) Q E s:=by
 by_cases h:c
 ·rw [if_pos h];exact h1
 ·rw [if_neg h];exact h2
theorem nStandIf {α:Type} {M:Model} {s:Shared} {c:Prop} [Decidable c] {pos:Pos} {k:PUnit→Sem α} {Q:α→Shared→Prop} (h:wpN M A (k ()) Q E s):wpN M A (if c then (standAt pos >>= k) else k ()) Q E s:=nIte (nStand h) h
theorem nTests_one {s:Shared} {env:Env} {c:Expr} {Q:Bool→Shared→Prop} (h:wpN (model prog w) A (isTrue c env (eval c env)) Q E s) :
  wpN (model prog w) A (forIn [c] true fun c r=>if r=true then do let ok ← isTrue c env (eval c env);pure (ForInStep.yield ok) else pure (ForInStep.yield r)) Q E s:=by
 rw [List.forIn_cons,if_pos rfl]
 exact nBind (nBind (nMono h (fun b s' hb=>nPure (nPure hb)) fun _ _ x=>x))
theorem cCompLoop {s:Shared} {elt target iter:Expr} {ifs:List Expr} {scope:Scope} {pos:Pos} {it acc:Value} {env:Env} (I:Nat→Shared→Prop)
  (turn:∀ n s,I n s→wpAny (model prog w) A (pyNext it) (fun r s₁=>match r with
   | none=>R (.ok .next) s₁
   | some v=>wpAny (model prog w) A (letOwnedTupleGo target it v) (fun _ s₁'=>wpAny (model prog w) A (assign target env v) (fun _ s₂ =>
     wpN (model prog w) A (forIn ifs true fun c r=>if r=true then do let ok ← isTrue c env (eval c env);pure (ForInStep.yield ok) else pure (ForInStep.yield r)) (fun ok s₃ =>
      if ok=true then wpN (model prog w) A (eval elt env) (fun x s₄ =>
       wpAny (model prog w) A (call (.builtin "list.append") [acc,x]) (fun _ s₅=>∃ m,m<n∧I m s₅) (notedBy (model prog w) A env fun e s'=>R (.error e) s') s₄) (notedBy (model prog w) A env fun e s'=>R (.error e) s') s₃
      else ∃ m,m<n∧I m s₃) (notedBy (model prog w) A env fun e s'=>R (.error e) s') s₂) (notedBy (model prog w) A env fun e s'=>R (.error e) s') s₁') (notedBy (model prog w) A env fun e s'=>R (.error e) s') s₁) (notedBy (model prog w) A env fun e s'=>R (.error e) s') s)
  (n:Nat) (h:I n s) :
  codeN (model prog w) A (.compLoop (.ListComp elt [⟨target,iter,ifs,0⟩] scope pos) 0 it acc env) R s:=by
 revert turn h
 k_call_by "e" [prog,w,A,R,s,elt,target,iter,ifs,scope,pos,it,acc,env,I,n]
 refine cLoop rfl rfl I (fun n s hI=>?_) n h
 show wpN _ A ((compTurn (.ListComp elt [⟨target,iter,ifs,0⟩] scope pos) 0 it acc env).onRaise (fun x=>do noteFrame x env;theTreesLotGoes x)) _ _ s
 refine nNoted ?_
 rw [compTurn_list]
 refine nStand (nBind (nOf (wpAny_mono (turn n s hI) (fun r s₁ h₁=>?_) fun _ _ h'=>h')))
 cases r with
 | none=>exact nPure h₁
 | some v =>
  refine nBind (nOf (wpAny_mono h₁ (fun _ s₁' h₁=>?_) fun _ _ h'=>h'))
  refine nBind (nOf (wpAny_mono h₁ (fun _ s₂ h₂=>nBind (nMono h₂ (fun ok s₃ h₃=>?_) fun _ _ h'=>h')) fun _ _ h'=>h'))
  cases ok with
  | false=>exact nPure (.inl ⟨rfl,h₃⟩)
  | true =>
   exact nBind (nBind (nMono h₃ (fun x s₄ h₄=>nBind (nOf (wpAny_mono h₄ (fun _ s₅ h₅=>nPure (nPure (.inl ⟨rfl,h₅⟩))) fun _ _ h'=>h'))) fun _ _ h'=>h'))
theorem cCompStart {s:Shared} {elt target iter:Expr} {ifs:List Expr} {scope:Scope} {pos:Pos} {it acc:Value} {env:Env}
  (h0:codeN (model prog w) A (.compLoop (.ListComp elt [⟨target,iter,ifs,0⟩] scope pos) 0 it acc env) R s)
  (h:wpAny (model prog w) A (pyIter it) (fun it' s'=>codeN (model prog w) A (.compLoop (.ListComp elt [⟨target,iter,ifs,0⟩] scope pos) 0 it' acc env) R s')
   (notedBy (model prog w) A env fun x s'=>R (.error x) s') s) :
  codeN (model prog w) A (.compStart (.ListComp elt [⟨target,iter,ifs,0⟩] scope pos) 0 it acc env) R s:=by
 refine cTree ?_
 show wpN _ _ ((compStart (.ListComp elt [⟨target,iter,ifs,0⟩] scope pos) 0 it acc env).onRaise (fun x=>do noteFrame x env;standAt theWindowsPlace)) _ _ s
 refine nRaise (nMono (Q:=fun fin s'=>match fin with | .done f=>R (.ok f) s' | .again c'=>c'.quiet=true∧okCode c'=true∧codeN (model prog w) A c' R s') (E:=notedBy (model prog w) A env fun x s'=>R (.error x) s') ?_ (fun _ _ q=>q)
  fun _ _ hx=>nOf (wpAny_bind (wpAny_mono hx (fun _ _ e=>wpAny_standAt e) fun _ _ e=>e)))
 unfold compStart
 show wpN _ _ (ask >>= _) _ _ s
 refine nBind (nOf (wpAny_askSetting ?_))
 refine nIte (nBind (nPure (nPure (And.intro rfl (And.intro rfl h0))))) ?_
 first
  | exact nBind (nOf (wpAny_rule (nStand (nBind (nOf (wpAny_mono h (fun it' s' h'=>nPure (And.intro rfl (And.intro rfl h'))) fun _ _ x=>x))))))
  | trace_state
theorem nComp {M:Model} {s:Shared} {env:Env} {e:Expr} {scope:Scope} {pos:Pos} {newAcc first:Sem Value} {c:Comprehension} {cs:List Comprehension} {cl:List (Str×Addr)} {use:Option (Value→Sem Unit)} {Q:Value→Shared→Prop}
  (hcl:clausesOf e=c::cs) (hs:∀ x,foldedSetIterable c.iter env x=pure x) (hclos:closureFor scope env=pure cl)
  (hkind:scope.kind = .function) (hnames:∀ x∈scope.names,x.2 = .local→scope.names.lookup x.1=some .local)
  (h:wpN M A first (fun x s₁=>wpAny M A (pyIter x) (fun it s₂=>wpAny M A newAcc (fun acc s₃ =>
   wpAny M A (newFunctionEnv scope env.globals cl [] env.qual none .none (some env)) (fun cenv s₄ =>
    codeN M A (.compStart e 0 it acc { cenv with scope:=relabel scope env }) (fun r s'=>∃ f,r = .ok f∧compPost M A E use Q acc cenv.locals (.ok f) s') s₄) E s₃) E s₂) E s₁) E s) :
  wpN M A (comprehension e scope env pos newAcc false first use) Q E s:=by
 obtain u0:=()
 revert hcl hs hclos hkind hnames h
 k_call_by "e" [A,E,M,s,env,e,scope,pos,newAcc,first,c,cs,cl,use,Q,u0]
 unfold comprehension
 rw [hclos,hcl]
 refine nBind (nMono h (fun x s₁ h₁=>nStand (nBind (nOf (wpAny_of_eq (hs x) (nBind (nHold (nOf (wpAny_mono h₁ (fun it s₂ h₂=>nStandIf ?_) fun _ _ h'=>h')))))))) fun _ _ h'=>h')
 refine nBind (nOf (wpAny_mono h₂ (fun acc s₃ h₃=>nBind (nPure (nBind (nOf (wpAny_mono h₃ (fun cenv s₄ h₄=>?_) fun _ _ h'=>h'))))) fun _ _ h'=>h'))
 dsimp only
 have hv:∀ x∈scope.names,x.2 = .local→Env.kindOf { cenv with scope:=relabel scope env } x.1=some .local:=fun x hx hl=>lookup_relabel_local (hnames x hx hl)
 refine nHold (nBind (nAttempt (nHold (nRun rfl (cMono h₄ fun r s' hr=>?_)))))
 obtain ⟨f,rfl,hr⟩:=hr
 cases use with
 | none =>
  obtain ⟨m,hn,hr⟩:=hr
  exact nOf (wpAny_bind (wpAny_holding (wpAny_comp_letGo (cenv:={ cenv with scope:=relabel scope env }) hkind _ s' m (fun x hx=>hv x (List.mem_filter.mp (List.mem_reverse.mp hx)).1) hn fun h' m' _ hs'=>wpAny_pure (hr h' hs'))))
 | some u =>
  refine nOf (wpAny_bind (wpAny_rule (wpAny_bind (wpAny_holding (wpAny_mono hr (fun _ s'' hr'=>?_) fun _ _ h'=>h')))))
  obtain ⟨m,hn,hr'⟩:=hr'
  exact wpAny_bind (wpAny_comp_letGo (cenv:={ cenv with scope:=relabel scope env }) hkind _ s'' m (fun x hx=>hv x (List.mem_filter.mp (List.mem_reverse.mp (List.mem_append.mp hx |>.elim List.mem_of_mem_drop List.mem_of_mem_take))).1) hn fun h' m' _ hs'=>wpAny_pure (hr' h' hs'))
end
end DL
end
section
namespace DL
variable {C:Cx} {g:Ge} {P:Kp} {m:Loc} {H:Hp} {s:Shared}
theorem xp_false {m:Loc} {v:Value} {E:Value→Shared→Prop} (h:XP C P m (fun _ _=>False) v s):E v s:=by
 obtain ⟨_,_,_,_,_,_,_,h⟩:=h;exact h.elim
theorem take_next {its:List It} {k:Nat} {it:It} {f:It→Option V} (h:its[k]?=some it):(its.take (k+1)).filterMap f=(its.take k).filterMap f++(match f it with | some v=>[v] | none=>[]):=by
 rw [List.take_add_one,h,List.filterMap_append]
 simp only [Option.toList_some,List.filterMap_cons,List.filterMap_nil]
 cases f it<;>rfl
noncomputable def compK (elt:Expr) (g2:Ge) (H:Hp) (fi:Option V) (ifs:List Expr) (m'':Loc):Prop:=match ifs with
 | []=>if true=true then wE elt g2 m'' H (fun v H2=>H2=H∧fi=some v) (fun _ _=>False) else fi=none
 | t::more=>gd more.isEmpty (wE t g2 m'' H (fun v H1=>truthyV v H1 fun b=>H1=H∧if b=true then wE elt g2 m'' H (fun v H2=>H2=H∧fi=some v) (fun _ _=>False) else fi=none) (fun _ _=>False))
theorem wGi_c {tgt iter elt:Expr} {ifs:List Expr} {g2:Ge} {it:It} {mp:Loc} {H:Hp} {fi:Option V} (h:wGi ⟨tgt,iter,ifs,0⟩ g2 it mp H (fun ok m'=>if ok then wE elt g2 m' H (fun v H2=>H2=H∧fi=some v) (fun _ _=>False) else fi=none)) :
  bindIt g2 tgt it mp H (compK elt g2 H fi ifs):=by
 cases ifs with
 | nil=>exact h
 | cons _ _=>exact h
theorem comp_loop (K:Ck C g.bare) (hg:g.hd=true) (S:St C P m H s) {elt tgt iter:Expr} {ifs:List Expr} {sc:Scope} {pos:Pos} (helt:EOkN elt) (hifs:∀ t∈ifs,EOkN t) (hn:compNames sc=true) (hf:freesIn g.bare m (kindsOf sc)=true)
  {I:Addr} {own:List Addr} {Hs:Hp} {its:List It} {Si:Nat→Heap→Prop} (W:ItSt C.mg C.prog C.w tgt I own Hs its Si) (hown:∀ b∈own,P b=none∧H b=none) (hE:Ext Hs H) (h0:Si 0 s.heap) (hsz:its.length≤SZ) {f:It→Option V}
  (hit:∀ it∈its,wGi ⟨tgt,iter,ifs,0⟩ { g.bare with kinds:=kindsOf sc } it (pick (kindsOf sc) m) H (fun ok m'=>if ok then wE elt { g.bare with kinds:=kindsOf sc } m' H (fun v H2=>H2=H∧f it=some v) (fun _ _=>False) else f it=none))
  {mc:Str→Option Value} (hmc:s.heap.Ns C.env.locals mc)
  {RR:Value→Addr→Result→Shared→Prop}
  (hR:∀ D L m' s',H D=none→s.heap.objs.size≤L→St (inCx C sc mc L) (inP C H own s.heap) m' (upd H D (.list (its.filterMap f))) s'→RR (.ref D) L (.ok .next) s') {E:Value→Shared→Prop} :
  wpAny (Md C) C.A (newList []) (fun acc s₃=>wpAny (Md C) C.A (newFunctionEnv sc C.env.globals (closL C.env sc.names []) [] C.env.qual none .none (some C.env)) (fun cenv s₄ =>
   codeN (Md C) C.A (.compStart (.ListComp elt [⟨tgt,iter,ifs,0⟩] sc pos) 0 (.ref I) acc { cenv with scope:=relabel sc C.env }) (RR acc cenv.locals) s₄) E s₃) E s:=by
 obtain u0:=()
 obtain u1:=()
 obtain u2:=()
 revert K hg S helt hifs hn hf W hown hE h0 hsz hit hmc hR
 k_call_by "e" [C,g,P,m,H,s,elt,tgt,iter,ifs,sc,pos,I,own,Hs,its,Si,f,mc,RR,E,u0,u1,u2]
 obtain ⟨hkind,hnames⟩:=compNames_of hn
 refine wpAny_newObj_type (wpAny_newFunctionEnv (fun x hx=>by rcases (hnames x hx).2.2 with h | h | h<;>rw [h]<;>decide) (by intro y hy;simp at hy) (fun h₁ hns₁ hsb₁=>?_) hkind)
 dsimp only at hns₁ hsb₁ ⊢
 generalize hH2:s.heap.push { cls:=.type "list",dict:=none,data:=.seq ([]:List Value).toArray }=H2 at hns₁ hsb₁ ⊢
 have hC:H2.objs.size=s.heap.objs.size+1:=by rw [← hH2,Heap.size_push]
 have hL:s.heap.objs.size≤H2.objs.size:=by rw [hC];exact Nat.le_succ _
 have old:∀ b o,s.heap.get? b=some o→h₁.get? b=some o:=fun b o e=>hsb₁.extBut b o (by rw [hC];exact Nat.ne_of_lt (Nat.lt_succ_of_lt (Heap.lt_size e))) (Heap.get?_push_of_some _ (hH2▸Heap.get?_push_of_some _ e))
 have hacc:h₁.get? s.heap.objs.size=some { cls:=.type "list",dict:=none,data:=.seq ([]:List Value).toArray } :=
  hsb₁.extBut _ _ (by rw [hC];exact Nat.ne_of_lt (Nat.lt_succ_self _)) (Heap.get?_push_of_some _ (hH2▸Heap.get?_push_size _ rfl))
 have hD:H s.heap.objs.size=none:=(S.above (Nat.le_refl _)).1
 have loop:∀ s₃:Shared,s₃={ s with heap:=h₁,toks:=s.toks+([]:List (Str×Value)).length } →
   codeN (Md C) C.A (.compLoop (.ListComp elt [⟨tgt,iter,ifs,0⟩] sc pos) 0 (.ref I) (.ref s.heap.objs.size) (inCx C sc mc H2.objs.size).env) (RR (.ref s.heap.objs.size) H2.objs.size) s₃:=by
  rintro s₃ rfl
  have S1:=inSt K S hn hf (fun b hb=>(hown b hb).1) hmc (h₁:=h₁) (tk:=s.toks+([]:List (Str×Value)).length) old hL hns₁
  generalize hmp:pick (kindsOf sc) m=mp at S1 hit
  have hmpk:∀ j v,mp.lookup j=some v→(kindsOf sc).lookup j≠some .local:=fun j v h=>by
   rw [← hmp] at h;rw [(pick_lookup h).2];decide
  generalize hg2:({ g.bare with kinds:=kindsOf sc }:Ge)=g2 at hit
  have K2:Ck (inCx C sc mc H2.objs.size) g2:=hg2▸K.inner hn
  have K3:CkN (inCx C sc mc H2.objs.size) g2:=by rw [← hg2] at K2 ⊢;exact ⟨K2,fun _ _ _ _ _ h=>(by contradiction),fun _ _ h=>(by contradiction)⟩
  have hk2:g2.kinds=kindsOf sc:=by rw [← hg2]
  have hg2':g2.hd=true:=by rw [← hg2];exact hg
  have hP2:∀ b∈own,inP C H own s.heap b=none:=fun b hb=>inP_own hb
  have hDP:inP C H own s.heap s.heap.objs.size=none:=by
   cases q:inP C H own s.heap s.heap.objs.size with
   | none=>rfl
   | some o=>exact absurd (Heap.lt_size (inP_some q).2.2.2) (Nat.lt_irrefl _)
  have hDown:s.heap.objs.size∉own:=fun hm=>by
   obtain ⟨o,vs,h1,_⟩:=W.recs _ _ h0 _ hm
   exact Nat.lt_irrefl _ (Heap.lt_size h1)
  have S2:=S1.put (o:=.list []) hDP hacc ⟨Nat.zero_le _,#[],0,rfl,.nil⟩
  have hSi0:Si 0 h₁:=W.frame _ _ _ h0 fun b _ o e=>old b o e
  have hb2:=S1.pbase
  clear S1
  generalize hP2':inP C H own s.heap=P2 at *
  generalize s.heap.objs.size=D at *
  refine cCompLoop (fun n s'=>∃ k m',n+k=its.length+1∧k≤its.length∧SubL mp m'∧Si k s'.heap∧St (inCx C sc mc H2.objs.size) P2 m' (upd H D (.list ((its.take k).filterMap f))) s') ?_ (its.length+1)
   ⟨0,mp,by exact Nat.add_assoc _ _ _,Nat.zero_le _,.refl _,hSi0,by simpa using S2⟩
  rintro n s' ⟨k,m',hk,hkl,hsub,hsi,S'⟩
  cases q:its[k]? with
  | none =>
   have hke:k=its.length:=by
    have:=List.getElem?_eq_none_iff.mp q;grind
   subst hke
   obtain ⟨ob,hr,_,S3⟩:=S'.hold hD
   refine W.done (inCx C sc mc H2.objs.size) (pin P2 D ob) m' H s' (fun r s₁=>match r with | none=>RR (.ref D) H2.objs.size (.ok .next) s₁ | some v=>_) _ rfl rfl rfl (K.handled hg) S3 (fun b hb=>?_) (fun b hb=>(hown b hb).2) hE hsi fun s'' S4=>?_
   ·have:b≠D:=fun e=>hDown (by rw [← e];exact hb)
    rw [pin_ne this];exact hP2 b hb
   ·have S5:=S4.unhold hb2 hDP hr
    rw [List.take_length] at S5
    exact hR D _ m' s'' hD hL S5
  | some it =>
   have hlt:k<its.length:=by
    have:=List.getElem?_eq_some_iff.mp q;exact this.1
   have hmem:it∈its:=List.mem_of_getElem? q
   obtain ⟨ob,hr,_,S3⟩:=S'.hold hD
   have S3':=S3.weak hsub (Ext.refl H)
   have hi:=hit it hmem
   have hPo:∀ b∈own,pin P2 D ob b=none:=fun b hb=>by
    have:b≠D:=fun e=>hDown (by rw [← e];exact hb)
    rw [pin_ne this];exact hP2 b hb
   have done:∀ m'' s5 (r:Option V),f it=r→SubL mp m''→Si (k+1) s5.heap→St (inCx C sc mc H2.objs.size) P2 m'' (upd H D (.list ((its.take k).filterMap f++(match r with | some v=>[v] | none=>[])))) s5 →
     ∃ j,j<n∧∃ k m',j+k=its.length+1∧k≤its.length∧SubL mp m'∧Si k s5.heap∧St (inCx C sc mc H2.objs.size) P2 m' (upd H D (.list ((its.take k).filterMap f))) s5:=fun m'' s5 r e1 e2 e3 e4=>by
    have hn:0<n:=Nat.pos_of_ne_zero fun e=>by rw [e,Nat.zero_add] at hk;exact absurd hlt (Nat.not_lt.mpr (hk▸Nat.le_succ _))
    refine ⟨n-1,Nat.sub_one_lt_of_lt hn,k+1,m'',by rw [← Nat.add_assoc,Nat.add_right_comm,Nat.sub_add_cancel hn];exact hk,hlt,e2,e3,?_⟩
    rw [take_next q,e1];exact e4
   have body:∀ m'' s2,(SubL mp m''∧compK elt g2 H (f it) ifs m'') →
     St (inCx C sc mc H2.objs.size) (pin P2 D ob) m'' H s2→Si (k+1) s2.heap →
     wpN (Md C) C.A (forIn ifs true fun c r=>if r=true then do let ok ← isTrue c (inCx C sc mc H2.objs.size).env (eval c (inCx C sc mc H2.objs.size).env);pure (ForInStep.yield ok) else pure (ForInStep.yield r)) (fun ok s₃ =>
      if ok=true then wpN (Md C) C.A (eval elt (inCx C sc mc H2.objs.size).env) (fun x s₄ =>
       wpAny (Md C) C.A (call (.builtin "list.append") [.ref D,x]) (fun _ s₅=>∃ j,j<n∧∃ k m',j+k=its.length+1∧k≤its.length∧SubL mp m'∧Si k s₅.heap∧St (inCx C sc mc H2.objs.size) P2 m' (upd H D (.list ((its.take k).filterMap f))) s₅) (notedBy (Md C) C.A (inCx C sc mc H2.objs.size).env fun e s'=>RR (.ref D) H2.objs.size (.error e) s') s₄) (notedBy (Md C) C.A (inCx C sc mc H2.objs.size).env fun e s'=>RR (.ref D) H2.objs.size (.error e) s') s₃
      else ∃ j,j<n∧∃ k m',j+k=its.length+1∧k≤its.length∧SubL mp m'∧Si k s₃.heap∧St (inCx C sc mc H2.objs.size) P2 m' (upd H D (.list ((its.take k).filterMap f))) s₃)
      (notedBy (Md C) C.A (inCx C sc mc H2.objs.size).env fun e s'=>RR (.ref D) H2.objs.size (.error e) s') s2:=fun m'' s2 hm2 S4 hsi2=>by
    obtain ⟨hsub2,hm2⟩:=hm2
    have rc:=W.recs _ _ hsi2
    have S5:=S4.more (fun b hb=>(hown b hb).2) rc
    have hfin:∀ s3:Shared,∀ H',H'=H→St (inCx C sc mc H2.objs.size) (addP (pin P2 D ob) own s2.heap) m'' H' s3→St (inCx C sc mc H2.objs.size) (pin (addP P2 own s2.heap) D ob) m'' H s3∧Si (k+1) s3.heap:=fun s3 H' e S6=>by
     subst e
     refine ⟨?_,W.frame _ _ _ hsi2 fun b hb o e=>S6.keep b o (by unfold addP;rw [List.contains_iff_mem.mpr hb];exact e)⟩
     have:addP (pin P2 D ob) own s2.heap=pin (addP P2 own s2.heap) D ob:=by
      funext b
      unfold addP pin
      by_cases e:b=D
      ·subst e
       have:own.contains b=false:=by
        cases q:own.contains b with
        | false=>rfl
        | true=>exact absurd (List.contains_iff_mem.mp q) hDown
       rw [this];simp
      ·simp [e]
     rw [← this];exact S6
    have hDP':addP P2 own s2.heap D=none:=by
     unfold addP
     have:own.contains D=false:=by
      cases q:own.contains D with
      | false=>rfl
      | true=>exact absurd (List.contains_iff_mem.mp q) hDown
     rw [this];exact hDP
    have P2le:∀ b o,P2 b=some o→addP P2 own s2.heap b=some o:=fun b o e=>by
     unfold addP
     have:own.contains b=false:=by
      cases q:own.contains b with
      | false=>rfl
      | true=>rw [hP2 b (List.contains_iff_mem.mp q)] at e;cases e
     rw [this];exact e
    have eltok:∀ s3 H',H'=H→St (inCx C sc mc H2.objs.size) (addP (pin P2 D ob) own s2.heap) m'' H' s3→wE elt g2 m'' H (fun v H2=>H2=H∧f it=some v) (fun _ _=>False) →
      wpN (Md C) C.A (eval elt (inCx C sc mc H2.objs.size).env) (fun x s₄ =>
       wpAny (Md C) C.A (call (.builtin "list.append") [.ref D,x]) (fun _ s₅=>∃ j,j<n∧∃ k m',j+k=its.length+1∧k≤its.length∧SubL mp m'∧Si k s₅.heap∧St (inCx C sc mc H2.objs.size) P2 m' (upd H D (.list ((its.take k).filterMap f))) s₅) (notedBy (Md C) C.A (inCx C sc mc H2.objs.size).env fun e s'=>RR (.ref D) H2.objs.size (.error e) s') s₄) (notedBy (Md C) C.A (inCx C sc mc H2.objs.size).env fun e s'=>RR (.ref D) H2.objs.size (.error e) s') s3:=fun s3 H' e S6 he=>by
     subst e
     refine nMono ((helt K3 S6).1 _ _ he) (fun x s4 h4=>?_) fun _ _ x=>xp_false x
     obtain ⟨z,H3,hz,S7,rfl,hfz⟩:=h4
     obtain ⟨S8,_⟩:=hfin s4 _ rfl S7
     have S9:=S8.unhold (fun b o e=>P2le b o (hb2 b o e)) hDP' hr
     have hlen:((its.take k).filterMap f).length<SZ:=Nat.lt_of_le_of_lt (List.length_filterMap_le ..) (by rw [List.length_take];grind)
     refine wpAny_mono (meth_append (Q:=fun _ H'=>H'=upd H3 D (.list ((its.take k).filterMap f++[z]))) S9 upd_same hz hlen (by rw [upd_upd])) (fun y s5 h5=>?_) fun _ _ x=>x
     obtain ⟨_,H4,_,S10,rfl⟩:=h5
     refine done m'' s5 (some z) hfz hsub2 (W.frame _ _ _ hsi2 fun b hb o e=>S10.keep b o (by unfold addP;rw [List.contains_iff_mem.mpr hb];exact e)) (S10.less hb2 P2le)
    cases ifs with
    | nil =>
     exact nOf (wpAny_tests_nil (eltok s2 H rfl S5 hm2))
    | cons t more =>
     obtain ⟨hmo,ht⟩:=gd_e hm2
     obtain rfl:=List.isEmpty_iff.mp hmo
     refine nTests_one (nMono ((hifs t (.head _) K3 S5).2 (fun b H1=>H1=H∧if b=true then wE elt g2 m'' H (fun v H2=>H2=H∧f it=some v) (fun _ _=>False) else f it=none) _ ?_) (fun b s3 h3=>?_) fun _ _ x=>xp_false x)
     ·exact ht
     ·obtain ⟨H',S6,rfl,h3⟩:=h3
      cases b with
      | true=>rw [if_pos rfl];exact eltok s3 _ rfl S6 h3
      | false =>
       obtain ⟨S8,hsi3⟩:=hfin s3 _ rfl S6
       have S9:=(S8.unhold (fun b o e=>P2le b o (hb2 b o e)) hDP' hr).less hb2 P2le
       exact done m'' s3 none h3 hsub2 hsi3 (by rw [List.append_nil];exact S9)
   have hi2:=bindIt_mono (m:=mp) (g:=g2) (K':=fun m''=>SubL mp m''∧compK elt g2 H (f it) ifs m'')
     (fun m'' h1 h2=>⟨fun j v h=>h1 j v h (by rw [hk2];exact hmpk j v h),h2⟩) (wGi_c hi)
   exact wpAny_mono (W.item (inCx C sc mc H2.objs.size) g2 k it (pin P2 D ob) mp H s' _ _ _ rfl rfl rfl K2 hg2' q S3' hPo (fun b hb=>(hown b hb).2) hE hsi hi2 body) (fun r s₁ h=>by
    cases r with
    | none=>exact h.elim
    | some v=>exact h) fun _ _ x=>x
 exact cCompStart (loop _ rfl) (W.self _ 0 _ _ _ (W.frame _ _ _ h0 fun b _ o e=>old b o e) (loop _ rfl))
theorem comp_post (S:St C P m H s) {sc:Scope} {own:List Addr} (hown:∀ b∈own,P b=none) (hr:Recs own s.heap) {mc:Str→Option Value} {L:Addr}
  (hmc:s.heap.Ns C.env.locals mc∧∀ x k v,nmc x=some k→m.lookup k=some v→C.env.kindOf x=some .local→∃ u,mc x=some u∧VR C.mg u v) (hL:s.heap.objs.size≤L)
  {m':Loc} {H':Hp} {s':Shared} (S':St (inCx C sc mc L) (inP C H own s.heap) m' H' s') :
  St C P m H' s'∧P L=none∧H' L=none∧L∉frsOf C∧(∀ v,¬ s'.heap.IsCell L v)∧∃ mm,s'.heap.Ns L mm:=by
 obtain ⟨mm,hns,_⟩:=S'.ns
 refine ⟨S.inBack hown hr hmc S',(S.above hL).2,?_,fun hm=>?_,fun v hc=>?_,mm,hns⟩
 ·exact (S'.notFrs (.head _)).2
 ·rcases frs_iff.mp hm with rfl | ⟨f,hf,rfl⟩
  ·exact absurd hmc.1.lt (Nat.not_lt.mpr hL)
  ·exact absurd (S.fs f hf).1.lt (Nat.not_lt.mpr hL)
 ·obtain ⟨x,h1,h2⟩:=hc
  obtain ⟨y,es,ep,h3,h4,_⟩:=hns
  have h3:s'.heap.get? L=some y:=h3
  rw [h1] at h3;cases h3;rw [h2] at h4;cases h4
end DL
end
section
namespace DL
section
variable {M:Model} {A:Around} {E:Value→Shared→Prop} {s:Shared}
theorem nStandA {pos:Pos} {Q:Unit→Shared→Prop} (h:Q () s):wpN M A (standAt pos) Q E s:=nOf (wpAny_standAt h)
theorem nChain_last {pos:Pos} {a:Value} {op:CmpOp} {r:Sem Value} {Q:Value→Shared→Prop} (h:wpN M A r (fun b s₁=>wpN M A (compareOp op a b) Q E s₁) E s):wpN M A (compareChain pos a [op] [r]) Q E s:=by
 show wpN M A (do let rv ← holding [a] r;standAt pos;operate [a,rv] (compareOp op a rv)) Q E s
 exact nBind (nHold (nMono h (fun b s₁ h₁=>nStand (nOperate h₁)) fun _ _ x=>x))
theorem nTest_last {pos:Pos} {a:Value} {op:CmpOp} {r:Sem Value} {Q:Bool→Shared→Prop} (h:wpN M A r (fun b s₁=>wpN M A (compareOp op a b) (fun c s₂=>wpN M A (truthy c) Q E s₂) E s₁) E s):wpN M A (testChain pos a [op] [r]) Q E s:=by
 show wpN M A (do let rv ← holding [a] r;standAt pos;let c ← operate [a,rv] (compareOp op a rv);holding [c] (truthy c)) Q E s
 exact nBind (nHold (nMono h (fun b s₁ h₁=>nStand (nBind (nOperate (nMono h₁ (fun c s₂ h₂=>nHold h₂) fun _ _ x=>x)))) fun _ _ x=>x))
theorem nChain_link {pos:Pos} {a:Value} {op op':CmpOp} {ops:List CmpOp} {r r':Sem Value} {rs:List (Sem Value)} {Q:Value→Shared→Prop}
  (h:wpN M A r (fun b s₁=>wpN M A (compareOp op a b) (fun c s₂=>wpN M A (truthy c) (fun t s₃=>if t then wpN M A (compareChain pos b (op'::ops) (r'::rs)) Q E s₃ else Q c s₃) E s₂) E s₁) E s) :
  wpN M A (compareChain pos a (op::op'::ops) (r::r'::rs)) Q E s:=by
 show wpN M A (do let rv ← holding [a] r;standAt pos;let c ← holding [a,rv] (compareOp op a rv);release [a,rv] [c];if ← holding [c,rv] (truthy c) then compareChain pos rv (op'::ops) (r'::rs) else pure c) Q E s
 refine nBind (nHold (nMono h (fun b s₁ h₁=>nStand (nBind (nHold (nMono h₁ (fun c s₂ h₂=>?_) fun _ _ x=>x)))) fun _ _ x=>x))
 refine nBind (nOf (wpAny_release' (nBind (nHold (nMono h₂ (fun t s₃ h₃=>?_) fun _ _ x=>x)))))
 cases t
 ·exact nPure h₃
 ·exact h₃
theorem nTest_link {pos:Pos} {a:Value} {op op':CmpOp} {ops:List CmpOp} {r r':Sem Value} {rs:List (Sem Value)} {Q:Bool→Shared→Prop}
  (h:wpN M A r (fun b s₁=>wpN M A (compareOp op a b) (fun c s₂=>wpN M A (truthy c) (fun t s₃=>if t then wpN M A (testChain pos b (op'::ops) (r'::rs)) Q E s₃ else Q false s₃) E s₂) E s₁) E s) :
  wpN M A (testChain pos a (op::op'::ops) (r::r'::rs)) Q E s:=by
 show wpN M A (do let rv ← holding [a] r;standAt pos;let c ← holding [a,rv] (compareOp op a rv);release [a,rv] [c];if ← holding [c,rv] (truthy c) then testChain pos rv (op'::ops) (r'::rs) else pure false) Q E s
 refine nBind (nHold (nMono h (fun b s₁ h₁=>nStand (nBind (nHold (nMono h₁ (fun c s₂ h₂=>?_) fun _ _ x=>x)))) fun _ _ x=>x))
 refine nBind (nOf (wpAny_release' (nBind (nHold (nMono h₂ (fun t s₃ h₃=>?_) fun _ _ x=>x)))))
 cases t
 ·exact nPure h₃
 ·exact h₃
end
variable {C:Cx} {g:Ge} {P:Kp} {m:Loc} {H:Hp} {s:Shared}
theorem new_bytearray (S:St C P m H s) (hh:C.A.handled=none) {Q:V→Hp→Prop} {E:Value→Shared→Prop} {vs:List Value} {xs:List V} (hv:VRs C.mg vs xs) (h:typeCall "bytearray" xs H Q) :
  wpN (Md C) C.A (call (.type "bytearray") vs) (Res C P m Q) E s:=by
 revert S hh hv h
 k_call_by "e" [C,P,m,H,s,Q,E,vs,xs]
 have hab:=S.above (Nat.le_refl s.heap.objs.size)
 cases hv with
 | nil =>
  exact call_ba0 fun h' hb hat=>Res.of (z:=.ref s.heap.objs.size) rfl ((S.fresh_obj (t:=s.toks) hb).put (o:=.barr []) hab.2 hat ⟨Nat.zero_le _,rfl⟩) ((show ∀ c,H c=none→Q (.ref c) (upd H c (.barr [])) from h) _ hab.1)
 | cons hx hr =>
  cases hr with
  | cons _ _=>exact False.elim h
  | nil =>
   obtain ⟨l,e,h1⟩:=iR_v hx h
   clear hx h
   subst e
   obtain ⟨ys,q,h⟩:=oE_e h1
   clear h1
   obtain ⟨ns,e,ho,h1⟩:=oE_e h
   clear h
   obtain ⟨hz,vs,hl,hv,hlen⟩:=S.list (oL_e q)
   have hi:=ints_are hv e
   have hn:ns.length≤SZ:=by
    have:=hi.length
    rw [Array.length_toList,hlen] at this;lia
   refine call_ba1 (vs:=vs.toList) (by simpa using hl) hi ho (SZ_line hn) fun h' hb hat=>Res.of (z:=.ref s.heap.objs.size) rfl ((S.fresh_obj (t:=s.toks) hb).put (o:=.barr (ofOcts ns)) hab.2 hat ⟨?_,rfl⟩) (h1 _ hab.1)
   unfold ofOcts;rw [List.length_map];exact hn
theorem meth_bappendN (S:St C P m H s) {Q:V→Hp→Prop} {E:Value→Shared→Prop} {a:Addr} {b:List UInt8} {i:Int} {t:Tok} (q:H a=some (.barr b)) (hz:b.length<SZ) (h0:0≤i) (h1:i<256) (h:Q .none (upd H a (.barr (b++[UInt8.ofNat i.toNat])))) :
  wpN (Md C) C.A (call (.builtin "bytearray.append") [.ref a,.int i t]) (Res C P m Q) E s:=by
 obtain ⟨_,ho⟩:=S.barr q
 refine call_bappend ho (by rw [List.size_toArray];exact SZ_line hz) h0 h1 ?_
 refine Res.of (z:=.none) rfl (S.mut (o':=.barr (b++[UInt8.ofNat i.toNat])) (t:=s.toks) q (fun c hb o e=>(Heap.get?_update_other _ _ (Ne.symm hb)).trans e) (Heap.get?_update_self _ ho rfl) ⟨?_,?_⟩) h
 ·rw [List.length_append];exact hz
 ·show baObj _=_
  simp
noncomputable def MethodN (prog:Program) (w:PySem.World) (A:Around) (name:Str) (pos:Pos) (ov:Value) (trees:List (Bool×Sem Value)) (Q:Value→Shared→Prop) (E:Value→Shared→Prop) (s:Shared):Prop :=
 ∃ T id,PlainAttrs T∧Slot T name id∧typeOf (.builtin id)=pure (.type "method_descriptor")∧s.TypeIs ov T∧(∀ a,ov = .ref a→∃ ob,s.heap.get? a=some ob∧ob.dict=none) ∧
  wpN (model prog w) A (callWith pos (.builtin id) [ov] trees []) Q E s
theorem oE_s {α:Type} {o:Option α} {a:α} {K:α→Prop} (q:o=some a) (h:oE o K):K a:=by rw [q] at h;exact h
theorem callop_okN (K:CkN C g) (S:St C P m H s) {Q:V→Hp→Prop} {X:XE} {f:Value} {x:V} {pos:Pos} {args:List (Bool×Sem Value)} (hf:VR C.mg f x)
  (hg:g.hd=true) (hpl:args.any (·.1)=false) (hcl:callable g x=true)
  (h:wpN (Md C) C.A (evalArgs f true args []) (fun a s'=>a.kw=[]∧∃ xs H',VRs C.mg a.pos xs∧St C P m H' s'∧callop g x xs H' Q X) (XP C P m X) s) :
  wpN (Md C) C.A (callWith pos f [] args []) (Res C P m Q) (XP C P m X) s:=by
 revert K S hf hg hpl hcl h
 k_call_by "e" [C,g,P,m,H,s,Q,X,f,x,pos,args]
 cases x with
 | bi n =>
  obtain rfl:=hf
  refine nWith_builtin hpl (nMono h (fun a s' h'=>?_) fun _ _ x=>x)
  obtain ⟨ps,kw⟩:=a
  obtain ⟨rfl,xs,H',hv,S',h2⟩:=h'
  exact nOf (builtin_ok S' (K.base.handled hg) hv h2)
 | ty n =>
  obtain rfl:=hf
  refine nWith_type hpl (nMono h (fun a s' h'=>?_) fun _ _ x=>x)
  obtain ⟨ps,kw⟩:=a
  obtain ⟨rfl,xs,H',hv,S',h2⟩:=h'
  by_cases hn:n = "bytearray"
  ·subst hn;exact new_bytearray S' (K.base.handled hg) hv h2
  ·exact nOf (type_ok S' (K.base.handled hg) hn hv h2)
 | gl k =>
  obtain ⟨x,hk,hx⟩:=hf
  obtain ⟨sp,q⟩:=Option.isSome_iff_exists.mp hcl
  obtain ⟨⟨a,o,fd,rfl,ho,hb⟩,hc⟩:=K.gam x k sp f hk q hx
  refine nWith_function (o:=o) (fd:=fd) hpl (nMono h (fun a s' h'=>?_) fun _ _ x=>x)
  obtain ⟨ps,kw⟩:=a
  obtain ⟨rfl,xs,H',hv,S',h2⟩:=h'
  exact ⟨⟨S'.base _ _ hb,ho⟩,hc C (.refl C) P m H' s' ps xs Q X S' hv (oE_s (K:=fun (sp:Spec)=>sp xs H' Q X) q h2)⟩
 | ref a =>
  obtain rfl:=hf
  obtain ⟨sp,q⟩:=Option.isSome_iff_exists.mp hcl
  obtain ⟨⟨a,o,fd,e,ho,hb⟩,hc⟩:=K.fnv a sp q
  cases e
  refine nWith_function (o:=o) (fd:=fd) hpl (nMono h (fun a s' h'=>?_) fun _ _ x=>x)
  obtain ⟨ps,kw⟩:=a
  obtain ⟨rfl,xs,H',hv,S',h2⟩:=h'
  exact ⟨⟨S'.base _ _ hb,ho⟩,hc C (.refl C) P m H' s' ps xs Q X S' hv (oE_s (K:=fun (sp:Spec)=>sp xs H' Q X) q h2)⟩
 | _=>contradiction
end DL
end
section
namespace DL
variable {C:Cx} {g:Ge} {P:Kp} {m:Loc} {H:Hp} {s:Shared}
noncomputable def LOkN (es:List Expr):Prop:=∀ ⦃C:Cx⦄ ⦃g:Ge⦄ ⦃P:Kp⦄ ⦃m:Loc⦄ ⦃H:Hp⦄ ⦃s:Shared⦄,CkN C g→St C P m H s→∀ pos Q X,wL es g m H Q X →
 wpN (Md C) C.A (spliced (backTo pos (starEach es C.env))) (fun vs s'=>∃ xs H',VRs C.mg vs xs∧St C P m H' s'∧Q xs H') (XP C P m X) s
noncomputable def BOkN (es:List Expr):Prop:=∀ ⦃C:Cx⦄ ⦃g:Ge⦄ ⦃P:Kp⦄ ⦃m:Loc⦄ ⦃H:Hp⦄ ⦃s:Shared⦄,CkN C g→St C P m H s→∀ op,
 (∀ pos Q X,wB es op g m H Q X→wpN (Md C) C.A (boolOp pos op (evalEach es C.env)) (Res C P m Q) (XP C P m X) s) ∧
 (∀ Q X,wB es op g m H (fun v H1=>truthyV v H1 fun b=>Q b H1) X→wpN (Md C) C.A (allTrue op es C.env) (RB C P m Q) (XP C P m X) s)
noncomputable def COkN (es:List Expr):Prop:=∀ ⦃C:Cx⦄ ⦃g:Ge⦄ ⦃P:Kp⦄ ⦃m:Loc⦄ ⦃H:Hp⦄ ⦃s:Shared⦄,CkN C g→St C P m H s→∀ (v:Value) a ops,VR C.mg v a →
 (∀ pos Q X,wC es a ops g m H Q X→wpN (Md C) C.A (compareChain pos v ops (evalEach es C.env)) (Res C P m Q) (XP C P m X) s) ∧
 (∀ pos Q X,wC es a ops g m H (fun v H1=>truthyV v H1 fun b=>Q b H1) X→wpN (Md C) C.A (testChain pos v ops (evalEach es C.env)) (RB C P m Q) (XP C P m X) s)
noncomputable def OOkN (o:Option Expr):Prop:=∀ ⦃C:Cx⦄ ⦃g:Ge⦄ ⦃P:Kp⦄ ⦃m:Loc⦄ ⦃H:Hp⦄ ⦃s:Shared⦄,CkN C g→St C P m H s→∀ Q X,wO o g m H Q X →
 wpN (Md C) C.A (evalPart o C.env) (Res C P m Q) (XP C P m X) s
noncomputable def SlOkN (e:Expr):Prop:=∀ ⦃C:Cx⦄ ⦃g:Ge⦄ ⦃P:Kp⦄ ⦃m:Loc⦄ ⦃H:Hp⦄ ⦃s:Shared⦄,CkN C g→St C P m H s→∀ K X,wSl e g m H K X →
 wpN (Md C) C.A (eval e C.env) (fun v s'=>∃ a l u x y H',v = .ref a∧VR C.mg l x∧VR C.mg u y∧s'.heap.IsSliceOf a l u .none∧St C P m H' s'∧K x y H') (XP C P m X) s
noncomputable def AtOkN (e:Expr):Prop:=∀ ⦃C:Cx⦄ ⦃g:Ge⦄ ⦃P:Kp⦄ ⦃m:Loc⦄ ⦃H:Hp⦄ ⦃s:Shared⦄,CkN C g→St C P m H s→∀ K X,wAt e g m H K X →
 ∃ o name p,e = .Attribute o name p∧isName o=true∧wpN (Md C) C.A (eval o C.env) (fun v s'=>∃ z H',VR C.mg v z∧St C P m H' s'∧K name z H') (XP C P m X) s
noncomputable def GOkN (c:Comprehension):Prop:=∀ tgt iter ifs asy,c=⟨tgt,iter,ifs,asy⟩→(∀ ⦃C:Cx⦄ ⦃g:Ge⦄ ⦃P:Kp⦄ ⦃m:Loc⦄ ⦃H:Hp⦄ ⦃s:Shared⦄,CkN C g→St C P m H s→∀ (tgt':Expr) K E,wG c g m H K →
  asy=0∧(∀ x,foldedSetIterable iter C.env x=pure x)∧wpN (Md C) C.A (eval iter C.env) (fun x s1=>wpAny (Md C) C.A (pyIter x) (GQ C P m tgt' K) E s1) E s)∧∀ t∈ifs,EOkN t
noncomputable def GsOkN:List Comprehension→Prop
 | []=>True
 | c::_=>GOkN c
noncomputable def ItOkN (e:Expr):Prop:=∀ g m H K,wIt e g m H K→∃ f args pos,e = .Call f args [] pos∧noStar args=true∧LOkN args∧wL args g m H K (fun _ _=>False)
noncomputable def EsOkN (es:List Expr):Prop:=∀ t∈es,EOkN t
theorem EsOkN.cons {e:Expr} {r:List Expr} (h1:EOkN e) (h2:EsOkN r):EsOkN (e::r):=fun t h=>by
 rcases List.mem_cons.mp h with h | h
 ·rw [h];exact h1
 ·exact h2 t h
theorem bothN {e:Expr} (A:∀ ⦃C:Cx⦄ ⦃g:Ge⦄ ⦃P:Kp⦄ ⦃m:Loc⦄ ⦃H:Hp⦄ ⦃s:Shared⦄,CkN C g→St C P m H s→∀ Q X,wE e g m H Q X→wpN (Md C) C.A (eval e C.env) (Res C P m Q) (XP C P m X) s)
  (he:∀ env,isTrue e env (eval e env)=(do let v ← eval e env;standAt e.pos;holding [v] (truthy v))):EOkN e:=by
 intro C g P m H s K S
 refine ⟨A K S,fun Q X h=>?_⟩
 refine nTrue_plain (nMono (A K S _ X h) (fun v s' h'=>?_) fun _ _ x=>x) (he _)
 obtain ⟨z,H',hv,S',h2⟩:_:=h'
 exact nMono (nOf (truthy_ok S' hv h2)) (fun b s'' h3=>⟨H',h3.1,h3.2⟩) fun _ _ x=>x
theorem noStar_plain (env:Env) (pos:Pos):∀ (es:List Expr),noStar es=true→(backTo pos (starEach es env)).any (·.1)=false:=by
 intro es
 induction es with
 | nil=>intro _;rfl
 | cons e r ih =>
  intro h
  have h1:(notStar e&&noStar r)=true:=h
  have h2:=ih (Bool.and_eq_true_iff.mp h1).2
  have h3:=(Bool.and_eq_true_iff.mp h1).1
  clear h h1 ih
  cases e<;>first | exact h2 | contradiction
theorem star_one {e:Expr} {r:List Expr} {env:Env} (h:notStar e=true):starEach (e::r) env=(false,eval e env)::starEach r env:=by
 cases e<;>first | rfl | contradiction
theorem evalArgs_okN (K:CkN C g) (S:St C P m H s) {args:List Expr} (L:LOkN args) (hp:noStar args=true) {f:Value} {pos:Pos} {Q:List V→Hp→Prop} {X:XE} (h:wL args g m H Q X) :
  wpN (Md C) C.A (evalArgs f true (backTo pos (starEach args C.env)) []) (fun a s'=>a.kw=[]∧∃ xs H',VRs C.mg a.pos xs∧St C P m H' s'∧Q xs H') (XP C P m X) s:=by
 revert K S L hp h
 k_call_by "e" [C,g,P,m,H,s,args,f,pos,Q,X]
 cases args with
 | nil=>exact nArgs_none ⟨rfl,[],H,.nil,S,h⟩
 | cons e r =>
  have hl:=L K S pos Q X h
  have e1:backTo pos (starEach (e::r) C.env)=(false,eval e C.env)::backTo pos (starEach r C.env):=congrArg (backTo pos) (star_one (r:=r) (env:=C.env) (Bool.and_eq_true_iff.mp (show (notStar e&&noStar r)=true from hp)).1)
  rw [e1] at hl ⊢
  exact nArgs_plain (nMono hl (fun vs s' h'=>⟨rfl,h'⟩) fun _ _ x=>x)
noncomputable def stepQ (op:BoolOp) (b:Bool) (A B:Prop):Prop:=match op,b with
 | .And,false | .Or,true=>A
 | _,_=>B
theorem step_once (op:BoolOp) (W:Prop) (Q:Bool→Hp→Prop) (v:V) (H1:Hp) :
  (truthyV v H1 fun b=>stepQ op b (Q b H1) W)=truthyV v H1 fun b=>(match op with
    | .And=>if b then W else truthyV v H1 fun b=>Q b H1
    | .Or=>if b then truthyV v H1 fun b=>Q b H1 else W):=by
 unfold truthyV
 cases q:tv v H1 with
 | none=>rfl
 | some b=>cases op<;>cases b<;>rfl
theorem St.ref_dict (S:St C P m H s) {a:Addr} {o:O} (q:H a=some o) (ho:∀ x xs,o≠.ilist x xs) (hr:∀ x,o≠.raw x):∃ ob,s.heap.get? a=some ob∧ob.dict=none∧(∀ xs,o = .list xs→s.TypeIs (.ref a) "list")∧(∀ b,o = .barr b→s.TypeIs (.ref a) "bytearray"):=by
 cases o with
 | list xs=>obtain ⟨_,vs,n,h1,_⟩:_:=S.plist q;exact ⟨_,h1,rfl,fun _ _=>⟨_,h1,rfl⟩,fun _ e=>by cases e⟩
 | barr b=>obtain ⟨_,h1⟩:_:=S.barr q;exact ⟨_,h1,rfl,fun _ e=>(by cases e),fun _ _=>⟨_,h1,rfl⟩⟩
 | tuple xs=>obtain ⟨_,vs,n,h1,_⟩:_:=S.tuple q;exact ⟨_,h1,rfl,fun _ e=>(by cases e),fun _ e=>(by cases e)⟩
 | ilist x xs=>exact absurd rfl (ho x xs)
 | raw x=>exact absurd rfl (hr x)
theorem ite_some {α:Type} {c:Prop} [Decidable c] {x k:α} {y:Option α} (h:(if c then some x else y)=some k):c∧x=k∨y=some k :=
 if e:c then .inl ⟨e,Option.some.inj (by rwa [if_pos e] at h)⟩ else .inr (by rwa [if_neg e] at h)
theorem method_of_okN (K:CkN C g) (S:St C P m H s) {name:Str} {o:Value} {z:V} {pos:Pos} {args:List Expr} {k:Mk} {Q:V→Hp→Prop} {X:XE} (hv:VR C.mg o z) (L:LOkN args) (hst:noStar args=true)
  (hk:recv name z H=some k) (h:wL args g m H (fun vs H2=>methop k z vs H2 Q) X):MethodN C.prog C.w C.A name pos o (backTo pos (starEach args C.env)) (Res C P m Q) (XP C P m X) s:=by
 obtain u0:=()
 obtain u1:=()
 revert K S hv L hst hk h
 k_call_by "e" [C,g,P,m,H,s,name,o,z,pos,args,k,Q,X,u0,u1]
 cases z with
 | ref a =>
  obtain rfl:=hv
  have go:∀ id,(∀ (vs:List Value) (xs:List V) (H':Hp) (s':Shared),VRs C.mg vs xs→St C P m H' s'→methop k (.ref a) xs H' Q→wpN (Md C) C.A (call (.builtin id) (.ref a::vs)) (Res C P m Q) (XP C P m X) s') →
    wpN (Md C) C.A (callWith pos (.builtin id) [.ref a] (backTo pos (starEach args C.env)) []) (Res C P m Q) (XP C P m X) s:=fun id f =>
   nWith_builtin (noStar_plain _ _ args hst) (nMono (evalArgs_okN K S L hst h) (fun x s' h'=>by
    obtain ⟨ps,kw⟩:_:=x
    obtain ⟨rfl,xs,H',hvs,S',h2⟩:_:=h'
    exact f ps xs H' s' hvs S' h2) fun _ _ x=>x)
  clear h L hst K
  have hk:rcO name (H a)=some k:=hk
  cases q:H a with
  | none=>rw [q] at hk;contradiction
  | some ob =>
   rw [q] at hk
   cases ob with
   | list xs =>
    obtain ⟨ob,h1,h2,h3,_⟩:_:=S.ref_dict q (fun _ _ e=>by cases e) (fun _ e=>by cases e)
    have hd:∀ b,Value.ref a = .ref b→∃ ob,s.heap.get? b=some ob∧ob.dict=none:=fun b e=>by cases e;exact ⟨ob,h1,h2⟩
    clear S q
    rcases ite_some hk with ⟨rfl,rfl⟩ | hk
    ·refine ⟨"list","list.append",PySem.F.plainAttrs_list,slot_list_append,PySem.F.type_list_append,h3 _ rfl,hd,go _ fun vs ys H' s' hvs S' h2=>?_⟩
     obtain ⟨zs,q',h2⟩:_:=oE_e h2
     obtain ⟨v,x,rfl,hx,h2⟩:_:=l1_v hvs h2
     exact nOf (meth_append S' (oL_e q') hx h2.1 h2.2)
    rcases ite_some hk with ⟨rfl,rfl⟩ | hk
    ·refine ⟨"list","list.insert",PySem.F.plainAttrs_list,PySem.F.slot_list_insert,PySem.F.type_list_insert,h3 _ rfl,hd,go _ fun vs ys H' s' hvs S' h2=>?_⟩
     obtain ⟨zs,q',h2⟩:_:=oE_e h2
     obtain ⟨u,w,x,y,rfl,hu,hx,h2⟩:_:=l2_v hvs h2
     obtain ⟨i,t,rfl,h2⟩:_:=iI_v hu h2
     obtain ⟨hi,h2⟩:_:=gd_e h2
     obtain rfl:=eq_of_beq hi
     exact nOf (meth_insert S' (oL_e q') hx h2.1 h2.2)
    rcases ite_some hk with ⟨rfl,rfl⟩ | hk
    ·refine ⟨"list","list.extend",PySem.F.plainAttrs_list,PySem.F.slot_list_extend,PySem.F.type_list_extend,h3 _ rfl,hd,go _ fun vs ys H' s' hvs S' h2=>?_⟩
     obtain ⟨zs,q',h2⟩:_:=oE_e h2
     obtain ⟨v,x,rfl,hx,h2⟩:_:=l1_v hvs h2
     obtain ⟨b,rfl,h2⟩:_:=iR_v hx h2
     obtain ⟨ys,q2,h2⟩:_:=oE_e h2
     exact nOf (meth_extend S' (oL_e q') (oL_e q2) h2.1 h2.2)
    ·contradiction
   | barr xs =>
    obtain ⟨ob,h1,h2,_,h3⟩:_:=S.ref_dict q (fun _ _ e=>by cases e) (fun _ e=>by cases e)
    have hd:∀ b,Value.ref a = .ref b→∃ ob,s.heap.get? b=some ob∧ob.dict=none:=fun b e=>by cases e;exact ⟨ob,h1,h2⟩
    clear S q
    rcases ite_some hk with ⟨rfl,rfl⟩ | hk
    ·refine ⟨"bytearray","bytearray.append",FX.plainAttrs_bytearray,FX.slot_bytearray_append,FX.type_bytearray_append,h3 _ rfl,hd,go _ fun vs ys H' s' hvs S' h2=>?_⟩
     obtain ⟨zs,q',h2⟩:_:=oE_e h2
     obtain ⟨v,x,rfl,hx,h2⟩:_:=l1_v hvs h2
     obtain ⟨i,t,rfl,h2⟩:_:=iI_v hx h2
     exact meth_bappendN S' (oBa_e q') h2.1.1 h2.1.2.1 h2.1.2.2 h2.2
    ·contradiction
   | _=>contradiction
 | _=>contradiction
noncomputable def itPost (k:ItKind) (K:List It→Hp→Hp→Prop) (vs:List V) (H1:Hp):Prop:=match k with
 | .range=>rangeV vs fun its=>K its noH H1
 | .enum=>enumV vs H1 fun its Hs=>K its Hs H1
 | .plain=>False
theorem itKind_e {f:Expr} {k:ItKind} (h:itKind g f=k) (hp:k≠.plain):∃ x p j n,f = .Name x p∧nmc x=some j∧g.kinds.lookup j=some .globalImplicit∧g.globs.lookup j=some (.ty n)∧itT (n == "range") (n == "enumerate")=k:=by
 revert h hp
 k_call_by "e" [g,f,k]
 unfold itKind at h
 cases q:nmX f with
 | none=>rw [q] at h;exact absurd h.symm hp
 | some x =>
  obtain ⟨p,e⟩:=nmX_e q
  rw [q] at h
  have h:itK (nmc x) (fun k=>itV (g.kinds.lookup k) (g.globs.lookup k))=k:=h
  cases q1:nmc x with
  | none=>rw [q1] at h;exact absurd h.symm hp
  | some j =>
   rw [q1] at h
   have h:itV (g.kinds.lookup j) (g.globs.lookup j)=k:=h
   refine ⟨x,p,j,?_⟩
   revert h
   generalize g.kinds.lookup j=a,g.globs.lookup j=b
   intro h
   obtain _ | a:=a
   ·exact absurd h.symm hp
   cases a<;>try exact absurd h.symm hp
   obtain _ | b:=b
   ·exact absurd h.symm hp
   cases b<;>try exact absurd h.symm hp
   exact ⟨_,e,q1,rfl,rfl,h⟩
theorem nameR_g {x:Str} {k:Nat} {v:V} (hk:nmc x=some k) (e1:g.kinds.lookup k=some .globalImplicit) (e2:g.globs.lookup k=some v):nameR g x m=some v:=by
 unfold nameR;rw [hk];show kdV _ _ _=_;rw [e1,e2];rfl
theorem it_call (K:CkN C g) (S:St C P m H s) {f:Expr} {args:List Expr} {pos:Pos} (hst:noStar args=true) (L:LOkN args) {k:ItKind} (hk:itKind g f=k) {tgt:Expr} {Kp:List It→Hp→Hp→Prop} {E:Value→Shared→Prop}
  (h:wL args g m H (itPost k Kp) (fun _ _=>False)) (hp:k≠.plain):wpN (Md C) C.A (eval (.Call f args [] pos) C.env) (fun x s1=>wpAny (Md C) C.A (pyIter x) (GQ C P m tgt Kp) E s1) E s:=by
 obtain ⟨x,p,j,n,rfl,hj,e1,e2,hk⟩:=itKind_e hk hp
 have go:wpN (Md C) C.A (eval (.Name x p) C.env) (Res C P m fun v H'=>v = .ty n∧H'=H) (XP C P m fun _ _=>False) s :=
  nOf (name_ok K.base S (oE_i (nameR_g (g:=g.bare) hj e1 e2) ⟨rfl,rfl⟩))
 show wpN _ _ (do callWith pos (← eval (.Name x p) C.env) [] (backTo pos (starEach args C.env)) (backToKw pos (keywordEach [] C.env))) _ _ _
 refine nBind (nMono go (fun v s1 h1=>?_) fun _ _ x=>xp_false x)
 obtain ⟨_,_,hv,S1,rfl,rfl⟩:_:=h1
 obtain rfl:=hv
 refine nWith_type (noStar_plain _ _ args hst) (nMono (evalArgs_okN K S1 L hst h) (fun a s2 h2=>?_) fun _ _ x=>xp_false x)
 obtain ⟨ps,kw⟩:_:=a
 obtain ⟨rfl,xs,H',hv,S2,h2⟩:_:=h2
 refine nOf ?_
 cases c:(n == "range") with
 | true=>rw [c] at hk;obtain rfl:=eq_of_beq c;obtain rfl:=hk;exact range_ok S2 hv h2
 | false =>
  rw [c] at hk
  cases c:(n == "enumerate") with
  | true=>rw [c] at hk;obtain rfl:=eq_of_beq c;obtain rfl:=hk;exact enum_ok S2 hv h2
  | false=>rw [c] at hk;exact absurd hk.symm hp
theorem gokN {tgt iter:Expr} {ifs:List Expr} {asy:Int} (hi:EOkN iter) (hit:ItOkN iter) (hifs:EsOkN ifs):GOkN ⟨tgt,iter,ifs,asy⟩:=fun _ _ _ _ e=>by
 cases e
 refine ⟨fun C g P m H s K S tgt' Kp E h=>?_,hifs⟩
 obtain ⟨ha,h⟩:_:=gd_e h
 refine ⟨eq_of_beq ha,fun x=>?_,?_⟩
 ·cases iter<;>first | rfl | exact False.elim h
 ·cases q:iterKind g iter with
  | plain =>
   rw [q] at h
   refine nMono ((hi K S).1 _ _ h) (fun v s1 h1=>?_) fun _ _ x=>xp_false x
   obtain ⟨x,H1,hv,S1,h1⟩:_:=h1
   exact pyIter_ok S1 hv h1
  | range =>
   rw [q] at h
   obtain ⟨f,args,pos,rfl,hst,hL,h⟩:_:=hit _ _ _ _ h
   exact it_call K S hst hL q h (by intro h;cases h)
  | enum =>
   rw [q] at h
   obtain ⟨f,args,pos,rfl,hst,hL,h⟩:_:=hit _ _ _ _ h
   exact it_call K S hst hL q h (by intro h;cases h)
theorem CkN.bare (K:CkN C g):CkN C g.bare:=⟨K.base,fun _ _ _ _ _ h=>(by contradiction),fun _ _ h=>(by contradiction)⟩
theorem comp_run {elt:Expr} {c:Comprehension} {more:List Comprehension} {sc:Scope} {pos fpos:Pos} (helt:EOkN elt) (hgs:GOkN c) (K:CkN C g) (S:St C P m H s) {QV:V→Hp→Prop} {X:XE} {use:Option (Value→Sem Unit)} {Q0 E:Value→Shared→Prop}
  (h:wE (.ListComp elt (c::more) sc pos) g m H QV X)
  (fin:∀ D L H' s' mm,St C P m H' s'→P L=none→H' L=none→L∉frsOf C→(∀ v,¬ s'.heap.IsCell L v)→s'.heap.Ns L mm→QV (.ref D) H'→compPost (Md C) C.A E use Q0 (.ref D) L (.ok .next) s') :
  wpN (Md C) C.A (comprehension (.ListComp elt (c::more) sc pos) sc C.env fpos (newList []) false (eval c.iter C.env) use) Q0 E s∧c.is_async=0:=by
 obtain ⟨tgt,iter,ifs,asy⟩:_:=c
 obtain u0:=()
 obtain u1:=()
 obtain u2:=()
 obtain u3:=()
 revert helt hgs K S h fin
 k_call_by "e" [C,g,P,m,H,s,elt,more,sc,pos,fpos,QV,X,use,Q0,E,tgt,iter,ifs,asy,u0,u1,u2,u3]
 obtain ⟨hb,hn,h1⟩:_:=gd_e h
 clear h
 obtain ⟨hg,hm⟩:_:=Bool.and_eq_true_iff.mp hb
 clear hb
 obtain ⟨hf,h2⟩:_:=gd_e h1
 clear h1
 obtain rfl:=List.isEmpty_iff.mp hm
 obtain ⟨g1,g2⟩:_:=hgs tgt iter ifs asy rfl
 obtain ⟨rfl,hfs,g3⟩:_:=g1 K.bare S tgt _ E h2
 refine ⟨nComp rfl hfs (closureFor_ok fun x hx hx2=>?_) (compNames_of hn).1 (fun x hx hx2=>by rw [← hx2];exact ((compNames_of hn).2 x hx).2.1) (nMono g3 (fun x s1 h4=>wpAny_mono h4 (fun it s2 h5=>?_) fun _ _ x=>x) fun _ _ x=>x),rfl⟩
 ·obtain ⟨y,kd⟩:_:=x
  obtain rfl:kd = .free:=hx2
  obtain ⟨_,_,a,_,_,_,ha,_⟩:_:=free_cell K.base S hn hf hx
  exact ⟨a,ha⟩
 ·obtain ⟨I,own,Hs,its,H',Si,rfl,W,hown,hE,h0,S2,hsz,f,hit,hQ⟩:_:=h5
  revert h4 W hown hE h0 S2 hsz hit hQ
  k_call_by "e" [x,s1,s2,I,own,Hs,its,H',Si,f]
  obtain ⟨mc,hmc⟩:_:=S2.ns
  refine comp_loop (RR:=fun acc L r s'=>∃ f,r = .ok f∧compPost (Md C) C.A E use Q0 acc L (.ok f) s') K.base hg S2 helt g2 hn hf W hown hE h0 hsz hit hmc.1 fun D L m' s' hD hL S'=>?_
  obtain ⟨S3,a1,a2,a3,a4,mm,a5⟩:_:=comp_post S2 (fun b hb=>(hown b hb).1) (W.recs _ _ h0) hmc hL S'
  exact ⟨_,rfl,fin D L _ s' mm S3 a1 a2 a3 a4 a5 (hQ D hD)⟩
theorem listcomp_okN {elt:Expr} {gens:List Comprehension} {sc:Scope} {pos:Pos} (helt:EOkN elt) (hgs:GsOkN gens) (K:CkN C g) (S:St C P m H s):∀ Q X,wE (.ListComp elt gens sc pos) g m H Q X →
  wpN (Md C) C.A (eval (.ListComp elt gens sc pos) C.env) (Res C P m Q) (XP C P m X) s:=fun Q X h=>by
 cases gens with
 | nil=>exact False.elim h
 | cons c more =>
  have h2:=comp_run (fpos:=c.iter.pos) (use:=none) (Q0:=Res C P m Q) (E:=XP C P m X) helt hgs K S h fun D L H' s' mm S3 a1 a2 a3 a4 a5 hQ=>⟨mm,a5,fun h' hs'=>⟨.ref D,_,rfl,S3.off (t:=s'.toks) a1 a2 a3 a4 hs'.extBut,hQ⟩⟩
  obtain ⟨tgt,iter,ifs,asy⟩:_:=c
  obtain ⟨h2,rfl⟩:_:=h2
  exact h2
theorem att_base {o:Expr} {name:Str} {env:Env} (h:isName o=true):attributeBase o name env (eval o env)=eval o env:=by
 cases o<;>first | rfl | contradiction
mutual
theorem wE_okN:∀ e:Expr,EOkN e
 | .Constant c k pos=>bothN (fun _ _ _ _ _ _ K S Q X h=>by
   exact nOf (const_ok S h)) fun _=>rfl
 | .Name x pos=>bothN (fun _ _ _ _ _ _ K S Q X h=>by
   exact nOf (name_ok K.base S h)) fun _=>rfl
 | .BinOp l op r pos=>bothN (fun _ _ _ _ _ _ K S Q X h=>by
   refine nBinOp (nMono ((wE_okN l K S).1 _ X h) (fun v s1 h1=>?_) fun _ _ x=>x)
   obtain ⟨a,H1,hv,S1,h1⟩:_:=h1
   refine nMono ((wE_okN r K S1).1 _ X h1) (fun u s2 h2=>?_) fun _ _ x=>x
   obtain ⟨b,H2,hu,S2,h2⟩:_:=h2
   exact nOf (binop_ok S2 hv hu h2)) fun _=>rfl
 | .UnaryOp op x pos=>fun C g P m H s K S=>by
   have A:∀ Q X,wE (.UnaryOp op x pos) g m H Q X→wpN (Md C) C.A (eval (.UnaryOp op x pos) C.env) (Res C P m Q) (XP C P m X) s:=fun Q X h=>by
    refine nUnary (nMono ((wE_okN x K S).1 _ X h) (fun v s1 h1=>?_) fun _ _ x=>x)
    obtain ⟨a,H1,hv,S1,h1⟩:_:=h1
    exact nOf (unop_ok S1 hv h1)
   refine ⟨A,fun Q X h=>?_⟩
   cases op with
   | Not =>
    refine nTrue_not (nMono ((wE_okN x K S).2 (fun b H1=>Q (!b) H1) X ?_) (fun b s1 h1=>h1) fun _ _ x=>x)
    exact h
   | _ =>
    refine nTrue_plain (nMono (A _ X h) (fun v s' h'=>?_) fun _ _ x=>x)
    obtain ⟨z,H',hv,S',h2⟩:_:=h'
    exact nMono (nOf (truthy_ok S' hv h2)) (fun b s'' h3=>⟨H',h3.1,h3.2⟩) fun _ _ x=>x
 | .BoolOp op es pos=>fun C g P m H s K S=>by
   refine ⟨fun Q X h=>?_,fun Q X h=>?_⟩
   ·skip
    exact (wB_okN es K S op).1 pos Q X h
   ·skip
    exact nTrue_BoolOp ((wB_okN es K S op).2 Q X h)
 | .IfExp t a b pos=>fun C g P m H s K S=>by
   refine ⟨fun Q X h=>?_,fun Q X h=>?_⟩
   ·skip
    refine nIfExp (nMono ((wE_okN t K S).2 _ X h) (fun c s1 h1=>?_) fun _ _ x=>x)
    obtain ⟨H1,S1,h1⟩:_:=h1
    cases c with
    | true=>exact (wE_okN a K S1).1 Q X h1
    | false=>exact (wE_okN b K S1).1 Q X h1
   ·skip
    refine nTrue_IfExp (nMono ((wE_okN t K S).2 _ X h) (fun c s1 h1=>?_) fun _ _ x=>x)
    obtain ⟨H1,S1,h1⟩:_:=h1
    cases c with
    | true=>exact (wE_okN a K S1).2 Q X h1
    | false=>exact (wE_okN b K S1).2 Q X h1
 | .Compare l ops rs pos=>fun C g P m H s K S=>by
   refine ⟨fun Q X h=>?_,fun Q X h=>?_⟩
   ·skip
    show wpN _ _ (do compareChain pos (← eval l C.env) ops (markedEach ops rs (evalEach rs C.env))) _ _ _
    obtain ⟨hm,h⟩:=gd_e h
    rw [markedEach_of_false ops rs _ ((Bool.not_eq_true' _).mp hm)]
    refine nBind (nMono ((wE_okN l K S).1 _ X h) (fun v s1 h1=>?_) fun _ _ x=>x)
    obtain ⟨a,H1,hv,S1,h1⟩:_:=h1
    exact (wC_okN rs K S1 v a ops hv).1 pos Q X h1
   ·skip
    show wpN _ _ (do testChain pos (← eval l C.env) ops (markedEach ops rs (evalEach rs C.env))) _ _ _
    obtain ⟨hm,h⟩:=gd_e h
    rw [markedEach_of_false ops rs _ ((Bool.not_eq_true' _).mp hm)]
    refine nBind (nMono ((wE_okN l K S).1 _ X h) (fun v s1 h1=>?_) fun _ _ x=>x)
    obtain ⟨a,H1,hv,S1,h1⟩:_:=h1
    exact (wC_okN rs K S1 v a ops hv).2 pos Q X h1
 | .List es pos=>bothN (fun _ _ _ _ _ _ K S Q X h=>by
   refine nList (nMono (wL_okN es K S pos _ X h) (fun vs s1 h1=>?_) fun _ _ x=>x)
   obtain ⟨xs,H1,hv,S1,h1⟩:_:=h1
   obtain ⟨hz,h1⟩:=gd_e h1
   exact nOf (new_list S1 hv (Nat.le_of_lt (Nat.lt_trans (nB_e hz) (by decide))) h1)) fun _=>rfl
 | .Tuple es k pos=>bothN (fun _ _ _ _ _ _ K S Q X h=>by
   refine nTuple (nMono (wL_okN es K S pos _ X h) (fun vs s1 h1=>?_) fun _ _ x=>x)
   obtain ⟨xs,H1,hv,S1,h1⟩:_:=h1
   obtain ⟨hz,h1⟩:=gd_e h1
   exact nOf (new_tuple S1 hv (Nat.le_of_lt (Nat.lt_trans (nB_e hz) (by decide))) h1)) fun _=>rfl
 | .Subscript o i pos=>bothN (fun C g P m H s K S Q X h=>by
   refine nSubscript (nMono ((wE_okN o K S).1 _ X h) (fun v s1 h1=>?_) fun _ _ x=>x)
   obtain ⟨a,H1,hv,S1,h1⟩:_:=h1
   cases hi:isSlice i with
   | true =>
    simp only [hi] at h1
    refine nMono (wSl_okN i K S1 _ X h1) (fun u s2 h2=>?_) fun _ _ x=>x
    obtain ⟨b,l,u',x,y,H2,rfl,hl,hu,hs,S2,h2⟩:_:=h2
    refine nOf (slice_ok S2 hv hl hu hs (fun o=>?_) h2)
    cases i<;>first | contradiction | skip
    obtain ⟨hst,_⟩:_:=gd_e h1
    obtain rfl:=Option.isNone_iff_eq_none.mp hst
    rfl
   | false =>
    simp only [hi] at h1
    refine nMono ((wE_okN i K S1).1 _ X h1) (fun u s2 h2=>?_) fun _ _ x=>x
    obtain ⟨b,H2,hu,S2,h2⟩:_:=h2
    exact nOf (index_ok S2 hv hu hi h2)) fun _=>rfl
 | .Call f args kws pos=>bothN (fun C g P m H s K S Q X h=>by
   obtain ⟨hb,h1⟩:=gd_e h
   clear h
   obtain ⟨hk,hb1⟩:=Bool.and_eq_true_iff.mp hb
   obtain ⟨hg,hb2⟩:=Bool.and_eq_true_iff.mp hb1
   obtain ⟨hp,hb3⟩:=Bool.and_eq_true_iff.mp hb2
   obtain ⟨hl,hst⟩:=Bool.and_eq_true_iff.mp hb3
   clear hb hb1 hb2 hb3
   obtain rfl:=List.isEmpty_iff.mp hk
   have h:=h1
   clear h1
   cases hi:isAttr f with
   | false =>
    rw [hi] at h
    have e:eval (.Call f args [] pos) C.env=(do callWith pos (← eval f C.env) [] (backTo pos (starEach args C.env)) (backToKw pos (keywordEach [] C.env))):=by
     cases f<;>first | rfl | contradiction
    rw [e]
    refine nBind (nMono ((wE_okN f K S).1 _ X h) (fun v s1 h1=>?_) fun _ _ x=>x)
    obtain ⟨a,H1,hv,S1,h1⟩:_:=h1
    obtain ⟨hc,h1⟩:_:=gd_e h1
    exact callop_okN K S1 hv hg (noStar_plain _ _ args hst) hc (evalArgs_okN K S1 (wL_okN args) hst h1)
   | true =>
    rw [hi] at h
    obtain ⟨o,name,apos,rfl,hn,h1⟩:_:=wAt_okN f K S _ X h
    refine nMethod (att_base hn) ?_ hp (nMono h1 (fun v s1 h1=>?_) fun _ _ x=>x)
    ·rw [show (backTo pos (starEach args C.env)).all (fun x=>!x.1)=true by rw [List.all_eq_not_any_not];simpa using noStar_plain C.env pos args hst]
     exact decide_eq_true (nB_e hl)
    ·obtain ⟨z,H1,hv,S1,h1⟩:_:=h1
     obtain ⟨k,hk,h1⟩:_:=oE_e h1
     exact method_of_okN K S1 hv (wL_okN args) hst hk (gd_e h1).2) fun _=>rfl
 | .Attribute o name pos=>bothN (fun C g P m H s K S Q X h=>by
   obtain ⟨hn,h⟩:=gd_e h
   show wpN _ _ (do
    let ov ← attributeBase o name C.env (eval o C.env)
    standAt pos.atName
    let r ← holding [ov] (getAttr ov name true)
    letTemporaryGo o ov r
    pure r) _ _ _
   rw [att_base hn]
   refine nBind (nMono ((wE_okN o K S).1 _ X h) (fun v s1 h1=>?_) fun _ _ x=>x)
   obtain ⟨z,H1,hv,S1,h1⟩:_:=h1
   obtain ⟨a,e,h2⟩:_:=iR_v hv h1
   clear h1
   subst e
   obtain ⟨j,e,h3⟩:_:=oE_e h2
   obtain ⟨e2,h4⟩:_:=gd_e h3
   clear h2 h3
   obtain rfl:=eq_of_beq e2
   obtain rfl:=nmc_inj e nm_oid_length
   obtain ⟨n,q,h1⟩:_:=oE_e h4
   refine nBind (nStandA (nBind (nHold (nOf (K.base.forms a n q C (.refl C) P m H1 s1 S1 _ _ fun t s2 S2=>?_)))))
   exact nBind (nOf (wpAny_letTemporaryGo (nPure (Res.of (z:=.int n) ⟨t,rfl⟩ S2 h1))))) fun _=>rfl
 | .ListComp elt gens sc pos=>bothN (fun _ _ _ _ _ _ K S Q X h=>listcomp_okN (wE_okN elt) (wGs_okN gens) K S Q X h) fun _=>rfl
 | .NamedExpr ..=>bothN (fun _ _ _ _ _ _ K S Q X h=>False.elim h) fun _=>rfl
 | .Lambda ..=>bothN (fun _ _ _ _ _ _ K S Q X h=>False.elim h) fun _=>rfl
 | .Dict ..=>bothN (fun _ _ _ _ _ _ K S Q X h=>False.elim h) fun _=>rfl
 | .Set ..=>bothN (fun _ _ _ _ _ _ K S Q X h=>False.elim h) fun _=>rfl
 | .SetComp ..=>bothN (fun _ _ _ _ _ _ K S Q X h=>False.elim h) fun _=>rfl
 | .DictComp ..=>bothN (fun _ _ _ _ _ _ K S Q X h=>False.elim h) fun _=>rfl
 | .GeneratorExp ..=>bothN (fun _ _ _ _ _ _ K S Q X h=>False.elim h) fun _=>rfl
 | .Await ..=>bothN (fun _ _ _ _ _ _ K S Q X h=>False.elim h) fun _=>rfl
 | .Yield ..=>bothN (fun _ _ _ _ _ _ K S Q X h=>False.elim h) fun _=>rfl
 | .YieldFrom ..=>bothN (fun _ _ _ _ _ _ K S Q X h=>False.elim h) fun _=>rfl
 | .FormattedValue ..=>bothN (fun _ _ _ _ _ _ K S Q X h=>False.elim h) fun _=>rfl
 | .JoinedStr ..=>bothN (fun _ _ _ _ _ _ K S Q X h=>False.elim h) fun _=>rfl
 | .Starred ..=>bothN (fun _ _ _ _ _ _ K S Q X h=>False.elim h) fun _=>rfl
 | .Slice ..=>bothN (fun _ _ _ _ _ _ K S Q X h=>False.elim h) fun _=>rfl
theorem wEs_okN:∀ es:List Expr,EsOkN es
 | []=>fun _ h=>(by cases h)
 | e::r=>.cons (wE_okN e) (wEs_okN r)
theorem wG_okN:∀ c:Comprehension,GOkN c
 | ⟨_,iter,ifs,_⟩=>gokN (wE_okN iter) (wIt_okN iter) (wEs_okN ifs)
theorem wGs_okN:∀ cs:List Comprehension,GsOkN cs
 | []=>trivial
 | c::_=>wG_okN c
theorem wL_okN:∀ es:List Expr,LOkN es
 | []=>fun C g P m H s K S pos Q X h=>by
   exact nSpl_nil ⟨[],H,.nil,S,h⟩
 | e::r=>fun C g P m H s K S pos Q X h=>by
   cases hs:notStar e with
   | false=>cases e<;>first | contradiction | exact False.elim h
   | true =>
    rw [star_one hs]
    show wpN _ _ (spliced ((false,eval e C.env)::backTo pos (starEach r C.env))) _ _ _
    refine nSpl_cons (nMono ((wE_okN e K S).1 _ X h) (fun v s1 h1=>?_) fun _ _ x=>x)
    obtain ⟨a,H1,hv,S1,h1⟩:_:=h1
    refine nMono (wL_okN r K S1 pos _ X h1) (fun vs s2 h2=>?_) fun _ _ x=>x
    obtain ⟨xs,H2,hvs,S2,h2⟩:_:=h2
    exact ⟨a::xs,H2,.cons hv hvs,S2,h2⟩
theorem wB_okN:∀ es:List Expr,BOkN es
 | []=>fun _ _ _ _ _ _ K S op=>⟨fun pos Q X h=>False.elim h,fun Q X h=>False.elim h⟩
 | [e]=>fun C g P m H s K S op=>by
   refine ⟨fun pos Q X h=>?_,fun Q X h=>?_⟩
   ·skip
    exact (wE_okN e K S).1 Q X h
   ·skip
    show wpN _ _ (do match op,← isTrue e C.env (eval e C.env) with
     | .And,false=>pure false
     | .Or,true=>pure true
     | _,_=>allTrue op [] C.env) _ _ _
    refine nBind (nMono ((wE_okN e K S).2 Q X h) (fun c s1 h1=>?_) fun _ _ x=>x)
    cases op<;>cases c<;>exact nPure h1
 | e::e2::r=>fun C g P m H s K S op=>by
   refine ⟨fun pos Q X h=>?_,fun Q X h=>?_⟩
   ·skip
    show wpN _ _ (do
     let v ← eval e C.env
     standAt pos
     let t ← holding [v] (truthy v)
     match op,t with
     | .And,false | .Or,true=>pure v
     | _,_=>boolOp pos op (evalEach (e2::r) C.env)) _ _ _
    refine nBind (nMono ((wE_okN e K S).1 _ X h) (fun v s1 h1=>?_) fun _ _ x=>x)
    obtain ⟨a,H1,hv,S1,h1⟩:_:=h1
    refine nBind (nStandA (nBind (nHold (nMono (nOf (truthy_ok S1 hv h1)) (fun c s2 h2=>?_) fun _ _ x=>x))))
    obtain ⟨S2,h2⟩:_:=h2
    cases op<;>cases c
    ·exact nPure ⟨a,H1,hv,S2,h2⟩
    ·exact ((wB_okN (e2::r) K S2 _).1 pos Q X h2)
    ·exact ((wB_okN (e2::r) K S2 _).1 pos Q X h2)
    ·exact nPure ⟨a,H1,hv,S2,h2⟩
   ·skip
    show wpN _ _ (do match op,← isTrue e C.env (eval e C.env) with
     | .And,false=>pure false
     | .Or,true=>pure true
     | _,_=>allTrue op (e2::r) C.env) _ _ _
    refine nBind (nMono ((wE_okN e K S).2 (fun b H1=>stepQ op b (Q b H1) (wB (e2::r) op g m H1 (fun v H1=>truthyV v H1 fun b=>Q b H1) X)) X ?_) (fun c s1 h1=>?_) fun _ _ x=>x)
    ·simp only [step_once]
     exact h
    ·obtain ⟨H1,S1,h1⟩:_:=h1
     cases op<;>cases c
     ·exact nPure ⟨H1,S1,h1⟩
     ·exact ((wB_okN (e2::r) K S1 _).2 Q X h1)
     ·exact ((wB_okN (e2::r) K S1 _).2 Q X h1)
     ·exact nPure ⟨H1,S1,h1⟩
theorem wC_okN:∀ es:List Expr,COkN es
 | []=>fun _ _ _ _ _ _ K S v a ops hv=>⟨fun pos Q X h=>False.elim h,fun pos Q X h=>False.elim h⟩
 | [e]=>fun C g P m H s K S v a ops hv=>by
   cases ops with
   | nil=>exact ⟨fun pos Q X h=>False.elim h,fun pos Q X h=>False.elim h⟩
   | cons op ops' =>
    cases ops' with
    | cons op2 ops2=>exact ⟨fun pos Q X h=>False.elim h,fun pos Q X h=>False.elim h⟩
    | nil =>
     refine ⟨fun pos Q X h=>?_,fun pos Q X h=>?_⟩
     ·skip
      have h:wE e g m H (fun b H1=>cmpop op a b H1 fun c=>Q (.bool c) H1) X:=h
      refine nChain_last (nMono ((wE_okN e K S).1 _ X h) (fun u s1 h1=>?_) fun _ _ x=>x)
      obtain ⟨b,H1,hu,S1,h1⟩:_:=h1
      refine nMono (nOf (cmp_ok S1 K.base.units hv hu h1)) (fun r s2 h2=>?_) fun _ _ x=>x
      obtain ⟨c,rfl,S2,h2⟩:_:=h2
      exact Res.of (z:=.bool c) rfl S2 h2
     ·skip
      have h:wE e g m H (fun b H1=>cmpop op a b H1 fun c=>truthyV (.bool c) H1 fun b=>Q b H1) X:=h
      refine nTest_last (nMono ((wE_okN e K S).1 _ X h) (fun u s1 h1=>?_) fun _ _ x=>x)
      obtain ⟨b,H1,hu,S1,h1⟩:_:=h1
      refine nMono (nOf (cmp_ok S1 K.base.units hv hu h1)) (fun r s2 h2=>?_) fun _ _ x=>x
      obtain ⟨c,rfl,S2,h2⟩:_:=h2
      exact nOf (wpAny_truthy_bool ⟨H1,S2,h2⟩)
 | e::e2::r=>fun C g P m H s K S v a ops hv=>by
   cases ops with
   | nil=>exact ⟨fun pos Q X h=>False.elim h,fun pos Q X h=>False.elim h⟩
   | cons op ops' =>
    cases ops' with
    | nil=>exact ⟨fun pos Q X h=>False.elim h,fun pos Q X h=>False.elim h⟩
    | cons op2 ops2 =>
     refine ⟨fun pos Q X h=>?_,fun pos Q X h=>?_⟩
     ·skip
      have h:wE e g m H (fun b H1=>cmpop op a b H1 fun c=>if c then wC (e2::r) b (op2::ops2) g m H1 Q X else Q (.bool false) H1) X:=h
      refine nChain_link (nMono ((wE_okN e K S).1 _ X h) (fun u s1 h1=>?_) fun _ _ x=>x)
      obtain ⟨b,H1,hu,S1,h1⟩:_:=h1
      refine nMono (nOf (cmp_ok S1 K.base.units hv hu h1)) (fun r s2 h2=>?_) fun _ _ x=>x
      obtain ⟨c,rfl,S2,h2⟩:_:=h2
      refine nOf (wpAny_truthy_bool ?_)
      cases c with
      | true=>exact (wC_okN (e2::_) K S2 u b _ hu).1 pos Q X h2
      | false=>exact Res.of (z:=.bool false) rfl S2 h2
     ·skip
      have h:wE e g m H (fun b H1=>cmpop op a b H1 fun c=>if c then wC (e2::r) b (op2::ops2) g m H1 (fun v H1=>truthyV v H1 fun b=>Q b H1) X else truthyV (.bool false) H1 fun b=>Q b H1) X:=h
      refine nTest_link (nMono ((wE_okN e K S).1 _ X h) (fun u s1 h1=>?_) fun _ _ x=>x)
      obtain ⟨b,H1,hu,S1,h1⟩:_:=h1
      refine nMono (nOf (cmp_ok S1 K.base.units hv hu h1)) (fun r s2 h2=>?_) fun _ _ x=>x
      obtain ⟨c,rfl,S2,h2⟩:_:=h2
      refine nOf (wpAny_truthy_bool ?_)
      cases c with
      | true=>exact (wC_okN (e2::_) K S2 u b _ hu).2 pos Q X h2
      | false=>exact ⟨H1,S2,h2⟩
theorem wO_okN:∀ o:Option Expr,OOkN o
 | none=>fun C g P m H s K S Q X h=>by
   exact nPure ⟨.none,H,rfl,S,h⟩
 | some e=>fun C g P m H s K S Q X h=>by
   exact (wE_okN e K S).1 Q X h
theorem wIt_okN:∀ e:Expr,ItOkN e
 | .Call f args kws p=>fun g m H K h=>by
   obtain ⟨hb,h1⟩:_:=gd_e h
   clear h
   obtain ⟨hk,hb1⟩:_:=Bool.and_eq_true_iff.mp hb
   clear hb
   obtain rfl:=List.isEmpty_iff.mp hk
   exact ⟨f,args,p,rfl,(Bool.and_eq_true_iff.mp hb1).2,wL_okN args,h1⟩
 | .Constant ..=>fun g m H K h=>False.elim h
 | .Name ..=>fun g m H K h=>False.elim h
 | .BinOp ..=>fun g m H K h=>False.elim h
 | .UnaryOp ..=>fun g m H K h=>False.elim h
 | .BoolOp ..=>fun g m H K h=>False.elim h
 | .IfExp ..=>fun g m H K h=>False.elim h
 | .Compare ..=>fun g m H K h=>False.elim h
 | .List ..=>fun g m H K h=>False.elim h
 | .Tuple ..=>fun g m H K h=>False.elim h
 | .Subscript ..=>fun g m H K h=>False.elim h
 | .Slice ..=>fun g m H K h=>False.elim h
 | .Attribute ..=>fun g m H K h=>False.elim h
 | .ListComp ..=>fun g m H K h=>False.elim h
 | .NamedExpr ..=>fun g m H K h=>False.elim h
 | .Lambda ..=>fun g m H K h=>False.elim h
 | .Dict ..=>fun g m H K h=>False.elim h
 | .Set ..=>fun g m H K h=>False.elim h
 | .SetComp ..=>fun g m H K h=>False.elim h
 | .DictComp ..=>fun g m H K h=>False.elim h
 | .GeneratorExp ..=>fun g m H K h=>False.elim h
 | .Await ..=>fun g m H K h=>False.elim h
 | .Yield ..=>fun g m H K h=>False.elim h
 | .YieldFrom ..=>fun g m H K h=>False.elim h
 | .FormattedValue ..=>fun g m H K h=>False.elim h
 | .JoinedStr ..=>fun g m H K h=>False.elim h
 | .Starred ..=>fun g m H K h=>False.elim h
theorem wAt_okN:∀ e:Expr,AtOkN e
 | .Attribute o name p=>fun C g P m H s K S Kp X h=>by
   exact ⟨o,name,p,rfl,(gd_e h).1,(wE_okN o K S).1 _ X (gd_e h).2⟩
 | .Constant ..=>fun _ _ _ _ _ _ K S Kp X h=>False.elim h
 | .Name ..=>fun _ _ _ _ _ _ K S Kp X h=>False.elim h
 | .BinOp ..=>fun _ _ _ _ _ _ K S Kp X h=>False.elim h
 | .UnaryOp ..=>fun _ _ _ _ _ _ K S Kp X h=>False.elim h
 | .BoolOp ..=>fun _ _ _ _ _ _ K S Kp X h=>False.elim h
 | .IfExp ..=>fun _ _ _ _ _ _ K S Kp X h=>False.elim h
 | .Compare ..=>fun _ _ _ _ _ _ K S Kp X h=>False.elim h
 | .List ..=>fun _ _ _ _ _ _ K S Kp X h=>False.elim h
 | .Tuple ..=>fun _ _ _ _ _ _ K S Kp X h=>False.elim h
 | .Subscript ..=>fun _ _ _ _ _ _ K S Kp X h=>False.elim h
 | .Call ..=>fun _ _ _ _ _ _ K S Kp X h=>False.elim h
 | .Slice ..=>fun _ _ _ _ _ _ K S Kp X h=>False.elim h
 | .ListComp ..=>fun _ _ _ _ _ _ K S Kp X h=>False.elim h
 | .NamedExpr ..=>fun _ _ _ _ _ _ K S Kp X h=>False.elim h
 | .Lambda ..=>fun _ _ _ _ _ _ K S Kp X h=>False.elim h
 | .Dict ..=>fun _ _ _ _ _ _ K S Kp X h=>False.elim h
 | .Set ..=>fun _ _ _ _ _ _ K S Kp X h=>False.elim h
 | .SetComp ..=>fun _ _ _ _ _ _ K S Kp X h=>False.elim h
 | .DictComp ..=>fun _ _ _ _ _ _ K S Kp X h=>False.elim h
 | .GeneratorExp ..=>fun _ _ _ _ _ _ K S Kp X h=>False.elim h
 | .Await ..=>fun _ _ _ _ _ _ K S Kp X h=>False.elim h
 | .Yield ..=>fun _ _ _ _ _ _ K S Kp X h=>False.elim h
 | .YieldFrom ..=>fun _ _ _ _ _ _ K S Kp X h=>False.elim h
 | .FormattedValue ..=>fun _ _ _ _ _ _ K S Kp X h=>False.elim h
 | .JoinedStr ..=>fun _ _ _ _ _ _ K S Kp X h=>False.elim h
 | .Starred ..=>fun _ _ _ _ _ _ K S Kp X h=>False.elim h
theorem wSl_okN:∀ e:Expr,SlOkN e
 | .Slice lo hi st p=>fun C g P m H s K S Kp X h=>by
   obtain ⟨hst,h1⟩:_:=gd_e h
   clear h
   obtain rfl:=Option.isNone_iff_eq_none.mp hst
   have h:=h1
   clear h1
   refine nSlice (nMono (wO_okN lo K S _ X h) (fun l s1 h1=>?_) fun _ _ x=>x)
   obtain ⟨x,H1,hl,S1,h1⟩:_:=h1
   refine nMono (wO_okN hi K S1 _ X h1) (fun u s2 h2=>?_) fun _ _ x=>x
   obtain ⟨y,H2,hu,S2,h2⟩:_:=h2
   refine nPure ?_
   exact ⟨_,l,u,x,y,H2,rfl,hl,hu,.new _ _ _ _,S2.pushed _ (t:=s2.toks),h2⟩
 | .Constant ..=>fun _ _ _ _ _ _ K S Kp X h=>False.elim h
 | .Name ..=>fun _ _ _ _ _ _ K S Kp X h=>False.elim h
 | .BinOp ..=>fun _ _ _ _ _ _ K S Kp X h=>False.elim h
 | .UnaryOp ..=>fun _ _ _ _ _ _ K S Kp X h=>False.elim h
 | .BoolOp ..=>fun _ _ _ _ _ _ K S Kp X h=>False.elim h
 | .IfExp ..=>fun _ _ _ _ _ _ K S Kp X h=>False.elim h
 | .Compare ..=>fun _ _ _ _ _ _ K S Kp X h=>False.elim h
 | .List ..=>fun _ _ _ _ _ _ K S Kp X h=>False.elim h
 | .Tuple ..=>fun _ _ _ _ _ _ K S Kp X h=>False.elim h
 | .Subscript ..=>fun _ _ _ _ _ _ K S Kp X h=>False.elim h
 | .Call ..=>fun _ _ _ _ _ _ K S Kp X h=>False.elim h
 | .Attribute ..=>fun _ _ _ _ _ _ K S Kp X h=>False.elim h
 | .ListComp ..=>fun _ _ _ _ _ _ K S Kp X h=>False.elim h
 | .NamedExpr ..=>fun _ _ _ _ _ _ K S Kp X h=>False.elim h
 | .Lambda ..=>fun _ _ _ _ _ _ K S Kp X h=>False.elim h
 | .Dict ..=>fun _ _ _ _ _ _ K S Kp X h=>False.elim h
 | .Set ..=>fun _ _ _ _ _ _ K S Kp X h=>False.elim h
 | .SetComp ..=>fun _ _ _ _ _ _ K S Kp X h=>False.elim h
 | .DictComp ..=>fun _ _ _ _ _ _ K S Kp X h=>False.elim h
 | .GeneratorExp ..=>fun _ _ _ _ _ _ K S Kp X h=>False.elim h
 | .Await ..=>fun _ _ _ _ _ _ K S Kp X h=>False.elim h
 | .Yield ..=>fun _ _ _ _ _ _ K S Kp X h=>False.elim h
 | .YieldFrom ..=>fun _ _ _ _ _ _ K S Kp X h=>False.elim h
 | .FormattedValue ..=>fun _ _ _ _ _ _ K S Kp X h=>False.elim h
 | .JoinedStr ..=>fun _ _ _ _ _ _ K S Kp X h=>False.elim h
 | .Starred ..=>fun _ _ _ _ _ _ K S Kp X h=>False.elim h
end
end DL
end
section
set_option genSizeOf false
namespace DL
variable {C:Cx} {g:Ge} {P:Kp} {m:Loc} {H:Hp} {s:Shared}
inductive Fl where
 | next | brk | cont
 | ret (v:V)
noncomputable def FR (mg:MG):Flow→Fl→Prop
 | .next,.next=>True
 | .brk,.brk=>True
 | .cont,.cont=>True
 | .ret v,.ret x=>VR mg v x
 | _,_=>False
noncomputable abbrev QS:=Fl→Loc→Hp→Prop
noncomputable abbrev XSt:=Exn→Loc→Hp→Prop
noncomputable def RF (C:Cx) (P:Kp) (Q:QS):Flow→Shared→Prop:=fun f s'=>∃ fl m' H',FR C.mg f fl∧St C P m' H' s'∧Q fl m' H'
noncomputable def XS (C:Cx) (P:Kp) (X:XSt):Value→Shared→Prop:=fun v s'=>∃ m',XP C P m' (fun xn H'=>X xn m' H') v s'
noncomputable def WXN (C:Cx) (P:Kp) (m:Loc) (H:Hp) (t:Sem Flow) (Q:QS) (X:XSt):Prop:=∀ s,St C P m H s→wpN (Md C) C.A t (RF C P Q) (XS C P X) s
noncomputable abbrev WSN (C:Cx) (P:Kp) (m:Loc) (H:Hp) (ss:List Stmt) (Q:QS) (X:XSt):Prop:=WXN C P m H (execs ss C.env) Q X
noncomputable abbrev W1N (C:Cx) (P:Kp) (m:Loc) (H:Hp) (st:Stmt) (Q:QS) (X:XSt):Prop:=WXN C P m H (exec st C.env) Q X
theorem XS_of {X:XSt} {v:Value} (h:XP C P m (fun xn H'=>X xn m H') v s):XS C P X v s:=⟨m,h⟩
theorem WXN.weak {m':Loc} {t:Sem Flow} {Q:QS} {X:XSt} (hm:SubL m' m) (h:WXN C P m' H t Q X):WXN C P m H t Q X:=fun s S=>h s (S.weak hm (Ext.refl H))
theorem t_nil {Q:QS} {X:XSt} (h:Q .next m H):WSN C P m H [] Q X:=fun s S=>nPure (a:=Flow.next) ⟨.next,m,H,trivial,S,h⟩
noncomputable def seqN (C:Cx) (P:Kp) (rest:List Stmt) (Q:QS) (X:XSt):QS:=fun fl m1 H1=>match fl with
 | .next=>WSN C P m1 H1 rest Q X
 | fl=>Q fl m1 H1
theorem t_cons {st:Stmt} {rest:List Stmt} {Q:QS} {X:XSt} (h:W1N C P m H st (seqN C P rest Q X) X):WSN C P m H (st::rest) Q X:=fun s S=>by
 refine nExecs (nMono (h s S) (fun f s1 h1=>?_) fun _ _ x=>x)
 obtain ⟨fl,m1,H1,hf,S1,h1⟩:_:=h1
 cases f<;>cases fl<;>first | exact hf.elim | skip
 ·exact h1 s1 S1
 ·exact ⟨.brk,m1,H1,trivial,S1,h1⟩
 ·exact ⟨.cont,m1,H1,trivial,S1,h1⟩
 ·exact ⟨.ret _,m1,H1,hf,S1,h1⟩
end DL
end
section
namespace DL
variable {C:Cx} {g:Ge} {P:Kp} {m:Loc} {H:Hp} {s:Shared}
structure Fk (C:Cx):Prop where
 frames:C.A.frames=some C.stk
 stk:∀ e∈C.stk,e.scope.kind≠.module∧∃ L,e.frame=some L∧(L=C.env.locals∨∃ f∈C.fs,f.1=L)
 depth:C.A.depth+C.lv<recursionLimit
 units:C.A.units+16*C.lv+16<cLine
 handled:C.A.handled=none
theorem Fk.like (F:Fk C) {C':Cx} (x:Like C C'):Fk C':=by
 revert F x
 k_call_by "e" [C,C']
 obtain ⟨⟨e,f,w,rfl⟩,h⟩:=x
 exact {
  frames:=F.frames
  stk:=fun e he=>by
   obtain ⟨h1,L,h2,h3⟩:=F.stk e he
   refine ⟨h1,L,h2,?_⟩
   have hL:L∈frsOf C:=by
    unfold frsOf
    rcases h3 with rfl | ⟨f,hf,rfl⟩
    ·exact .head _
    ·exact .tail _ (List.mem_map_of_mem hf)
   have:=h L hL
   unfold frsOf at this
   rcases List.mem_cons.mp this with h | h
   ·exact .inl h
   ·obtain ⟨f,h1,h2⟩:=List.mem_map.mp h
    exact .inr ⟨f,h1,h2⟩
  depth:=F.depth
  units:=F.units
  handled:=F.handled }
theorem Ns_noF {h:Heap} {L:Addr} {mc:Str→Option Value} (x:h.Ns L mc):∃ o,h.get? L=some o∧∀ vs,o.data≠.fields vs :=
 let ⟨o,es,ep,h1,h2,_⟩:=x;⟨o,h1,fun vs q=>by rw [h2] at q;cases q⟩
theorem St.funFrames (S:St C P m H s) {B:Heap} (hB:∀ L,(L=C.env.locals∨∃ f∈C.fs,f.1=L)→B.get? L=none) :
  ∀ (l:List Env),(∀ e∈l,e.scope.kind≠.module∧∃ L,e.frame=some L∧(L=C.env.locals∨∃ f∈C.fs,f.1=L))→s.heap.FunFrames B l
 | [],_=>trivial
 | e::r,hl=>by
  obtain ⟨hk,L,hf,hL⟩:=hl e (.head _)
  refine ⟨hk,?_,S.funFrames hB r fun e he=>hl e (.tail _ he)⟩
  rcases hL with rfl | ⟨f,hf',rfl⟩
  ·obtain ⟨mc,hn,_⟩:=S.ns
   obtain ⟨o,h1,h2⟩:=Ns_noF hn
   exact ⟨_,o,hf,hB _ (.inl rfl),h1,h2⟩
  ·obtain ⟨o,h1,h2⟩:=Ns_noF (S.fs f hf').1
   exact ⟨_,o,hf,hB _ (.inr ⟨f,hf',rfl⟩),h1,h2⟩
theorem St.slid (S:St C P m H s) {h':Heap} (hP:∀ b o,s.heap.get? b=some o→(P b).isSome=true∨(H b).isSome=true→h'.get? b=some o) (hu:s.heap.UpToSlots h'):St C P m H { s with heap:=h' }:=by
 revert S hP hu
 k_call_by "e" [C,P,m,H,s,h']
 have keepC:∀ {c v},s.heap.IsCell c v→h'.IsCell c v:=fun {c v} hc=>by
  obtain ⟨x,h1,h2⟩:=hc
  obtain ⟨sl,hs⟩:=hu c x h1 fun vs q=>by rw [h2] at q;cases q
  exact ⟨_,hs,h2⟩
 exact {
  pbase:=S.pbase
  keep:=fun b o e=>hP b o (S.keep b o e) (.inl (by rw [e];rfl))
  objs:=fun a o e=>by
   obtain ⟨p,ob,h1,h2⟩:=S.objs a o e
   exact ⟨p,ob,hP a ob h1 (.inr (by rw [e];rfl)),h2⟩
  pL:=S.pL
  ns:=let ⟨mc,h1,h2⟩:=S.ns;⟨mc,hu.ns h1,h2⟩
  own:=fun hw x a h1 h2=>let ⟨p,c,h3⟩:=S.own hw x a h1 h2;⟨p,c,keepC h3⟩
  cells:=fun x k v h1 h2 h3=>let ⟨a,u,h4,h5,h6⟩:=S.cells x k v h1 h2 h3;⟨a,u,h4,keepC h5,h6⟩
  fs:=fun f hf=>let ⟨h1,h2⟩:=S.fs f hf;⟨hu.ns h1,h2⟩
  gens:=S.gens
  os:=S.os }
theorem St.ground (S:St C P m H s):Cov P H (hideAll s.heap (frsOf C)) s.heap∧(∀ L,(L=C.env.locals∨∃ f∈C.fs,f.1=L)→(hideAll s.heap (frsOf C)).get? L=none)∧(hideAll s.heap (frsOf C)).StaysIn s.heap :=
 ⟨fun b o e h=>hideAll_get _ e fun hb=>(by
  have:=S.notFrs hb
  rw [this.1,this.2] at h
  rcases h with h | h<;>simp at h),
  fun L hL=>hideAll_none _ (frs_iff.mpr hL),fun b o e=>of_hideAll _ e⟩
theorem St.present (S:St C P m H s) {b:Addr} (hb:(P b).isSome=true∨(H b).isSome=true):∃ o',s.heap.get? b=some o':=by
 rcases hb with hb | hb
 ·obtain ⟨o,e⟩:=Option.isSome_iff_exists.mp hb;exact ⟨o,S.keep b o e⟩
 ·obtain ⟨o,e⟩:=Option.isSome_iff_exists.mp hb
  obtain ⟨_,ob,h1,_⟩:=S.objs b o e;exact ⟨ob,h1⟩
noncomputable def calleeP (C:Cx) (H:Hp) (h:Heap):Kp:=fun b=>if (frsOf C).contains b||(H b).isSome then none else h.get? b
theorem calleeP_some {b:Addr} {h:Heap} {o:Obj} (h1:calleeP C H h b=some o):b∉frsOf C∧H b=none∧h.get? b=some o:=by
 revert h1
 k_call_by "e" [C,H,b,h,o]
 unfold calleeP at h1
 split at h1
 ·cases h1
 ·rename_i hc
  simp only [Bool.or_eq_true,not_or,Bool.not_eq_true,Option.isSome_eq_false_iff,Option.isNone_iff_eq_none] at hc
  exact ⟨fun hm=>(by have:=List.contains_iff_mem.mpr hm;rw [hc.1] at this;cases this),hc.2,h1⟩
theorem calleeP_of {b:Addr} {h:Heap} {o:Obj} (h1:b∉frsOf C) (h2:H b=none) (h3:h.get? b=some o):calleeP C H h b=some o:=by
 unfold calleeP
 have:(frsOf C).contains b=false:=by
  cases q:(frsOf C).contains b with
  | false=>rfl
  | true=>exact absurd (List.contains_iff_mem.mp q) h1
 rw [this,h2];exact h3
theorem calleeP_frs {b:Addr} {h:Heap} (h1:b∈frsOf C):calleeP C H h b=none:=by
 unfold calleeP
 rw [List.contains_iff_mem.mpr h1];rfl
theorem calleeP_H {b:Addr} {h:Heap} {o:O} (h1:H b=some o):calleeP C H h b=none:=by
 unfold calleeP
 rw [h1];simp
noncomputable def calleeC (C:Cx) (mc:Str→Option Value) (env':Env):Cx :=
 { C with A:=C.A.deeper env',env:=env',stk:=env'::C.stk,fs:=(C.env.locals,mc)::C.fs,lv:=C.lv-1,wr:=true }
theorem Fk.callee (F:Fk C) (hl:0<C.lv) {mc:Str→Option Value} {env':Env} (hk:env'.scope.kind = .function) (hf:env'.frame=some env'.locals):Fk (calleeC C mc env') where
 frames:=by show (C.A.deeper env').frames=_;unfold Around.deeper;rw [F.frames];rfl
 stk:=fun e he=>by
  rcases List.mem_cons.mp he with rfl | he
  ·exact ⟨by rw [hk];decide,_,hf,.inl rfl⟩
  ·obtain ⟨h1,L,h2,h3⟩:=F.stk e he
   refine ⟨h1,L,h2,.inr ?_⟩
   rcases h3 with rfl | ⟨f,hf,rfl⟩
   ·exact ⟨_,.head _,rfl⟩
   ·exact ⟨f,.tail _ hf,rfl⟩
 depth:=by have:=F.depth;show C.A.depth+1+(C.lv-1)<_;rw [Nat.add_assoc,Nat.add_comm 1,Nat.sub_add_cancel hl];exact this
 units:=by have:=F.units;show C.A.units+3+16*(C.lv-1)+16<_;refine Nat.lt_of_le_of_lt (Nat.add_le_add_right ?_ _) this;rw [Nat.add_assoc];refine Nat.add_le_add_left ?_ _;rw [Nat.mul_sub,Nat.add_comm];exact Nat.le_trans (Nat.add_le_add_left (by decide:3≤16*1) _) (Nat.le_of_eq (Nat.sub_add_cancel (Nat.mul_le_mul_left 16 hl)))
 handled:=F.handled
theorem St.back (S:St C P m H s) {mc:Str→Option Value} {env':Env} (hmc:s.heap.Ns C.env.locals mc∧∀ x k v,nmc x=some k→m.lookup k=some v→C.env.kindOf x=some .local→∃ u,mc x=some u∧VR C.mg u v)
  {m':Loc} {H':Hp} {s':Shared} (S':St (calleeC C mc env') (calleeP C H s.heap) m' H' s'):St C P m H' s':=by
 revert S hmc S'
 k_call_by "e" [C,P,m,H,s,mc,env',m',H',s']
 have keepC:∀ {c w},s.heap.IsCell c w→s'.heap.IsCell c w:=fun {c w} hc=>by
  obtain ⟨x,h1,h2⟩:=hc
  revert h1 h2
  k_call_by "e" [c,w,x]
  refine ⟨x,S'.keep c x (calleeP_of (fun hm=>?_) ?_ h1),h2⟩
  ·rcases frs_iff.mp hm with rfl | ⟨f,hf,rfl⟩
   ·obtain ⟨ol,es,ep,h3,h4,_⟩:=hmc.1
    rw [h1] at h3;cases h3;rw [h2] at h4;cases h4
   ·obtain ⟨⟨ol,es,ep,h3,h4,_⟩,_⟩:=S.fs f hf
    rw [h1] at h3;cases h3;rw [h2] at h4;cases h4
  ·cases q:H c with
   | none=>rfl
   | some o =>
    obtain ⟨_,ob,h3,h4⟩:=S.objs c o q
    rw [h1] at h3;cases h3;exact absurd h2 (h4.noDict.2 _)
 exact {
  pbase:=S.pbase
  keep:=fun b o e=>S'.keep b o (calleeP_of (fun hm=>by rw [(S.notFrs hm).1] at e;cases e) (by
   cases q:H b with
   | none=>rfl
   | some x=>rw [(S.objs b x q).1] at e;cases e) (S.keep b o e))
  objs:=fun a o e=>by
   obtain ⟨p,ob,h1,h2⟩:=S'.objs a o e
   refine ⟨?_,ob,h1,h2⟩
   cases q:P a with
   | none=>rfl
   | some x =>
    have:=calleeP_of (C:=C) (H:=H) (fun hm=>by rw [(S.notFrs hm).1] at q;cases q) (by
     cases z:H a with
     | none=>rfl
     | some y=>rw [(S.objs a y z).1] at q;cases q) (S.keep a x q)
    rw [this] at p;cases p
  pL:=S.pL
  ns:=⟨mc,(S'.fs _ (.head _)).1,hmc.2⟩
  own:=fun hw x a h1 h2=>let ⟨p,c,h3⟩:=S.own hw x a h1 h2;⟨p,c,keepC h3⟩
  cells:=fun x k v h1 h2 h3=>let ⟨a,u,h4,h5,h6⟩:=S.cells x k v h1 h2 h3;⟨a,u,h4,keepC h5,h6⟩
  fs:=fun f hf=>⟨(S'.fs f (.tail _ hf)).1,(S.fs f hf).2⟩
  gens:=S'.gens
  os:=S'.os }
theorem ExS.leaves (F:Fk C) {mc:Str→Option Value} {env':Env} (hf:env'.frame=some env'.locals) (F':Fk (calleeC C mc env')) {s0:Shared} {m':Loc} {H':Hp} {e:Addr} {cls:Value}
  (S:St C P m H s0) (hmc:s0.heap.Ns C.env.locals mc∧∀ x k v,nmc x=some k→m.lookup k=some v→C.env.kindOf x=some .local→∃ u,mc x=some u∧VR C.mg u v)
  (hx:ExS (calleeC C mc env') (calleeP C H s0.heap) m' H' e cls s) {Q:Unit→Shared→Prop} {E:Value→Shared→Prop} (hQ:∀ h',ExS C P m H' e cls { s with heap:=h' }→Q () { s with heap:=h' }) :
  wpAny (Md C) (C.A.deeper env') (leaving env' (.ref e)) Q E s:=by
 have hfr:(C.A.deeper env').frames=some (env'::C.stk):=F'.frames
 have fin:∀ (B:Heap) (a0:Value) (h₁ h':Heap),St (calleeC C mc env') (calleeP C H s0.heap) m' H' { s with heap:=h₁ }→Cov (calleeP C H s0.heap) H' B h₁→h₁.UpToSlots h'→Heap.FlyingW B C.stk e cls a0 h'→Q () { s with heap:=h' }:=fun B a0 h₁ h' S₁ c hu hfl=>by
  obtain S₂:=S₁.slid (h':=h') (fun b o e hb=>hfl.1 b o (c b o e hb)) hu
  obtain S₃:=S.back hmc S₂
  refine hQ h' (.flying B a0 ?_ hfl S₃)
  refine fun b o e hb=>?_
  have hb':(calleeP C H s0.heap b).isSome=true∨(H' b).isSome=true:=by
   rcases hb with hb | hb
   ·obtain ⟨x,hx⟩:=Option.isSome_iff_exists.mp hb
    refine .inl ?_
    rw [calleeP_of (C:=C) (H:=H) (fun hm=>by rw [(S.notFrs hm).1] at hx;cases hx) (by
     cases z:H b with
     | none=>rfl
     | some y=>rw [(S.objs b y z).1] at hx;cases hx) (S.keep b x hx)]
    rfl
   ·exact .inr hb
  obtain ⟨o',e'⟩:=S₁.present hb'
  obtain h1:=c b o' e' hb'
  obtain h2:=hfl.1 b o' h1
  have e:h'.get? b=some o:=e
  rw [h2] at e;cases e;exact h1
 cases hx with
 | fresh hh ob a0 S₁ k1 k2 k3 k4 k5 =>
  obtain ⟨c,hn,hst⟩:=S₁.ground
  obtain hff:=S₁.funFrames hn (env'::C.stk) F'.stk
  have hen:(hideAll hh (frsOf (calleeC C mc env'))).get? e=none:=by
   cases q:(hideAll hh (frsOf (calleeC C mc env'))).get? e with
   | none=>rfl
   | some o=>have:=of_hideAll _ q;rw [k2] at this;cases this
  refine wpAny_leaving_firstW (a0:=a0) hfr (hff.of_keeps fun b o hb _=>⟨o,k1 b o hb,rfl⟩) hf k3 (fun b o hb=>k1 b o (hst b o hb)) hen k5 rfl rfl fun h' hL=>?_
  obtain ⟨l1,⟨_,_,l2⟩,l3,l4⟩:=hL
  refine fin _ a0 hh h' S₁ c ((Heap.UpToSlots.of_keeps k1).trans l4) ⟨l1,hen,l2,by rw [← k4];exact l3⟩
 | held B a0 c hh S₁ =>
  unfold leaving
  refine wpAny_bind (wpAny_noteFrame_againW hf hh.2.2.2 ?_)
  refine wpAny_landsW hh fun h' hfl hu=>?_
  obtain ⟨k1,k2,⟨_,_,k3⟩,k4⟩:=hfl
  exact fin B a0 s.heap h' S₁ c hu ⟨k1,k2,k3,k4⟩
 | flying B a0 c hfl S₁ =>
  refine wpAny_leaves_onW hfr hf hfl fun h' hfl' hu=>fin B a0 s.heap h' S₁ c hu hfl'
end DL
end
section
namespace DL
variable {C:Cx} {g:Ge} {P:Kp} {m:Loc} {H:Hp} {s:Shared}
theorem bindL_out {kindOf:Str→Option NameKind}:∀ (binds:List (Str×Value)) (m:Str→Option Value) {x:Str},x∉binds.map (·.1)→bindL kindOf binds m x=m x
 | [],_,_,_=>rfl
 | (n,v)::r,m,x,h=>by
  simp only [List.map_cons,List.mem_cons,not_or] at h
  rw [bindL,bindL_out r _ h.2]
  split
  ·exact if_neg h.1
  ·rfl
theorem bindL_in {kindOf:Str→Option NameKind}:∀ (binds:List (Str×Value)) (m:Str→Option Value) {x:Str} {v:Value},(binds.map (·.1)).Nodup→(x,v)∈binds→kindOf x=some .local→bindL kindOf binds m x=some v
 | (n,u)::r,m,x,v,hn,hm,hk=>by
  simp only [List.map_cons,List.nodup_cons] at hn
  rw [bindL]
  rcases List.mem_cons.mp hm with e | e
  ·cases e
   rw [bindL_out r _ hn.1,if_pos hk,if_pos rfl]
  ·exact bindL_in r _ hn.2 e hk
theorem bindC_out {kindOf:Str→Option NameKind}:∀ (binds:List (Str×Value)) (m:Str→Option Value) {x:Str},x∉binds.map (·.1)→bindC kindOf binds m x=m x
 | [],_,_,_=>rfl
 | (n,v)::r,m,x,h=>by
  simp only [List.map_cons,List.mem_cons,not_or] at h
  rw [bindC,bindC_out r _ h.2]
  split
  ·rfl
  ·exact if_neg h.1
theorem bindC_in {kindOf:Str→Option NameKind}:∀ (binds:List (Str×Value)) (m:Str→Option Value) {x:Str} {v:Value},(binds.map (·.1)).Nodup→(x,v)∈binds→kindOf x≠some .local→bindC kindOf binds m x=some v
 | (n,u)::r,m,x,v,hn,hm,hk=>by
  simp only [List.map_cons,List.nodup_cons] at hn
  rw [bindC]
  rcases List.mem_cons.mp hm with e | e
  ·cases e
   rw [bindC_out r _ hn.1,if_neg hk,if_pos rfl]
  ·exact bindC_in r _ hn.2 e hk
noncomputable def codesOf:List Str→Option (List Nat)
 | []=>some []
 | x::r=>match nmc x,codesOf r with
  | some k,some l=>some (k::l)
  | _,_=>none
theorem zip_lookup {mg:MG}:∀ {ps:List Str} {ks:List Nat} {vs:List Value} {xs:List V} {k:Nat} {z:V},codesOf ps=some ks→VRs mg vs xs→(ks.zip xs).lookup k=some z →
  ∃ x v,nmc x=some k∧(x,v)∈ps.zip vs∧VR mg v z
 | [],ks,vs,xs,k,z,hc,_,h=>by cases hc;simp at h
 | p::ps,ks,vs,xs,k,z,hc,hv,h=>by
  simp only [codesOf] at hc
  split at hc
  ·rename_i k0 l e1 e2
   cases hc
   cases hv with
   | nil=>simp at h
   | cons hx hr =>
    rw [List.zip_cons_cons,List.lookup_cons] at h
    by_cases e:k=k0
    ·subst e
     simp at h;subst h
     exact ⟨p,_,e1,by rw [List.zip_cons_cons];exact .head _,hx⟩
    ·have:(k == k0)=false:=by simpa using e
     rw [this] at h
     obtain ⟨x,v,h1,h2,h3⟩:=zip_lookup e2 hr h
     exact ⟨x,v,h1,by rw [List.zip_cons_cons];exact .tail _ h2,h3⟩
  ·cases hc
structure DefAt (C:Cx) (a:Addr) (name:Str) (params:Arguments) (body:List Stmt) (scope:Scope) (cd:Value):Prop where
 obj:∃ o pm doc,C.base a=some o∧o.data = .func (Calls.docDef name params body scope pm cd doc)
 code:∀ h:Heap,(∀ b o,C.base b=some o→h.get? b=some o)→h.CodeRec cd name
 nolimit:∀ h:Heap,(∀ b o,C.base b=some o→h.get? b=some o)→h.NoLimit
structure Plain (params:Arguments) (scope:Scope) (ps:List Str) (ks:List Nat):Prop where
 bind:∀ name body pm cd doc vs,vs.length=ps.length→bindArgs (Calls.docDef name params body scope pm cd doc) ⟨vs,[]⟩=pure (ps.zip vs)
 codes:codesOf ps=some ks
 nodup:ps.Nodup
 kinds:∀ x∈ps,scope.names.lookup x=some .local∨(scope.names.lookup x=some .cell∧∀ L,((cellsFrom L scope.names []).lookup x).isSome=true)
 co:scope.isCoroutine=false
 gen:scope.isGenerator=false
 kind:scope.kind = .function
 cells:∀ x L a,(cellsFrom L scope.names []).lookup x=some a→scope.names.lookup x=some .cell
 cell:∀ x L,scope.names.lookup x=some .cell→∃ a,(cellsFrom L scope.names []).lookup x=some a
theorem codesOf_len:∀ {ps:List Str} {ks:List Nat},codesOf ps=some ks→ks.length=ps.length
 | [],ks,h=>by cases h;rfl
 | p::ps,ks,h=>by
  simp only [codesOf] at h
  split at h
  ·rename_i e;cases h;simp [codesOf_len e]
  ·cases h
end DL
end
section
namespace DL
variable {C:Cx} {g:Ge} {P:Kp} {m:Loc} {H:Hp} {s:Shared}
structure Fk1 (C:Cx):Prop where
 fk:Fk C
 top:∃ outer,C.stk=C.env::outer
 frame:C.env.frame=some C.env.locals
theorem ExS.noted (F:Fk1 C) {e:Addr} {cls:Value} (hx:ExS C P m H e cls s) {Q:Unit→Shared→Prop} {E:Value→Shared→Prop}
  (hQ:∀ s' B a0,Cov P H B s'.heap→Heap.HeldW B C.stk e cls a0 C.env.locals s'.heap→St C P m H s'→Q () s'):wpAny (Md C) C.A (noteFrame (.ref e) C.env) Q E s:=by
 revert F hx hQ
 k_call_by "e" [C,P,m,H,s,e,cls,Q,E]
 obtain ⟨outer,htop⟩:=F.top
 have hfr:C.A.frames=some (C.env::outer):=by rw [F.fk.frames,htop]
 cases hx with
 | fresh hh ob a0 S₁ k1 k2 k3 k4 k5 =>
  obtain ⟨c,hn,hst⟩:=S₁.ground
  have hff:=S₁.funFrames hn C.stk F.fk.stk
  have hen:(hideAll hh (frsOf C)).get? e=none:=by
   cases q:(hideAll hh (frsOf C)).get? e with
   | none=>rfl
   | some o=>have:=of_hideAll _ q;rw [k2] at this;cases this
  rw [htop] at hff
  unfold noteFrame
  simp only [F.frame]
  refine wpAny_bind (wpAny_field k3 k5 (x:=.none) rfl ?_)
  rw [if_neg (by decide)]
  refine wpAny_entryW (a0:=a0) hfr (hff.of_keeps fun b o hb _=>⟨o,k1 b o hb,rfl⟩) F.frame k3 (fun b o hb=>k1 b o (hst b o hb)) hen k5 (by simp) rfl fun h' hN=>?_
  obtain ⟨l1,l2,l3,l4⟩:=hN
  have hs:St C P m H { s with heap:=h' }:=by
   have hu:hh.UpToSlots h':=(Heap.UpToSlots.of_keeps k1).trans l4
   exact S₁.slid (h':=h') (fun b o hb hp=>l1 b o (c b o hb hp)) hu
  refine hQ _ (hideAll hh (frsOf C)) a0 (fun b o hb hp=>?_) ⟨l1,hen,by rw [htop];exact l2,by rw [← k4];exact l3⟩ hs
  obtain ⟨o',e'⟩:=S₁.present hp
  have h1:=c b o' e' hp
  have h2:=l1 b o' h1
  have hb:h'.get? b=some o:=hb
  rw [h2] at hb;cases hb;exact h1
 | held B a0 c hh S₁=>exact wpAny_noteFrame_againW F.frame hh.2.2.2 (hQ _ B a0 c hh S₁)
 | flying B a0 c hfl S₁ =>
  rw [htop] at hfl
  refine wpAny_looks_onW hfr F.frame hfl fun h' hh hu=>?_
  have S₂:=S₁.slid (h':=h') (fun b o hb hp=>hh.1 b o (c b o hb hp)) hu
  refine hQ _ B a0 (fun b o hb hp=>?_) (by rw [htop];exact hh) S₂
  obtain ⟨o',e'⟩:=S₁.present hp
  have h1:=c b o' e' hp
  have h2:=hh.1 b o' h1
  have hb:h'.get? b=some o:=hb
  rw [h2] at hb;cases hb;exact h1
theorem setFlight_heldW {prog:Program} {w:World} {A:Around} {base:Heap} {l:List Env} {e L:Addr} {cls a0:Value} {Q:Unit→Shared→Prop} {E:Value→Shared→Prop} (hh:Heap.HeldW base l e cls a0 L s.heap)
  (h:∀ h',Heap.HeldW base l e cls a0 L h'→s.heap.UpToSlots h'→Q () { s with heap:=h' }):wpAny (model prog w) A (do
  if (← field (.ref e) 1) == .none then unsupported "frame.own-activation:exception-without-traceback"
  setFlight (.ref e) (some L)) Q E s:=by
 revert hh h
 k_call_by "e" [s,prog,w,A,base,l,e,L,cls,a0,Q,E]
 obtain ⟨hkb,hen,hl,oe,vs,T,oT,ts,he,hcls,hd,h1,hnT,hTe,hT,hdT,h3⟩:=hh
 revert he hcls hd h1 hnT hTe hT hdT h3
 k_call_by "e" [oe,vs,T,oT,ts]
 have hsz3:3<ts.size:=(Array.getElem?_eq_some_iff.mp h3).1
 have other:∀ b,b≠T→(s.heap.update T (Obj.mapFields (·.setIfInBounds 3 ((some L:Option Addr).elim Value.none fun f=>rawInt f)))).get? b=s.heap.get? b :=
  fun b hb=>Heap.get?_update_other _ _ (Ne.symm hb)
 have noRecord:∀ b o,s.heap.get? b=some o→(∀ vs,o.data≠.fields vs)→b≠T:=fun b o hb hnf q=>by
  rw [q,hT] at hb;injection hb with hb;subst hb;exact hnf ts hdT
 refine wpAny_bind (wpAny_field he hd h1 ?_)
 rw [if_neg (show ¬ ((Value.ref T == Value.none)=true) from by simp)]
 unfold setFlight
 refine wpAny_bind (wpAny_field he hd h1 ?_)
 rw [if_pos (show (Value.ref T != Value.none)=true from by simp)]
 refine wpAny_setField hT hdT hsz3 (h _ ⟨fun b o hbo=>(other b fun q=>by rw [q,hnT] at hbo;cases hbo).trans (hkb b o hbo),hen,
  hl.of_keeps fun b o hb hnf=>⟨o,(other b (noRecord b o hb hnf)).trans hb,rfl⟩,?_⟩ fun b o hb hnf=>⟨o.slots,(other b (noRecord b o hb hnf)).trans hb⟩)
 exact ⟨oe,vs,T,_,_,(other e (Ne.symm hTe)).trans he,hcls,hd,h1,hnT,hTe,Heap.get?_update_self _ hT (Obj.isFreed_of_fields (Obj.data_mapFields hdT _)),Obj.data_mapFields hdT _,by simp [hsz3]⟩
theorem XS.cameBack (F:Fk1 C) {X:XSt} {v:Value} (h:XS C P X v s):notedBy (Md C) C.A C.env (cameBackBy (Md C) C.A C.env (XS C P X)) v s:=by
 revert F h
 k_call_by "e" [C,P,s,X,v]
 obtain ⟨m',e,cls,xn,H',rfl,hxn,hx,hX⟩:=h
 refine hx.noted F fun s' B a0 c hh S'=>?_
 unfold cameBackBy
 rw [F.frame]
 refine setFlight_heldW hh fun h' hh' hu=>?_
 have S₂:=S'.slid (h':=h') (fun b o hb hp=>hh'.1 b o (c b o hb hp)) hu
 refine ⟨m',e,cls,xn,H',rfl,hxn,.held B a0 (fun b o hb hp=>?_) hh' S₂,hX⟩
 obtain ⟨o',e'⟩:=S'.present hp
 have h1:=c b o' e' hp
 have h2:=hh'.1 b o' h1
 have hb:h'.get? b=some o:=hb
 rw [h2] at hb;cases hb;exact h1
noncomputable def SubB:Loc→Loc→Prop
 | [],_=>True
 | p::r,m'=>m'.lookup p.1=some p.2∧SubB r m'
theorem SubB.sub:∀ {m m':Loc},SubB m m'→SubL m m'
 | [],m',_,k,v,h=>by simp at h
 | (j,u)::r,m',hb,k,v,h=>by
  rw [List.lookup_cons] at h
  cases z:(k == j) with
  | true=>rw [z] at h;have:=eq_of_beq z;subst this;cases h;exact hb.1
  | false=>rw [z] at h;exact hb.2.sub k v h
noncomputable def loopQ (Inv:Nat→Loc→Hp→Prop) (n:Nat) (Q:QS):QS:=fun fl m' H'=>match fl with
 | .brk=>Q .next m' H'
 | .ret v=>Q (.ret v) m' H'
 | _=>∃ n',n'<n∧∃ m0,SubB m0 m'∧Inv n' m0 H'
noncomputable def forQ (Inv:Nat→Loc→Hp→Prop) (k:Nat) (Q:QS):QS:=fun fl m' H'=>match fl with
 | .brk=>Q .next m' H'
 | .ret v=>Q (.ret v) m' H'
 | _=>∃ m0,SubB m0 m'∧Inv (k+1) m0 H'
noncomputable def noX:XSt:=fun _ _ _=>False
noncomputable def tupV (g:Ge) (names:List Expr) (v:V) (H:Hp) (m:Loc) (K:Loc→Prop):Prop:=iR v fun a=>oE (oT (H a)) fun vs=>bindNames g names vs m K
theorem tupV_of {names:List Expr} {v:V} {K:Loc→Prop} (h:tupV g names v H m K):∃ a vs,v = .ref a∧H a=some (.tuple vs)∧bindNames g names vs m K:=by
 obtain ⟨a,e,h⟩:=iR_e h
 obtain ⟨vs,q,h⟩:=oE_e h
 exact ⟨a,vs,e,oT_e q,h⟩
end DL
end
section
namespace DL
variable {C:Cx} {g:Ge} {P:Kp} {m:Loc} {H:Hp} {s:Shared}
noncomputable def bindStrs (g:Ge) (es:List Str) (vs:List V) (m:Loc) (K:Loc→Prop):Prop:=match es with
 | []=>(match vs with
  | []=>K m
  | _::_=>False)
 | x::r=>(match vs with
  | []=>False
  | v::vs=>nmL g x fun k=>bindStrs g r vs ((k,v)::m) K)
theorem strs_ok (K:Ck C g) {Kp:Loc→Prop} {Q:Unit→Shared→Prop} {E:Value→Shared→Prop} (hQ:∀ m' s',Kp m'→St C P m' H s'→Q () s') :
  ∀ {es:List Str} {vs:List V} {us:List Value} {m:Loc} {s:Shared},bindStrs g es vs m Kp→VRs C.mg us vs→St C P m H s→wpAny (Md C) C.A (assignInOrder (es.map fun n=>bindName C.env n) us) Q E s:=by
 intro es
 induction es with
 | nil =>
  intro vs us m s h hv S
  cases hv with
  | nil=>exact wpAny_pure (hQ m s h S)
  | cons _ _=>exact False.elim h
 | cons x r ih =>
  intro vs us m s h hv S
  cases hv with
  | nil=>exact False.elim h
  | cons hx hr =>
   rename_i v z us' vs'
   obtain ⟨k,hk,hl,h1⟩:=nmL_e h
   show wpAny _ _ (do holding us' (bindName C.env x v);assignInOrder (r.map fun n=>bindName C.env n) us') _ _ _
   exact wpAny_bind (wpAny_holding (bindName_ (store_loc K S hk hl hx fun s' S'=>ih h1 hr S')))
theorem VRs.snoc {mg:MG} {vs:List Value} {xs:List V} {v:Value} {x:V} (h:VRs mg vs xs) (hx:VR mg v x):VRs mg (vs++[v]) (xs++[x]):=by
 induction h with
 | nil=>exact .cons hx .nil
 | cons h1 _ ih=>exact .cons h1 ih
theorem VRs.reverse {mg:MG} {vs:List Value} {xs:List V} (h:VRs mg vs xs):VRs mg vs.reverse xs.reverse:=by
 induction h with
 | nil=>exact .nil
 | cons h1 _ ih=>rw [List.reverse_cons,List.reverse_cons];exact ih.snoc h1
noncomputable def swapV (g:Ge) (names:List Str) (v:V) (H:Hp) (m:Loc) (K:Loc→Prop):Prop:=iR v fun a=>oE (oT (H a)) fun vs=>gd (vs.length == names.length) (bindStrs g names.reverse vs.reverse m K)
theorem swapV_of {names:List Str} {v:V} {K:Loc→Prop} (h:swapV g names v H m K):∃ a vs,v = .ref a∧H a=some (.tuple vs)∧vs.length=names.length∧bindStrs g names.reverse vs.reverse m K:=by
 obtain ⟨a,e,h⟩:=iR_e h
 obtain ⟨vs,q,h⟩:=oE_e h
 obtain ⟨hl,h⟩:=gd_e h
 exact ⟨a,vs,e,oT_e q,eq_of_beq hl,h⟩
noncomputable def augI (op:Operator) (a b:Int) (Q:Int→Prop):Prop:=match op with
 | .Add=>Q (a+b)
 | .Sub=>Q (a-b)
 | .Mult=>(a.natAbs<2^64∨b.natAbs<2^64)∧Q (a*b)
 | .LShift=>(0≤b∧b≤1000000∧-BIG<a∧a<BIG)∧Q (a*2^b.toNat)
 | .RShift=>(0≤b∧b≤1000000)∧Q (a/2^b.toNat)
 | _=>False
noncomputable def augV (op:Operator) (x y:V) (H:Hp) (Q:V→Hp→Prop):Prop:=match x with
 | .int a=>iI y fun b=>augI op a b fun i=>Q (.int i) H
 | .ref a=>iB y fun b=>opA op (oE (oL (H a)) fun xs=>xs.length+b.length≤SZ∧Q (.ref a) (upd H a (.list (xs++vInts (toOcts b)))))
 | _=>False
theorem augI_ok (S:St C P m H s) {op:Operator} {a b:Int} {t u:Tok} {K:Int→Prop} {E:Value→Shared→Prop} (h:augI op a b K) :
  wpAny (Md C) C.A (inplaceOp op (.int a t) (.int b u)) (fun v s'=>∃ i,(∃ t',v = .int i t')∧St C P m H s'∧K i) E s:=by
 revert S h
 k_call_by "e" [C,P,m,H,s,op,a,b,t,u,K,E]
 cases op with
 | Add=>exact wpAny_iadd_int ⟨_,⟨_,rfl⟩,S.toks,h⟩
 | Sub=>exact PySem.AutoIntOps.isub_0 ⟨_,⟨_,rfl⟩,S.toks,h⟩
 | Mult =>
  refine PySem.AutoIntOps.imul_0 ⟨_,⟨_,rfl⟩,S.toks,h.2⟩ ?_
  rcases h.1 with q | q
  ·exact IntMulOk.of_left (intBits_le q)
  ·exact IntMulOk.of_right (intBits_le q)
 | LShift =>
  obtain ⟨⟨h1,h2,h3,h4⟩,h5⟩:=h
  refine wpAny_inplaceOp_same (op:=.LShift) (T:="int") (typeIs_int _ _ _) (typeIs_int _ _ _) F.noI_int_lshift F.fills_int_lshift F.slot_int_lshift (call_int_lshift h1 ?_ ⟨_,⟨_,rfl⟩,S.toks,h5⟩)
  have:=big_bits h3 h4
  lia
 | RShift =>
  refine wpAny_inplaceOp_same (op:=.RShift) (T:="int") (typeIs_int _ _ _) (typeIs_int _ _ _) F.noI_int_rshift F.fills_int_rshift F.slot_int_rshift (call_int_rshift h.1.1 ⟨_,⟨_,rfl⟩,S.toks,?_⟩)
  rw [Int.fdiv_eq_ediv_of_nonneg _ (Int.pow_nonneg (by decide))];exact h.2
 | _=>exact False.elim h
theorem iadd_bytes (S:St C P m H s) (hh:C.A.handled=none) {a:Addr} {xs:List V} {b:List UInt8} {t:Tok} {Q:V→Hp→Prop} {E:Value→Shared→Prop} (q:H a=some (.list xs)) (hz:xs.length+b.length≤SZ)
  (h:Q (.ref a) (upd H a (.list (xs++vInts (toOcts b))))):wpAny (Md C) C.A (inplaceOp .Add (.ref a) (.bytes b.toArray t)) (Res C P m Q) E s:=by
 obtain ⟨_,vs,n,h1,hv,hlen⟩:=S.plist q
 refine iadd_list_bytes hh h1 (by rw [hlen,List.size_toArray];exact SZ_line hz) fun h' tk acc' c' hb hat ⟨tl,e1,e2,e3⟩=>?_
 refine Res.of (z:=.ref a) rfl (S.mut (o':=.list (xs++vInts (toOcts b))) (t:=tk) q (fun c hc o e=>hb c o hc e) hat ⟨?_,_,_,rfl,?_⟩) h
 ·rw [List.length_append];unfold vInts toOcts;rw [List.length_map,List.length_map];exact hz
 ·rw [e1]
  refine hv.append (octs_vrs (by rw [e2,List.size_toArray]) fun j v hj=>?_)
  obtain ⟨c,u,e4,e5⟩:=e3 j v hj
  exact ⟨c,u,by simpa using e4,e5⟩
end DL
end
section
namespace DL
variable {C:Cx} {g:Ge} {P:Kp} {m:Loc} {H:Hp} {s:Shared}
theorem Cov.next {B h h':Heap} (c:Cov P H B h) (S:St C P m H { s with heap:=h }) (k:B.StaysIn h'):Cov P H B h':=fun b o hb hp=>by
 obtain ⟨o',e'⟩:=S.present hp
 obtain h1:=c b o' e' hp
 obtain h2:=k b o' h1
 rw [h2] at hb;cases hb;exact h1
theorem St.flown {B:Heap} {l:List Env} {e:Addr} {cls a0:Value} {h':Heap} (S:St C P m H s) (c:Cov P H B s.heap) (hf:Heap.FlyingW B l e cls a0 h') (hu:s.heap.UpToSlots h') :
  St C P m H { s with heap:=h' }∧Cov P H B h':=⟨S.slid (fun b o hb hp=>hf.1 b o (c b o hb hp)) hu,c.next S hf.1⟩
theorem ExS.caught (F:Fk1 C) {e:Addr} {cls:Value} (hx:ExS C P m H e cls s) {Q:Unit→Shared→Prop} {E:Value→Shared→Prop}
  (hQ:∀ s' B a0,Cov P H B s'.heap→Heap.FlyingW B C.stk e cls a0 s'.heap→St C P m H s'→Q () s') :
  wpAny (Md C) C.A (noteFrame (.ref e) C.env) (fun _ s₂=>wpAny (Md C) C.A (setFlight (.ref e) none) Q E s₂) E s:=by
 refine hx.noted F fun s' B a0 c hh S'=>wpAny_landsW hh fun h' hf hu=>?_
 obtain ⟨S2,c2⟩:=S'.flown c hf hu
 exact hQ _ B a0 c2 hf S2
noncomputable abbrev hCx (C:Cx) (e:Addr):Cx:={ C with A:=C.A.mark (some (.ref e)) }
noncomputable def Ge.quiet (g:Ge):Ge:={ g with hd:=false,ba:=false,gam:=fun _=>none,fnv:=fun _=>none,forms:=fun _=>none }
theorem St.inH (S:St C P m H s) {e:Addr}:St (hCx C e) P m H s:=⟨S.pbase,S.keep,S.objs,S.pL,S.ns,S.own,S.cells,S.fs,S.gens,S.os⟩
theorem St.outH {e:Addr} (S:St (hCx C e) P m H s):St C P m H s:=⟨S.pbase,S.keep,S.objs,S.pL,S.ns,S.own,S.cells,S.fs,S.gens,S.os⟩
theorem Ck.inH (K:Ck C g) {e:Addr}:Ck (hCx C e) g.quiet where
 kind:=K.kind
 globals:=K.globals
 builtins:=K.builtins
 handled:=fun h=>by cases h
 units:=K.units
 kinds:=K.kinds
 plain:=K.plain
 globs:=K.globs
 forms:=fun _ _ h=>by cases h
theorem CkN.inH (K:CkN C g) {e:Addr}:CkN (hCx C e) g.quiet:=⟨K.base.inH,fun _ _ _ _ _ h=>(by contradiction),fun _ _ h=>(by contradiction)⟩
theorem Cl1.inH (L:Cl1 C) {e:Addr}:Cl1 (hCx C e):=⟨L.wr,L.apart,L.cell⟩
noncomputable def tryX (C:Cx) (P:Kp) (suite:List Stmt) (Q:QS) (want:Exn):XSt:=fun xn m1 H1=>xn=want∧∀ e,WSN (hCx C e) P m1 H1 suite Q noX
theorem suite_ok {e:Addr} {B:Heap} {cls a0:Value} {b₀:Stmt} {suite:List Stmt} {Q:QS} (c:Cov P H B s.heap) (hf:Heap.FlyingW B C.stk e cls a0 s.heap) (S:St C P m H s) (h:∀ e,WSN (hCx C e) P m H (b₀::suite) Q noX) :
  wpAny (Md C) (C.A.mark (some (.ref e))) (setFlight (.ref e) none) (fun _ s₃=>wpN (Md C) (C.A.mark (some (.ref e))) (execs (b₀::suite) C.env) (RF C P Q) (fun _ _=>False) s₃) (fun _ _=>False) s:=by
 refine lands_againW hf fun h' hf' hu=>?_
 obtain ⟨S2,c2⟩:=S.flown c hf' hu
 refine nMono (h e _ S2.inH) (fun f s3 h3=>?_) fun v s3 h3=>?_
 ·obtain ⟨fl,m3,H3,hfr,S3,h3⟩:=h3
  exact ⟨fl,m3,H3,hfr,S3.outH,h3⟩
 ·obtain ⟨_,_,_,_,_,_,_,_,h⟩:=h3;exact h
theorem handler_assert (K:Ck C g) {e:Addr} {B:Heap} {a0:Value} {x:Str} {k:Nat} {np pos:Pos} {b₀:Stmt} {suite:List Stmt} {rest:List ExceptHandler} {Q:QS} {E:Value→Shared→Prop}
  (hk:nmc x=some k) (hg1:g.kinds.lookup k=some .globalImplicit) (hg2:g.globs.lookup k=some (.ty "AssertionError"))
  (c:Cov P H B s.heap) (hf:Heap.FlyingW B C.stk e (.type "AssertionError") a0 s.heap) (S:St C P m H s) (h:∀ e,WSN (hCx C e) P m H (b₀::suite) Q noX) :
  wpN (Md C) C.A (handleBy (.ref e) C.env (.ExceptHandler (some (.Name x np)) none (b₀::suite) pos::rest)) (RF C P Q) E s:=by
 revert K hk hg1 hg2 c hf S h
 k_call_by "e" [C,g,P,m,H,s,e,B,a0,x,k,np,pos,b₀,suite,rest,Q,E]
 obtain ⟨ob,ho,hc⟩:=hf.there
 obtain ⟨mb,u,h1,h2,h3,h4⟩:=K.globs x k _ hk hg2 s.heap S.base
 obtain rfl:=h3
 have hpl:=K.plain x k _ hk hg1
 have fin:wpAny (Md C) (C.A.mark (some (.ref e))) (excMatches (.ref e) (.type "AssertionError")) (fun b s₂=>b=true∧wpAny (Md C) (C.A.mark (some (.ref e))) (setFlight (.ref e) none) (fun _ s₃=>wpN (Md C) (C.A.mark (some (.ref e))) (execs (b₀::suite) C.env) (RF C P Q) (fun _ _=>False) s₃) (fun _ _=>False) s₂) (fun _ _=>False) s :=
  wpAny_excMatches_type (X:="AssertionError") ⟨ob,ho,hc⟩ F.isExc_AssertionError F.notTuple_AssertionError F.self_AssertionError ⟨rfl,suite_ok c hf S h⟩
 refine nHandle (by intro q;cases q) (Calls.Name_function_global K.kind (K.of_local hk hg1 (by decide)) ?_ hpl.1)
 rcases h4 with h4 | ⟨h4,h5⟩
 ·exact Calls.loadGlobal_global (by rw [K.globals];exact h1) h4 fin
 ·exact Calls.loadGlobal_builtin (by rw [K.globals];exact h1) h4 (by rw [K.builtins];exact h2) h5 fin
theorem s_raise_assert (K:Ck C g) (hg:g.hd=true) {x:Str} {k:Nat} {np pos:Pos} {Q:QS} {X:XSt}
  (hk:nmc x=some k) (hg1:g.kinds.lookup k=some .globalImplicit) (hg2:g.globs.lookup k=some (.ty "AssertionError"))
  (h:X .assertion m H):W1N C P m H (.Raise (some (.Name x np)) none pos) Q X:=fun s S=>nOf (by
 obtain ⟨mb,u,h1,h2,h3,h4⟩:=K.globs x k _ hk hg2 s.heap S.base
 obtain rfl:=h3
 refine Raise_classB (K.handled hg) excClass_AssertionError F.self_AssertionError ?_ fun h' e hn=>?_
 ·obtain hpl:=K.plain x k _ hk hg1
  refine Calls.Name_function_global K.kind (K.of_local hk hg1 (by decide)) ?_ hpl.1
  rcases h4 with h4 | ⟨h4,h5⟩
  ·exact Calls.loadGlobal_global (by rw [K.globals];exact h1) h4 ⟨rfl,rfl⟩
  ·exact Calls.loadGlobal_builtin (by rw [K.globals];exact h1) h4 (by rw [K.builtins];exact h2) h5 ⟨rfl,rfl⟩
 ·obtain ⟨ob,tp,h2,h3,h4⟩:=hn.there
  exact ⟨m,e,_,.assertion,H,rfl,rfl,.fresh s.heap ob tp S hn.keeps hn.new h2 h3 h4,h⟩)
theorem s_raise_assert_f (K:Ck C g) (hg:g.hd=true) {x y txt:Str} {k j n0:Nat} {i:Int} {conv:Int} {np cpos pos jp fp yp kp:Pos} {Q:QS} {X:XSt}
  (hk:nmc x=some k) (hg1:g.kinds.lookup k=some .globalImplicit) (hg2:g.globs.lookup k=some (.ty "AssertionError"))
  (hj:nmc y=some j) (hy:g.kinds.lookup j=some .local) (hm:m.lookup j=some (.int i)) (hi:i.natAbs<2^64) (ht:txt.length≤100)
  (h:X .assertion m H):W1N C P m H (.Raise (some (.Call (.Name x np) [.JoinedStr [.Constant (.str txt) n0 kp,.FormattedValue (.Name y yp) (-1) none fp] jp] [] cpos)) none pos) Q X:=fun s S=>nOf (by
 obtain ⟨mb,u,h1,h2,h3,h4⟩:=K.globs x k _ hk hg2 s.heap S.base
 obtain u90:=()
 obtain u91:=()
 obtain u92:=()
 revert K hg hk hg1 hg2 hj hy hm hi ht h S h1 h2 h3 h4
 k_call_by "e" [C,g,P,m,H,x,y,txt,k,j,n0,i,conv,np,cpos,pos,jp,fp,yp,kp,Q,X,s,mb,u,u90,u91,u92]
 obtain rfl:=h3
 refine wpAny_Raise_call F.excCall_AssertionError F.excRaise_AssertionError (K.handled hg) rfl ?_
 obtain hpl:=K.plain x k _ hk hg1
 have fin:(Value.type "AssertionError" = .type "AssertionError" ∧ wpAny (Md C) C.A (evalArgs (.type "AssertionError") true (backTo cpos (starEach [.JoinedStr [.Constant (.str txt) n0 kp,.FormattedValue (.Name y yp) (-1) none fp] jp] C.env)) [])
   (fun a s₂=>a.kw=[]∧a.pos.length≤sizeLine∧∀ h' e,Heap.MadeExc s₂.heap h' e "AssertionError" a.pos→XS C P X (.ref e) { s₂ with heap:=h' }) (XS C P X) s):=by
  refine ⟨rfl,?_⟩
  have hlog:i.natAbs.log2<64:=by
   by_cases z:i.natAbs=0
   ·rw [z];decide
   ·exact (Nat.log2_lt z).mpr hi
  obtain hlen:=int_text_length_le (k:=64) (by decide) hlog
  have hlen2:(Str.ofString (toString i)).length≤65:=by rw [PySem.ofString_length];exact hlen
  refine Calls.evalArgs_plain (Calls.spliced_cons (wpAny_JoinedStr (pos:=jp) (wpAny_Constant_str ⟨_,_,rfl,?_,?_⟩)))
  ·rw [strLen_append];unfold sizeLine;show 0+txt.length≤_;lia
  obtain ⟨mc,hn,hv⟩:=S.ns
  obtain ⟨v,hu,t,rfl⟩:=hv y j _ hj hm (K.of_local hj hy (by decide))
  obtain hply:=K.plain y j _ hj hy
  refine wpAny_FormattedValue_plain (wpAny_Name (wpAny_loadName_local K.kind (K.of_local hj hy (by decide)) hn hu (wpAny_formatField_int (by exact Nat.lt_trans ‹_› (by decide)) ⟨_,_,rfl,?_,?_⟩)) hply.1)
  ·rw [strLen_append,strLen_append];unfold sizeLine;show 0+txt.length+_≤_;lia
  refine ⟨?_,Calls.spliced_nil ⟨rfl,by unfold sizeLine;simp,fun h' e hn=>?_⟩⟩
  ·rw [strLen_append,strLen_append];unfold sizeLine;show 0+txt.length+_≤_;lia
  ·obtain ⟨tt,h5,_,_⟩:=hn.there
   obtain S':=S.toks (t:=s.toks+1+1+1+1)
   exact ⟨m,e,_,.assertion,H,rfl,rfl,.fresh s.heap _ (.ref tt) S' hn.keeps hn.new h5 rfl rfl,h⟩
 refine Calls.Name_function_global K.kind (K.of_local hk hg1 (by decide)) ?_ hpl.1
 rcases h4 with h4 | ⟨h4,h5⟩
 ·exact Calls.loadGlobal_global (by rw [K.globals];exact h1) h4 fin
 ·exact Calls.loadGlobal_builtin (by rw [K.globals];exact h1) h4 (by rw [K.builtins];exact h2) h5 fin)
end DL
end
section
namespace DL
variable {C:Cx} {g:Ge} {P:Kp} {m:Loc} {H:Hp} {s:Shared}
section
variable {prog:Program} {w:PySem.World} {A:Around} {E:Value→Shared→Prop} {s:Shared} {env:Env}
theorem nAssign_Tuple {elts:List Expr} {k:Nat} {tpos pos:Pos} {value:Expr} {Q:Flow→Shared→Prop}
  (h:wpN (model prog w) A (eval value env) (fun v s₁=>wpAny (model prog w) A (assign (.Tuple elts k tpos) env v) (fun _=>Q .next) E s₁) E s)
  (hs:swapsWithSole [.Tuple elts k tpos] value pos.line env=pure false:=by rfl)
  (hw:swappedStores [.Tuple elts k tpos] value env=pure none:=by rfl) :
  wpN (model prog w) A (exec (.Assign [.Tuple elts k tpos] value pos) env) Q E s:=by
 rw [PyProof.Rows.exec_Assign]
 refine nStand ?_
 rw [hs]
 refine nBind (nPure ?_)
 rw [if_neg (by decide)]
 refine nBind (nMono h (fun v s₁ h₁=>?_) fun _ _ x=>x)
 rw [hw]
 refine nBind (nPure ?_)
 show wpN (model prog w) A (do assignAll v [assign (.Tuple elts k tpos) env];pure .next) Q E s₁
 exact nBind (nOf (wpAny_mono h₁ (fun _ _ x=>nPure x) fun _ _ x=>x))
theorem nAssign_swapped {elts:List Expr} {k:Nat} {tpos pos:Pos} {value:Expr} {names:List Str} {Q:Flow→Shared→Prop}
  (h:wpN (model prog w) A (eval value env) (fun v s₁=>wpAny (model prog w) A (unpackItems v names.length none) (fun items s₂ =>
   wpAny (model prog w) A (assignInOrder (names.reverse.map fun n=>bindName env n) items.reverse) (fun _=>Q .next) E s₂) E s₁) E s)
  (hs:swapsWithSole [.Tuple elts k tpos] value pos.line env=pure false:=by rfl)
  (hw:swappedStores [.Tuple elts k tpos] value env=pure (some names):=by rfl) :
  wpN (model prog w) A (exec (.Assign [.Tuple elts k tpos] value pos) env) Q E s:=by
 rw [PyProof.Rows.exec_Assign]
 refine nStand ?_
 rw [hs]
 refine nBind (nPure ?_)
 rw [if_neg (by decide)]
 refine nBind (nMono h (fun v s₁ h₁=>?_) fun _ _ x=>x)
 rw [hw]
 refine nBind (nPure ?_)
 show wpN (model prog w) A (do rule "assign.swapped-stores";let items ← unpackItems v names.length none;assignInOrder (names.reverse.map fun n=>bindName env n) items.reverse;pure .next) Q E s₁
 exact nBind (nOf (wpAny_rule (nBind (nOf (wpAny_mono h₁ (fun items s₂ h₂=>nBind (nOf (wpAny_mono h₂ (fun _ _ x=>nPure x) fun _ _ x=>x))) fun _ _ x=>x)))))
theorem nAug {x:Str} {pos' pos:Pos} {op:Operator} {value:Expr} {Q:Flow→Shared→Prop}
  (h:wpAny (model prog w) A (loadName env x) (fun old s₁=>wpN (model prog w) A (eval value env) (fun v s₂=>wpAny (model prog w) A (inplaceOp op old v)
   (fun r s₃=>wpAny (model prog w) A (storeName env x r) (fun _=>Q .next) E s₃) E s₂) E s₁) E s) :
  wpN (model prog w) A (exec (.AugAssign (.Name x pos') op value pos) env) Q E s:=by
 rw [exec_AugAssign_Name]
 refine nStand (nBind (nOf (wpAny_mono h (fun old s₁ h₁=>nBind (nHold (nMono h₁ (fun v s₂ h₂=>nStand (nBind (nOperate (nOf (wpAny_mono h₂ (fun r s₃ h₃=>nStand (nBind (nBindName (nOf (wpAny_mono h₃ (fun _ _ q=>nPure q) fun _ _ x=>x))))) fun _ _ x=>x))))) fun _ _ x=>x))) fun _ _ x=>x)))
end
theorem t_assign (K:CkN C g) (L:Cl1 C) {x:Str} {k:Nat} {p pos:Pos} {e:Expr} {Q:QS} {X:XSt} (hx:storeOk g x k)
  (h:wE e g m H (fun v H1=>Q .next ((k,v)::m) H1) (fun xn H1=>X xn m H1))
  (hs:swapsWith e (some (.Name x p)) pos.line C.env=pure false:=by rfl):W1N C P m H (.Assign [.Name x p] e pos) Q X:=fun s S=>by
 refine nAssign (nMono ((wE_okN e K S).1 _ _ h) (fun v s1 h1=>?_) fun _ _ x=>XS_of x) hs
 obtain ⟨z,H1,hv,S1,h1⟩:_:=h1
 exact nOf (store_ok (g:=g.bare) K.base L S1 hx hv fun s' S'=>⟨.next,_,H1,trivial,S',h1⟩)
theorem t_expr (K:CkN C g) {pos:Pos} {e:Expr} {Q:QS} {X:XSt}
  (h:wE e g m H (fun _ H1=>Q .next m H1) (fun xn H1=>X xn m H1))
  (hi:interactive C.env=false:=by rfl) (hs:swapsWith e none pos.line C.env=pure false:=by rfl):W1N C P m H (.Expr e pos) Q X:=fun s S=>by
 refine nExpr (nMono ((wE_okN e K S).1 _ _ h) (fun v s1 h1=>?_) fun _ _ x=>XS_of x) hi hs
 obtain ⟨z,H1,hv,S1,h1⟩:_:=h1
 exact ⟨.next,m,H1,trivial,S1,h1⟩
theorem t_return (K:CkN C g) {pos:Pos} {e:Expr} {Q:QS} {X:XSt}
  (h:wE e g m H (fun v H1=>Q (.ret v) m H1) (fun xn H1=>X xn m H1)):W1N C P m H (.Return (some e) pos) Q X:=fun s S=>by
 refine nReturn (nMono ((wE_okN e K S).1 _ _ h) (fun v s1 h1=>?_) fun _ _ x=>XS_of x)
 obtain ⟨z,H1,hv,S1,h1⟩:_:=h1
 exact ⟨.ret z,m,H1,hv,S1,h1⟩
theorem t_if (K:CkN C g) {pos:Pos} {t:Expr} {body orelse:List Stmt} {Q:QS} {X:XSt}
  (h:wE t g m H (fun v H1=>truthyV v H1 fun b=>if b then WSN C P m H1 body Q X else WSN C P m H1 orelse Q X) (fun xn H1=>X xn m H1)):W1N C P m H (.If t body orelse pos) Q X:=fun s S=>by
 refine nIf (nMono ((wE_okN t K S).2 (fun b H1=>if b then WSN C P m H1 body Q X else WSN C P m H1 orelse Q X) _ h) (fun b s1 h1=>?_) fun _ _ x=>XS_of x)
 obtain ⟨H1,S1,h1⟩:_:=h1
 cases b with
 | true=>exact h1 s1 S1
 | false=>exact h1 s1 S1
theorem t_assert (K:CkN C g) (hh:g.hd=true) {pos:Pos} {t:Expr} {Q:QS} {X:XSt}
  (h:wE t g m H (fun v H1=>truthyV v H1 fun b=>if b then Q .next m H1 else X .assertion m H1) (fun xn H1=>X xn m H1)):W1N C P m H (.Assert t none pos) Q X:=fun s S=>by
 refine nAssert (K.base.handled hh) (nMono ((wE_okN t K S).2 (fun b H1=>if b then Q .next m H1 else X .assertion m H1) _ h) (fun b s1 h1=>?_) fun _ _ x=>XS_of x)
 obtain ⟨H1,S1,h1⟩:_:=h1
 cases b with
 | true=>exact ⟨.next,m,H1,trivial,S1,h1⟩
 | false =>
  intro h' e hn
  obtain ⟨ob,tp,h2,h3,h4⟩:_:=hn.there
  exact ⟨m,e,_,.assertion,H1,rfl,rfl,.fresh s1.heap ob tp S1 hn.keeps hn.new h2 h3 h4,h1⟩
theorem t_while (K:CkN C g) (F:Fk1 C) {test:Expr} {body:List Stmt} {pos:Pos} {Q:QS} {X:XSt} (Inv:Nat→Loc→Hp→Prop) (h0:∃ n m0,SubB m0 m∧Inv n m0 H)
  (step:∀ n m H,Inv n m H→wE test g m H (fun v H1=>truthyV v H1 fun b=>if b=true then WSN C P m H1 body (loopQ Inv n Q) X else Q .next m H1) (fun xn H1=>X xn m H1)) :
  W1N C P m H (.While test body [] pos) Q X:=fun s S=>by
 refine nWhile ?_
 obtain ⟨n0,m0,hm0,hi0⟩:_:=h0
 revert K F step S hm0 hi0
 k_call_by "e" [C,g,P,m,H,test,body,pos,Q,X,Inv,s,n0,m0]
 refine cWhile (fun n s'=>∃ m H,Inv n m H∧St C P m H s') (fun n s' hI=>?_) n0 ⟨m0,H,hi0,S.weak hm0.sub (Ext.refl H)⟩
 obtain ⟨m1,H1,hi,S1⟩:_:=hI
 revert hi S1
 k_call_by "e" [n,s',m1,H1]
 refine nMono ((wE_okN test K S1).2 (fun b H1=>if b=true then WSN C P m1 H1 body (loopQ Inv n Q) X else Q .next m1 H1) _ (step n m1 H1 hi)) (fun b s2 h2=>?_) fun v s2 h2=>XS.cameBack F (XS_of h2)
 obtain ⟨H2,S2,h2⟩:_:=h2
 cases b with
 | false=>exact ⟨.next,m1,H2,trivial,S2,h2⟩
 | true =>
  simp only [if_true] at h2 ⊢
  refine nMono (h2 s2 S2) (fun f s3 h3=>?_) fun v s3 h3=>XS.cameBack F h3
  obtain ⟨fl,m3,H3,hf,S3,h3⟩:_:=h3
  cases f<;>cases fl<;>first | exact hf.elim | skip
  ·obtain ⟨n',hn,m0',hs,hi'⟩:_:=h3
   exact ⟨n',hn,m0',H3,hi',S3.weak hs.sub (Ext.refl H3)⟩
  ·exact ⟨.next,m3,H3,trivial,S3,h3⟩
  ·obtain ⟨n',hn,m0',hs,hi'⟩:_:=h3
   exact ⟨n',hn,m0',H3,hi',S3.weak hs.sub (Ext.refl H3)⟩
  ·exact ⟨.ret _,m3,H3,hf,S3,h3⟩
noncomputable abbrev FI (C:Cx) (g:Ge) (m:Loc) (tgt:Expr) (body:List Stmt) (Q:QS) (its:List It) (Hs H1:Hp):Prop:=∃ Inv:Nat→Loc→Hp→Prop,(∃ m0,SubB m0 m∧Inv 0 m0 H1) ∧
   (∀ k m H,Inv k m H→Ext Hs H) ∧
   (∀ k it m H,its[k]?=some it→Inv k m H→bindIt g.bare tgt it m H fun m'=>∀ P',WSN C P' m' H body (forQ Inv k Q) noX) ∧
   (∀ m H,Inv its.length m H→Q .next m H)
theorem for_tail (K:CkN C g) (hg:g.hd=true) {tgt:Expr} {body:List Stmt} {Q:QS} {X:XSt} {it:Value} {s2:Shared}
  (h4:GQ C P m tgt (FI C g m tgt body Q) it s2) :
  codeN (Md C) C.A (.forLoop tgt it body [] C.env) (fun r s'=>match r with | .ok f=>RF C P Q f s' | .error e=>cameBackBy (Md C) C.A C.env (XS C P X) e s') s2:=by
 revert K hg h4
 k_call_by "e" [C,g,P,m,tgt,body,Q,X,it,s2]
 obtain ⟨I,own,Hs,its,H',Si,rfl,W,hown,hE,h0,S2,Inv,⟨m0,hm0,hi0⟩,hExt,hstep,hend⟩:=h4
 revert W hown hE h0 S2 hm0 hi0 hExt hstep hend
 k_call_by "e" [I,own,Hs,its,H',Si,Inv,m0]
 refine cFor (fun n s'=>∃ k m' H',n+k=its.length+1∧k≤its.length∧Inv k m' H'∧Si k s'.heap∧(∀ b∈own,H' b=none)∧St C P m' H' s') ?_ (its.length+1) ⟨0,m0,H',by exact Nat.add_assoc _ _ _,Nat.zero_le _,hi0,h0,fun b hb=>(hown b hb).2,S2.weak hm0.sub (Ext.refl H')⟩
 rintro n s' ⟨k,m',H'',hk,hkl,hi,hsi,hoH,S'⟩
 revert hk hkl hi hsi hoH S'
 k_call_by "e" [n,s',k,m',H'']
 cases q:its[k]? with
 | none =>
  have hke:k=its.length:=by
   have:=List.getElem?_eq_none_iff.mp q;grind
  subst hke
  refine W.done C P m' H'' s' _ _ rfl rfl rfl (K.base.handled hg) S' (fun b hb=>(hown b hb).1) hoH (hExt _ _ _ hi) hsi fun s'' S4=>?_
  exact ⟨.next,m',H'',trivial,S4,hend m' H'' hi⟩
 | some it =>
  have hlt:k<its.length:=(List.getElem?_eq_some_iff.mp q).1
  have hn0:0<n:=Nat.pos_of_ne_zero fun e=>by rw [e,Nat.zero_add] at hk;exact absurd hlt (Nat.not_lt.mpr (hk▸Nat.le_succ _))
  have hn1:n-1+(k+1)=its.length+1:=by rw [← Nat.add_assoc,Nat.add_right_comm,Nat.sub_add_cancel hn0];exact hk
  have body':∀ m'' s2,(∀ P',WSN C P' m'' H'' body (forQ Inv k Q) noX)→St C P m'' H'' s2→Si (k+1) s2.heap →
    wpN (Md C) C.A (execs body C.env) (fun f s₃=>match f with
      | .next | .cont=>∃ j,j<n∧∃ k m' H',j+k=its.length+1∧k≤its.length∧Inv k m' H'∧Si k s₃.heap∧(∀ b∈own,H' b=none)∧St C P m' H' s₃
      | .brk=>RF C P Q .next s₃
      | .ret v=>RF C P Q (.ret v) s₃) (notedBy (Md C) C.A C.env fun e s'=>cameBackBy (Md C) C.A C.env (XS C P X) e s') s2:=fun m'' s2 hb S3 hsi2=>by
   have rc:=W.recs _ _ hsi2
   have S4:=S3.more hoH rc
   refine nMono (hb _ s2 S4) (fun f s3 h3=>?_) fun v s3 h3=>?_
   ·obtain ⟨fl,m3,H3,hf,S5,h3⟩:=h3
    have S6:St C P m3 H3 s3:=S5.less S3.pbase (addP_sub S3.keep)
    have hs3:Si (k+1) s3.heap:=W.frame _ _ _ hsi2 fun b hb o e=>S5.keep b o (by unfold addP;rw [List.contains_iff_mem.mpr hb];exact e)
    have ho3:∀ b∈own,H3 b=none:=fun b hb=>by
     cases z:H3 b with
     | none=>rfl
     | some o =>
      have:=(S5.objs b o z).1
      obtain ⟨x,_,hx,_⟩:=rc b hb
      unfold addP at this;rw [List.contains_iff_mem.mpr hb,if_pos rfl,hx] at this;cases this
    cases f<;>cases fl<;>first | exact hf.elim | skip
    ·obtain ⟨m0',hs,hi'⟩:=h3
     exact ⟨n-1,Nat.sub_one_lt_of_lt hn0,k+1,m0',H3,hn1,hlt,hi',hs3,ho3,S6.weak hs.sub (Ext.refl H3)⟩
    ·exact ⟨.next,m3,H3,trivial,S6,h3⟩
    ·obtain ⟨m0',hs,hi'⟩:=h3
     exact ⟨n-1,Nat.sub_one_lt_of_lt hn0,k+1,m0',H3,hn1,hlt,hi',hs3,ho3,S6.weak hs.sub (Ext.refl H3)⟩
    ·exact ⟨.ret _,m3,H3,hf,S6,h3⟩
   ·obtain ⟨_,_,_,_,_,_,_,_,h⟩:=h3;exact h.elim
  exact wpAny_mono (W.item C g.bare k it P m' H'' s' _ _ _ rfl rfl rfl K.base hg q S' (fun b hb=>(hown b hb).1) hoH (hExt _ _ _ hi) hsi (hstep k it m' H'' q hi) body') (fun r s₁ h=>by
   cases r with
   | none=>exact h.elim
   | some v=>exact h) fun _ _ x=>x
theorem t_for (K:CkN C g) (hg:g.hd=true) {tgt iter:Expr} {body:List Stmt} {pos:Pos} {Q:QS} {X:XSt}
  (h:wG ⟨tgt,iter,[],0⟩ g.bare m H (FI C g m tgt body Q)) :
  W1N C P m H (.For tgt iter body [] pos) Q X:=fun s S=>by
 obtain ⟨_,hfs,h2⟩:_:=(wG_okN ⟨tgt,iter,[],0⟩ tgt iter [] 0 rfl).1 K.bare S tgt _ (XS C P X) h
 exact nFor (nMono h2 (fun x s1 h3=>nOf (wpAny_mono h3 (fun it s2 h4=>for_tail K hg h4) fun _ _ x=>x)) fun _ _ x=>x) hfs
theorem t_tuple (K:CkN C g) (hg:g.hd=true) {names:List Expr} {k1:Nat} {tpos pos:Pos} {e:Expr} {Q:QS} {X:XSt}
  (h:wE e g m H (fun v H1=>tupV g.bare names v H1 m fun m'=>Q .next m' H1) (fun xn H1=>X xn m H1))
  (hs:swapsWithSole [.Tuple names k1 tpos] e pos.line C.env=pure false:=by rfl) (hw:swappedStores [.Tuple names k1 tpos] e C.env=pure none:=by rfl):W1N C P m H (.Assign [.Tuple names k1 tpos] e pos) Q X:=fun s S=>by
 refine nAssign_Tuple (nMono ((wE_okN e K S).1 _ _ h) (fun v s1 h1=>?_) fun _ _ x=>XS_of x) hs hw
 obtain ⟨z,H1,hv,S1,h1⟩:_:=h1
 obtain ⟨a,vs,rfl,q,h1⟩:_:=tupV_of h1
 obtain rfl:=hv
 obtain ⟨_,us,n,hob,ht,hvs,hlen⟩:_:=S1.tuple q
 exact assign_tuple K.base hg S1 (us:=us) (vs:=vs) ht hvs h1 fun m' s' hm S'=>⟨.next,m',H1,trivial,S',hm⟩
theorem t_swap (K:CkN C g) (hg:g.hd=true) {targets:List Expr} {names:List Str} {k1:Nat} {tpos pos:Pos} {e:Expr} {Q:QS} {X:XSt}
  (h:wE e g m H (fun v H1=>swapV g.bare names v H1 m fun m'=>Q .next m' H1) (fun xn H1=>X xn m H1))
  (hs:swapsWithSole [.Tuple targets k1 tpos] e pos.line C.env=pure false:=by rfl) (hw:swappedStores [.Tuple targets k1 tpos] e C.env=pure (some names):=by rfl):W1N C P m H (.Assign [.Tuple targets k1 tpos] e pos) Q X:=fun s S=>by
 refine nAssign_swapped (names:=names) (nMono ((wE_okN e K S).1 _ _ h) (fun v s1 h1=>?_) fun _ _ x=>XS_of x) hs hw
 obtain ⟨z,H1,hv,S1,h1⟩:_:=h1
 obtain ⟨a,vs,rfl,q,hlen,h1⟩:_:=swapV_of h1
 obtain rfl:=hv
 obtain ⟨_,us,n,hob,ht,hvs,hlen2⟩:_:=S1.tuple q
 rw [show names.length=us.size by rw [← hlen,hlen2]]
 refine wpAny_unpackItems_tuple (K.base.handled hg) ht fun h' hs'=>?_
 exact strs_ok K.base (fun m' s' hm S'=>⟨.next,m',H1,trivial,S',hm⟩) h1 hvs.reverse (S1.fresh_obj (t:=s1.toks) hs')
theorem t_aug (K:CkN C g) (hg:g.hd=true) {x:Str} {k:Nat} {p pos:Pos} {op:Operator} {e:Expr} {Q:QS} {X:XSt} (hk:nmc x=some k) (hl:g.kinds.lookup k=some .local)
  (h:match m.lookup k with
   | some old=>wE e g m H (fun v H1=>augV op old v H1 fun r H2=>Q .next ((k,r)::m) H2) (fun xn H1=>X xn m H1)
   | none=>False):W1N C P m H (.AugAssign (.Name x p) op e pos) Q X:=fun s S=>by
 have hkd:=K.base.of_local hk hl (by decide)
 cases hm:m.lookup k with
 | none=>rw [hm] at h;exact h.elim
 | some old =>
  rw [hm] at h
  obtain ⟨mc,hn,hv⟩:_:=S.ns
  revert K hg hk hl S hkd h hm hn hv
  k_call_by "e" [C,g,P,m,H,x,k,p,pos,op,e,Q,X,s,old,mc]
  obtain ⟨u,hu,hr⟩:_:=hv x k old hk hm hkd
  refine nAug (wpAny_loadName_local K.base.kind hkd hn hu (nMono ((wE_okN e K S).1 _ _ h) (fun v s1 h1=>?_) fun _ _ x=>XS_of x))
  obtain ⟨z,H1,hz,S1,h1⟩:_:=h1
  have fin:∀ (r:Value) (y:V) (H2:Hp) (s2:Shared),VR C.mg r y→St C P m H2 s2→Q .next ((k,y)::m) H2→wpAny (Md C) C.A (storeName C.env x r) (fun _=>RF C P Q .next) (XS C P X) s2:=fun r y H2 s2 hr2 S2 h2 =>
   store_loc K.base S2 hk hl hr2 fun s' S'=>⟨.next,_,H2,trivial,S',h2⟩
  cases old with
  | int i =>
   obtain ⟨t,rfl⟩:_:=hr
   obtain ⟨j,t',rfl,h2⟩:_:=iI_v hz h1
   exact wpAny_mono (augI_ok S1 h2) (fun r s2 ⟨i,h2,S2,h3⟩=>fin r (.int i) H1 s2 h2 S2 h3) fun _ _ x=>x
  | ref a =>
   obtain rfl:=hr
   obtain ⟨b,t',rfl,_,h2⟩:_:=iB_v hz h1
   obtain ⟨rfl,h3⟩:_:=opA_e h2
   obtain ⟨xs,q,h4⟩:_:=oE_e h3
   exact wpAny_mono (iadd_bytes S1 (K.base.handled hg) (oL_e q) h4.1 h4.2) (fun r s2 ⟨y,H2,h2,S2,h3⟩=>fin r y H2 s2 h2 S2 h3) fun _ _ x=>x
  | _=>exact False.elim h1
theorem t_try_assert (K:CkN C g) (F:Fk1 C) {body:List Stmt} {x:Str} {k:Nat} {np hpos pos:Pos} {b₀:Stmt} {suite:List Stmt} {Q:QS} {X:XSt}
  (hk:nmc x=some k) (hg1:g.kinds.lookup k=some .globalImplicit) (hg2:g.globs.lookup k=some (.ty "AssertionError"))
  (h:WSN C P m H body Q (tryX C P (b₀::suite) Q .assertion)) :
  W1N C P m H (.Try body [.ExceptHandler (some (.Name x np)) none (b₀::suite) hpos] [] [] pos) Q X:=fun s S=>by
 refine nTry (nMono (h s S) (fun f s1 h1=>?_) fun v s1 h1=>?_)
 ·obtain ⟨fl,m1,H1,hfr,S1,h1⟩:_:=h1
  cases f<;>cases fl<;>first | exact hfr.elim | skip
  ·exact ⟨.next,m1,H1,trivial,S1,h1⟩
  ·exact ⟨.brk,m1,H1,trivial,S1,h1⟩
  ·exact ⟨.cont,m1,H1,trivial,S1,h1⟩
  ·exact ⟨.ret _,m1,H1,hfr,S1,h1⟩
 ·obtain ⟨m1,e,cls,xn,H1,rfl,hxn,hx,rfl,hw⟩:_:=h1
  obtain rfl:=hxn
  exact hx.caught F fun s' B a0 c hf S'=>handler_assert (g:=g.bare) K.base hk hg1 hg2 c hf S' hw
end DL
end
section
namespace DL
variable {C:Cx} {g:Ge} {P:Kp} {m:Loc} {H:Hp} {s:Shared}
theorem call_ok0N (F:Fk C) (hl:0<C.lv) {a:Addr} {name:Str} {params:Arguments} {body:List Stmt} {scope:Scope} {cd:Value} {ps:List Str} {ks:List Nat}
  (D:DefAt C a name params body scope cd) (Pl:Plain params scope ps ks) {sp:Spec}
  (hb:∀ xs H Q X,sp xs H Q X→xs.length=ps.length∧∀ L mc P',let C':=calleeC C mc (envOfC name scope L a cd)
   Fk C'→Cl1 C'→WSN C' P' (ks.zip xs) H body (fun fl _ H'=>match fl with | .ret v=>Q v H' | .next=>Q .none H' | _=>False) (fun xn _ H'=>X xn H')) :
  ∀ P m H s vs xs Q X,St C P m H s→VRs C.mg vs xs→sp xs H Q X→wpN (Md C) C.A (call (.ref a) vs) (Res C P m Q) (XP C P m X) s:=by
 obtain ⟨o,pm,doc,ho,hd⟩:=D.obj
 intro P m H s vs xs Q X S hv hs
 obtain ⟨hlen,hb⟩:=hb xs H Q X hs
 obtain ⟨mc,hmc⟩:=S.ns
 have hvl:vs.length=ps.length:=by rw [hv.len];exact hlen
 have hpz:(ps.zip vs).map (·.1)=ps:=List.map_fst_zip (by simp [*])
 refine nCall (cCells (binds:=ps.zip vs) (by have:=F.depth;lia) (S.base a o ho) hd (D.nolimit _ S.base) (D.code _ S.base) (Pl.bind _ _ _ _ _ _ hvl)
  (fun x hx=>?_) (fun h₁ tk FR XC=>?_) Pl.co Pl.gen Pl.kind)
 ·have:x.1∈ps:=by rw [← hpz];exact List.mem_map_of_mem hx
  rcases Pl.kinds x.1 this with h | ⟨h,h'⟩
  ·exact .inl h
  ·exact .inr ⟨h,h' _⟩
 have hk':(envOfC name scope s.heap.objs.size a cd).scope.kind = .function:=Pl.kind
 obtain F':=F.callee hl (mc:=mc) (env':=envOfC name scope s.heap.objs.size a cd) hk' rfl
 have kindOf_eq:∀ x,(envOfC name scope s.heap.objs.size a cd).kindOf x=scope.names.lookup x:=fun _=>rfl
 have hnone:∀ b,s.heap.objs.size≤b→s.heap.get? b=none:=fun b hb=>by
  cases q:s.heap.get? b with
  | none=>rfl
  | some o=>exact absurd (Heap.lt_size q) (Nat.not_lt.mpr hb)
 have S':St (calleeC C mc (envOfC name scope s.heap.objs.size a cd)) (calleeP C H s.heap) (ks.zip xs) H { s with heap:=h₁,toks:=tk }:={
  pbase:=fun b o e=>calleeP_of (fun hm=>by have:=S.pbase b o e;rw [(S.notFrs hm).1] at this;cases this) (by
   cases z:H b with
   | none=>rfl
   | some y=>have:=S.pbase b o e;rw [(S.objs b y z).1] at this;cases this) (S.base b o e)
  keep:=fun b o e=>FR.keep b o (calleeP_some e).2.2
  objs:=fun b o e=>by
   obtain ⟨_,ob,h1,h2⟩:=S.objs b o e
   exact ⟨calleeP_H e,ob,FR.keep b ob h1,h2⟩
  pL:=by
   cases z:calleeP C H s.heap s.heap.objs.size with
   | none=>exact z
   | some o=>have:=(calleeP_some z).2.2;rw [hnone _ (Nat.le_refl _)] at this;cases this
  ns:=⟨_,FR.ns,fun x k z hx hz hl=>by
   obtain ⟨y,v,h1,h2,h3⟩:=zip_lookup Pl.codes hv hz
   obtain rfl:=nmc_inj hx h1
   exact ⟨v,bindL_in _ _ (by rw [hpz];exact Pl.nodup) h2 hl,h3⟩⟩
  own:=fun _ x b h1 h2=>by
   obtain hL:=XC.above x b (PySem.mem_of_lookup h1)
   refine ⟨?_,_,XC.cell x b h1⟩
   cases z:calleeP C H s.heap b with
   | none=>rfl
   | some o=>have:=(calleeP_some z).2.2;rw [hnone b (Nat.le_of_lt hL)] at this;cases this
  cells:=fun x k z hx hz hkd=>by
   obtain ⟨y,v,h1,h2,h3⟩:=zip_lookup Pl.codes hv hz
   obtain rfl:=nmc_inj hx h1
   have hm:x∈ps:=(List.of_mem_zip h2).1
   have hc:scope.names.lookup x=some .cell:=by
    rcases hkd with h | h
    ·exact h
    ·rcases Pl.kinds x hm with h' | h'
     ·have h:scope.names.lookup x=some .free:=h
      rw [h'] at h;cases h
     ·exact h'.1
   obtain ⟨b,hb⟩:=Pl.cell x (s.heap.objs.size+1) hc
   refine ⟨b,v,hb,?_,h3⟩
   have:=XC.cell x b hb
   rw [bindC_in _ _ (by rw [hpz];exact Pl.nodup) h2 (by rw [kindOf_eq,hc];simp)] at this
   exact this
  fs:=fun f hf=>by
   rcases List.mem_cons.mp hf with rfl | hf
   ·refine ⟨hmc.1.keeps FR.keep,calleeP_frs (frs_iff.mpr (.inl rfl)),?_⟩
    exact Nat.ne_of_lt hmc.1.lt
   ·obtain ⟨h1,_,_⟩:=S.fs f hf
    exact ⟨h1.keeps FR.keep,calleeP_frs (frs_iff.mpr (.inr ⟨f,hf,rfl⟩)),Nat.ne_of_lt h1.lt⟩
  gens:=S.gens
  os:=S.os }
 have L':Cl1 (calleeC C mc (envOfC name scope s.heap.objs.size a cd)):=⟨rfl,fun x y b h1 h2 hx=>name_of_addr XC.apart (PySem.mem_of_lookup h1) (PySem.mem_of_lookup h2),fun x hx=>Pl.cell x _ hx⟩
 refine nMono (hb s.heap.objs.size mc (calleeP C H s.heap) F' L' _ S') (fun f s1 h1=>?_) fun e s1 h1=>?_
 ·obtain ⟨fl,m1,H1,hf,S1,h1⟩:=h1
  obtain S2:=S.back hmc S1
  cases f<;>cases fl<;>first | exact hf.elim | exact h1.elim | skip
  ·exact ⟨.none,H1,rfl,S2,h1⟩
  ·exact ⟨_,H1,hf,S2,h1⟩
 ·obtain ⟨m1,ea,cls,xn,H1,rfl,hxn,hex,hX⟩:=h1
  exact ExS.leaves F rfl F' S hmc hex fun h' hx'=>⟨ea,cls,xn,H1,rfl,hxn,hx',hX⟩
noncomputable def BodyOkN (C:Cx) (a:Addr) (name:Str) (body:List Stmt) (scope:Scope) (cd:Value) (ks:List Nat) (sp:Spec):Prop :=
 ∀ xs H Q X,sp xs H Q X→xs.length=ks.length∧∀ L mc P',let C':=calleeC C mc (envOfC name scope L a cd)
   Fk C'→Cl1 C'→WSN C' P' (ks.zip xs) H body (fun fl _ H'=>match fl with | .ret v=>Q v H' | .next=>Q .none H' | _=>False) (fun xn _ H'=>X xn H')
theorem call_okN (F:Fk C) (hl:0<C.lv) {a:Addr} {name:Str} {params:Arguments} {body:List Stmt} {scope:Scope} {cd:Value} {ps:List Str} {ks:List Nat}
  (D:DefAt C a name params body scope cd) (Pl:Plain params scope ps ks) {sp:Spec}
  (hb:∀ C0,Like C C0→BodyOkN C0 a name body scope cd ks sp):FnN C (.ref a) sp:=by
 obtain ⟨o,pm,doc,ho,hd⟩:=D.obj
 refine ⟨⟨a,o,_,rfl,hd,ho⟩,fun C0 hC0=>?_⟩
 obtain F:=F.like hC0
 obtain hb:=hb C0 hC0
 obtain ⟨⟨e0,f0,w0,rfl⟩,_⟩:=hC0
 exact call_ok0N (C:={ C with env:=e0,fs:=f0,wr:=w0 }) F hl (params:=params) ⟨D.obj,D.code,D.nolimit⟩ Pl fun xs H Q X h=>let ⟨h1,h2⟩:=hb xs H Q X h;⟨by rw [h1,codesOf_len Pl.codes],h2⟩
end DL
end
namespace DL
noncomputable def fdBody (i:Nat):List Stmt:=match PySem.Challenge.pw_ai0006_01.main.body[i]? with
 | some (.FunctionDef _ _ b _ _ _ _ _ _ _)=>b
 | _=>[]
noncomputable def fdScope (i:Nat):Scope:=match PySem.Challenge.pw_ai0006_01.main.body[i]? with
 | some (.FunctionDef _ _ _ _ _ _ sc _ _ _)=>sc
 | _=>{ kind:=.module,names:=[],isGenerator:=false,isCoroutine:=false,more:=[] }
noncomputable def fdArgs (i:Nat):Arguments:=match PySem.Challenge.pw_ai0006_01.main.body[i]? with
 | some (.FunctionDef _ a _ _ _ _ _ _ _ _)=>a
 | _=>default
noncomputable def fdName (i:Nat):Str:=match PySem.Challenge.pw_ai0006_01.main.body[i]? with
 | some (.FunctionDef n _ _ _ _ _ _ _ _ _)=>n
 | _=>Str.empty
end DL
namespace DL
theorem kd_6:kindsOf (fdScope 6)=[(37,.local),(76,.local),(89,.local),(85,.local),(28,.local),(64,.globalImplicit),(1,.globalImplicit),(78,.globalImplicit)]:=by kernel_rfl
theorem kd_7:kindsOf (fdScope 7)=[(99,.local),(46,.local),(93,.local),(107,.local),(56,.local),(51,.local)]:=by kernel_rfl
theorem kd_8:kindsOf (fdScope 8)=[(87,.local),(106,.local),(97,.local),(56,.local),(32,.local),(49,.globalImplicit)]:=by kernel_rfl
theorem kd_9:kindsOf (fdScope 9)=[(87,.local),(41,.local),(32,.local),(1,.globalImplicit),(0,.globalImplicit)]:=by kernel_rfl
theorem kd_10:kindsOf (fdScope 10)=[(106,.local),(40,.local),(97,.local),(73,.local),(54,.local),(35,.local),(89,.local),(2,.globalImplicit),(58,.globalImplicit),(57,.globalImplicit),(4,.globalImplicit),(34,.globalImplicit),(64,.globalImplicit),(33,.globalImplicit)]:=by kernel_rfl
theorem kd_11:kindsOf (fdScope 11)=[(97,.local),(89,.local),(35,.local),(33,.globalImplicit),(34,.globalImplicit)]:=by kernel_rfl
theorem kd_16:kindsOf (fdScope 16)=[]:=by kernel_rfl
theorem kd_17:kindsOf (fdScope 17)=[(72,.local),(88,.local),(94,.local),(45,.local),(42,.globalImplicit),(101,.globalImplicit),(86,.globalImplicit),(67,.globalImplicit)]:=by kernel_rfl
theorem kd_18:kindsOf (fdScope 18)=[(72,.local),(97,.local),(34,.globalImplicit)]:=by kernel_rfl
theorem kd_19:kindsOf (fdScope 19)=[(69,.local),(72,.local),(62,.local),(79,.local),(64,.globalImplicit),(34,.globalImplicit)]:=by kernel_rfl
theorem kd_20:kindsOf (fdScope 20)=[(36,.local),(61,.local),(72,.local),(45,.local),(96,.local),(62,.local),(64,.globalImplicit)]:=by kernel_rfl
theorem kd_21:kindsOf (fdScope 21)=[(36,.local),(87,.local),(62,.cell),(52,.cell),(64,.globalImplicit),(101,.globalImplicit),(86,.globalImplicit),(49,.globalImplicit)]:=by kernel_rfl
theorem kd_22:kindsOf (fdScope 22)=[(36,.local),(61,.local),(72,.local),(65,.globalImplicit),(80,.globalImplicit),(5,.globalImplicit),(8,.globalImplicit),(2,.globalImplicit)]:=by kernel_rfl
theorem kd_23:kindsOf (fdScope 23)=[(36,.local),(87,.cell),(62,.cell),(90,.local),(64,.globalImplicit),(86,.globalImplicit),(34,.globalImplicit)]:=by kernel_rfl
theorem kd_24:kindsOf (fdScope 24)=[(36,.cell),(61,.cell),(87,.local),(66,.local),(55,.local),(30,.globalImplicit),(14,.globalImplicit)]:=by kernel_rfl
theorem kd_25:kindsOf (fdScope 25)=[(91,.cell),(66,.cell),(55,.cell),(69,.cell),(70,.local),(104,.local),(84,.local),(26,.cell),(30,.globalImplicit),(1,.globalImplicit),(86,.globalImplicit),(58,.globalImplicit),(31,.globalImplicit),(64,.globalImplicit)]:=by kernel_rfl
theorem kd_26:kindsOf (fdScope 26)=[(75,.local),(27,.local),(46,.local),(64,.globalImplicit),(65,.globalImplicit)]:=by kernel_rfl
theorem kd_27:kindsOf (fdScope 27)=[(75,.local),(27,.local),(104,.local),(103,.globalImplicit),(1,.globalImplicit)]:=by kernel_rfl
theorem kd_28:kindsOf (fdScope 28)=[(75,.local),(27,.local),(90,.local),(87,.local),(83,.local),(103,.globalImplicit),(64,.globalImplicit),(21,.globalImplicit)]:=by kernel_rfl
theorem kd_29:kindsOf (fdScope 29)=[(100,.local),(48,.local),(27,.local),(61,.local),(97,.local),(50,.local),(90,.local),(102,.local),(82,.local),(81,.local),(17,.globalImplicit),(7,.globalImplicit),(64,.globalImplicit),(2,.globalImplicit),(6,.globalImplicit)]:=by kernel_rfl
theorem kd_30:kindsOf (fdScope 30)=[(87,.local),(6,.globalImplicit),(1,.globalImplicit)]:=by kernel_rfl
theorem kd_31:kindsOf (fdScope 31)=[(87,.local),(53,.local),(60,.local),(61,.local),(97,.local),(50,.local),(104,.local),(7,.globalImplicit),(23,.globalImplicit),(6,.globalImplicit),(0,.globalImplicit),(64,.globalImplicit),(18,.globalImplicit),(65,.globalImplicit),(8,.globalImplicit),(20,.globalImplicit),(80,.globalImplicit),(2,.globalImplicit)]:=by kernel_rfl
theorem kd_32:kindsOf (fdScope 32)=[(61,.local),(29,.local),(97,.local),(53,.local),(80,.globalImplicit),(1,.globalImplicit)]:=by kernel_rfl
theorem kd_33:kindsOf (fdScope 33)=[(92,.cell),(43,.local),(53,.local),(71,.local),(105,.local),(100,.local),(26,.local),(47,.local),(61,.local),(97,.local),(50,.local),(90,.local),(29,.local),(102,.local),(82,.local),(54,.local),(48,.local),(91,.local),(69,.local),(66,.local),(55,.local),(36,.local),(108,.local),(87,.local),(88,.local),(104,.local),(44,.local),(27,.local),(38,.local),(3,.globalImplicit),(5,.globalImplicit),(86,.globalImplicit),(16,.globalImplicit),(34,.globalImplicit),(15,.globalImplicit),(24,.globalImplicit),(20,.globalImplicit),(2,.globalImplicit),(4,.globalImplicit),(64,.globalImplicit),(65,.globalImplicit),(80,.globalImplicit),(8,.globalImplicit),(9,.globalImplicit),(10,.globalImplicit),(98,.globalImplicit),(49,.globalImplicit),(12,.globalImplicit),(22,.globalImplicit),(23,.globalImplicit),(67,.globalImplicit),(13,.globalImplicit),(58,.globalImplicit),(31,.globalImplicit),(19,.globalImplicit),(11,.globalImplicit),(21,.globalImplicit)]:=by kernel_rfl
end DL
namespace DL
noncomputable def scOk (sc:Scope):Bool:=(sc.kind == .function)&&!sc.isCoroutine&&!sc.isGenerator&&sc.names.all fun x=>goodName x.1&&(sc.names.lookup x.1 == some x.2)
theorem scOk_of {sc:Scope} (h:scOk sc=true):sc.kind = .function∧sc.isCoroutine=false∧sc.isGenerator=false∧∀ x∈sc.names,goodName x.1=true∧sc.names.lookup x.1=some x.2:=by
 unfold scOk at h
 simp only [Bool.and_eq_true,Bool.not_eq_true'] at h
 refine ⟨by cases q:sc.kind<;>first | rfl | (rw [q] at h;cases h.1.1.1),h.1.1.2,h.1.2,fun x hx=>?_⟩
 have:=List.all_eq_true.mp h.2 x hx
 simp only [Bool.and_eq_true] at this
 refine ⟨this.1,?_⟩
 cases q:sc.names.lookup x.1 with
 | none=>rw [q] at this;cases this.2
 | some kd=>rw [q] at this;rw [nk_eq (a:=kd) (b:=x.2) this.2]
theorem cellsFrom_sub:∀ {l:List (Str×NameKind)} {n:Nat} {acc:List (Str×Addr)} {x:Str} {a:Addr},(cellsFrom n l acc).lookup x=some a→acc.lookup x=some a∨(x,NameKind.cell)∈l
 | [],_,_,_,_,h=>.inl h
 | (y,kd)::r,n,acc,x,a,h=>by
  unfold cellsFrom at h
  split at h
  ·rename_i hk
   rcases cellsFrom_sub h with h | h
   ·rw [List.lookup_cons] at h
    cases z:(x == y) with
    | true =>
     obtain e:=eq_of_beq z
     rw [e,nk_eq hk];exact .inr (.head _)
    | false=>rw [z] at h;exact .inl h
   ·exact .inr (.tail _ h)
  ·rcases cellsFrom_sub h with h | h
   ·exact .inl h
   ·exact .inr (.tail _ h)
theorem cellsFrom_acc:∀ {l:List (Str×NameKind)} {n:Nat} {acc:List (Str×Addr)} {x:Str},(acc.lookup x).isSome=true→((cellsFrom n l acc).lookup x).isSome=true
 | [],_,_,_,h=>h
 | (y,kd)::r,n,acc,x,h=>by
  unfold cellsFrom
  split
  ·refine cellsFrom_acc ?_
   rw [List.lookup_cons];split
   ·rfl
   ·exact h
  ·exact cellsFrom_acc h
theorem cellsFrom_has:∀ {l:List (Str×NameKind)} {n:Nat} {acc:List (Str×Addr)} {x:Str},(x,NameKind.cell)∈l→((cellsFrom n l acc).lookup x).isSome=true
 | (y,kd)::r,n,acc,x,hm=>by
  unfold cellsFrom
  rcases List.mem_cons.mp hm with e | e
  ·cases e
   simp only [beq_self_eq_true,if_true]
   refine cellsFrom_acc ?_
   rw [List.lookup_cons];simp
  ·split<;>exact cellsFrom_has e
theorem plain_of {params:Arguments} {sc:Scope} {ps:List Str} {ks:List Nat} (h:scOk sc=true) (hb:∀ name body pm cd doc vs,vs.length=ps.length→bindArgs (Calls.docDef name params body sc pm cd doc) ⟨vs,[]⟩=pure (ps.zip vs))
  (hc:codesOf ps=some ks) (hn:ps.Nodup) (hk:ps.all (fun x=>(x,NameKind.local)∈sc.names∨(x,NameKind.cell)∈sc.names)=true):Plain params sc ps ks:=by
 obtain ⟨h1,h2,h3,h4⟩:=scOk_of h
 exact {
  bind:=hb
  codes:=hc
  nodup:=hn
  kinds:=fun x hx=>by
   have:=List.all_eq_true.mp hk x hx
   rcases of_decide_eq_true this with h | h
   ·exact .inl (h4 _ h).2
   ·exact .inr ⟨(h4 _ h).2,fun L=>cellsFrom_has h⟩
  co:=h2
  gen:=h3
  kind:=h1
  cells:=fun x L a hx=>by
   rcases cellsFrom_sub hx with h | h
   ·simp at h
   ·exact (h4 _ h).2
  cell:=fun x L hx=>Option.isSome_iff_exists.mp (cellsFrom_has (mem_of_lookup' hx)) }
structure World (w:World) (prog:Program) (mg:MG) (base:Kp) (sha:Addr) (fm:Addr→Option Int):Prop where
 ns:∀ h:Heap,(∀ b o,base b=some o→h.get? b=some o)→h.Ns mainGlobals mg
 nsb:∀ h:Heap,(∀ b o,base b=some o→h.get? b=some o)→∃ mb,h.Ns builtinsNs mb∧∀ x:Str,x≠"__name__" → mb x=bootBuiltins x
 nolimit:∀ h:Heap,(∀ b o,base b=some o→h.get? b=some o)→h.NoLimit
 fn:∀ i∈[6,7,8,9,10,11,16,17,18,19,20,21,22,23,24,25,26,27,28,29,30,31,32],∃ a o pm doc cd,mg (fdName i)=some (.ref a)∧base a=some o∧o.data = .func (Calls.docDef (fdName i) (fdArgs i) (fdBody i) (fdScope i) pm cd doc) ∧
  ∀ h:Heap,(∀ b o,base b=some o→h.get? b=some o)→h.CodeRec cd (fdName i)
 free:∀ x∈(["AssertionError","bool","bytearray","bytes","divmod","enumerate","int","isinstance","len","list","max","ord","range","sorted","sum"]:List String),mg (Str.ofString x)=none
 ofs:∃ t,mg (Str.ofString "OFS_DELTA")=some (.int 6 t)
 ref:∃ t,mg (Str.ofString "REF_DELTA")=some (.int 7 t)
 sha1:mg (Str.ofString "SHA1")=some (.ref sha)
 forms:∀ a n,fm a=some n→∀ (A:Around) (s:Shared),(∀ b o,base b=some o→s.heap.get? b=some o)→∀ (Q:Value→Shared→Prop) E,(∀ t tk,Q (.int n t) { s with toks:=tk })→wpAny (model prog w) A (getAttr (.ref a) (Str.ofString "oid_length") true) Q E s
noncomputable def GLs (sha:Addr):List (Str×Nat×V):=[
 (Str.ofString "AssertionError",1,.ty "AssertionError"),
 (Str.ofString "bool",31,.ty "bool"),
 (Str.ofString "bytearray",33,.ty "bytearray"),
 (Str.ofString "bytes",34,.ty "bytes"),
 (Str.ofString "enumerate",49,.ty "enumerate"),
 (Str.ofString "int",57,.ty "int"),
 (Str.ofString "list",65,.ty "list"),
 (Str.ofString "range",86,.ty "range"),
 (Str.ofString "divmod",42,.bi "divmod"),
 (Str.ofString "isinstance",58,.bi "isinstance"),
 (Str.ofString "len",64,.bi "len"),
 (Str.ofString "max",67,.bi "max"),
 (Str.ofString "ord",78,.bi "ord"),
 (Str.ofString "sorted",98,.bi "sorted"),
 (Str.ofString "sum",101,.bi "sum"),
 (Str.ofString "take_msb_bytes_at",103,.gl 103),
 (Str.ofString "bisect_find_sha",30,.gl 30),
 (Str.ofString "_decode_object_header",7,.gl 7),
 (Str.ofString "_decode_delta_base_offset",6,.gl 6),
 (Str.ofString "pack_object_header",80,.gl 80),
 (Str.ofString "_delta_encode_size",8,.gl 8),
 (Str.ofString "_law_kinds",15,.gl 15),
 (Str.ofString "_law_wide",24,.gl 24),
 (Str.ofString "_law_name",16,.gl 16),
 (Str.ofString "_law_turned",22,.gl 22),
 (Str.ofString "_law_row",20,.gl 20),
 (Str.ofString "_law_value",23,.gl 23),
 (Str.ofString "_law_written",25,.gl 25),
 (Str.ofString "_law_key",14,.gl 14),
 (Str.ofString "_law_halved",13,.gl 13),
 (Str.ofString "_law_found",12,.gl 12),
 (Str.ofString "_law_cut",11,.gl 11),
 (Str.ofString "_law_taken",21,.gl 21),
 (Str.ofString "_law_next",17,.gl 17),
 (Str.ofString "_law_back",9,.gl 9),
 (Str.ofString "_law_open",18,.gl 18),
 (Str.ofString "_law_read",19,.gl 19),
 (Str.ofString "_law_barred",10,.gl 10),
 (Str.ofString "OFS_DELTA",2,.int 6),
 (Str.ofString "REF_DELTA",4,.int 7),
 (Str.ofString "SHA1",5,.ref sha)]
noncomputable def GL (sha:Addr):List (Nat×V):=(GLs sha).map (·.2)
noncomputable abbrev Wd (C:Cx) (sha:Addr) (fm:Addr→Option Int):Prop:=World C.w C.prog C.mg C.base sha fm
theorem glsCodes (sha:Addr):∀ e∈GLs sha,nmc e.1=some e.2.1:=fun e he =>
 of_decide_eq_true (List.all_eq_true.mp (show ((GLs sha).all fun e=>decide (nmc e.1=some e.2.1))=true by kernel_rfl) e he)
noncomputable def glOk (mg mb:MG) (x:Str) (v:V):Prop:=∃ u,VR mg u v∧(mg x=some u∨(mg x=none∧mb x=some u))
theorem glsOk {w:PySem.World} {prog:Program} {mg mb:MG} {base:Kp} {sha:Addr} {fm:Addr→Option Int} (W:World w prog mg base sha fm) (hmb:∀ x:Str,x≠"__name__" → mb x=bootBuiltins x):∀ e∈GLs sha,glOk mg mb e.1 e.2.2:=by
 have bt:∀ (x:String) (u:Value) (v:V),x∈(["AssertionError","bool","bytearray","bytes","divmod","enumerate","int","isinstance","len","list","max","ord","range","sorted","sum"]:List String)→Str.ofString x≠"__name__" → bootBuiltins (Str.ofString x)=some u→VR mg u v→glOk mg mb (Str.ofString x) v :=
  fun x u v h1 h2 h3 h4=>⟨u,h4,.inr ⟨W.free x h1,by rw [hmb _ h2,h3]⟩⟩
 have fnk:∀ i k,i∈[6,7,8,9,10,11,16,17,18,19,20,21,22,23,24,25,26,27,28,29,30,31,32]→nmc (fdName i)=some k→glOk mg mb (fdName i) (.gl k):=fun i k hi hk=>by
  obtain ⟨a,o,pm,doc,cd,h1,_⟩:=W.fn i hi
  exact ⟨.ref a,⟨_,hk,h1⟩,.inl h1⟩
 refine List.forall_mem_cons.mpr ⟨bt "AssertionError" (.type "AssertionError") _ (by decide) (by decide +kernel) (by kernel_rfl) rfl,?_⟩
 refine List.forall_mem_cons.mpr ⟨bt "bool" (.type "bool") _ (by decide) (by decide +kernel) (by kernel_rfl) rfl,?_⟩
 refine List.forall_mem_cons.mpr ⟨bt "bytearray" (.type "bytearray") _ (by decide) (by decide +kernel) (by kernel_rfl) rfl,?_⟩
 refine List.forall_mem_cons.mpr ⟨bt "bytes" (.type "bytes") _ (by decide) (by decide +kernel) (by kernel_rfl) rfl,?_⟩
 refine List.forall_mem_cons.mpr ⟨bt "enumerate" (.type "enumerate") _ (by decide) (by decide +kernel) (by kernel_rfl) rfl,?_⟩
 refine List.forall_mem_cons.mpr ⟨bt "int" (.type "int") _ (by decide) (by decide +kernel) (by kernel_rfl) rfl,?_⟩
 refine List.forall_mem_cons.mpr ⟨bt "list" (.type "list") _ (by decide) (by decide +kernel) (by kernel_rfl) rfl,?_⟩
 refine List.forall_mem_cons.mpr ⟨bt "range" (.type "range") _ (by decide) (by decide +kernel) (by kernel_rfl) rfl,?_⟩
 refine List.forall_mem_cons.mpr ⟨bt "divmod" (.builtin "divmod") _ (by decide) (by decide +kernel) (by kernel_rfl) rfl,?_⟩
 refine List.forall_mem_cons.mpr ⟨bt "isinstance" (.builtin "isinstance") _ (by decide) (by decide +kernel) (by kernel_rfl) rfl,?_⟩
 refine List.forall_mem_cons.mpr ⟨bt "len" (.builtin "len") _ (by decide) (by decide +kernel) (by kernel_rfl) rfl,?_⟩
 refine List.forall_mem_cons.mpr ⟨bt "max" (.builtin "max") _ (by decide) (by decide +kernel) (by kernel_rfl) rfl,?_⟩
 refine List.forall_mem_cons.mpr ⟨bt "ord" (.builtin "ord") _ (by decide) (by decide +kernel) (by kernel_rfl) rfl,?_⟩
 refine List.forall_mem_cons.mpr ⟨bt "sorted" (.builtin "sorted") _ (by decide) (by decide +kernel) (by kernel_rfl) rfl,?_⟩
 refine List.forall_mem_cons.mpr ⟨bt "sum" (.builtin "sum") _ (by decide) (by decide +kernel) (by kernel_rfl) rfl,?_⟩
 refine List.forall_mem_cons.mpr ⟨fnk 6 _ (by decide) nm_take_msb_bytes_at,?_⟩
 refine List.forall_mem_cons.mpr ⟨fnk 7 _ (by decide) nm_bisect_find_sha,?_⟩
 refine List.forall_mem_cons.mpr ⟨fnk 8 _ (by decide) nm_decode_object_header,?_⟩
 refine List.forall_mem_cons.mpr ⟨fnk 9 _ (by decide) nm_decode_delta_base_offset,?_⟩
 refine List.forall_mem_cons.mpr ⟨fnk 10 _ (by decide) nm_pack_object_header,?_⟩
 refine List.forall_mem_cons.mpr ⟨fnk 11 _ (by decide) nm_delta_encode_size,?_⟩
 refine List.forall_mem_cons.mpr ⟨fnk 16 _ (by decide) nm_law_kinds,?_⟩
 refine List.forall_mem_cons.mpr ⟨fnk 17 _ (by decide) nm_law_wide,?_⟩
 refine List.forall_mem_cons.mpr ⟨fnk 18 _ (by decide) nm_law_name,?_⟩
 refine List.forall_mem_cons.mpr ⟨fnk 19 _ (by decide) nm_law_turned,?_⟩
 refine List.forall_mem_cons.mpr ⟨fnk 20 _ (by decide) nm_law_row,?_⟩
 refine List.forall_mem_cons.mpr ⟨fnk 21 _ (by decide) nm_law_value,?_⟩
 refine List.forall_mem_cons.mpr ⟨fnk 22 _ (by decide) nm_law_written,?_⟩
 refine List.forall_mem_cons.mpr ⟨fnk 23 _ (by decide) nm_law_key,?_⟩
 refine List.forall_mem_cons.mpr ⟨fnk 24 _ (by decide) nm_law_halved,?_⟩
 refine List.forall_mem_cons.mpr ⟨fnk 25 _ (by decide) nm_law_found,?_⟩
 refine List.forall_mem_cons.mpr ⟨fnk 26 _ (by decide) nm_law_cut,?_⟩
 refine List.forall_mem_cons.mpr ⟨fnk 27 _ (by decide) nm_law_taken,?_⟩
 refine List.forall_mem_cons.mpr ⟨fnk 28 _ (by decide) nm_law_next,?_⟩
 refine List.forall_mem_cons.mpr ⟨fnk 29 _ (by decide) nm_law_back,?_⟩
 refine List.forall_mem_cons.mpr ⟨fnk 30 _ (by decide) nm_law_open,?_⟩
 refine List.forall_mem_cons.mpr ⟨fnk 31 _ (by decide) nm_law_read,?_⟩
 refine List.forall_mem_cons.mpr ⟨fnk 32 _ (by decide) nm_law_barred,?_⟩
 refine List.forall_mem_cons.mpr ⟨by obtain ⟨t,h⟩:=W.ofs;exact ⟨_,⟨t,rfl⟩,.inl h⟩,?_⟩
 refine List.forall_mem_cons.mpr ⟨by obtain ⟨t,h⟩:=W.ref;exact ⟨_,⟨t,rfl⟩,.inl h⟩,?_⟩
 refine List.forall_mem_cons.mpr ⟨by exact ⟨_,rfl,.inl W.sha1⟩,?_⟩
 exact List.forall_mem_nil _
theorem lookup_mem:∀ {l:List (Str×Nat×V)} {k:Nat} {v:V},(l.map (·.2)).lookup k=some v→∃ x,(x,k,v)∈l
 | [],_,_,h=>by simp at h
 | (x,j,u)::r,k,v,h=>by
  rw [List.map_cons,List.lookup_cons] at h
  cases z:(k == j) with
  | true=>simp only [z] at h;have:=eq_of_beq z;subst this;cases h;exact ⟨x,.head _⟩
  | false=>simp only [z] at h;obtain ⟨y,hy⟩:_:=lookup_mem h;exact ⟨y,.tail _ hy⟩
noncomputable def gOf (i:Nat) (sha:Addr) (fm:Addr→Option Int) (gam:List (Nat×Spec)):Ge:={ kinds:=kindsOf (fdScope i),globs:=GL sha,gam:=fun k=>gam.lookup k,fnv:=fun _=>none,forms:=fm,hd:=true,ba:=true }
noncomputable abbrev ctx (i:Nat) (C0:Cx) (mc:Str→Option Value) (L a:Addr) (cd:Value):Cx:=calleeC C0 mc (envOfC (fdName i) (fdScope i) L a cd)
theorem scGlob {C:Cx} {sha:Addr} {fm:Addr→Option Int} (W:Wd C sha fm):∀ x k v,nmc x=some k→(GL sha).lookup k=some v→∀ h:Heap,(∀ b o,C.base b=some o→h.get? b=some o) →
  ∃ mb u,h.Ns mainGlobals C.mg∧h.Ns builtinsNs mb∧VR C.mg u v∧(C.mg x=some u∨(C.mg x=none∧mb x=some u)):=fun x k v hx hk h hb=>by
 obtain ⟨mb,h1,h2⟩:=W.nsb h hb
 obtain ⟨y,hy⟩:=lookup_mem hk
 obtain rfl:=nmc_inj hx (glsCodes sha _ hy)
 obtain ⟨u,h3,h4⟩:=glsOk W h2 _ hy
 exact ⟨mb,u,W.ns h hb,h1,h3,h4⟩
theorem mkCk {i:Nat} {C0:Cx} {mc:Str→Option Value} {L a:Addr} {cd:Value} {sha:Addr} {fm:Addr→Option Int} (W:Wd C0 sha fm) (hh:C0.A.handled=none) (hu:(ctx i C0 mc L a cd).A.units+16<cLine) (hsc:scOk (fdScope i)=true) {gam:List (Nat×Spec)}
  (hgam:∀ x k sp u,nmc x=some k→gam.lookup k=some sp→C0.mg x=some u→FnN (ctx i C0 mc L a cd) u sp):CkN (ctx i C0 mc L a cd) (gOf i sha fm gam) where
 base:={
  kind:=(scOk_of hsc).1
  globals:=rfl
  builtins:=rfl
  handled:=fun _=>hh
  units:=hu
  kinds:=fun x k kd hx hk=>⟨kd,kindsOf_lookup hx hk,.inl rfl⟩
  plain:=fun x k kd hx hk=>by
   have:=((scOk_of hsc).2.2.2 _ (mem_of_lookup' (kindsOf_lookup hx hk))).1
   unfold goodName at this
   simp only [Bool.and_eq_true,Bool.not_eq_true'] at this
   exact ⟨this.1.2,this.2⟩
  globs:=scGlob (C:=ctx i C0 mc L a cd) W
  forms:=fun a n h C' hC' P m H s S Q E hQ=>by
   obtain ⟨⟨e,f,w,rfl⟩,_⟩:=hC'
   exact W.forms a n h _ _ S.base Q E fun t tk=>hQ t _ S.toks }
 gam:=hgam
 fnv:=fun a sp h=>by cases h
noncomputable def retQ (Q:QE):QS:=fun fl _ H'=>match fl with | .ret v=>Q v H' | .next=>Q .none H' | _=>False
noncomputable def retX (X:XE):XSt:=fun xn _ H'=>X xn H'
noncomputable abbrev idxs:List Nat:=[6,7,8,9,10,11,16,17,18,19,20,21,22,23,24,25,26,27,28,29,30,31,32]
theorem fn_ok {i:Nat} {C:Cx} {sha:Addr} {fm:Addr→Option Int} (W:Wd C sha fm) (F:Fk C) (hl:0<C.lv) (hi:i∈idxs)
  {ps:List Str} {ks:List Nat} (hsc:scOk (fdScope i)=true) (Pl:Plain (fdArgs i) (fdScope i) ps ks) {sp:Spec} (gam:List (Nat×Spec))
  (hgam:∀ C',Wd C' sha fm→Fk C'→C'.lv=C.lv-1→∀ e∈gam,∀ x,nmc x=some e.1→∀ u,C'.mg x=some u→FnN C' u e.2)
  (hb:∀ xs H Q X,sp xs H Q X→xs.length=ks.length∧∀ C0 mc L a cd P,CkN (ctx i C0 mc L a cd) (gOf i sha fm gam)→Fk1 (ctx i C0 mc L a cd)→Cl1 (ctx i C0 mc L a cd)→WSN (ctx i C0 mc L a cd) P (ks.zip xs) H (fdBody i) (retQ Q) (retX X)) :
  ∀ x,x=fdName i→∀ u,C.mg x=some u→FnN C u sp:=fun x hx u hu=>by
 subst hx
 obtain ⟨a,o,pm,doc,cd,h1,h2,h3,h4⟩:=W.fn i hi
 rw [hu] at h1;cases h1
 refine call_okN F hl (name:=fdName i) (params:=fdArgs i) (body:=fdBody i) (scope:=fdScope i) (cd:=cd) ⟨⟨o,pm,doc,h2,h3⟩,h4,W.nolimit⟩ Pl fun C0 hC0 xs H Q X hs=>?_
 obtain ⟨e1,e2⟩:=hb xs H Q X hs
 refine ⟨e1,fun L mc P' F' L'=>?_⟩
 have W0:Wd C0 sha fm:=by obtain ⟨⟨e,f,w,rfl⟩,_⟩:=hC0;exact W
 have hlv:C0.lv=C.lv:=by obtain ⟨⟨e,f,w,rfl⟩,_⟩:=hC0;rfl
 have Kc:CkN (ctx i C0 mc L a cd) (gOf i sha fm gam):=mkCk W0 (F.like hC0).handled (Nat.lt_of_le_of_lt (Nat.add_le_add_right (Nat.le_add_right _ _) 16) F'.units) hsc fun y k sp v hy hk hv=>by
  have W1:Wd (ctx i C0 mc L a cd) sha fm:=W0
  have:∀ {l:List (Nat×Spec)},l.lookup k=some sp→(k,sp)∈l:=fun {l} h=>by
   induction l with
   | nil=>simp at h
   | cons p r ih =>
    obtain ⟨j,s⟩:=p
    rw [List.lookup_cons] at h
    cases z:(k == j) with
    | true=>rw [z] at h;have:=eq_of_beq z;subst this;cases h;exact .head _
    | false=>rw [z] at h;exact .tail _ (ih h)
  exact hgam _ W1 F' (by show C0.lv-1=_;rw [hlv]) _ (this hk) y hy v hv
 exact e2 C0 mc L a cd P' Kc ⟨F',⟨C0.stk,rfl⟩,rfl⟩ L'
end DL
namespace DL
theorem len1 {α:Type _} {vs:List α} (h:vs.length=1):∃ a0,vs=[a0]:=by
 match vs,h with
 | [a0],_=>exact ⟨a0,rfl⟩
theorem len2 {α:Type _} {vs:List α} (h:vs.length=2):∃ a0 a1,vs=[a0,a1]:=by
 match vs,h with
 | [a0,a1],_=>exact ⟨a0,a1,rfl⟩
theorem len3 {α:Type _} {vs:List α} (h:vs.length=3):∃ a0 a1 a2,vs=[a0,a1,a2]:=by
 match vs,h with
 | [a0,a1,a2],_=>exact ⟨a0,a1,a2,rfl⟩
theorem len4 {α:Type _} {vs:List α} (h:vs.length=4):∃ a0 a1 a2 a3,vs=[a0,a1,a2,a3]:=by
 match vs,h with
 | [a0,a1,a2,a3],_=>exact ⟨a0,a1,a2,a3,rfl⟩
theorem len5 {α:Type _} {vs:List α} (h:vs.length=5):∃ a0 a1 a2 a3 a4,vs=[a0,a1,a2,a3,a4]:=by
 match vs,h with
 | [a0,a1,a2,a3,a4],_=>exact ⟨a0,a1,a2,a3,a4,rfl⟩
theorem sc_6:scOk (fdScope 6)=true:=by kernel_rfl
theorem pl_6:Plain (fdArgs 6) (fdScope 6) [Str.ofString "contents",Str.ofString "offset"] [37,76]:=plain_of sc_6 (fun name body pm cd doc vs h=>by
 obtain ⟨a0,a1,rfl⟩:=len2 h
 rfl) (by kernel_rfl) (by decide +kernel) (by decide +kernel)
theorem sc_7:scOk (fdScope 7)=true:=by kernel_rfl
theorem pl_7:Plain (fdArgs 7) (fdScope 7) [Str.ofString "start",Str.ofString "end",Str.ofString "sha",Str.ofString "unpack_name"] [99,46,93,107]:=plain_of sc_7 (fun name body pm cd doc vs h=>by
 obtain ⟨a0,a1,a2,a3,rfl⟩:=len4 h
 rfl) (by kernel_rfl) (by decide +kernel) (by decide +kernel)
theorem sc_8:scOk (fdScope 8)=true:=by kernel_rfl
theorem pl_8:Plain (fdArgs 8) (fdScope 8) [Str.ofString "raw"] [87]:=plain_of sc_8 (fun name body pm cd doc vs h=>by
 obtain ⟨a0,rfl⟩:=len1 h
 rfl) (by kernel_rfl) (by decide +kernel) (by decide +kernel)
theorem sc_9:scOk (fdScope 9)=true:=by kernel_rfl
theorem pl_9:Plain (fdArgs 9) (fdScope 9) [Str.ofString "raw"] [87]:=plain_of sc_9 (fun name body pm cd doc vs h=>by
 obtain ⟨a0,rfl⟩:=len1 h
 rfl) (by kernel_rfl) (by decide +kernel) (by decide +kernel)
theorem sc_10:scOk (fdScope 10)=true:=by kernel_rfl
theorem pl_10:Plain (fdArgs 10) (fdScope 10) [Str.ofString "type_num",Str.ofString "delta_base",Str.ofString "size",Str.ofString "object_format"] [106,40,97,73]:=plain_of sc_10 (fun name body pm cd doc vs h=>by
 obtain ⟨a0,a1,a2,a3,rfl⟩:=len4 h
 rfl) (by kernel_rfl) (by decide +kernel) (by decide +kernel)
theorem sc_11:scOk (fdScope 11)=true:=by kernel_rfl
theorem pl_11:Plain (fdArgs 11) (fdScope 11) [Str.ofString "size"] [97]:=plain_of sc_11 (fun name body pm cd doc vs h=>by
 obtain ⟨a0,rfl⟩:=len1 h
 rfl) (by kernel_rfl) (by decide +kernel) (by decide +kernel)
theorem sc_16:scOk (fdScope 16)=true:=by kernel_rfl
theorem pl_16:Plain (fdArgs 16) (fdScope 16) [] []:=plain_of sc_16 (fun name body pm cd doc vs h=>by
 match vs,h with
 | [],_=>rfl) (by kernel_rfl) (by decide +kernel) (by decide +kernel)
theorem sc_17:scOk (fdScope 17)=true:=by kernel_rfl
theorem pl_17:Plain (fdArgs 17) (fdScope 17) [Str.ofString "number"] [72]:=plain_of sc_17 (fun name body pm cd doc vs h=>by
 obtain ⟨a0,rfl⟩:=len1 h
 rfl) (by kernel_rfl) (by decide +kernel) (by decide +kernel)
theorem sc_18:scOk (fdScope 18)=true:=by kernel_rfl
theorem pl_18:Plain (fdArgs 18) (fdScope 18) [Str.ofString "number",Str.ofString "size"] [72,97]:=plain_of sc_18 (fun name body pm cd doc vs h=>by
 obtain ⟨a0,a1,rfl⟩:=len2 h
 rfl) (by kernel_rfl) (by decide +kernel) (by decide +kernel)
theorem sc_19:scOk (fdScope 19)=true:=by kernel_rfl
theorem pl_19:Plain (fdArgs 19) (fdScope 19) [Str.ofString "name",Str.ofString "number"] [69,72]:=plain_of sc_19 (fun name body pm cd doc vs h=>by
 obtain ⟨a0,a1,rfl⟩:=len2 h
 rfl) (by kernel_rfl) (by decide +kernel) (by decide +kernel)
theorem sc_20:scOk (fdScope 20)=true:=by kernel_rfl
theorem pl_20:Plain (fdArgs 20) (fdScope 20) [Str.ofString "code",Str.ofString "kind",Str.ofString "number"] [36,61,72]:=plain_of sc_20 (fun name body pm cd doc vs h=>by
 obtain ⟨a0,a1,a2,rfl⟩:=len3 h
 rfl) (by kernel_rfl) (by decide +kernel) (by decide +kernel)
theorem sc_21:scOk (fdScope 21)=true:=by kernel_rfl
theorem pl_21:Plain (fdArgs 21) (fdScope 21) [Str.ofString "code",Str.ofString "raw"] [36,87]:=plain_of sc_21 (fun name body pm cd doc vs h=>by
 obtain ⟨a0,a1,rfl⟩:=len2 h
 rfl) (by kernel_rfl) (by decide +kernel) (by decide +kernel)
theorem sc_22:scOk (fdScope 22)=true:=by kernel_rfl
theorem pl_22:Plain (fdArgs 22) (fdScope 22) [Str.ofString "code",Str.ofString "kind",Str.ofString "number"] [36,61,72]:=plain_of sc_22 (fun name body pm cd doc vs h=>by
 obtain ⟨a0,a1,a2,rfl⟩:=len3 h
 rfl) (by kernel_rfl) (by decide +kernel) (by decide +kernel)
theorem sc_23:scOk (fdScope 23)=true:=by kernel_rfl
theorem pl_23:Plain (fdArgs 23) (fdScope 23) [Str.ofString "code",Str.ofString "raw"] [36,87]:=plain_of sc_23 (fun name body pm cd doc vs h=>by
 obtain ⟨a0,a1,rfl⟩:=len2 h
 rfl) (by kernel_rfl) (by decide +kernel) (by decide +kernel)
theorem sc_24:scOk (fdScope 24)=true:=by kernel_rfl
theorem pl_24:Plain (fdArgs 24) (fdScope 24) [Str.ofString "code",Str.ofString "kind",Str.ofString "raw",Str.ofString "low",Str.ofString "high"] [36,61,87,66,55]:=plain_of sc_24 (fun name body pm cd doc vs h=>by
 obtain ⟨a0,a1,a2,a3,a4,rfl⟩:=len5 h
 rfl) (by kernel_rfl) (by decide +kernel) (by decide +kernel)
theorem sc_25:scOk (fdScope 25)=true:=by kernel_rfl
theorem pl_25:Plain (fdArgs 25) (fdScope 25) [Str.ofString "rows",Str.ofString "low",Str.ofString "high",Str.ofString "name"] [91,66,55,69]:=plain_of sc_25 (fun name body pm cd doc vs h=>by
 obtain ⟨a0,a1,a2,a3,rfl⟩:=len4 h
 rfl) (by kernel_rfl) (by decide +kernel) (by decide +kernel)
theorem sc_26:scOk (fdScope 26)=true:=by kernel_rfl
theorem pl_26:Plain (fdArgs 26) (fdScope 26) [Str.ofString "octets",Str.ofString "at"] [75,27]:=plain_of sc_26 (fun name body pm cd doc vs h=>by
 obtain ⟨a0,a1,rfl⟩:=len2 h
 rfl) (by kernel_rfl) (by decide +kernel) (by decide +kernel)
theorem sc_27:scOk (fdScope 27)=true:=by kernel_rfl
theorem pl_27:Plain (fdArgs 27) (fdScope 27) [Str.ofString "octets",Str.ofString "at"] [75,27]:=plain_of sc_27 (fun name body pm cd doc vs h=>by
 obtain ⟨a0,a1,rfl⟩:=len2 h
 rfl) (by kernel_rfl) (by decide +kernel) (by decide +kernel)
theorem sc_28:scOk (fdScope 28)=true:=by kernel_rfl
theorem pl_28:Plain (fdArgs 28) (fdScope 28) [Str.ofString "octets",Str.ofString "at",Str.ofString "row"] [75,27,90]:=plain_of sc_28 (fun name body pm cd doc vs h=>by
 obtain ⟨a0,a1,a2,rfl⟩:=len3 h
 rfl) (by kernel_rfl) (by decide +kernel) (by decide +kernel)
theorem sc_29:scOk (fdScope 29)=true:=by kernel_rfl
theorem pl_29:Plain (fdArgs 29) (fdScope 29) [Str.ofString "stored",Str.ofString "entry"] [100,48]:=plain_of sc_29 (fun name body pm cd doc vs h=>by
 obtain ⟨a0,a1,rfl⟩:=len2 h
 rfl) (by kernel_rfl) (by decide +kernel) (by decide +kernel)
theorem sc_30:scOk (fdScope 30)=true:=by kernel_rfl
theorem pl_30:Plain (fdArgs 30) (fdScope 30) [Str.ofString "raw"] [87]:=plain_of sc_30 (fun name body pm cd doc vs h=>by
 obtain ⟨a0,rfl⟩:=len1 h
 rfl) (by kernel_rfl) (by decide +kernel) (by decide +kernel)
theorem sc_31:scOk (fdScope 31)=true:=by kernel_rfl
theorem pl_31:Plain (fdArgs 31) (fdScope 31) [Str.ofString "raw",Str.ofString "form"] [87,53]:=plain_of sc_31 (fun name body pm cd doc vs h=>by
 obtain ⟨a0,a1,rfl⟩:=len2 h
 rfl) (by kernel_rfl) (by decide +kernel) (by decide +kernel)
theorem sc_32:scOk (fdScope 32)=true:=by kernel_rfl
theorem pl_32:Plain (fdArgs 32) (fdScope 32) [Str.ofString "kind",Str.ofString "base",Str.ofString "size",Str.ofString "form"] [61,29,97,53]:=plain_of sc_32 (fun name body pm cd doc vs h=>by
 obtain ⟨a0,a1,a2,a3,rfl⟩:=len4 h
 rfl) (by kernel_rfl) (by decide +kernel) (by decide +kernel)
theorem sc_33:scOk (fdScope 33)=true:=by kernel_rfl
theorem pl_33:Plain (fdArgs 33) (fdScope 33) [Str.ofString "script"] [92]:=plain_of sc_33 (fun name body pm cd doc vs h=>by
 obtain ⟨a0,rfl⟩:=len1 h
 rfl) (by kernel_rfl) (by decide +kernel) (by decide +kernel)
end DL
section
namespace DL
section
variable {i:Nat} {sha:Addr} {fm:Addr→Option Int} {gam:List (Nat×Spec)}
theorem g_kinds:(gOf i sha fm gam).kinds=kindsOf (fdScope i):=rfl
theorem g_hd:(gOf i sha fm gam).hd=true:=rfl
theorem g_gam {k:Nat}:(gOf i sha fm gam).gam k=gam.lookup k:=rfl
theorem g_ba:(gOf i sha fm gam).ba=true:=rfl
theorem g_fnv {a:Addr}:(gOf i sha fm gam).fnv a=none:=rfl
theorem g_forms {a:Addr}:(gOf i sha fm gam).forms a=fm a:=rfl
theorem gl_1:(gOf i sha fm gam).globs.lookup 1=some (.ty "AssertionError"):=rfl
theorem gl_31:(gOf i sha fm gam).globs.lookup 31=some (.ty "bool"):=rfl
theorem gl_33:(gOf i sha fm gam).globs.lookup 33=some (.ty "bytearray"):=rfl
theorem gl_34:(gOf i sha fm gam).globs.lookup 34=some (.ty "bytes"):=rfl
theorem gl_49:(gOf i sha fm gam).globs.lookup 49=some (.ty "enumerate"):=rfl
theorem gl_57:(gOf i sha fm gam).globs.lookup 57=some (.ty "int"):=rfl
theorem gl_65:(gOf i sha fm gam).globs.lookup 65=some (.ty "list"):=rfl
theorem gl_86:(gOf i sha fm gam).globs.lookup 86=some (.ty "range"):=rfl
theorem gl_42:(gOf i sha fm gam).globs.lookup 42=some (.bi "divmod"):=rfl
theorem gl_58:(gOf i sha fm gam).globs.lookup 58=some (.bi "isinstance"):=rfl
theorem gl_64:(gOf i sha fm gam).globs.lookup 64=some (.bi "len"):=rfl
theorem gl_67:(gOf i sha fm gam).globs.lookup 67=some (.bi "max"):=rfl
theorem gl_78:(gOf i sha fm gam).globs.lookup 78=some (.bi "ord"):=rfl
theorem gl_98:(gOf i sha fm gam).globs.lookup 98=some (.bi "sorted"):=rfl
theorem gl_101:(gOf i sha fm gam).globs.lookup 101=some (.bi "sum"):=rfl
theorem gl_103:(gOf i sha fm gam).globs.lookup 103=some (.gl 103):=rfl
theorem gl_30:(gOf i sha fm gam).globs.lookup 30=some (.gl 30):=rfl
theorem gl_7:(gOf i sha fm gam).globs.lookup 7=some (.gl 7):=rfl
theorem gl_6:(gOf i sha fm gam).globs.lookup 6=some (.gl 6):=rfl
theorem gl_80:(gOf i sha fm gam).globs.lookup 80=some (.gl 80):=rfl
theorem gl_8:(gOf i sha fm gam).globs.lookup 8=some (.gl 8):=rfl
theorem gl_15:(gOf i sha fm gam).globs.lookup 15=some (.gl 15):=rfl
theorem gl_24:(gOf i sha fm gam).globs.lookup 24=some (.gl 24):=rfl
theorem gl_16:(gOf i sha fm gam).globs.lookup 16=some (.gl 16):=rfl
theorem gl_22:(gOf i sha fm gam).globs.lookup 22=some (.gl 22):=rfl
theorem gl_20:(gOf i sha fm gam).globs.lookup 20=some (.gl 20):=rfl
theorem gl_23:(gOf i sha fm gam).globs.lookup 23=some (.gl 23):=rfl
theorem gl_25:(gOf i sha fm gam).globs.lookup 25=some (.gl 25):=rfl
theorem gl_14:(gOf i sha fm gam).globs.lookup 14=some (.gl 14):=rfl
theorem gl_13:(gOf i sha fm gam).globs.lookup 13=some (.gl 13):=rfl
theorem gl_12:(gOf i sha fm gam).globs.lookup 12=some (.gl 12):=rfl
theorem gl_11:(gOf i sha fm gam).globs.lookup 11=some (.gl 11):=rfl
theorem gl_21:(gOf i sha fm gam).globs.lookup 21=some (.gl 21):=rfl
theorem gl_17:(gOf i sha fm gam).globs.lookup 17=some (.gl 17):=rfl
theorem gl_9:(gOf i sha fm gam).globs.lookup 9=some (.gl 9):=rfl
theorem gl_18:(gOf i sha fm gam).globs.lookup 18=some (.gl 18):=rfl
theorem gl_19:(gOf i sha fm gam).globs.lookup 19=some (.gl 19):=rfl
theorem gl_10:(gOf i sha fm gam).globs.lookup 10=some (.gl 10):=rfl
theorem gl_2:(gOf i sha fm gam).globs.lookup 2=some (.int 6):=rfl
theorem gl_4:(gOf i sha fm gam).globs.lookup 4=some (.int 7):=rfl
theorem gl_5:(gOf i sha fm gam).globs.lookup 5=some (.ref sha):=rfl
end
theorem vInts_nil:vInts []=[]:=rfl
theorem vInts_app {a b:List Int}:vInts a++vInts b=vInts (a++b):=by simp [vInts]
theorem vInts_len {a:List Int}:(vInts a).length=a.length:=by simp [vInts]
theorem vInts_one {i:Int}:[V.int i]=vInts [i]:=rfl
end DL
end
section
namespace DL
section
variable {α:Type} {D:Prop} {xa:α} {KA:α→Prop} {KI:Int→Prop} {KB:List UInt8→Prop} {KR:Addr→Prop} {KT:String→Prop} {KV:V→Prop} {KV2:V→V→Prop} {KH:V→Hp→Prop} {KBo:Bool→Prop} {KI2:Int→Int→Prop} {KB2:List UInt8→List UInt8→Prop} {K8:UInt8→Prop} {KIt:List It→Prop} {KIt2:List It→Hp→Prop} {KK:Nat→ItKind} {KM:Loc→Prop} {KN:Nat→Prop} {KL:List V→Hp→Prop} {KG:List It→Hp→Hp→Prop} {KS:V→V→Hp→Prop} {KAt:Str→V→Hp→Prop} {KBM:Bool→Loc→Prop}
 {i j:Int} {s t:List UInt8} {p q:Addr} {n:String} {u v:V} {vs:List V} {ob:Obj} {o:Option O} {b:Bool} {x y:Str} {ys:List Str} {H:Hp} {bop:Operator} {pd pe:PyData} {pds:List PyData} {fL:List V→Option (List PyData)} {ob1:Option Bool} {c8:UInt8} {g:Ge} {m ml:Loc} {k:Nat} {ov1 ov2:Option V} {X:XE} {pp pq:Pos} {e a c:Expr} {es rs:List Expr} {kws:List Keyword} {it:It} {C:Cx} {P:Kp} {ss:List Stmt} {QS1:QS} {XS1:XSt} {xn:Exn} {Iv:Nat→Loc→Hp→Prop} {ks:List (Nat×NameKind)} {cc:Const} {uo:UnaryOp} {bo:BoolOp} {ops:List CmpOp} {oe of og:Option Expr} {gs:List Comprehension} {co:Comprehension} {sc:Scope} {o1 o2:CmpOp} {pr:Nat×V}
theorem w_gd:gd true D=D:=rfl
theorem w_oE:oE (some xa) KA=KA xa:=rfl
theorem w_iI:iI (.int i) KI=KI i:=rfl
theorem w_iB:iB (.bytes s) KB=KB s:=rfl
theorem w_iR:iR (.ref p) KR=KR p:=rfl
theorem w_iT:iT (.ty n) KT=KT n:=rfl
theorem w_l1:l1 [v] KV=KV v:=rfl
theorem w_l2:l2 [v,u] KV2=KV2 v u:=rfl
theorem w_oL:oL (some (.list vs))=some vs:=rfl
theorem w_oSl:oS (some (.list vs))=some vs:=rfl
theorem w_oSi:oS (some (.ilist ob vs))=some vs:=rfl
theorem w_oT:oT (some (.tuple vs))=some vs:=rfl
theorem w_oLTl:oLT (some (.list vs))=some vs:=rfl
theorem w_oLTt:oLT (some (.tuple vs))=some vs:=rfl
theorem w_oBa:oBa (some (.barr s))=some s:=rfl
theorem w_tvO:tvO o=(oS o).map fun xs=>!xs.isEmpty:=rfl
theorem w_truthy:truthyV v H KBo=oE (tv v H) KBo:=rfl
theorem w_tvn:tv .none H=some false:=rfl
theorem w_tvb:tv (.bool b) H=some b:=rfl
theorem w_tvi:tv (.int i) H=some (decide (i≠0)):=rfl
theorem w_tvB:tv (.bytes s) H=some (!s.isEmpty):=rfl
theorem w_tvr:tv (.ref p) H=tvO (H p):=rfl
theorem w_cn:constV .none KV=KV .none:=rfl
theorem w_cb:constV (.bool b) KV=KV (.bool b):=rfl
theorem w_ci:constV (.int i) KV=KV (.int i):=rfl
theorem w_cs:constV (.str x) KV=KV (.str x):=rfl
theorem w_cB:constV (.bytes s) KV=gd (nB s.length) (KV (.bytes s)):=rfl
theorem w_nB0:nB 0=true:=rfl
theorem w_nB1:nB 1=true:=rfl
theorem w_nB2:nB 2=true:=rfl
theorem w_nB3:nB 3=true:=rfl
theorem w_nB4:nB 4=true:=rfl
theorem w_nB5:nB 5=true:=rfl
theorem w_nB6:nB 6=true:=rfl
theorem w_nB7:nB 7=true:=rfl
theorem w_nB8:nB 8=true:=rfl
theorem w_nB9:nB 9=true:=rfl
theorem w_nB10:nB 10=true:=rfl
theorem w_nB11:nB 11=true:=rfl
theorem w_nB12:nB 12=true:=rfl
theorem w_bAdd:binI .Add i j KI=KI (i+j):=rfl
theorem w_bSub:binI .Sub i j KI=KI (i-j):=rfl
theorem w_bMult:binI .Mult i j KI=((i.natAbs<2^64∨j.natAbs<2^64)∧KI (i*j)):=rfl
theorem w_bFloorDiv:binI .FloorDiv i j KI=((0<j∧j<DIV)∧KI (i/j)):=rfl
theorem w_bMod:binI .Mod i j KI=(0<j∧KI (i%j)):=rfl
theorem w_bPow:binI .Pow i j KI=((0≤j∧j≤1000000∧i.natAbs<2^64)∧KI (i^j.toNat)):=rfl
theorem w_bLShift:binI .LShift i j KI=((0≤j∧j≤1000000∧-BIG<i∧i<BIG)∧KI (i*2^j.toNat)):=rfl
theorem w_bRShift:binI .RShift i j KI=((0≤j∧j≤1000000)∧KI (i/2^j.toNat)):=rfl
theorem w_bBitAnd:binI .BitAnd i j KI=KI (Builtin.bitAnd i j):=rfl
theorem w_bBitOr:binI .BitOr i j KI=KI (Builtin.bitOr i j):=rfl
theorem w_aAdd:augI .Add i j KI=KI (i+j):=rfl
theorem w_aSub:augI .Sub i j KI=KI (i-j):=rfl
theorem w_aMult:augI .Mult i j KI=((i.natAbs<2^64∨j.natAbs<2^64)∧KI (i*j)):=rfl
theorem w_aLShift:augI .LShift i j KI=((0≤j∧j≤1000000∧-BIG<i∧i<BIG)∧KI (i*2^j.toNat)):=rfl
theorem w_aRShift:augI .RShift i j KI=((0≤j∧j≤1000000)∧KI (i/2^j.toNat)):=rfl
theorem w_opA:opA .Add D=D:=rfl
theorem w_opM:opM .Mult D=D:=rfl
theorem w_addRef:addRef p q H KH=oE (oL (H p)) fun xs=>oE (oL (H q)) fun ys=>xs.length+ys.length≤SZ∧∀ c,H c=none→KH (.ref c) (upd H c (.list (xs++ys))):=rfl
theorem w_bini:binop bop (.int i) v H KH=iI v fun b=>binI bop i b fun i=>KH (.int i) H:=rfl
theorem w_binB:binop bop (.bytes s) (.bytes t) H KH=opA bop (s.length+t.length≤SZ∧KH (.bytes (s++t)) H):=rfl
theorem w_binBi:binop bop (.bytes s) (.int i) H KH=opM bop ((s.length=1∧0≤i∧i≤1000000)∧KH (.bytes (List.replicate i.toNat s).flatten) H):=rfl
theorem w_binr:binop bop (.ref p) v H KH=iR v fun b=>opA bop (addRef p b H KH):=rfl
theorem w_uN:unop .Not v H KH=truthyV v H fun b=>KH (.bool (!b)) H:=rfl
theorem w_uS:unop .USub v H KH=iI v fun i=>KH (.int (-i)) H:=rfl
theorem w_pSn:pydS .none=some .none:=rfl
theorem w_pSb:pydS (.bool b)=some (.bool b):=rfl
theorem w_pSi:pydS (.int i)=some (.int i):=rfl
theorem w_pLn:pydL []=some []:=rfl
theorem w_pLc:pydL (v::vs)=pydC (pydS v) (pydL vs):=rfl
theorem w_pC:pydC (some pd) (some pds)=some (pd::pds):=rfl
theorem w_p1r:pyd1 (.ref p) H=pydR pydL (H p):=rfl
theorem w_p1i:pyd1 (.int i) H=some (.int i):=rfl
theorem w_p1n:pyd1 .none H=some .none:=rfl
theorem w_p1b:pyd1 (.bool b) H=some (.bool b):=rfl
theorem w_pRl:pydR fL (some (.list vs))=(pydL vs).map .list:=rfl
theorem w_pRt:pydR fL (some (.tuple vs))=(fL vs).map .tuple:=rfl
theorem w_pL1n:pydL1 H []=some []:=rfl
theorem w_pL1c:pydL1 H (v::vs)=pydC (pyd1 v H) (pydL1 H vs):=rfl
theorem w_p2r:pyd2 (.ref p) H=pydR (pydL1 H) (H p):=rfl
theorem w_p2i:pyd2 (.int i) H=some (.int i):=rfl
theorem w_p2n:pyd2 .none H=some .none:=rfl
theorem w_p2b:pyd2 (.bool b) H=some (.bool b):=rfl
theorem w_iIn:isInts []=some []:=rfl
theorem w_iIc:isInts (.int i::vs)=(isInts vs).map (i::·):=rfl
theorem w_eqii:eqV (.int i) (.int j) H=some (decide (i=j)):=rfl
theorem w_eqBB:eqV (.bytes s) (.bytes t) H=some (decide (s=t)):=rfl
theorem w_eqr:eqV (.ref p) v H=eqR (pyd2 (.ref p) H) (pyd2 v H):=rfl
theorem w_eqn:eqV .none v H=eqR (pyd2 .none H) (pyd2 v H):=rfl
theorem w_eqb:eqV (.bool b) v H=eqR (pyd2 (.bool b) H) (pyd2 v H):=rfl
theorem w_eqir:eqV (.int i) (.ref p) H=eqR (some (.int i)) (pyd2 (.ref p) H):=rfl
theorem w_eqin:eqV (.int i) .none H=eqR (some (.int i)) (pyd2 .none H):=rfl
theorem w_eqR:eqR (some pd) (some pe)=some (PyData.eqv pd pe):=rfl
theorem w_memO:memO v (some (.list vs))=memV v vs:=rfl
theorem w_memR:memR v u H KBo=iR u fun b=>oE (memO v (H b)) KBo:=rfl
theorem w_isNn:isN .none=some true:=rfl
theorem w_isNr:isN (.ref p)=some false:=rfl
theorem w_isNi:isN (.int i)=some false:=rfl
theorem w_isNone:isNone .none D=D:=rfl
theorem w_kEq:cmpop .Eq u v H KBo=oE (eqV u v H) KBo:=rfl
theorem w_kNe:cmpop .NotEq u v H KBo=oE (eqV u v H) fun b=>KBo (!b):=rfl
theorem w_kIn:cmpop .In u v H KBo=memR u v H KBo:=rfl
theorem w_kNi:cmpop .NotIn u v H KBo=memR u v H fun c=>KBo (!c):=rfl
theorem w_kIsn:cmpop .IsNot u v H KBo=isNone v (oE (isN u) fun b=>KBo (!b)):=rfl
theorem w_kIs:cmpop .Is u v H KBo=isNone v (oE (isN u) KBo):=rfl
theorem w_kLt:cmpop .Lt u v H KBo=ltV u v (fun a b=>KBo (decide (a<b))) fun a b=>KBo (bltB a b):=rfl
theorem w_kGt:cmpop .Gt u v H KBo=ltV u v (fun a b=>KBo (decide (b<a))) fun a b=>KBo (bltB b a):=rfl
theorem w_kLe:cmpop .LtE u v H KBo=iI u fun a=>iI v fun b=>KBo (decide (a≤b)):=rfl
theorem w_kGe:cmpop .GtE u v H KBo=iI u fun a=>iI v fun b=>KBo (decide (b≤a)):=rfl
theorem w_ltI:ltV (.int i) v KI2 KB2=iI v (KI2 i):=rfl
theorem w_ltB:ltV (.bytes s) v KI2 KB2=iB v (KB2 s):=rfl
theorem w_atl:atO (some (.list vs)) i=at? vs i:=rfl
theorem w_ati:atO (some (.ilist ob vs)) i=at? vs i:=rfl
theorem w_att:atO (some (.tuple vs)) i=at? vs i:=rfl
theorem w_ixr:indexop (.ref p) v H KH=iI v fun k=>oE (atO (H p) k) fun v=>KH v H:=rfl
theorem w_ixB:indexop (.bytes s) v H KH=iI v fun k=>oE (atB? s k) fun c=>KH (.int c.toNat) H:=rfl
theorem w_ptn:partI .none=some none:=rfl
theorem w_pti:partI (.int i)=some (some i):=rfl
theorem w_slr:sliceop (.ref p) u v H KH=oE (partI u) fun lo=>oE (partI v) fun hi=>oE (oL (H p)) fun xs=>∀ c,H c=none→KH (.ref c) (upd H c (.list (cutOf xs lo hi))):=rfl
theorem w_slB:sliceop (.bytes s) u v H KH=oE (partI u) fun lo=>oE (partI v) fun hi=>KH (.bytes (cutOf s lo hi)) H:=rfl
theorem w_lnB:lenOf (.bytes s) H=some s.length:=rfl
theorem w_lnr:lenOf (.ref p) H=lenR (H p):=rfl
theorem w_lnR:lenR o=(oS o).map List.length:=rfl
theorem w_isn:isOf .none n=bO (n == "int" || (n == "bytes" || n == "bool")) false none:=rfl
theorem w_isi:isOf (.int i) n=bO (n == "int") true (bO (n == "bytes" || n == "bool") false none):=rfl
theorem w_isB:isOf (.bytes s) n=bO (n == "bytes") true (bO (n == "int") false none):=rfl
theorem w_bOt:bO true b ob1=some b:=rfl
theorem w_bOf:bO false b ob1=ob1:=rfl
theorem w_ord:ord1 [c8] K8=K8 c8:=rfl
theorem bc_len:builtinCall "len" vs H KH=l1 vs fun v=>oE (lenOf v H) fun k=>KH (.int k) H:=rfl
theorem bc_divmod:builtinCall "divmod" vs H KH=l2 vs fun v w=>iI v fun a=>iI w fun b=>(0<b∧b<DIV)∧∀ c,H c=none→KH (.ref c) (upd H c (.tuple [.int (a/b),.int (a%b)])):=rfl
theorem bc_max:builtinCall "max" vs H KH=l2 vs fun v w=>iI v fun a=>iI w fun b=>KH (.int (max a b)) H:=rfl
theorem bc_sum:builtinCall "sum" vs H KH=l1 vs fun v=>iR v fun a=>oE (oL (H a)) fun xs=>oE (isInts xs) fun ns=>KH (.int ns.sum) H:=rfl
theorem bc_ord:builtinCall "ord" vs H KH=l1 vs fun v=>iB v fun b=>ord1 b fun c=>KH (.int c.toNat) H:=rfl
theorem bc_isi:builtinCall "isinstance" vs H KH=l2 vs fun v w=>iT w fun t=>oE (isOf v t) fun b=>KH (.bool b) H:=rfl
theorem bc_sorted:builtinCall "sorted" vs H KH=l1 vs fun v=>iR v fun a=>oE (oL (H a)) fun xs=>oE (isBytesL xs) fun bs=>bs.length≤8∧∀ c ys,H c=none→SortedOf bs ys→KH (.ref c) (upd H c (.list (ys.map V.bytes))):=rfl
theorem w_bOl:bytesO (some (.list vs)) KB=oE (isInts vs) fun ns=>octs ns∧KB (ofOcts ns):=rfl
theorem w_bOb:bytesO (some (.barr s)) KB=KB s:=rfl
theorem tc_bytes_r:typeCall "bytes" [.ref p] H KH=bytesO (H p) fun b=>KH (.bytes b) H:=rfl
theorem tc_bytes_b:typeCall "bytes" [.bytes s] H KH=KH (.bytes s) H:=rfl
theorem tc_ba0:typeCall "bytearray" [] H KH=∀ c,H c=none→KH (.ref c) (upd H c (.barr [])):=rfl
theorem tc_ba1:typeCall "bytearray" [v] H KH=iR v fun a=>oE (oL (H a)) fun xs=>oE (isInts xs) fun ns=>octs ns∧∀ c,H c=none→KH (.ref c) (upd H c (.barr (ofOcts ns))):=rfl
theorem tc_list_b:typeCall "list" [.bytes s] H KH=∀ c,H c=none→KH (.ref c) (upd H c (.list (vInts (toOcts s)))):=rfl
theorem tc_list_r:typeCall "list" [.ref p] H KH=oE (oBa (H p)) fun b=>∀ c,H c=none→KH (.ref c) (upd H c (.list (vInts (toOcts b)))):=rfl
theorem w_rc:recv x (.ref p) H=rcO x (H p):=rfl
theorem mkOk_a:mkOk g .append=true:=rfl
theorem mkOk_i:mkOk g .insert=true:=rfl
theorem mkOk_e:mkOk g .extend=true:=rfl
theorem mkOk_b:mkOk g .bappend=g.ba:=rfl
theorem me_append:methop .append v vs H KH=iR v fun a=>oE (oL (H a)) fun xs=>l1 vs fun v=>xs.length<SZ∧KH .none (upd H a (.list (xs++[v]))):=rfl
theorem me_insert:methop .insert v vs H KH=iR v fun a=>oE (oL (H a)) fun xs=>l2 vs fun z v=>iI z fun i=>gd (i == 0) (xs.length<SZ∧KH .none (upd H a (.list (v::xs)))):=rfl
theorem me_extend:methop .extend v vs H KH=iR v fun a=>oE (oL (H a)) fun xs=>l1 vs fun w=>iR w fun b=>oE (oL (H b)) fun ys=>xs.length+ys.length≤SZ∧KH .none (upd H a (.list (xs++ys))):=rfl
theorem me_bappend:methop .bappend v vs H KH=iR v fun a=>oE (oBa (H a)) fun b=>l1 vs fun v=>iI v fun i=>(b.length<SZ∧0≤i∧i<256)∧KH .none (upd H a (.barr (b++[UInt8.ofNat i.toNat]))):=rfl
theorem w_name:nameV g x m KV=oE (nameR g x m) KV:=rfl
theorem w_nameR:nameR g x m=(match nmc x with | some k=>kdV (g.kinds.lookup k) (g.globs.lookup k) (m.lookup k) | none=>none):=rfl
theorem kdV_g:kdV (some .globalImplicit) ov1 ov2=ov1:=rfl
theorem kdV_l:kdV (some .local) ov1 ov2=ov2:=rfl
theorem kdV_c:kdV (some .cell) ov1 ov2=ov2:=rfl
theorem kdV_f:kdV (some .free) ov1 ov2=ov2:=rfl
theorem callop_bi:callop g (.bi n) vs H KH X=builtinCall n vs H KH:=rfl
theorem callop_ty:callop g (.ty n) vs H KH X=typeCall n vs H KH:=rfl
theorem callop_gl:callop g (.gl k) vs H KH X=oE (g.gam k) fun sp=>sp vs H KH X:=rfl
theorem callop_ref:callop g (.ref p) vs H KH X=oE (g.fnv p) fun sp=>sp vs H KH X:=rfl
theorem w_attr:attrop g v x KV=iR v fun a=>oE (nmc x) fun k=>gd (k == 77) (oE (g.forms a) fun n=>KV (.int n)):=rfl
theorem w_its:itemsOf v H KIt2=iR v fun a=>oE (oLT (H a)) fun xs=>KIt2 (xs.map .one) (only H a):=rfl
theorem w_rg1:rangeV [v] KIt=iI v fun hi=>(-1000000000000000000<hi∧hi<1000000000000000000)∧KIt (rangeOf 0 hi):=rfl
theorem w_rg2:rangeV [u,v] KIt=iI u fun lo=>iI v fun hi=>(-1000000000000000000<lo∧lo<1000000000000000000∧-1000000000000000000<hi∧hi<1000000000000000000)∧KIt (rangeOf lo hi):=rfl
theorem w_enum:enumV vs H KIt2=l1 vs fun v=>iR v fun a=>oE (oL (H a)) fun xs=>KIt2 (enumOf 0 xs) (only H a):=rfl
theorem w_nmX:nmX (.Name x pp)=some x:=rfl
theorem w_tuX:tuX (.Tuple es k pp)=some es:=rfl
theorem w_nmXAt:nmX (.Attribute e x pp)=none:=rfl
theorem w_nmXCa:nmX (.Call e es kws pp)=none:=rfl
theorem w_nmXTu:nmX (.Tuple es k pp)=none:=rfl
theorem w_nmXSu:nmX (.Subscript e a pp)=none:=rfl
theorem w_itk:itKind g e=itX g (nmX e):=rfl
theorem w_itXs:itX g (some x)=itK (nmc x) fun k=>itV (g.kinds.lookup k) (g.globs.lookup k):=rfl
theorem w_itXn:itX g none = .plain:=rfl
theorem w_itK:itK (some k) KK=KK k:=rfl
theorem w_itVt:itV (some .globalImplicit) (some (.ty n))=itT (n == "range") (n == "enumerate"):=rfl
theorem w_itVb:itV (some .globalImplicit) (some (.bi n)) = .plain:=rfl
theorem w_itVg:itV (some .globalImplicit) (some (.gl k)) = .plain:=rfl
theorem w_itVl:itV (some .local) ov1 = .plain:=rfl
theorem w_itVc:itV (some .cell) ov1 = .plain:=rfl
theorem w_itT1:itT true b = .range:=rfl
theorem w_itT2:itT false true = .enum:=rfl
theorem w_itT3:itT false false = .plain:=rfl
theorem w_bind:bindIt g e it m H KM=bindX g (nmX e) e it m H KM:=rfl
theorem w_bXs:bindX g (some x) e it m H KM=it1 it fun v=>nmL g x fun k=>KM ((k,v)::m):=rfl
theorem w_bXn:bindX g none e it m H KM=oE (tuX e) fun es=>bindT g es it m H KM:=rfl
theorem w_bT2:bindT g [e,a] (.two i v) m H KM=oE (nmX e) fun x=>oE (nmX a) fun y=>bind2 g x y (.int i) v m KM:=rfl
theorem w_bT1:bindT g [e,a] (.one v) m H KM=oE (nmX e) fun x=>oE (nmX a) fun y=>iR v fun a=>oE (oT (H a)) fun ts=>l2 ts fun u w=>bind2 g x y u w m KM:=rfl
theorem w_b2:bind2 g x y u v m KM=nmL g x fun k=>nmL g y fun l=>KM ((l,v)::(k,u)::m):=rfl
theorem w_it1:it1 (.one v) KV=KV v:=rfl
theorem w_nmL:nmL g x KN=oE (nmc x) fun k=>gd (isLoc (g.kinds.lookup k)) (KN k):=rfl
theorem w_isLoc:isLoc (some .local)=true:=rfl
theorem seqN_n:seqN C P ss QS1 XS1 .next m H=WSN C P m H ss QS1 XS1:=rfl
theorem seqN_r:seqN C P ss QS1 XS1 (.ret u) m H=QS1 (.ret u) m H:=rfl
theorem seqN_b:seqN C P ss QS1 XS1 .brk m H=QS1 .brk m H:=rfl
theorem seqN_c:seqN C P ss QS1 XS1 .cont m H=QS1 .cont m H:=rfl
theorem retQ_r:retQ KH (.ret u) m H=KH u H:=rfl
theorem retQ_n:retQ KH .next m H=KH .none H:=rfl
theorem retX_e:retX X xn m H=X xn H:=rfl
theorem loopQ_b:loopQ Iv k QS1 .brk m H=QS1 .next m H:=rfl
theorem loopQ_r:loopQ Iv k QS1 (.ret u) m H=QS1 (.ret u) m H:=rfl
theorem loopQ_n:loopQ Iv k QS1 .next m H=∃ n',n'<k∧∃ m0,SubB m0 m∧Iv n' m0 H:=rfl
theorem loopQ_c:loopQ Iv k QS1 .cont m H=∃ n',n'<k∧∃ m0,SubB m0 m∧Iv n' m0 H:=rfl
theorem forQ_b:forQ Iv k QS1 .brk m H=QS1 .next m H:=rfl
theorem forQ_r:forQ Iv k QS1 (.ret u) m H=QS1 (.ret u) m H:=rfl
theorem forQ_n:forQ Iv k QS1 .next m H=∃ m0,SubB m0 m∧Iv (k+1) m0 H:=rfl
theorem forQ_c:forQ Iv k QS1 .cont m H=∃ m0,SubB m0 m∧Iv (k+1) m0 H:=rfl
theorem w_tupV:tupV g es v H m KM=iR v fun a=>oE (oT (H a)) fun vs=>bindNames g es vs m KM:=rfl
theorem w_swap:swapV g ys v H m KM=iR v fun a=>oE (oT (H a)) fun vs=>gd (vs.length == ys.length) (bindStrs g ys.reverse vs.reverse m KM):=rfl
theorem w_bNn:bindNames g [] [] m KM=KM m:=rfl
theorem w_bNc:bindNames g (e::es) (v::vs) m KM=oE (nmX e) fun x=>nmL g x fun k=>bindNames g es vs ((k,v)::m) KM:=rfl
theorem w_bSn:bindStrs g [] [] m KM=KM m:=rfl
theorem w_bSc:bindStrs g (x::ys) (v::vs) m KM=nmL g x fun k=>bindStrs g ys vs ((k,v)::m) KM:=rfl
theorem w_augi:augV bop (.int i) v H KH=iI v fun b=>augI bop i b fun i=>KH (.int i) H:=rfl
theorem w_augr:augV bop (.ref p) v H KH=iB v fun b=>opA bop (oE (oL (H p)) fun xs=>xs.length+b.length≤SZ∧KH (.ref p) (upd H p (.list (xs++vInts (toOcts b))))):=rfl
theorem w_fr:freesIn g m ks=ks.all fun p=>!isFree (some p.2)||((m.lookup p.1).isSome&&isCellK (g.kinds.lookup p.1)):=rfl
theorem w_pick:pick ks m=m.filter fun p=>isFree (ks.lookup p.1):=rfl
theorem w_iFfr:isFree (some .free)=true:=rfl
theorem w_iFlo:isFree (some .local)=false:=rfl
theorem w_iFce:isFree (some .cell)=false:=rfl
theorem w_iFgl:isFree (some .globalImplicit)=false:=rfl
theorem w_iFn:isFree none=false:=rfl
theorem w_iCc:isCellK (some .cell)=true:=rfl
theorem w_iCf:isCellK (some .free)=true:=rfl
theorem w_iCl:isCellK (some .local)=false:=rfl
theorem w_cab:callable g (.bi n)=true:=rfl
theorem w_cat:callable g (.ty n)=(n != "bytearray" || g.ba):=rfl
theorem w_cag:callable g (.gl k)=(g.gam k).isSome:=rfl
theorem w_car:callable g (.ref p)=(g.fnv p).isSome:=rfl
theorem w_SlNa:isSlice (.Name x pp)=false:=rfl
theorem w_SlCo:isSlice (.Constant cc k pp)=false:=rfl
theorem w_SlBi:isSlice (.BinOp e bop a pp)=false:=rfl
theorem w_SlUn:isSlice (.UnaryOp uo e pp)=false:=rfl
theorem w_SlCa:isSlice (.Call e rs kws pp)=false:=rfl
theorem w_SlSu:isSlice (.Subscript e a pp)=false:=rfl
theorem w_SlIf:isSlice (.IfExp e a c pp)=false:=rfl
theorem w_SlAt:isSlice (.Attribute e x pp)=false:=rfl
theorem w_SlSl:isSlice (.Slice oe of og pp)=true:=rfl
theorem w_AtNa:isAttr (.Name x pp)=false:=rfl
theorem w_AtCa:isAttr (.Call e rs kws pp)=false:=rfl
theorem w_AtAt:isAttr (.Attribute e x pp)=true:=rfl
theorem w_isName:isName e=(nmX e).isSome:=rfl
theorem w_poN:posOk (.Name x pp) pq=true:=rfl
theorem w_poA:posOk (.Attribute e x pp) pq=(pp.endLine == pq.line):=rfl
theorem w_noS:noStar es=es.all notStar:=rfl
theorem w_nSNa:notStar (.Name x pp)=true:=rfl
theorem w_nSCo:notStar (.Constant cc k pp)=true:=rfl
theorem w_nSBi:notStar (.BinOp e bop a pp)=true:=rfl
theorem w_nSUn:notStar (.UnaryOp uo e pp)=true:=rfl
theorem w_nSBo:notStar (.BoolOp bo rs pp)=true:=rfl
theorem w_nSIf:notStar (.IfExp e a c pp)=true:=rfl
theorem w_nSCm:notStar (.Compare e ops rs pp)=true:=rfl
theorem w_nSLi:notStar (.List rs pp)=true:=rfl
theorem w_nSTu:notStar (.Tuple rs k pp)=true:=rfl
theorem w_nSSu:notStar (.Subscript e a pp)=true:=rfl
theorem w_nSCa:notStar (.Call e rs kws pp)=true:=rfl
theorem w_nSAt:notStar (.Attribute e x pp)=true:=rfl
theorem w_nSLc:notStar (.ListComp e gs sc pp)=true:=rfl
theorem w_itrC:iterKind g (.Call e es kws pp)=itKind g e:=rfl
theorem w_itrNa:iterKind g (.Name x pp) = .plain:=rfl
theorem w_itrSu:iterKind g (.Subscript e a pp) = .plain:=rfl
theorem w_itrTu:iterKind g (.Tuple rs k pp) = .plain:=rfl
theorem w_itrLi:iterKind g (.List rs pp) = .plain:=rfl
theorem w_itrBi:iterKind g (.BinOp e bop a pp) = .plain:=rfl
theorem w_itrLc:iterKind g (.ListComp e gs sc pp) = .plain:=rfl
theorem w_itrIf:iterKind g (.IfExp e a c pp) = .plain:=rfl
theorem w_lm1:lastMarks [o1] [e]=behindInMarks o1 e:=rfl
theorem w_lm2:lastMarks (o1::o2::ops) (e::a::es)=lastMarks (o2::ops) (a::es):=rfl
theorem w_bhNa:behindInMarks o1 (.Name x pp)=false:=rfl
theorem w_bhCo:behindInMarks o1 (.Constant cc k pp)=false:=rfl
theorem w_bhBi:behindInMarks o1 (.BinOp e bop a pp)=false:=rfl
theorem w_bhUn:behindInMarks o1 (.UnaryOp uo e pp)=false:=rfl
theorem w_bhLi:behindInMarks o1 (.List rs pp)=false:=rfl
theorem w_bhTu:behindInMarks o1 (.Tuple rs k pp)=false:=rfl
theorem w_bhSu:behindInMarks o1 (.Subscript e a pp)=false:=rfl
theorem w_bhCa:behindInMarks o1 (.Call e rs kws pp)=false:=rfl
theorem w_bhAt:behindInMarks o1 (.Attribute e x pp)=false:=rfl
theorem w_bhLc:behindInMarks o1 (.ListComp e gs sc pp)=false:=rfl
theorem w_bhCm:behindInMarks o1 (.Compare e ops rs pp)=false:=rfl
theorem w_bhBo:behindInMarks o1 (.BoolOp bo rs pp)=false:=rfl
theorem w_bhIf:behindInMarks o1 (.IfExp e a c pp)=false:=rfl
theorem wE_co:wE (.Constant cc k pp) g m H KH X=constV cc fun v=>KH v H:=rfl
theorem wE_na:wE (.Name x pp) g m H KH X=nameV g x m fun v=>KH v H:=rfl
theorem wE_bi:wE (.BinOp e bop a pp) g m H KH X=wE e g m H (fun u H1=>wE a g m H1 (fun b H2=>binop bop u b H2 KH) X) X:=rfl
theorem wE_un:wE (.UnaryOp uo e pp) g m H KH X=wE e g m H (fun a H1=>unop uo a H1 KH) X:=rfl
theorem wE_bo:wE (.BoolOp bo es pp) g m H KH X=wB es bo g m H KH X:=rfl
theorem wE_if:wE (.IfExp e a c pp) g m H KH X=wE e g m H (fun v H1=>truthyV v H1 fun b=>if b then wE a g m H1 KH X else wE c g m H1 KH X) X:=rfl
theorem wE_cm:wE (.Compare e ops rs pp) g m H KH X=gd (!lastMarks ops rs) (wE e g m H (fun a H1=>wC rs a ops g m H1 KH X) X):=rfl
theorem wE_li:wE (.List es pp) g m H KH X=wL es g m H (fun vs H1=>gd (nB vs.length) (∀ a,H1 a=none→KH (.ref a) (upd H1 a (.list vs)))) X:=rfl
theorem wE_tu:wE (.Tuple es k pp) g m H KH X=wL es g m H (fun vs H1=>gd (nB vs.length) (∀ a,H1 a=none→KH (.ref a) (upd H1 a (.tuple vs)))) X:=rfl
theorem wE_su:wE (.Subscript e a pp) g m H KH X=wE e g m H (fun ov H1=>match isSlice a with
   | true=>wSl a g m H1 (fun l u H2=>sliceop ov l u H2 KH) X
   | false=>wE a g m H1 (fun iv H2=>indexop ov iv H2 KH) X) X:=rfl
theorem wE_ca:wE (.Call e es kws pp) g m H KH X=gd (kws.isEmpty&&(g.hd&&(posOk e pp&&(nB es.length&&noStar es)))) (match isAttr e with
   | true=>wAt e g m H (fun name ov H1=>oE (recv name ov H1) fun k=>gd (mkOk g k) (wL es g m H1 (fun vs H2=>methop k ov vs H2 KH) X)) X
   | false=>wE e g m H (fun fv H1=>gd (callable g fv) (wL es g m H1 (fun vs H2=>callop g fv vs H2 KH X) X)) X):=rfl
theorem wE_at:wE (.Attribute e x pp) g m H KH X=gd (isName e) (wE e g m H (fun ov H1=>attrop g ov x fun v=>KH v H1) X):=rfl
theorem wE_lc:wE (.ListComp e (co::gs) sc pp) g m H KH X=gd (g.hd&&gs.isEmpty) (compNames sc=true∧gd (freesIn g.bare m (kindsOf sc)) (wG co g.bare m H (fun its _ H1=>its.length≤SZ∧∃ f:It→Option V,(∀ it∈its,wGi co { g.bare with kinds:=kindsOf sc } it (pick (kindsOf sc) m) H1 (fun ok m'=>if ok then wE e { g.bare with kinds:=kindsOf sc } m' H1 (fun v H2=>H2=H1∧f it=some v) (fun _ _=>False) else f it=none)) ∧
    ∀ a,H1 a=none→KH (.ref a) (upd H1 a (.list (its.filterMap f)))))):=rfl
theorem wL_n:wL [] g m H KL X=KL [] H:=rfl
theorem wL_c:wL (e::es) g m H KL X=wE e g m H (fun v H1=>wL es g m H1 (fun vs H2=>KL (v::vs) H2) X) X:=rfl
theorem wB_1:wB [e] bo g m H KH X=wE e g m H (fun v H1=>KH v H1) X:=rfl
theorem wB_2:wB (e::a::es) bo g m H KH X=wE e g m H (fun v H1=>truthyV v H1 fun b=>(match bo with
   | .And=>if b then wB (a::es) bo g m H1 KH X else KH v H1
   | .Or=>if b then KH v H1 else wB (a::es) bo g m H1 KH X)) X:=rfl
theorem wC_1:wC [e] v (o1::ops) g m H KH X=gd (ops.isEmpty == true) (wE e g m H (fun b H1=>cmpop o1 v b H1 fun c=>KH (.bool c) H1) X):=rfl
theorem wC_2:wC (e::a::rs) v (o1::ops) g m H KH X=gd (ops.isEmpty == false) (wE e g m H (fun b H1=>cmpop o1 v b H1 fun c=>if c then wC (a::rs) b ops g m H1 KH X else KH (.bool false) H1) X):=rfl
theorem wO_n:wO none g m H KH X=KH .none H:=rfl
theorem wO_s:wO (some e) g m H KH X=wE e g m H KH X:=rfl
theorem wG_c:wG ⟨e,a,es,i⟩ g m H KG=gd (i == 0) (match iterKind g a with
  | .range=>wIt a g m H (fun vs H1=>rangeV vs fun its=>KG its noH H1)
  | .enum=>wIt a g m H (fun vs H1=>enumV vs H1 fun its Hs=>KG its Hs H1)
  | .plain=>wE a g m H (fun v H1=>itemsOf v H1 fun its Hs=>KG its Hs H1) (fun _ _=>False)):=rfl
theorem wIt_c:wIt (.Call e es kws pp) g m H KL=gd (kws.isEmpty&&(g.hd&&noStar es)) (wL es g m H KL (fun _ _=>False)):=rfl
theorem wSl_s:wSl (.Slice oe of og pp) g m H KS X=gd og.isNone (wO oe g m H (fun l H2=>wO of g m H2 (fun u H3=>KS l u H3) X) X):=rfl
theorem wAt_a:wAt (.Attribute e x pp) g m H KAt X=gd (isName e) (wE e g m H (fun ov H1=>KAt x ov H1) X):=rfl
theorem wGi_1:wGi ⟨e,a,[],i⟩ g it m H KBM=bindIt g e it m H fun m'=>KBM true m':=rfl
theorem wGi_2:wGi ⟨e,a,c::es,i⟩ g it m H KBM=bindIt g e it m H fun m'=>gd es.isEmpty (wE c g m' H (fun v H1=>truthyV v H1 fun b=>H1=H∧KBM b m') (fun _ _=>False)):=rfl
theorem SubB_n:SubB [] m=True:=rfl
theorem SubB_c:SubB (pr::ml) m=(m.lookup pr.1=some pr.2∧SubB ml m):=rfl
end
theorem isInts_vI {ns:List Int}:isInts (vInts ns)=some ns:=isInts_vInts ns
theorem at_0 {u:V} {vs:List V}:at? (u::vs) 0=some u:=by
 unfold at? pyIx
 rw [if_pos ⟨by decide,by simp⟩];rfl
theorem rcO_la {vs:List V}:rcO (Str.ofString "append") (some (.list vs))=some .append:=by kernel_rfl
theorem rcO_li {vs:List V}:rcO (Str.ofString "insert") (some (.list vs))=some .insert:=by kernel_rfl
theorem rcO_le {vs:List V}:rcO (Str.ofString "extend") (some (.list vs))=some .extend:=by kernel_rfl
theorem rcO_ba {s:List UInt8}:rcO (Str.ofString "append") (some (.barr s))=some .bappend:=by kernel_rfl
theorem mpr_k {a b:Prop} (h:a=b) (k:b):a:=h▸k
theorem kit_t {α:Sort _} {a b:α}:(if (true=true) then a else b)=a:=rfl
theorem kit_f {α:Sort _} {a b:α}:(if (false=true) then a else b)=b:=rfl
end DL
end
section
namespace DL
variable {C:Cx} {sha:Addr} {fm:Addr→Option Int}
theorem kindsOf_mk {k:ScopeKind} {n:List (Str×NameKind)} {a b:Bool} {c}:kindsOf { kind:=k,names:=n,isGenerator:=a,isCoroutine:=b,more:=c }=n.filterMap fun x=>(nmc x.1).map fun k=>(k,x.2):=rfl
noncomputable def itI (f:Int→Int):It→Option V
 | .one (.int i)=>some (.int (f i))
 | _=>none
theorem forall_range {lo hi:Int} {p:It→Prop}:(∀ it∈rangeOf lo hi,p it)↔∀ k:Nat,k<(hi-lo).toNat→p (.one (.int (lo+k))):=by
 unfold rangeOf
 constructor
 ·intro h k hk
  exact h _ (List.mem_map_of_mem (f:=fun (k:Nat)=>It.one (.int (lo+(k:Int)))) (List.mem_range.mpr hk))
 ·intro h it hit
  obtain ⟨k,hk,rfl⟩:=List.mem_map.mp hit
  exact h k (List.mem_range.mp hk)
theorem range_itI {lo hi:Int} {f:Int→Int}:(rangeOf lo hi).filterMap (itI f)=vInts ((List.range (hi-lo).toNat).map fun (k:Nat)=>f (lo+(k:Int))):=by
 unfold rangeOf vInts
 rw [List.filterMap_map,List.map_map]
 induction List.range (hi-lo).toNat with
 | nil=>rfl
 | cons a r ih=>simp [itI,ih]
theorem range_len {lo hi:Int}:(rangeOf lo hi).length=(hi-lo).toNat:=by simp [rangeOf]
theorem octs_nil:octs []↔True:=⟨fun _=>trivial,fun _ i h=>by cases h⟩
theorem octs_cons {i:Int} {r:List Int}:octs (i::r)↔(0≤i∧i<256)∧octs r :=
 ⟨fun h=>⟨h i (.head _),fun j hj=>h j (.tail _ hj)⟩,fun h j hj=>by
  rcases List.mem_cons.mp hj with rfl | hj
  ·exact h.1
  ·exact h.2 j hj⟩
theorem ofOcts_len {l:List Int}:(ofOcts l).length=l.length:=by simp [ofOcts]
theorem toOcts_len {l:List UInt8}:(toOcts l).length=l.length:=by simp [toOcts]
theorem rep_len {k:Nat} {l:List UInt8}:(List.replicate k l).flatten.length=k*l.length:=by simp
theorem SZ_eq:SZ=1000000:=rfl
theorem pow_le_pow {a b:Nat} (h:a≤b):(2:Int)^a≤2^b:=by
 have:(2:Nat)^a≤2^b:=Nat.pow_le_pow_right (by decide) h
 exact_mod_cast this
theorem lt_DIV {i:Int} (h:i<18446744073709551616):i<DIV:=by
 have e:(2:Int)^64≤DIV:=by unfold DIV;exact pow_le_pow (by decide)
 have:(2:Int)^64=18446744073709551616:=by decide
 lia
theorem lt_BIG {i:Int} (h:i<18446744073709551616):i<BIG:=by
 have e:(2:Int)^64≤BIG:=by unfold BIG;exact pow_le_pow (by decide)
 have:(2:Int)^64=18446744073709551616:=by decide
 lia
theorem gt_BIG {i:Int} (h:-18446744073709551616<i):-BIG<i:=by
 have e:(2:Int)^64≤BIG:=by unfold BIG;exact pow_le_pow (by decide)
 have:(2:Int)^64=18446744073709551616:=by decide
 lia
end DL
end
section
namespace DL
end DL
end
local macro_rules | `(tactic| k_call_by $s:str [$xs,*])=>do
 let y:=s.getString
 if y != "x" && y != "y" then Lean.Macro.throwUnsupported
 let w (s:String):=(s.splitOn " ").toArray.map fun x=>Lean.mkIdent x.toName
 let ks:=w ("kit_t kit_f rcO_la rcO_li rcO_le rcO_ba List.zip_cons_cons List.zip_nil_left List.zip_nil_right List.length_cons List.length_nil Option.map_some Nat.reduceAdd Int.reduceToNat Int.reduceNeg Bool.true_or Bool.false_or List.isEmpty_nil List.isEmpty_cons kindsOf_mk List.filterMap_cons List.filterMap_nil List.filter_cons List.filter_nil Option.isSome_some List.lookup_cons Nat.reduceBEq g_kinds g_hd g_gam g_fnv g_ba Ge.bare g_forms gl_1 gl_31 gl_33 gl_34 gl_49 gl_57 gl_65 gl_86 gl_42 gl_58 gl_64 gl_67 gl_78 gl_98 gl_101 gl_103 gl_30 gl_7 gl_6 gl_80 gl_8 gl_15 gl_24 gl_16 gl_22 gl_20 gl_23 gl_25 gl_14 gl_13 gl_12 gl_11 gl_21 gl_17 gl_9 gl_18 gl_19 gl_10 gl_2 gl_4 gl_5 nm_ApplyDeltaError nm_AssertionError nm_OFS_DELTA nm_ObjectFormat nm_REF_DELTA nm_SHA1 nm_decode_delta_base_offset nm_decode_object_header nm_delta_encode_size nm_law_back nm_law_barred nm_law_cut nm_law_found nm_law_halved nm_law_key nm_law_kinds nm_law_name nm_law_next nm_law_open nm_law_read nm_law_row nm_law_taken nm_law_turned nm_law_value nm_law_wide nm_law_written nm_asked nm_at nm_b nm_base nm_bisect_find_sha nm_bool nm_byte nm_bytearray nm_bytes nm_c nm_code nm_contents nm_cut nm_data nm_delta_base nm_delta_base_offset nm_divmod nm_draw nm_due nm_edge nm_end nm_entries nm_entry nm_enumerate nm_far nm_file_sha nm_first nm_form nm_header nm_high nm_i nm_int nm_isinstance nm_k nm_kept nm_kind nm_last nm_law nm_len nm_list nm_low nm_max nm_message nm_name nm_name_at nm_names nm_number nm_object_format nm_octet nm_octets nm_offset nm_oid_length nm_ord nm_other nm_pack_object_header nm_part nm_parts nm_place nm_plain nm_pos nm_range nm_raw nm_rest nm_ret nm_row nm_rows nm_script nm_sha nm_shape nm_share nm_shares nm_size nm_sorted nm_start nm_stored nm_sum nm_tail nm_take_msb_bytes_at nm_told nm_turn nm_type_num nm_unpack_name nm_value nm_dot0 Bool.true_and Bool.false_and Bool.not_true Bool.not_false kd_6 kd_7 kd_8 kd_9 kd_10 kd_11 kd_16 kd_17 kd_18 kd_19 kd_20 kd_21 kd_22 kd_23 kd_24 kd_25 kd_26 kd_27 kd_28 kd_29 kd_30 kd_31 kd_32 kd_33 w_gd w_oE w_iI w_iB w_iR w_iT w_l1 w_l2 w_oL w_oSl w_oSi w_oT w_oLTl w_oLTt w_oBa w_tvO w_truthy w_tvn w_tvb w_tvi w_tvB w_tvr w_cn w_cb w_ci w_cs w_cB w_nB0 w_nB1 w_nB2 w_nB3 w_nB4 w_nB5 w_nB6 w_nB7 w_nB8 w_nB9 w_nB10 w_nB11 w_nB12 w_bAdd w_bSub w_bMult w_bFloorDiv w_bMod w_bPow w_bLShift w_bRShift w_bBitAnd w_bBitOr w_aAdd w_aSub w_aMult w_aLShift w_aRShift w_opA w_opM w_addRef w_bini w_binB w_binBi w_binr w_uN w_uS w_pSn w_pSb w_pSi w_pLn w_pLc w_pC w_p1r w_p1i w_p1n w_p1b w_pRl w_pRt w_pL1n w_pL1c w_p2r w_p2i w_p2n w_p2b w_iIn w_iIc w_eqii w_eqBB w_eqr w_eqn w_eqb w_eqir w_eqin w_eqR w_memO w_memR w_isNn w_isNr w_isNi w_isNone w_kEq w_kNe w_kIn w_kNi w_kIsn w_kIs w_kLt w_kGt w_kLe w_kGe w_ltI w_ltB w_atl w_ati w_att w_ixr w_ixB w_ptn w_pti w_slr w_slB w_lnB w_lnr w_lnR w_isn w_isi w_isB w_bOt w_bOf w_ord bc_len bc_divmod bc_max bc_sum bc_ord bc_isi bc_sorted w_bOl w_bOb tc_bytes_r tc_bytes_b tc_ba0 tc_ba1 tc_list_b tc_list_r w_rc mkOk_a mkOk_i mkOk_e mkOk_b me_append me_insert me_extend me_bappend w_name w_nameR kdV_g kdV_l kdV_c kdV_f callop_bi callop_ty callop_gl callop_ref w_attr w_its w_rg1 w_rg2 w_enum w_nmX w_tuX w_nmXAt w_nmXCa w_nmXTu w_nmXSu w_itk w_itXs w_itXn w_itK w_itVt w_itVb w_itVg w_itVl w_itVc w_itT1 w_itT2 w_itT3 w_bind w_bXs w_bXn w_bT2 w_bT1 w_b2 w_it1 w_nmL w_isLoc seqN_n seqN_r seqN_b seqN_c retQ_r retQ_n retX_e loopQ_b loopQ_r loopQ_n loopQ_c forQ_b forQ_r forQ_n forQ_c w_tupV w_swap w_bNn w_bNc w_bSn w_bSc w_augi w_augr w_fr w_pick w_iFfr w_iFlo w_iFce w_iFgl w_iFn w_iCc w_iCf w_iCl w_cab w_cat w_cag w_car w_SlNa w_SlCo w_SlBi w_SlUn w_SlCa w_SlSu w_SlIf w_SlAt w_SlSl w_AtNa w_AtCa w_AtAt w_isName w_poN w_poA w_noS w_nSNa w_nSCo w_nSBi w_nSUn w_nSBo w_nSIf w_nSCm w_nSLi w_nSTu w_nSSu w_nSCa w_nSAt w_nSLc w_itrC w_itrNa w_itrSu w_itrTu w_itrLi w_itrBi w_itrLc w_itrIf w_lm1 w_lm2 w_bhNa w_bhCo w_bhBi w_bhUn w_bhLi w_bhTu w_bhSu w_bhCa w_bhAt w_bhLc w_bhCm w_bhBo w_bhIf wE_co wE_na wE_bi wE_un wE_bo wE_if wE_cm wE_li wE_tu wE_su wE_ca wE_at wE_lc wL_n wL_c wB_1 wB_2 wC_1 wC_2 wO_n wO_s wG_c wIt_c wSl_s wAt_a wGi_1 wGi_2 SubB_n SubB_c List.all_cons List.all_nil Bool.and_true Int.reduceBEq String.reduceBEq beq_self_eq_true Option.isNone_none Option.isNone_some String.reduceBNe" ++ if y == "y" then " lg" else "")
 let ss:=ks++w "at_0 isInts_vI true_and and_true ne_eq not_true_eq_false not_false_eq_true reduceIte reduceCtorEq String.reduceEq upd_same Nat.reduceLT Nat.reduceLeDiff Nat.reduceEqDiff Int.reduceLT Int.reduceLE Bool.false_eq_true or_true true_or or_false false_or Bool.or_true Bool.or_false SZ_eq octs_cons octs_nil ofOcts_len toOcts_len rep_len decide_eq_true_eq forall_range range_len Int.reduceEq decide_true decide_false Bool.and_true Bool.and_false Bool.and_self"
 `(tactic| (
  (try (refine DL.mpr_k (b:=?kg) ?kh ?kk;(case kh=>(refine (?kF:?kT→?kT) ?ke;(case ke=>conv=>{ lhs;simp (maxSteps:=2000000) only [-eq_self,$[$ks:term],*] });(intro _;kernel_rfl!)))))
  try simp (maxSteps:=2000000) only [$[$ss:term],*,$[$xs:term],*]))
local macro_rules | `(tactic| k_call_by "s" [$xs,*])=>`(tactic| simp only [DL.SubB,List.lookup_cons,Nat.reduceBEq,and_self])
local macro_rules | `(tactic| k_call_by "a" [$xs,*])=>`(tactic| (repeat' first | apply And.intro | (refine fun (a:Addr) (h:_=none)=>?_)))
local macro_rules | `(tactic| k_call_by "o" [$xs,*])=>`(tactic| all_goals try first | omega | exact DL.lt_DIV (by omega) | exact DL.lt_BIG (by omega) | exact DL.gt_BIG (by omega) | (simp only [List.length_append,DL.ofOcts_len,DL.toOcts_len,DL.vInts_len,DL.rep_len,List.length_cons,List.length_nil];omega) | decide)
local macro_rules | `(tactic| k_call_by "p" [$xs,*])=>`(tactic| all_goals try first | omega | exact DL.lt_DIV (by omega) | exact DL.lt_BIG (by omega) | exact DL.gt_BIG (by omega) | (simp only [List.length_append,DL.ofOcts_len,DL.toOcts_len,DL.vInts_len,DL.rep_len,List.length_cons,List.length_nil];lia) | decide)
local macro_rules | `(tactic| k_call_by "q" [$xs,*])=>`(tactic| all_goals try first | lia | exact DL.lt_DIV (by omega) | exact DL.lt_BIG (by omega) | exact DL.gt_BIG (by omega) | (simp only [List.length_append,DL.ofOcts_len,DL.toOcts_len,DL.vInts_len,DL.rep_len,List.length_cons,List.length_nil];omega) | decide)
section
namespace DL
variable {C:Cx} {sha:Addr} {fm:Addr→Option Int}
theorem nameB {k:Int} {n:Nat} (h:2≤k∧k≤60) (hn:59≤n):1+(k-2).toNat*1≤n:=by
 rw [Nat.mul_one];exact Nat.le_trans (Nat.add_le_add_left (Int.toNat_le.mpr (Int.sub_left_le_of_le_add h.2):_≤58) 1) hn
theorem mdN {z:Int} {m n:Nat} (h0:0<m) (h:m≤n+1):(z%(m:Int)-0).toNat≤n:=by
 rw [Int.sub_zero];exact Int.toNat_le.mpr (Int.le_of_lt_add_one (Int.lt_of_lt_of_le (Int.emod_lt_of_pos z (Int.ofNat_lt.mpr h0)) (Int.ofNat_le.mpr h)))
theorem lvq {k j n m:Nat} (h:j<n) (e:m=n-1) (q:k+1≤j):k<m:=e▸Nat.lt_sub_of_add_lt (Nat.lt_of_le_of_lt q h)
noncomputable def lawName (n k:Int):List UInt8:=ofOcts [n%3*127]++(List.replicate (k-2).toNat (ofOcts [n/3%4*42])).flatten++ofOcts [n/12%256]
noncomputable def spLawName:Spec:=fun xs H Q _=>∃ n k:Int,xs=[.int n,.int k]∧(2≤k∧k≤60)∧∀ H',Ext H H'→Q (.bytes (lawName n k)) H'
theorem F_law_name (W:Wd C sha fm) (F:Fk C) (hl:0<C.lv):∀ x,x=fdName 18→∀ u,C.mg x=some u→FnN C u spLawName :=
 fn_ok W F hl (by decide) sc_18 pl_18 [] (by simp) (fun xs H Q X h=>by
  obtain ⟨n,k,rfl,hk,hQ⟩:=h
  refine ⟨rfl,fun C0 mc L a cd P K F1 L1=>?_⟩
  revert W F hl hk hQ K F1 L1
  k_call_by "e" [C,sha,fm,H,Q,X,n,k,C0,mc,L,a,cd,P]
  refine t_cons ?_
  refine t_return K ?_
  k_call_by "x" []
  repeat' first | apply And.intro | intro _
  all_goals first
   | exact nameB hk (by decide)
   | lia
   | exact lt_DIV (by decide)
   | (simp only [List.length_append,ofOcts_len,rep_len,List.length_cons,List.length_nil];omega)
   | exact hQ _ (by repeat' first | exact Ext.refl _ | refine Ext.upd ?_ (by assumption)))
noncomputable def spLawKinds:Spec:=fun xs H Q _=>xs=[]∧∀ a,H a=none→Q (.ref a) (upd H a (.list (vInts [1,6,2,7,3,6,4,7])))
theorem F_law_kinds (W:Wd C sha fm) (F:Fk C) (hl:0<C.lv):∀ x,x=fdName 16→∀ u,C.mg x=some u→FnN C u spLawKinds :=
 fn_ok W F hl (by decide) sc_16 pl_16 [] (by simp) (fun xs H Q X h=>by
  obtain ⟨rfl,hQ⟩:=h
  refine ⟨rfl,fun C0 mc L a cd P K F1 L1=>?_⟩
  refine t_cons ?_
  refine t_return K ?_
  k_call_by "x" []
  intro a ha
  exact hQ a ha)
end DL
end
section
namespace DL
variable {C:Cx} {sha:Addr} {fm:Addr→Option Int}
noncomputable def ofsEdge (k:Nat):Int:=((List.range k).map fun (j:Nat)=>(128:Int)^(1+j)).sum
noncomputable def lawWide (n:Int):Int :=
 if n%4=0 then n/4%300 else if n%4=1 then n/4%10^17
 else max 0 ((if n%4=3 then ofsEdge (n/4*4%9).toNat else 2^(n/4*7%59).toNat)+(n/4+2)%5-2)
noncomputable def spLawWide:Spec:=fun xs H Q _=>∃ n:Int,xs=[.int n]∧∀ H',Ext H H'→Q (.int (lawWide n)) H'
theorem F_law_wide (W:Wd C sha fm) (F:Fk C) (hl:0<C.lv):∀ x,x=fdName 17→∀ u,C.mg x=some u→FnN C u spLawWide :=
 fn_ok W F hl (by decide) sc_17 pl_17 [] (by simp) (fun xs H Q X h=>by
  obtain ⟨n,rfl,hQ⟩:_:=h
  revert W F hl hQ
  k_call_by "e" [C,sha,fm,H,Q,X,n]
  refine ⟨rfl,fun C0 mc L a cd P K F1 L1=>?_⟩
  obtain u0:=()
  revert W F hl hQ K F1 L1
  k_call_by "e" [C,sha,fm,H,Q,X,n,C0,mc,L,a,cd,P,u0]
  refine t_cons ?_
  refine t_tuple K rfl ?_
  k_call_by "x" []
  refine ⟨lt_DIV (by decide),fun c hc=>?_⟩
  obtain u90:=()
  revert hc
  k_call_by "e" [c,u90]
  have hE:Ext H (upd H c (.tuple [.int (n/4),.int (n%4)])):=(Ext.refl H).upd hc
  generalize upd H c (.tuple [.int (n/4),.int (n%4)])=H1 at hE
  refine t_cons ?_
  refine t_if K ?_
  k_call_by "x" []
  split
  ·rename_i h0
   refine t_cons ?_
   refine t_return K ?_
   k_call_by "x" []
   rw [show n/4%300=lawWide n by unfold lawWide;rw [if_pos h0]]
   exact hQ _ hE
  ·rename_i h0
   refine t_nil ?_
   k_call_by "x" []
   refine t_cons ?_
   refine t_if K ?_
   k_call_by "x" []
   split
   ·rename_i h1
    refine t_cons ?_
    refine t_return K ?_
    k_call_by "x" []
    refine ⟨by decide,by decide,?_⟩
    rw [show n/4%10^17=lawWide n by unfold lawWide;rw [if_neg h0,if_pos h1]]
    exact hQ _ hE
   ·rename_i h1
    refine t_nil ?_
    k_call_by "x" []
    refine t_cons ?_
    refine t_assign K L1 ⟨nm_edge,.inl (by rw [g_kinds,kd_17];rfl)⟩ ?_
    k_call_by "x" []
    k_call_by "a" []
    all_goals try first | grind | exact lt_DIV (by omega) | exact lt_BIG (by omega) | exact gt_BIG (by omega) | (simp only [List.length_append,ofOcts_len,toOcts_len,vInts_len,rep_len,List.length_cons,List.length_nil];omega) | decide
    refine t_cons ?_
    refine t_if K ?_
    k_call_by "x" []
    split
    ·rename_i h2
     refine t_cons ?_
     refine t_assign K L1 ⟨nm_edge,.inl (by rw [g_kinds,kd_17];rfl)⟩ ?_
     k_call_by "x" []
     have hle:(1+n/4*4%9-1).toNat≤9:=by rw [Int.add_comm,Int.add_sub_cancel];exact Int.toNat_le.mpr (Int.le_of_lt (Int.emod_lt_of_pos _ (by decide)))
     refine ⟨by kernel_rfl,by simp,by grind,Nat.le_trans hle (by decide),itI (fun i=>128^i.toNat),fun k hk=>⟨⟨Int.natCast_nonneg (1+k),Int.ofNat_le.mpr (Nat.le_trans (Nat.add_le_add_left (Nat.le_of_lt (Nat.lt_of_lt_of_le hk hle)) 1) (by decide)),by decide⟩,rfl⟩,fun a1 ha1=>?_⟩
     rw [range_itI,isInts_vI]
     refine t_nil ?_
     k_call_by "x" []
     refine t_cons ?_
     refine t_return K ?_
     k_call_by "x" []
     have e:((List.range (1+n/4*4%9-1).toNat).map fun (k:Nat)=>(128:Int)^(1+(k:Int)).toNat).sum=ofsEdge (n/4*4%9).toNat:=by
      unfold ofsEdge
      rw [show (1+n/4*4%9-1).toNat=(n/4*4%9).toNat by rw [Int.add_comm,Int.add_sub_cancel]]
      congr 1
      try (refine List.map_congr_left fun k _=>?_;rw [show (1+(k:Int)).toNat=1+k by omega])
     have e2:lawWide n=max 0 (ofsEdge (n/4*4%9).toNat+(n/4+2)%5-2):=by unfold lawWide;rw [if_neg h0,if_neg h1,if_pos h2]
     rw [e,← e2]
     exact hQ _ (hE.upd ha1)
    ·rename_i h2
     refine t_nil ?_
     k_call_by "x" []
     refine t_cons ?_
     refine t_return K ?_
     k_call_by "x" []
     have e2:lawWide n=max 0 (2^(n/4*7%59).toNat+(n/4+2)%5-2):=by unfold lawWide;rw [if_neg h0,if_neg h1,if_neg h2]
     rw [← e2]
     exact hQ _ hE)
end DL
end
section
namespace DL
variable {C:Cx} {sha:Addr} {fm:Addr→Option Int}
theorem over_ext {H H':Hp} {a:Addr} {o:O} (x:Ext H H') (hn:H a=Option.none):Ext H (upd H' a o):=fun b p e=>by
 rw [upd_ne (fun q=>by rw [q,hn] at e;cases e)];exact x b p e
theorem and127 (x:Int):Builtin.bitAnd x 127=x%128:=bitAnd_m7 x
theorem and15 (x:Int):Builtin.bitAnd x 15=x%16:=bitAnd_m4 x
theorem and7 (x:Int):Builtin.bitAnd x 7=x%8:=bitAnd_m3 x
theorem h128 {x:Int} (h:128≤x∧x<256):∃ z:Nat,z<128∧x%128=z∧x=z+128:=by
 obtain ⟨z,hz⟩:=Int.eq_ofNat_of_zero_le (Int.sub_nonneg_of_le h.1)
 obtain rfl:x=z+128:=Int.sub_eq_iff_eq_add.mp hz
 have hl:z<128:=Int.ofNat_lt.mp (Int.lt_of_add_lt_add_right h.2)
 exact ⟨z,hl,congrArg Nat.cast (show (z+128)%128=z by rw [Nat.add_mod_right,Nat.mod_eq_of_lt hl]),rfl⟩
theorem oct128 {c:Nat} (h:c<128):0≤(c:Int)+128∧(c:Int)+128<256:=⟨Int.natCast_nonneg (c+128),Int.ofNat_lt.mpr (Nat.add_lt_add_right h 128)⟩
theorem octN {c:Nat} (h:c<128):0≤(c:Int)∧(c:Int)<256:=⟨Int.natCast_nonneg c,Int.ofNat_lt.mpr (Nat.lt_trans h (by decide))⟩
theorem len_lt {a b l:List Int} (e:l=a++b) (hb:b≠[]):a.length<l.length:=by rw [e,List.length_append];exact Nat.lt_add_of_pos_right (List.length_pos_iff.mpr hb)
theorem div128 {n:Nat} (h:¬ n<128):n/128<n:=Nat.div_lt_self (Nat.lt_of_lt_of_le (by decide) (Nat.not_lt.mp h)) (by decide)
theorem div0 {n:Nat} (h:n≠0):n/128<n:=Nat.div_lt_self (Nat.pos_of_ne_zero h) (by decide)
theorem and128_lo {x:Int} (h0:0≤x) (h1:x<128):Builtin.bitAnd x 128=0:=by
 rw [bitAnd_pp h0 (by decide)]
 have:∀ n:Fin 128,n.val &&& 128=0:=by decide
 have:=this ⟨x.toNat,by simp [*]⟩
 simp only at this
 show ((x.toNat &&& 128:Nat):Int)=0
 rw [this];rfl
theorem and128_hi {x:Int} (h0:128≤x) (h1:x<256):Builtin.bitAnd x 128=128:=by
 have this:∀ n:Fin 128,(n.val+128) &&& 128=128:=by decide
 obtain ⟨z,hz,_,rfl⟩:=h128 ⟨h0,h1⟩
 exact (bitAnd_pp (Int.natCast_nonneg (z+128)) (by decide)).trans (congrArg Nat.cast (this ⟨z,hz⟩))
theorem or128 {x:Int} (h0:0≤x) (h1:x<128):Builtin.bitOr x 128=x+128:=by
 rw [bitOr_and,and128_lo h0 h1];simp
theorem or128' {x:Int} (h0:0≤x) (h1:x<128):Builtin.bitOr 128 x=x+128:=by
 rw [bitOr_comm];exact or128 h0 h1
noncomputable def enc7F:Nat→Nat→List Int
 | 0,_=>[]
 | f+1,n=>if n<128 then [(n:Int)] else (((n%128:Nat):Int)+128)::enc7F f (n/128)
theorem enc7F_eq:∀ f g n:Nat,n<f→n<g→enc7F f n=enc7F g n
 | 0,_,_,h,_=>absurd h (Nat.not_lt_zero _)
 | _,0,_,_,h=>absurd h (Nat.not_lt_zero _)
 | f+1,g+1,n,h1,h2=>by
  show (if n<128 then _ else _::enc7F f (n/128))=if n<128 then _ else _::enc7F g (n/128)
  by_cases h:n<128
  ·rw [if_pos h,if_pos h]
  ·rw [if_neg h,if_neg h,enc7F_eq f g (n/128) (Nat.lt_of_lt_of_le (div128 h) (Nat.le_of_lt_succ h1)) (Nat.lt_of_lt_of_le (div128 h) (Nat.le_of_lt_succ h2))]
noncomputable def enc7 (n:Nat):List Int:=enc7F (n+1) n
theorem enc7_lo {n:Nat} (h:n<128):enc7 n=[(n:Int)]:=if_pos h
theorem enc7_hi {n:Nat} (h:¬ n<128):enc7 n=(((n%128:Nat):Int)+128)::enc7 (n/128) :=
 (if_neg h).trans (congrArg _ (enc7F_eq n (n/128+1) (n/128) (div128 h) (Nat.lt_succ_self _)))
theorem enc7_lo' {n:Nat} (h:n/128=0):enc7 n=[((n%128:Nat):Int)]:=by
 have h:=Nat.lt_of_div_eq_zero (by decide) h
 rw [enc7_lo h,Nat.mod_eq_of_lt h]
theorem enc7_hi' {n:Nat} (h:¬ n/128=0):enc7 n=(((n%128:Nat):Int)+128)::enc7 (n/128):=enc7_hi fun q=>h (Nat.div_eq_of_lt q)
theorem ofOcts_app {a b:List Int}:ofOcts a++ofOcts b=ofOcts (a++b):=by simp [ofOcts]
theorem ofOcts_one {i:Int}:[UInt8.ofNat i.toNat]=ofOcts [i]:=rfl
noncomputable def spDeltaSize:Spec:=fun xs H Q _=>∃ n:Nat,xs=[.int n]∧(enc7 n).length≤400∧∀ H',Ext H H'→Q (.bytes (ofOcts (enc7 n))) H'
noncomputable def invDelta (H:Hp) (a:Addr) (n0:Nat) (n:Nat) (m:Loc) (H1:Hp):Prop :=
 ∃ (c:Nat) (acc:List Int),m=[(97,.int n),(35,.int c),(89,.ref a)]∧c<128∧Ext H H1∧H1 a=some (.barr (ofOcts acc)) ∧
  enc7 n0=acc++(if n=0 then [(c:Int)] else ((c:Int)+128)::enc7 n)
theorem F_delta_size (W:Wd C sha fm) (F:Fk C) (hl:0<C.lv):∀ x,x=fdName 11→∀ u,C.mg x=some u→FnN C u spDeltaSize :=
 fn_ok W F hl (by decide) sc_11 pl_11 [] (by simp) (fun xs H Q X h=>by
  obtain ⟨n,rfl,hn,hQ⟩:=h
  revert W F hl hn hQ
  k_call_by "e" [C,sha,fm,H,Q,X,n]
  refine ⟨rfl,fun C0 mc L a cd P K F1 L1=>?_⟩
  obtain u0:=()
  revert W F hl hn hQ K F1 L1
  k_call_by "e" [C,sha,fm,H,Q,X,n,C0,mc,L,a,cd,P,u0]
  refine t_cons ?_
  refine t_assign K L1 ⟨nm_ret,.inl (by rw [g_kinds,kd_11];rfl)⟩ ?_
  k_call_by "x" []
  intro r hr
  obtain u90:=()
  revert hr
  k_call_by "e" [r,u90]
  refine t_cons ?_
  refine t_assign K L1 ⟨nm_c,.inl (by rw [g_kinds,kd_11];rfl)⟩ ?_
  k_call_by "x" []
  refine t_cons ?_
  refine t_aug K rfl nm_size (by rw [g_kinds,kd_11];rfl) ?_
  k_call_by "x" []
  refine t_cons ?_
  refine t_while K F1 (invDelta H r n) ?_ ?_
  ·refine ⟨n/128,[(97,.int ((n/128:Nat):Int)),(35,.int ((n%128:Nat):Int)),(89,.ref r)],?_,n%128,[],rfl,Nat.mod_lt _ (by decide),over_ext (Ext.refl H) hr,upd_same,?_⟩
   ·have e1:(n:Int)/2^7=((n/128:Nat):Int):=by norm_cast
    have e2:Builtin.bitAnd (n:Int) 127=((n%128:Nat):Int):=by rw [and127];norm_cast
    rw [e1,e2]
    k_call_by "s" []
   ·rw [List.nil_append]
    split
    ·rename_i h0
     exact enc7_lo' h0
    ·rename_i h0
     exact enc7_hi' h0
  ·rintro k m1 H1 ⟨c,acc,rfl,hc,hE,hr1,he⟩
   revert hc hE hr1 he
   k_call_by "e" [k,H1,c,acc]
   have hacc:acc.length<400:=Nat.lt_of_lt_of_le (len_lt he (by split<;>exact List.cons_ne_nil _ _)) hn
   k_call_by "x" []
   split
   ·rename_i h0
    have hk:k≠0:=fun e=>by subst e;simp at h0
    refine t_cons ?_
    refine t_expr K ?_
    k_call_by "x" [hr1]
    have e0:Builtin.bitOr (c:Int) 128=(c:Int)+128:=or128 (by exact Int.natCast_nonneg _) (by exact Int.ofNat_lt.mpr ‹_›)
    rw [e0]
    refine ⟨⟨Nat.lt_trans hacc (by decide),oct128 hc⟩,?_⟩
    refine t_cons ?_
    refine t_assign K L1 ⟨nm_c,.inl (by rw [g_kinds,kd_11];rfl)⟩ ?_
    k_call_by "x" []
    refine t_cons ?_
    refine t_aug K rfl nm_size (by rw [g_kinds,kd_11];rfl) ?_
    k_call_by "x" []
    refine t_nil ?_
    k_call_by "x" []
    refine ⟨k/128,div0 hk,[(97,.int ((k/128:Nat):Int)),(35,.int ((k%128:Nat):Int)),(89,.ref r)],?_,k%128,acc++[(c:Int)+128],rfl,Nat.mod_lt _ (by decide),over_ext hE hr,?_,?_⟩
    ·have e1:(k:Int)/2^7=((k/128:Nat):Int):=by norm_cast
     have e2:Builtin.bitAnd (k:Int) 127=((k%128:Nat):Int):=by rw [and127];norm_cast
     rw [e1,e2]
     k_call_by "s" []
    ·rw [upd_same,ofOcts_one,ofOcts_app]
    ·rw [he,if_neg hk,List.append_assoc]
     congr 1
     rw [List.singleton_append]
     congr 1
     split
     ·rename_i h1
      exact enc7_lo' h1
     ·rename_i h1
      exact enc7_hi' h1
   ·rename_i h0
    have hk:k=0:=Int.ofNat_inj.mp (Decidable.not_not.mp h0)
    refine t_cons ?_
    refine t_expr K ?_
    k_call_by "x" [hr1]
    refine ⟨⟨Nat.lt_trans hacc (by decide),octN hc⟩,?_⟩
    refine t_cons ?_
    refine t_return K ?_
    k_call_by "x" [hr1]
    rw [ofOcts_one,ofOcts_app]
    rw [if_pos hk] at he
    rw [← he]
    exact hQ _ (over_ext hE hr))
end DL
end
section
namespace DL
variable {C:Cx} {sha:Addr} {fm:Addr→Option Int}
theorem head_lt {t n:Nat} (h:t<8):t*16+n%16<128:=Nat.lt_of_lt_of_le (Nat.add_lt_add_left (Nat.mod_lt n (by decide:0<16)) _) (Nat.succ_mul t 16▸Nat.mul_le_mul_right 16 h)
noncomputable def encHead (t n:Nat):List Int:=if n/16=0 then [((t*16+n%16:Nat):Int)] else ((t*16+n%16+128:Nat):Int)::enc7 (n/16)
noncomputable def ofsGF:Nat→Nat→List Int→List Int
 | 0,_,acc=>acc
 | f+1,d,acc=>if d=0 then acc else ofsGF f ((d-1)/128) ((((d-1)%128+128:Nat):Int)::acc)
theorem ofs_le {d f:Nat} (h:d≤f+1):(d-1)/128≤f:=Nat.le_trans (Nat.div_le_self _ _) (Nat.sub_le_of_le_add h)
theorem ofs_lt {d:Nat} (h:d≠0):(d-1)/128<d:=Nat.lt_of_le_of_lt (Nat.div_le_self _ _) (Nat.sub_one_lt h)
theorem ofsGF_eq:∀ (f g d:Nat) (acc:List Int),d≤f→d≤g→ofsGF f d acc=ofsGF g d acc
 | 0,0,_,_,_,_=>rfl
 | 0,g+1,d,acc,h,_=>(if_pos (Nat.le_zero.mp h)).symm
 | f+1,0,d,acc,_,h=>if_pos (Nat.le_zero.mp h)
 | f+1,g+1,d,acc,h1,h2=>by
  show (if d=0 then _ else ofsGF f _ _)=if d=0 then _ else ofsGF g _ _
  by_cases h:d=0
  ·rw [if_pos h,if_pos h]
  ·rw [if_neg h,if_neg h,ofsGF_eq f g _ _ (ofs_le h1) (ofs_le h2)]
noncomputable def ofsGo (d:Nat) (acc:List Int):List Int:=ofsGF d d acc
theorem ofsGo_zero {acc:List Int}:ofsGo 0 acc=acc:=rfl
theorem ofsGo_succ {d:Nat} {acc:List Int} (h:d≠0):ofsGo d acc=ofsGo ((d-1)/128) ((((d-1)%128+128:Nat):Int)::acc):=by
 obtain ⟨k,rfl⟩:=Nat.exists_eq_succ_of_ne_zero h
 exact (ofsGF_eq (k+1) (k+1) _ _ (Nat.le_refl _) (Nat.le_refl _)).trans ((if_neg h:(if k+1=0 then acc else _)=_).trans (ofsGF_eq k _ _ _ (Nat.div_le_self k 128) (Nat.le_refl _)))
noncomputable def encOfs (d:Nat):List Int:=ofsGo (d/128) [((d%128:Nat):Int)]
noncomputable def headOut (t n:Nat) (base:V) (k:Int):Option (List Int) :=
 if t=6 then (match base with | .int d=>some (encHead t n++encOfs d.toNat) | _=>none)
 else if t=7 then (match base with | .bytes b=>if (b.length:Int)=k then some (encHead t n++toOcts b) else none | _=>none)
 else some (encHead t n)
noncomputable def baseOk:V→Prop
 | .none=>True
 | .int d=>0≤d∧(encOfs d.toNat).length≤400
 | .bytes b=>b.length≤1000
 | _=>False
noncomputable def spPack (fm:Addr→Option Int):Spec:=fun xs H Q X=>∃ (t n:Nat) (base:V) (f:Addr) (k:Int),xs=[.int t,base,.int n,.ref f]∧(1≤t∧t<8)∧fm f=some k∧(encHead t n).length≤400∧baseOk base ∧
 (∀ l,headOut t n base k=some l→∀ H' a,Ext H H'→H a=none→H' a=some (.barr (ofOcts l))→Q (.ref a) H') ∧
 (headOut t n base k=none→∀ H',Ext H H'→X .assertion H')
theorem or16 {t r:Nat} (ht:t<8) (hr:r<16):Builtin.bitOr ((t:Int)*16) (r:Int)=((t*16+r:Nat):Int):=by
 have e:((t:Int)*16)=((t*16:Nat):Int):=by norm_cast
 rw [bitOr_and,e,bitAnd_pp (by exact Int.natCast_nonneg _) (by exact Int.natCast_nonneg _)]
 have h:∀ (t:Fin 8) (r:Fin 16),(t.val*16) &&& r.val=0:=by decide
 have:=h ⟨t,ht⟩ ⟨r,hr⟩
 simp only at this
 rw [show (((t*16:Nat):Int)).toNat=t*16 by exact Int.natCast_inj.mp ‹_›,show ((r:Int)).toNat=r by simp,this]
 simp
noncomputable def invHead (H:Hp) (a:Addr) (t n0:Nat) (base:V) (f:Addr) (n:Nat) (m:Loc) (H1:Hp):Prop :=
 ∃ (c:Nat) (acc:List Int),m=[(97,.int n),(35,.int c),(54,.ref a),(106,.int t),(40,base),(73,.ref f)]∧c<128∧Ext H H1∧H1 a=some (.list (vInts acc)) ∧
  encHead t n0=acc++(if n=0 then [(c:Int)] else ((c:Int)+128)::enc7 n)∧∀ i∈acc,0≤i∧i<256
noncomputable def invOfs (H:Hp) (a b:Addr) (t:Nat) (f:Addr) (hd:List Int) (l:List Int) (d:Nat) (m:Loc) (H1:Hp):Prop :=
 ∃ acc:List Int,m=[(40,.int d),(89,.ref b),(54,.ref a),(106,.int t)]∧a≠b∧Ext H H1∧H1 a=some (.list (vInts hd))∧H1 b=some (.list (vInts acc))∧ofsGo d acc=l∧acc.length≤l.length∧∀ i∈acc,0≤i∧i<256
theorem ofsGo_len:∀ (d:Nat) (acc:List Int),acc.length≤(ofsGo d acc).length:=by
 intro d
 induction d using Nat.strongRecOn with
 | ind d ih =>
  intro acc
  by_cases h:d=0
  ·subst h;rw [ofsGo_zero];exact Nat.le_refl _
  ·rw [ofsGo_succ h]
   have:=ih ((d-1)/128) (ofs_lt h) ((((d-1)%128+128:Nat):Int)::acc)
   simp only [List.length_cons] at this
   exact Nat.le_of_lt ‹_›
theorem F_pack (W:Wd C sha fm) (F:Fk C) (hl:0<C.lv):∀ x,x=fdName 10→∀ u,C.mg x=some u→FnN C u (spPack fm) :=
 fn_ok W F hl (by decide) sc_10 pl_10 [] (by simp) (fun xs H Q X h=>by
  obtain ⟨t,n,base,f,k,rfl,ht,hf,hlen,hb,hQ,hX⟩:=h
  refine ⟨rfl,fun C0 mc L a cd P K F1 L1=>?_⟩
  refine t_cons ?_
  refine t_assign K L1 ⟨nm_header,.inl (by rw [g_kinds,kd_10];rfl)⟩ ?_
  k_call_by "x" []
  intro r hr
  refine t_cons ?_
  refine t_assign K L1 ⟨nm_c,.inl (by rw [g_kinds,kd_10];rfl)⟩ ?_
  k_call_by "x" []
  k_call_by "a" []
  all_goals try first | omega | exact lt_DIV (by omega) | exact lt_BIG (by lia) | exact gt_BIG (by exact Int.natCast_nonneg _) | (simp only [List.length_append,ofOcts_len,toOcts_len,vInts_len,rep_len,List.length_cons,List.length_nil];omega) | decide
  refine t_cons ?_
  refine t_aug K rfl nm_size (by rw [g_kinds,kd_10];rfl) ?_
  k_call_by "x" []
  k_call_by "a" []
  k_call_by "o" []
  refine t_cons ?_
  refine t_while K F1 (invHead H r t n base f) ?_ ?_
  ·refine ⟨n/16,[(97,.int ((n/16:Nat):Int)),(35,.int ((t*16+n%16:Nat):Int)),(54,.ref r),(106,.int t),(40,base),(73,.ref f)],?_,t*16+n%16,[],rfl,head_lt ht.2,over_ext (Ext.refl H) hr,upd_same,?_,by simp⟩
   ·have e1:(n:Int)/2^4=((n/16:Nat):Int):=by norm_cast
    have e2:Builtin.bitOr ((t:Int)*2^4) (Builtin.bitAnd (n:Int) 15)=((t*16+n%16:Nat):Int):=by
     rw [and15,show (n:Int)%16=((n%16:Nat):Int) by norm_cast]
     exact or16 ht.2 (Nat.mod_lt _ (by decide))
    rw [e1,e2]
    k_call_by "s" []
   ·rw [List.nil_append]
    unfold encHead
    split<;>simp
  ·rintro k1 m1 H1 ⟨c,acc,rfl,hc,hE,hr1,he,hacc⟩
   have hal:acc.length<400:=Nat.lt_of_lt_of_le (len_lt he (by split<;>exact List.cons_ne_nil _ _)) hlen
   k_call_by "x" []
   split
   ·rename_i h0
    have hk:k1≠0:=fun e=>by subst e;simp at h0
    refine t_cons ?_
    refine t_expr K ?_
    k_call_by "x" [hr1]
    have e0:Builtin.bitOr (c:Int) 128=(c:Int)+128:=or128 (by exact Int.natCast_nonneg _) (by exact Int.ofNat_lt.mpr ‹_›)
    rw [e0]
    k_call_by "a" []
    all_goals try first | omega | exact lt_DIV (by omega) | exact lt_BIG (by omega) | exact gt_BIG (by omega) | (simp only [List.length_append,ofOcts_len,toOcts_len,vInts_len,rep_len,List.length_cons,List.length_nil];exact Nat.lt_trans ‹_› (by decide)) | decide
    refine t_cons ?_
    refine t_assign K L1 ⟨nm_c,.inl (by rw [g_kinds,kd_10];rfl)⟩ ?_
    k_call_by "x" []
    refine t_cons ?_
    refine t_aug K rfl nm_size (by rw [g_kinds,kd_10];rfl) ?_
    k_call_by "x" []
    k_call_by "a" []
    k_call_by "o" []
    refine t_nil ?_
    k_call_by "x" []
    refine ⟨k1/128,div0 hk,[(97,.int ((k1/128:Nat):Int)),(35,.int ((k1%128:Nat):Int)),(54,.ref r),(106,.int t),(40,base),(73,.ref f)],?_,k1%128,acc++[(c:Int)+128],rfl,Nat.mod_lt _ (by decide),over_ext hE hr,?_,?_,?_⟩
    ·have e1:(k1:Int)/2^7=((k1/128:Nat):Int):=by norm_cast
     have e2:Builtin.bitAnd (k1:Int) 127=((k1%128:Nat):Int):=by rw [and127];norm_cast
     rw [e1,e2]
     k_call_by "s" []
    ·rw [upd_same,vInts_one,vInts_app]
    ·rw [he,if_neg hk,List.append_assoc]
     congr 1
     rw [List.singleton_append]
     congr 1
     split
     ·rename_i h1
      exact enc7_lo' h1
     ·rename_i h1
      exact enc7_hi' h1
    ·intro i hi
     rcases List.mem_append.mp hi with hi | hi
     ·exact hacc i hi
     ·rw [List.mem_singleton] at hi;subst hi;exact oct128 hc
   ·rename_i h0
    have hk:k1=0:=Int.ofNat_inj.mp (Decidable.not_not.mp h0)
    rw [if_pos hk] at he
    refine t_cons ?_
    refine t_expr K ?_
    k_call_by "x" [hr1]
    k_call_by "a" []
    all_goals try first | omega | exact lt_DIV (by omega) | exact lt_BIG (by omega) | exact gt_BIG (by omega) | (simp only [List.length_append,ofOcts_len,toOcts_len,vInts_len,rep_len,List.length_cons,List.length_nil];exact Nat.lt_trans ‹_› (by decide)) | decide
    rw [vInts_one,vInts_app,← he]
    have hE2:Ext H (upd H1 r (.list (vInts (encHead t n)))):=over_ext hE hr
    have hr2:upd H1 r (.list (vInts (encHead t n))) r=some (.list (vInts (encHead t n))):=upd_same
    have hoc:∀ i∈encHead t n,0≤i∧i<256:=fun i hi=>by
     rw [he] at hi
     rcases List.mem_append.mp hi with hi | hi
     ·exact hacc i hi
     ·rw [List.mem_singleton] at hi;subst hi;exact octN hc
    generalize upd H1 r (.list (vInts (encHead t n)))=H2 at hE2 hr2
    refine t_cons ?_
    refine t_if K ?_
    k_call_by "x" []
    split
    ·rename_i h6
     have h6':t=6:=by exact Int.natCast_inj.mp ‹_›
     refine t_cons ?_
     refine t_assert K rfl ?_
     cases base with
     | int d =>
      obtain ⟨hd0,hdl⟩:=hb
      obtain ⟨e,rfl⟩:∃ e:Nat,d=e:=⟨d.toNat,by exact (Int.toNat_of_nonneg ‹_›).symm⟩
      k_call_by "x" []
      refine t_cons ?_
      refine t_assign K L1 ⟨nm_ret,.inl (by rw [g_kinds,kd_10];rfl)⟩ ?_
      k_call_by "x" []
      intro b hbn
      have hrb:r≠b:=fun q=>by rw [q,hbn] at hr2;cases hr2
      refine t_cons ?_
      refine t_aug K rfl nm_delta_base (by rw [g_kinds,kd_10];rfl) ?_
      k_call_by "x" []
      k_call_by "a" []
      k_call_by "o" []
      refine t_cons ?_
      have hHb:H b=none:=hE2.none hbn
      refine t_while K F1 (invOfs H r b t f (encHead t n) (encOfs e)) ?_ ?_
      ·refine ⟨e/128,[(40,.int ((e/128:Nat):Int)),(89,.ref b),(54,.ref r),(106,.int t)],?_,[((e%128:Nat):Int)],rfl,hrb,hE2.upd hbn,?_,?_,rfl,ofsGo_len _ _,?_⟩
       ·have e1:(e:Int)/2^7=((e/128:Nat):Int):=by norm_cast
        rw [e1]
        k_call_by "s" []
       ·rw [upd_ne hrb];exact hr2
       ·rw [upd_same,and127];norm_cast
       ·intro i hi;rw [List.mem_singleton] at hi;subst hi;exact octN (Nat.mod_lt _ (by decide))
      ·rintro k2 m2 H3 ⟨acc2,rfl,_,hE3,hr3,hb3,he2,hl2,ho2⟩
       have hl3:acc2.length≤400:=by rw [Int.toNat_natCast] at hdl;exact Nat.le_trans ‹_› ‹_›
       k_call_by "x" []
       split
       ·rename_i h0
        have hk:k2≠0:=fun e=>by subst e;simp at h0
        refine t_cons ?_
        refine t_aug K rfl nm_delta_base (by rw [g_kinds,kd_10];rfl) ?_
        k_call_by "x" []
        refine t_cons ?_
        refine t_expr K ?_
        k_call_by "x" [hb3]
        have e0:Builtin.bitOr 128 (Builtin.bitAnd ((k2:Int)-1) 127)=(((k2-1)%128+128:Nat):Int):=by
         rw [and127,show ((k2:Int)-1)%128=(((k2-1)%128:Nat):Int) from congrArg (·%(128:Int)) (Int.ofNat_sub (Nat.pos_of_ne_zero hk)).symm,or128' (Int.natCast_nonneg _) (Int.ofNat_lt.mpr (Nat.mod_lt _ (by decide)))]
         norm_cast
        rw [e0]
        k_call_by "a" []
        all_goals try first | omega | exact lt_DIV (by omega) | exact lt_BIG (by omega) | exact gt_BIG (by omega) | (simp only [List.length_append,ofOcts_len,toOcts_len,vInts_len,rep_len,List.length_cons,List.length_nil];exact Nat.lt_of_le_of_lt ‹_› (by decide)) | decide
        refine t_cons ?_
        refine t_aug K rfl nm_delta_base (by rw [g_kinds,kd_10];rfl) ?_
        k_call_by "x" []
        k_call_by "a" []
        k_call_by "o" []
        refine t_nil ?_
        k_call_by "x" []
        refine ⟨(k2-1)/128,ofs_lt hk,[(40,.int (((k2-1)/128:Nat):Int)),(89,.ref b),(54,.ref r),(106,.int t)],?_,((((k2-1)%128+128:Nat):Int))::acc2,rfl,hrb,over_ext hE3 hHb,?_,?_,?_,?_,?_⟩
        ·have e1:((k2:Int)-1)/2^7=(((k2-1)/128:Nat):Int):=congrArg (·/(128:Int)) (Int.ofNat_sub (Nat.pos_of_ne_zero hk)).symm
         rw [e1]
         k_call_by "s" []
        ·rw [upd_ne hrb];exact hr3
        ·rw [upd_same];rfl
        ·rw [← he2,ofsGo_succ hk]
        ·rw [← he2,ofsGo_succ hk];exact ofsGo_len _ _
        ·intro i hi
         rcases List.mem_cons.mp hi with rfl | hi
         ·exact oct128 (Nat.mod_lt _ (by decide))
         ·exact ho2 i hi
       ·rename_i h0
        have hk:k2=0:=Int.ofNat_inj.mp (Decidable.not_not.mp h0)
        subst hk
        rw [ofsGo_zero] at he2
        refine t_cons ?_
        refine t_expr K ?_
        k_call_by "x" [hr3,hb3]
        k_call_by "a" []
        k_call_by "p" []
        refine t_nil ?_
        k_call_by "x" []
        refine t_cons ?_
        refine t_return K ?_
        rw [vInts_app]
        k_call_by "x" [isInts_vInts]
        refine ⟨fun i hi=>?_,fun b1 hb1=>?_⟩
        ·rcases List.mem_append.mp hi with hi | hi
         ·exact hoc i hi
         ·exact ho2 i hi
        ·have hE4:Ext H (upd H3 r (.list (vInts (encHead t n++acc2)))):=over_ext hE3 hr
         exact hQ _ (by unfold headOut;rw [if_pos h6',he2];rfl) _ b1 (hE4.upd hb1) (hE4.none hb1) upd_same
     | none =>
      k_call_by "x" []
      exact hX (by unfold headOut;rw [if_pos h6']) _ hE2
     | bytes b =>
      k_call_by "x" []
      exact hX (by unfold headOut;rw [if_pos h6']) _ hE2
     | _=>exact hb.elim
    ·rename_i h6
     have h6':t≠6:=fun q=>h6 (by rw [q];rfl)
     refine t_cons ?_
     refine t_if K ?_
     k_call_by "x" []
     split
     ·rename_i h7
      have h7':t=7:=by exact Int.natCast_inj.mp ‹_›
      refine t_cons ?_
      refine t_assert K rfl ?_
      cases base with
      | bytes b =>
       have hb:b.length≤1000:=hb
       k_call_by "x" []
       refine t_cons ?_
       refine t_assert K rfl ?_
       k_call_by "x" [hf]
       by_cases hbl:(b.length:Int)=k
       ·simp only [hbl,decide_true,if_true]
        refine t_cons ?_
        refine t_aug K rfl nm_header (by rw [g_kinds,kd_10];rfl) ?_
        k_call_by "x" [hr2]
        k_call_by "a" []
        k_call_by "p" []
        refine t_nil ?_
        k_call_by "x" []
        refine t_nil ?_
        k_call_by "x" []
        refine t_cons ?_
        refine t_return K ?_
        rw [vInts_app]
        k_call_by "x" [isInts_vInts]
        refine ⟨fun i hi=>?_,fun b1 hb1=>?_⟩
        ·rcases List.mem_append.mp hi with hi | hi
         ·exact hoc i hi
         ·obtain ⟨c8,_,rfl⟩:=List.mem_map.mp hi
          exact ⟨Int.natCast_nonneg _,Int.ofNat_lt.mpr c8.toNat_lt⟩
        ·have hE4:Ext H (upd H2 r (.list (vInts (encHead t n++toOcts b)))):=over_ext hE2 hr
         exact hQ _ (by unfold headOut;rw [if_neg h6',if_pos h7'];simp only;rw [if_pos hbl]) _ b1 (hE4.upd hb1) (hE4.none hb1) upd_same
       ·simp only [hbl,decide_false,Bool.false_eq_true,if_false]
        exact hX (by unfold headOut;rw [if_neg h6',if_pos h7'];simp only;rw [if_neg hbl]) _ hE2
      | none =>
       k_call_by "x" []
       exact hX (by unfold headOut;rw [if_neg h6',if_pos h7']) _ hE2
      | int d =>
       k_call_by "x" []
       exact hX (by unfold headOut;rw [if_neg h6',if_pos h7']) _ hE2
      | _=>exact hb.elim
     ·rename_i h7
      have h7':t≠7:=fun q=>h7 (by rw [q];rfl)
      refine t_nil ?_
      k_call_by "x" []
      refine t_nil ?_
      k_call_by "x" []
      refine t_cons ?_
      refine t_return K ?_
      k_call_by "x" [hr2,isInts_vInts]
      exact ⟨hoc,fun b1 hb1=>hQ _ (by unfold headOut;rw [if_neg h6',if_neg h7']) _ b1 (hE2.upd hb1) (hE2.none hb1) upd_same⟩)
end DL
end
section
namespace DL
variable {C:Cx} {sha:Addr} {fm:Addr→Option Int}
noncomputable def isOctet (i:Int):Prop:=0≤i∧i<256
noncomputable def sumFrom:Nat→List Int→Int
 | _,[]=>0
 | k,x::r=>x%128*2^k+sumFrom (k+7) r
noncomputable def decSize:List Int→Int
 | []=>0
 | x::r=>x%16+sumFrom 4 r
noncomputable def decKind:List Int→Int
 | []=>0
 | x::_=>x/16%8
noncomputable def spDecH:Spec:=fun xs H Q _=>∃ (a:Addr) (ns:List Int),xs=[.ref a]∧H a=some (.list (vInts ns))∧ns≠[]∧ns.length≤400∧(∀ i∈ns,isOctet i) ∧
 ∀ H' t,Ext H H'→H t=none→H' t=some (.tuple [.int (decKind ns),.int (decSize ns)])→Q (.ref t) H'
theorem at_zero {x:Int} {r:List Int}:at? (vInts (x::r)) 0=some (.int x):=by
 unfold at? pyIx
 rw [if_pos ⟨by decide,by simp [vInts]⟩]
 rfl
theorem at_nat {ns:List Int} {i:Nat} {x:Int} (h:ns[i]?=some x):at? (vInts ns) (i:Int)=some (.int x):=by
 have hi:i<ns.length:=(List.getElem?_eq_some_iff.mp h).1
 unfold at? pyIx
 rw [if_pos ⟨by exact Int.natCast_nonneg _,by rw [vInts_len];exact Int.ofNat_lt.mpr ‹_›⟩]
 show (vInts ns)[(i:Int).toNat]?=_
 rw [Int.toNat_natCast]
 unfold vInts
 rw [List.getElem?_map,h];rfl
theorem at_last {ns:List Int} {x:Int} (h:ns.getLast?=some x):at? (vInts ns) (-1)=some (.int x):=by
 have hn:ns≠[]:=fun e=>by rw [e] at h;cases h
 have hl:0<ns.length:=List.length_pos_iff.mpr hn
 unfold at? pyIx
 rw [if_neg (by simp),if_pos ⟨by decide,by rw [vInts_len,Int.add_comm];exact Int.sub_nonneg_of_le (Int.ofNat_le.mpr hl)⟩]
 show (vInts ns)[((-1:Int)+((vInts ns).length:Nat)).toNat]?=_
 rw [vInts_len,show ((-1:Int)+(ns.length:Nat)).toNat=ns.length-1 by rw [Int.add_comm];exact congrArg Int.toNat (Int.ofNat_sub hl).symm]
 unfold vInts
 rw [List.getElem?_map,← List.getLast?_eq_getElem?,h];rfl
theorem clip_nat (n p:Nat):clipAt n (p:Int)=min p n:=by
 unfold clipAt
 rw [if_neg (Int.not_lt.mpr (Int.natCast_nonneg p))]
 rcases Nat.le_total p n with h | h
 ·rw [Int.min_eq_left (Int.ofNat_le.mpr h),Nat.min_eq_left h,Int.max_eq_right (Int.natCast_nonneg _),Int.toNat_natCast]
 ·rw [Int.min_eq_right (Int.ofNat_le.mpr h),Nat.min_eq_right h,Int.max_eq_right (Int.natCast_nonneg _),Int.toNat_natCast]
theorem cut_from {α:Type} {xs:List α} {k:Nat} (h:k≤xs.length):cutOf xs (some (k:Int)) none=xs.drop k:=by
 unfold cutOf
 have:clipAt xs.length (k:Int)=k:=(clip_nat _ _).trans (Nat.min_eq_left h)
 simp only [Option.elim_some,Option.elim_none,this]
 rw [List.take_of_length_le];simp
theorem cut_to {α:Type} {xs:List α} {k:Nat} (h:k≤xs.length):cutOf xs none (some (k:Int))=xs.take k:=by
 unfold cutOf
 have:clipAt xs.length (k:Int)=k:=(clip_nat _ _).trans (Nat.min_eq_left h)
 simp only [Option.elim_some,Option.elim_none,this,List.drop_zero,Nat.sub_zero]
theorem vInts_drop {ns:List Int} {k:Nat}:(vInts ns).drop k=vInts (ns.drop k):=by simp [vInts,List.map_drop]
theorem vInts_take {ns:List Int} {k:Nat}:(vInts ns).take k=vInts (ns.take k):=by simp [vInts,List.map_take]
theorem vInts_get {ns:List Int} {k:Nat}:(vInts ns)[k]?=(ns[k]?).map V.int:=by simp [vInts]
theorem sumFrom_snoc:∀ (k:Nat) (l:List Int) (x:Int),sumFrom k (l++[x])=sumFrom k l+x%128*2^(k+7*l.length)
 | k,[],x=>by simp [sumFrom]
 | k,y::r,x=>by
  simp only [List.cons_append,sumFrom,List.length_cons]
  rw [sumFrom_snoc (k+7) r x,show k+7+7*r.length=k+7*(r.length+1) by rw [Nat.mul_succ,Nat.add_assoc,Nat.add_comm 7]]
  exact (Int.add_assoc _ _ _).symm
noncomputable def invDecH (H:Hp) (a:Addr) (x0:Int) (r0:List Int) (c:Addr) (k:Nat) (m:Loc) (H1:Hp):Prop :=
 m=[(97,.int (x0%16+sumFrom 4 (r0.take k))),(106,.int (x0/16%8)),(87,.ref a)]∧Ext H H1∧H1 c=some (.list (vInts r0))
theorem F_decH (W:Wd C sha fm) (F:Fk C) (hl:0<C.lv):∀ x,x=fdName 8→∀ u,C.mg x=some u→FnN C u spDecH :=
 fn_ok W F hl (by decide) sc_8 pl_8 [] (by simp) (fun xs H Q X h=>by
  obtain ⟨a,ns,rfl,ha,hne,hlen,hoc,hQ⟩:=h
  refine ⟨rfl,fun C0 mc L a0 cd P K F1 L1=>?_⟩
  revert W F hl ha hne hlen hoc hQ K F1 L1
  k_call_by "e" [C,sha,fm,H,Q,X,a,ns,C0,mc,L,a0,cd,P]
  cases ns with
  | nil=>exact absurd rfl hne
  | cons x0 r0 =>
   have h0:=hoc x0 (.head _)
   refine t_cons ?_
   refine t_assign K L1 ⟨nm_type_num,.inl (by rw [g_kinds,kd_8];rfl)⟩ ?_
   k_call_by "x" [ha,at_zero]
   k_call_by "a" []
   k_call_by "o" []
   refine t_cons ?_
   refine t_assign K L1 ⟨nm_size,.inl (by rw [g_kinds,kd_8];rfl)⟩ ?_
   k_call_by "x" [ha,at_zero]
   refine t_cons ?_
   refine t_for K rfl ?_
   have hcut:cutOf (vInts (x0::r0)) (some 1) none=vInts r0:=by
    rw [show (1:Int)=((1:Nat):Int) by rfl,cut_from (by simp [vInts]),vInts_drop];rfl
   k_call_by "x" [ha,hcut]
   intro c hc
   revert ha hne hlen hoc hQ h0 hcut hc
   k_call_by "e" [x0,r0,c]
   refine ⟨invDecH H a x0 r0 c,⟨[(97,.int (x0%16+sumFrom 4 (r0.take 0))),(106,.int (x0/16%8)),(87,.ref a)],?_,rfl,(Ext.refl H).upd hc,upd_same⟩,?_,?_,?_⟩
   ·have e1:Builtin.bitAnd x0 15=x0%16+sumFrom 4 (r0.take 0):=by rw [and15];simp [sumFrom]
    have e2:Builtin.bitAnd (x0/2^4) 7=x0/16%8:=by rw [and7];rfl
    rw [e1,e2]
    k_call_by "s" []
   ·rintro k m1 H1 ⟨_,hE,hc1⟩ b o hb
    unfold only at hb
    split at hb
    ·rename_i e;rw [upd_same] at hb;cases hb;rw [e];exact hc1
    ·cases hb
   ·rintro k it m1 H1 hit ⟨rfl,hE,hc1⟩
    revert hit hE hc1
    k_call_by "e" [k,it,H1]
    rw [enumOf_get,vInts_get] at hit
    cases q:r0[k]? with
    | none=>rw [q] at hit;cases hit
    | some x =>
     rw [q] at hit
     simp only [Option.map_some,Option.some.injEq] at hit
     subst hit
     have hx:=hoc x (.tail _ (List.mem_of_getElem? q))
     have hk:k<r0.length:=(List.getElem?_eq_some_iff.mp q).1
     have hl2:r0.length<400:=by simp only [List.length_cons] at hlen;assumption
     k_call_by "x" []
     intro P'
     revert q hx
     k_call_by "e" [x,P']
     refine t_cons ?_
     refine t_aug K rfl nm_size (by rw [g_kinds,kd_8];rfl) ?_
     k_call_by "x" []
     have hx1:0≤x%128∧x%128<128:=by exact ⟨Int.emod_nonneg _ (by decide),Int.emod_lt_of_pos _ (by decide)⟩
     rw [and127]
     k_call_by "a" []
     all_goals try first | lia | exact lt_DIV (by omega) | exact lt_BIG (by lia) | exact gt_BIG (by exact Int.lt_of_lt_of_le (by decide) (Int.emod_nonneg _ (by decide))) | (simp only [List.length_append,ofOcts_len,toOcts_len,vInts_len,rep_len,List.length_cons,List.length_nil];omega) | decide
     refine t_nil ?_
     k_call_by "x" []
     refine ⟨_,?_,rfl,hE,hc1⟩
     have e1:x0%16+sumFrom 4 (r0.take k)+x%128*2^((0+(k:Int))*7+4).toNat=x0%16+sumFrom 4 (r0.take (k+1)):=by
      rw [List.take_add_one,q]
      simp only [Option.toList_some]
      rw [sumFrom_snoc,List.length_take,Nat.min_eq_left (by exact Nat.le_of_lt ‹_›),show ((0+(k:Int))*7+4).toNat=4+7*k by rw [Int.zero_add,Nat.add_comm,Nat.mul_comm];rfl]
      lia
     rw [e1]
     k_call_by "s" []
   ·rintro m1 H1 ⟨rfl,hE,hc1⟩
    have e:(enumOf 0 (vInts r0)).length=r0.length:=by rw [enumOf_len,vInts_len]
    rw [e,List.take_length]
    refine t_cons ?_
    refine t_return K ?_
    k_call_by "x" []
    exact fun b hb=>hQ _ b (hE.upd hb) (hE.none hb) upd_same)
end DL
end
section
namespace DL
variable {C:Cx} {sha:Addr} {fm:Addr→Option Int}
noncomputable def takeMsb:List UInt8→Option (List Int)
 | []=>none
 | c::r=>if c.toNat<128 then some [(c.toNat:Int)] else (takeMsb r).map ((c.toNat:Int)::·)
noncomputable def spTake:Spec:=fun xs H Q X=>∃ (B:List UInt8) (off:Nat),xs=[.bytes B,.int off]∧B.length≤100000∧off≤100000 ∧
 (∀ l,takeMsb (B.drop off)=some l→∀ H' r t,Ext H H'→H r=none→H' r=some (.list (vInts l))→H t=none→H' t=some (.tuple [.ref r,.int ((off+l.length:Nat):Int)])→Q (.ref t) H') ∧
 (takeMsb (B.drop off)=none→∀ H',Ext H H'→X .assertion H')
theorem cut_one {α:Type} {xs:List α} {p:Nat}:cutOf xs (some (p:Int)) (some ((p:Int)+1))=(xs.drop p).take 1:=by
 unfold cutOf
 simp only [Option.elim_some]
 by_cases h:p<xs.length
 ·have e1:clipAt xs.length (p:Int)=p:=(clip_nat _ _).trans (Nat.min_eq_left (Nat.le_of_lt h))
  have e2:clipAt xs.length ((p:Int)+1)=p+1:=(clip_nat _ (p+1)).trans (Nat.min_eq_left h)
  rw [e1,e2,Nat.add_sub_cancel_left]
 ·have e1:clipAt xs.length (p:Int)=xs.length:=(clip_nat _ _).trans (Nat.min_eq_right (Nat.not_lt.mp h))
  have e2:clipAt xs.length ((p:Int)+1)=xs.length:=(clip_nat _ (p+1)).trans (Nat.min_eq_right (Nat.le_succ_of_le (Nat.not_lt.mp h)))
  rw [e1,e2,List.drop_length,List.drop_eq_nil_of_le (by exact Nat.not_lt.mp ‹_›)]
  simp
noncomputable def goOn (acc:List Int):Bool:=match acc.getLast? with
 | none=>true
 | some x=>decide (128≤x)
noncomputable def invTake (H:Hp) (r:Addr) (B:List UInt8) (off:Nat) (n:Nat) (m:Loc) (H1:Hp):Prop :=
 ∃ acc:List Int,m=[(85,.int ((off+acc.length:Nat):Int)),(89,.ref r),(37,.bytes B)]∧n=B.length-(off+acc.length)∧Ext H H1∧H1 r=some (.list (vInts acc))∧(∀ i∈acc,isOctet i)∧(acc=[]∨off+acc.length≤B.length) ∧
  takeMsb (B.drop off)=if goOn acc then (takeMsb (B.drop (off+acc.length))).map (acc++·) else some acc
theorem F_take (W:Wd C sha fm) (F:Fk C) (hl:0<C.lv):∀ x,x=fdName 6→∀ u,C.mg x=some u→FnN C u spTake :=
 fn_ok W F hl (by decide) sc_6 pl_6 [] (by simp) (fun xs H Q X h=>by
  obtain ⟨B,off,rfl,hB,hoff,hQ,hX⟩:=h
  refine ⟨rfl,fun C0 mc L a0 cd P K F1 L1=>?_⟩
  revert W F hl hB hoff hQ hX K F1 L1
  k_call_by "e" [C,sha,fm,H,Q,X,B,off,C0,mc,L,a0,cd,P]
  refine t_cons ?_
  refine t_assign K L1 ⟨nm_ret,.inl (by rw [g_kinds,kd_6];rfl)⟩ ?_
  k_call_by "x" []
  intro r hr
  obtain u90:=()
  revert hr
  k_call_by "e" [r,u90]
  refine t_cons ?_
  refine t_assign K L1 ⟨nm_pos,.inl (by rw [g_kinds,kd_6];rfl)⟩ ?_
  k_call_by "x" []
  refine t_cons ?_
  refine t_while K F1 (invTake H r B off) ?_ ?_
  ·refine ⟨_,[(85,.int ((off+([]:List Int).length:Nat):Int)),(89,.ref r),(37,.bytes B)],?_,[],rfl,rfl,(Ext.refl H).upd hr,upd_same,by simp,.inl rfl,?_⟩
   ·simp only [SubB,List.lookup_cons,Nat.reduceBEq,and_self,List.length_nil,Nat.add_zero]
   ·simp [goOn]
  ·rintro n m1 H1 ⟨acc,rfl,rfl,hE,hr1,ho,hle,he⟩
   revert hE hr1 ho hle he
   k_call_by "e" [H1,acc]
   have hcase:(((acc.length:Nat):Int)=0∧goOn acc=true)∨(¬ ((acc.length:Nat):Int)=0∧∃ x,at? (vInts acc) (-1)=some (.int x)∧Builtin.bitAnd x 128=128∧goOn acc=true) ∨
     (¬ ((acc.length:Nat):Int)=0∧∃ x,at? (vInts acc) (-1)=some (.int x)∧Builtin.bitAnd x 128=0∧goOn acc=false):=by
    cases q:acc.getLast? with
    | none =>
     have:acc=[]:=List.getLast?_eq_none_iff.mp q
     subst this
     exact .inl ⟨rfl,rfl⟩
    | some x =>
     have hne:¬ ((acc.length:Nat):Int)=0:=fun e=>by
      have:acc=[]:=List.length_eq_zero_iff.mp (by exact Int.natCast_inj.mp ‹_›)
      subst this;cases q
     have hx:=ho x (List.mem_of_getLast? q)
     refine .inr ?_
     by_cases h128:128≤x
     ·exact .inl ⟨hne,x,at_last q,and128_hi h128 hx.2,by unfold goOn;rw [q];simpa using h128⟩
     ·exact .inr ⟨hne,x,at_last q,and128_lo hx.1 (by exact Int.not_le.mp ‹_›),by unfold goOn;rw [q];simpa using h128⟩
   rcases hcase with ⟨hz,hgo⟩ | ⟨hz,x,hlast,hb,hgo⟩ | ⟨hz,x,hlast,hb,hgo⟩
   ·k_call_by "x" [hr1,vInts_len,hz]
    rw [hgo,if_pos rfl] at he
    refine t_cons ?_
    refine t_assign K L1 ⟨nm_b,.inl (by rw [g_kinds,kd_6];rfl)⟩ ?_
    k_call_by "x" []
    refine t_cons ?_
    refine t_if K ?_
    k_call_by "x" []
    rw [cut_one]
    cases hd:B.drop (off+acc.length) with
    | nil =>
     simp only [List.take_nil,List.isEmpty_nil,Bool.not_true,Bool.not_false,if_true]
     refine t_cons ?_
     refine s_raise_assert_f (conv:=0) K.base rfl nm_AssertionError (by show List.lookup _ (gOf 6 sha fm []).kinds=_;rw [g_kinds,kd_6];rfl) rfl nm_pos (by show List.lookup _ (gOf 6 sha fm []).kinds=_;rw [g_kinds,kd_6];rfl) rfl ?_ (by decide) ?_
     ·rcases hle with rfl | hle
      ·simp only [List.length_nil,Nat.add_zero];exact Nat.lt_of_le_of_lt ‹_› (by decide)
      ·exact Nat.lt_of_le_of_lt (Nat.le_trans hle hB) (by decide)
     ·rw [hd] at he
      exact hX he _ hE
    | cons c rest =>
     have hlt:off+acc.length<B.length:=Nat.lt_of_sub_pos (by rw [← List.length_drop,hd];exact Nat.succ_pos _)
     simp only [List.take_succ_cons,List.take_zero,List.isEmpty_cons,Bool.not_false,Bool.not_true,Bool.false_eq_true,if_false]
     refine t_nil ?_
     k_call_by "x" []
     refine t_cons ?_
     refine t_aug K rfl nm_pos (by rw [g_kinds,kd_6];rfl) ?_
     k_call_by "x" []
     refine t_cons ?_
     refine t_expr K ?_
     k_call_by "x" [hr1]
     k_call_by "a" []
     k_call_by "p" []
     refine t_nil ?_
     k_call_by "x" []
     have hc:=c.toNat_lt
     refine ⟨B.length-(off+(acc++[(c.toNat:Int)]).length),by rw [List.length_append,List.length_singleton];exact Nat.sub_lt_sub_left hlt (Nat.lt_succ_self _),_,?_,acc++[(c.toNat:Int)],rfl,rfl,over_ext hE hr,?_,?_,.inr (by rw [List.length_append,List.length_singleton];assumption),?_⟩
     ·have e1:(((off+acc.length:Nat):Int)+1)=((off+(acc++[(c.toNat:Int)]).length:Nat):Int):=by rw [List.length_append,List.length_singleton];simp [*]
      rw [e1]
      k_call_by "s" []
     ·rw [upd_same,vInts_one,vInts_app]
     ·intro i hi
      rcases List.mem_append.mp hi with hi | hi
      ·exact ho i hi
      ·rw [List.mem_singleton] at hi;subst hi;exact ⟨Int.natCast_nonneg _,Int.ofNat_lt.mpr hc⟩
     ·rw [he,hd,takeMsb]
      have e2:goOn (acc++[(c.toNat:Int)])=decide (128≤(c.toNat:Int)):=by unfold goOn;rw [List.getLast?_append];rfl
      have e3:B.drop (off+(acc++[(c.toNat:Int)]).length)=rest:=by
       rw [List.length_append,List.length_singleton,← Nat.add_assoc,← List.drop_drop,hd];rfl
      rw [e2,e3]
      by_cases h128:c.toNat<128
      ·rw [if_pos h128,if_neg (by simp;exact Int.ofNat_lt.mpr ‹_›)];rfl
      ·rw [if_neg h128,if_pos (by simp;exact Int.ofNat_le.mpr (Nat.not_lt.mp h128)),Option.map_map]
       congr 1
       funext l
       simp
   ·k_call_by "x" [hr1,vInts_len,hz,hlast,hb]
    rw [hgo,if_pos rfl] at he
    refine t_cons ?_
    refine t_assign K L1 ⟨nm_b,.inl (by rw [g_kinds,kd_6];rfl)⟩ ?_
    k_call_by "x" []
    refine t_cons ?_
    refine t_if K ?_
    k_call_by "x" []
    rw [cut_one]
    cases hd:B.drop (off+acc.length) with
    | nil =>
     simp only [List.take_nil,List.isEmpty_nil,Bool.not_true,Bool.not_false,if_true]
     refine t_cons ?_
     refine s_raise_assert_f (conv:=0) K.base rfl nm_AssertionError (by show List.lookup _ (gOf 6 sha fm []).kinds=_;rw [g_kinds,kd_6];rfl) rfl nm_pos (by show List.lookup _ (gOf 6 sha fm []).kinds=_;rw [g_kinds,kd_6];rfl) rfl ?_ (by decide) ?_
     ·rcases hle with rfl | hle
      ·simp only [List.length_nil,Nat.add_zero];contradiction
      ·exact Nat.lt_of_le_of_lt (Nat.le_trans hle hB) (by decide)
     ·rw [hd] at he
      exact hX he _ hE
    | cons c rest =>
     have hlt:off+acc.length<B.length:=Nat.lt_of_sub_pos (by rw [← List.length_drop,hd];exact Nat.succ_pos _)
     simp only [List.take_succ_cons,List.take_zero,List.isEmpty_cons,Bool.not_false,Bool.not_true,Bool.false_eq_true,if_false]
     refine t_nil ?_
     k_call_by "x" []
     refine t_cons ?_
     refine t_aug K rfl nm_pos (by rw [g_kinds,kd_6];rfl) ?_
     k_call_by "x" []
     refine t_cons ?_
     refine t_expr K ?_
     k_call_by "x" [hr1]
     k_call_by "a" []
     k_call_by "p" []
     refine t_nil ?_
     k_call_by "x" []
     have hc:=c.toNat_lt
     refine ⟨B.length-(off+(acc++[(c.toNat:Int)]).length),by rw [List.length_append,List.length_singleton];exact Nat.sub_lt_sub_left hlt (Nat.lt_succ_self _),_,?_,acc++[(c.toNat:Int)],rfl,rfl,over_ext hE hr,?_,?_,.inr (by rw [List.length_append,List.length_singleton];assumption),?_⟩
     ·have e1:(((off+acc.length:Nat):Int)+1)=((off+(acc++[(c.toNat:Int)]).length:Nat):Int):=by rw [List.length_append,List.length_singleton];rfl
      rw [e1]
      k_call_by "s" []
     ·rw [upd_same,vInts_one,vInts_app]
     ·intro i hi
      rcases List.mem_append.mp hi with hi | hi
      ·exact ho i hi
      ·rw [List.mem_singleton] at hi;subst hi;exact ⟨Int.natCast_nonneg _,Int.ofNat_lt.mpr hc⟩
     ·rw [he,hd,takeMsb]
      have e2:goOn (acc++[(c.toNat:Int)])=decide (128≤(c.toNat:Int)):=by unfold goOn;rw [List.getLast?_append];rfl
      have e3:B.drop (off+(acc++[(c.toNat:Int)]).length)=rest:=by
       rw [List.length_append,List.length_singleton,← Nat.add_assoc,← List.drop_drop,hd];rfl
      rw [e2,e3]
      by_cases h128:c.toNat<128
      ·rw [if_pos h128,if_neg (by simp;exact Int.ofNat_lt.mpr ‹_›)];rfl
      ·rw [if_neg h128,if_pos (by simp;exact Int.ofNat_le.mpr (Nat.not_lt.mp h128)),Option.map_map]
       congr 1
       funext l
       simp
   ·k_call_by "x" [hr1,vInts_len,hz,hlast,hb]
    rw [hgo] at he
    simp only [Bool.false_eq_true,if_false] at he
    refine t_cons ?_
    refine t_return K ?_
    k_call_by "x" []
    exact fun t ht=>hQ acc he _ r t (hE.upd ht) hr (upd_keep ht hr1) (hE.none ht) upd_same)
end DL
end
section
namespace DL
variable {C:Cx} {sha:Addr} {fm:Addr→Option Int}
noncomputable def digB:Nat→Nat→List Int
 | 0,_=>[]
 | k+1,x=>((x/128^k%128:Nat):Int)::digB k x
theorem digB_snoc:∀ (k x:Nat),digB (k+1) x=digB k (x/128)++[((x%128:Nat):Int)]
 | 0,x=>by simp [digB]
 | k+1,x=>by
  rw [digB,digB_snoc k x]
  show _=((x/128/128^k%128:Nat):Int)::digB k (x/128)++_
  rw [Nat.div_div_eq_div_mul,show 128*128^k=128^(k+1) by rw [Nat.pow_succ,Nat.mul_comm]]
  rfl
theorem digB_len:∀ (k x:Nat),(digB k x).length=k
 | 0,_=>rfl
 | k+1,x=>by rw [digB,List.length_cons,digB_len k x]
noncomputable def fOf:Nat→Nat
 | 0=>0
 | k+1=>128*fOf k+1
theorem fOf_pow:∀ k,fOf (k+1)=fOf k+128^k
 | 0=>rfl
 | k+1=>by
  have:=fOf_pow k
  show 128*fOf (k+1)+1=128*fOf k+1+128^(k+1)
  rw [Nat.pow_succ]
  grind
noncomputable def up (l:List Int):List Int:=l.map (·+128)
theorem ofsGo_dig:∀ (k d:Nat) (acc:List Int),fOf k≤d→d<fOf (k+1)→ofsGo d acc=up (digB k (d-fOf k))++acc
 | 0,d,acc,_,h=>by
  have:d=0:=Nat.lt_one_iff.mp h
  subst this
  rw [ofsGo_zero];rfl
 | k+1,d,acc,h1,h2=>by
  have hle:128*fOf k≤d-1:=Nat.le_sub_one_of_lt h1
  have e3:d-fOf (k+1)=d-1-128*fOf k:=by show d-(128*fOf k+1)=_;rw [Nat.sub_sub,Nat.add_comm]
  rw [ofsGo_succ (fun e=>Nat.not_succ_le_zero (128*fOf k) (e▸h1)),ofsGo_dig k _ _ ((Nat.le_div_iff_mul_le (by decide)).mpr (Nat.mul_comm 128 (fOf k)▸hle)) (Nat.div_lt_of_lt_mul (Nat.sub_one_lt_of_le (Nat.lt_of_lt_of_le (Nat.succ_pos _) h1) (Nat.le_of_lt_succ h2))),digB_snoc,e3,Nat.sub_mul_div,Nat.sub_mul_mod hle]
  unfold up
  rw [List.map_append,List.append_assoc]
  congr 1
theorem encOfs_dig {k n:Nat} (h1:128*fOf k≤n) (h2:n-128*fOf k<128^(k+1)):encOfs n=up (digB k ((n-128*fOf k)/128))++[(((n-128*fOf k)%128:Nat):Int)]:=by
 have hp:=fOf_pow k
 rw [Nat.pow_succ] at h2
 unfold encOfs
 rw [ofsGo_dig k (n/128) _ ((Nat.le_div_iff_mul_le (by decide)).mpr (Nat.mul_comm 128 (fOf k)▸h1)) (hp▸Nat.div_lt_of_lt_mul (by rw [Nat.mul_add,Nat.mul_comm 128 (128^k)];exact (Nat.sub_lt_iff_lt_add' h1).mp h2)),Nat.sub_mul_div,Nat.sub_mul_mod h1]
noncomputable def rowOf (code kind:Int) (n:Nat):List Int:=if code=2 then encOfs n else if code=0 then encHead kind.toNat n else enc7 n
noncomputable def spLawRow:Spec:=fun xs H Q _=>∃ (c k:Int) (n:Nat),xs=[.int c,.int k,.int n]∧(c=0∧0≤k∨(c=1∨c=2)∧k=0)∧(rowOf c k n).length≤400∧n<2^3000 ∧
 ∀ H' r,Ext H H'→H r=none→H' r=some (.list (vInts (rowOf c k n)))→Q (.ref r) H'
theorem lt_DIV2 {E n:Nat} (h:n<2^3000) (h2:E≤128*(n+1)):(E:Int)<DIV:=by
 unfold DIV
 have:E<2^8999:=by
  have e1:128*(n+1)≤128*2^3000:=Nat.mul_le_mul_left _ h
  exact Nat.lt_of_le_of_lt (Nat.le_trans h2 e1) (by decide +kernel)
 exact_mod_cast this
theorem forall_plain {l:List Int} {p:It→Prop}:(∀ it∈(vInts l).map It.one,p it)↔∀ i∈l,p (.one (.int i)):=by
 unfold vInts
 simp only [List.mem_map,forall_exists_index,and_imp,forall_apply_eq_imp_iff₂]
theorem plain_itI {l:List Int} {f:Int→Int}:((vInts l).map It.one).filterMap (itI f)=vInts (l.map f):=by
 unfold vInts
 rw [List.map_map,List.filterMap_map,List.map_map]
 induction l with
 | nil=>rfl
 | cons a r ih=>simp [itI,ih]
theorem plain_len {l:List Int}:((vInts l).map It.one).length=l.length:=by simp [vInts]
theorem cut_init {l:List Int} {x:Int}:cutOf (vInts (l++[x])) none (some (((l++[x]).length:Nat)-1:Int))=vInts l:=by
 rw [show (((l++[x]).length:Nat)-1:Int)=(l.length:Nat) by simp,cut_to (by simp [vInts]),vInts_take]
 simp
theorem cut_end {l:List Int} {x:Int}:cutOf (vInts (l++[x])) (some (((l++[x]).length:Nat)-1:Int)) none=vInts [x]:=by
 rw [show (((l++[x]).length:Nat)-1:Int)=(l.length:Nat) by simp,cut_from (by simp [vInts]),vInts_drop]
 simp
noncomputable def rowPart (x m:Nat):List Int:=if m=0 then [(x:Int)] else ((x:Int)+128)::enc7 m
theorem rowPart_step {x m:Nat} (h:m≠0):rowPart x m=((x:Int)+128)::rowPart (m%128) (m/128):=by
 unfold rowPart
 rw [if_neg h]
 split
 ·rename_i h1
  exact congrArg _ (enc7_lo' h1)
 ·rename_i h1
  exact congrArg _ (enc7_hi' h1)
theorem enc7_part (n:Nat):enc7 n=rowPart (n%128) (n/128):=by
 unfold rowPart
 split
 ·rename_i h1
  exact enc7_lo' h1
 ·rename_i h1
  exact enc7_hi' h1
theorem encHead_part (k n:Nat):encHead k n=rowPart (k*16+n%16) (n/16):=by
 unfold encHead rowPart
 split
 ·rfl
 ·rfl
noncomputable def invRowA (H0:Hp) (r:Addr) (n:Nat) (c:Int) (q:Nat) (m:Loc) (H1:Hp):Prop :=
 ∃ k:Nat,m=[(72,.int q),(45,.int ((128^(k+1):Nat):Int)),(96,.ref r),(36,.int c)]∧q+128*fOf k=n∧H1=H0
noncomputable def invRowB (H:Hp) (r:Addr) (n:Nat) (c:Int) (x k:Nat) (q:Nat) (m:Loc) (H1:Hp):Prop :=
 ∃ acc:List Int,m=[(45,.int ((128^q:Nat):Int)),(72,.int x),(96,.ref r),(36,.int c)]∧Ext H H1∧H1 r=some (.list (vInts acc))∧acc++digB q x=digB (k+1) x∧q≤k+1
noncomputable def invRowC (H:Hp) (r:Addr) (n:Nat) (c:Int) (l:List Int) (q:Nat) (m:Loc) (H1:Hp):Prop :=
 ∃ (acc:List Int) (x j:Nat) (E:Nat),m=[(45,.int (E:Int)),(72,.int n),(96,.ref r),(36,.int c)]∧0<E∧E≤128*(n+1)∧q=n/E∧Ext H H1∧H1 r=some (.list (vInts (acc++[(x:Int)])))∧l=up acc++rowPart x q
noncomputable def elseB:Option Stmt→List Stmt
 | some (.If _ _ b _)=>b
 | _=>[]
section
variable {C0:Cx} {mc:Str→Option Value} {L a0:Addr} {cd:Value} {P:Kp} {H H1 H2:Hp} {r:Addr} {R:List Int} {Q:QE} {X:XE}
theorem row_tail {acc:List Int} {x:Nat} (K:CkN (ctx 20 C0 mc L a0 cd) (gOf 20 sha fm [])) (F1:Fk1 (ctx 20 C0 mc L a0 cd)) (L1:Cl1 (ctx 20 C0 mc L a0 cd))
  (hQ:∀ H' d,Ext H H'→H d=none→H' d=some (.list (vInts R))→Q (.ref d) H') (hE2:Ext H H2) (hr2:H2 r=some (.list (vInts (acc++[(x:Int)])))) (hal:acc.length<400) (hR:R=up acc++[(x:Int)]) :
  WSN (ctx 20 C0 mc L a0 cd) P [(96,.ref r)] H2 ((fdBody 20).drop 2) (retQ Q) (retX X):=by
 revert K F1 L1 hQ hE2 hr2 hal hR
 k_call_by "e" [sha,fm,C0,mc,L,a0,cd,P,H,H2,r,R,Q,X,acc,x]
 refine t_cons ?_
 refine t_assign K L1 ⟨nm_last,.inl (by rw [g_kinds,kd_20];rfl)⟩ ?_
 k_call_by "x" [hr2,vInts_len]
 refine t_cons ?_
 refine t_return K ?_
 k_call_by "x" [hr2,vInts_len,cut_init,cut_end,forall_plain,plain_len]
 refine ⟨by kernel_rfl,fun c1 hc1=>⟨by exact Nat.le_trans (Nat.le_of_lt ‹_›) (by decide),itI (·+128),fun i _=>rfl,fun a1 ha1=>?_⟩⟩
 rw [plain_itI]
 have hE3:=(hE2.upd hc1 (o:=.list (vInts acc))).upd ha1 (o:=.list (vInts (acc.map (·+128))))
 have g1:=upd_keep (o:=.list (vInts (acc.map (·+128)))) ha1 (upd_keep (o:=.list (vInts acc)) hc1 hr2)
 have g2:upd (upd H2 c1 (.list (vInts acc))) a1 (.list (vInts (acc.map (·+128)))) a1=some (.list (vInts (acc.map (·+128)))):=upd_same
 generalize upd (upd H2 c1 (.list (vInts acc))) a1 (.list (vInts (acc.map (·+128))))=H3 at hE3 g1 g2
 rw [g1]
 intro c2 hc2
 rw [cut_end]
 simp only [upd_keep hc2 g2,upd_same,w_oL,w_oE]
 refine ⟨by simp only [vInts_len,List.length_map,List.length_singleton,SZ_eq];exact Nat.lt_trans ‹_› (by decide),fun d hd=>?_⟩
 rw [vInts_app,show acc.map (·+128)++[(x:Int)]=R from hR.symm]
 have hE4:=hE3.upd hc2 (o:=.list (vInts [(x:Int)]))
 exact hQ _ d (hE4.upd hd) (hE4.none hd) upd_same
theorem row_loop {c:Int} {E0 x0 n:Nat} (K:CkN (ctx 20 C0 mc L a0 cd) (gOf 20 sha fm [])) (F1:Fk1 (ctx 20 C0 mc L a0 cd)) (L1:Cl1 (ctx 20 C0 mc L a0 cd)) (hn:n<2^3000) (hr:H r=none) (hlen:R.length≤400)
  (hQ:∀ H' d,Ext H H'→H d=none→H' d=some (.list (vInts R))→Q (.ref d) H') (hE:Ext H H1) (hr1:H1 r=some (.list (vInts [(x0:Int)]))) (hE0:0<E0) (hEn:E0≤128*(n+1)) (hR:R=rowPart x0 (n/E0)) :
  WSN (ctx 20 C0 mc L a0 cd) P [(45,.int E0),(72,.int n),(96,.ref r),(36,.int c)] H1 ((elseB (fdBody 20)[1]?).drop 1) (seqN (ctx 20 C0 mc L a0 cd) P ((fdBody 20).drop 2) (retQ Q) (retX X)) (retX X):=by
 revert K F1 L1 hn hr hlen hQ hE hr1 hE0 hEn hR
 k_call_by "e" [sha,fm,C0,mc,L,a0,cd,P,H,H1,r,R,Q,X,c,E0,x0,n]
 refine t_cons ?_
 refine t_while K F1 (invRowC H r n c R) ?_ ?_
 ·refine ⟨n/E0,[(45,.int (E0:Int)),(72,.int n),(96,.ref r),(36,.int c)],?_,[],x0,0,E0,rfl,hE0,hEn,rfl,hE,hr1,hR⟩
  k_call_by "s" []
 ·rintro q m1 H2 ⟨acc,x,j,E,rfl,hE0,hEn,hq,hE2,hr2,hl2⟩
  k_call_by "x" []
  have hiff:((E:Int)≤(n:Int))↔q≠0:=by
   rw [hq]
   constructor
   ·intro h e;exact absurd e (Nat.ne_of_gt (Nat.div_pos (Int.ofNat_le.mp h) hE0))
   ·intro h;by_cases z:E≤n
    ·exact Int.ofNat_le.mpr ‹_›
    ·exact absurd (Nat.div_eq_of_lt (by exact Nat.not_le.mp ‹_›)) h
  have hal:acc.length<400:=Nat.lt_of_lt_of_le (Nat.lt_of_le_of_lt (Nat.le_of_eq (List.length_map _).symm) (len_lt hl2 (by unfold rowPart;split<;>exact List.cons_ne_nil _ _))) hlen
  by_cases hz:q=0
  ·rw [if_neg fun h=>hiff.mp h hz]
   rw [hz] at hl2
   refine t_nil ?_
   k_call_by "x" []
   refine WXN.weak (SubB.sub ?_) (row_tail K F1 L1 hQ hE2 hr2 hal hl2)
   k_call_by "s" []
  ·rw [if_pos (hiff.mpr hz)]
   refine t_cons ?_
   refine t_expr K ?_
   k_call_by "x" [hr2]
   refine ⟨⟨by exact Int.ofNat_lt.mpr ‹_›,lt_DIV2 hn hEn⟩,?_⟩
   k_call_by "a" []
   all_goals try first | omega | exact lt_DIV (by omega) | exact lt_BIG (by omega) | exact gt_BIG (by omega) | (simp only [List.length_append,ofOcts_len,toOcts_len,vInts_len,rep_len,List.length_cons,List.length_nil];exact Nat.lt_of_le_of_lt ‹_› (by decide)) | decide
   refine t_cons ?_
   refine t_aug K rfl nm_edge (by rw [g_kinds,kd_20];rfl) ?_
   k_call_by "x" []
   k_call_by "a" []
   k_call_by "q" []
   refine t_nil ?_
   k_call_by "x" []
   refine ⟨q/128,div0 hz,[(45,.int ((E*128:Nat):Int)),(72,.int n),(96,.ref r),(36,.int c)],?_,acc++[(x:Int)],q%128,0,E*128,rfl,by simp [*],?_,?_,over_ext hE2 hr,?_,?_⟩
   ·have e1:(E:Int)*128=((E*128:Nat):Int):=by norm_cast
    rw [e1]
    k_call_by "s" []
   ·rw [Nat.mul_comm];exact Nat.mul_le_mul_left _ (Nat.le_succ_of_le (Int.ofNat_le.mp (hiff.mpr hz)))
   ·rw [hq,Nat.div_div_eq_div_mul]
   ·rw [upd_same,vInts_one,vInts_app,hq]
    norm_cast
   ·rw [hl2,rowPart_step hz]
    unfold up
    rw [List.map_append,List.append_assoc]
    rfl
end
theorem F_law_row (W:Wd C sha fm) (F:Fk C) (hl:0<C.lv):∀ x,x=fdName 20→∀ u,C.mg x=some u→FnN C u spLawRow :=
 fn_ok W F hl (by decide) sc_20 pl_20 [] (by simp) (fun xs H Q X h=>by
  obtain ⟨c,k0,n,rfl,hc,hlen,hn,hQ⟩:=h
  revert W F hl hc hlen hn hQ
  k_call_by "e" [C,sha,fm,H,Q,X,c,k0,n]
  refine ⟨rfl,fun C0 mc L a0 cd P K F1 L1=>?_⟩
  obtain u0:=()
  revert W F hl hc hlen hn hQ K F1 L1
  k_call_by "e" [C,sha,fm,H,Q,X,c,k0,n,C0,mc,L,a0,cd,P,u0]
  rcases hc with ⟨rfl,hk0⟩ | ⟨rfl | rfl,rfl⟩
  ·skip
   refine t_cons ?_
   refine t_swap (names:=[Str.ofString "edge",Str.ofString "shares"]) K rfl ?_
   k_call_by "x" [List.reverse_cons,List.reverse_nil,List.nil_append,List.cons_append,Option.some.injEq]
   intro r hr t ht
   revert hr ht
   k_call_by "e" [r,t]
   have hr1:upd (upd H r (.list [])) t (.tuple [.int 16,.ref r]) r=some (.list []):=upd_keep ht upd_same
   have hE:Ext H (upd (upd H r (.list [])) t (.tuple [.int 16,.ref r])):=((Ext.refl H).upd hr).upd ht
   generalize upd (upd H r (.list [])) t (.tuple [.int 16,.ref r])=H1 at hr1 hE
   refine t_cons ?_
   refine t_if K ?_
   k_call_by "x" []
   refine t_cons ?_
   refine t_expr K ?_
   k_call_by "x" [hr1]
   k_call_by "a" []
   k_call_by "q" []
   refine WXN.weak (SubB.sub ?_) (row_loop (E0:=16) (x0:=k0.toNat*16+n%16) (c:=0) K F1 L1 hn hr hlen hQ (over_ext hE hr) ?_ (by decide) (Nat.le_trans (by decide:16≤128*1) (Nat.mul_le_mul_left _ (Nat.succ_le_succ (Nat.zero_le n)))) ?_)
   ·k_call_by "s" [];exact ⟨rfl,trivial⟩
   ·rw [upd_same];simp [vInts];try lia
   ·show rowOf 0 k0 n=_
    unfold rowOf;rw [if_neg (by decide),if_pos rfl];exact encHead_part _ _
  ·skip
   refine t_cons ?_
   refine t_swap (names:=[Str.ofString "edge",Str.ofString "shares"]) K rfl ?_
   k_call_by "x" [List.reverse_cons,List.reverse_nil,List.nil_append,List.cons_append,Option.some.injEq]
   intro r hr t ht
   have hr1:upd (upd H r (.list [])) t (.tuple [.int 128,.ref r]) r=some (.list []):=upd_keep ht upd_same
   have hE:Ext H (upd (upd H r (.list [])) t (.tuple [.int 128,.ref r])):=((Ext.refl H).upd hr).upd ht
   generalize upd (upd H r (.list [])) t (.tuple [.int 128,.ref r])=H1 at hr1 hE
   refine t_cons ?_
   refine t_if K ?_
   k_call_by "x" []
   refine t_cons ?_
   refine t_expr K ?_
   k_call_by "x" [hr1]
   k_call_by "a" []
   all_goals try first | decide | exact lt_DIV (by omega) | exact lt_BIG (by omega) | exact gt_BIG (by omega) | (simp only [List.length_append,ofOcts_len,toOcts_len,vInts_len,rep_len,List.length_cons,List.length_nil];omega) | decide
   refine WXN.weak (SubB.sub ?_) (row_loop (E0:=128) (x0:=n%128) (c:=1) K F1 L1 hn hr hlen hQ (over_ext hE hr) ?_ (by decide) (Nat.le_mul_of_pos_right _ (Nat.succ_pos _)) ?_)
   ·k_call_by "s" [];exact ⟨rfl,trivial⟩
   ·rw [upd_same];simp [vInts];try lia
   ·show rowOf 1 0 n=_
    unfold rowOf;rw [if_neg (by decide),if_neg (by decide)];exact enc7_part _
  ·skip
   refine t_cons ?_
   refine t_swap (names:=[Str.ofString "edge",Str.ofString "shares"]) K rfl ?_
   k_call_by "x" [List.reverse_cons,List.reverse_nil,List.nil_append,List.cons_append,Option.some.injEq]
   intro r hr t ht
   revert hr ht
   k_call_by "e" [r,t]
   have hr1:upd (upd H r (.list [])) t (.tuple [.int 128,.ref r]) r=some (.list []):=upd_keep ht upd_same
   have hE:Ext H (upd (upd H r (.list [])) t (.tuple [.int 128,.ref r])):=((Ext.refl H).upd hr).upd ht
   generalize upd (upd H r (.list [])) t (.tuple [.int 128,.ref r])=H1 at hr1 hE
   refine t_cons ?_
   refine t_if K ?_
   k_call_by "x" []
   refine t_cons ?_
   refine t_while K F1 (invRowA H1 r n 2) ?_ ?_
   ·refine ⟨n,[(72,.int n),(45,.int ((128^(0+1):Nat):Int)),(96,.ref r),(36,.int 2)],?_,0,rfl,rfl,rfl⟩
    k_call_by "s" []
    exact ⟨trivial,rfl,trivial⟩
   ·rintro y m1 H2 ⟨k,rfl,hy,rfl⟩
    revert hy hr1 hE
    k_call_by "e" [y,H2,k]
    have hp:=fOf_pow k
    have hpf:fOf (k+1)=128*fOf k+1:=rfl
    have hp1:128^(k+1)=128^k*128:=Nat.pow_succ ..
    k_call_by "x" []
    by_cases hlt:128^(k+1)≤y
    ·rw [if_pos (by exact_mod_cast hlt)]
     refine t_cons ?_
     refine t_aug K rfl nm_number (by rw [g_kinds,kd_20];rfl) ?_
     k_call_by "x" []
     refine t_cons ?_
     refine t_aug K rfl nm_edge (by rw [g_kinds,kd_20];rfl) ?_
     k_call_by "x" []
     k_call_by "a" []
     k_call_by "q" []
     refine t_nil ?_
     k_call_by "x" []
     refine ⟨y-128^(k+1),Nat.sub_lt (Nat.lt_of_lt_of_le (Nat.pow_pos (by decide)) hlt) (Nat.pow_pos (by decide)),[(72,.int ((y-128^(k+1):Nat):Int)),(45,.int ((128^(k+1+1):Nat):Int)),(96,.ref r),(36,.int 2)],?_,k+1,rfl,by rw [hp,Nat.mul_add,Nat.mul_comm 128 (128^k),← hp1,Nat.add_comm (128*fOf k),← Nat.add_assoc,Nat.sub_add_cancel hlt];exact hy,rfl⟩
     have e1:(y:Int)-((128^(k+1):Nat):Int)=((y-128^(k+1):Nat):Int):=(Int.ofNat_sub hlt).symm
     have e2:((128^(k+1):Nat):Int)*128=((128^(k+1+1):Nat):Int):=by rw [Nat.pow_succ 128 (k+1)];norm_cast
     rw [e1,e2]
     k_call_by "s" []
    ·rw [if_neg (by exact_mod_cast hlt)]
     have hyn:y=n-128*fOf k:=(Nat.sub_eq_of_eq_add hy.symm).symm
     have hrow:rowOf 2 0 n=up (digB k (y/128))++[((y%128:Nat):Int)]:=by
      show encOfs n=_
      rw [hyn]
      exact encOfs_dig (hy▸Nat.le_add_left _ _) (hyn▸Nat.not_le.mp hlt)
     have hkl:k<400:=by
      have:=congrArg List.length hrow
      unfold up at this
      rw [List.length_append,List.length_map,digB_len,List.length_singleton] at this
      lia
     refine t_cons ?_
     refine t_while K F1 (invRowB H r n 2 y k) ?_ ?_
     ·refine ⟨k+1,[(45,.int ((128^(k+1):Nat):Int)),(72,.int y),(96,.ref r),(36,.int 2)],?_,[],rfl,hE,hr1,rfl,Nat.le_refl _⟩
      k_call_by "s" []
     ·rintro j m1 H2 ⟨acc,rfl,hE2,hr2,hac,hj⟩
      k_call_by "x" []
      cases j with
      | zero =>
       rw [if_neg (by decide)]
       have hac2:acc=digB k (y/128)++[((y%128:Nat):Int)]:=by rw [← digB_snoc,← hac];simp [digB]
       subst hac2
       have hl0:(digB k (y/128)).length<400:=by rw [digB_len];exact hkl
       generalize digB k (y/128)=ac0 at hr2 hrow hl0
       refine t_nil ?_
       k_call_by "x" []
       refine WXN.weak (SubB.sub ?_) (row_tail K F1 L1 hQ hE2 hr2 hl0 hrow)
       k_call_by "s" []
      | succ j =>
       have hpj:128^(j+1)=128^j*128:=Nat.pow_succ ..
       have hp0:0<128^j:=Nat.pow_pos (by decide)
       have hle:128^j≤128^k:=Nat.pow_le_pow_right (by decide) (by exact Nat.le_of_lt_succ ‹_›)
       have h1j:1<128^(j+1):=by simp
       rw [if_pos (by exact_mod_cast h1j)]
       refine t_cons ?_
       refine t_assign K L1 ⟨nm_edge,.inl (by rw [g_kinds,kd_20];rfl)⟩ ?_
       k_call_by "x" []
       k_call_by "a" []
       all_goals try first | omega | exact lt_DIV (by decide) | exact lt_BIG (by omega) | exact gt_BIG (by omega) | (simp only [List.length_append,ofOcts_len,toOcts_len,vInts_len,rep_len,List.length_cons,List.length_nil];omega) | decide
       have e1:((128^(j+1):Nat):Int)/128=((128^j:Nat):Int):=by rw [hpj];simp
       rw [e1]
       refine t_cons ?_
       refine t_expr K ?_
       k_call_by "x" [hr2]
       have hal:acc.length≤k+1:=by
        have:=congrArg List.length hac
        rw [List.length_append,digB_len,digB_len] at this
        lia
       refine ⟨⟨by exact Int.ofNat_lt.mpr ‹_›,lt_DIV2 hn (Nat.le_trans hle (Nat.le_trans (Nat.le_add_left _ (fOf k)) (Nat.le_trans (Nat.le_of_eq (hp.symm.trans hpf)) (Nat.le_trans (Nat.succ_le_succ (hy▸Nat.le_add_left _ y:128*fOf k≤n)) (Nat.le_mul_of_pos_left _ (by decide))))))⟩,?_⟩
       k_call_by "a" []
       k_call_by "p" []
       refine t_nil ?_
       k_call_by "x" []
       refine ⟨j,by exact Nat.lt_succ_self _,[(45,.int ((128^j:Nat):Int)),(72,.int y),(96,.ref r),(36,.int 2)],?_,acc++[((y/128^j%128:Nat):Int)],rfl,over_ext hE2 hr,?_,?_,by exact Nat.le_of_lt ‹_›⟩
       ·k_call_by "s" []
       ·rw [upd_same,vInts_one,vInts_app]
        norm_cast
       ·rw [List.append_assoc];exact hac
   done)
end DL
end
section
namespace DL
variable {C:Cx} {sha:Addr} {fm:Addr→Option Int}
theorem forall_enum {p:It→Prop}:∀ {l:List Int} {j:Int},(∀ it∈enumOf j (vInts l),p it)↔∀ (i:Nat) (x:Int),l[i]?=some x→p (.two (j+i) (.int x))
 | [],j=>by simp [vInts,enumOf]
 | x::r,j=>by
  obtain ih:=forall_enum (p:=p) (l:=r) (j:=j+1)
  show (∀ it∈It.two j (.int x)::enumOf (j+1) (vInts r),p it)↔_
  rw [List.forall_mem_cons,ih]
  constructor
  ·rintro ⟨h1,h2⟩ i y hi
   cases i with
   | zero=>cases hi;simpa using h1
   | succ i=>have:=h2 i y hi;rw [show j+((i+1:Nat):Int)=j+1+(i:Int) by lia];exact this
  ·intro h
   refine ⟨by simpa using h 0 x rfl,fun i y hi=>?_⟩
   have:=h (i+1) y hi
   rw [show j+((i+1:Nat):Int)=j+1+(i:Int) by lia] at this;exact this
theorem enum_len {l:List Int}:∀ {j:Int},(enumOf j (vInts l)).length=l.length:=by
 induction l with
 | nil=>intro j;rfl
 | cons a r ih=>intro j;show (enumOf (j+1) (vInts r)).length+1=_;rw [ih];rfl
noncomputable def itII (f:Int→Int→Int):It→Option V
 | .two i (.int x)=>some (.int (f i x))
 | _=>none
noncomputable def enumMap (f:Int→Int→Int):Int→List Int→List Int
 | _,[]=>[]
 | j,x::r=>f j x::enumMap f (j+1) r
theorem enum_itII {f:Int→Int→Int}:∀ {l:List Int} {j:Int},(enumOf j (vInts l)).filterMap (itII f)=vInts (enumMap f j l)
 | [],_=>rfl
 | x::r,j=>by
  show (It.two j (.int x)::enumOf (j+1) (vInts r)).filterMap (itII f)=_
  rw [List.filterMap_cons]
  show V.int (f j x)::_=_
  rw [enum_itII];rfl
noncomputable def valLo (E:Int):List Int→Int
 | []=>0
 | x::r=>x%E+(enumMap (fun k x=>x%128*E*128^k.toNat) 0 r).sum
noncomputable def valHi (ns:List Int):Int:=ofsEdge (ns.length-1)+(enumMap (fun k x=>x%128*128^((ns.length:Int)-1-k).toNat) 0 ns).sum
noncomputable def lawVal (c:Int) (ns:List Int):Int:=if c=2 then valHi ns else valLo (if c=1 then 128 else 16) ns
noncomputable def spLawValue:Spec:=fun xs H Q _=>∃ (c:Int) (a:Addr) (ns:List Int),xs=[.int c,.ref a]∧H a=some (.list (vInts ns))∧ns≠[]∧ns.length≤400∧(∀ i∈ns,isOctet i)∧(c=0∨c=1∨c=2)∧∀ H',Ext H H'→Q (.int (lawVal c ns)) H'
theorem mulb {x d:Int} (h0:0<d) (h1:d<1000):(x%128*d).natAbs<2^64:=by
 rw [Int.natAbs_mul]
 exact Nat.lt_of_le_of_lt (Nat.mul_le_mul (Int.ofNat_le.mp (by rw [Int.natAbs_of_nonneg (Int.emod_nonneg x (by decide))];exact Int.le_of_lt (Int.emod_lt_of_pos x (by decide))):_≤128) (Int.ofNat_le.mp (by rw [Int.natAbs_of_nonneg (Int.le_of_lt h0)];exact Int.le_of_lt h1):_≤1000)) (by decide)
theorem F_law_value (W:Wd C sha fm) (F:Fk C) (hl:0<C.lv):∀ x,x=fdName 21→∀ u,C.mg x=some u→FnN C u spLawValue :=
 fn_ok W F hl (by decide) sc_21 pl_21 [] (by simp) (fun xs H Q X h=>by
  obtain ⟨c,a,ns,rfl,ha,hne,hlen,hoc,hc,hQ⟩:=h
  refine ⟨rfl,fun C0 mc L a0 cd P K F1 L1=>?_⟩
  obtain u0:=()
  revert W F hl ha hne hlen hoc hc hQ K F1 L1
  k_call_by "e" [C,sha,fm,H,Q,X,c,a,ns,C0,mc,L,a0,cd,P,u0]
  obtain ⟨x0,r0,rfl⟩:∃ x0 r0,ns=x0::r0:=by
   cases ns with
   | nil=>exact absurd rfl hne
   | cons x r=>exact ⟨x,r,rfl⟩
  have hcut:cutOf (vInts (x0::r0)) (some 1) none=vInts r0:=cut_from (k:=1) (by simp [vInts])
  simp only [List.length_cons] at hlen
  refine t_cons ?_
  refine t_assign K L1 ⟨nm_last,.inr (by rw [g_kinds,kd_21];rfl)⟩ ?_
  k_call_by "x" [ha,vInts_len]
  refine t_cons ?_
  refine t_if K ?_
  k_call_by "x" []
  have tail:∀ d cc:Int,0<d→d<1000→(∀ H',Ext H H'→Q (.int (x0%d+(enumMap (fun k x=>x%128*d*128^k.toNat) 0 r0).sum)) H') →
    WSN (ctx 21 C0 mc L a0 cd) P [(52,.int d),(62,.int (((r0.length+1:Nat):Int)-1)),(36,.int cc),(87,.ref a)] H ((fdBody 21).drop 3) (retQ Q) (retX X):=fun d cc hd0 hd1 hQ=>by
   refine t_cons ?_
   refine t_return K ?_
   k_call_by "x" [ha,at_zero,hcut,forall_enum,enum_len]
   refine ⟨hd0,by kernel_rfl,fun c1 hc1=>⟨by exact Nat.le_trans (Nat.le_of_lt ‹_›) (by decide),itII (fun k x=>x%128*d*128^k.toNat),fun i x hi=>⟨.inr (Int.ofNat_lt.mp (by rw [Int.natAbs_of_nonneg (Int.le_of_lt hd0)];exact Int.lt_trans hd1 (by decide))),⟨Int.natCast_nonneg _,Int.ofNat_le.mpr (Nat.le_trans (Nat.zero_add _▸Nat.le_of_lt (List.getElem?_eq_some_iff.mp hi).1) (Nat.le_trans (Nat.le_of_succ_le hlen) (by decide))),by decide⟩,.inl (mulb hd0 hd1),rfl⟩,fun a1 ha1=>?_⟩⟩
   rw [enum_itII,isInts_vI]
   exact hQ _ (((Ext.refl H).upd hc1).upd ha1)
  rcases hc with rfl | rfl | rfl
  ·k_call_by "x" []
   refine t_nil ?_
   k_call_by "x" []
   refine t_cons ?_
   refine t_assign K L1 ⟨nm_first,.inr (by rw [g_kinds,kd_21];rfl)⟩ ?_
   k_call_by "x" []
   exact tail 16 0 (by decide) (by decide) hQ
  ·k_call_by "x" []
   refine t_nil ?_
   k_call_by "x" []
   refine t_cons ?_
   refine t_assign K L1 ⟨nm_first,.inr (by rw [g_kinds,kd_21];rfl)⟩ ?_
   k_call_by "x" []
   exact tail 128 1 (by decide) (by decide) hQ
  ·k_call_by "x" []
   refine t_cons ?_
   refine t_return K ?_
   k_call_by "x" [ha]
   refine ⟨by kernel_rfl,⟨by lia,by lia⟩,by lia,itI (fun i=>128^i.toNat),fun k hk=>⟨⟨by exact Int.natCast_nonneg _,by lia,by decide⟩,rfl⟩,fun a1 ha1=>?_⟩
   rw [range_itI,isInts_vI]
   have g1:=upd_keep (o:=.list (vInts ((List.range (((r0.length+1:Nat):Int)-1+1-1).toNat).map fun (k:Nat)=>(128:Int)^(1+(k:Int)).toNat))) ha1 ha
   simp only [g1]
   k_call_by "x" [forall_enum,enum_len]
   refine ⟨by kernel_rfl,by exact Nat.le_trans (Nat.le_of_lt ‹_›) (by decide),itII (fun k x=>x%128*128^(((r0.length+1:Nat):Int)-1-k).toNat),fun i x hi=>⟨?_,.inl (by lia),rfl⟩,fun a2 ha2=>?_⟩
   ·have:=(List.getElem?_eq_some_iff.mp hi).1
    simp only [List.length_cons] at this
    (repeat' apply And.intro)<;>first | lia | decide | exact .inl (by omega)
   ·rw [enum_itII,isInts_vI]
    have e1:((List.range (((r0.length+1:Nat):Int)-1+1-1).toNat).map fun (k:Nat)=>(128:Int)^(1+(k:Int)).toNat).sum=ofsEdge ((x0::r0).length-1):=by
     unfold ofsEdge
     rw [show (((r0.length+1:Nat):Int)-1+1-1).toNat=(x0::r0).length-1 by simp only [List.length_cons];simp]
     congr 1
     try (refine List.map_congr_left fun k _=>?_;rw [show (1+(k:Int)).toNat=1+k by omega])
    rw [e1]
    exact hQ _ (((Ext.refl H).upd ha1).upd ha2))
end DL
end
section
namespace DL
variable {C:Cx} {sha:Addr} {fm:Addr→Option Int}
noncomputable def keyOf (c:Int) (ns:List Int):List UInt8:=ofOcts ((ns.length:Int)::(if c=2 then ns else ns.reverse))
noncomputable def spLawKey:Spec:=fun xs H Q _=>∃ (c:Int) (a:Addr) (ns:List Int),xs=[.int c,.ref a]∧H a=some (.list (vInts ns))∧ns.length≤255∧(∀ i∈ns,isOctet i)∧∀ H',Ext H H'→Q (.bytes (keyOf c ns)) H'
theorem rev_range {ns:List Int}:((List.range ((ns.length:Int)-0).toNat).map fun (k:Nat)=>(ns[ns.length-1-((0:Int)+(k:Int)).toNat]?).getD 0)=ns.reverse:=by
 refine List.ext_getElem (by simp) fun i h1 h2=>?_
 simp only [List.length_map,List.length_range] at h1
 rw [List.getElem_map,List.getElem_range,List.getElem_reverse,show ((0:Int)+(i:Int)).toNat=i by exact Nat.add_comm _ _,List.getElem?_eq_getElem (Nat.lt_of_le_of_lt (Nat.sub_le _ _) (Nat.sub_one_lt_of_lt (List.length_reverse▸h2)))]
 rfl
theorem F_law_key (W:Wd C sha fm) (F:Fk C) (hl:0<C.lv):∀ x,x=fdName 23→∀ u,C.mg x=some u→FnN C u spLawKey :=
 fn_ok W F hl (by decide) sc_23 pl_23 [] (by simp) (fun xs H Q X h=>by
  obtain ⟨c,a,ns,rfl,ha,hlen,hoc,hQ⟩:_:=h
  refine ⟨rfl,fun C0 mc L a0 cd P K F1 L1=>?_⟩
  refine t_cons ?_
  refine t_assign K L1 ⟨nm_last,.inr (by rw [g_kinds,kd_23];rfl)⟩ ?_
  k_call_by "x" [ha,vInts_len]
  refine t_cons ?_
  refine t_assign K L1 ⟨nm_row,.inl (by rw [g_kinds,kd_23];rfl)⟩ ?_
  k_call_by "x" [ha,vInts_len,List.lookup_nil]
  split
  ·rename_i h2
   have hrow:=ha
   have ha1:=ha
   have hE:=Ext.refl H
   refine t_cons ?_
   refine t_return K ?_
   k_call_by "x" [ha1,vInts_len]
   intro c1 hc1
   simp only [upd_same,upd_keep hc1 hrow,w_oL,w_oE]
   refine ⟨by simp only [vInts_len,List.length_cons,List.length_nil,SZ_eq,List.length_reverse];lia,fun d hd=>?_⟩
   k_call_by "x" []
   rw [vInts_one,vInts_app,isInts_vI,w_oE]
   refine ⟨fun i hi=>?_,?_⟩
   ·rcases List.mem_append.mp hi with hi | hi
    ·rw [List.mem_singleton] at hi;subst hi;exact ⟨Int.natCast_nonneg _,Int.ofNat_lt.mpr (Nat.lt_of_le_of_lt ‹_› (by decide))⟩
    ·exact hoc i (by first | exact hi | exact List.mem_reverse.mp hi)
   ·rw [show ofOcts ([(ns.length:Int)]++_)=keyOf c ns by unfold keyOf;first | rw [if_pos h2];rfl | rw [if_neg h2];rfl]
    exact hQ _ ((hE.upd hc1).upd hd)
  ·rename_i h2
   refine ⟨by kernel_rfl,⟨by exact Int.natCast_nonneg _,by exact Int.ofNat_lt.mpr (Nat.lt_of_le_of_lt ‹_› (by decide))⟩,by exact Nat.le_trans ‹_› (by decide),itI (fun i=>(ns[ns.length-1-i.toNat]?).getD 0),fun k hk=>?_,fun b hb=>?_⟩
   ·have hk:k<ns.length:=hk
    have hk2:ns.length-1-k<ns.length:=Nat.lt_of_le_of_lt (Nat.sub_le _ _) (Nat.sub_one_lt_of_lt hk)
    rw [show (ns.length:Int)-1-(0+(k:Int))=((ns.length-1-k:Nat):Int) by rw [Int.zero_add,Int.ofNat_sub (Nat.le_sub_one_of_lt hk),Int.ofNat_sub (Nat.lt_of_le_of_lt (Nat.zero_le _) hk)];rfl,at_nat (List.getElem?_eq_getElem hk2)]
    show some (V.int ((ns[ns.length-1-((0:Int)+(k:Int)).toNat]?).getD 0))=_
    rw [show ((0:Int)+(k:Int)).toNat=k by exact Nat.add_comm _ _,List.getElem?_eq_getElem hk2]
    rfl
   ·rw [range_itI,rev_range]
    have hrow:upd H b (.list (vInts ns.reverse)) b=some (.list (vInts ns.reverse)):=upd_same
    have ha1:=upd_keep (o:=.list (vInts ns.reverse)) hb ha
    have hE:=(Ext.refl H).upd hb (o:=.list (vInts ns.reverse))
    generalize upd H b (.list (vInts ns.reverse))=H1 at hrow ha1 hE
    refine t_cons ?_
    refine t_return K ?_
    k_call_by "x" [ha1,vInts_len]
    intro c1 hc1
    simp only [upd_same,upd_keep hc1 hrow,w_oL,w_oE]
    refine ⟨by simp only [vInts_len,List.length_cons,List.length_nil,SZ_eq,List.length_reverse];lia,fun d hd=>?_⟩
    k_call_by "x" []
    rw [vInts_one,vInts_app,isInts_vI,w_oE]
    refine ⟨fun i hi=>?_,?_⟩
    ·rcases List.mem_append.mp hi with hi | hi
     ·rw [List.mem_singleton] at hi;subst hi;exact ⟨Int.natCast_nonneg _,Int.ofNat_lt.mpr (Nat.lt_of_le_of_lt ‹_› (by decide))⟩
     ·exact hoc i (by first | exact hi | exact List.mem_reverse.mp hi)
    ·rw [show ofOcts ([(ns.length:Int)]++_)=keyOf c ns by unfold keyOf;first | rw [if_pos h2];rfl | rw [if_neg h2];rfl]
     exact hQ _ ((hE.upd hc1).upd hd)
    done)
end DL
end
section
namespace DL
variable {C:Cx} {sha:Addr} {fm:Addr→Option Int}
noncomputable def spLawCut:Spec:=fun xs H Q _=>∃ (B:List UInt8) (off:Nat),xs=[.bytes B,.int off]∧B.length≤100000∧off≤100000 ∧
 (∀ l,takeMsb (B.drop off)=some l→∀ H' r t,Ext H H'→H r=none→H' r=some (.list (vInts l))→H t=none→H' t=some (.tuple [.ref r,.int ((off+l.length:Nat):Int)])→Q (.ref t) H') ∧
 (takeMsb (B.drop off)=none→∀ H',Ext H H'→Q .none H')
noncomputable def invCut (H:Hp) (B:List UInt8) (off:Nat) (n:Nat) (m:Loc) (H1:Hp):Prop :=
 ∃ k:Nat,m=[(46,.int ((off+k:Nat):Int)),(75,.bytes B),(27,.int (off:Nat))]∧n=B.length-(off+k)∧H1=H∧off+k≤max off B.length ∧
  takeMsb (B.drop off)=(takeMsb (B.drop (off+k))).map (toOcts ((B.drop off).take k)++·)
theorem F_law_cut (W:Wd C sha fm) (F:Fk C) (hl:0<C.lv):∀ x,x=fdName 26→∀ u,C.mg x=some u→FnN C u spLawCut :=
 fn_ok W F hl (by decide) sc_26 pl_26 [] (by simp) (fun xs H Q X h=>by
  obtain ⟨B,off,rfl,hB,hoff,hQ,hN⟩:=h
  refine ⟨rfl,fun C0 mc L a0 cd P K F1 L1=>?_⟩
  revert W F hl hB hoff hQ hN K F1 L1
  k_call_by "e" [C,sha,fm,H,Q,X,B,off,C0,mc,L,a0,cd,P]
  refine t_cons ?_
  refine t_assign K L1 ⟨nm_end,.inl (by rw [g_kinds,kd_26];rfl)⟩ ?_
  k_call_by "x" []
  refine t_cons ?_
  refine t_while K F1 (invCut H B off) ?_ ?_
  ·refine ⟨_,[(46,.int ((off+0:Nat):Int)),(75,.bytes B),(27,.int (off:Nat))],?_,0,rfl,rfl,rfl,Nat.le_max_left _ _,?_⟩
   ·simp only [SubB,List.lookup_cons,Nat.reduceBEq,and_self,Nat.add_zero]
   ·simp [toOcts]
  ·rintro n m1 H1 ⟨k,rfl,hn,rfl,hk,he⟩
   revert hn hQ hN hk he
   k_call_by "e" [n,H1,k]
   k_call_by "x" []
   by_cases hlt:off+k<B.length
   ·rw [if_pos (by exact Int.ofNat_lt.mpr ‹_›)]
    have hd:B.drop (off+k)=B[off+k]::B.drop (off+k+1):=List.drop_eq_getElem_cons hlt
    have hat:atB? B ((off+k:Nat):Int)=some B[off+k]:=by
     unfold atB? pyIx
     rw [if_pos ⟨by exact Int.natCast_nonneg _,by exact Int.ofNat_lt.mpr ‹_›⟩]
     show B[((off+k:Nat):Int).toNat]?=_
     rw [Int.toNat_natCast,List.getElem?_eq_getElem hlt]
    rw [hat]
    simp only [w_oE,decide_eq_true_eq]
    by_cases h127:127<(B[off+k].toNat:Int)
    ·rw [if_pos h127]
     refine t_cons ?_
     refine t_aug K rfl nm_end (by rw [g_kinds,kd_26];rfl) ?_
     k_call_by "x" []
     refine t_nil ?_
     k_call_by "x" []
     refine ⟨B.length-(off+(k+1)),hn▸Nat.sub_lt_sub_left hlt (Nat.lt_succ_self _),[(46,.int ((off+(k+1):Nat):Int)),(75,.bytes B),(27,.int (off:Nat))],?_,k+1,rfl,rfl,rfl,Nat.le_trans hlt (Nat.le_max_right _ _),?_⟩
     ·rw [show ((off+k:Nat):Int)+1=((off+(k+1):Nat):Int) from rfl]
      k_call_by "s" []
     ·rw [he,hd,takeMsb,if_neg (Nat.not_lt.mpr (Int.ofNat_lt.mp h127)),Option.map_map]
      rw [show off+k+1=off+(k+1) by (exact Nat.add_assoc _ _ _)]
      congr 1
      funext l
      have h2:(B.drop off).take (k+1)=(B.drop off).take k++[B[off+k]]:=by
       rw [List.take_add_one,List.getElem?_drop,List.getElem?_eq_getElem hlt]
       rfl
      simp only [Function.comp,h2,toOcts,List.map_append,List.map_cons,List.map_nil,List.append_assoc,List.singleton_append]
    ·rw [if_neg h127]
     refine t_cons ?_
     refine t_return K ?_
     k_call_by "x" []
     rw [if_neg (by lia)]
     intro c hc t ht
     revert hc ht
     k_call_by "e" [c,t]
     have h3:cutOf B (some (off:Int)) (some (((off+k:Nat):Int)+1))=(B.drop off).take (k+1):=by
      unfold cutOf
      simp only [Option.elim_some]
      rw [show clipAt B.length (off:Int)=off from (clip_nat B.length off).trans (Nat.min_eq_left (Nat.le_of_lt (Nat.lt_of_le_of_lt (Nat.le_add_right off k) hlt))),show clipAt B.length (((off+k:Nat):Int)+1)=off+k+1 from (clip_nat B.length (off+k+1)).trans (Nat.min_eq_left hlt),show off+k+1-off=k+1 by rw [Nat.add_assoc,Nat.add_sub_cancel_left]]
     have e0:takeMsb (B.drop off)=some (toOcts (cutOf B (some (off:Int)) (some (((off+k:Nat):Int)+1)))):=by
      rw [he,hd,takeMsb,if_pos (Nat.lt_succ_of_le (Int.ofNat_le.mp (Int.not_lt.mp h127)))]
      have h2:(B.drop off).take (k+1)=(B.drop off).take k++[B[off+k]]:=by
       rw [List.take_add_one,List.getElem?_drop,List.getElem?_eq_getElem hlt]
       rfl
      rw [h3,h2]
      simp [toOcts]
     have el:(toOcts (cutOf B (some (off:Int)) (some (((off+k:Nat):Int)+1)))).length=k+1:=by
      rw [toOcts_len,h3,List.length_take,List.length_drop];exact Nat.min_eq_left (Nat.le_sub_of_add_le' hlt)
     generalize toOcts (cutOf B (some (off:Int)) (some (((off+k:Nat):Int)+1)))=l at ht e0 el
     have e3:((off+k:Nat):Int)+1=((off+l.length:Nat):Int):=by rw [el];rfl
     rw [e3]
     have hE1:=(Ext.refl H1).upd hc (o:=.list (vInts l))
     exact hQ l e0 _ c t (hE1.upd ht) hc (upd_keep ht upd_same) (hE1.none ht) upd_same
   ·rw [if_neg (by lia),if_neg (by lia)]
    have hd:B.drop (off+k)=[]:=List.drop_eq_nil_of_le (by exact Nat.not_lt.mp ‹_›)
    refine t_cons ?_
    refine t_return K ?_
    k_call_by "x" []
    rw [if_pos (by lia)]
    exact hN (by rw [he,hd];rfl) _ (Ext.refl _))
end DL
end
section
namespace DL
variable {C:Cx} {sha:Addr} {fm:Addr→Option Int}
noncomputable def spLawTurned:Spec:=fun xs H Q _=>∃ (B:List UInt8) (n:Int),xs=[.bytes B,.int n]∧0<B.length∧B.length≤400∧∀ b H',b.length≤1000→Ext H H'→Q (.bytes b) H'
theorem F_law_turned (W:Wd C sha fm) (F:Fk C) (hl:0<C.lv):∀ x,x=fdName 19→∀ u,C.mg x=some u→FnN C u spLawTurned :=
 fn_ok W F hl (by decide) sc_19 pl_19 [] (by simp) (fun xs H Q X h=>by
  obtain ⟨B,n,rfl,hB0,hB,hQ⟩:=h
  refine ⟨rfl,fun C0 mc L a0 cd P K F1 L1=>?_⟩
  revert W F hl hB0 hB hQ K F1 L1
  k_call_by "e" [C,sha,fm,H,Q,X,B,n,C0,mc,L,a0,cd,P]
  have hc:atB? B ((B.length:Int)-1)=some (B[B.length-1]'(Nat.sub_lt hB0 (by decide))):=by
   unfold atB? pyIx
   rw [if_pos ⟨Int.sub_nonneg_of_le (Int.ofNat_le.mpr hB0),Int.sub_lt_self _ (by decide)⟩]
   show B[((B.length:Int)-1).toNat]?=_
   rw [show ((B.length:Int)-1).toNat=B.length-1 by simp,List.getElem?_eq_getElem]
  have hf:atB? B 0=some (B[0]'hB0):=by
   unfold atB? pyIx
   rw [if_pos ⟨by decide,by exact Int.ofNat_lt.mpr ‹_›⟩]
   show B[(0:Int).toNat]?=_
   rw [show (0:Int).toNat=0 by rfl,List.getElem?_eq_getElem]
  obtain cl:=fun a b=>cutOf_len B a b
  refine t_cons ?_
  refine t_assign K L1 ⟨nm_last,.inl (by rw [g_kinds,kd_19];rfl)⟩ ?_
  k_call_by "x" []
  refine t_cons ?_
  refine t_assign K L1 ⟨nm_other,.inl (by rw [g_kinds,kd_19];rfl)⟩ ?_
  k_call_by "x" [hc]
  intro a1 ha1
  obtain c1:=cl none (some ((B.length:Int)-1))
  refine ⟨by exact ⟨Int.emod_nonneg _ (by decide),Int.emod_lt_of_pos _ (by decide)⟩,Nat.le_trans c1 (Nat.le_trans hB (by decide)),?_⟩
  generalize hoth:cutOf B none (some ((B.length:Int)-1))++ofOcts _=oth
  have hol:oth.length≤401:=by rw [← hoth,List.length_append,ofOcts_len];simp;exact Nat.le_trans ‹_› ‹_›
  refine t_cons ?_
  refine t_return K ?_
  k_call_by "x" [hf]
  refine ⟨lt_DIV (by decide),fun a2 ha2=>⟨by exact ⟨Int.emod_nonneg _ (by decide),Int.emod_lt_of_pos _ (by decide)⟩,by exact Nat.le_trans ‹_› (by decide),fun a3 ha3=>⟨by exact ⟨Int.emod_nonneg _ (by decide),Int.emod_lt_of_pos _ (by decide)⟩,by have:=cl (some 1) none;lia,fun a4 ha4=>?_⟩⟩⟩
  obtain hE:=((((Ext.refl H).upd ha1 (o:=.list [.int (((B[B.length-1]'(Nat.sub_lt hB0 (by decide))).toNat+1)%256)])).upd ha2 (o:=.list [.int (n/6%256)])).upd ha3 (o:=.list [.int (((B[0]'hB0).toNat+255)%256)]))
  have key:∀ l:List (List UInt8),l.length=6→(∀ b∈l,b.length≤1000)→∃ b,at? (l.map V.bytes) (n%6)=some (V.bytes b)∧b.length≤1000:=fun l h6 hl=>by
   have h:(n%6).toNat<l.length:=(Int.toNat_lt (Int.emod_nonneg _ (by decide))).mpr (by rw [h6];exact Int.emod_lt_of_pos _ (by decide))
   refine ⟨l[(n%6).toNat],?_,hl _ (List.getElem_mem h)⟩
   unfold at? pyIx
   rw [if_pos ⟨by exact Int.emod_nonneg _ (by decide),by rw [List.length_map,h6];exact Int.emod_lt_of_pos _ (by decide)⟩]
   simp [h]
  obtain ⟨b,hb1,hb2⟩:=key [B,cutOf B none (some ((B.length:Int)-1)),B++ofOcts [n/6%256],oth,ofOcts [(((B[0]'hB0).toNat:Int)+255)%256]++cutOf B (some 1) none,[]] rfl (fun b hb=>by
   simp only [List.mem_cons,List.not_mem_nil,or_false] at hb
   obtain c2:=cl (some 1) none
   rcases hb with rfl | rfl | rfl | rfl | rfl | rfl
   ·exact Nat.le_trans ‹_› (by decide)
   ·exact Nat.le_trans c1 (Nat.le_trans hB (by decide))
   ·rw [List.length_append,ofOcts_len];simp only [List.length_cons,List.length_nil];exact Nat.lt_of_le_of_lt ‹_› (by decide)
   ·exact Nat.le_trans ‹_› (by decide)
   ·rw [List.length_append,ofOcts_len];simp only [List.length_cons,List.length_nil];lia
   ·simp)
  simp only [List.map_cons,List.map_nil] at hb1
  rw [hb1]
  exact hQ b _ hb2 (hE.upd ha4))
end DL
end
section
namespace DL
variable {C:Cx} {sha:Addr} {fm:Addr→Option Int}
theorem takeMsb_cut:∀ {D:List UInt8} {l:List Int},takeMsb D=some l→takeMsb (D.take (l.length-1))=none
 | [],l,h=>by cases h
 | c::r,l,h=>by
  unfold takeMsb at h
  split at h
  ·cases h;rfl
  ·rename_i hc
   cases q:takeMsb r with
   | none=>rw [q] at h;cases h
   | some l' =>
    rw [q] at h;cases h
    obtain ih:=takeMsb_cut q
    have hl:0<l'.length:=by
     cases l' with
     | nil =>
      exfalso
      cases r with
      | nil=>cases q
      | cons d t =>
       unfold takeMsb at q
       split at q
       ·cases q
       ·cases q2:takeMsb t with
        | none=>rw [q2] at q;cases q
        | some l2=>rw [q2] at q;cases q
     | cons y t=>exact Nat.succ_pos _
    rw [List.length_cons,Nat.add_sub_cancel,show l'.length=(l'.length-1)+1 from (Nat.sub_add_cancel hl).symm,List.take_succ_cons,takeMsb,if_neg hc,ih]
    rfl
theorem takeMsb_pos {D:List UInt8} {l:List Int} (h:takeMsb D=some l):0<l.length∧l.length≤D.length∧l=toOcts (D.take l.length):=by
 induction D generalizing l with
 | nil=>cases h
 | cons c r ih =>
  unfold takeMsb at h
  split at h
  ·cases h;exact ⟨Nat.succ_pos _,by simp,by simp [toOcts]⟩
  ·cases q:takeMsb r with
   | none=>rw [q] at h;cases h
   | some l' =>
    rw [q] at h;cases h
    obtain ⟨h1,h2,h3⟩:=ih q
    refine ⟨Nat.succ_pos _,by simp only [List.length_cons];exact Nat.succ_le_succ ‹_›,?_⟩
    rw [List.length_cons,List.take_succ_cons]
    simp only [toOcts,List.map_cons]
    congr 1
theorem pydL_vInts:∀ {ns:List Int},pydL (vInts ns)=some (ns.map PyData.int)
 | []=>rfl
 | x::r=>by
  show pydC (pydS (.int x)) (pydL (vInts r))=_
  rw [pydL_vInts];rfl
theorem eqv_ints {a b:List Int}:PyData.eqv (.list (a.map PyData.int)) (.list (b.map PyData.int))=decide (a=b):=by
 rw [PyData.eqv];exact ked_eqvAll a b
noncomputable def spLawNext:Spec:=fun xs H Q _=>∃ (B:List UInt8) (off:Nat) (rw:Addr) (R:List Int),xs=[.bytes B,.int off,.ref rw]∧B.length≤90000∧off≤90000∧H rw=some (.list (vInts R))∧takeMsb (B.drop off)=some R ∧
 ∀ H',Ext H H'→Q (.bool true) H'
theorem F_law_taken (W:Wd C sha fm) (F:Fk C) (hl:1<C.lv):∀ x,x=fdName 27→∀ u,C.mg x=some u→FnN C u spLawCut :=
 fn_ok W F (by exact Nat.le_of_lt ‹_›) (by decide) sc_27 pl_27 [(103,spTake)] (fun C' W' F' hlv e he=>by
  rw [List.mem_singleton] at he;subst he
  exact fun x hx=>F_take W' F' (lvq hl hlv (by decide)) x (nmc_inj hx nm_take_msb_bytes_at)) (fun xs H Q X h=>by
  obtain ⟨B,off,rfl,hB,hoff,hQ,hN⟩:=h
  refine ⟨rfl,fun C0 mc L a0 cd P K F1 L1=>?_⟩
  refine t_cons ?_
  refine t_try_assert K F1 nm_AssertionError (by rw [g_kinds,kd_27];rfl) gl_1 ?_
  refine t_cons ?_
  refine t_assign K L1 ⟨nm_told,.inl (by rw [g_kinds,kd_27];rfl)⟩ ?_
  k_call_by "x" []
  refine ⟨B,off,rfl,hB,hoff,fun l hl H' r t hE hr hr' ht ht'=>?_,fun hn H' hE=>?_⟩
  ·refine t_nil ?_
   refine t_cons ?_
   refine t_return K ?_
   k_call_by "x" []
   exact hQ l hl H' r t hE hr hr' ht ht'
  ·refine ⟨rfl,fun e=>?_⟩
   refine t_cons ?_
   refine t_assign K.inH L1.inH ⟨nm_told,.inl (by show List.lookup _ (gOf 27 sha fm []).kinds=_;rw [g_kinds,kd_27];rfl)⟩ ?_
   k_call_by "x" []
   refine t_nil ?_
   refine t_cons ?_
   refine t_return K ?_
   k_call_by "x" []
   exact hN hn H' hE)
theorem F_law_next (W:Wd C sha fm) (F:Fk C) (hl:2<C.lv):∀ x,x=fdName 28→∀ u,C.mg x=some u→FnN C u spLawNext :=
 fn_ok W F (by exact Nat.lt_of_le_of_lt (Nat.zero_le _) ‹_›) (by decide) sc_28 pl_28 [(103,spTake),(21,spLawCut)] (fun C' W' F' hlv e he=>by
  simp only [List.mem_cons,List.not_mem_nil,or_false] at he
  rcases he with rfl | rfl
  ·exact fun x hx=>F_take W' F' (lvq hl hlv (by decide)) x (nmc_inj hx nm_take_msb_bytes_at)
  ·exact fun x hx=>F_law_taken W' F' (lvq hl hlv (by decide)) x (nmc_inj hx nm_law_taken)) (fun xs H Q X h=>by
  obtain ⟨B,off,rw0,R,rfl,hB,hoff,hrw,hR,hQ⟩:=h
  refine ⟨rfl,fun C0 mc L a0 cd P K F1 L1=>?_⟩
  revert W F hl hB hoff hrw hR hQ K F1 L1
  k_call_by "e" [C,sha,fm,H,Q,X,B,off,rw0,R,C0,mc,L,a0,cd,P]
  obtain ⟨hp,hle,_⟩:=takeMsb_pos hR
  rw [List.length_drop] at hle
  refine t_cons ?_
  refine t_tuple K rfl ?_
  k_call_by "x" []
  refine ⟨B,off,rfl,by exact Nat.le_trans ‹_› (by decide),by exact Nat.le_trans ‹_› (by decide),fun l hl H' r t hE hr hr' ht ht'=>?_,fun hn=>by rw [hR] at hn;cases hn⟩
  rw [hR] at hl;cases hl
  k_call_by "x" [ht']
  k_call_by "a" []
  k_call_by "o" []
  refine t_cons ?_
  refine t_return K ?_
  have hrw':=hE _ _ hrw
  k_call_by "x" [hr',hrw',pydL_vInts,eqv_ints,vInts_len]
  have hcut:cutOf B none (some (((off+R.length:Nat):Int)-1))=B.take (off+R.length-1):=by
   rw [show ((off+R.length:Nat):Int)-1=((off+R.length-1:Nat):Int) from (Int.ofNat_sub (Nat.le_trans hp (Nat.le_add_left _ _))).symm,cut_to (Nat.le_trans (Nat.sub_le _ _) (Nat.add_le_of_le_sub' (Nat.le_of_lt (Nat.lt_of_sub_pos (Nat.lt_of_lt_of_le hp hle))) hle))]
  rw [if_pos (by simp),hcut]
  refine ⟨_,off,rfl,by rw [List.length_take];grind,by exact Nat.le_trans ‹_› (by decide),fun l hl=>?_,fun hn H2 hE2=>?_⟩
  ·rw [List.drop_take,show off+R.length-1-off=R.length-1 by rw [Nat.add_sub_assoc hp,Nat.add_sub_cancel_left],takeMsb_cut hR] at hl
   cases hl
  ·exact hQ _ (hE.trans hE2))
end DL
end
section
namespace DL
section
variable {prog:Program} {w:PySem.World} {A:Around} {E:Value→Shared→Prop} {h:Heap} {g:Array GenState} {d:Drawn} {t:Nat} {os:OsState}
variable {nm q:Str} {C N fI:Addr} {bs bm:List Value} {hdct:Bool} {sn:List Str} {sub:List Value} {ab:Bool} {col:Option Bool} {dd:Option Addr} {k0 k1 k2 k3 k5:Option Value} {B newId initId:String}
noncomputable abbrev exTup (rest:List Value):Obj:={ cls:=.type "tuple",data:=.seq rest.toArray }
noncomputable abbrev exObj (C T:Addr):Obj:={ cls:=.ref C,data:=.fields #[.ref T,.none,.none,.none,.bool false,.none] }
theorem type_call_own (F:ExcBaseFacts B newId initId bm) {mN:Str→Option Value} {rest:List Value} {Q:Fin→Shared→Prop} {oI:Obj}
  (hC:h.get? C=some (excClassObj nm q C N bs bm hdct sn sub ab col dd k0 k1 k2 k3 k5 newId)) (hn:h.Ns N mN) (hni:mN "__init__" = some (.ref fI))
  (hf:h.get? fI=some oI) (hfc:oI.cls = .type "function") (hrest:rest.length≤sizeLine)
  (hq:wpAny (model prog w) A (call (.ref fI) (.ref (h.objs.size+1)::rest)) (fun v s'=>v = .none∧Q (.done (.ret (.ref (h.objs.size+1)))) s') E ⟨(h.push (exTup rest)).push (exObj C h.objs.size),g,d,t,os⟩) :
  wpAny (model prog w) A (Builtin.«type.__call__» ⟨.ref C::rest,[]⟩) Q E ⟨h,g,d,t,os⟩:=by
 revert F hC hn hni hf hfc hrest hq
 k_call_by "e" [prog,w,A,E,h,g,d,t,os,nm,q,C,N,fI,bs,bm,hdct,sn,sub,ab,col,dd,k0,k1,k2,k3,k5,B,newId,initId,mN,rest,Q,oI]
 repeat (first | with_reducible refine wpAny_loadPart_at hC ?_ | with_reducible refine wpAny_madeBy_exc hC ?_ | wp_step)
 refine codeAny_call_builtin_code (Code.quiet_builtin _ F.quiet) (wpAny_check_new_sub F hC ?_)
 refine codeAny_exc_new_sub F hC ?_ hrest
 show wpAny _ _ _ _ _ _
 have hC₁:=Heap.get?_push_of_some (exObj C h.objs.size) (Heap.get?_push_of_some (exTup rest) hC)
 have hf₁:=Heap.get?_push_of_some (exObj C h.objs.size) (Heap.get?_push_of_some (exTup rest) hf)
 have hn₁:((h.push (exTup rest)).push (exObj C h.objs.size)).Ns N mN :=
  let ⟨o,es,ep,e,r⟩:=hn;⟨o,es,ep,Heap.get?_push_of_some _ (Heap.get?_push_of_some _ e),r⟩
 have hget:((h.push (exTup rest)).push (exObj C h.objs.size)).get? (h.objs.size+1)=some (exObj C h.objs.size):=by heap_get
 have hcC:(Value.ref C::bm).contains (.ref C)=true:=by simp
 unfold isInstance
 repeat (first | with_reducible refine wpAny_loadPart_at hget ?_ | (with_reducible refine wpAny_isSubtype_exc hC₁ ?_;rw [hcC]) | wp_step)
 show wpAny _ _ (typeLookup (.ref C) _) _ _ _
 refine wpAny_typeLookup_exc hC₁ hn₁ F.mroIs F.init.lookup ?_
 rw [hni]
 refine wpAny_holding (wpAny_bind ?_)
 unfold bindSpecial typeOf
 refine wpAny_bind (wpAny_bind (wpAny_loadPart_at hf₁ (wpAny_pure ?_)))
 rw [hfc]
 refine wpAny_of_eq (a:=(.ref fI,[.ref (h.objs.size+1)])) (by kernel_rfl) ?_
 refine wpAny_bind (wpAny_mono hq (fun v s' hv=>?_) fun _ _ x=>x)
 obtain ⟨rfl,hv⟩:_:=hv
 exact wpAny_pure (wpAny_pure hv)
theorem call_exc_own (F:ExcBaseFacts B newId initId bm) {mN:Str→Option Value} {rest:List Value} {Q:Value→Shared→Prop} {oI:Obj}
  (hC:h.get? C=some (excClassObj nm q C N bs bm hdct sn sub ab col dd k0 k1 k2 k3 k5 newId)) (hn:h.Ns N mN) (hni:mN "__init__" = some (.ref fI))
  (hf:h.get? fI=some oI) (hfc:oI.cls = .type "function") (hrest:rest.length≤sizeLine)
  (hq:wpAny (model prog w) (A.under (.builtin "type.__call__" ⟨.ref C::rest,[]⟩)) (call (.ref fI) (.ref (h.objs.size+1)::rest)) (fun v s'=>v = .none∧Q (.ref (h.objs.size+1)) s') E ⟨(h.push (exTup rest)).push (exObj C h.objs.size),g,d,t,os⟩) :
  wpAny (model prog w) A (call (.ref C) rest) Q E ⟨h,g,d,t,os⟩:=by
 obtain f1:=tc_lookup
 obtain f2:=tc_bind (.ref C)
 have hT:(⟨h,g,d,t,os⟩:Shared).TypeIs (.ref C) "type" := ⟨_,hC,rfl⟩
 refine wpAny_call (codeAny_of_tree ?_)
 show wpAny _ _ (callAny (.ref C) _) _ _ _
 repeat (any_goals (first | assumption | with_reducible refine wpAny_loadPart_at hC ?_ | wp_step))
 refine ⟨rfl,?_⟩
 refine codeAny_call_builtin_at (Code.quiet_builtin _ (by decide +kernel)) entry_typeCall (wpAny_check_type_call_sub hC (type_call_own F hC hn hni hf hfc hrest (wpAny_mono hq (fun v s' hv=>?_) fun _ _ x=>x)))
 obtain ⟨rfl,hv⟩:=hv
 exact ⟨rfl,hv⟩
end
end DL
end
section
namespace DL
noncomputable def clFn (i:Nat):Option (Arguments×List Stmt×Scope):=match PySem.Challenge.pw_ai0006_01.main.body[i]? with
 | some (.ClassDef _ _ _ (.FunctionDef _ a b _ _ _ sc _ _ _::_) _ _ _ _ _ _ _)=>some (a,b,sc)
 | _=>none
noncomputable def clArgs (i:Nat):Arguments:=((clFn i).map (·.1)).getD default
noncomputable def clBody (i:Nat):List Stmt:=((clFn i).map (·.2.1)).getD []
noncomputable def clScope (i:Nat):Scope:=((clFn i).map (·.2.2)).getD { kind:=.module,names:=[],isGenerator:=false,isCoroutine:=false,more:=[] }
theorem ade_body:clBody 2=[.Expr (.Call (.Attribute (.Name (Str.ofString "Exception") ⟨8,8,8,17⟩) (Str.ofString "__init__") ⟨8,8,8,26⟩) [.Name (Str.ofString "self") ⟨8,27,8,31⟩,.Name (Str.ofString "message") ⟨8,33,8,40⟩] [] ⟨8,8,8,41⟩) ⟨8,8,8,41⟩]:=by kernel_rfl
noncomputable abbrev adeScope:Scope:={ kind:=.function,names:=[(Str.ofString "self",.local),(Str.ofString "message",.local),(Str.ofString "Exception",.globalImplicit)],isGenerator:=false,isCoroutine:=false,more:=[] }
theorem ade_scope:clScope 2=adeScope:=by kernel_rfl
section
variable {prog:Program} {w:PySem.World} {A:Around} {E:Value→Shared→Prop} {s:Shared}
variable {nm q:Str} {C N fI e t0 dT:Addr} {bs bm:List Value} {hdct:Bool} {sn:List Str} {sub:List Value} {ab:Bool} {col:Option Bool} {dd:Option Addr} {k0 k1 k2 k3 k5:Option Value} {B newId initId:String}
theorem exc_init_own (F:ExcBaseFacts B newId initId bm) {rest:List Value} {Q:Value→Shared→Prop}
  (hC:s.heap.get? C=some (excClassObj nm q C N bs bm hdct sn sub ab col dd k0 k1 k2 k3 k5 newId)) (he:s.heap.get? e=some (exObj C t0)) (hrest:rest.length≤sizeLine)
  (h:Q .none { s with heap:=(s.heap.push (exTup rest)).update e (Obj.mapFields (·.setIfInBounds 0 (.ref s.heap.objs.size))) }) :
  wpAny (model prog w) A (call (.builtin initId) (.ref e::rest)) Q E s:=by
 obtain ⟨hh,g,d,t,os⟩:_:=s
 refine wpAny_call (codeAny_call_builtin F.init.plain F.initEntry (wpAny_check_init_sub F hC he rfl ?_))
 unfold Builtin.«BaseException.__init__»
 dsimp only
 rw [if_neg (by simp)]
 unfold newTuple Builtin.BaseException.bexcPut
 obtain he₁:=Heap.get?_push_of_some (h:=hh) (exTup rest) he
 refine wpAny_bind (wpAny_newObj_type (wpAny_bind (wpAny_bind (wpAny_field he₁ rfl (by rfl:(#[Value.ref t0,.none,.none,.none,.bool false,.none]:Array Value)[0]?=some (.ref t0)) (wpAny_bind (wpAny_setField he₁ rfl (by simp) ?_))))) (by show rest.toArray.size≤sizeLine;rw [List.size_toArray];exact hrest))
 exact wpAny_letGo (wpAny_pure h)
set_option maxHeartbeats 4000000 in
theorem ade_init {x:Str} {tk:Tok} {od:Option Addr} {sl:Array (Option Value)} {qual:Str} {kV doc pm cdv ct v0:Value} {an:Option Addr} {n:Nat} {oT:Obj} {mg mb:MG} {Q:Value→Shared→Prop}
  (hroom:A.depth<recursionLimit) (hfI:s.heap.get? fI=some ⟨.type "function",od,.func (fnOf (Str.ofString "__init__") qual (clArgs 2) (clBody 2) (clScope 2) (.ref dT) kV doc pm an cdv ct),sl⟩)
  (hcd:s.heap.CodeRec cdv qual) (hlim:s.heap.NoLimit) (hT:s.heap.get? dT=some oT) (hTd:oT.data = .seq #[v0] n)
  (hg:s.heap.Ns mainGlobals mg) (hb:s.heap.Ns builtinsNs mb) (hg0:mg (Str.ofString "Exception")=none) (hb0:mb (Str.ofString "Exception")=some (.type "Exception"))
  (hC:s.heap.get? C=some (excClassObj nm q C N bs [.type "Exception",.type "BaseException",.type "object"] hdct sn sub ab col dd k0 k1 k2 k3 k5 "Exception.__new__")) (he:s.heap.get? e=some (exObj C t0))
  (h:∀ h' tk',(∀ b o,b≠e→s.heap.get? b=some o→h'.get? b=some o)→(∃ t1,h'.get? e=some (exObj C t1))→Q .none { s with heap:=h',toks:=tk' }) :
  wpAny (model prog w) A (call (.ref fI) [.ref e,.str x tk]) Q E s:=by
 revert hroom hfI hcd hlim hT hTd hg hb hg0 hb0 hC he h
 k_call_by "e" [prog,w,A,E,s,nm,q,C,N,fI,e,t0,dT,bs,hdct,sn,sub,ab,col,dd,k0,k1,k2,k3,k5,x,tk,od,sl,qual,kV,doc,pm,cdv,ct,v0,an,n,oT,mg,mb,Q]
 refine wpAny_call (codeAny_call_def (fd:=fnOf (Str.ofString "__init__") qual (clArgs 2) (clBody 2) (clScope 2) (.ref dT) kV doc pm an cdv ct) (body:=clBody 2) (binds:=[(Str.ofString "self",.ref e),(Str.ofString "message",.str x tk)])
  hroom hfI rfl hlim hcd rfl (BindsTo.of_defaults rfl hT hTd rfl (by kernel_rfl)) (by show ∀ x∈(clScope 2).names,x.2≠.cell;rw [ade_scope];decide) (by intro x hx;show (clScope 2).names.lookup x.1=_;rw [ade_scope];simp only [List.mem_cons,List.not_mem_nil,or_false] at hx;rcases hx with rfl | rfl<;>kernel_rfl) (fun h₀ hns hk=>?_) (by kernel_rfl) (by kernel_rfl) (by kernel_rfl))
 have hek:(callEnv (fnOf (Str.ofString "__init__") qual (clArgs 2) (clBody 2) (clScope 2) (.ref dT) kV doc pm an cdv ct) s.heap.objs.size fI)=envOf qual adeScope s.heap.objs.size fI cdv:=by
  rw [ade_scope];rfl
 rw [hek,ade_body]
 obtain ⟨hh,gg,dd',tt,os⟩:_:=s
 dsimp only at hns hk ⊢
 have FR:Fr {} hh.objs.size h₀ (fun x_1=>List.lookup x_1 [(Str.ofString "self",Value.ref e),(Str.ofString "message",.str x tk)].reverse):=⟨hns,fun b o e=>(by cases e),Nat.zero_le _⟩
 have hg':=hg.keeps hk
 have hb':=hb.keeps hk
 refine wpAny_execs_cons (wpAny_Expr_any ?_ (by rfl) (by rfl))
 refine methodCall_KW (pl:=?pl) ?h ?he
 case he=>exact rfl
 refine Calls.Name_function_global (by rfl) (by rfl) ?_ (by decide)
 refine Calls.loadGlobal_builtin (by exact hg') hg0 (by exact hb') hb0 ?_
 refine method_type (K:=[]) (v:=.builtin "Exception.__init__") FR (fun _ _ e=>by cases e) (by first | rfl | kernel_rfl) (by decide +kernel) (by kernel_rfl) (by rfl) ?_
 refine callWith_of (P:=fun _=>True) (by rfl) (fun _ _=>⟨.machine,.inr (.inl rfl),Looks.of_pure (by rfl)⟩) ?_
 refine Calls.evalArgs_plain (x:=eval (.Name (Str.ofString "self") ⟨8,27,8,31⟩) (envOf qual adeScope hh.objs.size fI cdv)) (rest:=[(false,eval (.Name (Str.ofString "message") ⟨8,33,8,40⟩) (envOf qual adeScope hh.objs.size fI cdv))]) ?_
 refine Calls.spliced_cons (wpAny_Name (wpAny_loadName_local (by rfl) (by rfl) hns (v:=.ref e) (by kernel_rfl) ?_) (by decide))
 refine Calls.spliced_cons (wpAny_Name (wpAny_loadName_local (by rfl) (by rfl) hns (v:=.str x tk) (by kernel_rfl) ?_) (by decide))
 refine Calls.spliced_nil ⟨trivial,?_⟩
 refine exc_init_own F.excBase_Exception (hk _ _ hC) (hk _ _ he) (by unfold sizeLine;simp) ?_
 refine wpAny_execs_nil ?_
 refine h _ _ (fun b o hb ho=>?_) ⟨h₀.objs.size,?_⟩
 ·exact (Heap.get?_update_other _ _ (Ne.symm hb)).trans (Heap.get?_push_of_some _ (hk _ _ ho))
 ·rw [Heap.get?_update_self _ (Heap.get?_push_of_some _ (hk _ _ he)) rfl]
  rfl
end
end DL
end
section
namespace DL
theorem fn_ok2 {i:Nat} {C:Cx} {sha:Addr} {fm:Addr→Option Int} (W:Wd C sha fm) (F:Fk C) (hl:0<C.lv) (hi:i∈idxs)
  {ps:List Str} {ks:List Nat} (hsc:scOk (fdScope i)=true) (Pl:Plain (fdArgs i) (fdScope i) ps ks) {sp:Spec} (gam:List (Nat×Spec))
  (hgam:∀ C',(C'.w=C.w∧C'.prog=C.prog∧C'.mg=C.mg∧C'.base=C.base)→Wd C' sha fm→Fk C'→C'.lv=C.lv-1→∀ e∈gam,∀ x,nmc x=some e.1→∀ u,C'.mg x=some u→FnN C' u e.2)
  (hb:∀ xs H Q X,sp xs H Q X→xs.length=ks.length∧∀ C0 mc L a cd P,Like C C0→(∃ o pm doc,C.mg (fdName i)=some (.ref a)∧C.base a=some o∧o.data = .func (Calls.docDef (fdName i) (fdArgs i) (fdBody i) (fdScope i) pm cd doc)) →
   CkN (ctx i C0 mc L a cd) (gOf i sha fm gam)→Fk1 (ctx i C0 mc L a cd)→Cl1 (ctx i C0 mc L a cd)→WSN (ctx i C0 mc L a cd) P (ks.zip xs) H (fdBody i) (retQ Q) (retX X)) :
  ∀ x,x=fdName i→∀ u,C.mg x=some u→FnN C u sp:=fun x hx u hu=>by
 subst hx
 obtain ⟨a,o,pm,doc,cd,h1,h2,h3,h4⟩:=W.fn i hi
 revert W F hl hi hsc Pl hgam hb hu h1 h2 h3 h4
 k_call_by "e" [i,C,sha,fm,ps,ks,sp,gam,u,a,o,pm,doc,cd]
 rw [hu] at h1;cases h1
 refine call_okN F hl (name:=fdName i) (params:=fdArgs i) (body:=fdBody i) (scope:=fdScope i) (cd:=cd) ⟨⟨o,pm,doc,h2,h3⟩,h4,W.nolimit⟩ Pl fun C0 hC0 xs H Q X hs=>?_
 obtain ⟨e1,e2⟩:=hb xs H Q X hs
 refine ⟨e1,fun L mc P' F' L'=>?_⟩
 have W0:Wd C0 sha fm:=by obtain ⟨⟨e,f,w,rfl⟩,_⟩:=hC0;exact W
 have hlv:C0.lv=C.lv:=by obtain ⟨⟨e,f,w,rfl⟩,_⟩:=hC0;rfl
 have Kc:CkN (ctx i C0 mc L a cd) (gOf i sha fm gam):=mkCk W0 (F.like hC0).handled (Nat.lt_of_le_of_lt (Nat.add_le_add_right (Nat.le_add_right _ _) 16) F'.units) hsc fun y k sp v hy hk hv=>by
  have W1:Wd (ctx i C0 mc L a cd) sha fm:=W0
  have:∀ {l:List (Nat×Spec)},l.lookup k=some sp→(k,sp)∈l:=fun {l} h=>by
   induction l with
   | nil=>simp at h
   | cons p r ih =>
    obtain ⟨j,s⟩:=p
    rw [List.lookup_cons] at h
    cases z:(k == j) with
    | true=>rw [z] at h;have:=eq_of_beq z;subst this;cases h;exact .head _
    | false=>rw [z] at h;exact .tail _ (ih h)
  exact hgam _ (by obtain ⟨⟨e,f,w,rfl⟩,_⟩:=hC0;exact ⟨rfl,rfl,rfl,rfl⟩) W1 F' (by show C0.lv-1=_;rw [hlv]) _ (this hk) y hy v hv
 exact e2 C0 mc L a cd P' hC0 ⟨o,pm,doc,hu,h2,h3⟩ Kc ⟨F',⟨C0.stk,rfl⟩,rfl⟩ L'
structure AdeF (w:PySem.World) (prog:Program) (mg:MG) (base:Kp):Prop where
 at_:∃ (C N fI dT:Addr) (nm q qual:Str) (bs sub:List Value) (hdct ab:Bool) (sn:List Str) (col:Option Bool) (dd od an:Option Addr) (k0 k1 k2 k3 k5:Option Value) (sl:Array (Option Value)) (kV doc pm cdv ct v0:Value) (n:Nat) (oT:Obj) (mN:MG),
  mg (Str.ofString "ApplyDeltaError")=some (.ref C)∧mN (Str.ofString "__init__")=some (.ref fI)∧oT.data = .seq #[v0] n∧∀ h:Heap,(∀ b o,base b=some o→h.get? b=some o) →
   h.get? C=some (excClassObj nm q C N bs [.type "Exception",.type "BaseException",.type "object"] hdct sn sub ab col dd k0 k1 k2 k3 k5 "Exception.__new__") ∧
   h.get? fI=some ⟨.type "function",od,.func (fnOf (Str.ofString "__init__") qual (clArgs 2) (clBody 2) (clScope 2) (.ref dT) kV doc pm an cdv ct),sl⟩∧h.get? dT=some oT∧h.Ns N mN∧h.CodeRec cdv qual
 exc:mg (Str.ofString "Exception")=none
 ns:∀ h:Heap,(∀ b o,base b=some o→h.get? b=some o)→h.Ns mainGlobals mg∧h.NoLimit∧∃ mb,h.Ns builtinsNs mb∧mb (Str.ofString "Exception")=some (.type "Exception")
noncomputable abbrev Ad (C:Cx):Prop:=AdeF C.w C.prog C.mg C.base
theorem Wd.ctx {C C0:Cx} {sha:Addr} {fm:Addr→Option Int} (W:Wd C sha fm) (h:Like C C0) {i:Nat} {mc:Str→Option Value} {L a:Addr} {cd:Value}:Wd (ctx i C0 mc L a cd) sha fm:=by
 obtain ⟨⟨e,f,w,rfl⟩,_⟩:=h;exact W
theorem Ad.ctx {C C0:Cx} (W:Ad C) (h:Like C C0) {i:Nat} {mc:Str→Option Value} {L a:Addr} {cd:Value}:Ad (ctx i C0 mc L a cd):=by
 obtain ⟨⟨e,f,w,rfl⟩,_⟩:=h;exact W
theorem Ad.same {C C':Cx} (W:Ad C) (h:C'.w=C.w∧C'.prog=C.prog∧C'.mg=C.mg∧C'.base=C.base):Ad C':=by
 obtain ⟨h1,h2,h3,h4⟩:=h
 unfold Ad;rw [h1,h2,h3,h4];exact W
theorem lv_ctx {C C0:Cx} (h:Like C C0) {i:Nat} {mc:Str→Option Value} {L a:Addr} {cd:Value}:(DL.ctx i C0 mc L a cd).lv=C.lv-1:=by
 obtain ⟨⟨e,f,w,rfl⟩,_⟩:=h;rfl
variable {C:Cx} {g:Ge} {P:Kp} {m:Loc} {H:Hp}
theorem t_raise_ade (D:Ad C) (F:Fk1 C) (K:CkN C g) (hl:0<C.lv) (hg:g.hd=true) {x txt:Str} {n0:Nat} {np cpos pos kp:Pos} {Q:QS} {X:XSt}
  (hk:x=Str.ofString "ApplyDeltaError") (hx:C.env.kindOf x=some .globalImplicit) (ht:txt.length≤100)
  (h:X .applyDelta m H):W1N C P m H (.Raise (some (.Call (.Name x np) [.Constant (.str txt) n0 kp] [] cpos)) none pos) Q X:=fun s S=>by
 subst hk
 refine nOf ?_
 obtain ⟨Cl,N,fI,dT,nm,q,qual,bs,sub,hdct,ab,sn,col,dd,od,an,k0,k1,k2,k3,k5,sl,kV,doc,pm,cdv,ct,v0,n,oT,mN,e1,e2,e3,e4⟩:=D.at_
 obtain ⟨h1,h2,h3,h4,h5⟩:=e4 s.heap S.base
 obtain ⟨hns,hlim,mb,hb,hb0⟩:=D.ns s.heap S.base
 rw [arm_exec_Raise]
 refine wpAny_bind (wpAny_standAt (wpAny_raiseStmt_made_sub (C:=Cl) (nm:=nm) (q:=q) (N:=N) (bs:=bs) (bm:=[.type "Exception",.type "BaseException",.type "object"]) (hdct:=hdct) (sn:=sn) (sub:=sub) (ab:=ab) (col:=col) (dd:=dd) (k0:=k0) (k1:=k1) (k2:=k2) (k3:=k3) (k5:=k5) (newId:="Exception.__new__") (by decide) (K.base.handled hg) ?_))
 refine wpAny_bind (wpAny_mono (Q:=fun v s3=>∃ e t,v = .ref e∧s3.heap.get? Cl=some (excClassObj nm q Cl N bs [.type "Exception",.type "BaseException",.type "object"] hdct sn sub ab col dd k0 k1 k2 k3 k5 "Exception.__new__") ∧
   s3.heap.get? e=some (exObj Cl t)∧XS C P X (.ref e) s3) (wpAny_Call_ofName (Calls.Name_function_global K.base.kind hx (Calls.loadGlobal_global (by rw [K.base.globals];exact hns) e1 ?_) (by decide))) (fun v s₃ h₃=>wpAny_bind (wpAny_standAt (wpAny_pure h₃))) fun _ _ x=>x)
 unfold callWith
 refine wpAny_bind (wpAny_holding (wpAny_mono (Q:=fun a s2=>a=⟨[.str txt s.toks],[]⟩∧s2={ s with toks:=s.toks+1 }) (Calls.evalArgs_plain (Calls.spliced_cons (wpAny_Constant_str (k:=n0) (pos:=kp) (Calls.spliced_nil ⟨rfl,rfl⟩)))) (fun a s₂ h₂=>wpAny_bind (wpAny_standAt ?_)) fun _ _ x=>x))
 obtain ⟨rfl,rfl⟩:=h₂
 obtain ⟨hh,gg,d0,tt,os⟩:=s
 dsimp only at h1 h2 h3 h4 h5 hns hlim hb ⊢
 refine wpAny_bind (wpAny_keeperOf_exc h1 ?_)
 have hne:∀ b o,hh.get? b=some o→b≠hh.objs.size+1:=fun b o e=>Nat.ne_of_lt (Nat.lt_succ_of_lt (Heap.lt_size e))
 have hk2:∀ b o,hh.get? b=some o→((hh.push (exTup [.str txt tt])).push (exObj Cl hh.objs.size)).get? b=some o:=fun b o e=>Heap.get?_push_of_some _ (Heap.get?_push_of_some _ e)
 refine wpAny_bind (call_exc_own PySem.F.excBase_Exception h1 h4 e2 h2 rfl (by unfold sizeLine;simp) (ade_init (s:=⟨(hh.push (exTup [.str txt tt])).push (exObj Cl hh.objs.size),gg,d0,tt+1,os⟩) ?_ (hk2 _ _ h2) (h5.keeps hk2) (hlim.keeps hk2) (hk2 _ _ h3) e3 (hns.keeps hk2) (hb.keeps hk2) D.exc hb0 (hk2 _ _ h1) (by heap_get) fun h' tk' hK ⟨t1,he⟩=>⟨rfl,wpAny_bind (wpAny_holding (wpAny_point (wpAny_pure ?_)))⟩))
 ·have hw:(Code.builtin "type.__call__" { pos:=Value.ref Cl::([]++[Value.str txt tt]) }).weight=1:=by kernel_rfl
  show C.A.depth+(Code.builtin "type.__call__" { pos:=Value.ref Cl::([]++[Value.str txt tt]) }).weight<recursionLimit
  rw [hw]
  have:=F.fk.depth
  lia
 ·have hK2:∀ b o,hh.get? b=some o→h'.get? b=some o:=fun b o e=>hK b o (hne b o e) (hk2 b o e)
  refine ⟨_,t1,rfl,hK2 _ _ h1,he,m,_,_,.applyDelta,H,rfl,⟨_,rfl,e1⟩,.fresh (hideAll h' [hh.objs.size+1]) _ (.ref t1) (S.grow (h':=hideAll h' [hh.objs.size+1]) (t:=tk') fun b o e=>hideAll_get _ (hK2 b o e) (by simpa using hne b o e)) (fun b o e=>of_hideAll _ e) (hideAll_none _ (.head _)) he rfl rfl,h⟩
theorem t_try_ade (D:Ad C) (K:CkN C g) (F:Fk1 C) {body:List Stmt} {x:Str} {np hpos pos:Pos} {b₀:Stmt} {suite:List Stmt} {Q:QS} {X:XSt}
  (hk:x=Str.ofString "ApplyDeltaError") (hx:C.env.kindOf x=some .globalImplicit)
  (h:WSN C P m H body Q (tryX C P (b₀::suite) Q .applyDelta)) :
  W1N C P m H (.Try body [.ExceptHandler (some (.Name x np)) none (b₀::suite) hpos] [] [] pos) Q X:=fun s S=>by
 subst hk
 refine nTry (nMono (h s S) (fun f s1 h1=>?_) fun v s1 h1=>?_)
 ·obtain ⟨fl,m1,H1,hfr,S1,h1⟩:=h1
  cases f<;>cases fl<;>first | exact hfr.elim | skip
  ·exact ⟨.next,m1,H1,trivial,S1,h1⟩
  ·exact ⟨.brk,m1,H1,trivial,S1,h1⟩
  ·exact ⟨.cont,m1,H1,trivial,S1,h1⟩
  ·exact ⟨.ret _,m1,H1,hfr,S1,h1⟩
 ·obtain ⟨m1,e,cls,xn,H1,rfl,hxn,hx',rfl,hw⟩:=h1
  obtain u90:=()
  revert D K F h S hx hx' hw hxn
  k_call_by "e" [C,g,P,m,H,body,np,hpos,pos,b₀,suite,Q,X,s,s1,m1,e,cls,H1,u90]
  obtain ⟨Cl',rfl,hcl⟩:=hxn
  refine hx'.caught F fun s B a0 c hf S=>?_
  obtain ⟨Cl,N,fI,dT,nm,q,qual,bs,sub,hdct,ab,sn,col,dd,od,an,k0,k1,k2,k3,k5,sl,kV,doc,pm,cdv,ct,v0,n,oT,mN,e1,e2,e3,e4⟩:=D.at_
  rw [e1] at hcl;cases hcl
  obtain ⟨h1,h2,h3,h4,h5⟩:=e4 s.heap S.base
  obtain ⟨hns,hlim,mb,hb,hb0⟩:=D.ns s.heap S.base
  obtain ⟨ob,ho,hc⟩:=hf.there
  have fin:=suite_ok c hf S hw
  refine nHandle (by intro q;cases q) (Calls.Name_function_global K.base.kind hx (Calls.loadGlobal_global (by rw [K.base.globals];exact hns) e1 ?_) (by decide))
  obtain ⟨hh,gg,d0,tk,os⟩:=s
  exact wpAny_excMatches_sub_self h1 ho hc (by decide) ⟨rfl,fin⟩
end DL
end
section
namespace DL
variable {C:Cx} {sha:Addr} {fm:Addr→Option Int}
noncomputable def ofsFrom:Int→List Int→Int
 | v,[]=>v
 | v,b::r=>ofsFrom ((v+1)*128+b%128) r
noncomputable def decOfs:List Int→Int
 | []=>0
 | x::r=>ofsFrom (x%128) r
noncomputable def spDecO:Spec:=fun xs H Q X=>∃ (a:Addr) (ns:List Int) (z:Int),xs=[.ref a]∧H a=some (.list (vInts ns))∧ns.getLast?=some z∧ns.length≤400∧(∀ i∈ns,isOctet i) ∧
 (128≤z→∀ H',Ext H H'→X .assertion H') ∧
 (z<128→decOfs ns=0→∀ H',Ext H H'→X .applyDelta H') ∧
 (z<128→decOfs ns≠0→∀ H',Ext H H'→Q (.int (decOfs ns)) H')
theorem ofsFrom_snoc:∀ (l:List Int) (v b:Int),ofsFrom v (l++[b])=(ofsFrom v l+1)*128+b%128
 | [],v,b=>rfl
 | x::r,v,b=>by
  show ofsFrom ((v+1)*128+x%128) (r++[b])=_
  rw [ofsFrom_snoc r];rfl
theorem ofsFrom_bound:∀ (l:List Int) (v:Int) (k:Nat),0≤v→v<256^(k+1)→0≤ofsFrom v l∧ofsFrom v l<256^(k+1+l.length)
 | [],v,k,h0,h1=>⟨h0,h1⟩
 | x::r,v,k,h0,h1=>by
  have hx:0≤x%128∧x%128<128:=by exact ⟨Int.emod_nonneg _ (by decide),Int.emod_lt_of_pos _ (by decide)⟩
  have hp:(256:Int)^(k+1+1)=256^(k+1)*256:=by rw [Int.pow_succ]
  have hone:(1:Int)≤256^(k+1):=by
   have:=Nat.one_le_two_pow (n:=8*(k+1))
   rw [Nat.pow_mul] at this
   exact_mod_cast this
  obtain ih:=ofsFrom_bound r ((v+1)*128+x%128) (k+1) (Int.add_nonneg (Int.mul_nonneg (Int.le_of_lt (Int.lt_add_one_of_le h0)) (by decide)) hx.1) (by rw [hp];exact Int.lt_of_lt_of_le (Int.add_lt_add_of_le_of_lt (Int.mul_le_mul_of_nonneg_right (Int.add_one_le_of_lt h1) (by decide)) (Int.lt_of_lt_of_le hx.2 (Int.mul_le_mul_of_nonneg_right hone (by decide:(0:Int)≤128)))) (Int.le_of_eq (Int.mul_add _ 128 128).symm))
  rw [List.length_cons,Nat.add_comm r.length,← Nat.add_assoc (k+1)]
  exact ih
theorem lt_BIG3 {v:Int} {k:Nat} (h:v<256^k) (hk:k≤1000):v<BIG:=by
 unfold BIG
 have h1:(256:Nat)^k≤256^1000:=Nat.pow_le_pow_right (by decide) hk
 have h2:(256:Nat)^1000=2^8000:=by rw [show (256:Nat)=2^8 by rfl,← Nat.pow_mul]
 have h3:(2:Nat)^8000≤2^1000000:=Nat.pow_le_pow_right (by decide) (by decide)
 have h4:(256:Nat)^k≤2^1000000:=by rw [h2] at h1;exact Nat.le_trans h1 h3
 have h5:((256:Int)^k)≤2^1000000:=by exact_mod_cast h4
 exact Int.lt_of_lt_of_le h h5
noncomputable def invDecO (H:Hp) (a c:Addr) (x0:Int) (r0:List Int) (k:Nat) (m:Loc) (H1:Hp):Prop :=
 m=[(41,.int (ofsFrom (x0%128) (r0.take k))),(87,.ref a)]∧Ext H H1∧H1 c=some (.list (vInts r0))
theorem F_decO (W:Wd C sha fm) (D:Ad C) (F:Fk C) (hl:1<C.lv):∀ x,x=fdName 9→∀ u,C.mg x=some u→FnN C u spDecO :=
 fn_ok2 W F (by exact Nat.le_of_lt ‹_›) (by decide) sc_9 pl_9 [] (by simp) (fun xs H Q X h=>by
  obtain ⟨a,ns,z,rfl,ha,hz,hlen,hoc,hX1,hX2,hQ⟩:=h
  revert W D F hl ha hz hlen hoc hX1 hX2 hQ
  k_call_by "e" [C,sha,fm,H,Q,X,a,ns,z]
  refine ⟨rfl,fun C0 mc L a0 cd P hC0 hcd K F1 L1=>?_⟩
  obtain u0:=()
  revert W D F hl ha hz hlen hoc hX1 hX2 hQ hC0 hcd K F1 L1
  k_call_by "e" [C,sha,fm,H,Q,X,a,ns,z,C0,mc,L,a0,cd,P,u0]
  have hzo:=hoc z (List.mem_of_getLast? hz)
  refine t_cons ?_
  refine t_if K ?_
  k_call_by "x" [ha,at_last hz]
  by_cases h128:128≤z
  ·rw [and128_hi h128 hzo.2]
   k_call_by "x" []
   refine t_cons ?_
   refine s_raise_assert K.base rfl nm_AssertionError (by show List.lookup _ (gOf 9 sha fm []).kinds=_;rw [g_kinds,kd_9];rfl) rfl ?_
   exact hX1 h128 H (Ext.refl H)
  ·rw [and128_lo hzo.1 (by exact Int.not_le.mp ‹_›)]
   k_call_by "x" []
   refine t_nil ?_
   cases ns with
   | nil=>cases hz
   | cons x0 r0 =>
   have h0:=hoc x0 (.head _)
   refine t_cons ?_
   refine t_assign K L1 ⟨nm_delta_base_offset,.inl (by rw [g_kinds,kd_9];rfl)⟩ ?_
   k_call_by "x" [ha,at_zero]
   refine t_cons ?_
   refine t_for K rfl ?_
   have hcut:cutOf (vInts (x0::r0)) (some 1) none=vInts r0:=by
    rw [show (1:Int)=((1:Nat):Int) by rfl,cut_from (by simp [vInts]),vInts_drop];rfl
   k_call_by "x" [ha,hcut]
   intro c hc
   revert ha hz hlen hoc hX2 hQ h0 hcut hc
   k_call_by "e" [x0,r0,c]
   refine ⟨invDecO H a c x0 r0,⟨[(41,.int (ofsFrom (x0%128) (r0.take 0))),(87,.ref a)],?_,rfl,(Ext.refl H).upd hc,upd_same⟩,?_,?_,?_⟩
   ·rw [and127]
    simp only [SubB,List.lookup_cons,Nat.reduceBEq,and_self,List.take_zero,ofsFrom]
   ·rintro k m1 H1 ⟨_,hE,hc1⟩ b o hb
    unfold only at hb
    split at hb
    ·rename_i e;rw [upd_same] at hb;cases hb;rw [e];exact hc1
    ·cases hb
   ·rintro k it m1 H1 hit ⟨rfl,hE,hc1⟩
    revert hit hE hc1
    k_call_by "e" [k,it,H1]
    rw [List.getElem?_map,vInts_get] at hit
    cases q:r0[k]? with
    | none=>rw [q] at hit;cases hit
    | some x =>
     rw [q] at hit
     simp only [Option.map_some,Option.some.injEq] at hit
     subst hit
     have hx:=hoc x (.tail _ (List.mem_of_getElem? q))
     have hk:k<r0.length:=(List.getElem?_eq_some_iff.mp q).1
     have hl2:r0.length<400:=by simp only [List.length_cons] at hlen;assumption
     have hb:=ofsFrom_bound (r0.take k) (x0%128) 0 (by exact Int.emod_nonneg _ (by decide)) (by exact Int.lt_trans (Int.emod_lt_of_pos _ (by decide)) (by decide))
     have hb2:ofsFrom (x0%128) (r0.take k)+1<BIG:=by
      refine lt_BIG3 (k:=0+1+(r0.take k).length+1) ?_ (by rw [List.length_take];grind)
      have:=hb.2
      rw [Int.pow_succ]
      omega
     k_call_by "x" []
     intro P'
     refine t_cons ?_
     refine t_aug K rfl nm_delta_base_offset (by rw [g_kinds,kd_9];rfl) ?_
     k_call_by "x" []
     refine t_cons ?_
     refine t_aug K rfl nm_delta_base_offset (by rw [g_kinds,kd_9];rfl) ?_
     k_call_by "x" []
     refine ⟨⟨gt_BIG (by omega),hb2⟩,?_⟩
     refine t_cons ?_
     refine t_aug K rfl nm_delta_base_offset (by rw [g_kinds,kd_9];rfl) ?_
     k_call_by "x" []
     refine t_nil ?_
     k_call_by "x" []
     refine ⟨_,?_,rfl,hE,hc1⟩
     have e1:(ofsFrom (x0%128) (r0.take k)+1)*2^7+Builtin.bitAnd x 127=ofsFrom (x0%128) (r0.take (k+1)):=by
      rw [List.take_add_one,q]
      simp only [Option.toList_some]
      rw [ofsFrom_snoc,and127];rfl
     rw [e1]
     k_call_by "s" []
   ·rintro m1 H1 ⟨rfl,hE,hc1⟩
    rw [List.length_map,vInts_len,List.take_length]
    have e2:decOfs (x0::r0)=ofsFrom (x0%128) r0:=rfl
    refine t_cons ?_
    refine t_if K ?_
    k_call_by "x" []
    by_cases hz0:ofsFrom (x0%128) r0=0
    ·rw [if_pos hz0]
     refine t_cons ?_
     refine t_raise_ade (D.ctx hC0) F1 K (by rw [lv_ctx hC0];exact Nat.sub_pos_of_lt ‹_›) rfl rfl (by kernel_rfl) (by decide) ?_
     exact hX2 (by exact Int.not_le.mp ‹_›) (by rw [e2];exact hz0) _ hE
    ·rw [if_neg hz0]
     refine t_nil ?_
     refine t_cons ?_
     refine t_return K ?_
     k_call_by "x" []
     rw [← e2]
     exact hQ (by exact Int.not_le.mp ‹_›) (by rw [e2];exact hz0) _ hE)
end DL
end
section
namespace DL
variable {C:Cx} {sha:Addr} {fm:Addr→Option Int}
theorem toOcts_of:∀ {ns:List Int},(∀ i∈ns,isOctet i)→toOcts (ofOcts ns)=ns
 | [],_=>rfl
 | x::r,h=>by
  obtain hx:=h x (.head _)
  show (((UInt8.ofNat x.toNat).toNat:Nat):Int)::toOcts (ofOcts r)=_
  rw [toOcts_of fun i hi=>h i (.tail _ hi)]
  unfold isOctet at hx
  rw [UInt8.toNat_ofNat']
  congr 1
  rw [Nat.mod_eq_of_lt ((Int.toNat_lt hx.1).mpr hx.2)];exact Int.toNat_of_nonneg hx.1
noncomputable def spLawOpen:Spec:=fun xs H Q _=>∃ (a:Addr) (ns:List Int) (z:Int),xs=[.ref a]∧H a=some (.list (vInts ns))∧ns.getLast?=some z∧ns.length≤400∧(∀ i∈ns,isOctet i)∧128≤z ∧
 ∀ H',Ext H H'→Q (.bool true) H'
theorem F_law_open (W:Wd C sha fm) (D:Ad C) (F:Fk C) (hl:2<C.lv):∀ x,x=fdName 30→∀ u,C.mg x=some u→FnN C u spLawOpen :=
 fn_ok2 W F (by exact Nat.lt_of_le_of_lt (Nat.zero_le _) ‹_›) (by decide) sc_30 pl_30 [(6,spDecO)] (fun C' hS W' F' hlv e he=>by
  rw [List.mem_singleton] at he;subst he
  exact fun x hx=>F_decO W' (D.same hS) F' (lvq hl hlv (by decide)) x (nmc_inj hx nm_decode_delta_base_offset)) (fun xs H Q X h=>by
  obtain ⟨a,ns,z,rfl,ha,hz,hlen,hoc,h128,hQ⟩:=h
  refine ⟨rfl,fun C0 mc L a0 cd P hC0 hcd K F1 L1=>?_⟩
  refine t_cons ?_
  refine t_try_assert K F1 nm_AssertionError (by rw [g_kinds,kd_30];rfl) gl_1 ?_
  refine t_cons ?_
  refine t_expr K ?_
  k_call_by "x" []
  refine ⟨a,ns,z,rfl,ha,hz,hlen,hoc,fun _ H' hE=>?_,fun h=>absurd h (Int.not_lt.mpr h128),fun h=>absurd h (Int.not_lt.mpr h128)⟩
  refine ⟨rfl,fun e=>?_⟩
  refine t_cons ?_
  refine t_return K.inH ?_
  k_call_by "x" []
  exact hQ H' hE)
noncomputable def spLawBarred (fm:Addr→Option Int):Spec:=fun xs H Q _=>∃ (t n:Nat) (base:V) (f:Addr) (k:Int),xs=[.int t,base,.int n,.ref f]∧(1≤t∧t<8)∧fm f=some k∧(encHead t n).length≤400∧baseOk base ∧
 headOut t n base k=none∧∀ H',Ext H H'→Q (.bool true) H'
theorem F_law_barred (W:Wd C sha fm) (F:Fk C) (hl:1<C.lv):∀ x,x=fdName 32→∀ u,C.mg x=some u→FnN C u (spLawBarred fm) :=
 fn_ok W F (by exact Nat.le_of_lt ‹_›) (by decide) sc_32 pl_32 [(80,spPack fm)] (fun C' W' F' hlv e he=>by
  rw [List.mem_singleton] at he;subst he
  exact fun x hx=>F_pack W' F' (lvq hl hlv (by decide)) x (nmc_inj hx nm_pack_object_header)) (fun xs H Q X h=>by
  revert W F hl h
  k_call_by "e" [C,sha,fm,xs,H,Q,X]
  obtain ⟨t,n,base,f,k,rfl,ht,hf,hlen,hb,hN,hQ⟩:=h
  refine ⟨rfl,fun C0 mc L a0 cd P K F1 L1=>?_⟩
  obtain u0:=()
  revert W F hl ht hf hlen hb hN hQ K F1 L1
  k_call_by "e" [C,sha,fm,H,Q,X,t,n,base,f,k,C0,mc,L,a0,cd,P,u0]
  refine t_cons ?_
  refine t_try_assert K F1 nm_AssertionError (by rw [g_kinds,kd_32];rfl) gl_1 ?_
  refine t_cons ?_
  refine t_expr K ?_
  k_call_by "x" []
  refine ⟨t,n,base,f,k,rfl,ht,hf,hlen,hb,fun l hl=>(by rw [hN] at hl;cases hl),fun _ H' hE=>?_⟩
  refine ⟨rfl,fun e=>?_⟩
  refine t_cons ?_
  refine t_return K.inH ?_
  k_call_by "x" []
  exact hQ H' hE)
noncomputable def spLawWritten (fm:Addr→Option Int):Spec:=fun xs H Q _=>∃ (c k:Int) (n:Nat),xs=[.int c,.int k,.int n]∧(c=0∧1≤k∧k<5∨(c=1∨c=2)∧k=0)∧(encHead k.toNat n).length≤400∧(rowOf c k n).length≤400∧(∀ i∈rowOf c k n,isOctet i)∧n<2^3000 ∧
 ∀ H' r,Ext H H'→H r=none→H' r=some (.list (vInts (rowOf c k n)))→Q (.ref r) H'
theorem F_law_written (W:Wd C sha fm) (hsha:∃ k,fm sha=some k) (F:Fk C) (hl:1<C.lv):∀ x,x=fdName 22→∀ u,C.mg x=some u→FnN C u (spLawWritten fm) :=
 fn_ok W F (by exact Nat.le_of_lt ‹_›) (by decide) sc_22 pl_22 [(80,spPack fm),(8,spDeltaSize)] (fun C' W' F' hlv e he=>by
  simp only [List.mem_cons,List.not_mem_nil,or_false] at he
  rcases he with rfl | rfl
  ·exact fun x hx=>F_pack W' F' (lvq hl hlv (by decide)) x (nmc_inj hx nm_pack_object_header)
  ·exact fun x hx=>F_delta_size W' F' (lvq hl hlv (by decide)) x (nmc_inj hx nm_delta_encode_size)) (fun xs H Q X h=>by
  obtain ⟨c,k,n,rfl,hc,hlen1,hlen2,hoc,hn,hQ⟩:=h
  obtain ⟨ks,hks⟩:=hsha
  refine ⟨rfl,fun C0 mc L a0 cd P K F1 L1=>?_⟩
  revert W F hl hc hlen1 hlen2 hoc hn hQ hks K F1 L1
  k_call_by "e" [C,sha,fm,H,Q,X,c,k,n,ks,C0,mc,L,a0,cd,P]
  refine t_cons ?_
  refine t_if K ?_
  k_call_by "x" []
  by_cases hc0:c=0
  ·subst hc0
   obtain ⟨hk1,hk2⟩:1≤k∧k<5:=by lia
   obtain ⟨kn,rfl⟩:∃ kn:Nat,k=kn:=⟨k.toNat,by grind⟩
   rw [if_pos rfl]
   refine t_cons ?_
   refine t_return K ?_
   k_call_by "x" []
   refine ⟨kn,n,.none,sha,ks,rfl,by omega,hks,by simpa using hlen1,trivial,fun l hl H' a hE ha ha'=>?_,fun hno=>?_⟩
   ·have e:l=rowOf 0 kn n:=by
     unfold headOut at hl
     rw [if_neg (by lia),if_neg (by lia)] at hl
     cases hl;rfl
    k_call_by "x" [ha']
    rw [toOcts_of (by rw [e];exact hoc),e]
    exact fun b hb=>hQ _ b (hE.upd hb) (hE.none hb) upd_same
   ·unfold headOut at hno
    rw [if_neg (by lia),if_neg (by lia)] at hno
    cases hno
  ·rw [if_neg hc0]
   refine t_nil ?_
   refine t_cons ?_
   refine t_if K ?_
   k_call_by "x" []
   by_cases hc1:c=1
   ·subst hc1
    rw [if_pos rfl]
    refine t_cons ?_
    refine t_return K ?_
    k_call_by "x" []
    refine ⟨n,rfl,hlen2,fun H' hE=>?_⟩
    k_call_by "x" []
    rw [show enc7 n=rowOf 1 k n from rfl,toOcts_of hoc]
    exact fun b hb=>hQ _ b (hE.upd hb) (hE.none hb) upd_same
   ·rw [if_neg hc1]
    refine t_nil ?_
    refine t_cons ?_
    refine t_return K ?_
    obtain rfl:c=2:=by lia
    k_call_by "x" []
    refine ⟨6,0,.int (n:Int),sha,ks,rfl,by decide,hks,by decide,⟨by exact Int.natCast_nonneg _,by rw [Int.toNat_natCast];exact hlen2⟩,fun l hl H' a hE ha ha'=>?_,fun hno=>?_⟩
    ·have e:l=96::rowOf 2 k n:=by
      unfold headOut at hl
      rw [if_pos rfl] at hl
      cases hl
      rw [Int.toNat_natCast];rfl
     k_call_by "x" [ha']
     rw [toOcts_of (by
      rw [e];intro i hi
      rcases List.mem_cons.mp hi with rfl | hi
      ·exact ⟨by decide,by decide⟩
      ·exact hoc i hi),e]
     intro b hb
     have hcut:cutOf (vInts (96::rowOf 2 k n)) (some 1) none=vInts (rowOf 2 k n):=by
      rw [show (1:Int)=((1:Nat):Int) by rfl,cut_from (by simp [vInts]),vInts_drop];rfl
     k_call_by "x" [hcut]
     intro d hd
     exact hQ _ d ((hE.upd hb).upd hd) (hE.none ((Ext.refl H').upd hb |>.none hd)) upd_same
    ·unfold headOut at hno
     rw [if_pos rfl] at hno
     cases hno)
end DL
end
section
namespace DL
variable {C:Cx} {sha:Addr} {fm:Addr→Option Int}
noncomputable def chainB (B:List UInt8):Nat→List (Addr×List Int)→Prop
 | _,[]=>True
 | off,p::r=>takeMsb (B.drop off)=some p.2∧chainB B (off+p.2.length) r
theorem chainB_get {B:List UInt8}:∀ {l:List (Addr×List Int)} {off k:Nat} {p:Addr×List Int},chainB B off l→l[k]?=some p→takeMsb (B.drop (off+((l.take k).map (·.2.length)).sum))=some p.2
 | [],_,_,_,_,h=>by simp at h
 | q::r,off,0,p,h,e=>by
  simp only [List.getElem?_cons_zero,Option.some.injEq] at e
  subst e
  simpa using h.1
 | q::r,off,k+1,p,h,e=>by
  rw [List.getElem?_cons_succ] at e
  have:=chainB_get h.2 e
  simpa [Nat.add_assoc] using this
theorem eqv_tup2 {a b c d:Int}:PyData.eqv (.tuple [.int a,.int b]) (.tuple [.int c,.int d])=(decide (a=c)&&decide (b=d)):=by
 have h:∀ x y:Int,(x == y)=decide (x=y):=fun x y=>rfl
 simp [PyData.eqv,PyData.eqvAll,h]
noncomputable def spLawBack:Spec:=fun xs H Q _=>∃ (B:List UInt8) (en:Addr) (off:Nat) (kind size far:Int) (rw tl ps:Addr) (R T:List Int) (Ps:List (Addr×List Int)),xs=[.bytes B,.ref en]∧B.length≤90000 ∧
 H en=some (.tuple [.int off,.int kind,.int size,.int far,.ref rw,.ref tl,.ref ps])∧H rw=some (.list (vInts R))∧H tl=some (.list (vInts T))∧H ps=some (.list (Ps.map fun p=>.ref p.1)) ∧
 (∀ p∈Ps,H p.1=some (.list (vInts p.2)))∧takeMsb (B.drop off)=some R∧(∀ i∈R,isOctet i)∧R.length≤400∧decKind R=kind∧decSize R=size ∧
 (kind=6→takeMsb (B.drop (off+R.length))=some T∧(∀ i∈T,isOctet i)∧T.length≤400∧decOfs T=far∧far≠0∧∃ z,T.getLast?=some z∧z<128) ∧
 chainB B (off+R.length+T.length) Ps∧off+R.length+T.length≤80000∧∀ H',Ext H H'→Q (.bool true) H'
noncomputable def invBack (H:Hp) (B:List UInt8) (en:Addr) (o0:Nat) (kind size far:Int) (rw tl ps:Addr) (Ps:List (Addr×List Int)) (k:Nat) (m:Loc) (H1:Hp):Prop :=
 m=[(27,.int ((o0+((Ps.take k).map (·.2.length)).sum:Nat):Int)),(100,.bytes B)]∧Ext H H1∧o0+((Ps.take k).map (·.2.length)).sum≤90000
theorem F_law_back (W:Wd C sha fm) (D:Ad C) (F:Fk C) (hl:3<C.lv):∀ x,x=fdName 29→∀ u,C.mg x=some u→FnN C u spLawBack :=
 fn_ok2 W F (by exact Nat.lt_of_le_of_lt (Nat.zero_le _) ‹_›) (by decide) sc_29 pl_29 [(17,spLawNext),(7,spDecH),(6,spDecO)] (fun C' hS W' F' hlv e he=>by
  simp only [List.mem_cons,List.not_mem_nil,or_false] at he
  rcases he with rfl | rfl | rfl
  ·exact fun x hx=>F_law_next W' F' (lvq hl hlv (by decide)) x (nmc_inj hx nm_law_next)
  ·exact fun x hx=>F_decH W' F' (lvq hl hlv (by decide)) x (nmc_inj hx nm_decode_object_header)
  ·exact fun x hx=>F_decO W' (D.same hS) F' (lvq hl hlv (by decide)) x (nmc_inj hx nm_decode_delta_base_offset)) (fun xs H Q X h=>by
  revert W D F hl h
  k_call_by "e" [C,sha,fm,xs,H,Q,X]
  obtain ⟨B,en,off,kind,size,far,rw0,tl,ps,R,T,Ps,rfl,hB,hen,hrw,htl,hps,hPs,hR,hRo,hRl,hk,hsz,h6,hch,hoff,hQ⟩:=h
  refine ⟨rfl,fun C0 mc L a0 cd P hC0 hcd K F1 L1=>?_⟩
  revert W D F hl hB hen hrw htl hps hPs hR hRo hRl hk hsz h6 hch hoff hQ hC0 hcd K F1 L1
  k_call_by "e" [C,sha,fm,H,Q,X,B,en,off,kind,size,far,rw0,tl,ps,R,T,Ps,C0,mc,L,a0,cd,P]
  obtain ⟨hRp,_,_⟩:=takeMsb_pos hR
  refine t_cons ?_
  refine t_tuple K rfl ?_
  k_call_by "x" [hen]
  k_call_by "a" []
  k_call_by "o" []
  refine t_cons ?_
  refine t_if K ?_
  k_call_by "x" []
  refine ⟨B,off,rw0,R,rfl,hB,by lia,hrw,hR,fun H1 hE1=>?_⟩
  k_call_by "x" []
  refine ⟨rw0,R,rfl,hE1 _ _ hrw,fun e=>by rw [e] at hRp;simp at hRp,hRl,hRo,fun H2 t hE2 ht ht'=>?_⟩
  k_call_by "x" []
  intro b hb
  k_call_by "x" [ht',upd_keep hb ht',hk,hsz,eqv_tup2]
  have hE3:Ext H (upd H2 b (.tuple [.int kind,.int size])):=(hE1.trans hE2).upd hb
  generalize upd H2 b (.tuple [.int kind,.int size])=H3 at hE3
  refine t_nil ?_
  refine t_cons ?_
  refine t_aug K rfl nm_at (by rw [g_kinds,kd_29];rfl) ?_
  k_call_by "x" [hE3.get hrw,vInts_len]
  have fin:∀ H4,Ext H H4→WSN (ctx 29 C0 mc L a0 cd) P [(27,.int ((off:Int)+(R.length:Int))),(82,.ref ps),(102,.ref tl),(100,.bytes B)] H4 ((fdBody 29).drop 4) (retQ Q) (retX X):=fun H4 hE4=>by
   refine t_cons ?_
   refine t_aug K rfl nm_at (by rw [g_kinds,kd_29];rfl) ?_
   k_call_by "x" [hE4.get htl,vInts_len]
   refine t_cons ?_
   refine t_for K rfl ?_
   k_call_by "x" [hE4.get hps]
   refine ⟨invBack H B en (off+R.length+T.length) kind size far rw0 tl ps Ps,⟨[(27,.int ((off+R.length+T.length+((Ps.take 0).map (·.2.length)).sum:Nat):Int)),(100,.bytes B)],?_,rfl,hE4,by simp;exact Nat.le_trans ‹_› (by decide)⟩,?_,?_,?_⟩
   ·have e0:((off+R.length+T.length+((Ps.take 0).map (·.2.length)).sum:Nat):Int)=(off:Int)+(R.length:Int)+(T.length:Int):=by simp
    rw [e0]
    k_call_by "s" []
   ·rintro k m1 H1 ⟨_,hE,_⟩ c o hc
    unfold only at hc
    split at hc
    ·rename_i e;subst e;rw [hE4.get hps] at hc;cases hc;exact hE.get hps
    ·cases hc
   ·rintro k it m1 H1 hit ⟨rfl,hE,hle⟩
    rw [List.getElem?_map,List.getElem?_map] at hit
    cases q:Ps[k]? with
    | none=>rw [q] at hit;cases hit
    | some p =>
     rw [q] at hit
     simp only [Option.map_some,Option.some.injEq] at hit
     subst hit
     obtain hmem:=List.mem_of_getElem? q
     obtain ht:=chainB_get hch q
     obtain ⟨hp1,hp2,_⟩:=takeMsb_pos ht
     rw [List.length_drop] at hp2
     k_call_by "x" []
     intro P'
     refine t_cons ?_
     refine t_if K ?_
     k_call_by "x" []
     refine ⟨B,_,p.1,p.2,rfl,hB,hle,hE.get (hPs p hmem),ht,fun H5 hE5=>?_⟩
     k_call_by "x" []
     refine t_nil ?_
     refine t_cons ?_
     refine t_aug K rfl nm_at (by rw [g_kinds,kd_29];rfl) ?_
     obtain hp5:=(hE.trans hE5).get (hPs p hmem)
     k_call_by "x" [hp5,vInts_len]
     refine t_nil ?_
     k_call_by "x" []
     have es:((Ps.take (k+1)).map (·.2.length)).sum=((Ps.take k).map (·.2.length)).sum+p.2.length:=by
      rw [List.take_add_one,q];simp
     refine ⟨[(27,.int ((off+R.length+T.length+((Ps.take (k+1)).map (·.2.length)).sum:Nat):Int)),(100,.bytes B)],?_,rfl,hE.trans hE5,by rw [es,← Nat.add_assoc];exact Nat.le_trans (Nat.add_le_of_le_sub' (Nat.le_of_lt (Nat.lt_of_sub_pos (Nat.lt_of_lt_of_le hp1 hp2))) hp2) hB⟩
     rw [es,show ((off+R.length+T.length+(((Ps.take k).map (·.2.length)).sum+p.2.length):Nat):Int)=((off+R.length+T.length+((Ps.take k).map (·.2.length)).sum:Nat):Int)+(p.2.length:Int) by rw [← Nat.add_assoc,Int.natCast_add]]
     simp only [SubB,List.lookup_cons,Nat.reduceBEq,and_self,and_true]
   ·rintro m1 H1 ⟨rfl,hE,_⟩
    refine t_cons ?_
    refine t_return K ?_
    k_call_by "x" []
    exact hQ _ hE
  refine t_cons ?_
  refine t_if K ?_
  k_call_by "x" []
  by_cases hk6:kind=6
  ·rw [if_pos hk6]
   obtain ⟨hT,hTo,hTl,hTd,hfar,z,hz,hz128⟩:=h6 hk6
   refine ⟨B,off+R.length,tl,T,by rw [Int.natCast_add],hB,by lia,hE3.get htl,hT,fun H4 hE4=>?_⟩
   k_call_by "x" []
   obtain hE4':=hE3.trans hE4
   refine ⟨tl,T,z,rfl,hE4'.get htl,hz,hTl,hTo,fun h=>absurd h (Int.not_le.mpr hz128),fun _ h=>absurd (hTd.symm.trans h) hfar,fun _ _ H5 hE5=>?_⟩
   k_call_by "x" [hTd]
   refine t_nil ?_
   exact WXN.weak (SubB.sub (by k_call_by "s" [])) (fin H5 (hE4'.trans hE5))
  ·rw [if_neg hk6]
   k_call_by "x" [hk6]
   refine t_nil ?_
   exact WXN.weak (SubB.sub (by k_call_by "s" [])) (fin H3 hE3))
end DL
end
namespace DL
theorem dv128 {d z:Nat} (h:z<128):(d*128+z)/128=d:=by rw [Nat.add_comm,Nat.add_mul_div_right _ _ (by decide),Nat.div_eq_of_lt h,Nat.zero_add]
theorem md128 {d z:Nat} (h:z<128):(d*128+z)%128=z:=by rw [Nat.add_comm,Nat.add_mul_mod_self_right,Nat.mod_eq_of_lt h]
noncomputable def isRow:List Int→Prop
 | []=>False
 | [x]=>0≤x∧x<128
 | x::r=>(128≤x∧x<256)∧isRow r
theorem isRow_cons {x:Int} {r:List Int} (h:r≠[]):isRow (x::r)↔(128≤x∧x<256)∧isRow r:=by
 cases r with
 | nil=>exact absurd rfl h
 | cons y t=>exact Iff.rfl
theorem isRow_ne {l:List Int} (h:isRow l):l≠[]:=fun e=>by subst e;exact h
theorem isRow_oct:∀ {l:List Int},isRow l→∀ i∈l,isOctet i
 | [x],h,i,hi=>by rw [List.mem_singleton] at hi;subst hi;exact ⟨h.1,by have:=h.2;exact Int.lt_trans ‹_› (by decide)⟩
 | x::y::t,h,i,hi=>by
  rcases List.mem_cons.mp hi with rfl | hi
  ·exact ⟨Int.le_trans (by decide) h.1.1,h.1.2⟩
  ·exact isRow_oct h.2 i hi
theorem isRow_split:∀ {l:List Int},isRow l→∃ p z,l=p++[z]∧0≤z∧z<128∧∀ i∈p,128≤i∧i<256
 | [x],h=>⟨[],x,rfl,h.1,h.2,by simp⟩
 | x::y::t,h=>by
  obtain ⟨p,z,e,h0,h1,hp⟩:=isRow_split h.2
  refine ⟨x::p,z,by rw [e];rfl,h0,h1,fun i hi=>?_⟩
  rcases List.mem_cons.mp hi with rfl | hi
  ·exact h.1
  ·exact hp i hi
theorem isRow_of:∀ {p:List Int} {z:Int},0≤z→z<128→(∀ i∈p,128≤i∧i<256)→isRow (p++[z])
 | [],z,h0,h1,_=>⟨h0,h1⟩
 | x::r,z,h0,h1,h=>by
  show isRow (x::(r++[z]))
  exact (isRow_cons (by simp)).mpr ⟨h x (.head _),isRow_of h0 h1 fun i hi=>h i (.tail _ hi)⟩
noncomputable def lo:List Int→Int
 | []=>0
 | x::r=>x%128+128*lo r
theorem lo_bound:∀ l:List Int,0≤lo l∧lo l<128^l.length
 | []=>⟨by simp [lo],by simp [lo]⟩
 | x::r=>by
  obtain ih:=lo_bound r
  rw [List.length_cons,Int.pow_succ]
  simp only [lo]
  refine ⟨Int.add_nonneg (Int.emod_nonneg _ (by decide)) (Int.mul_nonneg (by decide) ih.1),?_⟩
  rw [Int.mul_comm _ 128]
  exact Int.lt_of_lt_of_le (Int.add_lt_add_right (Int.emod_lt_of_pos x (by decide)) _) (by have:=Int.mul_le_mul_of_nonneg_left (Int.add_one_le_of_lt ih.2) (by decide:(0:Int)≤128);rwa [Int.mul_add,Int.mul_one,Int.add_comm] at this)
theorem sumFrom_lo:∀ (l:List Int) (k:Nat),sumFrom k l=2^k*lo l
 | [],k=>by simp [sumFrom,lo]
 | x::r,k=>by
  rw [sumFrom,sumFrom_lo r,lo,Int.pow_add]
  rw [show (2:Int)^7=128 by rfl,Int.mul_add,Int.mul_comm (x%128),Int.mul_assoc]
theorem decSize_lo {x:Int} {r:List Int}:decSize (x::r)=x%16+16*lo r:=by
 rw [decSize,sumFrom_lo];rfl
theorem enumMap_lo (E:Int):∀ (r:List Int) (j:Nat),(enumMap (fun k x=>x%128*E*128^k.toNat) (j:Int) r).sum=E*128^j*lo r
 | [],j=>by simp [enumMap,lo]
 | x::r,j=>by
  rw [enumMap,List.sum_cons,show (j:Int)+1=((j+1:Nat):Int) by simp,enumMap_lo E r (j+1),Int.toNat_natCast,lo,Int.pow_succ,Int.mul_add]
  congr 1
  ·rw [Int.mul_comm (x%128) E,Int.mul_assoc,Int.mul_assoc,Int.mul_comm (x%128)]
  ·rw [← Int.mul_assoc,← Int.mul_assoc]
theorem valLo_lo {E x:Int} {r:List Int}:valLo E (x::r)=x%E+E*lo r:=by
 rw [valLo]
 have:=enumMap_lo E r 0
 rw [show ((0:Nat):Int)=0 by rfl] at this
 rw [this];simp
theorem lawVal0 {ns:List Int} (h:ns≠[]):lawVal 0 ns=decSize ns:=by
 cases ns with
 | nil=>exact absurd rfl h
 | cons x r=>rw [decSize_lo];unfold lawVal;rw [if_neg (by decide),if_neg (by decide),valLo_lo]
theorem lawVal1 {ns:List Int}:lawVal 1 ns=lo ns:=by
 unfold lawVal;rw [if_neg (by decide),if_pos rfl]
 cases ns with
 | nil=>rfl
 | cons x r=>rw [valLo_lo,lo]
noncomputable def hi:List Int→Int
 | []=>0
 | x::r=>x%128*128^r.length+hi r
theorem ofsEdge_succ {n:Nat}:ofsEdge (n+1)=ofsEdge n+128^(n+1):=by
 simp [ofsEdge,List.range_succ,Nat.add_comm]
theorem ofsFrom_hi:∀ (l:List Int) (v:Int),ofsFrom v l=v*128^l.length+ofsEdge l.length+hi l
 | [],v=>by simp [ofsFrom,hi,ofsEdge]
 | x::r,v=>by
  rw [ofsFrom,ofsFrom_hi r,List.length_cons,ofsEdge_succ,hi,Int.pow_succ,Int.add_mul,Int.mul_assoc,Int.mul_comm 128,Int.add_mul]
  lia
theorem enumMap_hi (L:Nat):∀ (r:List Int) (j:Nat),j+r.length=L→(enumMap (fun k x=>x%128*128^((L:Int)-1-k).toNat) (j:Int) r).sum=hi r
 | [],j,_=>by simp [enumMap,hi]
 | x::r,j,h=>by
  rw [List.length_cons] at h
  rw [enumMap,List.sum_cons,show (j:Int)+1=((j+1:Nat):Int) by simp,enumMap_hi L r (j+1) ((Nat.add_right_comm j 1 r.length).trans h),hi,show ((L:Int)-1-(j:Int)).toNat=r.length from congrArg Int.toNat (show (L:Int)-1-(j:Int)=(r.length:Int) from Int.sub_eq_iff_eq_add.mpr (Int.sub_eq_iff_eq_add.mpr (congrArg Nat.cast (h.symm.trans ((Nat.add_comm _ _).trans (Nat.add_right_comm _ _ _))))))]
theorem lawVal2 {ns:List Int} (h:ns≠[]):lawVal 2 ns=decOfs ns:=by
 unfold lawVal valHi
 rw [if_pos rfl]
 have:=enumMap_hi ns.length ns 0 (by exact Nat.add_comm _ _)
 rw [show ((0:Nat):Int)=0 by rfl] at this
 rw [this]
 cases ns with
 | nil=>exact absurd rfl h
 | cons x r =>
  rw [decOfs,ofsFrom_hi,List.length_cons,Nat.add_sub_cancel,hi]
  lia
theorem lo_enc7 (n:Nat):lo (enc7 n)=n:=by
 induction n using Nat.strongRecOn with
 | ind n ih =>
  by_cases h:n<128
  ·rw [enc7_lo h];exact congrArg Nat.cast (show n%128+128*0=n from Nat.mod_eq_of_lt h)
  ·rw [enc7_hi h,lo,ih (n/128) (Nat.div_lt_self (Nat.lt_of_lt_of_le (by decide) (Nat.not_lt.mp h)) (by decide))]
   exact congrArg Nat.cast (show (n%128+128)%128+128*(n/128)=n by rw [Nat.add_mod_right,Nat.mod_mod,Nat.mod_add_div])
theorem enc7_row (n:Nat):isRow (enc7 n):=by
 induction n using Nat.strongRecOn with
 | ind n ih =>
  by_cases h:n<128
  ·rw [enc7_lo h];exact ⟨by exact Int.natCast_nonneg _,by exact Int.ofNat_lt.mpr ‹_›⟩
  ·rw [enc7_hi h]
   exact (isRow_cons (isRow_ne (ih _ (div128 h)))).mpr ⟨⟨Int.le_add_of_nonneg_left (Int.natCast_nonneg _),(oct128 (Nat.mod_lt _ (by decide))).2⟩,ih _ (div128 h)⟩
theorem enc7_len {k:Nat}:∀ {n:Nat},n<128^(k+1)→(enc7 n).length≤k+1:=by
 induction k with
 | zero=>intro n h;rw [enc7_lo (show n<128 from h)];simp
 | succ k ih =>
  intro n h
  by_cases h2:n<128
  ·rw [enc7_lo h2];simp
  ·rw [enc7_hi h2,List.length_cons]
   have:=ih (n:=n/128) (Nat.div_lt_of_lt_mul (Nat.mul_comm _ _▸h))
   exact Nat.succ_le_succ ‹_›
theorem encHead_row {t n:Nat} (ht:t<8):isRow (encHead t n):=by
 unfold encHead
 split
 ·exact ⟨Int.natCast_nonneg _,Int.ofNat_lt.mpr (head_lt ht)⟩
 ·exact (isRow_cons (isRow_ne (enc7_row _))).mpr ⟨⟨Int.ofNat_le.mpr (Nat.le_add_left _ _),Int.ofNat_lt.mpr (Nat.add_lt_add_right (head_lt ht) 128)⟩,enc7_row _⟩
theorem encHead_len {t n k:Nat} (h:n<16*128^(k+1)):(encHead t n).length≤k+2:=by
 unfold encHead
 split
 ·simp
 ·rw [List.length_cons]
  have:=enc7_len (k:=k) (n:=n/16) (Nat.div_lt_of_lt_mul h)
  exact Nat.succ_le_succ ‹_›
theorem decSize_head {t n:Nat}:decSize (encHead t n)=n:=by
 unfold encHead
 split
 ·rename_i h
  rw [decSize_lo,lo]
  exact congrArg Nat.cast (show (t*16+n%16)%16+16*0=n by rw [Nat.add_comm (t*16),Nat.add_mul_mod_self_right,Nat.mod_mod,Nat.mod_eq_of_lt (Nat.lt_of_div_eq_zero (by decide) h)];rfl)
 ·rw [decSize_lo,lo_enc7]
  exact congrArg Nat.cast (show (t*16+n%16+8*16)%16+16*(n/16)=n by rw [Nat.add_mul_mod_self_right,Nat.add_comm (t*16),Nat.add_mul_mod_self_right,Nat.mod_mod,Nat.mod_add_div])
theorem decKind_head {t n:Nat} (ht:t<8):decKind (encHead t n)=t:=by
 unfold encHead
 split
 ·exact congrArg Nat.cast (show (t*16+n%16)/16%8=t by rw [Nat.add_comm,Nat.add_mul_div_right _ _ (by decide),Nat.div_eq_of_lt (Nat.mod_lt _ (by decide)),Nat.zero_add,Nat.mod_eq_of_lt ht])
 ·exact congrArg Nat.cast (show (t*16+n%16+8*16)/16%8=t by rw [Nat.add_mul_div_right _ _ (by decide),Nat.add_comm (t*16),Nat.add_mul_div_right _ _ (by decide),Nat.div_eq_of_lt (Nat.mod_lt _ (by decide)),Nat.zero_add,Nat.add_mod_right,Nat.mod_eq_of_lt ht])
theorem decOfs_go:∀ (d:Nat) (y:Int) (rest:List Int),decOfs (ofsGo d (y::rest))=ofsFrom ((d:Int)*128+y%128) rest:=by
 intro d
 induction d using Nat.strongRecOn with
 | ind d ih =>
  intro y rest
  by_cases h:d=0
  ·subst h;rw [ofsGo_zero,decOfs];simp
  ·rw [ofsGo_succ h,ih ((d-1)/128) (Nat.lt_of_le_of_lt (Nat.div_le_self _ _) (Nat.sub_one_lt h)),ofsFrom]
   refine congrArg (ofsFrom · rest) ?_
   exact congrArg (fun z:Nat=>(z:Int)*128+y%128) (show (d-1)/128*128+((d-1)%128+128)%128+1=d by rw [Nat.add_mod_right,Nat.mod_mod,Nat.div_add_mod',Nat.sub_add_cancel (Nat.pos_of_ne_zero h)])
theorem decOfs_enc (d:Nat):decOfs (encOfs d)=d:=by
 unfold encOfs
 rw [decOfs_go,ofsFrom]
 exact congrArg Nat.cast (show d/128*128+d%128%128=d by rw [Nat.mod_mod,Nat.div_add_mod'])
theorem ofsGo_row:∀ (d:Nat) (acc:List Int),isRow acc→isRow (ofsGo d acc):=by
 intro d
 induction d using Nat.strongRecOn with
 | ind d ih =>
  intro acc h
  by_cases h0:d=0
  ·subst h0;rw [ofsGo_zero];exact h
  ·rw [ofsGo_succ h0]
   exact ih _ (ofs_lt h0) _ ((isRow_cons (isRow_ne h)).mpr ⟨⟨Int.ofNat_le.mpr (Nat.le_add_left _ _),Int.ofNat_lt.mpr (Nat.add_lt_add_right (Nat.mod_lt _ (by decide)) 128)⟩,h⟩)
theorem encOfs_row (d:Nat):isRow (encOfs d):=ofsGo_row _ _ ⟨Int.natCast_nonneg _,Int.ofNat_lt.mpr (Nat.mod_lt _ (by decide))⟩
theorem decOfs_snoc {p:List Int} {z:Int} (h:p≠[]):decOfs (p++[z])=(decOfs p+1)*128+z%128:=by
 cases p with
 | nil=>exact absurd rfl h
 | cons x r=>show ofsFrom (x%128) (r++[z])=_;rw [ofsFrom_snoc];rfl
theorem decOfs_nonneg (l:List Int):0≤decOfs l:=by
 cases l with
 | nil=>simp [decOfs]
 | cons x r=>exact (ofsFrom_bound r (x%128) 0 (by exact Int.emod_nonneg _ (by decide)) (by exact Int.lt_trans (Int.emod_lt_of_pos _ (by decide)) (by decide))).1
theorem ofsGo_back:∀ (n:Nat) (p:List Int),p.length=n+1→(∀ i∈p,128≤i∧i<256)→∀ acc,ofsGo (decOfs p+1).toNat acc=p++acc:=by
 intro n
 induction n with
 | zero =>
  intro p hl hp acc
  match p,hl with
  | [x],_ =>
   obtain ⟨z,hz,e,ex⟩:=h128 (hp x (.head _))
   show ofsGo (x%128+1).toNat acc=_
   rw [e]
   show ofsGo (z+1) acc=_
   rw [ofsGo_succ (Nat.add_one_ne_zero z),Nat.add_sub_cancel,Nat.div_eq_of_lt hz,ofsGo_zero,Nat.mod_eq_of_lt hz,ex]
   rfl
 | succ n ih =>
  intro p hl hp acc
  rcases List.eq_nil_or_concat p with rfl | ⟨q,y,rfl⟩
  ·cases hl
  ·rw [List.concat_eq_append] at hl hp ⊢
   rw [List.length_append,List.length_singleton] at hl
   have hq:q≠[]:=fun e=>by subst e;simp at hl
   obtain ⟨z,hz,e,ey⟩:=h128 (hp y (by simp))
   obtain ⟨d,hd⟩:=Int.eq_ofNat_of_zero_le (decOfs_nonneg q)
   have h2:=ih q (Nat.succ.inj hl) (fun i hi=>hp i (by simp [hi])) (((z+128:Nat):Int)::acc)
   rw [hd] at h2
   rw [decOfs_snoc hq,e,hd]
   show ofsGo ((d+1)*128+z+1) acc=_
   rw [ofsGo_succ (Nat.add_one_ne_zero _),Nat.add_sub_cancel,dv128 hz,md128 hz]
   refine h2.trans ?_
   rw [ey,List.append_assoc]
   rfl
theorem encOfs_dec {l:List Int} (h:isRow l):encOfs (decOfs l).toNat=l:=by
 obtain ⟨p,z,rfl,h0,h1,hp⟩:=isRow_split h
 obtain ⟨w,rfl⟩:=Int.eq_ofNat_of_zero_le h0
 have hw:w<128:=Int.ofNat_lt.mp h1
 unfold encOfs
 cases p with
 | nil =>
  show ofsGo (w%128/128) [((w%128%128:Nat):Int)]=_
  rw [Nat.mod_eq_of_lt hw,Nat.mod_eq_of_lt hw,Nat.div_eq_of_lt hw,ofsGo_zero]
  rfl
 | cons x r =>
  obtain ⟨d,hd⟩:=Int.eq_ofNat_of_zero_le (decOfs_nonneg (x::r))
  have hb:=ofsGo_back r.length (x::r) rfl hp
  rw [hd] at hb
  rw [decOfs_snoc (by simp),hd]
  show ofsGo (((d+1)*128+w%128)/128) [((((d+1)*128+w%128)%128:Nat):Int)]=_
  rw [Nat.mod_eq_of_lt hw,dv128 hw,md128 hw]
  exact hb _
theorem ofsEdge_nonneg (k:Nat):0≤ofsEdge k:=by
 induction k with
 | zero=>simp [ofsEdge]
 | succ k ih =>
  rw [ofsEdge_succ]
  have:(0:Int)≤128^(k+1):=Int.pow_nonneg (by decide)
  exact Int.add_nonneg ‹_› ‹_›
theorem ofsEdge_ge {k n:Nat} (h:k+1≤n):(128:Int)^(k+1)≤ofsEdge n:=by
 obtain ⟨j,rfl⟩:∃ j,n=k+1+j:=⟨n-(k+1),by simp [*]⟩
 clear h
 induction j with
 | zero =>
  rw [Nat.add_zero,ofsEdge_succ]
  exact Int.le_add_of_nonneg_left (ofsEdge_nonneg k)
 | succ j ih =>
  rw [show k+1+(j+1)=(k+1+j)+1 by exact (Nat.add_assoc _ _ _).symm,ofsEdge_succ]
  have:(0:Int)≤128^(k+1+j+1):=Int.pow_nonneg (by decide)
  exact Int.le_trans ih (Int.le_add_of_nonneg_right this)
theorem encOfs_len {n k:Nat} (h:n<128^(k+1)):(encOfs n).length≤k+1:=by
 obtain hr:=encOfs_row n
 obtain hd:=decOfs_enc n
 cases e:encOfs n with
 | nil=>rw [e] at hr;exact hr.elim
 | cons x r =>
  rw [e,decOfs,ofsFrom_hi] at hd
  rw [List.length_cons]
  by_cases h2:r.length≤k
  ·exact Nat.succ_le_succ ‹_›
  ·exfalso
   have hge:(128:Int)^(k+1)≤ofsEdge r.length:=ofsEdge_ge (by exact Nat.not_le.mp ‹_›)
   have h1:0≤x%128*128^r.length:=Int.mul_nonneg (by exact Int.emod_nonneg _ (by decide)) (Int.pow_nonneg (by decide))
   have h2:∀ l:List Int,0≤hi l:=fun l=>by
    induction l with
    | nil=>simp [hi]
    | cons y t ih=>rw [hi];have:0≤y%128*128^t.length:=Int.mul_nonneg (by exact Int.emod_nonneg _ (by decide)) (Int.pow_nonneg (by decide));exact Int.add_nonneg ‹_› ‹_›
   obtain h3:=h2 r
   have h4:(n:Int)<128^(k+1):=by exact_mod_cast h
   exact absurd h4 (Int.not_lt.mpr (by rw [← hd];exact Int.le_trans hge (Int.le_trans (Int.le_add_of_nonneg_left h1) (Int.le_add_of_nonneg_right h3))))
end DL
section
namespace DL
variable {C:Cx} {sha:Addr} {fm:Addr→Option Int}
noncomputable def spLawRead (fm:Addr→Option Int):Spec:=fun xs H Q _=>∃ (a:Addr) (ns:List Int) (f:Addr) (k:Int),xs=[.ref a,.ref f]∧H a=some (.list (vInts ns))∧isRow ns∧ns.length≤250∧fm f=some k∧∀ H',Ext H H'→Q (.bool true) H'
theorem F_law_read (W:Wd C sha fm) (D:Ad C) (F:Fk C) (hl:3<C.lv):∀ x,x=fdName 31→∀ u,C.mg x=some u→FnN C u (spLawRead fm) :=
 fn_ok2 W F (by exact Nat.lt_of_le_of_lt (Nat.zero_le _) ‹_›) (by decide) sc_31 pl_31 [(7,spDecH),(23,spLawValue),(6,spDecO),(18,spLawOpen),(8,spDeltaSize),(20,spLawRow),(80,spPack fm)] (fun C' hS W' F' hlv e he=>by
  simp only [List.mem_cons,List.not_mem_nil,or_false] at he
  rcases he with rfl | rfl | rfl | rfl | rfl | rfl | rfl
  ·exact fun x hx=>F_decH W' F' (lvq hl hlv (by decide)) x (nmc_inj hx nm_decode_object_header)
  ·exact fun x hx=>F_law_value W' F' (lvq hl hlv (by decide)) x (nmc_inj hx nm_law_value)
  ·exact fun x hx=>F_decO W' (D.same hS) F' (lvq hl hlv (by decide)) x (nmc_inj hx nm_decode_delta_base_offset)
  ·exact fun x hx=>F_law_open W' (D.same hS) F' (lvq hl hlv (by decide)) x (nmc_inj hx nm_law_open)
  ·exact fun x hx=>F_delta_size W' F' (lvq hl hlv (by decide)) x (nmc_inj hx nm_delta_encode_size)
  ·exact fun x hx=>F_law_row W' F' (lvq hl hlv (by decide)) x (nmc_inj hx nm_law_row)
  ·exact fun x hx=>F_pack W' F' (lvq hl hlv (by decide)) x (nmc_inj hx nm_pack_object_header)) (fun xs H Q X h=>by
  revert W D F hl h
  k_call_by "e" [C,sha,fm,xs,H,Q,X]
  obtain ⟨a,ns,f,k,rfl,ha,hrow,hlen,hf,hQ⟩:=h
  refine ⟨rfl,fun C0 mc L a0 cd P hC0 hcd K F1 L1=>?_⟩
  revert W D F hl ha hrow hlen hf hQ hC0 hcd K F1 L1
  k_call_by "e" [C,sha,fm,H,Q,X,a,ns,f,k,C0,mc,L,a0,cd,P]
  have hne:=isRow_ne hrow
  have hoc:=isRow_oct hrow
  obtain ⟨p,z,hpz,hz0,hz1,hpo⟩:=isRow_split hrow
  have hlast:ns.getLast?=some z:=by rw [hpz];simp
  refine t_cons ?_
  refine t_assign K L1 ⟨nm_kept,.inl (by rw [g_kinds,kd_31];rfl)⟩ ?_
  k_call_by "x" [ha]
  intro e1 he1
  revert hpz hz0 hz1 hpo hlast he1
  k_call_by "e" [p,z,e1]
  have ha1:=upd_keep (o:=.list []) he1 ha
  k_call_by "x" [ha1]
  refine ⟨by rw [vInts_len];exact Nat.le_trans ‹_› (by decide),fun c hc=>?_⟩
  have hE1:Ext H (upd (upd H e1 (.list [])) c (.list (vInts ns))):=((Ext.refl H).upd he1).upd hc
  have hc1:upd (upd H e1 (.list [])) c (.list (vInts ns)) c=some (.list (vInts ns)):=upd_same
  simp only [List.append_nil]
  generalize upd (upd H e1 (.list [])) c (.list (vInts ns))=H1 at hE1 hc1
  have ha2:=hE1.get ha
  refine t_cons ?_
  refine t_tuple K rfl ?_
  k_call_by "x" []
  refine ⟨a,ns,rfl,ha2,hne,by exact Nat.le_trans ‹_› (by decide),hoc,fun H2 t hE2 ht ht'=>?_⟩
  revert hc hE1 hc1 ha2 hE2 ht ht'
  k_call_by "e" [c,H1,H2,t]
  k_call_by "x" [ht']
  k_call_by "a" []
  k_call_by "o" []
  have ha3:=hE2.get ha2
  refine t_cons ?_
  refine t_assign K L1 ⟨nm_far,.inl (by rw [g_kinds,kd_31];rfl)⟩ ?_
  k_call_by "x" []
  refine ⟨2,a,ns,rfl,ha3,hne,by exact Nat.le_trans ‹_› (by decide),hoc,.inr (.inr rfl),fun H3 hE3=>?_⟩
  obtain u90:=()
  revert hE3
  k_call_by "e" [H3,u90]
  rw [lawVal2 hne]
  have hE3':=(hE1.trans hE2).trans hE3
  have hc3:=(hE2.trans hE3).get hc1
  obtain ⟨far,hfar⟩:∃ n:Nat,decOfs ns=n:=⟨(decOfs ns).toNat,by have:=decOfs_nonneg ns;exact (Int.toNat_of_nonneg ‹_›).symm⟩
  obtain ⟨size,hsize⟩:∃ n:Nat,decSize ns=n:=by
   cases ns with
   | nil=>exact absurd rfl hne
   | cons x r=>rw [decSize_lo];exact Int.eq_ofNat_of_zero_le (Int.add_nonneg (Int.emod_nonneg _ (by decide)) (Int.mul_nonneg (by decide) (lo_bound r).1))
  rw [hfar,hsize]
  have hvb:=lo_bound ns
  obtain ⟨v,hv⟩:∃ n:Nat,lo ns=n:=Int.eq_ofNat_of_zero_le hvb.1
  revert hfar hsize hv
  k_call_by "e" [far,size,v]
  have hl1:0<ns.length:=List.length_pos_iff.mpr hne
  have hpow:(128:Nat)^ns.length≤2^2000:=by
   rw [show (128:Nat)=2^7 by rfl,← Nat.pow_mul]
   exact Nat.pow_le_pow_right (by decide) (Nat.le_trans (Nat.mul_le_mul_left 7 hlen) (by decide))
  have hvN:v<128^ns.length:=by
   have:=hvb.2;rw [hv] at this;exact_mod_cast this
  have h2000:(2:Nat)^2000*16<2^3000:=by
   rw [show (16:Nat)=2^4 by rfl,← Nat.pow_add]
   exact Nat.pow_lt_pow_right (by decide) (by decide)
  have hv3:v<2^3000:=by
   exact Nat.lt_of_lt_of_le hvN (Nat.le_trans hpow (Nat.le_trans (Nat.le_mul_of_pos_right _ (by decide)) (Nat.le_of_lt h2000)))
  have hvl:(enc7 v).length≤400:=by
   have:=enc7_len (k:=ns.length-1) (n:=v) (by rw [Nat.sub_add_cancel hl1];exact hvN)
   exact Nat.le_trans this (by rw [Nat.sub_add_cancel hl1];exact Nat.le_trans hlen (by decide))
  have hsN:size<16*128^ns.length:=by
   have:decSize ns<16*128^ns.length:=by
    cases ns with
    | nil=>exact absurd rfl hne
    | cons x r =>
     have:=(lo_bound r).2
     have hp:(1:Int)≤128^r.length:=by have:=Nat.one_le_two_pow (n:=7*r.length);rw [Nat.pow_mul] at this;exact_mod_cast this
     rw [decSize_lo,List.length_cons,Int.pow_succ]
     lia
   rw [hsize] at this
   exact_mod_cast this
  have hs3:size<2^3000:=Nat.lt_of_lt_of_le hsN (Nat.le_trans (Nat.mul_le_mul_left 16 hpow) (Nat.mul_comm _ _▸Nat.le_of_lt h2000))
  have hsl:(encHead 6 size).length≤400:=by
   have:=encHead_len (t:=6) (k:=ns.length-1) (n:=size) (by rw [Nat.sub_add_cancel hl1];exact hsN)
   exact Nat.le_trans this (Nat.le_trans (Nat.add_le_add_right (Nat.le_trans (Nat.sub_le _ _) hlen) 2) (by decide))
  have hfe:encOfs far=ns:=by
   have:=encOfs_dec hrow
   rw [hfar] at this;simpa using this
  have fin3:∀ (tv:V) H4,Ext H H4→WSN (ctx 31 C0 mc L a0 cd) P [(104,tv),(50,.int (far:Int)),(97,.int (size:Int)),(61,.int (decKind ns)),(60,.ref c),(87,.ref a),(53,.ref f)] H4 ((fdBody 31).drop 6) (retQ Q) (retX X):=fun tv H4 hE4=>by
   refine t_cons ?_
   refine t_assign K L1 ⟨nm_told,.inl (by rw [g_kinds,kd_31];rfl)⟩ ?_
   k_call_by "x" []
   refine ⟨1,a,ns,rfl,hE4.get ha,hne,by exact Nat.le_trans ‹_› (by decide),hoc,.inr (.inl rfl),fun H5 hE5=>?_⟩
   rw [lawVal1,hv]
   have hE5':=hE4.trans hE5
   refine t_cons ?_
   refine t_if K ?_
   k_call_by "x" []
   refine ⟨v,rfl,hvl,fun H6 hE6=>?_⟩
   k_call_by "x" []
   intro b1 hb1
   rw [toOcts_of (isRow_oct (enc7_row v))]
   refine ⟨1,0,v,rfl,by decide,hvl,hv3,fun H7 r hE7 hr hr'=>?_⟩
   have hb2:=hE7.get (upd_same (H:=H6) (a:=b1) (o:=.list (vInts (enc7 v))))
   have hro:rowOf 1 0 v=enc7 v:=rfl
   k_call_by "x" [hr',hb2,pydL_vInts,eqv_ints,hro]
   refine t_nil ?_
   have hE7':=(((hE5'.trans hE6).upd hb1).trans hE7)
   refine t_cons ?_
   refine t_return K ?_
   k_call_by "x" []
   by_cases hf0:(far:Int)=0
   ·rw [if_pos hf0]
    k_call_by "x" [hf0]
    exact hQ _ hE7'
   ·rw [if_neg hf0]
    refine ⟨6,size,.int (far:Int),f,k,rfl,by decide,hf,hsl,⟨by exact Int.natCast_nonneg _,by rw [Int.toNat_natCast,hfe];exact Nat.le_trans ‹_› (by decide)⟩,fun l hl H8 b3 hE8 hb3 hb3'=>?_,fun hno=>?_⟩
    ·have e:l=encHead 6 size++ns:=by
      unfold headOut at hl
      rw [if_pos rfl] at hl
      cases hl
      rw [Int.toNat_natCast,hfe]
     k_call_by "x" [hb3']
     intro b4 hb4
     rw [toOcts_of (by
      rw [e];intro i hi
      rcases List.mem_append.mp hi with hi | hi
      ·exact isRow_oct (encHead_row (by decide)) i hi
      ·exact hoc i hi),e]
     refine ⟨0,6,size,rfl,by decide,hsl,hs3,fun H9 r9 hE9 hr9 hr9'=>?_⟩
     have hb5:=hE9.get (upd_same (H:=H8) (a:=b4) (o:=.list (vInts (encHead 6 size++ns))))
     have ha9:=hE9.get (((hE7'.trans hE8).upd hb4 (o:=.list (vInts (encHead 6 size++ns)))).get ha)
     have hro2:rowOf 0 6 size=encHead 6 size:=rfl
     k_call_by "x" [hr9',ha9,hb5,hro2,vInts_app,vInts_len]
     refine ⟨by lia,fun b6 hb6=>?_⟩
     have hb7:=upd_keep (o:=.list (vInts (encHead 6 size++ns))) hb6 hb5
     k_call_by "x" [hb7,pydL_vInts,eqv_ints]
     exact hQ _ ((((hE7'.trans hE8).upd hb4).trans hE9).upd hb6)
    ·unfold headOut at hno
     rw [if_pos rfl] at hno
     cases hno
  have fin2:∀ (tv:V) H4,Ext H H4→WSN (ctx 31 C0 mc L a0 cd) P [(104,tv),(50,.int (far:Int)),(97,.int (size:Int)),(61,.int (decKind ns)),(60,.ref c),(87,.ref a),(53,.ref f)] H4 ((fdBody 31).drop 5) (retQ Q) (retX X):=fun tv H4 hE4=>by
   have ha4:=hE4.get ha
   refine t_cons ?_
   refine t_if K ?_
   k_call_by "x" [ha4,vInts_len]
   by_cases hlt:(1:Int)<(ns.length:Int)
   ·rw [if_pos hlt]
    intro b1 hb1
    have hcut:cutOf (vInts ns) none (some ((ns.length:Int)-1))=vInts p:=by
     rw [hpz];exact cut_init
    rw [hcut]
    have hp1:p≠[]:=fun e=>by rw [hpz,e] at hlt;simp at hlt
    obtain ⟨y,hy⟩:∃ y,p.getLast?=some y:=⟨p.getLast hp1,List.getLast?_eq_some_getLast hp1⟩
    have hyb:=hpo y (List.mem_of_getLast? hy)
    refine ⟨b1,p,y,rfl,upd_same,hy,Nat.le_trans (Nat.le_of_lt (len_lt hpz (List.cons_ne_nil _ _))) (Nat.le_trans hlen (by decide)),fun i hi=>⟨Int.le_trans (by decide) (hpo i hi).1,(hpo i hi).2⟩,hyb.1,fun H5 hE5=>?_⟩
    k_call_by "x" []
    refine t_nil ?_
    exact fin3 tv H5 ((hE4.upd hb1).trans hE5)
   ·rw [if_neg hlt]
    k_call_by "x" [hlt]
    refine t_nil ?_
    exact fin3 tv H4 hE4
  have fin:∀ (tv:V) H4,(tv = .none∧(far:Int)=0∨tv = .int (far:Int)∧¬ (far:Int)=0)→Ext H3 H4→WSN (ctx 31 C0 mc L a0 cd) P [(104,tv),(50,.int (far:Int)),(97,.int (size:Int)),(61,.int (decKind ns)),(60,.ref c),(87,.ref a),(53,.ref f)] H4 ((fdBody 31).drop 4) (retQ Q) (retX X):=fun tv H4 htv hE4=>by
   have hE4':=hE3'.trans hE4
   have ha4:=hE4'.get ha
   have hc4:=hE4.get hc3
   have hat0:∃ x0,at? (vInts ns) 0=some (.int x0)∧decKind ns=x0/16%8:=by
    cases ns with
    | nil=>exact absurd rfl hne
    | cons x r=>exact ⟨x,at_zero,rfl⟩
   obtain ⟨x0,hat0,hdk⟩:=hat0
   refine t_cons ?_
   refine t_if K ?_
   k_call_by "x" [ha4,hc4,pydL_vInts,eqv_ints,hat0]
   refine ⟨lt_DIV (by decide),?_⟩
   rw [hdk]
   k_call_by "x" []
   refine ⟨0,a,ns,rfl,ha4,hne,by exact Nat.le_trans ‹_› (by decide),hoc,.inl rfl,fun H5 hE5=>?_⟩
   rw [lawVal0 hne,hsize]
   k_call_by "x" []
   rcases htv with ⟨rfl,h0⟩ | ⟨rfl,h0⟩
   ·have h0':=eq_true h0
    k_call_by "x" [h0']
    refine t_nil ?_
    rw [← hdk]
    exact fin2 _ H5 (hE4'.trans hE5)
   ·k_call_by "x" [h0]
    refine t_nil ?_
    rw [← hdk]
    exact fin2 _ H5 (hE4'.trans hE5)
  refine t_cons ?_
  refine t_try_ade (D.ctx hC0) K F1 rfl (by kernel_rfl) ?_
  refine t_cons ?_
  refine t_assign K L1 ⟨nm_told,.inl (by rw [g_kinds,kd_31];rfl)⟩ ?_
  k_call_by "x" []
  refine ⟨a,ns,z,rfl,hE3'.get ha,hlast,by exact Nat.le_trans ‹_› (by decide),hoc,fun h=>absurd h (Int.not_le.mpr hz1),fun _ h0 H4 hE4=>?_,fun _ hn H4 hE4=>?_⟩
  ·refine ⟨rfl,fun e=>?_⟩
   refine t_cons ?_
   refine t_assign K.inH L1.inH ⟨nm_told,.inl (by show List.lookup _ (gOf 31 sha fm []).kinds=_;rw [g_kinds,kd_31];rfl)⟩ ?_
   k_call_by "x" []
   refine t_nil ?_
   exact fin _ H4 (.inl ⟨rfl,by rw [← hfar,h0]⟩) hE4
  ·refine t_nil ?_
   rw [hfar]
   exact fin _ H4 (.inr ⟨rfl,by rw [← hfar];exact hn⟩) hE4)
end DL
end
section
namespace DL
variable {C:Cx} {g:Ge} {P:Kp} {m:Loc} {H:Hp} {s:Shared}
noncomputable def frzB (B:Kp) (as:List Addr) (h:Heap):Kp:=fun b=>if as.contains b then h.get? b else B b
noncomputable abbrev frzC (C:Cx) (as:List Addr) (h:Heap):Cx:={ C with base:=frzB C.base as h,wr:=false }
theorem frzB_in {B:Kp} {as:List Addr} {h:Heap} {b:Addr} (hb:b∈as):frzB B as h b=h.get? b:=if_pos (List.contains_iff_mem.mpr hb)
theorem frzB_out {B:Kp} {as:List Addr} {h:Heap} {b:Addr} (hb:b∉as):frzB B as h b=B b:=if_neg fun e=>hb (List.contains_iff_mem.mp e)
theorem frzB_sub {B:Kp} {as:List Addr} {h:Heap} (hB:∀ b o,B b=some o→h.get? b=some o) {b:Addr} {o:Obj} (e:B b=some o):frzB B as h b=some o:=by
 by_cases hb:b∈as
 ·rw [frzB_in hb];exact hB b o e
 ·rw [frzB_out hb];exact e
theorem St.freeze (S:St C P m H s) {as:List Addr} (hH:∀ b∈as,H b=none) (hF:∀ b∈as,b≠C.env.locals∧∀ f∈C.fs,f.1≠b):St (frzC C as s.heap) (frzB P as s.heap) m H s where
 pbase:=fun b o e=>by
  by_cases hb:b∈as
  ·have e:frzB C.base as s.heap b=some o:=e
   rw [frzB_in hb] at e;rw [frzB_in hb];exact e
  ·have e:frzB C.base as s.heap b=some o:=e
   rw [frzB_out hb] at e;rw [frzB_out hb];exact S.pbase b o e
 keep:=fun b o e=>by
  by_cases hb:b∈as
  ·rw [frzB_in hb] at e;exact e
  ·rw [frzB_out hb] at e;exact S.keep b o e
 objs:=fun a o e=>by
  have hb:a∉as:=fun h=>by rw [hH a h] at e;cases e
  rw [frzB_out hb];exact S.objs a o e
 pL:=by rw [frzB_out fun h=>(hF _ h).1 rfl];exact S.pL
 ns:=S.ns
 own:=fun h=>by cases h
 cells:=S.cells
 fs:=fun f hf=>by
  obtain ⟨h1,h2,h3⟩:=S.fs f hf
  exact ⟨h1,by rw [frzB_out fun h=>(hF _ h).2 f hf rfl];exact h2,h3⟩
 gens:=S.gens
 os:=S.os
theorem St.thaw {m0:Loc} {H0:Hp} {s0:Shared} (S0:St C P m0 H0 s0) {as:List Addr} (hown:C.wr=true→∀ x a,C.env.cells.lookup x=some a→C.env.kindOf x=some .cell→a∈as) (S:St (frzC C as s0.heap) (frzB P as s0.heap) m H s):St C P m H s:=by
 have sub:∀ b o,P b=some o→frzB P as s0.heap b=some o:=fun b o e=>frzB_sub S0.keep e
 have non:∀ b,frzB P as s0.heap b=none→P b=none:=fun b e=>by
  cases q:P b with
  | none=>rfl
  | some o=>rw [sub b o q] at e;cases e
 exact {
  pbase:=S0.pbase
  keep:=fun b o e=>S.keep b o (sub b o e)
  objs:=fun a o e=>⟨non a (S.objs a o e).1,(S.objs a o e).2⟩
  pL:=S0.pL
  ns:=S.ns
  own:=fun hw x a h1 h2=>by
   obtain ⟨h3,c,o,h4,h5⟩:=S0.own hw x a h1 h2
   exact ⟨h3,c,o,S.keep a o (by rw [frzB_in (hown hw x a h1 h2)];exact h4),h5⟩
  cells:=S.cells
  fs:=fun f hf=>⟨(S.fs f hf).1,(S0.fs f hf).2⟩
  gens:=S.gens
  os:=S.os }
theorem t_freeze (S:St C P m H s) {as:List Addr} (hH:∀ b∈as,H b=none) (hF:∀ b∈as,b≠C.env.locals∧∀ f∈C.fs,f.1≠b)
  (hown:C.wr=true→∀ x a,C.env.cells.lookup x=some a→C.env.kindOf x=some .cell→a∈as) {t:Sem Flow} {Q:QS} {X:XSt}
  (h:WXN (frzC C as s.heap) (frzB P as s.heap) m H t Q noX):wpN (Md C) C.A t (RF C P Q) (XS C P X) s :=
 nMono (h s (S.freeze hH hF)) (fun f s' ⟨fl,m',H',h1,h2,h3⟩=>⟨fl,m',H',h1,S.thaw hown h2,h3⟩) fun v s' ⟨_,_,_,_,_,_,_,_,hx⟩=>hx.elim
theorem World.more {w:PySem.World} {prog:Program} {mg:MG} {base base':Kp} {sha:Addr} {fm:Addr→Option Int} (W:World w prog mg base sha fm) (hb:∀ b o,base b=some o→base' b=some o):World w prog mg base' sha fm where
 ns:=fun h k=>W.ns h fun b o e=>k b o (hb b o e)
 nsb:=fun h k=>W.nsb h fun b o e=>k b o (hb b o e)
 nolimit:=fun h k=>W.nolimit h fun b o e=>k b o (hb b o e)
 fn:=fun i hi=>by
  obtain ⟨a,o,pm,doc,cd,h1,h2,h3,h4⟩:=W.fn i hi
  exact ⟨a,o,pm,doc,cd,h1,hb _ _ h2,h3,fun h k=>h4 h fun b o e=>k b o (hb b o e)⟩
 free:=W.free
 ofs:=W.ofs
 ref:=W.ref
 sha1:=W.sha1
 forms:=fun a n h A s k=>W.forms a n h A s fun b o e=>k b o (hb b o e)
structure CloAt (C:Cx) (a:Addr) (fd:FuncData) (scope:Scope) (cl:List (Str×Addr)) (qual:Str) (cd:Value):Prop where
 obj:∃ o,C.base a=some o∧o.data = .func fd
 scopeE:fd.scope=scope
 globals:fd.globals=mainGlobals
 closure:fd.closure=cl
 qualE:fd.qualname=qual
 cdE:fd.code=cd
 builtins:fd.builtins=builtinsNs
 code:∀ h:Heap,(∀ b o,C.base b=some o→h.get? b=some o)→h.CodeRec cd qual
 nolimit:∀ h:Heap,(∀ b o,C.base b=some o→h.get? b=some o)→h.NoLimit
structure PlainC (fd:FuncData) (scope:Scope) (ps:List Str) (ks:List Nat):Prop where
 bind:∀ vs,vs.length=ps.length→bindArgs fd ⟨vs,[]⟩=pure (ps.zip vs)
 codes:codesOf ps=some ks
 nodup:ps.Nodup
 kinds:∀ x∈ps,scope.names.lookup x=some .local
 co:scope.isCoroutine=false
 gen:scope.isGenerator=false
 kind:scope.kind = .function
 nocell:∀ x∈scope.names,x.2≠.cell
structure Frees (C:Cx) (scope:Scope) (cl:List (Str×Addr)) (frees:Loc):Prop where
 at':∀ k v,frees.lookup k=some v→∀ x,nmc x=some k→scope.names.lookup x=some .free∧∃ b ob u,cl.lookup x=some b∧C.base b=some ob∧ob.data = .cell (some u)∧VR C.mg u v
theorem lookup_rev:∀ {l:List (Str×Value)} {x:Str} {v:Value},(l.map (·.1)).Nodup→(x,v)∈l→l.reverse.lookup x=some v:=by
 intro l x v hn hm
 have key:∀ {l:List (Str×Value)},(l.map (·.1)).Nodup→(x,v)∈l→l.lookup x=some v:=by
  intro l
  induction l with
  | nil=>intro _ h;cases h
  | cons p r ih =>
   intro hn hm
   obtain ⟨y,u⟩:_:=p
   rw [List.map_cons,List.nodup_cons] at hn
   rw [List.lookup_cons]
   rcases List.mem_cons.mp hm with e | e
   ·cases e;simp
   ·have:(x == y)=false:=by
     cases z:(x == y) with
     | false=>rfl
     | true=>have:=eq_of_beq z;subst this;exact absurd (List.mem_map_of_mem (f:=(·.1)) e) hn.1
    rw [this];exact ih hn.2 e
 refine key ?_ (List.mem_reverse.mpr hm)
 rw [List.map_reverse]
 show List.Pairwise _ _
 rw [List.pairwise_reverse]
 exact hn.imp fun h=>h.symm
theorem lookup_app {l r:Loc} {k:Nat} {v:V} (h:(l++r).lookup k=some v):l.lookup k=some v∨r.lookup k=some v:=by
 induction l with
 | nil=>exact .inr h
 | cons p t ih =>
  obtain ⟨j,u⟩:_:=p
  rw [List.cons_append,List.lookup_cons] at h
  rw [List.lookup_cons]
  cases z:(k == j) with
  | true=>rw [z] at h;exact .inl h
  | false=>rw [z] at h;exact ih h
section
variable {prog:Program} {w:PySem.World} {A:Around} {R:Result→Shared→Prop} {s:Shared}
theorem cFuncE {e:Expr} {env:Env}
  (h:wpN (model prog w) (A.deeper env) (eval e env) (fun v s'=>R (.ok (.ret v)) s')
   (fun e' s'=>wpAny (model prog w) (A.deeper env) (leaving env e') (fun _ s''=>R (.error e') s'') (fun e'' s''=>R (.error e'') s'') s') s) :
  codeN (model prog w) A (.expr e env) R s:=by
 refine cTree ?_
 show wpN _ (A.deeper env) (do point;ret (← (eval e env).onRaise (leaving env))) _ _ s
 exact nBind (nOf (wpAny_point (nBind (nRaise (nMono h (fun v s' h'=>nPure h') fun _ _ h'=>nOf h')))))
theorem cFunctionE {a:Addr} {args:Args} {o:Obj} {fd:FuncData} {body:Expr} (hroom:A.depth<recursionLimit)
  (ho:s.heap.get? a=some o)
  (hd':o.data = .func fd) (hco:fd.scope.isCoroutine=false) (hgen:fd.scope.isGenerator=false) (hbody:fd.body = .expr body) (hcd:s.heap.CodeRec fd.code fd.qualname)
  (h:wpAny (model prog w) A.in1 (bindArgs fd args) (fun binds s₁ =>
   wpAny (model prog w) A.in1 (newFunctionEnv fd.scope fd.globals fd.closure binds (fd.qualname ++ ".<locals>.") (some a) fd.code none fd.builtins)
    (fun env s₂=>s₂.heap.NoLimit∧codeN (model prog w) A (.expr body env) R s₂) (fun e s'=>R (.error e) s') s₁) (fun e s'=>R (.error e) s') s) :
  codeN (model prog w) A (.call (.ref a) args) R s:=by
 revert hroom ho hd' hco hgen hbody hcd h
 k_call_by "e" [prog,w,A,R,s,a,args,o,fd,body]
 refine cTree ?_
 show wpN _ A.in1 (callAny (.ref a) args) _ _ s
 simp only [callAny]
 refine nBind (nOf (wpAny_load ho ?_))
 obtain ⟨c,oc,vs,tq,hc,hoc,hdc,hq⟩:=hcd
 simp only [hd',callFunction,hco,hgen,hbody,hc]
 rw [hc] at h
 refine nBind (m:=field (.ref c) 1) (nOf (wpAny_field hoc hdc hq (nBind (nPure ?_))))
 exact nBind (nOf (wpAny_mono h (fun binds s₁ h₁=>nBind (nOf (wpAny_mono h₁ (fun env s₂ h₂=>nBind (nOf (wpAny_enterFrame h₂.1 hroom
  (nPure (And.intro rfl (And.intro rfl h₂.2)))))) fun _ _ h'=>h'))) fun _ _ h'=>h'))
end
theorem clo_St {a:Addr} {fd:FuncData} {scope:Scope} {cl:List (Str×Addr)} {qual:Str} {cd:Value} {ps:List Str} {ks:List Nat} {frees:Loc} {vs:List Value} {xs:List V}
  (Pl:PlainC fd scope ps ks) (Fr:Frees C scope cl frees) (S:St C P m H s) (hv:VRs C.mg vs xs) (hvl:vs.length=ps.length) {mc:Str→Option Value} (hmc:s.heap.Ns C.env.locals mc) {h₁:Heap} {tk:Tok}
  (hns:h₁.Ns s.heap.objs.size (fun x=>(ps.zip vs).reverse.lookup x)) (hk₁:∀ b o,s.heap.get? b=some o→h₁.get? b=some o) :
  St (calleeC C mc (envX qual scope s.heap.objs.size a cd cl)) (calleeP C H s.heap) (ks.zip xs++frees) H { s with heap:=h₁,toks:=tk }:=by
 obtain u0:=()
 revert Pl Fr S hv hvl hmc hns hk₁
 k_call_by "e" [C,P,m,H,s,a,fd,scope,cl,qual,cd,ps,ks,frees,vs,xs,mc,h₁,tk,u0]
 have hpz:(ps.zip vs).map (·.1)=ps:=List.map_fst_zip (by simp [*])
 have kindOf_eq:∀ x,(envX qual scope s.heap.objs.size a cd cl).kindOf x=scope.names.lookup x:=fun _=>rfl
 have hnone:∀ b,s.heap.objs.size≤b→s.heap.get? b=none:=fun b hb=>by
  cases q:s.heap.get? b with
  | none=>rfl
  | some o=>exact absurd (Heap.lt_size q) (Nat.not_lt.mpr hb)
 exact {
  pbase:=fun b o e=>calleeP_of (fun hm=>by have:=S.pbase b o e;rw [(S.notFrs hm).1] at this;cases this) (by
   cases z:H b with
   | none=>rfl
   | some y=>have:=S.pbase b o e;rw [(S.objs b y z).1] at this;cases this) (S.base b o e)
  keep:=fun b o e=>hk₁ b o (calleeP_some e).2.2
  objs:=fun b o e=>by
   obtain ⟨_,ob,h1,h2⟩:=S.objs b o e
   exact ⟨calleeP_H e,ob,hk₁ b ob h1,h2⟩
  pL:=by
   cases z:calleeP C H s.heap s.heap.objs.size with
   | none=>exact z
   | some o=>have:=(calleeP_some z).2.2;rw [hnone _ (Nat.le_refl _)] at this;cases this
  ns:=⟨_,hns,fun x k z hx hz hl=>by
   rcases lookup_app hz with hz | hz
   ·obtain ⟨y,v,h1,h2,h3⟩:=zip_lookup Pl.codes hv hz
    obtain rfl:=nmc_inj hx h1
    exact ⟨v,lookup_rev (by rw [hpz];exact Pl.nodup) h2,h3⟩
   ·have:=(Fr.at' k z hz x hx).1
    have hl:scope.names.lookup x=some .local:=hl
    rw [this] at hl;cases hl⟩
  own:=fun _ x b h1 h2=>by
   have h2:scope.names.lookup x=some .cell:=h2
   exact absurd rfl (Pl.nocell _ (mem_of_lookup' h2))
  cells:=fun x k z hx hz hkd=>by
   rcases lookup_app hz with hz | hz
   ·obtain ⟨y,v,h1,h2,h3⟩:=zip_lookup Pl.codes hv hz
    obtain rfl:=nmc_inj hx h1
    have hm:x∈ps:=(List.of_mem_zip h2).1
    have:=Pl.kinds x hm
    rcases hkd with h | h
    ·have h:scope.names.lookup x=some .cell:=h
     rw [this] at h;cases h
    ·have h:scope.names.lookup x=some .free:=h
     rw [this] at h;cases h
   ·obtain ⟨_,b,ob,u,h1,h2,h3,h4⟩:=Fr.at' k z hz x hx
    exact ⟨b,u,h1,⟨ob,hk₁ _ _ (S.base b ob h2),h3⟩,h4⟩
  fs:=fun f hf=>by
   rcases List.mem_cons.mp hf with rfl | hf
   ·refine ⟨hmc.keeps hk₁,calleeP_frs (frs_iff.mpr (.inl rfl)),?_⟩
    exact Nat.ne_of_lt hmc.lt
   ·obtain ⟨h1,_,_⟩:=S.fs f hf
    exact ⟨h1.keeps hk₁,calleeP_frs (frs_iff.mpr (.inr ⟨f,hf,rfl⟩)),Nat.ne_of_lt h1.lt⟩
  gens:=S.gens
  os:=S.os }
theorem clo_Cl1 {a:Addr} {fd:FuncData} {scope:Scope} {cl:List (Str×Addr)} {qual:Str} {cd:Value} {ps:List Str} {ks:List Nat} (Pl:PlainC fd scope ps ks) {mc:Str→Option Value} {L:Addr} :
  Cl1 (calleeC C mc (envX qual scope L a cd cl)):=⟨rfl,fun x y b h1 h2 hx=>by
   have hx:scope.names.lookup x=some .cell:=hx
   exact absurd rfl (Pl.nocell _ (mem_of_lookup' hx)),fun x hx=>by
   have hx:scope.names.lookup x=some .cell:=hx
   exact absurd rfl (Pl.nocell _ (mem_of_lookup' hx))⟩
theorem clo_ok0 (F:Fk C) (hl:0<C.lv) {a:Addr} {fd:FuncData} {scope:Scope} {cl:List (Str×Addr)} {qual:Str} {cd:Value} {ps:List Str} {ks:List Nat} {frees:Loc} {body:List Stmt}
  (D:CloAt C a fd scope cl qual cd) (Pl:PlainC fd scope ps ks) (Fr:Frees C scope cl frees) (hbd:fd.body = .stmts body) {sp:Spec}
  (hb:∀ xs H Q X,sp xs H Q X→xs.length=ps.length∧∀ L mc P',let C':=calleeC C mc (envX qual scope L a cd cl)
   Fk1 C'→Cl1 C'→WSN C' P' (ks.zip xs++frees) H body (retQ Q) (retX X)) :
  ∀ P m H s vs xs Q X,St C P m H s→VRs C.mg vs xs→sp xs H Q X→wpN (Md C) C.A (call (.ref a) vs) (Res C P m Q) (XP C P m X) s:=by
 obtain ⟨o,ho,hd⟩:=D.obj
 intro P m H s vs xs Q X S hv hs
 obtain ⟨hlen,hb⟩:=hb xs H Q X hs
 obtain ⟨mc,hmc⟩:=S.ns
 have hvl:vs.length=ps.length:=by rw [hv.len];exact hlen
 have hpz:(ps.zip vs).map (·.1)=ps:=List.map_fst_zip (by simp [*])
 refine nCall (cFunction (by have:=F.depth;lia) (S.base a o ho) hd (by rw [D.scopeE];exact Pl.co) (by rw [D.scopeE];exact Pl.gen) hbd (by rw [D.cdE,D.qualE];exact D.code _ S.base) ?_)
 rw [Pl.bind vs hvl,D.scopeE,D.globals,D.closure,D.qualE,D.cdE,D.builtins]
 refine wpAny_pure (wpAny_newFunctionEnv Pl.nocell (fun x hx=>Pl.kinds x.1 (by rw [← hpz];exact List.mem_map_of_mem hx)) (fun h₁ hns hsb=>?_) Pl.kind)
 have hk₁:∀ b o,s.heap.get? b=some o→h₁.get? b=some o:=fun b o e=>hsb.extBut b o (Nat.ne_of_lt (Heap.lt_size e)) (Heap.get?_push_of_some _ e)
 refine ⟨(D.nolimit _ S.base).keeps hk₁,cFunc ?_⟩
 obtain F':=F.callee hl (mc:=mc) (env':=envX qual scope s.heap.objs.size a cd cl) Pl.kind rfl
 obtain S':=clo_St (qual:=qual) (cd:=cd) (a:=a) (tk:=s.toks+(ps.zip vs).length) Pl Fr S hv hvl hmc.1 hns hk₁
 refine nMono (hb s.heap.objs.size mc (calleeP C H s.heap) ⟨F',⟨C.stk,rfl⟩,rfl⟩ (clo_Cl1 Pl) _ S') (fun f s1 h1=>?_) fun e s1 h1=>?_
 ·obtain ⟨fl,m1,H1,hf,S1,h1⟩:=h1
  obtain S2:=S.back hmc S1
  cases f<;>cases fl<;>first | exact hf.elim | exact h1.elim | skip
  ·exact ⟨.none,H1,rfl,S2,h1⟩
  ·exact ⟨_,H1,hf,S2,h1⟩
 ·obtain ⟨m1,ea,cls,xn,H1,rfl,hxn,hex,hX⟩:=h1
  exact ExS.leaves F rfl F' S hmc hex fun h' hx'=>⟨ea,cls,xn,H1,rfl,hxn,hx',hX⟩
theorem clo_okE0 (F:Fk C) (hl:0<C.lv) {a:Addr} {fd:FuncData} {scope:Scope} {cl:List (Str×Addr)} {qual:Str} {cd:Value} {ps:List Str} {ks:List Nat} {frees:Loc} {body:Expr}
  (D:CloAt C a fd scope cl qual cd) (Pl:PlainC fd scope ps ks) (Fr:Frees C scope cl frees) (hbd:fd.body = .expr body) {sp:Spec}
  (hb:∀ xs H Q X,sp xs H Q X→xs.length=ps.length∧∀ L mc,let C':=calleeC C mc (envX qual scope L a cd cl)
   Fk1 C'→Cl1 C'→∃ g,CkN C' g∧wE body g (ks.zip xs++frees) H Q X) :
  ∀ P m H s vs xs Q X,St C P m H s→VRs C.mg vs xs→sp xs H Q X→wpN (Md C) C.A (call (.ref a) vs) (Res C P m Q) (XP C P m X) s:=by
 obtain ⟨o,ho,hd⟩:=D.obj
 intro P m H s vs xs Q X S hv hs
 obtain ⟨hlen,hb⟩:=hb xs H Q X hs
 obtain ⟨mc,hmc⟩:=S.ns
 have hvl:vs.length=ps.length:=by rw [hv.len];exact hlen
 have hpz:(ps.zip vs).map (·.1)=ps:=List.map_fst_zip (by simp [*])
 refine nCall (cFunctionE (by have:=F.depth;lia) (S.base a o ho) hd (by rw [D.scopeE];exact Pl.co) (by rw [D.scopeE];exact Pl.gen) hbd (by rw [D.cdE,D.qualE];exact D.code _ S.base) ?_)
 rw [Pl.bind vs hvl,D.scopeE,D.globals,D.closure,D.qualE,D.cdE,D.builtins]
 refine wpAny_pure (wpAny_newFunctionEnv Pl.nocell (fun x hx=>Pl.kinds x.1 (by rw [← hpz];exact List.mem_map_of_mem hx)) (fun h₁ hns hsb=>?_) Pl.kind)
 have hk₁:∀ b o,s.heap.get? b=some o→h₁.get? b=some o:=fun b o e=>hsb.extBut b o (Nat.ne_of_lt (Heap.lt_size e)) (Heap.get?_push_of_some _ e)
 refine ⟨(D.nolimit _ S.base).keeps hk₁,cFuncE ?_⟩
 obtain F':=F.callee hl (mc:=mc) (env':=envX qual scope s.heap.objs.size a cd cl) Pl.kind rfl
 obtain S':=clo_St (qual:=qual) (cd:=cd) (a:=a) (tk:=s.toks+(ps.zip vs).length) Pl Fr S hv hvl hmc.1 hns hk₁
 obtain ⟨g,K,hw⟩:=hb s.heap.objs.size mc ⟨F',⟨C.stk,rfl⟩,rfl⟩ (clo_Cl1 Pl)
 refine nMono ((wE_okN body K S').1 _ _ hw) (fun v s1 h1=>?_) fun e s1 h1=>?_
 ·obtain ⟨z,H1,hv1,S1,h1⟩:=h1
  exact ⟨z,H1,hv1,S.back hmc S1,h1⟩
 ·obtain ⟨ea,cls,xn,H1,rfl,hxn,hex,hX⟩:=h1
  exact ExS.leaves F rfl F' S hmc hex fun h' hx'=>⟨ea,cls,xn,H1,rfl,hxn,hx',hX⟩
theorem clo_ok (F:Fk C) (hl:0<C.lv) {a:Addr} {fd:FuncData} {scope:Scope} {cl:List (Str×Addr)} {qual:Str} {cd:Value} {ps:List Str} {ks:List Nat} {frees:Loc} {body:List Stmt}
  (D:CloAt C a fd scope cl qual cd) (Pl:PlainC fd scope ps ks) (Fr:Frees C scope cl frees) (hbd:fd.body = .stmts body) {sp:Spec}
  (hb:∀ C0,Like C C0→∀ xs H Q X,sp xs H Q X→xs.length=ps.length∧∀ L mc P',let C':=calleeC C0 mc (envX qual scope L a cd cl)
   Fk1 C'→Cl1 C'→WSN C' P' (ks.zip xs++frees) H body (retQ Q) (retX X)):FnN C (.ref a) sp:=by
 obtain ⟨o,ho,hd⟩:=D.obj
 refine ⟨⟨a,o,_,rfl,hd,ho⟩,fun C0 hC0=>?_⟩
 obtain F:=F.like hC0
 obtain hb:=hb C0 hC0
 obtain ⟨⟨e0,f0,w0,rfl⟩,_⟩:=hC0
 exact clo_ok0 (C:={ C with env:=e0,fs:=f0,wr:=w0 }) F hl (fd:=fd) (scope:=scope) (cl:=cl) (frees:=frees) (body:=body) ⟨D.obj,D.scopeE,D.globals,D.closure,D.qualE,D.cdE,D.builtins,D.code,D.nolimit⟩ Pl ⟨Fr.at'⟩ hbd hb
theorem clo_okE (F:Fk C) (hl:0<C.lv) {a:Addr} {fd:FuncData} {scope:Scope} {cl:List (Str×Addr)} {qual:Str} {cd:Value} {ps:List Str} {ks:List Nat} {frees:Loc} {body:Expr}
  (D:CloAt C a fd scope cl qual cd) (Pl:PlainC fd scope ps ks) (Fr:Frees C scope cl frees) (hbd:fd.body = .expr body) {sp:Spec}
  (hb:∀ C0,Like C C0→∀ xs H Q X,sp xs H Q X→xs.length=ps.length∧∀ L mc,let C':=calleeC C0 mc (envX qual scope L a cd cl)
   Fk1 C'→Cl1 C'→∃ g,CkN C' g∧wE body g (ks.zip xs++frees) H Q X):FnN C (.ref a) sp:=by
 obtain ⟨o,ho,hd⟩:=D.obj
 refine ⟨⟨a,o,_,rfl,hd,ho⟩,fun C0 hC0=>?_⟩
 obtain F:=F.like hC0
 obtain hb:=hb C0 hC0
 obtain ⟨⟨e0,f0,w0,rfl⟩,_⟩:=hC0
 exact clo_okE0 (C:={ C with env:=e0,fs:=f0,wr:=w0 }) F hl (fd:=fd) (scope:=scope) (cl:=cl) (frees:=frees) (body:=body) ⟨D.obj,D.scopeE,D.globals,D.closure,D.qualE,D.cdE,D.builtins,D.code,D.nolimit⟩ Pl ⟨Fr.at'⟩ hbd hb
theorem t_assignL (K:CkN C g) {x:Str} {k:Nat} {p pos:Pos} {e:Expr} {Q:QS} {X:XSt} (hk:nmc x=some k) (hl:g.kinds.lookup k=some .local)
  (h:wE e g m H (fun v H1=>Q .next ((k,v)::m) H1) (fun xn H1=>X xn m H1))
  (hs:swapsWith e (some (.Name x p)) pos.line C.env=pure false:=by rfl):W1N C P m H (.Assign [.Name x p] e pos) Q X:=fun s S=>by
 refine nAssign (nMono ((wE_okN e K S).1 _ _ h) (fun v s1 h1=>?_) fun _ _ x=>XS_of x) hs
 obtain ⟨z,H1,hv,S1,h1⟩:=h1
 exact nOf (store_loc (g:=g.bare) K.base S1 hk hl hv fun s' S'=>⟨.next,_,H1,trivial,S',h1⟩)
theorem CkN.frz (K:CkN C g) (hbase:∀ b o,C.base b=some o→s.heap.get? b=some o) {as:List Addr} {gam:Nat→Option Spec} {fnv:Addr→Option Spec}
  (hgam:∀ x k sp u,nmc x=some k→gam k=some sp→C.mg x=some u→FnN (frzC C as s.heap) u sp) (hfnv:∀ a sp,fnv a=some sp→FnN (frzC C as s.heap) (.ref a) sp) :
  CkN (frzC C as s.heap) { g with gam:=gam,fnv:=fnv } where
 base:={
  kind:=K.base.kind
  globals:=K.base.globals
  builtins:=K.base.builtins
  handled:=K.base.handled
  units:=K.base.units
  kinds:=K.base.kinds
  plain:=K.base.plain
  globs:=fun x k v hx hk h hb=>K.base.globs x k v hx hk h fun b o e=>hb b o (frzB_sub hbase e)
  forms:=fun a n h C' hC' P m H s' S Q E hQ=>by
   obtain ⟨⟨e,f,w,rfl⟩,hsub⟩:=hC'
   have S0:St { C with env:=e,fs:=f,wr:=w } P m H s':=⟨fun b o q=>S.pbase b o (frzB_sub hbase q),S.keep,S.objs,S.pL,S.ns,S.own,S.cells,S.fs,S.gens,S.os⟩
   exact K.base.forms a n h { C with env:=e,fs:=f,wr:=w } ⟨⟨e,f,w,rfl⟩,hsub⟩ P m H s' S0 Q E fun t s2 S2=>hQ t s2 ⟨S.pbase,S2.keep,S2.objs,S2.pL,S2.ns,S2.own,S2.cells,S2.fs,S2.gens,S2.os⟩ }
 gam:=hgam
 fnv:=hfnv
theorem Fk.frz (F:Fk C) {as:List Addr} {h:Heap}:Fk (frzC C as h):=⟨F.frames,F.stk,F.depth,F.units,F.handled⟩
theorem Fk1.frz (F:Fk1 C) {as:List Addr} {h:Heap}:Fk1 (frzC C as h):=⟨F.fk.frz,F.top,F.frame⟩
end DL
end
section
namespace DL
variable {C:Cx} {sha:Addr} {fm:Addr→Option Int}
theorem blt_irrefl:∀ a:List UInt8,bltB a a=false
 | []=>rfl
 | x::r=>by rw [bltB,if_pos rfl];exact blt_irrefl r
theorem blt_asymm:∀ {a b:List UInt8},bltB a b=true→bltB b a=false
 | [],[],h=>by cases h
 | [],_::_,_=>rfl
 | _::_,[],h=>by cases h
 | x::r,y::t,h=>by
  rw [bltB] at h ⊢
  by_cases e:x=y
  ·rw [if_pos e] at h;rw [if_pos e.symm];exact blt_asymm h
  ·rw [if_neg e] at h;rw [if_neg fun q=>e q.symm]
   simp only [decide_eq_true_eq,decide_eq_false_iff_not] at h ⊢;lia
theorem blt_eq:∀ {a b:List UInt8},bltB a b=false→bltB b a=false→a=b
 | [],[],_,_=>rfl
 | [],_::_,h,_=>by cases h
 | _::_,[],_,h=>by cases h
 | x::r,y::t,h,h'=>by
  rw [bltB] at h h'
  by_cases e:x=y
  ·rw [if_pos e] at h;rw [if_pos e.symm] at h';rw [e,blt_eq h h']
  ·rw [if_neg e] at h;rw [if_neg fun q=>e q.symm] at h'
   simp only [decide_eq_false_iff_not] at h h'
   exact absurd (UInt8.toNat_inj.mp (by lia)) e
theorem blt_trans:∀ {a b c:List UInt8},bltB a b=true→bltB b c=true→bltB a c=true
 | [],[],_,h,_=>by cases h
 | _,_::_,[],_,h=>by cases h
 | _::_,[],_,h,_=>by cases h
 | [],_::_,_::_,_,_=>rfl
 | x::r,y::t,z::u,h,h'=>by
  rw [bltB] at h h' ⊢
  by_cases e:x=y
  ·rw [if_pos e] at h
   subst e
   by_cases e2:x=z
   ·rw [if_pos e2] at h' ⊢;exact blt_trans h h'
   ·rw [if_neg e2] at h' ⊢;exact h'
  ·rw [if_neg e] at h
   by_cases e2:y=z
   ·subst e2;rw [if_neg e];exact h
   ·rw [if_neg e2] at h'
    simp only [decide_eq_true_eq] at h h'
    rw [if_neg fun q=>by rw [q] at h;lia]
    simp only [decide_eq_true_eq];lia
theorem blt_le {a b c:List UInt8} (h:bltB b a=false) (h':bltB b c=true):bltB a c=true:=by
 cases q:bltB a b with
 | true=>exact blt_trans q h'
 | false=>rw [blt_eq q h];exact h'
theorem blt_le' {a b c:List UInt8} (h:bltB c b=false) (h':bltB a b=true):bltB a c=true:=by
 cases q:bltB b c with
 | true=>exact blt_trans h' q
 | false=>rw [← blt_eq q h];exact h'
theorem blt_ne {a b:List UInt8} (h:bltB a b=true):a≠b:=fun e=>by rw [e,blt_irrefl] at h;cases h
noncomputable def bsOk (sp:Spec) (nm:Int→List UInt8) (lo hi:Int) (I:List Int→Hp→Prop):Prop:=∀ (i:Int) (l:List Int) (H:Hp) (Q:QE) (X:XE),lo≤i→i≤hi→l.length≤5000→I l H→(∀ H',I (l++[i]) H'→Q (.bytes (nm i)) H')→sp [.int i] H Q X
noncomputable def spBisect (a:Addr) (sp:Spec):Spec:=fun xs H Q X=>∃ (lo hi:Int) (key:List UInt8) (nm:Int→List UInt8) (I:List Int→Hp→Prop),xs=[.int lo,.int hi,.bytes key,.ref a]∧(hi<lo→X .assertion H) ∧
 (lo≤hi→hi-lo≤1000∧I [] H∧bsOk sp nm lo hi I∧(∀ i j,lo≤i→i≤j→j≤hi→bltB (nm j) (nm i)=false) ∧
  ∀ H' l,I l H'→(∀ p∈l,lo≤p∧p≤hi)→2^l.length≤2*(hi+1-lo)→(∀ i,lo≤i→i≤hi→nm i=key→Q (.int i) H')∧((∀ i,lo≤i→i≤hi→nm i≠key)→Q .none H'))
noncomputable def invBis (a:Addr) (key:List UInt8) (nm:Int→List UInt8) (lo hi:Int) (I:List Int→Hp→Prop) (n:Nat) (m:Loc) (H1:Hp):Prop :=
 ∃ (s e:Int) (l:List Int),m=[(46,.int e),(99,.int s),(93,.bytes key),(107,.ref a)]∧n=(e+1-s).toNat∧lo≤s∧e≤hi∧s≤e+1∧I l H1∧(∀ p∈l,lo≤p∧p≤hi) ∧
  2^l.length≤2*(hi+1-lo)∧2^l.length*(e+1-s)≤hi+1-lo∧(∀ j,lo≤j→j<s→bltB (nm j) key=true)∧(∀ j,e<j→j≤hi→bltB key (nm j)=true)
theorem F_bisect (W:Wd C sha fm) (F:Fk C) (hl:0<C.lv) (a:Addr) (sp:Spec) (hfn:∀ C',(C'.w=C.w∧C'.prog=C.prog∧C'.mg=C.mg∧C'.base=C.base)→Wd C' sha fm→Fk C'→C'.lv=C.lv-1→FnN C' (.ref a) sp) :
  ∀ x,x=fdName 7→∀ u,C.mg x=some u→FnN C u (spBisect a sp) :=
 fn_ok2 W F (by omega) (by decide) sc_7 pl_7 [] (by simp) (fun xs H Q X h=>by
  obtain ⟨lo,hi,key,nm,I,rfl,hX,hQ⟩:=h
  refine ⟨rfl,fun C0 mc L a0 cd P hC0 hcd K0 F1 L1=>?_⟩
  obtain u0:=()
  revert W F hl hfn hX hQ hC0 hcd K0 F1 L1
  k_call_by "e" [C,sha,fm,a,sp,H,Q,X,lo,hi,key,nm,I,C0,mc,L,a0,cd,P,u0]
  have K:CkN (ctx 7 C0 mc L a0 cd) { gOf 7 sha fm [] with fnv:=fun b=>if b=a then some sp else none }:={
   base:=K0.base
   gam:=K0.gam
   fnv:=fun b sp' h=>by
    change (if b=a then some sp else none)=some sp' at h
    split at h
    ·rename_i e;subst e;cases h
     exact hfn _ (by obtain ⟨⟨e,f,w,rfl⟩,_⟩:=hC0;exact ⟨rfl,rfl,rfl,rfl⟩) (W.ctx hC0) F1.fk (lv_ctx hC0)
    ·cases h }
  refine t_cons ?_
  refine t_assert K rfl ?_
  k_call_by "x" []
  by_cases hle:lo≤hi
  ·rw [if_pos (by simpa using hle)]
   obtain ⟨h1000,hI,hsp,hs,hQ⟩:=hQ hle
   refine t_cons ?_
   refine t_while K F1 (invBis a key nm lo hi I) ?_ ?_
   ·refine ⟨_,[(46,.int hi),(99,.int lo),(93,.bytes key),(107,.ref a)],?_,lo,hi,[],rfl,rfl,by simp,by simp,by lia,hI,by simp,?_,?_,fun j _ _=>by lia,fun j _ _=>by lia⟩
    ·k_call_by "s" []
    ·simp;lia
    ·simp
   ·rintro n m1 H1 ⟨s,e,l,rfl,rfl,hs1,he1,hse,hIl,hin,h2,h3,hL,hR⟩
    k_call_by "x" []
    by_cases hcond:s≤e
    ·have hcond':=eq_true hcond
     k_call_by "x" [hcond']
     refine t_cons ?_
     refine t_assign K L1 ⟨nm_i,.inl (by rw [g_kinds,kd_7];rfl)⟩ ?_
     k_call_by "x" []
     refine ⟨lt_DIV (by decide),?_⟩
     refine t_cons ?_
     refine t_assign K L1 ⟨nm_file_sha,.inl (by rw [g_kinds,kd_7];rfl)⟩ ?_
     k_call_by "x" []
     have hmid1:s≤(s+e)/2:=(Int.le_ediv_iff_mul_le (by decide)).mpr (by show _*(1+1:Int)≤_;rw [Int.mul_add,Int.mul_one];exact Int.add_le_add_left hcond s)
     have hmid2:(s+e)/2≤e:=Int.ediv_le_of_le_mul (by decide) (by show _≤_*(1+1:Int);rw [Int.mul_add,Int.mul_one];exact Int.add_le_add_right hcond e)
     have hmid3:((s+e)/2=(s+e)/2):=rfl
     have hm4:2*((s+e)/2)≤s+e∧s+e≤2*((s+e)/2)+1:=⟨Int.mul_ediv_self_le (by decide),Int.le_of_lt_add_one (by rw [Int.add_assoc];exact Int.lt_mul_ediv_self_add (by decide))⟩
     generalize (s+e)/2=mid at hmid1 hmid2 hm4
     have hl5:l.length≤5000:=by
      have h7:=Nat.lt_two_pow_self (n:=l.length)
      have h8:((2^l.length:Nat):Int)≤2*(hi+1-lo):=by simpa using h2
      have h9:hi+1-lo≤1001:=Int.sub_left_le_of_le_add (by rw [show (1001:Int)=1000+1 from rfl,← Int.add_assoc];exact Int.add_le_add_right (Int.le_add_of_sub_left_le h1000) 1)
      exact Nat.le_of_lt (Nat.lt_of_lt_of_le h7 (Int.ofNat_le.mp (Int.le_trans h8 (Int.le_trans (Int.mul_le_mul_of_nonneg_left h9 (by decide)) (by decide)))))
     refine hsp mid l _ _ _ (Int.le_trans hs1 hmid1) (Int.le_trans hmid2 he1) hl5 hIl fun H2 hI2=>?_
     have hin2:∀ p∈l++[mid],lo≤p∧p≤hi:=fun p hp=>by
      rcases List.mem_append.mp hp with hp | hp
      ·exact hin p hp
      ·rw [List.mem_singleton] at hp;subst hp;exact ⟨Int.le_trans hs1 hmid1,Int.le_trans hmid2 he1⟩
     have hpos:(1:Int)≤2^l.length:=by have:=Nat.one_le_two_pow (n:=l.length);exact_mod_cast this
     have h22:(2:Int)^(l++[mid]).length≤2*(hi+1-lo):=by
      rw [List.length_append,List.length_singleton,Int.pow_succ]
      have:(2:Int)^l.length*1≤2^l.length*(e+1-s):=Int.mul_le_mul_of_nonneg_left (Int.le_sub_left_of_add_le (Int.add_le_add_right hcond 1)) (Int.pow_nonneg (by decide))
      rw [Int.mul_comm];rw [Int.mul_one] at this;exact Int.mul_le_mul_of_nonneg_left (Int.le_trans this h3) (by decide)
     have h33:∀ c:Int,2*c≤e+1-s→(2:Int)^(l++[mid]).length*c≤hi+1-lo:=fun c hc=>by
      rw [List.length_append,List.length_singleton,Int.pow_succ,Int.mul_assoc]
      have:(2:Int)^l.length*(2*c)≤2^l.length*(e+1-s):=Int.mul_le_mul_of_nonneg_left hc (Int.pow_nonneg (by decide))
      exact Int.le_trans this h3
     refine t_cons ?_
     refine t_if K ?_
     k_call_by "x" []
     cases hb1:bltB (nm mid) key with
     | true =>
      k_call_by "x" []
      refine t_cons ?_
      refine t_assign K L1 ⟨nm_start,.inl (by rw [g_kinds,kd_7];rfl)⟩ ?_
      k_call_by "x" []
      refine t_nil ?_
      k_call_by "x" []
      refine t_nil ?_
      k_call_by "x" []
      refine ⟨(e+1-(mid+1)).toNat,(Int.toNat_lt_toNat (Int.sub_pos_of_lt (Int.lt_add_one_of_le hcond))).mpr (Int.sub_lt_sub_left (Int.lt_add_one_of_le hmid1) _),[(46,.int e),(99,.int (mid+1)),(93,.bytes key),(107,.ref a)],?_,mid+1,e,l++[mid],rfl,rfl,Int.le_of_lt (Int.lt_add_one_of_le (Int.le_trans hs1 hmid1)),he1,Int.add_le_add_right hmid2 1,hI2,hin2,h22,h33 _ (by lia),fun j h4 h5=>?_,hR⟩
      ·k_call_by "s" []
      ·exact blt_le (hs j mid h4 (Int.le_of_lt_add_one h5) (Int.le_trans hmid2 he1)) hb1
     | false =>
      k_call_by "x" []
      refine t_cons ?_
      refine t_if K ?_
      k_call_by "x" []
      cases hb2:bltB key (nm mid) with
      | true =>
       k_call_by "x" []
       refine t_cons ?_
       refine t_assign K L1 ⟨nm_end,.inl (by rw [g_kinds,kd_7];rfl)⟩ ?_
       k_call_by "x" []
       refine t_nil ?_
       k_call_by "x" []
       refine t_nil ?_
       k_call_by "x" []
       refine t_nil ?_
       k_call_by "x" []
       refine ⟨(mid-1+1-s).toNat,(Int.toNat_lt_toNat (Int.sub_pos_of_lt (Int.lt_add_one_of_le hcond))).mpr (by rw [Int.sub_add_cancel];exact Int.sub_lt_sub_right (Int.lt_add_one_of_le hmid2) s),[(46,.int (mid-1)),(99,.int s),(93,.bytes key),(107,.ref a)],?_,s,mid-1,l++[mid],rfl,rfl,hs1,Int.le_trans (Int.sub_le_self _ (by decide)) (Int.le_trans hmid2 he1),by rw [Int.sub_add_cancel];exact hmid1,hI2,hin2,h22,h33 _ (by lia),hL,fun j h4 h5=>?_⟩
       ·k_call_by "s" []
       ·exact blt_le' (hs mid j (Int.le_trans hs1 hmid1) (Int.le_of_sub_one_lt h4) h5) hb2
      | false =>
       k_call_by "x" []
       refine t_cons ?_
       refine t_return K ?_
       k_call_by "x" []
       exact (hQ H2 _ hI2 hin2 h22).1 mid (Int.le_trans hs1 hmid1) (Int.le_trans hmid2 he1) (blt_eq hb1 hb2)
    ·have hcond':=eq_false hcond
     k_call_by "x" [hcond']
     refine t_cons ?_
     refine t_return K ?_
     k_call_by "x" []
     obtain ⟨_,hN⟩:=hQ H1 l hIl hin h2
     refine hN fun i h4 h5=>?_
     by_cases h6:i<s
     ·exact blt_ne (hL i h4 h6)
     ·exact (blt_ne (hR i (by lia) h5)).symm
  ·rw [if_neg (by simpa using hle)]
   exact hX (by exact Int.not_le.mp ‹_›))
end DL
end
section
namespace DL
variable {C:Cx} {g:Ge} {P:Kp} {m:Loc} {H:Hp} {s:Shared}
structure TabF (mg:MG) (base:Kp) (cd:Value) (T:Addr):Prop where
 code:∃ c,cd = .ref c∧∀ h:Heap,(∀ b o,base b=some o→h.get? b=some o)→CodeHd h c T
 bmain:∃ bm ob,mg "__builtins__" = some (.ref bm)∧bm≠builtinsNs∧base bm=some ob∧ob.cls = .type "module" ∧ ob.dict=some builtinsNs∧ob.data = .plain
noncomputable abbrev tab1 (pos:Pos) (c':Addr):O:=.raw (tabObj #[rawInt pos.line,rawInt pos.col,.ref c'])
noncomputable def tabI (T:Addr) (pos:Pos) (qual:Str) (H:Hp):Prop:=H T=some (.raw (tabObj #[])) ∨
 ∃ c' oc vs t,c'≠T∧H T=some (tab1 pos c')∧H c'=some (.raw oc)∧oc.data = .fields vs∧vs[1]?=some (.str qual t)
noncomputable abbrev fdOf (name qual:Str) (params:Arguments) (fb:FuncBody) (scope:Scope) (clos:List (Str×Addr)) (d pm:Value) (c':Addr) (ct:Value):FuncData :=
 { name,qualname:=qual,params,body:=fb,scope,globals:=mainGlobals,closure:=clos,defaults:=.none,kwdefaults:=.none,doc:=d,pyModule:=pm,annotations:=none,code:=.ref c',closureTuple:=ct,builtins:=builtinsNs }
noncomputable abbrev fobj (fd:FuncData):Obj:={ cls:=.type "function",data:=.func fd }
noncomputable def tabH (H:Hp) (T:Addr) (pos:Pos) (c':Addr):Hp:=upd (del H c') T (tab1 pos c')
theorem St.tabStep {T:Addr} {ps ps':Array Value} (S:St C P m H s) (hT:H T=some (.raw (tabObj ps))) {h2:Heap} {tk:Tok} (hx:Heap.ExtBut T s.heap h2) (htb:h2.get? T=some (tabObj ps')) :
  St C P m (upd H T (.raw (tabObj ps'))) { s with heap:=h2,toks:=tk }:=by
 revert S hT hx htb
 k_call_by "e" [C,P,m,H,s,T,ps,ps',h2,tk]
 obtain ⟨hPT,ob,hob,e,_⟩:=S.objs T _ hT
 subst e
 have neNs:∀ {L:Addr} {mc:Str→Option Value},s.heap.Ns L mc→L≠T:=fun x q=>by
  obtain ⟨o,es,ep,e,hd,_⟩:=x
  rw [q,hob] at e;cases e;cases hd
 have neCell:∀ {b:Addr} {v:Option Value},s.heap.IsCell b v→b≠T:=fun x q=>by
  obtain ⟨o,e,hd⟩:=x
  rw [q,hob] at e;cases e;cases hd
 exact {
  pbase:=S.pbase
  keep:=fun b o e=>hx b o (fun q=>by rw [q,hPT] at e;cases e) (S.keep b o e)
  objs:=fun a o e=>by
   unfold upd at e
   split at e
   ·rename_i q;subst q;cases e
    exact ⟨hPT,_,htb,rfl,(fun es n h=>by cases h),(fun v h=>by cases h)⟩
   ·rename_i q
    obtain ⟨h1,ob,h2,h3⟩:=S.objs a o e
    exact ⟨h1,ob,hx a ob q h2,h3⟩
  pL:=S.pL
  ns:=by
   obtain ⟨mc,h1,h2⟩:=S.ns
   exact ⟨mc,h1.extBut hx (neNs h1),h2⟩
  own:=fun hw x a h1 h2=>by
   obtain ⟨h3,c,h4⟩:=S.own hw x a h1 h2
   obtain ⟨o,h5,h6⟩:=h4
   exact ⟨h3,c,o,hx a o (neCell ⟨o,h5,h6⟩) h5,h6⟩
  cells:=fun x k v h1 h2 h3=>by
   obtain ⟨a,u,h4,h5,h6⟩:=S.cells x k v h1 h2 h3
   obtain ⟨o,h7,h8⟩:=h5
   exact ⟨a,u,h4,⟨o,hx a o (neCell ⟨o,h7,h8⟩) h7,h8⟩,h6⟩
  fs:=fun f hf=>by
   obtain ⟨h1,h2,h3⟩:=S.fs f hf
   exact ⟨h1.extBut hx (neNs h1),h2,h3⟩
  gens:=S.gens
  os:=S.os }
theorem tabH_ext {T c':Addr} {pos:Pos}:Ext (tabH H T pos c') (upd H T (tab1 pos c')):=fun a o e=>by
 unfold tabH upd del at *
 split at e
 ·rename_i q;rw [if_pos q];exact e
 ·rename_i q
  rw [if_neg q]
  split at e
  ·cases e
  ·exact e
noncomputable def MadeQ (C:Cx) (P:Kp) (m:Loc) (H:Hp) (T:Addr) (name qual:Str) (params:Arguments) (fb:FuncBody) (scope:Scope) (clos:List (Str×Addr)) (pos:Pos):Value→Shared→Prop:=fun v s' =>
 ∃ f c' oc vs t d pm ct,v = .ref f∧f≠c'∧f≠T∧c'≠T∧H f=none∧P f=none∧P c'=none∧(f≠C.env.locals∧∀ q∈C.fs,q.1≠f)∧(c'≠C.env.locals∧∀ q∈C.fs,q.1≠c') ∧
  s'.heap.get? f=some (fobj (fdOf name qual params fb scope clos d pm c' ct))∧s'.heap.get? c'=some oc∧oc.data = .fields vs∧vs[1]?=some (.str qual t)∧(H c'=none∨H c'=some (.raw oc))∧St C P m (tabH H T pos c') s'
theorem make_ok (S:St C P m H s) {T:Addr} {pos:Pos} {name qual:Str} {params:Arguments} {fb:FuncBody} {scope:Scope} {clos:List (Str×Addr)} {line:Nat} {E:Value→Shared→Prop}
  (hns:∀ h:Heap,(∀ b o,C.base b=some o→h.get? b=some o)→h.Ns mainGlobals C.mg) (tf:TabF C.mg C.base C.env.code T) (hge:C.env.globals=mainGlobals) (hcl:closureFor scope C.env=pure clos) (hI:tabI T pos qual H) (hdoc:∀ e,fb = .expr e→True) :
  wpAny (Md C) C.A (makeFunction name qual params fb scope C.env [] [] [] pos line) (MadeQ C P m H T name qual params fb scope clos pos) E s:=by
 obtain u0:=()
 revert S hns tf hge hcl hI hdoc
 k_call_by "e" [C,P,m,H,s,T,pos,name,qual,params,fb,scope,clos,line,E,u0]
 obtain ⟨c,hc,hcode⟩:=tf.code
 obtain u90:=()
 revert hc hcode
 k_call_by "e" [c,u90]
 obtain hCH:=hcode s.heap S.base
 obtain ⟨bm,ob,b1,b2,b3,b4,b5,b6⟩:=tf.bmain
 obtain hgs:=hns s.heap S.base
 obtain ⟨ps,hT,hps⟩:∃ ps,H T=some (.raw (tabObj ps))∧s.heap.get? T=some (tabObj ps):=by
  have h:∃ ps,H T=some (.raw (tabObj ps)):=by
   rcases hI with h | ⟨_,_,_,_,_,h,_⟩
   ·exact ⟨_,h⟩
   ·exact ⟨_,h⟩
  obtain ⟨ps,h⟩:=h
  obtain ⟨_,o,h1,h2,_⟩:=S.objs T _ h
  subst h2
  exact ⟨ps,h,h1⟩
 have hgP:mainGlobals≠T:=fun q=>by
  obtain ⟨o,es,ep,e,hd,_⟩:=hgs
  rw [q,hps] at e;cases e;cases hd
 have hbP:bm≠T:=fun q=>by
  obtain e:=S.base _ _ b3
  rw [q,hps] at e;cases e;cases b4
 have hbG:bm≠mainGlobals:=fun q=>by
  obtain ⟨o,es,ep,e,hd,_⟩:=hgs
  rw [← q,S.base _ _ b3] at e;cases e;rw [hd] at b6;cases b6
 have hBA:s.heap.BuiltinsAt C.mg T:=⟨bm,ob,b1,b2,hbG,hbP,S.base _ _ b3,b4,b5,b6⟩
 have fresh:∀ b,s.heap.objs.size≤b→s.heap.get? b=none:=fun b hb=>by
  cases q:s.heap.get? b with
  | none=>rfl
  | some o=>exact absurd (Heap.lt_size q) (Nat.not_lt.mpr hb)
 have hPn:∀ b,s.heap.objs.size≤b→P b=none:=fun b hb=>by
  cases q:P b with
  | none=>rfl
  | some o=>have:=S.keep b o q;rw [fresh b hb] at this;cases this
 have hHn:∀ b,s.heap.objs.size≤b→H b=none:=fun b hb=>by
  cases q:H b with
  | none=>rfl
  | some o=>obtain ⟨_,ob,h1,_⟩:=S.objs b o q;rw [fresh b hb] at h1;cases h1
 have hfr:∀ b,s.heap.objs.size≤b→b≠C.env.locals∧∀ q∈C.fs,q.1≠b:=fun b hb=>by
  obtain ⟨mc,h1,_⟩:=S.ns
  refine ⟨fun e=>?_,fun q hq e=>?_⟩
  ·have:=h1.lt;rw [← e] at this;exact Nat.lt_irrefl _ (Nat.lt_of_lt_of_le this hb)
  ·have:=(S.fs q hq).1.lt;rw [e] at this;exact Nat.lt_irrefl _ (Nat.lt_of_lt_of_le this hb)
 have hTs:T<s.heap.objs.size:=Heap.lt_size hps
 have miss:ps=#[]→∀ (c':Addr) (ctv d:Value) (h':Heap) (tk:Tok),Heap.ExtBut T s.heap h'→s.heap.objs.size≤c'→c'<h'.objs.size→h'.CodeRec (.ref c') qual→h'.get? T=some (tabObj (#[]++#[rawInt pos.line,rawInt pos.col,.ref c'])) →
   MadeQ C P m H T name qual params fb scope clos pos (.ref h'.objs.size) { s with heap:=h'.push (fobj (fdOf name qual params fb scope clos d ((C.mg "__name__").getD .none) c' ctv)),toks:=tk }:=fun hp c' ctv d h' tk hx hge1 hlt hrec htb=>by
  subst hp
  obtain ⟨c₂,oc,vs,t,e2,hoc,hd,hv⟩:=hrec
  revert b1 b2 b3 b4 b5 b6 hbP hbG hx hge1 hlt htb e2 hoc hd hv
  k_call_by "e" [bm,ob,c',ctv,d,h',tk,c₂,oc,vs,t]
  cases e2
  have hx':Heap.ExtBut T s.heap (h'.push (fobj (fdOf name qual params fb scope clos d ((C.mg "__name__").getD .none) c' ctv))):=fun b o hb e=>Heap.get?_push_of_some _ (hx b o hb e)
  obtain S':=S.tabStep (tk:=tk) hT hx' (Heap.get?_push_of_some _ htb)
  have hTc:T<c':=Nat.lt_of_lt_of_le hTs hge1
  have hsz:s.heap.objs.size≤h'.objs.size:=Nat.le_of_lt (Nat.lt_of_le_of_lt hge1 hlt)
  refine ⟨h'.objs.size,c',oc,vs,t,d,_,ctv,rfl,Nat.ne_of_gt hlt,Nat.ne_of_gt (Nat.lt_trans hTc hlt),Nat.ne_of_gt hTc,hHn _ hsz,hPn _ hsz,hPn _ hge1,hfr _ hsz,hfr _ hge1,Heap.get?_push_size _ rfl,Heap.get?_push_of_some _ hoc,hd,hv,.inl (hHn _ hge1),?_⟩
  exact S'.weak (fun _ _ h=>h) tabH_ext
 have hit:∀ (c':Addr) (oc:Obj) (vs:Array Value) (t:Tok),c'≠T→H T=some (tab1 pos c')→H c'=some (.raw oc)→oc.data = .fields vs→vs[1]?=some (.str qual t)→∀ (ctv d:Value) (h':Heap) (tk:Tok),(∀ b o,s.heap.get? b=some o→h'.get? b=some o)→s.heap.objs.size≤h'.objs.size →
   MadeQ C P m H T name qual params fb scope clos pos (.ref h'.objs.size) { s with heap:=h'.push (fobj (fdOf name qual params fb scope clos d ((C.mg "__name__").getD .none) c' ctv)),toks:=tk }:=fun c' oc vs t hct hT2 hc2 hd hv ctv d h' tk hk hsz=>by
  obtain ⟨hPc,o,ho,e,_⟩:=S.objs c' _ hc2
  subst e
  obtain ⟨_,o2,ho2,e2,_⟩:=S.objs T _ hT2
  subst e2
  have hcs:c'<s.heap.objs.size:=Heap.lt_size ho
  have hx':Heap.ExtBut T s.heap (h'.push (fobj (fdOf name qual params fb scope clos d ((C.mg "__name__").getD .none) c' ctv))):=fun b o hb e=>Heap.get?_push_of_some _ (hk b o e)
  obtain S':=S.tabStep (tk:=tk) hT2 hx' (Heap.get?_push_of_some _ (hk _ _ ho2))
  have hnl:c'≠C.env.locals∧∀ q∈C.fs,q.1≠c':=by
   have neNs:∀ {L:Addr} {mc:Str→Option Value},s.heap.Ns L mc→L≠c':=fun x q=>by
    obtain ⟨o,es,ep,e,hd2,_⟩:=x
    rw [q,ho] at e;cases e;rw [hd] at hd2;cases hd2
   obtain ⟨mc,h1,_⟩:=S.ns
   exact ⟨(neNs h1).symm,fun q hq=>neNs (S.fs q hq).1⟩
  refine ⟨h'.objs.size,c',o,vs,t,d,_,ctv,rfl,Nat.ne_of_gt (Nat.lt_of_lt_of_le hcs hsz),Nat.ne_of_gt (Nat.lt_of_lt_of_le hTs hsz),hct,hHn _ hsz,hPn _ hsz,hPc,hfr _ hsz,hnl,Heap.get?_push_size _ rfl,Heap.get?_push_of_some _ (hk _ _ ho),hd,hv,.inr hc2,?_⟩
  exact S'.weak (fun _ _ h=>h) tabH_ext
 have amongHit:∀ c':Addr,codeAmong pos (#[rawInt pos.line,rawInt pos.col,.ref c']:Array Value).toList=some (.ref c'):=fun c'=>by
  simp [codeAmong,rawInt]
 cases fb with
 | stmts body =>
  rcases hI with h | ⟨c',oc,vs,t,h1,h2,h3,h4,h5⟩
  ·have e:ps=#[]:=by rw [h] at hT;cases hT;rfl
   subst e
   exact makeFunction_K (mg:=C.mg) hcl hge hgs hc hCH hps trivial rfl hgP hBA fun c' ctv d h' tk hx hge1 hlt hrec htb=>miss rfl c' ctv d h' tk hx hge1 hlt hrec htb
  ·have e:ps=#[rawInt pos.line,rawInt pos.col,.ref c']:=by rw [h2] at hT;cases hT;rfl
   subst e
   exact makeFunction_hit (mg:=C.mg) hcl hge hgs hc hCH hps (TriplesOk_snoc _ _ _ [] trivial) (amongHit c') hBA fun ctv d h' tk hk hsz=>hit c' oc vs t h1 h2 h3 h4 h5 ctv d h' tk hk hsz
 | expr body =>
  rcases hI with h | ⟨c',oc,vs,t,h1,h2,h3,h4,h5⟩
  ·have e:ps=#[]:=by rw [h] at hT;cases hT;rfl
   subst e
   exact kla_makeFunction (mg:=C.mg) hcl hge hgs hc hCH hps trivial rfl hgP hBA fun c' ctv h' tk hx hge1 hlt hrec htb=>miss rfl c' ctv .none h' tk hx hge1 hlt hrec htb
  ·have e:ps=#[rawInt pos.line,rawInt pos.col,.ref c']:=by rw [h2] at hT;cases hT;rfl
   subst e
   exact kla_makeFunctionHit (mg:=C.mg) hcl hge hgs hc hCH hps (TriplesOk_snoc _ _ _ [] trivial) (amongHit c') hBA fun ctv h' tk hk hsz=>hit c' oc vs t h1 h2 h3 h4 h5 ctv .none h' tk hk hsz
end DL
end
section
namespace DL
variable {C:Cx} {g:Ge} {P:Kp} {m:Loc} {H:Hp} {s:Shared}
noncomputable def cellAs (C:Cx) (cs:List Str):List Addr:=cs.filterMap fun x=>C.env.cells.lookup x
noncomputable def ExtT (T:Addr) (H H':Hp):Prop:=∀ a o,a≠T→H a=some o→H' a=some o
theorem ExtT.of {T:Addr} {H':Hp} (h:Ext H H'):ExtT T H H':=fun a o _ e=>h a o e
theorem ExtT.trans {T:Addr} {H' H'':Hp} (h:ExtT T H H') (h':ExtT T H' H''):ExtT T H H'':=fun a o n e=>h' a o n (h a o n e)
theorem tabH_T {T c':Addr} {pos:Pos}:tabH H T pos c' T=some (tab1 pos c'):=upd_same
theorem tabH_ne {T c' a:Addr} {pos:Pos} (h:a≠T) (h2:a≠c'):tabH H T pos c' a=H a:=by
 unfold tabH;rw [upd_ne h];unfold del;rw [if_neg h2]
theorem tabH_c {T c':Addr} {pos:Pos} (h:c'≠T):tabH H T pos c' c'=none:=by
 unfold tabH;rw [upd_ne h];unfold del;rw [if_pos rfl]
theorem tab_back {T c':Addr} {pos:Pos} {oc:Obj} {H2:Hp} (hc:c'≠T) (hE:Ext (tabH H T pos c') H2) (ho:H c'=none∨H c'=some (.raw oc)):ExtT T H (upd H2 c' (.raw oc)):=fun a o n e=>by
 by_cases q:a=c'
 ·subst q
  rw [upd_same]
  rcases ho with ho | ho
  ·rw [ho] at e;cases e
  ·rw [ho] at e;exact e
 ·rw [upd_ne q];exact hE a o (by rw [tabH_ne n q];exact e)
theorem tab_backI {T c':Addr} {pos:Pos} {qual:Str} {oc:Obj} {vs:Array Value} {t:Tok} {H2:Hp} (hc:c'≠T) (hE:H2 T=some (tab1 pos c')) (hd:oc.data = .fields vs) (hv:vs[1]?=some (.str qual t)):tabI T pos qual (upd H2 c' (.raw oc)) :=
 .inr ⟨c',oc,vs,t,hc,by rw [upd_ne hc.symm];exact hE,upd_same,hd,hv⟩
theorem tabI.ext {T:Addr} {pos:Pos} {qual:Str} {H':Hp} (h:tabI T pos qual H) (hE:Ext H H'):tabI T pos qual H':=by
 revert h hE
 k_call_by "e" [H,T,pos,qual,H']
 rcases h with h | ⟨c',oc,vs,t,h1,h2,h3,h4,h5⟩
 ·exact .inl (hE _ _ h)
 ·exact .inr ⟨c',oc,vs,t,h1,hE _ _ h2,hE _ _ h3,h4,h5⟩
theorem St.thaw2 {m0:Loc} {H0:Hp} {s0:Shared} (S0:St C P m0 H0 s0) {as:List Addr} (hown:C.wr=true→∀ x a,C.env.cells.lookup x=some a→C.env.kindOf x=some .cell→a∈as) {c':Addr} {oc:Obj} {vs:Array Value}
  (hc:c'∈as) (hP:P c'=none) (ho:s0.heap.get? c'=some oc) (hd:oc.data = .fields vs) (S:St (frzC C as s0.heap) (frzB P as s0.heap) m H s):St C P m (upd H c' (.raw oc)) s:=by
 have S1:=S0.thaw hown S
 exact { S1 with
  objs:=fun a o e=>by
   unfold upd at e
   split at e
   ·rename_i q;subst q;cases e
    exact ⟨hP,oc,S.keep a oc (by rw [frzB_in hc];exact ho),rfl,(fun es n h=>by rw [hd] at h;cases h),(fun v h=>by rw [hd] at h;cases h)⟩
   ·exact S1.objs a o e }
theorem cellAs_mem {cs:List Str} {b:Addr}:b∈cellAs C cs↔∃ x∈cs,C.env.cells.lookup x=some b:=by
 unfold cellAs;rw [List.mem_filterMap]
theorem pins (S:St C P m H s) (hwr:C.wr=true) {cs:List Str} (hcs:∀ x∈cs,C.env.kindOf x=some .cell) {f c':Addr} (h1:H f=none) (h2:H c'=none) (h3:f≠C.env.locals∧∀ q∈C.fs,q.1≠f) (h4:c'≠C.env.locals∧∀ q∈C.fs,q.1≠c') :
  (∀ b∈f::c'::cellAs C cs,H b=none)∧∀ b∈f::c'::cellAs C cs,b≠C.env.locals∧∀ q∈C.fs,q.1≠b:=by
 have hcell:∀ b∈cellAs C cs,∃ c o,s.heap.get? b=some o∧o.data = .cell c:=fun b hb=>by
  obtain ⟨x,hx,hb⟩:=cellAs_mem.mp hb
  obtain ⟨_,c,o,h5,h6⟩:=S.own hwr x b hb (hcs x hx)
  exact ⟨c,o,h5,h6⟩
 refine ⟨fun b hb=>?_,fun b hb=>?_⟩
 ·rcases List.mem_cons.mp hb with rfl | hb
  ·exact h1
  rcases List.mem_cons.mp hb with rfl | hb
  ·exact h2
  obtain ⟨c,o,h5,h6⟩:=hcell b hb
  cases q:H b with
  | none=>rfl
  | some y =>
   exfalso
   obtain ⟨_,ob,h7,h8⟩:=S.objs b y q
   rw [h5] at h7;cases h7
   cases y with
   | list xs=>obtain ⟨_,vs,n,rfl,_⟩:=h8;cases h6
   | ilist _ xs=>obtain ⟨_,_,vs,n,h9,_⟩:=h8;rw [h9] at h6;cases h6
   | tuple xs=>obtain ⟨_,vs,n,rfl,_⟩:=h8;cases h6
   | barr xs=>obtain ⟨_,rfl⟩:=h8;cases h6
   | raw x=>exact h8.2.2 c (h8.1▸h6)
 ·rcases List.mem_cons.mp hb with rfl | hb
  ·exact h3
  rcases List.mem_cons.mp hb with rfl | hb
  ·exact h4
  obtain ⟨c,o,h5,h6⟩:=hcell b hb
  have neNs:∀ {L:Addr} {mc:Str→Option Value},s.heap.Ns L mc→L≠b:=fun x q=>by
   obtain ⟨o2,es,ep,e,hd,_⟩:=x
   rw [q,h5] at e;cases e;rw [h6] at hd;cases hd
  obtain ⟨mc,h7,_⟩:=S.ns
  exact ⟨(neNs h7).symm,fun q hq=>neNs (S.fs q hq).1⟩
theorem pins_own {cs:List Str} (hcs:∀ x,C.env.kindOf x=some .cell→x∈cs) {f c':Addr}:C.wr=true→∀ x a,C.env.cells.lookup x=some a→C.env.kindOf x=some .cell→a∈f::c'::cellAs C cs :=
 fun _ x a h1 h2=>.tail _ (.tail _ (cellAs_mem.mpr ⟨x,hcs x h2,h1⟩))
theorem clo_frz {f c':Addr} {as:List Addr} {name qual:Str} {params:Arguments} {fb:FuncBody} {scope:Scope} {clos:List (Str×Addr)} {d pm ct:Value} {oc:Obj} {vs:Array Value} {t:Tok}
  (hf:f∈as) (hc:c'∈as) (ho:s.heap.get? f=some (fobj (fdOf name qual params fb scope clos d pm c' ct))) (hoc:s.heap.get? c'=some oc) (hd:oc.data = .fields vs) (hv:vs[1]?=some (.str qual t))
  (hnl:∀ h:Heap,(∀ b o,C.base b=some o→h.get? b=some o)→h.NoLimit) (hb:∀ b o,C.base b=some o→s.heap.get? b=some o) :
  CloAt (frzC C as s.heap) f (fdOf name qual params fb scope clos d pm c' ct) scope clos qual (.ref c') where
 obj:=⟨_,by show frzB C.base as s.heap f=_;rw [frzB_in hf];exact ho,rfl⟩
 scopeE:=rfl
 globals:=rfl
 closure:=rfl
 qualE:=rfl
 cdE:=rfl
 builtins:=rfl
 code:=fun h hh=>⟨c',oc,vs,t,rfl,hh c' oc (by show frzB C.base as s.heap c'=_;rw [frzB_in hc];exact hoc),hd,hv⟩
 nolimit:=fun h hh=>hnl h fun b o e=>hh b o (frzB_sub hb e)
theorem frees_frz (S:St C P m H s) {as:List Addr} {scope:Scope} (fs:List (Str×Nat×V))
  (hfs:∀ e∈fs,nmc e.1=some e.2.1∧scope.names.lookup e.1=some .free∧C.env.kindOf e.1=some .cell∧m.lookup e.2.1=some e.2.2)
  (has:∀ x a,C.env.cells.lookup x=some a→C.env.kindOf x=some .cell→a∈as):Frees (frzC C as s.heap) scope (closL C.env scope.names []) (fs.map (·.2)) where
 at':=fun k v hl x hx=>by
  have:∀ {l:List (Str×Nat×V)},(∀ e∈l,nmc e.1=some e.2.1∧scope.names.lookup e.1=some .free∧C.env.kindOf e.1=some .cell∧m.lookup e.2.1=some e.2.2)→(l.map (·.2)).lookup k=some v→∃ e∈l,e.2.1=k∧e.2.2=v:=fun {l}=>by
   induction l with
   | nil=>intro _ h;simp at h
   | cons e r ih =>
    intro h1 h2
    rw [List.map_cons,List.lookup_cons] at h2
    cases z:(k == e.2.1) with
    | true=>rw [z] at h2;exact ⟨e,.head _,(eq_of_beq z).symm,by simpa using h2⟩
    | false =>
     rw [z] at h2
     obtain ⟨e',h3,h4⟩:=ih (fun e he=>h1 e (.tail _ he)) h2
     exact ⟨e',.tail _ h3,h4⟩
  obtain ⟨e,he,rfl,rfl⟩:=this hfs hl
  obtain ⟨h1,h2,h3,h4⟩:=hfs e he
  obtain rfl:=nmc_inj hx h1
  refine ⟨h2,?_⟩
  obtain ⟨a,u,h5,h6,h7⟩:=S.cells _ _ _ hx h4 (.inl h3)
  obtain ⟨ob,h8,h9⟩:=h6
  refine ⟨a,ob,u,?_,?_,h9,h7⟩
  ·have:=closL_has (acc:=[]) (mem_of_lookup' h2) h5
   obtain ⟨b,hb⟩:=Option.isSome_iff_exists.mp this
   rcases closL_sub hb with h | h
   ·simp at h
   ·rw [h5] at h;cases h;exact hb
  ·show frzB C.base as s.heap a=_
   rw [frzB_in (has _ _ h5 h3)];exact h8
theorem St.pinP (S:St C P m H s) {as:List Addr} (hH:∀ b∈as,H b=none) (hF:∀ b∈as,b≠C.env.locals∧∀ f∈C.fs,f.1≠b) (hc:∀ b∈as,∀ o v,s.heap.get? b=some o→o.data≠.cell v):St C (frzB P as s.heap) m H s where
 pbase:=fun b o e=>frzB_sub S.keep (S.pbase b o e)
 keep:=fun b o e=>by
  by_cases hb:b∈as
  ·rw [frzB_in hb] at e;exact e
  ·rw [frzB_out hb] at e;exact S.keep b o e
 objs:=fun a o e=>by
  have hb:a∉as:=fun h=>by rw [hH a h] at e;cases e
  rw [frzB_out hb];exact S.objs a o e
 pL:=by rw [frzB_out fun h=>(hF _ h).1 rfl];exact S.pL
 ns:=S.ns
 own:=fun hw x a h1 h2=>by
  obtain ⟨h3,c,o,h4,h5⟩:=S.own hw x a h1 h2
  exact ⟨by rw [frzB_out fun h=>hc a h o c h4 h5];exact h3,c,o,h4,h5⟩
 cells:=S.cells
 fs:=fun f hf=>by
  obtain ⟨h1,h2,h3⟩:=S.fs f hf
  exact ⟨h1,by rw [frzB_out fun h=>(hF _ h).2 f hf rfl];exact h2,h3⟩
 gens:=S.gens
 os:=S.os
theorem t_def (K:CkN C g) {name qual:Str} {k:Nat} {params:Arguments} {body:List Stmt} {scope:Scope} {pos:Pos} {rest:List Stmt} {T:Addr} {Q:QS} {X:XSt}
  (hns:∀ h:Heap,(∀ b o,C.base b=some o→h.get? b=some o)→h.Ns mainGlobals C.mg) (tf:TabF C.mg C.base C.env.code T)
  (hk:nmc name=some k) (hl:g.kinds.lookup k=some .local) (hq:qualnameIn C.env name name=qual) (hd0:params.defaults=[]) (hk0:params.kw_defaults=[]) (ha:annTrees params none C.env=[])
  (hfree:∀ x∈scope.names,x.2 = .free→∃ a,C.env.cells.lookup x.1=some a) (hI:tabI T pos qual H)
  (h:∀ (s1:Shared) (f c':Addr) (oc:Obj) (vs:Array Value) (t:Tok) (d pm ct:Value),f≠c'→f≠T→c'≠T→H f=none→P f=none→P c'=none→(f≠C.env.locals∧∀ q∈C.fs,q.1≠f)→(c'≠C.env.locals∧∀ q∈C.fs,q.1≠c') →
   s1.heap.get? f=some (fobj (fdOf name qual params (.stmts body) scope (closL C.env scope.names []) d pm c' ct))→s1.heap.get? c'=some oc→oc.data = .fields vs→vs[1]?=some (.str qual t)→(H c'=none∨H c'=some (.raw oc)) →
   St C P ((k,.ref f)::m) (tabH H T pos c') s1→wpN (Md C) C.A (execs rest C.env) (RF C P Q) (XS C P X) s1) :
  WSN C P m H (.FunctionDef name params body [] none [] scope none name pos::rest) Q X:=fun s S=>by
 refine nExecs (nOf (nestDef_K hd0 hk0 ha ?_))
 rw [hq]
 refine wpAny_mono (make_ok S hns tf K.base.globals (closureFor_ok hfree) hI (fun _ _=>trivial)) (fun v s1 hm=>?_) fun _ _ x=>x
 obtain ⟨f,c',oc,vs,t,d,pm,ct,rfl,e1,e2,e3,e4,e5,e6,e7,e8,e9,e10,e11,e12,e13,S1⟩:=hm
 obtain u90:=()
 obtain u91:=()
 revert K hns tf hk hl hq hd0 hk0 ha hfree hI h S e1 e2 e3 e4 e5 e6 e7 e8 e9 e10 e11 e12 e13 S1
 k_call_by "e" [C,g,P,m,H,name,qual,k,params,body,scope,pos,rest,T,Q,X,s,s1,f,c',oc,vs,t,d,pm,ct,u90,u91]
 have h1:∀ b∈[f,c'],tabH H T pos c' b=none:=fun b hb=>by
  simp only [List.mem_cons,List.not_mem_nil,or_false] at hb
  rcases hb with rfl | rfl
  ·rw [tabH_ne e2 e1];exact e4
  ·exact tabH_c e3
 have h2:∀ b∈[f,c'],b≠C.env.locals∧∀ q∈C.fs,q.1≠b:=fun b hb=>by
  simp only [List.mem_cons,List.not_mem_nil,or_false] at hb
  rcases hb with rfl | rfl
  ·exact e7
  ·exact e8
 have h3:∀ b∈[f,c'],∀ o v,s1.heap.get? b=some o→o.data≠.cell v:=fun b hb o v ho=>by
  simp only [List.mem_cons,List.not_mem_nil,or_false] at hb
  rcases hb with rfl | rfl
  ·rw [e9] at ho;cases ho;exact nofun
  ·rw [e10] at ho;cases ho;rw [e11];exact nofun
 refine store_loc (g:=g.bare) K.base (S1.pinP h1 h2 h3) hk hl (z:=.ref f) rfl fun s2 S2=>?_
 have hin:∀ b∈[f,c'],∀ o,s1.heap.get? b=some o→s2.heap.get? b=some o:=fun b hb o ho=>S2.keep b o (by rw [frzB_in hb];exact ho)
 exact h s2 f c' oc vs t d pm ct e1 e2 e3 e4 e5 e6 e7 e8 (hin f (.head _) _ e9) (hin c' (.tail _ (.head _)) _ e10) e11 e12 e13 (S2.less S1.pbase fun b o e=>frzB_sub S1.keep e)
theorem t_pin {f c':Addr} {H0:Hp} {T:Addr} {pos:Pos} {oc:Obj} {vs:Array Value} (S:St C P m (tabH H0 T pos c') s) (hwr:C.wr=true) {cs:List Str} (hcs:∀ x∈cs,C.env.kindOf x=some .cell) (hcs2:∀ x,C.env.kindOf x=some .cell→x∈cs)
  (e1:f≠c') (e2:f≠T) (e3:c'≠T) (e4:H0 f=none) (e6:P c'=none) (h3:f≠C.env.locals∧∀ q∈C.fs,q.1≠f) (h4:c'≠C.env.locals∧∀ q∈C.fs,q.1≠c')
  (ho:s.heap.get? c'=some oc) (hd:oc.data = .fields vs) {t:Sem Flow} {Q:QS} {X:XSt}
  (h:WXN (frzC C (f::c'::cellAs C cs) s.heap) (frzB P (f::c'::cellAs C cs) s.heap) m (tabH H0 T pos c') t (fun fl m2 H2=>Q fl m2 (upd H2 c' (.raw oc))) noX):wpN (Md C) C.A t (RF C P Q) (XS C P X) s:=by
 obtain ⟨h1,h2⟩:=pins S hwr hcs (f:=f) (c':=c') (by rw [tabH_ne e2 e1];exact e4) (tabH_c e3) h3 h4
 exact nMono (h s (S.freeze h1 h2)) (fun fl s' ⟨fl',m',H',h5,h6,h7⟩=>⟨fl',m',_,h5,S.thaw2 (pins_own hcs2) (.tail _ (.head _)) e6 ho hd h6,h7⟩) fun v s' ⟨_,_,_,_,_,_,_,_,hx⟩=>hx.elim
theorem CloAt.same {C':Cx} {a:Addr} {fd:FuncData} {scope:Scope} {cl:List (Str×Addr)} {qual:Str} {cd:Value} (D:CloAt C a fd scope cl qual cd) (h:C'.w=C.w∧C'.prog=C.prog∧C'.mg=C.mg∧C'.base=C.base):CloAt C' a fd scope cl qual cd:=by
 obtain ⟨_,_,_,h4⟩:=h
 exact ⟨by rw [h4];exact D.obj,D.scopeE,D.globals,D.closure,D.qualE,D.cdE,D.builtins,by rw [h4];exact D.code,by rw [h4];exact D.nolimit⟩
theorem Frees.same {C':Cx} {scope:Scope} {cl:List (Str×Addr)} {frees:Loc} (D:Frees C scope cl frees) (h:C'.w=C.w∧C'.prog=C.prog∧C'.mg=C.mg∧C'.base=C.base):Frees C' scope cl frees:=by
 obtain ⟨_,_,h3,h4⟩:=h
 exact ⟨by rw [h3,h4];exact D.at'⟩
noncomputable def TabsF (mg:MG) (base:Kp) (tab:Nat→Addr):Prop:=∀ i∈[24,25,33],∀ a o pm doc cd,mg (fdName i)=some (.ref a)→base a=some o→o.data = .func (Calls.docDef (fdName i) (fdArgs i) (fdBody i) (fdScope i) pm cd doc)→TabF mg base cd (tab i)
noncomputable def nsScope:Option Stmt→Scope
 | some (.FunctionDef _ _ _ _ _ _ sc _ _ _)=>sc
 | _=>{ kind:=.module,names:=[],isGenerator:=false,isCoroutine:=false,more:=[] }
noncomputable def nsBody:Option Stmt→List Stmt
 | some (.FunctionDef _ _ b _ _ _ _ _ _ _)=>b
 | _=>[]
noncomputable def nsArgs:Option Stmt→Arguments
 | some (.FunctionDef _ a _ _ _ _ _ _ _ _)=>a
 | _=>default
noncomputable def nsPos:Option Stmt→Pos
 | some (.FunctionDef _ _ _ _ _ _ _ _ _ p)=>p
 | _=>default
theorem t_assign_comp (K:CkN C g) {elt:Expr} {c:Comprehension} {sc:Scope} {cpos:Pos} {y0:Str} {k:Nat} {p pos:Pos} {Q:QS} {X:XSt} (hk:nmc y0=some k) (hl:g.kinds.lookup k=some .local)
  (h:wE (.ListComp elt [c] sc cpos) g m H (fun v H1=>Q .next ((k,v)::m) H1) (fun xn H1=>X xn m H1))
  (hsw:swapsWith (.ListComp elt [c] sc cpos) (some (.Name y0 p)) pos.line C.env=pure true):W1N C P m H (.Assign [.Name y0 p] (.ListComp elt [c] sc cpos) pos) Q X:=fun s S=>by
 rw [exec_Assign_Name_used _ _ _ _ hsw]
 refine nStand (nBind ?_)
 have h2:=comp_run (fpos:=c.iter.pos) (use:=some (assign (.Name y0 p) C.env)) (Q0:=fun _ s'=>RF C P Q .next s') (E:=XS C P X) (wE_okN elt) (wG_okN c) K S h fun D L H' s' mm S3 a1 a2 a3 a4 a5 hQ=>?_
 ·obtain ⟨tgt,iter,ifs,asy⟩:=c
  obtain ⟨h2,rfl⟩:_:=h2
  exact nBind (nMono h2 (fun _ s' hq=>nPure (nPure hq)) fun _ _ e=>e)
 ·have hLn:L≠C.env.locals∧∀ f∈C.fs,f.1≠L:=⟨fun e=>a3 (frs_iff.mpr (.inl e)),fun f hf e=>a3 (frs_iff.mpr (.inr ⟨f,hf,e⟩))⟩
  refine wpAny_assign_Name (store_loc (g:=g.bare) K.base (S3.pinP (as:=[L]) (fun b hb=>by rw [List.mem_singleton] at hb;subst hb;exact a2) (fun b hb=>by rw [List.mem_singleton] at hb;subst hb;exact hLn)
   fun b hb o v ho hd=>by rw [List.mem_singleton] at hb;subst hb;exact a4 v ⟨o,ho,hd⟩) hk hl (z:=.ref D) rfl fun s4 S4=>?_)
  have a5':s4.heap.Ns L mm:=a5.at' fun o ho=>S4.keep L o (by rw [frzB_in (.head _)];exact ho)
  have a4':∀ v,¬ s4.heap.IsCell L v:=fun v ⟨o,ho,hd⟩=>by
   obtain ⟨y,es,ep,e1,e2,_⟩:=a5'
   rw [e1] at ho;cases ho;rw [e2] at hd;cases hd
  have S5:=S4.less S3.pbase fun b o e=>frzB_sub S3.keep e
  exact ⟨mm,a5',fun h' hs'=>⟨.next,_,_,trivial,S5.off (t:=s4.toks) a1 a2 a3 a4' hs'.extBut,hQ⟩⟩
end DL
end
section
namespace DL
variable {C:Cx} {sha:Addr} {fm:Addr→Option Int}
noncomputable abbrev na:Option Stmt:=(fdBody 25)[1]?
theorem na_kinds:kindsOf (nsScope na)=[(83,.local),(26,.free),(91,.free)]:=by kernel_rfl
theorem na_sc:scOk (nsScope na)=true:=by kernel_rfl
noncomputable def spNameAt (r0 rw:Addr) (R:List (List UInt8)):Spec:=fun xs H Q _=>∃ (i:Int) (l:List Int),xs=[.int i]∧H r0=some (.list (vInts l))∧l.length≤5000∧r0≠rw∧H rw=some (.list (R.map V.bytes))∧0≤i∧i<R.length ∧
 Q (.bytes (R.getD i.toNat [])) (upd H r0 (.list (vInts (l++[i]))))
noncomputable def gNest (sc:Scope) (sha:Addr) (fm:Addr→Option Int) (gam:List (Nat×Spec)):Ge:={ kinds:=kindsOf sc,globs:=GL sha,gam:=fun k=>gam.lookup k,fnv:=fun _=>none,forms:=fm,hd:=true,ba:=true }
section
variable {sc:Scope} {gam:List (Nat×Spec)}
theorem gn_kinds:(gNest sc sha fm gam).kinds=kindsOf sc:=rfl
theorem gn_hd:(gNest sc sha fm gam).hd=true:=rfl
theorem gn_gam {k:Nat}:(gNest sc sha fm gam).gam k=gam.lookup k:=rfl
theorem gn_ba:(gNest sc sha fm gam).ba=true:=rfl
theorem gn_fnv {a:Addr}:(gNest sc sha fm gam).fnv a=none:=rfl
theorem gn_forms {a:Addr}:(gNest sc sha fm gam).forms a=fm a:=rfl
theorem gn_globs:(gNest sc sha fm gam).globs=(gOf 6 sha fm []).globs:=rfl
end
theorem mkCkX {sc:Scope} {qual:Str} {C0:Cx} {mc:Str→Option Value} {L a:Addr} {cd:Value} {cl:List (Str×Addr)} (W:Wd C0 sha fm) (hh:C0.A.handled=none) (hu:(calleeC C0 mc (envX qual sc L a cd cl)).A.units+16<cLine) (hsc:scOk sc=true) {gam:List (Nat×Spec)}
  (hgam:∀ x k sp u,nmc x=some k→gam.lookup k=some sp→C0.mg x=some u→FnN (calleeC C0 mc (envX qual sc L a cd cl)) u sp):CkN (calleeC C0 mc (envX qual sc L a cd cl)) (gNest sc sha fm gam) where
 base:={
  kind:=(scOk_of hsc).1
  globals:=rfl
  builtins:=rfl
  handled:=fun _=>hh
  units:=hu
  kinds:=fun x k kd hx hk=>⟨kd,kindsOf_lookup hx hk,.inl rfl⟩
  plain:=fun x k kd hx hk=>by
   have:=((scOk_of hsc).2.2.2 _ (mem_of_lookup' (kindsOf_lookup hx hk))).1
   unfold goodName at this
   simp only [Bool.and_eq_true,Bool.not_eq_true'] at this
   exact ⟨this.1.2,this.2⟩
  globs:=scGlob (C:=calleeC C0 mc (envX qual sc L a cd cl)) W
  forms:=fun a n h C' hC' P m H s S Q E hQ=>by
   obtain ⟨⟨e,f,w,rfl⟩,_⟩:=hC'
   exact W.forms a n h _ _ S.base Q E fun t tk=>hQ t _ S.toks }
 gam:=hgam
 fnv:=fun a sp h=>by cases h
theorem na_ok (W:Wd C sha fm) (F:Fk C) (hl:0<C.lv) {f r0 rw:Addr} {R:List (List UInt8)} {cl:List (Str×Addr)} {d pm ct:Value} {c':Addr} {name qual:Str}
  (D:CloAt C f (fdOf name qual (nsArgs na) (.stmts (nsBody na)) (nsScope na) cl d pm c' ct) (nsScope na) cl qual (.ref c')) (Fr:Frees C (nsScope na) cl [(26,.ref r0),(91,.ref rw)]):FnN C (.ref f) (spNameAt r0 rw R) :=
 clo_ok F hl D (ps:=[Str.ofString "place"]) (ks:=[83]) {
  bind:=fun vs h=>by
   match vs,h with
   | [a0],_=>rfl
  codes:=by kernel_rfl
  nodup:=by decide +kernel
  kinds:=by intro x hx;rw [List.mem_singleton] at hx;subst hx;rfl
  co:=rfl
  gen:=rfl
  kind:=rfl
  nocell:=by decide +kernel } Fr rfl fun C0 hC0 xs H Q X h=>by
  obtain ⟨i,l,rfl,h1,h2,h3,h4,h5,h6,hQ⟩:=h
  refine ⟨rfl,fun L mc P' F1 L1=>?_⟩
  have W0:Wd C0 sha fm:=by obtain ⟨⟨e,f,w,rfl⟩,_⟩:=hC0;exact W
  have K:=mkCkX (sc:=nsScope na) (qual:=qual) (C0:=C0) (mc:=mc) (L:=L) (a:=f) (cd:=.ref c') (cl:=cl) W0 (F.like hC0).handled (Nat.lt_of_le_of_lt (Nat.add_le_add_right (Nat.le_add_right _ _) 16) F1.fk.units) na_sc (gam:=[]) (by simp)
  show WSN _ P' [(83,V.int i),(26,.ref r0),(91,.ref rw)] H _ _ _
  refine t_cons ?_
  refine t_expr K ?_
  k_call_by "x" [gn_kinds,gn_hd,gn_gam,gn_ba,gn_fnv,gn_forms,gn_globs,na_kinds,h1,vInts_len]
  refine ⟨by exact Nat.lt_of_le_of_lt ‹_› (by decide),?_⟩
  rw [vInts_one,vInts_app]
  have h7:upd H r0 (.list (vInts (l++[i]))) rw=some (.list (R.map V.bytes)):=by rw [upd_ne h3.symm];exact h4
  have h8:at? (R.map V.bytes) i=some (.bytes (R.getD i.toNat [])):=by
   unfold at? pyIx
   rw [if_pos ⟨h5,by rw [List.length_map];exact h6⟩]
   simp only [List.getElem?_map]
   have:i.toNat<R.length:=by simp [*]
   rw [List.getElem?_eq_getElem this,List.getD_eq_getElem?_getD,List.getElem?_eq_getElem this]
   rfl
  refine t_cons ?_
  refine t_return K ?_
  k_call_by "x" [gn_kinds,gn_hd,gn_gam,gn_ba,gn_fnv,gn_forms,gn_globs,na_kinds,h7,h8]
  exact hQ
noncomputable abbrev posNA:Pos:=nsPos na
noncomputable abbrev qualNA:Str:=Str.ofString "_law_found.<locals>.name_at"
noncomputable def spLawFound (T:Addr):Spec:=fun xs H Q _=>∃ (rw:Addr) (R:List (List UInt8)) (lo hi:Int) (key:List UInt8),xs=[.ref rw,.int lo,.int hi,.bytes key]∧H rw=some (.list (R.map V.bytes))∧R.length≤8∧0≤lo∧lo<10∧hi<R.length∧-2≤hi ∧
 R.Pairwise (fun a b=>bltB b a=false)∧tabI T posNA qualNA H∧∀ H',ExtT T H H'→tabI T posNA qualNA H'→Q (.bool true) H'
theorem memV_ints {i:Int}:∀ {l:List Int},memV (.int i) (vInts l)=some (decide (i∈l)):=by
 intro l
 show (pydL (vInts l)).map (fun ds=>ds.any fun e=>PyData.eqv e (.int i))=_
 rw [pydL_vInts]
 refine congrArg some ?_
 show (l.map PyData.int).any (fun e=>PyData.eqv e (.int i))=_
 induction l with
 | nil=>rfl
 | cons x r ih =>
  rw [List.map_cons,List.any_cons,ih]
  have h:PyData.eqv (.int x) (.int i)=decide (i=x):=by
   rw [PyData.eqv]
   by_cases q:x=i
   ·subst q;rw [beq_self_eq_true,decide_eq_true rfl]
   ·rw [beq_eq_false_iff_ne.mpr q,decide_eq_false fun e=>q e.symm]
  rw [h]
  by_cases q:i=x
  ·subst q;rw [decide_eq_true rfl,decide_eq_true (List.mem_cons_self ..),Bool.true_or]
  ·rw [decide_eq_false q,Bool.false_or]
   exact decide_eq_decide.mpr ⟨fun h=>.tail _ h,fun h=>(List.mem_cons.mp h).resolve_left q⟩
theorem eqv_nil {a:List Int}:PyData.eqv (.list (a.map PyData.int)) (.list [])=decide (a=[]):=eqv_ints (b:=[])
theorem memV_none:memV .none [.none]=some true:=by
 show some (([PyData.none]:List PyData).any fun e=>PyData.eqv e .none)=_
 simp [PyData.eqv]
noncomputable def itF (p:Int→Bool):It→Option V
 | .one (.int i)=>if p i then some (.int i) else none
 | _=>none
theorem range_itF {lo hi:Int} {p:Int→Bool}:(rangeOf lo hi).filterMap (itF p)=vInts (((List.range (hi-lo).toNat).map fun (k:Nat)=>lo+(k:Int)).filter p):=by
 k_call_by "e" [lo,hi,p]
 unfold rangeOf vInts
 rw [List.filterMap_map]
 induction List.range (hi-lo).toNat with
 | nil=>rfl
 | cons a r ih =>
  rw [List.filterMap_cons,List.map_cons,List.filter_cons]
  simp only [Function.comp,itF]
  cases p (lo+(a:Int)) with
  | true=>simp only [if_true,List.map_cons,← ih]
  | false=>simp only [Bool.false_eq_true,if_false,← ih]
theorem plain_itF {l:List Int} {p:Int→Bool}:((vInts l).map It.one).filterMap (itF p)=vInts (l.filter p):=by
 unfold vInts
 rw [List.map_map,List.filterMap_map]
 induction l with
 | nil=>rfl
 | cons a r ih =>
  rw [List.filterMap_cons,List.filter_cons]
  simp only [Function.comp,itF]
  cases p a with
  | true=>simp only [if_true,List.map_cons,← ih]
  | false=>simp only [Bool.false_eq_true,if_false,← ih]
theorem found_rest {C0:Cx} {mc:Str→Option Value} {L a0:Addr} {cd:Value} {as:List Addr} {hh:Heap} {P:Kp} {f r0 rw:Addr} {R:List (List UInt8)} {lo hi:Int} {key:List UInt8} {H:Hp} {Q:QS} {X:XSt}
  (K:CkN (frzC (ctx 25 C0 mc L a0 cd) as hh) { gOf 25 sha fm [] with gam:=fun k=>if k=30 then some (spBisect f (spNameAt r0 rw R)) else none,fnv:=fun _=>none }) (F1:Fk1 (frzC (ctx 25 C0 mc L a0 cd) as hh))
  (hrr:r0≠rw) (h0:H r0=some (.list (vInts []))) (h1:H rw=some (.list (R.map V.bytes))) (hR:R.length≤8) (hlo0:0≤lo) (hlo1:lo<10) (hhi:hi<R.length) (hhi2:-2≤hi) (hsort:R.Pairwise (fun a b=>bltB b a=false))
  (hQ:∀ m2 H2,(∀ a o,a≠r0→H a=some o→H2 a=some o)→Q (.ret (.bool true)) m2 H2) :
  WSN (frzC (ctx 25 C0 mc L a0 cd) as hh) P [(70,.ref f),(26,.ref r0),(91,.ref rw),(66,.int lo),(55,.int hi),(69,.bytes key)] H ((fdBody 25).drop 2) Q X:=by
 revert K F1 hrr h0 h1 hR hlo0 hlo1 hhi hhi2 hsort hQ
 k_call_by "e" [sha,fm,C0,mc,L,a0,cd,as,hh,P,f,r0,rw,R,lo,hi,key,H,Q,X]
 refine t_cons ?_
 refine t_try_assert K F1 nm_AssertionError (by rw [g_kinds,kd_25];rfl) (gl_1 (i:=25) (sha:=sha) (fm:=fm) (gam:=[])) ?_
 refine t_cons ?_
 refine t_assignL K nm_told (by rw [g_kinds,kd_25];rfl) ?_
 k_call_by "x" []
 refine ⟨lo,hi,key,fun i=>R.getD i.toNat [],fun l H'=>H' r0=some (.list (vInts l))∧∀ a o,a≠r0→H a=some o→H' a=some o,rfl,fun hlt=>?_,fun hle=>⟨by lia,⟨h0,fun _ _ _ e=>e⟩,?_,?_,?_⟩⟩
 ·refine ⟨rfl,fun e=>?_⟩
  refine t_cons ?_
  refine t_return K.inH ?_
  obtain hlt':=eq_true hlt
  k_call_by "x" [Ge.quiet,hlt']
  intro b hb
  obtain h0b:=upd_keep (o:=.list []) hb h0
  k_call_by "x" [h0b,pydL_vInts,eqv_nil]
  exact hQ _ _ fun a o n e=>upd_keep hb e
 ·intro i l H1 Q1 X1 hi1 hi2 hl5 ⟨hI1,hI2⟩ hQ1
  refine ⟨i,l,rfl,hI1,hl5,hrr,hI2 _ _ hrr.symm h1,Int.le_trans hlo0 hi1,Int.lt_of_le_of_lt hi2 hhi,hQ1 _ ⟨upd_same,fun a o n e=>by rw [upd_ne n];exact hI2 a o n e⟩⟩
 ·intro i j hi1 hij hj
  by_cases e:i=j
  ·subst e;exact blt_irrefl _
  ·have hlt:=Int.lt_iff_le_and_ne.mpr ⟨hij,e⟩
   have hi0:=Int.le_trans hlo0 hi1
   have h5:i.toNat<R.length:=(Int.toNat_lt hi0).mpr (Int.lt_of_le_of_lt (Int.le_trans hij hj) hhi)
   have h6:j.toNat<R.length:=(Int.toNat_lt (Int.le_trans hi0 hij)).mpr (Int.lt_of_le_of_lt hj hhi)
   show bltB (R.getD j.toNat []) (R.getD i.toNat [])=false
   rw [List.getD_eq_getElem?_getD,List.getD_eq_getElem?_getD,List.getElem?_eq_getElem h5,List.getElem?_eq_getElem h6]
   exact List.pairwise_iff_getElem.mp hsort i.toNat j.toNat h5 h6 ((Int.toNat_lt_toNat (Int.lt_of_le_of_lt hi0 hlt)).mpr hlt)
 ·intro H1 l hI1 hin h2
  revert hI1 hin h2
  k_call_by "e" [H1,l]
  have hat:∀ i:Int,0≤i→i<R.length→at? (R.map V.bytes) i=some (.bytes (R.getD i.toNat [])):=fun i h5 h6=>by
   unfold at? pyIx
   rw [if_pos ⟨h5,by rw [List.length_map];exact h6⟩]
   simp only [List.getElem?_map]
   have:i.toNat<R.length:=by simp [*]
   rw [List.getElem?_eq_getElem this,List.getD_eq_getElem?_getD,List.getElem?_eq_getElem this]
   rfl
  have h9:hi+1-lo≤8:=Int.sub_left_le_of_le_add (Int.le_trans (Int.add_one_le_of_lt hhi) (Int.le_trans (Int.ofNat_le.mpr hR) (Int.le_add_of_nonneg_left hlo0)))
  have hrw1:H1 rw=some (.list (R.map V.bytes)):=hI1.2 _ _ hrr.symm h1
  have fin:∀ v:V,(v = .none∧(∀ i,lo≤i→i≤hi→R.getD i.toNat []≠key)∨∃ i,v = .int i∧lo≤i∧i≤hi∧R.getD i.toNat []=key) →
    WSN (frzC (ctx 25 C0 mc L a0 cd) as hh) P [(104,v),(70,.ref f),(26,.ref r0),(91,.ref rw),(66,.int lo),(55,.int hi),(69,.bytes key)] H1 ((fdBody 25).drop 3) Q X:=fun v hv=>by
   refine t_cons ?_
   refine t_assign_comp K nm_plain (by rw [g_kinds,kd_25];rfl) ?_ rfl
   k_call_by "x" [List.lookup_nil,hrw1]
   refine ⟨by kernel_rfl,⟨by lia,by exact Int.lt_trans ‹_› (by decide),by lia,by lia⟩,Int.toNat_le.mpr (Int.le_trans h9 (by decide)),itF (fun i=>decide (R.getD i.toNat []=key)),fun k hk=>?_,fun b hb=>?_⟩
   ·rw [hat _ (Int.add_nonneg hlo0 (Int.natCast_nonneg _)) (Int.lt_of_le_of_lt (Int.le_of_lt_add_one (Int.add_lt_of_lt_sub_left (Int.lt_toNat.mp hk))) hhi)]
    k_call_by "x" []
    by_cases q:R.getD (lo+(k:Int)).toNat []=key
    ·rw [if_pos q];simp only [itF,q,decide_true,if_true]
    ·rw [if_neg q];simp only [itF,q,decide_false,Bool.false_eq_true,if_false]
   ·rw [range_itF]
    generalize hL:((List.range (hi+1-lo).toNat).map fun (k:Nat)=>lo+(k:Int)).filter (fun i=>decide (R.getD i.toNat []=key))=Lp
    have hmem:∀ i,i∈Lp↔lo≤i∧i≤hi∧R.getD i.toNat []=key:=fun i=>by
     rw [← hL]
     simp only [List.mem_filter,List.mem_map,List.mem_range,decide_eq_true_eq]
     constructor
     ·rintro ⟨⟨k,hk,rfl⟩,h⟩;exact ⟨Int.le_add_of_nonneg_right (Int.natCast_nonneg _),Int.le_of_lt_add_one (Int.add_lt_of_lt_sub_left (Int.lt_toNat.mp hk)),h⟩
     ·rintro ⟨h3,h4,h⟩;exact ⟨⟨(i-lo).toNat,(Int.toNat_lt_toNat (Int.sub_pos_of_lt (Int.lt_add_one_of_le (Int.le_trans h3 h4)))).mpr (Int.sub_lt_sub_right (Int.lt_add_one_of_le h4) lo),by rw [Int.toNat_of_nonneg (Int.sub_nonneg_of_le h3),Int.add_comm,Int.sub_add_cancel]⟩,h⟩
    have hb1:upd H1 b (.list (vInts Lp)) b=some (.list (vInts Lp)):=upd_same
    have hE1:∀ a o,a≠r0→H a=some o→upd H1 b (.list (vInts Lp)) a=some o:=fun a o n e=>upd_keep hb (hI1.2 a o n e)
    obtain hr1:=upd_keep (o:=.list (vInts Lp)) hb hI1.1
    generalize upd H1 b (.list (vInts Lp))=H2 at hb1 hE1 hr1
    revert hv hb hL hmem hb1 hE1 hr1
    k_call_by "e" [v,b,Lp,H2]
    have fin2:∀ H3,Ext H2 H3→∀ m,m=[(84,.ref b),(104,v),(70,.ref f),(26,.ref r0),(91,.ref rw),(66,.int lo),(55,.int hi),(69,.bytes key)]→WSN (frzC (ctx 25 C0 mc L a0 cd) as hh) P m H3 ((fdBody 25).drop 5) Q X:=fun H3 hE3 m hm=>by
     subst hm
     obtain hr3:=hE3.get hr1
     refine t_cons ?_
     refine t_if K ?_
     k_call_by "x" [List.lookup_nil,hr3,forall_plain,plain_len]
     have hlen5:l.length≤5000:=by
      obtain h7:=Nat.lt_two_pow_self (n:=l.length)
      have h8:((2^l.length:Nat):Int)≤2*(hi+1-lo):=by simpa using h2
      exact Nat.le_of_lt (Nat.lt_of_lt_of_le h7 (Int.ofNat_le.mp (Int.le_trans h8 (Int.le_trans (Int.mul_le_mul_of_nonneg_left h9 (by decide)) (by decide)))))
     refine ⟨by kernel_rfl,by exact Nat.le_trans ‹_› (by decide),itF (fun i=>decide (i<lo)||decide (hi<i)),fun i hil=>?_,fun d hd=>?_⟩
     ·by_cases q1:i<lo
      ·rw [if_pos q1];simp only [itF,q1,decide_true,Bool.true_or,if_true]
      ·rw [if_neg q1]
       by_cases q2:hi<i
       ·rw [if_pos q2];simp only [itF,q2,decide_true,Bool.or_true,if_true]
       ·rw [if_neg q2];simp only [itF,q1,q2,decide_false,Bool.or_false,Bool.false_eq_true,if_false]
     ·rw [plain_itF]
      have hfl:l.filter (fun i=>decide (i<lo)||decide (hi<i))=[]:=List.filter_eq_nil_iff.mpr fun i hil=>by
       have:=hin i hil
       simp only [Bool.or_eq_true,decide_eq_true_eq];simp [*]
      rw [hfl]
      have hd1:upd H3 d (.list (vInts [])) d=some (.list (vInts [])):=upd_same
      have hE4:Ext H3 (upd H3 d (.list (vInts []))):=(Ext.refl H3).upd hd
      generalize upd H3 d (.list (vInts []))=H4 at hd1 hE4
      intro e he
      obtain hd2:=upd_keep (o:=.list []) he hd1
      obtain hr4:=(hE4.upd he (o:=.list [])).get hr3
      obtain hE5:=hE4.upd he (o:=.list [])
      k_call_by "x" [hd2,pydL_vInts,eqv_nil]
      refine t_nil ?_
      refine t_cons ?_
      refine t_return K ?_
      k_call_by "x" [hr4,vInts_len]
      refine ⟨by lia,?_⟩
      have h9:(2:Int)^((l.length:Int)).toNat≤2*(hi+1-lo):=by rw [Int.toNat_natCast];exact h2
      rw [decide_eq_true h9]
      exact ⟨.inl (by decide),hQ _ _ fun a o n q=>hE5 _ _ (hE3 _ _ (hE1 a o n q))⟩
    have hle':¬ hi<lo:=by exact Int.not_lt.mpr ‹_›
    obtain hle2:=eq_false hle'
    refine t_cons ?_
    refine t_if K ?_
    rcases hv with ⟨rfl,hno⟩ | ⟨i,rfl,h3,h4,h5⟩
    ·have hLn:Lp=[]:=List.eq_nil_iff_forall_not_mem.mpr fun i hi=>by have:=(hmem i).mp hi;exact hno i this.1 this.2.1 this.2.2
     k_call_by "x" [hle2]
     intro d hd
     obtain hb2:=upd_keep (o:=.list []) hd hb1
     k_call_by "x" [hb2,pydL_vInts,eqv_nil,hLn,memV_none]
     intro e he
     refine t_nil ?_
     exact fin2 _ (((Ext.refl H2).upd hd).upd he) _ rfl
    ·have hLm:i∈Lp:=(hmem i).mpr ⟨h3,h4,h5⟩
     have hLn:(Lp=[])=False:=eq_false fun e=>by rw [e] at hLm;cases hLm
     k_call_by "x" [hle2]
     intro d hd
     obtain hb2:=upd_keep (o:=.list []) hd hb1
     have hmm:memV (.int i) (vInts Lp)=some true:=by rw [memV_ints,decide_eq_true hLm]
     k_call_by "x" [hb2,pydL_vInts,eqv_nil,hLn,hmm]
     refine t_nil ?_
     exact fin2 _ ((Ext.refl H2).upd hd) _ rfl
  exact ⟨fun i h3 h4 h5=>by
   refine t_nil ?_
   exact fin _ (.inr ⟨i,rfl,h3,h4,h5⟩),fun hno=>by
   refine t_nil ?_
   exact fin _ (.inl ⟨rfl,hno⟩)⟩
theorem F_law_found (W:Wd C sha fm) (F:Fk C) (hl:2<C.lv) {tab:Nat→Addr} (TB:TabsF C.mg C.base tab):∀ x,x=fdName 25→∀ u,C.mg x=some u→FnN C u (spLawFound (tab 25)) :=
 fn_ok2 W F (by exact Nat.lt_of_le_of_lt (Nat.zero_le _) ‹_›) (by decide) sc_25 pl_25 [] (by simp) (fun xs H Q X h=>by
  obtain ⟨rw0,R,lo,hi,key,rfl,hrw,hR,hlo0,hlo1,hhi,hhi2,hsort,hI,hQ⟩:=h
  refine ⟨rfl,fun C0 mc L a0 cd P hC0 hcd K F1 L1=>?_⟩
  revert W F hl TB hrw hR hlo0 hlo1 hhi hhi2 hsort hI hQ hC0 hcd K F1 L1
  k_call_by "e" [C,sha,fm,tab,H,Q,X,rw0,R,lo,hi,key,C0,mc,L,a0,cd,P]
  obtain ⟨o9,pm9,doc9,hm9,ho9,hd9⟩:=hcd
  revert ho9 hd9
  k_call_by "e" [o9,pm9,doc9]
  have tf:TabF (ctx 25 C0 mc L a0 cd).mg (ctx 25 C0 mc L a0 cd).base (ctx 25 C0 mc L a0 cd).env.code (tab 25):=by
   have:=TB 25 (by decide) a0 o9 pm9 doc9 cd hm9 ho9 hd9
   obtain ⟨⟨e,f,w,rfl⟩,_⟩:=hC0
   exact this
  have W0:Wd (ctx 25 C0 mc L a0 cd) sha fm:=W.ctx hC0
  have hlv:(ctx 25 C0 mc L a0 cd).lv=C.lv-1:=lv_ctx hC0
  refine t_cons ?_
  refine t_assign K L1 ⟨nm_asked,.inr (by rw [g_kinds,kd_25];rfl)⟩ ?_
  k_call_by "x" []
  intro r0 hr0
  obtain u90:=()
  revert hr0
  k_call_by "e" [r0,u90]
  refine t_def (T:=tab 25) (qual:=qualNA) K W0.ns tf nm_name_at (by rw [g_kinds,kd_25];rfl) rfl rfl rfl rfl ?_ ?_ ?_
  ·intro x hx hfr
   simp only [List.mem_cons,List.not_mem_nil,or_false] at hx
   rcases hx with rfl | rfl | rfl
   ·cases hfr
   ·exact L1.cell _ (by kernel_rfl)
   ·exact L1.cell _ (by kernel_rfl)
  ·exact hI.ext ((Ext.refl H).upd hr0)
  ·intro s1 f c' oc vs t d pm ct e1 e2 e3 e4 e5 e6 e7 e8 e9 e10 e11 e12 e13 S1
   revert e1 e2 e3 e4 e5 e6 e7 e8 e9 e10 e11 e12 e13 S1
   k_call_by "e" [s1,f,c',oc,vs,t,d,pm,ct]
   have hcs:∀ x∈[Str.ofString "rows",Str.ofString "low",Str.ofString "high",Str.ofString "name",Str.ofString "asked"],(ctx 25 C0 mc L a0 cd).env.kindOf x=some .cell:=fun x hx=>by
    simp only [List.mem_cons,List.not_mem_nil,or_false] at hx
    rcases hx with rfl | rfl | rfl | rfl | rfl<;>kernel_rfl
   have hcs2:∀ x,(ctx 25 C0 mc L a0 cd).env.kindOf x=some .cell→x∈[Str.ofString "rows",Str.ofString "low",Str.ofString "high",Str.ofString "name",Str.ofString "asked"]:=fun x hx=>by
    have hx:(fdScope 25).names.lookup x=some .cell:=hx
    obtain hm:=mem_of_lookup' hx
    have:∀ p∈(fdScope 25).names,p.2 = .cell→p.1∈[Str.ofString "rows",Str.ofString "low",Str.ofString "high",Str.ofString "name",Str.ofString "asked"]:=by decide +kernel
    exact this _ hm rfl
   have hr0T:r0≠tab 25:=fun q=>by
    have:∃ o,H (tab 25)=some o:=by rcases hI with h | ⟨_,_,_,_,_,h,_⟩<;>exact ⟨_,h⟩
    obtain ⟨o,h⟩:=this
    rw [← q,hr0] at h;cases h
   have hrwT:rw0≠tab 25:=fun q=>by
    rcases hI with h | ⟨_,_,_,_,_,h,_⟩<;>(rw [← q,hrw] at h;cases h)
   have hrr:r0≠rw0:=fun q=>by rw [q,hrw] at hr0;cases hr0
   have hr0c:r0≠c':=fun q=>by
    rcases e13 with h | h<;>(rw [← q,upd_same] at h;cases h)
   have hrwc:rw0≠c':=fun q=>by
    rcases e13 with h | h<;>(rw [← q,upd_ne hrr.symm,hrw] at h;cases h)
   have hH0:tabH (upd H r0 (.list [])) (tab 25) posNA c' r0=some (.list (vInts [])):=by rw [tabH_ne hr0T hr0c,upd_same];rfl
   have hH1:tabH (upd H r0 (.list [])) (tab 25) posNA c' rw0=some (.list (R.map V.bytes)):=by rw [tabH_ne hrwT hrwc,upd_ne hrr.symm,hrw]
   have hHT:tabH (upd H r0 (.list [])) (tab 25) posNA c' (tab 25)=some (tab1 posNA c'):=tabH_T
   have back:∀ H2,(∀ a o,a≠r0→tabH (upd H r0 (.list [])) (tab 25) posNA c' a=some o→H2 a=some o)→ExtT (tab 25) H (upd H2 c' (.raw oc))∧tabI (tab 25) posNA qualNA (upd H2 c' (.raw oc)):=fun H2 hE=>by
    refine ⟨fun a o n e=>?_,tab_backI e3 (hE _ _ hr0T.symm hHT) e11 e12⟩
    by_cases q:a=c'
    ·subst q
     rw [upd_same]
     rcases e13 with h | h
     ·rw [upd_keep hr0 e] at h;cases h
     ·rw [upd_keep hr0 e] at h;exact h.symm
    ·rw [upd_ne q]
     have nr:a≠r0:=fun q2=>by rw [q2,hr0] at e;cases e
     exact hE a o nr (by rw [tabH_ne n q,upd_ne nr];exact e)
   obtain has:=pins_own hcs2 (f:=f) (c':=c') L1.wr
   obtain D:=clo_frz (C:=ctx 25 C0 mc L a0 cd) (s:=s1) (as:=f::c'::cellAs (ctx 25 C0 mc L a0 cd) [Str.ofString "rows",Str.ofString "low",Str.ofString "high",Str.ofString "name",Str.ofString "asked"]) (.head _) (.tail _ (.head _)) e9 e10 e11 e12 W0.nolimit S1.base
   obtain Fr:=frees_frz (C:=ctx 25 C0 mc L a0 cd) S1 (scope:=nsScope na) [(Str.ofString "asked",26,.ref r0),(Str.ofString "rows",91,.ref rw0)] (fun e he=>by
    simp only [List.mem_cons,List.not_mem_nil,or_false] at he
    rcases he with rfl | rfl
    ·exact ⟨nm_asked,by kernel_rfl,by kernel_rfl,rfl⟩
    ·exact ⟨nm_rows,by kernel_rfl,by kernel_rfl,rfl⟩) has
   have W1:Wd (frzC (ctx 25 C0 mc L a0 cd) (f::c'::cellAs (ctx 25 C0 mc L a0 cd) [Str.ofString "rows",Str.ofString "low",Str.ofString "high",Str.ofString "name",Str.ofString "asked"]) s1.heap) sha fm:=W0.more fun b o e=>frzB_sub S1.base e
   obtain K1:=K.frz (s:=s1) (as:=f::c'::cellAs (ctx 25 C0 mc L a0 cd) [Str.ofString "rows",Str.ofString "low",Str.ofString "high",Str.ofString "name",Str.ofString "asked"]) S1.base (gam:=fun k=>if k=30 then some (spBisect f (spNameAt r0 rw0 R)) else none) (fnv:=fun _=>none) (fun x k sp u hx hk hu=>by
    split at hk
    ·rename_i q;subst q;cases hk
     refine F_bisect W1 F1.fk.frz (lvq hl hlv (by decide)) f _ (fun C2 hs W2 F2 hl2=>?_) x (nmc_inj hx nm_bisect_find_sha) u hu
     exact na_ok W2 F2 (by rw [hl2];exact Nat.lt_sub_of_add_lt (lvq hl hlv (by decide))) (D.same hs) (Fr.same hs)
    ·cases hk) (fun a sp h=>by cases h)
   refine t_pin S1 L1.wr hcs hcs2 e1 e2 e3 e4 e6 e7 e8 e10 e11 ?_
   exact found_rest K1 F1.frz hrr hH0 hH1 hR hlo0 hlo1 hhi hhi2 hsort fun m2 H2 hE=>hQ _ (back H2 hE).1 (back H2 hE).2)
end DL
end
namespace DL
theorem hi_nonneg:∀ l:List Int,0≤hi l
 | []=>by simp [hi]
 | y::t=>by
  have:=hi_nonneg t
  rw [hi]
  have:0≤y%128*128^t.length:=Int.mul_nonneg (by exact Int.emod_nonneg _ (by decide)) (Int.pow_nonneg (by decide))
  exact Int.add_nonneg ‹_› ‹_›
theorem hi_lt:∀ l:List Int,hi l<128^l.length
 | []=>by simp [hi]
 | y::t=>by
  obtain h:=hi_lt t
  rw [hi,List.length_cons,Int.pow_succ]
  have:y%128*128^t.length≤127*128^t.length:=Int.mul_le_mul_of_nonneg_right (Int.le_of_lt_add_one (Int.emod_lt_of_pos _ (by decide))) (Int.pow_nonneg (by decide))
  exact Int.lt_of_lt_of_le (Int.add_lt_add_of_le_of_lt this h) (Int.le_of_eq (by rw [Int.mul_comm _ 128];exact ((Int.add_mul 127 1 _).trans (by rw [Int.one_mul])).symm))
theorem hi_snoc:∀ (l:List Int) (x:Int),hi (l++[x])=hi l*128+x%128
 | [],x=>by simp [hi]
 | y::t,x=>by
  rw [List.cons_append,hi,hi_snoc t,List.length_append,List.length_singleton,Int.pow_succ,hi,Int.add_mul,Int.mul_assoc]
  exact (Int.add_assoc _ _ _).symm
theorem hi_rev:∀ l:List Int,hi l.reverse=lo l
 | []=>rfl
 | x::r=>by rw [List.reverse_cons,hi_snoc,hi_rev r,lo,Int.mul_comm,Int.add_comm]
theorem hi1 {x:Int} (h:128≤x∧x<256):x/128=1:=by
 obtain ⟨z,hz,_,rfl⟩:=h128 h
 exact congrArg Nat.cast (show (z+128)/128=1 by rw [Nat.add_div_right _ (by decide),Nat.div_eq_of_lt hz])
noncomputable def sameHi:List Int→List Int→Prop
 | [],[]=>True
 | x::r,y::t=>isOctet x∧isOctet y∧x/128=y/128∧sameHi r t
 | _,_=>False
theorem sameHi_len:∀ {a b:List Int},sameHi a b→a.length=b.length
 | [],[],_=>rfl
 | _::_,_::_,h=>by rw [List.length_cons,List.length_cons,sameHi_len h.2.2.2]
 | [],_::_,h=>h.elim
 | _::_,[],h=>h.elim
theorem sameHi_big:∀ {a b:List Int},a.length=b.length→(∀ i∈a,128≤i∧i<256)→(∀ i∈b,128≤i∧i<256)→sameHi a b
 | [],[],_,_,_=>trivial
 | x::r,y::t,hl,ha,hb=>by
  obtain h1:=ha x (.head _)
  obtain h2:=hb y (.head _)
  exact ⟨⟨Int.le_trans (by decide) h1.1,h1.2⟩,⟨Int.le_trans (by decide) h2.1,h2.2⟩,(hi1 h1).trans (hi1 h2).symm,sameHi_big (by simpa using hl) (fun i hi=>ha i (.tail _ hi)) fun i hi=>hb i (.tail _ hi)⟩
 | [],_::_,h,_,_=>by simp at h
 | _::_,[],h,_,_=>by simp at h
theorem sameHi_row:∀ {a b:List Int},a.length=b.length→isRow a→isRow b→sameHi a b
 | [x],[y],_,h1,h2=>⟨isRow_oct h1 x (.head _),isRow_oct h2 y (.head _),(Int.ediv_eq_zero_of_lt h1.1 h1.2).trans (Int.ediv_eq_zero_of_lt h2.1 h2.2).symm,trivial⟩
 | x::y::r,z::w::t,hl,h1,h2=>by
  refine ⟨isRow_oct h1 x (.head _),isRow_oct h2 z (.head _),?_,sameHi_row (by simpa using hl) h1.2 h2.2⟩
  exact (hi1 h1.1).trans (hi1 h2.1).symm
 | [],_,_,h,_=>h.elim
 | _,[],_,_,h=>h.elim
 | [_],_::_::_,h,_,_=>by simp at h
 | _::_::_,[_],h,_,_=>by simp at h
theorem sameHi_rev {a b:List Int} (hl:a.length=b.length) (h1:isRow a) (h2:isRow b):sameHi a.reverse b.reverse:=by
 obtain ⟨p,z,rfl,hz0,hz1,hp⟩:=isRow_split h1
 obtain ⟨q,w,rfl,hw0,hw1,hq⟩:=isRow_split h2
 rw [List.reverse_append,List.reverse_append]
 refine ⟨⟨hz0,by exact Int.lt_trans ‹_› (by decide)⟩,⟨hw0,by exact Int.lt_trans ‹_› (by decide)⟩,(Int.ediv_eq_zero_of_lt hz0 hz1).trans (Int.ediv_eq_zero_of_lt hw0 hw1).symm,sameHi_big ?_ (fun i hi=>hp i (List.mem_reverse.mp hi)) fun i hi=>hq i (List.mem_reverse.mp hi)⟩
 show p.reverse.length=q.reverse.length
 simpa using hl
theorem u8_lt {x y:Int} (hx:isOctet x) (hy:isOctet y):(UInt8.ofNat x.toNat).toNat<(UInt8.ofNat y.toNat).toNat↔x<y:=by
 obtain ⟨a,rfl⟩:=Int.eq_ofNat_of_zero_le hx.1
 obtain ⟨b,rfl⟩:=Int.eq_ofNat_of_zero_le hy.1
 rw [UInt8.toNat_ofNat',UInt8.toNat_ofNat']
 show a%256<b%256↔_
 rw [Nat.mod_eq_of_lt (Int.ofNat_lt.mp hx.2),Nat.mod_eq_of_lt (Int.ofNat_lt.mp hy.2)]
 exact Int.ofNat_lt.symm
theorem u8_eq {x y:Int} (hx:isOctet x) (hy:isOctet y):UInt8.ofNat x.toNat=UInt8.ofNat y.toNat↔x=y:=by
 obtain ⟨a,rfl⟩:=Int.eq_ofNat_of_zero_le hx.1
 obtain ⟨b,rfl⟩:=Int.eq_ofNat_of_zero_le hy.1
 rw [← UInt8.toNat_inj,UInt8.toNat_ofNat',UInt8.toNat_ofNat']
 show a%256=b%256↔_
 rw [Nat.mod_eq_of_lt (Int.ofNat_lt.mp hx.2),Nat.mod_eq_of_lt (Int.ofNat_lt.mp hy.2)]
 exact Int.natCast_inj.symm
theorem blt_hi:∀ {a b:List Int},sameHi a b→hi a<hi b→bltB (ofOcts a) (ofOcts b)=true
 | [],[],_,h=>absurd h (Int.lt_irrefl _)
 | x::r,y::t,⟨hx,hy,hd,hs⟩,h=>by
  show bltB (UInt8.ofNat x.toNat::ofOcts r) (UInt8.ofNat y.toNat::ofOcts t)=true
  rw [bltB]
  obtain hl:=sameHi_len hs
  rw [hi,hi,hl] at h
  by_cases e:x=y
  ·subst e
   rw [if_pos rfl]
   exact blt_hi hs (Int.lt_of_add_lt_add_left h)
  ·rw [if_neg fun q=>e ((u8_eq hx hy).mp q)]
   simp only [decide_eq_true_eq]
   rw [u8_lt hx hy]
   obtain h1:=hi_nonneg r
   obtain h2:=hi_lt t
   have:x%128≤y%128:=by
    apply Classical.byContradiction
    intro hc
    have:(y%128+1)*128^t.length≤x%128*128^t.length:=Int.mul_le_mul_of_nonneg_right (by exact Int.not_le.mp ‹_›) (Int.pow_nonneg (by decide))
    rw [Int.add_mul,Int.one_mul] at this
    exact Int.lt_irrefl _ (Int.lt_trans h (Int.lt_of_lt_of_le (Int.add_lt_add_left h2 _) (Int.le_trans this (Int.le_add_of_nonneg_right h1))))
   have this:=Int.add_le_add_left this (128*(x/128))
   rw [Int.mul_ediv_add_emod,hd,Int.mul_ediv_add_emod] at this
   exact Int.lt_iff_le_and_ne.mpr ⟨this,e⟩
 | [],_::_,h,_=>h.elim
 | _::_,[],h,_=>h.elim
theorem oct_len {n:Nat} (h:n≤255):isOctet (n:Int):=⟨by exact Int.natCast_nonneg _,by exact Int.ofNat_lt.mpr (Nat.lt_of_le_of_lt ‹_› (by decide))⟩
theorem key_lt {c:Int} {a b:List Int} (ha:isRow a) (hb:isRow b) (hal:a.length≤255) (hbl:b.length≤255) (h:a.length<b.length∨a.length=b.length∧(if c=2 then hi a<hi b else lo a<lo b)):bltB (keyOf c a) (keyOf c b)=true:=by
 revert ha hb hal hbl h
 k_call_by "e" [c,a,b]
 unfold keyOf
 show bltB (UInt8.ofNat (a.length:Int).toNat::ofOcts _) (UInt8.ofNat (b.length:Int).toNat::ofOcts _)=true
 rw [bltB]
 rcases h with h | ⟨h,h2⟩
 ·rw [if_neg fun q=>by have:=(u8_eq (oct_len hal) (oct_len hbl)).mp q;lia]
  simp only [decide_eq_true_eq]
  rw [u8_lt (oct_len hal) (oct_len hbl)];exact Int.ofNat_lt.mpr ‹_›
 ·rw [if_pos (by rw [h])]
  split at h2
  ·rename_i hc
   rw [if_pos hc,if_pos hc]
   exact blt_hi (sameHi_row h ha hb) h2
  ·rename_i hc
   rw [if_neg hc,if_neg hc]
   exact blt_hi (sameHi_rev h ha hb) (by rw [hi_rev,hi_rev];exact h2)
theorem ofOcts_inj:∀ {a b:List Int},(∀ i∈a,isOctet i)→(∀ i∈b,isOctet i)→ofOcts a=ofOcts b→a=b
 | [],[],_,_,_=>rfl
 | x::r,y::t,ha,hb,h=>by
  have h:UInt8.ofNat x.toNat::ofOcts r=UInt8.ofNat y.toNat::ofOcts t:=h
  rw [List.cons.injEq] at h
  rw [(u8_eq (ha x (.head _)) (hb y (.head _))).mp h.1,ofOcts_inj (fun i hi=>ha i (.tail _ hi)) (fun i hi=>hb i (.tail _ hi)) h.2]
 | [],_::_,_,_,h=>by cases h
 | _::_,[],_,_,h=>by cases h
theorem key_inj {c:Int} {a b:List Int} (ha:∀ i∈a,isOctet i) (hb:∀ i∈b,isOctet i) (hal:a.length≤255) (hbl:b.length≤255) (h:keyOf c a=keyOf c b):a=b:=by
 revert ha hb hal hbl h
 k_call_by "e" [c,a,b]
 unfold keyOf at h
 have:=ofOcts_inj (fun i hi=>by
  rcases List.mem_cons.mp hi with rfl | hi
  ·exact oct_len hal
  ·split at hi
   ·exact ha i hi
   ·exact ha i (List.mem_reverse.mp hi)) (fun i hi=>by
  rcases List.mem_cons.mp hi with rfl | hi
  ·exact oct_len hbl
  ·split at hi
   ·exact hb i hi
   ·exact hb i (List.mem_reverse.mp hi)) h
 rw [List.cons.injEq] at this
 have h2:=this.2
 split at h2
 ·exact h2
 ·have:=congrArg List.reverse h2;simpa using this
theorem enc7_lower {n:Nat}:1<(enc7 n).length→128^((enc7 n).length-1)≤n:=by
 induction n using Nat.strongRecOn with
 | ind n ih =>
  by_cases h:n<128
  ·rw [enc7_lo h];intro h;simp at h
  ·rw [enc7_hi h,List.length_cons,Nat.add_sub_cancel]
   intro _
   have hp:0<(enc7 (n/128)).length:=List.length_pos_iff.mpr (isRow_ne (enc7_row _))
   by_cases h2:1<(enc7 (n/128)).length
   ·have:=ih (n/128) (div128 h) h2
    obtain ⟨k,hk⟩:∃ k,(enc7 (n/128)).length=k+1:=Nat.exists_eq_succ_of_ne_zero (Nat.ne_of_gt hp)
    rw [hk] at this ⊢
    rw [Nat.add_sub_cancel] at this
    rw [Nat.pow_succ];exact (Nat.le_div_iff_mul_le (by decide)).mp this
   ·have:(enc7 (n/128)).length=1:=Nat.le_antisymm (Nat.not_lt.mp h2) hp
    rw [this];exact Nat.not_lt.mp ‹_›
theorem enc7_upper (n:Nat):n<128^(enc7 n).length:=by
 obtain h:=(lo_bound (enc7 n)).2
 rw [lo_enc7] at h
 exact_mod_cast h
theorem enc7_mono {n m:Nat} (h:n<m):(enc7 n).length≤(enc7 m).length:=by
 by_cases h2:1<(enc7 n).length
 ·obtain h3:=enc7_lower h2
  obtain h4:=enc7_upper m
  apply Classical.byContradiction
  intro hc
  have:128^(enc7 m).length≤128^((enc7 n).length-1):=Nat.pow_le_pow_right (by decide) (Nat.le_sub_one_of_lt (Nat.not_le.mp hc))
  exact Nat.lt_asymm h (Nat.lt_of_lt_of_le (Nat.lt_of_lt_of_le h4 this) h3)
 ·have hp:0<(enc7 m).length:=List.length_pos_iff.mpr (isRow_ne (enc7_row _))
  exact Nat.le_trans (Nat.not_lt.mp h2) hp
theorem encHead_mono {t n m:Nat} (h:n<m):(encHead t n).length≤(encHead t m).length:=by
 unfold encHead
 split
 ·split<;>simp
 ·rename_i h0
  rw [if_neg (c:=m/16=0) fun q=>h0 (Nat.le_zero.mp (Nat.le_trans (Nat.div_le_div_right (Nat.le_of_lt h)) (Nat.le_of_eq q)))]
  rw [List.length_cons,List.length_cons]
  by_cases e:n/16=m/16
  ·rw [e];exact Nat.le_refl _
  ·have:=enc7_mono (n:=n/16) (m:=m/16) (Nat.lt_of_le_of_ne (Nat.div_le_div_right (Nat.le_of_lt h)) e)
   exact Nat.succ_le_succ ‹_›
theorem encOfs_val (n:Nat):(n:Int)=ofsEdge ((encOfs n).length-1)+hi (encOfs n):=by
 obtain hd:=decOfs_enc n
 obtain hr:=encOfs_row n
 cases e:encOfs n with
 | nil=>rw [e] at hr;exact hr.elim
 | cons x r =>
  rw [e,decOfs,ofsFrom_hi] at hd
  rw [List.length_cons,Nat.add_sub_cancel,hi]
  exact hd.symm.trans (by rw [Int.add_comm (x%128*_),Int.add_assoc])
theorem ofsEdge_le {k j:Nat} (h:k≤j):ofsEdge k≤ofsEdge j:=by
 obtain ⟨d,rfl⟩:∃ d,j=k+d:=⟨j-k,by simp [*]⟩
 clear h
 induction d with
 | zero=>exact Int.le_refl _
 | succ d ih =>
  rw [show k+(d+1)=(k+d)+1 by exact (Nat.add_assoc _ _ _).symm,ofsEdge_succ]
  have:(0:Int)≤128^(k+d+1):=Int.pow_nonneg (by decide)
  grind
theorem encOfs_mono {n m:Nat} (h:n<m):(encOfs n).length≤(encOfs m).length:=by
 apply Classical.byContradiction
 intro hc
 obtain h1:=encOfs_val n
 obtain h2:=encOfs_val m
 obtain h3:=hi_nonneg (encOfs n)
 obtain h4:=hi_lt (encOfs m)
 have hp:0<(encOfs m).length:=List.length_pos_iff.mpr (isRow_ne (encOfs_row _))
 obtain ⟨k,hk⟩:∃ k,(encOfs m).length=k+1:=Nat.exists_eq_succ_of_ne_zero (Nat.ne_of_gt hp)
 rw [hk] at h2 h4 hc
 rw [Nat.add_sub_cancel] at h2
 obtain h5:=ofsEdge_le (k:=k+1) (j:=(encOfs n).length-1) (Nat.le_sub_one_of_lt (Nat.not_le.mp hc))
 rw [ofsEdge_succ] at h5
 have:(m:Int)<n:=by rw [h1,h2];exact Int.lt_of_lt_of_le (Int.lt_of_lt_of_le (Int.add_lt_add_left h4 _) h5) (Int.le_add_of_nonneg_right h3)
 exact Nat.lt_asymm h (Int.ofNat_lt.mp this)
theorem lo_head {t n:Nat} (ht:t<8):lo (encHead t n)=16*t+n%16+128*(n/16):=by
 unfold encHead
 split
 ·rename_i h0
  exact congrArg Nat.cast (show (t*16+n%16)%128+128*0=16*t+n%16+128*(n/16) by rw [h0,Nat.mul_comm 16,Nat.mod_eq_of_lt (head_lt ht)])
 ·rw [lo,lo_enc7]
  exact congrArg Nat.cast (show (t*16+n%16+128)%128+128*(n/16)=16*t+n%16+128*(n/16) by rw [Nat.add_mod_right,Nat.mod_eq_of_lt (head_lt ht),Nat.mul_comm t])
theorem rowOf_row {c k:Int} {n:Nat} (hk:0≤k∧k<8):isRow (rowOf c k n):=by
 unfold rowOf
 split
 ·exact encOfs_row n
 ·split
  ·exact encHead_row (by simp [*])
  ·exact enc7_row n
theorem rowOf_lt {c k:Int} {n m:Nat} (hk:0≤k∧k<8) (h:n<m):(rowOf c k n).length<(rowOf c k m).length∨(rowOf c k n).length=(rowOf c k m).length∧(if c=2 then hi (rowOf c k n)<hi (rowOf c k m) else lo (rowOf c k n)<lo (rowOf c k m)):=by
 revert hk h
 k_call_by "e" [c,k,n,m]
 unfold rowOf
 by_cases h2:c=2
 ·rw [if_pos h2,if_pos h2,if_pos h2]
  obtain h3:=encOfs_mono h
  rcases Nat.lt_or_ge (encOfs n).length (encOfs m).length with h4 | h4
  ·exact .inl h4
  ·have e:(encOfs n).length=(encOfs m).length:=Nat.le_antisymm h3 h4
   refine .inr ⟨e,?_⟩
   obtain h5:=encOfs_val n
   obtain h6:=encOfs_val m
   have h7:=Int.ofNat_lt.mpr h
   rw [e] at h5;rw [h5,h6] at h7;exact Int.lt_of_add_lt_add_left h7
 ·rw [if_neg h2,if_neg h2,if_neg h2]
  by_cases h0:c=0
  ·rw [if_pos h0,if_pos h0]
   obtain h3:=encHead_mono (t:=k.toNat) h
   rcases Nat.lt_or_ge (encHead k.toNat n).length (encHead k.toNat m).length with h4 | h4
   ·exact .inl h4
   ·refine .inr ⟨Nat.le_antisymm h3 h4,?_⟩
    rw [lo_head (by simp [*]),lo_head (by simp [*])];lia
  ·rw [if_neg h0,if_neg h0]
   obtain h3:=enc7_mono h
   rcases Nat.lt_or_ge (enc7 n).length (enc7 m).length with h4 | h4
   ·exact .inl h4
   ·refine .inr ⟨Nat.le_antisymm h3 h4,?_⟩
    rw [lo_enc7,lo_enc7];exact Int.ofNat_lt.mpr ‹_›
theorem rowOf_len {c k:Int} {n:Nat} (h:n<2^70):(rowOf c k n).length≤12:=by
 have h7:(2:Nat)^70=128^(9+1):=by decide
 unfold rowOf
 split
 ·have:=encOfs_len (k:=9) (n:=n) (by omega);exact Nat.le_trans ‹_› (by decide)
 ·split
  ·have:=encHead_len (t:=k.toNat) (k:=9) (n:=n) (by exact Nat.lt_trans ‹_› (by decide));exact Nat.le_trans ‹_› (by decide)
  ·have:=enc7_len (k:=9) (n:=n) (by omega);exact Nat.le_trans ‹_› (by decide)
theorem rowOf_key {c k:Int} {n m:Nat} (hk:0≤k∧k<8) (hn:n<2^70) (hm:m<2^70) (h:n<m):bltB (keyOf c (rowOf c k n)) (keyOf c (rowOf c k m))=true :=
 key_lt (rowOf_row hk) (rowOf_row hk) (by have:=rowOf_len (c:=c) (k:=k) hn;exact Nat.le_trans ‹_› (by decide)) (by have:=rowOf_len (c:=c) (k:=k) hm;exact Nat.le_trans ‹_› (by decide)) (rowOf_lt hk h)
theorem rowOf_inj {c k:Int} {n m:Nat} (hk:0≤k∧k<8) (h:rowOf c k n=rowOf c k m):n=m:=by
 revert hk h
 k_call_by "e" [c,k,n,m]
 rcases Nat.lt_trichotomy n m with h1 | h1 | h1
 ·have:=rowOf_lt (c:=c) hk h1
  rw [h] at this
  rcases this with h2 | ⟨_,h2⟩
  ·exact absurd h2 (Nat.lt_irrefl _)
  ·split at h2<;>exact absurd h2 (Int.lt_irrefl _)
 ·exact h1
 ·have:=rowOf_lt (c:=c) hk h1
  rw [h] at this
  rcases this with h2 | ⟨_,h2⟩
  ·exact absurd h2 (Nat.lt_irrefl _)
  ·split at h2<;>exact absurd h2 (Int.lt_irrefl _)
end DL
section
namespace DL
variable {C:Cx} {sha:Addr} {fm:Addr→Option Int}
noncomputable def lmOf:Option Stmt→Expr
 | some (.Return (some (.Call _ [_,_,_,e] _ _)) _)=>e
 | _=>.Constant .none 0 default
noncomputable abbrev lmExpr:Expr:=lmOf (fdBody 24)[0]?
noncomputable def lmScopeO:Expr→Scope
 | .Lambda _ _ sc _=>sc
 | _=>{ kind:=.module,names:=[],isGenerator:=false,isCoroutine:=false,more:=[] }
noncomputable abbrev lmScope:Scope:=lmScopeO lmExpr
noncomputable def lmArgsO:Expr→Arguments
 | .Lambda a _ _ _=>a
 | _=>default
noncomputable abbrev lmArgs:Arguments:=lmArgsO lmExpr
noncomputable def lmBodyO:Expr→Expr
 | .Lambda _ b _ _=>b
 | e=>e
noncomputable abbrev lmBody:Expr:=lmBodyO lmExpr
noncomputable def lmPosO:Expr→Pos
 | .Lambda _ _ _ p=>p
 | _=>default
noncomputable abbrev lmPos:Pos:=lmPosO lmExpr
theorem lm_kinds:kindsOf lmScope=[(83,.local),(36,.free),(61,.free),(14,.globalImplicit),(25,.globalImplicit)]:=by kernel_rfl
theorem lm_sc:scOk lmScope=true:=by kernel_rfl
noncomputable abbrev qualLm:Str:=(fdName 24 ++ ".<locals>.") ++ "<lambda>"
noncomputable def ckOk (c k:Int):Prop:=c=0∧1≤k∧k<5∨(c=1∨c=2)∧k=0
theorem ckOk.c {c k:Int} (h:ckOk c k):c=0∨c=1∨c=2:=h.elim (fun h=>.inl h.1) fun h=>.inr h.1
theorem ckOk.k {c k:Int} (h:ckOk c k):0≤k∧k<8:=by
 rcases h with ⟨_,h1,h2⟩ | ⟨_,rfl⟩
 ·exact ⟨Int.le_trans (by decide) h1,Int.lt_trans h2 (by decide)⟩
 ·exact ⟨by decide,by decide⟩
noncomputable def spLam (c k:Int):Spec:=fun xs H Q _=>∃ i:Nat,xs=[.int i]∧ckOk c k∧i<2^70∧∀ H',Ext H H'→Q (.bytes (keyOf c (rowOf c k i))) H'
theorem lm_ok (W:Wd C sha fm) (hsha:∃ k,fm sha=some k) (F:Fk C) (hl:2<C.lv) {f:Addr} {c k:Int} {cl:List (Str×Addr)} {d pm ct:Value} {c':Addr} {name qual:Str}
  (D:CloAt C f (fdOf name qual lmArgs (.expr lmBody) lmScope cl d pm c' ct) lmScope cl qual (.ref c')) (Fr:Frees C lmScope cl [(36,.int c),(61,.int k)]):FnN C (.ref f) (spLam c k) :=
 clo_okE F (by exact Nat.lt_of_le_of_lt (Nat.zero_le _) ‹_›) D (ps:=[Str.ofString "place"]) (ks:=[83]) {
  bind:=fun vs h=>by
   match vs,h with
   | [a0],_=>rfl
  codes:=by kernel_rfl
  nodup:=by decide +kernel
  kinds:=by intro x hx;rw [List.mem_singleton] at hx;subst hx;rfl
  co:=rfl
  gen:=rfl
  kind:=rfl
  nocell:=by decide +kernel } Fr rfl fun C0 hC0 xs H Q X h=>by
  obtain ⟨i,rfl,hck,hi,hQ⟩:=h
  revert W hsha F hl D Fr hC0 hck hi hQ
  k_call_by "e" [C,sha,fm,f,c,k,cl,d,pm,ct,c',name,qual,C0,H,Q,X,i]
  refine ⟨rfl,fun L mc F1 L1=>?_⟩
  revert F1 L1
  k_call_by "e" [L,mc]
  have W0:Wd C0 sha fm:=by obtain ⟨⟨e,f,w,rfl⟩,_⟩:=hC0;exact W
  have hlv0:C0.lv=C.lv:=by obtain ⟨⟨e,f,w,rfl⟩,_⟩:=hC0;rfl
  have K:=mkCkX (sc:=lmScope) (qual:=qual) (C0:=C0) (mc:=mc) (L:=L) (a:=f) (cd:=.ref c') (cl:=cl) W0 (F.like hC0).handled (Nat.lt_of_le_of_lt (Nat.add_le_add_right (Nat.le_add_right _ _) 16) F1.fk.units) lm_sc
   (gam:=[(14,spLawKey),(25,spLawWritten fm)]) (fun x k sp u hx hk hu=>by
    have W1:Wd (calleeC C0 mc (envX qual lmScope L f (.ref c') cl)) sha fm:=W0
    have hlv:(calleeC C0 mc (envX qual lmScope L f (.ref c') cl)).lv=C.lv-1:=by show C0.lv-1=_;rw [hlv0]
    rw [List.lookup_cons] at hk
    split at hk
    ·rename_i e
     have:=eq_of_beq e;subst this;cases hk
     exact F_law_key W1 F1.fk (lvq hl hlv (by decide)) x (nmc_inj hx nm_law_key) u hu
    ·rw [List.lookup_cons] at hk
     split at hk
     ·rename_i e
      have:=eq_of_beq e;subst this;cases hk
      exact F_law_written W1 hsha F1.fk (lvq hl hlv (by decide)) x (nmc_inj hx nm_law_written) u hu
     ·simp at hk)
  refine ⟨_,K,?_⟩
  have hk8:=hck.k
  have hrl:=rowOf_len (c:=c) (k:=k) hi
  have hro:=rowOf_row (c:=c) (n:=i) hk8
  have h3000:(2:Nat)^70<2^3000:=Nat.pow_lt_pow_right (by decide) (by decide)
  have h7:(2:Nat)^70=128^(9+1):=by decide
  have hehl:(encHead k.toNat i).length≤400:=by
   have:=encHead_len (t:=k.toNat) (k:=9) (n:=i) (by exact Nat.lt_trans ‹_› (by decide));exact Nat.le_trans ‹_› (by decide)
  show wE lmBody _ [(83,V.int i),(36,.int c),(61,.int k)] H Q X
  conv=>arg 1;whnf
  k_call_by "x" [gn_kinds,gn_hd,gn_gam,gn_ba,gn_fnv,gn_forms,gn_globs,lm_kinds]
  exact ⟨c,k,i,rfl,hck,hehl,by exact Nat.le_trans ‹_› (by decide),isRow_oct hro,Nat.lt_trans hi h3000,fun H' r hE hr hr'=>⟨c,r,_,rfl,hr',by exact Nat.le_trans ‹_› (by decide),isRow_oct hro,fun H2 hE2=>hQ _ (hE.trans hE2)⟩⟩
theorem t_ret_lam {g:Ge} {P:Kp} {m:Loc} {H:Hp} (K:CkN C g) (hns:∀ h:Heap,(∀ b o,C.base b=some o→h.get? b=some o)→h.Ns mainGlobals C.mg) {T:Addr} (tf:TabF C.mg C.base C.env.code T) {fn x1 x2 f3:Str} {kf:Nat} {np p1 p2 p3 q3 cpos rpos lpos:Pos} {a3:List Expr} {lp:Arguments} {lb:Expr} {ls:Scope} {Q:QS} {X:XSt} {fa:Addr} {fo:Obj} {fd:FuncData}
  (hkf:nmc fn=some kf) (hkk:g.kinds.lookup kf=some .globalImplicit) (hgl:g.globs.lookup kf=some (.gl kf)) (hmf:C.mg fn=some (.ref fa)) (hbf:C.base fa=some fo) (hdf:fo.data = .func fd)
  (hdef:defaultsOf lp C.env=([],[])) (hfree:∀ x∈ls.names,x.2 = .free→∃ a,C.env.cells.lookup x.1=some a)
  (h:wL [.Name x1 p1,.Name x2 p2,.Call (.Name f3 p3) a3 [] q3] g m H (fun xs H1=>tabI T lpos (C.env.qual ++ "<lambda>") H1 ∧
   ∀ (s1:Shared) (v:Value) (vs:List Value),MadeQ C P m H1 T "<lambda>" (C.env.qual ++ "<lambda>") lp (.expr lb) ls (closL C.env ls.names []) lpos v s1→VRs C.mg vs xs →
    wpN (Md C) C.A (call (.ref fa) (vs++[v])) (fun v s'=>RF C P Q (.ret v) s') (XS C P X) s1) (fun xn H1=>X xn m H1)) :
  W1N C P m H (.Return (some (.Call (.Name fn np) [.Name x1 p1,.Name x2 p2,.Call (.Name f3 p3) a3 [] q3,.Lambda lp lb ls lpos] [] cpos)) rpos) Q X:=fun s S=>by
 refine nReturn ?_
 show wpN _ _ (do callWith cpos (← eval (.Name fn np) C.env) [] (backTo cpos (starEach [.Name x1 p1,.Name x2 p2,.Call (.Name f3 p3) a3 [] q3,.Lambda lp lb ls lpos] C.env)) (backToKw cpos (keywordEach [] C.env))) _ _ s
 have hname:wE (.Name fn np) g m H (fun v H1=>v = .gl kf∧H1=H) (fun xn H1=>X xn m H1):=by
  exact oE_i (nameR_g hkf hkk hgl) ⟨rfl,rfl⟩
 refine nBind (nMono ((wE_okN (.Name fn np) K S).1 _ _ hname) (fun fv s1 h1=>?_) fun _ _ x=>XS_of x)
 obtain ⟨z,H1,hv,S1,rfl,rfl⟩:=h1
 obtain u90:=()
 obtain u91:=()
 obtain u92:=()
 revert K hns tf hkf hkk hgl hmf hbf hdf hdef hfree S1 hv h S hname
 k_call_by "e" [C,g,P,m,T,fn,x1,x2,f3,kf,np,p1,p2,p3,q3,cpos,rpos,lpos,a3,lp,lb,ls,Q,X,fa,fo,fd,s,fv,s1,H1,u90,u91,u92]
 obtain ⟨y,hy,hy2⟩:=hv
 obtain rfl:=nmc_inj hkf hy
 rw [hmf] at hy2;cases hy2
 refine nWith_function (o:=fo) (fd:=fd) rfl ?_
 refine nArgs_plain (f:=.ref fa) ?_
 refine nSpl_cons (nMono ((wE_okN (.Name x1 p1) K S1).1 _ _ h) (fun v1 s2 h2=>?_) fun _ _ x=>XS_of x)
 obtain ⟨z1,H2,hv1,S2,h2⟩:=h2
 refine nSpl_cons (nMono ((wE_okN (.Name x2 p2) K S2).1 _ _ h2) (fun v2 s3 h3=>?_) fun _ _ x=>XS_of x)
 obtain ⟨z2,H3,hv2,S3,h3⟩:=h3
 refine nSpl_cons (nMono ((wE_okN (.Call (.Name f3 p3) a3 [] q3) K S3).1 _ _ h3) (fun v3 s4 h4=>?_) fun _ _ x=>XS_of x)
 obtain ⟨z3,H4,hv3,S4,hI,h4⟩:=h4
 refine nSpl_cons (nOf (kla_eval hdef (wpAny_mono (make_ok S4 hns tf K.base.globals (closureFor_ok hfree) hI (fun _ _=>trivial)) (fun v4 s5 h5=>?_) fun _ _ x=>x)))
 refine nSpl_nil ⟨⟨?_,hdf⟩,?_⟩
 ·obtain ⟨_,_,_,_,_,_,_,_,_,_,_,_,_,_,_,_,_,_,_,_,_,_,S5⟩:=h5
  exact S5.base _ _ hbf
 ·exact h4 s5 v4 [v1,v2,v3] h5 (.cons hv1 (.cons hv2 (.cons hv3 .nil)))
noncomputable def spLawHalved (T:Addr):Spec:=fun xs H Q _=>∃ (c k:Int) (a:Addr) (ns:List Int) (lo hi:Int),xs=[.int c,.int k,.ref a,.int lo,.int hi]∧ckOk c k∧H a=some (.list (vInts ns))∧ns.length≤255∧(∀ i∈ns,isOctet i)∧0≤lo∧lo≤hi∧hi-lo≤1000∧hi<2^70 ∧
 tabI T lmPos qualLm H∧∀ H',ExtT T H H'→tabI T lmPos qualLm H'→(∀ i,lo≤i→i≤hi→rowOf c k i.toNat=ns→Q (.int i) H')∧((∀ i,lo≤i→i≤hi→rowOf c k i.toNat≠ns)→Q .none H')
theorem F_law_halved (W:Wd C sha fm) (hsha:∃ k,fm sha=some k) (F:Fk C) (hl:4<C.lv) {tab:Nat→Addr} (TB:TabsF C.mg C.base tab):∀ x,x=fdName 24→∀ u,C.mg x=some u→FnN C u (spLawHalved (tab 24)) :=
 fn_ok2 W F (by exact Nat.lt_of_le_of_lt (Nat.zero_le _) ‹_›) (by decide) sc_24 pl_24 [(14,spLawKey)] (fun C' hS W' F' hlv e he=>by
  rw [List.mem_singleton] at he;subst he
  exact fun x hx=>F_law_key W' F' (lvq hl hlv (by decide)) x (nmc_inj hx nm_law_key)) (fun xs H Q X h=>by
  revert W hsha F hl TB h
  k_call_by "e" [C,sha,fm,tab,xs,H,Q,X]
  obtain ⟨c,k,a,ns,lo,hi,rfl,hck,ha,hlen,hoc,hlo,hle,hd1000,h70,hI,hQ⟩:=h
  refine ⟨rfl,fun C0 mc L a0 cd P hC0 hcd K F1 L1=>?_⟩
  obtain u0:=()
  revert W hsha F hl TB hck ha hlen hoc hlo hle hd1000 h70 hI hQ hC0 hcd K F1 L1
  k_call_by "e" [C,sha,fm,tab,H,Q,X,c,k,a,ns,lo,hi,C0,mc,L,a0,cd,P,u0]
  obtain ⟨o9,pm9,doc9,hm9,ho9,hd9⟩:=hcd
  have tf:TabF (ctx 24 C0 mc L a0 cd).mg (ctx 24 C0 mc L a0 cd).base (ctx 24 C0 mc L a0 cd).env.code (tab 24):=by
   have:=TB 24 (by decide) a0 o9 pm9 doc9 cd hm9 ho9 hd9
   obtain ⟨⟨e,f,w,rfl⟩,_⟩:=hC0
   exact this
  have W0:Wd (ctx 24 C0 mc L a0 cd) sha fm:=W.ctx hC0
  have hlv:(ctx 24 C0 mc L a0 cd).lv=C.lv-1:=lv_ctx hC0
  obtain ⟨fa,fo,fpm,fdoc,fcd,hmf,hbf,hdf,_⟩:=W0.fn 7 (by decide)
  refine t_cons ?_
  refine t_ret_lam (T:=tab 24) K W0.ns tf nm_bisect_find_sha (by rw [g_kinds,kd_24];rfl) gl_30 hmf hbf hdf rfl ?_ ?_
  ·intro x hx hfr
   simp only [List.mem_cons,List.not_mem_nil,or_false] at hx
   rcases hx with rfl | rfl | rfl | rfl | rfl
   ·cases hfr
   ·exact L1.cell _ (by kernel_rfl)
   ·exact L1.cell _ (by kernel_rfl)
   ·cases hfr
   ·cases hfr
  ·k_call_by "x" []
   refine ⟨c,a,ns,rfl,ha,hlen,hoc,fun H1 hE1=>⟨hI.ext hE1,fun s1 v vs hm hvs=>?_⟩⟩
   obtain ⟨f,c',oc,vs9,t,d,pm,ct,rfl,e1,e2,e3,e4,e5,e6,e7,e8,e9,e10,e11,e12,e13,S1⟩:=hm
   have hcs:∀ x∈[Str.ofString "code",Str.ofString "kind"],(ctx 24 C0 mc L a0 cd).env.kindOf x=some .cell:=fun x hx=>by
    simp only [List.mem_cons,List.not_mem_nil,or_false] at hx
    rcases hx with rfl | rfl<;>kernel_rfl
   have hcs2:∀ x,(ctx 24 C0 mc L a0 cd).env.kindOf x=some .cell→x∈[Str.ofString "code",Str.ofString "kind"]:=fun x hx=>by
    have hx:(fdScope 24).names.lookup x=some .cell:=hx
    obtain hm:=mem_of_lookup' hx
    have:∀ p∈(fdScope 24).names,p.2 = .cell→p.1∈[Str.ofString "code",Str.ofString "kind"]:=by decide +kernel
    exact this _ hm rfl
   obtain ⟨hp1,hp2⟩:=pins S1 L1.wr hcs (f:=f) (c':=c') (by rw [tabH_ne e2 e1];exact e4) (tabH_c e3) e7 e8
   obtain has:=pins_own hcs2 (f:=f) (c':=c') L1.wr
   obtain D:=clo_frz (C:=ctx 24 C0 mc L a0 cd) (s:=s1) (as:=f::c'::cellAs (ctx 24 C0 mc L a0 cd) [Str.ofString "code",Str.ofString "kind"]) (.head _) (.tail _ (.head _)) e9 e10 e11 e12 W0.nolimit S1.base
   obtain Fr:=frees_frz (C:=ctx 24 C0 mc L a0 cd) S1 (scope:=lmScope) [(Str.ofString "code",36,.int c),(Str.ofString "kind",61,.int k)] (fun e he=>by
    simp only [List.mem_cons,List.not_mem_nil,or_false] at he
    rcases he with rfl | rfl
    ·exact ⟨nm_code,by kernel_rfl,by kernel_rfl,rfl⟩
    ·exact ⟨nm_kind,by kernel_rfl,by kernel_rfl,rfl⟩) has
   have W1:Wd (frzC (ctx 24 C0 mc L a0 cd) (f::c'::cellAs (ctx 24 C0 mc L a0 cd) [Str.ofString "code",Str.ofString "kind"]) s1.heap) sha fm:=W0.more fun b o e=>frzB_sub S1.base e
   obtain FB:=F_bisect W1 F1.fk.frz (lvq hl hlv (by decide)) f (spLam c k) (fun C2 hs W2 F2 hl2=>lm_ok W2 hsha F2 (by rw [hl2];exact Nat.lt_sub_of_add_lt (lvq hl hlv (by decide))) (D.same hs) (Fr.same hs)) _ rfl _ hmf
   have hT:tabH H1 (tab 24) lmPos c' (tab 24)=some (tab1 lmPos c'):=tabH_T
   have hk8:=hck.k
   have hlt:∀ i:Int,0≤i→i≤hi→i.toNat<2^70:=fun i h1 h2=>by
    exact Int.ofNat_lt.mp (by rw [Int.toNat_of_nonneg h1];exact Int.lt_of_le_of_lt h2 h70)
   have hklen:∀ i:Int,0≤i→i≤hi→(rowOf c k i.toNat).length≤255:=fun i h1 h2=>by
    have:=rowOf_len (c:=c) (k:=k) (hlt i h1 h2);exact Nat.le_trans ‹_› (by decide)
   have back:∀ H2,Ext (tabH H1 (tab 24) lmPos c') H2→ExtT (tab 24) H (upd H2 c' (.raw oc))∧tabI (tab 24) lmPos qualLm (upd H2 c' (.raw oc)):=fun H2 hE2 =>
    ⟨(ExtT.of hE1).trans (tab_back e3 hE2 e13),tab_backI e3 (hE2 _ _ hT) e11 e12⟩
   refine nMono (FB.2 _ (Like.refl _) _ _ _ _ (vs++[Value.ref f]) [.int lo,.int hi,.bytes (keyOf c ns),.ref f] (fun v H2=>Q v (upd H2 c' (.raw oc))) (fun _ _=>False) (S1.freeze hp1 hp2) (hvs.snoc rfl) ?_) (fun v s' hv=>?_) fun v s' hx=>xp_false hx
   ·refine ⟨lo,hi,keyOf c ns,fun i=>keyOf c (rowOf c k i.toNat),fun l H'=>Ext (tabH H1 (tab 24) lmPos c') H',rfl,fun h=>absurd h (Int.not_lt.mpr hle),fun _=>⟨hd1000,Ext.refl _,?_,?_,?_⟩⟩
    ·intro i l H2 Q2 X2 hi1 hi2 _ hI2 hQ2
     exact ⟨i.toNat,by rw [Int.toNat_of_nonneg (Int.le_trans hlo hi1)],hck,hlt i (Int.le_trans hlo hi1) hi2,fun H' hE'=>hQ2 _ (hI2.trans hE')⟩
    ·intro i j hi1 hij hj
     by_cases e:i=j
     ·subst e;exact blt_irrefl _
     ·exact blt_asymm (rowOf_key hk8 (hlt i (Int.le_trans hlo hi1) (Int.le_trans hij hj)) (hlt j (Int.le_trans hlo (Int.le_trans hi1 hij)) hj) ((Int.toNat_lt_toNat (Int.lt_of_le_of_lt (Int.le_trans hlo hi1) (Int.lt_iff_le_and_ne.mpr ⟨hij,e⟩))).mpr (Int.lt_iff_le_and_ne.mpr ⟨hij,e⟩)))
    ·intro H2 l hI2 _ _
     obtain ⟨b1,b2⟩:=back H2 hI2
     obtain ⟨q1,q2⟩:=hQ _ b1 b2
     refine ⟨fun i hi1 hi2 hk2=>q1 i hi1 hi2 (key_inj (isRow_oct (rowOf_row hk8)) hoc (hklen i (by lia) hi2) hlen hk2),fun hno=>q2 fun i hi1 hi2 he=>hno i hi1 hi2 ?_⟩
     show keyOf c (rowOf c k i.toNat)=keyOf c ns
     rw [he]
   ·obtain ⟨z,H2,hz,S2,hq⟩:=hv
    exact ⟨.ret z,_,_,hz,S1.thaw2 (pins_own hcs2) (.tail _ (.head _)) e6 e10 e11 S2,hq⟩)
end DL
end
section
namespace DL
variable {C:Cx} {sha:Addr} {fm:Addr→Option Int}
noncomputable abbrev dr:Option Stmt:=(fdBody 33)[0]?
theorem dr_kinds:kindsOf (nsScope dr)=[(83,.local),(92,.free),(64,.globalImplicit)]:=by kernel_rfl
theorem dr_sc:scOk (nsScope dr)=true:=by kernel_rfl
noncomputable def spDraw (so:Obj) (sc:Addr):Spec:=fun xs H Q _=>∃ (p:Int) (ns:List Int),xs=[.int p]∧0≤p∧H sc=some (.ilist so (vInts ns))∧ns.length≤1000∧∀ z:Int,Q (.int z) H
theorem dr_ok (W:Wd C sha fm) (F:Fk C) (hl:0<C.lv) {f sc:Addr} {so:Obj} {cl:List (Str×Addr)} {d pm ct:Value} {c':Addr} {name qual:Str}
  (D:CloAt C f (fdOf name qual (nsArgs dr) (.stmts (nsBody dr)) (nsScope dr) cl d pm c' ct) (nsScope dr) cl qual (.ref c')) (Fr:Frees C (nsScope dr) cl [(92,.ref sc)]):FnN C (.ref f) (spDraw so sc) :=
 clo_ok F hl D (ps:=[Str.ofString "place"]) (ks:=[83]) {
  bind:=fun vs h=>by
   match vs,h with
   | [a0],_=>rfl
  codes:=by kernel_rfl
  nodup:=by decide +kernel
  kinds:=by intro x hx;rw [List.mem_singleton] at hx;subst hx;rfl
  co:=rfl
  gen:=rfl
  kind:=rfl
  nocell:=by decide +kernel } Fr rfl fun C0 hC0 xs H Q X h=>by
  obtain ⟨p,ns,rfl,h0,h1,h2,hQ⟩:=h
  obtain u90:=()
  revert W F hl D Fr hC0 h0 h1 h2 hQ
  k_call_by "e" [C,sha,fm,f,sc,so,cl,d,pm,ct,c',name,qual,C0,H,Q,X,p,ns,u90]
  refine ⟨rfl,fun L mc P' F1 L1=>?_⟩
  have W0:Wd C0 sha fm:=by obtain ⟨⟨e,f,w,rfl⟩,_⟩:=hC0;exact W
  have K:=mkCkX (sc:=nsScope dr) (qual:=qual) (C0:=C0) (mc:=mc) (L:=L) (a:=f) (cd:=.ref c') (cl:=cl) W0 (F.like hC0).handled (Nat.lt_of_le_of_lt (Nat.add_le_add_right (Nat.le_add_right _ _) 16) F1.fk.units) dr_sc (gam:=[]) (by simp)
  show WSN _ P' [(83,V.int p),(92,.ref sc)] H _ _ _
  refine t_cons ?_
  refine t_return K ?_
  cases ns with
  | nil =>
   k_call_by "x" [gn_kinds,gn_hd,gn_gam,gn_ba,gn_fnv,gn_forms,gn_globs,dr_kinds,h1,vInts_nil]
   exact hQ p
  | cons n0 r0 =>
   have hne:(vInts (n0::r0)).isEmpty=false:=rfl
   have hpos:0<(((n0::r0).length:Nat):Int):=by simp only [List.length_cons];simp
   generalize hns:n0::r0=ns at *
   have hat:∃ x,at? (vInts ns) (p%(ns.length:Int))=some (.int x):=by
    have h3:0≤p%(ns.length:Int)∧p%(ns.length:Int)<ns.length:=⟨Int.emod_nonneg _ (by exact Int.ne_of_gt ‹_›),Int.emod_lt_of_pos _ hpos⟩
    obtain ⟨j,hj⟩:∃ j:Nat,p%(ns.length:Int)=j:=⟨(p%(ns.length:Int)).toNat,by lia⟩
    rw [hj] at h3 ⊢
    have h4:j<ns.length:=by lia
    exact ⟨ns[j],at_nat (List.getElem?_eq_getElem h4)⟩
   obtain ⟨x,hx⟩:=hat
   k_call_by "x" [gn_kinds,gn_hd,gn_gam,gn_ba,gn_fnv,gn_forms,gn_globs,dr_kinds,h1,hne,vInts_len,hx]
   exact ⟨hpos,⟨hpos,lt_DIV (by exact Int.ofNat_lt.mpr (Nat.lt_of_le_of_lt ‹_› (by decide)))⟩,hQ _⟩
end DL
end
namespace DL
theorem wideB {a b:Int} (h0:0≤a) (h:a≤2^58):0≤max 0 (a+b%5-2)∧max 0 (a+b%5-2)<2^60 :=
 ⟨Int.le_max_left _ _,Int.max_lt.mpr ⟨by decide,Int.lt_of_le_of_lt (Int.sub_le_self _ (by decide)) (Int.lt_of_lt_of_le (Int.add_lt_add_of_le_of_lt h (Int.emod_lt_of_pos b (by decide))) (by decide))⟩⟩
theorem lawWide_bound (n:Int):0≤lawWide n∧lawWide n<2^60:=by
 have h17:(10:Int)^17<2^60:=by decide
 unfold lawWide
 split
 ·exact ⟨Int.emod_nonneg _ (by decide),Int.lt_trans (Int.emod_lt_of_pos _ (by decide)) (by decide)⟩
 ·split
  ·exact ⟨Int.emod_nonneg _ (by decide),Int.lt_trans (Int.emod_lt_of_pos _ (by decide)) h17⟩
  ·split
   ·have h1:(n/4*4%9).toNat≤8:=Int.toNat_le.mpr (Int.le_of_lt_add_one (show _<(8:Int)+1 from Int.emod_lt_of_pos _ (by decide)))
    have h2:=ofsEdge_le h1
    exact wideB (ofsEdge_nonneg _) (Int.le_trans h2 (by decide))
   ·have h1:(n/4*7%59).toNat≤58:=Int.toNat_le.mpr (Int.le_of_lt_add_one (show _<(58:Int)+1 from Int.emod_lt_of_pos _ (by decide)))
    have h2:(2:Nat)^(n/4*7%59).toNat≤2^58:=Nat.pow_le_pow_right (by decide) h1
    have h3:(2:Int)^(n/4*7%59).toNat≤2^58:=by exact_mod_cast h2
    exact wideB (Int.pow_nonneg (by decide)) h3
theorem lawWide_nat (n:Int):∃ s:Nat,lawWide n=s∧s<2^60:=by
 obtain ⟨s,hs⟩:=Int.eq_ofNat_of_zero_le (lawWide_bound n).1
 exact ⟨s,hs,Int.ofNat_lt.mp (hs▸(lawWide_bound n).2)⟩
theorem lawName_len {n k:Int} (h:2≤k):((lawName n k).length:Int)=k:=by
 unfold lawName
 simp only [List.length_append,ofOcts_len,rep_len,List.length_cons,List.length_nil]
 obtain ⟨j,hj⟩:=Int.eq_ofNat_of_zero_le (Int.sub_nonneg_of_le h)
 obtain rfl:k=j+2:=Int.sub_eq_iff_eq_add.mp hj
 rw [hj]
 exact congrArg Nat.cast (show 0+1+j*1+1=j+2 by rw [Nat.mul_one,Nat.zero_add,Nat.add_comm 1])
theorem takeMsb_app {D X:List UInt8} {l:List Int} (h:takeMsb D=some l):takeMsb (D++X)=some l:=by
 induction D generalizing l with
 | nil=>cases h
 | cons c r ih =>
  rw [List.cons_append]
  unfold takeMsb at h ⊢
  split at h
  ·rename_i hc;rw [if_pos hc];exact h
  ·rename_i hc
   rw [if_neg hc]
   cases q:takeMsb r with
   | none=>rw [q] at h;cases h
   | some l'=>rw [q] at h;rw [ih q];exact h
theorem takeMsb_row:∀ {l:List Int} {X:List UInt8},isRow l→takeMsb (ofOcts l++X)=some l
 | [x],X,h=>by
  show takeMsb (UInt8.ofNat x.toNat::X)=_
  obtain h0:=h.1
  obtain h1:=h.2
  have e:(UInt8.ofNat x.toNat).toNat=x.toNat:=by rw [UInt8.toNat_ofNat'];exact Nat.mod_eq_of_lt ((Int.toNat_lt h0).mpr (Int.lt_trans h1 (by decide)))
  unfold takeMsb
  rw [if_pos (by rw [e];simp [*]),e]
  congr 2;exact Int.toNat_of_nonneg ‹_›
 | x::y::t,X,h=>by
  show takeMsb (UInt8.ofNat x.toNat::(ofOcts (y::t)++X))=_
  obtain h0:=h.1.1
  obtain h1:=h.1.2
  have e:(UInt8.ofNat x.toNat).toNat=x.toNat:=by rw [UInt8.toNat_ofNat'];simp [*]
  unfold takeMsb
  rw [if_neg (by rw [e];simp [*]),takeMsb_row h.2,e,Option.map_some,Int.toNat_of_nonneg (Int.le_trans (by decide) h0)]
theorem takeMsb_at {B X:List UInt8} {l:List Int} {off:Nat} (h:takeMsb (B.drop off)=some l):takeMsb ((B++X).drop off)=some l:=by
 by_cases ho:off≤B.length
 ·rw [List.drop_append_of_le_length ho];exact takeMsb_app h
 ·rw [List.drop_eq_nil_of_le (by lia)] at h;cases h
theorem takeMsb_isRow:∀ {D:List UInt8} {l:List Int},takeMsb D=some l→isRow l
 | [],l,h=>by cases h
 | c::r,l,h=>by
  unfold takeMsb at h
  split at h
  ·cases h;exact ⟨by exact Int.natCast_nonneg _,by exact Int.ofNat_lt.mpr ‹_›⟩
  ·rename_i hc
   cases q:takeMsb r with
   | none=>rw [q] at h;cases h
   | some l' =>
    rw [q] at h;cases h
    have:=c.toNat_lt
    exact (isRow_cons (isRow_ne (takeMsb_isRow q))).mpr ⟨⟨by lia,by exact Int.ofNat_lt.mpr ‹_›⟩,takeMsb_isRow q⟩
theorem chainB_app {B X:List UInt8}:∀ {Ps:List (Addr×List Int)} {off:Nat},chainB B off Ps→chainB (B++X) off Ps
 | [],_,_=>trivial
 | _::_,_,h=>⟨takeMsb_at h.1,chainB_app h.2⟩
noncomputable def ExtB (bad:List Addr) (H H':Hp):Prop:=∀ a o,a∉bad→H a=some o→H' a=some o
theorem ExtB.of {bad:List Addr} {H H':Hp} (h:Ext H H'):ExtB bad H H':=fun a o _ e=>h a o e
theorem ExtB.refl {bad:List Addr} {H:Hp}:ExtB bad H H:=fun _ _ _ e=>e
theorem ExtB.trans {bad:List Addr} {H H' H'':Hp} (h:ExtB bad H H') (h':ExtB bad H' H''):ExtB bad H H'':=fun a o n e=>h' a o n (h a o n e)
theorem ExtB.upd {bad:List Addr} {H H':Hp} {a:Addr} {o:O} (h:ExtB bad H H') (ha:a∈bad):ExtB bad H (upd H' a o):=fun b o' n e=>by
 rw [upd_ne (fun q:b=a=>n (by rw [q];exact ha))];exact h b o' n e
noncomputable def EntryOk (bad:List Addr) (B:List UInt8) (H:Hp) (en:Addr):Prop:=∃ (off:Nat) (kind size far:Int) (rw tl ps:Addr) (R T:List Int) (Ps:List (Addr×List Int)),
 (en∉bad∧rw∉bad∧tl∉bad∧ps∉bad∧∀ p∈Ps,p.1∉bad) ∧
 H en=some (.tuple [.int off,.int kind,.int size,.int far,.ref rw,.ref tl,.ref ps])∧H rw=some (.list (vInts R))∧H tl=some (.list (vInts T))∧H ps=some (.list (Ps.map fun p=>.ref p.1)) ∧
 (∀ p∈Ps,H p.1=some (.list (vInts p.2)))∧takeMsb (B.drop off)=some R∧(∀ i∈R,isOctet i)∧R.length≤400∧decKind R=kind∧decSize R=size ∧
 (kind=6→takeMsb (B.drop (off+R.length))=some T∧(∀ i∈T,isOctet i)∧T.length≤400∧decOfs T=far∧far≠0∧∃ z,T.getLast?=some z∧z<128) ∧
 chainB B (off+R.length+T.length) Ps∧off+R.length+T.length≤80000
theorem EntryOk.app {bad:List Addr} {B X:List UInt8} {H:Hp} {en:Addr} (h:EntryOk bad B H en):EntryOk bad (B++X) H en:=by
 revert h
 k_call_by "e" [bad,B,X,H,en]
 obtain ⟨off,kind,size,far,rw0,tl,ps,R,T,Ps,h0,h1,h2,h3,h4,h5,h6,h7,h8,h9,h10,h11,h12,h13⟩:=h
 exact ⟨off,kind,size,far,rw0,tl,ps,R,T,Ps,h0,h1,h2,h3,h4,h5,takeMsb_at h6,h7,h8,h9,h10,fun e=>⟨takeMsb_at (h11 e).1,(h11 e).2⟩,chainB_app h12,h13⟩
theorem EntryOk.ext {bad:List Addr} {B:List UInt8} {H H':Hp} {en:Addr} (h:EntryOk bad B H en) (hX:ExtB bad H H'):EntryOk bad B H' en:=by
 revert h hX
 k_call_by "e" [bad,B,H,H',en]
 obtain ⟨off,kind,size,far,rw0,tl,ps,R,T,Ps,h0,h1,h2,h3,h4,h5,h6⟩:=h
 exact ⟨off,kind,size,far,rw0,tl,ps,R,T,Ps,h0,hX _ _ h0.1 h1,hX _ _ h0.2.1 h2,hX _ _ h0.2.2.1 h3,hX _ _ h0.2.2.2.1 h4,fun p hp=>hX _ _ (h0.2.2.2.2 p hp) (h5 p hp),h6⟩
end DL
section
namespace DL
variable {C:Cx} {g:Ge} {P:Kp} {m:Loc} {H:Hp} {s:Shared}
theorem rangeV_mono {vs:List V} {K1 K2:List It→Prop} (hm:∀ its,K1 its→K2 its) (h:rangeV vs K1):rangeV vs K2:=by
 obtain _ | ⟨v,_ | ⟨w,_ | ⟨_,_⟩⟩⟩:=vs
 ·exact False.elim h
 ·cases v<;>first | exact False.elim h | exact ⟨h.1,hm _ h.2⟩
 ·cases v<;>first | exact False.elim h | skip
  cases w<;>first | exact False.elim h | exact ⟨h.1,hm _ h.2⟩
 ·exact False.elim h
theorem t_for_range (K:CkN C g) (hg:g.hd=true) {tgt:Expr} {rng:Str} {np cpos:Pos} {args:List Expr} {body:List Stmt} {pos:Pos} {k:Nat} {Q:QS} {X:XSt}
  (hk:nmc rng=some k) (hkk:g.kinds.lookup k=some .globalImplicit) (hgl:g.globs.lookup k=some (.ty "range")) (hst:noStar args=true)
  (h:wL args g m H (fun vs H1=>rangeV vs fun its=>∃ Inv:Nat→Loc→Hp→Prop,(∃ m0,SubB m0 m∧Inv 0 m0 H1) ∧
   (∀ k it m H,its[k]?=some it→Inv k m H→bindIt g.bare tgt it m H fun m'=>∀ P',WSN C P' m' H body (forQ Inv k Q) noX) ∧
   (∀ m H,Inv its.length m H→Q .next m H)) (fun xn H1=>X xn m H1)) :
  W1N C P m H (.For tgt (.Call (.Name rng np) args [] cpos) body [] pos) Q X:=fun s S=>by
 refine nFor ?_ (by intro _;rfl)
 have hname:wE (.Name rng np) g m H (fun v H1=>v = .ty "range" ∧ H1=H) (fun xn H1=>X xn m H1):=by
  exact oE_i (nameR_g hk hkk hgl) ⟨rfl,rfl⟩
 show wpN _ _ (do callWith cpos (← eval (.Name rng np) C.env) [] (backTo cpos (starEach args C.env)) (backToKw cpos (keywordEach [] C.env))) _ _ s
 refine nBind (nMono ((wE_okN (.Name rng np) K S).1 _ _ hname) (fun fv s1 h1=>?_) fun _ _ x=>XS_of x)
 obtain ⟨z,H1,hv,S1,rfl,rfl⟩:=h1
 revert K hg hk hkk hgl hst S1 hv h S hname
 k_call_by "e" [C,g,P,m,tgt,rng,np,cpos,args,body,pos,k,Q,X,s,fv,s1,H1]
 obtain rfl:=hv
 refine nWith_type (noStar_plain _ _ args hst) (nMono (evalArgs_okN K S1 (wL_okN args) hst h) (fun a s2 h2=>?_) fun _ _ x=>XS_of x)
 obtain ⟨ps,kw⟩:=a
 obtain ⟨rfl,xs,H',hv,S2,h2⟩:=h2
 refine nOf (wpAny_mono (range_ok (K:=FI C g m tgt body Q) (tgt:=tgt) (E:=XS C P X) S2 hv ?_) (fun x s3 h3=>nOf (wpAny_mono h3 (fun it s4 h4=>for_tail K hg h4) fun _ _ x=>x)) fun _ _ x=>x)
 exact rangeV_mono (fun its ⟨Inv,a,b,c⟩=>⟨Inv,a,(fun _ _ _ _ _ _ e=>by cases e),b,c⟩) h2
theorem t_for_plain (K:CkN C g) (hg:g.hd=true) {tgt iter:Expr} {body:List Stmt} {pos:Pos} {Q:QS} {X:XSt}
  (h:wE iter g m H (fun v H1=>itemsOf v H1 fun its Hs=>FI C g m tgt body Q its Hs H1) (fun xn H1=>X xn m H1))
  (hs:∀ x,foldedSetIterable iter C.env x=pure x:=by intro _;rfl) :
  W1N C P m H (.For tgt iter body [] pos) Q X:=fun s S=>by
 refine nFor (nMono ((wE_okN iter K S).1 _ _ h) (fun v s1 h1=>?_) fun _ _ x=>XS_of x) hs
 obtain ⟨z,H1,hv,S1,h1⟩:=h1
 exact nOf (wpAny_mono (pyIter_ok (tgt:=tgt) (E:=XS C P X) (K:=FI C g m tgt body Q) S1 hv h1) (fun it s2 h4=>for_tail K hg h4) fun _ _ x=>x)
end DL
end
section
namespace DL
noncomputable abbrev lawC (C1:Cx) (L a0:Addr) (cd:Value):Cx:={ C1 with env:=envOfC (fdName 33) (fdScope 33) L a0 cd }
noncomputable def lawGam (fm:Addr→Option Int) (tab:Nat→Addr):List (Nat×Spec):=[(16,spLawName),(15,spLawKinds),(24,spLawWide),(20,spLawRow),(80,spPack fm),(8,spDeltaSize),(9,spLawBack),(10,spLawBarred fm),
 (12,spLawFound (tab 25)),(22,spLawTurned),(23,spLawValue),(13,spLawHalved (tab 24)),(19,spLawRead fm),(11,spLawCut),(21,spLawCut)]
noncomputable abbrev gLaw (sha:Addr) (fm:Addr→Option Int) (tab:Nat→Addr) (f sc:Addr) (so:Obj):Ge:={ gOf 33 sha fm (lawGam fm tab) with fnv:=fun b=>if b=f then some (spDraw so sc) else none }
theorem range_get {lo hi:Int} {k:Nat} {it:It} (h:(rangeOf lo hi)[k]?=some it):it = .one (.int (lo+(k:Int))):=by
 revert h
 k_call_by "e" [lo,hi,k,it]
 unfold rangeOf at h
 rw [List.getElem?_map] at h
 cases q:(List.range (hi-lo).toNat)[k]? with
 | none=>rw [q] at h;cases h
 | some j =>
  rw [q] at h
  have:=List.getElem?_eq_some_iff.mp q
  obtain ⟨h1,h2⟩:_:=this
  rw [List.getElem_range] at h2
  subst h2
  simpa using h.symm
section
variable {C1:Cx} {L a0:Addr} {cd:Value} {sha:Addr} {fm:Addr→Option Int} {tab:Nat→Addr} {f sc fo:Addr} {so:Obj} {P:Kp} {H:Hp} {Q:QS} {X:XSt} {sns:List Int} {n:Int}
theorem gl_range:(gLaw sha fm tab f sc so).globs.lookup 86=some (.ty "range"):=rfl
theorem lg:lawGam fm tab=[(16,spLawName),(15,spLawKinds),(24,spLawWide),(20,spLawRow),(80,spPack fm),(8,spDeltaSize),(9,spLawBack),(10,spLawBarred fm),
 (12,spLawFound (tab 25)),(22,spLawTurned),(23,spLawValue),(13,spLawHalved (tab 24)),(19,spLawRead fm),(11,spLawCut),(21,spLawCut)]:=rfl
theorem law_names (K:CkN (lawC C1 L a0 cd) (gLaw sha fm tab f sc so)) (F1:Fk1 (lawC C1 L a0 cd)) (hn:n=20∨n=32) (hfo:fm fo=some n) (hsc:H sc=some (.ilist so (vInts sns))) (hsl:sns.length≤1000)
  (h:∀ (H':Hp) (nm:Addr) (Ns:List (List UInt8)),Ext H H'→H nm=none→H' nm=some (.list (Ns.map V.bytes))→1≤Ns.length∧Ns.length≤6→(∀ b∈Ns,(b.length:Int)=n) →
   WSN (lawC C1 L a0 cd) P [(71,.ref nm),(53,.ref fo),(43,.ref f),(92,.ref sc)] H' ((fdBody 33).drop 4) Q X) :
  WSN (lawC C1 L a0 cd) P [(53,.ref fo),(43,.ref f),(92,.ref sc)] H ((fdBody 33).drop 2) Q X:=by
 obtain u0:=()
 revert K F1 hn hfo hsc hsl h
 k_call_by "e" [C1,L,a0,cd,sha,fm,tab,f,sc,fo,so,P,H,Q,X,sns,n,u0]
 refine t_cons ?_
 refine t_assignL K nm_names (by rw [g_kinds,kd_33];rfl) ?_
 k_call_by "x" []
 intro nm hnm
 obtain u90:=()
 revert hnm
 k_call_by "e" [nm,u90]
 have hsc1:=upd_keep (o:=.list []) hnm hsc
 refine t_cons ?_
 refine t_for_range K rfl nm_range (by rw [g_kinds,kd_33];rfl) gl_range rfl ?_
 k_call_by "x" []
 refine ⟨2,sns,rfl,by decide,hsc1,hsl,fun z=>?_⟩
 k_call_by "x" []
 have hz:0≤z%6∧z%6<6:=by exact ⟨Int.emod_nonneg _ (by decide),Int.emod_lt_of_pos _ (by decide)⟩
 refine ⟨by lia,fun k m1 H1=>m1=[(71,.ref nm),(53,.ref fo),(43,.ref f),(92,.ref sc)]∧∃ Ns:List (List UInt8),H1 nm=some (.list (Ns.map V.bytes))∧Ns.length=k∧(∀ b∈Ns,(b.length:Int)=n)∧ExtB [nm] (upd H nm (.list [])) H1,⟨_,?_,rfl,[],upd_same,rfl,by simp,.refl⟩,?_,?_⟩
 ·k_call_by "s" []
 ·rintro k it m1 H1 hit ⟨rfl,Ns,h1,h2,h3,h4⟩
  revert hz hit h1 h2 h3 h4
  k_call_by "e" [z,k,it,H1,Ns]
  have hk:k<(rangeOf 0 (1+z%6)).length:=(List.getElem?_eq_some_iff.mp hit).1
  rw [range_len] at hk
  obtain rfl:=range_get hit
  have hsn:sc∉[nm]:=fun e=>by rw [List.mem_singleton] at e;rw [e] at hsc;rw [hsc] at hnm;cases hnm
  have hsc2:=h4 sc _ hsn hsc1
  k_call_by "x" []
  intro P'
  refine t_cons ?_
  refine t_expr K ?_
  k_call_by "y" [h1]
  refine ⟨_,sns,rfl,by exact Int.natCast_nonneg _,hsc2,hsl,fun z2=>?_⟩
  k_call_by "x" [hfo]
  refine ⟨z2,n,rfl,by rcases hn with rfl | rfl<;>decide,fun H2 hE2=>?_⟩
  have h1':=hE2 _ _ h1
  k_call_by "x" [h1']
  have hk6:k<6:=Nat.lt_of_lt_of_le hk (Int.toNat_le.mpr (Int.sub_left_le_of_le_add (show 1+z%6≤0+6 from Int.add_le_add_left (Int.le_of_lt_add_one (show z%6<5+1 from hz.2)) 1)))
  refine ⟨by rw [List.length_map,h2];exact Nat.lt_trans hk6 (by decide),?_⟩
  refine t_nil ?_
  k_call_by "x" []
  refine ⟨[(71,.ref nm),(53,.ref fo),(43,.ref f),(92,.ref sc)],?_,rfl,Ns++[lawName z2 n],by simp,by simp [h2],fun b hb=>?_,(h4.trans (.of hE2)).upd (.head _)⟩
  ·k_call_by "s" []
  ·rcases List.mem_append.mp hb with hb | hb
   ·exact h3 b hb
   ·rw [List.mem_singleton] at hb;subst hb;exact lawName_len (by rcases hn with rfl | rfl<;>decide)
 ·rintro m1 H1 ⟨rfl,Ns,h1,h2,h3,h4⟩
  refine h H1 nm Ns (fun a o e=>h4 a o (fun q=>?_) (upd_keep hnm e)) hnm h1 (by rw [h2];exact ⟨Int.lt_toNat.mpr (by rw [Int.sub_zero];exact Int.lt_of_lt_of_le (by decide:(0:Int)<1) (Int.le_add_of_nonneg_right hz.1)),Int.toNat_le.mpr (Int.sub_left_le_of_le_add (show 1+z%6≤0+6 from Int.add_le_add_left (Int.le_of_lt_add_one (show z%6<5+1 from hz.2)) 1))⟩) h3
  rw [List.mem_singleton] at q;rw [q,hnm] at e;cases e
theorem law_lists {nm:Addr} {Ns:List (List UInt8)} (K:CkN (lawC C1 L a0 cd) (gLaw sha fm tab f sc so)) (F1:Fk1 (lawC C1 L a0 cd)) (hsc:H sc=some (.ilist so (vInts sns))) (hsl:sns.length≤1000)
  (hnm:H nm=some (.list (Ns.map V.bytes))) (hNl:Ns.length≤6)
  (h:∀ (H':Hp) (ak en:Addr) (B:List UInt8),Ext H H'→H ak=none→H en=none→ak≠en→H' ak=some (.list (Ns.map V.bytes))→H' en=some (.list [])→B.length≤3 →
   WSN (lawC C1 L a0 cd) P [(26,.ref ak),(47,.ref en),(100,.bytes B),(71,.ref nm),(53,.ref fo),(43,.ref f),(92,.ref sc)] H' ((fdBody 33).drop 6) Q X) :
  WSN (lawC C1 L a0 cd) P [(71,.ref nm),(53,.ref fo),(43,.ref f),(92,.ref sc)] H ((fdBody 33).drop 4) Q X:=by
 revert K F1 hsc hsl hnm hNl h
 k_call_by "e" [C1,L,a0,cd,sha,fm,tab,f,sc,fo,so,P,H,Q,X,sns,nm,Ns]
 refine t_cons ?_
 refine t_assignL K nm_stored (by rw [g_kinds,kd_33];rfl) ?_
 k_call_by "x" []
 intro r1 hr1
 obtain hsc1:=upd_keep (o:=.list [.int 200,.int 255,.int 128]) hr1 hsc
 obtain hnm1:=upd_keep (o:=.list [.int 200,.int 255,.int 128]) hr1 hnm
 obtain hE1:=(Ext.refl H).upd hr1 (o:=.list [.int 200,.int 255,.int 128])
 generalize upd H r1 (.list [.int 200,.int 255,.int 128])=H1 at *
 refine ⟨_,sns,rfl,by decide,hsc1,hsl,fun z=>?_⟩
 k_call_by "x" []
 have hBl:(cutOf (ofOcts [200,255,128]) none (some (z%4))).length≤3:=cutOf_len _ _ _
 generalize cutOf (ofOcts [200,255,128]) none (some (z%4))=B at hBl
 refine t_cons ?_
 refine t_swap (names:=[Str.ofString "asked",Str.ofString "entries"]) K rfl ?_ rfl rfl
 k_call_by "x" [List.reverse_cons,List.reverse_nil,List.nil_append,List.cons_append]
 intro b1 hb1
 obtain hnm2:=upd_keep (o:=.list []) hb1 hnm1
 rw [hnm2,w_oL,w_oE]
 refine ⟨by rw [List.length_map];exact Nat.le_trans ‹_› (by decide),fun ak hak b3 hb3 b4 hb4=>?_⟩
 simp only [List.append_nil] at hb3 hb4 ⊢
 have hne:ak≠b3:=fun q=>by rw [← q,upd_same] at hb3;cases hb3
 exact h _ ak b3 B ((((hE1.upd hb1).upd hak).upd hb3).upd hb4) ((hE1.upd hb1).none hak) (((hE1.upd hb1).upd hak).none hb3) hne (upd_keep hb4 (upd_keep hb3 upd_same)) (upd_keep hb4 upd_same) hBl
end
end DL
end
section
namespace DL
section
variable {C1:Cx} {L a0:Addr} {cd:Value} {sha:Addr} {fm:Addr→Option Int} {tab:Nat→Addr} {f sc fo:Addr} {so:Obj} {P:Kp} {H:Hp} {Q:QS} {X:XSt} {sns:List Int} {n:Int}
theorem chainB_rows:∀ (Ps:List (Addr×List Int)) (pre tl:List UInt8),(∀ p∈Ps,isRow p.2)→chainB (pre++((Ps.map fun p=>ofOcts p.2).flatten++tl)) pre.length Ps
 | [],_,_,_=>trivial
 | p::r,pre,tl,h=>by
  obtain ih:=chainB_rows r (pre++ofOcts p.2) tl fun q hq=>h q (.tail _ hq)
  rw [List.length_append,ofOcts_len] at ih
  simp only [List.map_cons,List.flatten_cons,List.append_assoc] at ih ⊢
  refine ⟨?_,ih⟩
  rw [List.drop_left]
  exact takeMsb_row (h p (.head _))
noncomputable def forOf:Option Stmt→List Stmt
 | some (.For _ _ b _ _)=>b
 | _=>[]
noncomputable abbrev bd6:List Stmt:=forOf (fdBody 33)[6]?
noncomputable def invEnt (H0:Hp) (n:Int) (Nl:Nat) (ak en nm fo f sc:Addr) (k:Nat) (m:Loc) (H1:Hp):Prop :=
 ∃ (B:List UInt8) (Ents:List Addr) (Ask:List (List UInt8)),m=[(100,.bytes B),(47,.ref en),(26,.ref ak),(71,.ref nm),(53,.ref fo),(43,.ref f),(92,.ref sc)]∧H1 en=some (.list (Ents.map V.ref))∧H1 ak=some (.list (Ask.map V.bytes)) ∧
  Ents.length=k∧Ask.length≤Nl+k∧Nl≤Ask.length∧(∀ b∈Ask,(b.length:Int)=n)∧(∀ e∈Ents,EntryOk [ak,en] B H1 e)∧B.length≤3+62*k∧ExtB [ak,en] H0 H1
theorem law_turn_b {H0:Hp} {k Nl:Nat} {nm ak en:Addr} {Ents:List Addr} {Ask:List (List UInt8)} {B:List UInt8} {kind size far:Nat} {rw tl ps:Addr} {T:List Int} {base:V} {tz:Int}
  (K:CkN (lawC C1 L a0 cd) (gLaw sha fm tab f sc so)) (F1:Fk1 (lawC C1 L a0 cd)) (hn:n=20∨n=32) (hfo:fm fo=some n) (hsc:H sc=some (.ilist so (vInts sns))) (hsl:sns.length≤1000) (hscn:sc∉[ak,en]) (hakn:ak≠en) (htz:0≤tz)
  (hen:H en=some (.list (Ents.map V.ref))) (hak:H ak=some (.list (Ask.map V.bytes))) (hk:Ents.length=k) (hAl:Ask.length≤Nl+(k+1)) (hAl2:Nl≤Ask.length) (hAn:∀ b∈Ask,(b.length:Int)=n) (hE:∀ e∈Ents,EntryOk [ak,en] B H e) (hBl:B.length≤3+62*k) (hk3:k≤3) (hX:ExtB [ak,en] H0 H)
  (hkd:1≤kind∧kind<8) (hsz:size<2^61) (hfar:far<2^61) (hf0:far≠0) (hrow:H rw=some (.list (vInts (encHead kind size)))) (htl:H tl=some (.list (vInts T))) (hps:H ps=some (.list [])) (hrn:rw∉[ak,en]∧tl∉[ak,en]∧ps∉[ak,en])
  (hbo:baseOk base) (hho:headOut kind size base n=some (encHead kind size++T)) (hTo:∀ i∈T,isOctet i) (hTl:T.length≤32) (hT6:kind=6→T=encOfs far) :
  WSN (lawC C1 L a0 cd) P [(29,base),(102,.ref tl),(82,.ref ps),(90,.ref rw),(50,.int far),(97,.int size),(61,.int kind),(105,.int tz),(100,.bytes B),(47,.ref en),(26,.ref ak),(71,.ref nm),(53,.ref fo),(43,.ref f),(92,.ref sc)] H (bd6.drop 4)
   (forQ (invEnt H0 n Nl ak en nm fo f sc) k Q) noX:=by
 revert K F1 hn hfo hsc hsl hscn hakn htz hen hak hk hAl hAl2 hAn hE hBl hk3 hX hkd hsz hfar hf0 hrow htl hps hrn hbo hho hTo hTl hT6
 k_call_by "e" [C1,L,a0,cd,sha,fm,tab,f,sc,fo,so,P,H,Q,sns,n,H0,k,Nl,nm,ak,en,Ents,Ask,B,kind,size,far,rw,tl,ps,T,base,tz]
 have h61:(2:Nat)^61≤16*128^(8+1):=by decide
 have h61b:(2:Nat)^61≤128^(8+1):=by decide
 have hRl:(encHead kind size).length≤10:=encHead_len (k:=8) (by exact Nat.lt_of_lt_of_le ‹_› ‹_›)
 obtain hRr:=encHead_row (t:=kind) (n:=size) hkd.2
 have hfl:(enc7 far).length≤9:=enc7_len (k:=8) (by exact Nat.lt_of_lt_of_le ‹_› ‹_›)
 have hsl2:(enc7 size).length≤9:=enc7_len (k:=8) (by exact Nat.lt_of_lt_of_le ‹_› ‹_›)
 refine t_cons ?_
 refine t_assignL K nm_header (by rw [g_kinds,kd_33];rfl) ?_
 k_call_by "y" []
 refine ⟨kind,size,base,fo,n,rfl,hkd,hfo,by exact Nat.le_trans ‹_› (by decide),hbo,fun l hl H1 hd hE1 hhd hhd'=>?_,fun hno=>by rw [hho] at hno;cases hno⟩
 rw [hho] at hl;cases hl
 have hoct:∀ i∈encHead kind size++T,isOctet i:=fun i hi=>by
  rcases List.mem_append.mp hi with hi | hi
  ·exact isRow_oct hRr i hi
  ·exact hTo i hi
 refine t_cons ?_
 refine t_if K ?_
 k_call_by "y" [hhd']
 rw [toOcts_of hoct]
 intro l1 hl1
 revert hE1 hhd hhd' hl1
 k_call_by "e" [H1,hd,l1]
 obtain hrow1:=upd_keep (o:=.list (vInts (encHead kind size++T))) hl1 (hE1 _ _ hrow)
 obtain htl1:=upd_keep (o:=.list (vInts (encHead kind size++T))) hl1 (hE1 _ _ htl)
 k_call_by "x" [hrow1,htl1,vInts_len]
 refine ⟨by lia,fun l2 hl2=>?_⟩
 rw [vInts_app]
 obtain e1:=upd_keep (o:=.list (vInts (encHead kind size++T))) hl2 (upd_same (H:=H1) (a:=l1) (o:=.list (vInts (encHead kind size++T))))
 k_call_by "x" [e1,pydL_vInts,eqv_ints]
 refine t_nil ?_
 obtain hE2:=((hE1.upd hl1 (o:=.list (vInts (encHead kind size++T)))).upd hl2 (o:=.list (vInts (encHead kind size++T))))
 obtain hhd2:=upd_keep (o:=.list (vInts (encHead kind size++T))) hl2 (upd_keep (o:=.list (vInts (encHead kind size++T))) hl1 hhd')
 generalize upd (upd H1 l1 (.list (vInts (encHead kind size++T)))) l2 (.list (vInts (encHead kind size++T)))=H2 at hE2 hhd2
 revert hl2 e1 hE2 hhd2
 k_call_by "e" [l2,H2]
 have notbad:∀ a,H a=none→a∉[ak,en]:=fun a ha hm=>by
  simp only [List.mem_cons,List.not_mem_nil,or_false] at hm
  rcases hm with rfl | rfl
  ·rw [hak] at ha;cases ha
  ·rw [hen] at ha;cases ha
 have hB80:B.length≤3000:=Nat.le_trans ‹B.length≤3+62*k› (Nat.le_trans (Nat.add_le_add_left (Nat.mul_le_mul_left 62 ‹k≤3›) 3) (by decide))
 have fin:∀ (hv:V) (pA:Addr) (Ps:List (Addr×List Int)) (hb:List UInt8) (H3:Hp),Ext H H3→(hv = .bytes hb∨∃ a,hv = .ref a∧H3 a=some (.barr hb))→H3 pA=some (.list (Ps.map fun p=>.ref p.1)) →
   (∀ p∈Ps,H3 p.1=some (.list (vInts p.2))∧p.1∉[ak,en])→pA∉[ak,en]→hb=ofOcts (encHead kind size)++(ofOcts T++(Ps.map fun p=>ofOcts p.2).flatten)→(∀ p∈Ps,isRow p.2)→hb.length≤60 →
   WSN (lawC C1 L a0 cd) P [(54,hv),(82,.ref pA),(102,.ref tl),(90,.ref rw),(50,.int far),(97,.int size),(61,.int kind),(105,.int tz),(100,.bytes B),(47,.ref en),(26,.ref ak),(71,.ref nm),(53,.ref fo),(43,.ref f),(92,.ref sc)] H3 (bd6.drop 7)
    (forQ (invEnt H0 n Nl ak en nm fo f sc) k Q) noX:=fun hv pA Ps hb H3 hE3 hhv hpA hPs hpn hhb hPr hhl=>by
  obtain hen3:=hE3 _ _ hen
  refine t_cons ?_
  refine t_expr K ?_
  k_call_by "x" [hen3]
  intro e hne
  revert hE3 hhv hpA hPs hpn hhb hPr hhl hen3 hne
  k_call_by "e" [hv,pA,Ps,hb,H3,e]
  obtain hen4:=upd_keep (o:=.tuple [.int (B.length:Int),.int (kind:Int),.int (size:Int),.int (far:Int),.ref rw,.ref tl,.ref pA]) hne hen3
  k_call_by "x" [hen4]
  refine ⟨by rw [List.length_map];lia,?_⟩
  have he4:upd H3 e (.tuple [.int (B.length:Int),.int (kind:Int),.int (size:Int),.int (far:Int),.ref rw,.ref tl,.ref pA]) e=some (.tuple [.int (B.length:Int),.int (kind:Int),.int (size:Int),.int (far:Int),.ref rw,.ref tl,.ref pA]):=upd_same
  obtain hE4:=hE3.upd hne (o:=.tuple [.int (B.length:Int),.int (kind:Int),.int (size:Int),.int (far:Int),.ref rw,.ref tl,.ref pA])
  obtain hE34:=(Ext.refl H3).upd hne (o:=.tuple [.int (B.length:Int),.int (kind:Int),.int (size:Int),.int (far:Int),.ref rw,.ref tl,.ref pA])
  have hbe:e∉[ak,en]:=notbad e (hE3.none hne)
  generalize upd H3 e (.tuple [.int (B.length:Int),.int (kind:Int),.int (size:Int),.int (far:Int),.ref rw,.ref tl,.ref pA])=H4 at hen4 he4 hE4 hE34
  obtain u90:=()
  revert hen4 he4 hE4 hE34
  k_call_by "e" [H4,u90]
  have hX5:ExtB [ak,en] H4 (upd H4 en (.list (Ents.map V.ref++[.ref e]))):=ExtB.refl.upd (.tail _ (.head _))
  have hen5:upd H4 en (.list (Ents.map V.ref++[.ref e])) en=some (.list ((Ents++[e]).map V.ref)):=by rw [upd_same];simp
  have hak5:upd H4 en (.list (Ents.map V.ref++[.ref e])) ak=some (.list (Ask.map V.bytes)):=by rw [upd_ne hakn];exact hE4 _ _ hak
  have hnone5:∀ a,upd H4 en (.list (Ents.map V.ref++[.ref e])) a=none→H4 a=none:=fun a ha=>by
   unfold upd at ha;split at ha
   ·cases ha
   ·exact ha
  have hsc5:upd H4 en (.list (Ents.map V.ref++[.ref e])) sc=some (.ilist so (vInts sns)):=hX5 _ _ hscn (hE4 _ _ hsc)
  generalize upd H4 en (.list (Ents.map V.ref++[.ref e]))=H5 at hX5 hen5 hak5 hnone5 hsc5
  obtain u90:=()
  revert hX5 hen5 hak5 hnone5 hsc5
  k_call_by "e" [H5,u90]
  refine t_cons ?_
  refine t_assignL K nm_stored (by rw [g_kinds,kd_33];rfl) ?_
  have hbyt:∃ hv',hv=hv'∧∀ Qq:V→Hp→Prop,typeCall "bytes" [hv] H5 Qq=Qq (.bytes hb) H5:=by
   refine ⟨hv,rfl,fun Qq=>?_⟩
   rcases hhv with rfl | ⟨a,rfl,ha⟩
   ·rfl
   ·have hna:a∉[ak,en]:=fun hm=>by
     simp only [List.mem_cons,List.not_mem_nil,or_false] at hm
     rcases hm with rfl | rfl
     ·rw [hE3 _ _ hak] at ha;cases ha
     ·rw [hen3] at ha;cases ha
    rw [tc_bytes_r,hX5 _ _ hna (hE34 _ _ ha),w_bOb]
  obtain ⟨_,_,hbyt⟩:=hbyt
  k_call_by "x" [hbyt]
  refine ⟨by lia,?_⟩
  refine t_cons ?_
  refine t_assignL K nm_stored (by rw [g_kinds,kd_33];rfl) ?_
  k_call_by "x" []
  refine ⟨_,sns,rfl,by exact Int.add_nonneg (by decide) ‹_›,hsc5,hsl,fun z1=>?_⟩
  k_call_by "x" []
  refine ⟨_,sns,rfl,by exact Int.add_nonneg (by decide) ‹_›,hsc5,hsl,fun z2=>?_⟩
  k_call_by "x" []
  intro r5 hr5
  obtain hsc6:=upd_keep (o:=.list [.int (z1%256),.int (128+z2%128)]) hr5 hsc5
  k_call_by "x" []
  refine ⟨⟨by exact ⟨Int.emod_nonneg _ (by decide),Int.emod_lt_of_pos _ (by decide)⟩,by lia⟩,_,sns,rfl,by exact Int.add_nonneg (by decide) ‹_›,hsc6,hsl,fun z3=>?_⟩
  k_call_by "x" []
  have htb:(cutOf (ofOcts [z1%256,128+z2%128]) none (some (z3%3))).length≤2:=cutOf_len _ _ _
  obtain hE56:=(Ext.refl H5).upd hr5 (o:=.list [.int (z1%256),.int (128+z2%128)])
  generalize upd H5 r5 (.list [.int (z1%256),.int (128+z2%128)])=H6 at hE56
  generalize cutOf (ofOcts [z1%256,128+z2%128]) none (some (z3%3))=tb at htb
  refine ⟨by simp only [List.length_append];lia,?_⟩
  refine t_nil ?_
  k_call_by "x" []
  have hX6:ExtB [ak,en] H4 H6:=hX5.trans (.of hE56)
  have hX06:ExtB [ak,en] H H6:=((ExtB.of hE4).trans hX6)
  refine ⟨[(100,.bytes (B++hb++tb)),(47,.ref en),(26,.ref ak),(71,.ref nm),(53,.ref fo),(43,.ref f),(92,.ref sc)],?_,B++hb++tb,Ents++[e],Ask,rfl,hE56 _ _ hen5,hE56 _ _ hak5,by simp [hk],by omega,hAl2,hAn,fun e' he'=>?_,by simp only [List.length_append];lia,hX.trans hX06⟩
  ·k_call_by "s" []
  ·rcases List.mem_append.mp he' with he' | he'
   ·exact ((hE e' he').ext hX06).app.app
   ·rw [List.mem_singleton] at he';subst he'
    refine ⟨B.length,kind,size,far,rw,tl,pA,encHead kind size,T,Ps,⟨hbe,hrn.1,hrn.2.1,hpn,fun p hp=>(hPs p hp).2⟩,hX6 _ _ hbe he4,hX06 _ _ hrn.1 hrow,hX06 _ _ hrn.2.1 htl,hX6 _ _ hpn (hE34 _ _ hpA),fun p hp=>hX6 _ _ (hPs p hp).2 (hE34 _ _ (hPs p hp).1),?_,isRow_oct hRr,by exact Nat.le_trans ‹_› (by decide),decKind_head hkd.2,decSize_head,fun h6=>⟨?_,hTo,by exact Nat.le_trans ‹_› (by decide),?_,by simp [*],?_⟩,?_,by lia⟩
    ·rw [List.append_assoc,List.drop_left,hhb,List.append_assoc]
     exact takeMsb_row hRr
    ·have hk6:kind=6:=by exact Int.natCast_inj.mp ‹_›
     rw [hT6 hk6]
     have e2:B++hb++tb=(B++ofOcts (encHead kind size))++(ofOcts T++((Ps.map fun p=>ofOcts p.2).flatten++tb)):=by rw [hhb];simp only [List.append_assoc]
     rw [e2,show B.length+(encHead kind size).length=(B++ofOcts (encHead kind size)).length by rw [List.length_append,ofOcts_len],List.drop_left,hT6 hk6]
     exact takeMsb_row (encOfs_row far)
    ·rw [hT6 (by exact Int.natCast_inj.mp ‹_›)];exact decOfs_enc far
    ·rw [hT6 (by exact Int.natCast_inj.mp ‹_›)]
     obtain ⟨p,z,e3,_,hz,_⟩:=isRow_split (encOfs_row far)
     exact ⟨z,by rw [e3];simp,hz⟩
    ·have e2:B++hb++tb=(B++ofOcts (encHead kind size)++ofOcts T)++((Ps.map fun p=>ofOcts p.2).flatten++tb):=by rw [hhb];simp only [List.append_assoc]
     have e3:B.length+(encHead kind size).length+T.length=(B++ofOcts (encHead kind size)++ofOcts T).length:=by simp only [List.length_append,ofOcts_len]
     rw [e2,e3]
     exact chainB_rows Ps _ _ hPr
 refine t_cons ?_
 refine t_if K ?_
 k_call_by "x" []
 by_cases h4:(4:Int)<(kind:Int)
 ·rw [if_pos h4]
  refine t_cons ?_
  refine t_assignL K nm_parts (by rw [g_kinds,kd_33];rfl) ?_
  k_call_by "y" []
  have h3000:(2:Nat)^61<2^3000:=Nat.pow_lt_pow_right (by decide) (by decide)
  refine ⟨1,0,far,rfl,by decide,by show (enc7 far).length≤400;exact Nat.le_trans ‹_› (by decide),Nat.lt_trans hfar h3000,fun H3 p1 hE3 hp1 hp1'=>?_⟩
  k_call_by "y" []
  refine ⟨1,0,size,rfl,by decide,by show (enc7 size).length≤400;exact Nat.le_trans ‹_› (by decide),Nat.lt_trans hsz h3000,fun H4 p2 hE4 hp2 hp2'=>?_⟩
  k_call_by "x" []
  intro pA hpA
  obtain hE5:=(hE4.upd hpA (o:=.list [.ref p1,.ref p2]))
  have hpA5:upd H4 pA (.list [.ref p1,.ref p2]) pA=some (.list [.ref p1,.ref p2]):=upd_same
  obtain hp25:=upd_keep (o:=.list [.ref p1,.ref p2]) hpA hp2'
  have nA:H pA=none:=((hE2.trans hE3).trans hE4).none hpA
  generalize upd H4 pA (.list [.ref p1,.ref p2])=H5 at hE5 hpA5 hp25
  obtain hp15:=hE5 _ _ hp1'
  obtain hhd5:=hE5 _ _ (hE3 _ _ hhd2)
  refine t_cons ?_
  refine t_assignL K nm_header (by rw [g_kinds,kd_33];rfl) ?_
  k_call_by "y" [hhd5]
  refine ⟨far,rfl,by exact Nat.le_trans ‹_› (by decide),fun H6 hE6=>?_⟩
  k_call_by "y" []
  have hRT:(encHead kind size++T).length≤42:=by rw [List.length_append];exact Nat.add_le_add ‹(encHead kind size).length≤10› ‹T.length≤32›
  refine ⟨by lia,size,rfl,by exact Nat.le_trans ‹_› (by decide),fun H7 hE7=>?_⟩
  k_call_by "x" []
  refine ⟨by simp only [List.length_append,ofOcts_len] at hRT ⊢;lia,?_⟩
  refine t_nil ?_
  obtain hE67:=hE6.trans hE7
  refine WXN.weak (SubB.sub ?_) (fin (.bytes (ofOcts (encHead kind size++T)++ofOcts (enc7 far)++ofOcts (enc7 size))) pA [(p1,enc7 far),(p2,enc7 size)] (ofOcts (encHead kind size++T)++ofOcts (enc7 far)++ofOcts (enc7 size)) H7 (((hE2.trans hE3).trans hE5).trans hE67) (.inl rfl) (hE67 _ _ hpA5) (fun p hp=>?_) (notbad _ nA) ?_ (fun p hp=>?_) ?_)
  ·k_call_by "s" []
  ·simp only [List.mem_cons,List.not_mem_nil,or_false] at hp
   rcases hp with rfl | rfl
   ·exact ⟨hE67 _ _ hp15,notbad _ (hE2.none hp1)⟩
   ·exact ⟨hE67 _ _ hp25,notbad _ ((hE2.trans hE3).none hp2)⟩
  ·simp [← ofOcts_app]
  ·simp only [List.mem_cons,List.not_mem_nil,or_false] at hp
   rcases hp with rfl | rfl
   ·exact enc7_row far
   ·exact enc7_row size
  ·simp only [List.length_append,ofOcts_len];lia
 ·rw [if_neg h4]
  refine t_nil ?_
  refine WXN.weak (SubB.sub ?_) (fin (.ref hd) ps [] _ H2 hE2 (.inr ⟨hd,rfl,hhd2⟩) (hE2 _ _ hps) (by simp) hrn.2.2 (by simp [ofOcts_app]) (by simp) ?_)
  ·k_call_by "s" []
  ·rw [ofOcts_len,List.length_append];lia
end
end DL
end
section
namespace DL
section
variable {C1:Cx} {L a0:Addr} {cd:Value} {sha:Addr} {fm:Addr→Option Int} {tab:Nat→Addr} {f sc fo:Addr} {so:Obj} {P:Kp} {H:Hp} {Q:QS} {X:XSt} {sns:List Int} {n:Int}
theorem kinds_at (z:Int):∃ kd:Nat,at? (vInts [1,6,2,7,3,6,4,7]) (z%8)=some (.int kd)∧1≤kd∧kd<8∧kd≠5:=by
 have h:(z%8).toNat<8:=by lia
 obtain ⟨j,hj,hz⟩:∃ j:Nat,j<8∧z%8=j:=⟨(z%8).toNat,h,by exact (Int.toNat_of_nonneg (Int.emod_nonneg _ (by decide))).symm⟩
 rw [hz]
 have key:∀ j<8,∃ kd:Nat,([1,6,2,7,3,6,4,7]:List Int)[j]?=some (kd:Int)∧1≤kd∧kd<8∧kd≠5:=by
  intro j hj
  match j,hj with
  | 0,_=>exact ⟨1,rfl,by decide,by decide,by decide⟩
  | 1,_=>exact ⟨6,rfl,by decide,by decide,by decide⟩
  | 2,_=>exact ⟨2,rfl,by decide,by omega,by decide⟩
  | 3,_=>exact ⟨7,rfl,by decide,by decide,by decide⟩
  | 4,_=>exact ⟨3,rfl,by decide,by decide,by decide⟩
  | 5,_=>exact ⟨6,rfl,by decide,by decide,by decide⟩
  | 6,_=>exact ⟨4,rfl,by decide,by decide,by decide⟩
  | 7,_=>exact ⟨7,rfl,by decide,by omega,by decide⟩
 obtain ⟨kd,h1,h2⟩:=key j hj
 exact ⟨kd,at_nat h1,h2⟩
noncomputable def elifB:Option Stmt→List Stmt
 | some (.If _ _ [.If _ b _ _] _)=>b
 | _=>[]
theorem law_turn {H0:Hp} {k Nl:Nat} {nm ak en:Addr} {Ents:List Addr} {Ask Ns:List (List UInt8)} {B:List UInt8} {tz:Int}
  (K:CkN (lawC C1 L a0 cd) (gLaw sha fm tab f sc so)) (F1:Fk1 (lawC C1 L a0 cd)) (hn:n=20∨n=32) (hfo:fm fo=some n) (hsc:H sc=some (.ilist so (vInts sns))) (hsl:sns.length≤1000) (hscn:sc∉[ak,en]) (hakn:ak≠en) (htz:0≤tz)
  (hnm:H nm=some (.list (Ns.map V.bytes))) (hNl:Ns.length=Nl) (hN0:0<Nl) (hNn:∀ b∈Ns,(b.length:Int)=n) (hN6:Nl≤6)
  (hen:H en=some (.list (Ents.map V.ref))) (hak:H ak=some (.list (Ask.map V.bytes))) (hk:Ents.length=k) (hAl:Ask.length≤Nl+k) (hAl2:Nl≤Ask.length) (hAn:∀ b∈Ask,(b.length:Int)=n) (hE:∀ e∈Ents,EntryOk [ak,en] B H e) (hBl:B.length≤3+62*k) (hk3:k≤3) (hX:ExtB [ak,en] H0 H) :
  WSN (lawC C1 L a0 cd) P [(105,.int tz),(100,.bytes B),(47,.ref en),(26,.ref ak),(71,.ref nm),(53,.ref fo),(43,.ref f),(92,.ref sc)] H bd6
   (forQ (invEnt H0 n Nl ak en nm fo f sc) k Q) noX:=by
 obtain u0:=()
 revert K F1 hn hfo hsc hsl hscn hakn htz hnm hNl hN0 hNn hN6 hen hak hk hAl hAl2 hAn hE hBl hk3 hX
 k_call_by "e" [C1,L,a0,cd,sha,fm,tab,f,sc,fo,so,P,H,Q,sns,n,H0,k,Nl,nm,ak,en,Ents,Ask,Ns,B,tz,u0]
 have notbad:∀ a,H a=none→a∉[ak,en]:=fun a ha hm=>by
  simp only [List.mem_cons,List.not_mem_nil,or_false] at hm
  rcases hm with rfl | rfl
  ·rw [hak] at ha;cases ha
  ·rw [hen] at ha;cases ha
 refine t_cons ?_
 refine t_assignL K nm_kind (by rw [g_kinds,kd_33];rfl) ?_
 k_call_by "y" []
 refine ⟨rfl,fun r1 hr1=>?_⟩
 obtain u90:=()
 revert hr1
 k_call_by "e" [r1,u90]
 obtain hE1:=(Ext.refl H).upd hr1 (o:=.list (vInts [1,6,2,7,3,6,4,7]))
 have hr1':upd H r1 (.list (vInts [1,6,2,7,3,6,4,7])) r1=some (.list (vInts [1,6,2,7,3,6,4,7])):=upd_same
 generalize upd H r1 (.list (vInts [1,6,2,7,3,6,4,7]))=H1 at hE1 hr1'
 refine ⟨_,sns,rfl,by exact Int.add_nonneg (by decide) ‹_›,hE1 _ _ hsc,hsl,fun z1=>?_⟩
 obtain ⟨kd,hkd,hk1,hk8,hk5⟩:_:=kinds_at (z1+tz)
 k_call_by "x" [hr1',hkd]
 refine t_cons ?_
 refine t_swap (names:=[Str.ofString "size",Str.ofString "far"]) K rfl ?_ rfl rfl
 k_call_by "y" [List.reverse_cons,List.reverse_nil,List.nil_append,List.cons_append]
 refine ⟨_,sns,rfl,by exact Int.add_nonneg (by decide) ‹_›,hE1 _ _ hsc,hsl,fun z2=>⟨z2,rfl,fun H2 hE2=>?_⟩⟩
 revert hE1 hr1' hkd hk1 hk8 hk5 hE2
 k_call_by "e" [H1,z1,kd,z2,H2]
 refine ⟨_,sns,rfl,by exact Int.add_nonneg (by decide) ‹_›,hE2 _ _ (hE1 _ _ hsc),hsl,fun z3=>⟨z3,rfl,fun H3 hE3=>?_⟩⟩
 obtain ⟨size,hsize,hsz⟩:∃ s:Nat,lawWide z2=s∧s<2^61:=by
  obtain ⟨s,hs,hb⟩:=lawWide_nat z2
  exact ⟨s,hs,Nat.lt_trans hb (by decide)⟩
 obtain ⟨far,hfar,hf0,hf61⟩:∃ s:Nat,1+lawWide z3=s∧s≠0∧s<2^61:=by
  obtain ⟨s,hs,hb⟩:=lawWide_nat z3
  exact ⟨1+s,hs▸rfl,fun h=>Nat.succ_ne_zero s ((Nat.add_comm s 1).trans h),Nat.lt_of_lt_of_le (Nat.add_lt_add_left hb 1) (by decide)⟩
 rw [hsize]
 k_call_by "x" []
 rw [hfar]
 intro r2 hr2
 revert hE3 hsize hsz hfar hf0 hf61 hr2
 k_call_by "e" [z3,H3,size,far,r2]
 obtain hE4:=((hE1.trans hE2).trans hE3).upd hr2 (o:=.tuple [.int (size:Int),.int (far:Int)])
 generalize upd H3 r2 (.tuple [.int (size:Int),.int (far:Int)])=H4 at hE4
 have h3000:(2:Nat)^61<2^3000:=Nat.pow_lt_pow_right (by decide) (by decide)
 have h61:(2:Nat)^61≤16*128^(8+1):=by decide
 have h61b:(2:Nat)^61≤128^(8+1):=by decide
 have hRl:(encHead kd size).length≤10:=encHead_len (k:=8) (by exact Nat.lt_of_lt_of_le ‹_› ‹_›)
 have hol:(encOfs far).length≤9:=encOfs_len (k:=8) (by exact Nat.lt_of_lt_of_le ‹_› ‹_›)
 refine t_cons ?_
 refine t_tuple K rfl ?_ rfl rfl
 k_call_by "y" []
 refine ⟨0,kd,size,rfl,by simp,by show (encHead (kd:Int).toNat size).length≤400;rw [Int.toNat_natCast];exact Nat.le_trans ‹_› (by decide),Nat.lt_trans hsz h3000,fun H5 rw hE5 hrw hrw'=>?_⟩
 revert hE4 hE5 hrw hrw'
 k_call_by "e" [H4,H5,rw]
 have hrow:rowOf 0 kd size=encHead kd size:=rfl
 rw [hrow] at hrw'
 k_call_by "x" []
 intro tl0 htl0 ps hps b4 hb4
 obtain hE6:=(((hE4.trans hE5).upd htl0 (o:=.list [])).upd hps (o:=.list [])).upd hb4 (o:=.tuple [.ref rw,.none,.ref tl0,.ref ps])
 have nrw:H rw=none:=hE4.none hrw
 have ntl:H tl0=none:=(hE4.trans hE5).none htl0
 have nps:H ps=none:=((hE4.trans hE5).upd htl0).none hps
 obtain hrw6:=upd_keep (o:=.tuple [.ref rw,.none,.ref tl0,.ref ps]) hb4 (upd_keep (o:=.list []) hps (upd_keep (o:=.list []) htl0 hrw'))
 obtain htl6:=upd_keep (o:=.tuple [.ref rw,.none,.ref tl0,.ref ps]) hb4 (upd_keep (o:=.list []) hps (upd_same (H:=H5) (a:=tl0) (o:=.list [])))
 obtain hps6:=upd_keep (o:=.tuple [.ref rw,.none,.ref tl0,.ref ps]) hb4 (upd_same (H:=upd H5 tl0 (.list [])) (a:=ps) (o:=.list []))
 generalize upd (upd (upd H5 tl0 (.list [])) ps (.list [])) b4 (.tuple [.ref rw,.none,.ref tl0,.ref ps])=H6 at hE6 hrw6 htl6 hps6
 revert htl0 hps hb4 ntl nps hE6 hrw6 htl6 hps6
 k_call_by "e" [tl0,ps,b4,H6]
 refine t_cons ?_
 refine t_if K ?_
 k_call_by "x" []
 by_cases h6:(kd:Int)=6
 ·rw [if_pos h6]
  refine t_cons ?_
  refine t_swap (names:=[Str.ofString "base",Str.ofString "tail"]) K rfl ?_ rfl rfl
  k_call_by "y" [List.reverse_cons,List.reverse_nil,List.nil_append,List.cons_append]
  refine ⟨2,0,far,rfl,by decide,by show (encOfs far).length≤400;exact Nat.le_trans ‹_› (by decide),Nat.lt_trans hf61 h3000,fun H7 tl hE7 htl htl'=>?_⟩
  k_call_by "x" [List.reverse_cons,List.reverse_nil,List.nil_append,List.cons_append]
  intro b5 hb5
  obtain hE8:=(hE6.trans hE7).upd hb5 (o:=.tuple [.int (far:Int),.ref tl])
  obtain hE78:=hE7.upd hb5 (o:=.tuple [.int (far:Int),.ref tl])
  obtain htl8:=upd_keep (o:=.tuple [.int (far:Int),.ref tl]) hb5 htl'
  generalize upd H7 b5 (.tuple [.int (far:Int),.ref tl])=H8 at hE8 hE78 htl8
  refine t_nil ?_
  refine WXN.weak (SubB.sub ?_) (law_turn_b (T:=encOfs far) (base:=.int (far:Int)) (tl:=tl) (ps:=ps) (rw:=rw) (far:=far) (kind:=kd) (size:=size) (tz:=tz) (B:=B) K F1 hn hfo (hE8 _ _ hsc) hsl hscn hakn htz (hE8 _ _ hen) (hE8 _ _ hak) hk (by lia) hAl2 hAn (fun e he=>(hE e he).ext (.of hE8)) hBl hk3 (hX.trans (.of hE8))
   ⟨hk1,hk8⟩ hsz hf61 hf0 (hE78 _ _ hrw6) htl8 (hE78 _ _ hps6) ⟨notbad _ nrw,notbad _ (hE6.none htl),notbad _ nps⟩ ⟨by exact Int.natCast_nonneg _,by rw [Int.toNat_natCast];exact Nat.le_trans ‹_› (by decide)⟩ ?_ (isRow_oct (encOfs_row far)) (by exact Nat.le_trans ‹_› (by decide)) fun _=>rfl)
  ·k_call_by "s" []
  ·unfold headOut
   rw [if_pos (by exact Int.natCast_inj.mp ‹_›)]
   show some (encHead kd size++encOfs ((far:Int)).toNat)=_
   rw [Int.toNat_natCast]
 ·rw [if_neg h6]
  refine t_cons ?_
  refine t_if K ?_
  k_call_by "x" []
  by_cases h7:(kd:Int)=7
  ·rw [if_pos h7]
   have fin:∀ (nb:List UInt8) H7,(nb.length:Int)=n→Ext H6 H7→WSN (lawC C1 L a0 cd) P [(29,.bytes nb),(82,.ref ps),(90,.ref rw),(97,.int (size:Int)),(50,.int (far:Int)),(61,.int (kd:Int)),(105,.int tz),(100,.bytes B),(47,.ref en),(26,.ref ak),(71,.ref nm),(53,.ref fo),(43,.ref f),(92,.ref sc)] H7
     ((elifB bd6[3]?).drop 1) (seqN (lawC C1 L a0 cd) P [] (seqN (lawC C1 L a0 cd) P (bd6.drop 4) (forQ (invEnt H0 n Nl ak en nm fo f sc) k Q) noX) noX) noX:=fun nb H7 hnb hE7=>by
    refine t_cons ?_
    refine t_assignL K nm_tail (by rw [g_kinds,kd_33];rfl) ?_
    k_call_by "x" []
    intro tl htl
    obtain hE8:=(hE6.trans hE7).upd htl (o:=.list (vInts (toOcts nb)))
    have htl8:upd H7 tl (.list (vInts (toOcts nb))) tl=some (.list (vInts (toOcts nb))):=upd_same
    obtain hE68:=hE7.upd htl (o:=.list (vInts (toOcts nb)))
    have ntl2:tl∉[ak,en]:=notbad _ ((hE6.trans hE7).none htl)
    generalize upd H7 tl (.list (vInts (toOcts nb)))=H8 at hE8 htl8 hE68
    refine t_cons ?_
    refine t_expr K ?_
    obtain hak8:=hE8 _ _ hak
    k_call_by "x" [hak8]
    refine ⟨by rw [List.length_map];lia,?_⟩
    have hX9:ExtB [ak,en] H8 (upd H8 ak (.list (Ask.map V.bytes++[.bytes nb]))):=ExtB.refl.upd (.head _)
    have hak9:upd H8 ak (.list (Ask.map V.bytes++[.bytes nb])) ak=some (.list ((Ask++[nb]).map V.bytes)):=by rw [upd_same];simp
    have hen9:upd H8 ak (.list (Ask.map V.bytes++[.bytes nb])) en=some (.list (Ents.map V.ref)):=by rw [upd_ne hakn.symm];exact hE8 _ _ hen
    generalize upd H8 ak (.list (Ask.map V.bytes++[.bytes nb]))=H9 at hX9 hak9 hen9
    have hX09:ExtB [ak,en] H H9:=(ExtB.of hE8).trans hX9
    refine t_nil ?_
    refine t_nil ?_
    have hbl:nb.length≤32:=by lia
    refine WXN.weak (SubB.sub ?_) (law_turn_b (T:=toOcts nb) (base:=.bytes nb) (tl:=tl) (ps:=ps) (rw:=rw) (far:=far) (kind:=kd) (size:=size) (tz:=tz) (B:=B) K F1 hn hfo (hX09 _ _ hscn hsc) hsl hscn hakn htz hen9 hak9 hk (by simp only [List.length_append,List.length_cons,List.length_nil];exact Nat.succ_le_succ ‹_›) (by simp only [List.length_append];lia) (fun b hb=>?_) (fun e he=>(hE e he).ext hX09) hBl hk3 (hX.trans hX09)
     ⟨hk1,hk8⟩ hsz hf61 hf0 (hX9 _ _ (notbad _ nrw) (hE68 _ _ hrw6)) (hX9 _ _ ntl2 htl8) (hX9 _ _ (notbad _ nps) (hE68 _ _ hps6)) ⟨notbad _ nrw,ntl2,notbad _ nps⟩ (by show nb.length≤1000;exact Nat.le_trans ‹_› (by decide)) ?_ (fun i hi=>?_) (by rw [toOcts_len];exact hbl) fun h=>by lia)
    ·k_call_by "s" []
    ·rcases List.mem_append.mp hb with hb | hb
     ·exact hAn b hb
     ·rw [List.mem_singleton] at hb;subst hb;exact hnb
    ·unfold headOut;rw [if_neg (by lia),if_pos (by exact Int.natCast_inj.mp ‹_›)];simp only [hnb,if_true]
    ·unfold toOcts at hi
     obtain ⟨c,_,rfl⟩:_:=List.mem_map.mp hi
     have:=c.toNat_lt
     exact ⟨by exact Int.natCast_nonneg _,by exact Int.ofNat_lt.mpr ‹_›⟩
   refine t_cons ?_
   refine t_assignL K nm_base (by rw [g_kinds,kd_33];rfl) ?_
   obtain hnm6:=hE6 _ _ hnm
   k_call_by "y" [hnm6,hfo,List.length_map]
   split
   ·have hpos:0<(Ns.length:Int):=by simp [*]
    obtain ⟨j,hj⟩:∃ j:Nat,(far:Int)%(Ns.length:Int)=j:=⟨((far:Int)%(Ns.length:Int)).toNat,by have:=Int.emod_nonneg (far:Int) (b:=(Ns.length:Int)) (by exact Int.ne_of_gt ‹_›);exact Int.toNat_of_nonneg ‹_›⟩
    have hjl:j<Ns.length:=by have:=Int.emod_lt_of_pos (far:Int) hpos;grind
    have hat:at? (Ns.map V.bytes) ((far:Int)%(Ns.length:Int))=some (.bytes Ns[j]):=by
     rw [hj]
     unfold at? pyIx
     rw [if_pos ⟨by exact Int.natCast_nonneg _,by rw [List.length_map];exact Int.ofNat_lt.mpr ‹_›⟩]
     simp [hjl]
    refine ⟨hpos,?_⟩
    rw [hat,w_oE]
    refine WXN.weak (SubB.sub ?_) (fin Ns[j] H6 (hNn _ (List.getElem_mem hjl)) (Ext.refl _))
    k_call_by "s" []
   ·refine ⟨far,n,rfl,by lia,fun H7 hE7=>?_⟩
    refine WXN.weak (SubB.sub ?_) (fin (lawName far n) H7 (lawName_len (by lia)) hE7)
    k_call_by "s" []
  ·rw [if_neg h7]
   refine t_nil ?_
   refine t_nil ?_
   refine WXN.weak (SubB.sub ?_) (law_turn_b (T:=[]) (base:=.none) (tl:=tl0) (ps:=ps) (rw:=rw) (far:=far) (kind:=kd) (size:=size) (tz:=tz) (B:=B) K F1 hn hfo (hE6 _ _ hsc) hsl hscn hakn htz (hE6 _ _ hen) (hE6 _ _ hak) hk (by lia) hAl2 hAn (fun e he=>(hE e he).ext (.of hE6)) hBl hk3 (hX.trans (.of hE6))
    ⟨hk1,hk8⟩ hsz hf61 hf0 hrw6 htl6 hps6 ⟨notbad _ nrw,notbad _ ntl,notbad _ nps⟩ trivial ?_ (by simp) (by simp) fun h=>by lia)
   ·k_call_by "s" []
   ·unfold headOut;rw [if_neg (by lia),if_neg (by lia)];simp
end
end DL
end
section
namespace DL
section
variable {C1:Cx} {L a0:Addr} {cd:Value} {sha:Addr} {fm:Addr→Option Int} {tab:Nat→Addr} {f sc fo:Addr} {so:Obj} {P:Kp} {H:Hp} {Q:QS} {X:XSt} {sns:List Int} {n:Int}
theorem law_entries {nm ak en:Addr} {Ns:List (List UInt8)} {B0:List UInt8}
  (K:CkN (lawC C1 L a0 cd) (gLaw sha fm tab f sc so)) (F1:Fk1 (lawC C1 L a0 cd)) (hn:n=20∨n=32) (hfo:fm fo=some n) (hsc:H sc=some (.ilist so (vInts sns))) (hsl:sns.length≤1000) (hscn:sc∉[ak,en]) (hakn:ak≠en)
  (hnm:H nm=some (.list (Ns.map V.bytes))) (hnmn:nm∉[ak,en]) (hN0:0<Ns.length) (hNn:∀ b∈Ns,(b.length:Int)=n) (hN6:Ns.length≤6)
  (hen:H en=some (.list [])) (hak:H ak=some (.list (Ns.map V.bytes))) (hB0:B0.length≤3)
  (h:∀ (H':Hp) (B:List UInt8) (Ask:List (List UInt8)),ExtB [ak,en] H H'→H' ak=some (.list (Ask.map V.bytes))→Ask.length≤10→(∀ b∈Ask,(b.length:Int)=n)→B.length≤200 →
   WSN (lawC C1 L a0 cd) P [(100,.bytes B),(26,.ref ak),(71,.ref nm),(53,.ref fo),(43,.ref f),(92,.ref sc)] H' ((fdBody 33).drop 8) Q X) :
  WSN (lawC C1 L a0 cd) P [(26,.ref ak),(47,.ref en),(100,.bytes B0),(71,.ref nm),(53,.ref fo),(43,.ref f),(92,.ref sc)] H ((fdBody 33).drop 6) Q X:=by
 obtain u0:=()
 obtain u1:=()
 revert K F1 hn hfo hsc hsl hscn hakn hnm hnmn hN0 hNn hN6 hen hak hB0 h
 k_call_by "e" [C1,L,a0,cd,sha,fm,tab,f,sc,fo,so,P,H,Q,X,sns,n,nm,ak,en,Ns,B0,u0,u1]
 refine t_cons ?_
 refine t_for_range K rfl nm_range (by rw [g_kinds,kd_33];rfl) gl_range rfl ?_
 k_call_by "x" []
 refine ⟨0,sns,rfl,by decide,hsc,hsl,fun z=>?_⟩
 obtain u90:=()
 k_call_by "e" [z,u90]
 k_call_by "x" []
 refine ⟨by lia,invEnt H n Ns.length ak en nm fo f sc,⟨[(100,.bytes B0),(47,.ref en),(26,.ref ak),(71,.ref nm),(53,.ref fo),(43,.ref f),(92,.ref sc)],?_,B0,[],Ns,rfl,hen,hak,rfl,by exact Nat.le_add_right _ _,by simp,hNn,by simp,by omega,.refl⟩,?_,?_⟩
 ·k_call_by "s" []
 ·rintro k it m1 H1 hit ⟨B,Ents,Ask,rfl,h1,h2,h3,h4,h5,h6,h7,h8,h9⟩
  have hk:k<(rangeOf 0 (3-z%3)).length:=(List.getElem?_eq_some_iff.mp hit).1
  rw [range_len] at hk
  obtain rfl:=range_get hit
  k_call_by "x" []
  intro P'
  exact law_turn K F1 hn hfo (h9 _ _ hscn hsc) hsl hscn hakn (by exact Int.natCast_nonneg _) (h9 _ _ hnmn hnm) rfl hN0 hNn hN6 h1 h2 h3 h4 h5 h6 h7 h8 (by grind) h9
 ·rintro m1 H1 ⟨B,Ents,Ask,rfl,h1,h2,h3,h4,h5,h6,h7,h8,h9⟩
  revert h1 h2 h3 h4 h5 h6 h7 h8 h9
  k_call_by "e" [H1,B,Ents,Ask]
  have hz:(3-z%3-0).toNat≤3:=by rw [Int.sub_zero];exact Int.toNat_le.mpr (Int.sub_le_self _ (Int.emod_nonneg _ (by decide)))
  rw [h3] at *
  refine t_cons ?_
  refine t_for K rfl ?_
  k_call_by "x" [h1]
  refine ⟨fun k m1 H2=>m1=[(100,.bytes B),(26,.ref ak),(71,.ref nm),(53,.ref fo),(43,.ref f),(92,.ref sc)]∧Ext H1 H2,⟨_,?_,rfl,Ext.refl _⟩,?_,?_,?_⟩
  ·k_call_by "s" []
  ·rintro k m1 H2 ⟨_,hE⟩ c o hc
   unfold only at hc
   split at hc
   ·rename_i e;subst e;exact hE _ _ hc
   ·cases hc
  ·rintro k it m1 H2 hit ⟨rfl,hE⟩
   revert hit hE
   k_call_by "e" [k,it,H2]
   rw [List.getElem?_map,List.getElem?_map] at hit
   cases q:Ents[k]? with
   | none=>rw [q] at hit;cases hit
   | some e =>
    rw [q] at hit
    simp only [Option.map_some,Option.some.injEq] at hit
    subst hit
    k_call_by "x" []
    intro P'
    revert q
    k_call_by "e" [e,P']
    refine t_cons ?_
    refine t_if K ?_
    k_call_by "y" []
    obtain ⟨off,kind,size,far,rw0,tl,ps,R,T,Ps,g0,g1,g2,g3,g4,g5,g6,g7,g8,g9,g10,g11,g12,g13⟩:=h7 e (List.mem_of_getElem? q)
    refine ⟨B,e,off,kind,size,far,rw0,tl,ps,R,T,Ps,rfl,by lia,hE _ _ g1,hE _ _ g2,hE _ _ g3,hE _ _ g4,fun p hp=>hE _ _ (g5 p hp),g6,g7,g8,g9,g10,g11,g12,g13,fun H3 hE3=>?_⟩
    k_call_by "x" []
    refine t_nil ?_
    k_call_by "x" []
    refine t_nil ?_
    k_call_by "x" []
    refine ⟨[(100,.bytes B),(26,.ref ak),(71,.ref nm),(53,.ref fo),(43,.ref f),(92,.ref sc)],?_,rfl,hE.trans hE3⟩
    k_call_by "s" []
  ·rintro m1 H2 ⟨rfl,hE⟩
   exact h H2 B Ask (h9.trans (.of hE)) (hE _ _ h2) (by lia) h6 (by lia)
end
end DL
end
section
namespace DL
section
variable {C1:Cx} {L a0:Addr} {cd:Value} {sha:Addr} {fm:Addr→Option Int} {tab:Nat→Addr} {f sc fo:Addr} {so:Obj} {P:Kp} {H:Hp} {Q:QS} {X:XSt} {sns:List Int} {n:Int}
theorem law_barring {nm ak:Addr} {Ns:List (List UInt8)} {B:List UInt8}
  (K:CkN (lawC C1 L a0 cd) (gLaw sha fm tab f sc so)) (F1:Fk1 (lawC C1 L a0 cd)) (hn:n=20∨n=32) (hfo:fm fo=some n) (hsc:H sc=some (.ilist so (vInts sns))) (hsl:sns.length≤1000)
  (hnm:H nm=some (.list (Ns.map V.bytes))) (hN0:0<Ns.length) (hNn:∀ b∈Ns,(b.length:Int)=n)
  (h:∀ H',Ext H H'→WSN (lawC C1 L a0 cd) P [(100,.bytes B),(26,.ref ak),(71,.ref nm),(53,.ref fo),(43,.ref f),(92,.ref sc)] H' ((fdBody 33).drop 10) Q X) :
  WSN (lawC C1 L a0 cd) P [(100,.bytes B),(26,.ref ak),(71,.ref nm),(53,.ref fo),(43,.ref f),(92,.ref sc)] H ((fdBody 33).drop 8) Q X:=by
 obtain u0:=()
 obtain u1:=()
 obtain u2:=()
 revert K F1 hn hfo hsc hsl hnm hN0 hNn h
 k_call_by "e" [C1,L,a0,cd,sha,fm,tab,f,sc,fo,so,P,H,Q,X,sns,n,nm,ak,Ns,B,u0,u1,u2]
 refine t_cons ?_
 refine t_assignL K nm_size (by rw [g_kinds,kd_33];rfl) ?_
 k_call_by "y" []
 refine ⟨9,sns,rfl,by decide,hsc,hsl,fun z=>⟨z,rfl,fun H1 hE1=>?_⟩⟩
 revert hE1
 k_call_by "e" [z,H1]
 obtain ⟨size,hsize,hsz⟩:∃ s:Nat,lawWide z=s∧s<2^61:=by
  obtain ⟨s,hs,hb⟩:=lawWide_nat z
  exact ⟨s,hs,Nat.lt_trans hb (by decide)⟩
 rw [hsize]
 have h61:(2:Nat)^61≤16*128^(8+1):=by decide
 have hRl:∀ t,(encHead t size).length≤10:=fun t=>encHead_len (k:=8) (by exact Nat.lt_of_lt_of_le ‹_› ‹_›)
 obtain ⟨n0,r0,hNs⟩:∃ n0 r0,Ns=n0::r0:=by
  cases Ns with
  | nil=>simp at hN0
  | cons a r=>exact ⟨a,r,rfl⟩
 subst hNs
 obtain hn0:=hNn n0 (.head _)
 obtain hnm1:=hE1 _ _ hnm
 refine t_cons ?_
 refine t_for_plain K rfl ?_
 k_call_by "y" [hfo]
 refine ⟨size,52-n,rfl,by grind,fun H2 hE2=>?_⟩
 revert hsize hsz hRl hnm hN0 hNn hn0 hnm1 hE2
 k_call_by "e" [size,n0,r0,H2]
 obtain hl1:=lawName_len (n:=(size:Int)) (k:=52-n) (by grind)
 generalize lawName (size:Int) (52-n)=b1 at hl1
 obtain hnm2:=hE2 _ _ hnm1
 k_call_by "x" [hnm2]
 intro a1 ha1
 obtain hE3:=hE2.upd ha1 (o:=.tuple [.int 7,.bytes b1])
 have h1:upd H2 a1 (.tuple [.int 7,.bytes b1]) a1=some (.tuple [.int 7,.bytes b1]):=upd_same
 obtain hnm3:=upd_keep (o:=.tuple [.int 7,.bytes b1]) ha1 hnm2
 generalize upd H2 a1 (.tuple [.int 7,.bytes b1])=H3 at hE3 h1 hnm3
 revert hl1 ha1 hE3 h1 hnm3
 k_call_by "e" [b1,a1,H3]
 k_call_by "x" [hnm3,List.map_cons,at_0]
 intro a2 ha2
 obtain h12:=upd_keep (o:=.tuple [.int 7,.bytes (cutOf n0 (some 1) none)]) ha2 h1
 obtain hE4:=hE3.upd ha2 (o:=.tuple [.int 7,.bytes (cutOf n0 (some 1) none)])
 have h2:upd H3 a2 (.tuple [.int 7,.bytes (cutOf n0 (some 1) none)]) a2=some (.tuple [.int 7,.bytes (cutOf n0 (some 1) none)]):=upd_same
 obtain hnm4:=upd_keep (o:=.tuple [.int 7,.bytes (cutOf n0 (some 1) none)]) ha2 hnm3
 generalize upd H3 a2 (.tuple [.int 7,.bytes (cutOf n0 (some 1) none)])=H4 at hE4 h12 h2 hnm4
 k_call_by "x" [hnm4,List.map_cons,at_0]
 refine ⟨by lia,fun a3 ha3 a4 ha4 a5 ha5 a6 ha6=>?_⟩
 revert ha2 hE4 h12 h2 hnm4 ha3 ha4 ha5 ha6
 k_call_by "e" [a2,H4,a3,a4,a5,a6]
 obtain k1:=upd_keep (o:=.tuple [.int 6,.none]) ha6 (upd_keep (o:=.tuple [.int 7,.int 20]) ha5 (upd_keep (o:=.tuple [.int 7,.none]) ha4 (upd_keep (o:=.tuple [.int 7,.bytes (n0++[0])]) ha3 h12)))
 obtain k2:=upd_keep (o:=.tuple [.int 6,.none]) ha6 (upd_keep (o:=.tuple [.int 7,.int 20]) ha5 (upd_keep (o:=.tuple [.int 7,.none]) ha4 (upd_keep (o:=.tuple [.int 7,.bytes (n0++[0])]) ha3 h2)))
 obtain k3:=upd_keep (o:=.tuple [.int 6,.none]) ha6 (upd_keep (o:=.tuple [.int 7,.int 20]) ha5 (upd_keep (o:=.tuple [.int 7,.none]) ha4 (upd_same (H:=H4) (a:=a3) (o:=.tuple [.int 7,.bytes (n0++[0])]))))
 obtain k4:=upd_keep (o:=.tuple [.int 6,.none]) ha6 (upd_keep (o:=.tuple [.int 7,.int 20]) ha5 (upd_same (H:=upd H4 a3 (.tuple [.int 7,.bytes (n0++[0])])) (a:=a4) (o:=.tuple [.int 7,.none])))
 obtain k5:=upd_keep (o:=.tuple [.int 6,.none]) ha6 (upd_same (H:=upd (upd H4 a3 (.tuple [.int 7,.bytes (n0++[0])])) a4 (.tuple [.int 7,.none])) (a:=a5) (o:=.tuple [.int 7,.int 20]))
 obtain k6:=upd_same (H:=upd (upd (upd H4 a3 (.tuple [.int 7,.bytes (n0++[0])])) a4 (.tuple [.int 7,.none])) a5 (.tuple [.int 7,.int 20])) (a:=a6) (o:=.tuple [.int 6,.none])
 obtain hE5:=(((hE4.upd ha3 (o:=.tuple [.int 7,.bytes (n0++[0])])).upd ha4 (o:=.tuple [.int 7,.none])).upd ha5 (o:=.tuple [.int 7,.int 20])).upd ha6 (o:=.tuple [.int 6,.none])
 obtain hnm5:=upd_keep (o:=.tuple [.int 6,.none]) ha6 (upd_keep (o:=.tuple [.int 7,.int 20]) ha5 (upd_keep (o:=.tuple [.int 7,.none]) ha4 (upd_keep (o:=.tuple [.int 7,.bytes (n0++[0])]) ha3 hnm4)))
 generalize upd (upd (upd (upd H4 a3 (.tuple [.int 7,.bytes (n0++[0])])) a4 (.tuple [.int 7,.none])) a5 (.tuple [.int 7,.int 20])) a6 (.tuple [.int 6,.none])=H5 at *
 obtain u90:=()
 revert k1 k2 k3 k4 k5 k6 hE5 hnm5
 k_call_by "e" [H5,u90]
 k_call_by "x" [hnm5,List.map_cons,at_0]
 intro a7 ha7 a8 ha8
 obtain hE6:=(hE5.upd ha7 (o:=.tuple [.int 6,.bytes n0])).upd ha8 (o:=.tuple [.ref a1,.ref a2,.ref a3,.ref a4,.ref a5,.ref a6,.ref a7])
 obtain m7:=upd_keep (o:=.tuple [.ref a1,.ref a2,.ref a3,.ref a4,.ref a5,.ref a6,.ref a7]) ha8 (upd_same (H:=H5) (a:=a7) (o:=.tuple [.int 6,.bytes n0]))
 obtain m8:=upd_same (H:=upd H5 a7 (.tuple [.int 6,.bytes n0])) (a:=a8) (o:=.tuple [.ref a1,.ref a2,.ref a3,.ref a4,.ref a5,.ref a6,.ref a7])
 have mk:∀ {a o},H5 a=some o→upd (upd H5 a7 (.tuple [.int 6,.bytes n0])) a8 (.tuple [.ref a1,.ref a2,.ref a3,.ref a4,.ref a5,.ref a6,.ref a7]) a=some o:=fun e=>upd_keep ha8 (upd_keep ha7 e)
 obtain m1:=mk k1
 obtain m2:=mk k2
 obtain m3:=mk k3
 obtain m4:=mk k4
 obtain m5:=mk k5
 obtain m6:=mk k6
 clear mk
 generalize upd (upd H5 a7 (.tuple [.int 6,.bytes n0])) a8 (.tuple [.ref a1,.ref a2,.ref a3,.ref a4,.ref a5,.ref a6,.ref a7])=H6 at *
 have all:∀ (k:Nat) (it:It),([It.one (.ref a1),.one (.ref a2),.one (.ref a3),.one (.ref a4),.one (.ref a5),.one (.ref a6),.one (.ref a7)]:List It)[k]?=some it→∃ (a:Addr) (t:Nat) (base:V),it = .one (.ref a)∧H6 a=some (.tuple [.int t,base])∧(1≤t∧t<8)∧baseOk base∧headOut t size base n=none:=fun k it hit=>by
  have hcl:(cutOf n0 (some 1) none).length=n0.length-1:=by
   have:=cut_from (xs:=n0) (k:=1) (by lia)
   rw [show ((1:Nat):Int)=1 by rfl] at this
   rw [this,List.length_drop]
  have hl0:n0.length≤32:=Int.ofNat_le.mp (hn0▸(by rcases hn with h | h<;>rw [h]<;>decide:n≤32))
  match k,hit with
  | 0,hit=>cases hit;exact ⟨a1,7,.bytes b1,rfl,m1,by decide,by show b1.length≤1000;lia,by unfold headOut;rw [if_neg (by decide),if_pos rfl];exact if_neg (by lia)⟩
  | 1,hit=>cases hit;exact ⟨a2,7,_,rfl,m2,by decide,Nat.le_trans (cutOf_len _ _ _) (Nat.le_trans hl0 (by decide)),by unfold headOut;rw [if_neg (by decide),if_pos rfl];exact if_neg (by lia)⟩
  | 2,hit=>cases hit;exact ⟨a3,7,_,rfl,m3,by decide,by show (n0++[0]).length≤1000;rw [List.length_append,List.length_singleton];exact Nat.le_trans (Nat.add_le_add_right hl0 1) (by decide),by unfold headOut;rw [if_neg (by decide),if_pos rfl];exact if_neg (by rw [List.length_append,List.length_singleton];lia)⟩
  | 3,hit=>cases hit;exact ⟨a4,7,_,rfl,m4,by decide,trivial,by unfold headOut;rw [if_neg (by decide),if_pos rfl]⟩
  | 4,hit=>cases hit;exact ⟨a5,7,_,rfl,m5,by decide,⟨by decide,by have:=encOfs_len (k:=8) (n:=(20:Int).toNat) (by decide);exact Nat.le_trans ‹_› (by decide)⟩,by unfold headOut;rw [if_neg (by decide),if_pos rfl]⟩
  | 5,hit=>cases hit;exact ⟨a6,6,_,rfl,m6,by decide,trivial,by unfold headOut;rw [if_pos rfl]⟩
  | 6,hit=>cases hit;exact ⟨a7,6,_,rfl,m7,by decide,Nat.le_trans hl0 (by decide),by unfold headOut;rw [if_pos rfl]⟩
  | _+7,hit=>simp at hit
 refine ⟨fun k m1 H7=>m1=[(97,.int (size:Int)),(100,.bytes B),(26,.ref ak),(71,.ref nm),(53,.ref fo),(43,.ref f),(92,.ref sc)]∧Ext H6 H7,⟨_,?_,rfl,Ext.refl _⟩,?_,?_,?_⟩
 ·k_call_by "s" []
 ·rintro k m1 H7 ⟨_,hE⟩ c o hc
  unfold only at hc
  split at hc
  ·rename_i e;subst e;exact hE _ _ hc
  ·cases hc
 ·rintro k it m1 H7 hit ⟨rfl,hE⟩
  obtain ⟨a,t,base,rfl,g1,g2,g3,g4⟩:=all k it hit
  obtain g5:=hE _ _ g1
  k_call_by "x" [g5]
  intro P'
  refine t_cons ?_
  refine t_if K ?_
  k_call_by "y" []
  refine ⟨t,size,base,fo,n,rfl,g2,hfo,by have:=hRl t;exact Nat.le_trans ‹_› (by decide),g3,g4,fun H8 hE8=>?_⟩
  k_call_by "x" []
  refine t_nil ?_
  k_call_by "x" []
  refine t_nil ?_
  k_call_by "x" []
  refine ⟨[(97,.int (size:Int)),(100,.bytes B),(26,.ref ak),(71,.ref nm),(53,.ref fo),(43,.ref f),(92,.ref sc)],?_,rfl,hE.trans hE8⟩
  k_call_by "s" []
 ·rintro m1 H7 ⟨rfl,hE⟩
  refine WXN.weak (SubB.sub ?_) (h H7 (((hE1.trans hE6)).trans hE))
  k_call_by "s" []
end
end DL
end
section
namespace DL
theorem isBytesL_map:∀ {l:List (List UInt8)},isBytesL (l.map V.bytes)=some l
 | []=>rfl
 | b::r=>by show (isBytesL (r.map V.bytes)).map (b::·)=_;rw [isBytesL_map];rfl
theorem tabI_at {T:Addr} {pos:Pos} {q:Str} {H:Hp} (h:tabI T pos q H):∃ ps:Array Value,H T=some (.raw (tabObj ps))∧∀ x t,ps[1]?≠some (.str x t):=by
 revert h
 k_call_by "e" [T,pos,q,H]
 rcases h with h | ⟨c',oc,vs,t,_,h,_⟩
 ·exact ⟨_,h,by intro x t h;simp at h⟩
 ·exact ⟨_,h,by intro x t h;simp [rawInt] at h⟩
theorem tabI_ne_list {T a:Addr} {pos:Pos} {q:Str} {H:Hp} {xs:List V} (h:tabI T pos q H) (ha:H a=some (.list xs)):a≠T:=fun e=>by
 obtain ⟨ps,h1,_⟩:_:=tabI_at h
 rw [e,h1] at ha;cases ha
theorem tabI_ne_ilist {T a:Addr} {pos:Pos} {q:Str} {H:Hp} {x:Obj} {xs:List V} (h:tabI T pos q H) (ha:H a=some (.ilist x xs)):a≠T:=fun e=>by
 obtain ⟨ps,h1,_⟩:_:=tabI_at h
 rw [e,h1] at ha;cases ha
theorem tabI_other {T T':Addr} {pos pos':Pos} {q q':Str} {H H':Hp} (hne:T≠T') (h:tabI T pos q H) (h':tabI T' pos' q' H) (hE:ExtT T' H H'):tabI T pos q H':=by
 revert hne h h' hE
 k_call_by "e" [T,T',pos,pos',q,q',H,H']
 obtain ⟨ps,h1,h2⟩:_:=tabI_at h'
 rcases h with h | ⟨c',oc,vs,t,g1,g2,g3,g4,g5⟩
 ·exact .inl (hE _ _ hne h)
 ·refine .inr ⟨c',oc,vs,t,g1,hE _ _ hne g2,hE _ _ (fun e=>?_) g3,g4,g5⟩
  rw [e,h1] at g3
  cases g3
  simp only [Data.fields.injEq] at g4
  subst g4
  exact h2 _ _ g5
theorem enumB_get:∀ {l:List (List UInt8)} {j:Int} {k:Nat} {it:It},(enumOf j (l.map V.bytes))[k]?=some it→∃ b,l[k]?=some b∧it = .two (j+k) (.bytes b)
 | [],_,_,_,h=>by simp [enumOf] at h
 | x::r,j,0,it,h=>by
  simp only [List.map_cons,enumOf,List.getElem?_cons_zero,Option.some.injEq] at h
  exact ⟨x,rfl,by rw [← h];simp⟩
 | x::r,j,k+1,it,h=>by
  simp only [List.map_cons,enumOf,List.getElem?_cons_succ] at h
  obtain ⟨b,h1,h2⟩:=enumB_get h
  exact ⟨b,by rw [List.getElem?_cons_succ];exact h1,by rw [h2];congr 1;lia⟩
section
variable {C1:Cx} {L a0:Addr} {cd:Value} {sha:Addr} {fm:Addr→Option Int} {tab:Nat→Addr} {f sc fo:Addr} {so:Obj} {P:Kp} {H:Hp} {Q:QS} {X:XSt} {sns:List Int} {n:Int}
noncomputable def TN (tab:Nat→Addr):Prop:=tab 24≠tab 25∧tab 33≠tab 24∧tab 33≠tab 25
theorem tabI_upd {T r:Addr} {pos:Pos} {q:Str} {H:Hp} {xs ys:List V} (h:tabI T pos q H) (hr:H r=some (.list xs)):tabI T pos q (upd H r (.list ys)):=by
 revert h hr
 k_call_by "e" [T,r,pos,q,H,xs,ys]
 have ne:∀ a o,H a=some (.raw o)→a≠r:=fun a o e q=>by rw [q,hr] at e;cases e
 rcases h with h | ⟨c',oc,vs,t,g1,g2,g3,g4,g5⟩
 ·exact .inl (by rw [upd_ne (ne _ _ h)];exact h)
 ·exact .inr ⟨c',oc,vs,t,g1,by rw [upd_ne (ne _ _ g2)];exact g2,by rw [upd_ne (ne _ _ g3)];exact g3,g4,g5⟩
structure LI (tab:Nat→Addr) (sc:Addr) (so:Obj) (sns:List Int) (H:Hp):Prop where
 sc:H sc=some (.ilist so (vInts sns))
 t24:tabI (tab 24) lmPos qualLm H
 t25:tabI (tab 25) posNA qualNA H
 t33:∃ ps,H (tab 33)=some (.raw (tabObj ps))
theorem LI.ext {H H':Hp} (h:LI tab sc so sns H) (hE:Ext H H'):LI tab sc so sns H':=⟨hE _ _ h.sc,h.t24.ext hE,h.t25.ext hE,let ⟨ps,e⟩:=h.t33;⟨ps,hE _ _ e⟩⟩
theorem LI.ext25 {H H':Hp} (hT:TN tab) (h:LI tab sc so sns H) (hE:ExtT (tab 25) H H') (hI:tabI (tab 25) posNA qualNA H'):LI tab sc so sns H':=⟨hE _ _ (tabI_ne_ilist h.t25 h.sc) h.sc,tabI_other hT.1 h.t24 h.t25 hE,hI,let ⟨ps,e⟩:=h.t33;⟨ps,hE _ _ hT.2.2 e⟩⟩
theorem LI.ext24 {H H':Hp} (hT:TN tab) (h:LI tab sc so sns H) (hE:ExtT (tab 24) H H') (hI:tabI (tab 24) lmPos qualLm H'):LI tab sc so sns H':=⟨hE _ _ (tabI_ne_ilist h.t24 h.sc) h.sc,hI,tabI_other hT.1.symm h.t25 h.t24 hE,let ⟨ps,e⟩:=h.t33;⟨ps,hE _ _ hT.2.1 e⟩⟩
theorem LI.upd {H:Hp} {r:Addr} {xs ys:List V} (h:LI tab sc so sns H) (hr:H r=some (.list xs)):LI tab sc so sns (DL.upd H r (.list ys)) :=
 ⟨by rw [upd_ne (fun e=>by rw [← e,h.sc] at hr;cases hr)];exact h.sc,tabI_upd h.t24 hr,tabI_upd h.t25 hr,by
  obtain ⟨ps,e⟩:_:=h.t33
  exact ⟨ps,by rw [upd_ne (fun q=>by rw [← q,e] at hr;cases hr)];exact e⟩⟩
theorem law_finding {nm ak:Addr} {Ns Ask:List (List UInt8)} {B:List UInt8}
  (K:CkN (lawC C1 L a0 cd) (gLaw sha fm tab f sc so)) (F1:Fk1 (lawC C1 L a0 cd)) (hn:n=20∨n=32) (hsl:sns.length≤1000) (hT:TN tab) (hLI:LI tab sc so sns H)
  (hnm:H nm=some (.list (Ns.map V.bytes))) (hN0:0<Ns.length) (hN6:Ns.length≤6) (hak:H ak=some (.list (Ask.map V.bytes))) (hAn:∀ b∈Ask,(b.length:Int)=n) (hA10:Ask.length≤10)
  (h:∀ H',LI tab sc so sns H'→WSN (lawC C1 L a0 cd) P [(100,.bytes B),(53,.ref fo),(43,.ref f),(92,.ref sc)] H' ((fdBody 33).drop 12) Q X) :
  WSN (lawC C1 L a0 cd) P [(100,.bytes B),(26,.ref ak),(71,.ref nm),(53,.ref fo),(43,.ref f),(92,.ref sc)] H ((fdBody 33).drop 10) Q X:=by
 obtain u0:=()
 obtain u1:=()
 revert K F1 hn hsl hT hLI hnm hN0 hN6 hak hAn hA10 h
 k_call_by "e" [C1,L,a0,cd,sha,fm,tab,f,sc,fo,so,P,H,Q,X,sns,n,nm,ak,Ns,Ask,B,u0,u1]
 refine t_cons ?_
 refine t_assignL K nm_rows (by rw [g_kinds,kd_33];rfl) ?_
 k_call_by "x" [hnm,isBytesL_map]
 refine ⟨by exact Nat.le_trans ‹_› (by decide),fun rw R hrw hR=>?_⟩
 revert hrw hR
 k_call_by "e" [rw,R]
 have hRl:R.length=Ns.length:=hR.1.length_eq
 have hLI1:=hLI.ext ((Ext.refl H).upd hrw (o:=.list (R.map V.bytes)))
 have hrw1:upd H rw (.list (R.map V.bytes)) rw=some (.list (R.map V.bytes)):=upd_same
 have hak1:=upd_keep (o:=.list (R.map V.bytes)) hrw hak
 generalize upd H rw (.list (R.map V.bytes))=H1 at hLI1 hrw1 hak1
 refine t_cons ?_
 refine t_for K rfl ?_
 k_call_by "x" [hak1]
 refine ⟨fun k m1 H2=>m1=[(91,.ref rw),(100,.bytes B),(26,.ref ak),(53,.ref fo),(43,.ref f),(92,.ref sc)]∧LI tab sc so sns H2∧H2 rw=some (.list (R.map V.bytes))∧H2 ak=some (.list (Ask.map V.bytes)),⟨_,?_,rfl,hLI1,hrw1,hak1⟩,?_,?_,?_⟩
 ·k_call_by "s" []
 ·rintro k m1 H2 ⟨_,_,_,g⟩ c o hc
  unfold only at hc
  split at hc
  ·rename_i e;subst e;rw [hak1] at hc;cases hc;exact g
  ·cases hc
 ·rintro k it m1 H2 hit ⟨rfl,gL,gr,ga⟩
  revert hLI1 hrw1 hak1 hit gL gr ga
  k_call_by "e" [H1,k,it,H2]
  obtain ⟨b,hb,rfl⟩:=enumB_get hit
  have hbn:=hAn b (List.mem_of_getElem? hb)
  k_call_by "x" []
  intro P'
  have hpos:0<(R.length:Int):=by simp [*]
  refine t_cons ?_
  refine t_assignL K nm_low (by rw [g_kinds,kd_33];rfl) ?_
  k_call_by "x" [gr,List.length_map]
  refine ⟨_,sns,rfl,by exact Int.natCast_nonneg _,gL.sc,hsl,fun z1=>?_⟩
  revert hb hit hbn
  k_call_by "e" [b,P',z1]
  k_call_by "x" [gr,List.length_map]
  refine ⟨hpos,?_⟩
  have hlo1:=Int.emod_nonneg z1 (b:=(R.length:Int)) (by exact Int.ne_of_gt ‹_›)
  have hlo2:=Int.emod_lt_of_pos z1 hpos
  generalize z1%(R.length:Int)=low at hlo1 hlo2
  refine t_cons ?_
  refine t_assignL K nm_high (by rw [g_kinds,kd_33];rfl) ?_
  k_call_by "x" [gr,List.length_map]
  refine ⟨_,sns,rfl,by exact Int.natCast_nonneg _,gL.sc,hsl,fun z2=>?_⟩
  revert hlo1 hlo2
  k_call_by "e" [low,z2]
  k_call_by "x" [gr,List.length_map]
  refine ⟨by lia,?_⟩
  have hh1:=Int.emod_nonneg z2 (b:=(R.length:Int)+1-low) (by lia)
  have hh2:=Int.emod_lt_of_pos z2 (b:=(R.length:Int)+1-low) (by lia)
  generalize z2%((R.length:Int)+1-low)=dz at hh1 hh2
  refine t_cons ?_
  refine t_if K ?_
  k_call_by "y" [gr,List.length_map]
  refine ⟨rw,R,0,(R.length:Int)-1,b,rfl,gr,by lia,by decide,by decide,by lia,by lia,hR.2,gL.t25,fun H3 hE3 hI3=>?_⟩
  have gL3:=gL.ext25 hT hE3 hI3
  have gr3:=hE3 _ _ (tabI_ne_list gL.t25 gr) gr
  have ga3:=hE3 _ _ (tabI_ne_list gL.t25 ga) ga
  k_call_by "y" []
  refine ⟨_,sns,rfl,by exact Int.natCast_nonneg _,gL3.sc,hsl,fun z3=>?_⟩
  refine ⟨b,z3,rfl,by grind,by lia,fun b2 H4 hb2 hE4=>?_⟩
  have gL4:=gL3.ext hE4
  have gr4:=hE4 _ _ gr3
  have ga4:=hE4 _ _ ga3
  refine ⟨rw,R,low,low-1+dz,b2,rfl,gr4,by lia,hlo1,by lia,by lia,by lia,hR.2,gL4.t25,fun H5 hE5 hI5=>?_⟩
  k_call_by "x" []
  refine t_nil ?_
  k_call_by "x" []
  refine t_nil ?_
  k_call_by "x" []
  refine ⟨[(91,.ref rw),(100,.bytes B),(26,.ref ak),(53,.ref fo),(43,.ref f),(92,.ref sc)],?_,rfl,gL4.ext25 hT hE5 hI5,hE5 _ _ (tabI_ne_list gL4.t25 gr4) gr4,hE5 _ _ (tabI_ne_list gL4.t25 ga4) ga4⟩
  k_call_by "s" []
 ·rintro m1 H2 ⟨rfl,gL,gr,ga⟩
  refine WXN.weak (SubB.sub ?_) (h H2 gL)
  k_call_by "s" []
end
end DL
end
section
namespace DL
theorem lawVal_row {c k:Int} {n:Nat} (hk:0≤k∧k<8) (hc:c=0∨c=1∨c=2):lawVal c (rowOf c k n)=n:=by
 rcases hc with rfl | rfl | rfl
 ·show lawVal 0 (encHead k.toNat n)=n
  rw [lawVal0 (isRow_ne (encHead_row (by simp [*]))),decSize_head]
 ·show lawVal 1 (enc7 n)=n
  rw [lawVal1,lo_enc7]
 ·show lawVal 2 (encOfs n)=n
  rw [lawVal2 (isRow_ne (encOfs_row n)),decOfs_enc]
theorem lo_snoc:∀ (p:List Int) (z:Int),lo (p++[z])=lo p+z%128*128^p.length
 | [],z=>by simp [lo]
 | x::r,z=>by
  rw [List.cons_append,lo,lo_snoc r,lo,List.length_cons,Int.pow_succ,Int.mul_add,← Int.mul_assoc,← Int.mul_assoc]
  have:128*(z%128)*128^r.length=z%128*128^r.length*128:=by rw [Int.mul_comm 128,Int.mul_assoc,Int.mul_assoc,Int.mul_comm 128]
  rw [this];exact (Int.add_assoc _ _ _).symm
theorem decOfs_same {p:List Int} {z:Int}:decOfs (p++[z+128])=decOfs (p++[z]):=by
 cases p with
 | nil=>simp only [List.nil_append,decOfs,ofsFrom];simp
 | cons x r=>rw [decOfs_snoc (by simp),decOfs_snoc (by simp)];simp
theorem needless {c:Int} {p:List Int} {z:Int} (hc:c=0∨c=1∨c=2) (h:isRow (p++[z])):isRow (p++[z+128,0])∧lawVal c (p++[z+128,0])=if c=2 then (lawVal c (p++[z])+1)*128 else lawVal c (p++[z]):=by
 revert hc h
 k_call_by "e" [c,p,z]
 obtain ⟨q,w,e,hw0,hw1,hq⟩:=isRow_split h
 obtain ⟨rfl,hzw⟩:=List.append_inj' e rfl
 obtain rfl:z=w:=by simpa using hzw
 have e2:p++[z+128,0]=(p++[z+128])++[0]:=by simp
 have hrow:isRow (p++[z+128,0]):=by
  rw [e2]
  refine isRow_of (by decide) (by decide) fun i hi=>?_
  rcases List.mem_append.mp hi with hi | hi
  ·exact hq i hi
  ·rw [List.mem_singleton] at hi;subst hi;exact ⟨Int.le_add_of_nonneg_left hw0,Int.add_lt_add_right hw1 128⟩
 refine ⟨hrow,?_⟩
 rcases hc with rfl | rfl | rfl
 ·rw [if_neg (by decide),lawVal0 (isRow_ne hrow),lawVal0 (isRow_ne h)]
  cases p with
  | nil =>
   simp only [List.nil_append]
   rw [decSize_lo,decSize_lo]
   exact congrArg (·+(0:Int)) (Int.add_mul_emod_self_right z 8 16)
  | cons x r =>
   rw [List.cons_append,List.cons_append,decSize_lo,decSize_lo]
   have:r++[z+128,0]=(r++[z+128])++[0]:=by simp
   rw [this,lo_snoc,lo_snoc,lo_snoc,Int.add_emod_right]
   simp
 ·rw [if_neg (by decide),lawVal1,lawVal1,e2,lo_snoc,lo_snoc,lo_snoc,Int.add_emod_right]
  simp
 ·rw [if_pos rfl,lawVal2 (isRow_ne hrow),lawVal2 (isRow_ne h),e2,decOfs_snoc (by simp),decOfs_same]
  simp
section
variable {C1:Cx} {L a0:Addr} {cd:Value} {sha:Addr} {fm:Addr→Option Int} {tab:Nat→Addr} {f sc fo:Addr} {so:Obj} {P:Kp} {H:Hp} {Q:QS} {X:XSt} {sns:List Int} {n:Int}
noncomputable abbrev bd12:List Stmt:=forOf (fdBody 33)[12]?
noncomputable def invCode (tab:Nat→Addr) (sc:Addr) (so:Obj) (sns:List Int) (B:List UInt8) (fo f:Addr) (k:Nat) (m:Loc) (H1:Hp):Prop:=m=[(100,.bytes B),(53,.ref fo),(43,.ref f),(92,.ref sc)]∧LI tab sc so sns H1
theorem law_code_b {B:List UInt8} {c k:Int} {raw:List Int} {ra:Addr} {v j:Nat}
  (K:CkN (lawC C1 L a0 cd) (gLaw sha fm tab f sc so)) (F1:Fk1 (lawC C1 L a0 cd)) (hn:n=20∨n=32) (hfo:fm fo=some n) (hsl:sns.length≤1000) (hT:TN tab) (hLI:LI tab sc so sns H)
  (hck:ckOk c k) (hra:H ra=some (.list (vInts raw))) (hrow:isRow raw) (hrl:raw.length≤20) (hv:v<2^69) (hval:∀ i:Nat,rowOf c k i=raw→i=v) :
  WSN (lawC C1 L a0 cd) P [(87,.ref ra),(108,.int v),(61,.int k),(36,.int c),(100,.bytes B),(53,.ref fo),(43,.ref f),(92,.ref sc)] H (bd12.drop 4) (forQ (invCode tab sc so sns B fo f) j Q) noX:=by
 obtain u0:=()
 revert K F1 hn hfo hsl hT hLI hck hra hrow hrl hv hval
 k_call_by "e" [C1,L,a0,cd,sha,fm,tab,f,sc,fo,so,P,H,Q,sns,n,B,c,k,raw,ra,v,j,u0]
 have hc3:=hck.c
 have hk8:=hck.k
 refine t_cons ?_
 refine t_assignL K nm_rest (by rw [g_kinds,kd_33];rfl) ?_
 k_call_by "x" []
 refine ⟨_,sns,rfl,by lia,hLI.sc,hsl,fun rest=>?_⟩
 obtain u90:=()
 k_call_by "e" [rest,u90]
 k_call_by "x" []
 refine t_cons ?_
 refine t_assignL K nm_low (by rw [g_kinds,kd_33];rfl) ?_
 k_call_by "x" []
 refine ⟨lt_DIV (by decide),?_⟩
 have hlow:0≤max (c/2) ((v:Int)+2-rest%32)∧max (c/2) ((v:Int)+2-rest%32)≤v+2∧(v:Int)-30≤max (c/2) ((v:Int)+2-rest%32):=by
  have hd:0≤c/2∧c/2≤2:=by rcases hc3 with rfl | rfl | rfl<;>exact ⟨by decide,by decide⟩
  exact ⟨Int.le_trans hd.1 (Int.le_max_left _ _),Int.max_le.mpr ⟨Int.le_trans hd.2 (Int.le_add_of_nonneg_left (Int.natCast_nonneg _)),Int.sub_le_self _ (Int.emod_nonneg _ (by decide))⟩,
   Int.le_trans (Int.le_sub_left_of_add_le (Int.le_trans (Int.add_le_add_right (Int.le_of_lt (Int.emod_lt_of_pos rest (by decide))) _) (Int.le_of_eq (by rw [Int.add_comm,Int.sub_eq_add_neg,Int.add_assoc];rfl)))) (Int.le_max_right _ _)⟩
 generalize max (c/2) ((v:Int)+2-rest%32)=low at hlow
 refine t_cons ?_
 refine t_assignL K nm_high (by rw [g_kinds,kd_33];rfl) ?_
 k_call_by "x" []
 refine ⟨.inr (by decide),?_⟩
 have hhigh:low≤max low ((v:Int)+rest*5%32-4)∧max low ((v:Int)+rest*5%32-4)≤v+30 :=
  ⟨Int.le_max_left _ _,Int.max_le.mpr ⟨Int.le_trans hlow.2.1 (Int.add_le_add_left (by decide) _),Int.sub_left_le_of_le_add (Int.le_trans (Int.add_le_add_left (Int.le_trans (Int.le_of_lt (Int.emod_lt_of_pos _ (by decide))) (by decide:(32:Int)≤30+4)) _) (Int.le_of_eq (by rw [Int.add_comm 4,Int.add_assoc])))⟩⟩
 generalize max low ((v:Int)+rest*5%32-4)=high at hhigh
 revert hlow hhigh
 k_call_by "e" [low,high]
 have finB:∀ (tv:V) H2,(tv = .none∨∃ i,tv = .int i)→LI tab sc so sns H2→H2 ra=some (.list (vInts raw))→WSN (lawC C1 L a0 cd) P [(44,tv),(104,tv),(87,.ref ra),(100,.bytes B),(53,.ref fo),(43,.ref f),(92,.ref sc)] H2 (bd12.drop 9) (forQ (invCode tab sc so sns B fo f) j Q) noX:=fun tv H2 htv hL2 hr2=>by
  refine t_cons ?_
  refine t_if K ?_
  have rd:∀ (Qq:QE) (Xx:XE),(∀ H3,Ext H2 H3→Qq (.bool true) H3)→spLawRead fm [.ref ra,.ref fo] H2 Qq Xx:=fun Qq Xx h=>⟨ra,raw,fo,n,rfl,hr2,hrow,by exact Nat.le_trans ‹_› (by decide),hfo,h⟩
  have fin:∀ H3,Ext H2 H3→∃ m0',SubB m0' [(44,tv),(104,tv),(87,.ref ra),(100,.bytes B),(53,.ref fo),(43,.ref f),(92,.ref sc)]∧invCode tab sc so sns B fo f (j+1) m0' H3:=fun H3 hE3 =>
   ⟨[(100,.bytes B),(53,.ref fo),(43,.ref f),(92,.ref sc)],by k_call_by "s" [],rfl,hL2.ext hE3⟩
  rcases htv with rfl | ⟨i,rfl⟩
  ·k_call_by "y" []
   have e0:(PyData.none.eqv PyData.none)=true:=by simp [PyData.eqv]
   k_call_by "x" [e0]
   refine rd _ _ fun H3 hE3=>?_
   k_call_by "x" []
   refine t_nil ?_
   k_call_by "x" []
   refine t_nil ?_
   k_call_by "x" []
   exact fin H3 hE3
  ·k_call_by "y" []
   refine rd _ _ fun H3 hE3=>?_
   k_call_by "x" []
   refine t_nil ?_
   k_call_by "x" []
   refine t_nil ?_
   k_call_by "x" []
   exact fin H3 hE3
 have h3000:(2:Nat)^70<2^3000:=Nat.pow_lt_pow_right (by decide) (by decide)
 have h6970:(2:Nat)^69<2^70:=by decide
 have hrv:=rowOf_len (c:=c) (k:=k) (n:=v) (by exact Nat.lt_trans ‹_› (by decide))
 have finA:∀ (tv:V) H1,(tv = .int v∧low≤v∧(v:Int)≤high∧rowOf c k v=raw∨tv = .none∧¬ (low≤v∧(v:Int)≤high∧rowOf c k v=raw))→LI tab sc so sns H1→H1 ra=some (.list (vInts raw)) →
   WSN (lawC C1 L a0 cd) P [(104,tv),(55,.int high),(66,.int low),(87,.ref ra),(108,.int v),(61,.int k),(36,.int c),(100,.bytes B),(53,.ref fo),(43,.ref f),(92,.ref sc)] H1 (bd12.drop 8) (forQ (invCode tab sc so sns B fo f) j Q) noX:=fun tv H1 htv hL1 hr1=>by
  have rw1:∀ (Qq:QE) (Xx:XE),(∀ H2 r,Ext H1 H2→H2 r=some (.list (vInts (rowOf c k v)))→Qq (.ref r) H2)→spLawRow [.int c,.int k,.int v] H1 Qq Xx:=fun Qq Xx h =>
   ⟨c,k,v,rfl,hck.imp (fun h=>⟨h.1,Int.le_trans (by decide) h.2.1⟩) id,by exact Nat.le_trans ‹_› (by decide),by exact Nat.lt_trans ‹_› (by decide),fun H2 r hE2 _ hr2=>h H2 r hE2 hr2⟩
  have htv2:tv = .none∨∃ i,tv = .int i:=by
   rcases htv with ⟨h,_⟩ | ⟨h,_⟩
   ·exact .inr ⟨_,h⟩
   ·exact .inl h
  refine t_cons ?_
  refine t_assignL K nm_due (by rw [g_kinds,kd_33];rfl) ?_
  by_cases g1:low≤(v:Int)
  ·have g1':=eq_true g1
   by_cases g2:(v:Int)≤high
   ·have g2':=eq_true g2
    k_call_by "y" [g1',g2']
    refine rw1 _ _ fun H2 r hE2 hr2=>?_
    have hr12:=hE2 _ _ hr1
    k_call_by "x" [hr12,hr2,pydL_vInts,eqv_ints]
    by_cases g3:raw=rowOf c k v
    ·rw [if_pos g3]
     have:tv = .int v:=by
      rcases htv with ⟨h,_⟩ | ⟨_,h⟩
      ·exact h
      ·exact absurd ⟨g1,g2,g3.symm⟩ h
     subst this
     refine WXN.weak (SubB.sub ?_) (finB _ H2 htv2 (hL1.ext hE2) hr12)
     k_call_by "s" []
    ·rw [if_neg g3]
     have:tv = .none:=by
      rcases htv with ⟨_,_,_,h⟩ | ⟨h,_⟩
      ·exact absurd h.symm g3
      ·exact h
     subst this
     refine WXN.weak (SubB.sub ?_) (finB _ H2 htv2 (hL1.ext hE2) hr12)
     k_call_by "s" []
   ·have g2':=eq_false g2
    have:tv = .none:=by
     rcases htv with ⟨_,_,h,_⟩ | ⟨h,_⟩
     ·exact absurd h g2
     ·exact h
    subst this
    k_call_by "y" [g1',g2']
    refine WXN.weak (SubB.sub ?_) (finB _ H1 htv2 hL1 hr1)
    k_call_by "s" []
  ·have g1':=eq_false g1
   have:tv = .none:=by
    rcases htv with ⟨_,h,_,_⟩ | ⟨h,_⟩
    ·exact absurd h g1
    ·exact h
   subst this
   k_call_by "y" [g1']
   refine WXN.weak (SubB.sub ?_) (finB _ H1 htv2 hL1 hr1)
   k_call_by "s" []
 refine t_cons ?_
 refine t_assignL K nm_told (by rw [g_kinds,kd_33];rfl) ?_
 k_call_by "y" []
 refine ⟨c,k,ra,raw,low,high,rfl,hck,hra,by exact Nat.le_trans ‹_› (by decide),isRow_oct hrow,by simp [*],by simp [*],by lia,by lia,hLI.t24,fun H1 hE1 hI1=>⟨fun i h1 h2 h3=>?_,fun hno=>?_⟩⟩
 ·have hi:i.toNat=v:=hval _ h3
  have hiv:i=v:=by rw [← hi];exact (Int.toNat_of_nonneg (Int.le_trans hlow.1 h1)).symm
  subst hiv
  refine WXN.weak (SubB.sub ?_) (finA _ H1 (.inl ⟨rfl,h1,h2,by rw [Int.toNat_natCast] at h3;exact h3⟩) (hLI.ext24 hT hE1 hI1) (hE1 _ _ (tabI_ne_list hLI.t24 hra) hra))
  k_call_by "s" []
 ·refine WXN.weak (SubB.sub ?_) (finA _ H1 (.inr ⟨rfl,fun h=>hno v h.1 h.2.1 (by rw [Int.toNat_natCast];exact h.2.2)⟩) (hLI.ext24 hT hE1 hI1) (hE1 _ _ (tabI_ne_list hLI.t24 hra) hra))
  k_call_by "s" []
end
end DL
end
section
namespace DL
section
variable {C1:Cx} {L a0:Addr} {cd:Value} {sha:Addr} {fm:Addr→Option Int} {tab:Nat→Addr} {f sc fo:Addr} {so:Obj} {P:Kp} {H:Hp} {Q:QS} {X:XSt} {sns:List Int} {n:Int}
theorem law_code_a {B:List UInt8} {c k:Int} {j:Nat}
  (K:CkN (lawC C1 L a0 cd) (gLaw sha fm tab f sc so)) (F1:Fk1 (lawC C1 L a0 cd)) (hn:n=20∨n=32) (hfo:fm fo=some n) (hsl:sns.length≤1000) (hT:TN tab) (hLI:LI tab sc so sns H) (hck:ckOk c k) :
  WSN (lawC C1 L a0 cd) P [(61,.int k),(36,.int c),(100,.bytes B),(53,.ref fo),(43,.ref f),(92,.ref sc)] H (bd12.drop 1) (forQ (invCode tab sc so sns B fo f) j Q) noX:=by
 revert K F1 hn hfo hsl hT hLI hck
 k_call_by "e" [C1,L,a0,cd,sha,fm,tab,f,sc,fo,so,P,H,Q,sns,n,B,c,k,j]
 have hc3:=hck.c
 have hk8:=hck.k
 have hc0:∀ {n:Int},0≤n→0≤n+c:=fun h=>Int.add_nonneg h (by rcases hc3 with rfl | rfl | rfl<;>decide)
 have h3000:(2:Nat)^70<2^3000:=Nat.pow_lt_pow_right (by decide) (by decide)
 have h6970:(2:Nat)^69<2^70:=by decide
 refine t_cons ?_
 refine t_assignL K nm_value (by rw [g_kinds,kd_33];rfl) ?_
 k_call_by "y" []
 refine ⟨_,sns,rfl,hc0 (by decide),hLI.sc,hsl,fun z=>⟨z,rfl,fun H1 hE1=>?_⟩⟩
 revert hE1
 k_call_by "e" [z,H1]
 k_call_by "x" []
 refine ⟨lt_DIV (by decide),?_⟩
 obtain ⟨v,hv,hvb⟩:∃ s:Nat,lawWide z+c/2=s∧s<2^61:=by
  obtain ⟨s,hs,hb⟩:=lawWide_nat z
  obtain ⟨d,hd,hd1⟩:∃ d:Nat,c/2=d∧d≤1:=by rcases hc3 with rfl | rfl | rfl;exact ⟨0,rfl,by decide⟩;exact ⟨0,rfl,by decide⟩;exact ⟨1,rfl,by decide⟩
  exact ⟨s+d,by rw [hs,hd];rfl,Nat.lt_of_lt_of_le (Nat.add_lt_add_of_lt_of_le hb hd1) (by decide)⟩
 rw [hv]
 have hL1:=hLI.ext hE1
 have hrl:=rowOf_len (c:=c) (k:=k) (n:=v) (by exact Nat.lt_trans ‹_› (by decide))
 have hrr:=rowOf_row (c:=c) (n:=v) hk8
 refine t_cons ?_
 refine t_assignL K nm_raw (by rw [g_kinds,kd_33];rfl) ?_
 k_call_by "y" []
 refine ⟨c,k,v,rfl,hck.imp (fun h=>⟨h.1,Int.le_trans (by decide) h.2.1⟩) id,by exact Nat.le_trans ‹_› (by decide),by exact Nat.lt_trans ‹_› (by decide),fun H2 ra hE2 hra hra'=>?_⟩
 revert hv hvb hrl hrr hE2 hra hra'
 k_call_by "e" [v,H2,ra]
 have hL2:=hL1.ext hE2
 refine t_cons ?_
 refine t_if K ?_
 k_call_by "x" []
 refine ⟨_,sns,rfl,hc0 (by decide),hL2.sc,hsl,fun z2=>?_⟩
 k_call_by "x" []
 by_cases h3:z2%4=3
 ·rw [if_pos h3]
  obtain ⟨p,w,e,hw0,hw1,hp⟩:_:=isRow_split hrr
  revert h3 e hw0 hw1 hp
  k_call_by "e" [z2,p,w]
  have hra2:=hra'
  rw [e] at hra2 hrr hrl
  have hlast:at? (vInts (p++[w])) ((((p++[w]).length:Nat):Int)-1)=some (.int w):=by
   rw [show ((((p++[w]).length:Nat):Int)-1)=(p.length:Nat) by simp]
   exact at_nat (by simp)
  refine t_cons ?_
  refine t_assignL K nm_raw (by rw [g_kinds,kd_33];rfl) ?_
  k_call_by "x" [hra2,vInts_len]
  rw [cut_init]
  intro r1 hr1
  obtain u90:=()
  revert hr1
  k_call_by "e" [r1,u90]
  have hra3:=upd_keep (o:=.list (vInts p)) hr1 hra2
  k_call_by "x" [hra3,vInts_len,hlast]
  intro r2 hr2
  rw [upd_keep hr2 upd_same,w_oL,w_oE]
  refine ⟨by rw [vInts_len];simp only [List.length_append] at hrl;exact Nat.le_trans (Nat.le_of_lt ‹_›) (by decide),fun r3 hr3=>?_⟩
  have e4:vInts p++[V.int (w+128),V.int 0]=vInts (p++[w+128,0]):=by simp [vInts]
  rw [e4]
  have hL3:=((hL2.ext ((Ext.refl H2).upd hr1 (o:=.list (vInts p)))).ext ((Ext.refl _).upd hr2 (o:=.list [.int (w+128),.int 0]))).ext ((Ext.refl _).upd hr3 (o:=.list (vInts (p++[w+128,0]))))
  have hr3':upd (upd (upd H2 r1 (.list (vInts p))) r2 (.list [.int (w+128),.int 0])) r3 (.list (vInts (p++[w+128,0]))) r3=some (.list (vInts (p++[w+128,0]))):=upd_same
  generalize upd (upd (upd H2 r1 (.list (vInts p))) r2 (.list [.int (w+128),.int 0])) r3 (.list (vInts (p++[w+128,0])))=H3 at hL3 hr3'
  revert hr2 hr3 hL3 hr3'
  k_call_by "e" [r2,r3,H3]
  obtain ⟨hnr,hnv⟩:_:=needless hc3 hrr
  have hlv:=lawVal_row (n:=v) hk8 hc3
  rw [e] at hlv
  rw [hlv] at hnv
  obtain ⟨v2,hv2,hv2b⟩:∃ s:Nat,lawVal c (p++[w+128,0])=s∧s<2^69:=by
   rw [hnv]
   split
   ·exact ⟨(v+1)*128,by simp,by lia⟩
   ·exact ⟨v,rfl,by exact Nat.lt_trans ‹_› (by decide)⟩
  have hl2:(p++[w+128,0]).length≤20:=by
   simp only [List.length_append,List.length_cons,List.length_nil] at hrl ⊢;exact Nat.lt_of_le_of_lt ‹_› (by decide)
  refine t_cons ?_
  refine t_assignL K nm_value (by rw [g_kinds,kd_33];rfl) ?_
  k_call_by "y" []
  refine ⟨c,r3,p++[w+128,0],rfl,hr3',isRow_ne hnr,by exact Nat.le_trans ‹_› (by decide),isRow_oct hnr,hc3,fun H4 hE4=>?_⟩
  rw [hv2]
  refine t_nil ?_
  refine WXN.weak (SubB.sub ?_) (law_code_b K F1 hn hfo hsl hT (hL3.ext hE4) hck (hE4 _ _ hr3') hnr hl2 hv2b fun i hi=>?_)
  ·k_call_by "s" []
  ·have:=lawVal_row (n:=i) hk8 hc3
   rw [hi,hv2] at this
   lia
 ·rw [if_neg h3]
  refine t_nil ?_
  refine WXN.weak (SubB.sub ?_) (law_code_b K F1 hn hfo hsl hT hL2 hck hra' hrr (by exact Nat.le_trans ‹_› (by decide)) (by exact Nat.lt_trans ‹_› (by decide)) fun i hi=>rowOf_inj hk8 hi)
  k_call_by "s" []
theorem law_codes {B:List UInt8}
  (K:CkN (lawC C1 L a0 cd) (gLaw sha fm tab f sc so)) (F1:Fk1 (lawC C1 L a0 cd)) (hn:n=20∨n=32) (hfo:fm fo=some n) (hsl:sns.length≤1000) (hT:TN tab) (hLI:LI tab sc so sns H)
  (h:∀ H',LI tab sc so sns H'→WSN (lawC C1 L a0 cd) P [(100,.bytes B),(53,.ref fo),(43,.ref f),(92,.ref sc)] H' ((fdBody 33).drop 13) Q X) :
  WSN (lawC C1 L a0 cd) P [(100,.bytes B),(53,.ref fo),(43,.ref f),(92,.ref sc)] H ((fdBody 33).drop 12) Q X:=by
 revert K F1 hn hfo hsl hT hLI h
 k_call_by "e" [C1,L,a0,cd,sha,fm,tab,f,sc,fo,so,P,H,Q,X,sns,n,B]
 refine t_cons ?_
 refine t_for_range K rfl nm_range (by rw [g_kinds,kd_33];rfl) gl_range rfl ?_
 k_call_by "x" []
 refine ⟨invCode tab sc so sns B fo f,⟨_,?_,rfl,hLI⟩,?_,?_⟩
 ·k_call_by "s" []
 ·rintro j it m1 H1 hit ⟨rfl,hL⟩
  have hj:j<(rangeOf 0 3).length:=(List.getElem?_eq_some_iff.mp hit).1
  rw [range_len] at hj
  obtain rfl:=range_get hit
  k_call_by "x" []
  intro P'
  obtain ⟨c,hc,hc3⟩:∃ c:Int,0+(j:Int)=c∧(c=0∨c=1∨c=2):=⟨_,rfl,by lia⟩
  rw [hc]
  refine t_cons ?_
  refine t_assignL K nm_kind (by rw [g_kinds,kd_33];rfl) ?_
  k_call_by "x" []
  by_cases h0:c=0
  ·rw [if_pos h0]
   refine ⟨_,sns,rfl,by decide,hL.sc,hsl,fun z=>?_⟩
   k_call_by "x" []
   refine WXN.weak (SubB.sub ?_) (law_code_a (j:=j) (c:=c) (k:=1+z%4) (B:=B) K F1 hn hfo hsl hT hL (.inl ⟨h0,Int.le_add_of_nonneg_right (Int.emod_nonneg _ (by decide)),Int.add_lt_add_left (Int.emod_lt_of_pos _ (by decide)) 1⟩))
   k_call_by "s" []
  ·rw [if_neg h0]
   refine WXN.weak (SubB.sub ?_) (law_code_a (j:=j) (c:=c) (k:=0) (B:=B) K F1 hn hfo hsl hT hL (by unfold ckOk;lia))
   k_call_by "s" []
 ·rintro m1 H1 ⟨rfl,hL⟩
  exact h H1 hL
end
end DL
end
section
namespace DL
theorem eqv_cut {a:List Int} {x:Int}:PyData.eqv (.tuple [.list (a.map PyData.int),.int x]) (.tuple [.list (a.map PyData.int),.int x])=true:=by
 have h:PyData.eqvAll (a.map PyData.int) (a.map PyData.int)=true:=by rw [ked_eqvAll];simp
 simp [PyData.eqv,PyData.eqvAll,h]
section
variable {C1:Cx} {L a0:Addr} {cd:Value} {sha:Addr} {fm:Addr→Option Int} {tab:Nat→Addr} {f sc fo:Addr} {so:Obj} {P:Kp} {H:Hp} {Q:QS} {X:XSt} {sns:List Int} {n:Int}
theorem law_last {B:List UInt8}
  (K:CkN (lawC C1 L a0 cd) (gLaw sha fm tab f sc so)) (F1:Fk1 (lawC C1 L a0 cd)) (hn:n=20∨n=32) (hfo:fm fo=some n) (hsl:sns.length≤1000) (hLI:LI tab sc so sns H) (hB:B.length≤200)
  (h:∀ m' H',LI tab sc so sns H'→Q (.ret (.bool true)) m' H') :
  WSN (lawC C1 L a0 cd) P [(100,.bytes B),(53,.ref fo),(43,.ref f),(92,.ref sc)] H ((fdBody 33).drop 16) Q X:=by
 revert K F1 hn hfo hsl hLI hB h
 k_call_by "e" [C1,L,a0,cd,sha,fm,tab,f,sc,fo,so,P,H,Q,X,sns,n,B]
 refine t_cons ?_
 refine t_for_range K rfl nm_range (by rw [g_kinds,kd_33];rfl) gl_range rfl ?_
 k_call_by "x" []
 refine ⟨fun _ m1 H1=>m1=[(100,.bytes B),(53,.ref fo),(43,.ref f),(92,.ref sc)]∧Ext H H1,⟨_,?_,rfl,Ext.refl _⟩,?_,?_⟩
 ·k_call_by "s" []
 ·rintro j it m1 H1 hit ⟨rfl,hE⟩
  revert hit hE
  k_call_by "e" [j,it,H1]
  have hj:j<(rangeOf 0 2).length:=(List.getElem?_eq_some_iff.mp hit).1
  rw [range_len] at hj
  obtain rfl:=range_get hit
  k_call_by "x" []
  intro P'
  refine t_cons ?_
  refine t_assignL K nm_at (by rw [g_kinds,kd_33];rfl) ?_
  k_call_by "x" []
  refine ⟨_,sns,rfl,by exact Int.natCast_nonneg _,hE _ _ hLI.sc,hsl,fun z=>?_⟩
  k_call_by "e" [P',z]
  k_call_by "x" []
  refine ⟨by lia,?_⟩
  obtain ⟨at',hat,hatb⟩:∃ a:Nat,z%((B.length:Int)+2)=a∧a≤300:=by
   obtain h1:=Int.emod_nonneg z (b:=(B.length:Int)+2) (Int.ne_of_gt (Int.ofNat_lt.mpr (Nat.succ_pos (B.length+1))))
   obtain h2:=Int.emod_lt_of_pos z (b:=(B.length:Int)+2) (Int.ofNat_lt.mpr (Nat.succ_pos (B.length+1)))
   obtain ⟨s,hs⟩:=Int.eq_ofNat_of_zero_le h1
   exact ⟨s,hs,Nat.le_trans (Nat.le_of_lt (Int.ofNat_lt.mp (hs▸h2))) (Nat.le_trans (Nat.add_le_add_right hB 2) (by decide))⟩
  rw [hat]
  refine t_cons ?_
  refine t_assignL K nm_cut (by rw [g_kinds,kd_33];rfl) ?_
  k_call_by "y" []
  have fin:∀ (m:Loc) H3,Ext H H3→SubB [(100,.bytes B),(53,.ref fo),(43,.ref f),(92,.ref sc)] m→∃ m0',SubB m0' m∧m0'=[(100,.bytes B),(53,.ref fo),(43,.ref f),(92,.ref sc)]∧Ext H H3:=fun m H3 hE3 hm=>⟨_,hm,rfl,hE3⟩
  cases hq:takeMsb (B.drop at') with
  | none =>
   refine ⟨B,at',rfl,by exact Nat.le_trans ‹_› (by decide),by exact Nat.le_trans ‹_› (by decide),fun l hl=>(by rw [hq] at hl;cases hl),fun _ H2 hE2=>?_⟩
   refine t_cons ?_
   refine t_if K ?_
   k_call_by "y" []
   refine ⟨B,at',rfl,by exact Nat.le_trans ‹_› (by decide),by exact Nat.le_trans ‹_› (by decide),fun l hl=>(by rw [hq] at hl;cases hl),fun _ H3 hE3=>?_⟩
   have e0:(PyData.none.eqv PyData.none)=true:=by simp [PyData.eqv]
   k_call_by "x" [e0]
   refine t_nil ?_
   k_call_by "x" []
   refine t_nil ?_
   k_call_by "x" []
   refine fin _ H3 ((hE.trans hE2).trans hE3) ?_
   k_call_by "s" []
  | some l =>
   obtain hlr:=takeMsb_isRow hq
   obtain ⟨_,hll,_⟩:=takeMsb_pos hq
   rw [List.length_drop] at hll
   refine ⟨B,at',rfl,by exact Nat.le_trans ‹_› (by decide),by exact Nat.le_trans ‹_› (by decide),fun l' hl H2 r t hE2 hr hr' ht ht'=>?_,fun hno=>(by rw [hq] at hno;cases hno)⟩
   rw [hq] at hl;cases hl
   refine t_cons ?_
   refine t_if K ?_
   k_call_by "y" []
   refine ⟨B,at',rfl,by exact Nat.le_trans ‹_› (by decide),by exact Nat.le_trans ‹_› (by decide),fun l' hl H3 r3 t3 hE3 hr3 hr3' ht3 ht3'=>?_,fun hno=>(by rw [hq] at hno;cases hno)⟩
   rw [hq] at hl;cases hl
   obtain g1:=hE3 _ _ hr'
   obtain g2:=hE3 _ _ ht'
   k_call_by "x" [g1,g2,hr3',ht3',pydL_vInts,eqv_cut,at_0]
   refine ⟨r,l,fo,n,rfl,g1,hlr,by lia,hfo,fun H4 hE4=>?_⟩
   k_call_by "x" []
   refine t_nil ?_
   k_call_by "x" []
   refine t_nil ?_
   k_call_by "x" []
   refine fin _ H4 (((hE.trans hE2).trans hE3).trans hE4) ?_
   k_call_by "s" []
 ·rintro m1 H1 ⟨rfl,hE⟩
  refine t_cons ?_
  refine t_return K ?_
  k_call_by "x" []
  exact h _ _ (hLI.ext hE)
theorem law_raws {B:List UInt8}
  (K:CkN (lawC C1 L a0 cd) (gLaw sha fm tab f sc so)) (F1:Fk1 (lawC C1 L a0 cd)) (hn:n=20∨n=32) (hfo:fm fo=some n) (hsl:sns.length≤1000) (hLI:LI tab sc so sns H) (hB:B.length≤200)
  (h:∀ m' H',LI tab sc so sns H'→Q (.ret (.bool true)) m' H') :
  WSN (lawC C1 L a0 cd) P [(100,.bytes B),(53,.ref fo),(43,.ref f),(92,.ref sc)] H ((fdBody 33).drop 13) Q X:=by
 revert K F1 hn hfo hsl hLI hB h
 k_call_by "e" [C1,L,a0,cd,sha,fm,tab,f,sc,fo,so,P,H,Q,X,sns,n,B]
 refine t_cons ?_
 refine t_assignL K nm_raw (by rw [g_kinds,kd_33];rfl) ?_
 k_call_by "x" []
 intro r hr
 obtain u90:=()
 revert hr
 k_call_by "e" [r,u90]
 have hL1:=hLI.ext ((Ext.refl H).upd hr (o:=.list []))
 have hsc1:=hL1.sc
 refine t_cons ?_
 refine t_for_range K rfl nm_range (by rw [g_kinds,kd_33];rfl) gl_range rfl ?_
 k_call_by "x" []
 refine ⟨33,sns,rfl,by decide,hsc1,hsl,fun z=>?_⟩
 k_call_by "x" []
 have hz6:(z%6-0).toNat≤5:=mdN (m:=6) (by decide) (by decide)
 refine ⟨⟨Int.lt_of_lt_of_le (by decide) (Int.emod_nonneg _ (by decide)),Int.lt_trans (Int.emod_lt_of_pos _ (by decide)) (by decide)⟩,fun k m1 H1=>m1=[(87,.ref r),(100,.bytes B),(53,.ref fo),(43,.ref f),(92,.ref sc)]∧∃ p:List Int,H1 r=some (.list (vInts p))∧p.length=k∧(∀ i∈p,128≤i∧i<256)∧LI tab sc so sns H1,⟨_,?_,rfl,[],upd_same,rfl,by simp,hL1⟩,?_,?_⟩
 ·k_call_by "s" []
 ·rintro k it m1 H1 hit ⟨rfl,p,h1,h2,h3,h4⟩
  have hk:k<(rangeOf 0 (z%6)).length:=(List.getElem?_eq_some_iff.mp hit).1
  rw [range_len] at hk
  obtain rfl:=range_get hit
  k_call_by "x" []
  intro P'
  refine t_cons ?_
  refine t_expr K ?_
  k_call_by "x" [h1]
  refine ⟨_,sns,rfl,by exact Int.natCast_nonneg _,h4.sc,hsl,fun z2=>?_⟩
  k_call_by "x" [h1,vInts_len]
  refine ⟨by rw [h2];exact Nat.lt_of_lt_of_le hk (Nat.le_trans hz6 (by decide)),?_⟩
  refine t_nil ?_
  k_call_by "x" []
  refine ⟨[(87,.ref r),(100,.bytes B),(53,.ref fo),(43,.ref f),(92,.ref sc)],?_,rfl,p++[128+z2%128],by simp [vInts],by simp [h2],fun i hi=>?_,h4.upd h1⟩
  ·k_call_by "s" []
  ·rcases List.mem_append.mp hi with hi | hi
   ·exact h3 i hi
   ·rw [List.mem_singleton] at hi;subst hi;exact ⟨Int.le_add_of_nonneg_right (Int.emod_nonneg _ (by decide)),Int.add_lt_add_left (Int.emod_lt_of_pos _ (by decide)) 128⟩
 ·rintro m1 H1 ⟨rfl,p,h1,h2,h3,h4⟩
  clear hz6
  revert h1 h2 h3 h4
  k_call_by "e" [z,H1,p]
  refine t_cons ?_
  refine t_if K ?_
  k_call_by "y" []
  intro r1 hr1
  have e1:upd H1 r1 (.list [.int 0]) r1=some (.list (vInts [0])):=upd_same
  refine ⟨r1,[0],fo,n,rfl,e1,⟨by decide,by decide⟩,by simp,hfo,fun H2 hE2=>?_⟩
  have hE1:=((Ext.refl H1).upd hr1 (o:=.list [.int 0])).trans hE2
  k_call_by "y" []
  refine ⟨33,sns,rfl,by decide,hE1 _ _ h4.sc,hsl,fun z2=>?_⟩
  k_call_by "x" []
  refine ⟨lt_DIV (by decide),fun r2 hr2=>?_⟩
  have g1:=upd_keep (o:=.list [.int (z2/6%128)]) hr2 (hE1 _ _ h1)
  k_call_by "x" [g1,vInts_len]
  refine ⟨by lia,fun r3 hr3=>?_⟩
  have e4:vInts p++[V.int (z2/6%128)]=vInts (p++[z2/6%128]):=by simp [vInts]
  rw [e4]
  have hE3:=(hE1.upd hr2 (o:=.list [.int (z2/6%128)])).upd hr3 (o:=.list (vInts (p++[z2/6%128])))
  refine ⟨r3,p++[z2/6%128],fo,n,rfl,upd_same,isRow_of (by exact Int.emod_nonneg _ (by decide)) (by exact Int.emod_lt_of_pos _ (by decide)) h3,by simp only [List.length_append,List.length_singleton];rw [h2];exact Nat.le_trans (Nat.add_le_add_right (mdN (m:=6) (n:=5) (by decide) (by decide)) 1) (by decide),hfo,fun H4 hE4=>?_⟩
  k_call_by "x" []
  refine t_nil ?_
  refine WXN.weak (SubB.sub ?_) (law_last K F1 hn hfo hsl (h4.ext (hE3.trans hE4)) hB h)
  k_call_by "s" []
theorem law_rest (K:CkN (lawC C1 L a0 cd) (gLaw sha fm tab f sc so)) (F1:Fk1 (lawC C1 L a0 cd)) (hn:n=20∨n=32) (hfo:fm fo=some n) (hsl:sns.length≤1000) (hT:TN tab) (hLI:LI tab sc so sns H)
  (h:∀ m' H',LI tab sc so sns H'→Q (.ret (.bool true)) m' H') :
  WSN (lawC C1 L a0 cd) P [(53,.ref fo),(43,.ref f),(92,.ref sc)] H ((fdBody 33).drop 2) Q X:=by
 refine law_names K F1 hn hfo hLI.sc hsl fun H1 nm Ns hE1 hnm0 hnm hNl hNn=>?_
 have hL1:=hLI.ext hE1
 refine law_lists K F1 hL1.sc hsl hnm hNl.2 fun H2 ak en B hE2 hak0 hen0 hne hak hen hB=>?_
 have hL2:=hL1.ext hE2
 have hscn:sc∉[ak,en]:=fun hm=>by
  simp only [List.mem_cons,List.not_mem_nil,or_false] at hm
  rcases hm with rfl | rfl
  ·rw [hL1.sc] at hak0;cases hak0
  ·rw [hL1.sc] at hen0;cases hen0
 have hnmn:nm∉[ak,en]:=fun hm=>by
  simp only [List.mem_cons,List.not_mem_nil,or_false] at hm
  rcases hm with rfl | rfl
  ·rw [hnm] at hak0;cases hak0
  ·rw [hnm] at hen0;cases hen0
 refine law_entries K F1 hn hfo hL2.sc hsl hscn hne (hE2 _ _ hnm) hnmn (by exact ‹_∧_›.1) hNn hNl.2 hen hak hB fun H3 B3 Ask hX3 hak3 hA10 hAn hB3=>?_
 have nb:∀ a o,H2 a=some (.raw o)→a∉[ak,en]:=fun a o ho hm=>by
  simp only [List.mem_cons,List.not_mem_nil,or_false] at hm
  rcases hm with rfl | rfl
  ·rw [hak] at ho;cases ho
  ·rw [hen] at ho;cases ho
 have tb:∀ {T:Addr} {pos:Pos} {q:Str},tabI T pos q H2→tabI T pos q H3:=fun {T pos q} hI=>by
  rcases hI with h | ⟨c',oc,vs,t,g1,g2,g3,g4,g5⟩
  ·exact .inl (hX3 _ _ (nb _ _ h) h)
  ·exact .inr ⟨c',oc,vs,t,g1,hX3 _ _ (nb _ _ g2) g2,hX3 _ _ (nb _ _ g3) g3,g4,g5⟩
 have hL3:LI tab sc so sns H3:=⟨hX3 _ _ hscn hL2.sc,tb hL2.t24,tb hL2.t25,by
  obtain ⟨ps,e⟩:_:=hL2.t33
  exact ⟨ps,hX3 _ _ (nb _ _ e) e⟩⟩
 have hnm3:=hX3 _ _ hnmn (hE2 _ _ hnm)
 refine law_barring K F1 hn hfo hL3.sc hsl hnm3 (by exact ‹_∧_›.1) hNn fun H4 hE4=>?_
 refine law_finding K F1 hn hsl hT (hL3.ext hE4) (hE4 _ _ hnm3) (by exact ‹_∧_›.1) hNl.2 (hE4 _ _ hak3) hAn hA10 fun H5 hL5=>?_
 refine law_codes K F1 hn hfo hsl hT hL5 fun H6 hL6=>?_
 exact law_raws K F1 hn hfo hsl hL6 hB3 h
end
end DL
end
namespace DL
noncomputable abbrev Γ0:Ctx:=⟨.builtin "claim.caller" {},none,none,[],none⟩
theorem good0:Good Γ0:=⟨by decide +kernel,fun x hx=>by cases hx⟩
theorem nEnds {prog:Program} {w:PySem.World} {t:Sem Fin} {s:Shared} {R:Result→Shared→Prop} (hreg:s.asleep)
  (h:wpN (model prog w) callerA t (fun fin s'=>∃ f,fin = .done f∧(R (.ok f) s'∧leftWithCleanup s'.gens=false)) (fun e s'=>R (.error e) s'∧leftWithCleanup s'.gens=false) s) :
  ∃ n r s' s'',runN (denote table) prog w n s ⟨t,.builtin "claim.caller" {},default,[]⟩ = .halted (outcomeOf r) s' ∧
   schedN (denote table) prog w n (.single s ⟨t,.builtin "claim.caller" {},default,[]⟩) = .halted (outcomeOf r) s'∧s'.forget=s''.forget∧R r s'':=by
 revert hreg h
 k_call_by "e" [prog,w,t,s,R]
 have h0:Sem.wp (model prog w) Γ0 t (Sem.finPost (model prog w) Γ0 (fun r s'=>R r s'∧leftWithCleanup s'.gens=false)) (fun e _ s'=>R (.error e) s'∧leftWithCleanup s'.gens=false) default s:=by
  refine Sem.wp_mono _ Γ0 t (fun fin p' s' h'=>?_) (fun _ _ _ h'=>h') default s (h Γ0 default caller_in good0)
  obtain ⟨f,rfl,hf⟩:=h'
  exact hf
 obtain ⟨n,r,s₁,s₂,hs,hn,hfo,hR⟩:=wp_halts_full (M:=model prog w) (R:=R) hreg h0
 exact ⟨n,r,s₂,s₁,hn,hs,hfo,hR⟩
theorem callFromN {c:ClaimW} {tree:List Value→Sem Fin} {w:PySem.World} {s:Shared} {free:Addr→Prop} {gens:Prop} {kept:Heap→Prop} (hz:s.asleep) (hgens:s.gens=#[])
  (hspec:∀ args,c.pre args=true→WData.layableAll args=true→∀ ord:List DictEntry→List DictEntry,(∀ l,(ord l).Perm l) →
   ∃ vs s₁,layAllW c.records (classAt s.heap) w.params ord args s=some (vs,s₁) ∧
    wpN (model c.prog w) callerA (tree vs) (fun fin s'=>∃ f,fin = .done f∧(c.Ends s args vs s₁ (.ok f) s'∧s'.os=s.os∧AllBare s'.gens∧kept s'.heap))
     (fun e s'=>c.Ends s args vs s₁ (.error e) s'∧s'.os=s.os∧AllBare s'.gens∧kept s'.heap) s₁) :
  c.CallFrom (fun vs=>⟨tree vs,.builtin "claim.caller" {},default,[]⟩) w free gens kept s:=by
 intro args hpre hlay ord hord
 obtain ⟨vs,s₁,hlaid,hcode⟩:=hspec args hpre hlay ord hord
 have hal:=layAllW_rest _ _ _ hlaid
 obtain ⟨k,r,s',s'',hrun,hsched,hfo,hcase,hos,hkp⟩:=nEnds (prog:=c.prog) (w:=w) (t:=tree vs) (s:=s₁) (R:=fun r s'=>c.Ends s args vs s₁ r s'∧s'.os=s.os∧kept s'.heap)
  (Shared.asleep_of_life hal.2.2.2 hz)
  (nMono hcode (by
   rintro fin s' ⟨f,e,h1,h2,h3,h4⟩
   exact ⟨f,e,⟨h1,h2,h4⟩,leftWithCleanup_false_of_bare h3⟩) (by
   rintro e s' ⟨h1,h2,h3,h4⟩
   exact ⟨⟨h1,h2,h4⟩,leftWithCleanup_false_of_bare h3⟩))
 obtain ⟨eh,_,_,eo,_⟩:=Shared.forget_eq hfo
 have hcase:=hcase.congr eh
 have hkp:kept s'.heap:=by rw [eh];exact hkp
 rw [← eo] at hos
 have hlife:s'.heap.life=s.heap.life:=(runN_life _ _ _ hrun).trans hal.2.2.2
 refine ⟨vs,s₁,hlaid,k,_,s',hsched,?_,(fun _ i x hx=>by rw [hgens] at hx;simp at hx),hkp,by rw [hlife],Shared.rest_eq hos⟩
 rcases hcase with ⟨v,rfl,d1,d2,d3,d4,d5⟩ | ⟨e,ob,cls,rfl,d1,d2,d3,d4,d5⟩
 ·exact .inl ⟨v,rfl,d1,d2,d3,fun b o y _=>d4 b o y,d5⟩
 ·exact .inr ⟨e,ob,cls,rfl,d1,d2,d3,d4,fun b o y _=>d5 b o y⟩
noncomputable abbrev WalkM (q:Program) (loose:List Str) (XP:(Str→Option Value)→Heap→Prop) (YP:PySem.World→Heap→Prop) (r:RowW) (d:DefRec) (kwd:List (Str×Expr)):Prop :=
 ∀ (w:PySem.World) (s₀ s₁:Shared) (mg mb:Str→Option Value),Ground q loose r.records XP w s₀ mg mb s₁.heap→YP w s₁.heap→∀ (a:Addr) (o:Obj) (pm cd doc dV kV:Value),s₁.heap.get? a=some o →
  o.data = .func { docDef d.name d.params d.body d.scope pm cd doc with defaults:=dV,kwdefaults:=kV }→s₁.heap.CodeRec cd d.name→Dflts mg s₁.heap d.params kwd dV kV→mg d.name=some (.ref a)→s₁.gens=#[] →
  ∀ (args:List WData) (vals:List Value) (as:List Addr),r.claim.pre args=true→WData.layableAll args=true→ReadsAllW r.records (classAt s₀.heap) s₁.heap vals args as→WellAll w.params s₁.heap vals args→(∀ a∈as,(a == sysModules)=false) →
   wpN (model r.prog w) callerA (call (.ref a) vals) (fun v s'=>GoodWG r.claim (classAt s₀.heap) (ExcName.means s₀.heap) args s₁ (.ok (.ret v)) s')
    (fun e s'=>GoodWG r.claim (classAt s₀.heap) (ExcName.means s₀.heap) args s₁ (.error e) s') s₁
theorem PySem.W.holds_open {r:OpenRow} {q:Program} {loose:List Str} {Xt:Shared→Bool} {XP:(Str→Option Value)→Heap→Prop} {α:Type} {Yf:Shared→α} {Ya:PySem.World→α} {YP:PySem.World→Heap→Prop} {d:DefRec} {kwd:List (Str×Expr)} {N:Nat}
  (left:LeftO r.prog q loose Xt Yf Ya N) (hY:∀ w s,Yf s=Ya w→YP w s.heap) (hYk:∀ w h h',YP w h→(∀ b o,h.get? b=some o→h'.get? b=some o)→YP w h')
  (hX:∀ s,Xt s=true→XP (s.heap.nsMap mainGlobals) s.heap) (hXk:∀ mg h h',XP mg h→(∀ b o,h.get? b=some o→h'.get? b=some o)→XP mg h')
  (hdef:defOf q r.name=some (d,kwd)) (hp:r.prog.theDef r.name=some (d.params,d.body,d.scope)) (hk:kwWritten? d.params.kwonlyargs d.params.kw_defaults=some kwd) (hRf:∀ s,Xt s=true→RecFacts r.records s.heap) (hwr:(!r.writes||r.records.isEmpty)=true)
  (k1:r.wellSaid=true) (ok:(chainsOk q&&opensWell r.prog&&(frees r.toRowW&&r.within.isEmpty))=true) (hb:r.prog.bare) (hw:r.toRowW.promised)
  (call:WalkM q loose XP YP r.toRowW d kwd):r.Holds:=by
 refine ⟨k1,hw,?_⟩
 obtain ⟨ok,k5⟩:=Bool.and_eq_true_iff.mp ok
 obtain ⟨hch,o1⟩:=Bool.and_eq_true_iff.mp ok
 obtain ⟨k5,k6⟩:=Bool.and_eq_true_iff.mp k5
 obtain ⟨hsame,hu,ha,hap,hm⟩:=frees_parts k5
 refine ⟨⟨hb,o1,by show r.toRowW.makers.map _=[];rw [hm];rfl⟩,hw.witness,fun w=>⟨(left.behind hX hch w).1,fun s' hs'=>?_⟩⟩
 obtain ⟨s₀,hf,hg0,s,hT,hz,hgens,hg,G00,y⟩:=(left.behind (XP:=fun mg h=>XP mg h∧RecFacts r.records h) (fun s hs=>⟨hX s hs,hRf s hs⟩) hch w).2 s' hs'
 have G0:Ground q loose [] XP w s (s.heap.nsMap mainGlobals) (s.heap.nsMap builtinsNs) s.heap:=⟨G00.T,G00.B,G00.D,G00.TE,G00.TD,G00.W,G00.X.1,G00.cls,G00.has,G00.apart,G00.once,G00.K⟩
 have RF:=G00.X.2
 have hT':=hT
 refine ⟨s₀,hf,hg0,s,hT,fun n hn=>?_,RF.1,RF.2.1,?_⟩
 ·obtain rfl:n=r.name:=by split at hn<;>simp_all
  exact pinned_of_view hg G0 hdef hp hk
 have hgens:s.gens=#[]:=Array.eq_empty_of_size_eq_zero (beq_iff_eq.mp hgens)
 have G:Ground q loose r.records XP w s _ _ s.heap:=RF.ground G0
 refine callFromN (c:=r.toRowW.claim) hz hgens fun args hpre hlay ord hord=>?_
 obtain ⟨⟨vs,s₁⟩,hlaid⟩:=Option.isSome_iff_exists.mp (layAllW_isSome (P:=w.params) (ord:=ord) G.has args r.toRowW.args s (pre_splitW hpre).1)
 have keeps:=layAllW_keeps _ _ _ hlaid
 have hal:=layAllW_rest _ _ _ hlaid
 obtain ⟨as,hrd,hin,hold⟩:=reads_layAllW hord _ _ _ hlaid hlay s₁.heap (fun _ _ e=>e)
 have L:Laid r.records w s s₁ args vs as:=⟨⟨ord,hord,hlaid⟩,hrd,hin,hold,keeps,hal.1.trans hgens,hal.2.2.1⟩
 have G₁:=G.keeps hXk keeps
 obtain ⟨a,o,pm,cd,doc,dV,kV,h1,h2,h3,h4,h5⟩:=G₁.fn hdef
 have h:=call w s s₁ _ _ G₁ (hYk _ _ _ (hY w s y) keeps) a o pm cd doc dV kV h2 h3 h4 h5 (defOf_name hdef▸h1) L.gens args vs as hpre hlay L.reads L.well (L.low G.low)
 have hi:=ident_freeW hu ha hap
 have hwi:r.toRowW.claim.within=[]:=List.isEmpty_iff.mp k6
 refine ⟨vs,s₁,hlaid,?_⟩
 refine nBind (nOf (wpAny_nsGet G₁.T.g ?_))
 rw [h1]
 exact nBind (nMono h (fun v s' g=>nPure ⟨_,rfl,have z:=g.laid (c:=r.toRowW.claim) hsame hwi hi L;⟨z.1,z.2.1,z.2.2,fun q=>⟨namesKept_of hT' hg _ keeps g.2.1.old,noTable hwr q⟩⟩⟩)
  fun e s' g=>have z:=g.laid (c:=r.toRowW.claim) hsame hwi hi L;⟨z.1,z.2.1,z.2.2,fun q=>⟨namesKept_of hT' hg _ keeps g.2.1.old,noTable hwr q⟩⟩)
end DL
section
namespace DL
structure Hid (h₁:Heap) (so:Obj) (base:Kp):Prop where
 sub:∀ b o,base b=some o→h₁.get? b=some o
 hid:∀ b o,h₁.get? b=some o→o≠so→o≠tabObj #[]→base b=some o
 seq:∃ vs n,so.data = .seq vs n
section
variable {q:Program} {loose:List Str} {mean:ExcName→Option Value} {mg mb:MG} {h₁:Heap} {so:Obj} {base:Kp} {w:PySem.World} {prog:Program} {sha:Addr} {fm:Addr→Option Int}
theorem Hid.at (Hi:Hid h₁ so base) {b:Addr} {o:Obj} (e:h₁.get? b=some o) (h1:∀ vs n,o.data≠.seq vs n) (h2:o≠tabObj #[]):base b=some o :=
 Hi.hid b o e (fun q=>by obtain ⟨vs,n,hs⟩:=Hi.seq;rw [← q] at hs;exact h1 _ _ hs) h2
theorem Hid.ns (Hi:Hid h₁ so base) {L:Addr} {m:MG} (x:h₁.Ns L m) {h:Heap} (k:∀ b o,base b=some o→h.get? b=some o):h.Ns L m:=x.at' fun o e=>by
 obtain ⟨o',es,ep,e',hd,_⟩:=x
 rw [e] at e';cases e'
 exact k _ _ (Hi.at e (fun vs n q=>by rw [hd] at q;cases q) (fun q=>by rw [q] at hd;cases hd))
theorem Hid.codeRec (Hi:Hid h₁ so base) {cd:Value} {n:Str} (x:h₁.CodeRec cd n) {h:Heap} (k:∀ b o,base b=some o→h.get? b=some o):h.CodeRec cd n:=by
 obtain ⟨c,oc,vs,t,rfl,hoc,hd,hv⟩:_:=x
 refine ⟨c,oc,vs,t,rfl,k _ _ (Hi.at hoc (fun vs n q=>by rw [hd] at q;cases q) fun e=>?_),hd,hv⟩
 rw [e] at hd
 cases hd
 simp at hv
theorem Hid.codeHd (Hi:Hid h₁ so base) {c T:Addr} (x:CodeHd h₁ c T) {h:Heap} (k:∀ b o,base b=some o→h.get? b=some o):CodeHd h c T:=by
 revert Hi x k
 k_call_by "e" [h₁,so,base,c,T,h]
 obtain ⟨o,vs,file,tf,flags,tg,inF,text,tt,e1,r1,r2,r⟩:=x
 exact ⟨o,vs,file,tf,flags,tg,inF,text,tt,k _ _ (Hi.at e1 (fun vs n q=>by rw [r2] at q;cases q) fun q=>by rw [q] at r1;cases r1),r1,r2,r⟩
theorem world_of (T:Top q loose mean mg mb h₁) (Hi:Hid h₁ so base)
  (hrec:∀ i∈idxs,∃ d∈recsOf q,d.name=fdName i∧d.params=fdArgs i∧d.body=fdBody i∧d.scope=fdScope i)
  (hfree:∀ x∈(["AssertionError","bool","bytearray","bytes","divmod","enumerate","int","isinstance","len","list","max","ord","range","sorted","sum"]:List String),mg (Str.ofString x)=none)
  (hofs:valOf q (Str.ofString "OFS_DELTA")=some (.int 6)) (href:valOf q (Str.ofString "REF_DELTA")=some (.int 7)) (hsha:mg (Str.ofString "SHA1")=some (.ref sha))
  (hforms:∀ a n,fm a=some n→∀ (A:Around) (s:Shared),(∀ b o,base b=some o→s.heap.get? b=some o)→∀ (Q:Value→Shared→Prop) E,(∀ t tk,Q (.int n t) { s with toks:=tk })→wpAny (model prog w) A (getAttr (.ref a) (Str.ofString "oid_length") true) Q E s) :
  World w prog mg base sha fm where
 ns:=fun h k=>Hi.ns T.g k
 nsb:=fun h k=>⟨mb,Hi.ns T.b k,T.builtins⟩
 nolimit:=fun h k=>by
  obtain ⟨mc,a,r⟩:=T.nolimit
  exact ⟨mc,Hi.ns a k,r⟩
 fn:=fun i hi=>by
  obtain ⟨d,hd,e1,e2,e3,e4⟩:=hrec i hi
  obtain ⟨a,o,pm,code,doc,h1,h2,h3,h4⟩:=T.fn d hd
  rw [e1,e2,e3,e4] at h3
  rw [e1] at h1 h4
  refine ⟨a,o,pm,doc,code,h1,Hi.at h2 (fun vs n q=>by rw [h3] at q;cases q) (fun e=>by rw [e] at h3;cases h3),h3,fun h k=>Hi.codeRec h4 k⟩
 free:=hfree
 ofs:=by
  obtain ⟨v,h1,h2⟩:=T.const _ _ hofs
  have:=h2 h₁
  cases this
  exact ⟨_,h1⟩
 ref:=by
  obtain ⟨v,h1,h2⟩:=T.const _ _ href
  have:=h2 h₁
  cases this
  exact ⟨_,h1⟩
 sha1:=hsha
 forms:=hforms
theorem tabf_of {T':Addr} {c:Addr} {cd:Value} (T:Top q loose mean mg mb h₁) (Hi:Hid h₁ so base) (hm:CodeHd h₁ c T') (hc:cd = .ref c):TabF mg base cd T' where
 code:=⟨c,hc,fun h k=>Hi.codeHd hm k⟩
 bmain:=by
  obtain ⟨bm,ob,a1,a2,a3,a4,a5,a6⟩:=T.bmain
  exact ⟨bm,ob,a1,a2,Hi.at a3 (fun vs n q=>by rw [a6] at q;cases q) (fun e=>by rw [e] at a4;cases a4),a4,a5,a6⟩
end
end DL
end
section
namespace DL
noncomputable abbrev stAt (self nm v:String) (a1 a2 b1 b2 c1 c2 l:Nat):Stmt:=.Assign [.Attribute (.Name (Str.ofString self) ⟨l,a1,l,a2⟩) (Str.ofString nm) ⟨l,a1,l,b2⟩] (.Name (Str.ofString v) ⟨l,c1,l,c2⟩) ⟨l,a1,l,c2⟩
theorem fmt_body:clBody 13=[stAt "self" "name" "name" 8 12 8 17 20 24 88,stAt "self" "type_num" "type_num" 8 12 8 21 24 32 89,stAt "self" "oid_length" "oid_length" 8 12 8 23 26 36 90,
 stAt "self" "hex_length" "hex_length" 8 12 8 23 26 36 91,stAt "self" "hash_func" "hash_func" 8 12 8 22 25 34 92]:=by kernel_rfl
noncomputable abbrev fmtScope:Scope:={ kind:=.function,names:=[(Str.ofString "self",.local),(Str.ofString "name",.local),(Str.ofString "type_num",.local),(Str.ofString "oid_length",.local),(Str.ofString "hex_length",.local),(Str.ofString "hash_func",.local)],isGenerator:=false,isCoroutine:=false,more:=[] }
theorem fmt_scope:clScope 13=fmtScope:=by kernel_rfl
structure FmtK (K:Frag) (C fI:Addr):Prop where
 makes:makesIn K C=true
 init:findIn K (.ref C) (Str.ofString "__init__")=some (some (.ref fI))
 fn:typeIn K (.ref fI)=some (.type "function")
 sattr:findIn K (.ref C) (Str.ofString "__setattr__")=some (some (.builtin "object.__setattr__"))
 over:plainOver K C=true
 hasD:hasDictIn K C=true
 t1:takerIn K C (Str.ofString "name")=some none
 t2:takerIn K C (Str.ofString "type_num")=some none
 t3:takerIn K C (Str.ofString "oid_length")=some none
 t4:takerIn K C (Str.ofString "hex_length")=some none
 t5:takerIn K C (Str.ofString "hash_func")=some none
 get:plainGet K C (Str.ofString "oid_length")=true
 own:∃ attr,findIn K (.ref C) (Str.ofString "oid_length")=some attr∧noGet K attr=true
 keep:keepIn K (.ref C)=true
 obj:∃ (od:Option Addr) (sl:Array (Option Value)) (qual:Str) (kV doc pm cdv ct:Value) (an:Option Addr),K.lookup fI=some ⟨.type "function",od,.func (fnOf (Str.ofString "__init__") qual (clArgs 13) (clBody 13) (clScope 13) .none kV doc pm an cdv ct),sl⟩∧codeIn K cdv qual=true
section
variable {prog:Program} {w:PySem.World} {A:Around} {E:Value→Shared→Prop} {s:Shared} {K:Frag} {C fI:Addr}
theorem fmt_step {env:Env} {h₀:Heap} {m:MG} {x dx:Addr} {es:List DictEntry} {es':Tok→List DictEntry} {n:Nat} {nm v:String} {val:Value} {a1 a2 b1 b2 c1 c2 l:Nat} {Q:Flow→Shared→Prop} {rest:List Stmt}
  (FK:FmtK K C fI) (F:Fr h₀ env.locals s.heap m) (X₀:K.In h₀) (N:News h₀ env.locals s.heap [(x,instObj C dx),(dx,dictOf es n)]) (hxd:x≠dx)
  (hk:env.scope.kind = .function) (hls:env.kindOf (Str.ofString "self")=some .local) (hlv:env.kindOf (Str.ofString v)=some .local) (hms:m (Str.ofString "self")=some (.ref x)) (hmv:m (Str.ofString v)=some val)
  (hd:(Str.ofString v == ("__debug__" : Str))=false) (ht:takerIn K C (Str.ofString nm)=some none) (hl:(getL (Str.ofString nm) es).isSome=true)
  (e:∀ k,putL (Str.ofString nm) (PyData.keyHash w.params (Str.ofString nm)) (.str (Str.ofString nm) k) val es=es' k) (hz:∀ k,(es' k).length≤1000)
  (hs:swapsWith (.Name (Str.ofString v) ⟨l,c1,l,c2⟩) (some (.Attribute (.Name (Str.ofString "self") ⟨l,a1,l,a2⟩) (Str.ofString nm) ⟨l,a1,l,b2⟩)) l env=pure false)
  (h:∀ h' tk k n',Fr h₀ env.locals h' m→News h₀ env.locals h' [(x,instObj C dx),(dx,dictOf (es' k) n')]→wpAny (model prog w) A (execs rest env) Q E { s with heap:=h',toks:=tk }) :
  wpAny (model prog w) A (execs (stAt "self" nm v a1 a2 b1 b2 c1 c2 l::rest) env) Q E s:=by
 refine wpAny_execs_cons (plainObj_wpAny_Assign_Attribute ?_ hs)
 refine wpAny_Name (wpAny_loadName_local hk hlv F.ns hmv ?_) hd
 refine wpAny_Name (wpAny_loadName_local hk hls F.ns hms ?_) (by decide)
 refine set_dict F X₀ N (InstAt.of_news N (.head _) (.tail _ (.head _))) rfl FK.sattr FK.over ht FK.hasD hl rfl (.tail hxd (.head fun p hp=>by cases hp)) ?_ fun h' F' N'=>?_
 ·rw [e];exact hz _
 ·rw [e] at N'
  exact h h' _ _ _ F' N'
set_option maxHeartbeats 4000000 in
theorem fmt_call (FK:FmtK K C fI) (hroom:A.depth+1<recursionLimit) (X:K.In s.heap) (hlim:s.heap.NoLimit) {nm:Str} {i1 i2 i3:Int} {t0 ta tb tc:Tok} {Q:Value→Shared→Prop}
  (hQ:∀ h' tk x dx es n,(∀ b o,s.heap.get? b=some o→h'.get? b=some o)→s.heap.get? x=none→s.heap.get? dx=none→h'.get? x=some (instObj C dx)→h'.get? dx=some (dictOf es n) →
   getL (Str.ofString "oid_length") es=some (some (.int i2 tb))→Q (.ref x) { s with heap:=h',toks:=tk }) :
  wpAny (model prog w) A (call (.ref C) [.str nm t0,.int i1 ta,.int i2 tb,.int i3 tc,.none]) Q E s:=by
 obtain u0:=()
 revert FK hroom X hlim hQ
 k_call_by "e" [prog,w,A,E,s,K,C,fI,nm,i1,i2,i3,t0,ta,tb,tc,Q,u0]
 obtain ⟨od,sl,qual,kV,doc,pm,cdv,ct,an,ho,hcd⟩:=FK.obj
 obtain ⟨hh,g,d,t,os⟩:=s
 refine wpAny_call (make_core (makes_of X FK.makes) (looks_findIn X FK.init) (fun self=>bind_fn X self FK.fn) (.inl rfl) ?_)
 have hk2:∀ b o,hh.get? b=some o→((hh.push emptyDict).push (instObj C hh.objs.size)).get? b=some o:=fun b o e=>Heap.get?_push_of_some _ (Heap.get?_push_of_some _ e)
 have X2:K.In ((hh.push emptyDict).push (instObj C hh.objs.size)):=X.keeps hk2
 have hx0:((hh.push emptyDict).push (instObj C hh.objs.size)).get? (hh.objs.size+1)=some (instObj C hh.objs.size):=by heap_get
 have hd0:((hh.push emptyDict).push (instObj C hh.objs.size)).get? hh.objs.size=some emptyDict:=by heap_get
 have hL:((hh.push emptyDict).push (instObj C hh.objs.size)).objs.size=hh.objs.size+2:=by simp only [Heap.size_push]
 have hnone:∀ k,hh.objs.size≤k→hh.get? k=none:=fun k hk=>Heap.get?_none_of_le hk
 refine codeAny_call_def (fd:=fnOf (Str.ofString "__init__") qual (clArgs 13) (clBody 13) (clScope 13) .none kV doc pm an cdv ct) (body:=clBody 13)
  (binds:=[(Str.ofString "self",.ref (hh.objs.size+1)),(Str.ofString "name",.str nm t0),(Str.ofString "type_num",.int i1 ta),(Str.ofString "oid_length",.int i2 tb),(Str.ofString "hex_length",.int i3 tc),(Str.ofString "hash_func",.none)])
  ?_ (X2 _ _ ho) rfl (hlim.keeps hk2) (codeRec_of X2 hcd) rfl (BindsTo.of_eq (by kernel_rfl)) (by show ∀ x∈(clScope 13).names,x.2≠.cell;rw [fmt_scope];decide)
  (by intro x hx;show (clScope 13).names.lookup x.1=_;rw [fmt_scope];simp only [List.mem_cons,List.not_mem_nil,or_false] at hx;rcases hx with rfl | rfl | rfl | rfl | rfl | rfl<;>kernel_rfl) (fun h₀ hns hk=>?_) (by kernel_rfl) (by kernel_rfl) (by kernel_rfl)
 ·have hw:(Code.builtin "type.__call__" ⟨[.ref C,.str nm t0,.int i1 ta,.int i2 tb,.int i3 tc,.none],[]⟩).weight=1:=by kernel_rfl
  show A.depth+(Code.builtin "type.__call__" ⟨[.ref C,.str nm t0,.int i1 ta,.int i2 tb,.int i3 tc,.none],[]⟩).weight<recursionLimit
  rw [hw];exact hroom
 have hek:(callEnv (fnOf (Str.ofString "__init__") qual (clArgs 13) (clBody 13) (clScope 13) .none kV doc pm an cdv ct) ((hh.push emptyDict).push (instObj C hh.objs.size)).objs.size fI)=envOf qual fmtScope ((hh.push emptyDict).push (instObj C hh.objs.size)).objs.size fI cdv:=by
  rw [fmt_scope];rfl
 rw [hek,fmt_body]
 rw [hL] at hns ⊢
 dsimp only at hns hk ⊢
 have F0:Fr hh (hh.objs.size+2) h₀ _:=⟨hns,fun b o e=>hk b o (hk2 b o e),by exact Nat.le_add_right _ _⟩
 have N0:News hh (hh.objs.size+2) h₀ [(hh.objs.size+1,instObj C hh.objs.size),(hh.objs.size,dictOf [] 0)]:=fun p hp=>by
  simp only [List.mem_cons,List.not_mem_nil,or_false] at hp
  rcases hp with rfl | rfl
  ·exact ⟨hk _ _ hx0,by show hh.objs.size+1≠_;simp,hnone _ (by show _≤hh.objs.size+1;exact Nat.le_succ _)⟩
  ·exact ⟨hk _ _ hd0,by show hh.objs.size≠_;simp,hnone _ (Nat.le_refl _)⟩
 have hxd:hh.objs.size+1≠hh.objs.size:=by simp
 refine fmt_step (es':=fun k1=>[⟨_,.str (Str.ofString "name") k1,.str nm t0⟩]) (val:=.str nm t0) FK F0 X N0 hxd rfl rfl rfl (by kernel_rfl) (by kernel_rfl) (by decide) FK.t1 rfl (fun _=>rfl) (fun _=>by simp) rfl fun h1 _ k1 _ F1 N1=>?_
 refine fmt_step (es':=fun k2=>[⟨_,.str (Str.ofString "name") k1,.str nm t0⟩,⟨_,.str (Str.ofString "type_num") k2,.int i1 ta⟩]) (val:=.int i1 ta) FK F1 X N1 hxd rfl rfl rfl (by kernel_rfl) (by kernel_rfl) (by decide) FK.t2 rfl (fun _=>rfl) (fun _=>by simp) rfl fun h2 _ k2 _ F2 N2=>?_
 refine fmt_step (es':=fun k3=>[⟨_,.str (Str.ofString "name") k1,.str nm t0⟩,⟨_,.str (Str.ofString "type_num") k2,.int i1 ta⟩,⟨_,.str (Str.ofString "oid_length") k3,.int i2 tb⟩]) (val:=.int i2 tb) FK F2 X N2 hxd rfl rfl rfl (by kernel_rfl) (by kernel_rfl) (by decide) FK.t3 rfl (fun _=>rfl) (fun _=>by simp) rfl fun h3 _ k3 _ F3 N3=>?_
 refine fmt_step (es':=fun k4=>[⟨_,.str (Str.ofString "name") k1,.str nm t0⟩,⟨_,.str (Str.ofString "type_num") k2,.int i1 ta⟩,⟨_,.str (Str.ofString "oid_length") k3,.int i2 tb⟩,⟨_,.str (Str.ofString "hex_length") k4,.int i3 tc⟩]) (val:=.int i3 tc) FK F3 X N3 hxd rfl rfl rfl (by kernel_rfl) (by kernel_rfl) (by decide) FK.t4 rfl (fun _=>rfl) (fun _=>by simp) rfl fun h4 _ k4 _ F4 N4=>?_
 refine fmt_step (es':=fun k5=>[⟨_,.str (Str.ofString "name") k1,.str nm t0⟩,⟨_,.str (Str.ofString "type_num") k2,.int i1 ta⟩,⟨_,.str (Str.ofString "oid_length") k3,.int i2 tb⟩,⟨_,.str (Str.ofString "hex_length") k4,.int i3 tc⟩,⟨_,.str (Str.ofString "hash_func") k5,.none⟩]) (val:=.none) FK F4 X N4 hxd rfl rfl rfl (by kernel_rfl) (by kernel_rfl) (by decide) FK.t5 rfl (fun _=>rfl) (fun _=>by simp) rfl fun h5 _ k5 _ F5 N5=>?_
 refine wpAny_execs_nil ⟨rfl,?_⟩
 exact hQ h5 _ _ _ _ _ F5.keep (hnone _ (by exact Nat.le_succ _)) (hnone _ (Nat.le_refl _)) (N5 _ (.head _)).1 (N5 _ (.tail _ (.head _))).1 rfl
end
end DL
end
section
namespace DL
section
variable {C1:Cx} {L a0:Addr} {cd:Value} {sha:Addr} {fm:Addr→Option Int} {tab:Nat→Addr} {f sc fo:Addr} {so:Obj} {P:Kp} {H:Hp} {Q:QS} {X:XSt} {sns:List Int} {n:Int} {C:Cx}
noncomputable def FormAt (C:Cx) (as:List Addr) (h1:Heap) (fo:Addr):Prop:=∀ (A:Around) (s:Shared),(∀ b∈as,∀ o,h1.get? b=some o→s.heap.get? b=some o)→(∀ b o,C.base b=some o→s.heap.get? b=some o) →
 ∀ (Q:Value→Shared→Prop) E,(∀ t tk,Q (.int 32 t) { s with toks:=tk })→wpAny (Md C) A (getAttr (.ref fo) (Str.ofString "oid_length") true) Q E s
noncomputable def OfmtF (mg:MG) (base:Kp):Prop:=∃ (K:Frag) (Cl fI:Addr),FmtK K Cl fI∧mg (Str.ofString "ObjectFormat")=some (.ref Cl)∧∀ h:Heap,(∀ b o,base b=some o→h.get? b=some o)→K.In h
theorem OfmtF.more {mg:MG} {base base':Kp} (h:OfmtF mg base) (hb:∀ b o,base b=some o→base' b=some o):OfmtF mg base':=let ⟨K,Cl,fI,h1,h2,h3⟩:=h;⟨K,Cl,fI,h1,h2,fun h' hh=>h3 h' fun b o e=>hh b o (hb b o e)⟩
noncomputable abbrev fmtTest:Expr:=.Compare (.BinOp (.Call (.Name (Str.ofString "draw") ⟨225,54,225,58⟩) [.Constant (.int 1) 0 ⟨225,59,225,60⟩] [] ⟨225,54,225,61⟩) .Mod (.Constant (.int 3) 0 ⟨225,64,225,65⟩) ⟨225,54,225,65⟩) [.Eq] [.Constant (.int 2) 0 ⟨225,69,225,70⟩] ⟨225,54,225,70⟩
noncomputable abbrev fmtCall:Expr:=.Call (.Name (Str.ofString "ObjectFormat") ⟨225,11,225,23⟩) [.Constant (.str (Str.ofString "sha256")) 0 ⟨225,24,225,32⟩,.Constant (.int 2) 0 ⟨225,34,225,35⟩,.Constant (.int 32) 0 ⟨225,37,225,39⟩,.Constant (.int 64) 0 ⟨225,41,225,43⟩,.Constant .none 0 ⟨225,45,225,49⟩] [] ⟨225,11,225,50⟩
theorem fmt_stmt:(fdBody 33).drop 1 = .Assign [.Name (Str.ofString "form") ⟨225,4,225,8⟩] (.IfExp fmtTest fmtCall (.Name (Str.ofString "SHA1") ⟨225,76,225,80⟩) ⟨225,11,225,80⟩) ⟨225,4,225,80⟩::(fdBody 33).drop 2:=by kernel_rfl
theorem t_form (W:Wd (lawC C1 L a0 cd) sha fm) (OF:OfmtF C1.mg C1.base) (K:CkN (lawC C1 L a0 cd) (gLaw sha fm tab f sc so)) (F1:Fk1 (lawC C1 L a0 cd)) (hlv:2≤C1.lv) (hsc:H sc=some (.ilist so (vInts sns))) (hsl:sns.length≤1000)
  (h1:WSN (lawC C1 L a0 cd) P [(53,.ref sha),(43,.ref f),(92,.ref sc)] H ((fdBody 33).drop 2) Q X)
  (h2:∀ (s1:Shared) (fo:Addr) (as:List Addr),(∀ b∈as,H b=none)→(∀ b∈as,b≠(lawC C1 L a0 cd).env.locals∧∀ q∈C1.fs,q.1≠b)→St (lawC C1 L a0 cd) P [(53,.ref fo),(43,.ref f),(92,.ref sc)] H s1→FormAt (lawC C1 L a0 cd) as s1.heap fo →
   wpN (Md (lawC C1 L a0 cd)) (lawC C1 L a0 cd).A (execs ((fdBody 33).drop 2) (lawC C1 L a0 cd).env) (RF (lawC C1 L a0 cd) P Q) (XS (lawC C1 L a0 cd) P X) s1) :
  WSN (lawC C1 L a0 cd) P [(43,.ref f),(92,.ref sc)] H ((fdBody 33).drop 1) Q X:=by
 obtain u0:=()
 revert W OF K F1 hlv hsc hsl h1 h2
 k_call_by "e" [C1,L,a0,cd,sha,fm,tab,f,sc,so,P,H,Q,X,sns,u0]
 intro s S
 obtain u90:=()
 revert S
 k_call_by "e" [s,u90]
 rw [fmt_stmt]
 have hkf:(gLaw sha fm tab f sc so).bare.kinds.lookup 53=some .local:=by show List.lookup _ (gOf 33 sha fm []).kinds=_;rw [g_kinds,kd_33];rfl
 refine nExecs (nAssign (nIfExp (nMono ((wE_okN fmtTest K S).2 (fun _ H1=>H1=H) (fun _ _=>False) ?hw) (fun c s1 hc=>?_) fun v s1 hx=>?_)) (by rfl))
 case hw =>
  k_call_by "x" []
  refine ⟨1,sns,rfl,by decide,hsc,hsl,fun z=>?_⟩
  k_call_by "x" []
 ·obtain ⟨H1,S1,rfl⟩:=hc
  revert S1 hsc h1 h2 S
  k_call_by "e" [c,s1,H1]
  cases c with
  | false =>
   refine nMono ((wE_okN (.Name (Str.ofString "SHA1") ⟨225,76,225,80⟩) K S1).1 (fun v H2=>v = .ref sha∧H2=H1) (fun _ _=>False) ?hw2) (fun v s2 hv=>?_) fun v s2 hx=>?_
   case hw2=>k_call_by "x" []
   ·obtain ⟨z,H2,hv,S2,rfl,rfl⟩:=hv
    exact nOf (store_loc (g:=(gLaw sha fm tab f sc so).bare) K.base S2 nm_form hkf hv fun s' S'=>h1 s' S')
   ·obtain ⟨_,_,_,_,_,_,_,hx⟩:=hx;exact hx.elim
  | true =>
   obtain ⟨K0,Cl,fI,FK,hmg,hIn⟩:=OF
   revert FK hmg hIn
   k_call_by "e" [K0,Cl,fI]
   have X0:K0.In s1.heap:=hIn _ S1.base
   refine nOf (wpAny_Call_ofName (Calls.Name_function_global K.base.kind (by kernel_rfl) (Calls.loadGlobal_global (by rw [K.base.globals];exact W.ns s1.heap S1.base) hmg ?_) (by decide)))
   refine callWith_of (P:=fun h=>K0.In h) (by rfl) (keeps_K FK.keep) ?_
   refine Calls.evalArgs_plain (x:=eval (.Constant (.str (Str.ofString "sha256")) 0 ⟨225,24,225,32⟩) (lawC C1 L a0 cd).env) (rest:=[(false,eval (.Constant (.int 2) 0 ⟨225,34,225,35⟩) (lawC C1 L a0 cd).env),(false,eval (.Constant (.int 32) 0 ⟨225,37,225,39⟩) (lawC C1 L a0 cd).env),(false,eval (.Constant (.int 64) 0 ⟨225,41,225,43⟩) (lawC C1 L a0 cd).env),(false,eval (.Constant .none 0 ⟨225,45,225,49⟩) (lawC C1 L a0 cd).env)]) ?_
   refine Calls.spliced_cons (wpAny_Constant_str ?_)
   refine Calls.spliced_cons (wpAny_Constant_int ?_)
   refine Calls.spliced_cons (wpAny_Constant_int ?_)
   refine Calls.spliced_cons (wpAny_Constant_int ?_)
   refine Calls.spliced_cons (wpAny_Constant_none ?_)
   refine Calls.spliced_nil ⟨X0,?_⟩
   refine fmt_call (s:={ s1 with toks:=s1.toks+1+1+1+1 }) FK ?_ X0 (W.nolimit _ S1.base) fun h' tk x dx es n hk hx hd hxi hdi hl=>?_
   ·have:=F1.fk.depth
    show C1.A.depth+1<recursionLimit
    have:C1.A.depth+C1.lv<recursionLimit:=this
    lia
   have S2:St (lawC C1 L a0 cd) P [(43,.ref f),(92,.ref sc)] H1 { s1 with heap:=h',toks:=tk }:=S1.grow hk
   have nf:∀ b∈[x,dx],s1.heap.get? b=none:=fun b hb=>by
    simp only [List.mem_cons,List.not_mem_nil,or_false] at hb
    rcases hb with rfl | rfl
    ·exact hx
    ·exact hd
   have hH:∀ b∈[x,dx],H1 b=none:=fun b hb=>(S1.free (nf b hb)).1
   have hF:∀ b∈[x,dx],b≠(lawC C1 L a0 cd).env.locals∧∀ q∈C1.fs,q.1≠b:=fun b hb=>by
    refine ⟨fun e=>?_,fun q hq e=>?_⟩
    ·obtain ⟨mc,⟨o,es,ep,e2,_⟩,_⟩:=S1.ns
     rw [← e,nf b hb] at e2;cases e2
    ·obtain ⟨⟨o,es,ep,e2,_⟩,_⟩:=S1.fs q hq
     rw [e,nf b hb] at e2;cases e2
   have S3:=S2.pinP (as:=[x,dx]) hH hF fun b hb o v e=>by
    simp only [List.mem_cons,List.not_mem_nil,or_false] at hb
    rcases hb with rfl | rfl
    ·rw [show h'.get? b=some o from e] at hxi;cases hxi;intro q;cases q
    ·rw [show h'.get? b=some o from e] at hdi;cases hdi;intro q;cases q
   refine nOf (store_loc (g:=(gLaw sha fm tab f sc so).bare) K.base S3 nm_form hkf (z:=.ref x) rfl fun s' S'=>?_)
   refine h2 s' x [x,dx] hH hF (S'.less S1.pbase fun b o e=>frzB_sub S2.keep e) fun A s hs hb Q E hQ=>?_
   have gx:s'.heap.get? x=some (instObj Cl dx):=S'.keep _ _ ((frzB_in (.head _)).trans hxi)
   have gd:s'.heap.get? dx=some (dictOf es n):=S'.keep _ _ ((frzB_in (.tail _ (.head _))).trans hdi)
   obtain ⟨attr,ha,hn⟩:=FK.own
   exact get_value (hIn _ hb) ⟨hs _ (.head _) _ gx,rfl,rfl,hs _ (.tail _ (.head _)) _ gd⟩ (plainGet_of FK.get).1 (findObj_own FK.hasD ha hn ((lookIn_dict _ es n).trans hl)) rfl (hQ _ _)
 ·obtain ⟨_,_,_,_,_,_,_,hx⟩:=hx;exact hx.elim
end
end DL
end
section
namespace DL
section
variable {C1:Cx} {L a0:Addr} {cd:Value} {sha:Addr} {fm:Addr→Option Int} {tab:Nat→Addr} {f sc fo:Addr} {so:Obj} {P:Kp} {H:Hp} {Q:QS} {X:XSt} {sns:List Int} {n:Int} {C:Cx}
theorem law_gam (W:Wd C sha fm) (D:Ad C) (hsha:∃ k,fm sha=some k) (F:Fk C) (hl:8≤C.lv) (TB:TabsF C.mg C.base tab):∀ e∈lawGam fm tab,∀ x,nmc x=some e.1→∀ u,C.mg x=some u→FnN C u e.2:=by
 intro e he
 rw [lg] at he
 simp only [List.mem_cons,List.not_mem_nil,or_false] at he
 rcases he with rfl | rfl | rfl | rfl | rfl | rfl | rfl | rfl | rfl | rfl | rfl | rfl | rfl | rfl | rfl
 ·exact fun x hx=>F_law_name W F (by exact Nat.lt_of_le_of_lt (Nat.zero_le _) ‹_›) x (nmc_inj hx nm_law_name)
 ·exact fun x hx=>F_law_kinds W F (by exact Nat.lt_of_le_of_lt (Nat.zero_le _) ‹_›) x (nmc_inj hx nm_law_kinds)
 ·exact fun x hx=>F_law_wide W F (by exact Nat.lt_of_le_of_lt (Nat.zero_le _) ‹_›) x (nmc_inj hx nm_law_wide)
 ·exact fun x hx=>F_law_row W F (by exact Nat.lt_of_le_of_lt (Nat.zero_le _) ‹_›) x (nmc_inj hx nm_law_row)
 ·exact fun x hx=>F_pack W F (by exact Nat.lt_of_le_of_lt (Nat.zero_le _) ‹_›) x (nmc_inj hx nm_pack_object_header)
 ·exact fun x hx=>F_delta_size W F (by exact Nat.lt_of_le_of_lt (Nat.zero_le _) ‹_›) x (nmc_inj hx nm_delta_encode_size)
 ·exact fun x hx=>F_law_back W D F (Nat.lt_of_lt_of_le (by decide) hl) x (nmc_inj hx nm_law_back)
 ·exact fun x hx=>F_law_barred W F (Nat.lt_of_lt_of_le (by decide) hl) x (nmc_inj hx nm_law_barred)
 ·exact fun x hx=>F_law_found W F (Nat.lt_of_lt_of_le (by decide) hl) TB x (nmc_inj hx nm_law_found)
 ·exact fun x hx=>F_law_turned W F (by exact Nat.lt_of_le_of_lt (Nat.zero_le _) ‹_›) x (nmc_inj hx nm_law_turned)
 ·exact fun x hx=>F_law_value W F (by exact Nat.lt_of_le_of_lt (Nat.zero_le _) ‹_›) x (nmc_inj hx nm_law_value)
 ·exact fun x hx=>F_law_halved W hsha F (Nat.lt_of_lt_of_le (by decide) hl) TB x (nmc_inj hx nm_law_halved)
 ·exact fun x hx=>F_law_read W D F (Nat.lt_of_lt_of_le (by decide) hl) x (nmc_inj hx nm_law_read)
 ·exact fun x hx=>F_law_cut W F (by exact Nat.lt_of_le_of_lt (Nat.zero_le _) ‹_›) x (nmc_inj hx nm_law_cut)
 ·exact fun x hx=>F_law_taken W F (Nat.lt_of_lt_of_le (by decide) hl) x (nmc_inj hx nm_law_taken)
theorem mkCkL (W:Wd (lawC C1 L a0 cd) sha fm) (hh:C1.A.handled=none) (hu:C1.A.units+16<cLine)
  (hgam:∀ e∈lawGam fm tab,∀ x,nmc x=some e.1→∀ u,C1.mg x=some u→FnN (lawC C1 L a0 cd) u e.2) (hfnv:FnN (lawC C1 L a0 cd) (.ref f) (spDraw so sc)):CkN (lawC C1 L a0 cd) (gLaw sha fm tab f sc so) where
 base:={
  kind:=(scOk_of sc_33).1
  globals:=rfl
  builtins:=rfl
  handled:=fun _=>hh
  units:=hu
  kinds:=fun x k kd hx hk=>⟨kd,kindsOf_lookup hx hk,.inl rfl⟩
  plain:=fun x k kd hx hk=>by
   have:=((scOk_of sc_33).2.2.2 _ (mem_of_lookup' (kindsOf_lookup hx hk))).1
   unfold goodName at this
   simp only [Bool.and_eq_true,Bool.not_eq_true'] at this
   exact ⟨this.1.2,this.2⟩
  globs:=scGlob (C:=lawC C1 L a0 cd) W
  forms:=fun a n h C' hC' P m H s S Q E hQ=>by
   obtain ⟨⟨e,f,w,rfl⟩,_⟩:=hC'
   exact W.forms a n h _ _ S.base Q E fun t tk=>hQ t _ S.toks }
 gam:=fun x k sp u hx hk hu=>by
  have:∀ {l:List (Nat×Spec)},l.lookup k=some sp→(k,sp)∈l:=fun {l} h=>by
   induction l with
   | nil=>simp at h
   | cons p r ih =>
    obtain ⟨j,s⟩:=p
    rw [List.lookup_cons] at h
    cases z:(k == j) with
    | true=>rw [z] at h;have:=eq_of_beq z;subst this;cases h;exact .head _
    | false=>rw [z] at h;exact .tail _ (ih h)
  exact hgam _ (this hk) x hx u hu
 fnv:=fun a sp h=>by
  change (if a=f then some (spDraw so sc) else none)=some sp at h
  split at h
  ·rename_i e;subst e;cases h;exact hfnv
  ·cases h
noncomputable abbrev posDr:Pos:=nsPos dr
noncomputable abbrev qualDr:Str:=Str.ofString "law.<locals>.draw"
structure FinI (tab:Nat→Addr) (sc:Addr) (so:Obj) (sns:List Int) (H:Hp):Prop where
 sc:H sc=some (.ilist so (vInts sns))
 tabs:∀ i∈[24,25,33],∃ ps,H (tab i)=some (.raw (tabObj ps))
theorem LI.fin {H:Hp} (h:LI tab sc so sns H):FinI tab sc so sns H:=⟨h.sc,fun i hi=>by
 simp only [List.mem_cons,List.not_mem_nil,or_false] at hi
 rcases hi with rfl | rfl | rfl
 ·obtain ⟨ps,e,_⟩:=tabI_at h.t24;exact ⟨ps,e⟩
 ·obtain ⟨ps,e,_⟩:=tabI_at h.t25;exact ⟨ps,e⟩
 ·exact h.t33⟩
theorem TabF.more {mg:MG} {base base':Kp} {cd:Value} {T:Addr} (h:TabF mg base cd T) (hb:∀ b o,base b=some o→base' b=some o):TabF mg base' cd T where
 code:=let ⟨c,e,k⟩:=h.code;⟨c,e,fun h hh=>k h fun b o q=>hh b o (hb b o q)⟩
 bmain:=let ⟨bm,ob,a1,a2,a3,r⟩:=h.bmain;⟨bm,ob,a1,a2,hb _ _ a3,r⟩
theorem TabsF.more {mg:MG} {base base':Kp} (h:TabsF mg base tab) (hb:∀ b o,base b=some o→base' b=some o) (hf:∀ i∈[24,25,33],∃ a o,mg (fdName i)=some (.ref a)∧base a=some o):TabsF mg base' tab:=fun i hi a o pm doc cd h1 h2 h3=>by
 obtain ⟨a',o',h4,h5⟩:=hf i hi
 rw [h1] at h4;cases h4
 have h6:=hb _ _ h5
 rw [h2] at h6;cases h6
 exact (h i hi a o pm doc cd h1 h5 h3).more hb
theorem AdeF.more {w:PySem.World} {prog:Program} {mg:MG} {base base':Kp} (h:AdeF w prog mg base) (hb:∀ b o,base b=some o→base' b=some o):AdeF w prog mg base' where
 at_:=h.at_.imp fun _=>Exists.imp fun _=>Exists.imp fun _=>Exists.imp fun _=>Exists.imp fun _=>Exists.imp fun _=>Exists.imp fun _=>Exists.imp fun _=>Exists.imp fun _=>Exists.imp fun _=>Exists.imp fun _=>Exists.imp fun _=>Exists.imp fun _=>Exists.imp fun _=>Exists.imp fun _=>Exists.imp fun _=>Exists.imp fun _=>Exists.imp fun _=>Exists.imp fun _=>Exists.imp fun _=>Exists.imp fun _=>Exists.imp fun _=>Exists.imp fun _=>Exists.imp fun _=>Exists.imp fun _=>Exists.imp fun _=>Exists.imp fun _=>Exists.imp fun _=>Exists.imp fun _=>Exists.imp fun _=>Exists.imp fun _=>fun e=>⟨e.1,e.2.1,e.2.2.1,fun h' hh=>e.2.2.2 h' fun b o q=>hh b o (hb b o q)⟩
 exc:=h.exc
 ns:=fun h' hh=>h.ns h' fun b o q=>hh b o (hb b o q)
theorem law_start (W:Wd (lawC C1 L a0 cd) sha fm) (OF:OfmtF C1.mg C1.base) (hsha:fm sha=some 20) (D:Ad (lawC C1 L a0 cd)) (TB:TabsF C1.mg C1.base tab) (tf:TabF C1.mg C1.base cd (tab 33)) (h33f:∃ a o,C1.mg (fdName 33)=some (.ref a)∧C1.base a=some o) (K:CkN (lawC C1 L a0 cd) (gOf 33 sha fm [])) (F1:Fk1 (lawC C1 L a0 cd)) (L1:Cl1 (lawC C1 L a0 cd)) (hlv:10≤C1.lv)
  (hT:TN tab) (hsl:sns.length≤1000) (hsc:H sc=some (.ilist so (vInts sns))) (h24:H (tab 24)=some (.raw (tabObj #[]))) (h25:H (tab 25)=some (.raw (tabObj #[]))) (h33:H (tab 33)=some (.raw (tabObj #[])))
  (h:∀ m' H',FinI tab sc so sns H'→Q (.ret (.bool true)) m' H') :
  WSN (lawC C1 L a0 cd) P [(92,.ref sc)] H (fdBody 33) Q X:=by
 revert W OF hsha D TB tf h33f K F1 L1 hlv hT hsl hsc h24 h25 h33 h
 k_call_by "e" [C1,L,a0,cd,sha,fm,tab,sc,so,P,H,Q,X,sns]
 refine t_def (T:=tab 33) (qual:=qualDr) K W.ns tf nm_draw (by rw [g_kinds,kd_33];rfl) rfl rfl rfl rfl ?_ (.inl h33) ?_
 ·intro x hx hfr
  simp only [List.mem_cons,List.not_mem_nil,or_false] at hx
  rcases hx with rfl | rfl | rfl
  ·cases hfr
  ·exact L1.cell _ (by kernel_rfl)
  ·cases hfr
 ·intro s1 f c' oc vs t d pm ct e1 e2 e3 e4 e5 e6 e7 e8 e9 e10 e11 e12 e13 S1
  have hcs:∀ x∈[Str.ofString "script"],(lawC C1 L a0 cd).env.kindOf x=some .cell:=fun x hx=>by
   rw [List.mem_singleton] at hx;subst hx;kernel_rfl
  have hcs2:∀ x,(lawC C1 L a0 cd).env.kindOf x=some .cell→x∈[Str.ofString "script"]:=fun x hx=>by
   have hx:(fdScope 33).names.lookup x=some .cell:=hx
   have hm:=mem_of_lookup' hx
   have:∀ p∈(fdScope 33).names,p.2 = .cell→p.1∈[Str.ofString "script"]:=by decide +kernel
   exact this _ hm rfl
  have nraw:∀ a (ps:Array Value),(∀ x t,ps[1]?≠some (.str x t))→H a=some (.raw (tabObj ps))→a≠c':=fun a ps hps ha q=>by
   rw [q] at ha
   rcases e13 with h | h
   ·rw [ha] at h;cases h
   ·rw [ha] at h
    cases h
    simp only [Data.fields.injEq] at e11
    subst e11
    exact hps _ _ e12
  have hsc':sc≠c':=fun q=>by
   rcases e13 with h | h<;>(rw [← q,hsc] at h;cases h)
  have hscT:sc≠tab 33:=fun q=>by rw [q,h33] at hsc;cases hsc
  have g24:tabH H (tab 33) posDr c' (tab 24)=some (.raw (tabObj #[])):=by rw [tabH_ne hT.2.1.symm (nraw _ #[] (by intro x t h;simp at h) h24)];exact h24
  have g25:tabH H (tab 33) posDr c' (tab 25)=some (.raw (tabObj #[])):=by rw [tabH_ne hT.2.2.symm (nraw _ #[] (by intro x t h;simp at h) h25)];exact h25
  have gsc:tabH H (tab 33) posDr c' sc=some (.ilist so (vInts sns)):=by rw [tabH_ne hscT hsc'];exact hsc
  have gL:LI tab sc so sns (tabH H (tab 33) posDr c'):=⟨gsc,.inl g24,.inl g25,_,tabH_T⟩
  have has:=pins_own hcs2 (f:=f) (c':=c') L1.wr
  have D0:=clo_frz (C:=lawC C1 L a0 cd) (s:=s1) (as:=f::c'::cellAs (lawC C1 L a0 cd) [Str.ofString "script"]) (.head _) (.tail _ (.head _)) e9 e10 e11 e12 W.nolimit S1.base
  have Fr:=frees_frz (C:=lawC C1 L a0 cd) S1 (scope:=nsScope dr) [(Str.ofString "script",92,.ref sc)] (fun e he=>by
   rw [List.mem_singleton] at he;subst he
   exact ⟨nm_script,by kernel_rfl,by kernel_rfl,rfl⟩) has
  refine t_pin S1 L1.wr hcs hcs2 e1 e2 e3 e4 e6 e7 e8 e10 e11 ?_
  generalize hC2:frzC (lawC C1 L a0 cd) (f::c'::cellAs (lawC C1 L a0 cd) [Str.ofString "script"]) s1.heap=C2 at D0 Fr
  have hC2':frzC (lawC C1 L a0 cd) (f::c'::cellAs (lawC C1 L a0 cd) [Str.ofString "script"]) s1.heap=lawC C2 L a0 cd:=by rw [← hC2]
  have hbs:∀ b o,C1.base b=some o→C2.base b=some o:=fun b o e=>by rw [← hC2];exact frzB_sub S1.base e
  have OF2:OfmtF C2.mg C2.base:=by rw [← hC2];exact OF.more fun b o e=>frzB_sub S1.base e
  have W2:Wd (lawC C2 L a0 cd) sha fm:=by rw [← hC2'];exact W.more fun b o e=>frzB_sub S1.base e
  have F2:Fk1 (lawC C2 L a0 cd):=by rw [← hC2'];exact F1.frz
  have hA2:C2.A=C1.A:=by rw [← hC2]
  have hlv2:C2.lv=C1.lv:=by rw [← hC2]
  have hmg2:C2.mg=C1.mg:=by rw [← hC2]
  have hfs2:∀ i∈[24,25,33],∃ a o,C1.mg (fdName i)=some (.ref a)∧C1.base a=some o:=fun i hi=>by
   simp only [List.mem_cons,List.not_mem_nil,or_false] at hi
   rcases hi with rfl | rfl | rfl
   ·obtain ⟨a,o,_,_,_,g1,g2,_⟩:=W.fn 24 (by decide);exact ⟨a,o,g1,g2⟩
   ·obtain ⟨a,o,_,_,_,g1,g2,_⟩:=W.fn 25 (by decide);exact ⟨a,o,g1,g2⟩
   ·exact h33f
  have TB2:TabsF C2.mg C2.base tab:=by rw [hmg2];exact TB.more hbs hfs2
  have D2:Ad (lawC C2 L a0 cd):=by rw [← hC2'];exact AdeF.more D fun b o e=>frzB_sub S1.base e
  have hh2:C2.A.handled=none:=F2.fk.handled
  have hu2:C2.A.units+16<cLine:=by
   have:=F2.fk.units
   have h9:(lawC C2 L a0 cd).A.units=C2.A.units:=rfl
   rw [h9] at this
   exact Nat.lt_of_le_of_lt (by simp) this
  have dr2:FnN (lawC C2 L a0 cd) (.ref f) (spDraw so sc):=dr_ok W2 F2.fk (by show 0<C2.lv;omega) (D0.same ⟨rfl,rfl,rfl,rfl⟩) (Fr.same ⟨rfl,rfl,rfl,rfl⟩)
  have K2:=mkCkL (so:=so) (sc:=sc) W2 hh2 hu2 (law_gam W2 D2 ⟨_,hsha⟩ F2.fk (by show 8≤C2.lv;lia) TB2) dr2
  have hfin:∀ m' H',LI tab sc so sns H'→Q (.ret (.bool true)) m' (upd H' c' (.raw oc)):=fun m' H' gL'=>h m' _ ⟨by rw [upd_ne hsc'];exact gL'.sc,fun i hi=>by
   obtain ⟨ps,e⟩:=gL'.fin.tabs i hi
   refine ⟨ps,?_⟩
   rw [upd_ne ?_]
   ·exact e
   ·simp only [List.mem_cons,List.not_mem_nil,or_false] at hi
    rcases hi with rfl | rfl | rfl
    ·exact nraw _ #[] (by intro x t h;simp at h) h24
    ·exact nraw _ #[] (by intro x t h;simp at h) h25
    ·exact e3.symm⟩
  have hself2:C2=lawC C2 L a0 cd:=hC2.symm.trans hC2'
  rw [hself2]
  refine t_form W2 OF2 K2 F2 (by lia) gsc hsl (law_rest K2 F2 (.inl rfl) hsha hsl hT gL hfin) fun s2 fo as g1 g2 S2 hF=>?_
  have hwr2:C2.wr=false:=by rw [← hC2]
  refine t_freeze S2 g1 g2 (fun hw=>by have hw:C2.wr=true:=hw;rw [hwr2] at hw;cases hw) ?_
  generalize hC3:frzC (lawC C2 L a0 cd) as s2.heap=C3
  have hC3':frzC (lawC C2 L a0 cd) as s2.heap=lawC C3 L a0 cd:=by rw [← hC3]
  have hbs3:∀ b o,C2.base b=some o→C3.base b=some o:=fun b o e=>by rw [← hC3];exact frzB_sub S2.base e
  have W3:Wd (lawC C3 L a0 cd) sha (fun b=>if b=fo then some 32 else fm b):=by
   have W3':Wd (lawC C3 L a0 cd) sha fm:=by rw [← hC3'];exact W2.more fun b o e=>frzB_sub S2.base e
   exact { W3' with
    forms:=fun a n hn A s hs Qq E hq=>by
     split at hn
     ·rename_i e;subst e;cases hn
      have hF':=hF A s (fun b hb o ho=>hs b o (by show C3.base b=_;rw [← hC3];show frzB _ as s2.heap b=_;rw [frzB_in hb];exact ho)) (fun b o e=>hs b o (hbs3 b o e)) Qq E hq
      rw [show C3.prog=C2.prog by rw [← hC3],show C3.w=C2.w by rw [← hC3]]
      exact hF'
     ·exact W3'.forms a n hn A s hs Qq E hq }
  have F3:Fk1 (lawC C3 L a0 cd):=by rw [← hC3'];exact F2.frz
  have hmg3:C3.mg=C2.mg:=by rw [← hC3]
  have hlv3:C3.lv=C2.lv:=by rw [← hC3]
  have TB3:TabsF C3.mg C3.base tab:=by
   rw [hmg3]
   exact TB2.more hbs3 fun i hi=>by
    obtain ⟨a,o,q1,q2⟩:=hfs2 i hi
    exact ⟨a,o,by rw [hmg2];exact q1,hbs _ _ q2⟩
  have D3:Ad (lawC C3 L a0 cd):=by rw [← hC3'];exact AdeF.more D2 fun b o e=>frzB_sub S2.base e
  have hh3:C3.A.handled=none:=F3.fk.handled
  have hA3:C3.A=C2.A:=by rw [← hC3]
  have hu3:C3.A.units+16<cLine:=by rw [hA3];exact hu2
  have D03:CloAt (lawC C3 L a0 cd) f _ _ _ _ _:=⟨by
   obtain ⟨o,q1,q2⟩:=D0.obj
   exact ⟨o,hbs3 _ _ q1,q2⟩,D0.scopeE,D0.globals,D0.closure,D0.qualE,D0.cdE,D0.builtins,fun h hh=>D0.code h fun b o e=>hh b o (hbs3 b o e),fun h hh=>D0.nolimit h fun b o e=>hh b o (hbs3 b o e)⟩
  have Fr3:Frees (lawC C3 L a0 cd) (nsScope dr) _ [(92,.ref sc)]:=⟨fun k v hk x hx=>by
   obtain ⟨q0,b,ob,u,q1,q2,q3,q4⟩:=Fr.at' k v hk x hx
   refine ⟨q0,b,ob,u,q1,hbs3 _ _ q2,q3,?_⟩
   show VR C3.mg u v
   rw [hmg3];exact q4⟩
  have dr3:FnN (lawC C3 L a0 cd) (.ref f) (spDraw so sc):=dr_ok W3 F3.fk (by show 0<C3.lv;omega) D03 Fr3
  have hsha3:∃ k,(fun b=>if b=fo then some (32:Int) else fm b) sha=some k:=by
   by_cases q:sha=fo
   ·exact ⟨32,if_pos q⟩
   ·exact ⟨20,by show (if sha=fo then _ else _)=_;rw [if_neg q];exact hsha⟩
  have K3:=mkCkL (so:=so) (sc:=sc) W3 hh3 hu3 (law_gam W3 D3 hsha3 F3.fk (by show 8≤C3.lv;omega) TB3) dr3
  have hself3:C3=lawC C3 L a0 cd:=hC3.symm.trans hC3'
  rw [hself3]
  exact law_rest K3 F3 (.inr rfl) (if_pos rfl) hsl hT gL hfin
end
end DL
end
namespace DL
theorem law_call {w:PySem.World} {prog:Program} {mg:MG} {base:Kp} {sha:Addr} {fm:Addr→Option Int} {tab:Nat→Addr} {s₁:Shared} {a sc:Addr} {o so:Obj} {pm cd doc:Value} {sns:List Int} {vs:Array Value} {nn:Nat}
  (W:World w prog mg base sha fm) (hsha:fm sha=some 20) (OF:OfmtF mg base) (D:AdeF w prog mg base) (TB:TabsF mg base tab) (tf:TabF mg base cd (tab 33)) (h33f:∃ a o,mg (fdName 33)=some (.ref a)∧base a=some o)
  (hT:TN tab) (ho:s₁.heap.get? a=some o) (hd:o.data = .func (Calls.docDef (fdName 33) (fdArgs 33) (fdBody 33) (fdScope 33) pm cd doc)) (hcd:s₁.heap.CodeRec cd (fdName 33)) (hlim:s₁.heap.NoLimit)
  (hgens:s₁.gens=#[]) (hso:s₁.heap.get? sc=some so) (hcls:so.cls = .type "list") (hseq:so.data = .seq vs nn) (hvs:VRs mg vs.toList (vInts sns)) (hlen:sns.length≤1000)
  (htabs:∀ i∈[24,25,33],s₁.heap.get? (tab i)=some (tabObj #[])) (hbase:∀ b o,base b=some o→s₁.heap.get? b=some o) (hbn:base sc=none) (hbt:∀ i∈[24,25,33],base (tab i)=none) :
  wpN (model prog w) callerA (call (.ref a) [.ref sc]) (fun v s'=>v = .bool true∧(∀ b o,(∀ i∈[24,25,33],b≠tab i)→s₁.heap.get? b=some o→s'.heap.get? b=some o)∧(∀ i∈[24,25,33],∃ ps,s'.heap.get? (tab i)=some (tabObj ps))∧s'.os=s₁.os∧s'.gens=#[]) (fun _ _=>False) s₁:=by
 revert W hsha OF D TB tf h33f hT ho hd hcd hlim hgens hso hcls hseq hvs hlen htabs hbase hbn hbt
 k_call_by "e" [w,prog,mg,base,sha,fm,tab,s₁,a,sc,o,so,pm,cd,doc,sns,vs,nn]
 have hnone:∀ b,s₁.heap.objs.size≤b→s₁.heap.get? b=none:=fun b hb=>by
  cases q:s₁.heap.get? b with
  | none=>rfl
  | some o=>exact absurd (Heap.lt_size q) (Nat.not_lt.mpr hb)
 have hz:(Str.ofString "script" : Str)∈[Str.ofString "script"]:=.head _
 have hkind:(fdScope 33).names.lookup (Str.ofString "script")=some .cell:=by kernel_rfl
 refine nCall (cCells (binds:=[Str.ofString "script"].zip [Value.ref sc]) (by decide +kernel) ho hd hlim hcd (pl_33.bind _ _ _ _ _ _ rfl) (fun x hx=>?_) (fun h₁ tk FR XC=>?_) pl_33.co pl_33.gen pl_33.kind)
 ·simp only [List.zip_cons_cons,List.zip_nil_left,List.mem_singleton] at hx
  subst hx
  refine .inr ⟨hkind,?_⟩
  obtain ⟨b,hb⟩:=pl_33.cell (Str.ofString "script") (s₁.heap.objs.size+1) hkind
  show ((cellsFrom _ _ []).lookup (Str.ofString "script")).isSome=true
  rw [hb];rfl
 have hTs:∀ i∈[24,25,33],tab i≠sc:=fun i hi q=>by
  have:=htabs i hi
  rw [q,hso] at this
  cases this
  cases hcls
 let P:Kp:=fun b=>if b=sc∨b=tab 24∨b=tab 25∨b=tab 33 then none else s₁.heap.get? b
 let H:Hp:=fun b=>if b=sc then some (.ilist so (vInts sns)) else if b=tab 24∨b=tab 25∨b=tab 33 then some (.raw (tabObj #[])) else none
 have hPs:∀ {b o},P b=some o→s₁.heap.get? b=some o:=fun {b o} e=>by
  change (if _ then none else _)=_ at e
  split at e
  ·cases e
  ·exact e
 have hHP:∀ {b y},H b=some y→P b=none:=fun {b y} e=>by
  change (if _ then _ else if _ then _ else none)=_ at e
  refine if_pos ?_
  split at e
  ·rename_i q;exact .inl q
  ·split at e
   ·rename_i q;exact .inr q
   ·cases e
 let env:Env:=envOfC (fdName 33) (fdScope 33) s₁.heap.objs.size a cd
 let C1:Cx:={ w:=w,prog:=prog,mg:=mg,base:=base,A:=callerA.deeper env,env:=env,stk:=[env],fs:=[],os:=s₁.os,lv:=10,wr:=true }
 have S:St (lawC C1 s₁.heap.objs.size a cd) P [(92,.ref sc)] H { s₁ with heap:=h₁,toks:=tk }:={
  pbase:=fun b o e=>by
   have e:base b=some o:=e
   refine (if_neg ?_).trans (hbase b o e)
   rintro (rfl | rfl | rfl | rfl)
   ·rw [hbn] at e;cases e
   ·rw [hbt 24 (by decide)] at e;cases e
   ·rw [hbt 25 (by decide)] at e;cases e
   ·rw [hbt 33 (by decide)] at e;cases e
  keep:=fun b o e=>FR.keep b o (hPs e)
  objs:=fun b y e=>by
   refine ⟨hHP e,?_⟩
   change (if _ then _ else if _ then _ else none)=_ at e
   split at e
   ·rename_i q;subst q;cases e
    refine ⟨so,FR.keep _ _ hso,?_,⟨rfl,hcls⟩,vs,nn,hseq,hvs⟩
    rw [vInts_len];unfold SZ;exact Nat.le_trans ‹_› (by decide)
   ·split at e
    ·rename_i q
     cases e
     have:s₁.heap.get? b=some (tabObj #[]):=by
      rcases q with rfl | rfl | rfl
      ·exact htabs 24 (by decide)
      ·exact htabs 25 (by decide)
      ·exact htabs 33 (by decide)
     exact ⟨_,FR.keep _ _ this,rfl,(fun es n h=>by cases h),(fun v h=>by cases h)⟩
    ·cases e
  pL:=by
   show P s₁.heap.objs.size=none
   cases z:P s₁.heap.objs.size with
   | none=>rfl
   | some o=>have:=hPs z;rw [hnone _ (Nat.le_refl _)] at this;cases this
  ns:=⟨_,FR.ns,fun x k z hx hzz hl=>by
   rw [List.lookup_cons] at hzz
   split at hzz
   ·rename_i q
    have:=eq_of_beq q;subst this
    obtain rfl:=nmc_inj hx nm_script
    have hl:(fdScope 33).names.lookup (Str.ofString "script")=some .local:=hl
    rw [hkind] at hl;cases hl
   ·simp at hzz⟩
  own:=fun _ x b h1 h2=>by
   have hL:=XC.above x b (PySem.mem_of_lookup h1)
   refine ⟨?_,_,XC.cell x b h1⟩
   cases z:P b with
   | none=>rfl
   | some o=>have:=hPs z;rw [hnone b (Nat.le_of_lt hL)] at this;cases this
  cells:=fun x k z hx hzz hkd=>by
   rw [List.lookup_cons] at hzz
   split at hzz
   ·rename_i q
    have:=eq_of_beq q;subst this
    obtain rfl:=nmc_inj hx nm_script
    cases hzz
    obtain ⟨b,hb⟩:=pl_33.cell (Str.ofString "script") (s₁.heap.objs.size+1) hkind
    refine ⟨b,.ref sc,hb,?_,rfl⟩
    have:=XC.cell _ b hb
    rw [bindC_in _ _ (by simp) (v:=.ref sc) (by simp) (by rw [show (envOfC (fdName 33) (fdScope 33) s₁.heap.objs.size a cd).kindOf (Str.ofString "script")=(fdScope 33).names.lookup (Str.ofString "script") from rfl,hkind];simp)] at this
    exact this
   ·simp at hzz
  fs:=fun f hf=>by cases hf
  gens:=hgens
  os:=rfl }
 have L1:Cl1 (lawC C1 s₁.heap.objs.size a cd):=⟨rfl,fun x y b h1 h2 hx=>name_of_addr XC.apart (PySem.mem_of_lookup h1) (PySem.mem_of_lookup h2),fun x hx=>pl_33.cell x _ hx⟩
 have F1:Fk1 (lawC C1 s₁.heap.objs.size a cd):=⟨⟨rfl,fun e he=>by
   rw [List.mem_singleton] at he;subst he
   exact ⟨by show (fdScope 33).kind≠.module;rw [pl_33.kind];decide,_,rfl,.inl rfl⟩,by show callerA.depth+1+10<recursionLimit;decide +kernel,by show callerA.units+3+16*10+16<cLine;decide +kernel,rfl⟩,⟨[],rfl⟩,rfl⟩
 have WC:Wd (lawC C1 s₁.heap.objs.size a cd) sha fm:=W
 have K:CkN (lawC C1 s₁.heap.objs.size a cd) (gOf 33 sha fm []):={
  base:={
   kind:=(scOk_of sc_33).1
   globals:=rfl
   builtins:=rfl
   handled:=fun _=>rfl
   units:=by show callerA.units+3+16<cLine;decide +kernel
   kinds:=fun x k kd hx hk=>⟨kd,kindsOf_lookup hx hk,.inl rfl⟩
   plain:=fun x k kd hx hk=>by
    have:=((scOk_of sc_33).2.2.2 _ (mem_of_lookup' (kindsOf_lookup hx hk))).1
    unfold goodName at this
    simp only [Bool.and_eq_true,Bool.not_eq_true'] at this
    exact ⟨this.1.2,this.2⟩
   globs:=scGlob (C:=lawC C1 s₁.heap.objs.size a cd) WC
   forms:=fun a n h C' hC' P m H s S Q E hQ=>by
    obtain ⟨⟨e,f,w,rfl⟩,_⟩:=hC'
    exact W.forms a n h _ _ S.base Q E fun t tk=>hQ t _ S.toks }
  gam:=fun _ _ _ _ _ h _=>by cases h
  fnv:=fun a sp h=>by cases h }
 have hHsc:H sc=some (.ilist so (vInts sns)):=if_pos rfl
 have hHt:∀ i∈[24,25,33],H (tab i)=some (.raw (tabObj #[])):=fun i hi=>by
  refine (if_neg (hTs i hi)).trans (if_pos ?_)
  simp only [List.mem_cons,List.not_mem_nil,or_false] at hi
  rcases hi with rfl | rfl | rfl
  ·exact .inl rfl
  ·exact .inr (.inl rfl)
  ·exact .inr (.inr rfl)
 have body:=law_start (C1:=C1) (P:=P) (X:=noX) (Q:=fun fl m' H'=>fl = .ret (.bool true)∧FinI tab sc so sns H') WC OF hsha D TB tf h33f K F1 L1 (Nat.le_refl _) hT hlen hHsc (hHt 24 (by decide)) (hHt 25 (by decide)) (hHt 33 (by decide)) (fun m' H' h=>⟨rfl,h⟩)
 refine nMono (body _ S) (fun fl s2 h2=>?_) fun e s2 h2=>?_
 ·obtain ⟨fl',m',H',hf,S2,rfl,hF⟩:=h2
  cases fl<;>first | exact hf.elim | skip
  rename_i v
  obtain rfl:v = .bool true:=hf
  refine ⟨rfl,fun b o hb e=>?_,fun i hi=>?_,S2.os,S2.gens⟩
  ·by_cases q:b=sc
   ·subst q
    obtain ⟨_,ob,g1,g2⟩:=S2.objs b _ hF.sc
    have g3:ob=so:=g2.2.1.1
    rw [hso] at e;cases e
    rw [g1,g3]
   ·refine S2.keep b o ((if_neg ?_).trans e)
    rintro (h | h | h | h)
    ·exact q h
    ·exact hb 24 (by decide) h
    ·exact hb 25 (by decide) h
    ·exact hb 33 (by decide) h
  ·obtain ⟨ps,e⟩:=hF.tabs i hi
   obtain ⟨_,ob,g1,g2,_⟩:=S2.objs _ _ e
   exact ⟨ps,by rw [g1,g2]⟩
 ·obtain ⟨_,_,_,_,_,_,_,_,hx⟩:=h2
  exact hx.elim
end DL
section
namespace DL
noncomputable def noLists (K:Frag):Bool:=K.all fun p=>match p.2.cls with
 | .type "list" => false
 | _=>true
structure KFacts (K:Frag):Prop where
 noT:noTabs K=true
 noL:noLists K=true
 ade:nsIn K mainGlobals (Str.ofString "ApplyDeltaError")=some (some (.ref 39))
 adeC:∃ (nm q:Str) (bs sub:List Value) (hdct ab:Bool) (sn:List Str) (col:Option Bool) (dd:Option Addr) (k0 k1 k2 k3 k5:Option Value),K.lookup 39=some (excClassObj nm q 39 38 bs [.type "Exception",.type "BaseException",.type "object"] hdct sn sub ab col dd k0 k1 k2 k3 k5 "Exception.__new__")
 adeI:∃ (qual:Str) (od an:Option Addr) (kV doc pm cdv ct:Value) (sl:Array (Option Value)),K.lookup 36=some ⟨.type "function",od,.func (fnOf (Str.ofString "__init__") qual (clArgs 2) (clBody 2) (clScope 2) (.ref 29) kV doc pm an cdv ct),sl⟩∧codeIn K cdv qual=true
 adeT:∃ (c:Value) (od:Option Addr) (sl:Array (Option Value)) (v0:Value) (n:Nat),K.lookup 29=some ⟨c,od,.seq #[v0] n,sl⟩∧c = .type "tuple"
 adeN:∃ (c:Value) (od:Option Addr) (sl:Array (Option Value)) (es:Array DictEntry) (n:Nat),K.lookup 38=some ⟨c,od,.dict es n,sl⟩∧(es.all fun e=>match e.key with | .str _ _=>true | _=>false)=true∧nsFind es (Str.ofString "__init__")=some (.ref 36)
 fmt:nsIn K mainGlobals (Str.ofString "ObjectFormat")=some (some (.ref 108))
 fmtK:FmtK K 108 98
 sha:nsIn K mainGlobals (Str.ofString "SHA1")=some (some (.ref 114))
 shaO:K.lookup 114=some (instObj 108 113)
 shaD:∃ (es:List DictEntry) (n:Nat) (t:Tok),K.lookup 113=some (dictOf es n)∧getL (Str.ofString "oid_length") es=some (some (.int 20 t))
 t24:tabIn K (fdName 24)=some (169,165)
 t25:tabIn K (fdName 25)=some (174,172)
 t33:tabIn K (fdName 33)=some (230,226)
 h24:codeHdIn K 169 165=true
 h25:codeHdIn K 174 172=true
 h33:codeHdIn K 230 226=true
noncomputable abbrev hidden:List String:=["AssertionError","bool","bytearray","bytes","divmod","enumerate","int","isinstance","len","list","max","ord","range","sorted","sum"]
noncomputable def freeOk (q:Program) (loose:List Str) (x:Str):Bool :=
 decide (x∉startupNames)&&decide (x∉loose)&&decide (x∉(recsOf q).map (·.name))&&decide (x∉(litsOf q).map (·.1))&&decide (x∉(clssOf q loose).map (·.name))
theorem top_free {q:Program} {loose:List Str} {mean:ExcName→Option Value} {mg mb:MG} {h:Heap} (T:Top q loose mean mg mb h) {x:Str} (e:freeOk q loose x=true):mg x=none:=by
 unfold freeOk at e
 simp only [Bool.and_eq_true,decide_eq_true_eq] at e
 exact T.free x e.1.1.1.1 e.1.1.1.2 e.1.1.2 e.1.2 e.2
structure QFacts (q:Program) (loose:List Str):Prop where
 recs:∀ i∈idxs,∃ d∈recsOf q,d.name=fdName i∧d.params=fdArgs i∧d.body=fdBody i∧d.scope=fdScope i
 free:hidden.all (fun x=>freeOk q loose (Str.ofString x))=true
 freeE:freeOk q loose (Str.ofString "Exception")=true
 ofs:valOf q (Str.ofString "OFS_DELTA")=some (.int 6)
 ref:valOf q (Str.ofString "REF_DELTA")=some (.int 7)
noncomputable def tabA (i:Nat):Addr:=if i=24 then 165 else if i=25 then 172 else 226
theorem tabA_in {i:Nat} (hi:i∈[24,25,33]):tabA i∈[172,165,226]:=by
 simp only [List.mem_cons,List.not_mem_nil,or_false] at hi
 rcases hi with rfl | rfl | rfl<;>decide
section
variable {w:PySem.World} {prog q:Program} {loose:List Str} {mean:ExcName→Option Value} {mg mb:MG} {K:Frag} {s₁:Shared}
theorem vrs_of {mg:MG}:∀ {vs:List Value} {ns:List Int},IntsAre vs ns→VRs mg vs (vInts ns)
 | _,_,.nil=>.nil
 | _,_,.cons n t h=>.cons ⟨t,rfl⟩ (vrs_of h)
noncomputable def baseOf (h:Heap) (sc:Addr):Kp:=fun b=>if b=sc∨b∈[172,165,226] then none else h.get? b
theorem law_goes (T:Top q loose mean mg mb s₁.heap) (X:K.In s₁.heap) (F:KFacts K) (Qf:QFacts q loose) (hT8:∀ P∈[172,165,226],s₁.heap.get? P=some (tabObj #[]))
  {a sc:Addr} {o:Obj} {pm cd doc:Value} {sns:List Int} {vs:Array Value} (ho:s₁.heap.get? a=some o) (hd:o.data = .func (Calls.docDef (fdName 33) (fdArgs 33) (fdBody 33) (fdScope 33) pm cd doc)) (hcd:s₁.heap.CodeRec cd (fdName 33))
  (hmg:mg (fdName 33)=some (.ref a)) (hgens:s₁.gens=#[]) (hL:s₁.heap.IsList sc vs) (hI:IntsAre vs.toList sns) (hlen:sns.length≤1000) :
  wpN (model prog w) callerA (call (.ref a) [.ref sc]) (fun v s'=>v = .bool true∧(∀ b o,b∉[172,165,226]→s₁.heap.get? b=some o→s'.heap.get? b=some o)∧(∀ P∈[172,165,226],∃ ps,s'.heap.get? P=some (tabObj ps))∧s'.os=s₁.os∧s'.gens=#[]) (fun _ _=>False) s₁:=by
 obtain u0:=()
 revert T X F Qf hT8 ho hd hcd hmg hgens hL hI hlen
 k_call_by "e" [w,prog,q,loose,mean,mg,mb,K,s₁,a,sc,o,pm,cd,doc,sns,vs,u0]
 obtain ⟨so,hso,hcls,nn,hseq⟩:=hL
 revert hso hcls hseq
 k_call_by "e" [so,nn]
 have Hi:Hid s₁.heap so (baseOf s₁.heap sc):=⟨fun b o e=>by
   unfold baseOf at e
   split at e
   ·cases e
   ·exact e,fun b o e h1 h2=>by
   unfold baseOf
   rw [if_neg]
   ·exact e
   ·rintro (h | h)
    ·subst h;rw [hso] at e;exact h1 (Option.some.inj e).symm
    ·rw [hT8 b h] at e;exact h2 (Option.some.inj e).symm,⟨vs,nn,hseq⟩⟩
 have KB:∀ {b:Addr} {o:Obj},K.lookup b=some o→baseOf s₁.heap sc b=some o:=fun {b o} e=>Hi.hid b o (X _ _ e)
  (fun q=>by
   have h2:=List.all_eq_true.mp F.noL (b,o) (mem_of_lookupK e)
   subst q
   simp only [hcls] at h2
   exact absurd h2 Bool.false_ne_true)
  (fun q=>by
   have h2:=List.all_eq_true.mp F.noT (b,o) (mem_of_lookupK e)
   subst q
   exact absurd (show false=true from h2) Bool.false_ne_true)
 have KI:∀ h:Heap,(∀ b o,baseOf s₁.heap sc b=some o→h.get? b=some o)→K.In h:=fun h hh b o e=>hh b o (KB e)
 have hsub:∀ b o,baseOf s₁.heap sc b=some o→s₁.heap.get? b=some o:=Hi.sub
 have W:World w prog mg (baseOf s₁.heap sc) 114 (fun b=>if b=114 then some 20 else none):=world_of T Hi Qf.recs
  (fun x hx=>top_free T (List.all_eq_true.mp Qf.free x hx)) Qf.ofs Qf.ref (mg_of X T.g F.sha) fun a n hn A s hs Q E hQ=>by
   split at hn
   ·rename_i e;subst e;cases hn
    obtain ⟨es,nk,t,g1,g2⟩:=F.shaD
    obtain ⟨attr,ha,hna⟩:=F.fmtK.own
    exact get_value (KI _ hs) ⟨hs _ _ (KB F.shaO),rfl,rfl,hs _ _ (KB g1)⟩ (plainGet_of F.fmtK.get).1 (findObj_own F.fmtK.hasD ha hna ((lookIn_dict _ es nk).trans g2)) rfl (hQ _ _)
   ·cases hn
 have OF:OfmtF mg (baseOf s₁.heap sc):=⟨K,108,98,F.fmtK,mg_of X T.g F.fmt,KI⟩
 have D:AdeF w prog mg (baseOf s₁.heap sc):=by
  obtain ⟨nm,q0,bs,sub,hdct,ab,sn,col,dd,k0,k1,k2,k3,k5,c1⟩:=F.adeC
  revert c1
  k_call_by "e" [nm,q0,bs,sub,hdct,ab,sn,col,dd,k0,k1,k2,k3,k5]
  obtain ⟨qual,od,an,kV,doc,pm,cdv,ct,sl,i1,i2⟩:=F.adeI
  obtain ⟨tc,tod,tsl,v0,tn,t1,t2⟩:=F.adeT
  obtain ⟨nc,nod,nsl,es,en,n1,n2,n3⟩:=F.adeN
  have hkeys:StrKeys es:=fun e he=>by
   have:=Array.all_eq_true'.mp n2 e he
   split at this
   ·rename_i x t hk;exact ⟨x,t,hk⟩
   ·cases this
  exact {
   at_:=⟨39,38,36,29,nm,q0,qual,bs,sub,hdct,ab,sn,col,dd,od,an,k0,k1,k2,k3,k5,sl,kV,doc,pm,cdv,ct,v0,tn,_,nsFind es,mg_of X T.g F.ade,n3,rfl,fun h hh=>⟨KI h hh _ _ c1,KI h hh _ _ i1,KI h hh _ _ t1,
    ⟨_,es,en,KI h hh _ _ n1,rfl,hkeys,fun _=>rfl⟩,codeRec_of (KI h hh) i2⟩⟩
   exc:=top_free T Qf.freeE
   ns:=fun h hh=>⟨Hi.ns T.g hh,by
    obtain ⟨mc,a,r⟩:=T.nolimit
    exact ⟨mc,Hi.ns a hh,r⟩,mb,Hi.ns T.b hh,by rw [T.builtins _ (by decide +kernel)];kernel_rfl⟩ }
 have tabAt:∀ {i c:Nat},tabIn K (fdName i)=some (c,tabA i)→codeHdIn K c (tabA i)=true→∀ {a:Addr} {o:Obj} {pm doc cd:Value},mg (fdName i)=some (.ref a)→s₁.heap.get? a=some o→o.data = .func (Calls.docDef (fdName i) (fdArgs i) (fdBody i) (fdScope i) pm cd doc)→TabF mg (baseOf s₁.heap sc) cd (tabA i) :=
  fun {i c} h1 h2 {a o pm doc cd} g1 g2 g3=>tabf_of T Hi (codeHd_of_K X h2) (law_code X T.g h1 g1 g2 g3)
 have TB:TabsF mg (baseOf s₁.heap sc) tabA:=fun i hi a o pm doc cd g1 g2 g3=>by
  simp only [List.mem_cons,List.not_mem_nil,or_false] at hi
  rcases hi with rfl | rfl | rfl
  ·exact tabAt F.t24 F.h24 g1 (hsub _ _ g2) g3
  ·exact tabAt F.t25 F.h25 g1 (hsub _ _ g2) g3
  ·exact tabAt F.t33 F.h33 g1 (hsub _ _ g2) g3
 have hao:baseOf s₁.heap sc a=some o:=Hi.at ho (fun vs n q=>by rw [hd] at q;cases q) fun e=>by rw [e] at hd;cases hd
 have hbn:baseOf s₁.heap sc sc=none:=if_pos (.inl rfl)
 have hbt:∀ i∈[24,25,33],baseOf s₁.heap sc (tabA i)=none:=fun i hi=>if_pos (.inr (tabA_in hi))
 refine nMono (law_call W (if_pos rfl) OF D TB (tabAt F.t33 F.h33 hmg ho hd) ⟨a,o,hmg,hao⟩ ⟨by decide,by decide,by decide⟩ ho hd hcd (W.nolimit _ hsub) hgens hso hcls hseq (vrs_of hI) hlen (fun i hi=>hT8 _ (tabA_in hi)) hsub hbn hbt) (fun v s' h=>?_) fun _ _ h=>h
 obtain ⟨h1,h2,h3,h4,h5⟩:=h
 refine ⟨h1,fun b o hb e=>h2 b o (fun i hi q=>hb (q▸tabA_in hi)) e,fun P hP=>?_,h4,h5⟩
 simp only [List.mem_cons,List.not_mem_nil,or_false] at hP
 rcases hP with rfl | rfl | rfl
 ·exact h3 25 (by decide)
 ·exact h3 24 (by decide)
 ·exact h3 33 (by decide)
theorem law_wg {c:ClaimW} {cl:Str→Option Addr} {args:List WData} {d:WData} {s':Shared} (X:K.In s₁.heap) (F:KFacts K) (hT8:∀ P∈[172,165,226],s₁.heap.get? P=some (tabObj #[]))
  (hr:∀ a x,c.raises a x=false) (hd:∀ h,ReadsW c.records cl h (.bool true) d []) (hp:c.post args d args=true)
  (hk:∀ b o,b∉[172,165,226]→s₁.heap.get? b=some o→s'.heap.get? b=some o) (ht:∀ P∈[172,165,226],∃ ps,s'.heap.get? P=some (tabObj ps)) (hos:s'.os=s₁.os) (hg:s'.gens=#[]) :
  GoodWG c cl mean args s₁ (.ok (.ret (.bool true))) s':=by
 have isT:∀ P∈[172,165,226],isCodeTable s₁.heap P:=fun P hP=>by
  have hc:∃ c,codeHdIn K c P=true:=by
   simp only [List.mem_cons,List.not_mem_nil,or_false] at hP
   rcases hP with rfl | rfl | rfl
   ·exact ⟨_,F.h25⟩
   ·exact ⟨_,F.h24⟩
   ·exact ⟨_,F.h33⟩
  obtain ⟨c,hc⟩:_:=hc
  exact ((codeHd_of_K X hc).tab (hT8 P hP)).isCodeTable
 refine ⟨.inl ⟨_,d,[],rfl,fun x=>hr _ x,hd _,hp,fun _=>⟨List.nodup_nil,fun a ha=>by cases ha⟩⟩,⟨fun b o e=>?_,fun b o e=>?_⟩,hos,.of_eq hg⟩
 ·by_cases hb:b∈[172,165,226]
  ·have e2:=hT8 b hb
   rw [e] at e2;cases e2
   obtain ⟨ps,hP⟩:_:=ht b hb
   exact .inr (.inl ⟨isT b hb,rfl,#[],ps,rfl,by rw [Array.empty_append];exact hP⟩)
  ·exact .inl (hk b o hb e)
 ·by_cases hb:b∈[172,165,226]
  ·obtain ⟨ps,hP⟩:_:=ht b hb
   exact ⟨_,hP⟩
  ·exact ⟨o,hk b o hb e⟩
end
end DL
end
section
open PySem PySem.Calls PyProof.Rows PySem.W PySem.Challenge
namespace DL
noncomputable def en (P:Params) (x:String) (t:Nat) (v:Value):DictEntry:=⟨PyData.keyHash P (Str.ofString x),.str (Str.ofString x) t,v⟩
noncomputable def enr (P:Params) (x:String) (t a:Nat):DictEntry:=en P x t (.ref a)
noncomputable def cdo (x q:String) (t l n a:Nat) (v w:Value) (b i:Nat):Obj:={ cls:=.type "code",data:=.fields #[.str (Str.ofString x) t,.str (Str.ofString q) (t+1),.str (Str.ofString "/claim/cut.py") (t+2),.int l 0,.int n 0,.int 0 0,.int 0 0,.int 3 0,.ref a,.bool true,.int 181 0,.ref (a+1),.none,v,w,.ref b,.int i 0,.int l 0,.str (Str.ofString "/claim/cut.py") (i+1)] }
noncomputable def fno (x q:String) (a:Arguments) (b:List Stmt) (s:Scope) (d:Value) (m:String) (t c:Nat):Obj:={ cls:=.type "function",data:=.func (fnOf (Str.ofString x) (Str.ofString q) a b s d .none .none (.str (Str.ofString m) t) none (.ref c) .none) }
noncomputable def tpo (vs:Array Value):Obj:={ cls:=.type "tuple",data:=.seq vs }
noncomputable def K0 (P:Params):Frag:=[
 (3,{ cls:=.type "dict",data:=.dict #[en P "__name__" 165 (.str (Str.ofString "law_ai0006_01") 364),en P "__doc__" 166 .none,en P "__package__" 167 .none,en P "__loader__" 168 (.builtin "__main__.__loader__#opaque"),en P "__spec__" 169 .none,enr P "__annotations__" 170 6,enr P "__builtins__" 171 4,
  en P "__file__" 173 (.str (Str.ofString "/claim/cut.py") 172),en P "__cached__" 174 .none,enr P "_wall" 193 21,enr P "ApplyDeltaError" 224 39,en P "OFS_DELTA" 228 (.int 6 227),en P "REF_DELTA" 230 (.int 7 229),enr P "take_msb_bytes_at" 241 49,enr P "bisect_find_sha" 253 56,
  enr P "_decode_object_header" 264 63,enr P "_decode_delta_base_offset" 273 70,enr P "pack_object_header" 286 77,enr P "_delta_encode_size" 295 84,enr P "ObjectFormat" 342 108,enr P "SHA1" 363 114,enr P "_law_kinds" 371 122,enr P "_law_wide" 377 127,enr P "_law_name" 385 134,enr P "_law_turned" 395 141,
  enr P "_law_row" 401 146,enr P "_law_value" 407 151,enr P "_law_written" 416 158,enr P "_law_key" 422 163,enr P "_law_halved" 435 170,enr P "_law_found" 441 175,enr P "_law_cut" 450 182,enr P "_law_taken" 459 189,enr P "_law_next" 470 196,enr P "_law_back" 486 203,enr P "_law_open" 493 210,
  enr P "_law_read" 506 217,enr P "_law_barred" 516 224,enr P "law" 552 231] 39 }),
 (39,excClassObj (Str.ofString "ApplyDeltaError") (Str.ofString "ApplyDeltaError") 39 38 [.type "Exception"] [.type "Exception",.type "BaseException",.type "object"] true [] [] false none none (some (.ref 22)) none (some (.str (Str.ofString "ApplyDeltaError") 196)) (some (.str (Str.ofString "ApplyDeltaError") 204)) (some (.bool true)) "Exception.__new__"),
 (38,{ cls:=.type "dict",data:=.dict #[en P "__module__" 203 (.str (Str.ofString "dulwich.errors") 194),en P "__firstlineno__" 207 (.int 5 206),enr P "__init__" 216 36,enr P "__static_attributes__" 217 37,enr P "__weakref__" 219 40,en P "__doc__" 220 .none] 3 }),
 (36,fno "__init__" "ApplyDeltaError.__init__" (clArgs 2) (clBody 2) (clScope 2) (.ref 29) "dulwich.errors" 194 35),
 (35,cdo "__init__" "ApplyDeltaError.__init__" 209 7 2 30 (.ref 32) (.ref 33) 34 214),
 (29,tpo #[.str (Str.ofString "") 208]),
 (108,{ cls:=.type "type",data:=.cls { name:=Str.ofString "ObjectFormat",bases:=[.type "object"],mro:=[.ref 108,.type "object"],ns:=107,qualname:=Str.ofString "ObjectFormat" },slots:=#[none,none,some (.str (Str.ofString "ObjectFormat") 298),some (.str (Str.ofString "ObjectFormat") 306),some (.builtin "object.__new__"),some (.bool true)] }),
 (107,{ cls:=.type "dict",data:=.dict #[en P "__module__" 305 (.str (Str.ofString "dulwich.object_format") 296),en P "__firstlineno__" 309 (.int 85 308),enr P "__init__" 321 98,enr P "hash_object_hex" 329 105,enr P "__static_attributes__" 335 106,enr P "__dict__" 337 109,enr P "__weakref__" 339 110,en P "__doc__" 340 .none] 4 }),
 (98,fno "__init__" "ObjectFormat.__init__" (clArgs 13) (clBody 13) (clScope 13) .none "dulwich.object_format" 296 97),
 (97,cdo "__init__" "ObjectFormat.__init__" 310 87 6 92 (.ref 94) (.ref 95) 96 319),
 (113,{ cls:=.type "dict",data:=.dict #[en P "name" 354 (.str (Str.ofString "sha1") 343),en P "type_num" 356 (.int 1 344),en P "oid_length" 358 (.int 20 345),en P "hex_length" 360 (.int 40 346),en P "hash_func" 362 .none] 5 }),
 (114,{ cls:=.ref 108,dict:=some 113 }),
 (170,fno "_law_halved" "_law_halved" (fdArgs 24) (fdBody 24) (fdScope 24) .none "law_ai0006_01" 364 169),
 (169,cdo "_law_halved" "_law_halved" 423 148 5 164 (.ref 166) (.ref 167) 168 433),
 (175,fno "_law_found" "_law_found" (fdArgs 25) (fdBody 25) (fdScope 25) .none "law_ai0006_01" 364 174),
 (174,cdo "_law_found" "_law_found" 436 150 4 171 .none .none 173 439),
 (231,fno "law" "law" (fdArgs 33) (fdBody 33) (fdScope 33) .none "law_ai0006_01" 364 230),
 (230,cdo "law" "law" 517 221 1 225 (.ref 227) (.ref 228) 229 550)]
noncomputable abbrev hook0:Hook:=kmHook K0 [3,39,38,36,35,29,108,107,98,97,113,114,170,169,175,174,231,230] (fun _=>rfl) [172,165,226]
theorem kfacts (P:Params):KFacts (K0 P) where
 noT:=by kernel_rfl
 noL:=by kernel_rfl
 ade:=by kernel_rfl
 adeC:=⟨_,_,_,_,_,_,_,_,_,_,_,_,_,_,rfl⟩
 adeI:=⟨_,_,_,_,_,_,_,_,_,rfl,by kernel_rfl⟩
 adeT:=⟨_,_,_,_,_,rfl,rfl⟩
 adeN:=⟨_,_,_,_,_,rfl,by kernel_rfl,by kernel_rfl⟩
 fmt:=by kernel_rfl
 fmtK:={
  makes:=by kernel_rfl
  init:=by kernel_rfl
  fn:=by kernel_rfl
  sattr:=by kernel_rfl
  over:=by kernel_rfl
  hasD:=by kernel_rfl
  t1:=by kernel_rfl
  t2:=by kernel_rfl
  t3:=by kernel_rfl
  t4:=by kernel_rfl
  t5:=by kernel_rfl
  get:=by kernel_rfl
  own:=⟨none,by kernel_rfl,by kernel_rfl⟩
  keep:=by kernel_rfl
  obj:=⟨_,_,_,_,_,_,_,_,_,rfl,by kernel_rfl⟩ }
 sha:=by kernel_rfl
 shaO:=by kernel_rfl
 shaD:=⟨_,_,345,rfl,by kernel_rfl⟩
 t24:=by kernel_rfl
 t25:=by kernel_rfl
 t33:=by kernel_rfl
 h24:=by kernel_rfl
 h25:=by kernel_rfl
 h33:=by kernel_rfl
noncomputable def vw:Program:=view pw_ai0006_01 [4,5,6,7,8,9,10,11,16,17,18,19,20,21,22,23,24,25,26,27,28,29,30,31,32,33]
noncomputable def vl:List Str:=[Str.ofString "_wall",Str.ofString "ApplyDeltaError",Str.ofString "ObjectFormat",Str.ofString "SHA1"]
theorem rec_at {i j:Nat} (h:((recsOf vw)[j]?).map (fun d=>(d.name,d.params,d.body,d.scope))=some (fdName i,fdArgs i,fdBody i,fdScope i)) :
  ∃ d∈recsOf vw,d.name=fdName i∧d.params=fdArgs i∧d.body=fdBody i∧d.scope=fdScope i:=by
 obtain ⟨d,h1,h2⟩:=Option.map_eq_some_iff.mp h
 simp only [Prod.mk.injEq] at h2
 exact ⟨d,List.mem_of_getElem? h1,h2⟩
theorem qfacts:QFacts vw (looseW vw vl) where
 recs:=fun i hi=>by
  have e:∀ i∈idxs,((recsOf vw)[if i<12 then i-6 else i-10]?).map (fun d=>(d.name,d.params,d.body,d.scope))=some (fdName i,fdArgs i,fdBody i,fdScope i):=by
   intro i hi
   simp only [idxs,List.mem_cons,List.not_mem_nil,or_false] at hi
   rcases hi with rfl | rfl | rfl | rfl | rfl | rfl | rfl | rfl | rfl | rfl | rfl | rfl | rfl | rfl | rfl | rfl | rfl | rfl | rfl | rfl | rfl | rfl | rfl<;>kernel_rfl
  exact rec_at (e i hi)
 free:=by kernel_rfl
 freeE:=by kernel_rfl
 ofs:=by kernel_rfl
 ref:=by kernel_rfl
noncomputable def topRunG (stp:SharedT→Thread→Option (SharedT×Thread)) (ok:Thread→Bool) (n:Nat):SharedT→Thread→Option SharedT :=
 Nat.rec (fun _ _=>none) (fun _ r s t=>bif through t then some s else bif ok t then (stp s t).elim none fun x=>r x.1 x.2 else none) n
theorem topRun_of {tb:String→Option Builtin} {p:Program} {w:PySem.World} {m:Nat} {a:Option Value} {s':SharedT}:∀ {n:Nat} {s:SharedT} {t:Thread},topRunG (stepT (denote tb) p w) (stepOk m a) n s t=some s'→topRun tb p w m a n s.abs t=some s'.abs
 | 0,_,_,h=>nomatch h
 | n+1,s,t,h=>by
  have h:(bif through t then some s else bif stepOk m a t then (stepT (denote tb) p w s t).elim none fun x=>topRunG (stepT (denote tb) p w) (stepOk m a) n x.1 x.2 else none)=some s':=h
  unfold topRun
  cases he:through t with
  | true=>rw [he] at h;exact congrArg (Option.map SharedT.abs) h
  | false =>
   rw [he] at h
   cases hk:stepOk m a t with
   | false=>rw [hk] at h;nomatch h
   | true =>
    rw [hk] at h
    cases hs:stepT (denote tb) p w s t with
    | none=>rw [hs] at h;nomatch h
    | some r=>rw [hs] at h;rw [stepT_spec hs];exact topRun_of h
noncomputable def bootS (w:PySem.World) (os:OsState):SharedT:=⟨((boot_heap w.params).objs.toList.foldl (fun t o=>(t.1.ins t.2 o,t.2+1)) (BT.nil,0)).1,11,(boot_heap w.params).life,#[],boot_drawn,boot_toks,os⟩
theorem bootS_is (w:PySem.World) (os:OsState):(bootS w os).abs=⟨boot_heap w.params,#[],boot_drawn,boot_toks,os⟩:=by kernel_rfl
theorem size0 (P:Params):((boot_heap P).isNs mainGlobals&&(#[]:Array GenState).size == 0,(boot_heap P).objs.size,(boot_heap P).nsMap mainGlobals "__annotations__")=(true,11,some (.ref 6)):=by kernel_rfl
theorem run0 (w:PySem.World) (os:OsState):(topRunG (PySem.W.Fast.tw10156331382660048174 (PySem.W.Fast.tw11892475500146522536 PySem.W.Fast.tw14364793385576792824) pw_ai0006_01 w) (PySem.W.Fast.tw6613529449190102663 11 (some (.ref 6))) 3298 (bootS w os) (topStub pw_ai0006_01)).map
  (fun s=>(staticsOk (importedModules pw_ai0006_01.main.body) (boot_heap w.params) s.abs.heap&&namesBound pw_ai0006_01 s.abs.heap&&gensDone s.abs&&laidKept (boot_heap w.params) s.abs.heap,
   PySem.W.Fast.tw4187177175401517315 vw vl (importedModules pw_ai0006_01.main.body) (fun s=>xlAt vw [] s&&recOk (RowW.records rw_ai0006_01.row.toRowW) s) true s.abs,hook0.obs s.abs))=some (true,openGood vw vl,hook0.val w):=by
 kernel_rfl
theorem left0:LeftO pw_ai0006_01 vw vl (fun s=>xlAt vw [] s&&recOk (RowW.records rw_ai0006_01.row.toRowW) s) hook0.obs hook0.val 3298:=fun w=>by
 obtain ⟨⟨h,gs,d,k,os⟩,e,e'⟩:_:=Option.map_eq_some_iff.mp (boot_open (p:=pw_ai0006_01) (N:=3298) (by kernel_rfl) (by kernel_rfl) (fun s=>by kernel_rfl) w)
 have e1:h=_:=congrArg (·.1) e'
 have e2:gs=_:=congrArg (·.2.1) e'
 have e3:d=_:=congrArg (·.2.2.1) e'
 have e4:k=_:=congrArg (·.2.2.2) e'
 subst e1 e2 e3 e4
 have h:=run0 w os
 rw [← PySem.W.Fast.te10156331382660048174,← PySem.W.Fast.te11892475500146522536,← PySem.W.Fast.te14364793385576792824,← PySem.W.Fast.te6613529449190102663,← PySem.W.Fast.te4187177175401517315] at h
 obtain ⟨s,r,l⟩:_:=Option.map_eq_some_iff.mp h
 have l1:=congrArg Prod.fst l
 have r:=topRun_of r
 rw [bootS_is] at r
 have z1:=congrArg Prod.fst (size0 w.params)
 have z2:=congrArg (fun x=>x.2.1) (size0 w.params)
 have z3:=congrArg (fun x=>x.2.2) (size0 w.params)
 have t:topFrom treeTable pw_ai0006_01 w 3298 ⟨boot_heap w.params,#[],boot_drawn,boot_toks,os⟩=some s.abs:=by
  unfold topFrom
  dsimp only at z1 z2 z3 ⊢
  rw [z1,z2,z3,r]
  show (match _ with | true=>_ | false=>_)=_
  dsimp only at l1 ⊢
  rw [l1]
 have u:openEnds treeTable pw_ai0006_01 w 3298=some s.abs:=by
  unfold openEnds
  rw [e,Option.bind_some]
  exact t
 have l2:=congrArg Prod.snd l
 dsimp only at l2
 rw [u,← l2]
 rfl
end DL
end
section
open PySem PySem.Calls PyProof.Rows PySem.W PySem.Challenge
namespace DL
theorem said1:PySem.W.Fast.tw9446332074065402090 rw_ai0006_01=true:=by
 unfold PySem.W.Fast.tw9446332074065402090
 iterate 18 (refine look_both ?_ (by decide +kernel))
 unfold PySem.W.Fast.tw17960256430627541270
 iterate 2 (refine look_both ?_ (by decide +kernel))
 unfold PySem.W.Fast.tw2436336058641802641
 iterate 13 (refine look_both ?_ (by decide +kernel))
 unfold PySem.W.Fast.tw12908688711261696721
 iterate 5 (refine look_both ?_ (by decide +kernel))
 decide +kernel
theorem said0:rw_ai0006_01.wellSaid=true:=(congrFun PySem.W.Fast.te9446332074065402090 _).trans said1
noncomputable abbrev d33:DefRec:=⟨fdName 33,fdArgs 33,fdBody 33,fdScope 33,⟨221,0,287,15⟩⟩
theorem def33:defOf vw rw_ai0006_01.row.name=some (d33,[]):=by kernel_rfl
theorem def33':rw_ai0006_01.row.prog.theDef rw_ai0006_01.row.name=some (fdArgs 33,fdBody 33,fdScope 33):=by kernel_rfl
theorem law_holds:rw_ai0006_01.Holds:=by
 refine holds_law said0 fun said=>?_
 refine PySem.W.holds_open (q:=vw) (loose:=vl) (XP:=XL vw []) (Ya:=hook0.val) (YP:=hook0.says) (N:=3298) (d:=d33) (kwd:=[]) left0 hook0.of hook0.keeps (fun s e=>xl_of s (Bool.and_eq_true_iff.mp e).1) XL.keeps
  def33 def33' (by kernel_rfl) (fun s e=>recFacts_of (Bool.and_eq_true_iff.mp e).2) (by kernel_rfl) said (by decide +kernel) ⟨rfl,rfl,rfl,rfl,rfl,by decide +kernel⟩ ?hw ?hc
 case hw=>w_witness2
 case hc =>
  intro w s₀ s₁ mg mb G Y fa o pm cd doc dV kV ho hd hcd hD hmg hg args vals as hpre hlay hrd hwl hlo
  obtain KX:=km_in_of Y
  obtain hT8:=km_tabs_of Y
  obtain T:=G.T
  have e1:dV = .none:=hD.none rfl
  have e2:kV = .none:=hD.noKw
  subst e1 e2
  wrow_args hpre hlay hrd hwl hlo
  rename_i sns _ _ _ _ _ _ sc vs _ hL _ _ _ hI _ hlen _
  refine nMono (law_goes (pm:=pm) (cd:=cd) (doc:=doc) T KX (kfacts _) qfacts hT8 ho hd hcd hmg hg hL hI (by lia)) (fun v s' h=>?_) fun e s' h=>h.elim
  obtain ⟨rfl,h2,h3,h4,h5⟩:=h
  exact law_wg (d:=.bool true) KX (kfacts _) hT8 (fun _ _=>rfl) (fun _=>.bool true) (by wrow_post) h2 h3 h4 h5
end DL
end
theorem PySem.Challenge.cw_ai0006_01_holds : PySem.Challenge.rw_ai0006_01.Holds := by
  exact DL.law_holds
