import PyProof.Rows.All
import KE.KBoundM
import KE.KSortAsk
import KE.KStar
import KE.KTryDeepN
import KE.KWhile
import KE.RegKTryDeep
import OpenK.AllK
import Wide.All
import Wide.FinOn
import Lean
import PySem.Challenge.RW_pd0205_01
set_option Elab.async false
set_option maxRecDepth 100000
set_option maxHeartbeats 0
set_option linter.all false
set_option bootstrap.genMatcherCode false
set_option backward.match.sparseCases false
set_option tactic.hygienic false
set_option genSizeOf false
set_option genInjectivity false
open PySem PySem.W PyProof.Rows PySem.Calls PySem.Spec
namespace Mine.Internal
section
local macro_rules | `(tactic| o_head $H)=>`(tactic| assumption)
theorem hd0(h:OpenRow.Holds (OpenLaw.row PySem.Challenge.rw_pd0205_01)):OpenRow.Holds (OpenLaw.row PySem.Challenge.rw_pd0205_01):=by k_head
end
end Mine.Internal
section
namespace Mine.Internal
noncomputable abbrev PW:=PySem.Challenge.pw_pd0205_01
noncomputable def aU:List Stmt→Option Str
 |.Expr (.Constant (.str s) _ _) _::_=>some s
 |_=>none
noncomputable def TG:Option Stmt→List Stmt
 |some (.ClassDef _ _ _ b _ _ _ _ _ _ _)=>b
 |some (.FunctionDef _ _ b _ _ _ _ _ _ _)=>b
 |_=>[]
noncomputable def Um(p:Program)(i:Nat):Option Nat→Option Stmt
 |none=>p.main.body[i]?
 |some j=>(TG (p.main.body[i]?))[j]?
noncomputable def dP(k:Nat):Option Str:=([(5,none),(5,some 6),(5,some 8),(5,some 1),(5,some 7),(5,some 10),(11,some 3),(10,none),(5,some 4),(5,some 3),(11,some 8),(11,some 6),(11,some 5),(11,some 4),(25,none)][k]?).bind λq=>aU (TG (Um PW q.1 q.2))
noncomputable def pwG(D:Nat→Str):Program:=by
 refine(?k:(∀(_:∀k s,dP k=some s→s=D k),PW=?q)→Program) ?p
 case p=>
  intro h;delta PW PySem.Challenge.pw_pd0205_01;rw[h 0 _ rfl,h 1 _ rfl,h 2 _ rfl,h 3 _ rfl,h 4 _ rfl,h 5 _ rfl,h 6 _ rfl,h 7 _ rfl,h 8 _ rfl,h 9 _ rfl,h 10 _ rfl,h 11 _ rfl,h 12 _ rfl,h 13 _ rfl,h 14 _ rfl]
 case k=>exact λ_=>?q
noncomputable def pk:Nat→List Char→Nat
 |0,_=>0
 |_+1,[]=>0
 |n+1,c::l=>pk n l*256+c.toNat
noncomputable def bQ:Nat→List Char→Nat
 |0,_=>0
 |n+1,l=>bQ n (l.drop 60)*256^60+pk 60 l
noncomputable def uk:Nat→Nat→List Char
 |0,_=>[]
 |_+1,0=>[]
 |n+1,v+1=>Char.ofNat ((v+1)%256)::uk n ((v+1)/256)
noncomputable def dQ(k:Nat)(s:String)(c:List Char)(n:Nat):Prop:=dP k=some (Str.ofString s)∧s=String.ofList c∧bQ 80 c=n
noncomputable def dN:List Nat:=by
 refine(?k:(dQ 0 ?s0 ?c0 ?n0∧dQ 1 ?s1 ?c1 ?n1∧dQ 2 ?s2 ?c2 ?n2∧dQ 3 ?s3 ?c3 ?n3∧dQ 4 ?s4 ?c4 ?n4∧dQ 5 ?s5 ?c5 ?n5∧dQ 6 ?s6 ?c6 ?n6∧dQ 7 ?s7 ?c7 ?n7∧dQ 8 ?s8 ?c8 ?n8∧dQ 9 ?s9 ?c9 ?n9∧dQ 10 ?s10 ?c10 ?n10∧dQ 11 ?s11 ?c11 ?n11∧dQ 12 ?s12 ?c12 ?n12∧dQ 13 ?s13 ?c13 ?n13∧dQ 14 ?s14 ?c14 ?n14)→List Nat) ?p
 case p=>
  refine⟨?_,?_,?_,?_,?_,?_,?_,?_,?_,?_,?_,?_,?_,?_,?_⟩<;>(refine⟨?_,?_,?_⟩;exact rfl;exact rfl;conv=>lhs;whnf)
 case k=>exact λ_=>[?n0,?n1,?n2,?n3,?n4,?n5,?n6,?n7,?n8,?n9,?n10,?n11,?n12,?n13,?n14]
noncomputable def aV(k:Nat):List Char:=uk 4800 (dN.getD k 0)
noncomputable def V1(k:Nat):Str:=Str.ofString (String.ofList (aV k))
noncomputable def docL(k:Nat):Str:=⟨((aV k).map Char.toNat).toArray⟩
theorem Lx:V1=docL:=funext λk=>Fast.ofString_ofList (aV k)
theorem U9:pwG V1=PW:=by kernel_rfl
theorem pw_eq:PW=pwG docL:=by rw[← Lx,U9]
noncomputable def Wp(X:Array Nat→(Nat→Bool)→Nat→Nat→Bool):Builtin:=by
 refine(?k:(∀_:X=@Array.any Nat,Builtin.«type.__new__» = ?q)→Builtin) ?p
 case p=>
  intro hX;delta Builtin.«type.__new__»;rw[← hX]
 case k=>exact λ_=>?q
theorem QW:Wp (@Array.any Nat)=Builtin.«type.__new__»:=rfl
end Mine.Internal
end
section
namespace Mine.Internal
noncomputable def VH(a:Array Nat)(p:Nat→Bool)(i j:Nat):Bool:=if (Nat.beq i 0&&Nat.beq j a.size)=true then a.toList.any p else a.any p i j
theorem Sr:@Array.any Nat=VH:=by
 funext a p i j
 unfold VH;split
 ·rename_i h;rw[Bool.and_eq_true] at h;obtain⟨h1,h2⟩:=h;have e1:=Nat.eq_of_beq_eq_true h1;have e2:=Nat.eq_of_beq_eq_true h2;subst e1 e2;simp
 ·rfl
noncomputable def tb2(id:String):Option Builtin:=if id="type.__new__" then some (Wp VH) else treeTable id
theorem Uk:tb2=treeTable:=by
 funext id
 unfold tb2;split
 ·rename_i h;subst h;rw[← Sr,QW]
  kernel_rfl
 ·rfl
noncomputable def Fn(tb:String→Option Builtin)(p:Program)(w:World)(n₀:Nat)(ann:Option Value):Nat→SharedT→Thread→Option SharedT
 |0,_,_=>none
 |n+1,s,t=>bif through t then some s else bif stepOk n₀ ann t then (stepT (denote tb) p w s t).bind λr=>Fn tb p w n₀ ann n r.1 r.2 else none
theorem LO{tb:String→Option Builtin}{p:Program}{w:World}{n₀:Nat}{ann:Option Value}{n:Nat}{s s':SharedT}{t:Thread}(h:Fn tb p w n₀ ann n s t=some s'):topRun tb p w n₀ ann n s.abs t=some s'.abs:=by
 induction n generalizing s t with
 |zero=>cases h
 |succ n ih=>
  rw[Fn] at h;unfold topRun
  cases he:through t with
  |true=>rw[he] at h;exact congrArg (Option.map SharedT.abs) h
  |false=>
   rw[he] at h
   cases hk:stepOk n₀ ann t with
   |false=>rw[hk] at h;cases h
   |true=>
    rw[hk] at h;obtain⟨r,hs,h⟩:=Option.bind_eq_some_iff.mp h;rw[stepT_spec hs];exact ih h
noncomputable def bootTree(P:Params):BT:=((((((((((BT.nil.ins 0 (boot_o_0 P)).ins 1 (boot_o_1 P)).ins 2 (boot_o_2 P)).ins 3 (boot_o_3 P)).ins 4 (boot_o_4 P)).ins 5 (boot_o_5 P)).ins 6 (boot_o_6 P)).ins 7 (boot_o_7 P)).ins 8 (boot_o_8 P)).ins 9 (boot_o_9 P)).ins 10 (boot_o_10 P)
noncomputable def PU(bt:BT)(bh:Heap)(os:OsState):SharedT:=⟨bt,11,bh.life,Array.mk [],boot_drawn,boot_toks,os⟩
theorem Nc(w:World)(os:OsState):(PU (bootTree w.params) (boot_heap w.params) os).abs=⟨boot_heap w.params,Array.mk [],boot_drawn,boot_toks,os⟩:=by kernel_rfl
noncomputable def U3(tb:String→Option Builtin)(bt:BT)(bh:Heap)(p:Program)(w:World)(os:OsState):Option SharedT:=Fn tb p w 11 (some (.ref 6)) 4300 (PU bt bh os) (topStub p)
noncomputable def TU:List Nat:=[0,2,3,4,5,7,8,9,10,11,13,15,17,18,20,22,24,25,26,27,28,30,31,32,33,34,35,36,37,38]
noncomputable def Ce(p:Program):Program:={ p with main:={ p.main with body:=TU.filterMap λi=>p.main.body[i]? } }
noncomputable def AR:List Str:=[Str.ofString "_tuplegetter",Str.ofString "Match",Str.ofString "SequenceMatcher",Str.ofString "_NodeInfo"]
noncomputable def K0(p:Program)(s:Shared):Bool:=xlAt (Ce p) [] s&&recOk [] s
noncomputable def GW(T:BT):List (Addr×Obj)→List (Addr×Obj)
 |[]=>[]
 |p::r=>match T.get p.1 with
  |some o=>(p.1,o)::GW T r
  |none=>[]
noncomputable def Gm:List (Addr×Obj)→Bool
 |[]=>true
 |p::r=>Nat.blt p.1 539 && !p.2.isFreed&&Gm r
noncomputable def KY(bh:Heap)(p:Program)(s:Shared):Bool:=
 (staticsOk (importedModules p.main.body) bh s.heap&&namesBound p s.heap&&gensDone s&&laidKept bh s.heap)
noncomputable def OS(p:Program)(s:Shared):Bool:=
 (s.heap.keysOk (looseW (Ce p) AR) ((recsOf (Ce p)).map (·.name)) ((litsOf (Ce p)).map (·.1)) ((clssOf (Ce p) (looseW (Ce p) AR)).map (·.name))&&s.heap.accountedOkI (importedModules p.main.body)&&s.heap.isNs mainGlobals&&s.heap.isNs builtinsNs&&tablesOk (Ce p) s.heap&&K0 p s&&(if true then s.gens.size==0 else !leftWithCleanup s.gens))
noncomputable def bigL(tb:String→Option Builtin)(bt:BT)(bh:Heap)(p:Program)(K:List (Addr×Obj))(w:World)(os:OsState):=(U3 tb bt bh p w os).map λsT=>
 ((sT.os,sT.n,KY bh p sT.abs,OS p sT.abs,tabsOk (Ce p) sT.abs,Gm K),GW sT.tree K,seen ((recsOf (Ce p)).map (·.name)) (ownsOf (Ce p)) [] { sT.abs with gens:=#[] },sT.abs.heap.bltView,plainSeenE (Ce p) (looseW (Ce p) AR) sT.abs,plainSeenD (Ce p) AR sT.abs,wideSeen (Ce p) sT.abs,clsSeenW (Ce p) AR sT.abs)
noncomputable def bigR(p:Program)(K:List (Addr×Obj))(os:OsState):=some
 ((os,539,true,true,true,true),K,expectedOf (Ce p),bltViewBooted,plainGoodE (Ce p) (looseW (Ce p) AR),plainGoodD (Ce p) AR,wideGood (Ce p),clsGoodW (Ce p) AR)
theorem bigL_self:bigL=bigL:=rfl
theorem bigR_self:bigR=bigR:=rfl
end Mine.Internal
namespace Mine.Internal
noncomputable def mkG(D:Nat→Str):Params→Frag:=by
 refine(?k:(∀(_:∀k s,dP k=some s→s=D k),hd0.heap_1=?q)→Params→Frag) ?p
 case p=>
  intro h;delta hd0.heap_1
  try rewrite[h 0 _ rfl]
  try rewrite[h 1 _ rfl]
  try rewrite[h 2 _ rfl]
  try rewrite[h 3 _ rfl]
  try rewrite[h 4 _ rfl]
  try rewrite[h 5 _ rfl]
  try rewrite[h 6 _ rfl]
  try rewrite[h 7 _ rfl]
  try rewrite[h 8 _ rfl]
  try rewrite[h 9 _ rfl]
  try rewrite[h 10 _ rfl]
  try rewrite[h 11 _ rfl]
  try rewrite[h 12 _ rfl]
  try rewrite[h 13 _ rfl]
  try rewrite[h 14 _ rfl]
  exact rfl
 case k=>exact λ_=>?q
theorem UK:mkG V1=hd0.heap_1:=by kernel_rfl
theorem Wr:hd0.heap_1=mkG docL:=by rw[← UK,Lx]
end Mine.Internal
name_quick bigLQ for Mine.Internal.bigL by Mine.Internal.bigL_self
name_quick bigRQ for Mine.Internal.bigR by Mine.Internal.bigR_self
namespace Mine.Internal
noncomputable def saidP(p:Program):Bool:=OpenLaw.wellSaid { prog:=p,name:=Str.ofString "law",about:=[Str.ofString "SequenceMatcher",Str.ofString "get_opcodes"],foot:=9,most:=some 63,bound:=none,writes:=false }
theorem saidP_self:saidP=saidP:=rfl
end Mine.Internal
name_quick saidQ for Mine.Internal.saidP by Mine.Internal.saidP_self
theorem Mine.Internal.said_is:PySem.W.Fast.saidQ (Mine.Internal.pwG Mine.Internal.docL)=true:=by kernel_rfl
theorem Mine.Internal.said:OpenLaw.wellSaid PySem.Challenge.rw_pd0205_01=true:=by
 have h:=Mine.Internal.said_is;rw[← PySem.W.Fast.saidQ_eq,← Mine.Internal.pw_eq] at h;exact h
theorem Mine.Internal.run_is(w:World)(os:OsState):PySem.W.Fast.bigLQ Mine.Internal.tb2 (Mine.Internal.bootTree w.params) (boot_heap w.params) (Mine.Internal.pwG Mine.Internal.docL) (Mine.Internal.mkG Mine.Internal.docL w.params) w os=PySem.W.Fast.bigRQ (Mine.Internal.pwG Mine.Internal.docL) (Mine.Internal.mkG Mine.Internal.docL w.params) os:=by kernel_rfl
namespace Mine.Internal
theorem MO:drecsOf (Ce PW)=[]:=by kernel_rfl
theorem MH{T:BT}{l:List (Addr×Obj)}(h:GW T l=l)(q:Addr×Obj)(hq:q∈l):T.get q.1=some q.2:=by
 induction l with
 |nil=>exact absurd hq List.not_mem_nil
 |cons p r ih=>
  unfold GW at h
  cases e:T.get p.1 with
  |none=>rw[e] at h;cases h
  |some o=>
   rw[e] at h;have h:=List.cons.inj h;rcases List.mem_cons.mp hq with rfl | hq
   ·exact e.trans (congrArg (λz=>some z.2) h.1)
   ·exact ih h.2 hq
theorem Kw{l:List (Addr×Obj)}(h:Gm l=true)(q:Addr×Obj)(hq:q∈l):q.1<539∧q.2.isFreed=false:=by
 induction l with
 |nil=>exact absurd hq List.not_mem_nil
 |cons p r ih=>
  have h:=Bool.and_eq_true_iff.mp h;have h1:=Bool.and_eq_true_iff.mp h.1;rcases List.mem_cons.mp hq with rfl | hq
  ·exact⟨Nat.le_of_ble_eq_true h1.1,Bool.not_eq_true' _▸h1.2⟩
  ·exact ih h.2 hq
theorem Qe{o:Obj}(h:o.isFreed=false):alive o=some o:=by
 obtain⟨c,d,dt,sl⟩:=o;cases dt<;>first | rfl | cases h
theorem UC{T:BT}{n:Nat}{life:Life}{l:List (Addr×Obj)}(hn:n=539)(g:GW T l=l)(a:Gm l=true):(l.map (·.1)).map (absHeap T n life).get?=l.map λp=>some p.2:=by
 subst hn;rw[List.map_map];refine List.map_congr_left λp hp=>?_;have h1:=MH g p hp;have h2:=Kw a p hp;show(absHeap T 539 life).get? p.1=some p.2;rw[abs_get h2.1 h1,Qe h2.2]
theorem VF(w:World)(os:OsState):bigL tb2 (bootTree w.params) (boot_heap w.params) PW (hd0.heap_1 w.params) w os=bigR PW (hd0.heap_1 w.params) os:=by
 have h:=run_is w os;rw[← PySem.W.Fast.bigLQ_eq,← PySem.W.Fast.bigRQ_eq,← Wr,← pw_eq] at h;exact h
theorem Nb(w:World):((boot_heap w.params).isNs mainGlobals&&(Array.mk []:Array GenState).size==0,(boot_heap w.params).objs.size,(boot_heap w.params).nsMap mainGlobals "__annotations__")=(true,11,some (.ref 6)):=by kernel_rfl
theorem QQ:∀w:World,(fencedOpening treeTable PW w 8656).map (λs=>(s.heap,s.gens,s.drawn,s.toks))=some (boot_heap w.params,Array.mk [],boot_drawn,boot_toks):=
 boot_open (by kernel_rfl) (by kernel_rfl) (λs=>by kernel_rfl)
theorem Uf{w:World}{os:OsState}{S:Shared}(r:topRun treeTable PW w 11 (some (.ref 6)) 8656 ⟨boot_heap w.params,Array.mk [],boot_drawn,boot_toks,os⟩ (topStub PW)=some S)(v:KY (boot_heap w.params) PW S=true) :
  topFrom treeTable PW w 8656 ⟨boot_heap w.params,Array.mk [],boot_drawn,boot_toks,os⟩=some S:=by
 obtain⟨z1,z2,z3⟩:_∧_∧_:=by simpa only [Prod.mk.injEq] using Nb w
 unfold topFrom;dsimp only;rw[z1,z2,z3,r];show(match KY (boot_heap w.params) PW S with | true=>_ | false=>_)=_;rw[v]
theorem U1{w:World}{os:OsState}{sT:SharedT}(hr:U3 tb2 (bootTree w.params) (boot_heap w.params) PW w os=some sT):topRun treeTable PW w 11 (some (.ref 6)) 8656 ⟨boot_heap w.params,Array.mk [],boot_drawn,boot_toks,os⟩ (topStub PW)=some sT.abs:=by
 have r:topRun tb2 PW w 11 (some (.ref 6)) 4300 (PU (bootTree w.params) (boot_heap w.params) os).abs (topStub PW)=some sT.abs:=LO hr;rw[Uk,Nc] at r;exact topRun_mono 4356 4300 _ _ _ r
theorem QD{S:Shared}(v8:seen ((recsOf (Ce PW)).map (·.name)) (ownsOf (Ce PW)) [] { S with gens:=#[] }=expectedOf (Ce PW))(v9:S.heap.bltView=bltViewBooted)(v4:OS PW S=true)(v5:tabsOk (Ce PW) S=true)(K1:plainSeenE (Ce PW) (looseW (Ce PW) AR) S=plainGoodE (Ce PW) (looseW (Ce PW) AR))(ZC:plainSeenD (Ce PW) AR S=plainGoodD (Ce PW) AR)(ZB:wideSeen (Ce PW) S=wideGood (Ce PW))(ZA:clsSeenW (Ce PW) AR S=clsGoodW (Ce PW) AR) :
  openSeen (Ce PW) AR (importedModules PW.main.body) (K0 PW) true S=openGood (Ce PW) AR:=by
 have v6:pinSeenD (Ce PW) (drecsOf (Ce PW)) S=pinGoodD (drecsOf (Ce PW)):=by rw[MO];rfl
 exact Prod.ext v8 (Prod.ext v9 (Prod.ext v4 (Prod.ext v5 (Prod.ext v6 (Prod.ext K1 (Prod.ext ZC (Prod.ext ZB ZA)))))))
theorem Oh{w:World}{os:OsState}:∃sT,U3 tb2 (bootTree w.params) (boot_heap w.params) PW w os=some sT∧((sT.os,sT.n,KY (boot_heap w.params) PW sT.abs,OS PW sT.abs,tabsOk (Ce PW) sT.abs,Gm (hd0.heap_1 w.params)),GW sT.tree (hd0.heap_1 w.params),seen ((recsOf (Ce PW)).map (·.name)) (ownsOf (Ce PW)) [] { sT.abs with gens:=#[] },sT.abs.heap.bltView,plainSeenE (Ce PW) (looseW (Ce PW) AR) sT.abs,plainSeenD (Ce PW) AR sT.abs,wideSeen (Ce PW) sT.abs,clsSeenW (Ce PW) AR sT.abs) =
  ((os,539,true,true,true,true),hd0.heap_1 w.params,expectedOf (Ce PW),bltViewBooted,plainGoodE (Ce PW) (looseW (Ce PW) AR),plainGoodD (Ce PW) AR,wideGood (Ce PW),clsGoodW (Ce PW) AR):=by
 have h:=VF w os;unfold bigL bigR at h;exact Option.map_eq_some_iff.mp h
theorem RP{p q:Program}{loose mods:List Str}{Xt:Shared→Bool}{α:Type}{Yf:Shared→α}{y:α}{N:Nat}{g0:Bool}{w:World}{s₀ S:Shared}{G:_}(eo:fencedOpening treeTable p w N=some s₀)(t:topFrom treeTable p w N s₀=some S)(sn:openSeen q loose mods Xt g0 S=G)(ob:Yf S=y):(openEnds treeTable p w N).map (λs=>(openSeen q loose mods Xt g0 s,Yf s))=some (G,y):=by
 unfold openEnds;rw[eo,Option.bind_some,t,Option.map_some,sn,ob]
theorem Rt(as:List Addr)(e:∀P,as=(hd0.heap_1 P).map (·.1)):LeftO PW (Ce PW) AR (K0 PW) (Hook.obs (kHook hd0.heap_1 as e)) (Hook.val (kHook hd0.heap_1 as e)) 8656 true:=λw=>by
 obtain⟨⟨h,gs,d,k,os⟩,eo,e'⟩:=Option.map_eq_some_iff.mp (QQ w);obtain⟨rfl,rfl,rfl,rfl⟩:h=boot_heap w.params∧gs=Array.mk []∧d=boot_drawn∧k=boot_toks:=by simpa using e'
 obtain⟨sT,hr,hv⟩:=Oh (w:=w) (os:=os);obtain⟨v1,hv⟩:=Prod.mk.inj hv;obtain⟨v7,hv⟩:=Prod.mk.inj hv;obtain⟨v8,hv⟩:=Prod.mk.inj hv;obtain⟨v9,hv⟩:=Prod.mk.inj hv;obtain⟨K1,hv⟩:=Prod.mk.inj hv;obtain⟨ZC,hv⟩:=Prod.mk.inj hv;obtain⟨ZB,ZA⟩:=Prod.mk.inj hv;obtain⟨v0,v1⟩:=Prod.mk.inj v1;obtain⟨v2,v1⟩:=Prod.mk.inj v1;obtain⟨v3,v1⟩:=Prod.mk.inj v1;obtain⟨v4,v1⟩:=Prod.mk.inj v1;obtain⟨v5,v6⟩:=Prod.mk.inj v1;have t:=Uf (U1 hr) v3;have sn:=QD v8 v9 v4 v5 K1 ZC ZB ZA;have ob:as.map sT.abs.heap.get?=(hd0.heap_1 w.params).map λp=>some p.2:=by
  rw[e w.params];exact UC v2 v7 v6
 exact RP eo t sn ob
end Mine.Internal
end
section
namespace Mine.Internal
noncomputable def O8:List Addr:=by
 refine(?k:(∀P,(hd0.heap_1 P).map (·.1)=?q)→List Addr) ?p
 case p=>
  intro P;delta hd0.heap_1;simp only[List.map_cons,List.map_nil];exact rfl
 case k=>exact λ_=>?q
theorem Fq:∀P,O8=(hd0.heap_1 P).map (·.1):=λ_=>by kernel_rfl
theorem pinned(h:∀{q:Program} {loose:List Str} {XP:(Str→Option Value)→Heap→Prop} {d:DefRec} {kwd:List (Str×Expr)} {as:List Addr} {e:∀P,as=(hd0.heap_1 P).map (·.1)},d.name=Str.ofString "law" →
  WalkO q loose XP (kHook hd0.heap_1 as e).says (OpenLaw.row PySem.Challenge.rw_pd0205_01).toRowW d kwd λf vs=>PySem.call f vs):PySem.Challenge.rw_pd0205_01.Holds:=
 holds_law said λk1=>PySem.W.holds_open (r:=OpenLaw.row PySem.Challenge.rw_pd0205_01) (q:=Ce PW) (loose:=AR) (Xt:=K0 PW) (XP:=XL (Ce PW) []) (Yf:=Hook.obs (kHook hd0.heap_1 O8 Fq)) (Ya:=Hook.val (kHook hd0.heap_1 O8 Fq)) (YP:=Hook.says (kHook hd0.heap_1 O8 Fq)) (N:=8656) (Rt O8 Fq)
  (Hook.of _) (Hook.keeps _) (λs e=>xl_of s (Bool.and_eq_true_iff.mp e).1) XL.keeps (by rfl) (by rfl) (by rfl) (λs e=>recFacts_of (Bool.and_eq_true_iff.mp e).2) (by rfl) k1 (by decide +kernel) ⟨rfl,rfl,rfl,rfl,rfl,by decide +kernel⟩ (by w_witness2) (h rfl)
end Mine.Internal
end
namespace Mine.Internal
section
set_option tactic.hygienic true
abbrev Cj:=Int.Internal.Linear.Expr
noncomputable def eF{α:Type}(num:Int→α)(var:Nat→α)(add sub:α→α→α)(neg:α→α)(mul:Int→α→α)(e:Cj):α:=
 Int.Internal.Linear.Expr.rec (motive:=λz_=>α) num var (λz_ z_=>add) (λz_ z_=>sub) (λz_=>neg) (λk z_=>mul k) (λz_ k a=>mul k a) e
noncomputable def eD(w:Nat→Int):Cj→Int:=eF (λk=>k) w (· + ·) (· - ·) (- ·) (· * ·)
noncomputable def eC(i:Nat):Cj→Int:=eF (λz_=>0) (λj=>cond (Nat.beq j i) 1 0) (· + ·) (· - ·) (- ·) (· * ·)
noncomputable def eK:Cj→Int:=eF (λk=>k) (λz_=>0) (· + ·) (· - ·) (- ·) (· * ·)
noncomputable def eU:Cj→Bool:=eF (λz_=>true) (λj=>Nat.blt j 16) and and id λz_=>id
noncomputable def eP:Cj→Bool:=eF (λk=>decide (0≤k)) (λj=>Nat.blt j 8) and (λz_ z_=>false) (λz_=>false) λk a=>and (decide (0≤k)) a
noncomputable def sm(f w:Nat→Int)(n:Nat):Int:=Nat.rec 0 (λi s=>s+f i*w i) n
section
theorem ND:∀n,sm (λi=>f i+g i) w n=sm f w n+sm g w n:=by
 intro n
 induction n with
 |zero=>exact rfl
 |succ n ih=>
  show sm _ w n+(f n+g n)*w n=sm f w n+f n*w n+(sm g w n+g n*w n);rw[ih,Int.add_mul];lia
theorem NB:∀n,sm (λi=>k*f i) w n=k*sm f w n:=by
 intro n
 induction n with
 |zero=>exact(Int.mul_zero k).symm
 |succ n ih=>
  show sm _ w n+k*f n*w n=k*(sm f w n+f n*w n);rw[ih,Int.mul_add,Int.mul_assoc]
theorem N9:∀n,sm (λi=>-f i) w n = -sm f w n:=by
 intro n
 induction n with
 |zero=>exact rfl
 |succ n ih=>
  show sm _ w n + -f n*w n = -(sm f w n+f n*w n);rw[ih,Int.neg_mul];lia
theorem Q5:∀n,sm (λz_=>0) w n=0:=by
 intro n
 induction n with
 |zero=>exact rfl
 |succ n ih=>
  show sm _ w n+0*w n=0;rw[ih,Int.zero_mul];rfl
theorem Uq:∀n,sm (λi=>cond (Nat.beq j i) 1 0) w n=if j<n then w j else 0:=by
 intro n
 induction n with
 |zero=>exact rfl
 |succ n ih=>
  show sm _ w n+cond (Nat.beq j n) 1 0*w n=_;rw[ih];by_cases h:j=n
  ·subst h;rw[Nat.beq_refl];simp
  ·rw[show Nat.beq j n=false from (by rw[Bool.eq_false_iff];exact λe=>h (Nat.eq_of_beq_eq_true e))];by_cases h2:j<n
   ·rw[if_pos h2,if_pos (Nat.lt_succ_of_lt h2)];simp
   ·rw[if_neg h2,if_neg (by lia)];simp
theorem Ze(h:eU e=true):eD w e=eK e+sm (λi=>eC i e) w 16:=by
 induction e with
 |num k=>show k=k+sm (λz_=>0) w 16;rw[Q5];lia
 |var j=>show w j=0+sm (λi=>cond (Nat.beq j i) 1 0) w 16;rw[Uq,if_pos (Nat.blt_eq.mp h)];lia
 |add a b i j=>
  replace h:=Bool.and_eq_true_iff.mp h;show eD w a+eD w b=eK a+eK b+sm (λi=>eC i a+eC i b) w 16;rw[ND,i h.1,j h.2];lia
 |sub a b i j=>
  replace h:=Bool.and_eq_true_iff.mp h;show eD w a-eD w b=eK a-eK b+sm (λi=>eC i a + -eC i b) w 16;rw[ND,N9,i h.1,j h.2];lia
 |neg a i=>
  show -eD w a = -eK a+sm (λi=>-eC i a) w 16;rw[N9,i h];lia
 |mulL k a i=>
  show k*eD w a=k*eK a+sm (λi=>k*eC i a) w 16;rw[NB,i h,Int.mul_add]
 |mulR a k i=>
  show k*eD w a=k*eK a+sm (λi=>k*eC i a) w 16;rw[NB,i h,Int.mul_add]
theorem Pw(hw:∀i,i<8→0≤w i)(h:eP e=true):0≤eD w e:=by
 induction e with
 |num k=>exact of_decide_eq_true h
 |var j=>exact hw j (Nat.blt_eq.mp h)
 |add a b i j=>replace h:=Bool.and_eq_true_iff.mp h;exact Int.add_nonneg (i h.1) (j h.2)
 |mulL k a i=>replace h:=Bool.and_eq_true_iff.mp h;exact Int.mul_nonneg (of_decide_eq_true h.1) (i h.2)
 |mulR a k i=>replace h:=Bool.and_eq_true_iff.mp h;exact Int.mul_nonneg (of_decide_eq_true h.1) (i h.2)
 |_=>exact absurd h Bool.false_ne_true
noncomputable def eO(e:Cj)(n:Nat):Bool:=Nat.rec (decide (0≤eK e)) (λi b=>b&&cond (Nat.blt i 8) (decide (0≤eC i e)) (decide (eC i e=0))) n
theorem Zd(hw:∀i,i<8→0≤w i):∀n,eO e n=true→0≤eK e+sm (λi=>eC i e) w n:=by
 intro n
 induction n with
 |zero=>
  intro h;show 0≤eK e+0;rw[Int.add_zero];exact of_decide_eq_true h
 |succ n ih=>
  intro h;have h:(eO e n&&cond (Nat.blt n 8) (decide (0≤eC n e)) (decide (eC n e=0)))=true:=h;rw[Bool.and_eq_true] at h;show 0≤eK e+(sm _ w n+eC n e*w n);have h1:=ih h.1;have:0≤eC n e*w n:=by
   cases h3:Nat.blt n 8 with
   |true=>rw[h3] at h;exact Int.mul_nonneg (of_decide_eq_true h.2) (hw n (Nat.blt_eq.mp h3))
   |false=>rw[h3] at h;rw[of_decide_eq_true h.2,Int.zero_mul];exact Int.le_refl 0
  lia
end
noncomputable def wc(d:Nat→Nat)(z:Nat→Int)(i:Nat):Int:=cond (Nat.blt i 8) ((d i:Nat):Int) (z (i-8))
theorem Jv(i:Nat)(h:i<8):0≤wc d z i:=by
 unfold wc;rw[Nat.blt_eq.mpr h];exact Int.natCast_nonneg _
abbrev HY:=Nat×Nat×Cj×Cj
noncomputable def hQ(o:Nat)(le eq:Prop):Prop:=match o with
 |0=>le
 |1=>eq
 |2=>eq
 |_=>¬le
noncomputable def hP(k:Nat)(a b:Int):Prop:=Bool.rec (hQ (k-4) (a≤b) (a=b)) (hQ k (a.toNat≤b.toNat) (a.toNat=b.toNat)) (Nat.blt k 4)
noncomputable def hF(o:Nat)(l r:Cj):Cj:=match o with
 |0=>.sub r l
 |1=>.sub r l
 |2=>.sub l r
 |_=>.sub (.sub l r) (.num 1)
noncomputable def hE(k:Nat)(l r:Cj):Cj:=hF (cond (Nat.blt k 4) k (k-4)) l r
noncomputable def hI(w:Nat→Int)(G:Prop)(t:List HY):Prop:=List.rec G (λh z_ P=>hP h.1 (eD w h.2.2.1) (eD w h.2.2.2)→P) t
noncomputable def hS(t:List HY):Cj:=List.rec (.num 0) (λh z_ e=>.add e (.mulL (h.2.1:Int) (hE h.1 h.2.2.1 h.2.2.2))) t
noncomputable def hN(t:List HY):Bool:=List.rec true (λh z_ b=>(Nat.blt 3 h.1||(eP h.2.2.1&&eP h.2.2.2))&&b) t
theorem TC(h1:le→eD w l≤eD w r)(h2:eq→eD w l=eD w r)(h3:¬le→eD w r<eD w l)(o:Nat)(h:hQ o le eq):0≤eD w (hF o l r):=by
 rcases o with _ | _ | _ | o
 ·exact Int.sub_nonneg_of_le (h1 h)
 ·exact Int.sub_nonneg_of_le (Int.le_of_eq (h2 h))
 ·exact Int.sub_nonneg_of_le (Int.le_of_eq (h2 h).symm)
 ·exact Int.sub_nonneg_of_le (Int.le_sub_left_of_add_le (h3 h))
theorem N0{a b:Int}(ha:0≤a)(hb:0≤b)(h:a.toNat≤b.toNat):a≤b:=Int.toNat_of_nonneg ha▸Int.toNat_of_nonneg hb▸Int.ofNat_le.mpr h
theorem YS{w:Nat→Int}(hw:∀i,i<8→0≤w i){k:Nat}{l r:Cj}(n:(Nat.blt 3 k||(eP l&&eP r))=true)(h:hP k (eD w l) (eD w r)):0≤eD w (hE k l r):=by
 unfold hE;unfold hP at h
 cases e:Nat.blt k 4 with
 |false=>rw[e] at h;exact TC id id Int.lt_of_not_ge _ h
 |true=>
  rw[e] at h;rw[show Nat.blt 3 k=false from Bool.eq_false_iff.mpr λf=>absurd (Nat.blt_eq.mp f) (Nat.not_lt.mpr (Nat.le_of_lt_succ (Nat.blt_eq.mp e))),Bool.false_or,Bool.and_eq_true] at n;have a:=Pw hw n.1;have b:=Pw hw n.2;exact TC (N0 a b) (λq=>Int.le_antisymm (N0 a b (Nat.le_of_eq q)) (N0 b a (Nat.le_of_eq q.symm))) (λq=>Int.lt_of_not_ge λf=>q (Int.toNat_le_toNat f)) _ h
theorem YR(hw:∀i,i<8→0≤w i):hN t=true→(0≤eD w (hS t)→G)→hI w G t:=by
 induction t with
 |nil=>exact λz_ g=>g (Int.le_refl 0)
 |cons q t ih=>
  intro n g h;have n:=Bool.and_eq_true_iff.mp n;exact ih n.2 λe=>g (Int.add_nonneg e (Int.mul_nonneg (Int.natCast_nonneg q.2.1) (YS hw n.1 h)))
noncomputable def hC(x:Cj)(t:List HY):Bool:=hN t&&(eU (.sub x (hS t))&&eO (.sub x (hS t)) 16)
theorem Pl(hw:∀i,i<8→0≤w i)(h:hC x t=true)(g:0≤eD w x→G):hI w G t:=by
 unfold hC at h;rw[Bool.and_eq_true,Bool.and_eq_true] at h;refine YR hw h.1 λe=>g ?_;have h1:=Zd hw 16 h.2.2;rw[← Ze h.2.1] at h1;have h1:0≤eD w x-eD w (hS t):=h1;lia
theorem aN(L R:Cj)(t:List HY)(h:hC (.sub R L) t=true)(d:Nat→Nat)(z:Nat→Int):hI (wc d z) ((eD (wc d z) L).toNat≤(eD (wc d z) R).toNat) t:=
 Pl Jv h λe=>Int.toNat_le_toNat (Int.le_of_sub_nonneg e)
theorem aZ(L R:Cj)(t:List HY)(h:hC (.sub R L) t=true)(d:Nat→Nat)(z:Nat→Int):hI (wc d z) (eD (wc d z) L≤eD (wc d z) R) t:=
 Pl Jv h Int.le_of_sub_nonneg
theorem aF(t:List HY)(h:hC (.num (-1)) t=true)(d:Nat→Nat)(z:Nat→Int):hI (wc d z) False t:=
 Pl Jv h λe=>absurd (show(0:Int) ≤ -1 from e) (by decide)
noncomputable def zv(i:Nat):Cj:=.var i
noncomputable def zn(k:Nat):Cj:=.num k
noncomputable def za(x y:Cj):Cj:=.add x y
noncomputable def zd(x y:Cj):Cj:=.sub x y
noncomputable def zm(k:Nat)(x:Cj):Cj:=.mulL k x
theorem sB(a b:Nat):a≤a-b+b:=Nat.le_add_of_sub_le (Nat.le_refl _)
section
noncomputable def xc(a:α)(f:Nat→α):Nat→α:=λi=>Nat.rec a (λi z_=>f i) i
noncomputable def Ae:Nat→Int:=λz_=>0
noncomputable def Av(a:α):Nat→α:=λz_=>a
noncomputable def Az(a b:α):Nat→α:=xc a (Av b)
noncomputable def AH(a b c:α):Nat→α:=xc a (Az b c)
noncomputable def Bh(a b c d:α):Nat→α:=xc a (AH b c d)
noncomputable def BJ(a b c d e:α):Nat→α:=xc a (Bh b c d e)
noncomputable def LD(a b c d e f:α):Nat→α:=xc a (BJ b c d e f)
noncomputable def Gv(a b c d e f g:α):Nat→α:=xc a (LD b c d e f g)
noncomputable def Qt(a b c d e f g h:α):Nat→α:=xc a (Gv b c d e f g h)
end
end
section
set_option backward.match.sparseCases true
set_option tactic.hygienic true
namespace Ar
noncomputable def v0:Cj:=.var 0
noncomputable def v1:Cj:=.var 1
noncomputable def v2:Cj:=.var 2
noncomputable def v3:Cj:=.var 3
noncomputable def v4:Cj:=.var 4
noncomputable def v5:Cj:=.var 5
noncomputable def v6:Cj:=.var 6
noncomputable def v7:Cj:=.var 7
noncomputable def v8:Cj:=.var 8
noncomputable def v9:Cj:=.var 9
noncomputable def K1:Cj:=.var 10
noncomputable def ZC:Cj:=.var 11
noncomputable def ZB:Cj:=.var 12
noncomputable def ZA:Cj:=.var 13
noncomputable def v14:Cj:=.var 14
noncomputable def v15:Cj:=.var 15
noncomputable def n(k:Nat):Cj:=.num k
noncomputable def p(x y:Cj):Cj:=.add x y
noncomputable def d(x y:Cj):Cj:=.sub x y
noncomputable def m(k:Nat)(x:Cj):Cj:=.mulL k x
noncomputable def i0(l r:Cj):HY:=(0,1,l,r)
noncomputable def i1(l r:Cj):HY:=(1,1,l,r)
noncomputable def i2(l r:Cj):HY:=(2,1,l,r)
noncomputable def i3(l r:Cj):HY:=(3,1,l,r)
noncomputable def i4(l r:Cj):HY:=(4,1,l,r)
noncomputable def i5(l r:Cj):HY:=(5,1,l,r)
noncomputable def i6(l r:Cj):HY:=(6,1,l,r)
noncomputable def i7(l r:Cj):HY:=(7,1,l,r)
end Ar
section
open Ar
theorem lq2(h:a=b+1)(hh:b+40<c):a+39<c:=aN (p (p v0 (n 39)) (n 1)) v1 [i1 v0 (p v2 (n 1)),i0 (p (p v2 (n 40)) (n 1)) v1] rfl (AH a c b) Ae h hh
theorem lq3(h:a=b+3)(hh:b+400<c):a+390<c:=aN (p (p v0 (n 390)) (n 1)) v1 [i1 v0 (p v2 (n 3)),i0 (p (p v2 (n 400)) (n 1)) v1] rfl (AH a c b) Ae h hh
theorem aC(h:a+b≤4):a+b<1000:=aN (p (p v0 v1) (n 1)) (n 1000) [i0 (p v0 v1) (n 4)] rfl (Az a b) Ae h
theorem lq7(h:a+b≤4):b-c≤100000:=aN v0 (n 100000) [i0 (p v1 v2) (n 4),i0 v0 v2] rfl (Bh (b-c) a b c) Ae h (Nat.sub_le b c)
theorem lq8(h:a+b≤4):b-c+(0+1)≤5:=aN (p v0 (p (n 0) (n 1))) (n 5) [i0 (p v1 v2) (n 4),i0 v0 v2] rfl (Bh (b-c) a b c) Ae h (Nat.sub_le b c)
theorem Wv(h:a+b≤4):b≤1000000:=aN v0 (n 1000000) [i0 (p v1 v0) (n 4)] rfl (Az b a) Ae h
theorem YG(h:a+(b+c)≤4):b≤1000:=aN v0 (n 1000) [i0 (p v1 (p v0 v2)) (n 4)] rfl (AH b a c) Ae h
theorem UW{a:Nat}:¬(↑a:Int)<0:=λs=>aF [i4 (p v0 (n 1)) (n 0)] rfl (Av a) Ae s
theorem aP{a b c d:Nat}(h:a<1000):b+(1001-(a+1)+0)+2000*(4-(c+(d+(0+1))))<b+(1001-a+0)+2000*(4-(c+(d+(0+1)))):=aN (p (p (p v0 (p v1 (n 0))) (m 2000 v2)) (n 1)) (p (p v0 (p v3 (n 0))) (m 2000 v2)) [i0 (n 1001) (p v3 v4),i1 (p v1 (p v4 (n 1))) (n 1001)] rfl (Gv b (1001-(a+1)) (4-(c+(d+(0+1)))) (1001-a) a c d) Ae (sB 1001 a) (Nat.sub_add_cancel (aN (p v4 (n 1)) (n 1001) [i0 (p v4 (n 1)) (n 1000)] rfl (Gv b (1001-(a+1)) (4-(c+(d+(0+1)))) (1001-a) a c d) Ae h))
theorem Rp(h:a<b)(hh:¬a+1<b):a+1=b:=Nat.le_antisymm (aN (p v0 (n 1)) v1 [i0 (p v0 (n 1)) v1] rfl (Az a b) Ae h) (aN v1 (p v0 (n 1)) [i3 (p (p v0 (n 1)) (n 1)) v1] rfl (Az a b) Ae hh)
theorem aO(h:a<b)(hh:¬a+1<b):b-1=a:=Nat.le_antisymm (aN v0 v1 [i3 (p (p v1 (n 1)) (n 1)) v2,i1 (p v0 (n 1)) v2] rfl (AH (b-1) a b) Ae hh (Nat.sub_add_cancel (aN (n 1) v2 [i0 (p v1 (n 1)) v2] rfl (AH (b-1) a b) Ae h))) (aN v1 v0 [i0 (p v1 (n 1)) v2,i0 v2 (p v0 (n 1))] rfl (AH (b-1) a b) Ae h (sB b 1))
theorem UV(h:¬a<b)(hh:a<b+1):a=b:=Nat.le_antisymm (aN v0 v1 [i0 (p v0 (n 1)) (p v1 (n 1))] rfl (Az a b) Ae hh) (aN v1 v0 [i3 (p v0 (n 1)) v1] rfl (Az a b) Ae h)
theorem UU(h:a<b+1)(hh:¬a<b):a=b:=Nat.le_antisymm (aN v0 v1 [i0 (p v0 (n 1)) (p v1 (n 1))] rfl (Az a b) Ae h) (aN v1 v0 [i3 (p v0 (n 1)) v1] rfl (Az a b) Ae hh)
theorem aM(h:a<b)(hh:b-a=0):False:=aF [i0 (p v0 (n 1)) v1,i1 v2 (n 0),i0 v1 (p v2 v0)] rfl (AH a b (b-a)) Ae h hh (sB b a)
theorem aL(h:¬a=0):b+(a-1)+1=b+a:=(Nat.lt_or_gt_of_ne h).elim (λs=>Nat.le_antisymm (aN (p (p v0 v1) (n 1)) (p v0 v2) [i0 (p v2 (n 1)) (n 0),i0 v1 v2] rfl (AH b (a-1) a) Ae s (Nat.sub_le a 1)) (aN (p v0 v2) (p (p v0 v1) (n 1)) [i0 (p v2 (n 1)) (n 0)] rfl (AH b (a-1) a) Ae s)) λs=>Nat.le_antisymm (aN (p (p v0 v1) (n 1)) (p v0 v2) [i1 (p v1 (n 1)) v2] rfl (AH b (a-1) a) Ae (Nat.sub_add_cancel (aN (n 1) v2 [i0 (p (n 0) (n 1)) v2] rfl (AH b (a-1) a) Ae s))) (aN (p v0 v2) (p (p v0 v1) (n 1)) [i0 v2 (p v1 (n 1))] rfl (AH b (a-1) a) Ae (sB a 1))
theorem lq22(h:a=b+1)(hh:b+20<c):a+19<c:=aN (p (p v0 (n 19)) (n 1)) v1 [i1 v0 (p v2 (n 1)),i0 (p (p v2 (n 20)) (n 1)) v1] rfl (AH a c b) Ae h hh
theorem lq23(h:a=b+3)(hh:b+200<c):a+190<c:=aN (p (p v0 (n 190)) (n 1)) v1 [i1 v0 (p v2 (n 3)),i0 (p (p v2 (n 200)) (n 1)) v1] rfl (AH a c b) Ae h hh
theorem Cu(h:a<4):a≤1000000:=aN v0 (n 1000000) [i0 (p v0 (n 1)) (n 4)] rfl (Av a) Ae h
theorem UT{a:Nat}(h:(↑a:Int)<4):a<4:=aN (p v0 (n 1)) (n 4) [i4 (p v0 (n 1)) (n 4)] rfl (Av a) Ae h
theorem XH(h:a≤100)(hh:b<a):b+1≤1000:=aN (p v0 (n 1)) (n 1000) [i0 v1 (n 100),i0 (p v0 (n 1)) v1] rfl (Az b a) Ae h hh
theorem US(h:a≤1000∧b≤1000):a≤1000000:=aN v0 (n 1000000) [i0 v0 (n 1000)] rfl (Az a b) Ae h.1
theorem UR{a:Nat}(h:(↑a:Int)<3):a<3:=aN (p v0 (n 1)) (n 3) [i4 (p v0 (n 1)) (n 3)] rfl (Av a) Ae h
theorem Xx(h:a≤1000∧b≤1000):b≤1000000:=aN v0 (n 1000000) [i0 v0 (n 1000)] rfl (Az b a) Ae h.2
theorem aK(h:a≠0):¬a=0:=λs=>(Nat.lt_or_gt_of_ne h).elim (λs2=>aF [i0 (p v0 (n 1)) (n 0)] rfl (Av a) Ae s2) λs2=>aF [i1 v0 (n 0),i0 (p (n 0) (n 1)) v0] rfl (Av a) Ae s s2
theorem aJ{a b c d:Nat}:0≤a+1-b∧0≤c+1-d:=⟨aN (n 0) v0 [] rfl (Az ((a+1)-b) ((c+1)-d)) Ae,aN (n 0) v1 [] rfl (Az ((a+1)-b) ((c+1)-d)) Ae⟩
theorem aI(h:a≤b)(hh:c≤a-b):c=0:=Nat.le_antisymm (aN v0 (n 0) [i0 v0 v3,i1 v3 (n 0)] rfl (Bh c a b (a-b)) Ae hh (Nat.sub_eq_zero_of_le (aN v1 v2 [i0 v1 v2] rfl (Bh c a b (a-b)) Ae h))) (aN (n 0) v0 [] rfl (Bh c a b (a-b)) Ae)
theorem aH(h:a≤b-b):a=0:=Nat.le_antisymm (aN v0 (n 0) [i0 v0 v1,i1 (p v1 v2) v2] rfl (AH a (b-b) b) Ae h (Nat.sub_add_cancel (aN v2 v2 [] rfl (AH a (b-b) b) Ae))) (aN (n 0) v0 [] rfl (AH a (b-b) b) Ae)
theorem aG{a b:Nat}(h:¬a=b):¬(↑a:Int)=(↑b:Int):=λs=>(Nat.lt_or_gt_of_ne h).elim (λs2=>aF [i6 v0 v1,i0 (p v0 (n 1)) v1] rfl (Az a b) Ae s s2) λs2=>aF [i5 v0 v1,i0 (p v1 (n 1)) v0] rfl (Az a b) Ae s s2
theorem aE(h:a=0∨a=b):a≤b:=h.elim (λs=>aN v0 v1 [i1 v0 (n 0)] rfl (Az a b) Ae s) λs=>aN v0 v1 [i1 v0 v1] rfl (Az a b) Ae s
theorem aD{a b c:Nat}(h:a=0∨a=b)(hh:b≤c):(↑a:Int)-1≠(↑c:Int):=λs=>h.elim (λs2=>aF [i6 (zd v2 (n 1)) v1,i1 v2 (n 0)] rfl (AH b c a) Ae s s2) λs2=>aF [i0 v0 v1,i6 (zd v2 (n 1)) v1,i1 v2 v0] rfl (AH b c a) Ae hh s s2
theorem UQ{a b:Nat}(h:a≤b):¬b<a:=λs=>aF [i0 v0 v1,i0 (p v1 (n 1)) v0] rfl (Az a b) Ae h s
theorem aB{a b c:Nat}{d:Int}(h:a≤b)(hh:c≤b-a)(hi:d=(↑a:Int)+(↑(b-a):Int)):d-((↑c:Int)+1)+1=(↑(b-c):Int):=Int.le_antisymm (aZ (p (zd v8 (p v0 (n 1))) (n 1)) v1 [i5 v8 (p v2 v4),i0 v3 (p v1 v0),i1 (p v4 v2) v3] rfl (BJ c (b-c) a b (b-a)) (Av d) hi (sB b c) (Nat.sub_add_cancel (aN v2 v3 [i0 v2 v3] rfl (BJ c (b-c) a b (b-a)) (Av d) h))) (aZ v1 (p (zd v8 (p v0 (n 1))) (n 1)) [i6 v8 (p v2 v4),i0 v3 (p v4 v2),i1 (p v1 v0) v3] rfl (BJ c (b-c) a b (b-a)) (Av d) hi (sB b a) (Nat.sub_add_cancel (aN v0 v3 [i0 v0 v4,i0 v4 v3] rfl (BJ c (b-c) a b (b-a)) (Av d) hh (Nat.sub_le b a))))
theorem ZZ{a b c:Nat}(h:a≤b-c):(↑b:Int)-((↑a:Int)+1)+1=(↑(b-a):Int):=Int.le_antisymm (aZ (p (zd v0 (p v1 (n 1))) (n 1)) v2 [i0 v0 (p v2 v1)] rfl (BJ b a (b-a) (b-c) c) Ae (sB b a)) (aZ v2 (p (zd v0 (p v1 (n 1))) (n 1)) [i1 (p v2 v1) v0] rfl (BJ b a (b-a) (b-c) c) Ae (Nat.sub_add_cancel (aN v1 v0 [i0 v1 v3,i0 v3 v0] rfl (BJ b a (b-a) (b-c) c) Ae h (Nat.sub_le b c))))
theorem lq54(h:a=b+1)(hh:b+60<c):a+59<c:=aN (p (p v0 (n 59)) (n 1)) v1 [i1 v0 (p v2 (n 1)),i0 (p (p v2 (n 60)) (n 1)) v1] rfl (AH a c b) Ae h hh
theorem lq55(h:a=b+3)(hh:b+600<c):a+590<c:=aN (p (p v0 (n 590)) (n 1)) v1 [i1 v0 (p v2 (n 3)),i0 (p (p v2 (n 600)) (n 1)) v1] rfl (AH a c b) Ae h hh
theorem ZY{a b c:Nat}(h:a≤1000)(hh:b≤c)(hi:c≤a) : -1000000000≤(↑b:Int)∧(↑b:Int)≤1000000000 ∧ -1000000000≤(↑c:Int)∧(↑c:Int)≤1000000000:=⟨aZ (.neg (n 1000000000)) v0 [] rfl (AH b a c) Ae,⟨aZ v0 (n 1000000000) [i0 v1 (n 1000),i0 v0 v2,i0 v2 v1] rfl (AH b a c) Ae h hh hi,⟨aZ (.neg (n 1000000000)) v2 [] rfl (AH b a c) Ae,aZ v2 (n 1000000000) [i0 v1 (n 1000),i0 v2 v1] rfl (AH b a c) Ae h hi⟩⟩⟩
theorem ZX{a b c d:Nat}(h:a≤1000)(hh:b≤c)(hi:c<d)(hj:d≤a):b≤100000:=aN v0 (n 100000) [i0 v1 (n 1000),i0 v0 v2,i0 (p v2 (n 1)) v3,i0 v3 v1] rfl (Bh b a c d) Ae h hh hi hj
theorem Wy{a b:Nat}{c:Int}(h:c=(↑a:Int))(hh:b<a):c-1=(↑(a-1):Int):=Int.le_antisymm (aZ (zd v8 (n 1)) v0 [i5 v8 v1,i0 v1 (p v0 (n 1))] rfl (AH (a-1) a b) (Av c) h (sB a 1)) (aZ v0 (zd v8 (n 1)) [i6 v8 v1,i1 (p v0 (n 1)) v1] rfl (AH (a-1) a b) (Av c) h (Nat.sub_add_cancel (aN (n 1) v1 [i0 (p v2 (n 1)) v1] rfl (AH (a-1) a b) (Av c) hh)))
theorem Wx(h:a≤1000)(hh:b≤a)(hi:c<b):c≤1000000:=aN v0 (n 1000000) [i0 v1 (n 1000),i0 v2 v1,i0 (p v0 (n 1)) v2] rfl (AH c a b) Ae h hh hi
theorem UP{a b c d:Nat}(h:a+b≤c)(hh:d<a):a-1<c:=aN (p v0 (n 1)) v1 [i0 (p v2 v3) v1,i1 (p v0 (n 1)) v2] rfl (BJ (a-1) c a b d) Ae h (Nat.sub_add_cancel (aN (n 1) v2 [i0 (p v4 (n 1)) v2] rfl (BJ (a-1) c a b d) Ae hh))
theorem ZW{a b c d e f:Nat}(h:a≤b):a+1≤c-d+(e-f)+1+b:=aN (p v0 (n 1)) (p (p (p v1 v2) (n 1)) v3) [i0 v0 v3] rfl (Bh a (c-d) (e-f) b) Ae h
theorem ZV{a b c d e f g:Nat}(h:a≤b)(hh:c≤d)(hi:e+f<a∧g+f<c):e+f≤a∧a≤b∧g+f≤c∧c≤d:=⟨aN (p v0 v1) v2 [i0 (p (p v0 v1) (n 1)) v2] rfl (Gv e f a b c d g) Ae hi.1,⟨aN v2 v3 [i0 v2 v3] rfl (Gv e f a b c d g) Ae h,⟨aN (p v6 v1) v4 [i0 (p (p v6 v1) (n 1)) v4] rfl (Gv e f a b c d g) Ae hi.2,aN v4 v5 [i0 v4 v5] rfl (Gv e f a b c d g) Ae hh⟩⟩⟩
theorem ZU{a b c d e f:Nat}(h:a+(b-c+(d-e)+1)=f):a<f:=aN (p v0 (n 1)) v1 [i1 (p v0 (p (p v2 v3) (n 1))) v1] rfl (Bh a f (b-c) (d-e)) Ae h
theorem lq69(h:a=b+1)(hh:b+120<c):a+119<c:=aN (p (p v0 (n 119)) (n 1)) v1 [i1 v0 (p v2 (n 1)),i0 (p (p v2 (n 120)) (n 1)) v1] rfl (AH a c b) Ae h hh
theorem lq70(h:a=b+3)(hh:b+1200<c):a+1190<c:=aN (p (p v0 (n 1190)) (n 1)) v1 [i1 v0 (p v2 (n 3)),i0 (p (p v2 (n 1200)) (n 1)) v1] rfl (AH a c b) Ae h hh
theorem ZT{a b c d:Nat}(h:a<60)(hh:b≤c)(hi:d=b)(hj:c=a):d+(0+1)+(0+1)≤1000:=aN (p (p v0 (p (n 0) (n 1))) (p (n 0) (n 1))) (n 1000) [i0 (p v1 (n 1)) (n 60),i0 v2 v3,i1 v0 v2,i1 v3 v1] rfl (Bh d a b c) Ae h hh hi hj
theorem ZS{a b c d:Nat}(h:a<60)(hh:b≤c)(hi:d=b)(hj:c=a):d+(0+1)≤1000:=aN (p v0 (p (n 0) (n 1))) (n 1000) [i0 (p v1 (n 1)) (n 60),i0 v2 v3,i1 v0 v2,i1 v3 v1] rfl (Bh d a b c) Ae h hh hi hj
theorem Ww(h:a<b+1)(hh:a≠b):a<b:=(Nat.lt_or_gt_of_ne hh).elim (λs=>aN (p v0 (n 1)) v1 [i0 (p v0 (n 1)) v1] rfl (Az a b) Ae s) λs=>aN (p v0 (n 1)) v1 [(0,2,p v0 (n 1),p v1 (n 1)),i0 (p v1 (n 1)) v0] rfl (Az a b) Ae h s
theorem ZR(h:a-1≤b):a≤b+1:=aN v0 (p v1 (n 1)) [i0 v2 v1,i0 v0 (p v2 (n 1))] rfl (AH a b (a-1)) Ae h (sB a 1)
theorem ZQ(h:1≤a)(hh:b≤c*a):0+1+b≤c*a+a:=aN (p (p (n 0) (n 1)) v0) (p v1 v2) [i0 (n 1) v2,i0 v0 v1] rfl (AH b (c*a) a) Ae h hh
theorem ZP{a b c d:Nat}(h:a≤b*c)(hh:d≤c):d+a≤b*c+c:=aN (p v0 v1) (p v2 v3) [i0 v1 v2,i0 v0 v3] rfl (Bh d a (b*c) c) Ae h hh
theorem UO(h:a=4)(hh:b<4):b<a:=aN (p v0 (n 1)) v1 [i2 v1 (n 4),i0 (p v0 (n 1)) (n 4)] rfl (Az b a) Ae h hh
theorem UN(h:a<4)(hh:b=4):a<b:=aN (p v0 (n 1)) v1 [i0 (p v0 (n 1)) (n 4),i2 v1 (n 4)] rfl (Az a b) Ae h hh
theorem Wu(h:a<b+1)(hh:¬a=b):a<b:=(Nat.lt_or_gt_of_ne hh).elim (λs=>aN (p v0 (n 1)) v1 [i0 (p v0 (n 1)) v1] rfl (Az a b) Ae s) λs=>aN (p v0 (n 1)) v1 [(0,2,p v0 (n 1),p v1 (n 1)),i0 (p v1 (n 1)) v0] rfl (Az a b) Ae h s
theorem I7{a:Nat} : -(↑a:Int)≤0:=aZ (.neg v0) (n 0) [] rfl (Av a) Ae
theorem KX{a:Nat}(h:0<a):0<(↑a:Int):=aZ (p (n 0) (n 1)) v0 [i0 (p (n 0) (n 1)) v0] rfl (Av a) Ae h
theorem TA(h:a≤100):a≤1000000:=aN v0 (n 1000000) [i0 v0 (n 100)] rfl (Av a) Ae h
theorem T8(h:a≤9)(hh:b=a):b≤1000000:=aN v0 (n 1000000) [i0 v1 (n 9),i1 v0 v1] rfl (Az b a) Ae h hh
theorem KW{a b c:Nat}(h:a=b)(hh:c<a):c<b:=aN (p v0 (n 1)) v1 [i1 v2 v1,i0 (p v0 (n 1)) v2] rfl (AH c b a) Ae h hh
theorem YF(h:a≤2*b):2+a≤2*(b+1):=aN (p (n 2) v0) (m 2 (p v1 (n 1))) [i0 v0 (m 2 v1)] rfl (Az a b) Ae h
theorem YE(h:a≤2*b):1+a≤2*(b+1):=aN (p (n 1) v0) (m 2 (p v1 (n 1))) [i0 v0 (m 2 v1)] rfl (Az a b) Ae h
theorem YD(h:a≤b+c)(hh:b+c≤1000):a≤1000000:=aN v0 (n 1000000) [i0 v0 (p v1 v2),i0 (p v1 v2) (n 1000)] rfl (AH a b c) Ae h hh
theorem T7(h:a-b=0)(hh:b≤a):b=a:=Nat.le_antisymm (aN v0 v1 [i0 v0 v1] rfl (AH b a (a-b)) Ae hh) (aN v1 v0 [i1 v2 (n 0),i0 v1 (p v2 v0)] rfl (AH b a (a-b)) Ae h (sB a b))
theorem T5(h:a-b=c+1):a-(b+1)=c:=(Nat.sub_add_eq a b 1).trans (h▸rfl)
theorem bY(h:a=b+1)(hh:b+140<c):a+139<c:=aN (p (p v0 (n 139)) (n 1)) v1 [i1 v0 (p v2 (n 1)),i0 (p (p v2 (n 140)) (n 1)) v1] rfl (AH a c b) Ae h hh
theorem bX(h:a=b+3)(hh:b+1400<c):a+1390<c:=aN (p (p v0 (n 1390)) (n 1)) v1 [i1 v0 (p v2 (n 3)),i0 (p (p v2 (n 1400)) (n 1)) v1] rfl (AH a c b) Ae h hh
theorem YC(h:a<60)(hh:b=a)(hi:c≤b+2):c≤1000:=aN v0 (n 1000) [i0 (p v1 (n 1)) (n 60),i1 v2 v1,i0 v0 (p v2 (n 2))] rfl (AH c a b) Ae h hh hi
theorem T4(h:a≤2*b):a+1≤2*(b+1):=aN (p v0 (n 1)) (m 2 (p v1 (n 1))) [i0 v0 (m 2 v1)] rfl (Az a b) Ae h
theorem bW(h:a=b+1)(hh:b+30<c):a+29<c:=aN (p (p v0 (n 29)) (n 1)) v1 [i1 v0 (p v2 (n 1)),i0 (p (p v2 (n 30)) (n 1)) v1] rfl (AH a c b) Ae h hh
theorem bV(h:a=b+3)(hh:b+300<c):a+290<c:=aN (p (p v0 (n 290)) (n 1)) v1 [i1 v0 (p v2 (n 3)),i0 (p (p v2 (n 300)) (n 1)) v1] rfl (AH a c b) Ae h hh
theorem YB(h:1≤(a-1)/b):¬(↑1:Int)>(a-1)/b:=λs=>aF [i4 (n 1) v8,i4 (p v8 (n 1)) (n 1)] rfl (Av 0) (Av ((a-1)/b)) h s
theorem Tz(h:a≤1000)(hh:b<a)(hi:c≤b):c≤1000000:=aN v0 (n 1000000) [i0 v1 (n 1000),i0 (p v2 (n 1)) v1,i0 v0 v2] rfl (AH c a b) Ae h hh hi
theorem GQ{a b c:Nat}(h:a≤b):a≤b+c:=aN v0 (p v1 v2) [i0 v0 v1] rfl (AH a b c) Ae h
theorem Ty{a b c:Nat}(h:a≤b)(hh:c<a+(b-a)):c<b:=aN (p v0 (n 1)) v1 [i0 (p v0 (n 1)) (p v2 v3),i1 (p v3 v2) v1] rfl (Bh c b a (b-a)) Ae hh (Nat.sub_add_cancel (aN v2 v1 [i0 v2 v1] rfl (Bh c b a (b-a)) Ae h))
theorem Tx{a b c:Nat}(h:a<b):a<c+(b-c):=aN (p v0 (n 1)) (p v1 v2) [i0 (p v0 (n 1)) v3,i0 v3 (p v2 v1)] rfl (Bh a c (b-c) b) Ae h (sB b c)
theorem YA(h:a≤b+0-b):a=0:=Nat.le_antisymm (aN v0 (n 0) [i0 v0 v1,i1 (p v1 v2) (p v2 (n 0))] rfl (AH a ((b+0)-b) b) Ae h (Nat.sub_add_cancel (aN v2 (p v2 (n 0)) [] rfl (AH a ((b+0)-b) b) Ae))) (aN (n 0) v0 [] rfl (AH a ((b+0)-b) b) Ae)
theorem Y9{a b c d e:Nat}(h:a≤b-c∧a≤d-e):b-a+(a+1)=b+1:=Nat.le_antisymm (aN (p v0 (p v1 (n 1))) (p v2 (n 1)) [i1 (p v0 v1) v2] rfl (Qt (b-a) a b (b-c) (d-e) c d e) Ae (Nat.sub_add_cancel (aN v1 v2 [i0 v1 v3,i0 v3 v2] rfl (Qt (b-a) a b (b-c) (d-e) c d e) Ae h.1 (Nat.sub_le b c)))) (aN (p v2 (n 1)) (p v0 (p v1 (n 1))) [i0 v2 (p v0 v1)] rfl (Qt (b-a) a b (b-c) (d-e) c d e) Ae (sB b a))
theorem Y8{a b c d e:Nat}(h:a≤b-c∧a≤d-e):d-a+(a+1)=d+1:=Nat.le_antisymm (aN (p v0 (p v1 (n 1))) (p v2 (n 1)) [i1 (p v0 v1) v2] rfl (Qt (d-a) a d (b-c) (d-e) b c e) Ae (Nat.sub_add_cancel (aN v1 v2 [i0 v1 v4,i0 v4 v2] rfl (Qt (d-a) a d (b-c) (d-e) b c e) Ae h.2 (Nat.sub_le d e)))) (aN (p v2 (n 1)) (p v0 (p v1 (n 1))) [i0 v2 (p v0 v1)] rfl (Qt (d-a) a d (b-c) (d-e) b c e) Ae (sB d a))
theorem Y7{a b c d e:Nat}(h:a≤b)(hh:c≤b-a∧c≤d-e):a≤b-c:=aN v0 v1 [i0 v3 v4,i0 v2 (p v1 v3),i1 (p v4 v0) v2] rfl (Qt a (b-c) b c (b-a) (d-e) d e) Ae hh.1 (sB b c) (Nat.sub_add_cancel (aN v0 v2 [i0 v0 v2] rfl (Qt a (b-c) b c (b-a) (d-e) d e) Ae h))
theorem Tw(h:a<b)(hh:a-c+(c+1)=a+1):a-c+(c+1)≤b:=aN (p v0 (p v1 (n 1))) v2 [i0 (p v3 (n 1)) v2,i1 (p v0 (p v1 (n 1))) (p v3 (n 1))] rfl (Bh (a-c) c b a) Ae h hh
theorem Y6{a b c d e:Nat}(h:a≤b)(hh:c≤d-e∧c≤b-a):a≤b-c:=aN v0 v1 [i0 v3 v5,i0 v2 (p v1 v3),i1 (p v5 v0) v2] rfl (Qt a (b-c) b c (d-e) (b-a) d e) Ae hh.2 (sB b c) (Nat.sub_add_cancel (aN v0 v2 [i0 v0 v2] rfl (Qt a (b-c) b c (d-e) (b-a) d e) Ae h))
theorem Y5{a b:Nat}{c:Prop}(h:a+1<a+1∨a+1=a+1∧b+1<b+1):c:=(h.elim (λs=>aF [i0 (p (p v0 (n 1)) (n 1)) (p v0 (n 1))] rfl (Az a b) Ae s) λs=>aF [i0 (p (p v1 (n 1)) (n 1)) (p v1 (n 1))] rfl (Az a b) Ae s.2).elim
theorem Y4{a b c d:Nat}{e:Prop}(h:c+1<a+1∨c+1=a+1∧d+1<b+1)(hh:a<c):e:=(h.elim (λs=>aF [i0 (p v0 (n 1)) v1,i0 (p (p v1 (n 1)) (n 1)) (p v0 (n 1))] rfl (Bh a c d b) Ae hh s) λs=>aF [i0 (p v0 (n 1)) v1,i1 (p v1 (n 1)) (p v0 (n 1))] rfl (Bh a c d b) Ae hh s.1).elim
theorem Y1{a b c d:Nat}{e:Prop}(h:c+1<a+1∨c+1=a+1∧d+1<b+1)(hh:a=c∧b<d):e:=(h.elim (λs=>aF [i1 v0 v1,i0 (p (p v1 (n 1)) (n 1)) (p v0 (n 1))] rfl (Bh a c b d) Ae hh.1 s) λs=>aF [i0 (p v2 (n 1)) v3,i0 (p (p v3 (n 1)) (n 1)) (p v2 (n 1))] rfl (Bh a c b d) Ae hh.2 s.2).elim
theorem Tv(h:a<b):b=b-1+1:=Nat.le_antisymm (aN v0 (p v1 (n 1)) [i0 v0 (p v1 (n 1))] rfl (AH b (b-1) a) Ae (sB b 1)) (aN (p v1 (n 1)) v0 [i1 (p v1 (n 1)) v0] rfl (AH b (b-1) a) Ae (Nat.sub_add_cancel (aN (n 1) v0 [i0 (p v2 (n 1)) v0] rfl (AH b (b-1) a) Ae h)))
theorem Tu(h:a≤b+1)(hh:¬a=b+1):a≤b:=(Nat.lt_or_gt_of_ne hh).elim (λs=>aN v0 v1 [i0 (p v0 (n 1)) (p v1 (n 1))] rfl (Az a b) Ae s) λs=>aN v0 v1 [(0,2,v0,p v1 (n 1)),i0 (p (p v1 (n 1)) (n 1)) v0] rfl (Az a b) Ae h s
theorem Y0{a b c:Nat}(h:a<b):c+a-c<b:=aN (p v0 (n 1)) v1 [i0 (p v2 (n 1)) v1,i1 (p v0 v3) (p v3 v2)] rfl (Bh ((c+a)-c) b a c) Ae h (Nat.sub_add_cancel (aN v3 (p v3 v2) [] rfl (Bh ((c+a)-c) b a c) Ae))
theorem Yz{a b:Nat}:a+b-a=b:=Nat.le_antisymm (aN v0 v1 [i1 (p v0 v2) (p v2 v1)] rfl (AH ((a+b)-a) b a) Ae (Nat.sub_add_cancel (aN v2 (p v2 v1) [] rfl (AH ((a+b)-a) b a) Ae))) (aN v1 v0 [i0 (p v2 v1) (p v0 v2)] rfl (AH ((a+b)-a) b a) Ae (sB (a+b) a))
theorem Yy{a b:Nat}(h:¬a<b):a=b+(a-b):=Nat.le_antisymm (aN v0 (p v1 v2) [i0 v0 (p v2 v1)] rfl (AH a b (a-b)) Ae (sB a b)) (aN (p v1 v2) v0 [i1 (p v2 v1) v0] rfl (AH a b (a-b)) Ae (Nat.sub_add_cancel (aN v1 v0 [i3 (p v0 (n 1)) v1] rfl (AH a b (a-b)) Ae h)))
theorem Yx{a b:Nat}{c:Prop}(h:a-b≤0)(hh:b<a):c:=(aF [i0 v0 (n 0),i0 (p v1 (n 1)) v2,i0 v2 (p v0 v1)] rfl (AH (a-b) b a) Ae h hh (sB a b)).elim
theorem Yw(h:a-b≤c+1):a-(b+1)≤c:=(Nat.le_total (b+1) a).elim (λs=>aN v0 v1 [i0 v2 (p v1 (n 1)),i0 v3 (p v2 v4),i1 (p v0 (p v4 (n 1))) v3] rfl (BJ (a-(b+1)) c (a-b) a b) Ae h (sB a b) (Nat.sub_add_cancel (aN (p v4 (n 1)) v3 [i0 (p v4 (n 1)) v3] rfl (BJ (a-(b+1)) c (a-b) a b) Ae s))) λs=>aN v0 v1 [i1 v0 (n 0)] rfl (BJ (a-(b+1)) c (a-b) a b) Ae (Nat.sub_eq_zero_of_le (aN v3 (p v4 (n 1)) [i0 v3 (p v4 (n 1))] rfl (BJ (a-(b+1)) c (a-b) a b) Ae s))
theorem Yv(h:a≤b)(hh:¬b=a):a+1≤b:=(Nat.lt_or_gt_of_ne hh).elim (λs=>aN (p v0 (n 1)) v1 [(0,2,v0,v1),i0 (p v1 (n 1)) v0] rfl (Az a b) Ae h s) λs=>aN (p v0 (n 1)) v1 [i0 (p v0 (n 1)) v1] rfl (Az a b) Ae s
theorem Yu(h:a≤b)(hh:b<c):0<c-a:=aN (p (n 0) (n 1)) v0 [i0 v1 v2,i0 (p v2 (n 1)) v3,i0 v3 (p v0 v1)] rfl (Bh (c-a) a b c) Ae h hh (sB c a)
theorem Ts{a b c:Nat}(h:a≤b)(hh:b<c):a+(c-a)=c:=Nat.le_antisymm (aN (p v0 v1) v2 [i1 (p v1 v0) v2] rfl (Bh a (c-a) c b) Ae (Nat.sub_add_cancel (aN v0 v2 [i0 v0 v3,i0 (p v3 (n 1)) v2] rfl (Bh a (c-a) c b) Ae h hh))) (aN v2 (p v0 v1) [i0 v2 (p v1 v0)] rfl (Bh a (c-a) c b) Ae (sB c a))
theorem Yt(h:¬a≤b):b≤a-1:=aN v0 v1 [i3 v2 v0,i0 v2 (p v1 (n 1))] rfl (AH b (a-1) a) Ae h (sB a 1)
theorem Ys(h:a≤b):a-1≤b:=aN v0 v1 [i0 v2 v1,i0 v0 v2] rfl (AH (a-1) b a) Ae h (Nat.sub_le a 1)
theorem OQ(h:a<b):0<b:=aN (p (n 0) (n 1)) v0 [i0 (p v1 (n 1)) v0] rfl (Az b a) Ae h
theorem Yr(h:¬a≤b):b-1<a:=aN (p v0 (n 1)) v1 [i3 v1 v2,i0 v0 v2] rfl (AH (b-1) a b) Ae h (Nat.sub_le b 1)
theorem Yq{a b:Nat}{c:Prop}(h:a<b)(hh:¬a≤b-1):c:=(aF [i0 (p v0 (n 1)) v1,i3 v0 v2,i0 v1 (p v2 (n 1))] rfl (AH a b (b-1)) Ae h hh (sB b 1)).elim
theorem Yp(h:a<b-1):a<b:=aN (p v0 (n 1)) v1 [i0 (p v0 (n 1)) v2,i0 v2 v1] rfl (AH a b (b-1)) Ae h (Nat.sub_le b 1)
theorem Yo(h:0<a):a-1<a:=aN (p v0 (n 1)) v1 [i1 (p v0 (n 1)) v1] rfl (Az (a-1) a) Ae (Nat.sub_add_cancel (aN (n 1) v1 [i0 (p (n 0) (n 1)) v1] rfl (Az (a-1) a) Ae h))
theorem Yn(h:a≤b)(hh:0<c):a≤b+c-1:=aN v0 v1 [i0 v0 v2,i0 (p (n 0) (n 1)) v3,i0 (p v2 v3) (p v1 (n 1))] rfl (Bh a ((b+c)-1) b c) Ae h hh (sB (b+c) 1)
theorem Ym(h:a+b≤c)(hh:0<b):a+b-1<c:=aN (p v0 (n 1)) v1 [i0 (p v2 v3) v1,i1 (p v0 (n 1)) (p v2 v3)] rfl (Bh ((a+b)-1) c a b) Ae h (Nat.sub_add_cancel (aN (n 1) (p v2 v3) [i0 (p (n 0) (n 1)) v3] rfl (Bh ((a+b)-1) c a b) Ae hh))
theorem Yl(h:0<a)(hh:b≤c):b≤c+a-1:=aN v0 v1 [i0 (p (n 0) (n 1)) v2,i0 v0 v3,i0 (p v3 v2) (p v1 (n 1))] rfl (Bh b ((c+a)-1) a c) Ae h hh (sB (c+a) 1)
theorem Yk{a b c d:Nat}(h:0<a)(hh:b=c+a)(hi:b≤d):c+a-1<d:=aN (p v0 (n 1)) v1 [i2 v3 (p v4 v2),i0 v3 v1,i1 (p v0 (n 1)) (p v4 v2)] rfl (BJ ((c+a)-1) d a b c) Ae hh hi (Nat.sub_add_cancel (aN (n 1) (p v4 v2) [i0 (p (n 0) (n 1)) v2] rfl (BJ ((c+a)-1) d a b c) Ae h))
theorem Tr(h:0<a):b+a-1+1=b+a:=Nat.le_antisymm (aN (p v0 (n 1)) (p v1 v2) [i1 (p v0 (n 1)) (p v1 v2)] rfl (AH ((b+a)-1) b a) Ae (Nat.sub_add_cancel (aN (n 1) (p v1 v2) [i0 (p (n 0) (n 1)) v2] rfl (AH ((b+a)-1) b a) Ae h))) (aN (p v1 v2) (p v0 (n 1)) [i0 (p v1 v2) (p v0 (n 1))] rfl (AH ((b+a)-1) b a) Ae (sB (b+a) 1))
theorem Yj(h:0<a)(hh:b=c+(a-1)):c+a-1=b:=Nat.le_antisymm (aN v0 v1 [i2 v1 (p v3 v4),i0 v2 (p v4 (n 1)),i1 (p v0 (n 1)) (p v3 v2)] rfl (BJ ((c+a)-1) b a c (a-1)) Ae hh (sB a 1) (Nat.sub_add_cancel (aN (n 1) (p v3 v2) [i0 (p (n 0) (n 1)) v2] rfl (BJ ((c+a)-1) b a c (a-1)) Ae h))) (aN v1 v0 [i1 v1 (p v3 v4),i0 (p v3 v2) (p v0 (n 1)),i1 (p v4 (n 1)) v2] rfl (BJ ((c+a)-1) b a c (a-1)) Ae hh (sB (c+a) 1) (Nat.sub_add_cancel (aN (n 1) v2 [i0 (p (n 0) (n 1)) v2] rfl (BJ ((c+a)-1) b a c (a-1)) Ae h)))
theorem Yi(h:0<a):b+a-1=b+(a-1):=Nat.le_antisymm (aN v0 (p v1 v2) [i0 v3 (p v2 (n 1)),i1 (p v0 (n 1)) (p v1 v3)] rfl (Bh ((b+a)-1) b (a-1) a) Ae (sB a 1) (Nat.sub_add_cancel (aN (n 1) (p v1 v3) [i0 (p (n 0) (n 1)) v3] rfl (Bh ((b+a)-1) b (a-1) a) Ae h))) (aN (p v1 v2) v0 [i0 (p v1 v3) (p v0 (n 1)),i1 (p v2 (n 1)) v3] rfl (Bh ((b+a)-1) b (a-1) a) Ae (sB (b+a) 1) (Nat.sub_add_cancel (aN (n 1) v3 [i0 (p (n 0) (n 1)) v3] rfl (Bh ((b+a)-1) b (a-1) a) Ae h)))
theorem Tq(h:a<1):b+a=b:=Nat.le_antisymm (aN (p v0 v1) v0 [i0 (p v1 (n 1)) (n 1)] rfl (Az b a) Ae h) (aN v0 (p v0 v1) [] rfl (Az b a) Ae)
theorem Yh(h:¬a=0):a-1-b<a:=(Nat.lt_or_gt_of_ne h).elim (λs=>aN (p v0 (n 1)) v1 [i0 (p v1 (n 1)) (n 0),i0 v0 v2,i0 v2 v1] rfl (Bh ((a-1)-b) a (a-1) b) Ae s (Nat.sub_le (a-1) b) (Nat.sub_le a 1)) λs=>aN (p v0 (n 1)) v1 [i0 v0 v2,i1 (p v2 (n 1)) v1] rfl (Bh ((a-1)-b) a (a-1) b) Ae (Nat.sub_le (a-1) b) (Nat.sub_add_cancel (aN (n 1) v1 [i0 (p (n 0) (n 1)) v1] rfl (Bh ((a-1)-b) a (a-1) b) Ae s))
theorem Tp(h:a<b):c+b-1-(b-1-a)=c+a:=(Nat.le_total ((b-1)-a) ((c+b)-1)).elim (λs=>Nat.le_antisymm (aN v0 (p v1 v2) [i0 v6 (p v5 v2),i0 v3 (p v6 (n 1)),i1 (p v0 v5) v4,i1 (p v4 (n 1)) (p v1 v3)] rfl (Gv (((c+b)-1)-((b-1)-a)) c a b ((c+b)-1) ((b-1)-a) (b-1)) Ae (sB (b-1) a) (sB b 1) (Nat.sub_add_cancel (aN v5 v4 [i0 v5 v4] rfl (Gv (((c+b)-1)-((b-1)-a)) c a b ((c+b)-1) ((b-1)-a) (b-1)) Ae s)) (Nat.sub_add_cancel (aN (n 1) (p v1 v3) [i0 (p v2 (n 1)) v3] rfl (Gv (((c+b)-1)-((b-1)-a)) c a b ((c+b)-1) ((b-1)-a) (b-1)) Ae h))) (aN (p v1 v2) v0 [i0 v4 (p v0 v5),i0 (p v1 v3) (p v4 (n 1)),i1 (p v5 v2) v6,i1 (p v6 (n 1)) v3] rfl (Gv (((c+b)-1)-((b-1)-a)) c a b ((c+b)-1) ((b-1)-a) (b-1)) Ae (sB ((c+b)-1) ((b-1)-a)) (sB (c+b) 1) (Nat.sub_add_cancel (aN v2 v6 [i0 (p v2 (n 1)) v3,i0 v3 (p v6 (n 1))] rfl (Gv (((c+b)-1)-((b-1)-a)) c a b ((c+b)-1) ((b-1)-a) (b-1)) Ae h (sB b 1))) (Nat.sub_add_cancel (aN (n 1) v3 [i0 (p v2 (n 1)) v3] rfl (Gv (((c+b)-1)-((b-1)-a)) c a b ((c+b)-1) ((b-1)-a) (b-1)) Ae h)))) λs=>Nat.le_antisymm (aN v0 (p v1 v2) [i1 v0 (n 0)] rfl (Gv (((c+b)-1)-((b-1)-a)) c a b ((c+b)-1) ((b-1)-a) (b-1)) Ae (Nat.sub_eq_zero_of_le (aN v4 v5 [i0 v4 v5] rfl (Gv (((c+b)-1)-((b-1)-a)) c a b ((c+b)-1) ((b-1)-a) (b-1)) Ae s))) (aN (p v1 v2) v0 [i0 v4 v5,i0 (p v1 v3) (p v4 (n 1)),i1 (p v5 v2) v6,i1 (p v6 (n 1)) v3] rfl (Gv (((c+b)-1)-((b-1)-a)) c a b ((c+b)-1) ((b-1)-a) (b-1)) Ae s (sB (c+b) 1) (Nat.sub_add_cancel (aN v2 v6 [i0 (p v2 (n 1)) v3,i0 v3 (p v6 (n 1))] rfl (Gv (((c+b)-1)-((b-1)-a)) c a b ((c+b)-1) ((b-1)-a) (b-1)) Ae h (sB b 1))) (Nat.sub_add_cancel (aN (n 1) v3 [i0 (p v2 (n 1)) v3] rfl (Gv (((c+b)-1)-((b-1)-a)) c a b ((c+b)-1) ((b-1)-a) (b-1)) Ae h)))
theorem To{a b c d e:Nat}(h:a≤b)(hh:c+d≤a)(hi:e<d):c+e<b:=aN (p (p v0 v1) (n 1)) v2 [i0 v3 v2,i0 (p v0 v4) v3,i0 (p v1 (n 1)) v4] rfl (BJ c e b a d) Ae h hh hi
theorem Yg(h:a+b≤c)(hh:¬b=0):a<c:=(Nat.lt_or_gt_of_ne hh).elim (λs=>aN (p v0 (n 1)) v1 [i0 (p v0 v2) v1,i0 (p v2 (n 1)) (n 0)] rfl (AH a c b) Ae h s) λs=>aN (p v0 (n 1)) v1 [i0 (p v0 v2) v1,i0 (p (n 0) (n 1)) v2] rfl (AH a c b) Ae h s
theorem Ye{a b c d:Nat}(h:a<b+c)(hh:¬a+d≤b+c):b+c-a<d:=aN (p v0 (n 1)) v1 [i3 (p v2 v1) (p v3 v4),i1 (p v0 v2) (p v3 v4)] rfl (BJ ((b+c)-a) d a b c) Ae hh (Nat.sub_add_cancel (aN v2 (p v3 v4) [i0 (p v2 (n 1)) (p v3 v4)] rfl (BJ ((b+c)-a) d a b c) Ae h))
theorem Yd{a b c:Nat}(h:a<b+c):a+(b+c-a)=b+c:=Nat.le_antisymm (aN (p v0 v1) (p v2 v3) [i1 (p v1 v0) (p v2 v3)] rfl (Bh a ((b+c)-a) b c) Ae (Nat.sub_add_cancel (aN v0 (p v2 v3) [i0 (p v0 (n 1)) (p v2 v3)] rfl (Bh a ((b+c)-a) b c) Ae h))) (aN (p v2 v3) (p v0 v1) [i0 (p v2 v3) (p v1 v0)] rfl (Bh a ((b+c)-a) b c) Ae (sB (b+c) a))
theorem Yc{a b c d e f g:Nat}(h:a≤b)(hh:c≤d∧(a+e<b+d∨a+e=b+d∧f+e<g+d→c<d))(hi:e≤c)(hj:b+d≤a+e):a=b:=Nat.le_antisymm (aN v0 v1 [i0 v0 v1] rfl (BJ a b c d e) Ae h) (aN v1 v0 [i0 v2 v3,i0 v4 v2,i0 (p v1 v3) (p v0 v4)] rfl (BJ a b c d e) Ae hh.1 hi hj)
theorem Yb{a b c d e f g:Nat}(h:a≤b∧(c+d<e+b∨c+d=e+b∧f+d<g+b→a<b))(hh:d≤a)(hi:e+b≤c+d)(hj:c=e):d=b:=Nat.le_antisymm (aN v0 v1 [i0 v2 v1,i0 v0 v2] rfl (BJ d b a e c) Ae h.1 hh) (aN v1 v0 [i0 (p v3 v1) (p v4 v0),i1 v4 v3] rfl (BJ d b a e c) Ae hi hj)
theorem XZ(h:a<a+b)(hh:¬c+b≤a):a-1-c<b:=(Nat.le_total c (a-1)).elim (λs=>aN (p v0 (n 1)) v1 [i3 (p v3 v1) v2,i0 v4 v2,i1 (p v0 v3) v4] rfl (BJ ((a-1)-c) b a c (a-1)) Ae hh (Nat.sub_le a 1) (Nat.sub_add_cancel (aN v3 v4 [i0 v3 v4] rfl (BJ ((a-1)-c) b a c (a-1)) Ae s))) λs=>aN (p v0 (n 1)) v1 [i0 (p v2 (n 1)) (p v2 v1),i1 v0 (n 0)] rfl (BJ ((a-1)-c) b a c (a-1)) Ae h (Nat.sub_eq_zero_of_le (aN v4 v3 [i0 v4 v3] rfl (BJ ((a-1)-c) b a c (a-1)) Ae s))
theorem Tm(h:a<b):a+(b-1-a)=b-1:=Nat.le_antisymm (aN (p v0 v1) v2 [i1 (p v1 v0) v2] rfl (Bh a ((b-1)-a) (b-1) b) Ae (Nat.sub_add_cancel (aN v0 v2 [i0 (p v0 (n 1)) v3,i0 v3 (p v2 (n 1))] rfl (Bh a ((b-1)-a) (b-1) b) Ae h (sB b 1)))) (aN v2 (p v0 v1) [i0 v2 (p v1 v0)] rfl (Bh a ((b-1)-a) (b-1) b) Ae (sB (b-1) a))
theorem XY(h:a<b)(hh:a+c-1+1=a+c):a+c-1+1<b+c:=aN (p (p v0 (n 1)) (n 1)) (p v1 v2) [i0 (p v3 (n 1)) v1,i1 (p v0 (n 1)) (p v3 v2)] rfl (Bh ((a+c)-1) b c a) Ae h hh
theorem XX{a b:Nat}(h:a≤b):a+(b-a)=b:=Nat.le_antisymm (aN (p v0 v1) v2 [i1 (p v1 v0) v2] rfl (AH a (b-a) b) Ae (Nat.sub_add_cancel (aN v0 v2 [i0 v0 v2] rfl (AH a (b-a) b) Ae h))) (aN v2 (p v0 v1) [i0 v2 (p v1 v0)] rfl (AH a (b-a) b) Ae (sB b a))
theorem XW{a b c:Nat}(h:a≤b)(hh:b≤c):c-a=b-a+(c-b):=Nat.le_antisymm (aN v0 (p v1 v2) [i0 v4 (p v1 v3),i0 v5 (p v2 v4),i1 (p v0 v3) v5] rfl (LD (c-a) (b-a) (c-b) a b c) Ae (sB b a) (sB c b) (Nat.sub_add_cancel (aN v3 v5 [i0 v3 v4,i0 v4 v5] rfl (LD (c-a) (b-a) (c-b) a b c) Ae h hh))) (aN (p v1 v2) v0 [i0 v5 (p v0 v3),i1 (p v1 v3) v4,i1 (p v2 v4) v5] rfl (LD (c-a) (b-a) (c-b) a b c) Ae (sB c a) (Nat.sub_add_cancel (aN v3 v4 [i0 v3 v4] rfl (LD (c-a) (b-a) (c-b) a b c) Ae h)) (Nat.sub_add_cancel (aN v4 v5 [i0 v4 v5] rfl (LD (c-a) (b-a) (c-b) a b c) Ae hh)))
theorem KV:a+1-a=1:=Nat.le_antisymm (aN v0 (n 1) [i1 (p v0 v1) (p v1 (n 1))] rfl (Az ((a+1)-a) a) Ae (Nat.sub_add_cancel (aN v1 (p v1 (n 1)) [] rfl (Az ((a+1)-a) a) Ae))) (aN (n 1) v0 [i0 (p v1 (n 1)) (p v0 v1)] rfl (Az ((a+1)-a) a) Ae (sB (a+1) a))
theorem XV(h:0<a)(hh:b<c+a):b-1-c<a:=(Nat.le_total c (b-1)).elim (λs=>aN (p v0 (n 1)) v1 [i0 (p v2 (n 1)) (p v3 v1),i0 v4 v2,i1 (p v0 v3) v4] rfl (BJ ((b-1)-c) a b c (b-1)) Ae hh (Nat.sub_le b 1) (Nat.sub_add_cancel (aN v3 v4 [i0 v3 v4] rfl (BJ ((b-1)-c) a b c (b-1)) Ae s))) λs=>aN (p v0 (n 1)) v1 [i0 (p (n 0) (n 1)) v1,i1 v0 (n 0)] rfl (BJ ((b-1)-c) a b c (b-1)) Ae h (Nat.sub_eq_zero_of_le (aN v4 v3 [i0 v4 v3] rfl (BJ ((b-1)-c) a b c (b-1)) Ae s))
theorem XU(h:a+1≤b):a+(b-1-a)=b-1:=Nat.le_antisymm (aN (p v0 v1) v2 [i1 (p v1 v0) v2] rfl (Bh a ((b-1)-a) (b-1) b) Ae (Nat.sub_add_cancel (aN v0 v2 [i0 (p v0 (n 1)) v3,i0 v3 (p v2 (n 1))] rfl (Bh a ((b-1)-a) (b-1) b) Ae h (sB b 1)))) (aN v2 (p v0 v1) [i0 v2 (p v1 v0)] rfl (Bh a ((b-1)-a) (b-1) b) Ae (sB (b-1) a))
theorem Tl{a b:Nat}(h:a≤b)(hh:¬b=a):a<b:=(Nat.lt_or_gt_of_ne hh).elim (λs=>aN (p v0 (n 1)) v1 [(0,2,v0,v1),i0 (p v1 (n 1)) v0] rfl (Az a b) Ae h s) λs=>aN (p v0 (n 1)) v1 [i0 (p v0 (n 1)) v1] rfl (Az a b) Ae s
theorem XT{a b c d e:Nat}(h:a≤b)(hh:c≤d)(hi:d+e≤a)(hj:¬d=c):c<b:=(Nat.lt_or_gt_of_ne hj).elim (λs=>aN (p v0 (n 1)) v1 [i0 v2 v1,(0,2,v0,v3),i0 (p v3 v4) v2,i0 (p v3 (n 1)) v0] rfl (BJ c b a d e) Ae h hh hi s) λs=>aN (p v0 (n 1)) v1 [i0 v2 v1,i0 (p v3 v4) v2,i0 (p v0 (n 1)) v3] rfl (BJ c b a d e) Ae h hi s
theorem OP{a b:Nat}{c:Prop}(h:a≤b)(hh:b<a):c:=(aF [i0 v0 v1,i0 (p v1 (n 1)) v0] rfl (Az a b) Ae h hh).elim
theorem Tk{a b c:Nat}(h:a+b≤c)(hh:¬a+b=c):a+b<c:=(Nat.lt_or_gt_of_ne hh).elim (λs=>aN (p (p v0 v1) (n 1)) v2 [i0 (p (p v0 v1) (n 1)) v2] rfl (AH a b c) Ae s) λs=>aN (p (p v0 v1) (n 1)) v2 [(0,2,p v0 v1,v2),i0 (p v2 (n 1)) (p v0 v1)] rfl (AH a b c) Ae h s
theorem XS{a b c d:Nat}(h:a≤b)(hh:c+d≤a)(hi:¬c+d=a):c+d<b:=(Nat.lt_or_gt_of_ne hi).elim (λs=>aN (p (p v0 v1) (n 1)) v2 [i0 v3 v2,i0 (p (p v0 v1) (n 1)) v3] rfl (Bh c d b a) Ae h s) λs=>aN (p (p v0 v1) (n 1)) v2 [i0 v3 v2,(0,2,p v0 v1,v3),i0 (p v3 (n 1)) (p v0 v1)] rfl (Bh c d b a) Ae h hh s
theorem Tj(h:a<b):0<b-a:=aN (p (n 0) (n 1)) v0 [i0 (p v1 (n 1)) v2,i0 v2 (p v0 v1)] rfl (AH (b-a) a b) Ae h (sB b a)
theorem OO{a b:Nat}(h:a<b):a+(b-a)=b:=Nat.le_antisymm (aN (p v0 v1) v2 [i1 (p v1 v0) v2] rfl (AH a (b-a) b) Ae (Nat.sub_add_cancel (aN v0 v2 [i0 (p v0 (n 1)) v2] rfl (AH a (b-a) b) Ae h))) (aN v2 (p v0 v1) [i0 v2 (p v1 v0)] rfl (AH a (b-a) b) Ae (sB b a))
theorem XR(h:a<b+1-b):b+a=b:=Nat.le_antisymm (aN (p v0 v1) v0 [i0 (p v1 (n 1)) v2,i1 (p v2 v0) (p v0 (n 1))] rfl (AH b a ((b+1)-b)) Ae h (Nat.sub_add_cancel (aN v0 (p v0 (n 1)) [] rfl (AH b a ((b+1)-b)) Ae))) (aN v0 (p v0 v1) [] rfl (AH b a ((b+1)-b)) Ae)
theorem XQ(h:a<b):b-1-a<b-a:=by rw[Nat.sub_right_comm];exact Nat.sub_lt (Nat.sub_pos_of_lt h) Nat.one_pos
theorem XO(h:a<b):b+1-a=b-a+1:=Nat.le_antisymm (aN v0 (p v1 (n 1)) [i0 v3 (p v1 v2),i1 (p v0 v2) (p v3 (n 1))] rfl (Bh ((b+1)-a) (b-a) a b) Ae (sB b a) (Nat.sub_add_cancel (aN v2 (p v3 (n 1)) [i0 (p v2 (n 1)) v3] rfl (Bh ((b+1)-a) (b-a) a b) Ae h))) (aN (p v1 (n 1)) v0 [i0 (p v3 (n 1)) (p v0 v2),i1 (p v1 v2) v3] rfl (Bh ((b+1)-a) (b-a) a b) Ae (sB (b+1) a) (Nat.sub_add_cancel (aN v2 v3 [i0 (p v2 (n 1)) v3] rfl (Bh ((b+1)-a) (b-a) a b) Ae h)))
theorem I6(h:a+b=c):a+(b+1)=c+1:=Nat.le_antisymm (aN (p v0 (p v1 (n 1))) (p v2 (n 1)) [i1 (p v0 v1) v2] rfl (AH a b c) Ae h) (aN (p v2 (n 1)) (p v0 (p v1 (n 1))) [i2 (p v0 v1) v2] rfl (AH a b c) Ae h)
theorem XN{a b c d e:Nat}(h:a+b+1≤c):¬(a+b=c∧d+b=e):=λs=>aF [i0 (p (p v0 v1) (n 1)) v2,i2 (p v0 v1) v2] rfl (BJ a b c d e) Ae h s.1
theorem Th(h:0+0=a):a=0:=Nat.le_antisymm (aN v0 (n 0) [i2 (p (n 0) (n 0)) v0] rfl (Av a) Ae h) (aN (n 0) v0 [] rfl (Av a) Ae)
theorem FR(h:a=b+(c+1)):a=b+1+c:=Nat.le_antisymm (aN v0 (p (p v1 (n 1)) v2) [i1 v0 (p v1 (p v2 (n 1)))] rfl (AH a b c) Ae h) (aN (p (p v1 (n 1)) v2) v0 [i2 v0 (p v1 (p v2 (n 1)))] rfl (AH a b c) Ae h)
theorem ON(h:a=b+(2+c)):a=b+2+c:=Nat.le_antisymm (aN v0 (p (p v1 (n 2)) v2) [i1 v0 (p v1 (p (n 2) v2))] rfl (AH a b c) Ae h) (aN (p (p v1 (n 2)) v2) v0 [i2 v0 (p v1 (p (n 2) v2))] rfl (AH a b c) Ae h)
theorem XM{a b c d:Nat}(h:a<b∧c<d∨a=b∧c=d):a<b+1∧c<d+2∨a=b+1∧c=d+2:=.inl (⟨h.elim (λs=>aN (p v0 (n 1)) (p v1 (n 1)) [i0 (p v0 (n 1)) v1] rfl (Bh a b c d) Ae s.1) λs=>aN (p v0 (n 1)) (p v1 (n 1)) [i1 v0 v1] rfl (Bh a b c d) Ae s.1,h.elim (λs2=>aN (p v2 (n 1)) (p v3 (n 2)) [i0 (p v2 (n 1)) v3] rfl (Bh a b c d) Ae s2.2) λs2=>aN (p v2 (n 1)) (p v3 (n 2)) [i1 v2 v3] rfl (Bh a b c d) Ae s2.2⟩)
theorem KU(h:a=b+(1+c)):a=b+1+c:=Nat.le_antisymm (aN v0 (p (p v1 (n 1)) v2) [i1 v0 (p v1 (p (n 1) v2))] rfl (AH a b c) Ae h) (aN (p (p v1 (n 1)) v2) v0 [i2 v0 (p v1 (p (n 1) v2))] rfl (AH a b c) Ae h)
theorem XK{a b c d e:Nat}(h:a+b=c)(hh:d+b=e):a+b<c+1∧d+b<e+2∨a+b=c+1∧d+b=e+2:=.inl (⟨aN (p (p v0 v1) (n 1)) (p v2 (n 1)) [i1 (p v0 v1) v2] rfl (BJ a b c d e) Ae h,aN (p (p v3 v1) (n 1)) (p v4 (n 2)) [i1 (p v3 v1) v4] rfl (BJ a b c d e) Ae hh⟩)
theorem XJ{a b c d:Nat}{e:Prop}(h:a<b∨e∧a=b∧c=d):a<b+1:=h.elim (λs=>aN (p v0 (n 1)) (p v1 (n 1)) [i0 (p v0 (n 1)) v1] rfl (Bh a b c d) Ae s) λs=>aN (p v0 (n 1)) (p v1 (n 1)) [i1 v0 v1] rfl (Bh a b c d) Ae s.2.1
theorem XI(h:a≤b*c):1+a≤1+b*c:=aN (p (n 1) v0) (p (n 1) v1) [i0 v0 v1] rfl (Az a (b*c)) Ae h
theorem XG(h:¬b<a)(hh:b-a=0):b=a:=Nat.le_antisymm (aN v0 v1 [i1 v2 (n 0),i0 v0 (p v2 v1)] rfl (AH b a (b-a)) Ae hh (sB b a)) (aN v1 v0 [i3 (p v0 (n 1)) v1] rfl (AH b a (b-a)) Ae h)
theorem Tg:a+(b+1)=a+1+b:=Nat.le_antisymm (aN (p v0 (p v1 (n 1))) (p (p v0 (n 1)) v1) [] rfl (Az a b) Ae) (aN (p (p v0 (n 1)) v1) (p v0 (p v1 (n 1))) [] rfl (Az a b) Ae)
theorem Tf(h:¬a=b)(hh:¬a<b):¬a<b+1:=λs=>(Nat.lt_or_gt_of_ne h).elim (λs2=>aF [i3 (p v0 (n 1)) v1,i0 (p v0 (n 1)) v1] rfl (Az a b) Ae hh s2) λs2=>aF [i0 (p v0 (n 1)) (p v1 (n 1)),i0 (p v1 (n 1)) v0] rfl (Az a b) Ae s s2
theorem XF{a:Nat}{b:Int}(h:(↑(a+1):Int)≤b)(hh:b-1=0):a=0:=Nat.le_antisymm (aN v0 (n 0) [i4 (p v0 (n 1)) v8,i5 (zd v8 (n 1)) (n 0)] rfl (Av a) (Av b) h hh) (aN (n 0) v0 [] rfl (Av a) (Av b))
theorem XE{a:Nat}{b:Int}{c:Prop}(h:¬b-1=0)(hh:b=(↑(a+1):Int))(hi:a=0):c:=((Int.lt_or_gt_of_ne h).elim (λs=>aF [i6 v8 (p v0 (n 1)),i4 (p (zd v8 (n 1)) (n 1)) (n 0)] rfl (Av a) (Av b) hh s) λs=>aF [i5 v8 (p v0 (n 1)),i1 v0 (n 0),i4 (p (n 0) (n 1)) (zd v8 (n 1))] rfl (Av a) (Av b) hh hi s).elim
theorem XD(h:a=b+1)(hh : -1≤b):a = -1∨0≤a:=.inr (aZ (n 0) v8 [i6 v8 (p v9 (n 1)),i4 (.neg (n 1)) v9] rfl (Av 0) (Az a b) h hh)
theorem XC{a b c:Int}(h:a=b+1)(hh:c≤b)(hi:0≤c):0≤c∧c<a:=⟨aZ (n 0) v8 [i4 (n 0) v8] rfl (Av 0) (AH c a b) hi,aZ (p v8 (n 1)) v9 [i6 v9 (p K1 (n 1)),i4 v8 K1] rfl (Av 0) (AH c a b) h hh⟩
theorem XA{a:Nat}{b:Int}(h:0≤b∧b<(↑a:Int)):b ≠ -1:=λs=>aF [i4 (n 0) v8,i5 v8 (.neg (n 1))] rfl (Av a) (Av b) h.1 s
theorem X9{a:Nat}{b:Int}(h:b = -1∨(↑a:Int)<b)(hh:b=(↑a:Int)):False:=h.elim (λs=>aF [i6 v8 v0,i5 v8 (.neg (n 1))] rfl (Av a) (Av b) hh s) λs=>aF [i5 v8 v0,i4 (p v0 (n 1)) v8] rfl (Av a) (Av b) hh s
theorem X8{a:Nat}{b:Int}{c:Prop}(h:b = -1∨(↑a:Int)<b)(hh:b ≠ -1∧b≤(↑a:Int)):c:=(h.elim (λs=>(Int.lt_or_gt_of_ne hh.1).elim (λs2=>aF [i6 v8 (.neg (n 1)),i4 (p v8 (n 1)) (.neg (n 1))] rfl (Av a) (Av b) s s2) λs2=>aF [i5 v8 (.neg (n 1)),i4 (p (.neg (n 1)) (n 1)) v8] rfl (Av a) (Av b) s s2) λs=>aF [i4 v8 v0,i4 (p v0 (n 1)) v8] rfl (Av a) (Av b) hh.2 s).elim
theorem Te{a:Nat}{b:Int}(h:b=(↑a:Int))(hh:b = -1∨(↑a:Int)<b):False:=hh.elim (λs=>aF [i6 v8 v0,i5 v8 (.neg (n 1))] rfl (Av a) (Av b) h s) λs=>aF [i5 v8 v0,i4 (p v0 (n 1)) v8] rfl (Av a) (Av b) h s
theorem X7{a b:Nat}(h:(↑(a+b):Int)=(↑b:Int)):a=0:=Nat.le_antisymm (aN v0 (n 0) [i5 (p v0 v1) v1] rfl (Az a b) Ae h) (aN (n 0) v0 [] rfl (Az a b) Ae)
theorem X5{a b c d e:Nat}{f:Prop}(h:e<4∧f∧a=0)(hh:e<4∧f∧0<b∧c=0)(hi:a=d+b):False:=aF [i1 v1 (n 0),i0 (p (n 0) (n 1)) v2,i2 v1 (p v4 v2)] rfl (BJ e a b c d) Ae h.2.2 hh.2.2.1 hi
theorem X4(h:a=b+c)(hh:a=0):b=0:=Nat.le_antisymm (aN v0 (n 0) [i2 v1 (p v0 v2),i1 v1 (n 0)] rfl (AH b a c) Ae h hh) (aN (n 0) v0 [] rfl (AH b a c) Ae)
theorem X1(h:a=b+c)(hh:b=0)(hi:c=0):a=0:=Nat.le_antisymm (aN v0 (n 0) [i1 v0 (p v1 v2),i1 v1 (n 0),i1 v2 (n 0)] rfl (AH a b c) Ae h hh hi) (aN (n 0) v0 [] rfl (AH a b c) Ae)
theorem X0{a:Nat}{b:Int}(h:¬b<(↑a:Int)):b=(↑(a+(b-(↑a:Int)).toNat):Int):=Int.le_antisymm (aZ v8 (p v0 v1) [i4 (zd v8 v0) v1] rfl (Az a ((b-(a:Int))).toNat) (Av b) (Int.self_le_toNat (b-(a:Int)))) (aZ (p v0 v1) v8 [i5 v1 (zd v8 v0)] rfl (Az a ((b-(a:Int))).toNat) (Av b) (Int.toNat_of_nonneg (aZ (n 0) (zd v8 v0) [i7 (p v8 (n 1)) v0] rfl (Az a ((b-(a:Int))).toNat) (Av b) h)))
theorem Td{a:Nat}{b:Int}(h:4≤a+0)(hh:b=(↑a:Int))(hi:b<4):False:=aF [i0 (n 4) (p v0 (n 0)),i6 v8 v0,i4 (p v8 (n 1)) (n 4)] rfl (Av a) (Av b) h hh hi
theorem Xz{a:Nat}{b:Int}(h:0≤b∧b<(↑a:Int)):0≤b∧b<(↑(a+1):Int):=⟨aZ (n 0) v8 [i4 (n 0) v8] rfl (Av a) (Av b) h.1,aZ (p v8 (n 1)) (p v0 (n 1)) [i4 (p v8 (n 1)) v0] rfl (Av a) (Av b) h.2⟩
theorem Xy{a b:Nat}{c:Int}(h:a<4∧c=(↑b:Int)):0≤c∧c<(↑(b+1):Int):=⟨aZ (n 0) v8 [i6 v8 v1] rfl (Az a b) (Av c) h.2,aZ (p v8 (n 1)) (p v1 (n 1)) [i5 v8 v1] rfl (Az a b) (Av c) h.2⟩
theorem Xw{a:Nat}{b:Int}(h:b=(↑(a+1):Int)):b ≠ -1:=λs=>aF [i6 v8 (p v0 (n 1)),i5 v8 (.neg (n 1))] rfl (Av a) (Av b) h s
theorem Xv{a:Nat}{b c:Int}(h:b=(↑(a+1):Int))(hh:0≤c∧c<b):0≤c∧c<(↑(a+1):Int):=⟨aZ (n 0) v8 [i4 (n 0) v8] rfl (Av a) (Az c b) hh.1,aZ (p v8 (n 1)) (p v0 (n 1)) [i5 v9 (p v0 (n 1)),i4 (p v8 (n 1)) v9] rfl (Av a) (Az c b) h hh.2⟩
theorem Xu{a:Int}:a<0∨0≤a:=if s:a<0 then .inl s else .inr (aZ (n 0) v8 [i7 (p v8 (n 1)) (n 0)] rfl (Av 0) (Av a) s)
theorem Xs{a:Nat}{b c:Int}(h:b=(↑a:Int))(hh:0≤c∧c<b):c.toNat<a:=aN (p v0 (n 1)) v1 [i5 v8 v1,i4 (p v9 (n 1)) v8,i5 v0 v9] rfl (Az (c).toNat a) (Az b c) h hh.2 (Int.toNat_of_nonneg (aZ (n 0) v9 [i4 (n 0) v9] rfl (Az (c).toNat a) (Az b c) hh.1))
theorem Xr(h:0≤a∧a<b):a=(↑a.toNat:Int):=Int.le_antisymm (aZ v8 v0 [i4 v8 v0] rfl (Av (a).toNat) (Az a b) (Int.self_le_toNat a)) (aZ v0 v8 [i5 v0 v8] rfl (Av (a).toNat) (Az a b) (Int.toNat_of_nonneg (aZ (n 0) v8 [i4 (n 0) v8] rfl (Av (a).toNat) (Az a b) h.1)))
theorem Xq(h:0≤a):a=(↑a.toNat:Int):=Int.le_antisymm (aZ v8 v0 [i4 v8 v0] rfl (Av (a).toNat) (Av a) (Int.self_le_toNat a)) (aZ v0 v8 [i5 v0 v8] rfl (Av (a).toNat) (Av a) (Int.toNat_of_nonneg (aZ (n 0) v8 [i4 (n 0) v8] rfl (Av (a).toNat) (Av a) h)))
theorem Xp{a:Nat}{b:Int}(h:b<(↑a:Int))(hh:a≤4):b<4:=aZ (p v8 (n 1)) (n 4) [i4 (p v8 (n 1)) v0,i0 v0 (n 4)] rfl (Av a) (Av b) h hh
theorem Xo{a:Nat}{b c:Int}(h:b≤(↑a:Int))(hh:0≤c∧c<b):c.toNat<a:=aN (p v0 (n 1)) v1 [i4 v8 v1,i4 (p v9 (n 1)) v8,i5 v0 v9] rfl (Az (c).toNat a) (Az b c) h hh.2 (Int.toNat_of_nonneg (aZ (n 0) v9 [i4 (n 0) v9] rfl (Az (c).toNat a) (Az b c) hh.1))
theorem Xn:a≤(↑a.toNat:Int):=aZ v8 v0 [i4 v8 v0] rfl (Av (a).toNat) (Av a) (Int.self_le_toNat a)
theorem Tb(h:a+1<b+1):a<b:=aN (p v0 (n 1)) v1 [i0 (p (p v0 (n 1)) (n 1)) (p v1 (n 1))] rfl (Az a b) Ae h
theorem Xm{a b:Nat}{c:Int}(h:a<4∧c=(↑(0+b):Int)):c ≠ -1:=λs=>aF [i6 v8 (p (n 0) v1),i5 v8 (.neg (n 1))] rfl (Az a b) (Av c) h.2 s
theorem Xl{a:Nat}{b:Int}(h:0≤b)(hh:b<(↑(0+a):Int)):b.toNat<a:=aN (p v0 (n 1)) v1 [i4 (p v8 (n 1)) (p (n 0) v1),i5 v0 v8] rfl (Az (b).toNat a) (Av b) hh (Int.toNat_of_nonneg (aZ (n 0) v8 [i4 (n 0) v8] rfl (Az (b).toNat a) (Av b) h))
theorem Xk{a:Int}(h:0≤a):a=(↑(0+a.toNat):Int):=Int.le_antisymm (aZ v8 (p (n 0) v0) [i4 v8 v0] rfl (Av (a).toNat) (Av a) (Int.self_le_toNat a)) (aZ (p (n 0) v0) v8 [i5 v0 v8] rfl (Av (a).toNat) (Av a) (Int.toNat_of_nonneg (aZ (n 0) v8 [i4 (n 0) v8] rfl (Av (a).toNat) (Av a) h)))
theorem KT{a:Nat}{b:Int}(h:b=(↑(0+a):Int)):b ≠ -1:=λs=>aF [i6 v8 (p (n 0) v0),i5 v8 (.neg (n 1))] rfl (Av a) (Av b) h s
theorem Ta{a:Nat}{b c:Int}(h:b=(↑(0+a):Int))(hh:0≤c∧c<b):c.toNat<a:=aN (p v0 (n 1)) v1 [i5 v8 (p (n 0) v1),i4 (p v9 (n 1)) v8,i5 v0 v9] rfl (Az (c).toNat a) (Az b c) h hh.2 (Int.toNat_of_nonneg (aZ (n 0) v9 [i4 (n 0) v9] rfl (Az (c).toNat a) (Az b c) hh.1))
theorem SZ{a b:Nat}{c:Int}(h:c.toNat<a)(hh:a<b):c.toNat<b:=aN (p v0 (n 1)) v1 [i0 (p v0 (n 1)) v2,i0 (p v2 (n 1)) v1] rfl (AH (c).toNat b a) Ae h hh
theorem SY{a b:Int}(h:0≤a∧a<b):a=(↑(0+a.toNat):Int):=Int.le_antisymm (aZ v8 (p (n 0) v0) [i4 v8 v0] rfl (Av (a).toNat) (Az a b) (Int.self_le_toNat a)) (aZ (p (n 0) v0) v8 [i5 v0 v8] rfl (Av (a).toNat) (Az a b) (Int.toNat_of_nonneg (aZ (n 0) v8 [i4 (n 0) v8] rfl (Av (a).toNat) (Az a b) h.1)))
theorem Xj(h:a<4):a≤(↑4:Int):=aZ v8 (n 4) [i4 (p v8 (n 1)) (n 4)] rfl (Av 0) (Av a) h
theorem Xi{a b c:Nat}{d:Int}(h:a<b)(hh:c<4∧d=(↑(0+a):Int))(hi:c<4∧d=(↑(0+b):Int)):False:=aF [i0 (p v0 (n 1)) v1,i5 v8 (p (n 0) v0),i6 v8 (p (n 0) v1)] rfl (AH a b c) (Av d) h hh.2 hi.2
theorem Xh(h:a=2)(hh:a=3∧b=3):False:=aF [i1 v0 (n 2),i2 v0 (n 3)] rfl (Az a b) Ae h hh.1
theorem Xg(h:a=2)(hh:b=3∧a=3):False:=aF [i1 v0 (n 2),i2 v0 (n 3)] rfl (Az a b) Ae h hh.2
theorem bU{a b c:Int}(h:¬a≤b)(hh:c=a):b≤c:=aZ v8 v9 [i7 K1 v8,i6 v9 K1] rfl (Av 0) (AH b c a) h hh
theorem Xf(h:a = -1)(hh:b≤a)(hi:c=b)(hj:c = -1∨0≤c):b = -1:=hj.elim (λs=>Int.le_antisymm (aZ v8 (.neg (n 1)) [i5 v9 (.neg (n 1)),i4 v8 v9] rfl (Av 0) (AH b a c) h hh) (aZ (.neg (n 1)) v8 [i5 K1 v8,i6 K1 (.neg (n 1))] rfl (Av 0) (AH b a c) hi s)) λs=>Int.le_antisymm (aZ v8 (.neg (n 1)) [i5 v9 (.neg (n 1)),i4 v8 v9] rfl (Av 0) (AH b a c) h hh) (aZ (.neg (n 1)) v8 [i5 K1 v8,i4 (n 0) K1] rfl (Av 0) (AH b a c) hi s)
theorem Xe(h:a = -1)(hh:b=a):b = -1:=Int.le_antisymm (aZ v8 (.neg (n 1)) [i5 v9 (.neg (n 1)),i5 v8 v9] rfl (Av 0) (Az b a) h hh) (aZ (.neg (n 1)) v8 [i6 v9 (.neg (n 1)),i6 v8 v9] rfl (Av 0) (Az b a) h hh)
theorem Xd{a:Nat}{b c:Int}(h:b=c)(hh:b<(↑(0+a):Int))(hi:b = -1∨0≤b)(hj:a=0):c+1=(↑a:Int):=hi.elim (λs=>Int.le_antisymm (aZ (p v8 (n 1)) v0 [i6 v9 v8,i4 (p v9 (n 1)) (p (n 0) v0)] rfl (Av a) (Az c b) h hh) (aZ v0 (p v8 (n 1)) [i5 v9 v8,i1 v0 (n 0),i6 v9 (.neg (n 1))] rfl (Av a) (Az c b) h hj s)) λs=>Int.le_antisymm (aZ (p v8 (n 1)) v0 [i6 v9 v8,i4 (p v9 (n 1)) (p (n 0) v0)] rfl (Av a) (Az c b) h hh) (aZ v0 (p v8 (n 1)) [i5 v9 v8,i1 v0 (n 0),i4 (n 0) v9] rfl (Av a) (Az c b) h hj s)
theorem Xc(h:¬a=0):a-1<a:=(Nat.lt_or_gt_of_ne h).elim (λs=>aN (p v0 (n 1)) v1 [i0 (p v1 (n 1)) (n 0),i0 v0 v1] rfl (Az (a-1) a) Ae s (Nat.sub_le a 1)) λs=>aN (p v0 (n 1)) v1 [i1 (p v0 (n 1)) v1] rfl (Az (a-1) a) Ae (Nat.sub_add_cancel (aN (n 1) v1 [i0 (p (n 0) (n 1)) v1] rfl (Az (a-1) a) Ae s))
theorem Xb{a:Nat}{b c d:Int}(h:b=c)(hh:b<(↑(0+a):Int))(hi:d=(↑(0+(a-1)):Int))(hj:d≤c):c+1=(↑a:Int):=Int.le_antisymm (aZ (p v8 (n 1)) v0 [i6 v9 v8,i4 (p v9 (n 1)) (p (n 0) v0)] rfl (Az a (a-1)) (AH c b d) h hh) (aZ v0 (p v8 (n 1)) [i6 K1 (p (n 0) v1),i4 K1 v8,i0 v0 (p v1 (n 1))] rfl (Az a (a-1)) (AH c b d) hi hj (sB a 1))
theorem Xa{a:Nat}(h:a≠0):(↑a:Int)≠0:=λs=>(Nat.lt_or_gt_of_ne h).elim (λs2=>aF [i0 (p v0 (n 1)) (n 0)] rfl (Av a) Ae s2) λs2=>aF [i5 v0 (n 0),i0 (p (n 0) (n 1)) v0] rfl (Av a) Ae s s2
theorem I5(h:a<b):b+1-(a+1)<b+1-a:=aN (p v0 (n 1)) v1 [i0 (p v3 (n 1)) (p v1 v2),i1 (p v0 (p v2 (n 1))) (p v3 (n 1))] rfl (Bh ((b+1)-(a+1)) ((b+1)-a) a b) Ae (sB (b+1) a) (Nat.sub_add_cancel (aN (p v2 (n 1)) (p v3 (n 1)) [i0 (p v2 (n 1)) v3] rfl (Bh ((b+1)-(a+1)) ((b+1)-a) a b) Ae h))
theorem KS{a b:Nat}(h:a≤b)(hh:¬a<b):a=b:=Nat.le_antisymm (aN v0 v1 [i0 v0 v1] rfl (Az a b) Ae h) (aN v1 v0 [i3 (p v0 (n 1)) v1] rfl (Az a b) Ae hh)
theorem SX{a:Nat}{b c:Int}(h:(↑a:Int)=b-c∨a=0∧b≤c)(hh:c<b):b-c=(↑a:Int):=h.elim (λs=>Int.le_antisymm (aZ (zd v8 v9) v0 [i6 v0 (zd v8 v9)] rfl (Av a) (Az b c) s) (aZ v0 (zd v8 v9) [i5 v0 (zd v8 v9)] rfl (Av a) (Az b c) s)) λs=>Int.le_antisymm (aZ (zd v8 v9) v0 [i4 v8 v9] rfl (Av a) (Az b c) s.2) (aZ v0 (zd v8 v9) [i4 (p v9 (n 1)) v8,i1 v0 (n 0)] rfl (Av a) (Az b c) hh s.1)
theorem SW{a:Nat}{b c:Int}(h:(↑a:Int)=b-c∨a=0∧b≤c)(hh:¬c<b):0=(↑a:Int):=h.elim (λs=>Int.le_antisymm (aZ (n 0) v0 [] rfl (Av a) (Az c b)) (aZ v0 (n 0) [i7 (p v8 (n 1)) v9,i5 v0 (zd v9 v8)] rfl (Av a) (Az c b) hh s)) λs=>Int.le_antisymm (aZ (n 0) v0 [] rfl (Av a) (Az c b)) (aZ v0 (n 0) [i1 v0 (n 0)] rfl (Av a) (Az c b) s.1)
theorem WZ{a:Nat}{b:Int}(h:b.toNat<a):b<(↑a:Int):=aZ (p v8 (n 1)) v0 [i0 (p v1 (n 1)) v0,i4 v8 v1] rfl (Az a (b).toNat) (Av b) h (Int.self_le_toNat b)
theorem WY(h:a<b):a+1-b=0:=Nat.le_antisymm (aN v0 (n 0) [i1 v0 (n 0)] rfl (AH ((a+1)-b) a b) Ae (Nat.sub_eq_zero_of_le (aN (p v1 (n 1)) v2 [i0 (p v1 (n 1)) v2] rfl (AH ((a+1)-b) a b) Ae h))) (aN (n 0) v0 [] rfl (AH ((a+1)-b) a b) Ae)
theorem WX(h:a≤1000000)(hh:b=16777216):¬a-c>b:=λs=>aF [i0 v0 (n 1000000),i2 v1 (n 16777216),i0 (p v1 (n 1)) v2,i0 v2 v0] rfl (Bh a b (a-c) c) Ae h hh s (Nat.sub_le a c)
theorem OM{a b c:Nat}(h:a<b)(hh:c=b):a<c:=aN (p v0 (n 1)) v1 [i0 (p v0 (n 1)) v2,i2 v1 v2] rfl (AH a c b) Ae h hh
theorem SV(h:a<b)(hh:¬a=b-1):a<b-1:=(Nat.lt_or_gt_of_ne hh).elim (λs=>aN (p v0 (n 1)) v1 [i0 (p v0 (n 1)) v1] rfl (AH a (b-1) b) Ae s) λs=>aN (p v0 (n 1)) v1 [(0,2,p v0 (n 1),v2),i0 (p v1 (n 1)) v0,(0,2,v2,p v1 (n 1))] rfl (AH a (b-1) b) Ae h s (sB b 1)
theorem OL(h:1≤a):a-1<a:=aN (p v0 (n 1)) v1 [i1 (p v0 (n 1)) v1] rfl (Az (a-1) a) Ae (Nat.sub_add_cancel (aN (n 1) v1 [i0 (n 1) v1] rfl (Az (a-1) a) Ae h))
theorem Fe(h:a+(b+1)≤c):a<c:=aN (p v0 (n 1)) v1 [i0 (p v0 (p v2 (n 1))) v1] rfl (AH a c b) Ae h
theorem Fd(h:a+(b+1)≤c):a-1<c:=aN (p v0 (n 1)) v1 [i0 (p v2 (p v3 (n 1))) v1,i0 v0 v2] rfl (Bh (a-1) c a b) Ae h (Nat.sub_le a 1)
theorem KR(h:1≤a):a≠a-1:=λs=>aF [i1 v0 v1,i1 (p v1 (n 1)) v0] rfl (Az a (a-1)) Ae s (Nat.sub_add_cancel (aN (n 1) v0 [i0 (n 1) v0] rfl (Az a (a-1)) Ae h))
theorem OK{a b:Nat}(h:¬a<b)(hh:a≠b):b<a:=(Nat.lt_or_gt_of_ne hh).elim (λs=>aN (p v0 (n 1)) v1 [(3,2,p v1 (n 1),v0),i0 (p v1 (n 1)) v0] rfl (Az b a) Ae h s) λs=>aN (p v0 (n 1)) v1 [i0 (p v0 (n 1)) v1] rfl (Az b a) Ae s
theorem WW{a b c d e:Nat}{f:Prop}(h:a+1≤b∧b≤a+1+c∧f∧(b<a+1+c→d<e)):a≤b:=aN v0 v1 [i0 (p v0 (n 1)) v1] rfl (AH a b c) Ae h.1
theorem WV{a b c d e:Nat}{f:Prop}(h:a+1≤b∧b≤a+1+c∧f∧(b<a+1+c→d<e)):b≤a+(c+1):=aN v0 (p v1 (p v2 (n 1))) [i0 v0 (p (p v1 (n 1)) v2)] rfl (AH b a c) Ae h.2.1
theorem WU(h:a<b+(c+1)):a<b+1+c:=aN (p v0 (n 1)) (p (p v1 (n 1)) v2) [i0 (p v0 (n 1)) (p v1 (p v2 (n 1)))] rfl (AH a b c) Ae h
theorem WT{a b c d:Nat}{e f:Prop}(h:e∧a=0∧b+1≤c∧c≤b+1+d∧f):b≤c:=aN v0 v1 [i0 (p v0 (n 1)) v1] rfl (Bh b c a d) Ae h.2.2.1
theorem WS{a b c d:Nat}{e f:Prop}(h:e∧a=0∧b+1≤c∧c≤b+1+d∧f):c≤b+(d+1):=aN v0 (p v1 (p v2 (n 1))) [i0 v0 (p (p v1 (n 1)) v2)] rfl (Bh c b d a) Ae h.2.2.2.1
theorem WR(h:1≤a):a-1≠a:=λs=>aF [i2 v1 v0,i1 (p v1 (n 1)) v0] rfl (Az a (a-1)) Ae s (Nat.sub_add_cancel (aN (n 1) v0 [i0 (n 1) v0] rfl (Az a (a-1)) Ae h))
theorem WQ:0+a-1-b=a-1-b:=by rw[Nat.zero_add]
theorem WP(h:a<b)(hh:b<c):c-1-b<c-1-a:=(Nat.le_total b (c-1)).elim (λs=>aN (p v0 (n 1)) v1 [i0 (p v2 (n 1)) v3,i0 v5 (p v1 v2),i1 (p v0 v3) v5] rfl (LD ((c-1)-b) ((c-1)-a) a b c (c-1)) Ae h (sB (c-1) a) (Nat.sub_add_cancel (aN v3 v5 [i0 v3 v5] rfl (LD ((c-1)-b) ((c-1)-a) a b c (c-1)) Ae s))) λs=>aN (p v0 (n 1)) v1 [i0 (p v2 (n 1)) v3,i0 v5 (p v1 v2),i1 (p v0 v3) v5] rfl (LD ((c-1)-b) ((c-1)-a) a b c (c-1)) Ae h (sB (c-1) a) (Nat.sub_add_cancel (aN v3 v5 [i0 (p v3 (n 1)) v4,i0 v4 (p v5 (n 1))] rfl (LD ((c-1)-b) ((c-1)-a) a b c (c-1)) Ae hh (sB c 1)))
theorem WO(h:a<b):b-1-c<b:=aN (p v0 (n 1)) v1 [i0 v0 v3,i1 (p v3 (n 1)) v1] rfl (BJ ((b-1)-c) b a (b-1) c) Ae (Nat.sub_le (b-1) c) (Nat.sub_add_cancel (aN (n 1) v1 [i0 (p v2 (n 1)) v1] rfl (BJ ((b-1)-c) b a (b-1) c) Ae h))
theorem WN(h:(a+b)/2≤c)(hh:¬c=(a+b)/2):(a+b)/2<c:=(Nat.lt_or_gt_of_ne hh).elim (λs=>aN (p v0 (n 1)) v1 [(0,2,v0,v1),i0 (p v1 (n 1)) v0] rfl (Az ((a+b)/2) c) Ae h s) λs=>aN (p v0 (n 1)) v1 [i0 (p v0 (n 1)) v1] rfl (Az ((a+b)/2) c) Ae s
theorem WM(h:a<(b+c)/2+1)(hh:¬a=(b+c)/2):a<(b+c)/2:=(Nat.lt_or_gt_of_ne hh).elim (λs=>aN (p v0 (n 1)) v1 [i0 (p v0 (n 1)) v1] rfl (Az a ((b+c)/2)) Ae s) λs=>aN (p v0 (n 1)) v1 [(0,2,p v0 (n 1),p v1 (n 1)),i0 (p v1 (n 1)) v0] rfl (Az a ((b+c)/2)) Ae h s
theorem WL{a b:Nat}:a-b≤a:=aN v0 v1 [i0 v0 v1] rfl (AH (a-b) a b) Ae (Nat.sub_le a b)
theorem WK{a b:Nat}(h:a≤b):b-(b-a)=a:=Nat.sub_sub_self h
theorem WJ{a b c:Nat}(h:a<b)(hh:a=c):¬b=c:=λs=>aF [i0 (p v0 (n 1)) v1,i2 v0 v2,i1 v1 v2] rfl (AH a b c) Ae h hh s
theorem WI{a b c d:Nat}(h:a<b)(hh:b<c+1)(hi:a=d):d<b∧b≤c:=⟨aN (p v0 (n 1)) v1 [i0 (p v2 (n 1)) v1,i2 v2 v0] rfl (Bh d b a c) Ae h hi,aN v1 v3 [i0 (p v1 (n 1)) (p v3 (n 1))] rfl (Bh d b a c) Ae hh⟩
theorem WH(h:a<b)(hh:a=c):c≤b-1:=aN v0 v1 [i0 (p v2 (n 1)) v3,i2 v2 v0,i0 v3 (p v1 (n 1))] rfl (Bh c (b-1) a b) Ae h hh (sB b 1)
theorem WG(h:a<b)(hh:b<c+1):b-1<c:=aN (p v0 (n 1)) v1 [i0 (p v3 (n 1)) (p v1 (n 1)),i1 (p v0 (n 1)) v3] rfl (Bh (b-1) c a b) Ae hh (Nat.sub_add_cancel (aN (n 1) v3 [i0 (p v2 (n 1)) v3] rfl (Bh (b-1) c a b) Ae h))
theorem WF{a b c d:Nat}(h:a<b)(hh:b=c):¬(c<a∧a≤d):=λs=>aF [i0 (p v0 (n 1)) v1,i1 v1 v2,i0 (p v2 (n 1)) v0] rfl (Bh a b c d) Ae h hh s.1
theorem WE{a b c d:Nat}(h:a<b)(hh:b<c+1)(hi:d<a∧a≤c):d<b∧b≤c:=⟨aN (p v0 (n 1)) v1 [i0 (p v2 (n 1)) v1,i0 (p v0 (n 1)) v2] rfl (Bh d b a c) Ae h hi.1,aN v1 v3 [i0 (p v1 (n 1)) (p v3 (n 1))] rfl (Bh d b a c) Ae hh⟩
theorem WD{a b c d:Nat}(h:a<b)(hh:c<a∧a≤d):a-1<b-1:=aN (p v0 (n 1)) v1 [i0 (p v2 (n 1)) v3,i0 v3 (p v1 (n 1)),i1 (p v0 (n 1)) v2] rfl (LD (a-1) (b-1) a b c d) Ae h (sB b 1) (Nat.sub_add_cancel (aN (n 1) v2 [i0 (p v4 (n 1)) v2] rfl (LD (a-1) (b-1) a b c d) Ae hh.1))
theorem WC{a b c d:Nat}(h:a<b+1)(hh:c<d∧d≤b):a-1<b:=(Nat.le_total 1 a).elim (λs=>aN (p v0 (n 1)) v1 [i0 (p v2 (n 1)) (p v1 (n 1)),i1 (p v0 (n 1)) v2] rfl (BJ (a-1) b a c d) Ae h (Nat.sub_add_cancel (aN (n 1) v2 [i0 (n 1) v2] rfl (BJ (a-1) b a c d) Ae s))) λs=>aN (p v0 (n 1)) v1 [i0 (p v3 (n 1)) v4,i0 v4 v1,i1 v0 (n 0)] rfl (BJ (a-1) b a c d) Ae hh.1 hh.2 (Nat.sub_eq_zero_of_le (aN v2 (n 1) [i0 v2 (n 1)] rfl (BJ (a-1) b a c d) Ae s))
theorem WB(h:a<b∧b≤c):b-1<c:=aN (p v0 (n 1)) v1 [i0 v3 v1,i1 (p v0 (n 1)) v3] rfl (Bh (b-1) c a b) Ae h.2 (Nat.sub_add_cancel (aN (n 1) v3 [i0 (p v2 (n 1)) v3] rfl (Bh (b-1) c a b) Ae h.1))
theorem SU(h:a+(b+1)=c):a<c:=aN (p v0 (n 1)) v1 [i1 (p v0 (p v2 (n 1))) v1] rfl (AH a c b) Ae h
theorem WA(h:2≤a):1+(a-1)≤a:=aN (p (n 1) v0) v1 [i1 (p v0 (n 1)) v1] rfl (Az (a-1) a) Ae (Nat.sub_add_cancel (aN (n 1) v1 [i0 (n 2) v1] rfl (Az (a-1) a) Ae h))
theorem SS(h:2≤a)(hh:b≤1+(a-1)):b-1<a:=(Nat.le_total 1 b).elim (λs=>aN (p v0 (n 1)) v1 [i0 v2 (p (n 1) v3),i1 (p v0 (n 1)) v2,i1 (p v3 (n 1)) v1] rfl (Bh (b-1) a b (a-1)) Ae hh (Nat.sub_add_cancel (aN (n 1) v2 [i0 (n 1) v2] rfl (Bh (b-1) a b (a-1)) Ae s)) (Nat.sub_add_cancel (aN (n 1) v1 [i0 (n 2) v1] rfl (Bh (b-1) a b (a-1)) Ae h))) λs=>aN (p v0 (n 1)) v1 [i0 (n 2) v1,i0 v2 (n 1),i0 v0 v2] rfl (Bh (b-1) a b (a-1)) Ae h s (Nat.sub_le b 1)
theorem W9(h:a>1):0≠a-1:=λs=>aF [i0 (p (n 1) (n 1)) v0,i2 (n 0) v1,i0 v0 (p v1 (n 1))] rfl (Az a (a-1)) Ae h s (sB a 1)
theorem W8(h:a>1):0<a-1:=aN (p (n 0) (n 1)) v0 [i0 (p (n 1) (n 1)) v1,i0 v1 (p v0 (n 1))] rfl (Az (a-1) a) Ae h (sB a 1)
theorem W7(h:2≤a)(hh:b≤1+(a-1)):b≤a:=aN v0 v1 [i0 v0 (p (n 1) v2),i1 (p v2 (n 1)) v1] rfl (AH b a (a-1)) Ae hh (Nat.sub_add_cancel (aN (n 1) v1 [i0 (n 2) v1] rfl (AH b a (a-1)) Ae h))
theorem W6(h:a<b)(hh:b<2):a=0:=Nat.le_antisymm (aN v0 (n 0) [i0 (p v0 (n 1)) v1,i0 (p v1 (n 1)) (n 2)] rfl (Az a b) Ae h hh) (aN (n 0) v0 [] rfl (Az a b) Ae)
theorem W5(h:a<b)(hh:b<2):b=1:=Nat.le_antisymm (aN v0 (n 1) [i0 (p v0 (n 1)) (n 2)] rfl (Az b a) Ae hh) (aN (n 1) v0 [i0 (p v1 (n 1)) v0] rfl (Az b a) Ae h)
theorem W4(h:2≤a):1<1+(a-1):=aN (p (n 1) (n 1)) (p (n 1) v0) [i0 (n 2) v1,i0 v1 (p v0 (n 1))] rfl (Az (a-1) a) Ae h (sB a 1)
theorem W3(h:2≤a):1+1+(a-(1+1))≤a:=aN (p (p (n 1) (n 1)) v0) v1 [i1 (p v0 (p (n 1) (n 1))) v1] rfl (Az (a-(1+1)) a) Ae (Nat.sub_add_cancel (aN (p (n 1) (n 1)) v1 [i0 (n 2) v1] rfl (Az (a-(1+1)) a) Ae h))
theorem W2(h:2≤a)(hh:b≤1+1+(a-(1+1))):b≤a:=aN v0 v1 [i0 v0 (p (p (n 1) (n 1)) v2),i1 (p v2 (p (n 1) (n 1))) v1] rfl (AH b a (a-(1+1))) Ae hh (Nat.sub_add_cancel (aN (p (n 1) (n 1)) v1 [i0 (n 2) v1] rfl (AH b a (a-(1+1))) Ae h))
theorem W1(h:2≤a)(hh:b≤1+1+(a-(1+1))):b+(a-b)≤a:=(Nat.le_total b a).elim (λs=>aN (p v0 v1) v2 [i1 (p v1 v0) v2] rfl (Bh b (a-b) a (a-(1+1))) Ae (Nat.sub_add_cancel (aN v0 v2 [i0 v0 v2] rfl (Bh b (a-b) a (a-(1+1))) Ae s))) λs=>aN (p v0 v1) v2 [i0 v0 (p (p (n 1) (n 1)) v3),i1 v1 (n 0),i1 (p v3 (p (n 1) (n 1))) v2] rfl (Bh b (a-b) a (a-(1+1))) Ae hh (Nat.sub_eq_zero_of_le (aN v2 v0 [i0 v2 v0] rfl (Bh b (a-b) a (a-(1+1))) Ae s)) (Nat.sub_add_cancel (aN (p (n 1) (n 1)) v2 [i0 (n 2) v2] rfl (Bh b (a-b) a (a-(1+1))) Ae h))
theorem W0{a b c d e:Nat}{f:Prop}(h:1+1≤a)(hh:a≤b∧b≤a+(c-a)∧f∧(b<a+(c-a)→d<e)):1≤b:=aN (n 1) v0 [i0 (p (n 1) (n 1)) v1,i0 v1 v0] rfl (AH b a (c-a)) Ae h hh.1
theorem Wz{a b c d e:Nat}{f:Prop}(h:2≤a)(hh:b≤1+1+(a-(1+1)))(hi:b≤c∧c≤b+(a-b)∧f∧(c<b+(a-b)→d<e)):c≤a:=(Nat.le_total (1+1) a).elim (λs=>(Nat.le_total b a).elim (λs2=>aN v0 v1 [i0 v0 (p v2 v4),i1 (p v4 v2) v1] rfl (BJ c a b (a-(1+1)) (a-b)) Ae hi.2.1 (Nat.sub_add_cancel (aN v2 v1 [i0 v2 v1] rfl (BJ c a b (a-(1+1)) (a-b)) Ae s2))) λs2=>aN v0 v1 [i0 v2 (p (p (n 1) (n 1)) v3),i0 v0 (p v2 v4),i1 (p v3 (p (n 1) (n 1))) v1,i1 v4 (n 0)] rfl (BJ c a b (a-(1+1)) (a-b)) Ae hh hi.2.1 (Nat.sub_add_cancel (aN (p (n 1) (n 1)) v1 [i0 (n 2) v1] rfl (BJ c a b (a-(1+1)) (a-b)) Ae h)) (Nat.sub_eq_zero_of_le (aN v1 v2 [i0 v1 v2] rfl (BJ c a b (a-(1+1)) (a-b)) Ae s2))) λs=>(Nat.le_total b a).elim (λs3=>aN v0 v1 [i0 v0 (p v2 v4),i1 (p v4 v2) v1] rfl (BJ c a b (a-(1+1)) (a-b)) Ae hi.2.1 (Nat.sub_add_cancel (aN v2 v1 [i0 v2 v1] rfl (BJ c a b (a-(1+1)) (a-b)) Ae s3))) λs3=>aN v0 v1 [i0 v2 (p (p (n 1) (n 1)) v3),i0 v0 (p v2 v4),i1 (p v3 (p (n 1) (n 1))) v1,i1 v4 (n 0)] rfl (BJ c a b (a-(1+1)) (a-b)) Ae hh hi.2.1 (Nat.sub_add_cancel (aN (p (n 1) (n 1)) v1 [i0 (n 2) v1] rfl (BJ c a b (a-(1+1)) (a-b)) Ae h)) (Nat.sub_eq_zero_of_le (aN v1 v2 [i0 v1 v2] rfl (BJ c a b (a-(1+1)) (a-b)) Ae s3))
theorem SR(h:a<2):a≤16777216:=aN v0 (n 16777216) [i0 (p v0 (n 1)) (n 2)] rfl (Av a) Ae h
end
end
section
set_option backward.match.sparseCases true
set_option tactic.hygienic true
theorem CT{P:Prop}(k:∀G:Prop,(P→G)→G):P:=k P id
end
section
set_option tactic.hygienic true
@[elab_as_elim] theorem Aa{α:Sort _}{a b:α}{P:α→Prop}(h:a=b)(n:P b):P a:=h▸n
@[elab_as_elim] theorem AV{α:Sort _}{a b:α}{P:α→Prop}(h:a=b)(n:P a):P b:=h▸n
theorem oA{A B:Prop}{G:Prop}(h:A∧B)(k:A→B→G):G:=k h.1 h.2
theorem Cg{A B C:Prop}{G:Prop}(h:A∧B∧C)(k:A→B→C→G):G:=k h.1 h.2.1 h.2.2
theorem Ht{A B C D:Prop}{G:Prop}(h:A∧B∧C∧D)(k:A→B→C→D→G):G:=k h.1 h.2.1 h.2.2.1 h.2.2.2
theorem GF{A B C D H:Prop}{G:Prop}(h:A∧B∧C∧D∧H)(k:A→B→C→D→H→G):G:=k h.1 h.2.1 h.2.2.1 h.2.2.2.1 h.2.2.2.2
theorem Oz{A B C D H I:Prop}{G:Prop}(h:A∧B∧C∧D∧H∧I)(k:A→B→C→D→H→I→G):G:=k h.1 h.2.1 h.2.2.1 h.2.2.2.1 h.2.2.2.2.1 h.2.2.2.2.2
theorem Fp{A B C D H I J:Prop}{G:Prop}(h:A∧B∧C∧D∧H∧I∧J)(k:A→B→C→D→H→I→J→G):G:=k h.1 h.2.1 h.2.2.1 h.2.2.2.1 h.2.2.2.2.1 h.2.2.2.2.2.1 h.2.2.2.2.2.2
theorem QT{α:Sort _}{A B C D:Prop}{H I:α→Prop}{G:Prop}(h:A∧B∧C∧D∧∃x:α,H x∧I x)(k:A→B→C→D→∀x,H x→I x→G):G:=h.2.2.2.2.elim λx h4=>k h.1 h.2.1 h.2.2.1 h.2.2.2.1 x h4.1 h4.2
theorem G3{α:Sort _}{A:Prop}{B C:α→Prop}{G:Prop}(h:A∧∃x:α,B x∧C x)(k:A→∀x,B x→C x→G):G:=h.2.elim λx h1=>k h.1 x h1.1 h1.2
theorem Cm{α:Sort _}{β:Sort _}{A:Prop}{B C:α→β→Prop}{G:Prop}(h:A∧∃x:α,∃y:β,B x y∧C x y)(k:A→∀x,∀y,B x y→C x y→G):G:=h.2.elim λx h1=>h1.elim λy h2=>k h.1 x y h2.1 h2.2
theorem Oy{α:Sort _}{β:Sort _}{A:Prop}{B C D:α→β→Prop}{G:Prop}(h:A∧∃x:α,∃y:β,B x y∧C x y∧D x y)(k:A→∀x,∀y,B x y→C x y→D x y→G):G:=h.2.elim λx h1=>h1.elim λy h2=>k h.1 x y h2.1 h2.2.1 h2.2.2
theorem Ox{α:Sort _}{β:Sort _}{γ:Sort _}{A:Prop}{B C:α→β→γ→Prop}{G:Prop}(h:A∧∃x:α,∃y:β,∃z:γ,B x y z∧C x y z)(k:A→∀x,∀y,∀z,B x y z→C x y z→G):G:=h.2.elim λx h1=>h1.elim λy h2=>h2.elim λz h3=>k h.1 x y z h3.1 h3.2
theorem oE{α:Sort _}{A:α→Prop}{G:Prop}(h:∃x:α,A x)(k:∀x,A x→G):G:=h.elim λx h0=>k x h0
theorem An{α:Sort _}{A B:α→Prop}{G:Prop}(h:∃x:α,A x∧B x)(k:∀x,A x→B x→G):G:=h.elim λx h0=>k x h0.1 h0.2
theorem B7{α:Sort _}{A B C:α→Prop}{G:Prop}(h:∃x:α,A x∧B x∧C x)(k:∀x,A x→B x→C x→G):G:=h.elim λx h0=>k x h0.1 h0.2.1 h0.2.2
theorem SN{α:Sort _}{A B C D:α→Prop}{G:Prop}(h:∃x:α,A x∧B x∧C x∧D x)(k:∀x,A x→B x→C x→D x→G):G:=h.elim λx h0=>k x h0.1 h0.2.1 h0.2.2.1 h0.2.2.2
theorem SM{α:Sort _}{β:Sort _}{A B:α→Prop}{C:α→β→Prop}{G:Prop}(h:∃x:α,A x∧B x∧∃y:β,C x y)(k:∀x,A x→B x→∀y,C x y→G):G:=h.elim λx h0=>h0.2.2.elim λy h3=>k x h0.1 h0.2.1 y h3
theorem BY{α:Sort _}{β:Sort _}{A:α→Prop}{B C:α→β→Prop}{G:Prop}(h:∃x:α,A x∧∃y:β,B x y∧C x y)(k:∀x,A x→∀y,B x y→C x y→G):G:=h.elim λx h0=>h0.2.elim λy h2=>k x h0.1 y h2.1 h2.2
theorem BQ{α:Sort _}{β:Sort _}{γ:Sort _}{A:α→Prop}{B C:α→β→γ→Prop}{G:Prop}(h:∃x:α,A x∧∃y:β,∃z:γ,B x y z∧C x y z)(k:∀x,A x→∀y,∀z,B x y z→C x y z→G):G:=h.elim λx h0=>h0.2.elim λy h2=>h2.elim λz h3=>k x h0.1 y z h3.1 h3.2
theorem Ow{α:Sort _}{β:Sort _}{γ:Sort _}{δ:Sort _}{A:α→Prop}{B:α→β→γ→δ→Prop}{G:Prop}(h:∃x:α,A x∧∃y:β,∃z:γ,∃u:δ,B x y z u)(k:∀x,A x→∀y,∀z,∀u,B x y z u→G):G:=h.elim λx h0=>h0.2.elim λy h2=>h2.elim λz h3=>h3.elim λu h4=>k x h0.1 y z u h4
theorem ZN{α:Sort _}{β:Sort _}{A:α→β→Prop}{G:Prop}(h:∃x:α,∃y:β,A x y)(k:∀x,∀y,A x y→G):G:=h.elim λx h0=>h0.elim λy h1=>k x y h1
theorem Ax{α:Sort _}{β:Sort _}{A B:α→β→Prop}{G:Prop}(h:∃x:α,∃y:β,A x y∧B x y)(k:∀x,∀y,A x y→B x y→G):G:=h.elim λx h0=>h0.elim λy h1=>k x y h1.1 h1.2
theorem A3{α:Sort _}{β:Sort _}{A B C:α→β→Prop}{G:Prop}(h:∃x:α,∃y:β,A x y∧B x y∧C x y)(k:∀x,∀y,A x y→B x y→C x y→G):G:=h.elim λx h0=>h0.elim λy h1=>k x y h1.1 h1.2.1 h1.2.2
theorem C0{α:Sort _}{β:Sort _}{A B C D:α→β→Prop}{G:Prop}(h:∃x:α,∃y:β,A x y∧B x y∧C x y∧D x y)(k:∀x,∀y,A x y→B x y→C x y→D x y→G):G:=h.elim λx h0=>h0.elim λy h1=>k x y h1.1 h1.2.1 h1.2.2.1 h1.2.2.2
theorem Hs{α:Sort _}{β:Sort _}{A B C D H:α→β→Prop}{G:Prop}(h:∃x:α,∃y:β,A x y∧B x y∧C x y∧D x y∧H x y)(k:∀x,∀y,A x y→B x y→C x y→D x y→H x y→G):G:=h.elim λx h0=>h0.elim λy h1=>k x y h1.1 h1.2.1 h1.2.2.1 h1.2.2.2.1 h1.2.2.2.2
theorem Ov{α:Sort _}{β:Sort _}{A B C D H I:α→β→Prop}{G:Prop}(h:∃x:α,∃y:β,A x y∧B x y∧C x y∧D x y∧H x y∧I x y)(k:∀x,∀y,A x y→B x y→C x y→D x y→H x y→I x y→G):G:=h.elim λx h0=>h0.elim λy h1=>k x y h1.1 h1.2.1 h1.2.2.1 h1.2.2.2.1 h1.2.2.2.2.1 h1.2.2.2.2.2
theorem KN{α:Sort _}{β:Sort _}{γ:Sort _}{A B:α→β→Prop}{C D:α→β→γ→Prop}{G:Prop}(h:∃x:α,∃y:β,A x y∧B x y∧∃z:γ,C x y z∧D x y z)(k:∀x,∀y,A x y→B x y→∀z,C x y z→D x y z→G):G:=h.elim λx h0=>h0.elim λy h1=>h1.2.2.elim λz h4=>k x y h1.1 h1.2.1 z h4.1 h4.2
theorem JA{α:Sort _}{β:Sort _}{γ:Sort _}{A:α→β→Prop}{B C:α→β→γ→Prop}{G:Prop}(h:∃x:α,∃y:β,A x y∧∃z:γ,B x y z∧C x y z)(k:∀x,∀y,A x y→∀z,B x y z→C x y z→G):G:=h.elim λx h0=>h0.elim λy h1=>h1.2.elim λz h3=>k x y h1.1 z h3.1 h3.2
theorem oEEE{α:Sort _}{β:Sort _}{γ:Sort _}{A:α→β→γ→Prop}{G:Prop}(h:∃x:α,∃y:β,∃z:γ,A x y z)(k:∀x,∀y,∀z,A x y z→G):G:=h.elim λx h0=>h0.elim λy h1=>h1.elim λz h2=>k x y z h2
theorem SL{α:Sort _}{β:Sort _}{γ:Sort _}{A B:α→β→γ→Prop}{G:Prop}(h:∃x:α,∃y:β,∃z:γ,A x y z∧B x y z)(k:∀x,∀y,∀z,A x y z→B x y z→G):G:=h.elim λx h0=>h0.elim λy h1=>h1.elim λz h2=>k x y z h2.1 h2.2
theorem Dj{α:Sort _}{β:Sort _}{γ:Sort _}{A B C D:α→β→γ→Prop}{G:Prop}(h:∃x:α,∃y:β,∃z:γ,A x y z∧B x y z∧C x y z∧D x y z)(k:∀x,∀y,∀z,A x y z→B x y z→C x y z→D x y z→G):G:=h.elim λx h0=>h0.elim λy h1=>h1.elim λz h2=>k x y z h2.1 h2.2.1 h2.2.2.1 h2.2.2.2
theorem Ou{α:Sort _}{β:Sort _}{γ:Sort _}{A B C D H:α→β→γ→Prop}{G:Prop}(h:∃x:α,∃y:β,∃z:γ,A x y z∧B x y z∧C x y z∧D x y z∧H x y z)(k:∀x,∀y,∀z,A x y z→B x y z→C x y z→D x y z→H x y z→G):G:=h.elim λx h0=>h0.elim λy h1=>h1.elim λz h2=>k x y z h2.1 h2.2.1 h2.2.2.1 h2.2.2.2.1 h2.2.2.2.2
theorem bR{α:Sort _}{β:Sort _}{γ:Sort _}{δ:Sort _}{A:α→β→γ→δ→Prop}{G:Prop}(h:∃x:α,∃y:β,∃z:γ,∃u:δ,A x y z u)(k:∀x,∀y,∀z,∀u,A x y z u→G):G:=h.elim λx h0=>h0.elim λy h1=>h1.elim λz h2=>h2.elim λu h3=>k x y z u h3
theorem UD{α:Sort _}{β:Sort _}{γ:Sort _}{δ:Sort _}{A B:α→β→γ→δ→Prop}{G:Prop}(h:∃x:α,∃y:β,∃z:γ,∃u:δ,A x y z u∧B x y z u)(k:∀x,∀y,∀z,∀u,A x y z u→B x y z u→G):G:=h.elim λx h0=>h0.elim λy h1=>h1.elim λz h2=>h2.elim λu h3=>k x y z u h3.1 h3.2
theorem Ot{α:Sort _}{β:Sort _}{γ:Sort _}{δ:Sort _}{A B C D:α→β→γ→δ→Prop}{G:Prop}(h:∃x:α,∃y:β,∃z:γ,∃u:δ,A x y z u∧B x y z u∧C x y z u∧D x y z u)(k:∀x,∀y,∀z,∀u,A x y z u→B x y z u→C x y z u→D x y z u→G):G:=h.elim λx h0=>h0.elim λy h1=>h1.elim λz h2=>h2.elim λu h3=>k x y z u h3.1 h3.2.1 h3.2.2.1 h3.2.2.2
theorem Mj{α:Sort _}{β:Sort _}{γ:Sort _}{δ:Sort _}{ε:Sort _}{ζ:Sort _}{A B C:α→β→γ→δ→ε→ζ→Prop}{G:Prop}(h:∃x:α,∃y:β,∃z:γ,∃u:δ,∃v:ε,∃w:ζ,A x y z u v w∧B x y z u v w∧C x y z u v w)(k:∀x,∀y,∀z,∀u,∀v,∀w,A x y z u v w→B x y z u v w→C x y z u v w→G):G:=h.elim λx h0=>h0.elim λy h1=>h1.elim λz h2=>h2.elim λu h3=>h3.elim λv h4=>h4.elim λw h5=>k x y z u v w h5.1 h5.2.1 h5.2.2
@[elab_as_elim] theorem M7{P:Nat→Prop}{f:Nat}(h:f<4)(h0:P 0)(h1:P 1)(h2:P 2)(h3:P 3):P f:=by
 rcases f with _ | _ | _ | _ | f
 ·exact h0
 ·exact h1
 ·exact h2
 ·exact h3
 ·exact absurd h (Nat.not_lt.mpr (Nat.le_add_left 4 f))
theorem Wb{u v:Nat→Nat}{d f:Nat}(h:f<4)(hn:∀g,g≠f→u g=v g)(hf:u f=v f+d):u 0+u 1+u 2+u 3=v 0+v 1+v 2+v 3+d:=by
 rcases f with _ | _ | _ | _ | f
 ·rw[hf,hn 1 (by decide),hn 2 (by decide),hn 3 (by decide),Nat.add_right_comm _ d,Nat.add_right_comm _ d,Nat.add_right_comm _ d]
 ·rw[hf,hn 0 (by decide),hn 2 (by decide),hn 3 (by decide),← Nat.add_assoc,Nat.add_right_comm _ d,Nat.add_right_comm _ d]
 ·rw[hf,hn 0 (by decide),hn 1 (by decide),hn 3 (by decide),← Nat.add_assoc,Nat.add_right_comm _ d]
 ·rw[hf,hn 0 (by decide),hn 1 (by decide),hn 2 (by decide),← Nat.add_assoc]
 ·exact absurd h (Nat.not_lt.mpr (Nat.le_add_left 4 f))
theorem NT{α:Type}{R:α→α→Prop}{l:List α}(h:l.length<2):l.Pairwise R:=by
 rcases l with _ | ⟨a,_ | ⟨b,l⟩⟩
 ·exact .nil
 ·exact List.pairwise_singleton _ _
 ·exact absurd h (Nat.not_lt.mpr (Nat.le_add_left 2 l.length))
end
section
open PySem PySem.W PyProof.Rows PySem.Calls
structure Cx(w:World)(dp un:Nat)(cs:Scope)(L:Addr)(outer:List Env)(A₀:Around)(base h₀:Heap)(m:Str→Option Value)(p:Program)(loose:List Str)(mean:ExcName→Option Value)(mg mb:Str→Option Value)(h:Heap)(news:List (Addr×Obj))(kd ku:Nat):Prop where
 B:Below A₀ base outer h₀
 F:Fr h₀ L h m
 X:(hd0.heap_1 w.params).In h₀
 N:News h₀ L h news
 T:Top p loose mean mg mb h₀
 hk:cs.kind = .function
 hd:dp+kd<recursionLimit
 hu:un+ku<cLine
end
section
open PySem PySem.W PyProof.Rows PySem.Calls
section
theorem Pg(hq:Q (.done (.ret (.bool true))) s) :
  wpAny (model prog w) A (Builtin.«issubclass.nested» ⟨[.type "str",.type "str",rawInt 1],[]⟩) Q E s:=by
 unfold rawInt
 repeat (any_goals (first | assumption | (rw[if_pos (by decide +kernel:((Manifest.find? "str").elim "type" λx=>x.metatype)="type")]) | (rw[(by kernel_rfl:isSubtype (.type "str") (.type "str")=pure true)]) | wp_step))
theorem ME(hq:Q (.bool true) s):wpAny (model prog w) A (call (.builtin "issubclass.nested") [.type "str",.type "str",rawInt 1]) Q E s:=
 call_function_entry (by decide +kernel) (by decide +kernel) F.entry_issubclass_nested (by unfold argsOk;kernel_rfl) (Pg ⟨_,rfl,hq⟩)
theorem Pf(hD:s.heap.get? D=some { cls:=.type "tuple",data:=.seq #[.type "str",.type "bytes"] n })(hq:Q (.done (.ret (.bool true))) s) :
  wpAny (model prog w) A (Builtin.«issubclass.nested» ⟨[.type "str",.ref D,rawInt 0],[]⟩) Q E s:=by
 unfold rawInt
 repeat (any_goals (first | assumption | (rw[(by kernel_rfl:isSubtype (.type "tuple") (.type "tuple")=pure true)]) | (refine ME ?_) | wp_step))
theorem MF(hD:s.heap.get? D=some { cls:=.type "tuple",data:=.seq #[.type "str",.type "bytes"] n })(hq:Q (.bool true) s) :
  wpAny (model prog w) A (call (.builtin "issubclass") [.type "str",.ref D]) Q E s:=by
 refine call_function_meets (S:=λz_ R s=>s.heap.get? D=some { cls:=.type "tuple",data:=.seq #[.type "str",.type "bytes"] n }∧R (.ok (.ret (.bool true))) s) F.kind_issubclass F.plain_issubclass F.entry_issubclass (F.args_issubclass_2 _ _) ?_ ⟨hD,hq⟩;exact λz_ z_ z_ z_ z_ hs=>issubclass_outer (Pf hs.1 hs.2)
end
end
noncomputable abbrev Df:=List (Addr×Obj)
noncomputable def off(I:Addr)(led:Df):Df:=led.filter λp=>!(Nat.beq p.1 I)
theorem AW:∀p∈off I led,p.1≠I:=λp hp e=>by
 have:=(List.mem_filter.mp hp).2;rw[e,Nat.beq_refl] at this;contradiction
theorem AM:∀p∈off I led,p∈led:=λp hp=>(List.mem_filter.mp hp).1
theorem AS(h:q∈led)(ne:q.1≠I):q∈off I led:=List.mem_filter.mpr ⟨h,by
 cases e:Nat.beq q.1 I with
 |true=>exact absurd (Nat.eq_of_beq_eq_true e) ne
 |false=>rfl⟩
noncomputable abbrev Wa(vs:List Value)(n:Nat):Obj:={ cls:=.type "tuple",data:=.seq vs.toArray n }
section
variable{prog:Program}{w:World}{A:Around}{E:Value→Shared→Prop}{s:Shared}{h₀:Heap}{L:Addr}{m:Str→Option Value}{news:Df}{D:Addr}{vs:List Value}{n:Nat}
theorem Bm(N:News h₀ L s.heap news)(hm:(D,o)∈news):News h₀ L s.heap ((D,o)::off D news):=λp hp=>by
 rcases List.mem_cons.mp hp with rfl | hp
 ·exact N _ hm
 ·exact N p (AM p hp)
theorem DI:Upd D o o' ((D,o)::off D news) ((D,o')::off D news):=Upd.head AW
theorem AD(N:News h₀ L s.heap news)(hm:(D,listOf vs.toArray n)∈news):s.heap.IsList D vs.toArray:=⟨_,(N _ hm).1,rfl,_,rfl⟩
theorem Qd(F:Fr h₀ L s.heap m)(N:News h₀ L s.heap news)(hm:(D,listOf vs.toArray n)∈news)(hz:vs.length≤1000000)(h:∀h',Fr h₀ L h' m→News h₀ L h' ((D,listOf (vs++[x]).toArray (n+1))::off D news)→Q .none { s with heap:=h' }):wpAny (model prog w) A (call (.builtin "list.append") [.ref D,x]) Q E s:=
 append_K F (Bm N hm) (by
  refine Aa (by simp:vs.toArray.push x=(vs++[x]).toArray) ?_;exact DI) h (by refine Aa List.size_toArray ?_;exact Nat.le_trans hz (by decide))
theorem SI(F:Fr h₀ L s.heap m)(N:News h₀ L s.heap news)(hm:(D,listOf vs.toArray n)∈news)(e:vs=p++[y])(hz:vs.length≤1000000)(h:∀h',Fr h₀ L h' m→News h₀ L h' ((D,listOf p.toArray (n+1))::off D news)→Q y { s with heap:=h' }):wpAny (model prog w) A (call (.builtin "list.pop") [.ref D]) Q E s:=by
 subst e;exact kl_pop F (Bm N hm) (by refine Aa List.toList_toArray ?_;exact kpa_last y p) DI (by refine Aa List.toList_toArray ?_;exact Nat.le_trans hz (by decide)) h
theorem Pr(F:Fr h₀ L s.heap m)(N:News h₀ L s.heap news)(hm:(D,listOf vs.toArray n)∈news)(hb:(b,listOf ws.toArray k)∈news)(hne:b≠D)(hw:ws≠[])(hz:vs.length≤1000000)(hz2:ws.length≤1000000)(h:∀h',Fr h₀ L h' m→News h₀ L h' ((D,listOf (vs++ws).toArray (n+1))::off D news)→Q .none { s with heap:=h' }):wpAny (model prog w) A (call (.builtin "list.extend") [.ref D,.ref b]) Q E s:=by
 refine kl_extend (l:=vs++ws) F (Bm N hm) (.tail _ (AS hb hne)) (by simp) (by simpa using hw) DI ?_ (by simpa using Nat.le_trans hz (by decide)) (by simp only[List.size_toArray];exact Nat.le_trans (Nat.add_le_add hz hz2) (by decide)) h;simp only[List.size_toArray];intro q;simp only[Bool.and_eq_true] at q;have q2:=q.2;unfold Builtin.List.listTooLong at q2;have hs:sizeLine=16777216:=rfl;simp[hs] at q2;lia
theorem Ny(N:News h₀ L s.heap news)(hm:(D,listOf vs.toArray n)∈news)(hz:vs.length≤1000000)(hb:(!vs.isEmpty)=b)(h:Q b { s with toks:=s.toks+1+1 }):wpAny (model prog w) A (truthy (.ref D)) Q E s:=by
 refine wpAny_truthy_list (AD N hm) (by refine Aa List.size_toArray ?_;lia) ?_;subst hb
 cases vs with
 |nil=>exact h
 |cons v r=>exact h
theorem YJ(N:News h₀ L s.heap news)(hm:(D,listOf vs.toArray n)∈news)(hz:vs.length≤1000000)(h:Q (.int vs.length (s.toks+1)) { s with toks:=s.toks+1+1 }):wpAny (model prog w) A (call (.builtin "len") [.ref D]) Q E s:=
 len_list (AD N hm) (by refine Aa List.size_toArray ?_;lia) (by refine Aa List.size_toArray ?_;exact h)
theorem Vm(N:News h₀ L s.heap news)(hm:(D,listOf vs.toArray n)∈news)(h0:0≤k)(h1:k<2^63)(hx:vs[k.toNat]?=some v)(h:Q v s)(hs:subscripted slice false (.ref D) (.int k u)=operate [.ref D,.int k u] (getItem (.ref D) (.int k u)):=by with_unfolding_all rfl):wpAny (model prog w) A (subscriptTail value slice (.ref D) (.int k u)) Q E s:=
 tail_any (AD N hm).typeIs slot_list_getitem.lookup (wpAny_getItem_list (AD N hm) h0 h1 (by simpa using hx) h) hs
theorem JR(N:News h₀ L s.heap news)(hm:(D,listOf vs.toArray n)∈news)(e:vs=p++[y])(h:Q y s)(hs:subscripted slice false (.ref D) (.int (-1) u)=operate [.ref D,.int (-1) u] (getItem (.ref D) (.int (-1) u)):=by with_unfolding_all rfl):wpAny (model prog w) A (subscriptTail value slice (.ref D) (.int (-1) u)) Q E s:=by
 subst e;have hl:=AD N hm;refine tail_any hl.typeIs slot_list_getitem.lookup (wpAny_getItem_list_neg hl (by decide) (by simp;lia) (by decide) ?_ h) hs;have e2:((-1:Int)+((p++[y]).toArray.size:Nat)).toNat=p.length:=by simp;lia
 refine Aa e2 ?_;simp
theorem Gx:seqSlot? (.type "list") (dunderI "add")=pure (some (.builtin "list.__iadd__")):=PySem.seqSlot_of PySem.F.slot_list_iadd.lookup (by decide +kernel)
theorem Vp{b:Addr}{ws:List Value}{k:Nat}{Q:Value→Shared→Prop}(F:Fr h₀ L s.heap m)(N:News h₀ L s.heap news)(hm:(D,listOf vs.toArray n)∈news)(hb:(b,listOf ws.toArray k)∈news)(hw:ws≠[])(hz:vs.length≤1000000)(hz2:ws.length≤1000000)(h:∀h',Fr h₀ L h' m→News h₀ L h' ((D,listOf (vs++ws).toArray (n+1))::off D news)→Q (.ref D) { s with heap:=h' }):wpAny (model prog w) A (inplaceOp .Add (.ref D) (.ref b)) Q E s:=by
 have ha:=(AD N hm).typeIs;unfold inplaceOp;refine wpAny_holding ?_;have hfi:fillsInplaceSlot (.type "list") "add" (Operator.Add == .Add)=pure false:=by
  unfold fillsInplaceSlot;refine(?_:(typeLookup (.type "list") (dunderI "add") >>= λfi=>pure (fi.isSome && !isSeqSlot fi))=pure false);refine Aa PySem.F.slot_list_iadd.lookup ?_;refine(?_:(pure (true && !isSeqSlot (some (.builtin "list.__iadd__"))):Sem Bool)=pure false);refine Aa (by decide +kernel:isSeqSlot (some (.builtin "list.__iadd__"))=true) ?_;rfl
 refine wpAny_bind (wpAny_typeOf ha (wpAny_bind (wpAny_of_eq hfi ?_)));refine(?_:wpAny (model prog w) A (if false=true then _ else _) Q E s);refine Aa (if_neg Bool.false_ne_true) ?_;refine wpAny_bind (wpAny_binaryOp1_none (nm:="add") ha ((AD N hb).typeIs) noFill_list_add ?_);refine wpAny_bind (wpAny_of_eq Gx ?_);refine wpAny_bind (wpAny_rule ?_);have hs:sizeLine=16777216:=rfl;refine call_meets PySem.F.slot_list_iadd ha PySem.F.entry_list_iadd (PySem.F.args_list_iadd_2 _ _) (PySem.AutoSeq1.list___iadd___list_list_0 D vs.toArray n b ws.toArray k ?_ (by refine Aa List.size_toArray ?_;lia) (by refine Aa List.size_toArray (Aa List.size_toArray ?_);lia)) ⟨(N _ hm).1,(N _ hb).1,h _ (F.change (Heap.SameBut.update ..) (N _ hm).2.1 (N _ hm).2.2) ?_⟩
 ·simp only[List.size_toArray];intro q;simp only[Bool.and_eq_true] at q;have q2:=q.2;unfold Builtin.List.listTooLong at q2;simp[hs] at q2;lia
 ·have N1:=Bm N hm;intro p hp;rcases List.mem_cons.mp hp with rfl | hp
  ·refine⟨?_,(N _ hm).2⟩;have q':(s.heap.update D (Obj.mapSeq λx=>x++ws.toArray)).get? D=some (listOf (vs.toArray++ws.toArray) (if (vs.toArray++ws.toArray).size==vs.toArray.size then n else n+1)):=(PySem.IsL.update (N _ hm).1 λx=>x++ws.toArray);rw[if_neg (by
    cases ws with
    |nil=>exact absurd rfl hw
    |cons x r=>simp),(by simp:vs.toArray++ws.toArray=(vs++ws).toArray)] at q'
   exact q'
  ·have z:=N1 p (.tail _ hp);exact⟨(Heap.get?_update_ne _ _ _ _ (AW p hp)).trans z.1,z.2⟩
theorem Ul{xs:List Str}{B:Nat}(h:∀y∈xs,y.length≤B):(xs.map (·.length)).sum≤B*xs.length:=by
 induction xs with
 |nil=>simp
 |cons x r ih=>
  simp only[List.map_cons,List.sum_cons,List.length_cons,Nat.mul_add,Nat.mul_one];have:=h x (.head _);have:=ih λy hy=>h y (.tail _ hy);lia
theorem Vl{sep:Str}{t:Tok}{xs:List Str}{Q:Value→Shared→Prop}(N:News h₀ L s.heap news)(hm:(D,listOf vs.toArray n)∈news)(hv:StrsAre vs xs)(hB:∀y∈xs,y.length≤1000)(hn:xs.length≤1000)(hs:sep.length≤1)(h:∀t' k,(Txt.join sep xs).length≤1001000→Q (.str (Txt.join sep xs) t') { s with toks:=k }):wpAny (model prog w) A (call (.builtin "str.join") [.str sep t,.ref D]) Q E s:=by
 have h0:(Txt.join sep xs).length≤(xs.map (·.length)).sum+xs.length*sep.length:=by
  unfold Txt.join;refine Aa (StrLaws.glued_eq_join ..) ?_;exact StrLaws.join_length_le sep xs
 have key:(xs.map (·.length)).sum+xs.length*sep.length≤1001000:=by
  have h1:=Ul hB;have h2:xs.length*sep.length≤xs.length*1:=Nat.mul_le_mul_left _ hs;have h3:1000*xs.length≤1000*1000:=Nat.mul_le_mul_left _ hn;lia
 refine join_list (AD N hm) (by refine Aa List.toList_toArray ?_;exact hv) (Nat.le_trans key (by decide)) (λt' k=>h t' k (Nat.le_trans h0 key))
end
theorem KC(h:vs≠[]):∃p y,vs=p++[y]:=⟨vs.dropLast,vs.getLast h,(List.dropLast_concat_getLast h).symm⟩
section
theorem Bq{α:Sort _}{cs:Scope}{f:Env→α}{r:α}(h:∀env:Env,f { env with scope:=cs }=r):∀env:Env,env.scope=cs→f env=r:=λenv he=>by subst he;exact h env
noncomputable def er:Value→Value
 |.int i _=>.int i 0
 |.float b _=>.float b 0
 |.str s _=>.str s 0
 |.bytes b _=>.bytes b 0
 |.none=>.none
 |.ellipsis=>.ellipsis
 |.notImplemented=>.notImplemented
 |.bool b=>.bool b
 |.type n=>.type n
 |.builtin i=>.builtin i
 |.ref a=>.ref a
theorem Af(h:er v = .ref a):v = .ref a:=by cases v<;>simp_all [er]
theorem AQ(h:er v = .int k t):∃t',v = .int k t':=by cases v<;>simp_all [er]
theorem AB(h:er v = .str x t):∃t',v = .str x t':=by cases v<;>simp_all [er]
theorem E2(h:er v = .bool b):v = .bool b:=by cases v<;>simp_all [er]
theorem E1(h:er v = .none):v = .none:=by cases v<;>simp_all [er]
theorem Aq(h:er v = .builtin i):v = .builtin i:=by cases v<;>simp_all [er]
theorem Bj(h:er v = .type i):v = .type i:=by cases v<;>simp_all [er]
noncomputable def pc(x:Str)(v:Value)(ps:List (Str×Value)):List (Str×Value):=(x,v)::ps
set_option genInjectivity false
set_option genSizeOf false
inductive AO
 |lst (vs:List Value)
 |tup (vs:List Value)
 |rng (a b:Int)
 |dct (kvs:List (Str×Value))
 |dci (kvs:List (Int×Value))
 |set (S:Str→Bool) (n:Nat)
 |bnd (id:String) (d:Addr)
 |mat (vs:List Value)
 |att (kvs:List (Str×Value))
 |ins (C d:Addr)
 |pr (k:Nat) (P:Obj→Prop)
noncomputable def Ka(w:World)(q:Str×Tok×Value):DictEntry:={ hash:=PyData.keyHash w.params q.1,key:=.str q.1 q.2.1,val:=q.2.2 }
noncomputable def AO.Is(w:World):AO→Obj→Prop
 |.lst vs,o=>∃(ws:List Value) (n:Nat),o=listOf ws.toArray n∧ws.map er=vs
 |.tup vs,o=>∃(ws:List Value) (n:Nat),o={ cls:=.type "tuple",data:=.seq ws.toArray n }∧ws.map er=vs
 |.rng a b,o=>∃t u v,o={ cls:=.type "range",dict:=none,data:=.fields #[.int a t,.int b u,.int 1 v],slots:=#[] }
 |.dct kvs,o=>∃l:List (Str×Value),o.IsDictOf (strKind PW w) l∧l.map (λq=>(q.1,er q.2))=kvs
 |.dci kvs,o=>∃l:List (Int×Value),o.IsDictOf (intKind PW w) l∧l.map (λq=>(q.1,er q.2))=kvs
 |.set S n,o=>o.SetObjOf (strKind PW w) S n
 |.bnd id d,o=>o={ cls:=.type "builtin_function_or_method",data:=.fields #[.builtin id,.ref d] }
 |.mat vs,o=>∃(d:Addr) (ws:List Value),o={ cls:=.ref 135,dict:=some d,data:=.seq ws.toArray }∧ws.map er=vs
 |.att kvs,o=>∃(l:List (Str×Tok×Value)) (n:Nat),o=dictOf (l.map (Ka w)) n∧l.map (λq=>(q.1,er q.2.2))=kvs
 |.ins C d,o=>o=⟨.ref C,some d,.plain,#[]⟩
 |.pr _ P,o=>P o
noncomputable abbrev Lg:=Addr→Option AO
noncomputable abbrev PS:=List (Str×Value)
noncomputable def Dq(w:World)(led:Lg)(con:Df):Prop:=∀a o,led a=some o→∃o',(a,o')∈con∧o.Is w o'
noncomputable def put(a:Addr)(o:AO)(led:Lg):Lg:=λb=>if b=a then some o else led b
theorem Ac:put a o led a=some o:=if_pos rfl
theorem Ab(h:led b=some o')(n:b≠a):put a o led b=some o':=(if_neg n).trans h
theorem Ad(h:led b=some o')(n:led a=none):put a o led b=some o':=Ab h λe=>by rw[← e,h] at n;contradiction
noncomputable def Am(l l':Lg):Prop:=∀a o,l a=some o→l' a=some o
theorem Am.rfl:Am l l:=λz_ z_ h=>h
theorem Am.put(n:l a=none):Am l (put a o l):=λz_ z_ h=>Ad h n
theorem Am.trans(h:Am l l')(h':Am l' l''):Am l l'':=λa o e=>h' a o (h a o e)
theorem Dq.put(C:Dq w led con)(h:o.Is w o'):Dq w (put a o led) ((a,o')::off a con):=λb p hb=>by
 unfold Mine.Internal.put at hb;split at hb
 ·rename_i e;subst e;obtain rfl:=Option.some.inj hb;exact⟨o',.head _,h⟩
 ·rename_i e;refine An (C b p hb) λq hq hi=>?_;exact⟨q,.tail _ (AS hq e),hi⟩
theorem Dq.new(C:Dq w led con)(h:o.Is w o'):Dq w (Mine.Internal.put a o led) ((a,o')::con):=λb p hb=>by
 unfold Mine.Internal.put at hb;split at hb
 ·rename_i e;subst e;obtain rfl:=Option.some.inj hb;exact⟨o',.head _,h⟩
 ·refine An (C b p hb) λq hq hi=>?_;exact⟨q,.tail _ hq,hi⟩
theorem Dq.none(C:Dq w led con)(h:∀p∈con,p.1<l):led l=none:=by
 cases e:led l with
 |none=>rfl
 |some o=>
  refine An (C _ _ e) λo' hm z_=>?_;exact absurd (h _ hm) (Nat.lt_irrefl _)
theorem Dq.list(C:Dq w led con)(h:led a=some (.lst vs)):∃(ws:List Value) (n:Nat),(a,listOf ws.toArray n)∈con∧ws.map er=vs:=by
 refine BQ (C _ _ h) λo' hm ws n ho4 e=>?_;subst ho4;exact⟨ws,n,hm,e⟩
theorem Dq.tuple(C:Dq w led con)(h:led a=some (.tup vs)):∃(ws:List Value) (n:Nat),(a,({ cls:=.type "tuple",data:=.seq ws.toArray n }:Obj))∈con∧ws.map er=vs:=by
 refine BQ (C _ _ h) λo' hm ws n ho4 e=>?_;subst ho4;exact⟨ws,n,hm,e⟩
structure Cf(cs:Scope) where
 w:World
 dp:Nat
 un:Nat
 gd:Option (List Code)
 cn:Str
 cs₀:Scope
 L:Addr
 a:Addr
 ccd:Value
 cl:List (Str×Addr)
 outer:List Env
 A₀:Around
 base:Heap
 h₀:Heap
 p:Program
 loose:List Str
 mean:ExcName→Option Value
 mg:Str→Option Value
 mb:Str→Option Value
 s:Shared
 its:Df
 fm:Str→Option Value
 E:Value→Shared→Prop
 env:Env
 rd:Option Addr
 B:Below A₀ base outer h₀
 X:(hd0.heap_1 w.params).In h₀
 T:Top p loose mean mg mb h₀
 hk₀:cs₀.kind = .function
 hk:cs.kind = .function
 es:env.scope=cs
 eg:env.globals=mainGlobals
 eb:env.builtins=builtinsNs
 own:rd=none→env=envX cn cs L a ccd cl∧cs₀=cs
 loc:∀C,rd=some C→env.locals=C
 rdIn:∀C,rd=some C→∃o,(C,o)∈its
 inj:∀x y a,env.cells.lookup x=some a→env.cells.lookup y=some a→x=y
 has:∀x,cs.names.lookup x=some .cell→∃a,env.cells.lookup x=some a
 hE:rd=none→PassesOwn (model PW w) (ktrTop dp un gd cn cs₀ L a ccd cl outer) env E
noncomputable abbrev Cf.A{cs:Scope}(c:Cf cs):Around:=ktrTop c.dp c.un c.gd c.cn c.cs₀ c.L c.a c.ccd c.cl c.outer
noncomputable def AU{cs:Scope}(c:Cf cs)(kd ku:Nat):Prop:=c.dp+kd<recursionLimit∧c.un+ku<cLine
theorem AU.dn(hd:c'.dp=c.dp+1)(hu:c'.un=c.un+3)(r:AU c (a+1) (b+10)):AU c' a b:=⟨by have:=r.1;lia,by have:=r.2;lia⟩
theorem AU.less(h:AU c kd ku)(h1:kd'≤kd)(h2:ku'≤ku):AU c kd' ku':=⟨Nat.lt_of_le_of_lt (Nat.add_le_add_left h1 _) h.1,Nat.lt_of_le_of_lt (Nat.add_le_add_left h2 _) h.2⟩
section
variable(c:Cf cs)(ps:PS)
noncomputable def Rd(m:Str→Option Value)(con:Df)(x:Str)(v:Value):Prop:=match cs.names.lookup x with
 |some .local=>(match c.rd with
  |none=>m x=some v
  |some C=>∃o m₂,(C,o)∈c.its∧LCg.NsObj o m₂∧m₂ x=some v)
 |_=>∃a o,c.env.cells.lookup x=some a∧(a,o)∈con∧o.data = .cell (some v)
structure FP(m:Str→Option Value)(con:Df)(led:Lg):Prop where
 vars:∀x v,ps.lookup x=some v→∃v',Rd c m con x v'∧er v'=v
 cells:∀x a,c.env.cells.lookup x=some a→led a=none∧∃o ov,(a,o)∈con∧o.data = .cell ov
 its:∀q∈c.its,q∈con∧led q.1=none∧∀x,c.env.cells.lookup x≠some q.1
 fm:∀C,c.rd=some C→m=c.fm
inductive At(led:Lg):Shared→Prop
 |mk (h:Heap) (tk:Nat) (m:Str→Option Value) (con:Df) (F:Fr c.h₀ c.L h m) (N:News c.h₀ c.L h con) (V:Dq c.w led con) (I:FP c ps m con led):At led { c.s with heap:=h,toks:=tk }
noncomputable def G8{α β:Type}(f:α→β)(x:Sem α)(led:Lg)(K:β→Lg→Prop):Prop:=
 ∀s,At c ps led s→∀Q':α→Shared→Prop,(∀v s' led',At c ps led' s'→K (f v) led'→Q' v s')→wpAny (model PW c.w) c.A x Q' c.E s
noncomputable abbrev Op(x:Sem Value)(led:Lg)(K:Value→Lg→Prop):Prop:=G8 c ps er x led K
end
section
noncomputable def Jo(op:Operator)(c:Cf cs)(ps:PS)(a b:Value)(led:Lg)(K:Value→Lg→Prop):Prop:=∀a' b',er a'=a→er b'=b→Op c ps (binaryOp op a' b') led K
noncomputable def Nl(op:Operator)(c:Cf cs)(ps:PS)(a b:Value)(led:Lg)(K:Value→Lg→Prop):Prop:=∀a' b',er a'=a→er b'=b→Op c ps (inplaceOp op a' b') led K
noncomputable def Ky(op:CmpOp)(c:Cf cs)(ps:PS)(a b:Value)(led:Lg)(K:Value→Lg→Prop):Prop:=∀a' b',er a'=a→er b'=b→Op c ps (compareOp op a' b') led K
noncomputable def cA(op:UnaryOp)(c:Cf cs)(ps:PS)(a:Value)(led:Lg)(K:Value→Lg→Prop):Prop:=∀a',er a'=a→Op c ps (unaryOp op a') led K
noncomputable def Qg(c:Cf cs)(ps:PS)(a:Value)(led:Lg)(K:Bool→Lg→Prop):Prop:=∀a',er a'=a→G8 c ps id (truthy a') led K
noncomputable def Jh(v s:Expr)(c:Cf cs)(ps:PS)(a b:Value)(led:Lg)(K:Value→Lg→Prop):Prop:=∀a' b',er a'=a→er b'=b→Op c ps (subscriptTail v s a' b') led K
noncomputable def Fl(x:Str)(c:Cf cs)(ps:PS)(a:Value)(led:Lg)(K:Value→Lg→Prop):Prop:=∀a',er a'=a→Op c ps (getAttr a' x true) led K
noncomputable def Zx(c:Cf cs)(ps:PS)(vs:List Value)(led:Lg)(K:Value→Lg→Prop):Prop:=∀vs',vs'.map er=vs→Op c ps (newTuple vs') led K
noncomputable def Z3(c:Cf cs)(ps:PS)(vs:List Value)(led:Lg)(K:Value→Lg→Prop):Prop:=∀vs',vs'.map er=vs→Op c ps (newList vs') led K
noncomputable def A4(c:Cf cs)(ps:PS)(f:Value)(vs:List Value)(led:Lg)(K:Value→Lg→Prop):Prop:=∀f' vs',er f'=f→vs'.map er=vs→Op c ps (call f' vs') led K
noncomputable def Z7(pos:Pos)(args:List Expr)(c:Cf cs)(ps:PS)(f:Value)(first:List Value)(led:Lg)(K:Value→Lg→Prop):Prop:=
 ∀f' first',er f'=f→first'.map er=first→Op c ps (callWith pos f' first' (backTo pos (starEach args c.env)) []) led K
noncomputable def Gp(x:Str)(c:Cf cs)(ps:PS)(a:Value)(led:Lg)(K:Value×List Value→Lg→Prop):Prop:=∀a' pl,er a'=a→G8 c ps (λfx:Value×List Value=>(er fx.1,fx.2.map er)) (getMethod a' x pl) led K
end
section
variable{c:Cf cs}
theorem G8.mono{α β:Type}{f:α→β}{x:Sem α}{led:Lg}{K K':β→Lg→Prop}(h:G8 c ps f x led K)(k:∀v l,K v l→K' v l):G8 c ps f x led K':=
 λs hs Q' q=>h s hs Q' λv s' l ha hk=>q v s' l ha (k _ _ hk)
theorem At.toks(h:At c ps led s)(n:Nat):At c ps led { s with toks:=n }:=by
 obtain⟨h,tk,m,con,F,N,V,I⟩:=h;exact⟨h,n,m,con,F,N,V,I⟩
theorem FP.step(I:FP c ps m con led)(h1:∀q∈con,led q.1=none→q∈con')(h2:∀q∈con,led q.1=none→led' q.1=none):FP c ps m con' led' where
 vars x v e:=by
  refine An (I.vars x v e) λv' h e'=>?_;refine⟨v',?_,e'⟩;unfold Rd at h ⊢;split at h
  ·exact h
  ·refine A3 h λa o h3 h4 h5=>?_;exact⟨a,o,h3,h1 _ h4 (I.cells _ _ h3).1,h5⟩
 cells x a e:=by
  refine Cm (I.cells x a e) λh3 o ov h4 h5=>?_;exact⟨h2 _ h4 h3,o,ov,h1 _ h4 h3,h5⟩
 its q hq:=by
  refine Cg (I.its q hq) λh3 h4 h5=>?_;exact⟨h1 _ h3 h4,h2 _ h3 h4,h5⟩
 fm:=I.fm
theorem DA(F:Fr c.h₀ c.L h m)(N:News c.h₀ c.L h ((D,o')::off D con))(C:Dq c.w led con)(I:FP c ps m con led)(hD:led D=some o₀)(hi:o.Is c.w o') :
  At c ps (put D o led) { c.s with heap:=h,toks:=tk }:=by
 have ne:∀q∈con,led q.1=none→q.1≠D:=λq z_ e e2=>by rw[e2,hD] at e;contradiction
 exact⟨h,tk,m,_,F,N,C.put hi,I.step (λq hq e=>.tail _ (AS hq (ne q hq e))) λq hq e=>(if_neg (ne q hq e)).trans e⟩
theorem C3(F:Fr c.h₀ c.L h m)(N:News c.h₀ c.L h ((l,o')::con))(C:Dq c.w led con)(I:FP c ps m con led)(hl:∀p∈con,p.1<l)(hi:o.Is c.w o') :
  led l=none∧At c ps (put l o led) { c.s with heap:=h,toks:=tk }:=
 ⟨C.none hl,h,tk,m,_,F,N,C.new hi,I.step (λz_ hq z_=>.tail _ hq) λq hq e=>(if_neg (Nat.ne_of_lt (hl q hq))).trans e⟩
theorem LE(F:Fr c.h₀ c.L h m)(N:News c.h₀ c.L h con')(C:Dq c.w led con)(I:FP c ps m con led)(sub:∀z∈con,z∈con')(hm:(l,o')∈con')(hl:∀p∈con,p.1<l)(hi:o.Is c.w o') :
  led l=none∧At c ps (put l o led) { c.s with heap:=h,toks:=tk }:=
 ⟨C.none hl,h,tk,m,con',F,N,λb p hb=>by
  unfold put at hb;split at hb
  ·rename_i e;obtain rfl:=Option.some.inj hb;exact⟨o',e▸hm,hi⟩
  ·refine An (C b p hb) λo2 h1 h2=>?_;exact⟨o2,sub _ h1,h2⟩,I.step (λq hq z_=>sub q hq) λq hq e=>(if_neg (Nat.ne_of_lt (hl q hq))).trans e⟩
theorem G8.here{α β:Type}{f:α→β}{x:Sem α}{led:Lg}{K:β→Lg→Prop}{v:β}(hk:K v led)(h:∀(A:Around) E s (Q':α→Shared→Prop),(∀r tk,f r=v→Q' r { s with toks:=tk })→wpAny (model PW c.w) A x Q' E s):G8 c ps f x led K:=
 λs hs Q' q=>h _ _ s Q' λr tk e=>q r _ led (hs.toks tk) (by refine Aa e ?_;exact hk)
end
end
noncomputable def Dw:Expr→Bool
 |.ListComp ..=>false
 |.SetComp ..=>false
 |.DictComp ..=>false
 |_=>true
noncomputable def BO:List Expr→Bool
 |[]=>true
 |.Starred _ _::_=>false
 |_::r=>BO r
noncomputable def Vi(cs:Scope)(x:Str):Bool:=match cs.names.lookup x with
 |some .local=>true
 |some .cell=>true
 |some .free=>x != ("__classdict__":Str)
 |_=>false
noncomputable def Ub:Expr→Bool
 |.UnaryOp .Not _ _=>false
 |.BoolOp ..=>false
 |.IfExp ..=>false
 |.Compare ..=>false
 |_=>true
noncomputable def Wm:Expr→Bool
 |.Slice ..=>false
 |_=>true
noncomputable def Q7:Expr→Bool
 |.Name ..=>true
 |.Attribute ..=>true
 |.Subscript ..=>true
 |.Constant ..=>true
 |_=>false
noncomputable def BB(b:Bool)(P Q:Prop):Prop:=(b=true→P)∧(b=false→Q)
theorem BB.mk(h:b=true→P)(h2:b=false→Q):BB b P Q:=⟨h,h2⟩
theorem BB.and(h:a=true→b=true→P)(h2:(a=true∧b=true→False)→Q):BB a (BB b P Q) Q:=⟨λe=>⟨λe2=>h e e2,λe2=>h2 λz=>by rw[e2] at z;cases z.2⟩,λe=>h2 λz=>by rw[e] at z;cases z.1⟩
theorem BB.t(h:b=true)(p:P):BB b P Q:=⟨λz_=>p,λe=>by replace e:=h.symm.trans e;cases e⟩
theorem BB.f(h:b=false)(p:Q):BB b P Q:=⟨λe=>(by replace e:=h.symm.trans e;contradiction),λz_=>p⟩
theorem Qv(h:Ub e=true):isTrue e env whole=(do let v ← whole;standAt e.pos;holding [v] (truthy v)):=by
 cases e with
 |UnaryOp op x p=>cases op<;>first | rfl | contradiction
 |_=>first | rfl | contradiction
theorem DJ(h:Dw e=true):swapsWith e t l env=pure false:=by
 cases e<;>first | rfl | contradiction
theorem CH(h:BO (e::r)=true):starEach (e::r) env=(false,eval e env)::starEach r env∧BO r=true:=by
 cases e<;>first | exact⟨rfl,h⟩ | contradiction
theorem C9(h:BO es=true):(backTo pos (starEach es env)).any (·.1)=false:=by
 induction es with
 |nil=>rfl
 |cons e r ih=>
  refine oA (CH (env:=env) h) λe1 h2=>?_;refine Aa e1 ?_;refine(?_:(false||(backTo pos (starEach r env)).any (·.1))=false);refine Aa (ih h2) ?_;rfl
noncomputable def RD:List (Str×Value×Bool):=[
 (("len":Str),.builtin "len",true),(("range":Str),.type "range",true),(("isinstance":Str),.builtin "isinstance",true),(("int":Str),.type "int",true),(("str":Str),.type "str",true),(("max":Str),.builtin "max",true),(("min":Str),.builtin "min",true),(("sum":Str),.builtin "sum",true),(("sorted":Str),.builtin "sorted",true),(("tuple":Str),.type "tuple",true),(("list":Str),.type "list",true),(("map":Str),.type "map",true),(("set":Str),.type "set",true),(("iter":Str),.builtin "iter",true),(("bool":Str),.type "bool",true),(("enumerate":Str),.type "enumerate",true),(("issubclass":Str),.builtin "issubclass",true),(("type":Str),.type "type",true),(("bytes":Str),.type "bytes",true),
 (("_law_places":Str),.ref 488,false),(("_law_near":Str),.ref 495,false),(("_law_drawn":Str),.ref 502,false),(("_law_read":Str),.ref 507,false),(("_law_laid":Str),.ref 512,false),(("_law_refused":Str),.ref 519,false),(("_law_made":Str),.ref 526,false),(("_law_runs":Str),.ref 533,false),(("normpath":Str),.ref 481,false),(("join":Str),.ref 460,false),(("dirname":Str),.ref 474,false),(("fspath":Str),.ref 439,false),(("_get_sep":Str),.ref 453,false),(("splitroot":Str),.ref 467,false),
 (("TopologicalSorter":Str),.ref 362,false),(("SequenceMatcher":Str),.ref 242,false),(("Match":Str),.ref 135,false),(("CycleError":Str),.ref 280,false),(("_NodeInfo":Str),.ref 265,false),(("_NODE_OUT":Str),.int (-1) 0,false),(("_NODE_DONE":Str),.int (-2) 0,false)]
noncomputable def gOk(w:World)(x:Str)(v:Value):Prop:=(∃v',nsIn (hd0.heap_1 w.params) mainGlobals x=some (some v')∧er v'=v)∨(nsIn (hd0.heap_1 w.params) mainGlobals x=some none∧bootBuiltins x=some v∧x≠"__name__"∧er v=v)
noncomputable def gC(w:World)(q:Str×Value×Bool):=((nsIn (hd0.heap_1 w.params) mainGlobals q.1).map (Option.map er),bif q.2.2 then bootBuiltins q.1 else none,er q.2.1,q.1=="__name__")
noncomputable def gD(q:Str×Value×Bool):=(bif q.2.2 then some none else some (some q.2.1),bif q.2.2 then some q.2.1 else none,q.2.1,false)
theorem Pm(w:World):RD.map (gC w)=RD.map gD:=by exact rfl
theorem As{α β:Type}[BEq α][LawfulBEq α]{x:α}{v:β}{l:List (α×β)}(h:l.lookup x=some v):(x,v)∈l:=by
 refine Ax (List.lookup_eq_some_iff.mp h) λa b e h2=>?_;refine Aa e ?_;exact List.mem_append_right a (.head b)
theorem RC{w:World}{x:Str}{v:Value}{b:Bool}(h:RD.lookup x=some (v,b)):gOk w x v:=by
 refine oA (Prod.mk.inj (List.map_inj_left.mp (Pm w) _ (As h))) λe1 e=>?_;refine oA (Prod.mk.inj e) λe2 e=>?_;refine oA (Prod.mk.inj e) λe3 e4=>?_;cases b
 ·refine An (Option.map_eq_some_iff.mp e1) λo h1 h2=>?_;exact .inl (An (Option.map_eq_some_iff.mp h2) λu h3 h4=>⟨u,h1.trans (congrArg some h3),h4⟩)
 ·refine An (Option.map_eq_some_iff.mp e1) λo h1 h2=>?_;exact .inr ⟨h1.trans (congrArg some (Option.map_eq_none_iff.mp h2)),e2,ne_of_beq_false e4,e3⟩
noncomputable def aT(cs:Scope)(x:Str):Option Value:=match cs.names.lookup x with
 |some .globalImplicit=>(RD.lookup x).map (·.1)
 |_=>none
noncomputable def Pp:List Addr:=[488,495,502,507,512,519,526,533,481,460,474,439,453,467,362,242,135,280,265,305,312,317,324,331,345,352,261,298,82,89,160,167,174,181,188,196,203,210]
theorem RI(w:World):Pp.all (λa=>keepIn (hd0.heap_1 w.params) (.ref a))=true:=rfl
theorem Ga{w:World}{a:Addr}(h:Pp.contains a=true):keepIn (hd0.heap_1 w.params) (.ref a)=true:=List.all_eq_true.mp (RI w) _ (List.contains_iff_mem.mp h)
section
variable{c:Cf cs}
set_option tactic.hygienic true in
theorem YV(h:At c ps led s)(hl:aT cs x=some v)(hd:(x==("__debug__":Str))=false)(q:∀v',er v'=v→Q v' s):wpAny (model PW c.w) c.A (eval (.Name x pos) c.env) Q c.E s:=by
 obtain⟨h,tk,m,con,F,N,C,I⟩:=h;have hk:c.env.scope.kind = .function:=by refine Aa c.es ?_;exact c.hk
 have hx:c.env.kindOf x=cs.names.lookup x:=by unfold Env.kindOf;exact Aa c.es rfl
 unfold aT at hl;split at hl
 ·rename_i hn;replace hx:=hx.trans hn;refine An (Option.map_eq_some_iff.mp hl) λho0 e1 e2=>?_;obtain⟨v0,b⟩:=ho0;subst e2;rcases RC (w:=c.w) e1 with ⟨v',e3,e4⟩ | ⟨e3,e4,e5,e6⟩
  ·exact Name_function_global hk hx (loadGlobal_global (by refine Aa c.eg ?_;exact(topRead_of c.T).g.keeps F.keep) (mg_of c.X c.T.g e3) (q v' e4)) hd
  ·exact Name_function_global hk hx (loadGlobal_builtin (by refine Aa c.eg ?_;exact(topRead_of c.T).g.keeps F.keep) (mg_none_of c.X c.T.g e3) (by refine Aa c.eb ?_;exact(topRead_of c.T).b.keeps F.keep) (((topRead_of c.T).builtins x e5).trans e4) (q v0 e6)) hd
 ·contradiction
end
noncomputable def Ec(b:Bool)(p q:Prop):Prop:=match b with
 |true=>p
 |false=>q
theorem BE{b:Bool}{p q R:Prop}(h:Ec b p q)(h1:b=true→p→R)(h2:b=false→q→R):R:=by
 cases b with
 |true=>exact h1 rfl h
 |false=>exact h2 rfl h
noncomputable def V7(b:Bool)(p q:Prop):Prop:=match b with
 |true=>p
 |false=>q
theorem Sb{b:Bool}{p q R:Prop}(h:V7 b p q)(h1:b=true→p→R)(h2:b=false→q→R):R:=by
 cases b with
 |true=>exact h1 rfl h
 |false=>exact h2 rfl h
theorem Gj(h:b=false)(k:q):V7 b p q:=by subst h;exact k
noncomputable def El{α:Type}(o:Option α)(f:α→Prop)(q:Prop):Prop:=match o with
 |some v=>f v
 |none=>q
theorem BX{α:Type}{o:Option α}{f:α→Prop}{q R:Prop}(h:El o f q)(h1:∀v,o=some v→f v→R)(h2:o=none→q→R):R:=by
 cases o with
 |some v=>exact h1 v rfl h
 |none=>exact h2 rfl h
noncomputable def o2{α β γ:Type}(x:Option α)(y:Option β)(f:α→β→Option γ)(g:Option γ):Option γ:=match x with
 |some a=>(match y with
  |some b=>f a b
  |none=>g)
 |none=>g
theorem Io(h:o2 x y f g=some r):(∃a b,x=some a∧y=some b∧f a b=some r)∨g=some r:=by
 cases x with
 |none=>exact .inr h
 |some a=>cases y with
  |none=>exact .inr h
  |some b=>exact .inl ⟨a,b,rfl,rfl,h⟩
noncomputable def Qs:Value→Option Int
 |.int x _=>some x
 |_=>none
theorem FX(h:Qs v=some x):∃t,v = .int x t:=by
 cases v<;>cases h;exact⟨_,rfl⟩
noncomputable def YO:Value→Option Str
 |.str x _=>some x
 |_=>none
theorem Pj(h:YO v=some x):∃t,v = .str x t:=by
 cases v<;>cases h;exact⟨_,rfl⟩
noncomputable def nn:Value→Option Bool
 |.none=>some true
 |.ref _=>some false
 |.int ..=>some false
 |.str ..=>some false
 |.bool _=>some false
 |_=>none
theorem Wn(h:nn v=some true):v = .none:=by cases v<;>first | rfl | cases h
theorem ZO(h:nn v=some false):v ≠ .none:=by rintro rfl;(have hq:=Option.some.inj h;contradiction)
noncomputable def Qc:Expr→Option (Expr×Str×Pos)
 |.Attribute o n p=>some (o,n,p)
 |_=>none
theorem Ni(h:Qc e=some q):e = .Attribute q.1 q.2.1 q.2.2:=by cases e<;>cases h;rfl
noncomputable def Kv:Expr→Option (Str×Pos)
 |.Name n p=>some (n,p)
 |_=>none
theorem Hb(h:Kv e=some q):e = .Name q.1 q.2:=by cases e<;>cases h;rfl
noncomputable def Zl(op:CmpOp)(x y:Int):Option Bool:=match op with
 |.Lt=>some (decide (x<y))
 |.LtE=>some (decide (x≤y))
 |.Gt=>some (decide (x>y))
 |.GtE=>some (decide (x≥y))
 |.Eq=>some (x==y)
 |.NotEq=>some (x != y)
 |_=>none
noncomputable def Zj(op:CmpOp)(x y:Str):Option Bool:=match op with
 |.Eq=>some (x==y)
 |.NotEq=>some (x != y)
 |_=>none
noncomputable def Zk(op:CmpOp)(z a:Bool):Option Bool:=match z with
 |true=>(match op with
  |.Is=>some a
  |.IsNot=>some !a
  |_=>none)
 |false=>none
noncomputable def Sf(op:CmpOp)(a b:Value):Option Bool:=o2 (Qs a) (Qs b) (Zl op) (o2 (YO a) (YO b) (Zj op) (o2 (nn b) (nn a) (Zk op) none))
noncomputable def aW(op:Operator)(x y:Int):Option Value:=match op with
 |.Add=>some (.int (x+y) 0)
 |.Sub=>some (.int (x-y) 0)
 |_=>none
noncomputable def Zr(op:Operator)(a b:Value):Option Value:=o2 (Qs a) (Qs b) (aW op) none
noncomputable def ZK:Value→Option Bool
 |.bool b=>some b
 |.int i _=>some (i != 0)
 |.none=>some false
 |_=>none
noncomputable def Sc:Const→Option Value
 |.int i=>some (.int i 0)
 |.str y=>some (.str y 0)
 |.none=>some .none
 |.bool b=>some (.bool b)
 |_=>none
noncomputable def UF(cs:Scope)(ps:PS)(y:Str):Option Value:=match y==("__debug__":Str) with
 |true=>none
 |false=>(match Vi cs y with
  |true=>ps.lookup y
  |false=>aT cs y)
structure Vc where
 e:Expr→Lg→(Value→Lg→Prop)→Prop
 t:Expr→Lg→(Bool→Lg→Prop)→Prop
 l:List Expr→Lg→(List Value→Lg→Prop)→Prop
structure Gq{cs:Scope}(x:Expr)(c:Cf cs)(ps:PS)(led:Lg)(K:Value→Lg→Prop):Prop where
 run:Op c ps (eval x c.env) led K
structure Zy{cs:Scope}(x:Expr)(c:Cf cs)(ps:PS)(led:Lg)(K:Bool→Lg→Prop):Prop where
 run:G8 c ps id (isTrue x c.env (eval x c.env)) led K
section
variable(c:Cf cs)(ps:PS)
noncomputable def Z1(xs:List Expr)(led:Lg)(K:List Value→Lg→Prop):Prop:=∀pos:Pos,G8 c ps (List.map er) (spliced (backTo pos (starEach xs c.env))) led K
noncomputable def bO:Vc where
 e x led K:=Gq x c ps led K
 t x led K:=Zy x c ps led K
 l xs led K:=Z1 c ps xs led K
end
section
noncomputable def Zq(op:Operator)(c:Cf cs)(ps:PS)(a b:Value)(led:Lg)(K:Value→Lg→Prop):Prop:=El (Zr op a b) (λr=>K r led) (Jo op c ps a b led K)
noncomputable def RB(op:Operator)(c:Cf cs)(ps:PS)(a b:Value)(led:Lg)(K:Value→Lg→Prop):Prop:=El (Zr op a b) (λr=>K r led) (Nl op c ps a b led K)
noncomputable def Wq(c:Cf cs)(ps:PS)(a:Value)(led:Lg)(K:Value→Lg→Prop):Prop:=El (Qs a) (λx=>K (.int (-x) 0) led) (cA .USub c ps a led K)
noncomputable def V9(op:CmpOp)(c:Cf cs)(ps:PS)(a b:Value)(led:Lg)(K:Value→Lg→Prop):Prop:=El (Sf op a b) (λr=>K (.bool r) led) (Ky op c ps a b led K)
noncomputable def LN(c:Cf cs)(ps:PS)(a:Value)(led:Lg)(K:Bool→Lg→Prop):Prop:=El (ZK a) (λr=>K r led) (Qg c ps a led K)
noncomputable def So:Value→Bool
 |.builtin _=>true
 |.type _=>true
 |.ref a=>Pp.contains a
 |_=>false
noncomputable def Zh(v:Vc)(pos:Pos)(args:List Expr)(c:Cf cs)(ps:PS)(f:Value)(first:List Value)(led:Lg)(K:Value→Lg→Prop):Prop:=V7 (So f&&BO args)
 (match args with
 |[]=>A4 c ps f first led K
 |e::r=>v.l (e::r) led λvs l1=>A4 c ps f (first++vs) l1 K)
 (Z7 pos args c ps f first led K)
noncomputable def VQ(c:Cf cs)(ps:PS)(v:Vc):Vc where
 e x led K:=match x with
  |.Name y p=>El (UF cs ps y) (λu=>K u led) (Gq (.Name y p) c ps led K)
  |.Constant k n p=>El (Sc k) (λu=>K u led) (Gq (.Constant k n p) c ps led K)
  |.BinOp l op r _=>v.e l led λa l1=>v.e r l1 λb l2=>Zq op c ps a b l2 K
  |.UnaryOp op y p=>(match op with
   |.USub=>v.e y led λa l1=>Wq c ps a l1 K
   |.Not=>v.e y led λa l1=>LN c ps a l1 λb l2=>K (.bool (!b)) l2
   |op=>Gq (.UnaryOp op y p) c ps led K)
  |.IfExp t b o _=>v.t t led λq l1=>BB q (v.e b l1 K) (v.e o l1 K)
  |.Compare l [op] [r] p=>Ec (behindInMarks op r) (Gq (.Compare l [op] [r] p) c ps led K) (v.e l led λa l1=>v.e r l1 λb l2=>V9 op c ps a b l2 K)
  |.Subscript y i p=>Ec (Wm i) (v.e y led λa l1=>v.e i l1 λb l2=>Jh y i c ps a b l2 K) (Gq (.Subscript y i p) c ps led K)
  |.Attribute y n p=>Ec (Q7 y) (v.e y led λa l1=>Fl n c ps a l1 K) (Gq (.Attribute y n p) c ps led K)
  |.Tuple es _ _=>v.l es led λvs l1=>Zx c ps vs l1 K
  |.List es _=>v.l es led λvs l1=>Z3 c ps vs l1 K
  |.Call f args [] pos=>El (Qc f)
   (λq=>Ec (q.2.2.endLine==pos.line&&(BO args&&(decide (args.length<29)&&Q7 q.1))) (v.e q.1 led λa l1=>Gp q.2.1 c ps a l1 λfx l2=>Zh v pos args c ps fx.1 fx.2 l2 K) (Gq (.Call (.Attribute q.1 q.2.1 q.2.2) args [] pos) c ps led K))
   (El (Kv f) (λq=>v.e (.Name q.1 q.2) led λa l1=>Zh v pos args c ps a [] l1 K) (Gq (.Call f args [] pos) c ps led K))
  |x=>Gq x c ps led K
 t x led K:=match x with
  |.UnaryOp op y p=>(match op with
   |.Not=>v.t y led λb l1=>K (!b) l1
   |op=>Zy (.UnaryOp op y p) c ps led K)
  |.BoolOp op vs p=>(match op with
   |.And=>(match vs with
    |[]=>K true led
    |y::r=>v.t y led λb l1=>BB b (v.t (.BoolOp .And r p) l1 K) (K false l1))
   |.Or=>(match vs with
    |[]=>K false led
    |y::r=>v.t y led λb l1=>BB b (K true l1) (v.t (.BoolOp .Or r p) l1 K)))
  |.IfExp t b o _=>v.t t led λq l1=>BB q (v.t b l1 K) (v.t o l1 K)
  |.Compare l [op] [r] p=>Ec (behindInMarks op r) (Zy (.Compare l [op] [r] p) c ps led K) (v.e l led λa l1=>v.e r l1 λb l2=>V9 op c ps a b l2 λu l3=>LN c ps u l3 K)
  |x=>Ec (Ub x) (v.e x led λa l1=>LN c ps a l1 K) (Zy x c ps led K)
 l xs led K:=match xs with
  |[]=>K [] led
  |y::r=>Ec (BO [y]) (v.e y led λa l1=>v.l r l1 λvs l2=>K (a::vs) l2) (Z1 c ps (y::r) led K)
noncomputable def Ci(n:Nat):Cf cs→PS→Vc:=Nat.rec (motive:=λz_=>Cf cs→PS→Vc) (λc ps=>bO c ps) (λz_ v c ps=>VQ c ps (v c ps)) n
structure Nr(c:Cf cs)(ps:PS)(v:Vc):Prop where
 e:∀x led K,v.e x led K→Op c ps (eval x c.env) led K
 t:∀x led K,v.t x led K→G8 c ps id (isTrue x c.env (eval x c.env)) led K
 l:∀xs led K,v.l xs led K→Z1 c ps xs led K
end
section
theorem A8{α β:Type}{f:α→β}{x:Sem α}{K:β→Lg→Prop}(v:β)(hk:K v led)(h:∀{w:World} {A:Around} {E} {s:Shared} {Q':α→Shared→Prop},(∀r tk,f r=v→Q' r { s with toks:=tk })→wpAny (model PW w) A x Q' E s):G8 c ps f x led K:=
 G8.here hk λz_ z_ z_ z_ q=>h q
noncomputable def PC(op:CmpOp)(a b:Value)(r:Bool):Prop:=∀{w:World} {A:Around} {E} {s:Shared} {Q':Value→Shared→Prop},Q' (.bool r) s→wpAny (model PW w) A (compareOp op a b) Q' E s
theorem Sg(h:Zl op x y=some r):PC op (.int x t) (.int y u) r:=by
 cases op<;>cases h
 ·exact P.eq_int
 ·exact P.ne_int
 ·exact P.lt_int
 ·exact P.le_int
 ·exact P.gt_int
 ·exact P.ge_int
theorem Se(h:Zj op x y=some r):PC op (.str x t) (.str y u) r:=by
 cases op<;>cases h
 ·exact PyProof.Rows.eq_str
 ·exact PyProof.Rows.ne_str
theorem IL(h:er v ≠ .none):v ≠ .none:=λe=>h (by refine Aa e ?_;rfl)
theorem L6(h:Sf op a b=some r)(ea:er a'=a)(eb:er b'=b):PC op a' b' r:=by
 rcases Io h with ⟨x,y,h1,h2,h3⟩ | h
 ·refine oE (FX h1) λt1 ho1=>?_;subst ho1;refine oE (FX h2) λt2 ho1=>?_;subst ho1;refine oE (AQ ea) λt1 ho1=>?_;subst ho1;refine oE (AQ eb) λt2 ho1=>?_;subst ho1;exact Sg h3
 rcases Io h with ⟨x,y,h1,h2,h3⟩ | h
 ·refine oE (Pj h1) λt1 ho1=>?_;subst ho1;refine oE (Pj h2) λt2 ho1=>?_;subst ho1;refine oE (AB ea) λt1 ho1=>?_;subst ho1;refine oE (AB eb) λt2 ho1=>?_;subst ho1;exact Se h3
 rcases Io h with ⟨x,y,h1,h2,h3⟩ | h
 ·cases x with
  |false=>contradiction
  |true=>
   obtain rfl:=Wn h1;obtain rfl:=E1 eb
   cases y with
   |true=>
    obtain rfl:=Wn h2;obtain rfl:=E1 ea;cases op<;>cases h3
    ·exact λ{_ _ _ _ _} q=>PySem.is_none q
    ·exact λ{_ _ _ _ _} q=>isnot_none_gen q
   |false=>
    have ne:=IL (ea▸ZO h2);cases op<;>cases h3
    ·exact λ{_ _ _ _ _} q=>is_none_ne ne q
    ·exact λ{_ _ _ _ _} q=>isnot_none_ne ne q
 ·contradiction
theorem K3(h1:Qs a=some x)(h2:Qs b=some y)(ea:er a'=a)(eb:er b'=b):∃t u,a' = .int x t∧b' = .int y u:=by
 refine oE (FX h1) λt1 ho1=>?_;subst ho1;refine oE (FX h2) λt2 ho1=>?_;subst ho1;refine oE (AQ ea) λt1 ho1=>?_;subst ho1;refine oE (AQ eb) λt2 ho1=>?_;subst ho1;exact⟨_,_,rfl,rfl⟩
theorem Sq{op a b K}(h:Zq op c ps a b led K):Jo op c ps a b led K:=BX h (λr e h a' b' ea eb=>by
 rcases Io e with ⟨x,y,h1,h2,h3⟩ | e
 ·refine Ax (K3 h1 h2 ea eb) λt u ho2 ho3=>?_;subst ho2;subst ho3;cases op<;>cases h3
  ·exact A8 _ h λq=>P.add_int (q _ _ rfl)
  ·exact A8 _ h λq=>P.sub_int (q _ _ rfl)
 ·contradiction) λz_ h=>h
theorem Lm{op a b K}(h:RB op c ps a b led K):Nl op c ps a b led K:=BX h (λr e h a' b' ea eb=>by
 rcases Io e with ⟨x,y,h1,h2,h3⟩ | e
 ·refine Ax (K3 h1 h2 ea eb) λt u ho2 ho3=>?_;subst ho2;subst ho3;cases op<;>cases h3
  ·exact A8 _ h λq=>P.iadd_int (q _ _ rfl)
  ·exact A8 _ h λq=>P.isub_int (q _ _ rfl)
 ·contradiction) λz_ h=>h
theorem QX{a K}(h:Wq c ps a led K):cA .USub c ps a led K:=BX h (λx e h a' ea=>by
 refine oE (FX e) λt ho1=>?_;subst ho1;refine oE (AQ ea) λt ho1=>?_;subst ho1;exact A8 _ h λq=>P.neg_int (q _ _ rfl)) λz_ h=>h
theorem L4{op a b K}(h:V9 op c ps a b led K):Ky op c ps a b led K:=BX h (λr e h z_ z_ ea eb=>A8 (.bool r) h λq=>L6 e ea eb (q _ _ rfl)) λz_ h=>h
theorem Fm{a K}(h:LN c ps a led K):Qg c ps a led K:=BX h (λr e h a' ea=>by
 cases a<;>cases e
 ·obtain rfl:=E1 ea;exact A8 _ h λq=>truthy_none (q _ _ rfl)
 ·obtain rfl:=E2 ea;exact A8 _ h λq=>wpAny_truthy_bool (q _ _ rfl)
 ·refine oE (AQ ea) λt1 ho1=>?_;subst ho1;exact A8 _ h λq=>P.truthy_int (q _ _ rfl)) λz_ h=>h
end
section
variable{c:Cf cs}
set_option tactic.hygienic true in
theorem KZ(h:At c ps led s)(hl:Vi cs x=true)(hv:ps.lookup x=some v)(q:∀v',er v'=v→Q v' s) :
  wpAny (model PW c.w) c.A (loadName c.env x) Q c.E s:=by
 obtain⟨h,tk,m,con,F,N,C,I⟩:=h;refine An (I.vars _ _ hv) λv' e1 e2=>?_;have hk:c.env.scope.kind = .function:=by refine Aa c.es ?_;exact c.hk
 have hx:c.env.kindOf x=cs.names.lookup x:=by unfold Env.kindOf;exact Aa c.es rfl
 unfold Rd at e1;unfold Vi at hl;split at e1
 ·rename_i hn
  cases hr:c.rd with
  |none=>
   simp only[hr] at e1;refine oA (c.own hr) λhe z_=>?_;exact wpAny_loadName_local hk (hx.trans hn) (by refine Aa he ?_;exact F.ns) e1 (q v' e2)
  |some C=>
   simp only[hr] at e1;refine A3 e1 λo m₂ h1 h2 h3=>?_;exact wpAny_loadName_local hk (hx.trans hn) (by refine Aa (c.loc _ hr) ?_;exact h2.ns (N.get (I.its _ h1).1)) h3 (q v' e2)
 ·rename_i hn;refine A3 e1 λa o h1 h2 h3=>?_;split at hl
  ·rename_i hm;exact absurd hm hn
  ·rename_i hm;exact wpAny_loadName_cell hk (hx.trans hm) h1 ⟨o,N.get h2,h3⟩ (q v' e2)
  ·rename_i hm;exact wpAny_loadName_free hk (hx.trans hm) h1 ⟨o,N.get h2,h3⟩ (q v' e2) (by simpa using hl)
  ·contradiction
theorem QZ(h:At c ps led s)(hl:Vi cs x=true)(hd:(x==("__debug__":Str))=false)(hv:ps.lookup x=some v)(q:∀v',er v'=v→Q v' s) :
  wpAny (model PW c.w) c.A (eval (.Name x pos) c.env) Q c.E s:=wpAny_Name (KZ h hl hv q) hd
theorem FI(h:At c ps led s)(e:UF cs ps x=some v)(q:∀v',er v'=v→Q v' s):wpAny (model PW c.w) c.A (eval (.Name x pos) c.env) Q c.E s:=by
 unfold UF at e
 cases hd:x==("__debug__":Str) with
 |true=>rw[hd] at e;contradiction
 |false=>
  rw[hd] at e
  cases hk:Vi cs x with
  |true=>rw[hk] at e;exact QZ h hk hd e q
  |false=>rw[hk] at e;exact YV h e hd q
theorem FK(h:BO args=true)(hn:args.length<29):methodCallForm (args.length+([]:List PySem.Keyword).length) (backTo pos (starEach args env)) (backToKw pos (keywordEach [] env))=true:=by
 have e:=C9 (pos:=pos) (env:=env) h;unfold methodCallForm;have e2:((backTo pos (starEach args env)).all λx=>!x.1)=true:=by
  rw[List.all_eq_true];rw[List.any_eq_false] at e;intro x hx;have:=e x hx
  simp_all
 refine Aa e2 ?_;simp[backToKw,keywordEach];exact aN (za (zv 0) (zn 1)) (zn 30) [(0,1,za (zv 0) (zn 1),zn 29)] rfl (Av _) Ae hn
theorem DK(h1:(apos.endLine==pos.line)=true)(h2:BO args=true)(h3:args.length<29)(h4:Q7 o=true) :
  eval (.Call (.Attribute o n apos) args [] pos) env=(do
   let ov ← eval o env
   standAt apos.atName
   let (f,first) ← holding [ov] (getMethod ov n (do return (← importBound o env).getD true))
   callWith pos f first (backTo pos (starEach args env)) []):=by
 have e1:eval (.Call (.Attribute o n apos) args [] pos) env=(do
   let ov ← attributeBase o n env (eval o env)
   standAt apos.atName
   methodCall o n apos pos env ov (args.length+([]:List PySem.Keyword).length) (backTo pos (starEach args env)) (backToKw pos (keywordEach [] env))):=rfl
 have e2:attributeBase o n env (eval o env)=eval o env:=by cases o<;>first | rfl | contradiction
 refine e1.trans (Aa e2 ?_);unfold methodCall calleeOf methodCallPos;refine Aa (FK h2 h3) ?_;simp only[h1,Bool.not_true,Bool.false_or,if_true];rfl
end
section
theorem G8.wp{α β:Type}{f:α→β}{x:Sem α}{K:β→Lg→Prop}(h:G8 c ps f x led K){s:Shared}(hs:At c ps led s){Q':α→Shared→Prop}(q:∀v s' led',At c ps led' s'→K (f v) led'→Q' v s'):wpAny (model PW c.w) c.A x Q' c.E s:=h s hs Q' q
theorem At.keep{s:Shared}(h:At c ps led s):(hd0.heap_1 c.w.params).In s.heap:=by
 obtain⟨h0,tk,m,con,F,r⟩:=h;exact c.X.keeps F.keep
theorem VC{pos:Pos}{f:Value}{first:List Value}{K}(hf:So f=true)(h:A4 c ps f first led K):Z7 pos [] c ps f first led K:=λf' first' ef ei s hs Q' q=>by
 have k:=(h f' first' ef ei).wp hs q
 cases f with
 |builtin id=>
  obtain rfl:=Aq ef;exact Calls.callWith_builtin rfl (evalArgs_nil3 (by refine Aa (List.append_nil ..) ?_;exact k))
 |type T=>
  obtain rfl:=Bj ef;exact PyProof.Rows.callWith_type rfl (evalArgs_nil3 (by refine Aa (List.append_nil ..) ?_;exact k))
 |ref a=>
  obtain rfl:=Af ef;exact callWith_K0 hs.keep (Ga hf) (by refine Aa (List.append_nil ..) ?_;exact k)
 |_=>contradiction
theorem PR{pos:Pos}{f:Value}{first:List Value}{e:Expr}{r:List Expr}{K}(hf:So f=true)(hp:BO (e::r)=true)(h:Z1 c ps (e::r) led λvs l1=>A4 c ps f (first++vs) l1 K):Z7 pos (e::r) c ps f first led K:=λf' first' ef ei s hs Q' q=>by
 have k:=(h pos).wp hs (Q':=λvs s1=>(hd0.heap_1 c.w.params).In s1.heap∧wpAny (model PW c.w) c.A (call f' (first'++vs)) Q' c.E s1) λvs s1 l1 h1 k1=>⟨h1.keep,(k1 f' (first'++vs) ef (List.map_append.trans (Aa ei rfl))).wp h1 q⟩
 refine oA (CH (env:=c.env) hp) λe1 hp2=>?_
 cases f with
 |builtin id=>
  obtain rfl:=Aq ef;refine Calls.callWith_builtin (C9 hp) ?_;rw[e1] at k ⊢;exact Calls.evalArgs_plain (wpAny_mono k (λz_ z_ x=>x.2) λz_ z_ x=>x)
 |type T=>
  obtain rfl:=Bj ef;refine PyProof.Rows.callWith_type (C9 hp) ?_;rw[e1] at k ⊢;exact Calls.evalArgs_plain (wpAny_mono k (λz_ z_ x=>x.2) λz_ z_ x=>x)
 |ref a=>
  obtain rfl:=Af ef;exact callWith_K c.X (Ga hf) k e1 (C9 hp2)
 |_=>contradiction
theorem Kg{v:Vc}(S:Nr c ps v){pos f first args K}(h:Zh v pos args c ps f first led K):Z7 pos args c ps f first led K:=Sb h (λhb h=>by
 rw[Bool.and_eq_true] at hb
 cases args with
 |nil=>exact VC hb.1 h
 |cons e r=>exact PR hb.1 hb.2 (S.l _ _ _ h)) λz_ h=>h
theorem TZ:Nr c ps (bO c ps):=⟨λz_ z_ z_ h=>h.run,λz_ z_ z_ h=>h.run,λz_ z_ z_ h=>h⟩
theorem TV{v:Vc}(S:Nr c ps v){o:Expr}{n:Str}{apos pos:Pos}{args:List Expr}{K}(hb:(apos.endLine==pos.line&&(BO args&&(decide (args.length<29)&&Q7 o)))=true)(h:v.e o led λa l1=>Gp n c ps a l1 λfx l2=>Zh v pos args c ps fx.1 fx.2 l2 K):Op c ps (eval (.Call (.Attribute o n apos) args [] pos) c.env) led K:=by
 rw[Bool.and_eq_true,Bool.and_eq_true,Bool.and_eq_true,decide_eq_true_eq] at hb;refine Ht hb λb1 b2 b3 b4=>?_;intro s hs Q' q;refine Aa (DK b1 b2 b3 b4) ?_;exact wpAny_bind ((S.e _ _ _ h).wp hs λov s1 l1 h1 k1=>wpAny_bind (wpAny_standAt (wpAny_bind (wpAny_holding ((k1 ov _ rfl).wp h1 λfx s2 l2 h2 k2=>(Kg S k2 fx.1 fx.2 rfl rfl).wp h2 q)))))
theorem VZ{v:Vc}(S:Nr c ps v)(x:Expr)(K)(h:(VQ c ps v).e x led K):Op c ps (eval x c.env) led K:=by
 cases x with
 |Name y p=>exact BX h (λu e h s hs Q' q=>FI hs e λv' e=>q v' s led hs (by refine Aa e ?_;exact h)) λz_ h=>h.run
 |Constant k n p=>
  refine BX h (λu e h=>?_) λz_ h=>h.run;cases k<;>cases e
  ·exact A8 _ h λq=>Constant_none (q _ _ rfl)
  ·exact A8 _ h λq=>Constant_bool (q _ _ rfl)
  ·exact A8 _ h λq=>wpAny_Constant_int (q _ _ rfl)
  ·exact A8 _ h λq=>Calls.Constant_str (q _ _ rfl)
 |BinOp l op r p=>exact λs hs Q' q=>wpAny_BinOp ((S.e _ _ _ h).wp hs λa s1 l1 h1 k1=>(S.e _ _ _ k1).wp h1 λb s2 l2 h2 k2=>(Sq k2 a b rfl rfl).wp h2 q)
 |UnaryOp op y p=>
  cases op with
  |USub=>exact λs hs Q' q=>UnaryOp_ ((S.e _ _ _ h).wp hs λa s1 l1 h1 k1=>(QX k1 a rfl).wp h1 q)
  |Not=>exact λs hs Q' q=>UnaryOp_ ((S.e _ _ _ h).wp hs λa s1 l1 h1 k1=>not_of ((Fm k1 a rfl).wp h1 λb s2 l2 h2 k2=>q _ _ _ h2 k2))
  |_=>exact h.run
 |IfExp t b o p=>exact λs hs Q' q=>wpAny_IfExp ((S.t _ _ _ h).wp hs λb s1 l1 h1 k1=>by
   cases b with
   |true=>exact(S.e _ _ _ (k1.1 rfl)).wp h1 q
   |false=>exact(S.e _ _ _ (k1.2 rfl)).wp h1 q)
 |Compare l ops rs p=>
  cases ops with
  |nil=>exact h.run
  |cons op ops=>
   cases ops with
   |cons _ _=>exact h.run
   |nil=>
    cases rs with
    |nil=>exact h.run
    |cons r rs=>
     cases rs with
     |cons _ _=>exact h.run
     |nil=>exact BE h (λz_ h=>h.run) λhm h s hs Q' q=>wpAny_Compare1 ((S.e _ _ _ h).wp hs λa s1 l1 h1 k1=>(S.e _ _ _ k1).wp h1 λb s2 l2 h2 k2=>(L4 k2 a b rfl rfl).wp h2 q) hm
 |Subscript y i p=>exact BE h (λz_ h s hs Q' q=>PyProof.Rows.Subscript_ ((S.e _ _ _ h).wp hs λa s1 l1 h1 k1=>(S.e _ _ _ k1).wp h1 λb s2 l2 h2 k2=>(k2 a b rfl rfl).wp h2 q)) λz_ h=>h.run
 |Attribute y n p=>
  refine BE h (λhb h=>?_) λz_ h=>h.run;exact λs hs Q' q=>Attribute_any_ ((S.e _ _ _ h).wp hs λa s1 l1 h1 k1=>(k1 a rfl).wp h1 q) (by cases y<;>first | rfl | contradiction)
 |Tuple es k p=>exact λs hs Q' q=>Tuple_ ((S.l _ _ _ h _).wp hs λa s1 l1 h1 k1=>(k1 a rfl).wp h1 q)
 |List es p=>exact λs hs Q' q=>List_ ((S.l _ _ _ h _).wp hs λa s1 l1 h1 k1=>(k1 a rfl).wp h1 q)
 |Call f args kws pos=>
  cases kws with
  |cons _ _=>exact h.run
  |nil=>
   refine BX h (λu e h=>?_) λz_ h=>BX h (λu e h=>?_) λz_ h=>h.run
   ·obtain rfl:=Ni e;exact BE h (TV S) λz_ h=>h.run
   ·obtain rfl:=Hb e;exact λs hs Q' q=>Call_Name rfl ((S.e _ _ _ h).wp hs λa s1 l1 h1 k1=>(Kg S k1 a [] rfl rfl).wp h1 q)
 |_=>exact h.run
theorem F8{v:Vc}(S:Nr c ps v){x:Expr}{K}(h:Ec (Ub x) (v.e x led λa l1=>LN c ps a l1 K) (Zy x c ps led K)):G8 c ps id (isTrue x c.env (eval x c.env)) led K:=
 BE h (λhv h s hs Q' q=>isTrue_plain ((S.e _ _ _ h).wp hs λa s1 l1 h1 k1=>(Fm k1 a rfl).wp h1 q) (Qv hv)) λz_ h=>h.run
theorem VX{v:Vc}(S:Nr c ps v)(x:Expr)(K)(h:(VQ c ps v).t x led K):G8 c ps id (isTrue x c.env (eval x c.env)) led K:=by
 cases x with
 |UnaryOp op y p=>
  cases op with
  |Not=>exact λs hs Q' q=>isTrue_not ((S.t _ _ _ h).wp hs λb s1 l1 h1 k1=>q _ _ _ h1 k1)
  |_=>exact h.run
 |BoolOp op vs p=>
  cases op with
  |And=>
   cases vs with
   |nil=>exact λs hs Q' q=>isTrue_and_nil (q _ _ _ hs h)
   |cons y r=>exact λs hs Q' q=>isTrue_and ((S.t _ _ _ h).wp hs λb s1 l1 h1 k1=>by
     cases b with
     |true=>exact(S.t _ _ _ (k1.1 rfl)).wp h1 q
     |false=>exact q _ _ _ h1 (k1.2 rfl))
  |Or=>
   cases vs with
   |nil=>exact λs hs Q' q=>isTrue_or_nil (q _ _ _ hs h)
   |cons y r=>exact λs hs Q' q=>isTrue_or ((S.t _ _ _ h).wp hs λb s1 l1 h1 k1=>by
     cases b with
     |true=>exact q _ _ _ h1 (k1.1 rfl)
     |false=>exact(S.t _ _ _ (k1.2 rfl)).wp h1 q)
 |IfExp t b o p=>exact λs hs Q' q=>isTrue_IfExp ((S.t _ _ _ h).wp hs λb s1 l1 h1 k1=>by
   cases b with
   |true=>exact(S.t _ _ _ (k1.1 rfl)).wp h1 q
   |false=>exact(S.t _ _ _ (k1.2 rfl)).wp h1 q)
 |Compare l ops rs p=>
  cases ops with
  |nil=>exact F8 S h
  |cons op ops=>
   cases ops with
   |cons _ _=>exact F8 S h
   |nil=>
    cases rs with
    |nil=>exact F8 S h
    |cons r rs=>
     cases rs with
     |cons _ _=>exact F8 S h
     |nil=>exact BE h (λz_ h=>h.run) λhm h s hs Q' q=>wpAny_isTrue_Compare1 ((S.e _ _ _ h).wp hs λa s1 l1 h1 k1=>(S.e _ _ _ k1).wp h1 λb s2 l2 h2 k2=>(L4 k2 a b rfl rfl).wp h2 λu s3 l3 h3 k3=>(Fm k3 u rfl).wp h3 q) hm
 |_=>exact F8 S h
theorem VY{v:Vc}(S:Nr c ps v)(xs:List Expr)(K)(h:(VQ c ps v).l xs led K):Z1 c ps xs led K:=by
 cases xs with
 |nil=>exact λpos s hs Q' q=>args_nil (q _ _ _ hs h)
 |cons y r=>
  refine BE h (λhp h=>?_) λz_ h=>h;have e2:starEach (y::r) c.env=(false,eval y c.env)::starEach r c.env:=by cases y<;>first | rfl | contradiction
  exact λpos s hs Q' q=>args_cons ((S.e _ _ _ h).wp hs λa s1 l1 h1 k1=>(S.l _ _ _ k1 pos).wp h1 λvs s2 l2 h2 k2=>q _ _ _ h2 k2) e2
theorem TY(S:Nr c ps v):Nr c ps (VQ c ps v):=⟨λx z_ K h=>VZ S x K h,λx z_ K h=>VX S x K h,λx z_ K h=>VY S x K h⟩
theorem A6:∀n,Nr c ps (Ci n c ps):=by
 intro n
 induction n with
 |zero=>exact TZ
 |succ n ih=>exact(show Nr c ps (VQ c ps (Ci n c ps)) from TY (ih))
end
noncomputable def Ft(cs:Scope)(x:Str):Bool:=match cs.names.lookup x with
 |some .local=>true
 |some .cell=>true
 |_=>false
theorem Rv(h:Ft cs x=true):Vi cs x=true:=by
 unfold Ft at h;unfold Vi;split at h<;>simp_all
structure Ex where
 ret:Value→Lg→Prop
 brk:PS→Lg→Prop
 cont:PS→Lg→Prop
section
variable(c:Cf cs)(X:Ex)
noncomputable def C4(N:PS→Lg→Prop)(f:Flow)(s:Shared):Prop:=match f with
 |.next=>∃ps led,At c ps led s∧N ps led
 |.ret v=>∃ps led,At c ps led s∧X.ret (er v) led
 |.brk=>∃ps led,At c ps led s∧X.brk ps led
 |.cont=>∃ps led,At c ps led s∧X.cont ps led
noncomputable def AE(ps:PS)(x:Sem Flow)(led:Lg)(N:PS→Lg→Prop):Prop:=
 ∀s,At c ps led s→∀Q':Flow→Shared→Prop,(∀f s',C4 c X N f s'→Q' f s')→wpAny (model PW c.w) c.A x Q' c.E s
end
section
noncomputable def Dt(t:Expr)(c:Cf cs)(v:Value)(ps:PS)(led:Lg)(N:PS→Lg→Prop):Prop:=
 ∀v',er v'=v→∀s,At c ps led s→∀Q':Unit→Shared→Prop,(∀s' ps' led',At c ps' led' s'→N ps' led'→Q' () s')→wpAny (model PW c.w) c.A (assign t c.env v') Q' c.E s
noncomputable def Sx(c:Cf cs)(ps:PS)(a b v:Value)(led:Lg)(N:Lg→Prop):Prop:=∀a' b' v',er a'=a→er b'=b→er v'=v→G8 c ps (λu:Unit=>u) (setItem a' b' v') led λz_ l=>N l
noncomputable def Qi(n:Str)(c:Cf cs)(ps:PS)(a:Value)(v:Value)(led:Lg)(N:Lg→Prop):Prop:=∀a' v',er a'=a→er v'=v→G8 c ps (λu:Unit=>u) (setAttr a' n v') led λz_ l=>N l
noncomputable def HN(n:Nat)(t:Expr)(c:Cf cs)(v:Value)(ps:PS)(led:Lg)(N:PS→Lg→Prop):Prop:=match t with
 |.Name x p=>Ec (Ft cs x) (N (pc x v ps) led) (Dt (.Name x p) c v ps led N)
 |.Subscript o i p=>Ec (Wm i) ((Ci n c ps).e o led λa l1=>(Ci n c ps).e i l1 λb l2=>Sx c ps a b v l2 λl3=>N ps l3) (Dt (.Subscript o i p) c v ps led N)
 |.Attribute o a _=>(Ci n c ps).e o led λu l1=>Qi a c ps u v l1 λl3=>N ps l3
 |t=>Dt t c v ps led N
noncomputable def JB:Expr→Bool
 |.Tuple ..=>false
 |.List ..=>false
 |.Starred ..=>false
 |_=>true
noncomputable def YQ:Expr→Bool
 |.Compare (.NamedExpr ..) _ _ _=>true
 |_=>false
noncomputable abbrev Zw:Type:=List Stmt→PS→Lg→(PS→Lg→Prop)→Prop
noncomputable def bN(n:Nat)(c:Cf cs)(X:Ex)(go:Zw):Zw:=λcode ps led N=>match code with
 |[]=>N ps led
 |st::rest=>match st with
  |.Assign ts e pos=>(match ts with
   |[t]=>Ec (Dw e&&JB t) ((Ci n c ps).e e led λv l1=>HN n t c v ps l1 λps' l2=>go rest ps' l2 N)
    (AE c X ps (exec (.Assign [t] e pos) c.env) led λps' l1=>go rest ps' l1 N)
   |ts=>AE c X ps (exec (.Assign ts e pos) c.env) led λps' l1=>go rest ps' l1 N)
  |.AugAssign t op e pos=>El (Kv t)
   (λq=>Ec (Ft cs q.1) (El (ps.lookup q.1) (λold=>(Ci n c ps).e e led λv l1=>RB op c ps old v l1 λr l2=>go rest (pc q.1 r ps) l2 N)
    (AE c X ps (exec (.AugAssign (.Name q.1 q.2) op e pos) c.env) led λps' l1=>go rest ps' l1 N))
    (AE c X ps (exec (.AugAssign (.Name q.1 q.2) op e pos) c.env) led λps' l1=>go rest ps' l1 N))
   (AE c X ps (exec (.AugAssign t op e pos) c.env) led λps' l1=>go rest ps' l1 N)
  |.Expr e pos=>Ec (Dw e) ((Ci n c ps).e e led λz_ l1=>go rest ps l1 N)
   (AE c X ps (exec (.Expr e pos) c.env) led λps' l1=>go rest ps' l1 N)
  |.Return e _=>(match e with
   |some e=>(Ci n c ps).e e led λv l1=>X.ret v l1
   |none=>X.ret .none led)
  |.If t b o pos=>Ec (YQ t) (AE c X ps (exec (.If t b o pos) c.env) led λps' l1=>go rest ps' l1 N) ((Ci n c ps).t t led λq l1=>BB q (go b ps l1 λps' l2=>go rest ps' l2 N) (go o ps l1 λps' l2=>go rest ps' l2 N))
  |.Pass _=>go rest ps led N
  |.Continue _=>X.cont ps led
  |.Break _=>X.brk ps led
  |st=>AE c X ps (exec st c.env) led λps' l1=>go rest ps' l1 N
noncomputable def vcZ(c:Cf cs)(X:Ex):Zw:=λcode ps led N=>AE c X ps (execs code c.env) led N
noncomputable def HS(n m:Nat):Cf cs→Ex→Zw:=Nat.rec (motive:=λz_=>Cf cs→Ex→Zw) vcZ (λz_ r c X=>bN n c X (r c X)) m
end
section
variable{c:Cf cs}(hr:c.rd=none)
set_option backward.match.sparseCases true in
theorem Ku(o i:Expr)(p:Pos)(env:Env)(v:Value):assign (.Subscript o i p) env v=(do
  let ov ← holding [v] (eval o env)
  let iv ← holding [v,ov] (eval i env)
  standAt p
  holding [v,ov,iv] (setItem ov iv v)
  release (match i with | .Slice _ _ none _=>[iv,v,ov] | _=>[v,ov,iv]) []):=rfl
set_option tactic.hygienic true in
include hr in
theorem BU(h:At c ps led s)(hl:Ft cs x=true)(q:∀s',At c (pc x (er v') ps) led s'→Q () s'):wpAny (model PW c.w) c.A (storeName c.env x v') Q c.E s:=by
 obtain⟨h,tk,m,con,F,N,C,I⟩:=h;refine oA (c.own hr) λhe hc0=>?_;have split1:∀{y:Str} {u:Value},(pc x (er v') ps).lookup y=some u→(y=x∧u=er v')∨(y≠x∧ps.lookup y=some u):=λ{y u} hy=>by
  unfold pc at hy;replace hy:=List.lookup_cons.symm.trans hy;by_cases e:y=x
  ·subst e;simp only[beq_self_eq_true,Option.some.injEq] at hy;exact .inl ⟨rfl,hy.symm⟩
  ·rw[(by simpa using e:(y==x)=false)] at hy;exact .inr ⟨e,hy⟩
 unfold Ft at hl;split at hl
 ·rename_i hn;refine Aa he ?_;refine storeX_L F N (λh' F' N'=>q _ ⟨h',_,_,con,F',N',C,?_,I.cells,I.its,λz_ h=>by replace h:=hr.symm.trans h;cases h⟩) c.hk hn;intro y u hy;rcases split1 hy with ⟨rfl,rfl⟩ | ⟨e,hy⟩
  ·refine⟨v',?_,rfl⟩;unfold Rd;refine Aa hn (Aa hr ?_);exact if_pos rfl
  ·refine An (I.vars _ _ hy) λu' h1 h2=>?_;refine⟨u',?_,h2⟩;unfold Rd at h1 ⊢;split
   ·rename_i hm;simp only[hm,hr] at h1 ⊢;exact(if_neg e).trans h1
   ·rename_i hm;split at h1
    ·rename_i hm2;exact absurd hm2 hm
    ·exact h1
 ·rename_i hn;have hcl:c.env.cells=c.cl:=Aa he rfl;refine oE (c.has x hn) λca ec0=>?_;have ec:c.cl.lookup x=some ca:=hcl▸ec0
  ·
   refine Cm (I.cells x ca (hcl▸ec)) λh1 o ov h2 h3=>?_;refine Aa he ?_;refine storeX_C F (Bm N h2) ec (UpdF.head AW) h3 (λh' o' F' N' e'=>q _ ⟨h',_,_,_,F',N',λb p hb=>?_,?_,?_,?_,λz_ h=>by replace h:=hr.symm.trans h;cases h⟩) c.hk hn
   ·refine An (C b p hb) λo2 k1 k2=>?_;exact⟨o2,.tail _ (AS k1 λe=>by simp only at e;rw[e,h1] at hb;contradiction),k2⟩
   ·intro y u hy;rcases split1 hy with ⟨rfl,rfl⟩ | ⟨e,hy⟩
    ·refine⟨v',?_,rfl⟩;unfold Rd;refine Aa hn ?_;exact⟨ca,o',hcl▸ec,.head _,e'⟩
    ·refine An (I.vars _ _ hy) λu' k1 k2=>?_;refine⟨u',?_,k2⟩;unfold Rd at k1 ⊢;split at k1
     ·exact k1
     ·refine A3 k1 λa2 o2 k3 k4 k5=>?_;exact⟨a2,o2,k3,.tail _ (AS k4 λe3=>e (c.inj _ _ ca (e3▸k3) (hcl▸ec))),k5⟩
   ·intro y a2 hy;refine Cm (I.cells y a2 hy) λk1 o2 ov2 k2 k3=>?_;by_cases e3:a2=ca
    ·subst e3;exact⟨k1,o',_,.head _,e'⟩
    ·exact⟨k1,o2,ov2,.tail _ (AS k2 e3),k3⟩
   ·intro z hz;refine Cg (I.its z hz) λk1 k2 k3=>?_;exact⟨.tail _ (AS k1 λe3=>k3 x (e3▸hcl▸ec)),k2,k3⟩
 ·contradiction
theorem AE.wp(h:AE c X ps x led N)(hs:At c ps led s)(q:∀f s',C4 c X N f s'→Q' f s'):wpAny (model PW c.w) c.A x Q' c.E s:=h s hs Q' q
include hr in
theorem CU(h:HN n t c v ps led N):Dt t c v ps led N:=by
 cases t with
 |Name x p=>exact BE h (λhl h v' e s hs Q' q=>PyProof.Rows.assign_Name (BU hr hs hl λs' h'=>q _ _ _ h' (by refine Aa e ?_;exact h))) λz_ h=>h
 |Subscript o i p=>
  refine BE h (λhl h v' ev s hs Q' q=>?_) λz_ h=>h;refine Aa (Ku ..) ?_;exact wpAny_bind (wpAny_holding (((A6 n).e _ _ _ h).wp hs λa s1 l1 h1 k1=>wpAny_bind (wpAny_holding (((A6 n).e _ _ _ k1).wp h1 λb s2 l2 h2 k2=>wpAny_bind (wpAny_standAt (wpAny_bind (wpAny_holding ((k2 a b v' rfl rfl ev).wp h2 λu s3 l3 h3 k3=>wpAny_release (q _ _ _ h3 k3)))))))))
 |Attribute o n p=>
  intro v' ev s hs Q' q;have e1:assign (.Attribute o n p) c.env v'=(do
   let ov ← holding [v'] (eval o c.env)
   standAt p.atName
   holding [v',ov] (setAttr ov n v')
   release [v',ov] []):=rfl
  refine Aa e1 ?_;exact wpAny_bind (wpAny_holding (((A6 _).e _ _ _ h).wp hs λa s1 l1 h1 k1=>wpAny_bind (wpAny_standAt (wpAny_bind (wpAny_holding ((k1 a v' rfl ev).wp h1 λu s3 l3 h3 k3=>wpAny_release (q _ _ _ h3 k3)))))))
 |_=>exact h
theorem aY(hc:Dw value=true)(ht:JB t=true)(h:Op c ps (eval value c.env) led λv l1=>Dt t c v ps l1 N):AE c X ps (exec (.Assign [t] value pos) c.env) led N:=by
 intro s hs Q' q;refine Aa (exec_Assign ..) ?_;refine wpAny_bind (wpAny_standAt ?_);have hs1:swapsWithSole [t] value pos.line c.env=pure false:=DJ hc;refine Aa hs1 ?_;refine wpAny_bind (wpAny_pure ?_);refine Aa (if_neg (by decide)) ?_;have hw:swappedStores [t] value c.env=pure none:=by cases t<;>first | rfl | contradiction
 refine wpAny_bind (h.wp hs λv s1 l1 h1 k1=>?_);refine Aa hw ?_;refine wpAny_bind (wpAny_pure ?_);have e3:assignStores c.env v none ((assignEach [t] c.env).map (·.2))=(do assignAll v [assign t c.env];pure .next):=by
  cases t<;>first | rfl | contradiction
 refine Aa e3 ?_;exact wpAny_bind (wpAny_mono (k1 v rfl s1 h1 (λz_ s'=>C4 c X N .next s') λs' ps' l' a b=>⟨ps',l',a,b⟩) (λz_ s' x=>wpAny_pure (q _ _ x)) λz_ z_ x=>x)
theorem AE.next(h:AE c X ps x led N)(k:∀ps l,N ps l→N' ps l):AE c X ps x led N':=λs hs Q' q=>h s hs Q' λf s' hf=>q f s' (by
 cases f with
 |next=>refine Ax hf λp l h1 h2=>?_;exact⟨p,l,h1,k _ _ h2⟩
 |ret v=>exact hf
 |brk=>exact hf
 |cont=>exact hf)
theorem Mc{st:Stmt}{rest:List Stmt}{N:PS→Lg→Prop}(h:AE c X ps (exec st c.env) led λps' l1=>AE c X ps' (execs rest c.env) l1 N):AE c X ps (execs (st::rest) c.env) led N:=λs hs Q' q=>
 wpAny_execs_cons (h.wp hs λf s' hf=>by
  cases f with
  |next=>
   refine Ax hf λp l h1 h2=>?_;exact h2.wp h1 q
  |ret v=>exact q (.ret v) s' hf
  |brk=>exact q .brk s' hf
  |cont=>exact q .cont s' hf)
end
section
variable{c:Cf cs}(hr:c.rd=none)
include hr in
theorem TW{n:Nat}{x:Str}{op:Operator}{e:Expr}{p pos:Pos}{old:Value}{N:PS→Lg→Prop}(hl:Ft cs x=true)(ho:ps.lookup x=some old)(h:(Ci n c ps).e e led λv l1=>RB op c ps old v l1 λr l2=>N (pc x r ps) l2):AE c X ps (exec (.AugAssign (.Name x p) op e pos) c.env) led N:=λz_ hs z_ q=>
 wpAny_AugAssign_Name (KZ hs (Rv hl) ho λv' e2=>((A6 n).e _ _ _ h).wp hs λa z_ z_ h1 k1=>(Lm k1 v' a e2 rfl).wp h1 λz_ z_ z_ h2 k2=>BU hr h2 hl λz_ h3=>q .next _ ⟨_,_,h3,k2⟩)
theorem Qu{n:Nat}{e:Expr}{pos:Pos}{N:PS→Lg→Prop}(hc:Dw e=true)(h:(Ci n c ps).e e led λz_ l1=>N ps l1):AE c X ps (exec (.Expr e pos) c.env) led N:=λz_ hs z_ q=>
 wpAny_Expr_any (((A6 n).e _ _ _ h).wp hs λa s1 l1 h1 k1=>q .next _ ⟨_,_,h1,k1⟩) (by
  unfold interactive;refine(?_:(c.env.scope.kind == .module&&_)=false);refine Aa c.es (Aa c.hk ?_);rfl) (DJ hc)
include hr in
theorem TX{m n:Nat}{st:Stmt}{rest:List Stmt}{N:PS→Lg→Prop}(ih:∀{code:List Stmt} {ps:PS} {led:Lg} {N:PS→Lg→Prop},HS n m c X code ps led N→AE c X ps (execs code c.env) led N)(h:bN n c X (HS n m c X) (st::rest) ps led N):AE c X ps (exec st c.env) led λps' l1=>AE c X ps' (execs rest c.env) l1 N:=by
 cases st with
 |Assign ts e pos=>
  cases ts with
  |nil=>exact AE.next h λz_ z_ k=>ih k
  |cons t ts=>
   cases ts with
   |cons t2 ts=>exact AE.next h λz_ z_ k=>ih k
   |nil=>
    refine BE h (λhb h=>?_) λz_ h=>h.next λz_ z_ k=>ih k;rw[Bool.and_eq_true] at hb;exact(aY hb.1 hb.2 (((A6 n).e _ _ _ h).mono λv l k=>CU hr k)).next λz_ z_ k=>ih k
 |AugAssign t op e pos=>
  refine BX h (λu e h=>?_) λz_ h=>h.next λz_ z_ k=>ih k;obtain rfl:=Hb e;exact BE h (λhl h=>BX h (λold ho h=>(TW hr hl ho h).next λz_ z_ k=>ih k) λz_ h=>h.next λz_ z_ k=>ih k) λz_ h=>h.next λz_ z_ k=>ih k
 |Expr e pos=>exact BE h (λhc h=>(Qu hc h).next λz_ z_ k=>ih k) λz_ h=>h.next λz_ z_ k=>ih k
 |Return e pos=>
  cases e with
  |some e=>exact λs hs Q' q=>wpAny_Return_some (((A6 n).e _ _ _ h).wp hs λa s1 l1 h1 k1=>q (.ret a) _ ⟨_,_,h1,k1⟩)
  |none=>exact λs hs Q' q=>wpAny_Return_none (q (.ret .none) _ ⟨_,_,hs,h⟩)
 |If t b o pos=>
  exact BE h (λz_ h=>h.next λz_ z_ k=>ih k) λz_ h s hs Q' q=>wpAny_If (((A6 n).t _ _ _ h).wp hs λbb s1 l1 h1 k1=>by
   cases bb with
   |true=>exact((ih (k1.1 rfl)).next λz_ z_ k=>ih k).wp h1 q
   |false=>exact((ih (k1.2 rfl)).next λz_ z_ k=>ih k).wp h1 q)
 |Pass=>exact λs hs Q' q=>wpAny_Pass (q .next _ ⟨_,_,hs,ih h⟩)
 |Continue=>exact λs hs Q' q=>wpAny_Continue (q .cont _ ⟨_,_,hs,h⟩)
 |Break=>exact λs hs Q' q=>wpAny_Break (q .brk _ ⟨_,_,hs,h⟩)
 |_=>exact AE.next h λz_ z_ k=>ih k
include hr in
theorem Du(n m:Nat){code:List Stmt}{ps:PS}{led:Lg}{N:PS→Lg→Prop}(h:HS n m c X code ps led N):AE c X ps (execs code c.env) led N:=by
 induction m generalizing code ps led N with
 |zero=>exact h
 |succ m ih=>
  cases code with
  |nil=>exact λs hs Q' q=>wpAny_execs_nil (q .next _ ⟨ps,led,hs,h⟩)
  |cons st rest=>exact Mc (TX hr ih h)
end
structure Jr(w:World)(A:Around)(I:Addr)(n:Nat)(P:Nat→Value→Prop)(It:Nat→Obj→Prop)(U:Heap→Prop):Prop where
 item:∀i (s:Shared) (Q:Option Value→Shared→Prop) (E:Value→Shared→Prop) o,i<n→s.heap.get? I=some o→It i o→U s.heap →
  (∀v h' tk o',P i v→h'.get? I=some o'→It (i+1) o'→(∀b o,b≠I→s.heap.get? b=some o→h'.get? b=some o)→Q (some v) { s with heap:=h',toks:=tk })→wpAny (model PW w) A (pyNext (.ref I)) Q E s
 done:∀(s:Shared) (Q:Option Value→Shared→Prop) (E:Value→Shared→Prop) o,s.heap.get? I=some o→It n o→U s.heap →
  (∀h' tk,(∀b o,b≠I→s.heap.get? b=some o→h'.get? b=some o)→Q none { s with heap:=h',toks:=tk })→wpAny (model PW w) A (pyNext (.ref I)) Q E s
theorem Jr.of{w:World}{A:Around}{I:Addr}{fp:List Addr}{n:Nat}{P:Nat→Value→Prop}{St:Nat→Heap→Prop}(W:Walks PW w A I fp [I] n P St){It:Nat→Obj→Prop}{U:Heap→Prop}(h1:∀i h o,h.get? I=some o→It i o→U h→St i h)(h2:∀i h,St i h→∃o,h.get? I=some o∧It i o):Jr w A I n P It U where
 item i s Q E o hi ho hI hU q:=W.item i s Q E hi (h1 _ _ _ ho hI hU) λv h' tk hp hs hk=>by
  refine An (h2 _ _ hs) λo' e1 e2=>?_;exact q v h' tk o' hp e1 e2 λb o hb e=>hk b o (by simpa using hb) e
 done s Q E o ho hI hU q:=W.done s Q E (h1 _ _ _ ho hI hU) λh' tk hk=>q h' tk λb o hb e=>hk b o (by simpa using hb) e
structure DD{cs:Scope}(c c':Cf cs):Prop where
 dp:c'.dp=c.dp
 un:c'.un=c.un
 rd:c'.rd=c.rd
theorem DD.room(l:DD c c')(h:AU c kd ku):AU c' kd ku:=by
 unfold AU;refine Aa l.dp (Aa l.un ?_);exact h
noncomputable def Cf.wi{cs:Scope}(c:Cf cs)(I:Addr)(o:Obj):Cf cs:={ c with its:=(I,o)::c.its,rdIn:=λC h=>(oE (c.rdIn C h) λo' h'=>⟨o',.tail _ h'⟩) }
theorem Cf.wi_like(c:Cf cs)(I:Addr)(o:Obj):DD c (c.wi I o):=⟨rfl,rfl,rfl⟩
section
variable(c:Cf cs)(X:Ex)
noncomputable def BS(ps:PS)(target:Expr)(body:List Stmt)(v:Value)(led:Lg)(N:PS→Lg→Prop):Prop:=∀v',er v'=v→∀s,At c ps led s→∀Q':Flow→Shared→Prop,(∀f s',C4 c X N f s'→Q' f s') →
 wpAny (model PW c.w) c.A (pyIter v') (λit s₂=>codeAny (model PW c.w) c.A (.forLoop target it body [] c.env) (λr s'=>match r with | .ok f=>Q' f s' | .error e=>cameBackBy (model PW c.w) c.A c.env c.E e s') s₂) c.E s
end
section
variable{c:Cf cs}
theorem YW(h:Op c ps (eval iter c.env) led λv l1=>BS c X ps target body v l1 N)(hs:∀x,foldedSetIterable iter c.env x=pure x:=by intro _;rfl):AE c X ps (exec (.For target iter body [] pos) c.env) led N:=λs hs' Q' q=>
 wpAny_For (h.wp hs' λv s1 l1 h1 k1=>k1 v rfl s1 h1 Q' q) hs
theorem FP.off(hr:c.rd=none)(hne:∀q∈c.its,q.1≠I)(F:FP (c.wi I o) ps m con led):FP c ps m (off I con) led where
 vars x v e:=by
  refine An (F.vars x v e) λv' h e'=>?_;refine⟨v',?_,e'⟩;unfold Rd at h ⊢;split at h
  ·have hr2:(c.wi I o).rd=none:=hr;rw[hr2] at h;refine Aa hr ?_;exact h
  ·refine A3 h λa o1 h3 h4 h5=>?_;exact⟨a,o1,h3,AS h4 λe=>(F.its (I,o) (.head _)).2.2 x (e▸h3),h5⟩
 cells x a e:=by
  refine Cm (F.cells x a e) λh3 o1 ov h4 h5=>?_;exact⟨h3,o1,ov,AS h4 λe2=>(F.its (I,o) (.head _)).2.2 x (e2▸e),h5⟩
 its q hq:=by
  refine Cg (F.its q (.tail _ hq)) λh3 h4 h5=>?_;exact⟨AS h3 (hne q hq),h4,h5⟩
 fm _ h:=by replace h:=hr.symm.trans h;contradiction
theorem FP.on(hr:c.rd=none)(F:FP c ps m con led)(hn:∀p∈con,p.1≠I)(hl:led I=none):FP (c.wi I o) ps m ((I,o)::con) led where
 vars x v e:=by
  refine An (F.vars x v e) λv' h e'=>?_;refine⟨v',?_,e'⟩;unfold Rd at h ⊢;split at h
  ·rw[hr] at h;refine Aa hr ?_;exact h
  ·refine A3 h λa o1 h3 h4 h5=>?_;exact⟨a,o1,h3,.tail _ h4,h5⟩
 cells x a e:=by
  refine Cm (F.cells x a e) λh3 o1 ov h4 h5=>?_;exact⟨h3,o1,ov,.tail _ h4,h5⟩
 its q hq:=by
  rcases List.mem_cons.mp hq with rfl | hq
  ·refine⟨.head _,hl,λx e=>?_⟩;refine Cm (F.cells x _ e) λz_ o1 ov h4 z_=>?_;exact hn _ h4 rfl
  ·refine Cg (F.its q hq) λh3 h4 h5=>?_;exact⟨.tail _ h3,h4,h5⟩
 fm _ h:=by
  have h:c.rd=_:=h;replace h:=hr.symm.trans h;contradiction
theorem Dp(C:Dq w led con)(hl:led I=none):Dq w led (off I con):=λa o e=>by
 refine An (C a o e) λo' h1 h2=>?_;exact⟨o',AS h1 (λe2=>by
  rw[← e2,e] at hl;contradiction),h2⟩
theorem DZ(I:Nat→Shared→Prop)(turn:∀n s,I n s→wpAny (model prog w) A (pyNext it) (λr s₁=>match r with
   |none=>wpAny (model prog w) A (execs orelse env) (λf s₃=>R (.ok f) s₃) (notedBy (model prog w) A env λe s'=>R (.error e) s') s₁
   |some v=>wpAny (model prog w) A (letOwnedTupleGo target it v) (λz_ s₁'=>wpAny (model prog w) A (assign target env v) (λz_ s₂=>wpAny (model prog w) A (execs body env) (λf s₃=>match f with
     |.next | .cont=>∃m,m<n∧I m s₃
     |.brk=>R (.ok .next) s₃
     |.ret v=>R (.ok (.ret v)) s₃) (notedBy (model prog w) A env λe s'=>R (.error e) s') s₂) (notedBy (model prog w) A env λe s'=>R (.error e) s') s₁') (notedBy (model prog w) A env λe s'=>R (.error e) s') s₁) (notedBy (model prog w) A env λe s'=>R (.error e) s') s)(n:Nat)(h:I n s):codeAny (model prog w) A (.forLoop target it body orelse env) R s:=by
 refine codeAny_loop' rfl I (λn s hI=>?_) n h;change wpAny _ _ ((forTurn target it body orelse env).onRaise (λx=>do noteFrame x env;theTreesLotGoes x)) _ _ s;refine wpAny_noted ?_;unfold forTurn;refine wpAny_bind (wpAny_standAt (wpAny_bind (wpAny_onRaise (wpAny_mono (turn n s hI) (λr s₁ h₁=>?_) λz_ z_ h'=>wpAny_standAt h'))))
 cases r with
 |none=>exact wpAny_pure (.inr ⟨rfl,codeAny_block h₁⟩)
 |some v=>
  refine wpAny_bind (wpAny_mono h₁ (λz_ s₁' h₁'=>wpAny_bind (wpAny_mono h₁' (λz_ s₂ h₂=>wpAny_bind (wpAny_mono h₂ (λf s₃ h₃=>?_) λz_ z_ h'=>h')) λz_ z_ h'=>h')) λz_ z_ h'=>h')
  cases f with
  |next=>exact wpAny_pure (.inl ⟨rfl,h₃⟩)
  |cont=>exact wpAny_pure (.inl ⟨rfl,h₃⟩)
  |brk=>exact wpAny_pure h₃
  |ret v=>exact wpAny_pure h₃
noncomputable def GR(X:Ex)(N J:PS→Lg→Prop):Ex:=⟨X.ret,N,J⟩
inductive bF{cs:Scope}(c:Cf cs)(I:Addr)(n:Nat)(It:Nat→Obj→Prop)(J:Nat→PS→Lg→Prop):Nat→Shared→Prop
 |mk (h:Heap) (tk:Nat) (m:Str→Option Value) (con:Df) (led:Lg) (ps:PS) (i:Nat) (oI:Obj) (ho:h.get? I=some oI) (hI:It i oI) (F:Fr c.h₀ c.L h m) (Nw:News c.h₀ c.L h con) (C:Dq c.w led con) (I₀:FP c ps m con led) (hn:∀p∈con,p.1≠I) (hJ:J i ps led) (hi:i≤n):bF c I n It J (n+1-i) { c.s with heap:=h,toks:=tk }
inductive cG{cs:Scope}(c:Cf cs)(I:Addr)(o':Obj)(ps:PS)(led:Lg):Shared→Prop
 |mk (h:Heap) (tk:Nat) (m:Str→Option Value) (con:Df) (k1:h.get? I=some o') (k2:Fr c.h₀ c.L h m) (k3:News c.h₀ c.L h (off I con)) (k4:Dq c.w led (off I con)) (k5:FP c ps m (off I con) led):cG c I o' ps led { c.s with heap:=h,toks:=tk }
theorem FS(hr:c.rd=none)(W:Jr c.w c.A I n P It U)(J:Nat→PS→Lg→Prop)(hlt:∀i v (s:Shared) o,s.heap.get? I=some o→It i o→∀(Q:Unit→Shared→Prop) E,Q () s→wpAny (model PW c.w) c.A (letOwnedTupleGo target (.ref I) v) Q E s)(hU:∀i ps led con h,J i ps led→Dq c.w led con→News c.h₀ c.L h con→U h){h:Heap}{tk:Nat}{m:Str→Option Value}{con:Df}{oI:Obj}(F:Fr c.h₀ c.L h m)(Nw:News c.h₀ c.L h con)(C:Dq c.w led con)(I₀:FP c ps m con led)(hn:∀p∈con,p.1≠I)(ho:h.get? I=some oI)(hI:It 0 oI)(hIL:I≠c.L)(hIh:c.h₀.get? I=none)(hJ:J 0 ps led)(turn:∀c':Cf cs,c'.env=c.env→DD c c'→∀i v ps' led',i<n→P i v→J i ps' led'→led' I=none→Dt target c' (er v) ps' led' λps2 l2=>AE c' (GR X N (J (i+1))) ps2 (execs body c'.env) l2 (J (i+1)))(done:∀ps' led',J n ps' led'→N ps' led'){Q':Flow→Shared→Prop}(q:∀f s',C4 c X N f s'→Q' f s') :
  codeAny (model PW c.w) c.A (.forLoop target (.ref I) body [] c.env) (λr s'=>match r with | .ok f=>Q' f s' | .error e=>cameBackBy (model PW c.w) c.A c.env c.E e s') { c.s with heap:=h,toks:=tk }:=by
 refine DZ (bF c I n It J) ?_ (n+1) ⟨h,tk,m,con,led,ps,0,oI,ho,hI,F,Nw,C,I₀,hn,hJ,Nat.zero_le _⟩;clear hJ hn I₀ C Nw F ho hI;rintro _ _ ⟨h,tk,m,con,led,ps,i,oI,ho,hI,F,Nw,C,I₀,hn,hJ,hi⟩;have next:∀h₁:Heap,(∀b o,b≠I→h.get? b=some o→h₁.get? b=some o)→Fr c.h₀ c.L h₁ m∧News c.h₀ c.L h₁ con:=λh₁ hk₁=>
  ⟨⟨F.ns.at' λo e=>hk₁ _ o (Ne.symm hIL) e,λb o e=>hk₁ b o (λhb=>by rw[hb,hIh] at e;contradiction) (F.keep b o e),F.above⟩,λp hp=>⟨hk₁ _ _ (hn p hp) (Nw p hp).1,(Nw p hp).2⟩⟩
 have hlI:led I=none:=by
  cases e:led I with
  |none=>rfl
  |some o=>
   refine An (C _ _ e) λo' h1 z_=>?_;exact absurd rfl (hn _ h1)
 by_cases hin:i<n
 ·refine W.item i _ _ _ oI hin ho hI (hU i ps led con h hJ C Nw) λv h₁ tk₁ o' hP ho' hI' hk₁=>?_;refine oA (next h₁ hk₁) λF₁ N₁=>?_;have A₁:At (c.wi I o') ps led { c.s with heap:=h₁,toks:=tk₁ }:=⟨h₁,tk₁,m,(I,o')::con,F₁,λp hp=>by
   rcases List.mem_cons.mp hp with rfl | hp
   ·exact⟨ho',hIL,hIh⟩
   ·exact N₁ p hp,λa o e=>(An (C a o e) λo1 h1 h2=>⟨o1,.tail _ h1,h2⟩),I₀.on hr hn hlI⟩
  refine hlt (i+1) v _ o' ho' hI' _ _ ?_;refine wpAny_mono (wpAny_passesOwn (c.hE hr) (turn (c.wi I o') rfl (c.wi_like I o') i v ps led hin hP hJ hlI v rfl _ A₁ (λz_ s'=>wpAny (model PW c.w) c.A (execs body c.env) (λf s₄=>C4 (c.wi I o') (GR X N (J (i+1))) (J (i+1)) f s₄) c.E s') λs3 ps3 led3 h3 k3=>k3 s3 h3 _ λf s4 hf=>hf)) (λz_ s₃ h₃=>?_) λz_ z_ e=>e
  ·refine wpAny_mono (wpAny_passesOwn (c.hE hr) h₃) (λf s₄ h₄=>?_) λz_ z_ e=>e;have back:∀{ps3 led3 s},At (c.wi I o') ps3 led3 s→cG c I o' ps3 led3 s:=by
    rintro ps3 led3 s ⟨h,tk,m,con,F,N,C,G⟩;refine Cg (G.its (I,o') (.head _)) λk1 k2 z_=>?_;exact⟨h,tk,m,con,(N _ k1).1,F,λp hp=>N p (AM p hp),Dp C k2,G.off hr (λz hz=>hn z (I₀.its z hz).1)⟩
   have fin:(∃ps3 led3,At (c.wi I o') ps3 led3 s₄∧J (i+1) ps3 led3) →
     ∃m,m<n+1-i∧bF c I n It J m s₄:=by
    rintro ⟨ps3,led3,h3,j3⟩;obtain⟨h,tk,m,con,k1,k2,k3,k4,k5⟩:=back h3;exact⟨n+1-(i+1),I5 hin,h,tk,m,off I con,led3,ps3,i+1,o',k1,hI',k2,k3,k4,k5,AW,j3,hin⟩
   cases f with
   |ret v=>
    refine Ax h₄ λps3 led3 h3 j3=>?_;obtain⟨h,tk,m,con,k1,k2,k3,k4,k5⟩:=back h3;exact q (.ret v) _ ⟨ps3,led3,⟨h,tk,m,_,k2,k3,k4,k5⟩,j3⟩
   |brk=>
    refine Ax h₄ λps3 led3 h3 j3=>?_;obtain⟨h,tk,m,con,k1,k2,k3,k4,k5⟩:=back h3;exact q .next _ ⟨ps3,led3,⟨h,tk,m,_,k2,k3,k4,k5⟩,j3⟩
   |cont=>exact fin h₄
   |next=>exact fin h₄
 ·have hin:i=n:=KS hi hin;subst hin;refine W.done _ _ _ oI ho hI (hU i ps led con h hJ C Nw) λh₁ tk₁ hk₁=>wpAny_execs_nil ?_;refine oA (next h₁ hk₁) λF₁ N₁=>?_;exact q .next _ ⟨ps,led,⟨h₁,tk₁,m,con,F₁,N₁,C,I₀⟩,done _ _ hJ⟩
end
section
theorem D4{h₀ h:Heap}{L:Addr}{m:Str→Option Value}(F:Fr h₀ L h m):h₀.get? h.objs.size=none:=by
 cases e:h₀.get? h.objs.size with
 |none=>rfl
 |some o=>exact absurd (Heap.lt_size (F.keep _ _ e)) (Nat.lt_irrefl _)
theorem Jr.ex{ι:Type}{A:Around}{I:Addr}{n:Nat}{P:Nat→Value→Prop}{It:Nat→Obj→Prop}{P':ι→Nat→Value→Prop}{U:ι→Heap→Prop}(h:∀x,(∃h,U x h)→Jr w A I n (P' x) It (U x))(hp:∀x i v,(∃h,U x h)→P' x i v→P i v):Jr w A I n P It (λh=>∃x,U x h) where
 item i s Q E o hi ho hI hU q:=by
  refine oE hU λx hx=>?_;exact(h x ⟨_,hx⟩).item i s Q E o hi ho hI hx λv h' tk o' hv=>q v h' tk o' (hp x i v ⟨_,hx⟩ hv)
 done s Q E o ho hI hU q:=by
  refine oE hU λx hx=>?_;exact(h x ⟨_,hx⟩).done s Q E o ho hI hx q
noncomputable def K7:Expr→Bool
 |.List ..=>false
 |_=>true
theorem RF{A:Around}{I l:Addr}{i:Nat}{v:Value}{s:Shared}{Q:Unit→Shared→Prop}{E:Value→Shared→Prop}(ht:K7 target=true)(hit:s.heap.IsListIter I l i)(q:Q () s):wpAny (model PW w) A (letOwnedTupleGo target (.ref I) v) Q E s:=by
 cases v with
 |ref T=>cases target<;>first | exact wpAny_letOwnedTupleGo_listiter hit q | exact wpAny_pure q | contradiction
 |_=>cases target<;>first | exact wpAny_pure q | cases ht
theorem IH{A:Around}(hh:A.handled=none){I:Addr}(ne:a≠I):Jr w A I vs.length (λi v=>vs[i]?=some (er v)) (λi o=>∀h:Heap,h.get? I=some o→h.IsListIter I a i) (λh=>∃ws:List Value,ws.map er=vs∧h.IsList a ws.toArray):=by
 refine Jr.ex (P':=λws i v=>ws.toArray[i]?=some v) (λws hw=>?_) λws i v hw e=>?_
 ·refine An hw λz_ hw z_=>?_;have W:=Walks.list (prog:=PW) (w:=w) hh I a ne ws.toArray;have e:ws.toArray.size=vs.length:=by refine AV hw ?_;simp
  rw[e] at W;exact Jr.of W (λi h o h1 h2 h3=>⟨h2 h h1,h3.2⟩) λi h st=>by
   refine oA st λho0 z_=>?_;refine An ho0 λo h1 h2=>?_;exact⟨o,h1,λh' e=>⟨o,e,h2⟩⟩
 ·refine An hw λz_ hw z_=>?_;refine AV hw ((List.getElem?_map).trans ?_);refine Aa (by simpa using e:ws[i]?=some v) ?_;rfl
theorem MD{A:Around}(hh:A.handled=none){I:Addr}(ne:a≠I):Jr w A I vs.length (λi v=>vs[i]?=some (er v)) (λi o=>∀h:Heap,h.get? I=some o→h.IsTupleIter I a i) (λh=>∃ws:List Value,ws.map er=vs∧h.IsTuple a ws.toArray):=by
 refine Jr.ex (P':=λws i v=>ws.toArray[i]?=some v) (λws hw=>?_) λws i v hw e=>?_
 ·refine An hw λz_ hw z_=>?_;have W:=Walks.tuple (prog:=PW) (w:=w) hh I a ne ws.toArray;have e:ws.toArray.size=vs.length:=by refine AV hw ?_;simp
  rw[e] at W;exact Jr.of W (λi h o h1 h2 h3=>⟨h2 h h1,h3.2⟩) λi h st=>by
   refine oA st λho0 z_=>?_;refine An ho0 λo h1 h2=>?_;exact⟨o,h1,λh' e=>⟨o,e,h2⟩⟩
 ·refine An hw λz_ hw z_=>?_;refine AV hw ((List.getElem?_map).trans ?_);refine Aa (by simpa using e:ws[i]?=some v) ?_;rfl
theorem GT{A:Around}(hh:A.handled=none){I:Addr}{lo:Int}{n:Nat}:Jr w A I n (λi v=>er v = .int (lo+i) 0) (λi o=>∀h:Heap,h.get? I=some o→IsRangeIter h I (lo+(i:Nat)*1) ((n:Int)-(i:Nat)) 1) (λz_=>True):=by
 have I:=Jr.of (It:=λi o=>∀h:Heap,h.get? I=some o→IsRangeIter h I (lo+(i:Nat)*1) ((n:Int)-(i:Nat)) 1) (U:=λz_=>True) (Walks.range (prog:=PW) (w:=w) hh I lo 1 n) (λi h o h1 h2 h3=>h2 h h1) λi h st=>⟨_,st,λh' e=>e⟩
 exact⟨λi s Q E o hi ho hI hU q=>I.item i s Q E o hi ho hI hU λv h' tk o' hv=>q v h' tk o' (by refine oE hv λt ho1=>?_;subst ho1;simp[er]),I.done⟩
noncomputable abbrev Jg(c:Cf cs)(X:Ex)(target:Expr)(body:List Stmt)(N J:PS→Lg→Prop)(v:Value)(ps:PS)(led:Lg):Prop:=Dt target c v ps led λps2 l2=>AE c (GR X N J) ps2 (execs body c.env) l2 J
theorem M9(hr:c.rd=none)(hv:led a=some (.lst vs))(J:Nat→PS→Lg→Prop)(hJ:J 0 ps led)(hk:∀i ps l,J i ps l→l a=some (.lst vs))(hlt:K7 target=true)(turn:∀c':Cf cs,c'.env=c.env→DD c c'→∀i v ps' led',i<vs.length→vs[i]?=some v→J i ps' led'→Jg c' X target body N (J (i+1)) v ps' led')(done:∀ps' led',J vs.length ps' led'→N ps' led'):BS c X ps target body (.ref a) led N:=by
 intro v' e s hs Q' q;obtain rfl:=Af e;obtain⟨h,tk,m,con,F,Nw,C,I₀⟩:=hs;refine Ax (C.list hv) λws n hm ew=>?_;have lt:∀p∈con,p.1<h.objs.size:=λp hp=>Heap.lt_size (Nw p hp).1;refine wpAny_pyIter_list (⟨_,(Nw _ hm).1,rfl,_,rfl⟩) ?_;exact FS hr (IH rfl (Nat.ne_of_lt (lt _ hm))) J (λi v s o e hI Q E q=>RF hlt (hI _ e) q) (λi ps led con h hJ C Nw=>by
  refine Ax (C.list (hk _ _ _ hJ)) λws n hm ew=>?_;exact⟨ws,ew,_,(Nw _ hm).1,rfl,_,rfl⟩) (F.push _) (λp hp=>⟨Heap.get?_push_of_some _ (Nw p hp).1,(Nw p hp).2⟩) C I₀ (λp hp=>Nat.ne_of_lt (lt p hp)) (Heap.get?_push_size _ rfl) (λh e=>⟨_,e,rfl,rfl⟩) (Nat.ne_of_gt F.ns.lt) (D4 F) hJ
  (λc' e l i v ps' led' h1 h2 h3 z_=>turn c' e l i _ ps' led' h1 h2 h3) done q
theorem JM(hr:c.rd=none)(hv:led a=some (.tup vs))(J:Nat→PS→Lg→Prop)(hJ:J 0 ps led)(hk:∀i ps l,J i ps l→l a=some (.tup vs))(hlt:∀I v,letOwnedTupleGo target (.ref I) v=pure ())(turn:∀c':Cf cs,c'.env=c.env→DD c c'→∀i v ps' led',i<vs.length→vs[i]?=some v→J i ps' led'→Jg c' X target body N (J (i+1)) v ps' led')(done:∀ps' led',J vs.length ps' led'→N ps' led'):BS c X ps target body (.ref a) led N:=by
 intro v' e s hs Q' q;obtain rfl:=Af e;obtain⟨h,tk,m,con,F,Nw,C,I₀⟩:=hs;refine Ax (C.tuple hv) λws n hm ew=>?_;have lt:∀p∈con,p.1<h.objs.size:=λp hp=>Heap.lt_size (Nw p hp).1;refine wpAny_pyIter_tuple (⟨_,(Nw _ hm).1,rfl,_,rfl⟩) ?_;exact FS hr (MD rfl (Nat.ne_of_lt (lt _ hm))) J (λi v s o e hI Q E q=>wpAny_of_eq (hlt _ _) q) (λi ps led con h hJ C Nw=>by
  refine Ax (C.tuple (hk _ _ _ hJ)) λws n hm ew=>?_;exact⟨ws,ew,_,(Nw _ hm).1,rfl,_,rfl⟩) (F.push _) (λp hp=>⟨Heap.get?_push_of_some _ (Nw p hp).1,(Nw p hp).2⟩) C I₀ (λp hp=>Nat.ne_of_lt (lt p hp)) (Heap.get?_push_size _ rfl) (λh e=>⟨_,e,rfl,rfl⟩) (Nat.ne_of_gt F.ns.lt) (D4 F) hJ
  (λc' e l i v ps' led' h1 h2 h3 z_=>turn c' e l i _ ps' led' h1 h2 h3) done q
theorem JN(hr:c.rd=none){lo hi:Int}(hv:led a=some (.rng lo hi))(n:Nat)(hn:(n:Int)=hi-lo∨(n=0∧hi≤lo))(hs : -1000000000≤lo∧lo≤1000000000 ∧ -1000000000≤hi∧hi≤1000000000)(J:Nat→PS→Lg→Prop)(hJ:J 0 ps led)(hlt:∀I v,letOwnedTupleGo target (.ref I) v=pure ())(turn:∀c':Cf cs,c'.env=c.env→DD c c'→∀(i:Nat) ps' led',i<n→J i ps' led'→Jg c' X target body N (J (i+1)) (.int (lo+i) 0) ps' led')(done:∀ps' led',J n ps' led'→N ps' led'):BS c X ps target body (.ref a) led N:=by
 intro v' e s hs' Q' q;obtain rfl:=Af e;obtain⟨h,tk,m,con,F,Nw,C,I₀⟩:=hs';refine Ow (C _ _ hv) λo hm t u v ho5=>?_;subst ho5;have hsz:Builtin.Range.rangeSize lo hi 1=(n:Int):=by
  refine(rangeSize_one ..).trans ?_;split<;>(first | exact SX hn (by assumption) | exact SW hn (by assumption))
 refine wpAny_pyIter_range (a:=lo) (b:=hi) (c:=1) (t:=t) (u:=u) (v:=v) (Nw _ hm).1 (small_one (by lia) (by lia) (by lia) (by lia)) ?_;exact FS hr (GT (lo:=lo) (n:=n) rfl) J (λi v s o e hI Q E q=>wpAny_of_eq (hlt _ _) q) (λz_ z_ z_ z_ z_ z_ z_ z_=>trivial) (F.push _) (λp hp=>⟨Heap.get?_push_of_some _ (Nw p hp).1,(Nw p hp).2⟩) C I₀ (λp hp=>Nat.ne_of_lt ((λp hp=>Heap.lt_size (Nw p hp).1) p hp)) (Heap.get?_push_size _ rfl) (λh e=>by rw[hsz] at e;simpa using e) (Nat.ne_of_gt F.ns.lt) (D4 F) hJ
  (λc' e l i v ps' led' h1 h2 h3 z_=>by refine Aa h2 ?_;exact turn c' e l i ps' led' h1 h3) done q
end
section
variable{c:Cf cs}{K:Value→Lg→Prop}
theorem A9{α β:Type}{f:α→β}{x:Sem α}{K:β→Lg→Prop}{v:β}(hk:K v led)(h:∀(h:Heap) (tk:Nat) (m:Str→Option Value) (con:Df) (Q':α→Shared→Prop),Fr c.h₀ c.L h m→News c.h₀ c.L h con→Dq c.w led con→(∀r tk',f r=v→Q' r { c.s with heap:=h,toks:=tk' })→wpAny (model PW c.w) c.A x Q' c.E { c.s with heap:=h,toks:=tk }):G8 c ps f x led K:=by
 intro s hs Q' q;obtain⟨h1,tk,m,con,F,N,C,I⟩:=hs;exact h h1 tk m con Q' F N C λr tk' e=>q r _ led ⟨h1,tk',m,con,F,N,C,I⟩ (by refine Aa e ?_;exact hk)
theorem Cz{x:Sem Value}{o:AO}(hk:∀l,led l=none→K (.ref l) (put l o led))(h:∀(h:Heap) (tk:Nat) (m:Str→Option Value) (con:Df) (Q':Value→Shared→Prop),Fr c.h₀ c.L h m→News c.h₀ c.L h con→Dq c.w led con→(∀l h' tk' o',o.Is c.w o'→Fr c.h₀ c.L h' m→News c.h₀ c.L h' ((l,o')::con)→(∀p∈con,p.1<l)→Q' (.ref l) { c.s with heap:=h',toks:=tk' })→wpAny (model PW c.w) c.A x Q' c.E { c.s with heap:=h,toks:=tk }):Op c ps x led K:=by
 intro s hs Q' q;obtain⟨h1,tk,m,con,F,N,C,I⟩:=hs;refine h h1 tk m con Q' F N C λl h' tk' o' hi F' N' hl=>?_;refine oA (C3 (tk:=tk') F' N' C I hl hi) λe1 e2=>?_;exact q (.ref l) _ _ e2 (hk l e1)
theorem Cp{α β:Type}{f:α→β}{x:Sem α}{K:β→Lg→Prop}{v:β}{D:Addr}{o₀ o:AO}(hD:led D=some o₀)(hk:K v (put D o led))(h:∀(h:Heap) (tk:Nat) (m:Str→Option Value) (con:Df) (Q':α→Shared→Prop),Fr c.h₀ c.L h m→News c.h₀ c.L h con→Dq c.w led con→(∀r h' tk' o',f r=v→o.Is c.w o'→Fr c.h₀ c.L h' m→News c.h₀ c.L h' ((D,o')::off D con)→Q' r { c.s with heap:=h',toks:=tk' })→wpAny (model PW c.w) c.A x Q' c.E { c.s with heap:=h,toks:=tk }):G8 c ps f x led K:=by
 intro s hs Q' q;obtain⟨h1,tk,m,con,F,N,C,I⟩:=hs;exact h h1 tk m con Q' F N C λr h' tk' o' e hi F' N'=>q r _ _ (DA F' N' C I hD hi) (by refine Aa e ?_;exact hk)
theorem Bf{vs:List Value}{x:Value}(h:vs.map er=[x]):∃v,vs=[v]∧er v=x:=by
 cases vs with
 |nil=>contradiction
 |cons v r=>cases r with
  |nil=>exact⟨v,rfl,by simpa using h⟩
  |cons u r=>simp at h
theorem Cw{vs:List Value}{x y:Value}(h:vs.map er=[x,y]):∃v u,vs=[v,u]∧er v=x∧er u=y:=by
 cases vs with
 |nil=>contradiction
 |cons v r=>
  simp only[List.map_cons,List.cons.injEq] at h;refine An (Bf h.2) λu ho1 e=>?_;subst ho1;exact⟨v,u,rfl,h.1,e⟩
theorem AP{ws vs:List Value}(h:ws.map er=vs):ws.length=vs.length:=AV h (Aa (List.length_map ..) rfl)
theorem Ay{vs:List Value}(hk:∀l,led l=none→K (.ref l) (put l (.lst vs) led))(hz:Nat.ble vs.length 1000000=true:=by exact rfl):Z3 c ps vs led K:=λvs' e=>
 Cz hk λh tk m con Q' F N C q=>newList_K F N (λl h' F' N' hl=>q l h' tk _ ⟨vs',0,rfl,e⟩ F' N' hl) (Nat.le_trans (AP e▸Nat.le_of_ble_eq_true hz) (by decide))
theorem Ba{vs:List Value}(hk:∀l,led l=none→K (.ref l) (put l (.tup vs) led))(hz:Nat.ble vs.length 1000000=true:=by exact rfl):Zx c ps vs led K:=λvs' e=>
 Cz hk λh tk m con Q' F N C q=>kup_newTuple F N (λl h' F' N' hl=>q l h' tk _ ⟨vs',0,rfl,e⟩ F' N' hl) (Nat.le_trans (AP e▸Nat.le_of_ble_eq_true hz) (by decide))
theorem Hz(hv:led D=some (.lst vs))(hk:K (.int vs.length 0) led)(hz:vs.length≤1000000):A4 c ps (.builtin "len") [.ref D] led K:=λf' vs' ef ev=>by
 obtain rfl:=Aq ef;refine An (Bf ev) λv1 ho1 e1=>?_;subst ho1;obtain rfl:=Af e1;refine A9 hk λh tk m con Q' F N C q=>?_;refine Ax (C.list hv) λws n hm e=>?_;exact YJ N hm (AP e▸hz) (q _ _ (by refine AV e ?_;simp[er]))
theorem H0(n:Nat)(hv:led D=some (.lst vs))(hn:vs.length=n)(hk:K (.int n 0) led)(hz:n≤1000000):A4 c ps (.builtin "len") [.ref D] led K:=by
 subst hn;exact Hz hv hk hz
theorem CQ{n:Int}(hk:∀l,led l=none→K (.ref l) (put l (.rng 0 n) led)):A4 c ps (.type "range") [.int n 0] led K:=λf' vs' ef ev=>by
 obtain rfl:=Bj ef;refine An (Bf ev) λv1 ho1 e1=>?_;subst ho1;refine oE (AQ e1) λt1 ho1=>?_;subst ho1;refine Cz hk λh tk m con Q' F N C q=>call_range_1 ?_;exact q _ _ _ _ ⟨_,_,_,rfl⟩ (F.push _) (News.push F N _ rfl) λp hp=>Heap.lt_size (N p hp).1
theorem QI{n k:Int}(hk:∀l,led l=none→K (.ref l) (put l (.rng k n) led)):A4 c ps (.type "range") [.int k 0,.int n 0] led K:=λf' vs' ef ev=>by
 obtain rfl:=Bj ef;refine A3 (Cw ev) λv1 v2 ho2 e1 e2=>?_;subst ho2;refine oE (AQ e1) λt1 ho1=>?_;subst ho1;refine oE (AQ e2) λt2 ho1=>?_;subst ho1;refine Cz hk λh tk m con Q' F N C q=>call_range_2 ?_;exact q _ _ _ _ ⟨_,_,_,rfl⟩ (F.push _) (News.push F N _ rfl) λp hp=>Heap.lt_size (N p hp).1
noncomputable def Dv:Expr→Bool
 |.Slice ..=>false
 |_=>true
theorem CA{e:Expr}{a b:Value}(h:Dv e=true):subscripted e false a b=operate [a,b] (getItem a b):=by
 cases e<;>first | rfl | contradiction
theorem I4{v s:Expr}{k:Int}{x:Value}(hv:led D=some (.lst vs))(hx:vs[k.toNat]?=some x)(h0:0≤k)(hk:K x led)(h1:k<2^63)(hs:Dv s=true:=by rfl):Jh v s c ps (.ref D) (.int k 0) led K:=λa' b' ea eb=>by
 obtain rfl:=Af ea;refine oE (AQ eb) λt ho1=>?_;subst ho1;refine A9 hk λh tk m con Q' F N C q=>?_;refine Ax (C.list hv) λws n hm e=>?_;rw[← e,List.getElem?_map] at hx;refine An (Option.map_eq_some_iff.mp hx) λx' h3 h4=>?_;exact Vm N hm h0 h1 h3 (q _ _ h4) (CA hs)
theorem Db{v s:Expr}{x:Value}{p:List Value}(hv:led D=some (.lst (p++[x])))(hk:K x led)(hs:Dv s=true:=by rfl):Jh v s c ps (.ref D) (.int (-1) 0) led K:=λa' b' ea eb=>by
 obtain rfl:=Af ea;refine oE (AQ eb) λt ho1=>?_;subst ho1;refine A9 hk λh tk m con Q' F N C q=>?_;refine Ax (C.list hv) λws n hm e=>?_;refine A3 (List.map_eq_append_iff.mp e) λw1 w2 ho2 e1 e2=>?_;subst ho2;refine An (Bf e2) λy ho1 e3=>?_;subst ho1;exact JR N hm rfl (q _ _ e3) (CA hs)
theorem F9{v s:Expr}{k:Int}{x:Value}(hv:led D=some (.tup vs))(hx:vs[k.toNat]?=some x)(h0:0≤k)(hk:K x led)(h1:k<2^63)(hs:Dv s=true:=by rfl):Jh v s c ps (.ref D) (.int k 0) led K:=λa' b' ea eb=>by
 obtain rfl:=Af ea;refine oE (AQ eb) λt ho1=>?_;subst ho1;refine A9 hk λh tk m con Q' F N C q=>?_;refine Ax (C.tuple hv) λws n hm e=>?_;rw[← e,List.getElem?_map] at hx;refine An (Option.map_eq_some_iff.mp hx) λx' h3 h4=>?_;have hl:k.toNat<ws.length:=by
  rcases Nat.lt_or_ge k.toNat ws.length with h5 | h5
  ·exact h5
  ·replace h3:=(List.getElem?_eq_none h5).symm.trans h3;contradiction
 have ht:IsTup h D ws.toArray:=⟨_,(N _ hm).1,rfl,_,rfl⟩;refine tail_any ht.typeIs slot_tuple_getitem.lookup (getItem_tuple ht (by lia) h1 (j:=k.toNat) ?_ (by simpa using h3) (q _ _ h4)) (CA hs);unfold seqIndex?;have e5:(if k<0 then k+(ws.toArray.size:Int) else k)=k:=if_neg (λs=>aF [(4,1,zn 0,zv 8),(4,1,za (zv 8) (zn 1),zn 0)] rfl (Av 0) (Av _) h0 s);have e6:k<(ws.toArray.size:Int):=by simp only[List.size_toArray];exact WZ hl
 simp only[e5,e6,h0,decide_true,Bool.and_self,if_true]
theorem UE{b:Expr}{x:Str}{t:Tok}{r:Value}:letTemporaryGo b (.str x t) r=pure ():=by cases b<;>rfl
theorem CD{v s:Expr}{x:Str}{k:Int}(h1 : -(x.length:Int)≤k)(h2:k<x.length)(hk:K (.str (Txt.item x k) 0) led)(h3:x.length≤1000000)(hs:Dv s=true:=by rfl):Jh v s c ps (.str x 0) (.int k 0) led K:=λa' b' ea eb=>by
 refine oE (AB ea) λt ho1=>?_;subst ho1;refine oE (AQ eb) λu ho1=>?_;subst ho1;exact A9 hk λh tk m con Q' F N C q=>item_str (fitsSsize_of (N:=9223372036854775808) (aZ (za (.neg (zn 9223372036854775808)) (zn 1)) (zv 8) [(4,1,.neg (zv 0),zv 8),(0,1,zv 0,zn 1000000)] rfl (Av _) (Av _) h1 h3) (aZ (za (zv 8) (zn 1)) (zn 9223372036854775808) [(4,1,za (zv 8) (zn 1),zv 0),(0,1,zv 0,zn 1000000)] rfl (Av _) (Av _) h2 h3) (Int.le_refl _)) h1 h2 (λz_=>q _ _ rfl) (CA hs) λz_=>UE
theorem Aw{x:Str}{id:String}{K:Value×List Value→Lg→Prop}(sl:Slot "list" x id)(hy:typeOf (.builtin id)=pure (.type "method_descriptor"))(hv:led D=some (.lst vs))(hk:K (.builtin id,[.ref D]) led):Gp x c ps (.ref D) led K:=λa' pl ea=>by
 obtain rfl:=Af ea;refine A9 hk λh tk m con Q' F N C q=>?_;refine Ax (C.list hv) λws n hm e=>?_;exact listMethod_K N hm sl hy (q _ _ rfl)
theorem Au{x:Value}(hv:led D=some (.lst vs))(hk:K .none (put D (.lst (vs++[x])) led))(hz:vs.length≤1000000):A4 c ps (.builtin "list.append") [.ref D,x] led K:=λf' vs' ef ev=>by
 obtain rfl:=Aq ef;refine A3 (Cw ev) λv1 v2 ho2 e1 e2=>?_;subst ho2;obtain rfl:=Af e1;refine Cp hv hk λh tk m con Q' F N C q=>?_;refine Ax (C.list hv) λws n hm e=>?_;exact Qd F N hm (AP e▸hz) λh' F' N'=>q _ h' tk _ rfl ⟨_,_,rfl,by refine List.map_append.trans (Aa e (Aa List.map_cons (Aa e2 ?_)));rfl⟩ F' N'
theorem HI{x:Value}{p:List Value}(hv:led D=some (.lst (p++[x])))(hk:K x (put D (.lst p) led))(hz:p.length≤100000):A4 c ps (.builtin "list.pop") [.ref D] led K:=λf' vs' ef ev=>by
 obtain rfl:=Aq ef;refine An (Bf ev) λv1 ho1 e1=>?_;subst ho1;obtain rfl:=Af e1;refine Cp hv hk λh tk m con Q' F N C q=>?_;refine Ax (C.list hv) λws n hm e=>?_;refine A3 (List.map_eq_append_iff.mp e) λw1 w2 ho2 e1 e2=>?_;subst ho2;refine An (Bf e2) λy ho1 e3=>?_;subst ho1;exact SI F N hm rfl (by simp;exact aN (zv 0) (zn 999999) [(0,1,zv 1,zn 100000),(1,1,zv 0,zv 1)] rfl (Az _ _) Ae hz (AP e1)) λh' F' N'=>q _ h' tk _ e3 ⟨_,_,rfl,e1⟩ F' N'
theorem CC{K:Bool→Lg→Prop}(hv:led D=some (.lst vs))(hk:K (!vs.isEmpty) led)(hz:vs.length≤1000000):Qg c ps (.ref D) led K:=λa' ea=>by
 obtain rfl:=Af ea;refine A9 hk λh tk m con Q' F N C q=>?_;refine Ax (C.list hv) λws n hm e=>?_;exact Ny N hm (AP e▸hz) (by refine AV e ?_;cases ws<;>rfl) (q _ _ rfl)
noncomputable def Ch{α β:Type}(R:α→β→Prop):List α→List β→Prop
 |[],[]=>True
 |a::r,b::s=>R a b∧Ch R r s
 |_,_=>False
noncomputable def Qo:Nat→Lg→Value→Dat→Prop
 |0,_,_,_=>False
 |n+1,led,v,d=>match d with
  |.none=>v = .none
  |.bool b=>v = .bool b
  |.int i=>v = .int i 0
  |.str x=>v = .str x 0
  |.tuple ds=>∃a vs,v = .ref a∧led a=some (.tup vs)∧Ch (Qo n led) vs ds
  |.list ds=>∃a vs,v = .ref a∧led a=some (.lst vs)∧Ch (Qo n led) vs ds
  |_=>False
section
variable{R S:α→β→Prop}
theorem Ch.ind{P:List α→List β→Prop}(h0:P [] [])(h1:∀a b l r,R a b→Ch R l r→P l r→P (a::l) (b::r)){l:List α}{r:List β}(h:Ch R l r):P l r:=by
 induction l generalizing r with
 |nil=>cases r with
  |nil=>exact h0
  |cons b r=>exact h.elim
 |cons a l ih=>cases r with
  |nil=>exact h.elim
  |cons b r=>exact h1 a b l r h.1 h.2 (ih h.2)
theorem Ch.mono(h:∀a b,R a b→S a b){l:List α}{r:List β}(k:Ch R l r):Ch S l r:=Ch.ind (P:=Ch S) trivial (λ_ _ _ _ a _ i=>⟨h _ _ a,i⟩) k
theorem Ch.length{l:List α}{r:List β}(k:Ch R l r):l.length=r.length:=Ch.ind (R:=R) (P:=λl r=>l.length=r.length) rfl (λ_ _ _ _ _ _ i=>congrArg (· + 1) i) k
theorem Ch.snoc{a:α}{b:β}(h:R a b){l:List α}{r:List β}(k:Ch R l r):Ch R (l++[a]) (r++[b]):=Ch.ind (P:=λl r=>Ch R (l++[a]) (r++[b])) (show Ch R [a] [b] from ⟨h,trivial⟩) (λx y l r h2 _ i=>(⟨h2,i⟩:Ch R (x::(l++[a])) (y::(r++[b])))) k
theorem Ch.unsnoc(k:Ch R l (r++[b])):∃p a,l=p++[a]∧Ch R p r∧R a b:=by
 induction r generalizing l with
 |nil=>cases l with
  |nil=>exact k.elim
  |cons a l=>cases l with
   |nil=>exact⟨[],a,rfl,trivial,k.1⟩
   |cons a l=>exact k.2.elim
 |cons c r ih=>cases l with
  |nil=>exact k.elim
  |cons a l=>exact A3 (ih k.2) λp u e h1 h2=>⟨a::p,u,congrArg (List.cons a) e,⟨k.1,h1⟩,h2⟩
theorem Ch.get{i:Nat}{l:List α}{r:List β}{b:β}(k:Ch R l r):r[i]?=some b→∃a,l[i]?=some a∧R a b:=
 Ch.ind (P:=λl r=>∀i,r[i]?=some b→∃a,l[i]?=some a∧R a b) (λi e=>(Option.some_ne_none b (e.symm.trans List.getElem?_nil)).elim) (λa c l r h _ ih i e=>by
  cases i with
  |zero=>exact⟨a,rfl,Option.some.inj e▸h⟩
  |succ i=>exact ih i e) k i
end
theorem Qo.mono(x:Am l l')(h:Qo n l v d):Qo n l' v d:=by
 induction n generalizing v d with
 |zero=>exact h
 |succ n ih=>
  cases d with
  |tuple ds=>refine A3 h λa vs h1 h2 h3=>?_;exact⟨a,vs,h1,x _ _ h2,h3.mono λz_ z_ k=>ih k⟩
  |list ds=>refine A3 h λa vs h1 h2 h3=>?_;exact⟨a,vs,h1,x _ _ h2,h3.mono λz_ z_ k=>ih k⟩
  |_=>exact h
noncomputable abbrev Jm(n:Nat)(l:Lg):List Value→List Dat→Prop:=Ch (Qo n l)
theorem Bt(x:Am l l')(h:Jm n l vs ds):Jm n l' vs ds:=h.mono λz_ z_ k=>k.mono x
theorem H5{con:Df}{R:Value→Dat→Prop}(h:∀v d,R v d→∀v',er v'=v→DatIn con v' d){ws vs:List Value}{ds:List Dat}(k:Ch R vs ds)(e:ws.map er=vs):DatAll con ws ds:=
 Ch.ind (P:=λvs ds=>∀ws:List Value,ws.map er=vs→DatAll con ws ds) (λws e=>by obtain rfl:=List.map_eq_nil_iff.mp e;exact .nil) (λv d vs ds k _ ih ws e=>A3 (List.map_eq_cons_iff.mp e) λw ws h1 h2 h3=>by
  subst h1;exact .cons (h _ _ k _ h2) (ih _ h3)) k ws e
set_option tactic.hygienic true in
theorem Qo.toIn(C:Dq w led con)(h:Qo n led u d)(v:Value)(e:er v=u):DatIn con v d:=by
 induction n generalizing u d v with
 |zero=>exact h.elim
 |succ n ih=>
  cases d<;>try cases h
  ·obtain rfl:=E1 e;exact .none
  ·obtain rfl:=E2 e;exact .bool _
  ·refine oE (AQ e) λt ho1=>?_;subst ho1;exact .int _ t
  ·refine oE (AB e) λt ho1=>?_;subst ho1;exact .str _ t
  ·rename_i a h;refine B7 h λvs ho1 h2 h3=>?_;subst ho1;obtain rfl:=Af e;refine Ax (C.tuple h2) λws n hm e=>?_;exact .tuple hm (H5 (λv d k v' e=>ih k v' e) h3 e)
  ·rename_i a h;refine B7 h λvs ho1 h2 h3=>?_;subst ho1;obtain rfl:=Af e;refine Ax (C.list h2) λws n hm e=>?_;exact .list hm (H5 (λv d k v' e=>ih k v' e) h3 e)
noncomputable def ZF:Dat→Value
 |.none=>.none
 |.bool b=>.bool b
 |.int i=>.int i 0
 |.str x=>.str x 0
 |_=>.ellipsis
noncomputable def R8:Dat→Bool
 |.none=>true
 |.bool _=>true
 |.int _=>true
 |.str _=>true
 |_=>false
theorem Ha(h:ds.all R8=true):Jm (n+1) l (ds.map ZF) ds:=by
 induction ds with
 |nil=>exact trivial
 |cons d ds ih=>
  replace h:=Bool.and_eq_true_iff.mp (List.all_cons.symm.trans h);refine⟨?_,ih h.2⟩;cases d<;>first | rfl | exact absurd h.1 Bool.false_ne_true
theorem aX(k:Qo n l v d)(h:R8 d=true):v=ZF d:=by
 cases n with
 |zero=>exact k.elim
 |succ n=>cases d<;>first | exact k | exact absurd h Bool.false_ne_true
theorem Zs{n:Nat}{l:Lg}{vs:List Value}{ds:List Dat}(k:Jm n l vs ds)(h:ds.all R8=true):vs=ds.map ZF:=
 Ch.ind (P:=λvs ds=>ds.all R8=true→vs=ds.map ZF) (λz_=>rfl) (λv d vs ds k _ ih h=>by
  replace h:=Bool.and_eq_true_iff.mp (List.all_cons.symm.trans h);refine Aa (aX k h.1) (Aa (ih h.2) ?_);rfl) k h
theorem EY(hv:led D=some (.lst vs))(hb:led b=some (.lst us))(hd:Jm n led vs ds)(he:Jm n' led us es)(ha:∀d∈ds,kqdOk 8 d=true)(hb2:∀d∈es,kqdOk 8 d=true)(hu:c.un+64<cLine)(hr:r=true↔ds≠es)(hk:K (.bool r) led):Ky .NotEq c ps (.ref D) (.ref b) led K:=λa' b' ea eb=>by
 obtain rfl:=Af ea;obtain rfl:=Af eb;refine A9 hk λh tk m con Q' F N C q=>?_;refine Ax (C.list hv) λws n hm e=>?_;refine Ax (C.list hb) λxs n2 hm2 e4=>?_;refine kqd_ne N hm rfl rfl (H5 (λv d k v' e=>k.toIn C v' e) hd e) (λz_ h=>h) hm2 rfl rfl (H5 (λv d k v' e=>k.toIn C v' e) he e4) (λz_ h=>h) ha hb2 hu (q _ _ ?_)
 cases r with
 |true=>have:=hr.mp rfl;simp[er,this]
 |false=>have:ds=es:=Classical.byContradiction λh=>nomatch hr.mpr h;simp[er,this]
end
theorem Bx{f:Value→Value}{x:Str}:∀{l:PS},(l.map λy=>(y.1,f y.2)).lookup x=(l.lookup x).map f:=by
 intro r
 induction r with
 |nil=>exact rfl
 |cons hd_ r ih=>
  obtain⟨y,u⟩:=hd_;simp only[List.map_cons,List.lookup_cons]
  cases x==y with
  |true=>rfl
  |false=>exact ih
theorem EJ{ns:List Str}{vs':List Value}:ns.zip (vs'.map er)=(ns.zip vs').map λy=>(y.1,er y.2):=List.zip_map_right
section
theorem Zp{P:Shared→Prop}(h:∀s:Shared,P s→BindsTo s fd ⟨[],[]⟩ []):∀(s:Shared) (vs:List Value),P s→vs.length=0→BindsTo s fd ⟨vs,[]⟩ (([]:List Str).zip vs):=λs vs p e=>by
 cases vs with | cons v vs=>contradiction | nil=>
 exact h s p
theorem CL{n0:Str}{P:Shared→Prop}(h:∀s:Shared,P s→∀v0,BindsTo s fd ⟨[v0],[]⟩ [(n0,v0)]):∀(s:Shared) (vs:List Value),P s→vs.length=1→BindsTo s fd ⟨vs,[]⟩ (([n0]:List Str).zip vs):=λs vs p e=>by
 cases vs with | nil=>contradiction | cons v0 vs=>
 cases vs with | cons v vs=>cases e | nil=>
 exact h s p v0
theorem Fh{n0 n1:Str}{P:Shared→Prop}(h:∀s:Shared,P s→∀v0 v1,BindsTo s fd ⟨[v0,v1],[]⟩ [(n0,v0),(n1,v1)]):∀(s:Shared) (vs:List Value),P s→vs.length=2→BindsTo s fd ⟨vs,[]⟩ (([n0,n1]:List Str).zip vs):=λs vs p e=>by
 cases vs with | nil=>contradiction | cons v0 vs=>
 cases vs with | nil=>cases e | cons v1 vs=>
 cases vs with | cons v vs=>cases e | nil=>
 exact h s p v0 v1
theorem TJ{n0 n1 n2:Str}{P:Shared→Prop}(h:∀s:Shared,P s→∀v0 v1 v2,BindsTo s fd ⟨[v0,v1,v2],[]⟩ [(n0,v0),(n1,v1),(n2,v2)]):∀(s:Shared) (vs:List Value),P s→vs.length=3→BindsTo s fd ⟨vs,[]⟩ (([n0,n1,n2]:List Str).zip vs):=λs vs p e=>by
 cases vs with | nil=>contradiction | cons v0 vs=>
 cases vs with | nil=>cases e | cons v1 vs=>
 cases vs with | nil=>cases e | cons v2 vs=>
 cases vs with | cons v vs=>cases e | nil=>
 exact h s p v0 v1 v2
theorem TI{n0 n1 n2 n3 n4:Str}{P:Shared→Prop}(h:∀s:Shared,P s→∀v0 v1 v2 v3 v4,BindsTo s fd ⟨[v0,v1,v2,v3,v4],[]⟩ [(n0,v0),(n1,v1),(n2,v2),(n3,v3),(n4,v4)]):∀(s:Shared) (vs:List Value),P s→vs.length=5→BindsTo s fd ⟨vs,[]⟩ (([n0,n1,n2,n3,n4]:List Str).zip vs):=λs vs p e=>by
 cases vs with | nil=>contradiction | cons v0 vs=>
 cases vs with | nil=>cases e | cons v1 vs=>
 cases vs with | nil=>cases e | cons v2 vs=>
 cases vs with | nil=>cases e | cons v3 vs=>
 cases vs with | nil=>cases e | cons v4 vs=>
 cases vs with | cons v vs=>cases e | nil=>
 exact h s p v0 v1 v2 v3 v4
end
noncomputable def Hp(K:Value→Lg→Prop):Ex:=⟨K,λz_ z_=>False,λz_ z_=>False⟩
section
variable{c:Cf cs}{K:Value→Lg→Prop}
noncomputable def Ed(c:Cf cs)(ps:PS)(f:Value)(vs:List Value)(led:Lg)(K:Value→Lg→Prop):Prop:=
 ∀f' vs',er f'=f→vs'.map er=vs→∀s,At c ps led s→∀R:Result→Shared→Prop,(∀v s' led',At c ps led' s'→K (er v) led'→R (.ok (.ret v)) s')→codeAny (model PW c.w) c.A (.call f' ⟨vs',[]⟩) R s
theorem Ed.r{f:Value}{vs:List Value}(h:Ed c ps f vs led K):A4 c ps f vs led K:=λf' vs' ef ev s hs Q' q=>wpAny_call (h f' vs' ef ev s hs _ q)
theorem Lw{name qual:Str}{params:Arguments}{body:List Stmt}{scope:Scope}{dV kV doc pm cdv ct oc:Value}{an od:Option Addr}{osl:Array (Option Value)}{f:Addr}{vs:List Value}(ns:List Str)(ds:List Value)(ho:(hd0.heap_1 c.w.params).lookup f=some ⟨oc,od,.func (fnOf name qual params body scope dV kV doc pm an cdv ct),osl⟩)(hcd:codeIn (hd0.heap_1 c.w.params) cdv qual=true)(hb:∀(s:Shared) (vs':List Value),(hd0.heap_1 c.w.params).In s.heap→vs'.length=vs.length→BindsTo s (fnOf name qual params body scope dV kV doc pm an cdv ct) ⟨vs',[]⟩ (ns.zip (vs'++ds)))(hds:ds.map er=ds)(hl:ns.all (λx=>decide (scope.names.lookup x=some .local))=true)(hco:scope.isCoroutine=false)(hgen:scope.isGenerator=false)(hk:scope.kind = .function)(hcell:scope.names.all (λx=>x.2 != .cell)=true)(room:c.dp<recursionLimit)(h:∀c':Cf scope,c'.dp=c.dp+1→c'.un=c.un+3→c'.rd=none→AE c' (Hp K) (ns.zip (vs++ds)).reverse (execs body c'.env) led λz_ l=>K .none l):Ed c ps (.ref f) vs led K:=by
 intro f' vs' ef ev s hs R q;obtain rfl:=Af ef;obtain⟨h0,tk,m,con,F,N,C,I⟩:=hs;have hloc:∀y∈ns.zip (vs'++ds),scope.names.lookup y.1=some .local:=λy hy=>of_decide_eq_true (List.all_eq_true.mp hl y.1 (List.of_mem_zip hy).1);have hce:∀x∈scope.names,x.2 ≠ .cell:=λx hx=>by simpa using List.all_eq_true.mp hcell x hx
 refine code_def c.B F c.X N c.T rfl rfl c.hk₀ ho hcd room (hb _ vs' (c.X.keeps F.keep) (AV ev (Aa (List.length_map ..) rfl))) hloc (λg L' h₁ FG F' N' B' X' T'=>?_) hco hgen hk hce
 let env':=envX qual scope L' f cdv []
 let c':Cf scope:={
  w:=c.w,dp:=c.dp+1,un:=c.un+3,gd:=c.gd,cn:=qual,cs₀:=scope,L:=L',a:=f,ccd:=cdv,cl:=[],outer:=envX c.cn c.cs₀ c.L c.a c.ccd c.cl::c.outer
  A₀:=c.A,base:=c.base,h₀:=g,p:=c.p,loose:=c.loose,mean:=c.mean,mg:=c.mg,mb:=c.mb,s:=c.s,fm:=λz_=>none,its:=con.filter λq=>(led q.1).isNone
  E:=λe s'=>wpAny (model PW c.w) (c.A.deeper env') (leaving env' e) (λz_ s''=>R (.error e) s'') (λe' s''=>R (.error e') s'') s'
  env:=env',rd:=none,B:=B',X:=X',T:=T',hk₀:=hk,hk:=hk,es:=rfl,eg:=rfl,eb:=rfl,own:=λz_=>⟨rfl,rfl⟩,loc:=(λz_ h=>by contradiction),rdIn:=(λz_ h=>by contradiction),inj:=(λz_ z_ z_ h=>by contradiction)
  has:=λx hx=>absurd rfl (hce (x,.cell) (As hx)),hE:=λz_=>PassesOwn.leaving }
 have A₁:At c' (ns.zip (vs++ds)).reverse led { c.s with heap:=h₁,toks:=tk+(ns.zip (vs'++ds)).length }:=by
  refine⟨h₁,_,_,con,F',N',C,⟨λx v hv=>?_,(λx a h=>by contradiction),λz hz=>?_,(λz_ h=>by contradiction)⟩⟩
  ·rw[show vs++ds=(vs'++ds).map er by exact Aa List.map_append (Aa ev (Aa hds rfl)),EJ,← List.map_reverse,Bx] at hv;refine An (Option.map_eq_some_iff.mp hv) λv' h1 h2=>?_;refine⟨v',?_,h2⟩;unfold Rd;refine Aa (hloc (x,v') (List.mem_reverse.mp (As h1))) ?_;exact h1
  ·refine oA (List.mem_filter.mp hz) λh1 h2=>?_;exact⟨h1,by simpa using h2,λx h=>by contradiction⟩
 have back:∀{ps' led' s'},At c' ps' led' s'→∃m' con',Fr g L' s'.heap m'∧News g L' s'.heap con'∧(Fr c.h₀ c.L s'.heap m→News c.h₀ c.L s'.heap con'→At c ps led' s'):=by
  rintro ps' led' s' ⟨h2,tk2,m2,con2,F2,N2,C2,I2⟩;refine⟨m2,con2,F2,N2,λF3 N3=>⟨h2,tk2,m,con2,F3,N3,C2,?_⟩⟩;have key:∀z∈con,led z.1=none→z∈c'.its:=λz hz e=>List.mem_filter.mpr ⟨hz,by refine Aa e ?_;rfl⟩;exact I.step (λz hz e=>(I2.its z (key z hz e)).1) λz hz e=>(I2.its z (key z hz e)).2.1
 refine(h c' rfl rfl rfl).wp A₁ λfl s' hf=>?_
 cases fl with
 |ret v=>
  refine Ax hf λps' led' h2 h3=>?_;refine A3 (back h2) λm' con' F2 N2 hb2=>?_;exact leaveK_ F2 N2 λF3 N3=>q v s' led' (hb2 F3 N3) h3
 |next=>
  refine Ax hf λps' led' h2 h3=>?_;refine A3 (back h2) λm' con' F2 N2 hb2=>?_;exact leaveK_ F2 N2 λF3 N3=>q .none s' led' (hb2 F3 N3) h3
 |brk=>
  refine Ax hf λz_ z_ z_ h3=>?_;exact h3.elim
 |cont=>
  refine Ax hf λz_ z_ z_ h3=>?_;exact h3.elim
theorem Fy{name qual:Str}{params:Arguments}{body:List Stmt}{scope:Scope}{dV kV doc pm cdv ct oc:Value}{an od:Option Addr}{osl:Array (Option Value)}{f:Addr}{vs:List Value}(ns:List Str)(ho:(hd0.heap_1 c.w.params).lookup f=some ⟨oc,od,.func (fnOf name qual params body scope dV kV doc pm an cdv ct),osl⟩)(hcd:codeIn (hd0.heap_1 c.w.params) cdv qual=true)(hb:∀(s:Shared) (vs':List Value),(hd0.heap_1 c.w.params).In s.heap→vs'.length=vs.length→BindsTo s (fnOf name qual params body scope dV kV doc pm an cdv ct) ⟨vs',[]⟩ (ns.zip vs'))(hl:ns.all (λx=>decide (scope.names.lookup x=some .local))=true)(hco:scope.isCoroutine=false)(hgen:scope.isGenerator=false)(hk:scope.kind = .function)(hcell:scope.names.all (λx=>x.2 != .cell)=true)(room:c.dp<recursionLimit)(h:∀c':Cf scope,c'.dp=c.dp+1→c'.un=c.un+3→c'.rd=none→AE c' (Hp K) (ns.zip vs).reverse (execs body c'.env) led λz_ l=>K .none l):Ed c ps (.ref f) vs led K:=
 Lw ns [] ho hcd (λs vs' X e=>by refine Aa (List.append_nil ..) ?_;exact hb s vs' X e) rfl hl hco hgen hk hcell room (by refine Aa (List.append_nil ..) ?_;exact h)
theorem RO{name qual:Str}{params:Arguments}{body:List Stmt}{scope:Scope}{dV kV doc pm cdv ct oc:Value}{an od:Option Addr}{osl:Array (Option Value)}{f:Addr}{vs:List Value}(ns:List Str)(ho:(hd0.heap_1 c.w.params).lookup f=some ⟨oc,od,.func (fnOf name qual params body scope dV kV doc pm an cdv ct),osl⟩)(hcd:codeIn (hd0.heap_1 c.w.params) cdv qual=true)(hb:∀(s:Shared) (vs':List Value),(hd0.heap_1 c.w.params).In s.heap→vs'.length=vs.length→BindsTo s (fnOf name qual params body scope dV kV doc pm an cdv ct) ⟨vs',[]⟩ (ns.zip vs'))(hl:ns.all (λx=>decide (scope.names.lookup x=some .local))=true)(hco:scope.isCoroutine=false)(hgen:scope.isGenerator=false)(hk:scope.kind = .function)(hcell:scope.names.all (λx=>x.2 != .cell)=true)(room:c.dp<recursionLimit)(h:∀c':Cf scope,c'.dp=c.dp+1→c'.un=c.un+3→c'.rd=none→AE c' (Hp K) (ns.zip vs).reverse (execs body c'.env) led λz_ l=>K .none l):A4 c ps (.ref f) vs led K:=
 (Fy ns ho hcd hb hl hco hgen hk hcell room h).r
theorem Be{name qual:Str}{params:Arguments}{body:List Stmt}{scope:Scope}{dV kV doc pm cdv ct oc:Value}{an od:Option Addr}{osl:Array (Option Value)}{f:Addr}{vs:List Value}{a b:Nat}(ns:List Str)(ho:(hd0.heap_1 c.w.params).lookup f=some ⟨oc,od,.func (fnOf name qual params body scope dV kV doc pm an cdv ct),osl⟩)(hb:∀(s:Shared) (vs':List Value),(hd0.heap_1 c.w.params).In s.heap→vs'.length=vs.length→BindsTo s (fnOf name qual params body scope dV kV doc pm an cdv ct) ⟨vs',[]⟩ (ns.zip vs'))(room:AU c (a+1) (b+10))(h:∀c':Cf scope,c'.dp=c.dp+1→c'.un=c.un+3→c'.rd=none→AU c' a b→AE c' (Hp K) (ns.zip vs).reverse (execs body c'.env) led λz_ l=>K .none l)(hcd:codeIn (hd0.heap_1 c.w.params) cdv qual=true:=by k_is)(hl:ns.all (λx=>decide (scope.names.lookup x=some .local))=true:=by decide)(hco:scope.isCoroutine=false:=by rfl)(hgen:scope.isGenerator=false:=by rfl)(hk:scope.kind = .function:=by rfl)(hcell:scope.names.all (λx=>x.2 != .cell)=true:=by rfl):A4 c ps (.ref f) vs led K:=
 RO ns ho hcd hb hl hco hgen hk hcell (Nat.lt_of_le_of_lt (Nat.le_add_right _ _) room.1) λc' hd hu hr=>h c' hd hu hr (.dn hd hu room)
end
noncomputable def SJ:List Str→List Value→PS→PS
 |n::ns,v::vs,ps=>SJ ns vs (pc n v ps)
 |_,_,ps=>ps
noncomputable def BR(ps:PS)(ns:List Str):List (Option Value):=ns.map λx=>ps.lookup x
noncomputable def HO:PS→PS→Prop
 |[],_=>True
 |(x,v)::r,ps=>ps.lookup x=some v∧HO r ps
theorem HO.get{ps q:PS}(s:HO q ps)(x:Str)(v:Value)(h:q.lookup x=some v):ps.lookup x=some v:=by
 induction q with
 |nil=>contradiction
 |cons y r ih=>
  replace h:=List.lookup_cons.symm.trans h;split at h
  ·rename_i e;obtain rfl:=Option.some.inj h;refine Aa (eq_of_beq e) ?_;exact s.1
  ·exact ih s.2 h
theorem Bb{ps:PS}{ns:List Str}{vs:List Value}(h:BR ps ns=vs.map some):HO (ns.zip vs) ps:=by
 induction ns generalizing vs with
 |nil=>exact trivial
 |cons n ns ih=>
  cases vs with
  |nil=>exact trivial
  |cons v vs=>injection h with h1 h2;exact⟨h1,ih h2⟩
noncomputable def Wk(N:PS→Lg→Prop)(ps:PS)(l:Lg):Prop:=∃q,HO q ps∧N q l
noncomputable def LJ{σ:Type}(ns:List Str)(vals:σ→List Value)(Inv:Nat→σ→Lg→Prop)(i:Nat):PS→Lg→Prop:=λps l=>∃x,Inv i x l∧BR ps ns=(vals x).map some
section
theorem At.weak{s:Shared}(h:At c ps led s)(k:HO q ps):At c q led s:=by
 obtain⟨h,tk,m,con,F,Nw,C,I⟩:=h;exact⟨h,tk,m,con,F,Nw,C,⟨λx v e=>I.vars x v (k.get x v e),I.cells,I.its,I.fm⟩⟩
theorem BS.weak{v:Value}(h:BS c X ps target body v led (Wk N)):BS c X ps target body v led N:=λv' e s hs Q' k=>h v' e s hs Q' λf s' hf=>k f s' (by
 cases f with
 |next=>
  refine JA hf λp l h1 q h2 h3=>?_;exact⟨q,l,h1.weak h2,h3⟩
 |ret v=>exact hf
 |brk=>exact hf
 |cont=>exact hf)
theorem Dt.weak{t:Expr}{v:Value}(k:HO q ps)(h:Dt t c v q led N):Dt t c v ps led N:=λv' e s hs Q' r=>h v' e s (hs.weak k) Q' r
end
section
theorem A7(hr:c.rd=none)(m n:Nat){code:List Stmt}(h:HS n m c X code ps led N):AE c X ps (execs code c.env) led N:=Du hr n m h
noncomputable def V8:Expr→Option Value
 |.Constant k _ _=>Sc k
 |_=>none
set_option tactic.hygienic true in
theorem PA{n:Nat}{e:Expr}{v:Value}{l:Lg}{K:Value→Lg→Prop}(h:V8 e=some v):(Ci (n+1) c ps).e e l K=K v l:=by
 cases e<;>try contradiction
 rename_i k p q;refine(?_:El (Sc k) (λu=>K u l) _=_);refine Aa (show Sc k=some v from h) ?_;rfl
noncomputable def aS(val:Bool→Value)(K:Value→Lg→Prop)(q:Bool)(l1:Lg):Prop:=K (val q) l1
theorem H4(n:Nat)(val:Bool→Value){t b o:Expr}{p:Pos}{K:Value→Lg→Prop}(h1:V8 b=some (val true))(h2:V8 o=some (val false))(h:(Ci (n+1) c ps).t t led (aS val K)):(Ci (n+2) c ps).e (.IfExp t b o p) led K:=by
 refine(?_:(Ci (n+1) c ps).t t led λq l1=>BB q ((Ci (n+1) c ps).e b l1 K) ((Ci (n+1) c ps).e o l1 K));have e:(λq l1=>BB q ((Ci (n+1) c ps).e b l1 K) ((Ci (n+1) c ps).e o l1 K))=aS val K:=by
  funext q l1
  unfold aS;refine Aa (PA h1) (Aa (PA h2) ?_)
  cases q with
  |true=>exact propext ⟨λh=>h.1 rfl,λh=>.t rfl h⟩
  |false=>exact propext ⟨λh=>h.2 rfl,λh=>.f rfl h⟩
 refine Aa e ?_;exact h
theorem Bn(n:Nat)(h:(Ci n c ps).e iter led λv l1=>BS c X ps target body v l1 N)(hs:∀x,foldedSetIterable iter c.env x=pure x:=by intro _;rfl):AE c X ps (exec (.For target iter body [] pos) c.env) led N:=YW ((A6 n).e _ _ _ h) hs
noncomputable abbrev Qh(m n:Nat)(target:Expr)(body:List Stmt)(c:Cf cs)(X:Ex)(N J:PS→Lg→Prop)(v:Value)(ps:PS)(led:Lg):Prop:=
 ∀(Y:Ex) (M:PS→Lg→Prop),(∀u l,X.ret u l→Y.ret u l)→(∀p l,N p l→Y.brk p l)→(∀p l,J p l→Y.cont p l)→(∀p l,J p l→M p l)→HN n target c v ps led λps2 l2=>HS n m c Y body ps2 l2 M
theorem Hi(hr:c.rd=none){m n:Nat}{target:Expr}{body:List Stmt}{v:Value}(h:Qh m n target body c X N J v ps led):Jg c X target body N J v ps led:=by
 intro v' e s hs Q' q;exact CU hr (h (GR X N J) J (λz_ z_ k=>k) (λz_ z_ k=>k) (λz_ z_ k=>k) (λz_ z_ k=>k)) v' e s hs Q' λs' ps' led' h1 h3=>q s' ps' led' h1 (Du hr n m h3)
end
section
variable(m n:Nat)(ns:List Str)(vals:σ→List Value)(Inv:Nat→σ→Lg→Prop)
theorem Et(hr:c.rd=none)(hv:led a=some (.lst vs))(x₀:σ)(h0:Inv 0 x₀ led)(hps:BR ps ns=(vals x₀).map some)(hk:∀i x l,Inv i x l→l a=some (.lst vs))(turn:∀c':Cf cs,DD c c'→c'.rd=none→∀i v x led',i<vs.length→vs[i]?=some v→Inv i x led'→Qh m n target body c' X (Wk N) (LJ ns vals Inv (i+1)) v (ns.zip (vals x)) led')(done:∀x led',Inv vs.length x led'→N (ns.zip (vals x)) led')(hlt:K7 target=true:=by rfl):BS c X ps target body (.ref a) led N:=
 BS.weak (M9 hr hv (LJ ns vals Inv) ⟨x₀,h0,hps⟩ (λi z_ l hX=>An hX λx h z_=>hk i x l h) hlt (λc' z_ l i v ps' led' h1 h2 hX=>An hX λx h3 h4=>Dt.weak (Bb h4) (Hi (l.rd.trans hr) (turn c' l (l.rd.trans hr) i v x led' h1 h2 h3))) λps' led' hX=>An hX λx h1 h2=>⟨_,Bb h2,done x led' h1⟩)
noncomputable def LB{σ:Type}(ns:List Str)(vals:σ→List Value)(Br:σ→Lg→Prop):PS→Lg→Prop:=λps l=>∃x,Br x l∧BR ps ns=(vals x).map some
theorem UX(Br:σ→Lg→Prop)(hr:c.rd=none)(hv:led a=some (.lst vs))(x₀:σ)(h0:Inv 0 x₀ led)(hps:BR ps ns=(vals x₀).map some)(hk:∀i x l,Inv i x l→l a=some (.lst vs))(turn:∀c':Cf cs,DD c c'→c'.rd=none→∀i v x led',i<vs.length→vs[i]?=some v→Inv i x led'→Qh m n target body c' X (LB ns vals Br) (LJ ns vals Inv (i+1)) v (ns.zip (vals x)) led')(fin:∀x led',Inv vs.length x led'→Br x led')(done:∀x led',Br x led'→N (ns.zip (vals x)) led')(hlt:K7 target=true:=by rfl):BS c X ps target body (.ref a) led N:=
 Et m n ns vals Inv hr hv x₀ h0 hps hk (λc' l hr' i v x led' h1 h2 h3 Y M y1 y2 y3 y4=>turn c' l hr' i v x led' h1 h2 h3 Y M y1 (λp l hX=>An hX λz e1 e2=>y2 p l ⟨_,Bb e2,done z l e1⟩) y3 y4) (λx led' h=>done x led' (fin x led' h)) hlt
theorem I9(hr:c.rd=none)(hv:led a=some (.tup vs))(x₀:σ)(h0:Inv 0 x₀ led)(hps:BR ps ns=(vals x₀).map some)(hk:∀i x l,Inv i x l→l a=some (.tup vs))(turn:∀c':Cf cs,DD c c'→c'.rd=none→∀i v x led',i<vs.length→vs[i]?=some v→Inv i x led'→Qh m n target body c' X (Wk N) (LJ ns vals Inv (i+1)) v (ns.zip (vals x)) led')(done:∀x led',Inv vs.length x led'→N (ns.zip (vals x)) led')(hlt:∀I v,letOwnedTupleGo target (.ref I) v=pure ():=by intro _ _;rfl):BS c X ps target body (.ref a) led N:=
 BS.weak (JM hr hv (LJ ns vals Inv) ⟨x₀,h0,hps⟩ (λi z_ l hX=>An hX λx h z_=>hk i x l h) hlt (λc' z_ l i v ps' led' h1 h2 hX=>An hX λx h3 h4=>Dt.weak (Bb h4) (Hi (l.rd.trans hr) (turn c' l (l.rd.trans hr) i v x led' h1 h2 h3))) λps' led' hX=>An hX λx h1 h2=>⟨_,Bb h2,done x led' h1⟩)
theorem GS(hr:c.rd=none){lo hi:Int}(hv:led a=some (.rng lo hi))(k:Nat)(hn:(k:Int)=hi-lo∨(k=0∧hi≤lo))(hs : -1000000000≤lo∧lo≤1000000000 ∧ -1000000000≤hi∧hi≤1000000000)(x₀:σ)(h0:Inv 0 x₀ led)(hps:BR ps ns=(vals x₀).map some)(turn:∀c':Cf cs,DD c c'→c'.rd=none→∀(i:Nat) (z:Int) x led',i<k→z=lo+i→Inv i x led'→Qh m n target body c' X (Wk N) (LJ ns vals Inv (i+1)) (.int z 0) (ns.zip (vals x)) led')(done:∀x led',Inv k x led'→N (ns.zip (vals x)) led')(hlt:∀I v,letOwnedTupleGo target (.ref I) v=pure ():=by intro _ _;rfl):BS c X ps target body (.ref a) led N:=
 BS.weak (JN hr hv k hn hs (LJ ns vals Inv) ⟨x₀,h0,hps⟩ hlt (λc' z_ l i ps' led' h1 hX=>An hX λx h3 h4=>Dt.weak (Bb h4) (Hi (l.rd.trans hr) (turn c' l (l.rd.trans hr) i _ x led' h1 rfl h3))) λps' led' hX=>An hX λx h1 h2=>⟨_,Bb h2,done x led' h1⟩)
end
noncomputable def C6:List Expr→Option (List Str)
 |[]=>some []
 |.Name x _::r=>(C6 r).map (x::·)
 |_::_=>none
theorem By(h:Am l l')(n:l D=none):Am l (put D o l'):=λa p e=>Ab (h a p e) λe2=>by rw[e2,n] at e;contradiction
set_option tactic.hygienic true in
theorem CI(h:Am l l'):Am (put D o l) (put D o l'):=λa p e=>by
 unfold put at e ⊢;split
 ·rename_i e2;replace e:=(if_pos e2).symm.trans e;exact e
 ·rename_i e2;replace e:=(if_neg e2).symm.trans e;exact h _ _ e
theorem A0(h:l a=none)(n:a≠t):put t o l a=none:=(if_neg n).trans h
theorem Ag{l:Lg}{a b:Addr}{o:AO}(h:l a=some o)(n:l b=none):a≠b:=λe=>by rw[e,n] at h;contradiction
theorem Ak(x:Am l l')(h:l' a=none):l a=none:=by
 cases e:l a with
 |none=>rfl
 |some o=>replace h:=(x _ _ e ..).symm.trans h;contradiction
theorem KB{α:Type}(l:List α):l=[]∨∃p y,l=p++[y]:=by
 by_cases h:l=[]
 ·exact .inl h
 ·exact .inr (KC h)
section
variable{c:Cf cs}
set_option tactic.hygienic true in
theorem Ge(h:C6 elts=some ns):(assignEach elts env).length=ns.length∧(assignEach elts env).findIdx? (·.1)=none:=by
 induction elts generalizing ns with
 |nil=>obtain rfl:=Option.some.inj h;exact⟨rfl,rfl⟩
 |cons e r ih=>
  cases e<;>try contradiction
  rename_i x p;simp only[C6] at h;refine An (Option.map_eq_some_iff.mp h) λms h1 h2=>?_;subst h2;refine oA (ih h1) λh3 h4=>?_;refine⟨congrArg (· + 1) h3,?_⟩;simp only[assignEach,List.findIdx?_cons,h4];rfl
set_option tactic.hygienic true in
theorem II(hr:c.rd=none)(h:C6 elts=some ns)(hk:ns.all (Ft cs)=true):∀{vs:List Value} {ps:PS} {led:Lg} {s:Shared} {Q:Unit→Shared→Prop},vs.length=ns.length→At c ps led s→(∀s',At c (SJ ns (vs.map er) ps) led s'→Q () s')→wpAny (model PW c.w) c.A (assignInOrder ((assignEach elts c.env).map (·.2)) vs) Q c.E s:=by
 induction elts generalizing ns with
 |nil=>intro vs ps led s Q _ hs q;obtain rfl:=Option.some.inj h;exact wpAny_pure (q s hs)
 |cons e r ih=>
  cases e<;>try contradiction
  rename_i x p;simp only[C6] at h;obtain⟨ms,h1,h2⟩:=Option.map_eq_some_iff.mp h;subst h2;intro vs ps led s Q hl hs q;rw[List.all_cons,Bool.and_eq_true] at hk
  cases vs with
  |nil=>contradiction
  |cons v vs=>
   refine wpAny_bind (wpAny_holding (PyProof.Rows.assign_Name (BU hr hs hk.1 λs' h'=>?_)));exact ih h1 hk.2 (Nat.succ.inj hl) h' q
theorem At.read(h:At c ps led s):∃m con,Fr c.h₀ c.L s.heap m∧News c.h₀ c.L s.heap con∧Dq c.w led con∧∀h' tk',Fr c.h₀ c.L h' m→News c.h₀ c.L h' con→At c ps led { s with heap:=h',toks:=tk' }:=by
 obtain⟨h,tk,m,con,F,Nw,C,I⟩:=h;exact⟨m,con,F,Nw,C,λh' tk' F' N'=>⟨h',tk',m,con,F',N',C,I⟩⟩
theorem EF(ns:List Str)(hr:c.rd=none)(ha:led a=some (.tup vs))(hn:C6 elts=some ns)(hl:vs.length=ns.length)(h:N (SJ ns vs ps) led)(hk:ns.all (Ft cs)=true:=by rfl):Dt (.Tuple elts k pos) c (.ref a) ps led N:=by
 intro v' e s hs Q' q;obtain rfl:=Af e;refine C0 hs.read λm con F Nw C back=>?_;refine Ax (C.tuple ha) λws n hm ew=>?_;refine oA (Ge (env:=c.env) hn) λh1 h2=>?_;have hl2:=AP ew;refine unpackN_ F Nw ⟨_,(Nw _ hm).1,rfl,_,rfl⟩ rfl (Aa h1 (Aa List.size_toArray (Aa hl2 (Aa hl rfl)))) h2 λh' F' N'=>?_;refine Aa List.toList_toArray ?_;refine II hr hn hk (hl2.trans hl) (back h' s.toks F' N') λs' h3=>q s' _ _ h3 ?_;refine Aa ew ?_;exact h
theorem Kr(hr:c.rd=none)(hk:ns.all (Ft cs)=true):∀{vs:List Value} {ps:PS} {led:Lg} {s:Shared} {Q:Unit→Shared→Prop},vs.length=ns.length→At c ps led s→(∀s',At c (SJ ns (vs.map er) ps) led s'→Q () s')→wpAny (model PW c.w) c.A (assignInOrder (ns.map λn=>bindName c.env n) vs) Q c.E s:=by
 induction ns with
 |nil=>exact λz_ hs q=>wpAny_pure (q _ hs)
 |cons x ns ih=>
  intro vs ps led s Q hl hs q
  cases vs with
  |nil=>exact absurd hl nofun
  |cons v vs=>
   rw[List.all_cons,Bool.and_eq_true] at hk;exact wpAny_bind (wpAny_holding (bindName_ (BU hr hs hk.1 λs' h'=>ih hk.2 (Nat.succ.inj hl) h' q)))
noncomputable def ZJ(ns:List Str)(ps:PS)(N:PS→Lg→Prop)(vs:List Value)(l1:Lg):Prop:=vs.length=ns.length∧∀t,l1 t=none→N (SJ ns.reverse vs.reverse ps) (put t (.tup vs) l1)
theorem B3(n:Nat)(hr:c.rd=none)(ns:List Str)(h:(Ci n c ps).l es led (ZJ ns ps N))(hw:∀env:Env,env.scope=cs→swappedStores [.Tuple ts k p] (.Tuple es k2 p2) env=pure (some ns))(hk:ns.all (Ft cs)=true:=by rfl)(hz:ns.length≤100:=by decide):AE c X ps (exec (.Assign [.Tuple ts k p] (.Tuple es k2 p2) pos) c.env) led N:=by
 intro s hs Q' q;refine Assign_Tuple_swapped (Tuple_ (((A6 n).l _ _ _ h _).wp hs λvs s1 l1 h1 k1=>?_)) rfl (hw _ c.es);refine oA k1 λkl k1=>?_;replace kl:=(List.length_map ..).symm.trans kl;refine(Ba (c:=c) (ps:=ps) (K:=λv l=>∃t,v = .ref t∧l1 t=none∧l=put t (.tup (vs.map er)) l1) (λt ht=>⟨t,rfl,ht,rfl⟩) (by refine Aa (List.length_map ..) ?_;exact Nat.ble_eq_true_of_le (by lia)) vs rfl).wp h1 λv s2 l2 h2 k2=>?_;refine B7 k2 λt e ht ho3=>?_;subst ho3;obtain rfl:=Af e;refine C0 h2.read λm con F Nw C back=>?_;refine Ax (C.tuple Ac) λws n2 hm ew=>?_;have hl2:=AP ew;replace hl2:=hl2.trans (List.length_map ..);refine unpackItemsN_ F Nw ⟨_,(Nw _ hm).1,rfl,_,rfl⟩ rfl (Aa List.size_toArray (Aa hl2 (Aa kl rfl))) λh' F' N'=>?_;refine Aa List.toList_toArray ?_;refine Kr hr (by refine List.all_reverse.trans ?_;exact hk) (by simp[hl2,kl]) (back h' s2.toks F' N') λs' h3=>q .next s' ⟨_,_,h3,?_⟩;refine Aa List.map_reverse (Aa ew ?_);exact k1 t ht
theorem Ee(n:Nat)(hr:c.rd=none)(h:(Ci n c ps).e value led λv l1=>Dt (.Tuple ts k p) c v ps l1 N)(hc:Dw value=true:=by rfl)(hw:∀env:Env,env.scope=cs→swappedStores [.Tuple ts k p] value env=pure none):AE c X ps (exec (.Assign [.Tuple ts k p] value pos) c.env) led N:=λs hs Q' q=>
 Assign_Tuple (((A6 n).e _ _ _ h).wp hs λv s1 l1 h1 k1=>k1 v rfl s1 h1 _ λs2 ps2 l2 h2 k2=>q .next s2 ⟨ps2,l2,h2,k2⟩) (by
  exact(DJ hc:swapsWith value (some (.Tuple ts k p)) pos.line c.env=pure false)) (hw _ c.es)
theorem Cc(n:Nat)(hr:c.rd=none)(h:(Ci n c ps).e value led λv l1=>HN n t c v ps l1 λps2 l2=>HN n u c v ps2 l2 N)(he:∀env,(assignEach [t,u] env).map (·.2)=[assign t env,assign u env]:=by intro _;rfl)(hw:∀env:Env,env.scope=cs→swappedStores [t,u] value env=pure none:=by intro _ _;rfl):AE c X ps (exec (.Assign [t,u] value pos) c.env) led N:=λs hs Q' q=>
 wpAny_Assign_two (((A6 n).e _ _ _ h).wp hs λv s1 l1 h1 k1=>CU hr k1 v rfl s1 h1 _ λs2 ps2 l2 h2 k2=>CU hr k2 v rfl s2 h2 _ λs3 ps3 l3 h3 k3=>q .next s3 ⟨ps3,l3,h3,k3⟩) (he _) (hw _ c.es)
theorem Nh(n:Nat)(hr:c.rd=none)(h:(Ci n c ps).e value led λv l1=>HN n t c v ps l1 λps2 l2=>HN n u c v ps2 l2 λps3 l3=>HN n z c v ps3 l3 N)(he:∀env,(assignEach [t,u,z] env).map (·.2)=[assign t env,assign u env,assign z env]:=by intro _;rfl)(hw:∀env:Env,env.scope=cs→swappedStores [t,u,z] value env=pure none:=by intro _ _;rfl):AE c X ps (exec (.Assign [t,u,z] value pos) c.env) led N:=λs hs Q' q=>
 wpAny_Assign_three (((A6 n).e _ _ _ h).wp hs λv s1 l1 h1 k1=>CU hr k1 v rfl s1 h1 _ λs2 ps2 l2 h2 k2=>CU hr k2 v rfl s2 h2 _ λs3 ps3 l3 h3 k3=>CU hr k3 v rfl s3 h3 _ λs4 ps4 l4 h4 k4=>q .next s4 ⟨ps4,l4,h4,k4⟩) (he _) (hw _ c.es)
end
noncomputable def BL(x y:Str):Str:=if Txt.startswith y "/"=true then y else if (x.length:Int)=0 then y else if Txt.endswith x "/"=true then x++y else x++("/"++y)
theorem R6(h:Txt.startswith y "/"=true):y=BL x y:=by unfold BL;exact Aa (if_pos h) rfl
theorem R0(h:Txt.startswith y "/"=false)(h2:(x.length:Int)=0):y=BL x y:=by unfold BL;exact Aa (if_neg (by rw[h];decide)) (Aa (if_pos h2) rfl)
theorem Rz(h:Txt.startswith y "/"=false)(h2:(x.length:Int)≠0)(h3:Txt.endswith x "/"=true):x++y=BL x y:=by unfold BL;exact Aa (if_neg (by rw[h];decide)) (Aa (if_neg h2) (Aa (if_pos h3) rfl))
theorem Ry(h:Txt.startswith y "/"=false)(h2:(x.length:Int)≠0)(h3:Txt.endswith x "/"=false):x++("/"++y)=BL x y:=by unfold BL;exact Aa (if_neg (by rw[h];decide)) (Aa (if_neg h2) (Aa (if_neg (by rw[h3];decide)) rfl))
noncomputable def AX(nc:List Str)(c:Str):List Str:=if (c.length:Int)=0 then nc else if (c==(Str.ofString "."))=true then nc else if (c != (Str.ofString ".."))=true then nc++[c] else if nc=[] then nc else if (nc.getLast?==some (Str.ofString ".."))=true then nc++[c] else nc.dropLast
section
theorem ns1(h:(c.length:Int)=0):AX nc c=nc:=by unfold AX;exact(if_pos h).trans rfl
theorem ns2(h:(c.length:Int)≠0)(h2:(c==(Str.ofString "."))=true):AX nc c=nc:=by unfold AX;exact(if_neg h).trans ((if_pos h2).trans rfl)
theorem ns3(h:(c.length:Int)≠0)(h2:(c==(Str.ofString "."))=false)(h3:(c != (Str.ofString ".."))=true):AX nc c=nc++[c]:=by unfold AX;exact(if_neg h).trans ((if_neg (by rw[h2];decide)).trans ((if_pos h3).trans rfl))
theorem ns4(h:(c.length:Int)≠0)(h2:(c==(Str.ofString "."))=false)(h3:(c != (Str.ofString ".."))=false):AX [] c=[]:=by unfold AX;rw[if_neg h,if_neg (by rw[h2];decide),if_neg (by rw[h3];decide),if_pos rfl]
theorem ns5(h:(c.length:Int)≠0)(h2:(c==(Str.ofString "."))=false)(h3:(c != (Str.ofString ".."))=false)(h4:(z==(Str.ofString ".."))=true):AX (nc++[z]) c=nc++[z]++[c]:=by
 unfold AX;rw[if_neg h,if_neg (by rw[h2];decide),if_neg (by rw[h3];decide),if_neg (by simp),if_pos];rw[List.getLast?_concat];exact h4
theorem ns6(h:(c.length:Int)≠0)(h2:(c==(Str.ofString "."))=false)(h3:(c != (Str.ofString ".."))=false)(h4:(z==(Str.ofString ".."))=false):AX (nc++[z]) c=nc:=by
 unfold AX;rw[if_neg h,if_neg (by rw[h2];decide),if_neg (by rw[h3];decide),if_neg (by simp),if_neg,List.dropLast_concat];refine Aa (List.getLast?_concat) ?_;refine(?_:¬((z==(Str.ofString ".."))=true));refine Aa h4 ?_;decide
theorem Iq{α:Type}(l:List α):l=[]∨∃p y,l=p++[y]:=by
 by_cases h:l=[]
 ·exact .inl h
 ·exact .inr (KC h)
theorem O2{l b:List Str}:∀y∈l.foldl AX b,y∈b∨y∈l:=by
 induction l generalizing b with
 |nil=>exact λy hy=>.inl hy
 |cons c r ih=>
  intro y hy;rcases ih y hy with h | h
  ·unfold AX at h
   repeat' (split at h)
   all_goals first
    |exact .inl h
    |exact(List.mem_append.mp h).elim .inl λh=>.inr (by refine Aa (List.mem_singleton.mp h) ?_;exact .head _)
    |exact .inl (List.dropLast_subset _ h)
  ·exact .inr (.tail _ h)
theorem Pn{α β:Type}{f:β→α→β}{b r:β}{l:List α}{i:Nat}{x:α}(h:l[i]?=some x)(e:r=(l.take i).foldl f b):(l.take (i+1)).foldl f b=f r x:=by
 refine Aa List.take_add_one (Aa h (List.foldl_append.trans (AV e ?_)));rfl
end
noncomputable def Em(x:Str):Str:=(Str.ofString "/")++Txt.join (Str.ofString "/") ((Txt.split (Txt.slice x (some 1) none) (Str.ofString "/")).foldl AX [])
noncomputable def Ah:Nat→Str
 |0=>"/a"
 |1=>"/u/b"
 |2=>"/u/v/c"
 |_=>"/w/d"
noncomputable def G7:Nat→Str
 |0=>"/"
 |1=>"/u"
 |2=>"/u/v"
 |_=>"/w"
noncomputable def C5:Nat→Nat→Str
 |0,0=>"a"
 |0,1=>"u/b"
 |0,2=>"u/v/c"
 |0,_=>"w/d"
 |1,0=>"../a"
 |1,1=>"b"
 |1,2=>"v/c"
 |1,_=>"../w/d"
 |2,0=>"../../a"
 |2,1=>"../b"
 |2,2=>"c"
 |2,_=>"../../w/d"
 |_,0=>"../a"
 |_,1=>"../u/b"
 |_,2=>"../u/v/c"
 |_,_=>"d"
noncomputable def Bz(f g:Nat):Nat→Str
 |0=>"<"++Ah g
 |1=>"<"++C5 f g
 |_=>"<"++("x/.././"++C5 f g)
noncomputable def Og(x:Str):Bool:=decide (x.length≤1000)&&decide (x.length≠0)&&(Txt.slice x none (some 1)=="/")&&(Txt.slice x (some 1) (some 2) != "/")&&decide ((Txt.split (Txt.slice x (some 1) none) "/").length≤1000)
theorem Uo:((List.range 4).all λf=>(List.range 4).all λg=>(List.range 3).all λk=>Og (BL (G7 f) (Txt.slice (Bz f g k) (some 1) none))&&(Em (BL (G7 f) (Txt.slice (Bz f g k) (some 1) none))==Ah g)&&decide ((Txt.slice (Bz f g k) (some 1) none).length≤1000))=true:=by decide +kernel
theorem Ic(hf:f<4)(hg:g<4)(hk:k<3):let x:=BL (G7 f) (Txt.slice (Bz f g k) (some 1) none)
  x.length≤1000∧(x.length:Int)≠0∧(Txt.slice x none (some 1) != "/")=false∧(Txt.slice x (some 1) (some 2) != "/")=true∧(Txt.split (Txt.slice x (some 1) none) "/").length≤1000∧Em x=Ah g∧(Txt.slice (Bz f g k) (some 1) none).length≤1000:=by
 have h3:=List.all_eq_true.mp (List.all_eq_true.mp (List.all_eq_true.mp Uo f (List.mem_range.mpr hf)) g (List.mem_range.mpr hg)) k (List.mem_range.mpr hk);simp only[Og,Bool.and_eq_true,decide_eq_true_eq,beq_iff_eq] at h3;refine oA h3 λho0 g2=>?_;refine oA ho0 λho0 g1=>?_;obtain⟨⟨⟨⟨a,b⟩,c⟩,d⟩,e⟩:=ho0;exact⟨a,Xa b,by refine Aa c ?_;decide,d,e,g1,g2⟩
theorem RU(f:Nat):(G7 f).length≤1000:=by
 match f with
 |0=>decide
 |1=>decide
 |2=>decide
 |n+3=>show("/w").length≤1000;decide
noncomputable def Ff(x:Str):Bool:=Txt.item x 0=="<"
noncomputable def Bo(f:Nat)(x:Str):Str:=if Ff x=true then Em (BL (G7 f) (Txt.slice x (some 1) none)) else x
noncomputable def ZI(f:Nat)(x:Str):Prop:=Ff x=true→∃g k,g<4∧k<3∧x=Bz f g k
theorem U7(h:(Txt.item x 0=="<")=true):Bo f x=Em (BL (G7 f) (Txt.slice x (some 1) none)):=by unfold Bo Ff;rw[if_pos h]
theorem U8(h:(Txt.item x 0=="<")=false):Bo f x=x:=by unfold Bo Ff;rw[if_neg (by rw[h];decide)]
noncomputable def Ql(a b:Int)(f:Nat):Prop:=a.fmod b=f∧(f:Int)<b
theorem FD(a b:Int)(hb:0<b):∃f,Ql a b f:=by
 have e:a.fmod b=((a.fmod b).toNat:Int):=(Int.toNat_of_nonneg (Int.fmod_nonneg_of_pos a hb)).symm;exact⟨_,e,by refine AV e ?_;exact Int.fmod_lt_of_pos a hb⟩
noncomputable def CY(p:Nat→Addr):List Value:=[.ref (p 0),.ref (p 1),.ref (p 2),.ref (p 3)]
noncomputable def K6{α:Type}(a b c:α):Nat→α
 |0=>a
 |1=>b
 |_=>c
theorem O5(f g:Nat):(C5 f g).length≤20:=by rcases f with _ | _ | _ | f<;>rcases g with _ | _ | _ | g<;>exact Nat.le_of_ble_eq_true rfl
theorem Mg(g:Nat):(Ah g).length≤20:=by rcases g with _ | _ | _ | g<;>exact Nat.le_of_ble_eq_true rfl
theorem LP{a b c:Str}(k:Nat){n:Nat}(h1:a.length≤n)(h2:b.length≤n)(h3:c.length≤n):(K6 a b c k).length≤n:=by unfold K6;split<;>assumption
noncomputable abbrev Bu:=Str ⊕ Nat
noncomputable def upd{α:Type}(v:Nat→α)(f:Nat)(x:α):Nat→α:=λi=>if i=f then x else v i
theorem Ao:upd v f x f=x:=if_pos rfl
theorem Ai(h:i≠f):upd v f x i=v i:=if_neg h
noncomputable def CW{α:Type}(a b c d:α):Nat→α
 |0=>a
 |1=>b
 |2=>c
 |_=>d
section
variable{E:Value→Shared→Prop}{vs ws:List Value}
theorem MK(F:Fr h₀ L s.heap m)(N:News h₀ L s.heap news)(hm:(D,listOf vs.toArray n)∈news)(hb:(b,listOf ws.toArray k)∈news)(hne:b≠D)(hz:vs.length≤1000000)(hz2:ws.length≤1000000)(h:∀h' n',Fr h₀ L h' m→News h₀ L h' ((D,listOf (vs++ws).toArray n')::off D news)→Q .none { s with heap:=h' }):wpAny (model prog w) A (call (.builtin "list.extend") [.ref D,.ref b]) Q E s:=by
 by_cases hw:ws=[]
 ·subst hw;refine kxn_extend F (Bm N hm) (.tail _ (AS hb hne)) (by simp) DI ?_ (by simpa using Nat.le_trans hz (by decide)) (by simp only[List.size_toArray];exact Nat.le_trans (Nat.add_le_add hz hz2) (by decide)) (λh' F' N'=>h h' n F' (by refine Aa (List.append_nil ..) ?_;exact N'));simp only[List.size_toArray];intro q;simp only[Bool.and_eq_true] at q;have q2:=q.2;unfold Builtin.List.listTooLong at q2;simp[(rfl:sizeLine=16777216)] at q2;exact aF [(0,1,zv 0,zn 1000000),(0,1,za (zn 16777216) (zn 1),zv 0)] rfl (Av _) Ae hz q2
 ·exact Pr F N hm hb hne hw hz hz2 (λh' F' N'=>h h' _ F' N')
noncomputable def B4(l:List Int):Int:=l.foldl max (-1)
theorem Hj{l:List Int}{z:Int}:z≤l.foldl max z:=by
 induction l generalizing z with
 |nil=>exact Int.le_refl _
 |cons a r ih=>exact Int.le_trans (Int.le_max_left z a) ih
theorem K5{l:List Int}{z a:Int}(h:a∈l):a≤l.foldl max z:=by
 induction l generalizing z with
 |nil=>contradiction
 |cons b r ih=>
  rcases List.mem_cons.mp h with rfl | h
  ·exact Int.le_trans (Int.le_max_right z a) Hj
  ·exact ih h
theorem O1(N:News h₀ L s.heap news)(hm:(D,listOf vs.toArray n)∈news)(hi:IntsAre vs ns)(h:∀c:Bool,(c=true↔x∉ns)→Q (.bool c) s):wpAny (model prog w) A (compareOp .NotIn (.int x t) (.ref D)) Q E s:=
 notin_list_ints (AD N hm) hi (h _ (by
  rw[Bool.not_eq_true',← Bool.not_eq_true,List.any_eq_true];simp))
theorem Us{x:Int}{i:Nat}{t u:Tok}{Q:Unit→Shared→Prop}(F:Fr h₀ L s.heap m)(N:News h₀ L s.heap news)(hm:(D,listOf vs.toArray n)∈news)(hi:IntsAre vs ns)(h1:i<ns.length)(h2:i<1000)(h:∀h',Fr h₀ L h' m→News h₀ L h' ((D,listOf (vs.set i (.int x u)).toArray n)::off D news)→IntsAre (vs.set i (.int x u)) (ns.set i x)→Q () { s with heap:=h' }):wpAny (model prog w) A (setItem (.ref D) (.int (i:Int) t) (.int x u)) Q E s:=
 ksa_set F (Bm N hm) DI hi (aZ (zn 0) (zv 0) [] rfl (Av _) Ae) (aZ (za (zv 0) (zn 1)) (zv 1) [(0,1,za (zv 0) (zn 1),zv 1)] rfl (Az _ _) Ae h1) (by lia) (λh' F' N' hi' z_ z_=>h h' F' N' hi')
end
section
variable{K:Type}[DecidableEq K]
theorem AL{x k:K}{y:Value}{r:List (K×Value)}:valueAt ((x,y)::r) k=if x=k then some y else valueAt r k:=by
 unfold valueAt;refine Aa (List.find?_cons) ?_;by_cases e:x=k
 ·simp[e]
 ·simp[e]
theorem Gw{l:List (K×Value)}{k k':K}{v:Value}(h:k'≠k):valueAt (l.map λkv=>if kv.1=k then (kv.1,v) else kv) k'=valueAt l k':=by
 induction l with
 |nil=>rfl
 |cons a r ih=>
  obtain⟨x,y⟩:=a;refine Aa List.map_cons ?_;by_cases e:x=k
  ·have e2:¬x=k':=λq=>h (q.symm.trans e);exact Aa (if_pos e) (AL.trans (Aa AL (Aa ih ((if_neg e2).trans (Aa (if_neg e2) rfl)))))
  ·exact Aa (if_neg e) (AL.trans (Aa AL (Aa ih rfl)))
theorem HT{kvs:List (K×Value)}{k k':K}{v:Value}(h:kvs.any (λkv=>kv.1=k)=true):valueAt (kvs.map λkv=>if kv.1=k then (kv.1,v) else kv) k'=if k'=k then some v else valueAt kvs k':=by
 by_cases e2:k'=k
 ·subst e2;refine Aa (if_pos rfl) ?_
  induction kvs with
  |nil=>contradiction
  |cons a r ih=>
   obtain⟨x,y⟩:=a;refine Aa List.map_cons ?_;by_cases e:x=k'
   ·exact Aa (if_pos e) (AL.trans ((if_pos e).trans rfl))
   ·refine Aa (if_neg e) (AL.trans ((if_neg e).trans ?_));exact ih (by simpa [e] using h)
 ·refine Aa (if_neg e2) ?_;exact Gw e2
theorem Bi{kvs:List (K×Value)}{k k':K}{v:Value}:valueAt (stored kvs k v) k'=if k'=k then some v else valueAt kvs k':=by
 unfold stored;split
 ·rename_i h;exact HT h
 ·rename_i h;unfold valueAt;refine Aa (List.find?_append) ?_;by_cases e:k'=k
  ·subst e;have hn:kvs.find? (λkv=>decide (kv.1=k'))=none:=by
    rw[List.find?_eq_none];intro x hx hk;exact h (List.any_eq_true.mpr ⟨x,hx,hk⟩)
   refine Aa hn ?_;simp
  ·have e2:¬k=k':=λq=>e q.symm;simp[e,e2]
end
section
variable{E:Value→Shared→Prop}
theorem Gz{f:Nat}{t t0 t1 t2 t3:Tok}(N:News h₀ L s.heap news)(hm:(D,listOf [.str "/a" t0,.str "/u/b" t1,.str "/u/v/c" t2,.str "/w/d" t3].toArray n)∈news)(hf:f<4)(h:Q (.int (f:Int) s.toks) { s with toks:=s.toks+1 }) :
  wpAny (model prog w) A (call (.builtin "list.index") [.ref D,.str (Ah f) t]) Q E s:=by
 refine call_meets PySem.F.slot_list_index ⟨_,(N _ hm).1,rfl⟩ PySem.F.entry_list_index (PySem.F.args_list_index_2 _ _)
  (MeetsSeq.list_index D _ n (.str (Ah f) t) (isStrOf (Ah f)) (λy hy=>eq_isStrOf (Ah f) t (.cons _ _ (.cons _ _ (.cons _ _ (.cons _ _ .nil)))) y (by simpa using hy)) f (by simpa using hf) (by lia) ?_ ?_) ⟨(N _ hm).1,h⟩
 ·clear h;rcases f with _ | _ | _ | _ | f
  all_goals first | exact absurd hf (Nat.not_lt.mpr (Nat.le_add_left 4 f)) | (show(_==_)=true;decide +kernel)
 ·intro i hi hlt;clear h;rcases f with _ | _ | _ | _ | f
  ·exact absurd hlt (Nat.not_lt_zero _)
  ·rcases i with _ | i
   ·show(_==_)=false;decide +kernel
   ·exact absurd hlt (Nat.not_lt.mpr (Nat.le_add_left 1 i))
  ·rcases i with _ | _ | i
   ·show(_==_)=false;decide +kernel
   ·show(_==_)=false;decide +kernel
   ·exact absurd hlt (Nat.not_lt.mpr (Nat.le_add_left 2 i))
  ·rcases i with _ | _ | _ | i
   ·show(_==_)=false;decide +kernel
   ·show(_==_)=false;decide +kernel
   ·show(_==_)=false;decide +kernel
   ·exact absurd hlt (Nat.not_lt.mpr (Nat.le_add_left 3 i))
  ·exact absurd hf (Nat.not_lt.mpr (Nat.le_add_left 4 f))
theorem Gg(N:News h₀ L s.heap news)(hm:(D,o)∈news)(hd:o.IsDictOf (strKind prog w) kvs)(hl:valueAt kvs x=some v)(h:Q v { s with toks:=s.toks+1 })(hs:subscripted slice false (.ref D) (.str x t)=operate [.ref D,.str x t] (getItem (.ref D) (.str x t)))(hg:∀r,letTemporaryGo value (.ref D) r=pure ()) :
  wpAny (model prog w) A (subscriptTail value slice (.ref D) (.str x t)) Q E s:=kda_item N hm hd (strKind_is _ _ _ _) hl h hs hg
theorem MR{Q:Unit→Shared→Prop}{t:Tok}(F:Fr h₀ L s.heap m)(N:News h₀ L s.heap news)(hm:(D,o)∈news)(hd:o.IsDictOf (strKind prog w) kvs)(hz:kvs.length≤1000000)(h:∀h' o',Fr h₀ L h' m→News h₀ L h' ((D,o')::off D news)→o'.IsDictOf (strKind prog w) (stored kvs x v)→Q () { s with heap:=h',toks:=s.toks+1 }):wpAny (model prog w) A (setItem (.ref D) (.str x t) v) Q E s:=
 kda_set F (Bm N hm) (UpdF.head AW) hd (strKind_is _ _ _ _) (Nat.le_trans hz (by decide)) h
end
section
variable{E:Value→Shared→Prop}{K:Frag}
theorem Ng(F:Fr h₀ L s.heap m)(X₀:K.In h₀)(N:News h₀ L s.heap news)(hx:(x,(⟨.ref C,some dx,.plain,sl⟩:Obj))∈news)(hdx:(dx,dictOf es n)∈news)(hs:findIn K (.ref C) "__setattr__"=some (some (.builtin "object.__setattr__")))(hp:plainOver K C=true)(ht:takerIn K C name=some none)(hh:hasDictIn K C=true)(hl:(getL name es).isSome=true)(e:putL name (PyData.keyHash w.params name) (.str name (s.toks+1)) v es=es')(hz:es'.length≤1000)(h:∀h' n',Fr h₀ L h' m→News h₀ L h' ((dx,dictOf es' n')::off dx news)→Q () { s with heap:=h',toks:=s.toks+2 }):wpAny (model prog w) A (setAttr (.ref x) name v) Q E s:=
 set_dict F X₀ (Bm N hdx) (InstAt.of_news N hx hdx) rfl hs hp ht hh hl (Prod.ext e rfl) (Upd.head AW) hz (λh' F' N'=>h h' _ F' N')
theorem GE(F:Fr h₀ L s.heap m)(X₀:K.In h₀)(N:News h₀ L s.heap news)(hx:(x,(⟨.ref C,some dx,.plain,sl⟩:Obj))∈news)(hdx:(dx,od)∈news)(hs:findIn K (.ref C) "__setattr__"=some (some (.builtin "object.__setattr__")))(hp:plainOver K C=true)(ht:takerIn K C name=some (some (.ref p)))(hT:typeIn K (.ref p)=some (.type "member_descriptor"))(hi:slotIn K p C=some i)(hz:i<1000)(e:{ (⟨.ref C,some dx,.plain,sl⟩:Obj) with slots:=((⟨.ref C,some dx,.plain,sl⟩:Obj).slots++Array.replicate (i+1-(⟨.ref C,some dx,.plain,sl⟩:Obj).slots.size) none).setIfInBounds i (some v) }=ox')(hf:ox'.isFreed=false)(h:∀h',Fr h₀ L h' m→News h₀ L h' ((x,ox')::off x news)→Q () { s with heap:=h',toks:=s.toks+1 }):wpAny (model prog w) A (setAttr (.ref x) name v) Q E s:=
 set_slot F X₀ (Bm N hx) (InstAt.of_news N hx hdx) hs hp ht hT hi hz e hf (Upd.head AW) h
end
section
variable{E:Value→Shared→Prop}
theorem Pz(N:News h₀ L s.heap news)(hm:(D,o)∈news)(hd:o.IsDictOf (strKind prog w) kvs)(lo:(D==sysModules)=false)(hb:(valueAt kvs x).isSome=b)(h:Q (.bool b) { s with toks:=s.toks+1 }) :
  wpAny (model prog w) A (compareOp .In (.str x t) (.ref D)) Q E s:=kda_in N hm hd lo (strKind_is _ _ _ _) b hb h
end
structure Gr where
 nodes:List Nat
 np:Nat→Int
 succ:Nat→List Nat
noncomputable def Gr.touch(G:Gr)(k:Nat):Gr:=if k∈G.nodes then G else ⟨G.nodes++[k],upd G.np k 0,upd G.succ k []⟩
noncomputable def Gr.setNp(G:Gr)(k:Nat)(v:Int):Gr:=⟨G.nodes,upd G.np k v,G.succ⟩
noncomputable def Gr.app(G:Gr)(k f:Nat):Gr:=⟨G.nodes,G.np,upd G.succ k (G.succ k++[f])⟩
noncomputable def B2(f:Nat)(G:Gr)(p:Nat):Gr:=(G.touch p).app p f
noncomputable def Su(G:Gr)(f:Nat)(ps:List Nat):Gr:=ps.foldl (B2 f) ((G.touch f).setNp f ((G.touch f).np f+ps.length))
theorem CZ(n:Nat):∀l:List Nat,l.Nodup→(∀x∈l,x<n)→l.length≤n:=by
 induction n with
 |zero=>
  intro l hz h
  cases l with
  |nil=>exact Nat.le_refl _
  |cons a r=>exact absurd (h a (.head _)) (Nat.not_lt_zero _)
 |succ n ih=>
  intro l hd h;by_cases hm:n∈l
  ·have h1:=ih (l.erase n) (hd.erase n) (λx hx=>Ww (h x (List.mem_of_mem_erase hx)) (λe=>(List.Nodup.not_mem_erase hd) (e▸hx)));rw[List.length_erase_of_mem hm] at h1;exact ZR h1
  ·have h1:=ih l hd (λx hx=>Ww (h x hx) (λe=>hm (e▸hx)));exact aN (zv 0) (za (zv 1) (zn 1)) [(0,1,zv 0,zv 1)] rfl (Az _ _) Ae h1
theorem Mf:((List.range 4).all λi=>(List.range 4).all λj=>i==j || !(Ah i==Ah j))=true:=by decide +kernel
theorem DG{i j:Nat}(hi:i<4)(hj:j<4)(h:Ah i=Ah j):i=j:=by
 have h1:=List.all_eq_true.mp (List.all_eq_true.mp Mf i (List.mem_range.mpr hi)) j (List.mem_range.mpr hj);rw[h,beq_self_eq_true,Bool.not_true,Bool.or_false] at h1;exact eq_of_beq h1
theorem Rw{l:List Nat}{inf:Nat→Addr}(hl:∀k∈l,k<4){k:Nat}(hk:k<4):valueAt (l.map λk=>(Ah k,Value.ref (inf k))) (Ah k)=if k∈l then some (.ref (inf k)) else none:=by
 induction l with
 |nil=>rfl
 |cons a r ih=>
  refine Aa List.map_cons (AL.trans (Aa (ih λx hx=>hl x (.tail _ hx)) ?_));by_cases e:a=k
  ·subst e;simp
  ·refine(if_neg λq=>e (DG (hl a (.head _)) hk q)).trans ?_;have:¬k=a:=λq=>e q.symm;simp[this]
theorem UY{prog:Program}{A:Around}{E:Value→Shared→Prop}{s:Shared}{h₀:Heap}{L D:Addr}{vs:List Value}{n:Nat}{Q:Value→Shared→Prop}(N:News h₀ L s.heap news)(hm:(D,Wa vs n)∈news)(hz:vs.length≤1000000)(h:Q (.int vs.length (s.toks+1)) { s with toks:=s.toks+1+1 }):wpAny (model prog w) A (call (.builtin "len") [.ref D]) Q E s:=
 len_tuple (⟨_,(N _ hm).1,rfl,_,rfl⟩:IsTup s.heap D vs.toArray) (by refine Aa List.size_toArray ?_;omega) (by refine Aa List.size_toArray ?_;exact h)
theorem G5{l:List Value}(h:l.length≤1000000)(k:Nat):newTuple (List.drop k l)=newObjAsIs (.type "tuple") (.seq (List.drop k l).toArray):=by
 unfold newTuple newObj;have:¬((List.drop k l).toArray.size>sizeLine):=by
  refine Aa List.size_toArray (Aa List.length_drop ?_);exact WX h rfl
 simp only[if_neg this]
theorem MI{α β:Type}{g:α→β→α}{a:α}{l:List β}{i:Nat}{b:β}(h:l[i]?=some b):(l.take (i+1)).foldl g a=g ((l.take i).foldl g a) b:=by
 refine Aa List.take_add_one (Aa h (List.foldl_append.trans ?_));rfl
theorem Fi(l:Addr)(items:Array Value):Meets (Builtin.«bool.__new__» ⟨[.type "bool",.ref l],[]⟩) (λz_ R s=>s.heap.IsList l items∧(items.size:Int)<2^63∧R (.ok (.ret (.bool (!items.isEmpty)))) { s with toks:=s.toks+1+1 }):=
 Meets.of_wp λprog w A R s hs=>by
  obtain⟨hp,g,d,tk,os⟩:=s;refine Cg hs λh1 h2 h3=>?_;have f1:=F.conv_sub_bool
  repeat (any_goals (first | assumption | (with_reducible refine wpAny_truthy_list (items:=items) h1 h2 ?_) | wp_step))
  all_goals first | exact⟨_,rfl,h3⟩ | exact h3 | skip
theorem VD{prog:Program}{w:World}{A:Around}{E:Value→Shared→Prop}{s:Shared}{h₀:Heap}{L D:Addr}{vs:List Value}{n:Nat}{news:Df}{Q:Value→Shared→Prop}{b:Bool}(N:News h₀ L s.heap news)(hm:(D,listOf vs.toArray n)∈news)(hz:vs.length≤1000000)(hb:(!vs.isEmpty)=b)(h:Q (.bool b) { s with toks:=s.toks+1+1 }):wpAny (model prog w) A (call (.type "bool") [.ref D]) Q E s:=by
 refine call_bool_1 (Fi D vs.toArray) ⟨AD N hm,by refine Aa List.size_toArray ?_;omega,?_⟩;have e:(!vs.toArray.isEmpty)=b:=by refine AV hb ?_;simp
 refine Aa e ?_;exact⟨rfl,h⟩
theorem LM{prog:Program}{A:Around}{E:Value→Shared→Prop}{s:Shared}{h₀:Heap}{L D:Addr}{m:Str→Option Value}{vs:List Value}{n:Nat}{Q:Value→Shared→Prop}(F:Fr h₀ L s.heap m)(N:News h₀ L s.heap news)(hm:(D,listOf vs.toArray n)∈news)(hz:vs.length≤10000)(h:∀T h',Fr h₀ L h' m→News h₀ L h' ((T,Wa vs 0)::news)→(∀p∈news,p.1<T)→Q (.ref T) { s with heap:=h' }):wpAny (model prog w) A (call (.type "tuple") [.ref D]) Q E s:=
 kde_tupleOf F N (AD N hm) (by refine Aa List.size_toArray ?_;exact aN (zv 0) (zn 16384) [(0,1,zv 0,zn 10000)] rfl (Av _) Ae hz) (by simp) h
theorem Sj{prog:Program}{A:Around}{E:Value→Shared→Prop}{s:Shared}{h₀:Heap}{L D:Addr}{m:Str→Option Value}{vs:List Value}{n:Nat}{Q:Value→Shared→Prop}(F:Fr h₀ L s.heap m)(N:News h₀ L s.heap news)(hm:(D,listOf vs.toArray n)∈news)(hne:vs≠[])(hz:vs.length≤10000)(h:∀h',Fr h₀ L h' m→News h₀ L h' ((D,listOf [].toArray (n+1))::off D news)→Q .none { s with heap:=h' }):wpAny (model prog w) A (call (.builtin "list.clear") [.ref D]) Q E s:=
 kl_clear F (Bm N hm) DI (by
  intro e;apply hne;simpa using e) (by simpa using Nat.le_trans hz (by decide)) h
noncomputable def Co(G:Gr)(l:List Nat):Gr:=l.foldl (λG k=>G.setNp k (-1)) G
theorem DH{l:List Nat}:(Co G l).nodes=G.nodes:=by
 unfold Co
 induction l generalizing G with
 |nil=>rfl
 |cons a r ih=>exact ih
theorem Ol{l:List Nat}{i k:Nat}(h:l[i]?=some k):Co G (l.take (i+1))=(Co G (l.take i)).setNp k (-1):=by
 unfold Co;exact MI h
noncomputable abbrev CO:=Gr×List Nat
noncomputable def B1(st:CO)(s:Nat):CO:=(st.1.setNp s (st.1.np s-1),if st.1.np s-1=0 then st.2++[s] else st.2)
noncomputable def Do(st:CO)(k:Nat):CO:=(st.1.succ k).foldl B1 (st.1.setNp k (-2),st.2)
noncomputable def BA(st:CO)(l:List Nat):CO:=l.foldl Do st
theorem Eg{st:CO}{l:List Nat}:(l.foldl B1 st).1.nodes=st.1.nodes∧(l.foldl B1 st).1.succ=st.1.succ:=by
 induction l generalizing st with
 |nil=>exact⟨rfl,rfl⟩
 |cons a r ih=>exact ih
theorem Dd{st:CO}{l:List Nat}:(BA st l).1.nodes=st.1.nodes∧(BA st l).1.succ=st.1.succ:=by
 unfold BA
 induction l generalizing st with
 |nil=>exact⟨rfl,rfl⟩
 |cons a r ih=>
  have h1:=ih (st:=Do st a);have h2:=Eg (st:=(st.1.setNp a (-2),st.2)) (l:=st.1.succ a);exact⟨h1.1.trans h2.1,h1.2.trans h2.2⟩
theorem HX(h:(strKind prog w).is k v=true):∃t,v = .str k t:=by
 cases v with
 |str x t=>
  have e:x=k:=by simpa [PySem.strKind,Value.isStrOf] using h
  subst e;exact⟨t,rfl⟩
 |_=>simp[PySem.strKind,Value.isStrOf] at h
section
open Sem (wp)
theorem Lc:Slot "list_iterator" "__getattribute__" "object.__getattribute__":=
 .of (owner:="object") (n:="__getattribute__") (by refine(typeLookup_type ..).trans (Aa builtinLookup_eq_fast ?_);kernel_rfl) (by decide +kernel) (by decide +kernel) (by decide +kernel)
  (by first | exact .inl (by decide +kernel) | exact .inr (by decide +kernel)) (by refine(isSubtype_type ..).trans ?_;kernel_rfl)
theorem IB:entryFor table "object.__getattribute__"=some Builtin.«object.__getattribute__»:=entryFor_of_tree (by kernel_rfl)
theorem JP(a b:Value):argsOk "object.__getattribute__" ⟨[a,b],[]⟩:=by unfold argsOk;kernel_rfl
theorem Rr:Slot "list_iterator" "__next__" "list_iterator.__next__":=
 .of (owner:="list_iterator") (n:="__next__") (by refine(typeLookup_type ..).trans (Aa builtinLookup_eq_fast ?_);kernel_rfl) (by decide +kernel) (by decide +kernel) (by decide +kernel)
  (by first | exact .inl (by decide +kernel) | exact .inr (by decide +kernel)) (by refine(isSubtype_type ..).trans ?_;kernel_rfl)
theorem Dm:typeOf (.builtin "list_iterator.__next__")=pure (.type "wrapper_descriptor"):=by show builtinType _=_;refine Aa builtinType_eq_fast ?_;kernel_rfl
theorem Ju:Slot "wrapper_descriptor" "__get__" "wrapper_descriptor.__get__":=
 .of (owner:="wrapper_descriptor") (n:="__get__") (by refine(typeLookup_type ..).trans (Aa builtinLookup_eq_fast ?_);kernel_rfl) (by decide +kernel) (by decide +kernel) (by decide +kernel)
  (by first | exact .inl (by decide +kernel) | exact .inr (by decide +kernel)) (by refine(isSubtype_type ..).trans ?_;kernel_rfl)
theorem Hf:entryFor table "wrapper_descriptor.__get__"=some Builtin.«wrapper_descriptor.__get__»:=entryFor_of_tree (by kernel_rfl)
theorem HR(a b c:Value):argsOk "wrapper_descriptor.__get__" ⟨[a,b,c],[]⟩:=by unfold argsOk;kernel_rfl
theorem TT:typeLookup (.type "wrapper_descriptor") "__set__"=pure none:=by refine(typeLookup_type ..).trans (Aa builtinLookup_eq_fast ?_);kernel_rfl
theorem LL:typeLookup (.type "wrapper_descriptor") "__delete__"=pure none:=by refine(typeLookup_type ..).trans (Aa builtinLookup_eq_fast ?_);kernel_rfl
theorem OV:(".".intercalate ("list_iterator.__next__".cutAt '.').dropLast)="list_iterator":=by decide +kernel
theorem Hy:isSubtype (.type "list_iterator") (.type (".".intercalate ("list_iterator.__next__".cutAt '.').dropLast))=pure true:=by
 refine Aa OV ((isSubtype_type ..).trans ?_);kernel_rfl
noncomputable def CB(I:Addr):Obj:={ cls:=.type "method-wrapper",data:=.fields #[.builtin "list_iterator.__next__",.ref I] }
section
variable{prog:Program}{w:World}{A:Around}{E:Value→Shared→Prop}{h:Heap}{g:Array GenState}{d:Drawn}{t:Nat}{os:OsState}{a:Addr}{o:Obj}
theorem O4(hx:h.get? a=some o)(hc:o.cls = .type "list_iterator")(hq:R (.ok (.ret (.ref h.objs.size))) ⟨h.push (CB a),g,d,t,os⟩) :
  codeAny (model prog w) A (.call (.builtin "wrapper_descriptor.__get__") ⟨[.builtin "list_iterator.__next__",.ref a,.type "list_iterator"],[]⟩) R ⟨h,g,d,t,os⟩:=by
 have hT:(⟨h,g,d,t,os⟩:Shared).TypeIs (.ref a) "list_iterator":=⟨_,hx,hc⟩;have hT5:(⟨h,g,d,t,os⟩:Shared).TypeIs (.builtin "list_iterator.__next__") "wrapper_descriptor":=Dm;have f8:=Hy;refine codeAny_call_builtin Ju.plain Hf (Ju.check _ _ _ _ _ _ _ _ hT5 (HR _ _ _) ?_)
 repeat (any_goals (first | assumption | wp_step))
theorem JE(hx:h.get? a=some o)(hc:o.cls = .type "list_iterator")(hd:o.dict=none)(hdat:∃vs,o.data = .fields vs)(hq:Q (.done (.ret (.ref h.objs.size))) ⟨h.push (CB a),g,d,t,os⟩) :
  wpAny (model prog w) A (Builtin.«object.__getattribute__» ⟨[.ref a,.str "__next__" tk],[]⟩) Q E ⟨h,g,d,t,os⟩:=by
 obtain⟨c,dct,dat,sl⟩:=o;obtain⟨vs,hdat⟩:=hdat;simp only at hc hd hdat;subst hc hd hdat;have hT:(⟨h,g,d,t,os⟩:Shared).TypeIs (.ref a) "list_iterator":=⟨_,hx,rfl⟩;have hT5:(⟨h,g,d,t,os⟩:Shared).TypeIs (.builtin "list_iterator.__next__") "wrapper_descriptor":=Dm;have f4:=Rr.lookup;have f5:=Dm;have f6:=Ju.lookup;have f7:=TT;have f8:=LL
 repeat (any_goals (first | assumption | wp_step))
 refine O4 hx rfl ?_
 repeat (any_goals (first | assumption | wp_step))
theorem Mk(hx:h.get? a=some o)(hc:o.cls = .type "list_iterator")(hd:o.dict=none)(hdat:∃vs,o.data = .fields vs)(hq:R (.ok (.ret (.ref h.objs.size))) ⟨h.push (CB a),g,d,t,os⟩) :
  codeAny (model prog w) A (.call (.builtin "object.__getattribute__") ⟨[.ref a,.str "__next__" tk],[]⟩) R ⟨h,g,d,t,os⟩:=
 codeAny_call_builtin Lc.plain IB (Lc.check _ _ _ _ _ _ _ _ (show(⟨h,g,d,t,os⟩:Shared).TypeIs (.ref a) "list_iterator" from ⟨_,hx,hc⟩) (JP _ _) (JE hx hc hd hdat hq))
theorem JO:typeLookup (.type "list_iterator") "__getattr__"=pure none:=by refine(typeLookup_type ..).trans (Aa builtinLookup_eq_fast ?_);kernel_rfl
theorem Ml(hx:h.get? a=some o)(hc:o.cls = .type "list_iterator")(hd:o.dict=none)(hdat:∃vs,o.data = .fields vs)(hq:Q (.ref h.objs.size) ⟨h.push (CB a),g,d,t+1,os⟩) :
  wpAny (model prog w) A (getAttr (.ref a) "__next__" ex) Q E ⟨h,g,d,t,os⟩:=by
 obtain⟨c,dct,dat,sl⟩:=o;simp only at hc hd hdat;subst hc hd;have hT:∀tk',(⟨h,g,d,tk',os⟩:Shared).TypeIs (.ref a) "list_iterator":=λz_=>⟨_,hx,rfl⟩
 have f2:=Lc.lookup;have f3:=Lc.bind (.ref a);have f5:=JO;unfold getAttr getAttrBy
 repeat (any_goals (first | assumption | exact hT _ | wp_step))
 refine Aa (show(ex&&onTheHeap (Value.builtin "object.__getattribute__"))=false from by cases ex<;>rfl) (Aa (if_neg Bool.false_ne_true) ?_)
 repeat (any_goals (first | assumption | exact hT _ | (refine Mk hx rfl rfl hdat ?_) | wp_step))
end
end
section
variable{prog:Program}{w:World}{A:Around}{E:Value→Shared→Prop}{s:Shared}{q I l:Addr}{i:Nat}{items:Array Value}{x:Value}{Q:Value→Shared→Prop}
theorem F7(I:Addr):checkBoundCall "list_iterator.__next__" ⟨[.ref I],[]⟩=pure ():=by first | kernel_rfl | rfl
theorem F5:Code.quiet (.builtin "list_iterator.__next__" ⟨[.ref I],[]⟩)=true:=by first | rfl | exact plainId_quiet (by decide +kernel) _
theorem LH(hq:s.heap.get? q=some (CB I))(hit:s.heap.IsListIter I l i)(hl:s.heap.IsList l items)(hx:items[i]?=some x)(hQ:∀h',h'.IsListIter I l (i+1)→Heap.SameBut I s.heap h'→h'.get? I=some { cls:=.type "list_iterator",data:=.fields #[.ref l,.int (i+1:Nat) 0] }∨True→Q x { s with heap:=h' }):wpAny (model prog w) A (call (.ref q) []) Q E s:=by
 refine wpAny_call (codeAny_of_tree ?_);refine(?_:wpAny _ A.in1 (callAny (.ref q) ⟨[],[]⟩) _ _ s);simp only[callAny];refine wpAny_bind (wpAny_load hq ?_);simp only[CB,show(Value.type "method-wrapper"==Value.type "method"||Value.type "method-wrapper"==Value.type "builtin_function_or_method"||Value.type "method-wrapper"==Value.type "method-wrapper")=true by decide,if_true];refine wpAny_bind (wpAny_of_eq (a:=()) (F7 I) ?_);refine wpAny_bind (wpAny_pure (wpAny_pure ?_));refine⟨F5,codeAny_builtin entry_listiter_next ?_⟩;refine B7 (id hit) λo ho hc hd=>?_;refine SM hl λol hol z_ nl hdl=>?_;refine(?_:wpAny _ _ (field (.ref I) 0 >>= _) _ _ s);refine wpAny_bind (wpAny_field ho hd (x:=.ref l) rfl ?_);refine(?_:wpAny _ _ (if (Value.ref l==Value.none)=true then _ else _) _ _ s);refine Aa (if_neg (show ¬((Value.ref l==Value.none)=true) from Bool.false_ne_true)) ?_;refine(?_:wpAny _ _ (field (.ref I) 1 >>= _) _ _ s);refine wpAny_bind (wpAny_field ho hd (x:=.int i 0) rfl ?_);refine(?_:wpAny _ _ (seqItems? (.ref l) >>= _) _ _ s);refine wpAny_bind (wpAny_seqItems hol hdl ?_);simp only[Int.toNat_natCast,hx];refine wpAny_bind (wpAny_setField ho hd (by simp) (wpAny_pure ?_));refine hQ _ ?_ (Heap.SameBut.update ..) (.inr trivial);exact⟨_,Heap.get?_update_self _ ho (Obj.isFreed_of_fields (Obj.data_mapFields hd _)),(Obj.cls_mapFields ..).trans hc,by
  refine(Obj.data_mapFields hd ..).trans ?_;simp[rawInt]⟩
theorem Nt(hh:A.handled=none)(hq:s.heap.get? q=some (CB I))(hit:s.heap.IsListIter I l i)(hl:s.heap.IsList l items)(hx:items[i]?=none)(hE:∀h1 h' e,Heap.SameBut I s.heap h1→Heap.NewExcOf h1 h' e "StopIteration"→E (.ref e) { s with heap:=h' }):wpAny (model prog w) A (call (.ref q) []) Q E s:=by
 refine wpAny_call (codeAny_of_tree ?_);refine(?_:wpAny _ A.in1 (callAny (.ref q) ⟨[],[]⟩) _ _ s);simp only[callAny];refine wpAny_bind (wpAny_load hq ?_);simp only[CB,show(Value.type "method-wrapper"==Value.type "method"||Value.type "method-wrapper"==Value.type "builtin_function_or_method"||Value.type "method-wrapper"==Value.type "method-wrapper")=true by decide,if_true];refine wpAny_bind (wpAny_of_eq (a:=()) (F7 I) ?_);refine wpAny_bind (wpAny_pure (wpAny_pure ?_));refine⟨F5,codeAny_builtin entry_listiter_next ?_⟩;refine B7 (id hit) λo ho hc hd=>?_;refine SM hl λol hol z_ nl hdl=>?_;refine(?_:wpAny _ _ (field (.ref I) 0 >>= _) _ _ s);refine wpAny_bind (wpAny_field ho hd (x:=.ref l) rfl ?_);refine(?_:wpAny _ _ (if (Value.ref l==Value.none)=true then _ else _) _ _ s);refine Aa (if_neg (show ¬((Value.ref l==Value.none)=true) from Bool.false_ne_true)) ?_;refine(?_:wpAny _ _ (field (.ref I) 1 >>= _) _ _ s);refine wpAny_bind (wpAny_field ho hd (x:=.int i 0) rfl ?_);refine(?_:wpAny _ _ (seqItems? (.ref l) >>= _) _ _ s);refine wpAny_bind (wpAny_seqItems hol hdl ?_);simp only[Int.toNat_natCast,hx];refine wpAny_bind (wpAny_rule (wpAny_bind (wpAny_setField ho hd (by simp) ?_)));refine(?_:wpAny _ _ (newExc (.type "StopIteration") [] >>= _) _ _ _);refine wpAny_bind ?_;simp only[newExc,newTuple];refine wpAny_bind (wpAny_newObj_type ?_ (by size_fits));refine wpAny_bind (m:=firstArgMember _ _) (wpAny_of_eq (a:=Value.none) (by first | rfl | (simp only[firstArgMember];rfl)) ?_);refine wpAny_newObj_type ?_ (by size_fits);simp only[raiseNew];refine wpAny_bind (wpAny_handled ?_);refine Aa (show(A.under (Code.builtin "list_iterator.__next__" { pos:=[#[Value.builtin "list_iterator.__next__",Value.ref I][1]] })).handled=none from by rw[Around.under_plainId (by decide +kernel) _];exact hh) ?_;refine wpAny_bind (wpAny_pure (wpAny_throw ?_));refine hE _ _ _ (Heap.SameBut.update s.heap I (Obj.mapFields λx=>x.setIfInBounds 0 Value.none)) ⟨λb o e=>Heap.get?_push_of_some _ (Heap.get?_push_of_some _ e),?_,⟨_,_,Heap.get?_push_size _ rfl,rfl,rfl,?_⟩⟩
 ·cases e:(s.heap.update I (Obj.mapFields λx=>x.setIfInBounds 0 Value.none)).get? ((s.heap.update I (Obj.mapFields λx=>x.setIfInBounds 0 Value.none)).push { cls:=Value.type "tuple",data:=Data.seq #[] }).objs.size with
  |none=>rfl
  |some o=>
   have h2:=Heap.lt_size e;have h3:((s.heap.update I (Obj.mapFields λx=>x.setIfInBounds 0 Value.none)).push { cls:=Value.type "tuple",data:=Data.seq #[] }).objs.size=(s.heap.update I (Obj.mapFields λx=>x.setIfInBounds 0 Value.none)).objs.size+1:=by simp[Heap.push]
   rw[h3] at h2;exact absurd h2 (Nat.not_lt.mpr (Nat.le_succ _))
 ·refine(Array.getElem?_append_left (by simp)).trans ?_;rfl
end
section
variable{E:Value→Shared→Prop}
theorem IU(hx0:Heap.NewExcOf h s'.heap e X)(F:Fr g L h m)(N:News g L h news)(K:Below A₀ base outer g)(XB:KF.In base)(TB:Top p loose mean mg mb base)(D:KtsDicts (outer.filterMap (·.frame)) g)(T0:KtsTurn (outer.filterMap (·.frame)) g₀ g)(ex:nsIn KF mainGlobals x=some none)(hv:bootBuiltins x=some (.type T'))(hn':x≠"__name__")(hexc:isSubtype (.type T') (.type "BaseException")=pure true)(hnt:isSubtype (.type ((Manifest.find? T').elim "type" λy=>y.metatype)) (.type "tuple")=pure false)(hsub:isSubtype (.type X) (.type T')=pure true)(k:∀h' g',KtsTurn (outer.filterMap (·.frame)) g₀ g'→Fr g' L h' m→News g' L h' news→Below A₀ base outer g'→KF.In g'→Top p loose mean mg mb g'→KtsDicts (outer.filterMap (·.frame)) g' →
   wpAny (model prog w) ((A₀.deeper (envOf name scope L a cd)).mark (some (.ref e))) (execs (b₀::suite) (envOf name scope L a cd)) Q E { s' with heap:=h' })(hk:scope.kind = .function)(hxk:(envOf name scope L a cd).kindOf x=some .globalImplicit)(hd0:(x==("__debug__":Str))=false)(hE:PassesOwnAt (model prog w) ((A₀.deeper (envOf name scope L a cd)).mark (some (.ref e))) (A₀.deeper (envOf name scope L a cd)) (envOf name scope L a cd) E) :
  wpAny (model prog w) (A₀.deeper (envOf name scope L a cd)) (noteFrame (.ref e) (envOf name scope L a cd))
   (λz_ s₂=>wpAny (model prog w) (A₀.deeper (envOf name scope L a cd)) (setFlight (.ref e) none) (λz_ s₃=>
    wpAny (model prog w) (A₀.deeper (envOf name scope L a cd)) (handleBy (.ref e) (envOf name scope L a cd) (.ExceptHandler (some (.Name x np)) none (b₀::suite) pos::rest)) Q E s₃) E s₂) E s':=by
 have K':=K.push (name:=name) (a:=a) (cd:=cd) F hk;have hin:∀env∈(envOf name scope L a cd::outer),∀b,env.frame=some b→b∈(envOf name scope L a cd::outer).filterMap (·.frame):=λenv he b hb=>List.mem_filterMap.mpr ⟨env,he,hb⟩;have hl:∀q∈news,(hideAll h ((envOf name scope L a cd::outer).filterMap (·.frame))).get? q.1=some q.2:=λq hq=>by
  refine hideAll_get _ (N q hq).1 λhm=>?_;rcases kts_mem hm with z | z
  ·exact(N q hq).2.1 z
  ·refine SL (D _ z) λo es n ho z_=>?_;replace ho:=((N q hq).2.2).symm.trans ho;contradiction
 have hBG:∀b o,h.get? b=some o→b∉(envOf name scope L a cd::outer).filterMap (·.frame)→(hideAll h ((envOf name scope L a cd::outer).filterMap (·.frame))).get? b=some o:=λb o q nm=>hideAll_get _ q nm;refine C0 hx0.there λob vs he hcls hd hv1=>?_;have hen:(hideAll h ((envOf name scope L a cd::outer).filterMap (·.frame))).get? e=none:=by
  cases q:(hideAll h ((envOf name scope L a cd::outer).filterMap (·.frame))).get? e with
  |none=>rfl
  |some o=>have:=of_hideAll _ q;replace this:=hx0.new.symm.trans this;contradiction
 have hsz:1<vs.size:=by
  rcases Nat.lt_or_ge 1 vs.size with h2 | h2
  ·exact h2
  ·replace hv1:=(Array.getElem?_eq_none h2).symm.trans hv1;contradiction
 obtain⟨a0,ha0⟩:∃a0,vs[0]?=some a0:=⟨_,Array.getElem?_eq_getElem (Nat.lt_of_le_of_lt (Nat.zero_le 1) hsz)⟩;unfold noteFrame;simp only[show(envOf name scope L a cd).frame=some L from rfl];refine wpAny_bind (wpAny_field he hd (x:=.none) hv1 ?_);refine Aa (if_neg (by decide)) ?_;refine wpAny_entryW (a0:=a0) (Around.frames_deeper K.stack) ((funFrames_hide K'.frames hin).of_keeps (h':=s'.heap) λb o hb z_=>⟨o,hx0.keeps b o hb,rfl⟩) rfl he (λb o eb=>hx0.keeps b o (of_hideAll _ eb)) hen hd hsz ha0 λh₄ hN=>?_;refine Ht hN λk1 k2 k3 k4=>?_;have hheld₄:Heap.HeldW (hideAll h ((envOf name scope L a cd::outer).filterMap (·.frame))) (envOf name scope L a cd::outer) e (.type X) a0 L h₄:=⟨k1,hen,k2,by refine AV hcls ?_;exact k3⟩;have hsm₄:s'.heap.UpToSlots h₄:=k4;have hsm:h.UpToSlots s'.heap:=Heap.UpToSlots.of_keeps hx0.keeps;refine wpAny_landsW hheld₄ λh₅ hheld hsm₅'=>?_;have hsm₅:=hsm₄.trans hsm₅';refine B7 (kts_ground K F hBG hheld.1 (hsm.trans hsm₅)) λg₅ T₅ F₅ K₅=>?_;refine An hheld.there λob₅ hob hobc=>?_;refine wpAny_handleBy_builtin (X:=X) (T:=T') (b:=true) hexc hnt hsub (name_B F₅ (XB.keeps K₅.stays) (topRead_of (TB.keeps K₅.stays)) ex hv hn' ⟨rfl,⟨ob₅,hob,hobc⟩,?_⟩ hk hxk hd0);refine lands_againW hheld λh₆ hfl₆ hsm₆=>?_;refine B7 (kts_ground K F hBG hfl₆.1 ((hsm.trans hsm₅).trans hsm₆)) λg₆ T₆ F₆ K₆=>?_;exact wpAny_passesOwnAt hE (k h₆ g₆ (T0.trans T₆) F₆ (λq hq=>⟨hfl₆.1 _ _ (hl q hq),(λz=>by have:=hl q hq;rw[z,(hideAll_none _ (hin _ (.head _) L rfl))] at this;contradiction),T₆.none_ _ (N q hq).2.2⟩) K₆ (XB.keeps K₆.stays) (TB.keeps K₆.stays) (D.turn T₆))
end
structure GdS(A₀:Around)(base:Heap)(outer:List Env)(KF:Frag)(p:Program)(loose:List Str)(mean:ExcName→Option Value)(mg mb:Str→Option Value)(g₀ g:Heap):Prop where
 T:KtsTurn (outer.filterMap (·.frame)) g₀ g
 B:Below A₀ base outer g
 X:KF.In g
 P:Top p loose mean mg mb g
 D:KtsDicts (outer.filterMap (·.frame)) g
noncomputable def Sy(o:Obj)(l:Addr)(i:Nat):Prop:=o.cls = .type "list_iterator"∧o.data = .fields #[.ref l,.int i 0]
section
variable{E:Value→Shared→Prop}{vs:List Value}
theorem R7(F:Fr h₀ L s.heap m)(N:News h₀ L s.heap news)(hl:(l,listOf vs.toArray n)∈news)(h:∀I h',Fr h₀ L h' m→News h₀ L h' ((I,{ cls:=.type "list_iterator",data:=.fields #[.ref l,.int 0 0] })::news)→(∀p∈news,p.1<I)→Q (.ref I) { s with heap:=h' }):wpAny (model prog w) A (call (.builtin "iter") [.ref l]) Q E s:=by
 refine call_function_entry (by decide +kernel) (by decide +kernel) kdk_entry_iter (kdk_args_iter _) ?_;unfold Builtin.«iter»;refine wpAny_bind (m:=someArgs "iter" 1 2 _) (wpAny_of_eq (a:=[Value.ref l]) (by first | rfl | kernel_rfl!) ?_);refine(?_:wpAny _ _ (pyIter (.ref l) >>= _) _ _ _);refine wpAny_bind (wpAny_pyIter_list (AD N hl) ?_);exact wpAny_pure ⟨_,rfl,h _ _ (F.push _) (News.push F N _ rfl) (λq hq=>Heap.lt_size (N q hq).1)⟩
theorem JF(F:Fr h₀ L s.heap m)(N:News h₀ L s.heap news)(hI:(I,({ cls:=.type "list_iterator",data:=.fields #[.ref l,.int i 0] }:Obj))∈news)(h:∀q h',Fr h₀ L h' m→News h₀ L h' ((q,CB I)::news)→(∀p∈news,p.1<q)→Q (.ref q) { s with heap:=h',toks:=s.toks+1 }):wpAny (model prog w) A (getAttr (.ref I) "__next__" ex) Q E s:=by
 obtain⟨hp,g,d,tk,os⟩:=s;exact Ml (N _ hI).1 rfl rfl ⟨_,rfl⟩ (h _ _ (F.push _) (News.push F N _ rfl) (λq hq=>Heap.lt_size (N q hq).1))
theorem Js(F:Fr h₀ L s.heap m)(N:News h₀ L s.heap news)(hq:(q,CB I)∈news)(hI:(I,oI)∈news)(hLi:Sy oI l i)(hl:(l,listOf vs.toArray n)∈news)(hx:vs[i]?=some x)(h:∀h' oI',Fr h₀ L h' m→News h₀ L h' ((I,oI')::off I news)→Sy oI' l (i+1)→Q x { s with heap:=h' }):wpAny (model prog w) A (call (.ref q) []) Q E s:=by
 refine LH (N _ hq).1 ⟨oI,(N _ hI).1,hLi.1,hLi.2⟩ (AD N hl) (by simpa using hx) λh' hit hs z_=>?_;refine B7 hit λoI' ho hc hd=>?_;refine h h' oI' (F.change hs (N _ hI).2.1 (N _ hI).2.2) (λp hp=>?_) ⟨hc,hd⟩;rcases List.mem_cons.mp hp with rfl | hp
 ·exact⟨ho,(N _ hI).2⟩
 ·exact⟨(hs.2 p.1 (AW p hp)).trans (N p (AM p hp)).1,(N p (AM p hp)).2⟩
theorem LK(hh:A.handled=none)(F:Fr h₀ L s.heap m)(N:News h₀ L s.heap news)(hq:(q,CB I)∈news)(hI:(I,oI)∈news)(hLi:Sy oI l i)(hl:(l,listOf vs.toArray n)∈news)(hx:vs.length≤i)(h:∀h1 h' e,Fr h₀ L h1 m→News h₀ L h1 (off I news)→Heap.NewExcOf h1 h' e "StopIteration"→E (.ref e) { s with heap:=h' }):wpAny (model prog w) A (call (.ref q) []) Q E s:=by
 refine Nt hh (N _ hq).1 ⟨oI,(N _ hI).1,hLi.1,hLi.2⟩ (AD N hl) (by simpa using hx) λh1 h' e hs hx0=>?_;exact h h1 h' e (F.change hs (N _ hI).2.1 (N _ hI).2.2) (λp hp=>⟨(hs.2 p.1 (AW p hp)).trans (N p (AM p hp)).1,(N p (AM p hp)).2⟩) hx0
end
section
variable{E:Value→Shared→Prop}{s:Shared}
theorem QB(N:News h₀ L s.heap news)(hm:(sa,so)∈news)(hso:so.SetObjOf (PySem.strKind prog w) S n)(hb:n<1000)(hS:S x=b)(h:Q (.bool b) { s with toks:=s.toks+1 }):wpAny (model prog w) A (compareOp .In (.str x t) (.ref sa)) Q E s:=
 kse_in (Bm N hm) (UpdF.head AW) hso (Nat.lt_trans hb (by decide)) (strKind_is _ _ _ _) rfl (by rw[hS];exact h)
theorem LZ{pl:Sem Bool}{Q:Value×List Value→Shared→Prop}(N:News h₀ L s.heap news)(hm:(sa,so)∈news)(hso:so.SetObjOf (PySem.strKind prog w) S n)(hb:n<1000)(h:Q (.builtin "set.add",[.ref sa]) s):wpAny (model prog w) A (getMethod (.ref sa) "add" pl) Q E s:=
 kse_method (Bm N hm) (UpdF.head AW) hso (Nat.lt_trans hb (by decide)) h
theorem NJ(F:Fr h₀ L s.heap m)(N:News h₀ L s.heap news)(hm:(sa,so)∈news)(hso:so.SetObjOf (PySem.strKind prog w) S n)(hb:n<1000)(h:∀h' so',Fr h₀ L h' m→News h₀ L h' ((sa,so')::off sa news)→so'.SetObjOf (PySem.strKind prog w) (λk'=>S k'||decide (k'=x)) (if S x then n else n+1)→Q .none { s with heap:=h',toks:=s.toks+1 }):wpAny (model prog w) A (call (.builtin "set.add") [.ref sa,.str x t]) Q E s:=
 kse_add F (Bm N hm) (UpdF.head AW) hso (Nat.lt_of_le_of_lt (Nat.succ_le_of_lt hb) (by decide)) (strKind_is _ _ _ _) rfl h
theorem Ie{value slice:PySem.Expr}{j:Nat}{t:Tok}{D:Addr}{vs:List Value}{n:Nat}(F:Fr h₀ L s.heap m)(N:News h₀ L s.heap news)(hm:(D,listOf vs.toArray n)∈news)(hz:vs.length≤1000000)(h:∀D' h',Fr h₀ L h' m→News h₀ L h' ((D',listOf (vs.drop j).toArray 0)::news)→(∀p∈news,p.1<D')→Q (.ref D') { s with heap:=h' })(hs:subscripted slice false (.ref D) (.ref s.heap.objs.size)=operate [.ref s.heap.objs.size,.ref D] (getItem (.ref D) (.ref s.heap.objs.size)))(ht:∀r,letTemporaryGo value (.ref D) r=pure ()) :
  wpAny (model prog w) A (subscriptTail value slice (.ref D) (.ref s.heap.objs.size)) Q E { s with heap:=s.heap.push { cls:=.type "slice",data:=.fields #[.int (j:Int) t,.none,.none] } }:=by
 refine kmk_slice_lit F N (AD N hm) (.int _ _) .none ?_ h hs ht (by refine Aa List.size_toArray ?_;exact Nat.le_trans hz (by decide));have e:sliceBounds (some (j:Int)) none none vs.toArray.size=(((min j vs.toArray.size:Nat):Int),((vs.toArray.size:Nat):Int),1):=by
  simp only[sliceBounds,Option.getD_none,show(1:Int)>0 by decide,if_true,if_neg (show ¬((j:Int)<0) by exact UW)];congr 1;omega
 refine Aa (kmk_pick_nat _ e) ?_;refine(?_:(vs.drop (min j vs.toArray.size)).take (vs.toArray.size-min j vs.toArray.size)=_);rw[List.size_toArray,kmk_drop_min,List.take_of_length_le];refine Aa List.length_drop ?_;omega
theorem VI{a b:Addr}{vs ws:List Value}{n k:Nat}(F:Fr h₀ L s.heap m)(N:News h₀ L s.heap news)(ha:(a,listOf vs.toArray n)∈news)(hb:(b,listOf ws.toArray k)∈news)(hz:vs.length≤1000000)(hz2:ws.length≤1000000)(h:∀D h',Fr h₀ L h' m→News h₀ L h' ((D,listOf (vs++ws).toArray 0)::news)→(∀p∈news,p.1<D)→Q (.ref D) { s with heap:=h' }):wpAny (model prog w) A (binaryOp .Add (.ref a) (.ref b)) Q E s:=
 kmk_add_lit F N (AD N ha) (AD N hb) rfl h (Nat.le_trans (Nat.add_le_add hz hz2) (by decide))
theorem MS{D:Addr}{o:Obj}{kvs:List (Str×Value)}{Q:Unit→Shared→Prop}(F:Fr h₀ L s.heap m)(N:News h₀ L s.heap news)(hm:(D,o)∈news)(hd:o.IsDictOf (PySem.strKind prog w) kvs)(hl:(valueAt kvs x).isSome=true)(hz:kvs.length≤1000)(h:∀h' o',Fr h₀ L h' m→News h₀ L h' ((D,o')::off D news)→o'.IsDictOf (PySem.strKind prog w) (without kvs x)→Q () { s with heap:=h',toks:=s.toks+1 }):wpAny (model prog w) A (delItem (.ref D) (.str x t)) Q E s:=
 kob_del F (Bm N hm) (UpdF.head AW) hd (strKind_is _ _ _ _) hl (Nat.le_trans hz (by decide)) h
end
section
set_option autoImplicit false
namespace Dfs
variable(succ:Nat→List Nat)(nodes:List Nat)
noncomputable def Lnk(fin:List Nat)(st:List (Nat×Nat))(c:Option Nat):Prop:=
 ∀j a p,st[j]?=some (a,p)→p≤(succ a).length∧(∀q s,q<p→(succ a)[q]?=some s→s∈fin∨(q+1=p∧((st[j+1]?).map (·.1)=some s∨(j+1=st.length∧c=some s))))∧(∀b,(st[j+1]?).map (·.1)=some b→∃p',p=p'+1∧(succ a)[p']?=some b)
structure Inv(fin:List Nat)(st:List (Nat×Nat))(c:Option Nat):Prop where
 nd:(fin++st.map (·.1)).Nodup
 sub:∀v∈fin++st.map (·.1),v∈nodes
 done:∀i v,fin[i]?=some v→∀s∈succ v,s∈fin.take i
 lnk:Lnk succ fin st c
 cur:∀x,c=some x→st≠[]→∃a p,st.getLast?=some (a,p+1)∧(succ a)[p]?=some x
variable{succ nodes}
theorem Inv.start:Inv succ nodes [] [] none:=
 ⟨List.nodup_nil,(λz_ h=>by contradiction),(λi v h=>by simp at h),(λj a p h=>by simp at h),(λx h=>by contradiction)⟩
theorem Inv.weak{fin:List Nat}{st:List (Nat×Nat)}(h:Inv succ nodes fin st none)(x:Nat)(he:st=[]):Inv succ nodes fin st (some x):=by
 subst he;exact⟨h.nd,h.sub,h.done,λj a p h=>by simp at h,λz_ z_ q=>absurd rfl q⟩
theorem Inv.push{fin:List Nat}{st:List (Nat×Nat)}{x:Nat}(h:Inv succ nodes fin st (some x))(hx:x∈nodes)(h1:x∉fin)(h2:x∉st.map (·.1)):Inv succ nodes fin (st++[(x,0)]) none:=by
 refine⟨?_,?_,h.done,?_,λz_ q=>by contradiction⟩
 ·refine Aa List.map_append (AV (List.append_assoc ..) ?_);refine List.nodup_append.mpr ⟨h.nd,by simp,?_⟩;intro a ha b hb e;have hb2:b=x:=by simpa using hb
  have e2:a=x:=e.trans hb2;subst e2;rcases List.mem_append.mp ha with ha | ha
  ·exact h1 ha
  ·exact h2 ha
 ·intro v hv;rw[List.map_append,← List.append_assoc] at hv;rcases List.mem_append.mp hv with hv | hv
  ·exact h.sub v hv
  ·have:v=x:=by simpa using hv
   subst this;exact hx
 ·intro j a p hj;by_cases hlt:j<st.length
  ·replace hj:=(List.getElem?_append_left hlt).symm.trans hj;refine Cg (h.lnk j a p hj) λk1 k2 k3=>?_;refine⟨k1,?_,?_⟩
   ·intro q s hq hs;rcases k2 q s hq hs with k | ⟨k,k'⟩
    ·exact .inl k
    ·refine .inr ⟨k,.inl ?_⟩;rcases k' with k' | ⟨k',k''⟩
     ·rw[List.getElem?_append_left (by
       rcases Nat.lt_or_ge (j+1) st.length with z | z
       ·exact z
       ·rw[List.getElem?_eq_none z] at k';contradiction)]
      exact k'
     ·refine Aa k' (Aa (List.getElem?_append_right (Nat.le_refl _)) ?_);obtain rfl:=Option.some.inj k'';simp
   ·intro b hb;by_cases hj1:j+1<st.length
    ·rw[List.getElem?_append_left hj1] at hb;exact k3 b hb
    ·have hne:st≠[]:=by
      intro e;subst e;simp at hlt
     refine Ax (h.cur x rfl hne) λa' p' e1 e2=>?_;rw[List.getLast?_eq_getElem?,show st.length-1=j by exact aO hlt hj1,hj] at e1;cases e1;rw[(Rp hlt hj1:j+1=st.length),List.getElem?_append_right (Nat.le_refl _)] at hb;simp at hb;subst hb;exact⟨p',rfl,e2⟩
  ·have hj2:j=st.length:=by
    have:=(List.getElem?_eq_some_iff.mp hj).1;simp at this;exact UV hlt this
   subst hj2;replace hj:=(List.getElem?_append_right (Nat.le_refl _)).symm.trans hj;simp at hj;refine oA hj λho0 ho1=>?_;subst ho0;subst ho1;exact⟨Nat.zero_le _,λq s hq=>absurd hq (Nat.not_lt_zero _),λb hb=>by rw[List.getElem?_append_right (Nat.le_succ _)] at hb;simp at hb⟩
theorem Inv.skip{fin:List Nat}{st:List (Nat×Nat)}{x:Nat}(h:Inv succ nodes fin st (some x))(h1:x∈fin):Inv succ nodes fin st none:=by
 refine⟨h.nd,h.sub,h.done,?_,λz_ q=>by contradiction⟩;intro j a p hj;refine Cg (h.lnk j a p hj) λk1 k2 k3=>?_;refine⟨k1,?_,k3⟩;intro q s hq hs;rcases k2 q s hq hs with k | ⟨k,k' | ⟨_,k''⟩⟩
 ·exact .inl k
 ·exact .inr ⟨k,.inl k'⟩
 ·obtain rfl:=Option.some.inj k'';exact .inl h1
theorem Inv.next{fin:List Nat}{st:List (Nat×Nat)}{a p s:Nat}(h:Inv succ nodes fin (st++[(a,p)]) none)(hs:(succ a)[p]?=some s):Inv succ nodes fin (st++[(a,p+1)]) (some s):=by
 refine⟨by simpa using h.nd,by simpa using h.sub,h.done,?_,?_⟩
 ·intro j b r hj;by_cases hlt:j<st.length
  ·replace hj:=(List.getElem?_append_left hlt).symm.trans hj;refine Cg (h.lnk j b r (by rw[List.getElem?_append_left hlt];exact hj)) λk1 k2 k3=>?_;refine⟨k1,?_,λb' hb'=>k3 b' ?_⟩;rotate_left
   ·by_cases hj1:j+1<st.length
    ·rw[List.getElem?_append_left hj1] at hb' ⊢;exact hb'
    ·rw[(Rp hlt hj1:j+1=st.length),List.getElem?_append_right (Nat.le_refl _)] at hb' ⊢;simpa using hb'
   intro q s' hq hs';rcases k2 q s' hq hs' with k | ⟨k,k' | ⟨_,k''⟩⟩
   ·exact .inl k
   ·refine .inr ⟨k,.inl ?_⟩;by_cases hj1:j+1<st.length
    ·rw[List.getElem?_append_left hj1] at k' ⊢;exact k'
    ·rw[(Rp hlt hj1:j+1=st.length),List.getElem?_append_right (Nat.le_refl _)] at k' ⊢;simpa using k'
   ·contradiction
  ·have hj2:j=st.length:=by
    have:=(List.getElem?_eq_some_iff.mp hj).1;simp at this;exact UV hlt this
   subst hj2;replace hj:=(List.getElem?_append_right (Nat.le_refl _)).symm.trans hj;simp at hj;refine oA hj λho0 ho1=>?_;subst ho0;subst ho1;refine Cg (h.lnk st.length a p (by rw[List.getElem?_append_right (Nat.le_refl _)];simp)) λk1 k2 k3=>?_;refine⟨(List.getElem?_eq_some_iff.mp hs).1,?_,λb hb=>by rw[List.getElem?_append_right (Nat.le_succ _)] at hb;simp at hb⟩;intro q s' hq hs';by_cases hqp:q<p
   ·rcases k2 q s' hqp hs' with k | ⟨_,k' | ⟨_,k''⟩⟩
    ·exact .inl k
    ·rw[List.getElem?_append_right (Nat.le_succ _)] at k';simp at k'
    ·contradiction
   ·have hqp:q=p:=UU hq hqp;subst hqp;replace hs':=hs.symm.trans hs';obtain rfl:=Option.some.inj hs';exact .inr ⟨rfl,.inr ⟨by simp,rfl⟩⟩
 ·rintro x hx _;obtain rfl:=Option.some.inj hx;exact⟨a,p,by simp,hs⟩
theorem Inv.pop{fin:List Nat}{st:List (Nat×Nat)}{a p:Nat}(h:Inv succ nodes fin (st++[(a,p)]) none)(hp:(succ a).length≤p):Inv succ nodes (fin++[a]) st none:=by
 refine Cg (h.lnk st.length a p (by rw[List.getElem?_append_right (Nat.le_refl _)];simp)) λk1 k2 z_=>?_;have hall:∀s∈succ a,s∈fin:=by
  intro s hs;obtain⟨q,hq,e⟩:=List.mem_iff_getElem.mp hs;rcases k2 q s (Nat.le_trans (by assumption) (by assumption)) ((List.getElem?_eq_getElem hq).trans (Aa e rfl)) with k | ⟨_,k' | ⟨_,k''⟩⟩
  ·exact k
  ·rw[List.getElem?_append_right (Nat.le_succ _)] at k';simp at k'
  ·contradiction
 have hperm:∀v,v∈fin++[a]++st.map (·.1)→v∈fin++(st++[(a,p)]).map (·.1):=by
  intro v hv;simp only[List.map_append,List.map_cons,List.map_nil,List.mem_append,List.mem_singleton] at hv ⊢;rcases hv with (hv | hv) | hv
  ·exact .inl hv
  ·exact .inr (.inr hv)
  ·exact .inr (.inl hv)
 refine⟨?_,λv hv=>h.sub v (hperm v hv),?_,?_,λz_ q=>by contradiction⟩
 ·have h1:=h.nd;rw[List.map_append,List.nodup_append,List.nodup_append] at h1;refine Cg h1 λn1 ho1 n5=>?_;refine Cg ho1 λn2 n3 n4=>?_;rw[List.append_assoc,List.nodup_append];refine⟨n1,?_,?_⟩
  ·rw[List.singleton_append,List.nodup_cons];exact⟨λhm=>n4 a hm a (by simp) rfl,n2⟩
  ·intro x hx y hy e;refine n5 x hx y ?_ e;rcases List.mem_append.mp hy with hy | hy
   ·exact List.mem_append_right _ (by simpa using hy)
   ·exact List.mem_append_left _ hy
 ·intro i v hv s hs;by_cases hlt:i<fin.length
  ·replace hv:=(List.getElem?_append_left hlt).symm.trans hv;refine Aa (List.take_append_of_le_length (Nat.le_of_lt hlt)) ?_;exact h.done i v hv s hs
  ·have hi:i=fin.length:=by
    have:=(List.getElem?_eq_some_iff.mp hv).1;simp at this;exact UV hlt this
   subst hi;replace hv:=(List.getElem?_append_right (Nat.le_refl _)).symm.trans hv;simp at hv;subst hv;refine Aa (List.take_append_of_le_length (Nat.le_refl _)) (Aa List.take_length ?_);exact hall s hs
 ·intro j b r hj;have hlt:=(List.getElem?_eq_some_iff.mp hj).1;refine Cg (h.lnk j b r (by rw[List.getElem?_append_left hlt];exact hj)) λk1 k2 k3=>?_;refine⟨k1,?_,λb' hb'=>k3 b' ?_⟩;rotate_left
  ·rw[List.getElem?_append_left (by
    rcases Nat.lt_or_ge (j+1) st.length with z | z
    ·exact z
    ·rw[List.getElem?_eq_none z] at hb';contradiction)]
   exact hb'
  intro q s hq hs;rcases k2 q s hq hs with k | ⟨k,k' | ⟨_,k''⟩⟩
  ·exact .inl (List.mem_append_left _ k)
  ·by_cases hj1:j+1<st.length
   ·rw[List.getElem?_append_left hj1] at k';exact .inr ⟨k,.inl k'⟩
   ·rw[(Rp hlt hj1:j+1=st.length),List.getElem?_append_right (Nat.le_refl _)] at k';simp at k';exact .inl (List.mem_append_right _ (by simp[k']))
  ·contradiction
noncomputable def Ring(succ:Nat→List Nat)(S:List Nat):Prop:=S≠[]∧∀v∈S,∃u∈S,v∈succ u
theorem Inv.ring{fin:List Nat}{st:List (Nat×Nat)}{x:Nat}(h:Inv succ nodes fin st (some x))(hx:x∈st.map (·.1)):∃S,Ring succ S∧∀v∈S,v∈nodes:=by
 refine An (List.mem_map.mp hx) λe he ho2=>?_;subst ho2;obtain⟨i,hi,hei⟩:=List.mem_iff_getElem.mp he;refine⟨(st.drop i).map (·.1),⟨?_,?_⟩,λv hv=>h.sub v (List.mem_append_right _ (List.map_subset _ (List.drop_subset i st) hv))⟩
 ·intro q;have:(st.drop i).length=0:=by
   simpa using (congrArg List.length q)
  replace this:=List.length_drop.symm.trans this;exact aM hi this
 ·intro v hv;refine An (List.mem_map.mp hv) λho0 hv2 ho2=>?_;obtain⟨v',pv⟩:=ho0;subst ho2;obtain⟨k,hk,hkv⟩:=List.mem_iff_getElem.mp hv2;rw[List.length_drop] at hk;replace hkv:=List.getElem_drop.symm.trans hkv;by_cases hk0:k=0
  ·subst hk0;have hne:st≠[]:=by
    intro q;subst q;simp at hi
   refine Ax (h.cur _ rfl hne) λa p e1 e2=>?_;replace e1:=(List.getLast?_eq_getElem?).symm.trans e1;refine⟨a,?_,?_⟩
   ·refine List.mem_map.mpr ⟨(a,p+1),?_,rfl⟩;rw[List.mem_iff_getElem?];refine⟨st.length-1-i,?_⟩;refine(List.getElem?_drop).trans (Aa (show i+(st.length-1-i)=st.length-1 by lia) ?_);exact e1
   ·have e3:v'=e.1:=by
     have:st[i]=(v',pv):=by simpa using hkv
     replace this:=hei.symm.trans this;exact Aa this rfl
    refine(?_:v'∈succ a);refine Aa e3 ?_;exact List.mem_of_getElem? e2
  ·obtain⟨b,r,hb⟩:∃b r,st[i+(k-1)]?=some (b,r):=⟨_,_,List.getElem?_eq_getElem (by lia:i+(k-1)<st.length)⟩;refine Cg (h.lnk _ b r hb) λk1 k2 k3=>?_;have hnext:st[i+(k-1)+1]?=some (v',pv):=by
    exact Aa (show i+(k-1)+1=i+k by exact aL hk0) (Aa (List.getElem?_eq_getElem (by lia)) (Aa hkv rfl))
   refine An (k3 v' (by rw[hnext];rfl)) λr' ho1 hr=>?_;subst ho1;refine⟨b,List.mem_map.mpr ⟨(b,r'+1),?_,rfl⟩,List.mem_of_getElem? hr⟩;rw[List.mem_iff_getElem?];exact⟨k-1,by refine(List.getElem?_drop).trans ?_;exact hb⟩
theorem no_ring{fin S:List Nat}(nd:fin.Nodup)(hd:∀i v,fin[i]?=some v→∀s∈succ v,s∈fin.take i)(hall:∀v∈S,v∈fin)(hr:Ring succ S):False:=by
 have key:∀n,∀v∈S,∀i,fin[i]?=some v→i+n<fin.length:=by
  intro n
  induction n with
  |zero=>exact λv z_ i hi=>(List.getElem?_eq_some_iff.mp hi).1
  |succ n ih=>
   intro v hv i hi;refine An (hr.2 v hv) λu hu hvu=>?_;refine oE (List.mem_iff_getElem?.mp (hall u hu)) λk hk=>?_;refine oE (List.mem_iff_getElem?.mp (hd k u hk v hvu)) λz hz=>?_;have hzk:z<k:=by
    have:=(List.getElem?_eq_some_iff.mp hz).1;rw[List.length_take] at this;lia
   replace hz:=(List.getElem?_take_of_lt hzk).symm.trans hz;have e:i=z:=(List.getElem?_inj (List.getElem?_eq_some_iff.mp hi).1 nd).mp (hi.trans hz.symm);exact aN (za (za (zv 0) (za (zv 1) (zn 1))) (zn 1)) (zv 2) [(0,1,za (zv 3) (zn 1),zv 4),(1,1,zv 0,zv 3),(0,1,za (za (zv 4) (zv 1)) (zn 1),zv 2)] rfl (BJ _ _ _ _ _) Ae hzk e (ih u hu k hk)
 refine oE (List.exists_mem_of_ne_nil S hr.1) λv hv=>?_;refine oE (List.mem_iff_getElem?.mp (hall v hv)) λi hi=>?_;exact aF [(0,1,za (za (zv 0) (zv 1)) (zn 1),zv 1)] rfl (Az _ _) Ae (key fin.length v hv i hi)
end Dfs
end
section
variable{st:List (Nat×Nat)}
theorem Hg{kv:List (Str×Value)}{k k':Str}{v:Value}:valueAt (kv++[(k,v)]) k'=match valueAt kv k' with | some u=>some u | none=>if k=k' then some v else none:=by
 induction kv with
 |nil=>
  refine(?_:valueAt [(k,v)] k'=_);refine AL.trans ?_;rfl
 |cons a r ih=>
  obtain⟨x,y⟩:=a;refine Aa List.cons_append (AL.trans (Aa AL (Aa ih ?_)));by_cases e:x=k'
  ·exact(if_pos e).trans (Aa (if_pos e) rfl)
  ·exact(if_neg e).trans (Aa (if_neg e) rfl)
noncomputable def Er(fin:List Nat)(st:List (Nat×Nat)):Nat:=(st.map λe=>1001-e.2).sum+2000*(4-(fin.length+st.length))
theorem Mq(h:fin.length+(st++[(x,0)]).length≤4):Er fin (st++[(x,0)])<Er fin st:=by
 unfold Er;simp only[List.map_append,List.sum_append,List.length_append,List.map_cons,List.map_nil,List.sum_cons,List.sum_nil,List.length_cons,List.length_nil] at h ⊢;lia
theorem Mr(h:p<1000):Er fin (st++[(a,p+1)])<Er fin (st++[(a,p)]):=by
 unfold Er;simp only[List.map_append,List.sum_append,List.length_append,List.map_cons,List.map_nil,List.sum_cons,List.sum_nil,List.length_cons,List.length_nil];exact aP h
theorem Iu(h:p≤1000):Er (fin++[a]) st<Er fin (st++[(a,p)]):=by
 unfold Er;simp only[List.map_append,List.sum_append,List.length_append,List.map_cons,List.map_nil,List.sum_cons,List.sum_nil,List.length_cons,List.length_nil];lia
theorem RA(h:Dfs.Inv succ nodes fin st c)(hn:∀k∈nodes,k<4):fin.length+st.length≤4:=by
 simpa using (CZ 4 _ h.nd λx hx=>hn x (h.sub x hx))
end
section
variable{E:Value→Shared→Prop}
theorem IV(N:News h₀ L s.heap news)(hq:(q,CB I)∈news)(h:wpAny (model prog w) A (call (.ref q) []) Q E s):wpAny (model prog w) A (callWith pos (.ref q) [] (backTo pos (starEach [] env)) []) Q E s:=by
 refine callWith_of (P:=λh=>h.get? q=some (CB I)) rfl (λh hh=>⟨.machine,.inr (.inl rfl),?_⟩) (evalArgs_nil3 ⟨(N _ hq).1,h⟩);exact(Looks.ld (part:=none) hh).andThen .now
end
theorem JU:isSubtype (.type "StopIteration") (.type "BaseException")=pure true:=by refine(isSubtype_type ..).trans ?_;kernel_rfl
theorem G4:isSubtype (.type ((Manifest.find? "StopIteration").elim "type" λx=>x.metatype)) (.type "tuple")=pure false:=by
 refine Aa (show((Manifest.find? "StopIteration").elim "type" λx=>x.metatype)="type" from by kernel_rfl) ((isSubtype_type ..).trans ?_)
 kernel_rfl
theorem JT:isSubtype (.type "StopIteration") (.type "StopIteration")=pure true:=isSubtype_stop
noncomputable def Zz(P:Prop):Prop:=P
theorem go_(h:P):Zz P:=h
theorem bP(h:Zz P):P:=h
section
open LCg LCt
theorem Jw{A₀:Around}{base h₀ g₀ g' g₂:Heap}{outer:List Env}{K:Frag}{p:Program}{loose:List Str}{mean:ExcName→Option Value}{mg mb:Str→Option Value}{cn:Str}{cs:Scope}{L a:Addr}{ccd:Value}{m:Str→Option Value}(F:Fr h₀ L g' m)(B:Below A₀ base outer h₀)(XB:K.In base)(TB:Top p loose mean mg mb base)(D:KtsDicts (outer.filterMap (·.frame)) h₀)(T0:KtsTurn (outer.filterMap (·.frame)) g₀ h₀)(T:KtsTurn ((envOf cn cs L a ccd::outer).filterMap (·.frame)) g' g₂) :
  ∃h₁,Fr h₁ L g₂ m∧GdS A₀ base outer K p loose mean mg mb g₀ h₁:=by
 refine Dj F.ns λoL es ep hLg hLd hLk hLf=>?_;refine oE (T.up hLg) λsl hs=>?_;refine oA (kts_turn_at (h:=g₂) (fs:=outer.filterMap (·.frame)) (g:=h₀)
  (λb hb=>by
   refine G3 (B.frames.mem hb) λ_ o ho' _=>?_;exact⟨o,ho'⟩)
  (λb o e nmem=>T.other b o (F.keep b o e) (λq=>by
   rcases kts_mem q with z | z
   ·rw[z,(kts_self F)] at e;contradiction
   ·exact nmem z))
  (λb o e hm=>by
   refine oE (T.up (F.keep b o e)) λsl' hs'=>?_;exact⟨sl',hs'⟩)) λT₁ S₁=>?_
 have B₃:Below A₀ base outer (ktsHeap g₂ (outer.filterMap (·.frame)) h₀):=⟨B.stack,λb o e=>T₁.other b o (B.stays b o e) (λhm=>by
  replace e:=((B.frames.mem hm).1).symm.trans e;contradiction),B.frames.of_keeps λb o e z_=>by
  refine oE (T₁.up e) λsl' hs'=>?_;exact⟨_,hs',rfl⟩⟩
 exact⟨_,⟨⟨_,es,ep,hs,hLd,hLk,hLf⟩,S₁,by refine Aa T₁.size ?_;exact F.above⟩,T0.trans T₁,B₃,XB.keeps B₃.stays,TB.keeps B₃.stays,D.turn T₁⟩
end
section
variable{E:Value→Shared→Prop}
theorem Ua(F:Fr h₀ L s.heap m)(N:News h₀ L s.heap news)(hp:(d,o)∈news)(hd:o.IsDictOf (strKind prog w) kvs)(lo:(d==sysModules)=false)(h:∀(D:Addr) h',Fr h₀ L h' m→News h₀ L h' ((D,{ cls:=.type "dict_values",data:=.fields #[.ref d] })::news)→(∀q∈news,q.1<D)→Q (.ref D) { s with heap:=h' }) :
  wpAny (model prog w) A (call (.builtin "dict.values") [.ref d]) Q E s:=kdl_view_values F N hp hd lo h
end
section
set_option backward.match.sparseCases true
section
variable{K:Frag}
theorem Ki(B:Below A₀ base [] h₀)(F:Fr h₀ L s.heap m)(X₀:K.In h₀)(N:News h₀ L s.heap news)(T:Top p loose mean mg mb h₀)(hA:A.frames=some [env])(hf:env.frame=some L)(hke:env.scope.kind = .function)(ho:K.lookup f=some ⟨oc,od,.func (fnOf name qual params body scope dV kV doc pm an cdv ct),osl⟩)(hcd:codeIn K cdv qual=true)(hroom:A.depth<recursionLimit)(hbind:BindsTo s (fnOf name qual params body scope dV kV doc pm an cdv ct) args binds)(hloc:∀y∈binds,scope.names.lookup y.1=some .local)(h:∀g L' h₁,Fr h₀ L g m→Fr g L' h₁ (λy=>binds.reverse.lookup y)→News g L' h₁ news→Below A base [env] g→K.In g→Top p loose mean mg mb g→KtsDicts ([env].filterMap (·.frame)) g →
   wpAny (model prog w) (A.deeper (envOf qual scope L' f cdv)) (execs body (envOf qual scope L' f cdv))
    (λfl s'=>LeaveS0 ([env].filterMap (·.frame)) h₀ L m g R (match fl with | .ret v=>v | _=>.none) s')
    (λe s'=>wpAny (model prog w) (A.deeper (envOf qual scope L' f cdv)) (leaving (envOf qual scope L' f cdv) e) (λz_ s''=>R (.error e) s'') (λe' s''=>R (.error e') s'') s')
    { s with heap:=h₁,toks:=s.toks+binds.length })(hco:scope.isCoroutine=false)(hgen:scope.isGenerator=false)(hk:scope.kind = .function)(hcell:∀x∈scope.names,x.2 ≠ .cell):codeAny (model prog w) A (.call (.ref f) args) R s:=by
 have X:=X₀.keeps F.keep;refine codeAny_call_def (fd:=fnOf name qual params body scope dV kV doc pm an cdv ct) (body:=body) (binds:=binds) hroom (X _ _ ho) rfl (T.nolimit.keeps F.keep) (codeRec_of X hcd) rfl hbind hcell hloc (λh₁ hns hk₁=>?_) hco hgen hk;refine Ht (groundX (R:=R) B F N hA hf hke) λFg B₂ st z_=>?_;refine Dj Fg.ns λoL es ep hLg hLd hLk hLf=>?_;rw[(by simp[hf]:[env].filterMap (·.frame)=[L])] at h;refine wpAny_mono (h _ s.heap.objs.size h₁ Fg ⟨hns,λb o e=>hk₁ b o (of_hideAll _ e),Nat.le_of_eq (hideAll_size _ _)⟩
  (λp hp=>⟨hk₁ _ _ (N p hp).1,Nat.ne_of_lt (Heap.lt_size (N p hp).1),hideAll_none _ (List.mem_map_of_mem hp)⟩) B₂ (X₀.keeps st) (T.keeps st) (λb hb=>by
   refine Aa (List.mem_singleton.mp hb) ?_;exact⟨oL,es,ep,hLg,hLd⟩)) (λfl s' hl=>?_) λz_ z_ y=>y
 refine Ot hl λg' L' m' news' T' F' N' k=>?_;refine oE (T'.up hLg) λsl hs=>?_;refine k ⟨⟨_,es,ep,F'.keep _ _ hs,hLd,hLk,hLf⟩,λb o e=>F'.keep b o (T'.other b o (st b o e) (λq=>by
  rw[List.mem_singleton.mp q,(kts_self F)] at e;contradiction)),F.above⟩ λp hp=>⟨(N' p hp).1,λq=>?_,?_⟩
 ·have:=(N' p hp).2.2;rw[q,hs] at this;contradiction
 ·cases q:h₀.get? p.1 with
  |none=>rfl
  |some o=>
   refine oE (T'.up (st _ _ q)) λsl' hs'=>?_;have:=(N' p hp).2.2;rw[hs'] at this;contradiction
end
end
section
variable{E:Value→Shared→Prop}{v dflt:Value}
theorem Jz(N:News h₀ L s.heap news)(hp:(d,o)∈news)(hd:o.IsDictOf (strKind prog w) kvs)(lo:(d==sysModules)=false)(hv:valueAt kvs x=some v)(hz:kvs.length≤10000)(h:Q v { s with toks:=s.toks+1 }) :
  wpAny (model prog w) A (call (.builtin "dict.setdefault") [.ref d,.str x t,dflt]) Q E s:=by
 have hD:=kda_dict N hp hd;refine call_meetsIn PySem.F.slot_dict_setdefault hD.typeIs PySem.F.entry_dict_setdefault (PySem.F.args_dict_setdefault_3 _ _ _) (kt_meets_setdefault _ d (strKind_is _ _ _ _) lo dflt) ⟨kvs,hD,Nat.le_trans hz (by decide),(λv' hv'=>by rw[hv] at hv';obtain rfl:=Option.some.inj hv';exact h),(λhn=>by rw[hv] at hn;contradiction)⟩
theorem NG(F:Fr h₀ L s.heap m)(N:News h₀ L s.heap news)(hp:(d,o)∈news)(hd:o.IsDictOf (strKind prog w) kvs)(lo:(d==sysModules)=false)(hv:valueAt kvs x=none)(hz:kvs.length≤10000)(h:∀h' o',Fr h₀ L h' m→News h₀ L h' ((d,o')::off d news)→o'.IsDictOf (strKind prog w) (stored kvs x dflt)→Q dflt { s with heap:=h',toks:=s.toks+1 }) :
  wpAny (model prog w) A (call (.builtin "dict.setdefault") [.ref d,.str x t,dflt]) Q E s:=by
 have hD:=kda_dict N hp hd;refine call_meetsIn PySem.F.slot_dict_setdefault hD.typeIs PySem.F.entry_dict_setdefault (PySem.F.args_dict_setdefault_3 _ _ _) (kt_meets_setdefault _ d (strKind_is _ _ _ _) lo dflt) ⟨kvs,hD,Nat.le_trans hz (by decide),(λv hv'=>by rw[hv] at hv';contradiction),λz_ h' hm hs=>?_⟩;refine An (Heap.dictOf_iff.mp hm) λo' ho' hd'=>?_;refine h h' o' (F.change hs (N _ hp).2.1 (N _ hp).2.2) (λp hq=>?_) hd';rcases List.mem_cons.mp hq with rfl | hq
 ·exact⟨ho',(N _ hp).2⟩
 ·exact⟨(hs.2 p.1 (AW p hq)).trans (N p (AM p hq)).1,(N p (AM p hq)).2⟩
end
section
open Sem (wp)
theorem ES:Slot "method_descriptor" "__get__" "method_descriptor.__get__":=
 .of (owner:="method_descriptor") (n:="__get__") (by refine(typeLookup_type ..).trans (Aa builtinLookup_eq_fast ?_);kernel_rfl) (by decide +kernel) (by decide +kernel) (by decide +kernel)
  (by first | exact .inl (by decide +kernel) | exact .inr (by decide +kernel)) (by refine(isSubtype_type ..).trans ?_;kernel_rfl)
theorem Es:entryFor table "method_descriptor.__get__"=some Builtin.«method_descriptor.__get__»:=entryFor_of_tree (by kernel_rfl)
theorem Fc(a b c:Value):argsOk "method_descriptor.__get__" ⟨[a,b,c],[]⟩:=by unfold argsOk;kernel_rfl
theorem OA:typeLookup (.type "method_descriptor") "__set__"=pure none:=by refine(typeLookup_type ..).trans (Aa builtinLookup_eq_fast ?_);kernel_rfl
theorem GJ:typeLookup (.type "method_descriptor") "__delete__"=pure none:=by refine(typeLookup_type ..).trans (Aa builtinLookup_eq_fast ?_);kernel_rfl
noncomputable def DQ(id:String)(a:Addr):Obj:={ cls:=.type "builtin_function_or_method",data:=.fields #[.builtin id,.ref a] }
theorem IQ:entryFor table "dict.__getattribute__"=some Builtin.«object.__getattribute__»:=
 entryFor_alias (id':="object.__getattribute__") (by kernel_rfl) (by decide +kernel) (by decide +kernel) (by kernel_rfl)
theorem Ke:typeLookup (.type "dict") "__getattr__"=pure none:=by refine(typeLookup_type ..).trans (Aa builtinLookup_eq_fast ?_);kernel_rfl
theorem P1:(".".intercalate ("dict.get".cutAt '.').dropLast)="dict":=by decide +kernel
theorem H8:isSubtype (.type "dict") (.type (".".intercalate ("dict.get".cutAt '.').dropLast))=pure true:=by
 refine Aa P1 ((isSubtype_type ..).trans ?_);kernel_rfl
section
variable{prog:Program}{w:World}{A:Around}{E:Value→Shared→Prop}{h:Heap}{g:Array GenState}{d:Drawn}{t:Nat}{os:OsState}{a:Addr}{o:Obj}
theorem V5(hx:h.get? a=some o)(hc:o.cls = .type "dict")(hq:R (.ok (.ret (.ref h.objs.size))) ⟨h.push (DQ "dict.get" a),g,d,t,os⟩) :
  codeAny (model prog w) A (.call (.builtin "method_descriptor.__get__") ⟨[.builtin "dict.get",.ref a,.type "dict"],[]⟩) R ⟨h,g,d,t,os⟩:=by
 have hT:(⟨h,g,d,t,os⟩:Shared).TypeIs (.ref a) "dict":=⟨_,hx,hc⟩;have hT5:(⟨h,g,d,t,os⟩:Shared).TypeIs (.builtin "dict.get") "method_descriptor":=F.type_dict_get;have f8:=H8;refine codeAny_call_builtin ES.plain Es (ES.check _ _ _ _ _ _ _ _ hT5 (Fc _ _ _) ?_)
 repeat (any_goals (first | assumption | wp_step))
theorem P3(hx:h.get? a=some o)(hc:o.cls = .type "dict")(hd:o.dict=none)(hdat:∃es k,o.data = .dict es k)(hq:Q (.done (.ret (.ref h.objs.size))) ⟨h.push (DQ "dict.get" a),g,d,t,os⟩) :
  wpAny (model prog w) A (Builtin.«object.__getattribute__» ⟨[.ref a,.str "get" tk],[]⟩) Q E ⟨h,g,d,t,os⟩:=by
 obtain⟨c,dct,dat,sl⟩:=o;obtain⟨x1,x2,hdat⟩:=hdat;simp only at hc hd hdat;subst hc hd hdat;have hT:(⟨h,g,d,t,os⟩:Shared).TypeIs (.ref a) "dict":=⟨_,hx,rfl⟩;have hT5:(⟨h,g,d,t,os⟩:Shared).TypeIs (.builtin "dict.get") "method_descriptor":=F.type_dict_get;have f4:=F.slot_dict_get.lookup;have f5:=F.type_dict_get;have f6:=ES.lookup;have f7:=OA;have f8:=GJ;unfold Builtin.«object.__getattribute__»
 repeat (any_goals (first | assumption | wp_step))
 refine V5 hx rfl ?_
 repeat (any_goals (first | assumption | wp_step))
theorem RW(hx:h.get? a=some o)(hc:o.cls = .type "dict")(hd:o.dict=none)(hdat:∃es k,o.data = .dict es k)(hq:R (.ok (.ret (.ref h.objs.size))) ⟨h.push (DQ "dict.get" a),g,d,t,os⟩) :
  codeAny (model prog w) A (.call (.builtin "dict.__getattribute__") ⟨[.ref a,.str "get" tk],[]⟩) R ⟨h,g,d,t,os⟩:=
 codeAny_call_builtin F.slot_dict_getattribute.plain IQ (F.slot_dict_getattribute.check _ _ _ _ _ _ _ _ (show(⟨h,g,d,t,os⟩:Shared).TypeIs (.ref a) "dict" from ⟨_,hx,hc⟩) (F.args_dict_getattribute_2 _ _) (P3 hx hc hd hdat hq))
theorem RX(hx:h.get? a=some o)(hc:o.cls = .type "dict")(hd:o.dict=none)(hdat:∃es k,o.data = .dict es k)(hq:Q (.ref h.objs.size) ⟨h.push (DQ "dict.get" a),g,d,t+1,os⟩) :
  wpAny (model prog w) A (getAttr (.ref a) "get" ex) Q E ⟨h,g,d,t,os⟩:=by
 obtain⟨c,dct,dat,sl⟩:=o;simp only at hc hd hdat;subst hc hd;have hT:∀tk',(⟨h,g,d,tk',os⟩:Shared).TypeIs (.ref a) "dict":=λz_=>⟨_,hx,rfl⟩
 have f2:=F.slot_dict_getattribute.lookup;have f3:=F.slot_dict_getattribute.bind (.ref a);have f5:=Ke;unfold getAttr getAttrBy
 repeat (any_goals (first | assumption | exact hT _ | wp_step))
 refine Aa (show(ex&&onTheHeap (Value.builtin "dict.__getattribute__"))=false from by cases ex<;>rfl) (Aa (if_neg Bool.false_ne_true) ?_)
 repeat (any_goals (first | assumption | exact hT _ | (refine RW hx rfl rfl hdat ?_) | wp_step))
end
theorem Ig:entryFor table "set.__getattribute__"=some Builtin.«object.__getattribute__»:=
 entryFor_alias (id':="object.__getattribute__") (by kernel_rfl) (by decide +kernel) (by decide +kernel) (by kernel_rfl)
theorem J6:typeLookup (.type "set") "__getattr__"=pure none:=by refine(typeLookup_type ..).trans (Aa builtinLookup_eq_fast ?_);kernel_rfl
theorem NM:(".".intercalate ("set.__contains__".cutAt '.').dropLast)="set":=by decide +kernel
theorem Hm:isSubtype (.type "set") (.type (".".intercalate ("set.__contains__".cutAt '.').dropLast))=pure true:=by
 refine Aa NM ((isSubtype_type ..).trans ?_);kernel_rfl
section
variable{prog:Program}{w:World}{A:Around}{E:Value→Shared→Prop}{h:Heap}{g:Array GenState}{d:Drawn}{t:Nat}{os:OsState}{a:Addr}{o:Obj}
theorem Uy(hx:h.get? a=some o)(hc:o.cls = .type "set")(hq:R (.ok (.ret (.ref h.objs.size))) ⟨h.push (DQ "set.__contains__" a),g,d,t,os⟩) :
  codeAny (model prog w) A (.call (.builtin "method_descriptor.__get__") ⟨[.builtin "set.__contains__",.ref a,.type "set"],[]⟩) R ⟨h,g,d,t,os⟩:=by
 have hT:(⟨h,g,d,t,os⟩:Shared).TypeIs (.ref a) "set":=⟨_,hx,hc⟩;have hT5:(⟨h,g,d,t,os⟩:Shared).TypeIs (.builtin "set.__contains__") "method_descriptor":=F.type_set_contains;have f8:=Hm;refine codeAny_call_builtin ES.plain Es (ES.check _ _ _ _ _ _ _ _ hT5 (Fc _ _ _) ?_)
 repeat (any_goals (first | assumption | wp_step))
theorem NN(hx:h.get? a=some o)(hc:o.cls = .type "set")(hd:o.dict=none)(hdat:∃es k tb,o.data = .set es k tb)(hq:Q (.done (.ret (.ref h.objs.size))) ⟨h.push (DQ "set.__contains__" a),g,d,t,os⟩) :
  wpAny (model prog w) A (Builtin.«object.__getattribute__» ⟨[.ref a,.str "__contains__" tk],[]⟩) Q E ⟨h,g,d,t,os⟩:=by
 obtain⟨c,dct,dat,sl⟩:=o;obtain⟨x1,x2,x3,hdat⟩:=hdat;simp only at hc hd hdat;subst hc hd hdat;have hT:(⟨h,g,d,t,os⟩:Shared).TypeIs (.ref a) "set":=⟨_,hx,rfl⟩;have hT5:(⟨h,g,d,t,os⟩:Shared).TypeIs (.builtin "set.__contains__") "method_descriptor":=F.type_set_contains;have f4:=F.slot_set_contains.lookup;have f5:=F.type_set_contains;have f6:=ES.lookup;have f7:=OA;have f8:=GJ;unfold Builtin.«object.__getattribute__»
 repeat (any_goals (first | assumption | wp_step))
 refine Uy hx rfl ?_
 repeat (any_goals (first | assumption | wp_step))
theorem QE(hx:h.get? a=some o)(hc:o.cls = .type "set")(hd:o.dict=none)(hdat:∃es k tb,o.data = .set es k tb)(hq:R (.ok (.ret (.ref h.objs.size))) ⟨h.push (DQ "set.__contains__" a),g,d,t,os⟩) :
  codeAny (model prog w) A (.call (.builtin "set.__getattribute__") ⟨[.ref a,.str "__contains__" tk],[]⟩) R ⟨h,g,d,t,os⟩:=
 codeAny_call_builtin F.slot_set_getattribute.plain Ig (F.slot_set_getattribute.check _ _ _ _ _ _ _ _ (show(⟨h,g,d,t,os⟩:Shared).TypeIs (.ref a) "set" from ⟨_,hx,hc⟩) (F.args_set_getattribute_2 _ _) (NN hx hc hd hdat hq))
theorem QF(hx:h.get? a=some o)(hc:o.cls = .type "set")(hd:o.dict=none)(hdat:∃es k tb,o.data = .set es k tb)(hq:Q (.ref h.objs.size) ⟨h.push (DQ "set.__contains__" a),g,d,t+1,os⟩) :
  wpAny (model prog w) A (getAttr (.ref a) "__contains__" ex) Q E ⟨h,g,d,t,os⟩:=by
 obtain⟨c,dct,dat,sl⟩:=o;simp only at hc hd hdat;subst hc hd;have hT:∀tk',(⟨h,g,d,tk',os⟩:Shared).TypeIs (.ref a) "set":=λz_=>⟨_,hx,rfl⟩
 have f2:=F.slot_set_getattribute.lookup;have f3:=F.slot_set_getattribute.bind (.ref a);have f5:=J6;unfold getAttr getAttrBy
 repeat (any_goals (first | assumption | exact hT _ | wp_step))
 refine Aa (show(ex&&onTheHeap (Value.builtin "set.__getattribute__"))=false from by cases ex<;>rfl) (Aa (if_neg Bool.false_ne_true) ?_)
 repeat (any_goals (first | assumption | exact hT _ | (refine QE hx rfl rfl hdat ?_) | wp_step))
end
end
section
variable{E:Value→Shared→Prop}
theorem IW{id:String}{b:Builtin}(he:entryFor table id=some b)(hpl:plainId id=true)(hchk:∀(Q:Unit→Shared→Prop) E,Q () s→wpAny (model prog w) A.in1 (checkBoundCall id ⟨.ref d::args,[]⟩) Q E s)(hquiet:Code.quiet (.builtin id ⟨.ref d::args,[]⟩)=true)(hq:s.heap.get? q=some (DQ id d))(h:wpAny (model prog w) A.in1 (b ⟨.ref d::args,[]⟩) (λfin s'=>∃v,fin = .done (.ret v)∧Q v s') E s):wpAny (model prog w) A (call (.ref q) args) Q E s:=by
 refine wpAny_call (codeAny_of_tree ?_);refine(?_:wpAny _ A.in1 (callAny (.ref q) ⟨args,[]⟩) _ _ s);simp only[callAny];refine wpAny_bind (wpAny_load hq ?_);simp only[DQ,show(Value.type "builtin_function_or_method"==Value.type "method"||Value.type "builtin_function_or_method"==Value.type "builtin_function_or_method"||Value.type "builtin_function_or_method"==Value.type "method-wrapper")=true by decide,if_true];refine wpAny_bind (hchk _ _ ?_);refine wpAny_bind (wpAny_pure (wpAny_pure ?_));refine⟨hquiet,codeAny_builtin he ?_⟩;refine Aa (Around.under_plainId hpl ..) ?_;refine wpAny_mono h (λfin s' hf=>?_) λz_ z_ e=>e;refine An hf λv ho1 hv=>?_;subst ho1;exact hv
theorem IP:isSubtype (.type "dict") (.type "module")=pure false:=by refine(isSubtype_type ..).trans ?_;kernel_rfl
theorem J0:isSubtype (.type "set") (.type "module")=pure false:=by refine(isSubtype_type ..).trans ?_;kernel_rfl
theorem MQ:isSubtype (.type "dict") (.type "type")=pure false:=by refine(isSubtype_type ..).trans ?_;kernel_rfl
theorem We:isSubtype (.type "set") (.type "type")=pure false:=by refine(isSubtype_type ..).trans ?_;kernel_rfl
theorem V4:Manifest.signature? "dict.get"=Manifest.sig_dict.lookup "get":=by
 refine(signature?_of (id:="dict.get") (n:=['t','e','g']) (o:=['t','c','i','d']) (by kernel_rfl) F.owner_dict).trans ?_;kernel_rfl
theorem Ux:Manifest.signature? "set.__contains__"=Manifest.sig_set.lookup "__contains__":=by
 refine(signature?_of (id:="set.__contains__") (n:="__contains__".toList.reverse) (o:=['t','e','s']) (by kernel_rfl) F.owner_set).trans ?_;kernel_rfl
theorem V6{b c:Value}{o:Obj}{Q:Unit→Shared→Prop}(ho:s.heap.get? d=some o)(hc:o.cls = .type "dict")(hdat:∀cd,o.data ≠ .cls cd)(h:Q () s):wpAny (model prog w) A (checkBoundCall "dict.get" ⟨[.ref d,b,c],[]⟩) Q E s:=by
 unfold checkBoundCall;refine Aa V4 ?_;have hT:s.TypeIs (.ref d) "dict":=⟨o,ho,hc⟩;have f1:=IP;have f2:=MQ
 repeat (any_goals (first | assumption | wp_step))
theorem Uz{b:Value}{o:Obj}{Q:Unit→Shared→Prop}(ho:s.heap.get? d=some o)(hc:o.cls = .type "set")(hdat:∀cd,o.data ≠ .cls cd)(h:Q () s):wpAny (model prog w) A (checkBoundCall "set.__contains__" ⟨[.ref d,b],[]⟩) Q E s:=by
 unfold checkBoundCall;refine Aa Ux ?_;have hT:s.TypeIs (.ref d) "set":=⟨o,ho,hc⟩;have f1:=J0
 repeat (any_goals (first | assumption | wp_step))
theorem P0(a b c:Value):Code.quiet (.builtin "dict.get" ⟨[a,b,c],[]⟩)=true:=by first | rfl | exact plainId_quiet (by decide +kernel) _
theorem NL(a b:Value):Code.quiet (.builtin "set.__contains__" ⟨[a,b],[]⟩)=true:=by first | rfl | exact plainId_quiet (by decide +kernel) _
theorem Kd(F:Fr h₀ L s.heap m)(N:News h₀ L s.heap news)(hd:(d,o)∈news)(hdi:o.IsDictOf (intKind prog w) kvs)(h:∀q h',Fr h₀ L h' m→News h₀ L h' ((q,DQ "dict.get" d)::news)→(∀p∈news,p.1<q)→Q (.ref q) { s with heap:=h',toks:=s.toks+1 }):wpAny (model prog w) A (getAttr (.ref d) "get" ex) Q E s:=by
 obtain⟨hp,g,dr,tk,os⟩:=s;refine A3 hdi λes ep ho2 hdat z_=>?_;refine Cg ho2 λhc hn _=>?_;exact RX (N _ hd).1 hc hn ⟨es,ep,hdat⟩ (h _ _ (F.push _) (News.push F N _ rfl) (λq hq=>Heap.lt_size (N q hq).1))
theorem J5(F:Fr h₀ L s.heap m)(N:News h₀ L s.heap news)(hd:(d,o)∈news)(hdi:o.SetObjOf (strKind prog w) S n)(h:∀q h',Fr h₀ L h' m→News h₀ L h' ((q,DQ "set.__contains__" d)::news)→(∀p∈news,p.1<q)→Q (.ref q) { s with heap:=h',toks:=s.toks+1 }):wpAny (model prog w) A (getAttr (.ref d) "__contains__" ex) Q E s:=by
 obtain⟨hp,g,dr,tk,os⟩:=s;refine Ox hdi λho0 es ep tb hdat z_=>?_;refine Cg ho0 λhc hn _=>?_;exact QF (N _ hd).1 hc hn ⟨es,ep,tb,hdat⟩ (h _ _ (F.push _) (News.push F N _ rfl) (λq hq=>Heap.lt_size (N q hq).1))
theorem Kc{kvs:List (Int×Value)}{k:Int}{t:Tok}{dflt:Value}(r:Option Value)(N:News h₀ L s.heap news)(hq:(q,DQ "dict.get" d)∈news)(hd:(d,o)∈news)(hdi:o.IsDictOf (intKind prog w) kvs)(lo:(d==sysModules)=false)(hl:valueAt kvs k=r)(h:Q (r.getD dflt) { s with toks:=s.toks+1 }):wpAny (model prog w) A (call (.ref q) [.int k t,dflt]) Q E s:=by
 refine A3 (id hdi) λes ep ho2 hdat z_=>?_;refine Cg ho2 λhc hn _=>?_;refine IW PySem.F.entry_dict_get (by decide +kernel) (λQ' E' h'=>V6 (N _ hd).1 hc (λcd e=>by replace e:=hdat.symm.trans e;contradiction) h') (P0 _ _ _) (N _ hq).1 ?_;refine(?_:wpAny _ _ (dictGet d (.int k t) >>= _) _ _ s);refine wpAny_bind (wpAny_dictGet_of (intKind_is _ _ k t) (kda_dict N hd hdi).mapOf ?_);refine Aa hl ?_
 cases r with
 |some v=>exact wpAny_pure ⟨v,rfl,h⟩
 |none=>
  refine(?_:wpAny _ _ (Builtin.Dict.missed d (.int k t) >>= _) _ _ _);exact wpAny_bind (wpAny_missed_other lo (wpAny_pure ⟨dflt,rfl,h⟩))
theorem Ma(N:News h₀ L s.heap news)(hq:(q,DQ "set.__contains__" d)∈news)(hd:(d,o)∈news)(hdi:o.SetObjOf (strKind prog w) S n)(hn:n<1000)(h:Q (.bool (S x)) { s with toks:=s.toks+1 }):wpAny (model prog w) A (call (.ref q) [.str x t]) Q E s:=by
 refine Ox (id hdi) λho0 es ep tb hdat z_=>?_;refine oA ho0 λhc _=>?_;refine IW entry_set_contains (by decide +kernel) (λQ' E' h'=>Uz (N _ hd).1 hc (λcd e=>by replace e:=hdat.symm.trans e;contradiction) h') (NL _ _) (N _ hq).1 ?_;unfold Builtin.«frozenset.__contains__» Builtin.Frozenset.oneOther;simp only[List.isEmpty_nil,bind_assoc];unfold Builtin.Frozenset.addrOf Builtin.Frozenset.withSetAsKey setContains;refine wpAny_bind (wpAny_pure ?_)
 try dsimp only
 refine wpAny_bind (wpAny_pure ?_)
 try dsimp only
 refine wpAny_bind (wpAny_tryCatch ?_);refine wpAny_holding ?_;refine wpAny_bind ((strKind prog w).pyHash (strKind_is _ _ x t) ?_);refine wpAny_bind (wpAny_setFind_of (s:={ s with toks:=s.toks+1 }) (strKind_is _ _ x t) rfl (hdi.setOf (N _ hd).1 (Nat.lt_trans hn (by decide))) λr hr=>?_);refine wpAny_pure ?_;refine(?_:wpAny _ _ (ret (Value.bool r.isSome)) _ _ _);refine Aa hr ?_;exact wpAny_pure ⟨_,rfl,h⟩
end
structure CN(o:Obj)(C:Addr)(cd:ClassData):Prop where
 dat:o.data = .cls cd
 cls:o.cls = .type "type"
 mro:cd.mro=[.ref C,.type "tuple",.type "object"]
 bases:cd.bases=[.type "tuple"]
 del:cd.hasDel=false
 sl:o.slots[4]?=some (some .none)
section
variable{prog:Program}{w:World}{A:Around}{E:Value→Shared→Prop}{h:Heap}{g:Array GenState}{d:Drawn}{t:Nat}{os:OsState}{C:Addr}{o:Obj}{cd:ClassData}
theorem Fs(hC:h.get? C=some o)(c:CN o C cd)(hq:Q [.ref C,.type "tuple",.type "object"] ⟨h,g,d,t,os⟩):wpAny (model prog w) A (mroOf (.ref C)) Q E ⟨h,g,d,t,os⟩:=by
 obtain⟨oc,od,dat,sl⟩:=o;obtain⟨c1,c2,c3,c4,c5,c6⟩:=c;simp only at c1 c2;subst c1 c2;rw[← c3] at hq;unfold mroOf
 repeat (any_goals (first | assumption | (refine AutoSeq1.wpAny_loadPart' hC ?_) | wp_step))
theorem DX(hC:h.get? C=some o)(c:CN o C cd)(hq:Q none ⟨h,g,d,t,os⟩):wpAny (model prog w) A (Bind.madeBy (.ref C)) Q E ⟨h,g,d,t,os⟩:=by
 unfold Bind.madeBy;refine wpAny_bind (Fs hC c ?_);refine Aa (List.forIn_cons ..) ?_;obtain⟨oc,od,dat,sl⟩:=o;obtain⟨c1,c2,c3,c4,c5,c6⟩:=c;simp only at c1 c2 c6;subst c1 c2;unfold slotAt;refine wpAny_bind (wpAny_bind (wpAny_bind (wpAny_bind (AutoSeq1.wpAny_loadPart' hC (wpAny_pure ?_)))));dsimp only;refine Aa c6 ?_;exact wpAny_pure (wpAny_pure (wpAny_pure hq))
theorem Ks:Builtin.Slots.bestBase [.type "tuple"]=pure (.type "tuple"):=by kernel_rfl
theorem Dl:Bind.madeBy (.type "tuple")=pure (some "tuple.__new__"):=F.called_tuple.made
theorem FL(hC:h.get? C=some o)(c:CN o C cd)(hq:Q (.type "tuple") ⟨h,g,d,t,os⟩):wpAny (model prog w) A (Bind.staticBase (.ref C)) Q E ⟨h,g,d,t,os⟩:=by
 unfold Bind.staticBase;refine wpAny_bind (Fs hC c ?_);refine Aa (List.forIn_cons ..) ?_;refine wpAny_bind (wpAny_bind (wpAny_bind (DX hC c ?_)));refine Aa (if_neg (by decide)) ?_;have e:cd.bases=[.type "tuple"]:=c.bases;obtain⟨oc,od,dat,sl⟩:=o;obtain⟨c1,c2,c3,c4,c5,c6⟩:=c;simp only at c1 c2 c6;subst c1 c2;unfold classData;refine wpAny_bind (wpAny_bind (AutoSeq1.wpAny_loadPart' hC ?_));refine wpAny_pure ?_;refine Aa e ?_;refine wpAny_bind (wpAny_of_eq Ks ?_);refine wpAny_pure ?_;dsimp only;refine Aa (List.forIn_cons ..) ?_;refine wpAny_bind (wpAny_bind (wpAny_of_eq Dl ?_));exact wpAny_pure (wpAny_pure (wpAny_pure hq))
theorem OB(hC:h.get? C=some o)(c:CN o C cd)(hq:Q () ⟨h,g,d,t,os⟩):wpAny (model prog w) A (Bind.madeHere "tuple.__new__" (.ref C)) Q E ⟨h,g,d,t,os⟩:=by
 unfold Bind.madeHere;refine wpAny_bind (FL hC c ?_);refine wpAny_bind (wpAny_of_eq Dl ?_);exact wpAny_pure hq
noncomputable def Iw(C dd:Addr)(vs:List Value):Obj:={ cls:=.ref C,dict:=some dd,data:=.seq vs.toArray }
theorem Hu(hC:h.get? C=some o)(c:CN o C cd)(hb:([.ref C,.type "tuple",.type "object"]:List Value).contains b=r)(hq:Q r ⟨h,g,d,t,os⟩):wpAny (model prog w) A (isSubtype (.ref C) b) Q E ⟨h,g,d,t,os⟩:=by
 unfold isSubtype;refine wpAny_bind (Fs hC c ?_);simp only[List.isEmpty_cons,Bool.false_eq_true,if_false];refine wpAny_pure ?_;refine Aa hb ?_;exact hq
theorem FM(hC:h.get? C=some o)(c:CN o C cd)(hq:Q true ⟨h,g,d,t,os⟩):wpAny (model prog w) A (isType (.ref C)) Q E ⟨h,g,d,t,os⟩:=by
 obtain⟨oc,od,dat,sl⟩:=o;obtain⟨c1,c2,c3,c4,c5,c6⟩:=c;simp only at c1 c2;subst c1 c2;unfold isType;exact wpAny_bind (AutoSeq1.wpAny_loadPart' hC (wpAny_pure hq))
theorem Rk(hC:h.get? C=some o)(c:CN o C cd)(hi:Looks (model prog w) h (typeLookup (.ref C) "__init__") (some (.builtin "object.__init__")))(hT:h.get? T=some { cls:=.type "tuple",data:=.seq vs.toArray k })(hz:vs.length≤1000)(hsub:([.ref C,.type "tuple",.type "object"]:List Value).contains (.type "tuple")=true)(hq:∀h':Heap,(∀b o',h.get? b=some o'→h'.get? b=some o')→Q (.done (.ret (.ref (h'.objs.size+1)))) ⟨(h'.push emptyDict).push (Iw C h'.objs.size vs),g,d,t,os⟩) :
  wpAny (model prog w) A (Builtin.«tuple.__new__» ⟨[.ref C,.ref T],[]⟩) Q E ⟨h,g,d,t,os⟩:=by
 unfold Builtin.«tuple.__new__»;refine wpAny_bind (FM hC c ?_);refine Aa (if_neg (by decide)) ?_;refine wpAny_bind (Hu hC c hsub ?_);refine Aa (if_neg (by decide)) ?_;refine wpAny_bind (OB hC c ?_);refine wpAny_bind (hi.here ?_);dsimp only;refine Aa (if_pos (beq_self_eq_true _)) ?_;refine wpAny_bind (wpAny_of_eq (a:=()) (by first | rfl | kernel_rfl) ?_);refine wpAny_bind (wpAny_of_eq (a:=()) (by first | rfl | kernel_rfl) ?_);refine Aa (if_neg (by rw[show(Value.ref C==Value.type "tuple")=false from rfl];decide)) ?_;refine wpAny_bind (wpAny_collect_seq (s:=⟨h,g,d,t,os⟩) T (.inr rfl) hT rfl rfl (λh' hk=>?_) (by refine Aa List.size_toArray ?_;exact Nat.le_trans hz (by decide)));refine wpAny_bind (wpAny_pure ?_);refine wpAny_bind (wpAny_alloc ?_);unfold newObj;have hz2:¬(vs.toArray.toList.toArray.size>sizeLine):=by
  refine Aa List.size_toArray (Aa Array.length_toList (Aa List.size_toArray ?_));exact Nat.not_lt.mpr (Nat.le_trans hz (by decide))
 refine wpAny_bind ?_;dsimp only;refine Aa (if_neg hz2) ?_;unfold newObjAsIs classHasDel;refine wpAny_bind (wpAny_alloc ?_);obtain⟨oc,od,dat,sl⟩:=o;obtain⟨c1,c2,c3,c4,c5,c6⟩:=c;simp only at c1 c2;subst c1 c2;refine wpAny_bind (wpAny_bind (wpAny_load (Heap.get?_push_of_some _ (Heap.get?_push_of_some _ (hk _ _ hC))) (wpAny_pure ?_)));refine Aa c5 ?_;refine wpAny_pure (wpAny_pure ?_);have q:=hq h' hk;unfold Iw at q;refine Aa (show vs.toArray.toList.toArray=vs.toArray by simp) ?_;rw[← Heap.size_push h' emptyDict] at q;exact q
theorem Os:entryFor table "object.__init__"=some Builtin.«object.__init__»:=entryFor_of_tree (by kernel_rfl)
theorem QR:builtinKind "object.__init__"=some .slot:=by decide +kernel
theorem Oq:splitId "object.__init__"=some ("object","__init__"):=by decide +kernel
theorem QS(a:Value)(rest:List Value):argsOk "object.__init__" ⟨a::rest,[]⟩:=by unfold argsOk;kernel_rfl
theorem OC(hC:h.get? C=some o)(c:CN o C cd)(hcall:Looks (model prog w) h (specialOf (.ref C) "__call__") (some (.builtin "type.__call__")))(typ:Looks (model prog w) h (isInstance (.ref C) (.type "type")) true)(hnew:∀(A:Around) (Q:Value→Shared→Prop) (E:Value→Shared→Prop),Q (.ref f) ⟨h,g,d,t+1,os⟩→wpAny (model prog w) A (getAttr (.ref C) "__new__") Q E ⟨h,g,d,t,os⟩)(hq:wpAny (model prog w) (A.under (.builtin "type.__call__" ⟨.ref C::rest,[]⟩)) (call (.ref f) (.ref C::rest)) (λv s'=>∃x ox,v = .ref x∧s'.heap.get? x=some ox∧ox.cls = .ref C∧s'.heap.get? C=some o∧Looks (model prog w) s'.heap (typeLookup (.ref C) "__init__") (some (.builtin "object.__init__"))∧R (.ok (.ret (.ref x))) s') (λe s'=>R (.error e) s') ⟨h,g,d,t+1,os⟩) :
  codeAny (model prog w) A (.call (.ref C) ⟨rest,[]⟩) R ⟨h,g,d,t,os⟩:=by
 have hC':=hC;have c':=c;obtain⟨oc,od,dat,sl⟩:=o;obtain⟨c1,c2,c3,c4,c5,c6⟩:=c;simp only at c1 c2;subst c1 c2;refine codeAny_of_tree ?_;refine(?_:wpAny _ _ (callAny (.ref C) _) _ _ _);refine nd_load hC ?_;refine(?_:wpAny _ _ (callAny.viaDunder (.ref C) _) _ _ _);unfold callAny.viaDunder;refine wpAny_bind (hcall.at ?_);dsimp only;refine Aa (tc_bind ..) ?_;refine wpAny_bind (wpAny_pure (wpAny_bind (wpAny_pure ?_)));refine wpAny_pure (a:=Fin.again (.call (.builtin "type.__call__") ⟨.ref C::rest,[]⟩)) (And.intro rfl ?_);refine codeAny_call_builtin_at (Code.quiet_builtin _ (by decide +kernel)) entry_typeCall (check_slot tc_kind tc_split typ (tc_args _ _ _) ?_);unfold Builtin.«type.__call__»;dsimp only;refine Aa (if_neg (by rw[show(Value.ref C==Value.type "type")=false from rfl];decide)) ?_;refine wpAny_bind (Fs hC' c' ?_);refine Aa (if_neg (by simp)) ?_;refine wpAny_bind (DX hC' c' ?_);dsimp only;refine wpAny_bind (hnew _ _ _ ?_);refine wpAny_bind (wpAny_holding ?_);refine wpAny_mono hq (λv s' hv=>?_) λz_ z_ e=>e;refine Ov hv λx ox ho2 hx hxc hC2 hi hR=>?_;subst ho2;obtain⟨h2,g2,d2,t2,os2⟩:=s';have ty:Looks (model prog w) h2 (typeOf (.ref x)) (.ref C):=by refine AV hxc ?_;exact(Looks.ld (part:=some headPart) hx).andThen .now
 have inst:∀(b:Value),([.ref C,.type "tuple",.type "object"]:List Value).contains b=true→Looks (model prog w) h2 (isInstance (.ref x) b) true:=λb hb=>by
  unfold isInstance;refine ty.andThen ?_;intro A Q E s k q;obtain⟨h3,g3,d3,t3,os3⟩:=s;exact Hu (k _ _ hC2) c' hb q
 refine wpAny_bind ((inst _ (by simp)).here ?_);refine Aa (if_neg (by decide)) ?_;refine wpAny_bind (wpAny_holding ?_);unfold callSpecial?;refine wpAny_bind (m:=specialOf _ _) ?_;unfold specialOf;refine wpAny_bind (ty.here ?_);refine hi.here ?_;dsimp only;refine wpAny_holding ?_;refine Aa (oi_bind ..) ?_;refine wpAny_bind (wpAny_pure ?_);dsimp only;refine wpAny_bind ?_;refine wpAny_call (codeAny_call_builtin_at (Code.quiet_builtin _ (by decide +kernel)) Os (check_slot QR Oq (inst _ (by simp)) (QS _ _) ?_));unfold Builtin.«object.__init__»;dsimp only[List.cons_append,List.nil_append];split
 ·refine wpAny_bind (ty.here ?_);refine wpAny_bind (hi.here ?_);refine wpAny_bind (DX hC2 c' ?_);dsimp only;refine Aa (if_neg (by simp)) (Aa (if_neg (by simp)) ?_);refine wpAny_pure (wpAny_pure ?_);dsimp only;refine Aa (if_neg (by decide)) ?_;exact wpAny_pure hR
 ·refine wpAny_pure (wpAny_pure ?_);dsimp only;refine Aa (if_neg (by decide)) ?_;exact wpAny_pure hR
end
theorem Qx:builtinKind "tuple.__new__"=some .builtinFn:=by decide +kernel
theorem Nz:splitId "tuple.__new__"=some ("tuple","__new__"):=by decide +kernel
theorem Uj:Manifest.signature? "tuple.__new__"=Manifest.sig_tuple.lookup "__new__":=by
 refine(signature?_of (id:="tuple.__new__") (n:="__new__".toList.reverse) (o:="tuple".toList.reverse) (by kernel_rfl) F.owner_tuple).trans ?_;kernel_rfl
section
variable{prog:Program}{w:World}{A:Around}{E:Value→Shared→Prop}{h:Heap}{g:Array GenState}{d:Drawn}{t:Nat}{os:OsState}{C T:Addr}{o:Obj}{cd:ClassData}
theorem Mv(hC:h.get? C=some o)(c:CN o C cd)(hq:Q () ⟨h,g,d,t,os⟩):wpAny (model prog w) A (checkBuiltinCall "tuple.__new__" ⟨[.ref C,.ref T],[]⟩) Q E ⟨h,g,d,t,os⟩:=by
 simp only[checkBuiltinCall,Qx,Nz];refine Aa (if_pos (by decide)) ?_;refine wpAny_bind (FM hC c ?_);refine Aa (if_neg (by decide)) ?_;refine wpAny_bind (Hu hC c (r:=true) (by simp) ?_);refine Aa (if_neg (by decide)) ?_;refine wpAny_bind (FL hC c ?_);refine wpAny_bind (wpAny_of_eq Dl ?_);dsimp only;refine Aa (if_neg (by simp)) ?_;refine Aa Uj ?_;exact wpAny_of_eq (a:=()) (by first | kernel_rfl | rfl) hq
end
section
variable{prog:Program}{w:World}{A:Around}{E:Value→Shared→Prop}{s:Shared}{K:Frag}{h₀:Heap}{L C T:Addr}{m:Str→Option Value}{news:Df}{o:Obj}{cd:ClassData}
theorem Ix(F:Fr h₀ L s.heap m)(X₀:K.In h₀)(N:News h₀ L s.heap news)(ho:K.lookup C=some o)(c:CN o C cd)(hi:findIn K (.ref C) "__init__"=some (some (.builtin "object.__init__")))(hT:(T,({ cls:=.type "tuple",data:=.seq vs.toArray k }:Obj))∈news)(hz:vs.length≤1000)(h:∀x dd h',Fr h₀ L h' m→News h₀ L h' ((x,Iw C dd vs)::(dd,emptyDict)::news)→(∀p∈news,p.1<dd)→dd<x→Q (.ref x) { s with heap:=h' }):wpAny (model prog w) A (call (.builtin "tuple.__new__") [.ref C,.ref T]) Q E s:=by
 obtain⟨hp,g,d,tk,os⟩:=s;have X:=X₀.keeps F.keep;have hC:=X _ _ ho;refine wpAny_call (codeAny_call_builtin_code (Code.quiet_builtin _ (by decide +kernel)) (Mv hC c ?_));refine codeAny_builtin PySem.F.entry_tuple_new ?_;refine Rk hC c (looks_findIn X hi) (N _ hT).1 hz (by simp) (λh' hk=>?_);have F1:Fr h₀ L h' m:=F.kept hk;have N1:News h₀ L h' news:=N.grown hk;have F2:=F1.push emptyDict;have N3:=News.push F2 (News.push F1 N1 emptyDict rfl) (Iw C h'.objs.size vs) rfl;rw[Heap.size_push] at N3;exact h _ _ _ (F2.push (Iw C h'.objs.size vs)) N3 (λp hq=>Heap.lt_size (N1 p hq).1) (Nat.lt_succ_self _)
end
section
variable{w:World}{dp un:Nat}{gd:Option (List Code)}{cn:Str}{cs:Scope}{a:Addr}{ccd:Value}{cl:List (Str×Addr)}{outer:List Env}{A₀:Around}{base h₀:Heap}{L:Addr}{m:Str→Option Value}{news:List (Addr×Obj)}{s:Shared}{Q E:Value→Shared→Prop}{p:Program}{loose:List Str}{mean:ExcName→Option Value}{mg mb:Str→Option Value}
theorem Ws(w:World):∃o cd,(hd0.heap_1 w.params).lookup 135=some o∧CN o 135 cd:=⟨_,_,by k_is,⟨rfl,rfl,rfl,rfl,rfl,rfl⟩⟩
theorem Wo(C:Cx w dp un cs L outer A₀ base h₀ m p loose mean mg mb s.heap news 20 200)(hret:∀x dd h' tk' led',Fr h₀ L h' m→News h₀ L h' led'→(x,Iw 135 dd [v1,v2,v3])∈led'→(∀z∈news,z∈led')→(∀z∈news,z.1<x)→Q (.ref x) { s with heap:=h',toks:=tk' })
 : wpAny (model PW w) (ktrTop dp un gd cn cs L a ccd cl outer) (call (.ref 82) [.ref 135,v1,v2,v3]) Q E s:=by
 obtain⟨B,F,X,N,T,hk,hd,hu⟩:=C;refine wpAny_call ?_;refine' code_def ?k1 ?k2 ?k3 ?k4 ?k5 ?kA ?kF ?kK ?k6 ?k7 ?k8 ?k9 ?kB ?_ ?c2 ?c3 ?c4 ?c5
 case kA=>exact rfl
 case kF=>exact rfl
 case kK=>assumption
 case k1=>k_asm
 case k2=>k_asm
 case k3=>k_asm
 case k4=>k_asm
 case k5=>k_asm
 case k6=>k_is
 case k7=>k_is
 case k8=>ktr_room
 case k9=>exact BindsTo.of_eq rfl
 case c5=>decide
 case kB=>exact locs rfl
 case c2=>exact rfl
 case c3=>exact rfl
 case c4=>exact rfl
 k_whole
 intro g' L' h' FG' F' N' B' X' T'
 (try dsimp only)
 (try k_lift B')
 (try k_fold)
 k_steps
 try (refine' method_type (T:="tuple") ?F ?X ?m (by decide +kernel) ?e ?h ?_;(case F=>k_asm);(case X=>k_asm);(case m=>kernel_rfl);(case e=>k_dflt k_is);(case h=>k_handed);k_steps)
 try refine Mine.Internal.go_ ?_
 rename News _ _ _ _=>lN'
 rename Fr _ _ _ _=>lF'
 refine Ix (vs:=[v1,v2,v3]) (cd:=_) lF' (by assumption) lN' (by k_is) ⟨rfl,rfl,rfl,rfl,rfl,rfl⟩ (by k_is) (.head _) (Nat.le_of_ble_eq_true rfl) (λx dd h2 F2 N2 l2 lt2=>?_)
 k_steps
 rename News h₀ _ _ _=>lN3
 rename Fr h₀ _ _ _=>lF3
 exact hret _ dd _ _ _ lF3 lN3 (.head _) (λz hz=>.tail _ (.tail _ (.tail _ hz))) (λz hz=>Nat.lt_trans (l2 z (.tail _ hz)) lt2)
theorem Rj(C:Cx w dp un cs L outer A₀ base h₀ m p loose mean mg mb s.heap news 40 400)(hret:∀x dd h' tk' led',Fr h₀ L h' m→News h₀ L h' led'→(x,Iw 135 dd [v1,v2,v3])∈led'→(∀z∈news,z∈led')→(∀z∈news,z.1<x)→Q (.ref x) { s with heap:=h',toks:=tk' })
 : wpAny (model PW w) (ktrTop dp un gd cn cs L a ccd cl outer) (call (.ref 135) [v1,v2,v3]) Q E s:=by
 obtain⟨B,F,X,N,T,hk,hd,hu⟩:=C;obtain⟨hp,g,d,tk,os⟩:=s;have X2:(hd0.heap_1 w.params).In hp:=X.keeps F.keep;obtain⟨oC,cdC,ho,hcl⟩:=Ws w;obtain⟨pp,hf1,rs,hf2⟩:=(⟨_,by k_is,_,by k_is⟩:∃p,findCls (hd0.heap_1 w.params) (.ref 135) (.type "type") "__new__"=some (.get (.builtin "staticmethod.__get__") (.ref p) .none (.ref 135))∧∃rest,recIn (hd0.heap_1 w.params) p "staticmethod"=some (.ref 82::rest));refine wpAny_call (OC (f:=82) (X2 _ _ ho) hcl (looks_specialIn X2 (by k_is:specialIn (hd0.heap_1 w.params) (.ref 135) "__call__"=some (some (.builtin "type.__call__")))) (looks_instIn X2 (by k_is:instIn (hd0.heap_1 w.params) (.ref 135) (.type "type")=some true)) (λA' Q' E' hq=>cls_sm (s:=⟨hp,g,d,tk,os⟩) F X (by k_is:typeIn (hd0.heap_1 w.params) (.ref 135)=some (.type "type")) (by k_is:readsIn (hd0.heap_1 w.params) 135 (.type "type")=true) hf1 hf2 rfl hq) ?_)
 k_dflt (refine' Wo ⟨?k1,?k2,?k3,?k4,?k5,?k6,?k7,?k8⟩ ?_)
 case k1=>k_asm
 case k2=>exact F
 case k3=>k_asm
 case k4=>exact N
 case k5=>k_asm
 case k6=>assumption
 case k7=>show dp+1+20<recursionLimit;exact aN (za (za (za (zv 0) (zn 1)) (zn 20)) (zn 1)) (zv 1) [(0,1,za (za (zv 0) (zn 40)) (zn 1),zv 1)] rfl (Az _ _) Ae hd
 case k8=>show un+1+200<cLine;exact aN (za (za (za (zv 0) (zn 1)) (zn 200)) (zn 1)) (zv 1) [(0,1,za (za (zv 0) (zn 400)) (zn 1),zv 1)] rfl (Az _ _) Ae hu
 intro x dd h2 tk2 led2 F2 N2 hm hsub hlt;have X3:=X.keeps F2.keep;exact⟨x,_,rfl,(N2 _ hm).1,rfl,X3 _ _ ho,looks_findIn X3 (by k_is:findIn (hd0.heap_1 w.params) (.ref 135) "__init__"=some (some (.builtin "object.__init__"))),hret _ _ _ _ _ F2 N2 hm hsub hlt⟩
end
structure Hc(M:Model)(h:Heap)(C x:Addr):Prop where
 ty:Looks M h (typeOf (.ref x)) (.ref C)
 inst:Looks M h (isInstance (.ref x) (.type "tuple")) true
 iter:Looks M h (typeLookup (.ref C) "__iter__") (some (.builtin "tuple.__iter__"))
 lt:Looks M h (typeLookup (.ref C) "__lt__") (some (.builtin "tuple.__lt__"))
noncomputable def Cd(h:Heap)(x:Addr)(vs:List Value):Prop:=∃o n,h.get? x=some o∧o.data = .seq vs.toArray n
theorem Qz:builtinKind "tuple.__iter__"=some .slot:=by decide +kernel
theorem N5:splitId "tuple.__iter__"=some ("tuple","__iter__"):=by decide +kernel
section
variable{E:Value→Shared→Prop}
theorem EM{T n id:String}(sl:Slot T n id)(self:Value):bindSpecial (.builtin id) self=pure (.builtin id,[self]):=sl.bind self
theorem JH(I:Hc (model prog w) s.heap C x)(hQ:Q (.ref s.heap.objs.size) { s with heap:=s.heap.push { cls:=.type "tuple_iterator",data:=.fields #[.ref x,.int 0 0] } }) :
  wpAny (model prog w) A (pyIter (.ref x)) Q E s:=by
 have sp:Looks (model prog w) s.heap (specialOf (.ref x) "__iter__") (some (.builtin "tuple.__iter__")):=by
  unfold specialOf;exact I.ty.andThen I.iter
 unfold pyIter;refine wpAny_bind (sp.here ?_);dsimp only;simp only[callSpecialIfBoundUnlessNone?,bindSpecialIfBound?];refine wpAny_bind (wpAny_holding (wpAny_bind (wpAny_bind (sp.here ?_))));simp only[EM PySem.F.slot_tuple_iter];refine wpAny_bind (wpAny_askSetting (wpAny_ite ?_));have run:∀(Q':Value→Shared→Prop),Q' (.ref s.heap.objs.size) { s with heap:=s.heap.push { cls:=.type "tuple_iterator",data:=.fields #[.ref x,.int 0 0] } }→wpAny (model prog w) A (call (.builtin "tuple.__iter__") [.ref x]) Q' E s:=by
  intro Q' h;refine wpAny_call (codeAny_call_builtin_at (Code.quiet_builtin _ (by decide +kernel)) PySem.F.entry_tuple_iter (check_slot Qz N5 I.inst (PySem.F.args_tuple_iter_1 _) ?_));refine(?_:wpAny _ _ (do ret (← newFields "tuple_iterator" [.ref x,rawInt 0])) _ _ s);exact wpAny_bind (wpAny_newObj_type (wpAny_pure h))
 have hT:({ s with heap:=s.heap.push { cls:=.type "tuple_iterator",data:=.fields #[.ref x,.int 0 0] } }:Shared).TypeIs (.ref s.heap.objs.size) "tuple_iterator":=⟨_,Heap.get?_push_size _ rfl,rfl⟩;have fin:∀(R:Option Value→Shared→Prop),(∀s',s'={ s with heap:=s.heap.push { cls:=.type "tuple_iterator",data:=.fields #[.ref x,.int 0 0] } }→R (some (.ref s.heap.objs.size)) s')→∀refuse:Sem Value,wpAny (model prog w) A (if (Value.builtin "tuple.__iter__"==Value.none)=true then (refuse >>= λv=>pure (some v)) else (call (.builtin "tuple.__iter__") [.ref x] >>= λv=>pure (some v))) R E s:=by
  intro R h refuse;refine Aa (if_neg (by rw[show(Value.builtin "tuple.__iter__"==Value.none)=false from rfl];decide)) ?_;exact wpAny_bind (run _ (wpAny_pure (h _ rfl)))
 have last:∀s',s'={ s with heap:=s.heap.push { cls:=.type "tuple_iterator",data:=.fields #[.ref x,.int 0 0] } }→wpAny (model prog w) A (do
   match ← specialOf (.ref s.heap.objs.size) "__next__" with
   |none=>do
    rule "iter.non-iterator"
    raiseError "TypeError" s!"iter() returned non-iterator of type '{← typeNameOf (.ref s.heap.objs.size)}'"
   |some _=>pure (.ref s.heap.objs.size)) Q E s':=by
  rintro s' rfl;exact wpAny_bind (wpAny_specialOf hT PySem.F.slot_tuple_iterator_next.lookup (wpAny_pure hQ))
 split
 ·exact wpAny_bind (wpAny_pure (wpAny_pure (fin _ last _)))
 ·exact wpAny_tryCatch (wpAny_bind (wpAny_pure (wpAny_pure (fin _ last _))))
theorem FA(hit:s.heap.IsTupleIter it x i)(hs:Cd s.heap x vs)(hx:vs[i]?=some v)(hQ:∀h',h'.IsTupleIter it x (i+1)→Heap.SameBut it s.heap h'→Q (some v) { s with heap:=h' }):wpAny (model prog w) A (pyNext (.ref it)) Q E s:=by
 refine B7 (id hit) λo ho hc hd=>?_;refine Ax hs λol nl hol hdl=>?_;unfold pyNext;refine wpAny_bind (wpAny_attempt (wpAny_callSpecial?_slot (name:="__next__") hit.typeIs PySem.F.slot_tuple_iterator_next (wpAny_call_entry PySem.F.slot_tuple_iterator_next hit.typeIs PySem.F.entry_tuple_iterator_next ?_ (PySem.F.args_tuple_iterator_next_1 _))));refine(?_:wpAny _ _ (field (.ref it) 0 >>= _) _ _ s);refine wpAny_bind (wpAny_field ho hd (x:=.ref x) rfl ?_);refine(?_:wpAny _ _ (if (Value.ref x==Value.none)=true then _ else _) _ _ s);refine Aa (if_neg (show ¬((Value.ref x==Value.none)=true) from Bool.false_ne_true)) ?_;refine(?_:wpAny _ _ (field (.ref it) 1 >>= _) _ _ s);refine wpAny_bind (wpAny_field ho hd (x:=.int i 0) rfl ?_);refine(?_:wpAny _ _ (seqItems? (.ref x) >>= _) _ _ s);refine wpAny_bind (wpAny_seqItems hol hdl ?_);simp only[Int.toNat_natCast,List.getElem?_toArray,hx];refine wpAny_bind (wpAny_setField ho hd (by simp) (wpAny_pure ⟨v,rfl,wpAny_pure (hQ _ ?_ (Heap.SameBut.update ..))⟩));exact⟨_,Heap.get?_update_self _ ho (Obj.isFreed_of_fields (Obj.data_mapFields hd _)),(Obj.cls_mapFields ..).trans hc,by refine(Obj.data_mapFields hd ..).trans ?_;simp[rawInt]⟩
theorem QC(hh:A.handled=none)(hit:s.heap.IsTupleIter it x i)(hs:Cd s.heap x vs)(hx:vs[i]?=none)(hQ:∀h',Heap.ExtBut it s.heap h'→Q none { s with heap:=h' }):wpAny (model prog w) A (pyNext (.ref it)) Q E s:=by
 refine B7 (id hit) λo ho hc hd=>?_;refine Ax hs λol nl hol hdl=>?_;unfold pyNext;refine wpAny_bind (wpAny_attempt (wpAny_callSpecial?_slot (name:="__next__") hit.typeIs PySem.F.slot_tuple_iterator_next (wpAny_call_entry PySem.F.slot_tuple_iterator_next hit.typeIs PySem.F.entry_tuple_iterator_next ?_ (PySem.F.args_tuple_iterator_next_1 _))));refine(?_:wpAny _ _ (field (.ref it) 0 >>= _) _ _ s);refine wpAny_bind (wpAny_field ho hd (x:=.ref x) rfl ?_);refine(?_:wpAny _ _ (if (Value.ref x==Value.none)=true then _ else _) _ _ s);refine Aa (if_neg (show ¬((Value.ref x==Value.none)=true) from Bool.false_ne_true)) ?_;refine(?_:wpAny _ _ (field (.ref it) 1 >>= _) _ _ s);refine wpAny_bind (wpAny_field ho hd (x:=.int i 0) rfl ?_);refine(?_:wpAny _ _ (seqItems? (.ref x) >>= _) _ _ s);refine wpAny_bind (wpAny_seqItems hol hdl ?_);simp only[Int.toNat_natCast,List.getElem?_toArray,hx];refine wpAny_bind (wpAny_rule (wpAny_bind (wpAny_setField ho hd (by simp) ?_)));refine(?_:wpAny _ _ (newExc (.type "StopIteration") [] >>= _) _ _ _);refine wpAny_bind ?_;simp only[newExc,newTuple];refine wpAny_bind (wpAny_newObj_type ?_ (by size_fits));refine wpAny_bind (m:=firstArgMember _ _) (wpAny_of_eq (a:=Value.none) (by first | rfl | (simp only[firstArgMember];rfl)) ?_);refine wpAny_newObj_type ?_ (by size_fits);simp only[raiseNew];refine wpAny_bind (wpAny_handled ?_)
 first | refine Aa (show A.in1.handled=none from hh) ?_ | rw[hh]
 refine wpAny_bind (wpAny_pure (wpAny_throw ?_));refine wpAny_bind (wpAny_isInstance (T:="StopIteration") (b:=true) ⟨_,Heap.get?_push_size _ rfl,rfl⟩ isSubtype_stop ?_);exact wpAny_pure (hQ _ (((Heap.SameBut.update ..).extBut.push _).push _))
theorem Cd.extBut(H:Cd h x vs)(hs:Heap.ExtBut b h h')(hne:x≠b):Cd h' x vs:=Ax (H) λo n ho hd=>⟨o,n,hs x o hne ho,hd⟩
theorem Mb(hne:x≠it)(hit:s.heap.IsTupleIter it x 0)(hs:Cd s.heap x [v1,v2,v3])(hQ:∀h',h'.IsTupleIter it x 3→Heap.SameBut it s.heap h'→Q [v1,v2,v3] { s with heap:=h' }):wpAny (model prog w) A (draw (.ref it) 3) Q E s:=by
 refine(?_:wpAny _ _ (pyNext (.ref it) >>= _) Q E s);refine wpAny_bind (FA hit hs rfl λh1 i1 s1=>?_);refine wpAny_bind (wpAny_holding ?_);refine(?_:wpAny _ _ (pyNext (.ref it) >>= _) _ E _);refine wpAny_bind (FA (s:={ s with heap:=h1 }) i1 (hs.extBut s1.extBut hne) rfl λh2 i2 s2=>?_);refine wpAny_bind (wpAny_holding ?_);refine(?_:wpAny _ _ (pyNext (.ref it) >>= _) _ E _);refine wpAny_bind (FA (s:={ s with heap:=h2 }) i2 ((hs.extBut s1.extBut hne).extBut s2.extBut hne) rfl λh3 i3 s3=>?_);refine wpAny_bind (wpAny_holding ?_);refine(?_:wpAny _ _ (pure []) _ E _);exact wpAny_pure (wpAny_pure (wpAny_pure (wpAny_pure (hQ h3 i3 ((s1.trans s2).trans s3)))))
theorem Iv(hh:A.handled=none)(I:Hc (model prog w) s.heap C x)(hs:Cd s.heap x [v1,v2,v3])(hQ:∀h',Heap.ExtBut s.heap.objs.size s.heap h'→Q [v1,v2,v3] { s with heap:=h' }):wpAny (model prog w) A (unpackItems (.ref x) 3 none) Q E s:=by
 have hlt:x≠s.heap.objs.size:=by refine Ax hs λo z_ ho z_=>?_;exact Nat.ne_of_lt (Heap.lt_size ho)
 have sp:Looks (model prog w) s.heap (specialOf (.ref x) "__iter__") (some (.builtin "tuple.__iter__")):=by
  unfold specialOf;exact I.ty.andThen I.iter
 unfold unpackItems;refine wpAny_bind ?_;unfold notIterableAtAll;refine wpAny_bind (sp.here ?_);refine wpAny_pure ?_;simp only[Bool.false_eq_true,if_false];refine wpAny_bind (wpAny_holding (JH I ?_));have hs0:Cd (s.heap.push { cls:=.type "tuple_iterator",data:=.fields #[.ref x,.int 0 0] }) x [v1,v2,v3]:=Ax (hs) λo n ho hd=>⟨o,n,Heap.get?_push_of_some _ ho,hd⟩
 refine wpAny_bind (wpAny_holding (Mb hlt ⟨_,Heap.get?_push_size _ rfl,rfl,rfl⟩ hs0 λh1 i1 s1=>?_));refine Aa (if_neg (by simp)) ?_;refine wpAny_bind (wpAny_holding (QC hh i1 (hs0.extBut s1.extBut hlt) rfl λh2 e2=>?_));simp only[Option.isSome_none,Bool.false_eq_true,if_false];exact wpAny_pure (hQ h2 λb o hb e=>e2 b o hb (s1.extBut b o hb (Heap.get?_push_of_some _ e)))
end
section
variable{E:Value→Shared→Prop}
theorem FN(X:(hd0.heap_1 w.params).In h)(hM:h.get? x=some { cls:=.ref 135,dict:=d2,data:=dat,slots:=sl }):Hc (model prog w) h 135 x:=by
 have ty:Looks (model prog w) h (typeOf (.ref x)) (.ref 135):=(Looks.ld (part:=some headPart) hM).andThen .now;exact⟨ty,by unfold isInstance;exact ty.andThen (looks_subIn X (by k_is:subIn (hd0.heap_1 w.params) (.ref 135) (.type "tuple")=some true)),looks_findIn X (by k_is),looks_findIn X (by k_is)⟩
theorem Jc(F:Fr h₀ L s.heap m)(X:(hd0.heap_1 w.params).In h₀)(N:News h₀ L s.heap news)(hm:(x,Iw 135 dd [v1,v2,v3])∈news)(hh:A.handled=none)(hn:(assignEach elts env).length=3)(hstar:(assignEach elts env).findIdx? (·.1)=none)(h:∀h',Fr h₀ L h' m→News h₀ L h' news→wpAny (model prog w) A (assignInOrder ((assignEach elts env).map (·.2)) [v1,v2,v3]) Q E { s with heap:=h' }):wpAny (model prog w) A (assign (.Tuple elts k pos) env (.ref x)) Q E s:=by
 refine Aa (arm_assign_Tuple ..) ?_;refine wpAny_bind (wpAny_standAt ?_);unfold unpack;refine Aa hn (Aa hstar ?_);refine wpAny_bind (wpAny_holding (Iv hh (FN (X.keeps F.keep) (N _ hm).1) ⟨_,_,(N _ hm).1,rfl⟩ λh' he=>?_));exact h h' (F.extBut he (Nat.le_refl _)) (N.extBut he (Nat.le_refl _))
end
section
open PySem PySem.W
section
variable(xs ys:List Str)(alo blo:Nat)
noncomputable def cm:Nat→Nat→Nat
 |0,_=>0
 |_+1,0=>0
 |i+1,j+1=>if alo≤i∧blo≤j∧i<xs.length∧xs[i]?=ys[j]? then cm i j+1 else 0
noncomputable abbrev AJ:=Nat×Nat×Nat
noncomputable def JW(i:Nat)(st:AJ)(j:Nat):AJ:=if j<blo then st else if cm xs ys alo blo i j+1>st.2.2 then (i-cm xs ys alo blo i j,j-cm xs ys alo blo i j,cm xs ys alo blo i j+1) else st
noncomputable def Bp(x:Str):List Nat:=(List.range ys.length).filter λj=>ys[j]?=some x
noncomputable def RK(bhi:Nat)(st:AJ)(i:Nat):AJ:=((Bp ys (xs.getD i Str.empty)).filter (· < bhi)).foldl (JW xs ys alo blo i) st
end
theorem IS:∀{i j:Nat},cm xs ys alo blo i j≤i-alo∧cm xs ys alo blo i j≤j-blo:=by
 intro i
 induction i with
 |zero=>intro j;simp[cm]
 |succ i ih=>
  intro j
  cases j with
  |zero=>simp[cm]
  |succ j=>
   unfold cm;split
   ·rename_i h;have:=ih (j:=j);lia
   ·exact aJ
theorem VA(h1:alo≤i)(h2:blo≤j)(hx:xs[i]?=some x)(hy:ys[j]?=some x):cm xs ys alo blo (i+1) (j+1)=cm xs ys alo blo i j+1:=by
 rw[cm,if_pos ⟨h1,h2,(List.getElem?_eq_some_iff.mp hx).1,hx.trans hy.symm⟩]
theorem Sh(hx:xs[i]?=some x)(hy:ys[j]?≠some x):cm xs ys alo blo (i+1) (j+1)=0:=by
 rw[cm,if_neg];rintro ⟨_,_,_,h⟩;exact hy (h.symm.trans hx)
theorem Zm(h:j≤blo):cm xs ys alo blo i j=0:=by
 exact aI h ((IS (xs:=xs) (ys:=ys) (alo:=alo) (blo:=blo) (i:=i) (j:=j)).2)
theorem Ey:j∈Bp ys x↔ys[j]?=some x:=by
 unfold Bp;rw[List.mem_filter,List.mem_range];constructor
 ·rintro ⟨_,h⟩;simpa using h
 ·intro h;exact⟨(List.getElem?_eq_some_iff.mp h).1,by simpa using h⟩
theorem Dz{x:Str}:(Bp ys x).Pairwise (· < ·):=by
 unfold Bp;exact List.Pairwise.filter _ List.pairwise_lt_range
theorem Fk{l:List Nat}{t j:Nat}(hs:l.Pairwise (· < ·))(ht:l[t]?=some j)(hj:bhi≤j)(hb:∀k∈l.take t,k<bhi):l.filter (· < bhi)=l.take t:=by
 have hlt:t<l.length:=(List.getElem?_eq_some_iff.mp ht).1;refine(AV (List.filter_append ..) (Aa (List.take_append_drop ..) rfl):l.filter (· < bhi)=(l.take t).filter (· < bhi)++(l.drop t).filter (· < bhi)).trans (Aa (List.filter_eq_self.mpr (λk hk=>by simpa using hb k hk)) ?_);have:List.filter (λx=>decide (x<bhi)) (List.drop t l)=[]:=by
  rw[List.filter_eq_nil_iff];intro k hk;simp only[decide_eq_true_eq,Nat.not_lt];rw[List.drop_eq_getElem_cons hlt] at hk;rw[← List.take_append_drop t l,List.drop_eq_getElem_cons hlt,List.pairwise_append] at hs;have e:l[t]=j:=by replace ht:=(List.getElem?_eq_getElem hlt).symm.trans ht;exact Option.some.inj ht
  rcases List.mem_cons.mp hk with rfl | hk
  ·refine Aa e ?_;exact hj
  ·exact aN (zv 0) (zv 1) [(0,1,zv 0,zv 2),(2,1,zv 3,zv 2),(0,1,za (zv 3) (zn 1),zv 1)] rfl (Bh _ _ _ _) Ae hj e ((List.pairwise_cons.mp hs.2.1).1 k hk)
 exact Aa this ((List.append_nil ..).trans rfl)
theorem D7{l:List Nat}(hb:∀k∈l,k<bhi):l.filter (· < bhi)=l:=List.filter_eq_self.mpr λk hk=>by simpa using hb k hk
theorem HZ{K:Type}[DecidableEq K]{kvs:List (K×Value)}{k:K}{v:Value}:(stored kvs k v).length≤kvs.length+1:=by
 unfold PySem.stored;split
 ·simp
 ·simp
noncomputable def Nk(xs ys:List Str)(alo blo bhi:Nat)(kvs:List (Int×Value))(i:Nat):Prop:=
 ∀j:Nat,blo≤j→j<bhi→(valueAt kvs ((j:Int)-1)=none∧cm xs ys alo blo i j=0)∨∃t,valueAt kvs ((j:Int)-1)=some (.int (cm xs ys alo blo i j:Nat) t)
noncomputable def Ds(xs ys:List Str)(alo blo:Nat)(kvs:List (Int×Value))(i:Nat)(l:List Nat):Prop:=
 (∀j∈l,blo≤j→∃t,valueAt kvs (j:Int)=some (.int (cm xs ys alo blo (i+1) (j+1):Nat) t))∧∀k:Int,(∀j∈l,blo≤j→k≠(j:Int))→valueAt kvs k=none
theorem Nk.start:Nk xs ys alo blo bhi [] alo:=λj z_ z_=>.inl ⟨rfl,by
 exact aH ((IS (xs:=xs) (ys:=ys) (alo:=alo) (blo:=blo) (i:=alo) (j:=j)).1)⟩
theorem Ds.start:Ds xs ys alo blo [] i []:=⟨(λj h=>by contradiction),λz_ z_=>rfl⟩
theorem Ds.skip(h:Ds xs ys alo blo kvs i l)(hj:j<blo):Ds xs ys alo blo kvs i (l++[j]):=by
 refine⟨λk hk hb=>?_,λk hk=>h.2 k λj' hj'=>hk j' (List.mem_append_left _ hj')⟩;rcases List.mem_append.mp hk with hk | hk
 ·exact h.1 k hk hb
 ·rw[List.mem_singleton.mp hk] at hb;exact(aF [(0,1,za (zv 0) (zn 1),zv 1),(0,1,zv 1,zv 0)] rfl (Az _ _) Ae hj hb).elim
theorem Ds.put(h:Ds xs ys alo blo kvs i l)(hn:j∉l)(hb:blo≤j):Ds xs ys alo blo (stored kvs (j:Int) (.int (cm xs ys alo blo (i+1) (j+1):Nat) t)) i (l++[j]):=by
 refine⟨λk hk hb'=>?_,λk hk=>?_⟩
 ·by_cases e:k=j
  ·subst e;exact⟨t,Bi.trans ((if_pos rfl).trans rfl)⟩
  ·refine Aa Bi (Aa (if_neg (aG e)) ?_);rcases List.mem_append.mp hk with hk | hk
   ·exact h.1 k hk hb'
   ·exact absurd (List.mem_singleton.mp hk) e
 ·refine Bi.trans ((if_neg (hk j (by simp) hb)).trans ?_);exact h.2 k λj' hj'=>hk j' (List.mem_append_left _ hj')
theorem Ds.row(hx:xs[i]?=some x)(h:Ds xs ys alo blo kvs i ((Bp ys x).filter (· < bhi))):Nk xs ys alo blo bhi kvs (i+1):=by
 intro j h1 h2;by_cases h0:j=0∨j=blo
 ·refine .inl ⟨h.2 _ λk hk hb=>?_,Zm (aE h0)⟩;exact aD h0 hb
 ·obtain⟨j',rfl⟩:∃j',j=j'+1:=⟨j-1,by lia⟩;by_cases hy:ys[j']?=some x
  ·right;have:=h.1 j' (List.mem_filter.mpr ⟨Ey.mpr hy,by simp;exact aN (za (zv 0) (zn 1)) (zv 1) [(0,1,za (za (zv 0) (zn 1)) (zn 1),zv 1)] rfl (Az _ _) Ae h2⟩) (by lia)
   rwa [show(((j'+1:Nat):Int)-1)=(j':Int) by exact Int.le_antisymm (aZ (zd (za (zv 0) (zn 1)) (zn 1)) (zv 0) [] rfl (Av _) Ae) (aZ (zv 0) (zd (za (zv 0) (zn 1)) (zn 1)) [] rfl (Av _) Ae)]
  ·left;refine⟨h.2 _ λk hk hb e=>?_,Sh hx hy⟩;have e2:k=j':=Nat.le_antisymm (aN (zv 0) (zv 1) [(6,1,zd (za (zv 1) (zn 1)) (zn 1),zv 0)] rfl (Az _ _) Ae e) (aN (zv 1) (zv 0) [(5,1,zd (za (zv 1) (zn 1)) (zn 1),zv 0)] rfl (Az _ _) Ae e);subst e2;exact hy (Ey.mp (List.mem_filter.mp hk).1)
end
section
open PySem PySem.W
noncomputable abbrev Rg:=Nat×Nat×Nat×Nat
section
variable(xs ys:List Str)
noncomputable def DP(alo blo bhi i:Nat):AJ:=(List.range' alo i).foldl (RK xs ys alo blo bhi) (alo,blo,0)
noncomputable def BD(r:Rg):AJ:=DP xs ys r.1 r.2.2.1 r.2.2.2 (r.2.1-r.1)
noncomputable def FT(r:Rg):List Rg:=if r.1<(BD xs ys r).1∧r.2.2.1<(BD xs ys r).2.1 then [(r.1,(BD xs ys r).1,r.2.2.1,(BD xs ys r).2.1)] else []
noncomputable def EO(r:Rg):List Rg:=if (BD xs ys r).1+(BD xs ys r).2.2<r.2.1∧(BD xs ys r).2.1+(BD xs ys r).2.2<r.2.2.2 then [((BD xs ys r).1+(BD xs ys r).2.2,r.2.1,(BD xs ys r).2.1+(BD xs ys r).2.2,r.2.2.2)] else []
inductive Jl:List Rg→List AJ→Prop
 |start:Jl [(0,xs.length,0,ys.length)] []
 |none {q:List Rg} {r:Rg} {bl:List AJ}:Jl (q++[r]) bl→(BD xs ys r).2.2=0→Jl q bl
 |some {q:List Rg} {r:Rg} {bl:List AJ}:Jl (q++[r]) bl→(BD xs ys r).2.2≠0→Jl (q++FT xs ys r++EO xs ys r) (bl++[BD xs ys r])
noncomputable def Jj(r:Rg):Prop:=r.1≤r.2.1∧r.2.1≤xs.length∧r.2.2.1≤r.2.2.2∧r.2.2.2≤ys.length
structure Nm(r:Rg):Prop where
 b1:r.1≤(BD xs ys r).1
 b2:(BD xs ys r).1+(BD xs ys r).2.2≤r.2.1
 b3:r.2.2.1≤(BD xs ys r).2.1
 b4:(BD xs ys r).2.1+(BD xs ys r).2.2≤r.2.2.2
 m1:r.1<(BD xs ys r).1→r.2.2.1<(BD xs ys r).2.1→xs[(BD xs ys r).1-1]?≠ys[(BD xs ys r).2.1-1]?
 m2:(BD xs ys r).1+(BD xs ys r).2.2<r.2.1→(BD xs ys r).2.1+(BD xs ys r).2.2<r.2.2.2→xs[(BD xs ys r).1+(BD xs ys r).2.2]?≠ys[(BD xs ys r).2.1+(BD xs ys r).2.2]?
end
noncomputable def Qr(r:Rg):Nat:=(r.2.1-r.1)+(r.2.2.2-r.2.2.1)+1
noncomputable def Fo(q:List Rg):Nat:=(q.map Qr).sum
theorem B5:Fo (a++b)=Fo a+Fo b:=by simp[Fo]
theorem Q0:q.length≤Fo q:=by
 induction q with
 |nil=>exact Nat.le_refl _
 |cons r q ih=>
  refine Aa (by simp[Fo]:Fo (r::q)=Qr r+Fo q) (Aa List.length_cons ?_);unfold Qr;exact ZW ih
theorem GD(h:Nm xs ys r)(hk:(BD xs ys r).2.2≠0):Fo (FT xs ys r)+Fo (EO xs ys r)<Qr r:=by
 obtain⟨b1,b2,b3,b4,_,_⟩:=h;unfold FT EO;generalize BD xs ys r=f at *;obtain⟨alo,ahi,blo,bhi⟩:=r;obtain⟨i,j,k⟩:=f;dsimp only at *;split<;>split<;>simp[Fo,Qr]<;>lia
theorem Jl.ok(h:Jl xs ys q bl)(hf:∀r,Jj xs ys r→Nm xs ys r):(∀r∈q,Jj xs ys r)∧Fo q+bl.length≤xs.length+ys.length+1:=by
 induction h with
 |start=>
  refine⟨λr hr=>?_,by simp[Fo,Qr]⟩;refine Aa (List.mem_singleton.mp hr) ?_;exact⟨Nat.zero_le _,Nat.le_refl _,Nat.zero_le _,Nat.le_refl _⟩
 |none h1 h2 ih=>
  rw[B5] at ih;exact⟨λr hr=>ih.1 r (List.mem_append_left _ hr),aN (za (zv 0) (zv 1)) (za (za (zv 2) (zv 3)) (zn 1)) [(0,1,za (za (zv 0) (zv 4)) (zv 1),za (za (zv 2) (zv 3)) (zn 1))] rfl (BJ _ _ _ _ _) Ae ih.2⟩
 |@some q r bl h1 h2 ih=>
  refine oA ih λi1 i2=>?_;have hr:=i1 r (by simp);have hfr:=hf r hr;rw[B5] at i2;rw[(by simp[Fo]:Fo [r]=Qr r)] at i2;refine⟨λz hz=>?_,by refine Aa B5 (Aa B5 (Aa List.length_append (Aa List.length_singleton ?_)));exact aN (za (za (za (zv 0) (zv 1)) (zv 2)) (za (zv 3) (zn 1))) (za (za (zv 4) (zv 5)) (zn 1)) [(0,1,za (za (zv 0) (zv 6)) (zv 3),za (za (zv 4) (zv 5)) (zn 1)),(0,1,za (za (zv 1) (zv 2)) (zn 1),zv 6)] rfl (Gv _ _ _ _ _ _ _) Ae i2 (GD hfr h2)⟩;refine Ht hr λo1 o2 o3 o4=>?_;obtain⟨b1,b2,b3,b4,_,_⟩:=hfr;rcases List.mem_append.mp hz with hz | hz
  ·rcases List.mem_append.mp hz with hz | hz
   ·exact i1 z (List.mem_append_left _ hz)
   ·unfold FT at hz;split at hz
    ·refine Aa (List.mem_singleton.mp hz) ?_;unfold Jj;dsimp only;lia
    ·contradiction
  ·unfold EO at hz;split at hz
   ·refine Aa (List.mem_singleton.mp hz) ?_;unfold Jj;dsimp only;exact ZV o2 o4 (by assumption)
   ·contradiction
end
section
variable{E:Value→Shared→Prop}
theorem MT(F:Fr h₀ L s.heap m)(N:News h₀ L s.heap news)(hm:(D,o)∈news)(hd:o.IsDictOf (intKind prog w) kvs)(hz:kvs.length≤100000)(h:∀h' o',Fr h₀ L h' m→News h₀ L h' ((D,o')::off D news)→o'.IsDictOf (intKind prog w) (stored kvs k v)→Q () { s with heap:=h',toks:=s.toks+1 }):wpAny (model prog w) A (setItem (.ref D) (.int k t) v) Q E s:=
 kda_set F (Bm N hm) (UpdF.head AW) hd (intKind_is _ _ _ _) (Nat.le_trans hz (by decide)) h
end
noncomputable def Nq(xs ys:List Str)(alo blo:Nat)(st:AJ)(r:Nat)(js:List Nat):AJ:=js.foldl (JW xs ys alo blo r) st
theorem Gc{xs ys:List Str}{alo blo r j:Nat}{st:AJ}{l:List Nat}:Nq xs ys alo blo st r (l++[j])=JW xs ys alo blo r (Nq xs ys alo blo st r l) j:=by
 unfold Nq;refine List.foldl_append.trans ?_;rfl
theorem Lp(hx:xs[alo+i]?=some x)(hl:(Bp ys x).filter (· < bhi)=l):DP xs ys alo blo bhi (i+1)=Nq xs ys alo blo (DP xs ys alo blo bhi i) (alo+i) l:=by
 have e:xs.getD (alo+i) Str.empty=x:=by refine(List.getD_eq_getElem?_getD).trans (Aa hx ?_);rfl
 unfold DP;refine Aa List.range'_1_concat (List.foldl_append.trans ?_);refine(?_:RK xs ys alo blo bhi _ (alo+i)=_);unfold RK Nq;exact Aa e (Aa hl rfl)
noncomputable def EN(x:Str)(v:Value):List (Str×Value)→List (Str×Value)
 |[]=>[(x,v)]
 |(y,u)::r=>match x==y with
  |true=>(y,v)::r
  |false=>(y,u)::EN x v r
noncomputable def J4(x:Str)(t:Tok)(v:Value):List (Str×Tok×Value)→List (Str×Tok×Value)
 |[]=>[(x,t,v)]
 |(y,q,u)::r=>match x==y with
  |true=>(y,q,v)::r
  |false=>(y,q,u)::J4 x t v r
theorem Pv{w:World}{q:Str×Tok×Value}{x:Str}:(Ka w q).key.isStr x=(x==q.1):=by
 refine(?_:(q.1==x)=_);exact Bool.eq_iff_iff.mpr ⟨λh=>by refine Aa (eq_of_beq h) ?_;exact beq_self_eq_true _,λh=>by refine Aa (eq_of_beq h) ?_;exact beq_self_eq_true _⟩
theorem Ez{w:World}{x:Str}{l:List (Str×Tok×Value)}:getL x (l.map (Ka w))=some ((l.map λq=>(q.1,q.2.2)).lookup x):=by
 induction l with
 |nil=>rfl
 |cons q r ih=>
  unfold getL at ih ⊢;simp only[List.map_cons,List.find?_cons,Pv,List.lookup_cons]
  cases e:x==q.1 with
  |true=>rfl
  |false=>
   simp only[];refine AV ih ?_;have e2:(Ka w q).refKey=false:=rfl;simp only[List.any_cons,e2,Bool.false_or]
theorem NW:putL x (PyData.keyHash w.params x) (.str x t) v (l.map (Ka w))=(J4 x t v l).map (Ka w):=by
 induction l with
 |nil=>rfl
 |cons q r ih=>
  simp only[List.map_cons,putL,Pv,J4]
  cases e:x==q.1 with
  |true=>rfl
  |false=>
   simp only[List.map_cons,Bool.false_eq_true,if_false];exact Aa ih rfl
theorem QA{x:Str}{t:Tok}{v u:Value}(e:er v=u){l:List (Str×Tok×Value)}:(J4 x t v l).map (λq=>(q.1,er q.2.2))=EN x u (l.map λq=>(q.1,er q.2.2)):=by
 induction l with
 |nil=>exact congrArg (λz=>[(x,z)]) e
 |cons q r ih=>
  simp only[List.map_cons,J4,EN]
  cases x==q.1 with
  |true=>simp[e]
  |false=>simp only[List.map_cons];exact Aa ih rfl
theorem MB{x:Str}{v:Value}{l:List (Str×Tok×Value)}(h:(l.map λq=>(q.1,er q.2.2)).lookup x=some v):∃v',(l.map λq=>(q.1,q.2.2)).lookup x=some v'∧er v'=v:=by
 rw[(by simp[List.map_map,Function.comp_def]:(l.map λq=>(q.1,er q.2.2))=(l.map λq=>(q.1,q.2.2)).map λy=>(y.1,er y.2)),Bx] at h;refine An (Option.map_eq_some_iff.mp h) λv' h1 h2=>?_;exact⟨v',h1,h2⟩
theorem GV{v:Value}:handedIn (er v)=handedIn v:=by cases v<;>rfl
noncomputable def Vo:Option (Option Value)→Bool
 |some none=>true
 |_=>false
theorem Lk{r:Option (Option Value)}(h:Vo r=true):r=some none:=by
 cases r with
 |none=>contradiction
 |some v=>cases v with
  |none=>rfl
  |some _=>contradiction
noncomputable def TL(K:Frag)(C:Addr)(n:Str):Bool:=plainGet K C n&&(hasDictIn K C&&Vo (findIn K (.ref C) n))
noncomputable def SP(K:Frag)(C:Addr)(n:Str)(f:Addr):Bool:=plainGet K C n&&(decide (findIn K (.ref C) n=some (some (.ref f)))&&isFn K (.ref f))
noncomputable def SE(K:Frag)(C:Addr)(n:Str):Bool:=decide (findIn K (.ref C) "__setattr__"=some (some (.builtin "object.__setattr__")))&&(plainOver K C&&(Vo (takerIn K C n)&&hasDictIn K C))
section
variable{c:Cf cs}{K:Value→Lg→Prop}
theorem Dq.ins{w:World}{con:Df}(V:Dq w led con)(hx:led x=some (.ins C dx))(hd:led dx=some (.att kvs)):(x,(⟨.ref C,some dx,.plain,#[]⟩:Obj))∈con∧∃(l:List (Str×Tok×Value)) (k:Nat),(dx,dictOf (l.map (Ka w)) k)∈con∧l.map (λq=>(q.1,er q.2.2))=kvs:=by
 refine CT λGG up=>?_;refine An (V _ _ hx) λo1 m1 ho2=>?_;subst ho2;refine BQ (V _ _ hd) λo2 m2 l k ho4 e=>?_;subst ho4;refine up ?_;exact⟨m1,l,k,m2,e⟩
theorem AA{v:Value}(hx:led x=some (.ins C dx))(hd:led dx=some (.att kvs))(hv:kvs.lookup n=some v)(hk:K v led)(ok:TL (hd0.heap_1 c.w.params) C n=true)(hh:handedIn v=true:=by rfl):Fl n c ps (.ref x) led K:=λa' ea=>by
 obtain rfl:=Af ea;refine A9 hk λh tk m con Q' F N V q=>?_;refine Cm (V.ins hx hd) λm1 l k m2 e=>?_;unfold TL at ok;rw[Bool.and_eq_true,Bool.and_eq_true] at ok;rw[← e] at hv;refine An (MB hv) λv' h1 h2=>?_;refine get_own F c.X (InstAt.of_news N m1 m2) ok.1 ok.2.1 (Lk ok.2.2) rfl (Ez.trans (Aa h1 rfl)) (by refine AV GV (Aa h2 ?_);exact hh) (q _ _ h2)
theorem BF{f:Addr}{K:Value×List Value→Lg→Prop}(hx:led x=some (.ins C dx))(hd:led dx=some (.att kvs))(hv:kvs.lookup n=none)(hk:K (.ref f,[.ref x]) led)(ok:SP (hd0.heap_1 c.w.params) C n f=true):Gp n c ps (.ref x) led K:=λa' pl ea=>by
 obtain rfl:=Af ea;refine A9 hk λh tk m con Q' F N V q=>?_;refine Cm (V.ins hx hd) λm1 l k m2 e=>?_;unfold SP at ok;rw[Bool.and_eq_true,Bool.and_eq_true] at ok;refine method_inst F c.X (InstAt.of_news N m1 m2) ok.1 (of_decide_eq_true ok.2.1) ok.2.2 ?_ (q _ _ rfl);refine Ez.trans ?_;rw[← e,(by simp[List.map_map,Function.comp_def]:(l.map λq=>(q.1,er q.2.2))=(l.map λq=>(q.1,q.2.2)).map λy=>(y.1,er y.2)),Bx,Option.map_eq_none_iff] at hv;exact Aa hv rfl
theorem AT{v:Value}{N:Lg→Prop}(hx:led x=some (.ins C dx))(hd:led dx=some (.att kvs))(hk:N (put dx (.att (EN n v kvs)) led))(ok:SE (hd0.heap_1 c.w.params) C n=true)(hz:kvs.length<1000):Qi n c ps (.ref x) v led N:=λa' v' ea ev=>by
 obtain rfl:=Af ea;refine Cp hd (v:=()) hk λh tk m con Q' F N V q=>?_;refine Cm (V.ins hx hd) λm1 l k m2 e=>?_;unfold SE at ok;rw[Bool.and_eq_true,Bool.and_eq_true,Bool.and_eq_true] at ok;refine Ng F c.X N m1 m2 (of_decide_eq_true ok.1) ok.2.1 (Lk ok.2.2.1) ok.2.2.2 (by refine Aa Ez ?_;rfl) (NW) ?_ λh' n' F' N'=>q () h' _ _ rfl ⟨_,n',rfl,(QA ev).trans (Aa e rfl)⟩ F' N';have:∀{l:List (Str×Tok×Value)},(J4 n (tk+1) v' l).length≤l.length+1:=λ{l}=>by
  induction l with
  |nil=>exact Nat.le_refl _
  |cons q r ih=>
   simp only[J4]
   cases n==q.1 with
   |true=>exact Nat.le_succ _
   |false=>exact Nat.succ_le_succ ih
 refine Aa (List.length_map ..) ?_;rw[← e,List.length_map] at hz;exact Nat.le_trans this hz
theorem Bv{T:Type}[DecidableEq T]{k:T}{l:List (T×Value)}:valueAt (l.map λq=>(q.1,er q.2)) k=(valueAt l k).map er:=by
 induction l with
 |nil=>rfl
 |cons y r ih=>
  refine AL.trans (Aa AL (Aa ih ?_));split<;>rfl
theorem EL{T:Type}[DecidableEq T]{k:T}{v:Value}{l:List (T×Value)}:(stored l k v).map (λq=>(q.1,er q.2))=stored (l.map λq=>(q.1,er q.2)) k (er v):=by
 unfold stored;have e:((l.map λq=>(q.1,er q.2)).any λkv=>decide (kv.1=k))=l.any λkv=>decide (kv.1=k):=by
  refine List.any_map.trans ?_;rfl
 refine Aa e ?_;split
 ·refine List.map_map.trans (Aa List.map_map ?_);refine List.map_congr_left λq z_=>?_;simp only[Function.comp_apply];split<;>rfl
 ·refine List.map_append.trans ?_;rfl
theorem E6(hk:∀l,led l=none→(l==sysModules)=false→K (.ref l) (put l (.dct []) led)){pos:Pos}:Gq (.Dict [] [] pos) c ps led K:=by
 refine⟨λs hs Q' q=>?_⟩;obtain⟨h,tk,m,con,F,N,V,I⟩:=hs;refine newDict_K F N c.T.nolimit λd h' o F' N' hl lo a z_ b z_=>?_;refine oA (C3 (tk:=tk) F' N' V I hl (o:=.dct []) ⟨[],a,rfl⟩) λe1 e2=>?_;exact q (.ref d) _ _ e2 (hk d e1 lo)
theorem Ly(hk:∀l,led l=none→(l==sysModules)=false→K (.ref l) (put l (.dci []) led)){pos:Pos}:Gq (.Dict [] [] pos) c ps led K:=by
 refine⟨λs hs Q' q=>?_⟩;obtain⟨h,tk,m,con,F,N,V,I⟩:=hs;refine newDict_K F N c.T.nolimit λd h' o F' N' hl lo a z_ b z_=>?_;refine oA (C3 (tk:=tk) F' N' V I hl (o:=.dci []) ⟨[],b,rfl⟩) λe1 e2=>?_;exact q (.ref d) _ _ e2 (hk d e1 lo)
theorem Dx{y:Str}{id:String}{K:Value×List Value→Lg→Prop}(sl:Slot "dict" y id)(hy:typeOf (.builtin id)=pure (.type "method_descriptor"))(hv:led D=some (.dct kvs))(hk:K (.builtin id,[.ref D]) led):Gp y c ps (.ref D) led K:=λa' pl ea=>by
 obtain rfl:=Af ea;refine A9 hk λh tk m con Q' F N V q=>?_;refine BY (V _ _ hv) λo hm l hd e=>?_;have hD:=kda_dict (s:={ c.s with heap:=h,toks:=tk }) N hm hd;exact getMethod_builtin hD.typeIs PySem.F.plainAttrs_dict sl hy hD.mapOf.noDict (q _ _ rfl)
theorem Gl{v:Value}(hv:led D=some (.dct kvs))(lo:(D==sysModules)=false)(hx:(valueAt kvs k).getD .none=v)(hk:K v led):A4 c ps (.builtin "dict.get") [.ref D,.str k 0] led K:=λf' vs' ef ev=>by
 obtain rfl:=Aq ef;refine A3 (Cw ev) λv1 v2 ho2 e1 e2=>?_;subst ho2;obtain rfl:=Af e1;refine oE (AB e2) λt ho1=>?_;subst ho1;refine A9 hk λh tk m con Q' F N V q=>?_;refine BY (V _ _ hv) λo hm l hd e=>?_;refine kdg_get1 N hm hd lo (strKind_is _ _ _ _) _ rfl (q _ _ ?_);refine AV hx (AV e (Aa Bv ?_));cases valueAt l k<;>rfl
theorem IM{vs:List Value}{x y z:Value}(h:vs.map er=[x,y,z]):∃v u t,vs=[v,u,t]∧er v=x∧er u=y∧er t=z:=by
 cases vs with
 |nil=>contradiction
 |cons v r=>
  simp only[List.map_cons,List.cons.injEq] at h;refine A3 (Cw h.2) λu t ho2 e1 e2=>?_;subst ho2;exact⟨v,u,t,rfl,h.1,e1,e2⟩
theorem PO{v d:Value}(hv:led D=some (.dct kvs))(lo:(D==sysModules)=false)(hx:(valueAt kvs k).getD d=v)(hk:K v led):A4 c ps (.builtin "dict.get") [.ref D,.str k 0,d] led K:=λf' vs' ef ev=>by
 obtain rfl:=Aq ef;refine Dj (IM ev) λv1 v2 v3 ho3 e1 e2 e3=>?_;subst ho3;obtain rfl:=Af e1;refine oE (AB e2) λt ho1=>?_;subst ho1;refine A9 hk λh tk m con Q' F N V q=>?_;refine BY (V _ _ hv) λo hm l hd e=>?_;refine kdg_get2 N hm hd lo (strKind_is _ _ _ _) _ rfl (q _ _ ?_);refine AV hx (AV e (Aa Bv (AV e3 ?_)));cases valueAt l k<;>rfl
noncomputable def Ir:Expr→Bool
 |.Name ..=>true
 |_=>false
theorem Ep{e:Expr}{a r:Value}(h:Ir e=true):letTemporaryGo e a r=pure ():=by cases e<;>first | rfl | contradiction
theorem CJ{v s:Expr}{u:Value}(hv:led D=some (.dct kvs))(hx:valueAt kvs k=some u)(hk:K u led)(hn:Ir v=true:=by rfl)(hs:Dv s=true:=by rfl):Jh v s c ps (.ref D) (.str k 0) led K:=λa' b' ea eb=>by
 obtain rfl:=Af ea;refine oE (AB eb) λt ho1=>?_;subst ho1;refine A9 hk λh tk m con Q' F N V q=>?_;refine BY (V _ _ hv) λo hm l hd e=>?_;rw[← e,Bv] at hx;refine An (Option.map_eq_some_iff.mp hx) λu' h1 h2=>?_;exact Gg N hm hd h1 (q _ _ h2) (CA hs) λz_=>Ep hn
theorem HA{v:Value}{N:Lg→Prop}(hv:led D=some (.dct kvs))(hk:N (put D (.dct (stored kvs k v)) led))(hz:kvs.length≤1000000):Sx c ps (.ref D) (.str k 0) v led N:=λa' b' v' ea eb ev=>by
 obtain rfl:=Af ea;refine oE (AB eb) λt ho1=>?_;subst ho1;refine Cp hv (v:=()) hk λh tk m con Q' F N V q=>?_;refine BY (V _ _ hv) λo hm l hd e=>?_;refine MR F N hm hd (by rw[← e,List.length_map] at hz;exact hz) λh' o' F' N' d'=>q () h' _ o' rfl ⟨_,d',?_⟩ F' N';exact EL.trans (Aa e (Aa ev rfl))
theorem P4{r:Bool}(hv:led D=some (.dct kvs))(lo:(D==sysModules)=false)(hr:(valueAt kvs k).isSome=r)(hk:K (.bool r) led):Ky .In c ps (.str k 0) (.ref D) led K:=λa' b' ea eb=>by
 obtain rfl:=Af eb;refine oE (AB ea) λt ho1=>?_;subst ho1;refine A9 hk λh tk m con Q' F N V q=>?_;refine BY (V _ _ hv) λo hm l hd e=>?_;refine Pz N hm hd lo ?_ (q _ _ rfl);refine AV hr (AV e (Aa Bv ?_));cases valueAt l k<;>rfl
theorem RZ{v:Value}{N:Lg→Prop}(hv:led D=some (.dci ivs))(hk:N (put D (.dci (stored ivs i v)) led))(hz:ivs.length≤100000):Sx c ps (.ref D) (.int i 0) v led N:=λa' b' v' ea eb ev=>by
 obtain rfl:=Af ea;refine oE (AQ eb) λt ho1=>?_;subst ho1;refine Cp hv (v:=()) hk λh tk m con Q' F N V q=>?_;refine BY (V _ _ hv) λo hm l hd e=>?_;refine MT F N hm hd (by rw[← e,List.length_map] at hz;exact hz) λh' o' F' N' d'=>q () h' _ o' rfl ⟨_,d',?_⟩ F' N';exact EL.trans (Aa e (Aa ev rfl))
theorem KL{x:Sem Value}{o:AO}(hk:∀l,led l=none→Pp.contains l=false→K (.ref l) (put l o led))(h:∀(h:Heap) (tk:Nat) (m:Str→Option Value) (con:Df) (Q':Value→Shared→Prop),Fr c.h₀ c.L h m→News c.h₀ c.L h con→Dq c.w led con→(∀l h' tk' o',o.Is c.w o'→Fr c.h₀ c.L h' m→News c.h₀ c.L h' ((l,o')::con)→(∀p∈con,p.1<l)→Q' (.ref l) { c.s with heap:=h',toks:=tk' })→wpAny (model PW c.w) c.A x Q' c.E { c.s with heap:=h,toks:=tk }):Op c ps x led K:=by
 intro s hs Q' q;obtain⟨h1,tk,m,con,F,N,C,I⟩:=hs;refine h h1 tk m con Q' F N C λl h' tk' o' hi F' N' hl=>?_;refine oA (C3 (tk:=tk') F' N' C I hl hi) λe1 e2=>?_;refine q (.ref l) _ _ e2 (hk l e1 ?_)
 cases hc:Pp.contains l with
 |false=>rfl
 |true=>
  have h3:=(N' _ (.head _)).2.2;have h4:=Ga (w:=c.w) hc;unfold keepIn at h4;dsimp only at h4 h3
  cases h5:(hd0.heap_1 c.w.params).lookup l with
  |none=>rw[h5] at h4;contradiction
  |some o2=>
   have:=c.X _ _ h5;replace this:=h3.symm.trans this;contradiction
theorem MV(hv:led D=some (.dci ivs))(hk:∀q,led q=none→Pp.contains q=false→K (.ref q) (put q (.bnd "dict.get" D) led)):Fl "get" c ps (.ref D) led K:=λa' ea=>by
 obtain rfl:=Af ea;refine KL hk λh tk m con Q' F N V q=>?_;refine BY (V _ _ hv) λo hm l hd e=>?_;exact Kd F N hm hd λg h' F' N' hl=>q g h' _ _ rfl F' N' hl
theorem LY{S:Str→Bool}{z:Nat}(hv:led D=some (.set S z))(hk:∀q,led q=none→Pp.contains q=false→K (.ref q) (put q (.bnd "set.__contains__" D) led)):Fl "__contains__" c ps (.ref D) led K:=λa' ea=>by
 obtain rfl:=Af ea;refine KL hk λh tk m con Q' F N V q=>?_;refine An (V _ _ hv) λo hm hd=>?_;exact J5 F N hm hd λg h' F' N' hl=>q g h' _ _ rfl F' N' hl
theorem Gi{q:Addr}{id:String}{pos:Pos}{e:Expr}{r:List Expr}{fu:Nat}(h:(Ci fu c ps).l (e::r) led λvs l1=>l1 q=some (.bnd id D)∧A4 c ps (.ref q) vs l1 K)(hp:BO (e::r)=true):Z7 pos (e::r) c ps (.ref q) [] led K:=λf' first' ef ei s hs Q' k=>by
 obtain rfl:=Af ef;obtain rfl:=List.map_eq_nil_iff.mp ei;refine oA (CH (env:=c.env) hp) λe1 hp2=>?_;have k1:=((A6 fu).l _ _ _ h pos).wp hs (Q':=λvs s1=>s1.heap.get? q=some (DQ id D)∧wpAny (model PW c.w) c.A (call (.ref q) ([]++vs)) Q' c.E s1) λvs s1 l1 h1 k1=>⟨by
  obtain⟨h0,tk,m,con,F,N,V,I⟩:=h1;refine An (V _ _ k1.1) λo hm ho2=>?_;subst ho2;exact(N _ hm).1,(k1.2 _ _ rfl rfl).wp h1 k⟩
 rw[e1] at k1 ⊢;exact callWith_of (P:=λh=>h.get? q=some (DQ id D)) (by show((false||(backTo pos (starEach r c.env)).any (·.1))||false)=false;refine Aa (C9 hp2) ?_;rfl) (λh hh=>⟨.machine,.inr (.inl rfl),(Looks.ld (part:=none) hh).andThen .now⟩) (evalArgs_plain k1)
theorem Ip{q:Addr}{es:List Expr}(h:Pp.contains q=false):(So (.ref q)&&BO es)=false:=by show(Pp.contains q&&_)=false;refine Aa h ?_;rfl
theorem Sp{q:Addr}{v d:Value}(hq:led q=some (.bnd "dict.get" D))(hv:led D=some (.dci ivs))(lo:(D==sysModules)=false)(hx:(valueAt ivs i).getD d=v)(hk:K v led):A4 c ps (.ref q) [.int i 0,d] led K:=λf' vs' ef ev=>by
 obtain rfl:=Af ef;refine A3 (Cw ev) λv1 v2 ho2 e1 e2=>?_;subst ho2;refine oE (AQ e1) λt ho1=>?_;subst ho1;refine A9 hk λh tk m con Q' F N V qq=>?_;refine BY (V _ _ hv) λo hm l hd e=>?_;refine An (V _ _ hq) λo2 hm2 ho2=>?_;subst ho2;refine Kc _ N hm2 hm hd lo rfl (qq _ _ ?_);refine AV hx (AV e (Aa Bv (AV e2 ?_)));cases valueAt l i<;>rfl
theorem Fz(hq:led q=some (.bnd "set.__contains__" D))(hv:led D=some (.set S z))(hk:K (.bool (S k)) led)(hz:z<1000:=by decide):A4 c ps (.ref q) [.str k 0] led K:=λf' vs' ef ev=>by
 obtain rfl:=Af ef;refine CT λGG up=>?_;refine An (Bf ev) λv1 ho1 e1=>?_;subst ho1;refine oE (AB e1) λt ho1=>?_;subst ho1;refine up ?_;refine A9 hk λh tk m con Q' F N V qq=>?_;refine An (V _ _ hv) λo hm hd=>?_;refine An (V _ _ hq) λo2 hm2 ho2=>?_;subst ho2;exact Ma N hm2 hm hd hz (qq _ _ rfl)
end
theorem AG{cs:Scope}{c:Cf cs}{ps:PS}{led:Lg}{K:Value→Lg→Prop}{v s:Expr}{D:Addr}{vs:List Value}{k:Int}{j:Nat}{x:Value}(hv:led D=some (.lst vs))(hk:k=(j:Int))(hx:vs[j]?=some x)(h:K x led)(hj:j≤1000000)(hs:Dv s=true:=by rfl):Jh v s c ps (.ref D) (.int k 0) led K:=by
 subst hk;exact I4 hv (by refine Aa (Int.toNat_natCast ..) ?_;exact hx) (Int.natCast_nonneg _) h (by lia) hs
noncomputable def LW{σ:Type}(ns:List Str)(vals:σ→List Value)(Inv:Nat→σ→Lg→Prop)(k:Nat):PS→Lg→Prop:=λps l=>∃k',k'<k∧∃x,Inv k' x l∧BR ps ns=(vals x).map some
section
noncomputable def NK(N:PS→Lg→Prop)(p:PS)(l:Lg):Prop:=N p l
theorem GC(m n:Nat)(ns:List Str)(vals:σ→List Value)(Inv:Nat→σ→Lg→Prop)(hr:c.rd=none)(k₀:Nat)(x₀:σ)(h0:Inv k₀ x₀ led)(hps:BR ps ns=(vals x₀).map some)(turn:∀k x led',Inv k x led'→∀(Y:Ex) (M:PS→Lg→Prop),(∀u l,X.ret u l→Y.ret u l)→(∀p l,Wk N p l→Y.brk p l)→(∀p l,LW ns vals Inv k p l→Y.cont p l)→(∀p l,LW ns vals Inv k p l→M p l) →
   (Ci n c (ns.zip (vals x))).t test led' λq l1=>BB q (HS n m c Y body (ns.zip (vals x)) l1 M) (NK N (ns.zip (vals x)) l1)):AE c X ps (exec (.While test body [] pos) c.env) led N:=by
 intro s hs Q' q;refine wpAny_While (codeAny_whileLoop (λk s=>∃x led,At c (ns.zip (vals x)) led s∧Inv k x led) ?_ k₀ ⟨x₀,led,hs.weak (Bb hps),h0⟩);rintro k s ⟨x,led1,h1,h2⟩;refine wpAny_mono (wpAny_passesOwn (c.hE hr) (((A6 n).t _ _ _ (turn k x led1 h2 ⟨X.ret,Wk N,LW ns vals Inv k⟩ (LW ns vals Inv k) (λz_ z_ k=>k) (λz_ z_ k=>k) (λz_ z_ k=>k) (λz_ z_ k=>k))).wp h1 (Q':=λb s2=>if b=true then wpAny (model PW c.w) c.A (execs body c.env) (λf s3=>C4 c ⟨X.ret,Wk N,LW ns vals Inv k⟩ (LW ns vals Inv k) f s3) c.E s2 else Q' .next s2) λb s2 l2 a1 a2=>?_)) (λb s2 hb=>?_) λz_ z_ e=>e
 ·cases b with
  |true=>refine Aa (if_pos rfl) ?_;exact(Du hr n m (a2.1 rfl)).wp a1 λf s3 hf=>hf
  |false=>refine Aa (if_neg (by decide)) ?_;exact q .next _ ⟨_,_,a1,a2.2 rfl⟩
 ·cases b with
  |false=>
   rw[if_neg (by decide)] at hb ⊢;exact wpAny_execs_nil hb
  |true=>
   rw[if_pos rfl] at hb ⊢;refine wpAny_mono (wpAny_passesOwn (c.hE hr) hb) (λf s3 hf=>?_) λz_ z_ e=>e;have fin:(∃p l,At c p l s3∧LW ns vals Inv k p l)→∃m,m<k∧∃x led,At c (ns.zip (vals x)) led s3∧Inv m x led:=by
    rintro ⟨p,l,a1,k',hk,x,a2,a3⟩;exact⟨k',hk,x,l,a1.weak (Bb a3),a2⟩
   cases f with
   |ret v=>exact q (.ret v) s3 hf
   |brk=>
    refine JA hf λp l a1 p2 a2 a3=>?_;exact q .next s3 ⟨p2,l,a1.weak a2,a3⟩
   |cont=>exact fin hf
   |next=>exact fin hf
theorem DF(n:Nat)(hr:c.rd=none)(h:(Ci n c ps).t test led λq l1=>q=false∧l1=led)(hN:N ps led):AE c X ps (exec (.While test body [] pos) c.env) led N:=by
 intro s hs Q' q;refine wpAny_While (codeAny_whileLoop (λz_ s=>At c ps led s) ?_ 0 hs);intro k s h1;refine wpAny_mono (wpAny_passesOwn (c.hE hr) (((A6 n).t _ _ _ h).wp h1 (Q':=λb s2=>b=false∧Q' .next s2) λb s2 l2 a1 a2=>⟨a2.1,q .next s2 ⟨ps,l2,a1,a2.2▸hN⟩⟩)) (λb s2 hb=>?_) λz_ z_ e=>e;obtain⟨rfl,hb⟩:=hb;rw[if_neg (by decide)];exact wpAny_execs_nil hb
end
section
theorem At.obj(h:At c ps led s)(hD:led D=some o):∃o',s.heap.get? D=some o'∧o.Is c.w o':=by
 obtain⟨h,tk,m,con,F,N,V,I⟩:=h;refine An (V _ _ hD) λo' hm hi=>?_;exact⟨o',(N _ hm).1,hi⟩
theorem At.same(h:At c ps led s)(hD:led D=some o₀)(hs:Heap.SameBut D s.heap h')(hg:h'.get? D=some o')(hi:o.Is c.w o'):At c ps (put D o led) { s with heap:=h' }:=by
 obtain⟨h,tk,m,con,F,N,V,I⟩:=h;refine An (V _ _ hD) λo1 hm z_=>?_;have N1:=N _ hm;exact DA (kas_fr F hs N1.2.1 N1.2.2) (λp hp=>by
  rcases List.mem_cons.mp hp with rfl | hp
  ·exact⟨hg,N1.2⟩
  ·exact(kas_news (λp hp=>N p (AM p hp)) hs λp hp=>AW p hp) p hp) V I hD hi
noncomputable def Cf.up(c:Cf cs)(k:Nat):Cf cs:={ c with un:=c.un+k,E:=λz_ z_=>False,hE:=λz_=>PassesOwn.never }
theorem At.up:At (c.up k) ps led s↔At c ps led s:=by
 constructor<;>(intro hX;obtain⟨h,tk,m,con,F,N,V,I⟩:=hX;exact⟨h,tk,m,con,F,N,V,⟨I.vars,I.cells,I.its,I.fm⟩⟩)
noncomputable abbrev Cf.A'(c:Cf cs)(k:Nat):Around:=ktrTop c.dp (c.un+k) c.gd c.cn c.cs₀ c.L c.a c.ccd c.cl c.outer
noncomputable def ZD(I:Addr)(l:Lg):Lg:=λb=>if b=I then none else l b
theorem J8(h:l a=some o)(n:a≠I):ZD I l a=some o:=(if_neg n).trans h
theorem At.drop(h:At c ps led s)(hI:led I=some o₀)(hs:Heap.ExtBut I s.heap h'):At c ps (ZD I led) { s with heap:=h' }:=by
 obtain⟨h,tk,m,con,F,N,V,J⟩:=h;refine An (V _ _ hI) λo1 hm z_=>?_;have N1:=N _ hm;have ne:∀q∈con,led q.1=none→q.1≠I:=λq z_ e e2=>by rw[e2,hI] at e;contradiction
 refine⟨h',tk,m,off I con,⟨F.ns.extBut hs N1.2.1.symm,λb x e=>hs b x (λe2=>by rw[e2,N1.2.2] at e;contradiction) (F.keep b x e),F.above⟩,λp hp=>⟨hs _ _ (AW p hp) (N p (AM p hp)).1,(N p (AM p hp)).2⟩,λb p hb=>?_,J.step (λq hq e=>AS hq (ne q hq e)) λq hq e=>?_⟩
 ·unfold ZD at hb;split at hb
  ·contradiction
  ·rename_i e;refine An (V _ _ hb) λo2 k1 k2=>?_;exact⟨o2,AS k1 e,k2⟩
 ·exact(if_neg (ne q hq e)).trans e
theorem At.seq(h:At c ps led s){D:Addr}{vs vs':List Value}(hD:led D=some (.lst vs))(hz:vs.length≤100000)(hz':vs'.length≤100001){A:Around}{f:Array Value→Array Value}{Q:Unit→Shared→Prop}{E:Value→Shared→Prop}(hf:∀ws:List Value,ws.map er=vs→(f ws.toArray).toList.map er=vs')(q:∀s',At c ps (put D (.lst vs') led) s'→Q () s'):wpAny (model PW c.w) A (updateSeq D f) Q E s:=by
 refine BQ (h.obj hD) λo g ws n ho4 e=>?_;subst ho4;have hf2:=hf ws e;refine wpAny_updateSeq g rfl (q _ (h.same hD (Heap.SameBut.update ..) (Heap.get?_update_self _ g rfl) ⟨(f ws.toArray).toList,if (f ws.toArray).size==ws.toArray.size then n else n+1,?_,hf2⟩)) ?_ ?_
 ·simp only[Obj.mapSeq,W.listOf,Array.toArray_toList]
 ·refine Aa List.size_toArray (Aa (AP e) ?_);exact Nat.le_trans hz (by decide)
 ·refine AV Array.length_toList (Aa (AP hf2) ?_);exact Nat.le_trans hz' (by decide)
theorem At.push(h:At c ps led s){D:Addr}{vs:List Value}(hD:led D=some (.lst vs))(hz:vs.length≤100000){A:Around}{v:Value}{Q:Unit→Shared→Prop}{E:Value→Shared→Prop}(q:∀s',At c ps (put D (.lst (vs++[er v])) led) s'→Q () s'):wpAny (model PW c.w) A (updateSeq D (·.push v)) Q E s:=
 h.seq hD hz (by refine Aa List.length_append ?_;exact Nat.succ_le_succ hz) (λws e=>by simp[e]) q
theorem At.new(h:At c ps led s)(hi:o.Is c.w o')(hf:o'.isFreed=false:=by rfl):led s.heap.objs.size=none∧At c ps (put s.heap.objs.size o led) { s with heap:=s.heap.push o' }:=by
 obtain⟨h,tk,m,con,F,N,V,J⟩:=h;exact C3 (F.push o') (News.push F N o' hf) V J (λp hp=>Heap.lt_size (N p hp).1) hi
theorem FP.new(I:FP c ps m con led)(hl:∀p∈con,p.1<l):FP c ps m ((l,o')::con) (put l o led):=
 I.step (λz_ hq z_=>.tail _ hq) λq hq e=>(if_neg (Nat.ne_of_lt (hl q hq))).trans e
end
theorem Hr:put a o (put a o' led)=put a o led:=funext λb=>by
 unfold put;split<;>rfl
section
variable{c:Cf cs}{K:Value→Lg→Prop}
noncomputable def Cf.dn(c:Cf cs):Cf cs:={ c with dp:=c.dp+1,un:=c.un+1,E:=λz_ z_=>False,hE:=λz_=>PassesOwn.never }
theorem At.dn:At c.dn ps led s↔At c ps led s:=by
 constructor<;>(intro hX;obtain⟨h,tk,m,con,F,N,V,I⟩:=hX;exact⟨h,tk,m,con,F,N,V,⟨I.vars,I.cells,I.its,I.fm⟩⟩)
theorem HD(h:∀x dx,led dx=none→put dx (.att []) led x=none→Ed c.dn ps (.ref fI) (.ref x::vs) (put x (.ins C dx) (put dx (.att []) led)) λr l=>r = .none∧K (.ref x) l)(hm:makesIn (hd0.heap_1 c.w.params) C=true)(hi:findIn (hd0.heap_1 c.w.params) (.ref C) "__init__"=some (some (.ref fI)))(hf:isFn (hd0.heap_1 c.w.params) (.ref fI)=true):A4 c ps (.ref C) vs led K:=λf' vs' ef ev=>by
 obtain rfl:=Af ef;intro s hs Q' q;obtain⟨h1,tk,m,con,F,N,V,I⟩:=hs;refine call_cls F c.X N hm hi hf λx dx h' F' N' l1 l2=>?_;refine oA (C3 (tk:=tk) (o:=.ins C dx) F' N' (V.new (a:=dx) (o:=.att []) (o':=dictOf [] 0) ⟨[],0,rfl,rfl⟩) (I.new l1) (λp hp=>by
  rcases List.mem_cons.mp hp with rfl | hp
  ·exact l2
  ·exact Nat.lt_trans (l1 p hp) l2) rfl) λk1 k2=>?_
 exact h x dx (V.none l1) k1 (.ref fI) (.ref x::vs') rfl (by refine List.map_cons.trans (Aa ev ?_);rfl) _ (At.dn.mpr k2) _ λv s' led' a1 a2=>⟨E1 a2.1,q _ _ _ (At.dn.mp a1) a2.2⟩
noncomputable def JG(C d:Addr)(vs:List Value):AO:=.pr 5 λo=>∃ws:List Value,o=⟨.ref C,some d,.plain,(ws.map some).toArray⟩∧ws.map er=vs
noncomputable def SD(v:Value)(i:Nat)(vs:List Value):List Value:=if i<vs.length then vs.set i v else vs++[v]
theorem NE(hi:i≤ws.length):(((ws.map some).toArray++Array.replicate (i+1-(ws.map some).toArray.size) none).setIfInBounds i (some v))=((SD v i ws).map some).toArray:=by
 unfold SD;apply Array.ext';simp only[Array.toList_setIfInBounds,Array.toList_append,List.size_toArray,List.length_map,Array.toList_replicate];split
 ·rename_i h;exact Aa (WY h:i+1-ws.length=0) (Aa List.replicate_zero (Aa (List.append_nil ..) (Aa List.map_set rfl)))
 ·rename_i h;have e:i=ws.length:=KS hi h;subst e;refine Aa (show ws.length+1-ws.length=1 by exact KV) (Aa List.replicate_one (Aa List.map_append ?_));simp
theorem Ur:(SD v i ws).map er=SD (er v) i (ws.map er):=by
 unfold SD;refine Aa (List.length_map ..) ?_;split
 ·exact List.map_set.trans rfl
 ·refine List.map_append.trans ?_;rfl
noncomputable def SA(K:Frag)(C:Addr)(n:Str)(p:Addr)(i:Nat):Bool:=plainGet K C n&&(isClsIn K C&&(decide (findIn K (.ref C) n=some (some (.ref p)))&&(decide (specialIn K (.ref p) "__get__"=some (some (.builtin "member_descriptor.__get__")))&&(decide (takesIn K (.ref p)=some true)&&decide (slotIn K p C=some i)))))
noncomputable def KG(K:Frag)(C:Addr)(n:Str)(p:Addr)(i:Nat):Bool:=decide (findIn K (.ref C) "__setattr__"=some (some (.builtin "object.__setattr__")))&&(plainOver K C&&(decide (takerIn K C n=some (some (.ref p)))&&(decide (typeIn K (.ref p)=some (.type "member_descriptor"))&&decide (slotIn K p C=some i))))
theorem Dk(p:Addr)(i:Nat)(hx:led x=some (JG C d vs))(hd:led d=some (.att []))(hv:vs[i]?=some v)(hk:K v led)(ok:SA (hd0.heap_1 c.w.params) C n p i=true)(hh:handedIn v=true:=by rfl):Fl n c ps (.ref x) led K:=λa' ea=>by
 obtain rfl:=Af ea;refine A9 hk λh tk m con Q' F N V q=>?_;refine BY (V _ _ hx) λo1 m1 ws ho3 ew=>?_;subst ho3;refine BQ (V _ _ hd) λo2 m2 l k ho4 e=>?_;subst ho4;unfold SA at ok;simp only[Bool.and_eq_true,decide_eq_true_eq] at ok;refine Oz ok λk1 k2 k3 k4 k5 k6=>?_;rw[← ew,List.getElem?_map] at hv;refine An (Option.map_eq_some_iff.mp hv) λv' h3 h4=>?_;refine get_slot F c.X (InstAt.of_news N m1 m2) k1 k2 k3 k4 k5 k6 ?_ (by refine AV GV (Aa h4 ?_);exact hh) (q _ _ h4);refine(?_:(((ws.map some).toArray)[i]?).join=_);refine Aa (List.getElem?_toArray) (Aa (List.getElem?_map) (Aa h3 ?_));rfl
theorem ER(p:Addr)(i:Nat)(hx:led x=some (JG C d vs))(hd:led d=some (.att []))(hi:i≤vs.length)(hk:N (put x (JG C d (SD v i vs)) led))(ok:KG (hd0.heap_1 c.w.params) C n p i=true)(hz:i<1000:=by decide):Qi n c ps (.ref x) v led N:=λa' v' ea ev=>by
 obtain rfl:=Af ea;refine Cp hx (v:=()) hk λh tk m con Q' F Nw V q=>?_;refine BY (V _ _ hx) λo1 m1 ws ho3 ew=>?_;subst ho3;refine BQ (V _ _ hd) λo2 m2 l k ho4 e=>?_;subst ho4;unfold KG at ok;simp only[Bool.and_eq_true,decide_eq_true_eq] at ok;refine GF ok λk1 k2 k3 k4 k5=>?_;refine GE F c.X Nw m1 m2 k1 k2 k3 k4 k5 hz rfl rfl λh' F' N'=>q () h' _ _ rfl ⟨SD v' i ws,?_,Ur.trans (Aa ev (Aa ew rfl))⟩ F' N';exact AV (NE (by rw[AP ew];exact hi)) rfl
theorem QY(p:Addr)(hx:led x=some (.ins C d))(hd:led d=some (.att []))(hk:N (put x (JG C d [v]) led))(ok:KG (hd0.heap_1 c.w.params) C n p 0=true):Qi n c ps (.ref x) v led N:=λa' v' ea ev=>by
 obtain rfl:=Af ea;refine Cp hx (v:=()) hk λh tk m con Q' F Nw V q=>?_;refine An (V _ _ hx) λo1 m1 ho2=>?_;subst ho2;refine BQ (V _ _ hd) λo2 m2 l k ho4 e=>?_;subst ho4;unfold KG at ok;simp only[Bool.and_eq_true,decide_eq_true_eq] at ok;refine GF ok λk1 k2 k3 k4 k5=>?_;exact GE F c.X Nw m1 m2 k1 k2 k3 k4 k5 (by decide) rfl rfl λh' F' N'=>q () h' _ _ rfl ⟨[v'],rfl,by refine List.map_cons.trans (Aa ev ?_);rfl⟩ F' N'
end
noncomputable def YN(l:Addr)(i:Nat):AO:=.pr 2 λo=>o.cls = .type "list_iterator"∧o.data = .fields #[.ref l,.int i 0]
noncomputable def TE(it:Addr)(i:Int)(old:Value):Obj:={ cls:=.type "enumerate",dict:=none,data:=.fields #[.none,.bool false,.ref it,rawInt i,.none,old],slots:=#[] }
noncomputable def ZE(it:Addr)(i:Nat):AO:=.pr 4 λo=>o=TE it i .none
theorem Lo(F:Fr h₀ L h m)(ha:h.objs.size≤a):h₀.get? a=none:=by
 cases e:h₀.get? a with
 |none=>rfl
 |some o=>exact absurd (Heap.lt_size (F.keep _ _ e)) (Nat.not_lt_of_le ha)
section
variable{K:Value→Lg→Prop}
theorem Pt(hl:led l=some (.lst vs))(hk:∀it e,led it=none→put it (YN l 0) led e=none→K (.ref e) (put e (ZE it 0) (put it (YN l 0) led))):A4 c ps (.type "enumerate") [.ref l] led K:=λf' vs' ef ev=>by
 obtain rfl:=Bj ef;refine An (Bf ev) λv1 ho1 e1=>?_;subst ho1;obtain rfl:=Af e1;intro s hs Q' q;obtain⟨h1,tk,m,con,F,N,V,I⟩:=hs;refine Ax (V.list hl) λws n hm ew=>?_;refine call_enumerate_list ⟨_,(N _ hm).1,rfl,_,rfl⟩ λh' hE hI hsz hk'=>?_;refine B7 hI λoI gI i1 i2=>?_;have lt:∀p∈con,p.1<h1.objs.size:=λp hp=>Heap.lt_size (N p hp).1;refine oA (C3 (tk:=tk) (l:=h1.objs.size+1) (o:=ZE h1.objs.size 0) (o':=TE h1.objs.size 0 .none) (F.grownK hk') (λp hp=>by
  rcases List.mem_cons.mp hp with rfl | hp
  ·exact⟨hE,Nat.ne_of_gt (Nat.lt_succ_of_lt F.ns.lt),Lo F (Nat.le_succ _)⟩
  rcases List.mem_cons.mp hp with rfl | hp
  ·exact⟨gI,Nat.ne_of_gt F.ns.lt,D4 F⟩
  ·exact⟨hk' _ _ (N p hp).1,(N p hp).2⟩) (V.new (a:=h1.objs.size) (o:=YN l 0) (o':=oI) ⟨i1,i2⟩) (I.new lt) (λp hp=>by
  rcases List.mem_cons.mp hp with rfl | hp
  ·exact Nat.lt_succ_self _
  ·exact Nat.lt_succ_of_lt (lt p hp)) rfl) λk1 k2=>?_
 exact q _ _ _ k2 (hk _ _ (V.none lt) k1)
inductive bH(c:Cf cs)(e it l:Addr)(i:Nat)(x:Value)(ps:PS)(led:Lg):Shared→Prop
 |mk (h:Heap) (tk:Nat) (m:Str→Option Value) (con:Df) (k1:IsEnum h e it i x) (k2:h.IsListIter it l i) (k3:Fr c.h₀ c.L h m) (k4:News c.h₀ c.L h con) (k5:Dq c.w led con) (k6:FP c ps m con led) (k7:∀p∈con,p.1≠e∧p.1≠it):bH c e it l i x ps led { c.s with heap:=h,toks:=tk }
inductive bG(c:Cf cs)(e it l:Addr)(n:Nat)(J:Nat→PS→Lg→Prop):Nat→Shared→Prop
 |mk (s:Shared) (i:Nat) (x:Value) (ps:PS) (led:Lg) (b:bH c e it l i x ps led s) (hJ:J i ps led) (hi:i≤n):bG c e it l n J (n+1-i) s
theorem MA(hr:c.rd=none)(hv:led l=some (.lst vs))(he:led2 e=some (ZE it 0))(hi:led2 it=some (YN l 0))(ex:Am led led2)(ne:led e=none)(ni:led it=none)(J:Nat→PS→Lg→Prop)(hJ:J 0 ps led)(hk:∀i ps l',J i ps l'→l' l=some (.lst vs))(turn:∀c':Cf cs,c'.env=c.env→DD c c'→∀i v ps' led' T,i<vs.length→vs[i]?=some v→J i ps' led'→led' T=none→Jg c' X (.Tuple elts kk pos) body N (J (i+1)) (.ref T) ps' (put T (.tup [.int i 0,v]) led'))(done:∀ps' led',J vs.length ps' led'→N ps' led'):BS c X ps (.Tuple elts kk pos) body (.ref e) led2 N:=by
 intro v' ev s hs Q' q;obtain rfl:=Af ev;refine CT λGG up=>?_;obtain⟨h,tk,m,con,F,Nw,C,I₀⟩:=hs;refine An (C _ _ he) λo1 m1 ho2=>?_;subst ho2;refine B7 (C _ _ hi) λoI m2 i1 i2=>?_;refine up ?_;have hei:e≠it:=λx=>by rw[x,hi] at he;cases he
 refine wpAny_pyIter_enum (it:=it) (i:=0) (old:=.none) (Nw _ m1).1 ?_;have sub:∀a,led2 a=none→led a=none:=λa h=>Ak ex h;have nem:∀a o,led a=some o→a≠e∧a≠it:=λa o h=>⟨λx=>(by rw[x,ne] at h;contradiction),λx=>(by rw[x,ni] at h;contradiction)⟩
 have C':Dq c.w led (off it (off e con)):=λa o h=>by
  refine An (C a o (ex a o h)) λo' k1 k2=>?_;exact⟨o',AS (AS k1 (nem a o h).1) (nem a o h).2,k2⟩
 have I':FP c ps m (off it (off e con)) led:=I₀.step (λz hz hl=>AS (AS hz λx=>by rw[x,he] at hl;contradiction) λx=>by rw[x,hi] at hl;contradiction) λz hz hl=>sub _ hl;refine Cg (Nw _ m1) λge eL eh=>?_;refine Cg (Nw _ m2) λgi iL ih=>?_;refine DZ (bG c e it l vs.length J) ?_ (vs.length+1) ⟨_,0,.none,ps,led,⟨h,tk,m,_,ge,⟨oI,gi,i1,i2⟩,F,λp hp=>Nw p (AM p (AM p hp)),C',I',λp hp=>⟨AW p (AM p hp),AW p hp⟩⟩,hJ,Nat.zero_le _⟩;clear hJ I' C' nem sub gi ge I₀ m1 m2 C Nw F he hi ne ni ex hv i1 i2;rintro _ _ ⟨_,i,old,ps,led,⟨h,tk,m,con,hE,hI,F,Nw,C,I₀,hn⟩,hJ,hi⟩;have next:∀h₁:Heap,(∀b o,b≠e→b≠it→h.get? b=some o→h₁.get? b=some o)→Fr c.h₀ c.L h₁ m∧News c.h₀ c.L h₁ con:=λh₁ hk₁=>
  ⟨⟨F.ns.at' λo x=>hk₁ _ o (Ne.symm eL) (Ne.symm iL) x,λb o x=>hk₁ b o (λhb=>by rw[hb,eh] at x;contradiction) (λhb=>by rw[hb,ih] at x;contradiction) (F.keep b o x),F.above⟩,λp hp=>⟨hk₁ _ _ (hn p hp).1 (hn p hp).2 (Nw p hp).1,(Nw p hp).2⟩⟩
 have hle:led e=none:=by
  cases x:led e with
  |none=>rfl
  |some o=>
   refine An (C _ _ x) λo' h1 z_=>?_;exact absurd rfl (hn _ h1).1
 have hli:led it=none:=by
  cases x:led it with
  |none=>rfl
  |some o=>
   refine An (C _ _ x) λo' h1 z_=>?_;exact absurd rfl (hn _ h1).2
 refine Ax (C.list (hk _ _ _ hJ)) λws n hm ew=>?_;have hls:h.IsList l ws.toArray:=⟨_,(Nw _ hm).1,rfl,_,rfl⟩;by_cases hin:i<vs.length
 ·have hx3:vs[i]?=some vs[i]:=List.getElem?_eq_getElem hin;have hx4:(ws.map er)[i]?=some vs[i]:=by refine Aa ew ?_;exact hx3
  rw[List.getElem?_map] at hx4;refine An (Option.map_eq_some_iff.mp hx4) λx hx z_=>?_;clear hx3 hx4;have hx2:vs[i]?=some (er x):=by refine AV ew (Aa (List.getElem?_map) (Aa hx ?_));rfl
  refine wpAny_pyNext_enum_item hE hI hls (by refine Aa (List.getElem?_toArray) ?_;exact hx) hei λh₁ hO hI₁ hT hsz hk₁=>?_;refine wpAny_letOwnedTupleGo_enum hO λh₂ hE₂ hs₂=>?_;refine CT λGG up=>?_;have lt:∀p∈con,p.1<h.objs.size:=λp hp=>Heap.lt_size (Nw p hp).1;have eT:e≠h.objs.size:=Nat.ne_of_lt (Heap.lt_size hE);have iT:it≠h.objs.size:=Nat.ne_of_lt (by refine An hI λo g z_=>?_;exact Heap.lt_size g);refine oA (next h₂ (λb o b1 b2 x=>(hs₂.2 b b1).trans (hk₁ b o b1 b2 x))) λF₂ N₂=>?_;refine B7 hI₁ λoJ gJ j1 j2=>?_;refine up ?_;have P₂:=(I₀.new (o:=.tup [.int i 0,er x]) (o':={ cls:=.type "tuple",data:=.seq #[.int i tk,x] }) lt).on (I:=it) (o:=oJ) hr (λp hp=>by
   rcases List.mem_cons.mp hp with rfl | hp
   ·exact iT.symm
   ·exact(hn p hp).2) (A0 hli iT)
  have hr2:(c.wi it oJ).rd=none:=hr;have P₃:=P₂.on (I:=e) (o:=TE it (i+1) x) hr2 (λp hp=>by
   rcases List.mem_cons.mp hp with rfl | hp
   ·exact hei.symm
   rcases List.mem_cons.mp hp with rfl | hp
   ·exact eT.symm
   ·exact(hn p hp).1) (A0 hle eT)
  have A₁:At ((c.wi it oJ).wi e (TE it (i+1) x)) ps (put h.objs.size (.tup [.int i 0,er x]) led) { c.s with heap:=h₂,toks:=tk+1 }:=⟨h₂,tk+1,m,_,F₂,λp hp=>by
   rcases List.mem_cons.mp hp with rfl | hp
   ·exact⟨hE₂,eL,eh⟩
   rcases List.mem_cons.mp hp with rfl | hp
   ·exact⟨((hs₂.2 it hei.symm).trans gJ),iL,ih⟩
   rcases List.mem_cons.mp hp with rfl | hp
   ·exact⟨((hs₂.2 _ eT.symm).trans hT),Nat.ne_of_gt F.ns.lt,D4 F⟩
   ·exact N₂ p hp,λa o y=>(An ((C.new (a:=h.objs.size) (o:=.tup [.int i 0,er x]) (o':={ cls:=.type "tuple",data:=.seq #[.int i tk,x] }) ⟨[.int i tk,x],0,rfl,rfl⟩) a o y) λo1 h1 h2=>⟨o1,.tail _ (.tail _ h1),h2⟩),P₃⟩
  refine wpAny_mono (wpAny_passesOwn (c.hE hr) (turn ((c.wi it oJ).wi e (TE it (i+1) x)) rfl ⟨rfl,rfl,rfl⟩ i _ ps led _ hin hx2 hJ (C.none lt) _ rfl _ A₁ (λz_ s'=>wpAny (model PW c.w) c.A (execs body c.env) (λf s₄=>C4 ((c.wi it oJ).wi e (TE it (i+1) x)) (GR X N (J (i+1))) (J (i+1)) f s₄) c.E s') λs3 ps3 led3 h3 k3=>k3 s3 h3 _ λf s4 hf=>hf)) (λz_ s₃ h₃=>?_) λz_ z_ e=>e
  ·refine wpAny_mono (wpAny_passesOwn (c.hE hr) h₃) (λf s₄ h₄=>?_) λz_ z_ e=>e;have hne2:∀z∈(c.wi it oJ).its,z.1≠e:=λz hz=>by
    rcases List.mem_cons.mp hz with rfl | hz
    ·exact hei.symm
    ·exact(hn z (I₀.its z hz).1).1
   have back:∀{ps3 led3 s},At ((c.wi it oJ).wi e (TE it (i+1) x)) ps3 led3 s→bH c e it l (i+1) x ps3 led3 s:=by
    rintro ps3 led3 s ⟨h,tk,m,con,F,N,C,G⟩;refine Cg (G.its (e,_) (.head _)) λk1 k2 z_=>?_;refine Cg (G.its (it,_) (.tail _ (.head _))) λk3 k4 z_=>?_;exact⟨h,tk,m,off it (off e con),(N _ k1).1,⟨oJ,(N _ k3).1,j1,j2⟩,F,λp hp=>N p (AM p (AM p hp)),Dp (Dp C k2) k4,(G.off hr2 hne2).off hr (λz hz=>(hn z (I₀.its z hz).1).2),λp hp=>⟨AW p (AM p hp),AW p hp⟩⟩
   have fin:(∃ps3 led3,At ((c.wi it oJ).wi e (TE it (i+1) x)) ps3 led3 s₄∧J (i+1) ps3 led3) →
     ∃m,m<vs.length+1-i∧bG c e it l vs.length J m s₄:=by
    rintro ⟨ps3,led3,h3,j3⟩;exact⟨vs.length+1-(i+1),I5 hin,_,i+1,x,ps3,led3,back h3,j3,hin⟩
   cases f with
   |ret v=>
    refine Ax h₄ λps3 led3 h3 j3=>?_;obtain⟨h,tk,m,con,k1,k2,k3,k4,k5,k6,k7⟩:=back h3;exact q (.ret v) _ ⟨ps3,led3,⟨h,tk,m,_,k3,k4,k5,k6⟩,j3⟩
   |brk=>
    refine Ax h₄ λps3 led3 h3 j3=>?_;obtain⟨h,tk,m,con,k1,k2,k3,k4,k5,k6,k7⟩:=back h3;exact q .next _ ⟨ps3,led3,⟨h,tk,m,_,k3,k4,k5,k6⟩,j3⟩
   |cont=>exact fin h₄
   |next=>exact fin h₄
 ·have hin:i=vs.length:=KS hi hin;subst hin;refine wpAny_pyNext_enum_end rfl hE hI hls (by rw[List.getElem?_toArray,List.getElem?_eq_none];rw[AP ew];exact Nat.le_refl _) λh₁ hk₁=>wpAny_execs_nil ?_;refine oA (next h₁ λb o z_ b2 x=>hk₁ b o b2 x) λF₁ N₁=>?_;exact q .next _ ⟨ps,led,⟨h₁,tk,m,con,F₁,N₁,C,I₀⟩,done _ _ hJ⟩
end
section
variable{K:Value→Lg→Prop}
theorem Hl(hk:∀l,led l=none→K (.ref l) (put l (.set (λz_=>false) 0) led)):A4 c ps (.type "set") [] led K:=λf' vs' ef ev=>by
 obtain rfl:=Bj ef
 cases vs' with
 |cons v r=>contradiction
 |nil=>exact Cz hk λh tk m con Q' F N V q=>kse_new F N λD h' l F' N' lt z_ d=>q D h' tk _ d F' N' lt
theorem NI(hv:led D=some (.set S n))(hr:S k=r)(hk:K (.bool r) led)(hz:n<1000):Ky .In c ps (.str k 0) (.ref D) led K:=λa' b' ea eb=>by
 obtain rfl:=Af eb;refine oE (AB ea) λt ho1=>?_;subst ho1;refine A9 hk λh tk m con Q' F N V q=>?_;refine An (V _ _ hv) λo hm hd=>?_;exact QB N hm hd hz hr (q _ _ rfl)
theorem Q8{K:Value×List Value→Lg→Prop}(hv:led D=some (.set S n))(hk:K (.builtin "set.add",[.ref D]) led)(hz:n<1000):Gp "add" c ps (.ref D) led K:=λa' pl ea=>by
 obtain rfl:=Af ea;refine A9 hk λh tk m con Q' F N V q=>?_;refine An (V _ _ hv) λo hm hd=>?_;exact LZ N hm hd hz (q _ _ rfl)
theorem Q9(hv:led D=some (.set S n))(hk:K .none (put D (.set (λk'=>S k'||decide (k'=k)) (if S k then n else n+1)) led))(hz:n<1000):A4 c ps (.builtin "set.add") [.ref D,.str k 0] led K:=λf' vs' ef ev=>by
 obtain rfl:=Aq ef;refine A3 (Cw ev) λv1 v2 ho2 e1 e2=>?_;subst ho2;obtain rfl:=Af e1;refine oE (AB e2) λt ho1=>?_;subst ho1;refine Cp hv hk λh tk m con Q' F N V q=>?_;refine An (V _ _ hv) λo hm hd=>?_;exact NJ F N hm hd hz λh' so' F' N' d'=>q _ h' _ so' rfl d' F' N'
theorem NF(hv:led D=some (.dct kvs))(lo:(D==sysModules)=false)(hx:valueAt kvs k=some v)(hk:K v led)(hz:kvs.length≤10000):A4 c ps (.builtin "dict.setdefault") [.ref D,.str k 0,d] led K:=λf' vs' ef ev=>by
 obtain rfl:=Aq ef;refine Dj (IM ev) λv1 v2 v3 ho3 e1 e2 e3=>?_;subst ho3;obtain rfl:=Af e1;refine oE (AB e2) λt ho1=>?_;subst ho1;refine A9 hk λh tk m con Q' F N V q=>?_;refine BY (V _ _ hv) λo hm l hd e=>?_;rw[← e,Bv] at hx;refine An (Option.map_eq_some_iff.mp hx) λu' h1 h2=>?_;exact Jz N hm hd lo h1 (by rw[← e,List.length_map] at hz;exact hz) (q _ _ h2)
theorem NH(hv:led D=some (.dct kvs))(lo:(D==sysModules)=false)(hx:valueAt kvs k=none)(hk:K d (put D (.dct (stored kvs k d)) led))(hz:kvs.length≤10000):A4 c ps (.builtin "dict.setdefault") [.ref D,.str k 0,d] led K:=λf' vs' ef ev=>by
 obtain rfl:=Aq ef;refine Dj (IM ev) λv1 v2 v3 ho3 e1 e2 e3=>?_;subst ho3;obtain rfl:=Af e1;refine oE (AB e2) λt ho1=>?_;subst ho1;refine Cp hv hk λh tk m con Q' F N V q=>?_;refine BY (V _ _ hv) λo hm l hd e=>?_;rw[← e,Bv,Option.map_eq_none_iff] at hx;exact NG F N hm hd lo hx (by rw[← e,List.length_map] at hz;exact hz) λh' o' F' N' d'=>q _ h' _ o' e3 ⟨_,d',EL.trans (Aa e (Aa e3 rfl))⟩ F' N'
theorem YH(m n:Nat)(ns:List Str)(vals:σ→List Value)(Inv:Nat→σ→Lg→Prop)(tn:List Str)(hr:c.rd=none)(hv:led l=some (.lst vs))(he:led2 e=some (ZE it 0))(hi:led2 it=some (YN l 0))(ex:Am led led2)(ne:led e=none)(ni:led it=none)(x₀:σ)(h0:Inv 0 x₀ led)(hps:BR ps ns=(vals x₀).map some)(hk:∀i x l',Inv i x l'→l' l=some (.lst vs))(hn:C6 elts=some tn)(turn:∀c':Cf cs,DD c c'→c'.rd=none→∀i v x led' T,i<vs.length→vs[i]?=some v→Inv i x led'→led' T=none→∀(Y:Ex) (M:PS→Lg→Prop),(∀u l,X.ret u l→Y.ret u l)→(∀p l,Wk N p l→Y.brk p l)→(∀p l,LJ ns vals Inv (i+1) p l→Y.cont p l)→(∀p l,LJ ns vals Inv (i+1) p l→M p l) →
   HS n m c' Y body (SJ tn [.int i 0,v] (ns.zip (vals x))) (put T (.tup [.int i 0,v]) led') M)(done:∀x led',Inv vs.length x led'→N (ns.zip (vals x)) led')(hl:tn.length=2:=by rfl)(hs:tn.all (Ft cs)=true:=by rfl):BS c X ps (.Tuple elts kk pos) body (.ref e) led2 N:=
 BS.weak (MA hr hv he hi ex ne ni (LJ ns vals Inv) ⟨x₀,h0,hps⟩ (λi z_ l hX=>An hX λx h z_=>hk i x l h) (λc' z_ l i v ps' led' T h1 h2 hX h5=>An hX λx h3 h4=>
  Dt.weak (Bb h4) (EF tn (l.rd.trans hr) Ac hn (by refine Aa hl ?_;rfl) (Du (l.rd.trans hr) n m (turn c' l (l.rd.trans hr) i v x led' T h1 h2 h3 h5 (GR X (Wk N) (LJ ns vals Inv (i+1))) (LJ ns vals Inv (i+1)) (λz_ z_ k=>k) (λz_ z_ k=>k) (λz_ z_ k=>k) (λz_ z_ k=>k))) hs)) λps' led' hX=>An hX λx h1 h2=>⟨_,Bb h2,done x led' h1⟩)
end
section
variable{K:Value→Lg→Prop}
theorem At.weakL(h:At c ps led' s)(e:Am led led'):At c ps led s:=by
 obtain⟨h,tk,m,con,F,N,C,I⟩:=h;exact⟨h,tk,m,con,F,N,λa o q=>C a o (e a o q),I.vars,λx a q=>(oA (I.cells x a q) λh1 h2=>⟨Ak e h1,h2⟩),λq hq=>(Cg (I.its q hq) λh1 h2 h3=>⟨h1,Ak e h2,h3⟩),I.fm⟩
noncomputable def Z0(r:Value)(led:Lg)(v:Value)(l:Lg):Prop:=v=r∧Am led l
theorem EB(k:K r led)(h:A4 c ps f vs led (Z0 r led)):A4 c ps f vs led K:=λf' vs' ef ev s hs Q' q=>h f' vs' ef ev s hs Q' λz_ s' z_ ha hk=>q _ s' led (ha.weakL hk.2) (hk.1▸k)
theorem PJ(hk:K (.type "str") led):A4 c ps (.type "type") [.str x 0] led K:=λf' vs' ef ev=>by
 obtain rfl:=Bj ef;refine An (Bf ev) λv1 ho1 e1=>?_;subst ho1;refine oE (AB e1) λt ho1=>?_;subst ho1;exact A8 _ hk λq=>call_type_of (typeIs_str ..) (by decide) (q _ _ rfl)
theorem MZ(hD:led D=some (.tup [.type "str",.type "bytes"]))(hk:K (.bool true) led):A4 c ps (.builtin "issubclass") [.type "str",.ref D] led K:=λf' vs' ef ev=>by
 obtain rfl:=Aq ef;refine A3 (Cw ev) λv1 v2 ho2 e1 e2=>?_;subst ho2;obtain rfl:=Bj e1;obtain rfl:=Af e2;refine A9 hk λh tk m con Q' F N C q=>?_;refine Ax (C.tuple hD) λws n hm e=>?_;refine A3 (Cw e) λw1 w2 ho2 e3 e4=>?_;subst ho2;obtain rfl:=Bj e3;obtain rfl:=Bj e4;exact MF (N _ hm).1 (q _ _ rfl)
theorem HJ(hk:K (.bool r) led)(h:∀{w:World} {A:Around} {E} {s:Shared} {Q':Value→Shared→Prop} v',er v'=v→(∀k,Q' (.bool r) { s with toks:=k })→wpAny (model PW w) A (call (.builtin "isinstance") [v',.type T]) Q' E s):A4 c ps (.builtin "isinstance") [v,.type T] led K:=λf' vs' ef ev=>by
 obtain rfl:=Aq ef;refine A3 (Cw ev) λv1 v2 ho2 e1 e2=>?_;subst ho2;obtain rfl:=Bj e2;exact A8 _ hk λq=>h v1 e1 λk=>q _ k rfl
theorem JS(hk:K (.bool false) led):A4 c ps (.builtin "isinstance") [.str x 0,.type "bytes"] led K:=HJ hk λv e q=>by
 refine oE (AB e) λt ho1=>?_;subst ho1;exact IsiPair.str_bytes (q _)
theorem Ph(hk:K (.bool false) led):A4 c ps (.builtin "isinstance") [.str x 0,.type "int"] led K:=HJ hk λv e q=>by
 refine oE (AB e) λt ho1=>?_;subst ho1;exact IsiPair.str_int (q _)
theorem Pi(hk:K (.bool true) led):A4 c ps (.builtin "isinstance") [.int k 0,.type "int"] led K:=HJ hk λv e q=>by
 refine oE (AQ e) λt ho1=>?_;subst ho1;exact IsiPair.int_int (q _)
theorem DL{n:Str}{id:String}{K:Value×List Value→Lg→Prop}(sl:Slot "str" n id)(hy:typeOf (.builtin id)=pure (.type "method_descriptor"))(hk:K (.builtin id,[.str x 0]) led):Gp n c ps (.str x 0) led K:=λa' pl ea=>by
 refine oE (AB ea) λt ho1=>?_;subst ho1;exact A9 hk λh tk m con Q' F N C q=>GM.of _ (typeIs_str ..) sl hy GM.noRef (q _ _ rfl)
theorem HH{id:String}{r:Value}(hk:K r led)(h:∀{w:World} {A:Around} {E} {s:Shared} {Q':Value→Shared→Prop} t u,(∀r' k,er r'=r→Q' r' { s with toks:=k })→wpAny (model PW w) A (call (.builtin id) [.str x t,.str y u]) Q' E s):A4 c ps (.builtin id) [.str x 0,.str y 0] led K:=λf' vs' ef ev=>by
 obtain rfl:=Aq ef;refine A3 (Cw ev) λv1 v2 ho2 e1 e2=>?_;subst ho2;refine oE (AB e1) λt ho1=>?_;subst ho1;refine oE (AB e2) λu ho1=>?_;subst ho1;exact A8 _ hk λq=>h t u q
theorem Km(hk:K (.bool (Txt.startswith x y)) led):A4 c ps (.builtin "str.startswith") [.str x 0,.str y 0] led K:=HH hk λz_ z_ q=>SC.startswith (q _ _ rfl)
theorem PP(hk:K (.bool (Txt.endswith x y)) led):A4 c ps (.builtin "str.endswith") [.str x 0,.str y 0] led K:=HH hk λz_ z_ q=>SC.endswith (q _ _ rfl)
theorem MY(hk:K (.int (Txt.rfind x y) 0) led):A4 c ps (.builtin "str.rfind") [.str x 0,.str y 0] led K:=HH hk λz_ z_ q=>KXw.rfind rfl λz_ z_=>q _ _ rfl
theorem Ko(hk:K (.str (Txt.rstripChars x y) 0) led)(hz:x.length≤1000000):A4 c ps (.builtin "str.rstrip") [.str x 0,.str y 0] led K:=HH hk λz_ z_ q=>KXw.rstripChars rfl (Nat.le_trans hz (by decide)) λz_ z_=>q _ _ rfl
theorem Dh(hk:K (.str (x++y) 0) led)(hx:x.length≤1000000)(hy:y.length≤1000000):Jo .Add c ps (.str x 0) (.str y 0) led K:=λa' b' ea eb=>by
 refine oE (AB ea) λt ho1=>?_;subst ho1;refine oE (AB eb) λu ho1=>?_;subst ho1;exact A8 _ hk λq=>add_str (λz_ z_=>q _ _ rfl) (Nat.le_trans (Nat.add_le_add hx hy) (by decide))
theorem HW(hk:K (.str (x++y) 0) led)(hx:x.length≤1000000)(hy:y.length≤1000000):Nl .Add c ps (.str x 0) (.str y 0) led K:=λa' b' ea eb=>by
 refine oE (AB ea) λt ho1=>?_;subst ho1;refine oE (AB eb) λu ho1=>?_;subst ho1;exact A8 _ hk λq=>PyProof.Rows.iadd_str (λz_ z_=>q _ _ rfl) (Nat.le_trans (Nat.add_le_add hx hy) (by decide))
theorem len_str(hk:K (.int x.length 0) led)(hx:x.length≤1000000):A4 c ps (.builtin "len") [.str x 0] led K:=λf' vs' ef ev=>by
 obtain rfl:=Aq ef;refine An (Bf ev) λv1 ho1 e1=>?_;subst ho1;refine oE (AB e1) λt ho1=>?_;subst ho1;exact A8 _ hk λq=>PySem.P.len_str (by lia) (q _ _ rfl)
theorem EK{K:Bool→Lg→Prop}(hk:K ((x.length:Int) != 0) led)(hz:x.length≤1000000):Qg c ps (.str x 0) led K:=λa' ea=>by
 refine oE (AB ea) λt ho1=>?_;subst ho1;exact A9 hk λh tk m con Q' F N V q=>PySem.P.truthy_str (by lia) (q _ _ rfl)
noncomputable def UA:Option Expr→Vc→Lg→(Option Int→Lg→Prop)→Prop
 |none,_,l,K=>K none l
 |some e,v,l,K=>v.e e l λu l1=>∃i,u = .int i 0∧K (some i) l1
theorem Im{v:Vc}(S:Nr c ps v){o:Option Expr}{l:Lg}{K:Option Int→Lg→Prop}(h:UA o v l K){s:Shared}(hs:At c ps l s){Q:Value→Shared→Prop}(q:∀u s' l' i,At c ps l' s'→IsPart u i→K i l'→Q u s'):wpAny (model PW c.w) c.A (evalPart o c.env) Q c.E s:=by
 cases o with
 |none=>exact wpAny_pure (q _ _ _ none hs .none h)
 |some e=>
  refine(S.e _ _ _ h).wp hs λu s1 l1 h1 k1=>?_;refine An k1 λi e1 k2=>?_;refine oE (AQ e1) λt ho1=>?_;subst ho1;exact q _ _ _ (some i) h1 (.int _ _) k2
theorem Ef(n:Nat){v:Expr}{lo hi:Option Expr}{p p2:Pos}(h:(Ci n c ps).e v led λa l1=>UA lo (Ci n c ps) l1 λi l2=>UA hi (Ci n c ps) l2 λj l3=>∃x,a = .str x 0∧x.length≤1000000∧K (.str (Txt.slice x i j) 0) l3):Gq (.Subscript v (.Slice lo hi none p2) p) c ps led K:=by
 refine⟨λs hs Q' q=>PyProof.Rows.Subscript_ (((A6 n).e _ _ _ h).wp hs λa s1 l1 h1 k1=>wpAny_Slice (Im (A6 n) k1 h1 λu s2 l2 i h2 pu k2=>Im (A6 n) k2 h2 λw s3 l3 j h3 pw k3=>?_))⟩;refine B7 k3 λx e1 hz k4=>?_;refine oE (AB e1) λt ho1=>?_;subst ho1;refine C0 h3.read λm con F Nw C back=>?_;have go:∀h' t' k,Fr c.h₀ c.L h' m→News c.h₀ c.L h' con→Q' (.str (Txt.slice x i j) t') { s3 with heap:=h',toks:=k }:=λh' t' k F' N'=>q _ _ _ (back h' k F' N') k4;have z:x.length≤sizeLine:=Nat.le_trans hz (by decide);have ht:∀r,letTemporaryGo v (.str x t) r=pure ():=λr=>by cases v<;>rfl
 refine wpAny_pure ?_;cases pu<;>cases pw
 ·exact slice_strN_nn F Nw go rfl ht z
 ·exact slice_strN_ns F Nw go rfl ht z
 ·exact slice_strN_sn F Nw go rfl ht z
 ·exact slice_strN_ss F Nw go rfl ht z
end
theorem Zo:∀(l:List (Str×NameKind)) (n:Nat) (acc:List (Str×Addr)) (b:Nat),b≤n→(∀p∈acc,b≤p.2)→∀p∈cellsFrom n l acc,b≤p.2:=by
 intro r
 induction r with
 |nil=>exact λ_ _ _ _ h=>h
 |cons hd_ r ih=>
  obtain⟨x,k⟩:=hd_;intro n acc b hn h;unfold cellsFrom;split
  ·exact ih _ _ b (Nat.le_succ_of_le hn) λp hp=>by
    rcases List.mem_cons.mp hp with rfl | hp
    ·exact hn
    ·exact h p hp
  ·exact ih _ _ b hn h
theorem TF:∀(l:List (Str×NameKind)) (n:Nat) (acc:List (Str×Addr)),(∀p∈acc,@LT.lt Nat _ p.2 n)→(acc.map (·.2)).Nodup→((cellsFrom n l acc).map (·.2)).Nodup:=by
 intro r
 induction r with
 |nil=>exact λ_ _ _ h=>h
 |cons hd_ r ih=>
  obtain⟨x,k⟩:=hd_;intro n acc hn h;unfold cellsFrom;split
  ·refine ih _ _ (λp hp=>?_) ?_
   ·rcases List.mem_cons.mp hp with rfl | hp
    ·exact Nat.lt_succ_self _
    ·exact Nat.lt_succ_of_lt (hn p hp)
   ·rw[List.map_cons,List.nodup_cons];refine⟨λq=>?_,h⟩;refine An (List.mem_map.mp q) λp hp e=>?_;exact Nat.ne_of_lt (hn p hp) e
  ·exact ih _ _ hn h
theorem Kk:∀(l:List (Str×NameKind)) (n:Nat) (acc:List (Str×Addr)) (x:Str),((x,.cell)∈l∨x∈acc.map (·.1))→x∈(cellsFrom n l acc).map (·.1):=by
 intro r
 induction r with
 |nil=>exact λ_ _ _ h=>h.resolve_left λh=>by contradiction
 |cons hd_ r ih=>
  obtain⟨y,k⟩:=hd_;intro n acc x h;unfold cellsFrom;split
  ·refine ih _ _ x ?_;rcases h with h | h
   ·rcases List.mem_cons.mp h with h | h
    ·refine oA (Prod.mk.inj h) λho0 ho1=>?_;subst ho0;subst ho1;exact .inr (.head _)
    ·exact .inl h
   ·exact .inr (.tail _ h)
  ·rename_i hk;refine ih _ _ x ?_;rcases h with h | h
   ·rcases List.mem_cons.mp h with h | h
    ·obtain⟨rfl,rfl⟩:=Prod.mk.inj h;exact absurd rfl hk
    ·exact .inl h
   ·exact .inr h
theorem Cs{α:Type}{x:Str}:∀{l:List (Str×α)},x∈l.map (·.1)→∃a,l.lookup x=some a:=by
 intro r
 induction r with
 |nil=>
  intro h;contradiction
 |cons hd_ r ih=>
  obtain⟨y,a⟩:=hd_;intro h;rw[List.lookup_cons]
  cases e:x==y with
  |true=>exact⟨a,rfl⟩
  |false=>
   rcases List.mem_cons.mp h with h | h
   ·rw[h,beq_self_eq_true] at e;contradiction
   ·exact ih h
theorem GH{α:Type}{l:List (α×Addr)}{x y:α}{a:Addr}(hn:(l.map (·.2)).Nodup)(hx:(x,a)∈l)(hy:(y,a)∈l):x=y:=by
 induction l with
 |nil=>exact absurd hx List.not_mem_nil
 |cons q r ih=>
  replace hn:=List.nodup_cons.mp hn;rcases List.mem_cons.mp hx with e1 | h1<;>rcases List.mem_cons.mp hy with e2 | h2
  ·exact(Prod.mk.inj (e1.trans e2.symm)).1
  ·exact absurd (List.mem_map_of_mem (f:=(·.2)) h2) (by subst e1;exact hn.1)
  ·exact absurd (List.mem_map_of_mem (f:=(·.2)) h1) (by subst e2;exact hn.1)
  ·exact ih hn.2 h1 h2
theorem IY:∀{b:PS} {m:Str→Option Value},bindL k b m x=(if k x=some .local then b.reverse.lookup x else none).or (m x):=by
 intro r
 induction r with
 |nil=>
  intro m;simp[bindL]
 |cons hd_ r ih=>
  obtain⟨n,v⟩:=hd_;intro m;rw[bindL,ih,List.reverse_cons,List.lookup_append];by_cases hx:k x=some .local
  ·rw[if_pos hx,if_pos hx,Option.or_assoc];congr 1;rw[List.lookup_cons];by_cases e:x=n
   ·subst e;rw[if_pos hx,beq_self_eq_true];simp
   ·rw[(by simpa using e:(x==n)=false)];split<;>simp[e]
  ·rw[if_neg hx,if_neg hx];split
   ·rename_i hn;have e:x≠n:=λe=>hx (e▸hn);simp[e]
   ·rfl
theorem IZ:∀{b:PS} {m:Str→Option Value},bindC k b m x=(if k x=some .local then none else b.reverse.lookup x).or (m x):=by
 intro r
 induction r with
 |nil=>
  intro m;simp[bindC]
 |cons hd_ r ih=>
  obtain⟨n,v⟩:=hd_;intro m;rw[bindC,ih,List.reverse_cons,List.lookup_append];by_cases hx:k x=some .local
  ·rw[if_pos hx,if_pos hx];split
   ·rfl
   ·rename_i hn;have e:x≠n:=λe=>hn (e▸hx);simp[e]
  ·rw[if_neg hx,if_neg hx,Option.or_assoc];congr 1;refine Aa List.lookup_cons ?_;by_cases e:x=n
   ·subst e;refine Aa (if_neg hx) (Aa (beq_self_eq_true ..) ?_);simp
   ·refine Aa (by simpa using e:(x==n)=false) ?_;split<;>simp[e]
theorem EA{cm:Str→Option Value}{x:Str}{a:Addr}{l:List (Str×Addr)}{cells:Df}(C:CellsAre cm l cells)(h:(x,a)∈l):∃o,(a,o)∈cells∧o.data = .cell (cm x):=by
 induction C with
 |nil=>contradiction
 |cons hd _ ih=>
  rcases List.mem_cons.mp h with e | h
  ·refine oA (Prod.mk.inj e) λho0 ho1=>?_;subst ho0;subst ho1;exact⟨_,.head _,hd⟩
  ·refine An (ih h) λo h1 h2=>?_;exact⟨o,.tail _ h1,h2⟩
section
variable{c:Cf cs}{K:Value→Lg→Prop}
theorem Ls{name qual:Str}{params:Arguments}{body:List Stmt}{scope:Scope}{dV kV doc pm cdv ct oc:Value}{an od:Option Addr}{osl:Array (Option Value)}{f:Addr}{vs:List Value}(ns:List Str)(ho:(hd0.heap_1 c.w.params).lookup f=some ⟨oc,od,.func (fnOf name qual params body scope dV kV doc pm an cdv ct),osl⟩)(hcd:codeIn (hd0.heap_1 c.w.params) cdv qual=true)(hb:∀(s:Shared) (vs':List Value),(hd0.heap_1 c.w.params).In s.heap→vs'.length=vs.length→BindsTo s (fnOf name qual params body scope dV kV doc pm an cdv ct) ⟨vs',[]⟩ (ns.zip vs'))(hl:ns.all (Ft scope)=true)(hnd:((cellsFrom 0 scope.names []).map (·.1)).Nodup)(hco:scope.isCoroutine=false)(hgen:scope.isGenerator=false)(hk:scope.kind = .function)(room:c.dp<recursionLimit)(h:∀c':Cf scope,c'.dp=c.dp+1→c'.un=c.un+3→c'.rd=none→AE c' (Hp K) (ns.zip vs).reverse (execs body c'.env) led λz_ l=>K .none l):A4 c ps (.ref f) vs led K:=by
 refine Ed.r ?_;intro f' vs' ef ev s hs R q;obtain rfl:=Af ef;obtain⟨h0,tk,m,con,F,N,C,I⟩:=hs;have hkd:∀y∈ns.zip vs',scope.names.lookup y.1=some .local∨scope.names.lookup y.1=some .cell:=λy hy=>by
  have:=List.all_eq_true.mp hl y.1 (List.of_mem_zip hy).1;unfold Ft at this;split at this
  ·exact .inl (by assumption)
  ·exact .inr (by assumption)
  ·contradiction
 have hhas:∀(n:Nat) x,scope.names.lookup x=some .cell→∃a,(cellsFrom n scope.names []).lookup x=some a:=λn x hx=>Cs (Kk _ n [] x (.inl (As hx)));refine callX_cells c.B F N c.T.nolimit rfl rfl c.hk₀ (F.keep _ _ (c.X _ _ ho)) rfl (codeRec_of (c.X.keeps F.keep) hcd) room (hb _ vs' (c.X.keeps F.keep) (AV ev (Aa (List.length_map ..) rfl)))
  (λn y hy=>(hkd y hy).imp id λe=>⟨e,(oE (hhas n _ e) λa ha=>by refine Aa ha ?_;rfl)⟩) hnd (λg L' h₁ tk₁ cells FG F' N' Y B' st lt=>?_) hco hgen hk
 let cl:=cellsFrom (L'+1) scope.names []
 let env':=envX qual scope L' f cdv cl
 have ge:∀p∈cl,L'+1≤p.2:=Zo _ _ [] _ (Nat.le_refl _) (λz_ h=>by contradiction)
 let c':Cf scope:={
  w:=c.w,dp:=c.dp+1,un:=c.un+3,gd:=c.gd,cn:=qual,cs₀:=scope,L:=L',a:=f,ccd:=cdv,cl:=cl,outer:=envX c.cn c.cs₀ c.L c.a c.ccd c.cl::c.outer
  A₀:=c.A,base:=c.base,h₀:=g,p:=c.p,loose:=c.loose,mean:=c.mean,mg:=c.mg,mb:=c.mb,s:=c.s,fm:=λz_=>none,its:=con.filter λq=>(led q.1).isNone
  E:=λe s'=>wpAny (model PW c.w) (c.A.deeper env') (leaving env' e) (λz_ s''=>R (.error e) s'') (λe' s''=>R (.error e') s'') s'
  env:=env',rd:=none,B:=B',X:=(c.X.keeps st),T:=(c.T.keeps st),hk₀:=hk,hk:=hk,es:=rfl,eg:=rfl,eb:=rfl,own:=λz_=>⟨rfl,rfl⟩,loc:=(λz_ h=>by contradiction),rdIn:=(λz_ h=>by contradiction)
  inj:=λx y a hx hy=>GH (TF _ _ [] (λz_ h=>by contradiction) List.nodup_nil) (As hx) (As hy)
  has:=λx hx=>hhas _ x hx,hE:=λz_=>PassesOwn.leaving }
 have A₁:At c' (ns.zip vs).reverse led { c.s with heap:=h₁,toks:=tk₁ }:=by
  refine⟨h₁,tk₁,_,cells++con,F',N',λa o e=>(An (C a o e) λo' e1 e2=>⟨o',List.mem_append_right _ e1,e2⟩),⟨λx v hv=>?_,λx a ha=>?_,λz hz=>?_,(λz_ h=>by contradiction)⟩⟩
  ·rw[← ev,EJ,← List.map_reverse,Bx] at hv;refine An (Option.map_eq_some_iff.mp hv) λv' h1 h2=>?_;refine⟨v',?_,h2⟩;unfold Rd;rcases hkd (x,v') (List.mem_reverse.mp (As h1)) with e | e
   ·refine Aa e ?_;refine(?_:bindL _ _ _ x=some v');refine IY.trans (Aa (if_pos e) (Aa h1 ?_));rfl
   ·refine Aa e ?_;refine oE (hhas (L'+1) x e) λa ha=>?_;refine An (EA Y (As ha)) λo o1 o2=>?_;refine⟨a,o,ha,List.mem_append_left _ o1,?_⟩;have e':¬(envOfC qual scope L' f cdv).kindOf x=some .local:=λq=>by
     have q:scope.names.lookup x=some .local:=q;replace q:=(show scope.names.lookup x=some .cell from e).symm.trans q
     (have hq:=Option.some.inj q;contradiction)
    refine o2.trans (Aa IZ (Aa (if_neg e') (Aa h1 ?_)));rfl
  ·refine An (EA Y (As ha)) λo o1 o2=>?_;refine⟨?_,o,_,List.mem_append_left _ o1,o2⟩
   cases e:led a with
   |none=>rfl
   |some oo=>
    refine An (C a oo e) λo' e1 z_=>?_;exact absurd (Nat.lt_of_lt_of_le (lt _ e1) (Nat.le_of_succ_le (ge _ (As ha)))) (Nat.lt_irrefl _)
  ·refine oA (List.mem_filter.mp hz) λh1 h2=>?_;exact⟨List.mem_append_right _ h1,by simpa using h2,λx ha=>absurd (Nat.lt_of_lt_of_le (lt _ h1) (Nat.le_of_succ_le (ge _ (As ha)))) (Nat.lt_irrefl _)⟩
 have back:∀{ps' led' s'},At c' ps' led' s'→∃m' con',Fr g L' s'.heap m'∧News g L' s'.heap con'∧(Fr c.h₀ c.L s'.heap m→News c.h₀ c.L s'.heap con'→At c ps led' s'):=by
  rintro ps' led' s' ⟨h2,tk2,m2,con2,F2,N2,C2,I2⟩;refine⟨m2,con2,F2,N2,λF3 N3=>⟨h2,tk2,m,con2,F3,N3,C2,?_⟩⟩;have key:∀z∈con,led z.1=none→z∈c'.its:=λz hz e=>List.mem_filter.mpr ⟨hz,by refine Aa e ?_;rfl⟩;exact I.step (λz hz e=>(I2.its z (key z hz e)).1) λz hz e=>(I2.its z (key z hz e)).2.1
 refine(h c' rfl rfl rfl).wp A₁ λfl s' hf=>?_
 cases fl with
 |ret v=>
  refine Ax hf λps' led' h2 h3=>?_;refine A3 (back h2) λm' con' F2 N2 hb2=>?_;exact leaveK_ F2 N2 λF3 N3=>q v s' led' (hb2 F3 N3) h3
 |next=>
  refine Ax hf λps' led' h2 h3=>?_;refine A3 (back h2) λm' con' F2 N2 hb2=>?_;exact leaveK_ F2 N2 λF3 N3=>q .none s' led' (hb2 F3 N3) h3
 |brk=>
  refine Ax hf λz_ z_ z_ h3=>?_;exact h3.elim
 |cont=>
  refine Ax hf λz_ z_ z_ h3=>?_;exact h3.elim
theorem H6(ns:List Str)(r:Str)(ho:(hd0.heap_1 c.w.params).lookup f=some ⟨oc,od,.func (fnOf name qual params body scope dV kV doc pm an cdv ct),osl⟩)(hcd:codeIn (hd0.heap_1 c.w.params) cdv qual=true)(hv:params.posonlyargs.length+params.args.length=ns.length)(hns:ns.length=vs.length)(hz:rs.length≤100000)(hp:∀ws rs':List Value,ws.length=ns.length→rs'.length≤100000→peek1 (hd0.heap_1 c.w.params) ⟨PW,c.w.params⟩ (bindArgs (fnOf name qual params body scope dV kV doc pm an cdv ct) ⟨ws++rs',[]⟩)=some (({ cls:=.type "tuple",data:=.seq rs'.toArray }:Obj),λD=>some (ns.zip ws++[(r,.ref D)])))(hl:(ns++[r]).all (λx=>decide (scope.names.lookup x=some .local))=true)(hco:scope.isCoroutine=false)(hgen:scope.isGenerator=false)(hk:scope.kind = .function)(hcell:scope.names.all (λx=>x.2 != .cell)=true)(room:c.dp<recursionLimit)(h:∀c':Cf scope,c'.dp=c.dp+1→c'.un=c.un+3→c'.rd=none→∀D,led D=none→AE c' (Hp K) ((r,.ref D)::(ns.zip vs).reverse) (execs body c'.env) (put D (.tup rs) led) λz_ l=>K .none l):Ed c ps (.ref f) (vs++rs) led K:=by
 intro f' vs' ef ev s hs R q;obtain rfl:=Af ef;refine A3 (List.map_eq_append_iff.mp ev) λw1 w2 ho2 e1 e2=>?_;subst ho2;obtain⟨h0,tk,m,con,F,N,C,I⟩:=hs;have hw:w1.length=ns.length:=Aa hns (AV e1 (Aa (List.length_map ..) rfl));have hloc:∀D,∀y∈ns.zip w1++[(r,Value.ref D)],scope.names.lookup y.1=some .local:=λD y hy=>of_decide_eq_true (List.all_eq_true.mp hl y.1 (by
  rcases List.mem_append.mp hy with hy | hy
  ·exact List.mem_append_left _ (List.of_mem_zip hy).1
  ·refine Aa (List.mem_singleton.mp hy) ?_;exact List.mem_append_right _ (.head _)))
 have hce:∀x∈scope.names,x.2 ≠ .cell:=λx hx=>by simpa using List.all_eq_true.mp hcell x hx
 refine kp_rest (vs:=w2) c.B F c.X N c.T rfl rfl c.hk₀ ho hcd room (by refine Aa hv (AV hw ?_);exact List.drop_left) (hp w1 w2 hw (by refine Aa (AP e2) ?_;exact hz)) (λz_=>rfl) hloc (λD g L' h₁ lt FG F' N' B' X' T'=>?_) hco hgen hk hce
 let env':=envX qual scope L' f cdv []
 let c':Cf scope:={
  w:=c.w,dp:=c.dp+1,un:=c.un+3,gd:=c.gd,cn:=qual,cs₀:=scope,L:=L',a:=f,ccd:=cdv,cl:=[],outer:=envX c.cn c.cs₀ c.L c.a c.ccd c.cl::c.outer
  A₀:=c.A,base:=c.base,h₀:=g,p:=c.p,loose:=c.loose,mean:=c.mean,mg:=c.mg,mb:=c.mb,s:=c.s,fm:=λz_=>none,its:=con.filter λq=>(led q.1).isNone
  E:=λe s'=>wpAny (model PW c.w) (c.A.deeper env') (leaving env' e) (λz_ s''=>R (.error e) s'') (λe' s''=>R (.error e') s'') s'
  env:=env',rd:=none,B:=B',X:=X',T:=T',hk₀:=hk,hk:=hk,es:=rfl,eg:=rfl,eb:=rfl,own:=λz_=>⟨rfl,rfl⟩,loc:=(λz_ h=>by contradiction),rdIn:=(λz_ h=>by contradiction),inj:=(λz_ z_ z_ h=>by contradiction)
  has:=λx hx=>absurd rfl (hce (x,.cell) (As hx)),hE:=λz_=>PassesOwn.leaving }
 have A₁:At c' ((r,.ref D)::(ns.zip vs).reverse) (put D (.tup rs) led) { c.s with heap:=h₁,toks:=tk+(ns.zip w1++[(r,Value.ref D)]).length }:=by
  refine⟨h₁,_,_,_,F',N',C.new (o:=.tup rs) ⟨w2,0,rfl,e2⟩,⟨λx v hv=>?_,(λx a h=>by contradiction),λz hz=>?_,(λz_ h=>by contradiction)⟩⟩
  ·rw[← e1,EJ,← List.map_reverse] at hv;have e3:((r,Value.ref D)::List.map (λy:Str×Value=>(y.1,er y.2)) (ns.zip w1).reverse)=(((r,Value.ref D)::(ns.zip w1).reverse).map λy=>(y.1,er y.2)):=rfl;rw[e3,Bx] at hv;refine An (Option.map_eq_some_iff.mp hv) λv' h1 h2=>?_;have e4:(ns.zip w1++[(r,Value.ref D)]).reverse=(r,Value.ref D)::(ns.zip w1).reverse:=by simp
   refine⟨v',?_,h2⟩;unfold Rd;refine Aa (hloc D (x,v') (List.mem_reverse.mp (e4▸As h1))) ?_;refine(?_:(ns.zip w1++[(r,Value.ref D)]).reverse.lookup x=some v');refine Aa e4 ?_;exact h1
  ·refine oA (List.mem_filter.mp hz) λh1 h2=>?_;exact⟨.tail _ h1,A0 (by simpa using h2) (Nat.ne_of_lt (lt z h1)),λx h=>by contradiction⟩
 have back:∀{ps' led' s'},At c' ps' led' s'→∃m' con',Fr g L' s'.heap m'∧News g L' s'.heap con'∧(Fr c.h₀ c.L s'.heap m→News c.h₀ c.L s'.heap con'→At c ps led' s'):=by
  rintro ps' led' s' ⟨h2,tk2,m2,con2,F2,N2,C2,I2⟩;refine⟨m2,con2,F2,N2,λF3 N3=>⟨h2,tk2,m,con2,F3,N3,C2,?_⟩⟩;have key:∀z∈con,led z.1=none→z∈c'.its:=λz hz e=>List.mem_filter.mpr ⟨hz,by refine Aa e ?_;rfl⟩;exact I.step (λz hz e=>(I2.its z (key z hz e)).1) λz hz e=>(I2.its z (key z hz e)).2.1
 refine(h c' rfl rfl rfl D (C.none lt)).wp A₁ λfl s' hf=>?_
 cases fl with
 |ret v=>
  refine Ax hf λps' led' h2 h3=>?_;refine A3 (back h2) λm' con' F2 N2 hb2=>?_;exact leaveK_ F2 N2 λF3 N3=>q v s' led' (hb2 F3 N3) h3
 |next=>
  refine Ax hf λps' led' h2 h3=>?_;refine A3 (back h2) λm' con' F2 N2 hb2=>?_;exact leaveK_ F2 N2 λF3 N3=>q .none s' led' (hb2 F3 N3) h3
 |brk=>
  refine Ax hf λz_ z_ z_ h3=>?_;exact h3.elim
 |cont=>
  refine Ax hf λz_ z_ z_ h3=>?_;exact h3.elim
end
noncomputable def BK(scope cs:Scope):Scope:={ scope with names:=scope.names.map λ(n,k)=>if (k == .free&&cs.kind == .function&&cs.names.lookup n==some .cell) then (n,.cell) else (n,k) }
theorem Ik{scope cs:Scope}{env:Env}(h:env.scope=cs):relabel scope env=BK scope cs:=by subst h;rfl
noncomputable def CK(l:List (Str×NameKind)):List Str:=(l.filter λx=>x.2 == .free).map (·.1)
theorem EZ{n:Str}{k:NameKind}{r:List (Str×NameKind)}:CK ((n,k)::r)=if k == .free then n::CK r else CK r:=by
 unfold CK;refine Aa List.filter_cons ?_;split<;>rfl
theorem PG{n:Str}:∀{l:List (Str×NameKind)},(n,.free)∈l→n∈CK l:=λh=>List.mem_map.mpr ⟨_,List.mem_filter.mpr ⟨h,rfl⟩,rfl⟩
noncomputable def Eb(cells:List (Str×Addr)):List (Str×NameKind)→List (Str×Addr)→List (Str×Addr)
 |[],acc=>acc
 |(n,k)::r,acc=>if k == .free then Eb cells r ((n,(cells.lookup n).getD 0)::acc) else Eb cells r acc
set_option tactic.hygienic true in
theorem Si{env:Env}(f:Str×NameKind→List (Str×Addr)→Sem (ForInStep (List (Str×Addr))))(hf:∀n k cells,f (n,k) cells=if k == .free then (do let a ← cellOf env n;pure (.yield ((n,a)::cells))) else pure (.yield cells)) :
  ∀(l:List (Str×NameKind)) (acc:List (Str×Addr)),(∀n∈CK l,∃a,env.cells.lookup n=some a)→forIn l acc f=pure (Eb env.cells l acc):=by
 intro r
 induction r with
 |nil=>
  intro acc _;refine List.forIn_nil.trans ?_;rfl
 |cons hd_ r ih=>
  obtain⟨n,k⟩:=hd_;intro acc h;refine(List.forIn_cons ..).trans (Aa (hf ..) ?_);rw[EZ] at h;unfold Eb;split
  ·rename_i hk;rw[if_pos hk] at h;refine oE (h n (.head _)) λa ha=>?_;have e:cellOf env n=pure a:=by unfold cellOf;exact Aa ha rfl
   refine Aa e (Aa ha ?_);exact ih _ λz hz=>h z (.tail _ hz)
  ·rename_i hk;rw[if_neg hk] at h;exact ih _ h
theorem L8{scope:Scope}{env:Env}(h:∀n∈CK scope.names,∃a,env.cells.lookup n=some a):closureFor scope env=pure (Eb env.cells scope.names []):=by
 unfold closureFor;dsimp only;refine Aa (Si (env:=env) _ (λn k cells=>by cases hk:k==NameKind.free<;>simp[hk]) scope.names [] h) ?_;rfl
set_option tactic.hygienic true in
theorem PF{cells:List (Str×Addr)}{p:Str×Addr}:∀{l:List (Str×NameKind)} {acc:List (Str×Addr)},p∈Eb cells l acc→p∈acc∨(p.1∈CK l∧p.2=(cells.lookup p.1).getD 0):=by
 intro r
 induction r with
 |nil=>
  intro _ h;exact .inl h
 |cons hd_ r ih=>
  obtain⟨n,k⟩:=hd_;intro acc h;refine Aa EZ ?_;unfold Eb at h;split at h
  ·rename_i hk;refine Aa (if_pos hk) ?_;rcases ih h with h | h
   ·rcases List.mem_cons.mp h with rfl | h
    ·exact .inr ⟨.head _,rfl⟩
    ·exact .inl h
   ·exact .inr ⟨.tail _ h.1,h.2⟩
  ·rename_i hk;refine Aa (if_neg hk) ?_;exact ih h
set_option tactic.hygienic true in
theorem IT{cells:List (Str×Addr)}{n:Str}:∀{l:List (Str×NameKind)} {acc:List (Str×Addr)},n∈CK l∨n∈acc.map (·.1)→n∈(Eb cells l acc).map (·.1):=by
 intro r
 induction r with
 |nil=>
  intro _ h;exact h.resolve_left λh=>by contradiction
 |cons hd_ r ih=>
  obtain⟨y,k⟩:=hd_;intro acc h;rw[EZ] at h;unfold Eb;split
  ·rename_i hk;rw[if_pos hk] at h;refine ih ?_;rcases h with h | h
   ·rcases List.mem_cons.mp h with rfl | h
    ·exact .inr (.head _)
    ·exact .inl h
   ·exact .inr (.tail _ h)
  ·rename_i hk;rw[if_neg hk] at h;exact ih h
theorem VB:∀(l:List (Str×NameKind)) (n:Nat) (a b:List (Str×Addr)),cellsFrom n l (a++b)=cellsFrom n l a++b:=by
 intro r
 induction r with
 |nil=>
  intro _ _ _;exact rfl
 |cons hd_ r ih=>
  obtain⟨x,k⟩:=hd_;intro n a b;unfold cellsFrom;split
  ·exact ih _ ((x,n)::a) b
  ·exact ih _ a b
noncomputable def HG(l:List Str)(ps:PS):PS:=l.filterMap λn=>(ps.lookup n).map (n,·)
theorem Sl{l:List Str}{ps:PS}{y:Str}{v:Value}(h:(HG l ps).lookup y=some v):y∈l∧ps.lookup y=some v:=by
 refine An (List.mem_filterMap.mp (As h)) λn hn e=>?_;refine An (Option.map_eq_some_iff.mp e) λu e1 e2=>?_;refine oA (Prod.mk.inj e2) λho0 ho1=>?_;subst ho0;subst ho1;exact⟨hn,e1⟩
theorem PH{y:Str}{v:Value}{ps:PS}(hv:ps.lookup y=some v){l:List Str}(h:y∈l):(HG l ps).lookup y=some v:=by
 induction l with
 |nil=>exact absurd h List.not_mem_nil
 |cons n r ih=>
  unfold HG;refine Aa List.filterMap_cons ?_;by_cases e:y=n
  ·subst e;refine Aa hv ?_;refine(?_:List.lookup y ((y,v)::_)=_);exact List.lookup_cons.trans (Aa (beq_self_eq_true ..) rfl)
  ·replace ih:=ih ((List.mem_cons.mp h).resolve_left e)
   cases ps.lookup n with
   |none=>exact ih
   |some u=>
    refine(?_:List.lookup y ((n,u)::_)=_);exact List.lookup_cons.trans (Aa (by simpa using e:(y==n)=false) ih)
noncomputable def UB(as:List Addr)(l:Df):Df:=l.filter λq=>!as.contains q.1
theorem Ct{as:List Addr}{l:Df}{q:Addr×Obj}:q∈UB as l↔q∈l∧q.1∉as:=by
 unfold UB;rw[List.mem_filter];simp
section
variable{c:Cf cs}
noncomputable def Cf.cmp(c:Cf cs)(scope:Scope)(C:Addr)(cl:List (Str×Addr))(its:Df)(m:Str→Option Value)(hk:scope.kind = .function)(hin:∃o,(C,o)∈its)(hinj:∀x y a,cl.lookup x=some a→cl.lookup y=some a→x=y)(hhas:∀x,(BK scope cs).names.lookup x=some .cell→∃a,cl.lookup x=some a):Cf (BK scope cs) where
 w:=c.w
 dp:=c.dp
 un:=c.un
 gd:=c.gd
 cn:=c.cn
 cs₀:=c.cs₀
 L:=c.L
 a:=c.a
 ccd:=c.ccd
 cl:=c.cl
 outer:=c.outer
 A₀:=c.A₀
 base:=c.base
 h₀:=c.h₀
 p:=c.p
 loose:=c.loose
 mean:=c.mean
 mg:=c.mg
 mb:=c.mb
 s:=c.s
 its:=its
 fm:=m
 E:=λz_ z_=>False
 env:=compEnvC scope cl C c.env
 rd:=some C
 B:=c.B
 X:=c.X
 T:=c.T
 hk₀:=c.hk₀
 hk:=hk
 es:=Ik c.es
 eg:=c.eg
 eb:=c.eb
 own:=λh=>by contradiction
 loc:=λz_ h=>by obtain rfl:=Option.some.inj h;rfl
 rdIn:=λz_ h=>by obtain rfl:=Option.some.inj h;exact hin
 inj:=hinj
 has:=hhas
 hE:=λh=>by contradiction
noncomputable def Zc(n:Nat){cs:Scope}(c:Cf cs)(ps:PS)(elt:Expr)(ifs:List Expr)(J:List Value→Lg→Prop)(ys:List Value)(led:Lg):Prop:=match ifs with
 |[]=>(Ci n c ps).e elt led λu l=>J (ys++[u]) l
 |[t]=>(Ci n c ps).t t led λb l1=>BB b ((Ci n c ps).e elt l1 λu l=>J (ys++[u]) l) (J ys l1)
 |_=>False
theorem Zb{n:Nat}{elt:Expr}{ifs:List Expr}{J:List Value→Lg→Prop}{ys:List Value}(h:Zc n c ps elt ifs J ys led){s:Shared}(hs:At c ps led s){Q:Bool→Shared→Prop}{Q2:Value→Shared→Prop}(q1:∀s',wpAny (model PW c.w) c.A (eval elt c.env) Q2 c.E s'→Q true s')(q2:∀u s' l,At c ps l s'→J (ys++[er u]) l→Q2 u s')(q3:∀s' l,At c ps l s'→J ys l→Q false s') :
  wpAny (model PW c.w) c.A (forIn ifs true λt r=>if r=true then do let ok ← isTrue t c.env (eval t c.env);pure (ForInStep.yield ok) else pure (ForInStep.yield r)) Q c.E s:=by
 cases ifs with
 |nil=>exact wpAny_tests_nil (q1 _ (((A6 n).e _ _ _ h).wp hs q2))
 |cons t r=>
  cases r with
  |cons _ _=>exact h.elim
  |nil=>
   refine wpAny_tests_one (((A6 n).t _ _ _ h).wp hs λb s1 l1 h1 k1=>?_)
   cases b with
   |true=>exact q1 _ (((A6 n).e _ _ _ (k1.1 rfl)).wp h1 q2)
   |false=>exact q3 _ _ h1 (k1.2 rfl)
set_option tactic.hygienic true in
theorem TS{m:Str→Option Value}{con:Df}{I:Addr}{o:Obj}(hne:∀q∈c.its,q.1≠I)(F:FP (c.wi I o) ps m con led):FP c ps m (off I con) led where
 vars x v e:=by
  refine An (F.vars x v e) λv' h e'=>?_;refine⟨v',?_,e'⟩;unfold Rd at h ⊢;have hr2:(c.wi I o).rd=c.rd:=rfl;split at h
  ·rw[hr2] at h;split at h
   ·exact h
   ·rename_i C hC;refine A3 h λo1 m2 h1 h2 h3=>?_;refine oE (c.rdIn _ hC) λo2 h4=>?_;rcases List.mem_cons.mp h1 with e | h1
    ·refine oA (Prod.mk.inj e) λho0 ho1=>?_;subst ho0;subst ho1;exact absurd rfl (hne _ h4)
    ·exact⟨o1,m2,h1,h2,h3⟩
  ·refine A3 h λa o1 h3 h4 h5=>?_;exact⟨a,o1,h3,AS h4 λe=>(F.its (I,o) (.head _)).2.2 x (e▸h3),h5⟩
 cells x a e:=by
  refine Cm (F.cells x a e) λh3 o1 ov h4 h5=>?_;exact⟨h3,o1,ov,AS h4 λe2=>(F.its (I,o) (.head _)).2.2 x (e2▸e),h5⟩
 its q hq:=by
  refine Cg (F.its q (.tail _ hq)) λh3 h4 h5=>?_;exact⟨AS h3 (hne q hq),h4,h5⟩
 fm:=F.fm
theorem VW{m:Str→Option Value}{con:Df}{I:Addr}{o:Obj}(F:FP c ps m con led)(hn:∀p∈con,p.1≠I)(hl:led I=none):FP (c.wi I o) ps m ((I,o)::con) led where
 vars x v e:=by
  refine An (F.vars x v e) λv' h e'=>?_;refine⟨v',?_,e'⟩;unfold Rd at h ⊢;have hr2:(c.wi I o).rd=c.rd:=rfl;split at h
  ·refine Aa hr2 ?_;split at h
   ·exact h
   ·refine A3 h λo1 m2 h1 h2 h3=>?_;exact⟨o1,m2,.tail _ h1,h2,h3⟩
  ·refine A3 h λa o1 h3 h4 h5=>?_;exact⟨a,o1,h3,.tail _ h4,h5⟩
 cells x a e:=by
  refine Cm (F.cells x a e) λh3 o1 ov h4 h5=>?_;exact⟨h3,o1,ov,.tail _ h4,h5⟩
 its q hq:=by
  rcases List.mem_cons.mp hq with rfl | hq
  ·refine⟨.head _,hl,λx e=>?_⟩;refine Cm (F.cells x _ e) λz_ o1 ov h4 z_=>?_;exact hn _ h4 rfl
  ·refine Cg (F.its q hq) λh3 h4 h5=>?_;exact⟨.tail _ h3,h4,h5⟩
 fm:=F.fm
theorem At.letGo{C:Addr}{o:Obj}{s:Shared}(h:At (c.wi C o) ps led s)(hne:∀q∈c.its,q.1≠C){h':Heap}(hs:Heap.SameBut C s.heap h'):At c ps led { s with heap:=h' }:=by
 obtain⟨h,tk,m,con,F,N,V,I⟩:=h;refine Cg (I.its (C,o) (.head _)) λk1 k2 z_=>?_;refine Cg (N _ k1) λg1 g2 g3=>?_;exact⟨h',tk,m,off C con,F.change hs g2 g3,λp hp=>⟨hs.extBut _ _ (AW p hp) (N p (AM p hp)).1,(N p (AM p hp)).2⟩,Dp V k2,TS hne I⟩
end
theorem PB{M:Model}{A:Around}{E:Value→Shared→Prop}{scope:Scope}{globals:Addr}{cl:List (Str×Addr)}{qual:Str}{env:Env}{Q:Env→Shared→Prop}{s:Shared}(hQ:Q { scope:=scope,locals:=s.heap.objs.size,globals:=globals,cells:=cellsFrom (s.heap.objs.size+1) scope.names cl,qual:=qual,func:=none,code:=env.code,frame:=env.frame,builtins:=env.builtins } { s with heap:=pushCells (s.heap.push { cls:=.type "dict",data:=.dict #[] }) scope.names }) :
  wpAny M A (newFunctionEnv scope globals cl [] qual none .none (some env)) Q E s:=by
 simp only[newFunctionEnv,Option.isSome_some,if_true];refine wpAny_bind (wpAny_alloc ?_);refine wpAny_bind (wpAny_layCells _ (λname kind cells=>by cases hkc:kind==NameKind.cell<;>simp[hkc]) _ _ _ _ ?_);refine Aa List.forIn_nil (Aa (show({ s with heap:=s.heap.push { cls:=.type "dict",data:=.dict #[] } }:Shared).heap.objs.size=s.heap.objs.size+1 from Heap.size_push ..) ?_);exact wpAny_bind (wpAny_pure (wpAny_pure hQ))
theorem Oj{h:Heap}:∀{own:List (Str×Addr)},(∀p∈own,∃ov,h.IsCell p.2 ov)→∃oc:Df,(∀q∈oc,h.get? q.1=some q.2∧q.1∈own.map (·.2))∧∀p∈own,∃o ov,(p.2,o)∈oc∧o.data = .cell ov:=by
 intro r
 induction r with
 |nil=>exact λ_=>⟨[],(λz_ h=>by contradiction),λz_ h=>by contradiction⟩
 |cons p r ih=>
  intro H;refine An (ih λq hq=>H q (.tail _ hq)) λoc h1 h2=>?_;refine Ax (H p (.head _)) λov o g d=>?_;refine⟨(p.2,o)::oc,λq hq=>?_,λq hq=>?_⟩
  ·rcases List.mem_cons.mp hq with rfl | hq
   ·exact⟨g,.head _⟩
   ·exact⟨(h1 q hq).1,.tail _ (h1 q hq).2⟩
  ·rcases List.mem_cons.mp hq with rfl | hq
   ·exact⟨o,ov,.head _,d⟩
   ·refine Ax (h2 q hq) λo' ov' k1 k2=>?_;exact⟨o',ov',.tail _ k1,k2⟩
noncomputable def aR(cs:Scope)(y:Str):Bool:=match cs.names.lookup y with
 |some .cell=>true
 |some .free=>true
 |_=>false
theorem Vj{cs:Scope}{y:Str}(h:aR cs y=true):cs.names.lookup y≠some .local:=λe=>by unfold aR at h;rw[e] at h;contradiction
noncomputable def L9(scope cs:Scope)(x:Str):Bool:=(CK scope.names).all λy=>aR cs y&&(((BK scope cs).names.lookup y != some .local)&&y != x)
theorem Rd.mk{cs:Scope}{c:Cf cs}{m:Str→Option Value}{con:Df}{y:Str}{v:Value}(h:cs.names.lookup y≠some .local)(k:∃a o,c.env.cells.lookup y=some a∧(a,o)∈con∧o.data = .cell (some v)):Rd c m con y v:=by
 unfold Rd;split
 ·rename_i e;exact absurd e h
 ·exact k
theorem Rd.un{cs:Scope}{c:Cf cs}{m:Str→Option Value}{con:Df}{y:Str}{v:Value}(h:cs.names.lookup y≠some .local)(k:Rd c m con y v):∃a o,c.env.cells.lookup y=some a∧(a,o)∈con∧o.data = .cell (some v):=by
 unfold Rd at k;split at k
 ·rename_i e;exact absurd e h
 ·exact k
section
variable{c:Cf cs}
noncomputable def Np(I D:Addr)(own:List (Str×Addr)):List Addr:=I::(D+1)::D::own.map (·.2)
inductive bL{cs:Scope}(c:Cf cs)(ps:PS)(m:Str→Option Value)(own:List (Str×Addr))(I D:Addr)(oI:Obj)(ys:List Value)(mC:Str→Option Value)(led:Lg):Shared→Prop
 |mk (h:Heap) (tk:Nat) (con:Df) (ho:h.get? I=some oI) (gD:h.get? D=some (LCg.lst ys)) (gC:h.Ns (D+1) mC) (gO:∀p∈own,∃ov,h.IsCell p.2 ov) (F:Fr c.h₀ c.L h m) (Nw:News c.h₀ c.L h con) (V:Dq c.w led con) (I₀:FP c ps m con led) (hn:∀p∈con,p.1∉Np I D own):bL c ps m own I D oI ys mC led { c.s with heap:=h,toks:=tk }
inductive bK{cs:Scope}(c:Cf cs)(ps:PS)(m:Str→Option Value)(own:List (Str×Addr))(I D:Addr)(k:Nat)(It:Nat→Obj→Prop)(J:Nat→List Value→Lg→Prop):Nat→Shared→Prop
 |mk (s:Shared) (led:Lg) (ys:List Value) (i:Nat) (oI:Obj) (mC:Str→Option Value) (b:bL c ps m own I D oI ys mC led s) (hi:i≤k) (hyl:ys.length≤i) (hI:It i oI) (hJ:J i (ys.map er) led):bK c ps m own I D k It J (k+1-i) s
theorem Gk(n:Nat)(W:Jr c.w c.A I k P It U)(hself:∀(s:Shared) (Q:Value→Shared→Prop) (E:Value→Shared→Prop) o,s.heap.get? I=some o→It 0 o→U s.heap→Q (.ref I) s→wpAny (model PW c.w) c.A (pyIter (.ref I)) Q E s)(J:Nat→List Value→Lg→Prop)(hU:∀i ys led con h,J i ys led→Dq c.w led con→News c.h₀ c.L h con→U h){h:Heap}{tk:Nat}{m:Str→Option Value}{con:Df}{oI:Obj}(F:Fr c.h₀ c.L h m)(Nw:News c.h₀ c.L h con)(V:Dq c.w led con)(I₀:FP c ps m con led)(hn:∀p∈con,p.1≠I)(ho:h.get? I=some oI)(hI:It 0 oI)(hIL:I≠c.L)(hIh:c.h₀.get? I=none)(hJ:J 0 [] led)(hz:k≤1000000)(hk:scope.kind = .function)(hcap:L9 scope cs x=true)(hown:((BK scope cs).names.lookup x=some .local∧∀k,cellsFrom k scope.names []=[])∨((BK scope cs).names.lookup x=some .cell∧∀k,cellsFrom k scope.names []=[(x,k)]))(hcl:∀y∈CK scope.names,∃a,c.env.cells.lookup y=some a)(turn:∀c2:Cf (BK scope cs),c2.dp=c.dp→c2.un=c.un→∀i v ys led',i<k→P i v→J i ys led'→Zc n c2 ((x,er v)::HG (CK scope.names) ps) elt ifs (J (i+1)) ys led'){RR:Value→Addr→Result→Shared→Prop}(hRR:∀D C oC m' ys led' s',At (c.wi C oC) ps (put D (.lst ys) led') s'→led' D=none→LCg.NsObj oC m'→(∀q∈c.its,q.1≠C)→J k ys led'→RR (.ref D) C (.ok .next) s') :
 wpAny (model PW c.w) c.A (newList []) (λacc s₃=>wpAny (model PW c.w) c.A (newFunctionEnv scope c.env.globals (Eb c.env.cells scope.names []) [] c.env.qual none .none (some c.env)) (λcenv s₄=>
  codeAny (model PW c.w) c.A (.compStart (.ListComp elt [⟨.Name x px,iter,ifs,0⟩] scope pos) 0 (.ref I) acc { cenv with scope:=relabel scope c.env }) (RR acc cenv.locals) s₄) c.E s₃) c.E { c.s with heap:=h,toks:=tk }:=by
 have hcap1:∀y∈CK scope.names,cs.names.lookup y≠some .local∧(BK scope cs).names.lookup y≠some .local∧y≠x:=λy hy=>by
  have:=List.all_eq_true.mp hcap y hy;simp only[Bool.and_eq_true,bne_iff_ne,ne_eq] at this;exact⟨Vj this.1,this.2.1,this.2.2⟩
 have lt:∀p∈con,p.1<h.objs.size:=λp hp=>Heap.lt_size (Nw p hp).1;have hIlt:I<h.objs.size:=Heap.lt_size ho;have hLlt:c.L<h.objs.size:=F.ns.lt;have f0:∀a,h.objs.size≤a→c.h₀.get? a=none:=λa ha=>Lo F ha;refine wpAny_newObj_type (PB ?_);dsimp only;generalize hD:h.objs.size=D at lt hIlt hLlt f0;have hC:(h.push { cls:=.type "list",data:=.seq ([]:List Value).toArray }).objs.size=D+1:=(Heap.size_push ..).trans (Aa hD rfl);refine Aa hC (Aa (show cellsFrom (D+1+1) scope.names (Eb c.env.cells scope.names [])=cellsFrom (D+1+1) scope.names []++Eb c.env.cells scope.names [] from VB _ _ [] _) ?_);generalize hH:pushCells ((h.push { cls:=.type "list",data:=.seq ([]:List Value).toArray }).push { cls:=.type "dict",data:=.dict #[] }) scope.names=H;have old:∀b o,h.get? b=some o→H.get? b=some o:=λb o e=>by refine AV hH ?_;exact pushCells_keeps _ _ _ _ (Heap.get?_push_of_some _ (Heap.get?_push_of_some _ e))
 have gD:H.get? D=some (LCg.lst []):=by refine AV hH ?_;exact pushCells_keeps _ _ _ _ (Heap.get?_push_of_some _ (hD▸Heap.get?_push_size _ rfl))
 have gC:H.Ns (D+1) λz_=>none:=by
  have:=(Heap.Ns.new (h.push { cls:=.type "list",data:=.seq ([]:List Value).toArray }) (.type "dict"));rw[hC] at this;refine AV hH ?_;exact this.keeps (pushCells_keeps _ _)
 have gO:∀p∈cellsFrom (D+1+1) scope.names [],∃ov,H.IsCell p.2 ov:=λp hp=>by
  have ok:=cellsFrom_ok scope.names ((h.push { cls:=.type "list",data:=.seq ([]:List Value).toArray }).push { cls:=.type "dict",data:=.dict #[] }) 0 [] ⟨λz_ z_ hm=>(by contradiction),List.Pairwise.nil⟩ (Nat.zero_le _);rw[Heap.size_push,hC] at ok;refine AV hH ?_;exact⟨none,(ok.empty p.1 p.2 hp).1⟩
 clear hH;have ow:(cellsFrom (D+1+1) scope.names []=[]∧(BK scope cs).names.lookup x=some .local)∨(cellsFrom (D+1+1) scope.names []=[(x,D+1+1)]∧(BK scope cs).names.lookup x=some .cell):=hown.imp (λe=>⟨e.2 _,e.1⟩) λe=>⟨e.2 _,e.1⟩
 have hhas0:∀y,(BK scope cs).names.lookup y=some .cell→y∈(cellsFrom (D+1+1) scope.names []++Eb c.env.cells scope.names []).map (·.1):=λy hy=>by
  refine An (List.mem_map.mp (As hy)) λho0 hm e=>?_;obtain⟨z,kz⟩:=ho0;rw[List.map_append,List.mem_append];have e:(if (kz == .free&&cs.kind == .function&&cs.names.lookup z==some .cell)=true then (z,NameKind.cell) else (z,kz))=(y,.cell):=e;by_cases hf:(kz == .free&&cs.kind == .function&&cs.names.lookup z==some .cell)=true
  ·replace e:=(if_pos hf).symm.trans e;cases e;simp only[Bool.and_eq_true,beq_iff_eq] at hf;exact .inr (IT (.inl (PG (hf.1.1▸hm))))
  ·replace e:=(if_neg hf).symm.trans e;refine oA (Prod.mk.inj e) λho0 ho1=>?_;subst ho0;subst ho1;exact .inl (Kk _ _ [] _ (.inl hm))
 generalize hown':cellsFrom (D+1+1) scope.names []=own at gO ow hhas0;generalize hcl':Eb c.env.cells scope.names []=cl at hhas0;have clm:∀y a,(y,a)∈cl→y∈CK scope.names∧c.env.cells.lookup y=some a:=λy a hm=>by
  rw[← hcl'] at hm;rcases PF hm with hm | ⟨h1,h2⟩
  ·contradiction
  ·refine oE (hcl y h1) λb hb=>?_;refine⟨h1,?_⟩;have h2:a=(c.env.cells.lookup y).getD 0:=h2;rw[hb] at h2;refine hb.trans (Aa h2 ?_);rfl
 have clh:∀y∈CK scope.names,∃a,(own++cl).lookup y=some a∧c.env.cells.lookup y=some a:=λy hy=>by
  refine oE (Cs (l:=cl) (x:=y) (by rw[← hcl'];exact IT (.inl hy))) λa ha=>?_;refine⟨a,?_,(clm y a (As ha)).2⟩;refine List.lookup_append.trans ?_;rcases ow with ⟨e,_⟩ | ⟨e,_⟩
  ·refine Aa e ?_;exact ha
  ·refine Aa e (Aa List.lookup_cons (Aa (show(y==x)=false by simpa using (hcap1 y hy).2.2) ?_));exact ha
 have oin:∀y a,(own++cl).lookup y=some a→(y=x∧a=D+1+1∧own=[(x,D+1+1)])∨(y∈CK scope.names∧c.env.cells.lookup y=some a):=λy a hy=>by
  rcases List.mem_append.mp (As hy) with hm | hm
  ·rcases ow with ⟨e,_⟩ | ⟨e,_⟩
   ·rw[e] at hm;contradiction
   ·have hm2:=hm;rw[e] at hm2;cases List.mem_singleton.mp hm2;exact .inl ⟨rfl,rfl,e⟩
  ·exact .inr (clm y a hm)
 have cin:∀{con':Df} {led':Lg},FP c ps m con' led'→(∀p∈con',p.1∉Np I D own)→∀y a,c.env.cells.lookup y=some a→a∉own.map (·.2):=λI1 h1 y a ha hm=>by
  refine Cm (I1.cells y a ha) λz_ o ov h2 z_=>?_;exact h1 _ h2 (.tail _ (.tail _ (.tail _ hm)))
 have hfs:∀a∈Np I D own,a≠c.L∧c.h₀.get? a=none:=λa ha=>by
  rcases List.mem_cons.mp ha with rfl | ha
  ·exact⟨hIL,hIh⟩
  rcases List.mem_cons.mp ha with rfl | ha
  ·exact⟨Nat.ne_of_gt (Nat.lt_succ_of_lt hLlt),f0 _ (Nat.le_succ _)⟩
  rcases List.mem_cons.mp ha with rfl | ha
  ·exact⟨Nat.ne_of_gt hLlt,f0 _ (Nat.le_refl _)⟩
  ·rcases ow with ⟨e,_⟩ | ⟨e,_⟩
   ·rw[e] at ha;contradiction
   ·rw[e] at ha;cases List.mem_singleton.mp ha;exact⟨Nat.ne_of_gt (Nat.lt_succ_of_lt (Nat.lt_succ_of_lt hLlt)),f0 _ (Nat.le_succ_of_le (Nat.le_succ _))⟩
 have inC:D+1∈Np I D own:=.tail _ (.head _);have inD:D∈Np I D own:=.tail _ (.tail _ (.head _));have nID:I≠D:=Nat.ne_of_lt hIlt;have nIC:I≠D+1:=Nat.ne_of_lt (Nat.lt_succ_of_lt hIlt);have nO:∀a∈own.map (·.2),a≠I∧a≠D+1∧a≠D:=λa ha=>by
  rcases ow with ⟨e,_⟩ | ⟨e,_⟩
  ·rw[e] at ha;contradiction
  ·rw[e] at ha;cases List.mem_singleton.mp ha;exact⟨Nat.ne_of_gt (Nat.lt_succ_of_lt (Nat.lt_succ_of_lt hIlt)),Nat.succ_ne_self _,Nat.ne_of_gt (Nat.lt_succ_of_lt (Nat.lt_succ_self _))⟩
 have hn0:∀p∈con,p.1∉Np I D own:=λp hp hm=>by
  have l:=lt p hp;rcases List.mem_cons.mp hm with e | hm
  ·exact hn p hp e
  rcases List.mem_cons.mp hm with e | hm
  ·rw[e] at l;exact absurd l (Nat.not_lt_of_le (Nat.le_succ _))
  rcases List.mem_cons.mp hm with e | hm
  ·rw[e] at l;exact absurd l (Nat.lt_irrefl _)
  ·rcases ow with ⟨e,_⟩ | ⟨e,_⟩
   ·rw[e] at hm;contradiction
   ·rw[e] at hm;rw[List.mem_singleton.mp hm] at l;exact absurd l (Nat.not_lt_of_le (Nat.le_succ_of_le (Nat.le_succ _)))
 have loop:codeAny (model PW c.w) c.A (.compLoop (.ListComp elt [⟨.Name x px,iter,ifs,0⟩] scope pos) 0 (.ref I) (.ref D) (compEnvC scope (own++cl) (D+1) c.env)) (RR (.ref D) (D+1)) { c.s with heap:=H,toks:=tk }:=by
  have hinj:∀y z a,(own++cl).lookup y=some a→(own++cl).lookup z=some a→y=z:=λy z a hy hz=>by
   rcases oin _ _ hy with ⟨e1,e2,e3⟩ | ⟨e1,e2⟩<;>rcases oin _ _ hz with ⟨e4,e5,e6⟩ | ⟨e4,e5⟩
   ·exact e1.trans (Aa e4 rfl)
   ·exact absurd (by refine Aa e3 ?_;exact e2 ▸ .head _) (cin I₀ hn0 _ _ e5)
   ·exact absurd (by refine Aa e6 ?_;exact e5 ▸ .head _) (cin I₀ hn0 _ _ e2)
   ·exact c.inj _ _ _ e2 e5
  refine codeAny_compLoop_tests (bK c ps m own I D k It J) ?_ (k+1) ⟨_,led,[],0,oI,_,⟨H,tk,con,old _ _ ho,gD,gC,gO,F.keeps old,Nw.grown old,V,I₀,hn0⟩,Nat.zero_le _,Nat.le_refl _,hI,hJ⟩;clear hn0 hJ gO gD gC old lt hI ho hn I₀ V Nw F hD hC;rintro _ _ ⟨_,led,ys,i,oI,mC,⟨h,tk,con,ho,gD,gC,gO,F,Nw,V,I₀,hn⟩,hi,hyl,hI,hJ⟩;have hnI:∀p∈con,p.1≠I:=λp hp e=>hn p hp (e ▸ .head _);by_cases hlt:i<k
  ·refine W.item i _ _ _ oI hlt ho hI (hU i _ led con h hJ V Nw) λv h₁ tk₁ o' hP ho' hI' hk₁=>?_;obtain⟨Pst,hPst⟩:∃Pst:Shared→Prop,Pst=λs₅=>∃m₁,m₁<k+1-i∧bK c ps m own I D k It J m₁ s₅:=⟨_,rfl⟩;have go:∀(h₃:Heap) (tk₃:Nat) (mC:Str→Option Value),h₃.get? I=some o'→h₃.get? D=some (LCg.lst ys)→h₃.Ns (D+1) mC→(∀p∈own,∃ov,h₃.IsCell p.2 ov)→((BK scope cs).names.lookup x=some .local→mC x=some v)→((BK scope cs).names.lookup x=some .cell→h₃.IsCell (D+1+1) (some v)) →
     Fr c.h₀ c.L h₃ m→News c.h₀ c.L h₃ con→∀E₁:Value→Shared→Prop,wpAny (model PW c.w) c.A (forIn ifs true λt r=>if r=true then do let ok ← isTrue t (compEnvC scope (own++cl) (D+1) c.env) (eval t (compEnvC scope (own++cl) (D+1) c.env));pure (ForInStep.yield ok) else pure (ForInStep.yield r)) (λok s₃=>
      if ok=true then wpAny (model PW c.w) c.A (eval elt (compEnvC scope (own++cl) (D+1) c.env)) (λu s₄=>
       wpAny (model PW c.w) c.A (call (.builtin "list.append") [.ref D,u]) (λz_ s₅=>Pst s₅) E₁ s₄) E₁ s₃
      else Pst s₃) E₁ { c.s with heap:=h₃,toks:=tk₃ }:=by
    intro h₃ tk₃ mC eI eD eC eO hxl hxc F₃ N₃ E₁;refine An (LCg.ns_obj eC) λoC gC3 nC=>?_;refine An (Oj eO) λoc oc1 oc2=>?_
    let its2:Df:=(D,LCg.lst ys)::(D+1,oC)::(I,o')::con.filter λq=>(led q.1).isNone && !(cl.map (·.2)).contains q.1
    let c2:=c.cmp scope (D+1) (own++cl) its2 m hk ⟨oC,.tail _ (.head _)⟩ hinj (λy hy=>Cs (hhas0 y hy))
    have hled:∀a∈Np I D own,led a=none:=λa ha=>by
     cases e:led a with
     |none=>rfl
     |some o=>
      refine An (V _ _ e) λo1 h1 z_=>?_;exact absurd ha (hn _ h1)
    have nocl:∀a∈Np I D own,∀y,c.env.cells.lookup y≠some a:=λa ha y e=>by
     refine Cm (I₀.cells y a e) λz_ o ov h2 z_=>?_;exact hn _ h2 ha
    have A₂:At c2 ((x,er v)::HG (CK scope.names) ps) led { c.s with heap:=h₃,toks:=tk₃ }:=by
     refine⟨h₃,tk₃,m,(D,LCg.lst ys)::(D+1,oC)::(I,o')::(oc++con),F₃,λp hp=>?_,λa o e=>(An (V a o e) λo1 k1 k2=>⟨o1,.tail _ (.tail _ (.tail _ (List.mem_append_right _ k1))),k2⟩),⟨λy u hy=>?_,λy a ha=>?_,λq hq=>?_,λz_ z_=>rfl⟩⟩
     ·rcases List.mem_cons.mp hp with rfl | hp
      ·exact⟨eD,hfs _ (.tail _ (.tail _ (.head _)))⟩
      rcases List.mem_cons.mp hp with rfl | hp
      ·exact⟨gC3,hfs _ (.tail _ (.head _))⟩
      rcases List.mem_cons.mp hp with rfl | hp
      ·exact⟨eI,hfs _ (.head _)⟩
      rcases List.mem_append.mp hp with hp | hp
      ·exact⟨(oc1 p hp).1,hfs _ (.tail _ (.tail _ (.tail _ (oc1 p hp).2)))⟩
      ·exact N₃ p hp
     ·replace hy:=List.lookup_cons.symm.trans hy;split at hy
      ·rename_i ey;obtain rfl:=Option.some.inj hy;refine Aa (eq_of_beq ey) ?_;refine⟨v,?_,rfl⟩;unfold Rd;rcases ow with ⟨e1,e2⟩ | ⟨e1,e2⟩
       ·refine Aa e2 ?_;exact⟨oC,mC,.tail _ (.head _),nC,hxl e2⟩
       ·refine Aa e2 ?_;refine CT λGG up=>?_;refine An (hxc e2) λo g1 g2=>?_;refine Ax (oc2 (x,D+1+1) (by rw[e1];exact .head _)) λo2 ov k1 k2=>?_;refine up ?_;have k3:=(oc1 _ k1).1;rw[show((D+1+1,o2):Addr×Obj).1=D+1+1 from rfl,g1] at k3;refine⟨D+1+1,o2,?_,.tail _ (.tail _ (.tail _ (List.mem_append_left _ k1))),(Option.some.inj k3:o=o2)▸g2⟩;refine(?_:(own++cl).lookup x=_);refine Aa e1 ?_;refine(?_:List.lookup x ((x,D+1+1)::cl)=_);exact List.lookup_cons.trans (Aa (beq_self_eq_true ..) rfl)
      ·refine oA (Sl hy) λhy1 hy2=>?_;refine Cg (hcap1 y hy1) λh1 h2 h3=>?_;refine An (I₀.vars _ _ hy2) λv' g1 g2=>?_;refine⟨v',?_,g2⟩;refine An (clh y hy1) λa l1 l2=>?_;refine A3 (g1.un h1) λa' o g3 g4 g5=>?_;replace g3:=l2.symm.trans g3;obtain rfl:=Option.some.inj g3;exact Rd.mk h2 ⟨a,o,l1,.tail _ (.tail _ (.tail _ (List.mem_append_right _ g4))),g5⟩
     ·rcases oin y a ha with ⟨e1,e2,e3⟩ | ⟨e1,e2⟩
      ·refine Ax (oc2 (x,D+1+1) (by rw[e3];exact .head _)) λo2 ov k1 k2=>?_;refine Aa e2 ?_;exact⟨hled _ (.tail _ (.tail _ (.tail _ (by refine Aa e3 ?_;exact .head _)))),o2,ov,.tail _ (.tail _ (.tail _ (List.mem_append_left _ k1))),k2⟩
      ·refine Cm (I₀.cells y a e2) λg1 o ov g2 g3=>?_;exact⟨g1,o,ov,.tail _ (.tail _ (.tail _ (List.mem_append_right _ g2))),g3⟩
     ·have cell:∀a,a∈I::(D+1)::[D]→∀y,(own++cl).lookup y≠some a:=λa ha y e=>by
       have ha':a∈Np I D own:=by
        rcases List.mem_cons.mp ha with rfl | ha
        ·exact .head _
        rcases List.mem_cons.mp ha with rfl | ha
        ·exact .tail _ (.head _)
        ·refine Aa (List.mem_singleton.mp ha) ?_;exact .tail _ (.tail _ (.head _))
       rcases oin y a e with ⟨e1,e2,e3⟩ | ⟨e1,e2⟩
       ·refine Cg (nO a (by rw[e3,e2];exact .head _)) λq1 q2 q3=>?_;rcases List.mem_cons.mp ha with e | ha
        ·exact q1 e
        rcases List.mem_cons.mp ha with e | ha
        ·exact q2 e
        ·exact q3 (List.mem_singleton.mp ha)
       ·exact nocl a ha' y e2
      rcases List.mem_cons.mp hq with rfl | hq
      ·exact⟨.head _,hled _ (.tail _ (.tail _ (.head _))),cell _ (.tail _ (.tail _ (.head _)))⟩
      rcases List.mem_cons.mp hq with rfl | hq
      ·exact⟨.tail _ (.head _),hled _ (.tail _ (.head _)),cell _ (.tail _ (.head _))⟩
      rcases List.mem_cons.mp hq with rfl | hq
      ·exact⟨.tail _ (.tail _ (.head _)),hled _ (.head _),cell _ (.head _)⟩
      ·refine oA (List.mem_filter.mp hq) λh1 h2=>?_;rw[Bool.and_eq_true] at h2;refine⟨.tail _ (.tail _ (.tail _ (List.mem_append_right _ h1))),by simpa using h2.1,λy e=>?_⟩;rcases List.mem_append.mp (As e) with hm | hm
       ·exact hn q h1 (.tail _ (.tail _ (.tail _ (List.mem_map_of_mem (f:=λp:Str×Addr=>p.2) hm))))
       ·have h3:=h2.2;rw[List.contains_iff_mem.mpr (List.mem_map_of_mem (f:=λp:Str×Addr=>p.2) hm)] at h3;contradiction
    have back:∀{l' s'},At c2 ((x,er v)::HG (CK scope.names) ps) l' s'→bL c ps m own I D o' ys mC l' s':=by
     rintro l' s' ⟨h',tk',m2,con2,F2,N2,V2,I2⟩;have em:m2=m:=I2.fm _ rfl;subst em;refine Cg (I2.its (D,LCg.lst ys) (.head _)) λd1 d2 d3=>?_;refine Cg (I2.its (D+1,oC) (.tail _ (.head _))) λc1 c3 c4=>?_;refine Cg (I2.its (I,o') (.tail _ (.tail _ (.head _)))) λi1 i2 i3=>?_;have xc:∀p∈own,(own++cl).lookup p.1=some p.2:=λp hp=>by
      rcases ow with ⟨e,_⟩ | ⟨e,_⟩
      ·rw[e] at hp;contradiction
      ·rw[e] at hp ⊢;cases List.mem_singleton.mp hp;refine(?_:List.lookup x ((x,D+1+1)::cl)=_);exact List.lookup_cons.trans (Aa (beq_self_eq_true ..) rfl)
     have ln:∀a∈Np I D own,l' a=none:=λa ha=>by
      rcases List.mem_cons.mp ha with rfl | ha
      ·exact i2
      rcases List.mem_cons.mp ha with rfl | ha
      ·exact c3
      rcases List.mem_cons.mp ha with rfl | ha
      ·exact d2
      ·refine An (List.mem_map.mp ha) λp hp ho2=>?_;subst ho2;exact(I2.cells _ _ (xc p hp)).1
     have keep:∀q∈con,led q.1=none→(∀y,(y,q.1)∉cl)→q∈con2∧l' q.1=none:=λq hq e hne=>by
      have hm:q∈its2:=.tail _ (.tail _ (.tail _ (List.mem_filter.mpr ⟨hq,by
       refine Aa (Bool.and_eq_true ..) (Aa e ?_);refine⟨rfl,?_⟩
       cases hb:(cl.map (·.2)).contains q.1 with
       |false=>rfl
       |true=>
        refine An (List.mem_map.mp (List.contains_iff_mem.mp hb)) λp hp e2=>?_;exact absurd (show(p.1,q.1)∈cl from e2▸hp) (hne p.1)⟩)))
      exact⟨(I2.its q hm).1,(I2.its q hm).2.1⟩
     refine⟨h',tk',UB (Np I D own) con2,(N2 _ i1).1,(N2 _ d1).1,nC.ns (N2 _ c1).1,λp hp=>?_,F2,λp hp=>N2 p (Ct.mp hp).1,λa o e=>?_,⟨λy u hy=>?_,λy a ha=>?_,λq hq=>?_,I₀.fm⟩,λp hp=>(Ct.mp hp).2⟩
     ·refine Cm (I2.cells _ _ (xc p hp)) λz_ o ov k1 k2=>?_;exact⟨ov,o,(N2 _ k1).1,k2⟩
     ·refine An (V2 a o e) λo1 k1 k2=>?_;exact⟨o1,Ct.mpr ⟨k1,λhm=>by replace e:=(ln a hm).symm.trans e;cases e⟩,k2⟩
     ·refine An (I₀.vars _ _ hy) λv' g1 g2=>?_;by_cases hl:cs.names.lookup y=some .local
      ·refine⟨v',?_,g2⟩;unfold Rd at g1 ⊢;rw[hl] at g1 ⊢;exact g1
      ·refine A3 (g1.un hl) λa o g3 g4 g5=>?_;by_cases hm:∃z,(z,a)∈cl
       ·refine oE hm λz hz=>?_;refine oA (clm z a hz) λz1 z2=>?_;have ez:=c.inj _ _ _ g3 z2;subst ez;refine Cg (hcap1 y z1) λh1 h2 h3=>?_;refine An (I2.vars y u (by rw[List.lookup_cons,show(y==x)=false by simpa using h3];exact PH hy z1)) λv2 k1 k2=>?_;refine An (clh y z1) λa2 l1 l2=>?_;refine A3 (k1.un h2) λa3 o3 k3 k4 k5=>?_;have k3:(own++cl).lookup y=some a3:=k3;replace k3:=l1.symm.trans k3;obtain rfl:=Option.some.inj k3;replace l2:=g3.symm.trans l2;obtain rfl:=Option.some.inj l2;exact⟨v2,Rd.mk h1 ⟨a,o3,g3,Ct.mpr ⟨k4,λhm=>nocl a hm y g3⟩,k5⟩,k2⟩
       ·refine oA (keep _ g4 (I₀.cells y a g3).1 λz hz=>hm ⟨z,hz⟩) λk1 k2=>?_;exact⟨v',Rd.mk hl ⟨a,o,g3,Ct.mpr ⟨k1,λhm=>nocl a hm y g3⟩,g5⟩,g2⟩
     ·refine Cm (I₀.cells y a ha) λg1 o ov g2 g3=>?_;by_cases hm:∃z,(z,a)∈cl
      ·refine oE hm λz hz=>?_;refine oA (clm z a hz) λz1 z2=>?_;refine An (clh z z1) λa2 l1 l2=>?_;replace l2:=z2.symm.trans l2;obtain rfl:=Option.some.inj l2;refine Cm (I2.cells z a l1) λk1 o2 ov2 k2 k3=>?_;exact⟨k1,o2,ov2,Ct.mpr ⟨k2,λhm=>nocl a hm y ha⟩,k3⟩
      ·refine oA (keep _ g2 g1 λz hz=>hm ⟨z,hz⟩) λk1 k2=>?_;exact⟨k2,o,ov,Ct.mpr ⟨k1,λhm=>nocl a hm y ha⟩,g3⟩
     ·refine Cg (I₀.its q hq) λg1 g2 g3=>?_;refine oA (keep q g1 g2 λz hz=>g3 z (clm z _ hz).2) λk1 k2=>?_;exact⟨Ct.mpr ⟨k1,hn q g1⟩,k2,g3⟩
    refine wpAny_mono (Zb (turn c2 rfl rfl i v (ys.map er) led hlt hP hJ) A₂ (Q:=λok s₃=>if ok=true then wpAny (model PW c.w) c.A (eval elt (compEnvC scope (own++cl) (D+1) c.env)) (λu s₄=>
       wpAny (model PW c.w) c.A (call (.builtin "list.append") [.ref D,u]) (λz_ s₅=>Pst s₅) E₁ s₄) E₁ s₃ else Pst s₃) (Q2:=λu s₄=>wpAny (model PW c.w) c.A (call (.builtin "list.append") [.ref D,u]) (λz_ s₅=>Pst s₅) E₁ s₄) (λs' hs'=>?_) (λu s' l ha hj=>?_) λs' l ha hj=>?_) (λz_ z_ h=>h) λz_ z_ e=>e.elim
    ·refine Aa (if_pos rfl) ?_;exact wpAny_mono hs' (λz_ z_ h=>h) λz_ z_ e=>e.elim
    ·obtain⟨h',tk',con',b1,b2,b3,b4,b5,b6,b7,b8,b9⟩:=back ha;refine append_at (hsz:=by show ys.toArray.size≤sizeLine;refine Aa List.size_toArray ?_;exact Nat.le_trans (Nat.le_trans hyl hi) (Nat.le_trans hz (by decide))) b2 λh₅ hs₅ hD₅=>?_;refine Aa hPst ?_;refine⟨k+1-(i+1),I5 hlt,_,l,ys++[u],i+1,o',mC,⟨h₅,tk',con',hs₅.extBut _ _ nID b1,hD₅.trans (congrArg some (LCg.lst_snoc ys u)),b3.sameBut hs₅ (Nat.succ_ne_self D),λp hp=>?_,b5.change hs₅ (hfs _ inD).1 (hfs _ inD).2,λp hp=>⟨hs₅.extBut _ _ (λe=>b9 p hp (e▸inD)) (b6 p hp).1,(b6 p hp).2⟩,b7,b8,b9⟩,hlt,by refine Aa List.length_append (Aa List.length_singleton ?_);exact Nat.succ_le_succ hyl,hI',by refine Aa List.map_append ?_;exact hj⟩;refine Ax (b4 p hp) λov o o1 o2=>?_;exact⟨ov,o,hs₅.extBut _ _ (nO _ (List.mem_map_of_mem hp)).2.2 o1,o2⟩
    ·refine Aa (if_neg (by decide)) (Aa hPst ?_);exact⟨k+1-(i+1),I5 hlt,_,l,ys,i+1,o',mC,back ha,hlt,Nat.le_succ_of_le hyl,hI',hj⟩
   have next:Fr c.h₀ c.L h₁ m∧News c.h₀ c.L h₁ con:=
    ⟨⟨F.ns.at' λo e=>hk₁ _ o (Ne.symm hIL) e,λb o e=>hk₁ b o (λhb=>by rw[hb,hIh] at e;contradiction) (F.keep b o e),F.above⟩,λp hp=>⟨hk₁ _ _ (hnI p hp) (Nw p hp).1,(Nw p hp).2⟩⟩
   refine oA next λF₁ N₁=>?_;have C₁:h₁.Ns (D+1) mC:=gC.at' λo e=>hk₁ _ o nIC.symm e;have kx:(compEnvC scope (own++cl) (D+1) c.env).kindOf x=(BK scope cs).names.lookup x:=by
    refine(?_:(relabel scope c.env).names.lookup x=_);exact Aa (Ik c.es) rfl
   have fin:∀{E₁:Value→Shared→Prop} {z:Addr} {h₃:Heap} {tk₃:Nat} {mC':Str→Option Value},z∈Np I D own→z≠I→z≠D→Heap.SameBut z h₁ h₃→h₃.Ns (D+1) mC'→(∀p∈own,∃ov,h₃.IsCell p.2 ov)→((BK scope cs).names.lookup x=some .local→mC' x=some v)→((BK scope cs).names.lookup x=some .cell→h₃.IsCell (D+1+1) (some v)) →
     wpAny (model PW c.w) c.A (forIn ifs true λt r=>if r=true then do let ok ← isTrue t (compEnvC scope (own++cl) (D+1) c.env) (eval t (compEnvC scope (own++cl) (D+1) c.env));pure (ForInStep.yield ok) else pure (ForInStep.yield r)) (λok s₃=>
      if ok=true then wpAny (model PW c.w) c.A (eval elt (compEnvC scope (own++cl) (D+1) c.env)) (λu s₄=>
       wpAny (model PW c.w) c.A (call (.builtin "list.append") [.ref D,u]) (λz_ s₅=>Pst s₅) E₁ s₄) E₁ s₃
      else Pst s₃) E₁ { c.s with heap:=h₃,toks:=tk₃ }:=λ{E₁ z h₃ tk₃ mC'} hz zI zD hs₃ n₃ o₃ x1 x2=>
    go h₃ tk₃ mC' (hs₃.extBut _ _ zI.symm ho') (hs₃.extBut _ _ zD.symm (hk₁ _ _ nID.symm gD)) n₃ o₃ x1 x2 (F₁.change hs₃ (hfs z hz).1 (hfs z hz).2) (λp hp=>⟨hs₃.extBut _ _ (λe=>hn p hp (e▸hz)) (N₁ p hp).1,(N₁ p hp).2⟩) E₁
   rw[hPst] at fin;have fin:=@fin;rcases ow with ⟨e1,e2⟩ | ⟨e1,e2⟩
   ·refine wpAny_assign_Name (wpAny_storeName_local (kx.trans e2) C₁ (λh₃ hn₃ hs₃=>?_) (by simp[compEnvC,relabel,hk]));exact fin (z:=D+1) (.tail _ (.head _)) nIC.symm (Nat.succ_ne_self D) hs₃ hn₃ (λp hp=>by rw[e1] at hp;contradiction) (λz_=>if_pos rfl) λe=>by replace e:=e2.symm.trans e;(have hq:=Option.some.inj e;contradiction)
   ·have hmO:(x,D+1+1)∈own:=by refine Aa e1 ?_;exact .head _
    refine oE ((λp hp=>(Ax (gO p hp) λov o e d=>⟨ov,o,hk₁ _ _ (nO _ (List.mem_map_of_mem hp)).1 e,d⟩):∀p∈own,∃ov,h₁.IsCell p.2 ov) _ hmO) λov hv=>?_;have hlk:(own++cl).lookup x=some (D+1+1):=by
     refine Aa e1 ?_;refine(?_:List.lookup x ((x,D+1+1)::cl)=_);exact List.lookup_cons.trans (Aa (beq_self_eq_true ..) rfl)
    refine wpAny_assign_Name (wpAny_storeName_cell hk (kx.trans e2) hlk hv λh₃ hv₃ hs₃=>?_);exact fin (z:=D+1+1) (.tail _ (.tail _ (.tail _ (List.mem_map_of_mem (f:=λp:Str×Addr=>p.2) hmO)))) (nO _ (List.mem_map_of_mem (f:=λp:Str×Addr=>p.2) hmO)).1 (nO _ (List.mem_map_of_mem (f:=λp:Str×Addr=>p.2) hmO)).2.2 hs₃ (C₁.sameBut hs₃ (nO _ (List.mem_map_of_mem (f:=λp:Str×Addr=>p.2) hmO)).2.1.symm) (λp hp=>by
     rw[e1] at hp;cases List.mem_singleton.mp hp;exact⟨_,hv₃⟩) (λe=>by replace e:=e2.symm.trans e;(have hq:=Option.some.inj e;contradiction)) λz_=>hv₃
  ·have hin:i=k:=Nat.le_antisymm hi (Nat.not_lt.mp hlt);subst hin;refine W.done _ _ _ oI ho hI (hU i _ led con h hJ V Nw) λh₁ tk₁ hk₁=>?_;refine An (LCg.ns_obj (gC.at' λo e=>hk₁ _ o nIC.symm e)) λoC eC nC=>?_;have lD:led D=none:=by
    cases e:led D with
    |none=>rfl
    |some o=>
     refine An (V _ _ e) λo1 h1 z_=>?_;exact absurd inD (hn _ h1)
   have lC:led (D+1)=none:=by
    cases e:led (D+1) with
    |none=>rfl
    |some o=>
     refine An (V _ _ e) λo1 h1 z_=>?_;exact absurd inC (hn _ h1)
   have V2:=V.new (a:=D) (o:=.lst (ys.map er)) (o':=LCg.lst ys) ⟨ys,ys.length,rfl,rfl⟩;refine hRR D (D+1) oC mC (ys.map er) led _ ⟨h₁,tk₁,m,(D+1,oC)::(D,LCg.lst ys)::con,(⟨F.ns.at' λo e=>hk₁ _ o (Ne.symm hIL) e,λb o e=>hk₁ b o (λhb=>by rw[hb,hIh] at e;contradiction) (F.keep b o e),F.above⟩:Fr c.h₀ c.L h₁ m),λp hp=>?_,λa o e=>(An (V2 a o e) λo1 k1 k2=>⟨o1,.tail _ k1,k2⟩),VW (I₀.step (λz_ hq z_=>.tail _ hq) λq hq e=>(if_neg λe2=>hn q hq (by refine Aa e2 ?_;exact inD)).trans e) (λp hp=>?_) (A0 lC (Nat.succ_ne_self D))⟩ lD nC (λq hq e=>hn q (I₀.its q hq).1 (e▸inC)) hJ
   ·rcases List.mem_cons.mp hp with rfl | hp
    ·exact⟨eC,hfs _ inC⟩
    rcases List.mem_cons.mp hp with rfl | hp
    ·exact⟨hk₁ _ _ nID.symm gD,hfs _ inD⟩
    ·exact⟨hk₁ _ _ (hnI p hp) (Nw p hp).1,(Nw p hp).2⟩
   ·rcases List.mem_cons.mp hp with rfl | hp
    ·exact(Nat.succ_ne_self D).symm
    ·exact λe=>hn p hp (e▸inC)
 exact codeAny_compStart_list loop (hself _ _ _ _ (old _ _ ho) hI (hU 0 [] led con H hJ V (Nw.grown old)) loop)
end
section
variable{c:Cf cs}{K:Value→Lg→Prop}
noncomputable def Cy(elt iter:Expr)(x:Str)(px:Pos)(ifs:List Expr)(scope:Scope)(pos:Pos)(c:Cf cs)(ps:PS)(v:Value)(led:Lg)(Fin:List Value→Lg→Prop):Prop:=∀v',er v'=v→∀s,At c ps led s→∀RR:Value→Addr→Result→Shared→Prop,
 (∀D C oC m' ys led' s',At (c.wi C oC) ps (put D (.lst ys) led') s'→led' D=none→LCg.NsObj oC m'→(∀q∈c.its,q.1≠C)→Fin ys led'→RR (.ref D) C (.ok .next) s') →
 wpAny (model PW c.w) c.A (pyIter v') (λit s₂=>wpAny (model PW c.w) c.A (newList []) (λacc s₃=>wpAny (model PW c.w) c.A (newFunctionEnv scope c.env.globals (Eb c.env.cells scope.names []) [] c.env.qual none .none (some c.env)) (λcenv s₄=>
  codeAny (model PW c.w) c.A (.compStart (.ListComp elt [⟨.Name x px,iter,ifs,0⟩] scope pos) 0 it acc { cenv with scope:=relabel scope c.env }) (RR acc cenv.locals) s₄) c.E s₃) c.E s₂) c.E s
noncomputable def Kl(cs scope:Scope):Bool:=(CK scope.names).all λy=>cs.names.lookup y==some .cell
theorem D9(h:Kl cs scope=true):∀y∈CK scope.names,∃a,c.env.cells.lookup y=some a:=λy hy=>c.has y (beq_iff_eq.mp (List.all_eq_true.mp h y hy))
noncomputable def Ok(cs scope:Scope)(x:Str):Prop:=((BK scope cs).names.lookup x=some .local∧∀k,cellsFrom k scope.names []=[])∨((BK scope cs).names.lookup x=some .cell∧∀k,cellsFrom k scope.names []=[(x,k)])
theorem De(n:Nat){a:Addr}{vs:List Value}(J:Nat→List Value→Lg→Prop)(hv:led a=some (.lst vs))(hJ:J 0 [] led)(hk:∀i ys l,J i ys l→l a=some (.lst vs))(hz:vs.length≤1000000)(turn:∀c2:Cf (BK scope cs),c2.dp=c.dp→c2.un=c.un→∀i v ys led',i<vs.length→vs[i]?=some v→J i ys led'→Zc n c2 ((x,v)::HG (CK scope.names) ps) elt ifs (J (i+1)) ys led')(hkd:scope.kind = .function:=by rfl)(hcap:L9 scope cs x=true:=by rfl)(hown:Ok cs scope x)(hc:Kl cs scope=true:=by rfl):Cy elt iter x px ifs scope pos c ps (.ref a) led (J vs.length):=by
 intro v' e s hs RR hRR;obtain rfl:=Af e;obtain⟨h,tk,m,con,F,Nw,C,I₀⟩:=hs;refine Ax (C.list hv) λws z hm ew=>?_;have lt:∀p∈con,p.1<h.objs.size:=λp hp=>Heap.lt_size (Nw p hp).1;refine wpAny_pyIter_list (⟨_,(Nw _ hm).1,rfl,_,rfl⟩) ?_;exact Gk n (IH rfl (Nat.ne_of_lt (lt _ hm))) (λs Q E o e hI z_ q=>wpAny_pyIter_listiter (hI _ e) q) J (λi ys led con h hJ C Nw=>by
  refine Ax (C.list (hk _ _ _ hJ)) λws n hm ew=>?_;exact⟨ws,ew,_,(Nw _ hm).1,rfl,_,rfl⟩) (F.push _) (λp hp=>⟨Heap.get?_push_of_some _ (Nw p hp).1,(Nw p hp).2⟩) C I₀ (λp hp=>Nat.ne_of_lt (lt p hp)) (Heap.get?_push_size _ rfl) (λh e=>⟨_,e,rfl,rfl⟩) (Nat.ne_of_gt F.ns.lt) (D4 F) hJ hz hkd hcap hown (D9 hc)
  (λc2 e1 e2 i v ys led' h1 h2 h3=>turn c2 e1 e2 i _ ys led' h1 h2 h3) hRR
theorem Ea(n:Nat){a:Addr}{lo hi:Int}(J:Nat→List Value→Lg→Prop)(hv:led a=some (.rng lo hi))(k:Nat)(hn:(k:Int)=hi-lo∨(k=0∧hi≤lo))(hs : -1000000≤lo∧lo≤1000000 ∧ -1000000≤hi∧hi≤1000000)(hJ:J 0 [] led)(hz:k≤1000000)(turn:∀c2:Cf (BK scope cs),c2.dp=c.dp→c2.un=c.un→∀(i:Nat) (z:Int) ys led',i<k→z=lo+i→J i ys led'→Zc n c2 ((x,.int z 0)::HG (CK scope.names) ps) elt ifs (J (i+1)) ys led')(hkd:scope.kind = .function:=by rfl)(hcap:L9 scope cs x=true:=by rfl)(hown:Ok cs scope x)(hc:Kl cs scope=true:=by rfl):Cy elt iter x px ifs scope pos c ps (.ref a) led (J k):=by
 intro v' e s hs' RR hRR;obtain rfl:=Af e;obtain⟨h,tk,m,con,F,Nw,C,I₀⟩:=hs';refine Ow (C _ _ hv) λo hm t u v ho5=>?_;subst ho5;have hsz:Builtin.Range.rangeSize lo hi 1=(k:Int):=by
  refine(rangeSize_one ..).trans ?_;split<;>(first | exact SX hn (by assumption) | exact SW hn (by assumption))
 refine wpAny_pyIter_range (a:=lo) (b:=hi) (c:=1) (t:=t) (u:=u) (v:=v) (Nw _ hm).1 (small_one (by lia) (by lia) (by lia) (by lia)) ?_;exact Gk n (GT (lo:=lo) (n:=k) rfl) (λs Q E o e hI z_ q=>wpAny_pyIter_rangeiter (hI _ e) q) J (λz_ z_ z_ z_ z_ z_ z_ z_=>trivial) (F.push _) (λp hp=>⟨Heap.get?_push_of_some _ (Nw p hp).1,(Nw p hp).2⟩) C I₀ (λp hp=>Nat.ne_of_lt ((λp hp=>Heap.lt_size (Nw p hp).1) p hp)) (Heap.get?_push_size _ rfl) (λh e=>by rw[hsz] at e;simpa using e) (Nat.ne_of_gt F.ns.lt) (D4 F) hJ hz hkd hcap hown (D9 hc)
  (λc2 e1 e2 i v ys led' h1 h2 h3=>by refine Aa h2 ?_;exact turn c2 e1 e2 i _ ys led' h1 rfl h3) hRR
theorem O0{l:List (Str×NameKind)}(h:l.all (λy=>y.2 != .local||decide (l.lookup y.1=some .local))=true):∀y∈l,y.2 = .local→l.lookup y.1=some .local:=λy hy e=>by
 have:=List.all_eq_true.mp h y hy;rw[e] at this;exact of_decide_eq_true (by simpa using this)
noncomputable def Qp(K:Value→Lg→Prop)(ys:List Value)(l:Lg):Prop:=∀D,l D=none→K (.ref D) (put D (.lst ys) l)
theorem EX(n:Nat)(h:(Ci n c ps).e iter led λv l1=>Cy elt iter x px ifs scope pos c ps v l1 (Qp K))(hc:Kl cs scope=true:=by rfl)(hkd:scope.kind = .function:=by rfl)(hnm:scope.names.all (λy=>y.2 != .local||decide (scope.names.lookup y.1=some .local))=true:=by rfl)(hs:∀x,foldedSetIterable iter c.env x=pure x:=by intro _;rfl) :
  Gq (.ListComp elt [⟨.Name x px,iter,ifs,0⟩] scope pos) c ps led K:=by
 refine⟨λs hs' Q' q=>?_⟩;refine Aa (eval_ListComp ..) ?_;refine wpAny_comprehension_free (use:=none) rfl hs (L8 (D9 hc)) hkd (O0 hnm) (((A6 n).e _ _ _ h).wp hs' λv s1 l1 h1 k1=>k1 v rfl s1 h1 _ λD C oC m' ys led' s' ha hD hN hne hK=>?_);refine⟨m',?_,λh' hs=>q _ _ _ (ha.letGo hne hs) (hK D hD)⟩;obtain⟨h2,tk,m2,con,F,Nw,V,I⟩:=ha;exact hN.ns (Nw _ (I.its (C,oC) (.head _)).1).1
theorem PD(hr:c.rd=none)(n:Nat){y:Str}{py spos:Pos}(h:(Ci n c ps).e iter led λv l1=>Cy elt iter x px ifs scope pos c ps v l1 (Qp λv l=>N (pc y v ps) l))(hsw:∀env:Env,env.scope=cs→swapsWith (.ListComp elt [⟨.Name x px,iter,ifs,0⟩] scope pos) (some (.Name y py)) spos.line env=pure true)(hy:Ft cs y=true:=by rfl)(hc:Kl cs scope=true:=by rfl)(hkd:scope.kind = .function:=by rfl)(hnm:scope.names.all (λy=>y.2 != .local||decide (scope.names.lookup y.1=some .local))=true:=by rfl)(hs:∀x,foldedSetIterable iter c.env x=pure x:=by intro _;rfl) :
  AE c X ps (exec (.Assign [.Name y py] (.ListComp elt [⟨.Name x px,iter,ifs,0⟩] scope pos) spos) c.env) led N:=by
 intro s hs' Q' q;refine Aa (exec_Assign_Name_used _ _ _ _ (hsw _ c.es)) ?_;refine wpAny_bind (wpAny_standAt (wpAny_bind ?_));refine(?_:wpAny _ _ (do let _ ← comprehension (.ListComp elt [⟨.Name x px,iter,ifs,0⟩] scope pos) scope c.env _ (newList []) false (eval iter c.env) (some (assign (.Name y py) c.env))) _ _ s);refine wpAny_bind (wpAny_mono (wpAny_comprehension_free (use:=some (assign (.Name y py) c.env)) (Q:=λz_ s'=>Q' .next s') rfl hs (L8 (D9 hc)) hkd (O0 hnm)
  (((A6 n).e _ _ _ h).wp hs' λv s1 l1 h1 k1=>k1 v rfl s1 h1 _ λD C oC m' ys led' s' ha hD hN hne hK=>?_)) (λz_ s' hq=>wpAny_pure (wpAny_pure hq)) λz_ z_ e=>e)
 refine PyProof.Rows.assign_Name (BU (c:=c.wi C oC) hr ha hy λs2 h2=>⟨m',?_,λh' hs=>q .next _ ⟨_,_,h2.letGo hne hs,hK D hD⟩⟩);obtain⟨h2,tk,m2,con,F,Nw,V,I⟩:=h2;exact hN.ns (Nw _ (I.its (C,oC) (.head _)).1).1
end
noncomputable def Fb:Bool→Str
 |true=>"replace"
 |false=>"equal"
noncomputable def Al(x:Str):Value:=.str x 0
noncomputable abbrev C7:=Bool×Int×Int×Int×Int
noncomputable def Gy(r:C7):Dat:=.tuple [.str (Fb r.1),.int r.2.1,.int r.2.2.1,.int r.2.2.2.1,.int r.2.2.2.2]
noncomputable def CF(rs:List C7)(b:Bool)(k j j':Int):List C7:=match rs.getLast? with
 |some (b0,p,_,q,_)=>if b0=b then rs.dropLast++[(b,p,k+1,q,j')] else rs++[(b,k,k+1,j,j')]
 |none=>rs++[(b,k,k+1,j,j')]
noncomputable def Bw(c:Str)(st:List C7×Int×Int)(x:Str):List C7×Int×Int:=
 let b:=Txt.item x 0==c
 let j':=st.2.2+if b=true then 2 else 1
 (CF st.1 b st.2.1 st.2.2 j',st.2.1+1,j')
theorem FC{c:Str}{xs:List Str}{x:Str}{i:Nat}{k:Int}{rs rs2:List C7}{j d:Int}{b:Bool}(hk:k=(i:Int))(hf:(xs.take i).foldl (Bw c) ([],0,0)=(rs,(i:Int),j))(hx:xs[i]?=some x)(hb:(Txt.item x 0==c)=b)(hd:d=if b=true then 2 else 1)(hr:CF rs b k j (j+d)=rs2) :
  (xs.take (i+1)).foldl (Bw c) ([],0,0)=(rs2,((i+1:Nat):Int),j+d):=by
 subst hk;refine Aa List.take_add_one (Aa hx (List.foldl_append.trans (Aa hf ?_)));refine(?_:Bw c (rs,(i:Int),j) _=_);unfold Bw;simp only[hb];refine AV hd (Aa hr ?_);rfl
theorem KJ:CF [] b k j j'=[]++[(b,k,k+1,j,j')]:=rfl
theorem FE(h:b0=b):CF (rs++[(b0,p,e,q,f)]) b k j j'=rs++[(b,p,k+1,q,j')]:=by
 simp[CF,h]
theorem EP(h:b0≠b):CF (rs++[(b0,p,e,q,f)]) b k j j'=rs++[(b0,p,e,q,f)]++[(b,k,k+1,j,j')]:=by
 simp[CF,h]
theorem KH(r:C7):kqdOk 8 (Gy r)=true:=by
 obtain⟨b,p,e,q,f⟩:=r;cases b<;>(simp only[Gy,kqdOk,List.all_cons,List.all_nil,Bool.and_true];decide +kernel)
noncomputable abbrev zV(i:Int):Value:=.int i 0
theorem Ev(h:ws.map er=ns.map zV):IntsAre ws ns:=by
 induction ns generalizing ws with
 |nil=>obtain rfl:=List.map_eq_nil_iff.mp h;exact .nil
 |cons n ns ih=>
  refine A3 (List.map_eq_cons_iff.mp h) λw us h1 h2 h3=>?_;subst h1;refine oE (AQ h2) λt ho=>?_;subst ho;exact .cons n t (ih h3)
theorem Lr(h:IntsAre ws ns):ws.map er=ns.map zV:=by
 induction h with
 |nil=>rfl
 |cons n t _ ih=>simp only[List.map_cons,er,ih]
theorem K8(h:ws.map er=xs.map Al):StrsAre ws xs:=by
 induction xs generalizing ws with
 |nil=>obtain rfl:=List.map_eq_nil_iff.mp h;exact .nil
 |cons x xs ih=>
  refine A3 (List.map_eq_cons_iff.mp h) λw us h1 h2 h3=>?_;subst h1;refine oE (AB (show er w = .str x 0 from h2)) λt ho=>?_;subst ho;exact .cons x t (ih h3)
theorem Lq(h:StrsAre ws xs):ws.map er=xs.map Al:=by
 induction h with
 |nil=>rfl
 |cons n t _ ih=>simp only[List.map_cons,er,ih,Al]
section
variable{c:Cf cs}{K:Value→Lg→Prop}{ns:List Int}
theorem Ll(hk:K (zV (a.fmod k)) led)(h:(k != 0)=true:=by rfl):Jo .Mod c ps (zV a) (zV k) led K:=λa' b' ea eb=>by
 refine oE (AQ ea) λt ho1=>?_;subst ho1;refine oE (AQ eb) λu ho1=>?_;subst ho1;exact A8 _ hk λq=>mod_int' (by simpa using h) (q _ _ rfl)
theorem Fu(hk:K (zV (a.fdiv k)) led)(h:(k != 0)=true:=by rfl)(h2:Nat.ble k.natAbs 1000000=true:=by rfl):Jo .FloorDiv c ps (zV a) (zV k) led K:=λa' b' ea eb=>by
 refine oE (AQ ea) λt ho1=>?_;subst ho1;refine oE (AQ eb) λu ho1=>?_;subst ho1;exact A8 _ hk λq=>floordiv_int (by simpa using h) (q _ _ rfl) (.inl (PyProof.noPylong_small (Nat.lt_of_le_of_lt (Nat.le_of_ble_eq_true h2) (by decide))))
theorem str_int(hk:K (.str (Str.ofString (toString k)) 0) led)(h:k.natAbs≤1000000):A4 c ps (.type "str") [zV k] led K:=λf' vs' ef ev=>by
 obtain rfl:=Bj ef;refine An (Bf ev) λv1 ho1 e1=>?_;subst ho1;refine oE (AQ e1) λt ho1=>?_;subst ho1;refine A8 _ hk λq=>PySem.P.str_of_int ?_ (q _ _ rfl);by_cases h0:k.natAbs=0
 ·refine Aa h0 ?_;decide
 ·exact Nat.lt_of_lt_of_le ((Nat.log2_lt h0).mpr (Nat.lt_of_le_of_lt h (by decide:1000000<2^20))) (by decide)
theorem PE(hk:K (.bool (p != q)) led):Ky .NotEq c ps (.bool p) (.bool q) led K:=λa' b' ea eb=>by
 obtain rfl:=E2 ea;obtain rfl:=E2 eb;exact A8 _ hk λq=>PyProof.Rows.ne_bool (q _ _ rfl)
theorem Hx(hv:led D=some (.lst vs))(hb:led b=some (.lst us))(hk:∀l,led l=none→K (.ref l) (put l (.lst (vs++us)) led))(hz:vs.length≤100000)(hz2:us.length≤100000):Jo .Add c ps (.ref D) (.ref b) led K:=λa' b' ea eb=>by
 obtain rfl:=Af ea;obtain rfl:=Af eb;refine Cz hk λh tk m con Q' F N C q=>?_;refine Ax (C.list hv) λws n hm e=>?_;refine Ax (C.list hb) λts n2 hm2 e2=>?_;exact VI F N hm hm2 (AP e▸Nat.le_trans hz (by decide)) (AP e2▸Nat.le_trans hz2 (by decide)) λl h' F' N' hl=>q l h' tk _ ⟨_,_,rfl,Aa List.map_append (Aa e (Aa e2 rfl))⟩ F' N' hl
theorem OJ(hv:led D=some (.lst vs))(hb:led b=some (.lst us))(hu:us≠[])(hk:K (.ref D) (put D (.lst (vs++us)) led))(hz:vs.length≤100000)(hz2:us.length≤100000):Nl .Add c ps (.ref D) (.ref b) led K:=λa' b' ea eb=>by
 obtain rfl:=Af ea;obtain rfl:=Af eb;refine Cp hv hk λh tk m con Q' F N C q=>?_;refine Ax (C.list hv) λws n hm e=>?_;refine Ax (C.list hb) λts n2 hm2 e2=>?_;exact Vp F N hm hm2 (λe5=>hu (by refine AV e2 (Aa e5 ?_);rfl)) (AP e▸Nat.le_trans hz (by decide)) (AP e2▸Nat.le_trans hz2 (by decide)) λh' F' N'=>q _ h' tk _ rfl ⟨_,_,rfl,Aa List.map_append (Aa e (Aa e2 rfl))⟩ F' N'
theorem Fx(hv:led D=some (.lst vs))(hb:led b=some (.lst us))(hne:b≠D)(hk:K .none (put D (.lst (vs++us)) led))(hz:vs.length≤100000)(hz2:us.length≤100000):A4 c ps (.builtin "list.extend") [.ref D,.ref b] led K:=λf' vs' ef ev=>by
 obtain rfl:=Aq ef;refine A3 (Cw ev) λv1 v2 ho2 e1 e2=>?_;subst ho2;obtain rfl:=Af e1;obtain rfl:=Af e2;refine Cp hv hk λh tk m con Q' F N C q=>?_;refine Ax (C.list hv) λws n hm e=>?_;refine Ax (C.list hb) λts n2 hm2 e4=>?_;exact MK F N hm hm2 hne (AP e▸Nat.le_trans hz (by decide)) (AP e4▸Nat.le_trans hz2 (by decide)) λh' n' F' N'=>q _ h' tk _ rfl ⟨_,_,rfl,Aa List.map_append (Aa e (Aa e4 rfl))⟩ F' N'
theorem Ro{N:Lg→Prop}{i:Nat}{z:Int}(hv:led D=some (.lst (ns.map zV)))(hi:i<ns.length)(h2:i<1000)(hk:N (put D (.lst ((ns.set i z).map zV)) led)):Sx c ps (.ref D) (zV i) (zV z) led N:=λa' b' v' ea eb ev=>by
 obtain rfl:=Af ea;refine oE (AQ eb) λt ho1=>?_;subst ho1;refine oE (AQ ev) λu ho1=>?_;subst ho1;refine Cp hv (v:=()) hk λh tk m con Q' F N C q=>?_;refine Ax (C.list hv) λws n hm e=>?_;exact Us F N hm (Ev e) hi h2 λh' F' N' I'=>q () h' tk _ rfl ⟨_,_,rfl,Lr I'⟩ F' N'
theorem GP(hv:led D=some (.lst (ns.map zV)))(hr:r=true↔z∉ns)(hk:K (.bool r) led):Ky .NotIn c ps (zV z) (.ref D) led K:=λa' b' ea eb=>by
 refine oE (AQ ea) λt ho1=>?_;subst ho1;obtain rfl:=Af eb;refine A9 hk λh tk m con Q' F N C q=>?_;refine Ax (C.list hv) λws n hm e=>?_;refine O1 N hm (Ev e) λd hd=>q _ _ ?_;have:d=r:=Bool.eq_iff_iff.mpr (hd.trans hr.symm);refine Aa this ?_;rfl
theorem LA(hv:led D=some (.lst (ns.map zV)))(h1:z∈ns)(h2:∀a∈ns,a≤z)(hk:K (zV z) led):A4 c ps (.builtin "max") [.ref D] led K:=λf' vs' ef ev=>by
 obtain rfl:=Aq ef;refine An (Bf ev) λv1 ho1 e1=>?_;subst ho1;obtain rfl:=Af e1;intro s hs Q' q;refine C0 hs.read λm con F Nw C back=>?_;refine Ax (C.list hv) λws n hm e=>?_;refine max_list_N rfl F Nw (AD Nw hm) (Ev e) (List.length_pos_of_mem h1) λh' M t tk F' N' g1 g2=>q _ _ _ (back h' tk F' N') ?_;refine Aa (show M=z from Int.le_antisymm (h2 _ g1) (g2 _ h1)) ?_;exact hk
theorem Sn{z:Int}(hv:led D=some (.lst (ns.map zV)))(h1:z∈ns)(h2:∀a∈ns,z≤a)(hk:K (zV z) led):A4 c ps (.builtin "min") [.ref D] led K:=λf' vs' ef ev=>by
 obtain rfl:=Aq ef;refine An (Bf ev) λv1 ho1 e1=>?_;subst ho1;obtain rfl:=Af e1;intro s hs Q' q;refine C0 hs.read λm con F Nw C back=>?_;refine Ax (C.list hv) λws n hm e=>?_;refine min_list_N rfl F Nw (AD Nw hm) (Ev e) (List.length_pos_of_mem h1) λh' M t tk F' N' g1 g2=>q _ _ _ (back h' tk F' N') ?_;refine Aa (show M=z from Int.le_antisymm (g2 _ h1) (h2 _ g1)) ?_;exact hk
theorem Sm(hv:led D=some (.lst (ns.map zV)))(hk:K (zV ns.sum) led):A4 c ps (.builtin "sum") [.ref D] led K:=λf' vs' ef ev=>by
 obtain rfl:=Aq ef;refine An (Bf ev) λv1 ho1 e1=>?_;subst ho1;obtain rfl:=Af e1;intro s hs Q' q;refine C0 hs.read λm con F Nw C back=>?_;refine Ax (C.list hv) λws n hm e=>?_;exact LSm.sum_ints F Nw rfl (AD Nw hm) (Ev e) λh' tk t F' N'=>q _ _ _ (back h' tk F' N') hk
theorem M8(hv:led D=some (.lst vs))(hne:vs≠[])(hk:K .none (put D (.lst []) led))(hz:vs.length≤10000):A4 c ps (.builtin "list.clear") [.ref D] led K:=λf' vs' ef ev=>by
 obtain rfl:=Aq ef;refine An (Bf ev) λv1 ho1 e1=>?_;subst ho1;obtain rfl:=Af e1;refine Cp hv hk λh tk m con Q' F N C q=>?_;refine Ax (C.list hv) λws n hm e=>?_;exact Sj F N hm (λe5=>hne (by refine AV e (Aa e5 ?_);rfl)) (AP e▸hz) λh' F' N'=>q _ h' tk _ rfl ⟨[],_,rfl,rfl⟩ F' N'
theorem Uc(hv:led D=some (.lst vs))(hk:∀l,led l=none→K (.ref l) (put l (.tup vs) led))(hz:vs.length≤10000):A4 c ps (.type "tuple") [.ref D] led K:=λf' vs' ef ev=>by
 obtain rfl:=Bj ef;refine An (Bf ev) λv1 ho1 e1=>?_;subst ho1;obtain rfl:=Af e1;refine Cz hk λh tk m con Q' F N C q=>?_;refine Ax (C.list hv) λws n hm e=>?_;exact LM F N hm (AP e▸hz) λl h' F' N' hl=>q l h' tk _ ⟨ws,0,rfl,e⟩ F' N' hl
theorem Nv(hv:led D=some (.tup vs))(hk:K (.ref D) led):A4 c ps (.type "tuple") [.ref D] led K:=λf' vs' ef ev=>by
 obtain rfl:=Bj ef;refine An (Bf ev) λv1 ho1 e1=>?_;subst ho1;obtain rfl:=Af e1;refine A9 hk λh tk m con Q' F N C q=>?_;refine Ax (C.tuple hv) λws n hm e=>?_;exact call_tuple_same ⟨_,(N _ hm).1,rfl,_,rfl⟩ (q _ _ rfl)
theorem Le(hv:led D=some (.tup vs))(hk:K (.int vs.length 0) led)(hz:vs.length≤1000000):A4 c ps (.builtin "len") [.ref D] led K:=λf' vs' ef ev=>by
 obtain rfl:=Aq ef;refine An (Bf ev) λv1 ho1 e1=>?_;subst ho1;obtain rfl:=Af e1;refine A9 hk λh tk m con Q' F N C q=>?_;refine Ax (C.tuple hv) λws n hm e=>?_;exact UY N hm (AP e▸hz) (q _ _ (by refine AV e ?_;simp[er]))
theorem PQ{r:Bool}(hv:led D=some (.lst vs))(hr:(!vs.isEmpty)=r)(hk:K (.bool r) led)(hz:vs.length≤1000000):A4 c ps (.type "bool") [.ref D] led K:=λf' vs' ef ev=>by
 obtain rfl:=Bj ef;refine An (Bf ev) λv1 ho1 e1=>?_;subst ho1;obtain rfl:=Af e1;refine A9 hk λh tk m con Q' F N C q=>?_;refine Ax (C.list hv) λws n hm e=>?_;exact VD N hm (AP e▸hz) (by refine AV hr (AV e ?_);cases ws<;>rfl) (q _ _ rfl)
theorem PM(hv:led D=some (.lst (xs.map Al)))(hk:K (.str (Txt.join x xs) 0) led)(hB:∀y∈xs,y.length≤1000)(hn:xs.length≤1000)(hs:x.length≤1):A4 c ps (.builtin "str.join") [.str x 0,.ref D] led K:=λf' vs' ef ev=>by
 obtain rfl:=Aq ef;refine A3 (Cw ev) λv1 v2 ho2 e1 e2=>?_;subst ho2;refine oE (AB e1) λt ho1=>?_;subst ho1;obtain rfl:=Af e2;refine A9 hk λh tk m con Q' F N C q=>?_;refine Ax (C.list hv) λws n hm e=>?_;exact Vl N hm (K8 e) hB hn hs λt' k z_=>q _ _ rfl
theorem MX(hk:∀l,led l=none→K (.ref l) (put l (.lst ((Txt.split x y).map Al)) led))(hy:(y.length==0)=false)(hz:x.length≤1000000):A4 c ps (.builtin "str.split") [.str x 0,.str y 0] led K:=λf' vs' ef ev=>by
 obtain rfl:=Aq ef;refine A3 (Cw ev) λv1 v2 ho2 e1 e2=>?_;subst ho2;refine oE (AB e1) λt ho1=>?_;subst ho1;refine oE (AB e2) λu ho1=>?_;subst ho1;refine Cz hk λh tk m con Q' F N C q=>?_;exact KSpl.split1 F N hy (λD l h' k e S F' N' lt=>q D h' k _ ⟨_,_,rfl,Aa (Lq S) (Aa e rfl)⟩ F' N' lt) (Nat.le_trans (Nat.add_le_add_right hz 2) (by decide))
theorem Na{f:Nat}(hv:led D=some (.lst ([("/a":Str),("/u/b":Str),("/u/v/c":Str),("/w/d":Str)].map Al)))(hf:f<4)(hk:K (zV f) led):A4 c ps (.builtin "list.index") [.ref D,.str (Ah f) 0] led K:=λf' vs' ef ev=>by
 obtain rfl:=Aq ef;refine A3 (Cw ev) λv1 v2 ho2 e1 e2=>?_;subst ho2;obtain rfl:=Af e1;refine oE (AB e2) λt ho1=>?_;subst ho1;refine A9 hk λh tk m con Q' F N C q=>?_;refine Ax (C.list hv) λws n hm e=>?_;obtain⟨w0,r0,rfl,e0,e⟩:=List.map_eq_cons_iff.mp e;obtain⟨w1,r1,rfl,e1,e⟩:=List.map_eq_cons_iff.mp e;refine A3 (Cw e) λw2 w3 ho2 e2 e3=>?_;subst ho2;refine oE (AB (t:=0) e0) λt0 ho1=>?_;subst ho1;refine oE (AB (t:=0) e1) λt1 ho1=>?_;subst ho1;refine oE (AB (t:=0) e2) λt2 ho1=>?_;subst ho1;refine oE (AB (t:=0) e3) λt3 ho1=>?_;subst ho1;exact Gz N hm hf (q _ _ rfl)
theorem P7(n:Nat){v lo:Expr}{p p2:Pos}(h:(Ci n c ps).e v led λa l1=>(Ci n c ps).e lo l1 λu l2=>∃D vs,∃k:Nat,a = .ref D∧u=zV k∧l2 D=some (.lst vs)∧vs.length≤100000∧∀l,l2 l=none→K (.ref l) (put l (.lst (vs.drop k)) l2))(hn:Ir v=true:=by rfl):Gq (.Subscript v (.Slice (some lo) none none p2) p) c ps led K:=by
 refine⟨λs hs Q' q=>PyProof.Rows.Subscript_ (((A6 n).e _ _ _ h).wp hs λa s1 l1 h1 k1=>wpAny_Slice (((A6 n).e _ _ _ k1).wp h1 λu s2 l2 h2 k2=>wpAny_pure (wpAny_pure ?_)))⟩;refine Ou k2 λD vs k e1 e2 hD hz k3=>?_;obtain rfl:=Af e1;refine oE (AQ e2) λt ho1=>?_;subst ho1;obtain⟨h,tk,m,con,F,Nw,C,I⟩:=h2;refine Ax (C.list hD) λws z hm e=>?_;have hl:=AP e;refine Ie F Nw hm (by refine Aa hl ?_;exact Nat.le_trans hz (by decide)) (λD' h' F' N' lt=>?_) rfl (λz_=>Ep hn);refine oA (C3 (tk:=tk) F' N' C I lt (o:=.lst (vs.drop k)) ⟨_,_,rfl,by rw[List.map_drop,e]⟩) λg1 g2=>?_;exact q (.ref D') _ _ g2 (k3 D' g1)
noncomputable def Cf.nv(c:Cf cs):Cf cs:={ c with E:=λz_ z_=>False,hE:=λz_=>PassesOwn.never }
theorem At.nv{s:Shared}:At c.nv ps led s↔At c ps led s:=by
 constructor<;>(intro hX;obtain⟨h,tk,m,con,F,N,V,I⟩:=hX;exact⟨h,tk,m,con,F,N,V,⟨I.vars,I.cells,I.its,I.fm⟩⟩)
theorem RJ{f:Flow}{s:Shared}(h:C4 c.nv X N f s):C4 c X N f s:=by
 cases f with
 |next=>refine Ax h λp l h1 h2=>?_;exact⟨p,l,At.nv.mp h1,h2⟩
 |ret v=>refine Ax h λp l h1 h2=>?_;exact⟨p,l,At.nv.mp h1,h2⟩
 |brk=>refine Ax h λp l h1 h2=>?_;exact⟨p,l,At.nv.mp h1,h2⟩
 |cont=>refine Ax h λp l h1 h2=>?_;exact⟨p,l,At.nv.mp h1,h2⟩
theorem Ue{body:List Stmt}{h0:ExceptHandler}{hs:List ExceptHandler}{pos:Pos}(h:∀c':Cf cs,DD c c'→AE c' X ps (execs body c'.env) led N):AE c X ps (exec (.Try body (h0::hs) [] [] pos) c.env) led N:=λs hs Q' q=>
 wpAny_Try_except (wpAny_mono ((h c.nv ⟨rfl,rfl,rfl⟩).wp (At.nv.mpr hs) λf s' hf=>RJ hf) (λf s' hf=>by
  cases f with
  |next=>exact wpAny_execs_nil (q _ _ hf)
  |ret v=>exact q _ _ hf
  |brk=>exact q _ _ hf
  |cont=>exact q _ _ hf) λz_ z_ e=>e.elim)
theorem LC(n:Nat){a b:Expr}{pos:Pos}(h:(Ci n c ps).e a led λv l1=>LN c ps v l1 λr l2=>BB r (K v l2) ((Ci n c ps).e b l2 K)):Gq (.BoolOp .Or [a,b] pos) c ps led K:=
 ⟨λs hs Q' q=>BoolOp_or (((A6 n).e _ _ _ h).wp hs λv s1 l1 h1 k1=>(Fm k1 v rfl).wp h1 λr s2 l2 h2 k2=>by
  cases r with
  |true=>refine Aa (if_pos rfl) ?_;exact q _ _ _ h2 (k2.1 rfl)
  |false=>refine Aa (if_neg (by decide)) ?_;exact BoolOp_one (((A6 n).e _ _ _ (k2.2 rfl)).wp h2 q))⟩
theorem GU(hr:c.rd=none)(m n:Nat){x:Str}{e:Expr}{b o:List Stmt}{p1 p2 p3 p4 pos:Pos}{kd:Nat}(h:(Ci n c ps).e e led λv l1=>El (nn v) (λz=>BB z (HS n m c X b (pc x v ps) l1 N) (HS n m c X o (pc x v ps) l1 N)) False)(hk:Ft cs x=true:=by rfl) :
  AE c X ps (exec (.If (.Compare (.NamedExpr (.Name x p1) e p2) [.Is] [.Constant .none kd p3] p4) b o pos) c.env) led N:=λs hs Q' q=>
 wpAny_If (wpAny_isTrue_Compare1 (wpAny_NamedExpr (((A6 n).e _ _ _ h).wp hs λv s1 l1 h1 k1=>PyProof.Rows.assign_Name (BU hr h1 hk λs2 h2=>Constant_none (by
  cases hz:nn (er v) with
  |none=>rw[hz] at k1;exact k1.elim
  |some z=>
   rw[hz] at k1;have e0:Sf .Is (er v) .none=some z:=by
    unfold Sf;have i1:Qs Value.none=none:=rfl;have i2:YO Value.none=none:=rfl;have i3:nn Value.none=some true:=rfl;cases hi:Qs (er v)<;>cases hs:YO (er v)<;>simp only[o2,i1,i2,i3,hz,Zk]
   refine L6 e0 rfl rfl (wpAny_truthy_bool ?_)
   cases z with
   |true=>refine Aa (if_pos rfl) ?_;exact(Du hr n m (k1.1 rfl)).wp h2 q
   |false=>refine Aa (if_neg (by decide)) ?_;exact(Du hr n m (k1.2 rfl)).wp h2 q)))) rfl)
end
theorem SH{P:List Value→List Value→Prop}(h:∀v0 rs,rs.length≤100000→P [v0] rs):∀ws rs:List Value,ws.length=1→rs.length≤100000→P ws rs:=λws rs e hz=>by
 cases ws with | nil=>contradiction | cons v0 ws=>
 cases ws with | cons v vs=>cases e | nil=>
 exact h v0 rs hz
theorem Wg{P:List Value→List Value→Prop}(h:∀v0 v1 rs,rs.length≤100000→P [v0,v1] rs):∀ws rs:List Value,ws.length=2→rs.length≤100000→P ws rs:=λws rs e hz=>by
 cases ws with | nil=>contradiction | cons v0 ws=>
 cases ws with | nil=>cases e | cons v1 ws=>
 cases ws with | cons v vs=>cases e | nil=>
 exact h v0 v1 rs hz
theorem Hq{vs rs:List Value}{G:Prop}(hz:rs.length≤100000)(h:(∀k,newTuple (List.drop k (vs++rs))=newObjAsIs (.type "tuple") (.seq (List.drop k (vs++rs)).toArray))→G)(hv:Nat.ble vs.length 10=true:=by rfl):G:=
 h (G5 (by have:=Nat.le_of_ble_eq_true hv;refine Aa List.length_append ?_;lia))
section
theorem Sv{op a b K}(h:∀l,l=led→Nl op c ps a b l K):Nl op c ps a b led K:=h led rfl
theorem Sw{f vs K}(h:∀l,l=led→A4 c ps f vs l K):A4 c ps f vs led K:=h led rfl
theorem EG{t b v}(h:∀l,l=led→BS c X ps t b v l N):BS c X ps t b v led N:=h led rfl
theorem Fa{a b:Nat}(h:Nat.ble a b=true):a≤b:=Nat.le_of_ble_eq_true h
end
section
variable{K:Value→Lg→Prop}
theorem O9(n:Nat){id nm:Str}{p0 pos0 apos pos:Pos}{args:List Expr}(h:(Ci n c ps).e (.Call (.Name id p0) [] [] pos0) led λa l1=>Gp nm c ps a l1 λfx l2=>Zh (Ci n c ps) pos args c ps fx.1 fx.2 l2 K)(hid:(id != ("super":Str))=true:=by rfl)(h1:(apos.endLine==pos.line)=true:=by rfl)(h2:BO args=true:=by rfl)(h3:args.length<29:=by decide):Gq (.Call (.Attribute (.Call (.Name id p0) [] [] pos0) nm apos) args [] pos) c ps led K:=by
 refine⟨λs hs Q' q=>?_⟩;have e1:eval (.Call (.Attribute (.Call (.Name id p0) [] [] pos0) nm apos) args [] pos) c.env=(do
   let ov ← attributeBase (.Call (.Name id p0) [] [] pos0) nm c.env (eval (.Call (.Name id p0) [] [] pos0) c.env)
   standAt apos.atName
   methodCall (.Call (.Name id p0) [] [] pos0) nm apos pos c.env ov (args.length+([]:List PySem.Keyword).length) (backTo pos (starEach args c.env)) (backToKw pos (keywordEach [] c.env))):=rfl
 refine Aa e1 ?_;refine wpAny_bind ?_;unfold attributeBase;dsimp only;refine Aa (if_pos (by rw[hid];rfl)) ?_;refine((A6 n).e _ _ _ h).wp hs λov s1 l1 g1 k1=>?_;unfold methodCall calleeOf methodCallPos;refine Aa (FK h2 h3) ?_;simp only[h1,Bool.not_true,Bool.false_or,if_true];exact wpAny_bind (wpAny_standAt (wpAny_bind (wpAny_holding ((k1 ov _ rfl).wp g1 λfx s2 l2 g2 k2=>wpAny_bind (wpAny_pure ((Kg (A6 n) k2 fx.1 fx.2 rfl rfl).wp g2 q))))))
end
section
variable{K:Value→Lg→Prop}
theorem D1(room:AU c 20 200)(hk:K (.str x 0) led):A4 c ps (.ref 439) [.str x 0] led K:=by
 refine EB hk ?_;refine Be ["path"] (by k_is) (CL λs X z_=>BindsTo.of_eq rfl) room λc hd hu hr rm=>?_;refine A7 hr 30 30 ?_;refine PJ ?_;refine Ba λt ht=>?_;refine MZ Ac (.t rfl ?_);exact⟨rfl,Am.put ht⟩
theorem IJ(room:AU c 20 200)(hk:K (.str "/" 0) led):A4 c ps (.ref 453) [.str x 0] led K:=by
 refine Be ["path"] (by k_is) (CL λs X z_=>BindsTo.of_eq rfl) room λc hd hu hr rm=>?_;refine A7 hr 30 30 ?_;exact JS (.f rfl hk)
theorem Vk(room:AU c 30 300)(hx:x.length≤1000)(hy:y.length≤1000)(hk:K (.str (BL x y) 0) led):A4 c ps (.ref 460) [.str x 0,.str y 0] led K:=by
 refine EB hk ?_;refine(?_:A4 c ps (.ref 460) ([.str x 0]++[.str y 0]) led _);refine Ed.r ?_;refine' H6 ["a"] "p" ?ho ?hcd ?hv ?hns ?hz ?hp ?hl ?c1 ?c2 ?c3 ?c4 ?room ?_
 case ho=>k_is
 case hcd=>k_is
 case hv=>rfl
 case hns=>rfl
 case hz=>exact(by decide:1≤100000)
 case hp=>exact SH λv0 rs hrs=>Hq (vs:=[v0]) hrs (λhnt=>by unfold bindArgs;simp only[fnOf,Option.isNone_some,Bool.and_false,Bool.false_eq_true,if_false,↓reduceIte,hnt];exact rfl)
 case hl=>decide
 case c1=>rfl
 case c2=>rfl
 case c3=>rfl
 case c4=>rfl
 case room=>exact Nat.lt_of_le_of_lt (Nat.le_add_right _ _) room.1
 intro c hd hu hr;have rm:AU c 29 290:=.dn hd hu room;intro D hD;refine A7 hr 30 30 ?_;refine D1 (rm.less (by decide) (by decide)) ?_;refine IJ (rm.less (by decide) (by decide)) ?_;refine Ue λc1 lk=>?_;refine A7 (lk.rd.trans hr) 30 30 ?_;refine Bn 30 ?_;refine I9 (σ:=Str) 30 30 ["sep","path"] (λz=>[Al "/",Al z]) (λi z l=>Am led l∧l D=some (.tup [Al y])∧z=if i=0 then x else BL x y) (lk.rd.trans hr) Ac x ⟨Am.put hD,Ac,rfl⟩ rfl (λi z l h=>h.2.1) ?turn ?done
 case turn=>
  intro c2 l2 hr2 i v z led' hi hv hz Y M _ _ _ fin;rcases i with _ | i;rotate_left
  ·exact(Option.some_ne_none _ (hv.symm.trans (rfl:_=none))).elim
  refine Cg hz λhx1 hD1 e=>?_;obtain rfl:=Option.some.inj hv;subst e;refine D1 ((l2.room (lk.room rm)).less (by decide) (by decide)) ?_;refine DL PySem.F.slot_str_startswith PySem.F.type_str_startswith ?_;refine Km (BB.mk (λh1=>.t rfl ?_) λh1=>?_)
  ·exact fin _ _ ⟨BL z y,⟨hx1,hD1,rfl⟩,by refine AV (R6 h1) ?_;rfl⟩
  ·refine EK (BB.mk (λh2=>.t rfl ?_) λh2=>.f rfl ?_) (Nat.le_trans hx (by decide))
   ·exact fin _ _ ⟨BL z y,⟨hx1,hD1,rfl⟩,by refine AV (R0 h1 (by simpa using h2)) ?_;rfl⟩
   ·have h3:(z.length:Int)≠0:=by simpa using h2
    refine DL PySem.F.slot_str_endswith PySem.F.type_str_endswith ?_;refine PP (BB.mk (λh4=>?_) λh4=>?_)
    ·refine HW ?_ (Nat.le_trans hx (by decide)) (Nat.le_trans hy (by decide));exact fin _ _ ⟨BL z y,⟨hx1,hD1,rfl⟩,by refine AV (Rz h1 h3 h4) ?_;rfl⟩
    ·refine Dh ?_ (by decide) (Nat.le_trans hy (by decide));refine HW ?_ (Nat.le_trans hx (by decide)) (by refine Aa (Str.length_append ..) ?_;exact Nat.le_trans (Nat.add_le_add (by decide:_≤1) hy) (by decide));exact fin _ _ ⟨BL z y,⟨hx1,hD1,rfl⟩,by refine AV (Ry h1 h3 h4) ?_;rfl⟩
 case done=>
  intro z l ⟨h1,h2,h3⟩;exact⟨congrArg Al h3,h1⟩
theorem Ib(room:AU c 30 300)(hx:x.length≤1000)(h1:(Txt.slice x none (some 1) != "/")=false)(h2:(Txt.slice x (some 1) (some 2) != "/")=true)(hk:∀D,led D=none→K (.ref D) (put D (.tup [Al "",Al "/",Al (Txt.slice x (some 1) none)]) led)):A4 c ps (.ref 467) [.str x 0] led K:=by
 refine Be ["p"] (by k_is) (CL λs X z_=>BindsTo.of_eq rfl) room λc hd hu hr rm=>?_;refine A7 hr 30 30 ?_;refine D1 (rm.less (by decide) (by decide)) ?_;refine JS (.f rfl ?_);have hz:=Nat.le_trans hx (by decide:1000≤1000000);refine Ef 30 ?_;refine⟨_,rfl,_,rfl,hz,?_⟩;refine .f h1 ?_;refine Ef 30 ?_;refine⟨_,rfl,_,rfl,_,rfl,hz,?_⟩;refine .t h2 (.t rfl ?_);refine Ef 30 ?_;refine⟨_,rfl,_,rfl,hz,?_⟩;exact Ba hk
theorem UH(h0:0≤n)(h1:n≤1000):MulOk "/" n:=by
 have e:(("/":Str)).length=1:=by decide
 refine⟨?_,λh z_=>?_,λh z_=>?_⟩
 ·simp only[Bool.or_eq_false_iff,decide_eq_false_iff_not];lia
 ·refine Aa e ?_;have:(1:Int)≤(2^63-1)/n:=by
   rw[Int.le_ediv_iff_mul_le (by exact aZ (za (zn 0) (zn 1)) (zv 8) [(7,1,za (zv 8) (zn 1),zn 1)] rfl (Av 0) (Av _) h)];lia
  exact YB this
 ·refine Aa e ?_;unfold Builtin.Str.tooLong;have hs:sizeLine=16777216:=rfl;simp only[hs,decide_eq_false_iff_not];lia
theorem Q1(hk:K (.str (Txt.mul x n) 0) led)(h:MulOk x n):Jo .Mult c ps (.str x 0) (.int n 0) led K:=λa' b' ea eb=>by
 refine oE (AB ea) λt ho1=>?_;subst ho1;refine oE (AQ eb) λu ho1=>?_;subst ho1;exact A8 _ hk λq=>SB.mul h λz_ z_=>q _ _ rfl
noncomputable def Dc(x:Str):Str:=Txt.slice x none (some (Txt.rfind x "/"+1))
noncomputable def Zg(x:Str):Str:=if (((Dc x).length:Int) != 0)=true then if (Dc x != Txt.mul "/" (Dc x).length)=true then Txt.rstripChars (Dc x) "/" else Dc x else Dc x
theorem RV(hf:f<4):Zg (Ah f)=G7 f∧(Ah f).length≤1000∧(Dc (Ah f)).length≤1000:=M7 hf (by decide +kernel) (by decide +kernel) (by decide +kernel) (by decide +kernel)
theorem MP(room:AU c 30 300)(hf:f<4)(hk:K (.str (G7 f) 0) led):A4 c ps (.ref 474) [.str (Ah f) 0] led K:=by
 refine Cg (RV hf) λe1 e2 e3=>?_;rw[← e1] at hk;generalize Ah f=x at hk e2 e3;refine Be ["p"] (by k_is) (CL λs X z_=>BindsTo.of_eq rfl) room λc hd hu hr rm=>?_;refine A7 hr 30 30 ?_;refine D1 (rm.less (by decide) (by decide)) ?_;refine IJ (rm.less (by decide) (by decide)) ?_;refine DL PySem.F.slot_str_rfind PySem.F.type_str_rfind ?_;refine MY ?_;refine Ef 30 ?_;refine⟨_,rfl,_,rfl,Nat.le_trans e2 (by decide),?_⟩;have hz:=Nat.le_trans e3 (by decide:1000≤1000000);unfold Zg at hk;refine EK (BB.mk (λh1=>?_) λh1=>.f rfl ?_) hz
 ·have h1:(((Dc x).length:Int) != 0)=true:=h1;rw[if_pos h1] at hk;refine len_str ?_ hz;refine Q1 ?_ (UH (Int.natCast_nonneg _) (by exact_mod_cast e3));refine BB.mk (λh2=>.t rfl ?_) λh2=>.f rfl ?_
  ·have h2:(Dc x != Txt.mul "/" (Dc x).length)=true:=h2;rw[if_pos h2] at hk;refine DL PySem.F.slot_str_rstrip PySem.F.type_str_rstrip ?_;exact Ko hk hz
  ·rw[if_neg (by refine Aa (show(Dc x != Txt.mul "/" (Dc x).length)=false from h2) ?_;decide)] at hk;exact hk
 ·rw[if_neg (by refine Aa (show(((Dc x).length:Int) != 0)=false from h1) ?_;decide)] at hk;exact hk
theorem JC(room:AU c 40 400)(hx:x.length≤1000)(h0:(x.length:Int)≠0)(h1:(Txt.slice x none (some 1) != "/")=false)(h2:(Txt.slice x (some 1) (some 2) != "/")=true)(h3:(Txt.split (Txt.slice x (some 1) none) "/").length≤1000)(hB:∀y∈Txt.split (Txt.slice x (some 1) none) "/",y.length≤1000)(hs:(Txt.slice x (some 1) none).length≤1000)(h5:(Em x).length≤1000)(hk:K (.str (Em x) 0) led):A4 c ps (.ref 481) [.str x 0] led K:=by
 refine EB hk ?_;refine Be ["path"] (by k_is) (CL λs X z_=>BindsTo.of_eq rfl) room λc hd hu hr rm=>?_;refine A7 hr 30 30 ?_;refine D1 (rm.less (by decide) (by decide)) ?_;refine JS (.f rfl ?_);refine EK (.f (by simpa using h0) ?_) (Nat.le_trans hx (by decide));have eD:∀D,led D=none→Am led (put D (.tup [Al "",Al "/",Al (Txt.slice x (some 1) none)]) led):=λD hD=>Am.put hD;refine' Ee 30 hr ?_ ?hc ?hw
 case hc=>rfl
 case hw=>exact Bq λz_=>rfl
 refine Ib (rm.less (by decide) (by decide)) hx h1 h2 λD hD=>?_;refine EF ["_","initial_slashes","path"] hr Ac rfl rfl ?_;refine DL PySem.F.slot_str_split PySem.F.type_str_split ?_;refine MX (λcl hcl=>?_) (by decide) (Nat.le_trans hs (by decide));refine Ay λnl hnl=>?_;refine Bn 30 ?_;generalize hys:Txt.split (Txt.slice x (some 1) none) "/"=ys at hcl hnl h3 hB;have hE:Am led (put nl (.lst []) (put cl (.lst (ys.map Al)) (put D (.tup [Al "",Al "/",Al (Txt.slice x (some 1) none)]) led))):=((eD D hD).trans (Am.put hcl)).trans (Am.put hnl);have nn:cl≠nl:=λe=>by rw[← e,Ac] at hnl;exact Option.some_ne_none _ hnl
 have nl0:led nl=none:=Ak ((eD D hD).trans (Am.put hcl)) hnl;have hcl1:put nl (.lst []) (put cl (.lst (ys.map Al)) (put D (.tup [Al "",Al "/",Al (Txt.slice x (some 1) none)]) led)) cl=some (.lst (ys.map Al)):=Ab Ac nn;generalize hST:put nl (.lst []) (put cl (.lst (ys.map Al)) (put D (.tup [Al "",Al "/",Al (Txt.slice x (some 1) none)]) led))=ST at hE hcl1;have hnl1:ST nl=some (.lst []):=by refine AV hST ?_;exact Ac
 clear hST;refine Et (σ:=List Str) 60 30 ["sep","dot","dotdot","initial_slashes","new_comps"] (λz_=>[Al "/",Al ".",Al "..",Al "/",.ref nl]) (λi nc l=>Am led l∧l cl=some (.lst (ys.map Al))∧l nl=some (.lst (nc.map Al))∧nc=(ys.take i).foldl AX []∧nc.length≤i) hr hcl1 [] ⟨hE,hcl1,hnl1,rfl,Nat.le_refl _⟩ rfl (λi z l h=>h.2.1) ?turn ?done
 case turn=>
  intro c1 lk hr1 i v nc l hi hv ⟨k1,k2,k3,k4,k5⟩ Y M _ _ ct fin;rw[List.length_map] at hi;rw[List.getElem?_map] at hv;refine An (Option.map_eq_some_iff.mp hv) λy hy ho2=>?_;subst ho2;have hz:y.length≤1000000:=Nat.le_trans (hB y (List.mem_of_getElem? hy)) (by decide);have st:(ys.take (i+1)).foldl AX []=AX nc y:=Pn hy k4;have nz:nc.length≤1000000:=Tz h3 hi k5;have keep:∀{nc'},Am led (put nl (.lst nc') l):=By k1 nl0;refine EK (BB.mk (λa1=>.t rfl ?_) λa1=>?_) hz
  ·have b1:(y.length:Int)=0:=by simpa using a1
   exact ct _ _ ⟨nc,⟨k1,k2,k3,Aa st (Aa (ns1 b1) rfl),Nat.le_succ_of_le k5⟩,rfl⟩
  have b1:(y.length:Int)≠0:=by simpa using a1
  refine BB.mk (λa2=>.t rfl ?_) λa2=>.f rfl ?_
  ·exact ct _ _ ⟨nc,⟨k1,k2,k3,Aa st (Aa (ns2 b1 a2) rfl),Nat.le_succ_of_le k5⟩,rfl⟩
  have app:∀z:List Str,(z.map Al++[Al y])=(z++[y]).map Al:=λz=>by refine Aa List.map_append ?_;rfl
  have ml:(nc.map Al).length≤1000000:=by refine Aa (List.length_map ..) ?_;exact nz
  refine BB.mk (λa3=>.t rfl ?_) λa3=>?_
  ·refine Aw PySem.F.slot_list_append PySem.F.type_list_append k3 ?_;refine Au k3 ?_ ml;exact fin _ _ ⟨nc++[y],⟨keep,Ab k2 nn,by refine Aa (app ..) ?_;exact Ac,Aa st (Aa (ns3 b1 a2 a3) rfl),by refine Aa List.length_append ?_;exact Nat.succ_le_succ k5⟩,rfl⟩
  refine EK (.f (by decide) (.f rfl ?_)) (by decide);rcases Iq nc with rfl | ⟨p,z,rfl⟩
  ·refine CC k3 (.f rfl (.f rfl (.f rfl ?_))) ml;refine CC k3 (.f rfl ?_) ml;exact fin _ _ ⟨[],⟨k1,k2,k3,Aa st (Aa (ns4 b1 a2 a3) rfl),Nat.zero_le _⟩,rfl⟩
  ·rw[List.map_append] at k3 ml;refine CC k3 (.t (by cases p<;>rfl) ?_) ml;refine Db k3 ?_;refine BB.mk (λa4=>.t rfl (.t rfl ?_)) λa4=>.f rfl (.f rfl ?_)
   ·refine Aw PySem.F.slot_list_append PySem.F.type_list_append k3 ?_;refine Au k3 ?_ ml;exact fin _ _ ⟨p++[z]++[y],⟨keep,Ab k2 nn,by refine AV (app ..) (Aa List.map_append ?_);exact Ac,Aa st (Aa (ns5 b1 a2 a3 a4) rfl),by refine Aa List.length_append ?_;exact Nat.succ_le_succ k5⟩,rfl⟩
   ·refine CC k3 (.t (by cases p<;>rfl) ?_) ml;refine Aw PySem.F.slot_list_pop PySem.F.type_list_pop k3 ?_;rw[List.length_append] at k5;refine HI k3 ?_ (by refine Aa (List.length_map ..) ?_;exact Nat.le_trans (Nat.le_add_right _ _) (Nat.le_trans k5 (aN (zv 0) (zn 100000) [(0,1,zv 1,zn 1000),(0,1,za (zv 0) (zn 1),zv 1)] rfl (Az _ _) Ae h3 hi)));exact fin _ _ ⟨p,⟨keep,Ab k2 nn,Ac,Aa st (Aa (ns6 b1 a2 a3 a4) rfl),aN (zv 0) (za (zv 1) (zn 1)) [(0,1,za (zv 0) (zv 2),zv 1)] rfl (AH _ _ _) Ae k5⟩,rfl⟩
 case done=>
  intro nc l ⟨k1,k2,k3,k4,k5⟩;rw[List.length_map,List.take_length] at k4;have e6:Em x="/"++Txt.join "/" nc:=by refine Aa k4 (AV hys ?_);rfl
  rw[List.length_map] at k5;have hj:(Txt.join "/" nc).length≤1000:=by rw[e6,Str.length_append] at h5;exact aN (zv 0) (zn 1000) [(0,1,za (zv 1) (zv 0),zn 1000)] rfl (Az _ _) Ae h5
  refine DL PySem.F.slot_str_join PySem.F.type_str_join ?_;refine PM k3 ?_ (λy hy=>?_) (Nat.le_trans k5 h3) (by decide)
  ·refine Dh ?_ (by decide) (Nat.le_trans hj (by decide));refine LC 30 ?_;refine EK (.t ?_ ?_) (by refine AV e6 ?_;exact Nat.le_trans h5 (by decide))
   ·refine Aa (Str.length_append ..) ?_;have:("/").length=1:=by decide
    simp only[bne_iff_ne,ne_eq];exact λs=>aF [(2,1,zv 0,zn 1),(5,1,za (zv 0) (zv 1),zn 0)] rfl (Az _ _) Ae this s
   ·refine Aa e6 ?_;exact⟨rfl,k1⟩
  ·rw[k4] at hy;rcases O2 y hy with hy | hy
   ·exact absurd hy List.not_mem_nil
   ·exact hB y hy
end
noncomputable def Ei:List Str:=["/a","/u/b","/u/v/c","/w/d"]
theorem BP(h:f<4):(Ei.map Al)[f]?=some (Al (Ah f)):=M7 h rfl rfl rfl rfl
noncomputable def Eo(f:Nat):List Str:=[C5 f 0,C5 f 1,C5 f 2,C5 f 3]
theorem O6{f g:Nat}(h:g<4):((Eo f).map Al)[g]?=some (Al (C5 f g)):=M7 h rfl rfl rfl rfl
noncomputable def DR:Bu→Value
 |.inl x=>Al x
 |.inr n=>zV n
noncomputable def Ij(a b:Int):Nat:=(a.fmod b).toNat
theorem Ql.eq{a b:Int}{f:Nat}(h:Ql a b f):Ij a b=f:=by unfold Ij;refine Aa h.1 ?_;rfl
noncomputable def CP(f n:Nat):Str:=Txt.item "abcd" (f:Int)++Str.ofString (toString (n:Int))
noncomputable abbrev AK:=(Nat→List Bu)×(Nat→List Str)
noncomputable def Cr:AK:=(CW [.inl "a0"] [.inl "b0"] [.inl "c0"] [.inl "d0"],CW ["a0"] ["b0"] ["c0"] ["d0"])
noncomputable def Dn(st:AK)(f:Nat)(it:Bu)(y:Str):AK:=(upd st.1 f (st.1 f++[it]),upd st.2 f (st.2 f++[y]))
noncomputable def B9(st:AK)(x:Int):AK:=
 if Ij (x.fdiv 4) 5<4∧(Ij x 4<Ij (x.fdiv 4) 5∨Ij (x.fdiv 20) 5=0) then Dn st (Ij x 4) (.inr (Ij (x.fdiv 4) 5)) (Bz (Ij x 4) (Ij (x.fdiv 4) 5) (Ij (x.fdiv 100) 3))
 else Dn st (Ij x 4) (.inl (CP (Ij x 4) (st.1 (Ij x 4)).length)) (CP (Ij x 4) (st.1 (Ij x 4)).length)
theorem Py{st:AK}{x:Int}{f g z k:Nat}(hf:Ql x 4 f)(hg:Ql (x.fdiv 4) 5 g)(hz:Ql (x.fdiv 20) 5 z)(hk:Ql (x.fdiv 100) 3 k)(h:g<4∧(f<g∨z=0)):B9 st x=Dn st f (.inr g) (Bz f g k):=by
 unfold B9;exact Aa hf.eq (Aa hg.eq (Aa hz.eq (Aa hk.eq ((if_pos h).trans rfl))))
theorem Px{st:AK}{x:Int}{f g z:Nat}(hf:Ql x 4 f)(hg:Ql (x.fdiv 4) 5 g)(hz:Ql (x.fdiv 20) 5 z)(h:¬(g<4∧(f<g∨z=0))):B9 st x=Dn st f (.inl (CP f (st.1 f).length)) (CP f (st.1 f).length):=by
 unfold B9;exact Aa hf.eq (Aa hg.eq (Aa hz.eq ((if_neg h).trans rfl)))
noncomputable def E5(ns:List Int):AK:=ns.foldl B9 Cr
theorem Bl{p:Nat→Addr}{f:Nat}(h:f<4):(CY p)[f]?=some (.ref (p f)):=by
 match f,h with
 |0,_=>rfl
 |1,_=>rfl
 |2,_=>rfl
 |3,_=>rfl
theorem lt4{P:Nat→Prop}(h0:P 0)(h1:P 1)(h2:P 2)(h3:P 3):∀j,j<4→P j
 |0,_=>h0
 |1,_=>h1
 |2,_=>h2
 |3,_=>h3
structure Dr(l:Lg)(lp lf:Addr)(p q:Nat→Addr)(st:AK)(n:Nat):Prop where
 lp:l lp=some (.lst (CY p))
 lf:l lf=some (.lst (CY q))
 hp:∀j,j<4→l (p j)=some (.lst ((st.1 j).map DR))
 hq:∀j,j<4→l (q j)=some (.lst ((st.2 j).map Al))
 len:∀j,j<4→(st.1 j).length≤n∧(st.2 j).length≤n
structure Ap(lp lf:Addr)(p q:Nat→Addr):Prop where
 pp:∀i,i<4→∀j,j<4→i≠j→p i≠p j
 qq:∀i,i<4→∀j,j<4→i≠j→q i≠q j
 pq:∀i,i<4→∀j,j<4→p i≠q j
 l:∀i,i<4→lp≠p i∧lp≠q i∧lf≠p i∧lf≠q i
theorem Dr.mono{l l':Lg}{lp lf:Addr}{p q:Nat→Addr}{st:AK}{n m:Nat}(d:Dr l lp lf p q st n)(e:Am l l')(h:n≤m):Dr l' lp lf p q st m:=
 ⟨e _ _ d.lp,e _ _ d.lf,λj hj=>e _ _ (d.hp j hj),λj hj=>e _ _ (d.hq j hj),λj hj=>⟨Nat.le_trans (d.len j hj).1 h,Nat.le_trans (d.len j hj).2 h⟩⟩
theorem Dr.next{l L:Lg}{lp lf:Addr}{p q:Nat→Addr}{st:AK}{n f:Nat}{it:Bu}{y:Str}(d:Dr l lp lf p q st n)(a:Ap lp lf p q)(hf:f<4)(e:Am (put (p f) (.lst ((st.1 f).map DR++[DR it])) l) L):Dr (put (q f) (.lst ((st.2 f).map Al++[Al y])) L) lp lf p q (Dn st f it y) (n+1):=by
 have ne:=a.l f hf;refine⟨Ab (e _ _ (Ab d.lp ne.1)) ne.2.1,Ab (e _ _ (Ab d.lf ne.2.2.1)) ne.2.2.2,λj hj=>?_,λj hj=>?_,λj hj=>?_⟩
 ·refine Ab (e _ _ ?_) (a.pq j hj f hf);refine(?_:_=some (AO.lst ((upd st.1 f (st.1 f++[it]) j).map DR)));by_cases e:j=f
  ·subst e;refine Aa Ao (Aa List.map_append ?_);exact Ac
  ·refine Aa (Ai e) ?_;exact Ab (d.hp j hj) (a.pp j hj f hf e)
 ·refine(?_:_=some (AO.lst ((upd st.2 f (st.2 f++[y]) j).map Al)));by_cases e2:j=f
  ·subst e2;refine Aa Ao (Aa List.map_append ?_);exact Ac
  ·refine Aa (Ai e2) ?_;exact Ab (e _ _ (Ab (d.hq j hj) (a.pq f hf j hj).symm)) (a.qq j hj f hf e2)
 ·refine(?_:(upd st.1 f _ j).length≤_∧(upd st.2 f _ j).length≤_);have:=d.len j hj;by_cases e:j=f
  ·subst e;refine Aa Ao (Aa Ao (Aa List.length_append (Aa List.length_append ?_)));exact⟨Nat.succ_le_succ this.1,Nat.succ_le_succ this.2⟩
  ·refine Aa (Ai e) (Aa (Ai e) ?_);exact⟨Nat.le_succ_of_le this.1,Nat.le_succ_of_le this.2⟩
theorem BB.or(p:P)(s:P→b=false→S):BB b P S:=⟨λz_=>p,s p⟩
theorem BB.el(q:Q)(s:Q→b=true→P):BB b P Q:=⟨s q,λz_=>q⟩
section
variable{K:Value→Lg→Prop}
theorem Ew(h:Ql a k f)(hk:K (zV f) led):Jo .Mod c ps (zV a) (zV k) led K:=Ll (by refine Aa h.1 ?_;exact hk) (by have:=h.2;simp only[bne_iff_ne,ne_eq];exact λs=>aF [(4,1,za (zv 0) (zn 1),zv 8),(5,1,zv 8,zn 0)] rfl (Av _) (Av _) this s)
end
theorem Zu{p0 p1 p2 p3 lp q0 q1 q2 q3 lf:Addr}(h:[lf,q3,q2,q1,q0,lp,p3,p2,p1,p0].Nodup):Ap lp lf (CW p0 p1 p2 p3) (CW q0 q1 q2 q3):=by
 have g:∀(i j:Nat) (hi:i<10) (hj:j<10),i<j→[lf,q3,q2,q1,q0,lp,p3,p2,p1,p0][i]≠[lf,q3,q2,q1,q0,lp,p3,p2,p1,p0][j]:=List.pairwise_iff_getElem.mp h;exact⟨lt4 (lt4 (λh=>absurd rfl h) (λz_=>(Ne.symm (g 8 9 (by decide) (by decide) (by decide)))) (λz_=>(Ne.symm (g 7 9 (by decide) (by decide) (by decide)))) (λz_=>(Ne.symm (g 6 9 (by decide) (by decide) (by decide))))) (lt4 (λz_=>(g 8 9 (by decide) (by decide) (by decide))) (λh=>absurd rfl h) (λz_=>(Ne.symm (g 7 8 (by decide) (by decide) (by decide)))) (λz_=>(Ne.symm (g 6 8 (by decide) (by decide) (by decide))))) (lt4 (λz_=>(g 7 9 (by decide) (by decide) (by decide))) (λz_=>(g 7 8 (by decide) (by decide) (by decide))) (λh=>absurd rfl h) (λz_=>(Ne.symm (g 6 7 (by decide) (by decide) (by decide))))) (lt4 (λz_=>(g 6 9 (by decide) (by decide) (by decide))) (λz_=>(g 6 8 (by decide) (by decide) (by decide))) (λz_=>(g 6 7 (by decide) (by decide) (by decide))) (λh=>absurd rfl h)),lt4 (lt4 (λh=>absurd rfl h) (λz_=>(Ne.symm (g 3 4 (by decide) (by decide) (by decide)))) (λz_=>(Ne.symm (g 2 4 (by decide) (by decide) (by decide)))) (λz_=>(Ne.symm (g 1 4 (by decide) (by decide) (by decide))))) (lt4 (λz_=>(g 3 4 (by decide) (by decide) (by decide))) (λh=>absurd rfl h) (λz_=>(Ne.symm (g 2 3 (by decide) (by decide) (by decide)))) (λz_=>(Ne.symm (g 1 3 (by decide) (by decide) (by decide))))) (lt4 (λz_=>(g 2 4 (by decide) (by decide) (by decide))) (λz_=>(g 2 3 (by decide) (by decide) (by decide))) (λh=>absurd rfl h) (λz_=>(Ne.symm (g 1 2 (by decide) (by decide) (by decide))))) (lt4 (λz_=>(g 1 4 (by decide) (by decide) (by decide))) (λz_=>(g 1 3 (by decide) (by decide) (by decide))) (λz_=>(g 1 2 (by decide) (by decide) (by decide))) (λh=>absurd rfl h)),lt4 (lt4 (Ne.symm (g 4 9 (by decide) (by decide) (by decide))) (Ne.symm (g 3 9 (by decide) (by decide) (by decide))) (Ne.symm (g 2 9 (by decide) (by decide) (by decide))) (Ne.symm (g 1 9 (by decide) (by decide) (by decide)))) (lt4 (Ne.symm (g 4 8 (by decide) (by decide) (by decide))) (Ne.symm (g 3 8 (by decide) (by decide) (by decide))) (Ne.symm (g 2 8 (by decide) (by decide) (by decide))) (Ne.symm (g 1 8 (by decide) (by decide) (by decide)))) (lt4 (Ne.symm (g 4 7 (by decide) (by decide) (by decide))) (Ne.symm (g 3 7 (by decide) (by decide) (by decide))) (Ne.symm (g 2 7 (by decide) (by decide) (by decide))) (Ne.symm (g 1 7 (by decide) (by decide) (by decide)))) (lt4 (Ne.symm (g 4 6 (by decide) (by decide) (by decide))) (Ne.symm (g 3 6 (by decide) (by decide) (by decide))) (Ne.symm (g 2 6 (by decide) (by decide) (by decide))) (Ne.symm (g 1 6 (by decide) (by decide) (by decide)))),lt4 ⟨(g 5 9 (by decide) (by decide) (by decide)),(Ne.symm (g 4 5 (by decide) (by decide) (by decide))),(g 0 9 (by decide) (by decide) (by decide)),(g 0 4 (by decide) (by decide) (by decide))⟩ ⟨(g 5 8 (by decide) (by decide) (by decide)),(Ne.symm (g 3 5 (by decide) (by decide) (by decide))),(g 0 8 (by decide) (by decide) (by decide)),(g 0 3 (by decide) (by decide) (by decide))⟩ ⟨(g 5 7 (by decide) (by decide) (by decide)),(Ne.symm (g 2 5 (by decide) (by decide) (by decide))),(g 0 7 (by decide) (by decide) (by decide)),(g 0 2 (by decide) (by decide) (by decide))⟩ ⟨(g 5 6 (by decide) (by decide) (by decide)),(Ne.symm (g 1 5 (by decide) (by decide) (by decide))),(g 0 6 (by decide) (by decide) (by decide)),(g 0 1 (by decide) (by decide) (by decide))⟩⟩
theorem BI(h:L a=none)(I:as.Nodup∧∀b∈as,L b≠none):(a::as).Nodup∧∀b∈a::as,put a o L b≠none:=
 ⟨List.nodup_cons.mpr ⟨λhm=>I.2 a hm h,I.1⟩,λb hb e=>by
  unfold put at e;split at e
  ·contradiction
  ·exact I.2 b ((List.mem_cons.mp hb).resolve_left (by assumption)) e⟩
theorem O7{L:Lg}:([]:List Addr).Nodup∧∀b∈([]:List Addr),L b≠none:=⟨List.nodup_nil,λz_ h=>by contradiction⟩
noncomputable def DrI(led:Lg)(r lp lf:Addr)(p q:Nat→Addr)(ns:List Int)(i:Nat)(st:AK)(l:Lg):Prop:=Am led l∧Dr l lp lf p q st (i+1)∧st=(ns.take i).foldl B9 Cr
@[elab_as_elim] theorem Wt{P:Nat→Prop}{k:Nat}(h:k<3)(h0:P 0)(h1:P 1)(h2:P 2):P k:=by
 rcases k with _ | _ | _ | k
 ·exact h0
 ·exact h1
 ·exact h2
 ·exact absurd h (Nat.not_lt.mpr (Nat.le_add_left 3 k))
section
variable{K:Value→Lg→Prop}
theorem FF(room:AU c 20 200)(hk:∀l,led l=none→K (.ref l) (put l (.lst (Ei.map Al)) led)):A4 c ps (.ref 488) [] led K:=by
 refine Be [] (by k_is) (Zp λs X=>BindsTo.of_eq rfl) room λc hd hu hr rm=>?_;refine A7 hr 30 30 ?_;exact Ay hk
theorem UG(room:AU c 20 200){f g:Nat}(hf:f<4)(hg:g<4)(hk:K (.str (C5 f g) 0) led):A4 c ps (.ref 495) [zV f,zV g] led K:=by
 refine EB hk ?_;refine Be ["f","g"] (by k_is) (Fh λs X z_ z_=>BindsTo.of_eq rfl) room λc hd hu hr rm=>?_;refine A7 hr 30 30 ?_;refine Ay λa0 h0=>?_;refine Ay λa1 h1=>?_;refine Ay λw hw=>?_;refine Ay λa2 h2=>?_;refine Ay λa3 h3=>?_;refine Ay λw2 hw2=>?_;have w0:led w=none:=Ak ((Am.put (o:=.lst ((Eo 0).map Al)) h0).trans (Am.put (o:=.lst ((Eo 1).map Al)) h1)) hw;have n0:a0≠w:=Ag (Ad Ac h1) hw;have n1:a1≠w:=Ag Ac hw;have n2:a2≠w:=λe=>by rw[e,Ac] at h2;contradiction
 have n3:a3≠w:=λe=>by rw[e,Ad Ac h2] at h3;contradiction
 refine Sv λl hl=>?_;have r0:l a0=some (.lst ((Eo 0).map Al)):=by refine Aa hl ?_;exact(by repeat (first | exact Ac | refine Ad ?_ (by assumption)))
 have r1:l a1=some (.lst ((Eo 1).map Al)):=by refine Aa hl ?_;exact(by repeat (first | exact Ac | refine Ad ?_ (by assumption)))
 have r2:l a2=some (.lst ((Eo 2).map Al)):=by refine Aa hl ?_;exact(by repeat (first | exact Ac | refine Ad ?_ (by assumption)))
 have r3:l a3=some (.lst ((Eo 3).map Al)):=by refine Aa hl ?_;exact(by repeat (first | exact Ac | refine Ad ?_ (by assumption)))
 have r4:l w=some (.lst [.ref a0,.ref a1]):=by refine Aa hl ?_;exact(by repeat (first | exact Ac | refine Ad ?_ (by assumption)))
 have r5:l w2=some (.lst [.ref a2,.ref a3]):=by refine Aa hl ?_;exact(by repeat (first | exact Ac | refine Ad ?_ (by assumption)))
 have ex:Am led l:=by refine Aa hl ?_;exact(by repeat (first | exact Am.rfl | refine Am.trans ?_ (Am.put (by assumption))))
 clear hl h0 h1 h2 h3 hw hw2;refine OJ r4 r5 (List.cons_ne_nil _ _) ?_ (Fa rfl) (Fa rfl);refine AG (x:=.ref (CW a0 a1 a2 a3 f)) Ac rfl (lt4 (P:=λf=>([.ref a0,.ref a1]++[.ref a2,.ref a3]:List Value)[f]?=some (.ref (CW a0 a1 a2 a3 f))) rfl rfl rfl rfl f hf) ?_ (Cu hf);refine AG (x:=Al (C5 f g)) (vs:=(Eo f).map Al) (lt4 (P:=λf=>put w _ l (CW a0 a1 a2 a3 f)=some (.lst ((Eo f).map Al))) (Ab r0 n0) (Ab r1 n1) (Ab r2 n2) (Ab r3 n3) f hf) rfl (O6 hg) ?_ (Cu hg);exact⟨rfl,By ex w0⟩
theorem RQ(room:AU c 40 400){ns:List Int}{r:Addr}(hr0:led r=some (.lst (ns.map zV)))(hlen:ns.length≤100)(hk:∀T l lp lf p q,Am led l→l T=some (.tup [.ref lp,.ref lf])→Dr l lp lf p q (E5 ns) (ns.length+1)→K (.ref T) l):A4 c ps (.ref 502) [.ref r] led K:=by
 refine Be ["numbers"] (by k_is) (CL λs X z_=>BindsTo.of_eq rfl) room λc hd hu hr rm=>?_;refine A7 hr 30 60 ?_;refine Ay λp0 h0=>?_;refine Ay λp1 h1=>?_;refine Ay λp2 h2=>?_;refine Ay λp3 h3=>?_;refine Ay λlp h4=>?_;refine Ay λq0 h5=>?_;refine Ay λq1 h6=>?_;refine Ay λq2 h7=>?_;refine Ay λq3 h8=>?_;refine Ay λlf h9=>?_;refine Bn 30 ?_;refine EG λl hl=>?_;have r4:l lp=some (.lst (CY (CW p0 p1 p2 p3))):=by refine Aa hl ?_;exact(by repeat (first | exact Ac | refine Ad ?_ (by assumption)))
 have r9:l lf=some (.lst (CY (CW q0 q1 q2 q3))):=by refine Aa hl ?_;exact(by repeat (first | exact Ac | refine Ad ?_ (by assumption)))
 have rp:∀j,j<4→l (CW p0 p1 p2 p3 j)=some (.lst ((Cr.1 j).map DR)):=by
  refine Aa hl ?_;exact lt4 (by repeat (first | exact Ac | refine Ad ?_ (by assumption))) (by repeat (first | exact Ac | refine Ad ?_ (by assumption))) (by repeat (first | exact Ac | refine Ad ?_ (by assumption))) (by repeat (first | exact Ac | refine Ad ?_ (by assumption)))
 have rq:∀j,j<4→l (CW q0 q1 q2 q3 j)=some (.lst ((Cr.2 j).map Al)):=by
  refine Aa hl ?_;exact lt4 (by repeat (first | exact Ac | refine Ad ?_ (by assumption))) (by repeat (first | exact Ac | refine Ad ?_ (by assumption))) (by repeat (first | exact Ac | refine Ad ?_ (by assumption))) (by repeat (first | exact Ac | refine Ad ?_ (by assumption)))
 have ex:Am led l:=by refine Aa hl ?_;exact(by repeat (first | exact Am.rfl | refine Am.trans ?_ (Am.put (by assumption))))
 have ap:Ap lp lf (CW p0 p1 p2 p3) (CW q0 q1 q2 q3):=Zu ((BI (o:=.lst []) h9 (BI h8 (BI h7 (BI h6 (BI h5 (BI h4 (BI h3 (BI h2 (BI h1 (BI h0 O7)))))))))).1);have fp:∀j,j<4→led (CW p0 p1 p2 p3 j)=none:=lt4 h0 (Ak (l:=led) (by repeat (first | exact Am.rfl | refine Am.trans ?_ (Am.put (by assumption)))) h1) (Ak (l:=led) (by repeat (first | exact Am.rfl | refine Am.trans ?_ (Am.put (by assumption)))) h2) (Ak (l:=led) (by repeat (first | exact Am.rfl | refine Am.trans ?_ (Am.put (by assumption)))) h3);have fq:∀j,j<4→led (CW q0 q1 q2 q3 j)=none:=lt4 (Ak (l:=led) (by repeat (first | exact Am.rfl | refine Am.trans ?_ (Am.put (by assumption)))) h5) (Ak (l:=led) (by repeat (first | exact Am.rfl | refine Am.trans ?_ (Am.put (by assumption)))) h6) (Ak (l:=led) (by repeat (first | exact Am.rfl | refine Am.trans ?_ (Am.put (by assumption)))) h7) (Ak (l:=led) (by repeat (first | exact Am.rfl | refine Am.trans ?_ (Am.put (by assumption)))) h8);clear hl h0 h1 h2 h3 h4 h5 h6 h7 h8 h9;generalize CW p0 p1 p2 p3=p at ap fp rp r4;generalize CW q0 q1 q2 q3=q at ap fq rq r9;refine Et (σ:=AK) 60 30 ["numbers","plain","files"] (λz_=>[.ref r,.ref lp,.ref lf]) (DrI led r lp lf p q ns) hr (ex _ _ hr0) Cr ⟨ex,⟨r4,r9,rp,rq,(lt4 (by decide) (by decide) (by decide) (by decide))⟩,rfl⟩ rfl (λi z l h=>h.1 _ _ hr0) ?turn ?done
 case turn=>
  intro c1 lk hr1 i v st l hi hv ⟨k1,k2,k3⟩ Y M _ _ _ fin;rw[List.length_map] at hi;replace hv:=(List.getElem?_map).symm.trans hv;refine An (Option.map_eq_some_iff.mp hv) λx hx ho2=>?_;subst ho2;have hst:(ns.take (i+1)).foldl B9 Cr=B9 st x:=by refine Aa List.take_add_one (Aa hx (List.foldl_append.trans (Aa k3 ?_)));rfl
  refine oE (FD x 4 (by decide)) λf hf=>?_;refine oE (FD (x.fdiv 4) 5 (by decide)) λg hg=>?_;refine oE (FD (x.fdiv 20) 5 (by decide)) λz hz=>?_;refine oE (FD (x.fdiv 100) 3 (by decide)) λk hkk=>?_;have hf4:f<4:=by have:=hf.2;exact UT this
  have rm1:=lk.room rm;refine' B3 30 hr1 ["f","g"] ?_ ?w
  case w=>exact Bq λz_=>rfl
  refine Ew hf ?_;refine Fu (Ew hg ?_);refine⟨rfl,λt ht=>?_⟩;have k4:Am led (put t (.tup [zV f,zV g]) l):=k1.trans (Am.put ht);have k5:Dr (put t (.tup [zV f,zV g]) l) lp lf p q st (i+1):=k2.mono (Am.put ht) (Nat.le_refl _);generalize put t (.tup [zV f,zV g]) l=l1 at k4 k5;have hst2:(st.1 f).length≤1000∧(st.2 f).length≤1000:=⟨Nat.le_trans (k5.len f hf4).1 (XH hlen hi),Nat.le_trans (k5.len f hf4).2 (XH hlen hi)⟩;by_cases hc:g<4∧(f<g∨z=0)
  ·refine .t (decide_eq_true (aZ (za (zv 0) (zn 1)) (zn 4) [(0,1,za (zv 0) (zn 1),zn 4)] rfl (Av _) Ae hc.1)) (BB.or ?_ λP hb=>?_)
   ·refine .t rfl (.t rfl ?_);have hg4:=hc.1;refine UG (rm1.less (by decide) (by decide)) hf4 hg4 ?_;refine AG (x:=.ref (p f)) k5.lp rfl (Bl hf4) ?_ (Cu hf4);refine Aw PySem.F.slot_list_append PySem.F.type_list_append (k5.hp f hf4) ?_;refine Au (k5.hp f hf4) ?_ (by refine Aa (List.length_map ..) ?_;exact US hst2);have k7:=Ab (o:=.lst ((st.1 f).map DR++[zV g])) (k5.hq f hf4) (ap.pq f hf4 f hf4).symm;refine AG (x:=.ref (q f)) (Ab (o:=.lst ((st.1 f).map DR++[zV g])) k5.lf (ap.l f hf4).2.2.1) rfl (Bl hf4) ?_ (Cu hf4);refine Aw PySem.F.slot_list_append PySem.F.type_list_append k7 ?_;refine FF (rm1.less (by decide) (by decide)) λpl hpl=>?_;refine AG (x:=Al (Ah g)) Ac rfl (BP hg4) ?_ (aN (zv 0) (zn 1000000) [(0,1,za (zv 0) (zn 1),zn 4)] rfl (Av _) Ae hc.1);have ln:=O5 f g;refine Dh ?_ (by decide) (Nat.le_trans ln (by decide));refine Ay λt3 ht3=>?_;refine Fu (Ew hkk ?_);have e3:([Al (Ah g),Al (C5 f g),Al ("x/.././"++C5 f g)]:List Value)[k]?=some (Al (K6 (Ah g) (C5 f g) ("x/.././"++C5 f g) k)):=by
     have hk3:k<3:=by have:=hkk.2;exact UR this
     exact Wt hk3 rfl rfl rfl
    refine AG Ac rfl e3 ?_ (by have:=hkk.2;exact aN (zv 0) (zn 1000000) [(4,1,za (zv 0) (zn 1),zn 3)] rfl (Av _) Ae this);have e4 : "<"++K6 (Ah g) (C5 f g) ("x/.././"++C5 f g) k=Bz f g k:=by
     have hk3:k<3:=by have:=hkk.2;exact UR this
     exact Wt hk3 rfl rfl rfl
    refine Dh ?_ (by decide) (LP k (Nat.le_trans (Mg g) (by decide)) (Nat.le_trans ln (by decide)) (by refine Aa (Str.length_append ..) ?_;exact Nat.le_trans (Nat.add_le_add (by decide:_≤100) ln) (by decide)));refine Aa e4 ?_;refine Au (Ad (Ad k7 hpl) ht3) ?_ (by refine Aa (List.length_map ..) ?_;exact Xx hst2);exact fin _ _ ⟨_,⟨By ((By k4 (fp f hf4)).trans ((Am.put hpl).trans (Am.put ht3))) (fq f hf4),k5.next (it:=.inr g) ap hf4 ((Am.put hpl).trans (Am.put ht3)),Aa hst (Aa (Py hf hg hz hkk hc) rfl)⟩,rfl⟩
   ·refine Fu (Ew hz ?_);have hz0:z=0:=hc.2.resolve_left λh=>by
     have:decide ((g:Int)>(f:Int))=true:=decide_eq_true (aZ (za (zv 0) (zn 1)) (zv 1) [(0,1,za (zv 0) (zn 1),zv 1)] rfl (Az _ _) Ae h);replace this:=(show decide ((g:Int)>(f:Int))=false from hb).symm.trans this;contradiction
    exact .t (by refine Aa hz0 ?_;rfl) P
  ·refine BB.el ?_ λQ hb=>?_
   ·refine .f rfl ?_;refine CD (aZ (.neg (zv 0)) (zv 1) [] rfl (Az _ _) Ae) (aZ (za (zv 0) (zn 1)) (zv 1) [(0,1,za (zv 0) (zn 1),zn 4),(2,1,zv 1,zn 4)] rfl (Az _ _) Ae hf4 (by decide:("abcd").length=4)) ?_ (Fa rfl);refine AG (x:=.ref (p f)) k5.lp rfl (Bl hf4) ?_ (Cu hf4);refine H0 _ (k5.hp f hf4) (List.length_map ..) ?_ (US hst2);refine str_int ?_ (by lia);have e5:(Str.ofString (toString (((st.1 f).length:Nat):Int))).length≤10:=by
     refine Aa (PySem.ofString_length ..) ?_;exact Nat.le_trans (PySem.int_text_length_le10 (k:=4) (by decide) (by lia)) (by decide)
    refine Dh ?_ (show 1≤1000000 by decide) (Nat.le_trans e5 (by decide));refine AG (x:=.ref (p f)) k5.lp rfl (Bl hf4) ?_ (Cu hf4);refine Aw PySem.F.slot_list_append PySem.F.type_list_append (k5.hp f hf4) ?_;refine Au (k5.hp f hf4) ?_ (by refine Aa (List.length_map ..) ?_;exact US hst2);have k7:=Ab (o:=.lst ((st.1 f).map DR++[Al (CP f (st.1 f).length)])) (k5.hq f hf4) (ap.pq f hf4 f hf4).symm;refine AG (x:=.ref (q f)) (Ab (o:=.lst ((st.1 f).map DR++[Al (CP f (st.1 f).length)])) k5.lf (ap.l f hf4).2.2.1) rfl (Bl hf4) ?_ (Cu hf4);refine Aw PySem.F.slot_list_append PySem.F.type_list_append k7 ?_;refine Au k7 ?_ (by refine Aa (List.length_map ..) ?_;exact Xx hst2);exact fin _ _ ⟨_,⟨By (By k4 (fp f hf4)) (fq f hf4),k5.next (it:=.inl (CP f (st.1 f).length)) ap hf4 Am.rfl,by refine Aa hst (Aa (Px hf hg hz hc) ?_);rfl⟩,rfl⟩
   ·have hg4:g<4:=by have:=of_decide_eq_true (show decide ((g:Int)<4)=true from hb);lia
    refine .f (decide_eq_false (λs=>aF [(3,1,za (zv 0) (zn 1),zv 1),(4,1,za (zv 0) (zn 1),zv 1)] rfl (Az _ _) Ae (λh=>hc ⟨hg4,.inl h⟩) s)) ?_;refine Fu (Ew hz ?_);exact .f (by have:z≠0:=λh=>hc ⟨hg4,.inr h⟩;simp;exact aK this) (.f rfl Q)
 case done=>
  intro st l ⟨k1,k2,k3⟩;rw[List.length_map] at k2 k3;rw[List.take_length] at k3;refine Ba λT hT=>?_;exact hk T _ lp lf p q (k1.trans (Am.put hT)) Ac ((show st=E5 ns from k3)▸k2.mono (Am.put hT) (Nat.le_refl _))
end
noncomputable def KK(x:Str):Bool:=(Txt.split (Txt.slice x (some 1) none) "/").all (λy=>decide (y.length≤1000))&&(decide ((Txt.slice x (some 1) none).length≤1000)&&decide ((Em x).length≤1000))
theorem Q3:((List.range 4).all λf=>(List.range 4).all λg=>(List.range 3).all λk=>KK (BL (G7 f) (Txt.slice (Bz f g k) (some 1) none)))=true:=by decide +kernel
theorem LS{f g k:Nat}(hf:f<4)(hg:g<4)(hk:k<3):let x:=BL (G7 f) (Txt.slice (Bz f g k) (some 1) none)
  (∀y∈Txt.split (Txt.slice x (some 1) none) "/",y.length≤1000)∧(Txt.slice x (some 1) none).length≤1000∧(Em x).length≤1000:=by
 have h3:=List.all_eq_true.mp (List.all_eq_true.mp (List.all_eq_true.mp Q3 f (List.mem_range.mpr hf)) g (List.mem_range.mpr hg)) k (List.mem_range.mpr hk);simp only[KK,Bool.and_eq_true,decide_eq_true_eq] at h3;exact⟨λy hy=>of_decide_eq_true (List.all_eq_true.mp h3.1 y hy),h3.2⟩
section
variable{K:Value→Lg→Prop}
theorem Cy.mono{elt iter:Expr}{x:Str}{px:Pos}{ifs:List Expr}{scope:Scope}{pos:Pos}{v:Value}{F G:List Value→Lg→Prop}(h:Cy elt iter x px ifs scope pos c ps v led F)(k:∀ys l,F ys l→G ys l):Cy elt iter x px ifs scope pos c ps v led G:=
 λv' e s hs RR hRR=>h v' e s hs RR λD C oC m' ys led' s' a1 a2 a3 a4 a5=>hRR D C oC m' ys led' s' a1 a2 a3 a4 (k _ _ a5)
theorem U6(room:AU c 60 600){f:Nat}{r:Addr}{xs:List Str}(hf:f<4)(hr0:led r=some (.lst (xs.map Al)))(hlen:xs.length≤1000)(hrow:∀x∈xs,0<x.length∧x.length≤100∧ZI f x)(hk:∀l,led l=none→K (.ref l) (put l (.lst ((xs.map (Bo f)).map Al)) led)):A4 c ps (.ref 507) [Al (Ah f),.ref r] led K:=by
 refine' Ls ["place","rows"] ?ho ?hcd ?hb ?hl ?hnd ?c1 ?c2 ?c3 ?room ?_
 case ho=>k_is
 case hcd=>k_is
 case hb=>exact Fh λs X z_ z_=>BindsTo.of_eq rfl
 case hl=>exact rfl
 case hnd=>decide +kernel
 case c1=>rfl
 case c2=>rfl
 case c3=>rfl
 case room=>exact Nat.lt_of_le_of_lt (Nat.le_add_right _ _) room.1
 intro c hd hu hr;refine A7 hr 30 30 ?_;refine EX 30 ?_;refine Cy.mono (De 30 (λi ys l=>ys=((xs.take i).map (Bo f)).map Al∧l=led) hr0 ⟨rfl,rfl⟩ (λi ys l h=>h.2▸hr0) (by refine Aa (List.length_map ..) ?_;exact Nat.le_trans hlen (by decide)) ?turn (hown:=.inl ⟨rfl,λz_=>rfl⟩)) λys l h D hD=>?fin
 case fin=>
  refine oA h λh1 ho1=>?_;subst ho1;rw[List.length_map,List.take_length] at h1;refine Aa h1 ?_;exact hk D hD
 case turn=>
  intro c2 e1 e2 i v ys l hi hv ⟨h1,h2⟩;subst h2;replace hv:=(List.getElem?_map).symm.trans hv;refine An (Option.map_eq_some_iff.mp hv) λx hx ho2=>?_;subst ho2;refine Cg (hrow x (List.mem_of_getElem? hx)) λx1 x2 x3=>?_;have st:ys++[Al (Bo f x)]=((xs.take (i+1)).map (Bo f)).map Al:=by refine Aa List.take_add_one (Aa hx (Aa h1 ?_));simp
  have rm2:AU c2 59 590:=by
   unfold AU;refine Aa e1 (Aa e2 ?_);exact(.dn hd hu room:AU c 59 590)
  have z:x.length≤1000000:=Nat.le_trans x2 (by decide);refine CD (I7) (KX x1) ?_ z;refine BB.mk (λa1=>?_) λa1=>?_
  ·refine A3 (x3 a1) λg k hg hk e=>?_;refine Fp (Ic hf hg hk) λb1 b2 b3 b4 b5 b6 b7=>?_;refine Cg (LS hf hg hk) λd1 d2 d3=>?_;rw[← e] at b1 b2 b3 b4 b5 b6 b7 d1 d2 d3;refine MP (rm2.less (by decide) (by decide)) hf ?_;refine Ef 30 ?_;refine⟨_,rfl,_,rfl,z,?_⟩;refine Vk (rm2.less (by decide) (by decide)) (RU f) b7 ?_;refine JC (rm2.less (by decide) (by decide)) b1 b2 b3 b4 b5 d1 d2 d3 ?_;exact⟨by refine AV st (Aa (U7 a1) ?_);rfl,rfl⟩
  ·exact⟨by exact AV st (Aa (U8 a1) rfl),rfl⟩
end
noncomputable def A5(lev:List Int)(P:List Bu):List Int:=P.filterMap fun
 |.inr n=>some (lev.getD n 0)
 |.inl _=>none
noncomputable def Bc(Ld:Nat→List Str)(P:List Bu):List Str:=P.flatMap fun
 |.inr n=>Ld n
 |.inl x=>[x]
noncomputable abbrev AI:=List Int×(Nat→List Str)
noncomputable def AC(P:Nat→List Bu)(st:AI)(f:Nat):AI:=
 if st.1.getD f 0 = -1∧(-1)∉A5 st.1 (P f) then (st.1.set f (B4 (A5 st.1 (P f))+1),upd st.2 f (st.2 f++Bc st.2 (P f))) else st
noncomputable def AZ:AI:=([-1,-1,-1,-1],λz_=>[])
noncomputable def B8(P:Nat→List Bu)(st:AI)(_:Nat):AI:=(List.range 4).foldl (AC P) st
noncomputable def BG(P:Nat→List Bu):AI:=(List.range 4).foldl (B8 P) AZ
structure C8(P:Nat→List Bu):Prop where
 len:∀f,f<4→(P f).length≤10
 ref:∀f,f<4→∀n,.inr n∈P f→n<4
noncomputable def cnt(l:List Int):Nat:=(l.filter (· != -1)).length
structure DE(st:AI):Prop where
 len:st.1.length=4
 emp:∀j,j<4→st.1.getD j 0 = -1→st.2 j=[]
 size:∀j,j<4→(st.2 j).length≤10^cnt st.1
theorem Gb{Ld:Nat→List Str}{P:List Bu}{B:Nat}(hB:1≤B)(h:∀n,.inr n∈P→(Ld n).length≤B):(Bc Ld P).length≤P.length*B:=by
 induction P with
 |nil=>simp[Bc]
 |cons a r ih=>
  have ih:=ih λn hn=>h n (.tail _ hn)
  cases a with
  |inl x=>
   refine(?_:([x]++Bc Ld r).length≤_);refine Aa List.length_append (Aa List.length_cons (Aa List.length_cons (Aa (Nat.add_mul ..) (Aa (Nat.one_mul ..) (Aa List.length_nil ?_)))));exact ZQ hB ih
  |inr n=>
   refine(?_:(Ld n++Bc Ld r).length≤_);refine Aa List.length_append (Aa List.length_cons (Aa (Nat.add_mul ..) (Aa (Nat.one_mul ..) ?_)));exact ZP ih (h n (.head _))
theorem DU{l:List Int}:B4 l+1 ≠ -1:=by
 exact λs=>aF [(4,1,.neg (zn 1),zv 8),(5,1,za (zv 8) (zn 1),.neg (zn 1))] rfl (Av 0) (Av _) Hj s
theorem HC{l:List Int}{f:Nat}{x:Int}(h:l.length=4)(hf:f<4)(h1:l.getD f 0 = -1)(hx:x ≠ -1):cnt (l.set f x)=cnt l+1:=by
 have hl:f<l.length:=h▸hf;have e:l[f] = -1:=by rw[← h1,List.getD_eq_getElem?_getD,List.getElem?_eq_getElem hl];rfl
 unfold cnt;rw[← List.countP_eq_length_filter,← List.countP_eq_length_filter,List.countP_set hl,e,if_neg (by decide),if_pos (bne_iff_ne.mpr hx)];rfl
theorem IE{P:Nat→List Bu}{st:AI}{f:Nat}(hP:C8 P)(hf:f<4)(h:DE st):DE (AC P st f):=by
 unfold AC;split
 ·rename_i hc;refine oA hc λh1 h2=>?_;have hfl:(Bc st.2 (P f)).length≤10^(cnt st.1+1):=by
   refine Nat.le_trans (Gb (Nat.one_le_pow _ 10 (by decide)) λn hn=>h.size n (hP.ref f hf n hn)) ?_;refine Aa (Nat.pow_succ ..) (Aa (Nat.mul_comm ..) ?_);exact Nat.mul_le_mul_left _ (hP.len f hf)
  refine⟨by simp[h.len],?_,?_⟩
  ·intro j hj hj1;by_cases e:j=f
   ·subst e;simp only[List.getD_eq_getElem?_getD,List.getElem?_set,h.len,hj,if_pos] at hj1;exact absurd hj1 DU
   ·simp only[Ai e];refine h.emp j hj ?_;simp only[List.getD_eq_getElem?_getD,List.getElem?_set,if_neg (Ne.symm e)] at hj1;refine(List.getD_eq_getElem?_getD).trans ?_;exact hj1
  ·intro j hj;refine Aa (HC (x:=B4 (A5 st.1 (P f))+1) h.len hf h1 DU) ?_;by_cases e:j=f
   ·subst e;simp only[Ao,h.emp j hj h1,List.nil_append];exact hfl
   ·simp only[Ai e];exact Nat.le_trans (h.size j hj) (Nat.pow_le_pow_right (by decide) (Nat.le_succ _))
 ·exact h
theorem Eu(hP:C8 P):∀n,n≤4→∀st,DE st→DE ((List.range n).foldl (AC P) st):=by
 intro n
 induction n with
 |zero=>exact λz_ z_ h=>h
 |succ n ih=>
  intro hn st h;refine Aa List.range_succ (Aa List.foldl_append ?_);exact IE hP (aN (za (zv 0) (zn 1)) (zn 4) [(0,1,za (zv 0) (zn 1),zn 4)] rfl (Av _) Ae hn) (ih (aN (zv 0) (zn 4) [(0,1,za (zv 0) (zn 1),zn 4)] rfl (Av _) Ae hn) st h)
theorem ID{P:Nat→List Bu}(hP:C8 P):∀n,DE ((List.range n).foldl (B8 P) AZ):=by
 intro n
 induction n with
 |zero=>
  refine⟨rfl,λz_ z_ z_=>rfl,λj z_=>?_⟩;refine(?_:(0:Nat)≤_);exact Nat.zero_le _
 |succ n ih=>
  refine Aa List.range_succ (Aa List.foldl_append ?_);exact Eu hP 4 (Nat.le_refl _) _ ih
theorem Kj{l:List Int}(h:l.length=4):cnt l≤4:=by
 unfold cnt;refine AV h ?_;exact List.length_filter_le _ _
theorem DE.le{st:AI}(h:DE st):∀j,j<4→(st.2 j).length≤10000:=λj hj=>
 Nat.le_trans (h.size j hj) (Nat.le_trans (Nat.pow_le_pow_right (by decide) (Kj h.len)) (by decide))
theorem EV{P:Nat→List Bu}{st:AI}{f:Nat}(h:¬(st.1.getD f 0 = -1∧(-1)∉A5 st.1 (P f))):AC P st f=st:=if_neg h
theorem H1{P:Nat→List Bu}{st:AI}{f:Nat}(h1:st.1.getD f 0 = -1)(h2:(-1)∉A5 st.1 (P f)):AC P st f=(st.1.set f (B4 (A5 st.1 (P f))+1),upd st.2 f (st.2 f++Bc st.2 (P f))):=if_pos ⟨h1,h2⟩
theorem DV{α:Type}{g:α→Nat→α}{st:α}{i:Nat}:(List.range (i+1)).foldl g st=g ((List.range i).foldl g st) i:=by
 refine Aa List.range_succ (List.foldl_append.trans ?_);rfl
theorem Kt{lev:List Int}{P:List Bu}{i:Nat}{it:Bu}(h:P[i]?=some it):A5 lev (P.take (i+1))=A5 lev (P.take i)++A5 lev [it]:=by
 unfold A5;refine Aa List.take_add_one (Aa h (List.filterMap_append.trans ?_));rfl
theorem MJ{Ld:Nat→List Str}{P:List Bu}{i:Nat}{it:Bu}(h:P[i]?=some it):Bc Ld (P.take (i+1))=Bc Ld (P.take i)++Bc Ld [it]:=by
 unfold Bc;refine Aa List.take_add_one (Aa h (List.flatMap_append.trans ?_));rfl
theorem Nf{lev:List Int}{P:List Bu}{n:Nat}(h : .inr n∈P):lev.getD n 0∈A5 lev P:=List.mem_filterMap.mpr ⟨_,h,rfl⟩
structure La(led l:Lg)(ll lv:Addr)(q:Nat→Addr)(st:AI):Prop where
 ex:Am led l
 hl:l ll=some (.lst (CY q))
 hv:l lv=some (.lst (st.1.map zV))
 hq:∀j,j<4→l (q j)=some (.lst ((st.2 j).map Al))
structure cH(led:Lg)(ll lv:Addr)(q:Nat→Addr):Prop where
 qq:∀i,i<4→∀j,j<4→i≠j→q i≠q j
 lq:∀j,j<4→ll≠q j∧lv≠q j
 vl:ll≠lv
 fq:∀j,j<4→led (q j)=none
 fv:led lv=none
theorem La.mono{led l l':Lg}{ll lv:Addr}{q:Nat→Addr}{st:AI}(h:La led l ll lv q st)(e:Am l l'):La led l' ll lv q st:=⟨h.ex.trans e,e _ _ h.hl,e _ _ h.hv,λj hj=>e _ _ (h.hq j hj)⟩
theorem La.set{led l:Lg}{ll lv:Addr}{q:Nat→Addr}{st:AI}{x:Int}{f:Nat}{ys:List Str}{L:Lg}(h:La led l ll lv q st)(a:cH led ll lv q)(hf:f<4)(e:∀b o,b≠lv→b≠q f→l b=some o→L b=some o)(hv:L lv=some (.lst ((st.1.set f x).map zV)))(hq:L (q f)=some (.lst (ys.map Al))) :
  La led L ll lv q (st.1.set f x,upd st.2 f ys):=by
 refine⟨λb o hb=>e b o (λe2=>by rw[e2,a.fv] at hb;contradiction) (λe2=>by rw[e2,a.fq f hf] at hb;contradiction) (h.ex b o hb),e _ _ a.vl (a.lq f hf).1 h.hl,hv,λj hj=>?_⟩;refine(?_:L (q j)=some (.lst ((upd st.2 f ys j).map Al)));by_cases e2:j=f
 ·subst e2;refine Aa Ao ?_;exact hq
 ·refine Aa (Ai e2) ?_;exact e _ _ (a.lq j hj).2.symm (a.qq j hj f hf e2) (h.hq j hj)
theorem Uh:B4 l∈(-1:Int)::l:=by
 have key:∀(l:List Int) (z:Int),l.foldl max z∈z::l:=by
  intro l
  induction l with
  |nil=>exact λz=>.head _
  |cons a r ih=>
   intro z;rcases List.mem_cons.mp (ih (max z a)) with h | h
   ·show r.foldl max (max z a)∈_;refine Aa h ?_;rcases Int.le_total z a with e | e
    ·refine Aa (Int.max_eq_right e) ?_;exact .tail _ (.head _)
    ·refine Aa (Int.max_eq_left e) ?_;exact .head _
   ·exact .tail _ (.tail _ h)
 exact key l (-1)
theorem Ui:∀a∈(-1:Int)::l,a≤B4 l:=λa ha=>by
 rcases List.mem_cons.mp ha with rfl | ha
 ·exact Hj
 ·exact K5 ha
theorem BZ{α β:Type}{f:α→β}{l:List α}{n:Nat}(h:l.length≤n):(l.map f).length≤n:=by refine Aa (List.length_map ..) ?_;exact h
section
variable{K:Value→Lg→Prop}
theorem Vg(room:AU c 40 400)(hpl:led pl=some (.lst (CY pr)))(hpr:∀j,j<4→led (pr j)=some (.lst ((P j).map DR)))(hP:C8 P)(hk:∀T l ll lv q,La led l ll lv q (BG P)→l T=some (.tup [.ref ll,.ref lv])→K (.ref T) l):A4 c ps (.ref 512) [.ref pl] led K:=by
 refine' Ls ["plain"] ?ho ?hcd ?hb ?hl ?hnd ?c1 ?c2 ?c3 ?room ?_
 case ho=>k_is
 case hcd=>k_is
 case hb=>exact CL λs X z_=>BindsTo.of_eq rfl
 case hl=>exact rfl
 case hnd=>decide +kernel
 case c1=>rfl
 case c2=>rfl
 case c3=>rfl
 case room=>exact Nat.lt_of_le_of_lt (Nat.le_add_right _ _) room.1
 intro c hd hu hr;refine A7 hr 30 60 ?_;refine Ay λq0 h0=>?_;refine Ay λq1 h1=>?_;refine Ay λq2 h2=>?_;refine Ay λq3 h3=>?_;refine Ay λll h4=>?_;refine Ay λlv h5=>?_;refine Bn 30 ?_;refine CQ λrg h6=>?_;refine EG λl hl=>?_;have f0:∀j,j<4→led (CW q0 q1 q2 q3 j)=none:=lt4 h0 (Ak (l:=led) (by repeat (first | exact Am.rfl | refine Am.trans ?_ (Am.put (by assumption)))) h1) (Ak (l:=led) (by repeat (first | exact Am.rfl | refine Am.trans ?_ (Am.put (by assumption)))) h2) (Ak (l:=led) (by repeat (first | exact Am.rfl | refine Am.trans ?_ (Am.put (by assumption)))) h3);have fv:led lv=none:=Ak (l:=led) (by repeat (first | exact Am.rfl | refine Am.trans ?_ (Am.put (by assumption)))) h5;have nd:[lv,ll,q3,q2,q1,q0].Nodup:=(BI (o:=.lst []) h5 (BI h4 (BI h3 (BI h2 (BI h1 (BI h0 O7)))))).1;have g:∀(i j:Nat) (hi:i<6) (hj:j<6),i<j→[lv,ll,q3,q2,q1,q0][i]≠[lv,ll,q3,q2,q1,q0][j]:=List.pairwise_iff_getElem.mp nd;have A:cH led ll lv (CW q0 q1 q2 q3):=⟨lt4 (lt4 (λh=>absurd rfl h) (λz_=>(g 4 5 (by decide) (by decide) (by decide)).symm) (λz_=>(g 3 5 (by decide) (by decide) (by decide)).symm) λz_=>(g 2 5 (by decide) (by decide) (by decide)).symm)
   (lt4 (λz_=>g 4 5 (by decide) (by decide) (by decide)) (λh=>absurd rfl h) (λz_=>(g 3 4 (by decide) (by decide) (by decide)).symm) λz_=>(g 2 4 (by decide) (by decide) (by decide)).symm)
   (lt4 (λz_=>g 3 5 (by decide) (by decide) (by decide)) (λz_=>g 3 4 (by decide) (by decide) (by decide)) (λh=>absurd rfl h) λz_=>(g 2 3 (by decide) (by decide) (by decide)).symm)
   (lt4 (λz_=>g 2 5 (by decide) (by decide) (by decide)) (λz_=>g 2 4 (by decide) (by decide) (by decide)) (λz_=>g 2 3 (by decide) (by decide) (by decide)) λh=>absurd rfl h),
  lt4 ⟨g 1 5 (by decide) (by decide) (by decide),g 0 5 (by decide) (by decide) (by decide)⟩ ⟨g 1 4 (by decide) (by decide) (by decide),g 0 4 (by decide) (by decide) (by decide)⟩ ⟨g 1 3 (by decide) (by decide) (by decide),g 0 3 (by decide) (by decide) (by decide)⟩ ⟨g 1 2 (by decide) (by decide) (by decide),g 0 2 (by decide) (by decide) (by decide)⟩,(g 0 1 (by decide) (by decide) (by decide)).symm,f0,fv⟩
 have S0:La led l ll lv (CW q0 q1 q2 q3) AZ:=⟨by refine Aa hl ?_;exact(by repeat (first | exact Am.rfl | refine Am.trans ?_ (Am.put (by assumption)))),by refine Aa hl ?_;exact(by repeat (first | exact Ac | refine Ad ?_ (by assumption))),by refine Aa hl ?_;exact(by repeat (first | exact Ac | refine Ad ?_ (by assumption))),by
  refine Aa hl ?_;exact lt4 (by repeat (first | exact Ac | refine Ad ?_ (by assumption))) (by repeat (first | exact Ac | refine Ad ?_ (by assumption))) (by repeat (first | exact Ac | refine Ad ?_ (by assumption))) (by repeat (first | exact Ac | refine Ad ?_ (by assumption)))⟩
 have rr:l rg=some (.rng 0 4):=by refine Aa hl ?_;exact(by repeat (first | exact Ac | refine Ad ?_ (by assumption)))
 clear hl h0 h1 h2 h3 h4 h5 h6 g nd f0 fv;generalize CW q0 q1 q2 q3=q at A S0;refine GS (σ:=AI) 60 30 ["plain","laid","level"] (λz_=>[.ref pl,.ref ll,.ref lv]) (λi st l=>La led l ll lv q st∧st=(List.range i).foldl (B8 P) AZ) hr rr 4 (.inl rfl) (by decide) AZ ⟨S0,rfl⟩ rfl ?turn ?done
 case done=>
  intro st l ⟨k1,k2⟩;refine Ba λT hT=>?_;exact hk T _ ll lv q ((show st=BG P from k2)▸k1.mono (Am.put hT)) Ac
 case turn=>
  intro c1 lk hr1 i z st0 l1 hi hz ⟨k1,k2⟩ Y M _ _ _ fin;refine Bn 30 ?_;refine CQ λrg2 h7=>?_;refine GS (σ:=AI) 60 30 ["plain","laid","level"] (λz_=>[.ref pl,.ref ll,.ref lv]) (λj st l=>La led l ll lv q st∧st=(List.range j).foldl (AC P) st0) hr1 Ac 4 (.inl rfl) (by decide) st0 ⟨k1.mono (Am.put h7),rfl⟩ rfl ?t2 ?d2
  case d2=>
   intro st l ⟨e1,e2⟩;exact fin _ _ ⟨st,⟨e1,by refine Aa DV (AV k2 (e2.trans ?_));rfl⟩,rfl⟩
  case t2=>
   intro c2 lk2 hr2 f zf st l2 hf hzf ⟨m1,m2⟩ Y2 M2 _ _ _ fin2;replace hzf:=hzf.trans (Int.zero_add ..);subst hzf;have ok:DE st:=m2▸Eu hP f (aN (zv 0) (zn 4) [(0,1,za (zv 0) (zn 1),zn 4)] rfl (Av _) Ae hf) _ (k2▸ID hP i);have hst:(List.range (f+1)).foldl (AC P) st0=AC P st f:=DV.trans (AV m2 rfl);have hl4:=ok.len;have hrf:=m1.ex _ _ (hpr f hf);have hPl:=hP.len f hf;refine' PD hr2 30 ?_ ?hsw
   case hsw=>exact Bq λz_=>rfl
   refine AG (x:=.ref (pr f)) (m1.ex _ _ hpl) rfl (Bl hf) ?_ (Cu hf);refine Cy.mono (De 30 (λi ys l=>ys=(A5 st.1 ((P f).take i)).map zV∧l=l2) hrf ⟨rfl,rfl⟩ (λi ys l h=>h.2▸hrf) (by refine Aa (List.length_map ..) ?_;exact aN (zv 0) (zn 1000000) [(0,1,zv 0,zn 10)] rfl (Av _) Ae hPl) ?tc (hown:=.inl ⟨rfl,λz_=>rfl⟩)) λys l h D hD=>?fc
   case tc=>
    intro c3 e1 e2 j v ys l hj hv ⟨b1,b2⟩;subst b2;replace hv:=(List.getElem?_map).symm.trans hv;refine An (Option.map_eq_some_iff.mp hv) λit hit ho2=>?_;subst ho2;refine Aa (Kt hit) ?_
    cases it with
    |inl y=>
     refine Ph (.f rfl ?_);exact⟨by refine b1.trans ?_;simp[A5],rfl⟩
    |inr n=>
     have hn4:=hP.ref f hf n (List.mem_of_getElem? hit);refine Pi (.t rfl ?_);refine AG (x:=zV (st.1.getD n 0)) m1.hv rfl (by refine(List.getElem?_map).trans (Aa (List.getD_eq_getElem?_getD) (Aa (List.getElem?_eq_getElem (UO hl4 hn4)) ?_));rfl) ?_ (Cu hn4);exact⟨by refine Aa b1 (Aa List.map_append ?_);rfl,rfl⟩
   case fc=>
    refine oA h λb1 ho1=>?_;subst ho1;rw[List.length_map,List.take_length] at b1;subst b1;have mD:=m1.mono (Am.put hD (o:=.lst ((A5 st.1 (P f)).map zV)));have eD:put D (.lst ((A5 st.1 (P f)).map zV)) l D=some (.lst ((A5 st.1 (P f)).map zV)):=Ac;have eP:=(m1.ex.trans (Am.put hD (o:=.lst ((A5 st.1 (P f)).map zV)))) _ _ hpl;have eR:=(m1.ex.trans (Am.put hD (o:=.lst ((A5 st.1 (P f)).map zV)))) _ _ (hpr f hf);generalize put D (.lst ((A5 st.1 (P f)).map zV)) l=l3 at mD eD eP eR;clear hrf hD m1;refine AG (x:=zV (st.1.getD f 0)) mD.hv rfl (by refine(List.getElem?_map).trans (Aa (List.getD_eq_getElem?_getD) (Aa (List.getElem?_eq_getElem (UN hf hl4)) ?_));rfl) ?_ (Cu hf);by_cases hc1:st.1.getD f 0 = -1;rotate_left
    ·exact .f (by simpa using hc1) (.f rfl (fin2 _ _ ⟨st,⟨mD,Aa hst (Aa (EV λh=>hc1 h.1) rfl)⟩,rfl⟩))
    refine .t (by refine Aa hc1 ?_;rfl) ?_;by_cases hc2:(-1)∉A5 st.1 (P f);rotate_left
    ·exact GP (r:=false) eD (by simpa using hc2) (.f rfl (.f rfl (fin2 _ _ ⟨st,⟨mD,Aa hst (Aa (EV λh=>hc2 h.2) rfl)⟩,rfl⟩)))
    refine GP (r:=true) eD (by simpa using hc2) (.t rfl (.t rfl ?_));refine Ay λt1 g1=>?_;refine Hx (vs:=[zV (-1)]) Ac (Ad eD g1) (λt2 g2=>?_) (Fa rfl) (BZ (Nat.le_trans (List.length_filterMap_le ..) (aN (zv 0) (zn 100000) [(0,1,zv 0,zn 10)] rfl (Av _) Ae hPl)));refine LA (ns:=(-1)::A5 st.1 (P f)) Ac Uh Ui ?_;refine Ro (Ad (Ad mD.hv g1) g2) (UN hf hl4) (aN (za (zv 0) (zn 1)) (zn 1000) [(0,1,za (zv 0) (zn 1),zn 4)] rfl (Av _) Ae hf) ?_;have ev:∀b o,b≠lv→l3 b=some o→put lv (.lst ((st.1.set f (B4 (A5 st.1 (P f))+1)).map zV)) (put t2 (.lst ([zV (-1)]++(A5 st.1 (P f)).map zV)) (put t1 (.lst [zV (-1)]) l3)) b=some o:=λb o hb h=>Ab (Ad (Ad h g1) g2) hb;refine Bn 30 ?_;have vp:pl≠lv:=λe=>by rw[e,A.fv] at hpl;contradiction
    have vr:pr f≠lv:=λe=>by have:=hpr f hf;rw[e,A.fv] at this;contradiction
    refine AG (x:=.ref (pr f)) (ev _ _ vp eP) rfl (Bl hf) ?_ (Cu hf);refine EG λl4 hl4'=>?_;have ev4:∀b o,b≠lv→l3 b=some o→l4 b=some o:=by refine Aa hl4' ?_;exact ev
    have hv4:l4 lv=some (.lst ((st.1.set f (B4 (A5 st.1 (P f))+1)).map zV)):=by refine Aa hl4' ?_;exact Ac
    clear hl4' ev g1 g2;have eq4:∀j,j<4→l4 (q j)=some (.lst ((st.2 j).map Al)):=λj hj=>ev4 _ _ (A.lq j hj).2.symm (mD.hq j hj);have qp:pr f≠q f:=λe=>by have:=hpr f hf;rw[e,A.fq f hf] at this;contradiction
    have se:=ok.emp f hf hc1;refine Et (σ:=Unit) 60 30 ["plain","laid","level","f"] (λz_=>[.ref pl,.ref ll,.ref lv,zV f]) (λi z_ l=>l (q f)=some (.lst ((Bc st.2 ((P f).take i)).map Al))∧∀b o,b≠q f→l4 b=some o→l b=some o) hr2 (ev4 _ _ vr eR) () ⟨by refine(eq4 f hf).trans (Aa se ?_);rfl,λz_ z_ z_ h=>h⟩ rfl (λi z l h=>h.2 _ _ qp (ev4 _ _ vr eR)) ?t3 ?d3
    case d3=>
     intro _ l ⟨h1,h2⟩;rw[List.length_map,List.take_length] at h1;exact fin2 _ _ ⟨_,⟨mD.set A hf (x:=B4 (A5 st.1 (P f))+1) (ys:=st.2 f++Bc st.2 (P f)) (λb o n1 n2 h=>h2 b o n2 (ev4 b o n1 h)) (h2 _ _ (A.lq f hf).2 hv4) (by refine Aa se ?_;exact h1),Aa hst (Aa (H1 hc1 hc2) rfl)⟩,rfl⟩
    case t3=>
     intro c4 lk4 hr4 j v _ l hj hv ⟨h1,h2⟩ Y3 M3 _ _ _ fin3;rw[List.length_map] at hj;replace hv:=(List.getElem?_map).symm.trans hv;refine An (Option.map_eq_some_iff.mp hv) λit hit ho2=>?_;subst ho2;have hfl:(Bc st.2 ((P f).take j)).length≤100000:=Nat.le_trans (Gb (B:=10000) (by decide) λn hn=>ok.le n (hP.ref f hf n (List.mem_of_mem_take hn))) (by refine Aa List.length_take ?_;lia);refine AG (x:=.ref (q f)) (h2 _ _ (A.lq f hf).1 (ev4 _ _ A.vl mD.hl)) rfl (Bl hf) ?_ (Cu hf);refine Aw PySem.F.slot_list_extend PySem.F.type_list_extend h1 ?_;have end3:∀{us:List Str} {L:Lg},Bc st.2 [it]=us→(∀b o,b≠q f→l4 b=some o→L b=some o)→put (q f) (.lst ((Bc st.2 ((P f).take j)).map Al++us.map Al)) L (q f)=some (.lst ((Bc st.2 ((P f).take (j+1))).map Al))∧∀b o,b≠q f→l4 b=some o→put (q f) (.lst ((Bc st.2 ((P f).take j)).map Al++us.map Al)) L b=some o:=λ{us L} e h=>⟨by exact Ac.trans (Aa (MJ hit) (Aa e (Aa List.map_append rfl))),λb o n k=>Ab (h b o n k) n⟩
     cases it with
     |inl y=>
      refine Ph (.f rfl ?_);refine Ay λt ht=>?_;refine Fx (Ad h1 ht) Ac (Ag h1 ht).symm ?_ (BZ hfl) (Fa rfl);exact fin3 _ _ ⟨(),end3 (us:=[y]) rfl λb o n k=>Ad (h2 b o n k) ht,rfl⟩
     |inr n=>
      have hm:=List.mem_of_getElem? hit;have hn4:=hP.ref f hf n hm;have hne:n≠f:=λe=>hc2 (by have:=Nf (lev:=st.1) hm;rw[e,hc1] at this;exact this);refine Pi (.t rfl ?_);refine AG (x:=.ref (q n)) (h2 _ _ (A.lq f hf).1 (ev4 _ _ A.vl mD.hl)) rfl (Bl hn4) ?_ (Cu hn4);refine Fx h1 (h2 _ _ (A.qq n hn4 f hf hne) (eq4 n hn4)) (A.qq n hn4 f hf hne) ?_ (BZ hfl) (BZ (Nat.le_trans (ok.le n hn4) (by decide)));exact fin3 _ _ ⟨(),end3 (us:=st.2 n) (by simp[Bc]) h2,rfl⟩
end
noncomputable def DW(x:Str):Nat:=if x=Ah 0 then 0 else if x=Ah 1 then 1 else if x=Ah 2 then 2 else 3
theorem BV(hf:f<4):DW (Ah f)=f:=M7 hf (by decide +kernel) (by decide +kernel) (by decide +kernel) (by decide +kernel)
noncomputable def DS(x:Str):Bool:=Txt.item x 0=="/"
noncomputable def FU(md:Nat→Option (List Str))(c x:Str):List Str:=if DS x=true then (md (DW x)).getD [] else if (Txt.item x 0==c)=true then [x++"!",x++"?"] else [x]
noncomputable def CG(md:Nat→Option (List Str))(c:Str)(xs:List Str):List Str:=xs.flatMap (FU md c)
noncomputable def FO(Rd:Nat→List Str)(c:Str)(md:Nat→Option (List Str))(f:Nat):Nat→Option (List Str):=upd md f (some (CG md c (Rd f)))
noncomputable def CS(Rd:Nat→List Str)(c:Str)(fs:List Nat):Nat→Option (List Str):=fs.foldl (FO Rd c) (λz_=>none)
noncomputable def HP(Rd:Nat→List Str)(c:Str)(fs:List Nat):Prop:=∀pre f post,fs=pre++f::post→f<4∧(∀x∈Rd f,0<x.length∧x.length≤100∧(DS x=true→∃g xs,g<4∧x=Ah g∧CS Rd c pre g=some xs))∧(CG (CS Rd c pre) c (Rd f)).length≤100000
theorem GO{Rd:Nat→List Str}{c:Str}{pre:List Nat}{f:Nat}:CS Rd c (pre++[f])=FO Rd c (CS Rd c pre) f:=by
 unfold CS;refine List.foldl_append.trans ?_;rfl
theorem NP{md:Nat→Option (List Str)}{c x:Str}{xs:List Str}{k:Nat}(h:xs[k]?=some x):CG md c (xs.take (k+1))=CG md c (xs.take k)++FU md c x:=by
 unfold CG;refine Aa List.take_add_one (Aa h (List.flatMap_append.trans ?_));simp
theorem Ih:(CG md c (xs.take k)).length≤(CG md c xs).length:=by
 have e:CG md c xs=CG md c (xs.take k)++CG md c (xs.drop k):=by
  unfold CG;exact AV List.flatMap_append (Aa (List.take_append_drop ..) rfl)
 refine Aa e (Aa List.length_append ?_);exact Nat.le_add_right _ _
theorem Lh(hg:g<4)(h:DS (Ah g)=true)(hm:md g=some xs):FU md c (Ah g)=xs:=by
 unfold FU;refine(if_pos h).trans (Aa (BV hg) (Aa hm ?_));rfl
theorem Lf(h:DS x=false)(h2:(Txt.item x 0==c)=true):FU md c x=[x++"!",x++"?"]:=by
 unfold FU;exact(if_neg (by rw[h];decide)).trans ((if_pos h2).trans rfl)
theorem IC{md:Nat→Option (List Str)}{c x:Str}(h:DS x=false)(h2:(Txt.item x 0==c)=false):FU md c x=[x]:=by
 unfold FU;exact(if_neg (by rw[h];decide)).trans ((if_neg (by rw[h2];decide)).trans rfl)
theorem JX{rs:List (List Nat)}{i:Nat}{g:List Nat}(h:rs[i]?=some g):rs.flatten=(rs.take i).flatten++(g++(rs.drop (i+1)).flatten):=by
 refine oE (List.getElem?_eq_some_iff.mp h) λhl e=>?_;have e3:=List.take_append_drop i rs;rw[((List.drop_eq_getElem_cons hl).trans (Aa e rfl):rs.drop i=g::rs.drop (i+1))] at e3;exact(Aa e3 rfl:rs.flatten=(rs.take i++g::rs.drop (i+1)).flatten).trans (List.flatten_append.trans (Aa List.flatten_cons rfl))
noncomputable def Kx(l:Lg)(v:Value)(g:List Nat):Prop:=∃T,v = .ref T∧l T=some (.tup (g.map λk=>Al (Ah k)))
structure VS(led l:Lg)(d:Addr)(md:Nat→Option (List Str))(kvs:List (Str×Value))(k:Nat):Prop where
 ex:Am led l
 hd:l d=some (.dct kvs)
 yes:∀g,g<4→∀xs,md g=some xs→xs.length≤100000∧∃a,valueAt kvs (Ah g)=some (.ref a)∧l a=some (.lst (xs.map Al))
 len:kvs.length≤k
theorem VS.next(R:VS led l d md kvs k)(hf:f<4)(fd:led d=none)(fr:l row=none)(e:∀b o,b≠row→l b=some o→L b=some o)(hr:L row=some (.lst (ys.map Al)))(hz:ys.length≤100000) :
  VS led (put d (.dct (stored kvs (Ah f) (.ref row))) L) d (upd md f (some ys)) (stored kvs (Ah f) (.ref row)) (k+1):=by
 refine⟨λb o h=>Ab (e b o (λe2=>by have:=R.ex b o h;rw[e2,fr] at this;contradiction) (R.ex b o h)) (λe2=>by rw[e2,fd] at h;contradiction),Ac,λg hg xs hx=>?_,Nat.le_trans (stored_length_le _ _ _) (Nat.add_le_add_right R.len 1)⟩;by_cases e2:g=f
 ·subst e2;replace hx:=Ao.symm.trans hx;obtain rfl:=Option.some.inj hx;exact⟨hz,row,Bi.trans ((if_pos rfl).trans rfl),Ab hr (Ag R.hd fr).symm⟩
 ·replace hx:=(Ai e2).symm.trans hx;refine G3 (R.yes g hg xs hx) λh1 a h2 h3=>?_;refine⟨h1,a,?_,Ab (e a _ (Ag h3 fr) h3) (λe3=>by rw[e3,R.hd] at h3;(have hq:=Option.some.inj h3;contradiction))⟩;refine Bi.trans ((if_neg λq=>e2 (by rw[← BV hg,q,BV hf])).trans ?_);exact h2
section
variable{K:Value→Lg→Prop}
theorem OI(room:AU c 40 400){rl rd:Addr}{rr:Nat→Addr}{Rd:Nat→List Str}{ws:List Value}{rs:List (List Nat)}{ch:Str}(hrl:led rl=some (.lst (CY rr)))(hrr:∀j,j<4→led (rr j)=some (.lst ((Rd j).map Al)))(hrd:led rd=some (.lst ws))(hG:Ch (Kx led) ws rs)(ok:HP Rd ch rs.flatten)(hz:rs.flatten.length≤1000)(hk:∀d l kvs,VS led l d (CS Rd ch rs.flatten) kvs rs.flatten.length→K (.ref d) l):A4 c ps (.ref 526) [.ref rl,.ref rd,Al ch] led K:=by
 refine Be ["read","rounds","letter"] (by k_is) (TJ λs X z_ z_ z_=>BindsTo.of_eq rfl) room λc hd hu hr rm=>?_;refine A7 hr 30 60 ?_;refine E6 λd hd lo=>?_;refine Bn 30 ?_;have fl:∀i,(rs.take i).flatten.length≤rs.flatten.length:=λi=>by
  conv=>rhs;rw[← List.take_append_drop i rs,List.flatten_append,List.length_append]
  exact Nat.le_add_right _ _
 refine Et (σ:=List (Str×Value)) 60 30 ["read","rounds","letter","made"] (λz_=>[.ref rl,.ref rd,Al ch,.ref d]) (λi kvs l=>VS led l d (CS Rd ch (rs.take i).flatten) kvs (rs.take i).flatten.length) hr (Ad hrd hd) [] ⟨Am.put hd,Ac,λg hg xs h=>(by contradiction),Nat.le_refl _⟩ rfl (λi z l h=>h.ex _ _ hrd) ?turn ?done
 case done=>
  intro kvs l h;rw[hG.length,List.take_length] at h;exact hk d l kvs h
 case turn=>
  intro c1 lk hr1 i v kvs l hi hv R Y M _ _ _ fin;obtain⟨g,hg,hgr⟩:∃g,rs[i]?=some g∧Kx led v g:=by
   have:i<rs.length:=by refine AV hG.length ?_;exact hi
   refine An (hG.get (List.getElem?_eq_getElem this)) λv' h1 h2=>?_;replace h1:=hv.symm.trans h1;obtain rfl:=Option.some.inj h1;exact⟨_,List.getElem?_eq_getElem this,h2⟩
  refine An hgr λT ho1 hT=>?_;subst ho1;have e0:=JX hg;refine Bn 30 ?_;refine I9 (σ:=List (Str×Value)) 60 30 ["read","rounds","letter","made"] (λz_=>[.ref rl,.ref rd,Al ch,.ref d]) (λj kvs l=>VS led l d (CS Rd ch ((rs.take i).flatten++g.take j)) kvs ((rs.take i).flatten.length+j)) hr1 (R.ex _ _ hT) kvs (by refine Aa List.take_zero (Aa (List.append_nil ..) ?_);exact R) rfl (λi z l h=>h.ex _ _ hT) ?t2 ?d2
  case d2=>
   intro kvs2 l2 h;rw[List.length_map,List.take_length] at h;have e1:(rs.take (i+1)).flatten=(rs.take i).flatten++g:=by refine Aa List.take_add_one (Aa hg (List.flatten_append.trans ?_));simp
   exact fin _ _ ⟨kvs2,by dsimp only;refine Aa e1 (Aa List.length_append ?_);exact h,rfl⟩
  case t2=>
   intro c2 lk2 hr2 j v kvs l hj hv R Y2 M2 _ _ _ fin2;rw[List.length_map] at hj;replace hv:=(List.getElem?_map).symm.trans hv;refine An (Option.map_eq_some_iff.mp hv) λf hf ho2=>?_;subst ho2;refine Cg (ok ((rs.take i).flatten++g.take j) f (g.drop (j+1)++(rs.drop (i+1)).flatten) (by
    rw[e0];obtain⟨hl,e⟩:=List.getElem?_eq_some_iff.mp hf
    conv=>lhs;rw[← List.take_append_drop j g,List.drop_eq_getElem_cons hl,e]
    simp)) λhf4 hrow hsz=>?_
   refine Ay λrow hrow0=>?_;refine Bn 30 ?_;refine O9 30 ?_;refine FF ((lk2.room (lk.room rm)).less (by decide) (by decide)) λpl hpl=>?_;refine Aw PySem.F.slot_list_index PySem.F.type_list_index Ac ?_;refine Na Ac hf4 ?_;have e1:∀b o,l b=some o→put pl (.lst (Ei.map Al)) (put row (.lst []) l) b=some o:=λb o h=>Ad (Ad h hrow0) hpl;refine AG (x:=.ref (rr f)) (e1 _ _ (R.ex _ _ hrl)) rfl (Bl hf4) ?_ (Cu hf4);refine EG λl4 hl4=>?_;have e4:∀b o,l b=some o→l4 b=some o:=by rw[hl4];exact e1
   have r4:l4 row=some (.lst []):=by rw[hl4];exact(by repeat (first | exact Ac | refine Ad ?_ (by assumption)))
   clear hl4 e1 hpl;have nd:d≠row:=Ag R.hd hrow0;generalize hmd:CS Rd ch ((rs.take i).flatten++g.take j)=md at R hrow hsz;refine Et (σ:=Unit) 60 30 ["read","rounds","letter","made","place","row"] (λz_=>[.ref rl,.ref rd,Al ch,.ref d,Al (Ah f),.ref row]) (λk z_ l5=>l5 row=some (.lst ((CG md ch ((Rd f).take k)).map Al))∧∀b o,b≠row→l4 b=some o→l5 b=some o) hr2 (e4 _ _ (R.ex _ _ (hrr f hf4))) () ⟨r4,λz_ z_ z_ h=>h⟩ rfl (λk z l5 h=>h.2 _ _ (Ag (R.ex _ _ (hrr f hf4)) hrow0) (e4 _ _ (R.ex _ _ (hrr f hf4)))) ?t3 ?d3
   case d3=>
    intro _ l5 ⟨h1,h2⟩;rw[List.length_map,List.take_length] at h1;have e5:∀b o,b≠row→l b=some o→l5 b=some o:=λb o n h=>h2 b o n (e4 b o h);refine HA (e5 _ _ nd R.hd) ?_ (by
     have:=R.len;have:=fl i;have:(rs.take i).flatten.length+j≤1000:=by
      have h0:=congrArg List.length e0;simp only[List.length_append] at h0;exact aN (za (zv 0) (zv 1)) (zn 1000) [(0,1,zv 2,zn 1000),(0,1,za (zv 1) (zn 1),zv 3),(2,1,zv 2,za (zv 0) (za (zv 3) (zv 4)))] rfl (BJ _ _ _ _ _) Ae hz hj h0
     exact YD (by assumption) this)
    exact fin2 _ _ ⟨_,by
     have e6:CS Rd ch ((rs.take i).flatten++g.take (j+1))=upd md f (some (CG md ch (Rd f))):=by
      rw[List.take_add_one,hf,← List.append_assoc,Option.toList,GO,hmd];rfl
     dsimp only;rw[e6];exact(R.next (row:=row) hf4 hd hrow0 e5 h1 hsz),rfl⟩
   case t3=>
    intro c3 lk3 hr3 k v _ l5 hk3 hv ⟨h1,h2⟩ Y3 M3 _ _ _ fin3;rw[List.length_map] at hk3;replace hv:=(List.getElem?_map).symm.trans hv;refine An (Option.map_eq_some_iff.mp hv) λt ht ho2=>?_;subst ho2;refine Cg (hrow t (List.mem_of_getElem? ht)) λt1 t2 t3=>?_;have hz5:(CG md ch ((Rd f).take k)).length≤100000:=Nat.le_trans Ih hsz;have end3:∀{us:List Str} {L:Lg},FU md ch t=us→(∀b o,b≠row→l4 b=some o→L b=some o)→put row (.lst ((CG md ch ((Rd f).take k)).map Al++us.map Al)) L row=some (.lst ((CG md ch ((Rd f).take (k+1))).map Al))∧∀b o,b≠row→l4 b=some o→put row (.lst ((CG md ch ((Rd f).take k)).map Al++us.map Al)) L b=some o:=λ{us L} e h=>⟨by rw[Ac,NP ht,e,List.map_append],λb o n k=>Ab (h b o n k) n⟩
    have tz:t.length≤1000000:=Nat.le_trans t2 (by decide);refine CD (I7) (KX t1) ?_ tz;refine BB.mk (λa1=>?_) λa1=>?_
    ·refine A3 (t3 a1) λg2 xs hg2 ho3 hxs=>?_;subst ho3;refine G3 (R.yes g2 hg2 xs hxs) λb1 a b2 b3=>?_;have na:a≠row:=Ag b3 hrow0;refine Aw PySem.F.slot_list_extend PySem.F.type_list_extend h1 ?_;refine CJ (h2 _ _ nd (e4 _ _ R.hd)) b2 ?_;refine Fx h1 (h2 _ _ na (e4 _ _ b3)) na ?_ (BZ hz5) (BZ b1);exact fin3 _ _ ⟨(),end3 (us:=xs) (Lh hg2 a1 hxs) h2,rfl⟩
    ·refine CD (I7) (KX t1) ?_ tz;refine BB.mk (λa2=>?_) λa2=>?_
     ·refine Aw PySem.F.slot_list_extend PySem.F.type_list_extend h1 ?_;refine Dh ?_ tz (by decide);refine Dh ?_ tz (by decide);refine Ay λn hn=>?_;refine Fx (Ad h1 hn) Ac (Ag h1 hn).symm ?_ (BZ hz5) (Fa rfl);exact fin3 _ _ ⟨(),end3 (us:=[t++"!",t++"?"]) (Lf a1 a2) λb o n k=>Ad (h2 b o n k) hn,rfl⟩
     ·refine Aw PySem.F.slot_list_append PySem.F.type_list_append h1 ?_;refine Au h1 ?_ (by rw[List.length_map];exact Nat.le_trans hz5 (by decide));exact fin3 _ _ ⟨(),end3 (us:=[t]) (IC a1 a2) h2,rfl⟩
end
theorem JL(h:Nat.blt a 1000=true:=by exact rfl):a<1000:=Nat.le_of_ble_eq_true h
noncomputable abbrev No(D:Addr)(r p f:Value):List (Str×Value):=[("_node2info",.ref D),("_ready_nodes",r),("_npassedout",p),("_nfinished",f)]
noncomputable abbrev BC(k:Nat):Value:=Al (Ah k)
structure Dg(base l:Lg)(D:Addr)(kvs:List (Str×Value))(G:Gr)(inf su dd:Nat→Addr):Prop where
 ex:Am base l
 hD:l D=some (.dct kvs)
 keys:kvs=G.nodes.map λk=>(Ah k,Value.ref (inf k))
 lt:∀k∈G.nodes,k<4
 nodup:G.nodes.Nodup
 hi:∀k∈G.nodes,l (inf k)=some (JG 265 (dd k) [BC k,zV (G.np k),.ref (su k)])
 hd:∀k∈G.nodes,l (dd k)=some (.att [])
 hs:∀k∈G.nodes,l (su k)=some (.lst ((G.succ k).map BC))
 ii:∀i∈G.nodes,∀j∈G.nodes,i≠j→inf i≠inf j∧su i≠su j
 fD:base D=none
 fi:∀k∈G.nodes,base (inf k)=none∧base (su k)=none
theorem Aj{l:Lg}{a b:Addr}{o o':AO}(h:l a=some o)(h':l b=some o')(n:o≠o'):a≠b:=λe=>n (Option.some.inj (AV h (Aa e (h'.trans rfl))))
theorem Kf{q:List (Str×Value)}{C d:Addr}{vs:List Value}:AO.dct q≠JG C d vs:=λe=>by contradiction
theorem E9{q:List (Str×Value)}{vs:List Value}:AO.dct q ≠ .lst vs:=λe=>by contradiction
section
theorem Dg.mono(R:Dg base l D kvs G inf su dd)(e:Am l L):Dg base L D kvs G inf su dd:=
 ⟨R.ex.trans e,e _ _ R.hD,R.keys,R.lt,R.nodup,λk hk=>e _ _ (R.hi k hk),λk hk=>e _ _ (R.hd k hk),λk hk=>e _ _ (R.hs k hk),R.ii,R.fD,R.fi⟩
theorem Dg.push{t:Addr}{o:AO}(R:Dg base l D kvs G inf su dd)(h:l t=none):Dg (put t o base) (put t o l) D kvs G inf su dd:=
 ⟨CI R.ex,Ad R.hD h,R.keys,R.lt,R.nodup,λk hk=>Ad (R.hi k hk) h,λk hk=>Ad (R.hd k hk) h,λk hk=>Ad (R.hs k hk) h,R.ii,A0 R.fD (Ag R.hD h),λk hk=>⟨A0 (R.fi k hk).1 (Ag (R.hi k hk) h),A0 (R.fi k hk).2 (Ag (R.hs k hk) h)⟩⟩
theorem Dg.less{base':Lg}(R:Dg base l D kvs G inf su dd)(e:Am base' base):Dg base' l D kvs G inf su dd:=
 ⟨e.trans R.ex,R.hD,R.keys,R.lt,R.nodup,R.hi,R.hd,R.hs,R.ii,Ak e R.fD,λk hk=>⟨Ak e (R.fi k hk).1,Ak e (R.fi k hk).2⟩⟩
theorem Dg.at(R:Dg base l D kvs G inf su dd)(hk:k<4):valueAt kvs (Ah k)=if k∈G.nodes then some (.ref (inf k)) else none:=by
 refine Aa R.keys ?_;exact Rw R.lt hk
theorem Dg.klen(R:Dg base l D kvs G inf su dd):kvs.length≤4:=by
 refine Aa R.keys (Aa (List.length_map ..) ?_);exact CZ 4 _ R.nodup R.lt
theorem Dg.ne_is(R:Dg base l D kvs G inf su dd){i j:Nat}(hi:i∈G.nodes)(hj:j∈G.nodes):inf i≠su j:=Aj (R.hi i hi) (R.hs j hj) λe=>by contradiction
theorem Dg.ne_di(R:Dg base l D kvs G inf su dd){i j:Nat}(hi:i∈G.nodes)(hj:j∈G.nodes):dd i≠inf j∧dd i≠su j:=⟨Aj (R.hd i hi) (R.hi j hj) (λe=>by contradiction),Aj (R.hd i hi) (R.hs j hj) (λe=>by contradiction)⟩
theorem Dg.new{i d s:Addr}(R:Dg base l D kvs G inf su dd)(hk:k<4)(hn:k∉G.nodes)(e:Am l L)(hi:L i=some (JG 265 d [BC k,zV 0,.ref s]))(hd:L d=some (.att []))(hs:L s=some (.lst []))(li:l i=none)(ls:l s=none) :
  Dg base (put D (.dct (stored kvs (Ah k) (.ref i))) L) D (stored kvs (Ah k) (.ref i)) (G.touch k) (upd inf k i) (upd su k s) (upd dd k d):=by
 have hv:valueAt kvs (Ah k)=none:=(R.at hk).trans ((if_neg hn).trans rfl);have eG:G.touch k=⟨G.nodes++[k],upd G.np k 0,upd G.succ k []⟩:=if_neg hn;have hmem:∀{P:Nat→Prop},(∀x∈G.nodes,x≠k→P x)→P k→∀x∈G.nodes++[k],P x:=λh1 h2 x hx=>by
  rcases List.mem_append.mp hx with hx | hx
  ·exact h1 x hx (λe=>hn (e▸hx))
  ·refine Aa (List.mem_singleton.mp hx) ?_;exact h2
 have nD:∀{b:Addr} {o:AO},L b=some o→(∀q,o ≠ .dct q)→put D (.dct (stored kvs (Ah k) (.ref i))) L b=some o:=λh q=>Ab h (Aj h (e _ _ R.hD) (q _));refine Aa eG ?_;refine⟨λb o h=>Ab (e _ _ (R.ex b o h)) (Ag h R.fD),Ac,?_,hmem (λx hx z_=>R.lt x hx) hk,?_,?_,?_,?_,?_,R.fD,?_⟩
 ·refine(stored_absent hv ..).trans (Aa R.keys (Aa List.map_append (Aa List.map_singleton (Aa Ao ?_))));congr 1;exact List.map_congr_left λx hx=>by exact Aa (Ai λe:x=k=>hn (e▸hx)) rfl
 ·rw[List.nodup_append];exact⟨R.nodup,by simp,λa ha b hb e=>hn (by refine AV (List.mem_singleton.mp hb) (AV e ?_);exact ha)⟩
 ·refine hmem (λx hx n=>?_) ?_
  ·simp only[Ai n];exact nD (e _ _ (R.hi x hx)) λz_ e=>by contradiction
  ·simp only[Ao];exact nD hi λz_ e=>by contradiction
 ·refine hmem (λx hx n=>?_) ?_
  ·simp only[Ai n];exact nD (e _ _ (R.hd x hx)) λz_ e=>by contradiction
  ·simp only[Ao];exact nD hd λz_ e=>by contradiction
 ·refine hmem (λx hx n=>?_) ?_
  ·simp only[Ai n];exact nD (e _ _ (R.hs x hx)) λz_ e=>by contradiction
  ·simp only[Ao];exact nD hs λz_ e=>by contradiction
 ·refine hmem (λx hx n=>hmem (λy hy n2 h=>?_) λz_=>?_) (hmem (λy hy n2 z_=>?_) λh=>absurd rfl h)
  ·refine Aa (Ai n) (Aa (Ai n2) (Aa (Ai n) (Aa (Ai n2) ?_)));exact R.ii x hx y hy h
  ·refine Aa (Ai n) (Aa (Ai n) (Aa Ao (Aa Ao ?_)));exact⟨Ag (R.hi x hx) li,Ag (R.hs x hx) ls⟩
  ·refine Aa (Ai n2) (Aa (Ai n2) (Aa Ao (Aa Ao ?_)));exact⟨(Ag (R.hi y hy) li).symm,(Ag (R.hs y hy) ls).symm⟩
 ·refine hmem (λx hx n=>?_) ?_
  ·refine Aa (Ai n) (Aa (Ai n) ?_);exact R.fi x hx
  ·refine Aa Ao (Aa Ao ?_);exact⟨Ak R.ex li,Ak R.ex ls⟩
theorem Dg.setNp{v:Int}(R:Dg base l D kvs G inf su dd)(hk:k∈G.nodes):Dg base (put (inf k) (JG 265 (dd k) [BC k,zV v,.ref (su k)]) l) D kvs (G.setNp k v) inf su dd:=by
 refine⟨λb o h=>Ab (R.ex b o h) (Ag h (R.fi k hk).1),Ab R.hD (Aj R.hD (R.hi k hk) Kf),R.keys,R.lt,R.nodup,λj hj=>?_,λj hj=>Ab (R.hd j hj) (R.ne_di hj hk).1,λj hj=>Ab (R.hs j hj) (R.ne_is hk hj).symm,R.ii,R.fD,R.fi⟩;refine(?_:_=some (JG 265 (dd j) [BC j,zV (upd G.np k v j),.ref (su j)]));by_cases e:j=k
 ·subst e;refine Aa Ao ?_;exact Ac
 ·refine Aa (Ai e) ?_;exact Ab (R.hi j hj) (R.ii j hj k hk e).1
theorem Dg.app(R:Dg base l D kvs G inf su dd)(hk:k∈G.nodes):Dg base (put (su k) (.lst ((G.succ k).map BC++[BC f])) l) D kvs (G.app k f) inf su dd:=by
 refine⟨λb o h=>Ab (R.ex b o h) (Ag h (R.fi k hk).2),Ab R.hD (Aj R.hD (R.hs k hk) E9),R.keys,R.lt,R.nodup,λj hj=>Ab (R.hi j hj) (R.ne_is hj hk),λj hj=>Ab (R.hd j hj) (R.ne_di hj hk).2,λj hj=>?_,R.ii,R.fD,R.fi⟩;refine(?_:_=some (AO.lst ((upd G.succ k (G.succ k++[f]) j).map BC)));by_cases e:j=k
 ·subst e;refine Aa Ao (Aa List.map_append ?_);exact Ac
 ·refine Aa (Ai e) ?_;exact Ab (R.hs j hj) (R.ii j hj k hk e).2
end
section
variable{K:Value→Lg→Prop}
theorem F0(n:Nat){o e:Expr}{a:Str}{op:Operator}{p pos:Pos}(h:(Ci n c ps).e o led λu l1=>Fl a c ps u l1 λold l2=>(Ci n c ps).e e l2 λv l3=>RB op c ps old v l3 λr l4=>Qi a c ps u r l4 λl5=>NK N ps l5):AE c X ps (exec (.AugAssign (.Attribute o a p) op e pos) c.env) led N:=λs hs Q' q=>
 wpAny_AugAssign_AttributeAny (((A6 n).e _ _ _ h).wp hs λu s1 l1 h1 k1=>(k1 u rfl).wp h1 λold s2 l2 h2 k2=>((A6 n).e _ _ _ k2).wp h2 λv s3 l3 h3 k3=>(Lm k3 old v rfl rfl).wp h3 λr s4 l4 h4 k4=>(k4 u r rfl rfl).wp h4 λz_ s5 l5 h5 k5=>q .next _ ⟨_,_,h5,k5⟩)
theorem QU(room:AU c 20 200){x d:Addr}{v:Value}(hx:led x=some (.ins 265 d))(hd0:led d=some (.att []))(hk:∀s l,(∀b o,b≠x→led b=some o→l b=some o)→led s=none→l s=some (.lst [])→l x=some (JG 265 d [v,zV 0,.ref s])→K .none l):Ed c ps (.ref 261) [.ref x,v] led K:=by
 refine' Fy ["self","node"] ?ho ?hcd ?hb ?hl ?c1 ?c2 ?c3 ?c4 ?room ?_
 case ho=>k_is
 case hcd=>k_is
 case hb=>exact Fh λs X z_ z_=>BindsTo.of_eq rfl
 case hl=>decide
 case c1=>rfl
 case c2=>rfl
 case c3=>rfl
 case c4=>rfl
 case room=>exact Nat.lt_of_le_of_lt (Nat.le_add_right _ _) room.1
 intro c hd hu hr;refine A7 hr 30 30 ?_;have nd:d≠x:=Aj hd0 hx λe=>by contradiction
 refine QY 266 hx hd0 ?_ (rfl);refine ER 267 1 Ac (Ab hd0 nd) (Fa rfl) ?_ (rfl);refine Ay λs hs=>?_;have hx2:put x (JG 265 d (SD (zV 0) 1 [v])) (put x (JG 265 d [v]) led) x=some (JG 265 d [v,zV 0]):=Ac;refine ER 268 2 (Ad hx2 hs) (Ad (Ab (Ab hd0 nd) nd) hs) (Fa rfl) ?_ (rfl);have sx:s≠x:=λe=>by rw[e,hx2] at hs;contradiction
 have ls:led s=none:=by
  unfold put at hs;rw[if_neg sx,if_neg sx] at hs;exact hs
 refine hk s _ (λb o n h=>Ab (Ad (Ab (Ab h n) n) hs) n) ls (Ab Ac sx) Ac
theorem QV(room:AU c 30 300)(hk:∀i d s l,Am led l→led i=none→led s=none→l i=some (JG 265 d [v,zV 0,.ref s])→l d=some (.att [])→l s=some (.lst [])→K (.ref i) l):A4 c ps (.ref 265) [v] led K:=by
 refine HD (fI:=261) (λx d hd hx=>?_) (rfl) (rfl) (rfl);have nd:d≠x:=Ag Ac hx;have lx:led x=none:=Ak (Am.put hd) hx;refine QU (c:=c.dn) ⟨?_,?_⟩ Ac (Ab Ac nd) λs l e1 e2 e3 e4=>⟨rfl,?_⟩
 ·refine(?_:c.dp+1+20<_);exact aN (za (za (za (zv 0) (zn 1)) (zn 20)) (zn 1)) (zv 1) [(0,1,za (za (zv 0) (zn 30)) (zn 1),zv 1)] rfl (Az _ _) Ae room.1
 ·refine(?_:c.un+1+200<_);exact aN (za (za (za (zv 0) (zn 1)) (zn 200)) (zn 1)) (zv 1) [(0,1,za (za (zv 0) (zn 300)) (zn 1),zv 1)] rfl (Az _ _) Ae room.2
 exact hk x d s l (λb o h=>e1 b o (Ag h lx) (Ad (Ad h hd) hx)) lx (Ak ((Am.put hd).trans (Am.put hx)) e2) e4 (e1 _ _ nd (Ab Ac nd)) e3
end
section
variable{K:Value→Lg→Prop}
theorem O3(room:AU c 40 400)(hx:base x=some (.ins 362 dx))(hdx:base dx=some (.att (No D r pv fv)))(R:Dg base led D kvs G inf su dd)(lo:(D==sysModules)=false)(h4:k<4)(hk:∀l kvs inf su dd,Dg base l D kvs (G.touch k) inf su dd→K (.ref (inf k)) l):A4 c ps (.ref 305) [.ref x,BC k] led K:=by
 refine Be ["self","node"] (by k_is) (Fh λs X z_ z_=>BindsTo.of_eq rfl) room λc hd hu hr rm=>?_;refine A7 hr 30 30 ?_;refine GU hr 30 30 ?_;refine AA (R.ex _ _ hx) (R.ex _ _ hdx) rfl ?_ (rfl);refine Dx PySem.F.slot_dict_get PySem.F.type_dict_get R.hD ?_;by_cases hn:k∈G.nodes
 ·have eG:G.touch k=G:=if_pos hn;rw[eG] at hk;refine Gl (v:=.ref (inf k)) R.hD lo (by refine Aa (R.at h4) (Aa (if_pos hn) ?_);rfl) (.f rfl ?_);exact hk _ _ _ _ _ R
 ·refine Gl (v:=.none) R.hD lo (by refine Aa (R.at h4) (Aa (if_neg hn) ?_);rfl) (.t rfl ?_);refine Cc 30 hr ?_;refine QV (rm.less (by decide) (by decide)) λi d s l e1 e2 e3 e4 e5 e6=>?_;refine AA (e1 _ _ (R.ex _ _ hx)) (e1 _ _ (R.ex _ _ hdx)) rfl ?_ (rfl);refine HA (e1 _ _ R.hD) ?_ (Nat.le_trans R.klen (by decide));have:=hk _ _ _ _ _ (R.new h4 hn e1 e4 e5 e6 e2 e3);rw[Ao] at this;exact this
theorem Zv(room:AU c 60 600)(hx:base x=some (.ins 362 dx))(hdx:base dx=some (.att (No D .none pv fv)))(R:Dg base led D kvs G inf su dd)(lo:(D==sysModules)=false)(h4:f<4)(hp:∀p∈pl,p<4)(hz:pl.length≤1000)(hB:∀k∈G.nodes,(G.succ k).length≤1000)(hk:∀l kvs inf su dd,Dg base l D kvs (Su G f pl) inf su dd→K .none l):Ed c ps (.ref 312) ([.ref x,BC f]++pl.map BC) led K:=by
 refine' H6 ["self","node"] "predecessors" ?ho ?hcd ?hv ?hns ?hz ?hp ?hl ?c1 ?c2 ?c3 ?c4 ?room ?_
 case ho=>k_is
 case hcd=>k_is
 case hv=>rfl
 case hns=>rfl
 case hz=>refine Aa (List.length_map ..) ?_;exact Nat.le_trans hz (by decide)
 case hp=>exact Wg λv0 v1 rs hrs=>Hq (vs:=[v0,v1]) hrs (λhnt=>by unfold bindArgs;simp only[fnOf,Option.isNone_some,Bool.and_false,Bool.false_eq_true,if_false,↓reduceIte,hnt];exact rfl)
 case hl=>decide
 case c1=>rfl
 case c2=>rfl
 case c3=>rfl
 case c4=>rfl
 case room=>exact Nat.lt_of_le_of_lt (Nat.le_add_right _ _) room.1
 intro c hd hu hr;have rm:AU c 59 590:=.dn hd hu room;intro T hT;refine A7 hr 60 30 ?_;have R1:=R.push (o:=.tup (pl.map BC)) hT;have e0:Am base (put T (.tup (pl.map BC)) base):=Am.put (Ak R.ex hT);have hx1:=e0 _ _ hx;have hdx1:=e0 _ _ hdx;have hT1:put T (AO.tup (pl.map BC)) base T=some (.tup (pl.map BC)):=Ac;generalize put T (.tup (pl.map BC)) base=base1 at R1 e0 hx1 hdx1 hT1;generalize put T (.tup (pl.map BC)) led=led1 at R1;refine AA (R1.ex _ _ hx1) (R1.ex _ _ hdx1) rfl (.f rfl ?_) (rfl);refine BF (f:=305) (R1.ex _ _ hx1) (R1.ex _ _ hdx1) rfl ?_ (rfl);refine O3 (rm.less (by decide) (by decide)) hx1 hdx1 R1 lo h4 λl2 kvs2 inf2 su2 dd2 R2=>?_;have hm:f∈(G.touch f).nodes:=by
  unfold Gr.touch;split
  ·assumption
  ·exact List.mem_append_right _ (.head _)
 refine F0 30 ?_;refine Dk 267 1 (R2.hi f hm) (R2.hd f hm) rfl ?_ (rfl);refine Le (R2.ex _ _ hT1) ?_ (by refine Aa (List.length_map ..) ?_;exact Nat.le_trans hz (by decide));refine Aa (List.length_map ..) ?_;refine ER 267 1 (R2.hi f hm) (R2.hd f hm) (Fa rfl) ?_ (rfl);have R3:=R2.setNp (v:=(G.touch f).np f+pl.length) hm;refine Bn 30 ?_;have hB1:∀k∈((G.touch f).setNp f ((G.touch f).np f+pl.length)).nodes,(((G.touch f).setNp f ((G.touch f).np f+pl.length)).succ k).length≤1000:=by
  refine(?_:∀k∈(G.touch f).nodes,((G.touch f).succ k).length≤1000);unfold Gr.touch;split
  ·exact hB
  ·intro k hk;refine(?_:(upd G.succ f [] k).length≤1000);by_cases e:k=f
   ·refine Aa e (Aa Ao ?_);exact Nat.zero_le _
   ·refine Aa (Ai e) ?_;exact hB k ((List.mem_append.mp hk).resolve_right λh=>e (List.mem_singleton.mp h))
 generalize hG0:(G.touch f).setNp f ((G.touch f).np f+pl.length)=G0 at R3 hB1;refine I9 (σ:=Unit) 60 30 ["self","node"] (λz_=>[.ref x,BC f]) (λi z_ l=>∃kvs inf su dd,Dg base1 l D kvs ((pl.take i).foldl (B2 f) G0) inf su dd∧∀k∈((pl.take i).foldl (B2 f) G0).nodes,(((pl.take i).foldl (B2 f) G0).succ k).length≤1000+i) hr (R3.ex _ _ hT1) () ⟨_,_,_,_,R3,hB1⟩ rfl (λi z l h=>by refine UD h λz_ z_ z_ z_ h z_=>?_;exact h.ex _ _ hT1) ?turn ?done
 case done=>
  intro _ l ⟨kv,i1,s1,d1,R4,_⟩;rw[List.length_map,List.take_length] at R4;exact hk l kv i1 s1 d1 ((show(pl.foldl (B2 f) G0)=Su G f pl by refine AV hG0 ?_;rfl)▸R4.less e0)
 case turn=>
  intro c1 lk hr1 i v _ l hi hv ⟨kv,i1,s1,d1,R4,hB2⟩ Y M _ _ _ fin;rw[List.length_map] at hi;replace hv:=(List.getElem?_map).symm.trans hv;refine An (Option.map_eq_some_iff.mp hv) λp hpi ho2=>?_;subst ho2;refine BF (f:=305) (R4.ex _ _ hx1) (R4.ex _ _ hdx1) rfl ?_ (rfl);refine O3 ((lk.room rm).less (by decide) (by decide)) hx1 hdx1 R4 lo (hp p (List.mem_of_getElem? hpi)) λl5 kv5 i5 s5 d5 R5=>?_;have st:(pl.take (i+1)).foldl (B2 f) G0=B2 f ((pl.take i).foldl (B2 f) G0) p:=by refine Aa List.take_add_one (Aa hpi (List.foldl_append.trans ?_));rfl
  generalize(pl.take i).foldl (B2 f) G0=G1 at R5 st hB2;have hm1:p∈(G1.touch p).nodes:=by
   unfold Gr.touch;split
   ·assumption
   ·exact List.mem_append_right _ (.head _)
  have hs1:∀k∈(G1.touch p).nodes,((G1.touch p).succ k).length≤1000+i:=by
   unfold Gr.touch;split
   ·exact hB2
   ·intro k hk;refine(?_:(upd G1.succ p [] k).length≤_);by_cases e:k=p
    ·refine Aa e (Aa Ao ?_);exact Nat.zero_le _
    ·refine Aa (Ai e) ?_;exact hB2 k ((List.mem_append.mp hk).resolve_right λh=>e (List.mem_singleton.mp h))
  refine Dk 268 2 (R5.hi p hm1) (R5.hd p hm1) rfl ?_ (rfl);refine Aw PySem.F.slot_list_append PySem.F.type_list_append (R5.hs p hm1) ?_;have h9:=hs1 p hm1;refine Au (R5.hs p hm1) ?_ (by refine Aa (List.length_map ..) ?_;exact aN (zv 0) (zn 1000000) [(0,1,zv 1,zn 1000),(0,1,za (zv 2) (zn 1),zv 1),(0,1,zv 0,za (zn 1000) (zv 2))] rfl (AH _ _ _) Ae hz hi h9);exact fin _ _ ⟨(),⟨_,_,_,_,by refine Aa st ?_;exact R5.app (f:=f) hm1,by
   refine Aa st ?_;intro k hk;refine(?_:(upd (G1.touch p).succ p ((G1.touch p).succ p++[f]) k).length≤_);by_cases e:k=p
   ·refine Aa e (Aa Ao (Aa List.length_append ?_));exact Nat.succ_le_succ h9
   ·refine Aa (Ai e) ?_;exact Nat.le_succ_of_le (hs1 k hk)⟩,rfl⟩
end
structure DC(base l:Lg)(x dx D Rd:Addr)(kvs:List (Str×Value))(G:Gr)(inf su dd:Nat→Addr)(pa fi:Int)(rd:List Nat):Prop where
 g:Dg base l D kvs G inf su dd
 lo:(D==sysModules)=false
 hx:l x=some (.ins 362 dx)
 hdx:l dx=some (.att (No D (.ref Rd) (zV pa) (zV fi)))
 hR:l Rd=some (.lst (rd.map BC))
 fx:base dx=none
 fR:base Rd=none
 sR:∀k∈G.nodes,su k≠Rd
section
variable{x dx D Rd:Addr}
theorem DC.mono(S:DC base l x dx D Rd kvs G inf su dd pa fi rd)(e:Am l L):DC base L x dx D Rd kvs G inf su dd pa fi rd:=⟨S.g.mono e,S.lo,e _ _ S.hx,e _ _ S.hdx,e _ _ S.hR,S.fx,S.fR,S.sR⟩
theorem DC.push(S:DC base l x dx D Rd kvs G inf su dd pa fi rd)(h:l t=none):DC (put t o base) (put t o l) x dx D Rd kvs G inf su dd pa fi rd:=
 ⟨S.g.push h,S.lo,Ad S.hx h,Ad S.hdx h,Ad S.hR h,A0 S.fx (Ag S.hdx h),A0 S.fR (Ag S.hR h),S.sR⟩
theorem DC.less(S:DC base l x dx D Rd kvs G inf su dd pa fi rd)(e:Am base' base):DC base' l x dx D Rd kvs G inf su dd pa fi rd:=⟨S.g.less e,S.lo,S.hx,S.hdx,S.hR,Ak e S.fx,Ak e S.fR,S.sR⟩
theorem Dg.out(R:Dg base l D kvs G inf su dd)(fa:base a=none)(nD:D≠a)(ni:∀k∈G.nodes,inf k≠a∧dd k≠a∧su k≠a):Dg base (put a o l) D kvs G inf su dd:=
 ⟨λb p h=>Ab (R.ex b p h) (Ag h fa),Ab R.hD nD,R.keys,R.lt,R.nodup,λk hk=>Ab (R.hi k hk) (ni k hk).1,λk hk=>Ab (R.hd k hk) (ni k hk).2.1,λk hk=>Ab (R.hs k hk) (ni k hk).2.2,R.ii,R.fD,R.fi⟩
theorem DC.np(S:DC base l x dx D Rd kvs G inf su dd pa fi rd)(hk:k∈G.nodes):DC base (put (inf k) (JG 265 (dd k) [BC k,zV v,.ref (su k)]) l) x dx D Rd kvs (G.setNp k v) inf su dd pa fi rd:=
 ⟨S.g.setNp hk,S.lo,Ab S.hx (Aj S.hx (S.g.hi k hk) λe=>by contradiction),Ab S.hdx (Aj S.hdx (S.g.hi k hk) λe=>by contradiction),Ab S.hR (Aj S.hR (S.g.hi k hk) λe=>by contradiction),S.fx,S.fR,S.sR⟩
theorem DC.rdy(S:DC base l x dx D Rd kvs G inf su dd pa fi rd):DC base (put Rd (.lst (rd'.map BC)) l) x dx D Rd kvs G inf su dd pa fi rd':=
 ⟨S.g.out S.fR (Aj S.g.hD S.hR E9) λk hk=>⟨Aj (S.g.hi k hk) S.hR λe=>(by contradiction),Aj (S.g.hd k hk) S.hR λe=>(by contradiction),S.sR k hk⟩,S.lo,Ab S.hx (Aj S.hx S.hR λe=>by contradiction),Ab S.hdx (Aj S.hdx S.hR λe=>by contradiction),Ac,S.fx,S.fR,S.sR⟩
theorem DC.cnt(S:DC base l x dx D Rd kvs G inf su dd pa fi rd):DC base (put dx (.att (No D (.ref Rd) (zV pa') (zV fi'))) l) x dx D Rd kvs G inf su dd pa' fi' rd:=
 ⟨S.g.out S.fx (Aj S.g.hD S.hdx λe=>by cases e) λk hk=>⟨Aj (S.g.hi k hk) S.hdx λe=>(by cases e),Aj (S.g.hd k hk) S.hdx λe=>(by cases e),Aj (S.g.hs k hk) S.hdx λe=>(by cases e)⟩,S.lo,Ab S.hx (Aj S.hx S.hdx λe=>by cases e),Ac,Ab S.hR (Aj S.hR S.hdx λe=>by cases e),S.fx,S.fR,S.sR⟩
end
section
variable{K:Value→Lg→Prop}{x dx D Rd:Addr}
theorem Qf(room:AU c 20 200)(S:DC base led x dx D Rd kvs G inf su dd pa fi rd)(hz:rd.length≤1000)(hk:K (.bool (decide (fi<pa) || !rd.isEmpty)) led):A4 c ps (.ref 331) [.ref x] led K:=by
 refine Be ["self"] (by k_is) (CL λs X z_=>BindsTo.of_eq rfl) room λc hd hu hr rm=>?_;refine A7 hr 30 30 ?_;refine AA S.hx S.hdx rfl (.f rfl ?_) (rfl);refine LC 30 ?_;refine AA S.hx S.hdx rfl ?_ (rfl);refine AA S.hx S.hdx rfl ?_ (rfl);refine BB.mk (λh=>?_) λh=>?_
 ·have h:decide (fi<pa)=true:=h;rw[h] at hk;refine(?_:K (.bool (decide (fi<pa))) led);refine Aa h ?_;exact hk
 ·have h:decide (fi<pa)=false:=h;rw[h] at hk;refine AA S.hx S.hdx rfl ?_ (rfl);exact PQ S.hR (by cases rd<;>rfl) hk (BZ (Nat.le_trans hz (by decide)))
theorem QH(room:AU c 20 200)(S:DC base led x dx D Rd kvs G inf su dd pa fi rd)(hz:rd.length≤1000)(hne:rd≠[])(hsub:∀k∈rd,k∈G.nodes)(hk:∀T l,led T=none→DC (put T (.tup (rd.map BC)) base) l x dx D Rd kvs (Co G rd) inf su dd (pa+rd.length) fi []→l T=some (.tup (rd.map BC))→K (.ref T) l):A4 c ps (.ref 324) [.ref x] led K:=by
 refine Be ["self"] (by k_is) (CL λs X z_=>BindsTo.of_eq rfl) room λc hd hu hr rm=>?_;refine A7 hr 30 30 ?_;refine AA S.hx S.hdx rfl (.f rfl ?_) (rfl);refine AA S.hx S.hdx rfl ?_ (rfl);refine Uc S.hR (λT hT=>?_) (BZ (Nat.le_trans hz (by decide)));have S1:=S.push (o:=.tup (rd.map BC)) hT;have hT1:put T (.tup (rd.map BC)) base T=some (.tup (rd.map BC)):=Ac;have hk1:=hk T;generalize put T (.tup (rd.map BC)) base=base1 at S1 hT1 hk1;generalize put T (.tup (rd.map BC)) led=led1 at S1;refine AA S1.hx S1.hdx rfl ?_ (rfl);refine Bn 30 ?_;refine I9 (σ:=Unit) 60 30 ["self","result","n2i"] (λz_=>[.ref x,.ref T,.ref D]) (λi z_ l=>DC base1 l x dx D Rd kvs (Co G (rd.take i)) inf su dd pa fi rd) hr (S1.g.ex _ _ hT1) () S1 rfl (λi z l h=>h.g.ex _ _ hT1) ?turn ?done
 case done=>
  intro _ l S2;rw[List.length_map,List.take_length] at S2;refine AA S2.hx S2.hdx rfl ?_ (rfl);refine Aw PySem.F.slot_list_clear PySem.F.type_list_clear S2.hR ?_;refine M8 S2.hR (λe=>hne (List.map_eq_nil_iff.mp e)) ?_ (BZ (Nat.le_trans hz (by decide)));have S3:=S2.rdy (rd':=[]);refine F0 30 ?_;refine AA S3.hx S3.hdx rfl ?_ (rfl);refine Le (S3.g.ex _ _ hT1) ?_ (BZ (Nat.le_trans hz (by decide)));refine Aa (List.length_map ..) ?_;refine AT S3.hx S3.hdx ?_ (rfl) JL;exact hk1 _ hT S3.cnt (S3.cnt.g.ex _ _ hT1)
 case turn=>
  intro c1 lk hr1 i v _ l hi hv S2 Y M _ _ _ fin;rw[List.length_map] at hi;rw[List.getElem?_map] at hv;refine An (Option.map_eq_some_iff.mp hv) λk hki ho2=>?_;subst ho2;have hn:=hsub k (List.mem_of_getElem? hki);have hn2:k∈(Co G (rd.take i)).nodes:=by refine Aa DH ?_;exact hn
  refine CJ S2.g.hD (Aa (S2.g.at (S2.g.lt k hn2)) (Aa (if_pos hn2) rfl)) ?_;refine ER 267 1 (S2.g.hi k hn2) (S2.g.hd k hn2) (Fa rfl) ?_ (rfl);exact fin _ _ ⟨(),by dsimp only;refine Aa (Ol hki) ?_;exact S2.np hn2,rfl⟩
theorem V0(room:AU c 60 600)(S:DC base led x dx D Rd kvs G inf su dd pa fi rd)(hz:rd.length≤1000)(hl:pl.length≤100)(hok:∀i k,pl[i]?=some k→k∈G.nodes∧(BA (G,rd) (pl.take i)).1.np k = -1)(hsu:∀k∈G.nodes,∀s∈G.succ k,s∈G.nodes)(hsl:∀k∈G.nodes,(G.succ k).length≤1000)(hk:∀l,DC base l x dx D Rd kvs (BA (G,rd) pl).1 inf su dd pa (fi+pl.length) (BA (G,rd) pl).2→K .none l):Ed c ps (.ref 345) ([.ref x]++pl.map BC) led K:=by
 refine' H6 ["self"] "nodes" ?ho ?hcd ?hv ?hns ?hz ?hp ?hl ?c1 ?c2 ?c3 ?c4 ?room ?_
 case ho=>k_is
 case hcd=>k_is
 case hv=>rfl
 case hns=>rfl
 case hz=>refine Aa (List.length_map ..) ?_;exact Nat.le_trans hl (by decide)
 case hp=>exact SH λv0 rs hrs=>Hq (vs:=[v0]) hrs (λhnt=>by unfold bindArgs;simp only[fnOf,Option.isNone_some,Bool.and_false,Bool.false_eq_true,if_false,↓reduceIte,hnt];exact rfl)
 case hl=>decide
 case c1=>rfl
 case c2=>rfl
 case c3=>rfl
 case c4=>rfl
 case room=>exact Nat.lt_of_le_of_lt (Nat.le_add_right _ _) room.1
 intro c hd hu hr;have rm:AU c 59 590:=.dn hd hu room;intro T hT;refine A7 hr 60 30 ?_;have S1:=S.push (o:=.tup (pl.map BC)) hT;have hT1:put T (.tup (pl.map BC)) base T=some (.tup (pl.map BC)):=Ac;have e0:Am base (put T (.tup (pl.map BC)) base):=Am.put (Ak S.g.ex hT);generalize put T (.tup (pl.map BC)) base=base1 at S1 hT1 e0;generalize put T (.tup (pl.map BC)) led=led1 at S1;refine AA S1.hx S1.hdx rfl (.f rfl ?_) (rfl);refine AA S1.hx S1.hdx rfl ?_ (rfl);refine Bn 30 ?_;refine I9 (σ:=Unit) 60 30 ["self","n2i"] (λz_=>[.ref x,.ref D]) (λi z_ l=>DC base1 l x dx D Rd kvs (BA (G,rd) (pl.take i)).1 inf su dd pa (fi+i) (BA (G,rd) (pl.take i)).2∧(BA (G,rd) (pl.take i)).2.length≤1000+1000*i) hr (S1.g.ex _ _ hT1) () ⟨by
  refine Aa (show fi+((0:Nat):Int)=fi from Int.add_zero _) ?_;exact S1,hz⟩ rfl (λi z l h=>h.1.g.ex _ _ hT1) ?turn ?done
 case done=>
  intro _ l ⟨S2,_⟩;rw[List.length_map,List.take_length] at S2;exact hk l (S2.less e0)
 case turn=>
  intro c1 lk hr1 i v _ l hi hv ⟨S2,z2⟩ Y M _ _ _ fin;rw[List.length_map] at hi;rw[List.getElem?_map] at hv;refine An (Option.map_eq_some_iff.mp hv) λk hki ho2=>?_;subst ho2;refine oA (hok i k hki) λhn hnp=>?_;have st:BA (G,rd) (pl.take (i+1))=Do (BA (G,rd) (pl.take i)) k:=by refine Aa List.take_add_one (Aa hki ?_);unfold BA;refine Aa List.foldl_append ?_;rfl
  refine oA (Dd (st:=(G,rd)) (l:=pl.take i)) λq1 q2=>?_;generalize BA (G,rd) (pl.take i)=ds at S2 z2 hnp st q1 q2;have hn2:k∈ds.1.nodes:=by refine Aa q1 ?_;exact hn
  have hk4:=S2.g.lt k hn2;refine GU hr1 30 30 ?_;refine Dx PySem.F.slot_dict_get PySem.F.type_dict_get S2.g.hD ?_;refine Gl (v:=.ref (inf k)) S2.g.hD S2.lo (by refine Aa (S2.g.at hk4) (Aa (if_pos hn2) ?_);rfl) (.f rfl ?_);refine Dk 267 1 (S2.g.hi k hn2) (S2.g.hd k hn2) rfl ?_ (rfl);refine .f (by refine Aa hnp ?_;rfl) ?_;refine ER 267 1 (S2.g.hi k hn2) (S2.g.hd k hn2) (Fa rfl) ?_ (rfl);have S3:=S2.np (v:=-2) hn2;refine Bn 30 ?_;refine Dk 268 2 (S3.g.hi k hn2) (S3.g.hd k hn2) rfl ?_ (rfl);have hsk:ds.1.succ k=G.succ k:=Aa q2 rfl;have hlk:=hsl k hn;have st2:Do ds k=(G.succ k).foldl B1 (ds.1.setNp k (-2),ds.2):=by unfold Do;exact Aa hsk rfl
  have hs3:((ds.1.setNp k (-2)).succ k).map BC=(G.succ k).map BC:=by refine AV hsk ?_;rfl
  have hnd:(ds.1.setNp k (-2)).nodes=G.nodes:=q1;have hsc:(ds.1.setNp k (-2)).succ=G.succ:=q2;generalize ds.1.setNp k (-2)=G0 at S3 st2 hs3 hnd hsc;have hn3:k∈G0.nodes:=by refine Aa hnd ?_;exact hn
  refine Et (σ:=Unit) (vs:=(G.succ k).map BC) 60 30 ["self","n2i"] (λz_=>[.ref x,.ref D]) (λj z_ l=>DC base1 l x dx D Rd kvs (((G.succ k).take j).foldl B1 (G0,ds.2)).1 inf su dd pa (fi+i) (((G.succ k).take j).foldl B1 (G0,ds.2)).2∧(((G.succ k).take j).foldl B1 (G0,ds.2)).2.length≤ds.2.length+j) hr1 (by refine AV hs3 ?_;exact S3.g.hs k hn3) () ⟨S3,Nat.le_refl _⟩ rfl (λj z l h=>?keep) ?t2 ?d2
  case keep=>
   refine oA (Eg (st:=(G0,ds.2)) (l:=(G.succ k).take j)) λw1 w2=>?_;have:=h.1.g.hs k (by refine Aa w1 ?_;exact hn3);rw[w2] at this;refine AV hs3 ?_;exact this
  case d2=>
   intro _ l3 ⟨S4,z4⟩;rw[List.length_map,List.take_length,← st2,← st] at S4 z4;refine F0 30 ?_;refine AA S4.hx S4.hdx rfl ?_ (rfl);refine AT S4.hx S4.hdx ?_ (rfl) JL;exact fin _ _ ⟨(),⟨by
    refine Aa (show fi+((i+1:Nat):Int)=fi+i+1 by exact Int.le_antisymm (aZ (za (zv 8) (za (zv 0) (zn 1))) (za (za (zv 8) (zv 0)) (zn 1)) [] rfl (Av _) (Av _)) (aZ (za (za (zv 8) (zv 0)) (zn 1)) (za (zv 8) (za (zv 0) (zn 1))) [] rfl (Av _) (Av _))) ?_;exact S4.cnt,by refine Aa (Nat.mul_add ..) ?_;exact aN (zv 0) (za (zn 1000) (za (zm 1000 (zv 1)) (zm 1000 (zn 1)))) [(0,1,zv 2,za (zn 1000) (zm 1000 (zv 1))),(0,1,zv 3,zn 1000),(0,1,zv 0,za (zv 2) (zv 3))] rfl (Bh _ _ _ _) Ae z2 hlk z4⟩,rfl⟩
  case t2=>
   intro c2 lk2 hr2 j v _ l3 hj hv ⟨S4,z4⟩ Y2 M2 _ _ _ fin2;rw[List.length_map] at hj;rw[List.getElem?_map] at hv;refine An (Option.map_eq_some_iff.mp hv) λs hs ho2=>?_;subst ho2;refine oA (Eg (st:=(G0,ds.2)) (l:=(G.succ k).take j)) λw1 w2=>?_;have st3:((G.succ k).take (j+1)).foldl B1 (G0,ds.2)=B1 (((G.succ k).take j).foldl B1 (G0,ds.2)) s:=by refine Aa List.take_add_one (Aa hs (Aa List.foldl_append ?_));rfl
   generalize((G.succ k).take j).foldl B1 (G0,ds.2)=d3 at S4 z4 w1 w2 st3;have hsn:s∈d3.1.nodes:=by refine Aa w1 ?_;refine(?_:s∈G0.nodes);refine Aa hnd ?_;exact hsu k hn s (List.mem_of_getElem? hs)
   refine CJ S4.g.hD (Aa (S4.g.at (S4.g.lt s hsn)) (Aa (if_pos hsn) rfl)) ?_;refine F0 30 ?_;refine Dk 267 1 (S4.g.hi s hsn) (S4.g.hd s hsn) rfl ?_ (rfl);refine ER 267 1 (S4.g.hi s hsn) (S4.g.hd s hsn) (Fa rfl) ?_ (rfl);have S5:=S4.np (v:=d3.1.np s-1) hsn;have e5:(d3.1.setNp s (d3.1.np s-1)).np s=d3.1.np s-1:=Ao;have hsn5:s∈(d3.1.setNp s (d3.1.np s-1)).nodes:=hsn;refine Dk 267 1 (v:=zV (d3.1.np s-1)) (S5.g.hi s hsn5) (S5.g.hd s hsn5) (by refine Aa e5 ?_;rfl) ?_ (rfl);refine BB.mk (λa=>?_) λa=>?_
   ·have a0:d3.1.np s-1=0:=by simpa using a
    refine AA S5.hx S5.hdx rfl ?_ (rfl);refine Aw PySem.F.slot_list_append PySem.F.type_list_append S5.hR ?_;refine Au S5.hR ?_ (by refine Aa (List.length_map ..) ?_;lia);exact fin2 _ _ ⟨(),by
     dsimp only;refine Aa st3 ?_;unfold B1;refine Aa (if_pos a0) ?_;exact⟨by have:=S5.rdy (rd':=d3.2++[s]);rw[List.map_append] at this;exact this,by refine Aa List.length_append ?_;exact Nat.succ_le_succ z4⟩,rfl⟩
   ·have a0:d3.1.np s-1≠0:=by simpa using a
    exact fin2 _ _ ⟨(),by
     dsimp only;refine Aa st3 ?_;unfold B1;refine Aa (if_neg a0) ?_;exact⟨S5,Nat.le_succ_of_le z4⟩,rfl⟩
end
section
set_option backward.match.sparseCases true
structure Tn{cs:Scope}(c:Cf cs)(g:Heap):Prop where
 T:KtsTurn (c.outer.filterMap (·.frame)) c.h₀ g
 B:Below c.A₀ c.base c.outer g
 X:(hd0.heap_1 c.w.params).In g
 P:Top c.p c.loose c.mean c.mg c.mb g
 D:KtsDicts (c.outer.filterMap (·.frame)) g
noncomputable def Cf.tn{cs:Scope}(c:Cf cs)(g:Heap)(t:Tn c g):Cf cs:={ c with h₀:=g,B:=t.B,X:=t.X,T:=t.P }
structure Bs{cs:Scope}(c:Cf cs):Prop where
 X:(hd0.heap_1 c.w.params).In c.base
 P:Top c.p c.loose c.mean c.mg c.mb c.base
structure Tc{cs:Scope}(c:Cf cs):Prop where
 bs:Bs c
 cl:c.cl=[]
 rd:c.rd=none
 pass:∀e,PassesOwnAt (model PW c.w) (c.A.mark (some e)) c.A c.env c.E
 top:c.A=c.A₀.deeper c.env
theorem Tc.wi(t:Tc c):Tc (c.wi I o):=⟨⟨t.bs.X,t.bs.P⟩,t.cl,t.rd,t.pass,t.top⟩
section
variable{c:Cf cs}
theorem FP.tn(I:FP c ps m con led):FP (c.tn g t) ps m con led:=⟨I.vars,I.cells,I.its,I.fm⟩
theorem FP.nt(I:FP (c.tn g t) ps m con led):FP c ps m con led:=⟨I.vars,I.cells,I.its,I.fm⟩
noncomputable def Z9(c:Cf cs)(ps:PS)(led:Lg)(s:Shared):Prop:=∃g t,At (c.tn g t) ps led s
noncomputable def Qn(c:Cf cs)(X:Ex)(N:PS→Lg→Prop)(f:Flow)(s:Shared):Prop:=∃g t,C4 (c.tn g t) X N f s
noncomputable def BM(c:Cf cs)(X:Ex)(ps:PS)(x:Sem Flow)(led:Lg)(N:PS→Lg→Prop):Prop:=
 ∀s,Z9 c ps led s→∀Q':Flow→Shared→Prop,(∀f s',Qn c X N f s'→Q' f s')→wpAny (model PW c.w) c.A x Q' c.E s
theorem BM.of(h:∀g t,AE (c.tn g t) X ps x led N):BM c X ps x led N:=λs ⟨g,t,hs⟩ z_ q=>h g t s hs _ λf s' hf=>q f s' ⟨g,t,hf⟩
theorem GY(rest:List Stmt)(env:Env):∀l:List Stmt,execs (l++rest) env=(execs l env >>= λf=>match f with | .next=>execs rest env | f=>pure f):=by
 intro l
 induction l with
 |nil=>exact rfl
 |cons st l ih=>
  refine(?_:(exec st env >>= λf=>match f with | .next=>execs (l++rest) env | f=>pure f)=((exec st env >>= λf=>match f with | .next=>execs l env | f=>pure f) >>= _));refine Aa (LawfulMonad.bind_assoc ..) ?_;congr 1
  funext f
  cases f with
  |next=>exact ih
  |_=>rfl
theorem BM.app(h:∀g t,AE (c.tn g t) X ps (execs pre c.env) led λps' l=>BM c X ps' (execs rest c.env) l N):BM c X ps (execs (pre++rest) c.env) led N:=λs ⟨g,t,hs⟩ Q' q=>by
 refine Aa (GY ..) ?_;refine wpAny_bind (h g t s hs _ λf s' hf=>?_)
 cases f with
 |next=>
  obtain⟨p,l,h1,h2⟩:=hf;exact h2 s' ⟨g,t,h1⟩ Q' q
 |ret v=>exact wpAny_pure (q _ _ ⟨g,t,hf⟩)
 |brk=>exact wpAny_pure (q _ _ ⟨g,t,hf⟩)
 |cont=>exact wpAny_pure (q _ _ ⟨g,t,hf⟩)
theorem BM.cons{st:Stmt}{rest:List Stmt}(h:BM c X ps (exec st c.env) led λps' l1=>BM c X ps' (execs rest c.env) l1 N):BM c X ps (execs (st::rest) c.env) led N:=λs hs Q' q=>
 wpAny_execs_cons (h s hs _ λf s' hf=>by
  obtain⟨g,t,hf⟩:=hf
  cases f with
  |next=>
   refine Ax hf λp l h1 h2=>?_;exact h2 s' ⟨g,t,h1⟩ Q' q
  |ret v=>exact q (.ret v) s' ⟨g,t,hf⟩
  |brk=>exact q .brk s' ⟨g,t,hf⟩
  |cont=>exact q .cont s' ⟨g,t,hf⟩)
theorem BM.nil(h:N ps led):BM c X ps (execs [] c.env) led N:=λs ⟨g,t,hs⟩ Q' q=>wpAny_execs_nil (q .next s ⟨g,t,ps,led,hs,h⟩)
theorem BM.weak(k:HO q ps)(h:BM c X q x led N):BM c X ps x led N:=λs ⟨g,t,hs⟩ Q' r=>h s ⟨g,t,hs.weak k⟩ Q' r
theorem Kz(n:Nat)(ns:List Str)(vals:σ→List Value)(Inv:Nat→σ→Lg→Prop)(hr:c.rd=none)(k₀:Nat)(x₀:σ)(h0:Inv k₀ x₀ led)(hps:BR ps ns=(vals x₀).map some)(turn:∀k x led',Inv k x led'→∀g t,(Ci n (c.tn g t) (ns.zip (vals x))).t test led' λq l1=>BB q (BM c ⟨X.ret,Wk N,LW ns vals Inv k⟩ (ns.zip (vals x)) (execs body c.env) l1 (LW ns vals Inv k)) (BM c X (ns.zip (vals x)) (execs orelse c.env) l1 (Wk N))) :
  BM c X ps (exec (.While test body orelse pos) c.env) led N:=by
 rintro s ⟨g,t,hs⟩ Q' q;refine wpAny_While (codeAny_whileLoop (λk s=>∃x led,Z9 c (ns.zip (vals x)) led s∧Inv k x led) ?_ k₀ ⟨x₀,led,⟨g,t,hs.weak (Bb hps)⟩,h0⟩);rintro k s ⟨x,led1,⟨g,t,h1⟩,h2⟩;have wk:∀{g t} s',(∃p l,At (c.tn g t) p l s'∧Wk N p l)→Q' .next s':=λ{g t} s' hX=>JA hX λp l a1 p2 a2 a3=>q .next s' ⟨g,t,p2,l,a1.weak a2,a3⟩;refine wpAny_mono (wpAny_passesOwn (c.hE hr) (((A6 n).t _ _ _ (turn k x led1 h2 g t)).wp h1 (Q':=λb s2=>if b=true then wpAny (model PW c.w) c.A (execs body c.env) (λf s3=>Qn c ⟨X.ret,Wk N,LW ns vals Inv k⟩ (LW ns vals Inv k) f s3) c.E s2 else wpAny (model PW c.w) c.A (execs orelse c.env) (λf s3=>Q' f s3) c.E s2) λb s2 l2 a1 a2=>?_)) (λb s2 hb=>?_) λz_ z_ e=>e
 ·cases b with
  |true=>refine Aa (if_pos rfl) ?_;exact a2.1 rfl s2 ⟨g,t,a1⟩ _ λf s3 hf=>hf
  |false=>
   refine Aa (if_neg (by decide)) ?_;refine a2.2 rfl s2 ⟨g,t,a1⟩ _ λf s3 ⟨g,t,hf⟩=>?_
   cases f with
   |next=>exact wk s3 hf
   |ret v=>exact q _ _ ⟨g,t,hf⟩
   |brk=>exact q _ _ ⟨g,t,hf⟩
   |cont=>exact q _ _ ⟨g,t,hf⟩
 ·cases b with
  |false=>
   rw[if_neg (by decide)] at hb ⊢;exact wpAny_passesOwn (c.hE hr) hb
  |true=>
   rw[if_pos rfl] at hb ⊢;refine wpAny_mono (wpAny_passesOwn (c.hE hr) hb) (λf s3 ⟨g,t,hf⟩=>?_) λz_ z_ e=>e;have fin:(∃p l,At (c.tn g t) p l s3∧LW ns vals Inv k p l)→∃m,m<k∧∃x led,Z9 c (ns.zip (vals x)) led s3∧Inv m x led:=by
    rintro ⟨p,l,a1,k',hk,x,a2,a3⟩;exact⟨k',hk,x,l,⟨g,t,a1.weak (Bb a3)⟩,a2⟩
   cases f with
   |ret v=>exact q (.ret v) s3 ⟨g,t,hf⟩
   |brk=>exact wk s3 hf
   |cont=>exact fin hf
   |next=>exact fin hf
noncomputable def Gu(o₀:Obj):AO:=.pr 9 (· = o₀)
theorem At.exact(h:At c ps led s)(hD:led D=some o):∃o₀,o.Is c.w o₀∧At c ps (put D (Gu o₀) led) s:=by
 refine CT λGG up=>?_;obtain⟨h,tk,m,con,F,Nw,C,I⟩:=h;refine An (C _ _ hD) λo₀ hm hi=>?_;refine up ?_;refine⟨o₀,hi,h,tk,m,con,F,Nw,λb p hb=>?_,I.step (λq hq z_=>hq) λq hq e=>A0 e λe2=>by rw[e2,hD] at e;cases e⟩;unfold Mine.Internal.put at hb;split at hb
 ·rename_i e;obtain rfl:=Option.some.inj hb;exact⟨o₀,e▸hm,rfl⟩
 ·exact C _ _ hb
theorem At.inexact(h:At c ps led s)(hD:led D=some (Gu o₀))(hi:o.Is c.w o₀):At c ps (put D o led) s:=by
 obtain⟨h,tk,m,con,F,Nw,C,I⟩:=h;refine An (C _ _ hD) λo1 hm h1=>?_;obtain rfl:o1=o₀:=h1;refine⟨h,tk,m,con,F,Nw,λb p hb=>?_,I.step (λq hq z_=>hq) λq hq e=>A0 e λe2=>by rw[e2,hD] at e;cases e⟩;unfold Mine.Internal.put at hb;split at hb
 ·rename_i e;obtain rfl:=Option.some.inj hb;exact⟨_,e▸hm,hi⟩
 ·exact C _ _ hb
theorem At.unwi(hr:c.rd=none)(hne:∀q∈c.its,q.1≠I)(h:At (c.wi I o) ps led s):At c ps led s:=by
 obtain⟨h,tk,m,con,F,Nw,C,G⟩:=h;refine Cg (G.its (I,o) (.head _)) λz_ k2 z_=>?_;exact⟨h,tk,m,_,F,λp hp=>Nw p (AM p hp),Dp C k2,G.off hr hne⟩
theorem At.upwi(hr:c.rd=none)(hne:∀q∈c.its,q.1≠I)(h:At (c.wi I o) ps led s)(hs:∀b p,b≠I→s.heap.get? b=some p→h'.get? b=some p)(ho:h'.get? I=some o'):At (c.wi I o') ps led { s with heap:=h',toks:=tk }:=by
 obtain⟨h,tk0,m,con,F,Nw,C,G⟩:=h;refine Cg (G.its (I,o) (.head _)) λk1 k2 z_=>?_;refine Cg (Nw _ k1) λz_ n2 n3=>?_;exact⟨h',tk,m,(I,o')::off I con,⟨F.ns.at' λo e=>hs _ o (Ne.symm n2) e,λb o e=>hs b o (λhb=>by rw[hb] at e;exact absurd (n3.symm.trans e) (by simp)) (F.keep b o e),F.above⟩,λp hp=>by
  rcases List.mem_cons.mp hp with rfl | hp
  ·exact⟨ho,n2,n3⟩
  ·exact⟨hs _ _ (AW p hp) (Nw p (AM p hp)).1,(Nw p (AM p hp)).2⟩,λa o e=>(An (Dp C k2 a o e) λo1 h1 h2=>⟨o1,.tail _ h1,h2⟩),(G.off hr hne).on hr AW k2⟩
theorem At.itIs(h:At (c.wi I o) ps led s):s.heap.get? I=some o:=by
 obtain⟨h,tk,m,con,F,Nw,C,G⟩:=h;exact(Nw _ (G.its (I,o) (.head _)).1).1
theorem Tn.wi(t:Tn c g):Tn (c.wi I o) g:=⟨t.T,t.B,t.X,t.P,t.D⟩
theorem Tn.iw(t:Tn (c.wi I o) g):Tn c g:=⟨t.T,t.B,t.X,t.P,t.D⟩
end
end
noncomputable def KiO(o:Obj)(D:Addr)(i n ep:Nat):Prop:=o.cls = .type "dict_keyiterator"∧o.data = .fields #[.ref D,.int i 0,.int n 0,.int ep 0]
section
variable{c:Cf cs}
theorem At.chwi(hr:c.rd=none)(hne:∀q∈c.its,q.1≠I)(h:At (c.wi I o) ps led s)(hs:∀b p,b≠I→s.heap.get? b=some p→h'.get? b=some p):At c ps led { s with heap:=h',toks:=tk }:=by
 obtain⟨h,tk0,m,con,F,Nw,C,G⟩:=h;refine Cg (G.its (I,o) (.head _)) λk1 k2 z_=>?_;refine Cg (Nw _ k1) λz_ n2 n3=>?_;exact⟨h',tk,m,off I con,⟨F.ns.at' λo e=>hs _ o (Ne.symm n2) e,λb o e=>hs b o (λhb=>by rw[hb] at e;exact absurd (n3.symm.trans e) (by simp)) (F.keep b o e),F.above⟩,λp hp=>
  ⟨hs _ _ (AW p hp) (Nw p (AM p hp)).1,(Nw p (AM p hp)).2⟩,Dp C k2,G.off hr hne⟩
noncomputable def TK(X:Ex)(J:PS→Lg→Prop)(D:Addr)(o:AO)(o₀:Obj):Ex:=⟨λv l=>l D=some (Gu o₀)∧X.ret v (put D o l),λz_ z_=>False,J⟩
inductive bJ(c:Cf cs)(D I0:Addr)(n ep:Nat)(J:Nat→PS→Lg→Prop):Nat→Shared→Prop
 |mk (s:Shared) (g:Heap) (t:Tn c g) (i:Nat) (oI:Obj) (ps:PS) (led:Lg) (A₁:At ((c.tn g t).wi I0 oI) ps led s) (hk:KiO oI D i n ep) (j:J i ps led) (hil:i≤n):bJ c D I0 n ep J (n+1-i) s
theorem Vs(n:Nat)(tc:Tc c)(J:Obj→Nat→PS→Lg→Prop)(hx:Ft cs x=true)(lo:(D==sysModules)=false)(hi:∀g t,(Ci n (c.tn g t) ps).e iter led λv l1=>v = .ref D∧l1=led)(hv:led D=some (.dct kvs))(h0:∀o₀,(AO.dct kvs).Is c.w o₀→J o₀ 0 ps (put D (Gu o₀) led))(hJ:∀o₀ i ps l,J o₀ i ps l→l D=some (Gu o₀))(turn:∀o₀,(AO.dct kvs).Is c.w o₀→∀c':Cf cs,c'.env=c.env→DD c c'→c'.w=c.w→Tc c'→∀i k v ps' led',kvs[i]?=some (k,v)→J o₀ i ps' led'→BM c' (TK X (J o₀ (i+1)) D (.dct kvs) o₀) (pc x (.str k 0) ps') (execs body c'.env) led' (J o₀ (i+1)))(done:∀o₀ ps' led',J o₀ kvs.length ps' led'→N ps' (put D (.dct kvs) led'))(hs:∀x,foldedSetIterable iter c.env x=pure x:=by intro _;rfl):BM c X ps (exec (.For (.Name x xp) iter body [] pos) c.env) led N:=by
 have hr:=tc.rd;rintro s ⟨g,t,hA⟩ Q' q;refine wpAny_For (((A6 n).e _ _ _ (hi g t)).wp hA λv' s1 l1 h1 k1=>?_) hs;refine oA k1 λe1 ho1=>?_;subst ho1;obtain rfl:=Af e1;refine An (h1.exact hv) λo₀ hi₀ h1=>?_;refine An (id hi₀) λl hd hl=>?_;refine oE (KdkAt.of hd) λep ha=>?_;have at₀:∀{g:Heap} {t:Tn c g} {ps led s},At (c.tn g t) ps led s→led D=some (Gu o₀)→s.heap.DictAt (strKind PW c.w) D l ep:=λ{g t ps led s} h e=>by
  obtain⟨h,tk,m,con,F,Nw,C,I⟩:=h;refine An (C _ _ e) λo1 hm h1=>?_;obtain rfl:o1=o₀:=h1;exact ha.dictAt (Nw _ hm).1
 have hll:l.length=kvs.length:=AV hl (Aa (List.length_map ..) rfl);refine wpAny_pyIter_dict lo (at₀ h1 Ac) ?_;obtain⟨h,tk,m,con,F,Nw,C,I⟩:=h1;have hnI:∀p∈con,p.1≠h.objs.size:=λp hp=>Nat.ne_of_lt (Heap.lt_size (Nw p hp).1);have hne:∀z∈c.its,z.1≠h.objs.size:=λz hz=>hnI z (I.its z hz).1;have hlI:put D (Gu o₀) l1 h.objs.size=none:=by
  cases e:put D (Gu o₀) l1 h.objs.size with
  |none=>rfl
  |some o=>
   refine An (C _ _ e) λo' h1 z_=>?_;exact absurd rfl (hnI _ h1)
 have A₁:At ((c.tn g t).wi h.objs.size { cls:=.type "dict_keyiterator",data:=.fields #[.ref D,.int 0 0,.int l.length 0,.int ep 0] }) ps (put D (Gu o₀) l1) { c.s with heap:=h.push { cls:=.type "dict_keyiterator",data:=.fields #[.ref D,.int 0 0,.int l.length 0,.int ep 0] },toks:=tk }:=
  ⟨_,tk,m,_,F.push _,News.push F Nw _ rfl,λa o e=>(An (C a o e) λo1 h1 h2=>⟨o1,.tail _ h1,h2⟩),I.on hr hnI hlI⟩
 generalize h.objs.size=I0 at A₁ hne;generalize h.push { cls:=.type "dict_keyiterator",data:=.fields #[.ref D,.int 0 0,.int l.length 0,.int ep 0] }=h9 at A₁;clear hnI hlI C Nw F I;have j0:=h0 o₀ hi₀;clear h0 hv;refine DZ (bJ c D I0 l.length ep (J o₀)) ?_ (l.length+1) ⟨_,g,t,0,_,ps,_,A₁,⟨rfl,rfl⟩,j0,Nat.zero_le _⟩;clear A₁ j0;rintro _ s' ⟨_,g,t,i,oI,ps,led,A₁,hk,j,hil⟩;have A₀:=At.unwi (c:=c.tn g t) hr hne A₁;have hd₀:=at₀ A₀ (hJ _ _ _ _ j);have hit:s'.heap.IsKeyIter I0 D i l.length ep:=⟨oI,A₁.itIs,hk⟩
 cases hx2:l[i]? with
 |none=>
  have hii:i=kvs.length:=by
   have:=List.getElem?_eq_none_iff.mp hx2;exact Nat.le_antisymm (aN (zv 0) (zv 1) [(1,1,zv 2,zv 1),(0,1,zv 0,zv 2)] rfl (AH _ _ _) Ae hll hil) (aN (zv 1) (zv 0) [(2,1,zv 2,zv 1),(0,1,zv 2,zv 0)] rfl (AH _ _ _) Ae hll this)
  refine wpAny_pyNext_dict_end rfl hit hd₀ hx2 λh' he'=>wpAny_execs_nil ?_;exact q .next _ ⟨g,t,ps,_,(At.chwi (c:=c.tn g t) hr hne A₁ (λb o hb e=>he' b o hb e) (tk:=s'.toks)).inexact (hJ _ _ _ _ j) hi₀,done _ _ _ (hii▸j)⟩
 |some kv=>
  obtain⟨k,v⟩:=kv;refine wpAny_pyNext_dict_item hit hd₀ hx2 λkey h' hkey hit' hs'=>?_;refine An hit' λoI' ho' hk'=>?_;refine oE (HX hkey) λt2 ho1=>?_;subst ho1;have hx3:kvs[i]?=some (k,er v):=by refine AV hl ((List.getElem?_map).trans (Aa hx2 ?_));rfl
  have hin:i<l.length:=(List.getElem?_eq_some_iff.mp hx2).1;have A₂:=At.upwi (c:=c.tn g t) hr hne A₁ (λb o hb e=>(hs'.2 b hb).trans e) ho' (tk:=s'.toks);clear A₁ A₀ hd₀ hit ho' hs' hkey;have tr:=turn o₀ hi₀ (c.wi I0 oI') rfl (c.wi_like I0 oI') rfl tc.wi i k (er v) ps led hx3 j;refine wpAny_pure ?_;refine wpAny_mono (wpAny_passesOwn (c.hE hr) (PyProof.Rows.assign_Name (BU (c:=(c.tn g t).wi I0 oI') (Q:=λz_ s4=>wpAny (model PW c.w) c.A (execs body c.env) (Qn (c.wi I0 oI') (TK X (J o₀ (i+1)) D (AO.dct kvs) o₀) (J o₀ (i+1))) c.E s4) hr A₂ hx λs4 h4=>tr s4 ⟨g,t.wi,h4⟩ _ λf s5 hf=>hf))) (λz_ s₃ h₃=>?_) λz_ z_ e=>e;refine wpAny_mono (wpAny_passesOwn (c.hE hr) h₃) (λf s₄ ⟨g,t,hf⟩=>?_) λz_ z_ e=>e;have t':=t.iw;have fin:(∃ps3 led3,At ((c.tn g t').wi I0 oI') ps3 led3 s₄∧J o₀ (i+1) ps3 led3)→∃m,m<l.length+1-i∧bJ c D I0 l.length ep (J o₀) m s₄:=λhX=>Ax hX λps3 led3 h3 j3=>⟨l.length+1-(i+1),I5 hin,_,g,t',i+1,oI',ps3,led3,h3,hk',j3,hin⟩
  cases f with
  |ret v=>
   refine A3 hf λps3 led3 h3 e3 j3=>?_;exact q (.ret v) _ ⟨g,t',ps3,_,At.inexact (At.unwi (c:=c.tn g t') hr hne h3) e3 hi₀,j3⟩
  |brk=>
   refine Ax hf λz_ z_ z_ h3=>?_;exact h3.elim
  |cont=>exact fin hf
  |next=>exact fin hf
end
section
variable{K:Value→Lg→Prop}
inductive cB(c:Cf cs)(ps:PS)(C:Addr)(led:Lg)(e:Addr)(s:Shared):Prop
 |mk (g g₂:Heap) (t:Nat) (vs:List Value) (h:Heap) (tk:Nat) (m:Str→Option Value) (con:Df) (n:Tn c g) (es:s={ c.s with heap:=h,toks:=tk }) (R:RaisedS c.base g₂ (envOf c.cn c.cs₀ c.L c.a c.ccd::c.outer) e (.ref C) t vs con h) (U:g₂.UpToSlots h) (F:Fr g c.L g₂ m) (V:Dq c.w led con) (I:FP c ps m con led)
inductive cC(c:Cf cs)(C:Addr)(led:Lg)(e:Addr)(s:Shared):Prop
 |mk (g h:Heap) (tk:Nat) (vs:List Value) (m:Str→Option Value) (con:Df) (ps:PS) (n:Tn c g) (es:∃h',s={ c.s with heap:=h',toks:=tk }) (M:Heap.MadeExcOf h s.heap e (.ref C) vs) (F:Fr g c.L h m) (N:News g c.L h con) (V:Dq c.w led con) (I:FP c ps m con led)
noncomputable def Qq(c:Cf cs)(ps:PS)(f:Value)(vs:List Value)(C:Addr)(KE:Lg→Prop)(led:Lg)(K:Value→Lg→Prop):Prop:=
 ∀f' vs',er f'=f→vs'.map er=vs→∀s,Z9 c ps led s→∀R:Result→Shared→Prop,(∀v s' led',Z9 c ps led' s'→K (er v) led'→R (.ok (.ret v)) s')→(∀e s' led',cB c ps C led' e s'→KE led'→R (.error (.ref e)) s')→codeAny (model PW c.w) c.A (.call f' ⟨vs',[]⟩) R s
theorem Lu(ns:List Str)(bs:Bs c)(hcl:c.cl=[])(ho:(hd0.heap_1 c.w.params).lookup f=some ⟨oc,od,.func (fnOf name qual params body scope dV kV doc pm an cdv ct),osl⟩)(hcd:codeIn (hd0.heap_1 c.w.params) cdv qual=true)(hb:∀(s:Shared) (vs':List Value),(hd0.heap_1 c.w.params).In s.heap→vs'.length=vs.length→BindsTo s (fnOf name qual params body scope dV kV doc pm an cdv ct) ⟨vs',[]⟩ (ns.zip vs'))(hl:ns.all (λx=>decide (scope.names.lookup x=some .local))=true)(hco:scope.isCoroutine=false)(hgen:scope.isGenerator=false)(hk:scope.kind = .function)(hcell:scope.names.all (λx=>x.2 != .cell)=true)(room:c.dp<recursionLimit)(h:∀c':Cf scope,c'.dp=c.dp+1→c'.un=c.un+3→Tc c'→(∀e l s,cC c' C l e s→KE l→c'.E (.ref e) s)→BM c' (Hp K) (ns.zip vs).reverse (execs body c'.env) led λz_ l=>K .none l):Qq c ps (.ref f) vs C KE led K:=by
 intro f' vs' ef ev s hs R q qe;obtain rfl:=Af ef;obtain⟨g,t,h0,tk,m,con,F,N,V,I⟩:=hs;have hloc:∀y∈ns.zip vs',scope.names.lookup y.1=some .local:=λy hy=>of_decide_eq_true (List.all_eq_true.mp hl y.1 (List.of_mem_zip hy).1);have hce:∀x∈scope.names,x.2 ≠ .cell:=λx hx=>by simpa using List.all_eq_true.mp hcell x hx
 have eA:c.A=ktrTop c.dp c.un c.gd c.cn c.cs₀ c.L c.a c.ccd [] c.outer:=by show ktrTop c.dp c.un c.gd c.cn c.cs₀ c.L c.a c.ccd c.cl c.outer=_;exact Aa hcl rfl
 refine Aa eA ?_;refine code_defS (g₀:=c.h₀) t.B F t.X N t.P bs.X bs.P t.D t.T rfl ho hcd room (hb _ vs' (t.X.keeps F.keep) (AV ev (Aa (List.length_map ..) rfl))) hloc (λg' L' h₁ FG F' N' B' X' T' D'=>?_) c.hk₀ hco hgen hk hce
 let env':=envX qual scope L' f cdv []
 let c':Cf scope:={
  w:=c.w,dp:=c.dp+1,un:=c.un+3,gd:=c.gd,cn:=qual,cs₀:=scope,L:=L',a:=f,ccd:=cdv,cl:=[],outer:=envOf c.cn c.cs₀ c.L c.a c.ccd::c.outer
  A₀:=ktrTop c.dp c.un c.gd c.cn c.cs₀ c.L c.a c.ccd [] c.outer,base:=c.base,h₀:=g',p:=c.p,loose:=c.loose,mean:=c.mean,mg:=c.mg,mb:=c.mb,s:=c.s,fm:=λz_=>none,its:=con.filter λq=>(led q.1).isNone
  E:=λe s'=>wpAny (model PW c.w) (Around.deeper (ktrTop c.dp c.un c.gd c.cn c.cs₀ c.L c.a c.ccd [] c.outer) env') (leaving env' e) (λz_ s''=>R (.error e) s'') (λe' s''=>R (.error e') s'') s'
  env:=env',rd:=none,B:=B',X:=X',T:=T',hk₀:=hk,hk:=hk,es:=rfl,eg:=rfl,eb:=rfl,own:=λz_=>⟨rfl,rfl⟩,loc:=(λz_ h=>by contradiction),rdIn:=(λz_ h=>by contradiction),inj:=(λz_ z_ z_ h=>by contradiction)
  has:=λx hx=>absurd rfl (hce (x,.cell) (As hx)),hE:=λz_=>PassesOwn.leaving }
 have A₁:At c' (ns.zip vs).reverse led { c.s with heap:=h₁,toks:=tk+(ns.zip vs').length }:=by
  refine⟨h₁,_,_,con,F',N',V,⟨λx v hv=>?_,(λx a h=>by contradiction),λz hz=>?_,(λz_ h=>by contradiction)⟩⟩
  ·rw[← ev,EJ,← List.map_reverse,Bx] at hv;refine An (Option.map_eq_some_iff.mp hv) λv' h1 h2=>?_;refine⟨v',?_,h2⟩;unfold Rd;refine Aa (hloc (x,v') (List.mem_reverse.mp (As h1))) ?_;exact h1
  ·refine oA (List.mem_filter.mp hz) λh1 h2=>?_;exact⟨h1,by simpa using h2,λx h=>by contradiction⟩
 have key:∀z∈con,led z.1=none→z∈c'.its:=λz hz e=>List.mem_filter.mpr ⟨hz,by refine Aa e ?_;rfl⟩;have fp:∀{ps' m2 con2 led'},FP c' ps' m2 con2 led'→FP c ps m con2 led':=λI2=>FP.nt (t:=t) (I.step (λz hz e=>(I2.its z (key z hz e)).1) λz hz e=>(I2.its z (key z hz e)).2.1);have back:∀{g3 t3 ps' led' s'},At (c'.tn g3 t3) ps' led' s'→∃m' con',Fr g3 L' s'.heap m'∧News g3 L' s'.heap con'∧∀g4 (t4:Tn c g4),Fr g4 c.L s'.heap m→News g4 c.L s'.heap con'→At (c.tn g4 t4) ps led' s':=by
  rintro g3 t3 ps' led' s' ⟨h2,tk2,m2,con2,F2,N2,C2,I2⟩;exact⟨m2,con2,F2,N2,λg4 t4 F3 N3=>⟨h2,tk2,m,con2,F3,N3,C2,(fp (FP.nt (t:=t3) I2)).tn⟩⟩
 refine h c' rfl rfl ⟨⟨bs.X,bs.P⟩,rfl,rfl,λz_=>PassesOwnAt.leaving,rfl⟩ (λe l s ⟨g3,h3,tk3,vs3,m3,con3,ps3,t3,⟨h4,e4⟩,M,F3,N3,V3,I3⟩ ke=>?_) _ ⟨g',⟨KtsTurn.refl,B',X',T',D'⟩,A₁⟩ _ λfl s' ⟨g3,t3,hf⟩=>?_
 ·subst e4;refine leave_raiseS t3.B M F3 N3 (λh5 t5 R5 z_ U5=>?_) hk;refine An (Jw FG t.B bs.X bs.P t.D t.T t3.T) λg6 F6 ho2=>?_;obtain⟨k1,k2,k3,k4,k5⟩:=ho2;exact qe e _ l ⟨g6,g3,t5,vs3,h5,tk3,m,con3,⟨k1,k2,k3,k4,k5⟩,rfl,R5,U5,F6,V3,fp I3⟩ ke
 cases fl with
 |ret v=>
  refine CT λGG up=>?_;refine Ax hf λps' led' h2 h3=>?_;refine A3 (back h2) λm' con' F2 N2 hb2=>?_;refine up ?_;exact leaveS_r F2 N2 t3.T λg4 kT kF kN kB kX kP kD=>q v s' led' ⟨g4,⟨kT,kB,kX,kP,kD⟩,hb2 _ _ kF kN⟩ h3
 |next=>
  refine Ax hf λps' led' h2 h3=>?_;refine A3 (back h2) λm' con' F2 N2 hb2=>?_;exact leaveS_r F2 N2 t3.T λg4 kT kF kN kB kX kP kD=>q .none s' led' ⟨g4,⟨kT,kB,kX,kP,kD⟩,hb2 _ _ kF kN⟩ h3
 |brk=>
  refine Ax hf λz_ z_ z_ h3=>?_;exact h3.elim
 |cont=>
  refine Ax hf λz_ z_ z_ h3=>?_;exact h3.elim
theorem Pu(ns:List Str)(bs:Bs c)(ho0:c.outer=[])(ho:(hd0.heap_1 c.w.params).lookup f=some ⟨oc,od,.func (fnOf name qual params body scope dV kV doc pm an cdv ct),osl⟩)(hcd:codeIn (hd0.heap_1 c.w.params) cdv qual=true)(hb:∀(s:Shared) (vs':List Value),(hd0.heap_1 c.w.params).In s.heap→vs'.length=vs.length→BindsTo s (fnOf name qual params body scope dV kV doc pm an cdv ct) ⟨vs',[]⟩ (ns.zip vs'))(hl:ns.all (λx=>decide (scope.names.lookup x=some .local))=true)(hco:scope.isCoroutine=false)(hgen:scope.isGenerator=false)(hk:scope.kind = .function)(hcell:scope.names.all (λx=>x.2 != .cell)=true)(room:c.dp<recursionLimit)(h:∀c':Cf scope,c'.dp=c.dp+1→c'.un=c.un+3→Tc c'→BM c' (Hp K) (ns.zip vs).reverse (execs body c'.env) led λz_ l=>K .none l):A4 c ps (.ref f) vs led K:=by
 refine Ed.r ?_;intro f' vs' ef ev s hs R q;obtain rfl:=Af ef;obtain⟨h0,tk,m,con,F,N,V,I⟩:=hs;have hloc:∀y∈ns.zip vs',scope.names.lookup y.1=some .local:=λy hy=>of_decide_eq_true (List.all_eq_true.mp hl y.1 (List.of_mem_zip hy).1);have hce:∀x∈scope.names,x.2 ≠ .cell:=λx hx=>by simpa using List.all_eq_true.mp hcell x hx
 have eA:c.A=ktrTop c.dp c.un c.gd c.cn c.cs₀ c.L c.a c.ccd c.cl []:=by show ktrTop c.dp c.un c.gd c.cn c.cs₀ c.L c.a c.ccd c.cl c.outer=_;exact Aa ho0 rfl
 have B:=c.B;rw[ho0] at B;refine Aa eA ?_;refine Ki B F c.X N c.T rfl rfl c.hk₀ ho hcd room (hb _ vs' (c.X.keeps F.keep) (AV ev (Aa (List.length_map ..) rfl))) hloc (λg' L' h₁ FG F' N' B' X' T' D'=>?_) hco hgen hk hce
 let env':=envX qual scope L' f cdv []
 let c':Cf scope:={
  w:=c.w,dp:=c.dp+1,un:=c.un+3,gd:=c.gd,cn:=qual,cs₀:=scope,L:=L',a:=f,ccd:=cdv,cl:=[],outer:=[envX c.cn c.cs₀ c.L c.a c.ccd c.cl]
  A₀:=ktrTop c.dp c.un c.gd c.cn c.cs₀ c.L c.a c.ccd c.cl [],base:=c.base,h₀:=g',p:=c.p,loose:=c.loose,mean:=c.mean,mg:=c.mg,mb:=c.mb,s:=c.s,fm:=λz_=>none,its:=con.filter λq=>(led q.1).isNone
  E:=λe s'=>wpAny (model PW c.w) (Around.deeper (ktrTop c.dp c.un c.gd c.cn c.cs₀ c.L c.a c.ccd c.cl []) env') (leaving env' e) (λz_ s''=>R (.error e) s'') (λe' s''=>R (.error e') s'') s'
  env:=env',rd:=none,B:=B',X:=X',T:=T',hk₀:=hk,hk:=hk,es:=rfl,eg:=rfl,eb:=rfl,own:=λz_=>⟨rfl,rfl⟩,loc:=(λz_ h=>by contradiction),rdIn:=(λz_ h=>by contradiction),inj:=(λz_ z_ z_ h=>by contradiction)
  has:=λx hx=>absurd rfl (hce (x,.cell) (As hx)),hE:=λz_=>PassesOwn.leaving }
 have A₁:At c' (ns.zip vs).reverse led { c.s with heap:=h₁,toks:=tk+(ns.zip vs').length }:=by
  refine⟨h₁,_,_,con,F',N',V,⟨λx v hv=>?_,(λx a h=>by contradiction),λz hz=>?_,(λz_ h=>by contradiction)⟩⟩
  ·rw[← ev,EJ,← List.map_reverse,Bx] at hv;refine An (Option.map_eq_some_iff.mp hv) λv' h1 h2=>?_;refine⟨v',?_,h2⟩;unfold Rd;refine Aa (hloc (x,v') (List.mem_reverse.mp (As h1))) ?_;exact h1
  ·refine oA (List.mem_filter.mp hz) λh1 h2=>?_;exact⟨h1,by simpa using h2,λx h=>by contradiction⟩
 have key:∀z∈con,led z.1=none→z∈c'.its:=λz hz e=>List.mem_filter.mpr ⟨hz,by refine Aa e ?_;rfl⟩;have back:∀{g3 t3 ps' led' s'},At (c'.tn g3 t3) ps' led' s'→∃m' con',Fr g3 L' s'.heap m'∧News g3 L' s'.heap con'∧(Fr c.h₀ c.L s'.heap m→News c.h₀ c.L s'.heap con'→At c ps led' s'):=by
  rintro g3 t3 ps' led' s' ⟨h2,tk2,m2,con2,F2,N2,C2,I2⟩;exact⟨m2,con2,F2,N2,λF3 N3=>⟨h2,tk2,m,con2,F3,N3,C2,I.step (λz hz e=>(I2.its z (key z hz e)).1) λz hz e=>(I2.its z (key z hz e)).2.1⟩⟩
 refine h c' rfl rfl ⟨⟨bs.X,bs.P⟩,rfl,rfl,λz_=>PassesOwnAt.leaving,rfl⟩ _ ⟨g',⟨KtsTurn.refl,B',X',T',D'⟩,A₁⟩ _ λfl s' ⟨g3,t3,hf⟩=>?_
 cases fl with
 |ret v=>
  refine Ax hf λps' led' h2 h3=>?_;refine A3 (back h2) λm' con' F2 N2 hb2=>?_;exact leaveS0_ F2 N2 t3.T λF3 N3=>q v s' led' (hb2 F3 N3) h3
 |next=>
  refine Ax hf λps' led' h2 h3=>?_;refine A3 (back h2) λm' con' F2 N2 hb2=>?_;exact leaveS0_ F2 N2 t3.T λF3 N3=>q .none s' led' (hb2 F3 N3) h3
 |brk=>
  refine Ax hf λz_ z_ z_ h3=>?_;exact h3.elim
 |cont=>
  refine Ax hf λz_ z_ z_ h3=>?_;exact h3.elim
end
theorem At.ex(a:At c ps led s):∃h tk m con,s={ c.s with heap:=h,toks:=tk }∧Fr c.h₀ c.L h m∧News c.h₀ c.L h con∧Dq c.w led con∧FP c ps m con led:=by
 obtain⟨h,tk,m,con,F,N,V,I⟩:=a;exact⟨h,tk,m,con,rfl,F,N,V,I⟩
noncomputable def TR(I:Addr):AO:=.pr 5 (· = CB I)
noncomputable def OW(l:Addr)(i:Nat):AO:=.pr 6 λo=>Sy o l i
noncomputable def del(a:Addr)(l:Lg):Lg:=λb=>if b=a then none else l b
theorem EW(n:b≠a):del a l b=l b:=if_neg n
theorem Jt:∀{l:List (Str×Value)},(without l k).map (λq=>(q.1,er q.2))=without (l.map λq=>(q.1,er q.2)) k:=λ{l}=>by
 unfold PySem.without;refine Aa List.filter_map ?_;rfl
section
variable{E:Value→Shared→Prop}
theorem bT(F:Fr g L s.heap m)(hk:env.scope.kind = .function)(hL:env.locals=L)(hx:env.kindOf x=some .local)(hd:(x==("__debug__":Str))=false)(hm:m x=some v)(q:Q v s):wpAny (model PW w) A (eval (.Name x p) env) Q E s:=
 wpAny_Name (wpAny_loadName_local hk hx (hL▸F.ns) hm q) hd
theorem Wh(F:Fr g L s.heap m)(N:News g L s.heap con)(hk:env.scope.kind = .function)(hL:env.locals=L)(hx:env.kindOf x=some .local)(hd:(x==("__debug__":Str))=false)(hm:m x=some (.ref D))(hl:(apos.endLine==pos.line)=true)(hD:(D,listOf (vs++[y]).toArray n)∈con)(hz:vs.length≤100000)(q:∀h',Fr g L h' m→News g L h' ((D,listOf vs.toArray (n+1))::off D con)→Q y { s with heap:=h' }) :
  wpAny (model PW w) A (eval (.Call (.Attribute (.Name x p) "pop" apos) [] [] pos) env) Q E s:=by
 refine Aa (DK hl rfl (by decide) rfl) ?_;exact wpAny_bind (bT F hk hL hx hd hm (wpAny_bind (wpAny_standAt (wpAny_bind (wpAny_holding (listMethod_K N hD PySem.F.slot_list_pop PySem.F.type_list_pop (Calls.callWith_builtin rfl (evalArgs_nil3 (SI F N hD rfl (by simp;exact aN (zv 0) (zn 999999) [(0,1,zv 0,zn 100000)] rfl (Av _) Ae hz) q)))))))))
end
section
variable{c:Cf cs}
noncomputable def TO(c:Cf cs)(ps:PS)(led:Lg)(code:List Stmt)(N:PS→Lg→Prop):Prop:=∀c':Cf cs,c'.w=c.w→c'.rd=none→c'.env=c.env→∀e s,At c' ps led s→∀(Q':Flow→Shared→Prop) (E:Value→Shared→Prop),(∀s' ps' l',At c' ps' l' s'→N ps' l'→Q' .next s')→wpAny (model PW c.w) (c.A.mark (some (.ref e))) (execs code c.env) Q' E s
theorem ET(hr:c.rd=none)(I:FP c ps m con led)(hx:cs.names.lookup x=some .local)(hv:ps.lookup x=some v):∃v',m x=some v'∧er v'=v:=by
 refine An (I.vars x v hv) λv' h1 h2=>?_;unfold Rd at h1;rw[hx,hr] at h1;exact⟨v',h1,h2⟩
theorem Pk(hl:(p3.endLine==p4.line)=true)(hl2:(p8.endLine==p9.line)=true)(kd:cs.names.lookup d=some .local)(kS:cs.names.lookup S=some .local)(kt:cs.names.lookup t=some .local)(bd:∀x∈[d,S,t],(x==("__debug__":Str))=false)(hd:ps.lookup d=some (.ref D))(hS:ps.lookup S=some (.ref sk))(ht:ps.lookup t=some (.ref it))(vD:led D=some (.dct kvs))(vS:led sk=some (.lst (vs++[.str k 0])))(vt:led it=some (.lst (us++[u])))(n1:D≠sk)(n2:it≠sk)(n3:it≠D)(hx:(valueAt kvs k).isSome=true)(z1:vs.length≤1000)(z2:us.length≤1000)(z3:kvs.length≤1000)(hN:N ps (put it (.lst us) (put D (.dct (without kvs k)) (put sk (.lst vs) led)))) :
  TO c ps led [.Delete [.Subscript (.Name d p0) (.Call (.Attribute (.Name S p1) "pop" p3) [] [] p4) p5] p6,.Expr (.Call (.Attribute (.Name t p7) "pop" p8) [] [] p9) p2] N:=by
 intro c' hw hr hE e s hs Q' E q;refine CT λGG up=>?_;obtain⟨h,tk,m,con,F,Nw,C,I⟩:=id hs;refine oA (c'.own hr) λhe hc0=>?_;have ekd:∀x,c.env.kindOf x=cs.names.lookup x:=λx=>by refine AV hE (Aa he ?_);rfl
 have hk:c.env.scope.kind = .function:=by refine Aa c.es ?_;exact c.hk
 have hL:c.env.locals=c'.L:=AV hE (Aa he rfl);refine An (ET hr I kd hd) λv1 m1 e1=>?_;refine An (ET hr I kS hS) λv2 m2 e2=>?_;refine An (ET hr I kt ht) λv3 m3 e3=>?_;refine up ?_;obtain rfl:=Af e1;obtain rfl:=Af e2;obtain rfl:=Af e3;refine CT λGG up=>?_;refine Ax (C.list vS) λw1 j1 hm1 f1=>?_;refine A3 (List.map_eq_append_iff.mp f1) λw2 w3 ho2 f2 f3=>?_;subst ho2;refine An (Bf f3) λy ho1 f4=>?_;subst ho1;refine oE (AB f4) λt4 ho1=>?_;subst ho1;refine up ?_;refine wpAny_execs_cons (wpAny_Delete (wpAny_deleteEach_cons (wpAny_delete_Subscript (bT F hk hL ((ekd _).trans kd) (bd _ (by simp)) m1 (Wh F Nw hk hL ((ekd _).trans kS) (bd _ (by simp)) m2 hl hm1 (by refine Aa (AP f2) ?_;exact Nat.le_trans z1 (by decide)) λh1 F1 N1=>?_)))));refine CT λGG up=>?_;obtain⟨e9,A1⟩:True∧At c' ps (put sk (.lst vs) led) { c'.s with heap:=h1,toks:=tk }:=⟨trivial,DA F1 N1 C I vS ⟨_,_,rfl,f2⟩⟩;clear hs F Nw C I N1 F1 m1 m2 m3;obtain⟨h,tk,m,con,es,F,Nw,C,I⟩:=A1.ex;refine up ?_;rw[es];refine CT λGG up=>?_;refine An (ET hr I kd hd) λv2 m2 e2=>?_;refine An (ET hr I kt ht) λv3 m3 e3=>?_;refine up ?_;obtain rfl:=Af e2;obtain rfl:=Af e3;refine BY (C _ _ (Ab vD n1)) λo hm l hdi el=>?_;refine MS F Nw hm (by rw[hw] at hdi;exact hdi) ?_ (by rw[← el,List.length_map] at z3;exact z3) λh2 o2 F2 N2 d2=>wpAny_deleteEach_nil ?_
 ·rw[← el,Bv] at hx
  cases e5:valueAt l k with
  |none=>rw[e5] at hx;contradiction
  |some _=>rfl
 have A2:At c' ps (put D (.dct (without kvs k)) (put sk (.lst vs) led)) { c'.s with heap:=h2,toks:=tk+1 }:=DA F2 N2 C I (Ab vD n1) ⟨_,by refine Aa hw ?_;exact d2,by refine AV el ?_;exact Jt⟩;clear F Nw C I N2 F2 m2 m3;obtain⟨h,tk,m,con,es2,F,Nw,C,I⟩:=A2.ex;show wpAny _ _ _ _ _ { c'.s with heap:=h2,toks:=_ };refine Aa es2 ?_;refine An (ET hr I kt ht) λv3 m3 e3=>?_;obtain rfl:=Af e3;refine CT λGG up=>?_;refine Ax (C.list (Ab (Ab vt n2) n3)) λw1 j1 hm1 f1=>?_;refine A3 (List.map_eq_append_iff.mp f1) λw2 w3 ho2 f2 f3=>?_;subst ho2;refine An (Bf f3) λy ho1 f4=>?_;subst ho1;refine up ?_;refine wpAny_execs_cons (wpAny_Expr_any (Wh F Nw hk hL ((ekd _).trans kt) (bd _ (by simp)) m3 hl2 hm1 (by refine Aa (AP f2) ?_;exact Nat.le_trans z2 (by decide)) λh1 F1 N1=>wpAny_execs_nil ?_) (by
  unfold interactive;refine(?_:(c.env.scope.kind == .module&&_)=false);refine Aa hk ?_;rfl))
 exact q _ ps _ (DA (o:=.lst us) F1 N1 C I (Ab (Ab vt n2) n3) ⟨_,_,rfl,f2⟩) hN
theorem Lb{α:Type}{M:Model}{A:Around}{x:Sem α}{Q:α→Shared→Prop}{E:Value→Shared→Prop}(h:wpAny M A x Q (λz_ z_=>False) s):wpAny M A x Q E s:=wpAny_mono h (λz_ z_ h=>h) λz_ z_ h=>h.elim
theorem Zt{w:World}{A:Around}{E:Value→Shared→Prop}{env:Env}{x:Str}{xp ap:Pos}{value:Expr}{Q:Flow→Shared→Prop}(hc:Dw value=true)(h:wpAny (model PW w) A (eval value env) (λv s1=>wpAny (model PW w) A (storeName env x v) (λz_ s2=>Q .next s2) E s1) E s):wpAny (model PW w) A (exec (.Assign [.Name x xp] value ap) env) Q E s:=by
 refine Aa (exec_Assign ..) ?_;refine wpAny_bind (wpAny_standAt ?_);have hs1:swapsWithSole [.Name x xp] value ap.line env=pure false:=show swapsWith value (some (.Name x xp)) ap.line env=pure false from DJ hc
 refine Aa hs1 ?_;refine wpAny_bind (wpAny_pure ?_);refine Aa (if_neg (by decide)) ?_;refine wpAny_bind (wpAny_mono h (λv s1 h1=>?_) λz_ z_ e=>e);refine Aa (rfl:swappedStores [.Name x xp] value env=pure none) ?_;refine wpAny_bind (wpAny_pure ?_);refine Aa (rfl:assignStores env v none ((assignEach [.Name x xp] env).map (·.2))=(do assignAll v [assign (.Name x xp) env];pure .next)) ?_;exact wpAny_bind (PyProof.Rows.assign_Name (wpAny_mono h1 (λz_ s' x=>wpAny_pure x) λz_ z_ x=>x))
theorem Nx(n:Nat)(tc:Tc c){x:Str}{xp cp ap bp np hp tp:Pos}{f:Expr}{b₀:Stmt}{suite:List Stmt}{q I l:Addr}{i:Nat}{vs:List Value}(hf:∀c':Cf cs,c'.rd=none→(Ci n c' ps).e f led λv l1=>v = .ref q∧l1=led)(hq:led q=some (TR I))(hI:led I=some (OW l i))(hl:led l=some (.lst vs))(h1:∀v,vs[i]?=some v→X.brk (pc x v ps) (put I (OW l (i+1)) led))(h2:vs.length≤i→TO c ps (del I led) (b₀::suite) N)(hx:Ft cs x=true)(hx9:cs.names.lookup ("StopIteration":Str)=some .globalImplicit)(hnc:Dw (.Call f [] [] cp)=true:=by rfl)(he:∀env,eval (.Call f [] [] cp) env=(do callWith cp (← eval f env) [] (backTo cp (starEach [] env)) (backToKw cp (keywordEach [] env))):=by intro _;rfl) :
  BM c X ps (exec (.Try [.Assign [.Name x xp] (.Call f [] [] cp) ap,.Break bp] [.ExceptHandler (some (.Name "StopIteration" np)) none (b₀::suite) hp] [] [] tp) c.env) led N:=by
 rintro s ⟨g,t,hs⟩ Q' k;refine wpAny_Try_except (wpAny_execs_cons (Zt hnc (Call_ (Lb (((A6 n).e _ _ _ (hf (c.tn g t).nv tc.rd)).wp (At.nv.mpr hs) λv s1 l1 a1 k1=>?_)) (he _))));refine oA k1 λe1 ho1=>?_;subst ho1;obtain rfl:=Af e1;obtain⟨h,tk,m,con,F,Nw,C,J⟩:=At.nv.mp a1;refine An (C _ _ hq) λo1 hm1 d1=>?_;obtain rfl:o1=CB I:=d1;refine CT λGG up=>?_;refine An (C _ _ hI) λoI hm2 hLi=>?_;refine Ax (C.list hl) λws z hm3 ew=>?_;refine up ?_;refine IV Nw hm1 ?_;by_cases hlt:i<ws.length
 ·have hv:vs[i]?=some (er ws[i]):=by refine AV ew ((List.getElem?_map).trans (Aa (List.getElem?_eq_getElem hlt) ?_));rfl
  refine Js F Nw hm1 hm2 hLi hm3 (List.getElem?_eq_getElem hlt) λh' oI' F' N' hLi'=>?_;refine Lb (BU (c:=(c.tn g t).nv) tc.rd (At.nv.mpr (DA (c:=c.tn g t) (o:=OW l (i+1)) F' N' C J hI hLi')) hx λs4 h4=>?_);exact wpAny_execs_cons (wpAny_Break (k .brk _ ⟨g,t,_,_,At.nv.mp h4,h1 _ hv⟩))
 ·have hi:vs.length≤i:=by refine AV (AP ew) ?_;exact Nat.not_lt.mp hlt
  refine LK rfl F Nw hm1 hm2 hLi hm3 (Nat.not_lt.mp hlt) λh1 h' e F1 N1 hx0=>?_;have he:c.env=envOf c.cn cs c.L c.a c.ccd:=by refine((c.own tc.rd).1).trans (Aa tc.cl ?_);rfl
  have top:c.A=c.A₀.deeper (envOf c.cn cs c.L c.a c.ccd):=by refine AV he ?_;exact tc.top
  have:=IU (w:=c.w) (E:=c.E) (Q:=Q') (np:=np) (b₀:=b₀) (suite:=suite) (pos:=hp) (rest:=[]) (T':="StopIteration") (name:=c.cn) (scope:=cs) (a:=c.a) (cd:=c.ccd) (g₀:=c.h₀) (L:=c.L) (s':={ c.s with heap:=h',toks:=tk }) hx0 F1 N1 t.B tc.bs.X tc.bs.P t.D t.T (by k_is) PyProof.Rows.Boot.«StopIteration» (by decide) JU G4 JT (λh6 g6 T6 F6 N6 B6 X6 P6 D6=>?_) c.hk hx9 (by decide) (by refine AV he (AV tc.top ?_);exact tc.pass _)
  ·rw[← he,← tc.top] at this;exact this
  ·refine AV he (AV tc.top ?_);have t6:Tn c g6:=⟨T6,B6,X6,P6,D6⟩;have nI:∀z∈con,l1 z.1=none→z∈off I con:=λz hz e=>AS hz λe2=>by rw[e2,hI] at e;contradiction
   refine h2 hi (c.tn g6 t6) rfl tc.rd rfl e _ ⟨h6,tk,m,off I con,F6,N6,λa o e=>?_,FP.tn (J.nt.step nI λz hz e=>?_)⟩ Q' c.E λs' ps' l' a' n'=>k .next s' ⟨g6,t6,ps',l',a',n'⟩
   ·unfold del at e;split at e
    ·contradiction
    ·rename_i n;refine An (C a o e) λo' h1 h2=>?_;exact⟨o',AS h1 n,h2⟩
   ·unfold del;split
    ·rfl
    ·exact e
end
structure En where
 a:Nat
 p:Nat
 I:Addr
 q:Addr
noncomputable def En.st(e:En):Nat×Nat:=(e.a,e.p)
noncomputable def Hk(E:List En):List (Nat×Nat):=E.map En.st
theorem Ia{E:List En}:(Hk E).map (·.1)=E.map (·.a):=by unfold Hk;refine Aa List.map_map ?_;rfl
theorem K9{E:List En}:(Hk E).length=E.length:=List.length_map _
noncomputable def HQ(l:List Nat):List (Str×Value):=l.zipIdx.map λp=>(Ah p.1,zV p.2)
theorem FW{l:List Nat}{k:Nat}:HQ (l++[k])=HQ l++[(Ah k,zV l.length)]:=by
 unfold HQ;refine Aa List.zipIdx_append (Aa List.map_append ?_);simp
theorem Lj{l:List Nat}:(HQ l).length=l.length:=by unfold HQ;simp
theorem N8{α:Type}{P:List α→Prop}(nil:P [])(snoc:∀l a,P l→P (l++[a]))(l:List α):P l:=by
 have:∀r:List α,P r.reverse:=λr=>by
  induction r with
  |nil=>exact nil
  |cons a r ih=>refine Aa List.reverse_cons ?_;exact snoc _ _ ih
 have h:=this l.reverse
 rwa [List.reverse_reverse] at h
theorem H2{l:List Nat}(hl:∀k∈l,k<4){k:Nat}(hk:k<4):(k∉l→valueAt (HQ l) (Ah k)=none)∧(k∈l→∃j:Nat,j<l.length∧valueAt (HQ l) (Ah k)=some (zV j)):=by
 induction l using N8 with
 |nil=>exact⟨λz_=>rfl,λh=>by contradiction⟩
 |snoc l b ih=>
  refine oA (ih λx hx=>hl x (List.mem_append_left _ hx)) λi1 i2=>?_;have hb:b<4:=hl b (by simp);refine Aa FW (Aa Hg ?_);by_cases hm:k∈l
  ·refine An (i2 hm) λj hj e=>?_;refine Aa e ?_;exact⟨λq=>absurd (List.mem_append_left _ hm) q,λz_=>⟨j,by simp;exact aN (za (zv 0) (zn 1)) (za (zv 1) (zn 1)) [(0,1,za (zv 0) (zn 1),zv 1)] rfl (Az _ _) Ae hj,rfl⟩⟩
  ·refine Aa (i1 hm) ?_;by_cases e:b=k
   ·subst e;exact⟨λq=>absurd (by simp) q,λz_=>⟨l.length,by simp,by simp⟩⟩
   ·have e2:¬Ah b=Ah k:=λq=>e (DG hb hk q);refine⟨λz_=>by simp[e2],λq=>?_⟩;rcases List.mem_append.mp q with q | q
    ·exact absurd q hm
    ·exact absurd (List.mem_singleton.mp q).symm e
theorem IG(hl:∀j∈l++[k],j<4)(hn:k∉l):without (HQ (l++[k])) (Ah k)=HQ l:=by
 have e2:∀{m:List Nat},(∀j∈m,j<4∧j≠k)→List.filter (λp=>decide (p.1≠Ah k)) (HQ m)=HQ m:=λ{m} h=>by
  rw[List.filter_eq_self];intro p hp;refine An (List.mem_map.mp hp) λho0 h1 ho2=>?_;obtain⟨j,i⟩:=ho0;subst ho2;have hj:j∈m:=(List.mem_zipIdx' h1).2▸List.getElem_mem _;exact decide_eq_true λq=>(h j hj).2 (DG (h j hj).1 (hl k (by simp)) q)
 refine Aa FW ?_;unfold PySem.without;refine Aa (List.filter_append ..) (Aa (e2 λj hj=>⟨hl j (by simp[hj]),λe=>hn (e▸hj)⟩) ?_);simp
theorem NZ(h:i≠j):AO.pr i P ≠ .pr j Q:=λe=>by cases e;exact h rfl
structure Nn(base l:Lg)(sk it sn ns:Addr)(su:Nat→Addr)(fin:List Nat)(E:List En):Prop where
 ex:Am base l
 hsk:l sk=some (.lst (E.map λe=>BC e.a))
 hit:l it=some (.lst (E.map λe=>.ref e.q))
 hsn:∃S,l sn=some (.set S (fin.length+E.length))∧∀k,k<4→S (Ah k)=decide (k∈fin++E.map (·.a))
 hns:l ns=some (.dct (HQ (E.map (·.a))))
 hI:∀e∈E,l e.I=some (OW (su e.a) e.p)
 hq:∀e∈E,l e.q=some (TR e.I)
 nd:(E.map (·.I)).Nodup
 bs:base sk=none∧base it=none∧base sn=none∧base ns=none
 bI:∀e∈E,base e.I=none
 lo:(ns==sysModules)=false
 ap:sk≠it
section
variable{E:List En}
theorem Nn.next(C:Nn base l sk it sn ns su fin (E++[⟨a,p,I,q⟩])):Nn base (put I (OW (su a) (p+1)) l) sk it sn ns su fin (E++[⟨a,p+1,I,q⟩]):=by
 have bI0:=C.bI ⟨a,p,I,q⟩ (by simp);have nd:=C.nd;simp only[List.map_append,List.map_cons,List.map_nil] at nd;have eA:(E++[(⟨a,p+1,I,q⟩:En)]).map (·.a)=(E++[(⟨a,p,I,q⟩:En)]).map (·.a):=by refine Aa List.map_append (Aa List.map_append ?_);rfl
 refine An C.hsn λS h1 h2=>?_;have kp:∀{b:Addr} {o:AO},l b=some o→(∀P,o ≠ .pr 6 P)→put I (OW (su a) (p+1)) l b=some o:=λh n=>Ab h (Aj h (C.hI ⟨a,p,I,q⟩ (by simp)) (n _));refine⟨λb o h=>Ab (C.ex _ _ h) (Ag h bI0),kp (by have:=C.hsk;simp at this ⊢;exact this) (λP e=>by contradiction),kp (by have:=C.hit;simp at this ⊢;exact this) (λP e=>by contradiction),⟨S,kp (by refine Aa h1 ?_;simp) (λP e=>by contradiction),by refine Aa eA ?_;exact h2⟩,kp (by refine Aa eA ?_;exact C.hns) (λP e=>by contradiction),λe he=>?_,λe he=>?_,by simpa using nd,C.bs,λe he=>?_,C.lo,C.ap⟩
 ·rcases List.mem_append.mp he with he | he
  ·exact Ab (C.hI e (List.mem_append_left _ he)) ((λe he h=>(List.nodup_append.mp nd).2.2 _ (List.mem_map_of_mem he) I (by simp) h) e he)
  ·refine Aa (List.mem_singleton.mp he) ?_;exact Ac
 ·rcases List.mem_append.mp he with he | he
  ·exact kp (C.hq e (List.mem_append_left _ he)) λP=>NZ (by decide)
  ·refine Aa (List.mem_singleton.mp he) ?_;exact kp (C.hq ⟨a,p,I,q⟩ (by simp)) λP=>NZ (by decide)
 ·rcases List.mem_append.mp he with he | he
  ·exact C.bI e (List.mem_append_left _ he)
  ·refine Aa (List.mem_singleton.mp he) ?_;exact bI0
theorem Nn.pop(C:Nn base l sk it sn ns su fin (E++[e])):Nn base (put it (.lst (E.map λe=>.ref e.q)) (put ns (.dct (HQ (E.map (·.a)))) (put sk (.lst (E.map λe=>BC e.a)) (del e.I l)))) sk it sn ns su (fin++[e.a]) E:=by
 refine An C.hsn λS h1 h2=>?_;have hI0:=C.hI e (by simp);have nd:=C.nd;simp only[List.map_append,List.map_cons,List.map_nil] at nd;refine Ht C.bs λb1 b2 b3 b4=>?_;have kp:∀{b:Addr} {o:AO},l b=some o→b≠it→b≠ns→b≠sk→b≠e.I→put it (.lst (E.map λe=>.ref e.q)) (put ns (.dct (HQ (E.map (·.a)))) (put sk (.lst (E.map λe=>BC e.a)) (del e.I l))) b=some o:=λh n1 n2 n3 n4=>Ab (Ab (Ab ((EW n4).trans h) n3) n2) n1;refine⟨λb o h=>kp (C.ex _ _ h) (Ag h b2) (Ag h b4) (Ag h b1) (Ag h (C.bI e (by simp))),Ab (Ab Ac (Aj C.hsk C.hns λe=>by contradiction)) C.ap,Ac,⟨S,?_,λk hk=>?_⟩,Ab Ac (Aj C.hns C.hit λe=>by contradiction),λd hd=>?_,λd hd=>?_,(List.nodup_append.mp nd).1,C.bs,λd hd=>C.bI d (List.mem_append_left _ hd),C.lo,C.ap⟩
 ·refine kp (o:=.set S _) ?_ (Aj h1 C.hit λe=>by contradiction) (Aj h1 C.hns λe=>by contradiction) (Aj h1 C.hsk λe=>by contradiction) (Aj h1 hI0 λe=>by contradiction);refine Aa h1 ?_;simp only[List.length_append,List.length_cons,List.length_nil];congr 2;exact Nat.le_antisymm (aN (za (zv 0) (za (zv 1) (za (zn 0) (zn 1)))) (za (za (zv 0) (za (zn 0) (zn 1))) (zv 1)) [] rfl (Az _ _) Ae) (aN (za (za (zv 0) (za (zn 0) (zn 1))) (zv 1)) (za (zv 0) (za (zv 1) (za (zn 0) (zn 1)))) [] rfl (Az _ _) Ae)
 ·refine Aa (h2 k hk) ?_;simp only[List.map_append,List.map_cons,List.map_nil,List.mem_append,List.mem_singleton];refine decide_eq_decide.mpr ⟨?_,?_⟩
  ·rintro (h | h | h)
   ·exact .inl (.inl h)
   ·exact .inr h
   ·exact .inl (.inr h)
  ·rintro ((h | h) | h)
   ·exact .inl h
   ·exact .inr (.inr h)
   ·exact .inr (.inl h)
 ·have h:=C.hI d (List.mem_append_left _ hd);exact kp h (Aj h C.hit λe=>by contradiction) (Aj h C.hns λe=>by contradiction) (Aj h C.hsk λe=>by contradiction) ((λd hd h=>(List.nodup_append.mp nd).2.2 _ (List.mem_map_of_mem hd) e.I (by simp) h) d hd)
 ·have h:=C.hq d (List.mem_append_left _ hd);exact kp h (Aj h C.hit λe=>by contradiction) (Aj h C.hns λe=>by contradiction) (Aj h C.hsk λe=>by contradiction) (Aj h hI0 (NZ (by decide)))
theorem AF{a b:Addr}{o:AO}(h:put a o l b=none):l b=none∧b≠a:=by
 unfold put at h;split at h
 ·contradiction
 ·exact⟨h,by assumption⟩
theorem Nn.push{c:Nat}{I q:Addr}{S:Str→Bool}{o1 o2:AO}(C:Nn base l sk it sn ns su fin E)(h4:∀e∈E,e.a<4)(hc:c<4)(hn:c∉E.map (·.a))(hS:l sn=some (.set S (fin.length+E.length)))(hS2:∀k,k<4→S (Ah k)=decide (k∈fin++E.map (·.a)))(hS0:S (Ah c)=false)(hI:put sn o1 l I=none)(hq:put I o2 (put sn o1 l) q=none) :
  Nn base (put sk (.lst (E.map (λe=>BC e.a)++[BC c])) (put ns (.dct (stored (HQ (E.map (·.a))) (Ah c) (zV E.length))) (put it (.lst (E.map (λe=>.ref e.q)++[.ref q])) (put q (TR I) (put I (OW (su c) 0) (put I o2 (put sn (.set (λk'=>S k'||decide (k'=Ah c)) (if S (Ah c) then fin.length+E.length else fin.length+E.length+1)) l))))))) sk it sn ns su fin (E++[⟨c,0,I,q⟩]):=by
 refine oA (AF hI) λlI nIs=>?_;refine oA (AF hq) λhq2 nqI=>?_;refine oA (AF hq2) λlq nqs=>?_;refine Ht C.bs λb1 b2 b3 b4=>?_;have ne:∀{b:Addr} {o:AO},l b=some o→b≠I∧b≠q:=λh=>⟨Ag h lI,Ag h lq⟩
 have kp:∀{b:Addr} {o x1 x2 x3 x4 x5 x6 x7:AO},l b=some o→b≠sk→b≠ns→b≠it→b≠sn→put sk x1 (put ns x2 (put it x3 (put q x4 (put I x5 (put I x6 (put sn x7 l)))))) b=some o:=λh k1 k2 k3 k4=>Ab (Ab (Ab (Ab (Ab (Ab (Ab h k4) (ne h).1) (ne h).1) (ne h).2) k3) k2) k1;have hst:stored (HQ (E.map (·.a))) (Ah c) (zV E.length)=HQ (E.map (·.a)++[c]):=by
  exact Aa FW (Aa (stored_absent ((H2 (λk hk=>(An (List.mem_map.mp hk) λe he q=>q▸h4 e he)) hc).1 hn) ..) (Aa (List.length_map ..) rfl))
 refine⟨λb o h=>kp (C.ex _ _ h) (Ag h b1) (Ag h b4) (Ag h b2) (Ag h b3),?_,?_,⟨λk'=>S k'||decide (k'=Ah c),?_,λk hk=>?_⟩,?_,λe he=>?_,λe he=>?_,?_,C.bs,λe he=>?_,C.lo,C.ap⟩
 ·refine Aa List.map_append ?_;exact Ac
 ·refine Aa List.map_append ?_;exact Ab (Ab Ac (Ne.symm (Aj C.hns C.hit λe=>by contradiction))) (Ne.symm C.ap)
 ·refine(Ab (Ab (Ab (Ab (Ab (Ab Ac (Ne.symm nIs)) (Ne.symm nIs)) (Ne.symm nqs)) (Aj hS C.hit λe=>by contradiction)) (Aj hS C.hns λe=>by contradiction)) (Aj hS C.hsk λe=>by contradiction)).trans ?_;refine Aa hS0 (Aa List.length_append ?_);rfl
 ·dsimp only;refine Aa (hS2 k hk) (Aa List.map_append (AV (List.append_assoc ..) ?_));by_cases e:k=c
  ·subst e;simp
  ·have e2:¬Ah k=Ah c:=λq=>e (DG hk hc q);simp[e,e2]
 ·refine Aa hst (Aa List.map_append ?_);exact Ab Ac (Ne.symm (Aj C.hsk C.hns λe=>by contradiction))
 ·rcases List.mem_append.mp he with he | he
  ·have h:=C.hI e he;exact kp h (Aj h C.hsk λe=>by contradiction) (Aj h C.hns λe=>by contradiction) (Aj h C.hit λe=>by contradiction) (Aj h hS λe=>by contradiction)
  ·refine Aa (List.mem_singleton.mp he) ?_;exact Ab (Ab (Ab (Ab Ac (Ne.symm nqI)) (Ne.symm (ne C.hit).1)) (Ne.symm (ne C.hns).1)) (Ne.symm (ne C.hsk).1)
 ·rcases List.mem_append.mp he with he | he
  ·have h:=C.hq e he;exact kp h (Aj h C.hsk λe=>by contradiction) (Aj h C.hns λe=>by contradiction) (Aj h C.hit λe=>by contradiction) (Aj h hS λe=>by contradiction)
  ·refine Aa (List.mem_singleton.mp he) ?_;exact Ab (Ab (Ab Ac (Ne.symm (ne C.hit).2)) (Ne.symm (ne C.hns).2)) (Ne.symm (ne C.hsk).2)
 ·rw[List.map_append,List.nodup_append];refine⟨C.nd,by simp,λa ha b hb e=>?_⟩;refine An (List.mem_map.mp ha) λd hd ho2=>?_;subst ho2;rw[List.map_singleton,List.mem_singleton] at hb;exact(ne (C.hI d hd)).1 (e.trans hb)
 ·rcases List.mem_append.mp he with he | he
  ·exact C.bI e he
  ·refine Aa (List.mem_singleton.mp he) ?_;exact Ak C.ex lI
end
section
variable{c:Cf cs}{K:Value→Lg→Prop}
noncomputable def bZ(D:Addr):AO:=.pr 7 (· = { cls:=.type "list_iterator",data:=.fields #[.ref D,.int 0 0] })
theorem At.soft(h:At c ps led s)(hD:led D=some o)(hi:∀x,o.Is c.w x→o'.Is c.w x):At c ps (put D o' led) s:=by
 obtain⟨h,tk,m,con,F,Nw,C,I⟩:=h;refine An (C _ _ hD) λo₀ hm h0=>?_;refine⟨h,tk,m,con,F,Nw,λb p hb=>?_,I.step (λq hq z_=>hq) λq hq e=>A0 e λe2=>by rw[e2,hD] at e;cases e⟩;unfold Mine.Internal.put at hb;split at hb
 ·rename_i e;obtain rfl:=Option.some.inj hb;exact⟨o₀,e▸hm,hi _ h0⟩
 ·exact C _ _ hb
theorem PN(hv:led D=some (.lst vs))(hk:∀I,led I=none→K (.ref I) (put I (bZ D) led)):A4 c ps (.builtin "iter") [.ref D] led K:=λf' vs' ef ev=>by
 obtain rfl:=Aq ef;refine An (Bf ev) λv1 ho1 e1=>?_;subst ho1;obtain rfl:=Af e1;refine Cz hk λh tk m con Q' F N C q=>?_;refine Ax (C.list hv) λws n hm e=>?_;exact R7 F N hm λI h' F' N' lt=>q I h' tk _ rfl F' N' lt
theorem PX(hv:led I=some (bZ D))(hk:∀q,led q=none→K (.ref q) (put q (TR I) (put I (OW D 0) led))):Fl "__next__" c ps (.ref I) led K:=λa' ea s hs Q' q=>by
 obtain rfl:=Af ea;obtain⟨h,tk,m,con,F,N,C,J⟩:=hs;refine An (C _ _ hv) λo hm d=>?_;obtain rfl:o={ cls:=.type "list_iterator",data:=.fields #[.ref D,.int 0 0] }:=d;refine JF F N hm λx h' F' N' lt=>?_;have lx:led x=none:=C.none lt;refine oA (C3 (tk:=tk+1) (o:=TR I) F' N' C J lt rfl) λe1 e2=>?_;have nx:I≠x:=Ag hv lx;have A2:=At.soft (D:=I) (o':=OW D 0) e2 (Ab hv nx) λx e=>by cases e;exact⟨rfl,rfl⟩
 refine q (.ref x) _ _ ?_ (hk x lx);have:put x (TR I) (put I (OW D 0) led)=put I (OW D 0) (put x (TR I) led):=by
  funext b
  unfold put;split
  ·rename_i e;exact Aa (if_neg (λe2=>nx (e2.symm.trans e))) rfl
  ·rfl
 refine Aa this ?_;exact A2
theorem RM(n:Nat)(h:(Ci n c ps).e o led λa l1=>Fl nm c ps a l1 K)(he:∀env,eval (.Attribute o nm p) env=(do
   let o' ← eval o env
   standAt p.atName
   let r ← holding [o'] (getAttr o' nm true)
   letTemporaryGo o o' r
   pure r):=by intro _;with_unfolding_all rfl):Gq (.Attribute o nm p) c ps led K:=⟨λz_ hs z_ q=>Attribute_any_ (((A6 n).e _ _ _ h).wp hs λa z_ z_ h1 k1=>(k1 a rfl).wp h1 q) (he _)⟩
theorem MU{o₀:Obj}{kvs:List (Str×Value)}{k:Str}{v s:Expr}{u:Value}(hi:(AO.dct kvs).Is c.w o₀)(hv:led D=some (Gu o₀))(hx:valueAt kvs k=some u)(hk:K u led)(hn:Ir v=true:=by rfl)(hs:Dv s=true:=by rfl):Jh v s c ps (.ref D) (.str k 0) led K:=λa' b' ea eb=>by
 obtain rfl:=Af ea;refine oE (AB eb) λt ho1=>?_;subst ho1;refine A9 hk λh tk m con Q' F N V q=>?_;refine An (V _ _ hv) λo hm d=>?_;obtain rfl:o=o₀:=d;refine An hi λl hd e=>?_;rw[← e,Bv] at hx;refine An (Option.map_eq_some_iff.mp hx) λu' h1 h2=>?_;exact Gg N hm hd h1 (q _ _ h2) (CA hs) λz_=>Ep hn
end
section
theorem BM.cutJ(k m n:Nat)(J:PS→Lg→Prop){code:List Stmt}(hr:c.rd=none)(h:∀c':Cf cs,c'.rd=none→DD c c'→c'.w=c.w→HS n m c' X (code.take k) ps led J)(h2:∀ps' l,J ps' l→BM c X ps' (execs (code.drop k) c.env) l N):BM c X ps (execs code c.env) led N:=by
 have:=BM.app (c:=c) (pre:=code.take k) (rest:=code.drop k) λg t=>(Du (c:=c.tn g t) hr n m (h (c.tn g t) hr ⟨rfl,rfl,rfl⟩ rfl)).next h2
 rwa [List.take_append_drop] at this
theorem BM.cut(k m n:Nat){code:List Stmt}(hr:c.rd=none)(h:∀c':Cf cs,c'.rd=none→DD c c'→c'.w=c.w→HS n m c' X (code.take k) ps led λps' l=>BM c X ps' (execs (code.drop k) c.env) l N):BM c X ps (execs code c.env) led N:=BM.cutJ k m n _ hr h λz_ z_ h=>h
theorem OR{x:Str}{v:Value}:∀{ns:List Str},ns.all (λn=>!(n==x))=true→BR (pc x v ps) ns=BR ps ns:=by
 intro ns
 induction ns with
 |nil=>exact λ_=>rfl
 |cons n ns ih=>
  intro h;rw[List.all_cons,Bool.and_eq_true] at h;refine(?_:(pc x v ps).lookup n::BR (pc x v ps) ns=ps.lookup n::BR ps ns);refine Aa (ih h.2) ?_;unfold pc;exact Aa List.lookup_cons (Aa (by simpa using h.1:(n==x)=false) rfl)
end
noncomputable def G2(E:List En):List Nat:=E.map (·.a)
noncomputable abbrev N6:List Str:=["self","n2i","stack","itstack","seen","node2stacki"]
section
variable{K:Value→Lg→Prop}{G:Gr}
theorem H3{fin:List Nat}{E:List En}{o:Option Nat}(V:Dfs.Inv G.succ G.nodes fin (Hk E) o)(lt:∀k∈G.nodes,k<4):fin.length+E.length≤4:=by
 have:=RA V lt
 rwa [K9] at this
structure CyW(b l:Lg)(sk it sn ns:Addr)(su:Nat→Addr)(G:Gr)(T:List Nat)(fin:List Nat)(E:List En)(o:Option Nat):Prop where
 C:Nn b l sk it sn ns su fin E
 V:Dfs.Inv G.succ G.nodes fin (Hk E) o
 dn:∀v∈T,v∈fin
structure CyX(b l:Lg)(sk it sn ns:Addr)(su:Nat→Addr)(G:Gr)(T:List Nat)(y k:Nat)(s:List Nat×List En×Nat):Prop where
 C:Nn b l sk it sn ns su s.1 s.2.1
 V:Dfs.Inv G.succ G.nodes s.1 (Hk s.2.1) (some s.2.2)
 G:s.2.2∈G.nodes
 dn:∀v∈T,v∈s.1
 h0:y∈s.1∨y∈G2 s.2.1∨y=s.2.2
 m:Er s.1 (Hk s.2.1)=k
structure CyY(b l:Lg)(sk it sn ns:Addr)(su:Nat→Addr)(G:Gr)(T:List Nat)(y k k':Nat)(s:List Nat×List En):Prop where
 C:Nn b l sk it sn ns su s.1 s.2
 V:Dfs.Inv G.succ G.nodes s.1 (Hk s.2) none
 dn:∀v∈T,v∈s.1
 h0:y∈s.1∨y∈G2 s.2
 m:Er s.1 (Hk s.2)=k'
 le:k'≤k
theorem Sa(tc:Tc c)(room:AU c 40 400)(hx:led x=some (.ins 362 dx))(hdx:led dx=some (.att (No D r pv fv)))(R:Dg base led D kvs G inf su dd)(lo:(D==sysModules)=false)(hsu:∀k∈G.nodes,∀s∈G.succ k,s∈G.nodes)(hB:∀k∈G.nodes,(G.succ k).length≤1000)(hk0:∀l,Am led l→(∀S,Dfs.Ring G.succ S→(∀v∈S,v∈G.nodes)→False)→K .none l)(hk1:∀l L vs,Am led l→l L=some (.lst vs)→vs≠[]→vs.length≤5→(∃S,Dfs.Ring G.succ S∧∀v∈S,v∈G.nodes)→K (.ref L) l):Qq c ps (.ref 352) [.ref x] C KE led K:=by
 refine' Lu ["self"] tc.bs tc.cl ?ho ?hcd ?hb ?hl ?c1 ?c2 ?c3 ?c4 ?room ?_
 case ho=>k_is
 case hcd=>k_is
 case hb=>exact CL λs X z_=>BindsTo.of_eq rfl
 case hl=>decide
 case c1=>rfl
 case c2=>rfl
 case c3=>rfl
 case c4=>rfl
 case room=>exact Nat.lt_of_le_of_lt (Nat.le_add_right _ _) room.1
 intro c hd hu tc hE;have hr:=tc.rd;refine BM.cut 5 30 30 hr λc' hr' lk hw=>?_;refine AA hx hdx rfl ?_ (rfl);refine Ay λsk hsk=>?_;refine Ay λit hit=>?_;refine Hl λsn hsn=>?_;refine E6 λns hns lons=>?_;generalize hl1:put ns (.dct []) (put sn (.set (λz_=>false) 0) (put it (.lst []) (put sk (.lst []) led)))=led1;have e1:Am led led1:=by refine AV hl1 ?_;exact(((Am.put hsk).trans (Am.put hit)).trans (Am.put hsn)).trans (Am.put hns)
 have k1:led1 sk=some (.lst [])∧led1 it=some (.lst [])∧led1 sn=some (.set (λz_=>false) 0)∧led1 ns=some (.dct []):=by refine AV hl1 ?_;exact⟨(by repeat (first | exact Ac | refine Ad ?_ (by assumption))),(by repeat (first | exact Ac | refine Ad ?_ (by assumption))),(by repeat (first | exact Ac | refine Ad ?_ (by assumption))),(by repeat (first | exact Ac | refine Ad ?_ (by assumption)))⟩
 have f1:led sk=none∧led it=none∧led sn=none∧led ns=none∧sk≠it:=⟨hsk,(AF hit).1,(AF (AF hsn).1).1,(AF (AF (AF hns).1).1).1,Ne.symm (AF hit).2⟩;clear hl1 hsk hit hsn hns;refine(BM.cons ?_:BM c _ _ _ _ _);clear hw lk hr';refine Vs 30 tc (λo₀ i ps l=>∃fin,CyW (put D (Gu o₀) led) l sk it sn ns su G (G.nodes.take i) fin [] none∧BR ps N6=[some (.ref x),some (.ref D),some (.ref sk),some (.ref it),some (.ref sn),some (.ref ns)]) rfl lo (λg t=>⟨rfl,rfl⟩) (e1 _ _ R.hD) ?h0 ?hJ ?turn ?done
 case h0=>
  intro o₀ _;have ne:∀{b},led b=none→b≠D:=λh e=>by rw[e,R.hD] at h;contradiction
  exact⟨[],⟨⟨CI e1,Ab k1.1 (ne f1.1),Ab k1.2.1 (ne f1.2.1),⟨_,Ab k1.2.2.1 (ne f1.2.2.1),λk hk=>by simp⟩,Ab k1.2.2.2 (ne f1.2.2.2.1),(λz_ h=>by contradiction),(λz_ h=>by contradiction),List.nodup_nil,⟨A0 f1.1 (ne f1.1),A0 f1.2.1 (ne f1.2.1),A0 f1.2.2.1 (ne f1.2.2.1),A0 f1.2.2.2.1 (ne f1.2.2.2.1)⟩,(λz_ h=>by contradiction),lons,f1.2.2.2.2⟩,Dfs.Inv.start,(λv hv=>by simp at hv)⟩,rfl⟩
 case hJ=>exact λo₀ i ps l hX=>An hX λfin C z_=>C.C.ex _ _ Ac
 case done=>
  rintro o₀ ps' l ⟨fin,⟨C,V,hd⟩,_⟩;have hex:Am led (put D (.dct kvs) l):=λb o h=>by
   by_cases e:b=D
   ·subst e;rw[R.hD] at h;obtain rfl:=Option.some.inj h;exact Ac
   ·exact Ab (C.ex _ _ (Ab (e1 _ _ h|>λz_=>h) e)) e
  rw[show kvs.length=G.nodes.length by exact Aa R.keys (Aa (List.length_map ..) rfl),List.take_length] at hd;refine BM.cut 1 30 30 tc.rd λc2 z_ z_ z_=>?_;exact hk0 _ hex λS hr hS=>Dfs.no_ring (List.nodup_append.mp V.nd).1 V.done (λv hv=>hd v (hS v hv)) hr
 case turn=>
  rintro o₀ hi c1 he lk hw1 tc1 i k v ps' l hi2 ⟨fin,⟨C,V,hd⟩,hps⟩;obtain⟨y,hy,rfl⟩:∃y,G.nodes[i]?=some y∧Ah y=k:=by
   rw[R.keys,List.getElem?_map] at hi2
   cases e:G.nodes[i]? with
   |none=>rw[e] at hi2;contradiction
   |some y=>rw[e] at hi2;cases hi2;exact⟨y,rfl,rfl⟩
  clear hi2;have hyG:y∈G.nodes:=List.mem_of_getElem? hy;have hy4:=R.lt y hyG;have etk:G.nodes.take (i+1)=G.nodes.take i++[y]:=by refine Aa List.take_add_one (Aa hy ?_);rfl
  refine BM.weak (q:=(("node":Str)::N6).zip [BC y,.ref x,.ref D,.ref sk,.ref it,.ref sn,.ref ns]) (Bb (by
   refine(?_:(pc _ _ ps').lookup ("node":Str)::BR (pc _ _ ps') N6=_);refine Aa (OR rfl) (Aa hps ?_);rfl)) ?_
  clear hps ps';refine BM.cut 1 30 30 tc1.rd λc2 z_ z_ z_=>?_;refine An C.hsn λS hS hS2=>?_;have z1:=H3 (E:=[]) V R.lt;refine NI hS rfl ?_ (by simp at z1 ⊢;exact aN (za (zv 0) (zn 1)) (zn 1000) [(0,1,zv 0,zn 4)] rfl (Av _) Ae z1);refine BB.mk (λh=>?_) λh=>?_
  ·have hyf:y∈fin:=by
    rw[hS2 y hy4] at h;simpa using h
   exact⟨fin,⟨C,V,λv hv=>by
    rw[etk] at hv;rcases List.mem_append.mp hv with hv | hv
    ·exact hd v hv
    ·refine Aa (List.mem_singleton.mp hv) ?_;exact hyf⟩,rfl⟩
  ·have hyf:y∉fin:=by
    rw[hS2 y hy4] at h;simpa using h
   clear h hS hS2 S z1;refine(BM.cons ?_:BM c1 _ _ _ _ _);refine Kz (σ:=List Nat×List En×Nat) 30 ("node"::N6) (λs=>[BC s.2.2,.ref x,.ref D,.ref sk,.ref it,.ref sn,.ref ns]) (λk s l=>CyX (put D (Gu o₀) led) l sk it sn ns su G (G.nodes.take i) y k s) tc1.rd (Er fin []) (fin,[],y) ⟨C,V.weak y rfl,hyG,hd,.inr (.inr rfl),rfl⟩ rfl ?turn2;clear C V hd hyf fin;rintro k ⟨fin,E,d⟩ l2 ⟨C,V,hdG,hdn,h0,hm⟩ g t;dsimp only at C V hdG hdn h0 hm;refine .t rfl ?_;have hd4:=R.lt d hdG;have hE4:∀v∈G2 E,v<4:=λv hv=>R.lt v (V.sub v (List.mem_append_right _ (by refine Aa Ia ?_;exact hv)));have z1:=H3 V R.lt;refine BM.cutJ 1 30 30 (λps l=>ps=(("node":Str)::N6).zip [BC d,.ref x,.ref D,.ref sk,.ref it,.ref sn,.ref ns]∧∃fin E,Nn (put D (Gu o₀) led) l sk it sn ns su fin E∧Dfs.Inv G.succ G.nodes fin (Hk E) none∧(∀v∈G.nodes.take i,v∈fin)∧(y∈fin∨y∈G2 E)∧Er fin (Hk E)≤k) tc1.rd (λc2 hr2 lk2 hw2=>?first) ?second
   case first=>
    refine An C.hsn λS hS hS2=>?_;refine NI hS rfl ?_ (aC z1);refine BB.mk (λh=>?_) λh=>?_
    ·have hm1:d∈fin∨d∈G2 E:=by
      rw[hS2 d hd4] at h;simpa [G2] using h
     by_cases hin:d∈G2 E
     ·refine An ((H2 hE4 hd4).2 hin) λj hj hv=>?_;refine P4 (r:=true) C.hns C.lo (by refine Aa (show E.map (·.a)=G2 E from rfl) (Aa hv ?_);rfl) (.t rfl ?_);refine P7 30 ?_;refine CJ C.hns hv ?_;refine⟨sk,_,j,rfl,rfl,C.hsk,by refine Aa (List.length_map ..) ?_;exact aN (zv 0) (zn 100000) [(0,1,za (zv 1) (zv 0),zn 4)] rfl (Az _ _) Ae z1,λL1 hL1=>?_⟩;refine Ay λL2 hL2=>?_;refine Hx (Ad Ac hL2) Ac (λL3 hL3=>?_) (by refine Aa List.length_drop (Aa (List.length_map ..) ?_);exact lq7 z1) (Nat.le_of_ble_eq_true rfl);have e3:Am (put D (Gu o₀) led) (put L3 (.lst (List.drop j (E.map λe=>BC e.a)++[BC d])) (put L2 (.lst [BC d]) (put L1 (.lst (List.drop j (E.map λe=>BC e.a))) l2))):=((C.ex.trans (Am.put hL1)).trans (Am.put hL2)).trans (Am.put hL3);have hD3:=e3 D _ Ac;refine⟨hD3,?_⟩;refine hk1 _ L3 (List.drop j (E.map λe=>BC e.a)++[BC d]) (λb o h=>?_) (Ab Ac (λe=>?_)) (by simp) (by refine Aa List.length_append (Aa List.length_drop (Aa (List.length_map ..) ?_));simp only[List.length_cons,List.length_nil];exact lq8 z1) (V.ring (by refine Aa Ia ?_;exact hin))
      ·by_cases e:b=D
       ·subst e;rw[R.hD] at h;obtain rfl:=Option.some.inj h;exact Ac
       ·exact Ab (e3 _ _ (Ab (e1 _ _ h|>λz_=>h) e)) e
      ·rw[← e] at hD3;rw[show put L3 _ _ L3=_ from Ac] at hD3
       (have hq:=Option.some.inj hD3;contradiction)
     ·have hf:=hm1.resolve_right hin;refine P4 (r:=false) C.hns C.lo (by refine Aa (show E.map (·.a)=G2 E from rfl) (Aa ((H2 hE4 hd4).1 hin) ?_);rfl) (.f rfl ?_);exact⟨rfl,fin,E,C,V.skip hf,hdn,(by
       rcases h0 with h | h | h
       ·exact .inl h
       ·exact .inr h
       ·exact .inl (h▸hf)),Nat.le_of_eq hm⟩
    ·have hm1:d∉fin∧d∉G2 E:=by
      rw[hS2 d hd4] at h;simpa [G2] using h
     refine Q8 hS ?_ (aC z1);refine Q9 hS ?_ (aC z1);refine Aw PySem.F.slot_list_append PySem.F.type_list_append (Ab C.hit (Aj C.hit hS λe=>by contradiction)) ?_;refine RM 30 ?_;have kb:∀(o1:AO) b o,put D (Gu o₀) led b=some o→put sn o1 l2 b=some o:=λo1 b o h=>Ab (C.ex _ _ h) (Ag h C.bs.2.2.1);refine MU (o₀:=o₀) (by refine Aa hw2 (Aa hw1 ?_);exact hi) (kb _ _ _ Ac) (Aa (R.at hd4) (Aa (if_pos hdG) rfl)) ?_;refine Dk 268 2 (kb _ _ _ (Ab (R.hi d hdG) (Aj (R.hi d hdG) R.hD λe=>Kf e.symm))) (kb _ _ _ (Ab (R.hd d hdG) (Aj (R.hd d hdG) R.hD λe=>by contradiction))) rfl ?_ (rfl);refine PN (kb _ _ _ (Ab (R.hs d hdG) (Aj (R.hs d hdG) R.hD λe=>E9 e.symm))) λI hI=>?_;refine PX Ac λq hq=>?_;refine oA (AF hI) λlI nIs=>?_;refine oA (AF (AF hq).1) λlq nqs=>?_;have kp:∀{b o x1 x2 x3 x4},l2 b=some o→b≠sn→put q x1 (put I x2 (put I x3 (put sn x4 l2))) b=some o:=λh n=>Ab (Ab (Ab (Ab h n) (Ag h lI)) (Ag h lI)) (Ag h lq);have m2:sk≠sn:=Aj C.hsk hS λe=>by contradiction
     have m4:sk≠ns:=Aj C.hsk C.hns λe=>by contradiction
     refine Au (kp C.hit (Aj C.hit hS λe=>by contradiction)) ?_ (by refine Aa (List.length_map ..) ?_;exact Wv z1);refine H0 E.length (Ab (kp C.hsk m2) C.ap) (Aa (List.length_map ..) rfl) ?_ (Wv z1);refine HA (Ab (kp C.hns (Aj C.hns hS λe=>by contradiction)) (Aj C.hns C.hit λe=>by contradiction)) ?_ (by refine Aa Lj (Aa (List.length_map ..) ?_);exact Wv z1);refine Aw PySem.F.slot_list_append PySem.F.type_list_append (Ab (Ab (kp C.hsk m2) C.ap) m4) ?_;refine Au (Ab (Ab (kp C.hsk m2) C.ap) m4) ?_ (by refine Aa (List.length_map ..) ?_;exact Wv z1);have es:Hk (E++[⟨d,0,I,q⟩])=Hk E++[(d,0)]:=by unfold Hk;refine Aa List.map_append ?_;rfl
     have V2:=V.push hdG hm1.1 (by refine Aa Ia ?_;exact hm1.2);rw[← es] at V2;refine⟨rfl,fin,_,(C.push (I:=I) (q:=q) (c:=d) (λe he=>hE4 _ (List.mem_map_of_mem he)) hd4 hm1.2 hS hS2 h hI hq),V2,hdn,?_,?_⟩
     ·unfold G2;refine Aa List.map_append ?_;rcases h0 with h | h | h
      ·exact .inl h
      ·exact .inr (List.mem_append_left _ h)
      ·subst h;exact .inr (by simp)
     ·refine AV hm (Aa es ?_);refine Nat.le_of_lt (Mq ?_);have:=H3 V2 R.lt;rw[List.length_append] at this ⊢;refine Aa K9 ?_;exact this
   case second=>
    clear C V hdG hdn h0 hm hE4 z1;rintro _ l ⟨rfl,fin,E,C,V,hdn,h0,hm⟩;refine(BM.cons ?_:BM c1 _ _ _ _ _);refine Kz (σ:=List Nat×List En) 30 ("node"::N6) (λs=>[BC d,.ref x,.ref D,.ref sk,.ref it,.ref sn,.ref ns]) (λk' s l=>CyY (put D (Gu o₀) led) l sk it sn ns su G (G.nodes.take i) y k k' s) tc1.rd (Er fin (Hk E)) (fin,E) ⟨C,V,hdn,h0,rfl,hm⟩ rfl ?turn3;clear C V hdn h0 hm E fin;rintro k' ⟨fin,E⟩ l ⟨C,V,hdn,h0,hm,hk⟩ g t;dsimp only at C V hdn h0 hm;have z1:=H3 V R.lt;refine CC C.hsk ?_ (by refine Aa (List.length_map ..) ?_;exact Wv z1);rcases List.eq_nil_or_concat E with rfl | ⟨E,e,rfl⟩
    ·refine .f rfl ?_;refine BM.cut 1 30 30 tc1.rd λc2 z_ z_ z_=>?_;refine Exists.intro ((("node":Str)::N6).zip [BC d,.ref x,.ref D,.ref sk,.ref it,.ref sn,.ref ns]) ⟨Bb rfl,?_⟩;refine(BM.nil ?_:BM c1 _ _ _ _ _);refine⟨fin,⟨C,V,λv hv=>?_⟩,rfl⟩;rw[etk] at hv;rcases List.mem_append.mp hv with hv | hv
     ·exact hdn v hv
     ·refine Aa (List.mem_singleton.mp hv) ?_;exact h0.resolve_right λh=>by contradiction
    ·rw[List.concat_eq_append] at C V h0 hm z1 ⊢;obtain⟨a,p,I,q⟩:=e;refine .t (by simp) ?_;have es:∀p,Hk (E++[⟨a,p,I,q⟩])=Hk E++[(a,p)]:=λp=>by unfold Hk;refine Aa List.map_append ?_;rfl
     have ep:∀p,G2 (E++[⟨a,p,I,q⟩])=G2 E++[a]:=λp=>by unfold G2;refine Aa List.map_append ?_;rfl
     rw[es] at V hm;rw[ep] at h0;have haG:a∈G.nodes:=V.sub a (by simp);have hit':l it=some (.lst (E.map (λe=>Value.ref e.q)++[.ref q])):=by have:=C.hit;rwa [List.map_append] at this
     have hsk':l sk=some (.lst (E.map (λe=>BC e.a)++[BC a])):=by have:=C.hsk;rwa [List.map_append] at this
     have hns':l ns=some (.dct (HQ (G2 E++[a]))):=by have:=C.hns;rwa [show(E++[(⟨a,p,I,q⟩:En)]).map (·.a)=G2 E++[a] from ep p] at this
     have hI:=C.hI ⟨a,p,I,q⟩ (by simp);refine(BM.cons ?_:BM c1 _ _ _ _ _);refine Nx 30 tc1 (f:=.Subscript (.Name "itstack" _) _ _) (λc2 z_=>?_) (C.hq ⟨a,p,I,q⟩ (by simp)) hI (C.ex _ _ (Ab (R.hs a haG) (Aj (R.hs a haG) R.hD λe=>E9 e.symm))) (λv hv=>?_) (λhlen=>?_) rfl rfl
     ·refine Db hit' ?_;exact⟨rfl,rfl⟩
     ·rw[List.getElem?_map] at hv;refine An (Option.map_eq_some_iff.mp hv) λs hs ho2=>?_;subst ho2;have hp:p<1000:=Nat.lt_of_lt_of_le (List.getElem?_eq_some_iff.mp hs).1 (hB a haG);refine Exists.intro ((("node":Str)::N6).zip [BC s,.ref x,.ref D,.ref sk,.ref it,.ref sn,.ref ns]) ⟨Bb rfl,?_⟩;refine(BM.nil ?_:BM c1 _ _ _ _ _);refine⟨_,?_,(fin,E++[⟨a,p+1,I,q⟩],s),⟨C.next,(es _▸V.next hs),hsu a haG s (List.mem_of_getElem? hs),hdn,?_,rfl⟩,rfl⟩
      ·dsimp only;refine Aa (es ..) ?_;exact Nat.lt_of_lt_of_le (Mr hp) (hm▸hk)
      ·refine Aa (ep ..) ?_;rcases h0 with h | h
       ·exact .inl h
       ·exact .inr (.inl h)
     ·rw[List.length_map] at hlen;have nI:∀{b:Addr} {o:AO},l b=some o→(∀P,o ≠ .pr 6 P)→del I l b=some o:=λh n=>(EW (Aj h hI (n _))).trans h;have hst:∀v∈G2 E++[a],v<4:=λv hv=>R.lt v (V.sub v (List.mem_append_right _ (by refine AV (es p) (Aa Ia ?_);exact(ep p▸hv:v∈G2 (E++[⟨a,p,I,q⟩])))));have hna:a∉G2 E:=by
       have h1:=(List.nodup_append.mp V.nd).2.1;rw[List.map_append,Ia,List.nodup_append] at h1;intro h;exact h1.2.2 _ h a (by simp) rfl
      have lnk:=(V.lnk (Hk E).length a p (by simp)).1;rw[List.length_append] at z1;refine Pk rfl rfl rfl rfl rfl (by decide) rfl rfl rfl (nI hns' λP e=>by contradiction) (nI hsk' λP e=>by contradiction) (nI hit' λP e=>by contradiction) (Aj hns' hsk' λe=>by contradiction) (Ne.symm C.ap) (Aj hit' hns' λe=>by contradiction) ?_ (by refine Aa (List.length_map ..) ?_;exact YG z1) (by refine Aa (List.length_map ..) ?_;exact YG z1) (by refine Aa Lj (Aa List.length_append ?_);unfold G2;refine Aa (List.length_map ..) ?_;simp;exact aN (zv 0) (zn 999) [(0,1,za (zv 1) (za (zv 0) (zv 2)),zn 4)] rfl (AH _ _ _) Ae z1) ?_
      ·refine An ((H2 hst (hst a (by simp))).2 (by simp)) λj z_ hv=>?_;refine Aa hv ?_;rfl
      ·refine Aa (IG hst hna) ?_;refine BM.nil ?_;refine⟨_,?_,(fin++[a],E),⟨C.pop,V.pop hlen,λv hv=>List.mem_append_left _ (hdn v hv),?_,rfl,?_⟩,rfl⟩
       ·dsimp only;refine AV hm ?_;exact Iu (Nat.le_trans lnk (hB a haG))
       ·rcases h0 with h | h
        ·exact .inl (List.mem_append_left _ h)
        ·rcases List.mem_append.mp h with h | h
         ·exact .inr h
         ·exact .inl (List.mem_append_right _ h)
       ·dsimp only;exact Nat.le_trans (Nat.le_of_lt (Iu (Nat.le_trans lnk (hB a haG)))) (hm▸hk)
end
theorem NU{a b:Addr}{o p:AO}{l:Lg}(n:a≠b):put a o (put b p l)=put b p (put a o l):=by
 funext x
 unfold put;split
 ·rename_i e;exact Aa (if_neg (λe2=>n (e.symm.trans e2))) rfl
 ·rfl
noncomputable def S8(D:Addr):AO:=.pr 8 (· = { cls:=.type "dict_values",data:=.fields #[.ref D] })
section
variable{c:Cf cs}{K:Value→Lg→Prop}
theorem PI(hv:led D=some (.dct kvs))(lo:(D==sysModules)=false)(hk:∀V,led V=none→K (.ref V) (put V (S8 D) led)):A4 c ps (.builtin "dict.values") [.ref D] led K:=λf' vs' ef ev=>by
 obtain rfl:=Aq ef;refine An (Bf ev) λv1 ho1 e1=>?_;subst ho1;obtain rfl:=Af e1;refine Cz hk λh tk m con Q' F N C q=>?_;refine BY (C _ _ hv) λo hm l hd e=>?_;exact Ua F N hm hd lo λI h' F' N' lt=>q I h' tk _ rfl F' N' lt
theorem MW(n:Nat)(J:Obj→Nat→List Value→Lg→Prop){Fin:List Value→Lg→Prop}(hv:led D=some (.dct kvs))(hV:led V=some (S8 D))(hJ:∀o₀,(AO.dct kvs).Is c.w o₀→J o₀ 0 [] (put D (Gu o₀) led))(hk:∀o₀ i ys l,J o₀ i ys l→l D=some (Gu o₀))(hz:kvs.length≤1000000)(turn:∀o₀,(AO.dct kvs).Is c.w o₀→∀c2:Cf (BK scope cs),c2.dp=c.dp→c2.un=c.un→∀i k v ys led',kvs[i]?=some (k,v)→J o₀ i ys led'→Zc n c2 ((x,v)::HG (CK scope.names) ps) elt ifs (J o₀ (i+1)) ys led')(fin:∀o₀ ys l,J o₀ kvs.length ys l→Fin ys (put D (.dct kvs) l))(hkd:scope.kind = .function:=by rfl)(hcap:L9 scope cs x=true:=by rfl)(hown:Ok cs scope x)(hc:Kl cs scope=true:=by rfl):Cy elt iter x px ifs scope pos c ps (.ref V) led Fin:=by
 intro v' e s hs RR hRR;obtain rfl:=Af e;refine An (hs.exact hv) λo₀ hi h1=>?_;refine An (id hi) λl hd hl=>?_;refine oE (KdkAt.of hd) λep ha=>?_;have hll:l.length=kvs.length:=AV hl (Aa (List.length_map ..) rfl);obtain⟨h,tk,m,con,F,Nw,C,I₀⟩:=h1;refine An (C _ _ (Ac:put D (Gu o₀) led D=_)) λo1 hm1 d1=>?_;obtain rfl:o1=o₀:=d1;refine An (C _ _ (Ab hV (Aj hV hv λe=>by contradiction))) λo2 hm2 d2=>?_;obtain rfl:o2={ cls:=.type "dict_values",data:=.fields #[.ref D] }:=d2;have lt:∀p∈con,p.1<h.objs.size:=λp hp=>Heap.lt_size (Nw p hp).1;refine wpAny_pyIter_values ⟨_,(Nw _ hm2).1,rfl,rfl⟩ (ha.dictAt (Nw _ hm1).1) ?_;refine Gk n (k:=l.length) (P:=λi v=>∃k,l[i]?=some (k,v)) (It:=λi o=>o.cls = .type "dict_valueiterator"∧o.data = .fields #[.ref D,.int i 0,.int l.length 0,.int ep 0]) (U:=λh=>h.DictAt (strKind PW c.w) D l ep) (Jr.of (Walks.dictValues (prog:=PW) (w:=c.w) (A:=c.A) (knd:=strKind PW c.w) rfl h.objs.size D (Nat.ne_of_lt (lt _ hm1)) l ep) (λi h o h1 h2 h3=>⟨⟨o,h1,h2⟩,h3⟩) λi h st=>st.1) (λs Q E o e hI z_ q=>wpAny_pyIter_valiter ⟨o,e,hI⟩ q) (J o1) (λi ys led con h hJ C Nw=>by
  refine An (C _ _ (hk _ _ _ _ hJ)) λo hm d=>?_;obtain rfl:o=o1:=d;exact ha.dictAt (Nw _ hm).1) (F.push _) (λp hp=>⟨Heap.get?_push_of_some _ (Nw p hp).1,(Nw p hp).2⟩) C I₀ (λp hp=>Nat.ne_of_lt (lt p hp)) (Heap.get?_push_size _ rfl) ⟨rfl,rfl⟩ (Nat.ne_of_gt F.ns.lt) (D4 F) (hJ _ hi) (by refine Aa hll ?_;exact hz) hkd hcap hown (D9 hc)
  (λc2 e1 e2 i v ys led' h1 ⟨k,h2⟩ h3=>turn _ hi c2 e1 e2 i k (er v) ys led' (by refine AV hl ((List.getElem?_map).trans (Aa h2 ?_));rfl) h3) λR C oC m' ys led' s' ha' hR hN hne hj=>?_
 have hDl:=hk _ _ _ _ hj;have nR:D≠R:=Ag hDl hR;have A2:=ha'.inexact (D:=D) (o:=.dct kvs) (Ab hDl nR) hi;rw[NU nR] at A2;exact hRR R C oC m' ys _ s' A2 (A0 hR (Ne.symm nR)) hN hne (fin _ _ _ (hll▸hj))
theorem PY(hr:c.rd=none)(n:Nat)(h:Gq value c ps led λv l1=>HN n t c v ps l1 N)(hs1:∀env,env.scope=cs→swapsWithSole [t] value spos.line env=pure false)(ht:JB t=true:=by rfl):AE c X ps (exec (.Assign [t] value spos) c.env) led N:=by
 intro s hs Q' q;refine Aa (exec_Assign ..) ?_;refine wpAny_bind (wpAny_standAt ?_);refine Aa (hs1 _ c.es) ?_;refine wpAny_bind (wpAny_pure ?_);refine Aa (if_neg (by decide)) ?_;have hw:swappedStores [t] value c.env=pure none:=by cases t<;>first | rfl | contradiction
 refine wpAny_bind (h.run.wp hs λv s1 l1 h1 k1=>?_);refine Aa hw ?_;refine wpAny_bind (wpAny_pure ?_);have e3:assignStores c.env v none ((assignEach [t] c.env).map (·.2))=(do assignAll v [assign t c.env];pure .next):=by
  cases t<;>first | rfl | contradiction
 refine Aa e3 ?_;exact wpAny_bind (wpAny_mono (CU hr k1 v rfl s1 h1 (λz_ s'=>C4 c X N .next s') λs' ps' l' a b=>⟨ps',l',a,b⟩) (λz_ s' x=>wpAny_pure (q _ _ x)) λz_ z_ x=>x)
theorem PZ(hr:c.rd=none)(hy:UF cs ps y=some (.ref a))(hm:∀c':Cf cs,c'.rd=none→c'.w=c.w→Gp nm c' ps (.ref a) led λfx l1=>l1=led∧fx=(.ref f,[.ref a]))(hf:Pp.contains f=true)(hc:Qq c ps (.ref f) [.ref a] C KE led λv l=>N (pc x v ps) l)(hE:∀e l s,cB c ps C l e s→KE l→c.E (.ref e) s)(hx:Ft cs x=true)(h1:(ap.endLine==cp.line)=true):BM c X ps (exec (.Assign [.Name x xp] (.Call (.Attribute (.Name y yp) nm ap) [] [] cp) sp) c.env) led N:=by
 rintro s ⟨g,t,hs⟩ Q' q;refine Zt rfl ?_;refine Aa (DK h1 rfl (by decide) rfl) ?_;refine wpAny_bind (FI (c:=c.tn g t) hs hy λv' e=>?_);obtain rfl:=Af e;refine wpAny_bind (wpAny_standAt (wpAny_bind (wpAny_holding ((hm (c.tn g t) hr rfl _ _ rfl).wp hs λfx s2 l2 h2 k2=>?_))));refine oA k2 λho0 k3=>?_;subst ho0;obtain⟨f',vs'⟩:=fx;injection k3 with k4 k5;obtain rfl:=Af k4;refine An (Bf k5) λu ho1 e3=>?_;subst ho1;obtain rfl:=Af e3;refine callWith_K0 h2.keep (Ga hf) (wpAny_call (hc _ _ rfl rfl _ ⟨g,t,h2⟩ _ (λv s3 l3 ⟨g3,t3,h3⟩ k=>?_) λe s3 l3 hz k=>hE e l3 s3 hz k));exact BU (c:=c.tn g3 t3) hr h3 hx λs4 h4=>q .next _ ⟨g3,t3,_,_,h4,k⟩
end
section
variable{c:Cf cs}{K:Value→Lg→Prop}{KE:Lg→Prop}
theorem Ps(n:Nat)(h:(Ci n c ps).e e led K):Gq (.JoinedStr [e] p) c ps led K:=⟨λs hs Q' q=>JoinedStr_one (((A6 n).e _ _ _ h).wp hs q)⟩
theorem QJ(n:Nat)(tc:Tc c){g:Heap}{t:Tn c g}{x:Str}{np cpos pos:Pos}{e₀:Expr}{rest:List Expr}{B newId initId:String}{bm:List Value}(h:(Ci n (c.tn g t) ps).l (e₀::rest) led λvs l1=>vs.length≤1000∧KE l1)(hE:∀e l s,cC c C l e s→KE l→c.E (.ref e) s)(ex:nsIn (hd0.heap_1 c.w.params) mainGlobals x=some (some (.ref C)))(hq:excIn (hd0.heap_1 c.w.params) C bm newId=true)(FB:ExcBaseFacts B newId initId bm)(hx:cs.names.lookup x=some .globalImplicit)(hp2:BO rest=true)(hd:(x==("__debug__":Str))=false)(he9:∀env,starEach (e₀::rest) env=(false,eval e₀ env)::starEach rest env:=by intro _;rfl):AE (c.tn g t) X ps (exec (.Raise (some (.Call (.Name x np) (e₀::rest) [] cpos)) none pos) c.env) led N:=by
 intro s hs Q' q;obtain⟨h0,tk,m,con,F,Nw,V,I⟩:=id hs;have he:c.env=envOf c.cn cs c.L c.a c.ccd:=by refine((c.own tc.rd).1).trans (Aa tc.cl ?_);rfl
 have k:=((A6 n).l _ _ _ h cpos).wp hs (Q':=λvs s₂=>vs.length≤sizeLine∧(∀b o,g.get? b=some o→s₂.heap.get? b=some o)∧∀h' e,Heap.MadeExcOf s₂.heap h' e (.ref C) vs→c.E (.ref e) { s₂ with heap:=h' }) λvs s1 l1 h1 k1=>by
  obtain⟨h2,tk2,m2,con2,F2,N2,V2,I2⟩:=h1;exact⟨by have:=k1.1;rw[List.length_map] at this;exact Nat.le_trans this (by decide),F2.keep,λh' e M=>hE e l1 _ ⟨g,h2,tk2,vs,m2,con2,ps,t,⟨h',rfl⟩,M,F2,N2,V2,I2.nt⟩ k1.2⟩
 refine(?_:wpAny (model PW c.w) c.A (exec _ c.env) Q' c.E _);have k':wpAny (model PW c.w) c.A (spliced (backTo cpos (starEach (e₀::rest) c.env))) _ c.E _:=k;rw[he] at k' ⊢;exact Raise_own F (topRead_of t.P).g (own_of_in t.X (topRead_of t.P) ex hq) FB rfl k' (he9 _) (C9 hp2) c.hk hx hd
theorem BM.cutG(k m n:Nat){code:List Stmt}(hr:c.rd=none)(h:∀g t,HS n m (c.tn g t) X (code.take k) ps led λps' l=>BM c X ps' (execs (code.drop k) c.env) l N):BM c X ps (execs code c.env) led N:=by
 have:=BM.app (c:=c) (pre:=code.take k) (rest:=code.drop k) λg t=>Du (c:=c.tn g t) hr n m (h g t)
 rwa [List.take_append_drop] at this
end
theorem H9:Am (del a l) l:=λb o h=>by
 unfold del at h;split at h
 ·contradiction
 ·exact h
theorem Gh:del a l a=none:=if_pos rfl
theorem NV(h:l a=some o):put a o (put a p l)=l:=by
 funext x
 unfold put;split
 ·rename_i e;exact Aa e (Aa h rfl)
 ·rfl
noncomputable def Eh(G:Gr):List Nat:=G.nodes.filter λk=>G.np k=0
section
variable{K:Value→Lg→Prop}
theorem Me(tc:Tc c)(room:AU c 60 600)(hx:base x=some (.ins 362 dx))(hdx:base dx=some (.att (No D .none (zV 0) (zV 0))))(R:Dg base led D kvs G inf su dd)(lo:(D==sysModules)=false)(hsu:∀k∈G.nodes,∀s∈G.succ k,s∈G.nodes)(hB:∀k∈G.nodes,(G.succ k).length≤1000)(hk:∀l Rd,DC (del dx base) l x dx D Rd kvs G inf su dd 0 0 (Eh G)→(∀S,Dfs.Ring G.succ S→(∀v∈S,v∈G.nodes)→False)→K .none l)(hke:∀l Rd,DC (del dx base) l x dx D Rd kvs G inf su dd 0 0 (Eh G)→(∃S,Dfs.Ring G.succ S∧∀v∈S,v∈G.nodes)→KE l):Qq c ps (.ref 317) [.ref x] 280 KE led K:=by
 refine' Lu ["self"] tc.bs tc.cl ?ho ?hcd ?hb ?hl ?c1 ?c2 ?c3 ?c4 ?room ?_
 case ho=>k_is
 case hcd=>k_is
 case hb=>exact CL λs X z_=>BindsTo.of_eq rfl
 case hl=>decide
 case c1=>rfl
 case c2=>rfl
 case c3=>rfl
 case c4=>rfl
 case room=>exact Nat.lt_of_le_of_lt (Nat.le_add_right _ _) room.1
 intro c hd hu tc hE;have hr:=tc.rd;have rm:AU c 59 590:=.dn hd hu room;refine BM.cut 3 30 30 hr λc' hr' lk hw=>?_;refine AA (R.ex _ _ hx) (R.ex _ _ hdx) rfl (.f rfl ?_) (rfl);refine PY hr' 30 ?_ ?hs1
 case hs1=>exact Bq λz_=>rfl
 refine EX 30 ?_;refine AA (R.ex _ _ hx) (R.ex _ _ hdx) rfl ?_ (rfl);refine Dx PySem.F.slot_dict_values PySem.F.type_dict_values R.hD ?_;refine PI R.hD lo λV hV=>?_;have R1:=R.push (o:=S8 D) hV;have e0:Am base (put V (S8 D) base):=Am.put (Ak R.ex hV);have hx1:=e0 _ _ hx;have hdx1:=e0 _ _ hdx;have hV1:put V (S8 D) led V=some (S8 D):=Ac;generalize put V (S8 D) base=base1 at R1 e0 hx1 hdx1;generalize put V (S8 D) led=led1 at R1 hV1;refine MW 30 (λo₀ i ys l=>ys=((G.nodes.take i).filter λk=>G.np k=0).map BC∧l=put D (Gu o₀) led1) R1.hD hV1 (λo₀ z_=>⟨rfl,rfl⟩) (λo₀ i ys l h=>h.2▸Ac) (Nat.le_trans R1.klen (by decide)) ?turn ?fin (hown:=.inl ⟨rfl,λz_=>rfl⟩)
 case turn=>
  intro o₀ hi c2 _ _ i k v ys l hv ⟨h1,h2⟩;subst h2;obtain⟨a,ha,rfl⟩:∃a,G.nodes[i]?=some a∧v = .ref (inf a):=by
   rw[R1.keys,List.getElem?_map] at hv
   cases e:G.nodes[i]? with
   |none=>rw[e] at hv;contradiction
   |some a=>rw[e] at hv;cases hv;exact⟨a,rfl,rfl⟩
  have haG:a∈G.nodes:=List.mem_of_getElem? ha;have g1:put D (Gu o₀) led1 (inf a)=_:=Ab (R1.hi a haG) (Aj (R1.hi a haG) R1.hD λe=>Kf e.symm);have g2:put D (Gu o₀) led1 (dd a)=_:=Ab (R1.hd a haG) (Aj (R1.hd a haG) R1.hD λe=>by contradiction);have st:((G.nodes.take (i+1)).filter λk=>decide (G.np k=0))=((G.nodes.take i).filter λk=>decide (G.np k=0))++[a].filter λk=>decide (G.np k=0):=by refine Aa List.take_add_one (Aa ha (Aa (List.filter_append ..) ?_));rfl
  refine Dk 267 1 g1 g2 rfl ?_ (rfl);refine BB.mk (λh=>?_) λh=>?_
  ·have h0:G.np a=0:=by simpa using h
   refine Dk 266 0 g1 g2 rfl ?_ (rfl);exact⟨by refine Aa st (Aa h1 (Aa (List.filter_cons_of_pos (by simpa using h0)) (Aa List.map_append ?_)));rfl,rfl⟩
  ·have h0:¬G.np a=0:=by simpa using h
   exact⟨by exact Aa st (Aa h1 (Aa (List.filter_cons_of_neg (by simpa using h0)) (Aa List.filter_nil (Aa (List.append_nil ..) rfl)))),rfl⟩
 case fin=>
  rintro o₀ ys l ⟨rfl,rfl⟩ Rd hRd;rw[NV R1.hD] at hRd ⊢;refine Aa (show(G.nodes.take kvs.length)=G.nodes by rw[R1.keys,List.length_map,List.take_length]) ?_;have R2:=R1.push (o:=.lst ((Eh G).map BC)) hRd;have hdx2:put Rd (.lst ((Eh G).map BC)) led1 dx=_:=Ad (R1.ex _ _ hdx1) hRd;refine AT (Ad (R1.ex _ _ hx1) hRd) hdx2 ?_ (rfl) JL;have S:DC (del dx base) (put dx (.att (No D (.ref Rd) (zV 0) (zV 0))) (put Rd (.lst ((Eh G).map BC)) led1)) x dx D Rd kvs G inf su dd 0 0 (Eh G):=
   ⟨(R2.less (H9.trans (e0.trans (Am.put (Ak R1.ex hRd))))).out Gh (Aj R2.hD hdx2 λe=>by cases e) λk hk=>⟨Aj (R2.hi k hk) hdx2 λe=>(by cases e),Aj (R2.hd k hk) hdx2 λe=>(by cases e),Aj (R2.hs k hk) hdx2 λe=>(by cases e)⟩,
    lo,Ab (Ad (R1.ex _ _ hx1) hRd) (Aj (R1.ex _ _ hx1) (R1.ex _ _ hdx1) λe=>by contradiction),Ac,Ab Ac (Ne.symm (Ag (R1.ex _ _ hdx1) hRd)),Gh,Ak (H9.trans e0) (Ak R1.ex hRd),λk hk=>Ag (R1.hs k hk) hRd⟩
  refine(?_:BM c _ _ _ (put dx (.att (No D (.ref Rd) (zV 0) (zV 0))) (put Rd (.lst ((Eh G).map BC)) led1)) _);generalize put dx (.att (No D (.ref Rd) (zV 0) (zV 0))) (put Rd (.lst ((Eh G).map BC)) led1)=l at S;clear hdx2 R2 hRd R1 e0 hx1 hdx1 hV1 hV hw lk hr';refine(BM.cons ?_:BM c _ _ _ _ _);refine PZ hr (f:=352) (a:=x) (KE:=λz_=>False) (C:=280) rfl (λc' z_ z_=>BF S.hx S.hdx rfl ⟨rfl,rfl⟩ (rfl)) rfl ?_ (λz_ z_ z_ z_ h=>h.elim) rfl rfl;refine Sa tc (rm.less (by decide) (by decide)) S.hx S.hdx S.g lo hsu hB (λl2 e2 hno=>?_) λl2 L vs e2 hL hv1 hv2 hring=>?_
  ·refine BM.cutG 1 30 30 hr λg t=>?_;refine .f rfl ?_;refine(BM.nil ?_:BM c _ _ _ _ _);exact hk _ Rd (S.mono e2) hno
  ·refine BM.cutG 1 30 30 hr λg t=>?_;refine CC hL (.t (by cases vs with | nil=>exact absurd rfl hv1 | cons _ _=>rfl) ?_) (Nat.le_trans hv2 (by decide));refine QJ 30 tc (KE:=KE) (C:=280) ?_ hE (by k_is) (by k_exc) PySem.F.excBase_ValueError rfl rfl (by decide);refine Ps 30 ?_;exact⟨Nat.le_of_ble_eq_true rfl,hke _ Rd (S.mono e2) hring⟩
end
section
variable{c:Cf cs}{K:Value→Lg→Prop}
theorem Qw(tc:Tc c)(hy:UF cs ps y=some (.ref a))(hm:∀c':Cf cs,c'.rd=none→c'.w=c.w→Gp nm c' ps (.ref a) led λfx l1=>l1=led∧fx=(.ref f,[.ref a]))(hf:Pp.contains f=true)(hc:Qq c ps (.ref f) [.ref a] C KE led λz_ l=>N ps l)(hE:∀l,KE l→X.ret (.bool true) l)(ex:nsIn (hd0.heap_1 c.w.params) mainGlobals x=some (some (.ref C)))(hq:ktsIn (hd0.heap_1 c.w.params) C "BaseException"=true)(hx:cs.names.lookup x=some .globalImplicit)(hd:(x==("__debug__":Str))=false)(h1:(ap.endLine==cp.line)=true) :
  BM c X ps (exec (.Try [.Expr (.Call (.Attribute (.Name y yp) nm ap) [] [] cp) sp] [.ExceptHandler (some (.Name x np)) none [.Return (some (.Constant (.bool true) kn kp)) rp] hp] [] [] tp) c.env) led N:=by
 rintro s ⟨g,t,hs⟩ Q' q;refine wpAny_Try_except (wpAny_execs_cons (wpAny_Expr_any ?_ (by
  unfold interactive;show(c.env.scope.kind == .module&&_)=false;rw[c.es,c.hk];rfl) rfl))
 rw[DK h1 rfl (by decide) rfl];refine wpAny_bind (Lb (FI (c:=(c.tn g t).nv) (At.nv.mpr hs) hy λv' e=>?_));obtain rfl:=Af e;refine wpAny_bind (wpAny_standAt (wpAny_bind (wpAny_holding (Lb ((hm (c.tn g t).nv tc.rd rfl _ _ rfl).wp (At.nv.mpr hs) λfx s2 l2 h2 k2=>?_)))));obtain⟨rfl,k3⟩:=k2;obtain⟨f',vs'⟩:=fx;injection k3 with k4 k5;obtain rfl:=Af k4;obtain⟨u,rfl,e3⟩:=Bf k5;obtain rfl:=Af e3;refine callWith_K0 h2.keep (Ga hf) (wpAny_call (hc _ _ rfl rfl _ ⟨g,t,At.nv.mp h2⟩ _ (λv s3 l3 ⟨g3,t3,h3⟩ k=>wpAny_execs_nil (wpAny_execs_nil (q .next _ ⟨g3,t3,_,_,h3,k⟩))) λe s3 l3 hz k=>?_));obtain⟨g3,g4,t',vs,h,tk,m,con,T3,rfl,RS,U,F,V,I⟩:=hz;have he:c.env=envOf c.cn cs c.L c.a c.ccd:=by rw[(c.own tc.rd).1,tc.cl];rfl
 rw[((c.own tc.rd).2)] at RS;have:=caught_SO0 (w:=c.w) (A₀:=c.A₀) (E:=c.E) (Q:=Q') (np:=np) (b₀:=.Return (some (.Constant (.bool true) kn kp)) rp) (suite:=[]) (pos:=hp) (rest:=[]) (name:=c.cn) (scope:=cs) (a:=c.a) (cd:=c.ccd) (g₀:=c.h₀) (L:=c.L) (s':={ c.s with heap:=h,toks:=tk }) RS F T3.B U tc.bs.X tc.bs.P T3.D T3.T ex hq (λh6 g6 n6 T6 F6 N6 G6 N7 B6 X6 P6 D6=>?_) c.hk hx hd (by rw[← he,← tc.top];exact tc.pass _)
 ·rw[← he,← tc.top] at this;exact this
 ·refine wpAny_execs_cons (wpAny_Return_some (Constant_bool ?_));exact q (.ret (.bool true)) _ ⟨g6,⟨T6,B6,X6,P6,D6⟩,ps,l3,⟨h6,tk,m,con,F6,N7,V,I.tn⟩,hE _ k⟩
theorem Md(bs:Bs c)(ho0:c.outer=[])(room:AU c 80 800)(hx:base x=some (.ins 362 dx))(hdx:base dx=some (.att (No D .none (zV 0) (zV 0))))(R:Dg base led D kvs G inf su dd)(lo:(D==sysModules)=false)(hsu:∀k∈G.nodes,∀s∈G.succ k,s∈G.nodes)(hB:∀k∈G.nodes,(G.succ k).length≤1000)(hk:∀b l Rd,DC (del dx base) l x dx D Rd kvs G inf su dd 0 0 (Eh G)→(b=true∧(∃S,Dfs.Ring G.succ S∧∀v∈S,v∈G.nodes)∨b=false∧∀S,Dfs.Ring G.succ S→(∀v∈S,v∈G.nodes)→False)→K (.bool b) l):A4 c ps (.ref 519) [.ref x] led K:=by
 refine' Pu ["sorter"] bs ho0 ?ho ?hcd ?hb ?hl ?c1 ?c2 ?c3 ?c4 ?room ?_
 case ho=>k_is
 case hcd=>k_is
 case hb=>exact CL λs X z_=>BindsTo.of_eq rfl
 case hl=>decide
 case c1=>rfl
 case c2=>rfl
 case c3=>rfl
 case c4=>rfl
 case room=>exact Nat.lt_of_le_of_lt (Nat.le_add_right _ _) room.1
 intro c hd hu tc;have hr:=tc.rd;refine BM.cons ?_;refine Qw tc (f:=317) (a:=x) (KE:=λl=>K (.bool true) l) (C:=280) rfl (λc' z_ z_=>BF (R.ex _ _ hx) (R.ex _ _ hdx) rfl ⟨rfl,rfl⟩ (rfl)) rfl ?_ (λl h=>h) (by k_is) (by kts_isx) rfl (by decide) rfl;refine Me tc ((.dn hd hu room:AU c 79 790).less (by decide) (by decide)) hx hdx R lo hsu hB (λl Rd S hno=>?_) λl Rd S hr=>hk true l Rd S (.inl ⟨rfl,hr⟩);refine BM.cutG 1 30 30 hr λg t=>?_;exact hk false l Rd S (.inr ⟨rfl,hno⟩)
end
section
variable{K:Value→Lg→Prop}
theorem Up(room:AU c 30 300)(hk:∀x dx D l,Am led l→led x=none→led dx=none→led D=none→(D==sysModules)=false→l x=some (.ins 362 dx)→l dx=some (.att (No D .none (zV 0) (zV 0)))→l D=some (.dct [])→K (.ref x) l):A4 c ps (.ref 362) [] led K:=by
 refine HD (fI:=298) (λx dx hdx hx=>?_) (rfl) (rfl) (rfl);have nd:dx≠x:=Ag Ac hx;refine' Lw ["self","graph"] [.none] ?ho ?hcd ?hb rfl ?hl ?c1 ?c2 ?c3 ?c4 ?room ?_
 case ho=>k_is
 case hcd=>k_is
 case hb=>
  intro s vs' X e;obtain⟨v,rfl⟩:=List.length_eq_one_iff.mp e;exact binds_K X rfl (by k_is) rfl rfl rfl
 case hl=>decide
 case c1=>rfl
 case c2=>rfl
 case c3=>rfl
 case c4=>rfl
 case room=>
  refine(?_:c.dp+1<_);exact aN (za (za (zv 0) (zn 1)) (zn 1)) (zv 1) [(0,1,za (za (zv 0) (zn 30)) (zn 1),zv 1)] rfl (Az _ _) Ae room.1
 intro c' hd hu hr;refine A7 hr 30 30 ?_;refine E6 λD hD lo=>?_;refine AT (Ad Ac hD) (Ad (Ab Ac nd) hD) ?_ (rfl) JL;refine oA (AF hD) λhD1 nDx=>?_;refine oA (AF hD1) λhD2 nDd=>?_;refine AT (Ab (Ad Ac hD) (Ne.symm nd)) Ac ?_ (rfl) JL;refine AT (Ab (Ab (Ad Ac hD) (Ne.symm nd)) (Ne.symm nd)) Ac ?_ (rfl) JL;refine AT (Ab (Ab (Ab (Ad Ac hD) (Ne.symm nd)) (Ne.symm nd)) (Ne.symm nd)) Ac ?_ (rfl) JL;refine .f rfl ?_;have e1:∀{o1 o2 o3 o4 b o},put D (.dct []) (put x (.ins 362 dx) (put dx (.att []) led)) b=some o→b≠dx→put dx o1 (put dx o2 (put dx o3 (put dx o4 (put D (.dct []) (put x (.ins 362 dx) (put dx (.att []) led)))))) b=some o:=λh n=>Ab (Ab (Ab (Ab h n) n) n) n;exact⟨rfl,hk x dx D _ (λb o h=>e1 (Ad (Ad (Ad h hdx) hx) hD) (Ag h hdx)) (Ak (Am.put hdx) hx) hdx hD2 lo (e1 (Ad Ac hD) (Ne.symm nd)) Ac (e1 Ac nDd)⟩
end
noncomputable def UJ(f x:Addr):AO:=.pr 4 (· = methodObj (.ref f) (.ref x))
noncomputable def TH(K:Frag)(C:Addr)(n:Str)(f:Addr):Bool:=plainGet K C n&&(hasDictIn K C&&(decide (findIn K (.ref C) n=some (some (.ref f)))&&(isFn K (.ref f)&&(decide (specialIn K (.ref f) "__get__"=some (some (.builtin "function.__get__")))&&(decide (takesIn K (.ref f)=some false)&&(!copiedNames.contains n&&fnIn K f))))))
section
variable{c:Cf cs}{K:Value→Lg→Prop}
theorem GZ(hx:led x=some (.ins C dx))(hd:led dx=some (.att kvs))(hv:kvs.lookup n=none)(ok:TH (hd0.heap_1 c.w.params) C n f=true)(hk:∀q,led q=none→K (.ref q) (put q (UJ f x) led)):Fl n c ps (.ref x) led K:=λa' ea=>by
 obtain rfl:=Af ea;refine Cz hk λh tk m con Q' F N V q=>?_;obtain⟨m1,l,k,m2,e⟩:=V.ins hx hd;unfold TH at ok;simp only[Bool.and_eq_true,decide_eq_true_eq,Bool.not_eq_true'] at ok;obtain⟨k1,k2,k3,k4,k5,k6,k7,k8⟩:=ok;refine kbm_bound F c.X N (InstAt.of_news N m1 m2) k1 k2 k3 k4 k5 k6 k7 ?_ λb h' F' N' lt=>q b h' _ _ rfl F' N' lt;refine Aa Ez ?_;rw[← e,(by simp[List.map_map,Function.comp_def]:(l.map λq=>(q.1,er q.2.2))=(l.map λq=>(q.1,q.2.2)).map λy=>(y.1,er y.2)),Bx,Option.map_eq_none_iff] at hv;exact Aa hv rfl
noncomputable def bA(l:Lg)(D:Addr)(vs:List Value):Prop:=l D=some (.lst vs)∨l D=some (.tup vs)
theorem KA{s:Shared}{D:Addr}{vs:List Value}{A:Around}{E:Value→Shared→Prop}{Q:List Value→Shared→Prop}(h:At c ps led s)(hD:bA led D vs)(hz:vs.length≤1000000)(q:∀ws s',ws.map er=vs→At c ps led s'→Q ws s'):StarOf (model PW c.w) A E (.ref D) Q s:=by
 refine C0 h.read λm con F Nw C back=>?_;rcases hD with hD | hD
 ·refine Ax (C.list hD) λws n hm e=>?_;exact star_seq F Nw hm rfl rfl (.inl rfl) (List.toList_toArray ..) (by refine Aa List.size_toArray (Aa (AP e) ?_);exact Nat.le_trans hz (by decide)) λh' F' N'=>q ws _ e (back h' s.toks F' N')
 ·obtain⟨ws,n,hm,e⟩:=C.tuple hD;exact star_seq F Nw hm rfl rfl (.inr rfl) (List.toList_toArray ..) (by rw[List.size_toArray,AP e];exact Nat.le_trans hz (by decide)) λh' F' N'=>q ws _ e (back h' s.toks F' N')
noncomputable def bC(c:Cf cs)(ps:PS)(q f x:Addr)(K:Value→Lg→Prop)(vs:List Value)(l:Lg):Prop:=l q=some (UJ f x)∧Ed c ps (.ref f) (.ref x::vs) l K
theorem SQ{s:Shared}{q:Addr}{vs:List Value}{l:Lg}{Q':Value→Shared→Prop}(h:At c ps l s)(k:bC c ps q f x K (vs.map er) l)(qq:∀v s' l',At c ps l' s'→K (er v) l'→Q' v s'):MethP (hd0.heap_1 c.w.params) q f (.ref x) s.heap∧wpAny (model PW c.w) c.A (call (.ref q) ([]++vs) []) Q' c.E s:=by
 obtain⟨h0,tk,m,con,F,N,V,I⟩:=id h;obtain⟨o,hm,d⟩:=V _ _ k.1;obtain rfl:o=methodObj (.ref f) (.ref x):=d;exact⟨⟨(N _ hm).1,h.keep⟩,call_meth N hm (k.2 (.ref f) (.ref x::vs) rfl rfl _ h _ λv s' l' a b=>qq v s' l' a b)⟩
theorem Mp(n2:Nat){y:Str}{yp apos pos p:Pos}{e:Expr}(h0:UF cs ps y=some (.ref x))(ha:Fl n c ps (.ref x) led λa l1=>∃q,a = .ref q∧(Ci n2 c ps).e e l1 λv l2=>∃D vs,v = .ref D∧bA l2 D vs∧vs.length≤1000000∧bC c ps q f x K vs l2)(hf:fnIn (hd0.heap_1 c.w.params) f=true) :
  Gq (.Call (.Attribute (.Name y yp) n apos) [.Starred e p] [] pos) c ps led K:=by
 refine⟨λs hs Q' q=>?_⟩;have e1:eval (.Call (.Attribute (.Name y yp) n apos) [.Starred e p] [] pos) c.env=(do
   let ov ← eval (.Name y yp) c.env
   standAt apos.atName
   methodCall (.Name y yp) n apos pos c.env ov 1 (backTo pos (starEach [.Starred e p] c.env)) []):=rfl
 refine Aa e1 ?_;refine wpAny_bind (FI hs h0 λov eo=>?_);obtain rfl:=Af eo;refine wpAny_bind (wpAny_standAt ?_);refine(?_:wpAny _ _ (holding [Value.ref x] (getAttr (.ref x) n true >>= λa=>pure (a,[])) >>= _) _ _ _);refine wpAny_bind (wpAny_holding (wpAny_bind ((ha _ rfl).wp hs λa s1 l1 h1 k1=>wpAny_pure ?_)));obtain⟨b,e2,k1⟩:=k1;obtain rfl:=Af e2;refine wpAny_bind (wpAny_pure ?_);show wpAny _ _ (callWith pos (.ref b) [] (backTo pos (starEach [.Starred e p] c.env)) []) _ _ _;rw[(rfl:starEach [.Starred e p] c.env=[(true,eval e c.env)])];refine ks_call rfl (keeps_M (self:=.ref x) hf) (ks_lone (((A6 n2).e _ _ _ k1).wp h1 λv s2 l2 h2 k2=>?_));refine C0 k2 λD vs e4 hD hz k3=>?_;obtain rfl:=Af e4;exact KA h2 hD hz λws s3 ew h3=>SQ h3 (ew.symm▸k3) q
theorem Mo(n2:Nat){y:Str}{yp apos pos p:Pos}{d e:Expr}(h0:UF cs ps y=some (.ref x))(ha:Fl n c ps (.ref x) led λa l1=>∃q,a = .ref q∧(Ci n2 c ps).e d l1 λu l2=>(Ci n2 c ps).e e l2 λv l3=>∃D vs,v = .ref D∧bA l3 D vs∧vs.length≤1000000∧bC c ps q f x K (u::vs) l3)(hf:fnIn (hd0.heap_1 c.w.params) f=true)(hd:∀env,starEach [d,.Starred e p] env=(false,eval d env)::starEach [.Starred e p] env:=by intro _;rfl) :
  Gq (.Call (.Attribute (.Name y yp) n apos) [d,.Starred e p] [] pos) c ps led K:=by
 refine⟨λs hs Q' q=>?_⟩;have e1:eval (.Call (.Attribute (.Name y yp) n apos) [d,.Starred e p] [] pos) c.env=(do
   let ov ← eval (.Name y yp) c.env
   standAt apos.atName
   methodCall (.Name y yp) n apos pos c.env ov 2 (backTo pos (starEach [d,.Starred e p] c.env)) []):=rfl
 refine Aa e1 (Aa (hd c.env) (Aa (rfl:starEach [.Starred e p] c.env=[(true,eval e c.env)]) ?_));refine wpAny_bind (FI hs h0 λov eo=>?_);obtain rfl:=Af eo;refine wpAny_bind (wpAny_standAt ?_);refine(?_:wpAny _ _ (holding [Value.ref x] (getAttr (.ref x) n true >>= λa=>pure (a,[])) >>= _) _ _ _);refine wpAny_bind (wpAny_holding (wpAny_bind ((ha _ rfl).wp hs λa s1 l1 h1 k1=>wpAny_pure ?_)));obtain⟨b,e2,k1⟩:=k1;obtain rfl:=Af e2;refine wpAny_bind (wpAny_pure ?_);show wpAny _ _ (callWith pos (.ref b) [] (backTo pos ((false,eval d c.env)::[(true,eval e c.env)])) []) _ _ _;refine ks_call rfl (keeps_M (self:=.ref x) hf) (evalArgs_plain (spliced_cons (((A6 n2).e _ _ _ k1).wp h1 λu s2 l2 h2 k2=>ks_spliced (((A6 n2).e _ _ _ k2).wp h2 λv s3 l3 h3 k3=>?_))));refine C0 k3 λD vs e4 hD hz k4=>?_;obtain rfl:=Af e4;exact KA h3 hD hz λws s4 ew h4=>spliced_nil (SQ h4 (by refine Aa (List.append_nil ..) (Aa List.map_cons (Aa ew ?_));exact k4) q)
theorem Kn{D:Addr}{xs:List Str}(hv:led D=some (.tup (xs.map Al)))(hz:xs.length<64)(hk:∀l ys,led l=none→ys.Perm xs→sortedS ys=true→K (.ref l) (put l (.lst (ys.map Al)) led)):A4 c ps (.builtin "sorted") [.ref D] led K:=λf' vs' ef ev=>by
 obtain rfl:=Aq ef;refine An (Bf ev) λv1 ho1 e1=>?_;subst ho1;obtain rfl:=Af e1;intro s hs Q' q;obtain⟨h,tk,m,con,F,N,V,I⟩:=hs;refine Ax (V.tuple hv) λws z hm ew=>?_;have hS:=K8 ew;have h64:ws.length<64:=by refine Aa hS.length ?_;exact hz
 refine Calls.call_function_entry kind_sorted plain_sorted entry_sorted (args_sorted1 _) ?_;unfold Builtin.«sorted»;refine wpAny_bind (m:=checkCount "sorted" 1 1 _) (wpAny_pure ?_);refine wpAny_bind (wpAny_collect_seq D (.inr rfl) (N _ hm).1 rfl rfl (λh1 k1=>?_) (by refine Aa List.size_toArray ?_;exact Nat.le_trans (Nat.le_of_lt h64) (by decide)));refine Aa List.toList_toArray ?_;refine wpAny_bind (wpAny_newList ?_);have hoL:(h1.push (seqObj "list" ws.toArray 0)).get? h1.objs.size=some (seqObj "list" ws.toArray 0):=Heap.get?_push_size _ rfl;have F1:Fr c.h₀ c.L h1 m:=F.kept k1;have N1:News c.h₀ c.L h1 con:=λp hp=>⟨k1 _ _ (N p hp).1,(N p hp).2⟩
 refine(?_:wpAny _ _ _ _ _ { c.s with heap:=h1.push (seqObj "list" ws.toArray 0),toks:=tk });refine wpAny_bind (wpAny_holding (wpAny_call_entry slot_list_sort ⟨_,hoL,rfl⟩ entry_list_sort (list_sort_treeK strKind_oneLt hoL hS.keysOf (λv₁ v₂ rest e=>keyKind_strs (by refine AV e ?_;exact hS)) h64 λst' a1 a2=>⟨_,rfl,?_⟩) (args_list_sort _)));refine B7 (sorted_out_str hS a1 a2) λys g1 g2 g3=>?_;refine oE (sortedHeap_at (out:=(arrOf st').map (·.2)) hoL) λe he=>?_;have k2:∀b o,h1.get? b=some o→(sortedHeap (h1.push (seqObj "list" ws.toArray 0)) h1.objs.size ws ((arrOf st').map (·.2))).get? b=some o:=λb o e=>by
  have hlt:=Heap.lt_size e;refine Aa (sortedHeap_old (Nat.ne_of_lt hlt) (by rw[size_push'];exact Nat.lt_succ_of_lt hlt)) (Aa (Heap.get?_push_ne _ _ _ (Nat.ne_of_lt hlt)) ?_);exact e
 refine oA (C3 (tk:=tk) (o:=.lst (ys.map Al)) (F1.kept k2) (N1.kept_cons F1 k2 (Nat.le_refl _) he) V I (λp hp=>Heap.lt_size (N1 p hp).1) ⟨_,e,rfl,Lq g1⟩) λe1 e2=>?_;exact wpAny_pure ⟨_,rfl,q (.ref h1.objs.size) _ _ e2 (hk _ _ e1 g2 g3)⟩
end
structure VU{scope:Scope}(c:Cf scope)(P:Params):Prop where
 w:c.w.params=P
 rd:c.rd=none
 bs:Bs c
 out:c.outer=[]
 rm:AU c 300 3000
noncomputable abbrev VT:Ex:=Hp λv z_=>v = .bool true
noncomputable def Z2(P:Params)(k j:Nat)(J J':PS→Lg→Prop):Prop:=∀{name qual:Str} {params:Arguments} {body:List Stmt} {scope:Scope} {dV kV doc pm cdv ct oc:Value} {an od:Option Addr} {osl:Array (Option Value)},(hd0.heap_1 P).lookup 538=some ⟨oc,od,.func (fnOf name qual params body scope dV kV doc pm an cdv ct),osl⟩→∀c:Cf scope,VU c P→∀ps l,J ps l→AE c VT ps (execs ((body.drop k).take j) c.env) l J'
theorem Hw{P:Params}{k j:Nat}{J J':PS→Lg→Prop}{name qual:Str}{params:Arguments}{body:List Stmt}{scope:Scope}{dV kV doc pm cdv ct oc:Value}{an od:Option Addr}{osl:Array (Option Value)}(ho:(hd0.heap_1 P).lookup 538=some ⟨oc,od,.func (fnOf name qual params body scope dV kV doc pm an cdv ct),osl⟩)(h:∀c:Cf scope,VU c P→∀ps l,J ps l→AE c VT ps (execs ((body.drop k).take j) c.env) l J'):Z2 P k j J J':=by
 intro name' qual' params' body' scope' dV' kV' doc' pm' cdv' ct' oc' an' od' osl' ho';rw[ho] at ho';injection (Option.some.inj ho') with _ _ e2 _;have e3:=Data.func.inj e2;have e4:body=body':=FuncBody.stmts.inj (congrArg FuncData.body e3);have e5:scope=scope':=congrArg FuncData.scope e3;subst e4 e5;exact h
noncomputable def Z5(h:Heap)(r:Addr)(ns:List Int):Prop:=∃us:List Value,h.IsList r us.toArray∧us.map er=ns.map zV
noncomputable def cD(P:Params)(k j:Nat)(r:Addr)(ns:List Int)(ps:PS)(J':PS→Lg→Prop):Prop:=∀{name qual:Str} {params:Arguments} {body:List Stmt} {scope:Scope} {dV kV doc pm cdv ct oc:Value} {an od:Option Addr} {osl:Array (Option Value)},(hd0.heap_1 P).lookup 538=some ⟨oc,od,.func (fnOf name qual params body scope dV kV doc pm an cdv ct),osl⟩→∀c:Cf scope,VU c P→Z5 c.h₀ r ns→∀l,AE c VT ps (execs ((body.drop k).take j) c.env) l J'
theorem Rn{P:Params}{k j:Nat}{r:Addr}{ns:List Int}{ps:PS}{J':PS→Lg→Prop}{name qual:Str}{params:Arguments}{body:List Stmt}{scope:Scope}{dV kV doc pm cdv ct oc:Value}{an od:Option Addr}{osl:Array (Option Value)}(ho:(hd0.heap_1 P).lookup 538=some ⟨oc,od,.func (fnOf name qual params body scope dV kV doc pm an cdv ct),osl⟩)(h:∀c:Cf scope,VU c P→Z5 c.h₀ r ns→∀l,AE c VT ps (execs ((body.drop k).take j) c.env) l J'):cD P k j r ns ps J':=by
 intro name' qual' params' body' scope' dV' kV' doc' pm' cdv' ct' oc' an' od' osl' ho';rw[ho] at ho';injection (Option.some.inj ho') with _ _ e2 _;have e3:=Data.func.inj e2;have e4:body=body':=FuncBody.stmts.inj (congrArg FuncData.body e3);have e5:scope=scope':=congrArg FuncData.scope e3;subst e4 e5;exact h
section
variable{K:Value→Lg→Prop}
theorem IR{ns:List Int}(n:Nat){v hi:Expr}{p p2:Pos}(h:(Ci n c ps).e v led λa l1=>(Ci n c ps).e hi l1 λu l2=>∃D,∃k:Nat,a = .ref D∧u=zV k∧Z5 c.h₀ D ns∧ns.length≤100000∧∀l,l2 l=none→K (.ref l) (put l (.lst ((ns.take k).map zV)) l2))(hn:Ir v=true:=by rfl):Gq (.Subscript v (.Slice none (some hi) none p2) p) c ps led K:=by
 refine⟨λs hs Q' q=>PyProof.Rows.Subscript_ (((A6 n).e _ _ _ h).wp hs λa s1 l1 h1 k1=>wpAny_Slice (wpAny_pure (((A6 n).e _ _ _ k1).wp h1 λu s2 l2 h2 k2=>wpAny_pure ?_)))⟩;obtain⟨D,k,e1,e2,⟨ws,hD,e⟩,hz,k3⟩:=k2;obtain rfl:=Af e1;obtain⟨t,rfl⟩:=AQ e2;obtain⟨h,tk,m,con,F,Nw,C,I⟩:=h2;refine kmk_slice_lit (zs:=ws.take k) F Nw (stays_list F.keep hD) .none (.int _ _) ?_ (λD' h' F' N' lt=>?_) rfl (λz_=>Ep hn) (by rw[List.size_toArray,(by rw[← List.length_map (f:=er),e,List.length_map]:ws.length=ns.length)];exact Nat.le_trans hz (by decide))
 ·have e9:sliceBounds none (some (k:Int)) none ws.toArray.size=(((0:Nat):Int),((min k ws.toArray.size:Nat):Int),1):=by
   simp only[sliceBounds,Option.getD_none,show(1:Int)>0 by decide,if_true,if_neg (show ¬((k:Int)<0) by exact UW)];congr 2;lia
  rw[kmk_pick_nat _ e9,List.size_toArray];show(ws.drop 0).take (min k ws.length-0)=_;rw[List.drop_zero,Nat.sub_zero,← List.take_eq_take_min]
 ·obtain⟨g1,g2⟩:=C3 (tk:=tk) F' N' C I lt (o:=.lst ((ns.take k).map zV)) ⟨_,_,rfl,by rw[List.map_take,e,List.map_take]⟩;exact q (.ref D') _ _ g2 (k3 D' g1)
end
noncomputable def G0:Gr:=⟨[],λz_=>0,λz_=>[]⟩
noncomputable def DB(pl:Nat→List Nat)(i:Nat):Gr:=(List.range i).foldl (λG f=>Su G f (pl f)) G0
theorem Gn{pl:Nat→List Nat}{i:Nat}:DB pl (i+1)=Su (DB pl i) i (pl i):=by
 unfold DB;rw[List.range_succ,List.foldl_append];rfl
noncomputable def TN:Nat→Gr→List Nat→List (List Nat)→Prop
 |0,_,rd,RS=>rd=[]∧RS=[]
 |k+1,G,rd,RS=>(rd=[]∧RS=[])∨(rd≠[]∧(∀a∈rd,a∈G.nodes)∧rd.length≤100∧(∀i a,rd[i]?=some a→(BA (Co G rd,[]) (rd.take i)).1.np a = -1)∧∃RS',RS=rd::RS'∧TN k (BA (Co G rd,[]) rd).1 (BA (Co G rd,[]) rd).2 RS')
theorem DC.chg{base l:Lg}{x dx D Rd ro:Addr}{kvs:List (Str×Value)}{G:Gr}{inf su dd:Nat→Addr}{pa fi:Int}{rd:List Nat}{vs us:List Value}(S:DC base l x dx D Rd kvs G inf su dd pa fi rd)(h:base ro=some (.lst vs)):DC (put ro (.lst us) base) (put ro (.lst us) l) x dx D Rd kvs G inf su dd pa fi rd:=by
 have hl:=S.g.ex _ _ h;have ne:∀{b:Addr},base b=none→b≠ro:=λe e2=>by rw[e2,h] at e;cases e
 exact⟨⟨CI S.g.ex,Ab S.g.hD (Aj S.g.hD hl E9),S.g.keys,S.g.lt,S.g.nodup,λk hk=>Ab (S.g.hi k hk) (Aj (S.g.hi k hk) hl λe=>by cases e),λk hk=>Ab (S.g.hd k hk) (Aj (S.g.hd k hk) hl λe=>by cases e),λk hk=>Ab (S.g.hs k hk) (ne (S.g.fi k hk).2),S.g.ii,A0 S.g.fD (ne S.g.fD),λk hk=>⟨A0 (S.g.fi k hk).1 (ne (S.g.fi k hk).1),A0 (S.g.fi k hk).2 (ne (S.g.fi k hk).2)⟩⟩,
  S.lo,Ab S.hx (Aj S.hx hl λe=>by cases e),Ab S.hdx (ne S.fx),Ab S.hR (ne S.fR),A0 S.fx (ne S.fx),A0 S.fR (ne S.fR),S.sR⟩
theorem QK{a b:Addr}{o p q:AO}{l:Lg}:put a o (put b p (put a q l))=put a o (put b p l):=by
 funext x
 unfold put;split
 ·rfl
 ·split
  ·rfl
  ·rfl
structure Sz(st:AK)(lt:AI)(pl:Nat→List Nat)(mn:Int)(RS:List (List Nat))(Gf:Gr):Prop where
 gf:DB pl 4=Gf
 ko:TN 9 (Gf) (Eh (Gf)) RS
 mn1:mn∈lt.1
 mn2:∀a∈lt.1,mn≤a
 yes:(∃S,Dfs.Ring (Gf).succ S∧∀v∈S,v∈(Gf).nodes)→mn = -1
 no:mn = -1→(∀S,Dfs.Ring (Gf).succ S→(∀v∈S,v∈(Gf).nodes)→False)→False
 P:C8 st.1
 lt:BG st.1=lt
 pl4:∀f,f<4→(pl f).length≤100∧∀p∈pl f,p<4
 pre:∀f,f<4→((st.2 f).map (Bo f)).filter (λx=>Txt.item x 0=="/")=(pl f).map Ah
 rlen:∀f,f<4→∀x∈(st.2 f).map (Bo f),0<x.length∧x.length≤100
 suc4:∀k∈Gf.nodes,(Gf.succ k).length≤1000
 suc:∀i,i≤4→∀k∈(DB pl i).nodes,((DB pl i).succ k).length≤1000
 cl:∀k∈(Gf).nodes,∀s∈(Gf).succ k,s∈(Gf).nodes
 rows:∀f,f<4→∀x∈st.2 f,0<x.length∧x.length≤100∧ZI f x
theorem Je{cs:Scope}{c:Cf cs}{ps:PS}{led:Lg}{N:PS→Lg→Prop}(ns:List Str)(hr:c.rd=none){elts:List Expr}{k:Nat}{pos:Pos}{a:Addr}{vs:List Value}(ha:led a=some (.tup vs))(hn:C6 elts=some ns)(hl:vs.length=ns.length)(h:NK N (SJ ns vs ps) led)(hk:ns.all (Ft cs)=true:=by rfl):Dt (.Tuple elts k pos) c (.ref a) ps led N:=EF ns hr ha hn hl h hk
theorem Lz{cs:Scope}{c:Cf cs}{X:Ex}{ps:PS}{led:Lg}{N:PS→Lg→Prop}{elt iter:Expr}{x:Str}{px:Pos}{ifs:List Expr}{scope:Scope}{pos:Pos}(hr:c.rd=none)(n:Nat){y:Str}{py spos:Pos}(h:(Ci n c ps).e iter led λv l1=>Cy elt iter x px ifs scope pos c ps v l1 (Qp λv l=>NK N (pc y v ps) l))(hsw:∀env:Env,env.scope=cs→swapsWith (.ListComp elt [⟨.Name x px,iter,ifs,0⟩] scope pos) (some (.Name y py)) spos.line env=pure true)(hy:Ft cs y=true:=by rfl)(hc:Kl cs scope=true:=by rfl)(hkd:scope.kind = .function:=by rfl)(hnm:scope.names.all (λy=>y.2 != .local||decide (scope.names.lookup y.1=some .local))=true:=by rfl)(hs:∀x,foldedSetIterable iter c.env x=pure x:=by intro _;rfl) :
  AE c X ps (exec (.Assign [.Name y py] (.ListComp elt [⟨.Name x px,iter,ifs,0⟩] scope pos) spos) c.env) led N:=PD hr n h hsw hy hc hkd hnm hs
noncomputable def ZH(st:AK)(b0:Lg)(rr:Nat→Addr)(i:Nat)(ys:List Value)(l:Lg):Prop:=Am b0 l∧ys=(List.range i).map (λj=>Value.ref (rr j))∧∀j,j<i→l (rr j)=some (.lst (((st.2 j).map (Bo j)).map Al))
theorem ZH.next{st:AK}{b0 l:Lg}{rr:Nat→Addr}{i:Nat}{ys:List Value}{a:Addr}(h:ZH st b0 rr i ys l)(ha:l a=none):ZH st b0 (upd rr i a) (i+1) (ys++[.ref a]) (put a (.lst (((st.2 i).map (Bo i)).map Al)) l):=by
 obtain⟨h1,h2,h3⟩:=h;refine⟨h1.trans (Am.put ha),?_,λj hj=>?_⟩
 ·rw[List.range_succ,List.map_append,h2];congr 1
  ·exact List.map_congr_left λj hj=>by rw[Ai (Nat.ne_of_lt (List.mem_range.mp hj))]
  ·rw[List.map_singleton,Ao]
 ·by_cases e:j=i
  ·subst e;rw[Ao];exact Ac
  ·rw[Ai e];exact Ad (h3 j (Wu hj e)) ha
structure VP(st:AK)(lt:AI)(l:Lg)(pc0 ll lv rl:Addr)(q2 rr:Nat→Addr):Prop where
 pc:l pc0=some (.lst (Ei.map Al))
 ll:l ll=some (.lst (CY q2))
 lv:l lv=some (.lst (lt.1.map zV))
 q:∀j,j<4→l (q2 j)=some (.lst ((lt.2 j).map Al))
 rl:l rl=some (.lst (CY rr))
 rr:∀j,j<4→l (rr j)=some (.lst (((st.2 j).map (Bo j)).map Al))
 len:∀j,j<4→(st.2 j).length≤100
theorem VP.mono{st:AK}{lt:AI}{l l':Lg}{pc0 ll lv rl:Addr}{q2 rr:Nat→Addr}(b:VP st lt l pc0 ll lv rl q2 rr)(e:∀a o,l a=some o→l' a=some o):VP st lt l' pc0 ll lv rl q2 rr:=⟨e _ _ b.pc,e _ _ b.ll,e _ _ b.lv,λj h=>e _ _ (b.q j h),e _ _ b.rl,λj h=>e _ _ (b.rr j h),b.len⟩
noncomputable def J1(st:AK)(lt:AI)(ch:Str)(ps:PS)(l:Lg):Prop:=∃pc0 ll lv rl q2 rr,BR ps ["places","letter","laid","level","read"]=[.ref pc0,Al ch,.ref ll,.ref lv,.ref rl].map some∧VP st lt l pc0 ll lv rl q2 rr
noncomputable def J2(st:AK)(lt:AI)(ch:Str)(Gf:Gr)(ps:PS)(l:Lg):Prop:=∃pc0 ll lv rl q2 rr x dx D Rd kvs inf su dd B,BR ps ["places","letter","laid","level","read","sorter"]=[.ref pc0,Al ch,.ref ll,.ref lv,.ref rl,.ref x].map some∧VP st lt B pc0 ll lv rl q2 rr∧DC B l x dx D Rd kvs (Gf) inf su dd 0 0 (Eh (Gf))
noncomputable def J3(st:AK)(lt:AI)(ch:Str)(RS:List (List Nat))(ps:PS)(l:Lg):Prop:=∃pc0 ll lv rl q2 rr ro ws,BR ps ["places","letter","laid","level","read","rounds"]=[.ref pc0,Al ch,.ref ll,.ref lv,.ref rl,.ref ro].map some∧VP st lt l pc0 ll lv rl q2 rr∧l ro=some (.lst ws)∧Ch (Kx l) ws RS
section
theorem AE.weak{q:PS}{x:Sem Flow}(k:HO q ps)(h:AE c X q x led N):AE c X ps x led N:=λs hs Q' r=>h s (hs.weak k) Q' r
end
section
theorem Vf{P:Params}{r:Addr}{ns:List Int}{st:AK}{lt:AI}{ch:Str}{pl:Nat→List Nat}{mn:Int}{RS:List (List Nat)}{Gf:Gr}(hlen:ns.length≤63)(hst:E5 (ns.take 5++[104,209,112,108])=st)(hch:Txt.item "abcd" (((ns.take 5).sum+2).fmod 4)=ch)(H:Sz st lt pl mn RS Gf) :
  cD P 0 5 r ns [("script",.ref r)] (J1 st lt ch):=by
 refine' Rn ?ho ?_
 case ho=>k_is
 rintro c ⟨hw,hr,bs,ho0,rm⟩ hB led;refine A7 hr 60 30 ?_;show HS 30 60 c _ [_,_,_,_,_] _ _ _;refine FF (rm.less (by decide) (by decide)) λpc0 hpl=>?_;refine IR (ns:=ns) 30 ?_;refine⟨r,5,rfl,rfl,hB,Nat.le_trans hlen (by decide),λt1 ht1=>?_⟩;refine Sm Ac ?_;refine Ll ?_;have hm3:((ns.take 5).sum+2).fmod 4=((ns.take 5).sum+2)%4:=Int.fmod_eq_emod_of_nonneg _ (by decide);refine CD (by rw[hm3];exact Int.le_trans (by decide) (Int.emod_nonneg ((ns.take 5).sum+2) (b:=4) (by decide))) (by rw[hm3];exact(Int.emod_lt_of_pos ((ns.take 5).sum+2) (b:=4) (by decide))) ?_ (by decide);rw[hch];refine Ee 30 hr ?_ rfl ?hw1
 case hw1=>exact Bq λz_=>rfl
 refine IR (ns:=ns) 30 ?_;refine⟨r,5,rfl,rfl,hB,Nat.le_trans hlen (by decide),λt2 ht2=>?_⟩;refine Ay λt3 ht3=>?_;refine Hx (Ad Ac ht3) Ac (λt4 ht4=>?_) (by rw[List.length_map,List.length_take];lia) (Fa rfl);have l4:(ns.take 5++[104,209,112,108]).length≤9:=by rw[List.length_append,List.length_take];simp only[List.length_cons,List.length_nil];lia
 refine Sw λl1 hl1=>?_;have x1:Am led l1:=by rw[hl1];exact(((Am.put hpl).trans (Am.put ht1)).trans ((Am.put ht2).trans (Am.put ht3))).trans (Am.put ht4)
 have y1:l1 pc0=some (.lst (Ei.map Al)):=by rw[hl1];exact(by repeat (first | exact Ac | refine Ad ?_ (by assumption)))
 refine RQ (rm.less (by decide) (by decide)) (ns:=ns.take 5++[104,209,112,108]) (by rw[hl1,List.map_append];exact Ac) (Nat.le_trans l4 (by decide)) λT1 l2 lp lf p q x2 hT1 R=>?_;rw[hst] at R;refine Je ["plain","files"] hr hT1 rfl rfl ?_;have y2:=x2 _ _ y1;clear hl1 hpl ht1 ht2 ht3 ht4 y1;refine Ee 30 hr ?_ rfl ?hw2
 case hw2=>exact Bq λz_=>rfl
 refine Vg (rm.less (by decide) (by decide)) R.lp R.hp H.P λT2 l3 ll lv q2 La hT2=>?_;rw[H.lt] at La;refine Je ["laid","level"] hr hT2 rfl rfl ?_;have R3:=R.mono La.ex (Nat.le_refl _);have y3:=La.ex _ _ y2;refine Lz hr 30 ?_ ?hsw1
 case hsw1=>exact Bq λz_=>rfl
 refine CQ λrg hrg=>?_;have R4:=R3.mono (Am.put hrg (o:=.rng 0 4)) (Nat.le_refl _);have La4:=La.mono (Am.put hrg (o:=.rng 0 4));have y4:=(Am.put hrg (o:=.rng 0 4)) _ _ y3;have v4:put rg (.rng 0 4) l3 rg=some (.rng 0 4):=Ac;generalize put rg (.rng 0 4) l3=l4b at R4 La4 y4 v4;clear R3 La y3 y2 hT1 hT2 hrg R x2 x1;refine Cy.mono (Ea 30 (λi ys l=>∃rr,ZH st l4b rr i ys l) v4 4 (.inl rfl) (by decide) ⟨λz_=>0,Am.rfl,rfl,λj h=>absurd h (Nat.not_lt_zero j)⟩ (by decide) ?tn1 (hown:=.inl ⟨rfl,λz_=>rfl⟩)) ?fn1
 case tn1=>
  intro c2 e1 e2 i z ys l hi hz ⟨rr,J⟩;rw[Int.zero_add] at hz;subst hz;have rm2:AU c2 300 3000:=by
   unfold AU;rw[e1,e2];exact rm
  refine AG (x:=Al (Ah i)) (J.1 _ _ y4) rfl (BP hi) ?_ (Cu hi);refine AG (x:=.ref (q i)) (J.1 _ _ R4.lf) rfl (Bl hi) ?_ (Cu hi);refine U6 (rm2.less (by decide) (by decide)) hi (J.1 _ _ (R4.hq i hi)) (Nat.le_trans (R4.len i hi).2 (aN (za (zv 0) (zn 1)) (zn 1000) [(0,1,zv 0,zn 9)] rfl (Av _) Ae l4)) (H.rows i hi) λa ha=>?_;exact⟨_,J.next ha⟩
 case fn1=>
  rintro _ l ⟨rr,x5,rfl,J⟩ rl hrl;have La5:=La4.mono (x5.trans (Am.put hrl (o:=.lst (CY rr))));exact⟨pc0,ll,lv,rl,q2,rr,rfl,((x5.trans (Am.put hrl (o:=.lst (CY rr)))) _ _ y4),La5.hl,La5.hv,La5.hq,Ac,(λj hj=>Ad (J j hj) hrl),λj hj=>Nat.le_trans ((R4.mono (x5.trans (Am.put hrl (o:=.lst (CY rr)))) (Nat.le_refl _)).len j hj).2 (aN (za (zv 0) (zn 1)) (zn 100) [(0,1,zv 0,zn 9)] rfl (Av _) Ae l4)⟩
end
theorem Ve{P:Params}{st:AK}{lt:AI}{ch:Str}{pl:Nat→List Nat}{mn:Int}{RS:List (List Nat)}{Gf:Gr}(H:Sz st lt pl mn RS Gf):Z2 P 5 3 (J1 st lt ch) (J2 st lt ch Gf):=by
 refine' Hw ?ho ?_
 case ho=>k_is
 rintro c ⟨hw,hr,bs,ho0,rm⟩ ps l5 ⟨pc0,ll,lv,rl,q2,rr,hps,b1⟩;refine AE.weak (Bb hps) ?_;clear hps ps;refine A7 hr 60 30 ?_;refine(?_:HS 30 60 c _ [_,_,_] _ _ _);refine Up (rm.less (by decide) (by decide)) λx dx D l6 x6 fx fdx fD loD hx hdx hD=>?_;refine Bn 30 ?_;refine CQ λrg hrg=>?_;have fb:∀b o,l5 b=some o→del D l6 b=some o:=λb o h=>(EW (Ag h fD)).trans (x6 _ _ h);have g0:Dg (del D l6) (put rg (.rng 0 4) l6) D [] (DB pl 0) (λz_=>0) (λz_=>0) (λz_=>0):=
  ⟨H9.trans (Am.put hrg),Ad hD hrg,rfl,(λz_ h=>by contradiction),List.nodup_nil,(λz_ h=>by contradiction),(λz_ h=>by contradiction),(λz_ h=>by contradiction),(λz_ h=>by contradiction),Gh,(λz_ h=>by contradiction)⟩
 have xb:del D l6 x=some (.ins 362 dx):=(EW (Aj hx hD λe=>by contradiction)).trans hx;have dxb:del D l6 dx=some (.att (No D .none (zV 0) (zV 0))):=(EW (Aj hdx hD λe=>by contradiction)).trans hdx;have fb2:∀b o,l5 b=some o→del dx (del D l6) b=some o:=λb o h=>(EW (Ag h fdx)).trans (fb b o h);have v4:put rg (.rng 0 4) l6 rg=some (.rng 0 4):=Ac;generalize put rg (.rng 0 4) l6=l7 at g0 v4;generalize del D l6=base at g0 xb dxb fb fb2;clear hx hdx hD x6 fx fdx fD hrg l6;refine GS (σ:=List (Str×Value)×(Nat→Addr)×(Nat→Addr)×(Nat→Addr)) 60 30 ["places","letter","laid","level","read","sorter"] (λz_=>[.ref pc0,Al ch,.ref ll,.ref lv,.ref rl,.ref x]) (λi s l=>Dg base l D s.1 (DB pl i) s.2.1 s.2.2.1 s.2.2.2) hr v4 4 (.inl rfl) (by decide) ([],λz_=>0,λz_=>0,λz_=>0) g0 rfl ?t1 ?d1
 case t1=>
  clear g0 v4;intro c1 lk hr1 i z s l hi hz R Y M _ _ _ fin;replace hz:=hz.trans (Int.zero_add ..);subst hz;have hb:∀b o,l5 b=some o→l b=some o:=λb o h=>R.ex _ _ (fb b o h);refine Mo (f:=312) 30 rfl ?_ (rfl);refine GZ (f:=312) (R.ex _ _ xb) (R.ex _ _ dxb) rfl (rfl) λbm hbm=>?_;refine⟨bm,rfl,?_⟩;refine AG (x:=Al (Ah i)) (Ad (hb _ _ b1.pc) hbm) rfl (BP hi) ?_ (Cu hi);refine EX 30 ?_;refine AG (x:=.ref (rr i)) (Ad (hb _ _ b1.rl) hbm) rfl (Bl hi) ?_ (Cu hi);have hrow:put bm (UJ 312 x) l (rr i)=_:=Ad (hb _ _ (b1.rr i hi)) hbm;have hbm2:put bm (UJ 312 x) l bm=some (UJ 312 x):=Ac;have R1:=R.mono (Am.put hbm (o:=UJ 312 x));generalize put bm (UJ 312 x) l=l8 at hrow hbm2 R1;refine Cy.mono (De 30 (λj ys l=>ys=((((st.2 i).map (Bo i)).take j).filter λx=>Txt.item x 0=="/").map Al∧l=l8) hrow ⟨rfl,rfl⟩ (λj ys l h=>h.2▸hrow) (by refine Aa (List.length_map ..) (Aa (List.length_map ..) ?_);exact Nat.le_trans (b1.len i hi) (by decide)) ?tc (hown:=.inl ⟨rfl,λz_=>rfl⟩)) λys l h T hT=>?fc
  case tc=>
   intro c2 _ _ j v ys l hj hv ⟨a1,a2⟩;subst a2;replace hv:=(List.getElem?_map).symm.trans hv;refine An (Option.map_eq_some_iff.mp hv) λw hw2 ho2=>?_;subst ho2;refine oA (H.rlen i hi w (List.mem_of_getElem? hw2)) λw1 w2=>?_;have sn:(((st.2 i).map (Bo i)).take (j+1)).filter (λx=>Txt.item x 0=="/")=(((st.2 i).map (Bo i)).take j).filter (λx=>Txt.item x 0=="/")++[w].filter λx=>Txt.item x 0=="/":=by refine Aa List.take_add_one (Aa hw2 ((List.filter_append ..).trans ?_));rfl
   refine CD (I7) (KX w1) ?_ (Nat.le_trans w2 (by decide));refine BB.mk (λh=>?_) λh=>?_
   ·exact⟨by refine Aa sn (Aa a1 (Aa (List.filter_cons_of_pos (p:=λx=>Txt.item x 0=="/") h) (Aa List.map_append ?_)));rfl,rfl⟩
   ·exact⟨by exact Aa sn (a1.trans (Aa (List.filter_cons_of_neg (p:=λx=>Txt.item x 0=="/") (by rw[h];decide)) (Aa List.filter_nil (Aa (List.append_nil ..) rfl)))),rfl⟩
  case fc=>
   refine oA h λa1 ho1=>?_;subst ho1;have a2:ys=(pl i).map BC:=by
    refine a1.trans (Aa (List.length_map ..) (Aa (show(((st.2 i).map (Bo i)).take ((st.2 i).map (Bo i)).length)=(st.2 i).map (Bo i) from List.take_length) (Aa (H.pre i hi) (List.map_map.trans ?_))));rfl
   subst a2;refine oA (H.pl4 i hi) λp1 p2=>?_;refine⟨T,_,rfl,.inl Ac,by refine Aa (List.length_map ..) ?_;exact TA p1,Ad hbm2 hT,?_⟩;refine Zv ((lk.room rm).less (by decide) (by decide)) xb dxb (R1.mono (Am.put hT)) loD hi p2 (Nat.le_trans p1 (by decide)) (H.suc i (Nat.le_of_lt hi)) λl9 kvs inf su dd R9=>?_;exact fin _ _ ⟨(kvs,inf,su,dd),by dsimp only;refine Aa Gn ?_;exact R9,rfl⟩
 case d1=>
  clear g0 v4;rintro ⟨kvs,inf,su,dd⟩ l R;dsimp only at R;rw[H.gf] at R;refine Md bs ho0 (rm.less (by decide) (by decide)) xb dxb R loD H.cl H.suc4 λbb l7 Rd S hbb=>?_;refine Sn (z:=mn) ((λb o h=>S.g.ex _ _ (fb2 b o h)) _ _ b1.lv) H.mn1 H.mn2 ?_;have eb:(bb != (mn == -1))=false:=by
   rcases hbb with ⟨rfl,hr⟩ | ⟨rfl,hr⟩
   ·refine Aa (H.yes hr) ?_;rfl
   ·simpa using (λe=>H.no e hr)
  refine PE (.f eb ?_);exact⟨pc0,ll,lv,rl,q2,rr,x,dx,D,Rd,kvs,inf,su,dd,del dx base,rfl,b1.mono fb2,S⟩
theorem FH:(Co G l).succ=G.succ:=by
 unfold Co
 induction l generalizing G with
 |nil=>rfl
 |cons a r ih=>exact ih
theorem TN.len(h:TN k G rd RS):rd.length≤100:=by
 cases k with
 |zero=>refine Aa h.1 ?_;exact Nat.zero_le _
 |succ k=>
  rcases h with h | h
  ·refine Aa h.1 ?_;exact Nat.zero_le _
  ·exact h.2.2.1
theorem TN.nil(h:TN k G [] RS):RS=[]:=by
 cases k with
 |zero=>exact h.2
 |succ k=>
  rcases h with h | h
  ·exact h.2
  ·exact absurd rfl h.1
noncomputable abbrev bE:=Lg×List Value×List (List Nat)×Gr×List Nat×Int
noncomputable def lqV(pc0 ll lv rl x ro:Addr)(ch:Str)(_:bE):List Value:=[.ref pc0,Al ch,.ref ll,.ref lv,.ref rl,.ref x,.ref ro]
structure LqI(B0:Lg)(ro x dx D Rd:Addr)(kvs:List (Str×Value))(inf su dd:Nat→Addr)(Gf:Gr)(RS:List (List Nat))(k:Nat)(s:bE)(l:Lg):Prop where
 a:DC (put ro (.lst s.2.1) s.1) l x dx D Rd kvs s.2.2.2.1 inf su dd s.2.2.2.2.2 s.2.2.2.2.2 s.2.2.2.2.1
 b:Am B0 s.1
 c:s.1 ro=none
 d:Ch (Kx s.1) s.2.1 s.2.2.1
 e:∃RS',TN k s.2.2.2.1 s.2.2.2.2.1 RS'∧s.2.2.1++RS'=RS
 f:s.2.2.2.1.nodes=Gf.nodes
 g:s.2.2.2.1.succ=Gf.succ
 h:s.2.1.length+k≤9
 i:s.2.2.2.2.1.length≤1000
theorem Vd{P:Params}{st:AK}{lt:AI}{ch:Str}{pl:Nat→List Nat}{mn:Int}{RS:List (List Nat)}{Gf:Gr}(H:Sz st lt pl mn RS Gf):Z2 P 8 2 (J2 st lt ch Gf) (J3 st lt ch RS):=by
 refine' Hw ?ho ?_
 case ho=>k_is
 rintro c ⟨hw,hr,bs,ho0,rm⟩ ps l ⟨pc0,ll,lv,rl,q2,rr,x,dx,D,Rd,kvs,inf,su,dd,B0,hps,b1,S⟩;refine AE.weak (Bb hps) ?_;clear hps ps;refine A7 hr 60 30 ?_;refine(?_:HS 30 60 c _ [_,_] _ _ _);refine Ay λro hro=>?_;have fro:B0 ro=none:=Ak S.g.ex hro;have S1:=S.push (o:=.lst []) hro;refine GC (σ:=bE) 60 30 ["places","letter","laid","level","read","sorter","rounds"] (lqV pc0 ll lv rl x ro ch)
  (LqI B0 ro x dx D Rd kvs inf su dd Gf RS)
  hr 9 (B0,[],[],Gf,Eh (Gf),0) ⟨S1,Am.rfl,fro,trivial,⟨RS,H.ko,rfl⟩,rfl,rfl,Nat.le_refl _,Nat.le_trans (List.length_filter_le ..) (Nat.le_trans (CZ 4 _ S.g.nodup S.g.lt) (by decide))⟩ rfl ?t2
 clear S1 fro hro S;rintro k ⟨B,ws,rs,G,rd,pa⟩ l ⟨S,xB,fB,fa,⟨RS',ko,eRS⟩,eN,eS,hk,hrd⟩ Y M _ _ _ fin;dsimp only at S xB fB fa ko eRS eN eS hk hrd;refine BF (f:=331) S.hx S.hdx rfl ?_ (rfl);refine Qf (rm.less (by decide) (by decide)) S hrd ?_;refine BB.mk (λh=>?_) λh=>?_
 ·have hne:rd≠[]:=by
   rintro rfl;simp at h
  cases k with
  |zero=>exact absurd ko.1 hne
  |succ k=>
   refine QT (ko.resolve_left λh=>hne h.1) λz_ k1 k2 k3 RS2 k4 k5=>?_;have hwl:=S.g.ex _ _ (Ac:put ro (.lst ws) B ro=_);refine Aw PySem.F.slot_list_append PySem.F.type_list_append hwl ?_;refine BF (f:=324) S.hx S.hdx rfl ?_ (rfl);refine QH (rm.less (by decide) (by decide)) S hrd hne k1 λT l2 hTn S2 hT2=>?_;have nT:T≠ro:=λe=>by rw[e,hwl] at hTn;contradiction
   have fT:B T=none:=(AF (Ak S.g.ex hTn)).1;refine Au (S2.g.ex _ _ (Ab Ac (Ne.symm nT))) ?_ (aN (zv 0) (zn 1000000) [(0,1,za (zv 0) (za (zv 1) (zn 1)),zn 9)] rfl (Az _ _) Ae hk);have S3:=S2.chg (ro:=ro) (vs:=ws) (us:=ws++[.ref T]) (Ab Ac (Ne.symm nT));rw[QK] at S3;have hT3:put ro (.lst (ws++[.ref T])) l2 T=some (.tup (rd.map BC)):=Ab hT2 nT;have hr3:put ro (.lst (ws++[.ref T])) l2 ro=some (.lst (ws++[.ref T])):=Ac;generalize put ro (.lst (ws++[.ref T])) l2=l3 at S3 hT3 hr3;clear S2 hT2 hTn hwl S;refine Mp (f:=345) 30 rfl ?_ (rfl);refine GZ (f:=345) S3.hx S3.hdx rfl (rfl) λbm hbm=>?_;refine⟨bm,rfl,?_⟩;refine Db (Ad hr3 hbm) ?_;refine⟨T,_,rfl,.inr (Ad hT3 hbm),by refine Aa (List.length_map ..) ?_;exact TA k2,Ac,?_⟩;have hs1:(Co G rd).succ=Gf.succ:=FH.trans eS;have hn1:(Co G rd).nodes=Gf.nodes:=DH.trans eN;refine V0 (rm.less (by decide) (by decide)) (S3.mono (Am.put hbm)) (Nat.zero_le _) k2 (λi a ha=>⟨by refine Aa DH ?_;exact k1 a (List.mem_of_getElem? ha),k3 i a ha⟩) (by refine Aa hs1 (Aa hn1 ?_);exact H.cl) (by refine Aa hs1 (Aa hn1 ?_);exact H.suc4) λl4 S5=>?_;have hs2:(BA (Co G rd,[]) rd).1.succ=Gf.succ:=Dd.2.trans hs1;have hn2:(BA (Co G rd,[]) rd).1.nodes=Gf.nodes:=Dd.1.trans hn1;have hl2:=k5.len;generalize BA (Co G rd,[]) rd=z at S5 k5 hs2 hn2 hl2;refine fin _ _ ⟨k,Nat.lt_succ_self k,(put T (.tup (rd.map BC)) B,ws++[.ref T],rs++[rd],z.1,z.2,pa+rd.length),⟨S5,xB.trans (Am.put fT),A0 fB (Ne.symm nT),(fa.mono λa b hX=>An hX λq h1 h2=>⟨q,h1,Am.put fT _ _ h2⟩).snoc ⟨T,rfl,Ac⟩,⟨RS2,k5,by refine AV eRS (Aa k4 ((List.append_assoc ..).trans ?_));rfl⟩,hn2,hs2,?_,Nat.le_trans hl2 (by decide)⟩,rfl⟩;dsimp only;refine Aa List.length_append (Aa List.length_singleton ?_);exact aN (za (za (zv 0) (zn 1)) (zv 1)) (zn 9) [(0,1,za (zv 0) (za (zv 1) (zn 1)),zn 9)] rfl (Az _ _) Ae hk
 ·have hne:rd=[]:=by
   cases rd with
   |nil=>rfl
   |cons a r=>simp at h
  subst hne;have e0:=ko.nil;subst e0;replace eRS:=(List.append_nil ..).symm.trans eRS;subst eRS;have eB:Am B l:=λa o h=>S.g.ex _ _ (Ab h (Ag h fB));exact⟨pc0,ll,lv,rl,q2,rr,ro,ws,rfl,b1.mono λa o h=>eB _ _ (xB _ _ h),S.g.ex _ _ Ac,fa.mono λa b hX=>An hX λq h1 h2=>⟨q,h1,eB _ _ h2⟩⟩
noncomputable def E4(lv:List Int)(k:Nat)(n:Nat):List Nat:=(List.range n).filter λf=>lv.getD f 0==(k:Int)
noncomputable def Zf(lv:List Int)(k:Nat):Dat:=.list ((E4 lv k 4).map λf=>.str (Ah f))
structure Z4(lt:AI)(RS:List (List Nat))(M:Int):Prop where
 len:lt.1.length=4
 m1:M∈lt.1
 m2:∀a∈lt.1,a≤M
 mT:M+1=RS.length
 T9:RS.length≤9
 lt4:∀g∈RS,∀f∈g,f<4
 grp:∀i g,RS[i]?=some g→g.length<64∧∀ys,ys.Perm (g.map Ah)→sortedS ys=true→ys=(E4 lt.1 i 4).map Ah
noncomputable def Z6(lv:List Int)(b:Lg)(i:Nat)(ys:List Value)(l:Lg):Prop:=Am b l∧Jm 2 l ys ((List.range i).map (Zf lv))
theorem Oa(hf:f<4):kqdOk 7 (.str (Ah f))=true:=M7 hf (by decide +kernel) (by decide +kernel) (by decide +kernel) (by decide +kernel)
noncomputable def MG(g:List Nat):Dat:=.tuple (g.map λf=>.str (Ah f))
theorem RE(k:Ch (Kx l) ws RS):Jm 2 l ws (RS.map MG):=
 Ch.ind (P:=λws RS=>Jm 2 l ws (RS.map MG)) trivial (λw g ws RS h _ ih=>An h λT h1 h2=>(⟨⟨T,_,h1,h2,by
  have:=Ha (n:=0) (l:=l) (ds:=g.map λf=>Dat.str (Ah f)) (by refine Aa List.all_map ?_;exact List.all_eq_true.mpr λz_ z_=>rfl);rw[List.map_map] at this;exact this⟩,ih⟩:Ch (Qo 2 l) (w::ws) (MG g::RS.map MG))) k
theorem Vb{P:Params}{st:AK}{lt:AI}{ch:Str}{RS:List (List Nat)}{M:Int}(H:Z4 lt RS M):Z2 P 10 2 (J3 st lt ch RS) (J3 st lt ch RS):=by
 refine' Hw ?ho ?_
 case ho=>k_is
 rintro c ⟨hw,hr,bs,ho0,rm⟩ ps l ⟨pc0,ll,lv,rl,q2,rr,ro,ws,hps,b1,hro,hg⟩;refine AE.weak (Bb hps) ?_;clear hps ps;refine A7 hr 60 30 ?_;refine(?_:HS 30 60 c _ [_,_] _ _ _);refine Lz hr 30 ?_ ?hsw1
 case hsw1=>exact Bq λz_=>rfl
 refine LA (z:=M) b1.lv H.m1 H.m2 ?_;refine CQ λrg hrg=>?_;have x4:Am l (put rg (.rng 0 (M+1)) l):=Am.put hrg;have v4:put rg (.rng 0 (M+1)) l rg=some (.rng 0 (M+1)):=Ac;generalize put rg (.rng 0 (M+1)) l=l4 at x4 v4;have hT:=H.T9;have hmT:=H.mT;refine Cy.mono (Ea 30 (λi ys l=>Z6 lt.1 l4 i ys l) v4 RS.length (.inl (by lia)) (by lia) ⟨Am.rfl,trivial⟩ (by lia) ?tn1 (hown:=.inr ⟨rfl,λz_=>rfl⟩)) ?fn1
 case tn1=>
  intro c2 e1 e2 i z ys l5 hi hz ⟨x5,d5⟩;rw[Int.zero_add] at hz;subst hz;refine EX 30 ?_;refine CQ λrg2 hrg2=>?_;have x6:Am l4 (put rg2 (.rng 0 4) l5):=x5.trans (Am.put hrg2);have d6:=Bt (Am.put hrg2 (o:=.rng 0 4)) d5;have v6:put rg2 (.rng 0 4) l5 rg2=some (.rng 0 4):=Ac;generalize put rg2 (.rng 0 4) l5=l6 at x6 d6 v6;refine Cy.mono (Ea 30 (λj ys l=>ys=(E4 lt.1 i j).map BC∧l=l6) v6 4 (.inl rfl) (by decide) ⟨rfl,rfl⟩ (by decide) ?tn2 (hown:=.inl ⟨rfl,λz_=>rfl⟩)) ?fn2
  case tn2=>
   intro c3 e3 e4 f z ys2 l7 hf hz ⟨a1,a2⟩;rw[Int.zero_add] at hz;subst hz a2;have hb:∀b o,l b=some o→l7 b=some o:=λb o h=>x6 _ _ (x4 _ _ h);refine AG (x:=zV (lt.1.getD f 0)) (hb _ _ b1.lv) rfl (by refine Aa (List.getElem?_map) (Aa (List.getD_eq_getElem?_getD) (Aa (List.getElem?_eq_getElem (UN hf H.len)) ?_));rfl) ?_ (Cu hf);have sn:E4 lt.1 i (f+1)=E4 lt.1 i f++[f].filter λf=>lt.1.getD f 0==(i:Int):=by unfold E4;exact Aa List.range_succ (Aa (List.filter_append ..) rfl)
   refine BB.mk (λh=>?_) λh=>?_
   ·refine AG (x:=Al (Ah f)) (hb _ _ b1.pc) rfl (BP hf) ?_ (Cu hf);exact⟨by refine Aa sn (Aa a1 (Aa (List.filter_cons_of_pos (p:=λf=>lt.1.getD f 0==(i:Int)) h) (Aa List.map_append ?_)));rfl,rfl⟩
   ·exact⟨by exact Aa sn (Aa a1 (Aa (List.filter_cons_of_neg (p:=λf=>lt.1.getD f 0==(i:Int)) (by rw[h];decide)) (Aa List.filter_nil (Aa (List.append_nil ..) rfl)))),rfl⟩
  case fn2=>
   rintro ys2 l7 ⟨a1,rfl⟩ D hD;subst a1;refine⟨x6.trans (Am.put hD),?_⟩;refine Aa List.range_succ (Aa List.map_append ?_);refine(Bt (Am.put hD) d6).snoc ⟨D,_,rfl,Ac,?_⟩;have:=Ha (n:=0) (l:=put D (.lst ((E4 lt.1 i 4).map BC)) l7) (ds:=(E4 lt.1 i 4).map λf=>Dat.str (Ah f)) (by refine Aa List.all_map ?_;exact List.all_eq_true.mpr λz_ z_=>rfl);rw[List.map_map] at this;exact this
 case fn1=>
  rintro ys l5 ⟨x5,d5⟩ D hD;have hb:∀b o,l b=some o→put D (.lst ys) l5 b=some o:=λb o h=>(Am.put hD) _ _ (x5 _ _ (x4 _ _ h));have dD:=Bt (Am.put hD (o:=.lst ys)) d5;have vD:put D (.lst ys) l5 D=some (.lst ys):=Ac;generalize put D (.lst ys) l5=l6 at hb dD vD;refine EX 30 ?_;have hro6:=hb _ _ hro;have hg6:Ch (Kx l6) ws RS:=hg.mono λz_ z_ hz1=>by refine An hz1 λT h1 h2=>?_;exact⟨T,h1,hb _ _ h2⟩
  have hwl:ws.length=RS.length:=hg.length;refine Cy.mono (De 30 (λi ys l=>Z6 lt.1 l6 i ys l) hro6 ⟨Am.rfl,trivial⟩ (λi ys l h=>h.1 _ _ hro6) (T8 hT hwl) ?tn3 (hown:=.inl ⟨rfl,λz_=>rfl⟩)) ?fn3
  case tn3=>
   intro c2 e1 e2 i v ys7 l7 hi hv ⟨x7,d7⟩;obtain⟨g,hgi⟩:∃g,RS[i]?=some g:=⟨_,List.getElem?_eq_getElem (KW hwl hi)⟩;refine BY (hg6.get hgi) λv' hv' T ho3 hT=>?_;subst ho3;rw[hv] at hv';obtain rfl:=Option.some.inj hv';refine oA (H.grp i g hgi) λg1 g2=>?_;refine Kn (xs:=g.map Ah) (by refine Aa List.map_map ?_;exact x7 _ _ hT) (by refine Aa (List.length_map ..) ?_;exact g1) λD2 zs hD2 hp hs=>?_;refine⟨x7.trans (Am.put hD2),?_⟩;refine Aa List.range_succ (Aa List.map_append ?_);refine(Bt (Am.put hD2) d7).snoc ⟨D2,_,rfl,Ac,?_⟩;refine Aa (g2 zs hp hs) (Aa List.map_map ?_);have:=Ha (n:=0) (l:=put D2 (.lst ((E4 lt.1 i 4).map BC)) l7) (ds:=(E4 lt.1 i 4).map λf=>Dat.str (Ah f)) (by refine Aa List.all_map ?_;exact List.all_eq_true.mpr λz_ z_=>rfl);rw[List.map_map] at this;exact this
  case fn3=>
   rintro ys7 l7 ⟨x7,d7⟩ D2 hD2;rw[hwl] at d7;have dk:∀d∈(List.range RS.length).map (Zf lt.1),kqdOk 8 d=true:=λd hd=>by
    refine An (List.mem_map.mp hd) λk z_ ho2=>?_;subst ho2;refine(?_:List.all _ _=true);refine Aa List.all_map ?_;exact List.all_eq_true.mpr λf hf=>Oa (List.mem_range.mp (List.mem_filter.mp hf).1)
   have rm1:c.un+64<cLine:=Nat.lt_of_le_of_lt (Nat.add_le_add_left (by decide) _) rm.2;have hro7:put D2 (.lst ys7) l7 ro=some (.lst ws):=Ad (x7 _ _ hro6) hD2;have hb7:∀b o,l b=some o→put D2 (.lst ys7) l7 b=some o:=λb o h=>Ad (x7 _ _ (hb _ _ h)) hD2;refine EY (r:=false) Ac (Ad (x7 _ _ vD) hD2) (Bt (Am.put hD2) d7) (Bt (x7.trans (Am.put hD2)) dD) dk dk rm1 (by simp) (.f rfl ?_);generalize put D2 (.lst ys7) l7=l8 at hro7 hb7;have hg8:Ch (Kx l8) ws RS:=hg.mono λz_ z_ hz2=>by refine An hz2 λT h1 h2=>?_;exact⟨T,h1,hb7 _ _ h2⟩
   refine EX 30 ?_;refine Cy.mono (De 30 (λi ys l=>ys=ws.take i∧l=l8) hro7 ⟨rfl,rfl⟩ (λi ys l h=>h.2▸hro7) (T8 hT hwl) ?tn4 (hown:=.inl ⟨rfl,λz_=>rfl⟩)) ?fn4
   case tn4=>
    intro c2 e1 e2 i v ys9 l9 hi hv ⟨a1,a2⟩;subst a2;obtain⟨g,hgi⟩:∃g,RS[i]?=some g:=⟨_,List.getElem?_eq_getElem (KW hwl hi)⟩;refine BY (hg8.get hgi) λv' hv' T ho3 hT=>?_;subst ho3;rw[hv] at hv';obtain rfl:=Option.some.inj hv';refine Nv hT ?_;exact⟨by refine Aa a1 (Aa List.take_add_one (Aa hv ?_));rfl,rfl⟩
   case fn4=>
    rintro ys9 l9 ⟨a1,rfl⟩ D3 hD3;rw[List.take_length] at a1;subst a1;have dw:Jm 2 (put D3 (.lst ys9) l9) ys9 (RS.map MG):=RE (hg8.mono λz_ z_ hz3=>by refine An hz3 λT h1 h2=>?_;exact⟨T,h1,Ad h2 hD3⟩);have dk2:∀d∈RS.map MG,kqdOk 8 d=true:=λd hd=>by
     refine An (List.mem_map.mp hd) λg hg9 ho2=>?_;subst ho2;refine(?_:List.all _ _=true);refine Aa List.all_map ?_;exact List.all_eq_true.mpr λf hf=>Oa (H.lt4 g hg9 f hf)
    refine EY (r:=false) (Ad hro7 hD3) Ac dw dw dk2 dk2 rm1 (by simp) (.f rfl (.f rfl ?_));exact⟨pc0,ll,lv,rl,q2,rr,ro,ys9,rfl,b1.mono λa o h=>Ad (hb7 _ _ h) hD3,Ad hro7 hD3,hg8.mono λz_ z_ hz4=>by refine An hz4 λT h1 h2=>?_;exact⟨T,h1,Ad h2 hD3⟩⟩
section
open PySem PySem.W
theorem VG{α:Type}{key:α→Nat}{c:α→AJ}(hc:∀a,(c a).2.2=key a){s0:AJ}(h0:s0.2.2=0)(L:List α) :
  (∀a∈L,key a≤(L.foldl (λst a=>if key a>st.2.2 then c a else st) s0).2.2)∧(L.foldl (λst a=>if key a>st.2.2 then c a else st) s0=s0∨∃L1 a L2,L=L1++a::L2∧L.foldl (λst a=>if key a>st.2.2 then c a else st) s0=c a∧0<key a∧∀b∈L1,key b<key a):=by
 suffices H:∀(L1 L2:List α) (s:AJ),((∀a∈L1,key a≤s.2.2)∧(s=s0∨∃M1 a M2,L1=M1++a::M2∧s=c a∧0<key a∧∀b∈M1,key b<key a))→(∀a∈L1++L2,key a≤(L2.foldl (λst a=>if key a>st.2.2 then c a else st) s).2.2)∧(L2.foldl (λst a=>if key a>st.2.2 then c a else st) s=s0∨∃M1 a M2,L1++L2=M1++a::M2∧L2.foldl (λst a=>if key a>st.2.2 then c a else st) s=c a∧0<key a∧∀b∈M1,key b<key a) by
  exact H [] L s0 ⟨(λz_ h=>by contradiction),.inl rfl⟩
 intro L1 L2
 induction L2 generalizing L1 with
 |nil=>intro s h;rw[List.append_nil];exact h
 |cons a L2 ih=>
  intro s ⟨h1,h2⟩;have:=ih (L1++[a]) (if key a>s.2.2 then c a else s) (by
   split
   ·rename_i hg;refine⟨λb hb=>?_,.inr ⟨L1,a,[],rfl,rfl,aN (za (zn 0) (zn 1)) (zv 0) [(0,1,za (zv 1) (zn 1),zv 0)] rfl (Az _ _) Ae hg,λb hb=>by have:=h1 b hb;exact Nat.lt_of_le_of_lt (by assumption) (by assumption)⟩⟩;rw[hc];rcases List.mem_append.mp hb with hb | hb
    ·have:=h1 b hb;exact aN (zv 0) (zv 1) [(0,1,za (zv 2) (zn 1),zv 1),(0,1,zv 0,zv 2)] rfl (AH _ _ _) Ae hg this
    ·rw[List.mem_singleton.mp hb];exact Nat.le_refl _
   ·rename_i hg;refine⟨λb hb=>?_,h2.imp id λhX=>SL hX λM1 x M2 e r=>⟨M1,x,M2++[a],by rw[e,List.append_assoc];rfl,r⟩⟩;rcases List.mem_append.mp hb with hb | hb
    ·exact h1 b hb
    ·rw[List.mem_singleton.mp hb];exact Nat.not_lt.mp (by assumption))
  rw[List.append_assoc] at this;exact this
section
theorem L7:∀{t i j:Nat},t≤cm xs ys alo blo i j→cm xs ys alo blo i j=t+cm xs ys alo blo (i-t) (j-t)∧∀u,u<t→alo≤i-1-u∧blo≤j-1-u∧i-1-u<xs.length∧xs[i-1-u]?=ys[j-1-u]?:=by
 intro t
 induction t with
 |zero=>intro i j _;exact⟨by simp,λu hu=>absurd hu (Nat.not_lt_zero _)⟩
 |succ t ih=>
  intro i j h
  cases i with
  |zero=>simp[cm] at h
  |succ i=>
   cases j with
   |zero=>simp[cm] at h
   |succ j=>
    rw[cm] at h ⊢;split at h
    ·rename_i hc;rw[if_pos hc];obtain⟨e1,e2⟩:=ih (i:=i) (j:=j) (Nat.le_of_lt_succ (by assumption));refine⟨by rw[e1];simp only[Nat.add_sub_add_right];exact Nat.add_right_comm _ _ _,λu hu=>?_⟩
     cases u with
     |zero=>exact⟨hc.1,hc.2.1,hc.2.2.1,hc.2.2.2⟩
     |succ u=>
      rw[(by lia:i+1-1-(u+1)=i-1-u),(by lia:j+1-1-(u+1)=j-1-u)];exact(e2 u (Nat.le_of_lt_succ (by assumption)))
    ·contradiction
theorem Zn(h1:alo≤s)(h2:blo≤u):∀{k:Nat},s+k≤xs.length→(∀t,t<k→xs[s+t]?=ys[u+t]?)→k≤cm xs ys alo blo (s+k) (u+k):=by
 intro k
 induction k with
 |zero=>intros;exact Nat.zero_le _
 |succ k ih=>
  intro hl h;show k+1≤cm xs ys alo blo (s+k+1) (u+k+1);rw[cm,if_pos ⟨by exact GQ h1,GQ h2,by assumption,h k (Nat.lt_succ_self _)⟩];have:=ih (Nat.le_of_lt (by assumption)) λt ht=>h t (Nat.le_succ_of_le (by assumption));exact Nat.lt_succ_of_le (by assumption)
noncomputable def NY(xs ys:List Str)(alo blo bhi n:Nat):List (Nat×Nat):=(List.range' alo n).flatMap λi=>((Bp ys (xs.getD i Str.empty)).filter λj=>decide (j<bhi) && !decide (j<blo)).map λj=>(i,j)
theorem NX:DP xs ys alo blo bhi n=(NY xs ys alo blo bhi n).foldl (λst p=>if cm xs ys alo blo p.1 p.2+1>st.2.2 then (p.1-cm xs ys alo blo p.1 p.2,p.2-cm xs ys alo blo p.1 p.2,cm xs ys alo blo p.1 p.2+1) else st) (alo,blo,0):=by
 unfold DP NY;rw[List.foldl_flatMap];congr 1
 funext st i
 unfold RK;rw[List.foldl_map,List.foldl_filter,List.foldl_filter];congr 1
 funext st j
 unfold JW;by_cases h1:j<bhi<;>by_cases h2:j<blo<;>simp[h1,h2]
theorem QL:(i,j)∈NY xs ys alo blo bhi n↔(alo≤i∧i<alo+n)∧(j<bhi∧blo≤j)∧ys[j]?=some (xs.getD i Str.empty):=by
 unfold NY;simp only[List.mem_flatMap,List.mem_range'_1,List.mem_map,List.mem_filter,Ey,Bool.and_eq_true,decide_eq_true_eq,Bool.not_eq_true',decide_eq_false_iff_not,Nat.not_lt,Prod.mk.injEq];constructor
 ·rintro ⟨a,h1,b,⟨h2,h3⟩,rfl,rfl⟩;exact⟨h1,h3,h2⟩
 ·rintro ⟨h1,h3,h2⟩;exact⟨i,h1,j,⟨h2,h3⟩,rfl,rfl⟩
noncomputable def YI(a b:Nat×Nat):Prop:=a.1<b.1∨(a.1=b.1∧a.2<b.2)
theorem QM:(NY xs ys alo blo bhi n).Pairwise YI:=by
 unfold NY;rw[List.pairwise_flatMap];refine⟨λi z_=>?_,?_⟩
 ·rw[List.pairwise_map];exact(List.Pairwise.filter _ Dz).imp λh=>.inr ⟨rfl,h⟩
 ·refine(List.pairwise_lt_range').imp λ{a b} h x hx y hy=>.inl ?_;obtain⟨u,_,rfl⟩:=List.mem_map.mp hx;obtain⟨v,_,rfl⟩:=List.mem_map.mp hy;exact h
structure TP(xs ys:List Str)(r:Rg)(f:AJ):Prop where
 b1:r.1≤f.1
 b2:f.1+f.2.2≤r.2.1
 b3:r.2.2.1≤f.2.1
 b4:f.2.1+f.2.2≤r.2.2.2
 cm:cm xs ys r.1 r.2.2.1 (f.1+f.2.2) (f.2.1+f.2.2)=f.2.2
 top:∀i j,r.1≤i→i<r.2.1→r.2.2.1≤j→j<r.2.2.2→xs[i]?=ys[j]?→Mine.Internal.cm xs ys r.1 r.2.2.1 (i+1) (j+1)≤f.2.2∧((i+1<f.1+f.2.2∨i+1=f.1+f.2.2∧j+1<f.2.1+f.2.2)→Mine.Internal.cm xs ys r.1 r.2.2.1 (i+1) (j+1)<f.2.2)
theorem JV{r:Rg}(hr:Jj xs ys r):TP xs ys r (BD xs ys r):=by
 obtain⟨alo,ahi,blo,bhi⟩:=r;obtain⟨r1,r2,r3,r4⟩:=hr;dsimp only at r1 r2 r3 r4;unfold BD;dsimp only;rw[NX];have hgt:∀i,i<ahi→xs[i]?=some (xs.getD i Str.empty):=λi hi=>by
  rw[List.getD_eq_getElem?_getD,List.getElem?_eq_getElem (Nat.le_trans (by assumption) (by assumption))];rfl
 have hin:∀{i j},(i,j)∈NY xs ys alo blo bhi (ahi-alo)↔alo≤i∧i<ahi∧blo≤j∧j<bhi∧xs[i]?=ys[j]?:=λ{i j}=>by
  rw[QL];constructor
  ·rintro ⟨⟨h1,h2⟩,⟨h3,h4⟩,h5⟩;exact⟨h1,Ty r1 h2,h4,h3,by rw[h5];exact hgt i (Ty r1 h2)⟩
  ·rintro ⟨h1,h2,h3,h4,h5⟩;exact⟨⟨h1,Tx h2⟩,⟨h4,h3⟩,by rw[← h5];exact hgt i h2⟩
 have hcm:∀{i j},(i,j)∈NY xs ys alo blo bhi (ahi-alo)→Mine.Internal.cm xs ys alo blo (i+1) (j+1)=Mine.Internal.cm xs ys alo blo i j+1:=λ{i j} h=>by
  obtain⟨h1,h2,h3,h4,h5⟩:=hin.mp h;rw[Mine.Internal.cm,if_pos ⟨h1,h3,Nat.le_trans (by assumption) (by assumption),h5⟩]
 obtain⟨a1,a2⟩:=VG (key:=λp:Nat×Nat=>Mine.Internal.cm xs ys alo blo p.1 p.2+1) (c:=λp=>(p.1-Mine.Internal.cm xs ys alo blo p.1 p.2,p.2-Mine.Internal.cm xs ys alo blo p.1 p.2,Mine.Internal.cm xs ys alo blo p.1 p.2+1)) (λz_=>rfl) (s0:=(alo,blo,0)) rfl (NY xs ys alo blo bhi (ahi-alo));generalize List.foldl _ _ _=f at a1 a2 ⊢;have t1:∀i j,alo≤i→i<ahi→blo≤j→j<bhi→xs[i]?=ys[j]?→(i,j)∈NY xs ys alo blo bhi (ahi-alo):=λi j h1 h2 h3 h4 h5=>hin.mpr ⟨h1,h2,h3,h4,h5⟩;rcases a2 with rfl | ⟨L1,⟨i,j⟩,L2,e,rfl,_,h2⟩
 ·refine⟨Nat.le_refl _,r1,Nat.le_refl _,r3,?_,λi j h1 h2 h3 h4 h5=>?_⟩
  ·dsimp only;exact YA ((IS (xs:=xs) (ys:=ys) (alo:=alo) (blo:=blo) (i:=alo+0) (j:=blo+0)).1)
  ·have:=a1 _ (t1 i j h1 h2 h3 h4 h5);dsimp only at this;contradiction
 ·have hm:(i,j)∈NY xs ys alo blo bhi (ahi-alo):=by rw[e];simp
  obtain⟨h3,h4,h5,h6,h7⟩:=hin.mp hm;have hc:=IS (xs:=xs) (ys:=ys) (alo:=alo) (blo:=blo) (i:=i) (j:=j);have q1:i-Mine.Internal.cm xs ys alo blo i j+(Mine.Internal.cm xs ys alo blo i j+1)=i+1:=Y9 hc;have q2:j-Mine.Internal.cm xs ys alo blo i j+(Mine.Internal.cm xs ys alo blo i j+1)=j+1:=Y8 hc;refine⟨by dsimp only;exact Y7 h3 hc,by dsimp only;exact Tw h4 q1,by dsimp only;exact Y6 h5 hc,by dsimp only;exact Tw h6 q2,?_,λi' j' g1 g2 g3 g4 g5=>?_⟩
  ·dsimp only;rw[q1,q2,hcm hm]
  ·have hm':=t1 i' j' g1 g2 g3 g4 g5;dsimp only;rw[q1,q2,hcm hm'];refine⟨a1 _ hm',λhb=>?_⟩;refine h2 (i',j') ?_;have hp:=QM (xs:=xs) (ys:=ys) (alo:=alo) (blo:=blo) (bhi:=bhi) (n:=ahi-alo);rw[e] at hm' hp;rcases List.mem_append.mp hm' with h | h
   ·exact h
   ·rcases List.mem_cons.mp h with h | h
    ·cases h;exact Y5 hb
    ·have h8:=(List.pairwise_cons.mp (List.pairwise_append.mp hp).2.1).1 _ h;rcases h8 with h8 | h8<;>dsimp only at h8<;>(first | exact Y4 hb h8 | exact Y1 hb h8)
theorem YZ(hr:Jj xs ys r):Nm xs ys r:=by
 have F:=JV hr;obtain⟨o1,o2,o3,o4⟩:=hr;generalize hf:BD xs ys r=f at F;obtain⟨alo,ahi,blo,bhi⟩:=r;obtain⟨i,j,k⟩:=f;obtain⟨b1,b2,b3,b4,c,top⟩:=F;dsimp only at *;refine⟨by rw[hf];exact b1,by rw[hf];exact b2,by rw[hf];exact b3,by rw[hf];exact b4,?_,?_⟩
 ·rw[hf];dsimp only;intro h1 h2 e;obtain⟨p1,_⟩:=L7 (t:=k) (by rw[c];exact Nat.le_refl _);rw[c,Nat.add_sub_cancel,Nat.add_sub_cancel] at p1;obtain⟨i,rfl⟩:∃z,i=z+1:=⟨i-1,Tv h1⟩;obtain⟨j,rfl⟩:∃z,j=z+1:=⟨j-1,Tv h2⟩;rw[cm,if_pos ⟨by exact Nat.le_of_lt_succ (by assumption),Nat.le_of_lt_succ (by assumption),aN (za (zv 0) (zn 1)) (zv 1) [(0,1,zv 2,zv 1),(0,1,za (za (zv 0) (zn 1)) (zv 3),zv 2)] rfl (Bh _ _ _ _) Ae o2 b2,e⟩] at p1;exact aF [(2,1,zv 0,za (zv 0) (za (zv 1) (zn 1)))] rfl (Az _ _) Ae p1
 ·rw[hf];dsimp only;intro h1 h2 e;have h3:=(top (i+k) (j+k) (GQ b1) h1 (GQ b3) h2 e).1;rw[cm,if_pos ⟨by exact GQ b1,GQ b3,Nat.le_trans (by assumption) (by assumption),e⟩,c] at h3;exact aF [(0,1,za (zv 0) (zn 1),zv 0)] rfl (Av _) Ae h3
end
end
section
open PySem PySem.W
section
variable(xs:List Str)(R:Str→Bool)(d1 d2:Str→Str)
noncomputable def Bg(x:Str):List Str:=if R x=true then [d1 x,d2 x] else [x]
noncomputable def BN(p:Nat):Nat:=((xs.take p).flatMap (Bg R d1 d2)).length
noncomputable def eB(i:Nat):Bool:=match xs[i]? with
 |some x=>!R x
 |none=>false
noncomputable def LR(i:Nat):Bool:=eB xs R i && !(decide (0<i)&&eB xs R (i-1))
noncomputable def AY(a b:Nat):List Nat:=(List.range' a (b-a)).filter (LR xs R)
noncomputable def IX(i:Nat):AJ:=(i,BN xs R d1 d2 i,((xs.drop i).takeWhile λx=>!R x).length)
noncomputable def Bd(p:Nat):Prop:=¬(0<p∧eB xs R (p-1)=true∧eB xs R p=true)
structure Hd(s k:Nat):Prop where
 pos:0<k
 all:∀t,t<k→eB xs R (s+t)=true
 lo:¬(0<s∧eB xs R (s-1)=true)
 hi:eB xs R (s+k)=false
end
section
variable{xs:List Str}{R:Str→Bool}{d1 d2:Str→Str}
theorem DM:eB xs R i=true↔∃x,xs[i]?=some x∧R x=false:=by
 unfold eB
 cases xs[i]? with
 |none=>simp
 |some x=>simp
theorem IN(h:eB xs R i=true):i<xs.length:=by
 refine An (DM.mp h) λx h z_=>?_;exact(List.getElem?_eq_some_iff.mp h).1
theorem Ej(h:xs[p]?=some x):BN xs R d1 d2 (p+1)=BN xs R d1 d2 p+if R x=true then 2 else 1:=by
 unfold BN;refine Aa List.take_add_one (Aa h (Aa List.flatMap_append (List.length_append.trans ?_)));congr 1;refine(?_:([x].flatMap (Bg R d1 d2)).length=_);refine Aa (List.flatMap_singleton ..) ?_;unfold Bg;split<;>rfl
theorem Oe:BN xs R d1 d2 0=0:=rfl
theorem CR(h:xs.length≤p):BN xs R d1 d2 p=(xs.flatMap (Bg R d1 d2)).length:=by
 unfold BN;exact Aa (List.take_of_length_le h) rfl
theorem Of(h:p<xs.length):BN xs R d1 d2 p<BN xs R d1 d2 (p+1):=by
 refine Aa (Ej (List.getElem?_eq_getElem h)) ?_;split<;>solve_by_elim (maxDepth:=3) only [*,Nat.le_of_lt,Nat.lt_of_lt_of_le,Nat.lt_of_le_of_lt,Nat.le_trans]
theorem BW(h:p≤q):BN xs R d1 d2 p≤BN xs R d1 d2 q:=by
 induction q with
 |zero=>refine Aa (Nat.le_zero.mp h) ?_;exact Nat.le_refl _
 |succ q ih=>
  by_cases e:p=q+1
  ·refine Aa e ?_;exact Nat.le_refl _
  ·refine Nat.le_trans (ih (Tu h e)) ?_;by_cases h2:q<xs.length
   ·exact Nat.le_of_lt (Of h2)
   ·refine Aa (CR (Nat.not_lt.mp (by assumption):xs.length≤q)) (Aa (CR (by solve_by_elim (maxDepth:=4) only [*,Nat.le_of_lt,Nat.lt_of_lt_of_le,Nat.lt_of_le_of_lt,Nat.le_trans,Nat.le_succ_of_le,Nat.succ_le_of_lt,Nat.le_of_lt_succ,Nat.lt_succ_of_le,Nat.pos_of_ne_zero,Nat.le_of_not_lt,Nat.lt_of_not_le]:xs.length≤q+1)) ?_);exact Nat.le_refl _
theorem Cn(h:p<q)(hp:p<xs.length):BN xs R d1 d2 p<BN xs R d1 d2 q:=Nat.lt_of_lt_of_le (Of hp) (BW h)
theorem QO(hp:p<xs.length)(hq:q<xs.length)(h:BN xs R d1 d2 p=BN xs R d1 d2 q):p=q:=by
 rcases Nat.lt_trichotomy p q with h1 | h1 | h1
 ·have:=Cn (d1:=d1) (d2:=d2) (R:=R) h1 hp;lia
 ·exact h1
 ·have:=Cn (d1:=d1) (d2:=d2) (R:=R) h1 hq;lia
theorem S7(h:xs[p]?=some x)(i:Nat)(hi:i<(Bg R d1 d2 x).length):(xs.flatMap (Bg R d1 d2))[BN xs R d1 d2 p+i]?=(Bg R d1 d2 x)[i]?:=by
 have hp:=(List.getElem?_eq_some_iff.mp h).1;have e:(xs.flatMap (Bg R d1 d2))=(xs.take p).flatMap (Bg R d1 d2)++(Bg R d1 d2 x++(xs.drop (p+1)).flatMap (Bg R d1 d2)):=by
  conv=>lhs;rw[← List.take_append_drop p xs,List.drop_eq_getElem_cons hp]
  rw[List.flatMap_append,List.flatMap_cons];congr 3;replace h:=(List.getElem?_eq_getElem hp).symm.trans h;exact Option.some.inj h
 rw[e,List.getElem?_append_right (by unfold BN;exact Nat.le_add_right _ _),List.getElem?_append_left (by unfold BN;exact Y0 hi)];congr 1;unfold BN;exact Yz
theorem VV(h:eB xs R p=true):(xs.flatMap (Bg R d1 d2))[BN xs R d1 d2 p]?=xs[p]?:=by
 refine An (DM.mp h) λx h1 h2=>?_;have e:Bg R d1 d2 x=[x]:=by unfold Bg;exact(if_neg (by rw[h2];decide)).trans rfl
 have:=S7 (R:=R) (d1:=d1) (d2:=d2) h1 0 (by refine Aa e ?_;exact Nat.zero_lt_one);rw[e] at this;refine Aa h1 ?_;exact this
theorem Ek(h:∀t,t<k→eB xs R (s+t)=true):BN xs R d1 d2 (s+k)=BN xs R d1 d2 s+k:=by
 induction k with
 |zero=>rfl
 |succ k ih=>
  refine An (DM.mp (h k (Nat.lt_succ_self k))) λx h1 h2=>?_;refine(?_:BN xs R d1 d2 (s+k+1)=_);refine(Ej h1).trans (Aa (if_neg (by rw[h2];decide)) (Aa (ih λt ht=>h t (Nat.le_succ_of_le (by assumption))) ?_));exact Nat.add_assoc _ _ _
theorem Zi(h:j<BN xs R d1 d2 p):∃q x,q<p∧xs[q]?=some x∧∃t,t<(Bg R d1 d2 x).length∧j=BN xs R d1 d2 q+t:=by
 induction p with
 |zero=>rw[Oe] at h;contradiction
 |succ p ih=>
  by_cases h1:j<BN xs R d1 d2 p
  ·refine Ax (ih h1) λq x h2 h3=>?_;exact⟨q,x,Nat.le_succ_of_le (by assumption),h3⟩
  ·by_cases h2:p<xs.length
   ·refine⟨p,_,Nat.lt_succ_self p,List.getElem?_eq_getElem h2,j-BN xs R d1 d2 p,?_,Yy h1⟩;rw[Ej (List.getElem?_eq_getElem h2)] at h;have:(Bg R d1 d2 xs[p]).length=if R xs[p]=true then 2 else 1:=by unfold Bg;split<;>rfl
    refine Aa this ?_;lia
   ·rw[CR (by solve_by_elim (maxDepth:=4) only [*,Nat.le_of_lt,Nat.lt_of_lt_of_le,Nat.lt_of_le_of_lt,Nat.le_trans,Nat.le_succ_of_le,Nat.succ_le_of_lt,Nat.le_of_lt_succ,Nat.lt_succ_of_le,Nat.pos_of_ne_zero,Nat.le_of_not_lt,Nat.lt_of_not_le]:xs.length≤p+1)] at h;rw[CR (Nat.not_lt.mp (by assumption):xs.length≤p)] at h1;exact absurd h h1
variable(hd:∀x∈xs,∀y∈xs,R y=true→d1 y≠x∧d2 y≠x)
include hd
theorem Kh(hi:i<xs.length)(h:xs[i]?=(xs.flatMap (Bg R d1 d2))[j]?):eB xs R i=true∧∃q,j=BN xs R d1 d2 q∧eB xs R q=true:=by
 have hj:j<(xs.flatMap (Bg R d1 d2)).length:=by
  replace h:=(List.getElem?_eq_getElem hi).symm.trans h;exact(List.getElem?_eq_some_iff.mp h.symm).1
 rw[← CR (Nat.le_refl xs.length)] at hj;refine KN (Zi hj) λq x h1 h2 t h3 h4=>?_;have h5:=S7 (R:=R) (d1:=d1) (d2:=d2) h2 t h3;rw[← h4,← h,List.getElem?_eq_getElem hi] at h5;have mi:=List.getElem_mem hi;generalize hz:xs[i]=z at h5 mi;by_cases hR:R x=true
 ·have e:Bg R d1 d2 x=[d1 x,d2 x]:=by unfold Bg;exact(if_pos hR).trans rfl
  rw[e] at h5 h3;refine oA (hd _ mi _ (List.mem_of_getElem? h2) hR) λn1 n2=>?_;rcases t with _ | _ | t
  ·exact absurd (Option.some.inj h5).symm n1
  ·exact absurd (Option.some.inj h5).symm n2
  ·exact absurd h3 (Nat.not_lt.mpr (Nat.le_add_left 2 t))
 ·have hR:R x=false:=by simpa using hR
  have e:Bg R d1 d2 x=[x]:=by unfold Bg;exact(if_neg (by rw[hR];decide)).trans rfl
  rw[e] at h5 h3;have ht:t=0:=by simpa using h3
  subst ht;exact⟨DM.mpr ⟨z,(List.getElem?_eq_getElem hi).trans (Aa hz rfl),by refine Aa (Option.some.inj h5:z=x) ?_;exact hR⟩,q,h4,DM.mpr ⟨x,h2,hR⟩⟩
omit hd
theorem RG:∀{i:Nat},eB xs R i=true→∃s,s≤i∧(∀t,s≤t→t≤i→eB xs R t=true)∧¬(0<s∧eB xs R (s-1)=true):=by
 intro i
 induction i with
 |zero=>exact λh=>⟨0,Nat.le_refl _,λt z_ h2=>by refine Aa (Nat.le_zero.mp h2) ?_;exact h,λh=>absurd h.1 (Nat.lt_irrefl 0)⟩
 |succ i ih=>
  intro h;by_cases h1:eB xs R i=true
  ·refine B7 (ih h1) λs h2 h3 h4=>?_;refine⟨s,Nat.le_succ_of_le (by assumption),λt ht ht2=>?_,h4⟩;by_cases e:t=i+1
   ·refine Aa e ?_;exact h
   ·exact h3 t ht (Tu ht2 e)
  ·exact⟨i+1,Nat.le_refl _,λt g1 g2=>by refine Aa (show t=i+1 by exact Nat.le_antisymm (by assumption) (by assumption)) ?_;exact h,λg=>h1 g.2⟩
theorem YT:∀(n:Nat) {i:Nat},xs.length-i≤n→eB xs R i=true→∃e,i<e∧(∀t,i≤t→t<e→eB xs R t=true)∧eB xs R e=false:=by
 intro n
 induction n with
 |zero=>
  intro i hn h;have:=IN h;exact Yx hn this
 |succ n ih=>
  intro i hn h;by_cases h1:eB xs R (i+1)=true
  ·refine B7 (ih (Yw hn) h1) λe h2 h3 h4=>?_;refine⟨e,Nat.le_of_lt (by assumption),λt ht ht2=>?_,h4⟩;by_cases q:t=i
   ·refine Aa q ?_;exact h
   ·exact h3 t (Yv ht q) ht2
  ·exact⟨i+1,Nat.lt_succ_self i,λt g1 g2=>by refine Aa (show t=i by exact Nat.le_antisymm (aN (zv 0) (zv 1) [(0,1,za (zv 0) (zn 1),za (zv 1) (zn 1))] rfl (Az _ _) Ae g2) (aN (zv 1) (zv 0) [(0,1,zv 1,zv 0)] rfl (Az _ _) Ae g1)) ?_;exact h,by simpa using h1⟩
theorem U2(ha:Bd xs R a)(hb:Bd xs R b)(h1:a≤i)(h2:i<b)(h:eB xs R i=true):∃s k,a≤s∧s≤i∧i<s+k∧s+k≤b∧Hd xs R s k:=by
 refine B7 (RG h) λs s1 s2 s3=>?_;refine B7 (YT _ (Nat.le_refl _) h) λe e1 e2 e3=>?_;refine⟨s,e-s,?_,s1,Tx e1,?_,Yu s1 e1,λt ht=>?_,s3,by refine Aa (show s+(e-s)=e by exact Ts s1 e1) ?_;exact e3⟩
 ·by_cases g:a≤s
  ·exact g
  ·exact absurd ⟨by exact aN (za (zn 0) (zn 1)) (zv 0) [(3,1,zv 0,zv 1)] rfl (Az _ _) Ae g,s2 (a-1) (Yt g) (Ys h1),s2 a (by solve_by_elim (maxDepth:=4) only [*,Nat.le_of_lt,Nat.lt_of_lt_of_le,Nat.lt_of_le_of_lt,Nat.le_trans,Nat.le_succ_of_le,Nat.succ_le_of_lt,Nat.le_of_lt_succ,Nat.lt_succ_of_le,Nat.pos_of_ne_zero,Nat.le_of_not_lt,Nat.lt_of_not_le]) h1⟩ ha
 ·refine Aa (show s+(e-s)=e by exact Ts s1 e1) ?_;by_cases g:e≤b
  ·exact g
  ·refine absurd ⟨by exact OQ h2,?_,e2 b (Nat.le_of_lt (by assumption)) (Nat.not_le.mp (by assumption))⟩ hb;by_cases g2:i≤b-1
   ·exact e2 _ g2 (Yr g)
   ·exact Yq h2 g2
 ·by_cases g:s+t≤i
  ·exact s2 _ (Nat.le_add_right _ _) g
  ·exact e2 _ (by solve_by_elim (maxDepth:=4) only [*,Nat.le_of_lt,Nat.lt_of_lt_of_le,Nat.lt_of_le_of_lt,Nat.le_trans,Nat.le_succ_of_le,Nat.succ_le_of_lt,Nat.le_of_lt_succ,Nat.lt_succ_of_le,Nat.pos_of_ne_zero,Nat.le_of_not_lt,Nat.lt_of_not_le]) (by lia)
theorem J7(h1:a≤s)(hl:s+k≤xs.length)(h:∀t,t<k→eB xs R (s+t)=true):k≤cm xs (xs.flatMap (Bg R d1 d2)) a (BN xs R d1 d2 a) (s+k) (BN xs R d1 d2 s+k):=
 Zn h1 (BW h1) hl λt ht=>by
  exact AV (Ek (d1:=d1) (d2:=d2) λu hu=>h u (Nat.lt_trans (by assumption) (by assumption))) (Aa (VV (h t ht)) rfl)
include hd
theorem TD(ha:Bd xs R a)(hb:Bd xs R b)(hab:a≤b)(hbl:b≤xs.length)(F:TP xs (xs.flatMap (Bg R d1 d2)) (a,b,BN xs R d1 d2 a,BN xs R d1 d2 b) f) :
  (f.2.2=0∧∀i,a≤i→i<b→eB xs R i=false)∨(a≤f.1∧f.1+f.2.2≤b∧f.2.1=BN xs R d1 d2 f.1∧Hd xs R f.1 f.2.2):=by
 obtain⟨I,J,K⟩:=f;obtain⟨b1,b2,b3,b4,c,top⟩:=F;dsimp only at *;have hphib:∀{s k},a≤s→s+k≤b→0<k→(∀t,t<k→eB xs R (s+t)=true)→a≤s+k-1∧s+k-1<b∧BN xs R d1 d2 a≤BN xs R d1 d2 s+k-1∧BN xs R d1 d2 s+k-1<BN xs R d1 d2 b∧xs[s+k-1]?=(xs.flatMap (Bg R d1 d2))[BN xs R d1 d2 s+k-1]?∧s+k-1+1=s+k∧BN xs R d1 d2 s+k-1+1=BN xs R d1 d2 s+k:=λ{s k} g1 g2 g3 g4=>by
  refine⟨by exact Yn g1 g3,Ym g2 g3,Yl g3 (BW (xs:=xs) (R:=R) (d1:=d1) (d2:=d2) g1),Yk g3 (Ek (d1:=d1) (d2:=d2) g4) (BW (xs:=xs) (R:=R) (d1:=d1) (d2:=d2) g2),?_,Tr g3,Tr g3⟩;exact Aa (show BN xs R d1 d2 s+k-1=BN xs R d1 d2 (s+(k-1)) by exact Yj g3 (Ek (d1:=d1) (d2:=d2) (k:=k-1) λt ht=>g4 t (Yp ht))) (Aa (VV (d1:=d1) (d2:=d2) (g4 (k-1) (Yo g3))) (Aa (show s+k-1=s+(k-1) by exact Yi g3) rfl))
 by_cases hK:K=0
 ·refine .inl ⟨hK,λi h1 h2=>?_⟩;by_cases hE:eB xs R i=true
  ·refine Fp (hphib (s:=i) (k:=1) h1 (by assumption) (Nat.le_refl _) λt ht=>by rw[show i+t=i by exact Tq ht];exact hE) λp1 p2 p3 p4 p5 p6 p7=>?_;have h3:=(top _ _ p1 p2 p3 p4 p5).1;rw[p6,p7] at h3;have h4:=J7 (xs:=xs) (R:=R) (d1:=d1) (d2:=d2) (a:=a) (s:=i) (k:=1) h1 (Nat.le_trans (by assumption) (by assumption)) λt ht=>by refine Aa (show i+t=i by exact Tq ht) ?_;exact hE
   exact(aF [(1,1,zv 0,zn 0),(0,1,zv 1,zv 0),(0,1,zn 1,zv 1)] rfl (Az _ _) Ae hK h3 h4).elim
  ·simpa using hE
 ·right;have hm:∀t,t<K→xs[I+t]?=(xs.flatMap (Bg R d1 d2))[J+t]?:=λt ht=>by
   have:=((L7 (t:=K) (by refine Aa c ?_;exact Nat.le_refl _)).2 (K-1-t) (Yh hK)).2.2.2;rw[show I+K-1-(K-1-t)=I+t by exact Tp ht,show J+K-1-(K-1-t)=J+t by exact Tp ht] at this;exact this
  have hE:∀t,t<K→eB xs R (I+t)=true:=λt ht=>(Kh hd (To hbl b2 ht) (hm t ht)).1;refine Hs (U2 ha hb b1 (Yg b2 hK) (hE 0 (Nat.pos_of_ne_zero (by assumption)))) λs k r1 r2 r3 r4 r=>?_;refine Fp (hphib r1 r4 r.pos r.all) λp1 p2 p3 p4 p5 p6 p7=>?_;have g1:=top _ _ p1 p2 p3 p4 p5;rw[p6,p7] at g1;have g2:=J7 (xs:=xs) (R:=R) (d1:=d1) (d2:=d2) (a:=a) r1 (Nat.le_trans (by assumption) (by assumption)) r.all;have g3:I+K≤s+k:=by
   by_cases g:I+K≤s+k
   ·exact g
   ·have:=hE (s+k-I) (Ye r3 g);rw[show I+(s+k-I)=s+k by exact Yd r3,r.hi] at this;contradiction
  have eI:s=I:=Yc r2 g1 g2 g3;have eK:k=K:=Yb g1 g2 g3 eI;subst eI eK;refine⟨b1,b2,?_,r⟩;have h1:J≤BN xs R d1 d2 s:=by
   by_cases g:J≤BN xs R d1 d2 s
   ·exact g
   ·lia
  by_cases g:J=BN xs R d1 d2 s
  ·exact g
  ·exfalso;refine G3 (Kh hd (aN (za (za (zv 0) (zn 0)) (zn 1)) (zv 1) [(0,1,zv 2,zv 1),(0,1,za (zv 0) (zv 3),zv 2),(0,1,za (zv 0) (zn 1),za (zv 0) (zv 3))] rfl (Bh _ _ _ _) Ae hbl r4 r3) (hm 0 r.pos)) λz_ q hq hEq=>?_;replace hq:=(Nat.add_zero ..).symm.trans hq;have hqs:q<s:=by
    by_cases g':q<s
    ·exact g'
    ·have:=BW (xs:=xs) (R:=R) (d1:=d1) (d2:=d2) (Nat.not_lt.mp (by assumption):s≤q);lia
   have hqa:a≤q:=by
    by_cases g':a≤q
    ·exact g'
    ·have:=Cn (xs:=xs) (R:=R) (d1:=d1) (d2:=d2) (Nat.not_le.mp (by assumption):q<a) (IN hEq);lia
   have hqE:∀t,t<k→eB xs R (q+t)=true:=by
    intro t
    induction t using Nat.strongRecOn with
    |ind t ih=>
     intro ht;refine G3 (Kh hd (To hbl r4 ht) (hm t ht)) λz_ q' hq' hE'=>?_;have h3:=Ek (d1:=d1) (d2:=d2) (s:=q) (k:=t) λu hu=>ih u hu (Nat.lt_trans (by assumption) (by assumption));have h4:BN xs R d1 d2 q'=BN xs R d1 d2 (q+t):=Nat.le_antisymm (aN (zv 0) (zv 1) [(1,1,zv 2,zv 3),(2,1,za (zv 2) (zv 4),zv 0),(2,1,zv 1,za (zv 3) (zv 4))] rfl (BJ _ _ _ _ _) Ae hq hq' h3) (aN (zv 1) (zv 0) [(2,1,zv 2,zv 3),(1,1,za (zv 2) (zv 4),zv 0),(1,1,zv 1,za (zv 3) (zv 4))] rfl (BJ _ _ _ _ _) Ae hq hq' h3);by_cases h5:q+t<xs.length
     ·refine AV (QO (IN hE') h5 h4) ?_;exact hE'
     ·exact(aF [(2,1,zv 0,zv 1),(0,1,za (zv 0) (zn 1),zv 1)] rfl (Az _ _) Ae h4 (Cn (xs:=xs) (R:=R) (d1:=d1) (d2:=d2) (by have:=IN hE';lia:q'<q+t) (IN hE'))).elim
   have hqk:q+k≤s:=by
    by_cases g':q+k≤s
    ·exact g'
    ·have:=hqE (s-1-q) (XZ r3 g');rw[show q+(s-1-q)=s-1 by exact Tm hqs] at this;exact absurd ⟨by exact OQ hqs,this⟩ r.lo
   refine Fp (hphib hqa (aN (za (zv 0) (zv 1)) (zv 2) [(0,1,za (zv 3) (zv 1),zv 2),(0,1,za (zv 0) (zn 1),zv 3)] rfl (Bh _ _ _ _) Ae r4 hqs) r.pos hqE) λp1 p2 p3 p4 p5 p6 p7=>?_;have g3:=(top _ _ p1 p2 p3 p4 p5).2 (.inl (by have:=r.pos;exact XY hqs p6));rw[p6,p7] at g3;exact aF [(0,1,za (zv 0) (zn 1),zv 1),(0,1,zv 1,zv 0)] rfl (Az _ _) Ae g3 (J7 (xs:=xs) (R:=R) (d1:=d1) (d2:=d2) (a:=a) hqa (aN (za (zv 0) (zv 1)) (zv 2) [(0,1,zv 3,zv 2),(0,1,za (zv 4) (zv 1),zv 3),(0,1,za (zv 0) (zn 1),zv 4)] rfl (BJ _ _ _ _ _) Ae hbl r4 hqs) hqE)
omit hd
theorem Hn(r:Hd xs R s k):((xs.drop s).takeWhile λx=>!R x).length=k:=by
 have H:∀(k s:Nat),(∀t,t<k→eB xs R (s+t)=true)→eB xs R (s+k)=false→((xs.drop s).takeWhile λx=>!R x).length=k:=by
  intro k
  induction k with
  |zero=>
   intro s _ h;by_cases hs:s<xs.length
   ·have hx:=List.getElem?_eq_getElem hs;refine Aa (List.drop_eq_getElem_cons hs) (Aa List.takeWhile_cons ?_);have:R xs[s]=true:=by
     unfold eB at h;rw[Nat.add_zero,hx] at h;simpa using h
    refine Aa this ?_;rfl
   ·refine Aa (List.drop_of_length_le (Nat.not_lt.mp (by assumption))) ?_;rfl
  |succ k ih=>
   intro s h1 h2;refine An (DM.mp (h1 0 (Nat.succ_pos k))) λx h3 h4=>?_;have hs:=(List.getElem?_eq_some_iff.mp h3);refine oE hs λhs e=>?_;rw[Nat.add_zero] at hs;refine Aa (List.drop_eq_getElem_cons hs) (Aa List.takeWhile_cons (Aa e (Aa h4 ?_)));refine(?_:(x::_).length=_);exact List.length_cons.trans (Aa (ih (s+1) (λt ht=>by rw[show s+1+t=s+(t+1) by exact Nat.add_right_comm _ _ _];exact h1 _ (Nat.lt_succ_of_le (by assumption))) (by rw[show s+1+k=s+(k+1) by exact Nat.add_right_comm _ _ _];exact h2)) rfl)
 exact H k s r.all r.hi
theorem Di(h1:a≤i)(h2:i≤b):AY xs R a b=AY xs R a i++AY xs R i b:=by
 unfold AY;refine AV (List.filter_append ..) ?_;congr 1;have:=List.range'_append_1 (s:=a) (m:=i-a) (n:=b-i);rw[show a+(i-a)=i by exact XX h1] at this;refine Aa this ?_;congr 1;exact XW h1 h2
theorem CE(h:∀t,a≤t→t<b→LR xs R t=false):AY xs R a b=[]:=by
 unfold AY;rw[List.filter_eq_nil_iff];intro t ht;rw[List.mem_range'_1] at ht;refine Aa (h t ht.1 (by lia)) ?_;decide
theorem Jx(r:Hd xs R s k):AY xs R s (s+k)=[s]:=by
 have hp:=r.pos;rw[Di (i:=s+1) (by exact Nat.le_succ _) (by exact aN (za (zv 0) (zn 1)) (za (zv 0) (zv 1)) [(0,1,za (zn 0) (zn 1),zv 1)] rfl (Az _ _) Ae hp),CE (a:=s+1) λt h1 h2=>?_,List.append_nil]
 ·unfold AY;refine Aa (show s+1-s=1 by exact KV) ?_;refine(?_:([s].filter _)=_);have:LR xs R s=true:=by
   unfold LR;have h0:=r.all 0 hp;rw[Nat.add_zero] at h0;refine Aa h0 ?_;by_cases h:0<s
   ·refine Aa (by simpa using λe=>r.lo ⟨h,e⟩:eB xs R (s-1)=false) ?_;simp
   ·simp[h]
  refine List.filter_cons.trans (Aa this ?_);rfl
 ·unfold LR;have h3:=r.all (t-1-s) (XV hp h2);rw[show s+(t-1-s)=t-1 by exact XU h1] at h3;refine Aa h3 ?_;have:decide (0<t)=true:=by simp;exact aN (za (zn 0) (zn 1)) (zv 0) [(0,1,za (zv 1) (zn 1),zv 0)] rfl (Az _ _) Ae h1
  refine Aa this ?_;simp
noncomputable def bM(xs:List Str)(R:Str→Bool)(d1 d2:Str→Str)(r:Rg):Prop:=∃a b,r=(a,b,BN xs R d1 d2 a,BN xs R d1 d2 b)∧a≤b∧b≤xs.length∧Bd xs R a∧Bd xs R b
noncomputable def Wc(xs:List Str)(R:Str→Bool)(r:Rg):List Nat:=AY xs R r.1 r.2.1
theorem Z8(h:¬(0<s∧eB xs R (s-1)=true)):Bd xs R s:=λh2=>h ⟨h2.1,h2.2.1⟩
theorem TQ(h:eB xs R s=false):Bd xs R s:=λh2=>by rw[h] at h2;exact absurd h2.2.2 Bool.false_ne_true
include hd
theorem Vr{q:List Rg}{bl:List AJ}(h:Jl xs (xs.flatMap (Bg R d1 d2)) q bl):(∀r∈q,bM xs R d1 d2 r)∧(bl++q.flatMap λr=>(Wc xs R r).map (IX xs R d1 d2)).Perm ((AY xs R 0 xs.length).map (IX xs R d1 d2)):=by
 induction h with
 |start=>
  refine⟨λr hr=>?_,?_⟩
  ·refine Aa (List.mem_singleton.mp hr) ?_;refine⟨0,xs.length,by refine Aa (CR (Nat.le_refl _)) ?_;rfl,Nat.zero_le _,Nat.le_refl _,λh=>absurd h.1 (Nat.lt_irrefl 0),TQ ?_⟩;unfold eB;exact Aa (List.getElem?_eq_none (Nat.le_refl _)) rfl
  ·refine Aa (List.flatMap_singleton ..) ?_;exact .refl _
 |@none q r bl h1 h2 ih=>
  refine oA ih λi1 i2=>?_;refine⟨λr' hr=>i1 r' (List.mem_append_left _ hr),?_⟩;refine Hs (i1 r (by simp)) λa b ho2 ab bl ha hb=>?_;subst ho2;rw[List.flatMap_append,List.flatMap_singleton] at i2;have hn:Wc xs R (a,b,BN xs R d1 d2 a,BN xs R d1 d2 b)=[]:=by
   rcases TD hd ha hb ab bl (JV ⟨ab,bl,BW ab,by refine AV (CR (Nat.le_refl xs.length)) ?_;exact BW bl⟩) with ⟨_,h⟩ | h
   ·exact CE λt g1 g2=>by unfold LR;refine Aa (h t g1 g2) ?_;rfl
   ·exact(aF [(1,1,zv 0,zn 0),(0,1,za (zn 0) (zn 1),zv 0)] rfl (Av _) Ae h2 h.2.2.2.pos).elim
  rw[hn,List.map_nil,List.append_nil] at i2;exact i2
 |@some q r bl h1 h2 ih=>
  refine oA ih λi1 i2=>?_;refine Hs (i1 r (by simp)) λa b ho2 ab hbl ha hb=>?_;subst ho2;rcases TD hd ha hb ab hbl (JV ⟨ab,hbl,BW ab,by refine AV (CR (Nat.le_refl xs.length)) ?_;exact BW hbl⟩) with ⟨h,_⟩ | ⟨f1,f2,f3,f4⟩
  ·exact absurd h h2
  generalize hf:BD xs (xs.flatMap (Bg R d1 d2)) (a,b,BN xs R d1 d2 a,BN xs R d1 d2 b)=f at *;obtain⟨I,J,K⟩:=f;dsimp only at *;subst f3;have hk:=Ek (d1:=d1) (d2:=d2) f4.all;have eb:IX xs R d1 d2 I=(I,BN xs R d1 d2 I,K):=by
   unfold IX;exact Aa (Hn f4) rfl
  have el:(FT xs (xs.flatMap (Bg R d1 d2)) (a,b,BN xs R d1 d2 a,BN xs R d1 d2 b)).flatMap (λr=>(Wc xs R r).map (IX xs R d1 d2))=(AY xs R a I).map (IX xs R d1 d2):=by
   unfold FT;refine Aa hf ?_;dsimp only;split
   ·refine(List.flatMap_singleton ..).trans ?_;rfl
   ·rename_i hc;have:I=a:=by
     by_cases e:I=a
     ·exact e
     ·exact absurd ⟨by exact Tl f1 e,Cn (Tl f1 e) (XT hbl f1 f2 e)⟩ hc
    refine Aa this (Aa (CE λt g1 g2=>by exact OP g1 g2) ?_);rfl
  have er:(EO xs (xs.flatMap (Bg R d1 d2)) (a,b,BN xs R d1 d2 a,BN xs R d1 d2 b)).flatMap (λr=>(Wc xs R r).map (IX xs R d1 d2))=(AY xs R (I+K) b).map (IX xs R d1 d2):=by
   unfold EO;refine Aa hf ?_;dsimp only;split
   ·refine(List.flatMap_singleton ..).trans ?_;rfl
   ·rename_i hc;have:I+K=b:=by
     by_cases e:I+K=b
     ·exact e
     ·exact absurd ⟨by exact Tk f2 e,aN (za (za (zv 0) (zv 1)) (zn 1)) (zv 2) [(2,1,zv 3,za (zv 0) (zv 1)),(0,1,za (zv 3) (zn 1),zv 2)] rfl (Bh _ _ _ _) Ae hk (Cn (xs:=xs) (R:=R) (d1:=d1) (d2:=d2) (Tk f2 e:I+K<b) (XS hbl f2 e))⟩ hc
    refine Aa this (Aa (CE λt g1 g2=>by exact OP g1 g2) ?_);rfl
  refine⟨λr' hr=>?_,?_⟩
  ·rcases List.mem_append.mp hr with hr | hr
   ·rcases List.mem_append.mp hr with hr | hr
    ·exact i1 r' (List.mem_append_left _ hr)
    ·unfold FT at hr;rw[hf] at hr;dsimp only at hr;split at hr
     ·refine Aa (List.mem_singleton.mp hr) ?_;exact⟨a,I,rfl,f1,aN (zv 0) (zv 1) [(0,1,zv 2,zv 1),(0,1,za (zv 0) (zv 3),zv 2)] rfl (Bh _ _ _ _) Ae hbl f2,ha,Z8 f4.lo⟩
     ·contradiction
   ·unfold EO at hr;rw[hf] at hr;dsimp only at hr;split at hr
    ·refine Aa (List.mem_singleton.mp hr) ?_;exact⟨I+K,b,Aa hk rfl,f2,hbl,TQ f4.hi,hb⟩
    ·contradiction
  ·refine List.Perm.trans ?_ i2;refine Aa List.flatMap_append (Aa List.flatMap_append (Aa el (Aa er (Aa List.flatMap_append (Aa (List.flatMap_singleton ..) ?_)))));have e2:Wc xs R (a,b,BN xs R d1 d2 a,BN xs R d1 d2 b)=AY xs R a I++([I]++AY xs R (I+K) b):=by
    refine(?_:AY xs R a b=_);exact(Di f1 (aN (zv 0) (zv 1) [(0,1,za (zv 0) (zv 2),zv 1)] rfl (AH _ _ _) Ae f2:I≤b)).trans (Aa (Di (a:=I) (i:=I+K) (Nat.le_add_right _ _) f2) (Aa (Jx f4) rfl))
   refine Aa e2 (Aa List.map_append (Aa List.map_append (Aa List.map_singleton (Aa eb ?_))));generalize List.map (IX xs R d1 d2) (AY xs R a I)=A;generalize List.map (IX xs R d1 d2) (AY xs R (I+K) b)=B;generalize List.flatMap _ q=Q;refine List.perm_iff_count.mpr λz=>?_;simp only[List.count_append];exact Nat.le_antisymm (aN (za (za (zv 0) (zv 1)) (za (za (zv 2) (zv 3)) (zv 4))) (za (zv 0) (za (zv 2) (za (zv 3) (za (zv 1) (zv 4))))) [] rfl (BJ _ _ _ _ _) Ae) (aN (za (zv 0) (za (zv 2) (za (zv 3) (za (zv 1) (zv 4))))) (za (za (zv 0) (zv 1)) (za (za (zv 2) (zv 3)) (zv 4))) [] rfl (BJ _ _ _ _ _) Ae)
end
end
section
variable{E:Value→Shared→Prop}
theorem Qy:builtinKind "tuple.__lt__"=some .slot:=by decide +kernel
theorem N4:splitId "tuple.__lt__"=some ("tuple","__lt__"):=by decide +kernel
theorem JI(hx:Cd s.heap x (.int a t::va))(hy:Cd s.heap y (.int b u::vb))(ix:Looks (model prog w) s.heap (isInstance (.ref x) (.type "tuple")) true)(iy:Looks (model prog w) s.heap (isInstance (.ref y) (.type "tuple")) true)(ne:a≠b)(hQ:Q (.bool (decide (a<b))) s):wpAny (model prog w) A (call (.builtin "tuple.__lt__") [.ref x,.ref y]) Q E s:=by
 refine wpAny_call (codeAny_call_builtin_at (Code.quiet_builtin _ (by decide +kernel)) PySem.F.entry_tuple_lt (check_slot Qy N4 ix (PySem.F.args_tuple_lt_2 _ _) ?_));refine(?_:wpAny _ _ (_ >>= _) _ _ s);refine wpAny_bind ?_;refine(?_:wpAny _ _ (slotArgs "__lt__" 1 ⟨[.ref x,.ref y],[]⟩) _ _ s);unfold slotArgs;refine wpAny_pure ?_;refine(?_:wpAny _ _ (isInstance (.ref y) (.type "tuple") >>= _) _ _ s);refine wpAny_bind (iy.here ?_);refine Ax hx λox nx hox hdx=>?_;refine Ax hy λoy ny hoy hdy=>?_;refine(?_:wpAny _ _ (_ >>= _) _ _ s);refine wpAny_bind ?_;unfold Builtin.Tuple.tupleItemsOf;refine wpAny_bind (wpAny_seqItems hox hdx (wpAny_pure (wpAny_bind (wpAny_bind (wpAny_seqItems hoy hdy (wpAny_pure ?_))))));refine Aa List.toList_toArray (Aa List.toList_toArray (Aa List.zip_cons_cons (Aa (List.forIn_cons ..) ?_)));refine wpAny_bind (wpAny_bind (wpAny_bind (wpAny_eqBool_int ?_)));refine Aa (beq_false_of_ne ne:(a==b)=false) ?_;refine(?_:wpAny _ _ (rule "tuple.compare.by-the-first-pair-that-differs" >>= _) _ _ s);refine wpAny_bind (wpAny_rule (wpAny_bind (P.lt_int ?_)));exact wpAny_bind (wpAny_pure (wpAny_pure (wpAny_pure (wpAny_pure hQ))))
theorem Mu(hu:A.units<cLine)(I:Hc (model prog w) s.heap 135 x)(hx:Cd s.heap x (.int a t::va))(hy:Cd s.heap y (.int b u::vb))(iy:Looks (model prog w) s.heap (isInstance (.ref y) (.type "tuple")) true)(ne:a≠b)(hQ:Q (decide (a<b)) s):wpAny (model prog w) A (keyLt' oneType' (.ref x) (.ref y)) Q E s:=by
 refine Aa (keyLt'_oneType ..) (Aa (oneLt'_eq ..) ?_);simp only[if_true];refine wpAny_bind (wpAny_cRoomFor hu ?_);refine wpAny_bind ?_;simp only[callSpecialIfBound?,bindSpecialIfBound?];refine wpAny_holding (wpAny_bind (wpAny_bind (wpAny_bind (I.ty.here (I.lt.here ?_)))));simp only[EM PySem.F.slot_tuple_lt];refine wpAny_bind (wpAny_askSetting (wpAny_ite ?_));have fin:∀(R:Option Value→Shared→Prop),R (some (.bool (decide (a<b)))) s→wpAny (model prog w) A (call (.builtin "tuple.__lt__") ([.ref x]++[.ref y]) >>= λv=>pure (some v)) R E s:=λR h=>wpAny_bind (JI hx hy I.inst iy ne (wpAny_pure h));split
 ·refine wpAny_bind (wpAny_pure (wpAny_pure (fin _ ?_)));exact wpAny_truthy_bool hQ
 ·refine wpAny_tryCatch (wpAny_bind (wpAny_pure (wpAny_pure (fin _ ?_))));exact wpAny_truthy_bool hQ
variable{vs:List Value}
theorem Jy(F:Fr h₀ L s.heap m)(N:News h₀ L s.heap news)(ho:s.heap.get? l=some (seqObj "list" vs.toArray n))(hl:l≠L)(hl0:h₀.get? l=none)(hn:∀p∈news,p.1≠l)(h2:vs.length<2)(k:∀h' c,Fr h₀ L h' m→News h₀ L h' ((l,seqObj "list" vs.toArray c)::news)→P (.done (.ret .none)) { s with heap:=h' }):wpAny (model prog w) A (Builtin.«list.sort» ⟨[.ref l],[]⟩) P E s:=by
 have s1:=Heap.SameBut.update s.heap l (Obj.mapSeq λz_=>(#[]:Array Value));obtain⟨e1,ho1⟩:∃e1,(s.heap.update l (Obj.mapSeq λz_=>(#[]:Array Value))).get? l=some (seqObj "list" #[] e1):=⟨_,get?_update_seq ho λz_=>#[]⟩;have F3:Fr h₀ L (((s.heap.update l (Obj.mapSeq λz_=>(#[]:Array Value))).push (seqObj "tuple" vs.toArray 0)).push (seqObj "list" #[] 0)) m:=((kas_fr F s1 hl hl0).push _).push _;have N2:News h₀ L (((s.heap.update l (Obj.mapSeq λz_=>(#[]:Array Value))).push (seqObj "tuple" vs.toArray 0)).push (seqObj "list" #[] 0)) news:=
  (kas_news N s1 hn).grown λb x e=>Heap.get?_push_of_some _ (Heap.get?_push_of_some _ e)
 have ho3:(((s.heap.update l (Obj.mapSeq λz_=>(#[]:Array Value))).push (seqObj "tuple" vs.toArray 0)).push (seqObj "list" #[] 0)).get? l=some (seqObj "list" #[] e1):=Heap.get?_push_of_some _ (Heap.get?_push_of_some _ ho1);refine Aa (list_sort_plain ..) ?_;refine wpAny_bind (listItems_at ho rfl ?_);refine wpAny_bind (listUpdate_at ho rfl ?_ (by refine Aa List.size_toArray (Aa sizeLine_eq ?_);exact SR h2) (Nat.zero_le _));refine wpAny_bind (seqEpoch_at ho1 rfl ?_);refine wpAny_bind (wpAny_newTuple ?_ (by show vs.length≤_;refine Aa sizeLine_eq ?_;exact SR h2));refine wpAny_bind (wpAny_newList ?_ (Nat.zero_le _));refine wpAny_holding ?_;refine(?_:wpAny (model prog w) A _ P E { s with heap:=((s.heap.update l (Obj.mapSeq λz_=>(#[]:Array Value))).push (seqObj "tuple" vs.toArray 0)).push (seqObj "list" #[] 0) });generalize((s.heap.update l (Obj.mapSeq λz_=>(#[]:Array Value))).push (seqObj "tuple" vs.toArray 0)).push (seqObj "list" #[] 0)=g at F3 N2 ho3;dsimp only;have hn2:vs.toArray.size<2:=by refine Aa List.size_toArray ?_;exact h2
 refine Aa (if_pos hn2) (Aa (if_pos hn2) ?_);refine wpAny_bind (wpAny_pure (wpAny_bind (wpAny_pure ?_)));have hout:(arrOf (SortSt.mk' general' (vs.toArray.zip vs.toArray) #[] 7 none)).map (·.2)=vs.toArray:=by
  refine(?_:(vs.toArray.zip vs.toArray).map (·.2)=vs.toArray);apply Array.toList_inj.mp;refine Array.toList_map.trans (Aa Array.toList_zip (List.toList_toArray.trans ?_));exact List.map_snd_zip (Nat.le_refl _)
 refine Aa hout ?_;have s2:=Heap.SameBut.update g l (Obj.mapSeq λz_=>vs.toArray);obtain⟨c2,hc2⟩:∃c2,(g.update l (Obj.mapSeq λz_=>vs.toArray)).get? l=some (seqObj "list" vs.toArray c2):=⟨_,get?_update_seq ho3 λz_=>vs.toArray⟩;refine wpAny_bind (seqEpoch_at ho3 rfl ?_);refine wpAny_bind (listUpdate_at ho3 rfl ?_ (Nat.zero_le _) (by refine Aa List.size_toArray (Aa sizeLine_eq ?_);exact aN (zv 0) (za (zn 16777216) (zn 1)) [(0,1,za (zv 0) (zn 1),zn 2)] rfl (Av _) Ae h2));refine Aa (rfl:failedOf (SortSt.mk' general' (vs.toArray.zip vs.toArray) #[] 7 none)=none) ?_;simp only[bne_self_eq_false,Bool.false_eq_true,if_false];refine wpAny_pure (k _ c2 (kas_fr F3 s2 hl hl0) λp hp=>?_);rcases List.mem_cons.mp hp with rfl | hp
 ·exact⟨hc2,hl,hl0⟩
 ·exact kas_news N2 s2 hn p hp
end
section
noncomputable def EI(key:Nat→Nat)(n:Nat):KasT α→(α→Prop)→Prop
 |.ret a,Q=>Q a
 |.ask i j k,Q=>i<n∧j<n∧i≠j∧EI key n (k (decide (key i<key j))) Q
theorem EI.mono{Q R:α→Prop}(h:∀a,Q a→R a){t:KasT α}(k:EI key n t Q):EI key n t R:=by
 induction t with
 |ret a=>exact h a k
 |ask i j f ih=>exact⟨k.1,k.2.1,k.2.2.1,ih _ k.2.2.2⟩
theorem EI.bind{f:α→KasT β}{Q:β→Prop}{t:KasT α}(k:EI key n t (λa=>EI key n (f a) Q)):EI key n (t.bind f) Q:=by
 induction t with
 |ret a=>exact k
 |ask i j f ih=>exact⟨k.1,k.2.1,k.2.2.1,ih _ k.2.2.2⟩
theorem EI.wp{cmp:Nat→Nat→(Bool→Shared→Prop)→Shared→Prop}{I:Shared→Prop}{R:α→Shared→Prop}(hc:∀i j C s,i<n→j<n→i≠j→I s→(∀s',I s'→C (decide (key i<key j)) s')→cmp i j C s){t:KasT α}{Q:α→Prop}{s:Shared}(k:EI key n t Q)(hs:I s)(q:∀a s',Q a→I s'→R a s'):t.kasWp cmp R s:=by
 induction t generalizing s with
 |ret a=>exact q a s k hs
 |ask i j f ih=>exact hc i j _ s k.1 k.2.1 k.2.2.1 hs λs' hs'=>ih _ k.2.2.2 hs'
end
section
structure Go(n:Nat)(p:Array Nat):Prop where
 perm:p.toList.Perm (List.range n)
theorem Go.size{p:Array Nat}(h:Go n p):p.size=n:=by
 simpa using h.perm.length_eq
theorem E0{p:Array Nat}{i:Nat}(h:i<p.size):p.getD i 0=p[i]:=by simp[Array.getD,h]
theorem Go.lt{p:Array Nat}(h:Go n p){i:Nat}(hi:i<n):p.getD i 0<n:=by
 have hs:=h.size;refine Aa (E0 (OM hi hs)) ?_;have:p[i]∈p.toList:=by simp
 exact List.mem_range.mp (h.perm.mem_iff.mp this)
theorem Go.ne{p:Array Nat}(h:Go n p){i j:Nat}(hi:i<n)(hj:j<n)(e:i≠j):p.getD i 0≠p.getD j 0:=by
 have hs:=h.size;refine Aa (E0 (OM hi hs)) (Aa (E0 (OM hj hs)) ?_);have hp:=List.pairwise_iff_getElem.mp (h.perm.nodup_iff.mpr List.nodup_range);intro e2;rcases Nat.lt_or_gt_of_ne e with l | l
 ·exact hp i j (by simpa [hs] using hi) (by simpa [hs] using hj) l (by simpa using e2)
 ·exact hp j i (by simpa [hs] using hj) (by simpa [hs] using hi) l (by simpa using e2.symm)
noncomputable def Gs(key:Nat→Nat)(n:Nat):Prop:=∀i j,i<n→j<n→i≠j→key i≠key j
noncomputable abbrev Dy(key:Nat→Nat)(p:Array Nat)(i:Nat):Nat:=key (p.getD i 0)
noncomputable def LG(key:Nat→Nat)(p:Array Nat)(m:Nat):Prop:=∀i j,i<j→j<m→Dy key p i<Dy key p j
noncomputable def VN(key:Nat→Nat)(p:Array Nat)(m:Nat):Prop:=∀i j,i<j→j<m→Dy key p j<Dy key p i
theorem Pb(ha:Gs key n)(h:Go n p)(hi:i<n)(hj:j<n)(e:i≠j):Dy key p i≠Dy key p j:=ha _ _ (h.lt hi) (h.lt hj) (h.ne hi hj e)
theorem LG.succ(h:LG key p m)(hm:1≤m)(h2:Dy key p (m-1)<Dy key p m):LG key p (m+1):=by
 intro i j hij hj;by_cases e:j<m
 ·exact h i j hij e
 ·have e2:j=m:=UU hj e;subst e2;by_cases e3:i=j-1
  ·refine Aa e3 ?_;exact h2
  ·exact Nat.lt_trans (h i (j-1) (SV hij e3) (OL hm)) h2
theorem VN.succ(h:VN key p m)(hm:1≤m)(h2:Dy key p m<Dy key p (m-1)):VN key p (m+1):=by
 intro i j hij hj;by_cases e:j<m
 ·exact h i j hij e
 ·have e2:j=m:=UU hj e;subst e2;by_cases e3:i=j-1
  ·refine Aa e3 ?_;exact h2
  ·exact Nat.lt_trans h2 (h i (j-1) (SV hij e3) (OL hm))
theorem Qb(ha:Gs key n)(h:Go n p):∀(f m:Nat),1≤m→m+f≤n→LG key p m→EI key n (kas_asc p f m) λr=>m≤r∧r≤m+f∧LG key p r∧(r<m+f→Dy key p r<Dy key p (r-1)):=by
 intro f
 induction f with
 |zero=>
  intro m _ _ hs;exact⟨Nat.le_refl _,Nat.le_refl _,hs,λh=>absurd h (Nat.lt_irrefl _)⟩
 |succ f ih=>
  intro m h1 h2 hs;refine⟨h.lt (Fe h2),h.lt (Fd h2),h.ne (Fe h2) (Fd h2) (KR h1),?_⟩;by_cases c:Dy key p m<Dy key p (m-1)
  ·refine Aa (decide_eq_true c) ?_;refine(?_:EI key n (KasT.ret m) _);exact⟨Nat.le_refl _,Nat.le_add_right _ _,hs,λz_=>c⟩
  ·refine Aa (decide_eq_false c) ?_;refine(?_:EI key n (kas_asc p f (m+1)) _);have:=Pb ha h (i:=m) (j:=m-1) (Fe h2) (Fd h2) (KR h1);refine(ih (m+1) (Nat.succ_pos _) (by lia) (hs.succ h1 (by lia))).mono λr k=>⟨by exact WW k,WV k,k.2.2.1,λhr=>k.2.2.2 (WU hr)⟩
theorem RY(ha:Gs key n)(h:Go n p):∀(f m:Nat),1≤m→m+f≤n→VN key p m→EI key n (kas_desc f p m 0) λr=>r.1=p∧r.2.2=0∧m≤r.2.1∧r.2.1≤m+f∧VN key p r.2.1:=by
 intro f
 induction f with
 |zero=>
  intro m _ _ hs;exact⟨rfl,rfl,Nat.le_refl _,Nat.le_refl _,hs⟩
 |succ f ih=>
  intro m h1 h2 hs;refine⟨h.lt (Fe h2),h.lt (Fd h2),h.ne (Fe h2) (Fd h2) (KR h1),?_⟩;by_cases c:Dy key p m<Dy key p (m-1)
  ·refine Aa (decide_eq_true c) ?_;refine(?_:EI key n (kas_desc f p (m+1) 0) _);exact(ih (m+1) (Nat.succ_pos _) (by lia) (hs.succ h1 c)).mono λr k=>⟨k.1,k.2.1,WT k,WS k,k.2.2.2.2⟩
  ·refine Aa (decide_eq_false c) ?_;refine⟨h.lt (Fd h2),h.lt (Fe h2),h.ne (Fd h2) (Fe h2) (WR h1),?_⟩;refine Aa (decide_eq_true (OK c (Pb ha h (i:=m) (j:=m-1) (Fe h2) (Fd h2) (KR h1)):Dy key p (m-1)<Dy key p m)) ?_;refine(?_:EI key n (KasT.ret (p,m,0)) _);exact⟨rfl,rfl,Nat.le_refl _,Nat.le_add_right _ _,hs⟩
theorem Go.of{p q:Array Nat}(h:Go n p)(hp:q.Perm p):Go n q:=⟨(Array.perm_iff_toList_perm.mp hp).trans h.perm⟩
theorem Fw{p q:Array Nat}{i j:Nat}(h:p[i]?=q[j]?):p.getD i 0=q.getD j 0:=by simp only[Array.getD_eq_getD_getElem?,h]
theorem QG{p:Array Nat}(h:Go n p){m:Nat}(hm:m≤n)(hd:VN key p m):Go n (kas_rev p 0 m)∧LG key (kas_rev p 0 m) m:=by
 refine⟨h.of (mirror_perm _ _ _ _),λi j hij hj=>?_⟩;have e:∀k,k<m→(kas_rev p 0 m).getD k 0=p.getD (m-1-k) 0:=λk hk=>Fw (by
  have:=getElem?_mirror_all (xs:=p) (i:=0) (j:=m) (by refine Aa h.size ?_;exact hm) k;unfold kas_rev;refine this.trans ((if_pos ⟨Nat.zero_le _,hk⟩).trans ?_);congr 1;exact WQ)
 unfold Dy;refine Aa (e i (Nat.lt_trans (by assumption) (by assumption))) (Aa (e j hj) ?_);exact hd _ _ (WP hij hj) (WO hj)
theorem Ob(ha:Gs key n){p:Array Nat}(h:Go n p){k:Nat}(hk:k<n):∀(f l r:Nat),l≤r→r≤k→r≤l+f→(∀i,i<l→Dy key p i<Dy key p k)→(∀i,r≤i→i<k→Dy key p k<Dy key p i)→LG key p k →
  EI key n (kas_place p k f l r) λz=>z≤k∧(∀i,i<z→Dy key p i<Dy key p k)∧∀i,z≤i→i<k→Dy key p k<Dy key p i:=by
 intro f
 induction f with
 |zero=>
  intro l r h1 h2 h3 b1 b2 _;exact⟨by exact Nat.le_trans (by assumption) (by assumption),b1,(Nat.le_antisymm (by assumption) (by assumption):l=r)▸b2⟩
 |succ f ih=>
  intro l r h1 h2 h3 b1 b2 hs;by_cases e:l≥r
  ·unfold kas_place;refine Aa (if_pos e) ?_;exact⟨by exact Nat.le_trans (by assumption) (by assumption),b1,(Nat.le_antisymm (by assumption) (by assumption):l=r)▸b2⟩
  ·unfold kas_place;refine Aa (if_neg e) ?_;refine⟨h.lt hk,h.lt (by lia),h.ne hk (by lia) (by lia),?_⟩;by_cases c:Dy key p k<Dy key p ((l+r)/2)
   ·refine Aa (decide_eq_true c) ?_;refine(?_:EI key n (kas_place p k f l ((l+r)/2)) _);refine ih l ((l+r)/2) (by lia) (by lia) (by lia) b1 (λi hi hik=>?_) hs;by_cases e2:i=(l+r)/2
    ·refine Aa e2 ?_;exact c
    ·exact Nat.lt_trans c (hs ((l+r)/2) i (WN hi e2) hik)
   ·refine Aa (decide_eq_false c) ?_;refine(?_:EI key n (kas_place p k f ((l+r)/2+1) r) _);have ne:=Pb ha h (i:=k) (j:=(l+r)/2) hk (by lia) (by lia);refine ih ((l+r)/2+1) r (by lia) (by assumption) (by lia) (λi hi=>?_) b2 hs;by_cases e2:i=(l+r)/2
    ·refine Aa e2 ?_;exact OK c ne
    ·exact Nat.lt_trans (hs i ((l+r)/2) (WM hi e2) (by lia)) (OK c ne)
theorem Kp{p:Array Nat}(h:Go n p){k z:Nat}(hk:k<n)(hz:z≤k)(hs:LG key p k)(b1:∀i,i<z→Dy key p i<Dy key p k)(b2:∀i,z≤i→i<k→Dy key p k<Dy key p i):Go n (bubble p k (k-z))∧LG key (bubble p k (k-z)) (k+1):=by
 refine⟨h.of (bubble_perm _ _ _),λi j hij hj=>?_⟩;have e:∀q,(bubble p k (k-z)).getD q 0=if q=z then p.getD k 0 else if z<q∧q≤k then p.getD (q-1) 0 else p.getD q 0:=λq=>by
  have:=getElem?_bubble (xs:=p) (src:=k) (by refine Aa h.size ?_;exact hk) (k-z) (WL) q;rw[(WK hz:k-(k-z)=z)] at this;split<;>rename_i c1
  ·replace this:=this.trans (if_pos c1);exact Fw this
  ·replace this:=this.trans (if_neg c1);split<;>rename_i c2
   ·replace this:=this.trans (if_pos c2);exact Fw this
   ·replace this:=this.trans (if_neg c2);exact Fw this
 unfold Dy;refine Aa (e i) (Aa (e j) ?_);by_cases i1:i=z
 ·refine Aa (if_pos i1) (Aa (if_neg (WJ hij i1)) (Aa (if_pos (WI hij hj i1)) ?_));exact b2 _ (WH hij i1) (WG hij hj)
 ·refine Aa (if_neg i1) ?_;by_cases j1:j=z
  ·refine Aa (if_pos j1) (Aa (if_neg (WF hij j1)) ?_);exact b1 _ (aN (za (zv 0) (zn 1)) (zv 1) [(0,1,za (zv 0) (zn 1),zv 2),(1,1,zv 2,zv 1)] rfl (AH _ _ _) Ae hij j1)
  ·refine Aa (if_neg j1) ?_;by_cases i2:z<i∧i≤k
   ·refine Aa (if_pos i2) (Aa (if_pos (WE hij hj i2)) ?_);exact hs _ _ (WD hij i2) (WC hj i2)
   ·refine Aa (if_neg i2) ?_;by_cases j2:z<j∧j≤k
    ·refine Aa (if_pos j2) ?_;exact hs _ _ (by lia) (WB j2)
    ·refine Aa (if_neg j2) ?_;exact hs _ _ (by assumption) (by lia)
theorem VE(ha:Gs key n):∀(f:Nat) {p:Array Nat} {k:Nat},Go n p→k+f=n→LG key p k→EI key n (kas_bin f p k) λq=>Go n q∧LG key q n:=by
 intro f
 induction f with
 |zero=>
  intro p k h e hs;exact⟨h,by refine AV e ?_;exact hs⟩
 |succ f ih=>
  intro p k h e hs;refine EI.bind ((Ob ha h (k:=k) (SU e) k 0 k (Nat.zero_le _) (Nat.le_refl _) (Nat.le_add_left _ _) (λi hi=>absurd hi (Nat.not_lt_zero _)) (λi hi hik=>absurd hik (UQ hi)) hs).mono λz hz=>?_);refine oA (Kp h (SU e) hz.1 hs hz.2.1 hz.2.2) λo a=>?_;exact ih o (Nat.le_antisymm (aN (za (za (zv 0) (zn 1)) (zv 1)) (zv 2) [(1,1,za (zv 0) (za (zv 1) (zn 1)),zv 2)] rfl (AH _ _ _) Ae e) (aN (zv 2) (za (za (zv 0) (zn 1)) (zv 1)) [(2,1,za (zv 0) (za (zv 1) (zn 1)),zv 2)] rfl (AH _ _ _) Ae e)) a
theorem Mi:Go n (List.toArray (List.range n)):=⟨by simp⟩
theorem Q4(ha:Gs key n)(h2:2≤n):EI key n (kas_sort n) λq=>Go n q∧LG key q n:=by
 unfold kas_sort;refine EI.bind (EI.mono (Q:=λr:Nat×Array Nat=>Go n r.2∧1≤r.1∧r.1≤n∧LG key r.2 r.1) (λr k=>?_) ?_)
 ·refine Ht k λk1 k2 k3 k4=>?_;split
  ·refine Aa (by lia:max r.1 1=r.1) ?_;exact VE ha _ k1 (OO (by assumption)) k4
  ·exact⟨k1,by refine AV (KS k3 (by assumption):r.1=n) ?_;exact k4⟩
 ·have h:=Mi (n:=n);generalize List.toArray (List.range n)=p at h;unfold kas_count;refine EI.bind ((Qb ha h (n-1) 1 (Nat.le_refl _) (WA h2) (λi j hij hj=>by lia)).mono λm k=>?_);refine Ht k λk1 k2 k3 k4=>?_;by_cases e:(m==n)=true
  ·refine Aa (if_pos e) ?_;exact⟨h,k1,by lia,k3⟩
  ·refine Aa (if_neg e) ?_;by_cases e1:m>1
   ·refine Aa (if_pos e1) ?_;refine⟨h.lt (Nat.le_of_lt (by assumption)),h.lt (SS h2 k2),h.ne (Nat.le_of_lt (by assumption)) (SS h2 k2) (W9 e1),?_⟩;refine Aa (decide_eq_true (show key (p.getD 0 0)<key (p.getD (m-1) 0) from k3 _ _ (W8 e1) (OL k1))) ?_;exact⟨h,k1,W7 h2 k2,k3⟩
   ·refine Aa (if_neg e1) ?_;have em:m=1:=Nat.le_antisymm (aN (zv 0) (zn 1) [(3,1,za (zn 1) (zn 1),zv 0)] rfl (Av _) Ae e1) (aN (zn 1) (zv 0) [(0,1,zn 1,zv 0)] rfl (Av _) Ae k1);subst em;have hd2:VN key p 2:=λi j hij hj=>by
     refine Aa (W6 hij hj:i=0) (Aa (W5 hij hj:j=1) ?_);exact k4 (W4 h2)
    unfold kas_descPart;refine EI.bind ((RY ha h (n-(1+1)) (1+1) (Nat.succ_pos _) (W3 h2) hd2).mono λr k=>?_);obtain⟨rp,rn,rq⟩:=r;refine GF k λc1 c2 c3 c4 c5=>?_;dsimp only at c1 c2 c3 c4 c5;subst c1 c2;refine Aa (if_neg (Nat.lt_irrefl 0)) ?_;unfold kas_tail3;refine oA (QG h (show rn≤n by exact W2 h2 c4) c5) λo a=>?_;refine EI.bind ((Qb ha o (n-rn) rn (Nat.le_of_lt (by assumption)) (W1 h2 c4) a).mono λz k=>?_);exact⟨o,W0 c3 k,Wz h2 c4 k,k.2.2.1⟩
end
noncomputable def Bk(j:Nat):Value:=.int (j:Int) 0
noncomputable def S9(la lb D J P:Addr)(v5 v6 v7:Value):List (Str×Value):=[("isjunk",.none),("a",.ref la),("b",.ref lb),("autojunk",.bool false),("matching_blocks",v5),("opcodes",v6),("fullbcount",v7),("b2j",.ref D),("bjunk",.ref J),("bpopular",.ref P)]
structure Nj(l:Lg)(x dx la lb D J P:Addr)(v5 v6 v7:Value)(kvs:List (Str×Value))(xs ys:List Str):Prop where
 hx:l x=some (.ins 242 dx)
 hd:l dx=some (.att (S9 la lb D J P v5 v6 v7))
 ha:l la=some (.lst (xs.map Al))
 hb:l lb=some (.lst (ys.map Al))
 hD:l D=some (.dct kvs)
 lo:(D==sysModules)=false
 bj:∀y,(Bp ys y=[]∧valueAt kvs y=none)∨∃a,valueAt kvs y=some (.ref a)∧l a=some (.lst ((Bp ys y).map Bk))
 hJ:l J=some (.set (λz_=>false) 0)
theorem Nj.mono(S:Nj l x dx la lb D J P v5 v6 v7 kvs xs ys)(e:Am l l'):Nj l' x dx la lb D J P v5 v6 v7 kvs xs ys:=
 ⟨e _ _ S.hx,e _ _ S.hd,e _ _ S.ha,e _ _ S.hb,e _ _ S.hD,S.lo,λy=>(S.bj y).imp id λhX=>An hX λa h1 h2=>⟨a,h1,e _ _ h2⟩,e _ _ S.hJ⟩
section
variable{K:Value→Lg→Prop}
theorem Cx.of{h:Heap}{m:Str→Option Value}{con:Df}{kd ku:Nat}(F:Fr c.h₀ c.L h m)(N:News c.h₀ c.L h con)(r:AU c kd ku):Cx c.w c.dp c.un c.cs₀ c.L c.outer c.A₀ c.base c.h₀ m c.p c.loose c.mean c.mg c.mb h con kd ku:=⟨c.B,F,c.X,N,c.T,c.hk₀,r.1,r.2⟩
theorem Ri(room:AU c 40 400){v1 v2 v3:Value}(hk:∀M,led M=none→K (.ref M) (put M (.mat [v1,v2,v3]) led)):A4 c ps (.ref 135) [v1,v2,v3] led K:=λf' vs' ef ev=>by
 obtain rfl:=Af ef;refine Dj (IM ev) λa1 a2 a3 ho3 e1 e2 e3=>?_;subst ho3;intro s hs Q' q;obtain⟨h,tk,m,con,F,N,V,I⟩:=hs;refine Rj (Cx.of F N room) λx dd h' tk' led' F' N' hm sub hl=>?_;refine oA (LE (o:=.mat [v1,v2,v3]) (tk:=tk') F' N' V I sub hm hl ⟨dd,_,rfl,by rw[List.map_cons,List.map_cons,List.map_cons,e1,e2,e3];rfl⟩) λk1 k2=>?_;exact q (.ref x) _ _ k2 (hk x k1)
noncomputable abbrev Ti:=Int×Int×Int
noncomputable def D8(b:AJ):Ti:=((b.1:Int),(b.2.1:Int),(b.2.2:Int))
structure FlI(xs ys:List Str)(alo blo bhi:Nat)(ST:Lg)(i:Nat)(x:Ti×Addr×List (Int×Value))(l:Lg):Prop where
 z1:x.1=D8 (DP xs ys alo blo bhi i)
 z2:Am ST l
 z3:l x.2.1=some (.dci x.2.2)
 z4:(x.2.1==sysModules)=false
 z5:Nk xs ys alo blo bhi x.2.2 (alo+i)
structure cJ(xs ys:List Str)(alo blo bhi:Nat)(ST:Lg)(dn:Addr)(r:Nat)(st:AJ)(js:List Nat)(t:Nat)(u:Ti×List (Int×Value))(l:Lg):Prop where
 z1:u.1=D8 (Nq xs ys alo blo st r (js.take t))
 z2:Am ST l
 z3:l dn=some (.dci u.2)
 z4:u.2.length≤t
 z5:Ds xs ys alo blo u.2 r (js.take t)
 z6:∀j∈js.take t,j<bhi
noncomputable def cK(xs ys:List Str)(alo blo bhi:Nat)(ST:Lg)(dn:Addr)(i:Nat)(u:Ti×List (Int×Value))(l:Lg):Prop:=
 u.1=D8 (DP xs ys alo blo bhi (i+1))∧Am ST l∧l dn=some (.dci u.2)∧Nk xs ys alo blo bhi u.2 (alo+(i+1))
section
variable{ST:Lg}{st:AJ}{u:Ti×List (Int×Value)}
theorem RL(h1:u.1=D8 (Nq xs ys alo blo st r (js.take t)))(h2:Am ST l)(h3:l dn=some (.dci u.2))(h4:u.2.length≤t)(h5:Ds xs ys alo blo u.2 r (js.take t))(h6:∀j∈js.take t,j<bhi)(htk:js.take (t+1)=js.take t++[j])(hb:blo≤bhi)(hj:j<blo):cJ xs ys alo blo bhi ST dn r st js (t+1) u l:=by
 refine⟨?_,h2,h3,Nat.le_succ_of_le h4,?_,?_⟩
 ·refine Aa htk (Aa Gc (h1.trans ?_));unfold JW;exact Aa (if_pos hj) rfl
 ·refine Aa htk ?_;exact h5.skip hj
 ·refine Aa htk ?_;intro k hk;rcases List.mem_append.mp hk with hk | hk
  ·exact h6 k hk
  ·refine Aa (List.mem_singleton.mp hk) ?_;exact Nat.lt_of_lt_of_le hj hb
theorem Vv{x:Str}(h1:u.1=D8 (Nq xs ys alo blo (DP xs ys alo blo bhi i) (alo+i) ((Bp ys x).take t)))(h2:Am ST l)(h3:l dn=some (.dci u.2))(h5:Ds xs ys alo blo u.2 (alo+i) ((Bp ys x).take t))(h6:∀j∈(Bp ys x).take t,j<bhi)(hj:(Bp ys x)[t]?=some j)(hx:xs[alo+i]?=some x)(hb:bhi≤j):cK xs ys alo blo bhi ST dn i u l:=by
 have e:=Fk Dz hj hb h6;refine⟨h1.trans (congrArg D8 (Lp hx e).symm),h2,h3,?_⟩;have:=Ds.row (bhi:=bhi) hx (by refine Aa e ?_;exact h5);exact this
theorem Vu{x:Str}:(Bp ys x).length≤ys.length:=by
 unfold Bp;exact Nat.le_trans (List.length_filter_le ..) (by refine Aa List.length_range ?_;exact Nat.le_refl _)
theorem Vt{x:Str}(hx:xs[r]?=some x)(h1:u.1=D8 (Nq xs ys alo blo st r ((Bp ys x).take t)))(h5:Ds xs ys alo blo u.2 r ((Bp ys x).take t))(h6:∀j∈(Bp ys x).take t,j<bhi)(hj:(Bp ys x)[t]?=some j)(htk:(Bp ys x).take (t+1)=(Bp ys x).take t++[j])(hb1:blo≤j)(hb2:j<bhi)(hr:alo≤r:=by exact Nat.le_add_right _ _) :
  Ds xs ys alo blo (stored u.2 (j:Int) (.int ((cm xs ys alo blo r j:Nat)+1:Int) 0)) r ((Bp ys x).take (t+1))∧(∀k∈(Bp ys x).take (t+1),k<bhi) ∧
  (∀{z:Int},((cm xs ys alo blo r j:Nat)+1:Int)>u.1.2.2→z=(alo:Int)+((r-alo:Nat):Int)→(z-((cm xs ys alo blo r j:Nat)+1:Int)+1,(j:Int)-((cm xs ys alo blo r j:Nat)+1:Int)+1,((cm xs ys alo blo r j:Nat)+1:Int))=D8 (Nq xs ys alo blo st r ((Bp ys x).take (t+1)))) ∧
  (¬((cm xs ys alo blo r j:Nat)+1:Int)>u.1.2.2→u.1=D8 (Nq xs ys alo blo st r ((Bp ys x).take (t+1)))):=by
 have hy:ys[j]?=some x:=Ey.mp (List.mem_of_getElem? hj);have hcm:=VA (xs:=xs) (ys:=ys) hr hb1 hx hy;have hno:j∉(Bp ys x).take t:=λhm=>by
  have hs:((Bp ys x).take t++[j]).Pairwise (· < ·):=htk▸Dz.sublist (List.take_sublist _ _);exact absurd ((List.pairwise_append.mp hs).2.2 j hm j (.head _)) (Nat.lt_irrefl _)
 refine oA (IS (xs:=xs) (ys:=ys) (alo:=alo) (blo:=blo) (i:=r) (j:=j)) λcl1 cl2=>?_;have hs:u.1.2.2=((Nq xs ys alo blo st r ((Bp ys x).take t)).2.2:Int):=by refine Aa h1 ?_;rfl
 refine⟨?_,?_,?_,?_⟩
 ·have:=h5.put (t:=0) hno hb1;rw[hcm] at this;refine Aa htk ?_;exact this
 ·refine Aa htk ?_;intro k hk;rcases List.mem_append.mp hk with hk | hk
  ·exact h6 k hk
  ·refine Aa (List.mem_singleton.mp hk) ?_;exact hb2
 ·intro z hgt hz;refine Aa htk (Aa Gc ?_);unfold JW;refine Aa (if_neg (UQ hb1)) (Aa (if_pos (aN (za (zv 0) (zn 1)) (za (zv 1) (zn 1)) [(6,1,zv 8,zv 0),(4,1,za (zv 8) (zn 1),za (zv 1) (zn 1))] rfl (Az _ _) (Av _) hs hgt)) ?_);unfold D8;refine Prod.ext ?_ (Prod.ext ?_ ?_)
  ·refine(?_:z-_+1=((r-_:Nat):Int));exact aB hr cl1 hz
  ·refine(?_:(j:Int)-_+1=((j-_:Nat):Int));exact ZZ cl2
  ·rfl
 ·intro hgt;refine Aa htk (Aa Gc ?_);unfold JW;exact Aa (if_neg (UQ hb1)) (Aa (if_neg (λs=>aF [(5,1,zv 8,zv 0),(7,1,za (zv 8) (zn 1),za (zv 1) (zn 1)),(0,1,za (zv 0) (zn 1),za (zv 1) (zn 1))] rfl (Az _ _) (Av _) hs hgt s)) (h1.trans rfl))
end
theorem Vw{x dx la lb D J P q t t2 dj nl rg:Addr}{v5 v6 v7:Value}{kvs:List (Str×Value)}{xs ys:List Str}{alo ahi:Nat}{o1 o2:AO}(S:Nj led x dx la lb D J P v5 v6 v7 kvs xs ys)(hq:led q=none)(ht:put q (.bnd "set.__contains__" J) led t=none)(ht2:put t o1 (put q (.bnd "set.__contains__" J) led) t2=none)(hdj:put t2 o2 (put t o1 (put q (.bnd "set.__contains__" J) led)) dj=none)(hnl:put dj (.dci []) (put t2 o2 (put t o1 (put q (.bnd "set.__contains__" J) led))) nl=none)(hrg:put nl (.lst []) (put dj (.dci []) (put t2 o2 (put t o1 (put q (.bnd "set.__contains__" J) led)))) rg=none) :
 Am led (put rg (.rng alo ahi) (put nl (.lst []) (put dj (.dci []) (put t2 o2 (put t o1 (put q (.bnd "set.__contains__" J) led))))))∧put rg (.rng alo ahi) (put nl (.lst []) (put dj (.dci []) (put t2 o2 (put t o1 (put q (.bnd "set.__contains__" J) led))))) q=some (.bnd "set.__contains__" J) ∧
 put rg (.rng alo ahi) (put nl (.lst []) (put dj (.dci []) (put t2 o2 (put t o1 (put q (.bnd "set.__contains__" J) led))))) dj=some (.dci [])∧put rg (.rng alo ahi) (put nl (.lst []) (put dj (.dci []) (put t2 o2 (put t o1 (put q (.bnd "set.__contains__" J) led))))) nl=some (.lst []) ∧
 put rg (.rng alo ahi) (put nl (.lst []) (put dj (.dci []) (put t2 o2 (put t o1 (put q (.bnd "set.__contains__" J) led))))) rg=some (.rng alo ahi)∧Nj (put rg (.rng alo ahi) (put nl (.lst []) (put dj (.dci []) (put t2 o2 (put t o1 (put q (.bnd "set.__contains__" J) led)))))) x dx la lb D J P v5 v6 v7 kvs xs ys:=by
 have e0:=(((((Am.put (o:=.bnd "set.__contains__" J) hq).trans (Am.put (o:=o1) ht)).trans (Am.put (o:=o2) ht2)).trans (Am.put (o:=.dci []) hdj)).trans (Am.put (o:=.lst []) hnl)).trans (Am.put (o:=.rng alo ahi) hrg);exact⟨e0,Ad (Ad (Ad (Ad (Ad Ac ht) ht2) hdj) hnl) hrg,Ad (Ad Ac hnl) hrg,Ad Ac hrg,Ac,S.mono e0⟩
theorem YY(room:AU c 60 600){x dx la lb D J P:Addr}{v5 v6 v7:Value}{kvs:List (Str×Value)}{xs ys:List Str}{alo ahi blo bhi:Nat}(S:Nj led x dx la lb D J P v5 v6 v7 kvs xs ys)(hx1:xs.length≤1000)(hy1:ys.length≤1000)(r1:alo≤ahi)(r2:ahi≤xs.length)(r3:blo≤bhi)(r4:bhi≤ys.length)(b1:alo≤(DP xs ys alo blo bhi (ahi-alo)).1)(b2:(DP xs ys alo blo bhi (ahi-alo)).1+(DP xs ys alo blo bhi (ahi-alo)).2.2≤ahi)(b3:blo≤(DP xs ys alo blo bhi (ahi-alo)).2.1)(b4:(DP xs ys alo blo bhi (ahi-alo)).2.1+(DP xs ys alo blo bhi (ahi-alo)).2.2≤bhi)(m1:alo<(DP xs ys alo blo bhi (ahi-alo)).1→blo<(DP xs ys alo blo bhi (ahi-alo)).2.1→xs[(DP xs ys alo blo bhi (ahi-alo)).1-1]?≠ys[(DP xs ys alo blo bhi (ahi-alo)).2.1-1]?)(m2:(DP xs ys alo blo bhi (ahi-alo)).1+(DP xs ys alo blo bhi (ahi-alo)).2.2<ahi→(DP xs ys alo blo bhi (ahi-alo)).2.1+(DP xs ys alo blo bhi (ahi-alo)).2.2<bhi→xs[(DP xs ys alo blo bhi (ahi-alo)).1+(DP xs ys alo blo bhi (ahi-alo)).2.2]?≠ys[(DP xs ys alo blo bhi (ahi-alo)).2.1+(DP xs ys alo blo bhi (ahi-alo)).2.2]?)(hk:∀M led',Am led led'→led M=none→led' M=some (.mat [Bk (DP xs ys alo blo bhi (ahi-alo)).1,Bk (DP xs ys alo blo bhi (ahi-alo)).2.1,Bk (DP xs ys alo blo bhi (ahi-alo)).2.2])→K (.ref M) led') :
 A4 c ps (.ref 196) [.ref x,Bk alo,Bk ahi,Bk blo,Bk bhi] led K:=by
 refine Be ["self","alo","ahi","blo","bhi"] (by k_is) (TI λs X z_ z_ z_ z_ z_=>binds_K X rfl (by k_is) rfl rfl rfl) room λc hd hu hr rm=>?_;refine A7 hr 60 30 ?_;refine' Ee 30 hr ?_ rfl ?w
 case w=>exact Bq λz_=>rfl
 refine AA S.hx S.hd rfl ?_ (rfl);refine AA S.hx S.hd rfl ?_ (rfl);refine AA S.hx S.hd rfl ?_ (rfl);refine AA S.hx S.hd rfl ?_ (rfl);refine LY S.hJ λq hq cq=>?_;refine Ba λt ht=>?_;refine EF ["a","b","b2j","isbjunk"] hr Ac rfl rfl ?_;refine .f rfl (.f rfl ?_);refine' B3 30 hr ["besti","bestj","bestsize"] ⟨rfl,λt2 ht2=>?_⟩ ?w
 case w=>exact Bq λz_=>rfl
 refine Ly λdj hdj loj=>?_;refine Ay λnl hnl=>?_;refine Bn 30 ?_;refine QI λrg hrg=>?_;have F:=Vw (alo:=alo) (ahi:=ahi) (o1:=.tup [.ref la,.ref lb,.ref D,.ref q]) (o2:=.tup [Bk alo,Bk blo,.int 0 0]) S hq ht ht2 hdj hnl hrg;generalize put rg (.rng (alo:Int) (ahi:Int)) _=ST at F ⊢;refine Oz F λe0 fq fj fn fr S2=>?_;clear hrg hnl hdj ht2 ht hq;refine GS (σ:=Ti×Addr×List (Int×Value)) 60 30 ["self","alo","ahi","blo","bhi","a","b","b2j","isbjunk","nothing","besti","bestj","bestsize","j2len"] (λx'=>[.ref x,Bk alo,Bk ahi,Bk blo,Bk bhi,.ref la,.ref lb,.ref D,.ref q,.ref nl,.int x'.1.1 0,.int x'.1.2.1 0,.int x'.1.2.2 0,.ref x'.2.1]) (FlI xs ys alo blo bhi ST) hr fr (ahi-alo) (.inl (by lia)) (ZY hx1 r1 r2) ((alo,blo,0),dj,[]) ⟨rfl,Am.rfl,fj,loj,Nk.start⟩ rfl ?turn ?done
 case turn=>
  intro c1 lk hr1 i z y l1 hi hz h0 Y M _ _ _ fin;obtain⟨g1,g2,g3,g4,g5⟩:=h0;have hil:alo+i<xs.length:=by lia
  obtain⟨xr,hxr⟩:∃xr,xs[alo+i]?=some xr:=⟨_,List.getElem?_eq_getElem hil⟩;obtain⟨ja,hja1,hja2⟩:∃ja,(valueAt kvs xr).getD (.ref nl) = .ref ja∧ST ja=some (.lst ((Bp ys xr).map Bk)):=by
   rcases S2.bj xr with ⟨e1,e2⟩ | ⟨a,e1,e2⟩
   ·exact⟨nl,by refine Aa e2 ?_;rfl,by refine Aa e1 ?_;exact fn⟩
   ·exact⟨a,by refine Aa e1 ?_;rfl,e2⟩
  refine MV g3 λqg hqg cqg=>?_;refine Ly λdn hdn lodn=>?_;have F:Am ST (put qg (.bnd "dict.get" y.2.1) l1)∧put qg (.bnd "dict.get" y.2.1) l1 qg=some (.bnd "dict.get" y.2.1)∧put qg (.bnd "dict.get" y.2.1) l1 y.2.1=some (.dci y.2.2):=⟨g2.trans (Am.put hqg),Ac,Ad g3 hqg⟩;generalize put qg (.bnd "dict.get" y.2.1) l1=S1 at F hdn ⊢;refine Cg F λf1 f2 f3=>?_;refine Bn 30 ?_;refine Dx PySem.F.slot_dict_get PySem.F.type_dict_get (Ad (f1 _ _ S2.hD) hdn) ?_;refine AG (j:=alo+i) (x:=Al xr) (Ad (f1 _ _ S2.ha) hdn) (hz.trans (Aa (Int.natCast_add ..) rfl)) (by refine(List.getElem?_map).trans (Aa hxr ?_);rfl) ?_ (aN (za (zv 0) (zv 1)) (zn 1000000) [(0,1,zv 2,zn 1000),(0,1,za (za (zv 0) (zv 1)) (zn 1),zv 2)] rfl (AH _ _ _) Ae hx1 hil);refine PO (Ad (f1 _ _ S2.hD) hdn) S2.lo hja1 ?_;refine UX (σ:=Ti×List (Int×Value)) 60 30 [("self":Str),("alo":Str),("ahi":Str),("blo":Str),("bhi":Str),("a":Str),("b":Str),("b2j":Str),("isbjunk":Str),("nothing":Str),("besti":Str),("bestj":Str),("bestsize":Str),("i":Str),("j2lenget":Str),("newj2len":Str)] (λu=>[.ref x,Bk alo,Bk ahi,Bk blo,Bk bhi,.ref la,.ref lb,.ref D,.ref q,.ref nl,.int u.1.1 0,.int u.1.2.1 0,.int u.1.2.2 0,.int z 0,.ref qg,.ref dn])
   (cJ xs ys alo blo bhi S1 dn (alo+i) (DP xs ys alo blo bhi i) (Bp ys xr)) (cK xs ys alo blo bhi S1 dn i) hr1 (Ad (f1 _ _ hja2) hdn) (y.1,[]) ⟨g1,Am.put hdn,Ac,Nat.le_refl _,Ds.start,λz_ h=>by contradiction⟩ rfl (λt u l h=>h.z2 _ _ (f1 _ _ hja2)) ?turn2 ?fin2 ?done2
  case turn2=>
   intro c2 lk2 hr2 t v u l2 ht hv h0;obtain⟨j,hj,rfl⟩:∃j,(Bp ys xr)[t]?=some j∧Bk j=v:=by
    replace hv:=(List.getElem?_map).symm.trans hv;exact Option.map_eq_some_iff.mp hv
   intro Y2 M2 _ brk2 cont2 fin2;obtain⟨h1,h2,h3,h4,h5,h6⟩:=h0;have htk:(Bp ys xr).take (t+1)=(Bp ys xr).take t++[j]:=by refine List.take_add_one.trans (Aa hj ?_);rfl
   refine BB.mk (λhq=>?_) (λhq=>BB.mk (λhq2=>?_) (λhq2=>?_))
   ·exact cont2 _ _ ⟨_,RL h1 h2 h3 h4 h5 h6 htk r3 (Int.ofNat_lt.mp (of_decide_eq_true hq)),rfl⟩
   ·exact brk2 _ _ ⟨u,Vv h1 h2 h3 h5 h6 hj hxr (Int.ofNat_le.mp (of_decide_eq_true hq2)),rfl⟩
   ·have hb1:blo≤j:=Nat.le_of_not_lt λh=>of_decide_eq_false hq (Int.ofNat_lt.mpr h);have hb2:j<bhi:=Nat.lt_of_not_le λh=>of_decide_eq_false hq2 (Int.ofNat_le.mpr h);obtain⟨tc,hc⟩:∃tc,(valueAt y.2.2 ((j:Int)-1)).getD (.int 0 0) = .int (cm xs ys alo blo (alo+i) j:Nat) tc:=by
     rcases g5 j hb1 hb2 with ⟨e1,e2⟩ | ⟨tc,e1⟩
     ·exact⟨0,by refine Aa e1 (Aa e2 ?_);rfl⟩
     ·exact⟨tc,by refine Aa e1 ?_;rfl⟩
    have hp:=Vt (bhi:=bhi) hxr h1 h5 h6 hj htk hb1 hb2;refine Cc 30 hr2 ?_;refine Gj (Ip cqg) ?_;refine Gi (id:="dict.get") (D:=y.2.1) (fu:=27) ?_ rfl;refine⟨h2 _ _ f2,?_⟩;refine Sp (h2 _ _ f2) (h2 _ _ f3) g4 hc ?_;refine RZ h3 ?_ (by have:=ht;rw[List.length_map] at this;have:=Vu (ys:=ys) (x:=xr);exact ZX hy1 h4 (by assumption) this);have h2':=By (o:=.dci (stored u.2 (j:Int) (.int ((cm xs ys alo blo (alo+i) j:Nat)+1:Int) 0))) h2 hdn;have h4':=Nat.le_trans (HZ (kvs:=u.2) (k:=(j:Int)) (v:=.int ((cm xs ys alo blo (alo+i) j:Nat)+1:Int) 0)) (Nat.succ_le_succ h4);refine BB.mk (λhq3=>?_) (λhq3=>?_)
    ·refine' B3 30 hr2 ["besti","bestj","bestsize"] ⟨rfl,λt3 ht3=>?_⟩ ?w
     case w=>exact Bq λz_=>rfl
     exact fin2 _ _ ⟨((_,_,_),_),⟨hp.2.2.1 (of_decide_eq_true hq3) (by refine Aa (Nat.add_sub_cancel_left ..) ?_;exact hz),h2'.trans (Am.put ht3),Ad Ac ht3,h4',hp.1,hp.2.1⟩,rfl⟩
    ·exact fin2 _ _ ⟨(u.1,stored u.2 (j:Int) (.int ((cm xs ys alo blo (alo+i) j:Nat)+1:Int) 0)),⟨hp.2.2.2 (of_decide_eq_false hq3),h2',Ac,h4',hp.1,hp.2.1⟩,rfl⟩
  case fin2=>
   intro u l2 h0;obtain⟨h1,h2,h3,h4,h5,h6⟩:=h0;rw[List.length_map,List.take_length] at h1 h5 h6;refine⟨h1.trans (congrArg D8 (Lp hxr (D7 h6)).symm),h2,h3,?_⟩;have:=Ds.row (bhi:=bhi) hxr (by refine Aa (D7 h6) ?_;exact h5);exact this
  case done2=>
   intro u l2 h0;refine Ht h0 λh1 h2 h3 h4=>?_;exact fin _ _ ⟨(u.1,dn,u.2),⟨h1,f1.trans h2,h3,lodn,h4⟩,rfl⟩
 case done=>
  intro y l1 h0;obtain⟨g1,g2,g3,g4,g5⟩:=h0;generalize hB:DP xs ys alo blo bhi (ahi-alo)=B at g1 b1 b2 b3 b4 m1 m2 hk;obtain⟨w1,w2,w3⟩:=B;dsimp only at b1 b2 b3 b4 m1 m2 hk;have e1:y.1.1=(w1:Int):=by refine Aa g1 ?_;rfl
  have e2:y.1.2.1=(w2:Int):=by refine Aa g1 ?_;rfl
  have e3:y.1.2.2=(w3:Int):=by refine Aa g1 ?_;rfl
  have fq2:=g2 _ _ fq;have fJ2:=g2 _ _ S2.hJ;have fa2:=g2 _ _ S2.ha;have fb2:=g2 _ _ S2.hb;have z1:alo<w1→y.1.1-1=((w1-1:Nat):Int):=λh=>by exact Wy e1 h
  have z2:blo<w2→y.1.2.1-1=((w2-1:Nat):Int):=λh=>by exact Wy e2 h
  have z3:y.1.1+y.1.2.2=((w1+w3:Nat):Int):=by refine Aa e1 (Aa e3 ?_);rfl
  have z4:y.1.2.1+y.1.2.2=((w2+w3:Nat):Int):=by refine Aa e2 (Aa e3 ?_);rfl
  have t1:∀{a b:Nat} {z:Int},z=(a:Int)→decide (z>(b:Int))=true→b<a:=λe h=>by have:=of_decide_eq_true h;lia
  have t2:∀{a b:Nat} {z:Int},z=(a:Int)→decide (z<(b:Int))=true→a<b:=λe h=>by have:=of_decide_eq_true h;lia
  have gx:∀{k:Nat},k<ahi→∃a,xs[k]?=some a∧(xs.map Al)[k]?=some (Al a)∧k≤1000000:=λ{k} h=>⟨_,List.getElem?_eq_getElem (Nat.lt_of_lt_of_le h r2),by refine(List.getElem?_map).trans (Aa (List.getElem?_eq_getElem (Nat.lt_of_lt_of_le h r2)) ?_);rfl,Wx hx1 r2 h⟩
  have gy:∀{k:Nat},k<bhi→∃a,ys[k]?=some a∧(ys.map Al)[k]?=some (Al a)∧k≤1000000:=λ{k} h=>⟨_,List.getElem?_eq_getElem (Nat.lt_of_lt_of_le h r4),by refine(List.getElem?_map).trans (Aa (List.getElem?_eq_getElem (Nat.lt_of_lt_of_le h r4)) ?_);rfl,Wx hy1 r4 h⟩
  refine DF 30 hr (BB.mk (λp1=>BB.mk (λp2=>?_) λz_=>⟨rfl,rfl⟩) λz_=>⟨rfl,rfl⟩) (DF 30 hr (BB.mk (λp1=>BB.mk (λp2=>?_) λz_=>⟨rfl,rfl⟩) λz_=>⟨rfl,rfl⟩) (DF 30 hr (BB.mk (λp1=>BB.mk (λp2=>?_) λz_=>⟨rfl,rfl⟩) λz_=>⟨rfl,rfl⟩) (DF 30 hr (BB.mk (λp1=>BB.mk (λp2=>?_) λz_=>⟨rfl,rfl⟩) λz_=>⟨rfl,rfl⟩) ?_)))
  ·have q1:=t1 e1 p1;have q2:=t1 e2 p2;refine B7 (gx (k:=w1-1) (UP b2 q1)) λxa ha1 ha2 ha3=>?_;refine B7 (gy (k:=w2-1) (UP b4 q2)) λxb hb1 hb2 hb3=>?_;refine Gj (Ip cq) (Gi (id:="set.__contains__") (D:=J) (fu:=27) ?_ rfl);refine AG fb2 (z2 q2) hb2 ?_ hb3;refine⟨fq2,Fz fq2 fJ2 (.t rfl ?_)⟩;refine AG fa2 (z1 q1) ha2 ?_ ha3;refine AG fb2 (z2 q2) hb2 ?_ hb3;refine .f (beq_false_of_ne λe=>m1 q1 q2 (ha1.trans (Aa hb1 (Aa e rfl)))) ⟨rfl,rfl⟩
  ·have q1:=t2 z3 p1;have q2:=t2 z4 p2;refine B7 (gx (k:=w1+w3) q1) λxa ha1 ha2 ha3=>?_;refine B7 (gy (k:=w2+w3) q2) λxb hb1 hb2 hb3=>?_;refine Gj (Ip cq) (Gi (id:="set.__contains__") (D:=J) (fu:=27) ?_ rfl);refine AG fb2 z4 hb2 ?_ hb3;refine⟨fq2,Fz fq2 fJ2 (.t rfl ?_)⟩;refine AG fa2 z3 ha2 ?_ ha3;refine AG fb2 z4 hb2 ?_ hb3;refine .f (beq_false_of_ne λe=>m2 q1 q2 (ha1.trans (Aa hb1 (Aa e rfl)))) ⟨rfl,rfl⟩
  ·have q2:=t1 e2 p2;refine B7 (gy (k:=w2-1) (UP b4 q2)) λxb hb1 hb2 hb3=>?_;refine Gj (Ip cq) (Gi (id:="set.__contains__") (D:=J) (fu:=27) ?_ rfl);refine AG fb2 (z2 q2) hb2 ?_ hb3;exact⟨fq2,Fz fq2 fJ2 (.f rfl ⟨rfl,rfl⟩)⟩
  ·have q2:=t2 z4 p2;refine B7 (gy (k:=w2+w3) q2) λxb hb1 hb2 hb3=>?_;refine Gj (Ip cq) (Gi (id:="set.__contains__") (D:=J) (fu:=27) ?_ rfl);refine AG fb2 z4 hb2 ?_ hb3;exact⟨fq2,Fz fq2 fJ2 (.f rfl ⟨rfl,rfl⟩)⟩
  ·refine Ri (rm.less (by decide) (by decide)) λMt hM=>?_;refine hk Mt _ ((e0.trans g2).trans (Am.put hM)) (Ak (e0.trans g2) hM) ?_;refine Aa e1 (Aa e2 (Aa e3 ?_));exact Ac
end
noncomputable def CM(b:AJ):List Value:=[Bk b.1,Bk b.2.1,Bk b.2.2]
noncomputable def Jq(l:Lg)(v:Value)(b:AJ):Prop:=∃a,v = .ref a∧l a=some (.mat (CM b))
theorem UI{l:Lg}{ws vs:List Value}{bl:List AJ}(k:Ch (Jq l) vs bl)(e:ws.map er=vs):ws=vs:=
 Ch.ind (P:=λvs bl=>∀ws:List Value,ws.map er=vs→ws=vs) (λws e=>List.map_eq_nil_iff.mp e) (λv b vs bl h _ ih ws e=>A3 (List.map_eq_cons_iff.mp e) λw us h1 h2 h3=>by
  refine An h λa h4 _=>?_;subst h4;exact h1.trans (Aa (Af h2) (Aa (ih _ h3) rfl))) k ws e
theorem Gd{α β:Type}{R:α→β→Prop}{l:List α}{r:List β}(h:Ch R l r)(d:α)(e:β){i:Nat}(hi:i<r.length):R (l.getD i d) (r.getD i e):=by
 refine An (h.get (List.getElem?_eq_getElem hi)) λa h1 h2=>?_;refine Aa (List.getD_eq_getElem?_getD) (Aa h1 (Aa (List.getD_eq_getElem?_getD) (Aa (List.getElem?_eq_getElem hi) ?_)));exact h2
theorem Vx{α β:Type}{R:α→β→Prop}{f:Nat→α}{g:Nat→β}:∀{l:List Nat},(∀i∈l,R (f i) (g i))→Ch R (l.map f) (l.map g):=by
 intro l
 induction l with
 |nil=>exact λ_=>trivial
 |cons i l ih=>exact λh=>⟨h i (.head _),ih λj hj=>h j (.tail _ hj)⟩
noncomputable def IF(bl:List AJ)(i:Nat):Nat:=(bl.getD i (0,0,0)).1
theorem FV{bl:List AJ}(h:(bl.map (·.1)).Nodup):Gs (IF bl) bl.length:=by
 have hp:=List.pairwise_iff_getElem.mp h;intro i j hi hj e e2;unfold IF at e2;rw[List.getD_eq_getElem?_getD,List.getElem?_eq_getElem hi,List.getD_eq_getElem?_getD,List.getElem?_eq_getElem hj] at e2;have e3:bl[i].1=bl[j].1:=e2;rcases Nat.lt_or_gt_of_ne e with l | l
 ·exact hp i j (by simpa using hi) (by simpa using hj) l (by simpa using e3)
 ·exact hp j i (by simpa using hj) (by simpa using hi) l (by simpa using e3.symm)
theorem J9{bl:List AJ}:(List.range bl.length).map (λi=>bl.getD i (0,0,0))=bl:=by
 apply List.ext_getElem (by simp);intro i h1 h2;simp[h2]
theorem Qa{bl:List AJ}{p:Array Nat}(o:Go bl.length p)(a:LG (IF bl) p bl.length):(p.toList.map λi=>bl.getD i (0,0,0)).Pairwise λa b=>a.1<b.1:=by
 refine List.pairwise_iff_getElem.mpr λi j hi hj hij=>?_;simp only[List.length_map,Array.length_toList] at hi hj;have:=a i j hij (KW o.size hj);unfold Dy IF at this;rw[E0 hi,E0 hj] at this;simpa using this
theorem Rb{l:Lg}{f:Nat→Value}{g:Nat→AJ}:∀{is:List Nat},(∀i∈is,Jq l (f i) (g i))→(is.map f).map er=is.map f:=by
 intro is
 induction is with
 |nil=>exact λ_=>rfl
 |cons i is ih=>
  intro h;refine An (h i (.head _)) λa e z_=>?_;simp only[List.map_cons];refine Aa (ih λj hj=>h j (.tail _ hj)) (Aa e ?_);rfl
section
variable{K:Value→Lg→Prop}
theorem PK(hv:led D=some (.lst vs))(hb:Ch (Jq led) vs bl)(hd:(bl.map (·.1)).Nodup)(hz:bl.length<64)(hu:c.un+100<cLine)(hk:∀vs' bl',bl'.Perm bl→bl'.Pairwise (λa b=>a.1<b.1)→Ch (Jq led) vs' bl'→K .none (put D (.lst vs') led)):A4 c ps (.builtin "list.sort") [.ref D] led K:=λf' vs0 ef ev=>by
 obtain rfl:=Aq ef;refine An (Bf ev) λv1 ho1 e1=>?_;subst ho1;obtain rfl:=Af e1;intro s hs Q' q;obtain⟨h,tk,m,con,F,N,V,I⟩:=hs;refine Ax (V.list hv) λws n hm ew=>?_;obtain rfl:=UI hb ew;have hl:=hb.length;have z:=N _ hm;by_cases h2:ws.length<2
 ·refine wpAny_call_entry slot_list_sort ⟨_,z.1,rfl⟩ entry_list_sort (Jy F (λp hp=>N p (AM p hp)) z.1 z.2.1 z.2.2 AW h2 λh' c' F' N'=>⟨_,rfl,?_⟩) (args_list_sort _);refine q .none _ _ (DA (o:=.lst ws) F' N' V I hv ⟨_,_,rfl,ew⟩) (hk _ bl (.refl _) ?_ hb);rw[hl] at h2;exact NT h2
 ·have mats:∀{h':Heap} {e1:Nat},Fr c.h₀ c.L h' m→News c.h₀ c.L h' ((D,seqObj "list" #[] e1)::off D con)→∀{v:Value} {b:AJ},Jq led v b→∃x t va,v = .ref x∧Cd h' x (.int b.1 t::va)∧Hc (model PW c.w) h' 135 x:=by
   intro h' e1 F' N' v b hvb;refine An hvb λx ho1 hx=>?_;subst ho1;refine BQ (V _ _ hx) λo hm2 d us ho4 eu=>?_;subst ho4;have hne:x≠D:=λe=>by rw[e,hv] at hx;(have hq:=Option.some.inj hx;contradiction)
   have hg:=(N' _ (.tail _ (AS hm2 hne))).1
   cases us with
   |nil=>contradiction
   |cons u us=>
    unfold CM at eu;simp only[List.map_cons,List.cons.injEq] at eu;obtain⟨t,rfl⟩:=AQ eu.1;exact⟨x,t,us,rfl,⟨_,_,hg,rfl⟩,FN (c.X.keeps F'.keep) hg⟩
  refine kas_lsort (T:=.ref 135) F (Bm N hm) (UpdF.head AW) (List.toList_toArray) (aN (zn 2) (zv 0) [(3,1,za (zv 0) (zn 1),zn 2)] rfl (Av _) Ae h2) (aN (za (zv 0) (zn 1)) (zn 64) [(0,1,za (zv 1) (zn 1),zn 64),(1,1,zv 0,zv 1)] rfl (Az _ _) Ae hz hl) (λe1 h' F' N' v hvm=>?_) (by decide) λe1 h' F' N'=>?_
  ·obtain⟨i,hi,rfl⟩:=List.mem_iff_getElem.mp hvm;have:=Gd hb .none (0,0,0) (i:=i) (KW hl hi);rw[List.getD_eq_getElem?_getD,List.getElem?_eq_getElem hi] at this;obtain⟨x,t,va,e,_,hi2⟩:=mats F' N' this;have e:ws[i] = .ref x:=e;refine Aa e ?_;exact hi2.ty
  ·refine Aa hl ?_;refine EI.wp (key:=IF bl) (n:=bl.length) (I:=λs'=>s'={ c.s with heap:=h',toks:=tk }) (λi j C s hi hj hne0 hs hC=>?_) (Q4 (FV hd) (aN (zn 2) (zv 0) [(1,1,zv 1,zv 0),(3,1,za (zv 1) (zn 1),zn 2)] rfl (Az _ _) Ae hl h2)) rfl λp s' hp hs=>?_
   ·subst hs;obtain⟨x,t,va,ex,hx,ix⟩:=mats F' N' (Gd hb .none (0,0,0) hi);obtain⟨y,u,vb,ey,hy,iy⟩:=mats F' N' (Gd hb .none (0,0,0) hj);unfold kas_ask;refine Aa ex (Aa ey ?_)
    ·refine Mu (by show c.un+_<_;exact aN (za (za (zv 0) (zn 1)) (zn 1)) (zv 1) [(0,1,za (za (zv 0) (zn 100)) (zn 1),zv 1)] rfl (Az _ _) Ae hu) ix hx hy iy.inst (λe=>(FV hd i j hi hj hne0) (by exact_mod_cast e)) ?_;have e3:decide (((bl.getD i (0,0,0)).1:Int)<((bl.getD j (0,0,0)).1:Int))=decide (IF bl i<IF bl j):=by
      unfold IF;simp
     refine Aa e3 ?_;exact hC _ rfl
   ·subst hs;refine KasFin.intro F' N' (UpdF.head AW) λh'' c' F'' N''=>?_;refine q .none _ _ (DA (o:=.lst (p.toList.map λi=>ws.getD i .none)) F'' N'' V I hv ⟨_,_,rfl,?_⟩) (hk (p.toList.map λi=>ws.getD i .none) (p.toList.map λi=>bl.getD i (0,0,0)) ?_ (Qa hp.1 hp.2) (Vx λi hi=>Gd hb _ _ (List.mem_range.mp (hp.1.perm.mem_iff.mp hi))))
    ·refine Rb (l:=led) (g:=λi=>bl.getD i (0,0,0)) λi hi=>?_;exact Gd hb .none (0,0,0) (List.mem_range.mp (hp.1.perm.mem_iff.mp hi))
    ·have:=hp.1.perm.map (λi=>bl.getD i ((0,0,0):AJ));rw[J9] at this;exact this
end
theorem KP:mroOf (.type "map")=pure [.type "map",.type "object"]:=by refine(mroOf_type ..).trans ?_;kernel_rfl
theorem OF:typeLookup (.type "map") "__new__"=pure (some (.builtin "map.__new__")):=by refine(typeLookup_type ..).trans (Aa builtinLookup_eq_fast ?_);kernel_rfl
theorem Mx:Slot "map" "__init__" "object.__init__":=
 .of (owner:="object") (n:="__init__") (by refine(typeLookup_type ..).trans (Aa builtinLookup_eq_fast ?_);kernel_rfl) (by decide +kernel) (by decide +kernel) (by decide +kernel)
  (by first | exact .inl (by decide +kernel) | exact .inr (by decide +kernel)) (by refine(isSubtype_type ..).trans ?_;kernel_rfl)
theorem GK:Slot "map" "__iter__" "map.__iter__":=
 .of (owner:="map") (n:="__iter__") (by refine(typeLookup_type ..).trans (Aa builtinLookup_eq_fast ?_);kernel_rfl) (by decide +kernel) (by decide +kernel) (by decide +kernel)
  (by first | exact .inl (by decide +kernel) | exact .inr (by decide +kernel)) (by refine(isSubtype_type ..).trans ?_;kernel_rfl)
theorem Da:Slot "map" "__next__" "map.__next__":=
 .of (owner:="map") (n:="__next__") (by refine(typeLookup_type ..).trans (Aa builtinLookup_eq_fast ?_);kernel_rfl) (by decide +kernel) (by decide +kernel) (by decide +kernel)
  (by first | exact .inl (by decide +kernel) | exact .inr (by decide +kernel)) (by refine(isSubtype_type ..).trans ?_;kernel_rfl)
theorem M5:entryFor table "map.__iter__"=some Builtin.«dict_keyiterator.__iter__»:=
 entryFor_alias (id':="dict_keyiterator.__iter__") (by kernel_rfl) (by first | rfl | decide +kernel | (unfold String.splitOn;simp +decide [String.splitOnAux])) (by decide +kernel) (by kernel_rfl)
theorem GL:entryFor table "map.__next__"=some Builtin.«map.__next__»:=entryFor_of_tree (by kernel_rfl)
theorem OG:entryFor table "map.__new__"=some Builtin.«map.__new__»:=entryFor_of_tree (by kernel_rfl)
theorem JK:TypeCalled "map" "map.__new__" "object.__init__":=
 ⟨by decide +kernel,by decide +kernel,⟨_,_,KP⟩,madeBy_type KP OF (by decide +kernel),by decide +kernel,by refine(isSubtype_type ..).trans ?_;kernel_rfl,Mx⟩
theorem Mw(a b:Value):checkTypeCall "map" ⟨[a,b],[]⟩=pure ():=by kernel_rfl
theorem Mz(a b:Value):checkBuiltinCall "map.__new__" ⟨[.type "map",a,b],[]⟩=pure ():=by kernel_rfl
theorem M6(a:Value):argsOk "map.__iter__" ⟨[a],[]⟩:=by
 unfold argsOk;kernel_rfl
theorem GN(a:Value):argsOk "map.__next__" ⟨[a],[]⟩:=by
 unfold argsOk;kernel_rfl
theorem My:typeLookup (.type "map") "__len__"=pure none:=by refine(typeLookup_type ..).trans (Aa builtinLookup_eq_fast ?_);kernel_rfl
theorem JJ:typeLookup (.type "map") "__length_hint__"=pure none:=by refine(typeLookup_type ..).trans (Aa builtinLookup_eq_fast ?_);kernel_rfl
theorem Rl:isSubtype (.type "map") (.type "map")=pure true:=by refine(isSubtype_type ..).trans ?_;kernel_rfl
noncomputable def Pe(l:Addr)(i:Nat):Obj:={ cls:=.type "list_iterator",data:=.fields #[.ref l,.int i 0] }
noncomputable def Ud(vs:List Value):Obj:={ cls:=.type "tuple",data:=.seq vs.toArray }
noncomputable def SO(T:Addr)(f:Value):Obj:={ cls:=.type "map",data:=.fields #[.ref T,f] }
theorem M4(f:Value)(l:Addr)(xs:Array Value) :
  Meets (Builtin.«map.__new__» ⟨[.type "map",f,.ref l],[]⟩) (λz_ R s=>s.heap.IsList l xs ∧
   ∀h',h'=((s.heap.push (Pe l 0)).push (Ud [.ref s.heap.objs.size])).push (SO (s.heap.push (Pe l 0)).objs.size f)→R (.ok (.ret (.ref ((s.heap.push (Pe l 0)).push (Ud [.ref s.heap.objs.size])).objs.size))) { s with heap:=h' }):=
 .of_wp λprog w A R s h=>by
  obtain⟨hp,g,d,tk,os⟩:=s;refine oA h λhl1 h=>?_;have hsub:=Rl;have hL1:Heap.IsList (Shared.heap ⟨hp,g,d,tk,os⟩) l xs:=hl1
  wp_walk using wpAny_pyIter_list hL1
  exact⟨_,rfl,h _ rfl⟩
section
variable{prog:Program}{w:World}{A:Around}{E:Value→Shared→Prop}{s:Shared}{h₀:Heap}{L l:Addr}{m:Str→Option Value}{news:Df}{vs:List Value}{n:Nat}
theorem OH(F:Fr h₀ L s.heap m)(N:News h₀ L s.heap news)(hm:(l,listOf vs.toArray n)∈news)(h:∀I T M h',Fr h₀ L h' m→News h₀ L h' ((M,SO T f)::(T,Ud [.ref I])::(I,Pe l 0)::news)→(∀p∈news,p.1<I)→(∀p∈((I,Pe l 0)::news:Df),p.1<T)→(∀p∈((T,Ud [.ref I])::(I,Pe l 0)::news:Df),p.1<M)→Q (.ref M) { s with heap:=h' }) :
  wpAny (model prog w) A (call (.type "map") [f,.ref l]) Q E s:=by
 refine callType_new JK (by decide) (Mw _ _) (Mz _ _) (λobj=>PySem.F.args_object_init_3 obj _ _) OG (M4 f l vs.toArray) ⟨AD N hm,?_⟩;rintro h' rfl;have F1:=F.push (Pe l 0);have N1:=News.push F N (Pe l 0) rfl;have F2:=F1.push (Ud [.ref s.heap.objs.size]);have N2:=News.push F1 N1 (Ud [.ref s.heap.objs.size]) rfl;have N3:=News.push F2 N2 (SO (s.heap.push (Pe l 0)).objs.size f) rfl;exact⟨⟨_,(N3 _ (.head _)).1,rfl⟩,h _ _ _ _ (F2.push (SO (s.heap.push (Pe l 0)).objs.size f)) N3 (λp hp=>Heap.lt_size (N p hp).1) (λp hp=>Heap.lt_size (N1 p hp).1) λp hp=>Heap.lt_size (N2 p hp).1⟩
end
theorem Ru:builtinKind "tuple.__len__"=some .slot:=by decide +kernel
theorem OX:splitId "tuple.__len__"=some ("tuple","__len__"):=by decide +kernel
section
variable{prog:Program}{w:World}{A:Around}{E:Value→Shared→Prop}{s:Shared}{x:Addr}{vs:List Value}
theorem Ms(I:Hc (model prog w) s.heap 135 x)(hl:Looks (model prog w) s.heap (typeLookup (.ref 135) "__len__") (some (.builtin "tuple.__len__")))(hs:Cd s.heap x vs)(hz:vs.length≤1000)(h:∀t tk,Q (.int vs.length t) { s with toks:=tk }):wpAny (model prog w) A (call (.builtin "len") [.ref x]) Q E s:=by
 refine Calls.call_function_entry kind_len plain_len entry_len (args_len1 _) ?_;unfold Builtin.«len»;refine wpAny_bind (m:=oneArg "len" _) (wpAny_pure ?_);refine wpAny_bind (m:=callSpecial? (.ref x) "__len__") ?_;unfold callSpecial? specialOf;refine wpAny_bind (wpAny_bind (I.ty.here (hl.here ?_)));dsimp only;simp only[EM PySem.F.slot_tuple_len];refine wpAny_holding (wpAny_bind (wpAny_pure (wpAny_bind ?_)));refine wpAny_call (codeAny_call_builtin_at (Code.quiet_builtin _ (by decide +kernel)) PySem.F.entry_tuple_len (check_slot Ru OX I.inst (PySem.F.args_tuple_len_1 _) ?_));refine(?_:wpAny _ _ (Builtin.Tuple.tupleItemsOf (.ref x) >>= _) _ _ s);refine Ax hs λo n ho hd=>?_;unfold Builtin.Tuple.tupleItemsOf;refine wpAny_bind (wpAny_bind (wpAny_seqItems ho hd (wpAny_pure ?_)));refine wpAny_bind (wpAny_mkInt (wpAny_pure (wpAny_pure ?_)));refine Aa List.size_toArray ?_;refine wpAny_bind (wpAny_holding (wpAny_pure ?_));refine wpAny_bind (wpAny_letGo ?_);refine Aa (if_neg (UW)) (Aa (if_neg (by lia)) ?_);exact wpAny_bind (wpAny_mkInt (wpAny_pure ⟨_,rfl,h _ _⟩))
end
section
variable{cs:Scope}{c:Cf cs}{ps:PS}{led:Lg}{K:Value→Lg→Prop}{T q l:Addr}{v1 v2 v3:Value}
theorem Rh{K:Value×List Value→Lg→Prop}(hk:K (.builtin "tuple.__new__",[]) led):Gp "__new__" c ps (.type "tuple") led K:=λa' pl ea=>by
 obtain rfl:=Bj ea;refine A9 hk λh tk m con Q' F N C q=>?_;exact method_type (T:="tuple") (K:=hd0.heap_1 c.w.params) F c.X (by kernel_rfl) (by decide +kernel) (v:=.builtin "tuple.__new__") (by k_is) (by k_handed) (q _ _ rfl)
theorem PL(hT:led T=some (.tup [v1,v2,v3]))(hk:∀M,led M=none→K (.ref M) (put M (.mat [v1,v2,v3]) led)):A4 c ps (.builtin "tuple.__new__") [.ref 135,.ref T] led K:=λf' vs' ef ev=>by
 obtain rfl:=Aq ef;refine A3 (Cw ev) λw1 w2 ho2 e1 e2=>?_;subst ho2;obtain rfl:=Af e1;obtain rfl:=Af e2;intro s hs Q' q;obtain⟨h,tk,m,con,F,N,V,I⟩:=hs;refine Ax (V.tuple hT) λws n hm e=>?_;refine Ix (cd:=_) F c.X N (by k_is) ⟨rfl,rfl,rfl,rfl,rfl,rfl⟩ (by k_is) hm (by refine Aa (AP e) ?_;exact Nat.le_of_ble_eq_true rfl) λx dd h' F' N' l1 l2=>?_;refine oA (LE (o:=.mat [v1,v2,v3]) (tk:=tk) F' N' V I (λz hz=>.tail _ (.tail _ hz)) (.head _) (λz hz=>Nat.lt_trans (l1 z hz) l2) ⟨dd,ws,rfl,e⟩) λk1 k2=>?_;exact q (.ref x) _ _ k2 (hk x k1)
theorem Rs(hM:led T=some (.mat [v1,v2,v3]))(hk:K (.int 3 0) led):A4 c ps (.builtin "len") [.ref T] led K:=λf' vs' ef ev=>by
 obtain rfl:=Aq ef;refine An (Bf ev) λw1 ho1 e1=>?_;subst ho1;obtain rfl:=Af e1;refine A9 hk λh tk m con Q' F N C q=>?_;have X:(hd0.heap_1 c.w.params).In c.h₀:=c.X;refine BQ (C _ _ hM) λo hm dd ws ho4 e=>?_;subst ho4;have e3:ws.length=3:=AP e;refine Ms (vs:=ws) (FN (X.keeps F.keep) (N _ hm).1) (looks_findIn (X.keeps F.keep) (by k_is)) ⟨_,_,(N _ hm).1,rfl⟩ (aN (zv 0) (zn 1000) [(1,1,zv 0,zn 3)] rfl (Av _) Ae e3) λt tk'=>q _ _ (by refine Aa e3 ?_;rfl)
theorem UM(room:AU c 60 600)(hT:led T=some (.tup [v1,v2,v3]))(hk:∀M,led M=none→K (.ref M) (put M (.mat [v1,v2,v3]) led)):Ed c ps (.ref 89) [.ref 135,.ref T] led K:=by
 refine' Fy ["cls","iterable"] ?ho ?hcd ?hb ?hl ?c1 ?c2 ?c3 ?c4 ?room ?_
 case ho=>k_is
 case hcd=>k_is
 case hb=>exact Fh λs X z_ z_=>BindsTo.of_eq rfl
 case hl=>decide
 case c1=>rfl
 case c2=>rfl
 case c3=>rfl
 case c4=>rfl
 case room=>exact Nat.lt_of_le_of_lt (Nat.le_add_right _ _) room.1
 intro c hd hu hr;refine A7 hr 60 30 ?_;refine Rh ?_;refine PL hT λM hM=>?_;refine Rs Ac ?_;refine .f rfl ?_;exact hk M hM
end
noncomputable def UL:AO:=.pr 1 λo=>o=methodObj (.ref 89) (.ref 135)
noncomputable def DY(l:Addr)(i:Nat):AO:=.pr 2 λo=>o.cls = .type "list_iterator"∧o.data = .fields #[.ref l,.int i 0]
noncomputable def Iy(T q:Addr):AO:=.pr 3 λo=>o=SO T (.ref q)
noncomputable def ZG(l:Lg)(v:Value)(b:AJ):Prop:=∃a,v = .ref a∧l a=some (.tup (CM b))
section
theorem ML(h:put I o led a=none):led a=none:=by
 unfold put at h;split at h
 ·contradiction
 ·exact h
theorem OD{l I T q M:Addr}{i k:Nat}{vs:List Value}{v:Value}{b:AJ}{Q:Option Value→Shared→Prop}{E:Value→Shared→Prop}(r1:c.dp+60<recursionLimit)(r2:c.un+k+700<cLine)(hs:At c ps led s)(hl:led l=some (.lst vs))(hI:led I=some (DY l i))(hT:led T=some (.tup [.ref I]))(hq:led q=some UL)(hM:led M=some (Iy T q))(hv:vs[i]?=some v)(hb:ZG led v b)(h:∀x s',led x=none→At c ps (put x (.mat (CM b)) (put I (DY l (i+1)) led)) s'→Q (some (.ref x)) s'):wpAny (model PW c.w) (c.A' k) (pyNext (.ref M)) Q E s:=by
 refine An (hs.obj hM) λoM gM eM=>?_;obtain rfl:oM=SO T (.ref q):=eM;refine BQ (hs.obj hT) λoT gT ws n ho4 eT=>?_;subst ho4;refine An (Bf eT) λw1 ho1 e1=>?_;subst ho1;obtain rfl:=Af e1;refine An (hs.obj hI) λoI gI eI=>?_;refine oA eI λeI1 eI2=>?_;refine BQ (hs.obj hl) λol gl us nl ho4 el=>?_;subst ho4;refine An hb λa ho1 ha=>?_;subst ho1;rw[← el,List.getElem?_map] at hv;refine An (Option.map_eq_some_iff.mp hv) λv' hv1 hv2=>?_;obtain rfl:=Af hv2;have hTy:s.TypeIs (.ref M) "map":=⟨_,gM,rfl⟩;unfold pyNext;refine wpAny_bind (wpAny_attempt (wpAny_callSpecial?_slot (name:="__next__") hTy Da (wpAny_call_entry Da hTy GL ?_ (GN _))));refine(?_:wpAny _ _ (field (.ref M) 0 >>= _) _ _ _);refine wpAny_bind (wpAny_field gM rfl (x:=.ref T) rfl ?_);refine wpAny_bind (wpAny_seqItems gT rfl ?_);simp only[List.forIn_toArray,List.forIn_cons,List.forIn_nil];refine wpAny_bind (wpAny_bind (wpAny_bind (wpAny_holding (wpAny_nextOf_list_item ⟨_,gI,eI1,eI2⟩ ⟨_,gl,rfl,_,rfl⟩ (by refine(List.getElem?_toArray).trans ?_;exact hv1) λh1 hit hsb=>wpAny_pure (wpAny_pure ?_)))));refine B7 hit λoJ gJ eJ1 eJ2=>?_;have hs1:=hs.same hI hsb (o:=DY l (i+1)) gJ ⟨eJ1,eJ2⟩;have nMI:M≠I:=λe=>by rw[e,hI] at hM;cases hM
 have nqI:q≠I:=λe=>by rw[e,hI] at hq;cases hq
 have naI:a≠I:=λe=>by rw[e,hI] at ha;(have hq:=Option.some.inj ha;contradiction)
 refine An (hs1.obj (Ab hq nqI)) λoq gq eq=>?_;obtain rfl:oq=methodObj (.ref 89) (.ref 135):=eq;refine wpAny_bind (wpAny_field ((hsb.2 M nMI).trans gM) rfl (x:=.ref q) rfl ?_);refine wpAny_bind (wpAny_holding (wpAny_call (method_call gq ?_)));refine UM (c:=c.up (k+1)) (ps:=ps) (K:=λu l'=>∃x,u = .ref x∧led x=none∧l'=put x (.mat (CM b)) (put I (DY l (i+1)) led)) ⟨r1,?_⟩ (Ab ha naI) (λx hx=>⟨x,rfl,?_,rfl⟩) _ _ rfl rfl _ (At.up.mpr hs1) _ λv s' led' hs2 hk=>?_
 ·refine(?_:c.un+(k+1)+600<cLine);exact aN (za (za (za (zv 0) (za (zv 1) (zn 1))) (zn 600)) (zn 1)) (zv 2) [(0,1,za (za (za (zv 0) (zv 1)) (zn 700)) (zn 1),zv 2)] rfl (AH _ _ _) Ae r2
 ·exact ML hx
 refine B7 hk λx ex hx ho3=>?_;subst ho3;obtain rfl:=Af ex;refine wpAny_bind (wpAny_letGo ?_);exact wpAny_pure ⟨_,rfl,wpAny_pure (h x s' hx (At.up.mp hs2))⟩
theorem Rm{l I T q M:Addr}{i k:Nat}{vs:List Value}{Q:Option Value→Shared→Prop}{E:Value→Shared→Prop}(hs:At c ps led s)(hl:led l=some (.lst vs))(hI:led I=some (DY l i))(hT:led T=some (.tup [.ref I]))(hM:led M=some (Iy T q))(hv:vs[i]?=none)(h:∀s',At c ps (ZD I led) s'→Q none s'):wpAny (model PW c.w) (c.A' k) (pyNext (.ref M)) Q E s:=by
 refine An (hs.obj hM) λoM gM eM=>?_;obtain rfl:oM=SO T (.ref q):=eM;refine BQ (hs.obj hT) λoT gT ws n ho4 eT=>?_;subst ho4;refine An (Bf eT) λw1 ho1 e1=>?_;subst ho1;obtain rfl:=Af e1;refine An (hs.obj hI) λoI gI eI=>?_;refine oA eI λeI1 eI2=>?_;refine BQ (hs.obj hl) λol gl us nl ho4 el=>?_;subst ho4;rw[← el,List.getElem?_map,Option.map_eq_none_iff] at hv;have hTy:s.TypeIs (.ref M) "map":=⟨_,gM,rfl⟩;unfold pyNext;refine wpAny_bind (wpAny_attempt (wpAny_callSpecial?_slot (name:="__next__") hTy Da (wpAny_call_entry Da hTy GL ?_ (GN _))));refine(?_:wpAny _ _ (field (.ref M) 0 >>= _) _ _ _);refine wpAny_bind (wpAny_field gM rfl (x:=.ref T) rfl ?_);refine wpAny_bind (wpAny_seqItems gT rfl ?_);simp only[List.forIn_toArray,List.forIn_cons,List.forIn_nil];refine wpAny_bind (wpAny_bind (wpAny_bind (wpAny_holding (wpAny_nextOf_list_end rfl ⟨_,gI,eI1,eI2⟩ ⟨_,gl,rfl,_,rfl⟩ (by refine(List.getElem?_toArray).trans ?_;exact hv) λh1 e hsb he=>?_))));refine An he λoe hoe hce=>?_;refine wpAny_bind (wpAny_isInstance (T:="StopIteration") (b:=true) ⟨oe,hoe,hce⟩ isSubtype_stop ?_);exact wpAny_pure (h _ (hs.drop hI hsb))
theorem OE{l I T q M S:Addr}{k:Nat}{vs:List Value}{bl:List AJ}{R:Result→Shared→Prop}(r1:c.dp+60<recursionLimit)(r2:c.un+k+710<cLine)(hz:bl.length≤1000) :
  ∀(j i:Nat) (acc:List Value) (led:Lg) (s:Shared),bl.length-i=j→i≤bl.length→At c ps led s→led l=some (.lst vs)→led I=some (DY l i)→led T=some (.tup [.ref I])→led q=some UL→led M=some (Iy T q)→led S=some (.lst acc)→acc.length=i→S≠l→Ch (ZG led) vs bl→Ch (Jq led) acc (bl.take i) →
   (∀led' ws s',At c ps led' s'→(∀a o,led a=some o→a≠I→a≠S→led' a=some o)→led' S=some (.lst ws)→Ch (Jq led') ws bl→R (.ok (.ret .none)) s') →
   codeAny (model PW c.w) (c.A' k) (.builtin "list.extend.loop" ⟨[.ref S,.ref M,.none],[]⟩) R s:=by
 intro j
 induction j with
 |zero=>
  intro i acc led s hj hi hs hl hI hT hq hM hS hai hSl hb hm hR;have hin:i=bl.length:=T7 hj hi;refine codeAny_builtin F.entry_extend_loop ?_;refine Aa (Around.under_plainId F.plain_extend_loop _) ?_;refine(?_:wpAny _ (c.A' (k+1)) (pyNext (.ref M) >>= _) _ _ s);refine wpAny_bind (Rm hs hl hI hT hM (by rw[List.getElem?_eq_none];rw[hb.length,hin];exact Nat.le_refl _) λs' hs'=>?_);have nSI:S≠I:=λe=>by rw[e,hI] at hS;(have hq:=Option.some.inj hS;contradiction)
  refine wpAny_pure (hR _ acc s' hs' (λa o h n z_=>J8 h n) (J8 hS nSI) ?_);rw[hin,List.take_length] at hm;exact hm.mono λv b hX=>An hX λa e1 e2=>⟨a,e1,J8 e2 λe3=>by rw[e3,hI] at e2;cases e2⟩
 |succ j ih=>
  intro i acc led s hj hi hs hl hI hT hq hM hS hai hSl hb hm hR;have hlt:i<bl.length:=by lia
  have e1:bl[i]?=some bl[i]:=List.getElem?_eq_getElem hlt;have e0:bl.take (i+1)=bl.take i++[bl[i]]:=List.take_succ_eq_append_getElem hlt;generalize bl[i]=b at e1 e0;refine An (hb.get e1) λv hv hb1=>?_;have nSI:S≠I:=λe=>by rw[e,hI] at hS;(have hq:=Option.some.inj hS;contradiction)
  have nlI:l≠I:=λe=>by rw[e,hI] at hl;(have hq:=Option.some.inj hl;contradiction)
  have nTI:T≠I:=λe=>by rw[e,hI] at hT;(have hq:=Option.some.inj hT;contradiction)
  have nqI:q≠I:=λe=>by rw[e,hI] at hq;cases hq
  have nMI:M≠I:=λe=>by rw[e,hI] at hM;cases hM
  have nTS:T≠S:=λe=>by rw[e,hS] at hT;(have hq:=Option.some.inj hT;contradiction)
  have nqS:q≠S:=λe=>by rw[e,hS] at hq;(have hq:=Option.some.inj hq;contradiction)
  have nMS:M≠S:=λe=>by rw[e,hS] at hM;(have hq:=Option.some.inj hM;contradiction)
  refine codeAny_builtin F.entry_extend_loop ?_;refine Aa (Around.under_plainId F.plain_extend_loop _) ?_;refine(?_:wpAny _ (c.A' (k+1)) (pyNext (.ref M) >>= _) _ _ s);refine wpAny_bind (OD r1 (aN (za (za (za (zv 0) (za (zv 1) (zn 1))) (zn 700)) (zn 1)) (zv 2) [(0,1,za (za (za (zv 0) (zv 1)) (zn 710)) (zn 1),zv 2)] rfl (AH _ _ _) Ae r2) hs hl hI hT hq hM hv hb1 λx s' hx hs'=>?_);have old:∀a o,led a=some o→a≠I→put x (.mat (CM b)) (put I (DY l (i+1)) led) a=some o:=λa o e n=>Ab (Ab e n) λe2=>by rw[e2,hx] at e;contradiction
  have nxI:I≠x:=λe=>by rw[← e,hI] at hx;contradiction
  have nxS:x≠S:=λe=>by rw[e,hS] at hx;contradiction
  refine(?_:wpAny _ _ (updateSeq S (·.push (.ref x)) >>= _) _ _ _);refine wpAny_bind (hs'.push (old _ _ hS nSI) (aN (zv 0) (zn 100000) [(0,1,zv 1,zn 1000),(1,1,zv 0,zv 2),(0,1,za (zv 2) (zn 1),zv 1)] rfl (AH _ _ _) Ae hz hai hlt) λs2 hs2=>wpAny_pure ⟨plainId_quiet F.plain_extend_loop _,?_⟩);have two:∀a o,led a=some o→a≠I→a≠S→put S (.lst (acc++[er (.ref x)])) (put x (.mat (CM b)) (put I (DY l (i+1)) led)) a=some o:=λa o e n n2=>Ab (old a o e n) n2;refine ih (i+1) (acc++[.ref x]) _ s2 (T5 hj) (aN (za (zv 0) (zn 1)) (zv 1) [(0,1,za (zv 0) (zn 1),zv 1)] rfl (Az _ _) Ae hlt) hs2 (two _ _ hl nlI hSl.symm) (Ab (Ab Ac nxI) nSI.symm) (two _ _ hT nTI nTS) (two _ _ hq nqI nqS) (two _ _ hM nMI nMS) Ac (by refine List.length_append.trans (Aa hai ?_);rfl) hSl (hb.mono λv b hX=>An hX λa k1 k2=>⟨a,k1,two _ _ k2 (λe=>by rw[e,hI] at k2;(have hq:=Option.some.inj k2;contradiction)) λe=>by rw[e,hS] at k2;cases k2⟩) ?_ λled' ws s3 h1 h2 h3 h4=>hR led' ws s3 h1 (λa o e n n2=>h2 a o (two a o e n n2) n n2) h3 h4;refine Aa e0 ?_;exact(hm.mono λv b hX=>An hX λa k1 k2=>⟨a,k1,two _ _ k2 (λe=>by rw[e,hI] at k2;(have hq:=Option.some.inj k2;contradiction)) λe=>by rw[e,hS] at k2;cases k2⟩).snoc ⟨x,rfl,Ab Ac nxS⟩
theorem IA{K:Value→Lg→Prop}{l I T q M:Addr}{vs:List Value}{bl:List AJ}(room:AU c 60 720)(hl:led l=some (.lst vs))(hI:led I=some (DY l 0))(hT:led T=some (.tup [.ref I]))(hq:led q=some UL)(hM:led M=some (Iy T q))(hb:Ch (ZG led) vs bl)(hz:bl.length≤1000)(hk:∀r led' ws,(∀a o,led a=some o→a≠I→led' a=some o)→led r=none→led' r=some (.lst ws)→Ch (Jq led') ws bl→K (.ref r) led'):A4 c ps (.type "list") [.ref M] led K:=λf' vs' ef ev=>by
 obtain rfl:=Bj ef;refine An (Bf ev) λv1 ho1 e1=>?_;subst ho1;obtain rfl:=Af e1;intro s hs Q' qq;refine oA (hs.new (o:=.lst []) (o':={ cls:=.type "list",data:=.seq #[] }) ⟨[],0,rfl,rfl⟩) λn0 hs0=>?_;refine callType_codes (Q₁:=λobj s₁=>∃S,obj = .ref S∧led S=none∧At c ps (put S (.lst []) led) s₁) F.called_list (F.typeCall_list_1 _) F.entry_list_init (code_list_new _ ⟨_,rfl,n0,hs0⟩) λobj s₁ h₁=>?_;refine B7 h₁ λS ho1 hS hs1=>?_;subst ho1;clear hs0 n0;refine BQ (hs1.obj Ac) λo1 g1 ws1 k1 ho4 ew=>?_;subst ho4;refine⟨⟨_,g1,rfl⟩,F.args_list_init_2 _ _,?_⟩;have ne:∀{a o},led a=some o→a≠S:=λe e2=>by rw[e2,hS] at e;contradiction
 refine(?_:wpAny _ (c.A' 2) (do let old ← Builtin.List.listItems (.ref S);Builtin.List.listUpdate (.ref S) (λz_=>#[]);letGo old.toList.reverse;Builtin.List.listExtendWith (.ref S) (.ref M) .none) _ _ s₁);refine wpAny_bind ?_;unfold Builtin.List.listItems;refine wpAny_bind (wpAny_seqItems g1 rfl (wpAny_pure ?_));refine(?_:wpAny _ (c.A' 2) (updateSeq S (λz_=>#[]) >>= λz_=>letGo _ >>= λz_=>Builtin.List.listExtendWith (.ref S) (.ref M) .none) _ _ s₁);refine wpAny_bind (hs1.seq (vs':=[]) Ac (by decide) (by decide) (λz_ z_=>rfl) λs2 hs2=>?_);rw[Hr] at hs2;refine wpAny_bind (wpAny_letGo ?_);refine An (hs2.obj (Ab hM (ne hM))) λoM gM eM=>?_;obtain rfl:oM=SO T (.ref q):=eM;have hTy:s2.TypeIs (.ref M) "map":=⟨_,gM,rfl⟩;unfold Builtin.List.listExtendWith;refine wpAny_bind (wpAny_typeOf hTy ?_);have h1:Builtin.List.listSameRef (.ref S) (.ref M)=false:=by simp[Builtin.List.listSameRef,(ne hM).symm]
 have h2:(Value.type "map"==Value.type "list")=false:=by decide
 have h3:(Value.type "map"==Value.type "tuple")=false:=by decide
 simp only[h1,h2,h3,Bool.or_false,Bool.false_eq_true,if_false];refine wpAny_bind (wpAny_pyIter_slot hTy GK (wpAny_call_entry GK hTy M5 ?_ (M6 _)));refine(?_:wpAny _ _ (ret (.ref M)) _ _ _);refine wpAny_pure ⟨_,rfl,"map",_,hTy,Da.lookup,?_⟩;refine wpAny_bind (wpAny_holding ?_);unfold Builtin.List.listLengthHint;refine wpAny_bind (wpAny_specialOf hTy My ?_);refine(?_:wpAny _ (c.A' 2) (specialOf (Value.ref M) "__length_hint__" >>= _) _ _ _);refine wpAny_bind (wpAny_specialOf hTy JJ ?_);refine wpAny_pure ?_;refine(?_:wpAny _ (c.A' 2) (rule "list.extend.makes-room" >>= λz_=>Builtin.List.listTouch (.ref S) >>= λz_=>
  again (.builtin "list.extend.loop" ⟨[.ref S,.ref M,.none],[]⟩)) _ _ _)
 refine wpAny_bind (wpAny_rule ?_);refine wpAny_bind ?_;refine(?_:wpAny _ (c.A' 2) (updateSeq S (·.push .none) >>= λz_=>updateSeq S (·.pop)) _ _ _);refine wpAny_bind (hs2.push Ac (by decide) λs3 hs3=>?_);rw[Hr] at hs3;refine hs3.seq (vs':=[]) Ac (by decide) (by decide) (λws e=>?_) λs4 hs4=>?_
 ·refine An (Bf e) λw1 ho1 e3=>?_;subst ho1;rfl
 rw[Hr] at hs4;refine wpAny_pure ⟨plainId_quiet F.plain_extend_loop _,?_⟩;refine(?_:codeAny _ (c.A' 1) _ _ _);refine OE (S:=S) room.1 (by have:=room.2;exact aN (za (za (za (zv 0) (zn 1)) (zn 710)) (zn 1)) (zv 1) [(0,1,za (za (zv 0) (zn 720)) (zn 1),zv 1)] rfl (Az _ _) Ae this) hz _ 0 [] _ s4 rfl (Nat.zero_le _) hs4 (Ab hl (ne hl)) (Ab hI (ne hI)) (Ab hT (ne hT)) (Ab hq (ne hq)) (Ab hM (ne hM)) Ac rfl (ne hl).symm (hb.mono λv b hX=>An hX λa k1 k2=>⟨a,k1,Ab k2 (ne k2)⟩) trivial λled' ws s5 h1 h2 h3 h4=>?_;exact⟨rfl,qq _ _ _ h1 (hk S led' ws (λa o e n=>h2 a o (Ab e (ne e)) n (ne e)) hS h3 h4)⟩
end
section
variable{c:Cf cs}{K:Value→Lg→Prop}
theorem Jb(hk:∀q,led q=none→K (.ref q) (put q UL led)):Fl "_make" c ps (.ref 135) led K:=λa' ea=>by
 obtain rfl:=Af ea;refine Cz (o:=UL) hk λh tk m con Q' F N C q=>?_;exact cls_cm F c.X N (by k_is) (by k_is) (by k_is) (by k_is) λp h' F' N' hl=>q p h' _ _ rfl F' N' hl
theorem KO(hl:led l=some (.lst vs))(hk:∀I T M,led I=none→put I (DY l 0) led T=none→put T (.tup [.ref I]) (put I (DY l 0) led) M=none→K (.ref M) (put M (Iy T q) (put T (.tup [.ref I]) (put I (DY l 0) led)))):A4 c ps (.type "map") [.ref q,.ref l] led K:=λf' vs' ef ev=>by
 obtain rfl:=Bj ef;refine A3 (Cw ev) λv1 v2 ho2 e1 e2=>?_;subst ho2;obtain rfl:=Af e1;obtain rfl:=Af e2;intro s hs Q' qq;obtain⟨h1,tk,m,con,F,N,C,I⟩:=hs;refine Ax (C.list hl) λws n hm e=>?_;refine OH F N hm λIt T M h' F' N' l1 l2 l3=>?_;have C1:=C.new (a:=It) (o:=DY l 0) (o':=Pe l 0) ⟨rfl,rfl⟩;refine oA (C3 (tk:=tk) (o:=Iy T q) F' N' (C1.new (a:=T) (o:=.tup [.ref It]) (o':=Ud [.ref It]) ⟨[.ref It],0,rfl,rfl⟩) ((I.new l1).new l2) l3 rfl) λk1 k2=>?_;exact qq (.ref M) _ _ k2 (hk It T M (C.none l1) (C1.none l2) k1)
theorem HM(ns:List Str)(hr:c.rd=none)(ha:led a=some (.mat [v1,v2,v3]))(hn:C6 elts=some ns)(hl:ns.length=3)(h:N (SJ ns [v1,v2,v3] ps) led)(hk:ns.all (Ft cs)=true:=by rfl):Dt (.Tuple elts k pos) c (.ref a) ps led N:=by
 intro v' e s hs Q' q;obtain rfl:=Af e;refine C0 hs.read λm con F Nw C back=>?_;refine BQ (C _ _ ha) λo hm d ws ho4 ew=>?_;subst ho4;refine Dj (IM ew) λw1 w2 w3 ho3 e1 e2 e3=>?_;subst ho3;refine oA (Ge (env:=c.env) hn) λh1 h2=>?_;refine Jc F c.X Nw hm rfl (h1.trans hl) h2 λh' F' N'=>?_;refine II hr hn hk hl.symm (back h' s.toks F' N') λs' h3=>q s' _ _ h3 ?_;refine Aa ew ?_;exact h
end
noncomputable def Wf(r:Rg):List Value:=[Bk r.1,Bk r.2.1,Bk r.2.2.1,Bk r.2.2.2]
noncomputable def bB(l:Lg)(v:Value)(r:Rg):Prop:=∃a,v = .ref a∧l a=some (.tup (Wf r))
structure Jk(ST lt l:Lg)(Q B:Addr)(vq:List Value)(q:List Rg)(vb:List Value)(bl:List AJ):Prop where
 e1:Am ST lt
 e2:Am lt l
 ne:Q≠B
 nQ:lt Q=none
 nB:lt B=none
 hQ:l Q=some (.lst vq)
 hB:l B=some (.lst vb)
 fQ:Ch (bB lt) vq q
 fB:Ch (Jq lt) vb bl
section
variable{ST lt l l':Lg}
theorem Ii(e:Am l l'):∀v r,bB l v r→bB l' v r:=λz_ z_ hX=>An hX λa h1 h2=>⟨a,h1,e _ _ h2⟩
theorem FJ(e:Am l l'):∀v r,Jq l v r→Jq l' v r:=λz_ z_ hX=>An hX λa h1 h2=>⟨a,h1,e _ _ h2⟩
theorem Jk.push(S:Jk ST lt l Q B vq q vb bl)(ht:l t=none)(tv:List Value)(htv:tv=Wf r):Jk ST (put t (.tup (Wf r)) lt) (put Q (.lst (vq++[.ref t])) (put t (.tup tv) l)) Q B (vq++[.ref t]) (q++[r]) vb bl:=by
 subst htv;have nt:=Ak S.e2 ht;have q1:Q≠t:=Ag S.hQ ht;have b1:B≠t:=Ag S.hB ht;have nQ:=A0 (o:=.tup (Wf r)) S.nQ q1;exact⟨S.e1.trans (Am.put nt),By (CI S.e2) nQ,S.ne,nQ,A0 S.nB b1,Ac,Ab (Ab S.hB b1) (Ne.symm S.ne),(S.fQ.mono (Ii (Am.put nt))).snoc ⟨t,rfl,Ac⟩,S.fB.mono (FJ (Am.put nt))⟩
theorem Jk.pop(S:Jk ST lt l Q B vq (q++[r]) vb bl):∃p a,vq=p++[.ref a]∧l a=some (.tup (Wf r))∧a≠Q∧Jk ST lt (put Q (.lst p) l) Q B p q vb bl:=by
 refine KN S.fQ.unsnoc λp v e h1 a ho5 h2=>?_;subst ho5;refine⟨p,a,e,S.e2 _ _ h2,Ag h2 S.nQ,S.e1,By S.e2 S.nQ,S.ne,S.nQ,S.nB,Ac,Ab S.hB (Ne.symm S.ne),h1,S.fB⟩
theorem Jk.ext(S:Jk ST lt l Q B vq q vb bl)(e:Am l l'):Jk ST lt l' Q B vq q vb bl:=⟨S.e1,S.e2.trans e,S.ne,S.nQ,S.nB,e _ _ S.hQ,e _ _ S.hB,S.fQ,S.fB⟩
theorem Jk.add(S:Jk ST lt l Q B vq q vb bl)(e:Am l l')(hM:l M=none)(hM2:l' M=some (.mat (CM b))):Jk ST (put M (.mat (CM b)) lt) (put B (.lst (vb++[.ref M])) l') Q B vq q (vb++[.ref M]) (bl++[b]):=by
 have nM:=Ak S.e2 hM;have q1:Q≠M:=Ag S.hQ hM;have b1:B≠M:=Ag S.hB hM;have nB:=A0 (o:=.mat (CM b)) S.nB b1;have e2:Am (put M (.mat (CM b)) lt) l':=λa o h=>by
  unfold put at h;split at h
  ·rename_i e3;obtain rfl:=Option.some.inj h;refine Aa e3 ?_;exact hM2
  ·exact e _ _ (S.e2 _ _ h)
 exact⟨S.e1.trans (Am.put nM),By e2 nB,S.ne,A0 S.nQ q1,nB,Ab (e _ _ S.hQ) S.ne,Ac,S.fQ.mono (Ii (Am.put nM)),(S.fB.mono (FJ (Am.put nM))).snoc ⟨M,rfl,Ac⟩⟩
end
section
variable{ST lt l:Lg}
theorem Jk.nil(S:Jk ST lt l Q B vq q vb bl):Jk ST lt l Q B vq (q++[]) vb bl:=by refine Aa (List.append_nil ..) ?_;exact S
theorem Fv(h:Jl xs ys (q++[r]) bl)(hk:(BD xs ys r).2.2≠0)(hL:FT xs ys r=L)(hR:EO xs ys r=R):Jl xs ys (q++L++R) (bl++[BD xs ys r]):=by
 subst hL hR;exact .some h hk
theorem Ln(hf:Nm xs ys r)(hk:(BD xs ys r).2.2≠0)(hs:Fo (q++[r])=k)(hL:FT xs ys r=L)(hR:EO xs ys r=R):Fo (q++L++R)<k:=by
 subst hL hR;have:=GD hf hk;have e:Fo [r]=Qr r:=by simp[Fo]
 rw[B5] at hs;refine Aa B5 (Aa B5 ?_);exact aN (za (za (za (zv 0) (zv 1)) (zv 2)) (zn 1)) (zv 3) [(1,1,za (zv 0) (zv 4),zv 3),(0,1,za (za (zv 1) (zv 2)) (zn 1),zv 5),(2,1,zv 4,zv 5)] rfl (LD _ _ _ _ _ _) Ae hs this e
theorem Vq(hs:Fo (q++[r])=k):Fo q<k:=by
 have e:Fo [r]=Qr r:=by simp[Fo]
 rw[B5,e] at hs;unfold Qr at hs;exact ZU hs
end
theorem Ra(h:Ch (Jq l) ws bl)(hB:l B=some (.lst vs)):Ch (Jq (put B (.lst vs') l)) ws bl:=h.mono λz_ z_ hX=>An hX λa e k=>⟨a,e,Ab k λe2=>by rw[e2,hB] at k;cases k⟩
noncomputable def Mn(st:AJ×List AJ)(b:AJ):AJ×List AJ:=if st.1.1+st.1.2.2=b.1∧st.1.2.1+st.1.2.2=b.2.1 then ((st.1.1,st.1.2.1,st.1.2.2+b.2.2),st.2) else (b,if st.1.2.2≠0 then st.2++[st.1] else st.2)
noncomputable def Rf(st:AJ×List AJ):List AJ:=if st.1.2.2≠0 then st.2++[st.1] else st.2
noncomputable def Cb(bl:List AJ)(la lb:Nat):List AJ:=Rf (bl.foldl Mn ((0,0,0),[]))++[(la,lb,0)]
structure VJ(ST lt l:Lg)(NA:Addr)(vn:List Value)(na:List AJ):Prop where
 e1:Am ST lt
 e2:Am lt l
 nN:lt NA=none
 hN:l NA=some (.lst vn)
 fN:Ch (ZG lt) vn na
theorem VJ.push{ST lt l:Lg}{NA t:Addr}{vn:List Value}{na:List AJ}{b:AJ}(S:VJ ST lt l NA vn na)(ht:l t=none):VJ ST (put t (.tup (CM b)) lt) (put NA (.lst (vn++[.ref t])) (put t (.tup (CM b)) l)) NA (vn++[.ref t]) (na++[b]):=by
 have nt:=Ak S.e2 ht;have q1:NA≠t:=Ag S.hN ht;have nN:=A0 (o:=.tup (CM b)) S.nN q1;exact⟨S.e1.trans (Am.put nt),By (CI S.e2) nN,nN,Ac,(S.fN.mono λz_ z_ hX=>An hX λa h1 h2=>⟨a,h1,(Am.put nt) _ _ h2⟩).snoc ⟨t,rfl,Ac⟩⟩
theorem VJ.ext{ST lt l l':Lg}{NA:Addr}{vn:List Value}{na:List AJ}(S:VJ ST lt l NA vn na)(e:Am l l'):VJ ST lt l' NA vn na:=⟨S.e1,S.e2.trans e,S.nN,e _ _ S.hN,S.fN⟩
structure MgI(bl:List AJ)(ST:Lg)(NA:Addr)(t:Nat)(z:Lg×List Value×AJ×List AJ)(l:Lg):Prop where
 z1:VJ ST z.1 l NA z.2.1 z.2.2.2
 z2:(bl.take t).foldl Mn ((0,0,0),[])=(z.2.2.1,z.2.2.2)
 z3:z.2.2.2.length≤t
noncomputable abbrev cI:=Lg×List Value×List Rg×List Value×List AJ
structure GmI(xs ys:List Str)(ST:Lg)(Q B:Addr)(k:Nat)(x:cI)(l:Lg):Prop where
 z1:Jk ST x.1 l Q B x.2.1 x.2.2.1 x.2.2.2.1 x.2.2.2.2
 z2:Jl xs ys x.2.2.1 x.2.2.2.2
 z3:Fo x.2.2.1=k
section
variable{K:Value→Lg→Prop}
theorem YU(room:AU c 120 1200){x dx la lb D J P:Addr}{v6 v7:Value}{kvs:List (Str×Value)}{xs ys:List Str}(S:Nj led x dx la lb D J P .none v6 v7 kvs xs ys)(hx1:xs.length≤1000)(hy1:ys.length≤1000)(hfl:∀r,Jj xs ys r→Nm xs ys r)(hbl:∀bl,Jl xs ys [] bl→(bl.map (·.1)).Nodup∧bl.length<60)(hk:∀r led' ws bl bl',(∀a o,led a=some o→a≠dx→led' a=some o)→led' dx=some (.att (S9 la lb D J P (.ref r) v6 v7))→led r=none→Jl xs ys [] bl→bl'.Perm bl→bl'.Pairwise (λa b=>a.1<b.1)→led' r=some (.lst ws)→Ch (Jq led') ws (Cb bl' xs.length ys.length)→K (.ref r) led') :
 A4 c ps (.ref 203) [.ref x] led K:=by
 refine Be ["self"] (by k_is) (CL λs X z_=>BindsTo.of_eq rfl) room λc hd hu hr rm=>?_;refine A7 hr 60 30 ?_;refine AA S.hx S.hd rfl (.f rfl ?_) (rfl);refine' B3 30 hr ["la","lb"] ?_ ?w
 case w=>exact Bq λz_=>rfl
 refine AA S.hx S.hd rfl ?_ (rfl);refine H0 xs.length S.ha (List.length_map ..) ?_ (Nat.le_trans hx1 (by decide));refine AA S.hx S.hd rfl ?_ (rfl);refine H0 ys.length S.hb (List.length_map ..) ?_ (Nat.le_trans hy1 (by decide));refine⟨rfl,λt1 ht1=>?_⟩;refine Ba λt2 ht2=>?_;refine Ay λQ hQ=>?_;refine Ay λB hB=>?_;have G0:Jk (put t1 (.tup [.int xs.length 0,.int ys.length 0]) led) (put t2 (.tup [.int 0 0,.int xs.length 0,.int 0 0,.int ys.length 0]) (put t1 (.tup [.int xs.length 0,.int ys.length 0]) led)) (put B (.lst []) (put Q (.lst [.ref t2]) (put t2 (.tup [.int 0 0,.int xs.length 0,.int 0 0,.int ys.length 0]) (put t1 (.tup [.int xs.length 0,.int ys.length 0]) led)))) Q B [.ref t2] [(0,xs.length,0,ys.length)] [] []:=
  ⟨Am.put ht2,(Am.put hQ).trans (Am.put hB),Ag Ac hB,hQ,Ak (Am.put hQ) hB,Ad Ac hB,Ac,⟨⟨t2,rfl,Ac⟩,trivial⟩,trivial⟩
 have eS:=Am.put (o:=.tup [.int xs.length 0,.int ys.length 0]) ht1;generalize put t1 (.tup [.int xs.length 0,.int ys.length 0]) led=ST at G0 eS ⊢;generalize put t2 (.tup [.int 0 0,.int xs.length 0,.int 0 0,.int ys.length 0]) ST=L0 at G0 ⊢;generalize put B (.lst []) (put Q (.lst [.ref t2]) L0)=L1 at G0 ⊢;clear hQ hB ht1 ht2;have S2:=S.mono eS;refine GC (σ:=cI) 60 30 ["self","la","lb","queue","matching_blocks"] (λz_=>[.ref x,.int xs.length 0,.int ys.length 0,.ref Q,.ref B]) (GmI xs ys ST Q B) hr _ (L0,[.ref t2],[(0,xs.length,0,ys.length)],[],[]) ⟨G0,.start,rfl⟩ rfl ?_;intro k y l h0 Y M _ _ _ fin;obtain⟨lt,vq,q,vb,bl⟩:=y;obtain⟨G,g2,g3⟩:=h0;dsimp only at G g2 g3;refine oA (g2.ok hfl) λrok hsz=>?_;have hz:=Q0 (q:=q);refine CC G.hQ ?_ (by refine Aa G.fQ.length ?_;exact aN (zv 0) (zn 1000000) [(0,1,zv 1,zn 1000),(0,1,zv 2,zn 1000),(0,1,za (zv 3) (zv 4),za (za (zv 1) (zv 2)) (zn 1)),(0,1,zv 0,zv 3)] rfl (BJ _ _ _ _ _) Ae hx1 hy1 hsz hz);refine BB.mk (λhq=>?_) (λhq=>?_)
 ·rcases KB q with e | ⟨q',r,e⟩
  ·subst e;have:=G.fQ.length
   cases vq with
   |nil=>contradiction
   |cons _ _=>contradiction
  ·subst e;refine C0 G.pop λp a hp ha haQ G1=>?_;have hpop:=G.hQ;rw[hp] at hpop;have hr1:=rok r (by simp);have hf:=hfl r hr1;refine' Ee 30 hr ?_ rfl ?w
   case w=>exact Bq λz_=>rfl
   refine Aw PySem.F.slot_list_pop PySem.F.type_list_pop hpop ?_;refine HI hpop ?_ (by have e1:=G1.fQ.length;rw[List.length_append] at hz;exact aN (zv 0) (zn 100000) [(0,1,zv 1,zn 1000),(0,1,zv 2,zn 1000),(0,1,za (zv 3) (zv 4),za (za (zv 1) (zv 2)) (zn 1)),(0,1,za (zv 5) (zv 6),zv 3),(1,1,zv 0,zv 5)] rfl (Gv _ _ _ _ _ _ _) Ae hx1 hy1 hsz hz e1);refine EF ["alo","ahi","blo","bhi"] hr (Ab ha haQ) rfl rfl ?_;generalize put Q (.lst p) l=l1 at G1 ⊢;refine Cc 30 hr ?_;have S3:=S2.mono (G1.e1.trans G1.e2);refine BF (f:=196) S3.hx S3.hd rfl ?_ (rfl);refine YY (rm.less (by decide) (by decide)) S3 hx1 hy1 hr1.1 hr1.2.1 hr1.2.2.1 hr1.2.2.2 hf.b1 hf.b2 hf.b3 hf.b4 hf.m1 hf.m2 λMt led' e1 hM hM2=>?_;have hM3:led' Mt=some (.mat (CM (BD xs ys r))):=hM2;have hfe:DP xs ys r.1 r.2.2.1 r.2.2.2 (r.2.1-r.1)=BD xs ys r:=rfl;rw[hfe] at hM2;refine HM ["i","j","k"] hr hM2 rfl rfl ?_;refine BB.mk (λhk0=>?_) (λhk0=>?_)
   ·have hk1:(BD xs ys r).2.2≠0:=λe=>by rw[e] at hk0;contradiction
    have GA:=G1.add e1 hM hM3;refine Aw PySem.F.slot_list_append PySem.F.type_list_append (G1.ext e1).hB ?_;refine Au (G1.ext e1).hB ?_ (by refine Aa G.fB.length ?_;exact aN (zv 0) (zn 1000000) [(0,1,zv 1,zn 1000),(0,1,zv 2,zn 1000),(0,1,za (zv 3) (zv 0),za (za (zv 1) (zv 2)) (zn 1))] rfl (Bh _ _ _ _) Ae hx1 hy1 hsz);generalize put B (.lst (vb++[.ref Mt])) led'=L2 at GA ⊢;have zl9:p.length≤999998:=by have e1:=GA.fQ.length;rw[List.length_append] at hz;exact aN (zv 0) (zn 999998) [(0,1,zv 1,zn 1000),(0,1,zv 2,zn 1000),(0,1,za (zv 3) (zv 4),za (za (zv 1) (zv 2)) (zn 1)),(0,1,za (zv 5) (zv 6),zv 3),(1,1,zv 0,zv 5)] rfl (Gv _ _ _ _ _ _ _) Ae hx1 hy1 hsz hz e1
    have zl:p.length≤1000000:=Nat.le_trans zl9 (by decide);refine BB.and (λc1 c2=>.t rfl ?_) (λc12=>.f rfl ?_)
    ·have hL:FT xs ys r=[(r.1,(BD xs ys r).1,r.2.2.1,(BD xs ys r).2.1)]:=if_pos ⟨Int.ofNat_lt.mp (of_decide_eq_true c1),Int.ofNat_lt.mp (of_decide_eq_true c2)⟩;refine Aw PySem.F.slot_list_append PySem.F.type_list_append GA.hQ ?_;refine Ba λt3 ht3=>?_;refine Au (Ad GA.hQ ht3) ?_ zl;have GB:=GA.push (r:=(r.1,(BD xs ys r).1,r.2.2.1,(BD xs ys r).2.1)) ht3 [Bk r.1,Bk (BD xs ys r).1,Bk r.2.2.1,Bk (BD xs ys r).2.1] rfl;generalize put Q (.lst (p++[.ref t3])) _=L3 at GB ⊢;refine BB.and (λc3 c4=>.t rfl ?_) (λc34=>.f rfl ?_)
     ·have hR:EO xs ys r=[((BD xs ys r).1+(BD xs ys r).2.2,r.2.1,(BD xs ys r).2.1+(BD xs ys r).2.2,r.2.2.2)]:=if_pos ⟨Int.ofNat_lt.mp (of_decide_eq_true c3),Int.ofNat_lt.mp (of_decide_eq_true c4)⟩;refine Aw PySem.F.slot_list_append PySem.F.type_list_append GB.hQ ?_;refine Ba λt4 ht4=>?_;refine Au (Ad GB.hQ ht4) ?_ (by refine Aa List.length_append ?_;exact Nat.succ_le_of_lt (Nat.lt_of_le_of_lt zl9 (by decide)));exact fin _ _ ⟨_,Ln hf hk1 g3 hL hR,(_,_,_,_,_),⟨GB.push (r:=((BD xs ys r).1+(BD xs ys r).2.2,r.2.1,(BD xs ys r).2.1+(BD xs ys r).2.2,r.2.2.2)) ht4 _ rfl,Fv g2 hk1 hL hR,rfl⟩,rfl⟩
     ·have hR:EO xs ys r=[]:=if_neg λz=>c34 ⟨decide_eq_true (Int.ofNat_lt.mpr z.1),decide_eq_true (Int.ofNat_lt.mpr z.2)⟩;exact fin _ _ ⟨_,Ln hf hk1 g3 hL hR,(_,_,_,_,_),⟨GB.nil,Fv g2 hk1 hL hR,rfl⟩,rfl⟩
    ·have hL:FT xs ys r=[]:=if_neg λz=>c12 ⟨decide_eq_true (Int.ofNat_lt.mpr z.1),decide_eq_true (Int.ofNat_lt.mpr z.2)⟩;refine BB.and (λc3 c4=>.t rfl ?_) (λc34=>.f rfl ?_)
     ·have hR:EO xs ys r=[((BD xs ys r).1+(BD xs ys r).2.2,r.2.1,(BD xs ys r).2.1+(BD xs ys r).2.2,r.2.2.2)]:=if_pos ⟨Int.ofNat_lt.mp (of_decide_eq_true c3),Int.ofNat_lt.mp (of_decide_eq_true c4)⟩;refine Aw PySem.F.slot_list_append PySem.F.type_list_append GA.hQ ?_;refine Ba λt4 ht4=>?_;refine Au (Ad GA.hQ ht4) ?_ zl;exact fin _ _ ⟨_,Ln hf hk1 g3 hL hR,(_,_,_,_,_),⟨GA.nil.push (r:=((BD xs ys r).1+(BD xs ys r).2.2,r.2.1,(BD xs ys r).2.1+(BD xs ys r).2.2,r.2.2.2)) ht4 _ rfl,Fv g2 hk1 hL hR,rfl⟩,rfl⟩
     ·have hR:EO xs ys r=[]:=if_neg λz=>c34 ⟨decide_eq_true (Int.ofNat_lt.mpr z.1),decide_eq_true (Int.ofNat_lt.mpr z.2)⟩;exact fin _ _ ⟨_,Ln hf hk1 g3 hL hR,(_,_,_,_,_),⟨GA.nil.nil,Fv g2 hk1 hL hR,rfl⟩,rfl⟩
   ·have hk1:(BD xs ys r).2.2=0:=by
     have:((BD xs ys r).2.2:Int)=0:=by simpa using hk0
     exact_mod_cast this
    exact fin _ _ ⟨_,Vq g3,(_,_,_,_,_),⟨G1.ext e1,.none g2 hk1,rfl⟩,rfl⟩
 ·have hq0:q=[]:=by
   have e1:=G.fQ.length
   cases vq with
   |nil=>exact List.length_eq_zero_iff.mp e1.symm
   |cons _ _=>contradiction
  rw[hq0] at g2;have g2q:=g2;refine oA (hbl bl g2) λnd n60=>?_;have FB:=G.fB.mono (FJ G.e2);refine Aw PySem.F.slot_list_sort PySem.F.type_list_sort G.hB ?_;refine PK G.hB FB nd (Nat.lt_of_lt_of_le n60 (by decide)) (by have:=rm.2;exact aN (za (za (zv 0) (zn 100)) (zn 1)) (zv 1) [(0,1,za (za (zv 0) (zn 1190)) (zn 1),zv 1)] rfl (Az _ _) Ae this) λvs' bl' hperm hsort hF=>?_;have EE:Am lt (put B (.lst vs') l):=By G.e2 G.nB;have hB2:put B (.lst vs') l B=some (.lst vs'):=Ac;have hF2:Ch (Jq (put B (.lst vs') l)) vs' bl':=Ra hF G.hB;have S3:=S2.mono (G.e1.trans EE);have E3:=eS.trans (G.e1.trans EE);generalize put B (.lst vs') l=L5 at EE hB2 hF2 S3 E3 ⊢;refine Nh 30 hr ?_;refine Ay λNA hNA=>?_;refine Bn 30 ?_;refine Et (σ:=Lg×List Value×AJ×List AJ) 60 30 ["self","la","lb","i1","j1","k1","non_adjacent"] (λz=>[.ref x,.int xs.length 0,.int ys.length 0,Bk z.2.2.1.1,Bk z.2.2.1.2.1,Bk z.2.2.1.2.2,.ref NA]) (MgI bl' L5 NA) hr (Ad hB2 hNA) (L5,[],(0,0,0),[]) ⟨⟨Am.rfl,Am.put hNA,hNA,Ac,trivial⟩,rfl,Nat.le_refl _⟩ rfl (λt z l h=>h.1.e2 _ _ (h.1.e1 _ _ hB2)) ?turn ?done
  case turn=>
   intro c1 lk hr1 t v z l1 ht hv h0;obtain⟨T,g1,g2⟩:=h0;obtain⟨b,hb⟩:∃b,bl'[t]?=some b:=⟨_,List.getElem?_eq_getElem (by refine AV hF2.length ?_;exact ht)⟩;refine BY (hF2.get hb) λv' hv' a hva haM=>?_;rw[hv] at hv';obtain rfl:=Option.some.inj hv';subst hva;intro Y2 M2 _ _ _ fin2;have htk:(bl'.take (t+1)).foldl Mn ((0,0,0),[])=Mn (z.2.2.1,z.2.2.2) b:=by refine Aa List.take_add_one (Aa hb (Aa List.foldl_append (Aa g1 ?_)));rfl
   have hz9:z.2.1.length≤1000000:=by refine Aa T.fN.length ?_;have:=hperm.length_eq;rw[hF2.length] at ht;exact aN (zv 0) (zn 1000000) [(0,1,zv 1,zn 1000),(0,1,zv 2,zn 1000),(0,1,za (zv 3) (zv 4),za (za (zv 1) (zv 2)) (zn 1)),(0,1,za (zv 5) (zn 1),zv 6),(0,1,zv 0,zv 5),(1,1,zv 6,zv 4)] rfl (Gv _ _ _ _ _ _ _) Ae hx1 hy1 hsz ht g2 this
   refine HM ["i2","j2","k2"] hr1 (T.e2 _ _ (T.e1 _ _ haM)) rfl rfl ?_;refine BB.and (λc1 c2=>.t rfl ?_) (λc12=>.f rfl ?_)
   ·exact fin2 _ _ ⟨(_,_,(z.2.2.1.1,z.2.2.1.2.1,z.2.2.1.2.2+b.2.2),_),⟨T,htk.trans (if_pos ⟨by have:=eq_of_beq c1;exact_mod_cast this,by have:=eq_of_beq c2;exact_mod_cast this⟩),Nat.le_succ_of_le g2⟩,rfl⟩
   ·have hno:¬(z.2.2.1.1+z.2.2.1.2.2=b.1∧z.2.2.1.2.1+z.2.2.1.2.2=b.2.1):=λe=>c12 ⟨beq_iff_eq.mpr (by exact_mod_cast e.1),beq_iff_eq.mpr (by exact_mod_cast e.2)⟩;refine BB.mk (λhk0=>?_) (λhk0=>?_)
    ·have hk1:z.2.2.1.2.2≠0:=λe=>by rw[e] at hk0;contradiction
     refine Aw PySem.F.slot_list_append PySem.F.type_list_append T.hN ?_;refine Ba λt3 ht3=>?_;refine Au (Ad T.hN ht3) ?_ hz9;have T2:=T.push (b:=z.2.2.1) ht3;refine' B3 30 hr1 ["i1","j1","k1"] ⟨rfl,λt4 ht4=>?_⟩ ?w
     case w=>exact Bq λz_=>rfl
     exact fin2 _ _ ⟨(_,_,b,_),⟨T2.ext (Am.put ht4),htk.trans ((if_neg hno).trans (congrArg (Prod.mk b) (if_pos hk1))),by refine Aa List.length_append ?_;exact Nat.succ_le_succ g2⟩,rfl⟩
    ·have hk1:¬z.2.2.1.2.2≠0:=λe=>e (by exact_mod_cast (by simpa using hk0:(z.2.2.1.2.2:Int)=0));refine' B3 30 hr1 ["i1","j1","k1"] ⟨rfl,λt4 ht4=>?_⟩ ?w
     case w=>exact Bq λz_=>rfl
     exact fin2 _ _ ⟨(_,_,b,_),⟨T.ext (Am.put ht4),htk.trans ((if_neg hno).trans (congrArg (Prod.mk b) (if_neg hk1))),Nat.le_succ_of_le g2⟩,rfl⟩
  case done=>
   intro z l1 h0;obtain⟨T,g1,g2⟩:=h0;rw[hF2.length,List.take_length] at g1;have hz9:z.2.1.length≤999998:=by refine Aa T.fN.length ?_;have:=hperm.length_eq;rw[hF2.length] at g2;exact aN (zv 0) (zn 999998) [(0,1,zv 1,zn 1000),(0,1,zv 2,zn 1000),(0,1,za (zv 3) (zv 4),za (za (zv 1) (zv 2)) (zn 1)),(0,1,zv 0,zv 5),(1,1,zv 5,zv 4)] rfl (LD _ _ _ _ _ _) Ae hx1 hy1 hsz g2 this
   have hres:∀na',na'=Rf (z.2.2.1,z.2.2.2)→na'++[(xs.length,ys.length,0)]=Cb bl' xs.length ys.length:=λna' e=>by
    unfold Cb;exact Aa g1 (Aa e rfl)
   refine BB.mk (λhk0=>?_) (λhk0=>?_)
   ·have hk1:z.2.2.1.2.2≠0:=λe=>by rw[e] at hk0;contradiction
    refine Aw PySem.F.slot_list_append PySem.F.type_list_append T.hN ?_;refine Ba λt3 ht3=>?_;refine Au (Ad T.hN ht3) ?_ (Nat.le_trans hz9 (by decide));have P:=T.push (b:=z.2.2.1) ht3;have hna:=hres (z.2.2.2++[z.2.2.1]) (if_pos hk1).symm;have hlen:(z.2.1++[Value.ref t3]).length≤1000000:=by refine Aa List.length_append ?_;exact Nat.succ_le_succ (Nat.le_trans hz9 (by decide))
    refine Aw PySem.F.slot_list_append PySem.F.type_list_append P.hN ?_;refine Ba λt5 ht5=>?_;refine Au (Ad P.hN ht5) ?_ hlen;have P2:=P.push (b:=(xs.length,ys.length,0)) ht5;rw[hna] at P2;refine Jb λmk hmk=>?_;refine KO (Ad P2.hN hmk) λI Tt Mm hI hTt hMm=>?_;have E7:=Am.put (o:=UL) hmk;have E8:=((E7.trans (Am.put (o:=DY NA 0) hI)).trans (Am.put (o:=.tup [.ref I]) hTt)).trans (Am.put (o:=Iy Tt mk) hMm);have I8:∀{a:Addr} {o:AO},led a=some o→a≠I:=λh=>Ag (E7 _ _ (P2.e2 _ _ (P2.e1 _ _ (E3 _ _ h)))) hI;have W:∀{a:Addr} {o:AO},led a=some o→_=some o:=λ{a o} h=>E8 a o (P2.e2 _ _ (P2.e1 _ _ (E3 _ _ h)));refine IA (rm.less (by decide) (by decide)) (E8 _ _ P2.hN) (Ad (Ad Ac hTt) hMm) (Ad Ac hMm) (Ad (Ad (Ad Ac hI) hTt) hMm) Ac (P2.fN.mono λz_ z_ hX=>An hX λa h1 h2=>⟨a,h1,E8 _ _ (P2.e2 _ _ h2)⟩) (by refine AV P2.fN.length (Aa List.length_append ?_);simp only[List.length_append,List.length_cons,List.length_nil];have:=T.fN.length;have:=hperm.length_eq;rw[hF2.length] at g2;exact ZT n60 g2 (by assumption) this) λrr led9 ws9 e9 hr9 hl9 hF9=>?_;have hx9:=e9 _ _ (W S.hx) (I8 S.hx);have hd9:=e9 _ _ (W S.hd) (I8 S.hd);have hxd:x≠dx:=λe=>by have h1:=S.hx;rw[e,S.hd] at h1;(have hq:=Option.some.inj h1;contradiction)
    refine AT hx9 hd9 ?_ (rfl) (Nat.lt_of_lt_of_le (by decide:10<1000) (Nat.le_refl _));refine AA (Ab hx9 hxd) Ac rfl ?_ (rfl);refine hk rr _ ws9 bl bl' (λa o h hne=>Ab (e9 _ _ (W h) (I8 h)) hne) Ac ?_ g2q hperm hsort (Ab hl9 (λe=>by rw[e,hd9] at hl9;(have hq:=Option.some.inj hl9;contradiction))) (hF9.mono λz_ z_ hX=>An hX λa h1 h2=>⟨a,h1,Ab h2 (λe=>by rw[e,hd9] at h2;(have hq:=Option.some.inj h2;contradiction))⟩)
    cases hle:led rr with
    |none=>rfl
    |some o=>rw[W hle] at hr9;contradiction
   ·have hk1:¬z.2.2.1.2.2≠0:=λe=>e (by exact_mod_cast (by simpa using hk0:(z.2.2.1.2.2:Int)=0));have hna:=hres z.2.2.2 (if_neg hk1).symm;have hlen:z.2.1.length≤1000000:=Nat.le_trans hz9 (by decide);have P:=T;refine Aw PySem.F.slot_list_append PySem.F.type_list_append P.hN ?_;refine Ba λt5 ht5=>?_;refine Au (Ad P.hN ht5) ?_ hlen;have P2:=P.push (b:=(xs.length,ys.length,0)) ht5;rw[hna] at P2;refine Jb λmk hmk=>?_;refine KO (Ad P2.hN hmk) λI Tt Mm hI hTt hMm=>?_;have E7:=Am.put (o:=UL) hmk;have E8:=((E7.trans (Am.put (o:=DY NA 0) hI)).trans (Am.put (o:=.tup [.ref I]) hTt)).trans (Am.put (o:=Iy Tt mk) hMm);have I8:∀{a:Addr} {o:AO},led a=some o→a≠I:=λh=>Ag (E7 _ _ (P2.e2 _ _ (P2.e1 _ _ (E3 _ _ h)))) hI;have W:∀{a:Addr} {o:AO},led a=some o→_=some o:=λ{a o} h=>E8 a o (P2.e2 _ _ (P2.e1 _ _ (E3 _ _ h)));refine IA (rm.less (by decide) (by decide)) (E8 _ _ P2.hN) (Ad (Ad Ac hTt) hMm) (Ad Ac hMm) (Ad (Ad (Ad Ac hI) hTt) hMm) Ac (P2.fN.mono λz_ z_ hX=>An hX λa h1 h2=>⟨a,h1,E8 _ _ (P2.e2 _ _ h2)⟩) (by refine AV P2.fN.length (Aa List.length_append ?_);simp only[List.length_append,List.length_cons,List.length_nil];have:=T.fN.length;have:=hperm.length_eq;rw[hF2.length] at g2;exact ZS n60 g2 (by assumption) this) λrr led9 ws9 e9 hr9 hl9 hF9=>?_;have hx9:=e9 _ _ (W S.hx) (I8 S.hx);have hd9:=e9 _ _ (W S.hd) (I8 S.hd);have hxd:x≠dx:=λe=>by have h1:=S.hx;rw[e,S.hd] at h1;(have hq:=Option.some.inj h1;contradiction)
    refine AT hx9 hd9 ?_ (rfl) (Nat.lt_of_lt_of_le (by decide:10<1000) (Nat.le_refl _));refine AA (Ab hx9 hxd) Ac rfl ?_ (rfl);refine hk rr _ ws9 bl bl' (λa o h hne=>Ab (e9 _ _ (W h) (I8 h)) hne) Ac ?_ g2q hperm hsort (Ab hl9 (λe=>by rw[e,hd9] at hl9;(have hq:=Option.some.inj hl9;contradiction))) (hF9.mono λz_ z_ hX=>An hX λa h1 h2=>⟨a,h1,Ab h2 (λe=>by rw[e,hd9] at h2;(have hq:=Option.some.inj h2;contradiction))⟩)
    cases hle:led rr with
    |none=>rfl
    |some o=>rw[W hle] at hr9;contradiction
end
structure Qj(led:Lg)(lr:Addr)(ch:Str)(xs:List Str)(i:Nat)(x:Lg×List Value×List C7×Int)(l:Lg):Prop where
 a:Am led x.1
 b:Am x.1 l
 c:x.1 lr=none
 d:l lr=some (.lst x.2.1)
 e:Jm 2 x.1 x.2.1 (x.2.2.1.map Gy)
 f:(xs.take i).foldl (Bw ch) ([],0,0)=(x.2.2.1,(i:Int),x.2.2.2)
 g:x.2.1.length≤i
theorem Ho{led lt L2:Lg}{lr t2:Addr}{ch:Str}{xs:List Str}{i:Nat}{vs us:List Value}{rs:List C7}{b:Bool}{p e q f:Int}{tv:List Value}(x1:Am led lt)(y2:Am lt L2)(n1:lt lr=none)(m2:L2 lr=some (.lst us))(ht2:L2 t2=none)(d:Jm 2 lt vs (rs.map Gy))(h:(xs.take (i+1)).foldl (Bw ch) ([],0,0)=(rs++[(b,p,e,q,f)],((i+1:Nat):Int),f))(z:vs.length≤i)(htv:tv=[.str (Fb b) 0,.int p 0,.int e 0,.int q 0,.int f 0]) :
  Qj led lr ch xs (i+1) (put t2 (.tup tv) lt,vs++[.ref t2],rs++[(b,p,e,q,f)],f) (put lr (.lst (vs++[.ref t2])) (put t2 (.tup tv) L2)):=by
 subst htv;have n2:lt t2=none:=Ak y2 ht2;have ne:lr≠t2:=Ag m2 ht2;refine⟨x1.trans (Am.put n2),By (CI y2) (A0 n1 ne),A0 n1 ne,Ac,?_,h,?_⟩
 ·refine(?_:Jm 2 _ _ ((rs++[(b,p,e,q,f)]).map Gy));refine Aa List.map_append ?_;exact(Bt (Am.put n2) d).snoc ⟨t2,_,rfl,Ac,Ha (ds:=[.str (Fb b),.int p,.int e,.int q,.int f]) rfl⟩
 ·refine(?_:(vs++[Value.ref t2]).length≤i+1);refine Aa List.length_append ?_;exact Nat.add_le_add_right z 1
theorem NO{lt:Lg}{u:Value}{b:Bool}{p e q f:Int}(h:Qo 2 lt u (Gy (b,p,e,q,f))):∃a,u = .ref a∧lt a=some (.tup [.str (Fb b) 0,.int p 0,.int e 0,.int q 0,.int f 0]):=by
 refine A3 h λa vs ho2 h1 h2=>?_;subst ho2;rw[Zs h2 rfl] at h1;exact⟨a,rfl,h1⟩
section
variable{K:Value→Lg→Prop}
theorem U0(room:AU c 30 300){r:Addr}{xs:List Str}{ch:Str}(hrow:led r=some (.lst (xs.map Al)))(hlen:xs.length≤100000)(hx:∀x∈xs,0<x.length∧x.length≤100)(hk:∀l led' vs,Am led led'→led l=none→led' l=some (.lst vs)→Jm 2 led' vs ((xs.foldl (Bw ch) ([],0,0)).1.map Gy)→K (.ref l) led'):A4 c ps (.ref 533) [.ref r,.str ch 0] led K:=by
 refine Be ["row","letter"] (by k_is) (Fh λs X z_ z_=>BindsTo.of_eq rfl) room λc hd hu hr rm=>?_;refine A7 hr 30 60 ?_;refine Ay (λlr hlr=>?_);refine Bn 30 ?_;refine Hz (Ad hrow hlr) ?_ (by refine Aa (List.length_map ..) ?_;exact aN (zv 0) (zn 1000000) [(0,1,zv 0,zn 100000)] rfl (Av _) Ae hlen);refine Aa (List.length_map ..) ?_;refine CQ λrg hrg=>?_;have hne:rg≠lr:=λe=>by rw[e,Ac] at hrg;contradiction
 refine GS (σ:=Lg×List Value×List C7×Int) 60 30 ["row","letter","runs","j"] (λx=>[.ref r,.str ch 0,.ref lr,.int x.2.2.2 0]) (Qj led lr ch xs) hr Ac xs.length (.inl (by lia)) (by lia) (led,[],[],0) ⟨Am.rfl,(Am.put hlr).trans (Am.put hrg),hlr,Ab Ac (Ne.symm hne),trivial,rfl,Nat.le_refl _⟩ rfl ?turn ?done
 case turn=>
  intro c1 lk hr1 i k x l1 hi hk h0 Y M _ _ _ fin;obtain⟨x1,x2,n1,m1,d1,f1,z1⟩:=h0;replace hk:=hk.trans (Int.zero_add ..);have rm1:c1.un+64<cLine:=Nat.lt_of_le_of_lt (Nat.add_le_add_left (by decide) _) (lk.room rm).2;have hxi:xs[i]?=some xs[i]:=List.getElem?_eq_getElem hi;have hx1:=hx _ (List.getElem_mem hi);generalize xs[i]=y at hxi hx1;refine H4 28 (λu=>.str (Fb u) 0) rfl rfl ?_;refine I4 (x2 _ _ (x1 _ _ hrow)) (x:=Al y) (by refine(List.getElem?_map).trans (Aa hk (Aa (Int.toNat_natCast ..) (Aa hxi ?_)));rfl) (aZ (zn 0) (zv 8) [(6,1,zv 8,zv 0)] rfl (Av _) (Av _) hk) ?_ (by lia);refine CD (I7) (aZ (za (zn 0) (zn 1)) (zv 0) [(0,1,za (zn 0) (zn 1),zv 0)] rfl (Av _) Ae hx1.1) ?_ (aN (zv 0) (zn 1000000) [(0,1,zv 0,zn 100)] rfl (Av _) Ae hx1.2);refine B3 30 hr1 ["p","q"] ⟨rfl,λt ht=>?_⟩ (Bq λz_=>rfl);generalize hb:(Txt.item y 0==ch)=b;refine Ay λe he=>?_;have y2:Am x.1 (put e (.lst []) (put t (.tup [.int k 0,.int x.2.2.2 0]) l1)):=(x2.trans (Am.put ht)).trans (Am.put he);have m2:put e (.lst []) (put t (.tup [.int k 0,.int x.2.2.2 0]) l1) lr=some (.lst x.2.1):=Ad (Ad m1 ht) he;rcases KB x.2.2.1 with hq0 | ⟨rs',⟨b0,p0,e0,q0,f0⟩,hq0⟩
  ·rw[hq0] at d1 f1;refine EY (r:=false) m2 Ac (Bt y2 d1) (n':=2) (es:=[]) trivial (λz_ h=>by contradiction) (λz_ h=>by contradiction) rm1 (by simp) (.f rfl (.f rfl ?_));refine H4 28 (λu=>.int (if u=true then 2 else 1) 0) rfl rfl ?_;refine Aw PySem.F.slot_list_append PySem.F.type_list_append m2 ?_;refine Ba λt2 ht2=>?_;refine Au (Ad m2 ht2) ?_ (by refine Aa (List.length_eq_zero_iff.mp (by simpa using d1.length):x.2.1=[]) ?_;decide);exact fin _ _ ⟨(_,_,[]++[(b,k,k+1,_,_)],_),Ho x1 y2 n1 m2 ht2 d1 (FC hk f1 hxi hb (by cases b<;>rfl) rfl) z1 rfl,rfl⟩
  ·rw[hq0] at f1;rw[hq0,List.map_append] at d1;refine A3 d1.unsnoc λus u hus d2 d3=>?_;refine An (NO d3) λta hu0 hta=>?_;have hta2:=y2 _ _ hta;rw[hus,hu0] at m2;rw[hus,List.length_append] at z1;have z2:us.length+1≤i:=z1;refine EY (r:=true) m2 Ac (by refine AV hu0 (AV hus ?_);exact Bt y2 d1) (n':=2) (es:=[]) trivial (λd hd=>?_) (λz_ h=>by contradiction) rm1 (by simp) (.t rfl ?_)
   ·rw[← List.map_append] at hd;refine An (List.mem_map.mp hd) λr z_ ho2=>?_;subst ho2;exact KH r
   refine Db m2 ?_;refine F9 hta2 rfl (by decide) ?_ (by decide);refine BB.mk (λhq=>.t rfl ?_) (λhq=>.f rfl ?_)
   ·have hbb:b0=b:=by revert hq;cases b0<;>cases b<;>decide
    refine' B3 30 hr1 ["p","q"] ?_ ?w
    case w=>exact Bq λz_=>rfl
    refine Db m2 ?_;refine F9 hta2 rfl (by decide) ?_ (by decide);refine Db m2 ?_;refine F9 hta2 rfl (by decide) ?_ (by decide);refine⟨rfl,λt3 ht3=>?_⟩;refine Aw PySem.F.slot_list_pop PySem.F.type_list_pop (Ad m2 ht3) ?_;refine HI (Ad m2 ht3) ?_ (aN (zv 0) (zn 100000) [(0,1,zv 1,zn 100000),(0,1,za (zv 2) (zn 1),zv 1),(0,1,za (zv 0) (zn 1),zv 2)] rfl (AH _ _ _) Ae hlen hi z2);refine H4 28 (λu=>.int (if u=true then 2 else 1) 0) rfl rfl ?_;refine Aw PySem.F.slot_list_append PySem.F.type_list_append Ac ?_;refine Ba λt2 ht2=>?_;refine Au (Ad Ac ht2) ?_ (aN (zv 0) (zn 1000000) [(0,1,zv 1,zn 100000),(0,1,za (zv 2) (zn 1),zv 1),(0,1,za (zv 0) (zn 1),zv 2)] rfl (AH _ _ _) Ae hlen hi z2);exact fin _ _ ⟨(_,_,rs'++[(b,p0,k+1,q0,_)],_),Ho x1 (By (o:=.lst us) (y2.trans (Am.put (o:=.tup [.int p0 0,.int q0 0]) ht3)) n1) n1 Ac ht2 d2 (FC hk f1 hxi hb (by cases b<;>rfl) (FE hbb)) (aN (zv 0) (zv 1) [(0,1,za (zv 0) (zn 1),zv 1)] rfl (Az _ _) Ae z2) rfl,rfl⟩
   ·have hbb:b0≠b:=by rintro rfl;cases b0<;>exact absurd hq (by decide)
    refine H4 28 (λu=>.int (if u=true then 2 else 1) 0) rfl rfl ?_;refine Aw PySem.F.slot_list_append PySem.F.type_list_append m2 ?_;refine Ba λt2 ht2=>?_;refine Au (Ad m2 ht2) ?_ (by refine Aa List.length_append ?_;exact Nat.le_trans z2 (aN (zv 0) (zn 1000000) [(0,1,zv 1,zn 100000),(0,1,za (zv 0) (zn 1),zv 1)] rfl (Az _ _) Ae hlen hi));exact fin _ _ ⟨(_,_,rs'++[(b0,p0,e0,q0,f0)]++[(b,k,k+1,_,_)],_),Ho x1 y2 n1 m2 ht2 (by refine Aa List.map_append (AV hu0 (AV hus ?_));exact d1) (FC hk f1 hxi hb (by cases b<;>rfl) (EP hbb)) (by refine Aa List.length_append ?_;exact z2) rfl,rfl⟩
 case done=>
  intro x l1 h0;obtain⟨x1,x2,n1,m1,d1,f1,z1⟩:=h0;rw[List.take_length] at f1;refine hk lr l1 _ (x1.trans x2) hlr m1 ?_;refine Aa f1 ?_;exact Bt x2 d1
end
theorem Nj.upd{l:Lg}{x dx la lb D J P:Addr}{v5 v6 v7 v5' v6' v7':Value}{kvs:List (Str×Value)}{xs ys:List Str}(S:Nj l x dx la lb D J P v5 v6 v7 kvs xs ys):Nj (put dx (.att (S9 la lb D J P v5' v6' v7')) l) x dx la lb D J P v5' v6' v7' kvs xs ys:=by
 have ne:∀{a:Addr} {o:AO},l a=some o→(∀k,o ≠ .att k)→a≠dx:=λh n e=>by rw[e,S.hd] at h;obtain rfl:=Option.some.inj h;exact n _ rfl
 exact⟨Ab S.hx (ne S.hx λz_ e=>by contradiction),Ac,Ab S.ha (ne S.ha λz_ e=>by contradiction),Ab S.hb (ne S.hb λz_ e=>by contradiction),Ab S.hD (ne S.hD λz_ e=>by contradiction),S.lo,λy=>(S.bj y).imp id λhX=>An hX λa h1 h2=>⟨a,h1,Ab h2 (ne h2 λz_ e=>by contradiction)⟩,Ab S.hJ (ne S.hJ λz_ e=>by contradiction)⟩
noncomputable def He:Nat→Nat→List AJ→Prop
 |_,_,[]=>True
 |i,j,b::r=>((i<b.1∧j<b.2.1)∨(i=b.1∧j=b.2.1))∧He (b.1+b.2.2) (b.2.1+b.2.2) r
noncomputable def BH(st:Nat×Nat×List C7)(b:AJ):Nat×Nat×List C7:=
 let a1:=if st.1<b.1 then st.2.2++[(true,(st.1:Int),(b.1:Int),(st.2.1:Int),(b.2.1:Int))] else st.2.2
 (b.1+b.2.2,b.2.1+b.2.2,if b.2.2≠0 then a1++[(false,(b.1:Int),((b.1+b.2.2:Nat):Int),(b.2.1:Int),((b.2.1+b.2.2:Nat):Int))] else a1)
noncomputable def P9(a:Addr)(l:Lg):Lg:=λb=>if b=a then none else l b
theorem P8{a:Addr}{l:Lg}:Am (P9 a l) l:=λb o h=>by
 unfold P9 at h;split at h
 ·contradiction
 ·exact h
theorem Rc:∀(bl:List AJ) (st:AJ×List AJ),(bl.foldl Mn st).2.length≤st.2.length+bl.length:=by
 intro bl
 induction bl with
 |nil=>exact λst=>Nat.le_refl _
 |cons b bl ih=>
  intro st;refine Nat.le_trans (ih (Mn st b)) ?_;have:(Mn st b).2.length≤st.2.length+1:=by
   unfold Mn;split
   ·exact Nat.le_succ _
   ·refine(?_:(if st.1.2.2≠0 then st.2++[st.1] else st.2).length≤_);split
    ·refine Aa List.length_append ?_;exact Nat.le_refl _
    ·exact Nat.le_succ _
  refine Aa List.length_cons ?_;exact aN (za (zv 0) (zv 1)) (za (zv 2) (za (zv 1) (zn 1))) [(0,1,zv 0,za (zv 2) (zn 1))] rfl (AH _ _ _) Ae this
theorem Kq(bl:List AJ)(a b:Nat):(Cb bl a b).length≤bl.length+2:=by
 unfold Cb Rf;have:=Rc bl ((0,0,0),[]);refine Aa List.length_append ?_;split
 ·refine Aa List.length_append ?_;simp only[List.length_nil,List.length_cons] at *;exact aN (za (za (zv 0) (za (zn 0) (zn 1))) (za (zn 0) (zn 1))) (za (zv 1) (zn 2)) [(0,1,zv 0,za (zn 0) (zv 1))] rfl (Az _ _) Ae this
 ·simp only[List.length_nil,List.length_cons] at *;exact aN (za (zv 0) (za (zn 0) (zn 1))) (za (zv 1) (zn 2)) [(0,1,zv 0,za (zn 0) (zv 1))] rfl (Az _ _) Ae this
section
theorem K4{x:Str}{K:Bool→Lg→Prop}(hk:K ((x.length:Int) != 0) led)(hz:x.length≤1000000):Qg c ps (.str x 0) led K:=λa' ea=>by
 refine oE (AB ea) λt ho1=>?_;subst ho1;exact A9 hk λh tk m con Q' F N V q=>PySem.P.truthy_str (by lia) (q _ _ rfl)
end
theorem KM{st:Nat×Nat×List C7}{b:AJ}{a1 a2:List C7}(h1:(if st.1<b.1 then st.2.2++[(true,(st.1:Int),(b.1:Int),(st.2.1:Int),(b.2.1:Int))] else st.2.2)=a1)(h2:(if b.2.2≠0 then a1++[(false,(b.1:Int),((b.1+b.2.2:Nat):Int),(b.2.1:Int),((b.2.1+b.2.2:Nat):Int))] else a1)=a2):BH st b=(b.1+b.2.2,b.2.1+b.2.2,a2):=by
 unfold BH;refine Aa h1 ?_;refine(?_:(b.1+b.2.2,b.2.1+b.2.2,_)=_);exact Aa h2 rfl
theorem bS{k:Nat}(h:((k:Int) != 0)=false):¬k≠0:=λe=>e (by
 exact_mod_cast (by simpa using h:(k:Int)=0))
structure VK(ST lt l:Lg)(AN:Addr)(vs:List Value)(rs:List C7):Prop where
 e1:Am ST lt
 e2:Am lt l
 nN:lt AN=none
 hN:l AN=some (.lst vs)
 fN:Jm 2 lt vs (rs.map Gy)
theorem VK.push{ST lt l:Lg}{AN t:Addr}{vs:List Value}{rs:List C7}(S:VK ST lt l AN vs rs)(ht:l t=none)(b:Bool)(p e q f:Int)(tv:List Value)(h:tv=[.str (Fb b) 0,.int p 0,.int e 0,.int q 0,.int f 0]):VK ST (put t (.tup tv) lt) (put AN (.lst (vs++[.ref t])) (put t (.tup tv) l)) AN (vs++[.ref t]) (rs++[(b,p,e,q,f)]):=by
 subst h;have nt:=Ak S.e2 ht;have nN:=A0 (o:=.tup [.str (Fb b) 0,.int p 0,.int e 0,.int q 0,.int f 0]) S.nN (Ag S.hN ht);refine⟨S.e1.trans (Am.put nt),By (CI S.e2) nN,nN,Ac,?_⟩;refine Aa List.map_append ?_;exact(Bt (Am.put nt) S.fN).snoc ⟨t,_,rfl,Ac,Ha (ds:=[.str (Fb b),.int p,.int e,.int q,.int f]) rfl⟩
theorem VK.ext{ST lt l l':Lg}{AN:Addr}{vs:List Value}{rs:List C7}(S:VK ST lt l AN vs rs)(e:Am l l'):VK ST lt l' AN vs rs:=⟨S.e1,S.e2.trans e,S.nN,e _ _ S.hN,S.fN⟩
structure OpI(bl:List AJ)(ST:Lg)(AN:Addr)(t:Nat)(z:Lg×List Value×Nat×Nat×List C7)(l:Lg):Prop where
 z1:VK ST z.1 l AN z.2.1 z.2.2.2.2
 z2:(bl.take t).foldl BH (0,0,[])=z.2.2
 z3:He z.2.2.1 z.2.2.2.1 (bl.drop t)
 z4:z.2.2.2.2.length≤2*t
section
variable{K:Value→Lg→Prop}
theorem Wl(room:AU c 140 1400){x dx la lb D J P:Addr}{v7:Value}{kvs:List (Str×Value)}{xs ys:List Str}(S:Nj led x dx la lb D J P .none .none v7 kvs xs ys)(hx1:xs.length≤1000)(hy1:ys.length≤1000)(hfl:∀r,Jj xs ys r→Nm xs ys r)(hbl:∀bl,Jl xs ys [] bl→(bl.map (·.1)).Nodup∧bl.length<60)(hgood:∀bl bl',Jl xs ys [] bl→bl'.Perm bl→bl'.Pairwise (λa b=>a.1<b.1)→He 0 0 (Cb bl' xs.length ys.length))(hk:∀A led' vs bl bl',(∀a o,led a=some o→a≠dx→led' a=some o)→led A=none→Jl xs ys [] bl→bl'.Perm bl→bl'.Pairwise (λa b=>a.1<b.1)→led' A=some (.lst vs)→Jm 2 led' vs (((Cb bl' xs.length ys.length).foldl BH (0,0,[])).2.2.map Gy)→K (.ref A) led') :
 A4 c ps (.ref 210) [.ref x] led K:=by
 refine Be ["self"] (by k_is) (CL λs X z_=>BindsTo.of_eq rfl) room λc hd hu hr rm=>?_;refine A7 hr 60 30 ?_;refine AA S.hx S.hd rfl (.f rfl ?_) (rfl);refine Cc 30 hr ?_;refine Cc 30 hr ?_;refine Ay λAN hAN=>?_;have S1:=S.mono (Am.put (o:=.lst []) hAN);refine AT S1.hx S1.hd ?_ (rfl) (Nat.lt_of_lt_of_le (by decide:10<1000) (Nat.le_refl _));have S2:Nj (put dx (.att (S9 la lb D J P .none (.ref AN) v7)) (put AN (.lst []) led)) x dx la lb D J P .none (.ref AN) v7 kvs xs ys:=S1.upd;refine Bn 30 ?_;refine BF (f:=203) S2.hx Ac rfl ?_ (rfl);refine YU (rm.less (by decide) (by decide)) S2 hx1 hy1 hfl hbl λr led1 ws bl bl' e1 hd1 hr1 hgm hperm hsort hws hF=>?_;have AdA:AN≠dx:=λe=>by have h1:=S.hd;rw[← e,hAN] at h1;contradiction
 have hA1:led1 AN=some (.lst []):=e1 _ _ (Ab Ac AdA) AdA;have rA:r≠AN:=λe=>by rw[e,Ab Ac AdA] at hr1;contradiction
 have hF':Ch (Jq (P9 AN led1)) ws (Cb bl' xs.length ys.length):=hF.mono λz_ z_ hX=>An hX λa h1 h2=>⟨a,h1,(if_neg λe=>by rw[e,hA1] at h2;(have hq:=Option.some.inj h2;contradiction)).trans h2⟩
 have hgd:=hgood bl bl' hgm hperm hsort;have hln:(Cb bl' xs.length ys.length).length≤1000:=by
  have:=(hbl bl hgm).2;have:=hperm.length_eq;have:=Kq bl' xs.length ys.length;exact YC (by assumption) (by assumption) this
 generalize hbs:Cb bl' xs.length ys.length=bs at hF' hgd hln hk;refine Et (σ:=Lg×List Value×Nat×Nat×List C7) 60 30 ["self","i","j","answer"] (λz=>[.ref x,Bk z.2.2.1,Bk z.2.2.2.1,.ref AN]) (OpI bs (P9 AN led1) AN) hr hws (P9 AN led1,[],0,0,[]) ⟨⟨Am.rfl,P8,if_pos rfl,hA1,trivial⟩,rfl,hgd,Nat.le_refl _⟩ rfl (λt z l h=>h.1.e2 _ _ (h.1.e1 _ _ ((if_neg rA).trans hws))) ?turn ?done
 case turn=>
  intro c1 lk hr1 t v z l1 ht hv h0;obtain⟨T,g1,g2,g3⟩:=h0;have htb:t<bs.length:=by refine AV hF'.length ?_;exact ht
  obtain⟨b,hb⟩:∃b,bs[t]?=some b:=⟨_,List.getElem?_eq_getElem htb⟩;refine BY (hF'.get hb) λv' hv' a hva haM=>?_;replace hv':=hv.symm.trans hv';obtain rfl:=Option.some.inj hv';subst hva;intro Y2 M2 _ _ _ fin2;have htk:(bs.take (t+1)).foldl BH (0,0,[])=BH z.2.2 b:=by refine Aa List.take_add_one (Aa hb (List.foldl_append.trans (Aa g1 ?_)));rfl
  have hdr:bs.drop t=b::bs.drop (t+1):=by
   refine(List.drop_eq_getElem_cons htb).trans ?_;congr 1;replace hb:=(List.getElem?_eq_getElem htb).symm.trans hb;exact Option.some.inj hb
  rw[hdr] at g2;refine oA g2 λg4 g5=>?_;have hz9:z.2.1.length≤99999:=by refine Aa T.fN.length (Aa (List.length_map ..) ?_);exact aN (zv 0) (zn 99999) [(0,2,zv 1,zn 1000),(0,1,zv 0,zm 2 (zv 2)),(0,2,za (zv 2) (zn 1),zv 1)] rfl (AH _ _ _) Ae hln g3 htb
  refine HM ["ai","bj","size"] hr1 (T.e2 _ _ (T.e1 _ _ haM)) rfl rfl ?_;refine BB.and (λk1 k2=>.t rfl ?_) (λk12=>.f rfl ?_)
  ·have lt1:z.2.2.1<b.1:=Int.ofNat_lt.mp (of_decide_eq_true k1);refine K4 (.t rfl ?_) (by decide);refine Aw PySem.F.slot_list_append PySem.F.type_list_append T.hN ?_;refine Ba λt3 ht3=>?_;refine Au (Ad T.hN ht3) ?_ (Nat.le_trans hz9 (by decide));refine' B3 30 hr1 ["i","j"] ⟨rfl,λt4 ht4=>?_⟩ ?w
   case w=>exact Bq λz_=>rfl
   have T3:=(T.push ht3 true z.2.2.1 b.1 z.2.2.2.1 b.2.1 _ rfl).ext (Am.put (o:=.tup [.int ((b.1:Int)+(b.2.2:Int)) 0,.int ((b.2.1:Int)+(b.2.2:Int)) 0]) ht4);refine BB.mk (λhk0=>?_) (λhk0=>?_)
   ·have hk1:b.2.2≠0:=λe=>by rw[e] at hk0;contradiction
    refine Aw PySem.F.slot_list_append PySem.F.type_list_append T3.hN ?_;refine Ba λt5 ht5=>?_;refine Au (Ad T3.hN ht5) ?_ (by refine Aa List.length_append ?_;exact Nat.succ_le_succ (Nat.le_trans hz9 (by decide)));exact fin2 _ _ ⟨(_,_,b.1+b.2.2,b.2.1+b.2.2,_),⟨T3.push ht5 false b.1 ((b.1+b.2.2:Nat):Int) b.2.1 ((b.2.1+b.2.2:Nat):Int) _ rfl,htk.trans (KM (if_pos lt1) (if_pos hk1)),g5,by simp only[List.length_append,List.length_singleton];exact aN (za (za (zv 0) (zn 1)) (zn 1)) (zm 2 (za (zv 1) (zn 1))) [(0,1,zv 0,zm 2 (zv 1))] rfl (Az _ _) Ae g3⟩,rfl⟩
   ·exact fin2 _ _ ⟨(_,_,b.1+b.2.2,b.2.1+b.2.2,_),⟨T3,htk.trans (KM (if_pos lt1) (if_neg (bS hk0))),g5,by simp only[List.length_append,List.length_singleton];exact T4 g3⟩,rfl⟩
  ·have eq1:z.2.2.1=b.1∧z.2.2.2.1=b.2.1:=g4.resolve_left λe=>k12 ⟨decide_eq_true (Int.ofNat_lt.mpr e.1),decide_eq_true (Int.ofNat_lt.mpr e.2)⟩;have nlt:¬z.2.2.1<b.1:=by refine Aa eq1.1 ?_;exact Nat.lt_irrefl _
   refine .f (decide_eq_false λe=>nlt (Int.ofNat_lt.mp e)) (.f (decide_eq_false λe=>by have:=Int.ofNat_lt.mp e;rw[eq1.2] at this;exact Nat.lt_irrefl _ this) ?_);refine K4 (.f rfl ?_) (by decide);refine' B3 30 hr1 ["i","j"] ⟨rfl,λt4 ht4=>?_⟩ ?w
   case w=>exact Bq λz_=>rfl
   have T3:=T.ext (Am.put (o:=.tup [.int ((b.1:Int)+(b.2.2:Int)) 0,.int ((b.2.1:Int)+(b.2.2:Int)) 0]) ht4);refine BB.mk (λhk0=>?_) (λhk0=>?_)
   ·have hk1:b.2.2≠0:=λe=>by rw[e] at hk0;contradiction
    refine Aw PySem.F.slot_list_append PySem.F.type_list_append T3.hN ?_;refine Ba λt5 ht5=>?_;refine Au (Ad T3.hN ht5) ?_ (Nat.le_trans hz9 (by decide));exact fin2 _ _ ⟨(_,_,b.1+b.2.2,b.2.1+b.2.2,_),⟨T3.push ht5 false b.1 ((b.1+b.2.2:Nat):Int) b.2.1 ((b.2.1+b.2.2:Nat):Int) _ rfl,htk.trans (KM (if_neg nlt) (if_pos hk1)),g5,by simp only[List.length_append,List.length_singleton];exact T4 g3⟩,rfl⟩
   ·exact fin2 _ _ ⟨(_,_,b.1+b.2.2,b.2.1+b.2.2,_),⟨T3,htk.trans (KM (if_neg nlt) (if_neg (bS hk0))),g5,Nat.le_trans g3 (aN (zm 2 (zv 0)) (zm 2 (za (zv 0) (zn 1))) [] rfl (Av _) Ae)⟩,rfl⟩
 case done=>
  intro z l1 h0;obtain⟨T,g1,g2,g3⟩:=h0;rw[hF'.length,List.take_length] at g1;have hx9:∀{a:Addr} {o:AO},led a=some o→a≠dx→l1 a=some o:=λ{a o} h hne=>by
   have aA:a≠AN:=Ag h hAN;exact T.e2 _ _ (T.e1 _ _ ((if_neg aA).trans (e1 _ _ (Ab (Ab h aA) hne) hne)))
  refine hk AN l1 z.2.1 bl bl' (λa o h hne=>hx9 h hne) hAN hgm hperm hsort T.hN ?_;refine Aa hbs (Aa g1 ?_);exact Bt T.e2 T.fN
end
section
open PySem PySem.W
noncomputable def EH(R:Str→Bool):List Str→Nat→Nat→Option AJ→List AJ
 |[],_,_,none=>[]
 |[],_,_,some b=>[b]
 |x::zs,p,q,none=>if R x=true then EH R zs (p+1) (q+2) none else EH R zs (p+1) (q+1) (some (p,q,1))
 |x::zs,p,q,some b=>if R x=true then b::EH R zs (p+1) (q+2) none else EH R zs (p+1) (q+1) (some (b.1,b.2.1,b.2.2+1))
section
theorem Un(h:eB xs R p=false):LR xs R p=false:=by unfold LR;refine Aa h ?_;rfl
theorem MM:∀(n p:Nat),xs.length-p=n→p≤xs.length →
  (¬(0<p∧eB xs R (p-1)=true)→EH R (xs.drop p) p (BN xs R d1 d2 p) none=(AY xs R p xs.length).map (IX xs R d1 d2)) ∧
  ∀i,i<p→(∀t,t<p-i→eB xs R (i+t)=true)→¬(0<i∧eB xs R (i-1)=true)→EH R (xs.drop p) p (BN xs R d1 d2 p) (some (i,BN xs R d1 d2 i,p-i))=IX xs R d1 d2 i::(AY xs R p xs.length).map (IX xs R d1 d2):=by
 intro n
 induction n with
 |zero=>
  intro p hn hp;have e:p=xs.length:=T7 hn hp;subst e;refine Aa (List.drop_of_length_le (Nat.le_refl _)) (Aa (CE λt g1 g2=>by exact OP g1 g2) ?_);refine⟨λz_=>rfl,λi h1 h2 h3=>?_⟩;have r:Hd xs R i (xs.length-i):=⟨by exact Tj h1,h2,h3,by refine Aa (show i+(xs.length-i)=xs.length by exact OO h1) ?_;unfold eB;exact Aa (List.getElem?_eq_none (Nat.le_refl _)) rfl⟩;refine(?_:[_]=[_]);unfold IX;exact Aa (Hn r) rfl
 |succ n ih=>
  intro p hn hp;have hl:p<xs.length:=by lia
  refine oA (ih (p+1) (T5 hn) (by assumption)) λih1 ih2=>?_;have hx:=List.getElem?_eq_getElem hl;have hph:=Ej (R:=R) (d1:=d1) (d2:=d2) hx;refine Aa (List.drop_eq_getElem_cons hl) ?_;refine Aa (Di (Nat.le_succ p) (by assumption:p+1≤xs.length)) ?_;have hst:AY xs R p (p+1)=[p].filter (LR xs R):=by unfold AY;refine Aa (show p+1-p=1 by exact KV) ?_;rfl
  by_cases hR:R xs[p]=true
  ·have hE:eB xs R p=false:=by unfold eB;refine Aa hx ?_;simp[hR]
   have hs:AY xs R p (p+1)=[]:=by refine hst.trans (List.filter_cons.trans (Aa (Un hE) ?_));rfl
   refine Aa hs (Aa (List.nil_append ..) ?_);rw[if_pos hR] at hph;refine⟨λz_=>?_,λi h1 h2 h3=>?_⟩
   ·rw[EH,if_pos hR,← hph];exact ih1 λh=>by rw[Nat.add_sub_cancel,hE] at h;exact absurd h.2 Bool.false_ne_true
   ·rw[EH,if_pos hR,← hph,ih1 λh=>by rw[Nat.add_sub_cancel,hE] at h;cases h.2];have r:Hd xs R i (p-i):=⟨by exact Tj h1,h2,h3,by refine Aa (show i+(p-i)=p by exact OO h1) ?_;exact hE⟩;have:IX xs R d1 d2 i=(i,BN xs R d1 d2 i,p-i):=by unfold IX;exact Aa (Hn r) rfl
    exact Aa this rfl
  ·have hE:eB xs R p=true:=by unfold eB;refine Aa hx ?_;simpa using hR
   rw[if_neg hR] at hph;refine⟨λh=>?_,λi h1 h2 h3=>?_⟩
   ·have hs:AY xs R p (p+1)=[p]:=by
     have:LR xs R p=true:=by
      unfold LR;refine Aa hE ?_;by_cases h0:0<p
      ·refine Aa (by simpa using λe=>h ⟨h0,e⟩:eB xs R (p-1)=false) ?_;simp
      ·simp[h0]
     refine hst.trans (List.filter_cons.trans (Aa this ?_));rfl
    rw[hs,EH,if_neg hR,← hph];have:=ih2 p (Nat.lt_succ_self p) (λt ht=>by refine Aa (show p+t=p by exact XR ht) ?_;exact hE) h;rw[show p+1-p=1 by exact KV] at this;exact this
   ·have hs:AY xs R p (p+1)=[]:=by
     have h4:=h2 (p-1-i) (XQ h1);rw[show i+(p-1-i)=p-1 by exact Tm h1] at h4;have:LR xs R p=false:=by
      unfold LR;refine Aa h4 (Aa (show decide (0<p)=true by simp;exact OQ h1) ?_);simp
     rw[hst,List.filter_cons,this];rfl
    rw[hs,EH,if_neg hR,← hph];have:=ih2 i (Nat.le_succ_of_le (by assumption)) (λt ht=>by
     by_cases g:t<p-i
     ·exact h2 t g
     ·rw[show i+t=p by lia];exact hE) h3
    rw[show p+1-i=p-i+1 by exact XO h1] at this;exact this
end
section
noncomputable def S6:Nat→List AJ→Prop
 |_,[]=>True
 |lo,b::r=>lo≤b.1∧b.2.2≠0∧S6 (b.1+b.2.2+1) r
theorem Vy:∀(zs:List Str) (p q:Nat),(∀lo,lo≤p→S6 lo (EH R zs p q none))∧∀lo b,lo≤b.1→b.2.2≠0→b.1+b.2.2=p→S6 lo (EH R zs p q (some b)):=by
 intro zs
 induction zs with
 |nil=>exact λp q=>⟨λz_ z_=>trivial,λlo b h1 h2 z_=>⟨h1,h2,trivial⟩⟩
 |cons x zs ih=>
  intro p q;refine⟨λlo h=>?_,λlo b h1 h2 h3=>?_⟩
  ·rw[EH];split
   ·exact(ih _ _).1 lo (Nat.le_succ_of_le (by assumption))
   ·exact(ih _ _).2 lo _ h Nat.one_ne_zero rfl
  ·rw[EH];split
   ·exact⟨h1,h2,(ih _ _).1 _ (aN (za (za (zv 0) (zv 1)) (zn 1)) (za (zv 2) (zn 1)) [(1,1,za (zv 0) (zv 1),zv 2)] rfl (AH _ _ _) Ae h3)⟩
   ·exact(ih _ _).2 lo _ h1 (Nat.succ_ne_zero _) (by dsimp only;exact I6 h3)
theorem Re:∀(bs:List AJ) (b:AJ) (acc:List AJ),b.2.2≠0→S6 (b.1+b.2.2+1) bs→Rf (bs.foldl Mn (b,acc))=acc++b::bs:=by
 intro bs
 induction bs with
 |nil=>
  intro b acc h _;refine(?_:(if b.2.2≠0 then acc++[b] else acc)=_);exact(if_pos h).trans rfl
 |cons c bs ih=>
  intro b acc h hg;refine Cg hg λg1 g2 g3=>?_;have e:Mn (b,acc) c=(c,acc++[b]):=by
   unfold Mn;dsimp only;exact(if_neg (XN g1)).trans (Aa (if_pos h) rfl)
  refine Aa List.foldl_cons (Aa e ((ih c _ g2 g3).trans ((List.append_assoc ..).trans ?_)));rfl
theorem Nd(xs:List Str)(la lb:Nat):Cb (EH R xs 0 0 none) la lb=EH R xs 0 0 none++[(la,lb,0)]:=by
 unfold Cb;congr 1;have hg:=(Vy (R:=R) xs 0 0).1 0 (Nat.le_refl 0)
 cases he:EH R xs 0 0 none with
 |nil=>rfl
 |cons b bs=>
  rw[he] at hg;refine Cg hg λz_ g2 g3=>?_;have e:Mn ((0,0,0),[]) b=(b,[]):=by
   unfold Mn;dsimp only;split
   ·rename_i h;refine oA h λh1 h2=>?_;obtain⟨b1,b2,b3⟩:=b;dsimp only at h1 h2 ⊢;exact Aa (show b1=0 by exact Th h1) (Aa (show b2=0 by exact Th h2) (Aa (Nat.zero_add ..) rfl))
   ·exact Aa (if_neg (λh=>h rfl)) rfl
  rw[List.foldl_cons,e,Re bs b [] g2 g3];rfl
theorem HB:((x::zs).flatMap (Bg R d1 d2)).length=(if R x=true then 2 else 1)+(zs.flatMap (Bg R d1 d2)).length:=by
 rw[List.flatMap_cons,List.length_append];congr 1;unfold Bg;split<;>rfl
theorem RN:∀(zs:List Str) (p q i j P Q:Nat),P=p+zs.length→Q=q+(zs.flatMap (Bg R d1 d2)).length →
  (((i<p∧j<q)∨(i=p∧j=q))→He i j (EH R zs p q none++[(P,Q,0)]))∧∀b:AJ,((i<b.1∧j<b.2.1)∨(i=b.1∧j=b.2.1))→b.1+b.2.2=p→b.2.1+b.2.2=q→He i j (EH R zs p q (some b)++[(P,Q,0)]):=by
 intro zs
 induction zs with
 |nil=>
  intro p q i j P Q hP hQ;subst hP hQ;exact⟨λh=>⟨h,trivial⟩,λb h h1 h2=>⟨h,.inr ⟨h1,h2⟩,trivial⟩⟩
 |cons x zs ih=>
  intro p q i j P Q hP hQ;rw[HB] at hQ;rw[List.length_cons] at hP;refine⟨λh=>?_,λb h h1 h2=>?_⟩
  ·rw[EH];split
   ·rename_i hR;rw[if_pos hR] at hQ;exact(ih _ _ i j P Q (FR hP) (ON hQ)).1 (XM h)
   ·rename_i hR;rw[if_neg hR] at hQ;exact(ih _ _ i j P Q (FR hP) (KU hQ)).2 _ h rfl rfl
  ·rw[EH];split
   ·rename_i hR;rw[if_pos hR] at hQ;exact⟨h,(ih _ _ _ _ P Q (by lia) (by lia)).1 (XK h1 h2)⟩
   ·rename_i hR;rw[if_neg hR] at hQ;exact(ih _ _ i j P Q (FR hP) (KU hQ)).2 _ h (by dsimp only;exact I6 h1) (by dsimp only;exact I6 h2)
noncomputable def Ck(i p j q:Nat)(acc:List C7):List C7:=if i<p then acc++[(true,(i:Int),(p:Int),(j:Int),(q:Int))] else acc
theorem SK(h:b.2.2≠0):BH (i,j,acc) b=(b.1+b.2.2,b.2.1+b.2.2,Ck i b.1 j b.2.1 acc++[(false,(b.1:Int),((b.1+b.2.2:Nat):Int),(b.2.1:Int),((b.2.1+b.2.2:Nat):Int))]):=by
 unfold BH Ck;dsimp only;exact Aa (if_pos h) rfl
theorem Oo:(BH (i,j,acc) (P,Q,0)).2.2=Ck i P j Q acc:=by
 unfold BH Ck;dsimp only;exact Aa (if_neg (λh=>h rfl)) rfl
theorem SF{x:Str}{L:List C7}{p q:Nat}(hx:(Txt.item x 0==c)=true):Bw c (L,(p:Int),(q:Int)) x=(CF L true p q (q+2:Nat),((p+1:Nat):Int),((q+2:Nat):Int)):=by
 unfold Bw;refine Aa hx ?_;rfl
theorem SG{x:Str}{L:List C7}{p q:Nat}(hx:(Txt.item x 0==c)=false):Bw c (L,(p:Int),(q:Int)) x=(CF L false p q (q+1:Nat),((p+1:Nat):Int),((q+1:Nat):Int)):=by
 unfold Bw;refine Aa hx ?_;rfl
theorem On(hR:R=λx=>Txt.item x 0==c):∀(zs:List Str) (p q i j P Q:Nat) (acc:List C7),P=p+zs.length→Q=q+(zs.flatMap (Bg R d1 d2)).length →
  ((i<p∨(acc=[]∧i=p∧j=q))→(zs.foldl (Bw c) (Ck i p j q acc,(p:Int),(q:Int))).1=((EH R zs p q none++[(P,Q,0)]).foldl BH (i,j,acc)).2.2) ∧
  ∀b:AJ,b.1+b.2.2=p→b.2.1+b.2.2=q→b.2.2≠0→(zs.foldl (Bw c) (Ck i b.1 j b.2.1 acc++[(false,(b.1:Int),(p:Int),(b.2.1:Int),(q:Int))],(p:Int),(q:Int))).1=((EH R zs p q (some b)++[(P,Q,0)]).foldl BH (i,j,acc)).2.2:=by
 intro zs
 induction zs with
 |nil=>
  intro p q i j P Q acc hP hQ;subst hP hQ;refine⟨λz_=>?_,λb h1 h2 h3=>?_⟩
  ·refine(?_:Ck _ _ _ _ _=(BH (i,j,acc) (P,Q,0)).2.2);exact Aa Oo rfl
  ·refine(?_:_=(BH (BH (i,j,acc) b) (P,Q,0)).2.2);refine Aa (SK h3) (Aa Oo (Aa h1 (Aa h2 ?_)));unfold Ck;refine Aa (if_neg (Nat.lt_irrefl P)) ?_;rfl
 |cons x zs ih=>
  intro p q i j P Q acc hP hQ;rw[HB] at hQ;rw[List.length_cons] at hP;by_cases hx:R x=true
  ·rw[if_pos hx] at hQ;have hx2:(Txt.item x 0==c)=true:=by rw[hR] at hx;exact hx
   refine⟨λh=>?_,λb h1 h2 h3=>?_⟩
   ·rw[EH,if_pos hx,List.foldl_cons,SF hx2];have e:CF (Ck i p j q acc) true p q ((q+2:Nat):Int)=Ck i (p+1) j (q+2) acc:=by
     by_cases hi:i<p
     ·unfold Ck;refine Aa (if_pos hi) (Aa (if_pos (Nat.le_succ_of_le (by assumption))) ((FE rfl).trans ?_));rfl
     ·refine Cg (h.resolve_left hi) λho0 ho1 ho2=>?_;subst ho0;subst ho1;subst ho2;unfold Ck;refine Aa (if_neg hi) (Aa (if_pos (Nat.lt_succ_self i)) (KJ.trans ?_));rfl
    refine Aa e ?_;exact(ih (p+1) (q+2) i j P Q acc (FR hP) (ON hQ)).1 (.inl (XJ h))
   ·rw[EH,if_pos hx,List.foldl_cons,SF hx2,EP (by decide),List.cons_append,List.foldl_cons,SK h3,h1,h2];refine AV ((ih (p+1) (q+2) p q P Q (Ck i b.1 j b.2.1 acc++[(false,(b.1:Int),(p:Int),(b.2.1:Int),(q:Int))]) (FR hP) (ON hQ)).1 (.inl (Nat.le_refl _))) ?_;unfold Ck;refine Aa (if_pos (Nat.lt_succ_self p)) ?_;rfl
  ·rw[if_neg hx] at hQ;have hx2:(Txt.item x 0==c)=false:=by rw[hR] at hx;simpa using hx
   refine⟨λh=>?_,λb h1 h2 h3=>?_⟩
   ·rw[EH,if_neg hx,List.foldl_cons,SG hx2];have e:CF (Ck i p j q acc) false p q ((q+1:Nat):Int)=Ck i p j q acc++[(false,(p:Int),((p+1:Nat):Int),(q:Int),((q+1:Nat):Int))]:=by
     by_cases hi:i<p
     ·unfold Ck;refine Aa (if_pos hi) ((EP (by decide)).trans ?_);rfl
     ·refine Cg (h.resolve_left hi) λho0 ho1 ho2=>?_;subst ho0;subst ho1;subst ho2;unfold Ck;refine Aa (if_neg hi) (KJ.trans ?_);rfl
    refine Aa e ?_;exact(ih (p+1) (q+1) i j P Q acc (FR hP) (KU hQ)).2 (p,q,1) rfl rfl Nat.one_ne_zero
   ·rw[EH,if_neg hx,List.foldl_cons,SG hx2,FE rfl];exact(ih (p+1) (q+1) i j P Q acc (FR hP) (KU hQ)).2 (b.1,b.2.1,b.2.2+1) (by dsimp only;exact I6 h1) (by dsimp only;exact I6 h2) (Nat.succ_ne_zero _)
end
section
theorem LQ:(AY xs R a b).Pairwise (· < ·):=List.Pairwise.filter _ List.pairwise_lt_range'
theorem H7(R:Str→Bool)(hR:R=λx=>Txt.item x 0==c)(hd:∀x∈xs,∀y∈xs,R y=true→d1 y≠x∧d2 y≠x)(hl:xs.length<60)(h:Jl xs (xs.flatMap (Bg R d1 d2)) [] bl) :
  ((bl.map (·.1)).Nodup∧bl.length<60)∧(bl'.Perm bl→bl'.Pairwise (λa b=>a.1<b.1)→He 0 0 (Cb bl' xs.length (xs.flatMap (Bg R d1 d2)).length)∧((Cb bl' xs.length (xs.flatMap (Bg R d1 d2)).length).foldl BH (0,0,[])).2.2=(xs.foldl (Bw c) ([],0,0)).1):=by
 have hp:=(Vr hd h).2;rw[List.flatMap_nil,List.append_nil] at hp;have hs1:((AY xs R 0 xs.length).map (IX xs R d1 d2)).Pairwise (λa b=>a.1<b.1):=by
  rw[List.pairwise_map];exact(LQ (xs:=xs) (R:=R) (a:=0) (b:=xs.length))
 refine⟨⟨?_,?_⟩,λg1 g2=>?_⟩
 ·refine(hp.map (·.1)).nodup_iff.mpr ?_;refine List.Pairwise.imp (R:=(· < ·)) (λh=>Nat.ne_of_lt h) ?_;rw[List.pairwise_map];exact hs1
 ·refine Aa hp.length_eq (Aa (List.length_map ..) ?_);refine Nat.lt_of_le_of_lt ?_ hl;unfold AY;refine Nat.le_trans (List.length_filter_le ..) ?_;refine Aa List.length_range' ?_;exact Nat.le_refl _
 ·have e2:EH R xs 0 0 none=bl':=by
   refine Aa (List.Perm.eq_of_pairwise (le:=λa b:AJ=>a.1<b.1) (λa b z_ z_ h1 h2=>absurd h1 (λs=>aF [(0,1,za (zv 0) (zn 1),zv 1),(0,1,za (zv 1) (zn 1),zv 0)] rfl (Az _ _) Ae h2 s)) g2 hs1 (g1.trans hp)) ?_;exact((MM (xs:=xs) (R:=R) (d1:=d1) (d2:=d2) xs.length 0 rfl (Nat.zero_le _)).1 λh=>absurd h.1 (Nat.lt_irrefl 0))
  refine AV e2 (Aa (Nd ..) ?_);refine⟨(RN xs 0 0 0 0 _ _ (Nat.zero_add _).symm (Nat.zero_add _).symm).1 (.inr ⟨rfl,rfl⟩),?_⟩;exact((On hR xs 0 0 0 0 _ _ [] (Nat.zero_add _).symm (Nat.zero_add _).symm).1 (.inr ⟨rfl,rfl,rfl⟩)).symm
end
end
noncomputable def DT(ys:List Str)(i:Nat)(y:Str):List Nat:=(List.range i).filter λj=>ys[j]?=some y
theorem FY{ys:List Str}{i:Nat}{x y:Str}(h:ys[i]?=some x):DT ys (i+1) y=if x=y then DT ys i y++[i] else DT ys i y:=by
 unfold DT;refine Aa List.range_succ ((List.filter_append ..).trans ?_);by_cases e:x=y
 ·subst e;simp[h]
 ·exact Aa (if_neg e) (Aa (List.filter_cons_of_neg (by rw[h];simpa using e)) (Aa List.filter_nil ((List.append_nil ..).trans rfl)))
structure VO(B:Lg)(D:Addr)(ys:List Str)(i:Nat)(kvs:List (Str×Value))(l:Lg):Prop where
 hD:l D=some (.dct kvs)
 eB:∀a o,B a=some o→a≠D→l a=some o
 nB:∀a,l a=none→B a=none
 kl:kvs.length≤i
 bj:∀y,(DT ys i y=[]∧valueAt kvs y=none)∨∃a,valueAt kvs y=some (.ref a)∧l a=some (.lst ((DT ys i y).map Bk))∧B a=none
 inj:∀y z a,valueAt kvs y=some (.ref a)→valueAt kvs z=some (.ref a)→y=z
section
theorem Vh{kvs:List (Str×Value)}{k:Str}{v:Value}:(stored kvs k v).length≤kvs.length+1:=by
 unfold PySem.stored;split<;>simp
theorem VO.old(C:VO B D ys i kvs l)(hx:ys[i]?=some x)(hv:valueAt kvs x=some (.ref a))(hT:l T=none){E:Addr}(hE:put T (.tup tv) l E=none)(hBD:(B D).isSome=true):put E (.lst []) (put T (.tup tv) l) a=some (.lst ((DT ys i x).map Bk))∧VO B D ys (i+1) kvs (put a (.lst ((DT ys i x).map Bk++[Bk i])) (put E (.lst []) (put T (.tup tv) l))):=by
 have x2:Am l (put E (.lst []) (put T (.tup tv) l)):=(Am.put hT).trans (Am.put hE);obtain⟨_,h2⟩ | ⟨a',h1,h2,h3⟩:=C.bj x
 ·replace h2:=hv.symm.trans h2;contradiction
 replace h1:=hv.symm.trans h1;cases h1;have ne:∀b o,B b=some o→b≠a:=λb o h e=>by rw[e,h3] at h;contradiction
 have nD:D≠a:=λe=>by rw[e,h3] at hBD;contradiction
 refine⟨x2 _ _ h2,Ab (x2 _ _ C.hD) nD,λb o h n=>Ab (x2 _ _ (C.eB b o h n)) (ne b o h),λb h=>C.nB b (Ak x2 ?_),Nat.le_succ_of_le C.kl,λy=>?_,C.inj⟩
 ·unfold put at h ⊢;split at h
  ·contradiction
  ·exact h
 ·refine Aa (FY hx) ?_;by_cases e:x=y
  ·subst e;refine Aa (if_pos rfl) (Aa List.map_append ?_);exact .inr ⟨a,hv,Ac,h3⟩
  ·refine Aa (if_neg e) ?_;refine(C.bj y).imp id λhX=>B7 hX λb k1 k2 k3=>⟨b,k1,Ab (x2 _ _ k2) λq=>?_,k3⟩
   subst q;exact e (C.inj _ _ _ hv k1)
theorem VO.add(C:VO B D ys i kvs l)(hx:ys[i]?=some x)(hv:valueAt kvs x=none)(hT:l T=none){E:Addr}(hE:put T (.tup tv) l E=none):VO B D ys (i+1) (stored kvs x (.ref E)) (put E (.lst [Bk i]) (put D (.dct (stored kvs x (.ref E))) (put E (.lst []) (put T (.tup tv) l)))):=by
 have x2:Am l (put E (.lst []) (put T (.tup tv) l)):=(Am.put hT).trans (Am.put hE);have lE:l E=none:=Ak (Am.put hT) hE;have nD:D≠E:=λe=>by have:=C.hD;rw[e,lE] at this;contradiction
 have h0:DT ys i x=[]:=by
  obtain h | ⟨a',h1,_⟩:=C.bj x
  ·exact h.1
  ·replace h1:=hv.symm.trans h1;contradiction
 have key:∀b o,l b=some o→b≠D→put E (.lst [Bk i]) (put D (.dct (stored kvs x (.ref E))) (put E (.lst []) (put T (.tup tv) l))) b=some o:=λb o h n=>Ab (Ab (x2 _ _ h) n) λe=>by rw[e,lE] at h;contradiction
 refine⟨Ab Ac nD,λb o h n=>key b o (C.eB b o h n) n,λb h=>C.nB b (Ak x2 ?_),Nat.le_trans Vh (Nat.succ_le_succ C.kl),λy=>?_,λy z b h1 h2=>?_⟩
 ·unfold put at h ⊢;split at h
  ·contradiction
  ·rename_i e;refine(if_neg e).trans ?_;split at h
   ·contradiction
   ·exact h
 ·refine Aa (FY hx) (Aa Bi ?_);by_cases e:x=y
  ·subst e;refine Aa (if_pos rfl) (Aa (if_pos rfl) (Aa h0 ?_));exact .inr ⟨E,rfl,Ac,C.nB E lE⟩
  ·refine Aa (if_neg e) (Aa (if_neg (Ne.symm e)) ?_);refine(C.bj y).imp id λhX=>B7 hX λb k1 k2 k3=>⟨b,k1,key b _ k2 λq=>?_,k3⟩
   rw[q,C.hD] at k2
   (have hq:=Option.some.inj k2;contradiction)
 ·have old:∀u,valueAt kvs u=some (.ref E)→False:=λu h=>by
   obtain⟨_,h2⟩ | ⟨a',k1,k2,_⟩:=C.bj u
   ·replace h2:=h.symm.trans h2;contradiction
   ·replace k1:=(h ..).symm.trans k1;cases k1;replace k2:=(lE ..).symm.trans k2;exact absurd k2 nofun
  rw[Bi] at h1 h2;by_cases e1:y=x
  ·by_cases e2:z=x
   ·exact e1.trans e2.symm
   ·replace h1:=(if_pos e1).symm.trans h1;replace h2:=(if_neg e2).symm.trans h2;cases h1;exact(old _ h2).elim
  ·replace h1:=(if_neg e1).symm.trans h1;by_cases e2:z=x
   ·replace h2:=(if_pos e2).symm.trans h2;cases h2;exact(old _ h1).elim
   ·replace h2:=(if_neg e2).symm.trans h2;exact C.inj _ _ _ h1 h2
end
theorem Ca(h:Nat.blt a 1000=true:=by exact rfl):a<1000:=Nat.le_of_ble_eq_true h
noncomputable def LX(la lb:Addr):List (Str×Value):=[("isjunk",.none),("a",.ref la),("b",.ref lb),("autojunk",.bool false),("matching_blocks",.none),("opcodes",.none),("fullbcount",.none)]
section
variable{K:Value→Lg→Prop}
theorem Sk(room:AU c 60 600)(hx:led x=some (.ins 242 dx))(hdd:led dx=some (.att (LX la lb)))(hb:led lb=some (.lst (ys.map Al)))(hlen:ys.length≤1000)(hk:∀D J P kvs led',(∀a o,led a=some o→a≠dx→led' a=some o)→led' dx=some (.att (S9 la lb D J P .none .none .none))→led' D=some (.dct kvs)→(D==sysModules)=false→(∀y,(Bp ys y=[]∧valueAt kvs y=none)∨∃a,valueAt kvs y=some (.ref a)∧led' a=some (.lst ((Bp ys y).map Bk)))→led' J=some (.set (λz_=>false) 0)→K .none led') :
 A4 c ps (.ref 188) [.ref x] led K:=by
 refine Be ["self"] (by k_is) (CL λs X z_=>BindsTo.of_eq rfl) room λc hd hu hr rm=>?_;refine A7 hr 60 30 ?_;refine AA hx hdd rfl ?_ (rfl);refine Cc 30 hr ?_;refine E6 λD hD lo=>?_;have dD:dx≠D:=λe=>by rw[e,hD] at hdd;contradiction
 refine AT (Ad hx hD) (Ad hdd hD) ?_ (by exact rfl) Ca;generalize hB:put dx (.att (EN "b2j" (.ref D) (LX la lb))) (put D (.dct []) led)=B;have eB:∀a o,led a=some o→a≠dx→B a=some o:=λa o h n=>by refine AV hB ?_;exact Ab (Ad h hD) n
 have bx:=eB _ _ hx (λe=>by rw[e,hdd] at hx;(have hq:=Option.some.inj hx;contradiction));have bb:=eB _ _ hb (λe=>by rw[e,hdd] at hb;(have hq:=Option.some.inj hb;contradiction));have bd:B dx=some (.att (EN "b2j" (.ref D) (LX la lb))):=by refine AV hB ?_;exact Ac
 have bD:B D=some (.dct []):=by refine AV hB ?_;exact Ab Ac dD.symm
 clear hB;refine Bn 30 ?_;refine Pt bb λit e hit he=>?_;refine YH (σ:=List (Str×Value)) 60 30 ["self","b","b2j"] (λz_=>[.ref x,.ref lb,.ref D]) (VO B D ys) ["i","elt"] hr bb Ac (Ad Ac he) ((Am.put hit).trans (Am.put he)) (Ak (Am.put hit) he) hit [] ⟨bD,λz_ z_ h z_=>h,λz_ h=>h,Nat.le_refl _,λy=>.inl ⟨rfl,rfl⟩,λy z a h=>by contradiction⟩ rfl (λi kv l h=>h.eB _ _ bb λe=>by rw[e,bD] at bb;(have hq:=Option.some.inj bb;contradiction)) rfl ?turn ?done
 case turn=>
  intro c1 lk hr1 i v kvs l1 T hi hv C hT Y M _ _ _ fin;rw[List.length_map] at hi;replace hv:=(List.getElem?_map).symm.trans hv;refine An (Option.map_eq_some_iff.mp hv) λy hy ho2=>?_;subst ho2;refine Dx PySem.F.slot_dict_setdefault PySem.F.type_dict_setdefault (Ad C.hD hT) ?_;refine Ay λE hE=>?_;have hD2:=Ad (o:=.lst []) (Ad (o:=.tup [.int (i:Int) 0,Al y]) C.hD hT) hE;have zk:kvs.length≤10000:=by have:=C.kl;exact aN (zv 0) (zn 10000) [(0,1,zv 1,zn 1000),(0,1,za (zv 2) (zn 1),zv 1),(0,1,zv 0,zv 2)] rfl (AH _ _ _) Ae hlen hi this
  cases hva:valueAt kvs y with
  |some u=>
   obtain⟨a,rfl⟩:∃a,u = .ref a:=by
    obtain⟨_,h2⟩ | ⟨a',h1,_⟩:=C.bj y
    ·replace h2:=hva.symm.trans h2;contradiction
    ·replace h1:=hva.symm.trans h1;obtain rfl:=Option.some.inj h1;exact⟨_,rfl⟩
   refine oA (C.old hy hva hT hE (by rw[bD];rfl)) λh1 h2=>?_;refine NF hD2 lo hva ?_ zk;refine Aw PySem.F.slot_list_append PySem.F.type_list_append h1 ?_;refine Au h1 ?_ ?_
   ·exact fin _ _ ⟨kvs,h2,rfl⟩
   ·refine Aa (List.length_map ..) ?_;unfold DT;have:=List.length_filter_le (λj=>decide (ys[j]?=some y)) (List.range i);rw[List.length_range] at this;exact Tz hlen hi this
  |none=>
   refine NH hD2 lo hva ?_ zk;have eE:E≠D:=λe=>by have h:=Ak (Am.put hT) hE;rw[e,C.hD] at h;contradiction
   have h1:put D (.dct (stored kvs y (.ref E))) (put E (.lst []) (put T (.tup [.int (i:Int) 0,Al y]) l1)) E=some (.lst []):=Ab Ac eE;refine Aw PySem.F.slot_list_append PySem.F.type_list_append h1 ?_;refine Au h1 ?_ (by decide);exact fin _ _ ⟨_,C.add hy hva hT hE,rfl⟩
 case done=>
  intro kvs l1 C;have hx1:=C.eB _ _ bx (λe=>by rw[e,bD] at bx;(have hq:=Option.some.inj bx;contradiction));have hd1:=C.eB _ _ bd dD;refine Cc 30 hr ?_;refine Hl λJ hJ=>?_;refine AT (Ad hx1 hJ) (Ad hd1 hJ) ?_ (by exact rfl) Ca;have xd:x≠dx:=λe=>by rw[e,bd] at bx;(have hq:=Option.some.inj bx;contradiction)
  have bd':lb≠dx:=λe=>by rw[e,bd] at bb;(have hq:=Option.some.inj bb;contradiction)
  have hx2:=Ab (o:=.att (EN "bjunk" (.ref J) (EN "b2j" (.ref D) (LX la lb)))) (Ad (o:=.set (λz_=>false) 0) hx1 hJ) xd;refine AA hx2 Ac rfl ?_ (rfl);refine .f rfl ?_;refine Cc 30 hr ?_;refine Hl λP hP=>?_;refine AT (Ad hx2 hP) (Ad Ac hP) ?_ (by exact rfl) Ca;refine Hz (Ab (Ad (Ab (Ad (C.eB _ _ bb (λe=>by rw[e,bD] at bb;(have hq:=Option.some.inj bb;contradiction))) hJ) bd') hP) bd') ?_ (by refine Aa (List.length_map ..) ?_;exact aN (zv 0) (zn 1000000) [(0,1,zv 0,zn 1000)] rfl (Av _) Ae hlen);refine AA (Ab (Ad hx2 hP) xd) Ac rfl ?_ (rfl);refine .f rfl (.f rfl ?_);have Jd:J≠dx:=λe=>by rw[e,hd1] at hJ;contradiction
  have JD:J≠D:=λe=>by rw[e,C.hD] at hJ;contradiction
  have key:∀a o,l1 a=some o→a≠dx→put dx (.att (EN "bpopular" (.ref P) (EN "bjunk" (.ref J) (EN "b2j" (.ref D) (LX la lb))))) (put P (.set (λz_=>false) 0) (put dx (.att (EN "bjunk" (.ref J) (EN "b2j" (.ref D) (LX la lb)))) (put J (.set (λz_=>false) 0) l1))) a=some o:=λa o h n=>Ab (Ad (Ab (Ad h hJ) n) hP) n;refine hk D J P kvs _ (λa o h n=>key a o (C.eB a o (eB a o h n) λe=>by rw[e,hD] at h;contradiction) n) Ac (key _ _ C.hD dD.symm) lo (λy=>?_) (Ab (Ad (Ab Ac Jd) hP) Jd);have hb2:=C.bj y;rw[List.length_map] at hb2;exact hb2.imp id λhX=>B7 hX λa h1 h2 h3=>⟨a,h1,key a _ h2 λe=>by rw[e,bd] at h3;cases h3⟩
end
section
variable{K:Value→Lg→Prop}
noncomputable def Q6(va vb:Value):List (Str×Value):=[("isjunk",.none),("a",va),("b",vb),("autojunk",.bool false)]
noncomputable def G9(d:Addr)(l l':Lg):Prop:=∀a o,l a=some o→a≠d→l' a=some o
theorem G9.put:G9 d l (put d o l):=λz_ z_ h n=>Ab h n
theorem G9.trans(h:G9 d l l')(h':G9 d l' l''):G9 d l l'':=λa o e n=>h' a o (h a o e n) n
theorem Uw(room:AU c 40 400)(hx:led x=some (.ins 242 dx))(hdx:led dx=some (.att (Q6 .none .none)))(ne:x≠dx)(hk:∀led',G9 dx led led'→led' dx=some (.att (Q6 (.ref la) .none++[(("matching_blocks":Str),.none),(("opcodes":Str),.none)]))→K .none led'):A4 c ps (.ref 174) [.ref x,.ref la] led K:=by
 refine Be ["self","a"] (by k_is) (Fh λs X z_ z_=>BindsTo.of_eq rfl) room λc hd hu hr rm=>?_;refine A7 hr 30 30 ?_;refine AA hx hdx rfl (.f rfl ?_) (rfl);refine AT hx hdx ?_ (rfl) Ca;refine Cc 30 hr ?_;refine AT (Ab hx ne) Ac ?_ (rfl) Ca;refine AT (Ab (Ab hx ne) ne) Ac ?_ (rfl) Ca;exact hk _ ((G9.put.trans G9.put).trans G9.put) Ac
theorem Uv(room:AU c 100 1000)(hx:led x=some (.ins 242 dx))(hdx:led dx=some (.att (Q6 (.ref la) .none++[(("matching_blocks":Str),.none),(("opcodes":Str),.none)])))(ne:x≠dx)(hb:led lb=some (.lst (ys.map Al)))(hlen:ys.length≤1000)(hk:∀D J P kvs led',G9 dx led led'→led' dx=some (.att (S9 la lb D J P .none .none .none))→led' D=some (.dct kvs)→(D==sysModules)=false→(∀y,(Bp ys y=[]∧valueAt kvs y=none)∨∃a,valueAt kvs y=some (.ref a)∧led' a=some (.lst ((Bp ys y).map Bk)))→led' J=some (.set (λz_=>false) 0)→K .none led'):A4 c ps (.ref 181) [.ref x,.ref lb] led K:=by
 refine Be ["self","b"] (by k_is) (Fh λs X z_ z_=>BindsTo.of_eq rfl) room λc hd hu hr rm=>?_;refine A7 hr 30 30 ?_;have nb:lb≠dx:=λe=>by rw[e,hdx] at hb;(have hq:=Option.some.inj hb;contradiction)
 refine AA hx hdx rfl (.f rfl ?_) (by exact rfl);refine AT hx hdx ?_ (rfl) Ca;refine Cc 30 hr ?_;refine AT (Ab hx ne) Ac ?_ (rfl) Ca;refine AT (Ab (Ab hx ne) ne) Ac ?_ (rfl) Ca;refine AT (Ab (Ab (Ab hx ne) ne) ne) Ac ?_ (rfl) Ca;refine BF (f:=188) (Ab (Ab (Ab (Ab hx ne) ne) ne) ne) Ac rfl ?_ (rfl);refine Sk (rm.less (by decide) (by decide)) (Ab (Ab (Ab (Ab hx ne) ne) ne) ne) Ac (Ab (Ab (Ab (Ab hb nb) nb) nb) nb) hlen λD J P kvs led' e1=>?_;exact hk D J P kvs led' ((((G9.put.trans G9.put).trans G9.put).trans G9.put).trans e1)
theorem Ut(room:AU c 120 1200)(hx:led x=some (.ins 242 dx))(hdx:led dx=some (.att (Q6 .none .none)))(ne:x≠dx)(hb:led lb=some (.lst (ys.map Al)))(hlen:ys.length≤1000)(hk:∀D J P kvs led',G9 dx led led'→led' dx=some (.att (S9 la lb D J P .none .none .none))→led' D=some (.dct kvs)→(D==sysModules)=false→(∀y,(Bp ys y=[]∧valueAt kvs y=none)∨∃a,valueAt kvs y=some (.ref a)∧led' a=some (.lst ((Bp ys y).map Bk)))→led' J=some (.set (λz_=>false) 0)→K .none led'):A4 c ps (.ref 167) [.ref x,.ref la,.ref lb] led K:=by
 refine Be ["self","a","b"] (by k_is) (TJ λs X z_ z_ z_=>BindsTo.of_eq rfl) room λc hd hu hr rm=>?_;refine A7 hr 30 30 ?_;have nb:lb≠dx:=λe=>by rw[e,hdx] at hb;(have hq:=Option.some.inj hb;contradiction)
 refine BF (f:=174) hx hdx rfl ?_ (rfl);refine Uw (rm.less (by decide) (by decide)) hx hdx ne λl1 e1 h1=>?_;refine BF (f:=181) (e1 _ _ hx ne) h1 rfl ?_ (rfl);exact Uv (rm.less (by decide) (by decide)) (e1 _ _ hx ne) h1 ne (e1 _ _ hb nb) hlen λD J P kvs led' e2=>hk D J P kvs led' (e1.trans e2)
theorem Wd(room:AU c 140 1400)(hx:led x=some (.ins 242 dx))(hdx:led dx=some (.att []))(hb:led lb=some (.lst (ys.map Al)))(hlen:ys.length≤1000)(hk:∀D J P kvs led',G9 dx led led'→led' dx=some (.att (S9 la lb D J P .none .none .none))→led' D=some (.dct kvs)→(D==sysModules)=false→(∀y,(Bp ys y=[]∧valueAt kvs y=none)∨∃a,valueAt kvs y=some (.ref a)∧led' a=some (.lst ((Bp ys y).map Bk)))→led' J=some (.set (λz_=>false) 0)→K .none led'):Ed c ps (.ref 160) [.ref x,.none,.ref la,.ref lb,.bool false] led K:=by
 refine' Fy ["self","isjunk","a","b","autojunk"] ?ho ?hcd ?hb ?hl ?c1 ?c2 ?c3 ?c4 ?room ?_
 case ho=>k_is
 case hcd=>k_is
 case hb=>exact TI λs X z_ z_ z_ z_ z_=>binds_K X rfl (by k_is) rfl rfl rfl
 case hl=>decide
 case c1=>rfl
 case c2=>rfl
 case c3=>rfl
 case c4=>rfl
 case room=>exact Nat.lt_of_le_of_lt (Nat.le_add_right _ _) room.1
 intro c hd hu hr;have rm:AU c 139 1390:=.dn hd hu room;refine A7 hr 30 30 ?_;have ne:x≠dx:=λe=>by rw[e,hdx] at hx;(have hq:=Option.some.inj hx;contradiction)
 have nb:lb≠dx:=λe=>by rw[e,hdx] at hb;(have hq:=Option.some.inj hb;contradiction)
 refine AT hx hdx ?_ (rfl) Ca;refine Cc 30 hr ?_;refine AT (Ab hx ne) Ac ?_ (rfl) Ca;refine AT (Ab (Ab hx ne) ne) Ac ?_ (rfl) Ca;refine AT (Ab (Ab (Ab hx ne) ne) ne) Ac ?_ (rfl) Ca;refine BF (f:=167) (Ab (Ab (Ab (Ab hx ne) ne) ne) ne) Ac rfl ?_ (rfl);exact Ut (rm.less (by decide) (by decide)) (Ab (Ab (Ab (Ab hx ne) ne) ne) ne) Ac ne (Ab (Ab (Ab (Ab hb nb) nb) nb) nb) hlen λD J P kvs led' e2=>hk D J P kvs led' ((((G9.put.trans G9.put).trans G9.put).trans G9.put).trans e2)
theorem Uu(room:AU c 150 1500)(ha:led la=some (.lst (xs.map Al)))(hb:led lb=some (.lst (ys.map Al)))(hlen:ys.length≤1000)(hk:∀x dx D J P kvs led',Am led led'→led dx=none→Nj led' x dx la lb D J P .none .none .none kvs xs ys→K (.ref x) led'):A4 c ps (.ref 242) [.none,.ref la,.ref lb,.bool false] led K:=by
 refine HD (fI:=160) (λx dx hdx hx=>?_) (rfl) (rfl) (rfl);have ne:x≠dx:=λe=>by rw[e,Ac] at hx;contradiction
 have e2:Am led (put x (.ins 242 dx) (put dx (.att []) led)):=(Am.put hdx).trans (Am.put hx);refine Wd (c:=c.dn) ⟨?_,?_⟩ Ac (Ab Ac ne.symm) (e2 _ _ hb) hlen λD J P kvs led' h1 h2 h3 h4 h5 h6=>⟨rfl,?_⟩
 ·have:=room.1;refine(?_:c.dp+1+140<_);exact aN (za (za (za (zv 0) (zn 1)) (zn 140)) (zn 1)) (zv 1) [(0,1,za (za (zv 0) (zn 150)) (zn 1),zv 1)] rfl (Az _ _) Ae this
 ·have:=room.2;refine(?_:c.un+1+1400<_);exact aN (za (za (za (zv 0) (zn 1)) (zn 1400)) (zn 1)) (zv 1) [(0,1,za (za (zv 0) (zn 1500)) (zn 1),zv 1)] rfl (Az _ _) Ae this
 have h7:Am led led':=λa o h=>h1 a o (e2 a o h) λe=>by rw[e,hdx] at h;contradiction
 exact hk x dx D J P kvs led' h7 hdx ⟨h1 _ _ Ac ne,h2,h7 _ _ ha,h7 _ _ hb,h3,h4,h5,h6⟩
end
noncomputable def ED(x:Str):Str:=x++"!"
noncomputable def HL(x:Str):Str:=x++"?"
noncomputable def Fj(ch x:Str):Bool:=Txt.item x 0==ch
structure VL(st:AK)(lt:AI)(ch:Str)(RS:List (List Nat)):Prop where
 len:lt.1.length=4
 ok0:HP (λf=>(st.2 f).map (Bo f)) "" RS.flatten
 ok1:HP (λf=>(st.2 f).map (Bo f)) ch RS.flatten
 sz:RS.flatten.length≤1000
 md0:∀f,f<4→lt.1.getD f 0 ≠ -1→CS (λf=>(st.2 f).map (Bo f)) "" RS.flatten f=some (lt.2 f)
 md1:∀f,f<4→lt.1.getD f 0 ≠ -1→CS (λf=>(st.2 f).map (Bo f)) ch RS.flatten f=some ((lt.2 f).flatMap (Bg (Fj ch) ED HL))
 hd:∀f,f<4→∀x∈lt.2 f,∀y∈lt.2 f,Fj ch y=true→ED y≠x∧HL y≠x
 l60:∀f,f<4→(lt.2 f).length<60
 str:∀f,f<4→∀x∈lt.2 f,(0<x.length∧x.length≤100)∧kqdOk 8 (.str x)=true
theorem P5{R:Str→Bool}{d1 d2:Str→Str}{xs:List Str}:(xs.flatMap (Bg R d1 d2)).length≤2*xs.length:=by
 induction xs with
 |nil=>exact Nat.le_refl _
 |cons x xs ih=>
  refine Aa HB (Aa List.length_cons ?_);split<;>(first | exact YF ih | exact YE ih)
noncomputable abbrev cF:=Unit
noncomputable def lqW(pc0 ll lv d0 d1:Addr)(ch:Str)(_:cF):List Value:=[.ref pc0,Al ch,.ref ll,.ref lv,.ref d0,.ref d1]
theorem Va{P:Params}{st:AK}{lt:AI}{ch:Str}{RS:List (List Nat)}(H:VL st lt ch RS):Z2 P 12 3 (J3 st lt ch RS) (λz_ z_=>False):=by
 refine' Hw ?ho ?_
 case ho=>k_is
 rintro c ⟨hw,hr,bs,ho0,rm⟩ ps l ⟨pc0,ll,lv,rl,q2,rr,ro,ws,hps,b1,hro,hg⟩;refine AE.weak (Bb hps) ?_;clear hps ps;refine A7 hr 60 30 ?_;refine(?_:HS 30 60 c _ [_,_,_] _ _ _);refine' B3 30 hr ["old","new"] ?_ ?hw1
 case hw1=>exact Bq λz_=>rfl
 refine OI (rm.less (by decide) (by decide)) b1.rl b1.rr hro hg H.ok0 H.sz λd0 l1 kv0 M0=>?_;refine OI (rm.less (by decide) (by decide)) (M0.ex _ _ b1.rl) (λj hj=>M0.ex _ _ (b1.rr j hj)) (M0.ex _ _ hro) (hg.mono λz_ z_ hz5=>by refine An hz5 λT h1 h2=>?_;exact⟨T,h1,M0.ex _ _ h2⟩) H.ok1 H.sz λd1 l2 kv1 M1=>?_;refine⟨rfl,λt ht=>?_⟩;have b2:VP st lt (put t (.tup [.ref d0,.ref d1]) l2) pc0 ll lv rl q2 rr:=b1.mono λa o h=>Ad (M1.ex _ _ (M0.ex _ _ h)) ht;have x0:∀f,f<4→lt.1.getD f 0 ≠ -1→∃a,valueAt kv0 (Ah f)=some (.ref a)∧put t (.tup [.ref d0,.ref d1]) l2 a=some (.lst ((lt.2 f).map Al)):=λf hf hn=>by
  refine G3 (M0.yes f hf _ (H.md0 f hf hn)) λz_ a h1 h2=>?_;exact⟨a,h1,Ad (M1.ex _ _ h2) ht⟩
 have x1:∀f,f<4→lt.1.getD f 0 ≠ -1→∃a,valueAt kv1 (Ah f)=some (.ref a)∧put t (.tup [.ref d0,.ref d1]) l2 a=some (.lst (((lt.2 f).flatMap (Bg (Fj ch) ED HL)).map Al)):=λf hf hn=>by
  refine G3 (M1.yes f hf _ (H.md1 f hf hn)) λz_ a h1 h2=>?_;exact⟨a,h1,Ad h2 ht⟩
 have y0:put t (.tup [.ref d0,.ref d1]) l2 d0=some (.dct kv0):=Ad (M1.ex _ _ M0.hd) ht;have y1:put t (.tup [.ref d0,.ref d1]) l2 d1=some (.dct kv1):=Ad M1.hd ht;generalize put t (.tup [.ref d0,.ref d1]) l2=l3 at b2 x0 x1 y0 y1;clear M0 M1 ht b1 hg hro;refine Bn 30 ?_;refine CQ λrg hrg=>?_;have e4:Am l3 (put rg (.rng 0 4) l3):=Am.put hrg;have v4:put rg (.rng 0 4) l3 rg=some (.rng 0 4):=Ac;generalize put rg (.rng 0 4) l3=l4 at e4 v4;refine GS (σ:=cF) 60 30 ["places","letter","laid","level","old","new"] (lqW pc0 ll lv d0 d1 ch) (λz_ z_ l=>Am l4 l) hr v4 4 (.inl rfl) (by decide) () Am.rfl rfl ?t1 ?d1
 case d1=>
  intro _ l _;exact rfl
 case t1=>
  intro c1 lk hr1 f z _ l hf hz x5 Y M _ _ _ fin;rw[Int.zero_add] at hz;subst hz;have hb:∀b o,l3 b=some o→l b=some o:=λb o h=>x5 _ _ (e4 _ _ h);refine AG (x:=zV (lt.1.getD f 0)) (hb _ _ b2.lv) rfl (by refine Aa (List.getElem?_map) (Aa (List.getD_eq_getElem?_getD) (Aa (List.getElem?_eq_getElem (UO H.len hf)) ?_));rfl) ?_ (Cu hf);by_cases hc1:lt.1.getD f 0 = -1
  ·exact .f (by simpa using hc1) (fin _ _ ⟨(),x5,rfl⟩)
  refine .t (by simpa using hc1) ?_;refine An (x0 f hf hc1) λa0 ea0 la0=>?_;refine An (x1 f hf hc1) λa1 ea1 la1=>?_;refine AG (x:=Al (Ah f)) (hb _ _ b2.pc) rfl (BP hf) ?_ (Cu hf);refine CJ (hb _ _ y0) ea0 ?_;refine AG (x:=Al (Ah f)) (hb _ _ b2.pc) rfl (BP hf) ?_ (Cu hf);refine CJ (hb _ _ y1) ea1 ?_;have h60:=H.l60 f hf;have hy:((lt.2 f).flatMap (Bg (Fj ch) ED HL)).length≤1000:=Nat.le_trans P5 (aN (zm 2 (zv 0)) (zn 1000) [(0,2,za (zv 0) (zn 1),zn 60)] rfl (Av _) Ae h60);have rm1:=lk.room rm;refine Uu (rm1.less (by decide) (by decide)) (hb _ _ la0) (hb _ _ la1) hy λx dx D J P kvs l5 x6 fdx S=>?_;have hb6:∀b o,l3 b=some o→l5 b=some o:=λb o h=>x6 _ _ (hb _ _ h);refine AG (x:=Al (Ah f)) (hb6 _ _ b2.pc) rfl (BP hf) ?_ (Cu hf);refine CJ (hb6 _ _ y0) ea0 ?_;refine AG (x:=.ref (q2 f)) (hb6 _ _ b2.ll) rfl (Bl hf) ?_ (Cu hf);have ds:∀l',Jm 1 l' ((lt.2 f).map Al) ((lt.2 f).map Dat.str):=λl'=>by
   have:=Ha (n:=0) (l:=l') (ds:=(lt.2 f).map Dat.str) (by refine Aa List.all_map ?_;exact List.all_eq_true.mpr λz_ z_=>rfl);rw[List.map_map] at this;exact this
  have dk:∀d∈(lt.2 f).map Dat.str,kqdOk 8 d=true:=λd hd=>by
   refine An (List.mem_map.mp hd) λx hx ho2=>?_;subst ho2;exact(H.str f hf x hx).2
  have rm2:c1.un+64<cLine:=Nat.lt_of_le_of_lt (Nat.add_le_add_left (by decide) _) rm1.2;refine EY (r:=false) (hb6 _ _ la0) (hb6 _ _ (b2.q f hf)) (ds _) (ds _) dk dk rm2 (by simp) (.f rfl ?_);refine BF (f:=210) S.hx S.hd rfl ?_ (rfl);refine Wl (rm1.less (by decide) (by decide)) S (aN (zv 0) (zn 1000) [(0,1,za (zv 0) (zn 1),zn 60)] rfl (Av _) Ae h60) hy (λr hr=>YZ hr) (λbl h=>(H7 (Fj ch) rfl (H.hd f hf) h60 (bl':=[]) h).1) (λbl bl' h p q=>((H7 (Fj ch) rfl (H.hd f hf) h60 h).2 p q).1) λA l7 vs bl bl' e7 z_ hgm hp hs hA hD=>?_;rw[((H7 (Fj ch) rfl (H.hd f hf) h60 hgm).2 hp hs).2] at hD;have e57:Am l l7:=λb o h=>e7 _ _ (x6 _ _ h) λe=>by rw[e,fdx] at h;contradiction
  have hb7:∀b o,l3 b=some o→l7 b=some o:=λb o h=>e57 _ _ (hb _ _ h);refine AG (x:=.ref (q2 f)) (hb7 _ _ b2.ll) rfl (Bl hf) ?_ (Cu hf);refine U0 (rm1.less (by decide) (by decide)) (hb7 _ _ (b2.q f hf)) (Nat.le_trans (Nat.le_of_lt h60) (by decide)) (λx hx=>(H.str f hf x hx).1) λB l8 us x8 z_ hB hE=>?_;have rk:∀d∈((lt.2 f).foldl (Bw ch) ([],0,0)).1.map Gy,kqdOk 8 d=true:=λd hd=>by
   refine An (List.mem_map.mp hd) λr z_ ho2=>?_;subst ho2;exact KH r
  refine EY (r:=false) (x8 _ _ hA) hB (Bt x8 hD) hE rk rk rm2 (by simp) (.f rfl (.f rfl ?_));exact fin _ _ ⟨(),x5.trans (e57.trans x8),rfl⟩
section
set_option autoImplicit false
open PySem PySem.W
theorem EC{lev:List Int}{Q:List Bu}:(-1)∉A5 lev Q↔∀n,.inr n∈Q→lev.getD n 0 ≠ -1:=by
 unfold A5;rw[List.mem_filterMap];constructor
 ·intro h n hn e;exact h ⟨_,hn,AV e rfl⟩
 ·rintro h ⟨a,ha,e⟩
  cases a with
  |inl x=>contradiction
  |inr n=>exact h n ha (Option.some.inj e)
theorem Ja{l l':List Int}{Q:List Bu}(h:∀n,.inr n∈Q→l'.getD n 0=l.getD n 0):A5 l' Q=A5 l Q:=by
 unfold A5
 induction Q with
 |nil=>rfl
 |cons a r ih=>
  refine Aa List.filterMap_cons (Aa List.filterMap_cons (Aa (ih λn hn=>h n (.tail _ hn)) ?_))
  cases a with
  |inl x=>rfl
  |inr n=>
   dsimp only;exact Aa (h n (.head _)) rfl
theorem JZ{L L':Nat→List Str}{Q:List Bu}(h:∀n,.inr n∈Q→L' n=L n):Bc L' Q=Bc L Q:=by
 unfold Bc
 induction Q with
 |nil=>rfl
 |cons a r ih=>
  refine Aa List.flatMap_cons (Aa List.flatMap_cons (Aa (ih λn hn=>h n (.tail _ hn)) ?_))
  cases a with
  |inl x=>rfl
  |inr n=>
   dsimp only;exact Aa (h n (.head _)) rfl
theorem Cv{l:List Int}{f n:Nat}{x:Int}(hf:f<l.length):(l.set f x).getD n 0=if n=f then x else l.getD n 0:=by
 refine Aa (List.getD_eq_getElem?_getD) (Aa (List.getElem?_set) (Aa (List.getD_eq_getElem?_getD) ?_));by_cases e:n=f
 ·subst e;refine Aa (if_pos rfl) (Aa (if_pos hf) (Aa (if_pos rfl) ?_));rfl
 ·exact Aa (if_neg (Ne.symm e)) (Aa (if_neg e) rfl)
noncomputable def kS(P:Nat→List Bu)(f:Nat):Nat:=(P f).length-1
noncomputable def Jp(P:Nat→List Bu)(l:List Int)(f:Nat):Nat:=if l.getD f 0 = -1 then 0 else kS P f
noncomputable def D5(ks:List Nat):Nat:=ks.foldl (λB k=>max B (1+k*B)) 1
theorem FZ{ks:List Nat}{k:Nat}:D5 (ks++[k])=max (D5 ks) (1+k*D5 ks):=by unfold D5;refine Aa List.foldl_append ?_;rfl
theorem GX{ks:List Nat}:1≤D5 ks:=by
 have:∀(ks:List Nat) (B:Nat),1≤B→1≤ks.foldl (λB k=>max B (1+k*B)) B:=by
  intro ks
  induction ks with
  |nil=>exact λz_ h=>h
  |cons a r ih=>exact λB h=>ih _ (Nat.le_trans h (Nat.le_max_left ..))
 exact this ks 1 (Nat.le_refl 1)
theorem Po{L:Nat→List Str}{B:Nat}(hB:1≤B){x:Str}{Q:List Bu}(h:∀n,.inr n∈Q→(L n).length≤B):(Bc L (.inl x::Q)).length≤1+Q.length*B:=by
 refine(?_:([x]++Bc L Q).length≤_);refine Aa List.length_append (Aa List.length_singleton ?_);exact XI (Gb hB h)
structure LI(P:Nat→List Bu)(st:AI):Prop where
 len:st.1.length=4
 snd:∀f,f<4→st.1.getD f 0 ≠ -1→(-1)∉A5 st.1 (P f)∧st.1.getD f 0=B4 (A5 st.1 (P f))+1∧st.2 f=Bc st.2 (P f)
 emp:∀f,f<4→st.1.getD f 0 = -1→st.2 f=[]
 top:∀f,f<4→st.1.getD f 0<cnt st.1
 siz:∃ks,ks.length=cnt st.1∧ks.sum=Jp P st.1 0+Jp P st.1 1+Jp P st.1 2+Jp P st.1 3∧∀f,f<4→(st.2 f).length≤D5 ks
theorem Ug{l:List Int}{z:Int}(h0 : -1<z)(h:∀a∈l,a<z):B4 l<z:=by
 unfold B4;have:∀(l:List Int) (b:Int),b<z→(∀a∈l,a<z)→l.foldl max b<z:=by
  intro l
  induction l with
  |nil=>exact λz_ h z_=>h
  |cons a r ih=>exact λb h1 h2=>ih _ (by have:=h2 a (.head _);lia) λc hc=>h2 c (.tail _ hc)
 exact this l _ h0 h
theorem Rq{P:Nat→List Bu}(hP:C8 P)(h1st:∀f,f<4→∃x Q,P f = .inl x::Q){st:AI}{f:Nat}(hf:f<4)(h:LI P st):LI P (AC P st f):=by
 unfold AC;split
 ·rename_i hc;refine oA hc λc1 c2=>?_;have hcn:=HC (x:=B4 (A5 st.1 (P f))+1) h.len hf c1 DU;have hfl:f<st.1.length:=by refine Aa h.len ?_;exact hf
  have hb:=EC.mp c2;have old:∀{n},st.1.getD n 0 ≠ -1→n≠f:=λe q=>e (by refine Aa q ?_;exact c1);have hbl:∀{g},g<4→(∀n,.inr n∈P g→st.1.getD n 0 ≠ -1)→A5 (st.1.set f (B4 (A5 st.1 (P f))+1)) (P g)=A5 st.1 (P g):=λhg h2=>Ja λn hn=>by exact Aa (Cv hfl) (Aa (if_neg (old (h2 n hn))) rfl)
  have hflt:∀{g},(∀n,.inr n∈P g→st.1.getD n 0 ≠ -1)→∀X,Bc (upd st.2 f X) (P g)=Bc st.2 (P g):=λh2 X=>JZ λn hn=>Ai (old (h2 n hn));have hne:st.2 f++Bc st.2 (P f)=Bc st.2 (P f):=Aa (h.emp f hf c1) (Aa (List.nil_append ..) rfl);refine⟨by simp[h.len],λg hg hg1=>?_,λg hg hg1=>?_,λg hg=>?_,?_⟩
  ·dsimp only at hg1 ⊢;by_cases e:g=f
   ·subst e;refine Aa (hbl hg hb) (Aa (hflt hb ..) (Aa hne (Aa Ao (Aa (Cv hfl) (Aa (if_pos rfl) ?_)))));exact⟨c2,rfl,rfl⟩
   ·rw[Cv hfl,if_neg e] at hg1 ⊢;refine Cg (h.snd g hg hg1) λk1 k2 k3=>?_;have hb2:=EC.mp k1;refine Aa (hbl hg hb2) (Aa (hflt hb2 ..) (Aa (Ai e) ?_));exact⟨k1,k2,k3⟩
  ·dsimp only at hg1 ⊢;rw[Cv hfl] at hg1;by_cases e:g=f
   ·rw[if_pos e] at hg1;exact absurd hg1 DU
   ·rw[if_neg e] at hg1;refine Aa (Ai e) ?_;exact h.emp g hg hg1
  ·dsimp only;refine Aa (Cv hfl) (Aa hcn ?_);split
   ·have:=Ug (l:=A5 st.1 (P f)) (z:=(cnt st.1:Int)) (Int.natCast_nonneg _) λa ha=>by
     refine An (List.mem_filterMap.mp ha) λit h1 h2=>?_
     cases it with
     |inl x=>contradiction
     |inr n=>
      refine AV (Option.some.inj h2) ?_;exact h.top n (hP.ref f hf n h1)
    exact aZ (za (za (zv 8) (zn 1)) (zn 1)) (za (zv 0) (zn 1)) [(4,1,za (zv 8) (zn 1),zv 0)] rfl (Av _) (Av _) this
   ·exact aZ (za (zv 8) (zn 1)) (za (zv 0) (zn 1)) [(4,1,za (zv 8) (zn 1),zv 0)] rfl (Av _) (Av _) (h.top g hg)
  ·refine B7 h.siz λks k1 k2 k3=>?_;refine⟨ks++[kS P f],by refine Aa List.length_append (Aa hcn (Aa k1 ?_));rfl,?_,λg hg=>?_⟩
   ·refine Aa List.sum_append (Aa k2 (Aa List.sum_singleton ?_));dsimp only;have hu:∀g,g≠f→Jp P (st.1.set f (B4 (A5 st.1 (P f))+1)) g=Jp P st.1 g:=λg e=>by unfold Jp;exact Aa (Cv hfl) (Aa (if_neg e) rfl)
    have hu2:Jp P (st.1.set f (B4 (A5 st.1 (P f))+1)) f=kS P f:=by unfold Jp;exact Aa (Cv hfl) (Aa (if_pos rfl) (Aa (if_neg DU) rfl))
    have hu3:Jp P st.1 f=0:=by unfold Jp;exact Aa (if_pos c1) rfl
    exact(Wb (u:=Jp P (st.1.set f (B4 (A5 st.1 (P f))+1))) (v:=Jp P st.1) hf hu (hu2.trans (hu3▸(Nat.zero_add _).symm))).symm
   ·dsimp only;refine Aa FZ ?_;by_cases e:g=f
    ·subst e;refine Aa Ao (Aa hne ?_);refine ZN (h1st g hg) λx Q hQ=>?_;have:kS P g=Q.length:=by unfold kS;refine Aa hQ ?_;rfl
     refine Aa this (Aa hQ ?_);exact Nat.le_trans (Po GX λn hn=>k3 n (hP.ref g hg n (by refine Aa hQ ?_;exact .tail _ hn))) (Nat.le_max_right ..)
    ·refine Aa (Ai e) ?_;exact Nat.le_trans (k3 g hg) (Nat.le_max_left ..)
 ·exact h
theorem OU{P:Nat→List Bu}(hP:C8 P)(h1st:∀f,f<4→∃x Q,P f = .inl x::Q):∀(fs:List Nat),(∀f∈fs,f<4)→∀st,LI P st→LI P (fs.foldl (AC P) st)∧((fs.foldl (AC P) st=st∧∀f∈fs,AC P st f=st)∨cnt st.1<cnt (fs.foldl (AC P) st).1):=by
 intro fs
 induction fs with
 |nil=>exact λz_ st h=>⟨h,.inl ⟨rfl,λz_ h=>by contradiction⟩⟩
 |cons f fs ih=>
  intro hl st h;have hf:=hl f (.head _);refine oA (ih (λg hg=>hl g (.tail _ hg)) _ (Rq hP h1st hf h)) λh1 h2=>?_;refine⟨h1,?_⟩;by_cases hc:st.1.getD f 0 = -1∧(-1)∉A5 st.1 (P f)
  ·have hcn:=HC (x:=B4 (A5 st.1 (P f))+1) h.len hf hc.1 DU;rw[← (Aa (H1 hc.1 hc.2) rfl:(AC P st f).1=st.1.set f (B4 (A5 st.1 (P f))+1))] at hcn;right;refine Aa List.foldl_cons ?_;rcases h2 with h2 | h2
   ·refine Aa h2.1 ?_;exact aN (za (zv 0) (zn 1)) (zv 1) [(2,1,zv 1,za (zv 0) (zn 1))] rfl (Az _ _) Ae hcn
   ·exact aN (za (zv 0) (zn 1)) (zv 1) [(2,1,zv 2,za (zv 0) (zn 1)),(0,1,za (zv 2) (zn 1),zv 1)] rfl (AH _ _ _) Ae hcn h2
  ·have e:=EV hc;rw[e] at h2;refine Aa List.foldl_cons (Aa e ?_);exact h2.imp (λhX=>oA hX λa b=>⟨a,λg hg=>(List.mem_cons.mp hg).elim (λq=>by refine Aa q ?_;exact e) (b g)⟩) id
theorem OT{P:Nat→List Bu}:LI P AZ:=by
 have h0:∀f,f<4→AZ.1.getD f 0 = -1:=lt4 rfl rfl rfl rfl;refine⟨rfl,λf hf h=>absurd (h0 f hf) h,λz_ z_ z_=>rfl,λf hf=>?_,[],rfl,?_,λf z_=>Nat.zero_le _⟩
 ·refine Aa (h0 f hf) ?_;decide
 ·unfold Jp;refine Aa (h0 0 (by decide)) (Aa (h0 1 (by decide)) (Aa (h0 2 (by decide)) (Aa (h0 3 (by decide)) ?_)));rfl
theorem Sd{l:List Int}(h:l.length=4)(h2:4≤cnt l):∀f,f<4→l.getD f 0 ≠ -1:=by
 unfold cnt at h2;intro f hf e;have hfl:f<l.length:=UO h hf;have:=(List.length_filter_eq_length_iff.mp (Nat.le_antisymm (List.length_filter_le (· != -1) l) (aN (zv 0) (zv 1) [(1,1,zv 0,zn 4),(0,1,zn 4,zv 1)] rfl (Az _ _) Ae h h2))) _ (List.getElem_mem hfl);rw[List.getD_eq_getElem?_getD,List.getElem?_eq_getElem hfl] at e;have e:l[f] = -1:=e;rw[e] at this;exact absurd this (by decide)
theorem Pa{P:Nat→List Bu}(hP:C8 P)(h1st:∀f,f<4→∃x Q,P f = .inl x::Q):LI P (BG P)∧∀f,f<4→(∀n,.inr n∈P f→(BG P).1.getD n 0 ≠ -1)→(BG P).1.getD f 0 ≠ -1:=by
 have H:∀n,LI P ((List.range n).foldl (B8 P) AZ)∧((∀f,f<4→AC P ((List.range n).foldl (B8 P) AZ) f=(List.range n).foldl (B8 P) AZ)∨n≤cnt ((List.range n).foldl (B8 P) AZ).1):=by
  intro n
  induction n with
  |zero=>exact⟨OT,.inr (Nat.zero_le _)⟩
  |succ n ih=>
   refine oA ih λi1 i2=>?_;refine Aa DV ?_;generalize(List.range n).foldl (B8 P) AZ=st at i1 i2;have h:=OU hP h1st (List.range 4) (λf hf=>List.mem_range.mp hf) st i1;refine⟨h.1,?_⟩;rcases h.2 with ⟨h1,h2⟩ | h1
   ·left;refine(?_:∀f,f<4→AC P ((List.range 4).foldl (AC P) st) f=(List.range 4).foldl (AC P) st);refine Aa h1 ?_;exact λf hf=>h2 f (List.mem_range.mpr hf)
   ·rcases i2 with i2 | i2
    ·have e:(List.range 4).foldl (AC P) st=st:=by
      have k:∀fs:List Nat,(∀f∈fs,f<4)→fs.foldl (AC P) st=st:=by
       intro fs
       induction fs with
       |nil=>exact λz_=>rfl
       |cons a r ih=>exact λhl=>by refine Aa List.foldl_cons (Aa (i2 a (hl a (.head _))) ?_);exact ih λf hf=>hl f (.tail _ hf)
      exact k _ λf hf=>List.mem_range.mp hf
     left;refine(?_:∀f,f<4→AC P ((List.range 4).foldl (AC P) st) f=(List.range 4).foldl (AC P) st);refine Aa e ?_;exact i2
    ·right;refine(?_:n+1≤cnt ((List.range 4).foldl (AC P) st).1);exact Nat.lt_of_le_of_lt (by assumption) (by assumption)
 refine oA (H 4) λh1 h2=>?_;refine⟨h1,λf hf hb=>?_⟩;refine(?_:((List.range 4).foldl (B8 P) AZ).1.getD f 0 ≠ -1);have hb:∀n,.inr n∈P f→((List.range 4).foldl (B8 P) AZ).1.getD n 0 ≠ -1:=hb;generalize(List.range 4).foldl (B8 P) AZ=st at h1 h2 hb ⊢;rcases h2 with h2 | h2
 ·intro e;have:=h2 f hf;rw[H1 e (EC.mpr hb)] at this;have h3:=congrArg (λz:AI=>z.1.getD f 0) this;dsimp only at h3;rw[Cv (by refine Aa h1.len ?_;exact hf),if_pos rfl,e] at h3;exact DU h3
 ·exact Sd h1.len h2 f hf
theorem YX:∀a:Fin 10,∀b:Fin 10,∀c:Fin 10,∀d:Fin 10,a.val+b.val+c.val+d.val≤9→D5 [a.val,b.val,c.val,d.val]<60:=by decide +kernel
theorem RH{ks:List Nat}(h:ks.length≤4)(h2:ks.sum≤9):D5 ks<60:=by
 have k:∀a b c d:Nat,a+b+c+d≤9→D5 [a,b,c,d]<60:=λa b c d h=>YX ⟨a,aN (za (zv 0) (zn 1)) (zn 10) [(0,1,za (za (za (zv 0) (zv 1)) (zv 2)) (zv 3),zn 9)] rfl (Bh _ _ _ _) Ae h⟩ ⟨b,aN (za (zv 0) (zn 1)) (zn 10) [(0,1,za (za (za (zv 1) (zv 0)) (zv 2)) (zv 3),zn 9)] rfl (Bh _ _ _ _) Ae h⟩ ⟨c,aN (za (zv 0) (zn 1)) (zn 10) [(0,1,za (za (za (zv 1) (zv 2)) (zv 0)) (zv 3),zn 9)] rfl (Bh _ _ _ _) Ae h⟩ ⟨d,aN (za (zv 0) (zn 1)) (zn 10) [(0,1,za (za (za (zv 1) (zv 2)) (zv 3)) (zv 0),zn 9)] rfl (Bh _ _ _ _) Ae h⟩ h;have z:∀ks:List Nat,D5 (ks++[0])=D5 ks:=λks=>by
  refine Aa FZ (Aa (Nat.zero_mul ..) ?_);exact Nat.max_eq_left GX
 rcases ks with _ | ⟨a,_ | ⟨b,_ | ⟨c,_ | ⟨d,_ | ⟨e,r⟩⟩⟩⟩⟩
 ·decide
 ·
  refine AV (z ..) (AV (z ..) (AV (z ..) ?_));exact k a 0 0 0 (by assumption)
 ·
  refine AV (z ..) (AV (z ..) ?_);exact k a b 0 0 (by assumption)
 ·
  refine AV (z ..) ?_;exact k a b c 0 (aN (za (za (za (zv 0) (zv 1)) (zv 2)) (zn 0)) (zn 9) [(0,1,za (zv 0) (za (zv 1) (za (zv 2) (zn 0))),zn 9)] rfl (AH _ _ _) Ae h2)
 ·
  exact k a b c d (aN (za (za (za (zv 0) (zv 1)) (zv 2)) (zv 3)) (zn 9) [(0,1,za (zv 0) (za (zv 1) (za (zv 2) (za (zv 3) (zn 0)))),zn 9)] rfl (Bh _ _ _ _) Ae h2)
 ·exact absurd h (Nat.not_le.mpr (Nat.le_add_left 5 r.length))
theorem Hh{P:Nat→List Bu}{l:List Int}{f:Nat}:Jp P l f≤kS P f:=by
 unfold Jp;split
 ·exact Nat.zero_le _
 ·exact Nat.le_refl _
theorem LI.size{P:Nat→List Bu}{st:AI}(h:LI P st)(hs:kS P 0+kS P 1+kS P 2+kS P 3≤9){f:Nat}(hf:f<4):(st.2 f).length<60:=by
 refine B7 h.siz λks k1 k2 k3=>?_;refine Nat.lt_of_le_of_lt (k3 f hf) (RH (by refine Aa k1 ?_;exact Kj h.len) ?_);have:=Hh (P:=P) (l:=st.1) (f:=0);have:=Hh (P:=P) (l:=st.1) (f:=1);have:=Hh (P:=P) (l:=st.1) (f:=2);have:=Hh (P:=P) (l:=st.1) (f:=3);lia
end
noncomputable def Ji(f n:Nat)(it:Bu)(y:Str):Prop:=match it with
 |.inl s=>s=CP f n∧y=s
 |.inr g=>g<4∧∃k,k<3∧y=Bz f g k
structure CX(st:AK)(n:Nat):Prop where
 len:∀f,f<4→(st.2 f).length=(st.1 f).length
 row:∀f,f<4→∀i it,(st.1 f)[i]?=some it→∃y,(st.2 f)[i]?=some y∧Ji f i it y
 fst:∀f,f<4→∃x Q,st.1 f = .inl x::Q
 sum:(st.1 0).length+(st.1 1).length+(st.1 2).length+(st.1 3).length=4+n
theorem CX.put{st:AK}{n f:Nat}{it:Bu}{y:Str}(D:CX st n)(hf:f<4)(h:Ji f (st.1 f).length it y):CX (Dn st f it y) (n+1):=by
 unfold Dn;have hne:∀g,g≠f→upd st.1 f (st.1 f++[it]) g=st.1 g∧upd st.2 f (st.2 f++[y]) g=st.2 g:=λg e=>⟨Ai e,Ai e⟩
 refine⟨λg hg=>?_,λg hg i jt hi=>?_,λg hg=>?_,?_⟩
 ·dsimp only;by_cases e:g=f
  ·subst e;refine Aa Ao (Aa Ao (List.length_append.trans (Aa List.length_append (Aa (D.len g hg) ?_))));rfl
  ·refine Aa ((hne g e).1) (Aa ((hne g e).2) ?_);exact D.len g hg
 ·dsimp only at hi ⊢;by_cases e:g=f
  ·subst e;rw[Ao] at hi ⊢;by_cases hl:i<(st.1 g).length
   ·replace hi:=(List.getElem?_append_left hl).symm.trans hi;refine Aa (List.getElem?_append_left (by rw[D.len g hg];exact hl)) ?_;exact D.row g hg i jt hi
   ·replace hi:=(List.getElem?_append_right (by exact aN (zv 0) (zv 1) [(3,1,za (zv 1) (zn 1),zv 0)] rfl (Az _ _) Ae hl)).symm.trans hi;have e0:i-(st.1 g).length=0:=by
     cases hk:i-(st.1 g).length with
     |zero=>rfl
     |succ m=>rw[hk] at hi;contradiction
    rw[e0] at hi;have hi:it=jt:=Option.some.inj hi;have e1:i=(st.1 g).length:=XG hl e0;refine Aa (List.getElem?_append_right (by rw[D.len g hg];exact aN (zv 0) (zv 1) [(2,1,zv 1,zv 0)] rfl (Az _ _) Ae e1)) (Aa (D.len g hg) (Aa e0 ?_));subst hi;refine Aa e1 ?_;exact⟨y,rfl,h⟩
  ·rw[(hne g e).1] at hi;refine Aa ((hne g e).2) ?_;exact D.row g hg i jt hi
 ·dsimp only;refine ZN (D.fst g hg) λx Q h1=>?_;by_cases e:g=f
  ·subst e;refine Aa Ao (Aa h1 ?_);exact⟨x,Q++[it],rfl⟩
  ·refine Aa ((hne g e).1) ?_;exact⟨x,Q,h1⟩
 ·dsimp only;have hs:=D.sum;have hl:(upd st.1 f (st.1 f++[it]) f).length=(st.1 f).length+1:=by refine Aa Ao (List.length_append.trans ?_);rfl
  exact(Wb (u:=λg=>(upd st.1 f (st.1 f++[it]) g).length) (v:=λg=>(st.1 g).length) hf (λg e=>congrArg List.length (hne g e).1) hl).trans (congrArg (· + 1) hs)
theorem CX.step{st:AK}{n:Nat}(D:CX st n)(x:Int):CX (B9 st x) (n+1):=by
 have hr:∀a b:Int,0<b→(Ij a b:Int)<b:=λa b hb=>by
  refine oE (FD a b hb) λf hf=>?_;refine Aa hf.eq ?_;exact hf.2
 have h4:=hr x 4 (by decide);unfold B9;split
 ·rename_i hc;exact D.put (UT h4) ⟨hc.1,_,UR (hr (x.fdiv 100) 3 (by decide)),rfl⟩
 ·exact D.put (UT h4) ⟨rfl,rfl⟩
theorem QP : "a0"=CP 0 0∧"b0"=CP 1 0∧"c0"=CP 2 0∧"d0"=CP 3 0:=by decide +kernel
theorem Kb:CX Cr 0:=by
 have key:∀(f:Nat) (x y:Str),x=CP f 0→y=x→∀(i:Nat) (it:Bu),[Sum.inl x][i]?=some it→∃z,[y][i]?=some z∧Ji f i it z:=λf x y h1 h2 i it hi=>by
  cases i with
  |zero=>exact⟨y,rfl,Option.some.inj hi▸⟨h1,h2⟩⟩
  |succ i=>exact(Option.some_ne_none _ (hi.symm.trans (rfl:_=none))).elim
 exact⟨lt4 rfl rfl rfl rfl,lt4 (key 0 _ _ QP.1 rfl) (key 1 _ _ QP.2.1 rfl) (key 2 _ _ QP.2.2.1 rfl) (key 3 _ _ QP.2.2.2 rfl),lt4 ⟨_,_,rfl⟩ ⟨_,_,rfl⟩ ⟨_,_,rfl⟩ ⟨_,_,rfl⟩,rfl⟩
theorem RT(ns:List Int):CX (E5 ns) ns.length:=by
 have:∀(ns:List Int) (st:AK) (n:Nat),CX st n→CX (ns.foldl B9 st) (n+ns.length):=by
  intro ns
  induction ns with
  |nil=>exact λz_ z_ h=>h
  |cons a r ih=>
   intro st n h;refine Aa List.length_cons (Aa (show n+(r.length+1)=n+1+r.length by exact Tg) ?_);exact(ih _ _ (h.step a))
 have h:=this ns _ _ Kb;rw[Nat.zero_add] at h;exact h
structure TM(x:Str):Prop where
 lay:Ff x=false
 abs:DS x=false
 len:x.length=2
theorem ZM:((List.range 4).all λf=>(List.range 10).all λn=>!Ff (CP f n)&&(!DS (CP f n)&&decide ((CP f n).length=2)))=true:=by decide +kernel
theorem Oi(hf:f<4)(hn:n<10):TM (CP f n):=by
 have h:=List.all_eq_true.mp (List.all_eq_true.mp ZM f (List.mem_range.mpr hf)) n (List.mem_range.mpr hn);simp only[Bool.and_eq_true,Bool.not_eq_true',decide_eq_true_eq] at h;exact⟨h.1,h.2.1,h.2.2⟩
theorem aQ:((List.range 4).all λf=>(List.range 4).all λg=>(List.range 3).all λk=>Ff (Bz f g k)&&(decide (0<(Bz f g k).length)&&decide ((Bz f g k).length≤100)))=true:=by decide +kernel
theorem UZ(hf:f<4)(hg:g<4)(hk:k<3):Ff (Bz f g k)=true∧0<(Bz f g k).length∧(Bz f g k).length≤100:=by
 have h:=List.all_eq_true.mp (List.all_eq_true.mp (List.all_eq_true.mp aQ f (List.mem_range.mpr hf)) g (List.mem_range.mpr hg)) k (List.mem_range.mpr hk);simp only[Bool.and_eq_true,decide_eq_true_eq] at h;exact⟨h.1,h.2⟩
theorem DO(hg:g<4):DS (Ah g)=true∧0<(Ah g).length∧(Ah g).length≤100:=M7 hg (by decide +kernel) (by decide +kernel) (by decide +kernel) (by decide +kernel)
noncomputable def Vn:Bu→Str
 |.inl x=>x
 |.inr g=>Ah g
noncomputable def Mh(Q:List Bu):List Nat:=Q.filterMap fun
 |.inl _=>none
 |.inr g=>some g
noncomputable def Qm:Bu→Prop
 |.inl x=>TM x∧∃f n,f<4∧n<10∧x=CP f n
 |.inr g=>g<4
structure CV(st:AK):Prop where
 P:C8 st.1
 fst:∀f,f<4→∃x Q,st.1 f = .inl x::Q
 it:∀f,f<4→∀it∈st.1 f,Qm it
 read:∀f,f<4→(st.2 f).map (Bo f)=(st.1 f).map Vn
 rows:∀f,f<4→∀x∈st.2 f,0<x.length∧x.length≤100∧ZI f x
 ks:kS st.1 0+kS st.1 1+kS st.1 2+kS st.1 3≤9
theorem Pq(h:ns.length≤9):CV (E5 ns):=by
 have D:=RT ns;generalize E5 ns=st at D;have hl:∀f,f<4→1≤(st.1 f).length:=λf hf=>by
  refine ZN (D.fst f hf) λx Q e=>?_;refine Aa e (Aa List.length_cons ?_);exact aN (zn 1) (za (zv 0) (zn 1)) [] rfl (Av _) Ae
 have hs:=D.sum;have h0:=hl 0 (by decide);have h1:=hl 1 (by decide);have h2:=hl 2 (by decide);have h3:=hl 3 (by decide);have hlen:∀f,f<4→(st.1 f).length≤10:=λf hf=>by
  rcases(by lia:f=0∨f=1∨f=2∨f=3) with rfl | rfl | rfl | rfl<;>lia
 have hrow:∀f,f<4→∀i y,(st.2 f)[i]?=some y→∃it,(st.1 f)[i]?=some it∧Ji f i it y∧i<10:=λf hf i y hy=>by
  have hi:=(List.getElem?_eq_some_iff.mp hy).1;rw[D.len f hf] at hi;refine An (D.row f hf i _ (List.getElem?_eq_getElem hi)) λy' e1 e2=>?_;replace e1:=hy.symm.trans e1;obtain rfl:=Option.some.inj e1;exact⟨_,List.getElem?_eq_getElem hi,e2,Nat.lt_of_lt_of_le hi (hlen f hf)⟩
 have hit:∀f,f<4→∀it∈st.1 f,Qm it:=λf hf it hm=>by
  refine oE (List.mem_iff_getElem?.mp hm) λi hi=>?_;have hil:=(List.getElem?_eq_some_iff.mp hi).1;refine An (D.row f hf i it hi) λy z_ e2=>?_
  cases it with
  |inl x=>
   have hn:=Nat.lt_of_lt_of_le hil (hlen f hf);exact⟨by refine Aa e2.1 ?_;exact Oi hf hn,f,i,hf,hn,e2.1⟩
  |inr g=>exact e2.1
 have hrd:∀{f i it y},f<4→i<10→Ji f i it y→Bo f y=Vn it∧0<y.length∧y.length≤100∧ZI f y:=λ{f i it y} hf hi h=>by
  cases it with
  |inl x=>
   refine oA h λho0 ho1=>?_;subst ho0;subst ho1;have o:=Oi hf hi;refine⟨?_,by refine Aa o.len ?_;decide,by refine Aa o.len ?_;decide,λe=>?_⟩
   ·unfold Bo;refine(if_neg (by rw[o.lay];decide)).trans ?_;rfl
   ·replace e:=o.lay.symm.trans e;contradiction
  |inr g=>
   refine G3 h λhg k hk ho3=>?_;subst ho3;refine Cg (UZ hf hg hk) λl1 l2 l3=>?_;refine⟨?_,l2,l3,λz_=>⟨g,k,hg,hk,rfl⟩⟩;unfold Bo;refine(if_pos l1).trans ?_;exact(Ic hf hg hk).2.2.2.2.2.1
 refine⟨⟨hlen,λf hf n hn=>hit f hf _ hn⟩,D.fst,hit,λf hf=>?_,λf hf x hx=>?_,?_⟩
 ·refine List.ext_getElem? λi=>?_;refine(List.getElem?_map).trans (Aa (List.getElem?_map) ?_)
  cases hy:(st.2 f)[i]? with
  |none=>
   have:(st.1 f).length≤i:=by refine AV (D.len f hf) ?_;exact List.getElem?_eq_none_iff.mp hy
   refine Aa (List.getElem?_eq_none this) ?_;rfl
  |some y=>
   refine B7 (hrow f hf i y hy) λit e1 e2 e3=>?_;refine Aa e1 ?_;refine(?_:some _=some _);exact Aa ((hrd hf e3 e2).1) rfl
 ·refine oE (List.mem_iff_getElem?.mp hx) λi hi=>?_;refine B7 (hrow f hf i x hi) λit e1 e2 e3=>?_;exact(hrd hf e3 e2).2
 ·unfold kS;lia
structure GB(G:Gr):Prop where
 nd:G.nodes.Nodup
 lt:∀k∈G.nodes,k<4
 out:∀k,k∉G.nodes→G.np k=0∧G.succ k=[]
theorem Nu{α:Type}{f:Nat→α}{k:Nat}{v:α}(h:f k=v):upd f k v=f:=by
 funext x
 by_cases e:x=k
 ·subst e;rw[Ao,h]
 ·exact Ai e
theorem HU{G:Gr}(h:GB G){k:Nat}(hk:k<4):GB (G.touch k)∧(G.touch k).np=G.np∧(G.touch k).succ=G.succ∧k∈(G.touch k).nodes∧∀x∈G.nodes,x∈(G.touch k).nodes:=by
 unfold Gr.touch;split
 ·rename_i hm;exact⟨h,rfl,rfl,hm,λz_ h=>h⟩
 ·rename_i hm;obtain⟨o1,o2⟩:=h.out k hm;rw[Nu o1,Nu o2];refine⟨⟨?_,λx hx=>?_,λx hx=>h.out x λe=>hx (List.mem_append_left _ e)⟩,rfl,rfl,List.mem_append_right _ (.head _),λx hx=>List.mem_append_left _ hx⟩
  ·rw[List.nodup_append];exact⟨h.nd,(by simp),λa ha b hb e=>hm (by rw[List.mem_singleton.mp hb] at e;exact e▸ha)⟩
  ·rcases List.mem_append.mp hx with hx | hx
   ·exact h.lt x hx
   ·rw[List.mem_singleton.mp hx];exact hk
theorem Jf{f:Nat}:∀(ps:List Nat) {G:Gr},GB G→(∀p∈ps,p<4)→GB (ps.foldl (B2 f) G)∧(ps.foldl (B2 f) G).np=G.np∧(∀x∈G.nodes,x∈(ps.foldl (B2 f) G).nodes)∧(∀g s,((ps.foldl (B2 f) G).succ g).count s=(G.succ g).count s+if s=f then ps.count g else 0)∧∀g,((ps.foldl (B2 f) G).succ g).length≤(G.succ g).length+ps.length:=by
 intro ps
 induction ps with
 |nil=>
  intro G h _;exact⟨h,rfl,λz_ h=>h,λg s=>by simp,λg=>Nat.le_refl _⟩
 |cons p ps ih=>
  intro G h hp;refine GF (HU h (hp p (.head _))) λt1 t2 t3 t4 t5=>?_;have hB:GB (B2 f G p):=⟨t1.nd,t1.lt,λk hk=>by
   refine oA (t1.out k hk) λo1 o2=>?_;refine⟨o1,?_⟩;refine(?_:upd (G.touch p).succ p _ k=_);rw[Ai λe=>hk (by rw[e];exact t4)];exact o2⟩
  have hs:∀g,(B2 f G p).succ g=if g=p then G.succ p++[f] else G.succ g:=λg=>by
   refine(?_:upd (G.touch p).succ p _ g=_);rw[t3];by_cases e:g=p
   ·subst e;rw[Ao,if_pos rfl]
   ·rw[Ai e,if_neg e]
  obtain⟨i1,i2,i3,i4,i5⟩:=ih hB λq hq=>hp q (.tail _ hq);refine⟨i1,i2.trans t2,λx hx=>i3 x (t5 x hx),λg s=>?_,λg=>?_⟩
  ·rw[List.foldl_cons,i4,hs];by_cases e:g=p
   ·subst e;rw[if_pos rfl,List.count_append];by_cases e2:s=f
    ·subst e2;simp;exact Nat.add_right_comm _ _ _
    ·rw[if_neg e2,if_neg e2,List.count_singleton,if_neg (by simpa using Ne.symm e2)]
   ·rw[if_neg e,List.count_cons_of_ne (Ne.symm e)]
  ·have:=i5 g;rw[hs] at this;rw[List.foldl_cons,List.length_cons];split at this
   ·rename_i e;subst e;rw[List.length_append,List.length_singleton] at this;exact aN (zv 0) (za (zv 1) (za (zv 2) (zn 1))) [(0,1,zv 0,za (za (zv 1) (zn 1)) (zv 2))] rfl (AH _ _ _) Ae this
   ·exact Nat.le_succ_of_le (by assumption)
structure GI(pl:Nat→List Nat)(G:Gr)(i:Nat):Prop where
 b:GB G
 has:∀f,f<i→f∈G.nodes
 np:∀f,G.np f=if f<i then ((pl f).length:Int) else 0
 sc:∀g s,(G.succ g).count s=if s<i then (pl s).count g else 0
 sl:∀g,(G.succ g).length≤100*i
theorem Ss{pl:Nat→List Nat}(hp:∀f,f<4→(pl f).length≤100∧∀p∈pl f,p<4):∀i,i≤4→GI pl (DB pl i) i:=by
 intro i
 induction i with
 |zero=>exact λz_=>⟨⟨List.nodup_nil,(λz_ h=>by contradiction),λz_ z_=>⟨rfl,rfl⟩⟩,(λf h=>absurd h (Nat.not_lt_zero f)),λf=>rfl,λg s=>rfl,λg=>Nat.le_refl _⟩
 |succ i ih=>
  intro hi;have I:=ih (Nat.le_of_lt (by assumption));rw[Gn];generalize DB pl i=G at I;refine oA (hp i (by assumption)) λp1 p2=>?_;refine GF (HU I.b (by assumption:i<4)) λt1 t2 t3 t4 t5=>?_;have hB:GB ((G.touch i).setNp i ((G.touch i).np i+(pl i).length)):=⟨t1.nd,t1.lt,λk hk=>by
   refine oA (t1.out k hk) λo1 o2=>?_;refine⟨?_,o2⟩;show upd _ i _ k=0;rw[Ai λe=>hk (by rw[e];exact t4)];exact o1⟩
  refine GF (Jf (f:=i) (pl i) hB p2) λa1 a2 a3 a4 a5=>?_;refine⟨a1,λf hf=>?_,λf=>?_,λg s=>?_,λg=>?_⟩
  ·refine a3 f ?_;refine(?_:f∈(G.touch i).nodes);by_cases e:f=i
   ·rw[e];exact t4
   ·exact t5 f (I.has f (Wu hf e))
  ·refine(?_:((pl i).foldl (B2 i) _).np f=_);rw[a2];refine(?_:upd _ i _ f=_);by_cases e:f=i
   ·subst e;rw[Ao,t2,I.np,if_neg (Nat.lt_irrefl _),if_pos (Nat.lt_succ_self _),Int.zero_add]
   ·rw[Ai e,t2,I.np];by_cases e2:f<i
    ·rw[if_pos e2,if_pos (by exact Nat.le_succ_of_le (by assumption))]
    ·rw[if_neg e2,if_neg (Tf e e2)]
  ·refine(?_:(((pl i).foldl (B2 i) _).succ g).count s=_);rw[a4];refine(?_:((G.touch i).succ g).count s+_=_);rw[t3,I.sc];by_cases e:s=i
   ·subst e;rw[if_neg (Nat.lt_irrefl _),if_pos rfl,if_pos (Nat.lt_succ_self _),Nat.zero_add]
   ·rw[if_neg e,Nat.add_zero];by_cases e2:s<i
    ·rw[if_pos e2,if_pos (by exact Nat.le_succ_of_le (by assumption))]
    ·rw[if_neg e2,if_neg (Tf e e2)]
  ·refine Nat.le_trans (a5 g) ?_;refine(?_:((G.touch i).succ g).length+_≤_);rw[t3];exact aN (za (zv 0) (zv 1)) (zm 100 (za (zv 2) (zn 1))) [(0,1,zv 1,zn 100),(0,1,zv 0,zm 100 (zv 2))] rfl (AH _ _ _) Ae p1 (I.sl g)
structure LV(pl:Nat→List Nat)(lev:Nat→Int):Prop where
 lt:∀f,f<4→∀p∈pl f,p<4
 fin:∀f,f<4→((∀n∈pl f,lev n ≠ -1)→lev f ≠ -1)
 val:∀f,f<4→lev f ≠ -1→(∀n∈pl f,lev n ≠ -1)∧lev f=B4 ((pl f).map lev)+1
 l4:∀f,f<4→lev f<4
noncomputable def cE(pl:Nat→List Nat)(D:Nat→Bool)(f:Nat):Nat:=(pl f).countP λx=>!D x
theorem DN{pl:Nat→List Nat}{D:Nat→Bool}{a f:Nat}(h:D a=false):cE pl D f=cE pl (λx=>D x||x==a) f+(pl f).count a:=by
 unfold cE;generalize pl f=l
 induction l with
 |nil=>rfl
 |cons x r ih=>
  rw[List.countP_cons,List.countP_cons,List.count_cons,ih];by_cases e:x=a
  ·subst e;simp[h];exact Nat.add_assoc _ _ _
  ·simp[(by simpa using e:(x==a)=false)];exact Nat.add_right_comm _ _ _
theorem HK{pl:Nat→List Nat}{D:Nat→Bool}{f:Nat}:cE pl D f=0↔∀x∈pl f,D x=true:=by
 unfold cE;rw[List.countP_eq_zero];simp
theorem PT{pl:Nat→List Nat}{D D':Nat→Bool}{f:Nat}(h:∀x∈pl f,D x=D' x):cE pl D f=cE pl D' f:=by
 unfold cE;exact List.countP_congr λx hx=>by rw[h x hx]
theorem NS:∀(ss:List Nat) (st:CO),(∀s,(ss.foldl B1 st).1.np s=st.1.np s-ss.count s)∧∃new,(ss.foldl B1 st).2=st.2++new∧((∀s∈ss,(ss.count s:Int)≤st.1.np s)→new.Nodup∧∀s,s∈new↔s∈ss∧st.1.np s=ss.count s):=by
 intro ss
 induction ss with
 |nil=>
  intro st;exact⟨λs=>by simp,[],by simp,λz_=>⟨List.nodup_nil,λs=>by simp⟩⟩
 |cons a ss ih=>
  intro st;refine G3 (ih (B1 st a)) λi1 new i2 i3=>?_;have hnp:∀s,(B1 st a).1.np s=st.1.np s-if s=a then 1 else 0:=λs=>by
   refine(?_:upd _ a _ s=_);by_cases e:s=a
   ·subst e;rw[Ao,if_pos rfl]
   ·rw[Ai e,if_neg e];exact Int.le_antisymm (aZ (zv 8) (zd (zv 8) (zn 0)) [] rfl (Av 0) (Av _)) (aZ (zd (zv 8) (zn 0)) (zv 8) [] rfl (Av 0) (Av _))
  refine⟨λs=>?_,?_⟩
  ·rw[List.foldl_cons,i1,hnp,List.count_cons];by_cases e:s=a
   ·subst e;simp;exact Int.le_antisymm (aZ (zd (zd (zv 8) (zn 1)) (zv 0)) (zd (zv 8) (za (zv 0) (zn 1))) [] rfl (Av _) (Av _)) (aZ (zd (zv 8) (za (zv 0) (zn 1))) (zd (zd (zv 8) (zn 1)) (zv 0)) [] rfl (Av _) (Av _))
   ·simp[e,(by simpa using Ne.symm e:(a==s)=false)]
  ·have e2:(B1 st a).2=st.2++if st.1.np a-1=0 then [a] else []:=by
    show(if _ then _ else _)=_;split
    ·rfl
    ·simp
   refine⟨(if st.1.np a-1=0 then [a] else [])++new,by rw[List.foldl_cons,i2,e2,List.append_assoc],λh=>?_⟩;have hc:∀s,(a::ss).count s=ss.count s+if s=a then 1 else 0:=λs=>by
    rw[List.count_cons];by_cases e:s=a
    ·subst e;simp
    ·simp[e,(by simpa using Ne.symm e:(a==s)=false)]
   refine oA (i3 λs hs=>by
    have:=h s (.tail _ hs);rw[hc] at this;rw[hnp];split at this
    ·rename_i e;rw[if_pos e];exact aZ (zv 0) (zd (zv 8) (zn 1)) [(4,1,za (zv 0) (zn 1),zv 8)] rfl (Av _) (Av _) this
    ·rename_i e;rw[if_neg e];exact aZ (zv 0) (zd (zv 8) (zn 0)) [(4,1,za (zv 0) (zn 0),zv 8)] rfl (Av _) (Av _) this) λn1 n2=>?_
   have ha:=h a (.head _);rw[hc,if_pos rfl] at ha;by_cases hz:st.1.np a-1=0
   ·rw[if_pos hz];refine⟨?_,λs=>?_⟩
    ·rw[List.singleton_append,List.nodup_cons];exact⟨λhm=>(List.count_eq_zero.mp (XF ha hz:ss.count a=0)) ((n2 a).mp hm).1,n1⟩
    ·rw[List.singleton_append,List.mem_cons,List.mem_cons,n2,hnp,hc];by_cases e:s=a
     ·subst e;simp only[true_or,if_pos,true_and,true_iff];exact Int.le_antisymm (aZ (zv 8) (za (zv 0) (zn 1)) [(5,1,zd (zv 8) (zn 1),zn 0)] rfl (Av _) (Av _) hz) (aZ (za (zv 0) (zn 1)) (zv 8) [(4,1,za (zv 0) (zn 1),zv 8)] rfl (Av _) (Av _) ha)
     ·rw[if_neg e,if_neg e];simp only[e,false_or,Nat.add_zero,Int.sub_zero]
   ·rw[if_neg hz,List.nil_append];refine⟨n1,λs=>?_⟩;rw[n2,hnp,hc,List.mem_cons];by_cases e:s=a
    ·subst e;simp only[true_or,if_pos,true_and];constructor
     ·rintro ⟨_,h2⟩;exact Int.le_antisymm (aZ (zv 8) (za (zv 0) (zn 1)) [(5,1,zd (zv 8) (zn 1),zv 0)] rfl (Av _) (Av _) h2) (aZ (za (zv 0) (zn 1)) (zv 8) [(6,1,zd (zv 8) (zn 1),zv 0)] rfl (Av _) (Av _) h2)
     ·intro h2;refine⟨?_,Int.le_antisymm (aZ (zd (zv 8) (zn 1)) (zv 0) [(5,1,zv 8,za (zv 0) (zn 1))] rfl (Av _) (Av _) h2) (aZ (zv 0) (zd (zv 8) (zn 1)) [(6,1,zv 8,za (zv 0) (zn 1))] rfl (Av _) (Av _) h2)⟩;by_cases hm:s∈ss
      ·exact hm
      ·exact XE hz h2 (List.count_eq_zero.mpr hm)
    ·rw[if_neg e,if_neg e];simp only[e,false_or,Nat.add_zero,Int.sub_zero]
noncomputable def D0(lev:Nat→Int)(m:Nat)(x:Nat):Bool:=decide (0≤lev x∧lev x<m)
noncomputable def Lv(lev:Nat→Int)(m:Nat)(f:Nat):Prop:=lev f = -1∨(m:Int)<lev f
structure KI(pl:Nat→List Nat)(lev:Nat→Int)(Gf:Gr)(m:Nat)(G:Gr)(rd:List Nat):Prop where
 nodes:G.nodes=Gf.nodes
 succ:G.succ=Gf.succ
 nd:rd.Nodup
 mem:∀f,f∈rd↔f<4∧lev f=m
 np:∀f,f<4→(lev f = -1∨(m:Int)≤lev f)→G.np f=cE pl (D0 lev m) f
section
theorem EU(V:LV pl lev){f:Nat}(hf:f<4):lev f = -1∨0≤lev f:=by
 by_cases h:lev f = -1
 ·exact .inl h
 ·exact XD ((V.val f hf h).2) Hj
theorem Cq(V:LV pl lev){f n:Nat}(hf:f<4)(h:lev f ≠ -1)(hn:n∈pl f):0≤lev n∧lev n<lev f:=by
 refine oA (V.val f hf h) λh1 h2=>?_;exact XC h2 (K5 (List.mem_map.mpr ⟨n,hn,rfl⟩)) ((EU V (V.lt f hf n hn)).resolve_left (h1 n hn))
theorem HV{l:List Int}:B4 l = -1∨B4 l∈l:=by
 unfold B4;have:∀(l:List Int) (z:Int),l.foldl max z=z∨l.foldl max z∈l:=by
  intro l
  induction l with
  |nil=>exact λz=>.inl rfl
  |cons a r ih=>
   intro z;rw[List.foldl_cons];rcases ih (max z a) with h | h
   ·rw[h];by_cases e:z≤a
    ·rw[Int.max_eq_right e];exact .inr (.head _)
    ·rw[Int.max_eq_left (by exact aZ (zv 8) (zv 9) [(7,1,zv 9,zv 8)] rfl (Av 0) (Az _ _) e)];exact .inl rfl
   ·exact .inr (.tail _ h)
 exact this l _
theorem JQ(V:LV pl lev){f m:Nat}(hf:f<4)(h:∀n∈pl f,0≤lev n∧lev n<m):lev f ≠ -1∧lev f≤m:=by
 have h1:=V.fin f hf λn hn=>by have:=h n hn;exact XA this
 refine⟨h1,?_⟩;rw[(V.val f hf h1).2];rcases HV (l:=(pl f).map lev) with e | e
 ·rw[e];exact Int.natCast_nonneg _
 ·refine An (List.mem_map.mp e) λn hn e2=>?_;exact aZ (za (zv 8) (zn 1)) (zv 0) [(6,1,zv 9,zv 8),(4,1,za (zv 9) (zn 1),zv 0)] rfl (Av _) (Az _ _) e2 (h n hn).2
theorem Jn{m x:Nat}:D0 lev m x=true↔0≤lev x∧lev x<m:=by unfold D0;exact decide_eq_true_iff
structure KD(pl:Nat→List Nat)(lev:Nat→Int)(Gf:Gr)(m:Nat)(rd p:List Nat)(st:CO):Prop where
 succ:st.1.succ=Gf.succ
 out:∀a∈rd,a∉p→st.1.np a = -1
 np:∀f,f<4→Lv lev m f→st.1.np f=cE pl (λx=>D0 lev m x||p.contains x) f
 nd:st.2.Nodup
 mem:∀f,f∈st.2↔f<4∧Lv lev m f∧cE pl (λx=>D0 lev m x||p.contains x) f=0
theorem Om:∀(l:List Nat) (G:Gr) (f:Nat),(Co G l).np f=if f∈l then -1 else G.np f:=by
 intro l
 induction l with
 |nil=>intro G f;simp[Co]
 |cons a r ih=>
  intro G f;refine(?_:(Co (G.setNp a (-1)) r).np f=_);rw[(ih (G.setNp a (-1)) f)];by_cases h1:f∈r
  ·rw[if_pos h1,if_pos (.tail _ h1)]
  ·rw[if_neg h1];refine(?_:upd _ a _ f=_);by_cases e:f=a
   ·subst e;rw[Ao,if_pos (.head _)]
   ·rw[Ai e,if_neg λh=>(List.mem_cons.mp h).elim e h1]
theorem Pd(V:LV pl lev){m:Nat}{G:Gr}{rd:List Nat}(K:KI pl lev Gf m G rd):KD pl lev Gf m rd [] (Co G rd,[]):=by
 have hD:(λx=>D0 lev m x||([]:List Nat).contains x)=D0 lev m:=by funext x;simp
 refine⟨FH.trans K.succ,λa ha z_=>?_,λf hf hL=>?_,List.nodup_nil,λf=>?_⟩
 ·refine(?_:(Co G rd).np a = -1);rw[Om,if_pos ha]
 ·refine(?_:(Co G rd).np f=_);rw[hD,Om,if_neg λh=>?_,K.np f hf (hL.imp id λh=>Int.le_of_lt h)];unfold Lv at hL;exact X9 hL (((K.mem f).mp h).2)
 ·rw[hD];refine⟨λh=>(by contradiction),λhX=>Cg hX λhf hL h0=>?_⟩;unfold Lv at hL;exact X8 hL (JQ V (m:=m) hf λn hn=>Jn.mp (HK.mp h0 n hn))
theorem Rx(V:LV pl lev)(GG:GI pl Gf 4){m:Nat}{rd p:List Nat}{a:Nat}{st:CO}(hrd:∀f,f∈rd↔f<4∧lev f=m)(ha:a∈rd)(hap:a∉p)(hp:∀x∈p,x∈rd)(K:KD pl lev Gf m rd p st):KD pl lev Gf m rd (p++[a]) (Do st a):=by
 refine oA ((hrd a).mp ha) λha4 hal=>?_;refine G3 (NS (st.1.succ a) (st.1.setNp a (-2),st.2)) λi1 new i2 i3=>?_;have hda:(D0 lev m a||p.contains a)=false:=by
  have h1:D0 lev m a=false:=by
   unfold D0;rw[decide_eq_false_iff_not];exact λs=>aF [(6,1,zv 8,zv 0),(4,1,za (zv 8) (zn 1),zv 0)] rfl (Av _) (Av _) hal s.2
  rw[h1,Bool.false_or];simpa using hap
 have hD:(λx=>D0 lev m x||(p++[a]).contains x)=λx=>(D0 lev m x||p.contains x)||x==a:=by
  funext x
  rw[List.contains_eq_mem,List.contains_eq_mem];by_cases e:x=a
  ·simp[e]
  ·simp[e,(by simpa using e:(x==a)=false)]
 have hcs:∀f,f<4→(st.1.succ a).count f=(pl f).count a:=λf hf=>by
  rw[K.succ,GG.sc,if_pos hf]
 have hlive:∀f,f∈st.1.succ a→f<4∧Lv lev m f:=λf hf=>by
  have h1:0<(st.1.succ a).count f:=List.count_pos_iff.mpr hf;rw[K.succ,GG.sc] at h1;split at h1
  ·rename_i h4;refine⟨h4,?_⟩;by_cases e:lev f = -1
   ·exact .inl e
   ·exact .inr (aZ (za (zv 0) (zn 1)) (zv 8) [(6,1,zv 9,zv 0),(4,1,za (zv 9) (zn 1),zv 8)] rfl (Av _) (Az _ _) hal (Cq V h4 e (List.count_pos_iff.mp h1)).2)
  ·contradiction
 have hna:∀f,Lv lev m f→f≠a:=λf h e=>by
  unfold Lv at h;rw[e] at h;exact Te hal h
 have hset:∀f,f≠a→(st.1.setNp a (-2)).np f=st.1.np f:=λf e=>Ai e;have hnp:∀f,f∈st.1.succ a→((st.1.succ a).count f:Int)≤(st.1.setNp a (-2)).np f:=λf hf=>by
  refine oA (hlive f hf) λh4 hl=>?_;rw[hset f (hna f hl),K.np f h4 hl,DN (D:=λx=>D0 lev m x||p.contains x) hda,hcs f h4];exact aZ (zv 0) (za (zv 1) (zv 0)) [] rfl (Az _ _) Ae
 refine oA (i3 hnp) λn1 n2=>?_;have hmem:∀f,f∈new↔f<4∧Lv lev m f∧0<(pl f).count a∧cE pl (λx=>D0 lev m x||(p++[a]).contains x) f=0:=λf=>by
  rw[n2,hD];constructor
  ·rintro ⟨h1,h2⟩;refine oA (hlive f h1) λh4 hl=>?_;have h3:0<(st.1.succ a).count f:=List.count_pos_iff.mpr h1;rw[hset f (hna f hl),K.np f h4 hl,DN (D:=λx=>D0 lev m x||p.contains x) hda,hcs f h4] at h2;rw[hcs f h4] at h3;exact⟨h4,hl,h3,X7 h2⟩
  ·rintro ⟨h4,hl,h3,h5⟩;rw[← hcs f h4] at h3;refine⟨List.count_pos_iff.mp h3,?_⟩;rw[hset f (hna f hl),K.np f h4 hl,DN (D:=λx=>D0 lev m x||p.contains x) hda,hcs f h4,h5];exact Int.le_antisymm (aZ (za (zn 0) (zv 0)) (zv 0) [] rfl (Av _) Ae) (aZ (zv 0) (za (zn 0) (zv 0)) [] rfl (Av _) Ae)
 unfold Do;refine⟨Eg.2.trans K.succ,λb hb hbp=>?_,λf hf hl=>?_,?_,λf=>?_⟩
 ·rw[i1];refine oA ((hrd b).mp hb) λhb4 hbl=>?_;rw[hset b (λe=>hbp (by rw[e];simp)),K.out b hb λh=>hbp (List.mem_append_left _ h)];have:(st.1.succ a).count b=0:=List.count_eq_zero.mpr λh=>by
   have:=(hlive b h).2;unfold Lv at this;exact Te hbl this
  rw[this];rfl
 ·rw[i1,hset f (hna f hl),K.np f hf hl,DN (D:=λx=>D0 lev m x||p.contains x) hda,hcs f hf,hD];exact Int.le_antisymm (aZ (zd (za (zv 0) (zv 1)) (zv 1)) (zv 0) [] rfl (Az _ _) Ae) (aZ (zv 0) (zd (za (zv 0) (zv 1)) (zv 1)) [] rfl (Az _ _) Ae)
 ·rw[i2,List.nodup_append];refine⟨K.nd,n1,λx hx y hy e=>?_⟩;subst e;exact X5 ((K.mem x).mp hx) ((hmem x).mp hy) (DN (pl:=pl) (D:=λx=>D0 lev m x||p.contains x) (f:=x) hda)
 ·rw[i2,List.mem_append,K.mem,hmem];have:=DN (pl:=pl) (D:=λx=>D0 lev m x||p.contains x) (f:=f) hda;rw[hD];constructor
  ·rintro (⟨h1,h2,h3⟩ | ⟨h1,h2,h3,h4⟩)
   ·exact⟨h1,h2,X4 this h3⟩
   ·exact⟨h1,h2,h4⟩
  ·rintro ⟨h1,h2,h3⟩;by_cases e:(pl f).count a=0
   ·exact .inl ⟨h1,h2,X1 this h3 e⟩
   ·exact .inr ⟨h1,h2,Nat.pos_of_ne_zero (by assumption),h3⟩
theorem Li(V:LV pl lev)(GG:GI pl Gf 4){m:Nat}{G:Gr}{rd:List Nat}(K:KI pl lev Gf m G rd):∀i,i≤rd.length→KD pl lev Gf m rd (rd.take i) (BA (Co G rd,[]) (rd.take i)):=by
 intro i
 induction i with
 |zero=>exact λz_=>Pd V K
 |succ i ih=>
  intro hi;have hx:=List.getElem?_eq_getElem (by assumption:i<rd.length);have e:rd.take (i+1)=rd.take i++[rd[i]]:=by rw[List.take_add_one,hx];rfl
  rw[e];have:=Rx V GG (a:=rd[i]) K.mem (List.getElem_mem _) (λh=>?_) (λx hx=>List.mem_of_mem_take hx) (ih (Nat.le_of_lt (by assumption)))
  ·unfold BA at this ⊢;rw[List.foldl_append];exact this
  ·have hn:=K.nd;rw[← List.take_append_drop i rd,List.drop_eq_getElem_cons (by assumption:i<rd.length),List.nodup_append] at hn;exact hn.2.2 _ h _ (.head _) rfl
theorem YM(V:LV pl lev)(GG:GI pl Gf 4):∀(k m:Nat) (G:Gr) (rd:List Nat),KI pl lev Gf m G rd→4≤m+k →
  ∃RS,TN k G rd RS∧(∀i g,RS[i]?=some g→g.Nodup∧g≠[]∧∀f,f∈g↔f<4∧lev f=((m+i:Nat):Int))∧(∀f,f<4→lev f<((m+RS.length:Nat):Int))∧RS.length≤k:=by
 have hend:∀m,(∀f,f<4→lev f≠(m:Nat))→∀f,f<4→lev f<((m+([]:List (List Nat)).length:Nat):Int):=λm h0=>by
  have:∀j f,f<4→lev f≠((m+j:Nat):Int):=by
   intro j
   induction j with
   |zero=>exact h0
   |succ j ih=>
    intro f hf e;refine oA (V.val f hf (λs=>aF [(6,1,zv 8,za (zv 0) (za (zv 1) (zn 1))),(5,1,zv 8,.neg (zn 1))] rfl (Az _ _) (Av _) e s)) λh1 h2=>?_;rcases HV (l:=(pl f).map lev) with h3 | h3
    ·exact aF [(6,1,zv 8,za (zv 0) (za (zv 1) (zn 1))),(5,1,zv 8,za (zv 9) (zn 1)),(5,1,zv 9,.neg (zn 1))] rfl (Az _ _) (Az _ _) e h2 h3
    ·refine An (List.mem_map.mp h3) λn hn e2=>?_;exact ih n (V.lt f hf n hn) (Int.le_antisymm (aZ (zv 8) (za (zv 0) (zv 1)) [(5,1,zv 9,za (zv 0) (za (zv 1) (zn 1))),(6,1,zv 9,za (zv 10) (zn 1)),(5,1,zv 8,zv 10)] rfl (Az _ _) (AH _ _ _) e h2 e2) (aZ (za (zv 0) (zv 1)) (zv 8) [(6,1,zv 9,za (zv 0) (za (zv 1) (zn 1))),(5,1,zv 9,za (zv 10) (zn 1)),(6,1,zv 8,zv 10)] rfl (Az _ _) (AH _ _ _) e h2 e2))
  intro f hf;refine(?_:lev f<((m+0:Nat):Int));by_cases h:lev f<(m:Int)
  ·exact h
  ·exact absurd (show lev f=((m+(lev f-m).toNat:Nat):Int) by exact X0 h) (this _ f hf)
 intro k
 induction k with
 |zero=>
  intro m G rd K hm;have e:rd=[]:=List.eq_nil_iff_forall_not_mem.mpr λf hf=>by
   refine oA ((K.mem f).mp hf) λh1 h2=>?_;exact Td hm h2 (V.l4 f h1)
  refine⟨[],⟨e,rfl⟩,(λi g h=>by contradiction),hend m λf hf h=>?_,Nat.le_refl _⟩;exact Td hm h (V.l4 f hf)
 |succ k ih=>
  intro m G rd K hm;by_cases e:rd=[]
  ·subst e;exact⟨[],.inl ⟨rfl,rfl⟩,(λi g h=>by contradiction),hend m λf hf h=>(nomatch (K.mem f).mpr ⟨hf,h⟩),Nat.zero_le _⟩
  ·have kd:=Li V GG K rd.length (Nat.le_refl _);rw[List.take_length] at kd;have hDD:∀f,f<4→cE pl (λx=>D0 lev m x||rd.contains x) f=cE pl (D0 lev (m+1)) f:=λf hf=>PT λx hx=>by
    rw[Bool.eq_iff_iff,Bool.or_eq_true,Jn,Jn,List.contains_iff_mem,K.mem];constructor
    ·rintro (h | h)<;>(first | exact Xz h | exact Xy h)
    ·intro h;by_cases h2:lev x<m
     ·exact .inl ⟨h.1,h2⟩
     ·exact .inr ⟨(V.lt f hf x hx),Int.le_antisymm (aZ (zv 8) (zv 0) [(4,1,za (zv 8) (zn 1),za (zv 0) (zn 1))] rfl (Av _) (Av _) h.2) (aZ (zv 0) (zv 8) [(7,1,za (zv 8) (zn 1),zv 0)] rfl (Av _) (Av _) h2)⟩
   have K2:KI pl lev Gf (m+1) (BA (Co G rd,[]) rd).1 (BA (Co G rd,[]) rd).2:=by
    refine⟨Dd.1.trans (DH.trans K.nodes),Dd.2.trans (FH.trans K.succ),kd.nd,λf=>?_,λf hf h=>?_⟩
    ·rw[kd.mem];constructor
     ·rintro ⟨h1,h2,h3⟩;rw[hDD f h1] at h3;have:=JQ V (m:=m+1) h1 λn hn=>Jn.mp (HK.mp h3 n hn);unfold Lv at h2;exact⟨h1,by lia⟩
     ·rintro ⟨h1,h2⟩;refine⟨h1,.inr (aZ (za (zv 0) (zn 1)) (zv 8) [(6,1,zv 8,za (zv 0) (zn 1))] rfl (Av _) (Av _) h2),?_⟩;rw[hDD f h1];exact HK.mpr λn hn=>Jn.mpr (by have:=Cq V h1 (Xw h2) hn;exact Xv h2 this)
    ·rw[kd.np f hf (h.imp id λh=>by assumption),hDD f hf]
   refine SN (ih (m+1) _ _ K2 (aN (zn 4) (za (za (zv 0) (zn 1)) (zv 1)) [(0,1,zn 4,za (zv 0) (za (zv 1) (zn 1)))] rfl (Az _ _) Ae hm)) λRS r1 r2 r3 r4=>?_;refine⟨rd::RS,.inr ⟨e,λa ha=>?_,?_,λi a ha=>?_,RS,rfl,r1⟩,λi g hg=>?_,λf hf=>?_,by rw[List.length_cons];exact Nat.lt_succ_of_le (by assumption)⟩
   ·rw[K.nodes];exact GG.has a ((K.mem a).mp ha).1
   ·exact Nat.le_trans (CZ 4 _ K.nd λx hx=>((K.mem x).mp hx).1) (by decide)
   ·have hi:=(List.getElem?_eq_some_iff.mp ha).1;refine(Li V GG K i (Nat.le_of_lt (by assumption))).out a (List.mem_of_getElem? ha) λh=>?_;have hn:=K.nd;rw[← List.take_append_drop i rd,List.drop_eq_getElem_cons hi,List.nodup_append] at hn;rw[List.getElem?_eq_getElem hi] at ha;exact hn.2.2 _ h _ (.head _) (Option.some.inj ha).symm
   ·cases i with
    |zero=>
     have hg:rd=g:=Option.some.inj hg;subst hg;exact⟨K.nd,e,K.mem⟩
    |succ i=>
     refine Cg (r2 i g hg) λa1 a2 a3=>?_;refine⟨a1,a2,λf=>?_⟩;rw[a3,show m+1+i=m+(i+1) by exact Nat.add_right_comm _ _ _]
   ·rw[List.length_cons,show m+(RS.length+1)=m+1+RS.length by exact Tg];exact(r3 f hf)
theorem Pc(V:LV pl lev)(GG:GI pl Gf 4):KI pl lev Gf 0 Gf (Eh Gf):=by
 have h0:∀f,cE pl (D0 lev 0) f=(pl f).length:=λf=>by
  unfold cE;rw[List.countP_eq_length];intro x _;unfold D0;simp;exact Xu
 refine⟨rfl,rfl,List.Pairwise.filter _ GG.b.nd,λf=>?_,λf hf z_=>?_⟩
 ·unfold Eh;rw[List.mem_filter];constructor
  ·rintro ⟨h1,h2⟩;have h4:=GG.b.lt f h1;have h2:Gf.np f=0:=by simpa using h2
   rw[GG.np,if_pos h4] at h2;have h3:=JQ V (m:=0) h4 λn hn=>by rw[(List.length_eq_zero_iff.mp (Nat.le_antisymm (aN (zv 0) (zn 0) [(5,1,zv 0,zn 0)] rfl (Av _) Ae h2) (aN (zn 0) (zv 0) [] rfl (Av _) Ae)):pl f=[])] at hn;contradiction
   have:=(EU V h4).resolve_left h3.1;exact⟨h4,Int.le_antisymm (aZ (zv 8) (zn 0) [(4,1,zv 8,zn 0)] rfl (Av 0) (Av _) h3.2) (aZ (zn 0) (zv 8) [(4,1,zn 0,zv 8)] rfl (Av 0) (Av _) this)⟩
  ·rintro ⟨h4,h2⟩;refine⟨GG.has f h4,?_⟩;have e:pl f=[]:=List.eq_nil_iff_forall_not_mem.mpr λn hn=>by
    have:=Cq V h4 (λs=>aF [(6,1,zv 8,zn 0),(5,1,zv 8,.neg (zn 1))] rfl (Av 0) (Av _) h2 s) hn;exact aF [(5,1,zv 8,zn 0),(4,1,zn 0,zv 9),(4,1,za (zv 9) (zn 1),zv 8)] rfl (Av 0) (Az _ _) h2 this.1 this.2
   have:Gf.np f=0:=by rw[GG.np,if_pos h4,e];rfl
   simpa using this
 ·rw[GG.np,if_pos hf,h0]
theorem NR(V:LV pl lev)(GG:GI pl Gf 4):(∃S,Dfs.Ring Gf.succ S∧∀v∈S,v∈Gf.nodes)↔∃f,f<4∧lev f = -1:=by
 have hin:∀u v,v<4→(v∈Gf.succ u↔u∈pl v):=λu v hv=>by
  rw[← List.count_pos_iff,GG.sc,if_pos hv,List.count_pos_iff]
 constructor
 ·rintro ⟨S,⟨h1,h2⟩,h3⟩;refine Classical.byContradiction λhno=>?_;have hall:∀n:Nat,∀v∈S,lev v≠n:=by
   intro n
   induction n using Nat.strongRecOn with
   |ind n ih=>
    intro v hv e;refine An (h2 v hv) λu hu hvu=>?_;have hv4:=GG.b.lt v (h3 v hv);have:=Cq V hv4 (λs=>aF [(6,1,zv 8,zv 0),(5,1,zv 8,.neg (zn 1))] rfl (Av _) (Av _) e s) ((hin u v hv4).mp hvu);exact ih (lev u).toNat (Xs e this) u hu (Xr this)
  refine oE (List.exists_mem_of_ne_nil S h1) λv hv=>?_;have hv4:=GG.b.lt v (h3 v hv);rcases EU V hv4 with h | h
  ·exact hno ⟨v,hv4,h⟩
  ·exact hall (lev v).toNat v hv (Xq h)
 ·rintro ⟨f,hf,e⟩;refine⟨(List.range 4).filter λv=>lev v == -1,⟨λh=>?_,λv hv=>?_⟩,λv hv=>?_⟩
  ·have:f∈(List.range 4).filter λv=>lev v == -1:=List.mem_filter.mpr ⟨List.mem_range.mpr hf,by simpa using e⟩;rw[h] at this;contradiction
  ·refine oA (List.mem_filter.mp hv) λh1 h2=>?_;have h4:=List.mem_range.mp h1;refine An (Classical.byContradiction λhno=>V.fin v h4 (λn hn e=>hno ⟨n,hn,e⟩) (by simpa using h2:lev v = -1)) λn hn e2=>?_;exact⟨n,List.mem_filter.mpr ⟨List.mem_range.mpr (V.lt v h4 n hn),by simpa using e2⟩,(hin n v h4).mpr hn⟩
  ·exact GG.has v (List.mem_range.mp (List.mem_filter.mp hv).1)
end
theorem EQ:n∈Mh Q ↔ .inr n∈Q:=by
 unfold Mh;rw[List.mem_filterMap];constructor
 ·rintro ⟨a,h1,h2⟩
  cases a with
  |inl x=>contradiction
  |inr g=>refine AV (Option.some.inj h2) ?_;exact h1
 ·exact λh=>⟨_,h,rfl⟩
theorem PV:A5 lev Q=(Mh Q).map λn=>lev.getD n 0:=by
 unfold A5 Mh
 induction Q with
 |nil=>rfl
 |cons a r ih=>
  refine Aa List.filterMap_cons (Aa List.filterMap_cons (Aa ih ?_));cases a<;>rfl
theorem Wi:((List.range 4).all λf=>(List.range 10).all λn=>kqdOk 8 (.str (CP f n)) && !(Txt.item (CP f n) 0==""))=true:=by decide +kernel
theorem Wj(hf:f<4)(hn:n<10):kqdOk 8 (.str (CP f n))=true∧Fj "" (CP f n)=false:=by
 have h:=List.all_eq_true.mp (List.all_eq_true.mp Wi f (List.mem_range.mpr hf)) n (List.mem_range.mpr hn);simp only[Bool.and_eq_true,Bool.not_eq_true'] at h;exact h
section
variable{st:AK}
noncomputable abbrev Il(st:AK)(f:Nat):List Nat:=Mh (st.1 f)
noncomputable abbrev Iz(lt:AI)(n:Nat):Int:=lt.1.getD n 0
theorem FQ(F:CV st)(hlt:BG st.1=lt):LV (Il st) (Iz lt)∧LI st.1 lt:=by
 refine oA (Pa F.P F.fst) λh1 h2=>?_;rw[hlt] at h1 h2;refine⟨⟨λf hf p hp=>F.P.ref f hf p (EQ.mp hp),λf hf h=>h2 f hf λn hn=>h n (EQ.mpr hn),λf hf h=>?_,λf hf=>?_⟩,h1⟩
 ·refine Cg (h1.snd f hf h) λa1 a2 z_=>?_;refine⟨λn hn=>EC.mp a1 n (EQ.mp hn),?_⟩;rw[PV] at a2;exact a2
 ·have:=h1.top f hf;have:=Kj h1.len;refine(?_:lt.1.getD f 0<4);exact Xp (by assumption) this
theorem OZ(F:CV st)(hlt:BG st.1=lt):∀(k:Nat) (f:Nat),f<4→Iz lt f≤k→∀x∈lt.2 f,Qm (.inl x):=by
 obtain⟨V,I⟩:=FQ F hlt;intro k
 induction k using Nat.strongRecOn with
 |ind k ih=>
  intro f hf hk x hx;by_cases e:lt.1.getD f 0 = -1
  ·rw[I.emp f hf e] at hx;cases hx
  ·rw[(I.snd f hf e).2.2] at hx;refine An (List.mem_flatMap.mp hx) λit h1 h2=>?_
   cases it with
   |inl y=>
    refine Aa (List.mem_singleton.mp h2) ?_;exact F.it f hf _ h1
   |inr n=>exact ih (Iz lt n).toNat (Xo hk (Cq V hf e (EQ.mpr h1))) n (F.P.ref f hf n h1) (Xn) x h2
theorem IK:∀(RS:List (List Nat)) (pre:List Nat) (f:Nat) (post:List Nat),RS.flatten=pre++f::post→∃(i:Nat) (g:List Nat),RS[i]?=some g∧f∈g∧∀(j:Nat) (g':List Nat),j<i→RS[j]?=some g'→∀x∈g',x∈pre:=by
 intro RS
 induction RS with
 |nil=>
  intro pre f post h;have:=congrArg List.length h;simp at this
 |cons g RS ih=>
  intro pre f post h;rw[List.flatten_cons] at h;rcases List.append_eq_append_iff.mp h with ⟨c,h1,h2⟩ | ⟨c,h1,h2⟩
  ·refine A3 (ih c f post h2) λi g2 a1 a2 a3=>?_;refine⟨i+1,g2,a1,a2,λj g' hj hg x hx=>?_⟩;refine Aa h1 ?_
   cases j with
   |zero=>
    refine Aa (Option.some.inj hg) ?_;exact List.mem_append_left _ hx
   |succ j=>exact List.mem_append_right _ (a3 j g' (Tb hj) hg x hx)
  ·cases c with
   |nil=>
    refine A3 (ih [] f post h2.symm) λi g2 a1 a2 a3=>?_;refine⟨i+1,g2,a1,a2,λj g' hj hg x hx=>?_⟩
    cases j with
    |zero=>
     rw[List.append_nil] at h1;refine AV h1 (Aa (Option.some.inj hg) ?_);exact hx
    |succ j=>exact by cases a3 j g' (Tb hj) hg x hx
   |cons a c=>exact⟨0,g,rfl,by refine Aa h1 (Aa ((List.cons.inj h2).1) ?_);simp,λj g' hj=>absurd hj (Nat.not_lt_zero j)⟩
structure Qk(lt:AI)(RS:List (List Nat)):Prop where
 mem:∀i g,RS[i]?=some g→g.Nodup∧g≠[]∧∀f,f∈g↔f<4∧Iz lt f=((0+i:Nat):Int)
 top:∀f,f<4→Iz lt f<((0+RS.length:Nat):Int)
theorem Qk.flat(R:Qk lt RS)(V:LV (Il st) (Iz lt)):f∈RS.flatten↔f<4∧Iz lt f ≠ -1:=by
 rw[List.mem_flatten];constructor
 ·rintro ⟨g,h1,h2⟩;refine oE (List.mem_iff_getElem?.mp h1) λi hi=>?_;have:=((R.mem i g hi).2.2 f).mp h2;exact⟨this.1,Xm this⟩
 ·rintro ⟨h1,h2⟩;have h3:=(EU V h1).resolve_left h2;have hi:(Iz lt f).toNat<RS.length:=Xl h3 (R.top f h1);refine⟨_,List.getElem_mem hi,((R.mem _ _ (List.getElem?_eq_getElem hi)).2.2 f).mpr ⟨h1,Xk h3⟩⟩
theorem JY:∀(RS:List (List Nat)),(∀g∈RS,g.Nodup)→(∀(i j:Nat) g g',i<j→RS[i]?=some g→RS[j]?=some g'→∀x∈g,x∉g')→RS.flatten.Nodup:=by
 intro RS
 induction RS with
 |nil=>exact λ_ _=>List.nodup_nil
 |cons g RS ih=>
  intro h1 h2;rw[List.flatten_cons,List.nodup_append];refine⟨h1 g (.head _),ih (λx hx=>h1 x (.tail _ hx)) λi j a b hij ha hb=>h2 (i+1) (j+1) a b (aN (za (za (zv 0) (zn 1)) (zn 1)) (za (zv 1) (zn 1)) [(0,1,za (zv 0) (zn 1),zv 1)] rfl (Az _ _) Ae hij) ha hb,λx hx y hy e=>?_⟩;subst e;refine An (List.mem_flatten.mp hy) λg' a1 a2=>?_;refine oE (List.mem_iff_getElem?.mp a1) λj hj=>?_;exact h2 0 (j+1) g g' (Nat.succ_pos j) rfl hj x hx a2
noncomputable def VR(st:AK)(f:Nat):List Str:=(st.2 f).map (Bo f)
noncomputable def VM(lt:AI)(c:Str)(f:Nat):List Str:=(lt.2 f).flatMap (Bg (Fj c) ED HL)
theorem U4:∀(Q:List Bu),(∀it∈Q,Qm it)→(∀n,.inr n∈Q→md n=some ((L n).flatMap (Bg (Fj c) ED HL)))→CG md c (Q.map Vn)=(Bc L Q).flatMap (Bg (Fj c) ED HL):=by
 intro Q
 induction Q with
 |nil=>exact λz_ z_=>rfl
 |cons q r ih=>
 intro hit hmd;have ih:=ih (λit h=>hit it (.tail _ h)) λn hn=>hmd n (.tail _ hn)
 cases q with
 |inl x=>
  have e1:CG md c ((Sum.inl x::r).map Vn)=FU md c x++CG md c (r.map Vn):=rfl;have e2:Bc L (.inl x::r)=[x]++Bc L r:=rfl;have o:=(hit _ (.head _)).1;refine Aa e1 (Aa e2 (Aa List.flatMap_append (Aa (List.flatMap_singleton ..) (Aa ih ?_))));congr 1;unfold Bg Fj;by_cases h2:(Txt.item x 0==c)=true
  ·refine Aa (Lf o.abs h2) (Aa (if_pos h2) ?_);rfl
  ·exact Aa (IC o.abs (by simpa using h2)) (Aa (if_neg h2) rfl)
 |inr n=>
  have e1:CG md c ((Sum.inr n::r).map Vn)=FU md c (Ah n)++CG md c (r.map Vn):=rfl;have e2:Bc L (.inr n::r)=L n++Bc L r:=rfl;have hn:n<4:=hit _ (.head _);exact Aa e1 (Aa e2 (Aa List.flatMap_append (Aa ih (Aa (Lh hn (DO hn).1 (hmd n (.head _))) rfl))))
theorem NQ(F:CV st)(hlt:BG st.1=lt)(hf:f<4)(hl:Iz lt f ≠ -1)(hmd:∀n∈Il st f,md n=some (VM lt c n)):CG md c (VR st f)=VM lt c f:=by
 refine oA (FQ F hlt) λV I=>?_;unfold VR VM;refine Aa ((I.snd f hf hl).2.2) (Aa (F.read f hf) ?_);exact U4 _ (F.it f hf) λn hn=>hmd n (EQ.mpr hn)
theorem Hv(F:CV st)(hlt:BG st.1=lt)(R:Qk lt RS):∀pre post,RS.flatten=pre++post→∀f,CS (VR st) c pre f=if f∈pre then some (VM lt c f) else none:=by
 refine oA (FQ F hlt) λV I=>?_;intro pre;generalize hn:pre.length=n
 induction n generalizing pre with
 |zero=>
  intro post h f;refine Aa (List.length_eq_zero_iff.mp hn) ?_;rfl
 |succ n ih=>
  intro post h f;obtain⟨p,a,rfl⟩:∃p a,pre=p++[a]:=⟨pre.dropLast,pre.getLast (λe=>by rw[e] at hn;cases hn),(List.dropLast_concat_getLast _).symm⟩;rw[List.append_assoc,List.singleton_append] at h;have hp:=ih p (by simpa using hn) (a::post) h;refine A3 (IK RS p a post h) λi g h1 h2 h3=>?_;refine oA (((R.mem i g h1).2.2 a).mp h2) λa4 al=>?_;refine Aa GO ?_;unfold FO;by_cases e:f=a
  ·subst e;refine Aa Ao (Aa (if_pos (List.mem_append_right _ (.head _))) ?_);refine congrArg some (NQ F hlt a4 (KT al:Iz lt f ≠ -1) λn hn=>?_);have hc:=Cq V a4 (KT al) hn;have hj:(Iz lt n).toNat<i:=Ta al hc;have hjl:=(List.getElem?_eq_some_iff.mp h1).1;have hg:=List.getElem?_eq_getElem (SZ hj hjl:(Iz lt n).toNat<RS.length);exact Aa (hp ..) (Aa (if_pos (h3 _ _ hj hg n (((R.mem _ _ hg).2.2 n).mpr ⟨(V.lt f a4 n hn),SY hc⟩))) rfl)
  ·refine Aa (Ai e) (Aa (hp ..) ?_);by_cases e2:f∈p
   ·exact Aa (if_pos e2) (Aa (if_pos (List.mem_append_left _ e2)) rfl)
   ·exact Aa (if_neg e2) (Aa (if_neg λh=>(List.mem_append.mp h).elim e2 λh=>e (List.mem_singleton.mp h)) rfl)
theorem LF(F:CV st)(hlt:BG st.1=lt)(hf:f<4):(lt.2 f).length<60∧(VM lt c f).length≤120:=by
 obtain⟨V,I⟩:=FQ F hlt;have h:=I.size F.ks hf;refine⟨h,Nat.le_trans P5 (aN (zm 2 (zv 0)) (zn 120) [(0,2,za (zv 0) (zn 1),zn 60)] rfl (Av _) Ae h)⟩
theorem KQ(F:CV st)(hlt:BG st.1=lt)(R:Qk lt RS):HP (VR st) c RS.flatten:=by
 refine oA (FQ F hlt) λV I=>?_;intro pre f post h;refine A3 (IK RS pre f post h) λi g h1 h2 h3=>?_;refine oA (((R.mem i g h1).2.2 f).mp h2) λf4 fl=>?_;have hin:∀n∈Il st f,CS (VR st) c pre n=some (VM lt c n):=λn hn=>by
  have hc:=Cq V f4 (KT fl) hn;have hj:(Iz lt n).toNat<i:=Ta fl hc;have hjl:=(List.getElem?_eq_some_iff.mp h1).1;have hg:=List.getElem?_eq_getElem (SZ hj hjl:(Iz lt n).toNat<RS.length);exact Aa (Hv F hlt R pre _ h ..) (Aa (if_pos (h3 _ _ hj hg n (((R.mem _ _ hg).2.2 n).mpr ⟨(V.lt f f4 n hn),SY hc⟩))) rfl)
 refine⟨f4,λx hx=>?_,?_⟩
 ·unfold VR at hx;rw[F.read f f4] at hx;refine An (List.mem_map.mp hx) λit a1 ho2=>?_;subst ho2;have ok:=F.it f f4 it a1
  cases it with
  |inl x=>
   have o:=ok.1;refine⟨by show 0<x.length;rw[o.len];decide,by show x.length≤100;rw[o.len];decide,λe=>?_⟩;have e:DS x=true:=e;rw[o.abs] at e;cases e
  |inr n=>
   have hn:n<4:=ok;refine Cg (DO hn) λz_ b1 b2=>?_;exact⟨b1,b2,λz_=>⟨n,_,hn,rfl,hin n (EQ.mpr a1)⟩⟩
 ·refine Aa (NQ F hlt f4 (KT fl) hin) ?_;exact Nat.le_trans (LF F hlt f4).2 (by decide)
theorem YL(F:CV st)(hlt:BG st.1=lt)(R:Qk lt RS):VL st lt c RS:=by
 refine oA (FQ F hlt) λV I=>?_;have hown:∀f,f<4→∀x∈lt.2 f,Qm (.inl x):=λf hf x hx=>OZ F hlt 4 f hf (by have:=V.l4 f hf;exact Xj this) x hx;have hnd:RS.flatten.Nodup:=JY RS (λg hg=>by
  obtain⟨i,hi⟩:=List.mem_iff_getElem?.mp hg;exact(R.mem i g hi).1) λi j g g' hij h1 h2 x hx hx2=>by
   exact Xi hij (((R.mem i g h1).2.2 x).mp hx) (((R.mem j g' h2).2.2 x).mp hx2)
 refine⟨I.len,KQ F hlt R,KQ F hlt R,Nat.le_trans (CZ 4 _ hnd λx hx=>((R.flat V).mp hx).1) (by decide),λf hf hl=>?_,λf hf hl=>?_,λf hf x hx y hy z_=>?_,λf hf=>(LF F hlt (c:=c) hf).1,λf hf x hx=>?_⟩
 ·have:=Hv (c:="") F hlt R RS.flatten [] (List.append_nil _).symm f;rw[if_pos ((R.flat V).mpr ⟨hf,hl⟩)] at this;refine this.trans (congrArg some ?_);unfold VM;have hall:=hown f hf;generalize lt.2 f=xs at hall
  induction xs with
  |nil=>rfl
  |cons x xs ih=>
   refine Aa List.flatMap_cons (Aa (ih λy hy=>hall y (.tail _ hy)) ?_);refine Oy (hall x (.head _)) λz_ a b ha hb ho5=>?_;subst ho5;unfold Bg;refine Aa (if_neg (by rw[(Wj ha hb).2];decide)) ?_;rfl
 ·have:=Hv (c:=c) F hlt R RS.flatten [] (List.append_nil _).symm f;rw[if_pos ((R.flat V).mpr ⟨hf,hl⟩)] at this;exact this
 ·have l1:=(hown f hf x hx).1.len;have hb:(ED y).length=3∧(HL y).length=3:=by
   unfold ED HL;refine Aa (Str.length_append ..) (Aa (Str.length_append ..) (Aa ((hown f hf y hy).1.len) ?_));decide
  exact⟨λe=>by rw[e] at hb;exact Xh l1 hb,λe=>by rw[e] at hb;exact Xg l1 hb⟩
 ·refine Oy (hown f hf x hx) λo a b ha hb e=>?_;refine⟨⟨by refine Aa o.len ?_;decide,by refine Aa o.len ?_;decide⟩,?_⟩;refine Aa e ?_;exact(Wj ha hb).1
end
theorem YK(l:List Int):l≠[]→∃m∈l,∀a∈l,m≤a:=by
 induction l with
 |nil=>exact λh=>absurd rfl h
 |cons a r ih=>
  intro z_;by_cases hr:r=[]
  ·exact⟨a,.head _,λb hb=>Int.le_of_eq ((List.mem_singleton.mp (hr▸hb)).symm)⟩
  ·refine An (ih hr) λm h1 h2=>?_;by_cases e:a≤m
   ·exact⟨a,.head _,λx hx=>(List.mem_cons.mp hx).elim (λe=>Int.le_of_eq e.symm) λh=>Int.le_trans e (h2 x h)⟩
   ·exact⟨m,.tail _ h1,λx hx=>(List.mem_cons.mp hx).elim (λe2=>Int.le_of_lt (e2▸Int.not_le.mp e)) (h2 x)⟩
theorem most(l:List Int):l≠[]→∃m∈l,∀a∈l,a≤m:=by
 induction l with
 |nil=>exact λh=>absurd rfl h
 |cons a r ih=>
  intro z_;by_cases hr:r=[]
  ·exact⟨a,.head _,λb hb=>Int.le_of_eq (List.mem_singleton.mp (hr▸hb))⟩
  ·refine An (ih hr) λm h1 h2=>?_;by_cases e:m≤a
   ·exact⟨a,.head _,λx hx=>(List.mem_cons.mp hx).elim (λe=>Int.le_of_eq e) λh=>Int.le_trans (h2 x h) e⟩
   ·exact⟨m,.tail _ h1,λx hx=>(List.mem_cons.mp hx).elim (λe2=>Int.le_of_lt (e2▸Int.not_le.mp e)) (h2 x)⟩
theorem Oc:((List.range 4).all λi=>(List.range 4).all λj=>ltCps (Ah j).cps.toList (Ah i).cps.toList==decide (j<i))=true:=by decide +kernel
theorem Od{i j:Nat}(hi:i<4)(hj:j<4)(h:ltCps (Ah j).cps.toList (Ah i).cps.toList=false):i≤j:=by
 have:=List.all_eq_true.mp (List.all_eq_true.mp Oc i (List.mem_range.mpr hi)) j (List.mem_range.mpr hj);rw[h] at this;simpa using (by simpa using this:decide (j<i)=false)
theorem ZL:∀(ks:List Nat) (i:Nat),i<4→(∀k∈ks,k<4)→risingS (Ah i) (ks.map Ah)=true→(i::ks).Pairwise (· ≤ ·):=by
 intro r
 induction r with
 |nil=>exact λi _ _ _=>List.pairwise_singleton ..
 |cons j r ih=>
  intro i hi hk h;have hj:=hk j (.head _);have h:(!ltCps (Ah j).cps.toList (Ah i).cps.toList&&risingS (Ah j) (r.map Ah))=true:=h;rw[Bool.and_eq_true,Bool.not_eq_true'] at h;have hp:=ih j hj (λk hm=>hk k (.tail _ hm)) h.2;have hij:=Od hi hj h.1;refine List.pairwise_cons.mpr ⟨λk hm=>?_,hp⟩;rcases List.mem_cons.mp hm with e | hm
  ·rw[e];exact hij
  ·exact Nat.le_trans hij ((List.pairwise_cons.mp hp).1 k hm)
theorem LU{ks:List Nat}(hk:∀k∈ks,k<4)(h:sortedS (ks.map Ah)=true):ks.Pairwise (· ≤ ·):=by
 cases ks with
 |nil=>exact List.Pairwise.nil
 |cons i r=>exact ZL r i (hk i (.head _)) (λk hm=>hk k (.tail _ hm)) h
theorem QN:∀{ys:List Str},(∀y∈ys,∃k,k<4∧y=Ah k)→(ys.map DW).map Ah=ys:=by
 intro ys
 induction ys with
 |nil=>exact λ_=>rfl
 |cons y ys ih=>
  intro h;refine An (h y (.head _)) λk hk e=>?_;rw[List.map_cons,List.map_cons,ih λz hz=>h z (.tail _ hz),e,BV hk]
theorem Vz{lv:List Int}{i:Nat}{g:List Nat}(hn:g.Nodup)(hg:∀f,f∈g↔f<4∧lv.getD f 0=((0+i:Nat):Int)){ys:List Str}(hp:ys.Perm (g.map Ah))(hs:sortedS ys=true):ys=(E4 lv i 4).map Ah:=by
 have hm:∀y∈ys,∃k,k<4∧y=Ah k:=λy hy=>by
  obtain⟨k,h1,h2⟩:=List.mem_map.mp (hp.mem_iff.mp hy);exact⟨k,((hg k).mp h1).1,h2.symm⟩
 have e:=QN hm;have hp2:(ys.map DW).Perm g:=by
  have:=hp.map DW;rw[List.map_map] at this;have e3:g.map (DW∘Ah)=g:=by
   conv=>rhs;rw[← List.map_id g]
   exact List.map_congr_left λk hk=>BV ((hg k).mp hk).1
  rw[e3] at this;exact this
 have h1:=LU (λk hk=>((hg k).mp (hp2.mem_iff.mp hk)).1) (by rw[e];exact hs);have hd:(E4 lv i 4).Pairwise (· < ·):=List.Pairwise.filter _ List.pairwise_lt_range;have hp3:(ys.map DW).Perm (E4 lv i 4):=by
  refine hp2.trans ((List.perm_ext_iff_of_nodup hn (hd.imp λh=>Nat.ne_of_lt h)).mpr λf=>?_);unfold E4;rw[hg,List.mem_filter,List.mem_range,beq_iff_eq,Nat.zero_add]
 rw[← (List.Perm.eq_of_pairwise (le:=λa b:Nat=>a≤b) (λa b z_ z_ h1 h2=>Nat.le_antisymm h1 h2) h1 (hd.imp λh=>Nat.le_of_lt h) hp3),e]
theorem Za{ns:List Int}(h:ns.length≤9)(ch:Str):∃lt pl mn RS Gf M,Sz (E5 ns) lt pl mn RS Gf∧Z4 lt RS M∧VL (E5 ns) lt ch RS:=by
 have F:=Pq h;generalize E5 ns=st at F;refine oA (FQ F rfl) λV I=>?_;have hpl:∀f,f<4→(Il st f).length≤100∧∀p∈Il st f,p<4:=λf hf=>⟨Nat.le_trans (List.length_filterMap_le ..) (Nat.le_trans (F.P.len f hf) (by decide)),V.lt f hf⟩
 have GG:=Ss hpl;refine SN (YM V (GG 4 (Nat.le_refl _)) 9 0 _ _ (Pc V (GG 4 (Nat.le_refl _))) (by decide)) λRS r1 r2 r3 r4=>?_;have hne:(BG st.1).1≠[]:=λe=>by have:=I.len;rw[e] at this;cases this
 refine An (YK _ hne) λmn m1 m2=>?_;refine An (most _ hne) λM x1 x2=>?_;have hget:∀{a},a∈(BG st.1).1→∃f,f<4∧Iz (BG st.1) f=a:=λ{a} ha=>by
  refine oE (List.mem_iff_getElem?.mp ha) λf hf=>?_;have hl:=(List.getElem?_eq_some_iff.mp hf).1;rw[I.len] at hl;exact⟨f,hl,by show(BG st.1).1.getD f 0=a;refine Aa (List.getD_eq_getElem?_getD) (Aa hf ?_);rfl⟩
 have hmem:∀f,f<4→Iz (BG st.1) f∈(BG st.1).1:=λf hf=>by
  show(BG st.1).1.getD f 0∈_;refine Aa (List.getD_eq_getElem?_getD) (Aa (List.getElem?_eq_getElem (by rw[I.len];exact hf)) ?_);exact List.getElem_mem _
 have hring:=NR V (GG 4 (Nat.le_refl _));have hmn:(∃f,f<4∧Iz (BG st.1) f = -1)↔mn = -1:=by
  constructor
  ·rintro ⟨f,hf,e⟩;refine An (hget m1) λg hg e2=>?_;exact Xf e (m2 _ (hmem f hf)) e2 (EU V hg)
  ·intro e;refine An (hget m1) λg hg e2=>?_;exact⟨g,hg,Xe e e2⟩
 refine⟨BG st.1,Il st,mn,RS,DB (Il st) 4,M,?_,?_,YL F rfl (⟨r2,r3⟩)⟩
 ·refine⟨rfl,r1,m1,m2,λh=>hmn.mp (hring.mp h),λe hno=>?_,F.P,rfl,hpl,λf hf=>?_,λf hf x hx=>?_,λk z_=>?_,λi hi k z_=>?_,λk hk s hs=>?_,F.rows⟩
  ·refine An (hring.mpr (hmn.mpr e)) λS s1 s2=>?_;exact hno S s1 s2
  ·refine Aa (F.read f hf) ?_;have hit:=F.it f hf;refine(?_:_=(Mh (st.1 f)).map Ah);generalize st.1 f=Q at hit
   induction Q with
   |nil=>rfl
   |cons a r ih=>
    have ih:=ih λit h=>hit it (.tail _ h)
    cases a with
    |inl x=>
     refine Aa List.map_cons (Aa (List.filter_cons_of_neg (by show ¬DS x=true;rw[((hit _ (.head _)).1).abs];decide)) (Aa ih ?_));rfl
    |inr n=>
     refine Aa List.map_cons (Aa (List.filter_cons_of_pos ((DO (hit _ (.head _))).1)) (Aa ih ?_));rfl
  ·rw[F.read f hf] at hx;refine An (List.mem_map.mp hx) λit a1 ho2=>?_;subst ho2;have ok:=F.it f hf it a1
   cases it with
   |inl x=>exact⟨by show 0<x.length;refine Aa ok.1.len ?_;decide,by show x.length≤100;refine Aa ok.1.len ?_;decide⟩
   |inr n=>exact(DO (g:=n) ok).2
  ·exact Nat.le_trans ((GG 4 (Nat.le_refl _)).sl k) (by decide)
  ·exact Nat.le_trans ((GG i hi).sl k) (aN (zm 100 (zv 0)) (zn 1000) [(0,100,zv 0,zn 4)] rfl (Av _) Ae hi)
  ·have h1:=List.count_pos_iff.mpr hs;rw[(GG 4 (Nat.le_refl _)).sc] at h1;split at h1
   ·rename_i h4;exact(GG 4 (Nat.le_refl _)).has s h4
   ·exact(aF [(0,1,za (zn 0) (zn 1),zn 0)] rfl (Av 0) Ae h1).elim
 ·refine⟨I.len,x1,x2,?_,r4,λg hg f hf=>?_,λi g hg=>?_⟩
  ·refine An (hget x1) λf hf e=>?_;have h1:=r3 f hf;by_cases hz:RS.length=0
   ·exact Xd e h1 (EU V hf) hz
   ·refine Cg (r2 (RS.length-1) _ (List.getElem?_eq_getElem (Xc hz))) λa1 a2 a3=>?_;refine oE (List.exists_mem_of_ne_nil _ a2) λg hg=>?_;refine oA ((a3 g).mp hg) λg4 gl=>?_;exact Xb e h1 gl (x2 _ (hmem g g4))
  ·refine oE (List.mem_iff_getElem?.mp hg) λi hi=>?_;exact(((r2 i g hi).2.2 f).mp hf).1
  ·refine Cg (r2 i g hg) λa1 a2 a3=>?_;refine⟨Nat.lt_of_le_of_lt (CZ 4 _ a1 λx hx=>((a3 x).mp hx).1) (by decide),λys hp hs=>Vz a1 a3 hp hs⟩
section
theorem AE.cut2(k:Nat)(J:PS→Lg→Prop){code:List Stmt}(h:AE c X ps (execs (code.take k) c.env) led J)(h2:∀ps' l,J ps' l→AE c X ps' (execs (code.drop k) c.env) l N):AE c X ps (execs code c.env) led N:=by
 refine AV (List.take_append_drop k code) (Aa (GY ..) ?_);intro s hs Q' q;refine wpAny_bind (h s hs _ λf s' hf=>?_)
 cases f with
 |next=>
  refine Ax hf λp l h1 h3=>?_;exact h2 p l h3 s' h1 Q' q
 |ret v=>exact wpAny_pure (q _ _ hf)
 |brk=>exact wpAny_pure (q _ _ hf)
 |cont=>exact wpAny_pure (q _ _ hf)
end
theorem OY(ho:(hd0.heap_1 P).lookup 538=some ⟨oc,od,.func (fnOf name qual params body scope dV kV doc pm an cdv ct),osl⟩)(c:Cf scope)(hc:VU c P)(hlen:ns.length≤63)(hr:Z5 c.h₀ r ns):AE c VT [("script",.ref r)] (execs body c.env) l λz_ z_=>False:=by
 have h9:(ns.take 5++[104,209,112,108]).length≤9:=by refine Aa List.length_append (Aa List.length_take ?_);simp only[List.length_cons,List.length_nil];lia
 refine Mj (Za h9 (Txt.item "abcd" (((ns.take 5).sum+2).fmod 4))) λlt pl mn RS Gf M H HE HF=>?_;refine AE.cut2 5 _ (Vf hlen rfl rfl H ho c hc hr l) λps1 l1 j1=>?_;refine AE.cut2 3 _ (Ve H ho c hc _ _ j1) λps2 l2 j2=>?_;refine Aa List.drop_drop ?_;refine AE.cut2 2 _ (Vd H ho c hc _ _ j2) λps3 l3 j3=>?_;refine Aa List.drop_drop ?_;refine AE.cut2 2 _ (Vb HE ho c hc _ _ j3) λps4 l4 j4=>?_;refine Aa List.drop_drop ?_;exact AE.cut2 3 _ (Va HF ho c hc _ _ j4) λz_ z_ h=>h.elim
theorem MN(X:(hd0.heap_1 w.params).In s.heap)(T:Top p loose mean mg mb s.heap){name qual:Str}{params:Arguments}{body:List Stmt}{scope:Scope}{dV kV doc pm cdv ct oc:Value}{an od:Option Addr}{osl:Array (Option Value)}{f:Addr}{vs:List Value}(ns:List Str)(ho:(hd0.heap_1 w.params).lookup f=some ⟨oc,od,.func (fnOf name qual params body scope dV kV doc pm an cdv ct),osl⟩)(hcd:codeIn (hd0.heap_1 w.params) cdv qual=true)(hb:BindsTo s (fnOf name qual params body scope dV kV doc pm an cdv ct) ⟨vs,[]⟩ (ns.zip vs))(hl:ns.all (Ft scope)=true)(hnd:((cellsFrom 0 scope.names []).map (·.1)).Nodup)(hco:scope.isCoroutine=false)(hgen:scope.isGenerator=false)(hk:scope.kind = .function){Q E:Value→Shared→Prop}(h:∀c':Cf scope,c'.w=w→c'.rd=none→Bs c'→c'.outer=[]→AU c' 300 3000→c'.h₀=s.heap→AE c' VT (ns.zip (vs.map er)).reverse (execs body c'.env) (λz_=>none) λz_ z_=>False)(q:∀h₁ tk,(∀b o,s.heap.get? b=some o→h₁.get? b=some o)→Q (.bool true) { s with heap:=h₁,toks:=tk }):wpAny (model PW w) callerA (call (.ref f) vs) Q E s:=by
 refine wpAny_call ?_;have hkd:∀y∈ns.zip vs,scope.names.lookup y.1=some .local∨scope.names.lookup y.1=some .cell:=λy hy=>by
  have:=List.all_eq_true.mp hl y.1 (List.of_mem_zip hy).1;unfold Ft at this;split at this
  ·exact .inl (by assumption)
  ·exact .inr (by assumption)
  ·contradiction
 have hhas:∀(n:Nat) x,scope.names.lookup x=some .cell→∃a,(cellsFrom n scope.names []).lookup x=some a:=λn x hx=>Cs (Kk _ n [] x (.inl (As hx)));refine codeAny_call_function (by decide) (X _ _ ho) rfl hco hgen rfl (codeRec_of X hcd) (hb _ _ _ _ ?_);refine wpAny_newFunctionEnv_cells hk (λy hy=>(hkd y hy).imp id λe=>⟨e,(oE (hhas (s.heap.objs.size+1) _ e) λa ha=>by refine Aa ha ?_;rfl)⟩) λenv' he s' x=>?_;subst he;refine⟨T.nolimit.keeps x.toInCall.keep,codeAny_func ?_⟩;refine Ax x.done λh₁ tk ho2 z_=>?_;subst ho2;have hk₁:=x.toInCall.keep;refine An (Cl.news (h₀:=s.heap) (Nat.le_refl _) λn c hm=>⟨x.cell n c (lookup_of_mem_nodup (cellsFrom_names scope.names 0 (s.heap.objs.size+1) [] [] rfl▸hnd) hm),x.above n c hm⟩) λcells NC Y=>?_;have Y:CellsAre (bindC (envOfC qual scope s.heap.objs.size f cdv).kindOf (ns.zip vs) λz_=>none) (cellsFrom (s.heap.objs.size+1) scope.names []) cells:=Y
 let R:Result→Shared→Prop:=λr s'=>match r with
  |.ok (.ret v)=>Q v s'
  |.ok _=>False
  |.error e=>E e s'
 let L':=s.heap.objs.size
 let cl:=cellsFrom (L'+1) scope.names []
 let env':=envX qual scope L' f cdv cl
 let c':Cf scope:={
  w:=w,dp:=callerA.depth+1,un:=callerA.units+3,gd:=callerA.guards,cn:=qual,cs₀:=scope,L:=L',a:=f,ccd:=cdv,cl:=cl,outer:=[]
  A₀:=callerA,base:=s.heap,h₀:=s.heap,p:=p,loose:=loose,mean:=mean,mg:=mg,mb:=mb,s:=s,fm:=λz_=>none,its:=[]
  E:=λe s'=>wpAny (model PW w) (callerA.deeper env') (leaving env' e) (λz_ s''=>R (.error e) s'') (λe' s''=>R (.error e') s'') s'
  env:=env',rd:=none,B:=below_caller s.heap,X:=X,T:=T,hk₀:=hk,hk:=hk,es:=rfl,eg:=rfl,eb:=rfl,own:=λz_=>⟨rfl,rfl⟩,loc:=(λz_ h=>by contradiction),rdIn:=(λz_ h=>by contradiction)
  inj:=λx y a hx hy=>GH (TF _ _ [] (λz_ h=>by contradiction) List.nodup_nil) (As hx) (As hy)
  has:=λx hx=>hhas _ x hx,hE:=λz_=>PassesOwn.leaving }
 have F':Fr s.heap L' h₁ (bindL (envOfC qual scope L' f cdv).kindOf (ns.zip vs) λz_=>none):=⟨x.toInCall.ns,hk₁,Nat.le_refl _⟩;have A₁:At c' (ns.zip (vs.map er)).reverse (λz_=>none) { s with heap:=h₁,toks:=tk }:=by
  refine⟨h₁,tk,_,cells,F',NC,(λa o e=>by contradiction),⟨λx v hv=>?_,λx a ha=>?_,(λz hz=>by contradiction),(λz_ h=>by contradiction)⟩⟩
  ·rw[EJ,← List.map_reverse,Bx] at hv;refine An (Option.map_eq_some_iff.mp hv) λv' h1 h2=>?_;refine⟨v',?_,h2⟩;unfold Rd;rcases hkd (x,v') (List.mem_reverse.mp (As h1)) with e | e
   ·refine Aa e ?_;refine(?_:bindL _ _ _ x=some v');have e':(envOfC qual scope L' f cdv).kindOf x=some .local:=e;refine Aa IY (Aa (if_pos e') (Aa h1 ?_));rfl
   ·refine Aa e ?_;refine CT λGG up=>?_;refine oE (hhas (L'+1) x e) λa ha=>?_;refine An (EA Y (As ha)) λo o1 o2=>?_;refine up ?_;refine⟨a,o,ha,o1,?_⟩;have e':¬(envOfC qual scope L' f cdv).kindOf x=some .local:=λq=>by
     have q:scope.names.lookup x=some .local:=q;rw[show scope.names.lookup x=some .cell from e] at q
     (have hq:=Option.some.inj q;contradiction)
    refine Aa o2 (Aa IZ (Aa (if_neg e') (Aa h1 ?_)));rfl
  ·refine An (EA Y (As ha)) λo o1 o2=>?_;exact⟨rfl,o,_,o1,o2⟩
 refine(h c' rfl rfl ⟨X,T⟩ rfl ⟨?_,?_⟩ rfl).wp A₁ λfl s' hf=>?_
 ·refine(?_:callerA.depth+1+300<_);decide
 ·refine(?_:callerA.units+3+3000<_);decide
 cases fl with
 |ret v=>
  refine Ax hf λps' led' h2 h3=>?_;obtain⟨h4,tk4,m4,con4,F4,_⟩:=h2;obtain rfl:=E2 h3;exact q h4 tk4 F4.keep
 |next=>
  refine Ax hf λps' led' h2 h3=>?_;exact h3.elim
 |brk=>
  refine Ax hf λz_ z_ z_ h3=>?_;exact h3.elim
 |cont=>
  refine Ax hf λz_ z_ z_ h3=>?_;exact h3.elim
theorem MC(X:(hd0.heap_1 w.params).In s.heap)(T:Top p loose mean mg mb s.heap)(ha:mg "law"=some (.ref a))(hr:Z5 s.heap r ns)(hlen:ns.length≤63){Q E:Value→Shared→Prop}(q:∀h₁ tk,(∀b o,s.heap.get? b=some o→h₁.get? b=some o)→Q (.bool true) { s with heap:=h₁,toks:=tk }):wpAny (model PW w) callerA (call (.ref a) [.ref r]) Q E s:=by
 have e:mg "law"=some (.ref 538):=mg_of X T.g (by k_is);rw[e] at ha;obtain rfl:538=a:=by simpa using ha
 refine' MN X T ["script"] ?ho ?hcd ?hb ?hl ?hnd ?c1 ?c2 ?c3 ?_ q
 case ho=>k_is
 case hcd=>k_is
 case hb=>exact BindsTo.of_eq rfl
 case hl=>exact rfl
 case hnd=>decide +kernel
 case c1=>rfl
 case c2=>rfl
 case c3=>rfl
 intro c hw hr0 bs ho0 rm hh;have hc:VU c w.params:=⟨by exact Aa hw rfl,hr0,bs,ho0,rm⟩;refine' OY ?ho2 c hc hlen (hh▸hr)
 case ho2=>k_is
theorem walk_of{q:Program}{loose:List Str}{XP:(Str→Option Value)→Heap→Prop}{d:DefRec}{kwd:List (Str×Expr)}{as:List Addr}{e:∀P,as=(hd0.heap_1 P).map (·.1)}(hn:d.name="law") :
  WalkO q loose XP (kHook hd0.heap_1 as e).says (OpenLaw.row PySem.Challenge.rw_pd0205_01).toRowW d kwd λf vs=>PySem.call f vs:=by
 intro w s₀ s₁ mg mb G Y a o pm cd doc dV kV ho hd hcd hD hmg hg args vals as hpre hlay hrd hwl hlo;have X:=kIn_of Y;have T:=G.T;rw[hn] at hmg;clear ho hd hcd hD Y
 wrow_args hpre hlay hrd hwl hlo
 rename IntsAre _ _=>hI
 rename Heap.IsList _ _ _=>hL
 rename ¬_<_=>hc
 refine MC X T hmg ⟨_,hL,Lr hI⟩ (aN (zv 0) (zn 63) [(7,1,za (zn 63) (zn 1),zv 0)] rfl (Av _) Ae hc) λh₁ tk hk=>?_;exact⟨.inl ⟨_,_,_,rfl,(λz_=>rfl),.bool true,postW_of (by wrow_shape) (by wtm_val) (by w_fin),λz_=>⟨List.nodup_nil,λz_ h=>by contradiction⟩⟩,.of_keep hk,rfl,.of_eq hg⟩
end Mine.Internal
theorem PySem.Challenge.cw_pd0205_01_holds : PySem.Challenge.rw_pd0205_01.Holds := by
  exact Mine.Internal.pinned fun hn => Mine.Internal.walk_of hn
