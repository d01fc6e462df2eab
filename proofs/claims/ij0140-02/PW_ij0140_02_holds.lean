import PyProof.Rows.All
import PyProof.Rules
import PyProof.Ops
import PyProof.Rules2
import PyProof.MakeMany
import PyProof.ListIndex
import PyProof.CompMap
import PyProof.ToksMono
import PyProof.PlainList
import PyProof.Commute
import PyProof.EqAt
import PyProof.EqKinds
import PyProof.RangeIter
import PyProof.WalksMore
import PyProof.RangeFor
import PyProof.ListTruth
import PyProof.WalkInts
import PyProof.Rows.StrWeight2
import PyProof.SliceMore
import PyProof.SumAny
import KE.KSortKey
import KE.KSortAsk
import OpenK.AllK
import Wide.All
import PySem.Challenge.RW_ij0140_02
namespace Mine
abbrev F6:Type:=Fin 6
noncomputable def Zxh (b:Nat):Nat→Nat→List Nat
  | 0,_=>[]
  | k + 1,n=>n % b::Zxh b k (n / b)
end Mine
set_option Elab.async false
set_option linter.unusedVariables false
set_option linter.all false
set_option maxRecDepth 1000000
set_option maxHeartbeats 0
namespace Mine
open PySem PySem.W PySem.W.X
section
set_option maxHeartbeats 0
open PySem PySem.W PySem.Calls PyProof.Rows
noncomputable abbrev hLw:OpenLaw:=PySem.Challenge.rw_ij0140_02
noncomputable abbrev hPw:Program:=PySem.Challenge.pw_ij0140_02
theorem lo0:Fast.tw11788848310118352699 hPw.main = true:=by kernel_rfl
theorem lo1:((Fast.tw9807087744658564304 hPw.main.body).isEmpty || Fast.tw12862048085361865435 (Fast.tw9807087744658564304 hPw.main.body) hPw.main.body) = true:=by kernel_rfl
theorem lo2:Fast.tw8377067652309620493 hPw = true:=by kernel_rfl
theorem lo3:(R.allR (Fast.tw18344453789297297638 hPw) fun n=>!Fast.tw3471404346716756564 Fast.tw14412699480532031325 n) = true:=by kernel_rfl
theorem lo4:Fast.tw8326940854005059898 { strict:=!R.allR (Fast.tw5923862056798008813 hPw.main.body) (Fast.tw3471404346716756564 Fast.tw17691160309236699985),foot:=none,bare:=R.filterR (Fast.tw13343964577679436407 hPw hPw.main.body) [{ cps:={ toList:=[118,97,114,115] } },{ cps:={ toList:=[100,105,114] } },{ cps:={ toList:=[108,111,99,97,108,115] } }] } hPw.main.body = true:=by kernel_rfl
theorem lo5:(Fast.tw17119622794617984870 hPw hPw.main.body fun x n=>Fast.tw17868728402115742887 n) = true:=by kernel_rfl
theorem lo:Fast.tw12908688711261696721 hPw = true:=look_both (look_both (look_both (look_both (look_both lo0 lo1) lo2) lo3) lo4) lo5
theorem lo_row:Fast.tw12908688711261696721 (Fast.tw2368527892694137696 hLw).prog = true:=lo
theorem lo_part:Fast.tw2436336058641802641 (Fast.tw2368527892694137696 hLw) = true:=by
  refine look_both (look_both (look_both (look_both (look_both (look_both (look_both (look_both (look_both (look_both (look_both (look_both (look_both lo_row ?a) ?b) ?c) ?d) ?e) ?f) ?g) ?h) ?i) ?j) ?k) ?l) ?m
  all_goals kernel_rfl
theorem lo_well:Fast.tw17960256430627541270 (Fast.tw2368527892694137696 hLw) = true:=by
  refine look_both (look_both lo_part ?a) ?b
  all_goals kernel_rfl
theorem law_ws1:Fast.tw9446332074065402090 hLw = true:=by
  refine look_both (look_both (look_both (look_both (look_both (look_both (look_both (look_both (look_both (look_both (look_both (look_both (look_both (look_both (look_both (look_both (look_both (look_both lo_well ?a) ?b) ?c) ?d) ?e) ?f) ?g) ?h) ?i) ?j) ?k) ?l) ?m) ?n) ?o) ?p) ?q) ?r
  all_goals kernel_rfl
theorem law_ws:PySem.Challenge.rw_ij0140_02.wellSaid = true:=(congrFun Fast.te9446332074065402090 _).trans law_ws1
theorem law_prom:PySem.Challenge.rw_ij0140_02.row.toRowW.promised:=by w_witness2
end
section
open PySem PySem.W PySem.Calls PyProof.Rows
noncomputable def BT.full (t:BT) (n:Nat):Prop:=∀ i,(t.get i).isSome = true↔i < n
theorem full_nil:BT.full .nil 0:=fun i=>⟨fun h=>Bool.noConfusion (h:false = true),fun h=>absurd h (Nat.not_lt_zero i)⟩
theorem full_left {v:Obj} {l r:BT} {n:Nat} (h:BT.full (.node v l r) n):BT.full l (n / 2):=fun i=>by
  have z:=h (2 * i + 1)
  rw [BT.get_node,if_neg (by lia),if_pos (by lia)] at z
  have e:(2 * i + 1) / 2 = i:=by lia
  rw [e] at z
  rw [z]
  lia
theorem full_right {v:Obj} {l r:BT} {n:Nat} (h:BT.full (.node v l r) n):BT.full r ((n - 1) / 2):=fun i=>by
  have z:=h (2 * i + 2)
  rw [BT.get_node,if_neg (by lia),if_neg (by lia)] at z
  have e:(2 * i + 2) / 2 - 1 = i:=by lia
  rw [e] at z
  rw [z]
  lia
theorem full_at:∀ (t:BT) (n:Nat) (o:Obj),BT.full t n→((t.ins n o).get n).isSome = true
  | .nil,n,o,h=>by
    have:n = 0:=by
      cases n with
      | zero=>rfl
      | succ n=>exact Bool.noConfusion (((h 0).mpr (Nat.succ_pos n):false = true))
    subst this
    rfl
  | .node v l r,n,o,h=>by
    rw [BT.ins_node]
    by_cases h0:n = 0
    · subst h0
      have:=(h 0).mp (by rw [BT.get_node]; rfl)
      lia
    · rw [if_neg h0]
      by_cases h1:n % 2 = 1
      · rw [if_pos h1,BT.get_node,if_neg h0,if_pos h1]
        exact full_at l (n / 2) o (full_left h)
      · rw [if_neg h1,BT.get_node,if_neg h0,if_neg h1]
        have e:n / 2 - 1 = (n - 1) / 2:=by lia
        rw [e]
        exact full_at r ((n - 1) / 2) o (full_right h)
theorem full_ins {t:BT} {n:Nat} {o:Obj} (h:BT.full t n):BT.full (t.ins n o) (n + 1):=fun i=>by
  rw [BT.get_ins o t n (full_at t n o h) i]
  by_cases e:i = n
  · rw [if_pos e]
    exact ⟨fun _=>by lia,fun _=>rfl⟩
  · rw [if_neg e,h i]
    lia
noncomputable def btGo:List Obj→BT→Nat→BT
  | [],t,_=>t
  | o::l,t,n=>btGo l (t.ins n o) (n + 1)
theorem btGo_get:∀ (l:List Obj) (t:BT) (n:Nat),BT.full t n→∀ i,(btGo l t n).get i = if i < n then t.get i else l[i - n]?
  | [],t,n,h,i=>by
    show t.get i = _
    by_cases q:i < n
    · rw [if_pos q]
    · rw [if_neg q]
      have:=h i
      cases e:t.get i with
      | none=>simp
      | some o=>rw [e] at this; exact absurd (this.mp rfl) q
  | o::l,t,n,h,i=>by
    show (btGo l (t.ins n o) (n + 1)).get i = _
    rw [btGo_get l _ _ (full_ins h) i,BT.get_ins o t n (full_at t n o h) i]
    by_cases q:i < n
    · have:i≠n:=by lia
      rw [if_pos q,if_pos (by lia),if_neg this]
    · rw [if_neg q]
      by_cases e:i = n
      · subst e
        rw [if_pos (by lia),if_pos rfl]
        simp
      · rw [if_neg (by lia)]
        have e2:i - n = (i - (n + 1)) + 1:=by lia
        rw [e2,List.getElem?_cons_succ]
noncomputable def ofSh (s:Shared):SharedT:=⟨btGo s.heap.objs.toList .nil 0,s.heap.objs.size,s.heap.life,s.gens,s.drawn,s.toks,s.os⟩
theorem ofSh_abs (s:Shared):(ofSh s).abs = s:=by
  obtain ⟨⟨⟨l⟩,life⟩,gens,drawn,toks,os⟩:=s
  have:absHeap (btGo l .nil 0) l.length life = ⟨⟨l⟩,life⟩:=by
    have e:(BT.list (btGo l .nil 0) l.length) = l:=by
      apply List.ext_getElem?
      intro i
      unfold BT.list
      rw [List.getElem?_map]
      by_cases h:i < l.length
      · rw [List.getElem?_range h]
        show some (((btGo l .nil 0).get i).getD default) = _
        rw [btGo_get l .nil 0 full_nil i,if_neg (by lia),Nat.sub_zero,List.getElem?_eq_getElem h]
        rfl
      · rw [List.getElem?_eq_none (by rw [List.length_range]; lia),List.getElem?_eq_none (by lia)]
        rfl
    unfold absHeap
    rw [e]
  show (⟨absHeap (btGo l .nil 0) l.length life,gens,drawn,toks,os⟩:Shared) = _
  rw [this]
noncomputable abbrev Stp:Type:=Program→World→SharedT→Thread→Option (SharedT × Thread)
noncomputable def hImp (stp:Stp) (ax:Thread→Option (List Value)) (p:Program) (w:World):Nat→SharedT→Thread→Option SharedT
  | 0,_,_=>none
  | n + 1,s,t=>match ax t with
    | some l=>match l with
      | []=>some s
      | _::_=>none
    | none=>match stp p w s t with
      | some r=>match r with | (s',t')=>hImp stp ax p w n s' t'
      | none=>none
theorem hImp_spec {tb:String→Option Builtin} {p:Program} {w:World}:∀ (n:Nat) (s:SharedT) (t:Thread) (s':SharedT),hImp (stepT (denote tb)) Thread.atExitBegin p w n s t = some s'→importEnds tb p w n s.abs t = some s'.abs
  | 0,_,_,_,h=>by cases h
  | n + 1,s,t,s',h=>by
    unfold hImp at h
    unfold importEnds
    cases ht:t.atExitBegin with
    | some l =>
      rw [ht] at h
      cases l with
      | nil=>cases h; rfl
      | cons _ _=>cases h
    | none =>
      rw [ht] at h
      dsimp only at h
      cases hs:stepT (denote tb) p w s t with
      | none=>rw [hs] at h; cases h
      | some r =>
        obtain ⟨s₁,t₁⟩:=r
        rw [hs] at h
        dsimp only at h ⊢
        rw [stepT_spec hs]
        exact hImp_spec n s₁ t₁ s' h
noncomputable def hTop (stp:Stp) (ok:Nat→Option Value→Thread→Bool) (p:Program) (w:World) (n₀:Nat) (ann:Option Value):Nat→SharedT→Thread→Option SharedT
  | 0,_,_=>none
  | n + 1,s,t=>match through t with
    | true=>some s
    | false=>match ok n₀ ann t with
      | false=>none
      | true=>match stp p w s t with
        | some r=>match r with | (s',t')=>hTop stp ok p w n₀ ann n s' t'
        | none=>none
theorem hTop_spec {tb:String→Option Builtin} {p:Program} {w:World} {n₀:Nat} {ann:Option Value}:∀ (n:Nat) (s:SharedT) (t:Thread) (s':SharedT),hTop (stepT (denote tb)) stepOk p w n₀ ann n s t = some s'→topRun tb p w n₀ ann n s.abs t = some s'.abs
  | 0,_,_,_,h=>by cases h
  | n + 1,s,t,s',h=>by
    unfold hTop at h
    unfold topRun
    cases ht:through t with
    | true=>rw [ht] at h; cases h; rfl
    | false =>
      rw [ht] at h
      dsimp only at h ⊢
      cases hk:stepOk n₀ ann t with
      | false=>rw [hk] at h; cases h
      | true =>
        rw [hk] at h
        dsimp only at h ⊢
        cases hs:stepT (denote tb) p w s t with
        | none=>rw [hs] at h; cases h
        | some r =>
          obtain ⟨s₁,t₁⟩:=r
          rw [hs] at h
          dsimp only at h ⊢
          rw [stepT_spec hs]
          exact hTop_spec n s₁ t₁ s' h
noncomputable def hRun (stp:Stp) (ax:Thread→Option (List Value)) (ok:Nat→Option Value→Thread→Bool) (st:Program→Shared × Thread) (fence:Program→Shared→Option Shared) (nm:Heap→Addr→Str→Option Value) (p:Program) (w:World) (N M:Nat):Option (Shared × SharedT) :=
  match hImp stp ax (opening p) w N (ofSh (st (opening p)).1) (st (opening p)).2 with
  | none=>none
  | some s=>match fence p s.abs with
    | none=>none
    | some s₀=>match hTop stp ok p w s₀.heap.objs.size (nm s₀.heap mainGlobals "__annotations__") M (ofSh s₀) (topStub p) with
      | none=>none
      | some s₁=>some (s₀,s₁)
theorem hRun_spec {p:Program} {w:World} {N M K:Nat} (hN:N≤K) (hM:M≤K) {s₀:Shared} {s₁:SharedT} (h:hRun (stepT (denote treeTable)) Thread.atExitBegin stepOk start fenceModules? Heap.nsMap p w N M = some (s₀,s₁)) :
    fencedOpening treeTable p w K = some s₀∧topRun treeTable p w s₀.heap.objs.size (s₀.heap.nsMap mainGlobals "__annotations__") K s₀ (topStub p) = some s₁.abs:=by
  unfold hRun at h
  split at h
  · cases h
  · rename_i s e1
    split at h
    · cases h
    · rename_i s' e2
      split at h
      · cases h
      · rename_i s'' e3
        cases h
        have a1:=hImp_spec _ _ _ _ e1
        rw [ofSh_abs] at a1
        have a1:=importEnds_mono (K - N) _ _ _ _ a1
        rw [show N + (K - N) = K by lia] at a1
        have a3:=hTop_spec _ _ _ _ e3
        rw [ofSh_abs] at a3
        have a3:=topRun_mono (K - M) _ _ _ _ a3
        rw [show M + (K - M) = K by lia] at a3
        refine ⟨?_,a3⟩
        unfold fencedOpening
        rw [a1]
        exact e2
end
section
set_option maxHeartbeats 0
open PySem PySem.W PySem.Calls PyProof.Rows
noncomputable abbrev hP:Program:=PySem.Challenge.pw_ij0140_02
noncomputable def hQ:Program:=view hP [37]
noncomputable def hLoose:List Str:=["_sre", "deque", "_wall", "cmp_to_key", "_initial_missing", "reduce", "_twin_re_1", "_whence", "_index", "UnsupportedOperation", "IOBase", "BufferedIOBase", "TextIOBase", "BytesIO", "StringIO", "_kind", "_fspath", "_check_arg_types", "isabs", "join", "join_path", "dirname", "shlex", "split", "join_shlex", "_find_unsafe", "quote", "_law_drawn", "_law_pile", "_law_dealer", "_law_numbers"]
noncomputable def hFast (w:World):Option (Shared × SharedT):=hRun (Fast.tw10156331382660048174 (Fast.tw11892475500146522536 Fast.tw14364793385576792824)) Fast.tw3805553451399329143 Fast.tw6613529449190102663 Fast.tw1435165496053646825 Fast.tw14289696077712309145 Fast.tw8920871248978507458 hP w 2000 6000
theorem hFast_eq (w:World):hFast w = hRun (stepT (denote treeTable)) Thread.atExitBegin stepOk start fenceModules? Heap.nsMap hP w 2000 6000:=by
  unfold hFast
  rw [← Fast.te10156331382660048174,← Fast.te11892475500146522536,← Fast.te14364793385576792824,← Fast.te3805553451399329143,← Fast.te6613529449190102663,← Fast.te1435165496053646825,← Fast.te14289696077712309145,← Fast.te8920871248978507458]
theorem tA (w:World):(hFast w).map (fun r=>r.2.n) = some 805:=by kernel_rfl
end
structure Bag where
  g:Nat→Nat→Nat
  of:(Nat→Nat→Nat)→List (Addr × Obj)
noncomputable def Zqr:List Bag→List (Addr × Obj)
  | []=>[]
  | b::r=>b.of b.g++Zqr r
inductive Zvz where
  | a (x:Nat)
  | c (x:Code)
  | p (x:List (Option (Addr × Obj)))
  | i (x:String)
  | k (x:List (Str × Value))
  | o (x:Obj)
  | f (x:Option (List Env))
  | b (x:List (Option Bag))
structure ES where
  objs:List (Addr × Obj)
  bags:List Bag
  gk:Bool
  m:Nat
  i:Nat
  orc:List Nat
  log:List Nat
  eqs:List (Zvz × Zvz)
  obl:List Prop
structure Ext where
  nat:Nat→Nat
  sl:Nat→Array (Option Value)
  seq:Nat→Nat→Nat→Nat
  ob:Obj
noncomputable def Ext.nil:Ext:=⟨fun _=>0,fun _=>#[],fun _ _ _=>0,{ cls:=.none }⟩
structure LookOk (st:List (Code × Pos)):Prop where
  room:oRoom.1 st = false
  near:∀ own,oNear.1 st own recursionLimit = false
  over:∀ own,oOver.1 st own recursionLimit = false
  warm:∀ own,oWarm.1 st own recursionLimit = false
structure Looks where
  st:List (Code × Pos)
  ok:LookOk st
inductive Out (α:Type) where
  | ok (a:α) (s:ES)
  | err (e:Value) (s:ES)
  | stop (w:String) (k:Nat) (s:ES)
  | more (k:Ext→Out α)
  | look (k:Looks→Out α)
noncomputable def Out.bind {α β:Type} (f:α→ES→Out β) (g:Value→ES→Out β):Out α→Out β
  | .ok a s=>f a s
  | .err e s=>g e s
  | .stop w k s=>.stop w k s
  | .more k=>.more fun x=>(k x).bind f g
  | .look k=>.look fun x=>(k x).bind f g
inductive AnsR where
  | skip (s:ES)
  | take (o:Out Flow)
structure Cfg where
  den:Code→Sem Fin
  prep:Addr→FuncData→Args→Sem Env
  set:Setting
  top:Addr→Option Obj
  n:Nat
  t:Nat
  native:Bool
  sym:Code→Nat
  ans:Option (List Env)→Nat→Code→ES→AnsR
noncomputable def idxOf (a:Addr):List (Addr × Obj)→Nat→Option Nat
  | [],_=>none
  | p::r,k=>if p.1 == a then some k else idxOf a r (k + 1)
noncomputable def at? {α:Type}:List α→Nat→Option α
  | [],_=>none
  | p::r,k=>match k with
    | 0=>some p
    | k + 1=>at? r k
noncomputable def setAt (f:Obj→Obj):List (Addr × Obj)→Nat→List (Addr × Obj)
  | [],_=>[]
  | p::r,k=>match k with
    | 0=>(match p with | (a,o)=>(a,f o))::r
    | k + 1=>p::setAt f r k
noncomputable def pick (C:Cfg) (a:Addr) (s:ES) (K:Nat→ES→Out α):Out α:=match s with
  | ⟨objs,bgs,gk,m,i,orc,log,eqs,obl⟩=>match C.native with
    | true=>let k:=match idxOf a objs 0 with | some k=>k + 1 | none=>0
              K k ⟨objs,bgs,gk,m,i,orc,k::log,eqs,obl⟩
    | false=>match orc with
      | k::orc=>K k ⟨objs,bgs,gk,m,i,orc,log,eqs,obl⟩
      | []=>.stop "oracle" a ⟨objs,bgs,gk,m,i,orc,log,eqs,obl⟩
noncomputable def askK (C:Cfg) (own:Nat) (s:ES) (K:Nat→ES→Out α):Out α:=match s with
  | ⟨objs,bgs,gk,m,i,orc,log,eqs,obl⟩=>match C.native with
    | true=>K own ⟨objs,bgs,gk,m,i,orc,own::log,eqs,obl⟩
    | false=>match orc with
      | k::orc=>K k ⟨objs,bgs,gk,m,i,orc,log,eqs,obl⟩
      | []=>.stop "oracle" 0 ⟨objs,bgs,gk,m,i,orc,log,eqs,obl⟩
noncomputable def owe (p:Prop) (s:ES):ES:=match s with
  | ⟨objs,bgs,gk,m,i,orc,log,eqs,obl⟩=>⟨objs,bgs,gk,m,i,orc,log,eqs,p::obl⟩
noncomputable def getObj (C:Cfg) (a:Addr) (s:ES) (K:Obj→ES→Out α):Out α:=pick C a s fun k s=>match k with
  | 0=>match C.top a with
    | some o=>K o s
    | none=>.stop "top" a s
  | k + 1=>match s with
    | ⟨objs,bgs,gk,m,i,orc,log,eqs,obl⟩=>match at? objs k with
      | some p=>match p with | (b,o)=>K o ⟨objs,bgs,gk,m,i,orc,log,(.a a,.a b)::eqs,obl⟩
      | none=>.stop "known" a s
noncomputable def putObj (C:Cfg) (a:Addr) (f:Obj→Obj) (s:ES) (K:ES→Out α):Out α:=pick C a s fun k s=>match k with
  | 0=>.stop "update top" a s
  | k + 1=>match s with
    | ⟨objs,bgs,gk,m,i,orc,log,eqs,obl⟩=>match at? objs k with
      | some p=>match p with | (b,o)=>match (f o).isFreed with
        | true=>.stop "freed" a s
        | false=>K ⟨setAt f objs k,bgs,gk,m,i,orc,log,(.a a,.a b)::eqs,obl⟩
      | none=>.stop "known" a s
noncomputable def newObj (C:Cfg) (o:Obj) (s:ES) (K:Addr→ES→Out α):Out α:=match s with
  | ⟨objs,bgs,gk,m,i,orc,log,eqs,obl⟩=>match o.isFreed with
    | true=>.stop "freed" 0 s
    | false=>K (C.n + m) ⟨(C.n + m,o)   :: objs,bgs,gk,m + 1,i,orc,log,eqs,obl⟩
noncomputable def newTok (C:Cfg) (s:ES) (K:Tok→ES→Out α):Out α:=match s with
  | ⟨objs,bgs,gk,m,i,orc,log,eqs,obl⟩=>K (C.t + i) ⟨objs,bgs,gk,m,i + 1,orc,log,eqs,obl⟩
noncomputable def engT (C:Cfg) (callF:Code→ES→Out Flow):Sem α→ES→Out α
  | .pure a=>fun s=>.ok a s
  | .raise e=>fun s=>.err e s
  | .rule _ k=>engT C callF (k ())
  | .at _ k=>engT C callF (k ())
  | .point _ k=>engT C callF (k ())
  | .ask k=>engT C callF (k C.set)
  | .load a _ k=>fun s=>getObj C a s fun o s=>engT C callF (k o) s
  | .update a _ f k=>fun s=>putObj C a f s fun s=>engT C callF (k ()) s
  | .alloc o k=>fun s=>newObj C o s fun a s=>engT C callF (k a) s
  | .fresh k=>fun s=>newTok C s fun t s=>engT C callF (k t) s
  | .handled own k=>fun s=>match own with
    | false=>engT C callF (k none) s
    | true=>.stop "handled" 0 s
  | .call c hd _ _ k=>fun s=>match hd with
    | none=>(callF c s).bind (fun f s=>engT C callF (k (.ok f)) s) (fun e s=>engT C callF (k (.error e)) s)
    | some _=>.stop "call: handling" 0 s
  | .stack k=>fun s=>match C.native with
    | true=>engT C callF (k []) s
    | false=>.look fun L=>engT C callF (k L.st) s
  | .unsupported w=>fun s=>.stop w 1 s
  | _=>fun s=>.stop "node" 0 s
noncomputable def isDef (o:Obj):Option FuncData:=match o with
  | ⟨_,_,.func fd,_⟩=>match fd.scope.isGenerator with
    | true=>none
    | false=>match fd.scope.isCoroutine with
      | true=>none
      | false=>some fd
  | _=>none
noncomputable def Zjm (fd:FuncData) (env:Env):Code:=match fd.body with
  | .stmts b=>.func b env
  | .expr e=>.expr e env
noncomputable def fixB (C:Cfg) (c:Code) (f:Flow) (s:ES):Out Flow:=match c with
  | .builtin _ _=>match f with
    | .ret v=>match v with
      | .bool b=>askK C (match C.sym c with | 0=>0 | _=>match b with | false=>1 | true=>2) s fun k s=>match k with
        | 0=>.ok (.ret (.bool b)) s
        | k + 1=>match k with
          | 0=>.ok (.ret (.bool false)) (owe (b = false) s)
          | _=>.ok (.ret (.bool true)) (owe (b = true) s)
      | _=>.ok f s
    | _=>.ok f s
  | _=>.ok f s
noncomputable def engFin (C:Cfg) (callF:Code→ES→Out Flow) (c:Code) (fin:Fin) (s:ES):Out Flow:=match fin with
  | .done f=>fixB C c f s
  | .again c'=>match c'.quiet with
    | true=>callF c' s
    | false=>.stop "quiet" 0 s
noncomputable def engTree (C:Cfg) (callF agF:Option (List Env)→Code→ES→Out Flow) (fs:Option (List Env)) (c:Code) (s:ES):Out Flow :=
  (engT C (callF (pushEnvs c.envs fs)) (C.den c) s).bind (engFin C (agF fs) c) .err
noncomputable def engCall (C:Cfg) (callF agF:Option (List Env)→Code→ES→Out Flow) (fs:Option (List Env)) (a:Addr) (args:Args) (s:ES):Out Flow:=getObj C a s fun o s'=>match isDef o with
  | some fd=>(engT C (callF fs) (C.prep a fd args) s').bind (fun env s=>engTree C callF agF fs (Zjm fd env) s) .err
  | none=>engTree C callF agF fs (.call (.ref a) args) s'
noncomputable def engBody (C:Cfg) (callF agF:Option (List Env)→Code→ES→Out Flow) (fs:Option (List Env)) (c:Code) (s:ES):Out Flow:=match c with
  | .call f args=>match f with
    | .ref a=>engCall C callF agF fs a args s
    | _=>engTree C callF agF fs c s
  | _=>engTree C callF agF fs c s
noncomputable def ansThen (C:Cfg) (k:Nat) (B:Option (List Env)→Code→ES→Out Flow) (fs:Option (List Env)) (c:Code) (s:ES):Out Flow:=match C.ans fs k c s with
  | .take o=>o
  | .skip s=>B fs c s
noncomputable def engStop (_:Option (List Env)) (_:Code) (s:ES):Out Flow:=.stop "fuel" 0 s
noncomputable def callAt (C:Cfg) (n:Nat) (B:Option (List Env)→Code→ES→Out Flow):Option (List Env)→Code→ES→Out Flow:=match n with
  | 0=>engStop
  | k + 1=>ansThen C k B
noncomputable def engB (C:Cfg):Nat→Option (List Env)→Code→ES→Out Flow
  | 0=>engStop
  | n + 1=>engBody C (callAt C n (engB C n)) (ansThen C n (engB C n))
noncomputable def engC (C:Cfg) (n:Nat):Option (List Env)→Code→ES→Out Flow:=callAt C n (engB C n)
noncomputable def Zkz (self:Addr) (fd:FuncData) (args:Args):Sem Env:=do
  let compiled ← match fd.code with
    | .none=>pure fd.qualname
    | c=>do match ← field c 1 with
      | .str q _=>pure q
      | _=>pure fd.qualname
  newFunctionEnv fd.scope fd.globals fd.closure (← bindArgs fd args) (compiled ++ ".<locals>.") (some self) fd.code none fd.builtins
theorem callFunction_eq (a:Addr) (fd:FuncData) (args:Args) (h1:fd.scope.isGenerator = false) (h2:fd.scope.isCoroutine = false) :
    callFunction a fd args = Zkz a fd args >>= fun env=>enterFrame >>= fun _=>again (Zjm fd env):=by
  unfold callFunction Zkz Zjm
  simp only [h1,h2]
  generalize fd.code = cd
  cases cd with
  | none=>exact (bind_assoc (m:=Sem) (bindArgs fd args) _ _).symm
  | _ =>
    dsimp only
    rw [bind_assoc]
    refine congrArg _ (funext fun x=>?_)
    cases x <;> exact (bind_assoc (m:=Sem) (bindArgs fd args) _ _).symm
noncomputable def Zq5 (may:Bool) (g g':Array GenState):Prop:=(may = false→g' = g)∧(PyProof.Rows.AllBare g→PyProof.Rows.AllBare g')
theorem Zq5.refl (b:Bool) (g:Array GenState):Zq5 b g g:=⟨fun _=>rfl,id⟩
theorem Zq5.trans {b c d:Bool} {g g' g'':Array GenState} (x:Zq5 b g g') (y:Zq5 c g' g'') (h:d = false→b = false∧c = false):Zq5 d g g'' :=
  ⟨fun e=>(y.1 (h e).2).trans (x.1 (h e).1),fun z=>y.2 (x.2 z)⟩
theorem Zq5.may {b:Bool} {g g':Array GenState} (x:Zq5 b g g'):Zq5 true g g':=⟨fun e=>Bool.noConfusion e,x.2⟩
structure Clk where
  tok:Nat
  gens:Array GenState
structure Base where
  heap:Heap
  gens:Array GenState
noncomputable def Base.get? (B:Base) (a:Addr):Option Obj:=B.heap.get? a
noncomputable def Base.NoLimit (B:Base):Prop:=B.heap.NoLimit
noncomputable def Clk.up (t:Clk) (k:Nat):Clk:=⟨t.tok + k,t.gens⟩
noncomputable def ES.all (st:ES):List (Addr × Obj):=st.objs++Zqr st.bags
structure Rep (C:Cfg) (h₀:Base) (st:ES) (h:Heap) (t:Clk):Prop where
  size:h.objs.size = C.n + st.m
  toks:t.tok = C.t + st.i
  own:∀ p ∈ st.all,h.get? p.1 = some p.2
  nodup:(st.all.map (·.1)).Nodup
  keep:∀ b o,h₀.get? b = some o→h.get? b = some o
  apart:∀ p ∈ st.all,h₀.get? p.1 = none
  gens:Zq5 (!st.gk) h₀.gens t.gens
theorem all_mem {st:ES} {p:Addr × Obj} (h:p ∈ st.objs):p ∈ st.all:=List.mem_append_left _ h
noncomputable def Zkm (st:ES):Prop:=(∀ e ∈ st.eqs,e.1 = e.2)∧∀ p ∈ st.obl,p
structure Zkc where
  d:Drawn
  os:OsState
noncomputable abbrev Zkc.at (r:Zkc) (h:Heap) (t:Clk):Shared:=⟨h,t.gens,r.d,t.tok,r.os⟩
noncomputable def Post {α:Type} (C:Cfg) (h₀:Base) (r:Zkc) (out:Out α) (Q:α→Shared→Prop) (E:Value→Shared→Prop):Prop:=match out with
  | .ok a st=>Zkm st∧∀ h t,Rep C h₀ st h t→Q a (r.at h t)
  | .err e st=>Zkm st∧∀ h t,Rep C h₀ st h t→E e (r.at h t)
  | .stop _ _ _=>False
  | .more k=>∀ x,Post C h₀ r (k x) Q E
  | .look k=>∀ L,Post C h₀ r (k L) Q E
theorem bind_post {α β:Type} {C:Cfg} {h₀:Base} {r:Zkc} {f:α→ES→Out β} {g:Value→ES→Out β} {Q:β→Shared→Prop} {E:Value→Shared→Prop} {Q':α→Shared→Prop} {E':Value→Shared→Prop}
    (hf:∀ a st,Post C h₀ r (f a st) Q E→Zkm st∧∀ h t,Rep C h₀ st h t→Q' a (r.at h t)) (hg:∀ e st,Post C h₀ r (g e st) Q E→Zkm st∧∀ h t,Rep C h₀ st h t→E' e (r.at h t)) :
    ∀ o:Out α,Post C h₀ r (o.bind f g) Q E→Post C h₀ r o Q' E'
  | .ok a st=>hf a st
  | .err e st=>hg e st
  | .stop _ _ _=>id
  | .more k=>fun P x=>bind_post hf hg (k x) (P x)
  | .look k=>fun P x=>bind_post hf hg (k x) (P x)
structure AOk (A:Around) (fs:Option (List Env)) (n:Nat):Prop where
  hand:A.handled = none
  deep:A.depth + 5 * n < recursionLimit
  units:A.units + 10 * n < cLine
  frames:∀ l,fs = some l→A.frames = some l
theorem lookOk_of {A:Around} {fs:Option (List Env)} {n:Nat} {st:List (Code × Pos)} (l:Lies A st) (hA:AOk A fs n):LookOk st:=by
  have hd:A.depth < recursionLimit:=Nat.lt_of_le_of_lt (Nat.le_add_right _ _) hA.deep
  exact ⟨l.room (Nat.lt_of_le_of_lt (Nat.le_add_right _ _) hA.units),l.near' hd,l.over hd,l.warm hd⟩
theorem lookOk_nil:LookOk []:=by
  refine ⟨?_,?_,?_,?_⟩
  · rw [oRoom.2]; decide
  · intro own; rw [oNear.2]; show nearTheLimitUnderAClaim [] _ _ = false; rw [near_is]; simp
  · intro own; rw [oOver.2]; simp [recursionLimit]
  · intro own; rw [oWarm.2]; simp [recursionLimit]
noncomputable def looks0:Looks:=⟨[],lookOk_nil⟩
theorem x_stack {α:Type} {prog:Program} {w:World} {A:Around} {Q:α→Shared→Prop} {E:Value→Shared→Prop} {s:Shared} {k:List (Code × Pos)→Sem α} (h:∀ st,Lies A st→wpAny (model prog w) A (k st) Q E s):wpAny (model prog w) A (.stack k) Q E s :=
  fun Γ p hΓ=>h _ (lies_of (p:=p) hΓ) Γ p hΓ
structure CfgOk (C:Cfg) (prog:Program) (w:World) (h₀:Base) (r:Zkc):Prop where
  real:C.native = false
  den:C.den = denote table
  prep:C.prep = Zkz
  set:C.set = ⟨prog,w.params⟩
  top:∀ a o,C.top a = some o→h₀.get? a = some o
  nolimit:h₀.NoLimit
  ans:∀ fs n c st,match C.ans fs n c st with
    | .skip st'=>st'.objs = st.objs∧st'.m = st.m∧st'.i = st.i∧st'.eqs = st.eqs∧st'.obl = st.obl∧st'.bags = st.bags∧st'.gk = st.gk
    | .take out=>∀ R:Result→Shared→Prop,Post C h₀ r out (fun f=>R (.ok f)) (fun e=>R (.error e)) →
      Zkm st∧∀ A h t,AOk A fs (n + 1)→Rep C h₀ st h t→codeAny (model prog w) A c R (r.at h t)
theorem at?_mem {α:Type}:∀ {l:List α} {k:Nat} {p:α},at? l k = some p→p ∈ l
  | [],_,_,e=>by cases e
  | q::r,0,p,e=>by cases e; exact .head _
  | q::r,k + 1,p,e=>.tail _ (at?_mem (l:=r) (k:=k) e)
theorem setAt_fst (f:Obj→Obj):∀ (l:List (Addr × Obj)) (k:Nat),(setAt f l k).map (·.1) = l.map (·.1)
  | [],_=>rfl
  | (a,o)::r,0=>rfl
  | q::r,k + 1=>congrArg (q.1::·) (setAt_fst f r k)
theorem setAt_mem (f:Obj→Obj):∀ {l:List (Addr × Obj)} {k:Nat} {b:Addr} {o:Obj},at? l k = some (b,o)→(l.map (·.1)).Nodup→∀ p ∈ setAt f l k,p = (b,f o) ∨ (p ∈ l∧p.1≠b)
  | [],_,_,_,e,_,_,_=>by cases e
  | (a,ob)::r,0,b,o,e,hn,p,hp=>by
    cases e
    rcases List.mem_cons.mp hp with rfl | hp
    · exact .inl rfl
    · refine .inr ⟨.tail _ hp,fun q=>?_⟩
      rw [List.map_cons,List.nodup_cons] at hn
      exact hn.1 (List.mem_map.mpr ⟨p,hp,q⟩)
  | q::r,k + 1,b,o,e,hn,p,hp=>by
    rw [List.map_cons,List.nodup_cons] at hn
    rcases List.mem_cons.mp hp with rfl | hp
    · refine .inr ⟨.head _,fun z=>hn.1 ?_⟩
      rw [z]
      exact List.mem_map_of_mem (at?_mem (l:=r) (k:=k) e)
    · rcases setAt_mem f (l:=r) (k:=k) e hn.2 p hp with h | h
      · exact .inl h
      · exact .inr ⟨.tail _ h.1,h.2⟩
section
variable {C:Cfg} {h₀:Base} {r:Zkc} {prog:Program} {w:World} {α:Type} {Q:α→Shared→Prop} {E:Value→Shared→Prop}
theorem pick_spec {a:Addr} {st:ES} {K:Nat→ES→Out α} (P:Post C h₀ r (pick C a st K) Q E) :
    ∃ k st',Post C h₀ r (K k st') Q E∧st'.objs = st.objs∧st'.m = st.m∧st'.i = st.i∧st'.eqs = st.eqs∧st'.obl = st.obl∧st'.bags = st.bags∧st'.gk = st.gk:=by
  obtain ⟨objs,bgs,gk,m,i,orc,log,eqs,obl⟩:=st
  unfold pick at P
  dsimp only at P
  split at P
  · exact ⟨_,_,P,rfl,rfl,rfl,rfl,rfl,rfl,rfl⟩
  · cases orc with
    | nil=>exact P.elim
    | cons k orc=>exact ⟨_,_,P,rfl,rfl,rfl,rfl,rfl,rfl,rfl⟩
theorem askK_spec {own:Nat} {st:ES} {K:Nat→ES→Out α} (P:Post C h₀ r (askK C own st K) Q E) :
    ∃ k st',Post C h₀ r (K k st') Q E∧st'.objs = st.objs∧st'.m = st.m∧st'.i = st.i∧st'.eqs = st.eqs∧st'.obl = st.obl∧st'.bags = st.bags∧st'.gk = st.gk:=by
  obtain ⟨objs,bgs,gk,m,i,orc,log,eqs,obl⟩:=st
  unfold askK at P
  dsimp only at P
  split at P
  · exact ⟨_,_,P,rfl,rfl,rfl,rfl,rfl,rfl,rfl⟩
  · cases orc with
    | nil=>exact P.elim
    | cons k orc=>exact ⟨_,_,P,rfl,rfl,rfl,rfl,rfl,rfl,rfl⟩
theorem same_ok {st st':ES} (e:st'.objs = st.objs∧st'.m = st.m∧st'.i = st.i∧st'.eqs = st.eqs∧st'.obl = st.obl∧st'.bags = st.bags∧st'.gk = st.gk) (x:Zkm st'):Zkm st:=by
  obtain ⟨objs,bgs,gk,m,i,orc,log,eqs,obl⟩:=st'
  obtain ⟨e1,e2,e3,e4,e5,e6,e7⟩:=e
  dsimp only at e1 e2 e3 e4 e5 e6 e7
  subst e1 e2 e3 e4 e5 e6 e7
  exact x
theorem same_rep {st st':ES} {h:Heap} {t:Clk} (e:st'.objs = st.objs∧st'.m = st.m∧st'.i = st.i∧st'.eqs = st.eqs∧st'.obl = st.obl∧st'.bags = st.bags∧st'.gk = st.gk) (x:Rep C h₀ st h t):Rep C h₀ st' h t:=by
  obtain ⟨objs,bgs,gk,m,i,orc,log,eqs,obl⟩:=st'
  obtain ⟨e1,e2,e3,e4,e5,e6,e7⟩:=e
  dsimp only at e1 e2 e3 e4 e5 e6 e7
  subst e1 e2 e3 e4 e5 e6 e7
  exact ⟨x.size,x.toks,x.own,x.nodup,x.keep,x.apart,x.gens⟩
theorem owe_ok {p:Prop} {st:ES} (x:Zkm (owe p st)):p∧Zkm st:=⟨x.2 p (.head _),x.1,fun q hq=>x.2 q (.tail _ hq)⟩
theorem owe_rep {p:Prop} {st:ES} {h:Heap} {t:Clk} (x:Rep C h₀ st h t):Rep C h₀ (owe p st) h t:=⟨x.size,x.toks,x.own,x.nodup,x.keep,x.apart,x.gens⟩
theorem fixB_spec {c:Code} {f:Flow} {st:ES} {Q:Flow→Shared→Prop} (P:Post C h₀ r (fixB C c f st) Q E):Post C h₀ r (.ok f st) Q E:=by
  unfold fixB at P
  split at P
  · split at P
    · split at P
      · rename_i b
        obtain ⟨k,st',P,e⟩:=askK_spec P
        cases k with
        | zero=>exact ⟨same_ok e P.1,fun h t D=>P.2 h t (same_rep e D)⟩
        | succ k =>
          cases k with
          | zero =>
            obtain ⟨p,x⟩:=owe_ok P.1
            subst p
            exact ⟨same_ok e x,fun h t D=>P.2 h t (owe_rep (same_rep e D))⟩
          | succ k =>
            obtain ⟨p,x⟩:=owe_ok P.1
            subst p
            exact ⟨same_ok e x,fun h t D=>P.2 h t (owe_rep (same_rep e D))⟩
      · exact P
    · exact P
  · exact P
theorem getObj_spec (ok:CfgOk C prog w h₀ r) {a:Addr} {st:ES} {K:Obj→ES→Out α} (P:Post C h₀ r (getObj C a st K) Q E) :
    ∃ o st',Post C h₀ r (K o st') Q E∧(Zkm st'→Zkm st∧∀ h t,Rep C h₀ st h t→h.get? a = some o∧Rep C h₀ st' h t):=by
  obtain ⟨k,st1,P,e1,e2,e3,e4,e5,e6,e7⟩:=pick_spec P
  obtain ⟨objs,bgs,gk,m,i,orc,log,eqs,obl⟩:=st1
  subst e1 e2 e3 e4 e5 e6 e7
  cases k with
  | zero =>
    dsimp only at P
    split at P
    · rename_i o ho
      exact ⟨o,_,P,fun x=>⟨x,fun h t D=>⟨D.keep _ _ (ok.top _ _ ho),⟨D.size,D.toks,D.own,D.nodup,D.keep,D.apart,D.gens⟩⟩⟩⟩
    · exact P.elim
  | succ k =>
    dsimp only at P
    split at P
    · rename_i p hp
      obtain ⟨b,o⟩:=p
      refine ⟨o,_,P,fun x=>?_⟩
      have hab:a = b:=by have:=x.1 (.a a,.a b) (.head _); injection this
      refine ⟨⟨fun e he=>x.1 e (.tail _ he),x.2⟩,fun h t D=>⟨?_,⟨D.size,D.toks,D.own,D.nodup,D.keep,D.apart,D.gens⟩⟩⟩
      rw [hab]; exact D.own _ (all_mem (at?_mem hp))
    · exact P.elim
theorem putObj_spec (ok:CfgOk C prog w h₀ r) {a:Addr} {f:Obj→Obj} {st:ES} {K:ES→Out α} (P:Post C h₀ r (putObj C a f st K) Q E) :
    ∃ st',Post C h₀ r (K st') Q E∧(Zkm st'→Zkm st∧∀ h t,Rep C h₀ st h t→(∃ o,h.get? a = some o)∧Rep C h₀ st' (h.update a f) t):=by
  obtain ⟨k,st1,P,e1,e2,e3,e4,e5,e6,e7⟩:=pick_spec P
  obtain ⟨objs,bgs,gk,m,i,orc,log,eqs,obl⟩:=st1
  subst e1 e2 e3 e4 e5 e6 e7
  cases k with
  | zero=>exact P.elim
  | succ k =>
    dsimp only at P
    split at P
    · rename_i p hp
      obtain ⟨b,o⟩:=p
      dsimp only at P
      split at P
      · exact P.elim
      · rename_i hf
        refine ⟨_,P,fun x=>?_⟩
        have hab:a = b:=by have:=x.1 (.a a,.a b) (.head _); injection this
        refine ⟨⟨fun e he=>x.1 e (.tail _ he),x.2⟩,fun h t D=>?_⟩
        subst hab
        have hin:(a,o) ∈ st.all:=all_mem (at?_mem hp)
        have ho:=D.own _ hin
        have hs:Heap.SameBut a h (h.update a f):=Heap.SameBut.update ..
        have nd:((st.objs.map (·.1))++((Zqr st.bags).map (·.1))).Nodup:=by rw [← List.map_append]; exact D.nodup
        have key:∀ p ∈ setAt f st.objs k++Zqr st.bags,p = (a,f o) ∨ (p ∈ st.all∧p.1≠a):=fun p hp'=>by
          rcases List.mem_append.mp hp' with hp' | hp'
          · rcases setAt_mem f hp (List.nodup_append.mp nd).1 p hp' with h1 | ⟨h1,h2⟩
            · exact .inl h1
            · exact .inr ⟨all_mem h1,h2⟩
          · refine .inr ⟨List.mem_append_right _ hp',fun z=>?_⟩
            exact (List.nodup_append.mp nd).2.2 _ (List.mem_map_of_mem (at?_mem hp)) _ (List.mem_map_of_mem hp') z.symm
        refine ⟨⟨o,ho⟩,⟨hs.1.trans D.size,D.toks,fun p hp'=>?_,?_,fun b ob e=>?_,fun p hp'=>?_,D.gens⟩⟩
        · rcases key p hp' with rfl | ⟨h1,h2⟩
          · exact Heap.get?_update_self f ho hf
          · exact (hs.2 _ h2).trans (D.own p h1)
        · show ((setAt f st.objs k++Zqr st.bags).map (·.1)).Nodup
          rw [List.map_append,setAt_fst]; exact nd
        · refine (hs.2 b fun q=>?_).trans (D.keep b ob e)
          subst q
          have:=D.apart _ hin
          rw [this] at e; cases e
        · rcases key p hp' with rfl | ⟨h1,h2⟩
          · exact D.apart (a,o) hin
          · exact D.apart p h1
    · exact P.elim
theorem newObj_spec {o:Obj} {st:ES} {K:Addr→ES→Out α} (P:Post C h₀ r (newObj C o st K) Q E) :
    ∃ st',Post C h₀ r (K (C.n + st.m) st') Q E∧(Zkm st'→Zkm st)∧∀ h t,Rep C h₀ st h t→h.objs.size = C.n + st.m∧Rep C h₀ st' (h.push o) t:=by
  obtain ⟨objs,bgs,gk,m,i,orc,log,eqs,obl⟩:=st
  unfold newObj at P
  dsimp only at P
  split at P
  · exact P.elim
  · rename_i hf
    refine ⟨_,P,id,fun h t D=>⟨D.size,?_⟩⟩
    have hz:h.objs.size = C.n + m:=D.size
    have fresh:∀ b ob,h.get? b = some ob→b≠C.n + m:=fun b ob e q=>by
      have:=Heap.lt_size e
      rw [hz,q] at this
      exact Nat.lt_irrefl _ this
    refine ⟨?_,D.toks,fun p hp=>?_,?_,fun b ob e=>Heap.get?_push_of_some _ (D.keep b ob e),fun p hp=>?_,D.gens⟩
    · show (h.push o).objs.size = C.n + (m + 1)
      rw [Heap.size_push,hz]; rfl
    · rcases List.mem_cons.mp hp with rfl | hp
      · show (h.push o).get? (C.n + m) = some o
        rw [← hz]; exact Heap.get?_push_size _ hf
      · exact Heap.get?_push_of_some _ (D.own p hp)
    · show ((C.n + m)::(objs++Zqr bgs).map (·.1)).Nodup
      refine List.nodup_cons.mpr ⟨fun q=>?_,D.nodup⟩
      obtain ⟨p,hp,e⟩:=List.mem_map.mp q
      exact fresh _ _ (D.own p hp) e
    · rcases List.mem_cons.mp hp with rfl | hp
      · show h₀.get? (C.n + m) = none
        cases q:h₀.get? (C.n + m) with
        | none=>rfl
        | some ob=>exact absurd rfl (fresh _ _ (D.keep _ _ q))
      · exact D.apart p hp
theorem newTok_spec {st:ES} {K:Tok→ES→Out α} (P:Post C h₀ r (newTok C st K) Q E) :
    ∃ st',Post C h₀ r (K (C.t + st.i) st') Q E∧(Zkm st'→Zkm st)∧∀ h t,Rep C h₀ st h t→t.tok = C.t + st.i∧Rep C h₀ st' h (t.up 1):=by
  obtain ⟨objs,bgs,gk,m,i,orc,log,eqs,obl⟩:=st
  refine ⟨_,P,id,fun h t D=>⟨D.toks,⟨D.size,?_,D.own,D.nodup,D.keep,D.apart,D.gens⟩⟩⟩
  show t.tok + 1 = C.t + (i + 1)
  have:=D.toks
  dsimp only at this
  lia
end
noncomputable def Zj7 (C:Cfg) (prog:Program) (w:World) (h₀:Base) (r:Zkc) (fs:Option (List Env)) (n:Nat) (callF:Code→ES→Out Flow):Prop :=
  ∀ c st (R:Result→Shared→Prop),Post C h₀ r (callF c st) (fun f=>R (.ok f)) (fun e=>R (.error e)) →
    Zkm st∧∀ A h t,AOk A fs n→Rep C h₀ st h t→codeAny (model prog w) A c R (r.at h t)
section
variable {C:Cfg} {h₀:Base} {r:Zkc} {prog:Program} {w:World} {fs:Option (List Env)} {n:Nat} {callF:Code→ES→Out Flow}
theorem engT_stack {α:Type} (C:Cfg) (callF:Code→ES→Out Flow) (k:List (Code × Pos)→Sem α) (st:ES):engT C callF (.stack k) st = (match C.native with | true=>engT C callF (k []) st | false=>.look fun L=>engT C callF (k L.st) st):=by kernel_rfl
theorem Zvr {α:Type} (ok:CfgOk C prog w h₀ r) (ih:Zj7 C prog w h₀ r fs n callF) (Q:α→Shared→Prop) (E:Value→Shared→Prop):∀ (t:Sem α) (st:ES),Post C h₀ r (engT C callF t st) Q E →
    Zkm st∧∀ A h tk,AOk A fs n→Rep C h₀ st h tk→wpAny (model prog w) A t Q E (r.at h tk):=by
  intro t
  induction t with
  | pure a=>intro st P; exact ⟨P.1,fun A h tk _ D=>x_pure (P.2 h tk D)⟩
  | raise e=>intro st P; exact ⟨P.1,fun A h tk _ D=>x_raise (P.2 h tk D)⟩
  | rule _ k kih=>intro st P; obtain ⟨a,b⟩:=kih () st P; exact ⟨a,fun A h tk hA D=>x_rule (b A h tk hA D)⟩
  | «at» _ k kih=>intro st P; obtain ⟨a,b⟩:=kih () st P; exact ⟨a,fun A h tk hA D=>x_at (b A h tk hA D)⟩
  | point _ k kih=>intro st P; obtain ⟨a,b⟩:=kih () st P; exact ⟨a,fun A h tk hA D=>x_point (b A h tk hA D)⟩
  | ask k kih=>intro st P; obtain ⟨a,b⟩:=kih C.set st P; exact ⟨a,fun A h tk hA D=>x_ask (ok.set ▸ b A h tk hA D)⟩
  | load a q k kih =>
    intro st P
    obtain ⟨o,st',P,z⟩:=getObj_spec ok (show Post C h₀ r (getObj C a st fun o s=>engT C callF (k o) s) Q E from P)
    obtain ⟨x,y⟩:=kih o st' P
    obtain ⟨z1,z2⟩:=z x
    exact ⟨z1,fun A h tk hA D=>x_load (z2 h tk D).1 (y A h tk hA (z2 h tk D).2)⟩
  | update a q f k kih =>
    intro st P
    obtain ⟨st',P,z⟩:=putObj_spec ok (show Post C h₀ r (putObj C a f st fun s=>engT C callF (k ()) s) Q E from P)
    obtain ⟨x,y⟩:=kih () st' P
    obtain ⟨z1,z2⟩:=z x
    exact ⟨z1,fun A h tk hA D=>by
      obtain ⟨⟨o,ho⟩,D'⟩:=z2 h tk D
      exact wpAny_bind (m:=updatePart a q f) (f:=k) (wpAny_updatePart ho (y A _ tk hA D'))⟩
  | alloc o k kih =>
    intro st P
    obtain ⟨st',P,z1,z2⟩:=newObj_spec (show Post C h₀ r (newObj C o st fun a s=>engT C callF (k a) s) Q E from P)
    obtain ⟨x,y⟩:=kih _ st' P
    exact ⟨z1 x,fun A h tk hA D=>by
      obtain ⟨hz,D'⟩:=z2 h tk D
      refine wpAny_bind (m:=alloc o) (f:=k) (wpAny_alloc ?_)
      show wpAny _ _ (k h.objs.size) _ _ _
      rw [hz]
      exact y A _ tk hA D'⟩
  | fresh k kih =>
    intro st P
    obtain ⟨st',P,z1,z2⟩:=newTok_spec (show Post C h₀ r (newTok C st fun a s=>engT C callF (k a) s) Q E from P)
    obtain ⟨x,y⟩:=kih _ st' P
    exact ⟨z1 x,fun A h tk hA D=>by
      obtain ⟨hz,D'⟩:=z2 h tk D
      refine x_fresh ?_
      show wpAny _ _ (k tk.tok) _ _ _
      rw [hz]
      exact y A _ _ hA D'⟩
  | handled own k kih =>
    intro st P
    cases own with
    | true=>exact P.elim
    | false =>
      obtain ⟨x,y⟩:=kih none st P
      exact ⟨x,fun A h tk hA D=>x_handled (by rw [hA.hand]; exact y A h tk hA D)⟩
  | call c hd g l k kih =>
    intro st P
    cases hd with
    | some _=>exact P.elim
    | none =>
      have Z:=bind_post (Q':=fun f' sh=>∀ A,AOk A fs n→wpAny (model prog w) A (k (.ok f')) Q E sh) (E':=fun e' sh=>∀ A,AOk A fs n→wpAny (model prog w) A (k (.error e')) Q E sh)
        (fun f st' P=>let z:=kih (.ok f) st' P; ⟨z.1,fun h t D A hA=>z.2 A h t hA D⟩) (fun e st' P=>let z:=kih (.error e) st' P; ⟨z.1,fun h t D A hA=>z.2 A h t hA D⟩) _ P
      obtain ⟨u,v⟩:=ih c st (fun res sh=>∀ A,AOk A fs n→wpAny (model prog w) A (k res) Q E sh) Z
      exact ⟨u,fun A h tk hA D=>x_call (codeAny_mono (v A h tk hA D) fun res sh q=>q A hA) (by intro x; cases x)⟩
  | stack k kih =>
    intro st P
    have e:engT C callF (.stack k) st = .look fun L=>engT C callF (k L.st) st:=by
      rw [engT_stack,ok.real]
    rw [e] at P
    exact ⟨(kih [] st (P looks0)).1,fun A h tk hA D=>x_stack fun st' hl=>(kih st' st (P ⟨st',lookOk_of hl hA⟩)).2 A h tk hA D⟩
  | unsupported=>intro st P; exact P.elim
  | finish=>intro st P; exact P.elim
  | loadIfAlive=>intro st P; exact P.elim
  | register=>intro st P; exact P.elim
  | choose=>intro st P; exact P.elim
  | os=>intro st P; exact P.elim
  | newGen=>intro st P; exact P.elim
  | genState=>intro st P; exact P.elim
  | resume=>intro st P; exact P.elim
  | yield=>intro st P; exact P.elim
  | fork=>intro st P; exact P.elim
  | thread=>intro st P; exact P.elim
  | await=>intro st P; exact P.elim
theorem frames_le (c:Code):c.frames≤3:=by
  unfold Code.frames
  split <;> first | decide | (split <;> decide)
theorem Zzn {c:Code} (h:c.isCaller = false):c.weight≤5:=by
  have:=frames_le c
  unfold Code.weight
  rw [h]
  split <;> split <;> simp <;> lia
theorem no_caller:entryFor table "claim.caller" = none:=by
  have h:entryFor treeTable "claim.caller" = none:=by kernel_rfl
  rw [← table_eq_tree] at h; exact h
theorem isCaller_is {c:Code} (h:c.isCaller = true):∃ args,c = .builtin "claim.caller" args:=by
  unfold Code.isCaller at h
  split at h
  · exact ⟨_,rfl⟩
  · cases h
theorem cUnits_le (c:Code):c.cUnits≤10:=by
  have:=frames_le c
  unfold Code.cUnits
  split <;> lia
theorem AOk.under {A:Around} {fs:Option (List Env)} {n:Nat} {c:Code} (hA:AOk A fs (n + 1)) (hw:c.weight≤5):AOk (A.under c) (pushEnvs c.envs fs) n:=by
  refine ⟨hA.hand,?_,?_,fun l e=>?_⟩
  · have:=hA.deep
    show A.depth + c.weight + 5 * n < recursionLimit
    lia
  · have:=hA.units
    have:=cUnits_le c
    show A.units + c.cUnits + 10 * n < cLine
    lia
  · obtain ⟨l₀,e₀,rfl⟩:=pushEnvs_some e
    show pushEnvs c.envs A.frames = _
    rw [pushEnvs_eq,hA.frames _ e₀]; rfl
theorem AOk.down {A:Around} {fs:Option (List Env)} {n:Nat} (hA:AOk A fs (n + 1)):AOk A fs n:=⟨hA.hand,by have:=hA.deep; lia,by have:=hA.units; lia,hA.frames⟩
theorem AOk.le {A:Around} {fs:Option (List Env)} {n m:Nat} (hA:AOk A fs n) (h:m≤n):AOk A fs m:=⟨hA.hand,by have:=hA.deep; lia,by have:=hA.units; lia,hA.frames⟩
theorem AOk.room {A:Around} {fs:Option (List Env)} {n:Nat} (hA:AOk A fs n):A.depth < recursionLimit:=by have:=hA.deep; lia
theorem Zkn {callF agF:Option (List Env)→Code→ES→Out Flow} (ok:CfgOk C prog w h₀ r) (ih:∀ fs,Zj7 C prog w h₀ r fs n (callF fs)) (ihA:∀ fs,Zj7 C prog w h₀ r fs (n + 1) (agF fs)) (fs:Option (List Env)) (c:Code) (st:ES) (R:Result→Shared→Prop) (P:Post C h₀ r (engTree C callF agF fs c st) (fun f=>R (.ok f)) (fun e=>R (.error e))) :
    Zkm st∧∀ A h t,AOk A fs (n + 1)→Rep C h₀ st h t→codeAny (model prog w) A c R (r.at h t):=by
  cases hc:c.isCaller with
  | true =>
    obtain ⟨args,rfl⟩:=isCaller_is hc
    exfalso
    unfold engTree at P
    rw [ok.den] at P
    simp only [denote,no_caller] at P
    exact P
  | false =>
    let Q:Fin→Shared→Prop:=fun fin s'=>match fin with
      | .done f=>R (.ok f) s'
      | .again c'=>c'.quiet = true∧∀ A,AOk A fs (n + 1)→codeAny (model prog w) A c' R s'
    have key:Post C h₀ r (engT C (callF (pushEnvs c.envs fs)) (C.den c) st) Q (fun e=>R (.error e)):=by
      refine bind_post (g:=Out.err) (E:=fun e=>R (.error e)) (E':=fun e=>R (.error e)) (fun fin s P=>?_) (fun e s P=>P) _ P
      cases fin with
      | done f=>exact fixB_spec P
      | again c' =>
        unfold engFin at P
        dsimp only at P
        split at P
        · rename_i hq
          obtain ⟨x,y⟩:=ihA fs c' s R P
          exact ⟨x,fun h t D=>⟨hq,fun A hA=>y A h t hA D⟩⟩
        · exact P.elim
    obtain ⟨x,y⟩:=Zvr ok (ih _) Q _ _ _ key
    refine ⟨x,fun A h t hA D=>x_code ?_⟩
    refine wpAny_mono (ok.den ▸ y (A.under c) h t (hA.under (Zzn hc)) D) (fun fin s' q=>?_) fun _ _ q=>q
    cases fin with
    | done f=>exact q
    | again c'=>exact ⟨q.1,q.2 A hA⟩
theorem isDef_is {o:Obj} {fd:FuncData} (h:isDef o = some fd):o.data = .func fd∧fd.scope.isGenerator = false∧fd.scope.isCoroutine = false:=by
  unfold isDef at h
  split at h
  · split at h
    · cases h
    · rename_i h1
      split at h
      · cases h
      · rename_i h2; cases h; exact ⟨rfl,h1,h2⟩
  · cases h
theorem codeOf_quiet (fd:FuncData) (env:Env):(Zjm fd env).quiet = true:=by
  unfold Zjm
  split <;> rfl
theorem engCall_sound {callF agF:Option (List Env)→Code→ES→Out Flow} (ok:CfgOk C prog w h₀ r) (ih:∀ fs,Zj7 C prog w h₀ r fs n (callF fs)) (ihA:∀ fs,Zj7 C prog w h₀ r fs (n + 1) (agF fs)) (fs:Option (List Env)) (a:Addr) (args:Args) (st:ES) (R:Result→Shared→Prop) (P:Post C h₀ r (engCall C callF agF fs a args st) (fun f=>R (.ok f)) (fun e=>R (.error e))) :
    Zkm st∧∀ A h t,AOk A fs (n + 1)→Rep C h₀ st h t→codeAny (model prog w) A (.call (.ref a) args) R (r.at h t):=by
  obtain ⟨o,st',P,z⟩:=getObj_spec ok P
  cases hd:isDef o with
  | none =>
    rw [hd] at P
    obtain ⟨x,y⟩:=Zkn ok ih ihA _ _ _ _ P
    obtain ⟨z1,z2⟩:=z x
    exact ⟨z1,fun A h t hA D=>y A h t hA (z2 h t D).2⟩
  | some fd =>
    rw [hd] at P
    dsimp only at P
    obtain ⟨hdat,hg,hco⟩:=isDef_is hd
    have key:Post C h₀ r (engT C (callF fs) (C.prep a fd args) st') (fun env s'=>s'.heap.NoLimit∧∀ A,AOk A fs (n + 1)→codeAny (model prog w) A (Zjm fd env) R s') (fun e=>R (.error e)):=by
      refine bind_post (g:=Out.err) (E:=fun e=>R (.error e)) (E':=fun e=>R (.error e)) (fun env s P=>?_) (fun e s P=>P) _ P
      obtain ⟨x,y⟩:=Zkn ok ih ihA _ _ _ _ P
      exact ⟨x,fun h t D=>⟨Heap.NoLimit.keeps (h:=h₀.heap) ok.nolimit D.keep,fun A hA=>y A h t hA D⟩⟩
    obtain ⟨x,y⟩:=Zvr ok (ih fs) _ _ _ _ key
    obtain ⟨z1,z2⟩:=z x
    refine ⟨z1,fun A h t hA D=>x_code ?_⟩
    show wpAny (model prog w) (A.under (.call (.ref a) args)) (callAny (.ref a) args) _ _ _
    simp only [callAny]
    refine wpAny_bind (wpAny_load (z2 h t D).1 ?_)
    simp only [hdat]
    rw [callFunction_eq a fd args hg hco]
    have hw:(Code.call (.ref a) args).weight≤5:=Zzn rfl
    refine wpAny_bind (wpAny_mono (ok.prep ▸ y _ h t ((hA.under hw:AOk _ fs _)) (z2 h t D).2) (fun env s' q=>?_) fun _ _ q=>q)
    refine wpAny_bind (wpAny_enterFrame q.1 (hA.under hw).room ?_)
    exact wpAny_pure ⟨codeOf_quiet fd env,q.2 A hA⟩
theorem engBody_sound {callF agF:Option (List Env)→Code→ES→Out Flow} (ok:CfgOk C prog w h₀ r) (ih:∀ fs,Zj7 C prog w h₀ r fs n (callF fs)) (ihA:∀ fs,Zj7 C prog w h₀ r fs (n + 1) (agF fs)) (fs:Option (List Env)) :
    Zj7 C prog w h₀ r fs (n + 1) (engBody C callF agF fs):=by
  intro c st R P
  unfold engBody at P
  split at P
  · split at P
    · exact engCall_sound ok ih ihA _ _ _ _ R P
    · exact Zkn ok ih ihA _ _ _ R P
  · exact Zkn ok ih ihA _ _ _ R P
theorem engStop_sound:Zj7 C prog w h₀ r fs n (engStop fs):=fun _ _ _ P=>P.elim
theorem ansThen_sound {B:Option (List Env)→Code→ES→Out Flow} (ok:CfgOk C prog w h₀ r) (h:Zj7 C prog w h₀ r fs (n + 1) (B fs)):Zj7 C prog w h₀ r fs (n + 1) (ansThen C n B fs):=by
  intro c st R P
  unfold ansThen at P
  have hans:=ok.ans fs n c st
  split at P
  · rename_i out e
    rw [e] at hans
    exact hans R P
  · rename_i st' e
    rw [e] at hans
    obtain ⟨x,y⟩:=h c st' R P
    exact ⟨same_ok hans x,fun A h t hA D=>y A h t hA (same_rep hans D)⟩
theorem Zj7.up {callF:Code→ES→Out Flow} (h:Zj7 C prog w h₀ r fs n callF):Zj7 C prog w h₀ r fs (n + 1) callF:=fun c st R P=>let z:=h c st R P; ⟨z.1,fun A h t hA D=>z.2 A h t hA.down D⟩
theorem callAt_sound {B:Option (List Env)→Code→ES→Out Flow} (ok:CfgOk C prog w h₀ r) (h:Zj7 C prog w h₀ r fs n (B fs)):Zj7 C prog w h₀ r fs n (callAt C n B fs):=by
  cases n with
  | zero=>exact engStop_sound
  | succ n=>exact ansThen_sound ok h
theorem engB_sound (ok:CfgOk C prog w h₀ r):∀ n fs,Zj7 C prog w h₀ r fs n (engB C n fs)
  | 0,_=>engStop_sound
  | n + 1,fs=>engBody_sound ok (fun fs=>callAt_sound ok (engB_sound ok n fs)) (fun fs=>ansThen_sound ok (engB_sound ok n fs).up) fs
theorem Zk0 (ok:CfgOk C prog w h₀ r) (n:Nat) (fs:Option (List Env)):Zj7 C prog w h₀ r fs n (engC C n fs):=callAt_sound ok (engB_sound ok n fs)
end
section
open PySem PySem.W PySem.W.X PySem.Builtin PySem.Builtin.Str
noncomputable def askN (native:Bool) (own:Nat) (s:ES) (K:Nat→ES→AnsR):AnsR:=match s with
  | ⟨objs,bgs,gk,m,i,orc,log,eqs,obl⟩=>match native with
    | true=>K own ⟨objs,bgs,gk,m,i,orc,own::log,eqs,obl⟩
    | false=>match orc with
      | k::orc=>K k ⟨objs,bgs,gk,m,i,orc,log,eqs,obl⟩
      | []=>.take (.stop "oracle" 0 ⟨objs,bgs,gk,m,i,orc,log,eqs,obl⟩)
noncomputable def strNth:List Str→Nat→Str
  | [],_=>⟨#[]⟩
  | x::r,k=>match k with
    | 0=>x
    | k + 1=>strNth r k
noncomputable def giveStr (t:Nat) (r:Str) (p:Prop) (e:List (Zvz × Zvz)) (s:ES):AnsR:=match s with
  | ⟨objs,bgs,gk,m,i,orc,log,eqs,obl⟩=>.take (.ok (.ret (.str r (t + i))) ⟨objs,bgs,gk,m,i + 1,orc,log,e++eqs,p::obl⟩)
noncomputable def giveInt (t:Nat) (r:Int) (p:Prop) (e:List (Zvz × Zvz)) (s:ES):AnsR:=match s with
  | ⟨objs,bgs,gk,m,i,orc,log,eqs,obl⟩=>.take (.ok (.ret (.int r (t + i))) ⟨objs,bgs,gk,m,i + 1,orc,log,e++eqs,p::obl⟩)
noncomputable def Zjt (x y r:Str):Prop:=x++y = r∧r.length≤sizeLine
noncomputable def sliceOwes (x:Str) (lo hi:Int) (r:Str):Prop :=
  ((strSliceIndices (some lo) (some hi) 1 x.length).length == x.length) = false∧(⟨((strSliceIndices (some lo) (some hi) 1 x.length).filterMap (x.cps[·]?)).toArray⟩:Str) = r∧r.length≤sizeLine
noncomputable def sliceOwesW (x:Str) (lo hi:Int):Prop:=((strSliceIndices (some lo) (some hi) 1 x.length).length == x.length) = true
noncomputable def nameIs (id:String) (kw:List (Str × Value)) (id':String):List (Zvz × Zvz):=[(.i id,.i id'),(.k kw,.k [])]
noncomputable def sliceIs (o:Obj) (lo hi:Int) (tl th:Tok):Zvz × Zvz:=(.o o,.o { o with cls:=.type "slice",data:=.fields #[.int lo tl,.int hi th,.none] })
noncomputable def addAns (x y r:Str) (id:String) (kw:List (Str × Value)) (s:ES):AnsR:=match s with
  | ⟨objs,bgs,gk,m,i,orc,log,eqs,obl⟩=>.take (.more fun e=>.ok (.ret (.str r (e.nat 2))) ⟨objs,bgs,gk,m,i + e.nat 1,orc,log,nameIs id kw "str.__add__" ++ eqs,Zjt x y r::obl⟩)
noncomputable def ends (o:Obj):Option ((Int × Tok) × (Int × Tok)):=match o with
  | ⟨_,_,.fields vs,_⟩=>match vs.toList with
    | .int lo tl::.int hi th::_=>some ((lo,tl),(hi,th))
    | _=>none
  | _=>none
noncomputable def sliceAns (t:Nat) (id:String) (kw:List (Str × Value)) (x:Str) (tx:Tok) (a:Addr) (sts:List Str) (k:Nat) (j:Nat) (s:ES):AnsR:=match s with
  | ⟨objs,bgs,gk,m,i,orc,log,eqs,obl⟩=>match at? objs j with
    | some p=>match p with
      | (b,o)=>match ends o with
        | some q=>match q with
          | ((lo,tl),(hi,th))=>match k with
            | 0=>.take (.ok (.ret (.str x tx)) ⟨objs,bgs,gk,m,i,orc,log,(.a a,.a b)::sliceIs o lo hi tl th::(nameIs id kw "str.__getitem__" ++ eqs),sliceOwesW x lo hi::obl⟩)
            | k + 1=>giveStr t (strNth sts k) (sliceOwes x lo hi (strNth sts k)) ((.a a,.a b)::sliceIs o lo hi tl th::nameIs id kw "str.__getitem__") ⟨objs,bgs,gk,m,i,orc,log,eqs,obl⟩
        | none=>.take (.stop "slice" 0 s)
    | none=>.take (.stop "slice" 1 s)
noncomputable def Zx5 (id':String) (b:Bool) (p:Prop) (id:String) (kw:List (Str × Value)) (s:ES):AnsR:=match s with
  | ⟨objs,bgs,gk,m,i,orc,log,eqs,obl⟩=>.take (.ok (.ret (.bool b)) ⟨objs,bgs,gk,m,i,orc,log,nameIs id kw id'++eqs,p::obl⟩)
noncomputable def sameT (x y:Str):Bool:=x.cps.toList == y.cps.toList
noncomputable def Zjx (x y:Str):Bool:=!(occurrences x y 0 x.length 1).isEmpty
noncomputable def strAns (sts:List Str) (id:String) (kw:List (Str × Value)) (x y:Str) (k:Nat) (s:ES):AnsR:=match k with
  | 0=>.skip s
  | 1=>Zx5 "str.__eq__" true (sameT x y = true) id kw s
  | 2=>Zx5 "str.__eq__" false (sameT x y = false) id kw s
  | 3=>Zx5 "str.__contains__" true (Zjx x y = true) id kw s
  | 4=>Zx5 "str.__contains__" false (Zjx x y = false) id kw s
  | k + 5=>addAns x y (strNth sts k) id kw s
noncomputable def intAns (t:Nat) (id:String) (kw:List (Str × Value)) (a b:Int) (k:Nat) (s:ES):AnsR:=match k with
  | 1=>Zx5 "int.__lt__" true (decide (a < b) = true) id kw s
  | 2=>Zx5 "int.__lt__" false (decide (a < b) = false) id kw s
  | 3=>Zx5 "int.__ge__" true (decide (a ≥ b) = true) id kw s
  | 4=>Zx5 "int.__ge__" false (decide (a ≥ b) = false) id kw s
  | 5=>Zx5 "int.__eq__" true ((a == b) = true) id kw s
  | 6=>Zx5 "int.__eq__" false ((a == b) = false) id kw s
  | 7=>Zx5 "int.__le__" true (decide (a≤b) = true) id kw s
  | 8=>Zx5 "int.__le__" false (decide (a≤b) = false) id kw s
  | 9=>Zx5 "int.__gt__" true (decide (a > b) = true) id kw s
  | 10=>Zx5 "int.__gt__" false (decide (a > b) = false) id kw s
  | 11=>giveInt t (a * b) (IntMulOk a b) (nameIs id kw "int.__mul__") s
  | _=>.skip s
noncomputable def replOwes (x y z:Str) (ty tz:Tok) (r:Str):Prop:=((occurrences x y 0 x.length (x.length + 1)).isEmpty || (y.length == 0 && z.length == 0)) = false∧(ty == 0 || tz == 0) = false∧(ty == tz) = false∧(y == z) = false ∧
  tooLong (x.length + (occurrences x y 0 x.length (x.length + 1)).length * z.length) = false∧glued z (partsBetween x (occurrences x y 0 x.length (x.length + 1)) y.length) = r∧r.length≤sizeLine
noncomputable def replAns (t:Nat) (sts:List Str) (id:String) (kw:List (Str × Value)) (x y z:Str) (ty tz:Tok) (k:Nat) (s:ES):AnsR:=match k with
  | 0=>.skip s
  | k + 1=>giveStr t (strNth sts k) (replOwes x y z ty tz (strNth sts k)) (nameIs id kw "str.replace") s
noncomputable def dataAns2 (native:Bool) (t:Nat) (own:Nat) (sts:List Str) (id:String) (kw:List (Str × Value)) (x:Str) (tx:Tok) (v:Value) (s:ES):AnsR:=match v with
  | .str y ty=>askN native own s fun k s=>match k with
    | 0=>.skip s
    | k + 1=>strAns sts id kw x y (k + 1) s
  | .ref a=>askN native own s fun k s=>match k with
    | 0=>.skip s
    | k + 1=>askN native (match native with | true=>(match s with | ⟨objs,_,_,_,_,_,_,_,_⟩=>(idxOf a objs 0).getD 0) | false=>0) s fun j s=>sliceAns t id kw x tx a sts k j s
  | _=>.skip s
noncomputable def lenAns (t:Nat) (ide:String) (kw:List (Str × Value)) (x:Str) (s:ES):AnsR:=match s with
  | ⟨objs,bgs,gk,m,i,orc,log,eqs,obl⟩=>.take (.ok (.ret (.int x.length (t + (i + 1)))) ⟨objs,bgs,gk,m,i + 2,orc,log,nameIs ide kw "len" ++ eqs,(x.length < 2 ^ 63)::obl⟩)
noncomputable def dataAns (native:Bool) (t:Nat) (sym:Code→Nat) (sts:List Str) (c:Code) (s:ES):AnsR:=match c with
  | .builtin ide args=>match args with
    | ⟨pos,kw⟩=>match pos with
      | v1::r1=>match v1 with
        | .int a ta=>match r1 with
          | v2::r2=>match r2 with
            | []=>match v2 with
              | .int b tb=>askN native (sym (.builtin ide ⟨[.int a ta,.int b tb],kw⟩)) s fun k s=>intAns t ide kw a b k s
              | _=>.skip s
            | _=>.skip s
          | []=>.skip s
        | .str x tx=>match r1 with
          | v2::r2=>match r2 with
            | []=>dataAns2 native t (sym (.builtin ide ⟨[.str x tx,v2],kw⟩)) sts ide kw x tx v2 s
            | v3::r3=>match v2 with
              | .str y ty=>match v3 with
                | .str z tz=>match r3 with
                  | []=>askN native (sym (.builtin ide ⟨[.str x tx,.str y ty,.str z tz],kw⟩)) s fun k s=>replAns t sts ide kw x y z ty tz k s
                  | _=>.skip s
                | _=>.skip s
              | _=>.skip s
          | []=>askN native (sym (.builtin ide ⟨[.str x tx],kw⟩)) s fun k s=>match k with
            | 0=>.skip s
            | _ + 1=>lenAns t ide kw x s
        | _=>.skip s
      | []=>.skip s
  | _=>.skip s
section
variable {fs:Option (List Env)} {n:Nat} {C:Cfg} {h₀:Base} {r:Zkc} {prog:Program} {w:World}
noncomputable def Zzj (fs:Option (List Env)) (n:Nat) (C:Cfg) (prog:Program) (w:World) (h₀:Base) (r:Zkc) (c:Code) (st:ES) (x:AnsR):Prop:=match x with
    | .skip st'=>st'.objs = st.objs∧st'.m = st.m∧st'.i = st.i∧st'.eqs = st.eqs∧st'.obl = st.obl∧st'.bags = st.bags∧st'.gk = st.gk
    | .take out=>∀ R:Result→Shared→Prop,Post C h₀ r out (fun f=>R (.ok f)) (fun e=>R (.error e)) →
      Zkm st∧∀ A h t,AOk A fs (n + 1)→Rep C h₀ st h t→codeAny (model prog w) A c R (r.at h t)
theorem Zzj.same {c:Code} {st st':ES} {x:AnsR} (e:st'.objs = st.objs∧st'.m = st.m∧st'.i = st.i∧st'.eqs = st.eqs∧st'.obl = st.obl∧st'.bags = st.bags∧st'.gk = st.gk) (h:Zzj fs n C prog w h₀ r c st' x):Zzj fs n C prog w h₀ r c st x:=by
  cases x with
  | skip s=>obtain ⟨a1,a2,a3,a4,a5,a6,a7⟩:=h; obtain ⟨b1,b2,b3,b4,b5,b6,b7⟩:=e; exact ⟨a1.trans b1,a2.trans b2,a3.trans b3,a4.trans b4,a5.trans b5,a6.trans b6,a7.trans b7⟩
  | take o=>exact fun R P=>⟨same_ok e (h R P).1,fun A hp t hA D=>(h R P).2 A hp t hA (same_rep e D)⟩
theorem Zzj.skip {c:Code} {st:ES}:Zzj fs n C prog w h₀ r c st (.skip st):=⟨rfl,rfl,rfl,rfl,rfl,rfl,rfl⟩
theorem Zzj.ask {c:Code} {native:Bool} {own:Nat} {st:ES} {K:Nat→ES→AnsR} (h:∀ k st',Zzj fs n C prog w h₀ r c st' (K k st')):Zzj fs n C prog w h₀ r c st (askN native own st K):=by
  obtain ⟨objs,bgs,gk,m,i,orc,log,eqs,obl⟩:=st
  unfold askN
  cases native with
  | true=>exact Zzj.same (st':=⟨objs,bgs,gk,m,i,orc,own::log,eqs,obl⟩) ⟨rfl,rfl,rfl,rfl,rfl,rfl,rfl⟩ (h _ _)
  | false =>
    cases orc with
    | nil=>exact fun R P=>P.elim
    | cons k orc=>exact Zzj.same (st':=⟨objs,bgs,gk,m,i,orc,log,eqs,obl⟩) ⟨rfl,rfl,rfl,rfl,rfl,rfl,rfl⟩ (h _ _)
theorem Zkp {id:String} {args:Args} {b:Builtin} {md:Made} (hb:entryFor table id = some b) (hp:plainId id = true) (g:Gives (b args) md) {A:Around} {R:Result→Shared→Prop} {s:Shared}
    (h:md.post (fun v s'=>R (.ok (.ret v)) s') s):codeAny (model prog w) A (.builtin id args) R s:=by
  refine codeAny_builtin hb ?_
  rw [Around.under_plainId hp]
  exact g.meets prog w A R s h
theorem side_i {a b:String} (h:Zvz.i a = Zvz.i b):a = b:=by injection h
theorem side_k {a b:List (Str × Value)} (h:Zvz.k a = Zvz.k b):a = b:=by injection h
theorem side_a {a b:Nat} (h:Zvz.a a = Zvz.a b):a = b:=by injection h
theorem side_o {a b:Obj} (h:Zvz.o a = Zvz.o b):a = b:=by injection h
theorem name_is {id id':String} {kw:List (Str × Value)} (h:∀ e ∈ nameIs id kw id',e.1 = e.2):id = id'∧kw = []:=⟨side_i (h (.i id,.i id') (.head _)),side_k (h (.k kw,.k []) (.tail _ (.head _)))⟩
theorem slice_is {o:Obj} {lo hi:Int} {tl th:Tok} (h:(sliceIs o lo hi tl th).1 = (sliceIs o lo hi tl th).2):o.cls = .type "slice" ∧ o.data = .fields #[.int lo tl,.int hi th,.none]:=by
  have:=side_o h
  exact ⟨by rw [this],by rw [this]⟩
theorem giveStr_ok (ht:C.t = t) {c:Code} {st:ES} {x:Str} {p:Prop} {e:List (Zvz × Zvz)} (h:(∀ q ∈ e,q.1 = q.2)→p→x.length≤sizeLine∧∀ (A:Around) (R:Result→Shared→Prop) (s:Shared),(∀ a o,at? st.objs a = some o→s.heap.get? o.1 = some o.2)→R (.ok (.ret (.str x s.toks))) { s with toks:=s.toks + 1 }→codeAny (model prog w) A c R s) :
    Zzj fs n C prog w h₀ r c st (giveStr t x p e st):=by
  obtain ⟨objs,bgs,gk,m,i,orc,log,eqs,obl⟩:=st
  intro R P
  have hp:p:=P.1.2 p (.head _)
  have he:∀ q ∈ e,q.1 = q.2:=fun q hq=>P.1.1 q (List.mem_append_left _ hq)
  refine ⟨⟨fun q hq=>P.1.1 q (List.mem_append_right _ hq),fun q hq=>P.1.2 q (.tail _ hq)⟩,fun A hh tk hA D=>?_⟩
  refine (h he hp).2 A R _ (fun a o e=>D.own _ (all_mem (at?_mem e))) ?_
  have z:=P.2 hh (tk.up 1) ⟨D.size,by have:=D.toks; simp only [Clk.up] at this ⊢; lia,D.own,D.nodup,D.keep,D.apart,D.gens⟩
  have e:tk.tok = t + i:=by have:=D.toks; dsimp only at this; lia
  show R (.ok (.ret (.str x tk.tok))) (r.at hh (tk.up 1))
  rw [e]; exact z
theorem giveInt_ok (ht:C.t = t) {c:Code} {st:ES} {x:Int} {p:Prop} {e:List (Zvz × Zvz)} (h:(∀ q ∈ e,q.1 = q.2)→p→∀ (A:Around) (R:Result→Shared→Prop) (s:Shared),R (.ok (.ret (.int x s.toks))) { s with toks:=s.toks + 1 }→codeAny (model prog w) A c R s) :
    Zzj fs n C prog w h₀ r c st (giveInt t x p e st):=by
  obtain ⟨objs,bgs,gk,m,i,orc,log,eqs,obl⟩:=st
  intro R P
  have hp:p:=P.1.2 p (.head _)
  have he:∀ q ∈ e,q.1 = q.2:=fun q hq=>P.1.1 q (List.mem_append_left _ hq)
  refine ⟨⟨fun q hq=>P.1.1 q (List.mem_append_right _ hq),fun q hq=>P.1.2 q (.tail _ hq)⟩,fun A hh tk hA D=>?_⟩
  refine h he hp A R _ ?_
  have z:=P.2 hh (tk.up 1) ⟨D.size,by have:=D.toks; simp only [Clk.up] at this ⊢; lia,D.own,D.nodup,D.keep,D.apart,D.gens⟩
  have e:tk.tok = t + i:=by have:=D.toks; dsimp only at this; lia
  show R (.ok (.ret (.int x tk.tok))) (r.at hh (tk.up 1))
  rw [e]; exact z
theorem addAns_ok {x y r':Str} {tx ty:Tok} {id:String} {kw:List (Str × Value)} {st:ES}:Zzj fs n C prog w h₀ r (.builtin id ⟨[.str x tx,.str y ty],kw⟩) st (addAns x y r' id kw st):=by
  obtain ⟨objs,bgs,gk,m,i,orc,log,eqs,obl⟩:=st
  intro R P
  have P0:=P Ext.nil
  have ho:Zjt x y r':=P0.1.2 _ (.head _)
  obtain ⟨rfl,rfl⟩:=name_is (id:=id) (kw:=kw) (id' := "str.__add__") fun e he=>P0.1.1 e (List.mem_append_left _ he)
  refine ⟨⟨fun q hq=>P0.1.1 q (List.mem_append_right _ hq),fun q hq=>P0.1.2 q (.tail _ hq)⟩,fun A hh tk hA D=>?_⟩
  obtain ⟨hr,hl⟩:=ho
  have g:=gives_str_add x y tx ty
  have e0:tk.tok = C.t + i:=D.toks
  have key:∀ a b,R (.ok (.ret (.str r' a))) (r.at hh (tk.up b)):=fun a b =>
    (P ⟨fun j=>match j with | 0=>0 | 1=>b | _ + 2=>a,fun _=>#[],fun _ _ _=>0,Ext.nil.ob⟩).2 hh (tk.up b) ⟨D.size,by show tk.tok + b = C.t + (i + b); lia,D.own,D.nodup,D.keep,D.apart,D.gens⟩
  have empty:∀ {z:Str},(z.length == 0) = true→z.cps = #[]:=fun {z} e=>by
    have:z.cps.size = 0:=eq_of_beq e
    exact Array.eq_empty_of_size_eq_zero this
  cases hx:x.length == 0 with
  | true =>
    rw [hx] at g
    refine Zkp F.entry_str_add (by decide +kernel) g ?_
    have:y = r':=by rw [← hr]; show y = ⟨x.cps++y.cps⟩; rw [empty hx]; simp
    rw [this]
    exact key ty 0
  | false =>
    cases hy:y.length == 0 with
    | true =>
      rw [hx,hy] at g
      refine Zkp F.entry_str_add (by decide +kernel) g ?_
      have:x = r':=by rw [← hr]; show x = ⟨x.cps++y.cps⟩; rw [empty hy]; simp
      rw [this]
      exact key tx 0
    | false =>
      rw [hx,hy,hr] at g
      exact Zkp F.entry_str_add (by decide +kernel) g ⟨hl,key tk.tok 1⟩
theorem Zz3 {id':String} {b:Bool} {p:Prop} {id:String} {pos:List Value} {kw:List (Str × Value)} {st:ES} {bi:Builtin} {v:Bool} (hb:entryFor table id' = some bi) (hp:plainId id' = true) (g:Gives (bi ⟨pos,[]⟩) (.val (.bool v)))
    (h:p→v = b):Zzj fs n C prog w h₀ r (.builtin id ⟨pos,kw⟩) st (Zx5 id' b p id kw st):=by
  obtain ⟨objs,bgs,gk,m,i,orc,log,eqs,obl⟩:=st
  intro R P
  have ho:p:=P.1.2 _ (.head _)
  obtain ⟨rfl,rfl⟩:=name_is (id:=id) (kw:=kw) (id':=id') fun e he=>P.1.1 e (List.mem_append_left _ he)
  refine ⟨⟨fun q hq=>P.1.1 q (List.mem_append_right _ hq),fun q hq=>P.1.2 q (.tail _ hq)⟩,fun A hh tk hA D=>?_⟩
  refine Zkp hb hp g ?_
  rw [h ho]
  exact P.2 hh tk ⟨D.size,D.toks,D.own,D.nodup,D.keep,D.apart,D.gens⟩
theorem strAns_ok {x y:Str} {tx ty:Tok} {sts:List Str} {id:String} {kw:List (Str × Value)} {k:Nat} {st:ES}:Zzj fs n C prog w h₀ r (.builtin id ⟨[.str x tx,.str y ty],kw⟩) st (strAns sts id kw x y k st):=by
  unfold strAns
  split
  · exact Zzj.skip
  · exact Zz3 F.entry_str_eq (by decide +kernel) (gives_str_eq x y tx ty) fun h=>h
  · exact Zz3 F.entry_str_eq (by decide +kernel) (gives_str_eq x y tx ty) fun h=>h
  · exact Zz3 F.entry_str_contains (by decide +kernel) (gives_str_contains x y tx ty) fun h=>h
  · exact Zz3 F.entry_str_contains (by decide +kernel) (gives_str_contains x y tx ty) fun h=>h
  · exact addAns_ok
theorem intAns_ok {a b:Int} {ta tb:Tok} {id:String} {kw:List (Str × Value)} {k:Nat} {st:ES} (ht:C.t = t):Zzj fs n C prog w h₀ r (.builtin id ⟨[.int a ta,.int b tb],kw⟩) st (intAns t id kw a b k st):=by
  unfold intAns
  split
  · exact Zz3 F.entry_int_lt (by decide +kernel) (gives_int_lt a b ta tb) fun h=>h
  · exact Zz3 F.entry_int_lt (by decide +kernel) (gives_int_lt a b ta tb) fun h=>h
  · exact Zz3 F.entry_int_ge (by decide +kernel) (gives_int_ge a b ta tb) fun h=>h
  · exact Zz3 F.entry_int_ge (by decide +kernel) (gives_int_ge a b ta tb) fun h=>h
  · exact Zz3 F.entry_int_eq (by decide +kernel) (gives_int_eq a b ta tb) fun h=>h
  · exact Zz3 F.entry_int_eq (by decide +kernel) (gives_int_eq a b ta tb) fun h=>h
  · exact Zz3 F.entry_int_le (by decide +kernel) (gives_int_le a b ta tb) fun h=>h
  · exact Zz3 F.entry_int_le (by decide +kernel) (gives_int_le a b ta tb) fun h=>h
  · exact Zz3 F.entry_int_gt (by decide +kernel) (gives_int_gt a b ta tb) fun h=>h
  · exact Zz3 F.entry_int_gt (by decide +kernel) (gives_int_gt a b ta tb) fun h=>h
  · refine giveInt_ok ht fun he hp=>?_
    obtain ⟨rfl,rfl⟩:=name_is he
    exact fun A R s h=>Zkp F.entry_int_mul (by decide +kernel) (gives_int_mul a b ta tb hp) h
  · exact Zzj.skip
theorem ends_is {o:Obj} {lo hi:Int} {tl th:Tok} (h:o.data = .fields #[.int lo tl,.int hi th,.none]) (h':o.cls = .type "slice") {hp:Heap} {a:Addr} (ha:hp.get? a = some o):hp.IsSlice a (some (lo,tl)) (some (hi,th)) none:=⟨o,ha,h',h⟩
theorem dataAns2_ok (native:Bool) (own:Nat) (sts:List Str) (ht:C.t = t) (id:String) (kw:List (Str × Value)) (x:Str) (tx:Tok) (v:Value) (st:ES) :
    Zzj fs n C prog w h₀ r (.builtin id ⟨[.str x tx,v],kw⟩) st (dataAns2 native t own sts id kw x tx v st):=by
  unfold dataAns2
  split
  · rename_i y ty
    refine Zzj.ask fun k st'=>?_
    cases k with
    | zero=>exact Zzj.skip
    | succ k =>
      exact strAns_ok
  · rename_i a
    refine Zzj.ask fun k st'=>?_
    cases k with
    | zero=>exact Zzj.skip
    | succ k =>
      refine Zzj.ask fun j st''=>?_
      obtain ⟨objs,bgs,gk,m,i,orc,log,eqs,obl⟩:=st''
      unfold sliceAns
      dsimp only
      split
      · rename_i p hpj
        obtain ⟨b,o⟩:=p
        dsimp only
        split
        · rename_i q hq
          obtain ⟨⟨lo,tl⟩,⟨hi,th⟩⟩:=q
          dsimp only
          cases k with
          | zero =>
            intro R P
            have hw:sliceOwesW x lo hi:=P.1.2 _ (.head _)
            have hab:a = b:=side_a (P.1.1 (.a a,.a b) (.head _))
            obtain ⟨hc,hd⟩:=slice_is (P.1.1 (sliceIs o lo hi tl th) (.tail _ (.head _)))
            obtain ⟨rfl,rfl⟩:=name_is (id:=id) (kw:=kw) (id' := "str.__getitem__") fun e he=>P.1.1 e (.tail _ (.tail _ (List.mem_append_left _ he)))
            subst hab
            refine ⟨⟨fun e he=>P.1.1 e (.tail _ (.tail _ (List.mem_append_right _ he))),fun q hq=>P.1.2 q (.tail _ hq)⟩,fun A hh tk hA D=>?_⟩
            refine codeAny_builtin F.entry_str_getitem ?_
            rw [Around.under_plainId (by decide +kernel)]
            refine meets_str_getitem_slice x tx a (some (lo,tl)) (some (hi,th)) none rfl prog w A R _ ⟨⟨o,D.own _ (all_mem (at?_mem hpj)),hc,hd⟩,?_⟩
            unfold sliceMade
            have e:(((none:Option (Int × Tok)).map (·.1)).getD 1 == 1 && (slicePicked x (some (lo,tl)) (some (hi,th)) none).length == x.length) = true:=hw
            rw [if_pos e]
            exact P.2 hh tk ⟨D.size,D.toks,D.own,D.nodup,D.keep,D.apart,D.gens⟩
          | succ k =>
            intro R P
            obtain ⟨hw,hr,hl⟩:sliceOwes x lo hi (strNth sts k):=P.1.2 _ (.head _)
            have hab:a = b:=side_a (P.1.1 (.a a,.a b) (.head _))
            obtain ⟨hc,hd⟩:=slice_is (P.1.1 (sliceIs o lo hi tl th) (.tail _ (.head _)))
            obtain ⟨rfl,rfl⟩:=name_is (id:=id) (kw:=kw) (id' := "str.__getitem__") fun e he=>P.1.1 e (.tail _ (.tail _ (List.mem_append_left _ he)))
            subst hab
            refine ⟨⟨fun e he=>P.1.1 e (.tail _ (.tail _ (List.mem_append_right _ he))),fun q hq=>P.1.2 q (.tail _ hq)⟩,fun A hh tk hA D=>?_⟩
            refine codeAny_builtin F.entry_str_getitem ?_
            rw [Around.under_plainId (by decide +kernel)]
            refine meets_str_getitem_slice x tx a (some (lo,tl)) (some (hi,th)) none rfl prog w A R _ ⟨⟨o,D.own _ (all_mem (at?_mem hpj)),hc,hd⟩,?_⟩
            unfold sliceMade
            have e:¬ (((none:Option (Int × Tok)).map (·.1)).getD 1 == 1 && (slicePicked x (some (lo,tl)) (some (hi,th)) none).length == x.length) = true:=by
              intro q
              have:((strSliceIndices (some lo) (some hi) 1 x.length).length == x.length) = true:=q
              rw [hw] at this; cases this
            rw [if_neg e]
            refine ⟨by rw [← hr] at hl; exact hl,?_⟩
            have z:=P.2 hh (tk.up 1) ⟨D.size,by have:=D.toks; simp only [Clk.up] at this ⊢; lia,D.own,D.nodup,D.keep,D.apart,D.gens⟩
            have et:tk.tok = t + i:=by have:=D.toks; dsimp only at this; lia
            show R (.ok (.ret (.str ⟨((strSliceIndices (some lo) (some hi) 1 x.length).filterMap (x.cps[·]?)).toArray⟩ tk.tok))) (r.at hh (tk.up 1))
            rw [hr,et]; exact z
        · exact fun R P=>P.elim
      · exact fun R P=>P.elim
  · exact Zzj.skip
theorem lenAns_ok (ht:C.t = t) (ide:String) (kw:List (Str × Value)) (x:Str) (tx:Tok) (st:ES):Zzj fs n C prog w h₀ r (.builtin ide ⟨[.str x tx],kw⟩) st (lenAns t ide kw x st):=by
  obtain ⟨objs,bgs,gk,m,i,orc,log,eqs,obl⟩:=st
  intro R P
  have hl:x.length < 2 ^ 63:=P.1.2 _ (.head _)
  obtain ⟨rfl,rfl⟩:=name_is (id:=ide) (kw:=kw) (id' := "len") fun e he=>P.1.1 e (List.mem_append_left _ he)
  refine ⟨⟨fun q hq=>P.1.1 q (List.mem_append_right _ hq),fun q hq=>P.1.2 q (.tail _ hq)⟩,fun A hh tk hA D=>?_⟩
  have z:=P.2 hh (tk.up 2) ⟨D.size,by have:=D.toks; simp only [Clk.up] at this ⊢; lia,D.own,D.nodup,D.keep,D.apart,D.gens⟩
  have et:tk.tok = t + i:=by have:=D.toks; dsimp only at this; lia
  refine codeAny_builtin entry_len ?_
  rw [Around.under_plainId plain_len]
  refine wpAny_mono (wpAny_len_body (Q:=fun v s'=>R (.ok (.ret v)) s') (typeIs_str _ x tx) F.slot_str_len F.entry_str_len (F.args_str_len_1 _) (gives_str_len x tx) (by lia) (by lia) ?_) (fun fin s' q=>?_) fun _ _ q=>q
  · show R (.ok (.ret (.int x.length (tk.tok + 1)))) (r.at hh (tk.up 2))
    rw [et]; exact z
  · obtain ⟨v,rfl,q⟩:=q; exact q
theorem replAns_ok {x y z:Str} {tx ty tz:Tok} {sts:List Str} {id:String} {kw:List (Str × Value)} {k:Nat} {st:ES} (ht:C.t = t):Zzj fs n C prog w h₀ r (.builtin id ⟨[.str x tx,.str y ty,.str z tz],kw⟩) st (replAns t sts id kw x y z ty tz k st):=by
  unfold replAns
  split
  · exact Zzj.skip
  · refine giveStr_ok ht fun he hp=>?_
    obtain ⟨rfl,rfl⟩:=name_is he
    obtain ⟨h1,h2,h3,h4,h5,hr,hl⟩:=hp
    refine ⟨hl,fun A R s _ h=>?_⟩
    have g:=gives_str_replace x y z tx ty tz fun _=>⟨h2,h3,h4,h5⟩
    rw [h1,hr] at g
    exact Zkp F.entry_str_replace (by decide +kernel) g ⟨hl,h⟩
theorem dataAns_ok (native:Bool) (sym:Code→Nat) (sts:List Str) (ht:C.t = t) (c:Code) (st:ES):Zzj fs n C prog w h₀ r c st (dataAns native t sym sts c st):=by
  unfold dataAns
  split
  · rename_i id args
    obtain ⟨pos,kw⟩:=args
    dsimp only
    split
    · split
      · split
        · split
          · split
            · exact Zzj.ask fun k st'=>intAns_ok ht
            · exact Zzj.skip
          · exact Zzj.skip
        · exact Zzj.skip
      · split
        · split
          · exact dataAns2_ok native _ sts ht _ _ _ _ _ _
          · split
            · split
              · split
                · exact Zzj.ask fun k st'=>replAns_ok ht
                · exact Zzj.skip
              · exact Zzj.skip
            · exact Zzj.skip
        · refine Zzj.ask fun k st'=>?_
          cases k with
          | zero=>exact Zzj.skip
          | succ k=>exact lenAns_ok ht _ _ _ _ _
      · exact Zzj.skip
    · exact Zzj.skip
  · exact Zzj.skip
end
end
noncomputable def Zjw (self:Addr) (fd:FuncData) (args:Args):Sem Env:=do
  let compiled ← match fd.code with
    | .none=>pure fd.qualname
    | c=>do match ← W.ZFast.zw6609576154772507232 c 1 with
      | .str q _=>pure q
      | _=>pure fd.qualname
  W.ZFast.zw11113344188204177931 fd.scope fd.globals fd.closure (← W.ZFast.zw9782568553167038054 fd args) (compiled ++ ".<locals>.") (some self) fd.code none fd.builtins
theorem Zvv:Zjw = Zkz:=by
  unfold Zjw Zkz
  rw [← W.ZFast.ze6609576154772507232,← W.ZFast.ze9782568553167038054,← W.ZFast.ze11113344188204177931]
  all_goals rfl
noncomputable def denZ:Code→Sem Fin:=W.ZFast.zw11892475500146522536 W.ZFast.tableZ
theorem denZ_eq:denZ = denote table:=by
  unfold denZ
  rw [← W.ZFast.ze11892475500146522536,← W.ZFast.tableZ_eq]
noncomputable abbrev wb (w:World) (b:Bool):World:=w.withFollow "special-get-raises" b
theorem wb_self (w:World):wb w (w.params.followText "special-get-raises") = w:=World.withFollow_self w _
structure Ground (T:Params→Addr→Option Obj) (w:World) (h₀:Heap):Prop where
  top:∀ a o,T w.params a = some o→h₀.get? a = some o
  nolimit:h₀.NoLimit
structure Own (h₀:Heap) (l:List (Addr × Obj)) (h:Heap):Prop where
  keep:∀ b o,h₀.get? b = some o→h.get? b = some o
  own:∀ p ∈ l,h.get? p.1 = some p.2
  nodup:(l.map (·.1)).Nodup
  apart:∀ p ∈ l,h₀.get? p.1 = none
theorem Own.perm {h₀ h:Heap} {l l':List (Addr × Obj)} (O:Own h₀ l h) (p:l.Perm l'):Own h₀ l' h :=
  ⟨O.keep,fun q hq=>O.own q (p.mem_iff.mpr hq),(p.map _).nodup_iff.mp O.nodup,fun q hq=>O.apart q (p.mem_iff.mpr hq)⟩
theorem Own.drop {h₀ h:Heap} {l r:List (Addr × Obj)} (O:Own h₀ (l++r) h):Own h₀ l h :=
  ⟨O.keep,fun q hq=>O.own q (List.mem_append_left _ hq),(List.nodup_append.mp (List.map_append ▸ O.nodup)).1,fun q hq=>O.apart q (List.mem_append_left _ hq)⟩
theorem own_split {T:Params→Addr→Option Obj} {w:World} {h₀ h:Heap} {pre rest:List (Addr × Obj)} (G:Ground T w h₀) (O:Own h₀ (pre++rest) h) :
    Ground T w (hideAll h (pre.map (·.1)))∧Own (hideAll h (pre.map (·.1))) pre h:=by
  have hpre:∀ p ∈ pre,p ∈ pre++rest:=fun p hp=>List.mem_append_left _ hp
  have nol:(hideAll h (pre.map (·.1))).NoLimit:=by
    refine Heap.NoLimit.at (G.nolimit.keeps O.keep) fun o e=>?_
    obtain ⟨mc,⟨ob,es,ep,ho,_⟩,_⟩:=G.nolimit
    refine hideAll_get _ e fun z=>?_
    obtain ⟨p,hpm,hpe⟩:=List.mem_map.mp z
    have:=O.apart p (hpre p hpm)
    rw [hpe] at this
    rw [this] at ho; cases ho
  refine ⟨⟨fun a o e=>?_,nol⟩,⟨fun b o e=>of_hideAll _ e,fun p hpm=>O.own p (hpre p hpm),O.drop.nodup,fun p hpm=>hideAll_none _ (List.mem_map_of_mem hpm)⟩⟩
  have e0:=G.top a o e
  refine hideAll_get _ (O.keep _ _ e0) fun z=>?_
  obtain ⟨p,hpm,rfl⟩:=List.mem_map.mp z
  rw [O.apart p (hpre p hpm)] at e0; cases e0
theorem own_join {h₀ h h':Heap} {pre post rest:List (Addr × Obj)} (O:Own h₀ (pre++rest) h) (O':Own (hideAll h (pre.map (·.1))) post h'):Own h₀ (post++rest) h':=by
  have nd:=O.nodup
  rw [List.map_append,List.nodup_append] at nd
  have keep:∀ b o,h₀.get? b = some o→(hideAll h (pre.map (·.1))).get? b = some o:=fun b o e=>hideAll_get _ (O.keep b o e) fun z=>by
    obtain ⟨p,hpm,rfl⟩:=List.mem_map.mp z
    rw [O.apart p (List.mem_append_left _ hpm)] at e; cases e
  have inr:∀ p ∈ rest,(hideAll h (pre.map (·.1))).get? p.1 = some p.2:=fun p hp=>hideAll_get _ (O.own p (List.mem_append_right _ hp)) fun z=>nd.2.2 _ z _ (List.mem_map_of_mem hp) rfl
  refine ⟨fun b o e=>O'.keep b o (keep b o e),fun p hp=>?_,?_,fun p hp=>?_⟩
  · rcases List.mem_append.mp hp with hp | hp
    · exact O'.own p hp
    · exact O'.keep _ _ (inr p hp)
  · rw [List.map_append,List.nodup_append]
    refine ⟨O'.nodup,nd.2.1,fun a ha b hb q=>?_⟩
    subst q
    obtain ⟨p,hp,rfl⟩:=List.mem_map.mp ha
    obtain ⟨q,hq,e⟩:=List.mem_map.mp hb
    have:=inr q hq
    rw [e,O'.apart p hp] at this; cases this
  · rcases List.mem_append.mp hp with hp | hp
    · cases q:h₀.get? p.1 with
      | none=>rfl
      | some o=>have:=keep _ _ q; rw [O'.apart p hp] at this; cases this
    · exact O.apart p (List.mem_append_right _ hp)
noncomputable def Zxr {α:Type} (l:List α):List Nat→List (Option α)
  | []=>[]
  | k::r=>at? l k::Zxr l r
noncomputable def giveR (x:Result) (s:ES):Out Flow:=match x with
  | .ok f=>.ok f s
  | .error e=>.err e s
noncomputable def memN (k:Nat):List Nat→Bool
  | []=>false
  | j::r=>match Nat.beq k j with
    | true=>true
    | false=>memN k r
noncomputable def Zjc:List Nat→Bool
  | []=>true
  | k::r=>match memN k r with
    | true=>false
    | false=>Zjc r
noncomputable def Zj5 {α:Type}:Nat→List α→List Nat→List α
  | _,[],_=>[]
  | k,x::r,js=>match memN k js with
    | true=>Zj5 (k + 1) r js
    | false=>x::Zj5 (k + 1) r js
theorem memN_no {k:Nat}:∀ {l:List Nat},memN k l = false→k ∉ l
  | [],_=>fun h=>nomatch h
  | j::r,h=>by
    unfold memN at h
    split at h
    · cases h
    · rename_i e
      rw [List.mem_cons,not_or]
      exact ⟨fun z=>(by rw [z,Nat.beq_refl] at e; cases e),memN_no h⟩
theorem Zz1:∀ {l:List Nat},Zjc l = true→l.Nodup
  | [],_=>.nil
  | k::r,h=>by
    unfold Zjc at h
    split at h
    · cases h
    · rename_i e
      exact List.nodup_cons.mpr ⟨memN_no e,Zz1 h⟩
theorem memN_yes {k:Nat}:∀ {l:List Nat},memN k l = true→k ∈ l
  | [],h=>nomatch h
  | j::r,h=>by
    unfold memN at h
    split at h
    · rename_i e; rw [Nat.eq_of_beq_eq_true e]; exact .head _
    · exact .tail _ (memN_yes h)
theorem memN_is {k:Nat} {l:List Nat}:memN k l = decide (k ∈ l):=by
  cases h:memN k l with
  | true=>exact (decide_eq_true (memN_yes h)).symm
  | false=>exact (decide_eq_false (memN_no h)).symm
theorem restN_none {α:Type}:∀ (k:Nat) (l:List α),Zj5 k l [] = l
  | _,[]=>rfl
  | k,x::r=>congrArg (x::·) (restN_none (k + 1) r)
theorem restN_past {α:Type} {j:Nat} {js:List Nat}:∀ (k:Nat) (l:List α),j < k→Zj5 k l (j::js) = Zj5 k l js
  | _,[],_=>rfl
  | k,x::r,h=>by
    have e:memN k (j::js) = memN k js:=by
      rw [memN_is,memN_is]
      refine decide_eq_decide.mpr ⟨fun z=>?_,fun z=>.tail _ z⟩
      rcases List.mem_cons.mp z with z | z
      · lia
      · exact z
    unfold Zj5
    rw [e,restN_past (k + 1) r (by lia)]
theorem restN_at {α:Type} {js:List Nat} {q:α}:∀ (k j:Nat) (l:List α),at? l j = some q→(k + j) ∉ js→(Zj5 k l js).Perm (q::Zj5 k l ((k + j)::js))
  | _,_,[],e,_=>by cases e
  | k,0,x::r,e,h=>by
    cases e
    have e1:memN k js = false:=by rw [memN_is]; exact decide_eq_false h
    have e2:memN k (k::js) = true:=by rw [memN_is]; exact decide_eq_true (.head _)
    show (Zj5 k (q::r) js).Perm (q::Zj5 k (q::r) (k::js))
    unfold Zj5
    rw [e1,e2]
    show (q::Zj5 (k + 1) r js).Perm (q::Zj5 (k + 1) r (k::js))
    rw [restN_past (k + 1) r (Nat.lt_succ_self k)]
  | k,j + 1,x::r,e,h=>by
    have hk:k + (j + 1) = k + 1 + j:=by lia
    rw [hk] at h ⊢
    have e1:memN k ((k + 1 + j)::js) = memN k js:=by
      rw [memN_is,memN_is]
      refine decide_eq_decide.mpr ⟨fun z=>?_,fun z=>.tail _ z⟩
      rcases List.mem_cons.mp z with z | z
      · lia
      · exact z
    have ih:=restN_at (k + 1) j r e h
    unfold Zj5
    rw [e1]
    cases memN k js with
    | true=>exact ih
    | false=>exact (List.Perm.cons x ih).trans (List.Perm.swap _ _ _)
theorem Zks {α:Type} {l:List α}:∀ {js:List Nat} {ps:List α},Zxr l js = ps.map some→js.Nodup→l.Perm (ps++Zj5 0 l js)
  | [],[],_,_=>by rw [restN_none]; exact .refl _
  | [],_::_,e,_=>by cases e
  | _::_,[],e,_=>by cases e
  | j::js,q::ps,e,h=>by
    simp only [Zxr,List.map_cons,List.cons.injEq] at e
    rw [List.nodup_cons] at h
    have ih:=Zks e.2 h.2
    have z:=restN_at 0 j l e.1 (by rw [Nat.zero_add]; exact h.1)
    rw [Nat.zero_add] at z
    exact ih.trans (((List.Perm.refl ps).append z).trans List.perm_middle)
theorem flatB_append (a b:List Bag):Zqr (a++b) = Zqr a++Zqr b:=by
  induction a with
  | nil=>rfl
  | cons x r ih=>show x.of x.g++Zqr (r++b) = (x.of x.g++Zqr r)++Zqr b; rw [ih,List.append_assoc]
theorem flatB_perm {a b:List Bag} (p:a.Perm b):(Zqr a).Perm (Zqr b):=by
  induction p with
  | nil=>exact .refl _
  | cons x _ ih=>exact (List.Perm.refl _).append ih
  | swap x y l =>
    show (y.of y.g++(x.of x.g++Zqr l)).Perm (x.of x.g++(y.of y.g++Zqr l))
    rw [← List.append_assoc,← List.append_assoc]
    exact List.perm_append_comm.append (.refl _)
  | trans _ _ a b=>exact a.trans b
theorem picksB_perm {l:List Bag} {js:List Nat} {ps:List Bag} (h:Zxr l js = ps.map some) (hj:js.Nodup):(Zqr l).Perm (Zqr ps++Zqr (Zj5 0 l js)):=by
  rw [← flatB_append]; exact flatB_perm (Zks h hj)
theorem mid_perm {α:Type} (a b c d:List α):((a++b)++(c++d)).Perm ((a++c)++(b++d)):=by
  rw [List.append_assoc,List.append_assoc]
  refine (List.Perm.refl a).append ?_
  rw [← List.append_assoc,← List.append_assoc]
  exact List.perm_append_comm.append (.refl d)
structure Con where
  pre:List (Addr × Obj)
  post:Ext→List (Addr × Obj)
  fresh:Ext→List (Addr × Obj)
  code:Code
  res:Ext→Result
  need:Nat
  fr:Option (List Env)
  preB:List Bag:=[]
  postB:Ext→List Bag:=fun _=>[]
  gen:Bool:=true
  made:Ext→Nat:=fun x=>x.nat 0
noncomputable def Con.preA (K:Con):List (Addr × Obj):=K.pre++Zqr K.preB
noncomputable def Con.postA (K:Con) (x:Ext):List (Addr × Obj):=(K.fresh x++K.post x)++Zqr (K.postB x)
structure Zq1 (T:Params→Addr→Option Obj) (prog:Program) (w:World) (n t:Nat) (K:Con):Prop where
  run:∀ (h₀ h:Heap) (r:Zkc) (g:Array GenState) (A:Around) (R:Result→Shared→Prop),Ground T w h₀→AOk A K.fr K.need→Own h₀ K.preA h→h.objs.size = n →
    (∀ x h' g',Own h₀ (K.postA x) h'→h'.objs.size = n + K.made x→Zq5 K.gen g g'→R (K.res x) (r.at h' ⟨t + x.nat 1,g'⟩))→codeAny (model prog w) A K.code R (r.at h ⟨t,g⟩)
theorem Zq1.use {T:Params→Addr→Option Obj} {prog:Program} {w:World} {n t:Nat} {K:Con} (hK:Zq1 T prog w n t K) {h₀ h:Heap} {l rest:List (Addr × Obj)} {r:Zkc} {g:Array GenState} {A:Around} {R:Result→Shared→Prop}
    (G:Ground T w h₀) (hA:AOk A K.fr K.need) (O:Own h₀ l h) (hp:l.Perm (K.preA++rest)) (hs:h.objs.size = n)
    (hR:∀ x h' g',Own h₀ (K.postA x++rest) h'→h'.objs.size = n + K.made x→Zq5 K.gen g g'→R (K.res x) (r.at h' ⟨t + x.nat 1,g'⟩)):codeAny (model prog w) A K.code R (r.at h ⟨t,g⟩):=by
  have O1:=O.perm hp
  obtain ⟨G',O'⟩:=own_split G O1
  exact hK.run _ h r g A R G' hA O' hs fun x h' g' O2 hs2 hg=>hR x h' g' (own_join O1 O2) hs2 hg
noncomputable def conFr (K:Con) (fs:Option (List Env)) (e:List (Zvz × Zvz)):List (Zvz × Zvz):=match K.fr with
  | none=>e
  | some l=>(.f fs,.f (some l))::e
noncomputable def conTake (K:Con) (fs:Option (List Env)) (js bs:List Nat) (c:Code) (s:ES):AnsR:=match s with
  | ⟨objs,bgs,gk,m,i,orc,log,eqs,obl⟩=>match Zjc js with
    | true=>match Zjc bs with
      | true=>.take (.more fun x=>giveR (K.res x) ⟨(K.fresh x++K.post x)++Zj5 0 objs js,K.postB x++Zj5 0 bgs bs,(match K.gen with | true=>false | false=>gk),m + K.made x,i + x.nat 1,orc,log,
        (.c c,.c K.code)::(.p (Zxr objs js),.p (K.pre.map some))::(.b (Zxr bgs bs),.b (K.preB.map some))::conFr K fs eqs,obl⟩)
      | false=>.take (.stop "contract: bag twice" 0 s)
    | false=>.take (.stop "contract: twice" 0 s)
noncomputable abbrev Fam:=Nat→Nat→Code→List (Option (Addr × Obj))→List (Option Bag)→Con
noncomputable def conNth:List Fam→Nat→Option Fam
  | [],_=>none
  | f::r,k=>match k with
    | 0=>some f
    | k + 1=>conNth r k
noncomputable def askJs (native:Bool):Nat→List Nat→List Nat→ES→(List Nat→ES→AnsR)→AnsR
  | 0,_,js,s,K=>K js.reverse s
  | m + 1,own,js,s,K=>askN native (own.headD 0) s fun k s=>askJs native m own.tail (k::js) s K
noncomputable def ownJs (native:Bool) (F:Fam) (c:Code) (s:ES):List Nat:=match native with
  | true=>(F 0 0 c [] []).pre.map fun p=>(idxOf p.1 s.objs 0).getD 1000
  | false=>[]
noncomputable def ownBs (native:Bool) (F:Fam) (c:Code):List Nat:=match native with
  | true=>List.range (F 0 0 c [] []).preB.length
  | false=>[]
noncomputable def conAns (native:Bool) (which:Code→List (Addr × Obj)→Nat) (n t:Nat) (cons:List Fam) (fs:Option (List Env)) (fuel:Nat) (c:Code) (s:ES):AnsR:=askN native (match native with | true=>which c s.objs | false=>0) s fun k s=>match k with
    | 0=>.skip s
    | k + 1=>match conNth cons k with
      | none=>.take (.stop "contract" k s)
      | some F=>askN native (ownJs native F c s).length s fun m s=>askJs native m (ownJs native F c s) [] s fun js s=>askN native (ownBs native F c).length s fun mb s=>askJs native mb (ownBs native F c) [] s fun bs s=>match s with
        | ⟨objs,bgs,gk,m,i,orc,log,eqs,obl⟩=>match Nat.ble (F (n + m) (t + i) c (Zxr objs js) (Zxr bgs bs)).need (fuel + 1) with
          | true=>conTake (F (n + m) (t + i) c (Zxr objs js) (Zxr bgs bs)) fs js bs c ⟨objs,bgs,gk,m,i,orc,log,eqs,obl⟩
          | false=>.take (.stop "contract: depth" k s)
noncomputable def strItems:List Value→Option (List Str)
  | []=>some []
  | v::r=>match v with
    | .str x _=>match strItems r with
      | some l=>some (x::l)
      | none=>none
    | _=>none
noncomputable def tupTexts (o:Obj):Option (List Str):=match o with
  | ⟨_,_,.seq items _,_⟩=>strItems items.toList
  | _=>none
noncomputable def isZ (k:Nat):Bool:=match k with
  | 0=>true
  | _=>false
noncomputable def tupAns (top:Addr→Option Obj) (id:String) (kw:List (Str × Value)) (a:Addr) (x:Str) (k j:Nat) (s:ES):AnsR:=match s with
  | ⟨objs,bgs,gk,m,i,orc,log,eqs,obl⟩=>match j with
    | 0=>match top a with
      | some o=>match tupTexts o with
        | some ys=>Zx5 "tuple.__contains__" (isZ k) (ys.any (· == x) = isZ k) id kw ⟨objs,bgs,gk,m,i,orc,log,(.o o,.o { o with cls:=.type "tuple" })::eqs,obl⟩
        | none=>.take (.stop "tuple" 0 s)
      | none=>.take (.stop "tuple" 1 s)
    | j + 1=>match at? objs j with
      | some p=>match p with
        | (b,o)=>match tupTexts o with
          | some ys=>Zx5 "tuple.__contains__" (isZ k) (ys.any (· == x) = isZ k) id kw ⟨objs,bgs,gk,m,i,orc,log,(.o o,.o { o with cls:=.type "tuple" })::(.a a,.a b)::eqs,obl⟩
          | none=>.take (.stop "tuple" 2 s)
      | none=>.take (.stop "tuple" 3 s)
noncomputable def refAns (native:Bool) (top:Addr→Option Obj) (sym:Code→Nat) (c:Code) (s:ES):AnsR:=match c with
  | .builtin id args=>match args with
    | ⟨pos,kw⟩=>match pos with
      | v::r=>match v with
        | .ref a=>match r with
          | v2::r2=>match v2 with
            | .str x tx=>match r2 with
              | []=>askN native (sym (.builtin id ⟨[.ref a,.str x tx],kw⟩)) s fun k s=>match k with
                | 0=>.skip s
                | k + 1=>askN native (match native with | true=>(match idxOf a s.objs 0 with | some j=>j + 1 | none=>0) | false=>0) s fun j s=>tupAns top id kw a x k j s
              | _=>.skip s
            | _=>.skip s
          | []=>.skip s
        | _=>.skip s
      | []=>.skip s
  | _=>.skip s
noncomputable def bothAns (native:Bool) (top:Addr→Option Obj) (which:Code→List (Addr × Obj)→Nat) (sym:Code→Nat) (n t:Nat) (sts:List Str) (cons:List Fam) (fs:Option (List Env)) (fuel:Nat) (c:Code) (s:ES):AnsR :=
  match conAns native which n t cons fs fuel c s with
  | .skip s=>match refAns native top sym c s with
    | .skip s=>dataAns native t sym sts c s
    | .take o=>.take o
  | .take o=>.take o
noncomputable def CZ (T:Params→Addr→Option Obj) (prog:Program) (w:World) (n t:Nat) (sts:List Str) (cons:List Fam):Cfg :=
  { den:=denZ,prep:=Zjw,set:=⟨prog,w.params⟩,top:=T w.params,n:=n,t:=t,native:=false,sym:=fun _=>0,ans:=bothAns false (T w.params) (fun _ _=>0) (fun _=>0) n t sts cons }
theorem side_c {a b:Code} (h:Zvz.c a = Zvz.c b):a = b:=by injection h
theorem side_p {a b:List (Option (Addr × Obj))} (h:Zvz.p a = Zvz.p b):a = b:=by injection h
theorem side_b {a b:List (Option Bag)} (h:Zvz.b a = Zvz.b b):a = b:=by injection h
theorem side_f {a b:Option (List Env)} (h:Zvz.f a = Zvz.f b):a = b:=by injection h
theorem conFr_is {K:Con} {fs:Option (List Env)} {e:List (Zvz × Zvz)} (h:∀ q ∈ conFr K fs e,q.1 = q.2):(∀ l,K.fr = some l→fs = some l)∧∀ q ∈ e,q.1 = q.2:=by
  unfold conFr at h
  split at h
  · rename_i e; exact ⟨fun l z=>(by rw [e] at z; cases z),h⟩
  · rename_i l' e; exact ⟨fun l z=>(by rw [e] at z; cases z; exact side_f (h _ (.head _))),fun q hq=>h q (.tail _ hq)⟩
theorem conTake_ok {fs:Option (List Env)} {C:Cfg} {T:Params→Addr→Option Obj} {prog:Program} {w:World} {h₀:Base} {r:Zkc} {N:Nat} {K:Con} {js bs:List Nat} {c:Code} {st:ES} (G:Ground T w h₀.heap) (hK:Zq1 T prog w (C.n + st.m) (C.t + st.i) K) (hN:K.need≤N + 1) :
    Zzj fs N C prog w h₀ r c st (conTake K fs js bs c st):=by
  obtain ⟨objs,bgs,gk,m,i,orc,log,eqs,obl⟩:=st
  unfold conTake
  dsimp only
  cases hjs:Zjc js with
  | false=>exact fun R P=>P.elim
  | true =>
  cases hbs:Zjc bs with
  | false=>exact fun R P=>P.elim
  | true =>
  have hjs:=Zz1 hjs
  have hbs:=Zz1 hbs
  intro R P
  have all0:∃ st',Zkm st'∧st'.eqs = (.c c,.c K.code)::(.p (Zxr objs js),.p (K.pre.map some))::(.b (Zxr bgs bs),.b (K.preB.map some))::conFr K fs eqs∧st'.obl = obl:=by
    have:=P Ext.nil
    dsimp only at this
    cases e:K.res Ext.nil with
    | ok f=>rw [e] at this; exact ⟨_,this.1,rfl,rfl⟩
    | error v=>rw [e] at this; exact ⟨_,this.1,rfl,rfl⟩
  obtain ⟨st',all0,es,os⟩:=all0
  unfold Zkm at all0
  rw [es,os] at all0
  have hc:c = K.code:=side_c (all0.1 _ (.head _))
  have hp:Zxr objs js = K.pre.map some:=side_p (all0.1 _ (.tail _ (.head _)))
  have hb:Zxr bgs bs = K.preB.map some:=side_b (all0.1 _ (.tail _ (.tail _ (.head _))))
  obtain ⟨hfr,hfe⟩:=conFr_is (K:=K) (fs:=fs) (e:=eqs) fun q hq=>all0.1 q (.tail _ (.tail _ (.tail _ hq)))
  refine ⟨⟨hfe,all0.2⟩,fun A h t hA D=>?_⟩
  subst hc
  have hA':AOk A K.fr K.need:=⟨hA.hand,by have:=hA.deep; lia,by have:=hA.units; lia,fun l e=>hA.frames l (hfr l e)⟩
  obtain ⟨tok,gens⟩:=t
  have ht:tok = C.t + i:=D.toks
  subst ht
  have O:Own h₀.heap (objs++Zqr bgs) h:=⟨D.keep,D.own,D.nodup,D.apart⟩
  have perm:(objs++Zqr bgs).Perm (K.preA++(Zj5 0 objs js++Zqr (Zj5 0 bgs bs))) :=
    ((Zks hp hjs).append (picksB_perm hb hbs)).trans (mid_perm _ _ _ _)
  refine hK.use G hA' O perm D.size fun x h' g' O' hs hg=>?_
  have Pr:=P x
  dsimp only at Pr
  have rep:Rep C h₀ ⟨(K.fresh x++K.post x)++Zj5 0 objs js,K.postB x++Zj5 0 bgs bs,(match K.gen with | true=>false | false=>gk),m + K.made x,i + x.nat 1,orc,log,(.c K.code,.c K.code)::(.p (Zxr objs js),.p (K.pre.map some))::(.b (Zxr bgs bs),.b (K.preB.map some))::conFr K fs eqs,obl⟩ h' ⟨C.t + i + x.nat 1,g'⟩:=by
    have O2:=O'.perm (mid_perm (K.fresh x++K.post x) (Zqr (K.postB x)) (Zj5 0 objs js) (Zqr (Zj5 0 bgs bs)))
    rw [← flatB_append] at O2
    refine ⟨?_,by show C.t + i + x.nat 1 = C.t + (i + x.nat 1); lia,O2.own,O2.nodup,O2.keep,O2.apart,?_⟩
    · show h'.objs.size = C.n + (m + K.made x)
      rw [hs]; show C.n + m + K.made x = _; lia
    · refine Zq5.trans D.gens hg fun e=>?_
      cases e1:K.gen with
      | true=>rw [e1] at e; cases e
      | false=>rw [e1] at e; exact ⟨e,rfl⟩
  cases e:K.res x with
  | ok f=>rw [e] at Pr; exact Pr.2 h' _ rep
  | error v=>rw [e] at Pr; exact Pr.2 h' _ rep
noncomputable def Zx1 (T:Params→Addr→Option Obj) (prog:Program) (w:World) (cons:List Fam):Prop:=∀ f ∈ cons,∀ n t c l b,Zq1 T prog w n t (f n t c l b)
theorem conNth_mem:∀ {cons:List Fam} {k:Nat} {F:Fam},conNth cons k = some F→F ∈ cons
  | [],_,_,e=>by cases e
  | f::r,0,F,e=>by cases e; exact .head _
  | f::r,k + 1,F,e=>.tail _ (conNth_mem (cons:=r) (k:=k) e)
section
variable {fs:Option (List Env)} {C:Cfg} {T:Params→Addr→Option Obj} {prog:Program} {w:World} {h₀:Base} {r:Zkc} {N:Nat}
theorem askN_ok {c:Code} {native:Bool} {own:Nat} {st:ES} {K:Nat→ES→AnsR} (h:∀ k st',st'.objs = st.objs∧st'.m = st.m∧st'.i = st.i∧st'.eqs = st.eqs∧st'.obl = st.obl∧st'.bags = st.bags∧st'.gk = st.gk→Zzj fs N C prog w h₀ r c st' (K k st')):Zzj fs N C prog w h₀ r c st (askN native own st K):=by
  obtain ⟨objs,bgs,gk,m,i,orc,log,eqs,obl⟩:=st
  unfold askN
  cases native with
  | true=>exact Zzj.same (st':=⟨objs,bgs,gk,m,i,orc,own::log,eqs,obl⟩) ⟨rfl,rfl,rfl,rfl,rfl,rfl,rfl⟩ (h _ _ ⟨rfl,rfl,rfl,rfl,rfl,rfl,rfl⟩)
  | false =>
    cases orc with
    | nil=>exact fun R P=>P.elim
    | cons k orc=>exact Zzj.same (st':=⟨objs,bgs,gk,m,i,orc,log,eqs,obl⟩) ⟨rfl,rfl,rfl,rfl,rfl,rfl,rfl⟩ (h _ _ ⟨rfl,rfl,rfl,rfl,rfl,rfl,rfl⟩)
theorem askJs_ok {c:Code} {native:Bool}:∀ {m:Nat} {own js:List Nat} {st:ES} {K:List Nat→ES→AnsR},(∀ js st',st'.objs = st.objs∧st'.m = st.m∧st'.i = st.i∧st'.eqs = st.eqs∧st'.obl = st.obl∧st'.bags = st.bags∧st'.gk = st.gk→Zzj fs N C prog w h₀ r c st' (K js st'))→Zzj fs N C prog w h₀ r c st (askJs native m own js st K)
  | 0,own,js,st,K,h=>h _ _ ⟨rfl,rfl,rfl,rfl,rfl,rfl,rfl⟩
  | m + 1,own,js,st,K,h=>by
    unfold askJs
    refine askN_ok fun k st' ⟨a1,a2,a3,a4,a5,a6,a7⟩=>askJs_ok (m:=m) fun js st'' ⟨b1,b2,b3,b4,b5,b6,b7⟩=>h js st'' ⟨b1.trans a1,b2.trans a2,b3.trans a3,b4.trans a4,b5.trans a5,b6.trans a6,b7.trans a7⟩
theorem conAns_ok {native:Bool} {which:Code→List (Addr × Obj)→Nat} {cons:List Fam} (G:Ground T w h₀.heap) (hC:Zx1 T prog w cons) (c:Code) (st:ES) :
    Zzj fs N C prog w h₀ r c st (conAns native which C.n C.t cons fs N c st):=by
  unfold conAns
  · refine Zzj.ask fun k st'=>?_
    cases k with
    | zero=>exact Zzj.skip
    | succ k =>
      dsimp only
      split
      · exact fun R P=>P.elim
      · rename_i F e
        refine Zzj.ask fun m st1=>askJs_ok fun js st2 e2=>Zzj.ask fun mb st3=>askJs_ok fun bs st4 e4=>?_
        obtain ⟨objs,bgs,gk,m,i,orc,log,eqs,obl⟩:=st4
        dsimp only
        split
        · rename_i hb
          exact conTake_ok (st:=⟨objs,bgs,gk,m,i,orc,log,eqs,obl⟩) G (hC F (conNth_mem e) _ _ _ _ _) (Nat.le_of_ble_eq_true hb)
        · exact fun R P=>P.elim
theorem strItems_is:∀ {l:List Value} {ys:List Str},strItems l = some ys→PyProof.Rows.StrsAre l ys
  | [],ys,h=>by cases h; exact .nil
  | v::r,ys,h=>by
    unfold strItems at h
    split at h
    · rename_i x t
      split at h
      · rename_i l e
        cases h
        exact .cons x t (strItems_is e)
      · cases h
    · cases h
theorem tupTexts_is {o:Obj} {ys:List Str} (h:tupTexts o = some ys):∃ items n,o.data = .seq items n∧PyProof.Rows.StrsAre items.toList ys:=by
  unfold tupTexts at h
  split at h
  · exact ⟨_,_,rfl,strItems_is h⟩
  · cases h
theorem tup_core {a:Addr} {x:Str} {tx:Tok} {id:String} {kw:List (Str × Value)} {v:Bool} {objs:List (Addr × Obj)} {m i:Nat} {orc log:List Nat} {eqs e2:List (Zvz × Zvz)} {obl:List Prop} {o:Obj} {ys:List Str}
    (hs:∀ q ∈ eqs,q ∈ e2) (hget:(∀ q ∈ e2,q.1 = q.2)→∀ hh tk,Rep C h₀ ⟨objs,bgs,gk,m,i,orc,log,eqs,obl⟩ hh tk→hh.get? a = some o) (hy:tupTexts o = some ys) :
    Zzj fs N C prog w h₀ r (.builtin id ⟨[.ref a,.str x tx],kw⟩) ⟨objs,bgs,gk,m,i,orc,log,eqs,obl⟩ (Zx5 "tuple.__contains__" v (ys.any (· == x) = v) id kw ⟨objs,bgs,gk,m,i,orc,log,(.o o,.o { o with cls:=.type "tuple" })::e2,obl⟩):=by
  obtain ⟨items,ep,hd,hi⟩:=tupTexts_is hy
  intro R P
  have ob:ys.any (· == x) = v:=P.1.2 _ (.head _)
  obtain ⟨rfl,rfl⟩:=name_is (id:=id) (kw:=kw) (id' := "tuple.__contains__") fun e he=>P.1.1 e (List.mem_append_left _ he)
  have hcls:o.cls = .type "tuple" := by have:=side_o (P.1.1 (.o o,.o { o with cls:=.type "tuple" }) (List.mem_append_right _ (.head _))); rw [this]
  have he2:∀ q ∈ e2,q.1 = q.2:=fun q hq=>P.1.1 q (List.mem_append_right _ (.tail _ hq))
  refine ⟨⟨fun q hq=>he2 q (hs q hq),fun q hq=>P.1.2 q (.tail _ hq)⟩,fun A hh tk hA D=>?_⟩
  refine codeAny_builtin F.entry_tuple_contains ?_
  rw [Around.under_plainId (by decide +kernel)]
  refine PyProof.Rows.tuple_contains_strs (items:=items) (ys:=ys) ⟨o,hget he2 hh tk D,hcls,ep,hd⟩ hi ?_
  show R (.ok (.ret (.bool (ys.any (· == x))))) _
  rw [ob]
  exact P.2 hh tk ⟨D.size,D.toks,D.own,D.nodup,D.keep,D.apart,D.gens⟩
theorem tupAns_ok {a:Addr} {x:Str} {tx:Tok} {id:String} {kw:List (Str × Value)} {k j:Nat} {st:ES} (G:Ground T w h₀.heap):Zzj fs N C prog w h₀ r (.builtin id ⟨[.ref a,.str x tx],kw⟩) st (tupAns (T w.params) id kw a x k j st):=by
  obtain ⟨objs,bgs,gk,m,i,orc,log,eqs,obl⟩:=st
  unfold tupAns
  dsimp only
  split
  · split
    · rename_i o ho
      split
      · rename_i ys hy
        exact tup_core (fun q hq=>hq) (fun _ hh tk D=>D.keep _ _ (G.top _ _ ho)) hy
      · exact fun R P=>P.elim
    · exact fun R P=>P.elim
  · split
    · rename_i p hp
      obtain ⟨b,o⟩:=p
      dsimp only
      split
      · rename_i ys hy
        exact tup_core (fun q hq=>.tail _ hq) (fun he hh tk D=>by rw [side_a (he _ (.head _))]; exact D.own _ (all_mem (at?_mem hp))) hy
      · exact fun R P=>P.elim
    · exact fun R P=>P.elim
theorem refAns_ok {native:Bool} {sym:Code→Nat} {c:Code} {st:ES} (G:Ground T w h₀.heap):Zzj fs N C prog w h₀ r c st (refAns native (T w.params) sym c st):=by
  unfold refAns
  split
  · rename_i id args
    obtain ⟨pos,kw⟩:=args
    dsimp only
    split
    · split
      · split
        · split
          · split
            · refine Zzj.ask fun k st'=>?_
              cases k with
              | zero=>exact Zzj.skip
              | succ k=>exact Zzj.ask fun j st''=>tupAns_ok G
            · exact Zzj.skip
          · exact Zzj.skip
        · exact Zzj.skip
      · exact Zzj.skip
    · exact Zzj.skip
  · exact Zzj.skip
theorem bothAns_ok {native:Bool} {which:Code→List (Addr × Obj)→Nat} {sym:Code→Nat} {sts:List Str} {cons:List Fam} (G:Ground T w h₀.heap) (hC:Zx1 T prog w cons) (c:Code) (st:ES) :
    Zzj fs N C prog w h₀ r c st (bothAns native (T w.params) which sym C.n C.t sts cons fs N c st):=by
  unfold bothAns
  have:=conAns_ok (fs:=fs) (N:=N) (C:=C) (prog:=prog) (r:=r) (native:=native) (which:=which) G hC c st
  split
  · rename_i s e
    rw [e] at this
    have h2:=refAns_ok (fs:=fs) (N:=N) (C:=C) (prog:=prog) (r:=r) (native:=native) (sym:=sym) (c:=c) (st:=s) G
    split
    · rename_i s' e'
      rw [e'] at h2
      exact Zzj.same this (Zzj.same h2 (dataAns_ok native sym sts rfl c s'))
    · rename_i o e'
      rw [e'] at h2
      exact Zzj.same this h2
  · rename_i o e
    rw [e] at this
    exact this
end
theorem cz_ok {T:Params→Addr→Option Obj} {prog:Program} {w:World} {h₀:Base} {r:Zkc} {n t:Nat} {sts:List Str} {cons:List Fam} (G:Ground T w h₀.heap) (hC:Zx1 T prog w cons):CfgOk (CZ T prog w n t sts cons) prog w h₀ r :=
  ⟨rfl,denZ_eq,Zvv,rfl,G.top,G.nolimit,fun fs k c st=>bothAns_ok (C:=CZ T prog w n t sts cons) G hC c st⟩
noncomputable def openS {α:Type}:Out α→(Nat→Ext)→Out α
  | .more k,f=>openS (k (f 0)) fun n=>f (n + 1)
  | o,_=>o
theorem Zk7 {α:Type} {C:Cfg} {h₀:Base} {r:Zkc} {Q:α→Shared→Prop} {E:Value→Shared→Prop}:∀ (o:Out α),(∀ f,Post C h₀ r (openS o f) Q E)→Post C h₀ r o Q E
  | .ok a s,h=>h fun _=>Ext.nil
  | .err e s,h=>h fun _=>Ext.nil
  | .stop ..,h=>h fun _=>Ext.nil
  | .more k,h=>fun x=>Zk7 (k x) fun f=>h fun n=>match n with | 0=>x | n + 1=>f n
  | .look ..,h=>h fun _=>Ext.nil
noncomputable def openL {α:Type}:Out α→(Nat→Looks)→Out α
  | .look k,l=>openL (k (l 0)) fun n=>l (n + 1)
  | .more k,l=>.more fun x=>openL (k x) l
  | o,_=>o
theorem post_openL {α:Type} {C:Cfg} {h₀:Base} {r:Zkc} {Q:α→Shared→Prop} {E:Value→Shared→Prop}:∀ (o:Out α),(∀ l,Post C h₀ r (openL o l) Q E)→Post C h₀ r o Q E
  | .ok a s,h=>h fun _=>looks0
  | .err e s,h=>h fun _=>looks0
  | .stop ..,h=>h fun _=>looks0
  | .more k,h=>fun x=>post_openL (k x) fun l=>h l x
  | .look k,h=>fun L=>post_openL (k L) fun l=>h fun n=>match n with | 0=>L | n + 1=>l n
noncomputable def sees (ks:List Nat) (o:Out Flow):Option (Result × List (Option (Addr × Obj)) × List Prop):=match o with
  | .ok f s=>some (.ok f,Zxr s.objs ks,s.obl)
  | .err e s=>some (.error e,Zxr s.objs ks,s.obl)
  | _=>none
noncomputable def seesX (ks kb:List Nat) (o:Out Flow):Option (Result × List (Option (Addr × Obj)) × List (Option Bag) × List Prop):=match o with
  | .ok f s=>some (.ok f,Zxr s.objs ks,Zxr s.bags kb,s.obl)
  | .err e s=>some (.error e,Zxr s.objs ks,Zxr s.bags kb,s.obl)
  | _=>none
noncomputable def eqL (o:Out Flow):List Zvz:=match o with
  | .ok _ s=>s.eqs.map (·.1)
  | .err _ s=>s.eqs.map (·.1)
  | _=>[]
noncomputable def eqR (o:Out Flow):List Zvz:=match o with
  | .ok _ s=>s.eqs.map (·.2)
  | .err _ s=>s.eqs.map (·.2)
  | _=>[]
noncomputable def extOf (tk:Result→List (Option (Addr × Obj))→Nat→Nat) (sl:List (Option (Addr × Obj))→Nat→Array (Option Value)) (ks:List Nat) (o:Out Flow):Ext:=match o with
  | .ok f s=>⟨fun j=>match j with | 0=>s.m | 1=>s.i | j + 2=>tk (.ok f) (Zxr s.objs ks) j,sl (Zxr s.objs ks),fun _ _ _=>0,Ext.nil.ob⟩
  | .err e s=>⟨fun j=>match j with | 0=>s.m | 1=>s.i | j + 2=>tk (.error e) (Zxr s.objs ks) j,sl (Zxr s.objs ks),fun _ _ _=>0,Ext.nil.ob⟩
  | _=>Ext.nil
noncomputable def start (objs:List (Addr × Obj)) (orc:List Nat):ES:=⟨objs,[],true,0,0,orc,[],[],[]⟩
noncomputable def startX (objs:List (Addr × Obj)) (bgs:List Bag) (orc:List Nat):ES:=⟨objs,bgs,true,0,0,orc,[],[],[]⟩
noncomputable def extX (ex:Result→List (Option (Addr × Obj))→List (Option Bag)→Ext) (ks kb:List Nat) (o:Out Flow):Ext:=match o with
  | .ok f s=>match ex (.ok f) (Zxr s.objs ks) (Zxr s.bags kb) with | ⟨nt,sl,sq,ob⟩=>⟨fun j=>match j with | 0=>s.m | 1=>s.i | j + 2=>nt j,sl,sq,ob⟩
  | .err e s=>match ex (.error e) (Zxr s.objs ks) (Zxr s.bags kb) with | ⟨nt,sl,sq,ob⟩=>⟨fun j=>match j with | 0=>s.m | 1=>s.i | j + 2=>nt j,sl,sq,ob⟩
  | _=>Ext.nil
theorem zip_eq:∀ {l:List (Zvz × Zvz)},l.map (·.1) = l.map (·.2)→∀ e ∈ l,e.1 = e.2
  | [],_,_,h=>nomatch h
  | x::r,h,e,he=>by
    simp only [List.map_cons,List.cons.injEq] at h
    rcases List.mem_cons.mp he with rfl | he
    · exact h.1
    · exact zip_eq h.2 e he
theorem zip_eq' {l:List (Zvz × Zvz)} (h:l.map (·.1) = l.map (·.2)):∀ e ∈ l,e.1 = e.2:=zip_eq h
theorem own_of_rep {C:Cfg} {h₀:Base} {h':Heap} {st:ES} {t:Clk} {ks kb:List Nat} {l:List (Addr × Obj)} {bl:List Bag} (D:Rep C h₀ st h' t) (hks:ks.Nodup) (hkb:kb.Nodup)
    (e1:Zxr st.objs ks = l.map some) (e2:Zxr st.bags kb = bl.map some):Own h₀.heap (l++Zqr bl) h':=by
  have O:Own h₀.heap (st.objs++Zqr st.bags) h':=⟨D.keep,D.own,D.nodup,D.apart⟩
  exact (O.perm (((Zks e1 hks).append (picksB_perm e2 hkb)).trans (mid_perm _ _ _ _))).drop
noncomputable def gkOf (o:Out Flow):Bool:=match o with
  | .ok _ s=>s.gk
  | .err _ s=>s.gk
  | _=>false
theorem postX_of {T:Params→Addr→Option Obj} {prog:Program} {w:World} {n t:Nat} {sts:List Str} {cons:List Fam} {h₀:Base} {r:Zkc} {K:Con} {ks kb:List Nat} {R:Result→Shared→Prop} (o:Out Flow)
    (x:Ext) (hks:ks.Nodup) (hkb:kb.Nodup) {P:List Prop} (hx:match o with | .ok _ s=>x.nat 0 = s.m∧x.nat 1 = s.i | .err _ s=>x.nat 0 = s.m∧x.nat 1 = s.i | _=>True)
    (hv:seesX ks kb o = some (K.res x,(K.fresh x++K.post x).map some,(K.postB x).map some,P)) (he:eqL o = eqR o) (hP:∀ p ∈ P,p)
    (hgk:K.gen = false→gkOf o = true) (hmd:K.made x = x.nat 0)
    (hR:∀ x h' g',Own h₀.heap (K.postA x) h'→h'.objs.size = n + K.made x→Zq5 K.gen h₀.gens g'→R (K.res x) (r.at h' ⟨t + x.nat 1,g'⟩)) :
    Post (CZ T prog w n t sts cons) h₀ r o (fun f=>R (.ok f)) (fun e=>R (.error e)):=by
  cases o with
  | stop _ _ _=>cases hv
  | more _=>cases hv
  | look _=>cases hv
  | ok f st =>
    have hv':=Option.some.inj hv
    simp only [Prod.mk.injEq] at hv'
    obtain ⟨v1,v2,v3,v4⟩:=hv'
    refine ⟨⟨zip_eq he,by rw [v4]; exact hP⟩,fun h' tk' D=>?_⟩
    have z:=hR x h' tk'.gens (own_of_rep D hks hkb v2 v3) (by rw [hmd,hx.1]; exact D.size) ⟨fun e=>D.gens.1 (by have z:=hgk e; show (!st.gk) = false; rw [show st.gk = true from z]; rfl),D.gens.2⟩
    rw [← v1] at z
    obtain ⟨tok,gens⟩:=tk'
    have:=D.toks
    dsimp only at this
    rw [hx.2] at z
    subst this
    exact z
  | err e st =>
    have hv':=Option.some.inj hv
    simp only [Prod.mk.injEq] at hv'
    obtain ⟨v1,v2,v3,v4⟩:=hv'
    refine ⟨⟨zip_eq he,by rw [v4]; exact hP⟩,fun h' tk' D=>?_⟩
    have z:=hR x h' tk'.gens (own_of_rep D hks hkb v2 v3) (by rw [hmd,hx.1]; exact D.size) ⟨fun e=>D.gens.1 (by have z:=hgk e; show (!st.gk) = false; rw [show st.gk = true from z]; rfl),D.gens.2⟩
    rw [← v1] at z
    obtain ⟨tok,gens⟩:=tk'
    have:=D.toks
    dsimp only at this
    rw [hx.2] at z
    subst this
    exact z
noncomputable def Zzs (T:Params→Addr→Option Obj) (prog:Program) (w:World) (n t:Nat) (sts:List Str) (cons:List Fam) (K:Con) (orc:List Nat) (f:Nat→Ext):Out Flow :=
  openS (engC (CZ T prog w n t sts cons) K.need K.fr K.code (startX K.pre K.preB orc)) f
theorem conOk_of {T:Params→Addr→Option Obj} {prog:Program} {w:World} {n t:Nat} {sts:List Str} {cons:List Fam} {K:Con} {ks kb:List Nat} {orc:List Nat} (hC:Zx1 T prog w cons)
    (x:(Nat→Ext)→Ext) (hks:Zjc ks = true) (hkb:Zjc kb = true) (P:(Nat→Ext)→List Prop)
    (hx:∀ f,match Zzs T prog w n t sts cons K orc f with | .ok _ s=>(x f).nat 0 = s.m∧(x f).nat 1 = s.i | .err _ s=>(x f).nat 0 = s.m∧(x f).nat 1 = s.i | _=>True)
    (hv:∀ f,seesX ks kb (Zzs T prog w n t sts cons K orc f) = some (K.res (x f),(K.fresh (x f)++K.post (x f)).map some,(K.postB (x f)).map some,P f)) (he:∀ f,eqL (Zzs T prog w n t sts cons K orc f) = eqR (Zzs T prog w n t sts cons K orc f)) (hP:∀ f,∀ p ∈ P f,p) (hgk:K.gen = false→∀ f,gkOf (Zzs T prog w n t sts cons K orc f) = true) (hmd:∀ f,K.made (x f) = (x f).nat 0) :
    Zq1 T prog w n t K:=by
  refine ⟨fun h₀ h r g A R G hA O hs hR=>?_⟩
  have ok:CfgOk (CZ T prog w n t sts cons) prog w ⟨h₀,g⟩ r:=cz_ok G hC
  refine (Zk0 ok K.need K.fr K.code (startX K.pre K.preB orc) R (Zk7 _ fun f=>?_)).2 A h ⟨t,g⟩ hA ⟨hs,rfl,O.own,O.nodup,O.keep,O.apart,Zq5.refl _ _⟩
  exact postX_of (Zzs T prog w n t sts cons K orc f) (x f) (Zz1 hks) (Zz1 hkb) (hx f) (hv f) (he f) (hP f) (fun e=>hgk e f) (hmd f) hR
noncomputable abbrev Zq6 (ks:List Nat) (K:Con) (tk:Result→List (Option (Addr × Obj))→Nat→Nat) (sl:List (Option (Addr × Obj))→Nat→Array (Option Value)) (P:List Prop) (o:Out Flow):Prop :=
  (sees ks o,eqL o) = (some (K.res (extOf tk sl ks o),(K.fresh (extOf tk sl ks o)++K.post (extOf tk sl ks o)).map some,P),eqR o)
noncomputable abbrev Zvk (ks kb:List Nat) (K:Con) (ex:Result→List (Option (Addr × Obj))→List (Option Bag)→Ext) (P:List Prop) (o:Out Flow):Prop :=
  (seesX ks kb o,eqL o) = (some (K.res (extX ex ks kb o),(K.fresh (extX ex ks kb o)++K.post (extX ex ks kb o)).map some,(K.postB (extX ex ks kb o)).map some,P),eqR o)
theorem extX_nat {ex:Result→List (Option (Addr × Obj))→List (Option Bag)→Ext} {ks kb:List Nat} (o:Out Flow) :
    match o with | .ok _ s=>(extX ex ks kb o).nat 0 = s.m∧(extX ex ks kb o).nat 1 = s.i | .err _ s=>(extX ex ks kb o).nat 0 = s.m∧(extX ex ks kb o).nat 1 = s.i | _=>True:=by
  cases o <;> first | exact ⟨rfl,rfl⟩ | trivial
theorem extOf_nat {tk:Result→List (Option (Addr × Obj))→Nat→Nat} {sl:List (Option (Addr × Obj))→Nat→Array (Option Value)} {ks:List Nat} (o:Out Flow) :
    match o with | .ok _ s=>(extOf tk sl ks o).nat 0 = s.m∧(extOf tk sl ks o).nat 1 = s.i | .err _ s=>(extOf tk sl ks o).nat 0 = s.m∧(extOf tk sl ks o).nat 1 = s.i | _=>True:=by
  cases o <;> first | exact ⟨rfl,rfl⟩ | trivial
theorem sees_X {ks:List Nat} {o:Out Flow} {a:Result} {b:List (Option (Addr × Obj))} {c:List Prop} (h:sees ks o = some (a,b,c)):seesX ks [] o = some (a,b,[],c):=by
  cases o with
  | stop _ _ _=>cases h
  | more _=>cases h
  | look _=>cases h
  | ok f s=>cases h; rfl
  | err f s=>cases h; rfl
theorem Zqb {T:Params→Addr→Option Obj} {prog:Program} {w:World} {n t:Nat} {sts:List Str} {cons:List Fam} {K:Con} {ks:List Nat} {orc:List Nat}
    {tk:(Nat→Ext)→Result→List (Option (Addr × Obj))→Nat→Nat} {sl:(Nat→Ext)→List (Option (Addr × Obj))→Nat→Array (Option Value)} {P:(Nat→Ext)→List Prop}
    (hC:Zx1 T prog w cons) (noB:∀ x,K.postB x = []) (hks:Zjc ks = true)
    (h:∀ f,Zq6 ks K (tk f) (sl f) (P f) (Zzs T prog w n t sts cons K orc f)) (hP:∀ f,∀ p ∈ P f,p) (hgk:K.gen = false→∀ f,gkOf (Zzs T prog w n t sts cons K orc f) = true:=by exact fun h=>Bool.noConfusion (show true = false from h)) (hmd:∀ x,K.made x = x.nat 0:=by exact fun _=>rfl):Zq1 T prog w n t K :=
  conOk_of (kb:=[]) hC (fun f=>extOf (tk f) (sl f) ks (Zzs T prog w n t sts cons K orc f)) hks rfl P (fun f=>extOf_nat _) (fun f=>by rw [noB]; exact sees_X (congrArg Prod.fst (h f))) (fun f=>congrArg Prod.snd (h f)) hP hgk (fun _=>hmd _)
theorem Zjk {T:Params→Addr→Option Obj} {prog:Program} {w:World} {n t:Nat} {sts:List Str} {cons:List Fam} {K:Con} {ks kb:List Nat} {orc:List Nat}
    {ex:(Nat→Ext)→Result→List (Option (Addr × Obj))→List (Option Bag)→Ext} {P:(Nat→Ext)→List Prop}
    (hC:Zx1 T prog w cons) (hks:Zjc ks = true) (hkb:Zjc kb = true)
    (h:∀ f,Zvk ks kb K (ex f) (P f) (Zzs T prog w n t sts cons K orc f)) (hP:∀ f,∀ p ∈ P f,p) (hgk:K.gen = false→∀ f,gkOf (Zzs T prog w n t sts cons K orc f) = true:=by exact fun h=>Bool.noConfusion (show true = false from h)) (hmd:∀ x,K.made x = x.nat 0:=by exact fun _=>rfl):Zq1 T prog w n t K :=
  conOk_of hC (fun f=>extX (ex f) ks kb (Zzs T prog w n t sts cons K orc f)) hks hkb P (fun f=>extX_nat _) (fun f=>congrArg Prod.fst (h f)) (fun f=>congrArg Prod.snd (h f)) hP hgk (fun _=>hmd _)
noncomputable def runCL (T:Params→Addr→Option Obj) (prog:Program) (w:World) (n t:Nat) (sts:List Str) (cons:List Fam) (K:Con) (orc:List Nat) (l:Nat→Looks) (f:Nat→Ext):Out Flow :=
  openS (openL (engC (CZ T prog w n t sts cons) K.need K.fr K.code (startX K.pre K.preB orc)) l) f
theorem conOk_runL {T:Params→Addr→Option Obj} {prog:Program} {w:World} {n t:Nat} {sts:List Str} {cons:List Fam} {K:Con} {ks kb:List Nat} {orc:List Nat}
    {ex:(Nat→Ext)→Result→List (Option (Addr × Obj))→List (Option Bag)→Ext} {P:(Nat→Ext)→List Prop}
    (hC:Zx1 T prog w cons) (hks:Zjc ks = true) (hkb:Zjc kb = true)
    (h:∀ l f,Zvk ks kb K (ex f) (P f) (runCL T prog w n t sts cons K orc l f)) (hP:∀ f,∀ p ∈ P f,p) (hgk:K.gen = false→∀ l f,gkOf (runCL T prog w n t sts cons K orc l f) = true:=by exact fun h=>Bool.noConfusion (show true = false from h)) (hmd:∀ x,K.made x = x.nat 0:=by exact fun _=>rfl):Zq1 T prog w n t K:=by
  refine ⟨fun h₀ h' r g A R G hA O hs hR=>?_⟩
  have ok:CfgOk (CZ T prog w n t sts cons) prog w ⟨h₀,g⟩ r:=cz_ok G hC
  refine (Zk0 ok K.need K.fr K.code (startX K.pre K.preB orc) R (post_openL _ fun l=>Zk7 _ fun f=>?_)).2 A h' ⟨t,g⟩ hA ⟨hs,rfl,O.own,O.nodup,O.keep,O.apart,Zq5.refl _ _⟩
  exact postX_of (runCL T prog w n t sts cons K orc l f) (extX (ex f) ks kb (runCL T prog w n t sts cons K orc l f)) (Zz1 hks) (Zz1 hkb) (extX_nat _) (congrArg Prod.fst (h l f)) (congrArg Prod.snd (h l f)) (hP f) (fun e=>hgk e l f) (hmd _) hR
theorem Zqq {T:Params→Addr→Option Obj} {prog:Program} {w:World}:Zx1 T prog w []:=fun _ h=>nomatch h
theorem Zqx {T:Params→Addr→Option Obj} {prog:Program} {w:World} {K:Fam} {cons:List Fam} (h:∀ n t c l b,Zq1 T prog w n t (K n t c l b)) (hc:Zx1 T prog w cons):Zx1 T prog w (K::cons):=fun f hf=>by
  rcases List.mem_cons.mp hf with rfl | hf
  · exact h
  · exact hc f hf
noncomputable def S (l:List Nat):Str:=⟨⟨l⟩⟩
noncomputable abbrev Hs:=String→Int
noncomputable def ent (w:Hs) (k:String) (tk:Nat) (v:Value):DictEntry:=⟨w k,.str k tk,v⟩
structure Lx where
  lex:Addr
  ld:Addr
  io:Addr
  iod:Addr
  pb:Addr
  fk:Addr
  kt:Nat→Nat
  buf:List Nat
  cm:Str
noncomputable def ioD (w:Hs) (L:Lx) (p:Nat) (tp:Nat):Obj:={ cls:=.type "dict",data:=.dict #[ent w "_StringIO__newline" (L.kt 100) (.str "\n" (L.kt 101)),ent w "_StringIO__buf" (L.kt 102) (.str (S L.buf) (L.kt 103)),ent w "_StringIO__pos" (L.kt 104) (.int (Int.ofNat p) tp)] 3 }
noncomputable def ioO (L:Lx):Obj:={ cls:=.ref 613,dict:=some L.iod,data:=.plain }
noncomputable def lexO (L:Lx):Obj:={ cls:=.ref 748,dict:=some L.ld,data:=.plain }
noncomputable def Zx9:Str := "abcdfeghijklmnopqrstuvwxyzABCDEFGHIJKLMNOPQRSTUVWXYZ0123456789_ßàáâãäåæçèéêëìíîïðñòóôõöøùúûüýþÿÀÁÂÃÄÅÆÇÈÉÊËÌÍÎÏÐÑÒÓÔÕÖØÙÚÛÜÝÞ"
noncomputable def lexD (w:Hs) (L:Lx) (st:Value) (ln:Int) (tl:Nat) (tok:Str) (tt:Nat):Obj:={ cls:=.type "dict",data:=.dict #[
  ent w "instream" (L.kt 0) (.ref L.io),ent w "infile" (L.kt 1) .none,ent w "posix" (L.kt 2) (.bool true),ent w "eof" (L.kt 3) .none,ent w "commenters" (L.kt 4) (.str L.cm (L.kt 20)),
  ent w "wordchars" (L.kt 5) (.str Zx9 (L.kt 21)),ent w "whitespace" (L.kt 6) (.str " \t\r\n" (L.kt 22)),ent w "whitespace_split" (L.kt 7) (.bool true),ent w "quotes" (L.kt 8) (.str "'\"" (L.kt 23)),
  ent w "escape" (L.kt 9) (.str "\\" (L.kt 24)),ent w "escapedquotes" (L.kt 10) (.str "\"" (L.kt 25)),ent w "state" (L.kt 11) st,ent w "pushback" (L.kt 12) (.ref L.pb),ent w "lineno" (L.kt 13) (.int ln tl),
  ent w "debug" (L.kt 14) (.int 0 (L.kt 26)),ent w "token" (L.kt 15) (.str tok tt),ent w "filestack" (L.kt 16) (.ref L.fk),ent w "source" (L.kt 17) .none,ent w "_punctuation_chars" (L.kt 18) (.str "" (L.kt 27))] 19 }
noncomputable def rtF (w:Hs) (L:Lx) (ft:Nat→Nat) (q:Bool) (es:Str) (te:Nat):Obj:={ cls:=.type "frame",data:=.dict #[ent w "self" (ft 0) (.ref L.lex),ent w "quoted" (ft 1) (.bool q),ent w "escapedstate" (ft 2) (.str es te)] 3 }
noncomputable def rtF4 (w:Hs) (L:Lx) (ft:Nat→Nat) (q:Bool) (es:Str) (te:Nat) (nx:Str) (tn:Nat):Obj:={ cls:=.type "frame",data:=.dict #[ent w "self" (ft 0) (.ref L.lex),ent w "quoted" (ft 1) (.bool q),ent w "escapedstate" (ft 2) (.str es te),ent w "nextchar" (ft 3) (.str nx tn)] 4 }
noncomputable def Zvt:Value→Nat
  | .str _ t=>t
  | .int _ t=>t
  | _=>0
noncomputable def oEnt (o:Option (Addr × Obj)) (j:Nat):Value × Value:=match o with
  | some p=>match p with
    | (_,o)=>match o with
      | ⟨_,_,.dict es _,_⟩=>match es.toList.drop j with
        | e::_=>(e.key,e.val)
        | []=>(.none,.none)
      | _=>(.none,.none)
  | none=>(.none,.none)
noncomputable def oAt (l:List (Option (Addr × Obj))) (k:Nat):Option (Addr × Obj):=match l.drop k with
  | o::_=>o
  | []=>none
noncomputable def eTok (l:List (Option (Addr × Obj))) (k j:Nat):Nat:=Zvt (oEnt (oAt l k) j).2
noncomputable def Zj2 (l:List (Option (Addr × Obj))) (k j:Nat):Nat:=Zvt (oEnt (oAt l k) j).1
noncomputable def rTok (r:Result):Nat:=match r with
  | .ok f=>match f with
    | .ret v=>Zvt v
    | _=>0
  | _=>0
noncomputable def Zq8:List (Option (Addr × Obj))→Nat→Array (Option Value):=fun _ _=>#[]
noncomputable def readC (a tq:Nat):Code:=.call (.ref 559) ⟨[.ref a,.int 1 tq],[]⟩
noncomputable def Zk4 (w:Hs) (L:Lx) (p p' tp tq:Nat) (r:Str) (n t:Nat):Con where
  pre:=[(L.iod,ioD w L p tp),(L.io,ioO L)]
  post x:=[(L.iod,ioD w L p' (x.nat 2)),(L.io,ioO L)]
  fresh _:=[]
  code:=readC L.io tq
  res x:=.ok (.ret (.str r (x.nat 3)))
  need:=20
  fr:=none
noncomputable def readTk (r:Result) (l:List (Option (Addr × Obj))) (j:Nat):Nat:=match j with
  | 0=>eTok l 0 2
  | _=>rTok r
noncomputable def cTok (c:Code):Nat:=match c with
  | .call _ args=>match args with
    | ⟨pos,_⟩=>match pos with
      | _::r=>match r with
        | v::_=>Zvt v
        | []=>0
      | []=>0
  | _=>0
noncomputable def Zx3 (w:Hs) (L:Lx) (p p':Nat) (r:Str):Fam:=fun n t c l _=>Zk4 w L p p' (eTok l 0 2) (cTok c) r n t
noncomputable def Zxv (top:Addr→Option Obj) (a:Addr):FuncData:=match top a with
  | some o=>match o with
    | ⟨_,_,.func fd,_⟩=>fd
    | _=>default
  | none=>default
noncomputable def Zqt (fd:FuncData) (k:Nat):Stmt:=match fd.body with
  | .stmts b=>match b.drop k with
    | s::_=>s
    | []=>.Pass default
  | _=>.Pass default
noncomputable def whileOf (s:Stmt) (e:Env):Code:=match s with
  | .While t b o _=>.whileLoop t b o e
  | _=>.block [] e
noncomputable def rtEnv (top:Addr→Option Obj) (fr:Addr):Env:={ scope:=(Zxv top 716).scope,locals:=fr,globals:=3,cells:=[],qual := "shlex.read_token.<locals>.",func:=some 716,code:=.ref 715,frame:=some fr,builtins:=0 }
noncomputable def loopCode (top:Addr→Option Obj) (fr:Addr):Code:=whileOf (Zqt (Zxv top 716) 2) (rtEnv top fr)
structure Ls where
  p:Nat
  st:Option Str
  tok:Str
  q:Bool
  ln:Int
  nx:Option Str
noncomputable def Ls.stV (s:Ls) (t:Nat):Value:=match s.st with
  | none=>.none
  | some z=>.str z t
noncomputable def Ls.frame (w:Hs) (L:Lx) (ft tk:Nat→Nat) (s:Ls):Obj:=match s.nx with
  | none=>rtF w L ft s.q " " (tk 4)
  | some x=>rtF4 w L ft s.q " " (tk 4) x (tk 5)
noncomputable def loopObjs (w:Hs) (L:Lx) (fr:Addr) (ft tk:Nat→Nat) (s:Ls):List (Addr × Obj) :=
  [(L.iod,ioD w L s.p (tk 0)),(L.io,ioO L),(L.ld,lexD w L (s.stV (tk 1)) s.ln (tk 2) s.tok (tk 3)),(L.lex,lexO L),(fr,s.frame w L ft tk)]
noncomputable def Ext.tk (x:Ext) (j:Nat):Nat:=x.nat (j + 2)
noncomputable def loopTk (l:List (Option (Addr × Obj))) (j:Nat):Nat:=match j with
  | 0=>eTok l 0 2
  | 1=>eTok l 2 11
  | 2=>eTok l 2 13
  | 3=>eTok l 2 15
  | 4=>eTok l 4 2
  | _=>eTok l 4 3
noncomputable def frTk (l:List (Option (Addr × Obj))) (j:Nat):Nat:=Zj2 l 4 j
noncomputable def Zq7 (w:Hs) (top:Addr→Option Obj) (L:Lx) (fr:Addr) (ft tk:Nat→Nat) (s s':Ls) (n t:Nat):Con where
  pre:=loopObjs w L fr ft tk s
  post x:=loopObjs w L fr (fun j=>x.nat (j + 8)) x.tk s'
  fresh _:=[]
  code:=loopCode top fr
  res _:=.ok .next
  need:=40
  fr:=none
noncomputable def Zkv (w:Hs) (top:Addr→Option Obj) (L:Lx) (fr:Addr) (s s':Ls):Fam:=fun n t _ l _=>Zq7 w top L fr (frTk l) (loopTk l) s s' n t
noncomputable def loopEx (_:Result) (l:List (Option (Addr × Obj))) (j:Nat):Nat:=match j with
  | 0=>loopTk l 0
  | 1=>loopTk l 1
  | 2=>loopTk l 2
  | 3=>loopTk l 3
  | 4=>loopTk l 4
  | 5=>loopTk l 5
  | 6=>frTk l 0
  | 7=>frTk l 1
  | 8=>frTk l 2
  | _=>frTk l 3
structure Lt where
  p:Nat
  st:Option Str
  ln:Int
noncomputable def Lt.stV (s:Lt) (t:Nat):Value:=match s.st with
  | none=>.none
  | some z=>.str z t
noncomputable def Zq3 (w:Hs) (L:Lx) (tk:Nat→Nat) (s:Lt):List (Addr × Obj) :=
  [(L.iod,ioD w L s.p (tk 0)),(L.io,ioO L),(L.ld,lexD w L (s.stV (tk 1)) s.ln (tk 2) (S []) (tk 3)),(L.lex,lexO L)]
noncomputable def Zvm (l:List (Option (Addr × Obj))) (j:Nat):Nat:=match j with
  | 0=>eTok l 0 2
  | 1=>eTok l 2 11
  | 2=>eTok l 2 13
  | _=>eTok l 2 15
noncomputable def tokV (r:Option Str) (t:Nat):Value:=match r with
  | none=>.none
  | some z=>.str z t
noncomputable def rtCode (L:Lx):Code:=.call (.ref 716) ⟨[.ref L.lex],[]⟩
noncomputable def rtCon (w:Hs) (L:Lx) (tk:Nat→Nat) (s s':Lt) (r:Option Str) (n t:Nat):Con where
  pre:=Zq3 w L tk s
  post x:=Zq3 w L x.tk s'
  fresh _:=[]
  code:=rtCode L
  res x:=.ok (.ret (tokV r (x.nat 6)))
  need:=45
  fr:=none
noncomputable def rtFam (w:Hs) (L:Lx) (s s':Lt) (r:Option Str):Fam:=fun n t _ l _=>rtCon w L (Zvm l) s s' r n t
noncomputable def rtEx (k:Nat) (f:Nat→Ext) (r:Result) (l:List (Option (Addr × Obj))) (j:Nat):Nat:=match j with
  | 0=>(f k).nat 2
  | 1=>(f k).nat 3
  | 2=>(f k).nat 4
  | 3=>eTok l 2 15
  | _=>rTok r
noncomputable def frOf (c:Code):Addr:=match c with
  | .whileLoop _ _ _ e=>e.locals
  | _=>0
noncomputable def loopFamC (w:Hs) (top:Addr→Option Obj) (L:Lx) (s s':Ls):Fam:=fun n t c l _=>Zq7 w top L (frOf c) (frTk l) (loopTk l) s s' n t
noncomputable def dqO (e:Int) (l:List (Str × Nat)):Obj:={ cls:=.type "collections.deque",data:=.fields ⟨.none::.int e 0::l.map fun p=>.str p.1 p.2⟩ }
noncomputable def gtCode (L:Lx):Code:=.call (.ref 709) ⟨[.ref L.lex],[]⟩
noncomputable def gtCon (w:Hs) (L:Lx) (tk:Nat→Nat) (s s':Lt) (e:Int) (W:Str) (n t:Nat):Con where
  pre:=Zq3 w L tk s++[(L.pb,dqO e [])]
  post x:=Zq3 w L x.tk s'++[(L.pb,dqO e [])]
  fresh _:=[]
  code:=gtCode L
  res x:=.ok (.ret (.str W (x.nat 6)))
  need:=48
  fr:=none
noncomputable def gtConE (w:Hs) (L:Lx) (tk:Nat→Nat) (s s':Lt) (e e':Int) (n t:Nat):Con where
  pre:=Zq3 w L tk s++[(L.pb,dqO e []),(L.fk,dqO e' [])]
  post x:=Zq3 w L x.tk s'++[(L.pb,dqO e []),(L.fk,dqO e' [])]
  fresh _:=[]
  code:=gtCode L
  res x:=.ok (.ret .none)
  need:=48
  fr:=none
noncomputable def Zzw (w:Hs) (L:Lx) (tk:Nat→Nat) (s:Lt) (e e':Int) (v:Str) (tv:Nat) (l:List (Str × Nat)) (n t:Nat):Con where
  pre:=Zq3 w L tk s++[(L.pb,dqO e ((v,tv)::l))]
  post x:=Zq3 w L tk s++[(L.pb,dqO e' l)]
  fresh _:=[]
  code:=gtCode L
  res x:=.ok (.ret (.str v tv))
  need:=48
  fr:=none
noncomputable def Zz9 (w:Hs) (L:Lx) (tk:Nat→Nat) (s:Lt) (e e':Int) (v:Str) (tv:Nat) (l:List (Str × Nat)) (n t:Nat):Con where
  pre:=Zq3 w L tk s++[(L.pb,dqO e l)]
  post x:=Zq3 w L tk s++[(L.pb,dqO e' ((v,tv)::l))]
  fresh _:=[]
  code:=.call (.ref 687) ⟨[.ref L.lex,.str v tv],[]⟩
  res x:=.ok (.ret .none)
  need:=48
  fr:=none
noncomputable def gtEx (k:Nat) (f:Nat→Ext) (_:Result) (_:List (Option (Addr × Obj))) (j:Nat):Nat:=(f k).nat (j + 2)
noncomputable def newL (lex ld io iod pb fk:Addr) (x:Ext) (text:List Nat) (cm:Str):Lx:=⟨lex,ld,io,iod,pb,fk,fun k=>x.nat (k + 10),text,cm⟩
noncomputable def vPl (k:Nat):Nat:=match k with
  | 20=>4
  | 21=>5
  | 22=>6
  | 23=>8
  | 24=>9
  | 25=>10
  | 26=>14
  | _=>18
noncomputable def newEx (_:Result) (l:List (Option (Addr × Obj))) (j:Nat):Nat:=match Nat.ble 8 j with
  | false=>Zvm l j
  | true=>match Nat.ble (j - 8) 18 with
    | true=>Zj2 l 2 (j - 8)
    | false=>match Nat.ble (j - 8) 99 with
      | true=>eTok l 2 (vPl (j - 8))
      | false=>match j - 108 with
        | 0=>Zj2 l 0 0
        | 1=>eTok l 0 0
        | 2=>Zj2 l 0 1
        | 3=>eTok l 0 1
        | _=>Zj2 l 0 2
noncomputable def freshL (w:Hs) (L:Lx) (x:Ext):List (Addr × Obj):=Zq3 w L x.tk ⟨0,some (S [32]),1⟩++[(L.pb,dqO 0 []),(L.fk,dqO 0 [])]
noncomputable def pileCon (w:Hs) (text:List Nat) (tt n t:Nat):Con where
  pre:=[]
  post _:=[]
  fresh x:=freshL w (newL (n + 2) (n + 1) (n + 8) (n + 7) (n + 11) (n + 12) x text "#") x
  code:=.call (.ref 787) ⟨[.str (S text) tt],[]⟩
  res _:=.ok (.ret (.ref (n + 2)))
  need:=30
  fr:=none
noncomputable def nthS (l:List Stmt) (k:Nat):Stmt:=match l.drop k with
  | s::_=>s
  | []=>.Pass default
noncomputable def Zxq:Stmt→List Stmt
  | .ClassDef _ _ _ body _ _ _ _ _ _ _=>body
  | _=>[]
noncomputable def defParts:Stmt→Arguments × List Stmt × Scope
  | .FunctionDef _ args body _ _ _ scope _ _ _=>(args,body,scope)
  | _=>(default,[],default)
noncomputable def pS (k:Nat):Stmt:=nthS PySem.Challenge.pw_ij0140_02.main.body k
noncomputable def Zvq (s:Stmt) (name qual:String) (globals _n:Nat) (defaults kwdefaults doc mod:Value) (annotations:Option Addr) (code ct:Value) (builtins:Nat):FuncData:=match defParts s with
  | (args,body,scope)=>{ name:=name,qualname:=qual,params:=args,body:=.stmts body,scope:=scope,globals:=globals,closure:=[],defaults:=defaults,kwdefaults:=kwdefaults,doc:=doc,pyModule:=mod,annotations:=annotations,code:=code,closureTuple:=ct,builtins:=builtins }
noncomputable def gate {α β:Type} (f:α→β):Nat→α→β
  | 0=>f
  | n + 1=>gate f n
termination_by n=>n
noncomputable def topL (w:Hs):List (Addr × Obj):=[
  (0,{ cls:=.type "dict",data:=.dict #[ent w "__name__" 1 (.str "builtins" 160),ent w "__doc__" 2 (.builtin "builtins.__doc__:str#opaque"),ent w "__package__" 3 (.builtin "builtins.__package__:str#opaque"),ent w "__loader__" 4 (.builtin "builtins.__loader__:shared#opaque"),ent w "__spec__" 5 (.builtin "builtins.__spec__#opaque"),ent w "__build_class__" 6 (.builtin "__build_class__"),ent w "__imp\x6frt__" 7 (.builtin "__imp\x6frt__"),ent w "abs" 8 (.builtin "abs"),ent w "all" 9 (.builtin "all"),ent w "any" 10 (.builtin "any"),ent w "ascii" 11 (.builtin "ascii"),ent w "bin" 12 (.builtin "bin"),ent w "breakpoint" 13 (.builtin "breakpoint"),ent w "callable" 14 (.builtin "callable"),ent w "chr" 15 (.builtin "chr"),ent w "compile" 16 (.builtin "compile"),ent w "delattr" 17 (.builtin "delattr"),ent w "dir" 18 (.builtin "dir"),ent w "divmod" 19 (.builtin "divmod"),ent w "eval" 20 (.builtin "eval"),ent w "exec" 21 (.builtin "exec"),ent w "format" 22 (.builtin "format"),ent w "getattr" 23 (.builtin "getattr"),ent w "globals" 24 (.builtin "globals"),ent w "hasattr" 25 (.builtin "hasattr"),ent w "hash" 26 (.builtin "hash"),ent w "hex" 27 (.builtin "hex"),ent w "id" 28 (.builtin "id"),ent w "input" 29 (.builtin "input"),ent w "isinstance" 30 (.builtin "isinstance"),ent w "issubclass" 31 (.builtin "issubclass"),ent w "iter" 32 (.builtin "iter"),ent w "aiter" 33 (.builtin "aiter"),ent w "len" 34 (.builtin "len"),ent w "locals" 35 (.builtin "locals"),ent w "max" 36 (.builtin "max"),ent w "min" 37 (.builtin "min"),ent w "next" 38 (.builtin "next"),ent w "anext" 39 (.builtin "anext"),ent w "oct" 40 (.builtin "oct"),ent w "ord" 41 (.builtin "ord"),ent w "pow" 42 (.builtin "pow"),ent w "print" 43 (.builtin "print"),ent w "repr" 44 (.builtin "repr"),ent w "round" 45 (.builtin "round"),ent w "setattr" 46 (.builtin "setattr"),ent w "sorted" 47 (.builtin "sorted"),ent w "sum" 48 (.builtin "sum"),ent w "vars" 49 (.builtin "vars"),ent w "None" 50 (.none),ent w "Ellipsis" 51 (.ellipsis),ent w "NotImplemented" 52 (.notImplemented),ent w "False" 53 (.bool false),ent w "True" 54 (.bool true),ent w "bool" 55 (.type "bool"),ent w "memoryview" 56 (.type "memoryview"),ent w "bytearray" 57 (.type "bytearray"),ent w "bytes" 58 (.type "bytes"),ent w "classmethod" 59 (.type "classmethod"),ent w "complex" 60 (.type "complex"),ent w "dict" 61 (.type "dict"),ent w "enumerate" 62 (.type "enumerate"),ent w "filter" 63 (.type "filter"),ent w "float" 64 (.type "float"),ent w "frozenset" 65 (.type "frozenset"),ent w "property" 66 (.type "property"),ent w "int" 67 (.type "int"),ent w "list" 68 (.type "list"),ent w "map" 69 (.type "map"),ent w "object" 70 (.type "object"),ent w "range" 71 (.type "range"),ent w "reversed" 72 (.type "reversed"),ent w "set" 73 (.type "set"),ent w "slice" 74 (.type "slice"),ent w "staticmethod" 75 (.type "staticmethod"),ent w "str" 76 (.type "str"),ent w "super" 77 (.type "super"),ent w "tuple" 78 (.type "tuple"),ent w "type" 79 (.type "type"),ent w "zip" 80 (.type "zip"),ent w "__debug__" 81 (.bool true),ent w "BaseException" 82 (.type "BaseException"),ent w "BaseExceptionGroup" 83 (.type "BaseExceptionGroup"),ent w "Exception" 84 (.type "Exception"),ent w "GeneratorExit" 85 (.type "GeneratorExit"),ent w "KeyboardInterrupt" 86 (.type "KeyboardInterrupt"),ent w "SystemExit" 87 (.type "SystemExit"),ent w "ArithmeticError" 88 (.type "ArithmeticError"),ent w "AssertionError" 89 (.type "AssertionError"),ent w "AttributeError" 90 (.type "AttributeError"),ent w "BufferError" 91 (.type "BufferError"),ent w "EOFError" 92 (.type "EOFError"),ent w "ImportError" 93 (.type "ImportError"),ent w "LookupError" 94 (.type "LookupError"),ent w "MemoryError" 95 (.type "MemoryError"),ent w "NameError" 96 (.type "NameError"),ent w "OSError" 97 (.type "OSError"),ent w "ReferenceError" 98 (.type "ReferenceError"),ent w "RuntimeError" 99 (.type "RuntimeError"),ent w "StopAsyncIteration" 100 (.type "StopAsyncIteration"),ent w "StopIteration" 101 (.type "StopIteration"),ent w "SyntaxError" 102 (.type "SyntaxError"),ent w "SystemError" 103 (.type "SystemError"),ent w "TypeError" 104 (.type "TypeError"),ent w "ValueError" 105 (.type "ValueError"),ent w "Warning" 106 (.type "Warning"),ent w "FloatingPointError" 107 (.type "FloatingPointError"),ent w "OverflowError" 108 (.type "OverflowError"),ent w "ZeroDivisionError" 109 (.type "ZeroDivisionError"),ent w "BytesWarning" 110 (.type "BytesWarning"),ent w "DeprecationWarning" 111 (.type "DeprecationWarning"),ent w "EncodingWarning" 112 (.type "EncodingWarning"),ent w "FutureWarning" 113 (.type "FutureWarning"),ent w "ImportWarning" 114 (.type "ImportWarning"),ent w "PendingDeprecationWarning" 115 (.type "PendingDeprecationWarning"),ent w "ResourceWarning" 116 (.type "ResourceWarning"),ent w "RuntimeWarning" 117 (.type "RuntimeWarning"),ent w "SyntaxWarning" 118 (.type "SyntaxWarning"),ent w "UnicodeWarning" 119 (.type "UnicodeWarning"),ent w "UserWarning" 120 (.type "UserWarning"),ent w "BlockingIOError" 121 (.type "BlockingIOError"),ent w "ChildProcessError" 122 (.type "ChildProcessError"),ent w "ConnectionError" 123 (.type "ConnectionError"),ent w "FileExistsError" 124 (.type "FileExistsError"),ent w "FileNotFoundError" 125 (.type "FileNotFoundError"),ent w "InterruptedError" 126 (.type "InterruptedError"),ent w "IsADirectoryError" 127 (.type "IsADirectoryError"),ent w "NotADirectoryError" 128 (.type "NotADirectoryError"),ent w "PermissionError" 129 (.type "PermissionError"),ent w "ProcessLookupError" 130 (.type "ProcessLookupError"),ent w "TimeoutError" 131 (.type "TimeoutError"),ent w "IndentationError" 132 (.type "IndentationError"),ent w "_IncompleteInputError" 133 (.type "_IncompleteInputError"),ent w "IndexError" 134 (.type "IndexError"),ent w "KeyError" 135 (.type "KeyError"),ent w "ModuleNotFoundError" 136 (.type "ModuleNotFoundError"),ent w "NotImplementedError" 137 (.type "NotImplementedError"),ent w "PythonFinalizationError" 138 (.type "PythonFinalizationError"),ent w "RecursionError" 139 (.type "RecursionError"),ent w "UnboundLocalError" 140 (.type "UnboundLocalError"),ent w "UnicodeError" 141 (.type "UnicodeError"),ent w "BrokenPipeError" 142 (.type "BrokenPipeError"),ent w "ConnectionAbortedError" 143 (.type "ConnectionAbortedError"),ent w "ConnectionRefusedError" 144 (.type "ConnectionRefusedError"),ent w "ConnectionResetError" 145 (.type "ConnectionResetError"),ent w "TabError" 146 (.type "TabError"),ent w "UnicodeDecodeError" 147 (.type "UnicodeDecodeError"),ent w "UnicodeEncodeError" 148 (.type "UnicodeEncodeError"),ent w "UnicodeTranslateError" 149 (.type "UnicodeTranslateError"),ent w "ExceptionGroup" 150 (.type "ExceptionGroup"),ent w "EnvironmentError" 151 (.type "OSError"),ent w "IOError" 152 (.type "OSError"),ent w "open" 153 (.builtin "open"),ent w "quit" 154 (.builtin "builtins.quit#opaque"),ent w "exit" 155 (.builtin "builtins.exit#opaque"),ent w "copyright" 156 (.builtin "builtins.copyright#opaque"),ent w "credits" 157 (.builtin "builtins.credits#opaque"),ent w "license" 158 (.builtin "builtins.license#opaque"),ent w "help" 159 (.builtin "builtins.help#opaque")] 159 }),
  (2,{ cls:=.none,data:=.dict #[ent w "imp\x6frt.loaded._sre" 183 (.bool true),ent w "class._frozen_imp\x6frtlib.BuiltinImporter" 185 (.ref 14),ent w "watched.imp\x6frt" 206 (.ref 18),ent w "class._frozen_imp\x6frtlib.ModuleSpec" 216 (.ref 22),ent w "sys.modules.booked-epoch" 245 (.int 4 0),ent w "imp\x6frt.later-laid._sre" 270 (.bool true),ent w "watched.library" 272 (.ref 27),ent w "watched.library-objects" 0 (.str (S [12,30]) 0),ent w "watched.library-deep._sre" 273 (.str (S [4,0,0,11,4,0,0,11,4,0,0,3,4,0,0,11,8,4,100,105,99,116,2]) 0),ent w "imp\x6frt.loaded._collections" 280 (.bool true),ent w "sys.modules.landed._collections" 294 (.bool true),ent w "imp\x6frt.later-laid._collections" 309 (.bool true),ent w "watched.library-deep._collections" 311 (.str (S [4,0,0,29,4,0,0,29,4,0,0,3,4,0,0,29,8,4,100,105,99,116,2]) 0),ent w "type.__subclasses__.OSError.0" 431 (.int 89 0),ent w "type.__subclasses__.OSError.n" 432 (.int 1 0)] 15 }),
  (3,{ cls:=.type "dict",data:=.dict #[ent w "__name__" 165 (.str "law_ij0140_02" 1279),ent w "__doc__" 166 (.none),ent w "__package__" 167 (.none),ent w "__loader__" 168 (.builtin "__main__.__loader__#opaque"),ent w "__spec__" 169 (.none),ent w "__annotations__" 170 (.ref 6),ent w "__builtins__" 171 (.ref 4),ent w "__file__" 173 (.str "/claim/cut.py" 172),ent w "__cached__" 174 (.none),ent w "_sre" 275 (.ref 12),ent w "deque" 317 (.type "collections.deque"),ent w "_wall" 330 (.ref 44),ent w "cmp_to_key" 341 (.ref 51),ent w "_initial_missing" 342 (.ref 52),ent w "reduce" 354 (.ref 60),ent w "_twin_re_1" 394 (.ref 65),ent w "_whence" 404 (.ref 72),ent w "_index" 412 (.ref 79),ent w "UnsupportedOperation" 434 (.ref 89),ent w "IOBase" 466 (.ref 109),ent w "BufferedIOBase" 484 (.ref 124),ent w "TextIOBase" 502 (.ref 136),ent w "BytesIO" 764 (.ref 366),ent w "StringIO" 1051 (.ref 613),ent w "_kind" 1062 (.ref 622),ent w "_fspath" 1071 (.ref 629),ent w "_check_arg_types" 1081 (.ref 636),ent w "isabs" 1088 (.ref 643),ent w "join" 1099 (.ref 767),ent w "join_path" 1100 (.ref 650),ent w "dirname" 1110 (.ref 657),ent w "shlex" 1251 (.ref 748),ent w "split" 1261 (.ref 760),ent w "join_shlex" 1269 (.ref 767),ent w "_find_unsafe" 1271 (.ref 768),ent w "quote" 1278 (.ref 775),ent w "_law_drawn" 1286 (.ref 780),ent w "_law_pile" 1294 (.ref 787),ent w "_law_dealer" 1303 (.ref 794),ent w "_law_numbers" 1309 (.ref 799),ent w "law" 1315 (.ref 804)] 41 }),
  (4,{ cls:=.type "module",dict:=some 0,data:=.plain }),
  (50,{ cls:=.type "code",data:=.fields #[.str "cmp_to_key" 333,.str "cmp_to_key" 334,.str "/claim/cut.py" 335,.int 7 0,.int 1 0,.int 0 0,.int 0 0,.int 3 0,.ref 45,.bool true,.int 318 0,.ref 46,.none,.ref 47,.ref 48,.ref 49,.int 339 0,.int 7 0,.str "/claim/cut.py" 340] }),
  (51,{ cls:=.type "function",data:=.func (Zvq (pS 4) "cmp_to_key" "cmp_to_key" 3 0 (.none) (.none) (.none) (.str "cpy313.functools" 331) none (.ref 50) (.none) 0) }),
  (52,{ cls:=.type "object",data:=.plain }),
  (53,{ cls:=.type "tuple",data:=.seq #[.ref 52] 0 }),
  (59,{ cls:=.type "code",data:=.fields #[.str "reduce" 343,.str "reduce" 344,.str "/claim/cut.py" 345,.int 33 0,.int 3 0,.int 0 0,.int 0 0,.int 3 0,.ref 54,.bool true,.int 318 0,.ref 55,.none,.ref 56,.ref 57,.ref 58,.int 352 0,.int 33 0,.str "/claim/cut.py" 353] }),
  (60,{ cls:=.type "function",data:=.func (Zvq (pS 6) "reduce" "reduce" 3 0 (.ref 53) (.none) (.none) (.str "cpy313.functools" 331) none (.ref 59) (.none) 0) }),
  (64,{ cls:=.type "tuple",data:=.seq #[.int 14 0,.int 17 0,.int 4 0,.int 1 0,.int 1 0,.int 21 0,.int 9 0,.int 0 0,.int 604043296 0,.int 1 0,.int 0 0,.int 0 0,.int 0 0,.int 0 0,.int 0 0,.int 8 0,.int 4 0,.int 0 0,.int 13 0,.int 14 0,.int 21 0,.int 9 0,.int 0 0,.int 604043296 0,.int 1 0,.int 0 0,.int 0 0,.int 0 0,.int 0 0,.int 0 0,.int 8 0,.int 4 0,.int 0 0,.int 1 0] 0 }),
  (65,{ cls:=.type "re.Pattern",data:=.fields #[.str (S [91,94,92,119,64,37,43,61,58,44,46,47,45,93]) 356,.int 256 393,.int 0 0,.none,.none,.ref 64,.int 0 0] }),
  (78,{ cls:=.type "code",data:=.fields #[.str "_index" 405,.str "_index" 406,.str "/claim/cut.py" 407,.int 52 0,.int 2 0,.int 0 0,.int 0 0,.int 3 0,.ref 73,.bool true,.int 318 0,.ref 74,.none,.ref 75,.ref 76,.ref 77,.int 410 0,.int 52 0,.str "/claim/cut.py" 411] }),
  (79,{ cls:=.type "function",data:=.func (Zvq (pS 10) "_index" "_index" 3 0 (.none) (.none) (.none) (.str "io" 395) none (.ref 78) (.none) 0) }),
  (105,{ cls:=.type "code",data:=.fields #[.str "__new__" 449,.str "IOBase.__new__" 450,.str "/claim/cut.py" 451,.int 64 0,.int 1 0,.int 1 0,.int 0 0,.int 15 0,.ref 100,.bool true,.int 318 0,.ref 101,.none,.ref 102,.ref 103,.ref 104,.int 455 0,.int 64 0,.str "/claim/cut.py" 456] }),
  (106,{ cls:=.type "function",data:=.func (Zvq (nthS (Zxq (pS 12)) 1) "__new__" "IOBase.__new__" 3 0 (.none) (.none) (.none) (.str "io" 395) none (.ref 105) (.none) 0) }),
  (108,{ cls:=.type "dict",data:=.dict #[ent w "__module__" 442 (.str "io" 447),ent w "__firstlineno__" 446 (.int 61 445),ent w "__new__" 457 (.ref 110),ent w "__static_attributes__" 458 (.ref 107),ent w "__dict__" 461 (.ref 111),ent w "__weakref__" 463 (.ref 112),ent w "__doc__" 464 (.none)] 4 }),
  (109,{ cls:=.type "type",data:=.cls { name := "IOBase",bases:=[.type "object"],mro:=[.ref 109,.type "object"],ns:=108,qualname := "IOBase",hasDict:=true,slotNames:=[],subclasses:=[.ref 124,.ref 136],abstract:=false,collection:=none,hasDel:=false },slots:=#[none,none,some (.str "IOBase" 435),some (.str "IOBase" 443),some (.none),some (.bool true)] }),
  (110,{ cls:=.type "staticmethod",data:=.fields #[.ref 106] }),
  (135,{ cls:=.type "dict",data:=.dict #[ent w "__module__" 492 (.str "io" 497),ent w "__firstlineno__" 496 (.int 70 495),ent w "__static_attributes__" 499 (.ref 134),ent w "__doc__" 500 (.none)] 2 }),
  (136,{ cls:=.type "type",data:=.cls { name := "TextIOBase",bases:=[.ref 109],mro:=[.ref 136,.ref 109,.type "object"],ns:=135,qualname := "TextIOBase",hasDict:=true,slotNames:=[],subclasses:=[.ref 613],abstract:=false,collection:=none,hasDel:=false },slots:=#[some (.ref 127),none,some (.str "TextIOBase" 485),some (.str "TextIOBase" 493),some (.none),some (.bool true)] }),
  (366,{ cls:=.type "type",data:=.cls { name := "BytesIO",bases:=[.ref 124],mro:=[.ref 366,.ref 124,.ref 109,.type "object"],ns:=365,qualname := "BytesIO",hasDict:=true,slotNames:=[],subclasses:=[],abstract:=false,collection:=none,hasDel:=false },slots:=#[some (.ref 139),none,some (.str "BytesIO" 503),some (.str "BytesIO" 511),some (.none),some (.bool true)] }),
  (376,{ cls:=.type "tuple",data:=.seq #[.str "" 779,.str (S [10]) 780] 0 }),
  (382,{ cls:=.type "code",data:=.fields #[.str "__init__" 781,.str "StringIO.__init__" 782,.str "/claim/cut.py" 783,.int 245 0,.int 3 0,.int 0 0,.int 0 0,.int 3 0,.ref 377,.bool true,.int 318 0,.ref 378,.none,.ref 379,.ref 380,.ref 381,.int 787 0,.int 245 0,.str "/claim/cut.py" 788] }),
  (383,{ cls:=.type "function",data:=.func (Zvq (nthS (Zxq (pS 16)) 1) "__init__" "StringIO.__init__" 3 0 (.ref 376) (.none) (.none) (.str "io" 395) none (.ref 382) (.none) 0) }),
  (389,{ cls:=.type "code",data:=.fields #[.str "__translated" 790,.str "StringIO.__translated" 791,.str "/claim/cut.py" 792,.int 258 0,.int 2 0,.int 0 0,.int 0 0,.int 3 0,.ref 384,.bool true,.int 318 0,.ref 385,.none,.ref 386,.ref 387,.ref 388,.int 796 0,.int 258 0,.str "/claim/cut.py" 797] }),
  (390,{ cls:=.type "function",data:=.func (Zvq (nthS (Zxq (pS 16)) 2) "__translated" "StringIO.__translated" 3 0 (.none) (.none) (.none) (.str "io" 395) none (.ref 389) (.none) 0) }),
  (396,{ cls:=.type "code",data:=.fields #[.str "__check" 799,.str "StringIO.__check" 800,.str "/claim/cut.py" 801,.int 266 0,.int 1 0,.int 0 0,.int 0 0,.int 3 0,.ref 391,.bool true,.int 318 0,.ref 392,.none,.ref 393,.ref 394,.ref 395,.int 803 0,.int 266 0,.str "/claim/cut.py" 804] }),
  (397,{ cls:=.type "function",data:=.func (Zvq (nthS (Zxq (pS 16)) 3) "__check" "StringIO.__check" 3 0 (.none) (.none) (.none) (.str "io" 395) none (.ref 396) (.none) 0) }),
  (552,{ cls:=.type "tuple",data:=.seq #[.int (-1) 972] 0 }),
  (558,{ cls:=.type "code",data:=.fields #[.str "read" 973,.str "StringIO.read" 974,.str "/claim/cut.py" 975,.int 388 0,.int 2 0,.int 2 0,.int 0 0,.int 3 0,.ref 553,.bool true,.int 318 0,.ref 554,.none,.ref 555,.ref 556,.ref 557,.int 980 0,.int 388 0,.str "/claim/cut.py" 981] }),
  (559,{ cls:=.type "function",data:=.func (Zvq (nthS (Zxq (pS 16)) 25) "read" "StringIO.read" 3 0 (.ref 552) (.none) (.none) (.str "io" 395) none (.ref 558) (.none) 0) }),
  (612,{ cls:=.type "dict",data:=.dict #[ent w "__module__" 772 (.str "_io" 777),ent w "__firstlineno__" 776 (.int 242 775),ent w "__init__" 789 (.ref 383),ent w "_StringIO__translated" 798 (.ref 390),ent w "_StringIO__check" 805 (.ref 397),ent w "_StringIO__check_dot" 812 (.ref 404),ent w "_StringIO__line" 827 (.ref 411),ent w "closed" 835 (.ref 419),ent w "line_buffering" 843 (.ref 427),ent w "newlines" 851 (.ref 435),ent w "encoding" 859 (.ref 443),ent w "errors" 867 (.ref 451),ent w "close" 874 (.ref 458),ent w "__enter__" 881 (.ref 465),ent w "__exit__" 889 (.ref 472),ent w "readable" 896 (.ref 479),ent w "writable" 903 (.ref 486),ent w "seekable" 910 (.ref 493),ent w "isatty" 917 (.ref 500),ent w "flush" 924 (.ref 507),ent w "fileno" 931 (.ref 514),ent w "detach" 938 (.ref 521),ent w "getvalue" 945 (.ref 528),ent w "tell" 952 (.ref 535),ent w "seek" 962 (.ref 543),ent w "truncate" 970 (.ref 551),ent w "read" 982 (.ref 559),ent w "readline" 992 (.ref 567),ent w "readlines" 1002 (.ref 575),ent w "__iter__" 1009 (.ref 582),ent w "__next__" 1017 (.ref 589),ent w "write" 1029 (.ref 596),ent w "writelines" 1037 (.ref 603),ent w "__repr__" 1044 (.ref 610),ent w "__static_attributes__" 1048 (.ref 611),ent w "__doc__" 1049 (.none)] 2 }),
  (613,{ cls:=.type "type",data:=.cls { name := "StringIO",bases:=[.ref 136],mro:=[.ref 613,.ref 136,.ref 109,.type "object"],ns:=612,qualname := "StringIO",hasDict:=true,slotNames:=[],subclasses:=[],abstract:=false,collection:=none,hasDel:=false },slots:=#[some (.ref 369),none,some (.str "StringIO" 765),some (.str "StringIO" 773),some (.none),some (.bool true)] }),
  (665,{ cls:=.type "tuple",data:=.seq #[.none,.none,.bool false,.bool false] 0 }),
  (671,{ cls:=.type "code",data:=.fields #[.str "__init__" 1125,.str "shlex.__init__" 1126,.str "/claim/cut.py" 1127,.int 514 0,.int 5 0,.int 0 0,.int 0 0,.int 3 0,.ref 666,.bool true,.int 318 0,.ref 667,.none,.ref 668,.ref 669,.ref 670,.int 1134 0,.int 514 0,.str "/claim/cut.py" 1135] }),
  (672,{ cls:=.type "function",data:=.func (Zvq (nthS (Zxq (pS 26)) 0) "__init__" "shlex.__init__" 3 0 (.ref 665) (.none) (.none) (.str "cpy313.shlex" 1111) none (.ref 671) (.none) 0) }),
  (678,{ cls:=.type "code",data:=.fields #[.str "punctuation_chars" 1137,.str "shlex.punctuation_chars" 1138,.str "/claim/cut.py" 1139,.int 555 0,.int 1 0,.int 0 0,.int 0 0,.int 3 0,.ref 673,.bool true,.int 318 0,.ref 674,.none,.ref 675,.ref 676,.ref 677,.int 1141 0,.int 555 0,.str "/claim/cut.py" 1142] }),
  (679,{ cls:=.type "function",data:=.func (Zvq (nthS (Zxq (pS 26)) 1) "punctuation_chars" "shlex.punctuation_chars" 3 0 (.none) (.none) (.none) (.str "cpy313.shlex" 1111) none (.ref 678) (.none) 0) }),
  (680,{ cls:=.type "property",data:=.fields #[.ref 679,.none,.none,.none,.str "punctuation_chars" 1144,.bool false] }),
  (686,{ cls:=.type "code",data:=.fields #[.str "push_token" 1145,.str "shlex.push_token" 1146,.str "/claim/cut.py" 1147,.int 559 0,.int 2 0,.int 0 0,.int 0 0,.int 3 0,.ref 681,.bool true,.int 318 0,.ref 682,.none,.ref 683,.ref 684,.ref 685,.int 1150 0,.int 559 0,.str "/claim/cut.py" 1151] }),
  (687,{ cls:=.type "function",data:=.func (Zvq (nthS (Zxq (pS 26)) 2) "push_token" "shlex.push_token" 3 0 (.none) (.none) (.none) (.str "cpy313.shlex" 1111) none (.ref 686) (.none) 0) }),
  (708,{ cls:=.type "code",data:=.fields #[.str "get_token" 1169,.str "shlex.get_token" 1170,.str "/claim/cut.py" 1171,.int 584 0,.int 1 0,.int 0 0,.int 0 0,.int 3 0,.ref 703,.bool true,.int 318 0,.ref 704,.none,.ref 705,.ref 706,.ref 707,.int 1178 0,.int 584 0,.str "/claim/cut.py" 1179] }),
  (709,{ cls:=.type "function",data:=.func (Zvq (nthS (Zxq (pS 26)) 5) "get_token" "shlex.get_token" 3 0 (.none) (.none) (.none) (.str "cpy313.shlex" 1111) none (.ref 708) (.none) 0) }),
  (715,{ cls:=.type "code",data:=.fields #[.str "read_token" 1181,.str "shlex.read_token" 1182,.str "/claim/cut.py" 1183,.int 611 0,.int 1 0,.int 0 0,.int 0 0,.int 3 0,.ref 710,.bool true,.int 318 0,.ref 711,.none,.ref 712,.ref 713,.ref 714,.int 1189 0,.int 611 0,.str "/claim/cut.py" 1190] }),
  (716,{ cls:=.type "function",data:=.func (Zvq (nthS (Zxq (pS 26)) 6) "read_token" "shlex.read_token" 3 0 (.none) (.none) (.none) (.str "cpy313.shlex" 1111) none (.ref 715) (.none) 0) }),
  (737,{ cls:=.type "code",data:=.fields #[.str "__iter__" 1209,.str "shlex.__iter__" 1210,.str "/claim/cut.py" 1211,.int 758 0,.int 1 0,.int 0 0,.int 0 0,.int 3 0,.ref 732,.bool true,.int 318 0,.ref 733,.none,.ref 734,.ref 735,.ref 736,.int 1213 0,.int 758 0,.str "/claim/cut.py" 1214] }),
  (738,{ cls:=.type "function",data:=.func (Zvq (nthS (Zxq (pS 26)) 9) "__iter__" "shlex.__iter__" 3 0 (.none) (.none) (.none) (.str "cpy313.shlex" 1111) none (.ref 737) (.none) 0) }),
  (744,{ cls:=.type "code",data:=.fields #[.str "__next__" 1216,.str "shlex.__next__" 1217,.str "/claim/cut.py" 1218,.int 761 0,.int 1 0,.int 0 0,.int 0 0,.int 3 0,.ref 739,.bool true,.int 318 0,.ref 740,.none,.ref 741,.ref 742,.ref 743,.int 1221 0,.int 761 0,.str "/claim/cut.py" 1222] }),
  (745,{ cls:=.type "function",data:=.func (Zvq (nthS (Zxq (pS 26)) 10) "__next__" "shlex.__next__" 3 0 (.none) (.none) (.none) (.str "cpy313.shlex" 1111) none (.ref 744) (.none) 0) }),
  (747,{ cls:=.type "dict",data:=.dict #[ent w "__module__" 1120 (.str "cpy313.shlex" 1111),ent w "__firstlineno__" 1124 (.int 512 1123),ent w "__init__" 1136 (.ref 672),ent w "punctuation_chars" 1144 (.ref 680),ent w "push_token" 1152 (.ref 687),ent w "push_source" 1161 (.ref 695),ent w "pop_source" 1168 (.ref 702),ent w "get_token" 1180 (.ref 709),ent w "read_token" 1191 (.ref 716),ent w "sourcehook" 1199 (.ref 723),ent w "error_leader" 1208 (.ref 731),ent w "__iter__" 1215 (.ref 738),ent w "__next__" 1223 (.ref 745),ent w "__static_attributes__" 1244 (.ref 746),ent w "__dict__" 1246 (.ref 749),ent w "__weakref__" 1248 (.ref 750),ent w "__doc__" 1249 (.none)] 4 }),
  (748,{ cls:=.type "type",data:=.cls { name := "shlex",bases:=[.type "object"],mro:=[.ref 748,.type "object"],ns:=747,qualname := "shlex",hasDict:=true,slotNames:=[],subclasses:=[],abstract:=false,collection:=none,hasDel:=false },slots:=#[none,none,some (.str "shlex" 1113),some (.str "shlex" 1121),some (.builtin "object.__new__"),some (.bool true)] }),
  (753,{ cls:=.type "tuple",data:=.seq #[.bool false,.bool true] 0 }),
  (759,{ cls:=.type "code",data:=.fields #[.str "split" 1252,.str "split" 1253,.str "/claim/cut.py" 1254,.int 766 0,.int 3 0,.int 0 0,.int 0 0,.int 3 0,.ref 754,.bool true,.int 318 0,.ref 755,.none,.ref 756,.ref 757,.ref 758,.int 1259 0,.int 766 0,.str "/claim/cut.py" 1260] }),
  (760,{ cls:=.type "function",data:=.func (Zvq (pS 27) "split" "split" 3 0 (.ref 753) (.none) (.none) (.str "cpy313.shlex" 1111) none (.ref 759) (.none) 0) }),
  (766,{ cls:=.type "code",data:=.fields #[.str "join" 1262,.str "join" 1263,.str "/claim/cut.py" 1264,.int 774 0,.int 1 0,.int 0 0,.int 0 0,.int 3 0,.ref 761,.bool true,.int 318 0,.ref 762,.none,.ref 763,.ref 764,.ref 765,.int 1266 0,.int 774 0,.str "/claim/cut.py" 1267] }),
  (767,{ cls:=.type "function",data:=.func (Zvq (pS 28) "join" "join" 3 0 (.none) (.none) (.none) (.str "cpy313.shlex" 1111) none (.ref 766) (.none) 0) }),
  (768,{ cls:=.type "builtin_function_or_method",data:=.fields #[.builtin "re.Pattern.search",.ref 65] }),
  (774,{ cls:=.type "code",data:=.fields #[.str "quote" 1272,.str "quote" 1273,.str "/claim/cut.py" 1274,.int 778 0,.int 1 0,.int 0 0,.int 0 0,.int 3 0,.ref 769,.bool true,.int 318 0,.ref 770,.none,.ref 771,.ref 772,.ref 773,.int 1276 0,.int 778 0,.str "/claim/cut.py" 1277] }),
  (775,{ cls:=.type "function",data:=.func (Zvq (pS 31) "quote" "quote" 3 0 (.none) (.none) (.none) (.str "cpy313.shlex" 1111) none (.ref 774) (.none) 0) }),
  (779,{ cls:=.type "code",data:=.fields #[.str "_law_drawn" 1281,.str "_law_drawn" 1282,.str "/claim/cut.py" 1283,.int 785 0,.int 1 0,.int 0 0,.int 0 0,.int 3 0,.ref 776,.bool true,.int 318 0,.ref 777,.none,.none,.none,.ref 778,.int 1284 0,.int 785 0,.str "/claim/cut.py" 1285] }),
  (780,{ cls:=.type "function",data:=.func (Zvq (pS 33) "_law_drawn" "_law_drawn" 3 0 (.none) (.none) (.none) (.str "law_ij0140_02" 1279) none (.ref 779) (.none) 0) }),
  (786,{ cls:=.type "code",data:=.fields #[.str "_law_pile" 1287,.str "_law_pile" 1288,.str "/claim/cut.py" 1289,.int 793 0,.int 1 0,.int 0 0,.int 0 0,.int 3 0,.ref 781,.bool true,.int 318 0,.ref 782,.none,.ref 783,.ref 784,.ref 785,.int 1292 0,.int 793 0,.str "/claim/cut.py" 1293] }),
  (787,{ cls:=.type "function",data:=.func (Zvq (pS 34) "_law_pile" "_law_pile" 3 0 (.none) (.none) (.none) (.str "law_ij0140_02" 1279) none (.ref 786) (.none) 0) }),
  (793,{ cls:=.type "code",data:=.fields #[.str "_law_dealer" 1295,.str "_law_dealer" 1296,.str "/claim/cut.py" 1297,.int 797 0,.int 1 0,.int 0 0,.int 0 0,.int 3 0,.ref 788,.bool true,.int 318 0,.ref 789,.none,.ref 790,.ref 791,.ref 792,.int 1301 0,.int 797 0,.str "/claim/cut.py" 1302] }),
  (794,{ cls:=.type "function",data:=.func (Zvq (pS 35) "_law_dealer" "_law_dealer" 3 0 (.none) (.none) (.none) (.str "law_ij0140_02" 1279) none (.ref 793) (.none) 0) }),
  (798,{ cls:=.type "code",data:=.fields #[.str "_law_numbers" 1304,.str "_law_numbers" 1305,.str "/claim/cut.py" 1306,.int 808 0,.int 1 0,.int 0 0,.int 0 0,.int 3 0,.ref 795,.bool true,.int 318 0,.ref 796,.none,.none,.none,.ref 797,.int 1307 0,.int 808 0,.str "/claim/cut.py" 1308] }),
  (799,{ cls:=.type "function",data:=.func (Zvq (pS 36) "_law_numbers" "_law_numbers" 3 0 (.none) (.none) (.none) (.str "law_ij0140_02" 1279) none (.ref 798) (.none) 0) }),
  (803,{ cls:=.type "code",data:=.fields #[.str "law" 1310,.str "law" 1311,.str "/claim/cut.py" 1312,.int 813 0,.int 1 0,.int 0 0,.int 0 0,.int 3 0,.ref 800,.bool true,.int 318 0,.ref 801,.none,.none,.none,.ref 802,.int 1313 0,.int 813 0,.str "/claim/cut.py" 1314] }),
  (804,{ cls:=.type "function",data:=.func (Zvq (pS 37) "law" "law" 3 0 (.none) (.none) (.none) (.str "law_ij0140_02" 1279) none (.ref 803) (.none) 0) })]
noncomputable def lookN (a:Nat):List (Addr × Obj)→Option Obj
  | []=>none
  | (b,o)::r=>match Nat.beq a b with
    | true=>some o
    | false=>lookN a r
noncomputable def hz (w:World):Hs:=fun k=>condFn Int (Str.ofString k).cps.isEmpty 0 (W.ZFast.zw12210062019545310541 (w.params.strHash (Str.ofString k).cps))
noncomputable def hzP (p:Params):Hs:=fun k=>condFn Int (Str.ofString k).cps.isEmpty 0 (W.ZFast.zw12210062019545310541 (p.strHash (Str.ofString k).cps))
noncomputable def T2:Params→Addr→Option Obj:=gate (fun p a=>lookN a (topL (hzP p))) 0
noncomputable def orc_readA:List Nat:=Zxh 16 257 0x11110000000002003340550000000500000000053444050000000505005000000005333300033100300033000034003333100405500000005000000000530033405500000005000000000534055000000050000000005111000034000040000000400000004222100000010000111000000010000001001111000010111110000
noncomputable def orc_readB:List Nat:=Zxh 16 250 0x1111000000000200334055000000050000000005344405000000050500500000000533200300033000034003333100405500000005000000000530033405500000005000000000534055000000050000000005111000034000040000000400000004222100000010000111000000010000001001111000010111110000
noncomputable def orc_readC:List Nat:=Zxh 16 258 0x111100000000111100033405500000005000000000534440500000005050050000000053300003000330000300003333000000405500000005000000000530033405500000005000000000534055000000050000000005111000034000040000000400000004222100000010000111000000010000001001111000010111110000
noncomputable def orc_readD:List Nat:=Zxh 16 166 0x3003333100405500000005000000000530033405500000005000000000534055000000050000000005111000034000040000000400000004222100000010000111000000010000001001111000010111110000
theorem readA_v (prog:Program) (w:World) (b:Bool) (L:Lx) (p tp tq c n t:Nat) (f:Nat→Ext) :
    Zq6 [5,6] (Zk4 (hz (wb w b)) L p (p + 1) tp tq (S [c]) n t) readTk Zq8
      [sliceOwes (S L.buf) (Int.ofNat p) (Int.ofNat (p + 1)) (S [c]),decide (Int.ofNat (p + 1) < (S L.buf).length) = true,decide (Int.ofNat p ≥ (S L.buf).length) = false,(S L.buf).length < 2 ^ 63]
      (Zzs T2 prog (wb w b) n t [S [c]] [] (Zk4 (hz (wb w b)) L p (p + 1) tp tq (S [c]) n t) orc_readA f):=by cases b <;> kernel_rfl
theorem readB_v (prog:Program) (w:World) (b:Bool) (L:Lx) (p tp tq c n t:Nat) (f:Nat→Ext) :
    Zq6 [5,6] (Zk4 (hz (wb w b)) L p L.buf.length tp tq (S [c]) n t) readTk Zq8
      [sliceOwes (S L.buf) (Int.ofNat p) (S L.buf).length (S [c]),decide (Int.ofNat (p + 1) < (S L.buf).length) = false,decide (Int.ofNat p ≥ (S L.buf).length) = false,(S L.buf).length < 2 ^ 63]
      (Zzs T2 prog (wb w b) n t [S [c]] [] (Zk4 (hz (wb w b)) L p L.buf.length tp tq (S [c]) n t) orc_readB f):=by cases b <;> kernel_rfl
theorem readC_v (prog:Program) (w:World) (b:Bool) (L:Lx) (tp tq c n t:Nat) (f:Nat→Ext) :
    Zq6 [5,6] (Zk4 (hz (wb w b)) { L with buf:=[c] } 0 1 tp tq (S [c]) n t) readTk Zq8 []
      (Zzs T2 prog (wb w b) n t [] [] (Zk4 (hz (wb w b)) { L with buf:=[c] } 0 1 tp tq (S [c]) n t) orc_readC f):=by cases b <;> kernel_rfl
theorem readD_v (prog:Program) (w:World) (b:Bool) (L:Lx) (p tp tq n t:Nat) (f:Nat→Ext) :
    Zq6 [3,4] (Zk4 (hz (wb w b)) L p p tp tq (S []) n t) readTk Zq8 [decide (Int.ofNat p ≥ (S L.buf).length) = true,(S L.buf).length < 2 ^ 63]
      (Zzs T2 prog (wb w b) n t [] [] (Zk4 (hz (wb w b)) L p p tp tq (S []) n t) orc_readD f):=by cases b <;> kernel_rfl
theorem slice1 {l:List Nat} {p c:Nat} (h:l[p]? = some c) (h1:l.length≠1):sliceOwes (S l) (Int.ofNat p) (Int.ofNat (p + 1)) (S [c]):=by
  have hp:p < l.length:=(List.getElem?_eq_some_iff.mp h).1
  have e:Builtin.Str.strSliceIndices (some (Int.ofNat p)) (some (Int.ofNat (p + 1))) 1 (S l).length = [p]:=by
    have:(S l).length = l.length:=rfl
    rw [this]
    refine (PySem.StrLaws.strSliceIndices_plain (a:=p) (b:=p + 1) (len:=l.length) (Nat.le_succ _) hp).trans ?_
    have z:p + 1 - p = 1:=by lia
    rw [z]; rfl
  refine ⟨?_,?_,show (1:Nat)≤sizeLine by decide⟩
  · rw [e]
    show (1 == l.length) = false
    exact beq_false_of_ne (Ne.symm h1)
  · rw [e]
    show (⟨([p].filterMap ((⟨l⟩:Array Nat)[·]?)).toArray⟩:Str) = S [c]
    simp [S,h]
noncomputable abbrev Zjz (prog:Program) (w:World) (b:Bool) (L:Lx) (p p':Nat) (r:Str):Prop:=∀ tp tq n t,Zq1 T2 prog (wb w b) n t (Zk4 (hz (wb w b)) L p p' tp tq r n t)
theorem read_ok {prog:Program} {w:World} {b:Bool} {L:Lx} {p c:Nat} (h:L.buf[p]? = some c) (hl:L.buf.length < 2 ^ 63):Zjz prog w b L p (p + 1) (S [c]):=by
  intro tp tq n t
  have hp:p < L.buf.length:=(List.getElem?_eq_some_iff.mp h).1
  have hge:decide (Int.ofNat p ≥ (S L.buf).length) = false:=decide_eq_false (by show ¬ ((L.buf.length:Int)≤(p:Int)); lia)
  by_cases h1:L.buf.length = 1
  · have p0:p = 0:=by lia
    subst p0
    have hb:L.buf = [c]:=by
      obtain ⟨x,hx⟩:=List.length_eq_one_iff.mp h1
      rw [hx] at h ⊢
      simp at h
      rw [h]
    have hL:L = { L with buf:=[c] }:=by cases L; simp only at hb; rw [hb]
    rw [hL]
    show Zq1 T2 prog (wb w b) n t (Zk4 (hz (wb w b)) { L with buf:=[c] } 0 1 tp tq (S [c]) n t)
    exact Zqb Zqq (fun _=>rfl) rfl (readC_v prog w b L tp tq c n t) fun f q hq=>nomatch hq
  · by_cases h2:p + 1 < L.buf.length
    · refine Zqb Zqq (fun _=>rfl) rfl (readA_v prog w b L p tp tq c n t) fun f q hq=>?_
      have hlt:decide (Int.ofNat (p + 1) < (S L.buf).length) = true:=decide_eq_true (by show ((p + 1:Nat):Int) < (L.buf.length:Int); lia)
      simp only [List.mem_cons,List.not_mem_nil,or_false] at hq
      rcases hq with rfl | rfl | rfl | rfl
      · exact slice1 h h1
      · exact hlt
      · exact hge
      · exact hl
    · have h3:p + 1 = L.buf.length:=by lia
      rw [h3]
      refine Zqb Zqq (fun _=>rfl) rfl (readB_v prog w b L p tp tq c n t) fun f q hq=>?_
      have hlt:decide (Int.ofNat (p + 1) < (S L.buf).length) = false:=decide_eq_false (by show ¬ ((p + 1:Nat):Int) < (L.buf.length:Int); lia)
      simp only [List.mem_cons,List.not_mem_nil,or_false] at hq
      rcases hq with rfl | rfl | rfl | rfl
      · have z:=slice1 h h1
        rw [h3] at z
        exact z
      · exact hlt
      · exact hge
      · exact hl
theorem read_eof {prog:Program} {w:World} {b:Bool} {L:Lx} {p:Nat} (h:L.buf.length≤p) (hl:L.buf.length < 2 ^ 63):Zjz prog w b L p p (S []):=by
  intro tp tq n t
  refine Zqb Zqq (fun _=>rfl) rfl (readD_v prog w b L p tp tq n t) fun f q hq=>?_
  have hge:decide (Int.ofNat p ≥ (S L.buf).length) = true:=decide_eq_true (by show ((L.buf.length:Int)≤(p:Int)); lia)
  simp only [List.mem_cons,List.not_mem_nil,or_false] at hq
  rcases hq with rfl | rfl
  · exact hge
  · exact hl
structure Zq2 (α:Type) where
  pre:List (Addr × Obj)
  post:Ext→List (Addr × Obj)
  fresh:Ext→List (Addr × Obj)
  tree:Sem α
  res:Ext→Except Value α
  need:Nat
  fr:Option (List Env)
  preB:List Bag:=[]
  postB:Ext→List Bag:=fun _=>[]
  made:Ext→Nat:=fun x=>x.nat 0
noncomputable def Zq2.preA {α:Type} (K:Zq2 α):List (Addr × Obj):=K.pre++Zqr K.preB
noncomputable def Zq2.postA {α:Type} (K:Zq2 α) (x:Ext):List (Addr × Obj):=(K.fresh x++K.post x)++Zqr (K.postB x)
noncomputable def endR {α:Type} (Q:α→Shared→Prop) (E:Value→Shared→Prop):Except Value α→Shared→Prop
  | .ok a=>Q a
  | .error e=>E e
structure Zqn {α:Type} (T:Params→Addr→Option Obj) (prog:Program) (w:World) (n t:Nat) (K:Zq2 α):Prop where
  run:∀ (h₀ h:Heap) (r:Zkc) (g:Array GenState) (A:Around) (Q:α→Shared→Prop) (E:Value→Shared→Prop),Ground T w h₀→AOk A K.fr K.need→Own h₀ K.preA h→h.objs.size = n →
    (∀ x h' g',Own h₀ (K.postA x) h'→h'.objs.size = n + K.made x→Zq5 true g g'→endR Q E (K.res x) (r.at h' ⟨t + x.nat 1,g'⟩))→wpAny (model prog w) A K.tree Q E (r.at h ⟨t,g⟩)
theorem Zqn.use {α:Type} {T:Params→Addr→Option Obj} {prog:Program} {w:World} {n t:Nat} {K:Zq2 α} (hK:Zqn T prog w n t K) {h₀ h:Heap} {l rest:List (Addr × Obj)} {r:Zkc} {g:Array GenState} {A:Around} {Q:α→Shared→Prop} {E:Value→Shared→Prop}
    (G:Ground T w h₀) (hA:AOk A K.fr K.need) (O:Own h₀ l h) (hp:l.Perm (K.preA++rest)) (hs:h.objs.size = n)
    (hR:∀ x h' g',Own h₀ (K.postA x++rest) h'→h'.objs.size = n + K.made x→Zq5 true g g'→endR Q E (K.res x) (r.at h' ⟨t + x.nat 1,g'⟩)):wpAny (model prog w) A K.tree Q E (r.at h ⟨t,g⟩):=by
  have O1:=O.perm hp
  obtain ⟨G',O'⟩:=own_split G O1
  exact hK.run _ h r g A Q E G' hA O' hs fun x h' g' O2 hs2 hg=>hR x h' g' (own_join O1 O2) hs2 hg
noncomputable def seesT {α:Type} (ks kb:List Nat) (o:Out α):Option (Except Value α × List (Option (Addr × Obj)) × List (Option Bag) × List Prop):=match o with
  | .ok f s=>some (.ok f,Zxr s.objs ks,Zxr s.bags kb,s.obl)
  | .err e s=>some (.error e,Zxr s.objs ks,Zxr s.bags kb,s.obl)
  | _=>none
noncomputable def eqLT {α:Type} (o:Out α):List Zvz:=match o with
  | .ok _ s=>s.eqs.map (·.1)
  | .err _ s=>s.eqs.map (·.1)
  | _=>[]
noncomputable def eqRT {α:Type} (o:Out α):List Zvz:=match o with
  | .ok _ s=>s.eqs.map (·.2)
  | .err _ s=>s.eqs.map (·.2)
  | _=>[]
noncomputable def extT {α:Type} (ex:Except Value α→List (Option (Addr × Obj))→List (Option Bag)→Ext) (ks kb:List Nat) (o:Out α):Ext:=match o with
  | .ok f s=>match ex (.ok f) (Zxr s.objs ks) (Zxr s.bags kb) with | ⟨nt,sl,sq,ob⟩=>⟨fun j=>match j with | 0=>s.m | 1=>s.i | j + 2=>nt j,sl,sq,ob⟩
  | .err e s=>match ex (.error e) (Zxr s.objs ks) (Zxr s.bags kb) with | ⟨nt,sl,sq,ob⟩=>⟨fun j=>match j with | 0=>s.m | 1=>s.i | j + 2=>nt j,sl,sq,ob⟩
  | _=>Ext.nil
theorem extT_nat {α:Type} {ex:Except Value α→List (Option (Addr × Obj))→List (Option Bag)→Ext} {ks kb:List Nat} (o:Out α) :
    match o with | .ok _ s=>(extT ex ks kb o).nat 0 = s.m∧(extT ex ks kb o).nat 1 = s.i | .err _ s=>(extT ex ks kb o).nat 0 = s.m∧(extT ex ks kb o).nat 1 = s.i | _=>True:=by
  cases o <;> first | exact ⟨rfl,rfl⟩ | trivial
theorem postT_of {α:Type} {T:Params→Addr→Option Obj} {prog:Program} {w:World} {n t:Nat} {sts:List Str} {cons:List Fam} {h₀:Base} {r:Zkc} {K:Zq2 α} {ks kb:List Nat} {Q:α→Shared→Prop} {E:Value→Shared→Prop} (o:Out α)
    (x:Ext) (hks:ks.Nodup) (hkb:kb.Nodup) {P:List Prop} (hx:match o with | .ok _ s=>x.nat 0 = s.m∧x.nat 1 = s.i | .err _ s=>x.nat 0 = s.m∧x.nat 1 = s.i | _=>True)
    (hv:seesT ks kb o = some (K.res x,(K.fresh x++K.post x).map some,(K.postB x).map some,P)) (he:eqLT o = eqRT o) (hP:∀ p ∈ P,p) (hmd:K.made x = x.nat 0)
    (hR:∀ x h' g',Own h₀.heap (K.postA x) h'→h'.objs.size = n + K.made x→Zq5 true h₀.gens g'→endR Q E (K.res x) (r.at h' ⟨t + x.nat 1,g'⟩)) :
    Post (CZ T prog w n t sts cons) h₀ r o Q E:=by
  cases o with
  | stop _ _ _=>cases hv
  | more _=>cases hv
  | look _=>cases hv
  | ok f st =>
    have hv':=Option.some.inj hv
    simp only [Prod.mk.injEq] at hv'
    obtain ⟨v1,v2,v3,v4⟩:=hv'
    refine ⟨⟨zip_eq he,by rw [v4]; exact hP⟩,fun h' tk' D=>?_⟩
    have z:=hR x h' tk'.gens (own_of_rep D hks hkb v2 v3) (by rw [hmd,hx.1]; exact D.size) D.gens.may
    rw [← v1] at z
    obtain ⟨tok,gens⟩:=tk'
    have:=D.toks
    dsimp only at this
    rw [hx.2] at z
    subst this
    exact z
  | err e st =>
    have hv':=Option.some.inj hv
    simp only [Prod.mk.injEq] at hv'
    obtain ⟨v1,v2,v3,v4⟩:=hv'
    refine ⟨⟨zip_eq he,by rw [v4]; exact hP⟩,fun h' tk' D=>?_⟩
    have z:=hR x h' tk'.gens (own_of_rep D hks hkb v2 v3) (by rw [hmd,hx.1]; exact D.size) D.gens.may
    rw [← v1] at z
    obtain ⟨tok,gens⟩:=tk'
    have:=D.toks
    dsimp only at this
    rw [hx.2] at z
    subst this
    exact z
noncomputable def Zzz {α:Type} (T:Params→Addr→Option Obj) (prog:Program) (w:World) (n t:Nat) (sts:List Str) (cons:List Fam) (K:Zq2 α) (orc:List Nat) (f:Nat→Ext):Out α :=
  openS (engT (CZ T prog w n t sts cons) (engC (CZ T prog w n t sts cons) K.need K.fr) K.tree (startX K.pre K.preB orc)) f
noncomputable abbrev Zqh {α:Type} (ks kb:List Nat) (K:Zq2 α) (ex:Except Value α→List (Option (Addr × Obj))→List (Option Bag)→Ext) (P:List Prop) (o:Out α):Prop :=
  (seesT ks kb o,eqLT o) = (some (K.res (extT ex ks kb o),(K.fresh (extT ex ks kb o)++K.post (extT ex ks kb o)).map some,(K.postB (extT ex ks kb o)).map some,P),eqRT o)
theorem Zqw {α:Type} {T:Params→Addr→Option Obj} {prog:Program} {w:World} {n t:Nat} {sts:List Str} {cons:List Fam} {K:Zq2 α} {ks kb:List Nat} {orc:List Nat}
    {ex:(Nat→Ext)→Except Value α→List (Option (Addr × Obj))→List (Option Bag)→Ext} {P:(Nat→Ext)→List Prop}
    (hC:Zx1 T prog w cons) (hks:Zjc ks = true) (hkb:Zjc kb = true)
    (h:∀ f,Zqh ks kb K (ex f) (P f) (Zzz T prog w n t sts cons K orc f)) (hP:∀ f,∀ p ∈ P f,p) (hmd:∀ x,K.made x = x.nat 0:=by exact fun _=>rfl):Zqn T prog w n t K:=by
  refine ⟨fun h₀ h' r g A Q E G hA O hs hR=>?_⟩
  have ok:CfgOk (CZ T prog w n t sts cons) prog w ⟨h₀,g⟩ r:=cz_ok G hC
  refine (Zvr ok (Zk0 ok K.need K.fr) Q E K.tree (startX K.pre K.preB orc) (Zk7 _ fun f=>?_)).2 A h' ⟨t,g⟩ hA ⟨hs,rfl,O.own,O.nodup,O.keep,O.apart,Zq5.refl _ _⟩
  exact postT_of (Zzz T prog w n t sts cons K orc f) (extT (ex f) ks kb (Zzz T prog w n t sts cons K orc f)) (Zz1 hks) (Zz1 hkb) (extT_nat _) (congrArg Prod.fst (h f)) (congrArg Prod.snd (h f)) (hP f) (hmd _) hR
noncomputable def runTL {α:Type} (T:Params→Addr→Option Obj) (prog:Program) (w:World) (n t:Nat) (sts:List Str) (cons:List Fam) (K:Zq2 α) (orc:List Nat) (l:Nat→Looks) (f:Nat→Ext):Out α :=
  openS (openL (engT (CZ T prog w n t sts cons) (engC (CZ T prog w n t sts cons) K.need K.fr) K.tree (startX K.pre K.preB orc)) l) f
theorem tconOk_runL {α:Type} {T:Params→Addr→Option Obj} {prog:Program} {w:World} {n t:Nat} {sts:List Str} {cons:List Fam} {K:Zq2 α} {ks kb:List Nat} {orc:List Nat}
    {ex:(Nat→Ext)→Except Value α→List (Option (Addr × Obj))→List (Option Bag)→Ext} {P:(Nat→Ext)→List Prop}
    (hC:Zx1 T prog w cons) (hks:Zjc ks = true) (hkb:Zjc kb = true)
    (h:∀ l f,Zqh ks kb K (ex f) (P f) (runTL T prog w n t sts cons K orc l f)) (hP:∀ f,∀ p ∈ P f,p) (hmd:∀ x,K.made x = x.nat 0:=by exact fun _=>rfl):Zqn T prog w n t K:=by
  refine ⟨fun h₀ h' r g A Q E G hA O hs hR=>?_⟩
  have ok:CfgOk (CZ T prog w n t sts cons) prog w ⟨h₀,g⟩ r:=cz_ok G hC
  refine (Zvr ok (Zk0 ok K.need K.fr) Q E K.tree (startX K.pre K.preB orc) (post_openL _ fun l=>Zk7 _ fun f=>?_)).2 A h' ⟨t,g⟩ hA ⟨hs,rfl,O.own,O.nodup,O.keep,O.apart,Zq5.refl _ _⟩
  exact postT_of (runTL T prog w n t sts cons K orc l f) (extT (ex f) ks kb (runTL T prog w n t sts cons K orc l f)) (Zz1 hks) (Zz1 hkb) (extT_nat _) (congrArg Prod.fst (h l f)) (congrArg Prod.snd (h l f)) (hP f) (hmd _) hR
noncomputable def exN (f:Nat→Nat):Ext:=⟨f,fun _=>#[],fun _ _ _=>0,Ext.nil.ob⟩
noncomputable def fnEnv (top:Addr→Option Obj) (a c:Addr) (q:String) (fr:Addr):Env:={ scope:=(Zxv top a).scope,locals:=fr,globals:=3,cells:=[],qual:=q,func:=some a,code:=.ref c,frame:=some fr,builtins:=0 }
structure RO where
  r:Nat→Int
  k:Nat→Nat
noncomputable def kv (w:Hs) (R:RO) (k:String) (i:Nat) (v:Value):DictEntry:=ent w k (R.k i) v
noncomputable def rankO (w:Hs) (R:RO):Obj:={ cls:=.type "dict",data:=.dict #[kv w R "a" 0 (.int (R.r 0) (R.k 1)),kv w R "it's" 2 (.int (R.r 1) (R.k 3)),kv w R "" 4 (.int (R.r 2) (R.k 5)),kv w R "b c" 6 (.int (R.r 3) (R.k 7)),kv w R "#" 8 (.int (R.r 4) (R.k 9)),kv w R "\\" 10 (.int (R.r 5) (R.k 11))] 6 }
noncomputable def lamParts:Stmt→Arguments × Expr × Scope
  | .Assign _ e _=>match e with
    | .Call _ args _ _=>match args with
      | a::_=>match a with
        | .Lambda args body scope _=>(args,body,scope)
        | _=>(default,.Name "" default,default)
      | []=>(default,.Name "" default,default)
    | _=>(default,.Name "" default,default)
  | _=>(default,.Name "" default,default)
noncomputable def defFd (s:Stmt) (name qual:String) (closure:List (Str × Addr)) (code ct:Value):FuncData:=match defParts s with
  | (args,body,scope)=>{ name:=name,qualname:=qual,params:=args,body:=.stmts body,scope:=scope,globals:=3,closure:=closure,defaults:=.none,kwdefaults:=.none,pyModule:=.str "law_ij0140_02" 1279,code:=code,closureTuple:=ct,builtins:=0 }
noncomputable def lamFd (s:Stmt) (name qual:String) (closure:List (Str × Addr)) (code ct:Value):FuncData:=match lamParts s with
  | (args,body,scope)=>{ name:=name,qualname:=qual,params:=args,body:=.expr body,scope:=scope,globals:=3,closure:=closure,defaults:=.none,kwdefaults:=.none,pyModule:=.str "law_ij0140_02" 1279,code:=code,closureTuple:=ct,builtins:=0 }
noncomputable def fnO (fd:FuncData):Obj:={ cls:=.type "function",data:=.func fd }
noncomputable def codeO (R:RO) (i:Nat) (name qual:String) (line argc flags:Int) (free tbl:Addr) (b c d:Addr):Obj:={ cls:=.type "code",data:=.fields #[.str name (R.k i),.str qual (R.k (i + 1)),.str "/claim/cut.py" (R.k (i + 2)),.int line 0,.int argc 0,.int 0 0,.int 0 0,.int flags 0,.ref free,.bool true,.int 318 0,.ref tbl,.none,.ref b,.ref c,.ref d,.int (Int.ofNat (R.k (i + 3))) 0,.int line 0,.str "/claim/cut.py" (R.k (i + 4))] }
noncomputable def clsO (R:RO):Obj:={ cls:=.type "type",data:=.cls { name := "K",bases:=[.type "object"],mro:=[.ref 904,.type "object"],ns:=903,qualname := "cmp_to_key.<locals>.K",hasDict:=false,slotNames:=["obj"] },slots:=#[some (.ref 846),none,some (.str "K" (R.k 20)),some (.str "cmp_to_key.<locals>.K" (R.k 21)),some (.builtin "object.__new__"),some (.bool false)] }
noncomputable def clsD (w:Hs) (R:RO):Obj:={ cls:=.type "dict",data:=.dict #[kv w R "__module__" 22 (.str "cpy313.functools" (R.k 23)),kv w R "__firstlineno__" 24 (.int 9 (R.k 25)),kv w R "__slots__" 26 (.ref 853),kv w R "__init__" 27 (.ref 860),kv w R "__lt__" 28 (.ref 868),kv w R "__gt__" 29 (.ref 876),kv w R "__eq__" 30 (.ref 884),kv w R "__le__" 31 (.ref 892),kv w R "__ge__" 32 (.ref 900),kv w R "__hash__" 33 .none,kv w R "__static_attributes__" 34 (.ref 901),kv w R "obj" 35 (.ref 905),kv w R "__doc__" 36 .none] 3 }
noncomputable def roObjs (w:Hs) (top:Addr→Option Obj) (R:RO):List (Addr × Obj):=[
  (810,{ cls:=.type "cell",data:=.cell (some (.ref 822)) }),
  (822,rankO w R),
  (842,codeO R 40 "<lambda>" "law.<locals>.<lambda>" 815 2 19 837 838 839 840 841),
  (843,fnO (lamFd (Zqt (Zxv top 804) 1) "<lambda>" "law.<locals>.<lambda>" [("ranks",810)] (.ref 842) (.ref 836))),
  (845,{ cls:=.type "cell",data:=.cell (some (.ref 843)) }),
  (859,codeO R 50 "__init__" "cmp_to_key.<locals>.K.__init__" 13 2 19 854 855 856 857 858),
  (860,fnO (defFd (nthS (Zxq (Zqt (Zxv top 51) 0)) 2) "__init__" "cmp_to_key.<locals>.K.__init__" [] (.ref 859) .none)),
  (867,codeO R 60 "__lt__" "cmp_to_key.<locals>.K.__lt__" 16 2 19 862 863 864 865 866),
  (868,fnO (defFd (nthS (Zxq (Zqt (Zxv top 51) 0)) 3) "__lt__" "cmp_to_key.<locals>.K.__lt__" [("mycmp",845)] (.ref 867) (.ref 861))),
  (899,codeO R 70 "__ge__" "cmp_to_key.<locals>.K.__ge__" 28 2 19 894 895 896 897 898),
  (900,fnO (defFd (nthS (Zxq (Zqt (Zxv top 51) 0)) 7) "__ge__" "cmp_to_key.<locals>.K.__ge__" [("mycmp",845)] (.ref 899) (.ref 893))),
  (903,clsD w R),
  (904,clsO R),
  (905,{ cls:=.type "member_descriptor",data:=.fields #[.str "obj" (R.k 80),.ref 904,.builtin "proto.slot",.builtin "proto.slot#set",.int 0 0] }),
  (909,{ cls:=.type "cell",data:=.cell (some (.ref 904)) }),
  (916,codeO R 90 "_law_dealt" "_law_dealer.<locals>._law_dealt" 799 2 19 911 912 913 914 915),
  (917,fnO (defFd (Zqt (Zxv top 794) 0) "_law_dealt" "_law_dealer.<locals>._law_dealt" [("key",909)] (.ref 916) (.ref 910)))]
noncomputable def T3 (R:RO):Params→Addr→Option Obj:=fun p a=>match T2 p a with
  | some o=>some o
  | none=>lookN a (roObjs (hzP p) (T2 p) R)
theorem t3_t2 (R:RO) (p:Params) (a:Addr) (o:Obj) (h:T2 p a = some o):T3 R p a = some o:=by unfold T3; rw [h]
theorem Ground.mono {T T':Params→Addr→Option Obj} {w:World} {h:Heap} (hT:∀ a o,T w.params a = some o→T' w.params a = some o) (G:Ground T' w h):Ground T w h:=⟨fun a o e=>G.top a o (hT a o e),G.nolimit⟩
theorem Zq1.mono {T T':Params→Addr→Option Obj} {prog:Program} {w:World} {n t:Nat} {K:Con} (hT:∀ a o,T w.params a = some o→T' w.params a = some o) (h:Zq1 T prog w n t K):Zq1 T' prog w n t K :=
  ⟨fun h₀ h' r g A R G=>h.run h₀ h' r g A R (G.mono hT)⟩
theorem Zqn.mono {α:Type} {T T':Params→Addr→Option Obj} {prog:Program} {w:World} {n t:Nat} {K:Zq2 α} (hT:∀ a o,T w.params a = some o→T' w.params a = some o) (h:Zqn T prog w n t K):Zqn T' prog w n t K :=
  ⟨fun h₀ h' r g A Q E G=>h.run h₀ h' r g A Q E (G.mono hT)⟩
theorem Zq1.up {prog:Program} {w:World} {n t:Nat} {K:Con} (R:RO) (h:Zq1 T2 prog w n t K):Zq1 (T3 R) prog w n t K:=h.mono fun a o=>t3_t2 R _ a o
noncomputable def Zv2 (wd r:List Nat) (tt n t:Nat):Con where
  pre:=[]
  post _:=[]
  fresh _:=[]
  code:=.call (.ref 775) ⟨[.str (S wd) tt],[]⟩
  res x:=.ok (.ret (.str (S r) (x.nat 2)))
  need:=30
  fr:=none
  gen:=false
noncomputable def quEx (r:Result) (_:List (Option (Addr × Obj))) (_:Nat):Nat:=rTok r
noncomputable def poolW:List (List Nat):=[[97],[105,116,39,115],[],[98,32,99],[35],[92]]
noncomputable def poolQ:List (List Nat):=[[97],[39,105,116,39,34,39,34,39,115,39],[39,39],[39,98,32,99,39],[39,35,39],[39,92,39]]
noncomputable def rkCon (W:List Nat) (r:Int) (tt:Nat):Con where
  pre:=[]
  post _:=[]
  fresh _:=[]
  code:=.builtin "dict.__getitem__" ⟨[.ref 822,.str (S W) tt],[]⟩
  res x:=.ok (.ret (.int r (x.nat 2)))
  need:=5
  fr:=none
  gen:=false
noncomputable def sTok (c:Code) (k:Nat):Nat:=Zvt (posOf' c k)
where posOf' (c:Code) (k:Nat):Value:=match c with
  | .builtin _ args=>match args with | ⟨pos,_⟩=>match pos.drop k with | v::_=>v | []=>.none
  | .call _ args=>match args with | ⟨pos,_⟩=>match pos.drop k with | v::_=>v | []=>.none
  | _=>.none
noncomputable def rkFam (W:List Nat) (r:Int):Fam:=fun _ _ c _ _=>rkCon W r (sTok c 1)
inductive Zxd (R:RO):List Nat→Int→Prop
  | w0:Zxd R [97] (R.r 0)
  | w1:Zxd R [105,116,39,115] (R.r 1)
  | w2:Zxd R [] (R.r 2)
  | w3:Zxd R [98,32,99] (R.r 3)
  | w4:Zxd R [35] (R.r 4)
  | w5:Zxd R [92] (R.r 5)
theorem isStrOf_self (x:Str) (t:Nat):Value.isStrOf x (.str x t) = true:=by simp [Value.isStrOf]
theorem hz_hash (w:World) (k:String):hzP w.params k = hashStr w (Str.ofString k):=by
  unfold hzP hashStr
  rw [← W.ZFast.ze12210062019545310541]
  cases (Str.ofString k).cps.isEmpty <;> rfl
theorem kv_ok (prog:Program) (w:World) (R:RO) (k:String) (i:Nat) (v:Value):∃ x,(strKind prog w).is x (kv (hzP w.params) R k i v).key = true∧(kv (hzP w.params) R k i v).hash = (strKind prog w).hash x :=
  ⟨Str.ofString k,isStrOf_self (Str.ofString k) (R.k i),hz_hash w k⟩
theorem rank_find {R:RO} {W:List Nat} {r:Int} (h:Zxd R W r) (hs:Hs):∃ tk,findBy Value.isStrOf #[kv hs R "a" 0 (.int (R.r 0) (R.k 1)),kv hs R "it's" 2 (.int (R.r 1) (R.k 3)),kv hs R "" 4 (.int (R.r 2) (R.k 5)),kv hs R "b c" 6 (.int (R.r 3) (R.k 7)),kv hs R "#" 8 (.int (R.r 4) (R.k 9)),kv hs R "\\" 10 (.int (R.r 5) (R.k 11))] (S W) = some (.int r tk):=by
  cases h <;> exact ⟨_,rfl⟩
theorem rk_ok {prog:Program} {w:World} {R:RO} {W:List Nat} {r:Int} (hw:Zxd R W r) (tt n t:Nat):Zq1 (T3 R) prog w n t (rkCon W r tt):=by
  refine ⟨fun h₀ h rr g A Q G hA O hs hR=>?_⟩
  have h822:h.get? 822 = some (rankO (hzP w.params) R):=O.keep _ _ (G.top 822 _ (by kernel_rfl))
  refine codeAny_builtin entry_dict_getitem ?_
  rw [Around.under_plainId (by decide +kernel)]
  obtain ⟨tk,hf⟩:=rank_find hw (hzP w.params)
  refine meets_dict_getitem (strKind prog w) (k:=S W) (d:=822) (key:=.str (S W) tt) (isStrOf_self (S W) tt) A Q _ ⟨findBy Value.isStrOf _,.int r tk,⟨_,_,_,h822,⟨rfl,rfl,rfl⟩,rfl,?_,fun _=>rfl⟩,hf,?_⟩
  · intro e he
    simp only [List.mem_toArray,List.mem_cons,List.not_mem_nil,or_false] at he
    rcases he with rfl | rfl | rfl | rfl | rfl | rfl <;> exact kv_ok prog w R _ _ _
  · exact hR ⟨fun j=>match j with | 0=>0 | 1=>1 | _=>tk,fun _=>#[],fun _ _ _=>0,Ext.nil.ob⟩ h g O hs (Zq5.refl _ _)
noncomputable def Zxm (d:Addr) (W:List Nat) (tt:Nat):Obj:={ cls:=.ref 904,dict:=some d,slots:=#[some (.str (S W) tt)] }
noncomputable def kyCon (W:List Nat) (tt n t:Nat):Con where
  pre:=[]
  post _:=[]
  fresh _:=[(n + 1,Zxm n W tt)]
  code:=.call (.ref 904) ⟨[.str (S W) tt],[]⟩
  res _:=.ok (.ret (.ref (n + 1)))
  need:=30
  fr:=none
  gen:=false
noncomputable def cmCon (f:Addr) (v:Bool) (a b da db:Addr) (W1 W2:List Nat) (t1 t2:Nat) (n t:Nat):Con where
  pre:=[(a,Zxm da W1 t1),(b,Zxm db W2 t2)]
  post _:=[(a,Zxm da W1 t1),(b,Zxm db W2 t2)]
  fresh _:=[]
  code:=.call (.ref f) ⟨[.ref a,.ref b],[]⟩
  res _:=.ok (.ret (.bool v))
  need:=40
  fr:=none
  gen:=false
noncomputable def gtFam (w:Hs) (L:Lx) (s s':Lt) (e:Int) (U:Str):Fam:=fun n t _ l _=>gtCon w L (Zvm l) s s' e U n t
noncomputable def gtFamP (w:Hs) (L:Lx) (s:Lt) (e:Int) (v:Str) (tv:Nat) (r:List (Str × Nat)):Fam:=fun n t _ l _=>Zzw w L (Zvm l) s e (e + 1) v tv r n t
noncomputable def nxCode (L:Lx):Code:=.call (.ref 745) ⟨[.ref L.lex],[]⟩
noncomputable def nxCon (w:Hs) (L:Lx) (tk:Nat→Nat) (s s':Lt) (e:Int) (U:Str) (n t:Nat):Con where
  pre:=Zq3 w L tk s++[(L.pb,dqO e [])]
  post x:=Zq3 w L x.tk s'++[(L.pb,dqO e [])]
  fresh _:=[]
  code:=nxCode L
  res x:=.ok (.ret (.str U (x.nat 6)))
  need:=51
  fr:=none
noncomputable def nxConP (w:Hs) (L:Lx) (tk:Nat→Nat) (s:Lt) (e:Int) (v:Str) (tv:Nat) (r:List (Str × Nat)) (n t:Nat):Con where
  pre:=Zq3 w L tk s++[(L.pb,dqO e ((v,tv)::r))]
  post x:=Zq3 w L tk s++[(L.pb,dqO (e + 1) r)]
  fresh _:=[]
  code:=nxCode L
  res x:=.ok (.ret (.str v tv))
  need:=51
  fr:=none
noncomputable def Zkk (top:Addr→Option Obj) (fr:Addr):Env:={ scope:=(Zxv top 745).scope,locals:=fr,globals:=3,cells:=[],qual := "shlex.__next__.<locals>.",func:=some 745,code:=.ref 744,frame:=some fr,builtins:=0 }
noncomputable def nxF1 (w:Hs) (L:Lx) (k:Nat):Obj:={ cls:=.type "frame",data:=.dict #[ent w "self" k (.ref L.lex)] 1 }
noncomputable def nxF2 (w:Hs) (L:Lx) (k k':Nat):Obj:={ cls:=.type "frame",data:=.dict #[ent w "self" k (.ref L.lex),ent w "token" k' .none] 2 }
noncomputable def nxPrep (w:Hs) (top:Addr→Option Obj) (prep:Addr→FuncData→Args→Sem Env) (L:Lx) (n t:Nat):Zq2 Env where
  pre:=[]
  post _:=[]
  fresh x:=[(n,nxF1 w L (x.nat 2))]
  tree:=prep 745 (Zxv top 745) ⟨[.ref L.lex],[]⟩
  res _:=.ok (Zkk top n)
  need:=20
  fr:=none
noncomputable def Zjb (w:Hs) (L:Lx) (tk:Nat→Nat) (s:Lt) (e e':Int):List (Addr × Obj):=Zq3 w L tk s++[(L.pb,dqO e []),(L.fk,dqO e' [])]
noncomputable def gtFamE (w:Hs) (L:Lx) (s s':Lt) (e e':Int):Fam:=fun n t _ l _=>gtConE w L (Zvm l) s s' e e' n t
noncomputable def nxS1 (w:Hs) (top:Addr→Option Obj) (exs:List Stmt→Env→Sem Flow) (L:Lx) (tk:Nat→Nat) (fr k:Nat) (s s':Lt) (e e':Int) (n t:Nat):Zq2 Flow where
  pre:=(fr,nxF1 w L k)::Zjb w L tk s e e'
  post x:=(fr,nxF2 w L k (x.nat 6))::Zjb w L x.tk s' e e'
  fresh _:=[]
  tree:=exs [Zqt (Zxv top 745) 0] (Zkk top fr)
  res _:=.ok .next
  need:=50
  fr:=none
noncomputable def ifTest (s:Stmt):Expr:=match s with
  | .If t _ _ _=>t
  | _=>.Name "" default
noncomputable def ifRaise (s:Stmt):Expr:=match s with
  | .If _ b _ _=>match b with
    | r::_=>match r with
      | .Raise x _ _=>match x with
        | some e=>e
        | none=>.Name "" default
      | _=>.Name "" default
    | []=>.Name "" default
  | _=>.Name "" default
noncomputable def nxS2 (w:Hs) (top:Addr→Option Obj) (isT:Expr→Env→Sem Value→Sem Bool) (ev:Expr→Env→Sem Value) (L:Lx) (tk:Nat→Nat) (fr k k':Nat) (s:Lt) (n t:Nat):Zq2 Bool where
  pre:=(fr,nxF2 w L k k')::Zq3 w L tk s
  post _:=(fr,nxF2 w L k k')::Zq3 w L tk s
  fresh _:=[]
  tree:=isT (ifTest (Zqt (Zxv top 745) 1)) (Zkk top fr) (ev (ifTest (Zqt (Zxv top 745) 1)) (Zkk top fr))
  res _:=.ok true
  need:=20
  fr:=none
noncomputable def nxS3 (w:Hs) (top:Addr→Option Obj) (ev:Expr→Env→Sem Value) (L:Lx) (fr k k':Nat) (n t:Nat):Zq2 Value where
  pre:=[(fr,nxF2 w L k k')]
  post _:=[(fr,nxF2 w L k k')]
  fresh _:=[]
  tree:=ev (ifRaise (Zqt (Zxv top 745) 1)) (Zkk top fr)
  res _:=.ok (.type "StopIteration")
  need:=20
  fr:=none
noncomputable abbrev Zqf (w:World):Addr→Option Obj:=T2 w.params
noncomputable def Zxt (k:Nat) (f:Nat→Ext) (_:Result) (_:List (Option (Addr × Obj))) (j:Nat):Nat:=(f k).nat (j + 2)
noncomputable abbrev Zzv (prog:Program) (w:World) (b:Bool) (L:Lx) (s s':Ls):Prop:=∀ fr ft tk n t,Zq1 T2 prog (wb w b) n t (Zq7 (hz (wb w b)) (Zqf (wb w b)) L fr ft tk s s' n t)
noncomputable def orc_R1:List Nat:=Zxh 16 361 0x654215255506000606006000067705066000600000670000506600060000067700005066000600000611100000000000000050000056600004055000500000566000040550005000005660405500050000056400405500050000056600004055000500000566000006000040550005000005640550005000005600004055000500000560000666021210230000300000003000000034055000500000560000040550005000005111000000000000000400000450
theorem R1_v (prog:Program) (w:World) (b:Bool) (L:Lx) (fr:Addr) (ft tk:Nat→Nat) (p:Nat) (ln:Int)  (s':Ls) (n t:Nat) (f:Nat→Ext) :
    Zq6 [0,1,2,3,4] (Zq7 (hz (wb w b)) (Zqf (wb w b)) L fr ft tk ⟨p,some (S [32]),S [],false,ln,none⟩ s' n t) (Zxt 1 f) Zq8
      [Zjx L.cm (S [39]) = false]
      (Zzs T2 prog (wb w b) n t [] [Zx3 (hz (wb w b)) L p (p + 1) (S [39]),Zkv (hz (wb w b)) (Zqf (wb w b)) L fr ⟨p + 1,some (S [39]),S [],false,ln,some (S [39])⟩ s'] (Zq7 (hz (wb w b)) (Zqf (wb w b)) L fr ft tk ⟨p,some (S [32]),S [],false,ln,none⟩ s' n t) orc_R1 f):=by cases b <;> kernel_rfl
theorem R1_ok {prog:Program} {w:World} {b:Bool} {L:Lx} {p:Nat} {ln:Int}  (s':Ls) (h:Zjz prog w b L p (p + 1) (S [39])) (ih:Zzv prog w b L ⟨p + 1,some (S [39]),S [],false,ln,some (S [39])⟩ s') (o0:Zjx L.cm (S [39]) = false) :
    Zzv prog w b L ⟨p,some (S [32]),S [],false,ln,none⟩ s':=fun fr ft tk n t =>
  Zqb (tk:=Zxt 1) (sl:=fun _=>Zq8) (Zqx (fun n t c l _=>h _ _ _ _) (Zqx (fun n t c l _=>ih _ _ _ _ _) Zqq)) (fun _=>rfl) rfl (R1_v prog w b L fr ft tk p ln  s' n t) fun f q hq=>by
    simp only [List.mem_cons,List.not_mem_nil,or_false] at hq
    rcases hq with rfl
    · exact o0
noncomputable def orc_R2w:List Nat:=Zxh 16 296 0x5431052444050005050050000564440500050500500005663004055000500000566400405500050000056604055000500000564004055000500000566400405500050000056600000600004055000500000564055000500000560000405500050000056200666021210230000300000003000000034055000500000560000040550005000005111000000000000000400000450
theorem R2w_v (prog:Program) (w:World) (b:Bool) (L:Lx) (fr:Addr) (ft tk:Nat→Nat) (p:Nat) (ln:Int) (c:Nat) (s':Ls) (n t:Nat) (f:Nat→Ext) :
    Zq6 [0,1,2,3,4] (Zq7 (hz (wb w b)) (Zqf (wb w b)) L fr ft tk ⟨p,some (S [32]),S [],false,ln,none⟩ s' n t) (Zxt 1 f) Zq8
      [Zjx Zx9 (S [c]) = true,Zjx "\\" (S [c]) = false,Zjx L.cm (S [c]) = false,Zjx (" \t\r\n" : Str) (S [c]) = false,sameT (S [c]) "\n" = false]
      (Zzs T2 prog (wb w b) n t [] [Zx3 (hz (wb w b)) L p (p + 1) (S [c]),Zkv (hz (wb w b)) (Zqf (wb w b)) L fr ⟨p + 1,some (S [97]),S [c],false,ln,some (S [c])⟩ s'] (Zq7 (hz (wb w b)) (Zqf (wb w b)) L fr ft tk ⟨p,some (S [32]),S [],false,ln,none⟩ s' n t) orc_R2w f):=by cases b <;> kernel_rfl
theorem R2w_ok {prog:Program} {w:World} {b:Bool} {L:Lx} {p:Nat} {ln:Int} (c:Nat) (s':Ls) (h:Zjz prog w b L p (p + 1) (S [c])) (ih:Zzv prog w b L ⟨p + 1,some (S [97]),S [c],false,ln,some (S [c])⟩ s') (o0:sameT (S [c]) "\n" = false) (o1:Zjx (" \t\r\n" : Str) (S [c]) = false) (o2:Zjx L.cm (S [c]) = false) (o3:Zjx "\\" (S [c]) = false) (o4:Zjx Zx9 (S [c]) = true) :
    Zzv prog w b L ⟨p,some (S [32]),S [],false,ln,none⟩ s':=fun fr ft tk n t =>
  Zqb (tk:=Zxt 1) (sl:=fun _=>Zq8) (Zqx (fun n t c l _=>h _ _ _ _) (Zqx (fun n t c l _=>ih _ _ _ _ _) Zqq)) (fun _=>rfl) rfl (R2w_v prog w b L fr ft tk p ln c s' n t) fun f q hq=>by
    simp only [List.mem_cons,List.not_mem_nil,or_false] at hq
    rcases hq with rfl | rfl | rfl | rfl | rfl
    · exact o4
    · exact o3
    · exact o2
    · exact o1
    · exact o0
noncomputable def orc_R2n:List Nat:=Zxh 16 375 0x65421525550600060600600006755506000606006000067705066000600000674005066000600000677400506600060000061110000000000000005000005664004055000500000566400405500050000056604055000500000564004055000500000566400405500050000056600000600004055000500000564055000500000560000405500050000056200666021210230000300000003000000034055000500000560000040550005000005111000000000000000400000450
theorem R2n_v (prog:Program) (w:World) (b:Bool) (L:Lx) (fr:Addr) (ft tk:Nat→Nat) (p:Nat) (ln:Int) (c:Nat) (s':Ls) (n t:Nat) (f:Nat→Ext) :
    Zq6 [0,1,2,3,4] (Zq7 (hz (wb w b)) (Zqf (wb w b)) L fr ft tk ⟨p,some (S [32]),S [],false,ln,none⟩ s' n t) (Zxt 1 f) Zq8
      [Zjx "'\"" (S [c]) = false,Zjx "" (S [c]) = false,Zjx Zx9 (S [c]) = false,Zjx "\\" (S [c]) = false,Zjx L.cm (S [c]) = false,Zjx (" \t\r\n" : Str) (S [c]) = false,sameT (S [c]) "\n" = false]
      (Zzs T2 prog (wb w b) n t [] [Zx3 (hz (wb w b)) L p (p + 1) (S [c]),Zkv (hz (wb w b)) (Zqf (wb w b)) L fr ⟨p + 1,some (S [97]),S [c],false,ln,some (S [c])⟩ s'] (Zq7 (hz (wb w b)) (Zqf (wb w b)) L fr ft tk ⟨p,some (S [32]),S [],false,ln,none⟩ s' n t) orc_R2n f):=by cases b <;> kernel_rfl
theorem R2n_ok {prog:Program} {w:World} {b:Bool} {L:Lx} {p:Nat} {ln:Int} (c:Nat) (s':Ls) (h:Zjz prog w b L p (p + 1) (S [c])) (ih:Zzv prog w b L ⟨p + 1,some (S [97]),S [c],false,ln,some (S [c])⟩ s') (o0:sameT (S [c]) "\n" = false) (o1:Zjx (" \t\r\n" : Str) (S [c]) = false) (o2:Zjx L.cm (S [c]) = false) (o3:Zjx "\\" (S [c]) = false) (o4:Zjx Zx9 (S [c]) = false) (o5:Zjx "" (S [c]) = false) (o6:Zjx "'\"" (S [c]) = false) :
    Zzv prog w b L ⟨p,some (S [32]),S [],false,ln,none⟩ s':=fun fr ft tk n t =>
  Zqb (tk:=Zxt 1) (sl:=fun _=>Zq8) (Zqx (fun n t c l _=>h _ _ _ _) (Zqx (fun n t c l _=>ih _ _ _ _ _) Zqq)) (fun _=>rfl) rfl (R2n_v prog w b L fr ft tk p ln c s' n t) fun f q hq=>by
    simp only [List.mem_cons,List.not_mem_nil,or_false] at hq
    rcases hq with rfl | rfl | rfl | rfl | rfl | rfl | rfl
    · exact o6
    · exact o5
    · exact o4
    · exact o3
    · exact o2
    · exact o1
    · exact o0
noncomputable def orc_R3:List Nat:=Zxh 16 151 0x4440500050500500005640550005000005600004055000500000560000666021210230000300000003000000034055000500000560000040550005000005111000000000000000400000450
theorem R3_v (prog:Program) (w:World) (b:Bool) (L:Lx) (fr:Addr) (ft tk:Nat→Nat) (p:Nat) (ln:Int) (tok:Str) (n t:Nat) (f:Nat→Ext) :
    Zq6 [0,1,3,4,5] (Zq7 (hz (wb w b)) (Zqf (wb w b)) L fr ft tk ⟨p,none,tok,false,ln,none⟩ ⟨p,none,S [],false,ln,some (S [])⟩ n t) loopEx Zq8
      []
      (Zzs T2 prog (wb w b) n t [] [Zx3 (hz (wb w b)) L p (p) (S [])] (Zq7 (hz (wb w b)) (Zqf (wb w b)) L fr ft tk ⟨p,none,tok,false,ln,none⟩ ⟨p,none,S [],false,ln,some (S [])⟩ n t) orc_R3 f):=by cases b <;> kernel_rfl
theorem R3_ok {prog:Program} {w:World} {b:Bool} {L:Lx} {p:Nat} {ln:Int} (tok:Str) (h:Zjz prog w b L p (p) (S [])) :
    Zzv prog w b L ⟨p,none,tok,false,ln,none⟩ ⟨p,none,S [],false,ln,some (S [])⟩:=fun fr ft tk n t =>
  Zqb (tk:=fun _=>loopEx) (sl:=fun _=>Zq8) (Zqx (fun n t c l _=>h _ _ _ _) Zqq) (fun _=>rfl) rfl (R3_v prog w b L fr ft tk p ln tok n t) fun f q hq=>by
    nomatch hq
noncomputable def orc_R4:List Nat:=Zxh 16 176 0x44405000505005000056000006000040550005000005640550005000005600004055000500000560000666021210230000300000003000000034055000500000560000040550005000005111000000000000000400000450
theorem R4_v (prog:Program) (w:World) (b:Bool) (L:Lx) (fr:Addr) (ft tk:Nat→Nat) (p:Nat) (ln:Int)  (n t:Nat) (f:Nat→Ext) :
    Zq6 [0,1,3,4,5] (Zq7 (hz (wb w b)) (Zqf (wb w b)) L fr ft tk ⟨p,some (S [32]),S [],false,ln,none⟩ ⟨p,none,S [],false,ln,some (S [])⟩ n t) loopEx Zq8
      []
      (Zzs T2 prog (wb w b) n t [] [Zx3 (hz (wb w b)) L p (p) (S [])] (Zq7 (hz (wb w b)) (Zqf (wb w b)) L fr ft tk ⟨p,some (S [32]),S [],false,ln,none⟩ ⟨p,none,S [],false,ln,some (S [])⟩ n t) orc_R4 f):=by cases b <;> kernel_rfl
theorem R4_ok {prog:Program} {w:World} {b:Bool} {L:Lx} {p:Nat} {ln:Int}  (h:Zjz prog w b L p (p) (S [])) :
    Zzv prog w b L ⟨p,some (S [32]),S [],false,ln,none⟩ ⟨p,none,S [],false,ln,some (S [])⟩:=fun fr ft tk n t =>
  Zqb (tk:=fun _=>loopEx) (sl:=fun _=>Zq8) (Zqx (fun n t c l _=>h _ _ _ _) Zqq) (fun _=>rfl) rfl (R4_v prog w b L fr ft tk p ln  n t) fun f q hq=>by
    nomatch hq
noncomputable def orc_R5:List Nat:=Zxh 16 266 0x55506000606006000067000007110101140550005000005600004055000500000564055000500000560000405500050000056405500050000056000040550005000005640550005000005600004055000500000560000666021210230000300000003000000034055000500000560000040550005000005111000000000000000400000450
theorem R5_v (prog:Program) (w:World) (b:Bool) (L:Lx) (fr:Addr) (ft tk:Nat→Nat) (p:Nat) (ln:Int) (tok x:Str) (q:Bool) (n t:Nat) (f:Nat→Ext) :
    Zq6 [1,2,4,5,6] (Zq7 (hz (wb w b)) (Zqf (wb w b)) L fr ft tk ⟨p,some (S [97]),tok,q,ln,some x⟩ ⟨p,none,tok,q,ln,some (S [])⟩ n t) loopEx Zq8
      [([S [97],S [99]].any (· == S [97])) = true]
      (Zzs T2 prog (wb w b) n t [] [Zx3 (hz (wb w b)) L p (p) (S [])] (Zq7 (hz (wb w b)) (Zqf (wb w b)) L fr ft tk ⟨p,some (S [97]),tok,q,ln,some x⟩ ⟨p,none,tok,q,ln,some (S [])⟩ n t) orc_R5 f):=by cases b <;> kernel_rfl
theorem R5_ok {prog:Program} {w:World} {b:Bool} {L:Lx} {p:Nat} {ln:Int} (tok x:Str) (q:Bool) (h:Zjz prog w b L p (p) (S [])) (o0:([S [97],S [99]].any (· == S [97])) = true) :
    Zzv prog w b L ⟨p,some (S [97]),tok,q,ln,some x⟩ ⟨p,none,tok,q,ln,some (S [])⟩:=fun fr ft tk n t =>
  Zqb (tk:=fun _=>loopEx) (sl:=fun _=>Zq8) (Zqx (fun n t c l _=>h _ _ _ _) Zqq) (fun _=>rfl) rfl (R5_v prog w b L fr ft tk p ln tok x q n t) fun f q hq=>by
    simp only [List.mem_cons,List.not_mem_nil,or_false] at hq
    rcases hq with rfl
    · exact o0
noncomputable def orc_R6t:List Nat:=Zxh 16 322 0x1050660006000006755506000606006000067000050660006000006700005066000600000677000007110101140550005000005600004055000500000564055000500000560000405500050000056405500050000056000040550005000005640550005000005600004055000500000560000666021210230000300000003000000034055000500000560000040550005000005111000000000000000400000450
theorem R6t_v (prog:Program) (w:World) (b:Bool) (L:Lx) (fr:Addr) (ft tk:Nat→Nat) (p:Nat) (ln:Int) (d:Nat) (l:List Nat) (x:Str) (q:Bool) (n t:Nat) (f:Nat→Ext) :
    Zq6 [1,2,4,5,6] (Zq7 (hz (wb w b)) (Zqf (wb w b)) L fr ft tk ⟨p,some (S [97]),S (d::l),q,ln,some x⟩ ⟨p + 1,some (S [32]),S (d::l),q,ln,some (S [32])⟩ n t) loopEx Zq8
      [(S (d::l)).length < 2 ^ 63,([S [97],S [99]].any (· == S [97])) = true]
      (Zzs T2 prog (wb w b) n t [] [Zx3 (hz (wb w b)) L p (p + 1) (S [32])] (Zq7 (hz (wb w b)) (Zqf (wb w b)) L fr ft tk ⟨p,some (S [97]),S (d::l),q,ln,some x⟩ ⟨p + 1,some (S [32]),S (d::l),q,ln,some (S [32])⟩ n t) orc_R6t f):=by cases b <;> kernel_rfl
theorem R6t_ok {prog:Program} {w:World} {b:Bool} {L:Lx} {p:Nat} {ln:Int} (d:Nat) (l:List Nat) (x:Str) (q:Bool) (h:Zjz prog w b L p (p + 1) (S [32])) (o0:([S [97],S [99]].any (· == S [97])) = true) (o1:(S (d::l)).length < 2 ^ 63) :
    Zzv prog w b L ⟨p,some (S [97]),S (d::l),q,ln,some x⟩ ⟨p + 1,some (S [32]),S (d::l),q,ln,some (S [32])⟩:=fun fr ft tk n t =>
  Zqb (tk:=fun _=>loopEx) (sl:=fun _=>Zq8) (Zqx (fun n t c l _=>h _ _ _ _) Zqq) (fun _=>rfl) rfl (R6t_v prog w b L fr ft tk p ln d l x q n t) fun f q hq=>by
    simp only [List.mem_cons,List.not_mem_nil,or_false] at hq
    rcases hq with rfl | rfl
    · exact o1
    · exact o0
noncomputable def orc_R6q:List Nat:=Zxh 16 342 0x705066000600000670000050660006000006755506000606006000067000050660006000006700005066000600000677000007110101140550005000005600004055000500000564055000500000560000405500050000056405500050000056000040550005000005640550005000005600004055000500000560000666021210230000300000003000000034055000500000560000040550005000005111000000000000000400000450
theorem R6q_v (prog:Program) (w:World) (b:Bool) (L:Lx) (fr:Addr) (ft tk:Nat→Nat) (p:Nat) (ln:Int) (x:Str) (n t:Nat) (f:Nat→Ext) :
    Zq6 [1,2,4,5,6] (Zq7 (hz (wb w b)) (Zqf (wb w b)) L fr ft tk ⟨p,some (S [97]),S [],true,ln,some x⟩ ⟨p + 1,some (S [32]),S [],true,ln,some (S [32])⟩ n t) loopEx Zq8
      [([S [97],S [99]].any (· == S [97])) = true]
      (Zzs T2 prog (wb w b) n t [] [Zx3 (hz (wb w b)) L p (p + 1) (S [32])] (Zq7 (hz (wb w b)) (Zqf (wb w b)) L fr ft tk ⟨p,some (S [97]),S [],true,ln,some x⟩ ⟨p + 1,some (S [32]),S [],true,ln,some (S [32])⟩ n t) orc_R6q f):=by cases b <;> kernel_rfl
theorem R6q_ok {prog:Program} {w:World} {b:Bool} {L:Lx} {p:Nat} {ln:Int} (x:Str) (h:Zjz prog w b L p (p + 1) (S [32])) (o0:([S [97],S [99]].any (· == S [97])) = true) :
    Zzv prog w b L ⟨p,some (S [97]),S [],true,ln,some x⟩ ⟨p + 1,some (S [32]),S [],true,ln,some (S [32])⟩:=fun fr ft tk n t =>
  Zqb (tk:=fun _=>loopEx) (sl:=fun _=>Zq8) (Zqx (fun n t c l _=>h _ _ _ _) Zqq) (fun _=>rfl) rfl (R6q_v prog w b L fr ft tk p ln x n t) fun f q hq=>by
    simp only [List.mem_cons,List.not_mem_nil,or_false] at hq
    rcases hq with rfl
    · exact o0
noncomputable def orc_R7:List Nat:=Zxh 16 369 0x65421525550600060600600006770000506600060000067705066000600000670000506600060000067400506600060000067700005066000600000677000007110101140550005000005600004055000500000564055000500000560000405500050000056405500050000056000040550005000005640550005000005600004055000500000560000666021210230000300000003000000034055000500000560000040550005000005111000000000000000400000450
theorem R7_v (prog:Program) (w:World) (b:Bool) (L:Lx) (fr:Addr) (ft tk:Nat→Nat) (p:Nat) (ln:Int) (tok x:Str) (q:Bool) (s':Ls) (n t:Nat) (f:Nat→Ext) :
    Zq6 [0,1,2,3,4] (Zq7 (hz (wb w b)) (Zqf (wb w b)) L fr ft tk ⟨p,some (S [97]),tok,q,ln,some x⟩ s' n t) (Zxt 1 f) Zq8
      [Zjx L.cm (S [39]) = false,([S [97],S [99]].any (· == S [97])) = true]
      (Zzs T2 prog (wb w b) n t [] [Zx3 (hz (wb w b)) L p (p + 1) (S [39]),Zkv (hz (wb w b)) (Zqf (wb w b)) L fr ⟨p + 1,some (S [39]),tok,q,ln,some (S [39])⟩ s'] (Zq7 (hz (wb w b)) (Zqf (wb w b)) L fr ft tk ⟨p,some (S [97]),tok,q,ln,some x⟩ s' n t) orc_R7 f):=by cases b <;> kernel_rfl
theorem R7_ok {prog:Program} {w:World} {b:Bool} {L:Lx} {p:Nat} {ln:Int} (tok x:Str) (q:Bool) (s':Ls) (h:Zjz prog w b L p (p + 1) (S [39])) (ih:Zzv prog w b L ⟨p + 1,some (S [39]),tok,q,ln,some (S [39])⟩ s') (o0:([S [97],S [99]].any (· == S [97])) = true) (o1:Zjx L.cm (S [39]) = false) :
    Zzv prog w b L ⟨p,some (S [97]),tok,q,ln,some x⟩ s':=fun fr ft tk n t =>
  Zqb (tk:=Zxt 1) (sl:=fun _=>Zq8) (Zqx (fun n t c l _=>h _ _ _ _) (Zqx (fun n t c l _=>ih _ _ _ _ _) Zqq)) (fun _=>rfl) rfl (R7_v prog w b L fr ft tk p ln tok x q s' n t) fun f q hq=>by
    simp only [List.mem_cons,List.not_mem_nil,or_false] at hq
    rcases hq with rfl | rfl
    · exact o1
    · exact o0
noncomputable def orc_R8:List Nat:=Zxh 16 369 0x65421525550600060600600006770000506600060000067705066000600000670000506600060000067400506600060000067700005066000600000677000007110101140550005000005600004055000500000564055000500000560000405500050000056405500050000056000040550005000005640550005000005600004055000500000560000666021210230000300000003000000034055000500000560000040550005000005111000000000000000400000450
theorem R8_v (prog:Program) (w:World) (b:Bool) (L:Lx) (fr:Addr) (ft tk:Nat→Nat) (p:Nat) (ln:Int) (tok x:Str) (q:Bool) (s':Ls) (n t:Nat) (f:Nat→Ext) :
    Zq6 [0,1,2,3,4] (Zq7 (hz (wb w b)) (Zqf (wb w b)) L fr ft tk ⟨p,some (S [97]),tok,q,ln,some x⟩ s' n t) (Zxt 1 f) Zq8
      [Zjx L.cm (S [34]) = false,([S [97],S [99]].any (· == S [97])) = true]
      (Zzs T2 prog (wb w b) n t [] [Zx3 (hz (wb w b)) L p (p + 1) (S [34]),Zkv (hz (wb w b)) (Zqf (wb w b)) L fr ⟨p + 1,some (S [34]),tok,q,ln,some (S [34])⟩ s'] (Zq7 (hz (wb w b)) (Zqf (wb w b)) L fr ft tk ⟨p,some (S [97]),tok,q,ln,some x⟩ s' n t) orc_R8 f):=by cases b <;> kernel_rfl
theorem R8_ok {prog:Program} {w:World} {b:Bool} {L:Lx} {p:Nat} {ln:Int} (tok x:Str) (q:Bool) (s':Ls) (h:Zjz prog w b L p (p + 1) (S [34])) (ih:Zzv prog w b L ⟨p + 1,some (S [34]),tok,q,ln,some (S [34])⟩ s') (o0:([S [97],S [99]].any (· == S [97])) = true) (o1:Zjx L.cm (S [34]) = false) :
    Zzv prog w b L ⟨p,some (S [97]),tok,q,ln,some x⟩ s':=fun fr ft tk n t =>
  Zqb (tk:=Zxt 1) (sl:=fun _=>Zq8) (Zqx (fun n t c l _=>h _ _ _ _) (Zqx (fun n t c l _=>ih _ _ _ _ _) Zqq)) (fun _=>rfl) rfl (R8_v prog w b L fr ft tk p ln tok x q s' n t) fun f q hq=>by
    simp only [List.mem_cons,List.not_mem_nil,or_false] at hq
    rcases hq with rfl | rfl
    · exact o1
    · exact o0
noncomputable def orc_R9w:List Nat:=Zxh 16 437 0x6542152555060006060060000650075066000600000673005066000600000677400506600060000067705066000600000674005066000600000677050660006000006700005066000600000674005066000600000677400506600060000067700000711010114055000500000560000405500050000056405500050000056000040550005000005640550005000005600004055000500000564055000500000560000405500050000056200666021210230000300000003000000034055000500000560000040550005000005111000000000000000400000450
theorem R9w_v (prog:Program) (w:World) (b:Bool) (L:Lx) (fr:Addr) (ft tk:Nat→Nat) (p:Nat) (ln:Int) (c:Nat) (tok tok2 x:Str) (q:Bool) (s':Ls) (n t:Nat) (f:Nat→Ext) :
    Zq6 [0,1,2,3,4] (Zq7 (hz (wb w b)) (Zqf (wb w b)) L fr ft tk ⟨p,some (S [97]),tok,q,ln,some x⟩ s' n t) (Zxt 2 f) Zq8
      [Zjt tok (S [c]) tok2,Zjx Zx9 (S [c]) = true,Zjx "\\" (S [c]) = false,Zjx "'\"" (S [c]) = false,Zjx L.cm (S [c]) = false,Zjx (" \t\r\n" : Str) (S [c]) = false,([S [97],S [99]].any (· == S [97])) = true,sameT (S [c]) "\n" = false]
      (Zzs T2 prog (wb w b) n t [tok2] [Zx3 (hz (wb w b)) L p (p + 1) (S [c]),Zkv (hz (wb w b)) (Zqf (wb w b)) L fr ⟨p + 1,some (S [97]),tok2,q,ln,some (S [c])⟩ s'] (Zq7 (hz (wb w b)) (Zqf (wb w b)) L fr ft tk ⟨p,some (S [97]),tok,q,ln,some x⟩ s' n t) orc_R9w f):=by cases b <;> kernel_rfl
theorem R9w_ok {prog:Program} {w:World} {b:Bool} {L:Lx} {p:Nat} {ln:Int} (c:Nat) (tok tok2 x:Str) (q:Bool) (s':Ls) (h:Zjz prog w b L p (p + 1) (S [c])) (ih:Zzv prog w b L ⟨p + 1,some (S [97]),tok2,q,ln,some (S [c])⟩ s') (o0:sameT (S [c]) "\n" = false) (o1:([S [97],S [99]].any (· == S [97])) = true) (o2:Zjx (" \t\r\n" : Str) (S [c]) = false) (o3:Zjx L.cm (S [c]) = false) (o4:Zjx "'\"" (S [c]) = false) (o5:Zjx "\\" (S [c]) = false) (o6:Zjx Zx9 (S [c]) = true) (o7:Zjt tok (S [c]) tok2) :
    Zzv prog w b L ⟨p,some (S [97]),tok,q,ln,some x⟩ s':=fun fr ft tk n t =>
  Zqb (tk:=Zxt 2) (sl:=fun _=>Zq8) (Zqx (fun n t c l _=>h _ _ _ _) (Zqx (fun n t c l _=>ih _ _ _ _ _) Zqq)) (fun _=>rfl) rfl (R9w_v prog w b L fr ft tk p ln c tok tok2 x q s' n t) fun f q hq=>by
    simp only [List.mem_cons,List.not_mem_nil,or_false] at hq
    rcases hq with rfl | rfl | rfl | rfl | rfl | rfl | rfl | rfl
    · exact o7
    · exact o6
    · exact o5
    · exact o4
    · exact o3
    · exact o2
    · exact o1
    · exact o0
noncomputable def orc_R9n:List Nat:=Zxh 16 516 0x76532526660700070700700007500860770007000007840060770007000007111000000000000000600000677050660006000006740050660006000006774005066000600000677400506600060000067705066000600000674005066000600000677050660006000006700005066000600000674005066000600000677400506600060000067700000711010114055000500000560000405500050000056405500050000056000040550005000005640550005000005600004055000500000564055000500000560000405500050000056200666021210230000300000003000000034055000500000560000040550005000005111000000000000000400000450
theorem R9n_v (prog:Program) (w:World) (b:Bool) (L:Lx) (fr:Addr) (ft tk:Nat→Nat) (p:Nat) (ln:Int) (c:Nat) (tok tok2 x:Str) (q:Bool) (s':Ls) (n t:Nat) (f:Nat→Ext) :
    Zq6 [0,1,2,3,4] (Zq7 (hz (wb w b)) (Zqf (wb w b)) L fr ft tk ⟨p,some (S [97]),tok,q,ln,some x⟩ s' n t) (Zxt 2 f) Zq8
      [Zjt tok (S [c]) tok2,Zjx "" (S [c]) = false,Zjx "'\"" (S [c]) = false,Zjx Zx9 (S [c]) = false,Zjx "\\" (S [c]) = false,Zjx "'\"" (S [c]) = false,Zjx L.cm (S [c]) = false,Zjx (" \t\r\n" : Str) (S [c]) = false,([S [97],S [99]].any (· == S [97])) = true,sameT (S [c]) "\n" = false]
      (Zzs T2 prog (wb w b) n t [tok2] [Zx3 (hz (wb w b)) L p (p + 1) (S [c]),Zkv (hz (wb w b)) (Zqf (wb w b)) L fr ⟨p + 1,some (S [97]),tok2,q,ln,some (S [c])⟩ s'] (Zq7 (hz (wb w b)) (Zqf (wb w b)) L fr ft tk ⟨p,some (S [97]),tok,q,ln,some x⟩ s' n t) orc_R9n f):=by cases b <;> kernel_rfl
theorem R9n_ok {prog:Program} {w:World} {b:Bool} {L:Lx} {p:Nat} {ln:Int} (c:Nat) (tok tok2 x:Str) (q:Bool) (s':Ls) (h:Zjz prog w b L p (p + 1) (S [c])) (ih:Zzv prog w b L ⟨p + 1,some (S [97]),tok2,q,ln,some (S [c])⟩ s') (o0:sameT (S [c]) "\n" = false) (o1:([S [97],S [99]].any (· == S [97])) = true) (o2:Zjx (" \t\r\n" : Str) (S [c]) = false) (o3:Zjx L.cm (S [c]) = false) (o4:Zjx "'\"" (S [c]) = false) (o5:Zjx "\\" (S [c]) = false) (o6:Zjx Zx9 (S [c]) = false) (o7:Zjx "'\"" (S [c]) = false) (o8:Zjx "" (S [c]) = false) (o9:Zjt tok (S [c]) tok2) :
    Zzv prog w b L ⟨p,some (S [97]),tok,q,ln,some x⟩ s':=fun fr ft tk n t =>
  Zqb (tk:=Zxt 2) (sl:=fun _=>Zq8) (Zqx (fun n t c l _=>h _ _ _ _) (Zqx (fun n t c l _=>ih _ _ _ _ _) Zqq)) (fun _=>rfl) rfl (R9n_v prog w b L fr ft tk p ln c tok tok2 x q s' n t) fun f q hq=>by
    simp only [List.mem_cons,List.not_mem_nil,or_false] at hq
    rcases hq with rfl | rfl | rfl | rfl | rfl | rfl | rfl | rfl | rfl | rfl
    · exact o9
    · exact o8
    · exact o7
    · exact o6
    · exact o5
    · exact o4
    · exact o3
    · exact o2
    · exact o1
    · exact o0
noncomputable def orc_R10:List Nat:=Zxh 16 256 0x543105244405000505005000056040550005000005600004055000500000566000006660000405500050000056405500050000056000040550005000005640550005000005600004055000500000560000666021210230000300000003000000034055000500000560000040550005000005111000000000000000400000450
theorem R10_v (prog:Program) (w:World) (b:Bool) (L:Lx) (fr:Addr) (ft tk:Nat→Nat) (p:Nat) (ln:Int) (tok x:Str) (q:Bool) (s':Ls) (n t:Nat) (f:Nat→Ext) :
    Zq6 [0,1,2,3,4] (Zq7 (hz (wb w b)) (Zqf (wb w b)) L fr ft tk ⟨p,some (S [39]),tok,q,ln,some x⟩ s' n t) (Zxt 1 f) Zq8
      []
      (Zzs T2 prog (wb w b) n t [] [Zx3 (hz (wb w b)) L p (p + 1) (S [39]),Zkv (hz (wb w b)) (Zqf (wb w b)) L fr ⟨p + 1,some (S [97]),tok,true,ln,some (S [39])⟩ s'] (Zq7 (hz (wb w b)) (Zqf (wb w b)) L fr ft tk ⟨p,some (S [39]),tok,q,ln,some x⟩ s' n t) orc_R10 f):=by cases b <;> kernel_rfl
theorem R10_ok {prog:Program} {w:World} {b:Bool} {L:Lx} {p:Nat} {ln:Int} (tok x:Str) (q:Bool) (s':Ls) (h:Zjz prog w b L p (p + 1) (S [39])) (ih:Zzv prog w b L ⟨p + 1,some (S [97]),tok,true,ln,some (S [39])⟩ s') :
    Zzv prog w b L ⟨p,some (S [39]),tok,q,ln,some x⟩ s':=fun fr ft tk n t =>
  Zqb (tk:=Zxt 1) (sl:=fun _=>Zq8) (Zqx (fun n t c l _=>h _ _ _ _) (Zqx (fun n t c l _=>ih _ _ _ _ _) Zqq)) (fun _=>rfl) rfl (R10_v prog w b L fr ft tk p ln tok x q s' n t) fun f q hq=>by
    nomatch hq
noncomputable def orc_R11o:List Nat:=Zxh 16 291 0x54310524440500050500500005500640550005000005640040550005000005660405500050000056200405500050000056600000666000040550005000005640550005000005600004055000500000564055000500000560000405500050000056200666021210230000300000003000000034055000500000560000040550005000005111000000000000000400000450
theorem R11o_v (prog:Program) (w:World) (b:Bool) (L:Lx) (fr:Addr) (ft tk:Nat→Nat) (p:Nat) (ln:Int) (c:Nat) (tok tok2 x:Str) (q:Bool) (s':Ls) (n t:Nat) (f:Nat→Ext) :
    Zq6 [0,1,2,3,4] (Zq7 (hz (wb w b)) (Zqf (wb w b)) L fr ft tk ⟨p,some (S [39]),tok,q,ln,some x⟩ s' n t) (Zxt 2 f) Zq8
      [Zjt tok (S [c]) tok2,Zjx "\\" (S [c]) = false,sameT (S [c]) (S [39]) = false,sameT (S [c]) "\n" = false]
      (Zzs T2 prog (wb w b) n t [tok2] [Zx3 (hz (wb w b)) L p (p + 1) (S [c]),Zkv (hz (wb w b)) (Zqf (wb w b)) L fr ⟨p + 1,some (S [39]),tok2,true,ln,some (S [c])⟩ s'] (Zq7 (hz (wb w b)) (Zqf (wb w b)) L fr ft tk ⟨p,some (S [39]),tok,q,ln,some x⟩ s' n t) orc_R11o f):=by cases b <;> kernel_rfl
theorem R11o_ok {prog:Program} {w:World} {b:Bool} {L:Lx} {p:Nat} {ln:Int} (c:Nat) (tok tok2 x:Str) (q:Bool) (s':Ls) (h:Zjz prog w b L p (p + 1) (S [c])) (ih:Zzv prog w b L ⟨p + 1,some (S [39]),tok2,true,ln,some (S [c])⟩ s') (o0:sameT (S [c]) "\n" = false) (o1:sameT (S [c]) (S [39]) = false) (o2:Zjx "\\" (S [c]) = false) (o3:Zjt tok (S [c]) tok2) :
    Zzv prog w b L ⟨p,some (S [39]),tok,q,ln,some x⟩ s':=fun fr ft tk n t =>
  Zqb (tk:=Zxt 2) (sl:=fun _=>Zq8) (Zqx (fun n t c l _=>h _ _ _ _) (Zqx (fun n t c l _=>ih _ _ _ _ _) Zqq)) (fun _=>rfl) rfl (R11o_v prog w b L fr ft tk p ln c tok tok2 x q s' n t) fun f q hq=>by
    simp only [List.mem_cons,List.not_mem_nil,or_false] at hq
    rcases hq with rfl | rfl | rfl | rfl
    · exact o3
    · exact o2
    · exact o1
    · exact o0
noncomputable def orc_R11b:List Nat:=Zxh 16 328 0x543105244405000505005000055006405500050000056000040550005000005640550005000005600004055000500000566040550005000005600004055000500000566000006660000405500050000056405500050000056000040550005000005640550005000005600004055000500000560000666021210230000300000003000000034055000500000560000040550005000005111000000000000000400000450
theorem R11b_v (prog:Program) (w:World) (b:Bool) (L:Lx) (fr:Addr) (ft tk:Nat→Nat) (p:Nat) (ln:Int) (tok tok2 x:Str) (q:Bool) (s':Ls) (n t:Nat) (f:Nat→Ext) :
    Zq6 [0,1,2,3,4] (Zq7 (hz (wb w b)) (Zqf (wb w b)) L fr ft tk ⟨p,some (S [39]),tok,q,ln,some x⟩ s' n t) (Zxt 2 f) Zq8
      [Zjt tok (S [92]) tok2]
      (Zzs T2 prog (wb w b) n t [tok2] [Zx3 (hz (wb w b)) L p (p + 1) (S [92]),Zkv (hz (wb w b)) (Zqf (wb w b)) L fr ⟨p + 1,some (S [39]),tok2,true,ln,some (S [92])⟩ s'] (Zq7 (hz (wb w b)) (Zqf (wb w b)) L fr ft tk ⟨p,some (S [39]),tok,q,ln,some x⟩ s' n t) orc_R11b f):=by cases b <;> kernel_rfl
theorem R11b_ok {prog:Program} {w:World} {b:Bool} {L:Lx} {p:Nat} {ln:Int} (tok tok2 x:Str) (q:Bool) (s':Ls) (h:Zjz prog w b L p (p + 1) (S [92])) (ih:Zzv prog w b L ⟨p + 1,some (S [39]),tok2,true,ln,some (S [92])⟩ s') (o0:Zjt tok (S [92]) tok2) :
    Zzv prog w b L ⟨p,some (S [39]),tok,q,ln,some x⟩ s':=fun fr ft tk n t =>
  Zqb (tk:=Zxt 2) (sl:=fun _=>Zq8) (Zqx (fun n t c l _=>h _ _ _ _) (Zqx (fun n t c l _=>ih _ _ _ _ _) Zqq)) (fun _=>rfl) rfl (R11b_v prog w b L fr ft tk p ln tok tok2 x q s' n t) fun f q hq=>by
    simp only [List.mem_cons,List.not_mem_nil,or_false] at hq
    rcases hq with rfl
    · exact o0
noncomputable def orc_R11n:List Nat:=Zxh 16 331 0x543105244405000505005000055006405500050000056000040550005000005660405500050000056000040550005000005660000066600004055000500000564055000500000560000405500050000056405500050000056000040550005000005644405000505005000050004055000500000560000666021210230000300000003000000034055000500000560000040550005000005111000000000000000400000450
theorem R11n_v (prog:Program) (w:World) (b:Bool) (L:Lx) (fr:Addr) (ft tk:Nat→Nat) (p:Nat) (ln:Int) (tok tok2 x:Str) (q:Bool) (s':Ls) (n t:Nat) (f:Nat→Ext) :
    Zq6 [0,1,2,3,4] (Zq7 (hz (wb w b)) (Zqf (wb w b)) L fr ft tk ⟨p,some (S [39]),tok,q,ln,some x⟩ s' n t) (Zxt 2 f) Zq8
      [Zjt tok (S [10]) tok2]
      (Zzs T2 prog (wb w b) n t [tok2] [Zx3 (hz (wb w b)) L p (p + 1) (S [10]),Zkv (hz (wb w b)) (Zqf (wb w b)) L fr ⟨p + 1,some (S [39]),tok2,true,ln + 1,some (S [10])⟩ s'] (Zq7 (hz (wb w b)) (Zqf (wb w b)) L fr ft tk ⟨p,some (S [39]),tok,q,ln,some x⟩ s' n t) orc_R11n f):=by cases b <;> kernel_rfl
theorem R11n_ok {prog:Program} {w:World} {b:Bool} {L:Lx} {p:Nat} {ln:Int} (tok tok2 x:Str) (q:Bool) (s':Ls) (h:Zjz prog w b L p (p + 1) (S [10])) (ih:Zzv prog w b L ⟨p + 1,some (S [39]),tok2,true,ln + 1,some (S [10])⟩ s') (o0:Zjt tok (S [10]) tok2) :
    Zzv prog w b L ⟨p,some (S [39]),tok,q,ln,some x⟩ s':=fun fr ft tk n t =>
  Zqb (tk:=Zxt 2) (sl:=fun _=>Zq8) (Zqx (fun n t c l _=>h _ _ _ _) (Zqx (fun n t c l _=>ih _ _ _ _ _) Zqq)) (fun _=>rfl) rfl (R11n_v prog w b L fr ft tk p ln tok tok2 x q s' n t) fun f q hq=>by
    simp only [List.mem_cons,List.not_mem_nil,or_false] at hq
    rcases hq with rfl
    · exact o0
noncomputable def orc_R12:List Nat:=Zxh 16 294 0x54310524440500050500500005500640550005000005600004055000500000566040550005000005600004055000500000566000006660000405500050000056405500050000056000040550005000005640550005000005600004055000500000560000666021210230000300000003000000034055000500000560000040550005000005111000000000000000400000450
theorem R12_v (prog:Program) (w:World) (b:Bool) (L:Lx) (fr:Addr) (ft tk:Nat→Nat) (p:Nat) (ln:Int) (tok tok2 x:Str) (q:Bool) (s':Ls) (n t:Nat) (f:Nat→Ext) :
    Zq6 [0,1,2,3,4] (Zq7 (hz (wb w b)) (Zqf (wb w b)) L fr ft tk ⟨p,some (S [34]),tok,q,ln,some x⟩ s' n t) (Zxt 2 f) Zq8
      [Zjt tok (S [39]) tok2]
      (Zzs T2 prog (wb w b) n t [tok2] [Zx3 (hz (wb w b)) L p (p + 1) (S [39]),Zkv (hz (wb w b)) (Zqf (wb w b)) L fr ⟨p + 1,some (S [34]),tok2,true,ln,some (S [39])⟩ s'] (Zq7 (hz (wb w b)) (Zqf (wb w b)) L fr ft tk ⟨p,some (S [34]),tok,q,ln,some x⟩ s' n t) orc_R12 f):=by cases b <;> kernel_rfl
theorem R12_ok {prog:Program} {w:World} {b:Bool} {L:Lx} {p:Nat} {ln:Int} (tok tok2 x:Str) (q:Bool) (s':Ls) (h:Zjz prog w b L p (p + 1) (S [39])) (ih:Zzv prog w b L ⟨p + 1,some (S [34]),tok2,true,ln,some (S [39])⟩ s') (o0:Zjt tok (S [39]) tok2) :
    Zzv prog w b L ⟨p,some (S [34]),tok,q,ln,some x⟩ s':=fun fr ft tk n t =>
  Zqb (tk:=Zxt 2) (sl:=fun _=>Zq8) (Zqx (fun n t c l _=>h _ _ _ _) (Zqx (fun n t c l _=>ih _ _ _ _ _) Zqq)) (fun _=>rfl) rfl (R12_v prog w b L fr ft tk p ln tok tok2 x q s' n t) fun f q hq=>by
    simp only [List.mem_cons,List.not_mem_nil,or_false] at hq
    rcases hq with rfl
    · exact o0
noncomputable def orc_R13:List Nat:=Zxh 16 256 0x543105244405000505005000056040550005000005600004055000500000566000006660000405500050000056405500050000056000040550005000005640550005000005600004055000500000560000666021210230000300000003000000034055000500000560000040550005000005111000000000000000400000450
theorem R13_v (prog:Program) (w:World) (b:Bool) (L:Lx) (fr:Addr) (ft tk:Nat→Nat) (p:Nat) (ln:Int) (tok x:Str) (q:Bool) (s':Ls) (n t:Nat) (f:Nat→Ext) :
    Zq6 [0,1,2,3,4] (Zq7 (hz (wb w b)) (Zqf (wb w b)) L fr ft tk ⟨p,some (S [34]),tok,q,ln,some x⟩ s' n t) (Zxt 1 f) Zq8
      []
      (Zzs T2 prog (wb w b) n t [] [Zx3 (hz (wb w b)) L p (p + 1) (S [34]),Zkv (hz (wb w b)) (Zqf (wb w b)) L fr ⟨p + 1,some (S [97]),tok,true,ln,some (S [34])⟩ s'] (Zq7 (hz (wb w b)) (Zqf (wb w b)) L fr ft tk ⟨p,some (S [34]),tok,q,ln,some x⟩ s' n t) orc_R13 f):=by cases b <;> kernel_rfl
theorem R13_ok {prog:Program} {w:World} {b:Bool} {L:Lx} {p:Nat} {ln:Int} (tok x:Str) (q:Bool) (s':Ls) (h:Zjz prog w b L p (p + 1) (S [34])) (ih:Zzv prog w b L ⟨p + 1,some (S [97]),tok,true,ln,some (S [34])⟩ s') :
    Zzv prog w b L ⟨p,some (S [34]),tok,q,ln,some x⟩ s':=fun fr ft tk n t =>
  Zqb (tk:=Zxt 1) (sl:=fun _=>Zq8) (Zqx (fun n t c l _=>h _ _ _ _) (Zqx (fun n t c l _=>ih _ _ _ _ _) Zqq)) (fun _=>rfl) rfl (R13_v prog w b L fr ft tk p ln tok x q s' n t) fun f q hq=>by
    nomatch hq
theorem Zv3 {prog:Program} {w:World} {b:Bool} {L:Lx} {s s':Ls} (h:Zzv prog w b L s s') (n t:Nat) (c:Code) (l:List (Option (Addr × Obj))) (bb:List (Option Bag)):Zq1 T2 prog (wb w b) n t (loopFamC (hz (wb w b)) (Zqf (wb w b)) L s s' n t c l bb):=h _ _ _ _ _
noncomputable abbrev RtOk (prog:Program) (w:World) (b:Bool) (L:Lx) (s s':Lt) (r:Option Str):Prop:=∀ tk n t,Zq1 T2 prog (wb w b) n t (rtCon (hz (wb w b)) L tk s s' r n t)
noncomputable def orc_RTq:List Nat:=Zxh 16 91 0x5000030440004000004550304400040000045333040004040040000455530440004000004500432151111111000
theorem RTq_v (prog:Program) (w:World) (b:Bool) (L:Lx) (tk:Nat→Nat) (p p':Nat) (ln ln':Int) (z W x:Str) (st:Option Str) (n t:Nat) (f:Nat→Ext) :
    Zq6 [0,1,2,3] (rtCon (hz (wb w b)) L tk ⟨p,some z,ln⟩ ⟨p',st,ln'⟩ (some W) n t) (rtEx 0 f) Zq8
      []
      (Zzs T2 prog (wb w b) n t [] [loopFamC (hz (wb w b)) (Zqf (wb w b)) L ⟨p,some z,S [],false,ln,none⟩ ⟨p',st,W,true,ln',some x⟩] (rtCon (hz (wb w b)) L tk ⟨p,some z,ln⟩ ⟨p',st,ln'⟩ (some W) n t) orc_RTq f):=by cases b <;> kernel_rfl
theorem RTq_ok {prog:Program} {w:World} {b:Bool} {L:Lx} {p p':Nat} {ln ln':Int} (z W x:Str) (st:Option Str) (ih:Zzv prog w b L ⟨p,some z,S [],false,ln,none⟩ ⟨p',st,W,true,ln',some x⟩) :
    RtOk prog w b L ⟨p,some z,ln⟩ ⟨p',st,ln'⟩ (some W):=fun tk n t =>
  Zqb (tk:=rtEx 0) (sl:=fun _=>Zq8) (Zqx (Zv3 ih) Zqq) (fun _=>rfl) rfl (RTq_v prog w b L tk p p' ln ln' z W x st n t) fun f q hq=>by
    nomatch hq
noncomputable def orc_RTs:List Nat:=Zxh 16 95 0x50000304400040000045200550304400040000045333040004040040000455530440004000004500432151111111000
theorem RTs_v (prog:Program) (w:World) (b:Bool) (L:Lx) (tk:Nat→Nat) (p p':Nat) (ln ln':Int) (z W x:Str) (st:Option Str) (n t:Nat) (f:Nat→Ext) :
    Zq6 [0,1,2,3] (rtCon (hz (wb w b)) L tk ⟨p,some z,ln⟩ ⟨p',st,ln'⟩ (some W) n t) (rtEx 0 f) Zq8
      [sameT W "" = false]
      (Zzs T2 prog (wb w b) n t [] [loopFamC (hz (wb w b)) (Zqf (wb w b)) L ⟨p,some z,S [],false,ln,none⟩ ⟨p',st,W,false,ln',some x⟩] (rtCon (hz (wb w b)) L tk ⟨p,some z,ln⟩ ⟨p',st,ln'⟩ (some W) n t) orc_RTs f):=by cases b <;> kernel_rfl
theorem RTs_ok {prog:Program} {w:World} {b:Bool} {L:Lx} {p p':Nat} {ln ln':Int} (z W x:Str) (st:Option Str) (ih:Zzv prog w b L ⟨p,some z,S [],false,ln,none⟩ ⟨p',st,W,false,ln',some x⟩) (o0:sameT W "" = false) :
    RtOk prog w b L ⟨p,some z,ln⟩ ⟨p',st,ln'⟩ (some W):=fun tk n t =>
  Zqb (tk:=rtEx 0) (sl:=fun _=>Zq8) (Zqx (Zv3 ih) Zqq) (fun _=>rfl) rfl (RTs_v prog w b L tk p p' ln ln' z W x st n t) fun f q hq=>by
    simp only [List.mem_cons,List.not_mem_nil,or_false] at hq
    rcases hq with rfl
    · exact o0
noncomputable def orc_RTn:List Nat:=Zxh 16 98 0x50000304400040000045550000550304400040000045333040004040040000455530440004000004500432151111111000
theorem RTn_v (prog:Program) (w:World) (b:Bool) (L:Lx) (tk:Nat→Nat) (p p':Nat) (ln ln':Int) (z x:Str) (st:Option Str) (n t:Nat) (f:Nat→Ext) :
    Zq6 [0,1,2,3] (rtCon (hz (wb w b)) L tk ⟨p,some z,ln⟩ ⟨p',st,ln'⟩ none n t) (rtEx 0 f) Zq8
      []
      (Zzs T2 prog (wb w b) n t [] [loopFamC (hz (wb w b)) (Zqf (wb w b)) L ⟨p,some z,S [],false,ln,none⟩ ⟨p',st,S [],false,ln',some x⟩] (rtCon (hz (wb w b)) L tk ⟨p,some z,ln⟩ ⟨p',st,ln'⟩ none n t) orc_RTn f):=by cases b <;> kernel_rfl
theorem RTn_ok {prog:Program} {w:World} {b:Bool} {L:Lx} {p p':Nat} {ln ln':Int} (z x:Str) (st:Option Str) (ih:Zzv prog w b L ⟨p,some z,S [],false,ln,none⟩ ⟨p',st,S [],false,ln',some x⟩) :
    RtOk prog w b L ⟨p,some z,ln⟩ ⟨p',st,ln'⟩ none:=fun tk n t =>
  Zqb (tk:=rtEx 0) (sl:=fun _=>Zq8) (Zqx (Zv3 ih) Zqq) (fun _=>rfl) rfl (RTn_v prog w b L tk p p' ln ln' z x st n t) fun f q hq=>by
    nomatch hq
noncomputable def orc_RT0:List Nat:=Zxh 16 98 0x50000304400040000045550000550304400040000045333040004040040000455530440004000004500432151111111000
theorem RT0_v (prog:Program) (w:World) (b:Bool) (L:Lx) (tk:Nat→Nat) (p p':Nat) (ln ln':Int) (x:Str) (st:Option Str) (n t:Nat) (f:Nat→Ext) :
    Zq6 [0,1,2,3] (rtCon (hz (wb w b)) L tk ⟨p,none,ln⟩ ⟨p',st,ln'⟩ none n t) (rtEx 0 f) Zq8
      []
      (Zzs T2 prog (wb w b) n t [] [loopFamC (hz (wb w b)) (Zqf (wb w b)) L ⟨p,none,S [],false,ln,none⟩ ⟨p',st,S [],false,ln',some x⟩] (rtCon (hz (wb w b)) L tk ⟨p,none,ln⟩ ⟨p',st,ln'⟩ none n t) orc_RT0 f):=by cases b <;> kernel_rfl
theorem RT0_ok {prog:Program} {w:World} {b:Bool} {L:Lx} {p p':Nat} {ln ln':Int} (x:Str) (st:Option Str) (ih:Zzv prog w b L ⟨p,none,S [],false,ln,none⟩ ⟨p',st,S [],false,ln',some x⟩) :
    RtOk prog w b L ⟨p,none,ln⟩ ⟨p',st,ln'⟩ none:=fun tk n t =>
  Zqb (tk:=rtEx 0) (sl:=fun _=>Zq8) (Zqx (Zv3 ih) Zqq) (fun _=>rfl) rfl (RT0_v prog w b L tk p p' ln ln' x st n t) fun f q hq=>by
    nomatch hq
theorem rtFam_ok {prog:Program} {w:World} {b:Bool} {L:Lx} {s s':Lt} {r:Option Str} (h:RtOk prog w b L s s' r) (n t:Nat) (c:Code) (l:List (Option (Addr × Obj))) (bb:List (Option Bag)):Zq1 T2 prog (wb w b) n t (rtFam (hz (wb w b)) L s s' r n t c l bb):=h _ _ _
noncomputable def orc_GT:List Nat:=Zxh 16 110 0x50000304400040000045000030440004000004550304400040000045550432141045000050005000516060606640550005000005111000
noncomputable def orc_GE:List Nat:=Zxh 16 127 0x3044000400000457070707730440004000004500030440004000004550304400040000045550432141045000050005000516060606640550005000005111000
noncomputable def Zjf:List Nat:=Zxh 16 77 0x10000405500050000051116666606066664055000500000516060606640550005000005111000
noncomputable def Zjg:List Nat:=Zxh 16 55 0x6666600601666640550005000005100004055000500000511111000
theorem GT_v (prog:Program) (w:World) (b:Bool) (L:Lx) (tk:Nat→Nat) (p p':Nat) (ln ln':Int) (z:Str) (st':Option Str) (e:Int) (U:Str) (n t:Nat) (f:Nat→Ext) :
    Zq6 [0,1,2,3,5] (gtCon (hz (wb w b)) L tk ⟨p,some z,ln⟩ ⟨p',st',ln'⟩ e U n t) (gtEx 0 f) Zq8
      []
      (Zzs T2 prog (wb w b) n t [] [rtFam (hz (wb w b)) L ⟨p,some z,ln⟩ ⟨p',st',ln'⟩ (some U)] (gtCon (hz (wb w b)) L tk ⟨p,some z,ln⟩ ⟨p',st',ln'⟩ e U n t) orc_GT f):=by cases b <;> kernel_rfl
theorem GE_v (prog:Program) (w:World) (b:Bool) (L:Lx) (tk:Nat→Nat) (p p':Nat) (ln ln':Int) (z:Str) (st':Option Str) (e e':Int) (n t:Nat) (f:Nat→Ext) :
    Zq6 [0,1,2,3,5,6] (gtConE (hz (wb w b)) L tk ⟨p,some z,ln⟩ ⟨p',st',ln'⟩ e e' n t) (gtEx 0 f) Zq8
      []
      (Zzs T2 prog (wb w b) n t [] [rtFam (hz (wb w b)) L ⟨p,some z,ln⟩ ⟨p',st',ln'⟩ none] (gtConE (hz (wb w b)) L tk ⟨p,some z,ln⟩ ⟨p',st',ln'⟩ e e' n t) orc_GE f):=by cases b <;> kernel_rfl
theorem GE0_v (prog:Program) (w:World) (b:Bool) (L:Lx) (tk:Nat→Nat) (p p':Nat) (ln ln':Int) (st':Option Str) (e e':Int) (n t:Nat) (f:Nat→Ext) :
    Zq6 [0,1,2,3,5,6] (gtConE (hz (wb w b)) L tk ⟨p,none,ln⟩ ⟨p',st',ln'⟩ e e' n t) (gtEx 0 f) Zq8
      []
      (Zzs T2 prog (wb w b) n t [] [rtFam (hz (wb w b)) L ⟨p,none,ln⟩ ⟨p',st',ln'⟩ none] (gtConE (hz (wb w b)) L tk ⟨p,none,ln⟩ ⟨p',st',ln'⟩ e e' n t) orc_GE f):=by cases b <;> kernel_rfl
theorem GP0_v (prog:Program) (w:World) (b:Bool) (L:Lx) (tk:Nat→Nat) (p p':Nat) (ln ln':Int) (st:Option Str) (e:Int) (v:Str) (tv:Nat)  (n t:Nat) (f:Nat→Ext) :
    Zq6 [1,2,3,4,5] (Zzw (hz (wb w b)) L tk ⟨p,st,ln⟩ e (e + 1) v tv [] n t) (fun _ _ _=>0) Zq8
      []
      (Zzs T2 prog (wb w b) n t [] [] (Zzw (hz (wb w b)) L tk ⟨p,st,ln⟩ e (e + 1) v tv [] n t) Zjf f):=by cases b <;> kernel_rfl
theorem PT0_v (prog:Program) (w:World) (b:Bool) (L:Lx) (tk:Nat→Nat) (p p':Nat) (ln ln':Int) (st:Option Str) (e:Int) (v:Str) (tv:Nat)  (n t:Nat) (f:Nat→Ext) :
    Zq6 [1,2,3,4,5] (Zz9 (hz (wb w b)) L tk ⟨p,st,ln⟩ e (e + 1) v tv [] n t) (fun _ _ _=>0) Zq8
      []
      (Zzs T2 prog (wb w b) n t [] [] (Zz9 (hz (wb w b)) L tk ⟨p,st,ln⟩ e (e + 1) v tv [] n t) Zjg f):=by cases b <;> kernel_rfl
theorem GP1_v (prog:Program) (w:World) (b:Bool) (L:Lx) (tk:Nat→Nat) (p p':Nat) (ln ln':Int) (st:Option Str) (e:Int) (v:Str) (tv:Nat) (y0:Str × Nat) (n t:Nat) (f:Nat→Ext) :
    Zq6 [1,2,3,4,5] (Zzw (hz (wb w b)) L tk ⟨p,st,ln⟩ e (e + 1) v tv [y0] n t) (fun _ _ _=>0) Zq8
      []
      (Zzs T2 prog (wb w b) n t [] [] (Zzw (hz (wb w b)) L tk ⟨p,st,ln⟩ e (e + 1) v tv [y0] n t) Zjf f):=by cases b <;> kernel_rfl
theorem PT1_v (prog:Program) (w:World) (b:Bool) (L:Lx) (tk:Nat→Nat) (p p':Nat) (ln ln':Int) (st:Option Str) (e:Int) (v:Str) (tv:Nat) (y0:Str × Nat) (n t:Nat) (f:Nat→Ext) :
    Zq6 [1,2,3,4,5] (Zz9 (hz (wb w b)) L tk ⟨p,st,ln⟩ e (e + 1) v tv [y0] n t) (fun _ _ _=>0) Zq8
      []
      (Zzs T2 prog (wb w b) n t [] [] (Zz9 (hz (wb w b)) L tk ⟨p,st,ln⟩ e (e + 1) v tv [y0] n t) Zjg f):=by cases b <;> kernel_rfl
theorem GP2_v (prog:Program) (w:World) (b:Bool) (L:Lx) (tk:Nat→Nat) (p p':Nat) (ln ln':Int) (st:Option Str) (e:Int) (v:Str) (tv:Nat) (y0 y1:Str × Nat) (n t:Nat) (f:Nat→Ext) :
    Zq6 [1,2,3,4,5] (Zzw (hz (wb w b)) L tk ⟨p,st,ln⟩ e (e + 1) v tv [y0,y1] n t) (fun _ _ _=>0) Zq8
      []
      (Zzs T2 prog (wb w b) n t [] [] (Zzw (hz (wb w b)) L tk ⟨p,st,ln⟩ e (e + 1) v tv [y0,y1] n t) Zjf f):=by cases b <;> kernel_rfl
theorem PT2_v (prog:Program) (w:World) (b:Bool) (L:Lx) (tk:Nat→Nat) (p p':Nat) (ln ln':Int) (st:Option Str) (e:Int) (v:Str) (tv:Nat) (y0 y1:Str × Nat) (n t:Nat) (f:Nat→Ext) :
    Zq6 [1,2,3,4,5] (Zz9 (hz (wb w b)) L tk ⟨p,st,ln⟩ e (e + 1) v tv [y0,y1] n t) (fun _ _ _=>0) Zq8
      []
      (Zzs T2 prog (wb w b) n t [] [] (Zz9 (hz (wb w b)) L tk ⟨p,st,ln⟩ e (e + 1) v tv [y0,y1] n t) Zjg f):=by cases b <;> kernel_rfl
theorem GP3_v (prog:Program) (w:World) (b:Bool) (L:Lx) (tk:Nat→Nat) (p p':Nat) (ln ln':Int) (st:Option Str) (e:Int) (v:Str) (tv:Nat) (y0 y1 y2:Str × Nat) (n t:Nat) (f:Nat→Ext) :
    Zq6 [1,2,3,4,5] (Zzw (hz (wb w b)) L tk ⟨p,st,ln⟩ e (e + 1) v tv [y0,y1,y2] n t) (fun _ _ _=>0) Zq8
      []
      (Zzs T2 prog (wb w b) n t [] [] (Zzw (hz (wb w b)) L tk ⟨p,st,ln⟩ e (e + 1) v tv [y0,y1,y2] n t) Zjf f):=by cases b <;> kernel_rfl
theorem PT3_v (prog:Program) (w:World) (b:Bool) (L:Lx) (tk:Nat→Nat) (p p':Nat) (ln ln':Int) (st:Option Str) (e:Int) (v:Str) (tv:Nat) (y0 y1 y2:Str × Nat) (n t:Nat) (f:Nat→Ext) :
    Zq6 [1,2,3,4,5] (Zz9 (hz (wb w b)) L tk ⟨p,st,ln⟩ e (e + 1) v tv [y0,y1,y2] n t) (fun _ _ _=>0) Zq8
      []
      (Zzs T2 prog (wb w b) n t [] [] (Zz9 (hz (wb w b)) L tk ⟨p,st,ln⟩ e (e + 1) v tv [y0,y1,y2] n t) Zjg f):=by cases b <;> kernel_rfl
theorem GP4_v (prog:Program) (w:World) (b:Bool) (L:Lx) (tk:Nat→Nat) (p p':Nat) (ln ln':Int) (st:Option Str) (e:Int) (v:Str) (tv:Nat) (y0 y1 y2 y3:Str × Nat) (n t:Nat) (f:Nat→Ext) :
    Zq6 [1,2,3,4,5] (Zzw (hz (wb w b)) L tk ⟨p,st,ln⟩ e (e + 1) v tv [y0,y1,y2,y3] n t) (fun _ _ _=>0) Zq8
      []
      (Zzs T2 prog (wb w b) n t [] [] (Zzw (hz (wb w b)) L tk ⟨p,st,ln⟩ e (e + 1) v tv [y0,y1,y2,y3] n t) Zjf f):=by cases b <;> kernel_rfl
theorem PT4_v (prog:Program) (w:World) (b:Bool) (L:Lx) (tk:Nat→Nat) (p p':Nat) (ln ln':Int) (st:Option Str) (e:Int) (v:Str) (tv:Nat) (y0 y1 y2 y3:Str × Nat) (n t:Nat) (f:Nat→Ext) :
    Zq6 [1,2,3,4,5] (Zz9 (hz (wb w b)) L tk ⟨p,st,ln⟩ e (e + 1) v tv [y0,y1,y2,y3] n t) (fun _ _ _=>0) Zq8
      []
      (Zzs T2 prog (wb w b) n t [] [] (Zz9 (hz (wb w b)) L tk ⟨p,st,ln⟩ e (e + 1) v tv [y0,y1,y2,y3] n t) Zjg f):=by cases b <;> kernel_rfl
theorem GP5_v (prog:Program) (w:World) (b:Bool) (L:Lx) (tk:Nat→Nat) (p p':Nat) (ln ln':Int) (st:Option Str) (e:Int) (v:Str) (tv:Nat) (y0 y1 y2 y3 y4:Str × Nat) (n t:Nat) (f:Nat→Ext) :
    Zq6 [1,2,3,4,5] (Zzw (hz (wb w b)) L tk ⟨p,st,ln⟩ e (e + 1) v tv [y0,y1,y2,y3,y4] n t) (fun _ _ _=>0) Zq8
      []
      (Zzs T2 prog (wb w b) n t [] [] (Zzw (hz (wb w b)) L tk ⟨p,st,ln⟩ e (e + 1) v tv [y0,y1,y2,y3,y4] n t) Zjf f):=by cases b <;> kernel_rfl
theorem PT5_v (prog:Program) (w:World) (b:Bool) (L:Lx) (tk:Nat→Nat) (p p':Nat) (ln ln':Int) (st:Option Str) (e:Int) (v:Str) (tv:Nat) (y0 y1 y2 y3 y4:Str × Nat) (n t:Nat) (f:Nat→Ext) :
    Zq6 [1,2,3,4,5] (Zz9 (hz (wb w b)) L tk ⟨p,st,ln⟩ e (e + 1) v tv [y0,y1,y2,y3,y4] n t) (fun _ _ _=>0) Zq8
      []
      (Zzs T2 prog (wb w b) n t [] [] (Zz9 (hz (wb w b)) L tk ⟨p,st,ln⟩ e (e + 1) v tv [y0,y1,y2,y3,y4] n t) Zjg f):=by cases b <;> kernel_rfl
theorem GP6_v (prog:Program) (w:World) (b:Bool) (L:Lx) (tk:Nat→Nat) (p p':Nat) (ln ln':Int) (st:Option Str) (e:Int) (v:Str) (tv:Nat) (y0 y1 y2 y3 y4 y5:Str × Nat) (n t:Nat) (f:Nat→Ext) :
    Zq6 [1,2,3,4,5] (Zzw (hz (wb w b)) L tk ⟨p,st,ln⟩ e (e + 1) v tv [y0,y1,y2,y3,y4,y5] n t) (fun _ _ _=>0) Zq8
      []
      (Zzs T2 prog (wb w b) n t [] [] (Zzw (hz (wb w b)) L tk ⟨p,st,ln⟩ e (e + 1) v tv [y0,y1,y2,y3,y4,y5] n t) Zjf f):=by cases b <;> kernel_rfl
theorem PT6_v (prog:Program) (w:World) (b:Bool) (L:Lx) (tk:Nat→Nat) (p p':Nat) (ln ln':Int) (st:Option Str) (e:Int) (v:Str) (tv:Nat) (y0 y1 y2 y3 y4 y5:Str × Nat) (n t:Nat) (f:Nat→Ext) :
    Zq6 [1,2,3,4,5] (Zz9 (hz (wb w b)) L tk ⟨p,st,ln⟩ e (e + 1) v tv [y0,y1,y2,y3,y4,y5] n t) (fun _ _ _=>0) Zq8
      []
      (Zzs T2 prog (wb w b) n t [] [] (Zz9 (hz (wb w b)) L tk ⟨p,st,ln⟩ e (e + 1) v tv [y0,y1,y2,y3,y4,y5] n t) Zjg f):=by cases b <;> kernel_rfl
theorem GP7_v (prog:Program) (w:World) (b:Bool) (L:Lx) (tk:Nat→Nat) (p p':Nat) (ln ln':Int) (st:Option Str) (e:Int) (v:Str) (tv:Nat) (y0 y1 y2 y3 y4 y5 y6:Str × Nat) (n t:Nat) (f:Nat→Ext) :
    Zq6 [1,2,3,4,5] (Zzw (hz (wb w b)) L tk ⟨p,st,ln⟩ e (e + 1) v tv [y0,y1,y2,y3,y4,y5,y6] n t) (fun _ _ _=>0) Zq8
      []
      (Zzs T2 prog (wb w b) n t [] [] (Zzw (hz (wb w b)) L tk ⟨p,st,ln⟩ e (e + 1) v tv [y0,y1,y2,y3,y4,y5,y6] n t) Zjf f):=by cases b <;> kernel_rfl
theorem PT7_v (prog:Program) (w:World) (b:Bool) (L:Lx) (tk:Nat→Nat) (p p':Nat) (ln ln':Int) (st:Option Str) (e:Int) (v:Str) (tv:Nat) (y0 y1 y2 y3 y4 y5 y6:Str × Nat) (n t:Nat) (f:Nat→Ext) :
    Zq6 [1,2,3,4,5] (Zz9 (hz (wb w b)) L tk ⟨p,st,ln⟩ e (e + 1) v tv [y0,y1,y2,y3,y4,y5,y6] n t) (fun _ _ _=>0) Zq8
      []
      (Zzs T2 prog (wb w b) n t [] [] (Zz9 (hz (wb w b)) L tk ⟨p,st,ln⟩ e (e + 1) v tv [y0,y1,y2,y3,y4,y5,y6] n t) Zjg f):=by cases b <;> kernel_rfl
theorem GP8_v (prog:Program) (w:World) (b:Bool) (L:Lx) (tk:Nat→Nat) (p p':Nat) (ln ln':Int) (st:Option Str) (e:Int) (v:Str) (tv:Nat) (y0 y1 y2 y3 y4 y5 y6 y7:Str × Nat) (n t:Nat) (f:Nat→Ext) :
    Zq6 [1,2,3,4,5] (Zzw (hz (wb w b)) L tk ⟨p,st,ln⟩ e (e + 1) v tv [y0,y1,y2,y3,y4,y5,y6,y7] n t) (fun _ _ _=>0) Zq8
      []
      (Zzs T2 prog (wb w b) n t [] [] (Zzw (hz (wb w b)) L tk ⟨p,st,ln⟩ e (e + 1) v tv [y0,y1,y2,y3,y4,y5,y6,y7] n t) Zjf f):=by cases b <;> kernel_rfl
theorem PT8_v (prog:Program) (w:World) (b:Bool) (L:Lx) (tk:Nat→Nat) (p p':Nat) (ln ln':Int) (st:Option Str) (e:Int) (v:Str) (tv:Nat) (y0 y1 y2 y3 y4 y5 y6 y7:Str × Nat) (n t:Nat) (f:Nat→Ext) :
    Zq6 [1,2,3,4,5] (Zz9 (hz (wb w b)) L tk ⟨p,st,ln⟩ e (e + 1) v tv [y0,y1,y2,y3,y4,y5,y6,y7] n t) (fun _ _ _=>0) Zq8
      []
      (Zzs T2 prog (wb w b) n t [] [] (Zz9 (hz (wb w b)) L tk ⟨p,st,ln⟩ e (e + 1) v tv [y0,y1,y2,y3,y4,y5,y6,y7] n t) Zjg f):=by cases b <;> kernel_rfl
theorem GP9_v (prog:Program) (w:World) (b:Bool) (L:Lx) (tk:Nat→Nat) (p p':Nat) (ln ln':Int) (st:Option Str) (e:Int) (v:Str) (tv:Nat) (y0 y1 y2 y3 y4 y5 y6 y7 y8:Str × Nat) (n t:Nat) (f:Nat→Ext) :
    Zq6 [1,2,3,4,5] (Zzw (hz (wb w b)) L tk ⟨p,st,ln⟩ e (e + 1) v tv [y0,y1,y2,y3,y4,y5,y6,y7,y8] n t) (fun _ _ _=>0) Zq8
      []
      (Zzs T2 prog (wb w b) n t [] [] (Zzw (hz (wb w b)) L tk ⟨p,st,ln⟩ e (e + 1) v tv [y0,y1,y2,y3,y4,y5,y6,y7,y8] n t) Zjf f):=by cases b <;> kernel_rfl
theorem PT9_v (prog:Program) (w:World) (b:Bool) (L:Lx) (tk:Nat→Nat) (p p':Nat) (ln ln':Int) (st:Option Str) (e:Int) (v:Str) (tv:Nat) (y0 y1 y2 y3 y4 y5 y6 y7 y8:Str × Nat) (n t:Nat) (f:Nat→Ext) :
    Zq6 [1,2,3,4,5] (Zz9 (hz (wb w b)) L tk ⟨p,st,ln⟩ e (e + 1) v tv [y0,y1,y2,y3,y4,y5,y6,y7,y8] n t) (fun _ _ _=>0) Zq8
      []
      (Zzs T2 prog (wb w b) n t [] [] (Zz9 (hz (wb w b)) L tk ⟨p,st,ln⟩ e (e + 1) v tv [y0,y1,y2,y3,y4,y5,y6,y7,y8] n t) Zjg f):=by cases b <;> kernel_rfl
theorem GP10_v (prog:Program) (w:World) (b:Bool) (L:Lx) (tk:Nat→Nat) (p p':Nat) (ln ln':Int) (st:Option Str) (e:Int) (v:Str) (tv:Nat) (y0 y1 y2 y3 y4 y5 y6 y7 y8 y9:Str × Nat) (n t:Nat) (f:Nat→Ext) :
    Zq6 [1,2,3,4,5] (Zzw (hz (wb w b)) L tk ⟨p,st,ln⟩ e (e + 1) v tv [y0,y1,y2,y3,y4,y5,y6,y7,y8,y9] n t) (fun _ _ _=>0) Zq8
      []
      (Zzs T2 prog (wb w b) n t [] [] (Zzw (hz (wb w b)) L tk ⟨p,st,ln⟩ e (e + 1) v tv [y0,y1,y2,y3,y4,y5,y6,y7,y8,y9] n t) Zjf f):=by cases b <;> kernel_rfl
theorem PT10_v (prog:Program) (w:World) (b:Bool) (L:Lx) (tk:Nat→Nat) (p p':Nat) (ln ln':Int) (st:Option Str) (e:Int) (v:Str) (tv:Nat) (y0 y1 y2 y3 y4 y5 y6 y7 y8 y9:Str × Nat) (n t:Nat) (f:Nat→Ext) :
    Zq6 [1,2,3,4,5] (Zz9 (hz (wb w b)) L tk ⟨p,st,ln⟩ e (e + 1) v tv [y0,y1,y2,y3,y4,y5,y6,y7,y8,y9] n t) (fun _ _ _=>0) Zq8
      []
      (Zzs T2 prog (wb w b) n t [] [] (Zz9 (hz (wb w b)) L tk ⟨p,st,ln⟩ e (e + 1) v tv [y0,y1,y2,y3,y4,y5,y6,y7,y8,y9] n t) Zjg f):=by cases b <;> kernel_rfl
theorem GP11_v (prog:Program) (w:World) (b:Bool) (L:Lx) (tk:Nat→Nat) (p p':Nat) (ln ln':Int) (st:Option Str) (e:Int) (v:Str) (tv:Nat) (y0 y1 y2 y3 y4 y5 y6 y7 y8 y9 y10:Str × Nat) (n t:Nat) (f:Nat→Ext) :
    Zq6 [1,2,3,4,5] (Zzw (hz (wb w b)) L tk ⟨p,st,ln⟩ e (e + 1) v tv [y0,y1,y2,y3,y4,y5,y6,y7,y8,y9,y10] n t) (fun _ _ _=>0) Zq8
      []
      (Zzs T2 prog (wb w b) n t [] [] (Zzw (hz (wb w b)) L tk ⟨p,st,ln⟩ e (e + 1) v tv [y0,y1,y2,y3,y4,y5,y6,y7,y8,y9,y10] n t) Zjf f):=by cases b <;> kernel_rfl
theorem PT11_v (prog:Program) (w:World) (b:Bool) (L:Lx) (tk:Nat→Nat) (p p':Nat) (ln ln':Int) (st:Option Str) (e:Int) (v:Str) (tv:Nat) (y0 y1 y2 y3 y4 y5 y6 y7 y8 y9 y10:Str × Nat) (n t:Nat) (f:Nat→Ext) :
    Zq6 [1,2,3,4,5] (Zz9 (hz (wb w b)) L tk ⟨p,st,ln⟩ e (e + 1) v tv [y0,y1,y2,y3,y4,y5,y6,y7,y8,y9,y10] n t) (fun _ _ _=>0) Zq8
      []
      (Zzs T2 prog (wb w b) n t [] [] (Zz9 (hz (wb w b)) L tk ⟨p,st,ln⟩ e (e + 1) v tv [y0,y1,y2,y3,y4,y5,y6,y7,y8,y9,y10] n t) Zjg f):=by cases b <;> kernel_rfl
theorem GP12_v (prog:Program) (w:World) (b:Bool) (L:Lx) (tk:Nat→Nat) (p p':Nat) (ln ln':Int) (st:Option Str) (e:Int) (v:Str) (tv:Nat) (y0 y1 y2 y3 y4 y5 y6 y7 y8 y9 y10 y11:Str × Nat) (n t:Nat) (f:Nat→Ext) :
    Zq6 [1,2,3,4,5] (Zzw (hz (wb w b)) L tk ⟨p,st,ln⟩ e (e + 1) v tv [y0,y1,y2,y3,y4,y5,y6,y7,y8,y9,y10,y11] n t) (fun _ _ _=>0) Zq8
      []
      (Zzs T2 prog (wb w b) n t [] [] (Zzw (hz (wb w b)) L tk ⟨p,st,ln⟩ e (e + 1) v tv [y0,y1,y2,y3,y4,y5,y6,y7,y8,y9,y10,y11] n t) Zjf f):=by cases b <;> kernel_rfl
theorem PT12_v (prog:Program) (w:World) (b:Bool) (L:Lx) (tk:Nat→Nat) (p p':Nat) (ln ln':Int) (st:Option Str) (e:Int) (v:Str) (tv:Nat) (y0 y1 y2 y3 y4 y5 y6 y7 y8 y9 y10 y11:Str × Nat) (n t:Nat) (f:Nat→Ext) :
    Zq6 [1,2,3,4,5] (Zz9 (hz (wb w b)) L tk ⟨p,st,ln⟩ e (e + 1) v tv [y0,y1,y2,y3,y4,y5,y6,y7,y8,y9,y10,y11] n t) (fun _ _ _=>0) Zq8
      []
      (Zzs T2 prog (wb w b) n t [] [] (Zz9 (hz (wb w b)) L tk ⟨p,st,ln⟩ e (e + 1) v tv [y0,y1,y2,y3,y4,y5,y6,y7,y8,y9,y10,y11] n t) Zjg f):=by cases b <;> kernel_rfl
theorem GP13_v (prog:Program) (w:World) (b:Bool) (L:Lx) (tk:Nat→Nat) (p p':Nat) (ln ln':Int) (st:Option Str) (e:Int) (v:Str) (tv:Nat) (y0 y1 y2 y3 y4 y5 y6 y7 y8 y9 y10 y11 y12:Str × Nat) (n t:Nat) (f:Nat→Ext) :
    Zq6 [1,2,3,4,5] (Zzw (hz (wb w b)) L tk ⟨p,st,ln⟩ e (e + 1) v tv [y0,y1,y2,y3,y4,y5,y6,y7,y8,y9,y10,y11,y12] n t) (fun _ _ _=>0) Zq8
      []
      (Zzs T2 prog (wb w b) n t [] [] (Zzw (hz (wb w b)) L tk ⟨p,st,ln⟩ e (e + 1) v tv [y0,y1,y2,y3,y4,y5,y6,y7,y8,y9,y10,y11,y12] n t) Zjf f):=by cases b <;> kernel_rfl
theorem PT13_v (prog:Program) (w:World) (b:Bool) (L:Lx) (tk:Nat→Nat) (p p':Nat) (ln ln':Int) (st:Option Str) (e:Int) (v:Str) (tv:Nat) (y0 y1 y2 y3 y4 y5 y6 y7 y8 y9 y10 y11 y12:Str × Nat) (n t:Nat) (f:Nat→Ext) :
    Zq6 [1,2,3,4,5] (Zz9 (hz (wb w b)) L tk ⟨p,st,ln⟩ e (e + 1) v tv [y0,y1,y2,y3,y4,y5,y6,y7,y8,y9,y10,y11,y12] n t) (fun _ _ _=>0) Zq8
      []
      (Zzs T2 prog (wb w b) n t [] [] (Zz9 (hz (wb w b)) L tk ⟨p,st,ln⟩ e (e + 1) v tv [y0,y1,y2,y3,y4,y5,y6,y7,y8,y9,y10,y11,y12] n t) Zjg f):=by cases b <;> kernel_rfl
theorem GP14_v (prog:Program) (w:World) (b:Bool) (L:Lx) (tk:Nat→Nat) (p p':Nat) (ln ln':Int) (st:Option Str) (e:Int) (v:Str) (tv:Nat) (y0 y1 y2 y3 y4 y5 y6 y7 y8 y9 y10 y11 y12 y13:Str × Nat) (n t:Nat) (f:Nat→Ext) :
    Zq6 [1,2,3,4,5] (Zzw (hz (wb w b)) L tk ⟨p,st,ln⟩ e (e + 1) v tv [y0,y1,y2,y3,y4,y5,y6,y7,y8,y9,y10,y11,y12,y13] n t) (fun _ _ _=>0) Zq8
      []
      (Zzs T2 prog (wb w b) n t [] [] (Zzw (hz (wb w b)) L tk ⟨p,st,ln⟩ e (e + 1) v tv [y0,y1,y2,y3,y4,y5,y6,y7,y8,y9,y10,y11,y12,y13] n t) Zjf f):=by cases b <;> kernel_rfl
theorem PT14_v (prog:Program) (w:World) (b:Bool) (L:Lx) (tk:Nat→Nat) (p p':Nat) (ln ln':Int) (st:Option Str) (e:Int) (v:Str) (tv:Nat) (y0 y1 y2 y3 y4 y5 y6 y7 y8 y9 y10 y11 y12 y13:Str × Nat) (n t:Nat) (f:Nat→Ext) :
    Zq6 [1,2,3,4,5] (Zz9 (hz (wb w b)) L tk ⟨p,st,ln⟩ e (e + 1) v tv [y0,y1,y2,y3,y4,y5,y6,y7,y8,y9,y10,y11,y12,y13] n t) (fun _ _ _=>0) Zq8
      []
      (Zzs T2 prog (wb w b) n t [] [] (Zz9 (hz (wb w b)) L tk ⟨p,st,ln⟩ e (e + 1) v tv [y0,y1,y2,y3,y4,y5,y6,y7,y8,y9,y10,y11,y12,y13] n t) Zjg f):=by cases b <;> kernel_rfl
theorem GP15_v (prog:Program) (w:World) (b:Bool) (L:Lx) (tk:Nat→Nat) (p p':Nat) (ln ln':Int) (st:Option Str) (e:Int) (v:Str) (tv:Nat) (y0 y1 y2 y3 y4 y5 y6 y7 y8 y9 y10 y11 y12 y13 y14:Str × Nat) (n t:Nat) (f:Nat→Ext) :
    Zq6 [1,2,3,4,5] (Zzw (hz (wb w b)) L tk ⟨p,st,ln⟩ e (e + 1) v tv [y0,y1,y2,y3,y4,y5,y6,y7,y8,y9,y10,y11,y12,y13,y14] n t) (fun _ _ _=>0) Zq8
      []
      (Zzs T2 prog (wb w b) n t [] [] (Zzw (hz (wb w b)) L tk ⟨p,st,ln⟩ e (e + 1) v tv [y0,y1,y2,y3,y4,y5,y6,y7,y8,y9,y10,y11,y12,y13,y14] n t) Zjf f):=by cases b <;> kernel_rfl
theorem PT15_v (prog:Program) (w:World) (b:Bool) (L:Lx) (tk:Nat→Nat) (p p':Nat) (ln ln':Int) (st:Option Str) (e:Int) (v:Str) (tv:Nat) (y0 y1 y2 y3 y4 y5 y6 y7 y8 y9 y10 y11 y12 y13 y14:Str × Nat) (n t:Nat) (f:Nat→Ext) :
    Zq6 [1,2,3,4,5] (Zz9 (hz (wb w b)) L tk ⟨p,st,ln⟩ e (e + 1) v tv [y0,y1,y2,y3,y4,y5,y6,y7,y8,y9,y10,y11,y12,y13,y14] n t) (fun _ _ _=>0) Zq8
      []
      (Zzs T2 prog (wb w b) n t [] [] (Zz9 (hz (wb w b)) L tk ⟨p,st,ln⟩ e (e + 1) v tv [y0,y1,y2,y3,y4,y5,y6,y7,y8,y9,y10,y11,y12,y13,y14] n t) Zjg f):=by cases b <;> kernel_rfl
theorem GP16_v (prog:Program) (w:World) (b:Bool) (L:Lx) (tk:Nat→Nat) (p p':Nat) (ln ln':Int) (st:Option Str) (e:Int) (v:Str) (tv:Nat) (y0 y1 y2 y3 y4 y5 y6 y7 y8 y9 y10 y11 y12 y13 y14 y15:Str × Nat) (n t:Nat) (f:Nat→Ext) :
    Zq6 [1,2,3,4,5] (Zzw (hz (wb w b)) L tk ⟨p,st,ln⟩ e (e + 1) v tv [y0,y1,y2,y3,y4,y5,y6,y7,y8,y9,y10,y11,y12,y13,y14,y15] n t) (fun _ _ _=>0) Zq8
      []
      (Zzs T2 prog (wb w b) n t [] [] (Zzw (hz (wb w b)) L tk ⟨p,st,ln⟩ e (e + 1) v tv [y0,y1,y2,y3,y4,y5,y6,y7,y8,y9,y10,y11,y12,y13,y14,y15] n t) Zjf f):=by cases b <;> kernel_rfl
theorem PT16_v (prog:Program) (w:World) (b:Bool) (L:Lx) (tk:Nat→Nat) (p p':Nat) (ln ln':Int) (st:Option Str) (e:Int) (v:Str) (tv:Nat) (y0 y1 y2 y3 y4 y5 y6 y7 y8 y9 y10 y11 y12 y13 y14 y15:Str × Nat) (n t:Nat) (f:Nat→Ext) :
    Zq6 [1,2,3,4,5] (Zz9 (hz (wb w b)) L tk ⟨p,st,ln⟩ e (e + 1) v tv [y0,y1,y2,y3,y4,y5,y6,y7,y8,y9,y10,y11,y12,y13,y14,y15] n t) (fun _ _ _=>0) Zq8
      []
      (Zzs T2 prog (wb w b) n t [] [] (Zz9 (hz (wb w b)) L tk ⟨p,st,ln⟩ e (e + 1) v tv [y0,y1,y2,y3,y4,y5,y6,y7,y8,y9,y10,y11,y12,y13,y14,y15] n t) Zjg f):=by cases b <;> kernel_rfl
theorem GP17_v (prog:Program) (w:World) (b:Bool) (L:Lx) (tk:Nat→Nat) (p p':Nat) (ln ln':Int) (st:Option Str) (e:Int) (v:Str) (tv:Nat) (y0 y1 y2 y3 y4 y5 y6 y7 y8 y9 y10 y11 y12 y13 y14 y15 y16:Str × Nat) (n t:Nat) (f:Nat→Ext) :
    Zq6 [1,2,3,4,5] (Zzw (hz (wb w b)) L tk ⟨p,st,ln⟩ e (e + 1) v tv [y0,y1,y2,y3,y4,y5,y6,y7,y8,y9,y10,y11,y12,y13,y14,y15,y16] n t) (fun _ _ _=>0) Zq8
      []
      (Zzs T2 prog (wb w b) n t [] [] (Zzw (hz (wb w b)) L tk ⟨p,st,ln⟩ e (e + 1) v tv [y0,y1,y2,y3,y4,y5,y6,y7,y8,y9,y10,y11,y12,y13,y14,y15,y16] n t) Zjf f):=by cases b <;> kernel_rfl
theorem PT17_v (prog:Program) (w:World) (b:Bool) (L:Lx) (tk:Nat→Nat) (p p':Nat) (ln ln':Int) (st:Option Str) (e:Int) (v:Str) (tv:Nat) (y0 y1 y2 y3 y4 y5 y6 y7 y8 y9 y10 y11 y12 y13 y14 y15 y16:Str × Nat) (n t:Nat) (f:Nat→Ext) :
    Zq6 [1,2,3,4,5] (Zz9 (hz (wb w b)) L tk ⟨p,st,ln⟩ e (e + 1) v tv [y0,y1,y2,y3,y4,y5,y6,y7,y8,y9,y10,y11,y12,y13,y14,y15,y16] n t) (fun _ _ _=>0) Zq8
      []
      (Zzs T2 prog (wb w b) n t [] [] (Zz9 (hz (wb w b)) L tk ⟨p,st,ln⟩ e (e + 1) v tv [y0,y1,y2,y3,y4,y5,y6,y7,y8,y9,y10,y11,y12,y13,y14,y15,y16] n t) Zjg f):=by cases b <;> kernel_rfl
theorem GP18_v (prog:Program) (w:World) (b:Bool) (L:Lx) (tk:Nat→Nat) (p p':Nat) (ln ln':Int) (st:Option Str) (e:Int) (v:Str) (tv:Nat) (y0 y1 y2 y3 y4 y5 y6 y7 y8 y9 y10 y11 y12 y13 y14 y15 y16 y17:Str × Nat) (n t:Nat) (f:Nat→Ext) :
    Zq6 [1,2,3,4,5] (Zzw (hz (wb w b)) L tk ⟨p,st,ln⟩ e (e + 1) v tv [y0,y1,y2,y3,y4,y5,y6,y7,y8,y9,y10,y11,y12,y13,y14,y15,y16,y17] n t) (fun _ _ _=>0) Zq8
      []
      (Zzs T2 prog (wb w b) n t [] [] (Zzw (hz (wb w b)) L tk ⟨p,st,ln⟩ e (e + 1) v tv [y0,y1,y2,y3,y4,y5,y6,y7,y8,y9,y10,y11,y12,y13,y14,y15,y16,y17] n t) Zjf f):=by cases b <;> kernel_rfl
theorem PT18_v (prog:Program) (w:World) (b:Bool) (L:Lx) (tk:Nat→Nat) (p p':Nat) (ln ln':Int) (st:Option Str) (e:Int) (v:Str) (tv:Nat) (y0 y1 y2 y3 y4 y5 y6 y7 y8 y9 y10 y11 y12 y13 y14 y15 y16 y17:Str × Nat) (n t:Nat) (f:Nat→Ext) :
    Zq6 [1,2,3,4,5] (Zz9 (hz (wb w b)) L tk ⟨p,st,ln⟩ e (e + 1) v tv [y0,y1,y2,y3,y4,y5,y6,y7,y8,y9,y10,y11,y12,y13,y14,y15,y16,y17] n t) (fun _ _ _=>0) Zq8
      []
      (Zzs T2 prog (wb w b) n t [] [] (Zz9 (hz (wb w b)) L tk ⟨p,st,ln⟩ e (e + 1) v tv [y0,y1,y2,y3,y4,y5,y6,y7,y8,y9,y10,y11,y12,y13,y14,y15,y16,y17] n t) Zjg f):=by cases b <;> kernel_rfl
theorem GP19_v (prog:Program) (w:World) (b:Bool) (L:Lx) (tk:Nat→Nat) (p p':Nat) (ln ln':Int) (st:Option Str) (e:Int) (v:Str) (tv:Nat) (y0 y1 y2 y3 y4 y5 y6 y7 y8 y9 y10 y11 y12 y13 y14 y15 y16 y17 y18:Str × Nat) (n t:Nat) (f:Nat→Ext) :
    Zq6 [1,2,3,4,5] (Zzw (hz (wb w b)) L tk ⟨p,st,ln⟩ e (e + 1) v tv [y0,y1,y2,y3,y4,y5,y6,y7,y8,y9,y10,y11,y12,y13,y14,y15,y16,y17,y18] n t) (fun _ _ _=>0) Zq8
      []
      (Zzs T2 prog (wb w b) n t [] [] (Zzw (hz (wb w b)) L tk ⟨p,st,ln⟩ e (e + 1) v tv [y0,y1,y2,y3,y4,y5,y6,y7,y8,y9,y10,y11,y12,y13,y14,y15,y16,y17,y18] n t) Zjf f):=by cases b <;> kernel_rfl
theorem PT19_v (prog:Program) (w:World) (b:Bool) (L:Lx) (tk:Nat→Nat) (p p':Nat) (ln ln':Int) (st:Option Str) (e:Int) (v:Str) (tv:Nat) (y0 y1 y2 y3 y4 y5 y6 y7 y8 y9 y10 y11 y12 y13 y14 y15 y16 y17 y18:Str × Nat) (n t:Nat) (f:Nat→Ext) :
    Zq6 [1,2,3,4,5] (Zz9 (hz (wb w b)) L tk ⟨p,st,ln⟩ e (e + 1) v tv [y0,y1,y2,y3,y4,y5,y6,y7,y8,y9,y10,y11,y12,y13,y14,y15,y16,y17,y18] n t) (fun _ _ _=>0) Zq8
      []
      (Zzs T2 prog (wb w b) n t [] [] (Zz9 (hz (wb w b)) L tk ⟨p,st,ln⟩ e (e + 1) v tv [y0,y1,y2,y3,y4,y5,y6,y7,y8,y9,y10,y11,y12,y13,y14,y15,y16,y17,y18] n t) Zjg f):=by cases b <;> kernel_rfl
theorem GP20_v (prog:Program) (w:World) (b:Bool) (L:Lx) (tk:Nat→Nat) (p p':Nat) (ln ln':Int) (st:Option Str) (e:Int) (v:Str) (tv:Nat) (y0 y1 y2 y3 y4 y5 y6 y7 y8 y9 y10 y11 y12 y13 y14 y15 y16 y17 y18 y19:Str × Nat) (n t:Nat) (f:Nat→Ext) :
    Zq6 [1,2,3,4,5] (Zzw (hz (wb w b)) L tk ⟨p,st,ln⟩ e (e + 1) v tv [y0,y1,y2,y3,y4,y5,y6,y7,y8,y9,y10,y11,y12,y13,y14,y15,y16,y17,y18,y19] n t) (fun _ _ _=>0) Zq8
      []
      (Zzs T2 prog (wb w b) n t [] [] (Zzw (hz (wb w b)) L tk ⟨p,st,ln⟩ e (e + 1) v tv [y0,y1,y2,y3,y4,y5,y6,y7,y8,y9,y10,y11,y12,y13,y14,y15,y16,y17,y18,y19] n t) Zjf f):=by cases b <;> kernel_rfl
theorem PT20_v (prog:Program) (w:World) (b:Bool) (L:Lx) (tk:Nat→Nat) (p p':Nat) (ln ln':Int) (st:Option Str) (e:Int) (v:Str) (tv:Nat) (y0 y1 y2 y3 y4 y5 y6 y7 y8 y9 y10 y11 y12 y13 y14 y15 y16 y17 y18 y19:Str × Nat) (n t:Nat) (f:Nat→Ext) :
    Zq6 [1,2,3,4,5] (Zz9 (hz (wb w b)) L tk ⟨p,st,ln⟩ e (e + 1) v tv [y0,y1,y2,y3,y4,y5,y6,y7,y8,y9,y10,y11,y12,y13,y14,y15,y16,y17,y18,y19] n t) (fun _ _ _=>0) Zq8
      []
      (Zzs T2 prog (wb w b) n t [] [] (Zz9 (hz (wb w b)) L tk ⟨p,st,ln⟩ e (e + 1) v tv [y0,y1,y2,y3,y4,y5,y6,y7,y8,y9,y10,y11,y12,y13,y14,y15,y16,y17,y18,y19] n t) Zjg f):=by cases b <;> kernel_rfl
theorem gt_ok {prog:Program} {w:World} {b:Bool} {L:Lx} {p p':Nat} {ln ln':Int} {z U:Str} {st':Option Str} (h:RtOk prog w b L ⟨p,some z,ln⟩ ⟨p',st',ln'⟩ (some U)) (tk:Nat→Nat) (e:Int) (n t:Nat) :
    Zq1 T2 prog (wb w b) n t (gtCon (hz (wb w b)) L tk ⟨p,some z,ln⟩ ⟨p',st',ln'⟩ e U n t) :=
  Zqb (tk:=gtEx 0) (sl:=fun _=>Zq8) (Zqx (rtFam_ok h) Zqq) (fun _=>rfl) rfl (GT_v prog w b L tk p p' ln ln' z st' e U n t) fun f q hq=>nomatch hq
theorem ge_ok {prog:Program} {w:World} {b:Bool} {L:Lx} {p p':Nat} {ln ln':Int} {st st':Option Str} (h:RtOk prog w b L ⟨p,st,ln⟩ ⟨p',st',ln'⟩ none) (tk:Nat→Nat) (e e':Int) (n t:Nat) :
    Zq1 T2 prog (wb w b) n t (gtConE (hz (wb w b)) L tk ⟨p,st,ln⟩ ⟨p',st',ln'⟩ e e' n t):=by
  cases st with
  | none=>exact Zqb (tk:=gtEx 0) (sl:=fun _=>Zq8) (Zqx (rtFam_ok h) Zqq) (fun _=>rfl) rfl (GE0_v prog w b L tk p p' ln ln' st' e e' n t) fun f q hq=>nomatch hq
  | some z=>exact Zqb (tk:=gtEx 0) (sl:=fun _=>Zq8) (Zqx (rtFam_ok h) Zqq) (fun _=>rfl) rfl (GE_v prog w b L tk p p' ln ln' z st' e e' n t) fun f q hq=>nomatch hq
theorem gp_ok {prog:Program} {w:World} {b:Bool} {L:Lx} (tk:Nat→Nat) (s:Lt) (e:Int) (v:Str) (tv:Nat) (n t:Nat):∀ (l:List (Str × Nat)),l.length < 21→Zq1 T2 prog (wb w b) n t (Zzw (hz (wb w b)) L tk s e (e + 1) v tv l n t)
  | [],_=>Zqb (tk:=fun _ _ _ _=>0) (sl:=fun _=>Zq8) Zqq (fun _=>rfl) rfl (GP0_v prog w b L tk s.p 0 s.ln 0 s.st e v tv  n t) fun f q hq=>nomatch hq
  | [y0],_=>Zqb (tk:=fun _ _ _ _=>0) (sl:=fun _=>Zq8) Zqq (fun _=>rfl) rfl (GP1_v prog w b L tk s.p 0 s.ln 0 s.st e v tv y0 n t) fun f q hq=>nomatch hq
  | [y0,y1],_=>Zqb (tk:=fun _ _ _ _=>0) (sl:=fun _=>Zq8) Zqq (fun _=>rfl) rfl (GP2_v prog w b L tk s.p 0 s.ln 0 s.st e v tv y0 y1 n t) fun f q hq=>nomatch hq
  | [y0,y1,y2],_=>Zqb (tk:=fun _ _ _ _=>0) (sl:=fun _=>Zq8) Zqq (fun _=>rfl) rfl (GP3_v prog w b L tk s.p 0 s.ln 0 s.st e v tv y0 y1 y2 n t) fun f q hq=>nomatch hq
  | [y0,y1,y2,y3],_=>Zqb (tk:=fun _ _ _ _=>0) (sl:=fun _=>Zq8) Zqq (fun _=>rfl) rfl (GP4_v prog w b L tk s.p 0 s.ln 0 s.st e v tv y0 y1 y2 y3 n t) fun f q hq=>nomatch hq
  | [y0,y1,y2,y3,y4],_=>Zqb (tk:=fun _ _ _ _=>0) (sl:=fun _=>Zq8) Zqq (fun _=>rfl) rfl (GP5_v prog w b L tk s.p 0 s.ln 0 s.st e v tv y0 y1 y2 y3 y4 n t) fun f q hq=>nomatch hq
  | [y0,y1,y2,y3,y4,y5],_=>Zqb (tk:=fun _ _ _ _=>0) (sl:=fun _=>Zq8) Zqq (fun _=>rfl) rfl (GP6_v prog w b L tk s.p 0 s.ln 0 s.st e v tv y0 y1 y2 y3 y4 y5 n t) fun f q hq=>nomatch hq
  | [y0,y1,y2,y3,y4,y5,y6],_=>Zqb (tk:=fun _ _ _ _=>0) (sl:=fun _=>Zq8) Zqq (fun _=>rfl) rfl (GP7_v prog w b L tk s.p 0 s.ln 0 s.st e v tv y0 y1 y2 y3 y4 y5 y6 n t) fun f q hq=>nomatch hq
  | [y0,y1,y2,y3,y4,y5,y6,y7],_=>Zqb (tk:=fun _ _ _ _=>0) (sl:=fun _=>Zq8) Zqq (fun _=>rfl) rfl (GP8_v prog w b L tk s.p 0 s.ln 0 s.st e v tv y0 y1 y2 y3 y4 y5 y6 y7 n t) fun f q hq=>nomatch hq
  | [y0,y1,y2,y3,y4,y5,y6,y7,y8],_=>Zqb (tk:=fun _ _ _ _=>0) (sl:=fun _=>Zq8) Zqq (fun _=>rfl) rfl (GP9_v prog w b L tk s.p 0 s.ln 0 s.st e v tv y0 y1 y2 y3 y4 y5 y6 y7 y8 n t) fun f q hq=>nomatch hq
  | [y0,y1,y2,y3,y4,y5,y6,y7,y8,y9],_=>Zqb (tk:=fun _ _ _ _=>0) (sl:=fun _=>Zq8) Zqq (fun _=>rfl) rfl (GP10_v prog w b L tk s.p 0 s.ln 0 s.st e v tv y0 y1 y2 y3 y4 y5 y6 y7 y8 y9 n t) fun f q hq=>nomatch hq
  | [y0,y1,y2,y3,y4,y5,y6,y7,y8,y9,y10],_=>Zqb (tk:=fun _ _ _ _=>0) (sl:=fun _=>Zq8) Zqq (fun _=>rfl) rfl (GP11_v prog w b L tk s.p 0 s.ln 0 s.st e v tv y0 y1 y2 y3 y4 y5 y6 y7 y8 y9 y10 n t) fun f q hq=>nomatch hq
  | [y0,y1,y2,y3,y4,y5,y6,y7,y8,y9,y10,y11],_=>Zqb (tk:=fun _ _ _ _=>0) (sl:=fun _=>Zq8) Zqq (fun _=>rfl) rfl (GP12_v prog w b L tk s.p 0 s.ln 0 s.st e v tv y0 y1 y2 y3 y4 y5 y6 y7 y8 y9 y10 y11 n t) fun f q hq=>nomatch hq
  | [y0,y1,y2,y3,y4,y5,y6,y7,y8,y9,y10,y11,y12],_=>Zqb (tk:=fun _ _ _ _=>0) (sl:=fun _=>Zq8) Zqq (fun _=>rfl) rfl (GP13_v prog w b L tk s.p 0 s.ln 0 s.st e v tv y0 y1 y2 y3 y4 y5 y6 y7 y8 y9 y10 y11 y12 n t) fun f q hq=>nomatch hq
  | [y0,y1,y2,y3,y4,y5,y6,y7,y8,y9,y10,y11,y12,y13],_=>Zqb (tk:=fun _ _ _ _=>0) (sl:=fun _=>Zq8) Zqq (fun _=>rfl) rfl (GP14_v prog w b L tk s.p 0 s.ln 0 s.st e v tv y0 y1 y2 y3 y4 y5 y6 y7 y8 y9 y10 y11 y12 y13 n t) fun f q hq=>nomatch hq
  | [y0,y1,y2,y3,y4,y5,y6,y7,y8,y9,y10,y11,y12,y13,y14],_=>Zqb (tk:=fun _ _ _ _=>0) (sl:=fun _=>Zq8) Zqq (fun _=>rfl) rfl (GP15_v prog w b L tk s.p 0 s.ln 0 s.st e v tv y0 y1 y2 y3 y4 y5 y6 y7 y8 y9 y10 y11 y12 y13 y14 n t) fun f q hq=>nomatch hq
  | [y0,y1,y2,y3,y4,y5,y6,y7,y8,y9,y10,y11,y12,y13,y14,y15],_=>Zqb (tk:=fun _ _ _ _=>0) (sl:=fun _=>Zq8) Zqq (fun _=>rfl) rfl (GP16_v prog w b L tk s.p 0 s.ln 0 s.st e v tv y0 y1 y2 y3 y4 y5 y6 y7 y8 y9 y10 y11 y12 y13 y14 y15 n t) fun f q hq=>nomatch hq
  | [y0,y1,y2,y3,y4,y5,y6,y7,y8,y9,y10,y11,y12,y13,y14,y15,y16],_=>Zqb (tk:=fun _ _ _ _=>0) (sl:=fun _=>Zq8) Zqq (fun _=>rfl) rfl (GP17_v prog w b L tk s.p 0 s.ln 0 s.st e v tv y0 y1 y2 y3 y4 y5 y6 y7 y8 y9 y10 y11 y12 y13 y14 y15 y16 n t) fun f q hq=>nomatch hq
  | [y0,y1,y2,y3,y4,y5,y6,y7,y8,y9,y10,y11,y12,y13,y14,y15,y16,y17],_=>Zqb (tk:=fun _ _ _ _=>0) (sl:=fun _=>Zq8) Zqq (fun _=>rfl) rfl (GP18_v prog w b L tk s.p 0 s.ln 0 s.st e v tv y0 y1 y2 y3 y4 y5 y6 y7 y8 y9 y10 y11 y12 y13 y14 y15 y16 y17 n t) fun f q hq=>nomatch hq
  | [y0,y1,y2,y3,y4,y5,y6,y7,y8,y9,y10,y11,y12,y13,y14,y15,y16,y17,y18],_=>Zqb (tk:=fun _ _ _ _=>0) (sl:=fun _=>Zq8) Zqq (fun _=>rfl) rfl (GP19_v prog w b L tk s.p 0 s.ln 0 s.st e v tv y0 y1 y2 y3 y4 y5 y6 y7 y8 y9 y10 y11 y12 y13 y14 y15 y16 y17 y18 n t) fun f q hq=>nomatch hq
  | [y0,y1,y2,y3,y4,y5,y6,y7,y8,y9,y10,y11,y12,y13,y14,y15,y16,y17,y18,y19],_=>Zqb (tk:=fun _ _ _ _=>0) (sl:=fun _=>Zq8) Zqq (fun _=>rfl) rfl (GP20_v prog w b L tk s.p 0 s.ln 0 s.st e v tv y0 y1 y2 y3 y4 y5 y6 y7 y8 y9 y10 y11 y12 y13 y14 y15 y16 y17 y18 y19 n t) fun f q hq=>nomatch hq
  | y0::y1::y2::y3::y4::y5::y6::y7::y8::y9::y10::y11::y12::y13::y14::y15::y16::y17::y18::y19::y20::r,h=>absurd h (by simp only [List.length_cons]; lia)
theorem pt_ok {prog:Program} {w:World} {b:Bool} {L:Lx} (tk:Nat→Nat) (s:Lt) (e:Int) (v:Str) (tv:Nat) (n t:Nat):∀ (l:List (Str × Nat)),l.length < 21→Zq1 T2 prog (wb w b) n t (Zz9 (hz (wb w b)) L tk s e (e + 1) v tv l n t)
  | [],_=>Zqb (tk:=fun _ _ _ _=>0) (sl:=fun _=>Zq8) Zqq (fun _=>rfl) rfl (PT0_v prog w b L tk s.p 0 s.ln 0 s.st e v tv  n t) fun f q hq=>nomatch hq
  | [y0],_=>Zqb (tk:=fun _ _ _ _=>0) (sl:=fun _=>Zq8) Zqq (fun _=>rfl) rfl (PT1_v prog w b L tk s.p 0 s.ln 0 s.st e v tv y0 n t) fun f q hq=>nomatch hq
  | [y0,y1],_=>Zqb (tk:=fun _ _ _ _=>0) (sl:=fun _=>Zq8) Zqq (fun _=>rfl) rfl (PT2_v prog w b L tk s.p 0 s.ln 0 s.st e v tv y0 y1 n t) fun f q hq=>nomatch hq
  | [y0,y1,y2],_=>Zqb (tk:=fun _ _ _ _=>0) (sl:=fun _=>Zq8) Zqq (fun _=>rfl) rfl (PT3_v prog w b L tk s.p 0 s.ln 0 s.st e v tv y0 y1 y2 n t) fun f q hq=>nomatch hq
  | [y0,y1,y2,y3],_=>Zqb (tk:=fun _ _ _ _=>0) (sl:=fun _=>Zq8) Zqq (fun _=>rfl) rfl (PT4_v prog w b L tk s.p 0 s.ln 0 s.st e v tv y0 y1 y2 y3 n t) fun f q hq=>nomatch hq
  | [y0,y1,y2,y3,y4],_=>Zqb (tk:=fun _ _ _ _=>0) (sl:=fun _=>Zq8) Zqq (fun _=>rfl) rfl (PT5_v prog w b L tk s.p 0 s.ln 0 s.st e v tv y0 y1 y2 y3 y4 n t) fun f q hq=>nomatch hq
  | [y0,y1,y2,y3,y4,y5],_=>Zqb (tk:=fun _ _ _ _=>0) (sl:=fun _=>Zq8) Zqq (fun _=>rfl) rfl (PT6_v prog w b L tk s.p 0 s.ln 0 s.st e v tv y0 y1 y2 y3 y4 y5 n t) fun f q hq=>nomatch hq
  | [y0,y1,y2,y3,y4,y5,y6],_=>Zqb (tk:=fun _ _ _ _=>0) (sl:=fun _=>Zq8) Zqq (fun _=>rfl) rfl (PT7_v prog w b L tk s.p 0 s.ln 0 s.st e v tv y0 y1 y2 y3 y4 y5 y6 n t) fun f q hq=>nomatch hq
  | [y0,y1,y2,y3,y4,y5,y6,y7],_=>Zqb (tk:=fun _ _ _ _=>0) (sl:=fun _=>Zq8) Zqq (fun _=>rfl) rfl (PT8_v prog w b L tk s.p 0 s.ln 0 s.st e v tv y0 y1 y2 y3 y4 y5 y6 y7 n t) fun f q hq=>nomatch hq
  | [y0,y1,y2,y3,y4,y5,y6,y7,y8],_=>Zqb (tk:=fun _ _ _ _=>0) (sl:=fun _=>Zq8) Zqq (fun _=>rfl) rfl (PT9_v prog w b L tk s.p 0 s.ln 0 s.st e v tv y0 y1 y2 y3 y4 y5 y6 y7 y8 n t) fun f q hq=>nomatch hq
  | [y0,y1,y2,y3,y4,y5,y6,y7,y8,y9],_=>Zqb (tk:=fun _ _ _ _=>0) (sl:=fun _=>Zq8) Zqq (fun _=>rfl) rfl (PT10_v prog w b L tk s.p 0 s.ln 0 s.st e v tv y0 y1 y2 y3 y4 y5 y6 y7 y8 y9 n t) fun f q hq=>nomatch hq
  | [y0,y1,y2,y3,y4,y5,y6,y7,y8,y9,y10],_=>Zqb (tk:=fun _ _ _ _=>0) (sl:=fun _=>Zq8) Zqq (fun _=>rfl) rfl (PT11_v prog w b L tk s.p 0 s.ln 0 s.st e v tv y0 y1 y2 y3 y4 y5 y6 y7 y8 y9 y10 n t) fun f q hq=>nomatch hq
  | [y0,y1,y2,y3,y4,y5,y6,y7,y8,y9,y10,y11],_=>Zqb (tk:=fun _ _ _ _=>0) (sl:=fun _=>Zq8) Zqq (fun _=>rfl) rfl (PT12_v prog w b L tk s.p 0 s.ln 0 s.st e v tv y0 y1 y2 y3 y4 y5 y6 y7 y8 y9 y10 y11 n t) fun f q hq=>nomatch hq
  | [y0,y1,y2,y3,y4,y5,y6,y7,y8,y9,y10,y11,y12],_=>Zqb (tk:=fun _ _ _ _=>0) (sl:=fun _=>Zq8) Zqq (fun _=>rfl) rfl (PT13_v prog w b L tk s.p 0 s.ln 0 s.st e v tv y0 y1 y2 y3 y4 y5 y6 y7 y8 y9 y10 y11 y12 n t) fun f q hq=>nomatch hq
  | [y0,y1,y2,y3,y4,y5,y6,y7,y8,y9,y10,y11,y12,y13],_=>Zqb (tk:=fun _ _ _ _=>0) (sl:=fun _=>Zq8) Zqq (fun _=>rfl) rfl (PT14_v prog w b L tk s.p 0 s.ln 0 s.st e v tv y0 y1 y2 y3 y4 y5 y6 y7 y8 y9 y10 y11 y12 y13 n t) fun f q hq=>nomatch hq
  | [y0,y1,y2,y3,y4,y5,y6,y7,y8,y9,y10,y11,y12,y13,y14],_=>Zqb (tk:=fun _ _ _ _=>0) (sl:=fun _=>Zq8) Zqq (fun _=>rfl) rfl (PT15_v prog w b L tk s.p 0 s.ln 0 s.st e v tv y0 y1 y2 y3 y4 y5 y6 y7 y8 y9 y10 y11 y12 y13 y14 n t) fun f q hq=>nomatch hq
  | [y0,y1,y2,y3,y4,y5,y6,y7,y8,y9,y10,y11,y12,y13,y14,y15],_=>Zqb (tk:=fun _ _ _ _=>0) (sl:=fun _=>Zq8) Zqq (fun _=>rfl) rfl (PT16_v prog w b L tk s.p 0 s.ln 0 s.st e v tv y0 y1 y2 y3 y4 y5 y6 y7 y8 y9 y10 y11 y12 y13 y14 y15 n t) fun f q hq=>nomatch hq
  | [y0,y1,y2,y3,y4,y5,y6,y7,y8,y9,y10,y11,y12,y13,y14,y15,y16],_=>Zqb (tk:=fun _ _ _ _=>0) (sl:=fun _=>Zq8) Zqq (fun _=>rfl) rfl (PT17_v prog w b L tk s.p 0 s.ln 0 s.st e v tv y0 y1 y2 y3 y4 y5 y6 y7 y8 y9 y10 y11 y12 y13 y14 y15 y16 n t) fun f q hq=>nomatch hq
  | [y0,y1,y2,y3,y4,y5,y6,y7,y8,y9,y10,y11,y12,y13,y14,y15,y16,y17],_=>Zqb (tk:=fun _ _ _ _=>0) (sl:=fun _=>Zq8) Zqq (fun _=>rfl) rfl (PT18_v prog w b L tk s.p 0 s.ln 0 s.st e v tv y0 y1 y2 y3 y4 y5 y6 y7 y8 y9 y10 y11 y12 y13 y14 y15 y16 y17 n t) fun f q hq=>nomatch hq
  | [y0,y1,y2,y3,y4,y5,y6,y7,y8,y9,y10,y11,y12,y13,y14,y15,y16,y17,y18],_=>Zqb (tk:=fun _ _ _ _=>0) (sl:=fun _=>Zq8) Zqq (fun _=>rfl) rfl (PT19_v prog w b L tk s.p 0 s.ln 0 s.st e v tv y0 y1 y2 y3 y4 y5 y6 y7 y8 y9 y10 y11 y12 y13 y14 y15 y16 y17 y18 n t) fun f q hq=>nomatch hq
  | [y0,y1,y2,y3,y4,y5,y6,y7,y8,y9,y10,y11,y12,y13,y14,y15,y16,y17,y18,y19],_=>Zqb (tk:=fun _ _ _ _=>0) (sl:=fun _=>Zq8) Zqq (fun _=>rfl) rfl (PT20_v prog w b L tk s.p 0 s.ln 0 s.st e v tv y0 y1 y2 y3 y4 y5 y6 y7 y8 y9 y10 y11 y12 y13 y14 y15 y16 y17 y18 y19 n t) fun f q hq=>nomatch hq
  | y0::y1::y2::y3::y4::y5::y6::y7::y8::y9::y10::y11::y12::y13::y14::y15::y16::y17::y18::y19::y20::r,h=>absurd h (by simp only [List.length_cons]; lia)
noncomputable def orc_NX:List Nat:=Zxh 16 53 0x60000304400040000046666054321510450000500050005111000
noncomputable def orc_NXP:List Nat:=Zxh 16 53 0x60000304400040000046666054321510450000500050005111000
theorem NX_v (prog:Program) (w:World) (b:Bool) (L:Lx) (tk:Nat→Nat) (s':Lt) (p:Nat) (z:Str) (ln e:Int) (U:Str) (n t:Nat) (f:Nat→Ext) :
    Zq6 [0,1,2,3,4] (nxCon (hz (wb w b)) L tk ⟨p,some z,ln⟩ s' e U n t) (gtEx 0 f) Zq8 []
      (Zzs T2 prog (wb w b) n t [] [gtFam (hz (wb w b)) L ⟨p,some z,ln⟩ s' e U] (nxCon (hz (wb w b)) L tk ⟨p,some z,ln⟩ s' e U n t) orc_NX f):=by cases b <;> kernel_rfl
theorem NXP_v (prog:Program) (w:World) (b:Bool) (L:Lx) (tk:Nat→Nat) (p:Nat) (z:Str) (ln e:Int) (v:Str) (tv:Nat) (r:List (Str × Nat)) (n t:Nat) (f:Nat→Ext) :
    Zq6 [0,1,2,3,4] (nxConP (hz (wb w b)) L tk ⟨p,some z,ln⟩ e v tv r n t) (fun _ _ _=>0) Zq8 []
      (Zzs T2 prog (wb w b) n t [] [gtFamP (hz (wb w b)) L ⟨p,some z,ln⟩ e v tv r] (nxConP (hz (wb w b)) L tk ⟨p,some z,ln⟩ e v tv r n t) orc_NXP f):=by cases b <;> kernel_rfl
theorem NXP0_v (prog:Program) (w:World) (b:Bool) (L:Lx) (tk:Nat→Nat) (p:Nat) (ln e:Int) (v:Str) (tv:Nat) (r:List (Str × Nat)) (n t:Nat) (f:Nat→Ext) :
    Zq6 [0,1,2,3,4] (nxConP (hz (wb w b)) L tk ⟨p,none,ln⟩ e v tv r n t) (fun _ _ _=>0) Zq8 []
      (Zzs T2 prog (wb w b) n t [] [gtFamP (hz (wb w b)) L ⟨p,none,ln⟩ e v tv r] (nxConP (hz (wb w b)) L tk ⟨p,none,ln⟩ e v tv r n t) orc_NXP f):=by cases b <;> kernel_rfl
theorem gtFam_ok {prog:Program} {w:World} {b:Bool} {L:Lx} {p:Nat} {ln:Int} {z U:Str} {s':Lt} (h:RtOk prog w b L ⟨p,some z,ln⟩ s' (some U)) (e:Int) (n t:Nat) (c:Code) (l:List (Option (Addr × Obj))) (bb:List (Option Bag)) :
    Zq1 T2 prog (wb w b) n t (gtFam (hz (wb w b)) L ⟨p,some z,ln⟩ s' e U n t c l bb):=gt_ok h (Zvm l) e n t
theorem gtFamP_ok {prog:Program} {w:World} {b:Bool} {L:Lx} (s:Lt) (e:Int) (v:Str) (tv:Nat) (r:List (Str × Nat)) (hr:r.length < 21) (n t:Nat) (c:Code) (l:List (Option (Addr × Obj))) (bb:List (Option Bag)) :
    Zq1 T2 prog (wb w b) n t (gtFamP (hz (wb w b)) L s e v tv r n t c l bb):=gp_ok (Zvm l) s e v tv n t r hr
theorem nx_ok {prog:Program} {w:World} {b:Bool} {L:Lx} {p:Nat} {ln:Int} {z U:Str} {s':Lt} (h:RtOk prog w b L ⟨p,some z,ln⟩ s' (some U)) (tk:Nat→Nat) (e:Int) (n t:Nat) :
    Zq1 T2 prog (wb w b) n t (nxCon (hz (wb w b)) L tk ⟨p,some z,ln⟩ s' e U n t) :=
  Zqb (tk:=gtEx 0) (sl:=fun _=>Zq8) (Zqx (gtFam_ok h e) Zqq) (fun _=>rfl) rfl (NX_v prog w b L tk s' p z ln e U n t) fun f q hq=>nomatch hq
theorem nxp_ok {prog:Program} {w:World} {b:Bool} {L:Lx} (tk:Nat→Nat) (s:Lt) (e:Int) (v:Str) (tv:Nat) (r:List (Str × Nat)) (hr:r.length < 21) (n t:Nat) :
    Zq1 T2 prog (wb w b) n t (nxConP (hz (wb w b)) L tk s e v tv r n t):=by
  obtain ⟨p,st,ln⟩:=s
  cases st with
  | none=>exact Zqb (tk:=fun _ _ _ _=>0) (sl:=fun _=>Zq8) (Zqx (gtFamP_ok ⟨p,none,ln⟩ e v tv r hr) Zqq) (fun _=>rfl) rfl (NXP0_v prog w b L tk p ln e v tv r n t) fun f q hq=>nomatch hq
  | some z=>exact Zqb (tk:=fun _ _ _ _=>0) (sl:=fun _=>Zq8) (Zqx (gtFamP_ok ⟨p,some z,ln⟩ e v tv r hr) Zqq) (fun _=>rfl) rfl (NXP_v prog w b L tk p z ln e v tv r n t) fun f q hq=>nomatch hq
section
variable {prog:Program} {w:World}
theorem fn_call {A:Around} {a:Addr} {args:Args} {s:Shared} {o:Obj} {fd:FuncData} {R:Result→Shared→Prop} (ho:s.heap.get? a = some o) (hd:isDef o = some fd) (hroom:(A.under (.call (.ref a) args)).depth < recursionLimit)
    (h:wpAny (model prog w) (A.under (.call (.ref a) args)) (Zkz a fd args) (fun env s'=>s'.heap.NoLimit∧codeAny (model prog w) A (Zjm fd env) R s') (fun e=>R (.error e)) s):codeAny (model prog w) A (.call (.ref a) args) R s:=by
  obtain ⟨hdat,hg,hco⟩:=isDef_is hd
  refine x_code ?_
  show wpAny (model prog w) (A.under (.call (.ref a) args)) (callAny (.ref a) args) _ _ _
  simp only [callAny]
  refine wpAny_bind (wpAny_load ho ?_)
  simp only [hdat]
  rw [callFunction_eq a fd args hg hco]
  refine wpAny_bind (wpAny_mono h (fun env s' q=>?_) fun _ _ q=>q)
  refine wpAny_bind (wpAny_enterFrame q.1 hroom ?_)
  exact wpAny_pure ⟨codeOf_quiet fd env,q.2⟩
theorem fn_body {A:Around} {body:List Stmt} {env:Env} {s:Shared} {R:Result→Shared→Prop}
    (h:wpAny (model prog w) (A.under (.func body env)) (execs body env) (fun f s'=>R (.ok (.ret (match f with | .ret v=>v | _=>.none))) s') (fun e s'=>wpAny (model prog w) (A.under (.func body env)) (leaving env e) (fun _ s''=>R (.error e) s'') (fun e' s''=>R (.error e') s'') s') s) :
    codeAny (model prog w) A (.func body env) R s:=by
  refine x_code ?_
  show wpAny (model prog w) (A.under (.func body env)) (denote table (.func body env)) _ _ _
  simp only [denote]
  refine wpAny_bind (x_point (wpAny_pure ?_))
  refine wpAny_bind (wpAny_onRaise (wpAny_mono h (fun f s' q=>?_) fun e s' q=>q))
  cases f with
  | ret v=>exact wpAny_pure q
  | next=>exact wpAny_pure q
  | brk=>exact wpAny_pure q
  | cont=>exact wpAny_pure q
end
theorem execs_nil (env:Env):execs [] env = pure .next:=by simp [execs]
theorem Zz7 (a:Stmt) (r:List Stmt) (env:Env):execs (a::r) env = (exec a env >>= fun f=>match f with | .next=>execs r env | f=>pure f):=by
  simp only [execs]
  refine congrArg _ (funext fun f=>?_)
  cases f <;> rfl
theorem Zj4 (a:Stmt) (env:Env):execs [a] env = exec a env:=by
  rw [Zz7]
  have:(fun f:Flow=>match f with | .next=>execs [] env | f=>(pure f:Sem Flow)) = pure:=by
    funext f
    cases f with
    | next=>exact execs_nil env
    | _=>rfl
  rw [this,bind_pure]
theorem eqT {α:Type} {M:Model} {A:Around} {m m':Sem α} {Q:α→Shared→Prop} {E:Value→Shared→Prop} {s:Shared} (e:m' = m) (h:wpAny M A m' Q E s):wpAny M A m Q E s:=e ▸ h
theorem iteP {α:Type} {M:Model} {A:Around} {c:Prop} [Decidable c] {m m':Sem α} {Q:α→Shared→Prop} {E:Value→Shared→Prop} {s:Shared} (e:c) (h:wpAny M A m Q E s):wpAny M A (if c then m else m') Q E s:=by rw [if_pos e]; exact h
theorem iteN {α:Type} {M:Model} {A:Around} {c:Prop} [Decidable c] {m m':Sem α} {Q:α→Shared→Prop} {E:Value→Shared→Prop} {s:Shared} (e:¬ c) (h:wpAny M A m' Q E s):wpAny M A (if c then m else m') Q E s:=by rw [if_neg e]; exact h
noncomputable def orc_NP:List Nat:=[0,1,1]
noncomputable def orc_NS1:List Nat:=Zxh 16 28 0x7706543216104500005000500051
noncomputable def orc_NS2:List Nat:=Zxh 16 19 0x4055000500000511
noncomputable def orc_NS3:List Nat:=[0,0]
noncomputable abbrev Zqm:List Stmt→Env→Sem Flow:=W.ZFast.zw12563942051412417395
noncomputable abbrev Zq9:Expr→Env→Sem Value:=W.ZFast.zw14044960220447912780
noncomputable abbrev isTrueZ:Expr→Env→Sem Value→Sem Bool:=W.ZFast.zw15418851999007992765
noncomputable def npEx (_:Except Value Env) (l:List (Option (Addr × Obj))) (_:List (Option Bag)):Ext:=exN fun _=>Zj2 l 0 0
noncomputable def ns1Ex (f:Nat→Ext) (_:Except Value Flow) (l:List (Option (Addr × Obj))) (_:List (Option Bag)):Ext:=exN fun j=>match j with
  | 4=>Zj2 l 0 1
  | j=>(f 0).nat (j + 2)
theorem NP_v (prog:Program) (w:World) (b:Bool) (L:Lx) (n t:Nat) (f:Nat→Ext) :
    Zqh [0] [] (nxPrep (hz (wb w b)) (Zqf (wb w b)) Zjw L n t) npEx [] (Zzz T2 prog (wb w b) n t [] [] (nxPrep (hz (wb w b)) (Zqf (wb w b)) Zjw L n t) orc_NP f):=by cases b <;> kernel_rfl
theorem NS1_v (prog:Program) (w:World) (b:Bool) (L:Lx) (tk:Nat→Nat) (fr k p:Nat) (z:Str) (ln:Int) (s':Lt) (e e':Int) (n t:Nat) (f:Nat→Ext) :
    Zqh [6,0,1,2,3,4,5] [] (nxS1 (hz (wb w b)) (Zqf (wb w b)) Zqm L tk fr k ⟨p,some z,ln⟩ s' e e' n t) (ns1Ex f) []
      (Zzz T2 prog (wb w b) n t [] [gtFamE (hz (wb w b)) L ⟨p,some z,ln⟩ s' e e'] (nxS1 (hz (wb w b)) (Zqf (wb w b)) Zqm L tk fr k ⟨p,some z,ln⟩ s' e e' n t) orc_NS1 f):=by cases b <;> kernel_rfl
theorem NS10_v (prog:Program) (w:World) (b:Bool) (L:Lx) (tk:Nat→Nat) (fr k p:Nat) (ln:Int) (s':Lt) (e e':Int) (n t:Nat) (f:Nat→Ext) :
    Zqh [6,0,1,2,3,4,5] [] (nxS1 (hz (wb w b)) (Zqf (wb w b)) Zqm L tk fr k ⟨p,none,ln⟩ s' e e' n t) (ns1Ex f) []
      (Zzz T2 prog (wb w b) n t [] [gtFamE (hz (wb w b)) L ⟨p,none,ln⟩ s' e e'] (nxS1 (hz (wb w b)) (Zqf (wb w b)) Zqm L tk fr k ⟨p,none,ln⟩ s' e e' n t) orc_NS1 f):=by cases b <;> kernel_rfl
theorem NS2_v (prog:Program) (w:World) (b:Bool) (L:Lx) (tk:Nat→Nat) (fr k k':Nat) (s:Lt) (n t:Nat) (f:Nat→Ext) :
    Zqh [0,1,2,3,4] [] (nxS2 (hz (wb w b)) (Zqf (wb w b)) isTrueZ Zq9 L tk fr k k' s n t) (fun _ _ _=>exN fun _=>0) []
      (Zzz T2 prog (wb w b) n t [] [] (nxS2 (hz (wb w b)) (Zqf (wb w b)) isTrueZ Zq9 L tk fr k k' s n t) orc_NS2 f):=by cases b <;> kernel_rfl
theorem NS3_v (prog:Program) (w:World) (b:Bool) (L:Lx) (fr k k':Nat) (n t:Nat) (f:Nat→Ext) :
    Zqh [0] [] (nxS3 (hz (wb w b)) (Zqf (wb w b)) Zq9 L fr k k' n t) (fun _ _ _=>exN fun _=>0) []
      (Zzz T2 prog (wb w b) n t [] [] (nxS3 (hz (wb w b)) (Zqf (wb w b)) Zq9 L fr k k' n t) orc_NS3 f):=by cases b <;> kernel_rfl
theorem np_ok {prog:Program} {w:World} {b:Bool} (L:Lx) (n t:Nat):Zqn T2 prog (wb w b) n t (nxPrep (hz (wb w b)) (Zqf (wb w b)) Zjw L n t) :=
  Zqw (ex:=fun _=>npEx) Zqq rfl rfl (NP_v prog w b L n t) fun f q hq=>nomatch hq
theorem gtFamE_ok {prog:Program} {w:World} {b:Bool} {L:Lx} {s s':Lt} (h:RtOk prog w b L s s' none) (e e':Int) (n t:Nat) (c:Code) (l:List (Option (Addr × Obj))) (bb:List (Option Bag)) :
    Zq1 T2 prog (wb w b) n t (gtFamE (hz (wb w b)) L s s' e e' n t c l bb):=by
  obtain ⟨p,st,ln⟩:=s
  obtain ⟨p',st',ln'⟩:=s'
  exact ge_ok h (Zvm l) e e' n t
theorem ns1_ok {prog:Program} {w:World} {b:Bool} {L:Lx} {s s':Lt} (h:RtOk prog w b L s s' none) (tk:Nat→Nat) (fr k:Nat) (e e':Int) (n t:Nat) :
    Zqn T2 prog (wb w b) n t (nxS1 (hz (wb w b)) (Zqf (wb w b)) Zqm L tk fr k s s' e e' n t):=by
  obtain ⟨p,st,ln⟩:=s
  cases st with
  | none=>exact Zqw (ex:=ns1Ex) (Zqx (gtFamE_ok h e e') Zqq) rfl rfl (NS10_v prog w b L tk fr k p ln s' e e' n t) fun f q hq=>nomatch hq
  | some z=>exact Zqw (ex:=ns1Ex) (Zqx (gtFamE_ok h e e') Zqq) rfl rfl (NS1_v prog w b L tk fr k p z ln s' e e' n t) fun f q hq=>nomatch hq
theorem ns2_ok {prog:Program} {w:World} {b:Bool} {L:Lx} (tk:Nat→Nat) (fr k k':Nat) (s:Lt) (n t:Nat):Zqn T2 prog (wb w b) n t (nxS2 (hz (wb w b)) (Zqf (wb w b)) isTrueZ Zq9 L tk fr k k' s n t) :=
  Zqw (ex:=fun _ _ _ _=>exN fun _=>0) Zqq rfl rfl (NS2_v prog w b L tk fr k k' s n t) fun f q hq=>nomatch hq
theorem ns3_ok {prog:Program} {w:World} {b:Bool} {L:Lx} (fr k k':Nat) (n t:Nat):Zqn T2 prog (wb w b) n t (nxS3 (hz (wb w b)) (Zqf (wb w b)) Zq9 L fr k k' n t) :=
  Zqw (ex:=fun _ _ _ _=>exN fun _=>0) Zqq rfl rfl (NS3_v prog w b L fr k k' n t) fun f q hq=>nomatch hq
noncomputable def readT {α:Type} (top:Addr→Option Obj) (set:Setting):Sem α→Option α
  | .pure a=>some a
  | .rule _ k=>readT top set (k ())
  | .at _ k=>readT top set (k ())
  | .point _ k=>readT top set (k ())
  | .ask k=>readT top set (k set)
  | .load a _ k=>match top a with
    | some o=>readT top set (k o)
    | none=>none
  | _=>none
theorem readT_load {α:Type} (top:Addr→Option Obj) (set:Setting) (a:Addr) (p:Option Value) (k:Obj→Sem α):readT top set (.load a p k) = (match top a with | some o=>readT top set (k o) | none=>none):=by kernel_rfl
theorem Zk2 {α:Type} {top:Addr→Option Obj} {prog:Program} {w:World} {A:Around} {s:Shared} {Q:α→Shared→Prop} {E:Value→Shared→Prop} (h:∀ a o,top a = some o→s.heap.get? a = some o) {v:α} :
    ∀ {t:Sem α},readT top ⟨prog,w.params⟩ t = some v→Q v s→wpAny (model prog w) A t Q E s:=by
  intro t
  induction t with
  | pure a=>intro e q; cases e; exact x_pure q
  | rule _ k ih=>intro e q; exact x_rule (ih () e q)
  | «at» _ k ih=>intro e q; exact x_at (ih () e q)
  | point _ k ih=>intro e q; exact x_point (ih () e q)
  | ask k ih=>intro e q; exact x_ask (ih _ e q)
  | load a p k ih =>
    intro e q
    rw [readT_load] at e
    cases ho:top a with
    | none=>rw [ho] at e; cases e
    | some o=>rw [ho] at e; exact x_load (h a o ho) (ih o e q)
  | _=>intro e; cases e
noncomputable def FrAre:List Env→List (Addr × Obj)→Prop
  | [],[]=>True
  | e::es,p::ps=>e.scope.kind≠.module∧e.frame = some p.1∧(∀ vs,p.2.data≠.fields vs)∧FrAre es ps
  | _,_=>False
noncomputable def Zk9 (f:Nat→Array (Option Value)):List (Addr × Obj)→List (Addr × Obj)
  | []=>[]
  | (a,o)::r=>(a,{ o with slots:=f 0 })::Zk9 (fun k=>f (k + 1)) r
theorem withSl_fst:∀ (f:Nat→Array (Option Value)) (l:List (Addr × Obj)),(Zk9 f l).map (·.1) = l.map (·.1)
  | _,[]=>rfl
  | f,(a,o)::r=>congrArg (a::·) (withSl_fst _ r)
theorem funFrames_of {base h:Heap}:∀ {es:List Env} {ps:List (Addr × Obj)},FrAre es ps→(∀ p ∈ ps,base.get? p.1 = none∧h.get? p.1 = some p.2)→h.FunFrames base es
  | [],[],_,_=>trivial
  | [],_::_,x,_=>x.elim
  | _::_,[],x,_=>x.elim
  | e::es,p::ps,⟨h1,h2,h3,h4⟩,hp=>⟨h1,⟨p.1,p.2,h2,(hp p (.head _)).1,(hp p (.head _)).2,h3⟩,funFrames_of h4 fun q hq=>hp q (.tail _ hq)⟩
theorem frAre_data:∀ {es:List Env} {ps:List (Addr × Obj)},FrAre es ps→∀ p ∈ ps,∀ vs,p.2.data≠.fields vs
  | [],[],_,_,hp=>nomatch hp
  | [],_::_,x,_,_=>x.elim
  | _::_,[],x,_,_=>x.elim
  | e::es,p::ps,⟨h1,h2,h3,h4⟩,q,hq=>by
    rcases List.mem_cons.mp hq with rfl | hq
    · exact h3
    · exact frAre_data h4 q hq
theorem slots_exist {h':Heap}:∀ {ps:List (Addr × Obj)},(∀ p ∈ ps,∃ sl,h'.get? p.1 = some { p.2 with slots:=sl })→∃ f,∀ p ∈ Zk9 f ps,h'.get? p.1 = some p.2
  | [],_=>⟨fun _=>#[],fun p hp=>nomatch hp⟩
  | (a,o)::r,h=>by
    obtain ⟨sl,hs⟩:=h (a,o) (.head _)
    obtain ⟨f,hf⟩:=slots_exist (ps:=r) fun p hp=>h p (.tail _ hp)
    refine ⟨fun k=>match k with | 0=>sl | k + 1=>f k,fun p hp=>?_⟩
    rcases List.mem_cons.mp hp with rfl | hp
    · exact hs
    · exact hf p hp
theorem leaves {prog:Program} {w:World} {A:Around} {env:Env} {es:List Env} {fo l:List (Addr × Obj)} {h₀ h h':Heap} {e:Addr} {r:Zkc} {tk:Clk} {Q:Unit→Shared→Prop} {E:Value→Shared→Prop}
    (hfr:A.frames = some (env::es)) (hf:FrAre (env::es) fo) (O:Own h₀ (fo++l) h) (M:Heap.MadeExc h h' e "StopIteration" [])
    (hR:∀ (f:Nat→Array (Option Value)) (o:Obj) (h'':Heap),Own h₀ ((e,{ o with cls:=.type "StopIteration" })::(Zk9 f fo++l)) h''→Q () (r.at h'' tk)) :
    wpAny (model prog w) A (leaving env (.ref e)) Q E (r.at h' tk):=by
  obtain ⟨t,he,_⟩:=M.there
  have nd:=O.nodup
  rw [List.map_append,List.nodup_append] at nd
  have own':∀ p ∈ fo++l,h'.get? p.1 = some p.2:=fun p hp=>M.keeps _ _ (O.own p hp)
  have ne_e:∀ b o,h.get? b = some o→b≠e:=fun b o hb q=>by rw [q,M.new] at hb; cases hb
  have hb:∀ b o,h'.get? b = some o→b≠e→b ∉ fo.map (·.1)→(hideAll h' (e::fo.map (·.1))).get? b = some o:=fun b o h1 h2 h3 =>
    hideAll_get _ h1 fun z=>(List.mem_cons.mp z).elim h2 h3
  obtain ⟨L,hL⟩:∃ L,env.frame = some L:=by
    cases fo with
    | nil=>exact hf.elim
    | cons p ps=>exact ⟨p.1,hf.2.1⟩
  refine wpAny_leaving_first (base:=hideAll h' (e::fo.map (·.1))) hfr (funFrames_of hf fun p hp=>⟨hideAll_none _ (.tail _ (List.mem_map_of_mem hp)),own' p (List.mem_append_left _ hp)⟩) hL he
    (fun b o q=>of_hideAll _ q) (hideAll_none _ (.head _)) rfl rfl fun h'' ⟨st,_,tr,sl⟩=>?_
  obtain ⟨oe,_,_,_,_,ge,gc,_⟩:=tr
  obtain ⟨f,hfs⟩:=slots_exist (h':=h'') (ps:=fo) fun p hp=>sl p.1 p.2 (own' p (List.mem_append_left _ hp)) (frAre_data hf p hp)
  refine hR f oe h'' ⟨fun b o q=>?_,fun p hp=>?_,?_,fun p hp=>?_⟩
  · have q1:=O.keep b o q
    refine st b o (hb b o (M.keeps _ _ q1) (ne_e b o q1) fun z=>?_)
    obtain ⟨p,hp,rfl⟩:=List.mem_map.mp z
    rw [O.apart p (List.mem_append_left _ hp)] at q; cases q
  · rcases List.mem_cons.mp hp with rfl | hp
    · show h''.get? e = some { oe with cls:=.type "StopIteration" }
      have gc':oe.cls = .type "StopIteration" := gc
      rw [ge,← gc']
    · rcases List.mem_append.mp hp with hp | hp
      · exact hfs p hp
      · exact st _ _ (hb _ _ (own' p (List.mem_append_right _ hp)) (ne_e _ _ (O.own p (List.mem_append_right _ hp))) fun z=>nd.2.2 _ z _ (List.mem_map_of_mem hp) rfl)
  · rw [List.map_cons,List.map_append,withSl_fst,← List.map_append,List.nodup_cons]
    refine ⟨fun z=>?_,O.nodup⟩
    obtain ⟨p,hp,q⟩:=List.mem_map.mp z
    exact ne_e _ _ (O.own p hp) q
  · rcases List.mem_cons.mp hp with rfl | hp
    · show h₀.get? e = none
      cases q:h₀.get? e with
      | none=>rfl
      | some o=>exact absurd rfl (ne_e _ _ (O.keep _ _ q))
    · have hm:p.1 ∈ (fo++l).map (·.1):=by
        rw [List.map_append,← withSl_fst f fo,← List.map_append]
        exact List.mem_map_of_mem hp
      obtain ⟨q,hq,e'⟩:=List.mem_map.mp hm
      rw [← e']; exact O.apart q hq
theorem AOk.bare {A:Around} {fs:Option (List Env)} {n m:Nat} (h:AOk A fs n) (hm:m≤n):AOk A none m:=⟨h.hand,by have:=h.deep; lia,by have:=h.units; lia,fun l e=>by cases e⟩
noncomputable def nxeCon (w:Hs) (L:Lx) (tk:Nat→Nat) (s s':Lt) (e e':Int) (es:List Env) (fo:List (Addr × Obj)) (n t:Nat):Con where
  pre:=Zjb w L tk s e e'++fo
  post x:=Zjb w L x.tk s' e e'++Zk9 x.sl fo
  fresh x:=[(x.nat 7,{ x.ob with cls:=.type "StopIteration" })]
  code:=nxCode L
  res x:=.error (.ref (x.nat 7))
  need:=60
  fr:=some es
noncomputable def Zxs (w:World):FuncData:=Zxv (Zqf w) 745
noncomputable def ifNm (e:Expr):Str:=match e with
  | .Name x _=>x
  | _ => ""
noncomputable def ifNp (e:Expr):Pos:=match e with
  | .Name _ p=>p
  | _=>default
noncomputable def ifRp (s:Stmt):Pos:=match s with
  | .If _ b _ _=>match b with
    | x::_=>match x with
      | .Raise _ _ p=>p
      | _=>default
    | []=>default
  | _=>default
noncomputable def ifPo (s:Stmt):Pos:=match s with
  | .If _ _ _ p=>p
  | _=>default
theorem d745 (w:World) (b:Bool):((Zqf (wb w b) 745).bind isDef) = some (Zxs (wb w b)):=by cases b <;> kernel_rfl
theorem body745 (w:World) (b:Bool):(Zxs (wb w b)).body = .stmts [Zqt (Zxs (wb w b)) 0,Zqt (Zxs (wb w b)) 1,Zqt (Zxs (wb w b)) 2]:=by cases b <;> kernel_rfl
theorem if745 (w:World) (b:Bool):Zqt (Zxs (wb w b)) 1 = .If (ifTest (Zqt (Zxs (wb w b)) 1)) [.Raise (some (.Name (ifNm (ifRaise (Zqt (Zxs (wb w b)) 1))) (ifNp (ifRaise (Zqt (Zxs (wb w b)) 1))))) none (ifRp (Zqt (Zxs (wb w b)) 1))] [] (ifPo (Zqt (Zxs (wb w b)) 1)):=by cases b <;> kernel_rfl
theorem ifr745 (w:World) (b:Bool):ifRaise (Zqt (Zxs (wb w b)) 1) = .Name (ifNm (ifRaise (Zqt (Zxs (wb w b)) 1))) (ifNp (ifRaise (Zqt (Zxs (wb w b)) 1))):=by cases b <;> kernel_rfl
theorem kind745 (w:World) (b:Bool):(Zxs (wb w b)).scope.kind = .function:=by cases b <;> kernel_rfl
theorem name745 (prog:Program) (w:World) (b:Bool) (fr:Nat):readT (Zqf (wb w b)) ⟨prog,(wb w b).params⟩ (Zq9 (ifRaise (Zqt (Zxs (wb w b)) 1)) (Zkk (Zqf (wb w b)) fr)) = some (.type "StopIteration"):=by cases b <;> kernel_rfl
theorem Zzx:Zq9 = eval:=W.ZFast.ze14044960220447912780.symm
theorem Zzm:Zqm = execs:=W.ZFast.ze12563942051412417395.symm
theorem isTrueZ_eq:isTrueZ = PySem.isTrue:=W.ZFast.ze15418851999007992765.symm
theorem nxe_ok {prog:Program} {w:World} {b:Bool} {L:Lx} {s s':Lt} (h:RtOk prog w b L s s' none) (tk:Nat→Nat) (e e':Int) {es:List Env} {fo:List (Addr × Obj)} (hfo:FrAre es fo) (n t:Nat) :
    Zq1 T2 prog (wb w b) n t (nxeCon (hz (wb w b)) L tk s s' e e' es fo n t):=by
  refine ⟨fun h₀ hp r g A R G hA O hs hR=>?_⟩
  have O:Own h₀ (Zjb (hz (wb w b)) L tk s e e'++fo) hp:=by
    have z:Own h₀ ((Zjb (hz (wb w b)) L tk s e e'++fo)++[]) hp:=O
    rw [List.append_nil] at z; exact z
  have hd:=d745 w b
  obtain ⟨o,ho,hd⟩:=Option.bind_eq_some_iff.mp hd
  have hcall:AOk (A.under (nxCode L)) (some es) 59:=hA.under (Zzn rfl)
  refine fn_call (O.keep _ _ (G.top _ _ ho)) hd hcall.room ?_
  have e1:=(np_ok (prog:=prog) (w:=w) (b:=b) L n t).use (A:=A.under (nxCode L)) (r:=r) (g:=g) (rest:=Zjb (hz (wb w b)) L tk s e e'++fo) (Q:=fun env s'=>s'.heap.NoLimit∧codeAny (model prog (wb w b)) A (Zjm (Zxs (wb w b)) env) R s') (E:=fun x=>R (.error x)) G (hcall.bare (by show 20≤59; lia)) O (.refl _) hs
  have e2:(nxPrep (hz (wb w b)) (Zqf (wb w b)) Zjw L n t).tree = Zkz 745 (Zxs (wb w b)) ⟨[.ref L.lex],[]⟩:=by
    unfold nxPrep
    exact congrFun (congrFun (congrFun Zvv 745) (Zxs (wb w b))) ⟨[.ref L.lex],[]⟩
  rw [e2] at e1
  refine e1 fun x h1 g1 O1 hs1 gr1=>⟨G.nolimit.keeps O1.keep,?_⟩
  show codeAny _ A (Zjm (Zxs (wb w b)) (Zkk (Zqf (wb w b)) n)) R _
  unfold Zjm
  rw [body745]
  dsimp only
  generalize hk:x.nat 2 = k at O1
  have O1:Own h₀ (((n,nxF1 (hz (wb w b)) L k)::Zjb (hz (wb w b)) L tk s e e')++fo) h1:=by
    have z:Own h₀ (([(n,nxF1 (hz (wb w b)) L (x.nat 2))]++[])++[]++(Zjb (hz (wb w b)) L tk s e e'++fo)) h1:=O1
    rw [hk] at z
    simpa using z
  have hfun:AOk (A.under (.func [Zqt (Zxs (wb w b)) 0,Zqt (Zxs (wb w b)) 1,Zqt (Zxs (wb w b)) 2] (Zkk (Zqf (wb w b)) n))) (some (Zkk (Zqf (wb w b)) n::es)) 59:=hA.under (Zzn rfl)
  generalize hA2:A.under (.func [Zqt (Zxs (wb w b)) 0,Zqt (Zxs (wb w b)) 1,Zqt (Zxs (wb w b)) 2] (Zkk (Zqf (wb w b)) n)) = A2 at hfun
  refine fn_body ?_
  rw [hA2,Zz7]
  refine wpAny_bind ?_
  have f1:=(ns1_ok h tk n k e e' (n + x.nat 0) (t + x.nat 1)).use (A:=A2) (r:=r) (g:=g1) (rest:=fo) (Q:=fun f s''=>wpAny (model prog (wb w b)) A2 (match f with | .next=>execs [Zqt (Zxs (wb w b)) 1,Zqt (Zxs (wb w b)) 2] (Zkk (Zqf (wb w b)) n) | f=>pure f) (fun f s'=>R (.ok (.ret (match f with | .ret v=>v | _=>.none))) s') (fun e s'=>wpAny (model prog (wb w b)) A2 («leaving» (Zkk (Zqf (wb w b)) n) e) (fun _ s''=>R (.error e) s'') (fun e' s''=>R (.error e') s'') s') s'')
    (E:=fun e s'=>wpAny (model prog (wb w b)) A2 («leaving» (Zkk (Zqf (wb w b)) n) e) (fun _ s''=>R (.error e) s'') (fun e' s''=>R (.error e') s'') s') G (hfun.bare (by show 50≤59; lia)) O1 (by show List.Perm _ ((_++[])++_); rw [List.append_nil]; exact .refl _) hs1
  have f2:(nxS1 (hz (wb w b)) (Zqf (wb w b)) Zqm L tk n k s s' e e' (n + x.nat 0) (t + x.nat 1)).tree = exec (Zqt (Zxs (wb w b)) 0) (Zkk (Zqf (wb w b)) n):=by
    unfold nxS1
    exact (congrFun (congrFun Zzm [Zqt (Zxs (wb w b)) 0]) (Zkk (Zqf (wb w b)) n)).trans (Zj4 _ _)
  rw [f2] at f1
  refine f1 fun y h2 g2 O2 hs2 gr2=>?_
  show wpAny (model prog (wb w b)) A2 (execs [Zqt (Zxs (wb w b)) 1,Zqt (Zxs (wb w b)) 2] (Zkk (Zqf (wb w b)) n)) _ _ _
  have O2:Own h₀ (((n,nxF2 (hz (wb w b)) L k (y.nat 6))::Zjb (hz (wb w b)) L y.tk s' e e')++fo) h2:=by
    have z:Own h₀ ((([]++((n,nxF2 (hz (wb w b)) L k (y.nat 6))::Zjb (hz (wb w b)) L y.tk s' e e'))++[])++fo) h2:=O2
    simpa using z
  rw [Zz7]
  refine wpAny_bind ?_
  obtain ⟨nm,np,p1,pos,hst,hra⟩:∃ x np p1 pos,Zqt (Zxs (wb w b)) 1 = .If (ifTest (Zqt (Zxs (wb w b)) 1)) [.Raise (some (.Name x np)) none p1] [] pos∧ifRaise (Zqt (Zxs (wb w b)) 1) = .Name x np:=⟨_,_,_,_,if745 w b,ifr745 w b⟩
  rw [hst]
  refine wpAny_If ?_
  generalize hk2:y.nat 6 = k' at O2
  have c1:=(ns2_ok (prog:=prog) (w:=w) (b:=b) (L:=L) y.tk n k k' s' (n + x.nat 0 + y.nat 0) (t + x.nat 1 + y.nat 1)).use (A:=A2) (r:=r) (g:=g2) (rest:=[(L.pb,dqO e []),(L.fk,dqO e' [])]++fo)
    (Q:=fun b' s₂=>if b' = true then wpAny (model prog (wb w b)) A2 (execs [.Raise (some (.Name nm np)) none p1] (Zkk (Zqf (wb w b)) n)) (fun f s₃=>wpAny (model prog (wb w b)) A2 (match f with | .next=>execs [Zqt (Zxs (wb w b)) 2] (Zkk (Zqf (wb w b)) n) | f=>pure f) (fun f s'=>R (.ok (.ret (match f with | .ret v=>v | _=>.none))) s') (fun e s'=>wpAny (model prog (wb w b)) A2 («leaving» (Zkk (Zqf (wb w b)) n) e) (fun _ s''=>R (.error e) s'') (fun e' s''=>R (.error e') s'') s') s₃) (fun e s'=>wpAny (model prog (wb w b)) A2 («leaving» (Zkk (Zqf (wb w b)) n) e) (fun _ s''=>R (.error e) s'') (fun e' s''=>R (.error e') s'') s') s₂
      else wpAny (model prog (wb w b)) A2 (execs [] (Zkk (Zqf (wb w b)) n)) (fun f s₃=>wpAny (model prog (wb w b)) A2 (match f with | .next=>execs [Zqt (Zxs (wb w b)) 2] (Zkk (Zqf (wb w b)) n) | f=>pure f) (fun f s'=>R (.ok (.ret (match f with | .ret v=>v | _=>.none))) s') (fun e s'=>wpAny (model prog (wb w b)) A2 («leaving» (Zkk (Zqf (wb w b)) n) e) (fun _ s''=>R (.error e) s'') (fun e' s''=>R (.error e') s'') s') s₃) (fun e s'=>wpAny (model prog (wb w b)) A2 («leaving» (Zkk (Zqf (wb w b)) n) e) (fun _ s''=>R (.error e) s'') (fun e' s''=>R (.error e') s'') s') s₂)
    (E:=fun e s'=>wpAny (model prog (wb w b)) A2 («leaving» (Zkk (Zqf (wb w b)) n) e) (fun _ s''=>R (.error e) s'') (fun e' s''=>R (.error e') s'') s') G (hfun.bare (by show 20≤59; lia)) O2
    (by show List.Perm _ ((((n,nxF2 (hz (wb w b)) L k k')::Zq3 (hz (wb w b)) L y.tk s')++[])++_); rw [List.append_nil]; unfold Zjb; simp) hs2
  have c2:(nxS2 (hz (wb w b)) (Zqf (wb w b)) isTrueZ Zq9 L y.tk n k k' s' (n + x.nat 0 + y.nat 0) (t + x.nat 1 + y.nat 1)).tree = PySem.isTrue (ifTest (Zqt (Zxs (wb w b)) 1)) (Zkk (Zqf (wb w b)) n) (eval (ifTest (Zqt (Zxs (wb w b)) 1)) (Zkk (Zqf (wb w b)) n)):=by
    unfold nxS2
    rw [isTrueZ_eq,Zzx]; rfl
  rw [c2] at c1
  refine c1 fun z h3 g3 O3 hs3 gr3=>?_
  change endR _ _ (Except.ok true) _
  unfold endR
  dsimp only
  rw [if_pos rfl,Zj4]
  have O3:Own h₀ (((n,nxF2 (hz (wb w b)) L k k')::fo)++Zjb (hz (wb w b)) L y.tk s' e e') h3:=by
    have q:Own h₀ ((([]++((n,nxF2 (hz (wb w b)) L k k')::Zq3 (hz (wb w b)) L y.tk s'))++[])++([(L.pb,dqO e []),(L.fk,dqO e' [])]++fo)) h3:=O3
    refine q.perm ?_
    simp only [List.nil_append,List.append_nil,List.cons_append]
    refine List.Perm.cons _ ?_
    have:Zq3 (hz (wb w b)) L y.tk s'++((L.pb,dqO e [])::(L.fk,dqO e' [])::fo) = Zjb (hz (wb w b)) L y.tk s' e e'++fo:=by unfold Zjb; simp
    rw [this]
    exact List.perm_append_comm
  refine owsi_raiseC hfun.hand ?_ fun h4 ex M=>?_
  · rw [← hra,← Zzx]
    exact Zk2 (top:=Zqf (wb w b)) (fun a o q=>O3.keep _ _ (G.top a o q)) (name745 prog w b n) ⟨rfl,rfl⟩
  · refine leaves (r:=r) (tk:=⟨t + x.nat 1 + y.nat 1 + z.nat 1,g3⟩) (hfun.frames _ rfl) ?_ O3 M fun f ob h5 O5=>?_
    · exact ⟨by show (Zxs (wb w b)).scope.kind≠_; rw [kind745]; decide,rfl,fun vs q=>(by cases q),hfo⟩
    · have hn:n < h5.objs.size:=Heap.lt_size (O5.own (n,{ nxF2 (hz (wb w b)) L k k' with slots:=f 0 }) (.tail _ (.head _)))
      have fin:=hR ⟨fun j=>match j with | 0=>h5.objs.size - n | 1=>x.nat 1 + y.nat 1 + z.nat 1 | 7=>ex | j=>y.nat j,fun k=>f (k + 1),fun _ _ _=>0,ob⟩ h5 g3
      have q1:Own h₀ ((nxeCon (hz (wb w b)) L tk s s' e e' es fo n t).postA ⟨fun j=>match j with | 0=>h5.objs.size - n | 1=>x.nat 1 + y.nat 1 + z.nat 1 | 7=>ex | j=>y.nat j,fun k=>f (k + 1),fun _ _ _=>0,ob⟩++[(n,{ nxF2 (hz (wb w b)) L k k' with slots:=f 0 })]) h5:=by
        refine O5.perm ?_
        show List.Perm ((ex,_)::(((n,_)::Zk9 (fun k=>f (k + 1)) fo)++Zjb (hz (wb w b)) L y.tk s' e e')) ((([(ex,_)]++(Zjb (hz (wb w b)) L y.tk s' e e'++Zk9 (fun k=>f (k + 1)) fo))++[])++[(n,_)])
        rw [List.append_nil]
        simp only [List.cons_append,List.nil_append]
        refine List.Perm.cons _ ?_
        refine (List.Perm.cons _ List.perm_append_comm).trans ?_
        exact List.perm_append_singleton _ _ |>.symm
      have fin:=fin q1.drop (by show h5.objs.size = n + (h5.objs.size - n); lia) (Zq5.trans (d:=true) (Zq5.trans (d:=true) gr1 gr2 fun e=>Bool.noConfusion e) gr3 fun e=>Bool.noConfusion (show true = false from e))
      have et:t + (x.nat 1 + y.nat 1 + z.nat 1) = t + x.nat 1 + y.nat 1 + z.nat 1:=by lia
      rw [← et]
      exact fin
noncomputable def nxFam (w:Hs) (L:Lx) (s s':Lt) (e:Int) (U:Str):Fam:=fun n t _ l _=>nxCon w L (Zvm l) s s' e U n t
noncomputable def nxFamP (w:Hs) (L:Lx) (s:Lt) (e:Int) (v:Str) (tv:Nat) (r:List (Str × Nat)):Fam:=fun n t _ l _=>nxConP w L (Zvm l) s e v tv r n t
noncomputable def asDict (o:Obj):Obj:=match o with
  | ⟨c,d,dt,sl⟩=>⟨c,d,match dt with | .dict es k=>.dict es k | _=>.dict #[] 0,sl⟩
noncomputable def foOf:List Env→List (Option (Addr × Obj))→List (Addr × Obj)
  | [],_=>[]
  | e::es,l=>(e.frame.getD 0,asDict (match l with | o::_=>(match o with | some p=>(match p with | (_,o)=>o) | none=>{ cls:=.none }) | []=>{ cls:=.none }))::foOf es (match l with | _::r=>r | []=>[])
noncomputable def nxeFam (w:Hs) (L:Lx) (s s':Lt) (e e':Int) (es:List Env):Fam:=fun n t _ l _=>nxeCon w L (Zvm l) s s' e e' es (foOf es (l.drop 6)) n t
noncomputable def pnCon (pn:Value→Sem (Option Value)) (w:Hs) (L:Lx) (tk:Nat→Nat) (s s':Lt) (e:Int) (U:Str) (n t:Nat):Zq2 (Option Value) where
  pre:=Zq3 w L tk s++[(L.pb,dqO e [])]
  post x:=Zq3 w L x.tk s'++[(L.pb,dqO e [])]
  fresh _:=[]
  tree:=pn (.ref L.lex)
  res x:=.ok (some (.str U (x.nat 6)))
  need:=55
  fr:=none
noncomputable def pnConP (pn:Value→Sem (Option Value)) (w:Hs) (L:Lx) (tk:Nat→Nat) (s:Lt) (e:Int) (v:Str) (tv:Nat) (r:List (Str × Nat)) (n t:Nat):Zq2 (Option Value) where
  pre:=Zq3 w L tk s++[(L.pb,dqO e ((v,tv)::r))]
  post x:=Zq3 w L tk s++[(L.pb,dqO (e + 1) r)]
  fresh _:=[]
  tree:=pn (.ref L.lex)
  res x:=.ok (some (.str v tv))
  need:=55
  fr:=none
noncomputable def pnConE (pn:Value→Sem (Option Value)) (w:Hs) (L:Lx) (tk:Nat→Nat) (s s':Lt) (e e':Int) (es:List Env) (fo:List (Addr × Obj)) (n t:Nat):Zq2 (Option Value) where
  pre:=Zjb w L tk s e e'++fo
  post x:=Zjb w L x.tk s' e e'++Zk9 x.sl fo
  fresh _:=[]
  tree:=pn (.ref L.lex)
  res x:=.ok none
  need:=65
  fr:=some es
noncomputable def frO (es:Array DictEntry) (k:Nat) (sl:Array (Option Value)):Obj:={ cls:=.type "frame",data:=.dict es k,slots:=sl }
noncomputable abbrev Zkg:Value→Sem (Option Value):=W.ZFast.zw9404975358583537561
theorem pyNextZ_eq:Zkg = pyNext:=W.ZFast.ze9404975358583537561.symm
noncomputable def fe (E:Env) (a:Addr):Env:={ E with frame:=some a }
noncomputable def pnEx (f:Nat→Ext) (_:Except Value (Option Value)) (_:List (Option (Addr × Obj))) (_:List (Option Bag)):Ext:=⟨fun j=>(f 0).nat (j + 2),(f 0).sl,fun _ _ _=>0,Ext.nil.ob⟩
noncomputable def orc_PN:List Nat:=Zxh 16 13 0x432105100004
noncomputable def orc_PNP:List Nat:=Zxh 16 13 0x432105100004
noncomputable def orc_PNE1:List Nat:=Zxh 16 16 0x1065432107100004
noncomputable def orc_PNE2:List Nat:=Zxh 16 17 0x10765432108100004
theorem PN_v (prog:Program) (w:World) (b:Bool) (L:Lx) (tk:Nat→Nat) (s':Lt) (p:Nat) (z:Str) (ln e:Int) (U:Str) (n t:Nat) (f:Nat→Ext) :
    Zqh [0,1,2,3,4] [] (pnCon Zkg (hz (wb w b)) L tk ⟨p,some z,ln⟩ s' e U n t) (pnEx f) []
      (Zzz T2 prog (wb w b) n t [] [nxFam (hz (wb w b)) L ⟨p,some z,ln⟩ s' e U] (pnCon Zkg (hz (wb w b)) L tk ⟨p,some z,ln⟩ s' e U n t) orc_PN f):=by cases b <;> kernel_rfl
theorem PNP_v (prog:Program) (w:World) (b:Bool) (L:Lx) (tk:Nat→Nat) (p:Nat) (st:Option Str) (ln e:Int) (v:Str) (tv:Nat) (r:List (Str × Nat)) (n t:Nat) (f:Nat→Ext) :
    Zqh [0,1,2,3,4] [] (pnConP Zkg (hz (wb w b)) L tk ⟨p,st,ln⟩ e v tv r n t) (pnEx f) []
      (Zzz T2 prog (wb w b) n t [] [nxFamP (hz (wb w b)) L ⟨p,st,ln⟩ e v tv r] (pnConP Zkg (hz (wb w b)) L tk ⟨p,st,ln⟩ e v tv r n t) orc_PNP f):=by cases b <;> cases st <;> kernel_rfl
theorem PNE1_v (prog:Program) (w:World) (b:Bool) (L:Lx) (tk:Nat→Nat) (p:Nat) (st:Option Str) (ln:Int) (s':Lt) (e e':Int) (E1:Env) (a1:Addr) (d1:Array DictEntry) (k1:Nat) (sl1:Array (Option Value)) (n t:Nat) (f:Nat→Ext) :
    Zqh [1,2,3,4,5,6,7] [] (pnConE Zkg (hz (wb w b)) L tk ⟨p,st,ln⟩ s' e e' [fe E1 a1] [(a1,frO d1 k1 sl1)] n t) (pnEx f) []
      (Zzz T2 prog (wb w b) n t [] [nxeFam (hz (wb w b)) L ⟨p,st,ln⟩ s' e e' [fe E1 a1]] (pnConE Zkg (hz (wb w b)) L tk ⟨p,st,ln⟩ s' e e' [fe E1 a1] [(a1,frO d1 k1 sl1)] n t) orc_PNE1 f):=by cases b <;> cases st <;> kernel_rfl
theorem PNE2_v (prog:Program) (w:World) (b:Bool) (L:Lx) (tk:Nat→Nat) (p:Nat) (st:Option Str) (ln:Int) (s':Lt) (e e':Int) (E1 E2:Env) (a1 a2:Addr) (d1 d2:Array DictEntry) (k1 k2:Nat) (sl1 sl2:Array (Option Value)) (n t:Nat) (f:Nat→Ext) :
    Zqh [1,2,3,4,5,6,7,8] [] (pnConE Zkg (hz (wb w b)) L tk ⟨p,st,ln⟩ s' e e' [fe E1 a1,fe E2 a2] [(a1,frO d1 k1 sl1),(a2,frO d2 k2 sl2)] n t) (pnEx f) []
      (Zzz T2 prog (wb w b) n t [] [nxeFam (hz (wb w b)) L ⟨p,st,ln⟩ s' e e' [fe E1 a1,fe E2 a2]] (pnConE Zkg (hz (wb w b)) L tk ⟨p,st,ln⟩ s' e e' [fe E1 a1,fe E2 a2] [(a1,frO d1 k1 sl1),(a2,frO d2 k2 sl2)] n t) orc_PNE2 f):=by cases b <;> cases st <;> kernel_rfl
theorem asDict_data (o:Obj):∀ vs,(asDict o).data≠.fields vs:=by
  obtain ⟨c,d,dt,sl⟩:=o
  intro vs h
  cases dt <;> cases h
theorem frAre_foOf:∀ {es:List Env},(∀ e ∈ es,e.scope.kind≠.module∧e.frame.isSome = true)→∀ l,FrAre es (foOf es l)
  | [],_,_=>trivial
  | e::es,h,l=>by
    refine ⟨(h e (.head _)).1,?_,asDict_data _,frAre_foOf (fun x hx=>h x (.tail _ hx)) _⟩
    obtain ⟨a,ha⟩:=Option.isSome_iff_exists.mp (h e (.head _)).2
    rw [ha]; rfl
theorem nxeFam_ok {prog:Program} {w:World} {b:Bool} {L:Lx} {s s':Lt} (h:RtOk prog w b L s s' none) (e e':Int) {es:List Env} (hes:∀ e ∈ es,e.scope.kind≠.module∧e.frame.isSome = true) (n t:Nat) (c:Code) (l:List (Option (Addr × Obj))) (bb:List (Option Bag)) :
    Zq1 T2 prog (wb w b) n t (nxeFam (hz (wb w b)) L s s' e e' es n t c l bb):=nxe_ok h (Zvm l) e e' (frAre_foOf hes _) n t
theorem pn_ok {prog:Program} {w:World} {b:Bool} {L:Lx} {p:Nat} {ln:Int} {z U:Str} {s':Lt} (h:RtOk prog w b L ⟨p,some z,ln⟩ s' (some U)) (tk:Nat→Nat) (e:Int) (n t:Nat) :
    Zqn T2 prog (wb w b) n t (pnCon Zkg (hz (wb w b)) L tk ⟨p,some z,ln⟩ s' e U n t) :=
  Zqw (ex:=pnEx) (Zqx (fun n t c l _=>nx_ok h (Zvm l) e n t) Zqq) rfl rfl (PN_v prog w b L tk s' p z ln e U n t) fun f q hq=>nomatch hq
theorem pnp_ok {prog:Program} {w:World} {b:Bool} {L:Lx} (tk:Nat→Nat) (s:Lt) (e:Int) (v:Str) (tv:Nat) (r:List (Str × Nat)) (hr:r.length < 21) (n t:Nat) :
    Zqn T2 prog (wb w b) n t (pnConP Zkg (hz (wb w b)) L tk s e v tv r n t):=by
  obtain ⟨p,st,ln⟩:=s
  exact Zqw (ex:=pnEx) (Zqx (fun n t c l _=>nxp_ok (Zvm l) ⟨p,st,ln⟩ e v tv r hr n t) Zqq) rfl rfl (PNP_v prog w b L tk p st ln e v tv r n t) fun f q hq=>nomatch hq
inductive Zkj:List Env→List (Addr × Obj)→Prop
  | one (E1 a1 d1 k1 sl1) (h1:E1.scope.kind≠.module):Zkj [fe E1 a1] [(a1,frO d1 k1 sl1)]
  | two (E1 a1 d1 k1 sl1 E2 a2 d2 k2 sl2) (h1:E1.scope.kind≠.module) (h2:E2.scope.kind≠.module):Zkj [fe E1 a1,fe E2 a2] [(a1,frO d1 k1 sl1),(a2,frO d2 k2 sl2)]
theorem pne_ok {prog:Program} {w:World} {b:Bool} {L:Lx} {s s':Lt} (h:RtOk prog w b L s s' none) (tk:Nat→Nat) (e e':Int) {es:List Env} {fo:List (Addr × Obj)} (hf:Zkj es fo) (n t:Nat) :
    Zqn T2 prog (wb w b) n t (pnConE Zkg (hz (wb w b)) L tk s s' e e' es fo n t):=by
  obtain ⟨p,st,ln⟩:=s
  cases hf with
  | one E1 a1 d1 k1 sl1 h1 =>
    refine Zqw (ex:=pnEx) (Zqx (nxeFam_ok h e e' fun x hx=>?_) Zqq) rfl rfl (PNE1_v prog w b L tk p st ln s' e e' E1 a1 d1 k1 sl1 n t) fun f q hq=>nomatch hq
    rw [List.mem_singleton] at hx
    subst hx; exact ⟨h1,rfl⟩
  | two E1 a1 d1 k1 sl1 E2 a2 d2 k2 sl2 h1 h2 =>
    refine Zqw (ex:=pnEx) (Zqx (nxeFam_ok h e e' fun x hx=>?_) Zqq) rfl rfl (PNE2_v prog w b L tk p st ln s' e e' E1 E2 a1 a2 d1 d2 k1 k2 sl1 sl2 n t) fun f q hq=>nomatch hq
    simp only [List.mem_cons,List.not_mem_nil,or_false] at hx
    rcases hx with rfl | rfl
    · exact ⟨h1,rfl⟩
    · exact ⟨h2,rfl⟩
theorem Own.update {h₀ h:Heap} {a:Addr} {o:Obj} {l:List (Addr × Obj)} (O:Own h₀ ((a,o)::l) h) (f:Obj→Obj) (hf:(f o).isFreed = false):Own h₀ ((a,f o)::l) (h.update a f):=by
  have nd:=O.nodup
  rw [List.map_cons,List.nodup_cons] at nd
  have ha:=O.own (a,o) (.head _)
  have oth:∀ b,b≠a→(h.update a f).get? b = h.get? b:=fun b hb=>Heap.get?_update_other _ _ (Ne.symm hb)
  refine ⟨fun b ob e=>(oth b fun q=>?_).trans (O.keep b ob e),fun p hp=>?_,by rw [List.map_cons,List.nodup_cons]; exact nd,fun p hp=>?_⟩
  · subst q
    rw [O.apart (b,o) (.head _)] at e; cases e
  · rcases List.mem_cons.mp hp with rfl | hp
    · exact Heap.get?_update_self f ha hf
    · exact (oth _ fun q=>nd.1 (List.mem_map.mpr ⟨p,hp,q⟩)).trans (O.own p (.tail _ hp))
  · rcases List.mem_cons.mp hp with rfl | hp
    · exact O.apart (a,o) (.head _)
    · exact O.apart p (.tail _ hp)
theorem Own.push {h₀ h:Heap} {l:List (Addr × Obj)} (O:Own h₀ l h) (o:Obj) (hf:o.isFreed = false):Own h₀ ((h.objs.size,o)::l) (h.push o):=by
  have fresh:∀ b ob,h.get? b = some ob→b≠h.objs.size:=fun b ob e q=>by
    have:=Heap.lt_size e
    rw [q] at this; exact Nat.lt_irrefl _ this
  refine ⟨fun b ob e=>Heap.get?_push_of_some _ (O.keep b ob e),fun p hp=>?_,?_,fun p hp=>?_⟩
  · rcases List.mem_cons.mp hp with rfl | hp
    · exact Heap.get?_push_size _ hf
    · exact Heap.get?_push_of_some _ (O.own p hp)
  · rw [List.map_cons,List.nodup_cons]
    refine ⟨fun z=>?_,O.nodup⟩
    obtain ⟨p,hp,e⟩:=List.mem_map.mp z
    exact fresh _ _ (O.own p hp) e
  · rcases List.mem_cons.mp hp with rfl | hp
    · cases q:h₀.get? h.objs.size with
      | none=>rfl
      | some ob=>exact absurd rfl (fresh _ _ (O.keep _ _ q))
    · exact O.apart p hp
noncomputable def Zqz (l:List Value) (ep:Nat):Obj:={ cls:=.type "list",data:=.seq ⟨l⟩ ep }
inductive Reads (prog:Program) (w:World) (b:Bool) (L:Lx):Lt→List Str→Lt→Prop
  | done {s s'} (h:RtOk prog w b L s s' none):Reads prog w b L s [] s'
  | word {p z ln s1 U ws s'} (h:RtOk prog w b L ⟨p,some z,ln⟩ s1 (some U)) (r:Reads prog w b L s1 ws s'):Reads prog w b L ⟨p,some z,ln⟩ (U::ws) s'
noncomputable def pbV (l:List (Str × Nat)):List Value:=l.map fun p=>.str p.1 p.2
noncomputable def wsV:List Str→(Nat→Nat)→List Value
  | [],_=>[]
  | U::r,t=>.str U (t 0)::wsV r fun k=>t (k + 1)
noncomputable def Zvb (w:Hs) (L:Lx) (tk:Nat→Nat) (s:Lt) (e:Int) (pbl:List (Str × Nat)) (e':Int):List (Addr × Obj):=Zq3 w L tk s++[(L.pb,dqO e pbl),(L.fk,dqO e' [])]
noncomputable def Zk6 (lst lex:Addr) (v:Value):Code:=.builtin "list.extend.loop" ⟨[.ref lst,.ref lex,v],[]⟩
noncomputable def exlCon (w:Hs) (L:Lx) (tk:Nat→Nat) (s s':Lt) (e e':Int) (pbl:List (Str × Nat)) (ws:List Str) (lst:Addr) (its:List Value) (ep:Nat) (v:Value) (es:List Env) (fo:List (Addr × Obj)):Con where
  pre:=(lst,Zqz its ep)::(Zvb w L tk s e pbl e'++fo)
  post x:=(lst,Zqz (its++(pbV pbl++wsV ws (x.seq 0 0))) (x.nat 8))::(Zvb w L x.tk s' (e + pbl.length) [] e'++Zk9 x.sl fo)
  fresh _:=[]
  code:=Zk6 lst L.lex v
  res _:=.ok (.ret v)
  need:=70
  fr:=some es
theorem push_listO (its:List Value) (ep:Nat) (v:Value):∃ ep',Obj.mapSeq (·.push v) (Zqz its ep) = Zqz (its++[v]) ep':=by
  have e:(⟨its⟩:Array Value).push v = ⟨its++[v]⟩:=by simp
  refine ⟨if (⟨its++[v]⟩:Array Value).size == (⟨its⟩:Array Value).size then ep else ep + 1,?_⟩
  simp only [Obj.mapSeq,Zqz,e]
section
variable {prog:Program} {w:World} {b:Bool} {n t:Nat}
theorem exl_turn {C:Zq2 (Option Value)} (hC:Zqn T2 prog (wb w b) n t C) {v:Ext→Value} (hres:∀ x,C.res x = .ok (some (v x))) {lex lst:Addr} (htree:C.tree = pyNext (.ref lex)) {its:List Value} {ep:Nat} {l rest:List (Addr × Obj)} {h₀ h:Heap} {r:Zkc} {g:Array GenState} {A:Around} {R:Result→Shared→Prop} {vr:Value}
    (G:Ground T2 (wb w b) h₀) {fs:Option (List Env)} (hA:AOk A fs 70) (hmd:∀ x,C.made x = x.nat 0) (hneed:C.need≤69) (hfr:C.fr = none) (O:Own h₀ ((lst,Zqz its ep)::l) h) (hp:l.Perm (C.preA++rest)) (hs:h.objs.size = n) (hlen:its.length≤sizeLine)
    (next:∀ x h' g' ep',Own h₀ ((lst,Zqz (its++[v x]) ep')::(C.postA x++rest)) h'→h'.objs.size = n + x.nat 0→Zq5 true g g'→codeAny (model prog (wb w b)) A (Zk6 lst lex vr) R (r.at h' ⟨t + x.nat 1,g'⟩)) :
    codeAny (model prog (wb w b)) A (Zk6 lst lex vr) R (r.at h ⟨t,g⟩):=by
  refine codeAny_builtin F.entry_extend_loop ?_
  show wpAny _ (A.under (Zk6 lst lex vr)) (pyNext (.ref lex) >>= fun r=>match r with | none=>ret vr | some x=>Builtin.List.listUpdate (.ref lst) (·.push x) >>= fun _=>again (Zk6 lst lex vr)) _ _ _
  refine wpAny_bind ?_
  rw [← htree]
  have hA':AOk (A.under (Zk6 lst lex vr)) none 69:=(hA.under (Zzn rfl)).bare (Nat.le_refl _)
  refine hC.use (rest:=(lst,Zqz its ep)::rest) G (by rw [hfr]; exact hA'.bare hneed) O (((List.Perm.cons _ hp).trans List.perm_middle.symm)) hs fun x h1 g1 O1 hs1 gr1=>?_
  rw [hres]
  show wpAny _ _ (Builtin.List.listUpdate (.ref lst) (·.push (v x)) >>= fun _=>again (Zk6 lst lex vr)) _ _ _
  have O2:=O1.perm (List.perm_middle (a:=(lst,Zqz its ep)))
  refine wpAny_bind ?_
  refine wpAny_updateSeq (O2.own _ (.head _)) rfl ?_ hlen (by simpa using hlen)
  obtain ⟨ep',hep⟩:=push_listO its ep (v x)
  refine wpAny_pure ⟨plainId_quiet F.plain_extend_loop _,?_⟩
  have O3:=O2.update (Obj.mapSeq (·.push (v x))) (by rw [hep]; rfl)
  rw [hep] at O3
  refine next x _ g1 ep' O3 ?_ gr1
  rw [← hmd,← hs1]
  exact (Heap.SameBut.update ..).1
theorem Zvg (ws:List Str) (f:Nat→Nat):(wsV ws f).length = ws.length:=by
  induction ws generalizing f with
  | nil=>rfl
  | cons U r ih=>exact congrArg (· + 1) (ih _)
theorem exl_words {L:Lx} {e e':Int} {lst:Addr} {v:Value} {es:List Env} {fo:List (Addr × Obj)} (hf:Zkj es fo) {s s':Lt} {ws:List Str} (hr:Reads prog w b L s ws s') :
    ∀ (tk:Nat→Nat) (its:List Value) (ep n t:Nat),its.length + ws.length≤sizeLine→Zq1 T2 prog (wb w b) n t (exlCon (hz (wb w b)) L tk s s' e e' [] ws lst its ep v es fo):=by
  induction hr with
  | @done s s' h =>
    intro tk its ep n t hlen
    refine ⟨fun h₀ hp r g A R G hA O hs hR=>?_⟩
    refine codeAny_builtin F.entry_extend_loop ?_
    show wpAny _ (A.under (Zk6 lst L.lex v)) (pyNext (.ref L.lex) >>= fun r=>match r with | none=>ret v | some x=>Builtin.List.listUpdate (.ref lst) (·.push x) >>= fun _=>again (Zk6 lst L.lex v)) _ _ _
    refine wpAny_bind ?_
    rw [← pyNextZ_eq]
    have hA':AOk (A.under (Zk6 lst L.lex v)) (some es) 69:=hA.under (Zzn rfl)
    have O0:Own h₀ ((lst,Zqz its ep)::(Zjb (hz (wb w b)) L tk s e e'++fo)) hp:=by
      have z:Own h₀ (((lst,Zqz its ep)::(Zvb (hz (wb w b)) L tk s e [] e'++fo))++[]) hp:=O
      rw [List.append_nil] at z; exact z
    refine (pne_ok h tk e e' hf n t).use (rest:=[(lst,Zqz its ep)]) G ⟨hA'.hand,by have:=hA'.deep; show _ + 5 * 65 < _; lia,by have:=hA'.units; show _ + 10 * 65 < _; lia,hA'.frames⟩ O0 ?_ hs fun x h1 g1 O1 hs1 gr1=>?_
    · show List.Perm _ (((Zjb (hz (wb w b)) L tk s e e'++fo)++[])++_)
      rw [List.append_nil]
      exact (List.perm_append_singleton _ _).symm
    · show wpAny _ _ (ret v) _ _ _
      refine wpAny_pure ?_
      have fin:=hR ⟨fun j=>match j with | 8=>ep | j=>x.nat j,x.sl,fun _ _ _=>0,x.ob⟩ h1 g1 ?_ hs1 gr1
      · exact fin
      · have z:Own h₀ ((([]++(Zjb (hz (wb w b)) L x.tk s' e e'++Zk9 x.sl fo))++[])++[(lst,Zqz its ep)]) h1:=O1
        rw [List.append_nil,List.nil_append] at z
        have z:=z.perm (List.perm_append_singleton _ _)
        show Own h₀ (([]++((lst,Zqz (its++(pbV []++wsV [] fun _=>0)) ep)::(Zvb (hz (wb w b)) L x.tk s' (e + ([]:List (Str × Nat)).length) [] e'++Zk9 x.sl fo)))++[]) h1
        have e0:e + (([]:List (Str × Nat)).length:Int) = e:=by simp
        rw [e0,List.append_nil,List.nil_append]
        have e1:its++(pbV []++wsV [] fun _=>0) = its:=by simp [pbV,wsV]
        rw [e1]
        exact z
  | @word p z ln s1 U ws s' h hr ih =>
    intro tk its ep n t hlen
    refine ⟨fun h₀ hp r g A R G hA O hs hR=>?_⟩
    have O0:Own h₀ ((lst,Zqz its ep)::(Zvb (hz (wb w b)) L tk ⟨p,some z,ln⟩ e [] e'++fo)) hp:=by
      have z:Own h₀ (((lst,Zqz its ep)::(Zvb (hz (wb w b)) L tk ⟨p,some z,ln⟩ e [] e'++fo))++[]) hp:=O
      rw [List.append_nil] at z; exact z
    refine exl_turn (pn_ok h tk e n t) (v:=fun x=>.str U (x.nat 6)) (fun _=>rfl) (by unfold pnCon; exact congrFun pyNextZ_eq _) (rest:=(L.fk,dqO e' [])::fo) G hA (fun _=>rfl) (by show 55≤69; lia) rfl O0 ?_ hs (by simp at hlen ⊢; lia) fun x h1 g1 ep' O1 hs1 gr1=>?_
    · show List.Perm (Zvb (hz (wb w b)) L tk ⟨p,some z,ln⟩ e [] e'++fo) (((Zq3 (hz (wb w b)) L tk ⟨p,some z,ln⟩++[(L.pb,dqO e [])])++[])++((L.fk,dqO e' [])::fo))
      unfold Zvb
      simp
    · refine (ih x.tk (its++[.str U (x.nat 6)]) ep' (n + x.nat 0) (t + x.nat 1) (by simp at hlen ⊢; lia)).run h₀ h1 r g1 A R G hA ?_ hs1 fun y h2 g2 O2 hs2 gr2=>?_
      · have z:Own h₀ ((lst,Zqz (its++[.str U (x.nat 6)]) ep')::((([]++(Zq3 (hz (wb w b)) L x.tk s1++[(L.pb,dqO e [])]))++[])++((L.fk,dqO e' [])::fo))) h1:=O1
        show Own h₀ (((lst,Zqz (its++[.str U (x.nat 6)]) ep')::(Zvb (hz (wb w b)) L x.tk s1 e [] e'++fo))++[]) h1
        unfold Zvb
        simpa using z
      · have fin:=hR ⟨fun j=>match j with | 0=>x.nat 0 + y.nat 0 | 1=>x.nat 1 + y.nat 1 | j=>y.nat j,y.sl,fun _ _ k=>match k with | 0=>x.nat 6 | k + 1=>y.seq 0 0 k,y.ob⟩ h2 g2 ?_ (by have hs2:h2.objs.size = n + x.nat 0 + y.nat 0:=hs2; show _ = n + (x.nat 0 + y.nat 0); lia) (Zq5.trans (d:=true) gr1 gr2 fun e=>Bool.noConfusion e)
        · have et:t + (x.nat 1 + y.nat 1) = t + x.nat 1 + y.nat 1:=by lia
          rw [← et]
          exact fin
        · have e1:its++[Value.str U (x.nat 6)]++(pbV []++wsV ws (y.seq 0 0)) = its++(pbV []++wsV (U::ws) fun k=>match k with | 0=>x.nat 6 | k + 1=>y.seq 0 0 k):=by simp [pbV,wsV]
          have q:Own h₀ (([]++((lst,Zqz (its++[Value.str U (x.nat 6)]++(pbV []++wsV ws (y.seq 0 0))) (y.nat 8))::(Zvb (hz (wb w b)) L y.tk s' (e + ([]:List (Str × Nat)).length) [] e'++Zk9 y.sl fo)))++[]) h2:=O2
          rw [e1] at q
          exact q
theorem exl_ok {L:Lx} {e':Int} {lst:Addr} {v:Value} {es:List Env} {fo:List (Addr × Obj)} (hf:Zkj es fo) {s s':Lt} {ws:List Str} (hr:Reads prog w b L s ws s') :
    ∀ (pbl:List (Str × Nat)) (e:Int) (tk:Nat→Nat) (its:List Value) (ep n t:Nat),pbl.length < 21→its.length + pbl.length + ws.length≤sizeLine→Zq1 T2 prog (wb w b) n t (exlCon (hz (wb w b)) L tk s s' e e' pbl ws lst its ep v es fo)
  | [],e,tk,its,ep,n,t,_,hlen=>exl_words hf hr tk its ep n t (by simpa using hlen)
  | (U,tu)::pbl,e,tk,its,ep,n,t,hl,hlen=>by
    have hl':pbl.length < 21:=by simp at hl; lia
    refine ⟨fun h₀ hp r g A R G hA O hs hR=>?_⟩
    have O0:Own h₀ ((lst,Zqz its ep)::(Zvb (hz (wb w b)) L tk s e ((U,tu)::pbl) e'++fo)) hp:=by
      have z:Own h₀ (((lst,Zqz its ep)::(Zvb (hz (wb w b)) L tk s e ((U,tu)::pbl) e'++fo))++[]) hp:=O
      rw [List.append_nil] at z; exact z
    refine exl_turn (vr:=v) (lst:=lst) (pnp_ok tk s e U tu pbl hl' n t) (v:=fun x=>.str U tu) (fun _=>rfl) (by unfold pnConP; exact congrFun pyNextZ_eq _) (rest:=(L.fk,dqO e' [])::fo) G hA (fun _=>rfl) (by show 55≤69; lia) rfl O0 ?_ hs (by simp at hlen ⊢; lia) fun x h1 g1 ep' O1 hs1 gr1=>?_
    · show List.Perm (Zvb (hz (wb w b)) L tk s e ((U,tu)::pbl) e'++fo) (((Zq3 (hz (wb w b)) L tk s++[(L.pb,dqO e ((U,tu)::pbl))])++[])++((L.fk,dqO e' [])::fo))
      unfold Zvb
      simp
    · refine (exl_ok (e':=e') (lst:=lst) (v:=v) hf hr pbl (e + 1) tk (its++[.str U tu]) ep' (n + x.nat 0) (t + x.nat 1) hl' (by simp at hlen ⊢; lia)).run h₀ h1 r g1 A R G hA ?_ hs1 fun y h2 g2 O2 hs2 gr2=>?_
      · have z:Own h₀ ((lst,Zqz (its++[.str U tu]) ep')::((([]++(Zq3 (hz (wb w b)) L tk s++[(L.pb,dqO (e + 1) pbl)]))++[])++((L.fk,dqO e' [])::fo))) h1:=O1
        show Own h₀ (((lst,Zqz (its++[.str U tu]) ep')::(Zvb (hz (wb w b)) L tk s (e + 1) pbl e'++fo))++[]) h1
        unfold Zvb
        simpa using z
      · have fin:=hR ⟨fun j=>match j with | 0=>x.nat 0 + y.nat 0 | 1=>x.nat 1 + y.nat 1 | j=>y.nat j,y.sl,y.seq,y.ob⟩ h2 g2 ?_ (by have hs2:h2.objs.size = n + x.nat 0 + y.nat 0:=hs2; show _ = n + (x.nat 0 + y.nat 0); lia) (Zq5.trans (d:=true) gr1 gr2 fun e=>Bool.noConfusion e)
        · have et:t + (x.nat 1 + y.nat 1) = t + x.nat 1 + y.nat 1:=by lia
          rw [← et]
          exact fin
        · have e1:its++[Value.str U tu]++(pbV pbl++wsV ws (y.seq 0 0)) = its++(pbV ((U,tu)::pbl)++wsV ws (y.seq 0 0)):=by simp [pbV]
          have e2:e + 1 + (pbl.length:Int) = e + (((U,tu)::pbl).length:Int):=by simp; lia
          have q:Own h₀ (([]++((lst,Zqz (its++[Value.str U tu]++(pbV pbl++wsV ws (y.seq 0 0))) (y.nat 8))::(Zvb (hz (wb w b)) L y.tk s' (e + 1 + pbl.length) [] e'++Zk9 y.sl fo)))++[]) h2:=O2
          rw [e1,e2] at q
          exact q
end
noncomputable def toFr (o:Obj):Obj:=match o with
  | ⟨_,_,dt,sl⟩=>match dt with
    | .dict es k=>frO es k sl
    | _=>frO #[] 0 sl
noncomputable def Zzf (l:List (Option (Addr × Obj))) (k:Nat):Obj:=match oAt l k with
  | some p=>match p with | (_,o)=>o
  | none=>{ cls:=.none }
noncomputable def foFr:List Env→List (Option (Addr × Obj))→Nat→List (Addr × Obj)
  | [],_,_=>[]
  | e::es,l,k=>(e.frame.getD 0,toFr (Zzf l k))::foFr es l (k + 1)
noncomputable def Zj6 (o:Obj):Nat:=match o with
  | ⟨_,_,dt,_⟩=>match dt with
    | .seq _ k=>k
    | _=>0
noncomputable def Zx0:Value→Addr
  | .ref a=>a
  | _=>0
noncomputable def Zx7 (c:Code) (k:Nat):Value:=match c with
  | .builtin _ args=>match args with | ⟨pos,_⟩=>match pos.drop k with | v::_=>v | []=>.none
  | .call _ args=>match args with | ⟨pos,_⟩=>match pos.drop k with | v::_=>v | []=>.none
  | _=>.none
noncomputable def llCon (w:Hs) (L:Lx) (tk:Nat→Nat) (s s':Lt) (e e':Int) (pbl:List (Str × Nat)) (ws:List Str) (es:List Env) (fo:List (Addr × Obj)) (n t:Nat):Con where
  pre:=Zvb w L tk s e pbl e'++fo
  post x:=Zvb w L x.tk s' (e + pbl.length) [] e'++Zk9 x.sl fo
  fresh x:=[(n,Zqz (pbV pbl++wsV ws (x.seq 0 0)) (x.nat 8))]
  code:=.call (.type "list") ⟨[.ref L.lex],[]⟩
  res _:=.ok (.ret (.ref n))
  need:=80
  fr:=some es
noncomputable def itCon (pi:Value→Sem Value) (lh:Value→Sem Bool) (L:Lx) (n t:Nat):Zq2 (Value × Bool) where
  pre:=[(L.lex,lexO L)]
  post _:=[(L.lex,lexO L)]
  fresh _:=[]
  tree:=pi (.ref L.lex) >>= fun i=>holding [i] (lh (.ref L.lex)) >>= fun r=>pure (i,r)
  res _:=.ok (.ref L.lex,true)
  need:=60
  fr:=none
noncomputable def liCon (w:Hs) (L:Lx) (tk:Nat→Nat) (s s':Lt) (e e':Int) (pbl:List (Str × Nat)) (ws:List Str) (lst:Addr) (es:List Env) (fo:List (Addr × Obj)):Con where
  pre:=(lst,Zqz [] 0)::(Zvb w L tk s e pbl e'++fo)
  post x:=(lst,Zqz (pbV pbl++wsV ws (x.seq 0 0)) (x.nat 8))::(Zvb w L x.tk s' (e + pbl.length) [] e'++Zk9 x.sl fo)
  fresh _:=[]
  code:=.builtin "list.__init__" ⟨[.ref lst,.ref L.lex],[]⟩
  res _:=.ok (.ret .none)
  need:=75
  fr:=some es
noncomputable def liFam (w:Hs) (L:Lx) (s s':Lt) (e e':Int) (pbl:List (Str × Nat)) (ws:List Str) (es:List Env):Fam:=fun n t c l _ =>
  liCon w L (Zvm (l.drop 1)) s s' e e' pbl ws (Zx0 (Zx7 c 0)) es (foFr es l 7)
noncomputable def lnewCon (a:Value) (n:Nat):Con where
  pre:=[]
  post _:=[]
  fresh _:=[(n,Zqz [] 0)]
  code:=.call (.builtin "list.__new__") ⟨[.type "list",a],[]⟩
  res _:=.ok (.ret (.ref n))
  need:=5
  fr:=none
  gen:=false
noncomputable def lnewFam:Fam:=fun n _ c _ _=>lnewCon (Zx7 c 1) n
theorem lnew_ok {T:Params→Addr→Option Obj} {prog:Program} {w:World} (a:Value) (n t:Nat):Zq1 T prog w n t (lnewCon a n):=by
  refine ⟨fun h₀ h r g A R G hA O hs hR=>?_⟩
  refine codeAny_mono (PySem.code_list_new (E:=fun e s'=>R (.error e) s') (Q₁:=fun v s'=>R (.ok (.ret v)) s') a ?_) fun res s' q=>?_
  · have O':=O.push (Zqz [] 0) rfl
    have fin:=hR ⟨fun j=>match j with | 0=>1 | _=>0,fun _=>#[],fun _ _ _=>0,Ext.nil.ob⟩ (h.push (Zqz [] 0)) g ?_ ?_ (Zq5.refl _ _)
    · show R (.ok (.ret (.ref h.objs.size))) _
      rw [hs]; exact fin
    · rw [hs] at O'; exact O'
    · rw [Heap.size_push,hs]; rfl
  · cases res with
    | ok f=>cases f with
      | ret v=>exact q
      | _=>exact q.elim
    | error e=>exact q
theorem lnewFam_ok {T:Params→Addr→Option Obj} {prog:Program} {w:World} (n t:Nat) (c:Code) (l:List (Option (Addr × Obj))) (bb:List (Option Bag)):Zq1 T prog w n t (lnewFam n t c l bb):=lnew_ok _ _ _
structure JSh where
  c:Const
  ck:Nat
  cp:Pos
  nm:Str
  ap:Pos
  q:Str
  qp:Pos
  v:Str
  vp:Pos
  ep:Pos
  x:Str
  xp:Pos
  it:Str
  ip:Pos
  sc:Scope
  gp:Pos
  pos:Pos
  rp:Pos
noncomputable def JSh.elt (J:JSh):Expr:=.Call (.Name J.q J.qp) [.Name J.v J.vp] [] J.ep
noncomputable def JSh.gen (J:JSh):Expr:=.GeneratorExp J.elt [⟨.Name J.x J.xp,.Name J.it J.ip,[],0⟩] J.sc J.gp
noncomputable def JSh.stmt (J:JSh):Stmt:=.Return (some (.Call (.Attribute (.Constant J.c J.ck J.cp) J.nm J.ap) [J.gen] [] J.pos)) J.rp
noncomputable def jsOf:Stmt→Option JSh
  | .Return (some (.Call (.Attribute (.Constant c ck cp) nm ap) [.GeneratorExp (.Call (.Name q qp) [.Name v vp] [] ep) [⟨.Name x xp,.Name it ip,[],0⟩] sc gp] [] pos)) rp=>some ⟨c,ck,cp,nm,ap,q,qp,v,vp,ep,x,xp,it,ip,sc,gp,pos,rp⟩
  | _=>none
noncomputable def js0:JSh:=⟨.none,0,default, "",default, "",default, "",default,default, "",default, "",default,default,default,default,default⟩
noncomputable def J767 (top:Addr→Option Obj):JSh:=(jsOf (Zqt (Zxv top 767) 0)).getD js0
noncomputable def Zv9 (top:Addr→Option Obj) (fr:Addr):Env:=fnEnv top 767 766 "join.<locals>." fr
noncomputable def jnF (w:Hs) (k:Nat) (lst:Addr):Obj:={ cls:=.type "frame",data:=.dict #[ent w "split_command" k (.ref lst)] 1 }
noncomputable def jnPrep (w:Hs) (top:Addr→Option Obj) (prep:Addr→FuncData→Args→Sem Env) (lst:Addr) (n t:Nat):Zq2 Env where
  pre:=[]
  post _:=[]
  fresh x:=[(n,jnF w (x.nat 2) lst)]
  tree:=prep 767 (Zxv top 767) ⟨[.ref lst],[]⟩
  res _:=.ok (Zv9 top n)
  need:=20
  fr:=none
noncomputable def jnC (top:Addr→Option Obj) (ev:Expr→Env→Sem Value) (fr:Addr) (n t:Nat):Zq2 Value where
  pre:=[]
  post _:=[]
  fresh x:=[]
  tree:=ev (.Constant (J767 top).c (J767 top).ck (J767 top).cp) (Zv9 top fr)
  res x:=.ok (.str " " (x.nat 2))
  need:=20
  fr:=none
noncomputable def jnI (w:Hs) (top:Addr→Option Obj) (ev:Expr→Env→Sem Value) (fr k:Nat) (lst:Addr) (n t:Nat):Zq2 Value where
  pre:=[(fr,jnF w k lst)]
  post _:=[(fr,jnF w k lst)]
  fresh x:=[]
  tree:=ev (.Name (J767 top).it (J767 top).ip) (Zv9 top fr)
  res x:=.ok (.ref lst)
  need:=20
  fr:=none
noncomputable def Zz8 (a b:Int):Option Addr→Obj
  | none=>{ cls:=.none,data:=.fields #[] }
  | some c=>{ cls:=.none,data:=.fields #[.int a 0,.int b 0,.ref c] }
noncomputable def jnG0 (top:Addr→Option Obj) (gc:Env→Pos→Str→Scope→Sem Value) (fr:Addr) (a b:Int) (k:Nat) (n t:Nat):Zq2 Value where
  pre:=[(762,Zz8 0 0 none)]
  post _:=[(762,Zz8 a b (some (n + k)))]
  fresh x:=[]
  tree:=gc (Zv9 top fr) (J767 top).gp ((Zv9 top fr).qual ++ "<genexpr>") (J767 top).sc
  res x:=.ok (.ref (n + k))
  need:=20
  fr:=none
noncomputable def jnG1 (top:Addr→Option Obj) (gc:Env→Pos→Str→Scope→Sem Value) (fr:Addr) (a b:Int) (c:Addr) (n t:Nat):Zq2 Value where
  pre:=[(762,Zz8 a b (some c))]
  post _:=[(762,Zz8 a b (some c))]
  fresh x:=[]
  tree:=gc (Zv9 top fr) (J767 top).gp ((Zv9 top fr).qual ++ "<genexpr>") (J767 top).sc
  res x:=.ok (.ref c)
  need:=20
  fr:=none
noncomputable def jnB (top:Addr→Option Obj) (bf:Addr→Addr→Sem Addr) (fr:Addr) (n t:Nat):Zq2 Addr where
  pre:=[]
  post _:=[]
  fresh x:=[]
  tree:=bf (Zv9 top fr).globals (Zv9 top fr).builtins
  res x:=.ok 0
  need:=20
  fr:=none
noncomputable def Zjp (top:Addr→Option Obj) (fr:Addr):Env:={ scope:=(Zxv top 917).scope,locals:=fr,globals:=3,cells:=[("key",909)],qual := "_law_dealer.<locals>._law_dealt.<locals>.",func:=some 917,code:=.ref 916,frame:=some fr,builtins:=0 }
noncomputable def Zzd (s:Stmt):Expr:=match s with
  | .For t _ _ _ _=>t
  | _=>.Name "" default
noncomputable def Zv7 (s:Stmt):Expr:=match s with
  | .For _ i _ _ _=>i
  | _=>.Name "" default
noncomputable def Zj3 (s:Stmt):List Stmt:=match s with
  | .For _ _ b _ _=>b
  | _=>[]
noncomputable def dlBody (top:Addr→Option Obj):List Stmt:=Zj3 (Zqt (Zxv top 917) 0)
noncomputable def dlF2 (w:Hs) (ft:Nat→Nat) (lst:Addr) (W:List Nat) (tt:Nat):Obj:={ cls:=.type "frame",data:=.dict #[ent w "piles" (ft 0) (.ref lst),ent w "word" (ft 1) (.str (S W) tt)] 2 }
noncomputable def dlF3 (w:Hs) (ft:Nat→Nat) (lst:Addr) (W:List Nat) (tt:Nat) (p:Addr):Obj:={ cls:=.type "frame",data:=.dict #[ent w "piles" (ft 0) (.ref lst),ent w "word" (ft 1) (.str (S W) tt),ent w "pile" (ft 2) (.ref p)] 3 }
noncomputable def dlF4 (w:Hs) (ft:Nat→Nat) (lst:Addr) (W:List Nat) (tt:Nat) (p:Addr) (U:List Nat) (tu:Nat):Obj:={ cls:=.type "frame",data:=.dict #[ent w "piles" (ft 0) (.ref lst),ent w "word" (ft 1) (.str (S W) tt),ent w "pile" (ft 2) (.ref p),ent w "top" (ft 3) (.str (S U) tu)] 4 }
noncomputable def dlF (w:Hs) (ft:Nat→Nat) (lst:Addr) (W:List Nat) (tt:Nat) (p:Addr):Option (List Nat × Nat)→Obj
  | none=>dlF3 w ft lst W tt p
  | some u=>dlF4 w ft lst W tt p u.1 u.2
noncomputable def dlPrep (w:Hs) (top:Addr→Option Obj) (prep:Addr→FuncData→Args→Sem Env) (lst:Addr) (W:List Nat) (tt:Nat) (n t:Nat):Zq2 Env where
  pre:=[]
  post _:=[]
  fresh x:=[(n,dlF2 w (fun j=>x.nat (j + 2)) lst W tt)]
  tree:=prep 917 (Zxv top 917) ⟨[.ref lst,.str (S W) tt],[]⟩
  res _:=.ok (Zjp top n)
  need:=20
  fr:=none
noncomputable def Zx4 (l:Addr) (i:Nat):Obj:={ cls:=.type "list_iterator",data:=.fields #[.ref l,.int (Int.ofNat i) 0] }
noncomputable def forIt (ev:Expr→Env→Sem Value) (fs:Expr→Env→Value→Sem Value) (pi:Value→Sem Value) (i:Expr) (env:Env):Sem Value:=ev i env >>= fun v=>fs i env v >>= fun x=>standAt i.pos >>= fun _=>holding [x] (pi x)
noncomputable def dlIt (w:Hs) (top:Addr→Option Obj) (ev:Expr→Env→Sem Value) (fs:Expr→Env→Value→Sem Value) (pi:Value→Sem Value) (fr:Addr) (ft:Nat→Nat) (lst:Addr) (W:List Nat) (tt:Nat) (its:List Value) (ep:Nat) (n t:Nat):Zq2 Value where
  pre:=[(fr,dlF2 w ft lst W tt),(lst,Zqz its ep)]
  post _:=[(fr,dlF2 w ft lst W tt),(lst,Zqz its ep)]
  fresh x:=[(n,Zx4 lst 0)]
  tree:=forIt ev fs pi (Zv7 (Zqt (Zxv top 917) 0)) (Zjp top fr)
  res _:=.ok (.ref n)
  need:=40
  fr:=none
noncomputable def dlAs (w:Hs) (top:Addr→Option Obj) (asg:Expr→Env→Value→Sem Unit) (fr:Addr) (ft:Nat→Nat) (lst:Addr) (W:List Nat) (tt:Nat) (o:Option (Addr × Option (List Nat × Nat))) (p:Addr) (n t:Nat):Zq2 Unit where
  pre:=[(fr,match o with | none=>dlF2 w ft lst W tt | some q=>dlF w ft lst W tt q.1 q.2)]
  post x:=[(fr,dlF w (fun j=>x.nat (j + 2)) lst W tt p (match o with | none=>none | some q=>q.2))]
  fresh x:=[]
  tree:=asg (Zzd (Zqt (Zxv top 917) 0)) (Zjp top fr) (.ref p)
  res _:=.ok ()
  need:=40
  fr:=none
noncomputable def dlA (w:Hs) (top:Addr→Option Obj) (exs:List Stmt→Env→Sem Flow) (fr:Addr) (ft:Nat→Nat) (lst:Addr) (W:List Nat) (tt:Nat) (o:Option (List Nat × Nat)) (L:Lx) (tk:Nat→Nat) (s s':Lt) (e:Int) (U:List Nat) (v:Bool) (n t:Nat):Zq2 Flow where
  pre:=(fr,dlF w ft lst W tt L.lex o)::(Zq3 w L tk s++[(L.pb,dqO e [])])
  post x:=(fr,dlF4 w (fun j=>x.nat (j + 7)) lst W tt L.lex U (x.nat 6))::(Zq3 w L x.tk s'++[(L.pb,match v with | true=>dqO (e + 1 + 1) [(S W,tt),(S U,x.nat 6)] | false=>dqO (e + 1) [(S U,x.nat 6)])])
  fresh x:=[]
  tree:=exs (dlBody top) (Zjp top fr)
  res _:=.ok (match v with | true=>.ret (.ref lst) | false=>.next)
  need:=60
  fr:=none
noncomputable def dlB (w:Hs) (top:Addr→Option Obj) (exs:List Stmt→Env→Sem Flow) (fr:Addr) (ft:Nat→Nat) (lst:Addr) (W:List Nat) (tt:Nat) (o:Option (List Nat × Nat)) (L:Lx) (tk:Nat→Nat) (s:Lt) (e:Int) (U:List Nat) (tu:Nat) (l:List (Str × Nat)) (v:Bool) (n t:Nat):Zq2 Flow where
  pre:=(fr,dlF w ft lst W tt L.lex o)::(Zq3 w L tk s++[(L.pb,dqO e ((S U,tu)::l))])
  post x:=(fr,dlF4 w (fun j=>x.nat (j + 7)) lst W tt L.lex U tu)::(Zq3 w L tk s++[(L.pb,match v with | true=>dqO (e + 1 + 1 + 1) ((S W,tt)::(S U,tu)::l) | false=>dqO (e + 1 + 1) ((S U,tu)::l))])
  fresh x:=[]
  tree:=exs (dlBody top) (Zjp top fr)
  res _:=.ok (match v with | true=>.ret (.ref lst) | false=>.next)
  need:=60
  fr:=none
noncomputable def dlEx (_:Except Value Flow) (l:List (Option (Addr × Obj))) (_:List (Option Bag)):Ext:=exN fun j=>match Nat.ble 5 j with
  | true=>Zj2 l 0 (j - 5)
  | false=>match Nat.ble 4 j with
    | true=>eTok l 0 3
    | false=>Zvm (l.drop 1) j
noncomputable def dlPEx (_:Except Value Env) (l:List (Option (Addr × Obj))) (_:List (Option Bag)):Ext:=exN fun j=>Zj2 l 0 j
noncomputable def dlAEx (_:Except Value Unit) (l:List (Option (Addr × Obj))) (_:List (Option Bag)):Ext:=exN fun j=>Zj2 l 0 j
noncomputable def dgFam (w:Hs) (L:Lx) (s s':Lt) (e:Int) (U:List Nat):Fam:=fun n t _ l _=>gtCon w L (Zvm l) s s' e (S U) n t
noncomputable def dpFam (w:Hs) (L:Lx) (tk:Nat→Nat) (s:Lt) (e:Int) (U:List Nat) (tu:Nat) (l:List (Str × Nat)):Fam:=fun n t _ _ _=>Zzw w L tk s e (e + 1) (S U) tu l n t
noncomputable def dqTok (o:Obj) (k:Nat):Nat:=match o with
  | ⟨_,_,.fields f,_⟩=>match f.toList.drop (k + 2) with
    | v::_=>Zvt v
    | []=>0
  | _=>0
noncomputable def ptFam0 (w:Hs) (L:Lx) (s:Lt) (e:Int) (U:List Nat):Fam:=fun n t c l _=>Zz9 w L (Zvm l) s e (e + 1) (S U) (sTok c 1) [] n t
noncomputable def ptFam1 (w:Hs) (L:Lx) (s:Lt) (e:Int) (W U:List Nat):Fam:=fun n t c l _=>Zz9 w L (Zvm l) s e (e + 1) (S W) (sTok c 1) [(S U,dqTok (Zzf l 4) 0)] n t
noncomputable def ptFamB (w:Hs) (L:Lx) (tk:Nat→Nat) (s:Lt) (e:Int) (W:List Nat) (tt:Nat) (l:List (Str × Nat)):Fam:=fun n t _ _ _=>Zz9 w L tk s e (e + 1) (S W) tt l n t
noncomputable def kyFam (W:List Nat):Fam:=fun n t c _ _=>kyCon W (sTok c 0) n t
noncomputable def dOf (o:Obj):Addr:=match o with
  | ⟨_,d,_,_⟩=>d.getD 0
noncomputable def slT (o:Obj):Nat:=match o with
  | ⟨_,_,_,sl⟩=>match sl.toList with
    | v::_=>match v with
      | some v=>Zvt v
      | none=>0
    | []=>0
noncomputable def cmFam (f:Addr) (v:Bool) (W1 W2:List Nat):Fam:=fun n t c l _=>cmCon f v (Zx0 (Zx7 c 0)) (Zx0 (Zx7 c 1)) (dOf (Zzf l 0)) (dOf (Zzf l 1)) W1 W2 (slT (Zzf l 0)) (slT (Zzf l 1)) n t
noncomputable def laddCon (a b:Addr) (xs ys:List Value) (e1 e2:Nat) (n:Nat):Con where
  pre:=[(a,Zqz xs e1),(b,Zqz ys e2)]
  post _:=[(a,Zqz xs e1),(b,Zqz ys e2)]
  fresh _:=[(n,Zqz (xs++ys) 0)]
  code:=.builtin "list.__add__" ⟨[.ref a,.ref b],[]⟩
  res _:=.ok (.ret (.ref n))
  need:=5
  fr:=none
  gen:=false
  made _:=1
noncomputable def Zkq (o:Obj):List Value:=match o with
  | ⟨_,_,dt,_⟩=>match dt with
    | .seq a _=>a.toList
    | _=>[]
noncomputable def laddFam (xs:List Value) (e1:Nat) (k:Nat):Fam:=fun n _ c l _=>laddCon (Zx0 (Zx7 c 0)) (Zx0 (Zx7 c 1)) xs (match Zkq (Zzf l 1) with | v::_=>[.ref (Zx0 v)] | []=>[]) e1 (Zj6 (Zzf l 1)) n
noncomputable def joinCon1 (W q:List Nat) (u:Nat) (lst:Addr) (ep:Nat) (tb:Option Addr):Con where
  pre:=[(762,Zz8 775 20 tb),(lst,Zqz [.str (S W) u] ep)]
  post x:=[(762,Zz8 775 20 (some (x.nat 3))),(lst,Zqz [.str (S W) u] ep)]
  fresh _:=[]
  code:=.call (.ref 767) ⟨[.ref lst],[]⟩
  res x:=.ok (.ret (.str (S q) (x.nat 2)))
  need:=60
  fr:=none
noncomputable def joinFam1 (W q:List Nat) (tb:Option Addr):Fam:=fun n t c l _=>joinCon1 W q (match Zkq (Zzf l 1) with | v::_=>Zvt v | []=>0) (Zx0 (Zx7 c 0)) (Zj6 (Zzf l 1)) tb
noncomputable def pileFam (w:Hs) (q:List Nat):Fam:=fun n t c _ _=>pileCon w q (sTok c 0) n t
noncomputable def dlFT (w:Hs) (ft:Nat→Nat) (lst:Addr) (W:List Nat) (tt:Nat):Option (Addr × List Nat × Nat)→Obj
  | none=>dlF2 w ft lst W tt
  | some u=>dlF4 w ft lst W tt u.1 u.2.1 u.2.2
noncomputable def dlT (w:Hs) (top:Addr→Option Obj) (exs:List Stmt→Env→Sem Flow) (fr:Addr) (ft:Nat→Nat) (lst:Addr) (W:List Nat) (tt:Nat) (o:Option (Addr × List Nat × Nat)) (its:List Value) (ep:Nat) (q:List Nat) (tb:Option Addr) (n t:Nat):Zq2 Flow where
  pre:=[(fr,dlFT w ft lst W tt o),(762,Zz8 775 20 tb),(lst,Zqz its ep)]
  post x:=[(762,Zz8 775 20 (some (x.nat 9)))]
  fresh x:=(x.nat 6,Zqz (its++[.ref (x.nat 7)]) (x.nat 8))::freshL w (newL (x.nat 7) (x.seq 0 0 0) (x.seq 0 0 1) (x.seq 0 0 2) (x.seq 0 0 3) (x.seq 0 0 4) x q "#") x
  tree:=exs [Zqt (Zxv top 917) 1] (Zjp top fr)
  res x:=.ok (.ret (.ref (x.nat 6)))
  need:=80
  fr:=none
noncomputable def adOf (o:Option (Addr × Obj)):Addr:=match o with
  | some p=>match p with | (a,_)=>a
  | none=>0
noncomputable def tbOf (o:Obj):Addr:=match o with
  | ⟨_,_,.fields f,_⟩=>match f.toList.drop 2 with
    | v::_=>Zx0 v
    | []=>0
  | _=>0
noncomputable def dlTEx (f:Nat→Ext) (_:Except Value Flow) (l:List (Option (Addr × Obj))) (_:List (Option Bag)):Ext:=⟨fun j=>match j with
  | 4=>adOf (oAt l 0)
  | 5=>adOf (oAt l 4)
  | 6=>Zj6 (Zzf l 0)
  | 7=>tbOf (Zzf l 7)
  | j=>(f 1).nat (j + 2),fun _=>#[],fun _ _ k=>match k with
  | 0=>adOf (oAt l 3)
  | 1=>adOf (oAt l 2)
  | 2=>adOf (oAt l 1)
  | 3=>adOf (oAt l 5)
  | _=>adOf (oAt l 6),Ext.nil.ob⟩
noncomputable def roCk (w:Hs) (top:Addr→Option Obj) (R:RO):List (Addr × Obj):=[
  (845,{ cls:=.type "cell",data:=.cell (some (.ref 843)) }),
  (859,codeO R 50 "__init__" "cmp_to_key.<locals>.K.__init__" 13 2 19 854 855 856 857 858),
  (860,fnO (defFd (nthS (Zxq (Zqt (Zxv top 51) 0)) 2) "__init__" "cmp_to_key.<locals>.K.__init__" [] (.ref 859) .none)),
  (867,codeO R 60 "__lt__" "cmp_to_key.<locals>.K.__lt__" 16 2 19 862 863 864 865 866),
  (868,fnO (defFd (nthS (Zxq (Zqt (Zxv top 51) 0)) 3) "__lt__" "cmp_to_key.<locals>.K.__lt__" [("mycmp",845)] (.ref 867) (.ref 861))),
  (899,codeO R 70 "__ge__" "cmp_to_key.<locals>.K.__ge__" 28 2 19 894 895 896 897 898),
  (900,fnO (defFd (nthS (Zxq (Zqt (Zxv top 51) 0)) 7) "__ge__" "cmp_to_key.<locals>.K.__ge__" [("mycmp",845)] (.ref 899) (.ref 893))),
  (903,clsD w R),
  (904,clsO R),
  (905,{ cls:=.type "member_descriptor",data:=.fields #[.str "obj" (R.k 80),.ref 904,.builtin "proto.slot",.builtin "proto.slot#set",.int 0 0] })]
noncomputable def roX (x:Ext):RO:=⟨fun _=>0,fun k=>x.nat (k + 2)⟩
noncomputable def Zvx:Obj:={ cls:=.none,data:=.fields #[] }
noncomputable def ckCon (w:Hs) (top:Addr→Option Obj):Con where
  pre:=[(46,Zvx)]
  post _:=[(46,{ cls:=.none,data:=.fields #[.int 9 0,.int 4 0,.ref 851] })]
  fresh x:=roCk w top (roX x)
  code:=.call (.ref 51) ⟨[.ref 843],[]⟩
  res _:=.ok (.ret (.ref 904))
  need:=60
  fr:=none
  made _:=64
noncomputable def fTok (o:Obj) (k:Nat):Nat:=match o with
  | ⟨_,_,.fields f,_⟩=>match f.toList.drop k with
    | v::_=>Zvt v
    | []=>0
  | _=>0
noncomputable def fInt (o:Obj) (k:Nat):Nat:=match o with
  | ⟨_,_,.fields f,_⟩=>match f.toList.drop k with
    | v::_=>match v with
      | .int i _=>match i with
        | .ofNat n=>n
        | .negSucc _=>0
      | _=>0
    | []=>0
  | _=>0
noncomputable def slTok (o:Obj) (k:Nat):Nat:=match o with
  | ⟨_,_,_,sl⟩=>match sl.toList.drop k with
    | v::_=>match v with
      | some v=>Zvt v
      | none=>0
    | []=>0
noncomputable def cdTok (o:Obj) (k:Nat):Nat:=match k with
  | 0=>fTok o 0
  | 1=>fTok o 1
  | 2=>fTok o 2
  | 3=>fInt o 16
  | _=>fTok o 18
noncomputable def ckK (d c i l g m:Obj) (k:Nat):Nat:=match k with
  | 20=>slTok c 2
  | 21=>slTok c 3
  | 22=>Zj2 [some (0,d)] 0 0
  | 23=>eTok [some (0,d)] 0 0
  | 24=>Zj2 [some (0,d)] 0 1
  | 25=>eTok [some (0,d)] 0 1
  | 50=>cdTok i 0
  | 51=>cdTok i 1
  | 52=>cdTok i 2
  | 53=>cdTok i 3
  | 54=>cdTok i 4
  | 60=>cdTok l 0
  | 61=>cdTok l 1
  | 62=>cdTok l 2
  | 63=>cdTok l 3
  | 64=>cdTok l 4
  | 70=>cdTok g 0
  | 71=>cdTok g 1
  | 72=>cdTok g 2
  | 73=>cdTok g 3
  | 74=>cdTok g 4
  | 80=>fTok m 0
  | k=>Zj2 [some (0,d)] 0 (k - 24)
noncomputable def ckEx (_:Result) (l:List (Option (Addr × Obj))) (_:List (Option Bag)):Ext:=exN (ckK (Zzf l 7) (Zzf l 8) (Zzf l 1) (Zzf l 3) (Zzf l 5) (Zzf l 9))
section
set_option maxHeartbeats 0
open PySem PySem.W PySem.W.X PySem.Calls PyProof.Rows
noncomputable def hTbl:List (Addr × Obj):=[(46,Zvx),(801,Zvx),(789,Zvx),(762,Zz8 775 20 none)]
noncomputable def hHs (w:World):Hs:=fun k=>hashStr w (Str.ofString k)
noncomputable def hAd:List Nat:=(topL fun _=>0).map (·.1)
noncomputable def hYf (s:Shared):Nat × Option Value × List (Option Obj) × List (Option Obj):=(s.heap.objs.size,s.heap.nsMap mainGlobals "law",hAd.map s.heap.get?,hTbl.map fun p=>s.heap.get? p.1)
noncomputable def hYa (w:World):Nat × Option Value × List (Option Obj) × List (Option Obj):=(805,some (.ref 804),(topL (hHs w)).map fun p=>some p.2,hTbl.map fun p=>some p.2)
noncomputable def hSee (s₀:Shared) (s:Shared):Bool × Bool:=(s₀.heap.isNs mainGlobals && s₀.gens.size == 0,staticsOk (importedModules hP.main.body) s₀.heap s.heap && namesBound hP s.heap && gensDone s && laidKept s₀.heap s.heap)
theorem head_v (w:World):(hFast w).map (fun r=>(hSee r.1 r.2.abs,Fast.tw4187177175401517315 hQ hLoose (Fast.tw5923862056798008813 hP.main.body) (fun _=>true) true r.2.abs,hYf r.2.abs)) = some ((true,true),openGood hQ hLoose,hYa w):=by kernel_rfl
theorem head_left:LeftO hP hQ hLoose (fun _=>true) hYf hYa 6000:=fun w=>by
  have h:=head_v w
  rw [hFast_eq,← Fast.te4187177175401517315,← Fast.te5923862056798008813] at h
  obtain ⟨⟨s₀,s₁⟩,e,h⟩:=Option.map_eq_some_iff.mp h
  obtain ⟨a,b⟩:=hRun_spec (K:=6000) (by decide) (by decide) e
  obtain ⟨h1,h2⟩:=Prod.mk.inj h
  obtain ⟨h3,h4⟩:=Prod.mk.inj h1
  have t:topFrom treeTable hP w 6000 s₀ = some s₁.abs:=by
    unfold topFrom
    rw [h3]
    dsimp only
    rw [b]
    show (match staticsOk (importedModules hP.main.body) s₀.heap s₁.abs.heap && namesBound hP s₁.abs.heap && gensDone s₁.abs && laidKept s₀.heap s₁.abs.heap with | true=>some s₁.abs | false=>none) = _
    rw [h4]
  unfold openEnds
  rw [a]
  show (topFrom treeTable hP w 6000 s₀).map _ = _
  rw [t]
  exact congrArg some h2
end
noncomputable def ckS (top:Addr→Option Obj):Stmt:=Zqt (Zxv top 51) 0
noncomputable def clsName (s:Stmt):Str:=match s with
  | .ClassDef n _ _ _ _ _ _ _ _ _ _=>n
  | _ => ""
noncomputable def clsBases (s:Stmt):List Expr:=match s with
  | .ClassDef _ b _ _ _ _ _ _ _ _ _=>b
  | _=>[]
noncomputable def Zjs (s:Stmt):Scope:=match s with
  | .ClassDef _ _ _ _ _ _ sc _ _ _ _=>sc
  | _=>default
noncomputable def clsTs (s:Stmt):Option Scope:=match s with
  | .ClassDef _ _ _ _ _ _ _ ts _ _ _=>ts
  | _=>none
noncomputable def clsBind (s:Stmt):Str:=match s with
  | .ClassDef _ _ _ _ _ _ _ _ b _ _=>b
  | _ => ""
noncomputable def clsStat (s:Stmt):List Str:=match s with
  | .ClassDef _ _ _ _ _ _ _ _ _ st _=>st
  | _=>[]
noncomputable def clsPos (s:Stmt):Pos:=match s with
  | .ClassDef _ _ _ _ _ _ _ _ _ _ p=>p
  | _=>default
noncomputable def Zwz (top:Addr→Option Obj):Env:={ scope:=(Zxv top 51).scope,locals:=844,globals:=3,cells:=[("mycmp",845)],qual := "cmp_to_key.<locals>.",func:=some 51,code:=.ref 50,frame:=some 844,builtins:=0 }
noncomputable def ckQual:Str := "cmp_to_key.<locals>.K"
noncomputable def ckCEnv (top:Addr→Option Obj):Env:={ scope:=Zjs (ckS top),locals:=848,globals:=3,cells:=[("mycmp",845)],qual:=ckQual ++ ".",code:=.ref 851,frame:=some 852,builtins:=0 }
noncomputable def frmO (es:Array DictEntry) (n:Nat):Obj:={ cls:=.type "frame",data:=.dict es n }
noncomputable def ckF0:Obj:=frmO #[] 0
noncomputable def ckTup:Obj:={ cls:=.type "tuple",data:=.seq #[.type "object"] 0 }
noncomputable def ckBm:Obj:={ cls:=.type "builtin_function_or_method",data:=.fields #[.builtin "type.__prepare__",.type "type"] }
noncomputable def ckDict:Obj:={ cls:=.type "dict",data:=.dict #[] 0 }
noncomputable def ckT46:Obj:={ cls:=.none,data:=.fields #[.int 9 0,.int 4 0,.ref 851] }
noncomputable def ckCode (x:Nat→Nat):Obj:={ cls:=.type "code",data:=.fields #[.str "K" (x 0),.str ckQual (x 1),.str "/claim/cut.py" (x 2),.int 9 0,.int 0 0,.int 0 0,.int 0 0,.int 0 0,.ref 849,.bool true,.int 318 0,.ref 850,.none,.none,.none,.none,.int (Int.ofNat (x 3)) 0,.int 9 0,.str "/claim/cut.py" (x 4)] }
noncomputable def ckFr (u:Nat):Obj:={ cls:=.type "frame",slots:=#[some (.ref 851),some (.ref 3),some (.ref 848),none,some (.str "law_ij0140_02" u),none,some (.ref 0)] }
noncomputable def ckPrep (top:Addr→Option Obj) (prep:Addr→FuncData→Args→Sem Env) (n t:Nat):Zq2 Env where
  pre:=[]
  post _:=[]
  fresh x:=[(844,ckF0),(845,{ cls:=.type "cell",data:=.cell (some (.ref 843)) })]
  tree:=prep 51 (Zxv top 51) ⟨[.ref 843],[]⟩
  res _:=.ok (Zwz top)
  need:=20
  fr:=none
  made _:=2
noncomputable def ckGA (ga:Value→Str→Sem (Option Value)):Zq2 (Option Value) where
  pre:=[]
  post _:=[]
  fresh x:=[(847,ckBm)]
  tree:=ga (.type "type") "__prepare__"
  res _:=.ok (some (.ref 847))
  need:=20
  fr:=none
  made _:=1
noncomputable def ckCP (nm:Str) (u:Nat):Zq2 Value where
  pre:=[(847,ckBm),(846,ckTup)]
  post _:=[(846,ckTup)]
  fresh x:=[(848,ckDict)]
  tree:=call (.ref 847) [.str nm u,.ref 846] []
  res _:=.ok (.ref 848)
  need:=20
  fr:=none
  made _:=1
noncomputable def ckSp (sp:Value→Str→Sem (Option Value)):Zq2 (Option Value) where
  pre:=[(848,ckDict)]
  post _:=[(848,ckDict)]
  fresh x:=[]
  tree:=sp (.ref 848) "__getitem__"
  res _:=.ok (some (.builtin "dict.__getitem__"))
  need:=20
  fr:=none
  made _:=0
noncomputable def ckCC (top:Addr→Option Obj) (cc:Env→Pos→Nat→Str→Str→Scope→Sem Value):Zq2 Value where
  pre:=[(46,Zvx)]
  post _:=[(46,ckT46)]
  fresh x:=[(850,Zvx),(851,ckCode fun k=>x.nat (k + 2))]
  tree:=cc (Zwz top) (clsPos (ckS top)) 9 (clsName (ckS top)) ckQual (Zjs (ckS top))
  res _:=.ok (.ref 851)
  need:=20
  fr:=none
  made _:=3
noncomputable def ckBF (bf:Addr→Addr→Sem Addr):Zq2 Addr where
  pre:=[]
  post _:=[]
  fresh x:=[]
  tree:=bf 3 0
  res _:=.ok 0
  need:=20
  fr:=none
  made _:=0
noncomputable def ckNF (nf:Value→Addr→Addr→Addr→Sem Addr):Zq2 Addr where
  pre:=[]
  post _:=[]
  fresh x:=[(852,ckFr (x.nat 2))]
  tree:=nf (.ref 851) 3 848 0
  res _:=.ok 852
  need:=20
  fr:=none
  made _:=1
noncomputable def ckCl (top:Addr→Option Obj) (cl:Scope→Env→Sem (List (Str × Addr))):Zq2 (List (Str × Addr)) where
  pre:=[]
  post _:=[]
  fresh x:=[]
  tree:=cl (Zjs (ckS top)) (Zwz top)
  res _:=.ok [("mycmp",845)]
  need:=20
  fr:=none
  made _:=0
noncomputable def ckRestT (sn:Env→Str→Value→Sem Unit) (ln:Env→Str→Sem Value) (mt:Str→Sem Value) (mi:Int→Sem Value) (ntt:List Value→Sem Value) (lv:Env→Value→Sem Unit) (qual:Str) (line:Nat) (statics:List Str) (body:List Stmt) (cenv:Env) (nameV:Value):Sem Value:=do
  (do sn cenv "__module__" (← ln cenv "__name__")
      sn cenv "__qualname__" (← mt qual)
      sn cenv "__firstlineno__" (← mi line)
      pure ():Sem Unit).onRaise (lv cenv)
  let _ ← run (.body body cenv)
  (do sn cenv "__static_attributes__" (← ntt (← statics.mapM mt))
      pure ():Sem Unit).onRaise (lv cenv)
  call (.type "type") [nameV,.ref 846,.ref 848] [] >>= fun cls=>pure cls
noncomputable def ckRe (w:Hs) (top:Addr→Option Obj) (sn:Env→Str→Value→Sem Unit) (ln:Env→Str→Sem Value) (mt:Str→Sem Value) (mi:Int→Sem Value) (ntt:List Value→Sem Value) (lv:Env→Value→Sem Unit) (nm:Str) (u:Nat) (x:Nat→Nat) (uf:Nat):Zq2 Value where
  pre:=[(845,{ cls:=.type "cell",data:=.cell (some (.ref 843)) }),(846,ckTup),(848,ckDict),(850,Zvx),(851,ckCode x),(852,ckFr uf)]
  post _:=[]
  fresh x:=roCk w top (roX x)
  tree:=ckRestT sn ln mt mi ntt lv ckQual 9 (clsStat (ckS top)) (Zxq (ckS top)) (ckCEnv top) (.str nm u)
  res _:=.ok (.ref 904)
  need:=50
  fr:=none
  made _:=55
noncomputable def ckBN (w:Hs) (top:Addr→Option Obj) (bn:Env→Str→Value→Sem Unit):Zq2 Unit where
  pre:=[(844,ckF0)]
  post x:=[(844,frmO #[ent w "K" (x.nat 2) (.ref 904)] 1)]
  fresh x:=[]
  tree:=bn (Zwz top) (clsBind (ckS top)) (.ref 904)
  res _:=.ok ()
  need:=20
  fr:=none
  made _:=0
noncomputable def ckRt (w:Hs) (top:Addr→Option Obj) (exs:List Stmt→Env→Sem Flow) (u:Nat):Zq2 Flow where
  pre:=[(844,frmO #[ent w "K" u (.ref 904)] 1)]
  post x:=[(844,frmO #[ent w "K" u (.ref 904)] 1)]
  fresh x:=[]
  tree:=exs [Zqt (Zxv top 51) 1] (Zwz top)
  res _:=.ok (.ret (.ref 904))
  need:=20
  fr:=none
  made _:=0
noncomputable def ckCCEx (_:Except Value Value) (l:List (Option (Addr × Obj))) (_:List (Option Bag)):Ext:=exN fun k=>cdTok (Zzf l 1) k
noncomputable def ckReEx (_:Except Value Value) (l:List (Option (Addr × Obj))) (_:List (Option Bag)):Ext:=exN (ckK (Zzf l 7) (Zzf l 8) (Zzf l 1) (Zzf l 3) (Zzf l 5) (Zzf l 9))
noncomputable def slT4 (o:Obj):Nat:=slTok o 4
noncomputable def inCon (pn:Value→Sem (Option Value)) (it lst:Addr) (xs:List Value) (ep i:Nat) (v:Value) (n t:Nat):Zq2 (Option Value) where
  pre:=[(it,Zx4 lst i),(lst,Zqz xs ep)]
  post _:=[(it,Zx4 lst (i + 1)),(lst,Zqz xs ep)]
  fresh _:=[]
  tree:=pn (.ref it)
  res _:=.ok (some v)
  need:=20
  fr:=none
  made _:=0
noncomputable def ieCon (pn:Value→Sem (Option Value)) (it lst:Addr) (xs:List Value) (ep i:Nat) (n t:Nat):Zq2 (Option Value) where
  pre:=[(it,Zx4 lst i),(lst,Zqz xs ep)]
  post _:=[(lst,Zqz xs ep)]
  fresh _:=[]
  tree:=pn (.ref it)
  res _:=.ok none
  need:=20
  fr:=none
  made _:=2
noncomputable def apCon (lst:Addr) (xs:List Value) (ep:Nat) (v:Value):Con where
  pre:=[(lst,Zqz xs ep)]
  post x:=[(lst,Zqz (xs++[v]) (x.nat 2))]
  fresh _:=[]
  code:=.builtin "list.append" ⟨[.ref lst,v],[]⟩
  res _:=.ok (.ret .none)
  need:=5
  fr:=none
  gen:=false
  made _:=0
noncomputable def giCon (lst:Addr) (xs:List Value) (ep:Nat) (i:Int) (u:Nat) (v:Value):Con where
  pre:=[(lst,Zqz xs ep)]
  post _:=[(lst,Zqz xs ep)]
  fresh _:=[]
  code:=.builtin "list.__getitem__" ⟨[.ref lst,.int i u],[]⟩
  res _:=.ok (.ret v)
  need:=20
  fr:=none
  made _:=0
theorem gi_okI {T:Params→Addr→Option Obj} {prog:Program} {w:World} {lst:Addr} {xs:List Value} {ep:Nat} {i:Int} {u:Nat} {v:Value} (h0:0≤i) (hk:i < 2 ^ 63) (hx:xs[i.toNat]? = some v) (n t:Nat):Zq1 T prog w n t (giCon lst xs ep i u v):=by
  have hfit:Builtin.List.listFitsIndex i = true:=fitsIndex_of h0 hk
  clear hk
  refine ⟨fun h₀ h r g A R G hA O hs hR=>?_⟩
  have O:Own h₀ [(lst,Zqz xs ep)] h:=O
  have ho:=O.own (lst,Zqz xs ep) (.head _)
  refine codeAny_builtin F.entry_list_getitem ?_
  rw [Around.under_plainId (by decide +kernel)]
  show wpAny _ _ (Builtin.List.listSubscript? (.int i u) >>= _) _ _ _
  refine wpAny_bind (wpAny_listSubscript_int hfit ?_)
  clear hfit
  have fin:R (.ok (.ret v)) (r.at h ⟨t,g⟩):=hR ⟨fun _=>0,fun _=>#[],fun _ _ _=>0,Ext.nil.ob⟩ h g O hs (Zq5.refl _ _)
  clear hR
  obtain ⟨j,rfl⟩:=Int.eq_ofNat_of_zero_le h0
  have hx':(⟨xs⟩:Array Value)[j]? = some v:=by simpa using hx
  show wpAny _ _ ((seqItemAt lst j >>= fun r=>pure (r.map (j,·))) >>= _) _ _ _
  refine wpAny_bind (wpAny_bind (wpAny_seqItemAt ho rfl (wpAny_pure ?_)))
  rw [hx']
  exact wpAny_pure fin
theorem gi_ok {T:Params→Addr→Option Obj} {prog:Program} {w:World} {lst:Addr} {xs:List Value} {ep:Nat} {i:Int} {u k:Nat} {v:Value} (hi:i = Int.ofNat k) (hk:Int.ofNat k < 2 ^ 63) (hx:xs[k]? = some v) (n t:Nat):Zq1 T prog w n t (giCon lst xs ep i u v):=by
  subst hi
  exact gi_okI (Int.natCast_nonneg k) hk hx n t
noncomputable def orc_QU0:List Nat:=Zxh 16 25 0x1000000000001000000111000
theorem QU0_v (prog:Program) (w:World) (b:Bool) (tt n t:Nat) (f:Nat→Ext) :
    Zq6 [] (Zv2 [97] [97] tt n t) quEx Zq8 [] (Zzs T2 prog (wb w b) n t [] [] (Zv2 [97] [97] tt n t) orc_QU0 f):=by cases b <;> kernel_rfl
theorem qu0_ok {prog:Program} {w:World} {b:Bool} (tt n t:Nat):Zq1 T2 prog (wb w b) n t (Zv2 [97] [97] tt n t) :=
  Zqb (orc:=orc_QU0) (tk:=fun _=>quEx) (sl:=fun _=>Zq8) Zqq (fun _=>rfl) rfl (QU0_v prog w b tt n t) (fun f q hq=>nomatch hq) (fun _ f=>by cases b <;> kernel_rfl)
noncomputable def orc_QU1:List Nat:=Zxh 16 34 0x1003000000000001000000111000
theorem QU1_v (prog:Program) (w:World) (b:Bool) (tt n t:Nat) (f:Nat→Ext) :
    Zq6 [] (Zv2 [105,116,39,115] [39,105,116,39,34,39,34,39,115,39] tt n t) quEx Zq8 [replOwes (S [105,116,39,115]) (S [39]) (S [39,34,39,34,39]) (t + 4) (t + 5) (S [105,116,39,34,39,34,39,115])] (Zzs T2 prog (wb w b) n t [S [105,116,39,34,39,34,39,115]] [] (Zv2 [105,116,39,115] [39,105,116,39,34,39,34,39,115,39] tt n t) orc_QU1 f):=by cases b <;> kernel_rfl
theorem qu1_ok {prog:Program} {w:World} {b:Bool} (tt n t:Nat):Zq1 T2 prog (wb w b) n t (Zv2 [105,116,39,115] [39,105,116,39,34,39,34,39,115,39] tt n t) :=
  Zqb (orc:=orc_QU1) (tk:=fun _=>quEx) (sl:=fun _=>Zq8) Zqq (fun _=>rfl) rfl (QU1_v prog w b tt n t) (fun f q hq=>by
    rw [List.mem_singleton] at hq
    subst hq
    exact ⟨by decide +kernel,by simp,by simp,by decide +kernel,by decide +kernel,by decide +kernel,by decide +kernel⟩) (fun _ f=>by cases b <;> kernel_rfl)
noncomputable def orc_QU2:List Nat:=[0,0,0,1,1,1,0,0,0,0,0]
theorem QU2_v (prog:Program) (w:World) (b:Bool) (tt n t:Nat) (f:Nat→Ext) :
    Zq6 [] (Zv2 [] [39,39] tt n t) quEx Zq8 [] (Zzs T2 prog (wb w b) n t [] [] (Zv2 [] [39,39] tt n t) orc_QU2 f):=by cases b <;> kernel_rfl
theorem qu2_ok {prog:Program} {w:World} {b:Bool} (tt n t:Nat):Zq1 T2 prog (wb w b) n t (Zv2 [] [39,39] tt n t) :=
  Zqb (orc:=orc_QU2) (tk:=fun _=>quEx) (sl:=fun _=>Zq8) Zqq (fun _=>rfl) rfl (QU2_v prog w b tt n t) (fun f q hq=>nomatch hq) (fun _ f=>by cases b <;> kernel_rfl)
noncomputable def orc_QU3:List Nat:=Zxh 16 34 0x3000000000001000000111000
theorem QU3_v (prog:Program) (w:World) (b:Bool) (tt n t:Nat) (f:Nat→Ext) :
    Zq6 [] (Zv2 [98,32,99] [39,98,32,99,39] tt n t) quEx Zq8 [] (Zzs T2 prog (wb w b) n t [] [] (Zv2 [98,32,99] [39,98,32,99,39] tt n t) orc_QU3 f):=by cases b <;> kernel_rfl
theorem qu3_ok {prog:Program} {w:World} {b:Bool} (tt n t:Nat):Zq1 T2 prog (wb w b) n t (Zv2 [98,32,99] [39,98,32,99,39] tt n t) :=
  Zqb (orc:=orc_QU3) (tk:=fun _=>quEx) (sl:=fun _=>Zq8) Zqq (fun _=>rfl) rfl (QU3_v prog w b tt n t) (fun f q hq=>nomatch hq) (fun _ f=>by cases b <;> kernel_rfl)
noncomputable def orc_QU4:List Nat:=Zxh 16 34 0x3000000000001000000111000
theorem QU4_v (prog:Program) (w:World) (b:Bool) (tt n t:Nat) (f:Nat→Ext) :
    Zq6 [] (Zv2 [35] [39,35,39] tt n t) quEx Zq8 [] (Zzs T2 prog (wb w b) n t [] [] (Zv2 [35] [39,35,39] tt n t) orc_QU4 f):=by cases b <;> kernel_rfl
theorem qu4_ok {prog:Program} {w:World} {b:Bool} (tt n t:Nat):Zq1 T2 prog (wb w b) n t (Zv2 [35] [39,35,39] tt n t) :=
  Zqb (orc:=orc_QU4) (tk:=fun _=>quEx) (sl:=fun _=>Zq8) Zqq (fun _=>rfl) rfl (QU4_v prog w b tt n t) (fun f q hq=>nomatch hq) (fun _ f=>by cases b <;> kernel_rfl)
noncomputable def orc_QU5:List Nat:=Zxh 16 34 0x3000000000001000000111000
theorem QU5_v (prog:Program) (w:World) (b:Bool) (tt n t:Nat) (f:Nat→Ext) :
    Zq6 [] (Zv2 [92] [39,92,39] tt n t) quEx Zq8 [] (Zzs T2 prog (wb w b) n t [] [] (Zv2 [92] [39,92,39] tt n t) orc_QU5 f):=by cases b <;> kernel_rfl
theorem qu5_ok {prog:Program} {w:World} {b:Bool} (tt n t:Nat):Zq1 T2 prog (wb w b) n t (Zv2 [92] [39,92,39] tt n t) :=
  Zqb (orc:=orc_QU5) (tk:=fun _=>quEx) (sl:=fun _=>Zq8) Zqq (fun _=>rfl) rfl (QU5_v prog w b tt n t) (fun f q hq=>nomatch hq) (fun _ f=>by cases b <;> kernel_rfl)
section
open PySem PySem.W PySem.W.X PyProof.Rows
noncomputable abbrev gcZ:Env→Pos→Str→Scope→Sem Value:=W.ZFast.zw9492743126541576920
noncomputable abbrev bfZ:Addr→Addr→Sem Addr:=W.ZFast.zw6600643334278800223
theorem gcZ_eq:gcZ = genexprCode:=W.ZFast.ze9492743126541576920.symm
theorem bfZ_eq:bfZ = builtinsFor:=W.ZFast.ze6600643334278800223.symm
noncomputable def orc_JP:List Nat:=[0,1,1]
noncomputable def orc_JC:List Nat:=[]
noncomputable def orc_JI:List Nat:=[1]
noncomputable def orc_JG0:List Nat:=[0,1,4,4,4]
noncomputable def orc_JG1:List Nat:=[0,1]
noncomputable def orc_JB:List Nat:=[0,0]
section
variable (prog:Program) (w:World) (b:Bool) (n t:Nat) (f:Nat→Ext)
theorem JP_v (lst:Addr):Zqh [0] [] (jnPrep (hz (wb w b)) (Zqf (wb w b)) Zjw lst n t) (fun _ l _=>exN fun _=>Zj2 l 0 0) [] (Zzz T2 prog (wb w b) n t [] [] (jnPrep (hz (wb w b)) (Zqf (wb w b)) Zjw lst n t) orc_JP f):=by cases b <;> kernel_rfl
theorem JC_v (fr:Addr):Zqh [] [] (jnC (Zqf (wb w b)) Zq9 fr n t) (fun r _ _=>exN fun _=>match r with | .ok v=>Zvt v | _=>0) [] (Zzz T2 prog (wb w b) n t [] [] (jnC (Zqf (wb w b)) Zq9 fr n t) orc_JC f):=by cases b <;> kernel_rfl
theorem JI_v (fr k:Nat) (lst:Addr):Zqh [0] [] (jnI (hz (wb w b)) (Zqf (wb w b)) Zq9 fr k lst n t) (fun _ _ _=>exN fun _=>0) [] (Zzz T2 prog (wb w b) n t [] [] (jnI (hz (wb w b)) (Zqf (wb w b)) Zq9 fr k lst n t) orc_JI f):=by cases b <;> kernel_rfl
theorem JG0_v (fr:Addr):Zqh [3] [] (jnG0 (Zqf (wb w b)) gcZ fr 775 20 2 n t) (fun _ _ _=>exN fun _=>0) [] (Zzz T2 prog (wb w b) n t [] [] (jnG0 (Zqf (wb w b)) gcZ fr 775 20 2 n t) orc_JG0 f):=by cases b <;> kernel_rfl
theorem JG1_v (fr c:Addr):Zqh [0] [] (jnG1 (Zqf (wb w b)) gcZ fr 775 20 c n t) (fun _ _ _=>exN fun _=>0) [] (Zzz T2 prog (wb w b) n t [] [] (jnG1 (Zqf (wb w b)) gcZ fr 775 20 c n t) orc_JG1 f):=by cases b <;> kernel_rfl
theorem JB_v (fr:Addr):Zqh [] [] (jnB (Zqf (wb w b)) bfZ fr n t) (fun _ _ _=>exN fun _=>0) [] (Zzz T2 prog (wb w b) n t [] [] (jnB (Zqf (wb w b)) bfZ fr n t) orc_JB f):=by cases b <;> kernel_rfl
end
section
variable {prog:Program} {w:World} {b:Bool}
theorem jp_ok (lst n t:Nat):Zqn T2 prog (wb w b) n t (jnPrep (hz (wb w b)) (Zqf (wb w b)) Zjw lst n t):=Zqw (ex:=fun _ _ l _=>exN fun _=>Zj2 l 0 0) Zqq rfl rfl (fun f=>JP_v prog w b n t f lst) fun f q hq=>nomatch hq
theorem jc_ok (fr n t:Nat):Zqn T2 prog (wb w b) n t (jnC (Zqf (wb w b)) Zq9 fr n t):=Zqw (ex:=fun _ r _ _=>exN fun _=>match r with | .ok v=>Zvt v | _=>0) Zqq rfl rfl (fun f=>JC_v prog w b n t f fr) fun f q hq=>nomatch hq
theorem ji_ok (fr k lst n t:Nat):Zqn T2 prog (wb w b) n t (jnI (hz (wb w b)) (Zqf (wb w b)) Zq9 fr k lst n t):=Zqw (ex:=fun _ _ _ _=>exN fun _=>0) Zqq rfl rfl (fun f=>JI_v prog w b n t f fr k lst) fun f q hq=>nomatch hq
theorem jb_ok (fr n t:Nat):Zqn T2 prog (wb w b) n t (jnB (Zqf (wb w b)) bfZ fr n t):=Zqw (ex:=fun _ _ _ _=>exN fun _=>0) Zqq rfl rfl (fun f=>JB_v prog w b n t f fr) fun f q hq=>nomatch hq
noncomputable def jnG (top:Addr→Option Obj) (gc:Env→Pos→Str→Scope→Sem Value) (fr:Addr) (tb:Option Addr) (n t:Nat):Zq2 Value where
  pre:=[(762,Zz8 775 20 tb)]
  post _:=[(762,Zz8 775 20 (some (tb.getD (n + 2))))]
  fresh x:=[]
  tree:=gc (Zv9 top fr) (J767 top).gp ((Zv9 top fr).qual ++ "<genexpr>") (J767 top).sc
  res x:=.ok (.ref (tb.getD (n + 2)))
  need:=20
  fr:=none
theorem jg_ok (fr:Addr) (tb:Option Addr) (n t:Nat):Zqn T2 prog (wb w b) n t (jnG (Zqf (wb w b)) gcZ fr tb n t):=by
  cases tb with
  | none=>exact Zqw (ex:=fun _ _ _ _=>exN fun _=>0) Zqq rfl rfl (fun f=>JG0_v prog w b n t f fr) fun f q hq=>nomatch hq
  | some c=>exact Zqw (ex:=fun _ _ _ _=>exN fun _=>0) Zqq rfl rfl (fun f=>JG1_v prog w b n t f fr c) fun f q hq=>nomatch hq
noncomputable def J7 (w:World):JSh:=J767 (Zqf w)
theorem d767:((Zqf (wb w b) 767).bind isDef) = some (Zxv (Zqf (wb w b)) 767):=by cases b <;> kernel_rfl
theorem body767:(Zxv (Zqf (wb w b)) 767).body = .stmts [Zqt (Zxv (Zqf (wb w b)) 767) 0]:=by cases b <;> kernel_rfl
theorem js767:Zqt (Zxv (Zqf (wb w b)) 767) 0 = (J7 (wb w b)).stmt:=by cases b <;> kernel_rfl
theorem nm767:(J7 (wb w b)).nm = "join" := by cases b <;> kernel_rfl
theorem vx767:(J7 (wb w b)).v = (J7 (wb w b)).x:=by cases b <;> kernel_rfl
theorem line767:((J7 (wb w b)).ap.endLine == (J7 (wb w b)).pos.line) = true:=by cases b <;> kernel_rfl
theorem co767:(J7 (wb w b)).sc.isCoroutine = false:=by cases b <;> kernel_rfl
theorem kind767:(J7 (wb w b)).sc.kind = .function:=by cases b <;> kernel_rfl
theorem clos767 (fr:Addr):closureFor (J7 (wb w b)).sc (Zv9 (Zqf (wb w b)) fr) = pure []:=by cases b <;> kernel_rfl
theorem cell767:((J7 (wb w b)).sc.names.all fun y=>decide (y.2≠NameKind.cell)) = true:=by cases b <;> kernel_rfl
theorem dot767:(J7 (wb w b)).sc.names.lookup (".0" : Str) = some NameKind.local:=by cases b <;> kernel_rfl
theorem x767:(J7 (wb w b)).sc.names.lookup (J7 (wb w b)).x = some NameKind.local:=by cases b <;> kernel_rfl
theorem quote767 (fr C:Addr) (code:Value):readT (Zqf (wb w b)) ⟨prog,(wb w b).params⟩ (Zq9 (.Name (J7 (wb w b)).q (J7 (wb w b)).qp) (genEnv (J7 (wb w b)).sc [] C code 0 (Zv9 (Zqf (wb w b)) fr))) = some (.ref 775):=by cases b <;> kernel_rfl
theorem loc767 (fr C:Addr) (code:Value):(genEnv (J7 (wb w b)).sc [] C code 0 (Zv9 (Zqf (wb w b)) fr)).kindOf (J7 (wb w b)).x = some .local:=by cases b <;> kernel_rfl
theorem dbg767:((J7 (wb w b)).x == ("__debug__" : Str)) = false:=by cases b <;> kernel_rfl
theorem dbq767:((J7 (wb w b)).q == ("__debug__" : Str)) = false:=by cases b <;> kernel_rfl
theorem def775:((Zqf (wb w b) 775).bind isDef).isSome = true:=by cases b <;> kernel_rfl
end
end
section
open PySem PySem.W PySem.W.X PyProof.Rows
noncomputable def joinCon (ws qs:List (List Nat)) (tk:Nat→Nat) (lst:Addr) (ep:Nat) (tb:Option Addr):Con where
  pre:=[(762,Zz8 775 20 tb),(lst,Zqz (wsV (ws.map S) tk) ep)]
  post x:=[(762,Zz8 775 20 (some (x.nat 3))),(lst,Zqz (wsV (ws.map S) tk) ep)]
  fresh _:=[]
  code:=.call (.ref 767) ⟨[.ref lst],[]⟩
  res x:=.ok (.ret (.str (Txt.join " " (qs.map S)) (x.nat 2)))
  need:=60
  fr:=none
noncomputable abbrev QuOk (prog:Program) (w:World) (b:Bool) (wd q:List Nat):Prop:=∀ tt n t,Zq1 T2 prog (wb w b) n t (Zv2 wd q tt n t)
theorem wsV_get:∀ (ws:List (List Nat)) (tk:Nat→Nat) (i:Nat) (v:Value),(wsV (ws.map S) tk)[i]? = some v→∃ wd,ws[i]? = some wd∧v = .str (S wd) (tk i)
  | [],_,_,_,h=>by cases h
  | wd::r,tk,0,v,h=>by cases h; exact ⟨wd,rfl,rfl⟩
  | wd::r,tk,i + 1,v,h=>by
    obtain ⟨wd',h1,h2⟩:=wsV_get r (fun k=>tk (k + 1)) i v h
    exact ⟨wd',h1,h2⟩
theorem passing_all (n:Nat):passing (fun _=>true) n 0 = List.range n:=by
  unfold passing
  simp
theorem quote_call {prog:Program} {w:World} {b:Bool} {wd q:List Nat} (h:QuOk prog w b wd q) {A:Around} {s:Shared} {tt:Nat} {E:Value→Shared→Prop} (hh:A.handled = none) (hd:A.depth + 5 * 30 < recursionLimit) (hu:A.units + 10 * 30 < cLine)
    (G:Ground T2 (wb w b) s.heap):wpAny (model prog (wb w b)) A (call (.ref 775) [.str (S wd) tt]) (fun y s'=>(∃ u,y = .str (S q) u)∧Keeps s s') E s:=by
  obtain ⟨hp,gs,d,tok,os⟩:=s
  refine wpAny_call ?_
  refine (h tt hp.objs.size tok).run hp hp ⟨d,os⟩ gs A _ G ⟨hh,hd,hu,fun l e=>by cases e⟩ ⟨fun _ _ e=>e,fun p hp=>(nomatch hp),List.nodup_nil,fun p hp=>(nomatch hp)⟩ rfl fun x h' g' O hs gr=>?_
  have eg:g' = gs:=gr.1 rfl
  subst eg
  exact ⟨⟨_,rfl⟩,⟨h',tok + x.nat 1,rfl,O.keep⟩⟩
noncomputable def Steps {α:Type} (prog:Program) (w:World) (A:Around) (h₀:Heap) (r:Zkc) (tree:Sem α) (l:List (Addr × Obj)) (res:Nat→α→List (Addr × Obj)→Prop):Prop :=
  ∀ (h:Heap) (n t:Nat) (g:Array GenState) (Q:α→Shared→Prop) (E:Value→Shared→Prop),Own h₀ l h→h.objs.size = n →
    (∀ a l' h' t' g' m,res n a l'→Own h₀ l' h'→h'.objs.size = n + m→Zq5 true g g'→Q a (r.at h' ⟨t',g'⟩))→wpAny (model prog w) A tree Q E (r.at h ⟨t,g⟩)
theorem Zqn.steps {α:Type} {prog:Program} {w:World} {A:Around} {h₀:Heap} {r:Zkc} {C:Nat→Nat→Zq2 α} (hC:∀ n t,Zqn T2 prog w n t (C n t)) {tree:Sem α} (ht:∀ n t,(C n t).tree = tree) (G:Ground T2 w h₀) {l rest:List (Addr × Obj)} {res:Nat→α→List (Addr × Obj)→Prop}
    (hA:∀ n t,AOk A (C n t).fr (C n t).need) (hp:∀ n t,l.Perm ((C n t).preA++rest)) (hres:∀ n t x,∃ a,(C n t).res x = .ok a∧res n a ((C n t).postA x++rest)):Steps prog w A h₀ r tree l res:=by
  intro h n t g Q E O hs hQ
  rw [← ht n t]
  refine (hC n t).use G (hA n t) O (hp n t) hs fun x h' g' O' hs' gr=>?_
  obtain ⟨a,e,hr⟩:=hres n t x
  rw [e]
  exact hQ a _ h' _ g' _ hr O' hs' gr
structure JoinFacts (prog:Program) (w:World) (A:Around) (h₀:Heap) (r:Zkc) (J:JSh) (env:Env) (n:Nat) (F lst:Addr × Obj) (tb:Option Addr):Prop where
  nm:J.nm = "join"
  vx:J.v = J.x
  line:(J.ap.endLine == J.pos.line) = true
  co:J.sc.isCoroutine = false
  kind:J.sc.kind = .function
  clos:closureFor J.sc env = pure []
  cell:∀ y ∈ J.sc.names,y.2≠NameKind.cell
  dot:J.sc.names.lookup (".0" : Str) = some NameKind.local
  x:J.sc.names.lookup J.x = some NameKind.local
  quote:∀ C code,readT (T2 w.params) ⟨prog,w.params⟩ (Zq9 (.Name J.q J.qp) (genEnv J.sc [] C code 0 env)) = some (.ref 775)
  loc:∀ C code,(genEnv J.sc [] C code 0 env).kindOf J.x = some .local
  dbg:(J.x == ("__debug__" : Str)) = false
  sC:∀ l,Steps prog w A h₀ r (eval (.Constant J.c J.ck J.cp) env) l fun _ v l'=>∃ u,v = .str " " u∧l' = l
  sI:∀ l,Steps prog w A h₀ r (eval (.Name J.it J.ip) env) (F::l) fun _ v l'=>v = .ref lst.1∧l' = F::l
  sG:∀ l,Steps prog w A h₀ r (genexprCode env J.gp (env.qual ++ "<genexpr>") J.sc) ((762,Zz8 775 20 tb)::l) fun _ v l'=>∃ c,v = .ref c∧l' = (762,Zz8 775 20 (some c))::l
  sB:∀ l,Steps prog w A h₀ r (builtinsFor env.globals env.builtins) l fun _ v l'=>v = 0∧l' = l
theorem texts_of {P:Nat→Value→Prop} {n:Nat} {tx:Nat→Str} (htx:∀ j v,P j v→∃ u,v = .str (tx j) u) {lt:List (Str × Tok)} (h:ItemsOf P (strValues lt).toArray n):lt.map (·.1) = (List.range n).map tx:=by
  apply List.ext_getElem?
  intro j
  have hsz:lt.length = n:=by simpa [strValues] using h.1
  by_cases hj:j < n
  · have hj':j < lt.length:=hsz ▸ hj
    obtain ⟨u,hv⟩:=htx j _ (h.2 j (.str lt[j].1 lt[j].2) (by simp [strValues,List.getElem?_eq_getElem hj']))
    injection hv with h1 _
    simp [List.getElem?_eq_getElem hj',hj,h1]
  · rw [List.getElem?_eq_none (by simpa [hsz] using Nat.le_of_not_lt hj),List.getElem?_eq_none (by simpa using Nat.le_of_not_lt hj)]
theorem join_core {prog:Program} {w:World} {b:Bool} {A:Around} {h₀:Heap} {r:Zkc} {J:JSh} {env:Env} {n:Nat} {Fo:Addr × Obj} {ws qs:List (List Nat)} {tk:Nat→Nat} {lst:Addr} {ep:Nat} {tb:Option Addr}
    (X:JoinFacts prog (wb w b) A h₀ r J env n Fo (lst,Zqz (wsV (ws.map S) tk) ep) tb) (G:Ground T2 (wb w b) h₀) (hA:AOk A none 59)
    (hl:qs.length = ws.length) (hq:∀ (i:Nat) (wd q:List Nat),ws[i]? = some wd→qs[i]? = some q→QuOk prog w b wd q) (hj:JoinOk " " (qs.map S) = true) (hlen:ws.length≤sizeLine)
    {h:Heap} {g:Array GenState} {t:Nat} {Q:Value→Shared→Prop} {E:Value→Shared→Prop} (O:Own h₀ [Fo,(762,Zz8 775 20 tb),(lst,Zqz (wsV (ws.map S) tk) ep)] h)
    (hQ:∀ v c h' t' g',Own h₀ [Fo,(762,Zz8 775 20 (some c)),(lst,Zqz (wsV (ws.map S) tk) ep)] h'→Zq5 true g g'→Q (.str (Txt.join " " (qs.map S)) v) (r.at h' ⟨t',g'⟩)) :
    wpAny (model prog (wb w b)) A (eval (.Call (.Attribute (.Constant J.c J.ck J.cp) J.nm J.ap) [J.gen] [] J.pos) env) Q E (r.at h ⟨t,g⟩):=by
  refine Call_method1 rfl rfl X.line ?_
  refine X.sC _ h _ t g _ _ O rfl fun a l' h2 t2 g2 m2 ⟨u,ha,hl'⟩ O2 hs2 gr2=>?_
  subst ha hl'
  refine ⟨"str", "str.join",F.plainAttrs_str,by rw [X.nm]; exact F.slot_str_join,F.type_str_join,typeIs_str _ _ _,fun _ e=>(nomatch e),?_⟩
  refine Calls.callWith_builtin rfl (Calls.evalArgs_plain (Calls.spliced_cons ?_))
  refine wpAny_GeneratorExp_walksQD hA.hand X.co X.clos X.cell X.dot X.x X.kind (Nat.lt_of_le_of_lt (Nat.le_add_right _ _) hA.deep) ?_ (fun _=>rfl)
  refine X.sI _ h2 _ t2 g2 _ _ O2 rfl fun a l' h3 t3 g3 m3 ⟨ha,hl'⟩ O3 hs3 gr3=>?_
  subst ha hl'
  have hL3:h3.IsList lst (⟨wsV (ws.map S) tk⟩:Array Value):=⟨_,O3.own (lst,Zqz (wsV (ws.map S) tk) ep) (.tail _ (.tail _ (.head _))),rfl,ep,rfl⟩
  refine wpAny_pyIter_list hL3 ⟨Heap.NoLimit.push (Heap.NoLimit.keeps G.nolimit O3.keep) _,?_⟩
  have O4:=O3.push { cls:=.type "list_iterator",data:=.fields #[.ref lst,.int 0 0] } rfl
  change wpAny _ _ _ _ _ (r.at (h3.push { cls:=.type "list_iterator",data:=.fields #[.ref lst,.int 0 0] }) ⟨t3,g3⟩)
  generalize hI:h3.objs.size = I at O4
  generalize h3.push { cls:=.type "list_iterator",data:=.fields #[.ref lst,.int 0 0] } = h4 at O4
  have O4':Own h₀ ((762,Zz8 775 20 tb)::[(I,{ cls:=.type "list_iterator",data:=.fields #[.ref lst,.int 0 0] }),Fo,(lst,Zqz (wsV (ws.map S) tk) ep)]) h4:=O4.perm (by
    refine List.Perm.trans (List.Perm.cons _ (List.Perm.swap _ _ _)) (List.Perm.swap _ _ _))
  refine X.sG _ h4 _ t3 g3 _ _ O4' rfl fun a l' h5 t5 g5 m5 ⟨c,ha,hl'⟩ O5 hs5 gr5=>?_
  subst ha hl'
  refine X.sB _ h5 _ t5 g5 _ _ O5 rfl fun a l' h6 t6 g6 m6 ⟨ha,hl'⟩ O6 hs6 gr6=>?_
  subst ha hl'
  have GR:Zq5 true g g6:=Zq5.trans (d:=true) (Zq5.trans (d:=true) (Zq5.trans (d:=true) gr2 gr3 fun e=>Bool.noConfusion e) gr5 fun e=>Bool.noConfusion e) gr6 fun e=>Bool.noConfusion e
  have lstM:(lst,Zqz (wsV (ws.map S) tk) ep) ∈ ((762,Zz8 775 20 (some c))::[(I,{ cls:=.type "list_iterator",data:=.fields #[.ref lst,.int 0 0] }),Fo,(lst,Zqz (wsV (ws.map S) tk) ep)]:List (Addr × Obj)):=.tail _ (.tail _ (.tail _ (.head _)))
  have itM:((I,{ cls:=.type "list_iterator",data:=.fields #[.ref lst,.int 0 0] }):Addr × Obj) ∈ ((762,Zz8 775 20 (some c))::[(I,{ cls:=.type "list_iterator",data:=.fields #[.ref lst,.int 0 0] }),Fo,(lst,Zqz (wsV (ws.map S) tk) ep)]:List (Addr × Obj)):=.tail _ (.head _)
  have nd:=O6.nodup
  have hne:lst≠I:=fun q=>by
    simp only [List.map_cons,List.map_nil,List.nodup_cons,List.mem_cons,not_or] at nd
    exact nd.2.1.2.1 q.symm
  have hsize:(⟨wsV (ws.map S) tk⟩:Array Value).size = ws.length:=by show (wsV (ws.map S) tk).length = _; rw [Zvg,List.length_map]
  have hI0:h₀.get? I = none:=O6.apart _ itM
  have hlen2:(passing (fun _=>true) (⟨wsV (ws.map S) tk⟩:Array Value).size 0).length = ws.length:=by rw [passing_all,hsize,List.length_range]
  refine ⟨I,[I,lst],[I],(⟨wsV (ws.map S) tk⟩:Array Value).size,fun i v=>(⟨wsV (ws.map S) tk⟩:Array Value)[i]? = some v,fun i h=>h.IsListIter I lst i∧h.IsList lst ⟨wsV (ws.map S) tk⟩,fun _=>true,fun i y=>∃ u,y = .str (S (qs.getD i [])) u,rfl,
    fun A' hA'=>Walks.list hA' I lst hne _,⟨⟨_,O6.own _ itM,rfl,rfl⟩,⟨_,O6.own _ lstM,rfl,ep,rfl⟩⟩,?_,Heap.NoLimit.keeps G.nolimit O6.keep,?_,?_,?_⟩
  · intro b' hb
    rcases List.mem_cons.mp hb with rfl | hb
    · exact Heap.lt_size (O6.own _ itM)
    · rcases List.mem_cons.mp hb with rfl | hb
      · exact Heap.lt_size (O6.own _ lstM)
      · cases hb
  · intro hm
    rcases List.mem_cons.mp hm with e | hm
    · obtain ⟨mc,⟨ob,es,ep',ho,_⟩,_⟩:=G.nolimit
      rw [e,hI0] at ho; cases ho
    · cases hm
  · intro href hkeep
    refine ⟨fun A' E' i v s₂ m₂ _ _ _ _ _ _ _=>wpAny_pure ⟨rfl,⟨s₂.heap,s₂.toks,rfl,fun _ _ e=>e⟩⟩,fun A' E' i v s₂ m₂ hh hd hu hP _ hN hm hk=>?_⟩
    have keep2:∀ b' o,h₀.get? b' = some o→s₂.heap.get? b' = some o:=fun b' o e=>by
      have e6:=O6.keep b' o e
      refine hk b' (List.mem_range.mpr (Heap.lt_size e6)) (fun q=>?_) o (hkeep b' o e6)
      rcases List.mem_cons.mp q with rfl | q
      · rw [hI0] at e; cases e
      · cases q
    obtain ⟨wd,hw,rfl⟩:=wsV_get ws tk i v (by simpa using hP)
    have hi:i < ws.length:=(List.getElem?_eq_some_iff.mp hw).1
    have hqi:qs[i]? = some (qs.getD i []):=by rw [List.getD_eq_getElem?_getD,List.getElem?_eq_getElem (hl ▸ hi)]; rfl
    obtain ⟨fd,hfd⟩:=Option.isSome_iff_exists.mp (def775 (w:=w) (b:=b))
    obtain ⟨o,ho,hd775⟩:=Option.bind_eq_some_iff.mp hfd
    obtain ⟨hdat,_,_⟩:=isDef_is hd775
    refine wpAny_Call_NameR ?_
    rw [← Zzx]
    refine Zk2 (top:=Zqf (wb w b)) (fun a o q=>keep2 _ _ (G.top a o q)) (X.quote _ _) ?_
    refine Calls.callWith_function (o:=o) (fd:=fd) ?_
    refine Calls.evalArgs_plain (Calls.spliced_cons ?_)
    rw [X.vx]
    refine wpAny_Name (wpAny_loadName_local X.kind (X.loc _ _) hN hm ?_) X.dbg
    refine Calls.spliced_nil ⟨⟨keep2 _ _ (G.top _ _ ho),hdat⟩,?_⟩
    have hdA:=hA.deep
    have huA:=hA.units
    exact quote_call (hq i wd _ hw hqi) hh (by lia) (by lia) ⟨fun a o q=>keep2 _ _ (G.top a o q),Heap.NoLimit.keeps G.nolimit keep2⟩
  · intro a h7 tk7 gs hb hlt hsz hk W hat
    refine Calls.spliced_nil ?_
    refine SC.joinGen W.in4_2 (fun i s' st=>st.1.typeIs) hat ?_ (.head _) (fun j v ⟨i,_,u,e⟩=>⟨_,u,e⟩) (fun s' lt hm hi=>?_) (by rw [hlen2]; exact hlen)
    · intro b' hb'
      show b' < h7.objs.size
      rw [hsz]
      have hlt':h6.objs.size < a:=hlt
      rcases List.mem_cons.mp hb' with rfl | hb'
      · exact Nat.lt_succ_self _
      · rcases List.mem_cons.mp hb' with rfl | hb'
        · exact Nat.lt_succ_of_lt hlt
        · exact Nat.lt_succ_of_lt (Nat.lt_trans (List.mem_range.mp hb') hlt)
    · have ht:lt.map (·.1) = qs.map S:=by
        rw [texts_of (tx:=fun j=>S (qs.getD j [])) (fun j v ⟨i,hi,u,e⟩=>⟨u,by
          rw [e]
          rw [passing_all] at hi
          obtain ⟨h1,h2⟩:=List.getElem?_eq_some_iff.mp hi
          rw [List.getElem_range] at h2
          rw [h2]⟩) hi,hlen2,← hl]
        apply List.ext_getElem?
        intro j
        by_cases hj':j < qs.length
        · simp [hj',List.getD_eq_getElem?_getD]
        · rw [List.getElem?_eq_none (by simpa using Nat.le_of_not_lt hj'),List.getElem?_eq_none (by simpa using Nat.le_of_not_lt hj')]
      rw [ht]
      refine ⟨hj,fun t' k=>?_⟩
      obtain ⟨hp',g',d',tk',os'⟩:=s'
      have ed:d' = r.d:=hm.drawn
      have eo:os' = r.os:=hm.os
      subst ed eo
      have kp:∀ b' o,h6.get? b' = some o→b'≠I→hp'.get? b' = some o:=fun b' o e hne'=>hm.heap b' o (fun q=>by
        rcases List.mem_cons.mp q with q | q
        · have:=Heap.lt_size e
          rw [q] at this
          exact Nat.lt_irrefl _ this
        · rcases List.mem_cons.mp q with q | q
          · exact hne' q
          · cases q) (hk b' o e)
      refine hQ t' c hp' k g' ⟨fun b' o e=>kp b' o (O6.keep b' o e) (fun q=>by rw [q,hI0] at e; cases e),fun p hp=>?_,?_,fun p hp=>?_⟩ ⟨fun e=>Bool.noConfusion e,fun z=>AllBare.moved ((GR.2 z).push hb) hm.gens⟩
      · have hp2:p ∈ ((762,Zz8 775 20 (some c))::[(I,{ cls:=.type "list_iterator",data:=.fields #[.ref lst,.int 0 0] }),Fo,(lst,Zqz (wsV (ws.map S) tk) ep)]:List (Addr × Obj)):=by
          simp only [List.mem_cons,List.not_mem_nil,or_false] at hp ⊢
          rcases hp with h | h | h
          · exact .inr (.inr (.inl h))
          · exact .inl h
          · exact .inr (.inr (.inr h))
        refine kp p.1 p.2 (O6.own p hp2) fun q=>?_
        simp only [List.map_cons,List.map_nil,List.nodup_cons,List.mem_cons,not_or,List.not_mem_nil] at nd
        simp only [List.mem_cons,List.not_mem_nil,or_false] at hp
        rcases hp with rfl | rfl | rfl
        · exact nd.2.1.1 q.symm
        · exact nd.1.1 q
        · exact nd.2.1.2.1 q.symm
      · simp only [List.map_cons,List.map_nil,List.nodup_cons,List.mem_cons,not_or,List.not_mem_nil,not_false_eq_true,and_true,List.nodup_nil] at nd ⊢
        exact ⟨⟨fun q=>nd.1.2.1 q.symm,nd.2.2⟩,nd.1.2.2⟩
      · refine O6.apart p ?_
        simp only [List.mem_cons,List.not_mem_nil,or_false] at hp ⊢
        rcases hp with h | h | h
        · exact .inr (.inr (.inl h))
        · exact .inl h
        · exact .inr (.inr (.inr h))
theorem join_ok {prog:Program} {w:World} {b:Bool} {ws qs:List (List Nat)} (hl:qs.length = ws.length) (hq:∀ (i:Nat) (wd q:List Nat),ws[i]? = some wd→qs[i]? = some q→QuOk prog w b wd q) (hj:JoinOk " " (qs.map S) = true) (hlen:ws.length≤sizeLine)
    (tk:Nat→Nat) (lst:Addr) (ep:Nat) (tb:Option Addr) (n t:Nat):Zq1 T2 prog (wb w b) n t (joinCon ws qs tk lst ep tb):=by
  refine ⟨fun h₀ hp r g A R G hA O hs hR=>?_⟩
  have O:Own h₀ [(762,Zz8 775 20 tb),(lst,Zqz (wsV (ws.map S) tk) ep)] hp:=O
  obtain ⟨o,ho,hd⟩:=Option.bind_eq_some_iff.mp (d767 (w:=w) (b:=b))
  refine codeAny_mono (codeAny_toks_of (n:=t) (R:=fun res s'=>t≤s'.toks→R res s') (Nat.le_refl _) ?_) fun r s' q=>q.2 q.1
  have hcall:AOk (A.under (.call (.ref 767) ⟨[.ref lst],[]⟩)) none 59:=hA.under (Zzn rfl)
  refine fn_call (O.keep _ _ (G.top _ _ ho)) hd hcall.room ?_
  have e2:(jnPrep (hz (wb w b)) (Zqf (wb w b)) Zjw lst n t).tree = Zkz 767 (Zxv (Zqf (wb w b)) 767) ⟨[.ref lst],[]⟩:=by
    unfold jnPrep
    exact congrFun (congrFun (congrFun Zvv 767) (Zxv (Zqf (wb w b)) 767)) ⟨[.ref lst],[]⟩
  refine eqT e2 ?_
  refine (jp_ok lst n t).use (rest:=[(762,Zz8 775 20 tb),(lst,Zqz (wsV (ws.map S) tk) ep)]) G (hcall.bare (by show 20≤59; lia)) O (.refl _) hs fun x h1 g1 O1 hs1 gr1=>⟨G.nolimit.keeps O1.keep,?_⟩
  have O1:Own h₀ [(n,jnF (hz (wb w b)) (x.nat 2) lst),(762,Zz8 775 20 tb),(lst,Zqz (wsV (ws.map S) tk) ep)] h1:=O1
  show codeAny _ A (Zjm (Zxv (Zqf (wb w b)) 767) (Zv9 (Zqf (wb w b)) n)) _ _
  unfold Zjm
  rw [body767]
  dsimp only
  have hfun:AOk (A.under (.func [Zqt (Zxv (Zqf (wb w b)) 767) 0] (Zv9 (Zqf (wb w b)) n))) none 59:=(hA.under (Zzn rfl)).bare (Nat.le_refl _)
  generalize hA2:A.under (.func [Zqt (Zxv (Zqf (wb w b)) 767) 0] (Zv9 (Zqf (wb w b)) n)) = A2 at hfun
  refine fn_body ?_
  rw [hA2,Zj4,js767]
  unfold JSh.stmt
  refine wpAny_Return_some ?_
  have h20:∀ {α:Type} (K:Zq2 α),K.need = 20→K.fr = none→AOk A2 K.fr K.need:=fun K e1 e2=>by rw [e1,e2]; exact hfun.bare (by lia)
  have X:JoinFacts prog (wb w b) A2 h₀ r (J7 (wb w b)) (Zv9 (Zqf (wb w b)) n) n (n,jnF (hz (wb w b)) (x.nat 2) lst) (lst,Zqz (wsV (ws.map S) tk) ep) tb:={
    nm:=nm767,vx:=vx767,line:=line767,co:=co767,kind:=kind767,clos:=clos767 n,cell:=fun y hy=>of_decide_eq_true (List.all_eq_true.mp cell767 y hy),dot:=dot767,x:=x767
    quote:=fun C code=>quote767 n C code,loc:=fun C code=>loc767 n C code,dbg:=dbg767
    sC:=fun l=>Zqn.steps (C:=fun n' t'=>jnC (Zqf (wb w b)) Zq9 n n' t') (fun n' t'=>jc_ok n n' t') (fun n' t'=>by unfold jnC J7; dsimp only; rw [Zzx]) G (rest:=l) (fun _ _=>h20 _ rfl rfl) (fun _ _=>.refl _) (fun _ _ y=>⟨_,rfl,_,rfl,rfl⟩)
    sI:=fun l=>Zqn.steps (C:=fun n' t'=>jnI (hz (wb w b)) (Zqf (wb w b)) Zq9 n (x.nat 2) lst n' t') (fun n' t'=>ji_ok n _ lst n' t') (fun n' t'=>by unfold jnI J7; dsimp only; rw [Zzx]) G (rest:=l) (fun _ _=>h20 _ rfl rfl) (fun _ _=>.refl _) (fun _ _ y=>⟨_,rfl,rfl,rfl⟩)
    sG:=fun l=>Zqn.steps (C:=fun n' t'=>jnG (Zqf (wb w b)) gcZ n tb n' t') (fun n' t'=>jg_ok n tb n' t') (fun n' t'=>by unfold jnG J7; dsimp only; rw [gcZ_eq]) G (rest:=l) (fun _ _=>h20 _ rfl rfl) (fun _ _=>.refl _) (fun _ _ y=>⟨_,rfl,_,rfl,rfl⟩)
    sB:=fun l=>Zqn.steps (C:=fun n' t'=>jnB (Zqf (wb w b)) bfZ n n' t') (fun n' t'=>jb_ok n n' t') (fun n' t'=>by unfold jnB; dsimp only; rw [bfZ_eq]) G (rest:=l) (fun _ _=>h20 _ rfl rfl) (fun _ _=>.refl _) (fun _ _ y=>⟨_,rfl,rfl,rfl⟩) }
  clear hA2 hd ho e2 hcall h20
  revert X
  generalize J7 (wb w b) = J
  generalize hF:jnF (hz (wb w b)) (x.nat 2) lst = Fo at O1 ⊢
  generalize Zv9 (Zqf (wb w b)) n = env at hfun ⊢
  intro X
  refine join_core X G hfun hl hq hj hlen O1 fun v c h' t' g' O' gr' ht=>?_
  have hn:n < h'.objs.size:=Heap.lt_size (O'.own _ (.head _))
  have ht:t≤t':=ht
  have O2:Own h₀ ([(762,Zz8 775 20 (some c)),(lst,Zqz (wsV (ws.map S) tk) ep)]++[(n,Fo)]) h':=O'.perm (by
    refine List.Perm.trans (List.Perm.swap _ _ _) (List.Perm.cons _ (List.Perm.swap _ _ _)))
  have fin:=hR ⟨fun j=>match j with | 0=>h'.objs.size - n | 1=>t' - t | 2=>v | _=>c,fun _=>#[],fun _ _ _=>0,Ext.nil.ob⟩ h' g' O2.drop (by show h'.objs.size = n + (h'.objs.size - n); lia) (Zq5.trans (d:=true) gr1 gr' fun e=>Bool.noConfusion e)
  have et:t + (t' - t) = t':=by lia
  have fin:R (.ok (.ret (.str (Txt.join " " (qs.map S)) v))) (r.at h' ⟨t + (t' - t),g'⟩):=fin
  rw [et] at fin
  exact fin
end
noncomputable def noEx (_:Nat→Ext) (_:Result) (_:List (Option (Addr × Obj))) (_:List (Option Bag)):Ext:=Ext.nil
noncomputable def orc_KY:List Nat:=Zxh 16 81 0x202000000200000000002020020000211111100000001010000000000000000000000000000000000
noncomputable def orc_GEt:List Nat:=Zxh 16 107 0x300b0000000200000100010000010111100003030000003000000000000030000031202000000200000000000002000002101111000
noncomputable def orc_GEf:List Nat:=Zxh 16 107 0x400b0000000200000100010000010111100003030000003000000000000030000031202000000200000000000002000002101111000
noncomputable def orc_LTt:List Nat:=Zxh 16 107 0x100b0000000200000100010000010111100003030000003000000000000030000031202000000200000000000002000002101111000
noncomputable def orc_LTf:List Nat:=Zxh 16 107 0x200b0000000200000100010000010111100003030000003000000000000030000031202000000200000000000002000002101111000
theorem KY_v (prog:Program) (w:World) (b:Bool) (R:RO) (W:List Nat) (tt n t:Nat) (f:Nat→Ext) :
    Zvk [1] [] (kyCon W tt n t) (noEx f) [] (Zzs (T3 R) prog (wb w b) n t [] [] (kyCon W tt n t) orc_KY f):=by cases b <;> kernel_rfl
theorem GEt_v (prog:Program) (w:World) (b:Bool) (R:RO) (x y dx dy:Addr) (W1 W2:List Nat) (r1 r2:Int) (t1 t2 n t:Nat) (f:Nat→Ext) :
    Zvk [2,3] [] (cmCon 900 true x y dx dy W1 W2 t1 t2 n t) (noEx f) [decide (5 * (r1 - r2) ≥ 0) = true,IntMulOk 5 (r1 - r2)] (Zzs (T3 R) prog (wb w b) n t [] [rkFam W1 r1,rkFam W2 r2] (cmCon 900 true x y dx dy W1 W2 t1 t2 n t) orc_GEt f):=by cases b <;> kernel_rfl
theorem GEf_v (prog:Program) (w:World) (b:Bool) (R:RO) (x y dx dy:Addr) (W1 W2:List Nat) (r1 r2:Int) (t1 t2 n t:Nat) (f:Nat→Ext) :
    Zvk [2,3] [] (cmCon 900 false x y dx dy W1 W2 t1 t2 n t) (noEx f) [decide (5 * (r1 - r2) ≥ 0) = false,IntMulOk 5 (r1 - r2)] (Zzs (T3 R) prog (wb w b) n t [] [rkFam W1 r1,rkFam W2 r2] (cmCon 900 false x y dx dy W1 W2 t1 t2 n t) orc_GEf f):=by cases b <;> kernel_rfl
theorem LTt_v (prog:Program) (w:World) (b:Bool) (R:RO) (x y dx dy:Addr) (W1 W2:List Nat) (r1 r2:Int) (t1 t2 n t:Nat) (f:Nat→Ext) :
    Zvk [2,3] [] (cmCon 868 true x y dx dy W1 W2 t1 t2 n t) (noEx f) [decide (5 * (r1 - r2) < 0) = true,IntMulOk 5 (r1 - r2)] (Zzs (T3 R) prog (wb w b) n t [] [rkFam W1 r1,rkFam W2 r2] (cmCon 868 true x y dx dy W1 W2 t1 t2 n t) orc_LTt f):=by cases b <;> kernel_rfl
theorem LTf_v (prog:Program) (w:World) (b:Bool) (R:RO) (x y dx dy:Addr) (W1 W2:List Nat) (r1 r2:Int) (t1 t2 n t:Nat) (f:Nat→Ext) :
    Zvk [2,3] [] (cmCon 868 false x y dx dy W1 W2 t1 t2 n t) (noEx f) [decide (5 * (r1 - r2) < 0) = false,IntMulOk 5 (r1 - r2)] (Zzs (T3 R) prog (wb w b) n t [] [rkFam W1 r1,rkFam W2 r2] (cmCon 868 false x y dx dy W1 W2 t1 t2 n t) orc_LTf f):=by cases b <;> kernel_rfl
theorem ky_ok {prog:Program} {w:World} {b:Bool} {R:RO} (W:List Nat) (tt n t:Nat):Zq1 (T3 R) prog (wb w b) n t (kyCon W tt n t) :=
  Zjk (orc:=orc_KY) (ex:=noEx) Zqq rfl rfl (KY_v prog w b R W tt n t) (fun f q hq=>nomatch hq) (fun _ f=>by cases b <;> kernel_rfl)
noncomputable def RO.small (R:RO):Prop:=∀ k,0≤R.r k∧R.r k < 6
theorem isWord_small {R:RO} (h:R.small) {W:List Nat} {r:Int} (hw:Zxd R W r):0≤r∧r < 6:=by cases hw <;> exact h _
theorem cm_ok {prog:Program} {w:World} {b:Bool} {R:RO} (hR:R.small) {W1 W2:List Nat} {r1 r2:Int} (h1:Zxd R W1 r1) (h2:Zxd R W2 r2) (ge:Bool) (x y dx dy t1 t2 n t:Nat) :
    Zq1 (T3 R) prog (wb w b) n t (cmCon (if ge then 900 else 868) (if ge then decide (r2≤r1) else decide (r1 < r2)) x y dx dy W1 W2 t1 t2 n t):=by
  obtain ⟨a1,a2⟩:=isWord_small hR h1
  obtain ⟨b1,b2⟩:=isWord_small hR h2
  have hm:IntMulOk 5 (r1 - r2):=IntMulOk.of_left (by decide +kernel)
  have hc:Zx1 (T3 R) prog (wb w b) [rkFam W1 r1,rkFam W2 r2]:=Zqx (fun _ _ _ _ _=>rk_ok h1 _ _ _) (Zqx (fun _ _ _ _ _=>rk_ok h2 _ _ _) Zqq)
  cases ge with
  | true =>
    show Zq1 _ _ _ _ _ (cmCon 900 (decide (r2≤r1)) x y dx dy W1 W2 t1 t2 n t)
    by_cases h:r2≤r1
    · rw [decide_eq_true h]
      exact Zjk (orc:=orc_GEt) (ex:=noEx) hc rfl rfl (GEt_v prog w b R x y dx dy W1 W2 r1 r2 t1 t2 n t) (fun f q hq=>by
        simp only [List.mem_cons,List.not_mem_nil,or_false] at hq
        rcases hq with rfl | rfl
        · exact decide_eq_true (by lia)
        · exact hm) (fun _ f=>by cases b <;> kernel_rfl)
    · rw [decide_eq_false h]
      exact Zjk (orc:=orc_GEf) (ex:=noEx) hc rfl rfl (GEf_v prog w b R x y dx dy W1 W2 r1 r2 t1 t2 n t) (fun f q hq=>by
        simp only [List.mem_cons,List.not_mem_nil,or_false] at hq
        rcases hq with rfl | rfl
        · exact decide_eq_false (by lia)
        · exact hm) (fun _ f=>by cases b <;> kernel_rfl)
  | false =>
    show Zq1 _ _ _ _ _ (cmCon 868 (decide (r1 < r2)) x y dx dy W1 W2 t1 t2 n t)
    by_cases h:r1 < r2
    · rw [decide_eq_true h]
      exact Zjk (orc:=orc_LTt) (ex:=noEx) hc rfl rfl (LTt_v prog w b R x y dx dy W1 W2 r1 r2 t1 t2 n t) (fun f q hq=>by
        simp only [List.mem_cons,List.not_mem_nil,or_false] at hq
        rcases hq with rfl | rfl
        · exact decide_eq_true (by lia)
        · exact hm) (fun _ f=>by cases b <;> kernel_rfl)
    · rw [decide_eq_false h]
      exact Zjk (orc:=orc_LTf) (ex:=noEx) hc rfl rfl (LTf_v prog w b R x y dx dy W1 W2 r1 r2 t1 t2 n t) (fun f q hq=>by
        simp only [List.mem_cons,List.not_mem_nil,or_false] at hq
        rcases hq with rfl | rfl
        · exact decide_eq_false (by lia)
        · exact hm) (fun _ f=>by cases b <;> kernel_rfl)
noncomputable def Zzc:Fin 6→List Nat
  | 0=>[97]
  | 1=>[105,116,39,115]
  | 2=>[]
  | 3=>[98,32,99]
  | 4=>[35]
  | 5=>[92]
noncomputable def Zvw:Fin 6→List Nat
  | 0=>[97]
  | 1=>[39,105,116,39,34,39,34,39,115,39]
  | 2=>[39,39]
  | 3=>[39,98,32,99,39]
  | 4=>[39,35,39]
  | 5=>[39,92,39]
theorem isWd (R:RO):∀ k:Fin 6,Zxd R (Zzc k) (R.r k.val)
  | 0=>.w0
  | 1=>.w1
  | 2=>.w2
  | 3=>.w3
  | 4=>.w4
  | 5=>.w5
theorem qd_ok {prog:Program} {w:World} {b:Bool}:∀ k:Fin 6,QuOk prog w b (Zzc k) (Zvw k)
  | 0=>fun tt n t=>qu0_ok tt n t
  | 1=>fun tt n t=>qu1_ok tt n t
  | 2=>fun tt n t=>qu2_ok tt n t
  | 3=>fun tt n t=>qu3_ok tt n t
  | 4=>fun tt n t=>qu4_ok tt n t
  | 5=>fun tt n t=>qu5_ok tt n t
structure PS where
  buf:List Nat
  s:Lt
  ws:List (Fin 6 × Lt)
  se:Lt
  pbl:List (Fin 6)
noncomputable abbrev Dyn:=Nat→Nat→Nat
noncomputable abbrev Pd:=PS × Dyn
noncomputable def pdL (q:Pd):Lx:=⟨q.2 0 0,q.2 0 1,q.2 0 2,q.2 0 3,q.2 0 4,q.2 0 5,q.2 1,q.1.buf, "#"⟩
noncomputable def pblT:List (Fin 6)→(Nat→Nat)→List (Str × Nat)
  | [],_=>[]
  | k::r,t=>(S (Zzc k),t 0)::pblT r fun j=>t (j + 1)
noncomputable def pdO (hs:Hs) (q:Pd):List (Addr × Obj):=Zvb hs (pdL q) (q.2 2) q.1.s (Int.ofNat (q.2 0 6)) (pblT q.1.pbl (q.2 3)) (Int.ofNat (q.2 0 7))
noncomputable def dynOf (L:Lx) (tk tp:Nat→Nat) (e e':Nat):Dyn:=fun i k=>match i with
  | 0=>match k with
    | 0=>L.lex
    | 1=>L.ld
    | 2=>L.io
    | 3=>L.iod
    | 4=>L.pb
    | 5=>L.fk
    | 6=>e
    | _=>e'
  | 1=>L.kt k
  | 2=>tk k
  | _=>tp k
theorem pdL_dyn {L:Lx} {ps:PS} (h1:L.buf = ps.buf) (h2:L.cm = "#") (tk tp:Nat→Nat) (e e':Nat):pdL (ps,dynOf L tk tp e e') = L:=by
  obtain ⟨lex,ld,io,iod,pb,fk,kt,buf,cm⟩:=L
  subst h1 h2
  rfl
theorem pdO_dyn {hs:Hs} {L:Lx} {ps:PS} (h1:L.buf = ps.buf) (h2:L.cm = "#") (tk tp:Nat→Nat) (e e':Nat):pdO hs (ps,dynOf L tk tp e e') = Zvb hs L tk ps.s (Int.ofNat e) (pblT ps.pbl tp) (Int.ofNat e'):=by
  unfold pdO
  rw [pdL_dyn h1 h2]
  rfl
noncomputable def Zx6 (hs:Hs) (l:List Pd):List (Addr × Obj):=l.flatMap (pdO hs)
noncomputable def Zz0 (l:List Pd):List Value:=l.map fun q=>.ref (q.2 0 0)
theorem Zv5 (hs:Hs) (a b:List Pd):Zx6 hs (a++b) = Zx6 hs a++Zx6 hs b:=List.flatMap_append
noncomputable def ReadsL (prog:Program) (w:World) (b:Bool) (L:Lx) (se:Lt):Lt→List (Fin 6 × Lt)→Prop
  | s,[]=>RtOk prog w b L s se none
  | s,(u,s1)::r=>(∃ p z ln,s = ⟨p,some z,ln⟩)∧RtOk prog w b L s s1 (some (S (Zzc u)))∧ReadsL prog w b L se s1 r
noncomputable def Zk5 (prog:Program) (w:World) (b:Bool) (ps:PS):Prop:=∀ L:Lx,L.buf = ps.buf→L.cm = "#" → ReadsL prog w b L ps.se ps.s ps.ws
theorem ReadsL.reads {prog:Program} {w:World} {b:Bool} {L:Lx} {se:Lt}:∀ {s:Lt} {ws:List (Fin 6 × Lt)},ReadsL prog w b L se s ws→Reads prog w b L s (ws.map fun p=>S (Zzc p.1)) se
  | _,[],h=>.done h
  | _,(u,s1)::r,⟨⟨p,z,ln,e⟩,h,q⟩=>by
    subst e
    exact .word h q.reads
noncomputable def PS.look (ps:PS):Option (Fin 6 × PS):=match ps.pbl with
  | u::_=>some (u,ps)
  | []=>match ps.ws with
    | (u,s1)::r=>some (u,{ ps with s:=s1,ws:=r,pbl:=[u] })
    | []=>none
noncomputable def PS.put (ps:PS) (k:Fin 6):PS:={ ps with pbl:=k::ps.pbl }
noncomputable def Zzt (r:Fin 6→Int) (k:Fin 6):List PS→List PS × Bool
  | []=>([],false)
  | ps::l=>match ps.look with
    | none=>(ps::l,true)
    | some (u,ps1)=>if r k≤r u then (ps1.put k::l,true) else ((ps1::(Zzt r k l).1),(Zzt r k l).2)
noncomputable def RO.rk (R:RO):Fin 6→Int:=fun k=>R.r k.val
noncomputable def retTup (s:Stmt) (k:Nat):Expr:=match s with
  | .Return e _=>match e with
    | some e=>match e with
      | .Tuple es _ _=>match es.drop k with
        | e::_=>e
        | []=>.Name "" default
      | _=>.Name "" default
    | none=>.Name "" default
  | _=>.Name "" default
noncomputable def compScope (e:Expr):Scope:=match e with
  | .ListComp _ _ sc _=>sc
  | _=>default
noncomputable def Zv6 (outer:Env) (e:Expr):Scope:={ compScope e with names:=(compScope e).names.map fun (n,k)=>if k == .free && outer.scope.kind == .function && outer.kindOf n == some .cell then (n,.cell) else (n,k) }
noncomputable def drE (top:Addr→Option Obj):Expr:=retTup (Zqt (Zxv top 780) 5) 0
noncomputable def drEnv (top:Addr→Option Obj) (fr cell:Addr):Env:={ scope:=(Zxv top 780).scope,locals:=fr,globals:=3,cells:=[("pool",cell)],qual := "_law_drawn.<locals>.",func:=some 780,code:=.ref 779,frame:=some fr,builtins:=0 }
noncomputable def drCEnv (top:Addr→Option Obj) (fr cell loc:Addr):Env:={ scope:=Zv6 (drEnv top fr cell) (drE top),locals:=loc,globals:=3,cells:=[("pool",cell)],qual := "_law_drawn.<locals>.",func:=none,code:=.ref 779,frame:=some fr,builtins:=0 }
noncomputable def cellO (v:Value):Obj:={ cls:=.type "cell",data:=.cell (some v) }
noncomputable def xO (w:Hs):Option (Nat × Int × Nat)→Obj
  | none=>{ cls:=.type "dict",data:=.dict #[] 0 }
  | some u=>{ cls:=.type "dict",data:=.dict #[ent w "x" u.1 (.int u.2.1 u.2.2)] 1 }
noncomputable def xL (w:Hs):Option Int→Ext→Obj
  | none,_=>xO w none
  | some v,x=>xO w (some (x.nat 3,v,x.nat 4))
noncomputable def poolV (tp:Nat→Nat):List Value:=[.str "a" (tp 0),.str "it's" (tp 1),.str "" (tp 2),.str "b c" (tp 3),.str "#" (tp 4),.str "\\" (tp 5)]
noncomputable def compTgt (e:Expr):Expr:=match e with
  | .ListComp _ gs _ _=>match gs with
    | g::_=>match g with
      | ⟨t,_,_,_⟩=>t
    | []=>.Name "" default
  | _=>.Name "" default
noncomputable def compIter (e:Expr):Expr:=match e with
  | .ListComp _ gs _ _=>match gs with
    | g::_=>match g with
      | ⟨_,i,_,_⟩=>i
    | []=>.Name "" default
  | _=>.Name "" default
noncomputable def compElt (e:Expr):Expr:=match e with
  | .ListComp x _ _ _=>x
  | _=>.Name "" default
noncomputable def compPos (e:Expr):Pos:=match e with
  | .ListComp _ _ _ p=>p
  | _=>default
noncomputable def c1As (w:Hs) (top:Addr→Option Obj) (asg:Expr→Env→Value→Sem Unit) (fr cell loc:Addr) (o:Option (Nat × Int × Nat)) (v:Int) (u:Nat) (n t:Nat):Zq2 Unit where
  pre:=[(loc,xO w o)]
  post x:=[(loc,xO w (some (x.nat 2,v,u)))]
  fresh _:=[]
  tree:=asg (compTgt (drE top)) (drCEnv top fr cell loc) (.int v u)
  res _:=.ok ()
  need:=30
  fr:=none
  made _:=0
noncomputable def c1El (w:Hs) (top:Addr→Option Obj) (ev:Expr→Env→Sem Value) (fr cell loc pool:Addr) (o:Nat × Int × Nat) (tp:Nat→Nat) (ep:Nat) (v:Str) (tv:Nat) (n t:Nat):Zq2 Value where
  pre:=[(loc,xO w (some o)),(cell,cellO (.ref pool)),(pool,Zqz (poolV tp) ep)]
  post _:=[(loc,xO w (some o)),(cell,cellO (.ref pool)),(pool,Zqz (poolV tp) ep)]
  fresh _:=[]
  tree:=ev (compElt (drE top)) (drCEnv top fr cell loc)
  res _:=.ok (.str v tv)
  need:=30
  fr:=none
  made _:=0
noncomputable def giFam (pool:Addr) (tp:Nat→Nat) (ep:Nat) (i:Int) (v:Value):Fam:=fun _ _ c _ _=>giCon pool (poolV tp) ep i (sTok c 1) v
noncomputable def c1sCon (w:Hs) (top:Addr→Option Obj) (fr cell loc it row acc pool:Addr) (xs:List Value) (er:Nat) (fin:List Value) (ea:Nat) (tp:Nat→Nat) (ep:Nat) (lx:Option Int) (n t:Nat):Con where
  pre:=[(it,Zx4 row 0),(row,Zqz xs er),(acc,Zqz [] ea),(loc,xO w none),(cell,cellO (.ref pool)),(pool,Zqz (poolV tp) ep)]
  post x:=[(row,Zqz xs er),(acc,Zqz fin (x.nat 2)),(loc,xL w lx x),(cell,cellO (.ref pool)),(pool,Zqz (poolV tp) ep)]
  fresh _:=[]
  code:=.compStart (drE top) 0 (.ref it) (.ref acc) (drCEnv top fr cell loc)
  res _:=.ok .next
  need:=45
  fr:=none
  made _:=2
theorem Own.same {h₀ h h':Heap} {a:Addr} {o o':Obj} {l:List (Addr × Obj)} (O:Own h₀ ((a,o)::l) h) (hs:Heap.SameBut a h h') (ho:h'.get? a = some o'):Own h₀ ((a,o')::l) h':=by
  have nd:=O.nodup
  rw [List.map_cons,List.nodup_cons] at nd
  refine ⟨fun b ob e=>(hs.2 b fun q=>?_).trans (O.keep b ob e),fun p hp=>?_,O.nodup,fun p hp=>?_⟩
  · subst q
    rw [O.apart (b,o) (.head _)] at e; cases e
  · rcases List.mem_cons.mp hp with rfl | hp
    · exact ho
    · exact (hs.2 _ fun q=>nd.1 (List.mem_map.mpr ⟨p,hp,q⟩)).trans (O.own p (.tail _ hp))
  · rcases List.mem_cons.mp hp with rfl | hp
    · exact O.apart (a,o) (.head _)
    · exact O.apart p (.tail _ hp)
theorem Own.ext {h₀ h h':Heap} {a:Addr} {o:Obj} {l:List (Addr × Obj)} (O:Own h₀ ((a,o)::l) h) (hs:Heap.ExtBut a h h'):Own h₀ l h':=by
  have nd:=O.nodup
  rw [List.map_cons,List.nodup_cons] at nd
  refine ⟨fun b ob e=>hs b ob (fun q=>?_) (O.keep b ob e),fun p hp=>?_,nd.2,fun p hp=>O.apart p (.tail _ hp)⟩
  · subst q
    rw [O.apart (b,o) (.head _)] at e; cases e
  · exact hs _ _ (fun q=>nd.1 (List.mem_map.mpr ⟨p,hp,q⟩)) (O.own p (.tail _ hp))
noncomputable def IsIt (o:Obj) (lst:Addr) (i:Nat):Prop:=o.cls = .type "list_iterator" ∧ o.data = .fields #[.ref lst,.int i 0]
theorem isList_of {h:Heap} {a:Addr} {xs:List Value} {ep:Nat} (e:h.get? a = some (Zqz xs ep)):h.IsList a ⟨xs⟩:=⟨_,e,rfl,ep,rfl⟩
section
variable {prog:Program} {w:World} {A:Around} {h₀ h:Heap} {it lst:Addr} {oi:Obj} {l:List (Addr × Obj)} {xs:List Value} {ep i:Nat} {r:Zkc} {g:Array GenState} {t:Nat} {Q:Option Value→Shared→Prop} {E:Value→Shared→Prop}
theorem it_next {x:Value} (O:Own h₀ ((it,oi)::l) h) (hi:IsIt oi lst i) (hl:(lst,Zqz xs ep) ∈ l) (hx:xs[i]? = some x)
    (hQ:∀ h' oi',Own h₀ ((it,oi')::l) h'→IsIt oi' lst (i + 1)→h'.objs.size = h.objs.size→Q (some x) (r.at h' ⟨t,g⟩)) :
    wpAny (model prog w) A (pyNext (.ref it)) Q E (r.at h ⟨t,g⟩):=by
  refine wpAny_pyNext_list_item (s:=r.at h ⟨t,g⟩) (i:=i) (items:=⟨xs⟩) (l:=lst) ⟨oi,O.own _ (.head _),hi.1,hi.2⟩ (isList_of (O.own _ (.tail _ hl))) (by simpa using hx) fun h' hit hs=>?_
  obtain ⟨o',ho,hc,hd⟩:=hit
  exact hQ h' o' (O.same hs ho) ⟨hc,hd⟩ hs.1
theorem it_end (hh:A.handled = none) (O:Own h₀ ((it,oi)::l) h) (hi:IsIt oi lst i) (hl:(lst,Zqz xs ep) ∈ l) (hx:xs.length≤i)
    (hQ:∀ h',Own h₀ l h'→Q none (r.at h' ⟨t,g⟩)) :
    wpAny (model prog w) A (pyNext (.ref it)) Q E (r.at h ⟨t,g⟩):=by
  refine wpAny_pyNext_list_end (s:=r.at h ⟨t,g⟩) (i:=i) (items:=⟨xs⟩) (l:=lst) hh ⟨oi,O.own _ (.head _),hi.1,hi.2⟩ (isList_of (O.own _ (.tail _ hl))) (by simpa using hx) fun h' hs=>hQ h' (O.ext hs)
end
noncomputable def Zz2:List Int→(Nat→Nat)→List Value
  | [],_=>[]
  | x::r,t=>.int x (t 0)::Zz2 r fun k=>t (k + 1)
noncomputable def smCon (it lst st:Addr) (xs:List Value) (ep i:Nat) (T U:Int) (tT es:Nat) (sg:Int):Con where
  pre:=[(it,Zx4 lst i),(lst,Zqz xs ep),(st,Zqz [.int T tT] es)]
  post _:=[(lst,Zqz xs ep)]
  fresh _:=[]
  code:=.builtin "sum.loop" ⟨[.ref it,.ref st,.int sg 0,.int 0 0],[]⟩
  res x:=.ok (.ret (.int U (x.nat 2)))
  need:=30
  fr:=none
  made _:=2
noncomputable def sgOf (c:Code):Int:=match Zx7 c 2 with
  | .int s _=>s
  | _=>0
noncomputable def sgN (s:Int):Int:=match s with
  | .ofNat k=>match k with
    | 0=>0
    | _=>2
  | .negSucc _=>0
theorem sgN_is (s:Int):sgN s = 0 ∨ sgN s = 2:=by
  unfold sgN
  split
  · split
    · exact .inl rfl
    · exact .inr rfl
  · exact .inl rfl
noncomputable def smFam (it lst st:Addr) (xs:List Value) (ep i:Nat) (T U:Int):Fam:=fun _ _ c l _=>smCon it lst st xs ep i T U (match Zkq (Zzf l 2) with | v::_=>Zvt v | []=>0) (Zj6 (Zzf l 2)) (sgN (sgOf c))
noncomputable def suCon (lst:Addr) (xs:List Value) (ep:Nat) (U:Int):Con where
  pre:=[(lst,Zqz xs ep)]
  post _:=[(lst,Zqz xs ep)]
  fresh _:=[]
  code:=.call (.builtin "sum") ⟨[.ref lst],[]⟩
  res x:=.ok (.ret (.int U (x.nat 2)))
  need:=40
  fr:=none
  made _:=4
noncomputable def smFam0 (lst:Addr) (xs:List Value) (ep:Nat) (U:Int):Fam:=fun _ _ c l _=>smCon (Zx0 (Zx7 c 0)) lst (Zx0 (Zx7 c 1)) xs ep 0 0 U (match Zkq (Zzf l 2) with | v::_=>Zvt v | []=>0) (Zj6 (Zzf l 2)) (sgN (sgOf c))
section
variable {prog:Program} {w:World} {A:Around} {h₀ h:Heap} {it lst:Addr} {oi:Obj} {l:List (Addr × Obj)} {xs:List Value} {ep i:Nat} {r:Zkc} {g:Array GenState} {t:Nat} {E:Value→Shared→Prop}
theorem it_endX {Q:Option Value→Shared→Prop} (hh:A.handled = none) (O:Own h₀ ((it,oi)::l) h) (hi:IsIt oi lst i) (hl:(lst,Zqz xs ep) ∈ l) (hx:xs.length≤i)
    (hQ:∀ h',Own h₀ l h'→h'.objs.size = h.objs.size + 2→Q none (r.at h' ⟨t,g⟩)) :
    wpAny (model prog w) A (pyNext (.ref it)) Q E (r.at h ⟨t,g⟩):=by
  have ho:=O.own (it,oi) (.head _)
  have hol:=O.own (lst,Zqz xs ep) (.tail _ hl)
  have hit:h.IsListIter it lst i:=⟨oi,ho,hi.1,hi.2⟩
  have hn:(⟨xs⟩:Array Value)[i]? = none:=by simpa using hx
  have hT:(r.at h ⟨t,g⟩).TypeIs (.ref it) "list_iterator" := ⟨oi,ho,hi.1⟩
  unfold pyNext
  refine wpAny_bind (wpAny_attempt (wpAny_callSpecial?_slot (name:=Str.ofString "__next__") hT slot_listiter_next
    (wpAny_call_entry slot_listiter_next hT entry_listiter_next ?_ (args_listiter_next _))))
  refine wpAny_bind (m:=field (.ref it) 0) (wpAny_field ho hi.2 (x:=.ref lst) rfl ?_)
  show wpAny _ _ (if (Value.ref lst == Value.none) = true then _ else _) _ _ _
  rw [if_neg (show ¬ ((Value.ref lst == Value.none) = true) from Bool.false_ne_true)]
  refine wpAny_bind (m:=field (.ref it) 1) (wpAny_field ho hi.2 (x:=.int i 0) rfl ?_)
  refine wpAny_bind (m:=seqItems? (.ref lst)) (wpAny_seqItems hol rfl ?_)
  simp only [Int.toNat_natCast,hn]
  refine wpAny_bind (wpAny_rule (wpAny_bind (wpAny_setField ho hi.2 (by simp) ?_)))
  refine wpAny_bind (m:=newExc (.type "StopIteration") []) ?_
  simp only [newExc,newTuple]
  refine wpAny_bind (wpAny_newObj_type ?_ (by size_fits))
  refine wpAny_bind (m:=firstArgMember _ _) (wpAny_of_eq (a:=Value.none) (by first | rfl | (simp only [firstArgMember]; rfl)) ?_)
  refine wpAny_newObj_type ?_ (by size_fits)
  simp only [raiseNew]
  refine wpAny_bind (wpAny_handled ?_)
  rw [show A.in1.handled = none from hh]
  refine wpAny_bind (wpAny_pure (wpAny_throw ?_))
  refine wpAny_bind (wpAny_isInstance (T := "StopIteration") (b:=true) ⟨_,Heap.get?_push_size _ rfl,rfl⟩ isSubtype_stop ?_)
  refine wpAny_pure (hQ _ (O.ext (((Heap.SameBut.update ..).extBut.push _).push _)) ?_)
  rw [Heap.size_push,Heap.size_push]
  exact congrArg (· + 1 + 1) (Heap.SameBut.update ..).1
noncomputable def sumI:List Int→Int
  | []=>0
  | x::r=>x + sumI r
theorem Zv4:∀ (l:List Int) (tk:Nat→Nat) (i:Nat) (x:Int),l[i]? = some x→(Zz2 l tk)[i]? = some (.int x (tk i))
  | [],_,_,_,h=>by cases h
  | _::_,_,0,_,h=>by cases h; rfl
  | _::r,tk,i + 1,x,h=>Zv4 r (fun j=>tk (j + 1)) i x h
theorem Zzb:∀ (l:List Int) (tk:Nat→Nat),(Zz2 l tk).length = l.length
  | [],_=>rfl
  | _::r,_=>congrArg (· + 1) (Zzb r _)
theorem setList (v:Value) (x:Value) (es:Nat):Obj.mapSeq (fun _=>#[v]) (Zqz [x] es) = Zqz [v] es:=by
  simp [Obj.mapSeq,Zqz]
theorem sm_run {l:List Int} {tk:Nat→Nat} {st:Addr} (hh:A.handled = none) {R:Result→Shared→Prop}:∀ (rs:List Int) (i:Nat),l.drop i = rs→i≤l.length→∀ (T:Int) (tT es:Nat) (sg:Int) (oi:Obj) (h:Heap) (t:Nat),sg = 0 ∨ sg = 2→IsIt oi lst i →
    Own h₀ ((it,oi)::(st,Zqz [.int T tT] es)::[(lst,Zqz (Zz2 l tk) ep)]) h→(∀ h' t' u,Own h₀ [(lst,Zqz (Zz2 l tk) ep)] h'→h'.objs.size = h.objs.size + 2→t≤t'→R (.ok (.ret (.int (T + sumI rs) u))) (r.at h' ⟨t',g⟩)) →
    codeAny (model prog w) A (.builtin "sum.loop" ⟨[.ref it,.ref st,rawInt sg,rawInt 0],[]⟩) R (r.at h ⟨t,g⟩)
  | [],i,hr,hi,T,tT,es,sg,oi,h,t,hsg,hit,O,hR=>by
    have hle:l.length≤i:=by
      have:=congrArg List.length hr
      simp at this
      lia
    refine codeAny_builtin F.entry_sum_loop ?_
    rw [Around.under_plainId F.plain_sum_loop _]
    refine wpAny_bind (m:=seqItems? (.ref st)) (wpAny_seqItems (O.own (st,_) (.tail _ (.head _))) rfl ?_)
    show wpAny _ _ (tryCatch (pyNext (.ref it)) _ >>= _) _ _ _
    refine wpAny_bind (wpAny_tryCatch (it_endX hh O hit (.tail _ (.head _)) (by rw [Zzb]; exact hle) fun h' O' hs=>?_))
    have fin:=hR h' t tT (Own.drop (r:=[(st,Zqz [.int T tT] es)]) (O'.perm (.swap _ _ _))) hs (Nat.le_refl _)
    rw [show T + sumI [] = T from Int.add_zero T] at fin
    exact wpAny_pure fin
  | x::rs,i,hr,hi,T,tT,es,sg,oi,h,t,hsg,hit,O,hR=>by
    have hk:l[i]? = some x:=by
      have:=congrArg List.head? hr
      simpa using this
    have hr':l.drop (i + 1) = rs:=by rw [← List.drop_drop,hr]; rfl
    have hi':i + 1≤l.length:=(List.getElem?_eq_some_iff.mp hk).1
    refine codeAny_builtin F.entry_sum_loop ?_
    rw [Around.under_plainId F.plain_sum_loop _]
    refine wpAny_bind (m:=seqItems? (.ref st)) (wpAny_seqItems (O.own (st,_) (.tail _ (.head _))) rfl ?_)
    show wpAny _ _ (tryCatch (pyNext (.ref it)) _ >>= _) _ _ _
    refine wpAny_bind (wpAny_tryCatch (it_next O hit (.tail _ (.head _)) (Zv4 l tk i x hk) fun h1 oi1 O1 hi1 hs1=>?_))
    have S1:h1.get? st = some (Zqz [.int T tT] es):=O1.own (st,_) (.tail _ (.head _))
    have next:∀ (u:Nat) (sg':Int) (t':Nat) (hp:Heap),(sg' = 0 ∨ sg' = 2)→t≤t'→hp.objs.size = h1.objs.size→Own h₀ ((it,oi1)::(st,Zqz [.int (T + x) u] es)::[(lst,Zqz (Zz2 l tk) ep)]) hp →
        codeAny (model prog w) A (.builtin "sum.loop" ⟨[.ref it,.ref st,rawInt sg',rawInt 0],[]⟩) R (r.at hp ⟨t',g⟩):=fun u sg' t' hp hsg' ht hsz Op =>
      sm_run hh rs (i + 1) hr' hi' (T + x) u es sg' oi1 hp t' hsg' hi1 Op fun h' t'' u' O' hs' ht'=>by
        have fin:=hR h' t'' u' O' (by lia) (by lia)
        rw [show T + sumI (x::rs) = T + x + sumI rs from by show T + (x + sumI rs) = _; lia] at fin
        exact fin
    have upd:∀ (hp:Heap) (y:Int) (uy u:Nat),Own h₀ ((it,oi1)::(st,Zqz [.int y uy] es)::[(lst,Zqz (Zz2 l tk) ep)]) hp→Own h₀ ((it,oi1)::(st,Zqz [.int (T + x) u] es)::[(lst,Zqz (Zz2 l tk) ep)]) (hp.update st (Obj.mapSeq fun _=>#[.int (T + x) u])):=fun hp y uy u Op=>by
      have z:=(Op.perm (.swap _ _ _)).update (Obj.mapSeq fun _=>#[.int (T + x) u]) (by rw [setList]; rfl)
      rw [setList] at z
      exact z.perm (.swap _ _ _)
    rcases hsg with rfl | rfl
    · show wpAny _ A.in1 (if (_:Bool) = true then (mkInt (T + x) >>= _) else _) _ _ _
      split
      · refine wpAny_bind (wpAny_mkInt ?_)
        refine wpAny_bind (m:=updateSeq st fun _=>#[.int (T + x) t]) (wpAny_updateSeq S1 rfl (wpAny_pure ⟨plainId_quiet F.plain_sum_loop _,?_⟩))
        exact next t 0 (t + 1) _ (.inl rfl) (by lia) (Heap.SameBut.update ..).1 (upd h1 T tT t O1)
      · refine wpAny_bind (wpAny_rule ?_)
        refine wpAny_bind (wpAny_attempt (wpAny_holding (wpAny_add_int ?_)))
        refine wpAny_bind (m:=updateSeq st fun _=>#[.int (T + x) t]) (wpAny_updateSeq S1 rfl ?_)
        have O2:=upd h1 T tT t O1
        refine wpAny_bind (wpAny_letGo ?_)
        refine wpAny_bind (wpAny_updateSeq (O2.own (st,_) (.tail _ (.head _))) rfl (wpAny_pure ⟨plainId_quiet F.plain_sum_loop _,?_⟩))
        exact next t 2 (t + 1) _ (.inr rfl) (by lia) ((Heap.SameBut.update ..).1.trans (Heap.SameBut.update ..).1) (upd _ (T + x) t t O2)
    · refine wpAny_bind (m:=(holding [Value.int x (tk i)] (binaryOp .Add (.int T tT) (.int x (tk i)))).attempt) (wpAny_attempt (wpAny_holding (wpAny_add_int ?_)))
      refine wpAny_bind (m:=updateSeq st fun _=>#[.int (T + x) t]) (wpAny_updateSeq S1 rfl ?_)
      have O2:=upd h1 T tT t O1
      refine wpAny_bind (wpAny_letGo ?_)
      refine wpAny_bind (wpAny_updateSeq (O2.own (st,_) (.tail _ (.head _))) rfl (wpAny_pure ⟨plainId_quiet F.plain_sum_loop _,?_⟩))
      exact next t 2 (t + 1) _ (.inr rfl) (by lia) ((Heap.SameBut.update ..).1.trans (Heap.SameBut.update ..).1) (upd _ (T + x) t t O2)
end
section
section
open Classical
noncomputable def one {α:Type} (a x:α):Nat:=if x = a then 1 else 0
noncomputable def cnt {α:Type} (a:α):List α→Nat
  | []=>0
  | x::l=>one a x + cnt a l
theorem Zqc {α:Type} (a:α):cnt a [] = 0:=rfl
theorem Zqk {α:Type} (a x:α) (l:List α):cnt a (x::l) = one a x + cnt a l:=rfl
theorem Zqj {α:Type} (a:α) (l r:List α):cnt a (l++r) = cnt a l + cnt a r:=by
  induction l with
  | nil=>simp [cnt]
  | cons x l ih=>simp only [List.cons_append,cnt,ih]; lia
theorem cnt_count {α:Type} (a:α) (l:List α):cnt a l = l.count a:=by
  induction l with
  | nil=>rfl
  | cons x l ih =>
    simp only [cnt,ih,List.count_cons,one,beq_iff_eq]
    lia
theorem Zqv {α:Type} {l r:List α} (h:∀ a,cnt a l = cnt a r):l.Perm r :=
  List.perm_iff_count.mpr fun a=>by rw [← cnt_count,← cnt_count]; exact h a
end
end
structure Src (prog:Program) (w:World) (A:Around) (h₀:Heap) (r:Zkc) (it:Addr) (fix:List (Addr × Obj)) (N:Nat) (At:Obj→Nat→Prop) (vl:Nat→Value→Prop) (sz:Nat→Nat→Prop):Prop where
  next:∀ {i:Nat} {oi:Obj} {l:List (Addr × Obj)} {h:Heap} {t:Nat} {g:Array GenState} {Q:Option Value→Shared→Prop} {E:Value→Shared→Prop},i < N→At oi i→(∀ p ∈ fix,p ∈ l)→Own h₀ ((it,oi)::l) h →
    (∀ oi' h' v t',At oi' (i + 1)→vl i v→Own h₀ ((it,oi')::l) h'→h'.objs.size = h.objs.size→t≤t'→Q (some v) (r.at h' ⟨t',g⟩))→wpAny (model prog w) A (pyNext (.ref it)) Q E (r.at h ⟨t,g⟩)
  done:∀ {oi:Obj} {l:List (Addr × Obj)} {h:Heap} {t:Nat} {g:Array GenState} {Q:Option Value→Shared→Prop} {E:Value→Shared→Prop},At oi N→(∀ p ∈ fix,p ∈ l)→Own h₀ ((it,oi)::l) h →
    (∀ h',Own h₀ l h'→sz h.objs.size h'.objs.size→Q none (r.at h' ⟨t,g⟩))→wpAny (model prog w) A (pyNext (.ref it)) Q E (r.at h ⟨t,g⟩)
theorem src_list {prog:Program} {w:World} {A:Around} {h₀:Heap} {r:Zkc} {it lst:Addr} {xs:List Value} {ep:Nat} (hh:A.handled = none) :
    Src prog w A h₀ r it [(lst,Zqz xs ep)] xs.length (fun oi i=>IsIt oi lst i) (fun i v=>xs[i]? = some v) (fun n n'=>n' = n + 2) where
  next:=fun hi hat hf O hQ=>it_next O hat (hf _ (.head _)) (List.getElem?_eq_getElem hi) fun h' oi' O' hi' hs=>hQ oi' h' _ _ hi' (List.getElem?_eq_getElem hi) O' hs (Nat.le_refl _)
  done:=fun hat hf O hQ=>it_endX hh O hat (hf _ (.head _)) (Nat.le_refl _) fun h' O' hs=>hQ h' O' hs
noncomputable def Zzp (x left step:Int):Obj:={ cls:=.type "range_iterator",dict:=none,data:=.fields #[rawInt x,rawInt left,rawInt step],slots:=#[] }
theorem src_range {prog:Program} {w:World} {A:Around} {h₀:Heap} {r:Zkc} {it:Addr} (a d:Int) (N:Nat) (hh:A.handled = none) :
    Src prog w A h₀ r it [] N (fun oi i=>oi = Zzp (a + i * d) (N - i) d) (fun i v=>∃ u,v = .int (a + i * d) u) (fun n n'=>True) where
  next:=fun {i oi l h t g Q E} hi hat hf O hQ=>by
    subst hat
    have ho:=O.own (it,_) (.head _)
    refine wpAny_pyNext_range_item (s:=r.at h ⟨t,g⟩) ho (by lia) fun h' hit hs=>?_
    refine hQ _ h' _ (t + 1) rfl ⟨_,rfl⟩ (O.same hs ?_) hs.1 (Nat.le_succ _)
    have e1:a + ((i + 1:Nat):Int) * d = a + (i:Int) * d + d:=by
      have:((i + 1:Nat):Int) * d = (i:Int) * d + d:=by rw [Int.natCast_add,Int.add_mul]; simp
      lia
    have e2:(N:Int) - ((i + 1:Nat):Int) = N - i - 1:=by lia
    rw [e1,e2]
    exact hit
  done:=fun {oi l h t g Q E} hat hf O hQ=>by
    subst hat
    have ho:=O.own (it,_) (.head _)
    exact wpAny_pyNext_range_end (s:=r.at h ⟨t,g⟩) hh ho (by lia) fun h' hs=>hQ h' (O.ext hs) trivial
noncomputable def Turn (M:Model) (A:Around) (target:Expr) (ifs:List Expr) (elt:Expr) (env:Env) (v:Value) (Q:Option Value→Shared→Prop) (E:Value→Shared→Prop) (s:Shared):Prop :=
  wpAny M A (assign target env v) (fun _ s₂=>wpAny M A (forIn ifs true fun c r=>if r = true then do let ok ← isTrue c env (eval c env); pure (ForInStep.yield ok) else pure (ForInStep.yield r)) (fun ok s₃ =>
    if ok = true then wpAny M A (eval elt env) (fun x s₄=>Q (some x) s₄) E s₃ else Q none s₃) E s₂) E s
theorem Turn.plain {M:Model} {A:Around} {target elt:Expr} {env:Env} {v:Value} {Q:Option Value→Shared→Prop} {E:Value→Shared→Prop} {s:Shared}
    (h:wpAny M A (assign target env v) (fun _ s₂=>wpAny M A (eval elt env) (fun x s₄=>Q (some x) s₄) E s₂) E s):Turn M A target [] elt env v Q E s :=
  wpAny_mono h (fun _ _ q=>wpAny_pure q) fun _ _ q=>q
theorem Turn.one {prog:Program} {w:World} {A:Around} {target c elt:Expr} {env:Env} {v:Value} {Q:Option Value→Shared→Prop} {E:Value→Shared→Prop} {s:Shared}
    (h:wpAny (model prog w) A (assign target env v) (fun _ s₂=>wpAny (model prog w) A (isTrue c env (eval c env)) (fun ok s₃=>if ok = true then wpAny (model prog w) A (eval elt env) (fun x s₄=>Q (some x) s₄) E s₃ else Q none s₃) E s₂) E s) :
    Turn (model prog w) A target [c] elt env v Q E s :=
  wpAny_mono h (fun _ _ q=>wpAny_tests_one q) fun _ _ q=>q
theorem push_listO' (its:List Value) (ep:Nat) (v:Value):∀ n,({ cls:=.type "list",data:=.seq ((⟨its⟩:Array Value).push v) n }:Obj) = Zqz (its++[v]) n:=fun n=>by simp [Zqz]
theorem Zvj {prog:Program} {w:World} {A:Around} {h₀:Heap} {r:Zkc} {it acc:Addr} {fix:List (Addr × Obj)} {N:Nat} {At:Obj→Nat→Prop} {vl:Nat→Value→Prop} {sz:Nat→Nat→Prop} (S:Src prog w A h₀ r it fix N At vl sz)
    {elt target iter:Expr} {ifs:List Expr} {scope:Scope} {pos:Pos} {env:Env} (ht:∀ v,letOwnedTupleGo target (.ref it) v = pure ()) {σ:Type} (ob:σ→List (Addr × Obj)) (Inv:Nat→σ→List Value→Nat→Prop) {t₀:Nat} {g₀:Array GenState} {R:Result→Shared→Prop} {l:List (Addr × Obj)} (hfix:∀ p ∈ fix,p ∈ l) {K:Nat} (hK:K≤sizeLine)
    (hlen:∀ i st ys n,Inv i st ys n→i < N→ys.length < K)
    (turn:∀ i v st ys n m h t g (Q:Option Value→Shared→Prop),i < N→vl i v→Inv i st ys n→Own h₀ (ob st++(l++m)) h→h.objs.size = n→t₀≤t→Zq5 true g₀ g →
      (∀ o st' n' h' t' g',Inv (i + 1) st' (ys++o.toList) n'→Own h₀ (ob st'++(l++m)) h'→h'.objs.size = n'→t≤t'→Zq5 true g g'→Q o (r.at h' ⟨t',g'⟩)) →
      Turn (model prog w) A target ifs elt env v Q (notedBy (model prog w) A env fun e s'=>R (.error e) s') (r.at h ⟨t,g⟩))
    (last:∀ st ys ea n n' h t g,Inv N st ys n→sz n n'→Own h₀ ((acc,Zqz ys ea)::(ob st++l)) h→h.objs.size = n'→t₀≤t→Zq5 true g₀ g→R (.ok .next) (r.at h ⟨t,g⟩))
    {oi:Obj} {st:σ} {ys:List Value} {ea:Nat} {h:Heap} {t:Nat} {g:Array GenState} (hat:At oi 0) (hI:Inv 0 st ys h.objs.size) (O:Own h₀ ((it,oi)::(acc,Zqz ys ea)::(ob st++l)) h) (htt:t₀≤t) (hg:Zq5 true g₀ g) :
    codeAny (model prog w) A (.compLoop (.ListComp elt [⟨target,iter,ifs,0⟩] scope pos) 0 (.ref it) (.ref acc) env) R (r.at h ⟨t,g⟩):=by
  refine codeAny_compLoop_tests (fun k s=>∃ i oi st ys ea h t g,s = r.at h ⟨t,g⟩∧k = N - i∧i≤N∧At oi i∧Inv i st ys h.objs.size∧Own h₀ ((it,oi)::(acc,Zqz ys ea)::(ob st++l)) h∧t₀≤t∧Zq5 true g₀ g) ?_ N
    ⟨0,oi,st,ys,ea,h,t,g,rfl,rfl,Nat.zero_le _,hat,hI,O,htt,hg⟩ ht
  rintro k s ⟨i,oi,st,ys,ea,h,t,g,rfl,rfl,hi,hat,hI,O,htt,hg⟩
  have hf:∀ p ∈ fix,p ∈ (acc,Zqz ys ea)::(ob st++l):=fun p hp=>.tail _ (List.mem_append_right _ (hfix p hp))
  by_cases hlt:i < N
  · refine S.next hlt hat hf O fun oi' h1 v t1 hat1 hv O1 hs1 ht1=>?_
    have O1':Own h₀ (ob st++(l++[(it,oi'),(acc,Zqz ys ea)])) h1:=O1.perm (by
      refine Zqv fun _=>?_
      simp only [Zqj,Zqk,Zqc]
      lia)
    refine turn i v st ys _ [(it,oi'),(acc,Zqz ys ea)] h1 t1 g _ hlt hv hI O1' hs1 (by lia) hg |> fun T=>wpAny_mono (T fun o st' n' h2 t2 g2 hI2 O2 hs2 ht2 hg2=>?_:Turn _ _ _ _ _ _ _ (fun o s'=>match o with
        | some x=>wpAny (model prog w) A (call (.builtin "list.append") [.ref acc,x]) (fun _ s₅=>∃ m,m < N - i∧∃ i oi st ys ea h t g,s₅ = r.at h ⟨t,g⟩∧m = N - i∧i≤N∧At oi i∧Inv i st ys h.objs.size∧Own h₀ ((it,oi)::(acc,Zqz ys ea)::(ob st++l)) h∧t₀≤t∧Zq5 true g₀ g) (notedBy (model prog w) A env fun e s'=>R (.error e) s') s'
        | none=>∃ m,m < N - i∧∃ i oi st ys ea h t g,s' = r.at h ⟨t,g⟩∧m = N - i∧i≤N∧At oi i∧Inv i st ys h.objs.size∧Own h₀ ((it,oi)::(acc,Zqz ys ea)::(ob st++l)) h∧t₀≤t∧Zq5 true g₀ g) _ _) (fun _ s2 q=>q) fun _ _ q=>q
    have gr:=Zq5.trans (d:=true) hg hg2 fun e=>Bool.noConfusion e
    cases o with
    | none =>
      refine ⟨N - (i + 1),by lia,i + 1,oi',st',ys,ea,h2,t2,g2,rfl,rfl,hlt,hat1,?_,O2.perm ?_,by lia,gr⟩
      · rw [hs2]
        simpa using hI2
      · refine Zqv fun _=>?_
        simp only [Zqj,Zqk,Zqc]
        lia
    | some x =>
      have Oa:(acc,Zqz ys ea) ∈ ob st'++(l++[(it,oi'),(acc,Zqz ys ea)]):=by simp
      refine wpAny_list_append_plain (s:=r.at h2 ⟨t2,g2⟩) (items:=⟨ys⟩) ⟨ea,O2.own _ Oa⟩ (fun h3 hp hs3=>?_) (by
        have:=hlen i st ys _ hI hlt
        show ys.length≤sizeLine
        lia)
      obtain ⟨ea',hp⟩:=hp
      rw [push_listO' ys ea x ea'] at hp
      have O2':Own h₀ ((acc,Zqz ys ea)::(it,oi')::(ob st'++l)) h2:=O2.perm (by
        refine Zqv fun _=>?_
        simp only [Zqj,Zqk,Zqc]
        lia)
      have O3:Own h₀ ((acc,Zqz (ys++[x]) ea')::(it,oi')::(ob st'++l)) h3:=O2'.same hs3 hp
      refine ⟨N - (i + 1),by lia,i + 1,oi',st',ys++[x],ea',h3,t2,g2,rfl,rfl,hlt,hat1,?_,O3.perm (.swap _ _ _),by lia,gr⟩
      rw [hs3.1,hs2]
      exact hI2
  · have hiN:i = N:=by lia
    subst hiN
    exact S.done hat hf O fun h' O' hs=>last st ys ea _ _ h' t g hI hs O' rfl htt hg
noncomputable def madeO (o:Out Flow):Nat:=match o with
  | .ok _ s=>s.m
  | .err _ s=>s.m
  | _=>0
noncomputable def Zjd {α:Type} (o:Out α):Nat:=match o with
  | .ok _ s=>s.m
  | .err _ s=>s.m
  | _=>0
theorem extT_made {α:Type} {ex:Except Value α→List (Option (Addr × Obj))→List (Option Bag)→Ext} {ks kb:List Nat} (o:Out α):(extT ex ks kb o).nat 0 = Zjd o:=by
  cases o <;> rfl
theorem extX_made {ex:Result→List (Option (Addr × Obj))→List (Option Bag)→Ext} {ks kb:List Nat} (o:Out Flow):(extX ex ks kb o).nat 0 = madeO o:=by
  cases o <;> rfl
theorem conOk_runN {T:Params→Addr→Option Obj} {prog:Program} {w:World} {n t:Nat} {sts:List Str} {cons:List Fam} {K:Con} {ks kb:List Nat} {orc:List Nat}
    {ex:(Nat→Ext)→Result→List (Option (Addr × Obj))→List (Option Bag)→Ext} {P:(Nat→Ext)→List Prop}
    (hC:Zx1 T prog w cons) (hks:Zjc ks = true) (hkb:Zjc kb = true) (k:Nat) (hm:∀ x,K.made x = k)
    (h:∀ f,(Zvk ks kb K (ex f) (P f) (Zzs T prog w n t sts cons K orc f))∧madeO (Zzs T prog w n t sts cons K orc f) = k) (hP:∀ f,∀ p ∈ P f,p) (hgk:K.gen = false→∀ f,gkOf (Zzs T prog w n t sts cons K orc f) = true:=by exact fun h=>Bool.noConfusion (show true = false from h)):Zq1 T prog w n t K:=by
  refine ⟨fun h₀ h' r g A R G hA O hs hR=>?_⟩
  have ok:CfgOk (CZ T prog w n t sts cons) prog w ⟨h₀,g⟩ r:=cz_ok G hC
  refine (Zk0 ok K.need K.fr K.code (startX K.pre K.preB orc) R (Zk7 _ fun f=>?_)).2 A h' ⟨t,g⟩ hA ⟨hs,rfl,O.own,O.nodup,O.keep,O.apart,Zq5.refl _ _⟩
  exact postX_of (Zzs T prog w n t sts cons K orc f) (extX (ex f) ks kb (Zzs T prog w n t sts cons K orc f)) (Zz1 hks) (Zz1 hkb) (extX_nat _) (congrArg Prod.fst (h f).1) (congrArg Prod.snd (h f).1) (hP f) (fun e=>hgk e f) (by rw [hm,extX_made]; exact (h f).2.symm) hR
theorem Zqs {α:Type} {T:Params→Addr→Option Obj} {prog:Program} {w:World} {n t:Nat} {sts:List Str} {cons:List Fam} {K:Zq2 α} {ks kb:List Nat} {orc:List Nat}
    {ex:(Nat→Ext)→Except Value α→List (Option (Addr × Obj))→List (Option Bag)→Ext} {P:(Nat→Ext)→List Prop}
    (hC:Zx1 T prog w cons) (hks:Zjc ks = true) (hkb:Zjc kb = true) (k:Nat) (hm:∀ x,K.made x = k)
    (h:∀ f,(Zqh ks kb K (ex f) (P f) (Zzz T prog w n t sts cons K orc f))∧Zjd (Zzz T prog w n t sts cons K orc f) = k) (hP:∀ f,∀ p ∈ P f,p):Zqn T prog w n t K:=by
  refine ⟨fun h₀ h' r g A Q E G hA O hs hR=>?_⟩
  have ok:CfgOk (CZ T prog w n t sts cons) prog w ⟨h₀,g⟩ r:=cz_ok G hC
  refine (Zvr ok (Zk0 ok K.need K.fr) Q E K.tree (startX K.pre K.preB orc) (Zk7 _ fun f=>?_)).2 A h' ⟨t,g⟩ hA ⟨hs,rfl,O.own,O.nodup,O.keep,O.apart,Zq5.refl _ _⟩
  exact postT_of (Zzz T prog w n t sts cons K orc f) (extT (ex f) ks kb (Zzz T prog w n t sts cons K orc f)) (Zz1 hks) (Zz1 hkb) (extT_nat _) (congrArg Prod.fst (h f).1) (congrArg Prod.snd (h f).1) (hP f) (by rw [hm,extT_made]; exact (h f).2.symm) hR
noncomputable def exF (k:Nat) (f:Nat→Ext) (_:Result) (_:List (Option (Addr × Obj))) (_:List (Option Bag)):Ext:=match f k with | ⟨nt,sl,sq,ob⟩=>⟨fun j=>nt (j + 2),sl,sq,ob⟩
noncomputable def orc_LL1:List Nat:=Zxh 16 20 0x7654321081101100200
noncomputable def orc_LL2:List Nat:=Zxh 16 21 0x87654321091101100200
theorem LL1_v (prog:Program) (w:World) (b:Bool) (L:Lx) (tk:Nat→Nat) (p:Nat) (st:Option Str) (ln:Int) (s':Lt) (e e':Int) (pbl:List (Str × Nat)) (ws:List Str) (E1:Env) (a1:Addr) (d1:Array DictEntry) (k1:Nat) (sl1:Array (Option Value)) (n t:Nat) (f:Nat→Ext) :
    Zvk [0,1,2,3,4,5,6,7] [] (llCon (hz (wb w b)) L tk ⟨p,st,ln⟩ s' e e' pbl ws [fe E1 a1] [(a1,frO d1 k1 sl1)] n t) (exF 1 f) []
      (Zzs T2 prog (wb w b) n t [] [liFam (hz (wb w b)) L ⟨p,st,ln⟩ s' e e' pbl ws [fe E1 a1],lnewFam] (llCon (hz (wb w b)) L tk ⟨p,st,ln⟩ s' e e' pbl ws [fe E1 a1] [(a1,frO d1 k1 sl1)] n t) orc_LL1 f):=by cases b <;> cases st <;> kernel_rfl
theorem LL2_v (prog:Program) (w:World) (b:Bool) (L:Lx) (tk:Nat→Nat) (p:Nat) (st:Option Str) (ln:Int) (s':Lt) (e e':Int) (pbl:List (Str × Nat)) (ws:List Str) (E1 E2:Env) (a1 a2:Addr) (d1 d2:Array DictEntry) (k1 k2:Nat) (sl1 sl2:Array (Option Value)) (n t:Nat) (f:Nat→Ext) :
    Zvk [0,1,2,3,4,5,6,7,8] [] (llCon (hz (wb w b)) L tk ⟨p,st,ln⟩ s' e e' pbl ws [fe E1 a1,fe E2 a2] [(a1,frO d1 k1 sl1),(a2,frO d2 k2 sl2)] n t) (exF 1 f) []
      (Zzs T2 prog (wb w b) n t [] [liFam (hz (wb w b)) L ⟨p,st,ln⟩ s' e e' pbl ws [fe E1 a1,fe E2 a2],lnewFam] (llCon (hz (wb w b)) L tk ⟨p,st,ln⟩ s' e e' pbl ws [fe E1 a1,fe E2 a2] [(a1,frO d1 k1 sl1),(a2,frO d2 k2 sl2)] n t) orc_LL2 f):=by cases b <;> cases st <;> kernel_rfl
theorem toFr_is (o:Obj):∃ d k sl,toFr o = frO d k sl:=by
  obtain ⟨c,d,dt,sl⟩:=o
  cases dt <;> exact ⟨_,_,_,rfl⟩
theorem around2_foFr {es:List Env} {fo:List (Addr × Obj)} (h:Zkj es fo) (l:List (Option (Addr × Obj))) (k:Nat):Zkj es (foFr es l k):=by
  cases h with
  | one E1 a1 d1 k1 sl1 h1 =>
    obtain ⟨d,j,sl,e⟩:=toFr_is (Zzf l k)
    show Zkj _ [(a1,toFr (Zzf l k))]
    rw [e]; exact .one _ _ _ _ _ h1
  | two E1 a1 d1 k1 sl1 E2 a2 d2 k2 sl2 h1 h2 =>
    obtain ⟨d,j,sl,e⟩:=toFr_is (Zzf l k)
    obtain ⟨d',j',sl',e'⟩:=toFr_is (Zzf l (k + 1))
    show Zkj _ [(a1,toFr (Zzf l k)),(a2,toFr (Zzf l (k + 1)))]
    rw [e,e']; exact .two _ _ _ _ _ _ _ _ _ _ h1 h2
noncomputable abbrev Zjq:Value→Sem Value:=W.ZFast.zw8711993805878244202
noncomputable abbrev lenHintZ:Value→Sem Bool:=W.ZFast.zw15112759502256325868
theorem pyIterZ_eq:Zjq = pyIter:=W.ZFast.ze8711993805878244202.symm
theorem lenHintZ_eq:lenHintZ = Builtin.List.listLengthHint:=W.ZFast.ze15112759502256325868.symm
noncomputable def orc_IT:List Nat:=Zxh 16 27 0x200020002111000000010001
theorem IT_v (prog:Program) (w:World) (b:Bool) (L:Lx) (n t:Nat) (f:Nat→Ext) :
    Zqh [1] [] (itCon Zjq lenHintZ L n t) (fun _ _ _=>exN fun _=>0) [] (Zzz T2 prog (wb w b) n t [] [] (itCon Zjq lenHintZ L n t) orc_IT f):=by cases b <;> kernel_rfl
theorem size_add {a n x y:Nat} (h:a = n + x + y):a = n + (x + y):=by lia
theorem it_ok {prog:Program} {w:World} {b:Bool} (L:Lx) (n t:Nat):Zqn T2 prog (wb w b) n t (itCon Zjq lenHintZ L n t) :=
  Zqw (ex:=fun _ _ _ _=>exN fun _=>0) Zqq rfl rfl (IT_v prog w b L n t) fun f q hq=>nomatch hq
theorem entry_list_init':entryFor table "list.__init__" = some Builtin.«list.__init__»:=F.entry_list_init
theorem Zx8 (f:Array Value→Array Value) (its:List Value) (ep:Nat):∃ ep',Obj.mapSeq f (Zqz its ep) = Zqz (f ⟨its⟩).toList ep':=⟨_,rfl⟩
theorem li_ok {prog:Program} {w:World} {b:Bool} {L:Lx} {s s':Lt} {ws:List Str} (hr:Reads prog w b L s ws s') (tk:Nat→Nat) (e e':Int) (pbl:List (Str × Nat)) (lst:Addr) {es:List Env} {fo:List (Addr × Obj)} (hf:Zkj es fo) (hl:pbl.length < 21) (hw:pbl.length + ws.length≤sizeLine) (n t:Nat) :
    Zq1 T2 prog (wb w b) n t (liCon (hz (wb w b)) L tk s s' e e' pbl ws lst es fo):=by
  refine ⟨fun h₀ h r g A R G hA O hs hR=>?_⟩
  have O0:Own h₀ ((lst,Zqz [] 0)::(Zvb (hz (wb w b)) L tk s e pbl e'++fo)) h:=by
    have z:Own h₀ (((lst,Zqz [] 0)::(Zvb (hz (wb w b)) L tk s e pbl e'++fo))++[]) h:=O
    rw [List.append_nil] at z; exact z
  have hne:lst≠L.lex:=fun q=>by
    have nd:=O0.nodup
    rw [List.map_cons,List.nodup_cons] at nd
    refine nd.1 (q ▸ List.mem_map.mpr ⟨(L.lex,lexO L),?_,rfl⟩)
    simp [Zvb,Zq3]
  have hA':AOk (A.under (.builtin "list.__init__" ⟨[.ref lst,.ref L.lex],[]⟩)) (some es) 74:=hA.under (Zzn rfl)
  refine codeAny_builtin entry_list_init' ?_
  show wpAny _ _ (do let old ← Builtin.List.listItems (.ref lst); Builtin.List.listUpdate (.ref lst) (fun _=>#[]); letGo old.toList.reverse; Builtin.List.listExtendWith (.ref lst) (.ref L.lex) .none) _ _ _
  refine wpAny_bind ?_
  unfold Builtin.List.listItems
  refine wpAny_bind (wpAny_seqItems (O0.own _ (.head _)) rfl (wpAny_pure ?_))
  show wpAny _ _ (updateSeq lst (fun _=>#[]) >>= fun _=>letGo (#[]:Array Value).toList.reverse >>= fun _=>Builtin.List.listExtendWith (.ref lst) (.ref L.lex) .none) _ _ _
  refine wpAny_bind (wpAny_updateSeq (O0.own _ (.head _)) rfl ?_ (Nat.zero_le _) (Nat.zero_le _))
  have O1:Own h₀ ((lst,Zqz [] 0)::(Zvb (hz (wb w b)) L tk s e pbl e'++fo)) (h.update lst (Obj.mapSeq fun _=>#[])):=O0.update (Obj.mapSeq fun _=>#[]) rfl
  have hs1:(h.update lst (Obj.mapSeq fun _=>#[])).objs.size = n:=by rw [← hs]; exact (Heap.SameBut.update ..).1
  generalize h.update lst (Obj.mapSeq fun _=>#[]) = h1 at O1 hs1
  refine wpAny_bind (wpAny_letGo ?_)
  unfold Builtin.List.listExtendWith
  have hlex:h1.get? L.lex = some (lexO L):=O1.own (L.lex,lexO L) (by simp [Zvb,Zq3])
  show wpAny _ _ (typeOf (.ref L.lex) >>= _) _ _ (r.at h1 ⟨t,g⟩)
  refine wpAny_bind (m:=typeOf (.ref L.lex)) (wpAny_bind (wpAny_loadPart hlex (wpAny_pure ?_)))
  have q1:Builtin.List.listSameRef (.ref lst) (.ref L.lex) = false:=by simp [Builtin.List.listSameRef,hne]
  have q2:((lexO L).cls == Value.type "list") = false:=rfl
  have q3:((lexO L).cls == Value.type "tuple") = false:=rfl
  simp only [q1,q2,q3,Bool.or_false,Bool.false_eq_true,if_false]
  have eT:∀ K:Value→Bool→Sem Fin,(pyIter (.ref L.lex) >>= fun iter=>holding [iter] (Builtin.List.listLengthHint (.ref L.lex)) >>= fun room=>K iter room) = (itCon Zjq lenHintZ L n t).tree >>= fun x=>K x.1 x.2:=fun K=>by
    unfold itCon
    simp only [pyIterZ_eq,lenHintZ_eq,bind_assoc,pure_bind]
  refine (congrArg (fun z=>wpAny (model prog (wb w b)) (A.under (.builtin "list.__init__" ⟨[.ref lst,.ref L.lex],[]⟩)) z _ _ (r.at h1 ⟨t,g⟩)) (eT _)).mpr ?_
  refine wpAny_bind ((it_ok L n t).use (rest:=(lst,Zqz [] 0)::([(L.iod,ioD (hz (wb w b)) L s.p (tk 0)),(L.io,ioO L),(L.ld,lexD (hz (wb w b)) L (s.stV (tk 1)) s.ln (tk 2) (S []) (tk 3))]++([(L.pb,dqO e pbl),(L.fk,dqO e' [])]++fo))) G (hA'.bare (by show 60≤74; lia)) O1 ?_ hs1 fun x h2 g2 O2 hs2 gr2=>?_)
  · show List.Perm _ (([(L.lex,lexO L)]++[])++_)
    have z:=Zks (l:=(lst,Zqz [] 0)::(Zvb (hz (wb w b)) L tk s e pbl e'++fo)) (js:=[4]) (ps:=[(L.lex,lexO L)]) rfl (Zz1 rfl)
    have e0:Zj5 0 ((lst,Zqz [] 0)::(Zvb (hz (wb w b)) L tk s e pbl e'++fo)) [4] = (lst,Zqz [] 0)::([(L.iod,ioD (hz (wb w b)) L s.p (tk 0)),(L.io,ioO L),(L.ld,lexD (hz (wb w b)) L (s.stV (tk 1)) s.ln (tk 2) (S []) (tk 3))]++([(L.pb,dqO e pbl),(L.fk,dqO e' [])]++fo)):=by
      have e1:Zj5 0 ((lst,Zqz [] 0)::(Zvb (hz (wb w b)) L tk s e pbl e'++fo)) [4] = (lst,Zqz [] 0)::([(L.iod,ioD (hz (wb w b)) L s.p (tk 0)),(L.io,ioO L),(L.ld,lexD (hz (wb w b)) L (s.stV (tk 1)) s.ln (tk 2) (S []) (tk 3))]++([(L.pb,dqO e pbl),(L.fk,dqO e' [])]++Zj5 7 fo [4])):=rfl
      rw [e1,restN_past 7 fo (by lia),restN_none]
    rw [e0] at z
    exact z
  · show wpAny _ _ (if (true || _) = true then _ else _) _ _ _
    rw [Bool.true_or,if_pos rfl]
    refine wpAny_bind (wpAny_rule ?_)
    have O3:Own h₀ ((lst,Zqz [] 0)::(Zvb (hz (wb w b)) L tk s e pbl e'++fo)) h2:=by
      refine O2.perm ?_
      have z:=Zks (l:=(lst,Zqz [] 0)::(Zvb (hz (wb w b)) L tk s e pbl e'++fo)) (js:=[4]) (ps:=[(L.lex,lexO L)]) rfl (Zz1 rfl)
      have e1:Zj5 0 ((lst,Zqz [] 0)::(Zvb (hz (wb w b)) L tk s e pbl e'++fo)) [4] = (lst,Zqz [] 0)::([(L.iod,ioD (hz (wb w b)) L s.p (tk 0)),(L.io,ioO L),(L.ld,lexD (hz (wb w b)) L (s.stV (tk 1)) s.ln (tk 2) (S []) (tk 3))]++([(L.pb,dqO e pbl),(L.fk,dqO e' [])]++Zj5 7 fo [4])):=rfl
      rw [e1,restN_past 7 fo (by lia),restN_none] at z
      exact z.symm
    show wpAny _ _ ((updateSeq lst (·.push .none) >>= fun _=>updateSeq lst (·.pop)) >>= fun _=>again (Zk6 lst L.lex .none)) _ _ _
    refine wpAny_bind (wpAny_bind (wpAny_updateSeq (O3.own _ (.head _)) rfl ?_ (Nat.zero_le _) (show 1≤sizeLine + 1 from Nat.le_add_left _ _)))
    obtain ⟨ep1,h1e⟩:=Zx8 (·.push .none) [] 0
    have O4:=O3.update (Obj.mapSeq (·.push .none)) (by rw [h1e]; rfl)
    rw [h1e] at O4
    have hs4:(h2.update lst (Obj.mapSeq (·.push .none))).objs.size = n + x.nat 0:=by rw [show n + x.nat 0 = h2.objs.size from hs2.symm]; exact (Heap.SameBut.update ..).1
    change wpAny _ _ _ _ _ (r.at (h2.update lst (Obj.mapSeq (·.push .none))) ⟨t + x.nat 1,g2⟩)
    generalize h2.update lst (Obj.mapSeq (·.push .none)) = h4 at O4 hs4
    refine wpAny_updateSeq (O4.own _ (.head _)) rfl ?_ (show 1≤sizeLine by decide) (Nat.zero_le _)
    obtain ⟨ep2,h2e⟩:=Zx8 (·.pop) ((#[]:Array Value).push .none).toList ep1
    have O5:=O4.update (Obj.mapSeq (·.pop)) (by show (Obj.mapSeq (·.pop) (Zqz ((#[]:Array Value).push .none).toList ep1)).isFreed = false; rw [h2e]; rfl)
    have h2e':Obj.mapSeq (·.pop) (Zqz ((fun x:Array Value=>x.push .none) ⟨[]⟩).toList ep1) = Zqz [] ep2:=h2e
    rw [h2e'] at O5
    have hs5:(h4.update lst (Obj.mapSeq (·.pop))).objs.size = n + x.nat 0:=by rw [← hs4]; exact (Heap.SameBut.update ..).1
    refine wpAny_pure ⟨plainId_quiet F.plain_extend_loop _,?_⟩
    refine (exl_ok (e':=e') (lst:=lst) (v:=.none) hf hr pbl e tk [] ep2 (n + x.nat 0) (t + x.nat 1) hl (by simpa using hw)).run h₀ _ r g2 A R G ⟨hA.hand,by have:=hA.deep; show _ + 5 * 70 < _; have:A.depth + 5 * 75 < recursionLimit:=this; lia,by have:A.units + 10 * 75 < cLine:=hA.units; show _ + 10 * 70 < _; lia,hA.frames⟩ ?_ hs5 fun y h6 g6 O6 hs6 gr6=>?_
    · show Own h₀ (((lst,Zqz [] ep2)::(Zvb (hz (wb w b)) L tk s e pbl e'++fo))++[]) _
      rw [List.append_nil]; exact O5
    · have fin:=hR ⟨fun j=>match j with | 0=>x.nat 0 + y.nat 0 | 1=>x.nat 1 + y.nat 1 | j=>y.nat j,y.sl,y.seq,y.ob⟩ h6 g6 O6 (size_add hs6) (Zq5.trans (d:=true) gr2 gr6 fun e=>Bool.noConfusion e)
      have et:t + (x.nat 1 + y.nat 1) = t + x.nat 1 + y.nat 1:=by lia
      rw [← et]
      exact fin
theorem liFam_ok {prog:Program} {w:World} {b:Bool} {L:Lx} {s s':Lt} {ws:List Str} (hr:Reads prog w b L s ws s') (e e':Int) (pbl:List (Str × Nat)) {es:List Env} {fo:List (Addr × Obj)} (hf:Zkj es fo) (hl:pbl.length < 21) (hw:pbl.length + ws.length≤sizeLine)
    (n t:Nat) (c:Code) (l:List (Option (Addr × Obj))) (bb:List (Option Bag)):Zq1 T2 prog (wb w b) n t (liFam (hz (wb w b)) L s s' e e' pbl ws es n t c l bb) :=
  li_ok hr _ e e' pbl _ (around2_foFr hf l 7) hl hw n t
theorem ll_ok {prog:Program} {w:World} {b:Bool} {L:Lx} {s s':Lt} {ws:List Str} (hr:Reads prog w b L s ws s') (tk:Nat→Nat) (e e':Int) (pbl:List (Str × Nat)) {es:List Env} {fo:List (Addr × Obj)} (hf:Zkj es fo) (hl:pbl.length < 21) (hw:pbl.length + ws.length≤sizeLine) (n t:Nat) :
    Zq1 T2 prog (wb w b) n t (llCon (hz (wb w b)) L tk s s' e e' pbl ws es fo n t):=by
  obtain ⟨p,st,ln⟩:=s
  have hc:=liFam_ok (e:=e) (e':=e') (pbl:=pbl) hr hf hl hw
  cases hf with
  | one E1 a1 d1 k1 sl1 h1=>exact Zjk (ex:=exF 1) (Zqx hc (Zqx lnewFam_ok Zqq)) rfl rfl (LL1_v prog w b L tk p st ln s' e e' pbl ws E1 a1 d1 k1 sl1 n t) fun f q hq=>nomatch hq
  | two E1 a1 d1 k1 sl1 E2 a2 d2 k2 sl2 h1 h2=>exact Zjk (ex:=exF 1) (Zqx hc (Zqx lnewFam_ok Zqq)) rfl rfl (LL2_v prog w b L tk p st ln s' e e' pbl ws E1 E2 a1 a2 d1 d2 k1 k2 sl1 sl2 n t) fun f q hq=>nomatch hq
noncomputable abbrev Zqd (R:RO) (w:World):Addr→Option Obj:=T3 R w.params
noncomputable abbrev Zqg:Expr→Env→Value→Sem Unit:=W.ZFast.zw17772580674575903948
noncomputable abbrev fsiZ:Expr→Env→Value→Sem Value:=W.ZFast.zw7768414822394308030
theorem Zxk:Zqg = assign:=W.ZFast.ze17772580674575903948.symm
theorem fsiZ_eq:fsiZ = foldedSetIterable:=W.ZFast.ze7768414822394308030.symm
noncomputable def orc_DP:List Nat:=[0,1,1,1,1]
noncomputable def orc_DI:List Nat:=[1,2,2,0,2,0,1]
noncomputable def orc_DS:List Nat:=[1,1]
theorem DP_v (prog:Program) (w:World) (b:Bool) (R:RO) (lst:Addr) (W:List Nat) (tt n t:Nat) (f:Nat→Ext) :
    Zqh [0] [] (dlPrep (hz (wb w b)) (Zqd R (wb w b)) Zjw lst W tt n t) dlPEx [] (Zzz (T3 R) prog (wb w b) n t [] [] (dlPrep (hz (wb w b)) (Zqd R (wb w b)) Zjw lst W tt n t) orc_DP f):=by cases b <;> kernel_rfl
theorem DI_v (prog:Program) (w:World) (b:Bool) (R:RO) (fr:Addr) (ft:Nat→Nat) (lst:Addr) (W:List Nat) (tt:Nat) (its:List Value) (ep n t:Nat) (f:Nat→Ext) :
    Zqh [0,1,2] [] (dlIt (hz (wb w b)) (Zqd R (wb w b)) Zq9 fsiZ Zjq fr ft lst W tt its ep n t) (fun _ _ _=>exN fun _=>0) [] (Zzz (T3 R) prog (wb w b) n t [] [] (dlIt (hz (wb w b)) (Zqd R (wb w b)) Zq9 fsiZ Zjq fr ft lst W tt its ep n t) orc_DI f):=by cases b <;> kernel_rfl
theorem DS2_v (prog:Program) (w:World) (b:Bool) (R:RO) (fr:Addr) (ft:Nat→Nat) (lst:Addr) (W:List Nat) (tt:Nat) (p n t:Nat) (f:Nat→Ext) :
    Zqh [0] [] (dlAs (hz (wb w b)) (Zqd R (wb w b)) Zqg fr ft lst W tt none p n t) dlAEx [] (Zzz (T3 R) prog (wb w b) n t [] [] (dlAs (hz (wb w b)) (Zqd R (wb w b)) Zqg fr ft lst W tt none p n t) orc_DS f):=by cases b <;> kernel_rfl
theorem DS3_v (prog:Program) (w:World) (b:Bool) (R:RO) (fr:Addr) (ft:Nat→Nat) (lst:Addr) (W:List Nat) (tt:Nat) (q p n t:Nat) (f:Nat→Ext) :
    Zqh [0] [] (dlAs (hz (wb w b)) (Zqd R (wb w b)) Zqg fr ft lst W tt (some (q,none)) p n t) dlAEx [] (Zzz (T3 R) prog (wb w b) n t [] [] (dlAs (hz (wb w b)) (Zqd R (wb w b)) Zqg fr ft lst W tt (some (q,none)) p n t) orc_DS f):=by cases b <;> kernel_rfl
theorem DS4_v (prog:Program) (w:World) (b:Bool) (R:RO) (fr:Addr) (ft:Nat→Nat) (lst:Addr) (W:List Nat) (tt:Nat) (q:Addr) (u:List Nat × Nat) (p n t:Nat) (f:Nat→Ext) :
    Zqh [0] [] (dlAs (hz (wb w b)) (Zqd R (wb w b)) Zqg fr ft lst W tt (some (q,some u)) p n t) dlAEx [] (Zzz (T3 R) prog (wb w b) n t [] [] (dlAs (hz (wb w b)) (Zqd R (wb w b)) Zqg fr ft lst W tt (some (q,some u)) p n t) orc_DS f):=by cases b <;> kernel_rfl
noncomputable def orc_DT:List Nat:=Zxh 16 24 0xa23b0b1b00200022101001
theorem DT2_v (prog:Program) (w:World) (b:Bool) (R:RO) (fr:Addr) (ft:Nat→Nat) (lst:Addr) (W:List Nat) (tt:Nat) (its:List Value) (ep:Nat) (q:List Nat) (tb:Option Addr) (n t:Nat) (f:Nat→Ext) :
    Zqh [0,3,4,5,6,7,8,9] [] (dlT (hz (wb w b)) (Zqd R (wb w b)) Zqm fr ft lst W tt none its ep q tb n t) (dlTEx f) [] (Zzz (T3 R) prog (wb w b) n t [] [joinFam1 W q tb,pileFam (hz (wb w b)) q,laddFam its ep 0] (dlT (hz (wb w b)) (Zqd R (wb w b)) Zqm fr ft lst W tt none its ep q tb n t) orc_DT f):=by cases b <;> kernel_rfl
theorem DT4_v (prog:Program) (w:World) (b:Bool) (R:RO) (fr:Addr) (ft:Nat→Nat) (lst:Addr) (W:List Nat) (tt:Nat) (u:Addr × List Nat × Nat) (its:List Value) (ep:Nat) (q:List Nat) (tb:Option Addr) (n t:Nat) (f:Nat→Ext) :
    Zqh [0,3,4,5,6,7,8,9] [] (dlT (hz (wb w b)) (Zqd R (wb w b)) Zqm fr ft lst W tt (some u) its ep q tb n t) (dlTEx f) [] (Zzz (T3 R) prog (wb w b) n t [] [joinFam1 W q tb,pileFam (hz (wb w b)) q,laddFam its ep 0] (dlT (hz (wb w b)) (Zqd R (wb w b)) Zqm fr ft lst W tt (some u) its ep q tb n t) orc_DT f):=by cases b <;> kernel_rfl
noncomputable def orc_C1s:List Nat:=[1,1]
noncomputable def orc_C1s2:List Nat:=[1,1]
noncomputable def orc_C1l:List Nat:=Zxh 16 14 0x2113033300012
theorem C1s_v (prog:Program) (w:World) (b:Bool) (fr cell loc:Nat) (v:Int) (u n t:Nat) (f:Nat→Ext) :
    (Zqh [0] [] (c1As (hz (wb w b)) (Zqf (wb w b)) Zqg fr cell loc none v u n t) (fun _ l _=>exN fun _=>Zj2 l 0 0) [] (Zzz T2 prog (wb w b) n t [] [] (c1As (hz (wb w b)) (Zqf (wb w b)) Zqg fr cell loc none v u n t) orc_C1s f))∧Zjd (Zzz T2 prog (wb w b) n t [] [] (c1As (hz (wb w b)) (Zqf (wb w b)) Zqg fr cell loc none v u n t) orc_C1s f) = 0:=by cases b <;> (constructor <;> kernel_rfl)
theorem C1s2_v (prog:Program) (w:World) (b:Bool) (fr cell loc:Nat) (o:Nat × Int × Nat) (v:Int) (u n t:Nat) (f:Nat→Ext) :
    (Zqh [0] [] (c1As (hz (wb w b)) (Zqf (wb w b)) Zqg fr cell loc (some o) v u n t) (fun _ l _=>exN fun _=>Zj2 l 0 0) [] (Zzz T2 prog (wb w b) n t [] [] (c1As (hz (wb w b)) (Zqf (wb w b)) Zqg fr cell loc (some o) v u n t) orc_C1s2 f))∧Zjd (Zzz T2 prog (wb w b) n t [] [] (c1As (hz (wb w b)) (Zqf (wb w b)) Zqg fr cell loc (some o) v u n t) orc_C1s2 f) = 0:=by cases b <;> (constructor <;> kernel_rfl)
theorem C1l_v (prog:Program) (w:World) (b:Bool) (fr cell loc pool:Nat) (tx:Nat) (x:Int) (ux:Nat) (tp:Nat→Nat) (ep:Nat) (v:Str) (tv n t:Nat) (f:Nat→Ext) :
    (Zqh [1,2,0] [] (c1El (hz (wb w b)) (Zqf (wb w b)) Zq9 fr cell loc pool (tx,x,ux) tp ep v tv n t) (fun _ _ _=>exN fun _=>0) [] (Zzz T2 prog (wb w b) n t [] [giFam pool tp ep (Z.modQ x 6) (.str v tv)] (c1El (hz (wb w b)) (Zqf (wb w b)) Zq9 fr cell loc pool (tx,x,ux) tp ep v tv n t) orc_C1l f))∧Zjd (Zzz T2 prog (wb w b) n t [] [giFam pool tp ep (Z.modQ x 6) (.str v tv)] (c1El (hz (wb w b)) (Zqf (wb w b)) Zq9 fr cell loc pool (tx,x,ux) tp ep v tv n t) orc_C1l f) = 0:=by cases b <;> (constructor <;> kernel_rfl)
theorem comp780 (w:World) (b:Bool):drE (Zqf (wb w b)) = .ListComp (compElt (drE (Zqf (wb w b)))) [⟨compTgt (drE (Zqf (wb w b))),compIter (drE (Zqf (wb w b))),[],0⟩] (compScope (drE (Zqf (wb w b)))) (compPos (drE (Zqf (wb w b)))):=by cases b <;> kernel_rfl
theorem ctup780 (w:World) (b:Bool) (it v:Value):letOwnedTupleGo (compTgt (drE (Zqf (wb w b)))) it v = pure ():=by cases b <;> kernel_rfl
noncomputable def m6 (x:Int):Fin 6:=⟨(Int.fmod x 6).toNat,by have h1:=Int.fmod_nonneg_of_pos x (b:=6) (by decide); have h2:=Int.fmod_lt_of_pos x (b:=6) (by decide); lia⟩
theorem m6_eq (x:Int):Z.modQ x 6 = Int.ofNat (m6 x).val:=by
  rw [← Z.modQ_eq]
  have h1:=Int.fmod_nonneg_of_pos x (b:=6) (by decide)
  show Int.fmod x 6 = ((Int.fmod x 6).toNat:Int)
  lia
noncomputable def drV (tp:Nat→Nat) (l:List Int):List Value:=l.map fun x=>.str (S (Zzc (m6 x))) (tp (m6 x).val)
theorem pool_get (tp:Nat→Nat):∀ k:Fin 6,(poolV tp)[k.val]? = some (.str (S (Zzc k)) (tp k.val))
  | 0=>rfl
  | 1=>rfl
  | 2=>rfl
  | 3=>rfl
  | 4=>rfl
  | 5=>rfl
noncomputable def lastX:List Int→Option Int→Option Int
  | [],o=>o
  | x::r,_=>lastX r (some x)
theorem lastX_some:∀ (r:List Int) (x:Int),∃ z,lastX r (some x) = some z
  | [],x=>⟨x,rfl⟩
  | y::r,_=>lastX_some r y
theorem drV_snoc (tp:Nat→Nat) (l:List Int) (x:Int):drV tp (l++[x]) = drV tp l++[.str (S (Zzc (m6 x))) (tp (m6 x).val)]:=by simp [drV]
theorem lastX_snoc:∀ (l:List Int) (o:Option Int) (x:Int),lastX (l++[x]) o = some x
  | [],_,_=>rfl
  | y::r,_,x=>lastX_snoc r (some y) x
theorem Zz4 {α:Type} {l:List α} {i:Nat} {x:α} (h:l[i]? = some x):l.take (i + 1) = l.take i++[x]:=by
  rw [List.take_add_one,h]; rfl
section
variable {prog:Program} {w:World} {b:Bool}
theorem c1As_ok (fr cell loc:Nat) (o:Option (Nat × Int × Nat)) (v:Int) (u n t:Nat):Zqn T2 prog (wb w b) n t (c1As (hz (wb w b)) (Zqf (wb w b)) Zqg fr cell loc o v u n t):=by
  cases o with
  | none=>exact Zqs (ex:=fun _ _ l _=>exN fun _=>Zj2 l 0 0) Zqq rfl rfl 0 (fun _=>rfl) (C1s_v prog w b fr cell loc v u n t) fun f q hq=>nomatch hq
  | some o=>exact Zqs (ex:=fun _ _ l _=>exN fun _=>Zj2 l 0 0) Zqq rfl rfl 0 (fun _=>rfl) (C1s2_v prog w b fr cell loc o v u n t) fun f q hq=>nomatch hq
theorem c1El_ok (fr cell loc pool:Nat) (tx:Nat) (x:Int) (ux:Nat) (tp:Nat→Nat) (ep n t:Nat):Zqn T2 prog (wb w b) n t (c1El (hz (wb w b)) (Zqf (wb w b)) Zq9 fr cell loc pool (tx,x,ux) tp ep (S (Zzc (m6 x))) (tp (m6 x).val) n t):=by
  have hk6:Int.ofNat (m6 x).val < 2 ^ 63:=by have:=(m6 x).isLt; show ((m6 x).val:Int) < 2 ^ 63; lia
  exact Zqs (ex:=fun _ _ _ _=>exN fun _=>0) (Zqx (fun n' t' c l' bb=>gi_ok (m6_eq x) hk6 (pool_get tp (m6 x)) n' t') Zqq) rfl rfl 0 (fun _=>rfl) (C1l_v prog w b fr cell loc pool tx x ux tp ep (S (Zzc (m6 x))) (tp (m6 x).val) n t) fun f q hq=>nomatch hq
theorem c1s_ok {fr cell loc it row acc pool er ep ea:Nat} {l:List Int} {tk tp:Nat→Nat} (hs:l.length≤sizeLine) {z:Int} (hlz:lastX l none = some z) (n t:Nat) :
    Zq1 T2 prog (wb w b) n t (c1sCon (hz (wb w b)) (Zqf (wb w b)) fr cell loc it row acc pool (Zz2 l tk) er (drV tp l) ea tp ep (some z) n t):=by
  refine ⟨fun h₀ h r g A R G hA O hn hR=>?_⟩
  have hA:AOk A none 45:=hA
  have O:Own h₀ [(it,Zx4 row 0),(row,Zqz (Zz2 l tk) er),(acc,Zqz [] ea),(loc,xO (hz (wb w b)) none),(cell,cellO (.ref pool)),(pool,Zqz (poolV tp) ep)] h:=O
  have hc:=comp780 w b
  have htup:=ctup780 w b (.ref it)
  have tA:∀ o v u n t,(c1As (hz (wb w b)) (Zqf (wb w b)) Zqg fr cell loc o v u n t).tree = assign (compTgt (drE (Zqf (wb w b)))) (drCEnv (Zqf (wb w b)) fr cell loc) (.int v u):=fun o v u n t=>by
    unfold c1As; dsimp only; rw [Zxk]
  have tE:∀ o v tv n t,(c1El (hz (wb w b)) (Zqf (wb w b)) Zq9 fr cell loc pool o tp ep v tv n t).tree = eval (compElt (drE (Zqf (wb w b)))) (drCEnv (Zqf (wb w b)) fr cell loc):=fun o v tv n t=>by
    unfold c1El; dsimp only; rw [Zzx]
  show codeAny _ A (.compStart (drE (Zqf (wb w b))) 0 (.ref it) (.ref acc) (drCEnv (Zqf (wb w b)) fr cell loc)) R _
  generalize compTgt (drE (Zqf (wb w b))) = tgt at hc htup tA
  generalize compElt (drE (Zqf (wb w b))) = elt at hc tE
  generalize compIter (drE (Zqf (wb w b))) = itx at hc
  generalize compScope (drE (Zqf (wb w b))) = sc at hc
  generalize compPos (drE (Zqf (wb w b))) = ps at hc
  rw [hc]
  generalize drCEnv (Zqf (wb w b)) fr cell loc = env at tA tE
  have loop:codeAny (model prog (wb w b)) A (.compLoop (.ListComp elt [⟨tgt,itx,[],0⟩] sc ps) 0 (.ref it) (.ref acc) env) R (r.at h ⟨t,g⟩):=by
    refine Zvj (src_list (r:=r) (h₀:=h₀) (it:=it) (lst:=row) (xs:=Zz2 l tk) (ep:=er) hA.hand) htup (fun o:Option (Nat × Int × Nat)=>[(loc,xO (hz (wb w b)) o)])
      (fun i o ys m=>ys = drV tp (l.take i)∧m = n∧(o.map (·.2.1)) = lastX (l.take i) none) (t₀:=t) (g₀:=g) (l:=[(row,Zqz (Zz2 l tk) er),(cell,cellO (.ref pool)),(pool,Zqz (poolV tp) ep)]) (fun p hp=>by
        rw [List.mem_singleton.mp hp]; exact List.Mem.head _) (K:=l.length) hs (fun i o ys m hI hi=>?_) (fun i v o ys m fm hp t1 g1 Q hi hv hI O1 hs1 ht1 hg1 hQ=>?_) (fun o ys ea' m m' hp t1 g1 hI hsz O1 hs1 ht1 hg1=>?_) (oi:=Zx4 row 0) (st:=none) (ys:=[]) (ea:=ea) ⟨rfl,rfl⟩ ⟨rfl,hn,rfl⟩ (O.perm (by (refine Zqv fun _=>?_; simp +arith only [Zqj,Zqk,Zqc]))) (Nat.le_refl _) (Zq5.refl _ _)
    · rw [hI.1,drV,List.length_map,List.length_take]
      rw [Zzb] at hi
      lia
    · obtain ⟨rfl,rfl,ho⟩:=hI
      rw [Zzb] at hi
      have hx:l[i]? = some l[i]:=List.getElem?_eq_getElem hi
      generalize l[i] = x at hx
      have hv':=Zv4 l tk i x hx
      rw [hv'] at hv
      obtain rfl:=Option.some.inj hv
      refine Turn.plain ?_
      rw [← tA o x (tk i) m t1]
      refine (c1As_ok fr cell loc o x (tk i) m t1).use (rest:=[(row,Zqz (Zz2 l tk) er),(cell,cellO (.ref pool)),(pool,Zqz (poolV tp) ep)]++fm) G (hA.le (by show 30≤45; lia)) O1 (by
        simp only [Zq2.preA,c1As,Zqr]
        (refine Zqv fun _=>?_; simp +arith only [Zqj,Zqk,Zqc])) hs1 fun x1 h1 g2 O2 hs2 gr2=>?_
      show wpAny _ A (eval elt env) _ _ _
      have hs2:h1.objs.size = m + 0:=hs2
      rw [← tE (x1.nat 2,x,tk i) (S (Zzc (m6 x))) (tp (m6 x).val) m (t1 + x1.nat 1)]
      refine (c1El_ok fr cell loc pool (x1.nat 2) x (tk i) tp ep m (t1 + x1.nat 1)).use (rest:=(row,Zqz (Zz2 l tk) er)::fm) G (hA.le (by show 30≤45; lia)) O2 (by
        simp only [Zq2.preA,Zq2.postA,c1As,c1El,Zqr]
        (refine Zqv fun _=>?_; simp +arith only [Zqj,Zqk,Zqc])) hs2 fun x2 h2 g3 O3 hs3 gr3=>?_
      have hs3:h2.objs.size = m + 0:=hs3
      refine hQ (some (.str (S (Zzc (m6 x))) (tp (m6 x).val))) (some (x1.nat 2,x,tk i)) m h2 _ g3 ⟨?_,rfl,?_⟩ (O3.perm (by
        simp only [Zq2.postA,c1El,Zqr]
        (refine Zqv fun _=>?_; simp +arith only [Zqj,Zqk,Zqc]))) hs3 (by lia) (Zq5.trans (d:=true) gr2 gr3 fun e=>Bool.noConfusion e)
      · rw [Zz4 hx,drV_snoc]; rfl
      · rw [Zz4 hx,lastX_snoc]; rfl
    · obtain ⟨rfl,rfl,ho⟩:=hI
      rw [Zzb,List.take_length,hlz] at ho
      obtain ⟨q,hq,hz'⟩:=Option.map_eq_some_iff.mp ho
      subst hq
      obtain ⟨q1,q2,q3⟩:=q
      have hz':q2 = z:=hz'
      subst hz'
      have fin:=hR ⟨fun j=>match j with | 0=>2 | 1=>t1 - t | 2=>ea' | 3=>q1 | _=>q3,fun _=>#[],fun _ _ _=>0,Ext.nil.ob⟩ hp g1 (O1.perm (by
        rw [Zzb,List.take_length]
        simp only [Con.postA,c1sCon,Zqr,xL]
        (refine Zqv fun _=>?_; simp +arith only [Zqj,Zqk,Zqc]))) (by rw [hs1,hsz]; rfl) hg1
      have et:t + (t1 - t) = t1:=by lia
      change R (.ok .next) (r.at hp ⟨t + (t1 - t),g1⟩) at fin
      rw [et] at fin
      exact fin
  exact codeAny_compStart_list loop (wpAny_pyIter_listiter (s:=r.at h ⟨t,g⟩) (i:=0) ⟨_,O.own (it,_) (.head _),rfl,rfl⟩ loop)
end
noncomputable def drC (lst:Addr) (xs:List Value) (ep n:Nat):Con where
  pre:=[(lst,Zqz xs ep)]
  post _:=[(lst,Zqz xs ep)]
  fresh _:=[]
  code:=.call (.ref 780) ⟨[.ref lst],[]⟩
  res x:=.ok (.ret (.ref 5))
  need:=60
  fr:=none
noncomputable def slcO (vl vu:Value):Obj:={ cls:=.type "slice",data:=.fields #[vl,vu,.none] }
noncomputable def slCon (lst sl:Addr) (xs:List Value) (ep:Nat) (lo hi:Option Int) (vl vu:Value) (n:Nat):Con where
  pre:=[(lst,Zqz xs ep),(sl,slcO vl vu)]
  post _:=[(lst,Zqz xs ep)]
  fresh _:=[(n,Zqz (slicePick ⟨xs⟩ lo hi none).toList 0)]
  code:=.builtin "list.__getitem__" ⟨[.ref lst,.ref sl],[]⟩
  res _:=.ok (.ret (.ref n))
  need:=10
  fr:=none
  gen:=false
  made _:=1
theorem sl_ok {T:Params→Addr→Option Obj} {prog:Program} {w:World} {lst sl:Addr} {xs:List Value} {ep:Nat} {lo hi:Option Int} {vl vu:Value} (pl:IsPart vl lo) (pu:IsPart vu hi) (hsz:xs.length≤sizeLine) (n t:Nat):Zq1 T prog w n t (slCon lst sl xs ep lo hi vl vu n):=by
  refine ⟨fun h₀ h r g A R G hA O hs hR=>?_⟩
  have O:Own h₀ [(lst,Zqz xs ep),(sl,slcO vl vu)] h:=O
  have hos:=O.own (sl,slcO vl vu) (.tail _ (.head _))
  have ho:=O.own (lst,Zqz xs ep) (.head _)
  have hTs:(r.at h ⟨t,g⟩).TypeIs (.ref sl) "slice" := ⟨_,hos,rfl⟩
  refine codeAny_builtin F.entry_list_getitem ?_
  rw [Around.under_plainId (by decide +kernel)]
  show wpAny _ _ (Builtin.List.listSubscript? (.ref sl) >>= _) _ _ _
  refine wpAny_bind ?_
  unfold Builtin.List.listSubscript?
  refine wpAny_bind (wpAny_specialOf hTs slice_no_index ?_)
  simp only [Option.isNone_none,if_true]
  refine wpAny_pure ?_
  show wpAny _ _ (typeOf (.ref sl) >>= _) _ _ _
  refine wpAny_bind (wpAny_typeOf hTs ?_)
  rw [if_neg (by decide)]
  rw [listSliceParts_eq]
  refine wpAny_bind (wpAny_bind (wpAny_field hos (show (slcO vl vu).data = .fields #[vl,vu,.none] from rfl) (x:=.none) rfl (wpAny_bind (wpAny_listPart .none ?_))))
  rw [if_neg (show ¬ ((rawPart none == rawInt 0) = true) from Bool.false_ne_true)]
  refine wpAny_bind (wpAny_field hos (show (slcO vl vu).data = .fields #[vl,vu,.none] from rfl) (x:=vl) rfl (wpAny_bind (wpAny_listPart pl ?_)))
  refine wpAny_bind (wpAny_field hos (show (slcO vl vu).data = .fields #[vl,vu,.none] from rfl) (x:=vu) rfl (wpAny_bind (wpAny_listPart pu (wpAny_pure ?_))))
  refine wpAny_bind (m:=Builtin.List.listItems (.ref lst)) ?_
  unfold Builtin.List.listItems
  refine wpAny_bind (wpAny_seqItems ho rfl (wpAny_pure ?_))
  refine wpAny_bind (wpAny_of_eq (sliceIndices_raw lo hi none (⟨xs⟩:Array Value).size (by simp)) ?_)
  have hsz':(⟨xs⟩:Array Value).size≤sizeLine:=by simpa using hsz
  refine wpAny_bind (wpAny_newObj_type (wpAny_pure ?_) (Nat.le_trans (slicePick_size_le ⟨xs⟩ lo hi none) hsz'))
  have O':=O.push (Zqz (slicePick ⟨xs⟩ lo hi none).toList 0) rfl
  have fin:=hR ⟨fun _=>0,fun _=>#[],fun _ _ _=>0,Ext.nil.ob⟩ (h.push (Zqz (slicePick ⟨xs⟩ lo hi none).toList 0)) g (by rw [hs] at O'; exact O'.drop (r:=[(sl,slcO vl vu)])) (by rw [Heap.size_push,hs]; rfl) (Zq5.refl _ _)
  show R (.ok (.ret (.ref h.objs.size))) _
  rw [hs]
  exact fin
theorem slicePick_take (xs:List Value) (k:Nat):(slicePick ⟨xs⟩ none (some (k:Int)) none).toList = xs.take k:=by rw [slicePick_upto']
theorem slicePick_drop (xs:List Value) (k:Nat):(slicePick ⟨xs⟩ (some (k:Int)) none none).toList = xs.drop k:=by rw [slicePick_from']
theorem con_int {T:Params→Addr→Option Obj} {prog:Program} {w:World} {n t:Nat} {K:Con} {id:String} {args:Args} {B:Builtin} {z:Int} (entry:entryFor table id = some B) (pl:plainId id = true) (gv:Gives (B args) (.int z))
    (hpre:K.preA = []) (hpost:∀ x,K.postA x = []) (hc:K.code = .builtin id args) (hres:∀ x,K.res x = .ok (.ret (.int z (x.nat 2)))) (hm:∀ x,K.made x = 0):Zq1 T prog w n t K:=by
  refine ⟨fun h₀ h r g A R G hA O hs hR=>?_⟩
  rw [hc]
  refine codeAny_builtin entry ?_
  rw [Around.under_plainId pl]
  refine gv prog w A R (r.at h ⟨t,g⟩) ?_
  have fin:=hR ⟨fun j=>match j with | 1=>1 | 2=>t | _=>0,fun _=>#[],fun _ _ _=>0,Ext.nil.ob⟩ h g (by rw [hpost]; rw [hpre] at O; exact O) (by rw [hm]; exact hs) (Zq5.refl _ _)
  rw [hres] at fin
  exact fin
noncomputable def pwCon (k:Nat) (u v:Nat):Con where
  pre:=[]
  post _:=[]
  fresh _:=[]
  code:=.builtin "int.__pow__" ⟨[.int 6 u,.int (Int.ofNat k) v],[]⟩
  res x:=.ok (.ret (.int (6 ^ k) (x.nat 2)))
  need:=5
  fr:=none
  made _:=0
theorem pw_ok {T:Params→Addr→Option Obj} {prog:Program} {w:World} {k:Nat} (hk:k < 6) (u v n t:Nat):Zq1 T prog w n t (pwCon k u v):=by
  have hk':k = 0 ∨ k = 1 ∨ k = 2 ∨ k = 3 ∨ k = 4 ∨ k = 5:=by lia
  have big:∀ j:Fin 6,Builtin.Int.intTooBig (((Builtin.Int.intBits 6:Nat):Int) * (Int.ofNat j.val)) = false:=by decide +kernel
  rcases Nat.eq_zero_or_pos k with h0 | h0
  · subst h0
    exact con_int F.entry_int_pow (by decide +kernel) (AutoIntG9.int___pow___int_int_0 6 u 0 v (by decide) (by decide)) rfl (fun _=>rfl) rfl (fun _=>rfl) fun _=>rfl
  · have hne:¬ (Int.ofNat k == 0) = true:=by
      intro q
      have:(Int.ofNat k) = 0:=by simpa using q
      have:(k:Int) = 0:=this
      lia
    have gv:=AutoIntG2.int___pow___int_int_4 6 u (Int.ofNat k) v (Int.natCast_nonneg k) hne (by decide) (by decide) (by rw [big ⟨k,hk⟩]; decide)
    exact con_int F.entry_int_pow (by decide +kernel) gv rfl (fun _=>rfl) rfl (fun _=>rfl) fun _=>rfl
noncomputable def lenCon (lst:Addr) (xs:List Value) (ep m:Nat):Con where
  pre:=[(lst,Zqz xs ep)]
  post _:=[(lst,Zqz xs ep)]
  fresh _:=[]
  code:=.builtin "len" ⟨[.ref lst],[]⟩
  res x:=.ok (.ret (.int (Int.ofNat m) (x.nat 2)))
  need:=10
  fr:=none
  made _:=0
theorem len_ok {T:Params→Addr→Option Obj} {prog:Program} {w:World} {lst:Addr} {xs:List Value} {ep m:Nat} (hm:xs.length = m) (hl:xs.length < 2 ^ 63) (n t:Nat):Zq1 T prog w n t (lenCon lst xs ep m):=by
  subst hm
  refine ⟨fun h₀ h r g A R G hA O hs hR=>?_⟩
  have O:Own h₀ [(lst,Zqz xs ep)] h:=O
  have fin:R (.ok (.ret (.int (Int.ofNat xs.length) (t + 1)))) (r.at h ⟨t + 2,g⟩):=hR ⟨fun j=>match j with | 1=>2 | 2=>t + 1 | _=>0,fun _=>#[],fun _ _ _=>0,Ext.nil.ob⟩ h g O hs (Zq5.refl _ _)
  refine codeAny_builtin entry_len ?_
  rw [Around.under_plainId plain_len]
  refine wpAny_mono (wpAny_len_body_list (s:=r.at h ⟨t,g⟩) (Q:=fun v s'=>R (.ok (.ret v)) s') (isList_of (O.own (lst,_) (.head _))) ?_ ?_) (fun fin s' q=>?_) fun _ _ q=>q
  · show ((xs.length:Nat):Int) < 2 ^ 63
    have:=hl
    lia
  · exact fin
  · obtain ⟨v,rfl,q⟩:=q
    exact q
theorem ap_ok {T:Params→Addr→Option Obj} {prog:Program} {w:World} {lst:Addr} {xs:List Value} {ep:Nat} {v:Value} (hsz:xs.length≤sizeLine) (n t:Nat):Zq1 T prog w n t (apCon lst xs ep v):=by
  refine ⟨fun h₀ h r g A R G hA O hs hR=>?_⟩
  have O:Own h₀ [(lst,Zqz xs ep)] h:=O
  refine codeAny_builtin F.entry_list_append ?_
  rw [Around.under_plainId (by decide +kernel)]
  obtain ⟨ep',hep⟩:=push_listO xs ep v
  have O':=O.update (Obj.mapSeq (·.push v)) (by rw [hep]; rfl)
  rw [hep] at O'
  refine AutoListH.list_append_list_val_0 lst ⟨xs⟩ ep v (by simpa using hsz) prog w A R _ ⟨O.own _ (.head _),?_⟩
  exact hR ⟨fun j=>match j with | 2=>ep' | _=>0,fun _=>#[],fun _ _ _=>0,Ext.nil.ob⟩ (h.update lst (Obj.mapSeq (·.push v))) g O' (by rw [← hs]; exact (Heap.SameBut.update ..).1) (Zq5.refl _ _)
theorem sm_ok {T:Params→Addr→Option Obj} {prog:Program} {w:World} {it lst st:Nat} {l:List Int} {tk:Nat→Nat} {ep:Nat} (T0:Int) (tT es:Nat) (sg:Int) (n t:Nat) (hs:sg = 0 ∨ sg = 2) :
    Zq1 T prog w n t (smCon it lst st (Zz2 l tk) ep 0 T0 (T0 + sumI l) tT es sg):=by
  refine ⟨fun h₀ h r g A R G hA O hn hR=>?_⟩
  have O:Own h₀ [(it,Zx4 lst 0),(lst,Zqz (Zz2 l tk) ep),(st,Zqz [.int T0 tT] es)] h:=O
  refine sm_run (l:=l) (tk:=tk) hA.hand l 0 rfl (Nat.zero_le _) T0 tT es sg (Zx4 lst 0) h t hs ⟨rfl,rfl⟩ (O.perm (.cons _ (.swap _ _ _))) fun h' t' u O' hsz ht=>?_
  have fin:=hR ⟨fun j=>match j with | 0=>2 | 1=>t' - t | _=>u,fun _=>#[],fun _ _ _=>0,Ext.nil.ob⟩ h' g O' (by rw [hsz,hn]; rfl) (Zq5.refl _ _)
  have et:t + (t' - t) = t':=by lia
  change R (.ok (.ret (.int (T0 + sumI l) u))) (r.at h' ⟨t + (t' - t),g⟩) at fin
  rw [et] at fin
  exact fin
noncomputable def orc_SU:List Nat:=Zxh 16 14 0x213110101100
theorem SU_v (prog:Program) (w:World) (b:Bool) (lst:Nat) (xs:List Value) (ep:Nat) (U:Int) (n t:Nat) (f:Nat→Ext) :
    (Zvk [0] [] (suCon lst xs ep U) (fun r _ _=>exN fun _=>rTok r) [] (Zzs T2 prog (wb w b) n t [] [smFam0 lst xs ep U] (suCon lst xs ep U) orc_SU f))∧madeO (Zzs T2 prog (wb w b) n t [] [smFam0 lst xs ep U] (suCon lst xs ep U) orc_SU f) = 4:=by cases b <;> (constructor <;> kernel_rfl)
theorem su_ok {prog:Program} {w:World} {b:Bool} (lst:Nat) (l:List Int) (tk:Nat→Nat) (ep n t:Nat):Zq1 T2 prog (wb w b) n t (suCon lst (Zz2 l tk) ep (sumI l)):=by
  have e:(0:Int) + sumI l = sumI l:=Int.zero_add _
  exact conOk_runN (ex:=fun _ r _ _=>exN fun _=>rTok r) (Zqx (fun n' t' c l' bb=>e ▸ sm_ok 0 _ _ _ n' t' (sgN_is _)) Zqq) rfl rfl 4 (fun _=>rfl) (SU_v prog w b lst (Zz2 l tk) ep (sumI l) n t) fun f q hq=>nomatch hq
noncomputable def Zxz (ys:List Int):List Int:=3::0::5::2::1::3::4::0::ys
noncomputable def rkZ (T:Int) (k:Nat):Int:=Z.modQ (Z.divQ (22395 + T) (6 ^ k)) 6
noncomputable def drR (T:Int) (x:Ext):RO:=⟨rkZ T,fun k=>x.nat (k + 10)⟩
noncomputable def tupO (vs:List Value) (e:Nat):Obj:={ cls:=.type "tuple",data:=.seq ⟨vs⟩ e }
noncomputable def drCon (w:Hs) (lst:Addr) (xs:List Value) (ep:Nat) (ys:List Int) (T:Int) (n t:Nat):Con where
  pre:=[(lst,Zqz xs ep)]
  post _:=[(lst,Zqz xs ep)]
  fresh x:=[(n + 21,tupO [.ref (n + 17),.ref (n + 11),.int (Z.modQ (T + 4) (Int.ofNat (Zxz ys).length + 1)) (x.nat 2)] 0),(n + 17,Zqz (drV (x.seq 0 0) (Zxz ys)) (x.nat 3)),(n + 11,rankO w (drR T x)),(n + 10,Zqz (poolV (x.seq 0 0)) (x.nat 4))]
  code:=.call (.ref 780) ⟨[.ref lst],[]⟩
  res _:=.ok (.ret (.ref (n + 21)))
  need:=60
  fr:=none
  made _:=22
noncomputable def nthV (l:List Value) (k:Nat):Value:=match l.drop k with
  | v::_=>v
  | []=>.none
noncomputable def rowTk (l:List Value) (tk:Nat→Nat):Nat→Nat
  | 0=>Zvt (nthV l 0)
  | 1=>Zvt (nthV l 1)
  | 2=>Zvt (nthV l 2)
  | 3=>Zvt (nthV l 3)
  | 4=>Zvt (nthV l 4)
  | 5=>Zvt (nthV l 5)
  | 6=>Zvt (nthV l 6)
  | 7=>Zvt (nthV l 7)
  | k + 8=>tk k
noncomputable def row8 (l:List Value):List Value:=Zz2 [3,0,5,2,1,3,4,0] (rowTk l fun _=>0)
noncomputable def slFam (lst:Addr) (xs:List Value) (ep:Nat) (ys:List Value):Fam:=fun n _ c l _=>{ slCon lst (Zx0 (Zx7 c 1)) xs ep none (some 12) .none (.int 12 (match Zzf l 1 with | ⟨_,_,.fields f,_⟩=>Zvt (nthV f.toList 1) | _=>0)) n with fresh:=fun _=>[(n,Zqz ys 0)] }
noncomputable def laFam (ys:List Value):Fam:=fun n _ c l _=>laddCon (Zx0 (Zx7 c 0)) (Zx0 (Zx7 c 1)) (row8 (Zkq (Zzf l 0))) ys (Zj6 (Zzf l 0)) 0 n
noncomputable def suFam (ys:List Int) (tk:Nat→Nat) (T:Int):Fam:=fun _ _ c l _=>suCon (Zx0 (Zx7 c 0)) (Zz2 (Zxz ys) (rowTk (Zkq (Zzf l 0)) tk)) (Zj6 (Zzf l 0)) T
noncomputable def poolTk (l:List Value) (k:Nat):Nat:=Zvt (nthV l k)
noncomputable def c1sFam (w:Hs) (top:Addr→Option Obj) (ys:List Int) (tk:Nat→Nat) (z:Int):Fam:=fun n t c l _=>match c with
  | .compStart _ _ it acc env=>c1sCon w top (env.frame.getD 0) (match env.cells with | p::_=>p.2 | []=>0) env.locals (Zx0 it) (match Zzf l 0 with | ⟨_,_,.fields f,_⟩=>Zx0 (nthV f.toList 0) | _=>0) (Zx0 acc) (match Zzf l 4 with | ⟨_,_,.cell v,_⟩=>(match v with | some v=>Zx0 v | none=>0) | _=>0)
      (Zz2 (Zxz ys) (rowTk (Zkq (Zzf l 1)) tk)) (Zj6 (Zzf l 1)) (drV (poolTk (Zkq (Zzf l 5))) (Zxz ys)) (Zj6 (Zzf l 2)) (poolTk (Zkq (Zzf l 5))) (Zj6 (Zzf l 5)) (some z) n t
  | _=>c1sCon w top 0 0 0 0 0 0 0 (Zz2 (Zxz ys) tk) 0 (drV tk (Zxz ys)) 0 tk 0 (some z) n t
noncomputable def pwFam:Fam:=fun _ _ c _ _=>pwCon ((match Zx7 c 1 with | .int i _=>i.toNat | _=>0) % 6) (sTok c 0) (sTok c 1)
noncomputable def lenFam (ys:List Int) (tk:Nat→Nat):Fam:=fun _ _ c l _=>lenCon (Zx0 (Zx7 c 0)) (Zz2 (Zxz ys) (rowTk (Zkq (Zzf l 0)) tk)) (Zj6 (Zzf l 0)) (Zxz ys).length
noncomputable def rkTok (l:List (Option (Addr × Obj))) (i:Nat):Nat:=match Nat.beq (i % 2) 0 with
  | true=>Zj2 l 2 (i / 2)
  | false=>eTok l 2 (i / 2)
noncomputable def drEx (_:Result) (l:List (Option (Addr × Obj))) (_:List (Option Bag)):Ext:=⟨fun j=>match j with
  | 0=>Zvt (nthV (Zkq (Zzf l 0)) 2)
  | 1=>Zj6 (Zzf l 1)
  | 2=>Zj6 (Zzf l 3)
  | j=>rkTok l (j - 8),fun _=>#[],fun _ _=>poolTk (Zkq (Zzf l 3)),Ext.nil.ob⟩
noncomputable def Zq4 (top:Addr→Option Obj):Env:={ scope:=(Zxv top 804).scope,locals:=806,globals:=3,cells:=[("ranks",810),("places",809),("numbers",808),("words",807)],qual := "law.<locals>.",func:=some 804,code:=.ref 803,frame:=some 806,builtins:=0 }
noncomputable def lwNames:List String:=["script", "cut", "key", "step", "line", "lines", "piles", "told", "due", "ordered"]
noncomputable def lwEs (w:Hs):List String→(Nat→Nat)→List Value→List DictEntry
  | [],_,_=>[]
  | nm::ns,ft,vs=>match vs with
    | []=>[]
    | v::vs=>ent w nm (ft 0) v::lwEs w ns (fun k=>ft (k + 1)) vs
noncomputable def lwF (w:Hs) (ft:Nat→Nat) (vs:List Value):Obj:={ cls:=.type "frame",data:=.dict ⟨lwEs w lwNames ft vs⟩ vs.length }
noncomputable def Zzq (o:Option Value):Obj:={ cls:=.type "cell",data:=.cell o }
noncomputable def lwS (top:Addr→Option Obj) (k:Nat):Stmt:=Zqt (Zxv top 804) k
noncomputable def lwPrep (w:Hs) (top:Addr→Option Obj) (prep:Addr→FuncData→Args→Sem Env):Zq2 Env where
  pre:=[]
  post _:=[]
  fresh x:=[(806,lwF w (fun j=>x.nat (j + 2)) [.ref 805]),(807,Zzq none),(808,Zzq none),(809,Zzq none),(810,Zzq none)]
  tree:=prep 804 (Zxv top 804) ⟨[.ref 805],[]⟩
  res _:=.ok (Zq4 top)
  need:=20
  fr:=none
  made _:=5
noncomputable def cutZ (ys:List Int) (T:Int):Int:=Z.modQ (T + 4) (Int.ofNat (Zxz ys).length + 1)
noncomputable def lw0 (w:Hs) (top:Addr→Option Obj) (exs:List Stmt→Env→Sem Flow) (ft:Nat→Nat) (xs:List Value) (ep:Nat) (ys:List Int) (T:Int):Zq2 Flow where
  pre:=[(806,lwF w ft [.ref 805]),(807,Zzq none),(810,Zzq none),(805,Zqz xs ep)]
  post x:=[(806,lwF w (fun j=>x.nat (j + 4)) [.ref 805,.int (cutZ ys T) (x.nat 2)]),(807,Zzq (some (.ref 828))),(810,Zzq (some (.ref 822))),(805,Zqz xs ep)]
  fresh x:=[(828,Zqz (drV (x.seq 0 0) (Zxz ys)) (x.nat 3)),(822,rankO w (drR T x))]
  tree:=exs [lwS top 0] (Zq4 top)
  res _:=.ok .next
  need:=80
  fr:=none
  made _:=25
noncomputable def drFam (w:Hs) (xs:List Value) (ep:Nat) (ys:List Int) (T:Int):Fam:=fun n t _ _ _=>drCon w 805 xs ep ys T n t
noncomputable def lw0Ex (f:Nat→Ext) (_:Except Value Flow) (l:List (Option (Addr × Obj))) (_:List (Option Bag)):Ext:=⟨fun j=>match Nat.ble 8 j with
  | true=>(f 0).nat (j + 2)
  | false=>match j with
    | 0=>eTok l 2 1
    | 1=>Zj6 (Zzf l 0)
    | j=>Zj2 l 2 (j - 2),fun _=>#[],(f 0).seq,Ext.nil.ob⟩
noncomputable def badCon:Con where
  pre:=[(0,Zvx),(0,Zvx)]
  post _:=[]
  fresh _:=[]
  code:=.call .none ⟨[],[]⟩
  res _:=.ok .next
  need:=1
  fr:=none
noncomputable def atN (k:Nat) (K:Con):Fam:=fun n _ _ _ _=>match Nat.beq n k with
  | true=>K
  | false=>badCon
theorem atN_ok {T:Params→Addr→Option Obj} {prog:Program} {w:World} {k:Nat} {K:Con} (h:∀ t,Zq1 T prog w k t K) (n t:Nat) (c:Code) (l:List (Option (Addr × Obj))) (b:List (Option Bag)):Zq1 T prog w n t (atN k K n t c l b):=by
  unfold atN
  cases e:Nat.beq n k with
  | true =>
    have:=Nat.eq_of_beq_eq_true e
    subst this
    exact h t
  | false=>exact ⟨fun h₀ h r g A R G hA O hs hR=>by
      have:=O.nodup
      simp [Con.preA,badCon,Zqr] at this⟩
noncomputable def roLam (top:Addr→Option Obj) (R:RO):List (Addr × Obj):=[
  (842,codeO R 40 "<lambda>" "law.<locals>.<lambda>" 815 2 19 837 838 839 840 841),
  (843,fnO (lamFd (Zqt (Zxv top 804) 1) "<lambda>" "law.<locals>.<lambda>" [("ranks",810)] (.ref 842) (.ref 836)))]
noncomputable def roX10 (x:Ext):RO:=⟨fun _=>0,fun k=>x.nat (k + 10)⟩
noncomputable def tblA (l:List (Int × Int × Addr)):Obj:={ cls:=.none,data:=.fields ⟨l.flatMap fun p=>[.int p.1 0,.int p.2.1 0,.ref p.2.2]⟩ }
noncomputable def lw1 (w:Hs) (top:Addr→Option Obj) (exs:List Stmt→Env→Sem Flow) (ft:Nat→Nat) (cut:Int) (u:Nat):Zq2 Flow where
  pre:=[(46,Zvx),(801,Zvx),(806,lwF w ft [.ref 805,.int cut u]),(810,Zzq (some (.ref 822)))]
  post x:=[(46,ckT46),(801,tblA [(815,21,842)]),(806,lwF w (fun j=>x.nat (j + 2)) [.ref 805,.int cut u,.ref 904]),(810,Zzq (some (.ref 822)))]
  fresh x:=roLam top (roX10 x)++roCk w top (roX10 x)
  tree:=exs [lwS top 1] (Zq4 top)
  res _:=.ok .next
  need:=80
  fr:=none
  made _:=72
noncomputable def ckFam (w:Hs) (top:Addr→Option Obj):Fam:=atN 844 (ckCon w top)
noncomputable def lw1Ex (f:Nat→Ext) (_:Except Value Flow) (l:List (Option (Addr × Obj))) (_:List (Option Bag)):Ext:=exN fun j=>match Nat.ble 8 j with
  | false=>Zj2 l 14 j
  | true=>match Nat.ble 48 j with
    | false=>(f 0).nat (j - 6)
    | true=>match Nat.ble 53 j with
      | true=>(f 0).nat (j - 6)
      | false=>cdTok (Zzf l 0) (j - 48)
noncomputable def roDl (top:Addr→Option Obj) (R:RO):List (Addr × Obj):=[
  (909,{ cls:=.type "cell",data:=.cell (some (.ref 904)) }),
  (916,codeO R 90 "_law_dealt" "_law_dealer.<locals>._law_dealt" 799 2 19 911 912 913 914 915),
  (917,fnO (defFd (Zqt (Zxv top 794) 0) "_law_dealt" "_law_dealer.<locals>._law_dealt" [("key",909)] (.ref 916) (.ref 910)))]
noncomputable def lw2 (w:Hs) (top:Addr→Option Obj) (exs:List Stmt→Env→Sem Flow) (ft:Nat→Nat) (cut:Int) (u:Nat):Zq2 Flow where
  pre:=[(789,Zvx),(806,lwF w ft [.ref 805,.int cut u,.ref 904])]
  post x:=[(789,tblA [(799,4,916)]),(806,lwF w (fun j=>x.nat (j + 2)) [.ref 805,.int cut u,.ref 904,.ref 917])]
  fresh x:=roDl top (roX10 x)
  tree:=exs [lwS top 2] (Zq4 top)
  res _:=.ok .next
  need:=40
  fr:=none
  made _:=10
noncomputable def lw2Ex (_:Nat→Ext) (_:Except Value Flow) (l:List (Option (Addr × Obj))) (_:List (Option Bag)):Ext:=exN fun j=>match Nat.ble 8 j with
  | false=>Zj2 l 4 j
  | true=>cdTok (Zzf l 1) (j - 98)
noncomputable def ifTst (s:Stmt):Expr:=match s with
  | .If t _ _ _=>t
  | _=>.Name "" default
noncomputable def ifBody (s:Stmt):List Stmt:=match s with
  | .If _ b _ _=>b
  | _=>[]
noncomputable def ifPos (s:Stmt):Pos:=match s with
  | .If _ _ _ p=>p
  | _=>default
noncomputable def cmpL (e:Expr):Expr:=match e with
  | .Compare l _ _ _=>l
  | _=>.Name "" default
noncomputable def cmpR (e:Expr):Expr:=match e with
  | .Compare _ _ cs _=>match cs with
    | r::_=>r
    | []=>.Name "" default
  | _=>.Name "" default
noncomputable def cmpPos (e:Expr):Pos:=match e with
  | .Compare _ _ _ p=>p
  | _=>default
noncomputable def dlS (top:Addr→Option Obj) (k:Nat):Stmt:=nthS (dlBody top) k
noncomputable def dlA1 (w:Hs) (top:Addr→Option Obj) (exs:List Stmt→Env→Sem Flow) (fr:Addr) (ft:Nat→Nat) (lst:Addr) (W:List Nat) (tt:Nat) (o:Option (List Nat × Nat)) (L:Lx) (tk:Nat→Nat) (s s':Lt) (e:Int) (U:List Nat) (n t:Nat):Zq2 Flow where
  pre:=(fr,dlF w ft lst W tt L.lex o)::(Zq3 w L tk s++[(L.pb,dqO e [])])
  post x:=(fr,dlF4 w (fun j=>x.nat (j + 7)) lst W tt L.lex U (x.nat 6))::(Zq3 w L x.tk s'++[(L.pb,dqO (e + 1) [(S U,x.nat 6)])])
  fresh x:=[]
  tree:=exs [dlS top 0,dlS top 1] (Zjp top fr)
  res _:=.ok .next
  need:=50
  fr:=none
noncomputable def dlB1 (w:Hs) (top:Addr→Option Obj) (exs:List Stmt→Env→Sem Flow) (fr:Addr) (ft:Nat→Nat) (lst:Addr) (W:List Nat) (tt:Nat) (o:Option (List Nat × Nat)) (L:Lx) (tk:Nat→Nat) (s:Lt) (e:Int) (U:List Nat) (tu:Nat) (l:List (Str × Nat)) (n t:Nat):Zq2 Flow where
  pre:=(fr,dlF w ft lst W tt L.lex o)::(Zq3 w L tk s++[(L.pb,dqO e ((S U,tu)::l))])
  post x:=(fr,dlF4 w (fun j=>x.nat (j + 7)) lst W tt L.lex U tu)::(Zq3 w L tk s++[(L.pb,dqO (e + 1 + 1) ((S U,tu)::l))])
  fresh x:=[]
  tree:=exs [dlS top 0,dlS top 1] (Zjp top fr)
  res _:=.ok .next
  need:=50
  fr:=none
noncomputable def geA {α:Type} (ge:Bool) (x y:α):α:=match ge with
  | true=>x
  | false=>y
noncomputable def dlKy (w:Hs) (top:Addr→Option Obj) (ev:Expr→Env→Sem Value) (fr:Addr) (ft:Nat→Nat) (lst:Addr) (W:List Nat) (tt:Nat) (p:Addr) (U:List Nat) (tu:Nat) (right:Bool) (n t:Nat):Zq2 Value where
  pre:=[(fr,dlF4 w ft lst W tt p U tu)]
  post _:=[(fr,dlF4 w ft lst W tt p U tu)]
  fresh _:=[(n + 1,match right with | true=>Zxm n W tt | false=>Zxm n U tu)]
  tree:=ev (match right with | true=>cmpR (ifTst (dlS top 2)) | false=>cmpL (ifTst (dlS top 2))) (Zjp top fr)
  res _:=.ok (.ref (n + 1))
  need:=50
  fr:=none
noncomputable def tcCon (f:Addr) (nm:Str) (v:Bool) (tc:Value→Str→Value→Sem (Option Value)) (a b da db:Addr) (W1 W2:List Nat) (t1 t2:Nat) (n t:Nat):Zq2 (Option Value) where
  pre:=[(a,Zxm da W1 t1),(b,Zxm db W2 t2)]
  post _:=[(a,Zxm da W1 t1),(b,Zxm db W2 t2)]
  fresh _:=[]
  tree:=tc (.ref a) nm (.ref b)
  res _:=.ok (some (.bool v))
  need:=45
  fr:=none
noncomputable def dlP (w:Hs) (top:Addr→Option Obj) (exs:List Stmt→Env→Sem Flow) (fr:Addr) (ft:Nat→Nat) (lst:Addr) (W:List Nat) (tt:Nat) (L:Lx) (tk:Nat→Nat) (s:Lt) (e:Int) (U:List Nat) (tu:Nat) (l:List (Str × Nat)) (n t:Nat):Zq2 Flow where
  pre:=(fr,dlF4 w ft lst W tt L.lex U tu)::(Zq3 w L tk s++[(L.pb,dqO e l)])
  post x:=(fr,dlF4 w ft lst W tt L.lex U tu)::(Zq3 w L tk s++[(L.pb,dqO (e + 1) ((S W,tt)::l))])
  fresh x:=[]
  tree:=exs (ifBody (dlS top 2)) (Zjp top fr)
  res _:=.ok (.ret (.ref lst))
  need:=50
  fr:=none
noncomputable def ptFamP (w:Hs) (L:Lx) (tk:Nat→Nat) (s:Lt) (e:Int) (W:List Nat) (tt:Nat) (l:List (Str × Nat)):Fam:=fun n t _ _ _=>Zz9 w L tk s e (e + 1) (S W) tt l n t
noncomputable abbrev Zv0:Value→Str→Value→Sem (Option Value):=W.ZFast.zw3989567798202555795
theorem tryCompareZ_eq:Zv0 = tryCompare:=W.ZFast.ze3989567798202555795.symm
noncomputable def orc_DA:List Nat:=Zxh 16 53 0x4321052063400004000400046660543215104500005000500051
noncomputable def orc_DKl:List Nat:=[0,1,0,0,1,0,0]
noncomputable def orc_TC:List Nat:=[1,0,0,0,0,1,2,0,1,0]
noncomputable def orc_DLP:List Nat:=Zxh 16 27 0x605432151014500005000500051
theorem DA3_v (prog:Program) (w:World) (b:Bool) (R:RO) (fr:Addr) (ft:Nat→Nat) (lst:Addr) (W:List Nat) (tt:Nat) (L:Lx) (tk:Nat→Nat) (p:Nat) (z:Str) (ln:Int) (p':Nat) (st':Option Str) (ln':Int) (e:Int) (U:List Nat) (n t:Nat) (f:Nat→Ext) :
    Zqh [5,0,1,2,3,4] [] (dlA1 (hz (wb w b)) (Zqd R (wb w b)) Zqm fr ft lst W tt none L tk ⟨p,some z,ln⟩ ⟨p',st',ln'⟩ e U n t) dlEx [] (Zzz (T3 R) prog (wb w b) n t [] [dgFam (hz (wb w b)) L ⟨p,some z,ln⟩ ⟨p',st',ln'⟩ e U,ptFam0 (hz (wb w b)) L ⟨p',st',ln'⟩ e U] (dlA1 (hz (wb w b)) (Zqd R (wb w b)) Zqm fr ft lst W tt none L tk ⟨p,some z,ln⟩ ⟨p',st',ln'⟩ e U n t) orc_DA f):=by cases b <;> cases st' <;> kernel_rfl
theorem DB3_v (prog:Program) (w:World) (b:Bool) (R:RO) (fr:Addr) (ft:Nat→Nat) (lst:Addr) (W:List Nat) (tt:Nat) (L:Lx) (tk:Nat→Nat) (p:Nat) (st:Option Str) (ln:Int) (e:Int) (U:List Nat) (tu:Nat) (y:List (Str × Nat)) (n t:Nat) (f:Nat→Ext) :
    Zqh [5,0,1,2,3,4] [] (dlB1 (hz (wb w b)) (Zqd R (wb w b)) Zqm fr ft lst W tt none L tk ⟨p,st,ln⟩ e U tu y n t) dlEx [] (Zzz (T3 R) prog (wb w b) n t [] [dpFam (hz (wb w b)) L tk ⟨p,st,ln⟩ e U tu y,ptFamB (hz (wb w b)) L tk ⟨p,st,ln⟩ (e + 1) U tu y] (dlB1 (hz (wb w b)) (Zqd R (wb w b)) Zqm fr ft lst W tt none L tk ⟨p,st,ln⟩ e U tu y n t) orc_DA f):=by cases b <;> cases st <;> kernel_rfl
theorem DA4_v (prog:Program) (w:World) (b:Bool) (R:RO) (fr:Addr) (ft:Nat→Nat) (lst:Addr) (W:List Nat) (tt:Nat) (u:List Nat × Nat) (L:Lx) (tk:Nat→Nat) (p:Nat) (z:Str) (ln:Int) (p':Nat) (st':Option Str) (ln':Int) (e:Int) (U:List Nat) (n t:Nat) (f:Nat→Ext) :
    Zqh [5,0,1,2,3,4] [] (dlA1 (hz (wb w b)) (Zqd R (wb w b)) Zqm fr ft lst W tt (some u) L tk ⟨p,some z,ln⟩ ⟨p',st',ln'⟩ e U n t) dlEx [] (Zzz (T3 R) prog (wb w b) n t [] [dgFam (hz (wb w b)) L ⟨p,some z,ln⟩ ⟨p',st',ln'⟩ e U,ptFam0 (hz (wb w b)) L ⟨p',st',ln'⟩ e U] (dlA1 (hz (wb w b)) (Zqd R (wb w b)) Zqm fr ft lst W tt (some u) L tk ⟨p,some z,ln⟩ ⟨p',st',ln'⟩ e U n t) orc_DA f):=by cases b <;> cases st' <;> kernel_rfl
theorem DB4_v (prog:Program) (w:World) (b:Bool) (R:RO) (fr:Addr) (ft:Nat→Nat) (lst:Addr) (W:List Nat) (tt:Nat) (u:List Nat × Nat) (L:Lx) (tk:Nat→Nat) (p:Nat) (st:Option Str) (ln:Int) (e:Int) (U:List Nat) (tu:Nat) (y:List (Str × Nat)) (n t:Nat) (f:Nat→Ext) :
    Zqh [5,0,1,2,3,4] [] (dlB1 (hz (wb w b)) (Zqd R (wb w b)) Zqm fr ft lst W tt (some u) L tk ⟨p,st,ln⟩ e U tu y n t) dlEx [] (Zzz (T3 R) prog (wb w b) n t [] [dpFam (hz (wb w b)) L tk ⟨p,st,ln⟩ e U tu y,ptFamB (hz (wb w b)) L tk ⟨p,st,ln⟩ (e + 1) U tu y] (dlB1 (hz (wb w b)) (Zqd R (wb w b)) Zqm fr ft lst W tt (some u) L tk ⟨p,st,ln⟩ e U tu y n t) orc_DA f):=by cases b <;> cases st <;> kernel_rfl
theorem DK_v (prog:Program) (w:World) (b:Bool) (R:RO) (fr:Addr) (ft:Nat→Nat) (lst:Addr) (W:List Nat) (tt:Nat) (p:Addr) (U:List Nat) (tu:Nat) (right:Bool) (n t:Nat) (f:Nat→Ext) :
    Zqh [0,1] [] (dlKy (hz (wb w b)) (Zqd R (wb w b)) Zq9 fr ft lst W tt p U tu right n t) (fun _ _ _=>exN fun _=>0) [] (Zzz (T3 R) prog (wb w b) n t [] [kyFam (match right with | true=>W | false=>U)] (dlKy (hz (wb w b)) (Zqd R (wb w b)) Zq9 fr ft lst W tt p U tu right n t) orc_DKl f):=by cases b <;> cases right <;> kernel_rfl
theorem TC_v (prog:Program) (w:World) (b:Bool) (R:RO) (ge v:Bool) (x y dx dy:Addr) (W1 W2:List Nat) (t1 t2 n t:Nat) (f:Nat→Ext) :
    Zqh [0,1] [] (tcCon (geA ge 900 868) (geA ge ("__ge__" : Str) "__lt__") v Zv0 x y dx dy W1 W2 t1 t2 n t) (fun _ _ _=>exN fun _=>0) [] (Zzz (T3 R) prog (wb w b) n t [] [cmFam (geA ge 900 868) v W1 W2] (tcCon (geA ge 900 868) (geA ge ("__ge__" : Str) "__lt__") v Zv0 x y dx dy W1 W2 t1 t2 n t) orc_TC f):=by cases b <;> cases ge <;> kernel_rfl
theorem DLP_v (prog:Program) (w:World) (b:Bool) (R:RO) (fr:Addr) (ft:Nat→Nat) (lst:Addr) (W:List Nat) (tt:Nat) (L:Lx) (tk:Nat→Nat) (p:Nat) (st:Option Str) (ln:Int) (e:Int) (U:List Nat) (tu:Nat) (y:List (Str × Nat)) (n t:Nat) (f:Nat→Ext) :
    Zqh [5,0,1,2,3,4] [] (dlP (hz (wb w b)) (Zqd R (wb w b)) Zqm fr ft lst W tt L tk ⟨p,st,ln⟩ e U tu y n t) (fun _ _ _=>exN fun _=>0) [] (Zzz (T3 R) prog (wb w b) n t [] [ptFamP (hz (wb w b)) L tk ⟨p,st,ln⟩ e W tt y] (dlP (hz (wb w b)) (Zqd R (wb w b)) Zqm fr ft lst W tt L tk ⟨p,st,ln⟩ e U tu y n t) orc_DLP f):=by cases b <;> cases st <;> kernel_rfl
noncomputable def orc_PILE:List Nat:=Zxh 16 894 0xdccc0b000b0b00b0000bddd00000accc0b000b0b00b0000baaaaaccc0b000b0b00b0000baccc0b000b0b00b0000ba1110101100000bbb0a000a0a00a0000a9bbb0a000a0a00a0000a9bbb0a000a0a00a0000a9bbb0a000a0a00a0000a91110101100000aaa09000909009000098aaa09000909009000098aaa09000909009000098aaa09000909009000098aaa09000909009000098aaa09000909009000098aaa0900090900900009000a099000900000980a09900090000098aaa09000909009000098aaa09000909009000098aaa090009090090000988aaa090009090090000988aaa090009090090000988aaa09000909009000098888844403000000030300300000000321000010000111140330000000300000000031111100001320000200000002000000021133302000000020200200000000213330200000002020020000000021333020000000202002000000002110000100100001000011000010011111110000000010100000000000000000000000000000000000000010000010001111111000000000000000000000000000000000000100000001001111111111000000001010000000000000000000000000000000000001011000
theorem PILE_v (prog:Program) (w:World) (b:Bool) (text:List Nat) (tt n t:Nat) (f:Nat→Ext) :
    Zq6 [5,4,11,10,1,0] (pileCon (hz (wb w b)) text tt n t) newEx Zq8 []
      (Zzs T2 prog (wb w b) n t [] [] (pileCon (hz (wb w b)) text tt n t) orc_PILE f):=by cases b <;> kernel_rfl
theorem pile_ok {prog:Program} {w:World} {b:Bool} (text:List Nat) (tt n t:Nat):Zq1 T2 prog (wb w b) n t (pileCon (hz (wb w b)) text tt n t) :=
  Zqb (tk:=fun _=>newEx) (sl:=fun _=>Zq8) Zqq (fun _=>rfl) rfl (PILE_v prog w b text tt n t) fun f q hq=>nomatch hq
section
variable {prog:Program} {w:World} {b:Bool} {R:RO}
theorem ladd_ok {T:Params→Addr→Option Obj} {w:World} {a b:Addr} {xs ys:List Value} {e1 e2 n t:Nat} (hsz:xs.length + ys.length≤sizeLine):Zq1 T prog w n t (laddCon a b xs ys e1 e2 n):=by
  refine ⟨fun h₀ h r g A R G hA O hs hR=>?_⟩
  refine codeAny_builtin F.entry_list_add ?_
  rw [Around.under_plainId (by decide +kernel)]
  have O:Own h₀ [(a,Zqz xs e1),(b,Zqz ys e2)] h:=O
  refine AutoSeq1.list___add___list_list_0 a ⟨xs⟩ e1 b ⟨ys⟩ e2 (by simpa using hsz) prog w A R _ ⟨O.own (a,_) (.head _),O.own (b,_) (.tail _ (.head _)),?_⟩
  have O':=O.push (Zqz (xs++ys) 0) rfl
  have e:({ cls:=Value.type "list",data:=Data.seq ((⟨xs⟩:Array Value)++⟨ys⟩) }:Obj) = Zqz (xs++ys) 0:=by simp [Zqz]
  have fin:=hR ⟨fun j=>match j with | 0=>1 | _=>0,fun _=>#[],fun _ _ _=>0,Ext.nil.ob⟩ (h.push (Zqz (xs++ys) 0)) g (by rw [hs] at O'; exact O') (by rw [Heap.size_push,hs]; rfl) (Zq5.refl _ _)
  show R (.ok (.ret (.ref h.objs.size))) _
  rw [e,hs]
  exact fin
theorem dp_ok (lst:Addr) (W:List Nat) (tt n t:Nat):Zqn (T3 R) prog (wb w b) n t (dlPrep (hz (wb w b)) (Zqd R (wb w b)) Zjw lst W tt n t) :=
  Zqw (ex:=fun _=>dlPEx) Zqq rfl rfl (DP_v prog w b R lst W tt n t) fun f q hq=>nomatch hq
theorem di_ok (fr:Addr) (ft:Nat→Nat) (lst:Addr) (W:List Nat) (tt:Nat) (its:List Value) (ep n t:Nat):Zqn (T3 R) prog (wb w b) n t (dlIt (hz (wb w b)) (Zqd R (wb w b)) Zq9 fsiZ Zjq fr ft lst W tt its ep n t) :=
  Zqw (ex:=fun _ _ _ _=>exN fun _=>0) Zqq rfl rfl (DI_v prog w b R fr ft lst W tt its ep n t) fun f q hq=>nomatch hq
theorem ds_ok (fr:Addr) (ft:Nat→Nat) (lst:Addr) (W:List Nat) (tt:Nat) (o:Option (Addr × Option (List Nat × Nat))) (p n t:Nat):Zqn (T3 R) prog (wb w b) n t (dlAs (hz (wb w b)) (Zqd R (wb w b)) Zqg fr ft lst W tt o p n t):=by
  cases o with
  | none=>exact Zqw (ex:=fun _=>dlAEx) Zqq rfl rfl (DS2_v prog w b R fr ft lst W tt p n t) fun f q hq=>nomatch hq
  | some q =>
    obtain ⟨q,u⟩:=q
    cases u with
    | none=>exact Zqw (ex:=fun _=>dlAEx) Zqq rfl rfl (DS3_v prog w b R fr ft lst W tt q p n t) fun f q hq=>nomatch hq
    | some u=>exact Zqw (ex:=fun _=>dlAEx) Zqq rfl rfl (DS4_v prog w b R fr ft lst W tt q u p n t) fun f q hq=>nomatch hq
theorem cmFam_ok (hR:R.small) {W1 W2:List Nat} {r1 r2:Int} (h1:Zxd R W1 r1) (h2:Zxd R W2 r2) {v:Bool} (hv:v = decide (r2≤r1)) (n t:Nat) (c:Code) (l:List (Option (Addr × Obj))) (bb:List (Option Bag)):Zq1 (T3 R) prog (wb w b) n t (cmFam 900 v W1 W2 n t c l bb):=by
  subst hv
  exact cm_ok hR h1 h2 true _ _ _ _ _ _ n t
theorem da1_ok (fr:Addr) (ft:Nat→Nat) (lst:Addr) (W:List Nat) (tt:Nat) (o:Option (List Nat × Nat)) {L:Lx} (tk:Nat→Nat) {p:Nat} {z:Str} {ln:Int} {s':Lt} {U:List Nat} (h:RtOk prog w b L ⟨p,some z,ln⟩ s' (some (S U))) (e:Int) (n t:Nat) :
    Zqn (T3 R) prog (wb w b) n t (dlA1 (hz (wb w b)) (Zqd R (wb w b)) Zqm fr ft lst W tt o L tk ⟨p,some z,ln⟩ s' e U n t):=by
  obtain ⟨p',st',ln'⟩:=s'
  have hC:Zx1 (T3 R) prog (wb w b) [dgFam (hz (wb w b)) L ⟨p,some z,ln⟩ ⟨p',st',ln'⟩ e U,ptFam0 (hz (wb w b)) L ⟨p',st',ln'⟩ e U] :=
    Zqx (fun _ _ _ _ _=>(gt_ok h _ _ _ _).up R) (Zqx (fun _ _ _ _ _=>(pt_ok _ _ _ _ _ _ _ [] (by simp)).up R) Zqq)
  cases o with
  | none=>exact Zqw (ex:=fun _=>dlEx) hC rfl rfl (DA3_v prog w b R fr ft lst W tt L tk p z ln p' st' ln' e U n t) fun f q hq=>nomatch hq
  | some u=>exact Zqw (ex:=fun _=>dlEx) hC rfl rfl (DA4_v prog w b R fr ft lst W tt u L tk p z ln p' st' ln' e U n t) fun f q hq=>nomatch hq
theorem db1_ok (fr:Addr) (ft:Nat→Nat) (lst:Addr) (W:List Nat) (tt:Nat) (o:Option (List Nat × Nat)) {L:Lx} (tk:Nat→Nat) (s:Lt) (e:Int) (U:List Nat) (tu:Nat) (y:List (Str × Nat)) (hy:y.length < 20) (n t:Nat) :
    Zqn (T3 R) prog (wb w b) n t (dlB1 (hz (wb w b)) (Zqd R (wb w b)) Zqm fr ft lst W tt o L tk s e U tu y n t):=by
  obtain ⟨p,st,ln⟩:=s
  have hC:Zx1 (T3 R) prog (wb w b) [dpFam (hz (wb w b)) L tk ⟨p,st,ln⟩ e U tu y,ptFamB (hz (wb w b)) L tk ⟨p,st,ln⟩ (e + 1) U tu y] :=
    Zqx (fun _ _ _ _ _=>(gp_ok _ _ _ _ _ _ _ _ (by lia)).up R) (Zqx (fun _ _ _ _ _=>(pt_ok _ _ _ _ _ _ _ _ (by lia)).up R) Zqq)
  cases o with
  | none=>exact Zqw (ex:=fun _=>dlEx) hC rfl rfl (DB3_v prog w b R fr ft lst W tt L tk p st ln e U tu y n t) fun f q hq=>nomatch hq
  | some u=>exact Zqw (ex:=fun _=>dlEx) hC rfl rfl (DB4_v prog w b R fr ft lst W tt u L tk p st ln e U tu y n t) fun f q hq=>nomatch hq
theorem dk_ok (fr:Addr) (ft:Nat→Nat) (lst:Addr) (W:List Nat) (tt:Nat) (p:Addr) (U:List Nat) (tu:Nat) (right:Bool) (n t:Nat) :
    Zqn (T3 R) prog (wb w b) n t (dlKy (hz (wb w b)) (Zqd R (wb w b)) Zq9 fr ft lst W tt p U tu right n t) :=
  Zqw (ex:=fun _ _ _ _=>exN fun _=>0) (Zqx (fun _ _ _ _ _=>ky_ok _ _ _ _) Zqq) rfl rfl (DK_v prog w b R fr ft lst W tt p U tu right n t) fun f q hq=>nomatch hq
theorem dp2_ok (fr:Addr) (ft:Nat→Nat) (lst:Addr) (W:List Nat) (tt:Nat) (L:Lx) (tk:Nat→Nat) (s:Lt) (e:Int) (U:List Nat) (tu:Nat) (y:List (Str × Nat)) (hy:y.length < 21) (n t:Nat) :
    Zqn (T3 R) prog (wb w b) n t (dlP (hz (wb w b)) (Zqd R (wb w b)) Zqm fr ft lst W tt L tk s e U tu y n t):=by
  obtain ⟨p,st,ln⟩:=s
  exact Zqw (ex:=fun _ _ _ _=>exN fun _=>0) (Zqx (fun _ _ _ _ _=>(pt_ok _ _ _ _ _ _ _ _ (by lia)).up R) Zqq) rfl rfl (DLP_v prog w b R fr ft lst W tt L tk p st ln e U tu y n t) fun f q hq=>nomatch hq
theorem tc_ok (hR:R.small) {W1 W2:List Nat} {r1 r2:Int} (h1:Zxd R W1 r1) (h2:Zxd R W2 r2) (ge:Bool) (x y dx dy t1 t2 n t:Nat) :
    Zqn (T3 R) prog (wb w b) n t (tcCon (geA ge 900 868) (geA ge ("__ge__" : Str) "__lt__") (geA ge (decide (r2≤r1)) (decide (r1 < r2))) Zv0 x y dx dy W1 W2 t1 t2 n t):=by
  refine Zqw (ex:=fun _ _ _ _=>exN fun _=>0) (Zqx (fun n t c l bb=>?_) Zqq) rfl rfl (TC_v prog w b R ge (geA ge (decide (r2≤r1)) (decide (r1 < r2))) x y dx dy W1 W2 t1 t2 n t) fun f q hq=>nomatch hq
  cases ge with
  | true=>exact cm_ok hR h1 h2 true _ _ _ _ _ _ n t
  | false=>exact cm_ok hR h1 h2 false _ _ _ _ _ _ n t
theorem rc_ok (hR:R.small) {W1 W2:List Nat} {r1 r2:Int} (h1:Zxd R W1 r1) (h2:Zxd R W2 r2) (ge:Bool) {A:Around} (hA:AOk A none 45) {h₀ h:Heap} (G:Ground (T3 R) (wb w b) h₀) {r:Zkc} {t:Nat} {g:Array GenState} {x y dx dy t1 t2:Nat} {l:List (Addr × Obj)} {Q:Value→Shared→Prop} {E:Value→Shared→Prop}
    (O:Own h₀ ((x,Zxm dx W1 t1)::(y,Zxm dy W2 t2)::l) h)
    (hQ:∀ h' t' g',Own h₀ ((x,Zxm dx W1 t1)::(y,Zxm dy W2 t2)::l) h'→h.objs.size≤h'.objs.size→t≤t'→Zq5 true g g'→Q (.bool (geA ge (decide (r2≤r1)) (decide (r1 < r2)))) (r.at h' ⟨t',g'⟩)) :
    wpAny (model prog (wb w b)) A (richCompare (geA ge CmpOp.GtE .Lt) (.ref x) (.ref y)) Q E (r.at h ⟨t,g⟩):=by
  unfold richCompare
  simp only [oneThing_ref]
  refine wpAny_holding (wpAny_bind (wpAny_cRoomFor (Nat.lt_of_le_of_lt (Nat.le_add_right _ _) hA.units) ?_))
  have hc:cmpInfo (geA ge CmpOp.GtE .Lt) = (geA ge ">=" "<",geA ge ("__ge__" : Str) "__lt__",geA ge ("__le__" : Str) "__gt__"):=by cases ge <;> rfl
  rw [hc]
  dsimp only
  refine wpAny_bind (wpAny_typeOf_ref (O.own (x,Zxm dx W1 t1) (.head _)) (wpAny_bind (wpAny_typeOf_ref (O.own (y,Zxm dy W2 t2) (.tail _ (.head _))) ?_)))
  rw [show ((Zxm dx W1 t1).cls != (Zxm dy W2 t2).cls) = false from by simp [Zxm]]
  simp only [Bool.false_eq_true,if_false]
  refine wpAny_bind (wpAny_pure (wpAny_bind ?_))
  rw [← tryCompareZ_eq]
  refine (tc_ok hR h1 h2 ge x y dx dy t1 t2 h.objs.size t).use (rest:=l) G hA O (by
    simp only [Zq2.preA,tcCon,Zqr]
    exact .refl _) rfl fun z h' g' O' hs' gr=>?_
  exact wpAny_pure (hQ h' _ g' O' (by lia) (by lia) gr)
theorem body3:dlBody (Zqd R (wb w b)) = [dlS (Zqd R (wb w b)) 0,dlS (Zqd R (wb w b)) 1,dlS (Zqd R (wb w b)) 2]:=by cases b <;> kernel_rfl
theorem if917:dlS (Zqd R (wb w b)) 2 = .If (.Compare (cmpL (ifTst (dlS (Zqd R (wb w b)) 2))) [.GtE] [cmpR (ifTst (dlS (Zqd R (wb w b)) 2))] (cmpPos (ifTst (dlS (Zqd R (wb w b)) 2)))) (ifBody (dlS (Zqd R (wb w b)) 2)) [] (ifPos (dlS (Zqd R (wb w b)) 2)):=by cases b <;> kernel_rfl
theorem marks917:behindInMarks .GtE (cmpR (ifTst (dlS (Zqd R (wb w b)) 2))) = false:=by cases b <;> kernel_rfl
theorem dl_if (hR:R.small) {W U:List Nat} {rW rU:Int} (hW:Zxd R W rW) (hU:Zxd R U rU) {fr lst:Addr} {ft:Nat→Nat} {tt:Nat} {L:Lx} {tk:Nat→Nat} {s:Lt} {e:Int} {tu:Nat} {y:List (Str × Nat)} (hy:y.length < 21) {A:Around} (hA:AOk A none 50)
    {h₀ h:Heap} (G:Ground (T3 R) (wb w b) h₀) {r:Zkc} {t:Nat} {g:Array GenState} {Q:Flow→Shared→Prop} {E:Value→Shared→Prop}
    (O:Own h₀ ((fr,dlF4 (hz (wb w b)) ft lst W tt L.lex U tu)::(Zq3 (hz (wb w b)) L tk s++[(L.pb,dqO e y)])) h)
    (hQ:∀ h' t' g',Own h₀ ((fr,dlF4 (hz (wb w b)) ft lst W tt L.lex U tu)::(Zq3 (hz (wb w b)) L tk s++[(L.pb,match decide (rW≤rU) with | true=>dqO (e + 1) ((S W,tt)::y) | false=>dqO e y)])) h'→h.objs.size≤h'.objs.size→t≤t'→Zq5 true g g' →
      Q (match decide (rW≤rU) with | true=>.ret (.ref lst) | false=>.next) (r.at h' ⟨t',g'⟩)) :
    wpAny (model prog (wb w b)) A (execs [dlS (Zqd R (wb w b)) 2] (Zjp (Zqd R (wb w b)) fr)) Q E (r.at h ⟨t,g⟩):=by
  have tkL:∀ n t,(dlKy (hz (wb w b)) (Zqd R (wb w b)) Zq9 fr ft lst W tt L.lex U tu false n t).tree = eval (cmpL (ifTst (dlS (Zqd R (wb w b)) 2))) (Zjp (Zqd R (wb w b)) fr):=fun n t=>by
    unfold dlKy; dsimp only; rw [Zzx]
  have tkR:∀ n t,(dlKy (hz (wb w b)) (Zqd R (wb w b)) Zq9 fr ft lst W tt L.lex U tu true n t).tree = eval (cmpR (ifTst (dlS (Zqd R (wb w b)) 2))) (Zjp (Zqd R (wb w b)) fr):=fun n t=>by
    unfold dlKy; dsimp only; rw [Zzx]
  have tkP:∀ n t,(dlP (hz (wb w b)) (Zqd R (wb w b)) Zqm fr ft lst W tt L tk s e U tu y n t).tree = execs (ifBody (dlS (Zqd R (wb w b)) 2)) (Zjp (Zqd R (wb w b)) fr):=fun n t=>by
    unfold dlP; dsimp only; rw [Zzm]
  have hif:=if917 (R:=R) (w:=w) (b:=b)
  have hmk:=marks917 (R:=R) (w:=w) (b:=b)
  generalize cmpL (ifTst (dlS (Zqd R (wb w b)) 2)) = eL at tkL hif
  generalize cmpR (ifTst (dlS (Zqd R (wb w b)) 2)) = eR at tkR hif hmk
  generalize ifBody (dlS (Zqd R (wb w b)) 2) = eB at tkP hif
  generalize Zjp (Zqd R (wb w b)) fr = env at tkL tkR tkP ⊢
  generalize cmpPos (ifTst (dlS (Zqd R (wb w b)) 2)) = pc at hif
  generalize ifPos (dlS (Zqd R (wb w b)) 2) = pi at hif
  rw [hif,Zj4]
  refine wpAny_If (wpAny_isTrue_Compare1 ?_ hmk)
  rw [← tkL h.objs.size t]
  refine (dk_ok fr ft lst W tt L.lex U tu false h.objs.size t).use (rest:=Zq3 (hz (wb w b)) L tk s++[(L.pb,dqO e y)]) G hA O (by
    simp only [Zq2.preA,dlKy,Zqr]
    exact .refl _) rfl fun x1 h1 g1 O1 hs1 gr1=>?_
  show wpAny _ A (eval eR env) _ _ _
  rw [← tkR h1.objs.size (t + x1.nat 1)]
  refine (dk_ok fr ft lst W tt L.lex U tu true h1.objs.size (t + x1.nat 1)).use (rest:=(h.objs.size + 1,Zxm h.objs.size U tu)::(Zq3 (hz (wb w b)) L tk s++[(L.pb,dqO e y)])) G hA O1 (by
    simp only [Zq2.preA,Zq2.postA,dlKy,Zqr]
    (refine Zqv fun _=>?_; simp +arith only [Zqj,Zqk,Zqc])) rfl fun x2 h2 g2 O2 hs2 gr2=>?_
  refine rc_ok hR hU hW true (x:=h.objs.size + 1) (y:=h1.objs.size + 1) (dx:=h.objs.size) (dy:=h1.objs.size) (t1:=tu) (t2:=tt) (l:=(fr,dlF4 (hz (wb w b)) ft lst W tt L.lex U tu)::(Zq3 (hz (wb w b)) L tk s++[(L.pb,dqO e y)])) (hA.le (by lia)) G (O2.perm (by
    simp only [Zq2.postA,dlKy,Zqr]
    (refine Zqv fun _=>?_; simp +arith only [Zqj,Zqk,Zqc]))) fun h3 t3 g3 O3 hs3 ht3 gr3=>?_
  refine wpAny_truthy_bool ?_
  have gr:=Zq5.trans (d:=true) (Zq5.trans (d:=true) gr1 gr2 fun e=>Bool.noConfusion e) gr3 fun e=>Bool.noConfusion e
  have hs1:h1.objs.size = h.objs.size + x1.nat 0:=hs1
  have hs2:h2.objs.size = h1.objs.size + x2.nat 0:=hs2
  cases hv:decide (rW≤rU) with
  | false =>
    rw [hv] at hQ
    refine wpAny_execs_nil (hQ h3 t3 g3 (Own.drop (r:=[(h.objs.size + 1,Zxm h.objs.size U tu),(h1.objs.size + 1,Zxm h1.objs.size W tt)]) (O3.perm (by (refine Zqv fun _=>?_; simp +arith only [Zqj,Zqk,Zqc])))) (by lia) (by lia) gr)
  | true =>
    rw [hv] at hQ
    rw [← tkP h3.objs.size t3]
    refine (dp2_ok fr ft lst W tt L tk s e U tu y hy h3.objs.size t3).use (rest:=[(h.objs.size + 1,Zxm h.objs.size U tu),(h1.objs.size + 1,Zxm h1.objs.size W tt)]) G hA O3 (by
      simp only [Zq2.preA,dlP,Zqr]
      (refine Zqv fun _=>?_; simp +arith only [Zqj,Zqk,Zqc])) rfl fun x4 h4 g4 O4 hs4 gr4=>?_
    have hs4:h4.objs.size = h3.objs.size + x4.nat 0:=hs4
    exact hQ h4 _ g4 (Own.drop (r:=[(h.objs.size + 1,Zxm h.objs.size U tu),(h1.objs.size + 1,Zxm h1.objs.size W tt)]) (O4.perm (by
      simp only [Zq2.postA,dlP,Zqr]
      (refine Zqv fun _=>?_; simp +arith only [Zqj,Zqk,Zqc])))) (by lia) (by lia) (Zq5.trans (d:=true) gr gr4 fun e=>Bool.noConfusion e)
theorem body3_split (a0 a1 a2:Stmt) (env:Env):execs [a0,a1,a2] env = (execs [a0,a1] env >>= fun f=>match f with | .next=>execs [a2] env | f=>pure f):=by
  rw [Zz7,Zz7 a0 [a1],Zj4,bind_assoc]
  refine congrArg _ (funext fun f=>?_)
  cases f with
  | next=>exact Zz7 a1 [a2] env
  | _=>rfl
theorem da_ok (hR:R.small) {W U:List Nat} {rW rU:Int} (hW:Zxd R W rW) (hU:Zxd R U rU) (fr:Addr) (ft:Nat→Nat) (lst:Addr) (tt:Nat) (o:Option (List Nat × Nat)) {L:Lx} (tk:Nat→Nat) {p:Nat} {z:Str} {ln:Int} {s':Lt} (h:RtOk prog w b L ⟨p,some z,ln⟩ s' (some (S U))) (e:Int) {v:Bool} (hv:v = decide (rW≤rU)) (n t:Nat) :
    Zqn (T3 R) prog (wb w b) n t (dlA (hz (wb w b)) (Zqd R (wb w b)) Zqm fr ft lst W tt o L tk ⟨p,some z,ln⟩ s' e U v n t):=by
  subst hv
  refine ⟨fun h₀ hh r g A Q E G hA O hs hR'=>?_⟩
  have hA:AOk A none 60:=hA
  show wpAny _ A (Zqm (dlBody (Zqd R (wb w b))) (Zjp (Zqd R (wb w b)) fr)) _ _ _
  have e1:(dlA1 (hz (wb w b)) (Zqd R (wb w b)) Zqm fr ft lst W tt o L tk ⟨p,some z,ln⟩ s' e U n t).tree = execs [dlS (Zqd R (wb w b)) 0,dlS (Zqd R (wb w b)) 1] (Zjp (Zqd R (wb w b)) fr):=by
    unfold dlA1; dsimp only; rw [Zzm]
  rw [Zzm,body3,body3_split,← e1]
  refine wpAny_bind ((da1_ok fr ft lst W tt o tk h e n t).use (rest:=[]) G (hA.le (by show 50≤60; lia)) O (by
    rw [List.append_nil]; exact .refl _) hs fun x h1 g1 O1 hs1 gr1=>?_)
  show wpAny _ A (execs [dlS (Zqd R (wb w b)) 2] (Zjp (Zqd R (wb w b)) fr)) _ _ _
  have hs1:h1.objs.size = n + x.nat 0:=hs1
  refine dl_if hR hW hU (fr:=fr) (ft:=fun j=>x.nat (j + 7)) (lst:=lst) (tt:=tt) (L:=L) (tk:=x.tk) (s:=s') (e:=e + 1) (tu:=x.nat 6) (y:=[(S U,x.nat 6)]) (by simp) (hA.le (by lia)) G (O1.perm (by
    simp only [Zq2.postA,dlA1,Zqr]
    (refine Zqv fun _=>?_; simp +arith only [Zqj,Zqk,Zqc]))) fun h2 t2 g2 O2 hs2 ht2 gr2=>?_
  have fin:=hR' ⟨fun j=>match j with | 0=>h2.objs.size - n | 1=>t2 - t | j=>x.nat j,fun _=>#[],fun _ _ _=>0,Ext.nil.ob⟩ h2 g2 (by
    simp only [Zq2.postA,dlA,Zqr,List.append_nil,List.nil_append]
    exact O2) (by show h2.objs.size = n + (h2.objs.size - n); lia) (Zq5.trans (d:=true) gr1 gr2 fun e=>Bool.noConfusion e)
  have et:t + (t2 - t) = t2:=by lia
  change endR Q E _ (r.at h2 ⟨t + (t2 - t),g2⟩) at fin
  rw [et] at fin
  exact fin
theorem db_ok (hR:R.small) {W U:List Nat} {rW rU:Int} (hW:Zxd R W rW) (hU:Zxd R U rU) (fr:Addr) (ft:Nat→Nat) (lst:Addr) (tt:Nat) (o:Option (List Nat × Nat)) {L:Lx} (tk:Nat→Nat) (s:Lt) (e:Int) (tu:Nat) (y:List (Str × Nat)) (hy:y.length < 20) {v:Bool} (hv:v = decide (rW≤rU)) (n t:Nat) :
    Zqn (T3 R) prog (wb w b) n t (dlB (hz (wb w b)) (Zqd R (wb w b)) Zqm fr ft lst W tt o L tk s e U tu y v n t):=by
  subst hv
  refine ⟨fun h₀ hh r g A Q E G hA O hs hR'=>?_⟩
  have hA:AOk A none 60:=hA
  show wpAny _ A (Zqm (dlBody (Zqd R (wb w b))) (Zjp (Zqd R (wb w b)) fr)) _ _ _
  have e1:(dlB1 (hz (wb w b)) (Zqd R (wb w b)) Zqm fr ft lst W tt o L tk s e U tu y n t).tree = execs [dlS (Zqd R (wb w b)) 0,dlS (Zqd R (wb w b)) 1] (Zjp (Zqd R (wb w b)) fr):=by
    unfold dlB1; dsimp only; rw [Zzm]
  rw [Zzm,body3,body3_split,← e1]
  refine wpAny_bind ((db1_ok fr ft lst W tt o tk s e U tu y hy n t).use (rest:=[]) G (hA.le (by show 50≤60; lia)) O (by
    rw [List.append_nil]; exact .refl _) hs fun x h1 g1 O1 hs1 gr1=>?_)
  show wpAny _ A (execs [dlS (Zqd R (wb w b)) 2] (Zjp (Zqd R (wb w b)) fr)) _ _ _
  have hs1:h1.objs.size = n + x.nat 0:=hs1
  refine dl_if hR hW hU (fr:=fr) (ft:=fun j=>x.nat (j + 7)) (lst:=lst) (tt:=tt) (L:=L) (tk:=tk) (s:=s) (e:=e + 1 + 1) (tu:=tu) (y:=(S U,tu)::y) (by simp; lia) (hA.le (by lia)) G (O1.perm (by
    simp only [Zq2.postA,dlB1,Zqr]
    (refine Zqv fun _=>?_; simp +arith only [Zqj,Zqk,Zqc]))) fun h2 t2 g2 O2 hs2 ht2 gr2=>?_
  have fin:=hR' ⟨fun j=>match j with | 0=>h2.objs.size - n | 1=>t2 - t | j=>x.nat j,fun _=>#[],fun _ _ _=>0,Ext.nil.ob⟩ h2 g2 (by
    simp only [Zq2.postA,dlB,Zqr,List.append_nil,List.nil_append]
    exact O2) (by show h2.objs.size = n + (h2.objs.size - n); lia) (Zq5.trans (d:=true) gr1 gr2 fun e=>Bool.noConfusion e)
  have et:t + (t2 - t) = t2:=by lia
  change endR Q E _ (r.at h2 ⟨t + (t2 - t),g2⟩) at fin
  rw [et] at fin
  exact fin
theorem join1_ok {W q:List Nat} (hq:QuOk prog w b W q) (hj:JoinOk " " [S q] = true) (u:Nat) (lst:Addr) (ep:Nat) (tb:Option Addr) (n t:Nat):Zq1 T2 prog (wb w b) n t (joinCon1 W q u lst ep tb) :=
  join_ok (ws:=[W]) (qs:=[q]) rfl (fun i wd q' h1 h2=>by
    match i with
    | 0=>cases h1; cases h2; exact hq
    | i + 1=>cases h1) hj (show 1≤sizeLine by decide +kernel) (fun _=>u) lst ep tb n t
theorem dt_ok {W q:List Nat} (hq:QuOk prog w b W q) (hj:JoinOk " " [S q] = true) (fr:Addr) (ft:Nat→Nat) (lst:Addr) (tt:Nat) (o:Option (Addr × List Nat × Nat)) (its:List Value) (hits:its.length < sizeLine) (ep:Nat) (tb:Option Addr) (n t:Nat) :
    Zqn (T3 R) prog (wb w b) n t (dlT (hz (wb w b)) (Zqd R (wb w b)) Zqm fr ft lst W tt o its ep q tb n t):=by
  have hC:Zx1 (T3 R) prog (wb w b) [joinFam1 W q tb,pileFam (hz (wb w b)) q,laddFam its ep 0] :=
    Zqx (fun _ _ _ _ _=>(join1_ok hq hj _ _ _ _ _ _).up R) (Zqx (fun _ _ _ _ _=>(pile_ok _ _ _ _).up R) (Zqx (fun _ _ c l _=>ladd_ok (by split <;> simp <;> lia)) Zqq))
  cases o with
  | none=>exact Zqw (ex:=dlTEx) hC rfl rfl (DT2_v prog w b R fr ft lst W tt its ep q tb n t) fun f q hq=>nomatch hq
  | some u=>exact Zqw (ex:=dlTEx) hC rfl rfl (DT4_v prog w b R fr ft lst W tt u its ep q tb n t) fun f q hq=>nomatch hq
end
noncomputable def newPS (k:Fin 6):PS:=⟨Zvw k,⟨0,some (S [32]),1⟩,[(k,⟨(Zvw k).length,none,1⟩)],⟨(Zvw k).length,none,1⟩,[]⟩
noncomputable def dealt (r:Fin 6→Int) (k:Fin 6) (l:List PS):List PS:=if (Zzt r k l).2 then (Zzt r k l).1 else (Zzt r k l).1++[newPS k]
noncomputable def forPos (s:Stmt):Pos:=match s with
  | .For _ _ _ _ p=>p
  | _=>default
section
variable {prog:Program} {w:World} {b:Bool} {R:RO}
noncomputable abbrev s917 (R:RO) (w:World) (b:Bool):Stmt:=Zqt (Zxv (Zqd R (wb w b)) 917) 0
theorem d917:((Zqd R (wb w b) 917).bind isDef) = some (Zxv (Zqd R (wb w b)) 917):=by cases b <;> kernel_rfl
theorem body917:(Zxv (Zqd R (wb w b)) 917).body = .stmts [s917 R w b,Zqt (Zxv (Zqd R (wb w b)) 917) 1]:=by cases b <;> kernel_rfl
theorem for917:s917 R w b = .For (Zzd (s917 R w b)) (Zv7 (s917 R w b)) (dlBody (Zqd R (wb w b))) [] (forPos (s917 R w b)):=by cases b <;> kernel_rfl
theorem tup917 (it v:Value):letOwnedTupleGo (Zzd (s917 R w b)) it v = pure ():=by cases b <;> kernel_rfl
theorem pblT_len:∀ (l:List (Fin 6)) (f:Nat→Nat),(pblT l f).length = l.length
  | [],_=>rfl
  | _::l,_=>congrArg (· + 1) (pblT_len l _)
theorem pdL_lex (q:Pd):(pdL q).lex = q.2 0 0:=rfl
theorem pdL_fk (q:Pd):(pdL q).fk = q.2 0 5:=rfl
theorem ofNat_succ (a:Nat):Int.ofNat (a + 1) = Int.ofNat a + 1:=rfl
theorem dl_body (hsm:R.small) {k:Fin 6} {fr lst:Addr} {ft:Nat→Nat} {tt:Nat} {o:Option (List Nat × Nat)} {q:Pd} {u:Fin 6} {ps1:PS} (hq:Zk5 prog w b q.1) (hlen:q.1.pbl.length < 20) (hu:q.1.look = some (u,ps1))
    {A:Around} (hA:AOk A none 60) {h₀ h:Heap} (G:Ground (T3 R) (wb w b) h₀) {r:Zkc} {n t:Nat} {g:Array GenState} {rest:List (Addr × Obj)} {Q:Flow→Shared→Prop} {E:Value→Shared→Prop}
    (O:Own h₀ ((fr,dlF (hz (wb w b)) ft lst (Zzc k) tt (q.2 0 0) o)::(pdO (hz (wb w b)) q++rest)) h) (hs:h.objs.size = n)
    (hQ:∀ (d':Dyn) ft' tu h' t' g',d' 0 0 = q.2 0 0→Own h₀ ((fr,dlF4 (hz (wb w b)) ft' lst (Zzc k) tt (q.2 0 0) (Zzc u) tu)::(pdO (hz (wb w b)) (if R.rk k≤R.rk u then ps1.put k else ps1,d')++rest)) h'→n≤h'.objs.size→t≤t'→Zq5 true g g' →
      Q (if R.rk k≤R.rk u then .ret (.ref lst) else .next) (r.at h' ⟨t',g'⟩)) :
    wpAny (model prog (wb w b)) A (execs (dlBody (Zqd R (wb w b))) (Zjp (Zqd R (wb w b)) fr)) Q E (r.at h ⟨t,g⟩):=by
  obtain ⟨⟨buf,s,ws,se,pbl⟩,d⟩:=q
  have hv:∀ (c:Prop) [Decidable c] (x y:Flow),(match decide c with | true=>x | false=>y) = if c then x else y:=fun c _ x y=>by by_cases h:c <;> simp [h]
  rw [← Zzm]
  unfold PS.look at hu
  dsimp only at hu hlen
  cases pbl with
  | nil =>
    cases ws with
    | nil=>cases hu
    | cons p r' =>
      obtain ⟨u',s1⟩:=p
      dsimp only at hu
      obtain ⟨rfl,rfl⟩:=Prod.mk.inj (Option.some.inj hu)
      obtain ⟨⟨p,z,ln,e0⟩,hrt,-⟩:=hq (pdL (⟨buf,s,(u',s1)::r',se,[]⟩,d)) rfl rfl
      dsimp only at e0
      subst e0
      refine (da_ok hsm (isWd R k) (isWd R u') fr ft lst tt o (L:=pdL (⟨buf,⟨p,some z,ln⟩,(u',s1)::r',se,[]⟩,d)) (d 2) hrt (Int.ofNat (d 0 6)) (v:=decide (R.rk k≤R.rk u')) rfl n t).use (rest:=(d 0 5,dqO (Int.ofNat (d 0 7)) [])::rest) G hA O ?_ hs fun x h' g' O' hs' gr=>?_
      · simp only [Zq2.preA,dlA,Zqr,pdO,Zvb,pblT,pdL_lex,pdL_fk]
        (refine Zqv fun _=>?_; simp +arith only [Zqj,Zqk,Zqc])
      · have e1:(dlA (hz (wb w b)) (Zqd R (wb w b)) Zqm fr ft lst (Zzc k) tt o (pdL (⟨buf,⟨p,some z,ln⟩,(u',s1)::r',se,[]⟩,d)) (d 2) ⟨p,some z,ln⟩ s1 (Int.ofNat (d 0 6)) (Zzc u') (decide (R.rk k≤R.rk u')) n t).res x = .ok (if R.rk k≤R.rk u' then .ret (.ref lst) else .next):=congrArg Except.ok (hv _ _ _)
        rw [e1]
        by_cases hc:R.rk k≤R.rk u'
        · refine hQ (dynOf (pdL (⟨buf,⟨p,some z,ln⟩,(u',s1)::r',se,[]⟩,d)) x.tk (fun j=>match j with | 0=>tt | _=>x.nat 6) (d 0 6 + 1 + 1) (d 0 7)) (fun j=>x.nat (j + 7)) (x.nat 6) h' _ g' rfl ?_ (by lia) (by lia) gr
          rw [if_pos hc,pdO_dyn (L:=pdL (⟨buf,⟨p,some z,ln⟩,(u',s1)::r',se,[]⟩,d)) rfl rfl]
          refine O'.perm ?_
          simp only [Zq2.postA,dlA,Zqr,Zvb,pblT,decide_eq_true hc,PS.put,pdL_lex,pdL_fk,ofNat_succ]
          (refine Zqv fun _=>?_; simp +arith only [Zqj,Zqk,Zqc])
        · refine hQ (dynOf (pdL (⟨buf,⟨p,some z,ln⟩,(u',s1)::r',se,[]⟩,d)) x.tk (fun j=>x.nat 6) (d 0 6 + 1) (d 0 7)) (fun j=>x.nat (j + 7)) (x.nat 6) h' _ g' rfl ?_ (by lia) (by lia) gr
          rw [if_neg hc,pdO_dyn (L:=pdL (⟨buf,⟨p,some z,ln⟩,(u',s1)::r',se,[]⟩,d)) rfl rfl]
          refine O'.perm ?_
          simp only [Zq2.postA,dlA,Zqr,Zvb,pblT,decide_eq_false hc,pdL_lex,pdL_fk,ofNat_succ]
          (refine Zqv fun _=>?_; simp +arith only [Zqj,Zqk,Zqc])
  | cons u' pr =>
    dsimp only at hu
    obtain ⟨rfl,rfl⟩:=Prod.mk.inj (Option.some.inj hu)
    refine (db_ok hsm (isWd R k) (isWd R u') fr ft lst tt o (L:=pdL (⟨buf,s,ws,se,u'::pr⟩,d)) (d 2) s (Int.ofNat (d 0 6)) (d 3 0) (pblT pr fun j=>d 3 (j + 1)) (by rw [pblT_len]; simp at hlen; lia) (v:=decide (R.rk k≤R.rk u')) rfl n t).use (rest:=(d 0 5,dqO (Int.ofNat (d 0 7)) [])::rest) G hA O ?_ hs fun x h' g' O' hs' gr=>?_
    · simp only [Zq2.preA,dlB,Zqr,pdO,Zvb,pblT,pdL_lex,pdL_fk]
      (refine Zqv fun _=>?_; simp +arith only [Zqj,Zqk,Zqc])
    · have e1:(dlB (hz (wb w b)) (Zqd R (wb w b)) Zqm fr ft lst (Zzc k) tt o (pdL (⟨buf,s,ws,se,u'::pr⟩,d)) (d 2) s (Int.ofNat (d 0 6)) (Zzc u') (d 3 0) (pblT pr fun j=>d 3 (j + 1)) (decide (R.rk k≤R.rk u')) n t).res x = .ok (if R.rk k≤R.rk u' then .ret (.ref lst) else .next):=congrArg Except.ok (hv _ _ _)
      rw [e1]
      by_cases hc:R.rk k≤R.rk u'
      · refine hQ (dynOf (pdL (⟨buf,s,ws,se,u'::pr⟩,d)) (d 2) (fun j=>match j with | 0=>tt | j + 1=>d 3 j) (d 0 6 + 1 + 1 + 1) (d 0 7)) (fun j=>x.nat (j + 7)) (d 3 0) h' _ g' rfl ?_ (by lia) (by lia) gr
        rw [if_pos hc,pdO_dyn (L:=pdL (⟨buf,s,ws,se,u'::pr⟩,d)) rfl rfl]
        refine O'.perm ?_
        simp only [Zq2.postA,dlB,Zqr,Zvb,pblT,decide_eq_true hc,PS.put,pdL_lex,pdL_fk,ofNat_succ]
        (refine Zqv fun _=>?_; simp +arith only [Zqj,Zqk,Zqc])
      · refine hQ (dynOf (pdL (⟨buf,s,ws,se,u'::pr⟩,d)) (d 2) (d 3) (d 0 6 + 1 + 1) (d 0 7)) (fun j=>x.nat (j + 7)) (d 3 0) h' _ g' rfl ?_ (by lia) (by lia) gr
        rw [if_neg hc,pdO_dyn (L:=pdL (⟨buf,s,ws,se,u'::pr⟩,d)) rfl rfl]
        refine O'.perm ?_
        simp only [Zq2.postA,dlB,Zqr,Zvb,pblT,decide_eq_false hc,pdL_lex,pdL_fk,ofNat_succ]
        (refine Zqv fun _=>?_; simp +arith only [Zqj,Zqk,Zqc])
end
section
variable {prog:Program} {w:World} {b:Bool} {R:RO}
structure Fit (prog:Program) (w:World) (b:Bool) (ps:PS):Prop where
  ok:Zk5 prog w b ps
  len:ps.pbl.length < 20
  look:∃ u ps1,ps.look = some (u,ps1)
theorem Zkb (a b:List Pd):Zz0 (a++b) = Zz0 a++Zz0 b:=List.map_append
theorem Zzg (a:List Pd):(Zz0 a).length = a.length:=by simp [Zz0]
noncomputable def frAs:Option (Addr × List Nat × Nat)→Option (Addr × Option (List Nat × Nat))
  | none=>none
  | some u=>some (u.1,some u.2)
theorem dlAs_pre (hs:Hs) (top:Addr→Option Obj) (asg:Expr→Env→Value→Sem Unit) (fr:Addr) (ft:Nat→Nat) (lst:Addr) (W:List Nat) (tt:Nat) (o:Option (Addr × List Nat × Nat)) (p n t:Nat):(dlAs hs top asg fr ft lst W tt (frAs o) p n t).pre = [(fr,dlFT hs ft lst W tt o)]:=by
  cases o <;> rfl
theorem dlAs_post (hs:Hs) (top:Addr→Option Obj) (asg:Expr→Env→Value→Sem Unit) (fr:Addr) (ft:Nat→Nat) (lst:Addr) (W:List Nat) (tt:Nat) (o:Option (Addr × List Nat × Nat)) (p n t:Nat) (x:Ext):(dlAs hs top asg fr ft lst W tt (frAs o) p n t).post x = [(fr,dlF hs (fun j=>x.nat (j + 2)) lst W tt p (o.map (·.2)))]:=by
  cases o <;> rfl
theorem dl_loop (hsm:R.small) {k:Fin 6} {fr lst it:Addr} {tt ep:Nat} {T:Addr × Obj} {A:Around} (hA:AOk A none 70) {h₀:Heap} (G:Ground (T3 R) (wb w b) h₀) {r:Zkc} {g₀:Array GenState} {n₀ t₀:Nat} (hfr:n₀≤fr) {sts:List PS} {refs:List Value} {Rz:Result→Shared→Prop}
    (hret:∀ (l':List Pd) h' t' g',l'.map (·.1) = (Zzt R.rk k sts).1→(Zzt R.rk k sts).2 = true→Zz0 l' = refs→Own h₀ (T::(lst,Zqz refs ep)::Zx6 (hz (wb w b)) l') h'→n₀≤h'.objs.size→t₀≤t'→Zq5 true g₀ g'→Rz (.ok (.ret (.ref lst))) (r.at h' ⟨t',g'⟩))
    (hend:∀ (l':List Pd) o ft h' t' g',l'.map (·.1) = (Zzt R.rk k sts).1→(Zzt R.rk k sts).2 = false→Zz0 l' = refs→Own h₀ ((fr,dlFT (hz (wb w b)) ft lst (Zzc k) tt o)::T::(lst,Zqz refs ep)::Zx6 (hz (wb w b)) l') h'→n₀≤h'.objs.size→t₀≤t'→Zq5 true g₀ g'→Rz (.ok .next) (r.at h' ⟨t',g'⟩))
    (todo done:List Pd) {oi:Obj} {o:Option (Addr × List Nat × Nat)} {ft:Nat→Nat} {h:Heap} {t:Nat} {g:Array GenState}
    (hfit:∀ q ∈ todo,Fit prog w b q.1) (hi:IsIt oi lst done.length) (hrefs:Zz0 (done++todo) = refs) (hsp1:(Zzt R.rk k sts).1 = done.map (·.1)++(Zzt R.rk k (todo.map (·.1))).1) (hsp2:(Zzt R.rk k sts).2 = (Zzt R.rk k (todo.map (·.1))).2)
    (O:Own h₀ ((it,oi)::(fr,dlFT (hz (wb w b)) ft lst (Zzc k) tt o)::T::(lst,Zqz refs ep)::(Zx6 (hz (wb w b)) done++Zx6 (hz (wb w b)) todo)) h) (hn:n₀≤h.objs.size) (ht:t₀≤t) (hg:Zq5 true g₀ g) :
    codeAny (model prog (wb w b)) A (.forLoop (Zzd (s917 R w b)) (.ref it) (dlBody (Zqd R (wb w b))) [] (Zjp (Zqd R (wb w b)) fr)) Rz (r.at h ⟨t,g⟩):=by
  refine codeAny_forLoop (fun m s=>∃ (todo done:List Pd) (oi:Obj) (o:Option (Addr × List Nat × Nat)) (ft:Nat→Nat) (h:Heap) (t:Nat) (g:Array GenState),s = r.at h ⟨t,g⟩∧todo.length = m∧(∀ q ∈ todo,Fit prog w b q.1)∧IsIt oi lst done.length∧Zz0 (done++todo) = refs ∧
      ((Zzt R.rk k sts).1 = done.map (·.1)++(Zzt R.rk k (todo.map (·.1))).1∧(Zzt R.rk k sts).2 = (Zzt R.rk k (todo.map (·.1))).2) ∧
      Own h₀ ((it,oi)::(fr,dlFT (hz (wb w b)) ft lst (Zzc k) tt o)::T::(lst,Zqz refs ep)::(Zx6 (hz (wb w b)) done++Zx6 (hz (wb w b)) todo)) h∧n₀≤h.objs.size∧t₀≤t∧Zq5 true g₀ g) ?_ todo.length
    ⟨todo,done,oi,o,ft,h,t,g,rfl,rfl,hfit,hi,hrefs,⟨hsp1,hsp2⟩,O,hn,ht,hg⟩ (fun v=>tup917 _ v)
  rintro m s ⟨todo,done,oi,o,ft,h,t,g,rfl,rfl,hfit,hi,hrefs,⟨hsp1,hsp2⟩,O,hn,ht,hg⟩
  cases todo with
  | nil =>
    refine it_end hA.hand O hi (.tail _ (.tail _ (.head _))) (by rw [← hrefs,Zzg,List.append_nil]; exact Nat.le_refl _) fun h' O'=>?_
    refine wpAny_execs_nil ?_
    have hz':(fr:Addr) < h'.objs.size:=Heap.lt_size (O'.own _ (.head _))
    have e:Zx6 (hz (wb w b)) [] = []:=rfl
    rw [e,List.append_nil] at O'
    rw [List.append_nil] at hrefs
    refine hend done o ft h' t g ?_ ?_ hrefs O' (Nat.le_of_lt (Nat.lt_of_le_of_lt hfr hz')) ht hg
    · rw [hsp1]; simp [Zzt]
    · rw [hsp2]; rfl
  | cons q todo =>
    obtain ⟨hok,hlen,u,ps1,hu⟩:=hfit q (.head _)
    have hx:refs[done.length]? = some (.ref (q.2 0 0)):=by
      rw [← hrefs,Zkb,List.getElem?_append_right (by rw [Zzg]; exact Nat.le_refl _),Zzg,Nat.sub_self]
      rfl
    refine it_next O hi (.tail _ (.tail _ (.head _))) hx fun h1 oi1 O1 hi1 hs1=>?_
    have e1:(dlAs (hz (wb w b)) (Zqd R (wb w b)) Zqg fr ft lst (Zzc k) tt (frAs o) (q.2 0 0) h1.objs.size t).tree = assign (Zzd (s917 R w b)) (Zjp (Zqd R (wb w b)) fr) (.ref (q.2 0 0)):=by
      unfold dlAs
      dsimp only
      rw [Zxk]
    have eT:Zx6 (hz (wb w b)) (q::todo) = pdO (hz (wb w b)) q++Zx6 (hz (wb w b)) todo:=List.flatMap_cons
    rw [eT] at O1
    show wpAny _ A (assign (Zzd (s917 R w b)) (Zjp (Zqd R (wb w b)) fr) (.ref (q.2 0 0))) _ _ _
    refine eqT e1 ?_
    refine (ds_ok fr ft lst (Zzc k) tt (frAs o) (q.2 0 0) h1.objs.size t).use (rest:=(it,oi1)::T::(lst,Zqz refs ep)::(Zx6 (hz (wb w b)) done++(pdO (hz (wb w b)) q++Zx6 (hz (wb w b)) todo))) G (hA.bare (by show 40≤70; lia)) O1 ?_ rfl fun x h2 g2 O2 hs2 gr2=>?_
    · rw [Zq2.preA,dlAs_pre]
      show List.Perm _ (([(fr,dlFT (hz (wb w b)) ft lst (Zzc k) tt o)]++[])++_)
      (refine Zqv fun _=>?_; simp +arith only [Zqj,Zqk,Zqc])
    · refine dl_body hsm (k:=k) (lst:=lst) (tt:=tt) (q:=q) (o:=o.map (·.2)) (ft:=fun j=>x.nat (j + 2)) hok hlen hu (hA.bare (by lia)) G (rest:=(it,oi1)::T::(lst,Zqz refs ep)::(Zx6 (hz (wb w b)) done++Zx6 (hz (wb w b)) todo)) (O2.perm ?_) hs2 fun d' ft' tu h3 t3 g3 hd O3 hn3 ht3 gr3=>?_
      · rw [Zq2.postA,dlAs_post]
        show List.Perm ((([]++[(fr,dlF (hz (wb w b)) (fun j=>x.nat (j + 2)) lst (Zzc k) tt (q.2 0 0) (o.map (·.2)))])++[])++_) _
        (refine Zqv fun _=>?_; simp +arith only [Zqj,Zqk,Zqc])
      · have hstep:Zzt R.rk k ((q::todo).map (·.1)) = if R.rk k≤R.rk u then (ps1.put k::todo.map (·.1),true) else (ps1::(Zzt R.rk k (todo.map (·.1))).1,(Zzt R.rk k (todo.map (·.1))).2):=by
          show Zzt R.rk k (q.1::todo.map (·.1)) = _
          rw [Zzt,hu]
        have hrf:∀ ps:PS,Zz0 (done++(ps,d')::todo) = refs:=fun ps=>by
          rw [← hrefs,Zkb,Zkb]
          show Zz0 done++(Value.ref (d' 0 0)::Zz0 todo) = Zz0 done++(Value.ref (q.2 0 0)::Zz0 todo)
          rw [hd]
        have hpd:∀ ps:PS,Zx6 (hz (wb w b)) (done++(ps,d')::todo) = Zx6 (hz (wb w b)) done++(pdO (hz (wb w b)) (ps,d')++Zx6 (hz (wb w b)) todo):=fun ps=>by
          rw [Zv5]; rfl
        have hn':n₀≤h3.objs.size:=by lia
        have ht':t₀≤t3:=by lia
        have hg':Zq5 true g₀ g3:=Zq5.trans (d:=true) (Zq5.trans (d:=true) hg gr2 fun e=>Bool.noConfusion e) gr3 fun e=>Bool.noConfusion e
        by_cases hc:R.rk k≤R.rk u
        · rw [if_pos hc] at hstep O3 ⊢
          refine hret (done++(ps1.put k,d')::todo) h3 t3 g3 ?_ ?_ (hrf _) ?_ hn' ht' hg'
          · rw [hsp1,hstep]; simp
          · rw [hsp2,hstep]
          · rw [hpd]
            refine Own.drop (r:=[(it,oi1),(fr,dlF4 (hz (wb w b)) ft' lst (Zzc k) tt (q.2 0 0) (Zzc u) tu)]) (O3.perm ?_)
            (refine Zqv fun _=>?_; simp +arith only [Zqj,Zqk,Zqc])
        · rw [if_neg hc] at hstep O3 ⊢
          refine ⟨todo.length,Nat.lt_succ_self _,todo,done++[(ps1,d')],oi1,some (q.2 0 0,Zzc u,tu),ft',h3,t3,g3,rfl,rfl,fun q' hq'=>hfit q' (.tail _ hq'),by simpa using hi1,?_,⟨?_,?_⟩,O3.perm ?_,hn',ht',hg'⟩
          · rw [List.append_assoc]; exact hrf _
          · rw [hsp1,hstep]; simp
          · rw [hsp2,hstep]
          · rw [Zv5]
            have e2:Zx6 (hz (wb w b)) [(ps1,d')] = pdO (hz (wb w b)) (ps1,d')++[]:=List.flatMap_cons
            rw [e2]
            show List.Perm _ ((it,oi1)::(fr,dlF4 (hz (wb w b)) ft' lst (Zzc k) tt (q.2 0 0) (Zzc u) tu)::_)
            (refine Zqv fun _=>?_; simp +arith only [Zqj,Zqk,Zqc])
end
noncomputable def esc (w:List Nat):List Nat:=w.flatMap fun c=>if c = 39 then [39,34,39,34,39] else [c]
theorem esc_cons (c:Nat) (w:List Nat):esc (c::w) = (if c = 39 then [39,34,39,34,39] else [c])++esc w:=rfl
noncomputable def lines:List Nat→Int→Int
  | [],n=>n
  | c::w,n=>lines w (if c = 10 then n + 1 else n)
theorem Zjh {l rest:List Nat} {p c:Nat} (h:l.drop p = c::rest):l[p]? = some c∧l.drop (p + 1) = rest:=by
  refine ⟨?_,?_⟩
  · rw [← List.head?_drop,h]; rfl
  · rw [← List.drop_drop,h]; rfl
theorem drop_nil {l:List Nat} {p:Nat} (h:l.drop p = []):l.length≤p:=by simpa using h
theorem S_add (a b:List Nat):S a++S b = S (a++b):=by
  show (⟨(⟨a⟩:Array Nat)++⟨b⟩⟩:Str) = ⟨⟨a++b⟩⟩
  simp
theorem add_owes {a b:List Nat} (h:(a++b).length≤sizeLine):Zjt (S a) (S b) (S (a++b)):=⟨S_add a b,h⟩
section
variable {prog:Program} {w:World} {b:Bool} {L:Lx}
theorem hasT_mem (l:List Nat) (c:Nat):Zjx (S l) (S [c]) = decide (c ∈ l):=StrLaws.found_one (S l) c
theorem hasT_one {c d:Nat} (h:c≠d):Zjx (S [c]) (S [d]) = false:=by
  rw [hasT_mem]
  exact decide_eq_false (by simp only [List.mem_cons,List.not_mem_nil,or_false]; exact Ne.symm h)
theorem hasT_nil (c:Nat):Zjx (S []) (S [c]) = false:=by
  rw [hasT_mem]
  exact decide_eq_false (by simp)
theorem Zvd {c d:Nat} (h:c≠d):sameT (S [c]) (S [d]) = false:=by
  simp [sameT,S,h]
theorem Zj9 (hl:L.buf.length < 2 ^ 63) {p c:Nat} {rest:List Nat} (h:L.buf.drop p = c::rest):Zjz prog w b L p (p + 1) (S [c]):=read_ok (Zjh h).1 hl
theorem read_end (hl:L.buf.length < 2 ^ 63) {p:Nat} (h:L.buf.drop p = []):Zjz prog w b L p p (S []):=read_eof (drop_nil h) hl
theorem loopQ (hl:L.buf.length < 2 ^ 63) (c1:Zjx L.cm (S [39]) = false) (c2:Zjx L.cm (S [34]) = false) {rest:List Nat} {s':Ls}:∀ (u:List Nat) {p:Nat} {tl:List Nat} {ln:Int} {q:Bool} {x:Str},
    L.buf.drop p = esc u++39::rest→(tl++u).length≤sizeLine →
    Zzv prog w b L ⟨p + (esc u).length + 1,some (S [97]),S (tl++u),true,lines u ln,some (S [39])⟩ s'→Zzv prog w b L ⟨p,some (S [39]),S tl,q,ln,some x⟩ s'
  | [],p,tl,ln,q,x,hb,ht,ih=>by
    rw [List.append_nil] at ih
    exact R10_ok _ _ _ _ (Zj9 hl hb) ih
  | c::u,p,tl,ln,q,x,hb,ht,ih=>by
    rw [esc_cons] at hb ih
    have ht2:(tl++[c]).length≤sizeLine:=by simp only [List.length_append,List.length_cons,List.length_nil] at ht ⊢; lia
    have e1:tl++c::u = (tl++[c])++u:=by simp
    rw [e1] at ih ht
    by_cases h39:c = 39
    · subst h39
      rw [if_pos rfl] at hb ih
      have g0:=Zjh hb
      have g1:=Zjh g0.2
      have g2:=Zjh g1.2
      have g3:=Zjh g2.2
      have g4:=Zjh g3.2
      refine R10_ok _ _ _ _ (Zj9 hl hb) ?_
      refine R8_ok _ _ _ _ (Zj9 hl g0.2) ?_ rfl c2
      refine R12_ok _ (S (tl++[39])) _ _ _ (Zj9 hl g1.2) ?_ (add_owes ht2)
      refine R13_ok _ _ _ _ (Zj9 hl g2.2) ?_
      refine R7_ok _ _ _ _ (Zj9 hl g3.2) ?_ rfl c1
      refine loopQ hl c1 c2 u g4.2 ht ?_
      have e2:p + ([39,34,39,34,39]++esc u).length + 1 = p + 1 + 1 + 1 + 1 + 1 + (esc u).length + 1:=by simp only [List.length_append,List.length_cons,List.length_nil]; lia
      rw [e2] at ih
      exact ih
    · rw [if_neg h39] at hb ih
      have g0:=Zjh hb
      have e2:p + ([c]++esc u).length + 1 = p + 1 + (esc u).length + 1:=by simp only [List.length_append,List.length_cons,List.length_nil]; lia
      rw [e2] at ih
      have g:=Zj9 (prog:=prog) (w:=w) (b:=b) hl hb
      by_cases h10:c = 10
      · subst h10
        exact R11n_ok _ (S (tl++[10])) _ _ _ g (loopQ hl c1 c2 u g0.2 ht ih) (add_owes ht2)
      · have ihl:lines (c::u) ln = lines u ln:=by show lines u (if c = 10 then ln + 1 else ln) = _; rw [if_neg h10]
        rw [ihl] at ih
        by_cases h92:c = 92
        · subst h92
          exact R11b_ok _ (S (tl++[92])) _ _ _ g (loopQ hl c1 c2 u g0.2 ht ih) (add_owes ht2)
        · exact R11o_ok _ _ (S (tl++[c])) _ _ _ g (loopQ hl c1 c2 u g0.2 ht ih) (Zvd h10) (Zvd h39) (hasT_one (Ne.symm h92)) (add_owes ht2)
structure Safe (cm:Str) (c:Nat):Prop where
  n10:c≠10
  ws:Zjx " \t\r\n" (S [c]) = false
  cm:Zjx cm (S [c]) = false
  qu:Zjx "'\"" (S [c]) = false
  es:c≠92
theorem loopS1 {p:Nat} {c:Nat} {tl:List Nat} {ln:Int} {q:Bool} {x:Str} {s':Ls} (hc:Safe L.cm c) (g:Zjz prog w b L p (p + 1) (S [c])) (ht:(tl++[c]).length≤sizeLine)
    (ih:Zzv prog w b L ⟨p + 1,some (S [97]),S (tl++[c]),q,ln,some (S [c])⟩ s'):Zzv prog w b L ⟨p,some (S [97]),S tl,q,ln,some x⟩ s':=by
  cases hw:Zjx Zx9 (S [c]) with
  | true=>exact R9w_ok _ _ (S (tl++[c])) _ _ _ g ih (Zvd hc.n10) rfl hc.ws hc.cm hc.qu (hasT_one (Ne.symm hc.es)) hw (add_owes ht)
  | false=>exact R9n_ok _ _ (S (tl++[c])) _ _ _ g ih (Zvd hc.n10) rfl hc.ws hc.cm hc.qu (hasT_one (Ne.symm hc.es)) hw hc.qu (hasT_nil c) (add_owes ht)
theorem loopS (hl:L.buf.length < 2 ^ 63) {rest:List Nat} {s':Ls}:∀ (u:List Nat) {p:Nat} {tl:List Nat} {ln:Int} {q:Bool} {x:Str},(∀ c ∈ u,Safe L.cm c) →
    L.buf.drop p = u++rest→(tl++u).length≤sizeLine →
    (∀ y,Zzv prog w b L ⟨p + u.length,some (S [97]),S (tl++u),q,ln,some y⟩ s')→Zzv prog w b L ⟨p,some (S [97]),S tl,q,ln,some x⟩ s'
  | [],p,tl,ln,q,x,_,hb,ht,ih=>by
    have:=ih x
    rw [List.append_nil] at this
    exact this
  | c::u,p,tl,ln,q,x,hs,hb,ht,ih=>by
    have g0:=Zjh hb
    have ht2:(tl++[c]).length≤sizeLine:=by simp only [List.length_append,List.length_cons,List.length_nil] at ht ⊢; lia
    have e1:tl++c::u = (tl++[c])++u:=by simp
    rw [e1] at ht
    refine loopS1 (hs c (.head _)) (Zj9 hl hb) ht2 (loopS hl u (fun d hd=>hs d (.tail _ hd)) g0.2 ht fun y=>?_)
    have:=ih y
    rw [e1] at this
    have e2:p + (c::u).length = p + 1 + u.length:=by simp only [List.length_cons]; lia
    rw [e2] at this
    exact this
inductive Ends (L:Lx):Nat→Nat→Option Str→Prop
  | eof {p} (h:L.buf.drop p = []):Ends L p p none
  | blank {p rest} (h:L.buf.drop p = 32::rest):Ends L p (p + 1) (some (S [32]))
theorem loopE (hl:L.buf.length < 2 ^ 63) {p p':Nat} {st:Option Str} (he:Ends L p p' st) {tl:List Nat} {ln:Int} {q:Bool} {x:Str} (hq:q = true ∨ tl≠[]) (ht:tl.length≤sizeLine) :
    Zzv prog w b L ⟨p,some (S [97]),S tl,q,ln,some x⟩ ⟨p',st,S tl,q,ln,some (st.getD (S []))⟩:=by
  cases he with
  | eof h=>exact R5_ok _ _ _ (read_end hl h) rfl
  | blank h =>
    cases tl with
    | nil =>
      rcases hq with rfl | hq
      · exact R6q_ok _ (Zj9 hl h) rfl
      · exact absurd rfl hq
    | cons d l=>exact R6t_ok _ _ _ _ (Zj9 hl h) rfl (Nat.lt_of_le_of_lt ht (by decide))
theorem rt_quoted (hl:L.buf.length < 2 ^ 63) (c1:Zjx L.cm (S [39]) = false) (c2:Zjx L.cm (S [34]) = false) (u:List Nat) {p p':Nat} {st:Option Str} {ln:Int} {rest:List Nat} (hb:L.buf.drop p = 39::(esc u++39::rest))
    (he:Ends L (p + 1 + (esc u).length + 1) p' st) (hu:u.length≤sizeLine):RtOk prog w b L ⟨p,some (S [32]),ln⟩ ⟨p',st,lines u ln⟩ (some (S u)):=by
  have hy:=loopE (prog:=prog) (w:=w) (b:=b) hl he (tl:=u) (ln:=lines u ln) (q:=true) (x:=S [39]) (.inl rfl) hu
  exact RTq_ok _ _ _ _ (R1_ok _ (Zj9 hl hb) (loopQ hl c1 c2 u (tl:=[]) (Zjh hb).2 hu hy) c1)
theorem rt_safe (hl:L.buf.length < 2 ^ 63) (c:Nat) (u:List Nat) (hs:∀ d ∈ c::u,Safe L.cm d) {p p':Nat} {st:Option Str} {ln:Int} {rest:List Nat} (hb:L.buf.drop p = c::u++rest)
    (he:Ends L (p + 1 + u.length) p' st) (hu:(c::u).length≤sizeLine):RtOk prog w b L ⟨p,some (S [32]),ln⟩ ⟨p',st,ln⟩ (some (S (c::u))):=by
  have hc:=hs c (.head _)
  have hy:Zzv prog w b L ⟨p + 1,some (S [97]),S [c],false,ln,some (S [c])⟩ ⟨p',st,S (c::u),false,ln,some (st.getD (S []))⟩ :=
    loopS hl u (tl:=[c]) (fun d hd=>hs d (.tail _ hd)) (Zjh hb).2 hu fun y=>loopE hl he (.inr (by simp)) hu
  refine RTs_ok _ _ _ _ (?_:Zzv prog w b L ⟨p,some (S [32]),S [],false,ln,none⟩ ⟨p',st,S (c::u),false,ln,some (st.getD (S []))⟩) rfl
  cases hw:Zjx Zx9 (S [c]) with
  | true=>exact R2w_ok _ _ (Zj9 hl hb) hy (Zvd hc.n10) hc.ws hc.cm (hasT_one (Ne.symm hc.es)) hw
  | false=>exact R2n_ok _ _ (Zj9 hl hb) hy (Zvd hc.n10) hc.ws hc.cm (hasT_one (Ne.symm hc.es)) hw (hasT_nil c) hc.qu
theorem rt_end (hl:L.buf.length < 2 ^ 63) {p:Nat} {ln:Int} (hb:L.buf.drop p = []):RtOk prog w b L ⟨p,some (S [32]),ln⟩ ⟨p,none,ln⟩ none :=
  RTn_ok _ _ _ (R4_ok (read_end hl hb))
theorem rt_past (hl:L.buf.length < 2 ^ 63) {p:Nat} {ln:Int} (hb:L.buf.drop p = []):RtOk prog w b L ⟨p,none,ln⟩ ⟨p,none,ln⟩ none :=
  RT0_ok _ _ (R3_ok _ (read_end hl hb))
end
theorem exec_For_eq (t i:Expr) (body:List Stmt) (pos:Pos) (env:Env):exec (.For t i body [] pos) env = (standAt pos >>= fun _=>forIt eval foldedSetIterable pyIter i env >>= fun y=>runOwn (.forLoop t y body [] env) env):=by
  rw [exec_For]
  unfold forIt
  simp only [bind_assoc]
theorem joinOk_qd:∀ k:Fin 6,JoinOk " " [S (Zvw k)] = true:=by decide +kernel
section
variable {prog:Program} {w:World} {b:Bool} {R:RO}
theorem dealt_core (hsm:R.small) {k:Fin 6} {tt ep:Nat} {lst:Addr} {tb:Addr} {l:List Pd} (hfit:∀ q ∈ l,Fit prog w b q.1) (hlen:l.length < sizeLine) {A:Around} (hA:AOk A none 95) {h₀ h:Heap} (G:Ground (T3 R) (wb w b) h₀)
    (O:Own h₀ ((762,Zz8 775 20 (some tb))::(lst,Zqz (Zz0 l) ep)::Zx6 (hz (wb w b)) l) h) {n t:Nat} (hs:h.objs.size = n) {g:Array GenState} {r:Zkc} {Rz:Result→Shared→Prop}
    (hR:∀ lst' ep' c l' h' t' g',Own h₀ ((762,Zz8 775 20 (some c))::(lst',Zqz (Zz0 l') ep')::Zx6 (hz (wb w b)) l') h'→n≤h'.objs.size→t≤t'→Zq5 true g g'→l'.map (·.1) = dealt R.rk k (l.map (·.1))→Rz (.ok (.ret (.ref lst'))) (r.at h' ⟨t',g'⟩)) :
    codeAny (model prog (wb w b)) A (.call (.ref 917) ⟨[.ref lst,.str (S (Zzc k)) tt],[]⟩) Rz (r.at h ⟨t,g⟩):=by
  obtain ⟨o,ho,hd⟩:=Option.bind_eq_some_iff.mp (d917 (w:=w) (b:=b) (R:=R))
  have hcall:AOk (A.under (.call (.ref 917) ⟨[.ref lst,.str (S (Zzc k)) tt],[]⟩)) none 94:=hA.under (Zzn rfl)
  refine fn_call (O.keep _ _ (G.top _ _ ho)) hd hcall.room ?_
  have e2:(dlPrep (hz (wb w b)) (Zqd R (wb w b)) Zjw lst (Zzc k) tt n t).tree = Zkz 917 (Zxv (Zqd R (wb w b)) 917) ⟨[.ref lst,.str (S (Zzc k)) tt],[]⟩:=by
    unfold dlPrep
    exact congrFun (congrFun (congrFun Zvv 917) (Zxv (Zqd R (wb w b)) 917)) ⟨[.ref lst,.str (S (Zzc k)) tt],[]⟩
  refine eqT e2 ?_
  refine (dp_ok lst (Zzc k) tt n t).use (rest:=(762,Zz8 775 20 (some tb))::(lst,Zqz (Zz0 l) ep)::Zx6 (hz (wb w b)) l) G (hcall.bare (by show 20≤94; lia)) O (.refl _) hs fun x h1 g1 O1 hs1 gr1=>⟨G.nolimit.keeps O1.keep,?_⟩
  generalize hft:(fun j=>x.nat (j + 2)) = ft at O1
  have O1:Own h₀ ((n,dlF2 (hz (wb w b)) ft lst (Zzc k) tt)::(762,Zz8 775 20 (some tb))::(lst,Zqz (Zz0 l) ep)::Zx6 (hz (wb w b)) l) h1:=by
    subst hft; exact O1
  show codeAny _ A (Zjm (Zxv (Zqd R (wb w b)) 917) (Zjp (Zqd R (wb w b)) n)) _ _
  unfold Zjm
  rw [body917]
  dsimp only
  have hfun:AOk (A.under (.func [s917 R w b,Zqt (Zxv (Zqd R (wb w b)) 917) 1] (Zjp (Zqd R (wb w b)) n))) none 94:=(hA.under (Zzn rfl)).bare (Nat.le_refl _)
  generalize hA2:A.under (.func [s917 R w b,Zqt (Zxv (Zqd R (wb w b)) 917) 1] (Zjp (Zqd R (wb w b)) n)) = A2 at hfun
  refine fn_body ?_
  rw [hA2,Zz7]
  refine wpAny_bind ?_
  rw [for917]
  rw [exec_For_eq]
  refine wpAny_bind (wpAny_standAt (wpAny_bind ?_))
  have e3:∀ n1 t1,(dlIt (hz (wb w b)) (Zqd R (wb w b)) Zq9 fsiZ Zjq n ft lst (Zzc k) tt (Zz0 l) ep n1 t1).tree = forIt eval foldedSetIterable pyIter (Zv7 (s917 R w b)) (Zjp (Zqd R (wb w b)) n):=fun n1 t1=>by
    unfold dlIt
    dsimp only
    rw [Zzx,fsiZ_eq,pyIterZ_eq]
  rw [← e3 (n + x.nat 0) (t + x.nat 1)]
  refine (di_ok n ft lst (Zzc k) tt (Zz0 l) ep (n + x.nat 0) (t + x.nat 1)).use (rest:=(762,Zz8 775 20 (some tb))::Zx6 (hz (wb w b)) l) G (hfun.bare (by show 40≤94; lia)) O1 ?_ hs1 fun y h2 g2 O2 hs2 gr2=>?_
  · simp only [Zq2.preA,dlIt,Zqr]
    (refine Zqv fun _=>?_; simp +arith only [Zqj,Zqk,Zqc])
  have O2:Own h₀ ((n + x.nat 0,Zx4 lst 0)::(n,dlF2 (hz (wb w b)) ft lst (Zzc k) tt)::(762,Zz8 775 20 (some tb))::(lst,Zqz (Zz0 l) ep)::(Zx6 (hz (wb w b)) []++Zx6 (hz (wb w b)) l)) h2:=O2.perm (by
    simp only [Zq2.postA,dlIt,Zqr,show Zx6 (hz (wb w b)) [] = [] from rfl]
    (refine Zqv fun _=>?_; simp +arith only [Zqj,Zqk,Zqc]))
  show wpAny _ A2 (runOwn (.forLoop (Zzd (s917 R w b)) (.ref (n + x.nat 0)) (dlBody (Zqd R (wb w b))) [] (Zjp (Zqd R (wb w b)) n)) (Zjp (Zqd R (wb w b)) n)) _ _ _
  refine wpAny_runOwn ?_
  refine dl_loop hsm (n₀:=n) (t₀:=t) (g₀:=g) (sts:=l.map (·.1)) (refs:=Zz0 l) (T:=(762,Zz8 775 20 (some tb))) (hfun.bare (by lia)) G (Nat.le_refl _) ?_ ?_ l [] (o:=none) hfit ⟨rfl,rfl⟩ rfl rfl rfl O2 (by lia) (by lia) (Zq5.trans (d:=true) gr1 gr2 fun e=>Bool.noConfusion e)
  · intro l' h' t' g' hl1 hl2 hl3 O' hn' ht' hg'
    show wpAny _ A2 (pure (Flow.ret (.ref lst))) _ _ _
    refine wpAny_pure ?_
    refine hR lst ep tb l' h' t' g' ?_ hn' ht' hg' ?_
    · rw [hl3]; exact O'
    · rw [hl1,dealt,if_pos hl2]
  · intro l' o ft' h' t' g' hl1 hl2 hl3 O' hn' ht' hg'
    show wpAny _ A2 (execs [Zqt (Zxv (Zqd R (wb w b)) 917) 1] (Zjp (Zqd R (wb w b)) n)) _ _ _
    rw [← Zzm]
    have hll:l'.length = l.length:=by rw [← Zzg,hl3,Zzg]
    refine (dt_ok (qd_ok k) (joinOk_qd k) n ft' lst tt o (Zz0 l) (by rw [Zzg]; exact hlen) ep (some tb) h'.objs.size t').use (rest:=Zx6 (hz (wb w b)) l') G (hfun.bare (by show 80≤94; lia)) O' ?_ rfl fun z h4 g4 O4 hs4 gr4=>?_
    · simp only [Zq2.preA,dlT,Zqr]
      (refine Zqv fun _=>?_; simp +arith only [Zqj,Zqk,Zqc])
    · show Rz (.ok (.ret (.ref (z.nat 6)))) _
      have hL:(newL (z.nat 7) (z.seq 0 0 0) (z.seq 0 0 1) (z.seq 0 0 2) (z.seq 0 0 3) (z.seq 0 0 4) z (Zvw k) "#").buf = (newPS k).buf:=rfl
      have ep1:pdO (hz (wb w b)) (newPS k,dynOf (newL (z.nat 7) (z.seq 0 0 0) (z.seq 0 0 1) (z.seq 0 0 2) (z.seq 0 0 3) (z.seq 0 0 4) z (Zvw k) "#") z.tk (fun _=>0) 0 0) = freshL (hz (wb w b)) (newL (z.nat 7) (z.seq 0 0 0) (z.seq 0 0 1) (z.seq 0 0 2) (z.seq 0 0 3) (z.seq 0 0 4) z (Zvw k) "#") z:=pdO_dyn hL rfl _ _ _ _
      refine hR (z.nat 6) (z.nat 8) (z.nat 9) (l'++[(newPS k,dynOf (newL (z.nat 7) (z.seq 0 0 0) (z.seq 0 0 1) (z.seq 0 0 2) (z.seq 0 0 3) (z.seq 0 0 4) z (Zvw k) "#") z.tk (fun _=>0) 0 0)]) h4 _ g4 ?_ (by lia) (by lia) (Zq5.trans (d:=true) hg' gr4 fun e=>Bool.noConfusion e) ?_
      · have er:Zz0 (l'++[(newPS k,dynOf (newL (z.nat 7) (z.seq 0 0 0) (z.seq 0 0 1) (z.seq 0 0 2) (z.seq 0 0 3) (z.seq 0 0 4) z (Zvw k) "#") z.tk (fun _=>0) 0 0)]) = Zz0 l++[.ref (z.nat 7)]:=by rw [Zkb,hl3]; rfl
        have eo:Zx6 (hz (wb w b)) [(newPS k,dynOf (newL (z.nat 7) (z.seq 0 0 0) (z.seq 0 0 1) (z.seq 0 0 2) (z.seq 0 0 3) (z.seq 0 0 4) z (Zvw k) "#") z.tk (fun _=>0) 0 0)] = pdO (hz (wb w b)) (newPS k,dynOf (newL (z.nat 7) (z.seq 0 0 0) (z.seq 0 0 1) (z.seq 0 0 2) (z.seq 0 0 3) (z.seq 0 0 4) z (Zvw k) "#") z.tk (fun _=>0) 0 0)++[]:=List.flatMap_cons
        rw [er,Zv5,eo,ep1]
        refine O4.perm ?_
        simp only [Zq2.postA,dlT,Zqr]
        (refine Zqv fun _=>?_; simp +arith only [Zqj,Zqk,Zqc])
      · rw [List.map_append,hl1,dealt,if_neg (by rw [hl2]; exact Bool.noConfusion)]
        rfl
end
noncomputable def optA:Nat→Option Addr
  | 0=>none
  | a + 1=>some a
theorem optA_ex (o:Option Addr):∃ a,optA a = o:=by
  cases o with
  | none=>exact ⟨0,rfl⟩
  | some a=>exact ⟨a + 1,rfl⟩
noncomputable def bagG (g:Nat→Nat→Nat):Nat→Dyn:=fun i kind k=>g i (4 * k + kind)
noncomputable def zipD:List PS→(Nat→Dyn)→List Pd
  | [],_=>[]
  | ps::r,D=>(ps,D 0)::zipD r fun j=>D (j + 1)
noncomputable def Zxc (hs:Hs) (sts:List PS) (g:Nat→Nat→Nat):List (Addr × Obj):=Zx6 hs (zipD sts (bagG g))
noncomputable def Zxb (sts:List PS) (g:Nat→Nat→Nat):List Value:=Zz0 (zipD sts (bagG g))
noncomputable def Zz6 (hs:Hs) (sts:List PS) (g:Nat→Nat→Nat):Bag:=⟨g,Zxc hs sts⟩
theorem zipD_fst:∀ (sts:List PS) (D:Nat→Dyn),(zipD sts D).map (·.1) = sts
  | [],_=>rfl
  | _::r,D=>congrArg (_::·) (zipD_fst r _)
theorem zipD_ex:∀ l:List Pd,∃ D,(∀ i,4≤i→∀ j k,D j i k = D j 3 k)∧zipD (l.map (·.1)) D = l.map fun q=>(q.1,fun i=>q.2 (min i 3))
  | []=>⟨fun _ _ _=>0,fun _ _ _ _=>rfl,rfl⟩
  | q::l=>by
    obtain ⟨D,h1,h2⟩:=zipD_ex l
    refine ⟨fun j=>match j with | 0=>fun i=>q.2 (min i 3) | j + 1=>D j,fun i hi j k=>?_,?_⟩
    · cases j with
      | zero=>show q.2 (min i 3) k = q.2 (min 3 3) k; rw [Nat.min_eq_right (by lia)]; rfl
      | succ j=>exact h1 i hi j k
    · exact congrArg (_::·) h2
theorem bag_ex (hs:Hs) (l:List Pd):∃ g,Zxc hs (l.map (·.1)) g = Zx6 hs l∧Zxb (l.map (·.1)) g = Zz0 l:=by
  obtain ⟨D,h1,h2⟩:=zipD_ex l
  have e:bagG (fun i m=>D i (m % 4) (m / 4)) = fun j i k=>D j (((4 * k + i) % 4)) ((4 * k + i) / 4):=rfl
  have key:∀ (hs:Hs) (sts:List PS) (D D':Nat→Dyn),(∀ j i k,i < 4→D j i k = D' j i k)→Zx6 hs (zipD sts D) = Zx6 hs (zipD sts D')∧Zz0 (zipD sts D) = Zz0 (zipD sts D'):=by
    intro hs sts
    induction sts with
    | nil=>intro D D' _; exact ⟨rfl,rfl⟩
    | cons ps r ih =>
      intro D D' hD
      obtain ⟨i1,i2⟩:=ih (fun j=>D (j + 1)) (fun j=>D' (j + 1)) fun j i k hi=>hD (j + 1) i k hi
      have a0:∀ k,D 0 0 k = D' 0 0 k:=fun k=>hD 0 0 k (by lia)
      have a1:D 0 1 = D' 0 1:=funext fun k=>hD 0 1 k (by lia)
      have a2:D 0 2 = D' 0 2:=funext fun k=>hD 0 2 k (by lia)
      have a3:D 0 3 = D' 0 3:=funext fun k=>hD 0 3 k (by lia)
      have e1:pdO hs (ps,D 0) = pdO hs (ps,D' 0):=by simp only [pdO,pdL,a0,a1,a2,a3]
      constructor
      · show pdO hs (ps,D 0)++Zx6 hs (zipD r _) = pdO hs (ps,D' 0)++Zx6 hs (zipD r _)
        rw [e1,i1]
      · show Value.ref (D 0 0 0)::Zz0 (zipD r _) = Value.ref (D' 0 0 0)::Zz0 (zipD r _)
        rw [a0,i2]
  have hl:∀ (hs:Hs) (l:List Pd),Zx6 hs (l.map fun q=>(q.1,fun i=>q.2 (min i 3))) = Zx6 hs l∧Zz0 (l.map fun q=>(q.1,fun i=>q.2 (min i 3))) = Zz0 l:=by
    intro hs l
    induction l with
    | nil=>exact ⟨rfl,rfl⟩
    | cons q l ih =>
      constructor
      · show pdO hs (q.1,fun i=>q.2 (min i 3))++Zx6 hs _ = pdO hs q++Zx6 hs l
        rw [ih.1]; rfl
      · show Value.ref (q.2 (min 0 3) 0)::Zz0 _ = Value.ref (q.2 0 0)::Zz0 l
        rw [ih.2]; rfl
  refine ⟨fun i m=>D i (m % 4) (m / 4),?_,?_⟩
  · show Zx6 hs (zipD (l.map (·.1)) (bagG _)) = _
    rw [(key hs _ _ D fun j i k hi=>by rw [e]; show D j ((4 * k + i) % 4) ((4 * k + i) / 4) = D j i k; rw [show (4 * k + i) % 4 = i by lia,show (4 * k + i) / 4 = k by lia]).1,h2,(hl hs l).1]
  · show Zz0 (zipD (l.map (·.1)) (bagG _)) = _
    rw [(key hs _ _ D fun j i k hi=>by rw [e]; show D j ((4 * k + i) % 4) ((4 * k + i) / 4) = D j i k; rw [show (4 * k + i) % 4 = i by lia,show (4 * k + i) / 4 = k by lia]).2,h2,(hl hs l).2]
noncomputable def dealtCon (hs:Hs) (sts sts':List PS) (k:Fin 6) (tt:Nat) (lst:Addr) (ep:Nat) (tb:Addr) (g:Nat→Nat→Nat):Con where
  pre:=[(762,Zz8 775 20 (some tb)),(lst,Zqz (Zxb sts g) ep)]
  post x:=[(762,Zz8 775 20 (some (x.nat 4)))]
  fresh x:=[(x.nat 2,Zqz (Zxb sts' (x.seq 0)) (x.nat 3))]
  preB:=[Zz6 hs sts g]
  postB x:=[Zz6 hs sts' (x.seq 0)]
  code:=.call (.ref 917) ⟨[.ref lst,.str (S (Zzc k)) tt],[]⟩
  res x:=.ok (.ret (.ref (x.nat 2)))
  need:=95
  fr:=none
theorem dealt_ok {prog:Program} {w:World} {b:Bool} {R:RO} (hsm:R.small) {k:Fin 6} {sts:List PS} (hfit:∀ ps ∈ sts,Fit prog w b ps) (hlen:sts.length < sizeLine) (tt:Nat) (lst:Addr) (ep:Nat) (tb:Addr) (g:Nat→Nat→Nat) (n t:Nat) :
    Zq1 (T3 R) prog (wb w b) n t (dealtCon (hz (wb w b)) sts (dealt R.rk k sts) k tt lst ep tb g):=by
  refine ⟨fun h₀ h r g0 A Rz G hA O hs hR=>?_⟩
  have hf:=zipD_fst sts (bagG g)
  refine dealt_core hsm (tb:=tb) (ep:=ep) (l:=zipD sts (bagG g)) (fun q hq=>hfit q.1 (by rw [← hf]; exact List.mem_map_of_mem hq)) (by rw [← List.length_map (f:=(·.1)),hf]; exact hlen) hA G (O.perm ?_) hs fun lst' ep' c l' h' t' g' O' hn ht hg hl=>?_
  · show List.Perm ([(762,Zz8 775 20 (some tb)),(lst,Zqz (Zxb sts g) ep)]++(Zxc (hz (wb w b)) sts g++[])) _
    rw [List.append_nil]
    exact .refl _
  · rw [hf] at hl
    obtain ⟨g1,e1,e2⟩:=bag_ex (hz (wb w b)) l'
    rw [hl] at e1 e2
    have fin:=hR ⟨fun j=>match j with | 0=>h'.objs.size - n | 1=>t' - t | 2=>lst' | 3=>ep' | _=>c,fun _=>#[],fun _=>g1,Ext.nil.ob⟩ h' g' ?_ (by show h'.objs.size = n + (h'.objs.size - n); lia) hg
    · have et:t + (t' - t) = t':=by lia
      have fin:Rz (.ok (.ret (.ref lst'))) (r.at h' ⟨t + (t' - t),g'⟩):=fin
      rw [et] at fin
      exact fin
    · show Own h₀ (([(lst',Zqz (Zxb (dealt R.rk k sts) g1) ep')]++[(762,Zz8 775 20 (some c))])++(Zxc (hz (wb w b)) (dealt R.rk k sts) g1++[])) h'
      rw [e1,e2]
      refine O'.perm ?_
      (refine Zqv fun _=>?_; simp +arith only [Zqj,Zqk,Zqc])
noncomputable def Zkf (top:Addr→Option Obj) (fr:Addr):Env:=fnEnv top 60 59 "reduce.<locals>." fr
noncomputable def rdF3 (w:Hs) (ft:Nat→Nat) (sq l0:Addr):Obj:={ cls:=.type "frame",data:=.dict #[ent w "function" (ft 0) (.ref 917),ent w "sequence" (ft 1) (.ref sq),ent w "initial" (ft 2) (.ref l0)] 3 }
noncomputable def rdF5 (w:Hs) (ft:Nat→Nat) (sq l0 it v:Addr):Obj:={ cls:=.type "frame",data:=.dict #[ent w "function" (ft 0) (.ref 917),ent w "sequence" (ft 1) (.ref sq),ent w "initial" (ft 2) (.ref l0),ent w "it" (ft 3) (.ref it),ent w "value" (ft 4) (.ref v)] 5 }
noncomputable def rdF6 (w:Hs) (ft:Nat→Nat) (sq l0 it v:Addr) (W:List Nat) (tt:Nat):Obj:={ cls:=.type "frame",data:=.dict #[ent w "function" (ft 0) (.ref 917),ent w "sequence" (ft 1) (.ref sq),ent w "initial" (ft 2) (.ref l0),ent w "it" (ft 3) (.ref it),ent w "value" (ft 4) (.ref v),ent w "element" (ft 5) (.str (S W) tt)] 6 }
noncomputable def rdF (w:Hs) (ft:Nat→Nat) (sq l0 it v:Addr):Option (List Nat × Nat)→Obj
  | none=>rdF5 w ft sq l0 it v
  | some u=>rdF6 w ft sq l0 it v u.1 u.2
noncomputable def rdPrep (w:Hs) (top:Addr→Option Obj) (prep:Addr→FuncData→Args→Sem Env) (sq l0:Addr) (n t:Nat):Zq2 Env where
  pre:=[]
  post _:=[]
  fresh x:=[(n,rdF3 w (fun j=>x.nat (j + 2)) sq l0)]
  tree:=prep 60 (Zxv top 60) ⟨[.ref 917,.ref sq,.ref l0],[]⟩
  res _:=.ok (Zkf top n)
  need:=20
  fr:=none
noncomputable def rdSt (top:Addr→Option Obj) (k:Nat):Stmt:=Zqt (Zxv top 60) k
noncomputable def rdS (w:Hs) (top:Addr→Option Obj) (exs:List Stmt→Env→Sem Flow) (fr:Addr) (ft:Nat→Nat) (sq l0:Addr) (its li:List Value) (ep el n t:Nat):Zq2 Flow where
  pre:=[(fr,rdF3 w ft sq l0),(sq,Zqz its ep),(l0,Zqz li el)]
  post x:=[(fr,rdF5 w (fun j=>x.nat (j + 3)) sq l0 (x.nat 2) l0),(sq,Zqz its ep),(l0,Zqz li el)]
  fresh x:=[(x.nat 2,Zx4 sq 0)]
  tree:=exs [rdSt top 0,rdSt top 1] (Zkf top fr)
  res _:=.ok .next
  need:=40
  fr:=none
noncomputable def rdI (w:Hs) (top:Addr→Option Obj) (ev:Expr→Env→Sem Value) (fs:Expr→Env→Value→Sem Value) (pi:Value→Sem Value) (fr:Addr) (ft:Nat→Nat) (sq l0 it v:Addr) (n t:Nat):Zq2 Value where
  pre:=[(fr,rdF5 w ft sq l0 it v),(it,Zx4 sq 0)]
  post _:=[(fr,rdF5 w ft sq l0 it v),(it,Zx4 sq 0)]
  fresh _:=[]
  tree:=forIt ev fs pi (Zv7 (rdSt top 2)) (Zkf top fr)
  res _:=.ok (.ref it)
  need:=40
  fr:=none
noncomputable def rdE (w:Hs) (top:Addr→Option Obj) (asg:Expr→Env→Value→Sem Unit) (fr:Addr) (ft:Nat→Nat) (sq l0 it v:Addr) (o:Option (List Nat × Nat)) (W:List Nat) (tt n t:Nat):Zq2 Unit where
  pre:=[(fr,rdF w ft sq l0 it v o)]
  post x:=[(fr,rdF6 w (fun j=>x.nat (j + 2)) sq l0 it v W tt)]
  fresh _:=[]
  tree:=asg (Zzd (rdSt top 2)) (Zkf top fr) (.str (S W) tt)
  res _:=.ok ()
  need:=40
  fr:=none
noncomputable def rdB (w:Hs) (top:Addr→Option Obj) (exs:List Stmt→Env→Sem Flow) (fr:Addr) (ft:Nat→Nat) (sq l0 it v:Addr) (sts sts':List PS) (k:Fin 6) (tt ep:Nat) (tb:Addr) (g:Nat→Nat→Nat) (n t:Nat):Zq2 Flow where
  pre:=[(fr,rdF6 w ft sq l0 it v (Zzc k) tt),(762,Zz8 775 20 (some tb)),(v,Zqz (Zxb sts g) ep)]
  post x:=[(fr,rdF6 w ft sq l0 it (x.nat 2) (Zzc k) tt),(762,Zz8 775 20 (some (x.nat 4)))]
  fresh x:=[(x.nat 2,Zqz (Zxb sts' (x.seq 0)) (x.nat 3))]
  preB:=[Zz6 w sts g]
  postB x:=[Zz6 w sts' (x.seq 0)]
  tree:=exs (Zj3 (rdSt top 2)) (Zkf top fr)
  res _:=.ok .next
  need:=110
  fr:=none
noncomputable def rdR (w:Hs) (top:Addr→Option Obj) (exs:List Stmt→Env→Sem Flow) (fr:Addr) (ft:Nat→Nat) (sq l0 it v:Addr) (o:Option (List Nat × Nat)) (n t:Nat):Zq2 Flow where
  pre:=[(fr,rdF w ft sq l0 it v o)]
  post _:=[(fr,rdF w ft sq l0 it v o)]
  fresh _:=[]
  tree:=exs [rdSt top 3] (Zkf top fr)
  res _:=.ok (.ret (.ref v))
  need:=40
  fr:=none
noncomputable def dealtFam (w:Hs) (sts sts':List PS) (k:Fin 6) (tt:Nat) (lst:Addr) (ep:Nat) (tb:Addr) (g:Nat→Nat→Nat):Fam:=fun _ _ _ _ _=>dealtCon w sts sts' k tt lst ep tb g
noncomputable def keysEx {α:Type} (_:Except Value α) (l:List (Option (Addr × Obj))) (_:List (Option Bag)):Ext:=exN fun j=>Zj2 l 0 j
noncomputable def rdSEx (_:Except Value Flow) (l:List (Option (Addr × Obj))) (_:List (Option Bag)):Ext:=exN fun j=>match j with
  | 0=>adOf (oAt l 0)
  | j + 1=>Zj2 l 1 j
noncomputable def exT0 {α:Type} (f:Nat→Ext) (_:Except Value α) (_:List (Option (Addr × Obj))) (_:List (Option Bag)):Ext:=match f 0 with | ⟨nt,sl,sq,ob⟩=>⟨fun j=>nt (j + 2),sl,sq,ob⟩
noncomputable def orc_RP:List Nat:=[0,0,1,1,1,1,1,1]
noncomputable def orc_RS:List Nat:=Zxh 16 20 0x22204022210202200100
noncomputable def orc_RI:List Nat:=[1,2,2,0,2,0,2]
noncomputable def orc_RE:List Nat:=[1,1]
noncomputable def orc_RB:List Nat:=Zxh 16 12 0x330121210111
noncomputable def orc_RR:List Nat:=[1]
theorem RP_v (prog:Program) (w:World) (b:Bool) (R:RO) (sq l0 n t:Nat) (f:Nat→Ext) :
    Zqh [0] [] (rdPrep (hz (wb w b)) (Zqd R (wb w b)) Zjw sq l0 n t) keysEx [] (Zzz (T3 R) prog (wb w b) n t [] [] (rdPrep (hz (wb w b)) (Zqd R (wb w b)) Zjw sq l0 n t) orc_RP f):=by cases b <;> kernel_rfl
theorem RS_v (prog:Program) (w:World) (b:Bool) (R:RO) (fr:Addr) (ft:Nat→Nat) (sq l0:Nat) (its li:List Value) (ep el n t:Nat) (f:Nat→Ext) :
    Zqh [0,1,2,3] [] (rdS (hz (wb w b)) (Zqd R (wb w b)) Zqm fr ft sq (l0 + 53) its li ep el n t) rdSEx [] (Zzz (T3 R) prog (wb w b) n t [] [] (rdS (hz (wb w b)) (Zqd R (wb w b)) Zqm fr ft sq (l0 + 53) its li ep el n t) orc_RS f):=by cases b <;> kernel_rfl
theorem RI_v (prog:Program) (w:World) (b:Bool) (R:RO) (fr:Addr) (ft:Nat→Nat) (sq l0 it v n t:Nat) (f:Nat→Ext) :
    Zqh [0,1] [] (rdI (hz (wb w b)) (Zqd R (wb w b)) Zq9 fsiZ Zjq fr ft sq l0 it v n t) (fun _ _ _=>exN fun _=>0) [] (Zzz (T3 R) prog (wb w b) n t [] [] (rdI (hz (wb w b)) (Zqd R (wb w b)) Zq9 fsiZ Zjq fr ft sq l0 it v n t) orc_RI f):=by cases b <;> kernel_rfl
theorem RE5_v (prog:Program) (w:World) (b:Bool) (R:RO) (fr:Addr) (ft:Nat→Nat) (sq l0 it v:Nat) (W:List Nat) (tt n t:Nat) (f:Nat→Ext) :
    Zqh [0] [] (rdE (hz (wb w b)) (Zqd R (wb w b)) Zqg fr ft sq l0 it v none W tt n t) keysEx [] (Zzz (T3 R) prog (wb w b) n t [] [] (rdE (hz (wb w b)) (Zqd R (wb w b)) Zqg fr ft sq l0 it v none W tt n t) orc_RE f):=by cases b <;> kernel_rfl
theorem RE6_v (prog:Program) (w:World) (b:Bool) (R:RO) (fr:Addr) (ft:Nat→Nat) (sq l0 it v:Nat) (u:List Nat × Nat) (W:List Nat) (tt n t:Nat) (f:Nat→Ext) :
    Zqh [0] [] (rdE (hz (wb w b)) (Zqd R (wb w b)) Zqg fr ft sq l0 it v (some u) W tt n t) keysEx [] (Zzz (T3 R) prog (wb w b) n t [] [] (rdE (hz (wb w b)) (Zqd R (wb w b)) Zqg fr ft sq l0 it v (some u) W tt n t) orc_RE f):=by cases b <;> kernel_rfl
theorem RB_v (prog:Program) (w:World) (b:Bool) (R:RO) (fr:Addr) (ft:Nat→Nat) (sq l0 it v:Nat) (sts sts':List PS) (k:Fin 6) (tt ep:Nat) (tb:Addr) (g:Nat→Nat→Nat) (n t:Nat) (f:Nat→Ext) :
    Zqh [0,2,1] [0] (rdB (hz (wb w b)) (Zqd R (wb w b)) Zqm fr ft sq l0 it v sts sts' k tt ep tb g n t) (exT0 f) [] (Zzz (T3 R) prog (wb w b) n t [] [dealtFam (hz (wb w b)) sts sts' k tt v ep tb g] (rdB (hz (wb w b)) (Zqd R (wb w b)) Zqm fr ft sq l0 it v sts sts' k tt ep tb g n t) orc_RB f):=by cases b <;> kernel_rfl
theorem RR_v (prog:Program) (w:World) (b:Bool) (R:RO) (fr:Addr) (ft:Nat→Nat) (sq l0 it v:Nat) (o:Option (List Nat × Nat)) (n t:Nat) (f:Nat→Ext) :
    Zqh [0] [] (rdR (hz (wb w b)) (Zqd R (wb w b)) Zqm fr ft sq l0 it v o n t) (fun _ _ _=>exN fun _=>0) [] (Zzz (T3 R) prog (wb w b) n t [] [] (rdR (hz (wb w b)) (Zqd R (wb w b)) Zqm fr ft sq l0 it v o n t) orc_RR f):=by cases b <;> cases o <;> kernel_rfl
noncomputable def PS.cont (ps:PS):List (Fin 6):=ps.pbl++ps.ws.map (·.1)
structure Good (prog:Program) (w:World) (b:Bool) (sts:List PS) (m:Nat):Prop where
  pile:∀ ps ∈ sts,Zk5 prog w b ps∧ps.cont≠[]∧ps.cont.length≤m
  len:sts.length≤m
section
variable {prog:Program} {w:World} {b:Bool}
theorem look_is {ps:PS} (h:ps.cont≠[]) (hok:Zk5 prog w b ps):∃ u ps1,ps.look = some (u,ps1)∧ps1.cont = ps.cont∧ps.cont.head? = some u∧Zk5 prog w b ps1:=by
  obtain ⟨buf,s,ws,se,pbl⟩:=ps
  cases pbl with
  | cons u pr=>exact ⟨u,_,rfl,rfl,rfl,hok⟩
  | nil =>
    cases ws with
    | nil=>exact absurd rfl h
    | cons p r =>
      obtain ⟨u,s1⟩:=p
      exact ⟨u,_,rfl,rfl,rfl,fun L h1 h2=>(hok L h1 h2).2.2⟩
theorem Good.fit {sts:List PS} {m:Nat} (h:Good prog w b sts m) (hm:m < 20):∀ ps ∈ sts,Fit prog w b ps:=fun ps hp=>by
  obtain ⟨h1,h2,h3⟩:=h.pile ps hp
  obtain ⟨u,ps1,e,-⟩:=look_is h2 h1
  refine ⟨h1,?_,u,ps1,e⟩
  have:ps.cont.length = ps.pbl.length + ps.ws.length:=by simp [PS.cont]
  lia
theorem qd_len:∀ k:Fin 6,(Zvw k).length < 2 ^ 63:=by decide +kernel
theorem quoted_rt {L:Lx} (u:List Nat) (hl:L.buf.length < 2 ^ 63) (hc:L.cm = "#") (hb:L.buf = 39::(esc u++[39])) (hn:lines u 1 = 1) (hu:u.length≤sizeLine):RtOk prog w b L ⟨0,some (S [32]),1⟩ ⟨L.buf.length,none,1⟩ (some (S u)):=by
  have c1:Zjx L.cm (S [39]) = false:=by rw [hc]; kernel_rfl
  have c2:Zjx L.cm (S [34]) = false:=by rw [hc]; kernel_rfl
  have he:Ends L (0 + 1 + (esc u).length + 1) L.buf.length none:=by
    have e:0 + 1 + (esc u).length + 1 = L.buf.length:=by rw [hb]; simp; lia
    rw [e]
    exact .eof (by simp)
  have z:=rt_quoted (prog:=prog) (w:=w) (b:=b) (ln:=1) hl c1 c2 u (rest:=[]) (by rw [List.drop_zero]; exact hb) he hu
  rw [hn] at z
  exact z
theorem newPS_rt:∀ (k:Fin 6) (L:Lx),L.buf = Zvw k→L.cm = "#" → RtOk prog w b L ⟨0,some (S [32]),1⟩ ⟨L.buf.length,none,1⟩ (some (S (Zzc k)))
  | 0,L,hb,hc=>by
    have hl:L.buf.length < 2 ^ 63:=by rw [hb]; exact qd_len 0
    have hs:∀ d ∈ [97],Safe L.cm d:=fun d hd=>by
      simp only [List.mem_cons,List.not_mem_nil,or_false] at hd
      subst hd
      rw [hc]
      exact ⟨by decide,by kernel_rfl,by kernel_rfl,by kernel_rfl,by decide⟩
    have he:Ends L (0 + 1 + ([]:List Nat).length) L.buf.length none:=by
      have e:0 + 1 + ([]:List Nat).length = L.buf.length:=by rw [hb]; rfl
      rw [e]
      exact .eof (by simp)
    exact rt_safe (prog:=prog) (w:=w) (b:=b) hl 97 [] hs (p:=0) (ln:=1) (rest:=[]) (by rw [hb]; rfl) he (show 1≤sizeLine by decide +kernel)
  | 1,L,hb,hc=>quoted_rt (Zzc 1) (by rw [hb]; exact qd_len 1) hc hb rfl (show 4≤sizeLine by decide +kernel)
  | 2,L,hb,hc=>quoted_rt (Zzc 2) (by rw [hb]; exact qd_len 2) hc hb rfl (show 0≤sizeLine by decide +kernel)
  | 3,L,hb,hc=>quoted_rt (Zzc 3) (by rw [hb]; exact qd_len 3) hc hb rfl (show 3≤sizeLine by decide +kernel)
  | 4,L,hb,hc=>quoted_rt (Zzc 4) (by rw [hb]; exact qd_len 4) hc hb rfl (show 1≤sizeLine by decide +kernel)
  | 5,L,hb,hc=>quoted_rt (Zzc 5) (by rw [hb]; exact qd_len 5) hc hb rfl (show 1≤sizeLine by decide +kernel)
theorem newPS_ok (k:Fin 6):Zk5 prog w b (newPS k):=by
  intro L h1 h2
  have hb:L.buf = Zvw k:=h1
  have hl:L.buf.length < 2 ^ 63:=by rw [hb]; exact qd_len k
  have z:=newPS_rt (prog:=prog) (w:=w) (b:=b) k L hb h2
  have hend:RtOk prog w b L ⟨L.buf.length,none,1⟩ ⟨L.buf.length,none,1⟩ none:=rt_past hl (by simp)
  rw [hb] at z hend
  exact ⟨⟨_,_,_,rfl⟩,z,hend⟩
theorem Good.deal {r:Fin 6→Int} {k:Fin 6} {sts:List PS} {m:Nat} (h:Good prog w b sts m):Good prog w b (dealt r k sts) (m + 1):=by
  have key:∀ (l:List PS),(∀ ps ∈ l,Zk5 prog w b ps∧ps.cont≠[]∧ps.cont.length≤m)→(∀ ps ∈ (Zzt r k l).1,Zk5 prog w b ps∧ps.cont≠[]∧ps.cont.length≤m + 1)∧(Zzt r k l).1.length = l.length:=by
    intro l
    induction l with
    | nil=>intro _; exact ⟨(fun ps h=>nomatch h),rfl⟩
    | cons ps l ih =>
      intro hl
      obtain ⟨h1,h2,h3⟩:=hl ps (.head _)
      obtain ⟨u,ps1,e,ec,-,ok1⟩:=look_is h2 h1
      obtain ⟨i1,i2⟩:=ih fun q hq=>hl q (.tail _ hq)
      rw [Zzt,e]
      dsimp only
      by_cases hc:r k≤r u
      · rw [if_pos hc]
        refine ⟨fun q hq=>?_,rfl⟩
        rcases List.mem_cons.mp hq with rfl | hq
        · refine ⟨ok1,by simp [PS.put,PS.cont],?_⟩
          have:(ps1.put k).cont = k::ps1.cont:=rfl
          rw [this,ec]; simp; exact h3
        · obtain ⟨a,b,c⟩:=hl q (.tail _ hq)
          exact ⟨a,b,by lia⟩
      · rw [if_neg hc]
        refine ⟨fun q hq=>?_,congrArg (· + 1) i2⟩
        rcases List.mem_cons.mp hq with rfl | hq
        · exact ⟨ok1,by rw [ec]; exact h2,by rw [ec]; lia⟩
        · exact i1 q hq
  obtain ⟨k1,k2⟩:=key sts h.pile
  have hlen:=h.len
  unfold dealt
  by_cases hc:(Zzt r k sts).2 = true
  · rw [if_pos hc]
    exact ⟨k1,by lia⟩
  · rw [if_neg hc]
    refine ⟨fun q hq=>?_,by simp; lia⟩
    rcases List.mem_append.mp hq with hq | hq
    · exact k1 q hq
    · rw [List.mem_singleton.mp hq]
      exact ⟨newPS_ok k,by simp [newPS,PS.cont],by simp [newPS,PS.cont]⟩
end
section
variable {prog:Program} {w:World} {b:Bool} {R:RO}
noncomputable abbrev s60 (R:RO) (w:World) (b:Bool) (k:Nat):Stmt:=rdSt (Zqd R (wb w b)) k
theorem d60:((Zqd R (wb w b) 60).bind isDef) = some (Zxv (Zqd R (wb w b)) 60):=by cases b <;> kernel_rfl
theorem body60:(Zxv (Zqd R (wb w b)) 60).body = .stmts [s60 R w b 0,s60 R w b 1,s60 R w b 2,s60 R w b 3]:=by cases b <;> kernel_rfl
theorem for60:s60 R w b 2 = .For (Zzd (s60 R w b 2)) (Zv7 (s60 R w b 2)) (Zj3 (s60 R w b 2)) [] (forPos (s60 R w b 2)):=by cases b <;> kernel_rfl
theorem tup60 (it v:Value):letOwnedTupleGo (Zzd (s60 R w b 2)) it v = pure ():=by cases b <;> kernel_rfl
theorem rp_ok (sq l0 n t:Nat):Zqn (T3 R) prog (wb w b) n t (rdPrep (hz (wb w b)) (Zqd R (wb w b)) Zjw sq l0 n t) :=
  Zqw (ex:=fun _=>keysEx) Zqq rfl rfl (RP_v prog w b R sq l0 n t) fun f q hq=>nomatch hq
theorem rs_ok (fr:Addr) (ft:Nat→Nat) (sq l0:Nat) (hne:53≤l0) (its li:List Value) (ep el n t:Nat):Zqn (T3 R) prog (wb w b) n t (rdS (hz (wb w b)) (Zqd R (wb w b)) Zqm fr ft sq l0 its li ep el n t) :=
by
  obtain ⟨x,rfl⟩:∃ x,l0 = x + 53:=⟨l0 - 53,by lia⟩
  exact Zqw (ex:=fun _=>rdSEx) Zqq rfl rfl (RS_v prog w b R fr ft sq x its li ep el n t) fun f q hq=>nomatch hq
theorem ri_ok (fr:Addr) (ft:Nat→Nat) (sq l0 it v n t:Nat):Zqn (T3 R) prog (wb w b) n t (rdI (hz (wb w b)) (Zqd R (wb w b)) Zq9 fsiZ Zjq fr ft sq l0 it v n t) :=
  Zqw (ex:=fun _ _ _ _=>exN fun _=>0) Zqq rfl rfl (RI_v prog w b R fr ft sq l0 it v n t) fun f q hq=>nomatch hq
theorem re_ok (fr:Addr) (ft:Nat→Nat) (sq l0 it v:Nat) (o:Option (List Nat × Nat)) (W:List Nat) (tt n t:Nat):Zqn (T3 R) prog (wb w b) n t (rdE (hz (wb w b)) (Zqd R (wb w b)) Zqg fr ft sq l0 it v o W tt n t):=by
  cases o with
  | none=>exact Zqw (ex:=fun _=>keysEx) Zqq rfl rfl (RE5_v prog w b R fr ft sq l0 it v W tt n t) fun f q hq=>nomatch hq
  | some u=>exact Zqw (ex:=fun _=>keysEx) Zqq rfl rfl (RE6_v prog w b R fr ft sq l0 it v u W tt n t) fun f q hq=>nomatch hq
theorem rb_ok (hsm:R.small) {sts:List PS} {m:Nat} (hg:Good prog w b sts m) (hm:m < 20) (fr:Addr) (ft:Nat→Nat) (sq l0 it v:Nat) (k:Fin 6) (tt ep:Nat) (tb:Addr) (g:Nat→Nat→Nat) (n t:Nat) :
    Zqn (T3 R) prog (wb w b) n t (rdB (hz (wb w b)) (Zqd R (wb w b)) Zqm fr ft sq l0 it v sts (dealt R.rk k sts) k tt ep tb g n t):=by
  have h20:20≤sizeLine:=by decide +kernel
  have hlen:sts.length < sizeLine:=Nat.lt_of_le_of_lt hg.len (Nat.lt_of_lt_of_le hm h20)
  have hC:Zx1 (T3 R) prog (wb w b) [dealtFam (hz (wb w b)) sts (dealt R.rk k sts) k tt v ep tb g]:=Zqx (fun n' t' c l bb=>dealt_ok hsm (hg.fit hm) hlen tt v ep tb g n' t') Zqq
  exact Zqw (ex:=exT0) hC rfl rfl (RB_v prog w b R fr ft sq l0 it v sts (dealt R.rk k sts) k tt ep tb g n t) fun f q hq=>nomatch hq
theorem rr_ok (fr:Addr) (ft:Nat→Nat) (sq l0 it v:Nat) (o:Option (List Nat × Nat)) (n t:Nat):Zqn (T3 R) prog (wb w b) n t (rdR (hz (wb w b)) (Zqd R (wb w b)) Zqm fr ft sq l0 it v o n t) :=
  Zqw (ex:=fun _ _ _ _=>exN fun _=>0) Zqq rfl rfl (RR_v prog w b R fr ft sq l0 it v o n t) fun f q hq=>nomatch hq
noncomputable def deals (r:Fin 6→Int) (ks:List (Fin 6)) (sts:List PS):List PS:=ks.foldl (fun s k=>dealt r k s) sts
theorem Good.deals {r:Fin 6→Int}:∀ (ks:List (Fin 6)) {sts:List PS} {m:Nat},Good prog w b sts m→Good prog w b (Mine.deals r ks sts) (m + ks.length)
  | [],_,_,h=>h
  | k::ks,sts,m,h=>by
    have z:=Good.deals (r:=r) ks (h.deal (r:=r) (k:=k))
    have e:m + (k::ks).length = m + 1 + ks.length:=by simp; lia
    rw [e]
    exact z
noncomputable def wdV (ks:List (Fin 6)) (tk:Nat→Nat):List Value:=wsV (ks.map fun k=>S (Zzc k)) tk
theorem wdV_get:∀ (ks:List (Fin 6)) (tk:Nat→Nat) (i:Nat) (k:Fin 6),ks[i]? = some k→(wdV ks tk)[i]? = some (.str (S (Zzc k)) (tk i))
  | [],_,_,_,h=>by cases h
  | _::_,_,0,_,h=>by cases h; rfl
  | _::r,tk,i + 1,k,h=>wdV_get r (fun j=>tk (j + 1)) i k h
theorem Zzk (ks:List (Fin 6)) (tk:Nat→Nat):(wdV ks tk).length = ks.length:=by rw [wdV,Zvg,List.length_map]
theorem rd_loop (hsm:R.small) {fr sq l0 it:Nat} {es:Nat} {ks:List (Fin 6)} {tk:Nat→Nat} {A:Around} (hA:AOk A none 120) {h₀:Heap} (G:Ground (T3 R) (wb w b) h₀) {r:Zkc} {g₀:Array GenState} {n₀ t₀:Nat} (hfr:n₀≤fr) {fin:List PS} {Rz:Result→Shared→Prop}
    (hend:∀ v el tb g ft o h' t' g',Own h₀ ((fr,rdF (hz (wb w b)) ft sq l0 it v o)::(sq,Zqz (wdV ks tk) es)::(762,Zz8 775 20 (some tb))::(v,Zqz (Zxb fin g) el)::Zxc (hz (wb w b)) fin g) h'→n₀≤h'.objs.size→t₀≤t'→Zq5 true g₀ g'→Rz (.ok .next) (r.at h' ⟨t',g'⟩))
    (rest:List (Fin 6)) (i:Nat) (hrest:ks.drop i = rest) (hi:i≤ks.length) {v el:Nat} {tb:Addr} {sts:List PS} {m:Nat} {gg:Nat→Nat→Nat} {ft:Nat→Nat} {o:Option (List Nat × Nat)} {oi:Obj} {h:Heap} {t:Nat} {g:Array GenState}
    (hgd:Good prog w b sts m) (hm:m + rest.length≤20) (hfin:fin = deals R.rk rest sts) (hit:IsIt oi sq i)
    (O:Own h₀ ((it,oi)::(fr,rdF (hz (wb w b)) ft sq l0 it v o)::(sq,Zqz (wdV ks tk) es)::(762,Zz8 775 20 (some tb))::(v,Zqz (Zxb sts gg) el)::Zxc (hz (wb w b)) sts gg) h) (hn:n₀≤h.objs.size) (ht:t₀≤t) (hg:Zq5 true g₀ g) :
    codeAny (model prog (wb w b)) A (.forLoop (Zzd (s60 R w b 2)) (.ref it) (Zj3 (s60 R w b 2)) [] (Zkf (Zqd R (wb w b)) fr)) Rz (r.at h ⟨t,g⟩):=by
  refine codeAny_forLoop (fun mm s=>∃ (rest:List (Fin 6)) (i:Nat) (v el:Nat) (tb:Addr) (sts:List PS) (m:Nat) (gg:Nat→Nat→Nat) (ft:Nat→Nat) (o:Option (List Nat × Nat)) (oi:Obj) (h:Heap) (t:Nat) (g:Array GenState),s = r.at h ⟨t,g⟩∧rest.length = mm∧ks.drop i = rest∧i≤ks.length∧Good prog w b sts m∧m + rest.length≤20∧fin = deals R.rk rest sts∧IsIt oi sq i ∧
      Own h₀ ((it,oi)::(fr,rdF (hz (wb w b)) ft sq l0 it v o)::(sq,Zqz (wdV ks tk) es)::(762,Zz8 775 20 (some tb))::(v,Zqz (Zxb sts gg) el)::Zxc (hz (wb w b)) sts gg) h∧n₀≤h.objs.size∧t₀≤t∧Zq5 true g₀ g) ?_ rest.length
    ⟨rest,i,v,el,tb,sts,m,gg,ft,o,oi,h,t,g,rfl,rfl,hrest,hi,hgd,hm,hfin,hit,O,hn,ht,hg⟩ (fun v=>tup60 _ v)
  rintro mm s ⟨rest,i,v,el,tb,sts,m,gg,ft,o,oi,h,t,g,rfl,rfl,hrest,hi,hgd,hm,hfin,hit,O,hn,ht,hg⟩
  cases rest with
  | nil =>
    have hlen:ks.length≤i:=by
      have:=congrArg List.length hrest
      simp at this
      lia
    refine it_end hA.hand O hit (.tail _ (.head _)) (by rw [Zzk]; exact hlen) fun h' O'=>?_
    refine wpAny_execs_nil ?_
    have hz':(fr:Nat) < h'.objs.size:=Heap.lt_size (O'.own _ (.head _))
    have hf:fin = sts:=hfin
    subst hf
    exact hend v el tb gg ft o h' t g O' (Nat.le_of_lt (Nat.lt_of_le_of_lt hfr hz')) ht hg
  | cons k rest =>
    have hk:ks[i]? = some k:=by
      have:=congrArg List.head? hrest
      simpa using this
    refine it_next O hit (.tail _ (.head _)) (wdV_get ks tk i k hk) fun h1 oi1 O1 hi1 hs1=>?_
    have e1:(rdE (hz (wb w b)) (Zqd R (wb w b)) Zqg fr ft sq l0 it v o (Zzc k) (tk i) h1.objs.size t).tree = assign (Zzd (s60 R w b 2)) (Zkf (Zqd R (wb w b)) fr) (.str (S (Zzc k)) (tk i)):=by
      unfold rdE
      dsimp only
      rw [Zxk]
    show wpAny _ A (assign (Zzd (s60 R w b 2)) (Zkf (Zqd R (wb w b)) fr) (.str (S (Zzc k)) (tk i))) _ _ _
    refine eqT e1 ?_
    refine (re_ok fr ft sq l0 it v o (Zzc k) (tk i) h1.objs.size t).use (rest:=(it,oi1)::(sq,Zqz (wdV ks tk) es)::(762,Zz8 775 20 (some tb))::(v,Zqz (Zxb sts gg) el)::Zxc (hz (wb w b)) sts gg) G (hA.bare (by show 40≤120; lia)) O1 ?_ rfl fun x h2 g2 O2 hs2 gr2=>?_
    · simp only [Zq2.preA,rdE,Zqr]
      (refine Zqv fun _=>?_; simp +arith only [Zqj,Zqk,Zqc])
    · have e2:(rdB (hz (wb w b)) (Zqd R (wb w b)) Zqm fr (fun j=>x.nat (j + 2)) sq l0 it v sts (dealt R.rk k sts) k (tk i) el tb gg (h1.objs.size + x.nat 0) (t + x.nat 1)).tree = execs (Zj3 (s60 R w b 2)) (Zkf (Zqd R (wb w b)) fr):=by
        unfold rdB
        dsimp only
        rw [Zzm]
      show wpAny _ A (execs (Zj3 (s60 R w b 2)) (Zkf (Zqd R (wb w b)) fr)) _ _ _
      refine eqT e2 ?_
      have hm1:m < 20:=by simp at hm; lia
      refine (rb_ok hsm hgd hm1 fr (fun j=>x.nat (j + 2)) sq l0 it v k (tk i) el tb gg (h1.objs.size + x.nat 0) (t + x.nat 1)).use (rest:=(it,oi1)::(sq,Zqz (wdV ks tk) es)::[]) G (hA.bare (by show 110≤120; lia)) O2 ?_ hs2 fun y h3 g3 O3 hs3 gr3=>?_
      · simp only [Zq2.preA,Zq2.postA,rdE,rdB,Zqr,Zz6]
        (refine Zqv fun _=>?_; simp +arith only [Zqj,Zqk,Zqc])
      · refine ⟨rest.length,Nat.lt_succ_self _,rest,i + 1,y.nat 2,y.nat 3,y.nat 4,dealt R.rk k sts,m + 1,y.seq 0,fun j=>x.nat (j + 2),some (Zzc k,tk i),oi1,h3,_,g3,rfl,rfl,?_,?_,hgd.deal,by simp at hm; lia,hfin,hi1,O3.perm ?_,by lia,by lia,Zq5.trans (d:=true) (Zq5.trans (d:=true) hg gr2 fun e=>Bool.noConfusion e) gr3 fun e=>Bool.noConfusion e⟩
        · rw [← List.drop_drop,hrest]; rfl
        · have:=List.getElem?_eq_some_iff.mp hk
          exact this.1
        · simp only [Zq2.postA,rdB,Zqr,Zz6,rdF]
          (refine Zqv fun _=>?_; simp +arith only [Zqj,Zqk,Zqc])
end
noncomputable def spL (n:Nat) (l:List (Option (Addr × Obj))) (text:List Nat) (cm:Str):Lx:=⟨n + 2,n + 1,n + 8,n + 7,n + 11,n + 12,fun k=>newEx (.ok .next) l (k + 8),text,cm⟩
noncomputable def llFam (w:Hs) (n0:Nat) (text:List Nat) (cm:Str) (s':Lt) (ws:List Str) (es:List Env):Fam:=fun n t c l _=>llCon w (spL n0 l text cm) (Zvm l) ⟨0,some (S [32]),1⟩ s' 0 0 [] ws es (foFr es l 6) n t
noncomputable def spCon (w:Hs) (top:Addr→Option Obj) (text:List Nat) (tt:Nat) (s':Lt) (ws:List Str) (E1:Env) (a1:Addr) (d1:Array DictEntry) (k1:Nat) (sl1:Array (Option Value)) (n t:Nat):Con where
  pre:=[(a1,frO d1 k1 sl1)]
  post x:=[(a1,frO d1 k1 (x.sl 1))]
  fresh x:=[(n + 13,Zqz (wsV ws (x.seq 0 0)) (x.nat 8))]
  code:=.call (.ref 760) ⟨[.str (S text) tt],[]⟩
  res _:=.ok (.ret (.ref (n + 13)))
  need:=90
  fr:=some [fe E1 a1]
noncomputable def lwG (w:Hs) (ft:Nat→Nat) (vs:List Value) (sl:Array (Option Value)):Obj:=frO ⟨lwEs w lwNames ft vs⟩ vs.length sl
noncomputable def jnCon (vs:List Value) (q:List Nat) (lst:Addr) (ep:Nat) (tb:Option Addr):Con where
  pre:=[(762,Zz8 775 20 tb),(lst,Zqz vs ep)]
  post x:=[(762,Zz8 775 20 (some (x.nat 3))),(lst,Zqz vs ep)]
  fresh _:=[]
  code:=.call (.ref 767) ⟨[.ref lst],[]⟩
  res x:=.ok (.ret (.str (S q) (x.nat 2)))
  need:=60
  fr:=none
noncomputable def jnFam (vs:List Value) (q:List Nat) (tb:Option Addr):Fam:=fun _ _ c l _=>jnCon vs q (Zx0 (Zx7 c 0)) (Zj6 (Zzf l 1)) tb
noncomputable def Zkd (cut:Int) (u:Nat):List Value:=[.ref 805,.int cut u,.ref 904,.ref 917]
noncomputable def spFamL (w:Hs) (top:Addr→Option Obj) (text:List Nat) (s':Lt) (ws:List Str) (d:Array DictEntry) (k:Nat) (sl:Array (Option Value)):Fam:=fun n t c l _=>spCon w top text (sTok c 0) s' ws (Zq4 top) 806 d k sl n t
noncomputable def lw3 (w:Hs) (top:Addr→Option Obj) (exs:List Stmt→Env→Sem Flow) (ft:Nat→Nat) (cut:Int) (u:Nat) (sl:Array (Option Value)) (ks:List (Fin 6)) (tk:Nat→Nat) (ep:Nat) (tb:Option Addr) (n t:Nat):Zq2 Flow where
  pre:=[(806,lwG w ft (Zkd cut u) sl),(807,Zzq (some (.ref 828))),(828,Zqz (wdV ks tk) ep),(762,Zz8 775 20 tb)]
  post x:=[(806,lwG w (fun j=>x.nat (j + 5)) (Zkd cut u++[.ref (x.nat 2)]) (x.sl 0)),(807,Zzq (some (.ref 828))),(828,Zqz (wdV ks tk) ep),(762,Zz8 775 20 (some (x.nat 4)))]
  fresh x:=[(x.nat 2,Zqz (wdV ks (x.seq 0 0)) (x.nat 3))]
  tree:=exs [lwS top 3] (Zq4 top)
  res _:=.ok .next
  need:=110
  fr:=some [Zq4 top]
noncomputable def lw3Ex (f:Nat→Ext) (_:Except Value Flow) (l:List (Option (Addr × Obj))) (_:List (Option Bag)):Ext:=⟨fun j=>match j with
  | 0=>adOf (oAt l 0)
  | 1=>Zj6 (Zzf l 0)
  | 2=>tbOf (Zzf l 4)
  | j=>Zj2 l 1 (j - 3),fun _=>(f 1).sl 1,(f 1).seq,Ext.nil.ob⟩
noncomputable def redCon (hs:Hs) (ks:List (Fin 6)) (sts sts':List PS) (tk:Nat→Nat) (sq l0 es el:Nat) (tb:Addr) (g:Nat→Nat→Nat):Con where
  pre:=[(762,Zz8 775 20 (some tb)),(sq,Zqz (wdV ks tk) es),(l0,Zqz (Zxb sts g) el)]
  post x:=[(762,Zz8 775 20 (some (x.nat 4)))]
  fresh x:=[(x.nat 2,Zqz (Zxb sts' (x.seq 0)) (x.nat 3))]
  preB:=[Zz6 hs sts g]
  postB x:=[Zz6 hs sts' (x.seq 0)]
  code:=.call (.ref 60) ⟨[.ref 917,.ref sq,.ref l0],[]⟩
  res x:=.ok (.ret (.ref (x.nat 2)))
  need:=130
  fr:=none
section
variable {prog:Program} {w:World} {b:Bool} {R:RO}
theorem top52:(Zqd R (wb w b) 52).isSome = true:=by cases b <;> kernel_rfl
theorem red_ok (hsm:R.small) {ks:List (Fin 6)} {sts:List PS} {m:Nat} (hgd:Good prog w b sts m) (hm:m + ks.length≤20) (tk:Nat→Nat) (sq l0 es el:Nat) (hne:53≤l0) (tb:Addr) (gg:Nat→Nat→Nat) (n t:Nat) :
    Zq1 (T3 R) prog (wb w b) n t (redCon (hz (wb w b)) ks sts (deals R.rk ks sts) tk sq l0 es el tb gg):=by
  refine ⟨fun h₀ h r g A Rz G hA O hs hR=>?_⟩
  have O:Own h₀ ((762,Zz8 775 20 (some tb))::(sq,Zqz (wdV ks tk) es)::(l0,Zqz (Zxb sts gg) el)::Zxc (hz (wb w b)) sts gg) h:=O.perm (by
    simp only [Con.preA,redCon,Zqr,Zz6]
    (refine Zqv fun _=>?_; simp +arith only [Zqj,Zqk,Zqc]))
  have hA:AOk A none 130:=hA
  obtain ⟨o,ho,hd⟩:=Option.bind_eq_some_iff.mp (d60 (w:=w) (b:=b) (R:=R))
  have hcall:AOk (A.under (.call (.ref 60) ⟨[.ref 917,.ref sq,.ref l0],[]⟩)) none 129:=hA.under (Zzn rfl)
  refine fn_call (O.keep _ _ (G.top _ _ ho)) hd hcall.room ?_
  have e2:(rdPrep (hz (wb w b)) (Zqd R (wb w b)) Zjw sq l0 n t).tree = Zkz 60 (Zxv (Zqd R (wb w b)) 60) ⟨[.ref 917,.ref sq,.ref l0],[]⟩:=by
    unfold rdPrep
    exact congrFun (congrFun (congrFun Zvv 60) (Zxv (Zqd R (wb w b)) 60)) ⟨[.ref 917,.ref sq,.ref l0],[]⟩
  refine eqT e2 ?_
  refine (rp_ok sq l0 n t).use (rest:=(762,Zz8 775 20 (some tb))::(sq,Zqz (wdV ks tk) es)::(l0,Zqz (Zxb sts gg) el)::Zxc (hz (wb w b)) sts gg) G (hcall.bare (by show 20≤129; lia)) O (.refl _) hs fun x h1 g1 O1 hs1 gr1=>⟨G.nolimit.keeps O1.keep,?_⟩
  generalize hft:(fun j=>x.nat (j + 2)) = ft at O1
  have O1:Own h₀ ((n,rdF3 (hz (wb w b)) ft sq l0)::(762,Zz8 775 20 (some tb))::(sq,Zqz (wdV ks tk) es)::(l0,Zqz (Zxb sts gg) el)::Zxc (hz (wb w b)) sts gg) h1:=by
    subst hft; exact O1
  show codeAny _ A (Zjm (Zxv (Zqd R (wb w b)) 60) (Zkf (Zqd R (wb w b)) n)) _ _
  unfold Zjm
  rw [body60]
  dsimp only
  have hfun:AOk (A.under (.func [s60 R w b 0,s60 R w b 1,s60 R w b 2,s60 R w b 3] (Zkf (Zqd R (wb w b)) n))) none 129:=(hA.under (Zzn rfl)).bare (Nat.le_refl _)
  generalize hA2:A.under (.func [s60 R w b 0,s60 R w b 1,s60 R w b 2,s60 R w b 3] (Zkf (Zqd R (wb w b)) n)) = A2 at hfun
  refine fn_body ?_
  have e4:execs [s60 R w b 0,s60 R w b 1,s60 R w b 2,s60 R w b 3] (Zkf (Zqd R (wb w b)) n) = (execs [s60 R w b 0,s60 R w b 1] (Zkf (Zqd R (wb w b)) n) >>= fun f=>match f with | .next=>execs [s60 R w b 2,s60 R w b 3] (Zkf (Zqd R (wb w b)) n) | f=>pure f):=by
    generalize s60 R w b 0 = a0
    generalize s60 R w b 1 = a1
    generalize s60 R w b 2 = a2
    generalize s60 R w b 3 = a3
    generalize Zkf (Zqd R (wb w b)) n = env
    rw [Zz7,Zz7 a0 [a1],Zj4,bind_assoc]
    refine congrArg _ (funext fun f=>?_)
    cases f with
    | next=>exact Zz7 a1 [a2,a3] env
    | _=>rfl
  rw [hA2,e4]
  refine wpAny_bind ?_
  have e3:(rdS (hz (wb w b)) (Zqd R (wb w b)) Zqm n ft sq l0 (wdV ks tk) (Zxb sts gg) es el (n + x.nat 0) (t + x.nat 1)).tree = execs [s60 R w b 0,s60 R w b 1] (Zkf (Zqd R (wb w b)) n):=by
    unfold rdS
    dsimp only
    rw [Zzm]
  refine eqT e3 ?_
  refine (rs_ok n ft sq l0 hne (wdV ks tk) (Zxb sts gg) es el (n + x.nat 0) (t + x.nat 1)).use (rest:=(762,Zz8 775 20 (some tb))::Zxc (hz (wb w b)) sts gg) G (hfun.bare (by show 40≤129; lia)) O1 ?_ hs1 fun y h2 g2 O2 hs2 gr2=>?_
  · simp only [Zq2.preA,rdS,Zqr]
    (refine Zqv fun _=>?_; simp +arith only [Zqj,Zqk,Zqc])
  generalize hft2:(fun j=>y.nat (j + 3)) = ft2
  have O2:Own h₀ ((y.nat 2,Zx4 sq 0)::(n,rdF5 (hz (wb w b)) ft2 sq l0 (y.nat 2) l0)::(sq,Zqz (wdV ks tk) es)::(762,Zz8 775 20 (some tb))::(l0,Zqz (Zxb sts gg) el)::Zxc (hz (wb w b)) sts gg) h2:=by
    subst hft2
    refine O2.perm ?_
    simp only [Zq2.postA,rdS,Zqr]
    (refine Zqv fun _=>?_; simp +arith only [Zqj,Zqk,Zqc])
  show wpAny _ A2 (execs [s60 R w b 2,s60 R w b 3] (Zkf (Zqd R (wb w b)) n)) _ _ _
  rw [Zz7]
  refine wpAny_bind ?_
  rw [for60,exec_For_eq]
  refine wpAny_bind (wpAny_standAt (wpAny_bind ?_))
  have e5:(rdI (hz (wb w b)) (Zqd R (wb w b)) Zq9 fsiZ Zjq n ft2 sq l0 (y.nat 2) l0 (n + x.nat 0 + y.nat 0) (t + x.nat 1 + y.nat 1)).tree = forIt eval foldedSetIterable pyIter (Zv7 (s60 R w b 2)) (Zkf (Zqd R (wb w b)) n):=by
    unfold rdI
    dsimp only
    rw [Zzx,fsiZ_eq,pyIterZ_eq]
  refine eqT e5 ?_
  refine (ri_ok n ft2 sq l0 (y.nat 2) l0 (n + x.nat 0 + y.nat 0) (t + x.nat 1 + y.nat 1)).use (rest:=(sq,Zqz (wdV ks tk) es)::(762,Zz8 775 20 (some tb))::(l0,Zqz (Zxb sts gg) el)::Zxc (hz (wb w b)) sts gg) G (hfun.bare (by show 40≤129; lia)) O2 ?_ hs2 fun z h3 g3 O3 hs3 gr3=>?_
  · simp only [Zq2.preA,rdI,Zqr]
    (refine Zqv fun _=>?_; simp +arith only [Zqj,Zqk,Zqc])
  have O3:Own h₀ ((y.nat 2,Zx4 sq 0)::(n,rdF (hz (wb w b)) ft2 sq l0 (y.nat 2) l0 none)::(sq,Zqz (wdV ks tk) es)::(762,Zz8 775 20 (some tb))::(l0,Zqz (Zxb sts gg) el)::Zxc (hz (wb w b)) sts gg) h3:=by
    refine O3.perm ?_
    simp only [Zq2.postA,rdI,Zqr,rdF]
    (refine Zqv fun _=>?_; simp +arith only [Zqj,Zqk,Zqc])
  show wpAny _ A2 (runOwn (.forLoop (Zzd (s60 R w b 2)) (.ref (y.nat 2)) (Zj3 (s60 R w b 2)) [] (Zkf (Zqd R (wb w b)) n)) (Zkf (Zqd R (wb w b)) n)) _ _ _
  refine wpAny_runOwn ?_
  refine rd_loop hsm (n₀:=n) (t₀:=t) (g₀:=g) (fin:=deals R.rk ks sts) (hfun.bare (by lia)) G (Nat.le_refl _) ?_ ks 0 rfl (Nat.zero_le _) hgd hm rfl ⟨rfl,rfl⟩ O3 (by lia) (by lia) (Zq5.trans (d:=true) (Zq5.trans (d:=true) gr1 gr2 fun e=>Bool.noConfusion e) gr3 fun e=>Bool.noConfusion e)
  intro v el' tb' g' ft' o' h' t' gs' O' hn' ht' hg'
  show wpAny _ A2 (execs [s60 R w b 3] (Zkf (Zqd R (wb w b)) n)) _ _ _
  have e6:(rdR (hz (wb w b)) (Zqd R (wb w b)) Zqm n ft' sq l0 (y.nat 2) v o' h'.objs.size t').tree = execs [s60 R w b 3] (Zkf (Zqd R (wb w b)) n):=by
    unfold rdR
    dsimp only
    rw [Zzm]
  refine eqT e6 ?_
  refine (rr_ok n ft' sq l0 (y.nat 2) v o' h'.objs.size t').use (rest:=(sq,Zqz (wdV ks tk) es)::(762,Zz8 775 20 (some tb'))::(v,Zqz (Zxb (deals R.rk ks sts) g') el')::Zxc (hz (wb w b)) (deals R.rk ks sts) g') G (hfun.bare (by show 40≤129; lia)) O' (.refl _) rfl fun u h4 g4 O4 hs4 gr4=>?_
  have fin:=hR ⟨fun j=>match j with | 0=>h4.objs.size - n | 1=>t' + u.nat 1 - t | 2=>v | 3=>el' | _=>tb',fun _=>#[],fun _=>g',Ext.nil.ob⟩ h4 g4 ?_ (by show h4.objs.size = n + (h4.objs.size - n); lia) (Zq5.trans (d:=true) hg' gr4 fun e=>Bool.noConfusion e)
  · have et:t + (t' + u.nat 1 - t) = t' + u.nat 1:=by lia
    have fin:Rz (.ok (.ret (.ref v))) (r.at h4 ⟨t + (t' + u.nat 1 - t),g4⟩):=fin
    rw [et] at fin
    exact fin
  · show Own h₀ (([(v,Zqz (Zxb (deals R.rk ks sts) g') el')]++[(762,Zz8 775 20 (some tb'))])++(Zxc (hz (wb w b)) (deals R.rk ks sts) g'++[])) h4
    refine Own.drop (r:=[(n,rdF (hz (wb w b)) ft' sq l0 (y.nat 2) v o'),(sq,Zqz (wdV ks tk) es)]) (O4.perm ?_)
    simp only [Zq2.postA,rdR,Zqr]
    (refine Zqv fun _=>?_; simp +arith only [Zqj,Zqk,Zqc])
end
noncomputable def asgVal (s:Stmt):Expr:=match s with
  | .Assign _ e _=>e
  | _=>.Name "" default
noncomputable def Zkh (e:Expr) (k:Nat):Expr:=match e with
  | .Call _ as _ _=>match as.drop k with
    | a::_=>a
    | []=>.Name "" default
  | _=>.Name "" default
noncomputable def Zxn (top:Addr→Option Obj) (e:Expr) (loc:Addr) (cells:List (Str × Addr)):Env:={ scope:=Zv6 (Zq4 top) e,locals:=loc,globals:=3,cells:=cells,qual := "law.<locals>.",func:=none,code:=.ref 803,frame:=some 806,builtins:=0 }
noncomputable def xV (w:Hs) (nm:String):Option (Nat × Value)→Obj
  | none=>{ cls:=.type "dict",data:=.dict #[] 0 }
  | some u=>{ cls:=.type "dict",data:=.dict #[ent w nm u.1 u.2] 1 }
noncomputable def Zzh:List (Fin 6)→List Nat
  | []=>[]
  | k::r=>match r with
    | []=>Zvw k
    | _::_=>Zvw k++32::Zzh r
noncomputable def txtsOf (sts:List PS):List Str:=sts.map fun ps=>S (Zzh ps.cont)
noncomputable def Zj8 (top:Addr→Option Obj):Expr:=asgVal (lwS top 4)
noncomputable def lastL (w:Hs) (nm:String) (o:Option (Nat × Value)) (x:Ext):Obj:=match o with
  | none=>xV w nm none
  | some _=>xV w nm (some (x.nat 4,.ref (x.nat 5)))
noncomputable def c4Con (w:Hs) (top:Addr→Option Obj) (loc it lst acc:Addr) (sts:List PS) (g:Nat→Nat→Nat) (el ea:Nat) (tb:Addr) (d:Array DictEntry) (k:Nat) (sl:Array (Option Value)) (ne:Option (Nat × Value)) (n t:Nat):Con where
  pre:=[(it,Zx4 lst 0),(lst,Zqz (Zxb sts g) el),(acc,Zqz [] ea),(loc,xV w "pile" none),(762,Zz8 775 20 (some tb)),(806,frO d k sl)]
  post x:=[(acc,Zqz (wsV (txtsOf sts) (x.seq 0 0)) (x.nat 2)),(loc,lastL w "pile" ne x),(762,Zz8 775 20 (some (x.nat 3))),(806,frO d k (x.sl 0))]
  fresh _:=[]
  preB:=[Zz6 w sts g]
  postB _:=[]
  code:=.compStart (Zj8 top) 0 (.ref it) (.ref acc) (Zxn top (Zj8 top) loc [])
  res _:=.ok .next
  need:=110
  fr:=some [Zq4 top]
noncomputable def bagAt (bb:List (Option Bag)) (k:Nat):Nat→Nat→Nat:=match bb.drop k with
  | o::_=>match o with
    | some b=>match b with | ⟨g,_⟩=>g
    | none=>fun _ _=>0
  | []=>fun _ _=>0
noncomputable def envLoc (c:Code):Addr:=match c with
  | .compStart _ _ _ _ e=>match e with | ⟨_,l,_,_,_,_,_,_,_⟩=>l
  | _=>0
noncomputable def csIt (c:Code):Addr:=match c with
  | .compStart _ _ it _ _=>Zx0 it
  | _=>0
noncomputable def csAcc (c:Code):Addr:=match c with
  | .compStart _ _ _ acc _=>Zx0 acc
  | _=>0
noncomputable def itSrc (o:Obj):Addr:=match o with
  | ⟨_,_,.fields f,_⟩=>match f.toList with
    | v::_=>Zx0 v
    | []=>0
  | _=>0
noncomputable def tbA (o:Obj):Addr:=match o with
  | ⟨_,_,.fields f,_⟩=>match f.toList.drop 2 with
    | v::_=>Zx0 v
    | []=>0
  | _=>0
noncomputable def Zqp (e:Expr):Expr:=match e with
  | .ListComp elt _ _ _=>elt
  | _=>.Name "" default
noncomputable def Zq0 (e:Expr):Expr:=match e with
  | .ListComp _ gs _ _=>match gs with
    | g::_=>match g with | ⟨t,_,_,_⟩=>t
    | []=>.Name "" default
  | _=>.Name "" default
noncomputable def Zjn (e:Expr):Expr:=match e with
  | .ListComp _ gs _ _=>match gs with
    | g::_=>match g with | ⟨_,i,_,_⟩=>i
    | []=>.Name "" default
  | _=>.Name "" default
noncomputable def Zxw (e:Expr):Scope:=match e with
  | .ListComp _ _ sc _=>sc
  | _=>default
noncomputable def Zjr (e:Expr):Pos:=match e with
  | .ListComp _ _ _ ps=>ps
  | _=>default
noncomputable def Zvc (w:Hs) (asg:Expr→Env→Value→Sem Unit) (e:Expr) (env:Env) (nm:String) (loc:Addr) (o:Option (Nat × Value)) (v:Value) (n t:Nat):Zq2 Unit where
  pre:=[(loc,xV w nm o)]
  post x:=[(loc,xV w nm (some (x.nat 2,v)))]
  fresh _:=[]
  tree:=asg (Zq0 e) env v
  res _:=.ok ()
  need:=30
  fr:=none
  made _:=0
noncomputable def cLst (w:Hs) (top:Addr→Option Obj) (ev:Expr→Env→Sem Value) (e:Expr) (env:Env) (loc:Addr) (u:Nat) (L:Lx) (tk:Nat→Nat) (s s':Lt) (e1 e2:Int) (pbl:List (Str × Nat)) (ws:List Str) (d:Array DictEntry) (k:Nat) (sl:Array (Option Value)) (n t:Nat):Zq2 Value where
  pre:=(loc,xV w "pile" (some (u,.ref L.lex)))::(Zvb w L tk s e1 pbl e2++[(806,frO d k sl)])
  post x:=[(loc,xV w "pile" (some (u,.ref L.lex))),(806,frO d k (x.sl 0))]
  fresh x:=[(x.nat 2,Zqz (pbV pbl++wsV ws (x.seq 0 0)) (x.nat 3))]
  tree:=ev e env
  res x:=.ok (.ref (x.nat 2))
  need:=90
  fr:=some [Zq4 top]
noncomputable def llFamL (w:Hs) (top:Addr→Option Obj) (L:Lx) (tk:Nat→Nat) (s s':Lt) (e1 e2:Int) (pbl:List (Str × Nat)) (ws:List Str):Fam:=fun n t c l _=>llCon w L tk s s' e1 e2 pbl ws [Zq4 top] (foFr [Zq4 top] l 6) n t
noncomputable def cLstEx (f:Nat→Ext) (_:Except Value Value) (l:List (Option (Addr × Obj))) (_:List (Option Bag)):Ext:=⟨fun j=>match j with
  | 0=>adOf (oAt l 0)
  | _=>Zj6 (Zzf l 0),fun _=>(f 0).sl 0,(f 0).seq,Ext.nil.ob⟩
noncomputable def lw4 (w:Hs) (top:Addr→Option Obj) (exs:List Stmt→Env→Sem Flow) (ft:Nat→Nat) (cut:Int) (u:Nat) (la:Addr) (sl:Array (Option Value)) (ks:List (Fin 6)) (tk:Nat→Nat) (ep:Nat) (tb:Addr) (sts:List PS) (g0:Nat→Nat→Nat) (n t:Nat):Zq2 Flow where
  pre:=[(806,lwG w ft (Zkd cut u++[.ref la]) sl),(la,Zqz (wdV ks tk) ep),(762,Zz8 775 20 (some tb))]
  post x:=[(806,lwG w (fun j=>x.nat (j + 5)) (Zkd cut u++[.ref la,.ref (x.nat 2)]) (x.sl 0)),(la,Zqz (wdV ks tk) ep),(762,Zz8 775 20 (some (x.nat 4)))]
  fresh x:=[(x.nat 2,Zqz (wsV (txtsOf sts) (x.seq 0 0)) (x.nat 3))]
  preB:=[Zz6 w [] g0]
  tree:=exs [lwS top 4] (Zq4 top)
  res _:=.ok .next
  need:=136
  fr:=some [Zq4 top]
noncomputable def slFamT (lst:Addr) (ks:List (Fin 6)) (tk:Nat→Nat) (cut:Int) (c:Nat):Fam:=fun n _ c' l _=>{ slCon lst (Zx0 (Zx7 c' 1)) (wdV ks tk) (Zj6 (Zzf l 0)) none (some cut) .none (.int cut (match Zzf l 1 with | ⟨_,_,.fields f,_⟩=>Zvt (nthV f.toList 1) | _=>0)) n with fresh:=fun _=>[(n,Zqz (wdV (ks.take c) tk) 0)] }
noncomputable def redFamN (w:Hs) (ks:List (Fin 6)) (sts0 sts:List PS) (tk:Nat→Nat):Fam:=fun _ _ c l b=>match Nat.ble 53 (Zx0 (Zx7 c 2)) with
  | true=>redCon w ks sts0 sts tk (Zx0 (Zx7 c 1)) (Zx0 (Zx7 c 2)) (Zj6 (Zzf l 1)) (Zj6 (Zzf l 2)) (tbA (Zzf l 0)) (bagAt b 0)
  | false=>badCon
noncomputable def frD (o:Obj):Array DictEntry:=match o with
  | ⟨_,_,.dict d _,_⟩=>d
  | _=>#[]
noncomputable def frK (o:Obj):Nat:=match o with
  | ⟨_,_,.dict _ k,_⟩=>k
  | _=>0
noncomputable def frS (o:Obj):Array (Option Value):=match o with
  | ⟨_,_,_,sl⟩=>sl
noncomputable def c4Fam (w:Hs) (top:Addr→Option Obj) (sts:List PS) (ne:Option (Nat × Value)):Fam:=fun n t c l b =>
  c4Con w top (envLoc c) (csIt c) (itSrc (Zzf l 0)) (csAcc c) sts (bagAt b 0) (Zj6 (Zzf l 1)) (Zj6 (Zzf l 2)) (tbA (Zzf l 4)) (frD (Zzf l 5)) (frK (Zzf l 5)) (frS (Zzf l 5)) ne n t
noncomputable def lw4Ex (k:Nat) (f:Nat→Ext) (_:Except Value Flow) (l:List (Option (Addr × Obj))) (_:List (Option Bag)):Ext:=⟨fun j=>match j with
  | 0=>adOf (oAt l 0)
  | 1=>Zj6 (Zzf l 0)
  | 2=>tbA (Zzf l 3)
  | j=>Zj2 l 1 (j - 3),fun _=>(f k).sl 0,(f k).seq,Ext.nil.ob⟩
noncomputable def lwE5 (top:Addr→Option Obj):Expr:=Zkh (asgVal (lwS top 5)) 2
noncomputable def lineWs:Nat→List (Fin 6)→List (Fin 6 × Lt)
  | _,[]=>[]
  | p,k::r=>match r with
    | []=>[(k,⟨p + (Zvw k).length,none,1⟩)]
    | _::_=>(k,⟨p + (Zvw k).length + 1,some (S [32]),1⟩)::lineWs (p + (Zvw k).length + 1) r
noncomputable def lnPS (ks:List (Fin 6)):PS:=⟨Zzh ks,⟨0,some (S [32]),1⟩,lineWs 0 ks,⟨(Zzh ks).length,none,1⟩,[]⟩
noncomputable def lastT (w:Hs) (nm:String) (o:Option (List Nat)) (x:Ext):Obj:=match o with
  | none=>xV w nm none
  | some W=>xV w nm (some (x.nat 4,.str (S W) (x.nat 5)))
noncomputable def c5Con (w:Hs) (top:Addr→Option Obj) (loc it lst acc:Addr) (cs:List (List (Fin 6))) (tl:Nat→Nat) (el ea:Nat) (ne:Option (List Nat)) (n t:Nat):Con where
  pre:=[(it,Zx4 lst 0),(lst,Zqz (wsV (cs.map fun c=>S (Zzh c)) tl) el),(acc,Zqz [] ea),(loc,xV w "text" none)]
  post x:=[(lst,Zqz (wsV (cs.map fun c=>S (Zzh c)) tl) el),(acc,Zqz (Zxb (cs.map lnPS) (x.seq 0)) (x.nat 2)),(loc,lastT w "text" ne x)]
  fresh _:=[]
  postB x:=[Zz6 w (cs.map lnPS) (x.seq 0)]
  code:=.compStart (lwE5 top) 0 (.ref it) (.ref acc) (Zxn top (lwE5 top) loc [])
  res _:=.ok .next
  need:=60
  fr:=none
noncomputable def cPil (w:Hs) (ev:Expr→Env→Sem Value) (e:Expr) (env:Env) (loc:Addr) (u:Nat) (W:List Nat) (tt:Nat) (n t:Nat):Zq2 Value where
  pre:=[(loc,xV w "text" (some (u,.str (S W) tt)))]
  post _:=[(loc,xV w "text" (some (u,.str (S W) tt)))]
  fresh x:=freshL w (newL (x.nat 7) (x.seq 0 0 0) (x.seq 0 0 1) (x.seq 0 0 2) (x.seq 0 0 3) (x.seq 0 0 4) x W "#") x
  tree:=ev e env
  res x:=.ok (.ref (x.nat 7))
  need:=50
  fr:=none
noncomputable def cPilEx (f:Nat→Ext) (_:Except Value Value) (l:List (Option (Addr × Obj))) (_:List (Option Bag)):Ext:=⟨fun j=>match j with
  | 5=>adOf (oAt l 3)
  | j=>(f 0).nat (j + 2),fun _=>#[],fun _ _ k=>match k with
  | 0=>adOf (oAt l 2)
  | 1=>adOf (oAt l 1)
  | 2=>adOf (oAt l 0)
  | 3=>adOf (oAt l 4)
  | _=>adOf (oAt l 5),Ext.nil.ob⟩
noncomputable def slFamD (lst:Addr) (ks:List (Fin 6)) (tk:Nat→Nat) (cut:Int) (c:Nat):Fam:=fun n _ c' l _=>{ slCon lst (Zx0 (Zx7 c' 1)) (wdV ks tk) (Zj6 (Zzf l 0)) (some cut) none (.int cut (match Zzf l 1 with | ⟨_,_,.fields f,_⟩=>Zvt (nthV f.toList 0) | _=>0)) .none n with fresh:=fun _=>[(n,Zqz (wdV (ks.drop c) fun j=>tk (j + c)) 0)] }
noncomputable def c5Fam (w:Hs) (top:Addr→Option Obj) (lst:Addr) (cs:List (List (Fin 6))) (tl:Nat→Nat) (ne:Option (List Nat)):Fam:=fun n t c l _ =>
  c5Con w top (envLoc c) (csIt c) lst (csAcc c) cs tl (Zj6 (Zzf l 1)) (Zj6 (Zzf l 2)) ne n t
noncomputable def lw5 (w:Hs) (top:Addr→Option Obj) (exs:List Stmt→Env→Sem Flow) (ft:Nat→Nat) (cut:Int) (u:Nat) (la ls:Addr) (sl:Array (Option Value)) (ks:List (Fin 6)) (tk:Nat→Nat) (ep:Nat) (cs:List (List (Fin 6))) (tl:Nat→Nat) (el:Nat) (tb:Addr) (sts:List PS) (n t:Nat):Zq2 Flow where
  pre:=[(806,lwG w ft (Zkd cut u++[.ref la,.ref ls]) sl),(la,Zqz (wdV ks tk) ep),(ls,Zqz (wsV (cs.map fun c=>S (Zzh c)) tl) el),(762,Zz8 775 20 (some tb))]
  post x:=[(806,lwG w (fun j=>x.nat (j + 5)) (Zkd cut u++[.ref la,.ref ls,.ref (x.nat 2)]) sl),(la,Zqz (wdV ks tk) ep),(762,Zz8 775 20 (some (x.nat 4)))]
  fresh x:=[(x.nat 2,Zqz (Zxb sts (x.seq 0)) (x.nat 3))]
  postB x:=[Zz6 w sts (x.seq 0)]
  tree:=exs [lwS top 5] (Zq4 top)
  res _:=.ok .next
  need:=136
  fr:=none
noncomputable def lw5Ex (k:Nat) (f:Nat→Ext) (_:Except Value Flow) (l:List (Option (Addr × Obj))) (_:List (Option Bag)):Ext:=⟨fun j=>match j with
  | 0=>adOf (oAt l 0)
  | 1=>Zj6 (Zzf l 0)
  | 2=>tbA (Zzf l 3)
  | j=>Zj2 l 1 (j - 3),fun _=>#[],(f k).seq,Ext.nil.ob⟩
noncomputable def lwE6 (top:Addr→Option Obj):Expr:=asgVal (lwS top 6)
noncomputable def Zz5:List (List (Fin 6))→(Nat→Nat→Nat)→List (Addr × Obj)
  | [],_=>[]
  | c::r,g=>(g 0 0,Zqz (wdV c fun k=>g 0 (k + 2)) (g 0 1))::Zz5 r fun j=>g (j + 1)
noncomputable def Zxx:List (List (Fin 6))→(Nat→Nat→Nat)→List Value
  | [],_=>[]
  | _::r,g=>.ref (g 0 0)::Zxx r fun j=>g (j + 1)
noncomputable def lstsBag (css:List (List (Fin 6))) (g:Nat→Nat→Nat):Bag:=⟨g,Zz5 css⟩
noncomputable def c6Con (w:Hs) (top:Addr→Option Obj) (loc it lst acc:Addr) (sts:List PS) (g:Nat→Nat→Nat) (el ea:Nat) (d:Array DictEntry) (k:Nat) (sl:Array (Option Value)) (ne:Option (Nat × Value)) (n t:Nat):Con where
  pre:=[(it,Zx4 lst 0),(lst,Zqz (Zxb sts g) el),(acc,Zqz [] ea),(loc,xV w "pile" none),(806,frO d k sl)]
  post x:=[(acc,Zqz (Zxx (sts.map PS.cont) (x.seq 0)) (x.nat 2)),(loc,lastL w "pile" ne x),(806,frO d k (x.sl 0))]
  fresh _:=[]
  preB:=[Zz6 w sts g]
  postB x:=[lstsBag (sts.map PS.cont) (x.seq 0)]
  code:=.compStart (lwE6 top) 0 (.ref it) (.ref acc) (Zxn top (lwE6 top) loc [])
  res _:=.ok .next
  need:=100
  fr:=some [Zq4 top]
noncomputable def c6Fam (w:Hs) (top:Addr→Option Obj) (lst:Addr) (sts:List PS) (ne:Option (Nat × Value)):Fam:=fun n t c l b =>
  c6Con w top (envLoc c) (csIt c) lst (csAcc c) sts (bagAt b 0) (Zj6 (Zzf l 1)) (Zj6 (Zzf l 2)) (frD (Zzf l 4)) (frK (Zzf l 4)) (frS (Zzf l 4)) ne n t
noncomputable def lw6 (w:Hs) (top:Addr→Option Obj) (exs:List Stmt→Env→Sem Flow) (ft:Nat→Nat) (cut:Int) (u:Nat) (la ls lp:Addr) (sl:Array (Option Value)) (sts:List PS) (g:Nat→Nat→Nat) (ep:Nat) (n t:Nat):Zq2 Flow where
  pre:=[(806,lwG w ft (Zkd cut u++[.ref la,.ref ls,.ref lp]) sl),(lp,Zqz (Zxb sts g) ep)]
  post x:=[(806,lwG w (fun j=>x.nat (j + 4)) (Zkd cut u++[.ref la,.ref ls,.ref lp,.ref (x.nat 2)]) (x.sl 0))]
  fresh x:=[(x.nat 2,Zqz (Zxx (sts.map PS.cont) (x.seq 0)) (x.nat 3))]
  preB:=[Zz6 w sts g]
  postB x:=[lstsBag (sts.map PS.cont) (x.seq 0)]
  tree:=exs [lwS top 6] (Zq4 top)
  res _:=.ok .next
  need:=120
  fr:=some [Zq4 top]
noncomputable def lw6Ex (f:Nat→Ext) (_:Except Value Flow) (l:List (Option (Addr × Obj))) (_:List (Option Bag)):Ext:=⟨fun j=>match j with
  | 0=>adOf (oAt l 0)
  | 1=>Zj6 (Zzf l 0)
  | j=>Zj2 l 1 (j - 2),fun _=>(f 0).sl 0,(f 0).seq,Ext.nil.ob⟩
noncomputable def lwE7 (top:Addr→Option Obj):Expr:=Zkh (asgVal (lwS top 7)) 0
noncomputable def intBag (a:Addr) (rs:List Int) (g:Nat→Nat→Nat):Bag:=⟨g,fun g=>[(a,Zqz (Zz2 rs (g 0)) (g 1 0))]⟩
noncomputable def lwC7:List (Str × Addr):=[("ranks",810)]
noncomputable def c7Con (w:Hs) (top:Addr→Option Obj) (loc it acc:Addr) (ks:List (Fin 6)) (rk:Fin 6→Int) (tk:Nat→Nat) (ep ea:Nat) (ne:Option (List Nat)) (n t:Nat):Con where
  pre:=[(it,Zx4 828 0),(828,Zqz (wdV ks tk) ep),(acc,Zqz [] ea),(loc,xV w "word" none)]
  post x:=[(828,Zqz (wdV ks tk) ep),(loc,lastT w "word" ne x)]
  fresh _:=[]
  postB x:=[intBag acc (ks.map rk) (x.seq 0)]
  code:=.compStart (lwE7 top) 0 (.ref it) (.ref acc) (Zxn top (lwE7 top) loc lwC7)
  res _:=.ok .next
  need:=60
  fr:=none
noncomputable def cRk (w:Hs) (ev:Expr→Env→Sem Value) (e:Expr) (env:Env) (loc:Addr) (u:Nat) (W:List Nat) (tt:Nat) (rv:Int) (n t:Nat):Zq2 Value where
  pre:=[(loc,xV w "word" (some (u,.str (S W) tt)))]
  post _:=[(loc,xV w "word" (some (u,.str (S W) tt)))]
  fresh x:=[]
  tree:=ev e env
  res x:=.ok (.int rv (x.nat 2))
  need:=50
  fr:=none
noncomputable def cRkEx (f:Nat→Ext) (v:Except Value Value) (l:List (Option (Addr × Obj))) (_:List (Option Bag)):Ext:=exN fun _=>(f 0).nat 2
noncomputable def c7Fam (w:Hs) (top:Addr→Option Obj) (ks:List (Fin 6)) (rk:Fin 6→Int) (tk:Nat→Nat) (ne:Option (List Nat)):Fam:=fun n t c l b =>
  c7Con w top (envLoc c) (csIt c) (csAcc c) ks rk tk (Zj6 (Zzf l 1)) (Zj6 (Zzf l 2)) ne n t
noncomputable def nuCon (rs ns:List Int) (row:Addr) (g:Nat→Nat→Nat):Con where
  pre:=[]
  post _:=[]
  fresh x:=[(x.nat 2,Zqz (Zz2 ns (x.seq 0 0)) (x.nat 3))]
  preB:=[intBag row rs g]
  code:=.call (.ref 799) ⟨[.ref row],[]⟩
  res x:=.ok (.ret (.ref (x.nat 2)))
  need:=110
  fr:=none
noncomputable def nuFam (rs ns:List Int):Fam:=fun _ _ c _ b=>nuCon rs ns (Zx0 (Zx7 c 0)) (bagAt b 0)
noncomputable def lw7 (w:Hs) (top:Addr→Option Obj) (exs:List Stmt→Env→Sem Flow) (ft:Nat→Nat) (cut:Int) (u:Nat) (la ls lp ld:Addr) (sl:Array (Option Value)) (ks:List (Fin 6)) (tk:Nat→Nat) (ep:Nat) (ns:List Int) (n t:Nat):Zq2 Flow where
  pre:=[(806,lwG w ft (Zkd cut u++[.ref la,.ref ls,.ref lp,.ref ld]) sl),(807,Zzq (some (.ref 828))),(808,Zzq none),(828,Zqz (wdV ks tk) ep)]
  post x:=[(806,lwG w ft (Zkd cut u++[.ref la,.ref ls,.ref lp,.ref ld]) sl),(807,Zzq (some (.ref 828))),(808,Zzq (some (.ref (x.nat 2)))),(828,Zqz (wdV ks tk) ep)]
  fresh x:=[(x.nat 2,Zqz (Zz2 ns (x.seq 0 0)) (x.nat 3))]
  tree:=exs [lwS top 7] (Zq4 top)
  res _:=.ok .next
  need:=120
  fr:=none
noncomputable def lw7Ex (f:Nat→Ext) (_:Except Value Flow) (l:List (Option (Addr × Obj))) (_:List (Option Bag)):Ext:=⟨fun j=>match j with
  | 0=>adOf (oAt l 0)
  | _=>Zj6 (Zzf l 0),fun _=>#[],(f 1).seq,Ext.nil.ob⟩
noncomputable def nuS (top:Addr→Option Obj) (k:Nat):Stmt:=Zqt (Zxv top 799) k
noncomputable def exprVal (s:Stmt):Expr:=match s with
  | .Expr e _=>e
  | _=>.Name "" default
noncomputable def binR (e:Expr):Expr:=match e with
  | .BinOp _ _ r _=>r
  | _=>.Name "" default
noncomputable def headS (l:List Stmt):Stmt:=match l with
  | s::_=>s
  | []=>.Pass default
noncomputable def Zxf (e:Expr):Expr:=match e with
  | .ListComp _ gs _ _=>match gs with
    | g::_=>match g with | ⟨_,_,fs,_⟩=>match fs with
      | f::_=>f
      | []=>.Name "" default
    | []=>.Name "" default
  | _=>.Name "" default
noncomputable def nuE (top:Addr→Option Obj):Expr:=binR (Zkh (Zkh (exprVal (headS (Zj3 (nuS top 1)))) 0) 0)
noncomputable def Zvs (top:Addr→Option Obj) (fr cr cn ck:Addr):Env:={ scope:=(Zxv top 799).scope,locals:=fr,globals:=3,cells:=[("k",ck),("numbers",cn),("row",cr)],qual := "_law_numbers.<locals>.",func:=some 799,code:=.ref 798,frame:=some fr,builtins:=0 }
noncomputable def nuCEnv (top:Addr→Option Obj) (fr cr cn ck loc:Addr):Env:={ scope:=Zv6 (Zvs top fr cr cn ck) (nuE top),locals:=loc,globals:=3,cells:=[("row",cr),("numbers",cn),("k",ck)],qual := "_law_numbers.<locals>.",func:=none,code:=.ref 798,frame:=some fr,builtins:=0 }
noncomputable def rngO (lo hi st:Int) (t u v:Nat):Obj:={ cls:=.type "range",data:=.fields #[.int lo t,.int hi u,.int st v] }
noncomputable def riCon (a:Addr) (lo hi st:Int) (t u v:Nat) (left:Int) (n:Nat):Con where
  pre:=[(a,rngO lo hi st t u v)]
  post _:=[(a,rngO lo hi st t u v)]
  fresh _:=[(n,Zzp lo left st)]
  code:=.builtin "range.__iter__" ⟨[.ref a],[]⟩
  res _:=.ok (.ret (.ref n))
  need:=20
  fr:=none
  made _:=1
noncomputable def riFam (lo hi st left:Int):Fam:=fun n _ c l _=>riCon (Zx0 (Zx7 c 0)) lo hi st (fTok (Zzf l 0) 0) (fTok (Zzf l 0) 1) (fTok (Zzf l 0) 2) left n
noncomputable def lenFamN (row:Addr) (xs:List Value) (m:Nat):Fam:=fun _ _ c l _=>lenCon row xs (Zj6 (Zzf l 0)) m
noncomputable def maxL (l:List Int):Int:=l.foldl max 0
noncomputable def ghB (g:Nat→Nat→Nat):Bag:=⟨g,fun _=>[]⟩
noncomputable def mxCon (a:Addr) (xs:List Int) (z:Int) (ep:Nat) (g:Nat→Nat→Nat):Con where
  pre:=[(a,Zqz (Zz2 xs (g 0)) ep)]
  post _:=[(a,Zqz (Zz2 xs (g 0)) ep)]
  fresh _:=[]
  preB:=[ghB g]
  postB _:=[]
  code:=.builtin "max" ⟨[.ref a],[]⟩
  res x:=.ok (.ret (.int z (x.nat 2)))
  need:=30
  fr:=none
noncomputable def mxFam (xs:List Int) (z:Int):Fam:=fun _ _ c l b=>mxCon (Zx0 (Zx7 c 0)) xs z (Zj6 (Zzf l 0)) (bagAt b 0)
noncomputable def laCon (a b:Addr) (x:Int) (ux ea:Nat) (low:List Int) (eb:Nat) (g:Nat→Nat→Nat) (n:Nat):Con where
  pre:=[(a,Zqz [.int x ux] ea),(b,Zqz (Zz2 low (g 0)) eb)]
  post _:=[(a,Zqz [.int x ux] ea),(b,Zqz (Zz2 low (g 0)) eb)]
  fresh x':=[(n,Zqz (Zz2 (x::low) (x'.seq 0 0)) 0)]
  preB:=[ghB g]
  postB x':=[ghB (x'.seq 0)]
  code:=.builtin "list.__add__" ⟨[.ref a,.ref b],[]⟩
  res _:=.ok (.ret (.ref n))
  need:=10
  fr:=none
  made _:=1
noncomputable def laFamB (x:Int) (low:List Int):Fam:=fun n _ c l b=>laCon (Zx0 (Zx7 c 0)) (Zx0 (Zx7 c 1)) x (match Zkq (Zzf l 0) with | v::_=>Zvt v | []=>0) (Zj6 (Zzf l 0)) low (Zj6 (Zzf l 1)) (bagAt b 0) n
noncomputable def apFamN (xs:List Value):Fam:=fun _ _ c l _=>apCon (Zx0 (Zx7 c 0)) xs (Zj6 (Zzf l 0)) (.int (match Zx7 c 1 with | .int z _=>z | _=>0) (Zvt (Zx7 c 1)))
noncomputable def lowL:List Int→List Int→Int→List Int
  | [],_,_=>[]
  | r::rs,ns,x=>match ns with
    | []=>[]
    | n::ns=>if r < x then (1 + n)::lowL rs ns x else lowL rs ns x
noncomputable def lastJ (w:Hs) (nm:String) (ne:Option Int) (x:Ext):Obj:=match ne with
  | none=>xV w nm none
  | some j=>xV w nm (some (x.nat 4,.int j (x.nat 5)))
noncomputable def nuObs (cr cn ck row nm:Addr) (rs ns:List Int) (tk tn:Nat→Nat) (er en:Nat) (k:Int) (u:Nat):List (Addr × Obj):=[(cr,Zzq (some (.ref row))),(cn,Zzq (some (.ref nm))),(ck,Zzq (some (.int k u))),(row,Zqz (Zz2 rs tk) er),(nm,Zqz (Zz2 ns tn) en)]
noncomputable def ncCon (w:Hs) (top:Addr→Option Obj) (fr cr cn ck row nm loc it acc:Addr) (rs ns:List Int) (tk tn:Nat→Nat) (er en:Nat) (u ea:Nat) (low:List Int) (ne:Option Int) (n t:Nat):Con where
  pre:=[(it,Zzp 0 (Int.ofNat ns.length) 1),(acc,Zqz [] ea),(loc,xV w "j" none)]++nuObs cr cn ck row nm rs ns tk tn er en (Int.ofNat ns.length) u
  post x:=(acc,Zqz (Zz2 low (x.seq 0 0)) (x.nat 2))::(loc,lastJ w "j" ne x)::nuObs cr cn ck row nm rs ns tk tn er en (Int.ofNat ns.length) u
  fresh _:=[]
  postB x:=[ghB (x.seq 0)]
  code:=.compStart (nuE top) 0 (.ref it) (.ref acc) (nuCEnv top fr cr cn ck loc)
  res _:=.ok .next
  need:=60
  fr:=none
noncomputable def ncFam (w:Hs) (top:Addr→Option Obj) (fr cr cn ck row nm:Addr) (rs ns:List Int) (tk tn:Nat→Nat) (er en:Nat) (u:Nat) (low:List Int) (ne:Option Int):Fam:=fun n t c l _ =>
  ncCon w top fr cr cn ck row nm (envLoc c) (csIt c) (csAcc c) rs ns tk tn er en u (Zj6 (Zzf l 1)) low ne n t
noncomputable def cEv (ev:Expr→Env→Sem Value) (e:Expr) (env:Env) (pre:List (Addr × Obj)) (res:Ext→Value) (need n t:Nat):Zq2 Value where
  pre:=pre
  post _:=pre
  fresh _:=[]
  tree:=ev e env
  res x:=.ok (res x)
  need:=need
  fr:=none
noncomputable def cAsg' (w:Hs) (asg:Expr→Env→Value→Sem Unit) (tgt:Expr) (env:Env) (nm:String) (loc:Addr) (o:Option (Nat × Value)) (v:Value) (n t:Nat):Zq2 Unit where
  pre:=[(loc,xV w nm o)]
  post x:=[(loc,xV w nm (some (x.nat 2,v)))]
  fresh _:=[]
  tree:=asg tgt env v
  res _:=.ok ()
  need:=30
  fr:=none
  made _:=0
noncomputable def giFamX (row:Addr) (xs:List Value) (i:Int) (v:Value):Fam:=fun _ _ c l _=>giCon row xs (Zj6 (Zzf l 0)) i (Zvt (Zx7 c 1)) v
noncomputable def nuPrep (prep:Addr→FuncData→Args→Sem Env) (top:Addr→Option Obj) (row n t:Nat):Zq2 Env where
  pre:=[]
  post _:=[]
  fresh _:=[(n,frO #[] 0 #[]),(n + 1,Zzq (some (.ref row))),(n + 2,Zzq none),(n + 3,Zzq none)]
  tree:=prep 799 (Zxv top 799) ⟨[.ref row],[]⟩
  res _:=.ok (Zvs top n (n + 1) (n + 2) (n + 3))
  need:=20
  fr:=none
  made _:=4
noncomputable def nu0 (top:Addr→Option Obj) (exs:List Stmt→Env→Sem Flow) (fr cr cn ck n t:Nat):Zq2 Flow where
  pre:=[(cn,Zzq none)]
  post x:=[(cn,Zzq (some (.ref (x.nat 2))))]
  fresh x:=[(x.nat 2,Zqz [] (x.nat 3))]
  tree:=exs [nuS top 0] (Zvs top fr cr cn ck)
  res _:=.ok .next
  need:=20
  fr:=none
noncomputable def nuI (top:Addr→Option Obj) (ev:Expr→Env→Sem Value) (fs:Expr→Env→Value→Sem Value) (pi:Value→Sem Value) (fr cr cn ck row:Addr) (rs:List Int) (tk:Nat→Nat) (er:Nat) (n t:Nat):Zq2 Value where
  pre:=[(cr,Zzq (some (.ref row))),(row,Zqz (Zz2 rs tk) er)]
  post _:=[(cr,Zzq (some (.ref row))),(row,Zqz (Zz2 rs tk) er)]
  fresh x:=[(x.nat 2,Zzp 0 (Int.ofNat rs.length) 1)]
  tree:=forIt ev fs pi (Zv7 (nuS top 1)) (Zvs top fr cr cn ck)
  res x:=.ok (.ref (x.nat 2))
  need:=60
  fr:=none
noncomputable def nuA (asg:Expr→Env→Value→Sem Unit) (top:Addr→Option Obj) (fr cr cn ck:Addr) (o:Option (Int × Nat)) (v:Int) (u:Nat) (n t:Nat):Zq2 Unit where
  pre:=[(ck,Zzq (o.map fun p=>.int p.1 p.2))]
  post _:=[(ck,Zzq (some (.int v u)))]
  fresh _:=[]
  tree:=asg (Zzd (nuS top 1)) (Zvs top fr cr cn ck) (.int v u)
  res _:=.ok ()
  need:=20
  fr:=none
noncomputable def nuB (top:Addr→Option Obj) (exs:List Stmt→Env→Sem Flow) (fr cr cn ck row nm:Addr) (rs ns:List Int) (tk tn:Nat→Nat) (er en u:Nat) (z:Int) (n t:Nat):Zq2 Flow where
  pre:=nuObs cr cn ck row nm rs ns tk tn er en (Int.ofNat ns.length) u
  post x:=[(cr,Zzq (some (.ref row))),(cn,Zzq (some (.ref nm))),(ck,Zzq (some (.int (Int.ofNat ns.length) u))),(row,Zqz (Zz2 rs tk) er),(nm,Zqz (Zz2 ns tn++[.int z (x.nat 2)]) (x.nat 3))]
  fresh _:=[]
  tree:=exs (Zj3 (nuS top 1)) (Zvs top fr cr cn ck)
  res _:=.ok .next
  need:=90
  fr:=none
noncomputable def nuR (top:Addr→Option Obj) (exs:List Stmt→Env→Sem Flow) (fr cr cn ck nm n t:Nat):Zq2 Flow where
  pre:=[(cn,Zzq (some (.ref nm)))]
  post _:=[(cn,Zzq (some (.ref nm)))]
  fresh _:=[]
  tree:=exs [nuS top 2] (Zvs top fr cr cn ck)
  res _:=.ok (.ret (.ref nm))
  need:=20
  fr:=none
noncomputable def vEx (_:Nat→Ext) (v:Except Value Value) (_:List (Option (Addr × Obj))) (_:List (Option Bag)):Ext:=exN fun _=>match v with | .ok v=>Zvt v | .error _=>0
noncomputable def ex0 {α:Type} (_:Nat→Ext) (_:Except Value α) (_:List (Option (Addr × Obj))) (_:List (Option Bag)):Ext:=exN fun _=>0
noncomputable def ad2 {α:Type} (_:Nat→Ext) (_:Except Value α) (l:List (Option (Addr × Obj))) (_:List (Option Bag)):Ext:=exN fun j=>match j with
  | 0=>adOf (oAt l 0)
  | _=>Zj6 (Zzf l 0)
noncomputable def nbEx (f:Nat→Ext) (_:Except Value Flow) (l:List (Option (Addr × Obj))) (_:List (Option Bag)):Ext:=exN fun j=>match j with
  | 0=>(f 3).nat 2
  | _=>Zj6 (Zzf l 4)
noncomputable def lw8 (w:Hs) (top:Addr→Option Obj) (exs:List Stmt→Env→Sem Flow) (ks:List (Fin 6)) (tk:Nat→Nat) (ep:Nat) (n t:Nat):Zq2 Flow where
  pre:=[(807,Zzq (some (.ref 828))),(809,Zzq none),(828,Zqz (wdV ks tk) ep)]
  post x:=[(807,Zzq (some (.ref 828))),(809,Zzq (some (.ref (x.nat 2)))),(828,Zqz (wdV ks tk) ep)]
  fresh x:=[(x.nat 2,rngO (Int.ofNat ks.length - 1) (-1) (-1) (x.nat 3) (x.nat 4) (x.nat 5))]
  tree:=exs [lwS top 8] (Zq4 top)
  res _:=.ok .next
  need:=60
  fr:=none
noncomputable def lw8Ex (_:Nat→Ext) (_:Except Value Flow) (l:List (Option (Addr × Obj))) (_:List (Option Bag)):Ext:=exN fun j=>match j with
  | 0=>adOf (oAt l 0)
  | j + 1=>fTok (Zzf l 0) j
noncomputable def lwE9 (top:Addr→Option Obj):Expr:=asgVal (lwS top 9)
noncomputable def lwE9i (top:Addr→Option Obj):Expr:=Zqp (lwE9 top)
noncomputable def env9 (top:Addr→Option Obj) (loc cn:Addr):Env:=Zxn top (lwE9 top) loc [("n",cn),("words",807),("places",809),("numbers",808)]
noncomputable def env9i (top:Addr→Option Obj) (loc cn loc2:Addr):Env:={ scope:=Zv6 (env9 top loc cn) (lwE9i top),locals:=loc2,globals:=3,cells:=[("words",807),("numbers",808),("n",cn)],qual := "law.<locals>.",func:=none,code:=.ref 803,frame:=some 806,builtins:=0 }
noncomputable def zrev (ks:List (Fin 6)) (ns:List Int):List (Fin 6 × Int):=(ks.zip ns).reverse
noncomputable def rowD (zs:List (Fin 6 × Int)) (x:Int):List (Fin 6):=(zs.filter fun p=>p.2 == x).map (·.1)
noncomputable def dueOf (ks:List (Fin 6)) (ns:List Int) (M:Nat):List (List (Fin 6)):=(List.range M).map fun j=>rowD (zrev ks ns) (Int.ofNat j)
noncomputable def obI (cn nm:Addr) (ks:List (Fin 6)) (tk:Nat→Nat) (ep:Nat) (ns:List Int) (tn:Nat→Nat) (en:Nat) (x:Int) (ux:Nat):List (Addr × Obj):=[(807,Zzq (some (.ref 828))),(808,Zzq (some (.ref nm))),(cn,Zzq (some (.int x ux))),(828,Zqz (wdV ks tk) ep),(nm,Zqz (Zz2 ns tn) en)]
noncomputable def ciCon (w:Hs) (top:Addr→Option Obj) (loc cn loc2 it acc nm:Addr) (ks:List (Fin 6)) (tk:Nat→Nat) (ep:Nat) (ns:List Int) (tn:Nat→Nat) (en:Nat) (x:Int) (ux ea:Nat) (n t:Nat):Con where
  pre:=[(it,Zzp (Int.ofNat ks.length - 1) (Int.ofNat ks.length) (-1)),(acc,Zqz [] ea),(loc2,xV w "k" none)]++obI cn nm ks tk ep ns tn en x ux
  post y:=(acc,Zqz (wdV (rowD (zrev ks ns) x) (y.seq 0 0)) (y.nat 2))::(loc2,lastJ w "k" (some 0) y)::obI cn nm ks tk ep ns tn en x ux
  fresh _:=[]
  code:=.compStart (lwE9i top) 0 (.ref it) (.ref acc) (env9i top loc cn loc2)
  res _:=.ok .next
  need:=60
  fr:=none
noncomputable def ciFam (w:Hs) (top:Addr→Option Obj) (loc cn nm:Addr) (ks:List (Fin 6)) (tk:Nat→Nat) (ep:Nat) (ns:List Int) (tn:Nat→Nat) (en:Nat) (x:Int) (ux:Nat):Fam:=fun n t c l _ =>
  ciCon w top loc cn (envLoc c) (csIt c) (csAcc c) nm ks tk ep ns tn en x ux (Zj6 (Zzf l 1)) n t
noncomputable def rgm (ks:List (Fin 6)) (t u v:Nat):Obj:=rngO (Int.ofNat ks.length - 1) (-1) (-1) t u v
noncomputable def c9El (w:Hs) (top:Addr→Option Obj) (ev:Expr→Env→Sem Value) (loc cn nm pl:Addr) (ks:List (Fin 6)) (tk:Nat→Nat) (ep:Nat) (ns:List Int) (tn:Nat→Nat) (en:Nat) (x:Int) (ux:Nat) (pt pu pv:Nat) (n t:Nat):Zq2 Value where
  pre:=(809,Zzq (some (.ref pl)))::(pl,rgm ks pt pu pv)::obI cn nm ks tk ep ns tn en x ux
  post _:=(809,Zzq (some (.ref pl)))::(pl,rgm ks pt pu pv)::obI cn nm ks tk ep ns tn en x ux
  fresh y:=[(y.nat 2,Zqz (wdV (rowD (zrev ks ns) x) (y.seq 0 0)) (y.nat 3))]
  tree:=ev (lwE9i top) (env9 top loc cn)
  res y:=.ok (.ref (y.nat 2))
  need:=80
  fr:=none
noncomputable def c9ElEx (f:Nat→Ext) (_:Except Value Value) (l:List (Option (Addr × Obj))) (_:List (Option Bag)):Ext:=⟨fun j=>match j with
  | 0=>adOf (oAt l 0)
  | _=>Zj6 (Zzf l 0),fun _=>#[],(f 1).seq,Ext.nil.ob⟩
noncomputable def c9As (top:Addr→Option Obj) (asg:Expr→Env→Value→Sem Unit) (loc cn:Addr) (o:Option (Int × Nat)) (v:Int) (u n t:Nat):Zq2 Unit where
  pre:=[(cn,Zzq (o.map fun p=>.int p.1 p.2))]
  post _:=[(cn,Zzq (some (.int v u)))]
  fresh _:=[]
  tree:=asg (Zq0 (lwE9 top)) (env9 top loc cn) (.int v u)
  res _:=.ok ()
  need:=20
  fr:=none
noncomputable def ob9 (nm pl:Addr) (ks:List (Fin 6)) (tk:Nat→Nat) (ep:Nat) (ns:List Int) (tn:Nat→Nat) (en pt pu pv:Nat):List (Addr × Obj):=[(807,Zzq (some (.ref 828))),(808,Zzq (some (.ref nm))),(809,Zzq (some (.ref pl))),(828,Zqz (wdV ks tk) ep),(nm,Zqz (Zz2 ns tn) en),(pl,rgm ks pt pu pv)]
noncomputable def c9Con (w:Hs) (top:Addr→Option Obj) (loc cn it acc nm pl:Addr) (ks:List (Fin 6)) (tk:Nat→Nat) (ep:Nat) (ns:List Int) (tn:Nat→Nat) (en pt pu pv:Nat) (z:Int) (css:List (List (Fin 6))) (ea:Nat) (n t:Nat):Con where
  pre:=[(it,Zzp 0 (z + 1) 1),(acc,Zqz [] ea),(loc,xV w "n" none),(cn,Zzq none)]++ob9 nm pl ks tk ep ns tn en pt pu pv
  post y:=[(acc,Zqz (Zxx css (y.seq 0)) (y.nat 2)),(loc,xV w "n" none),(807,Zzq (some (.ref 828))),(828,Zqz (wdV ks tk) ep)]
  fresh _:=[]
  postB y:=[lstsBag css (y.seq 0)]
  code:=.compStart (lwE9 top) 0 (.ref it) (.ref acc) (env9 top loc cn)
  res _:=.ok .next
  need:=100
  fr:=none
noncomputable def envCell (c:Code) (k:Nat):Addr:=match c with
  | .compStart _ _ _ _ e=>match e with | ⟨_,_,_,cs,_,_,_,_,_⟩=>match cs.drop k with
    | p::_=>match p with | (_,a)=>a
    | []=>0
  | _=>0
noncomputable def c9Fam (w:Hs) (top:Addr→Option Obj) (nm pl:Addr) (ks:List (Fin 6)) (tk:Nat→Nat) (ep:Nat) (ns:List Int) (tn:Nat→Nat) (en pt pu pv:Nat) (z:Int) (css:List (List (Fin 6))):Fam:=fun n t c l _ =>
  c9Con w top (envLoc c) (envCell c 0) (csIt c) (csAcc c) nm pl ks tk ep ns tn en pt pu pv z css (Zj6 (Zzf l 1)) n t
noncomputable def lw9 (w:Hs) (top:Addr→Option Obj) (exs:List Stmt→Env→Sem Flow) (ft:Nat→Nat) (cut:Int) (u:Nat) (la ls lp ld nm pl:Addr) (sl:Array (Option Value)) (ks:List (Fin 6)) (tk:Nat→Nat) (ep:Nat) (ns:List Int) (g:Nat→Nat→Nat) (en pt pu pv:Nat) (css:List (List (Fin 6))) (n t:Nat):Zq2 Flow where
  pre:=(806,lwG w ft (Zkd cut u++[.ref la,.ref ls,.ref lp,.ref ld]) sl)::ob9 nm pl ks tk ep ns (g 0) en pt pu pv
  post x:=[(806,lwG w (fun j=>x.nat (j + 4)) (Zkd cut u++[.ref la,.ref ls,.ref lp,.ref ld,.ref (x.nat 2)]) sl),(807,Zzq (some (.ref 828))),(828,Zqz (wdV ks tk) ep)]
  fresh x:=[(x.nat 2,Zqz (Zxx css (x.seq 0)) (x.nat 3))]
  preB:=[ghB g]
  postB x:=[lstsBag css (x.seq 0)]
  tree:=exs [lwS top 9] (Zq4 top)
  res _:=.ok .next
  need:=110
  fr:=none
noncomputable def lw9Ex (k:Nat) (f:Nat→Ext) (_:Except Value Flow) (l:List (Option (Addr × Obj))) (_:List (Option Bag)):Ext:=⟨fun j=>match j with
  | 0=>adOf (oAt l 0)
  | 1=>Zj6 (Zzf l 0)
  | j=>Zj2 l 1 (j - 2),fun _=>#[],(f k).seq,Ext.nil.ob⟩
noncomputable def lwE10 (top:Addr→Option Obj):Expr:=asgVal (lwS top 10)
noncomputable def gen2 (e:Expr):Comprehension:=match e with
  | .ListComp _ gs _ _=>match gs.drop 1 with
    | g::_=>g
    | []=>⟨.Name "" default,.Name "" default,[],0⟩
  | _=>⟨.Name "" default,.Name "" default,[],0⟩
noncomputable def gen1 (e:Expr):Comprehension:=match e with
  | .ListComp _ gs _ _=>match gs with
    | g::_=>g
    | []=>⟨.Name "" default,.Name "" default,[],0⟩
  | _=>⟨.Name "" default,.Name "" default,[],0⟩
noncomputable def gTgt (g:Comprehension):Expr:=match g with | ⟨t,_,_,_⟩=>t
noncomputable def gIter (g:Comprehension):Expr:=match g with | ⟨_,i,_,_⟩=>i
noncomputable def gIf (g:Comprehension):Expr:=match g with
  | ⟨_,_,fs,_⟩=>match fs with
    | f::_=>f
    | []=>.Name "" default
noncomputable def env10 (top:Addr→Option Obj) (loc:Addr):Env:=Zxn top (lwE10 top) loc [("words",807),("ranks",810)]
noncomputable def x10 (w:Hs) (r:Int) (ur tr:Nat):Option (Nat × List Nat × Nat)→Obj
  | none=>{ cls:=.type "dict",data:=.dict #[ent w "rank" ur (.int r tr)] 1 }
  | some p=>{ cls:=.type "dict",data:=.dict #[ent w "rank" ur (.int r tr),ent w "word" p.1 (.str (S p.2.1) p.2.2)] 2 }
noncomputable def Zk3 (rk:Fin 6→Int) (ks:List (Fin 6)) (r:Int):List (Fin 6):=ks.filter fun k=>rk k == r
noncomputable def Zvh (rk:Fin 6→Int) (ks:List (Fin 6)):Nat→List (Fin 6)
  | 0=>[]
  | r + 1=>Zvh rk ks r++Zk3 rk ks (Int.ofNat r)
noncomputable def c10Con (w:Hs) (top:Addr→Option Obj) (loc it acc:Addr) (ks:List (Fin 6)) (rk:Fin 6→Int) (tk:Nat→Nat) (ep ea:Nat) (r ur tr:Nat) (o:Option (Nat × List Nat × Nat)) (W:List Nat) (g:Nat→Nat→Nat) (n t:Nat):Con where
  pre:=[(it,Zx4 828 0),(828,Zqz (wdV ks tk) ep),(acc,Zqz (wdV (Zvh rk ks r) (g 0)) ea),(loc,x10 w (Int.ofNat r) ur tr o)]
  post y:=[(828,Zqz (wdV ks tk) ep),(acc,Zqz (wdV (Zvh rk ks (r + 1)) (y.seq 0 0)) (y.nat 2)),(loc,x10 w (Int.ofNat r) ur tr (some (y.nat 3,W,y.nat 4)))]
  fresh _:=[]
  preB:=[ghB g]
  postB y:=[ghB (y.seq 0)]
  code:=.compStart (lwE10 top) 1 (.ref it) (.ref acc) (env10 top loc)
  res _:=.ok .next
  need:=60
  fr:=none
noncomputable def entsOf (o:Obj):List DictEntry:=match o with
  | ⟨_,_,.dict d _,_⟩=>d.toList
  | _=>[]
noncomputable def entV (l:List DictEntry) (k:Nat):Value:=match l.drop k with
  | e::_=>e.val
  | []=>.none
noncomputable def intN (v:Value):Nat:=match v with
  | .int i _=>match i with
    | .ofNat m=>m
    | .negSucc _=>0
  | _=>0
noncomputable def x10o (o:Obj) (W:List Nat):Option (Nat × List Nat × Nat):=match (entsOf o).drop 1 with
  | e::_=>some (Zvt e.key,W,Zvt e.val)
  | []=>none
noncomputable def x10u (o:Obj):Nat:=match entsOf o with
  | e::_=>Zvt e.key
  | []=>0
noncomputable def c10Fam (w:Hs) (top:Addr→Option Obj) (ks:List (Fin 6)) (rk:Fin 6→Int) (tk:Nat→Nat) (W:List Nat):Fam:=fun n t c l b =>
  c10Con w top (envLoc c) (csIt c) (csAcc c) ks rk tk (Zj6 (Zzf l 1)) (Zj6 (Zzf l 2)) (intN (entV (entsOf (Zzf l 3)) 0)) (x10u (Zzf l 3)) (Zvt (entV (entsOf (Zzf l 3)) 0)) (x10o (Zzf l 3) W) W (bagAt b 0) n t
noncomputable def c10As (w:Hs) (top:Addr→Option Obj) (asg:Expr→Env→Value→Sem Unit) (loc:Addr) (r:Int) (ur tr:Nat) (o:Option (Nat × List Nat × Nat)) (W:List Nat) (u n t:Nat):Zq2 Unit where
  pre:=[(loc,x10 w r ur tr o)]
  post x:=[(loc,x10 w r ur tr (some (x.nat 2,W,u)))]
  fresh _:=[]
  tree:=asg (gTgt (gen2 (lwE10 top))) (env10 top loc) (.str (S W) u)
  res _:=.ok ()
  need:=30
  fr:=none
noncomputable def lwVs9 (cut:Int) (u:Nat) (la ls lp ld le:Addr):List Value:=Zkd cut u++[.ref la,.ref ls,.ref lp,.ref ld,.ref le]
noncomputable def lw10 (w:Hs) (top:Addr→Option Obj) (exs:List Stmt→Env→Sem Flow) (ft:Nat→Nat) (cut:Int) (u:Nat) (la ls lp ld le:Addr) (sl:Array (Option Value)) (ks:List (Fin 6)) (rk:Fin 6→Int) (tk:Nat→Nat) (ep:Nat) (g:Nat→Nat→Nat) (n t:Nat):Zq2 Flow where
  pre:=[(806,lwG w ft (lwVs9 cut u la ls lp ld le) sl),(807,Zzq (some (.ref 828))),(828,Zqz (wdV ks tk) ep)]
  post x:=[(806,lwG w (fun j=>x.nat (j + 4)) (lwVs9 cut u la ls lp ld le++[.ref (x.nat 2)]) sl)]
  fresh x:=[(x.nat 2,Zqz (wdV (Zvh rk ks 6) (x.seq 0 0)) (x.nat 3))]
  preB:=[ghB g]
  postB _:=[]
  tree:=exs [lwS top 10] (Zq4 top)
  res _:=.ok .next
  need:=90
  fr:=none
noncomputable def l10Con (w:Hs) (top:Addr→Option Obj) (lp:Bool) (loc it acc:Addr) (ks:List (Fin 6)) (rk:Fin 6→Int) (tk:Nat→Nat) (ep ea:Nat) (W:List Nat) (g:Nat→Nat→Nat) (n t:Nat):Con where
  pre:=[(it,Zzp 0 6 1),(acc,Zqz [] ea),(loc,xV w "word" none),(807,Zzq (some (.ref 828))),(828,Zqz (wdV ks tk) ep)]
  post y:=[(acc,Zqz (wdV (Zvh rk ks 6) (y.seq 0 0)) (y.nat 2)),(loc,x10 w 5 (y.nat 3) (y.nat 4) (some (y.nat 5,W,y.nat 6)))]
  fresh _:=[]
  preB:=[ghB g]
  postB _:=[]
  code:=match lp with
    | true=>.compLoop (lwE10 top) 0 (.ref it) (.ref acc) (env10 top loc)
    | false=>.compStart (lwE10 top) 0 (.ref it) (.ref acc) (env10 top loc)
  res _:=.ok .next
  need:=80
  fr:=none
noncomputable def l10Ex (f:Nat→Ext) (_:Result) (l:List (Option (Addr × Obj))) (_:List (Option Bag)):Ext:=⟨fun j=>match j with
  | 0=>Zj6 (Zzf l 0)
  | 1=>x10u (Zzf l 1)
  | 2=>Zvt (entV (entsOf (Zzf l 1)) 0)
  | j=>match x10o (Zzf l 1) [] with
    | some p=>match j with
      | 3=>p.1
      | _=>p.2.2
    | none=>0,fun _=>#[],(f 5).seq,Ext.nil.ob⟩
noncomputable def s10Fam (w:Hs) (top:Addr→Option Obj) (ks:List (Fin 6)) (rk:Fin 6→Int) (tk:Nat→Nat) (W:List Nat):Fam:=fun n t c l b =>
  l10Con w top false (envLoc c) (csIt c) (csAcc c) ks rk tk (Zj6 (Zzf l 4)) (Zj6 (Zzf l 1)) W (bagAt b 0) n t
noncomputable def x10Ex (_:Nat→Ext) (_:Except Value Unit) (l:List (Option (Addr × Obj))) (_:List (Option Bag)):Ext:=exN fun _=>Zj2 l 0 1
noncomputable def lw10Ex (f:Nat→Ext) (_:Except Value Flow) (l:List (Option (Addr × Obj))) (_:List (Option Bag)):Ext:=⟨fun j=>match j with
  | 0=>adOf (oAt l 0)
  | 1=>Zj6 (Zzf l 0)
  | j=>Zj2 l 1 (j - 2),fun _=>#[],(f 0).seq,Ext.nil.ob⟩
noncomputable def soCon (la:Addr) (ks:List (Fin 6)) (rk:Fin 6→Int) (tk:Nat→Nat) (ep:Nat):Con where
  pre:=[(la,Zqz (wdV ks tk) ep)]
  post _:=[(la,Zqz (wdV ks tk) ep)]
  fresh x:=[(x.nat 2,Zqz (wdV (Zvh rk ks 6) (x.seq 0 0)) (x.nat 3))]
  code:=.builtin "sorted" ⟨[.ref la],[(Str.ofString "key",.ref 904)]⟩
  res x:=.ok (.ret (.ref (x.nat 2)))
  need:=50
  fr:=none
noncomputable def retVal (s:Stmt):Expr:=match s with
  | .Return e _=>match e with
    | some e=>e
    | none=>.Name "" default
  | _=>.Name "" default
noncomputable def retPos (s:Stmt):Pos:=match s with
  | .Return _ p=>p
  | _=>default
noncomputable def boolV (e:Expr) (k:Nat):Expr:=match e with
  | .BoolOp _ vs _=>match vs.drop k with
    | v::_=>v
    | []=>.Name "" default
  | _=>.Name "" default
noncomputable def boolP (e:Expr):Pos:=match e with
  | .BoolOp _ _ p=>p
  | _=>default
noncomputable def lwE11 (top:Addr→Option Obj) (k:Nat):Expr:=boolV (retVal (lwS top 11)) k
noncomputable def lwVs10 (cut:Int) (u:Nat) (la ls lp ld le lo:Addr):List Value:=lwVs9 cut u la ls lp ld le++[.ref lo]
noncomputable def soFam (la:Addr) (ks:List (Fin 6)) (rk:Fin 6→Int) (tk:Nat→Nat):Fam:=fun _ _ _ l _=>soCon la ks rk tk (Zj6 (Zzf l 0))
noncomputable def c11S (w:Hs) (top:Addr→Option Obj) (ev:Expr→Env→Sem Value) (ft:Nat→Nat) (cut:Int) (u:Nat) (la ls lp ld le lo:Addr) (sl:Array (Option Value)) (ks:List (Fin 6)) (rk:Fin 6→Int) (tk:Nat→Nat) (ep:Nat) (n t:Nat):Zq2 Value where
  pre:=[(806,lwG w ft (lwVs10 cut u la ls lp ld le lo) sl),(la,Zqz (wdV ks tk) ep)]
  post _:=[(806,lwG w ft (lwVs10 cut u la ls lp ld le lo) sl),(la,Zqz (wdV ks tk) ep)]
  fresh x:=[(x.nat 2,Zqz (wdV (Zvh rk ks 6) (x.seq 0 0)) (x.nat 3))]
  tree:=ev (cmpL (lwE11 top 1)) (Zq4 top)
  res x:=.ok (.ref (x.nat 2))
  need:=80
  fr:=none
noncomputable def c11Ex (f:Nat→Ext) (_:Except Value Value) (l:List (Option (Addr × Obj))) (_:List (Option Bag)):Ext:=⟨fun j=>match j with
  | 0=>adOf (oAt l 0)
  | _=>Zj6 (Zzf l 0),fun _=>#[],(f 0).seq,Ext.nil.ob⟩
noncomputable abbrev fr11 (w:World) (b:Bool) (ft:Nat→Nat) (cut:Int) (u:Nat) (la ls lp ld le lo:Addr) (sl:Array (Option Value)):Addr × Obj:=(806,lwG (hz (wb w b)) ft (lwVs10 cut u la ls lp ld le lo) sl)
noncomputable abbrev n11 (R:RO) (w:World) (b:Bool) (e:Expr) (ft:Nat→Nat) (cut:Int) (u:Nat) (la ls lp ld le lo:Addr) (sl:Array (Option Value)) (v:Addr) (n t:Nat):Zq2 Value:=cEv Zq9 e (Zq4 (Zqd R (wb w b))) [fr11 w b ft cut u la ls lp ld le lo sl] (fun _=>.ref v) 20 n t
noncomputable def orc_T11:List Nat:=[1]
theorem T11_v (prog:Program) (w:World) (b:Bool) (R:RO) (ft:Nat→Nat) (cut:Int) (u:Nat) (la ls lp ld le lo:Addr) (sl:Array (Option Value)) (n t:Nat) (f:Nat→Ext) :
    Zqh [0] [] (n11 R w b (cmpL (lwE11 (Zqd R (wb w b)) 0)) ft cut u la ls lp ld le lo sl ld n t) (vEx f) [] (Zzz (T3 R) prog (wb w b) n t [] [] (n11 R w b (cmpL (lwE11 (Zqd R (wb w b)) 0)) ft cut u la ls lp ld le lo sl ld n t) orc_T11 f):=by cases b <;> kernel_rfl
noncomputable def orc_D11:List Nat:=[1]
theorem D11_v (prog:Program) (w:World) (b:Bool) (R:RO) (ft:Nat→Nat) (cut:Int) (u:Nat) (la ls lp ld le lo:Addr) (sl:Array (Option Value)) (n t:Nat) (f:Nat→Ext) :
    Zqh [0] [] (n11 R w b (cmpR (lwE11 (Zqd R (wb w b)) 0)) ft cut u la ls lp ld le lo sl le n t) (vEx f) [] (Zzz (T3 R) prog (wb w b) n t [] [] (n11 R w b (cmpR (lwE11 (Zqd R (wb w b)) 0)) ft cut u la ls lp ld le lo sl le n t) orc_D11 f):=by cases b <;> kernel_rfl
noncomputable def orc_O11:List Nat:=[1]
theorem O11_v (prog:Program) (w:World) (b:Bool) (R:RO) (ft:Nat→Nat) (cut:Int) (u:Nat) (la ls lp ld le lo:Addr) (sl:Array (Option Value)) (n t:Nat) (f:Nat→Ext) :
    Zqh [0] [] (n11 R w b (cmpR (lwE11 (Zqd R (wb w b)) 1)) ft cut u la ls lp ld le lo sl lo n t) (vEx f) [] (Zzz (T3 R) prog (wb w b) n t [] [] (n11 R w b (cmpR (lwE11 (Zqd R (wb w b)) 1)) ft cut u la ls lp ld le lo sl lo n t) orc_O11 f):=by cases b <;> kernel_rfl
noncomputable def orc_S11:List Nat:=[0,0,1,1,0,1,1,1,0]
theorem S11_v (prog:Program) (w:World) (b:Bool) (R:RO) (ft:Nat→Nat) (cut:Int) (u:Nat) (la ls lp ld le lo:Addr) (sl:Array (Option Value)) (ks:List (Fin 6)) (rk:Fin 6→Int) (tk:Nat→Nat) (ep:Nat) (n t:Nat) (f:Nat→Ext) :
    Zqh [0,2,1] [] (c11S (hz (wb w b)) (Zqd R (wb w b)) Zq9 ft cut u la ls lp ld le lo sl ks rk tk ep n t) (c11Ex f) [] (Zzz (T3 R) prog (wb w b) n t [] [soFam la ks rk tk] (c11S (hz (wb w b)) (Zqd R (wb w b)) Zq9 ft cut u la ls lp ld le lo sl ks rk tk ep n t) orc_S11 f):=by cases b <;> kernel_rfl
noncomputable abbrev csibZ:Value→Str→List Value→Sem (Option Value):=@W.ZFast.zw5748314443788414978
theorem csibZ_eq:csibZ = @callSpecialIfBound?:=W.ZFast.ze5748314443788414978.symm
noncomputable def orc_CS:List Nat:=[1,0,0,0,0,1,2,0,1,0]
theorem CS_v (prog:Program) (w:World) (b:Bool) (R:RO) (v:Bool) (x y dx dy:Addr) (W1 W2:List Nat) (t1 t2 n t:Nat) (f:Nat→Ext) :
    Zqh [0,1] [] (tcCon 868 "__lt__" v (fun a nm b=>csibZ a nm [b]) x y dx dy W1 W2 t1 t2 n t) (fun _ _ _=>exN fun _=>0) [] (Zzz (T3 R) prog (wb w b) n t [] [cmFam 868 v W1 W2] (tcCon 868 "__lt__" v (fun a nm b=>csibZ a nm [b]) x y dx dy W1 W2 t1 t2 n t) orc_CS f):=by cases b <;> kernel_rfl
section
open PySem PySem.W PyProof.Rows
noncomputable def pw (n:Nat) (lt:Nat→Nat→Bool) {α:Type}:KasT α→(α→Prop)→Prop
  | .ret a,Q=>Q a
  | .ask i j k,Q=>i < n∧j < n∧i≠j∧pw n lt (k (lt i j)) Q
theorem pw_bind {n:Nat} {lt:Nat→Nat→Bool} {α β:Type} {f:α→KasT β} {Q:β→Prop}:∀ {t:KasT α},pw n lt t (fun a=>pw n lt (f a) Q)→pw n lt (t.bind f) Q
  | .ret _,h=>h
  | .ask i j k,h=>⟨h.1,h.2.1,h.2.2.1,pw_bind (t:=k (lt i j)) h.2.2.2⟩
theorem pw_mono {n:Nat} {lt:Nat→Nat→Bool} {α:Type} {Q Q':α→Prop} (hq:∀ a,Q a→Q' a):∀ {t:KasT α},pw n lt t Q→pw n lt t Q'
  | .ret _,h=>hq _ h
  | .ask i j k,h=>⟨h.1,h.2.1,h.2.2.1,pw_mono hq (t:=k (lt i j)) h.2.2.2⟩
theorem pw_run {n:Nat} {lt:Nat→Nat→Bool} {cmp:Nat→Nat→(Bool→Shared→Prop)→Shared→Prop} {J:Shared→Prop} (hc:∀ i j C s,i < n→j < n→i≠j→J s→(∀ s',J s'→C (lt i j) s')→cmp i j C s) {α:Type} {P:α→Prop} {Q:α→Shared→Prop} (hQ:∀ a s,P a→J s→Q a s):∀ {t:KasT α} {s:Shared},pw n lt t P→J s→t.kasWp cmp Q s
  | .ret a,s,h,hs=>hQ a s h hs
  | .ask i j k,s,h,hs=>hc i j _ s h.1 h.2.1 h.2.2.1 hs fun s' hs'=>pw_run hc hQ (t:=k (lt i j)) h.2.2.2 hs'
section
variable {key:Nat→Int} {N:Nat}
noncomputable def ltK (key:Nat→Int) (i j:Nat):Bool:=decide (key i < key j)
noncomputable def Bf (key:Nat→Int) (i j:Nat):Prop:=key i < key j ∨ (key i = key j∧i < j)
theorem Bf.trans {i j k:Nat} (h:Bf key i j) (h':Bf key j k):Bf key i k:=by
  unfold Bf at *
  lia
noncomputable def Asc (key:Nat→Int) (p:Array Nat) (n:Nat):Prop:=∀ a b,a < b→b < n→Bf key (p.getD a 0) (p.getD b 0)
noncomputable def Dsc (key:Nat→Int) (p:Array Nat) (n:Nat):Prop:=∀ a b,a < b→b < n→Bf key (p.getD b 0) (p.getD a 0)
structure Un (N:Nat) (p:Array Nat) (n:Nat):Prop where
  size:p.size = N
  le:n≤N
  lo:∀ m,m < n→p.getD m 0 < n
  hi:∀ m,n≤m→m < N→p.getD m 0 = m
theorem Un.lt {p:Array Nat} {n m:Nat} (h:Un N p n) (hm:m < N):p.getD m 0 < N:=by
  by_cases hn:m < n
  · have:=h.lo m hn; have:=h.le; lia
  · rw [h.hi m (by lia) hm]; exact hm
theorem Un.succ {p:Array Nat} {n:Nat} (h:Un N p n) (hn:n < N):Un N p (n + 1):=by
  refine ⟨h.size,hn,fun m hm=>?_,fun m hm hm'=>h.hi m (by lia) hm'⟩
  by_cases e:m < n
  · have:=h.lo m e; lia
  · have:m = n:=by lia
    rw [this,h.hi n (Nat.le_refl _) hn]; lia
theorem rev_get (p:Array Nat) (i j k:Nat) (hj:j≤p.size):(kas_rev p i j).getD k 0 = if i≤k∧k < j then p.getD (i + j - 1 - k) 0 else p.getD k 0:=by
  have e:=getElem?_mirror_all (xs:=p) (i:=i) hj k
  unfold kas_rev
  simp only [Array.getD_eq_getD_getElem?,e]
  split <;> rfl
theorem bub_get (p:Array Nat) (k l m:Nat) (hk:k < p.size) (hl:l≤k):(bubble p k (k - l)).getD m 0 = if m = l then p.getD k 0 else if l < m∧m≤k then p.getD (m - 1) 0 else p.getD m 0:=by
  have e:=getElem?_bubble hk (k - l) (by lia) m
  rw [show k - (k - l) = l by lia] at e
  simp only [Array.getD_eq_getD_getElem?,e]
  split
  · rfl
  · split <;> rfl
theorem rev_un {p:Array Nat} {n i j:Nat} (h:Un N p n) (hj:j≤n):Un N (kas_rev p i j) n:=by
  have hs:(kas_rev p i j).size = N:=by rw [kas_rev_size]; exact h.size
  refine ⟨hs,h.le,fun m hm=>?_,fun m hm hm'=>?_⟩
  · rw [rev_get p i j m (by have:=h.size; have:=h.le; lia)]
    split
    · exact h.lo _ (by lia)
    · exact h.lo m hm
  · rw [rev_get p i j m (by have:=h.size; have:=h.le; lia),if_neg (by lia)]
    exact h.hi m hm hm'
theorem rev_in (p:Array Nat) {i j k:Nat} (hj:j≤p.size) (h1:i≤k) (h2:k < j):(kas_rev p i j).getD k 0 = p.getD (i + j - 1 - k) 0:=by
  rw [rev_get p i j k hj,if_pos ⟨h1,h2⟩]
theorem rev_out (p:Array Nat) {i j k:Nat} (hj:j≤p.size) (h:k < i ∨ j≤k):(kas_rev p i j).getD k 0 = p.getD k 0:=by
  rw [rev_get p i j k hj,if_neg (by lia)]
theorem asc_pw {p:Array Nat}:∀ (f n:Nat),1≤n→n + f = N→Un N p n→Asc key p n→pw N (ltK key) (kas_asc p f n) fun m=>n≤m∧m≤N∧Un N p m∧Asc key p m∧(m < N→key (p.getD m 0) < key (p.getD (m - 1) 0))
  | 0,n,h1,hf,hu,ha=>⟨Nat.le_refl _,by lia,hu,ha,fun h=>by lia⟩
  | f + 1,n,h1,hf,hu,ha=>by
    refine ⟨hu.lt (by lia),hu.lt (by lia),(by rw [hu.hi n (Nat.le_refl _) (by lia)]; have:=hu.lo (n - 1) (by lia); lia),?_⟩
    by_cases hc:key (p.getD n 0) < key (p.getD (n - 1) 0)
    · rw [show ltK key (p.getD n 0) (p.getD (n - 1) 0) = true from decide_eq_true hc]
      exact ⟨Nat.le_refl _,by lia,hu,ha,fun _=>hc⟩
    · rw [show ltK key (p.getD n 0) (p.getD (n - 1) 0) = false from decide_eq_false hc]
      have hn:p.getD n 0 = n:=hu.hi n (Nat.le_refl _) (by lia)
      have hb:Bf key (p.getD (n - 1) 0) (p.getD n 0):=by
        have:=hu.lo (n - 1) (by lia)
        unfold Bf
        lia
      refine pw_mono (fun m h=>⟨by lia,h.2⟩) (asc_pw f (n + 1) (by lia) (by lia) (hu.succ (by lia)) fun a b hab hbn=>?_)
      by_cases e:b < n
      · exact ha a b hab e
      · obtain rfl:b = n:=by lia
        by_cases e2:a = b - 1
        · subst e2; exact hb
        · exact (ha a (b - 1) (by lia) (by lia)).trans hb
structure Grp (key:Nat→Int) (p:Array Nat) (n q:Nat):Prop where
  le:q + 1≤n
  old:∀ a b,a < b→b < n - (q + 1)→Bf key (p.getD b 0) (p.getD a 0)
  strict:∀ a b,a < n - (q + 1)→n - (q + 1)≤b→b < n→key (p.getD b 0) < key (p.getD a 0)
  same:∀ a b,n - (q + 1)≤a→a < b→b < n→key (p.getD a 0) = key (p.getD b 0)∧p.getD a 0 < p.getD b 0
theorem Grp.dsc {p:Array Nat} {n:Nat} (h:Grp key p n 0):Dsc key p n:=fun a b hab hb=>by
  have:=h.le
  by_cases e:b < n - (0 + 1)
  · exact h.old a b hab e
  · exact .inl (h.strict a b (by lia) (by lia) hb)
theorem Grp.rev {p:Array Nat} {n q:Nat} (h:Grp key p n q) (hs:n≤p.size):Dsc key (kas_rev p (n - (q + 1)) n) n:=fun a b hab hb=>by
  have:=h.le
  by_cases e1:n - (q + 1)≤a
  · rw [rev_in p hs e1 (by lia),rev_in p hs (by lia) hb]
    obtain ⟨k1,k2⟩:=h.same (n - (q + 1) + n - 1 - b) (n - (q + 1) + n - 1 - a) (by lia) (by lia) (by lia)
    exact .inr ⟨k1,k2⟩
  · rw [rev_out p hs (k:=a) (by lia)]
    by_cases e2:n - (q + 1)≤b
    · rw [rev_in p hs e2 hb]
      exact .inl (h.strict a _ (by lia) (by lia) (by lia))
    · rw [rev_out p hs (by lia)]
      exact h.old a b hab (by lia)
theorem Grp.top {p:Array Nat} {n q:Nat} (h:Grp key p n q) {x:Int} (hx:x < key (p.getD (n - 1) 0)) (a:Nat) (ha:a < n):x < key (p.getD a 0):=by
  have:=h.le
  by_cases e:a < n - (q + 1)
  · have:=h.strict a (n - 1) e (by lia) (by lia); lia
  · by_cases e2:a = n - 1
    · rw [e2]; exact hx
    · have:=(h.same a (n - 1) (by lia) (by lia) (by lia)).1; lia
theorem Dsc.grp {p:Array Nat} {n:Nat} (h:Dsc key p n) (ht:∀ a,a < n→key (p.getD n 0) < key (p.getD a 0)):Grp key p (n + 1) 0:=by
  refine ⟨by lia,fun a b hab hb=>h a b hab (by lia),fun a b ha hb hb'=>?_,fun a b ha hab hb=>by lia⟩
  obtain rfl:b = n:=by lia
  exact ht a (by lia)
theorem desc_pw:∀ (f:Nat) (p:Array Nat) (n q:Nat),n + f = N→Un N p n→Grp key p n q→pw N (ltK key) (kas_desc f p n q) fun r=>Un N r.1 r.2.1∧Grp key r.1 r.2.1 r.2.2
  | 0,p,n,q,hf,hu,hg=>⟨hu,hg⟩
  | f + 1,p,n,q,hf,hu,hg=>by
    have h1:=hg.le
    have hn:p.getD n 0 = n:=hu.hi n (Nat.le_refl _) (by lia)
    have hsz:n≤p.size:=by have:=hu.size; lia
    have hne:p.getD n 0≠p.getD (n - 1) 0:=by rw [hn]; have:=hu.lo (n - 1) (by lia); lia
    refine ⟨hu.lt (by lia),hu.lt (by lia),hne,?_⟩
    by_cases hc:key (p.getD n 0) < key (p.getD (n - 1) 0)
    · rw [show ltK key (p.getD n 0) (p.getD (n - 1) 0) = true from decide_eq_true hc]
      dsimp only
      rw [if_pos rfl]
      by_cases hq:q > 0
      · rw [if_pos hq]
        have hu':Un N (kas_rev p (n - (q + 1)) n) n:=rev_un hu (Nat.le_refl _)
        refine desc_pw f _ (n + 1) 0 (by lia) (hu'.succ (by lia)) ((hg.rev hsz).grp fun a ha=>?_)
        rw [rev_out p hsz (by lia),rev_get p _ _ a hsz]
        split
        · exact hg.top hc _ (by lia)
        · exact hg.top hc a ha
      · rw [if_neg hq]
        obtain rfl:q = 0:=by lia
        exact desc_pw f p (n + 1) 0 (by lia) (hu.succ (by lia)) (hg.dsc.grp fun a ha=>hg.top hc a ha)
    · rw [show ltK key (p.getD n 0) (p.getD (n - 1) 0) = false from decide_eq_false hc]
      dsimp only
      rw [if_neg (by simp)]
      refine ⟨hu.lt (by lia),hu.lt (by lia),hne.symm,?_⟩
      by_cases hd:key (p.getD (n - 1) 0) < key (p.getD n 0)
      · rw [show ltK key (p.getD (n - 1) 0) (p.getD n 0) = true from decide_eq_true hd]
        dsimp only
        rw [if_pos rfl]
        exact ⟨hu,hg⟩
      · rw [show ltK key (p.getD (n - 1) 0) (p.getD n 0) = false from decide_eq_false hd]
        dsimp only
        rw [if_neg (by simp)]
        have heq:key (p.getD n 0) = key (p.getD (n - 1) 0):=by lia
        refine desc_pw f p (n + 1) (q + 1) (by lia) (hu.succ (by lia)) ⟨by lia,fun a b hab hb=>hg.old a b hab (by lia),fun a b ha hb hb'=>?_,fun a b ha hab hb=>?_⟩
        · by_cases e:b = n
          · subst e; rw [heq]; exact hg.strict a _ (by lia) (by lia) (by lia)
          · exact hg.strict a b (by lia) (by lia) (by lia)
        · by_cases e:b = n
          · subst e
            have:=hu.lo a (by lia)
            rw [hn]
            refine ⟨?_,this⟩
            rw [hn] at heq
            by_cases e2:a = b - 1
            · rw [e2,heq]
            · rw [heq]; exact (hg.same a (b - 1) (by lia) (by lia) (by lia)).1
          · exact hg.same a b (by lia) hab (by lia)
theorem Dsc.asc {p:Array Nat} {n:Nat} (h:Dsc key p n) (hs:n≤p.size):Asc key (kas_rev p 0 n) n:=fun a b hab hb=>by
  rw [rev_in p hs (Nat.zero_le a) (by lia),rev_in p hs (Nat.zero_le b) hb]
  exact h _ _ (by lia) (by lia)
theorem tail3_pw {p:Array Nat} {n:Nat} (h1:1≤n) (hu:Un N p n) (hd:Dsc key p n):pw N (ltK key) (kas_tail3 n N p) fun r=>1≤r.1∧r.1≤N∧Un N r.2 r.1∧Asc key r.2 r.1:=by
  have hs:n≤p.size:=by have:=hu.size; have:=hu.le; lia
  refine pw_bind (pw_mono (fun m h=>?_) (asc_pw (N - n) n h1 (by have:=hu.le; lia) (rev_un hu (Nat.le_refl _)) (hd.asc hs)))
  exact ⟨by show 1≤m; lia,h.2.1,h.2.2.1,h.2.2.2.1⟩
theorem descPart_pw {p:Array Nat} {n:Nat} (h1:1≤n) (hn:n < N) (hu:Un N p n) (hd:Dsc key p n) (ht:∀ a,a < n→key (p.getD n 0) < key (p.getD a 0)):pw N (ltK key) (kas_descPart n N p) fun r=>1≤r.1∧r.1≤N∧Un N r.2 r.1∧Asc key r.2 r.1:=by
  refine pw_bind (pw_mono (fun r h=>?_) (desc_pw (N - (n + 1)) p (n + 1) 0 (by lia) (hu.succ hn) (hd.grp ht)))
  obtain ⟨p',n',q'⟩:=r
  obtain ⟨hu',hg'⟩:=h
  have hu':Un N p' n':=hu'
  have hg':Grp key p' n' q':=hg'
  have:=hg'.le
  have hs:n'≤p'.size:=by have:=hu'.size; have:=hu'.le; lia
  dsimp only
  by_cases hq:q' > 0
  · rw [if_pos hq]
    exact tail3_pw (by lia) (rev_un hu' (Nat.le_refl _)) (hg'.rev hs)
  · rw [if_neg hq]
    obtain rfl:q' = 0:=by lia
    exact tail3_pw (by lia) hu' hg'.dsc
theorem count_pw {p:Array Nat} (hN:1≤N) (hu:Un N p 1):pw N (ltK key) (kas_count N p) fun r=>1≤r.1∧r.1≤N∧Un N r.2 r.1∧Asc key r.2 r.1:=by
  refine pw_bind (pw_mono (fun n h=>?_) (asc_pw (N - 1) 1 (Nat.le_refl _) (by lia) hu fun a b hab hb=>by lia))
  obtain ⟨h1,h2,hu,ha,ht⟩:=h
  have hs:n≤p.size:=by have:=hu.size; lia
  by_cases e:n = N
  · rw [if_pos (by simp [e])]
    exact ⟨h1,h2,hu,ha⟩
  · rw [if_neg (by simp [e])]
    have ht:=ht (by lia)
    by_cases e1:n > 1
    · rw [if_pos e1]
      refine ⟨hu.lt (by lia),hu.lt (by lia),(fun e=>by have:=ha 0 (n - 1) (by lia) (by lia); rw [e] at this; unfold Bf at this; lia),?_⟩
      by_cases hc:key (p.getD 0 0) < key (p.getD (n - 1) 0)
      · rw [show ltK key (p.getD 0 0) (p.getD (n - 1) 0) = true from decide_eq_true hc]
        dsimp only
        rw [if_pos rfl]
        exact ⟨h1,h2,hu,ha⟩
      · rw [show ltK key (p.getD 0 0) (p.getD (n - 1) 0) = false from decide_eq_false hc]
        dsimp only
        rw [if_neg (by simp)]
        have hall:∀ a,a < n→key (p.getD a 0) = key (p.getD (n - 1) 0):=fun a han=>by
          have hle:∀ x y,x≤y→y < n→key (p.getD x 0)≤key (p.getD y 0):=fun x y hxy hy=>by
            by_cases exy:x = y
            · rw [exy]; exact Int.le_refl _
            · have:=ha x y (by lia) hy
              unfold Bf at this
              lia
          have:=hle 0 a (by lia) han
          have:=hle a (n - 1) (by lia) (by lia)
          lia
        refine descPart_pw h1 (by lia) (rev_un hu (Nat.le_refl _)) (fun a b hab hb=>?_) fun a han=>?_
        · rw [rev_in p hs (Nat.zero_le a) (by lia),rev_in p hs (Nat.zero_le b) hb]
          exact ha _ _ (by lia) (by lia)
        · rw [rev_out p hs (.inr (Nat.le_refl n)),rev_in p hs (Nat.zero_le a) han]
          have:=hall (0 + n - 1 - a) (by lia)
          lia
    · rw [if_neg e1]
      obtain rfl:n = 1:=by lia
      exact descPart_pw h1 (by lia) hu (fun a b hab hb=>by lia) fun a han=>by
        obtain rfl:a = 0:=by lia
        exact ht
theorem place_pw {p:Array Nat} {k:Nat} (hk:k < N) (hu:Un N p k) (ha:Asc key p k):∀ (f l r:Nat),r - l≤f→l≤r→r≤k→(∀ a,a < l→key (p.getD a 0)≤key (p.getD k 0))→(∀ a,r≤a→a < k→key (p.getD k 0) < key (p.getD a 0)) →
    pw N (ltK key) (kas_place p k f l r) fun m=>m≤k∧(∀ a,a < m→key (p.getD a 0)≤key (p.getD k 0))∧(∀ a,m≤a→a < k→key (p.getD k 0) < key (p.getD a 0))
  | 0,l,r,hf,hlr,hr,h1,h2=>by
    obtain rfl:l = r:=by lia
    exact ⟨hr,h1,h2⟩
  | f + 1,l,r,hf,hlr,hr,h1,h2=>by
    have hle:∀ x y,x≤y→y < k→key (p.getD x 0)≤key (p.getD y 0):=fun x y hxy hy=>by
      by_cases exy:x = y
      · rw [exy]; exact Int.le_refl _
      · have:=ha x y (by lia) hy
        unfold Bf at this
        lia
    show pw N (ltK key) (if l ≥ r then .ret l else .ask (p.getD k 0) (p.getD ((l + r) / 2) 0) fun c=>if c = true then kas_place p k f l ((l + r) / 2) else kas_place p k f ((l + r) / 2 + 1) r) _
    by_cases e:l ≥ r
    · rw [if_pos e]
      obtain rfl:l = r:=by lia
      exact ⟨hr,h1,h2⟩
    · rw [if_neg e]
      refine ⟨hu.lt hk,hu.lt (by lia),(by rw [hu.hi k (Nat.le_refl _) hk]; have:=hu.lo ((l + r) / 2) (by lia); lia),?_⟩
      by_cases hc:key (p.getD k 0) < key (p.getD ((l + r) / 2) 0)
      · rw [show ltK key (p.getD k 0) (p.getD ((l + r) / 2) 0) = true from decide_eq_true hc]
        dsimp only
        rw [if_pos rfl]
        refine place_pw hk hu ha f l ((l + r) / 2) (by lia) (by lia) (by lia) h1 fun a ha' hak=>?_
        have:=hle ((l + r) / 2) a ha' hak
        lia
      · rw [show ltK key (p.getD k 0) (p.getD ((l + r) / 2) 0) = false from decide_eq_false hc]
        dsimp only
        rw [if_neg (by simp)]
        refine place_pw hk hu ha f ((l + r) / 2 + 1) r (by lia) (by lia) hr (fun a ha'=>?_) h2
        have:=hle a ((l + r) / 2) (by lia) (by lia)
        lia
theorem bin_pw:∀ (f:Nat) (p:Array Nat) (k:Nat),k + f = N→Un N p k→Asc key p k→pw N (ltK key) (kas_bin f p k) fun r=>Un N r N∧Asc key r N
  | 0,p,k,hf,hu,ha=>by
    obtain rfl:k = N:=by lia
    exact ⟨hu,ha⟩
  | f + 1,p,k,hf,hu,ha=>by
    have hkp:k < p.size:=by have:=hu.size; lia
    have hk0:p.getD k 0 = k:=hu.hi k (Nat.le_refl _) (by lia)
    refine pw_bind (pw_mono (fun l h=>?_) (place_pw (by lia) hu ha k 0 k (by lia) (Nat.zero_le _) (Nat.le_refl _) (fun a h=>by lia) fun a h1 h2=>by lia))
    obtain ⟨hl,h1,h2⟩:=h
    have hb:∀ m,(bubble p k (k - l)).getD m 0 = if m = l then p.getD k 0 else if l < m∧m≤k then p.getD (m - 1) 0 else p.getD m 0:=fun m=>bub_get p k l m hkp hl
    refine bin_pw f _ (k + 1) (by lia) ⟨by rw [bubble_size]; exact hu.size,by lia,fun m hm=>?_,fun m hm hm'=>?_⟩ fun a b hab hbk=>?_
    · rw [hb]
      by_cases e1:m = l
      · rw [if_pos e1,hk0]; lia
      · rw [if_neg e1]
        by_cases e2:l < m∧m≤k
        · rw [if_pos e2]; have:=hu.lo (m - 1) (by lia); lia
        · rw [if_neg e2]; have:=hu.lo m (by lia); lia
    · rw [hb,if_neg (by lia),if_neg (by lia)]
      exact hu.hi m (by lia) hm'
    · have old:∀ x,x < l→(bubble p k (k - l)).getD x 0 = p.getD x 0:=fun x hx=>by rw [hb,if_neg (by lia),if_neg (by lia)]
      have mid:(bubble p k (k - l)).getD l 0 = p.getD k 0:=by rw [hb,if_pos rfl]
      have new:∀ x,l < x→x≤k→(bubble p k (k - l)).getD x 0 = p.getD (x - 1) 0:=fun x hx hx'=>by rw [hb,if_neg (by lia),if_pos ⟨hx,hx'⟩]
      have low:∀ x,x < l→Bf key (p.getD x 0) (p.getD k 0):=fun x hx=>by
        have:=h1 x hx
        have:=hu.lo x (by lia)
        unfold Bf
        lia
      have high:∀ x,l≤x→x < k→Bf key (p.getD k 0) (p.getD x 0):=fun x hx hx'=>.inl (h2 x hx hx')
      rcases Nat.lt_trichotomy a l with e1 | e1 | e1
      · rw [old a e1]
        rcases Nat.lt_trichotomy b l with e2 | e2 | e2
        · rw [old b e2]; exact ha a b hab (by lia)
        · rw [e2,mid]; exact low a e1
        · rw [new b e2 (by lia)]; exact ha a (b - 1) (by lia) (by lia)
      · rw [e1,mid,new b (by lia) (by lia)]
        exact high (b - 1) (by lia) (by lia)
      · rw [new a e1 (by lia),new b (by lia) (by lia)]
        exact ha (a - 1) (b - 1) (by lia) (by lia)
theorem sort_pw (hN:1≤N):pw N (ltK key) (kas_sort N) fun r=>Un N r N∧Asc key r N:=by
  have h0:Un N (List.toArray (List.range N)) 1:=by
    have hg:∀ m,m < N→(List.toArray (List.range N)).getD m 0 = m:=fun m hm=>by simp [Array.getD,hm]
    refine ⟨by simp,hN,fun m hm=>?_,fun m hm hm'=>hg m hm'⟩
    rw [hg m (by lia)]; lia
  refine pw_bind (pw_mono (fun r h=>?_) (count_pw hN h0))
  obtain ⟨h1,h2,hu,ha⟩:=h
  by_cases e:r.1 < N
  · rw [if_pos e,show max r.1 1 = r.1 by lia]
    exact bin_pw _ _ _ (by lia) hu ha
  · rw [if_neg e]
    have e:r.1 = N:=by lia
    rw [e] at hu ha
    exact ⟨hu,ha⟩
end
end
noncomputable abbrev e10 (R:RO) (w:World) (b:Bool):Expr:=lwE10 (Zqd R (wb w b))
noncomputable abbrev v10 (R:RO) (w:World) (b:Bool) (loc:Addr):Env:=env10 (Zqd R (wb w b)) loc
noncomputable def orc_X0:List Nat:=[1,1]
theorem X0_v (prog:Program) (w:World) (b:Bool) (R:RO) (loc:Addr) (r:Int) (ur tr:Nat) (W:List Nat) (u n t:Nat) (f:Nat→Ext) :
    Zqh [0] [] (c10As (hz (wb w b)) (Zqd R (wb w b)) Zqg loc r ur tr none W u n t) (x10Ex f) [] (Zzz (T3 R) prog (wb w b) n t [] [] (c10As (hz (wb w b)) (Zqd R (wb w b)) Zqg loc r ur tr none W u n t) orc_X0 f):=by cases b <;> kernel_rfl
noncomputable def orc_X1:List Nat:=[1,1]
theorem X1_v (prog:Program) (w:World) (b:Bool) (R:RO) (loc:Addr) (r:Int) (ur tr:Nat) (o:Nat × List Nat × Nat) (W:List Nat) (u n t:Nat) (f:Nat→Ext) :
    Zqh [0] [] (c10As (hz (wb w b)) (Zqd R (wb w b)) Zqg loc r ur tr (some o) W u n t) (x10Ex f) [] (Zzz (T3 R) prog (wb w b) n t [] [] (c10As (hz (wb w b)) (Zqd R (wb w b)) Zqg loc r ur tr (some o) W u n t) orc_X1 f):=by cases b <;> kernel_rfl
noncomputable abbrev x10L (R:RO) (w:World) (b:Bool) (loc:Addr) (r:Int) (ur tr:Nat) (o:Nat × List Nat × Nat) (v:Int) (n t:Nat):Zq2 Value:=cEv Zq9 (cmpL (gIf (gen2 (e10 R w b)))) (v10 R w b loc) [(loc,x10 (hz (wb w b)) r ur tr (some o))] (fun x=>.int v (x.nat 2)) 30 n t
noncomputable def orc_XL:List Nat:=[0,1,0,0,0,0,0,1,0,0]
theorem XL_v (prog:Program) (w:World) (b:Bool) (R:RO) (loc:Addr) (r:Int) (ur tr:Nat) (o:Nat × List Nat × Nat) (v:Int) (n t:Nat) (f:Nat→Ext) :
    Zqh [0] [] (x10L R w b loc r ur tr o v n t) (vEx f) [] (Zzz (T3 R) prog (wb w b) n t [] [rkFam o.2.1 v] (x10L R w b loc r ur tr o v n t) orc_XL f):=by cases b <;> kernel_rfl
noncomputable abbrev x10R (R:RO) (w:World) (b:Bool) (loc:Addr) (r:Int) (ur tr:Nat) (o:Nat × List Nat × Nat) (n t:Nat):Zq2 Value:=cEv Zq9 (cmpR (gIf (gen2 (e10 R w b)))) (v10 R w b loc) [(loc,x10 (hz (wb w b)) r ur tr (some o))] (fun _=>.int r tr) 30 n t
noncomputable def orc_XR:List Nat:=[1]
theorem XR_v (prog:Program) (w:World) (b:Bool) (R:RO) (loc:Addr) (r:Int) (ur tr:Nat) (o:Nat × List Nat × Nat) (n t:Nat) (f:Nat→Ext) :
    Zqh [0] [] (x10R R w b loc r ur tr o n t) (vEx f) [] (Zzz (T3 R) prog (wb w b) n t [] [] (x10R R w b loc r ur tr o n t) orc_XR f):=by cases b <;> kernel_rfl
noncomputable abbrev x10E (R:RO) (w:World) (b:Bool) (loc:Addr) (r:Int) (ur tr:Nat) (o:Nat × List Nat × Nat) (n t:Nat):Zq2 Value:=cEv Zq9 (Zqp (e10 R w b)) (v10 R w b loc) [(loc,x10 (hz (wb w b)) r ur tr (some o))] (fun _=>.str (S o.2.1) o.2.2) 30 n t
noncomputable def orc_XE:List Nat:=[1]
theorem XE_v (prog:Program) (w:World) (b:Bool) (R:RO) (loc:Addr) (r:Int) (ur tr:Nat) (o:Nat × List Nat × Nat) (n t:Nat) (f:Nat→Ext) :
    Zqh [0] [] (x10E R w b loc r ur tr o n t) (vEx f) [] (Zzz (T3 R) prog (wb w b) n t [] [] (x10E R w b loc r ur tr o n t) orc_XE f):=by cases b <;> kernel_rfl
noncomputable def orc_L10:List Nat:=Zxh 16 183 0x144404040013210411010115334444444040400132104110101153344444440404001321041101011533444444404040013210411010115334444444040400132104110101153344444440404001325041105055433111111101010
theorem L10_v (prog:Program) (w:World) (b:Bool) (R:RO) (loc it acc:Addr) (ks:List (Fin 6)) (rk:Fin 6→Int) (tk:Nat→Nat) (ep ea:Nat) (W:List Nat) (g:Nat→Nat→Nat) (n t:Nat) (f:Nat→Ext) :
    Zvk [3,4] [] (l10Con (hz (wb w b)) (Zqd R (wb w b)) true loc it acc ks rk tk ep ea W g n t) (l10Ex f) [] (Zzs (T3 R) prog (wb w b) n t [] [c10Fam (hz (wb w b)) (Zqd R (wb w b)) ks rk tk W] (l10Con (hz (wb w b)) (Zqd R (wb w b)) true loc it acc ks rk tk ep ea W g n t) orc_L10 f):=by cases b <;> kernel_rfl
noncomputable def orc_LW10:List Nat:=Zxh 16 38 0x22222244016501251111101011101011000000
theorem LW10_v (prog:Program) (w:World) (b:Bool) (R:RO) (ft:Nat→Nat) (cut:Int) (u:Nat) (la ls lp ld le:Addr) (sl:Array (Option Value)) (ks:List (Fin 6)) (rk:Fin 6→Int) (tk:Nat→Nat) (ep:Nat) (g:Nat→Nat→Nat) (W:List Nat) (n t:Nat) (f:Nat→Ext) :
    Zqh [0,3] [] (lw10 (hz (wb w b)) (Zqd R (wb w b)) Zqm ft cut u la ls lp ld le sl ks rk tk ep g n t) (lw10Ex f) [] (Zzz (T3 R) prog (wb w b) n t [] [s10Fam (hz (wb w b)) (Zqd R (wb w b)) ks rk tk W] (lw10 (hz (wb w b)) (Zqd R (wb w b)) Zqm ft cut u la ls lp ld le sl ks rk tk ep g n t) orc_LW10 f):=by cases b <;> kernel_rfl
noncomputable abbrev e9i (R:RO) (w:World) (b:Bool):Expr:=lwE9i (Zqd R (wb w b))
noncomputable abbrev e9 (R:RO) (w:World) (b:Bool):Expr:=lwE9 (Zqd R (wb w b))
noncomputable abbrev v9i (R:RO) (w:World) (b:Bool) (loc cn loc2:Addr):Env:=env9i (Zqd R (wb w b)) loc cn loc2
noncomputable def orc_I9A0:List Nat:=[1,1]
theorem I9A0_v (prog:Program) (w:World) (b:Bool) (R:RO) (loc cn loc2:Addr) (v:Int) (u n t:Nat) (f:Nat→Ext) :
    (Zqh [0] [] (cAsg' (hz (wb w b)) Zqg (Zq0 (e9i R w b)) (v9i R w b loc cn loc2) "k" loc2 none (.int v u) n t) (fun _ l _=>exN fun _=>Zj2 l 0 0) [] (Zzz (T3 R) prog (wb w b) n t [] [] (cAsg' (hz (wb w b)) Zqg (Zq0 (e9i R w b)) (v9i R w b loc cn loc2) "k" loc2 none (.int v u) n t) orc_I9A0 f))∧Zjd (Zzz (T3 R) prog (wb w b) n t [] [] (cAsg' (hz (wb w b)) Zqg (Zq0 (e9i R w b)) (v9i R w b loc cn loc2) "k" loc2 none (.int v u) n t) orc_I9A0 f) = 0:=by cases b <;> (constructor <;> kernel_rfl)
noncomputable def orc_I9A1:List Nat:=[1,1]
theorem I9A1_v (prog:Program) (w:World) (b:Bool) (R:RO) (loc cn loc2:Addr) (u':Nat) (v':Int) (t':Nat) (v:Int) (u n t:Nat) (f:Nat→Ext) :
    (Zqh [0] [] (cAsg' (hz (wb w b)) Zqg (Zq0 (e9i R w b)) (v9i R w b loc cn loc2) "k" loc2 (some (u',.int v' t')) (.int v u) n t) (fun _ l _=>exN fun _=>Zj2 l 0 0) [] (Zzz (T3 R) prog (wb w b) n t [] [] (cAsg' (hz (wb w b)) Zqg (Zq0 (e9i R w b)) (v9i R w b loc cn loc2) "k" loc2 (some (u',.int v' t')) (.int v u) n t) orc_I9A1 f))∧Zjd (Zzz (T3 R) prog (wb w b) n t [] [] (cAsg' (hz (wb w b)) Zqg (Zq0 (e9i R w b)) (v9i R w b loc cn loc2) "k" loc2 (some (u',.int v' t')) (.int v u) n t) orc_I9A1 f) = 0:=by cases b <;> (constructor <;> kernel_rfl)
noncomputable abbrev i9L (R:RO) (w:World) (b:Bool) (loc cn loc2 nm:Addr) (u:Nat) (j:Int) (tj:Nat) (xs:List Value) (er:Nat) (v:Value) (n t:Nat):Zq2 Value:=cEv Zq9 (cmpL (Zxf (e9i R w b))) (v9i R w b loc cn loc2) [(loc2,xV (hz (wb w b)) "k" (some (u,.int j tj))),(808,Zzq (some (.ref nm))),(nm,Zqz xs er)] (fun _=>v) 30 n t
noncomputable def orc_I9L:List Nat:=[2,1,3,3,3,0,3,1,1,2,0]
theorem I9L_v (prog:Program) (w:World) (b:Bool) (R:RO) (loc cn loc2 nm:Addr) (u:Nat) (j:Int) (tj:Nat) (xs:List Value) (er:Nat) (v:Int) (tv n t:Nat) (f:Nat→Ext) :
    Zqh [1,2,0] [] (i9L R w b loc cn loc2 nm u j tj xs er (.int v tv) n t) (vEx f) [] (Zzz (T3 R) prog (wb w b) n t [] [giFamX nm xs j (.int v tv)] (i9L R w b loc cn loc2 nm u j tj xs er (.int v tv) n t) orc_I9L f):=by cases b <;> kernel_rfl
noncomputable abbrev i9R (R:RO) (w:World) (b:Bool) (loc cn loc2:Addr) (x:Int) (ux n t:Nat):Zq2 Value:=cEv Zq9 (cmpR (Zxf (e9i R w b))) (v9i R w b loc cn loc2) [(cn,Zzq (some (.int x ux)))] (fun _=>.int x ux) 30 n t
noncomputable def orc_I9R:List Nat:=[1]
theorem I9R_v (prog:Program) (w:World) (b:Bool) (R:RO) (loc cn loc2:Addr) (x:Int) (ux n t:Nat) (f:Nat→Ext) :
    Zqh [0] [] (i9R R w b loc cn loc2 x ux n t) (vEx f) [] (Zzz (T3 R) prog (wb w b) n t [] [] (i9R R w b loc cn loc2 x ux n t) orc_I9R f):=by cases b <;> kernel_rfl
noncomputable abbrev i9E (R:RO) (w:World) (b:Bool) (loc cn loc2:Addr) (u:Nat) (j:Int) (tj:Nat) (xs:List Value) (ep:Nat) (v:Value) (n t:Nat):Zq2 Value:=cEv Zq9 (Zqp (e9i R w b)) (v9i R w b loc cn loc2) [(loc2,xV (hz (wb w b)) "k" (some (u,.int j tj))),(807,Zzq (some (.ref 828))),(828,Zqz xs ep)] (fun _=>v) 30 n t
noncomputable def orc_I9E:List Nat:=[2,1,3,3,3,0,3,1,1,2,0]
theorem I9E_v (prog:Program) (w:World) (b:Bool) (R:RO) (loc cn loc2:Addr) (u:Nat) (j:Int) (tj:Nat) (xs:List Value) (ep:Nat) (W:List Nat) (tv n t:Nat) (f:Nat→Ext) :
    Zqh [1,2,0] [] (i9E R w b loc cn loc2 u j tj xs ep (.str (S W) tv) n t) (vEx f) [] (Zzz (T3 R) prog (wb w b) n t [] [giFamX 828 xs j (.str (S W) tv)] (i9E R w b loc cn loc2 u j tj xs ep (.str (S W) tv) n t) orc_I9E f):=by cases b <;> kernel_rfl
noncomputable def orc_E9:List Nat:=Zxh 16 24 0x222098765012821011120221
theorem E9_v (prog:Program) (w:World) (b:Bool) (R:RO) (loc cn nm pl:Addr) (ks:List (Fin 6)) (tk:Nat→Nat) (ep:Nat) (ns:List Int) (tn:Nat→Nat) (en:Nat) (x:Int) (ux pt pu pv n t:Nat) (f:Nat→Ext) :
    Zqh [0,8,7,2,3,4,5,6] [] (c9El (hz (wb w b)) (Zqd R (wb w b)) Zq9 loc cn nm pl ks tk ep ns tn en x ux pt pu pv n t) (c9ElEx f) [] (Zzz (T3 R) prog (wb w b) n t [] [riFam (Int.ofNat ks.length - 1) (-1) (-1) (Int.ofNat ks.length),ciFam (hz (wb w b)) (Zqd R (wb w b)) loc cn nm ks tk ep ns tn en x ux] (c9El (hz (wb w b)) (Zqd R (wb w b)) Zq9 loc cn nm pl ks tk ep ns tn en x ux pt pu pv n t) orc_E9 f):=by cases b <;> kernel_rfl
noncomputable def orc_A90:List Nat:=[1,1]
theorem A90_v (prog:Program) (w:World) (b:Bool) (R:RO) (loc cn:Addr) (v:Int) (u n t:Nat) (f:Nat→Ext) :
    Zqh [0] [] (c9As (Zqd R (wb w b)) Zqg loc cn none v u n t) (ex0 f) [] (Zzz (T3 R) prog (wb w b) n t [] [] (c9As (Zqd R (wb w b)) Zqg loc cn none v u n t) orc_A90 f):=by cases b <;> kernel_rfl
noncomputable def orc_A91:List Nat:=[1,1]
theorem A91_v (prog:Program) (w:World) (b:Bool) (R:RO) (loc cn:Addr) (o:Int × Nat) (v:Int) (u n t:Nat) (f:Nat→Ext) :
    Zqh [0] [] (c9As (Zqd R (wb w b)) Zqg loc cn (some o) v u n t) (ex0 f) [] (Zzz (T3 R) prog (wb w b) n t [] [] (c9As (Zqd R (wb w b)) Zqg loc cn (some o) v u n t) orc_A91 f):=by cases b <;> kernel_rfl
noncomputable def lw9Fams (w:World) (b:Bool) (R:RO) (nm pl:Addr) (ks:List (Fin 6)) (tk:Nat→Nat) (ep:Nat) (ns:List Int) (tn:Nat→Nat) (en pt pu pv:Nat) (z:Int) (css:List (List (Fin 6))):List Fam:=[mxFam ns z,riFam 0 (z + 1) 1 (z + 1),c9Fam (hz (wb w b)) (Zqd R (wb w b)) nm pl ks tk ep ns tn en pt pu pv z css]
noncomputable def orc_LW9:List Nat:=Zxh 16 48 0x660b5a9870123a3100121011101011000000001511030000
theorem LW9_v (prog:Program) (w:World) (b:Bool) (R:RO) (ft:Nat→Nat) (cut:Int) (u:Nat) (la ls lp ld nm pl:Addr) (sl:Array (Option Value)) (ks:List (Fin 6)) (tk:Nat→Nat) (ep:Nat) (ns:List Int) (g:Nat→Nat→Nat) (en pt pu pv:Nat) (z:Int) (css:List (List (Fin 6))) (n t:Nat) (f:Nat→Ext) :
    Zqh [0,5,2,3] [0] (lw9 (hz (wb w b)) (Zqd R (wb w b)) Zqm ft cut u la ls lp ld nm pl sl ks tk ep ns g en pt pu pv css n t) (lw9Ex 2 f) [] (Zzz (T3 R) prog (wb w b) n t [] (lw9Fams w b R nm pl ks tk ep ns (g 0) en pt pu pv z css) (lw9 (hz (wb w b)) (Zqd R (wb w b)) Zqm ft cut u la ls lp ld nm pl sl ks tk ep ns g en pt pu pv css n t) orc_LW9 f):=by cases b <;> kernel_rfl
noncomputable def orc_LW8:List Nat:=Zxh 16 29 0x44101011000000000000211010000
theorem LW8_v (prog:Program) (w:World) (b:Bool) (R:RO) (ks:List (Fin 6)) (tk:Nat→Nat) (ep:Nat) (n t:Nat) (f:Nat→Ext) :
    Zqh [0,2,3,1] [] (lw8 (hz (wb w b)) (Zqd R (wb w b)) Zqm ks tk ep n t) (lw8Ex f) [] (Zzz (T3 R) prog (wb w b) n t [] [lenFamN 828 (wdV ks tk) ks.length] (lw8 (hz (wb w b)) (Zqd R (wb w b)) Zqm ks tk ep n t) orc_LW8 f):=by cases b <;> kernel_rfl
noncomputable abbrev eN (R:RO) (w:World) (b:Bool):Expr:=nuE (Zqd R (wb w b))
noncomputable abbrev vN (R:RO) (w:World) (b:Bool) (fr cr cn ck loc:Addr):Env:=nuCEnv (Zqd R (wb w b)) fr cr cn ck loc
noncomputable def orc_NUP:List Nat:=[0,3,3]
theorem NUP_v (prog:Program) (w:World) (b:Bool) (R:RO) (row:Addr) (n t:Nat) (f:Nat→Ext) :
    (Zqh [3,2,1,0] [] (nuPrep Zjw (Zqd R (wb w b)) row n t) (ex0 f) [] (Zzz (T3 R) prog (wb w b) n t [] [] (nuPrep Zjw (Zqd R (wb w b)) row n t) orc_NUP f))∧Zjd (Zzz (T3 R) prog (wb w b) n t [] [] (nuPrep Zjw (Zqd R (wb w b)) row n t) orc_NUP f) = 4:=by cases b <;> (constructor <;> kernel_rfl)
noncomputable def orc_N0:List Nat:=[2,2]
theorem N0_v (prog:Program) (w:World) (b:Bool) (R:RO) (fr cr cn ck:Addr) (n t:Nat) (f:Nat→Ext) :
    Zqh [0,1] [] (nu0 (Zqd R (wb w b)) Zqm fr cr cn ck n t) (ad2 f) [] (Zzz (T3 R) prog (wb w b) n t [] [] (nu0 (Zqd R (wb w b)) Zqm fr cr cn ck n t) orc_N0 f):=by cases b <;> kernel_rfl
noncomputable def orc_NI:List Nat:=Zxh 16 29 0x10012101110101100000111010000
theorem NI_v (prog:Program) (w:World) (b:Bool) (R:RO) (fr cr cn ck row:Addr) (rs:List Int) (tk:Nat→Nat) (er n t:Nat) (f:Nat→Ext) :
    Zqh [0,3,2] [] (nuI (Zqd R (wb w b)) Zq9 fsiZ Zjq fr cr cn ck row rs tk er n t) (ad2 f) [] (Zzz (T3 R) prog (wb w b) n t [] [lenFamN row (Zz2 rs tk) rs.length,riFam 0 (Int.ofNat rs.length) 1 (Int.ofNat rs.length)] (nuI (Zqd R (wb w b)) Zq9 fsiZ Zjq fr cr cn ck row rs tk er n t) orc_NI f):=by cases b <;> kernel_rfl
noncomputable def orc_NA0:List Nat:=[1,1]
theorem NA0_v (prog:Program) (w:World) (b:Bool) (R:RO) (fr cr cn ck:Addr) (v:Int) (u n t:Nat) (f:Nat→Ext) :
    Zqh [0] [] (nuA Zqg (Zqd R (wb w b)) fr cr cn ck none v u n t) (ex0 f) [] (Zzz (T3 R) prog (wb w b) n t [] [] (nuA Zqg (Zqd R (wb w b)) fr cr cn ck none v u n t) orc_NA0 f):=by cases b <;> kernel_rfl
noncomputable def orc_NA1:List Nat:=[1,1]
theorem NA1_v (prog:Program) (w:World) (b:Bool) (R:RO) (fr cr cn ck:Addr) (o:Int × Nat) (v:Int) (u n t:Nat) (f:Nat→Ext) :
    Zqh [0] [] (nuA Zqg (Zqd R (wb w b)) fr cr cn ck (some o) v u n t) (ex0 f) [] (Zzz (T3 R) prog (wb w b) n t [] [] (nuA Zqg (Zqd R (wb w b)) fr cr cn ck (some o) v u n t) orc_NA1 f):=by cases b <;> kernel_rfl
noncomputable def nbFams (w:World) (b:Bool) (R:RO) (fr cr cn ck row nm:Addr) (rs ns:List Int) (tk tn:Nat→Nat) (er en u:Nat) (low:List Int) (z:Int) (ne:Option Int):List Fam:=[riFam 0 (Int.ofNat ns.length) 1 (Int.ofNat ns.length),ncFam (hz (wb w b)) (Zqd R (wb w b)) fr cr cn ck row nm rs ns tk tn er en u low ne,laFamB 0 low,mxFam (0::low) z,apFamN (Zz2 ns tn)]
noncomputable def orc_NB0:List Nat:=Zxh 16 64 0x815900101400108239091920987650128210011101110101100004000055552
theorem NB0_v (prog:Program) (w:World) (b:Bool) (R:RO) (fr cr cn ck row nm:Addr) (rs ns:List Int) (tk tn:Nat→Nat) (er en u:Nat) (low:List Int) (z:Int) (n t:Nat) (f:Nat→Ext) :
    Zqh [5,6,7,8,0] [] (nuB (Zqd R (wb w b)) Zqm fr cr cn ck row nm rs ns tk tn er en u z n t) (nbEx f) [] (Zzz (T3 R) prog (wb w b) n t [] (nbFams w b R fr cr cn ck row nm rs ns tk tn er en u low z none) (nuB (Zqd R (wb w b)) Zqm fr cr cn ck row nm rs ns tk tn er en u z n t) orc_NB0 f):=by cases b <;> kernel_rfl
noncomputable def orc_NB1:List Nat:=Zxh 16 66 0x81590010140010823909192220987650128210011101110101100004000055552
theorem NB1_v (prog:Program) (w:World) (b:Bool) (R:RO) (fr cr cn ck row nm:Addr) (rs ns:List Int) (tk tn:Nat→Nat) (er en u:Nat) (low:List Int) (z j:Int) (n t:Nat) (f:Nat→Ext) :
    Zqh [5,6,7,8,0] [] (nuB (Zqd R (wb w b)) Zqm fr cr cn ck row nm rs ns tk tn er en u z n t) (nbEx f) [] (Zzz (T3 R) prog (wb w b) n t [] (nbFams w b R fr cr cn ck row nm rs ns tk tn er en u low z (some j)) (nuB (Zqd R (wb w b)) Zqm fr cr cn ck row nm rs ns tk tn er en u z n t) orc_NB1 f):=by cases b <;> kernel_rfl
noncomputable def orc_NR:List Nat:=[1]
theorem NR_v (prog:Program) (w:World) (b:Bool) (R:RO) (fr cr cn ck nm n t:Nat) (f:Nat→Ext) :
    Zqh [0] [] (nuR (Zqd R (wb w b)) Zqm fr cr cn ck nm n t) (ex0 f) [] (Zzz (T3 R) prog (wb w b) n t [] [] (nuR (Zqd R (wb w b)) Zqm fr cr cn ck nm n t) orc_NR f):=by cases b <;> kernel_rfl
noncomputable def orc_CA0:List Nat:=[1,1]
theorem CA0_v (prog:Program) (w:World) (b:Bool) (R:RO) (fr cr cn ck loc:Addr) (v:Int) (u n t:Nat) (f:Nat→Ext) :
    (Zqh [0] [] (cAsg' (hz (wb w b)) Zqg (Zq0 (eN R w b)) (vN R w b fr cr cn ck loc) "j" loc none (.int v u) n t) (fun _ l _=>exN fun _=>Zj2 l 0 0) [] (Zzz (T3 R) prog (wb w b) n t [] [] (cAsg' (hz (wb w b)) Zqg (Zq0 (eN R w b)) (vN R w b fr cr cn ck loc) "j" loc none (.int v u) n t) orc_CA0 f))∧Zjd (Zzz (T3 R) prog (wb w b) n t [] [] (cAsg' (hz (wb w b)) Zqg (Zq0 (eN R w b)) (vN R w b fr cr cn ck loc) "j" loc none (.int v u) n t) orc_CA0 f) = 0:=by cases b <;> (constructor <;> kernel_rfl)
noncomputable def orc_CA1:List Nat:=[1,1]
theorem CA1_v (prog:Program) (w:World) (b:Bool) (R:RO) (fr cr cn ck loc:Addr) (u':Nat) (v':Int) (t':Nat) (v:Int) (u n t:Nat) (f:Nat→Ext) :
    (Zqh [0] [] (cAsg' (hz (wb w b)) Zqg (Zq0 (eN R w b)) (vN R w b fr cr cn ck loc) "j" loc (some (u',.int v' t')) (.int v u) n t) (fun _ l _=>exN fun _=>Zj2 l 0 0) [] (Zzz (T3 R) prog (wb w b) n t [] [] (cAsg' (hz (wb w b)) Zqg (Zq0 (eN R w b)) (vN R w b fr cr cn ck loc) "j" loc (some (u',.int v' t')) (.int v u) n t) orc_CA1 f))∧Zjd (Zzz (T3 R) prog (wb w b) n t [] [] (cAsg' (hz (wb w b)) Zqg (Zq0 (eN R w b)) (vN R w b fr cr cn ck loc) "j" loc (some (u',.int v' t')) (.int v u) n t) orc_CA1 f) = 0:=by cases b <;> (constructor <;> kernel_rfl)
noncomputable abbrev clT (R:RO) (w:World) (b:Bool) (fr cr cn ck loc row:Addr) (u:Nat) (j:Int) (tj:Nat) (xs:List Value) (er:Nat) (v:Value) (n t:Nat):Zq2 Value:=cEv Zq9 (cmpL (Zxf (eN R w b))) (vN R w b fr cr cn ck loc) [(loc,xV (hz (wb w b)) "j" (some (u,.int j tj))),(cr,Zzq (some (.ref row))),(row,Zqz xs er)] (fun _=>v) 30 n t
noncomputable def orc_CL:List Nat:=[2,1,3,3,3,0,3,1,1,2,0]
theorem CL_v (prog:Program) (w:World) (b:Bool) (R:RO) (fr cr cn ck loc row:Addr) (u:Nat) (j:Int) (tj:Nat) (xs:List Value) (er:Nat) (v:Int) (tv n t:Nat) (f:Nat→Ext) :
    Zqh [1,2,0] [] (clT R w b fr cr cn ck loc row u j tj xs er (.int v tv) n t) (vEx f) [] (Zzz (T3 R) prog (wb w b) n t [] [giFamX row xs j (.int v tv)] (clT R w b fr cr cn ck loc row u j tj xs er (.int v tv) n t) orc_CL f):=by cases b <;> kernel_rfl
noncomputable abbrev crT (R:RO) (w:World) (b:Bool) (fr cr cn ck loc row:Addr) (k:Int) (u:Nat) (xs:List Value) (er:Nat) (v:Value) (n t:Nat):Zq2 Value:=cEv Zq9 (cmpR (Zxf (eN R w b))) (vN R w b fr cr cn ck loc) [(ck,Zzq (some (.int k u))),(cr,Zzq (some (.ref row))),(row,Zqz xs er)] (fun _=>v) 30 n t
noncomputable def orc_CR:List Nat:=[2,1,3,3,3,0,3,1,1,2,0]
theorem CR_v (prog:Program) (w:World) (b:Bool) (R:RO) (fr cr cn ck loc row:Addr) (k:Int) (u:Nat) (xs:List Value) (er:Nat) (v:Int) (tv n t:Nat) (f:Nat→Ext) :
    Zqh [1,2,0] [] (crT R w b fr cr cn ck loc row k u xs er (.int v tv) n t) (vEx f) [] (Zzz (T3 R) prog (wb w b) n t [] [giFamX row xs k (.int v tv)] (crT R w b fr cr cn ck loc row k u xs er (.int v tv) n t) orc_CR f):=by cases b <;> kernel_rfl
noncomputable abbrev ceT (R:RO) (w:World) (b:Bool) (fr cr cn ck loc nm:Addr) (u:Nat) (j:Int) (tj:Nat) (xs:List Value) (en:Nat) (v:Int) (n t:Nat):Zq2 Value:=cEv Zq9 (Zqp (eN R w b)) (vN R w b fr cr cn ck loc) [(loc,xV (hz (wb w b)) "j" (some (u,.int j tj))),(cn,Zzq (some (.ref nm))),(nm,Zqz xs en)] (fun x=>.int (1 + v) (x.nat 2)) 30 n t
noncomputable def orc_CE:List Nat:=Zxh 16 14 0x2113033312
theorem CE_v (prog:Program) (w:World) (b:Bool) (R:RO) (fr cr cn ck loc nm:Addr) (u:Nat) (j:Int) (tj:Nat) (xs:List Value) (en:Nat) (v:Int) (tv n t:Nat) (f:Nat→Ext) :
    Zqh [1,2,0] [] (ceT R w b fr cr cn ck loc nm u j tj xs en v n t) (vEx f) [] (Zzz (T3 R) prog (wb w b) n t [] [giFamX nm xs j (.int v tv)] (ceT R w b fr cr cn ck loc nm u j tj xs en v n t) orc_CE f):=by cases b <;> kernel_rfl
noncomputable abbrev e7 (R:RO) (w:World) (b:Bool):Expr:=lwE7 (Zqd R (wb w b))
noncomputable abbrev v7 (R:RO) (w:World) (b:Bool) (loc:Addr):Env:=Zxn (Zqd R (wb w b)) (e7 R w b) loc lwC7
noncomputable def orc_A70:List Nat:=[1,1]
theorem A70_v (prog:Program) (w:World) (b:Bool) (R:RO) (loc:Addr) (W:List Nat) (tt:Nat) (n t:Nat) (f:Nat→Ext) :
    (Zqh [0] [] (Zvc (hz (wb w b)) Zqg (e7 R w b) (v7 R w b loc) "word" loc none (.str (S W) tt) n t) (fun _ l _=>exN fun _=>Zj2 l 0 0) [] (Zzz (T3 R) prog (wb w b) n t [] [] (Zvc (hz (wb w b)) Zqg (e7 R w b) (v7 R w b loc) "word" loc none (.str (S W) tt) n t) orc_A70 f))∧Zjd (Zzz (T3 R) prog (wb w b) n t [] [] (Zvc (hz (wb w b)) Zqg (e7 R w b) (v7 R w b loc) "word" loc none (.str (S W) tt) n t) orc_A70 f) = 0:=by cases b <;> (constructor <;> kernel_rfl)
noncomputable def orc_A71:List Nat:=[1,1]
theorem A71_v (prog:Program) (w:World) (b:Bool) (R:RO) (loc:Addr) (u:Nat) (W':List Nat) (t':Nat) (W:List Nat) (tt:Nat) (n t:Nat) (f:Nat→Ext) :
    (Zqh [0] [] (Zvc (hz (wb w b)) Zqg (e7 R w b) (v7 R w b loc) "word" loc (some (u,.str (S W') t')) (.str (S W) tt) n t) (fun _ l _=>exN fun _=>Zj2 l 0 0) [] (Zzz (T3 R) prog (wb w b) n t [] [] (Zvc (hz (wb w b)) Zqg (e7 R w b) (v7 R w b loc) "word" loc (some (u,.str (S W') t')) (.str (S W) tt) n t) orc_A71 f))∧Zjd (Zzz (T3 R) prog (wb w b) n t [] [] (Zvc (hz (wb w b)) Zqg (e7 R w b) (v7 R w b loc) "word" loc (some (u,.str (S W') t')) (.str (S W) tt) n t) orc_A71 f) = 0:=by cases b <;> (constructor <;> kernel_rfl)
noncomputable def orc_P7:List Nat:=[0,1,0,0,0,0,0,1,0,0]
theorem P7_v (prog:Program) (w:World) (b:Bool) (R:RO) (loc u:Nat) (W:List Nat) (tt:Nat) (rv:Int) (n t:Nat) (f:Nat→Ext) :
    Zqh [0] [] (cRk (hz (wb w b)) Zq9 (Zqp (e7 R w b)) (v7 R w b loc) loc u W tt rv n t) (cRkEx f) [] (Zzz (T3 R) prog (wb w b) n t [] [rkFam W rv] (cRk (hz (wb w b)) Zq9 (Zqp (e7 R w b)) (v7 R w b loc) loc u W tt rv n t) orc_P7 f):=by cases b <;> kernel_rfl
noncomputable def orc_LW71:List Nat:=Zxh 16 25 0x6601020222001624110404420
theorem LW71_v (prog:Program) (w:World) (b:Bool) (R:RO) (ft:Nat→Nat) (cut:Int) (u:Nat) (la ls lp ld:Addr) (sl:Array (Option Value)) (ks:List (Fin 6)) (rk:Fin 6→Int) (tk:Nat→Nat) (ep:Nat) (ns:List Int) (W:List Nat) (n t:Nat) (f:Nat→Ext) :
    Zqh [0,3,4,5,1] [] (lw7 (hz (wb w b)) (Zqd R (wb w b)) Zqm ft cut u la ls lp ld sl ks tk ep ns n t) (lw7Ex f) [] (Zzz (T3 R) prog (wb w b) n t [] [c7Fam (hz (wb w b)) (Zqd R (wb w b)) ks rk tk (some W),nuFam (ks.map rk) ns] (lw7 (hz (wb w b)) (Zqd R (wb w b)) Zqm ft cut u la ls lp ld sl ks tk ep ns n t) orc_LW71 f):=by cases b <;> kernel_rfl
noncomputable abbrev e6 (R:RO) (w:World) (b:Bool):Expr:=lwE6 (Zqd R (wb w b))
noncomputable abbrev v6 (R:RO) (w:World) (b:Bool) (loc:Addr):Env:=Zxn (Zqd R (wb w b)) (e6 R w b) loc []
noncomputable def orc_A60:List Nat:=[1,1]
theorem A60_v (prog:Program) (w:World) (b:Bool) (R:RO) (loc:Addr) (va:Addr) (n t:Nat) (f:Nat→Ext) :
    (Zqh [0] [] (Zvc (hz (wb w b)) Zqg (e6 R w b) (v6 R w b loc) "pile" loc none (.ref va) n t) (fun _ l _=>exN fun _=>Zj2 l 0 0) [] (Zzz (T3 R) prog (wb w b) n t [] [] (Zvc (hz (wb w b)) Zqg (e6 R w b) (v6 R w b loc) "pile" loc none (.ref va) n t) orc_A60 f))∧Zjd (Zzz (T3 R) prog (wb w b) n t [] [] (Zvc (hz (wb w b)) Zqg (e6 R w b) (v6 R w b loc) "pile" loc none (.ref va) n t) orc_A60 f) = 0:=by cases b <;> (constructor <;> kernel_rfl)
noncomputable def orc_A61:List Nat:=[1,1]
theorem A61_v (prog:Program) (w:World) (b:Bool) (R:RO) (loc:Addr) (ou oa:Nat) (va:Addr) (n t:Nat) (f:Nat→Ext) :
    (Zqh [0] [] (Zvc (hz (wb w b)) Zqg (e6 R w b) (v6 R w b loc) "pile" loc (some (ou,.ref oa)) (.ref va) n t) (fun _ l _=>exN fun _=>Zj2 l 0 0) [] (Zzz (T3 R) prog (wb w b) n t [] [] (Zvc (hz (wb w b)) Zqg (e6 R w b) (v6 R w b loc) "pile" loc (some (ou,.ref oa)) (.ref va) n t) orc_A61 f))∧Zjd (Zzz (T3 R) prog (wb w b) n t [] [] (Zvc (hz (wb w b)) Zqg (e6 R w b) (v6 R w b loc) "pile" loc (some (ou,.ref oa)) (.ref va) n t) orc_A61 f) = 0:=by cases b <;> (constructor <;> kernel_rfl)
noncomputable def orc_L6:List Nat:=Zxh 16 13 0x765432171100
theorem L6_v (prog:Program) (w:World) (b:Bool) (R:RO) (loc:Addr) (u:Nat) (L:Lx) (tk:Nat→Nat) (s s':Lt) (e1 e2:Int) (pbl:List (Str × Nat)) (ws:List Str) (d:Array DictEntry) (k:Nat) (sl:Array (Option Value)) (n t:Nat) (f:Nat→Ext) :
    Zqh [0,8,7] [] (cLst (hz (wb w b)) (Zqd R (wb w b)) Zq9 (Zqp (e6 R w b)) (v6 R w b loc) loc u L tk s s' e1 e2 pbl ws d k sl n t) (cLstEx f) [] (Zzz (T3 R) prog (wb w b) n t [] [llFamL (hz (wb w b)) (Zqd R (wb w b)) L tk s s' e1 e2 pbl ws] (cLst (hz (wb w b)) (Zqd R (wb w b)) Zq9 (Zqp (e6 R w b)) (v6 R w b loc) loc u L tk s s' e1 e2 pbl ws d k sl n t) orc_L6 f):=by cases b <;> kernel_rfl
noncomputable def orc_LW60:List Nat:=Zxh 16 19 0x2330130142511020221
theorem LW60_v (prog:Program) (w:World) (b:Bool) (R:RO) (ft:Nat→Nat) (cut:Int) (u:Nat) (la ls lp:Addr) (sl:Array (Option Value)) (sts:List PS) (g:Nat→Nat→Nat) (ep:Nat) (n t:Nat) (f:Nat→Ext) :
    Zqh [0,2] [0] (lw6 (hz (wb w b)) (Zqd R (wb w b)) Zqm ft cut u la ls lp sl sts g ep n t) (lw6Ex f) [] (Zzz (T3 R) prog (wb w b) n t [] [c6Fam (hz (wb w b)) (Zqd R (wb w b)) lp sts none] (lw6 (hz (wb w b)) (Zqd R (wb w b)) Zqm ft cut u la ls lp sl sts g ep n t) orc_LW60 f):=by cases b <;> kernel_rfl
noncomputable def orc_LW61:List Nat:=Zxh 16 21 0x222330130142511020221
theorem LW61_v (prog:Program) (w:World) (b:Bool) (R:RO) (ft:Nat→Nat) (cut:Int) (u:Nat) (la ls lp:Addr) (sl:Array (Option Value)) (sts:List PS) (g:Nat→Nat→Nat) (ep:Nat) (n t:Nat) (f:Nat→Ext) :
    Zqh [0,2] [0] (lw6 (hz (wb w b)) (Zqd R (wb w b)) Zqm ft cut u la ls lp sl sts g ep n t) (lw6Ex f) [] (Zzz (T3 R) prog (wb w b) n t [] [c6Fam (hz (wb w b)) (Zqd R (wb w b)) lp sts (some (0,.none))] (lw6 (hz (wb w b)) (Zqd R (wb w b)) Zqm ft cut u la ls lp sl sts g ep n t) orc_LW61 f):=by cases b <;> kernel_rfl
noncomputable abbrev e5 (R:RO) (w:World) (b:Bool):Expr:=lwE5 (Zqd R (wb w b))
noncomputable abbrev v5 (R:RO) (w:World) (b:Bool) (loc:Addr):Env:=Zxn (Zqd R (wb w b)) (e5 R w b) loc []
noncomputable def orc_A50:List Nat:=[1,1]
theorem A50_v (prog:Program) (w:World) (b:Bool) (R:RO) (loc:Addr) (W:List Nat) (tt:Nat) (n t:Nat) (f:Nat→Ext) :
    (Zqh [0] [] (Zvc (hz (wb w b)) Zqg (e5 R w b) (v5 R w b loc) "text" loc none (.str (S W) tt) n t) (fun _ l _=>exN fun _=>Zj2 l 0 0) [] (Zzz (T3 R) prog (wb w b) n t [] [] (Zvc (hz (wb w b)) Zqg (e5 R w b) (v5 R w b loc) "text" loc none (.str (S W) tt) n t) orc_A50 f))∧Zjd (Zzz (T3 R) prog (wb w b) n t [] [] (Zvc (hz (wb w b)) Zqg (e5 R w b) (v5 R w b loc) "text" loc none (.str (S W) tt) n t) orc_A50 f) = 0:=by cases b <;> (constructor <;> kernel_rfl)
noncomputable def orc_A51:List Nat:=[1,1]
theorem A51_v (prog:Program) (w:World) (b:Bool) (R:RO) (loc:Addr) (u:Nat) (W':List Nat) (t':Nat) (W:List Nat) (tt:Nat) (n t:Nat) (f:Nat→Ext) :
    (Zqh [0] [] (Zvc (hz (wb w b)) Zqg (e5 R w b) (v5 R w b loc) "text" loc (some (u,.str (S W') t')) (.str (S W) tt) n t) (fun _ l _=>exN fun _=>Zj2 l 0 0) [] (Zzz (T3 R) prog (wb w b) n t [] [] (Zvc (hz (wb w b)) Zqg (e5 R w b) (v5 R w b loc) "text" loc (some (u,.str (S W') t')) (.str (S W) tt) n t) orc_A51 f))∧Zjd (Zzz (T3 R) prog (wb w b) n t [] [] (Zvc (hz (wb w b)) Zqg (e5 R w b) (v5 R w b loc) "text" loc (some (u,.str (S W') t')) (.str (S W) tt) n t) orc_A51 f) = 0:=by cases b <;> (constructor <;> kernel_rfl)
noncomputable def orc_P5:List Nat:=[0,1,0,1,0,0]
theorem P5_v (prog:Program) (w:World) (b:Bool) (R:RO) (loc u:Nat) (W:List Nat) (tt n t:Nat) (f:Nat→Ext) :
    Zqh [0,1,2,3,4,5,6] [] (cPil (hz (wb w b)) Zq9 (Zqp (e5 R w b)) (v5 R w b loc) loc u W tt n t) (cPilEx f) [] (Zzz (T3 R) prog (wb w b) n t [] [pileFam (hz (wb w b)) W] (cPil (hz (wb w b)) Zq9 (Zqp (e5 R w b)) (v5 R w b loc) loc u W tt n t) orc_P5 f):=by cases b <;> kernel_rfl
noncomputable def lw5Fams (w:World) (b:Bool) (R:RO) (cut:Int) (c:Nat) (la ls:Addr) (ks:List (Fin 6)) (tk:Nat→Nat) (cs:List (List (Fin 6))) (tl:Nat→Nat) (sts:List PS) (ne:Option (List Nat)):List Fam:=[slFamD la ks tk cut c,redFamN (hz (wb w b)) (ks.drop c) (cs.map lnPS) sts (fun j=>tk (j + c)),c5Fam (hz (wb w b)) (Zqd R (wb w b)) ls cs tl ne]
noncomputable def orc_LW50:List Nat:=Zxh 16 39 0x660113632030016243104044300221303331110
theorem LW50_v (prog:Program) (w:World) (b:Bool) (R:RO) (ft:Nat→Nat) (cut:Int) (c:Nat) (u:Nat) (la ls:Addr) (sl:Array (Option Value)) (ks:List (Fin 6)) (tk:Nat→Nat) (ep:Nat) (cs:List (List (Fin 6))) (tl:Nat→Nat) (el tb:Nat) (sts:List PS) (n t:Nat) (f:Nat→Ext) :
    Zqh [0,5,4,1] [0] (lw5 (hz (wb w b)) (Zqd R (wb w b)) Zqm ft cut u la ls sl ks tk ep cs tl el tb sts (n + 918) t) (lw5Ex 2 f) [] (Zzz (T3 R) prog (wb w b) (n + 918) t [] (lw5Fams w b R cut c la ls ks tk cs tl sts none) (lw5 (hz (wb w b)) (Zqd R (wb w b)) Zqm ft cut u la ls sl ks tk ep cs tl el tb sts (n + 918) t) orc_LW50 f):=by cases b <;> kernel_rfl
noncomputable def orc_LW51:List Nat:=Zxh 16 41 0x66011363203330016243104044300221303331110
theorem LW51_v (prog:Program) (w:World) (b:Bool) (R:RO) (ft:Nat→Nat) (cut:Int) (c:Nat) (u:Nat) (la ls:Addr) (sl:Array (Option Value)) (ks:List (Fin 6)) (tk:Nat→Nat) (ep:Nat) (cs:List (List (Fin 6))) (tl:Nat→Nat) (el tb:Nat) (sts:List PS) (W:List Nat) (n t:Nat) (f:Nat→Ext) :
    Zqh [0,5,4,1] [0] (lw5 (hz (wb w b)) (Zqd R (wb w b)) Zqm ft cut u la ls sl ks tk ep cs tl el tb sts (n + 918) t) (lw5Ex 2 f) [] (Zzz (T3 R) prog (wb w b) (n + 918) t [] (lw5Fams w b R cut c la ls ks tk cs tl sts (some W)) (lw5 (hz (wb w b)) (Zqd R (wb w b)) Zqm ft cut u la ls sl ks tk ep cs tl el tb sts (n + 918) t) orc_LW51 f):=by cases b <;> kernel_rfl
noncomputable def orc_A40:List Nat:=[1,1]
theorem A40_v (prog:Program) (w:World) (b:Bool) (R:RO) (loc:Addr) (va:Addr) (n t:Nat) (f:Nat→Ext) :
    (Zqh [0] [] (Zvc (hz (wb w b)) Zqg (Zj8 (Zqd R (wb w b))) (Zxn (Zqd R (wb w b)) (Zj8 (Zqd R (wb w b))) loc []) "pile" loc none (.ref va) n t) (fun _ l _=>exN fun _=>Zj2 l 0 0) [] (Zzz (T3 R) prog (wb w b) n t [] [] (Zvc (hz (wb w b)) Zqg (Zj8 (Zqd R (wb w b))) (Zxn (Zqd R (wb w b)) (Zj8 (Zqd R (wb w b))) loc []) "pile" loc none (.ref va) n t) orc_A40 f))∧Zjd (Zzz (T3 R) prog (wb w b) n t [] [] (Zvc (hz (wb w b)) Zqg (Zj8 (Zqd R (wb w b))) (Zxn (Zqd R (wb w b)) (Zj8 (Zqd R (wb w b))) loc []) "pile" loc none (.ref va) n t) orc_A40 f) = 0:=by cases b <;> (constructor <;> kernel_rfl)
noncomputable def orc_A41:List Nat:=[1,1]
theorem A41_v (prog:Program) (w:World) (b:Bool) (R:RO) (loc:Addr) (ou oa:Nat) (va:Addr) (n t:Nat) (f:Nat→Ext) :
    (Zqh [0] [] (Zvc (hz (wb w b)) Zqg (Zj8 (Zqd R (wb w b))) (Zxn (Zqd R (wb w b)) (Zj8 (Zqd R (wb w b))) loc []) "pile" loc (some (ou,.ref oa)) (.ref va) n t) (fun _ l _=>exN fun _=>Zj2 l 0 0) [] (Zzz (T3 R) prog (wb w b) n t [] [] (Zvc (hz (wb w b)) Zqg (Zj8 (Zqd R (wb w b))) (Zxn (Zqd R (wb w b)) (Zj8 (Zqd R (wb w b))) loc []) "pile" loc (some (ou,.ref oa)) (.ref va) n t) orc_A41 f))∧Zjd (Zzz (T3 R) prog (wb w b) n t [] [] (Zvc (hz (wb w b)) Zqg (Zj8 (Zqd R (wb w b))) (Zxn (Zqd R (wb w b)) (Zj8 (Zqd R (wb w b))) loc []) "pile" loc (some (ou,.ref oa)) (.ref va) n t) orc_A41 f) = 0:=by cases b <;> (constructor <;> kernel_rfl)
noncomputable def orc_L4:List Nat:=Zxh 16 13 0x765432171100
theorem L4_v (prog:Program) (w:World) (b:Bool) (R:RO) (loc:Addr) (u:Nat) (L:Lx) (tk:Nat→Nat) (s s':Lt) (e1 e2:Int) (pbl:List (Str × Nat)) (ws:List Str) (d:Array DictEntry) (k:Nat) (sl:Array (Option Value)) (n t:Nat) (f:Nat→Ext) :
    Zqh [0,8,7] [] (cLst (hz (wb w b)) (Zqd R (wb w b)) Zq9 (Zkh (Zqp (Zj8 (Zqd R (wb w b)))) 0) (Zxn (Zqd R (wb w b)) (Zj8 (Zqd R (wb w b))) loc []) loc u L tk s s' e1 e2 pbl ws d k sl n t) (cLstEx f) [] (Zzz (T3 R) prog (wb w b) n t [] [llFamL (hz (wb w b)) (Zqd R (wb w b)) L tk s s' e1 e2 pbl ws] (cLst (hz (wb w b)) (Zqd R (wb w b)) Zq9 (Zkh (Zqp (Zj8 (Zqd R (wb w b)))) 0) (Zxn (Zqd R (wb w b)) (Zj8 (Zqd R (wb w b))) loc []) loc u L tk s s' e1 e2 pbl ws d k sl n t) orc_L4 f):=by cases b <;> kernel_rfl
noncomputable def lw4Fams (w:World) (b:Bool) (R:RO) (cut:Int) (c:Nat) (la:Addr) (ks:List (Fin 6)) (tk:Nat→Nat) (sts:List PS) (ne:Option (Nat × Value)):List Fam:=[slFamT la ks tk cut c,redFamN (hz (wb w b)) (ks.take c) [] sts tk,c4Fam (hz (wb w b)) (Zqd R (wb w b)) sts ne]
noncomputable def orc_LW40:List Nat:=Zxh 16 41 0x24401640132631010110101432000221303331110
theorem LW40_v (prog:Program) (w:World) (b:Bool) (R:RO) (ft:Nat→Nat) (cut:Int) (c:Nat) (u:Nat) (la:Addr) (sl:Array (Option Value)) (ks:List (Fin 6)) (tk:Nat→Nat) (ep tb:Nat) (sts:List PS) (g0:Nat→Nat→Nat) (n t:Nat) (f:Nat→Ext) :
    Zqh [0,3,4,2] [] (lw4 (hz (wb w b)) (Zqd R (wb w b)) Zqm ft cut u la sl ks tk ep tb sts g0 (n + 918) t) (lw4Ex 2 f) [] (Zzz (T3 R) prog (wb w b) (n + 918) t [] (lw4Fams w b R cut c la ks tk sts none) (lw4 (hz (wb w b)) (Zqd R (wb w b)) Zqm ft cut u la sl ks tk ep tb sts g0 (n + 918) t) orc_LW40 f):=by cases b <;> kernel_rfl
noncomputable def orc_LW41:List Nat:=Zxh 16 43 0x2224401640132631010110101432000221303331110
theorem LW41_v (prog:Program) (w:World) (b:Bool) (R:RO) (ft:Nat→Nat) (cut:Int) (c:Nat) (u:Nat) (la:Addr) (sl:Array (Option Value)) (ks:List (Fin 6)) (tk:Nat→Nat) (ep tb:Nat) (sts:List PS) (g0:Nat→Nat→Nat) (n t:Nat) (f:Nat→Ext) :
    Zqh [0,3,4,2] [] (lw4 (hz (wb w b)) (Zqd R (wb w b)) Zqm ft cut u la sl ks tk ep tb sts g0 (n + 918) t) (lw4Ex 2 f) [] (Zzz (T3 R) prog (wb w b) (n + 918) t [] (lw4Fams w b R cut c la ks tk sts (some (0,.none))) (lw4 (hz (wb w b)) (Zqd R (wb w b)) Zqm ft cut u la sl ks tk ep tb sts g0 (n + 918) t) orc_LW41 f):=by cases b <;> kernel_rfl
theorem S_append (a b:List Nat):S a++S b = S (a++b):=by
  show Str.mk (_++_) = Str.mk _
  exact congrArg Str.mk (show (a.toArray++b.toArray) = (a++b).toArray by simp)
theorem txt_lineQ:∀ ks:List (Fin 6),Str.join " " (ks.map fun k=>S (Zvw k)) = S (Zzh ks)
  | []=>rfl
  | [k]=>rfl
  | k::k'::r=>by
    have ih:=txt_lineQ (k'::r)
    show S (Zvw k)++S [32]++Str.join " " ((k'::r).map fun k=>S (Zvw k)) = S (Zvw k++32::Zzh (k'::r))
    rw [ih,S_append,S_append]
    simp
theorem txt_line (ks:List (Fin 6)):Txt.join " " (ks.map fun k=>S (Zvw k)) = S (Zzh ks):=by
  show PySem.Builtin.Str.glued " " _ = _
  rw [StrLaws.glued_eq_join,txt_lineQ]
theorem qd_le:∀ k:Fin 6,(Zvw k).length≤10:=by decide
theorem wsum_le:∀ ks:List (Fin 6),((ks.map fun k=>S (Zvw k)).map (·.length)).sum≤10 * ks.length
  | []=>Nat.le_refl _
  | k::r=>by
    have:=wsum_le r
    have h1:(S (Zvw k)).length≤10:=by
      show (Zvw k).toArray.size≤10
      exact qd_le k
    simp only [List.map_cons,List.sum_cons,List.length_cons]
    lia
theorem joinOk_line (ks:List (Fin 6)) (h:ks.length≤1000):JoinOk " " (ks.map fun k=>S (Zvw k)) = true:=by
  refine PyProof.Rows.joinOk_of_weight ?_ (by decide)
  have:=wsum_le ks
  rw [List.length_map]
  lia
theorem lineQ_le:∀ ks:List (Fin 6),(Zzh ks).length≤11 * ks.length
  | []=>Nat.le_refl _
  | [k]=>by have:=qd_le k; show (Zvw k).length≤11; lia
  | k::k'::r=>by
    have ih:=lineQ_le (k'::r)
    have:=qd_le k
    show (Zvw k++32::Zzh (k'::r)).length≤_
    simp only [List.length_append,List.length_cons] at ih ⊢
    lia
theorem lineWs_fst:∀ (p:Nat) (ks:List (Fin 6)),(lineWs p ks).map (·.1) = ks
  | _,[]=>rfl
  | _,[_]=>rfl
  | p,k::k'::r=>congrArg (k::·) (lineWs_fst _ (k'::r))
section
variable {prog:Program} {w:World} {b:Bool}
theorem quotedE {L:Lx} (u:List Nat) {p p':Nat} {st:Option Str} {rest:List Nat} (hl:L.buf.length < 2 ^ 63) (hc:L.cm = "#" ∨ L.cm = S []) (hb:L.buf.drop p = 39::(esc u++39::rest)) (he:Ends L (p + 1 + (esc u).length + 1) p' st) (hn:lines u 1 = 1) (hu:u.length≤sizeLine):RtOk prog w b L ⟨p,some (S [32]),1⟩ ⟨p',st,1⟩ (some (S u)):=by
  have c1:Zjx L.cm (S [39]) = false:=by rcases hc with hc | hc <;> (rw [hc]; kernel_rfl)
  have c2:Zjx L.cm (S [34]) = false:=by rcases hc with hc | hc <;> (rw [hc]; kernel_rfl)
  have z:=rt_quoted (prog:=prog) (w:=w) (b:=b) (ln:=1) hl c1 c2 u (rest:=rest) hb he hu
  rw [hn] at z
  exact z
theorem word_rt:∀ (k:Fin 6) (L:Lx) (p p':Nat) (st:Option Str) (rest:List Nat),L.buf.length < 2 ^ 63→(L.cm = "#" ∨ L.cm = S [])→L.buf.drop p = Zvw k++rest→Ends L (p + (Zvw k).length) p' st→RtOk prog w b L ⟨p,some (S [32]),1⟩ ⟨p',st,1⟩ (some (S (Zzc k)))
  | 0=>fun L p p' st rest hl hc hb he=>by
    have hs:∀ d ∈ [97],Safe L.cm d:=fun d hd=>by
      simp only [List.mem_cons,List.not_mem_nil,or_false] at hd
      subst hd
      exact ⟨by decide,by kernel_rfl,by rcases hc with hc | hc <;> (rw [hc]; kernel_rfl),by kernel_rfl,by decide⟩
    exact rt_safe (prog:=prog) (w:=w) (b:=b) hl 97 [] hs hb he (show 1≤sizeLine by decide +kernel)
  | 1=>fun L p p' st rest hl hc hb he=>quotedE (Zzc 1) hl hc hb he rfl (show 4≤sizeLine by decide +kernel)
  | 2=>fun L p p' st rest hl hc hb he=>quotedE (Zzc 2) hl hc hb he rfl (show 0≤sizeLine by decide +kernel)
  | 3=>fun L p p' st rest hl hc hb he=>quotedE (Zzc 3) hl hc hb he rfl (show 3≤sizeLine by decide +kernel)
  | 4=>fun L p p' st rest hl hc hb he=>quotedE (Zzc 4) hl hc hb he rfl (show 1≤sizeLine by decide +kernel)
  | 5=>fun L p p' st rest hl hc hb he=>quotedE (Zzc 5) hl hc hb he rfl (show 1≤sizeLine by decide +kernel)
theorem drop_append' {α:Type} {l a b:List α} {p:Nat} (h:l.drop p = a++b):l.drop (p + a.length) = b:=by
  rw [← List.drop_drop,h,List.drop_left]
theorem line_reads {L:Lx} (hl:L.buf.length < 2 ^ 63) (hc:L.cm = "#" ∨ L.cm = S []):∀ (ks:List (Fin 6)) (p:Nat),L.buf.drop p = Zzh ks→p≤L.buf.length→ReadsL prog w b L ⟨L.buf.length,none,1⟩ ⟨p,some (S [32]),1⟩ (lineWs p ks)
  | [],p,hb,hp=>by
    have e:p = L.buf.length:=by
      have:=List.drop_eq_nil_iff.mp hb
      lia
    show RtOk prog w b L ⟨p,some (S [32]),1⟩ ⟨L.buf.length,none,1⟩ none
    rw [← e]
    exact rt_end hl hb
  | [k],p,hb,hp=>by
    have hb':L.buf.drop p = Zvw k++[]:=by rw [hb,List.append_nil]; rfl
    have h0:=drop_append' hb'
    have hlen:p + (Zvw k).length = L.buf.length:=by
      have:=congrArg List.length hb
      rw [List.length_drop] at this
      have e:(Zzh [k]).length = (Zvw k).length:=rfl
      lia
    refine ⟨⟨_,_,_,rfl⟩,word_rt k L p _ _ [] hl hc hb' (.eof h0),?_⟩
    show RtOk prog w b L ⟨p + (Zvw k).length,none,1⟩ ⟨L.buf.length,none,1⟩ none
    rw [← hlen]
    exact rt_past hl h0
  | k::k'::r,p,hb,hp=>by
    have hb':L.buf.drop p = Zvw k++32::Zzh (k'::r):=hb
    have h0:=drop_append' hb'
    have h1:L.buf.drop (p + (Zvw k).length + 1) = Zzh (k'::r):=by
      rw [← List.drop_drop,h0]; rfl
    refine ⟨⟨_,_,_,rfl⟩,word_rt k L p _ _ _ hl hc hb' (.blank h0),line_reads hl hc (k'::r) _ h1 ?_⟩
    have:=congrArg List.length h0
    rw [List.length_drop,List.length_cons] at this
    lia
end
noncomputable def orc_LWp:List Nat:=[0,5,5]
theorem LWp_v (prog:Program) (w:World) (b:Bool) (t:Nat) (f:Nat→Ext) :
    (Zqh [4,3,2,1,0] [] (lwPrep (hz (wb w b)) (Zqf (wb w b)) Zjw) (fun _ l _=>exN fun k=>Zj2 l 0 k) [] (Zzz T2 prog (wb w b) 806 t [] [] (lwPrep (hz (wb w b)) (Zqf (wb w b)) Zjw) orc_LWp f))∧Zjd (Zzz T2 prog (wb w b) 806 t [] [] (lwPrep (hz (wb w b)) (Zqf (wb w b)) Zjw) orc_LWp f) = 5:=by cases b <;> (constructor <;> kernel_rfl)
noncomputable def orc_LW0:List Nat:=Zxh 16 57 0x99bbaa111211010111211010111211010111211010110101110311010
theorem LW0_v (prog:Program) (w:World) (b:Bool) (ft:Nat→Nat) (xs:List Value) (ep:Nat) (ys:List Int) (T:Int) (t:Nat) (f:Nat→Ext) :
    (Zqh [4,5,8,9,10,7] [] (lw0 (hz (wb w b)) (Zqf (wb w b)) Zqm ft xs ep ys T) (lw0Ex f) [] (Zzz T2 prog (wb w b) 811 t [] [drFam (hz (wb w b)) xs ep ys T] (lw0 (hz (wb w b)) (Zqf (wb w b)) Zqm ft xs ep ys T) orc_LW0 f))∧Zjd (Zzz T2 prog (wb w b) 811 t [] [drFam (hz (wb w b)) xs ep ys T] (lw0 (hz (wb w b)) (Zqf (wb w b)) Zqm ft xs ep ys T) orc_LW0 f) = 25:=by cases b <;> (constructor <;> kernel_rfl)
noncomputable def orc_LW1:List Nat:=Zxh 32 16 0xad408084000012948c00
theorem LW1_v (prog:Program) (w:World) (b:Bool) (ft:Nat→Nat) (cut:Int) (u:Nat) (t:Nat) (f:Nat→Ext) :
    (Zqh [12,11,0,1,2,3,4,5,6,7,8,9,10,19,20,21] [] (lw1 (hz (wb w b)) (Zqf (wb w b)) Zqm ft cut u) (lw1Ex f) [] (Zzz T2 prog (wb w b) 836 t [] [ckFam (hz (wb w b)) (Zqf (wb w b))] (lw1 (hz (wb w b)) (Zqf (wb w b)) Zqm ft cut u) orc_LW1 f))∧Zjd (Zzz T2 prog (wb w b) 836 t [] [ckFam (hz (wb w b)) (Zqf (wb w b))] (lw1 (hz (wb w b)) (Zqf (wb w b)) Zqm ft cut u) orc_LW1 f) = 72:=by cases b <;> (constructor <;> kernel_rfl)
noncomputable def orc_LW2:List Nat:=Zxh 16 21 0xccaaa000aaa4011000020
theorem LW2_v (prog:Program) (w:World) (b:Bool) (ft:Nat→Nat) (cut:Int) (u:Nat) (t:Nat) (f:Nat→Ext) :
    (Zqh [8,1,0,10,11] [] (lw2 (hz (wb w b)) (Zqf (wb w b)) Zqm ft cut u) (lw2Ex f) [] (Zzz T2 prog (wb w b) 908 t [] [] (lw2 (hz (wb w b)) (Zqf (wb w b)) Zqm ft cut u) orc_LW2 f))∧Zjd (Zzz T2 prog (wb w b) 908 t [] [] (lw2 (hz (wb w b)) (Zqf (wb w b)) Zqm ft cut u) orc_LW2 f) = 10:=by cases b <;> (constructor <;> kernel_rfl)
noncomputable def orc_LW3:List Nat:=Zxh 16 16 0x2202120023210200
noncomputable def lw3Fams (w:World) (b:Bool) (R:RO) (ft:Nat→Nat) (cut:Int) (u:Nat) (sl:Array (Option Value)) (ks:List (Fin 6)) (tk:Nat→Nat) (q:List Nat) (s':Lt) (tb:Option Addr):List Fam:=[jnFam (wdV ks tk) q tb,spFamL (hz (wb w b)) (Zqf (wb w b)) q s' (ks.map fun k=>S (Zzc k)) ⟨lwEs (hz (wb w b)) lwNames ft (Zkd cut u)⟩ 4 sl]
theorem LW3_v (prog:Program) (w:World) (b:Bool) (R:RO) (ft:Nat→Nat) (cut:Int) (u:Nat) (sl:Array (Option Value)) (ks:List (Fin 6)) (tk:Nat→Nat) (ep:Nat) (q:List Nat) (s':Lt) (tb:Option Addr) (n t:Nat) (f:Nat→Ext) :
    Zqh [0,1,4,3,2] [] (lw3 (hz (wb w b)) (Zqd R (wb w b)) Zqm ft cut u sl ks tk ep tb n t) (lw3Ex f) [] (Zzz (T3 R) prog (wb w b) n t [] (lw3Fams w b R ft cut u sl ks tk q s' tb) (lw3 (hz (wb w b)) (Zqd R (wb w b)) Zqm ft cut u sl ks tk ep tb n t) orc_LW3 f):=by cases b <;> kernel_rfl
noncomputable def orc_DR:List Nat:=Zxh 16 422 0x160e00000ee33308d019264107077c011110101033330003030334040444a9a0000000050a000aaa11111110101033330003030334040444a9a0000000050a000aaa11111110101033330003030334040444a9a0000000050a000aaa11111110101033330003030334040444a9a0000000050a000aaa11111110101033330003030334040444a9a0000000050a000aaa11111110101033330003030334040444a9a0000000050a000aaa11111110101011110101110101100000088666600136006600222303130042150555322000
noncomputable def drFams (w:World) (b:Bool) (lst:Nat) (xs:List Value) (ep:Nat) (ys:List Int) (tk:Nat→Nat) (T z:Int):List Fam:=[slFam lst xs ep (Zz2 ys tk),laFam (Zz2 ys tk),suFam ys tk T,c1sFam (hz (wb w b)) (Zqf (wb w b)) ys tk z,pwFam,lenFam ys tk]
theorem DR_v (prog:Program) (w:World) (b:Bool) (lst:Nat) (xs:List Value) (ep:Nat) (ys:List Int) (tk:Nat→Nat) (T z:Int) (n t:Nat) (f:Nat→Ext) :
    (Zvk [0,2,10,5,13] [] (drCon (hz (wb w b)) lst xs ep ys T n t) drEx [] (Zzs T2 prog (wb w b) n t [] (drFams w b lst xs ep ys tk T z) (drCon (hz (wb w b)) lst xs ep ys T n t) orc_DR f))∧madeO (Zzs T2 prog (wb w b) n t [] (drFams w b lst xs ep ys tk T z) (drCon (hz (wb w b)) lst xs ep ys T n t) orc_DR f) = 22:=by cases b <;> (constructor <;> kernel_rfl)
section
variable {prog:Program} {w:World} {b:Bool}
theorem dr_ok {ys:List Int} (hys:ys.length≤12) {xs:List Value} {tk:Nat→Nat} (htake:xs.take 12 = Zz2 ys tk) (hxs:xs.length≤sizeLine) (lst ep n t:Nat):Zq1 T2 prog (wb w b) n t (drCon (hz (wb w b)) lst xs ep ys (sumI (Zxz ys)) n t):=by
  have hsz:40≤sizeLine:=by decide +kernel
  obtain ⟨z,hz'⟩:=lastX_some ([0,5,2,1,3,4,0]++ys) 3
  have hlz:lastX (Zxz ys) none = some z:=hz'
  have hdl:(Zxz ys).length = ys.length + 8:=rfl
  have h1:∀ n t c l bb,Zq1 T2 prog (wb w b) n t (slFam lst xs ep (Zz2 ys tk) n t c l bb):=fun n t c l bb=>by
    have z:=sl_ok (T:=T2) (prog:=prog) (w:=wb w b) (lst:=lst) (sl:=Zx0 (Zx7 c 1)) (xs:=xs) (ep:=ep) (lo:=none) (hi:=some 12) (vl:=.none) (vu:=.int 12 (match Zzf l 1 with | ⟨_,_,.fields f,_⟩=>Zvt (nthV f.toList 1) | _=>0)) .none (.int _ _) hxs n t
    have e:(slicePick ⟨xs⟩ none (some 12) none).toList = Zz2 ys tk:=(slicePick_take xs 12).trans htake
    unfold slCon at z
    rw [e] at z
    exact z
  have h2:∀ n t c l bb,Zq1 T2 prog (wb w b) n t (laFam (Zz2 ys tk) n t c l bb):=fun n t c l bb=>ladd_ok (by
    rw [Zzb]
    show (row8 _).length + ys.length≤sizeLine
    rw [row8,Zzb]
    show 8 + ys.length≤sizeLine
    lia)
  have h3:∀ n t c l bb,Zq1 T2 prog (wb w b) n t (suFam ys tk (sumI (Zxz ys)) n t c l bb):=fun n t c l bb=>su_ok _ _ _ _ _ _
  have h4:∀ n t c l bb,Zq1 T2 prog (wb w b) n t (c1sFam (hz (wb w b)) (Zqf (wb w b)) ys tk z n t c l bb):=fun n t c l bb=>by
    unfold c1sFam
    split
    · exact c1s_ok (by rw [hdl]; lia) hlz n t
    · exact c1s_ok (by rw [hdl]; lia) hlz n t
  have h5:∀ n t c l bb,Zq1 T2 prog (wb w b) n t (pwFam n t c l bb):=fun n t c l bb=>pw_ok (Nat.mod_lt _ (by decide)) _ _ n t
  have h6:∀ n t c l bb,Zq1 T2 prog (wb w b) n t (lenFam ys tk n t c l bb):=fun n t c l bb=>len_ok (Zzb _ _) (by rw [Zzb,hdl]; lia) n t
  have hC:Zx1 T2 prog (wb w b) (drFams w b lst xs ep ys tk (sumI (Zxz ys)) z):=by
    unfold drFams
    exact Zqx h1 (Zqx h2 (Zqx h3 (Zqx h4 (Zqx h5 (Zqx h6 Zqq)))))
  exact conOk_runN (ex:=fun _=>drEx) (P:=fun _=>[]) (orc:=orc_DR) (sts:=[]) hC rfl rfl 22 (fun _=>rfl) (DR_v prog w b lst xs ep ys tk (sumI (Zxz ys)) z n t) fun f q hq=>nomatch hq
end
noncomputable abbrev Zvf:Value→Str→Sem (Option Value):=W.ZFast.zw18250491105767826471
theorem getAttrQZ_eq:Zvf = @getAttr?:=W.ZFast.ze18250491105767826471.symm
noncomputable abbrev Zk1:Env→Pos→Nat→Str→Str→Scope→Sem Value:=W.ZFast.zw17169027264674235893
theorem classCodeZ_eq:Zk1 = @classCode:=W.ZFast.ze17169027264674235893.symm
noncomputable abbrev Zj0:Addr→Addr→Sem Addr:=W.ZFast.zw6600643334278800223
theorem builtinsForZ_eq:Zj0 = @builtinsFor:=W.ZFast.ze6600643334278800223.symm
noncomputable abbrev Zjj:Value→Addr→Addr→Addr→Sem Addr:=@W.ZFast.zw12822647523644345616
theorem newBodyFrameZ_eq:Zjj = @newBodyFrame:=W.ZFast.ze12822647523644345616.symm
noncomputable abbrev Zkx:Scope→Env→Sem (List (Str × Addr)):=W.ZFast.zw14069538253670106520
theorem closureForZ_eq:Zkx = @closureFor:=W.ZFast.ze14069538253670106520.symm
noncomputable abbrev Zkr:Env→Str→Value→Sem Unit:=W.ZFast.zw7998390705656384164
theorem storeNameZ_eq:Zkr = @storeName:=W.ZFast.ze7998390705656384164.symm
noncomputable abbrev Zvp:Env→Str→Sem Value:=W.ZFast.zw8468629109055619292
theorem loadNameZ_eq:Zvp = @loadName:=W.ZFast.ze8468629109055619292.symm
noncomputable abbrev mkTextZ:Str→Sem Value:=W.ZFast.zw15347910952255720131
theorem mkTextZ_eq:mkTextZ = @mkText:=W.ZFast.ze15347910952255720131.symm
noncomputable abbrev mkIntZ:Int→Sem Value:=W.ZFast.zw16909128769118124060
theorem mkIntZ_eq:mkIntZ = @mkInt:=W.ZFast.ze16909128769118124060.symm
noncomputable abbrev Zjv:List Value→Sem Value:=W.ZFast.zw15250890844309007415
theorem newTextTupleZ_eq:Zjv = @newTextTuple:=W.ZFast.ze15250890844309007415.symm
noncomputable abbrev Zx2:Env→Value→Sem Unit:=W.ZFast.zw1028981655991621990
theorem leavingAroundZ_eq:Zx2 = @leavingAround:=W.ZFast.ze1028981655991621990.symm
noncomputable abbrev Zvn:Env→Str→Value→Sem Unit:=W.ZFast.zw7536695828754713326
theorem bindNameZ_eq:Zvn = @bindName:=W.ZFast.ze7536695828754713326.symm
noncomputable abbrev Zkt:Value→Str→Sem (Option Value):=W.ZFast.zw4214721358667687652
theorem specialOfZ_eq:Zkt = @specialOf:=W.ZFast.ze4214721358667687652.symm
noncomputable def orc_CKp:List Nat:=[0,1,1]
theorem CKp_v (prog:Program) (w:World) (b:Bool) (t:Nat) (f:Nat→Ext) :
    (Zqh [1,0] [] (ckPrep (Zqf (wb w b)) Zjw 844 t) (fun _ _ _=>exN fun _=>0) [] (Zzz T2 prog (wb w b) 844 t [] [] (ckPrep (Zqf (wb w b)) Zjw 844 t) orc_CKp f))∧Zjd (Zzz T2 prog (wb w b) 844 t [] [] (ckPrep (Zqf (wb w b)) Zjw 844 t) orc_CKp f) = 2:=by cases b <;> (constructor <;> kernel_rfl)
theorem CKp_ok {prog:Program} {w:World} {b:Bool} (t:Nat):Zqn T2 prog (wb w b) 844 t (ckPrep (Zqf (wb w b)) Zjw 844 t) :=
  Zqs (ex:=fun _=>fun _ _ _=>exN fun _=>0) Zqq rfl rfl 2 (fun _=>rfl) (CKp_v prog w b  t) fun f q hq=>nomatch hq
noncomputable def orc_CKga:List Nat:=[0,0,0,0]
theorem CKga_v (prog:Program) (w:World) (b:Bool) (t:Nat) (f:Nat→Ext) :
    (Zqh [0] [] (ckGA Zvf) (fun _ _ _=>exN fun _=>0) [] (Zzz T2 prog (wb w b) 847 t [] [] (ckGA Zvf) orc_CKga f))∧Zjd (Zzz T2 prog (wb w b) 847 t [] [] (ckGA Zvf) orc_CKga f) = 1:=by cases b <;> (constructor <;> kernel_rfl)
theorem CKga_ok {prog:Program} {w:World} {b:Bool} (t:Nat):Zqn T2 prog (wb w b) 847 t (ckGA Zvf) :=
  Zqs (ex:=fun _=>fun _ _ _=>exN fun _=>0) Zqq rfl rfl 1 (fun _=>rfl) (CKga_v prog w b  t) fun f q hq=>nomatch hq
noncomputable def orc_CKcp:List Nat:=[0,1,1,0]
theorem CKcp_v (prog:Program) (w:World) (b:Bool) (nm:Str) (u:Nat) (t:Nat) (f:Nat→Ext) :
    (Zqh [0,2] [] (ckCP nm u) (fun _ _ _=>exN fun _=>0) [] (Zzz T2 prog (wb w b) 848 t [] [] (ckCP nm u) orc_CKcp f))∧Zjd (Zzz T2 prog (wb w b) 848 t [] [] (ckCP nm u) orc_CKcp f) = 1:=by cases b <;> (constructor <;> kernel_rfl)
theorem CKcp_ok {prog:Program} {w:World} {b:Bool} (nm:Str) (u:Nat) (t:Nat):Zqn T2 prog (wb w b) 848 t (ckCP nm u) :=
  Zqs (ex:=fun _=>fun _ _ _=>exN fun _=>0) Zqq rfl rfl 1 (fun _=>rfl) (CKcp_v prog w b nm u t) fun f q hq=>nomatch hq
noncomputable def orc_CKsp:List Nat:=[1]
theorem CKsp_v (prog:Program) (w:World) (b:Bool) (t:Nat) (f:Nat→Ext) :
    (Zqh [0] [] (ckSp Zkt) (fun _ _ _=>exN fun _=>0) [] (Zzz T2 prog (wb w b) 849 t [] [] (ckSp Zkt) orc_CKsp f))∧Zjd (Zzz T2 prog (wb w b) 849 t [] [] (ckSp Zkt) orc_CKsp f) = 0:=by cases b <;> (constructor <;> kernel_rfl)
theorem CKsp_ok {prog:Program} {w:World} {b:Bool} (t:Nat):Zqn T2 prog (wb w b) 849 t (ckSp Zkt) :=
  Zqs (ex:=fun _=>fun _ _ _=>exN fun _=>0) Zqq rfl rfl 0 (fun _=>rfl) (CKsp_v prog w b  t) fun f q hq=>nomatch hq
noncomputable def orc_CKcc:List Nat:=[0,1,4,4,4]
theorem CKcc_v (prog:Program) (w:World) (b:Bool) (t:Nat) (f:Nat→Ext) :
    (Zqh [1,0,3] [] (ckCC (Zqf (wb w b)) Zk1) (ckCCEx) [] (Zzz T2 prog (wb w b) 849 t [] [] (ckCC (Zqf (wb w b)) Zk1) orc_CKcc f))∧Zjd (Zzz T2 prog (wb w b) 849 t [] [] (ckCC (Zqf (wb w b)) Zk1) orc_CKcc f) = 3:=by cases b <;> (constructor <;> kernel_rfl)
theorem CKcc_ok {prog:Program} {w:World} {b:Bool} (t:Nat):Zqn T2 prog (wb w b) 849 t (ckCC (Zqf (wb w b)) Zk1) :=
  Zqs (ex:=fun _=>ckCCEx) Zqq rfl rfl 3 (fun _=>rfl) (CKcc_v prog w b  t) fun f q hq=>nomatch hq
noncomputable def orc_CKbf:List Nat:=[0,0]
theorem CKbf_v (prog:Program) (w:World) (b:Bool) (t:Nat) (f:Nat→Ext) :
    (Zqh [] [] (ckBF Zj0) (fun _ _ _=>exN fun _=>0) [] (Zzz T2 prog (wb w b) 852 t [] [] (ckBF Zj0) orc_CKbf f))∧Zjd (Zzz T2 prog (wb w b) 852 t [] [] (ckBF Zj0) orc_CKbf f) = 0:=by cases b <;> (constructor <;> kernel_rfl)
theorem CKbf_ok {prog:Program} {w:World} {b:Bool} (t:Nat):Zqn T2 prog (wb w b) 852 t (ckBF Zj0) :=
  Zqs (ex:=fun _=>fun _ _ _=>exN fun _=>0) Zqq rfl rfl 0 (fun _=>rfl) (CKbf_v prog w b  t) fun f q hq=>nomatch hq
noncomputable def orc_CKnf:List Nat:=[0]
theorem CKnf_v (prog:Program) (w:World) (b:Bool) (t:Nat) (f:Nat→Ext) :
    (Zqh [0] [] (ckNF Zjj) (fun _ l _=>exN fun _=>slTok (Zzf l 0) 4) [] (Zzz T2 prog (wb w b) 852 t [] [] (ckNF Zjj) orc_CKnf f))∧Zjd (Zzz T2 prog (wb w b) 852 t [] [] (ckNF Zjj) orc_CKnf f) = 1:=by cases b <;> (constructor <;> kernel_rfl)
theorem CKnf_ok {prog:Program} {w:World} {b:Bool} (t:Nat):Zqn T2 prog (wb w b) 852 t (ckNF Zjj) :=
  Zqs (ex:=fun _=>fun _ l _=>exN fun _=>slTok (Zzf l 0) 4) Zqq rfl rfl 1 (fun _=>rfl) (CKnf_v prog w b  t) fun f q hq=>nomatch hq
noncomputable def orc_CKcl:List Nat:=[]
theorem CKcl_v (prog:Program) (w:World) (b:Bool) (t:Nat) (f:Nat→Ext) :
    (Zqh [] [] (ckCl (Zqf (wb w b)) Zkx) (fun _ _ _=>exN fun _=>0) [] (Zzz T2 prog (wb w b) 853 t [] [] (ckCl (Zqf (wb w b)) Zkx) orc_CKcl f))∧Zjd (Zzz T2 prog (wb w b) 853 t [] [] (ckCl (Zqf (wb w b)) Zkx) orc_CKcl f) = 0:=by cases b <;> (constructor <;> kernel_rfl)
theorem CKcl_ok {prog:Program} {w:World} {b:Bool} (t:Nat):Zqn T2 prog (wb w b) 853 t (ckCl (Zqf (wb w b)) Zkx) :=
  Zqs (ex:=fun _=>fun _ _ _=>exN fun _=>0) Zqq rfl rfl 0 (fun _=>rfl) (CKcl_v prog w b  t) fun f q hq=>nomatch hq
noncomputable def orc_CKre:List Nat:=Zxh 64 201 0x1001040041041010400c30000c00410400010010410410410c30c00400410000800011463967a6bb50c30c30c30c20820830c3082041041041042082082082041041041041041072c80031d34cf4cc0000034d34cf3cf3cf3000033cf3b6eaebac0000aebae59a38e30000238e375e6db6c00006db6d55934d30000134d334e2cb2c00002cb2c51841040c30c00c30c30c30c30c00c3
theorem CKre_v (prog:Program) (w:World) (b:Bool) (u:Nat) (x:Nat→Nat) (uf:Nat) (t:Nat) (f:Nat→Ext) :
    (Zqh [55,48,47,40,39,8,7,4,3,2] [] (ckRe (hz (wb w b)) (Zqf (wb w b)) Zkr Zvp mkTextZ mkIntZ Zjv Zx2 "K" u x uf) (ckReEx) [] (Zzz T2 prog (wb w b) 853 t [] [] (ckRe (hz (wb w b)) (Zqf (wb w b)) Zkr Zvp mkTextZ mkIntZ Zjv Zx2 "K" u x uf) orc_CKre f))∧Zjd (Zzz T2 prog (wb w b) 853 t [] [] (ckRe (hz (wb w b)) (Zqf (wb w b)) Zkr Zvp mkTextZ mkIntZ Zjv Zx2 "K" u x uf) orc_CKre f) = 55:=by cases b <;> (constructor <;> kernel_rfl)
theorem CKre_ok {prog:Program} {w:World} {b:Bool} (u:Nat) (x:Nat→Nat) (uf:Nat) (t:Nat):Zqn T2 prog (wb w b) 853 t (ckRe (hz (wb w b)) (Zqf (wb w b)) Zkr Zvp mkTextZ mkIntZ Zjv Zx2 "K" u x uf) :=
  Zqs (ex:=fun _=>ckReEx) Zqq rfl rfl 55 (fun _=>rfl) (CKre_v prog w b u x uf t) fun f q hq=>nomatch hq
noncomputable def orc_CKbn:List Nat:=[1,1]
theorem CKbn_v (prog:Program) (w:World) (b:Bool) (t:Nat) (f:Nat→Ext) :
    (Zqh [0] [] (ckBN (hz (wb w b)) (Zqf (wb w b)) Zvn) (fun _ l _=>exN fun _=>Zj2 l 0 0) [] (Zzz T2 prog (wb w b) 908 t [] [] (ckBN (hz (wb w b)) (Zqf (wb w b)) Zvn) orc_CKbn f))∧Zjd (Zzz T2 prog (wb w b) 908 t [] [] (ckBN (hz (wb w b)) (Zqf (wb w b)) Zvn) orc_CKbn f) = 0:=by cases b <;> (constructor <;> kernel_rfl)
theorem CKbn_ok {prog:Program} {w:World} {b:Bool} (t:Nat):Zqn T2 prog (wb w b) 908 t (ckBN (hz (wb w b)) (Zqf (wb w b)) Zvn) :=
  Zqs (ex:=fun _=>fun _ l _=>exN fun _=>Zj2 l 0 0) Zqq rfl rfl 0 (fun _=>rfl) (CKbn_v prog w b  t) fun f q hq=>nomatch hq
noncomputable def orc_CKrt:List Nat:=[1]
theorem CKrt_v (prog:Program) (w:World) (b:Bool) (u:Nat) (t:Nat) (f:Nat→Ext) :
    (Zqh [0] [] (ckRt (hz (wb w b)) (Zqf (wb w b)) Zqm u) (fun _ _ _=>exN fun _=>0) [] (Zzz T2 prog (wb w b) 908 t [] [] (ckRt (hz (wb w b)) (Zqf (wb w b)) Zqm u) orc_CKrt f))∧Zjd (Zzz T2 prog (wb w b) 908 t [] [] (ckRt (hz (wb w b)) (Zqf (wb w b)) Zqm u) orc_CKrt f) = 0:=by cases b <;> (constructor <;> kernel_rfl)
theorem CKrt_ok {prog:Program} {w:World} {b:Bool} (u:Nat) (t:Nat):Zqn T2 prog (wb w b) 908 t (ckRt (hz (wb w b)) (Zqf (wb w b)) Zqm u) :=
  Zqs (ex:=fun _=>fun _ _ _=>exN fun _=>0) Zqq rfl rfl 0 (fun _=>rfl) (CKrt_v prog w b u t) fun f q hq=>nomatch hq
section
section
variable {prog:Program} {w:World} {b:Bool}
theorem name51:clsName (ckS (Zqf (wb w b))) = "K" := by cases b <;> kernel_rfl
theorem newTupAt {prog:Program} {w:World} {A:Around} {l:List Value} {n:Nat} {Q:Value→Shared→Prop} {E:Value→Shared→Prop} {s:Shared} (hs:s.heap.objs.size = n) (h:Q (.ref n) { s with heap:=s.heap.push { cls:=.type "tuple",data:=.seq l.toArray } }) (hz:l.length≤sizeLine:=by decide):wpAny (model prog w) A (newTuple l) Q E s:=by
  subst hs
  exact wpAny_newTuple h hz
set_option maxHeartbeats 4000000 in
theorem bc_run {A:Around} (hA:AOk A none 55) {h₀ h:Heap} (G:Ground T2 (wb w b) h₀) {r:Zkc} {t:Nat} {g:Array GenState} {Q:Value→Shared→Prop} {E:Value→Shared→Prop} {l:List (Addr × Obj)}
    (hsc1:(List.lookup (Str.ofString "__class__") (Zjs (ckS (Zqf (wb w b)))).names == some NameKind.cell) = false) (hsc2:(List.lookup (Str.ofString "__classdict__") (Zjs (ckS (Zqf (wb w b)))).names == some NameKind.cell) = false)
    (O:Own h₀ ((46,Zvx)::(845,{ cls:=.type "cell",data:=.cell (some (.ref 843)) })::l) h) (hs:h.objs.size = 846)
    (hQ:∀ R h' t' g',Own h₀ ((46,ckT46)::(roCk (hz (wb w b)) (Zqf (wb w b)) R++l)) h'→h'.objs.size = 908→t≤t'→Zq5 true g g'→Q (.ref 904) (r.at h' ⟨t',g'⟩)) :
    wpAny (model prog (wb w b)) A (buildClass "K" ckQual [.type "object"] [] (Zxq (ckS (Zqf (wb w b)))) (Zjs (ckS (Zqf (wb w b)))) (clsStat (ckS (Zqf (wb w b)))) 9 (Zwz (Zqf (wb w b))) (clsPos (ckS (Zqf (wb w b)))) none) Q E (r.at h ⟨t,g⟩):=by
  refine wpAny_bind (m:=newTuple [.type "object"]) (newTupAt hs ?_)
  have O1:=O.push ckTup rfl
  change wpAny _ _ _ _ _ (r.at (h.push ckTup) ⟨t,g⟩)
  have hs1:(h.push ckTup).objs.size = 847:=by rw [Heap.size_push,hs]
  rw [hs] at O1
  generalize h.push ckTup = h1 at O1 hs1
  refine wpAny_bind (wpAny_of_eq (a:=([Value.type "object"],false)) rfl ?_)
  refine wpAny_bind (wpAny_of_eq (a:=Value.type "type") rfl ?_)
  refine wpAny_bind (wpAny_of_eq (a:=true) rfl ?_)
  refine iteP rfl ?_
  refine wpAny_bind (wpAny_of_eq (a:=Value.type "type") ?_ ?_)
  · have h1:typeOf (.type "object") = pure (.type "type"):=rfl
    have h2:isSubtype (.type "type") (.type "type") = pure true:=by rw [isSubtype_type]; kernel_rfl
    simp only [List.forIn_cons,List.forIn_nil]
    rw [h1]
    simp only [pure_bind,h2,if_true]
  refine wpAny_bind (wpAny_mkText ?_)
  change wpAny _ _ _ _ _ (r.at h1 ⟨t + 1,g⟩)
  refine iteN (by decide) ?_
  refine wpAny_bind (wpAny_pure ?_)
  refine wpAny_holding (wpAny_bind ?_)
  have e1:(ckGA Zvf).tree = getAttr? (.type "type") "__prepare__" := by unfold ckGA; dsimp only; rw [getAttrQZ_eq]
  refine eqT e1 ?_
  refine (CKga_ok (t + 1)).use (rest:=(846,ckTup)::(46,Zvx)::(845,{ cls:=.type "cell",data:=.cell (some (.ref 843)) })::l) G (hA.le (by show 20≤55; lia)) O1 (.refl _) hs1 fun x2 h2 g2 O2 hs2 gr2=>?_
  have hs2:h2.objs.size = 848:=hs2
  have O2:Own h₀ ((847,ckBm)::(846,ckTup)::(46,Zvx)::(845,{ cls:=.type "cell",data:=.cell (some (.ref 843)) })::l) h2:=O2
  show wpAny _ _ (call (.ref 847) [.str "K" t,.ref 846] [] >>= _) _ _ _
  refine wpAny_bind ?_
  have e2:(ckCP "K" t).tree = call (.ref 847) [.str "K" t,.ref 846] []:=rfl
  refine eqT e2 ?_
  refine (CKcp_ok "K" t (t + 1 + x2.nat 1)).use (rest:=(46,Zvx)::(845,{ cls:=.type "cell",data:=.cell (some (.ref 843)) })::l) G (hA.le (by show 20≤55; lia)) O2 (.refl _) hs2 fun x3 h3 g3 O3 hs3 gr3=>?_
  have hs3:h3.objs.size = 849:=hs3
  have O3:Own h₀ ((848,ckDict)::(846,ckTup)::(46,Zvx)::(845,{ cls:=.type "cell",data:=.cell (some (.ref 843)) })::l) h3:=O3
  refine wpAny_bind (m:=notTheModulesDict "class:the-namespace-that-__prepare__-gave" 848) (wpAny_of_eq (a:=()) rfl ?_)
  refine wpAny_bind (m:=specialOf (.ref 848) "__getitem__") ?_
  have e3:(ckSp Zkt).tree = specialOf (.ref 848) "__getitem__" := by unfold ckSp; dsimp only; rw [specialOfZ_eq]
  show wpAny _ _ (specialOf (.ref 848) "__getitem__") _ _ _
  refine eqT e3 ?_
  refine (CKsp_ok (t + 1 + x2.nat 1 + x3.nat 1)).use (rest:=(846,ckTup)::(46,Zvx)::(845,{ cls:=.type "cell",data:=.cell (some (.ref 843)) })::l) G (hA.le (by show 20≤55; lia)) O3 (.refl _) hs3 fun x4 h4 g4 O4 hs4 gr4=>?_
  have hs4:h4.objs.size = 849:=hs4
  have O4:Own h₀ ((848,ckDict)::(846,ckTup)::(46,Zvx)::(845,{ cls:=.type "cell",data:=.cell (some (.ref 843)) })::l) h4:=O4
  have ht4:t≤t + 1 + x2.nat 1 + x3.nat 1 + x4.nat 1:=by lia
  generalize t + 1 + x2.nat 1 + x3.nat 1 + x4.nat 1 = t4 at ht4 ⊢
  show wpAny _ _ (if (some (Value.builtin "dict.__getitem__")).isNone = true then _ else _) _ _ _
  refine iteN (by decide) ?_
  refine wpAny_holding ?_
  refine iteN (fun e=>Bool.false_ne_true (hsc1.symm.trans e)) (wpAny_bind (wpAny_pure ?_))
  refine iteN (fun e=>Bool.false_ne_true (hsc2.symm.trans e)) (wpAny_bind (wpAny_pure (wpAny_bind ?_)))
  have e5:(ckCC (Zqf (wb w b)) Zk1).tree = classCode (Zwz (Zqf (wb w b))) (clsPos (ckS (Zqf (wb w b)))) 9 "K" ckQual (Zjs (ckS (Zqf (wb w b)))):=by
    unfold ckCC; dsimp only; rw [classCodeZ_eq,name51]
  refine eqT e5 ?_
  refine (CKcc_ok t4).use (rest:=(848,ckDict)::(846,ckTup)::(845,{ cls:=.type "cell",data:=.cell (some (.ref 843)) })::l) G (hA.le (by show 20≤55; lia)) O4 (by
    simp only [Zq2.preA,ckCC,Zqr]
    (refine Zqv fun _=>?_; simp +arith only [Zqj,Zqk,Zqc])) hs4 fun x5 h5 g5 O5 hs5 gr5=>?_
  have hs5:h5.objs.size = 852:=hs5
  have O5:Own h₀ ((850,Zvx)::(851,ckCode fun k=>x5.nat (k + 2))::(46,ckT46)::(848,ckDict)::(846,ckTup)::(845,{ cls:=.type "cell",data:=.cell (some (.ref 843)) })::l) h5:=O5
  generalize (fun k=>x5.nat (k + 2)) = y5 at O5
  have ht5:t≤t4 + x5.nat 1:=by lia
  generalize t4 + x5.nat 1 = t5 at ht5 ⊢
  refine wpAny_bind (m:=builtinsFor 3 0) ?_
  have e6:(ckBF Zj0).tree = builtinsFor 3 0:=by unfold ckBF; dsimp only; rw [builtinsForZ_eq]
  refine eqT e6 ?_
  refine (CKbf_ok t5).use G (hA.le (by show 20≤55; lia)) O5 (.refl _) hs5 fun x6 h6 g6 O6 hs6 gr6=>?_
  have hs6:h6.objs.size = 852:=hs6
  have O6:Own h₀ ((850,Zvx)::(851,ckCode y5)::(46,ckT46)::(848,ckDict)::(846,ckTup)::(845,{ cls:=.type "cell",data:=.cell (some (.ref 843)) })::l) h6:=O6
  have ht6:t≤t5 + x6.nat 1:=by lia
  generalize t5 + x6.nat 1 = t6 at ht6 ⊢
  refine wpAny_bind (m:=newBodyFrame (.ref 851) 3 848 0) ?_
  have e7:(ckNF Zjj).tree = newBodyFrame (.ref 851) 3 848 0:=by unfold ckNF; dsimp only; rw [newBodyFrameZ_eq]
  refine eqT e7 ?_
  refine (CKnf_ok t6).use G (hA.le (by show 20≤55; lia)) O6 (.refl _) hs6 fun x7 h7 g7 O7 hs7 gr7=>?_
  have hs7:h7.objs.size = 853:=hs7
  have O7:Own h₀ ((852,ckFr (x7.nat 2))::(850,Zvx)::(851,ckCode y5)::(46,ckT46)::(848,ckDict)::(846,ckTup)::(845,{ cls:=.type "cell",data:=.cell (some (.ref 843)) })::l) h7:=O7
  have ht7:t≤t6 + x7.nat 1:=by lia
  generalize t6 + x7.nat 1 = t7 at ht7 ⊢
  generalize x7.nat 2 = u7 at O7
  refine wpAny_bind (m:=closureFor (Zjs (ckS (Zqf (wb w b)))) (Zwz (Zqf (wb w b)))) ?_
  have e8:(ckCl (Zqf (wb w b)) Zkx).tree = closureFor (Zjs (ckS (Zqf (wb w b)))) (Zwz (Zqf (wb w b))):=by unfold ckCl; dsimp only; rw [closureForZ_eq]
  refine eqT e8 ?_
  refine (CKcl_ok t7).use G (hA.le (by show 20≤55; lia)) O7 (.refl _) hs7 fun x8 h8 g8 O8 hs8 gr8=>?_
  have hs8:h8.objs.size = 853:=hs8
  have O8:Own h₀ ((852,ckFr u7)::(850,Zvx)::(851,ckCode y5)::(46,ckT46)::(848,ckDict)::(846,ckTup)::(845,{ cls:=.type "cell",data:=.cell (some (.ref 843)) })::l) h8:=O8
  have ht8:t≤t7 + x8.nat 1:=by lia
  generalize t7 + x8.nat 1 = t8 at ht8 ⊢
  refine wpAny_holding (wpAny_bind (wpAny_enterFrame (G.nolimit.keeps O8.keep) (hA.room) ?_))
  show wpAny _ _ (ckRestT storeName loadName mkText mkInt newTextTuple leavingAround ckQual 9 (clsStat (ckS (Zqf (wb w b)))) (Zxq (ckS (Zqf (wb w b)))) (ckCEnv (Zqf (wb w b))) (.str "K" t)) _ _ _
  have e9:(ckRe (hz (wb w b)) (Zqf (wb w b)) Zkr Zvp mkTextZ mkIntZ Zjv Zx2 "K" t y5 u7).tree = ckRestT storeName loadName mkText mkInt newTextTuple leavingAround ckQual 9 (clsStat (ckS (Zqf (wb w b)))) (Zxq (ckS (Zqf (wb w b)))) (ckCEnv (Zqf (wb w b))) (.str "K" t):=by
    unfold ckRe
    dsimp only
    rw [storeNameZ_eq,loadNameZ_eq,mkTextZ_eq,mkIntZ_eq,newTextTupleZ_eq,leavingAroundZ_eq]
  refine eqT e9 ?_
  refine (CKre_ok t y5 u7 t8).use (rest:=(46,ckT46)::l) G (hA.le (by show 50≤55; lia)) O8 (by
    simp only [Zq2.preA,ckRe,Zqr]
    (refine Zqv fun _=>?_; simp +arith only [Zqj,Zqk,Zqc])) hs8 fun x9 h9 g9 O9 hs9 gr9=>?_
  have hs9:h9.objs.size = 908:=hs9
  refine hQ (roX x9) h9 _ g9 (O9.perm (by
    simp only [Zq2.postA,ckRe,Zqr]
    (refine Zqv fun _=>?_; simp +arith only [Zqj,Zqk,Zqc]))) hs9 (by lia) (Zq5.trans (d:=true) (Zq5.trans (d:=true) (Zq5.trans (d:=true) (Zq5.trans (d:=true) (Zq5.trans (d:=true) (Zq5.trans (d:=true) (Zq5.trans (d:=true) gr2 gr3 fun e=>Bool.noConfusion e) gr4 fun e=>Bool.noConfusion e) gr5 fun e=>Bool.noConfusion e) gr6 fun e=>Bool.noConfusion e) gr7 fun e=>Bool.noConfusion e) gr8 fun e=>Bool.noConfusion e) gr9 fun e=>Bool.noConfusion e)
end
end
section
variable {prog:Program} {w:World} {b:Bool}
theorem d51:((Zqf (wb w b) 51).bind isDef) = some (Zxv (Zqf (wb w b)) 51):=by cases b <;> kernel_rfl
theorem body51:(Zxv (Zqf (wb w b)) 51).body = .stmts [ckS (Zqf (wb w b)),Zqt (Zxv (Zqf (wb w b)) 51) 1]:=by cases b <;> kernel_rfl
theorem cls51:ckS (Zqf (wb w b)) = .ClassDef "K" (clsBases (ckS (Zqf (wb w b)))) [] (Zxq (ckS (Zqf (wb w b)))) [] [] (Zjs (ckS (Zqf (wb w b)))) (clsTs (ckS (Zqf (wb w b)))) (clsBind (ckS (Zqf (wb w b)))) (clsStat (ckS (Zqf (wb w b)))) (clsPos (ckS (Zqf (wb w b)))):=by cases b <;> kernel_rfl
theorem clsQ51:qualnameIn (Zwz (Zqf (wb w b))) "K" (clsBind (ckS (Zqf (wb w b)))) = ckQual:=by cases b <;> kernel_rfl
theorem clsL51:firstLineOf [] (clsPos (ckS (Zqf (wb w b)))) = 9:=by cases b <;> kernel_rfl
theorem clsN1:(List.lookup (Str.ofString "__class__") (Zjs (ckS (Zqf (wb w b)))).names == some NameKind.cell) = false:=by cases b <;> kernel_rfl
theorem clsN2:(List.lookup (Str.ofString "__classdict__") (Zjs (ckS (Zqf (wb w b)))).names == some NameKind.cell) = false:=by cases b <;> kernel_rfl
noncomputable abbrev guardZ:Env→Sem Unit:=W.ZFast.zw14857818083647630748
theorem guardZ_eq:guardZ = buildClassGuard:=W.ZFast.ze14857818083647630748.symm
theorem guard51:readT (Zqf (wb w b)) ⟨prog,(wb w b).params⟩ (guardZ (Zwz (Zqf (wb w b)))) = some ():=by cases b <;> kernel_rfl
theorem args_eq (pos:Pos) (bs:List Expr) (env:Env):W.ZFast.zw5911215902649259669 (.builtin "__build_class__") false (W.ZFast.zw4897270859577272712 pos (W.ZFast.zw13897175071876407860 bs env)) (W.ZFast.zw621762911399731506 pos (W.ZFast.zw11621922129505618389 [] env)) = evalArgs (.builtin "__build_class__") false (backTo pos (starEach bs env)) (backToKw pos (keywordEach [] env)):=by
  rw [← W.ZFast.ze5911215902649259669,← W.ZFast.ze4897270859577272712,← W.ZFast.ze13897175071876407860,← W.ZFast.ze621762911399731506,← W.ZFast.ze11621922129505618389]
theorem args51:readT (Zqf (wb w b)) ⟨prog,(wb w b).params⟩ (W.ZFast.zw5911215902649259669 (.builtin "__build_class__") false (W.ZFast.zw4897270859577272712 (clsPos (ckS (Zqf (wb w b)))) (W.ZFast.zw13897175071876407860 (clsBases (ckS (Zqf (wb w b)))) (Zwz (Zqf (wb w b))))) (W.ZFast.zw621762911399731506 (clsPos (ckS (Zqf (wb w b)))) (W.ZFast.zw11621922129505618389 [] (Zwz (Zqf (wb w b)))))) = some ⟨[.type "object"],[]⟩:=by cases b <;> kernel_rfl
theorem ck_ok (t:Nat):Zq1 T2 prog (wb w b) 844 t (ckCon (hz (wb w b)) (Zqf (wb w b))):=by
  refine ⟨fun h₀ h r g A Rz G hA O hs hR=>?_⟩
  have hA:AOk A none 60:=hA
  have O:Own h₀ [(46,Zvx)] h:=O
  obtain ⟨o,ho,hd⟩:=Option.bind_eq_some_iff.mp (d51 (w:=w) (b:=b))
  have hcall:AOk (A.under (.call (.ref 51) ⟨[.ref 843],[]⟩)) none 59:=hA.under (Zzn rfl)
  refine fn_call (O.keep _ _ (G.top _ _ ho)) hd hcall.room ?_
  have e2:(ckPrep (Zqf (wb w b)) Zjw 844 t).tree = Zkz 51 (Zxv (Zqf (wb w b)) 51) ⟨[.ref 843],[]⟩:=by
    unfold ckPrep
    exact congrFun (congrFun (congrFun Zvv 51) (Zxv (Zqf (wb w b)) 51)) ⟨[.ref 843],[]⟩
  refine eqT e2 ?_
  refine (CKp_ok t).use (rest:=[(46,Zvx)]) G (hcall.bare (by show 20≤59; lia)) O (.refl _) hs fun x h1 g1 O1 hs1 gr1=>⟨G.nolimit.keeps O1.keep,?_⟩
  have hs1:h1.objs.size = 846:=hs1
  have O1:Own h₀ ((844,ckF0)::(845,{ cls:=.type "cell",data:=.cell (some (.ref 843)) })::[(46,Zvx)]) h1:=O1
  have ht1:t≤t + x.nat 1:=by lia
  generalize t + x.nat 1 = t1 at ht1 ⊢
  show codeAny _ A (Zjm (Zxv (Zqf (wb w b)) 51) (Zwz (Zqf (wb w b)))) _ _
  unfold Zjm
  rw [body51]
  dsimp only
  have hfun:AOk (A.under (.func [ckS (Zqf (wb w b)),Zqt (Zxv (Zqf (wb w b)) 51) 1] (Zwz (Zqf (wb w b))))) none 59:=(hA.under (Zzn rfl)).bare (Nat.le_refl _)
  generalize hA2:A.under (.func [ckS (Zqf (wb w b)),Zqt (Zxv (Zqf (wb w b)) 51) 1] (Zwz (Zqf (wb w b)))) = A2 at hfun
  refine fn_body ?_
  rw [hA2,Zz7]
  refine wpAny_bind ?_
  rw [cls51,arm_exec_ClassDef]
  have kp:∀ a o,Zqf (wb w b) a = some o→h1.get? a = some o:=fun a o e=>O1.keep _ _ (G.top a o e)
  refine wpAny_bind (wpAny_of_eq (a:=[]) rfl ?_)
  refine wpAny_bind (wpAny_standAt ?_)
  refine wpAny_bind ?_
  rw [← guardZ_eq]
  refine Zk2 (s:=r.at h1 ⟨t1,g1⟩) kp guard51 ?_
  refine wpAny_bind (wpAny_holding (wpAny_bind ?_))
  rw [← args_eq]
  refine Zk2 (s:=r.at h1 ⟨t1,g1⟩) kp args51 ?_
  refine wpAny_bind (wpAny_standAt ?_)
  refine wpAny_holding ?_
  rw [clsQ51,clsL51]
  refine bc_run (hfun.le (by lia)) G clsN1 clsN2 (l:=[(844,ckF0)]) (O1.perm (by (refine Zqv fun _=>?_; simp +arith only [Zqj,Zqk,Zqc]))) hs1 fun R h2 t2 g2 O2 hs2 ht2 gr2=>?_
  refine wpAny_bind (wpAny_of_eq (a:=Value.ref 904) rfl ?_)
  refine wpAny_bind (wpAny_standAt ?_)
  refine wpAny_bind ?_
  have e3:(ckBN (hz (wb w b)) (Zqf (wb w b)) Zvn).tree = bindName (Zwz (Zqf (wb w b))) (clsBind (ckS (Zqf (wb w b)))) (.ref 904):=by
    unfold ckBN; dsimp only; rw [bindNameZ_eq]
  refine eqT e3 ?_
  refine (CKbn_ok t2).use (rest:=(46,ckT46)::roCk (hz (wb w b)) (Zqf (wb w b)) R) G (hfun.le (by show 20≤59; lia)) O2 (by
    simp only [Zq2.preA,ckBN,Zqr]
    (refine Zqv fun _=>?_; simp +arith only [Zqj,Zqk,Zqc])) hs2 fun x3 h3 g3 O3 hs3 gr3=>?_
  have hs3:h3.objs.size = 908:=hs3
  refine wpAny_pure ?_
  show wpAny _ A2 (execs [Zqt (Zxv (Zqf (wb w b)) 51) 1] (Zwz (Zqf (wb w b)))) _ _ _
  have e4:(ckRt (hz (wb w b)) (Zqf (wb w b)) Zqm (x3.nat 2)).tree = execs [Zqt (Zxv (Zqf (wb w b)) 51) 1] (Zwz (Zqf (wb w b))):=by
    unfold ckRt; dsimp only; rw [Zzm]
  refine eqT e4 ?_
  refine (CKrt_ok (x3.nat 2) (t2 + x3.nat 1)).use (rest:=(46,ckT46)::roCk (hz (wb w b)) (Zqf (wb w b)) R) G (hfun.le (by show 20≤59; lia)) O3 (by
    simp only [Zq2.preA,Zq2.postA,ckRt,ckBN,Zqr]
    (refine Zqv fun _=>?_; simp +arith only [Zqj,Zqk,Zqc])) hs3 fun x4 h4 g4 O4 hs4 gr4=>?_
  have hs4:h4.objs.size = 908:=hs4
  have fin:=hR ⟨fun j=>match j with | 0=>64 | 1=>t2 + x3.nat 1 + x4.nat 1 - t | j + 2=>R.k j,fun _=>#[],fun _ _ _=>0,Ext.nil.ob⟩ h4 g4 (Own.drop (r:=[(844,frmO #[ent (hz (wb w b)) "K" (x3.nat 2) (.ref 904)] 1)]) (O4.perm (by
    simp only [Zq2.postA,Con.postA,ckRt,ckCon,Zqr]
    show List.Perm _ (((roCk (hz (wb w b)) (Zqf (wb w b)) R++[(46,ckT46)])++[])++_)
    (refine Zqv fun _=>?_; simp +arith only [Zqj,Zqk,Zqc])))) (by rw [hs4]; rfl) (Zq5.trans (d:=true) (Zq5.trans (d:=true) (Zq5.trans (d:=true) gr1 gr2 fun e=>Bool.noConfusion e) gr3 fun e=>Bool.noConfusion e) gr4 fun e=>Bool.noConfusion e)
  have et:t + (t2 + x3.nat 1 + x4.nat 1 - t) = t2 + x3.nat 1 + x4.nat 1:=by lia
  change Rz (.ok (.ret (.ref 904))) (r.at h4 ⟨t + (t2 + x3.nat 1 + x4.nat 1 - t),g4⟩) at fin
  rw [et] at fin
  exact fin
end
section
variable {prog:Program} {w:World} {b:Bool}
theorem d804:((Zqf (wb w b) 804).bind isDef) = some (Zxv (Zqf (wb w b)) 804):=by cases b <;> kernel_rfl
theorem body804:(Zxv (Zqf (wb w b)) 804).body = .stmts [lwS (Zqf (wb w b)) 0,lwS (Zqf (wb w b)) 1,lwS (Zqf (wb w b)) 2,lwS (Zqf (wb w b)) 3,lwS (Zqf (wb w b)) 4,lwS (Zqf (wb w b)) 5,lwS (Zqf (wb w b)) 6,lwS (Zqf (wb w b)) 7,lwS (Zqf (wb w b)) 8,lwS (Zqf (wb w b)) 9,lwS (Zqf (wb w b)) 10,lwS (Zqf (wb w b)) 11]:=by cases b <;> kernel_rfl
theorem fn804 (R:RO):Zxv (Zqd R (wb w b)) 804 = Zxv (Zqf (wb w b)) 804:=by cases b <;> kernel_rfl
theorem lawEnv_top (R:RO):Zq4 (Zqd R (wb w b)) = Zq4 (Zqf (wb w b)):=by unfold Zq4; rw [fn804]
theorem lwS_top (R:RO) (k:Nat):lwS (Zqd R (wb w b)) k = lwS (Zqf (wb w b)) k:=by unfold lwS; rw [fn804]
theorem own_rest {h₀ h:Heap} {pre rest:List (Addr × Obj)} (O:Own h₀ (pre++rest) h):(∀ a o,h₀.get? a = some o→(hideAll h (pre.map (·.1))).get? a = some o)∧∀ p ∈ rest,(hideAll h (pre.map (·.1))).get? p.1 = some p.2:=by
  have nd:=O.nodup
  rw [List.map_append,List.nodup_append] at nd
  refine ⟨fun b o e=>hideAll_get _ (O.keep b o e) fun z=>?_,fun p hp=>hideAll_get _ (O.own p (List.mem_append_right _ hp)) fun z=>nd.2.2 _ z _ (List.mem_map_of_mem hp) rfl⟩
  obtain ⟨p,hpm,rfl⟩:=List.mem_map.mp z
  rw [O.apart p (List.mem_append_left _ hpm)] at e; cases e
theorem lookN_mem {a:Nat} {o:Obj}:∀ {l:List (Addr × Obj)},lookN a l = some o→(a,o) ∈ l
  | [],h=>nomatch h
  | (c,o')::r,h=>by
    unfold lookN at h
    split at h
    · rename_i e
      cases h
      rw [Nat.eq_of_beq_eq_true e]
      exact .head _
    · exact .tail _ (lookN_mem h)
theorem t3_eq (R:RO) (w:World) (a:Addr):T3 R w.params a = match T2 w.params a with | some o=>some o | none=>lookN a (roObjs (hz w) (Zqf w) R):=rfl
theorem ground3 {R:RO} {w:World} {h₀ h:Heap} {pre r1:List (Addr × Obj)} (G:Ground T2 w h₀) (O:Own h₀ (pre++(r1++roObjs (hz w) (Zqf w) R)) h):Ground (T3 R) w (hideAll h (pre.map (·.1))):=by
  refine ⟨fun a o e=>?_,(own_split G O).1.nolimit⟩
  rw [t3_eq] at e
  generalize roObjs (hz w) (Zqf w) R = l at e O
  cases q:T2 w.params a with
  | some o'=>rw [q] at e; cases e; exact (own_rest O).1 _ _ (G.top _ _ q)
  | none=>rw [q] at e; exact (own_rest O).2 _ (List.mem_append_right _ (lookN_mem e))
theorem lwp_ok (t:Nat):Zqn T2 prog (wb w b) 806 t (lwPrep (hz (wb w b)) (Zqf (wb w b)) Zjw) :=
  Zqs (ex:=fun _ _ l _=>exN fun k=>Zj2 l 0 k) (P:=fun _=>[]) Zqq rfl rfl 5 (fun _=>rfl) (LWp_v prog w b t) fun f q hq=>nomatch hq
theorem lw0_ok {ys:List Int} (hys:ys.length≤12) {xs:List Value} {tk:Nat→Nat} (htake:xs.take 12 = Zz2 ys tk) (hxs:xs.length≤sizeLine) (ft:Nat→Nat) (ep t:Nat) :
    Zqn T2 prog (wb w b) 811 t (lw0 (hz (wb w b)) (Zqf (wb w b)) Zqm ft xs ep ys (sumI (Zxz ys))) :=
  Zqs (ex:=lw0Ex) (P:=fun _=>[]) (Zqx (fun n' t' c l bb=>dr_ok hys htake hxs 805 ep n' t') Zqq) rfl rfl 25 (fun _=>rfl) (LW0_v prog w b ft xs ep ys (sumI (Zxz ys)) t) fun f q hq=>nomatch hq
theorem lw1_ok (ft:Nat→Nat) (cut:Int) (u t:Nat):Zqn T2 prog (wb w b) 836 t (lw1 (hz (wb w b)) (Zqf (wb w b)) Zqm ft cut u) :=
  Zqs (ex:=lw1Ex) (P:=fun _=>[]) (Zqx (atN_ok fun t=>ck_ok t) Zqq) rfl rfl 72 (fun _=>rfl) (LW1_v prog w b ft cut u t) fun f q hq=>nomatch hq
theorem lw2_ok (ft:Nat→Nat) (cut:Int) (u t:Nat):Zqn T2 prog (wb w b) 908 t (lw2 (hz (wb w b)) (Zqf (wb w b)) Zqm ft cut u) :=
  Zqs (ex:=lw2Ex) (P:=fun _=>[]) Zqq rfl rfl 10 (fun _=>rfl) (LW2_v prog w b ft cut u t) fun f q hq=>nomatch hq
theorem drV_wd (tp:Nat→Nat):∀ l:List Int,∃ tk,drV tp l = wdV (l.map m6) tk
  | []=>⟨fun _=>0,rfl⟩
  | x::r=>by
    obtain ⟨tk,h⟩:=drV_wd tp r
    refine ⟨fun j=>match j with | 0=>tp (m6 x).val | j + 1=>tk j,?_⟩
    show _::drV tp r = _::wdV (r.map m6) tk
    rw [h]
noncomputable def roAll (r:Nat→Int) (x0 x1 x2:Nat→Nat):RO:=⟨r,fun k=>match Nat.ble 90 k with
  | true=>x2 (k + 10)
  | false=>match Nat.ble 12 k with
    | true=>x1 (k + 10)
    | false=>x0 (k + 10)⟩
theorem ro_all (hs:Hs) (top:Addr→Option Obj) (T:Int) (x0 x1 x2:Ext) (R:RO) (hR:R = roAll (rkZ T) x0.nat x1.nat x2.nat) :
    (((810,Zzq (some (.ref 822)))::(822,rankO hs (drR T x0))::roLam top (roX10 x1))++roCk hs top (roX10 x1)++roDl top (roX10 x2)) = roObjs hs top R:=by
  subst hR
  rfl
theorem rkZ_small (T:Int) (x0 x1 x2:Nat→Nat):(roAll (rkZ T) x0 x1 x2).small:=fun k=>by
  show 0≤Z.modQ _ 6∧Z.modQ _ 6 < 6
  rw [← Z.modQ_eq]
  exact ⟨Int.fmod_nonneg_of_pos _ (by decide),Int.fmod_lt_of_pos _ (by decide)⟩
theorem Zzr (s:Stmt) (r:Stmt) (rs:List Stmt) (env:Env):execs (s::r::rs) env = (execs [s] env >>= fun f=>match f with | .next=>execs (r::rs) env | f=>pure f):=by
  rw [Zz7,Zj4]
  all_goals (refine congrArg _ (funext fun f=>?_); cases f <;> rfl)
theorem law_head {ys:List Int} (hys:ys.length≤12) {xs:List Value} {tk:Nat→Nat} (htake:xs.take 12 = Zz2 ys tk) (hxs:xs.length≤sizeLine) {A:Around} (hA:AOk A (some []) 139) {h₀ h:Heap} (G:Ground T2 (wb w b) h₀) {ep t:Nat} {g:Array GenState} {r:Zkc} {Rz:Result→Shared→Prop}
    (O:Own h₀ [(46,Zvx),(801,Zvx),(789,Zvx),(762,Zz8 775 20 none),(805,Zqz xs ep)] h) (hs:h.objs.size = 806)
    (hK:∀ (R:RO) (h1 h2:Heap) (ft:Nat→Nat) (u e2 t2:Nat) (g2:Array GenState) (tk2:Nat→Nat) (A2:Around),R.small→(∀ k,R.r k = rkZ (sumI (Zxz ys)) k)→AOk A2 (some [Zq4 (Zqd R (wb w b))]) 138→Ground (T3 R) (wb w b) h1→(∀ a o,h₀.get? a = some o→h1.get? a = some o)→(∀ p ∈ [(805,Zqz xs ep),(46,ckT46),(801,tblA [(815,21,842)]),(789,tblA [(799,4,916)])],h1.get? p.1 = some p.2) →
      Own h1 [(762,Zz8 775 20 none),(806,lwF (hz (wb w b)) ft (Zkd (cutZ ys (sumI (Zxz ys))) u)),(807,Zzq (some (.ref 828))),(808,Zzq none),(809,Zzq none),(828,Zqz (wdV ((Zxz ys).map m6) tk2) e2)] h2→h2.objs.size = 918→t≤t2→Zq5 true g g2 →
      wpAny (model prog (wb w b)) A2 (execs [lwS (Zqd R (wb w b)) 3,lwS (Zqd R (wb w b)) 4,lwS (Zqd R (wb w b)) 5,lwS (Zqd R (wb w b)) 6,lwS (Zqd R (wb w b)) 7,lwS (Zqd R (wb w b)) 8,lwS (Zqd R (wb w b)) 9,lwS (Zqd R (wb w b)) 10,lwS (Zqd R (wb w b)) 11] (Zq4 (Zqd R (wb w b))))
        (fun f s'=>Rz (.ok (.ret (match f with | .ret v=>v | _=>.none))) s') (fun e s'=>wpAny (model prog (wb w b)) A2 («leaving» (Zq4 (Zqd R (wb w b))) e) (fun _ s''=>Rz (.error e) s'') (fun e' s''=>Rz (.error e') s'') s') (r.at h2 ⟨t2,g2⟩)) :
    codeAny (model prog (wb w b)) A (.call (.ref 804) ⟨[.ref 805],[]⟩) Rz (r.at h ⟨t,g⟩):=by
  obtain ⟨o,ho,hd⟩:=Option.bind_eq_some_iff.mp (d804 (w:=w) (b:=b))
  have hcall:AOk (A.under (.call (.ref 804) ⟨[.ref 805],[]⟩)) none 138:=(hA.under (Zzn rfl)).bare (Nat.le_refl _)
  refine fn_call (O.keep _ _ (G.top _ _ ho)) hd hcall.room ?_
  have e2:(lwPrep (hz (wb w b)) (Zqf (wb w b)) Zjw).tree = Zkz 804 (Zxv (Zqf (wb w b)) 804) ⟨[.ref 805],[]⟩:=by
    unfold lwPrep
    exact congrFun (congrFun (congrFun Zvv 804) (Zxv (Zqf (wb w b)) 804)) ⟨[.ref 805],[]⟩
  refine eqT e2 ?_
  refine (lwp_ok t).use (rest:=[(46,Zvx),(801,Zvx),(789,Zvx),(762,Zz8 775 20 none),(805,Zqz xs ep)]) G (hcall.bare (by show 20≤138; lia)) O (.refl _) hs fun x h1 g1 O1 hs1 gr1=>⟨G.nolimit.keeps O1.keep,?_⟩
  have hs1:h1.objs.size = 811:=hs1
  generalize hft:(fun j=>x.nat (j + 2)) = ft at O1
  have O1:Own h₀ ([(806,lwF (hz (wb w b)) ft [.ref 805]),(807,Zzq none),(808,Zzq none),(809,Zzq none),(810,Zzq none)]++[(46,Zvx),(801,Zvx),(789,Zvx),(762,Zz8 775 20 none),(805,Zqz xs ep)]) h1:=by
    subst hft; exact O1
  have ht1:t≤t + x.nat 1:=by lia
  generalize t + x.nat 1 = t1 at ht1 ⊢
  show codeAny _ A (Zjm (Zxv (Zqf (wb w b)) 804) (Zq4 (Zqf (wb w b)))) _ _
  unfold Zjm
  rw [body804]
  dsimp only
  have hfun:AOk (A.under (.func [lwS (Zqf (wb w b)) 0,lwS (Zqf (wb w b)) 1,lwS (Zqf (wb w b)) 2,lwS (Zqf (wb w b)) 3,lwS (Zqf (wb w b)) 4,lwS (Zqf (wb w b)) 5,lwS (Zqf (wb w b)) 6,lwS (Zqf (wb w b)) 7,lwS (Zqf (wb w b)) 8,lwS (Zqf (wb w b)) 9,lwS (Zqf (wb w b)) 10,lwS (Zqf (wb w b)) 11] (Zq4 (Zqf (wb w b))))) (some [Zq4 (Zqf (wb w b))]) 138:=hA.under (Zzn rfl)
  generalize hA2:A.under (.func [lwS (Zqf (wb w b)) 0,lwS (Zqf (wb w b)) 1,lwS (Zqf (wb w b)) 2,lwS (Zqf (wb w b)) 3,lwS (Zqf (wb w b)) 4,lwS (Zqf (wb w b)) 5,lwS (Zqf (wb w b)) 6,lwS (Zqf (wb w b)) 7,lwS (Zqf (wb w b)) 8,lwS (Zqf (wb w b)) 9,lwS (Zqf (wb w b)) 10,lwS (Zqf (wb w b)) 11] (Zq4 (Zqf (wb w b)))) = A2 at hfun
  refine fn_body ?_
  rw [hA2,Zzr]
  refine wpAny_bind ?_
  rw [show execs [lwS (Zqf (wb w b)) 0] (Zq4 (Zqf (wb w b))) = (lw0 (hz (wb w b)) (Zqf (wb w b)) Zqm ft xs ep ys (sumI (Zxz ys))).tree by
    unfold lw0; dsimp only; rw [Zzm]]
  refine (lw0_ok hys htake hxs ft ep t1).use (rest:=[(808,Zzq none),(809,Zzq none),(46,Zvx),(801,Zvx),(789,Zvx),(762,Zz8 775 20 none)]) G (hfun.bare (by show 80≤138; lia)) O1 (by
    simp only [Zq2.preA,lw0,Zqr]
    (refine Zqv fun _=>?_; simp +arith only [Zqj,Zqk,Zqc])) hs1 fun x0 h2 g2 O2 hs2 gr2=>?_
  have hs2:h2.objs.size = 836:=hs2
  have ht2:t1≤t1 + x0.nat 1:=by lia
  generalize t1 + x0.nat 1 = t2 at ht2 ⊢
  show wpAny _ A2 (execs (lwS (Zqf (wb w b)) 1::_::_) (Zq4 (Zqf (wb w b)))) _ _ _
  rw [Zzr]
  refine wpAny_bind ?_
  rw [show execs [lwS (Zqf (wb w b)) 1] (Zq4 (Zqf (wb w b))) = (lw1 (hz (wb w b)) (Zqf (wb w b)) Zqm (fun j=>x0.nat (j + 4)) (cutZ ys (sumI (Zxz ys))) (x0.nat 2)).tree by
    unfold lw1; dsimp only; rw [Zzm]]
  refine (lw1_ok (fun j=>x0.nat (j + 4)) (cutZ ys (sumI (Zxz ys))) (x0.nat 2) t2).use (rest:=[(805,Zqz xs ep),(828,Zqz (drV (x0.seq 0 0) (Zxz ys)) (x0.nat 3)),(822,rankO (hz (wb w b)) (drR (sumI (Zxz ys)) x0)),(807,Zzq (some (.ref 828))),(808,Zzq none),(809,Zzq none),(789,Zvx),(762,Zz8 775 20 none)]) G (hfun.bare (by show 80≤138; lia)) O2 (by
    simp only [Zq2.preA,Zq2.postA,lw0,lw1,Zqr]
    (refine Zqv fun _=>?_; simp +arith only [Zqj,Zqk,Zqc])) hs2 fun x1 h3 g3 O3 hs3 gr3=>?_
  have hs3:h3.objs.size = 908:=hs3
  have ht3:t2≤t2 + x1.nat 1:=by lia
  generalize t2 + x1.nat 1 = t3 at ht3 ⊢
  show wpAny _ A2 (execs (lwS (Zqf (wb w b)) 2::_::_) (Zq4 (Zqf (wb w b)))) _ _ _
  rw [Zzr]
  refine wpAny_bind ?_
  rw [show execs [lwS (Zqf (wb w b)) 2] (Zq4 (Zqf (wb w b))) = (lw2 (hz (wb w b)) (Zqf (wb w b)) Zqm (fun j=>x1.nat (j + 2)) (cutZ ys (sumI (Zxz ys))) (x0.nat 2)).tree by
    unfold lw2; dsimp only; rw [Zzm]]
  refine (lw2_ok (fun j=>x1.nat (j + 2)) (cutZ ys (sumI (Zxz ys))) (x0.nat 2) t3).use (rest:=(46,ckT46)::(801,tblA [(815,21,842)])::(810,Zzq (some (.ref 822)))::(805,Zqz xs ep)::(828,Zqz (drV (x0.seq 0 0) (Zxz ys)) (x0.nat 3))::(822,rankO (hz (wb w b)) (drR (sumI (Zxz ys)) x0))::(807,Zzq (some (.ref 828)))::(808,Zzq none)::(809,Zzq none)::(762,Zz8 775 20 none)::(roLam (Zqf (wb w b)) (roX10 x1)++roCk (hz (wb w b)) (Zqf (wb w b)) (roX10 x1))) G (hfun.bare (by show 40≤138; lia)) O3 (by
    simp only [Zq2.preA,Zq2.postA,lw1,lw2,Zqr]
    generalize roLam (Zqf (wb w b)) (roX10 x1) = la
    generalize roCk (hz (wb w b)) (Zqf (wb w b)) (roX10 x1) = lb
    (refine Zqv fun _=>?_; simp +arith only [Zqj,Zqk,Zqc])) hs3 fun x2 h4 g4 O4 hs4 gr4=>?_
  have hs4:h4.objs.size = 918:=hs4
  have ht4:t3≤t3 + x2.nat 1:=by lia
  generalize t3 + x2.nat 1 = t4 at ht4 ⊢
  show wpAny _ A2 (execs (lwS (Zqf (wb w b)) 3::_::_) (Zq4 (Zqf (wb w b)))) _ _ _
  obtain ⟨tk2,hwd⟩:=drV_wd (x0.seq 0 0) (Zxz ys)
  obtain ⟨R,hR⟩:∃ R,R = roAll (rkZ (sumI (Zxz ys))) x0.nat x1.nat x2.nat:=⟨_,rfl⟩
  have hro:=ro_all (hz (wb w b)) (Zqf (wb w b)) (sumI (Zxz ys)) x0 x1 x2 R hR
  have O5:Own h₀ (([(762,Zz8 775 20 none),(806,lwF (hz (wb w b)) (fun j=>x2.nat (j + 2)) (Zkd (cutZ ys (sumI (Zxz ys))) (x0.nat 2))),(807,Zzq (some (.ref 828))),(808,Zzq none),(809,Zzq none),(828,Zqz (wdV ((Zxz ys).map m6) tk2) (x0.nat 3))])++((805,Zqz xs ep)::(46,ckT46)::(801,tblA [(815,21,842)])::(789,tblA [(799,4,916)])::roObjs (hz (wb w b)) (Zqf (wb w b)) R)) h4:=by
    rw [← hro,← hwd]
    refine O4.perm ?_
    simp only [Zq2.postA,lw2,Zqr,Zkd]
    generalize roLam (Zqf (wb w b)) (roX10 x1) = la
    generalize roCk (hz (wb w b)) (Zqf (wb w b)) (roX10 x1) = lb
    generalize roDl (Zqf (wb w b)) (roX10 x2) = lc
    (refine Zqv fun _=>?_; simp +arith only [Zqj,Zqk,Zqc])
  obtain ⟨G6,O6⟩:=own_split G O5
  have z:=hK R _ h4 (fun j=>x2.nat (j + 2)) (x0.nat 2) (x0.nat 3) t4 g4 tk2 A2 (by rw [hR]; exact rkZ_small _ _ _ _) (fun k=>by rw [hR]; rfl) (by rw [lawEnv_top]; exact hfun) (ground3 (r1:=[(805,Zqz xs ep),(46,ckT46),(801,tblA [(815,21,842)]),(789,tblA [(799,4,916)])]) G O5) (own_rest O5).1 (fun p hp=>(own_rest O5).2 p (by
    simp only [List.mem_cons,List.not_mem_nil,or_false] at hp ⊢
    rcases hp with h | h | h | h
    · exact .inl h
    · exact .inr (.inl h)
    · exact .inr (.inr (.inl h))
    · exact .inr (.inr (.inr (.inl h))))) O6 hs4 (by lia) (Zq5.trans (d:=true) (Zq5.trans (d:=true) (Zq5.trans (d:=true) gr1 gr2 fun e=>Bool.noConfusion e) gr3 fun e=>Bool.noConfusion e) gr4 fun e=>Bool.noConfusion e)
  simp only [lawEnv_top,lwS_top] at z
  exact z
end
noncomputable def orc_SP:List Nat:=Zxh 16 935 0xdc01ab4581d00ccc0b000b0b00b0000bddccc0b000b0b00b0000bddd00000accc0b000b0b00b0000baaaaaccc0b000b0b00b0000baccc0b000b0b00b0000ba1110101100000bbb0a000a0a00a0000a9bbb0a000a0a00a0000a9bbb0a000a0a00a0000a9bbb0a000a0a00a0000a91110101100000aaa09000909009000098aaa09000909009000098aaa09000909009000098aaa09000909009000098aaa09000909009000098aaa09000909009000098aaa0900090900900009000a099000900000980a09900090000098aaa09000909009000098aaa09000909009000098aaa090009090090000988aaa090009090090000988aaa090009090090000988aaa090009090090000988888444030000000303003000000003210000100001111403300000003000000000311111000013200002000000020000000211333020000000202002000000002133302000000020200200000000213330200000002020020000000021100001001000010000110000100111111100000000101000000000000000000000000000000000000000100000100011111110000000000000000000000000000000000001000000010011111111110000000010100000000000000000000000000000000000011011111110000
theorem SP_v (prog:Program) (w:World) (b:Bool) (text:List Nat) (tt:Nat) (s':Lt) (ws:List Str) (E1:Env) (a1:Addr) (d1:Array DictEntry) (k1:Nat) (sl1:Array (Option Value)) (n t:Nat) (f:Nat→Ext) :
    Zvk [0,8] [] (spCon (hz (wb w b)) (Zqf (wb w b)) text tt s' ws E1 a1 d1 k1 sl1 n t) (exF 0 f) []
      (Zzs T2 prog (wb w b) n t [] [llFam (hz (wb w b)) n text (S []) s' ws [fnEnv (Zqf (wb w b)) 760 759 "split.<locals>." n,fe E1 a1]] (spCon (hz (wb w b)) (Zqf (wb w b)) text tt s' ws E1 a1 d1 k1 sl1 n t) orc_SP f):=by cases b <;> kernel_rfl
theorem llFam_ok {prog:Program} {w:World} {b:Bool} {n0:Nat} {text:List Nat} {cm:Str} {s':Lt} {ws:List Str} (hr:∀ L:Lx,L.buf = text→L.cm = cm→Reads prog w b L ⟨0,some (S [32]),1⟩ ws s') {es:List Env} {fo:List (Addr × Obj)} (hf:Zkj es fo) (hw:ws.length≤sizeLine)
    (n t:Nat) (c:Code) (l:List (Option (Addr × Obj))) (bb:List (Option Bag)):Zq1 T2 prog (wb w b) n t (llFam (hz (wb w b)) n0 text cm s' ws es n t c l bb) :=
  ll_ok (hr _ rfl rfl) _ 0 0 [] (around2_foFr hf l 6) (by simp) (by simpa using hw) n t
theorem kind760 (w:World) (b:Bool):(Zxv (Zqf (wb w b)) 760).scope.kind = .function:=by cases b <;> kernel_rfl
theorem sp_ok {prog:Program} {w:World} {b:Bool} {text:List Nat} {s':Lt} {ws:List Str} (hr:∀ L:Lx,L.buf = text→L.cm = S []→Reads prog w b L ⟨0,some (S [32]),1⟩ ws s') (hw:ws.length≤sizeLine) (tt:Nat) (E1:Env) (h1:E1.scope.kind≠.module) (a1:Addr) (d1:Array DictEntry) (k1:Nat) (sl1:Array (Option Value)) (n t:Nat) :
    Zq1 T2 prog (wb w b) n t (spCon (hz (wb w b)) (Zqf (wb w b)) text tt s' ws E1 a1 d1 k1 sl1 n t) :=
  Zjk (ex:=exF 0) (Zqx (llFam_ok (es:=[fnEnv (Zqf (wb w b)) 760 759 "split.<locals>." n,fe E1 a1]) hr (.two (fnEnv (Zqf (wb w b)) 760 759 "split.<locals>." n) n #[] 0 #[] E1 a1 d1 k1 sl1 (by show (Zxv (Zqf (wb w b)) 760).scope.kind≠_; rw [kind760]; decide) h1) hw) Zqq) rfl rfl
    (SP_v prog w b text tt s' ws E1 a1 d1 k1 sl1 n t) fun f q hq=>nomatch hq
section
variable {prog:Program} {w:World} {b:Bool} {R:RO}
theorem get_map {α β:Type} (f:α→β) {l:List α} {i:Nat} {y:β} (h:(l.map f)[i]? = some y):∃ x,l[i]? = some x∧f x = y:=by
  rw [List.getElem?_map] at h
  cases q:l[i]? with
  | none=>rw [q] at h; cases h
  | some x=>rw [q] at h; cases h; exact ⟨x,rfl,rfl⟩
theorem jn_ok {ks:List (F6)} (hk:ks.length≤1000) (tk:Nat→Nat) (lst:Addr) (ep:Nat) (tb:Option Addr) (n t:Nat):Zq1 T2 prog (wb w b) n t (jnCon (wdV ks tk) (Zzh ks) lst ep tb):=by
  have hsz:1000≤sizeLine:=by decide +kernel
  have z:=join_ok (prog:=prog) (w:=w) (b:=b) (ws:=ks.map Zzc) (qs:=ks.map Zvw) (by rw [List.length_map,List.length_map]) (fun i wd q h1 h2=>by
    obtain ⟨k1,e1,rfl⟩:=get_map Zzc h1
    obtain ⟨k2,e2,rfl⟩:=get_map Zvw h2
    rw [e1] at e2
    cases e2
    exact qd_ok k1) (by rw [List.map_map]; exact joinOk_line ks hk) (by rw [List.length_map]; lia) tk lst ep tb n t
  unfold joinCon at z
  rw [List.map_map,List.map_map] at z
  have e:Txt.join " " (ks.map (S ∘ Zvw)) = S (Zzh ks):=txt_line ks
  rw [e] at z
  exact z
theorem kind804:(Zq4 (Zqf (wb w b))).scope.kind≠.module:=by
  have e:(Zq4 (Zqf (wb w b))).scope.kind = .function:=by cases b <;> kernel_rfl
  rw [e]
  exact fun h=>nomatch h
theorem spL_ok {ks:List (F6)} (hk:ks.length≤1000) (tt:Nat) (d1:Array DictEntry) (k1:Nat) (sl1:Array (Option Value)) (n t:Nat) :
    Zq1 T2 prog (wb w b) n t (spCon (hz (wb w b)) (Zqf (wb w b)) (Zzh ks) tt ⟨(Zzh ks).length,none,1⟩ (ks.map fun k=>S (Zzc k)) (Zq4 (Zqf (wb w b))) 806 d1 k1 sl1 n t):=by
  have hsz:1000≤sizeLine:=by decide +kernel
  refine sp_ok (fun L hb hc=>?_) (by rw [List.length_map]; lia) tt (Zq4 (Zqf (wb w b))) kind804 806 d1 k1 sl1 n t
  have hl:L.buf.length < 2 ^ 63:=by
    rw [hb]
    have:=lineQ_le ks
    lia
  have z:=(line_reads (prog:=prog) (w:=w) (b:=b) (L:=L) hl (.inr hc) ks 0 (by rw [hb]; rfl) (Nat.zero_le _)).reads
  have e:(lineWs 0 ks).map (fun p=>S (Zzc p.1)) = ks.map fun k=>S (Zzc k):=by
    have:=congrArg (List.map fun k=>S (Zzc k)) (lineWs_fst 0 ks)
    rw [List.map_map] at this
    exact this
  rw [e,hb] at z
  exact z
theorem lw3_ok {ks:List (F6)} (hk:ks.length≤1000) (ft:Nat→Nat) (cut:Int) (u:Nat) (sl:Array (Option Value)) (tk:Nat→Nat) (ep:Nat) (tb:Option Addr) (n t:Nat) :
    Zqn (T3 R) prog (wb w b) n t (lw3 (hz (wb w b)) (Zqd R (wb w b)) Zqm ft cut u sl ks tk ep tb n t):=by
  have hC:Zx1 (T3 R) prog (wb w b) (lw3Fams w b R ft cut u sl ks tk (Zzh ks) ⟨(Zzh ks).length,none,1⟩ tb) :=
    Zqx (fun n' t' c l bb=>(jn_ok hk tk _ _ _ _ _).up R) (Zqx (fun n' t' c l bb=>(spL_ok hk _ _ _ _ _ _).up R) Zqq)
  exact Zqw (ex:=lw3Ex) hC rfl rfl (LW3_v prog w b R ft cut u sl ks tk ep (Zzh ks) ⟨(Zzh ks).length,none,1⟩ tb n t) fun f q hq=>nomatch hq
end
noncomputable def callFn (e:Expr):Expr:=match e with
  | .Call f _ _ _=>f
  | _=>.Name "" default
noncomputable def callPos (e:Expr):Pos:=match e with
  | .Call _ _ _ p=>p
  | _=>default
noncomputable def nmId (e:Expr):Str:=match e with
  | .Name s _=>s
  | _=>S []
noncomputable def nmPos (e:Expr):Pos:=match e with
  | .Name _ p=>p
  | _=>default
theorem el_call1 {prog:Program} {w:World} {A:Around} {env:Env} {s:Shared} {top:Addr→Option Obj} {nm:Str} {p pos:Pos} {arg:Expr} {a:Addr} {fd:FuncData} {Q:Value→Shared→Prop} {E:Value→Shared→Prop}
    (hstar:backTo pos (starEach [arg] env) = [(false,eval arg env)]) (hn:readT top ⟨prog,w.params⟩ (Zq9 (.Name nm p) env) = some (.ref a)) (hd:((top a).bind isDef) = some fd) (hs:∀ a o,top a = some o→s.heap.get? a = some o)
    (h:wpAny (model prog w) A (eval arg env) (fun v s1=>(∀ a o,top a = some o→s1.heap.get? a = some o)∧codeAny (model prog w) A (.call (.ref a) ⟨[v],[]⟩) (fun r s'=>match r with | .ok (.ret v)=>Q v s' | .ok _=>False | .error e=>E e s') s1) E s) :
    wpAny (model prog w) A (eval (.Call (.Name nm p) [arg] [] pos) env) Q E s:=by
  obtain ⟨o,ho,hd'⟩:=Option.bind_eq_some_iff.mp hd
  obtain ⟨hdat,_,_⟩:=isDef_is hd'
  refine wpAny_Call_NameR ?_
  rw [← Zzx]
  refine Zk2 (top:=top) hs hn ?_
  rw [hstar]
  refine Calls.callWith_function (o:=o) (fd:=fd) ?_
  refine Calls.evalArgs_plain (Calls.spliced_cons (wpAny_mono h (fun v s1 q=>?_) fun _ _ q=>q))
  exact Calls.spliced_nil ⟨⟨q.1 _ _ ho,hdat⟩,wpAny_call q.2⟩
theorem pbV_wd:∀ (ks:List (F6)) (tp:Nat→Nat) (us:List (F6 × Lt)) (tk:Nat→Nat),∃ tk',pbV (pblT ks tp)++wsV (us.map fun p=>S (Zzc p.1)) tk = wdV (ks++us.map (·.1)) tk'
  | [],tp,us,tk=>⟨tk,by
    show wsV _ tk = wsV _ tk
    rw [List.nil_append,List.map_map]; rfl⟩
  | k::r,tp,us,tk=>by
    obtain ⟨tk',h⟩:=pbV_wd r (fun j=>tp (j + 1)) us tk
    exact ⟨fun j=>match j with | 0=>tp 0 | j + 1=>tk' j,congrArg (Value.str (S (Zzc k)) (tp 0)::·) h⟩
theorem wsV_snoc:∀ (l:List Str) (x:Str) (tk:Nat→Nat) (u:Nat),∃ tk',wsV l tk++[.str x u] = wsV (l++[x]) tk'
  | [],x,tk,u=>⟨fun _=>u,rfl⟩
  | y::r,x,tk,u=>by
    obtain ⟨tk',h⟩:=wsV_snoc r x (fun j=>tk (j + 1)) u
    exact ⟨fun j=>match j with | 0=>tk 0 | j + 1=>tk' j,congrArg (Value.str y (tk 0)::·) h⟩
section
variable {prog:Program} {w:World} {b:Bool} {R:RO}
theorem asg4_ok (loc:Addr) (o:Option (Nat × Addr)) (va n t:Nat):Zqn (T3 R) prog (wb w b) n t (Zvc (hz (wb w b)) Zqg (Zj8 (Zqd R (wb w b))) (Zxn (Zqd R (wb w b)) (Zj8 (Zqd R (wb w b))) loc []) "pile" loc (o.map fun p=>(p.1,.ref p.2)) (.ref va) n t):=by
  cases o with
  | none=>exact Zqs (ex:=fun _ _ l _=>exN fun _=>Zj2 l 0 0) Zqq rfl rfl 0 (fun _=>rfl) (A40_v prog w b R loc va n t) fun f q hq=>nomatch hq
  | some o=>exact Zqs (ex:=fun _ _ l _=>exN fun _=>Zj2 l 0 0) Zqq rfl rfl 0 (fun _=>rfl) (A41_v prog w b R loc o.1 o.2 va n t) fun f q hq=>nomatch hq
theorem kind804R:(Zq4 (Zqd R (wb w b))).scope.kind≠.module:=by rw [lawEnv_top]; exact kind804
theorem llFamL_ok {L:Lx} {s s':Lt} {ws:List Str} (hr:Reads prog w b L s ws s') (tk:Nat→Nat) (e1 e2:Int) {pbl:List (Str × Nat)} (hl:pbl.length < 21) (hw:pbl.length + ws.length≤sizeLine) (n t:Nat) (c:Code) (l:List (Option (Addr × Obj))) (bb:List (Option Bag)) :
    Zq1 (T3 R) prog (wb w b) n t (llFamL (hz (wb w b)) (Zqd R (wb w b)) L tk s s' e1 e2 pbl ws n t c l bb) :=
  (ll_ok (es:=[fe (Zq4 (Zqd R (wb w b))) 806]) hr tk e1 e2 pbl (around2_foFr (.one _ _ #[] 0 #[] kind804R) l 6) hl hw n t).up R
theorem cl4_ok {L:Lx} {s s':Lt} {ws:List Str} (hr:Reads prog w b L s ws s') (loc u:Nat) (tk:Nat→Nat) (e1 e2:Int) {pbl:List (Str × Nat)} (hl:pbl.length < 21) (hw:pbl.length + ws.length≤sizeLine) (d:Array DictEntry) (k:Nat) (sl:Array (Option Value)) (n t:Nat) :
    Zqn (T3 R) prog (wb w b) n t (cLst (hz (wb w b)) (Zqd R (wb w b)) Zq9 (Zkh (Zqp (Zj8 (Zqd R (wb w b)))) 0) (Zxn (Zqd R (wb w b)) (Zj8 (Zqd R (wb w b))) loc []) loc u L tk s s' e1 e2 pbl ws d k sl n t) :=
  Zqw (ex:=cLstEx) (Zqx (llFamL_ok hr tk e1 e2 hl hw) Zqq) rfl rfl (L4_v prog w b R loc u L tk s s' e1 e2 pbl ws d k sl n t) fun f q hq=>nomatch hq
theorem comp4:Zj8 (Zqd R (wb w b)) = .ListComp (Zqp (Zj8 (Zqd R (wb w b)))) [⟨Zq0 (Zj8 (Zqd R (wb w b))),Zjn (Zj8 (Zqd R (wb w b))),[],0⟩] (Zxw (Zj8 (Zqd R (wb w b)))) (Zjr (Zj8 (Zqd R (wb w b)))):=by cases b <;> kernel_rfl
theorem ctup4 (it v:Value):letOwnedTupleGo (Zq0 (Zj8 (Zqd R (wb w b)))) it v = pure ():=by cases b <;> kernel_rfl
theorem elt4:Zqp (Zj8 (Zqd R (wb w b))) = .Call (.Name (nmId (callFn (Zqp (Zj8 (Zqd R (wb w b)))))) (nmPos (callFn (Zqp (Zj8 (Zqd R (wb w b))))))) [Zkh (Zqp (Zj8 (Zqd R (wb w b)))) 0] [] (callPos (Zqp (Zj8 (Zqd R (wb w b))))):=by cases b <;> kernel_rfl
theorem star4 (env:Env):backTo (callPos (Zqp (Zj8 (Zqd R (wb w b))))) (starEach [Zkh (Zqp (Zj8 (Zqd R (wb w b)))) 0] env) = [(false,eval (Zkh (Zqp (Zj8 (Zqd R (wb w b)))) 0) env)]:=by cases b <;> kernel_rfl
theorem name4 (loc:Addr):readT (Zqd R (wb w b)) ⟨prog,(wb w b).params⟩ (Zq9 (.Name (nmId (callFn (Zqp (Zj8 (Zqd R (wb w b)))))) (nmPos (callFn (Zqp (Zj8 (Zqd R (wb w b))))))) (Zxn (Zqd R (wb w b)) (Zj8 (Zqd R (wb w b))) loc [])) = some (.ref 767):=by cases b <;> kernel_rfl
theorem d767R:((Zqd R (wb w b) 767).bind isDef) = some (Zxv (Zqd R (wb w b)) 767):=by cases b <;> kernel_rfl
noncomputable abbrev St4:=List Pd × Option (Nat × Addr) × Addr × Array (Option Value)
noncomputable def ob4 (w:Hs) (loc:Addr) (d:Array DictEntry) (k:Nat) (q:St4):List (Addr × Obj) :=
  (loc,xV w "pile" (q.2.1.map fun p=>(p.1,.ref p.2)))::(762,Zz8 775 20 (some q.2.2.1))::(806,frO d k q.2.2.2)::Zx6 w q.1
theorem drop_at {α:Type} {l:List α} {i:Nat} {x:α} (h:l[i]? = some x):l.drop i = x::l.drop (i + 1):=by
  obtain ⟨hi,e⟩:=List.getElem?_eq_some_iff.mp h
  rw [← e]
  exact List.drop_eq_getElem_cons hi
theorem el4_run {A:Around} (hA:AOk A (some [Zq4 (Zqd R (wb w b))]) 110) {h₀:Heap} (G:Ground (T3 R) (wb w b) h₀) {loc:Addr} {u:Nat} {q:Pd} (hok:Zk5 prog w b q.1) (hp:q.1.pbl.length < 21) (hw:q.1.cont.length≤1000) {d:Array DictEntry} {k:Nat} {sl:Array (Option Value)} {tb:Addr} {rest:List (Addr × Obj)} {h:Heap} {t:Nat} {g:Array GenState} {r:Zkc} {Q:Value→Shared→Prop} {E:Value→Shared→Prop}
    (O:Own h₀ ((loc,xV (hz (wb w b)) "pile" (some (u,.ref (q.2 0 0))))::(762,Zz8 775 20 (some tb))::(806,frO d k sl)::(pdO (hz (wb w b)) q++rest)) h)
    (hQ:∀ v tb' sl' h' t' g',Own h₀ ((loc,xV (hz (wb w b)) "pile" (some (u,.ref (q.2 0 0))))::(762,Zz8 775 20 (some tb'))::(806,frO d k sl')::rest) h'→h.objs.size≤h'.objs.size→t≤t'→Zq5 true g g'→Q (.str (S (Zzh q.1.cont)) v) (r.at h' ⟨t',g'⟩)) :
    wpAny (model prog (wb w b)) A (eval (Zqp (Zj8 (Zqd R (wb w b)))) (Zxn (Zqd R (wb w b)) (Zj8 (Zqd R (wb w b))) loc [])) Q E (r.at h ⟨t,g⟩):=by
  have hsz:1000≤sizeLine:=by decide +kernel
  have hcont:q.1.cont.length = q.1.pbl.length + q.1.ws.length:=by simp [PS.cont]
  have hpl:∀ (ks:List (F6)) (tp:Nat→Nat),(pblT ks tp).length = ks.length:=fun ks=>by
    induction ks with
    | nil=>exact fun _=>rfl
    | cons c r ih=>exact fun tp=>congrArg (· + 1) (ih _)
  rw [elt4]
  refine el_call1 (top:=Zqd R (wb w b)) (star4 _) (name4 loc) d767R (fun a o e=>O.keep _ _ (G.top a o e)) ?_
  have hrd:=(hok (pdL q) rfl rfl).reads
  have e1:∀ n1 t1,(cLst (hz (wb w b)) (Zqd R (wb w b)) Zq9 (Zkh (Zqp (Zj8 (Zqd R (wb w b)))) 0) (Zxn (Zqd R (wb w b)) (Zj8 (Zqd R (wb w b))) loc []) loc u (pdL q) (q.2 2) q.1.s q.1.se (Int.ofNat (q.2 0 6)) (Int.ofNat (q.2 0 7)) (pblT q.1.pbl (q.2 3)) (q.1.ws.map fun p=>S (Zzc p.1)) d k sl n1 t1).tree = eval (Zkh (Zqp (Zj8 (Zqd R (wb w b)))) 0) (Zxn (Zqd R (wb w b)) (Zj8 (Zqd R (wb w b))) loc []):=fun n1 t1=>by
    unfold cLst; dsimp only; rw [Zzx]
  rw [← e1 h.objs.size t]
  refine (cl4_ok hrd loc u (q.2 2) _ _ (by rw [hpl]; exact hp) (by rw [hpl,List.length_map]; lia) d k sl h.objs.size t).use (rest:=(762,Zz8 775 20 (some tb))::rest) G (hA.le (by show 90≤110; lia)) O (by
    show List.Perm _ (((loc,xV (hz (wb w b)) "pile" (some (u,.ref (q.2 0 0))))::(pdO (hz (wb w b)) q++[(806,frO d k sl)])++Zqr [])++_)
    generalize pdO (hz (wb w b)) q = lp
    simp only [Zqr]
    (refine Zqv fun _=>?_; simp +arith only [Zqj,Zqk,Zqc])) rfl fun x h1 g1 O1 hs1 gr1=>?_
  refine ⟨fun a o e=>O1.keep _ _ (G.top a o e),?_⟩
  obtain ⟨tk',hwd⟩:=pbV_wd q.1.pbl (q.2 3) q.1.ws (x.seq 0 0)
  have O1:Own h₀ ((x.nat 2,Zqz (wdV q.1.cont tk') (x.nat 3))::(loc,xV (hz (wb w b)) "pile" (some (u,.ref (q.2 0 0))))::(806,frO d k (x.sl 0))::(762,Zz8 775 20 (some tb))::rest) h1:=by
    have e:pbV (pblT q.1.pbl (q.2 3))++wsV (q.1.ws.map fun p=>S (Zzc p.1)) (x.seq 0 0) = wdV q.1.cont tk':=hwd
    rw [← e]
    exact O1
  refine (((jn_ok hw tk' (x.nat 2) (x.nat 3) (some tb) h1.objs.size (t + x.nat 1)).up R).use (rest:=(loc,xV (hz (wb w b)) "pile" (some (u,.ref (q.2 0 0))))::(806,frO d k (x.sl 0))::rest) G (hA.bare (by show 60≤110; lia)) O1 (by
    simp only [Con.preA,jnCon,Zqr]
    (refine Zqv fun _=>?_; simp +arith only [Zqj,Zqk,Zqc])) rfl fun y h2 g2 O2 hs2 gr2=>?_)
  show Q (.str (S (Zzh q.1.cont)) (y.nat 2)) _
  refine hQ (y.nat 2) (y.nat 3) (x.sl 0) h2 _ g2 (Own.drop (r:=[(x.nat 2,Zqz (wdV q.1.cont tk') (x.nat 3))]) (O2.perm (by
    simp only [Con.postA,jnCon,Zqr]
    (refine Zqv fun _=>?_; simp +arith only [Zqj,Zqk,Zqc])))) (by lia) (by lia) (Zq5.trans (d:=true) gr1 gr2 fun e=>Bool.noConfusion e)
theorem refsO_get {l:List Pd} {i:Nat} {v:Value} (h:(Zz0 l)[i]? = some v):∃ q,l[i]? = some q∧v = .ref (q.2 0 0):=by
  unfold Zz0 at h
  obtain ⟨q,e,rfl⟩:=get_map _ h
  exact ⟨q,e,rfl⟩
theorem txts_snoc (l:List Pd) (i:Nat) (q:Pd) (h:l[i]? = some q):txtsOf ((l.take (i + 1)).map (·.1)) = txtsOf ((l.take i).map (·.1))++[S (Zzh q.1.cont)]:=by
  rw [Zz4 h]; simp [txtsOf]
theorem comp_none {α:Type} (o:Option α):(o.map fun _=>()) = o.map fun _=>():=rfl
theorem c4_ok {sts:List PS} {g0:Nat→Nat→Nat} (hok:∀ ps ∈ sts,Zk5 prog w b ps∧ps.pbl.length < 21∧ps.cont.length≤1000) (hlen:sts.length≤1000) {ne:Option (Nat × Value)} (hne:ne.isSome = true↔sts≠[]) (loc it lst acc el ea tb:Nat) (d:Array DictEntry) (k:Nat) (sl:Array (Option Value)) (n t:Nat) :
    Zq1 (T3 R) prog (wb w b) n t (c4Con (hz (wb w b)) (Zqd R (wb w b)) loc it lst acc sts g0 el ea tb d k sl ne n t):=by
  have hsz:1000≤sizeLine:=by decide +kernel
  refine ⟨fun h₀ h r g A Rz G hA O hn hR=>?_⟩
  have hA:AOk A (some [Zq4 (Zqd R (wb w b))]) 110:=hA
  have hl0:=zipD_fst sts (bagG g0)
  generalize hl:zipD sts (bagG g0) = l0 at hl0
  have O:Own h₀ ((it,Zx4 lst 0)::(acc,Zqz [] ea)::(ob4 (hz (wb w b)) loc d k (l0,none,tb,sl)++[(lst,Zqz (Zz0 l0) el)])) h:=O.perm (by
    subst hl
    show List.Perm ([(it,Zx4 lst 0),(lst,Zqz (Zz0 (zipD sts (bagG g0))) el),(acc,Zqz [] ea),(loc,xV (hz (wb w b)) "pile" none),(762,Zz8 775 20 (some tb)),(806,frO d k sl)]++(Zx6 (hz (wb w b)) (zipD sts (bagG g0))++[])) _
    unfold ob4
    generalize Zx6 (hz (wb w b)) (zipD sts (bagG g0)) = lp
    simp only [Option.map_none]
    (refine Zqv fun _=>?_; simp +arith only [Zqj,Zqk,Zqc]))
  have hmem:∀ q ∈ l0,Zk5 prog w b q.1∧q.1.pbl.length < 21∧q.1.cont.length≤1000:=fun q hq=>hok q.1 (by rw [← hl0]; exact List.mem_map_of_mem hq)
  have hl1:l0.length = sts.length:=by rw [← hl0,List.length_map]
  have hc:=comp4 (w:=w) (b:=b) (R:=R)
  have htup:=ctup4 (w:=w) (b:=b) (R:=R) (.ref it)
  have tA:∀ o va n t,(Zvc (hz (wb w b)) Zqg (Zj8 (Zqd R (wb w b))) (Zxn (Zqd R (wb w b)) (Zj8 (Zqd R (wb w b))) loc []) "pile" loc o (.ref va) n t).tree = assign (Zq0 (Zj8 (Zqd R (wb w b)))) (Zxn (Zqd R (wb w b)) (Zj8 (Zqd R (wb w b))) loc []) (.ref va):=fun o va n t=>by
    unfold Zvc; dsimp only; rw [Zxk]
  have tE:=fun {A:Around} hA {h₀:Heap} G {u:Nat} {q:Pd} hok hp hw {sl:Array (Option Value)} {tb:Addr} {rest:List (Addr × Obj)} {h:Heap} {t:Nat} {g:Array GenState} {r:Zkc} {Q:Value→Shared→Prop} {E:Value→Shared→Prop}=>el4_run (prog:=prog) (w:=w) (b:=b) (R:=R) (A:=A) hA (h₀:=h₀) G (loc:=loc) (u:=u) (q:=q) hok hp hw (d:=d) (k:=k) (sl:=sl) (tb:=tb) (rest:=rest) (h:=h) (t:=t) (g:=g) (r:=r) (Q:=Q) (E:=E)
  have tA1:=fun o va n t=>asg4_ok (prog:=prog) (w:=w) (b:=b) (R:=R) loc o va n t
  show codeAny _ A (.compStart (Zj8 (Zqd R (wb w b))) 0 (.ref it) (.ref acc) (Zxn (Zqd R (wb w b)) (Zj8 (Zqd R (wb w b))) loc [])) Rz _
  generalize Zxn (Zqd R (wb w b)) (Zj8 (Zqd R (wb w b))) loc [] = env at tA tE tA1
  have loop:codeAny (model prog (wb w b)) A (.compLoop (Zj8 (Zqd R (wb w b))) 0 (.ref it) (.ref acc) env) Rz (r.at h ⟨t,g⟩):=by
    rw [hc]
    refine Zvj (src_list (r:=r) (h₀:=h₀) (it:=it) (lst:=lst) (xs:=Zz0 l0) (ep:=el) hA.hand) htup (ob4 (hz (wb w b)) loc d k)
      (fun i q ys m=>q.1 = l0.drop i∧(∃ tk,ys = wsV (txtsOf ((l0.take i).map (·.1))) tk)∧(q.2.1.isSome = true↔i≠0)∧n≤m) (t₀:=t) (g₀:=g) (l:=[(lst,Zqz (Zz0 l0) el)]) (fun p hp=>by
        rw [List.mem_singleton.mp hp]; exact List.Mem.head _) (K:=l0.length) (by lia) (fun i q ys m hI hi=>?_) (fun i v q ys m fm hp t1 g1 Q hi hv hI O1 hs1 ht1 hg1 hQ=>?_) (fun q ys ea' m m' hp t1 g1 hI hsz O1 hs1 ht1 hg1=>?_) (oi:=Zx4 lst 0) (st:=(l0,none,tb,sl)) (ys:=[]) (ea:=ea) ⟨rfl,rfl⟩ ⟨rfl,⟨fun _=>0,rfl⟩,by simp,by lia⟩ O (Nat.le_refl _) (Zq5.refl _ _)
    · obtain ⟨-,⟨tk,rfl⟩,-,-⟩:=hI
      rw [Zvg,txtsOf,List.length_map,List.length_map,List.length_take]
      rw [Zzg] at hi
      lia
    · obtain ⟨lr,o,tb1,sl1⟩:=q
      obtain ⟨h1,⟨tk,rfl⟩,ho,hnm⟩:=hI
      have h1:lr = l0.drop i:=h1
      obtain ⟨q,hq,rfl⟩:=refsO_get hv
      rw [drop_at hq] at h1
      subst h1
      obtain ⟨m1,m2,m3⟩:=hmem q (List.mem_of_getElem? hq)
      refine Turn.plain ?_
      rw [← tA (o.map fun p=>(p.1,.ref p.2)) (q.2 0 0) m t1]
      refine (tA1 o (q.2 0 0) m t1).use (rest:=(762,Zz8 775 20 (some tb1))::(806,frO d k sl1)::(pdO (hz (wb w b)) q++(Zx6 (hz (wb w b)) (l0.drop (i + 1))++((lst,Zqz (Zz0 l0) el)::fm)))) G (hA.bare (by show 30≤110; lia)) O1 (by
        simp only [Zq2.preA,Zvc,Zqr,ob4]
        show List.Perm (((loc,xV (hz (wb w b)) "pile" (o.map fun p=>(p.1,.ref p.2)))::(762,Zz8 775 20 (some tb1))::(806,frO d k sl1)::(pdO (hz (wb w b)) q++Zx6 (hz (wb w b)) (l0.drop (i + 1))))++_) _
        generalize pdO (hz (wb w b)) q = la
        generalize Zx6 (hz (wb w b)) (l0.drop (i + 1)) = lb
        (refine Zqv fun _=>?_; simp +arith only [Zqj,Zqk,Zqc])) hs1 fun x1 h2 g2 O2 hs2 gr2=>?_
      show wpAny _ A (eval (Zqp (Zj8 (Zqd R (wb w b)))) env) _ _ _
      refine tE hA G m1 m2 m3 O2 fun v tb' sl' h3 t3 g3 O3 hs3 ht3 gr3=>?_
      obtain ⟨tk',htk⟩:=wsV_snoc (txtsOf ((l0.take i).map (·.1))) (S (Zzh q.1.cont)) tk v
      refine hQ (some (.str (S (Zzh q.1.cont)) v)) (l0.drop (i + 1),some (x1.nat 2,q.2 0 0),tb',sl') _ h3 _ g3 ⟨rfl,⟨tk',?_⟩,by simp,by rw [hs2] at hs3; have:(Zvc (hz (wb w b)) Zqg (Zj8 (Zqd R (wb w b))) env "pile" loc (o.map fun p=>(p.1,.ref p.2)) (.ref (q.2 0 0)) m t1).made x1 = 0:=rfl; lia⟩ (O3.perm (by
        show List.Perm _ (((loc,xV (hz (wb w b)) "pile" (some (x1.nat 2,.ref (q.2 0 0))))::(762,Zz8 775 20 (some tb'))::(806,frO d k sl')::Zx6 (hz (wb w b)) (l0.drop (i + 1)))++_)
        generalize Zx6 (hz (wb w b)) (l0.drop (i + 1)) = lb
        (refine Zqv fun _=>?_; simp +arith only [Zqj,Zqk,Zqc]))) rfl (by lia) (Zq5.trans (d:=true) gr2 gr3 fun e=>Bool.noConfusion e)
      rw [txts_snoc l0 i q hq]
      exact htk
    · obtain ⟨lr,o,tb1,sl1⟩:=q
      obtain ⟨h1,⟨tk,rfl⟩,ho,hnm⟩:=hI
      rw [Zzg,List.take_length,hl0] at O1
      have ho:o.isSome = true↔l0.length≠0:=by rw [Zzg] at ho; exact ho
      have he:xV (hz (wb w b)) "pile" (o.map fun p=>(p.1,.ref p.2)) = lastL (hz (wb w b)) "pile" ne ⟨fun j=>match j with | 0=>m' - n | 1=>t1 - t | 2=>ea' | 3=>tb1 | 4=>(o.map (·.1)).getD 0 | _=>(o.map (·.2)).getD 0,fun _=>sl1,fun _ _=>tk,Ext.nil.ob⟩:=by
        cases ne with
        | none =>
          have:sts = []:=by
            cases sts with
            | nil=>rfl
            | cons a r=>exact absurd (hne.mpr (by simp)) (by simp)
          have hz0:l0.length = 0:=by rw [hl1,this]; rfl
          cases o with
          | none=>rfl
          | some _=>exact absurd hz0 (ho.mp rfl)
        | some a =>
          have h2:sts≠[]:=hne.mp rfl
          have hz0:l0.length≠0:=by rw [hl1]; exact fun e=>h2 (List.length_eq_zero_iff.mp e)
          cases o with
          | none=>exact absurd (ho.mpr hz0) (by simp)
          | some _=>rfl
      have fin:=hR ⟨fun j=>match j with | 0=>m' - n | 1=>t1 - t | 2=>ea' | 3=>tb1 | 4=>(o.map (·.1)).getD 0 | _=>(o.map (·.2)).getD 0,fun _=>sl1,fun _ _=>tk,Ext.nil.ob⟩ hp g1 (Own.drop (r:=Zx6 (hz (wb w b)) lr++[(lst,Zqz (Zz0 l0) el)]) (O1.perm (by
        simp only [Con.postA,c4Con,Zqr]
        rw [← he]
        unfold ob4
        dsimp only
        generalize Zx6 (hz (wb w b)) lr = lb
        (refine Zqv fun _=>?_; simp +arith only [Zqj,Zqk,Zqc])))) ?_ hg1
      · have et:t + (t1 - t) = t1:=by lia
        change Rz (.ok .next) (r.at hp ⟨t + (t1 - t),g1⟩) at fin
        rw [et] at fin
        exact fin
      · show hp.objs.size = n + (m' - n)
        lia
  rw [hc] at loop ⊢
  exact codeAny_compStart_list loop (wpAny_pyIter_listiter (s:=r.at h ⟨t,g⟩) (i:=0) ⟨_,O.own (it,_) (.head _),rfl,rfl⟩ loop)
end
section
variable {prog:Program} {w:World} {b:Bool} {R:RO}
theorem wdV_take:∀ (c:Nat) (ks:List (F6)) (tk:Nat→Nat),(wdV ks tk).take c = wdV (ks.take c) tk
  | 0,_,_=>rfl
  | _ + 1,[],_=>rfl
  | c + 1,k::r,tk=>congrArg (Value.str (S (Zzc k)) (tk 0)::·) (wdV_take c r fun j=>tk (j + 1))
theorem wdV_drop:∀ (c:Nat) (ks:List (F6)) (tk:Nat→Nat),(wdV ks tk).drop c = wdV (ks.drop c) (fun j=>tk (j + c))
  | 0,_,_=>rfl
  | _ + 1,[],_=>rfl
  | c + 1,k::r,tk=>wdV_drop c r fun j=>tk (j + 1)
theorem slFamT_ok {la:Addr} {ks:List (F6)} {tk:Nat→Nat} (hks:ks.length≤1000) (c:Nat) (n t:Nat) (cd:Code) (l:List (Option (Addr × Obj))) (bb:List (Option Bag)):Zq1 (T3 R) prog (wb w b) n t (slFamT la ks tk (Int.ofNat c) c n t cd l bb):=by
  have hsz:1000≤sizeLine:=by decide +kernel
  have z:=sl_ok (T:=T3 R) (prog:=prog) (w:=wb w b) (lst:=la) (sl:=Zx0 (Zx7 cd 1)) (xs:=wdV ks tk) (ep:=Zj6 (Zzf l 0)) (lo:=none) (hi:=some (Int.ofNat c)) (vl:=.none) (vu:=.int (Int.ofNat c) (match Zzf l 1 with | ⟨_,_,.fields f,_⟩=>Zvt (nthV f.toList 1) | _=>0)) .none (.int _ _) (by rw [Zzk]; lia) n t
  have e:(slicePick ⟨wdV ks tk⟩ none (some (Int.ofNat c)) none).toList = wdV (ks.take c) tk:=(slicePick_take (wdV ks tk) c).trans (wdV_take c ks tk)
  unfold slCon at z
  rw [e] at z
  exact z
theorem redFamN_ok (hsm:R.small) {ks:List (F6)} {sts:List PS} {m:Nat} (hgd:Good prog w b sts m) (hm:m + ks.length≤20) (tk:Nat→Nat) (n t:Nat) (cd:Code) (l:List (Option (Addr × Obj))) (bb:List (Option Bag)):Zq1 (T3 R) prog (wb w b) n t (redFamN (hz (wb w b)) ks sts (deals R.rk ks sts) tk n t cd l bb):=by
  unfold redFamN
  cases e:Nat.ble 53 (Zx0 (Zx7 cd 2)) with
  | true=>exact red_ok hsm hgd hm tk _ _ _ _ (Nat.le_of_ble_eq_true e) _ _ n t
  | false=>exact ⟨fun h₀ h r g A R G hA O hs hR=>by
      have:=O.nodup
      simp [Con.preA,badCon,Zqr] at this⟩
theorem Good.pile4 {sts:List PS} {m:Nat} (h:Good prog w b sts m) (hm:m≤20):∀ ps ∈ sts,Zk5 prog w b ps∧ps.pbl.length < 21∧ps.cont.length≤1000:=fun ps hp=>by
  obtain ⟨h1,h2,h3⟩:=h.pile ps hp
  have:ps.cont.length = ps.pbl.length + ps.ws.length:=by simp [PS.cont]
  exact ⟨h1,by lia,by lia⟩
theorem good_nil:Good prog w b [] 0:=⟨(fun ps h=>nomatch h),Nat.le_refl _⟩
theorem lw4_ok (hsm:R.small) {ks:List (F6)} (hks:ks.length≤20) (c:Nat) (ft:Nat→Nat) (u:Nat) (la:Addr) (sl:Array (Option Value)) (tk:Nat→Nat) (ep tb:Nat) (g0:Nat→Nat→Nat) (n t:Nat) :
    Zqn (T3 R) prog (wb w b) (n + 918) t (lw4 (hz (wb w b)) (Zqd R (wb w b)) Zqm ft (Int.ofNat c) u la sl ks tk ep tb (deals R.rk (ks.take c) []) g0 (n + 918) t):=by
  have hkc:(ks.take c).length≤20:=by rw [List.length_take]; lia
  have hgd:Good prog w b (deals R.rk (ks.take c) []) (ks.take c).length:=by
    have:=Good.deals (r:=R.rk) (ks.take c) (good_nil (prog:=prog) (w:=w) (b:=b))
    rwa [Nat.zero_add] at this
  have hC:∀ ne:Option (Nat × Value),(ne.isSome = true↔deals R.rk (ks.take c) []≠[])→Zx1 (T3 R) prog (wb w b) (lw4Fams w b R (Int.ofNat c) c la ks tk (deals R.rk (ks.take c) []) ne):=fun ne hne =>
    Zqx (slFamT_ok (by lia) c) (Zqx (redFamN_ok hsm good_nil (by rw [Nat.zero_add]; exact hkc) tk) (Zqx (fun n' t' cd l bb=>c4_ok (hgd.pile4 hkc) (by have:=hgd.len; lia) hne _ _ _ _ _ _ _ _ _ _ n' t') Zqq))
  by_cases h0:deals R.rk (ks.take c) [] = []
  · exact Zqw (ex:=lw4Ex 2) (hC none ⟨fun e=>(by cases e),fun e=>absurd h0 e⟩) rfl rfl (LW40_v prog w b R ft (Int.ofNat c) c u la sl ks tk ep tb _ g0 n t) fun f q hq=>nomatch hq
  · exact Zqw (ex:=lw4Ex 2) (hC (some (0,.none)) ⟨fun _=>h0,fun _=>rfl⟩) rfl rfl (LW41_v prog w b R ft (Int.ofNat c) c u la sl ks tk ep tb _ g0 n t) fun f q hq=>nomatch hq
end
section
variable {prog:Program} {w:World} {b:Bool} {R:RO}
theorem comp5:e5 R w b = .ListComp (Zqp (e5 R w b)) [⟨Zq0 (e5 R w b),Zjn (e5 R w b),[],0⟩] (Zxw (e5 R w b)) (Zjr (e5 R w b)):=by cases b <;> kernel_rfl
theorem ctup5 (it v:Value):letOwnedTupleGo (Zq0 (e5 R w b)) it v = pure ():=by cases b <;> kernel_rfl
noncomputable def o5V (o:Option (Nat × List Nat × Nat)):Option (Nat × Value):=o.map fun p=>(p.1,.str (S p.2.1) p.2.2)
theorem asg5_ok (loc:Addr) (o:Option (Nat × List Nat × Nat)) (W:List Nat) (tt n t:Nat):Zqn (T3 R) prog (wb w b) n t (Zvc (hz (wb w b)) Zqg (e5 R w b) (v5 R w b loc) "text" loc (o5V o) (.str (S W) tt) n t):=by
  cases o with
  | none=>exact Zqs (ex:=fun _ _ l _=>exN fun _=>Zj2 l 0 0) Zqq rfl rfl 0 (fun _=>rfl) (A50_v prog w b R loc W tt n t) fun f q hq=>nomatch hq
  | some o=>exact Zqs (ex:=fun _ _ l _=>exN fun _=>Zj2 l 0 0) Zqq rfl rfl 0 (fun _=>rfl) (A51_v prog w b R loc o.1 o.2.1 o.2.2 W tt n t) fun f q hq=>nomatch hq
theorem pil5_ok (loc u:Nat) (W:List Nat) (tt n t:Nat):Zqn (T3 R) prog (wb w b) n t (cPil (hz (wb w b)) Zq9 (Zqp (e5 R w b)) (v5 R w b loc) loc u W tt n t) :=
  Zqw (ex:=cPilEx) (Zqx (fun n' t' c l bb=>(pile_ok W _ n' t').up R) Zqq) rfl rfl (P5_v prog w b R loc u W tt n t) fun f q hq=>nomatch hq
noncomputable abbrev St5:=List Pd × Option (Nat × List Nat × Nat)
noncomputable def ob5 (w:Hs) (loc:Addr) (q:St5):List (Addr × Obj):=(loc,xV w "text" (o5V q.2))::Zx6 w q.1
theorem lnPS_ok (c:List (F6)) (hc:c.length≤1000):Zk5 prog w b (lnPS c):=by
  intro L h1 h2
  have hb:L.buf = Zzh c:=h1
  have hl:L.buf.length < 2 ^ 63:=by
    rw [hb]
    have:=lineQ_le c
    lia
  have z:=line_reads (prog:=prog) (w:=w) (b:=b) (L:=L) hl (.inl h2) c 0 (by rw [hb]; rfl) (Nat.zero_le _)
  rw [hb] at z
  exact z
theorem lnPS_cont (c:List (F6)):(lnPS c).cont = c:=lineWs_fst 0 c
theorem wsV_map_get (cs:List (List (F6))) (tl:Nat→Nat) (i:Nat) (v:Value) (h:(wsV (cs.map fun c=>S (Zzh c)) tl)[i]? = some v):∃ c,cs[i]? = some c∧v = .str (S (Zzh c)) (tl i):=by
  have e:cs.map (fun c=>S (Zzh c)) = (cs.map Zzh).map S:=by rw [List.map_map]; rfl
  rw [e] at h
  obtain ⟨wd,h1,h2⟩:=wsV_get _ tl i v h
  obtain ⟨c,h3,rfl⟩:=get_map Zzh h1
  exact ⟨c,h3,h2⟩
theorem c5_ok {cs:List (List (F6))} (hlen:cs.length≤1000) {ne:Option (List Nat)} (hne:ne = (cs.map Zzh).getLast?) (loc it lst acc:Nat) (tl:Nat→Nat) (el ea n t:Nat) :
    Zq1 (T3 R) prog (wb w b) n t (c5Con (hz (wb w b)) (Zqd R (wb w b)) loc it lst acc cs tl el ea ne n t):=by
  have hsz:1000≤sizeLine:=by decide +kernel
  refine ⟨fun h₀ h r g A Rz G hA O hn hR=>?_⟩
  have hA:AOk A none 60:=hA
  have O:Own h₀ ((it,Zx4 lst 0)::(acc,Zqz [] ea)::(ob5 (hz (wb w b)) loc ([],none)++[(lst,Zqz (wsV (cs.map fun c=>S (Zzh c)) tl) el)])) h:=O.perm (by
    show List.Perm ([(it,Zx4 lst 0),(lst,Zqz (wsV (cs.map fun c=>S (Zzh c)) tl) el),(acc,Zqz [] ea),(loc,xV (hz (wb w b)) "text" none)]++[]) ((it,Zx4 lst 0)::(acc,Zqz [] ea)::([(loc,xV (hz (wb w b)) "text" none)]++[(lst,Zqz (wsV (cs.map fun c=>S (Zzh c)) tl) el)]))
    (refine Zqv fun _=>?_; simp +arith only [Zqj,Zqk,Zqc]))
  have hc:=comp5 (w:=w) (b:=b) (R:=R)
  have htup:=ctup5 (w:=w) (b:=b) (R:=R) (.ref it)
  have tA:∀ o W tt n t,(Zvc (hz (wb w b)) Zqg (e5 R w b) (v5 R w b loc) "text" loc o (.str (S W) tt) n t).tree = assign (Zq0 (e5 R w b)) (v5 R w b loc) (.str (S W) tt):=fun o W tt n t=>by
    unfold Zvc; dsimp only; rw [Zxk]
  have tE:∀ u W tt n t,(cPil (hz (wb w b)) Zq9 (Zqp (e5 R w b)) (v5 R w b loc) loc u W tt n t).tree = eval (Zqp (e5 R w b)) (v5 R w b loc):=fun u W tt n t=>by
    unfold cPil; dsimp only; rw [Zzx]
  have tA1:=fun o W tt n t=>asg5_ok (prog:=prog) (w:=w) (b:=b) (R:=R) loc o W tt n t
  have tE1:=fun u W tt n t=>pil5_ok (prog:=prog) (w:=w) (b:=b) (R:=R) loc u W tt n t
  show codeAny _ A (.compStart (e5 R w b) 0 (.ref it) (.ref acc) (v5 R w b loc)) Rz _
  generalize v5 R w b loc = env at tA tE tA1 tE1
  generalize e5 R w b = e at hc htup tA tE tA1 tE1
  have loop:codeAny (model prog (wb w b)) A (.compLoop e 0 (.ref it) (.ref acc) env) Rz (r.at h ⟨t,g⟩):=by
    rw [hc]
    refine Zvj (src_list (r:=r) (h₀:=h₀) (it:=it) (lst:=lst) (xs:=wsV (cs.map fun c=>S (Zzh c)) tl) (ep:=el) hA.hand) htup (ob5 (hz (wb w b)) loc)
      (fun i q ys m=>q.1.map (·.1) = (cs.take i).map lnPS∧ys = Zz0 q.1∧(q.2.map (·.2.1)) = ((cs.take i).map Zzh).getLast?∧n≤m) (t₀:=t) (g₀:=g) (l:=[(lst,Zqz (wsV (cs.map fun c=>S (Zzh c)) tl) el)]) (fun p hp=>by
        rw [List.mem_singleton.mp hp]; exact List.Mem.head _) (K:=cs.length) (by lia) (fun i q ys m hI hi=>?_) (fun i v q ys m fm hp t1 g1 Q hi hv hI O1 hs1 ht1 hg1 hQ=>?_) (fun q ys ea' m m' hp t1 g1 hI hsz O1 hs1 ht1 hg1=>?_) (oi:=Zx4 lst 0) (st:=([],none)) (ys:=[]) (ea:=ea) ⟨rfl,rfl⟩ ⟨rfl,rfl,rfl,by lia⟩ O (Nat.le_refl _) (Zq5.refl _ _)
    · obtain ⟨h1,rfl,-,-⟩:=hI
      have:=congrArg List.length h1
      rw [List.length_map,List.length_map,List.length_take] at this
      rw [Zvg,List.length_map] at hi
      rw [Zzg]
      lia
    · obtain ⟨ld,o⟩:=q
      obtain ⟨h1,rfl,ho,hnm⟩:=hI
      obtain ⟨c,hq,rfl⟩:=wsV_map_get cs tl i v hv
      refine Turn.plain ?_
      rw [← tA (o5V o) (Zzh c) (tl i) m t1]
      refine (tA1 o (Zzh c) (tl i) m t1).use (rest:=Zx6 (hz (wb w b)) ld++((lst,Zqz (wsV (cs.map fun c=>S (Zzh c)) tl) el)::fm)) G (hA.bare (by show 30≤60; lia)) O1 (by
        simp only [Zq2.preA,Zvc,Zqr,ob5]
        generalize Zx6 (hz (wb w b)) ld = la
        (refine Zqv fun _=>?_; simp +arith only [Zqj,Zqk,Zqc])) hs1 fun x1 h2 g2 O2 hs2 gr2=>?_
      show wpAny _ A (eval (Zqp e) env) _ _ _
      have hs2:h2.objs.size = m + 0:=hs2
      rw [← tE (x1.nat 2) (Zzh c) (tl i) m (t1 + x1.nat 1)]
      refine (tE1 (x1.nat 2) (Zzh c) (tl i) m (t1 + x1.nat 1)).use (rest:=Zx6 (hz (wb w b)) ld++((lst,Zqz (wsV (cs.map fun c=>S (Zzh c)) tl) el)::fm)) G (hA.bare (by show 50≤60; lia)) O2 (.refl _) hs2 fun z h3 g3 O3 hs3 gr3=>?_
      have hL:(newL (z.nat 7) (z.seq 0 0 0) (z.seq 0 0 1) (z.seq 0 0 2) (z.seq 0 0 3) (z.seq 0 0 4) z (Zzh c) "#").buf = (lnPS c).buf:=rfl
      have ep1:pdO (hz (wb w b)) (lnPS c,dynOf (newL (z.nat 7) (z.seq 0 0 0) (z.seq 0 0 1) (z.seq 0 0 2) (z.seq 0 0 3) (z.seq 0 0 4) z (Zzh c) "#") z.tk (fun _=>0) 0 0) = freshL (hz (wb w b)) (newL (z.nat 7) (z.seq 0 0 0) (z.seq 0 0 1) (z.seq 0 0 2) (z.seq 0 0 3) (z.seq 0 0 4) z (Zzh c) "#") z:=pdO_dyn hL rfl _ _ _ _
      have hs3:h3.objs.size = m + z.nat 0:=hs3
      refine hQ (some (.ref (z.nat 7))) (ld++[(lnPS c,dynOf (newL (z.nat 7) (z.seq 0 0 0) (z.seq 0 0 1) (z.seq 0 0 2) (z.seq 0 0 3) (z.seq 0 0 4) z (Zzh c) "#") z.tk (fun _=>0) 0 0)],some (x1.nat 2,Zzh c,tl i)) _ h3 _ g3 ⟨?_,?_,?_,by lia⟩ (O3.perm ?_) hs3 (by lia) (Zq5.trans (d:=true) gr2 gr3 fun e=>Bool.noConfusion e)
      · rw [List.map_append,h1,Zz4 hq,List.map_append]; rfl
      · rw [Zkb]; rfl
      · rw [Zz4 hq,List.map_append]; simp
      · show List.Perm _ (((loc,xV (hz (wb w b)) "text" (some (x1.nat 2,.str (S (Zzh c)) (tl i))))::Zx6 (hz (wb w b)) (ld++[(lnPS c,dynOf (newL (z.nat 7) (z.seq 0 0 0) (z.seq 0 0 1) (z.seq 0 0 2) (z.seq 0 0 3) (z.seq 0 0 4) z (Zzh c) "#") z.tk (fun _=>0) 0 0)]))++_)
        have eo:Zx6 (hz (wb w b)) [(lnPS c,dynOf (newL (z.nat 7) (z.seq 0 0 0) (z.seq 0 0 1) (z.seq 0 0 2) (z.seq 0 0 3) (z.seq 0 0 4) z (Zzh c) "#") z.tk (fun _=>0) 0 0)] = pdO (hz (wb w b)) (lnPS c,dynOf (newL (z.nat 7) (z.seq 0 0 0) (z.seq 0 0 1) (z.seq 0 0 2) (z.seq 0 0 3) (z.seq 0 0 4) z (Zzh c) "#") z.tk (fun _=>0) 0 0)++[]:=List.flatMap_cons
        rw [Zv5,eo,ep1]
        simp only [Zq2.postA,cPil,Zqr]
        generalize Zx6 (hz (wb w b)) ld = la
        generalize freshL (hz (wb w b)) (newL (z.nat 7) (z.seq 0 0 0) (z.seq 0 0 1) (z.seq 0 0 2) (z.seq 0 0 3) (z.seq 0 0 4) z (Zzh c) "#") z = lb
        (refine Zqv fun _=>?_; simp +arith only [Zqj,Zqk,Zqc])
    · obtain ⟨ld,o⟩:=q
      obtain ⟨h1,rfl,ho,hnm⟩:=hI
      rw [Zvg,List.length_map,List.take_length] at h1 ho
      rw [← hne] at ho
      obtain ⟨g1',e1,e2⟩:=bag_ex (hz (wb w b)) ld
      rw [h1] at e1 e2
      have he:xV (hz (wb w b)) "text" (o5V o) = lastT (hz (wb w b)) "text" ne ⟨fun j=>match j with | 0=>m' - n | 1=>t1 - t | 2=>ea' | 3=>0 | 4=>(o.map (·.1)).getD 0 | _=>(o.map (·.2.2)).getD 0,fun _=>#[],fun _=>g1',Ext.nil.ob⟩:=by
        rw [← ho]
        cases o with
        | none=>rfl
        | some _=>rfl
      have fin:=hR ⟨fun j=>match j with | 0=>m' - n | 1=>t1 - t | 2=>ea' | 3=>0 | 4=>(o.map (·.1)).getD 0 | _=>(o.map (·.2.2)).getD 0,fun _=>#[],fun _=>g1',Ext.nil.ob⟩ hp g1 (O1.perm (by
        simp only [Con.postA,c5Con,Zqr,Zz6]
        rw [← he,e1,e2]
        unfold ob5
        dsimp only
        generalize Zx6 (hz (wb w b)) ld = lb
        (refine Zqv fun _=>?_; simp +arith only [Zqj,Zqk,Zqc]))) (by show hp.objs.size = n + (m' - n); lia) hg1
      have et:t + (t1 - t) = t1:=by lia
      change Rz (.ok .next) (r.at hp ⟨t + (t1 - t),g1⟩) at fin
      rw [et] at fin
      exact fin
  rw [hc] at loop ⊢
  exact codeAny_compStart_list loop (wpAny_pyIter_listiter (s:=r.at h ⟨t,g⟩) (i:=0) ⟨_,O.own (it,_) (.head _),rfl,rfl⟩ loop)
theorem slFamD_ok {la:Addr} {ks:List (F6)} {tk:Nat→Nat} (hks:ks.length≤1000) (c:Nat) (n t:Nat) (cd:Code) (l:List (Option (Addr × Obj))) (bb:List (Option Bag)):Zq1 (T3 R) prog (wb w b) n t (slFamD la ks tk (Int.ofNat c) c n t cd l bb):=by
  have hsz:1000≤sizeLine:=by decide +kernel
  have z:=sl_ok (T:=T3 R) (prog:=prog) (w:=wb w b) (lst:=la) (sl:=Zx0 (Zx7 cd 1)) (xs:=wdV ks tk) (ep:=Zj6 (Zzf l 0)) (lo:=some (Int.ofNat c)) (hi:=none) (vl:=.int (Int.ofNat c) (match Zzf l 1 with | ⟨_,_,.fields f,_⟩=>Zvt (nthV f.toList 0) | _=>0)) (vu:=.none) (.int _ _) .none (by rw [Zzk]; lia) n t
  have e:(slicePick ⟨wdV ks tk⟩ (some (Int.ofNat c)) none none).toList = wdV (ks.drop c) (fun j=>tk (j + c)):=(slicePick_drop (wdV ks tk) c).trans (wdV_drop c ks tk)
  unfold slCon at z
  rw [e] at z
  exact z
theorem lnPS_good {cs:List (List (F6))} {m:Nat} (h:∀ c ∈ cs,c≠[]∧c.length≤m) (hl:cs.length≤m) (hm:m≤1000):Good prog w b (cs.map lnPS) m:=by
  refine ⟨fun ps hp=>?_,by rw [List.length_map]; exact hl⟩
  obtain ⟨c,hc,rfl⟩:=List.mem_map.mp hp
  rw [lnPS_cont]
  exact ⟨lnPS_ok c (by have:=(h c hc).2; lia),h c hc⟩
theorem lw5_ok (hsm:R.small) {ks:List (F6)} (hks:ks.length≤20) (c:Nat) (hc:c≤ks.length) {cs:List (List (F6))} (hcs:∀ x ∈ cs,x≠[]∧x.length≤c) (hcl:cs.length≤c) (ft:Nat→Nat) (u:Nat) (la ls:Addr) (sl:Array (Option Value)) (tk:Nat→Nat) (ep:Nat) (tl:Nat→Nat) (el tb:Nat) (n t:Nat) :
    Zqn (T3 R) prog (wb w b) (n + 918) t (lw5 (hz (wb w b)) (Zqd R (wb w b)) Zqm ft (Int.ofNat c) u la ls sl ks tk ep cs tl el tb (deals R.rk (ks.drop c) (cs.map lnPS)) (n + 918) t):=by
  have hkc:c + (ks.drop c).length≤20:=by rw [List.length_drop]; lia
  have hgd:Good prog w b (cs.map lnPS) c:=lnPS_good hcs hcl (by lia)
  have hC:∀ ne:Option (List Nat),ne = (cs.map Zzh).getLast?→Zx1 (T3 R) prog (wb w b) (lw5Fams w b R (Int.ofNat c) c la ls ks tk cs tl (deals R.rk (ks.drop c) (cs.map lnPS)) ne):=fun ne hne =>
    Zqx (slFamD_ok (by lia) c) (Zqx (redFamN_ok hsm hgd hkc (fun j=>tk (j + c))) (Zqx (fun n' t' cd l bb=>c5_ok (by lia) hne _ _ _ _ _ _ _ n' t') Zqq))
  cases e:(cs.map Zzh).getLast? with
  | none=>exact Zqw (ex:=lw5Ex 2) (hC none e.symm) rfl rfl (LW50_v prog w b R ft (Int.ofNat c) c u la ls sl ks tk ep cs tl el tb _ n t) fun f q hq=>nomatch hq
  | some W=>exact Zqw (ex:=lw5Ex 2) (hC (some W) e.symm) rfl rfl (LW51_v prog w b R ft (Int.ofNat c) c u la ls sl ks tk ep cs tl el tb _ W n t) fun f q hq=>nomatch hq
end
noncomputable abbrev Ld:=List (F6) × (Nat→Nat)
noncomputable def ldO (q:Ld):Addr × Obj:=(q.2 0,Zqz (wdV q.1 fun k=>q.2 (k + 2)) (q.2 1))
noncomputable def ldsO (l:List Ld):List (Addr × Obj):=l.map ldO
noncomputable def ldsR (l:List Ld):List Value:=l.map fun q=>.ref (q.2 0)
theorem lsts_ex:∀ l:List Ld,∃ g,Zz5 (l.map (·.1)) g = ldsO l∧Zxx (l.map (·.1)) g = ldsR l
  | []=>⟨fun _ _=>0,rfl,rfl⟩
  | q::l=>by
    obtain ⟨g,h1,h2⟩:=lsts_ex l
    exact ⟨fun j=>match j with | 0=>q.2 | j + 1=>g j,congrArg (ldO q::·) h1,congrArg (Value.ref (q.2 0)::·) h2⟩
section
variable {prog:Program} {w:World} {b:Bool} {R:RO}
theorem comp6:e6 R w b = .ListComp (Zqp (e6 R w b)) [⟨Zq0 (e6 R w b),Zjn (e6 R w b),[],0⟩] (Zxw (e6 R w b)) (Zjr (e6 R w b)):=by cases b <;> kernel_rfl
theorem ctup6 (it v:Value):letOwnedTupleGo (Zq0 (e6 R w b)) it v = pure ():=by cases b <;> kernel_rfl
theorem asg6_ok (loc:Addr) (o:Option (Nat × Addr)) (va n t:Nat):Zqn (T3 R) prog (wb w b) n t (Zvc (hz (wb w b)) Zqg (e6 R w b) (v6 R w b loc) "pile" loc (o.map fun p=>(p.1,.ref p.2)) (.ref va) n t):=by
  cases o with
  | none=>exact Zqs (ex:=fun _ _ l _=>exN fun _=>Zj2 l 0 0) Zqq rfl rfl 0 (fun _=>rfl) (A60_v prog w b R loc va n t) fun f q hq=>nomatch hq
  | some o=>exact Zqs (ex:=fun _ _ l _=>exN fun _=>Zj2 l 0 0) Zqq rfl rfl 0 (fun _=>rfl) (A61_v prog w b R loc o.1 o.2 va n t) fun f q hq=>nomatch hq
theorem cl6_ok {L:Lx} {s s':Lt} {ws:List Str} (hr:Reads prog w b L s ws s') (loc u:Nat) (tk:Nat→Nat) (e1 e2:Int) {pbl:List (Str × Nat)} (hl:pbl.length < 21) (hw:pbl.length + ws.length≤sizeLine) (d:Array DictEntry) (k:Nat) (sl:Array (Option Value)) (n t:Nat) :
    Zqn (T3 R) prog (wb w b) n t (cLst (hz (wb w b)) (Zqd R (wb w b)) Zq9 (Zqp (e6 R w b)) (v6 R w b loc) loc u L tk s s' e1 e2 pbl ws d k sl n t) :=
  Zqw (ex:=cLstEx) (Zqx (llFamL_ok hr tk e1 e2 hl hw) Zqq) rfl rfl (L6_v prog w b R loc u L tk s s' e1 e2 pbl ws d k sl n t) fun f q hq=>nomatch hq
noncomputable abbrev St6:=List Pd × Option (Nat × Addr) × Array (Option Value) × List Ld
noncomputable def ob6 (w:Hs) (loc:Addr) (d:Array DictEntry) (k:Nat) (q:St6):List (Addr × Obj) :=
  (loc,xV w "pile" (q.2.1.map fun p=>(p.1,.ref p.2)))::(806,frO d k q.2.2.1)::(Zx6 w q.1++ldsO q.2.2.2)
theorem pblT_length:∀ (ks:List (F6)) (tp:Nat→Nat),(pblT ks tp).length = ks.length
  | [],_=>rfl
  | _::r,tp=>congrArg (· + 1) (pblT_length r _)
theorem c6_ok {sts:List PS} {g0:Nat→Nat→Nat} (hok:∀ ps ∈ sts,Zk5 prog w b ps∧ps.pbl.length < 21∧ps.cont.length≤1000) (hlen:sts.length≤1000) {ne:Option (Nat × Value)} (hne:ne.isSome = true↔sts≠[]) (loc it lst acc el ea:Nat) (d:Array DictEntry) (k:Nat) (sl:Array (Option Value)) (n t:Nat) :
    Zq1 (T3 R) prog (wb w b) n t (c6Con (hz (wb w b)) (Zqd R (wb w b)) loc it lst acc sts g0 el ea d k sl ne n t):=by
  have hsz:1000≤sizeLine:=by decide +kernel
  refine ⟨fun h₀ h r g A Rz G hA O hn hR=>?_⟩
  have hA:AOk A (some [Zq4 (Zqd R (wb w b))]) 100:=hA
  have hl0:=zipD_fst sts (bagG g0)
  generalize hl:zipD sts (bagG g0) = l0 at hl0
  have O:Own h₀ ((it,Zx4 lst 0)::(acc,Zqz [] ea)::(ob6 (hz (wb w b)) loc d k (l0,none,sl,[])++[(lst,Zqz (Zz0 l0) el)])) h:=O.perm (by
    subst hl
    show List.Perm ([(it,Zx4 lst 0),(lst,Zqz (Zz0 (zipD sts (bagG g0))) el),(acc,Zqz [] ea),(loc,xV (hz (wb w b)) "pile" none),(806,frO d k sl)]++(Zx6 (hz (wb w b)) (zipD sts (bagG g0))++[])) _
    unfold ob6
    generalize Zx6 (hz (wb w b)) (zipD sts (bagG g0)) = lp
    simp only [Option.map_none,ldsO,List.map_nil]
    (refine Zqv fun _=>?_; simp +arith only [Zqj,Zqk,Zqc]))
  have hmem:∀ q ∈ l0,Zk5 prog w b q.1∧q.1.pbl.length < 21∧q.1.cont.length≤1000:=fun q hq=>hok q.1 (by rw [← hl0]; exact List.mem_map_of_mem hq)
  have hl1:l0.length = sts.length:=by rw [← hl0,List.length_map]
  have hc:=comp6 (w:=w) (b:=b) (R:=R)
  have htup:=ctup6 (w:=w) (b:=b) (R:=R) (.ref it)
  have tA:∀ o va n t,(Zvc (hz (wb w b)) Zqg (e6 R w b) (v6 R w b loc) "pile" loc o (.ref va) n t).tree = assign (Zq0 (e6 R w b)) (v6 R w b loc) (.ref va):=fun o va n t=>by
    unfold Zvc; dsimp only; rw [Zxk]
  have tE:∀ u L tk s s' e1 e2 pbl ws sl n1 t1,(cLst (hz (wb w b)) (Zqd R (wb w b)) Zq9 (Zqp (e6 R w b)) (v6 R w b loc) loc u L tk s s' e1 e2 pbl ws d k sl n1 t1).tree = eval (Zqp (e6 R w b)) (v6 R w b loc):=fun u L tk s s' e1 e2 pbl ws sl n1 t1=>by
    unfold cLst; dsimp only; rw [Zzx]
  have tA1:=fun o va n t=>asg6_ok (prog:=prog) (w:=w) (b:=b) (R:=R) loc o va n t
  have tE1:=fun {L:Lx} {s s':Lt} {ws:List Str} (hr:Reads prog w b L s ws s') u tk e1 e2 {pbl:List (Str × Nat)} hl hw sl n t=>cl6_ok (R:=R) hr loc u tk e1 e2 (pbl:=pbl) hl hw d k sl n t
  show codeAny _ A (.compStart (e6 R w b) 0 (.ref it) (.ref acc) (v6 R w b loc)) Rz _
  generalize v6 R w b loc = env at tA tE tA1 tE1
  generalize e6 R w b = e at hc htup tA tE tA1 tE1
  have loop:codeAny (model prog (wb w b)) A (.compLoop e 0 (.ref it) (.ref acc) env) Rz (r.at h ⟨t,g⟩):=by
    rw [hc]
    refine Zvj (src_list (r:=r) (h₀:=h₀) (it:=it) (lst:=lst) (xs:=Zz0 l0) (ep:=el) hA.hand) htup (ob6 (hz (wb w b)) loc d k)
      (fun i q ys m=>q.1 = l0.drop i∧ys = ldsR q.2.2.2∧q.2.2.2.map (·.1) = (l0.take i).map (fun q=>q.1.cont)∧(q.2.1.isSome = true↔i≠0)∧n≤m) (t₀:=t) (g₀:=g) (l:=[(lst,Zqz (Zz0 l0) el)]) (fun p hp=>by
        rw [List.mem_singleton.mp hp]; exact List.Mem.head _) (K:=l0.length) (by lia) (fun i q ys m hI hi=>?_) (fun i v q ys m fm hp t1 g1 Q hi hv hI O1 hs1 ht1 hg1 hQ=>?_) (fun q ys ea' m m' hp t1 g1 hI hsz O1 hs1 ht1 hg1=>?_) (oi:=Zx4 lst 0) (st:=(l0,none,sl,[])) (ys:=[]) (ea:=ea) ⟨rfl,rfl⟩ ⟨rfl,rfl,rfl,by simp,by lia⟩ O (Nat.le_refl _) (Zq5.refl _ _)
    · obtain ⟨-,rfl,h3,-,-⟩:=hI
      have:=congrArg List.length h3
      rw [List.length_map,List.length_map,List.length_take] at this
      rw [Zzg] at hi
      rw [ldsR,List.length_map]
      lia
    · obtain ⟨lr,o,sl1,dn⟩:=q
      obtain ⟨h1,rfl,h3,ho,hnm⟩:=hI
      have h1:lr = l0.drop i:=h1
      obtain ⟨q,hq,rfl⟩:=refsO_get hv
      rw [drop_at hq] at h1
      subst h1
      obtain ⟨m1,m2,m3⟩:=hmem q (List.mem_of_getElem? hq)
      have hcont:q.1.cont.length = q.1.pbl.length + q.1.ws.length:=by simp [PS.cont]
      refine Turn.plain ?_
      rw [← tA (o.map fun p=>(p.1,.ref p.2)) (q.2 0 0) m t1]
      refine (tA1 o (q.2 0 0) m t1).use (rest:=(806,frO d k sl1)::(pdO (hz (wb w b)) q++(Zx6 (hz (wb w b)) (l0.drop (i + 1))++(ldsO dn++((lst,Zqz (Zz0 l0) el)::fm))))) G (hA.bare (by show 30≤100; lia)) O1 (by
        simp only [Zq2.preA,Zvc,Zqr,ob6]
        show List.Perm (((loc,xV (hz (wb w b)) "pile" (o.map fun p=>(p.1,.ref p.2)))::(806,frO d k sl1)::((pdO (hz (wb w b)) q++Zx6 (hz (wb w b)) (l0.drop (i + 1)))++ldsO dn))++_) _
        generalize pdO (hz (wb w b)) q = la
        generalize Zx6 (hz (wb w b)) (l0.drop (i + 1)) = lb
        generalize ldsO dn = lc
        (refine Zqv fun _=>?_; simp +arith only [Zqj,Zqk,Zqc])) hs1 fun x1 h2 g2 O2 hs2 gr2=>?_
      have hs2:h2.objs.size = m + 0:=hs2
      show wpAny _ A (eval (Zqp e) env) _ _ _
      have hrd:=(m1 (pdL q) rfl rfl).reads
      rw [← tE (x1.nat 2) (pdL q) (q.2 2) q.1.s q.1.se (Int.ofNat (q.2 0 6)) (Int.ofNat (q.2 0 7)) (pblT q.1.pbl (q.2 3)) (q.1.ws.map fun p=>S (Zzc p.1)) sl1 (m + 0) (t1 + x1.nat 1)]
      refine (tE1 hrd (x1.nat 2) (q.2 2) _ _ (by rw [pblT_length]; exact m2) (by rw [pblT_length,List.length_map]; lia) sl1 (m + 0) (t1 + x1.nat 1)).use (rest:=Zx6 (hz (wb w b)) (l0.drop (i + 1))++(ldsO dn++((lst,Zqz (Zz0 l0) el)::fm))) G (hA.le (by show 90≤100; lia)) O2 (by
        show List.Perm _ (((loc,xV (hz (wb w b)) "pile" (some (x1.nat 2,.ref (q.2 0 0))))::(pdO (hz (wb w b)) q++[(806,frO d k sl1)])++Zqr [])++_)
        simp only [Zq2.postA,Zvc,Zqr]
        generalize pdO (hz (wb w b)) q = la
        generalize Zx6 (hz (wb w b)) (l0.drop (i + 1)) = lb
        generalize ldsO dn = lc
        (refine Zqv fun _=>?_; simp +arith only [Zqj,Zqk,Zqc])) hs2 fun x h3 g3 O3 hs3 gr3=>?_
      obtain ⟨tk',hwd⟩:=pbV_wd q.1.pbl (q.2 3) q.1.ws (x.seq 0 0)
      have O3:Own h₀ ((x.nat 2,Zqz (wdV q.1.cont tk') (x.nat 3))::(loc,xV (hz (wb w b)) "pile" (some (x1.nat 2,.ref (q.2 0 0))))::(806,frO d k (x.sl 0))::(Zx6 (hz (wb w b)) (l0.drop (i + 1))++(ldsO dn++((lst,Zqz (Zz0 l0) el)::fm)))) h3:=by
        have e:pbV (pblT q.1.pbl (q.2 3))++wsV (q.1.ws.map fun p=>S (Zzc p.1)) (x.seq 0 0) = wdV q.1.cont tk':=hwd
        rw [← e]
        exact O3
      have hs3:h3.objs.size = m + 0 + x.nat 0:=hs3
      refine hQ (some (.ref (x.nat 2))) (l0.drop (i + 1),some (x1.nat 2,q.2 0 0),x.sl 0,dn++[(q.1.cont,fun j=>match j with | 0=>x.nat 2 | 1=>x.nat 3 | j + 2=>tk' j)]) _ h3 _ g3 ⟨rfl,?_,?_,by simp,by lia⟩ (O3.perm (by
        show List.Perm _ (((loc,xV (hz (wb w b)) "pile" (some (x1.nat 2,.ref (q.2 0 0))))::(806,frO d k (x.sl 0))::(Zx6 (hz (wb w b)) (l0.drop (i + 1))++ldsO (dn++[(q.1.cont,fun j=>match j with | 0=>x.nat 2 | 1=>x.nat 3 | j + 2=>tk' j)])))++_)
        have e:ldsO (dn++[(q.1.cont,fun j=>match j with | 0=>x.nat 2 | 1=>x.nat 3 | j + 2=>tk' j)]) = ldsO dn++[(x.nat 2,Zqz (wdV q.1.cont tk') (x.nat 3))]:=by
          unfold ldsO; rw [List.map_append]; rfl
        rw [e]
        generalize Zx6 (hz (wb w b)) (l0.drop (i + 1)) = lb
        generalize ldsO dn = lc
        (refine Zqv fun _=>?_; simp +arith only [Zqj,Zqk,Zqc]))) hs3 (by lia) (Zq5.trans (d:=true) gr2 gr3 fun e=>Bool.noConfusion e)
      · show _ = ldsR (dn++[_])
        unfold ldsR; rw [List.map_append]; rfl
      · have h3':dn.map (·.1) = (l0.take i).map (fun q=>q.1.cont):=by assumption
        rw [List.map_append,h3',Zz4 hq,List.map_append]; rfl
    · obtain ⟨lr,o,sl1,dn⟩:=q
      obtain ⟨h1,rfl,h3,ho,hnm⟩:=hI
      rw [Zzg,List.take_length] at h3
      have ho:o.isSome = true↔l0.length≠0:=by rw [Zzg] at ho; exact ho
      have h3:dn.map (·.1) = sts.map PS.cont:=by rw [h3,← hl0,List.map_map]; rfl
      obtain ⟨g1',e1,e2⟩:=lsts_ex dn
      rw [h3] at e1 e2
      have he:xV (hz (wb w b)) "pile" (o.map fun p=>(p.1,.ref p.2)) = lastL (hz (wb w b)) "pile" ne ⟨fun j=>match j with | 0=>m' - n | 1=>t1 - t | 2=>ea' | 3=>0 | 4=>(o.map (·.1)).getD 0 | _=>(o.map (·.2)).getD 0,fun _=>sl1,fun _=>g1',Ext.nil.ob⟩:=by
        cases ne with
        | none =>
          have:sts = []:=by
            cases sts with
            | nil=>rfl
            | cons a r=>exact absurd (hne.mpr (by simp)) (by simp)
          have hz0:l0.length = 0:=by rw [hl1,this]; rfl
          cases o with
          | none=>rfl
          | some _=>exact absurd hz0 (ho.mp rfl)
        | some a =>
          have h2:sts≠[]:=hne.mp rfl
          have hz0:l0.length≠0:=by rw [hl1]; exact fun e=>h2 (List.length_eq_zero_iff.mp e)
          cases o with
          | none=>exact absurd (ho.mpr hz0) (by simp)
          | some _=>rfl
      have fin:=hR ⟨fun j=>match j with | 0=>m' - n | 1=>t1 - t | 2=>ea' | 3=>0 | 4=>(o.map (·.1)).getD 0 | _=>(o.map (·.2)).getD 0,fun _=>sl1,fun _=>g1',Ext.nil.ob⟩ hp g1 (Own.drop (r:=Zx6 (hz (wb w b)) lr++[(lst,Zqz (Zz0 l0) el)]) (O1.perm (by
        simp only [Con.postA,c6Con,Zqr,lstsBag]
        rw [← he,e1,e2]
        unfold ob6
        dsimp only
        generalize Zx6 (hz (wb w b)) lr = lb
        generalize ldsO dn = lc
        (refine Zqv fun _=>?_; simp +arith only [Zqj,Zqk,Zqc])))) (by show hp.objs.size = n + (m' - n); lia) hg1
      have et:t + (t1 - t) = t1:=by lia
      change Rz (.ok .next) (r.at hp ⟨t + (t1 - t),g1⟩) at fin
      rw [et] at fin
      exact fin
  rw [hc] at loop ⊢
  exact codeAny_compStart_list loop (wpAny_pyIter_listiter (s:=r.at h ⟨t,g⟩) (i:=0) ⟨_,O.own (it,_) (.head _),rfl,rfl⟩ loop)
theorem lw6_ok {sts:List PS} {m:Nat} (hgd:Good prog w b sts m) (hm:m≤20) (ft:Nat→Nat) (cut:Int) (u:Nat) (la ls lp:Addr) (sl:Array (Option Value)) (g:Nat→Nat→Nat) (ep n t:Nat) :
    Zqn (T3 R) prog (wb w b) n t (lw6 (hz (wb w b)) (Zqd R (wb w b)) Zqm ft cut u la ls lp sl sts g ep n t):=by
  have hC:∀ ne:Option (Nat × Value),(ne.isSome = true↔sts≠[])→Zx1 (T3 R) prog (wb w b) [c6Fam (hz (wb w b)) (Zqd R (wb w b)) lp sts ne]:=fun ne hne =>
    Zqx (fun n' t' cd l bb=>c6_ok (hgd.pile4 hm) (by have:=hgd.len; lia) hne _ _ _ _ _ _ _ _ _ n' t') Zqq
  by_cases h0:sts = []
  · exact Zqw (ex:=lw6Ex) (hC none ⟨fun e=>(by cases e),fun e=>absurd h0 e⟩) rfl rfl (LW60_v prog w b R ft cut u la ls lp sl sts g ep n t) fun f q hq=>nomatch hq
  · exact Zqw (ex:=lw6Ex) (hC (some (0,.none)) ⟨fun _=>h0,fun _=>rfl⟩) rfl rfl (LW61_v prog w b R ft cut u la ls lp sl sts g ep n t) fun f q hq=>nomatch hq
end
theorem intV_snoc:∀ (l:List Int) (x:Int) (tk:Nat→Nat) (u:Nat),∃ tk',Zz2 l tk++[.int x u] = Zz2 (l++[x]) tk'
  | [],x,tk,u=>⟨fun _=>u,rfl⟩
  | y::r,x,tk,u=>by
    obtain ⟨tk',h⟩:=intV_snoc r x (fun j=>tk (j + 1)) u
    exact ⟨fun j=>match j with | 0=>tk 0 | j + 1=>tk' j,congrArg (Value.int y (tk 0)::·) h⟩
theorem wdV_is (ks:List (F6)) (tk:Nat→Nat) (i:Nat) (v:Value) (h:(wdV ks tk)[i]? = some v):∃ k,ks[i]? = some k∧v = .str (S (Zzc k)) (tk i):=by
  have hi:i < ks.length:=by rw [← Zzk ks tk]; exact (List.getElem?_eq_some_iff.mp h).1
  have hk:ks[i]? = some ks[i]:=List.getElem?_eq_getElem hi
  have:=wdV_get ks tk i _ hk
  rw [this] at h
  cases h
  exact ⟨_,hk,rfl⟩
section
variable {prog:Program} {w:World} {b:Bool} {R:RO}
theorem comp7:e7 R w b = .ListComp (Zqp (e7 R w b)) [⟨Zq0 (e7 R w b),Zjn (e7 R w b),[],0⟩] (Zxw (e7 R w b)) (Zjr (e7 R w b)):=by cases b <;> kernel_rfl
theorem ctup7 (it v:Value):letOwnedTupleGo (Zq0 (e7 R w b)) it v = pure ():=by cases b <;> kernel_rfl
theorem asg7_ok (loc:Addr) (o:Option (Nat × List Nat × Nat)) (W:List Nat) (tt n t:Nat):Zqn (T3 R) prog (wb w b) n t (Zvc (hz (wb w b)) Zqg (e7 R w b) (v7 R w b loc) "word" loc (o5V o) (.str (S W) tt) n t):=by
  cases o with
  | none=>exact Zqs (ex:=fun _ _ l _=>exN fun _=>Zj2 l 0 0) Zqq rfl rfl 0 (fun _=>rfl) (A70_v prog w b R loc W tt n t) fun f q hq=>nomatch hq
  | some o=>exact Zqs (ex:=fun _ _ l _=>exN fun _=>Zj2 l 0 0) Zqq rfl rfl 0 (fun _=>rfl) (A71_v prog w b R loc o.1 o.2.1 o.2.2 W tt n t) fun f q hq=>nomatch hq
theorem rk7_ok (loc u:Nat) (k:F6) (tt n t:Nat):Zqn (T3 R) prog (wb w b) n t (cRk (hz (wb w b)) Zq9 (Zqp (e7 R w b)) (v7 R w b loc) loc u (Zzc k) tt (R.rk k) n t) :=
  Zqw (ex:=cRkEx) (Zqx (fun n' t' c l bb=>rk_ok (isWd R k) _ n' t') Zqq) rfl rfl (P7_v prog w b R loc u (Zzc k) tt (R.rk k) n t) fun f q hq=>nomatch hq
theorem c7_ok {ks:List (F6)} (hlen:ks.length≤1000) {W:List Nat} (hne:(ks.map Zzc).getLast? = some W) (loc it acc:Nat) (tk:Nat→Nat) (ep ea n t:Nat) :
    Zq1 (T3 R) prog (wb w b) n t (c7Con (hz (wb w b)) (Zqd R (wb w b)) loc it acc ks R.rk tk ep ea (some W) n t):=by
  have hsz:1000≤sizeLine:=by decide +kernel
  refine ⟨fun h₀ h r g A Rz G hA O hn hR=>?_⟩
  have hA:AOk A none 60:=hA
  have O:Own h₀ ((it,Zx4 828 0)::(acc,Zqz [] ea)::([(loc,xV (hz (wb w b)) "word" none)]++[(828,Zqz (wdV ks tk) ep)])) h:=O.perm (by
    show List.Perm ([(it,Zx4 828 0),(828,Zqz (wdV ks tk) ep),(acc,Zqz [] ea),(loc,xV (hz (wb w b)) "word" none)]++[]) _
    (refine Zqv fun _=>?_; simp +arith only [Zqj,Zqk,Zqc]))
  have hc:=comp7 (w:=w) (b:=b) (R:=R)
  have htup:=ctup7 (w:=w) (b:=b) (R:=R) (.ref it)
  have tA:∀ o W tt n t,(Zvc (hz (wb w b)) Zqg (e7 R w b) (v7 R w b loc) "word" loc o (.str (S W) tt) n t).tree = assign (Zq0 (e7 R w b)) (v7 R w b loc) (.str (S W) tt):=fun o W tt n t=>by
    unfold Zvc; dsimp only; rw [Zxk]
  have tE:∀ u W tt rv n t,(cRk (hz (wb w b)) Zq9 (Zqp (e7 R w b)) (v7 R w b loc) loc u W tt rv n t).tree = eval (Zqp (e7 R w b)) (v7 R w b loc):=fun u W tt rv n t=>by
    unfold cRk; dsimp only; rw [Zzx]
  have tA1:=fun o W tt n t=>asg7_ok (prog:=prog) (w:=w) (b:=b) (R:=R) loc o W tt n t
  have tE1:=fun u k tt n t=>rk7_ok (prog:=prog) (w:=w) (b:=b) (R:=R) loc u k tt n t
  show codeAny _ A (.compStart (e7 R w b) 0 (.ref it) (.ref acc) (v7 R w b loc)) Rz _
  generalize v7 R w b loc = env at tA tE tA1 tE1
  generalize e7 R w b = e at hc htup tA tE tA1 tE1
  have loop:codeAny (model prog (wb w b)) A (.compLoop e 0 (.ref it) (.ref acc) env) Rz (r.at h ⟨t,g⟩):=by
    rw [hc]
    refine Zvj (src_list (r:=r) (h₀:=h₀) (it:=it) (lst:=828) (xs:=wdV ks tk) (ep:=ep) hA.hand) htup (fun o:Option (Nat × List Nat × Nat)=>[(loc,xV (hz (wb w b)) "word" (o5V o))])
      (fun i o ys m=>(∃ tk',ys = Zz2 ((ks.take i).map R.rk) tk')∧(o.map (·.2.1)) = ((ks.take i).map Zzc).getLast?∧n≤m) (t₀:=t) (g₀:=g) (l:=[(828,Zqz (wdV ks tk) ep)]) (fun p hp=>by
        rw [List.mem_singleton.mp hp]; exact List.Mem.head _) (K:=ks.length) (by lia) (fun i q ys m hI hi=>?_) (fun i v o ys m fm hp t1 g1 Q hi hv hI O1 hs1 ht1 hg1 hQ=>?_) (fun o ys ea' m m' hp t1 g1 hI hsz O1 hs1 ht1 hg1=>?_) (oi:=Zx4 828 0) (st:=none) (ys:=[]) (ea:=ea) ⟨rfl,rfl⟩ ⟨⟨fun _=>0,rfl⟩,rfl,by lia⟩ O (Nat.le_refl _) (Zq5.refl _ _)
    · obtain ⟨⟨tk',rfl⟩,-,-⟩:=hI
      rw [Zzk] at hi
      rw [Zzb,List.length_map,List.length_take]
      lia
    · obtain ⟨⟨tk',rfl⟩,ho,hnm⟩:=hI
      obtain ⟨k,hq,rfl⟩:=wdV_is ks tk i v hv
      refine Turn.plain ?_
      rw [← tA (o5V o) (Zzc k) (tk i) m t1]
      refine (tA1 o (Zzc k) (tk i) m t1).use (rest:=(828,Zqz (wdV ks tk) ep)::fm) G (hA.bare (by show 30≤60; lia)) O1 (by
        simp only [Zq2.preA,Zvc,Zqr]
        (refine Zqv fun _=>?_; simp +arith only [Zqj,Zqk,Zqc])) hs1 fun x1 h2 g2 O2 hs2 gr2=>?_
      show wpAny _ A (eval (Zqp e) env) _ _ _
      have hs2:h2.objs.size = m + 0:=hs2
      rw [← tE (x1.nat 2) (Zzc k) (tk i) (R.rk k) m (t1 + x1.nat 1)]
      refine (tE1 (x1.nat 2) k (tk i) m (t1 + x1.nat 1)).use (rest:=(828,Zqz (wdV ks tk) ep)::fm) G (hA.bare (by show 50≤60; lia)) O2 (.refl _) hs2 fun z h3 g3 O3 hs3 gr3=>?_
      have hs3:h3.objs.size = m + z.nat 0:=hs3
      obtain ⟨tk2,h2'⟩:=intV_snoc ((ks.take i).map R.rk) (R.rk k) tk' (z.nat 2)
      refine hQ (some (.int (R.rk k) (z.nat 2))) (some (x1.nat 2,Zzc k,tk i)) _ h3 _ g3 ⟨⟨tk2,?_⟩,?_,by lia⟩ (O3.perm (by
        simp only [Zq2.postA,cRk,Zqr]
        show List.Perm _ ([(loc,xV (hz (wb w b)) "word" (some (x1.nat 2,.str (S (Zzc k)) (tk i))))]++_)
        (refine Zqv fun _=>?_; simp +arith only [Zqj,Zqk,Zqc]))) hs3 (by lia) (Zq5.trans (d:=true) gr2 gr3 fun e=>Bool.noConfusion e)
      · rw [Zz4 hq,List.map_append]; exact h2'
      · rw [Zz4 hq,List.map_append]; simp
    · obtain ⟨⟨tk',rfl⟩,ho,hnm⟩:=hI
      rw [Zzk,List.take_length] at ho O1
      rw [hne] at ho
      obtain ⟨⟨o1,o2,o3⟩,rfl,ho'⟩:=Option.map_eq_some_iff.mp ho
      have ho':o2 = W:=ho'
      subst ho'
      have fin:=hR ⟨fun j=>match j with | 0=>m' - n | 1=>t1 - t | 4=>o1 | _=>o3,fun _=>#[],fun _ i=>match i with | 0=>tk' | _=>fun _=>ea',Ext.nil.ob⟩ hp g1 (O1.perm (by
        simp only [Con.postA,c7Con,Zqr,intBag]
        show List.Perm _ (([]++[(828,Zqz (wdV ks tk) ep),(loc,xV (hz (wb w b)) "word" (some (o1,.str (S o2) o3)))])++([(acc,Zqz (Zz2 (ks.map R.rk) tk') ea')]++[]))
        show List.Perm ((acc,Zqz (Zz2 (ks.map R.rk) tk') ea')::([(loc,xV (hz (wb w b)) "word" (some (o1,.str (S o2) o3)))]++[(828,Zqz (wdV ks tk) ep)])) _
        (refine Zqv fun _=>?_; simp +arith only [Zqj,Zqk,Zqc]))) (by show hp.objs.size = n + (m' - n); lia) hg1
      have et:t + (t1 - t) = t1:=by lia
      change Rz (.ok .next) (r.at hp ⟨t + (t1 - t),g1⟩) at fin
      rw [et] at fin
      exact fin
  rw [hc] at loop ⊢
  exact codeAny_compStart_list loop (wpAny_pyIter_listiter (s:=r.at h ⟨t,g⟩) (i:=0) ⟨_,O.own (it,_) (.head _),rfl,rfl⟩ loop)
end
section
open PySem
theorem runs_size {M:Model} {Γ:Ctx} {p:Pos} {t:Sem Fin} {fs:List Frame} {s s':Shared} {e:End} (h:Runs M Γ p t fs s e s'):s.heap.objs.size≤s'.heap.objs.size:=by
  induction h <;> (try simp only [Shared.setGen,Heap.size_push,Heap.size_update] at *) <;> lia
theorem returns_size {M:Model} {Γ:Ctx} {p:Pos} {s s':Shared} {r:Result} (h:Returns M Γ p s r s'):s.heap.objs.size≤s'.heap.objs.size:=runs_size h
theorem Zxp {M:Model} {A:Around} {s:Shared} {c:Code} {R:Result→Shared→Prop} {n:Nat} (hn:n≤s.heap.objs.size) (h:codeAny M A c (fun r s'=>n≤s'.heap.objs.size→R r s') s):codeAny M A c R s :=
  fun Γ p hc hΓ=>by obtain ⟨r,s',hr,hR⟩:=h Γ p hc hΓ; exact ⟨r,s',hr,hR (Nat.le_trans hn (returns_size hr))⟩
end
theorem rgi_ok {T:Params→Addr→Option Obj} {prog:Program} {w:World} {lo hi st left:Int} (hsm:Builtin.Range.small lo hi st = true) (hsz:Builtin.Range.rangeSize lo hi st = left) (a t u v n t':Nat):Zq1 T prog w n t' (riCon a lo hi st t u v left n):=by
  refine ⟨fun h₀ h r g A R G hA O hs hR=>?_⟩
  have O:Own h₀ [(a,rngO lo hi st t u v)] h:=O
  refine codeAny_builtin F.entry_range_iter ?_
  rw [Around.under_plainId (by decide +kernel)]
  refine AutoRange.range___iter___range_1 a lo hi st t u v (by unfold Builtin.Range.small at hsm; simp [hsm]) prog w A R _ ⟨O.own (a,_) (.head _),?_⟩
  unfold Builtin.Range.small at hsm
  simp only [hsm,if_true]
  have O':=O.push (Zzp lo left st) rfl
  have fin:=hR ⟨fun _=>0,fun _=>#[],fun _ _ _=>0,Ext.nil.ob⟩ (h.push (Zzp lo left st)) g (by rw [hs] at O'; exact O') (by rw [Heap.size_push,hs]; rfl) (Zq5.refl _ _)
  show R (.ok (.ret (.ref h.objs.size))) ⟨h.push { cls:=.type "range_iterator",data:=.fields #[rawInt lo,rawInt (Builtin.Range.rangeSize lo hi st),rawInt st] },g,r.d,t',r.os⟩
  rw [hs,hsz]
  exact fin
theorem range0 (m:Nat) (hm:m < 2 ^ 62):Builtin.Range.small 0 (Int.ofNat m) 1 = true∧Builtin.Range.rangeSize 0 (Int.ofNat m) 1 = Int.ofNat m:=by
  refine ⟨small_one (by decide) (by decide) (by have:(0:Int)≤Int.ofNat m:=Int.natCast_nonneg m; lia) (by show (m:Int) < 2 ^ 62; lia),?_⟩
  rw [rangeSize_one]
  show (if (0:Int) < (m:Int) then (m:Int) - 0 else 0) = (m:Int)
  split <;> lia
theorem intItems_V:∀ (l:List Int) (tk:Nat→Nat),∃ xs:Array (Int × Tok),intItems xs = ⟨Zz2 l tk⟩∧xs.toList.map (·.1) = l
  | [],tk=>⟨#[],by simp [intItems,Zz2],rfl⟩
  | x::r,tk=>by
    obtain ⟨xs,h1,h2⟩:=intItems_V r fun j=>tk (j + 1)
    refine ⟨⟨(x,tk 0)::xs.toList⟩,?_,congrArg (x::·) h2⟩
    have e:intItems ⟨(x,tk 0)::xs.toList⟩ = ⟨.int x (tk 0)::(intItems xs).toList⟩:=by simp [intItems]
    rw [e,h1]; rfl
theorem maxL_is (l:List Int) (M:Int) (h0:0 ∈ l) (hm:M ∈ l) (hb:∀ a ∈ l,a≤M):M = maxL l:=by
  have key:∀ (l:List Int) (z:Int),(∀ a ∈ l,a≤l.foldl max z)∧z≤l.foldl max z∧(l.foldl max z = z ∨ l.foldl max z ∈ l):=by
    intro l
    induction l with
    | nil=>exact fun z=>⟨(fun a h=>nomatch h),Int.le_refl _,.inl rfl⟩
    | cons x r ih =>
      intro z
      obtain ⟨h1,h2,h3⟩:=ih (max z x)
      refine ⟨fun a ha=>?_,?_,?_⟩
      · rcases List.mem_cons.mp ha with rfl | ha
        · exact Int.le_trans (Int.le_max_right _ _) h2
        · exact h1 a ha
      · exact Int.le_trans (Int.le_max_left _ _) h2
      · rcases h3 with h3 | h3
        · show List.foldl max (max z x) r = z ∨ List.foldl max (max z x) r ∈ x::r
          rw [h3]
          by_cases hzx:z≤x
          · right; rw [Int.max_eq_right hzx]; exact .head _
          · left; exact Int.max_eq_left (by lia)
        · exact .inr (.tail _ h3)
  obtain ⟨h1,h2,h3⟩:=key l 0
  have hmem:maxL l ∈ l:=by
    rcases h3 with h3 | h3
    · show List.foldl max 0 l ∈ l
      rw [h3]; exact h0
    · exact h3
  have a1:=h1 M hm
  have a2:=hb _ hmem
  exact Int.le_antisymm a1 a2
theorem mx_ok {T:Params→Addr→Option Obj} {prog:Program} {w:World} {xs:List Int} {z:Int} (h0:0 ∈ xs) (hz:z = maxL xs) (a ep:Nat) (g0:Nat→Nat→Nat) (n t:Nat):Zq1 T prog w n t (mxCon a xs z ep g0):=by
  refine ⟨fun h₀ h r g A R G hA O hs hR=>?_⟩
  have O:Own h₀ [(a,Zqz (Zz2 xs (g0 0)) ep)] h:=O
  obtain ⟨is,e1,e2⟩:=intItems_V xs (g0 0)
  have hA:AOk A none 30:=hA
  refine codeAny_mono (codeAny_toks_of (n:=t) (R:=fun res s'=>t≤s'.toks→R res s') (Nat.le_refl _) ?_) fun r s' q=>q.2 q.1
  refine Zxp (n:=n) (by show n≤h.objs.size; lia) ?_
  have hl:h.IsList a (intItems is):=by rw [e1]; exact ⟨_,O.own _ (.head _),rfl,ep,rfl⟩
  have hsz:0 < is.size:=by
    have:is.toList.length = xs.length:=by rw [← e2,List.length_map]
    have h2:0 < xs.length:=List.length_pos_of_mem h0
    rw [Array.length_toList] at this; lia
  have hname:(toString "max" ++ toString ".loop" : String) = "max.loop" := by decide
  refine codeAny_builtin F.entry_max ?_
  rw [Around.under_plainId F.plain_max]
  show wpAny _ A.in1 (Builtin.Builtins.bindParams "max" ["key", "default"] 0 ⟨[],[]⟩ >>= _) _ _ _
  refine wpAny_bind (wpAny_of_eq (show Builtin.Builtins.bindParams "max" ["key", "default"] 0 ⟨[],[]⟩ = pure [none,none] from rfl) ?_)
  refine wpAny_bind (wpAny_pure ?_)
  refine wpAny_bind (iter_intList (s:=r.at h ⟨t,g⟩) hl fun s₂ e st hfp hlI=>?_)
  subst e
  refine wpAny_bind (wpAny_newObj_type ?_)
  have hsz2:0 < (intItems is).size:=by simpa [intItems] using hsz
  have W:=Walks.list (prog:=prog) (w:=w) (A:=A.in1) hA.hand (r.at h ⟨t,g⟩).heap.objs.size a hlI (intItems is)
  have hSf:((r.at h ⟨t,g⟩).heap.push { cls:=.type "list_iterator",data:=.fields #[.ref a,.int 0 0] }).objs.size ∉ [(r.at h ⟨t,g⟩).heap.objs.size,a]:=fun hm=>Nat.lt_irrefl _ (hfp _ hm)
  rw [hname]
  refine wpAny_pure ⟨plainId_quiet F.plain_max_loop _,codeAny_max_loop_first W _ (CmpOf.ints_gt (numAt is) (fun _ _=>intItems_at)) _ hSf hsz2 (W.frame _ _ _ st fun b _ o e=>Heap.get?_push_of_some _ e) (Heap.get?_push_size _ rfl) fun v h' tk hv hk hn' ht'=>?_⟩
  obtain ⟨u,rfl⟩:=intItems_at hv
  have hkeep:∀ b o,h.get? b = some o→h'.get? b = some o:=fun b o e=>by
    have hb:=Heap.lt_size e
    refine hk b o (fun hm=>?_) (Nat.ne_of_lt ?_) (Heap.get?_push_of_some _ (Heap.get?_push_of_some _ e))
    · rcases List.mem_cons.mp hm with e1 | hm
      · exact absurd (e1 ▸ hb) (Nat.lt_irrefl _)
      · cases hm
    · show b < (h.push _).objs.size
      rw [Heap.size_push]; exact Nat.lt_succ_of_lt hb
  obtain ⟨q1,q2⟩:=argBest_gt (numAt is) (is.size - 1)
  have hsi:(intItems is).size = is.size:=by simp [intItems]
  rw [hsi]
  have hM:numAt is (argBest (fun i j=>decide (numAt is i > numAt is j)) (is.size - 1)) = z:=by
    rw [hz]
    refine maxL_is xs _ h0 ?_ fun a ha=>?_
    · rw [← e2,numAt_eq]; exact getD_mem (by rw [List.length_map,Array.length_toList]; lia)
    · rw [← e2] at ha
      obtain ⟨j,hj,rfl⟩:=mem_getD ha
      rw [List.length_map,Array.length_toList] at hj
      rw [← numAt_eq]; exact q2 j (by lia)
  rw [hM]
  have hn':n≤h'.objs.size:=hn'
  have ht':t≤tk:=ht'
  have fin:=hR ⟨fun j=>match j with | 0=>h'.objs.size - n | 1=>tk - t | _=>u,fun _=>#[],fun _ _ _=>0,Ext.nil.ob⟩ h' g (by
    exact ⟨fun b o e=>hkeep b o (O.keep b o e),fun p hp=>hkeep _ _ (O.own p hp),O.nodup,O.apart⟩) (Nat.add_sub_cancel' hn').symm (Zq5.refl _ _)
  have et:t + (tk - t) = tk:=by lia
  change R (.ok (.ret (.int z u))) (r.at h' ⟨t + (tk - t),g⟩) at fin
  rw [et] at fin
  exact fin
theorem la_ok {T:Params→Addr→Option Obj} {prog:Program} {w:World} {x:Int} {low:List Int} (hl:low.length < sizeLine) (a b ux ea eb:Nat) (g0:Nat→Nat→Nat) (n t:Nat):Zq1 T prog w n t (laCon a b x ux ea low eb g0 n):=by
  refine ⟨fun h₀ h r g A R G hA O hs hR=>?_⟩
  have O:Own h₀ [(a,Zqz [.int x ux] ea),(b,Zqz (Zz2 low (g0 0)) eb)] h:=O
  refine codeAny_builtin F.entry_list_add ?_
  rw [Around.under_plainId (by decide +kernel)]
  refine AutoSeq1.list___add___list_list_0 a ⟨[.int x ux]⟩ ea b ⟨Zz2 low (g0 0)⟩ eb (by simp [Zzb]; lia) prog w A R _ ⟨O.own (a,_) (.head _),O.own (b,_) (.tail _ (.head _)),?_⟩
  have e:({ cls:=Value.type "list",data:=Data.seq ((⟨[.int x ux]⟩:Array Value)++⟨Zz2 low (g0 0)⟩) }:Obj) = Zqz (Zz2 (x::low) fun j=>match j with | 0=>ux | j + 1=>g0 0 j) 0:=by
    have:((⟨[.int x ux]⟩:Array Value)++⟨Zz2 low (g0 0)⟩) = ⟨.int x ux::Zz2 low (g0 0)⟩:=by simp
    rw [this]; rfl
  have O':=O.push (Zqz (Zz2 (x::low) fun j=>match j with | 0=>ux | j + 1=>g0 0 j) 0) rfl
  have fin:=hR ⟨fun j=>match j with | 0=>1 | _=>0,fun _=>#[],fun _ _ j=>match j with | 0=>ux | j + 1=>g0 0 j,Ext.nil.ob⟩ (h.push (Zqz (Zz2 (x::low) fun j=>match j with | 0=>ux | j + 1=>g0 0 j) 0)) g (by rw [hs] at O'; exact O') (by rw [Heap.size_push,hs]; rfl) (Zq5.refl _ _)
  show R (.ok (.ret (.ref h.objs.size))) _
  rw [e,hs]
  exact fin
theorem lowL_snoc (x r v:Int):∀ (a b:List Int),a.length = b.length→lowL (a++[r]) (b++[v]) x = lowL a b x++(if r < x then [1 + v] else [])
  | [],[],_=>by
    show (if r < x then (1 + v)::lowL [] [] x else lowL [] [] x) = []++_
    split <;> rfl
  | [],_::_,h=>by cases h
  | _::_,[],h=>by cases h
  | p::a,q::b,h=>by
    have ih:=lowL_snoc x r v a b (Nat.succ.inj h)
    show (if p < x then (1 + q)::lowL (a++[r]) (b++[v]) x else lowL (a++[r]) (b++[v]) x) = (if p < x then (1 + q)::lowL a b x else lowL a b x)++_
    rw [ih]
    by_cases hp:p < x
    · rw [if_pos hp,if_pos hp]; rfl
    · rw [if_neg hp,if_neg hp]
theorem lowL_len (x:Int):∀ (a b:List Int),(lowL a b x).length≤a.length
  | [],_=>Nat.le_refl _
  | _::_,[]=>Nat.zero_le _
  | p::a,q::b=>by
    have ih:=lowL_len x a b
    show (if p < x then (1 + q)::lowL a b x else lowL a b x).length≤a.length + 1
    split
    · simp; exact ih
    · lia
noncomputable def idx0 (i:Nat):Option Int:=match i with
  | 0=>none
  | i + 1=>some (Int.ofNat i)
section
variable {prog:Program} {w:World} {b:Bool} {R:RO}
theorem compN:eN R w b = .ListComp (Zqp (eN R w b)) [⟨Zq0 (eN R w b),Zjn (eN R w b),[Zxf (eN R w b)],0⟩] (Zxw (eN R w b)) (Zjr (eN R w b)):=by cases b <;> kernel_rfl
theorem ifN:Zxf (eN R w b) = .Compare (cmpL (Zxf (eN R w b))) [.Lt] [cmpR (Zxf (eN R w b))] (cmpPos (Zxf (eN R w b))):=by cases b <;> kernel_rfl
theorem markN:behindInMarks .Lt (cmpR (Zxf (eN R w b))) = false:=by cases b <;> kernel_rfl
theorem ctupN (it v:Value):letOwnedTupleGo (Zq0 (eN R w b)) it v = pure ():=by cases b <;> kernel_rfl
noncomputable def oJ (o:Option (Nat × Int × Nat)):Option (Nat × Value):=o.map fun p=>(p.1,.int p.2.1 p.2.2)
theorem asgN_ok (fr cr cn ck loc:Addr) (o:Option (Nat × Int × Nat)) (v:Int) (u n t:Nat):Zqn (T3 R) prog (wb w b) n t (cAsg' (hz (wb w b)) Zqg (Zq0 (eN R w b)) (vN R w b fr cr cn ck loc) "j" loc (oJ o) (.int v u) n t):=by
  cases o with
  | none=>exact Zqs (ex:=fun _ _ l _=>exN fun _=>Zj2 l 0 0) Zqq rfl rfl 0 (fun _=>rfl) (CA0_v prog w b R fr cr cn ck loc v u n t) fun f q hq=>nomatch hq
  | some o=>exact Zqs (ex:=fun _ _ l _=>exN fun _=>Zj2 l 0 0) Zqq rfl rfl 0 (fun _=>rfl) (CA1_v prog w b R fr cr cn ck loc o.1 o.2.1 o.2.2 v u n t) fun f q hq=>nomatch hq
theorem giX_ok {row:Addr} {xs:List Value} {i:Nat} {v:Value} (hi:i < 2 ^ 62) (hx:xs[i]? = some v) (n t:Nat) (c:Code) (l:List (Option (Addr × Obj))) (bb:List (Option Bag)):Zq1 (T3 R) prog (wb w b) n t (giFamX row xs (Int.ofNat i) v n t c l bb) :=
  gi_ok rfl (by show (i:Int) < 2 ^ 63; lia) hx n t
theorem cl_ok (fr cr cn ck loc row u:Nat) {i:Nat} (hi:i < 2 ^ 62) (tj:Nat) {xs:List Value} {v:Int} {tv:Nat} (hx:xs[i]? = some (.int v tv)) (er n t:Nat):Zqn (T3 R) prog (wb w b) n t (clT R w b fr cr cn ck loc row u (Int.ofNat i) tj xs er (.int v tv) n t) :=
  Zqw (ex:=vEx) (Zqx (giX_ok hi hx) Zqq) rfl rfl (CL_v prog w b R fr cr cn ck loc row u (Int.ofNat i) tj xs er v tv n t) fun f q hq=>nomatch hq
theorem cr_ok (fr cr cn ck loc row u:Nat) {k:Nat} (hi:k < 2 ^ 62) {xs:List Value} {v:Int} {tv:Nat} (hx:xs[k]? = some (.int v tv)) (er n t:Nat):Zqn (T3 R) prog (wb w b) n t (crT R w b fr cr cn ck loc row (Int.ofNat k) u xs er (.int v tv) n t) :=
  Zqw (ex:=vEx) (Zqx (giX_ok hi hx) Zqq) rfl rfl (CR_v prog w b R fr cr cn ck loc row (Int.ofNat k) u xs er v tv n t) fun f q hq=>nomatch hq
theorem ce_ok (fr cr cn ck loc nm u:Nat) {i:Nat} (hi:i < 2 ^ 62) (tj:Nat) {xs:List Value} {v:Int} {tv:Nat} (hx:xs[i]? = some (.int v tv)) (en n t:Nat):Zqn (T3 R) prog (wb w b) n t (ceT R w b fr cr cn ck loc nm u (Int.ofNat i) tj xs en v n t) :=
  Zqw (ex:=vEx) (Zqx (giX_ok hi hx) Zqq) rfl rfl (CE_v prog w b R fr cr cn ck loc nm u (Int.ofNat i) tj xs en v tv n t) fun f q hq=>nomatch hq
theorem nc_ok {rs ns:List Int} {x:Int} (hx:rs[ns.length]? = some x) (hN:ns.length≤1000) {low:List Int} (hlow:low = lowL (rs.take ns.length) ns x) {ne:Option Int} (hne:ne = idx0 ns.length) (fr cr cn ck row nm loc it acc:Nat) (tk tn:Nat→Nat) (er en u ea n t:Nat) :
    Zq1 (T3 R) prog (wb w b) n t (ncCon (hz (wb w b)) (Zqd R (wb w b)) fr cr cn ck row nm loc it acc rs ns tk tn er en u ea low ne n t):=by
  have hsz:1000≤sizeLine:=by decide +kernel
  have hNr:ns.length < rs.length:=(List.getElem?_eq_some_iff.mp hx).1
  refine ⟨fun h₀ h r g A Rz G hA O hn hR=>?_⟩
  have hA:AOk A none 60:=hA
  have O:Own h₀ ((it,Zzp 0 (Int.ofNat ns.length) 1)::(acc,Zqz [] ea)::([(loc,xV (hz (wb w b)) "j" none)]++nuObs cr cn ck row nm rs ns tk tn er en (Int.ofNat ns.length) u)) h:=O.perm (by
    show List.Perm (([(it,Zzp 0 (Int.ofNat ns.length) 1),(acc,Zqz [] ea),(loc,xV (hz (wb w b)) "j" none)]++nuObs cr cn ck row nm rs ns tk tn er en (Int.ofNat ns.length) u)++[]) _
    (refine Zqv fun _=>?_; simp +arith only [Zqj,Zqk,Zqc]))
  have hc:=compN (w:=w) (b:=b) (R:=R)
  have hif:=ifN (w:=w) (b:=b) (R:=R)
  have hmk:=markN (w:=w) (b:=b) (R:=R)
  have htup:=ctupN (w:=w) (b:=b) (R:=R) (.ref it)
  have tA:∀ o v u n t,(cAsg' (hz (wb w b)) Zqg (Zq0 (eN R w b)) (vN R w b fr cr cn ck loc) "j" loc o (.int v u) n t).tree = assign (Zq0 (eN R w b)) (vN R w b fr cr cn ck loc) (.int v u):=fun o v u n t=>by
    unfold cAsg'; dsimp only; rw [Zxk]
  have tL:∀ u j tj xs er v n t,(clT R w b fr cr cn ck loc row u j tj xs er v n t).tree = eval (cmpL (Zxf (eN R w b))) (vN R w b fr cr cn ck loc):=fun u j tj xs er v n t=>by
    unfold clT cEv; dsimp only; rw [Zzx]
  have tR:∀ k u xs er v n t,(crT R w b fr cr cn ck loc row k u xs er v n t).tree = eval (cmpR (Zxf (eN R w b))) (vN R w b fr cr cn ck loc):=fun k u xs er v n t=>by
    unfold crT cEv; dsimp only; rw [Zzx]
  have tE:∀ u j tj xs en v n t,(ceT R w b fr cr cn ck loc nm u j tj xs en v n t).tree = eval (Zqp (eN R w b)) (vN R w b fr cr cn ck loc):=fun u j tj xs en v n t=>by
    unfold ceT cEv; dsimp only; rw [Zzx]
  refine Zxp (n:=n) (by show n≤h.objs.size; lia) ?_
  have loop:codeAny (model prog (wb w b)) A (.compLoop (.ListComp (Zqp (eN R w b)) [⟨Zq0 (eN R w b),Zjn (eN R w b),[.Compare (cmpL (Zxf (eN R w b))) [.Lt] [cmpR (Zxf (eN R w b))] (cmpPos (Zxf (eN R w b)))],0⟩] (Zxw (eN R w b)) (Zjr (eN R w b))) 0 (.ref it) (.ref acc) (vN R w b fr cr cn ck loc)) (fun r' s'=>n≤s'.heap.objs.size→Rz r' s') (r.at h ⟨t,g⟩):=by
    refine Zvj (src_range (r:=r) (h₀:=h₀) (it:=it) 0 1 ns.length hA.hand) htup (fun o:Option (Nat × Int × Nat)=>[(loc,xV (hz (wb w b)) "j" (oJ o))])
      (fun i o ys m=>(∃ tk',ys = Zz2 (lowL (rs.take i) (ns.take i) x) tk')∧(o.map (·.2.1)) = idx0 i∧n≤m) (t₀:=t) (g₀:=g) (l:=nuObs cr cn ck row nm rs ns tk tn er en (Int.ofNat ns.length) u) (fun p hp=>nomatch hp) (K:=ns.length) (by lia) (fun i q ys m hI hi=>?_) (fun i v o ys m fm hp t1 g1 Q hi hv hI O1 hs1 ht1 hg1 hQ=>?_) (fun o ys ea' m m' hp t1 g1 hI hsz O1 hs1 ht1 hg1=>?_) (oi:=Zzp 0 (Int.ofNat ns.length) 1) (st:=none) (ys:=[]) (ea:=ea) ?_ ⟨⟨fun _=>0,rfl⟩,rfl,by lia⟩ O (Nat.le_refl _) (Zq5.refl _ _)
    · obtain ⟨⟨tk',rfl⟩,-,-⟩:=hI
      have:=lowL_len x (rs.take i) (ns.take i)
      rw [List.length_take] at this
      rw [Zzb]
      lia
    · obtain ⟨⟨tk',rfl⟩,ho,hnm⟩:=hI
      obtain ⟨uj,rfl⟩:=hv
      have ei:(0:Int) + (i:Int) * 1 = Int.ofNat i:=by show (0:Int) + (i:Int) * 1 = (i:Int); lia
      rw [ei]
      have hri:rs[i]? = some rs[i]:=List.getElem?_eq_getElem (by lia)
      generalize rs[i] = ri at hri
      have hni:ns[i]? = some ns[i]:=List.getElem?_eq_getElem hi
      generalize ns[i] = ni at hni
      refine Turn.one ?_
      rw [← tA (oJ o) (Int.ofNat i) uj m t1]
      refine (asgN_ok fr cr cn ck loc o (Int.ofNat i) uj m t1).use (rest:=nuObs cr cn ck row nm rs ns tk tn er en (Int.ofNat ns.length) u++fm) G (hA.bare (by show 30≤60; lia)) O1 (.refl _) hs1 fun x1 h2 g2 O2 hs2 gr2=>?_
      have hs2:h2.objs.size = m + 0:=hs2
      have O2:Own h₀ ([(loc,xV (hz (wb w b)) "j" (some (x1.nat 2,.int (Int.ofNat i) uj)))]++(nuObs cr cn ck row nm rs ns tk tn er en (Int.ofNat ns.length) u++fm)) h2:=O2
      refine wpAny_isTrue_Compare1 ?_ hmk
      rw [← tL (x1.nat 2) (Int.ofNat i) uj (Zz2 rs tk) er (.int ri (tk i)) (m + 0) (t1 + x1.nat 1)]
      refine (cl_ok fr cr cn ck loc row (x1.nat 2) (by lia) uj (Zv4 rs tk i ri hri) er (m + 0) (t1 + x1.nat 1)).use (rest:=[(cn,Zzq (some (.ref nm))),(ck,Zzq (some (.int (Int.ofNat ns.length) u))),(nm,Zqz (Zz2 ns tn) en)]++fm) G (hA.bare (by show 30≤60; lia)) O2 (by
        simp only [Zq2.preA,clT,cEv,Zqr,nuObs]
        (refine Zqv fun _=>?_; simp +arith only [Zqj,Zqk,Zqc])) hs2 fun x2 h3 g3 O3 hs3 gr3=>?_
      have hs3:h3.objs.size = m + 0 + x2.nat 0:=hs3
      show wpAny _ A (eval (cmpR (Zxf (eN R w b))) (vN R w b fr cr cn ck loc)) _ _ _
      rw [← tR (Int.ofNat ns.length) u (Zz2 rs tk) er (.int x (tk ns.length)) (m + 0 + x2.nat 0) (t1 + x1.nat 1 + x2.nat 1)]
      refine (cr_ok fr cr cn ck loc row u (by lia) (Zv4 rs tk ns.length x hx) er (m + 0 + x2.nat 0) (t1 + x1.nat 1 + x2.nat 1)).use (rest:=[(cn,Zzq (some (.ref nm))),(loc,xV (hz (wb w b)) "j" (some (x1.nat 2,.int (Int.ofNat i) uj))),(nm,Zqz (Zz2 ns tn) en)]++fm) G (hA.bare (by show 30≤60; lia)) O3 (by
        simp only [Zq2.preA,Zq2.postA,clT,crT,cEv,Zqr]
        (refine Zqv fun _=>?_; simp +arith only [Zqj,Zqk,Zqc])) hs3 fun x3 h4 g4 O4 hs4 gr4=>?_
      have hs4:h4.objs.size = m + 0 + x2.nat 0 + x3.nat 0:=hs4
      refine wpAny_lt_int (wpAny_truthy_bool ?_)
      have O4:Own h₀ ([(loc,xV (hz (wb w b)) "j" (some (x1.nat 2,.int (Int.ofNat i) uj)))]++(nuObs cr cn ck row nm rs ns tk tn er en (Int.ofNat ns.length) u++fm)) h4:=O4.perm (by
        simp only [Zq2.postA,crT,cEv,Zqr,nuObs]
        (refine Zqv fun _=>?_; simp +arith only [Zqj,Zqk,Zqc]))
      have gr':=Zq5.trans (d:=true) (Zq5.trans (d:=true) gr2 gr3 fun e=>Bool.noConfusion e) gr4 fun e=>Bool.noConfusion e
      have hstep:=lowL_snoc x ri ni (rs.take i) (ns.take i) (by rw [List.length_take,List.length_take]; lia)
      rw [← Zz4 hri,← Zz4 hni] at hstep
      by_cases hlt:ri < x
      · rw [if_pos hlt] at hstep
        rw [if_pos (decide_eq_true hlt)]
        rw [← tE (x1.nat 2) (Int.ofNat i) uj (Zz2 ns tn) en ni (m + 0 + x2.nat 0 + x3.nat 0) (t1 + x1.nat 1 + x2.nat 1 + x3.nat 1)]
        refine (ce_ok fr cr cn ck loc nm (x1.nat 2) (by lia) uj (Zv4 ns tn i ni hni) en (m + 0 + x2.nat 0 + x3.nat 0) (t1 + x1.nat 1 + x2.nat 1 + x3.nat 1)).use (rest:=[(cr,Zzq (some (.ref row))),(ck,Zzq (some (.int (Int.ofNat ns.length) u))),(row,Zqz (Zz2 rs tk) er)]++fm) G (hA.bare (by show 30≤60; lia)) O4 (by
          simp only [Zq2.preA,ceT,cEv,Zqr,nuObs]
          (refine Zqv fun _=>?_; simp +arith only [Zqj,Zqk,Zqc])) hs4 fun x4 h5 g5 O5 hs5 gr5=>?_
        have hs5:h5.objs.size = m + 0 + x2.nat 0 + x3.nat 0 + x4.nat 0:=hs5
        obtain ⟨tk2,h2'⟩:=intV_snoc (lowL (rs.take i) (ns.take i) x) (1 + ni) tk' (x4.nat 2)
        refine hQ (some (.int (1 + ni) (x4.nat 2))) (some (x1.nat 2,Int.ofNat i,uj)) _ h5 _ g5 ⟨⟨tk2,?_⟩,rfl,by lia⟩ (O5.perm (by
          simp only [Zq2.postA,ceT,cEv,Zqr,nuObs]
          show List.Perm _ ([(loc,xV (hz (wb w b)) "j" (some (x1.nat 2,.int (Int.ofNat i) uj)))]++_)
          (refine Zqv fun _=>?_; simp +arith only [Zqj,Zqk,Zqc]))) hs5 (by lia) (Zq5.trans (d:=true) gr' gr5 fun e=>Bool.noConfusion e)
        rw [hstep]; exact h2'
      · rw [if_neg hlt,List.append_nil] at hstep
        rw [if_neg (by simpa using hlt)]
        refine hQ none (some (x1.nat 2,Int.ofNat i,uj)) _ h4 _ g4 ⟨⟨tk',?_⟩,rfl,by lia⟩ O4 hs4 (by lia) gr'
        rw [hstep]; simp
    · obtain ⟨⟨tk',rfl⟩,ho,hnm⟩:=hI
      rw [List.take_length,← hlow] at O1
      rw [← hne] at ho
      intro hnm'
      have hnm':n≤hp.objs.size:=hnm'
      have he:xV (hz (wb w b)) "j" (oJ o) = lastJ (hz (wb w b)) "j" ne ⟨fun j=>match j with | 0=>hp.objs.size - n | 1=>t1 - t | 2=>ea' | 3=>0 | 4=>(o.map (·.1)).getD 0 | _=>(o.map (·.2.2)).getD 0,fun _=>#[],fun _ _=>tk',Ext.nil.ob⟩:=by
        rw [← ho]
        cases o with
        | none=>rfl
        | some _=>rfl
      have fin:=hR ⟨fun j=>match j with | 0=>hp.objs.size - n | 1=>t1 - t | 2=>ea' | 3=>0 | 4=>(o.map (·.1)).getD 0 | _=>(o.map (·.2.2)).getD 0,fun _=>#[],fun _ _=>tk',Ext.nil.ob⟩ hp g1 (O1.perm (by
        simp only [Con.postA,ncCon,Zqr,ghB]
        rw [← he]
        (refine Zqv fun _=>?_; simp +arith only [Zqj,Zqk,Zqc]))) (Nat.add_sub_cancel' hnm').symm hg1
      have et:t + (t1 - t) = t1:=by lia
      change Rz (.ok .next) (r.at hp ⟨t + (t1 - t),g1⟩) at fin
      rw [et] at fin
      exact fin
    · show Zzp 0 (Int.ofNat ns.length) 1 = Zzp (0 + ((0:Nat):Int) * 1) ((ns.length:Int) - ((0:Nat):Int)) 1
      have e1:(0:Int) + ((0:Nat):Int) * 1 = 0:=by lia
      have e2:(ns.length:Int) - ((0:Nat):Int) = Int.ofNat ns.length:=by show (ns.length:Int) - ((0:Nat):Int) = (ns.length:Int); lia
      rw [e1,e2]
  show codeAny _ A (.compStart (eN R w b) 0 (.ref it) (.ref acc) (vN R w b fr cr cn ck loc)) (fun r' s'=>n≤s'.heap.objs.size→Rz r' s') _
  rw [hc,hif]
  exact codeAny_compStart_list loop (wpAny_pyIter_rangeiter (s:=r.at h ⟨t,g⟩) (O.own (it,_) (.head _)) loop)
end
noncomputable def Zxg (rs:List Int):Nat→List Int
  | 0=>[]
  | k + 1=>Zxg rs k++[maxL (0::lowL (rs.take k) (Zxg rs k) (rs.getD k 0))]
noncomputable def numsOf' (rs:List Int):List Int:=Zxg rs rs.length
theorem Zj1 (rs:List Int):∀ k,(Zxg rs k).length = k
  | 0=>rfl
  | k + 1=>by
    show (Zxg rs k++[_]).length = k + 1
    rw [List.length_append,Zj1 rs k]; rfl
section
variable {prog:Program} {w:World} {b:Bool} {R:RO}
theorem rgFam_ok {m:Nat} (hm:m≤1000) (n t:Nat) (c:Code) (l:List (Option (Addr × Obj))) (bb:List (Option Bag)):Zq1 (T3 R) prog (wb w b) n t (riFam 0 (Int.ofNat m) 1 (Int.ofNat m) n t c l bb):=by
  obtain ⟨h1,h2⟩:=range0 m (by lia)
  exact rgi_ok h1 h2 _ _ _ _ n t
theorem nup_ok (row n t:Nat):Zqn (T3 R) prog (wb w b) n t (nuPrep Zjw (Zqd R (wb w b)) row n t) :=
  Zqs (ex:=ex0) (P:=fun _=>[]) Zqq rfl rfl 4 (fun _=>rfl) (NUP_v prog w b R row n t) fun f q hq=>nomatch hq
theorem nu0_ok (fr cr cn ck n t:Nat):Zqn (T3 R) prog (wb w b) n t (nu0 (Zqd R (wb w b)) Zqm fr cr cn ck n t) :=
  Zqw (ex:=ad2) Zqq rfl rfl (N0_v prog w b R fr cr cn ck n t) fun f q hq=>nomatch hq
theorem nui_ok {rs:List Int} (hN:rs.length≤1000) (fr cr cn ck row:Nat) (tk:Nat→Nat) (er n t:Nat):Zqn (T3 R) prog (wb w b) n t (nuI (Zqd R (wb w b)) Zq9 fsiZ Zjq fr cr cn ck row rs tk er n t) :=
  Zqw (ex:=ad2) (Zqx (fun n' t' c l bb=>len_ok (Zzb _ _) (by rw [Zzb]; lia) n' t') (Zqx (rgFam_ok hN) Zqq)) rfl rfl (NI_v prog w b R fr cr cn ck row rs tk er n t) fun f q hq=>nomatch hq
theorem nua_ok (fr cr cn ck:Nat) (o:Option (Int × Nat)) (v:Int) (u n t:Nat):Zqn (T3 R) prog (wb w b) n t (nuA Zqg (Zqd R (wb w b)) fr cr cn ck o v u n t):=by
  cases o with
  | none=>exact Zqw (ex:=ex0) Zqq rfl rfl (NA0_v prog w b R fr cr cn ck v u n t) fun f q hq=>nomatch hq
  | some o=>exact Zqw (ex:=ex0) Zqq rfl rfl (NA1_v prog w b R fr cr cn ck o v u n t) fun f q hq=>nomatch hq
theorem nub_ok {rs ns:List Int} {x:Int} (hx:rs[ns.length]? = some x) (hN:ns.length≤1000) (fr cr cn ck row nm:Nat) (tk tn:Nat→Nat) (er en u n t:Nat) :
    Zqn (T3 R) prog (wb w b) n t (nuB (Zqd R (wb w b)) Zqm fr cr cn ck row nm rs ns tk tn er en u (maxL (0::lowL (rs.take ns.length) ns x)) n t):=by
  have hsz:1001≤sizeLine:=by decide +kernel
  have hl:(lowL (rs.take ns.length) ns x).length≤1000:=by
    have:=lowL_len x (rs.take ns.length) ns
    rw [List.length_take] at this
    lia
  have hC:∀ ne,ne = idx0 ns.length→Zx1 (T3 R) prog (wb w b) (nbFams w b R fr cr cn ck row nm rs ns tk tn er en u (lowL (rs.take ns.length) ns x) (maxL (0::lowL (rs.take ns.length) ns x)) ne):=fun ne hne =>
    Zqx (rgFam_ok hN) (Zqx (fun n' t' c l bb=>nc_ok hx hN rfl hne _ _ _ _ _ _ _ _ _ tk tn er en u _ n' t') (Zqx (fun n' t' c l bb=>la_ok (by lia) _ _ _ _ _ _ n' t') (Zqx (fun n' t' c l bb=>mx_ok (.head _) rfl _ _ _ n' t') (Zqx (fun n' t' c l bb=>ap_ok (by rw [Zzb]; lia) n' t') Zqq))))
  cases e:ns.length with
  | zero =>
    have z:=hC none (by rw [e]; rfl)
    rw [e] at z
    exact Zqw (ex:=nbEx) z rfl rfl (NB0_v prog w b R fr cr cn ck row nm rs ns tk tn er en u (lowL (rs.take 0) ns x) _ n t) fun f q hq=>nomatch hq
  | succ i =>
    have z:=hC (some (Int.ofNat i)) (by rw [e]; rfl)
    rw [e] at z
    exact Zqw (ex:=nbEx) z rfl rfl (NB1_v prog w b R fr cr cn ck row nm rs ns tk tn er en u (lowL (rs.take (i + 1)) ns x) _ (Int.ofNat i) n t) fun f q hq=>nomatch hq
theorem nur_ok (fr cr cn ck nm n t:Nat):Zqn (T3 R) prog (wb w b) n t (nuR (Zqd R (wb w b)) Zqm fr cr cn ck nm n t) :=
  Zqw (ex:=ex0) Zqq rfl rfl (NR_v prog w b R fr cr cn ck nm n t) fun f q hq=>nomatch hq
noncomputable abbrev s799 (R:RO) (w:World) (b:Bool) (k:Nat):Stmt:=nuS (Zqd R (wb w b)) k
theorem d799:((Zqd R (wb w b) 799).bind isDef) = some (Zxv (Zqd R (wb w b)) 799):=by cases b <;> kernel_rfl
theorem body799:(Zxv (Zqd R (wb w b)) 799).body = .stmts [s799 R w b 0,s799 R w b 1,s799 R w b 2]:=by cases b <;> kernel_rfl
theorem for799:s799 R w b 1 = .For (Zzd (s799 R w b 1)) (Zv7 (s799 R w b 1)) (Zj3 (s799 R w b 1)) [] (forPos (s799 R w b 1)):=by cases b <;> kernel_rfl
theorem tup799 (it v:Value):letOwnedTupleGo (Zzd (s799 R w b 1)) it v = pure ():=by cases b <;> kernel_rfl
theorem nu_loop {A:Around} (hA:AOk A none 100) {h₀:Heap} (G:Ground (T3 R) (wb w b) h₀) {fr cr cn ck row nm it:Nat} {rs:List Int} (hN:rs.length≤1000) {tk:Nat→Nat} {er:Nat} {r:Zkc} {g₀:Array GenState} {t₀:Nat} {Rz:Result→Shared→Prop}
    (hend:∀ o tn en h' t' g',Own h₀ [(cr,Zzq (some (.ref row))),(cn,Zzq (some (.ref nm))),(ck,Zzq o),(row,Zqz (Zz2 rs tk) er),(nm,Zqz (Zz2 (numsOf' rs) tn) en)] h'→t₀≤t'→Zq5 true g₀ g'→Rz (.ok .next) (r.at h' ⟨t',g'⟩))
    {en:Nat} {h:Heap} {t:Nat} {g:Array GenState}
    (O:Own h₀ [(it,Zzp 0 (Int.ofNat rs.length) 1),(cr,Zzq (some (.ref row))),(cn,Zzq (some (.ref nm))),(ck,Zzq none),(row,Zqz (Zz2 rs tk) er),(nm,Zqz [] en)] h) (ht:t₀≤t) (hg:Zq5 true g₀ g) :
    codeAny (model prog (wb w b)) A (.forLoop (Zzd (s799 R w b 1)) (.ref it) (Zj3 (s799 R w b 1)) [] (Zvs (Zqd R (wb w b)) fr cr cn ck)) Rz (r.at h ⟨t,g⟩):=by
  have S:=fun l'=>src_range (prog:=prog) (w:=wb w b) (A:=A) (h₀:=h₀) (r:=r) (it:=it) 0 1 l' hA.hand
  refine codeAny_forLoop (fun mm s=>∃ (i:Nat) (oi:Obj) (o:Option (Int × Nat)) (tn:Nat→Nat) (en:Nat) (h:Heap) (t:Nat) (g:Array GenState),s = r.at h ⟨t,g⟩∧mm = rs.length - i∧i≤rs.length∧oi = Zzp (0 + i * 1) (rs.length - i) 1 ∧
      Own h₀ ((it,oi)::[(cr,Zzq (some (.ref row))),(cn,Zzq (some (.ref nm))),(ck,Zzq (o.map fun p=>.int p.1 p.2)),(row,Zqz (Zz2 rs tk) er),(nm,Zqz (Zz2 (Zxg rs i) tn) en)]) h∧t₀≤t∧Zq5 true g₀ g) ?_ rs.length
    ⟨0,Zzp 0 (Int.ofNat rs.length) 1,none,fun _=>0,en,h,t,g,rfl,rfl,Nat.zero_le _,?_,O,ht,hg⟩ (fun v=>tup799 _ v)
  · rintro mm s ⟨i,oi,o,tn,en,h,t,g,rfl,rfl,hi,hat,O,ht,hg⟩
    by_cases hlt:i < rs.length
    · refine (S rs.length).next hlt hat (fun p hp=>nomatch hp) O fun oi' h1 v t1 hat1 hv O1 hs1 ht1=>?_
      obtain ⟨u,rfl⟩:=hv
      have ei:(0:Int) + (i:Int) * 1 = Int.ofNat i:=by show (0:Int) + (i:Int) * 1 = (i:Int); lia
      rw [ei]
      have hx:rs[i]? = some rs[i]:=List.getElem?_eq_getElem hlt
      have hgd:rs.getD i 0 = rs[i]:=by rw [List.getD_eq_getElem?_getD,hx]; rfl
      generalize rs[i] = x at hx hgd
      have e1:(nuA Zqg (Zqd R (wb w b)) fr cr cn ck o (Int.ofNat i) u h1.objs.size t1).tree = assign (Zzd (s799 R w b 1)) (Zvs (Zqd R (wb w b)) fr cr cn ck) (.int (Int.ofNat i) u):=by
        unfold nuA; dsimp only; rw [Zxk]
      show wpAny _ A (assign (Zzd (s799 R w b 1)) (Zvs (Zqd R (wb w b)) fr cr cn ck) (.int (Int.ofNat i) u)) _ _ _
      refine eqT e1 ?_
      refine (nua_ok fr cr cn ck o (Int.ofNat i) u h1.objs.size t1).use (rest:=[(it,oi'),(cr,Zzq (some (.ref row))),(cn,Zzq (some (.ref nm))),(row,Zqz (Zz2 rs tk) er),(nm,Zqz (Zz2 (Zxg rs i) tn) en)]) G (hA.bare (by show 20≤100; lia)) O1 (by
        simp only [Zq2.preA,nuA,Zqr]
        (refine Zqv fun _=>?_; simp +arith only [Zqj,Zqk,Zqc])) rfl fun y h2 g2 O2 hs2 gr2=>?_
      have e2:∀ n t,(nuB (Zqd R (wb w b)) Zqm fr cr cn ck row nm rs (Zxg rs i) tk tn er en u (maxL (0::lowL (rs.take (Zxg rs i).length) (Zxg rs i) x)) n t).tree = execs (Zj3 (s799 R w b 1)) (Zvs (Zqd R (wb w b)) fr cr cn ck):=fun n t=>by
        unfold nuB; dsimp only; rw [Zzm]
      show wpAny _ A (execs (Zj3 (s799 R w b 1)) (Zvs (Zqd R (wb w b)) fr cr cn ck)) _ _ _
      rw [← e2 (h1.objs.size + y.nat 0) (t1 + y.nat 1)]
      refine (nub_ok (ns:=Zxg rs i) (by rw [Zj1]; exact hx) (by rw [Zj1]; lia) fr cr cn ck row nm tk tn er en u (h1.objs.size + y.nat 0) (t1 + y.nat 1)).use (rest:=[(it,oi')]) G (hA.bare (by show 90≤100; lia)) O2 (by
        simp only [Zq2.preA,Zq2.postA,nuA,nuB,nuObs,Zqr,Zj1]
        (refine Zqv fun _=>?_; simp +arith only [Zqj,Zqk,Zqc])) hs2 fun z h3 g3 O3 hs3 gr3=>?_
      obtain ⟨tn',htn⟩:=intV_snoc (Zxg rs i) (maxL (0::lowL (rs.take (Zxg rs i).length) (Zxg rs i) x)) tn (z.nat 2)
      refine ⟨rs.length - (i + 1),by lia,i + 1,oi',some (Int.ofNat i,u),tn',z.nat 3,h3,_,g3,rfl,rfl,hlt,hat1,O3.perm ?_,by lia,Zq5.trans (d:=true) (Zq5.trans (d:=true) hg gr2 fun e=>Bool.noConfusion e) gr3 fun e=>Bool.noConfusion e⟩
      have eup:Zxg rs (i + 1) = Zxg rs i++[maxL (0::lowL (rs.take (Zxg rs i).length) (Zxg rs i) x)]:=by
        show Zxg rs i++[maxL (0::lowL (rs.take i) (Zxg rs i) (rs.getD i 0))] = _
        rw [hgd,Zj1]
      rw [eup,← htn]
      simp only [Zq2.postA,nuB,Zqr,Zj1,Option.map_some]
      (refine Zqv fun _=>?_; simp +arith only [Zqj,Zqk,Zqc])
    · have hiN:i = rs.length:=by lia
      subst hiN
      refine (S rs.length).done hat (fun p hp=>nomatch hp) O fun h' O' _=>?_
      exact wpAny_execs_nil (hend _ tn en h' t g O' ht hg)
  · have e1:(0:Int) + ((0:Nat):Int) * 1 = 0:=by lia
    have e2:(rs.length:Int) - ((0:Nat):Int) = Int.ofNat rs.length:=by show (rs.length:Int) - ((0:Nat):Int) = (rs.length:Int); lia
    rw [e1,e2]
end
section
variable {prog:Program} {w:World} {b:Bool} {R:RO}
theorem nu_ok {rs:List Int} (hN:rs.length≤1000) {ns:List Int} (hns:ns = numsOf' rs) (row:Addr) (g0:Nat→Nat→Nat) (n t:Nat):Zq1 (T3 R) prog (wb w b) n t (nuCon rs ns row g0):=by
  subst hns
  refine ⟨fun h₀ h r g A Rz G hA O hs hR=>?_⟩
  have O:Own h₀ [(row,Zqz (Zz2 rs (g0 0)) (g0 1 0))] h:=O
  have hA:AOk A none 110:=hA
  refine Zxp (n:=n) (by show n≤h.objs.size; lia) ?_
  obtain ⟨o,ho,hd⟩:=Option.bind_eq_some_iff.mp (d799 (w:=w) (b:=b) (R:=R))
  have hcall:AOk (A.under (.call (.ref 799) ⟨[.ref row],[]⟩)) none 109:=hA.under (Zzn rfl)
  refine fn_call (O.keep _ _ (G.top _ _ ho)) hd hcall.room ?_
  have e2:(nuPrep Zjw (Zqd R (wb w b)) row n t).tree = Zkz 799 (Zxv (Zqd R (wb w b)) 799) ⟨[.ref row],[]⟩:=by
    unfold nuPrep
    exact congrFun (congrFun (congrFun Zvv 799) (Zxv (Zqd R (wb w b)) 799)) ⟨[.ref row],[]⟩
  refine eqT e2 ?_
  refine (nup_ok row n t).use (rest:=[(row,Zqz (Zz2 rs (g0 0)) (g0 1 0))]) G (hcall.bare (by show 20≤109; lia)) O (.refl _) hs fun x h1 g1 O1 hs1 gr1=>⟨G.nolimit.keeps O1.keep,?_⟩
  have O1:Own h₀ ([(n,frO #[] 0 #[]),(n + 1,Zzq (some (.ref row))),(n + 2,Zzq none),(n + 3,Zzq none)]++[(row,Zqz (Zz2 rs (g0 0)) (g0 1 0))]) h1:=O1
  have ht1:t≤t + x.nat 1:=by lia
  generalize t + x.nat 1 = t1 at ht1 ⊢
  generalize n + 1 = cr at O1
  generalize n + 2 = cn at O1
  generalize n + 3 = ck at O1
  have hfun:AOk (A.under (.func [s799 R w b 0,s799 R w b 1,s799 R w b 2] (Zvs (Zqd R (wb w b)) n cr cn ck))) none 109:=(hA.under (Zzn rfl)).bare (Nat.le_refl _)
  have tS:∀ n' t',(nu0 (Zqd R (wb w b)) Zqm n cr cn ck n' t').tree = execs [s799 R w b 0] (Zvs (Zqd R (wb w b)) n cr cn ck):=fun n' t'=>by
    unfold nu0; dsimp only; rw [Zzm]
  have tI:∀ tk er n' t',(nuI (Zqd R (wb w b)) Zq9 fsiZ Zjq n cr cn ck row rs tk er n' t').tree = forIt eval foldedSetIterable pyIter (Zv7 (s799 R w b 1)) (Zvs (Zqd R (wb w b)) n cr cn ck):=fun tk er n' t'=>by
    unfold nuI; dsimp only; rw [Zzx,fsiZ_eq,pyIterZ_eq]
  have tR:∀ nm n' t',(nuR (Zqd R (wb w b)) Zqm n cr cn ck nm n' t').tree = execs [s799 R w b 2] (Zvs (Zqd R (wb w b)) n cr cn ck):=fun nm n' t'=>by
    unfold nuR; dsimp only; rw [Zzm]
  unfold Zjm
  rw [body799]
  dsimp only
  generalize hA2:A.under (.func [s799 R w b 0,s799 R w b 1,s799 R w b 2] (Zvs (Zqd R (wb w b)) n cr cn ck)) = A2 at hfun
  refine fn_body ?_
  rw [hA2,Zzr]
  refine wpAny_bind ?_
  rw [← tS (n + 4) t1]
  refine (nu0_ok n cr cn ck (n + 4) t1).use (rest:=[(n,frO #[] 0 #[]),(cr,Zzq (some (.ref row))),(ck,Zzq none),(row,Zqz (Zz2 rs (g0 0)) (g0 1 0))]) G (hfun.bare (by show 20≤109; lia)) O1 (by
    simp only [Zq2.preA,nu0,Zqr]
    (refine Zqv fun _=>?_; simp +arith only [Zqj,Zqk,Zqc])) hs1 fun y h2 g2 O2 hs2 gr2=>?_
  have ht2:t1≤t1 + y.nat 1:=by lia
  generalize t1 + y.nat 1 = t2 at ht2 ⊢
  show wpAny _ A2 (execs (s799 R w b 1::_) _) _ _ _
  rw [Zzr]
  refine wpAny_bind ?_
  rw [Zj4,for799,exec_For_eq]
  refine wpAny_bind (wpAny_standAt (wpAny_bind ?_))
  rw [← tI (g0 0) (g0 1 0) (n + 4 + y.nat 0) t2]
  refine (nui_ok hN n cr cn ck row (g0 0) (g0 1 0) (n + 4 + y.nat 0) t2).use (rest:=[(n,frO #[] 0 #[]),(cn,Zzq (some (.ref (y.nat 2)))),(ck,Zzq none),(y.nat 2,Zqz [] (y.nat 3))]) G (hfun.bare (by show 60≤109; lia)) O2 (by
    simp only [Zq2.preA,Zq2.postA,nu0,nuI,Zqr]
    (refine Zqv fun _=>?_; simp +arith only [Zqj,Zqk,Zqc])) hs2 fun z h3 g3 O3 hs3 gr3=>?_
  have ht3:t2≤t2 + z.nat 1:=by lia
  generalize t2 + z.nat 1 = t3 at ht3 ⊢
  show wpAny _ A2 (runOwn (.forLoop (Zzd (s799 R w b 1)) (.ref (z.nat 2)) (Zj3 (s799 R w b 1)) [] (Zvs (Zqd R (wb w b)) n cr cn ck)) (Zvs (Zqd R (wb w b)) n cr cn ck)) _ _ _
  refine wpAny_runOwn ?_
  refine nu_loop (fr:=n) (cr:=cr) (cn:=cn) (ck:=ck) (row:=row) (nm:=y.nat 2) (it:=z.nat 2) (tk:=g0 0) (er:=g0 1 0) (t₀:=t) (g₀:=g) (en:=y.nat 3) (hfun.bare (by lia)) G hN ?_ (Own.drop (r:=[(n,frO #[] 0 #[])]) (O3.perm (by
    simp only [Zq2.postA,nuI,Zqr]
    (refine Zqv fun _=>?_; simp +arith only [Zqj,Zqk,Zqc])))) (by lia) (Zq5.trans (d:=true) (Zq5.trans (d:=true) gr1 gr2 fun e=>Bool.noConfusion e) gr3 fun e=>Bool.noConfusion e)
  intro o tn en h' t' g' O' ht' hg'
  show wpAny _ A2 (execs [s799 R w b 2] (Zvs (Zqd R (wb w b)) n cr cn ck)) _ _ _
  rw [← tR (y.nat 2) h'.objs.size t']
  refine (nur_ok n cr cn ck (y.nat 2) h'.objs.size t').use (rest:=[(cr,Zzq (some (.ref row))),(ck,Zzq o),(row,Zqz (Zz2 rs (g0 0)) (g0 1 0)),(y.nat 2,Zqz (Zz2 (numsOf' rs) tn) en)]) G (hfun.bare (by show 20≤109; lia)) O' (by
    simp only [Zq2.preA,nuR,Zqr]
    (refine Zqv fun _=>?_; simp +arith only [Zqj,Zqk,Zqc])) rfl fun x4 h4 g4 O4 hs4 gr4 hn'=>?_
  have hn':n≤h4.objs.size:=hn'
  have fin:=hR ⟨fun j=>match j with | 0=>h4.objs.size - n | 1=>t' + x4.nat 1 - t | 2=>y.nat 2 | _=>en,fun _=>#[],fun _ _=>tn,Ext.nil.ob⟩ h4 g4 (Own.drop (r:=[(cn,Zzq (some (.ref (y.nat 2)))),(cr,Zzq (some (.ref row))),(ck,Zzq o),(row,Zqz (Zz2 rs (g0 0)) (g0 1 0))]) (O4.perm (by
    simp only [Zq2.postA,Con.postA,nuR,nuCon,Zqr]
    (refine Zqv fun _=>?_; simp +arith only [Zqj,Zqk,Zqc])))) (Nat.add_sub_cancel' hn').symm (Zq5.trans (d:=true) hg' gr4 fun e=>Bool.noConfusion e)
  have et:t + (t' + x4.nat 1 - t) = t' + x4.nat 1:=by lia
  change Rz (.ok (.ret (.ref (y.nat 2)))) (r.at h4 ⟨t + (t' + x4.nat 1 - t),g4⟩) at fin
  rw [et] at fin
  exact fin
theorem lw7_ok {ks:List (F6)} (hks:ks.length≤1000) {W:List Nat} (hne:(ks.map Zzc).getLast? = some W) (ft:Nat→Nat) (cut:Int) (u:Nat) (la ls lp ld:Addr) (sl:Array (Option Value)) (tk:Nat→Nat) (ep n t:Nat) :
    Zqn (T3 R) prog (wb w b) n t (lw7 (hz (wb w b)) (Zqd R (wb w b)) Zqm ft cut u la ls lp ld sl ks tk ep (numsOf' (ks.map R.rk)) n t) :=
  Zqw (ex:=lw7Ex) (Zqx (fun n' t' c l bb=>c7_ok hks hne _ _ _ _ _ _ n' t') (Zqx (fun n' t' c l bb=>nu_ok (by rw [List.length_map]; exact hks) rfl _ _ n' t') Zqq)) rfl rfl (LW71_v prog w b R ft cut u la ls lp ld sl ks R.rk tk ep _ W n t) fun f q hq=>nomatch hq
end
theorem rowD_snoc (zs:List (F6 × Int)) (p:F6 × Int) (x:Int):rowD (zs++[p]) x = rowD zs x++(if p.2 == x then [p.1] else []):=by
  unfold rowD
  rw [List.filter_append,List.map_append]
  by_cases h:(p.2 == x) = true
  · simp [h]
  · simp [h]
theorem rowD_len (zs:List (F6 × Int)) (x:Int):(rowD zs x).length≤zs.length:=by
  unfold rowD
  rw [List.length_map]
  exact List.length_filter_le _ _
theorem zrev_get {ks:List (F6)} {ns:List Int} (hl:ks.length = ns.length) {i:Nat} (hi:i < ks.length):∃ a v,ks[ks.length - 1 - i]? = some a∧ns[ks.length - 1 - i]? = some v∧(zrev ks ns)[i]? = some (a,v):=by
  have h1:ks.length - 1 - i < ks.length:=by lia
  have h2:ks.length - 1 - i < ns.length:=by lia
  refine ⟨ks[ks.length - 1 - i],ns[ks.length - 1 - i],List.getElem?_eq_getElem h1,List.getElem?_eq_getElem h2,?_⟩
  have hz:(ks.zip ns).length = ks.length:=by rw [List.length_zip]; lia
  unfold zrev
  rw [List.getElem?_reverse (by lia),hz,List.getElem?_zip_eq_some]
  exact ⟨List.getElem?_eq_getElem h1,List.getElem?_eq_getElem h2⟩
theorem zrev_len {ks:List (F6)} {ns:List Int} (hl:ks.length = ns.length):(zrev ks ns).length = ks.length:=by
  unfold zrev
  rw [List.length_reverse,List.length_zip]; lia
noncomputable def idxD (m:Nat) (i:Nat):Option Int:=match i with
  | 0=>none
  | i + 1=>some (Int.ofNat (m - 1 - i))
theorem wdV_snoc (ks:List (F6)) (k:F6) (tk:Nat→Nat) (u:Nat):∃ tk',wdV ks tk++[.str (S (Zzc k)) u] = wdV (ks++[k]) tk':=by
  obtain ⟨tk',h⟩:=wsV_snoc (ks.map fun k=>S (Zzc k)) (S (Zzc k)) tk u
  refine ⟨tk',?_⟩
  unfold wdV
  rw [h,List.map_append]; rfl
section
variable {prog:Program} {w:World} {b:Bool} {R:RO}
theorem comp9i:e9i R w b = .ListComp (Zqp (e9i R w b)) [⟨Zq0 (e9i R w b),Zjn (e9i R w b),[Zxf (e9i R w b)],0⟩] (Zxw (e9i R w b)) (Zjr (e9i R w b)):=by cases b <;> kernel_rfl
theorem if9:Zxf (e9i R w b) = .Compare (cmpL (Zxf (e9i R w b))) [.Eq] [cmpR (Zxf (e9i R w b))] (cmpPos (Zxf (e9i R w b))):=by cases b <;> kernel_rfl
theorem mark9:behindInMarks .Eq (cmpR (Zxf (e9i R w b))) = false:=by cases b <;> kernel_rfl
theorem ctup9i (it v:Value):letOwnedTupleGo (Zq0 (e9i R w b)) it v = pure ():=by cases b <;> kernel_rfl
theorem asg9i_ok (loc cn loc2:Addr) (o:Option (Nat × Int × Nat)) (v:Int) (u n t:Nat):Zqn (T3 R) prog (wb w b) n t (cAsg' (hz (wb w b)) Zqg (Zq0 (e9i R w b)) (v9i R w b loc cn loc2) "k" loc2 (oJ o) (.int v u) n t):=by
  cases o with
  | none=>exact Zqs (ex:=fun _ _ l _=>exN fun _=>Zj2 l 0 0) Zqq rfl rfl 0 (fun _=>rfl) (I9A0_v prog w b R loc cn loc2 v u n t) fun f q hq=>nomatch hq
  | some o=>exact Zqs (ex:=fun _ _ l _=>exN fun _=>Zj2 l 0 0) Zqq rfl rfl 0 (fun _=>rfl) (I9A1_v prog w b R loc cn loc2 o.1 o.2.1 o.2.2 v u n t) fun f q hq=>nomatch hq
theorem i9L_ok (loc cn loc2 nm u:Nat) {i:Nat} (hi:i < 2 ^ 62) (tj:Nat) {xs:List Value} {v:Int} {tv:Nat} (hx:xs[i]? = some (.int v tv)) (er n t:Nat):Zqn (T3 R) prog (wb w b) n t (i9L R w b loc cn loc2 nm u (Int.ofNat i) tj xs er (.int v tv) n t) :=
  Zqw (ex:=vEx) (Zqx (giX_ok hi hx) Zqq) rfl rfl (I9L_v prog w b R loc cn loc2 nm u (Int.ofNat i) tj xs er v tv n t) fun f q hq=>nomatch hq
theorem i9R_ok (loc cn loc2:Nat) (x:Int) (ux n t:Nat):Zqn (T3 R) prog (wb w b) n t (i9R R w b loc cn loc2 x ux n t) :=
  Zqw (ex:=vEx) Zqq rfl rfl (I9R_v prog w b R loc cn loc2 x ux n t) fun f q hq=>nomatch hq
theorem i9E_ok (loc cn loc2 u:Nat) {i:Nat} (hi:i < 2 ^ 62) (tj:Nat) {xs:List Value} {W:List Nat} {tv:Nat} (hx:xs[i]? = some (.str (S W) tv)) (ep n t:Nat):Zqn (T3 R) prog (wb w b) n t (i9E R w b loc cn loc2 u (Int.ofNat i) tj xs ep (.str (S W) tv) n t) :=
  Zqw (ex:=vEx) (Zqx (giX_ok hi hx) Zqq) rfl rfl (I9E_v prog w b R loc cn loc2 u (Int.ofNat i) tj xs ep W tv n t) fun f q hq=>nomatch hq
theorem ci_ok {ks:List (F6)} {ns:List Int} (hl:ks.length = ns.length) (hN:ks.length≤1000) (hpos:0 < ks.length) (loc cn loc2 it acc nm:Nat) (tk tn:Nat→Nat) (ep en:Nat) (x:Int) (ux ea n t:Nat) :
    Zq1 (T3 R) prog (wb w b) n t (ciCon (hz (wb w b)) (Zqd R (wb w b)) loc cn loc2 it acc nm ks tk ep ns tn en x ux ea n t):=by
  have hsz:1000≤sizeLine:=by decide +kernel
  refine ⟨fun h₀ h r g A Rz G hA O hn hR=>?_⟩
  have hA:AOk A none 60:=hA
  have O:Own h₀ ((it,Zzp (Int.ofNat ks.length - 1) (Int.ofNat ks.length) (-1))::(acc,Zqz [] ea)::([(loc2,xV (hz (wb w b)) "k" none)]++obI cn nm ks tk ep ns tn en x ux)) h:=O.perm (by
    show List.Perm (([(it,Zzp (Int.ofNat ks.length - 1) (Int.ofNat ks.length) (-1)),(acc,Zqz [] ea),(loc2,xV (hz (wb w b)) "k" none)]++obI cn nm ks tk ep ns tn en x ux)++[]) _
    (refine Zqv fun _=>?_; simp +arith only [Zqj,Zqk,Zqc]))
  have hc:=comp9i (w:=w) (b:=b) (R:=R)
  have hif:=if9 (w:=w) (b:=b) (R:=R)
  have hmk:=mark9 (w:=w) (b:=b) (R:=R)
  have htup:=ctup9i (w:=w) (b:=b) (R:=R) (.ref it)
  have tA:∀ o v u n t,(cAsg' (hz (wb w b)) Zqg (Zq0 (e9i R w b)) (v9i R w b loc cn loc2) "k" loc2 o (.int v u) n t).tree = assign (Zq0 (e9i R w b)) (v9i R w b loc cn loc2) (.int v u):=fun o v u n t=>by
    unfold cAsg'; dsimp only; rw [Zxk]
  have tL:∀ u j tj xs er v n t,(i9L R w b loc cn loc2 nm u j tj xs er v n t).tree = eval (cmpL (Zxf (e9i R w b))) (v9i R w b loc cn loc2):=fun u j tj xs er v n t=>by
    unfold i9L cEv; dsimp only; rw [Zzx]
  have tR:∀ x u n t,(i9R R w b loc cn loc2 x u n t).tree = eval (cmpR (Zxf (e9i R w b))) (v9i R w b loc cn loc2):=fun x u n t=>by
    unfold i9R cEv; dsimp only; rw [Zzx]
  have tE:∀ u j tj xs ep v n t,(i9E R w b loc cn loc2 u j tj xs ep v n t).tree = eval (Zqp (e9i R w b)) (v9i R w b loc cn loc2):=fun u j tj xs ep v n t=>by
    unfold i9E cEv; dsimp only; rw [Zzx]
  refine Zxp (n:=n) (by show n≤h.objs.size; lia) ?_
  have loop:codeAny (model prog (wb w b)) A (.compLoop (.ListComp (Zqp (e9i R w b)) [⟨Zq0 (e9i R w b),Zjn (e9i R w b),[.Compare (cmpL (Zxf (e9i R w b))) [.Eq] [cmpR (Zxf (e9i R w b))] (cmpPos (Zxf (e9i R w b)))],0⟩] (Zxw (e9i R w b)) (Zjr (e9i R w b))) 0 (.ref it) (.ref acc) (v9i R w b loc cn loc2)) (fun r' s'=>n≤s'.heap.objs.size→Rz r' s') (r.at h ⟨t,g⟩):=by
    refine Zvj (src_range (r:=r) (h₀:=h₀) (it:=it) (Int.ofNat ks.length - 1) (-1) ks.length hA.hand) htup (fun o:Option (Nat × Int × Nat)=>[(loc2,xV (hz (wb w b)) "k" (oJ o))])
      (fun i o ys m=>(∃ tk',ys = wdV (rowD ((zrev ks ns).take i) x) tk')∧(o.map (·.2.1)) = idxD ks.length i∧n≤m) (t₀:=t) (g₀:=g) (l:=obI cn nm ks tk ep ns tn en x ux) (fun p hp=>nomatch hp) (K:=ks.length) (by lia) (fun i q ys m hI hi=>?_) (fun i v o ys m fm hp t1 g1 Q hi hv hI O1 hs1 ht1 hg1 hQ=>?_) (fun o ys ea' m m' hp t1 g1 hI hsz O1 hs1 ht1 hg1=>?_) (oi:=Zzp (Int.ofNat ks.length - 1) (Int.ofNat ks.length) (-1)) (st:=none) (ys:=[]) (ea:=ea) ?_ ⟨⟨fun _=>0,rfl⟩,rfl,by lia⟩ O (Nat.le_refl _) (Zq5.refl _ _)
    · obtain ⟨⟨tk',rfl⟩,-,-⟩:=hI
      have:=rowD_len ((zrev ks ns).take i) x
      rw [List.length_take] at this
      rw [Zzk]
      lia
    · obtain ⟨⟨tk',rfl⟩,ho,hnm⟩:=hI
      obtain ⟨uj,rfl⟩:=hv
      obtain ⟨a,v,hka,hnv,hzr⟩:=zrev_get hl hi
      have ei:(Int.ofNat ks.length - 1) + (i:Int) * (-1) = Int.ofNat (ks.length - 1 - i):=by show ((ks.length:Int) - 1) + (i:Int) * (-1) = ((ks.length - 1 - i:Nat):Int); lia
      rw [ei]
      have hk62:ks.length - 1 - i < 2 ^ 62:=by lia
      generalize hkk:ks.length - 1 - i = kk at hka hnv hk62
      refine Turn.one ?_
      rw [← tA (oJ o) (Int.ofNat kk) uj m t1]
      refine (asg9i_ok loc cn loc2 o (Int.ofNat kk) uj m t1).use (rest:=obI cn nm ks tk ep ns tn en x ux++fm) G (hA.bare (by show 30≤60; lia)) O1 (.refl _) hs1 fun x1 h2 g2 O2 hs2 gr2=>?_
      have hs2:h2.objs.size = m + 0:=hs2
      have O2:Own h₀ ([(loc2,xV (hz (wb w b)) "k" (some (x1.nat 2,.int (Int.ofNat kk) uj)))]++(obI cn nm ks tk ep ns tn en x ux++fm)) h2:=O2
      refine wpAny_isTrue_Compare1 ?_ hmk
      rw [← tL (x1.nat 2) (Int.ofNat kk) uj (Zz2 ns tn) en (.int v (tn kk)) (m + 0) (t1 + x1.nat 1)]
      refine (i9L_ok loc cn loc2 nm (x1.nat 2) hk62 uj (Zv4 ns tn kk v hnv) en (m + 0) (t1 + x1.nat 1)).use (rest:=[(807,Zzq (some (.ref 828))),(cn,Zzq (some (.int x ux))),(828,Zqz (wdV ks tk) ep)]++fm) G (hA.bare (by show 30≤60; lia)) O2 (by
        simp only [Zq2.preA,i9L,cEv,Zqr,obI]
        (refine Zqv fun _=>?_; simp +arith only [Zqj,Zqk,Zqc])) hs2 fun x2 h3 g3 O3 hs3 gr3=>?_
      have hs3:h3.objs.size = m + 0 + x2.nat 0:=hs3
      show wpAny _ A (eval (cmpR (Zxf (e9i R w b))) (v9i R w b loc cn loc2)) _ _ _
      rw [← tR x ux (m + 0 + x2.nat 0) (t1 + x1.nat 1 + x2.nat 1)]
      refine (i9R_ok loc cn loc2 x ux (m + 0 + x2.nat 0) (t1 + x1.nat 1 + x2.nat 1)).use (rest:=[(loc2,xV (hz (wb w b)) "k" (some (x1.nat 2,.int (Int.ofNat kk) uj))),(808,Zzq (some (.ref nm))),(nm,Zqz (Zz2 ns tn) en),(807,Zzq (some (.ref 828))),(828,Zqz (wdV ks tk) ep)]++fm) G (hA.bare (by show 30≤60; lia)) O3 (by
        simp only [Zq2.preA,Zq2.postA,i9L,i9R,cEv,Zqr]
        (refine Zqv fun _=>?_; simp +arith only [Zqj,Zqk,Zqc])) hs3 fun x3 h4 g4 O4 hs4 gr4=>?_
      have hs4:h4.objs.size = m + 0 + x2.nat 0 + x3.nat 0:=hs4
      refine wpAny_eq_int (wpAny_truthy_bool ?_)
      have O4:Own h₀ ([(loc2,xV (hz (wb w b)) "k" (some (x1.nat 2,.int (Int.ofNat kk) uj)))]++(obI cn nm ks tk ep ns tn en x ux++fm)) h4:=O4.perm (by
        simp only [Zq2.postA,i9R,cEv,Zqr,obI]
        (refine Zqv fun _=>?_; simp +arith only [Zqj,Zqk,Zqc]))
      have gr':=Zq5.trans (d:=true) (Zq5.trans (d:=true) gr2 gr3 fun e=>Bool.noConfusion e) gr4 fun e=>Bool.noConfusion e
      have hstep:=rowD_snoc ((zrev ks ns).take i) (a,v) x
      rw [← Zz4 hzr] at hstep
      by_cases hlt:(v == x) = true
      · rw [if_pos hlt] at hstep
        rw [if_pos hlt]
        rw [← tE (x1.nat 2) (Int.ofNat kk) uj (wdV ks tk) ep (.str (S (Zzc a)) (tk kk)) (m + 0 + x2.nat 0 + x3.nat 0) (t1 + x1.nat 1 + x2.nat 1 + x3.nat 1)]
        refine (i9E_ok loc cn loc2 (x1.nat 2) hk62 uj (wdV_get ks tk kk a hka) ep (m + 0 + x2.nat 0 + x3.nat 0) (t1 + x1.nat 1 + x2.nat 1 + x3.nat 1)).use (rest:=[(808,Zzq (some (.ref nm))),(cn,Zzq (some (.int x ux))),(nm,Zqz (Zz2 ns tn) en)]++fm) G (hA.bare (by show 30≤60; lia)) O4 (by
          simp only [Zq2.preA,i9E,cEv,Zqr,obI]
          (refine Zqv fun _=>?_; simp +arith only [Zqj,Zqk,Zqc])) hs4 fun x4 h5 g5 O5 hs5 gr5=>?_
        have hs5:h5.objs.size = m + 0 + x2.nat 0 + x3.nat 0 + x4.nat 0:=hs5
        obtain ⟨tk2,h2'⟩:=wdV_snoc (rowD ((zrev ks ns).take i) x) a tk' (tk kk)
        refine hQ (some (.str (S (Zzc a)) (tk kk))) (some (x1.nat 2,Int.ofNat kk,uj)) _ h5 _ g5 ⟨⟨tk2,?_⟩,by rw [← hkk]; rfl,by lia⟩ (O5.perm (by
          simp only [Zq2.postA,i9E,cEv,Zqr,obI]
          show List.Perm _ ([(loc2,xV (hz (wb w b)) "k" (some (x1.nat 2,.int (Int.ofNat kk) uj)))]++_)
          (refine Zqv fun _=>?_; simp +arith only [Zqj,Zqk,Zqc]))) hs5 (by lia) (Zq5.trans (d:=true) gr' gr5 fun e=>Bool.noConfusion e)
        rw [hstep]; exact h2'
      · rw [if_neg hlt,List.append_nil] at hstep
        rw [if_neg hlt]
        refine hQ none (some (x1.nat 2,Int.ofNat kk,uj)) _ h4 _ g4 ⟨⟨tk',?_⟩,by rw [← hkk]; rfl,by lia⟩ O4 hs4 (by lia) gr'
        rw [hstep]; simp
    · obtain ⟨⟨tk',rfl⟩,ho,hnm⟩:=hI
      rw [← zrev_len hl,List.take_length] at O1
      intro hnm'
      have hnm':n≤hp.objs.size:=hnm'
      have he:xV (hz (wb w b)) "k" (oJ o) = lastJ (hz (wb w b)) "k" (some 0) ⟨fun j=>match j with | 0=>hp.objs.size - n | 1=>t1 - t | 2=>ea' | 3=>0 | 4=>(o.map (·.1)).getD 0 | _=>(o.map (·.2.2)).getD 0,fun _=>#[],fun _ _=>tk',Ext.nil.ob⟩:=by
        obtain ⟨m,hm⟩:∃ m,ks.length = m + 1:=⟨ks.length - 1,by lia⟩
        rw [hm] at ho
        have ho:o.map (·.2.1) = some (Int.ofNat (m + 1 - 1 - m)):=ho
        rw [show m + 1 - 1 - m = 0 by lia] at ho
        obtain ⟨⟨o1,o2,o3⟩,rfl,ho'⟩:=Option.map_eq_some_iff.mp ho
        have ho':o2 = Int.ofNat 0:=ho'
        subst ho'
        rfl
      have fin:=hR ⟨fun j=>match j with | 0=>hp.objs.size - n | 1=>t1 - t | 2=>ea' | 3=>0 | 4=>(o.map (·.1)).getD 0 | _=>(o.map (·.2.2)).getD 0,fun _=>#[],fun _ _=>tk',Ext.nil.ob⟩ hp g1 (O1.perm (by
        simp only [Con.postA,ciCon,Zqr]
        rw [← he]
        (refine Zqv fun _=>?_; simp +arith only [Zqj,Zqk,Zqc]))) (Nat.add_sub_cancel' hnm').symm hg1
      have et:t + (t1 - t) = t1:=by lia
      change Rz (.ok .next) (r.at hp ⟨t + (t1 - t),g1⟩) at fin
      rw [et] at fin
      exact fin
    · show Zzp (Int.ofNat ks.length - 1) (Int.ofNat ks.length) (-1) = Zzp ((Int.ofNat ks.length - 1) + ((0:Nat):Int) * (-1)) ((ks.length:Int) - ((0:Nat):Int)) (-1)
      have e1:(Int.ofNat ks.length - 1) + ((0:Nat):Int) * (-1) = Int.ofNat ks.length - 1:=by lia
      have e2:(ks.length:Int) - ((0:Nat):Int) = Int.ofNat ks.length:=by show (ks.length:Int) - ((0:Nat):Int) = (ks.length:Int); lia
      rw [e1,e2]
  show codeAny _ A (.compStart (e9i R w b) 0 (.ref it) (.ref acc) (v9i R w b loc cn loc2)) (fun r' s'=>n≤s'.heap.objs.size→Rz r' s') _
  rw [hc,hif]
  exact codeAny_compStart_list loop (wpAny_pyIter_rangeiter (s:=r.at h ⟨t,g⟩) (O.own (it,_) (.head _)) loop)
end
theorem rangeB (m:Nat) (h0:0 < m) (hm:m < 2 ^ 62):Builtin.Range.small (Int.ofNat m - 1) (-1) (-1) = true∧Builtin.Range.rangeSize (Int.ofNat m - 1) (-1) (-1) = Int.ofNat m:=by
  have e:Builtin.Range.rangeSize (Int.ofNat m - 1) (-1) (-1) = Int.ofNat m:=by
    have em:Int.ofNat m = (m:Int):=rfl
    rw [em]
    unfold Builtin.Range.rangeSize
    simp
    lia
  refine ⟨?_,e⟩
  unfold Builtin.Range.small
  rw [e]
  have em:Int.ofNat m = (m:Int):=rfl
  rw [em]
  simp only [Builtin.Range.rangeFitsLong,Bool.and_eq_true,Bool.or_eq_true,decide_eq_true_eq,beq_iff_eq]
  simp
  lia
section
variable {prog:Program} {w:World} {b:Bool} {R:RO}
theorem comp9:e9 R w b = .ListComp (Zqp (e9 R w b)) [⟨Zq0 (e9 R w b),Zjn (e9 R w b),[],0⟩] (Zxw (e9 R w b)) (Zjr (e9 R w b)):=by cases b <;> kernel_rfl
theorem ctup9 (it v:Value):letOwnedTupleGo (Zq0 (e9 R w b)) it v = pure ():=by cases b <;> kernel_rfl
theorem asg9_ok (loc cn:Addr) (o:Option (Int × Nat)) (v:Int) (u n t:Nat):Zqn (T3 R) prog (wb w b) n t (c9As (Zqd R (wb w b)) Zqg loc cn o v u n t):=by
  cases o with
  | none=>exact Zqw (ex:=ex0) Zqq rfl rfl (A90_v prog w b R loc cn v u n t) fun f q hq=>nomatch hq
  | some o=>exact Zqw (ex:=ex0) Zqq rfl rfl (A91_v prog w b R loc cn o v u n t) fun f q hq=>nomatch hq
theorem el9_ok {ks:List (F6)} {ns:List Int} (hl:ks.length = ns.length) (hN:ks.length≤1000) (hpos:0 < ks.length) (loc cn nm pl:Addr) (tk tn:Nat→Nat) (ep en:Nat) (x:Int) (ux pt pu pv n t:Nat) :
    Zqn (T3 R) prog (wb w b) n t (c9El (hz (wb w b)) (Zqd R (wb w b)) Zq9 loc cn nm pl ks tk ep ns tn en x ux pt pu pv n t):=by
  obtain ⟨h1,h2⟩:=rangeB ks.length hpos (by lia)
  exact Zqw (ex:=c9ElEx) (Zqx (fun n' t' c l bb=>rgi_ok h1 h2 _ _ _ _ n' t') (Zqx (fun n' t' c l bb=>ci_ok hl hN hpos _ _ _ _ _ _ _ _ _ _ _ _ _ n' t') Zqq)) rfl rfl (E9_v prog w b R loc cn nm pl ks tk ep ns tn en x ux pt pu pv n t) fun f q hq=>nomatch hq
theorem c9_ok {ks:List (F6)} {ns:List Int} (hl:ks.length = ns.length) (hN:ks.length≤1000) (hpos:0 < ks.length) {zn:Nat} (hzn:zn≤1000) {css:List (List (F6))} (hcss:css = dueOf ks ns (zn + 1)) (loc cn it acc nm pl:Nat) (tk tn:Nat→Nat) (ep en pt pu pv ea n t:Nat) :
    Zq1 (T3 R) prog (wb w b) n t (c9Con (hz (wb w b)) (Zqd R (wb w b)) loc cn it acc nm pl ks tk ep ns tn en pt pu pv (Int.ofNat zn) css ea n t):=by
  have hsz:1001≤sizeLine:=by decide +kernel
  refine ⟨fun h₀ h r g A Rz G hA O hn hR=>?_⟩
  have hA:AOk A none 100:=hA
  have O:Own h₀ ((it,Zzp 0 (Int.ofNat zn + 1) 1)::(acc,Zqz [] ea)::([(cn,Zzq none)]++((loc,xV (hz (wb w b)) "n" none)::ob9 nm pl ks tk ep ns tn en pt pu pv))) h:=O.perm (by
    show List.Perm (([(it,Zzp 0 (Int.ofNat zn + 1) 1),(acc,Zqz [] ea),(loc,xV (hz (wb w b)) "n" none),(cn,Zzq none)]++ob9 nm pl ks tk ep ns tn en pt pu pv)++[]) _
    (refine Zqv fun _=>?_; simp +arith only [Zqj,Zqk,Zqc]))
  have hc:=comp9 (w:=w) (b:=b) (R:=R)
  have htup:=ctup9 (w:=w) (b:=b) (R:=R) (.ref it)
  have tA:∀ o v u n t,(c9As (Zqd R (wb w b)) Zqg loc cn o v u n t).tree = assign (Zq0 (e9 R w b)) (env9 (Zqd R (wb w b)) loc cn) (.int v u):=fun o v u n t=>by
    unfold c9As; dsimp only; rw [Zxk]
  have tE:∀ x ux n t,(c9El (hz (wb w b)) (Zqd R (wb w b)) Zq9 loc cn nm pl ks tk ep ns tn en x ux pt pu pv n t).tree = eval (Zqp (e9 R w b)) (env9 (Zqd R (wb w b)) loc cn):=fun x ux n t=>by
    unfold c9El; dsimp only; rw [Zzx]; rfl
  refine Zxp (n:=n) (by show n≤h.objs.size; lia) ?_
  have loop:codeAny (model prog (wb w b)) A (.compLoop (.ListComp (Zqp (e9 R w b)) [⟨Zq0 (e9 R w b),Zjn (e9 R w b),[],0⟩] (Zxw (e9 R w b)) (Zjr (e9 R w b))) 0 (.ref it) (.ref acc) (env9 (Zqd R (wb w b)) loc cn)) (fun r' s'=>n≤s'.heap.objs.size→Rz r' s') (r.at h ⟨t,g⟩):=by
    refine Zvj (src_range (r:=r) (h₀:=h₀) (it:=it) 0 1 (zn + 1) hA.hand) htup (fun q:Option (Int × Nat) × List Ld=>(cn,Zzq (q.1.map fun p=>.int p.1 p.2))::ldsO q.2)
      (fun i q ys m=>ys = ldsR q.2∧q.2.map (·.1) = dueOf ks ns i∧n≤m) (t₀:=t) (g₀:=g) (l:=(loc,xV (hz (wb w b)) "n" none)::ob9 nm pl ks tk ep ns tn en pt pu pv) (fun p hp=>nomatch hp) (K:=zn + 1) (by lia) (fun i q ys m hI hi=>?_) (fun i v q ys m fm hp t1 g1 Q hi hv hI O1 hs1 ht1 hg1 hQ=>?_) (fun q ys ea' m m' hp t1 g1 hI hsz O1 hs1 ht1 hg1=>?_) (oi:=Zzp 0 (Int.ofNat zn + 1) 1) (st:=(none,[])) (ys:=[]) (ea:=ea) ?_ ⟨rfl,rfl,by lia⟩ O (Nat.le_refl _) (Zq5.refl _ _)
    · obtain ⟨rfl,h2,-⟩:=hI
      have:=congrArg List.length h2
      rw [List.length_map,dueOf,List.length_map,List.length_range] at this
      rw [ldsR,List.length_map]
      lia
    · obtain ⟨o,dn⟩:=q
      obtain ⟨rfl,h2,hnm⟩:=hI
      obtain ⟨uj,rfl⟩:=hv
      have ei:(0:Int) + (i:Int) * 1 = Int.ofNat i:=by show (0:Int) + (i:Int) * 1 = (i:Int); lia
      rw [ei]
      refine Turn.plain ?_
      rw [← tA o (Int.ofNat i) uj m t1]
      refine (asg9_ok loc cn o (Int.ofNat i) uj m t1).use (rest:=ldsO dn++(((loc,xV (hz (wb w b)) "n" none)::ob9 nm pl ks tk ep ns tn en pt pu pv)++fm)) G (hA.bare (by show 20≤100; lia)) O1 (.refl _) hs1 fun x1 h2 g2 O2 hs2 gr2=>?_
      have hs2:h2.objs.size = m + x1.nat 0:=hs2
      show wpAny _ A (eval (Zqp (e9 R w b)) (env9 (Zqd R (wb w b)) loc cn)) _ _ _
      rw [← tE (Int.ofNat i) uj (m + x1.nat 0) (t1 + x1.nat 1)]
      refine (el9_ok hl hN hpos loc cn nm pl tk tn ep en (Int.ofNat i) uj pt pu pv (m + x1.nat 0) (t1 + x1.nat 1)).use (rest:=(loc,xV (hz (wb w b)) "n" none)::(ldsO dn++fm)) G (hA.bare (by show 80≤100; lia)) O2 (by
        simp only [Zq2.preA,Zq2.postA,c9As,c9El,Zqr,ob9,obI]
        generalize ldsO dn = lc
        (refine Zqv fun _=>?_; simp +arith only [Zqj,Zqk,Zqc])) hs2 fun x2 h3 g3 O3 hs3 gr3=>?_
      have hs3:h3.objs.size = m + x1.nat 0 + x2.nat 0:=hs3
      refine hQ (some (.ref (x2.nat 2))) (some (Int.ofNat i,uj),dn++[(rowD (zrev ks ns) (Int.ofNat i),fun j=>match j with | 0=>x2.nat 2 | 1=>x2.nat 3 | j + 2=>x2.seq 0 0 j)]) _ h3 _ g3 ⟨?_,?_,by lia⟩ (O3.perm (by
        have e:ldsO (dn++[(rowD (zrev ks ns) (Int.ofNat i),fun j=>match j with | 0=>x2.nat 2 | 1=>x2.nat 3 | j + 2=>x2.seq 0 0 j)]) = ldsO dn++[(x2.nat 2,Zqz (wdV (rowD (zrev ks ns) (Int.ofNat i)) (x2.seq 0 0)) (x2.nat 3))]:=by
          unfold ldsO; rw [List.map_append]; rfl
        simp only [e]
        simp only [Zq2.postA,c9El,Zqr,ob9,obI,Option.map_some]
        generalize ldsO dn = lc
        (refine Zqv fun _=>?_; simp +arith only [Zqj,Zqk,Zqc]))) hs3 (by lia) (Zq5.trans (d:=true) gr2 gr3 fun e=>Bool.noConfusion e)
      · show _ = ldsR (dn++[_])
        unfold ldsR; rw [List.map_append]; rfl
      · have h2':dn.map (·.1) = dueOf ks ns i:=by assumption
        show (dn++[_]).map _ = dueOf ks ns (i + 1)
        unfold dueOf at h2' ⊢
        rw [List.map_append,h2',List.range_succ,List.map_append]; rfl
    · obtain ⟨o,dn⟩:=q
      obtain ⟨rfl,h2,hnm⟩:=hI
      have h2:dn.map (·.1) = css:=by rw [hcss]; exact h2
      obtain ⟨g1',e1,e2⟩:=lsts_ex dn
      rw [h2] at e1 e2
      intro hnm'
      have hnm':n≤hp.objs.size:=hnm'
      have fin:=hR ⟨fun j=>match j with | 0=>hp.objs.size - n | 1=>t1 - t | _=>ea',fun _=>#[],fun _=>g1',Ext.nil.ob⟩ hp g1 (Own.drop (r:=[(cn,Zzq (o.map fun p=>.int p.1 p.2)),(808,Zzq (some (.ref nm))),(809,Zzq (some (.ref pl))),(nm,Zqz (Zz2 ns tn) en),(pl,rgm ks pt pu pv)]) (O1.perm (by
        simp only [Con.postA,c9Con,Zqr,lstsBag,ob9]
        rw [e1,e2]
        generalize ldsO dn = lc
        (refine Zqv fun _=>?_; simp +arith only [Zqj,Zqk,Zqc])))) (Nat.add_sub_cancel' hnm').symm hg1
      have et:t + (t1 - t) = t1:=by lia
      change Rz (.ok .next) (r.at hp ⟨t + (t1 - t),g1⟩) at fin
      rw [et] at fin
      exact fin
    · show Zzp 0 (Int.ofNat zn + 1) 1 = Zzp (0 + ((0:Nat):Int) * 1) (((zn + 1:Nat):Int) - ((0:Nat):Int)) 1
      have e1:(0:Int) + ((0:Nat):Int) * 1 = 0:=by lia
      have e2:((zn + 1:Nat):Int) - ((0:Nat):Int) = Int.ofNat zn + 1:=by show ((zn + 1:Nat):Int) - ((0:Nat):Int) = (zn:Int) + 1; lia
      rw [e1,e2]
  show codeAny _ A (.compStart (e9 R w b) 0 (.ref it) (.ref acc) (env9 (Zqd R (wb w b)) loc cn)) (fun r' s'=>n≤s'.heap.objs.size→Rz r' s') _
  rw [hc]
  exact codeAny_compStart_list loop (wpAny_pyIter_rangeiter (s:=r.at h ⟨t,g⟩) (O.own (it,_) (.head _)) loop)
theorem lw8_ok {ks:List (F6)} (hN:ks.length≤1000) (tk:Nat→Nat) (ep n t:Nat):Zqn (T3 R) prog (wb w b) n t (lw8 (hz (wb w b)) (Zqd R (wb w b)) Zqm ks tk ep n t) :=
  Zqw (ex:=lw8Ex) (Zqx (fun n' t' c l bb=>len_ok (Zzk _ _) (by rw [Zzk]; lia) n' t') Zqq) rfl rfl (LW8_v prog w b R ks tk ep n t) fun f q hq=>nomatch hq
theorem lw9_ok {ks:List (F6)} {ns:List Int} (hl:ks.length = ns.length) (hN:ks.length≤1000) (hpos:0 < ks.length) (h0:0 ∈ ns) {zn:Nat} (hzn:zn≤1000) (hz':Int.ofNat zn = maxL ns) (ft:Nat→Nat) (cut:Int) (u:Nat) (la ls lp ld nm pl:Addr) (sl:Array (Option Value)) (tk:Nat→Nat) (ep:Nat) (g:Nat→Nat→Nat) (en pt pu pv n t:Nat) :
    Zqn (T3 R) prog (wb w b) n t (lw9 (hz (wb w b)) (Zqd R (wb w b)) Zqm ft cut u la ls lp ld nm pl sl ks tk ep ns g en pt pu pv (dueOf ks ns (zn + 1)) n t):=by
  obtain ⟨h1,h2⟩:=range0 (zn + 1) (by lia)
  have e:Int.ofNat (zn + 1) = Int.ofNat zn + 1:=by show ((zn + 1:Nat):Int) = (zn:Int) + 1; lia
  rw [e] at h1 h2
  exact Zqw (ex:=lw9Ex 2) (Zqx (fun n' t' c l bb=>mx_ok h0 hz' _ _ _ n' t') (Zqx (fun n' t' c l bb=>rgi_ok h1 h2 _ _ _ _ n' t') (Zqx (fun n' t' c l bb=>c9_ok hl hN hpos hzn rfl _ _ _ _ _ _ _ _ _ _ _ _ _ _ n' t') Zqq))) rfl rfl (LW9_v prog w b R ft cut u la ls lp ld nm pl sl ks tk ep ns g en pt pu pv (Int.ofNat zn) _ n t) fun f q hq=>nomatch hq
end
theorem compTurn_list2 (elt target iter:Expr) (ifs:List Expr) (g0:Comprehension) (scope:Scope) (pos:Pos) (it acc:Value) (env:Env) :
    compTurn (.ListComp elt [g0,⟨target,iter,ifs,0⟩] scope pos) 1 it acc env = (standAt iter.pos >>= fun _=>pyNext it >>= fun r=>match r with
      | none=>pure (.done .next)
      | some v=>letOwnedTupleGo target it v >>= fun _=>assign target env v >>= fun _=>(forIn ifs true fun c r=>if r = true then do let ok ← isTrue c env (eval c env); pure (ForInStep.yield ok) else pure (ForInStep.yield r)) >>= fun ok=>do
        if ok then
          (do let _ ← call (.builtin "list.append") [acc,← eval elt env])
        again (.compLoop (.ListComp elt [g0,⟨target,iter,ifs,0⟩] scope pos) 1 it acc env)):=by rfl
theorem Zv1 {prog:Program} {w:World} {A:Around} {R:Result→Shared→Prop} {s:Shared} {elt target iter:Expr} {ifs:List Expr} {g0:Comprehension} {scope:Scope} {pos:Pos} {it acc:Value} {env:Env} (I:Nat→Shared→Prop)
    (turn:∀ n s,I n s→wpAny (model prog w) A (pyNext it) (fun r s₁=>match r with
      | none=>R (.ok .next) s₁
      | some v=>wpAny (model prog w) A (assign target env v) (fun _ s₂ =>
          wpAny (model prog w) A (forIn ifs true fun c r=>if r = true then do let ok ← isTrue c env (eval c env); pure (ForInStep.yield ok) else pure (ForInStep.yield r)) (fun ok s₃ =>
            if ok = true then wpAny (model prog w) A (eval elt env) (fun x s₄ =>
              wpAny (model prog w) A (call (.builtin "list.append") [acc,x]) (fun _ s₅=>∃ m,m < n∧I m s₅) (notedBy (model prog w) A env fun e s'=>R (.error e) s') s₄) (notedBy (model prog w) A env fun e s'=>R (.error e) s') s₃
            else ∃ m,m < n∧I m s₃) (notedBy (model prog w) A env fun e s'=>R (.error e) s') s₂) (notedBy (model prog w) A env fun e s'=>R (.error e) s') s₁) (notedBy (model prog w) A env fun e s'=>R (.error e) s') s)
    (n:Nat) (h:I n s) (ht:∀ v,letOwnedTupleGo target it v = pure ()) :
    codeAny (model prog w) A (.compLoop (.ListComp elt [g0,⟨target,iter,ifs,0⟩] scope pos) 1 it acc env) R s:=by
  refine codeAny_loop rfl I (fun n s hI=>?_) n h
  show wpAny _ A ((compTurn (.ListComp elt [g0,⟨target,iter,ifs,0⟩] scope pos) 1 it acc env).onRaise (fun x=>do noteFrame x env; theTreesLotGoes x)) _ _ s
  refine wpAny_noted ?_
  rw [compTurn_list2]
  refine wpAny_bind (wpAny_standAt (wpAny_bind (wpAny_mono (turn n s hI) (fun r s₁ h₁=>?_) fun _ _ h'=>h')))
  cases r with
  | none=>exact wpAny_pure h₁
  | some v =>
    refine wpAny_bind (wpAny_of_eq (ht v) ?_)
    refine wpAny_bind (wpAny_mono h₁ (fun _ s₂ h₂=>wpAny_bind (wpAny_mono h₂ (fun ok s₃ h₃=>?_) fun _ _ h'=>h')) fun _ _ h'=>h')
    cases ok with
    | false=>exact wpAny_pure ⟨rfl,h₃⟩
    | true =>
      exact wpAny_bind (wpAny_bind (wpAny_mono h₃ (fun x s₄ h₄=>wpAny_bind (wpAny_mono h₄ (fun _ s₅ h₅=>wpAny_pure (wpAny_pure ⟨rfl,h₅⟩)) fun _ _ h'=>h')) fun _ _ h'=>h'))
theorem Zv8 {prog:Program} {w:World} {A:Around} {R:Result→Shared→Prop} {s:Shared} {elt target iter:Expr} {ifs:List Expr} {g0:Comprehension} {scope:Scope} {pos:Pos} {it acc:Value} {env:Env}
    (h0:codeAny (model prog w) A (.compLoop (.ListComp elt [g0,⟨target,iter,ifs,0⟩] scope pos) 1 it acc env) R s)
    (h:wpAny (model prog w) A (pyIter it) (fun it' s'=>codeAny (model prog w) A (.compLoop (.ListComp elt [g0,⟨target,iter,ifs,0⟩] scope pos) 1 it' acc env) R s')
      (notedBy (model prog w) A env fun x s'=>R (.error x) s') s) :
    codeAny (model prog w) A (.compStart (.ListComp elt [g0,⟨target,iter,ifs,0⟩] scope pos) 1 it acc env) R s:=by
  refine codeAny_of_tree ?_
  show wpAny _ _ ((compStart (.ListComp elt [g0,⟨target,iter,ifs,0⟩] scope pos) 1 it acc env).onRaise (fun x=>do noteFrame x env; standAt theWindowsPlace)) _ _ s
  refine wpAny_notedAt ?_
  unfold compStart
  show wpAny _ _ (ask >>= _) _ _ s
  refine wpAny_bind (wpAny_askSetting (wpAny_ite ?_))
  split
  · first
      | exact wpAny_bind (wpAny_pure (wpAny_pure (And.intro rfl h0)))
      | exact wpAny_pure (And.intro rfl h0)
  · first
      | exact wpAny_bind (wpAny_rule (wpAny_bind (wpAny_standAt (wpAny_bind (wpAny_mono h (fun it' s' h'=>wpAny_pure (And.intro rfl h')) fun _ _ x=>x)))))
      | (refine wpAny_bind (wpAny_rule ?_); show wpAny _ _ (standAt iter.pos >>= _) _ _ s; exact wpAny_bind (wpAny_standAt (wpAny_bind (wpAny_mono h (fun it' s' h'=>wpAny_pure (And.intro rfl h')) fun _ _ x=>x))))
theorem comp_run2 {prog:Program} {w:World} {A:Around} {h₀:Heap} {r:Zkc} {it acc:Addr} {fix:List (Addr × Obj)} {N:Nat} {At:Obj→Nat→Prop} {vl:Nat→Value→Prop} {sz:Nat→Nat→Prop} (S:Src prog w A h₀ r it fix N At vl sz)
    {elt target iter:Expr} {ifs:List Expr} {g0:Comprehension} {scope:Scope} {pos:Pos} {env:Env} (ht:∀ v,letOwnedTupleGo target (.ref it) v = pure ()) {σ:Type} (ob:σ→List (Addr × Obj)) (Inv:Nat→σ→List Value→Nat→Prop) {t₀:Nat} {g₀:Array GenState} {R:Result→Shared→Prop} {l:List (Addr × Obj)} (hfix:∀ p ∈ fix,p ∈ l) {K:Nat} (hK:K≤sizeLine)
    (hlen:∀ i st ys n,Inv i st ys n→i < N→ys.length < K)
    (turn:∀ i v st ys n m h t g (Q:Option Value→Shared→Prop),i < N→vl i v→Inv i st ys n→Own h₀ (ob st++(l++m)) h→h.objs.size = n→t₀≤t→Zq5 true g₀ g →
      (∀ o st' n' h' t' g',Inv (i + 1) st' (ys++o.toList) n'→Own h₀ (ob st'++(l++m)) h'→h'.objs.size = n'→t≤t'→Zq5 true g g'→Q o (r.at h' ⟨t',g'⟩)) →
      Turn (model prog w) A target ifs elt env v Q (notedBy (model prog w) A env fun e s'=>R (.error e) s') (r.at h ⟨t,g⟩))
    (last:∀ st ys ea n n' h t g,Inv N st ys n→sz n n'→Own h₀ ((acc,Zqz ys ea)::(ob st++l)) h→h.objs.size = n'→t₀≤t→Zq5 true g₀ g→R (.ok .next) (r.at h ⟨t,g⟩))
    {oi:Obj} {st:σ} {ys:List Value} {ea:Nat} {h:Heap} {t:Nat} {g:Array GenState} (hat:At oi 0) (hI:Inv 0 st ys h.objs.size) (O:Own h₀ ((it,oi)::(acc,Zqz ys ea)::(ob st++l)) h) (htt:t₀≤t) (hg:Zq5 true g₀ g) :
    codeAny (model prog w) A (.compLoop (.ListComp elt [g0,⟨target,iter,ifs,0⟩] scope pos) 1 (.ref it) (.ref acc) env) R (r.at h ⟨t,g⟩):=by
  refine Zv1 (fun k s=>∃ i oi st ys ea h t g,s = r.at h ⟨t,g⟩∧k = N - i∧i≤N∧At oi i∧Inv i st ys h.objs.size∧Own h₀ ((it,oi)::(acc,Zqz ys ea)::(ob st++l)) h∧t₀≤t∧Zq5 true g₀ g) ?_ N
    ⟨0,oi,st,ys,ea,h,t,g,rfl,rfl,Nat.zero_le _,hat,hI,O,htt,hg⟩ ht
  rintro k s ⟨i,oi,st,ys,ea,h,t,g,rfl,rfl,hi,hat,hI,O,htt,hg⟩
  have hf:∀ p ∈ fix,p ∈ (acc,Zqz ys ea)::(ob st++l):=fun p hp=>.tail _ (List.mem_append_right _ (hfix p hp))
  by_cases hlt:i < N
  · refine S.next hlt hat hf O fun oi' h1 v t1 hat1 hv O1 hs1 ht1=>?_
    have O1':Own h₀ (ob st++(l++[(it,oi'),(acc,Zqz ys ea)])) h1:=O1.perm (by
      refine Zqv fun _=>?_
      simp only [Zqj,Zqk,Zqc]
      lia)
    refine turn i v st ys _ [(it,oi'),(acc,Zqz ys ea)] h1 t1 g _ hlt hv hI O1' hs1 (by lia) hg |> fun T=>wpAny_mono (T fun o st' n' h2 t2 g2 hI2 O2 hs2 ht2 hg2=>?_:Turn _ _ _ _ _ _ _ (fun o s'=>match o with
        | some x=>wpAny (model prog w) A (call (.builtin "list.append") [.ref acc,x]) (fun _ s₅=>∃ m,m < N - i∧∃ i oi st ys ea h t g,s₅ = r.at h ⟨t,g⟩∧m = N - i∧i≤N∧At oi i∧Inv i st ys h.objs.size∧Own h₀ ((it,oi)::(acc,Zqz ys ea)::(ob st++l)) h∧t₀≤t∧Zq5 true g₀ g) (notedBy (model prog w) A env fun e s'=>R (.error e) s') s'
        | none=>∃ m,m < N - i∧∃ i oi st ys ea h t g,s' = r.at h ⟨t,g⟩∧m = N - i∧i≤N∧At oi i∧Inv i st ys h.objs.size∧Own h₀ ((it,oi)::(acc,Zqz ys ea)::(ob st++l)) h∧t₀≤t∧Zq5 true g₀ g) _ _) (fun _ s2 q=>q) fun _ _ q=>q
    have gr:=Zq5.trans (d:=true) hg hg2 fun e=>Bool.noConfusion e
    cases o with
    | none =>
      refine ⟨N - (i + 1),by lia,i + 1,oi',st',ys,ea,h2,t2,g2,rfl,rfl,hlt,hat1,?_,O2.perm ?_,by lia,gr⟩
      · rw [hs2]
        simpa using hI2
      · refine Zqv fun _=>?_
        simp only [Zqj,Zqk,Zqc]
        lia
    | some x =>
      have Oa:(acc,Zqz ys ea) ∈ ob st'++(l++[(it,oi'),(acc,Zqz ys ea)]):=by simp
      refine wpAny_list_append_plain (s:=r.at h2 ⟨t2,g2⟩) (items:=⟨ys⟩) ⟨ea,O2.own _ Oa⟩ (fun h3 hp hs3=>?_) (by
        have:=hlen i st ys _ hI hlt
        show ys.length≤sizeLine
        lia)
      obtain ⟨ea',hp⟩:=hp
      rw [push_listO' ys ea x ea'] at hp
      have O2':Own h₀ ((acc,Zqz ys ea)::(it,oi')::(ob st'++l)) h2:=O2.perm (by
        refine Zqv fun _=>?_
        simp only [Zqj,Zqk,Zqc]
        lia)
      have O3:Own h₀ ((acc,Zqz (ys++[x]) ea')::(it,oi')::(ob st'++l)) h3:=O2'.same hs3 hp
      refine ⟨N - (i + 1),by lia,i + 1,oi',st',ys++[x],ea',h3,t2,g2,rfl,rfl,hlt,hat1,?_,O3.perm (.swap _ _ _),by lia,gr⟩
      rw [hs3.1,hs2]
      exact hI2
  · have hiN:i = N:=by lia
    subst hiN
    exact S.done hat hf O fun h' O' hs=>last st ys ea _ _ h' t g hI hs O' rfl htt hg
theorem bucket_snoc (rk:F6→Int) (l:List (F6)) (k:F6) (r:Int):Zk3 rk (l++[k]) r = Zk3 rk l r++(if rk k == r then [k] else []):=by
  unfold Zk3
  rw [List.filter_append]
  by_cases h:(rk k == r) = true
  · simp [h]
  · simp [h]
theorem bucket_len (rk:F6→Int) (l:List (F6)) (r:Int):(Zk3 rk l r).length≤l.length:=List.length_filter_le _ _
section
variable {prog:Program} {w:World} {b:Bool} {R:RO}
theorem comp10:e10 R w b = .ListComp (Zqp (e10 R w b)) [gen1 (e10 R w b),⟨gTgt (gen2 (e10 R w b)),gIter (gen2 (e10 R w b)),[gIf (gen2 (e10 R w b))],0⟩] (Zxw (e10 R w b)) (Zjr (e10 R w b)):=by cases b <;> kernel_rfl
theorem gen10:gen1 (e10 R w b) = ⟨gTgt (gen1 (e10 R w b)),gIter (gen1 (e10 R w b)),[],0⟩:=by cases b <;> kernel_rfl
theorem if10:gIf (gen2 (e10 R w b)) = .Compare (cmpL (gIf (gen2 (e10 R w b)))) [.Eq] [cmpR (gIf (gen2 (e10 R w b)))] (cmpPos (gIf (gen2 (e10 R w b)))):=by cases b <;> kernel_rfl
theorem mark10:behindInMarks .Eq (cmpR (gIf (gen2 (e10 R w b)))) = false:=by cases b <;> kernel_rfl
theorem ctup10 (it v:Value):letOwnedTupleGo (gTgt (gen2 (e10 R w b))) it v = pure ():=by cases b <;> kernel_rfl
theorem as10_ok (loc:Addr) (r:Int) (ur tr:Nat) (o:Option (Nat × List Nat × Nat)) (W:List Nat) (u n t:Nat):Zqn (T3 R) prog (wb w b) n t (c10As (hz (wb w b)) (Zqd R (wb w b)) Zqg loc r ur tr o W u n t):=by
  cases o with
  | none=>exact Zqw (ex:=x10Ex) Zqq rfl rfl (X0_v prog w b R loc r ur tr W u n t) fun f q hq=>nomatch hq
  | some o=>exact Zqw (ex:=x10Ex) Zqq rfl rfl (X1_v prog w b R loc r ur tr o W u n t) fun f q hq=>nomatch hq
theorem l10L_ok (loc:Addr) (r:Int) (ur tr:Nat) (o1:Nat) (k:F6) (o3 n t:Nat):Zqn (T3 R) prog (wb w b) n t (x10L R w b loc r ur tr (o1,Zzc k,o3) (R.rk k) n t) :=
  Zqw (ex:=vEx) (Zqx (fun n' t' c l bb=>rk_ok (isWd R k) _ n' t') Zqq) rfl rfl (XL_v prog w b R loc r ur tr (o1,Zzc k,o3) (R.rk k) n t) fun f q hq=>nomatch hq
theorem l10R_ok (loc:Addr) (r:Int) (ur tr:Nat) (o:Nat × List Nat × Nat) (n t:Nat):Zqn (T3 R) prog (wb w b) n t (x10R R w b loc r ur tr o n t) :=
  Zqw (ex:=vEx) Zqq rfl rfl (XR_v prog w b R loc r ur tr o n t) fun f q hq=>nomatch hq
theorem l10E_ok (loc:Addr) (r:Int) (ur tr:Nat) (o:Nat × List Nat × Nat) (n t:Nat):Zqn (T3 R) prog (wb w b) n t (x10E R w b loc r ur tr o n t) :=
  Zqw (ex:=vEx) Zqq rfl rfl (XE_v prog w b R loc r ur tr o n t) fun f q hq=>nomatch hq
theorem c10_ok {ks:List (F6)} (hlen:ks.length≤1000) {W:List Nat} (hne:(ks.map Zzc).getLast? = some W) (loc it acc:Nat) (tk:Nat→Nat) (ep ea r' ur tr:Nat) (hup:(Zvh R.rk ks r').length + ks.length≤10000) (o0:Option (Nat × List Nat × Nat)) (g0:Nat→Nat→Nat) (n t:Nat) :
    Zq1 (T3 R) prog (wb w b) n t (c10Con (hz (wb w b)) (Zqd R (wb w b)) loc it acc ks R.rk tk ep ea r' ur tr o0 W g0 n t):=by
  have hsz:10000≤sizeLine:=by decide +kernel
  refine ⟨fun h₀ h r g A Rz G hA O hn hR=>?_⟩
  have hA:AOk A none 60:=hA
  have O:Own h₀ ((it,Zx4 828 0)::(acc,Zqz (wdV (Zvh R.rk ks r') (g0 0)) ea)::([(loc,x10 (hz (wb w b)) (Int.ofNat r') ur tr o0)]++[(828,Zqz (wdV ks tk) ep)])) h:=O.perm (by
    show List.Perm ([(it,Zx4 828 0),(828,Zqz (wdV ks tk) ep),(acc,Zqz (wdV (Zvh R.rk ks r') (g0 0)) ea),(loc,x10 (hz (wb w b)) (Int.ofNat r') ur tr o0)]++[]) _
    (refine Zqv fun _=>?_; simp +arith only [Zqj,Zqk,Zqc]))
  have hc:=comp10 (w:=w) (b:=b) (R:=R)
  have hif:=if10 (w:=w) (b:=b) (R:=R)
  have hmk:=mark10 (w:=w) (b:=b) (R:=R)
  have htup:=ctup10 (w:=w) (b:=b) (R:=R) (.ref it)
  have tA:∀ o W u n t,(c10As (hz (wb w b)) (Zqd R (wb w b)) Zqg loc (Int.ofNat r') ur tr o W u n t).tree = assign (gTgt (gen2 (e10 R w b))) (v10 R w b loc) (.str (S W) u):=fun o W u n t=>by
    unfold c10As; dsimp only; rw [Zxk]
  have tL:∀ o v n t,(x10L R w b loc (Int.ofNat r') ur tr o v n t).tree = eval (cmpL (gIf (gen2 (e10 R w b)))) (v10 R w b loc):=fun o v n t=>by
    unfold x10L cEv; dsimp only; rw [Zzx]
  have tR:∀ o n t,(x10R R w b loc (Int.ofNat r') ur tr o n t).tree = eval (cmpR (gIf (gen2 (e10 R w b)))) (v10 R w b loc):=fun o n t=>by
    unfold x10R cEv; dsimp only; rw [Zzx]
  have tE:∀ o n t,(x10E R w b loc (Int.ofNat r') ur tr o n t).tree = eval (Zqp (e10 R w b)) (v10 R w b loc):=fun o n t=>by
    unfold x10E cEv; dsimp only; rw [Zzx]
  have loop:codeAny (model prog (wb w b)) A (.compLoop (.ListComp (Zqp (e10 R w b)) [gen1 (e10 R w b),⟨gTgt (gen2 (e10 R w b)),gIter (gen2 (e10 R w b)),[.Compare (cmpL (gIf (gen2 (e10 R w b)))) [.Eq] [cmpR (gIf (gen2 (e10 R w b)))] (cmpPos (gIf (gen2 (e10 R w b))))],0⟩] (Zxw (e10 R w b)) (Zjr (e10 R w b))) 1 (.ref it) (.ref acc) (v10 R w b loc)) Rz (r.at h ⟨t,g⟩):=by
    refine comp_run2 (src_list (r:=r) (h₀:=h₀) (it:=it) (lst:=828) (xs:=wdV ks tk) (ep:=ep) hA.hand) htup (fun o:Option (Nat × List Nat × Nat)=>[(loc,x10 (hz (wb w b)) (Int.ofNat r') ur tr o)])
      (fun i o ys m=>(∃ tk',ys = wdV (Zvh R.rk ks r'++Zk3 R.rk (ks.take i) (Int.ofNat r')) tk')∧(i≠0→(o.map (·.2.1)) = ((ks.take i).map Zzc).getLast?)∧n≤m) (t₀:=t) (g₀:=g) (l:=[(828,Zqz (wdV ks tk) ep)]) (fun p hp=>by
        rw [List.mem_singleton.mp hp]; exact List.Mem.head _) (K:=(Zvh R.rk ks r').length + ks.length) (by lia) (fun i q ys m hI hi=>?_) (fun i v o ys m fm hp t1 g1 Q hi hv hI O1 hs1 ht1 hg1 hQ=>?_) (fun o ys ea' m m' hp t1 g1 hI hsz O1 hs1 ht1 hg1=>?_) (oi:=Zx4 828 0) (st:=o0) (ys:=wdV (Zvh R.rk ks r') (g0 0)) (ea:=ea) ⟨rfl,rfl⟩ ⟨⟨g0 0,by rw [List.take_zero]; show _ = wdV (_++[]) _; rw [List.append_nil]⟩,fun e=>absurd rfl e,by lia⟩ O (Nat.le_refl _) (Zq5.refl _ _)
    · obtain ⟨⟨tk',rfl⟩,-,-⟩:=hI
      have:=bucket_len R.rk (ks.take i) (Int.ofNat r')
      rw [List.length_take] at this
      rw [Zzk] at hi ⊢
      rw [List.length_append]
      lia
    · obtain ⟨⟨tk',rfl⟩,ho,hnm⟩:=hI
      obtain ⟨k,hq,rfl⟩:=wdV_is ks tk i v hv
      refine Turn.one ?_
      rw [← tA o (Zzc k) (tk i) m t1]
      refine (as10_ok loc (Int.ofNat r') ur tr o (Zzc k) (tk i) m t1).use (rest:=(828,Zqz (wdV ks tk) ep)::fm) G (hA.bare (by show 30≤60; lia)) O1 (by
        simp only [Zq2.preA,c10As,Zqr]
        (refine Zqv fun _=>?_; simp +arith only [Zqj,Zqk,Zqc])) hs1 fun x1 h2 g2 O2 hs2 gr2=>?_
      have hs2:h2.objs.size = m + x1.nat 0:=hs2
      refine wpAny_isTrue_Compare1 ?_ hmk
      rw [← tL (x1.nat 2,Zzc k,tk i) (R.rk k) (m + x1.nat 0) (t1 + x1.nat 1)]
      refine (l10L_ok loc (Int.ofNat r') ur tr (x1.nat 2) k (tk i) (m + x1.nat 0) (t1 + x1.nat 1)).use (rest:=(828,Zqz (wdV ks tk) ep)::fm) G (hA.bare (by show 30≤60; lia)) O2 (.refl _) hs2 fun x2 h3 g3 O3 hs3 gr3=>?_
      have hs3:h3.objs.size = m + x1.nat 0 + x2.nat 0:=hs3
      show wpAny _ A (eval (cmpR (gIf (gen2 (e10 R w b)))) (v10 R w b loc)) _ _ _
      rw [← tR (x1.nat 2,Zzc k,tk i) (m + x1.nat 0 + x2.nat 0) (t1 + x1.nat 1 + x2.nat 1)]
      refine (l10R_ok loc (Int.ofNat r') ur tr (x1.nat 2,Zzc k,tk i) (m + x1.nat 0 + x2.nat 0) (t1 + x1.nat 1 + x2.nat 1)).use (rest:=(828,Zqz (wdV ks tk) ep)::fm) G (hA.bare (by show 30≤60; lia)) O3 (.refl _) hs3 fun x3 h4 g4 O4 hs4 gr4=>?_
      have hs4:h4.objs.size = m + x1.nat 0 + x2.nat 0 + x3.nat 0:=hs4
      refine wpAny_eq_int (wpAny_truthy_bool ?_)
      have O4:Own h₀ ([(loc,x10 (hz (wb w b)) (Int.ofNat r') ur tr (some (x1.nat 2,Zzc k,tk i)))]++((828,Zqz (wdV ks tk) ep)::fm)) h4:=O4
      have gr':=Zq5.trans (d:=true) (Zq5.trans (d:=true) gr2 gr3 fun e=>Bool.noConfusion e) gr4 fun e=>Bool.noConfusion e
      have hstep:=bucket_snoc R.rk (ks.take i) k (Int.ofNat r')
      rw [← Zz4 hq] at hstep
      have hlast:i + 1≠0→(some (x1.nat 2,Zzc k,tk i):Option (Nat × List Nat × Nat)).map (·.2.1) = ((ks.take (i + 1)).map Zzc).getLast?:=fun _=>by
        rw [Zz4 hq,List.map_append]; simp
      by_cases hlt:(R.rk k == Int.ofNat r') = true
      · rw [if_pos hlt] at hstep
        rw [if_pos hlt]
        rw [← tE (x1.nat 2,Zzc k,tk i) (m + x1.nat 0 + x2.nat 0 + x3.nat 0) (t1 + x1.nat 1 + x2.nat 1 + x3.nat 1)]
        refine (l10E_ok loc (Int.ofNat r') ur tr (x1.nat 2,Zzc k,tk i) (m + x1.nat 0 + x2.nat 0 + x3.nat 0) (t1 + x1.nat 1 + x2.nat 1 + x3.nat 1)).use (rest:=(828,Zqz (wdV ks tk) ep)::fm) G (hA.bare (by show 30≤60; lia)) O4 (.refl _) hs4 fun x4 h5 g5 O5 hs5 gr5=>?_
        have hs5:h5.objs.size = m + x1.nat 0 + x2.nat 0 + x3.nat 0 + x4.nat 0:=hs5
        obtain ⟨tk2,h2'⟩:=wdV_snoc (Zvh R.rk ks r'++Zk3 R.rk (ks.take i) (Int.ofNat r')) k tk' (tk i)
        refine hQ (some (.str (S (Zzc k)) (tk i))) (some (x1.nat 2,Zzc k,tk i)) _ h5 _ g5 ⟨⟨tk2,?_⟩,hlast,by lia⟩ O5 hs5 (by lia) (Zq5.trans (d:=true) gr' gr5 fun e=>Bool.noConfusion e)
        rw [hstep,← List.append_assoc]; exact h2'
      · rw [if_neg hlt,List.append_nil] at hstep
        rw [if_neg hlt]
        refine hQ none (some (x1.nat 2,Zzc k,tk i)) _ h4 _ g4 ⟨⟨tk',?_⟩,hlast,by lia⟩ O4 hs4 (by lia) gr'
        rw [hstep]; simp
    · obtain ⟨⟨tk',rfl⟩,ho,hnm⟩:=hI
      have hpos:(wdV ks tk).length≠0:=by
        rw [Zzk]
        intro e
        have:=List.length_eq_zero_iff.mp e
        rw [this] at hne
        cases hne
      have ho:=ho hpos
      rw [Zzk,List.take_length] at ho O1
      rw [hne] at ho
      obtain ⟨⟨o1,o2,o3⟩,rfl,ho'⟩:=Option.map_eq_some_iff.mp ho
      have ho':o2 = W:=ho'
      subst ho'
      have fin:=hR ⟨fun j=>match j with | 0=>m' - n | 1=>t1 - t | 2=>ea' | 3=>o1 | _=>o3,fun _=>#[],fun _ _=>tk',Ext.nil.ob⟩ hp g1 (O1.perm (by
        show List.Perm ((acc,Zqz (wdV (Zvh R.rk ks r'++Zk3 R.rk ks (Int.ofNat r')) tk') ea')::([(loc,x10 (hz (wb w b)) (Int.ofNat r') ur tr (some (o1,o2,o3)))]++[(828,Zqz (wdV ks tk) ep)])) (([]++[(828,Zqz (wdV ks tk) ep),(acc,Zqz (wdV (Zvh R.rk ks r'++Zk3 R.rk ks (Int.ofNat r')) tk') ea'),(loc,x10 (hz (wb w b)) (Int.ofNat r') ur tr (some (o1,o2,o3)))])++[])
        (refine Zqv fun _=>?_; simp +arith only [Zqj,Zqk,Zqc]))) (by show hp.objs.size = n + (m' - n); lia) hg1
      have et:t + (t1 - t) = t1:=by lia
      change Rz (.ok .next) (r.at hp ⟨t + (t1 - t),g1⟩) at fin
      rw [et] at fin
      exact fin
  show codeAny _ A (.compStart (e10 R w b) 1 (.ref it) (.ref acc) (v10 R w b loc)) Rz _
  rw [hc,hif]
  exact Zv8 loop (wpAny_pyIter_listiter (s:=r.at h ⟨t,g⟩) (i:=0) ⟨_,O.own (it,_) (.head _),rfl,rfl⟩ loop)
end
theorem below_step (rk:F6→Int) (r:Nat):∀ ks:List (F6),(ks.filter fun k=>decide (0≤rk k∧rk k < Int.ofNat (r + 1))).length = (ks.filter fun k=>decide (0≤rk k∧rk k < Int.ofNat r)).length + (Zk3 rk ks (Int.ofNat r)).length
  | []=>rfl
  | k::l=>by
    have ih:=below_step rk r l
    unfold Zk3 at ih ⊢
    have e1:Int.ofNat (r + 1) = Int.ofNat r + 1:=rfl
    have e0:(0:Int)≤Int.ofNat r:=Int.natCast_nonneg r
    rw [e1] at ih ⊢
    generalize Int.ofNat r = x at ih e0 ⊢
    by_cases h1:rk k = x
    · have a1:decide (0≤rk k∧rk k < x + 1) = true:=decide_eq_true (by lia)
      have a2:decide (0≤rk k∧rk k < x) = false:=decide_eq_false (by lia)
      have a3:(rk k == x) = true:=by simp [h1]
      simp only [List.filter_cons,a1,a2,a3,if_true,Bool.false_eq_true,if_false,List.length_cons]
      lia
    · have a3:(rk k == x) = false:=by simp [h1]
      by_cases h2:0≤rk k∧rk k < x
      · have a1:decide (0≤rk k∧rk k < x + 1) = true:=decide_eq_true (by lia)
        have a2:decide (0≤rk k∧rk k < x) = true:=decide_eq_true h2
        simp only [List.filter_cons,a1,a2,a3,if_true,Bool.false_eq_true,if_false,List.length_cons]
        lia
      · have a1:decide (0≤rk k∧rk k < x + 1) = false:=decide_eq_false (by lia)
        have a2:decide (0≤rk k∧rk k < x) = false:=decide_eq_false h2
        simp only [List.filter_cons,a1,a2,a3,Bool.false_eq_true,if_false]
        exact ih
theorem upTo_len (rk:F6→Int) (ks:List (F6)):∀ r,(Zvh rk ks r).length = (ks.filter fun k=>decide (0≤rk k∧rk k < Int.ofNat r)).length
  | 0=>by
    show 0 = _
    rw [eq_comm,List.length_eq_zero_iff,List.filter_eq_nil_iff]
    intro k _
    have:¬ (0≤rk k∧rk k < Int.ofNat 0):=by
      have e:Int.ofNat 0 = 0:=rfl
      rw [e]; lia
    simp only [decide_eq_false this]
    exact Bool.false_ne_true
  | r + 1=>by
    rw [below_step rk r ks,← upTo_len rk ks r]
    show (Zvh rk ks r++Zk3 rk ks (Int.ofNat r)).length = _
    rw [List.length_append]
theorem upTo_le (rk:F6→Int) (ks:List (F6)) (r:Nat):(Zvh rk ks r).length≤ks.length:=by
  rw [upTo_len]; exact List.length_filter_le _ _
section
variable {prog:Program} {w:World} {b:Bool} {R:RO}
theorem l10_ok {ks:List (F6)} (hlen:ks.length≤1000) {W:List Nat} (hne:(ks.map Zzc).getLast? = some W) (loc it acc:Nat) (tk:Nat→Nat) (ep ea:Nat) (g0:Nat→Nat→Nat) (n t:Nat) :
    Zq1 (T3 R) prog (wb w b) n t (l10Con (hz (wb w b)) (Zqd R (wb w b)) true loc it acc ks R.rk tk ep ea W g0 n t) :=
  Zjk (ex:=l10Ex) (Zqx (fun n' t' c l bb=>c10_ok hlen hne _ _ _ _ _ _ _ _ _ (by have:=upTo_le R.rk ks (intN (entV (entsOf (Zzf l 3)) 0)); lia) _ _ n' t') Zqq) rfl rfl (L10_v prog w b R loc it acc ks R.rk tk ep ea W g0 n t) fun f q hq=>nomatch hq
theorem s10_ok {ks:List (F6)} (hlen:ks.length≤1000) {W:List Nat} (hne:(ks.map Zzc).getLast? = some W) (loc it acc:Nat) (tk:Nat→Nat) (ep ea:Nat) (g0:Nat→Nat→Nat) (n t:Nat) :
    Zq1 (T3 R) prog (wb w b) n t (l10Con (hz (wb w b)) (Zqd R (wb w b)) false loc it acc ks R.rk tk ep ea W g0 n t):=by
  refine ⟨fun h₀ h r g A Rz G hA O hn hR=>?_⟩
  have loop:=(l10_ok (prog:=prog) (R:=R) hlen hne loc it acc tk ep ea g0 n t).run h₀ h r g A Rz G hA O hn hR
  have loop:codeAny (model prog (wb w b)) A (.compLoop (e10 R w b) 0 (.ref it) (.ref acc) (v10 R w b loc)) Rz (r.at h ⟨t,g⟩):=loop
  have O:Own h₀ [(it,Zzp 0 6 1),(acc,Zqz [] ea),(loc,xV (hz (wb w b)) "word" none),(807,Zzq (some (.ref 828))),(828,Zqz (wdV ks tk) ep)] h:=O
  show codeAny _ A (.compStart (e10 R w b) 0 (.ref it) (.ref acc) (v10 R w b loc)) Rz _
  rw [comp10,gen10] at loop ⊢
  exact codeAny_compStart_list loop (wpAny_pyIter_rangeiter (s:=r.at h ⟨t,g⟩) (O.own (it,_) (.head _)) loop)
theorem lw10_ok {ks:List (F6)} (hlen:ks.length≤1000) {W:List Nat} (hne:(ks.map Zzc).getLast? = some W) (ft:Nat→Nat) (cut:Int) (u:Nat) (la ls lp ld le:Addr) (sl:Array (Option Value)) (tk:Nat→Nat) (ep:Nat) (g:Nat→Nat→Nat) (n t:Nat) :
    Zqn (T3 R) prog (wb w b) n t (lw10 (hz (wb w b)) (Zqd R (wb w b)) Zqm ft cut u la ls lp ld le sl ks R.rk tk ep g n t) :=
  Zqw (ex:=lw10Ex) (Zqx (fun n' t' c l bb=>s10_ok hlen hne _ _ _ _ _ _ _ n' t') Zqq) rfl rfl (LW10_v prog w b R ft cut u la ls lp ld le sl ks R.rk tk ep g W n t) fun f q hq=>nomatch hq
end
section
open PySem PySem.W PyProof.Rows
theorem Bf.irr {key:Nat→Int} {i:Nat} (h:Bf key i i):False:=by unfold Bf at h; lia
theorem Bf.asym {key:Nat→Int} {i j:Nat} (h:Bf key i j) (h':Bf key j i):False:=by unfold Bf at h h'; lia
theorem bf_unique {key:Nat→Int}:∀ {A B:List Nat},A.Pairwise (Bf key)→B.Pairwise (Bf key)→(∀ x,x ∈ A↔x ∈ B)→A = B
  | [],[],_,_,_=>rfl
  | [],b::B,_,_,h=>absurd ((h b).mpr (.head _)) (by simp)
  | a::A,[],_,_,h=>absurd ((h a).mp (.head _)) (by simp)
  | a::A,b::B,hA,hB,h=>by
    rw [List.pairwise_cons] at hA hB
    have hab:a = b:=by
      rcases List.mem_cons.mp ((h a).mp (.head _)) with e | e
      · exact e
      · rcases List.mem_cons.mp ((h b).mpr (.head _)) with e' | e'
        · exact e'.symm
        · exact (Bf.asym (hA.1 b e') (hB.1 a e)).elim
    subst hab
    have:A = B:=bf_unique hA.2 hB.2 fun x=>by
      constructor
      · intro hx
        rcases List.mem_cons.mp ((h x).mp (.tail _ hx)) with e | e
        · subst e; exact (Bf.irr (hA.1 x hx)).elim
        · exact e
      · intro hx
        rcases List.mem_cons.mp ((h x).mpr (.tail _ hx)) with e | e
        · subst e; exact (Bf.irr (hB.1 x hx)).elim
        · exact e
    rw [this]
noncomputable def idxTo (key:Nat→Int) (N:Nat):Nat→List Nat
  | 0=>[]
  | r + 1=>idxTo key N r++(List.range N).filter fun i=>key i == Int.ofNat r
theorem mem_idxTo {key:Nat→Int} {N x:Nat}:∀ {r:Nat},x ∈ idxTo key N r↔x < N∧0≤key x∧key x < Int.ofNat r
  | 0=>by
    have e:Int.ofNat 0 = 0:=rfl
    rw [e]
    constructor
    · intro h; cases h
    · intro h; lia
  | r + 1=>by
    have e:Int.ofNat (r + 1) = Int.ofNat r + 1:=rfl
    have e0:(0:Int)≤Int.ofNat r:=Int.natCast_nonneg r
    show x ∈ idxTo key N r++_↔_
    rw [List.mem_append,mem_idxTo (r:=r),List.mem_filter,List.mem_range,beq_iff_eq,e]
    generalize Int.ofNat r = y at e0
    lia
theorem pw_idxTo {key:Nat→Int} {N:Nat}:∀ r,(idxTo key N r).Pairwise (Bf key)
  | 0=>List.Pairwise.nil
  | r + 1=>by
    show (idxTo key N r++_).Pairwise _
    rw [List.pairwise_append]
    refine ⟨pw_idxTo r,?_,fun a ha b hb=>?_⟩
    · have h1:(List.range N).Pairwise (· < ·):=List.pairwise_lt_range
      refine List.Pairwise.imp_of_mem (fun {a b} ha hb hab=>?_) (h1.filter _)
      rw [List.mem_filter,beq_iff_eq] at ha hb
      exact .inr ⟨by rw [ha.2,hb.2],hab⟩
    · have ha:=(mem_idxTo.mp ha).2.2
      rw [List.mem_filter,beq_iff_eq] at hb
      exact .inl (by rw [hb.2]; exact ha)
theorem pigeon:∀ (N:Nat) (L:List Nat),L.Nodup→(∀ y ∈ L,y < N)→L.length≤N
  | 0,[],_,_=>Nat.le_refl _
  | 0,y::_,_,h=>absurd (h y (.head _)) (Nat.not_lt_zero _)
  | N + 1,L,hn,h=>by
    have h1:L.count N≤1:=List.nodup_iff_count.mp hn N
    have h2:=List.length_eq_countP_add_countP (fun y=>y == N) (l:=L)
    have h3:(L.filter fun y=>decide ¬(y == N) = true).length≤N:=pigeon N _ (hn.filter _) fun y hy=>by
      rw [List.mem_filter] at hy
      have a:=h y hy.1
      have b:¬ (y == N) = true:=of_decide_eq_true hy.2
      rw [beq_iff_eq] at b
      lia
    rw [List.countP_eq_length_filter (p:=fun y=>decide ¬(y == N) = true)] at h2
    have h4:L.countP (fun y=>y == N) = L.count N:=rfl
    lia
theorem pigeon_all {N:Nat} {L:List Nat} (hn:L.Nodup) (h:∀ y ∈ L,y < N) (hl:L.length = N) (x:Nat) (hx:x < N):x ∈ L:=by
  by_cases e:x ∈ L
  · exact e
  · have:=pigeon N (x::L) (List.nodup_cons.mpr ⟨e,hn⟩) fun y hy=>by
      rcases List.mem_cons.mp hy with rfl | hy
      · exact hx
      · exact h y hy
    simp at this
    lia
theorem sorted_idx {key:Nat→Int} {N:Nat} (hk:∀ i,i < N→0≤key i∧key i < 6) {p:Array Nat} (hu:Un N p N) (ha:Asc key p N):p.toList = idxTo key N 6:=by
  have hg:∀ i (h:i < p.toList.length),p.toList[i] = p.getD i 0:=fun i h=>by
    have h':i < p.size:=by simpa using h
    simp [Array.getD,h']
  have hlen:p.toList.length = N:=by rw [Array.length_toList]; exact hu.size
  have hpw:p.toList.Pairwise (Bf key):=by
    rw [List.pairwise_iff_getElem]
    intro i j hi hj hij
    rw [hg i hi,hg j hj]
    exact ha i j hij (by lia)
  refine bf_unique hpw (pw_idxTo 6) fun x=>?_
  rw [mem_idxTo]
  have hlt:∀ y ∈ p.toList,y < N:=fun y hy=>by
    obtain ⟨i,hi,rfl⟩:=List.mem_iff_getElem.mp hy
    rw [hg i hi]
    exact hu.lo i (by lia)
  have hnd:p.toList.Nodup:=hpw.imp fun {a b} h e=>by subst e; exact h.irr
  constructor
  · intro h
    have e:Int.ofNat 6 = 6:=rfl
    rw [e]
    exact ⟨hlt x h,hk x (hlt x h)⟩
  · exact fun h=>pigeon_all hnd hlt hlen x h.1
theorem filter_map_get (rk:F6→Int) (r:Int) (d:F6):∀ ks:List (F6),((List.range ks.length).filter fun i=>rk (ks.getD i d) == r).map (fun i=>ks.getD i d) = Zk3 rk ks r:=by
  intro ks
  have e:∀ (n:Nat),n≤ks.length→((List.range n).filter fun i=>rk (ks.getD i d) == r).map (fun i=>ks.getD i d) = Zk3 rk (ks.take n) r:=by
    intro n
    induction n with
    | zero=>intro _; rfl
    | succ n ih =>
      intro hn
      have hx:ks[n]? = some ks[n]:=List.getElem?_eq_getElem (by lia)
      have hd:ks.getD n d = ks[n]:=by rw [List.getD_eq_getElem?_getD,hx]; rfl
      rw [List.range_succ,List.filter_append,List.map_append,ih (by lia),Zz4 hx,bucket_snoc]
      congr 1
      by_cases h:(rk ks[n] == r) = true
      · rw [if_pos h]
        simp only [List.filter_cons,hd,h,if_true,List.filter_nil,List.map_cons,List.map_nil]
      · rw [if_neg h]
        simp only [List.filter_cons,hd,h,List.filter_nil]
        rfl
  have:=e ks.length (Nat.le_refl _)
  rwa [List.take_length] at this
theorem idxTo_map (rk:F6→Int) (ks:List (F6)) (d:F6):∀ r,(idxTo (fun i=>rk (ks.getD i d)) ks.length r).map (fun i=>ks.getD i d) = Zvh rk ks r
  | 0=>rfl
  | r + 1=>by
    show (idxTo _ _ r++_).map _ = Zvh rk ks r++Zk3 rk ks (Int.ofNat r)
    rw [List.map_append,idxTo_map rk ks d r,filter_map_get]
theorem map_wdV (ks:List (F6)) (tk:Nat→Nat) (d:F6):∀ L:List Nat,(∀ i ∈ L,i < ks.length)→∃ tk',L.map (fun i=>(wdV ks tk).getD i Value.none) = wdV (L.map fun i=>ks.getD i d) tk'
  | [],_=>⟨fun _=>0,rfl⟩
  | i::L,h=>by
    obtain ⟨tk',e⟩:=map_wdV ks tk d L fun j hj=>h j (.tail _ hj)
    have hi:=h i (.head _)
    have hx:ks[i]? = some ks[i]:=List.getElem?_eq_getElem hi
    have h1:(wdV ks tk).getD i Value.none = .str (S (Zzc ks[i])) (tk i):=by rw [List.getD_eq_getElem?_getD,wdV_get ks tk i _ hx]; rfl
    have h2:ks.getD i d = ks[i]:=by rw [List.getD_eq_getElem?_getD,hx]; rfl
    refine ⟨fun j=>match j with | 0=>tk i | j + 1=>tk' j,?_⟩
    rw [List.map_cons,List.map_cons,e,h1,h2]
    rfl
end
section
open PySem PySem.W PySem.W.X PyProof.Rows
noncomputable def Zk8:List (F6)→(Nat→Nat)→List Nat→List (Addr × Obj)
  | [],_,_=>[]
  | k::ks,tk,l=>match l with
    | []=>[]
    | n::l=>(n + 1,Zxm n (Zzc k) (tk 0))::Zk8 ks (fun j=>tk (j + 1)) l
noncomputable def Zxj (l:List Nat):List Value:=l.map fun n=>.ref (n + 1)
theorem kObjs_snoc:∀ (ks:List (F6)) (tk:Nat→Nat) (l:List Nat) (k:F6) (n:Nat),l.length = ks.length→Zk8 (ks++[k]) tk (l++[n]) = Zk8 ks tk l++[(n + 1,Zxm n (Zzc k) (tk ks.length))]
  | [],tk,[],k,n,_=>rfl
  | [],tk,_::_,k,n,h=>by cases h
  | _::_,tk,[],k,n,h=>by cases h
  | c::ks,tk,m::l,k,n,h=>by
    have ih:=kObjs_snoc ks (fun j=>tk (j + 1)) l k n (Nat.succ.inj h)
    show _::Zk8 (ks++[k]) _ (l++[n]) = _::(Zk8 ks _ l++_)
    rw [ih]; rfl
theorem Zwq:∀ (ks:List (F6)) (tk:Nat→Nat) (l:List Nat) (i:Nat) (k:F6) (n:Nat),ks[i]? = some k→l[i]? = some n→∃ rest,(Zk8 ks tk l).Perm ((n + 1,Zxm n (Zzc k) (tk i))::rest) ∧
    ∀ j c m,j≠i→ks[j]? = some c→l[j]? = some m→∃ rest',rest.Perm ((m + 1,Zxm m (Zzc c) (tk j))::rest')
  | [],_,_,_,_,_,h,_=>by cases h
  | _::_,_,[],_,_,_,_,h=>by cases h
  | c0::ks,tk,m0::l,0,k,n,h1,h2=>by
    cases h1; cases h2
    refine ⟨Zk8 ks (fun j=>tk (j + 1)) l,.refl _,fun j c m hj hc hm=>?_⟩
    obtain ⟨j,rfl⟩:∃ j',j = j' + 1:=⟨j - 1,by lia⟩
    obtain ⟨rest,hp,-⟩:=Zwq ks (fun j=>tk (j + 1)) l j c m hc hm
    exact ⟨rest,hp⟩
  | c0::ks,tk,m0::l,i + 1,k,n,h1,h2=>by
    obtain ⟨rest,hp,hr⟩:=Zwq ks (fun j=>tk (j + 1)) l i k n h1 h2
    refine ⟨(m0 + 1,Zxm m0 (Zzc c0) (tk 0))::rest,(hp.cons _).trans (.swap _ _ _),fun j c m hj hc hm=>?_⟩
    cases j with
    | zero=>cases hc; cases hm; exact ⟨rest,.refl _⟩
    | succ j =>
      obtain ⟨rest',hp'⟩:=hr j c m (by lia) hc hm
      exact ⟨_,(hp'.cons _).trans (.swap _ _ _)⟩
section
variable {prog:Program} {w:World} {b:Bool} {R:RO}
theorem cs_ok (hR:R.small) {W1 W2:List Nat} {r1 r2:Int} (h1:Zxd R W1 r1) (h2:Zxd R W2 r2) (x y dx dy t1 t2 n t:Nat):Zqn (T3 R) prog (wb w b) n t (tcCon 868 "__lt__" (decide (r1 < r2)) (fun a nm b=>csibZ a nm [b]) x y dx dy W1 W2 t1 t2 n t) :=
  Zqw (ex:=fun _ _ _ _=>exN fun _=>0) (Zqx (fun n t c l bb=>cm_ok hR h1 h2 false _ _ _ _ _ _ n t) Zqq) rfl rfl (CS_v prog w b R (decide (r1 < r2)) x y dx dy W1 W2 t1 t2 n t) fun f q hq=>nomatch hq
theorem klt_ok (hR:R.small) {W1 W2:List Nat} {r1 r2:Int} (h1:Zxd R W1 r1) (h2:Zxd R W2 r2) {A:Around} (hA:AOk A none 45) {h₀ h:Heap} (G:Ground (T3 R) (wb w b) h₀) {r:Zkc} {t:Nat} {g:Array GenState} {x y dx dy t1 t2:Nat} {l:List (Addr × Obj)} {Q:Bool→Shared→Prop} {E:Value→Shared→Prop}
    (O:Own h₀ ((x,Zxm dx W1 t1)::(y,Zxm dy W2 t2)::l) h)
    (hQ:∀ h' t' g',Own h₀ ((x,Zxm dx W1 t1)::(y,Zxm dy W2 t2)::l) h'→h.objs.size≤h'.objs.size→t≤t'→Zq5 true g g'→Q (decide (r1 < r2)) (r.at h' ⟨t',g'⟩)) :
    wpAny (model prog (wb w b)) A (keyLt' oneType' (.ref x) (.ref y)) Q E (r.at h ⟨t,g⟩):=by
  rw [keyLt'_oneType,oneLt'_eq]
  simp only [if_true]
  refine wpAny_bind (wpAny_cRoomFor (Nat.lt_of_le_of_lt (Nat.le_add_right _ _) hA.units) ?_)
  have e:∀ n t,(tcCon 868 "__lt__" (decide (r1 < r2)) (fun a nm b=>csibZ a nm [b]) x y dx dy W1 W2 t1 t2 n t).tree = callSpecialIfBound? (.ref x) "__lt__" [.ref y]:=fun n t=>by
    unfold tcCon; dsimp only; rw [csibZ_eq]
  refine wpAny_bind ?_
  rw [← e h.objs.size t]
  refine (cs_ok hR h1 h2 x y dx dy t1 t2 h.objs.size t).use (rest:=l) G hA O (.refl _) rfl fun z h' g' O' hs' gr=>?_
  exact wpAny_truthy_bool (hQ h' _ g' O' (by lia) (by lia) gr)
theorem kRefs_get {l:List Nat} {i n:Nat} (h:l[i]? = some n):(Zxj l)[i]? = some (.ref (n + 1)):=by
  unfold Zxj; rw [List.getElem?_map,h]; rfl
theorem item_zip {ks:List (F6)} {tk:Nat→Nat} {l:List Nat} {i:Nat} {k:F6} {n:Nat} (hk:ks[i]? = some k) (hl:l[i]? = some n):kas_item ((⟨Zxj l⟩:Array Value).zip ⟨wdV ks tk⟩) i = (.ref (n + 1),.str (S (Zzc k)) (tk i)):=by
  have h1:=kRefs_get hl
  have h2:=wdV_get ks tk i k hk
  have hz:((⟨Zxj l⟩:Array Value).zip ⟨wdV ks tk⟩)[i]? = some (.ref (n + 1),.str (S (Zzc k)) (tk i)):=by
    rw [← Array.getElem?_toList,Array.toList_zip,List.getElem?_zip_eq_some]
    exact ⟨h1,h2⟩
  unfold kas_item
  rw [Array.getD_eq_getD_getElem?,hz]; rfl
theorem end_ok (hsm:R.small) {ks:List (F6)} {tk:Nat→Nat} (h2:2≤ks.length) (h64:ks.length < 64) {l:List Nat} (hl:l.length = ks.length) {A:Around} (hA:AOk A none 45) {h₀ h:Heap} (G:Ground (T3 R) (wb w b) h₀) {r:Zkc} {t:Nat} {g:Array GenState} {D kS e e1:Nat} {rest:List (Addr × Obj)} {P:PySem.Fin→Shared→Prop} {E:Value→Shared→Prop}
    (O:Own h₀ ((kS,Zqz (Zxj l) e)::(D,Zqz [] e1)::(Zk8 ks tk l++rest)) h)
    (hP:∀ tk' c h' t' g',Own h₀ ((D,Zqz (wdV (Zvh R.rk ks 6) tk') c)::rest) h'→t≤t'→Zq5 true g g'→P (.done (.ret .none)) (r.at h' ⟨t',g'⟩)) :
    wpAny (model prog (wb w b)) A (ksk_end D false ⟨wdV ks tk⟩ e1 (.ref kS) ⟨Zxj l⟩) P E (r.at h ⟨t,g⟩):=by
  have hsz:100≤sizeLine:=by decide +kernel
  have hkl:(Zxj l).length = ks.length:=by unfold Zxj; rw [List.length_map,hl]
  have hwl:=Zzk ks tk
  obtain ⟨d,hd⟩:∃ d:F6,True:=⟨0,trivial⟩
  have gk:∀ i,i < ks.length→∃ k n,ks[i]? = some k∧l[i]? = some n∧ks.getD i d = k:=fun i hi=>by
    have hx:ks[i]? = some ks[i]:=List.getElem?_eq_getElem hi
    exact ⟨ks[i],l[i]'(by lia),hx,List.getElem?_eq_getElem (by lia),by rw [List.getD_eq_getElem?_getD,hx]; rfl⟩
  unfold ksk_end
  dsimp only
  simp only [Bool.false_eq_true,if_false]
  have hn2:¬ (⟨wdV ks tk⟩:Array Value).size < 2:=by show ¬ (wdV ks tk).length < 2; lia
  rw [if_neg hn2,if_neg hn2]
  refine wpAny_bind (kas_kind (vs:=Zxj l) (T:=.ref 904) (by lia) (fun v hv=>?_) rfl (by decide) ?_)
  · obtain ⟨n,hn,rfl⟩:=List.mem_map.mp hv
    obtain ⟨i,hi,rfl⟩:=List.mem_iff_getElem.mp hn
    obtain ⟨k,m,q1,q2,-⟩:=gk i (by lia)
    have:m = l[i]:=by rw [List.getElem?_eq_getElem hi] at q2; exact (Option.some.inj q2).symm
    subst this
    obtain ⟨rs,hp,-⟩:=Zwq ks tk l i k l[i] q1 (List.getElem?_eq_getElem hi)
    have hm:(l[i] + 1,Zxm l[i] (Zzc k) (tk i)) ∈ ((kS,Zqz (Zxj l) e)::(D,Zqz [] e1)::(Zk8 ks tk l++rest)):=.tail _ (.tail _ (List.mem_append_left _ (hp.mem_iff.mpr (.head _))))
    have ho:=O.own _ hm
    exact fun A' Q' E' s' k' q'=>wpAny_typeOf_ref (k' _ _ ho) q'
  have hzs:((⟨Zxj l⟩:Array Value).zip ⟨wdV ks tk⟩).size = ks.length:=by
    rw [Array.size_zip]
    show min (Zxj l).length (wdV ks tk).length = _
    lia
  have est:SortSt.mk' oneType' ((⟨Zxj l⟩:Array Value).zip ⟨wdV ks tk⟩) #[] 7 none = kas_st oneType' ((⟨Zxj l⟩:Array Value).zip ⟨wdV ks tk⟩) (List.toArray (List.range ks.length)):=by
    have e:=kas_range ((⟨Zxj l⟩:Array Value).zip ⟨wdV ks tk⟩)
    rw [hzs] at e
    show SortSt.mk' oneType' _ #[] 7 none = SortSt.mk' oneType' ((List.toArray (List.range ks.length)).map (kas_item ((⟨Zxj l⟩:Array Value).zip ⟨wdV ks tk⟩))) #[] 7 none
    rw [e]
  have ask:(kas_sort ks.length).kasWp (kas_cmp prog (wb w b) A oneType' ((⟨Zxj l⟩:Array Value).zip ⟨wdV ks tk⟩)) (fun p s'=>(Un ks.length p ks.length∧Asc (fun i=>R.rk (ks.getD i d)) p ks.length)∧∃ h' t' g',s' = r.at h' ⟨t',g'⟩∧Own h₀ ((kS,Zqz (Zxj l) e)::(D,Zqz [] e1)::(Zk8 ks tk l++rest)) h'∧t≤t'∧Zq5 true g g') (r.at h ⟨t,g⟩):=by
    refine pw_run (lt:=ltK fun i=>R.rk (ks.getD i d)) (n:=ks.length) (J:=fun s'=>∃ h' t' g',s' = r.at h' ⟨t',g'⟩∧Own h₀ ((kS,Zqz (Zxj l) e)::(D,Zqz [] e1)::(Zk8 ks tk l++rest)) h'∧t≤t'∧Zq5 true g g') (fun i j C s hi hj hij hJ hC=>?_) (fun p s hp hs=>⟨hp,hs⟩) (sort_pw (by lia)) ⟨h,t,g,rfl,O,Nat.le_refl _,Zq5.refl _ _⟩
    obtain ⟨h',t',g',rfl,O',ht',gr'⟩:=hJ
    obtain ⟨k1,n1,a1,b1,c1⟩:=gk i hi
    obtain ⟨k2,n2,a2,b2,c2⟩:=gk j hj
    unfold kas_cmp
    rw [item_zip (tk:=tk) a1 b1,item_zip (tk:=tk) a2 b2]
    obtain ⟨rs,hp,hr⟩:=Zwq ks tk l i k1 n1 a1 b1
    obtain ⟨rs',hp'⟩:=hr j k2 n2 (fun e=>hij e.symm) a2 b2
    have hpp:(Zk8 ks tk l).Perm ((n1 + 1,Zxm n1 (Zzc k1) (tk i))::(n2 + 1,Zxm n2 (Zzc k2) (tk j))::rs'):=hp.trans (hp'.cons _)
    have key:∀ (X Y:Addr × Obj) (L rs':List (Addr × Obj)),((kS,Zqz (Zxj l) e)::(D,Zqz [] e1)::((X::Y::rs')++L)).Perm (X::Y::((kS,Zqz (Zxj l) e)::(D,Zqz [] e1)::(rs'++L))):=fun X Y L rs'=>by
      (refine Zqv fun _=>?_; simp +arith only [Zqj,Zqk,Zqc])
    have hall:=(((hpp.append_right rest).cons (D,Zqz [] e1)).cons (kS,Zqz (Zxj l) e)).trans (key _ _ rest rs')
    refine klt_ok hsm (isWd R k1) (isWd R k2) hA G (O'.perm hall) fun h3 t3 g3 O3 hs3 ht3 gr3=>?_
    have hlt:ltK (fun i=>R.rk (ks.getD i d)) i j = decide (R.r k1.val < R.r k2.val):=by
      show decide (R.rk (ks.getD i d) < R.rk (ks.getD j d)) = decide (R.rk k1 < R.rk k2)
      simp only [c1,c2]
    rw [← hlt]
    exact hC _ ⟨h3,t3,g3,rfl,O3.perm hall.symm,by lia,Zq5.trans (d:=true) gr' gr3 fun e=>Bool.noConfusion e⟩
  have run:=kas_runs (E:=E) (Q:=fun _ st' s'=>∃ p:Array Nat,p.size = ks.length∧arrOf st' = p.map (kas_item ((⟨Zxj l⟩:Array Value).zip ⟨wdV ks tk⟩))∧failedOf st' = none∧((Un ks.length p ks.length∧Asc (fun i=>R.rk (ks.getD i d)) p ks.length)∧∃ h' t' g',s' = r.at h' ⟨t',g'⟩∧Own h₀ ((kS,Zqz (Zxj l) e)::(D,Zqz [] e1)::(Zk8 ks tk l++rest)) h'∧t≤t'∧Zq5 true g g'))
    h2 h64 (fun p' st' s' a1 a2 a3 a4=>⟨p',a1,a2,a3,a4⟩) ask
  rw [← est] at run
  refine wpAny_bind (wpAny_mono run ?_ fun _ _ e=>e)
  rintro ⟨⟨⟩,st'⟩ s' ⟨p,hp,har,hf,⟨hu,ha⟩,h',t',g',rfl,O',ht',gr'⟩
  have hidx:=sorted_idx (fun i hi=>by
    obtain ⟨k,n,a1,b1,c1⟩:=gk i hi
    rw [c1]; exact hsm k.val) hu ha
  have hlt:∀ i ∈ p.toList,i < ks.length:=fun i hi=>by
    rw [hidx] at hi; exact (mem_idxTo.mp hi).1
  obtain ⟨tk',hmap⟩:=map_wdV ks tk d p.toList hlt
  rw [hidx,idxTo_map] at hmap
  have hout:(arrOf st').map (·.2) = ⟨wdV (Zvh R.rk ks 6) tk'⟩:=by
    apply Array.toList_inj.mp
    rw [har,Array.map_map,Array.toList_map]
    show _ = wdV (Zvh R.rk ks 6) tk'
    rw [← hmap,← hidx]
    refine List.map_congr_left fun i hi=>?_
    obtain ⟨k,n,a1,b1,c1⟩:=gk i (hlt i hi)
    show (kas_item _ i).2 = _
    rw [item_zip (tk:=tk) a1 b1,List.getD_eq_getElem?_getD,wdV_get ks tk i k a1]; rfl
  unfold ksk_tail
  dsimp only
  rw [hout,hf]
  simp only [Bool.false_eq_true,if_false]
  have hul:=upTo_le R.rk ks 6
  have o1:=O'.own (kS,Zqz (Zxj l) e) (.head _)
  refine wpAny_bind (listUpdate_at (s:=r.at h' ⟨t',g'⟩) o1 rfl ?_ (by show (Zxj l).length≤_; lia) (Nat.zero_le _))
  refine wpAny_bind (wpAny_letGo ?_)
  have O2:=O'.update (Obj.mapSeq fun _=>(#[]:Array Value)) rfl
  obtain ⟨x2,hx2⟩:=Zx8 (fun _=>(#[]:Array Value)) (Zxj l) e
  rw [hx2] at O2
  have O2:Own h₀ ((D,Zqz [] e1)::(rest++((kS,Zqz [] x2)::Zk8 ks tk l))) (h'.update kS (Obj.mapSeq fun _=>(#[]:Array Value))):=O2.perm (by
    generalize Zk8 ks tk l = lk
    (refine Zqv fun _=>?_; simp +arith only [Zqj,Zqk,Zqc]))
  generalize h'.update kS (Obj.mapSeq fun _=>(#[]:Array Value)) = h4 at O2
  have o2:=O2.own (D,Zqz [] e1) (.head _)
  refine wpAny_bind (seqEpoch_at (s:=r.at h4 ⟨t',g'⟩) o2 rfl ?_)
  refine wpAny_bind (listUpdate_at (s:=r.at h4 ⟨t',g'⟩) o2 rfl ?_ (Nat.zero_le _) (by show (wdV (Zvh R.rk ks 6) tk').length≤_; rw [Zzk]; lia))
  simp only [bne_self_eq_false,Bool.false_eq_true,if_false]
  have O5:=O2.update (Obj.mapSeq fun _=>(⟨wdV (Zvh R.rk ks 6) tk'⟩:Array Value)) rfl
  obtain ⟨x5,hx5⟩:=Zx8 (fun _=>(⟨wdV (Zvh R.rk ks 6) tk'⟩:Array Value)) [] e1
  rw [hx5] at O5
  exact wpAny_pure (hP tk' x5 _ t' g' (Own.drop (r:=(kS,Zqz [] x2)::Zk8 ks tk l) O5) ht' gr')
end
end
section
open PySem PySem.W PySem.W.X PyProof.Rows
theorem kRefs_snoc (l:List Nat) (n:Nat):Zxj (l++[n]) = Zxj l++[.ref (n + 1)]:=by unfold Zxj; rw [List.map_append]; rfl
section
variable {prog:Program} {w:World} {b:Bool} {R:RO}
theorem rest_ok (hsm:R.small) {ks:List (F6)} {tk:Nat→Nat} (h2:2≤ks.length) (h64:ks.length < 64) {A:Around} (hA:AOk A none 45) {h₀ h:Heap} (G:Ground (T3 R) (wb w b) h₀) {r:Zkc} {t:Nat} {g:Array GenState} {D kS e1:Nat} {rest:List (Addr × Obj)} {P:PySem.Fin→Shared→Prop} {E:Value→Shared→Prop}
    (O:Own h₀ ((kS,Zqz [] 0)::(D,Zqz [] e1)::rest) h)
    (hP:∀ tk' c h' t' g',Own h₀ ((D,Zqz (wdV (Zvh R.rk ks 6) tk') c)::rest) h'→t≤t'→Zq5 true g g'→P (.done (.ret .none)) (r.at h' ⟨t',g'⟩)) :
    wpAny (model prog (wb w b)) A (ksk_rest D (.ref 904) false ⟨wdV ks tk⟩ e1 (.ref kS)) P E (r.at h ⟨t,g⟩):=by
  have hsz:100≤sizeLine:=by decide +kernel
  have hwl:=Zzk ks tk
  unfold ksk_rest
  refine wpAny_bind (wpAny_rule ?_)
  rw [show (⟨wdV ks tk⟩:Array Value) = (wdV ks tk).toArray from rfl]
  first
    | rw [List.forIn_toArray]
    | (rw [← Array.forIn_toList]; simp only [List.toList_toArray])
  refine wpAny_bind (ksk_fold (fun i s'=>∃ h' t' g' l e,s' = r.at h' ⟨t',g'⟩∧l.length = i∧Own h₀ ((kS,Zqz (Zxj l) e)::(D,Zqz [] e1)::(Zk8 (ks.take i) tk l++rest)) h'∧t≤t'∧Zq5 true g g') (wdV ks tk) 0 (r.at h ⟨t,g⟩)
    ⟨h,t,g,[],0,rfl,rfl,O,Nat.le_refl _,Zq5.refl _ _⟩ ?step ?done)
  case step =>
    rintro j x s' hx ⟨h',t',g',l,e,rfl,hl,O',ht',gr'⟩
    simp only [Nat.zero_add] at hl O' ⊢
    obtain ⟨k,hk,rfl⟩:=wdV_is ks tk j x hx
    have hj:j < ks.length:=(List.getElem?_eq_some_iff.mp hk).1
    have turn:wpAny (model prog (wb w b)) A (call (.ref 904) [.str (S (Zzc k)) (tk j)]) (fun v s''=>∃ h3 t3 g3,v = .ref (h'.objs.size + 1)∧s'' = r.at h3 ⟨t3,g3⟩∧Own h₀ ((h'.objs.size + 1,Zxm h'.objs.size (Zzc k) (tk j))::(kS,Zqz (Zxj l) e)::(D,Zqz [] e1)::(Zk8 (ks.take j) tk l++rest)) h3∧t'≤t3∧Zq5 true g' g3) (fun _ _=>False) (r.at h' ⟨t',g'⟩):=by
      refine wpAny_call ?_
      refine (ky_ok (prog:=prog) (b:=b) (R:=R) (Zzc k) (tk j) h'.objs.size t').use (rest:=(kS,Zqz (Zxj l) e)::(D,Zqz [] e1)::(Zk8 (ks.take j) tk l++rest)) G (hA.le (by show 30≤45; lia)) O' (.refl _) rfl fun x h3 g3 O3 hs3 gr3=>?_
      exact ⟨h3,_,g3,rfl,rfl,O3,Nat.le_add_right _ _,⟨fun e=>(by cases e),gr3.2⟩⟩
    refine wpAny_bind (wpAny_attempt (wpAny_mono turn (fun v s'' he=>?_) fun _ _ hF=>hF.elim))
    obtain ⟨h3,t3,g3,rfl,rfl,O3,ht3,gr3⟩:=he
    dsimp only
    have O3:Own h₀ ((kS,Zqz (Zxj l) e)::(D,Zqz [] e1)::(((Zk8 (ks.take j) tk l)++[(h'.objs.size + 1,Zxm h'.objs.size (Zzc k) (tk j))])++rest)) h3:=O3.perm (by
      generalize Zk8 (ks.take j) tk l = lk
      (refine Zqv fun _=>?_; simp +arith only [Zqj,Zqk,Zqc]))
    have hlt:(ks.take j).length = j:=by rw [List.length_take]; lia
    have hks:Zk8 (ks.take (j + 1)) tk (l++[h'.objs.size]) = Zk8 (ks.take j) tk l++[(h'.objs.size + 1,Zxm h'.objs.size (Zzc k) (tk j))]:=by
      rw [Zz4 hk,kObjs_snoc _ _ _ _ _ (by rw [hlt,hl]),hlt]
    rw [← hks] at O3
    have o1:=O3.own (kS,Zqz (Zxj l) e) (.head _)
    have hkl:(Zxj l).length = j:=by unfold Zxj; rw [List.length_map,hl]
    obtain ⟨x2,hx2⟩:=Zx8 (·.push (.ref (h'.objs.size + 1))) (Zxj l) e
    have O4:=O3.update (Obj.mapSeq (·.push (.ref (h'.objs.size + 1)))) (by rw [hx2]; rfl)
    rw [hx2] at O4
    have e2:((⟨Zxj l⟩:Array Value).push (.ref (h'.objs.size + 1))).toList = Zxj (l++[h'.objs.size]):=by rw [kRefs_snoc]; simp
    rw [e2] at O4
    refine wpAny_bind (listUpdate_at (s:=r.at h3 ⟨t3,g3⟩) o1 rfl ?_ (by show (Zxj l).length≤_; lia) (by
      have:((⟨Zxj l⟩:Array Value).push (.ref (h'.objs.size + 1))).size = (Zxj l).length + 1:=by simp
      show ((⟨Zxj l⟩:Array Value).push (.ref (h'.objs.size + 1))).size≤_
      lia))
    exact wpAny_pure ⟨rfl,_,t3,g3,l++[h'.objs.size],x2,rfl,by rw [List.length_append,hl]; rfl,O4,by lia,Zq5.trans (d:=true) gr' gr3 fun e=>Bool.noConfusion e⟩
  case done =>
    rintro s' ⟨h',t',g',l,e,rfl,hl,O',ht',gr'⟩
    rw [Nat.zero_add,hwl] at hl O'
    rw [List.take_length] at O'
    refine wpAny_bind (listItems_at (s:=r.at h' ⟨t',g'⟩) (O'.own (kS,Zqz (Zxj l) e) (.head _)) rfl ?_)
    exact end_ok hsm h2 h64 hl hA G O' fun tk' c h4 t4 g4 O4 ht4 gr4=>hP tk' c h4 t4 g4 O4 (by lia) (Zq5.trans (d:=true) gr' gr4 fun e=>Bool.noConfusion e)
theorem tree_ok (hsm:R.small) {ks:List (F6)} {tk:Nat→Nat} (h2:2≤ks.length) (h64:ks.length < 64) {A:Around} (hA:AOk A none 45) {h₀ h:Heap} (G:Ground (T3 R) (wb w b) h₀) {r:Zkc} {t:Nat} {g:Array GenState} {D e0:Nat} {rest:List (Addr × Obj)} {P:PySem.Fin→Shared→Prop} {E:Value→Shared→Prop}
    (O:Own h₀ ((D,Zqz (wdV ks tk) e0)::rest) h)
    (hP:∀ tk' c h' t' g',Own h₀ ((D,Zqz (wdV (Zvh R.rk ks 6) tk') c)::rest) h'→t≤t'→Zq5 true g g'→P (.done (.ret .none)) (r.at h' ⟨t',g'⟩)) :
    wpAny (model prog (wb w b)) A (ksk_tree D (.ref 904) false) P E (r.at h ⟨t,g⟩):=by
  have hsz:100≤sizeLine:=by decide +kernel
  have hwl:=Zzk ks tk
  unfold ksk_tree
  have o0:=O.own (D,Zqz (wdV ks tk) e0) (.head _)
  refine wpAny_bind (listItems_at (s:=r.at h ⟨t,g⟩) o0 rfl ?_)
  refine wpAny_bind (listUpdate_at (s:=r.at h ⟨t,g⟩) o0 rfl ?_ (by show (wdV ks tk).length≤_; lia) (Nat.zero_le _))
  have O1:=O.update (Obj.mapSeq fun _=>(#[]:Array Value)) rfl
  obtain ⟨e1,hx⟩:=Zx8 (fun _=>(#[]:Array Value)) (wdV ks tk) e0
  rw [hx] at O1
  have O1:Own h₀ ((D,Zqz [] e1)::rest) (h.update D (Obj.mapSeq fun _=>(#[]:Array Value))):=O1
  generalize h.update D (Obj.mapSeq fun _=>(#[]:Array Value)) = h1 at O1
  refine wpAny_bind (seqEpoch_at (s:=r.at h1 ⟨t,g⟩) (O1.own _ (.head _)) rfl ?_)
  refine wpAny_bind (wpAny_newTuple ?_ (by show (wdV ks tk).length≤_; lia))
  refine wpAny_bind (wpAny_newList ?_ (Nat.zero_le _))
  refine wpAny_holding ?_
  have O2:=O1.push (seqObj "tuple" (wdV ks tk).toArray 0) rfl
  have O3:=O2.push (Zqz [] 0) rfl
  have O3:Own h₀ (((h1.push (seqObj "tuple" (wdV ks tk).toArray 0)).objs.size,Zqz [] 0)::(D,Zqz [] e1)::(rest++[(h1.objs.size,seqObj "tuple" (wdV ks tk).toArray 0)])) ((h1.push (seqObj "tuple" (wdV ks tk).toArray 0)).push (Zqz [] 0)):=O3.perm (by
    (refine Zqv fun _=>?_; simp +arith only [Zqj,Zqk,Zqc]))
  exact rest_ok hsm h2 h64 hA G (t:=t) (g:=g) O3 fun tk' c h4 t4 g4 O4 ht4 gr4=>hP tk' c h4 t4 g4 (Own.drop (r:=[(h1.objs.size,seqObj "tuple" (wdV ks tk).toArray 0)]) O4) ht4 gr4
end
end
section
open PySem PySem.W PySem.W.X PyProof.Rows
section
variable {prog:Program} {w:World} {b:Bool} {R:RO}
theorem so_ok (hsm:R.small) {ks:List (F6)} (h2:2≤ks.length) (h64:ks.length < 64) (la:Addr) (tk:Nat→Nat) (ep n t:Nat):Zq1 (T3 R) prog (wb w b) n t (soCon la ks R.rk tk ep):=by
  have hsz:100≤sizeLine:=by decide +kernel
  have hwl:=Zzk ks tk
  refine ⟨fun h₀ h r g A Rz G hA O hs hR=>?_⟩
  have O:Own h₀ [(la,Zqz (wdV ks tk) ep)] h:=O
  have hA:AOk A none 50:=hA
  refine Zxp (n:=n) (by show n≤h.objs.size; lia) ?_
  refine codeAny_builtin entry_sorted ?_
  rw [Around.under_plainId plain_sorted]
  unfold Builtin.«sorted»
  refine wpAny_bind (m:=checkCount "sorted" 1 1 _) (wpAny_pure ?_)
  have hl:h.IsList la (wdV ks tk).toArray:=⟨_,O.own _ (.head _),rfl,ep,rfl⟩
  refine wpAny_bind (collect_list (s:=r.at h ⟨t,g⟩) hl ?_ (by lia))
  refine wpAny_bind (wpAny_newList ?_ (by lia))
  have O1:=O.push (Zqz [] 0) rfl
  have O2:=O1.update (Obj.mapSeq (·++(wdV ks tk).toArray)) (by
    obtain ⟨x,hx⟩:=Zx8 (·++(wdV ks tk).toArray) [] 0
    rw [hx]; rfl)
  have O3:Own h₀ ((((h.push (seqObj "list" #[] 0)).update h.objs.size (Obj.mapSeq (·++(wdV ks tk).toArray))).objs.size,Zqz (wdV ks tk) 0)::[(h.objs.size,Obj.mapSeq (·++(wdV ks tk).toArray) (Zqz [] 0)),(la,Zqz (wdV ks tk) ep)]) (((h.push (seqObj "list" #[] 0)).update h.objs.size (Obj.mapSeq (·++(wdV ks tk).toArray))).push (seqObj "list" (wdV ks tk).toArray 0)):=O2.push (Zqz (wdV ks tk) 0) rfl
  have O3:=O3.perm ((List.Perm.swap (la,Zqz (wdV ks tk) ep) (h.objs.size,Obj.mapSeq (·++(wdV ks tk).toArray) (Zqz [] 0)) []).cons _)
  show wpAny _ _ _ _ _ (r.at (((h.push (seqObj "list" #[] 0)).update h.objs.size (Obj.mapSeq (·++(wdV ks tk).toArray))).push (seqObj "list" (wdV ks tk).toArray 0)) ⟨t,g⟩)
  have hA2:AOk A.in1.in1 none 45:=⟨hA.hand,by have:=hA.deep; show A.depth + 5 * 45 < _; lia,by have:=hA.units; show A.units + 1 + 1 + 10 * 45 < _; lia,fun l e=>by cases e⟩
  refine wpAny_bind (wpAny_holding (wpAny_call_entry_kw slot_list_sort ⟨_,O3.own _ (.head _),rfl⟩ entry_list_sort ?body (ksk_l1 _ _)))
  case body =>
    show wpAny (model prog (wb w b)) A.in1.in1 (Builtin.«list.sort» ⟨[.ref ((h.push (seqObj "list" #[] 0)).update h.objs.size (Obj.mapSeq (·++(wdV ks tk).toArray))).objs.size],[(Str.ofString "key",.ref 904)]⟩) _ _ _
    generalize ((h.push (seqObj "list" #[] 0)).update h.objs.size (Obj.mapSeq (·++(wdV ks tk).toArray))).objs.size = D at O3 ⊢
    rw [ksk_t1 904 D]
    refine tree_ok hsm h2 h64 hA2 G O3 fun tk' c h4 t4 g4 O4 ht4 gr4=>⟨_,rfl,wpAny_pure fun hn'=>?_⟩
    have hn':n≤h4.objs.size:=hn'
    have fin:=hR ⟨fun j=>match j with | 0=>h4.objs.size - n | 1=>t4 - t | 2=>D | _=>c,fun _=>#[],fun _ _=>tk',Ext.nil.ob⟩ h4 g4 (Own.drop (r:=[(h.objs.size,Obj.mapSeq (·++(wdV ks tk).toArray) (Zqz [] 0))]) O4) (Nat.add_sub_cancel' hn').symm gr4
    have et:t + (t4 - t) = t4:=by lia
    change Rz (.ok (.ret (.ref D))) (r.at h4 ⟨t + (t4 - t),g4⟩) at fin
    rw [et] at fin
    exact fin
end
end
section
open PySem PySem.W PySem.W.X PyProof.Rows PySem.SeqAt
theorem lrefs_get:∀ (css:List (List (F6))) (g:Nat→Nat→Nat) (i:Nat) (v:Value),(Zxx css g)[i]? = some v→∃ c,css[i]? = some c∧v = .ref (g i 0)∧(g i 0,Zqz (wdV c fun k=>g i (k + 2)) (g i 1)) ∈ Zz5 css g
  | [],_,_,_,h=>by cases h
  | c::r,g,0,v,h=>by cases h; exact ⟨c,rfl,rfl,.head _⟩
  | c::r,g,i + 1,v,h=>by
    obtain ⟨c',h1,h2,h3⟩:=lrefs_get r (fun j=>g (j + 1)) i v h
    exact ⟨c',h1,h2,.tail _ h3⟩
theorem lrefs_length:∀ (css:List (List (F6))) (g:Nat→Nat→Nat),(Zxx css g).length = css.length
  | [],_=>rfl
  | _::r,g=>congrArg (· + 1) (lrefs_length r _)
theorem all_range_true (n:Nat):(List.range n).all (fun _=>true) = true:=by simp
theorem words_rc {A:Around} {s:Shared} {a c:Addr} {ks:List (F6)} {tk tk':Nat→Nat} (ha:s.heap.IsList a (⟨wdV ks tk⟩:Array Value)) (hc:s.heap.IsList c (⟨wdV ks tk'⟩:Array Value)) (hu:A.units < cLine):RcAt A s (.ref a) (.ref c) true:=by
  have hsz:(⟨wdV ks tk⟩:Array Value).size = (⟨wdV ks tk'⟩:Array Value).size:=by show (wdV ks tk).length = (wdV ks tk').length; rw [Zzk,Zzk]
  have z:=RcAt.lists (A:=A) (e:=fun _=>true) ha hc hsz hu (fun j h1 h2=>by
    have g1:(wdV ks tk)[j]? = some ((⟨wdV ks tk⟩:Array Value)[j]):=List.getElem?_eq_getElem (by simpa using h1)
    have g2:(wdV ks tk')[j]? = some ((⟨wdV ks tk'⟩:Array Value)[j]):=List.getElem?_eq_getElem (by simpa using h2)
    obtain ⟨k,q1,q2⟩:=wdV_is ks tk j _ g1
    obtain ⟨k',q3,q4⟩:=wdV_is ks tk' j _ g2
    rw [q1] at q3
    cases q3
    rw [q2,q4]
    have:=EqAt.str_str (A:=A.in1) (s:=s) (S (Zzc k)) (tk j) (S (Zzc k)) (tk' j)
    rwa [beq_self_eq_true] at this)
  rwa [all_range_true] at z
section
variable {prog:Program} {w:World} {b:Bool} {R:RO}
theorem ret11:lwS (Zqd R (wb w b)) 11 = .Return (some (.BoolOp .And [.Compare (cmpL (lwE11 (Zqd R (wb w b)) 0)) [.Eq] [cmpR (lwE11 (Zqd R (wb w b)) 0)] (cmpPos (lwE11 (Zqd R (wb w b)) 0)),.Compare (cmpL (lwE11 (Zqd R (wb w b)) 1)) [.Eq] [cmpR (lwE11 (Zqd R (wb w b)) 1)] (cmpPos (lwE11 (Zqd R (wb w b)) 1))] (boolP (retVal (lwS (Zqd R (wb w b)) 11))))) (retPos (lwS (Zqd R (wb w b)) 11)):=by cases b <;> kernel_rfl
theorem mark11 (k:Nat) (hk:k < 2):behindInMarks .Eq (cmpR (lwE11 (Zqd R (wb w b)) k)) = false:=by
  match k,hk with
  | 0,_=>cases b <;> kernel_rfl
  | 1,_=>cases b <;> kernel_rfl
theorem lw11_ok (hsm:R.small) {ks:List (F6)} (h2:2≤ks.length) (h64:ks.length < 64) {css:List (List (F6))} {A:Around} (hA:AOk A none 100) {h₀ h:Heap} (G:Ground (T3 R) (wb w b) h₀) {r:Zkc} {t:Nat} {g:Array GenState} {ft:Nat→Nat} {cut:Int} {u la ls lp ld le lo:Nat} {sl:Array (Option Value)} {tk tk':Nat→Nat} {ep e1 e2 e3:Nat} {g1 g2:Nat→Nat→Nat} {rest:List (Addr × Obj)} {Q:Flow→Shared→Prop} {E:Value→Shared→Prop}
    (O:Own h₀ ((806,lwG (hz (wb w b)) ft (lwVs10 cut u la ls lp ld le lo) sl)::(la,Zqz (wdV ks tk) ep)::(ld,Zqz (Zxx css g1) e1)::(le,Zqz (Zxx css g2) e2)::(lo,Zqz (wdV (Zvh R.rk ks 6) tk') e3)::(Zz5 css g1++(Zz5 css g2++rest))) h)
    (hQ:∀ h' t' g',Own h₀ rest h'→t≤t'→Zq5 true g g'→Q (.ret (.bool true)) (r.at h' ⟨t',g'⟩)) :
    wpAny (model prog (wb w b)) A (execs [lwS (Zqd R (wb w b)) 11] (Zq4 (Zqd R (wb w b)))) Q E (r.at h ⟨t,g⟩):=by
  have hu:A.units < cLine:=Nat.lt_of_le_of_lt (Nat.le_add_right _ _) hA.units
  have hu1:A.in1.units < cLine:=by have:=hA.units; show A.units + 1 < _; lia
  rw [Zj4,ret11]
  refine wpAny_Return_some (wpAny_And2 (wpAny_Compare1 ?_ (mark11 0 (by lia))))
  have tN:∀ e v n t,(n11 R w b e ft cut u la ls lp ld le lo sl v n t).tree = eval e (Zq4 (Zqd R (wb w b))):=fun e v n t=>by
    unfold n11 cEv; dsimp only; rw [Zzx]
  rw [← tN _ ld h.objs.size t]
  refine (Zqw (ex:=vEx) Zqq rfl rfl (T11_v prog w b R ft cut u la ls lp ld le lo sl h.objs.size t) fun f q hq=>nomatch hq).use (rest:=(la,Zqz (wdV ks tk) ep)::(ld,Zqz (Zxx css g1) e1)::(le,Zqz (Zxx css g2) e2)::(lo,Zqz (wdV (Zvh R.rk ks 6) tk') e3)::(Zz5 css g1++(Zz5 css g2++rest))) G (hA.le (by show 20≤100; lia)) O (.refl _) rfl fun x1 h1 g1' O1 hs1 gr1=>?_
  show wpAny _ A (eval (cmpR (lwE11 (Zqd R (wb w b)) 0)) (Zq4 (Zqd R (wb w b)))) _ _ _
  rw [← tN _ le h1.objs.size (t + x1.nat 1)]
  refine (Zqw (ex:=vEx) Zqq rfl rfl (D11_v prog w b R ft cut u la ls lp ld le lo sl h1.objs.size (t + x1.nat 1)) fun f q hq=>nomatch hq).use (rest:=(la,Zqz (wdV ks tk) ep)::(ld,Zqz (Zxx css g1) e1)::(le,Zqz (Zxx css g2) e2)::(lo,Zqz (wdV (Zvh R.rk ks 6) tk') e3)::(Zz5 css g1++(Zz5 css g2++rest))) G (hA.le (by show 20≤100; lia)) O1 (.refl _) rfl fun x2 h2' g2' O2 hs2 gr2=>?_
  have O2:Own h₀ ((806,lwG (hz (wb w b)) ft (lwVs10 cut u la ls lp ld le lo) sl)::(la,Zqz (wdV ks tk) ep)::(ld,Zqz (Zxx css g1) e1)::(le,Zqz (Zxx css g2) e2)::(lo,Zqz (wdV (Zvh R.rk ks 6) tk') e3)::(Zz5 css g1++(Zz5 css g2++rest))) h2':=O2
  have il:∀ {hh:Heap} {a:Addr} {xs:List Value} {e:Nat},hh.get? a = some (Zqz xs e)→hh.IsList a (⟨xs⟩:Array Value):=fun {hh a xs e} q=>⟨_,q,rfl,e,rfl⟩
  have hld:=il (O2.own (ld,Zqz (Zxx css g1) e1) (.tail _ (.tail _ (.head _))))
  have hle:=il (O2.own (le,Zqz (Zxx css g2) e2) (.tail _ (.tail _ (.tail _ (.head _)))))
  have hszE:(⟨Zxx css g1⟩:Array Value).size = (⟨Zxx css g2⟩:Array Value).size:=by show (Zxx css g1).length = (Zxx css g2).length; rw [lrefs_length,lrefs_length]
  refine eq_listAt (s:=r.at h2' ⟨t + x1.nat 1 + x2.nat 1,g2'⟩) (e:=fun _=>true) hld hle hszE hu (fun j q1 q2=>?_) ?_
  · have k1:(Zxx css g1)[j]? = some ((⟨Zxx css g1⟩:Array Value)[j]):=List.getElem?_eq_getElem (by simpa using q1)
    have k2:(Zxx css g2)[j]? = some ((⟨Zxx css g2⟩:Array Value)[j]):=List.getElem?_eq_getElem (by simpa using q2)
    obtain ⟨c,a1,a2,a3⟩:=lrefs_get css g1 j _ k1
    obtain ⟨c',b1,b2,b3⟩:=lrefs_get css g2 j _ k2
    rw [a1] at b1
    cases b1
    rw [a2,b2]
    have m1:(g1 j 0,Zqz (wdV c fun k=>g1 j (k + 2)) (g1 j 1)) ∈ Zz5 css g1++(Zz5 css g2++rest):=List.mem_append_left _ a3
    have m2:(g2 j 0,Zqz (wdV c fun k=>g2 j (k + 2)) (g2 j 1)) ∈ Zz5 css g2++rest:=List.mem_append_left _ b3
    have hne:g1 j 0≠g2 j 0:=fun e=>by
      have nd:=O2.nodup
      simp only [List.map_cons,List.map_append,List.nodup_cons,List.nodup_append] at nd
      exact nd.2.2.2.2.2.2.2 _ (List.mem_map_of_mem a3) _ (by rw [← List.map_append]; exact List.mem_map_of_mem m2) e
    exact EqAt.of_refs hne (words_rc (il (O2.own _ (.tail _ (.tail _ (.tail _ (.tail _ (.tail _ m1))))))) (il (O2.own _ (.tail _ (.tail _ (.tail _ (.tail _ (.tail _ (List.mem_append_right _ m2)))))))) hu1)
  · rw [all_range_true]
    refine wpAny_truthy_bool ?_
    rw [if_pos rfl]
    refine wpAny_Compare1 ?_ (mark11 1 (by lia))
    have tS:∀ n t,(c11S (hz (wb w b)) (Zqd R (wb w b)) Zq9 ft cut u la ls lp ld le lo sl ks R.rk tk ep n t).tree = eval (cmpL (lwE11 (Zqd R (wb w b)) 1)) (Zq4 (Zqd R (wb w b))):=fun n t=>by
      unfold c11S; dsimp only; rw [Zzx]
    rw [← tS h2'.objs.size (t + x1.nat 1 + x2.nat 1)]
    refine (Zqw (ex:=c11Ex) (Zqx (fun n' t' c l bb=>so_ok hsm h2 h64 la tk _ n' t') Zqq) rfl rfl (S11_v prog w b R ft cut u la ls lp ld le lo sl ks R.rk tk ep h2'.objs.size (t + x1.nat 1 + x2.nat 1)) fun f q hq=>nomatch hq).use (rest:=(ld,Zqz (Zxx css g1) e1)::(le,Zqz (Zxx css g2) e2)::(lo,Zqz (wdV (Zvh R.rk ks 6) tk') e3)::(Zz5 css g1++(Zz5 css g2++rest))) G (hA.bare (by show 80≤100; lia)) O2 (.refl _) rfl fun x3 h3 g3' O3 hs3 gr3=>?_
    show wpAny _ A (eval (cmpR (lwE11 (Zqd R (wb w b)) 1)) (Zq4 (Zqd R (wb w b)))) _ _ _
    rw [← tN _ lo h3.objs.size (t + x1.nat 1 + x2.nat 1 + x3.nat 1)]
    refine (Zqw (ex:=vEx) Zqq rfl rfl (O11_v prog w b R ft cut u la ls lp ld le lo sl h3.objs.size (t + x1.nat 1 + x2.nat 1 + x3.nat 1)) fun f q hq=>nomatch hq).use (rest:=(x3.nat 2,Zqz (wdV (Zvh R.rk ks 6) (x3.seq 0 0)) (x3.nat 3))::(la,Zqz (wdV ks tk) ep)::(ld,Zqz (Zxx css g1) e1)::(le,Zqz (Zxx css g2) e2)::(lo,Zqz (wdV (Zvh R.rk ks 6) tk') e3)::(Zz5 css g1++(Zz5 css g2++rest))) G (hA.le (by show 20≤100; lia)) O3 (by
      simp only [Zq2.preA,Zq2.postA,c11S,n11,fr11,cEv,Zqr]
      generalize Zz5 css g1 = l1
      generalize Zz5 css g2 = l2
      (refine Zqv fun _=>?_; simp +arith only [Zqj,Zqk,Zqc])) rfl fun x4 h4 g4' O4 hs4 gr4=>?_
    have O4:Own h₀ ((806,lwG (hz (wb w b)) ft (lwVs10 cut u la ls lp ld le lo) sl)::(x3.nat 2,Zqz (wdV (Zvh R.rk ks 6) (x3.seq 0 0)) (x3.nat 3))::(la,Zqz (wdV ks tk) ep)::(ld,Zqz (Zxx css g1) e1)::(le,Zqz (Zxx css g2) e2)::(lo,Zqz (wdV (Zvh R.rk ks 6) tk') e3)::(Zz5 css g1++(Zz5 css g2++rest))) h4:=O4
    have z:=words_rc (A:=A) (s:=r.at h4 ⟨t + x1.nat 1 + x2.nat 1 + x3.nat 1 + x4.nat 1,g4'⟩) (il (O4.own (x3.nat 2,_) (.tail _ (.head _)))) (il (O4.own (lo,_) (.tail _ (.tail _ (.tail _ (.tail _ (.tail _ (.head _)))))))) hu
    refine z prog (wb w b) E _ ?_
    exact hQ h4 _ g4' (Own.drop (r:=(806,lwG (hz (wb w b)) ft (lwVs10 cut u la ls lp ld le lo) sl)::(x3.nat 2,Zqz (wdV (Zvh R.rk ks 6) (x3.seq 0 0)) (x3.nat 3))::(la,Zqz (wdV ks tk) ep)::(ld,Zqz (Zxx css g1) e1)::(le,Zqz (Zxx css g2) e2)::(lo,Zqz (wdV (Zvh R.rk ks 6) tk') e3)::(Zz5 css g1++Zz5 css g2)) (O4.perm (by
      generalize Zz5 css g1 = l1
      generalize Zz5 css g2 = l2
      (refine Zqv fun _=>?_; simp +arith only [Zqj,Zqk,Zqc])))) (by lia) (Zq5.trans (d:=true) (Zq5.trans (d:=true) (Zq5.trans (d:=true) gr1 gr2 fun e=>Bool.noConfusion e) gr3 fun e=>Bool.noConfusion e) gr4 fun e=>Bool.noConfusion e)
end
end
noncomputable def Plain:Prop:=∀ (rk:F6→Int) (ks:List (F6)) (c:Nat),c≤ks.length→0 < ks.length →
  ∃ zn:Nat,zn≤ks.length∧Int.ofNat zn = maxL (numsOf' (ks.map rk))∧0 ∈ numsOf' (ks.map rk) ∧
    (deals rk (ks.drop c) (((deals rk (ks.take c) []).map PS.cont).map lnPS)).map PS.cont = dueOf ks (numsOf' (ks.map rk)) (zn + 1)
theorem cut_is (ys:List Int) (T:Int):∃ c:Nat,cutZ ys T = Int.ofNat c∧c≤(Zxz ys).length:=by
  unfold cutZ
  rw [← Z.modQ_eq]
  have h0:(0:Int) < Int.ofNat (Zxz ys).length + 1:=by have:(0:Int)≤Int.ofNat (Zxz ys).length:=Int.natCast_nonneg _; lia
  have h1:=Int.fmod_nonneg_of_pos (T + 4) h0
  have h2:=Int.fmod_lt_of_pos (T + 4) h0
  generalize Int.fmod (T + 4) (Int.ofNat (Zxz ys).length + 1) = z at h1 h2
  have e:Int.ofNat (Zxz ys).length = ((Zxz ys).length:Int):=rfl
  rw [e] at h2
  refine ⟨z.toNat,?_,by lia⟩
  show z = ((z.toNat:Nat):Int)
  lia
theorem txts_map (sts:List PS):txtsOf sts = (sts.map PS.cont).map fun c=>S (Zzh c):=by
  unfold txtsOf; rw [List.map_map]; rfl
theorem at918 {n:Nat} (h:918≤n):∃ m,n = m + 918:=⟨n - 918,by lia⟩
section
variable {prog:Program} {w:World} {b:Bool}
theorem law_ok (plain:Plain) {ys:List Int} (hys:ys.length≤12) {xs:List Value} {tk:Nat→Nat} (htake:xs.take 12 = Zz2 ys tk) (hxs:xs.length≤sizeLine) {A:Around} (hA:AOk A (some []) 139) {h₀ h:Heap} (G:Ground T2 (wb w b) h₀) {ep t:Nat} {g:Array GenState} {r:Zkc} {Rz:Result→Shared→Prop}
    (O:Own h₀ [(46,Zvx),(801,Zvx),(789,Zvx),(762,Zz8 775 20 none),(805,Zqz xs ep)] h) (hs:h.objs.size = 806)
    (hK:∀ h' t' g' tb,(∀ a o,h₀.get? a = some o→h'.get? a = some o)→(∀ p ∈ [(805,Zqz xs ep),(46,ckT46),(801,tblA [(815,21,842)]),(789,tblA [(799,4,916)]),(762,Zz8 775 20 (some tb))],h'.get? p.1 = some p.2)→t≤t'→Zq5 true g g'→Rz (.ok (.ret (.bool true))) (r.at h' ⟨t',g'⟩)) :
    codeAny (model prog (wb w b)) A (.call (.ref 804) ⟨[.ref 805],[]⟩) Rz (r.at h ⟨t,g⟩):=by
  refine law_head hys htake hxs hA G O hs fun R hb h1 ft u e2 t1 g1 tk2 A2 hsm hrk hA2 G2 hold htab O1 hs1 ht1 gr1=>?_
  obtain ⟨c,hc,hcl⟩:=cut_is ys (sumI (Zxz ys))
  rw [hc] at O1
  have hlen:((Zxz ys).map m6).length = ys.length + 8:=by rw [List.length_map]; rfl
  have hcl:c≤((Zxz ys).map m6).length:=by rw [List.length_map]; exact hcl
  generalize (Zxz ys).map m6 = ks at hlen hcl O1
  have hks:ks.length≤20:=by lia
  have tS:∀ k,execs [lwS (Zqd R (wb w b)) k] (Zq4 (Zqd R (wb w b))) = Zqm [lwS (Zqd R (wb w b)) k] (Zq4 (Zqd R (wb w b))):=fun k=>by rw [Zzm]
  refine eqT (Zzr _ _ _ _).symm (wpAny_bind (eqT (tS _).symm ?_))
  refine (lw3_ok (ks:=ks) (by lia) ft (Int.ofNat c) u #[] tk2 e2 none 918 t1).use (rest:=[(808,Zzq none),(809,Zzq none)]) G2 (hA2.le (by show 110≤138; lia)) O1 (by
    simp only [Zq2.preA,lw3,Zqr]
    show List.Perm ((762,_)::(806,lwG (hz (wb w b)) ft (Zkd (Int.ofNat c) u) #[])::_) _
    (refine Zqv fun _=>?_; simp +arith only [Zqj,Zqk,Zqc])) hs1 fun x3 h3 g3 O3 hs3 gr3=>?_
  have hs3:h3.objs.size = 918 + x3.nat 0:=hs3
  obtain ⟨m3,hm3⟩:=at918 (n:=h3.objs.size) (by lia)
  have ht3:t1≤t1 + x3.nat 1:=by lia
  generalize t1 + x3.nat 1 = t3 at ht3 ⊢
  generalize hf3:(fun j=>x3.nat (j + 5)) = ft3
  have O3:Own hb [(x3.nat 2,Zqz (wdV ks (x3.seq 0 0)) (x3.nat 3)),(806,lwG (hz (wb w b)) ft3 (Zkd (Int.ofNat c) u++[.ref (x3.nat 2)]) (x3.sl 0)),(807,Zzq (some (.ref 828))),(828,Zqz (wdV ks tk2) e2),(762,Zz8 775 20 (some (x3.nat 4))),(808,Zzq none),(809,Zzq none)] h3:=by
    subst hf3; exact O3
  generalize x3.nat 2 = la at O3
  generalize x3.nat 3 = eal at O3
  generalize x3.nat 4 = tb3 at O3
  generalize x3.seq 0 0 = tkl at O3
  generalize x3.sl 0 = sl3 at O3
  show wpAny _ A2 (execs (lwS (Zqd R (wb w b)) 4::_::_) _) _ _ _
  refine eqT (Zzr _ _ _ _).symm (wpAny_bind (eqT (tS _).symm ?_))
  refine (lw4_ok hsm (ks:=ks) hks c ft3 u la sl3 tkl eal tb3 (fun _ _=>0) m3 t3).use (rest:=[(807,Zzq (some (.ref 828))),(828,Zqz (wdV ks tk2) e2),(808,Zzq none),(809,Zzq none)]) G2 (hA2.le (by show 136≤138; lia)) O3 (by
    simp only [Zq2.preA,lw4,Zqr,Zz6,Zxc,zipD,Zx6,List.flatMap_nil]
    (refine Zqv fun _=>?_; simp +arith only [Zqj,Zqk,Zqc])) hm3 fun x4 h4 g4 O4 hs4 gr4=>?_
  have hs4:h4.objs.size = m3 + 918 + x4.nat 0:=hs4
  obtain ⟨m4,hm4⟩:=at918 (n:=h4.objs.size) (by lia)
  have ht4:t3≤t3 + x4.nat 1:=by lia
  generalize t3 + x4.nat 1 = t4 at ht4 ⊢
  generalize hf4:(fun j=>x4.nat (j + 5)) = ft4
  generalize hst1:deals R.rk (ks.take c) [] = sts1 at O4
  have O4:Own hb [(x4.nat 2,Zqz (wsV ((sts1.map PS.cont).map fun c=>S (Zzh c)) (x4.seq 0 0)) (x4.nat 3)),(806,lwG (hz (wb w b)) ft4 (Zkd (Int.ofNat c) u++[.ref la,.ref (x4.nat 2)]) (x4.sl 0)),(la,Zqz (wdV ks tkl) eal),(762,Zz8 775 20 (some (x4.nat 4))),(807,Zzq (some (.ref 828))),(828,Zqz (wdV ks tk2) e2),(808,Zzq none),(809,Zzq none)] h4:=by
    subst hf4; rw [← txts_map]; exact O4
  generalize x4.nat 2 = ls at O4
  generalize x4.nat 3 = eas at O4
  generalize x4.nat 4 = tb4 at O4
  generalize x4.seq 0 0 = tks at O4
  generalize x4.sl 0 = sl4 at O4
  have hgd1:Good prog w b sts1 (ks.take c).length:=by
    rw [← hst1]
    have:=Good.deals (r:=R.rk) (ks.take c) (good_nil (prog:=prog) (w:=w) (b:=b))
    rwa [Nat.zero_add] at this
  have htk:(ks.take c).length = c:=by rw [List.length_take]; lia
  rw [htk] at hgd1
  have hcs:∀ x ∈ sts1.map PS.cont,x≠[]∧x.length≤c:=fun x hx=>by
    obtain ⟨ps,hps,rfl⟩:=List.mem_map.mp hx
    exact ⟨(hgd1.pile ps hps).2.1,(hgd1.pile ps hps).2.2⟩
  have hcl1:(sts1.map PS.cont).length≤c:=by rw [List.length_map]; exact hgd1.len
  show wpAny _ A2 (execs (lwS (Zqd R (wb w b)) 5::_::_) _) _ _ _
  refine eqT (Zzr _ _ _ _).symm (wpAny_bind (eqT (tS _).symm ?_))
  refine (lw5_ok hsm (ks:=ks) hks c hcl hcs hcl1 ft4 u la ls sl4 tkl eal tks eas tb4 m4 t4).use (rest:=[(807,Zzq (some (.ref 828))),(828,Zqz (wdV ks tk2) e2),(808,Zzq none),(809,Zzq none)]) G2 (hA2.bare (by show 136≤138; lia)) O4 (by
    simp only [Zq2.preA,lw5,Zqr]
    (refine Zqv fun _=>?_; simp +arith only [Zqj,Zqk,Zqc])) hm4 fun x5 h5 g5 O5 hs5 gr5=>?_
  have ht5:t4≤t4 + x5.nat 1:=by lia
  generalize t4 + x5.nat 1 = t5 at ht5 ⊢
  generalize hf5:(fun j=>x5.nat (j + 5)) = ft5
  have hgd2:Good prog w b (deals R.rk (ks.drop c) ((sts1.map PS.cont).map lnPS)) (c + (ks.drop c).length):=Good.deals (r:=R.rk) (ks.drop c) (lnPS_good hcs hcl1 (by lia))
  have hkd:c + (ks.drop c).length≤20:=by rw [List.length_drop]; lia
  obtain ⟨zn,hzn,hzm,h0m,hplain⟩:=plain R.rk ks c hcl (by lia)
  rw [hst1] at hplain
  generalize deals R.rk (ks.drop c) ((sts1.map PS.cont).map lnPS) = sts2 at O5 hgd2 hplain
  have O5:Own hb ((806,lwG (hz (wb w b)) ft5 (Zkd (Int.ofNat c) u++[.ref la,.ref ls,.ref (x5.nat 2)]) sl4)::(x5.nat 2,Zqz (Zxb sts2 (x5.seq 0)) (x5.nat 3))::(la,Zqz (wdV ks tkl) eal)::(762,Zz8 775 20 (some (x5.nat 4)))::(807,Zzq (some (.ref 828)))::(828,Zqz (wdV ks tk2) e2)::(808,Zzq none)::(809,Zzq none)::Zxc (hz (wb w b)) sts2 (x5.seq 0)) h5:=by
    subst hf5
    refine O5.perm ?_
    simp only [Zq2.postA,lw5,Zqr,Zz6]
    generalize Zxc (hz (wb w b)) sts2 (x5.seq 0) = lp
    (refine Zqv fun _=>?_; simp +arith only [Zqj,Zqk,Zqc])
  generalize x5.nat 2 = lp at O5
  generalize x5.nat 3 = elp at O5
  generalize x5.nat 4 = tb5 at O5
  generalize x5.seq 0 = gp at O5
  show wpAny _ A2 (execs (lwS (Zqd R (wb w b)) 6::_::_) _) _ _ _
  refine eqT (Zzr _ _ _ _).symm (wpAny_bind (eqT (tS _).symm ?_))
  refine (lw6_ok hgd2 hkd ft5 (Int.ofNat c) u la ls lp sl4 gp elp h5.objs.size t5).use (rest:=[(la,Zqz (wdV ks tkl) eal),(762,Zz8 775 20 (some tb5)),(807,Zzq (some (.ref 828))),(828,Zqz (wdV ks tk2) e2),(808,Zzq none),(809,Zzq none)]) G2 (hA2.le (by show 120≤138; lia)) O5 (by
    simp only [Zq2.preA,lw6,Zqr,Zz6]
    generalize Zxc (hz (wb w b)) sts2 gp = lpo
    (refine Zqv fun _=>?_; simp +arith only [Zqj,Zqk,Zqc])) rfl fun x6 h6 g6 O6 hs6 gr6=>?_
  have ht6:t5≤t5 + x6.nat 1:=by lia
  generalize t5 + x6.nat 1 = t6 at ht6 ⊢
  generalize hf6:(fun j=>x6.nat (j + 4)) = ft6
  have O6:Own hb ((806,lwG (hz (wb w b)) ft6 (Zkd (Int.ofNat c) u++[.ref la,.ref ls,.ref lp,.ref (x6.nat 2)]) (x6.sl 0))::(x6.nat 2,Zqz (Zxx (dueOf ks (numsOf' (ks.map R.rk)) (zn + 1)) (x6.seq 0)) (x6.nat 3))::(la,Zqz (wdV ks tkl) eal)::(762,Zz8 775 20 (some tb5))::(807,Zzq (some (.ref 828)))::(828,Zqz (wdV ks tk2) e2)::(808,Zzq none)::(809,Zzq none)::Zz5 (dueOf ks (numsOf' (ks.map R.rk)) (zn + 1)) (x6.seq 0)) h6:=by
    subst hf6
    refine O6.perm ?_
    simp only [Zq2.postA,lw6,Zqr,lstsBag]
    rw [hplain]
    generalize Zz5 (dueOf ks (numsOf' (ks.map R.rk)) (zn + 1)) (x6.seq 0) = lpo
    (refine Zqv fun _=>?_; simp +arith only [Zqj,Zqk,Zqc])
  generalize hcss:dueOf ks (numsOf' (ks.map R.rk)) (zn + 1) = css at O6
  generalize x6.nat 2 = ld at O6
  generalize x6.nat 3 = eld at O6
  generalize x6.seq 0 = gd at O6
  generalize x6.sl 0 = sl6 at O6
  obtain ⟨W,hW⟩:∃ W,(ks.map Zzc).getLast? = some W:=by
    cases q:(ks.map Zzc).getLast? with
    | some W=>exact ⟨W,rfl⟩
    | none =>
      rw [List.getLast?_eq_none_iff,List.map_eq_nil_iff] at q
      rw [q] at hlen; cases hlen
  show wpAny _ A2 (execs (lwS (Zqd R (wb w b)) 7::_::_) _) _ _ _
  refine eqT (Zzr _ _ _ _).symm (wpAny_bind (eqT (tS _).symm ?_))
  refine (lw7_ok (ks:=ks) (by lia) hW ft6 (Int.ofNat c) u la ls lp ld sl6 tk2 e2 h6.objs.size t6).use (rest:=(ld,Zqz (Zxx css gd) eld)::(la,Zqz (wdV ks tkl) eal)::(762,Zz8 775 20 (some tb5))::(809,Zzq none)::Zz5 css gd) G2 (hA2.bare (by show 120≤138; lia)) O6 (by
    simp only [Zq2.preA,lw7,Zqr]
    generalize Zz5 css gd = lpo
    (refine Zqv fun _=>?_; simp +arith only [Zqj,Zqk,Zqc])) rfl fun x7 h7 g7 O7 hs7 gr7=>?_
  have ht7:t6≤t6 + x7.nat 1:=by lia
  generalize t6 + x7.nat 1 = t7 at ht7 ⊢
  have O7:Own hb ((x7.nat 2,Zqz (Zz2 (numsOf' (ks.map R.rk)) (x7.seq 0 0)) (x7.nat 3))::(806,lwG (hz (wb w b)) ft6 (Zkd (Int.ofNat c) u++[.ref la,.ref ls,.ref lp,.ref ld]) sl6)::(807,Zzq (some (.ref 828)))::(808,Zzq (some (.ref (x7.nat 2))))::(828,Zqz (wdV ks tk2) e2)::(ld,Zqz (Zxx css gd) eld)::(la,Zqz (wdV ks tkl) eal)::(762,Zz8 775 20 (some tb5))::(809,Zzq none)::Zz5 css gd) h7:=O7
  generalize x7.nat 2 = nm at O7
  generalize x7.nat 3 = enm at O7
  generalize x7.seq 0 0 = tkn at O7
  show wpAny _ A2 (execs (lwS (Zqd R (wb w b)) 8::_::_) _) _ _ _
  refine eqT (Zzr _ _ _ _).symm (wpAny_bind (eqT (tS _).symm ?_))
  refine (lw8_ok (ks:=ks) (by lia) tk2 e2 h7.objs.size t7).use (rest:=(nm,Zqz (Zz2 (numsOf' (ks.map R.rk)) tkn) enm)::(806,lwG (hz (wb w b)) ft6 (Zkd (Int.ofNat c) u++[.ref la,.ref ls,.ref lp,.ref ld]) sl6)::(808,Zzq (some (.ref nm)))::(ld,Zqz (Zxx css gd) eld)::(la,Zqz (wdV ks tkl) eal)::(762,Zz8 775 20 (some tb5))::Zz5 css gd) G2 (hA2.bare (by show 60≤138; lia)) O7 (by
    simp only [Zq2.preA,lw8,Zqr]
    generalize Zz5 css gd = lpo
    (refine Zqv fun _=>?_; simp +arith only [Zqj,Zqk,Zqc])) rfl fun x8 h8 g8 O8 hs8 gr8=>?_
  have ht8:t7≤t7 + x8.nat 1:=by lia
  generalize t7 + x8.nat 1 = t8 at ht8 ⊢
  have O8:Own hb ((x8.nat 2,rgm ks (x8.nat 3) (x8.nat 4) (x8.nat 5))::(807,Zzq (some (.ref 828)))::(809,Zzq (some (.ref (x8.nat 2))))::(828,Zqz (wdV ks tk2) e2)::(nm,Zqz (Zz2 (numsOf' (ks.map R.rk)) tkn) enm)::(806,lwG (hz (wb w b)) ft6 (Zkd (Int.ofNat c) u++[.ref la,.ref ls,.ref lp,.ref ld]) sl6)::(808,Zzq (some (.ref nm)))::(ld,Zqz (Zxx css gd) eld)::(la,Zqz (wdV ks tkl) eal)::(762,Zz8 775 20 (some tb5))::Zz5 css gd) h8:=O8
  generalize x8.nat 2 = pl at O8
  generalize x8.nat 3 = pt at O8
  generalize x8.nat 4 = pu at O8
  generalize x8.nat 5 = pv at O8
  have hnl:ks.length = (numsOf' (ks.map R.rk)).length:=by rw [numsOf',Zj1,List.length_map]
  show wpAny _ A2 (execs (lwS (Zqd R (wb w b)) 9::_::_) _) _ _ _
  refine eqT (Zzr _ _ _ _).symm (wpAny_bind (eqT (tS _).symm ?_))
  refine (lw9_ok (ks:=ks) hnl (by lia) (by lia) h0m (zn:=zn) (by lia) hzm ft6 (Int.ofNat c) u la ls lp ld nm pl sl6 tk2 e2 (fun _=>tkn) enm pt pu pv h8.objs.size t8).use (rest:=(ld,Zqz (Zxx css gd) eld)::(la,Zqz (wdV ks tkl) eal)::(762,Zz8 775 20 (some tb5))::Zz5 css gd) G2 (hA2.bare (by show 110≤138; lia)) O8 (by
    simp only [Zq2.preA,lw9,ob9,Zqr,ghB]
    generalize Zz5 css gd = lpo
    (refine Zqv fun _=>?_; simp +arith only [Zqj,Zqk,Zqc])) rfl fun x9 h9 g9 O9 hs9 gr9=>?_
  have ht9:t8≤t8 + x9.nat 1:=by lia
  generalize t8 + x9.nat 1 = t9 at ht9 ⊢
  generalize hf9:(fun j=>x9.nat (j + 4)) = ft9
  have O9:Own hb ((x9.nat 2,Zqz (Zxx css (x9.seq 0)) (x9.nat 3))::(806,lwG (hz (wb w b)) ft9 (lwVs9 (Int.ofNat c) u la ls lp ld (x9.nat 2)) sl6)::(807,Zzq (some (.ref 828)))::(828,Zqz (wdV ks tk2) e2)::(ld,Zqz (Zxx css gd) eld)::(la,Zqz (wdV ks tkl) eal)::(762,Zz8 775 20 (some tb5))::(Zz5 css gd++Zz5 css (x9.seq 0))) h9:=by
    subst hf9
    refine O9.perm ?_
    simp only [Zq2.postA,lw9,Zqr,lstsBag,hcss,lwVs9]
    generalize Zz5 css gd = l1
    generalize Zz5 css (x9.seq 0) = l2
    (refine Zqv fun _=>?_; simp +arith only [Zqj,Zqk,Zqc])
  generalize x9.nat 2 = le at O9
  generalize x9.nat 3 = ele at O9
  generalize x9.seq 0 = ge at O9
  show wpAny _ A2 (execs (lwS (Zqd R (wb w b)) 10::_::_) _) _ _ _
  refine eqT (Zzr _ _ _ _).symm (wpAny_bind (eqT (tS _).symm ?_))
  refine (lw10_ok (ks:=ks) (by lia) hW ft9 (Int.ofNat c) u la ls lp ld le sl6 tk2 e2 (fun _ _=>0) h9.objs.size t9).use (rest:=(le,Zqz (Zxx css ge) ele)::(ld,Zqz (Zxx css gd) eld)::(la,Zqz (wdV ks tkl) eal)::(762,Zz8 775 20 (some tb5))::(Zz5 css gd++Zz5 css ge)) G2 (hA2.bare (by show 90≤138; lia)) O9 (by
    simp only [Zq2.preA,lw10,Zqr,ghB]
    generalize Zz5 css gd = l1
    generalize Zz5 css ge = l2
    (refine Zqv fun _=>?_; simp +arith only [Zqj,Zqk,Zqc])) rfl fun x10 h10 g10 O10 hs10 gr10=>?_
  have ht10:t9≤t9 + x10.nat 1:=by lia
  generalize t9 + x10.nat 1 = t10 at ht10 ⊢
  generalize hf10:(fun j=>x10.nat (j + 4)) = ft10
  have O10:Own hb ((806,lwG (hz (wb w b)) ft10 (lwVs10 (Int.ofNat c) u la ls lp ld le (x10.nat 2)) sl6)::(la,Zqz (wdV ks tkl) eal)::(ld,Zqz (Zxx css gd) eld)::(le,Zqz (Zxx css ge) ele)::(x10.nat 2,Zqz (wdV (Zvh R.rk ks 6) (x10.seq 0 0)) (x10.nat 3))::(Zz5 css gd++(Zz5 css ge++[(762,Zz8 775 20 (some tb5))]))) h10:=by
    subst hf10
    refine O10.perm ?_
    simp only [Zq2.postA,lw10,Zqr,lwVs10]
    generalize Zz5 css gd = l1
    generalize Zz5 css ge = l2
    (refine Zqv fun _=>?_; simp +arith only [Zqj,Zqk,Zqc])
  show wpAny _ A2 (execs [lwS (Zqd R (wb w b)) 11] _) _ _ _
  have GR:=Zq5.trans (d:=true) (Zq5.trans (d:=true) (Zq5.trans (d:=true) (Zq5.trans (d:=true) (Zq5.trans (d:=true) (Zq5.trans (d:=true) (Zq5.trans (d:=true) (Zq5.trans (d:=true) gr1 gr3 fun e=>Bool.noConfusion e) gr4 fun e=>Bool.noConfusion e) gr5 fun e=>Bool.noConfusion e) gr6 fun e=>Bool.noConfusion e) gr7 fun e=>Bool.noConfusion e) gr8 fun e=>Bool.noConfusion e) gr9 fun e=>Bool.noConfusion e) gr10 fun e=>Bool.noConfusion e
  refine lw11_ok hsm (ks:=ks) (by lia) (by lia) (hA2.bare (by lia)) G2 O10 fun h' t' g' O' ht' gr'=>?_
  refine hK h' t' g' tb5 (fun a o e=>O'.keep a o (hold a o e)) (fun p hp=>?_) (by lia) (Zq5.trans (d:=true) GR gr' fun e=>Bool.noConfusion e)
  simp only [List.mem_cons,List.not_mem_nil,or_false] at hp
  rcases hp with rfl | rfl | rfl | rfl | rfl
  · exact O'.keep _ _ (htab _ (.head _))
  · exact O'.keep _ _ (htab _ (.tail _ (.head _)))
  · exact O'.keep _ _ (htab _ (.tail _ (.tail _ (.head _))))
  · exact O'.keep _ _ (htab _ (.tail _ (.tail _ (.tail _ (.head _)))))
  · exact O'.own _ (.head _)
end
noncomputable def Zkw (rk:F6→Int) (k:F6):List (List (F6))→List (List (F6))
  | []=>[[k]]
  | p::l=>match p with
    | []=>p::l
    | u::_=>if rk k≤rk u then (k::p)::l else p::Zkw rk k l
theorem look_cont {ps:PS} (h:ps.cont≠[]):∃ u ps1,ps.look = some (u,ps1)∧ps1.cont = ps.cont∧∃ r,ps.cont = u::r:=by
  obtain ⟨buf,s,ws,se,pbl⟩:=ps
  cases pbl with
  | cons u pr=>exact ⟨u,_,rfl,rfl,_,rfl⟩
  | nil =>
    cases ws with
    | nil=>exact absurd rfl h
    | cons p r =>
      obtain ⟨u,s1⟩:=p
      exact ⟨u,_,rfl,rfl,_,rfl⟩
theorem dealGo_cont (rk:F6→Int) (k:F6):∀ (l:List PS),(∀ ps ∈ l,ps.cont≠[]) →
    (if (Zzt rk k l).2 = true then (Zzt rk k l).1.map PS.cont else (Zzt rk k l).1.map PS.cont++[[k]]) = Zkw rk k (l.map PS.cont)
  | [],_=>by simp [Zzt,Zkw]
  | ps::l,h=>by
    have ih:=dealGo_cont rk k l fun q hq=>h q (.tail _ hq)
    obtain ⟨u,ps1,e,ec,r,er⟩:=look_cont (h ps (.head _))
    have hgo:Zzt rk k (ps::l) = if rk k≤rk u then (ps1.put k::l,true) else ((ps1::(Zzt rk k l).1),(Zzt rk k l).2):=by
      conv=>lhs; unfold Zzt
      rw [e]
    have hd:Zkw rk k ((ps::l).map PS.cont) = if rk k≤rk u then (k::ps.cont)::l.map PS.cont else ps.cont::Zkw rk k (l.map PS.cont):=by
      rw [List.map_cons,er]; rfl
    rw [hd]
    by_cases hc:rk k≤rk u
    · rw [if_pos hc] at hgo ⊢
      simp only [hgo]
      have:(ps1.put k).cont = k::ps1.cont:=rfl
      simp only [if_true,List.map_cons,this,ec]
    · rw [if_neg hc] at hgo ⊢
      simp only [hgo]
      rw [← ih]
      by_cases h2:(Zzt rk k l).2 = true
      · simp only [h2,if_true,List.map_cons,ec]
      · rw [if_neg h2,if_neg h2,List.map_cons,ec]; rfl
theorem dealt_cont (rk:F6→Int) (k:F6) {l:List PS} (h:∀ ps ∈ l,ps.cont≠[]):(dealt rk k l).map PS.cont = Zkw rk k (l.map PS.cont):=by
  rw [← dealGo_cont rk k l h]
  unfold dealt
  split
  · rfl
  · rw [List.map_append]; rfl
theorem dealC_ne (rk:F6→Int) (k:F6):∀ (l:List (List (F6))),(∀ p ∈ l,p≠[])→∀ p ∈ Zkw rk k l,p≠[]
  | [],_,p,hp=>by
    have:p = [k]:=by simpa [Zkw] using hp
    rw [this]; simp
  | []::l,h,p,hp=>absurd rfl (h [] (.head _))
  | (u::q)::l,h,p,hp=>by
    unfold Zkw at hp
    dsimp only at hp
    by_cases hc:rk k≤rk u
    · rw [if_pos hc] at hp
      rcases List.mem_cons.mp hp with rfl | hp
      · simp
      · exact h p (.tail _ hp)
    · rw [if_neg hc] at hp
      rcases List.mem_cons.mp hp with rfl | hp
      · simp
      · exact dealC_ne rk k l (fun q hq=>h q (.tail _ hq)) p hp
theorem deals_cont (rk:F6→Int):∀ (ks:List (F6)) {l:List PS},(∀ ps ∈ l,ps.cont≠[])→(deals rk ks l).map PS.cont = ks.foldl (fun pl k=>Zkw rk k pl) (l.map PS.cont)
  | [],l,_=>rfl
  | k::ks,l,h=>by
    have e:=dealt_cont rk k h
    have h':∀ ps ∈ dealt rk k l,ps.cont≠[]:=fun ps hp=>dealC_ne rk k (l.map PS.cont) (fun p hp=>by obtain ⟨q,hq,rfl⟩:=List.mem_map.mp hp; exact h q hq) _ (by rw [← e]; exact List.mem_map_of_mem hp)
    have:=deals_cont rk ks h'
    rw [e] at this
    exact this
theorem fold_ne (rk:F6→Int):∀ (ks:List (F6)) (pl:List (List (F6))),(∀ p ∈ pl,p≠[])→∀ p ∈ ks.foldl (fun pl k=>Zkw rk k pl) pl,p≠[]
  | [],_,h=>h
  | k::ks,pl,h=>fold_ne rk ks _ (dealC_ne rk k pl h)
theorem deals_all (rk:F6→Int) (ks:List (F6)) (c:Nat):(deals rk (ks.drop c) (((deals rk (ks.take c) []).map PS.cont).map lnPS)).map PS.cont = ks.foldl (fun pl k=>Zkw rk k pl) []:=by
  have h1:=deals_cont rk (ks.take c) (l:=[]) fun ps h=>nomatch h
  have hm:(((deals rk (ks.take c) []).map PS.cont).map lnPS).map PS.cont = (deals rk (ks.take c) []).map PS.cont:=by
    rw [List.map_map]
    have:(PS.cont ∘ lnPS) = id:=funext fun c=>lnPS_cont c
    rw [this,List.map_id]
  rw [deals_cont rk (ks.drop c) (fun ps hp=>?_),hm,h1]
  · show (ks.drop c).foldl _ ((ks.take c).foldl _ []) = _
    rw [← List.foldl_append,List.take_append_drop]
  · obtain ⟨c',hc',rfl⟩:=List.mem_map.mp hp
    rw [lnPS_cont]
    rw [h1] at hc'
    exact fold_ne rk (ks.take c) [] (fun p h=>nomatch h) c' hc'
theorem numsUp_pre (rs:List Int) (x:Int):∀ i,i≤rs.length→Zxg (rs++[x]) i = Zxg rs i
  | 0,_=>rfl
  | i + 1,h=>by
    have ih:=numsUp_pre rs x i (by lia)
    show Zxg (rs++[x]) i++[maxL (0::lowL ((rs++[x]).take i) (Zxg (rs++[x]) i) ((rs++[x]).getD i 0))] = Zxg rs i++[maxL (0::lowL (rs.take i) (Zxg rs i) (rs.getD i 0))]
    rw [ih,List.take_append_of_le_length (by lia)]
    have:(rs++[x]).getD i 0 = rs.getD i 0:=by
      rw [List.getD_eq_getElem?_getD,List.getD_eq_getElem?_getD,List.getElem?_append_left (by lia)]
    rw [this]
theorem nums_snoc (rs:List Int) (x:Int):numsOf' (rs++[x]) = numsOf' rs++[maxL (0::lowL rs (numsOf' rs) x)]:=by
  unfold numsOf'
  rw [List.length_append]
  show Zxg (rs++[x]) rs.length++[maxL (0::lowL ((rs++[x]).take rs.length) (Zxg (rs++[x]) rs.length) ((rs++[x]).getD rs.length 0))] = _
  rw [numsUp_pre rs x rs.length (Nat.le_refl _),List.take_append_of_le_length (Nat.le_refl _),List.take_length]
  have:(rs++[x]).getD rs.length 0 = x:=by
    rw [List.getD_eq_getElem?_getD,List.getElem?_append_right (Nat.le_refl _)]; simp
  rw [this]
theorem nums_len (rs:List Int):(numsOf' rs).length = rs.length:=Zj1 rs _
theorem mem_lowL (x y:Int):∀ (rs ns:List Int),y ∈ lowL rs ns x↔∃ r n,(r,n) ∈ rs.zip ns∧r < x∧y = 1 + n
  | [],ns=>by
    constructor
    · intro h; cases h
    · rintro ⟨r,n,h,-⟩; cases h
  | _::_,[]=>by
    constructor
    · intro h; cases h
    · rintro ⟨r,n,h,-⟩; cases h
  | r::rs,n::ns=>by
    have ih:=mem_lowL x y rs ns
    show y ∈ (if r < x then (1 + n)::lowL rs ns x else lowL rs ns x)↔_
    constructor
    · intro h
      by_cases hr:r < x
      · rw [if_pos hr] at h
        rcases List.mem_cons.mp h with h | h
        · exact ⟨r,n,.head _,hr,h⟩
        · obtain ⟨r',n',a,b,c⟩:=ih.mp h
          exact ⟨r',n',.tail _ a,b,c⟩
      · rw [if_neg hr] at h
        obtain ⟨r',n',a,b,c⟩:=ih.mp h
        exact ⟨r',n',.tail _ a,b,c⟩
    · rintro ⟨r',n',a,b,c⟩
      rcases List.mem_cons.mp a with e | a
      · cases e
        rw [if_pos b,c]; exact .head _
      · have:=ih.mpr ⟨r',n',a,b,c⟩
        by_cases hr:r < x
        · rw [if_pos hr]; exact .tail _ this
        · rw [if_neg hr]; exact this
theorem dealC_at (rk:F6→Int) (k:F6):∀ (pl:List (List (F6))),(∀ p ∈ pl,p≠[]) →
    ∃ j,j≤pl.length∧(∀ i,i < j→rk ((pl.getD i []).headD 0) < rk k)∧(j < pl.length→rk k≤rk ((pl.getD j []).headD 0)) ∧
      ((Zkw rk k pl).length = if j < pl.length then pl.length else pl.length + 1)∧∀ i,(Zkw rk k pl)[i]? = if i = j then some (k::pl.getD j []) else pl[i]?
  | [],_=>⟨0,Nat.le_refl _,fun i h=>absurd h (Nat.not_lt_zero _),fun h=>absurd h (Nat.not_lt_zero _),rfl,fun i=>by
      cases i with
      | zero=>rfl
      | succ i=>rw [if_neg (by lia)]; rfl⟩
  | []::l,h=>absurd rfl (h [] (.head _))
  | (u::q)::l,h=>by
    have hd:Zkw rk k ((u::q)::l) = if rk k≤rk u then (k::u::q)::l else (u::q)::Zkw rk k l:=rfl
    rw [hd]
    by_cases hc:rk k≤rk u
    · rw [if_pos hc]
      refine ⟨0,Nat.zero_le _,fun i h=>absurd h (Nat.not_lt_zero _),fun _=>hc,?_,fun i=>?_⟩
      · rw [if_pos (by simp)]; rfl
      · cases i with
        | zero=>rfl
        | succ i=>rw [if_neg (by lia)]; rfl
    · rw [if_neg hc]
      obtain ⟨j,h1,h2,h3,h4,h5⟩:=dealC_at rk k l fun p hp=>h p (.tail _ hp)
      refine ⟨j + 1,by simp; exact h1,fun i hi=>?_,fun hj=>?_,?_,fun i=>?_⟩
      · cases i with
        | zero=>show rk u < rk k; lia
        | succ i=>exact h2 i (by lia)
      · exact h3 (by simpa using hj)
      · rw [List.length_cons,List.length_cons,h4]
        by_cases e:j < l.length
        · rw [if_pos e,if_pos (by lia)]
        · rw [if_neg e,if_neg (by lia)]
      · cases i with
        | zero=>rw [if_neg (by lia)]; rfl
        | succ i =>
          rw [List.getElem?_cons_succ,h5]
          by_cases e:i = j
          · rw [if_pos e,if_pos (by lia)]; rfl
          · rw [if_neg e,if_neg (by lia)]; rfl
theorem zrev_snoc (ks:List (F6)) (ns:List Int) (k:F6) (v:Int) (hl:ks.length = ns.length):zrev (ks++[k]) (ns++[v]) = (k,v)::zrev ks ns:=by
  unfold zrev
  rw [List.zip_append hl,List.reverse_append]; rfl
theorem rowD_cons (zs:List (F6 × Int)) (k:F6) (v y:Int):rowD ((k,v)::zs) y = if v == y then k::rowD zs y else rowD zs y:=by
  unfold rowD
  rw [List.filter_cons]
  by_cases h:(v == y) = true
  · simp [h]
  · simp [h]
theorem mem_rowD {zs:List (F6 × Int)} {w:F6} {y:Int}:w ∈ rowD zs y↔(w,y) ∈ zs:=by
  unfold rowD
  rw [List.mem_map]
  constructor
  · rintro ⟨⟨a,b⟩,h,rfl⟩
    rw [List.mem_filter,beq_iff_eq] at h
    have:b = y:=h.2
    subst this
    exact h.1
  · intro h
    exact ⟨(w,y),List.mem_filter.mpr ⟨h,by simp⟩,rfl⟩
structure Pat (rk:F6→Int) (ks:List (F6)) (ns:List Int) (pl:List (List (F6))):Prop where
  rows:∀ j,j < pl.length→pl[j]? = some (rowD (zrev ks ns) (Int.ofNat j))
  bound:∀ p ∈ zrev ks ns,∃ m:Nat,p.2 = Int.ofNat m∧m < pl.length
  ne:∀ p ∈ pl,p≠[]
  min:∀ j,j < pl.length→∀ w ∈ pl.getD j [],rk ((pl.getD j []).headD 0)≤rk w
  inc:∀ i j,i < j→j < pl.length→rk ((pl.getD i []).headD 0) < rk ((pl.getD j []).headD 0)
theorem getD_of {l:List (List (F6))} {j:Nat} {p:List (F6)} (h:l[j]? = some p):l.getD j [] = p:=by rw [List.getD_eq_getElem?_getD,h]; rfl
theorem zip_map_left (rk:F6→Int):∀ (ks:List (F6)) (ns:List Int) (r n:Int),(r,n) ∈ (ks.map rk).zip ns↔∃ w,(w,n) ∈ ks.zip ns∧r = rk w:=by
  intro ks ns r n
  rw [List.zip_map_left,List.mem_map]
  constructor
  · rintro ⟨⟨w,m⟩,h,e⟩
    cases e
    exact ⟨w,h,rfl⟩
  · rintro ⟨w,h,rfl⟩
    exact ⟨(w,n),h,rfl⟩
theorem pat_snoc {rk:F6→Int} {ks:List (F6)} {ns:List Int} {pl:List (List (F6))} (hl:ks.length = ns.length) (P:Pat rk ks ns pl) (k:F6) :
    Pat rk (ks++[k]) (ns++[maxL (0::lowL (ks.map rk) ns (rk k))]) (Zkw rk k pl):=by
  obtain ⟨j,hj,hlow,hhigh,hlen,hget⟩:=dealC_at rk k pl P.ne
  have hrow:∀ i,i < pl.length→pl.getD i [] = rowD (zrev ks ns) (Int.ofNat i):=fun i hi=>getD_of (P.rows i hi)
  have hnr:∀ i,pl.length≤i→rowD (zrev ks ns) (Int.ofNat i) = []:=fun i hi=>by
    rw [List.eq_nil_iff_forall_not_mem]
    intro w hw
    obtain ⟨m,h1,h2⟩:=P.bound _ (mem_rowD.mp hw)
    have:i = m:=Int.ofNat.inj h1
    lia
  have hmono:∀ i i',i≤i'→i' < pl.length→rk ((pl.getD i []).headD 0)≤rk ((pl.getD i' []).headD 0):=fun i i' h h'=>by
    by_cases e:i = i'
    · rw [e]; exact Int.le_refl _
    · exact Int.le_of_lt (P.inc i i' (by lia) h')
  have hv:maxL (0::lowL (ks.map rk) ns (rk k)) = Int.ofNat j:=by
    refine (maxL_is _ _ (.head _) ?_ fun a ha=>?_).symm
    · cases j with
      | zero=>exact .head _
      | succ i =>
        refine .tail _ ((mem_lowL _ _ _ _).mpr ?_)
        have hi:i < pl.length:=by lia
        have hne:=P.ne _ (List.mem_of_getElem? (P.rows i hi))
        obtain ⟨w,q,hwq⟩:∃ w q,rowD (zrev ks ns) (Int.ofNat i) = w::q:=by
          cases hr:rowD (zrev ks ns) (Int.ofNat i) with
          | nil=>exact absurd hr hne
          | cons w q=>exact ⟨w,q,rfl⟩
        have hlt:=hlow i (by lia)
        rw [hrow i hi,hwq] at hlt
        have hm:(w,Int.ofNat i) ∈ zrev ks ns:=mem_rowD.mp (by rw [hwq]; exact .head _)
        refine ⟨rk w,Int.ofNat i,(zip_map_left rk ks ns _ _).mpr ⟨w,List.mem_reverse.mp hm,rfl⟩,hlt,?_⟩
        show ((i + 1:Nat):Int) = 1 + (i:Int)
        lia
    · rcases List.mem_cons.mp ha with rfl | ha
      · exact Int.natCast_nonneg j
      · obtain ⟨r,n,h1,h2,rfl⟩:=(mem_lowL _ _ _ _).mp ha
        obtain ⟨w,h3,rfl⟩:=(zip_map_left rk ks ns _ _).mp h1
        have h3:(w,n) ∈ zrev ks ns:=List.mem_reverse.mpr h3
        obtain ⟨m,h4,h5⟩:=P.bound _ h3
        have h4:n = Int.ofNat m:=h4
        subst h4
        have hmin:=P.min m h5 w (by rw [hrow m h5]; exact mem_rowD.mpr h3)
        have:m < j:=by
          by_cases e:m < j
          · exact e
          · have a1:=hhigh (by lia)
            have a2:=hmono j m (by lia) h5
            lia
        show 1 + (m:Int)≤(j:Int)
        lia
  rw [hv]
  have hrow':∀ i:Nat,rowD (zrev (ks++[k]) (ns++[Int.ofNat j])) (Int.ofNat i) = if i = j then k::rowD (zrev ks ns) (Int.ofNat i) else rowD (zrev ks ns) (Int.ofNat i):=fun i=>by
    rw [zrev_snoc ks ns k _ hl,rowD_cons]
    by_cases e:i = j
    · rw [if_pos e,e]; simp
    · rw [if_neg e]
      have:¬ (Int.ofNat j == Int.ofNat i) = true:=by
        rw [beq_iff_eq]; intro h; exact e (Int.ofNat.inj h).symm
      rw [if_neg this]
  have hlen1:pl.length≤(Zkw rk k pl).length:=by rw [hlen]; split <;> lia
  have hlen2:j < (Zkw rk k pl).length:=by rw [hlen]; split <;> lia
  have hlen3:∀ i,i < (Zkw rk k pl).length→i≠j→i < pl.length:=fun i hi hij=>by
    rw [hlen] at hi
    by_cases e:j < pl.length
    · rw [if_pos e] at hi; exact hi
    · rw [if_neg e] at hi; lia
  have hjrow:pl.getD j [] = rowD (zrev ks ns) (Int.ofNat j):=by
    by_cases e:j < pl.length
    · exact hrow j e
    · rw [hnr j (by lia),List.getD_eq_getElem?_getD,List.getElem?_eq_none (by lia)]; rfl
  have hg':∀ i,i < (Zkw rk k pl).length→(Zkw rk k pl).getD i [] = if i = j then k::pl.getD j [] else pl.getD i []:=fun i hi=>by
    rw [List.getD_eq_getElem?_getD,hget]
    by_cases e:i = j
    · rw [if_pos e,if_pos e]; rfl
    · rw [if_neg e,if_neg e,List.getD_eq_getElem?_getD]
  refine ⟨fun i hi=>?_,fun p hp=>?_,dealC_ne rk k pl P.ne,fun i hi w hw=>?_,fun a c hac hc=>?_⟩
  · rw [hget,hrow']
    by_cases e:i = j
    · rw [if_pos e,if_pos e,hjrow,e]
    · rw [if_neg e,if_neg e]; exact P.rows i (hlen3 i hi e)
  · rw [zrev_snoc ks ns k _ hl] at hp
    rcases List.mem_cons.mp hp with rfl | hp
    · exact ⟨j,rfl,hlen2⟩
    · obtain ⟨m,h1,h2⟩:=P.bound p hp
      exact ⟨m,h1,by lia⟩
  · rw [hg' i hi] at hw ⊢
    by_cases e:i = j
    · rw [if_pos e] at hw ⊢
      rcases List.mem_cons.mp hw with rfl | hw
      · exact Int.le_refl _
      · by_cases ej:j < pl.length
        · have:=P.min j ej w hw
          have:=hhigh ej
          show rk k≤rk w
          lia
        · rw [hjrow,hnr j (by lia)] at hw; cases hw
    · rw [if_neg e] at hw ⊢
      exact P.min i (hlen3 i hi e) w hw
  · rw [hg' a (by lia),hg' c hc]
    by_cases ea:a = j
    · rw [if_pos ea,if_neg (by lia)]
      have hcl:=hlen3 c hc (by lia)
      have a1:=hhigh (by lia)
      have a2:=P.inc j c (by lia) hcl
      show rk k < _
      lia
    · by_cases ec:c = j
      · rw [if_neg ea,if_pos ec]
        exact hlow a (by lia)
      · rw [if_neg ea,if_neg ec]
        exact P.inc a c hac (hlen3 c hc ec)
theorem pat_all (rk:F6→Int) (ks:List (F6)):∀ n,n≤ks.length→Pat rk (ks.take n) (numsOf' ((ks.take n).map rk)) ((ks.take n).foldl (fun pl k=>Zkw rk k pl) [])∧((ks.take n).foldl (fun pl k=>Zkw rk k pl) []).length≤n
  | 0,_=>⟨⟨fun j h=>absurd h (Nat.not_lt_zero _),(fun p h=>nomatch h),(fun p h=>nomatch h),fun j h=>absurd h (Nat.not_lt_zero _),fun i j hij h=>absurd h (Nat.not_lt_zero _)⟩,Nat.le_refl _⟩
  | n + 1,hn=>by
    obtain ⟨P,hl⟩:=pat_all rk ks n (by lia)
    have hx:ks[n]? = some ks[n]:=List.getElem?_eq_getElem (by lia)
    rw [Zz4 hx,List.map_append,List.foldl_append]
    have e:(ks.take n).map rk++[ks[n]].map rk = (ks.take n).map rk++[rk ks[n]]:=rfl
    rw [e,nums_snoc]
    refine ⟨pat_snoc (by rw [nums_len,List.length_map]) P ks[n],?_⟩
    obtain ⟨j,h1,-,-,h4,-⟩:=dealC_at rk ks[n] _ P.ne
    show (Zkw rk ks[n] _).length≤n + 1
    rw [h4]
    split <;> lia
theorem mem_right {ks:List (F6)} {ns:List Int} (hl:ks.length = ns.length) {a:Int} (h:a ∈ ns):∃ w,(w,a) ∈ zrev ks ns:=by
  obtain ⟨i,hi,rfl⟩:=List.mem_iff_getElem.mp h
  refine ⟨ks[i],List.mem_reverse.mpr (List.mem_of_getElem? (i:=i) ?_)⟩
  rw [List.getElem?_zip_eq_some]
  exact ⟨List.getElem?_eq_getElem (by lia),List.getElem?_eq_getElem hi⟩
theorem plain:Plain:=by
  intro rk ks c hc hpos
  obtain ⟨P,hlen⟩:=pat_all rk ks ks.length (Nat.le_refl _)
  rw [List.take_length] at P hlen
  rw [deals_all]
  generalize hns:numsOf' (ks.map rk) = ns at P ⊢
  have hl:ks.length = ns.length:=by rw [← hns,nums_len,List.length_map]
  generalize ks.foldl (fun pl k=>Zkw rk k pl) [] = pl at P hlen ⊢
  have hM:0 < pl.length:=by
    have hx:ns[0]? = some ns[0]:=List.getElem?_eq_getElem (by lia)
    obtain ⟨w,hw⟩:=mem_right hl (List.mem_of_getElem? hx)
    obtain ⟨m,-,h⟩:=P.bound _ hw
    lia
  have hin:∀ j,j < pl.length→Int.ofNat j ∈ ns:=fun j hj=>by
    have hr:=P.rows j hj
    have hne:=P.ne _ (List.mem_of_getElem? hr)
    cases e:rowD (zrev ks ns) (Int.ofNat j) with
    | nil=>exact absurd e hne
    | cons w q =>
      have hm:(w,Int.ofNat j) ∈ zrev ks ns:=mem_rowD.mp (by rw [e]; exact .head _)
      exact (List.of_mem_zip (List.mem_reverse.mp hm)).2
  have h0:(0:Int) ∈ ns:=hin 0 hM
  refine ⟨pl.length - 1,by lia,maxL_is ns _ h0 (hin _ (by lia)) fun a ha=>?_,h0,?_⟩
  · obtain ⟨w,hw⟩:=mem_right hl ha
    obtain ⟨m,h1,h2⟩:=P.bound _ hw
    have h1:a = Int.ofNat m:=h1
    rw [h1]
    show (m:Int)≤((pl.length - 1:Nat):Int)
    lia
  · rw [show pl.length - 1 + 1 = pl.length by lia]
    refine List.ext_getElem? fun i=>?_
    unfold dueOf
    rw [List.getElem?_map]
    by_cases hi:i < pl.length
    · rw [P.rows i hi,List.getElem?_range hi]; rfl
    · rw [List.getElem?_eq_none (by lia),List.getElem?_eq_none (by rw [List.length_range]; lia)]; rfl
section
open PySem PySem.W PySem.W.X PySem.Calls PyProof.Rows
noncomputable def freedO:Obj:={ cls:=.none,data:=.freed }
noncomputable def holeAt (h:Heap) (a:Addr):Heap:=h.update a fun _=>freedO
theorem holeAt_get (h:Heap) (a b:Addr):(holeAt h a).get? b = if b = a then none else h.get? b:=by
  unfold holeAt
  by_cases e:b = a
  · subst e
    rw [if_pos rfl]
    unfold Heap.get? Heap.update
    dsimp only
    rw [Array.getElem?_modify,if_pos rfl]
    cases h.objs[b]? <;> rfl
  · rw [if_neg e]
    exact Heap.get?_update_ne _ _ _ _ e
noncomputable def holes (h:Heap):List Addr→Heap
  | []=>h
  | a::l=>holeAt (holes h l) a
theorem holes_get (h:Heap) (b:Addr):∀ l,(holes h l).get? b = if b ∈ l then none else h.get? b
  | []=>by rw [if_neg (by simp)]; rfl
  | a::l=>by
    show (holeAt (holes h l) a).get? b = _
    rw [holeAt_get,holes_get h b l]
    by_cases e:b = a
    · rw [if_pos e,if_pos (by simp [e])]
    · rw [if_neg e]
      by_cases m:b ∈ l
      · rw [if_pos m,if_pos (by simp [m])]
      · rw [if_neg m,if_neg (by simp [e,m])]
theorem hHs_eq (w:World):hHs w = hzP w.params:=funext fun k=>(hz_hash w k).symm
theorem map_some_get {h:Heap}:∀ {l:List (Addr × Obj)} {m:List Nat},m = l.map (·.1)→m.map h.get? = l.map (fun p=>some p.2)→∀ p ∈ l,h.get? p.1 = some p.2
  | [],_,_,_=>fun p hp=>nomatch hp
  | q::l,m,hm,h2=>by
    subst hm
    rw [List.map_cons,List.map_cons] at h2
    obtain ⟨a,b⟩:=List.cons.inj h2
    intro p hp
    cases hp with
    | head=>exact a
    | tail _ hp=>exact map_some_get rfl b p hp
theorem hAd_is (hs:Hs):hAd = (topL hs).map (·.1):=by kernel_rfl
theorem topL_away (hs:Hs):(topL hs).all (fun p=>!([46,801,789,762,805]:List Nat).contains p.1) = true:=by kernel_rfl
structure HFacts (w:World) (h:Heap):Prop where
  size:h.objs.size = 805
  top:∀ p ∈ topL (hzP w.params),h.get? p.1 = some p.2
  tbl:∀ p ∈ hTbl,h.get? p.1 = some p.2
theorem hFacts_of {w:World} {s:Shared} (e:hYf s = hYa w):HFacts w s.heap∧s.heap.nsMap mainGlobals "law" = some (.ref 804):=by
  obtain ⟨e1,e2⟩:=Prod.mk.inj e
  obtain ⟨e2,e3⟩:=Prod.mk.inj e2
  obtain ⟨e3,e4⟩:=Prod.mk.inj e3
  refine ⟨⟨e1,map_some_get (hAd_is _) ?_,map_some_get rfl (by rw [List.map_map]; exact e4)⟩,e2⟩
  rw [hHs_eq] at e3
  exact e3
end
section
open PySem PySem.W PySem.W.X PySem.Calls PyProof.Rows
theorem intV_take:∀ (is:List Int) (tk:Nat→Nat) (n:Nat),(Zz2 is tk).take n = Zz2 (is.take n) tk
  | [],_,n=>by cases n <;> rfl
  | _::_,_,0=>rfl
  | x::r,tk,n + 1=>by
    show Value.int x (tk 0)::(Zz2 r fun k=>tk (k + 1)).take n = Value.int x (tk 0)::Zz2 (r.take n) fun k=>tk (k + 1)
    rw [intV_take r _ n]
theorem intV_len:∀ (is:List Int) (tk:Nat→Nat),(Zz2 is tk).length = is.length
  | [],_=>rfl
  | _::r,tk=>congrArg (· + 1) (intV_len r _)
theorem lay_ints {cl:Str→Option Addr} {P:Params} {ord:List DictEntry→List DictEntry}:∀ (ds:List WData) (s:Shared),WShape.hasItems [] ds .int = true→∃ is:List Int,is.length = ds.length∧layAllW [] cl P ord ds s = some (Zz2 is (fun k=>s.toks + k),{ s with toks:=s.toks + ds.length })
  | [],s,_=>⟨[],rfl,by rw [layAllW]; rfl⟩
  | d::ds,s,h=>by
    rw [WShape.hasItems] at h
    obtain ⟨h1,h2⟩:=Bool.and_eq_true_iff.mp h
    obtain ⟨i,rfl⟩:=hasW_int h1
    obtain ⟨is,e1,e2⟩:=lay_ints (cl:=cl) (P:=P) (ord:=ord) ds { s with toks:=s.toks + 1 } h2
    refine ⟨i::is,by rw [List.length_cons,List.length_cons,e1],?_⟩
    rw [layAllW,layW]
    dsimp only
    rw [e2]
    dsimp only
    refine congrArg some (Prod.ext ?_ ?_)
    · show Value.int i s.toks::Zz2 is (fun k=>s.toks + 1 + k) = Value.int i (s.toks + 0)::Zz2 is fun k=>s.toks + (k + 1)
      have:(fun k=>s.toks + 1 + k) = fun k=>s.toks + (k + 1):=funext fun k=>by lia
      rw [this]
      rfl
    · show ({ s with toks:=s.toks + 1 + ds.length }:Shared) = { s with toks:=s.toks + (ds.length + 1) }
      have:s.toks + 1 + ds.length = s.toks + (ds.length + 1):=by lia
      rw [this]
theorem T2_eq (p:Params) (a:Addr):T2 p a = lookN a (topL (hzP p)):=by kernel_rfl
theorem callerA_ok:AOk callerA (some []) 139:=⟨rfl,by show 1 + claimMargin + 5 * 139 < recursionLimit; decide,by decide +kernel,fun l h=>by cases h; rfl⟩
noncomputable def hFive:List Nat:=[46,801,789,762,805]
noncomputable def tabOf (o:Obj):Option (Value × Value):=match o.data with
  | .fields vs=>match vs[11]? with
    | some v=>some (o.cls,v)
    | none=>none
  | _=>none
theorem tabOf_is {o:Obj} {c v:Value} (h:tabOf o = some (c,v)):o.cls = c∧∃ vs,o.data = .fields vs∧vs[11]? = some v:=by
  unfold tabOf at h
  split at h
  · rename_i vs e
    split at h
    · rename_i v' e'
      cases h
      exact ⟨rfl,vs,e,e'⟩
    · cases h
  · cases h
theorem tabs_are (hs:Hs):[((50:Nat),(46:Nat)),(766,762),(793,789),(803,801)].all (fun p=>match (lookN p.1 (topL hs)).bind tabOf with
    | some (.type c,.ref t)=>c == "code" && Nat.beq t p.2
    | _=>false) = true:=by kernel_rfl
theorem table_of {w:World} {h:Heap} (top:∀ p ∈ topL (hzP w.params),h.get? p.1 = some p.2):∀ p ∈ [((50:Nat),(46:Nat)),(766,762),(793,789),(803,801)],isCodeTable h p.2:=by
  intro p hp
  have z:=List.all_eq_true.mp (tabs_are (hzP w.params)) p hp
  cases e:lookN p.1 (topL (hzP w.params)) with
  | none=>rw [e] at z; exact Bool.noConfusion z
  | some o =>
    rw [e] at z
    cases e':tabOf o with
    | none=>rw [show (some o).bind tabOf = none from e'] at z; exact Bool.noConfusion z
    | some cv =>
      obtain ⟨c,v⟩:=cv
      rw [show (some o).bind tabOf = some (c,v) from e'] at z
      obtain ⟨h1,vs,h2,h3⟩:=tabOf_is e'
      split at z
      · rename_i c' t' q
        cases q
        obtain ⟨z1,z2⟩:=Bool.and_eq_true_iff.mp z
        have z1:=eq_of_beq z1
        have z2:=Nat.eq_of_beq_eq_true z2
        subst z1
        subst z2
        exact ⟨p.1,o,vs,top _ (lookN_mem e),h1,h2,h3⟩
      · exact Bool.noConfusion z
theorem grown {h h':Heap} {b:Addr} {vs:Array Value} (ht:isCodeTable h b) (e:h'.get? b = some { cls:=.none,data:=.fields vs }):asItWas h h' b { cls:=.none,data:=.fields #[] }:=.inr (.inl ⟨ht,rfl,#[],vs,rfl,by rw [Array.empty_append]; exact e⟩)
theorem head_call {w:World} {s s₁:Shared} (F:HFacts w s.heap) (NL:s.heap.NoLimit) (hgens:s.gens = #[]) {cl:Str→Option Addr} {ord:List DictEntry→List DictEntry} {ds:List WData} (hI:WShape.hasItems [] ds .int = true) (hlen:ds.length≤63) {vs:List Value}
    (hlaid:layAllW [] cl w.params ord [.list ds] s = some (vs,s₁)) {Q:Value→Shared→Prop} {E:Value→Shared→Prop}
    (hQ:∀ s',OldK s₁.heap s'.heap→s'.os = s₁.os→AllBare s'.gens→Q (.bool true) s'):wpAny (model hP w) callerA (call (.ref 804) vs) Q E s₁:=by
  obtain ⟨is,hl,e⟩:=lay_ints (cl:=cl) (P:=w.params) (ord:=ord) ds s hI
  rw [layAllW,layW,e] at hlaid
  dsimp only at hlaid
  rw [layAllW] at hlaid
  dsimp only at hlaid
  obtain ⟨rfl,rfl⟩:=Prod.mk.inj (Option.some.inj hlaid)
  rw [F.size]
  generalize htk:(fun k=>s.toks + k) = tk at hlaid hQ ⊢
  have hc:({ cls:=.type "list",data:=.seq (Zz2 is tk).toArray }:Obj) = Zqz (Zz2 is tk) 0:=rfl
  rw [hc] at hQ ⊢
  generalize hx:Zz2 is tk = xs at hQ ⊢
  have hxl:xs.length≤63:=by rw [← hx,intV_len,hl]; exact hlen
  generalize hh:s.heap.push (Zqz xs 0) = h1 at hQ ⊢
  have hold:∀ b o,s.heap.get? b = some o→h1.get? b = some o:=fun b o e=>by rw [← hh]; exact Heap.get?_push_of_some _ e
  have h805:h1.get? 805 = some (Zqz xs 0):=by rw [← hh,← F.size]; exact Heap.get?_push_size _ rfl
  have hs1:h1.objs.size = 806:=by
    rw [← hh]
    show (s.heap.objs.push (Zqz xs 0)).size = 806
    rw [Array.size_push,F.size]
  have hg5:∀ b,(holes h1 hFive).get? b = if b ∈ hFive then none else h1.get? b:=fun b=>holes_get h1 b hFive
  have O:Own (holes h1 hFive) [(46,Zvx),(801,Zvx),(789,Zvx),(762,Zz8 775 20 none),(805,Zqz xs 0)] h1:=by
    refine ⟨fun b o e=>?_,fun p hp=>?_,(by decide:([46,801,789,762,805]:List Nat).Nodup),fun p hp=>?_⟩
    · rw [hg5] at e
      by_cases m:b ∈ hFive
      · rw [if_pos m] at e; cases e
      · rw [if_neg m] at e; exact e
    · simp only [List.mem_cons,List.not_mem_nil,or_false] at hp
      rcases hp with rfl | rfl | rfl | rfl | rfl
      · exact hold _ _ (F.tbl _ (.head _))
      · exact hold _ _ (F.tbl _ (.tail _ (.head _)))
      · exact hold _ _ (F.tbl _ (.tail _ (.tail _ (.head _))))
      · exact hold _ _ (F.tbl _ (.tail _ (.tail _ (.tail _ (.head _)))))
      · exact h805
    · rw [hg5]
      refine if_pos ?_
      simp only [List.mem_cons,List.not_mem_nil,or_false] at hp
      rcases hp with rfl | rfl | rfl | rfl | rfl <;> simp [hFive]
  have G:Mine.Ground T2 (wb w (w.params.followText "special-get-raises")) (holes h1 hFive):=by
    rw [wb_self]
    refine ⟨fun a o e=>?_,?_⟩
    · rw [T2_eq] at e
      have m:=lookN_mem e
      have z:=List.all_eq_true.mp (topL_away (hzP w.params)) _ m
      rw [hg5,if_neg ?_]
      · exact hold _ _ (F.top _ m)
      · intro q
        change (!hFive.contains a) = true at z
        rw [List.contains_iff_mem.mpr q] at z
        exact Bool.noConfusion z
    · obtain ⟨mc,⟨o,es,ep,e,r⟩,hn⟩:=NL
      exact ⟨mc,⟨o,es,ep,by rw [hg5,if_neg (by decide)]; exact hold _ _ e,r⟩,hn⟩
  have T:∀ b o,s.heap.get? b = some o→h1.get? b = some o:=hold
  have tabs:=table_of (h:=h1) (w:=w) fun p hp=>hold _ _ (F.top p hp)
  refine wpAny_call ?_
  have law:=law_ok (prog:=hP) (w:=w) (b:=w.params.followText "special-get-raises") plain (ys:=is.take 12) (by rw [List.length_take]; lia) (xs:=xs) (tk:=tk) (by rw [← hx,intV_take]) (Nat.le_trans hxl (by decide)) callerA_ok G
    (h:=h1) (ep:=0) (t:=s.toks + ds.length) (g:=s.gens) (r:=⟨s.drawn,s.os⟩) (Rz:=fun r s'=>match r with | .ok (.ret v)=>Q v s' | .ok _=>False | .error e=>E e s') O hs1 ?_
  · rw [wb_self] at law
    exact law
  · intro h' t' g' tb hk ht _ hgr
    refine hQ _ ⟨fun b o e=>?_,fun b o e=>?_⟩ rfl (hgr.2 (.of_eq hgens))
    · by_cases m:b ∈ hFive
      · simp only [hFive,List.mem_cons,List.not_mem_nil,or_false] at m
        rcases m with rfl | rfl | rfl | rfl | rfl
        · have q:=(O.own _ (.head _)).symm.trans e
          cases q
          exact grown (tabs _ (.head _)) (ht _ (.tail _ (.head _)))
        · have q:=(O.own _ (.tail _ (.head _))).symm.trans e
          cases q
          exact grown (tabs _ (.tail _ (.tail _ (.tail _ (.head _))))) (ht _ (.tail _ (.tail _ (.head _))))
        · have q:=(O.own _ (.tail _ (.tail _ (.head _)))).symm.trans e
          cases q
          exact grown (tabs _ (.tail _ (.tail _ (.head _)))) (ht _ (.tail _ (.tail _ (.tail _ (.head _)))))
        · have q:=(O.own _ (.tail _ (.tail _ (.tail _ (.head _))))).symm.trans e
          cases q
          exact grown (tabs _ (.tail _ (.head _))) (ht _ (.tail _ (.tail _ (.tail _ (.tail _ (.head _))))))
        · have q:=h805.symm.trans e
          cases q
          exact .inl (ht _ (.head _))
      · exact .inl (hk b o (by rw [hg5,if_neg m]; exact e))
    · by_cases m:b ∈ hFive
      · simp only [hFive,List.mem_cons,List.not_mem_nil,or_false] at m
        rcases m with rfl | rfl | rfl | rfl | rfl
        · exact ⟨_,ht _ (.tail _ (.head _))⟩
        · exact ⟨_,ht _ (.tail _ (.tail _ (.head _)))⟩
        · exact ⟨_,ht _ (.tail _ (.tail _ (.tail _ (.head _))))⟩
        · exact ⟨_,ht _ (.tail _ (.tail _ (.tail _ (.tail _ (.head _)))))⟩
        · exact ⟨_,ht _ (.head _)⟩
      · exact ⟨o,hk b o (by rw [hg5,if_neg m]; exact e)⟩
end
section
open PySem PySem.W PySem.W.X PySem.Calls PyProof.Rows
noncomputable abbrev hR:RowW:=PySem.Challenge.rw_ij0140_02.row.toRowW
theorem h_opens:opensWell hP = true:=by decide +kernel
theorem h_chains:chainsOk hQ = true:=by kernel_rfl
theorem h_bare:hP.bare:=⟨rfl,rfl,rfl,rfl,rfl,by decide +kernel⟩
theorem h_def:∃ d kwd,defOf hQ "law" = some (d,kwd)∧hP.theDef "law" = some (d.params,d.body,d.scope)∧kwWritten? d.params.kwonlyargs d.params.kw_defaults = some kwd:=⟨_,_,by rfl,by rfl,by rfl⟩
end
section
open PySem PySem.W PySem.W.X PySem.Calls PyProof.Rows
theorem h_preIs:hR.pre = .and (.not (.lt (.lit (.int 63)) (.len (.arg 0)))) (.lit (.bool true)):=rfl
theorem h_pre {ds:List WData} (h:hR.pre.holds hR.records { args:=[.list ds] } = true):ds.length≤63:=by
  rw [h_preIs] at h
  unfold WTm.holds at h
  simp only [WTm.value,PySem.W.less?,Num.less?,Option.map_some,List.getElem?_cons_zero] at h
  by_cases q:(63:Int) < ds.length
  · rw [decide_eq_true q] at h
    exact Bool.noConfusion h
  · lia
theorem h_postIs (args:List WData):hR.claim.post args (.bool true) args = true:=by
  show (WShape.has [] (.bool true) .bool && (WTm.eq .res (.lit (.bool true))).holds [] _) = true
  unfold WTm.holds
  simp [WTm.value,WShape.has,WShape.arms,same]
theorem h_good (args:List WData) (s₁ s':Shared) (cl:Str→Option Addr) (mean:ExcName→Option Value) (hK:OldK s₁.heap s'.heap) (ho:s'.os = s₁.os) (hb:AllBare s'.gens):GoodWG hR.claim cl mean args s₁ (.ok (.ret (.bool true))) s' :=
  ⟨.inl ⟨.bool true,.bool true,[],rfl,fun _=>rfl,.bool true,h_postIs args,fun _=>⟨List.nodup_nil,fun a ha=>nomatch ha⟩⟩,hK,ho,hb⟩
theorem law_is_kept:hR.claim.HoldsOpenBy (callStub hR.name) (if PySem.Challenge.rw_ij0140_02.row.pinned then [hR.name] else []) PySem.Challenge.rw_ij0140_02.row.keeps PySem.Challenge.rw_ij0140_02.row.writes:=by
  have left:=head_left.behind (XP:=fun _ _=>True) (fun _ _=>trivial) h_chains
  refine ⟨⟨h_bare,h_opens,rfl⟩,law_prom.witness,fun w=>⟨(left w).1,fun s' hs'=>?_⟩⟩
  obtain ⟨s₀,hf,hg0,s,hT,hz,hgens,hg,G,y⟩:=(left w).2 s' hs'
  have hgens:s.gens = #[]:=Array.eq_empty_of_size_eq_zero (beq_iff_eq.mp hgens)
  obtain ⟨F,hlaw⟩:=hFacts_of y
  refine ⟨s₀,hf,hg0,s,hT,fun n hn=>?_,(fun x hx=>nomatch hx),(fun x hx=>nomatch hx),?_⟩
  · obtain rfl:n = "law" := List.mem_singleton.mp hn
    obtain ⟨d,kwd,a,b,c⟩:=h_def
    exact pinned_of_view hg G a b c
  · refine ClaimW.callFrom_of_specG (c:=hR.claim) hz hgens fun args hpre hlay ord hord=>?_
    obtain ⟨hsh,hpr⟩:=pre_splitW hpre
    obtain ⟨d,r,rfl,h1,h2⟩:=hasAllW_cons hsh
    obtain rfl:=hasAllW_nil h2
    obtain ⟨ds,rfl,hI⟩:=hasW_list h1
    have hlen:=h_pre hpr
    obtain ⟨⟨vs,s₁⟩,hlaid⟩:=Option.isSome_iff_exists.mp (layAllW_isSome (P:=w.params) (ord:=ord) G.has _ hR.args s hsh)
    have keeps:=layAllW_keeps _ _ _ hlaid
    have hal:=layAllW_rest _ _ _ hlaid
    obtain ⟨as,hrd,hin,hold⟩:=reads_layAllW hord _ _ _ hlaid hlay s₁.heap (fun _ _ e=>e)
    have L:Laid hR.records w s s₁ _ vs as:=⟨⟨ord,hord,hlaid⟩,hrd,hin,hold,keeps,hal.1.trans hgens,hal.2.2.1⟩
    have G₁:=G.keeps (fun _ _ _ _ _=>trivial) keeps
    refine ⟨vs,s₁,hlaid,?_⟩
    refine wpAny_bind (wpAny_nsGet G₁.T.g ?_)
    rw [show s.heap.nsMap mainGlobals hR.name = some (.ref 804) from hlaw]
    refine wpAny_bind (head_call F G.T.nolimit hgens hI hlen hlaid fun s' hK ho hb=>?_)
    refine wpAny_pure ⟨_,rfl,?_⟩
    have z:=(h_good _ s₁ s' (classAt s.heap) (ExcName.means s.heap) hK ho hb).laid (c:=hR.claim) rfl rfl (ident_freeW rfl rfl rfl) L
    exact ⟨z.1,z.2.1,z.2.2,fun q=>Bool.noConfusion q⟩
end
end Mine
theorem PySem.Challenge.cw_ij0140_02_holds : PySem.Challenge.rw_ij0140_02.Holds :=
  ⟨Mine.law_ws, PySem.W.row_said Mine.law_ws, Mine.law_prom, Mine.law_is_kept⟩
