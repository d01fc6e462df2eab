import PyProof.Rows.All
import PyProof.AtCode
import PyProof.Rules2
import PyProof.Methods
import PyProof.FactsAll.list_1
import PyProof.FactsAll.list_2
import PyProof.FactsAll.tuple_1
import PyProof.FactsAll.tuple_2
import PyProof.MakeMany
import PyProof.Rules3
import PyProof.FString5
import PyProof.CallFns
import PyProof.ListIndex
import PyProof.CompMap
import PyProof.ToksMono
import PyProof.PlainList
import PyProof.MinMaxWalk
import PyProof.CollectWalk
import PyProof.Commute
import PyProof.StrWalks
import PyProof.CompFree
import PyProof.PureInt
import PyProof.DefCall
import PyProof.ListOps
import PyProof.EnumMake
import PyProof.EqAt
import PyProof.EqKinds
import PyProof.StrOps
import PyProof.StrBlock
import PyProof.FitsReplace
import PyProof.RangeIter
import PyProof.WalksMore
import PyProof.RangeFor
import PyProof.ForRange
import PyProof.InstNe
import PyProof.ListIndexNeg
import PyProof.Rows.Chain
import PyProof.Rows.Nodes
import PyProof.Rows.StrWeight2
import PyProof.StrCalls6
import PyProof.SliceMore
import PyProof.StrLawsReplace
import PyProof.SumAny
import PyProof.Rows.CallKwBuiltin
import OpenK.KMake
import KE.KSortKey
import KE.KSortAsk
import OpenK.AllK
import Wide.All
import PySem.Challenge.RW_ij0140_01
namespace Mine
abbrev F6:Type:=Fin 6
noncomputable def Yt (b:Nat):Nat->Nat->List Nat
 | 0,_=>[]
 | k+1,n=>n % b::Yt b k (n / b)
theorem kf {p:Prop} (h:p:=by cases b<;>kernel_rfl):p:=h
end Mine
set_option genInjectivity false
set_option genSizeOf false
set_option Elab.async false
set_option linter.unusedVariables false
set_option linter.all false
set_option maxRecDepth 1000000
set_option maxHeartbeats 0
namespace Mine
open PySem PySem.W PySem.W.X
noncomputable abbrev LA:Type:=List (Option (Addr×Obj))
noncomputable abbrev LC:Type:=List (Addr×Obj)
noncomputable abbrev LD:Type:=List (List Nat)
noncomputable abbrev LE:Type:=Addr->Option Obj
noncomputable abbrev LF:Type:=Value->Shared->Prop
noncomputable abbrev LG:Type:=Array (Option Value)
noncomputable abbrev LH:Type:=List Value
noncomputable abbrev LI:Type:=Option (Nat×Value)
noncomputable abbrev LJ:Type:=Array DictEntry
noncomputable abbrev LK:Type:=Array GenState
noncomputable abbrev LL:Type:=Except Value Value
noncomputable abbrev LM:Type:=Nat->Nat
noncomputable abbrev LN:Type:=Nat->Addr
noncomputable abbrev LO:Type:=Option Str
theorem Q0q:type_of% @PySem.Around.under_plainId:=@PySem.Around.under_plainId
theorem Q1q:type_of% @Bool.and_eq_true:=@Bool.and_eq_true
theorem Q2q:type_of% @Bool.and_eq_true_iff:=@Bool.and_eq_true_iff
theorem Q3q:type_of% @Bool.false_eq_true:=@Bool.false_eq_true
theorem Q4q:type_of% @Bool.false_ne_true:=@Bool.false_ne_true
theorem Q5q:type_of% @PySem.Calls.callWith_builtin:=@PySem.Calls.callWith_builtin
theorem Q6q:type_of% @PySem.Calls.callWith_function:=@PySem.Calls.callWith_function
theorem Q7q:type_of% @PySem.Calls.evalArgs_plain:=@PySem.Calls.evalArgs_plain
theorem Q8q:type_of% @PySem.Calls.spliced_cons:=@PySem.Calls.spliced_cons
theorem Q9q:type_of% @PySem.Calls.spliced_nil:=@PySem.Calls.spliced_nil
theorem Zhz:type_of% @PySem.Heap.SameBut.update:=@PySem.Heap.SameBut.update
theorem Zyb:type_of% @PySem.Heap.get?_push_of_some:=@PySem.Heap.get?_push_of_some
theorem Z42:type_of% @PySem.Heap.get?_push_size:=@PySem.Heap.get?_push_size
theorem Zns:type_of% @PySem.Heap.lt_size:=@PySem.Heap.lt_size
theorem Ziu:type_of% @PySem.Heap.size_push:=@PySem.Heap.size_push
theorem Zfh:type_of% @List.all_eq_true:=@List.all_eq_true
theorem Zdp:type_of% @List.append_assoc:=@List.append_assoc
theorem Gf:type_of% @List.append_nil:=@List.append_nil
theorem Zzp:type_of% @List.drop_eq_getElem_cons:=@List.drop_eq_getElem_cons
theorem Z2g:type_of% @List.drop_eq_nil_of_le:=@List.drop_eq_nil_of_le
theorem Zz4:type_of% @List.flatMap_append:=@List.flatMap_append
theorem Zbj:type_of% @List.getD_eq_getElem?_getD:=@List.getD_eq_getElem?_getD
theorem Vp:type_of% @List.getElem?_eq_getElem:=@List.getElem?_eq_getElem
theorem Zjq:type_of% @List.getElem?_eq_none:=@List.getElem?_eq_none
theorem Zfj:type_of% @List.getElem?_eq_some_iff:=@List.getElem?_eq_some_iff
theorem Zbl:type_of% @List.getElem?_map:=@List.getElem?_map
theorem Z21:type_of% @List.getElem?_toArray:=@List.getElem?_toArray
theorem Zyd:type_of% @List.getElem_map:=@List.getElem_map
theorem Zd1:type_of% @List.getElem_mem:=@List.getElem_mem
theorem Vc:type_of% @List.length_append:=@List.length_append
theorem V7:type_of% @List.length_cons:=@List.length_cons
theorem Z0:type_of% @List.length_map:=@List.length_map
theorem Zbb:type_of% @List.length_nil:=@List.length_nil
theorem Zbg:type_of% @List.length_take:=@List.length_take
theorem J3:type_of% @List.map_append:=@List.map_append
theorem Zcq:type_of% @List.map_cons:=@List.map_cons
theorem Zhu:type_of% @List.mem_append:=@List.mem_append
theorem N8:type_of% @List.mem_append_left:=@List.mem_append_left
theorem N7:type_of% @List.mem_append_right:=@List.mem_append_right
theorem X6:type_of% @List.mem_cons:=@List.mem_cons
theorem Zqx:type_of% @List.mem_flatMap:=@List.mem_flatMap
theorem Uo:type_of% @List.mem_map:=@List.mem_map
theorem Zdq:type_of% @List.mem_map_of_mem:=@List.mem_map_of_mem
theorem Nl:type_of% @List.mem_of_getElem?:=@List.mem_of_getElem?
theorem Z1v:type_of% @List.mem_of_mem_take:=@List.mem_of_mem_take
theorem Zhp:type_of% @List.mem_range:=@List.mem_range
theorem Ur:type_of% @List.mem_singleton:=@List.mem_singleton
theorem Zek:type_of% @List.nodup_cons:=@List.nodup_cons
theorem Zfp:type_of% @List.not_mem_nil:=@List.not_mem_nil
theorem Zbv:type_of% @List.take_add_one:=@List.take_add_one
theorem Zja:type_of% @List.take_length:=@List.take_length
theorem Zni:type_of% @List.take_of_length_le:=@List.take_of_length_le
theorem Zdr:type_of% @Nat.le_add_right:=@Nat.le_add_right
theorem Y9:type_of% @Nat.le_refl:=@Nat.le_refl
theorem Zn:type_of% @Nat.le_trans:=@Nat.le_trans
theorem Zd8:type_of% @Nat.lt_of_le_of_lt:=@Nat.lt_of_le_of_lt
theorem Zv7:type_of% @Nat.mul_le_mul_right:=@Nat.mul_le_mul_right
theorem Pt:type_of% @Nat.zero_le:=@Nat.zero_le
theorem Pl:type_of% @Option.bind_eq_some_iff:=@Option.bind_eq_some_iff
theorem Z1c:type_of% @Option.map_eq_some_iff:=@Option.map_eq_some_iff
theorem Zfs:type_of% @Option.some.inj:=@Option.some.inj
theorem Zyi:type_of% @PySem.W.Looks.at:=@PySem.W.Looks.at
theorem Zxo:type_of% @PySem.W.Looks.ld:=@PySem.W.Looks.ld
theorem Znu:type_of% @beq_false_of_ne:=@beq_false_of_ne
theorem Zyx:type_of% @PySem.builtinLookup_eq_fast:=@PySem.builtinLookup_eq_fast
theorem M3:type_of% @PySem.codeAny_builtin:=@PySem.codeAny_builtin
theorem Yr:type_of% @congrArg:=@congrArg
theorem Us:type_of% @congrFun:=@congrFun
theorem Zg2:type_of% @decide_eq_decide:=@decide_eq_decide
theorem Uz:type_of% @decide_eq_false:=@decide_eq_false
theorem Zvl:type_of% @decide_eq_false_iff_not:=@decide_eq_false_iff_not
theorem Za7:type_of% @decide_eq_true:=@decide_eq_true
theorem Zvm:type_of% @PySem.eval_ListComp:=@PySem.eval_ListComp
theorem Uk:type_of% @PySem.W.look_both:=@PySem.W.look_both
theorem Zjz:type_of% @PySem.W.looks_field:=@PySem.W.looks_field
theorem Znp:type_of% @of_decide_eq_true:=@of_decide_eq_true
theorem Zfe:type_of% @or_false:=@or_false
theorem Zkv:type_of% @PySem.plainId_quiet:=@PySem.plainId_quiet
theorem Zpw:type_of% @PySem.richCompare_meets_room:=@PySem.richCompare_meets_room
theorem Zo9:type_of% @PySem.wpAny_Assign_Name:=@PySem.wpAny_Assign_Name
theorem Zi2:type_of% @PySem.wpAny_Call_NameR:=@PySem.wpAny_Call_NameR
theorem Zru:type_of% @PySem.wpAny_Return_some:=@PySem.wpAny_Return_some
theorem Zi:type_of% @PySem.wpAny_bind:=@PySem.wpAny_bind
theorem Znf:type_of% @PySem.wpAny_call:=@PySem.wpAny_call
theorem Zky:type_of% @PySem.wpAny_execs_cons:=@PySem.wpAny_execs_cons
theorem Zfk:type_of% @PySem.wpAny_holding:=@PySem.wpAny_holding
theorem Znz:type_of% @PySem.wpAny_load:=@PySem.wpAny_load
theorem P3:type_of% @PySem.wpAny_loadPart':=@PySem.wpAny_loadPart'
theorem Jy:type_of% @PySem.wpAny_mono:=@PySem.wpAny_mono
theorem Zyo:type_of% @PySem.wpAny_newObj_type:=@PySem.wpAny_newObj_type
theorem Zbf:type_of% @PySem.wpAny_of_eq:=@PySem.wpAny_of_eq
theorem Yo:type_of% @PySem.wpAny_pure:=@PySem.wpAny_pure
theorem Zwn:type_of% @PySem.wpAny_seqItems:=@PySem.wpAny_seqItems
theorem Zd2:type_of% @PySem.wpAny_standAt:=@PySem.wpAny_standAt
theorem Zj0:type_of% @PySem.wpAny_truthy_bool:=@PySem.wpAny_truthy_bool
theorem Znl:type_of% @PySem.wpAny_updateSeq:=@PySem.wpAny_updateSeq
variable {α:Type} {prog:Program} {w:World} {b:Bool} {A:Around} {H h:Heap} {t:Nat} {g:LK} {l:LC} {s:Shared} {T:Params->LE} {Q E:LF}
variable {n c k own ty p' ep tt sc t₀ ea e1 la dx dy t1 t2 t3 fr tv cr rw el tc k3 kc wc:Nat} {g' g₀:LK} {x tl y js orc ks kb wd text W1 W2:List Nat} {native:Bool} {pos:Pos} {h':Heap} {ps fo fix l0:LC} {sl sl3:LG} {Y ln' fa fb:Int} {qq E3:Env} {lst it a3 af:Addr} {iter target i1:Expr} {acc xv v0 v1 v2 v3 v4 v5:Value} {scope:Scope} {us:LD} {vs:LH} {A2:Around} {tw ft:LM} {d3:LJ}
section
set_option maxHeartbeats 0
open PySem PySem.W PySem.Calls PyProof.Rows
noncomputable abbrev hLw:OpenLaw:=PySem.Challenge.rw_ij0140_01
noncomputable abbrev hPw:Program:=PySem.Challenge.pw_ij0140_01
theorem lo0:Fast.tw11788848310118352699 hPw.main=true:=by kernel_rfl
theorem lo1:((Fast.tw9807087744658564304 hPw.main.body).isEmpty||Fast.tw12862048085361865435 (Fast.tw9807087744658564304 hPw.main.body) hPw.main.body)=true:=by kernel_rfl
theorem lo2:Fast.tw8377067652309620493 hPw=true:=by kernel_rfl
theorem lo3:(R.allR (Fast.tw18344453789297297638 hPw) fun n=>!Fast.tw3471404346716756564 Fast.tw14412699480532031325 n)=true:=by kernel_rfl
theorem lo4:Fast.tw8326940854005059898 { strict:=!R.allR (Fast.tw5923862056798008813 hPw.main.body) (Fast.tw3471404346716756564 Fast.tw17691160309236699985),foot:=none,bare:=R.filterR (Fast.tw13343964577679436407 hPw hPw.main.body) [{ cps:={ toList:=[118,97,114,115] } },{ cps:={ toList:=[100,105,114] } },{ cps:={ toList:=[108,111,99,97,108,115] } }] } hPw.main.body=true:=by kernel_rfl
theorem lo5:(Fast.tw17119622794617984870 hPw hPw.main.body fun x n=>Fast.tw17868728402115742887 n)=true:=by kernel_rfl
theorem lo:Fast.tw12908688711261696721 hPw=true:=Uk (Uk (Uk (Uk (Uk lo0 lo1) lo2) lo3) lo4) lo5
theorem Z33:Fast.tw12908688711261696721 (Fast.tw2368527892694137696 hLw).prog=true:=lo
theorem Zvb:Fast.tw2436336058641802641 (Fast.tw2368527892694137696 hLw)=true:=by
 refine Uk (Uk (Uk (Uk (Uk (Uk (Uk (Uk (Uk (Uk (Uk (Uk (Uk Z33 ?a) ?b) ?c) ?d) ?e) ?f) ?g) ?h) ?i) ?j) ?k) ?l) ?m
 all_goals kernel_rfl
theorem Ztw:Fast.tw17960256430627541270 (Fast.tw2368527892694137696 hLw)=true:=by
 refine Uk (Uk Zvb ?a) ?b
 all_goals kernel_rfl
theorem Zxk:Fast.tw9446332074065402090 hLw=true:=by
 refine Uk (Uk (Uk (Uk (Uk (Uk (Uk (Uk (Uk (Uk (Uk (Uk (Uk (Uk (Uk (Uk (Uk (Uk Ztw ?a) ?b) ?c) ?d) ?e) ?f) ?g) ?h) ?i) ?j) ?k) ?l) ?m) ?n) ?o) ?p) ?q) ?r
 all_goals kernel_rfl
theorem law_ws:PySem.Challenge.rw_ij0140_01.wellSaid=true:=(Us Fast.te9446332074065402090 _).trans Zxk
theorem law_prom:PySem.Challenge.rw_ij0140_01.row.toRowW.promised:=by w_witness2
end
section
open PySem PySem.W PySem.Calls PyProof.Rows
noncomputable def BT.full (t:BT) (n:Nat):Prop:=∀ i,(t.get i).isSome=true↔i < n
theorem Zn6:BT.full .nil 0:=fun i=>⟨fun h=>Bool.noConfusion (h:false=true),fun h=>absurd h (Nat.not_lt_zero i)⟩
theorem Zke {v:Obj} {l r:BT} (h:BT.full (.node v l r) n):BT.full l (n / 2):=fun i=>by
 have z:=h (2 * i+1)
 rw [BT.get_node,if_neg (Nat.succ_ne_zero _),if_pos (Nat.mul_add_mod 2 i 1),Nat.mul_add_div Nat.zero_lt_two i 1] at z
 refine z.trans (Iff.symm ?_)
 show i+1<=n / 2↔2 * (i+1)<=n
 rw [Nat.le_div_iff_mul_le Nat.zero_lt_two,Nat.mul_comm]
theorem Zh9 {v:Obj} {l r:BT} (h:BT.full (.node v l r) n):BT.full r ((n - 1) / 2):=fun i=>by
 have z:=h (2 * (i+1))
 have e:2 * (i+1) % 2=0:=Nat.mul_mod_right 2 (i+1)
 rw [BT.get_node,if_neg (show ¬ 2 * (i+1)=0 from Nat.succ_ne_zero _),if_neg (by rw [e]; decide),Nat.mul_div_cancel_left (i+1) Nat.zero_lt_two] at z
 refine z.trans (Iff.symm ?_)
 show i+1<=(n - 1) / 2↔2 * (i+1) < n
 rw [Nat.le_div_iff_mul_le Nat.zero_lt_two,Nat.mul_comm]
 exact ⟨fun q=>Zd8 q (by lia),Nat.le_sub_one_of_lt⟩
theorem Zdl:∀ (t:BT) (n:Nat) (o:Obj),BT.full t n->((t.ins n o).get n).isSome=true
 | .nil,n,o,h=>by
  have:n=0:=by
   cases n with
   | zero=>rfl
   | succ n=>exact Bool.noConfusion (((h 0).mpr (Nat.succ_pos n):false=true))
  subst this
  rfl
 | .node v l r,n,o,h=>by
  rw [BT.ins_node]
  by_cases h0:n=0
  ·subst h0
   exact absurd ((h 0).mp (by rw [BT.get_node]; rfl)) (Nat.lt_irrefl 0)
  ·rw [if_neg h0]
   by_cases h1:n % 2=1
   ·rw [if_pos h1,BT.get_node,if_neg h0,if_pos h1]
    exact Zdl l (n / 2) o (Zke h)
   ·rw [if_neg h1,BT.get_node,if_neg h0,if_neg h1]
    have e:n / 2 - 1=(n - 1) / 2:=by
     have hd:=Nat.div_add_mod n 2
     rw [(Nat.mod_two_eq_zero_or_one n).resolve_right h1,Nat.add_zero] at hd
     cases q:n / 2 with
     | zero=>rw [q] at hd; exact absurd hd.symm h0
     | succ j =>
      rw [q] at hd
      rw [← hd]
      exact (Nat.mul_add_div Nat.zero_lt_two j 1).symm
    rw [e]
    exact Zdl r ((n - 1) / 2) o (Zh9 h)
theorem Zqa {t:BT} {o:Obj} (h:BT.full t n):BT.full (t.ins n o) (n+1):=fun i=>by
 rw [BT.get_ins o t n (Zdl t n o h) i]
 by_cases e:i=n
 ·rw [if_pos e]
  exact ⟨fun _=>by lia,fun _=>rfl⟩
 ·rw [if_neg e,h i]
  lia
noncomputable def Zrt:List Obj->BT->Nat->BT
 | [],t,_=>t
 | o::l,t,n=>Zrt l (t.ins n o) (n+1)
theorem Zgp:∀ (l:List Obj) (t:BT) (n:Nat),BT.full t n->∀ i,(Zrt l t n).get i=if i < n then t.get i else l[i - n]?
 | [],t,n,h,i=>by
  show t.get i=_
  by_cases q:i < n
  ·rw [if_pos q]
  ·rw [if_neg q]
   have:=h i
   cases e:t.get i with
   | none=>simp
   | some o=>rw [e] at this; exact absurd (this.mp rfl) q
 | o::l,t,n,h,i=>by
  show (Zrt l (t.ins n o) (n+1)).get i=_
  rw [Zgp l _ _ (Zqa h) i,BT.get_ins o t n (Zdl t n o h) i]
  by_cases q:i < n
  ·have:i≠n:=by lia
   rw [if_pos q,if_pos (by lia),if_neg this]
  ·rw [if_neg q]
   by_cases e:i=n
   ·subst e
    rw [if_pos (by lia),if_pos rfl]
    simp
   ·rw [if_neg (by lia)]
    have e2:i - n=(i - (n+1))+1:=by lia
    rw [e2,List.getElem?_cons_succ]
noncomputable def Z6p (s:Shared):SharedT:=⟨Zrt s.heap.objs.toList .nil 0,s.heap.objs.size,s.heap.life,s.gens,s.drawn,s.toks,s.os⟩
theorem Zh8 (s:Shared):(Z6p s).abs=s:=by
 obtain ⟨⟨⟨l⟩,life⟩,gens,drawn,toks,os⟩:=s
 have:absHeap (Zrt l .nil 0) l.length life=⟨⟨l⟩,life⟩:=by
  have e:(BT.list (Zrt l .nil 0) l.length)=l:=by
   apply List.ext_getElem?
   intro i
   unfold BT.list
   rw [Zbl]
   by_cases h:i < l.length
   ·rw [List.getElem?_range h]
    show some (((Zrt l .nil 0).get i).getD default)=_
    rw [Zgp l .nil 0 Zn6 i,if_neg (by lia),Nat.sub_zero,Vp h]
    rfl
   ·rw [Zjq (by rw [List.length_range]; lia),Zjq (by lia)]
    rfl
  unfold absHeap
  rw [e]
 show (⟨absHeap (Zrt l .nil 0) l.length life,gens,drawn,toks,os⟩:Shared)=_
 rw [this]
noncomputable abbrev Stp:Type:=Program->World->SharedT->Thread->Option (SharedT×Thread)
noncomputable def Z52 (stp:Stp) (ax:Thread->Option (LH)) (p:Program) (w:World):Nat->SharedT->Thread->Option SharedT
 | 0,_,_=>none
 | n+1,s,t=>match ax t with
  | some l=>match l with
   | []=>some s
   | _::_=>none
  | none=>match stp p w s t with
   | some r=>match r with | (s',t')=>Z52 stp ax p w n s' t'
   | none=>none
theorem Ze0 {tb:String->Option Builtin} {p:Program}:∀ (n:Nat) (s:SharedT) (t:Thread) (s':SharedT),Z52 (stepT (denote tb)) Thread.atExitBegin p w n s t=some s'->importEnds tb p w n s.abs t=some s'.abs
 | 0,_,_,_,h=>by cases h
 | n+1,s,t,s',h=>by
  unfold Z52 at h
  unfold importEnds
  cases ht:t.atExitBegin with
  | some l =>
   rw [ht] at h
   cases l with
   | nil=>cases h; rfl
   | cons _ _=>cases h
  | none =>
   rw [ht] at h
   dsimp only at h
   cases hs:stepT (denote tb) p w s t with
   | none=>rw [hs] at h; cases h
   | some r =>
    obtain ⟨s₁,t₁⟩:=r
    rw [hs] at h
    dsimp only at h ⊢
    rw [stepT_spec hs]
    exact Ze0 n s₁ t₁ s' h
noncomputable def Z5j (stp:Stp) (ok:Nat->Option Value->Thread->Bool) (p:Program) (w:World) (n₀:Nat) (ann:Option Value):Nat->SharedT->Thread->Option SharedT
 | 0,_,_=>none
 | n+1,s,t=>match through t with
  | true=>some s
  | false=>match ok n₀ ann t with
   | false=>none
   | true=>match stp p w s t with
    | some r=>match r with | (s',t')=>Z5j stp ok p w n₀ ann n s' t'
    | none=>none
theorem Zdv {tb:String->Option Builtin} {p:Program} {n₀:Nat} {ann:Option Value}:∀ (n:Nat) (s:SharedT) (t:Thread) (s':SharedT),Z5j (stepT (denote tb)) stepOk p w n₀ ann n s t=some s'->topRun tb p w n₀ ann n s.abs t=some s'.abs
 | 0,_,_,_,h=>by cases h
 | n+1,s,t,s',h=>by
  unfold Z5j at h
  unfold topRun
  cases ht:through t with
  | true=>rw [ht] at h; cases h; rfl
  | false =>
   rw [ht] at h
   dsimp only at h ⊢
   cases hk:stepOk n₀ ann t with
   | false=>rw [hk] at h; cases h
   | true =>
    rw [hk] at h
    dsimp only at h ⊢
    cases hs:stepT (denote tb) p w s t with
    | none=>rw [hs] at h; cases h
    | some r =>
     obtain ⟨s₁,t₁⟩:=r
     rw [hs] at h
     dsimp only at h ⊢
     rw [stepT_spec hs]
     exact Zdv n s₁ t₁ s' h
noncomputable def Z5l (stp:Stp) (ax:Thread->Option (LH)) (ok:Nat->Option Value->Thread->Bool) (st:Program->Shared×Thread) (fence:Program->Shared->Option Shared) (nm:Heap->Addr->Str->Option Value) (p:Program) (w:World) (N M:Nat):Option (Shared×SharedT) :=
 match Z52 stp ax (opening p) w N (Z6p (st (opening p)).1) (st (opening p)).2 with
 | none=>none
 | some s=>match fence p s.abs with
  | none=>none
  | some s₀=>match Z5j stp ok p w s₀.heap.objs.size (nm s₀.heap mainGlobals "__annotations__") M (Z6p s₀) (topStub p) with
   | none=>none
   | some s₁=>some (s₀,s₁)
theorem Zlm {p:Program} {N M K:Nat} (hN:N<=K) (hM:M<=K) {s₀:Shared} {s₁:SharedT} (h:Z5l (stepT (denote treeTable)) Thread.atExitBegin stepOk start fenceModules? Heap.nsMap p w N M=some (s₀,s₁)) :
  fencedOpening treeTable p w K=some s₀/\topRun treeTable p w s₀.heap.objs.size (s₀.heap.nsMap mainGlobals "__annotations__") K s₀ (topStub p)=some s₁.abs:=by
 unfold Z5l at h
 split at h
 ·cases h
 ·rename_i s e1
  split at h
  ·cases h
  ·rename_i s' e2
   split at h
   ·cases h
   ·rename_i s'' e3
    cases h
    have a1:=Ze0 _ _ _ _ e1
    rw [Zh8] at a1
    have a1:=importEnds_mono (K - N) _ _ _ _ a1
    rw [show N+(K - N)=K by lia] at a1
    have a3:=Zdv _ _ _ _ e3
    rw [Zh8] at a3
    have a3:=topRun_mono (K - M) _ _ _ _ a3
    rw [show M+(K - M)=K by lia] at a3
    refine ⟨?_,a3⟩
    unfold fencedOpening
    rw [a1]
    exact e2
end
section
set_option maxHeartbeats 0
open PySem PySem.W PySem.Calls PyProof.Rows
noncomputable abbrev hP:Program:=PySem.Challenge.pw_ij0140_01
noncomputable def hQ:Program:=view hP [41]
noncomputable def Zkt:List Str:=List.append (α:=Str) ["_sre", "deque", "_wall", "cmp_to_key", "_initial_missing", "reduce", "_twin_re_1", "_whence", "_index", "UnsupportedOperation", "IOBase", "BufferedIOBase", "TextIOBase", "BytesIO", "StringIO", "_kind", "_fspath", "_check_arg_types", "isabs", "join", "join_path", "dirname", "shlex"] ["split", "join_shlex", "_find_unsafe", "quote", "_law_drawn", "_law_compared", "_law_put", "_law_safe", "_law_rank", "_law_orders", "_law_every", "_law_six"]
noncomputable def Zxa (w:World):Option (Shared×SharedT):=Z5l (Fast.tw10156331382660048174 (Fast.tw11892475500146522536 Fast.tw14364793385576792824)) Fast.tw3805553451399329143 Fast.tw6613529449190102663 Fast.tw1435165496053646825 Fast.tw14289696077712309145 Fast.tw8920871248978507458 hP w 2000 6000
theorem Zpv (w:World):Zxa w=Z5l (stepT (denote treeTable)) Thread.atExitBegin stepOk start fenceModules? Heap.nsMap hP w 2000 6000:=by
 unfold Zxa
 rw [← Fast.te10156331382660048174,← Fast.te11892475500146522536,← Fast.te14364793385576792824,← Fast.te3805553451399329143,← Fast.te6613529449190102663,← Fast.te1435165496053646825,← Fast.te14289696077712309145,← Fast.te8920871248978507458]
end
structure Bag where
 g:Nat->LM
 of:(Nat->LM)->LC
noncomputable def Zt:List Bag->LC
 | []=>[]
 | b::r=>b.of b.g++Zt r
noncomputable abbrev LB:Type:=List (Option Bag)
inductive Vd where
 | a (x:Nat)
 | c (x:Code)
 | p (x:LA)
 | i (x:String)
 | k (x:List (Str×Value))
 | o (x:Obj)
 | f (x:Option (List Env))
 | b (x:LB)
structure ES where
 objs:LC
 bags:List Bag
 gk:Bool
 m:Nat
 i:Nat
 orc:List Nat
 log:List Nat
 eqs:List (Vd×Vd)
 obl:List Prop
structure Ext where
 nat:LM
 sl:Nat->LG
 seq:Nat->Nat->LM
 ob:Obj
noncomputable def Ext.nil:Ext:=⟨fun _=>0,fun _=>#[],fun _ _ _=>0,{ cls:=.none }⟩
structure Zme (st:List (Code×Pos)):Prop where
 room:oRoom.1 st=false
 near:∀ own,oNear.1 st own recursionLimit=false
 over:∀ own,oOver.1 st own recursionLimit=false
 warm:∀ own,oWarm.1 st own recursionLimit=false
structure Looks where
 st:List (Code×Pos)
 ok:Zme st
inductive Out (α:Type) where
 | ok (a:α) (s:ES)
 | err (e:Value) (s:ES)
 | stop (w:String) (k:Nat) (s:ES)
 | more (k:Ext->Out α)
 | look (k:Looks->Out α)
noncomputable def Out.bind {α β:Type} (f:α->ES->Out β) (g:Value->ES->Out β):Out α->Out β
 | .ok a s=>f a s
 | .err e s=>g e s
 | .stop w k s=>.stop w k s
 | .more k=>.more fun x=>(k x).bind f g
 | .look k=>.look fun x=>(k x).bind f g
inductive Gc where
 | skip (s:ES)
 | take (o:Out Flow)
structure Cfg where
 den:Code->Sem Fin
 prep:Addr->FuncData->Args->Sem Env
 set:Setting
 top:LE
 n:Nat
 t:Nat
 native:Bool
 sym:Code->Nat
 ans:Option (List Env)->Nat->Code->ES->Gc
noncomputable def Zkm (a:Addr):LC->Nat->Option Nat
 | [],_=>none
 | p::r,k=>if p.1==a then some k else Zkm a r (k+1)
noncomputable def at? {α:Type}:List α->Nat->Option α
 | [],_=>none
 | p::r,k=>match k with
  | 0=>some p
  | k+1=>at? r k
noncomputable def Zi6 (f:Obj->Obj):LC->Nat->LC
 | [],_=>[]
 | p::r,k=>match k with
  | 0=>(match p with | (a,o)=>(a,f o))::r
  | k+1=>p::Zi6 f r k
noncomputable def Z5h (C:Cfg) (a:Addr) (s:ES) (K:Nat->ES->Out α):Out α:=match s with
 | ⟨objs,bgs,gk,m,i,orc,log,eqs,obl⟩=>match C.native with
  | true=>let k:=match Zkm a objs 0 with | some k=>k+1 | none=>0
       K k ⟨objs,bgs,gk,m,i,orc,k::log,eqs,obl⟩
  | false=>match orc with
   | k::orc=>K k ⟨objs,bgs,gk,m,i,orc,log,eqs,obl⟩
   | []=>.stop "oracle" a ⟨objs,bgs,gk,m,i,orc,log,eqs,obl⟩
noncomputable def Yal (C:Cfg) (own:Nat) (s:ES) (K:Nat->ES->Out α):Out α:=match s with
 | ⟨objs,bgs,gk,m,i,orc,log,eqs,obl⟩=>match C.native with
  | true=>K own ⟨objs,bgs,gk,m,i,orc,own::log,eqs,obl⟩
  | false=>match orc with
   | k::orc=>K k ⟨objs,bgs,gk,m,i,orc,log,eqs,obl⟩
   | []=>.stop "oracle" 0 ⟨objs,bgs,gk,m,i,orc,log,eqs,obl⟩
noncomputable def owe (p:Prop) (s:ES):ES:=match s with
 | ⟨objs,bgs,gk,m,i,orc,log,eqs,obl⟩=>⟨objs,bgs,gk,m,i,orc,log,eqs,p::obl⟩
noncomputable def Zgz (C:Cfg) (a:Addr) (s:ES) (K:Obj->ES->Out α):Out α:=Z5h C a s fun k s=>match k with
 | 0=>match C.top a with
  | some o=>K o s
  | none=>.stop "top" a s
 | k+1=>match s with
  | ⟨objs,bgs,gk,m,i,orc,log,eqs,obl⟩=>match at? objs k with
   | some p=>match p with | (b,o)=>K o ⟨objs,bgs,gk,m,i,orc,log,(.a a,.a b)::eqs,obl⟩
   | none=>.stop "known" a s
noncomputable def Zmr (C:Cfg) (a:Addr) (f:Obj->Obj) (s:ES) (K:ES->Out α):Out α:=Z5h C a s fun k s=>match k with
 | 0=>.stop "update top" a s
 | k+1=>match s with
  | ⟨objs,bgs,gk,m,i,orc,log,eqs,obl⟩=>match at? objs k with
   | some p=>match p with | (b,o)=>match (f o).isFreed with
    | true=>.stop "freed" a s
    | false=>K ⟨Zi6 f objs k,bgs,gk,m,i,orc,log,(.a a,.a b)::eqs,obl⟩
   | none=>.stop "known" a s
noncomputable def Zg6 (C:Cfg) (o:Obj) (s:ES) (K:Addr->ES->Out α):Out α:=match s with
 | ⟨objs,bgs,gk,m,i,orc,log,eqs,obl⟩=>match o.isFreed with
  | true=>.stop "freed" 0 s
  | false=>K (C.n+m) ⟨(C.n+m,o)   :: objs,bgs,gk,m+1,i,orc,log,eqs,obl⟩
noncomputable def Zkx (C:Cfg) (s:ES) (K:Tok->ES->Out α):Out α:=match s with
 | ⟨objs,bgs,gk,m,i,orc,log,eqs,obl⟩=>K (C.t+i) ⟨objs,bgs,gk,m,i+1,orc,log,eqs,obl⟩
noncomputable def Mv (C:Cfg) (Zk:Code->ES->Out Flow):Sem α->ES->Out α
 | .pure a=>fun s=>.ok a s
 | .raise e=>fun s=>.err e s
 | .rule _ k=>Mv C Zk (k ())
 | .at _ k=>Mv C Zk (k ())
 | .point _ k=>Mv C Zk (k ())
 | .ask k=>Mv C Zk (k C.set)
 | .load a _ k=>fun s=>Zgz C a s fun o s=>Mv C Zk (k o) s
 | .update a _ f k=>fun s=>Zmr C a f s fun s=>Mv C Zk (k ()) s
 | .alloc o k=>fun s=>Zg6 C o s fun a s=>Mv C Zk (k a) s
 | .fresh k=>fun s=>Zkx C s fun t s=>Mv C Zk (k t) s
 | .handled own k=>fun s=>match own with
  | false=>Mv C Zk (k none) s
  | true=>.stop "handled" 0 s
 | .call c hd _ _ k=>fun s=>match hd with
  | none=>(Zk c s).bind (fun f s=>Mv C Zk (k (.ok f)) s) (fun e s=>Mv C Zk (k (.error e)) s)
  | some _=>.stop "call: handling" 0 s
 | .stack k=>fun s=>match C.native with
  | true=>Mv C Zk (k []) s
  | false=>.look fun L=>Mv C Zk (k L.st) s
 | .unsupported w=>fun s=>.stop w 1 s
 | _=>fun s=>.stop "node" 0 s
noncomputable def Uq (o:Obj):Option FuncData:=match o with
 | ⟨_,_,.func fd,_⟩=>match fd.scope.isGenerator with
  | true=>none
  | false=>match fd.scope.isCoroutine with
   | true=>none
   | false=>some fd
 | _=>none
noncomputable def J0 (fd:FuncData) (qq:Env):Code:=match fd.body with
 | .stmts b=>.func b qq
 | .expr e=>.expr e qq
noncomputable def Z89 (C:Cfg) (c:Code) (f:Flow) (s:ES):Out Flow:=match c with
 | .builtin _ _=>match f with
  | .ret v=>match v with
   | .bool b=>Yal C (match C.sym c with | 0=>0 | _=>match b with | false=>1 | true=>2) s fun k s=>match k with
    | 0=>.ok (.ret (.bool b)) s
    | k+1=>match k with
     | 0=>.ok (.ret (.bool false)) (owe (b=false) s)
     | _=>.ok (.ret (.bool true)) (owe (b=true) s)
   | _=>.ok f s
  | _=>.ok f s
 | _=>.ok f s
noncomputable def Zr0 (C:Cfg) (Zk:Code->ES->Out Flow) (c:Code) (qA:Fin) (s:ES):Out Flow:=match qA with
 | .done f=>Z89 C c f s
 | .again c'=>match c'.quiet with
  | true=>Zk c' s
  | false=>.stop "quiet" 0 s
noncomputable def Pf (C:Cfg) (Zk agF:Option (List Env)->Code->ES->Out Flow) (fs:Option (List Env)) (c:Code) (s:ES):Out Flow :=
 (Mv C (Zk (pushEnvs c.envs fs)) (C.den c) s).bind (Zr0 C (agF fs) c) .err
noncomputable def Zlz (C:Cfg) (Zk agF:Option (List Env)->Code->ES->Out Flow) (fs:Option (List Env)) (a:Addr) (args:Args) (s:ES):Out Flow:=Zgz C a s fun o s'=>match Uq o with
 | some fd=>(Mv C (Zk fs) (C.prep a fd args) s').bind (fun qq s=>Pf C Zk agF fs (J0 fd qq) s) .err
 | none=>Pf C Zk agF fs (.call (.ref a) args) s'
noncomputable def Zgh (C:Cfg) (Zk agF:Option (List Env)->Code->ES->Out Flow) (fs:Option (List Env)) (c:Code) (s:ES):Out Flow:=match c with
 | .call f args=>match f with
  | .ref a=>Zlz C Zk agF fs a args s
  | _=>Pf C Zk agF fs c s
 | _=>Pf C Zk agF fs c s
noncomputable def Zda (C:Cfg) (k:Nat) (B:Option (List Env)->Code->ES->Out Flow) (fs:Option (List Env)) (c:Code) (s:ES):Out Flow:=match C.ans fs k c s with
 | .take o=>o
 | .skip s=>B fs c s
noncomputable def Zfx (_:Option (List Env)) (_:Code) (s:ES):Out Flow:=.stop "fuel" 0 s
noncomputable def Zml (C:Cfg) (n:Nat) (B:Option (List Env)->Code->ES->Out Flow):Option (List Env)->Code->ES->Out Flow:=match n with
 | 0=>Zfx
 | k+1=>Zda C k B
noncomputable def Z5g (C:Cfg):Nat->Option (List Env)->Code->ES->Out Flow
 | 0=>Zfx
 | n+1=>Zgh C (Zml C n (Z5g C n)) (Zda C n (Z5g C n))
noncomputable def Zrz (C:Cfg) (n:Nat):Option (List Env)->Code->ES->Out Flow:=Zml C n (Z5g C n)
noncomputable def Jn (self:Addr) (fd:FuncData) (args:Args):Sem Env:=do
 let compiled ← match fd.code with
  | .none=>pure fd.qualname
  | c=>do match ← field c 1 with
   | .str q _=>pure q
   | _=>pure fd.qualname
 newFunctionEnv fd.scope fd.globals fd.closure (← bindArgs fd args) (compiled ++ ".<locals>.") (some self) fd.code none fd.builtins
theorem Uu (a:Addr) (fd:FuncData) (args:Args) (h1:fd.scope.isGenerator=false) (h2:fd.scope.isCoroutine=false) :
  callFunction a fd args=Jn a fd args>>=fun qq=>enterFrame>>=fun _=>again (J0 fd qq):=by
 unfold callFunction Jn J0
 simp only [h1,h2]
 generalize fd.code=cd
 cases cd with
 | none=>exact (bind_assoc (m:=Sem) (bindArgs fd args) _ _).symm
 | _ =>
  dsimp only
  rw [bind_assoc]
  refine Yr _ (funext fun x=>?_)
  cases x<;>exact (bind_assoc (m:=Sem) (bindArgs fd args) _ _).symm
noncomputable def Zq (may:Bool) (g g':LK):Prop:=(may=false->g'=g)/\(PyProof.Rows.AllBare g->PyProof.Rows.AllBare g')
theorem Zq.refl (b:Bool) (g:LK):Zq b g g:=⟨fun _=>rfl,id⟩
theorem Zq.trans {c d:Bool} {g'':LK} (x:Zq b g g') (y:Zq c g' g'') (h:d=false->b=false/\c=false):Zq d g g'' :=
 ⟨fun e=>(y.1 (h e).2).trans (x.1 (h e).1),fun z=>y.2 (x.2 z)⟩
theorem gtr {c:Bool} {g'':LK} (x:Zq b g g') (y:Zq c g' g''):Zq true g g'':=x.trans y fun e=>Bool.noConfusion e
theorem Zq.may (x:Zq b g g'):Zq true g g':=⟨fun e=>Bool.noConfusion e,x.2⟩
structure Clk where
 tok:Nat
 gens:LK
structure Zba where
 heap:Heap
 gens:LK
noncomputable def Zba.get? (B:Zba) (a:Addr):Option Obj:=B.heap.get? a
noncomputable def Zba.NoLimit (B:Zba):Prop:=B.heap.NoLimit
noncomputable def Clk.up (t:Clk) (k:Nat):Clk:=⟨t.tok+k,t.gens⟩
noncomputable def ES.all (st:ES):LC:=st.objs++Zt st.bags
structure Rep (C:Cfg) (H:Zba) (st:ES) (h:Heap) (t:Clk):Prop where
 size:h.objs.size=C.n+st.m
 toks:t.tok=C.t+st.i
 own:∀ p∈st.all,h.get? p.1=some p.2
 nodup:(st.all.map (·.1)).Nodup
 keep:∀ b o,H.get? b=some o->h.get? b=some o
 apart:∀ p∈st.all,H.get? p.1=none
 gens:Zq (!st.gk) H.gens t.gens
theorem Ng {st:ES} {p:Addr×Obj} (h:p∈st.objs):p∈st.all:=N8 _ h
noncomputable def Jv (st:ES):Prop:=(∀ e∈st.eqs,e.1=e.2)/\∀ p∈st.obl,p
structure Zb3 where
 d:Drawn
 os:OsState
noncomputable abbrev Zb3.at (r:Zb3) (h:Heap) (t:Clk):Shared:=⟨h,t.gens,r.d,t.tok,r.os⟩
noncomputable def Uh {α:Type} (C:Cfg) (H:Zba) (r:Zb3) (out:Out α) (Q:α->Shared->Prop) (E:LF):Prop:=match out with
 | .ok a st=>Jv st/\∀ h t,Rep C H st h t->Q a (r.at h t)
 | .err e st=>Jv st/\∀ h t,Rep C H st h t->E e (r.at h t)
 | .stop _ _ _=>False
 | .more k=>∀ x,Uh C H r (k x) Q E
 | .look k=>∀ L,Uh C H r (k L) Q E
theorem Vw {β:Type} {C:Cfg} {H:Zba} {f:α->ES->Out β} {g:Value->ES->Out β} {Q:β->Shared->Prop} {Q':α->Shared->Prop} {E':LF}
  (hf:∀ a st,Uh C H r (f a st) Q E->Jv st/\∀ h t,Rep C H st h t->Q' a (r.at h t)) (hg:∀ e st,Uh C H r (g e st) Q E->Jv st/\∀ h t,Rep C H st h t->E' e (r.at h t)) :
  ∀ o:Out α,Uh C H r (o.bind f g) Q E->Uh C H r o Q' E'
 | .ok a st=>hf a st
 | .err e st=>hg e st
 | .stop _ _ _=>id
 | .more k=>fun P x=>Vw hf hg (k x) (P x)
 | .look k=>fun P x=>Vw hf hg (k x) (P x)
structure AOk (A:Around) (fs:Option (List Env)) (n:Nat):Prop where
 hand:A.handled=none
 deep:A.depth+5 * n < recursionLimit
 units:A.units+10 * n < cLine
 frames:∀ l,fs=some l->A.frames=some l
theorem Zj9 {fs:Option (List Env)} {st:List (Code×Pos)} (l:Lies A st) (hA:AOk A fs n):Zme st:=by
 have hd:A.depth < recursionLimit:=Zd8 (Zdr _ _) hA.deep
 exact ⟨l.room (Zd8 (Zdr _ _) hA.units),l.near' hd,l.over hd,l.warm hd⟩
theorem Zis:Zme []:=by
 refine ⟨?_,?_,?_,?_⟩
 ·rw [oRoom.2]; decide
 ·intro own; rw [oNear.2]; show nearTheLimitUnderAClaim [] _ _=false; rw [near_is]; simp
 ·intro own; rw [oOver.2]; simp [recursionLimit]
 ·intro own; rw [oWarm.2]; simp [recursionLimit]
noncomputable def Z39:Looks:=⟨[],Zis⟩
theorem Zx2 {Q:α->Shared->Prop} {k:List (Code×Pos)->Sem α} (h:∀ st,Lies A st->wpAny (model prog w) A (k st) Q E s):wpAny (model prog w) A (.stack k) Q E s :=
 fun Γ p hΓ=>h _ (lies_of (p:=p) hΓ) Γ p hΓ
structure Mu (C:Cfg) (prog:Program) (w:World) (H:Zba) (r:Zb3):Prop where
 real:C.native=false
 den:C.den=denote table
 prep:C.prep=Jn
 set:C.set=⟨prog,w.params⟩
 top:∀ a o,C.top a=some o->H.get? a=some o
 nolimit:H.NoLimit
 ans:∀ fs n c st,match C.ans fs n c st with
  | .skip st'=>st'.objs=st.objs/\st'.m=st.m/\st'.i=st.i/\st'.eqs=st.eqs/\st'.obl=st.obl/\st'.bags=st.bags/\st'.gk=st.gk
  | .take out=>∀ R:Result->Shared->Prop,Uh C H r out (fun f=>R (.ok f)) (fun e=>R (.error e)) ->
   Jv st/\∀ A h t,AOk A fs (n+1)->Rep C H st h t->codeAny (model prog w) A c R (r.at h t)
theorem at?_mem:∀ {l:List α} {k:Nat} {p:α},at? l k=some p->p∈l
 | [],_,_,e=>by cases e
 | q::r,0,p,e=>by cases e; exact .head _
 | q::r,k+1,p,e=>.tail _ (at?_mem (l:=r) (k:=k) e)
theorem Ze5 (f:Obj->Obj):∀ (l:LC) (k:Nat),(Zi6 f l k).map (·.1)=l.map (·.1)
 | [],_=>rfl
 | (a,o)::r,0=>rfl
 | q::r,k+1=>Yr (q.1::·) (Ze5 f r k)
theorem Zel (f:Obj->Obj):∀ {l:LC} {k:Nat} {b:Addr} {o:Obj},at? l k=some (b,o)->(l.map (·.1)).Nodup->∀ p∈Zi6 f l k,p=(b,f o)∨(p∈l/\p.1≠b)
 | [],_,_,_,e,_,_,_=>by cases e
 | (a,ob)::r,0,b,o,e,hn,p,hp=>by
  cases e
  rcases X6.mp hp with rfl | hp
  ·exact .inl rfl
  ·refine .inr ⟨.tail _ hp,fun q=>?_⟩
   rw [Zcq,Zek] at hn
   exact hn.1 (Uo.mpr ⟨p,hp,q⟩)
 | q::r,k+1,b,o,e,hn,p,hp=>by
  rw [Zcq,Zek] at hn
  rcases X6.mp hp with rfl | hp
  ·refine .inr ⟨.head _,fun z=>hn.1 ?_⟩
   rw [z]
   exact Zdq (at?_mem (l:=r) (k:=k) e)
  ·rcases Zel f (l:=r) (k:=k) e hn.2 p hp with h | h
   ·exact .inl h
   ·exact .inr ⟨.tail _ h.1,h.2⟩
section
variable {C:Cfg} {H:Zba} {Q:α->Shared->Prop}
theorem Zds {a:Addr} {st:ES} {K:Nat->ES->Out α} (P:Uh C H r (Z5h C a st K) Q E) :
  ∃ k st',Uh C H r (K k st') Q E/\st'.objs=st.objs/\st'.m=st.m/\st'.i=st.i/\st'.eqs=st.eqs/\st'.obl=st.obl/\st'.bags=st.bags/\st'.gk=st.gk:=by
 obtain ⟨objs,bgs,gk,m,i,orc,log,eqs,obl⟩:=st
 unfold Z5h at P
 dsimp only at P
 split at P
 ·exact ⟨_,_,P,rfl,rfl,rfl,rfl,rfl,rfl,rfl⟩
 ·cases orc with
  | nil=>exact P.elim
  | cons k orc=>exact ⟨_,_,P,rfl,rfl,rfl,rfl,rfl,rfl,rfl⟩
theorem Zlt {st:ES} {K:Nat->ES->Out α} (P:Uh C H r (Yal C own st K) Q E) :
  ∃ k st',Uh C H r (K k st') Q E/\st'.objs=st.objs/\st'.m=st.m/\st'.i=st.i/\st'.eqs=st.eqs/\st'.obl=st.obl/\st'.bags=st.bags/\st'.gk=st.gk:=by
 obtain ⟨objs,bgs,gk,m,i,orc,log,eqs,obl⟩:=st
 unfold Yal at P
 dsimp only at P
 split at P
 ·exact ⟨_,_,P,rfl,rfl,rfl,rfl,rfl,rfl,rfl⟩
 ·cases orc with
  | nil=>exact P.elim
  | cons k orc=>exact ⟨_,_,P,rfl,rfl,rfl,rfl,rfl,rfl,rfl⟩
theorem G7 {st st':ES} (e:st'.objs=st.objs/\st'.m=st.m/\st'.i=st.i/\st'.eqs=st.eqs/\st'.obl=st.obl/\st'.bags=st.bags/\st'.gk=st.gk) (x:Jv st'):Jv st:=by
 obtain ⟨objs,bgs,gk,m,i,orc,log,eqs,obl⟩:=st'
 obtain ⟨e1,e2,e3,e4,e5,e6,e7⟩:=e
 dsimp only at e1 e2 e3 e4 e5 e6 e7
 subst e1 e2 e3 e4 e5 e6 e7
 exact x
theorem Nt {st st':ES} {t:Clk} (e:st'.objs=st.objs/\st'.m=st.m/\st'.i=st.i/\st'.eqs=st.eqs/\st'.obl=st.obl/\st'.bags=st.bags/\st'.gk=st.gk) (x:Rep C H st h t):Rep C H st' h t:=by
 obtain ⟨objs,bgs,gk,m,i,orc,log,eqs,obl⟩:=st'
 obtain ⟨e1,e2,e3,e4,e5,e6,e7⟩:=e
 dsimp only at e1 e2 e3 e4 e5 e6 e7
 subst e1 e2 e3 e4 e5 e6 e7
 exact ⟨x.size,x.toks,x.own,x.nodup,x.keep,x.apart,x.gens⟩
theorem Zr1 {p:Prop} {st:ES} (x:Jv (owe p st)):p/\Jv st:=⟨x.2 p (.head _),x.1,fun q hq=>x.2 q (.tail _ hq)⟩
theorem Zkq {p:Prop} {st:ES} {t:Clk} (x:Rep C H st h t):Rep C H (owe p st) h t:=⟨x.size,x.toks,x.own,x.nodup,x.keep,x.apart,x.gens⟩
theorem Zmk {c:Code} {f:Flow} {st:ES} {Q:Flow->Shared->Prop} (P:Uh C H r (Z89 C c f st) Q E):Uh C H r (.ok f st) Q E:=by
 unfold Z89 at P
 split at P
 ·split at P
  ·split at P
   ·rename_i b
    obtain ⟨k,st',P,e⟩:=Zlt P
    cases k with
    | zero=>exact ⟨G7 e P.1,fun h t D=>P.2 h t (Nt e D)⟩
    | succ k =>
     cases k with
     | zero =>
      obtain ⟨p,x⟩:=Zr1 P.1
      subst p
      exact ⟨G7 e x,fun h t D=>P.2 h t (Zkq (Nt e D))⟩
     | succ k =>
      obtain ⟨p,x⟩:=Zr1 P.1
      subst p
      exact ⟨G7 e x,fun h t D=>P.2 h t (Zkq (Nt e D))⟩
   ·exact P
  ·exact P
 ·exact P
theorem Zao (ok:Mu C prog w H r) {a:Addr} {st:ES} {K:Obj->ES->Out α} (P:Uh C H r (Zgz C a st K) Q E) :
  ∃ o st',Uh C H r (K o st') Q E/\(Jv st'->Jv st/\∀ h t,Rep C H st h t->h.get? a=some o/\Rep C H st' h t):=by
 obtain ⟨k,st1,P,e1,e2,e3,e4,e5,e6,e7⟩:=Zds P
 obtain ⟨objs,bgs,gk,m,i,orc,log,eqs,obl⟩:=st1
 subst e1 e2 e3 e4 e5 e6 e7
 cases k with
 | zero =>
  dsimp only at P
  split at P
  ·rename_i o ho
   exact ⟨o,_,P,fun x=>⟨x,fun h t D=>⟨D.keep _ _ (ok.top _ _ ho),⟨D.size,D.toks,D.own,D.nodup,D.keep,D.apart,D.gens⟩⟩⟩⟩
  ·exact P.elim
 | succ k =>
  dsimp only at P
  split at P
  ·rename_i p hp
   obtain ⟨b,o⟩:=p
   refine ⟨o,_,P,fun x=>?_⟩
   have hab:a=b:=by have:=x.1 (.a a,.a b) (.head _); injection this
   refine ⟨⟨fun e he=>x.1 e (.tail _ he),x.2⟩,fun h t D=>⟨?_,⟨D.size,D.toks,D.own,D.nodup,D.keep,D.apart,D.gens⟩⟩⟩
   rw [hab]; exact D.own _ (Ng (at?_mem hp))
  ·exact P.elim
theorem Zgk (ok:Mu C prog w H r) {a:Addr} {f:Obj->Obj} {st:ES} {K:ES->Out α} (P:Uh C H r (Zmr C a f st K) Q E) :
  ∃ st',Uh C H r (K st') Q E/\(Jv st'->Jv st/\∀ h t,Rep C H st h t->(∃ o,h.get? a=some o)/\Rep C H st' (h.update a f) t):=by
 obtain ⟨k,st1,P,e1,e2,e3,e4,e5,e6,e7⟩:=Zds P
 obtain ⟨objs,bgs,gk,m,i,orc,log,eqs,obl⟩:=st1
 subst e1 e2 e3 e4 e5 e6 e7
 cases k with
 | zero=>exact P.elim
 | succ k =>
  dsimp only at P
  split at P
  ·rename_i p hp
   obtain ⟨b,o⟩:=p
   dsimp only at P
   split at P
   ·exact P.elim
   ·rename_i hf
    refine ⟨_,P,fun x=>?_⟩
    have hab:a=b:=by have:=x.1 (.a a,.a b) (.head _); injection this
    refine ⟨⟨fun e he=>x.1 e (.tail _ he),x.2⟩,fun h t D=>?_⟩
    subst hab
    have hin:(a,o)∈st.all:=Ng (at?_mem hp)
    have ho:=D.own _ hin
    have hs:Heap.SameBut a h (h.update a f):=Zhz ..
    have nd:((st.objs.map (·.1))++((Zt st.bags).map (·.1))).Nodup:=by rw [← J3]; exact D.nodup
    have key:∀ p∈Zi6 f st.objs k++Zt st.bags,p=(a,f o)∨(p∈st.all/\p.1≠a):=fun p hp'=>by
     rcases Zhu.mp hp' with hp' | hp'
     ·rcases Zel f hp (List.nodup_append.mp nd).1 p hp' with h1 | ⟨h1,h2⟩
      ·exact .inl h1
      ·exact .inr ⟨Ng h1,h2⟩
     ·refine .inr ⟨N7 _ hp',fun z=>?_⟩
      exact (List.nodup_append.mp nd).2.2 _ (Zdq (at?_mem hp)) _ (Zdq hp') z.symm
    refine ⟨⟨o,ho⟩,⟨hs.1.trans D.size,D.toks,fun p hp'=>?_,?_,fun b ob e=>?_,fun p hp'=>?_,D.gens⟩⟩
    ·rcases key p hp' with rfl | ⟨h1,h2⟩
     ·exact Heap.get?_update_self f ho hf
     ·exact (hs.2 _ h2).trans (D.own p h1)
    ·show ((Zi6 f st.objs k++Zt st.bags).map (·.1)).Nodup
     rw [J3,Ze5]; exact nd
    ·refine (hs.2 b fun q=>?_).trans (D.keep b ob e)
     subst q
     have:=D.apart _ hin
     rw [this] at e; cases e
    ·rcases key p hp' with rfl | ⟨h1,h2⟩
     ·exact D.apart (a,o) hin
     ·exact D.apart p h1
  ·exact P.elim
theorem Zf9 {o:Obj} {st:ES} {K:Addr->ES->Out α} (P:Uh C H r (Zg6 C o st K) Q E) :
  ∃ st',Uh C H r (K (C.n+st.m) st') Q E/\(Jv st'->Jv st)/\∀ h t,Rep C H st h t->h.objs.size=C.n+st.m/\Rep C H st' (h.push o) t:=by
 obtain ⟨objs,bgs,gk,m,i,orc,log,eqs,obl⟩:=st
 unfold Zg6 at P
 dsimp only at P
 split at P
 ·exact P.elim
 ·rename_i hf
  refine ⟨_,P,id,fun h t D=>⟨D.size,?_⟩⟩
  have hz:h.objs.size=C.n+m:=D.size
  have fresh:∀ b ob,h.get? b=some ob->b≠C.n+m:=fun b ob e q=>by
   have:=Zns e
   rw [hz,q] at this
   exact Nat.lt_irrefl _ this
  refine ⟨?_,D.toks,fun p hp=>?_,?_,fun b ob e=>Zyb _ (D.keep b ob e),fun p hp=>?_,D.gens⟩
  ·show (h.push o).objs.size=C.n+(m+1)
   rw [Ziu,hz]; rfl
  ·rcases X6.mp hp with rfl | hp
   ·show (h.push o).get? (C.n+m)=some o
    rw [← hz]; exact Z42 _ hf
   ·exact Zyb _ (D.own p hp)
  ·show ((C.n+m)::(objs++Zt bgs).map (·.1)).Nodup
   refine Zek.mpr ⟨fun q=>?_,D.nodup⟩
   obtain ⟨p,hp,e⟩:=Uo.mp q
   exact fresh _ _ (D.own p hp) e
  ·rcases X6.mp hp with rfl | hp
   ·show H.get? (C.n+m)=none
    cases q:H.get? (C.n+m) with
    | none=>rfl
    | some ob=>exact absurd rfl (fresh _ _ (D.keep _ _ q))
   ·exact D.apart p hp
theorem Zgf {st:ES} {K:Tok->ES->Out α} (P:Uh C H r (Zkx C st K) Q E) :
  ∃ st',Uh C H r (K (C.t+st.i) st') Q E/\(Jv st'->Jv st)/\∀ h t,Rep C H st h t->t.tok=C.t+st.i/\Rep C H st' h (t.up 1):=by
 obtain ⟨objs,bgs,gk,m,i,orc,log,eqs,obl⟩:=st
 refine ⟨_,P,id,fun h t D=>⟨D.toks,⟨D.size,?_,D.own,D.nodup,D.keep,D.apart,D.gens⟩⟩⟩
 show t.tok+1=C.t+(i+1)
 have:=D.toks
 dsimp only at this
 lia
end
noncomputable def X8 (C:Cfg) (prog:Program) (w:World) (H:Zba) (r:Zb3) (fs:Option (List Env)) (n:Nat) (Zk:Code->ES->Out Flow):Prop :=
 ∀ c st (R:Result->Shared->Prop),Uh C H r (Zk c st) (fun f=>R (.ok f)) (fun e=>R (.error e)) ->
  Jv st/\∀ A h t,AOk A fs n->Rep C H st h t->codeAny (model prog w) A c R (r.at h t)
section
variable {C:Cfg} {H:Zba} {fs:Option (List Env)} {Zk:Code->ES->Out Flow}
theorem Zid (C:Cfg) (Zk:Code->ES->Out Flow) (k:List (Code×Pos)->Sem α) (st:ES):Mv C Zk (.stack k) st=(match C.native with | true=>Mv C Zk (k []) st | false=>.look fun L=>Mv C Zk (k L.st) st):=by kernel_rfl
theorem Xw (ok:Mu C prog w H r) (ih:X8 C prog w H r fs n Zk) (Q:α->Shared->Prop) (E:LF):∀ (t:Sem α) (st:ES),Uh C H r (Mv C Zk t st) Q E ->
  Jv st/\∀ A h tk,AOk A fs n->Rep C H st h tk->wpAny (model prog w) A t Q E (r.at h tk):=by
 intro t
 induction t with
 | pure a=>intro st P; exact ⟨P.1,fun A h tk _ D=>x_pure (P.2 h tk D)⟩
 | raise e=>intro st P; exact ⟨P.1,fun A h tk _ D=>x_raise (P.2 h tk D)⟩
 | rule _ k kih=>intro st P; obtain ⟨a,b⟩:=kih () st P; exact ⟨a,fun A h tk hA D=>x_rule (b A h tk hA D)⟩
 | «at» _ k kih=>intro st P; obtain ⟨a,b⟩:=kih () st P; exact ⟨a,fun A h tk hA D=>x_at (b A h tk hA D)⟩
 | point _ k kih=>intro st P; obtain ⟨a,b⟩:=kih () st P; exact ⟨a,fun A h tk hA D=>x_point (b A h tk hA D)⟩
 | ask k kih=>intro st P; obtain ⟨a,b⟩:=kih C.set st P; exact ⟨a,fun A h tk hA D=>x_ask (ok.set▸b A h tk hA D)⟩
 | load a q k kih =>
  intro st P
  obtain ⟨o,st',P,z⟩:=Zao ok (show Uh C H r (Zgz C a st fun o s=>Mv C Zk (k o) s) Q E from P)
  obtain ⟨x,y⟩:=kih o st' P
  obtain ⟨z1,z2⟩:=z x
  exact ⟨z1,fun A h tk hA D=>x_load (z2 h tk D).1 (y A h tk hA (z2 h tk D).2)⟩
 | update a q f k kih =>
  intro st P
  obtain ⟨st',P,z⟩:=Zgk ok (show Uh C H r (Zmr C a f st fun s=>Mv C Zk (k ()) s) Q E from P)
  obtain ⟨x,y⟩:=kih () st' P
  obtain ⟨z1,z2⟩:=z x
  exact ⟨z1,fun A h tk hA D=>by
   obtain ⟨⟨o,ho⟩,D'⟩:=z2 h tk D
   exact Zi (m:=updatePart a q f) (f:=k) (wpAny_updatePart ho (y A _ tk hA D'))⟩
 | alloc o k kih =>
  intro st P
  obtain ⟨st',P,z1,z2⟩:=Zf9 (show Uh C H r (Zg6 C o st fun a s=>Mv C Zk (k a) s) Q E from P)
  obtain ⟨x,y⟩:=kih _ st' P
  exact ⟨z1 x,fun A h tk hA D=>by
   obtain ⟨hz,D'⟩:=z2 h tk D
   refine Zi (m:=alloc o) (f:=k) (wpAny_alloc ?_)
   show wpAny _ _ (k h.objs.size) _ _ _
   rw [hz]
   exact y A _ tk hA D'⟩
 | fresh k kih =>
  intro st P
  obtain ⟨st',P,z1,z2⟩:=Zgf (show Uh C H r (Zkx C st fun a s=>Mv C Zk (k a) s) Q E from P)
  obtain ⟨x,y⟩:=kih _ st' P
  exact ⟨z1 x,fun A h tk hA D=>by
   obtain ⟨hz,D'⟩:=z2 h tk D
   refine x_fresh ?_
   show wpAny _ _ (k tk.tok) _ _ _
   rw [hz]
   exact y A _ _ hA D'⟩
 | handled own k kih =>
  intro st P
  cases own with
  | true=>exact P.elim
  | false =>
   obtain ⟨x,y⟩:=kih none st P
   exact ⟨x,fun A h tk hA D=>x_handled (by rw [hA.hand]; exact y A h tk hA D)⟩
 | call c hd g l k kih =>
  intro st P
  cases hd with
  | some _=>exact P.elim
  | none =>
   have Z:=Vw (Q':=fun f' sh=>∀ A,AOk A fs n->wpAny (model prog w) A (k (.ok f')) Q E sh) (E':=fun e' sh=>∀ A,AOk A fs n->wpAny (model prog w) A (k (.error e')) Q E sh)
    (fun f st' P=>let z:=kih (.ok f) st' P; ⟨z.1,fun h t D A hA=>z.2 A h t hA D⟩) (fun e st' P=>let z:=kih (.error e) st' P; ⟨z.1,fun h t D A hA=>z.2 A h t hA D⟩) _ P
   obtain ⟨u,v⟩:=ih c st (fun res sh=>∀ A,AOk A fs n->wpAny (model prog w) A (k res) Q E sh) Z
   exact ⟨u,fun A h tk hA D=>x_call (codeAny_mono (v A h tk hA D) fun res sh q=>q A hA) (by intro x; cases x)⟩
 | stack k kih =>
  intro st P
  have e:Mv C Zk (.stack k) st=.look fun L=>Mv C Zk (k L.st) st:=by
   rw [Zid,ok.real]
  rw [e] at P
  exact ⟨(kih [] st (P Z39)).1,fun A h tk hA D=>Zx2 fun st' hl=>(kih st' st (P ⟨st',Zj9 hl hA⟩)).2 A h tk hA D⟩
 | unsupported=>intro st P; exact P.elim
 | finish=>intro st P; exact P.elim
 | loadIfAlive=>intro st P; exact P.elim
 | register=>intro st P; exact P.elim
 | choose=>intro st P; exact P.elim
 | os=>intro st P; exact P.elim
 | newGen=>intro st P; exact P.elim
 | genState=>intro st P; exact P.elim
 | resume=>intro st P; exact P.elim
 | yield=>intro st P; exact P.elim
 | fork=>intro st P; exact P.elim
 | thread=>intro st P; exact P.elim
 | await=>intro st P; exact P.elim
theorem dle {p:Prop} [Decidable p] {a:p->Nat} {b:¬ p->Nat} (h1:∀ h,a h<=n) (h2:∀ h,b h<=n):dite p a b<=n:=by
 by_cases h:p
 ·rw [dif_pos h]; exact h1 h
 ·rw [dif_neg h]; exact h2 h
theorem Ybb (x:Bool):(if x=true then 1 else 0)<=3:=by revert x; decide
theorem Zd3 (c:Code):c.frames<=3:=by
 cases c with
 | builtin id args =>
  delta Code.frames Code.frames.match_1 Code.frames._sparseCasesOn_1
  dsimp only
  iterate 9 (refine dle (fun h=>by cases h; decide) fun _=>?_)
  exact Ybb _
 | _=>first | exact Nat.le_of_ble_eq_true rfl | exact Ybb (Code.isFrame _)
theorem Zr {c:Code} (h:c.isCaller=false):c.weight<=5:=by
 have:=Zd3 c
 unfold Code.weight
 rw [h]
 split<;>split<;>simp<;>lia
theorem Zkd:entryFor table "claim.caller" = none:=by
 have h:entryFor treeTable "claim.caller" = none:=by kernel_rfl
 rw [← table_eq_tree] at h; exact h
theorem Zf5 {c:Code} (h:c.isCaller=true):∃ args,c=.builtin "claim.caller" args:=by
 unfold Code.isCaller at h
 split at h
 ·exact ⟨_,rfl⟩
 ·cases h
theorem Zmj (c:Code):c.cUnits<=10:=by
 have:=Zd3 c
 cases c with
 | builtin id args=>show 1+3 * Code.frames _<=10; lia
 | call f args=>show 1<=10; decide
 | _=>show 3 * Code.frames _<=10; lia
theorem AOk.under {fs:Option (List Env)} {c:Code} (hA:AOk A fs (n+1)) (hw:c.weight<=5):AOk (A.under c) (pushEnvs c.envs fs) n:=by
 refine ⟨hA.hand,?_,?_,fun l e=>?_⟩
 ·have:=hA.deep
  show A.depth+c.weight+5 * n < recursionLimit
  lia
 ·have:=hA.units
  have:=Zmj c
  show A.units+c.cUnits+10 * n < cLine
  lia
 ·obtain ⟨l₀,e₀,rfl⟩:=pushEnvs_some e
  show pushEnvs c.envs A.frames=_
  rw [pushEnvs_eq,hA.frames _ e₀]; rfl
theorem AOk.down {fs:Option (List Env)} (hA:AOk A fs (n+1)):AOk A fs n:=⟨hA.hand,by have:=hA.deep; lia,by have:=hA.units; lia,hA.frames⟩
theorem AOk.le {fs:Option (List Env)} {m:Nat} (hA:AOk A fs n) (h:m<=n):AOk A fs m:=⟨hA.hand,by have:=hA.deep; lia,by have:=hA.units; lia,hA.frames⟩
theorem AOk.room {fs:Option (List Env)} (hA:AOk A fs n):A.depth < recursionLimit:=by have:=hA.deep; lia
theorem Jq {Zk agF:Option (List Env)->Code->ES->Out Flow} (ok:Mu C prog w H r) (ih:∀ fs,X8 C prog w H r fs n (Zk fs)) (ihA:∀ fs,X8 C prog w H r fs (n+1) (agF fs)) (fs:Option (List Env)) (c:Code) (st:ES) (R:Result->Shared->Prop) (P:Uh C H r (Pf C Zk agF fs c st) (fun f=>R (.ok f)) (fun e=>R (.error e))) :
  Jv st/\∀ A h t,AOk A fs (n+1)->Rep C H st h t->codeAny (model prog w) A c R (r.at h t):=by
 cases hc:c.isCaller with
 | true =>
  obtain ⟨args,rfl⟩:=Zf5 hc
  exfalso
  unfold Pf at P
  rw [ok.den] at P
  have e:denote table (.builtin "claim.caller" args)=(match entryFor table "claim.caller" with | some b=>b args | none=>unsupported ((withoutEnding? "claim.caller" "#data").getD "claim.caller")):=by kernel_rfl
  rw [e,Zkd] at P
  exact P
 | false =>
  let Q:Fin->Shared->Prop:=fun qA s'=>match qA with
   | .done f=>R (.ok f) s'
   | .again c'=>c'.quiet=true/\∀ A,AOk A fs (n+1)->codeAny (model prog w) A c' R s'
  have key:Uh C H r (Mv C (Zk (pushEnvs c.envs fs)) (C.den c) st) Q (fun e=>R (.error e)):=by
   refine Vw (g:=Out.err) (E:=fun e=>R (.error e)) (E':=fun e=>R (.error e)) (fun qA s P=>?_) (fun e s P=>P) _ P
   cases qA with
   | done f=>exact Zmk P
   | again c' =>
    unfold Zr0 at P
    dsimp only at P
    split at P
    ·rename_i hq
     obtain ⟨x,y⟩:=ihA fs c' s R P
     exact ⟨x,fun h t D=>⟨hq,fun A hA=>y A h t hA D⟩⟩
    ·exact P.elim
  obtain ⟨x,y⟩:=Xw ok (ih _) Q _ _ _ key
  refine ⟨x,fun A h t hA D=>x_code ?_⟩
  refine Jy (ok.den▸y (A.under c) h t (hA.under (Zr hc)) D) (fun qA s' q=>?_) fun _ _ q=>q
  cases qA with
  | done f=>exact q
  | again c'=>exact ⟨q.1,q.2 A hA⟩
theorem Yc {o:Obj} {fd:FuncData} (h:Uq o=some fd):o.data=.func fd/\fd.scope.isGenerator=false/\fd.scope.isCoroutine=false:=by
 obtain ⟨c,s,d,k⟩:=o
 cases d with
 | func fd' =>
  change (match fd'.scope.isGenerator with | true=>none | false=>match fd'.scope.isCoroutine with | true=>none | false=>some fd')=some fd at h
  cases h1:fd'.scope.isGenerator with
  | true=>rw [h1] at h; cases h
  | false =>
   cases h2:fd'.scope.isCoroutine with
   | true=>rw [h1,h2] at h; cases h
   | false=>rw [h1,h2] at h; cases h; exact ⟨rfl,h1,h2⟩
 | _=>cases h
theorem Py (fd:FuncData) (qq:Env):(J0 fd qq).quiet=true:=by
 unfold J0
 split<;>rfl
theorem Zc4 {Zk agF:Option (List Env)->Code->ES->Out Flow} (ok:Mu C prog w H r) (ih:∀ fs,X8 C prog w H r fs n (Zk fs)) (ihA:∀ fs,X8 C prog w H r fs (n+1) (agF fs)) (fs:Option (List Env)) (a:Addr) (args:Args) (st:ES) (R:Result->Shared->Prop) (P:Uh C H r (Zlz C Zk agF fs a args st) (fun f=>R (.ok f)) (fun e=>R (.error e))) :
  Jv st/\∀ A h t,AOk A fs (n+1)->Rep C H st h t->codeAny (model prog w) A (.call (.ref a) args) R (r.at h t):=by
 obtain ⟨o,st',P,z⟩:=Zao ok P
 cases hd:Uq o with
 | none =>
  rw [hd] at P
  obtain ⟨x,y⟩:=Jq ok ih ihA _ _ _ _ P
  obtain ⟨z1,z2⟩:=z x
  exact ⟨z1,fun A h t hA D=>y A h t hA (z2 h t D).2⟩
 | some fd =>
  rw [hd] at P
  dsimp only at P
  obtain ⟨hdat,hg,hco⟩:=Yc hd
  have key:Uh C H r (Mv C (Zk fs) (C.prep a fd args) st') (fun qq s'=>s'.heap.NoLimit/\∀ A,AOk A fs (n+1)->codeAny (model prog w) A (J0 fd qq) R s') (fun e=>R (.error e)):=by
   refine Vw (g:=Out.err) (E:=fun e=>R (.error e)) (E':=fun e=>R (.error e)) (fun qq s P=>?_) (fun e s P=>P) _ P
   obtain ⟨x,y⟩:=Jq ok ih ihA _ _ _ _ P
   exact ⟨x,fun h t D=>⟨Heap.NoLimit.keeps (h:=H.heap) ok.nolimit D.keep,fun A hA=>y A h t hA D⟩⟩
  obtain ⟨x,y⟩:=Xw ok (ih fs) _ _ _ _ key
  obtain ⟨z1,z2⟩:=z x
  refine ⟨z1,fun A h t hA D=>x_code ?_⟩
  show wpAny (model prog w) (A.under (.call (.ref a) args)) (callAny (.ref a) args) _ _ _
  unfold callAny
  dsimp only
  refine Zi (Znz (z2 h t D).1 ?_)
  rw [hdat]
  dsimp only
  rw [Uu a fd args hg hco]
  have hw:(Code.call (.ref a) args).weight<=5:=Zr rfl
  refine Zi (Jy (ok.prep▸y _ h t ((hA.under hw:AOk _ fs _)) (z2 h t D).2) (fun qq s' q=>?_) fun _ _ q=>q)
  refine Zi (wpAny_enterFrame q.1 (hA.under hw).room ?_)
  exact Yo ⟨Py fd qq,q.2 A hA⟩
theorem Zdd {Zk agF:Option (List Env)->Code->ES->Out Flow} (ok:Mu C prog w H r) (ih:∀ fs,X8 C prog w H r fs n (Zk fs)) (ihA:∀ fs,X8 C prog w H r fs (n+1) (agF fs)) (fs:Option (List Env)) :
  X8 C prog w H r fs (n+1) (Zgh C Zk agF fs):=by
 intro c st R P
 unfold Zgh at P
 split at P
 ·split at P
  ·exact Zc4 ok ih ihA _ _ _ _ R P
  ·exact Jq ok ih ihA _ _ _ R P
 ·exact Jq ok ih ihA _ _ _ R P
theorem N6:X8 C prog w H r fs n (Zfx fs):=fun _ _ _ P=>P.elim
theorem Nw {B:Option (List Env)->Code->ES->Out Flow} (ok:Mu C prog w H r) (h:X8 C prog w H r fs (n+1) (B fs)):X8 C prog w H r fs (n+1) (Zda C n B fs):=by
 intro c st R P
 unfold Zda at P
 have hans:=ok.ans fs n c st
 split at P
 ·rename_i out e
  rw [e] at hans
  exact hans R P
 ·rename_i st' e
  rw [e] at hans
  obtain ⟨x,y⟩:=h c st' R P
  exact ⟨G7 hans x,fun A h t hA D=>y A h t hA (Nt hans D)⟩
theorem X8.up {Zk:Code->ES->Out Flow} (h:X8 C prog w H r fs n Zk):X8 C prog w H r fs (n+1) Zk:=fun c st R P=>let z:=h c st R P; ⟨z.1,fun A h t hA D=>z.2 A h t hA.down D⟩
theorem P1 {B:Option (List Env)->Code->ES->Out Flow} (ok:Mu C prog w H r) (h:X8 C prog w H r fs n (B fs)):X8 C prog w H r fs n (Zml C n B fs):=by
 cases n with
 | zero=>exact N6
 | succ n=>exact Nw ok h
theorem Pp (ok:Mu C prog w H r):∀ n fs,X8 C prog w H r fs n (Z5g C n fs)
 | 0,_=>N6
 | n+1,fs=>Zdd ok (fun fs=>P1 ok (Pp ok n fs)) (fun fs=>Nw ok (Pp ok n fs).up) fs
theorem Vz (ok:Mu C prog w H r) (n:Nat) (fs:Option (List Env)):X8 C prog w H r fs n (Zrz C n fs):=P1 ok (Pp ok n fs)
end
variable {r:Zb3}
section
open PySem PySem.W PySem.W.X PySem.Builtin PySem.Builtin.Str
noncomputable def Zff (native:Bool) (own:Nat) (s:ES) (K:Nat->ES->Gc):Gc:=match s with
 | ⟨objs,bgs,gk,m,i,orc,log,eqs,obl⟩=>match native with
  | true=>K own ⟨objs,bgs,gk,m,i,orc,own::log,eqs,obl⟩
  | false=>match orc with
   | k::orc=>K k ⟨objs,bgs,gk,m,i,orc,log,eqs,obl⟩
   | []=>.take (.stop "oracle" 0 ⟨objs,bgs,gk,m,i,orc,log,eqs,obl⟩)
noncomputable def Zae:List Str->Nat->Str
 | [],_=>⟨#[]⟩
 | x::r,k=>match k with
  | 0=>x
  | k+1=>Zae r k
noncomputable def Zgl (t:Nat) (r:Str) (p:Prop) (e:List (Vd×Vd)) (s:ES):Gc:=match s with
 | ⟨objs,bgs,gk,m,i,orc,log,eqs,obl⟩=>.take (.ok (.ret (.str r (t+i))) ⟨objs,bgs,gk,m,i+1,orc,log,e++eqs,p::obl⟩)
noncomputable def Zle (t:Nat) (r:Int) (p:Prop) (e:List (Vd×Vd)) (s:ES):Gc:=match s with
 | ⟨objs,bgs,gk,m,i,orc,log,eqs,obl⟩=>.take (.ok (.ret (.int r (t+i))) ⟨objs,bgs,gk,m,i+1,orc,log,e++eqs,p::obl⟩)
noncomputable def Xp (x y r:Str):Prop:=x++y=r/\r.length<=sizeLine
noncomputable def U3 (x:Str) (lo hi:Int) (r:Str):Prop :=
 ((strSliceIndices (some lo) (some hi) 1 x.length).length==x.length)=false/\(⟨((strSliceIndices (some lo) (some hi) 1 x.length).filterMap (x.cps[·]?)).toArray⟩:Str)=r/\r.length<=sizeLine
noncomputable def Zbs (x:Str) (lo hi:Int):Prop:=((strSliceIndices (some lo) (some hi) 1 x.length).length==x.length)=true
noncomputable def P6 (id:String) (kw:List (Str×Value)) (id':String):List (Vd×Vd):=[(.i id,.i id'),(.k kw,.k [])]
noncomputable def Pg (o:Obj) (lo hi:Int) (tl th:Tok):Vd×Vd:=(.o o,.o { o with cls:=.type "slice",data:=.fields #[.int lo tl,.int hi th,.none] })
noncomputable def Zq4 (x y r:Str) (id:String) (kw:List (Str×Value)) (s:ES):Gc:=match s with
 | ⟨objs,bgs,gk,m,i,orc,log,eqs,obl⟩=>.take (.more fun e=>.ok (.ret (.str r (e.nat 2))) ⟨objs,bgs,gk,m,i+e.nat 1,orc,log,P6 id kw "str.__add__" ++ eqs,Xp x y r::obl⟩)
noncomputable def ends (o:Obj):Option ((Int×Tok)×(Int×Tok)):=match o with
 | ⟨_,_,.fields vs,_⟩=>match vs.toList with
  | .int lo tl::.int hi th::_=>some ((lo,tl),(hi,th))
  | _=>none
 | _=>none
noncomputable def Zgn (t:Nat) (id:String) (kw:List (Str×Value)) (x:Str) (tx:Tok) (a:Addr) (sts:List Str) (k:Nat) (j:Nat) (s:ES):Gc:=match s with
 | ⟨objs,bgs,gk,m,i,orc,log,eqs,obl⟩=>match at? objs j with
  | some p=>match p with
   | (b,o)=>match ends o with
    | some q=>match q with
     | ((lo,tl),(hi,th))=>match k with
      | 0=>.take (.ok (.ret (.str x tx)) ⟨objs,bgs,gk,m,i,orc,log,(.a a,.a b)::Pg o lo hi tl th::(P6 id kw "str.__getitem__" ++ eqs),Zbs x lo hi::obl⟩)
      | k+1=>Zgl t (Zae sts k) (U3 x lo hi (Zae sts k)) ((.a a,.a b)::Pg o lo hi tl th::P6 id kw "str.__getitem__") ⟨objs,bgs,gk,m,i,orc,log,eqs,obl⟩
    | none=>.take (.stop "slice" 0 s)
  | none=>.take (.stop "slice" 1 s)
noncomputable def Y8 (id':String) (b:Bool) (p:Prop) (id:String) (kw:List (Str×Value)) (s:ES):Gc:=match s with
 | ⟨objs,bgs,gk,m,i,orc,log,eqs,obl⟩=>.take (.ok (.ret (.bool b)) ⟨objs,bgs,gk,m,i,orc,log,P6 id kw id'++eqs,p::obl⟩)
noncomputable def Vk (x y:Str):Bool:=x.cps.toList==y.cps.toList
noncomputable def Jl (x y:Str):Bool:=!(occurrences x y 0 x.length 1).isEmpty
noncomputable def Zr5 (sts:List Str) (id:String) (kw:List (Str×Value)) (x y:Str) (k:Nat) (s:ES):Gc:=match k with
 | 0=>.skip s
 | 1=>Y8 "str.__eq__" true (Vk x y=true) id kw s
 | 2=>Y8 "str.__eq__" false (Vk x y=false) id kw s
 | 3=>Y8 "str.__contains__" true (Jl x y=true) id kw s
 | 4=>Y8 "str.__contains__" false (Jl x y=false) id kw s
 | k+5=>Zq4 x y (Zae sts k) id kw s
noncomputable def Zq6 (t:Nat) (id:String) (kw:List (Str×Value)) (a b:Int) (k:Nat) (s:ES):Gc:=match k with
 | 1=>Y8 "int.__lt__" true (decide (a < b)=true) id kw s
 | 2=>Y8 "int.__lt__" false (decide (a < b)=false) id kw s
 | 3=>Y8 "int.__ge__" true (decide (a ≥ b)=true) id kw s
 | 4=>Y8 "int.__ge__" false (decide (a ≥ b)=false) id kw s
 | 5=>Y8 "int.__eq__" true ((a==b)=true) id kw s
 | 6=>Y8 "int.__eq__" false ((a==b)=false) id kw s
 | 7=>Y8 "int.__le__" true (decide (a<=b)=true) id kw s
 | 8=>Y8 "int.__le__" false (decide (a<=b)=false) id kw s
 | 9=>Y8 "int.__gt__" true (decide (a > b)=true) id kw s
 | 10=>Y8 "int.__gt__" false (decide (a > b)=false) id kw s
 | 11=>Zle t (a * b) (IntMulOk a b) (P6 id kw "int.__mul__") s
 | _=>.skip s
noncomputable def Zdg (x y z:Str) (ty tz:Tok) (r:Str):Prop:=((occurrences x y 0 x.length (x.length+1)).isEmpty||(y.length==0&&z.length==0))=false/\(ty==0||tz==0)=false/\(ty==tz)=false/\(y==z)=false /\
 tooLong (x.length+(occurrences x y 0 x.length (x.length+1)).length * z.length)=false/\glued z (partsBetween x (occurrences x y 0 x.length (x.length+1)) y.length)=r/\r.length<=sizeLine
noncomputable def Zf1 (t:Nat) (sts:List Str) (id:String) (kw:List (Str×Value)) (x y z:Str) (ty tz:Tok) (k:Nat) (s:ES):Gc:=match k with
 | 0=>.skip s
 | k+1=>Zgl t (Zae sts k) (Zdg x y z ty tz (Zae sts k)) (P6 id kw "str.replace") s
noncomputable def Zcm (native:Bool) (t:Nat) (own:Nat) (sts:List Str) (id:String) (kw:List (Str×Value)) (x:Str) (tx:Tok) (v:Value) (s:ES):Gc:=match v with
 | .str y ty=>Zff native own s fun k s=>match k with
  | 0=>.skip s
  | k+1=>Zr5 sts id kw x y (k+1) s
 | .ref a=>Zff native own s fun k s=>match k with
  | 0=>.skip s
  | k+1=>Zff native (match native with | true=>(match s with | ⟨objs,_,_,_,_,_,_,_,_⟩=>(Zkm a objs 0).getD 0) | false=>0) s fun j s=>Zgn t id kw x tx a sts k j s
 | _=>.skip s
noncomputable def Zq7 (t:Nat) (ide:String) (kw:List (Str×Value)) (x:Str) (s:ES):Gc:=match s with
 | ⟨objs,bgs,gk,m,i,orc,log,eqs,obl⟩=>.take (.ok (.ret (.int x.length (t+(i+1)))) ⟨objs,bgs,gk,m,i+2,orc,log,P6 ide kw "len" ++ eqs,(x.length < 2 ^ 63)::obl⟩)
noncomputable def Zf7 (native:Bool) (t:Nat) (sym:Code->Nat) (sts:List Str) (c:Code) (s:ES):Gc:=match c with
 | .builtin ide args=>match args with
  | ⟨pos,kw⟩=>match pos with
   | v1::r1=>match v1 with
    | .int a ta=>match r1 with
     | v2::r2=>match r2 with
      | []=>match v2 with
       | .int b tb=>Zff native (sym (.builtin ide ⟨[.int a ta,.int b tb],kw⟩)) s fun k s=>Zq6 t ide kw a b k s
       | _=>.skip s
      | _=>.skip s
     | []=>.skip s
    | .str x tx=>match r1 with
     | v2::r2=>match r2 with
      | []=>Zcm native t (sym (.builtin ide ⟨[.str x tx,v2],kw⟩)) sts ide kw x tx v2 s
      | v3::r3=>match v2 with
       | .str y ty=>match v3 with
        | .str z tz=>match r3 with
         | []=>Zff native (sym (.builtin ide ⟨[.str x tx,.str y ty,.str z tz],kw⟩)) s fun k s=>Zf1 t sts ide kw x y z ty tz k s
         | _=>.skip s
        | _=>.skip s
       | _=>.skip s
     | []=>Zff native (sym (.builtin ide ⟨[.str x tx],kw⟩)) s fun k s=>match k with
      | 0=>.skip s
      | _+1=>Zq7 t ide kw x s
    | _=>.skip s
   | []=>.skip s
 | _=>.skip s
section
variable {fs:Option (List Env)} {C:Cfg} {H:Zba}
noncomputable def Zz (fs:Option (List Env)) (n:Nat) (C:Cfg) (prog:Program) (w:World) (H:Zba) (r:Zb3) (c:Code) (st:ES) (x:Gc):Prop:=match x with
  | .skip st'=>st'.objs=st.objs/\st'.m=st.m/\st'.i=st.i/\st'.eqs=st.eqs/\st'.obl=st.obl/\st'.bags=st.bags/\st'.gk=st.gk
  | .take out=>∀ R:Result->Shared->Prop,Uh C H r out (fun f=>R (.ok f)) (fun e=>R (.error e)) ->
   Jv st/\∀ A h t,AOk A fs (n+1)->Rep C H st h t->codeAny (model prog w) A c R (r.at h t)
theorem Zz.same {c:Code} {st st':ES} {x:Gc} (e:st'.objs=st.objs/\st'.m=st.m/\st'.i=st.i/\st'.eqs=st.eqs/\st'.obl=st.obl/\st'.bags=st.bags/\st'.gk=st.gk) (h:Zz fs n C prog w H r c st' x):Zz fs n C prog w H r c st x:=by
 cases x with
 | skip s=>obtain ⟨a1,a2,a3,a4,a5,a6,a7⟩:=h; obtain ⟨b1,b2,b3,b4,b5,b6,b7⟩:=e; exact ⟨a1.trans b1,a2.trans b2,a3.trans b3,a4.trans b4,a5.trans b5,a6.trans b6,a7.trans b7⟩
 | take o=>exact fun R P=>⟨G7 e (h R P).1,fun A hp t hA D=>(h R P).2 A hp t hA (Nt e D)⟩
theorem Zz.skip {c:Code} {st:ES}:Zz fs n C prog w H r c st (.skip st):=⟨rfl,rfl,rfl,rfl,rfl,rfl,rfl⟩
theorem Zz.ask {c:Code} {st:ES} {K:Nat->ES->Gc} (h:∀ k st',Zz fs n C prog w H r c st' (K k st')):Zz fs n C prog w H r c st (Zff native own st K):=by
 obtain ⟨objs,bgs,gk,m,i,orc,log,eqs,obl⟩:=st
 unfold Zff
 cases native with
 | true=>exact Zz.same (st':=⟨objs,bgs,gk,m,i,orc,own::log,eqs,obl⟩) ⟨rfl,rfl,rfl,rfl,rfl,rfl,rfl⟩ (h _ _)
 | false =>
  cases orc with
  | nil=>exact fun R P=>P.elim
  | cons k orc=>exact Zz.same (st':=⟨objs,bgs,gk,m,i,orc,log,eqs,obl⟩) ⟨rfl,rfl,rfl,rfl,rfl,rfl,rfl⟩ (h _ _)
theorem Xk {id:String} {args:Args} {b:Builtin} {md:Made} (hb:entryFor table id=some b) (hp:plainId id=true) (g:Gives (b args) md) {R:Result->Shared->Prop}
  (h:md.post (fun v s'=>R (.ok (.ret v)) s') s):codeAny (model prog w) A (.builtin id args) R s:=by
 refine M3 hb ?_
 rw [Q0q hp]
 exact g.meets prog w A R s h
theorem Z4v {a b:String} (h:Vd.i a=Vd.i b):a=b:=by injection h
theorem Z4i {a b:List (Str×Value)} (h:Vd.k a=Vd.k b):a=b:=by injection h
theorem Zka {a b:Nat} (h:Vd.a a=Vd.a b):a=b:=by injection h
theorem Zqy {a b:Obj} (h:Vd.o a=Vd.o b):a=b:=by injection h
theorem Uw {id id':String} {kw:List (Str×Value)} (h:∀ e∈P6 id kw id',e.1=e.2):id=id'/\kw=[]:=⟨Z4v (h (.i id,.i id') (.head _)),Z4i (h (.k kw,.k []) (.tail _ (.head _)))⟩
theorem Zgy {o:Obj} {lo hi:Int} {tl th:Tok} (h:(Pg o lo hi tl th).1=(Pg o lo hi tl th).2):o.cls=.type "slice" /\ o.data=.fields #[.int lo tl,.int hi th,.none]:=by
 have:=Zqy h
 exact ⟨by rw [this],by rw [this]⟩
theorem Ziv (ht:C.t=t) {c:Code} {st:ES} {x:Str} {p:Prop} {e:List (Vd×Vd)} (h:(∀ q∈e,q.1=q.2)->p->x.length<=sizeLine/\∀ (A:Around) (R:Result->Shared->Prop) (s:Shared),(∀ a o,at? st.objs a=some o->s.heap.get? o.1=some o.2)->R (.ok (.ret (.str x s.toks))) { s with toks:=s.toks+1 }->codeAny (model prog w) A c R s) :
  Zz fs n C prog w H r c st (Zgl t x p e st):=by
 obtain ⟨objs,bgs,gk,m,i,orc,log,eqs,obl⟩:=st
 intro R P
 have hp:p:=P.1.2 p (.head _)
 have he:∀ q∈e,q.1=q.2:=fun q hq=>P.1.1 q (N8 _ hq)
 refine ⟨⟨fun q hq=>P.1.1 q (N7 _ hq),fun q hq=>P.1.2 q (.tail _ hq)⟩,fun A hh tk hA D=>?_⟩
 refine (h he hp).2 A R _ (fun a o e=>D.own _ (Ng (at?_mem e))) ?_
 have z:=P.2 hh (tk.up 1) ⟨D.size,by have:=D.toks; simp only [Clk.up] at this ⊢; lia,D.own,D.nodup,D.keep,D.apart,D.gens⟩
 have e:tk.tok=t+i:=by have:=D.toks; dsimp only at this; lia
 show R (.ok (.ret (.str x tk.tok))) (r.at hh (tk.up 1))
 rw [e]; exact z
theorem Zi4 (ht:C.t=t) {c:Code} {st:ES} {x:Int} {p:Prop} {e:List (Vd×Vd)} (h:(∀ q∈e,q.1=q.2)->p->∀ (A:Around) (R:Result->Shared->Prop) (s:Shared),R (.ok (.ret (.int x s.toks))) { s with toks:=s.toks+1 }->codeAny (model prog w) A c R s) :
  Zz fs n C prog w H r c st (Zle t x p e st):=by
 obtain ⟨objs,bgs,gk,m,i,orc,log,eqs,obl⟩:=st
 intro R P
 have hp:p:=P.1.2 p (.head _)
 have he:∀ q∈e,q.1=q.2:=fun q hq=>P.1.1 q (N8 _ hq)
 refine ⟨⟨fun q hq=>P.1.1 q (N7 _ hq),fun q hq=>P.1.2 q (.tail _ hq)⟩,fun A hh tk hA D=>?_⟩
 refine h he hp A R _ ?_
 have z:=P.2 hh (tk.up 1) ⟨D.size,by have:=D.toks; simp only [Clk.up] at this ⊢; lia,D.own,D.nodup,D.keep,D.apart,D.gens⟩
 have e:tk.tok=t+i:=by have:=D.toks; dsimp only at this; lia
 show R (.ok (.ret (.int x tk.tok))) (r.at hh (tk.up 1))
 rw [e]; exact z
theorem Zlu {x y r':Str} {tx ty:Tok} {id:String} {kw:List (Str×Value)} {st:ES}:Zz fs n C prog w H r (.builtin id ⟨[.str x tx,.str y ty],kw⟩) st (Zq4 x y r' id kw st):=by
 obtain ⟨objs,bgs,gk,m,i,orc,log,eqs,obl⟩:=st
 intro R P
 have P0:=P Ext.nil
 have ho:Xp x y r':=P0.1.2 _ (.head _)
 obtain ⟨rfl,rfl⟩:=Uw (id:=id) (kw:=kw) (id' := "str.__add__") fun e he=>P0.1.1 e (N8 _ he)
 refine ⟨⟨fun q hq=>P0.1.1 q (N7 _ hq),fun q hq=>P0.1.2 q (.tail _ hq)⟩,fun A hh tk hA D=>?_⟩
 obtain ⟨hr,hl⟩:=ho
 have g:=gives_str_add x y tx ty
 have e0:tk.tok=C.t+i:=D.toks
 have key:∀ a b,R (.ok (.ret (.str r' a))) (r.at hh (tk.up b)):=fun a b =>
  (P ⟨fun j=>match j with | 0=>0 | 1=>b | _+2=>a,fun _=>#[],fun _ _ _=>0,Ext.nil.ob⟩).2 hh (tk.up b) ⟨D.size,by show tk.tok+b=C.t+(i+b); lia,D.own,D.nodup,D.keep,D.apart,D.gens⟩
 have empty:∀ {z:Str},(z.length==0)=true->z.cps=#[]:=fun {z} e=>by
  have:z.cps.size=0:=eq_of_beq e
  exact Array.eq_empty_of_size_eq_zero this
 cases hx:x.length==0 with
 | true =>
  rw [hx] at g
  refine Xk F.entry_str_add (by decide +kernel) g ?_
  have:y=r':=by rw [← hr]; show y=⟨x.cps++y.cps⟩; rw [empty hx]; simp
  rw [this]
  exact key ty 0
 | false =>
  cases hy:y.length==0 with
  | true =>
   rw [hx,hy] at g
   refine Xk F.entry_str_add (by decide +kernel) g ?_
   have:x=r':=by rw [← hr]; show x=⟨x.cps++y.cps⟩; rw [empty hy]; simp
   rw [this]
   exact key tx 0
  | false =>
   rw [hx,hy,hr] at g
   exact Xk F.entry_str_add (by decide +kernel) g ⟨hl,key tk.tok 1⟩
theorem Ym {id':String} {p:Prop} {id:String} {pos:LH} {kw:List (Str×Value)} {st:ES} {bi:Builtin} {v:Bool} (hb:entryFor table id'=some bi) (hp:plainId id'=true) (g:Gives (bi ⟨pos,[]⟩) (.val (.bool v)))
  (h:p->v=b):Zz fs n C prog w H r (.builtin id ⟨pos,kw⟩) st (Y8 id' b p id kw st):=by
 obtain ⟨objs,bgs,gk,m,i,orc,log,eqs,obl⟩:=st
 intro R P
 have ho:p:=P.1.2 _ (.head _)
 obtain ⟨rfl,rfl⟩:=Uw (id:=id) (kw:=kw) (id':=id') fun e he=>P.1.1 e (N8 _ he)
 refine ⟨⟨fun q hq=>P.1.1 q (N7 _ hq),fun q hq=>P.1.2 q (.tail _ hq)⟩,fun A hh tk hA D=>?_⟩
 refine Xk hb hp g ?_
 rw [h ho]
 exact P.2 hh tk ⟨D.size,D.toks,D.own,D.nodup,D.keep,D.apart,D.gens⟩
theorem Zm3 {x y:Str} {tx ty:Tok} {sts:List Str} {id:String} {kw:List (Str×Value)} {st:ES}:Zz fs n C prog w H r (.builtin id ⟨[.str x tx,.str y ty],kw⟩) st (Zr5 sts id kw x y k st):=by
 rcases k with _ | _ | _ | _ | _ | k
 ·exact Zz.skip
 ·exact Ym F.entry_str_eq (by decide +kernel) (gives_str_eq x y tx ty) fun h=>h
 ·exact Ym F.entry_str_eq (by decide +kernel) (gives_str_eq x y tx ty) fun h=>h
 ·exact Ym F.entry_str_contains (by decide +kernel) (gives_str_contains x y tx ty) fun h=>h
 ·exact Ym F.entry_str_contains (by decide +kernel) (gives_str_contains x y tx ty) fun h=>h
 ·exact Zlu
theorem Zju {a b:Int} {ta tb:Tok} {id:String} {kw:List (Str×Value)} {st:ES} (ht:C.t=t):Zz fs n C prog w H r (.builtin id ⟨[.int a ta,.int b tb],kw⟩) st (Zq6 t id kw a b k st):=by
 rcases k with _ | _ | _ | _ | _ | _ | _ | _ | _ | _ | _ | _ | k
 ·exact Zz.skip
 ·exact Ym F.entry_int_lt (by decide +kernel) (gives_int_lt a b ta tb) fun h=>h
 ·exact Ym F.entry_int_lt (by decide +kernel) (gives_int_lt a b ta tb) fun h=>h
 ·exact Ym F.entry_int_ge (by decide +kernel) (gives_int_ge a b ta tb) fun h=>h
 ·exact Ym F.entry_int_ge (by decide +kernel) (gives_int_ge a b ta tb) fun h=>h
 ·exact Ym F.entry_int_eq (by decide +kernel) (gives_int_eq a b ta tb) fun h=>h
 ·exact Ym F.entry_int_eq (by decide +kernel) (gives_int_eq a b ta tb) fun h=>h
 ·exact Ym F.entry_int_le (by decide +kernel) (gives_int_le a b ta tb) fun h=>h
 ·exact Ym F.entry_int_le (by decide +kernel) (gives_int_le a b ta tb) fun h=>h
 ·exact Ym F.entry_int_gt (by decide +kernel) (gives_int_gt a b ta tb) fun h=>h
 ·exact Ym F.entry_int_gt (by decide +kernel) (gives_int_gt a b ta tb) fun h=>h
 ·refine Zi4 ht fun he hp=>?_
  obtain ⟨rfl,rfl⟩:=Uw he
  exact fun A R s h=>Xk F.entry_int_mul (by decide +kernel) (gives_int_mul a b ta tb hp) h
 ·exact Zz.skip
theorem Zga (native:Bool) (own:Nat) (sts:List Str) (ht:C.t=t) (id:String) (kw:List (Str×Value)) (x:Str) (tx:Tok) (v:Value) (st:ES) :
  Zz fs n C prog w H r (.builtin id ⟨[.str x tx,v],kw⟩) st (Zcm native t own sts id kw x tx v st):=by
 unfold Zcm
 split
 ·rename_i y ty
  refine Zz.ask fun k st'=>?_
  cases k with
  | zero=>exact Zz.skip
  | succ k =>
   exact Zm3
 ·rename_i a
  refine Zz.ask fun k st'=>?_
  cases k with
  | zero=>exact Zz.skip
  | succ k =>
   refine Zz.ask fun j st''=>?_
   obtain ⟨objs,bgs,gk,m,i,orc,log,eqs,obl⟩:=st''
   unfold Zgn
   dsimp only
   split
   ·rename_i p hpj
    obtain ⟨b,o⟩:=p
    dsimp only
    split
    ·rename_i q hq
     obtain ⟨⟨lo,tl⟩,⟨hi,th⟩⟩:=q
     dsimp only
     cases k with
     | zero =>
      intro R P
      have hw:Zbs x lo hi:=P.1.2 _ (.head _)
      have hab:a=b:=Zka (P.1.1 (.a a,.a b) (.head _))
      obtain ⟨hc,hd⟩:=Zgy (P.1.1 (Pg o lo hi tl th) (.tail _ (.head _)))
      obtain ⟨rfl,rfl⟩:=Uw (id:=id) (kw:=kw) (id' := "str.__getitem__") fun e he=>P.1.1 e (.tail _ (.tail _ (N8 _ he)))
      subst hab
      refine ⟨⟨fun e he=>P.1.1 e (.tail _ (.tail _ (N7 _ he))),fun q hq=>P.1.2 q (.tail _ hq)⟩,fun A hh tk hA D=>?_⟩
      refine M3 F.entry_str_getitem ?_
      rw [Q0q (by decide +kernel)]
      refine meets_str_getitem_slice x tx a (some (lo,tl)) (some (hi,th)) none rfl prog w A R _ ⟨⟨o,D.own _ (Ng (at?_mem hpj)),hc,hd⟩,?_⟩
      unfold sliceMade
      have e:(((none:Option (Int×Tok)).map (·.1)).getD 1==1&&(slicePicked x (some (lo,tl)) (some (hi,th)) none).length==x.length)=true:=hw
      rw [if_pos e]
      exact P.2 hh tk ⟨D.size,D.toks,D.own,D.nodup,D.keep,D.apart,D.gens⟩
     | succ k =>
      intro R P
      obtain ⟨hw,hr,hl⟩:U3 x lo hi (Zae sts k):=P.1.2 _ (.head _)
      have hab:a=b:=Zka (P.1.1 (.a a,.a b) (.head _))
      obtain ⟨hc,hd⟩:=Zgy (P.1.1 (Pg o lo hi tl th) (.tail _ (.head _)))
      obtain ⟨rfl,rfl⟩:=Uw (id:=id) (kw:=kw) (id' := "str.__getitem__") fun e he=>P.1.1 e (.tail _ (.tail _ (N8 _ he)))
      subst hab
      refine ⟨⟨fun e he=>P.1.1 e (.tail _ (.tail _ (N7 _ he))),fun q hq=>P.1.2 q (.tail _ hq)⟩,fun A hh tk hA D=>?_⟩
      refine M3 F.entry_str_getitem ?_
      rw [Q0q (by decide +kernel)]
      refine meets_str_getitem_slice x tx a (some (lo,tl)) (some (hi,th)) none rfl prog w A R _ ⟨⟨o,D.own _ (Ng (at?_mem hpj)),hc,hd⟩,?_⟩
      unfold sliceMade
      have e:¬ (((none:Option (Int×Tok)).map (·.1)).getD 1==1&&(slicePicked x (some (lo,tl)) (some (hi,th)) none).length==x.length)=true:=by
       intro q
       have:((strSliceIndices (some lo) (some hi) 1 x.length).length==x.length)=true:=q
       rw [hw] at this; cases this
      rw [if_neg e]
      refine ⟨by rw [← hr] at hl; exact hl,?_⟩
      have z:=P.2 hh (tk.up 1) ⟨D.size,by have:=D.toks; simp only [Clk.up] at this ⊢; lia,D.own,D.nodup,D.keep,D.apart,D.gens⟩
      have et:tk.tok=t+i:=by have:=D.toks; dsimp only at this; lia
      show R (.ok (.ret (.str ⟨((strSliceIndices (some lo) (some hi) 1 x.length).filterMap (x.cps[·]?)).toArray⟩ tk.tok))) (r.at hh (tk.up 1))
      rw [hr,et]; exact z
    ·exact fun R P=>P.elim
   ·exact fun R P=>P.elim
 ·exact Zz.skip
theorem Zmw (ht:C.t=t) (ide:String) (kw:List (Str×Value)) (x:Str) (tx:Tok) (st:ES):Zz fs n C prog w H r (.builtin ide ⟨[.str x tx],kw⟩) st (Zq7 t ide kw x st):=by
 obtain ⟨objs,bgs,gk,m,i,orc,log,eqs,obl⟩:=st
 intro R P
 have hl:x.length < 2 ^ 63:=P.1.2 _ (.head _)
 obtain ⟨rfl,rfl⟩:=Uw (id:=ide) (kw:=kw) (id' := "len") fun e he=>P.1.1 e (N8 _ he)
 refine ⟨⟨fun q hq=>P.1.1 q (N7 _ hq),fun q hq=>P.1.2 q (.tail _ hq)⟩,fun A hh tk hA D=>?_⟩
 have z:=P.2 hh (tk.up 2) ⟨D.size,by have:=D.toks; simp only [Clk.up] at this ⊢; lia,D.own,D.nodup,D.keep,D.apart,D.gens⟩
 have et:tk.tok=t+i:=by have:=D.toks; dsimp only at this; lia
 refine M3 entry_len ?_
 rw [Q0q plain_len]
 refine Jy (wpAny_len_body (Q:=fun v s'=>R (.ok (.ret v)) s') (typeIs_str _ x tx) F.slot_str_len F.entry_str_len (F.args_str_len_1 _) (gives_str_len x tx) (by lia) (by lia) ?_) (fun qA s' q=>?_) fun _ _ q=>q
 ·show R (.ok (.ret (.int x.length (tk.tok+1)))) (r.at hh (tk.up 2))
  rw [et]; exact z
 ·obtain ⟨v,rfl,q⟩:=q; exact q
theorem Zji {x y z:Str} {tx ty tz:Tok} {sts:List Str} {id:String} {kw:List (Str×Value)} {st:ES} (ht:C.t=t):Zz fs n C prog w H r (.builtin id ⟨[.str x tx,.str y ty,.str z tz],kw⟩) st (Zf1 t sts id kw x y z ty tz k st):=by
 unfold Zf1
 split
 ·exact Zz.skip
 ·refine Ziv ht fun he hp=>?_
  obtain ⟨rfl,rfl⟩:=Uw he
  obtain ⟨h1,h2,h3,h4,h5,hr,hl⟩:=hp
  refine ⟨hl,fun A R s _ h=>?_⟩
  have g:=gives_str_replace x y z tx ty tz fun _=>⟨h2,h3,h4,h5⟩
  rw [h1,hr] at g
  exact Xk F.entry_str_replace (by decide +kernel) g ⟨hl,h⟩
theorem Zjg (native:Bool) (sym:Code->Nat) (sts:List Str) (ht:C.t=t) (c:Code) (st:ES):Zz fs n C prog w H r c st (Zf7 native t sym sts c st):=by
 unfold Zf7
 split
 ·rename_i id args
  obtain ⟨pos,kw⟩:=args
  dsimp only
  split
  ·split
   ·split
    ·split
     ·split
      ·exact Zz.ask fun k st'=>Zju ht
      ·exact Zz.skip
     ·exact Zz.skip
    ·exact Zz.skip
   ·split
    ·split
     ·exact Zga native _ sts ht _ _ _ _ _ _
     ·split
      ·split
       ·split
        ·exact Zz.ask fun k st'=>Zji ht
        ·exact Zz.skip
       ·exact Zz.skip
      ·exact Zz.skip
    ·refine Zz.ask fun k st'=>?_
     cases k with
     | zero=>exact Zz.skip
     | succ k=>exact Zmw ht _ _ _ _ _
   ·exact Zz.skip
  ·exact Zz.skip
 ·exact Zz.skip
end
end
noncomputable def Ua (self:Addr) (fd:FuncData) (args:Args):Sem Env:=do
 let compiled ← match fd.code with
  | .none=>pure fd.qualname
  | c=>do match ← W.ZFast.zw6609576154772507232 c 1 with
   | .str q _=>pure q
   | _=>pure fd.qualname
 W.ZFast.zw11113344188204177931 fd.scope fd.globals fd.closure (← W.ZFast.zw9782568553167038054 fd args) (compiled ++ ".<locals>.") (some self) fd.code none fd.builtins
theorem Mh:Ua=Jn:=by
 unfold Ua Jn
 rw [← W.ZFast.ze6609576154772507232,← W.ZFast.ze9782568553167038054,← W.ZFast.ze11113344188204177931]
 all_goals rfl
noncomputable def Z56:Code->Sem Fin:=W.ZFast.zw11892475500146522536 W.ZFast.tableZ
theorem Zvv:Z56=denote table:=by
 unfold Z56
 rw [← W.ZFast.ze11892475500146522536,← W.ZFast.tableZ_eq]
noncomputable abbrev wb (w:World) (b:Bool):World:=w.withFollow "special-get-raises" b
theorem Zlc (w:World):wb w (w.params.followText "special-get-raises")=w:=World.withFollow_self w _
structure Ground (T:Params->LE) (w:World) (H:Heap):Prop where
 top:∀ a o,T w.params a=some o->H.get? a=some o
 nolimit:H.NoLimit
structure Own (H:Heap) (l:LC) (h:Heap):Prop where
 keep:∀ b o,H.get? b=some o->h.get? b=some o
 own:∀ p∈l,h.get? p.1=some p.2
 nodup:(l.map (·.1)).Nodup
 apart:∀ p∈l,H.get? p.1=none
theorem Own.perm {l':LC} (O:Own H l h) (p:l.Perm l'):Own H l' h :=
 ⟨O.keep,fun q hq=>O.own q (p.mem_iff.mpr hq),(p.map _).nodup_iff.mp O.nodup,fun q hq=>O.apart q (p.mem_iff.mpr hq)⟩
theorem Own.drop {r:LC} (O:Own H (l++r) h):Own H l h :=
 ⟨O.keep,fun q hq=>O.own q (N8 _ hq),(List.nodup_append.mp (J3▸O.nodup)).1,fun q hq=>O.apart q (N8 _ hq)⟩
theorem G6 {pre rest:LC} (G:Ground T w H) (O:Own H (pre++rest) h) :
  Ground T w (hideAll h (pre.map (·.1)))/\Own (hideAll h (pre.map (·.1))) pre h:=by
 have hpre:∀ p∈pre,p∈pre++rest:=fun p hp=>N8 _ hp
 have nol:(hideAll h (pre.map (·.1))).NoLimit:=by
  refine Heap.NoLimit.at (G.nolimit.keeps O.keep) fun o e=>?_
  obtain ⟨mc,⟨ob,es,ep,ho,_⟩,_⟩:=G.nolimit
  refine hideAll_get _ e fun z=>?_
  obtain ⟨p,hpm,hpe⟩:=Uo.mp z
  have:=O.apart p (hpre p hpm)
  rw [hpe] at this
  rw [this] at ho; cases ho
 refine ⟨⟨fun a o e=>?_,nol⟩,⟨fun b o e=>of_hideAll _ e,fun p hpm=>O.own p (hpre p hpm),O.drop.nodup,fun p hpm=>hideAll_none _ (Zdq hpm)⟩⟩
 have e0:=G.top a o e
 refine hideAll_get _ (O.keep _ _ e0) fun z=>?_
 obtain ⟨p,hpm,rfl⟩:=Uo.mp z
 rw [O.apart p (hpre p hpm)] at e0; cases e0
theorem Zc0 {pre post rest:LC} (O:Own H (pre++rest) h) (O':Own (hideAll h (pre.map (·.1))) post h'):Own H (post++rest) h':=by
 have nd:=O.nodup
 rw [J3,List.nodup_append] at nd
 have keep:∀ b o,H.get? b=some o->(hideAll h (pre.map (·.1))).get? b=some o:=fun b o e=>hideAll_get _ (O.keep b o e) fun z=>by
  obtain ⟨p,hpm,rfl⟩:=Uo.mp z
  rw [O.apart p (N8 _ hpm)] at e; cases e
 have inr:∀ p∈rest,(hideAll h (pre.map (·.1))).get? p.1=some p.2:=fun p hp=>hideAll_get _ (O.own p (N7 _ hp)) fun z=>nd.2.2 _ z _ (Zdq hp) rfl
 refine ⟨fun b o e=>O'.keep b o (keep b o e),fun p hp=>?_,?_,fun p hp=>?_⟩
 ·rcases Zhu.mp hp with hp | hp
  ·exact O'.own p hp
  ·exact O'.keep _ _ (inr p hp)
 ·rw [J3,List.nodup_append]
  refine ⟨O'.nodup,nd.2.1,fun a ha b hb q=>?_⟩
  subst q
  obtain ⟨p,hp,rfl⟩:=Uo.mp ha
  obtain ⟨q,hq,e⟩:=Uo.mp hb
  have:=inr q hq
  rw [e,O'.apart p hp] at this; cases this
 ·rcases Zhu.mp hp with hp | hp
  ·cases q:H.get? p.1 with
   | none=>rfl
   | some o=>have:=keep _ _ q; rw [O'.apart p hp] at this; cases this
  ·exact O.apart p (N7 _ hp)
noncomputable def Xl {α:Type} (l:List α):List Nat->List (Option α)
 | []=>[]
 | k::r=>at? l k::Xl l r
noncomputable def Z7p (x:Result) (s:ES):Out Flow:=match x with
 | .ok f=>.ok f s
 | .error e=>.err e s
noncomputable def Zfg (k:Nat):List Nat->Bool
 | []=>false
 | j::r=>match Nat.beq k j with
  | true=>true
  | false=>Zfg k r
noncomputable def Xx:List Nat->Bool
 | []=>true
 | k::r=>match Zfg k r with
  | true=>false
  | false=>Xx r
noncomputable def X1 {α:Type}:Nat->List α->List Nat->List α
 | _,[],_=>[]
 | k,x::r,js=>match Zfg k js with
  | true=>X1 (k+1) r js
  | false=>x::X1 (k+1) r js
theorem Zf2 {k:Nat}:∀ {l:List Nat},Zfg k l=false->k ∉ l
 | [],_=>fun h=>nomatch h
 | j::r,h=>by
  unfold Zfg at h
  split at h
  ·cases h
  ·rename_i e
   rw [X6,not_or]
   exact ⟨fun z=>(by rw [z,Nat.beq_refl] at e; cases e),Zf2 h⟩
theorem Yq:∀ {l:List Nat},Xx l=true->l.Nodup
 | [],_=>.nil
 | k::r,h=>by
  unfold Xx at h
  split at h
  ·cases h
  ·rename_i e
   exact Zek.mpr ⟨Zf2 e,Yq h⟩
theorem Zg1 {k:Nat}:∀ {l:List Nat},Zfg k l=true->k∈l
 | [],h=>nomatch h
 | j::r,h=>by
  unfold Zfg at h
  split at h
  ·rename_i e; rw [Nat.eq_of_beq_eq_true e]; exact .head _
  ·exact .tail _ (Zg1 h)
theorem Pj {l:List Nat}:Zfg k l=decide (k∈l):=by
 cases h:Zfg k l with
 | true=>exact (Za7 (Zg1 h)).symm
 | false=>exact (Uz (Zf2 h)).symm
theorem Mf:∀ (k:Nat) (l:List α),X1 k l []=l
 | _,[]=>rfl
 | k,x::r=>Yr (x::·) (Mf (k+1) r)
theorem Mp {j:Nat} {js:List Nat}:∀ (k:Nat) (l:List α),j < k->X1 k l (j::js)=X1 k l js
 | _,[],_=>rfl
 | k,x::r,h=>by
  have e:Zfg k (j::js)=Zfg k js:=by
   rw [Pj,Pj]
   refine Zg2.mpr ⟨fun z=>?_,fun z=>.tail _ z⟩
   rcases X6.mp z with z | z
   ·lia
   ·exact z
  unfold X1
  rw [e,Mp (k+1) r (by lia)]
theorem Zg4 {js:List Nat} {q:α}:∀ (k j:Nat) (l:List α),at? l j=some q->(k+j) ∉ js->(X1 k l js).Perm (q::X1 k l ((k+j)::js))
 | _,_,[],e,_=>by cases e
 | k,0,x::r,e,h=>by
  cases e
  have e1:Zfg k js=false:=by rw [Pj]; exact Uz h
  have e2:Zfg k (k::js)=true:=by rw [Pj]; exact Za7 (.head _)
  show (X1 k (q::r) js).Perm (q::X1 k (q::r) (k::js))
  unfold X1
  rw [e1,e2]
  show (q::X1 (k+1) r js).Perm (q::X1 (k+1) r (k::js))
  rw [Mp (k+1) r (Nat.lt_succ_self k)]
 | k,j+1,x::r,e,h=>by
  have hk:k+(j+1)=k+1+j:=by lia
  rw [hk] at h ⊢
  have e1:Zfg k ((k+1+j)::js)=Zfg k js:=by
   rw [Pj,Pj]
   refine Zg2.mpr ⟨fun z=>?_,fun z=>.tail _ z⟩
   rcases X6.mp z with z | z
   ·lia
   ·exact z
  have ih:=Zg4 (k+1) j r e h
  unfold X1
  rw [e1]
  cases Zfg k js with
  | true=>exact ih
  | false=>exact (List.Perm.cons x ih).trans (List.Perm.swap _ _ _)
theorem Jw {l:List α}:∀ {js:List Nat} {ps:List α},Xl l js=ps.map some->js.Nodup->l.Perm (ps++X1 0 l js)
 | [],[],_,_=>by rw [Mf]; exact .refl _
 | [],_::_,e,_=>by cases e
 | _::_,[],e,_=>by cases e
 | j::js,q::ps,e,h=>by
  simp only [Xl,Zcq,List.cons.injEq] at e
  rw [Zek] at h
  have ih:=Jw e.2 h.2
  have z:=Zg4 0 j l e.1 (by rw [Nat.zero_add]; exact h.1)
  rw [Nat.zero_add] at z
  exact ih.trans (((List.Perm.refl ps).append z).trans List.perm_middle)
theorem P8 (a b:List Bag):Zt (a++b)=Zt a++Zt b:=by
 induction a with
 | nil=>rfl
 | cons x r ih=>show x.of x.g++Zt (r++b)=(x.of x.g++Zt r)++Zt b; rw [ih,Zdp]
theorem Zir {a b:List Bag} (p:a.Perm b):(Zt a).Perm (Zt b):=by
 induction p with
 | nil=>exact .refl _
 | cons x _ ih=>exact (List.Perm.refl _).append ih
 | swap x y l =>
  show (y.of y.g++(x.of x.g++Zt l)).Perm (x.of x.g++(y.of y.g++Zt l))
  rw [← Zdp,← Zdp]
  exact List.perm_append_comm.append (.refl _)
 | trans _ _ a b=>exact a.trans b
theorem G1 {l:List Bag} {ps:List Bag} (h:Xl l js=ps.map some) (hj:js.Nodup):(Zt l).Perm (Zt ps++Zt (X1 0 l js)):=by
 rw [← P8]; exact Zir (Jw h hj)
theorem Zc2 (a b c d:List α):((a++b)++(c++d)).Perm ((a++c)++(b++d)):=by
 rw [Zdp,Zdp]
 refine (List.Perm.refl a).append ?_
 rw [← Zdp,← Zdp]
 exact List.perm_append_comm.append (.refl d)
structure Con where
 pre:LC
 post:Ext->LC
 fresh:Ext->LC
 code:Code
 res:Ext->Result
 need:Nat
 fr:Option (List Env)
 preB:List Bag:=[]
 postB:Ext->List Bag:=fun _=>[]
 gen:Bool:=true
 made:Ext->Nat:=fun x=>x.nat 0
noncomputable def Con.preA (K:Con):LC:=K.pre++Zt K.preB
noncomputable def Con.postA (K:Con) (x:Ext):LC:=(K.fresh x++K.post x)++Zt (K.postB x)
structure Z6 (T:Params->LE) (prog:Program) (w:World) (n t:Nat) (K:Con):Prop where
 run:∀ (H h:Heap) (r:Zb3) (g:LK) (A:Around) (R:Result->Shared->Prop),Ground T w H->AOk A K.fr K.need->Own H K.preA h->h.objs.size=n ->
  (∀ x h' g',Own H (K.postA x) h'->h'.objs.size=n+K.made x->Zq K.gen g g'->R (K.res x) (r.at h' ⟨t+x.nat 1,g'⟩))->codeAny (model prog w) A K.code R (r.at h ⟨t,g⟩)
theorem Z6.use {K:Con} (hK:Z6 T prog w n t K) {rest:LC} {R:Result->Shared->Prop}
  (G:Ground T w H) (hA:AOk A K.fr K.need) (O:Own H l h) (hp:l.Perm (K.preA++rest)) (hs:h.objs.size=n)
  (hR:∀ x h' g',Own H (K.postA x++rest) h'->h'.objs.size=n+K.made x->Zq K.gen g g'->R (K.res x) (r.at h' ⟨t+x.nat 1,g'⟩)):codeAny (model prog w) A K.code R (r.at h ⟨t,g⟩):=by
 have O1:=O.perm hp
 obtain ⟨G',O'⟩:=G6 G O1
 exact hK.run _ h r g A R G' hA O' hs fun x h' g' O2 qS hg=>hR x h' g' (Zc0 O1 O2) qS hg
noncomputable def Zjt (K:Con) (fs:Option (List Env)) (e:List (Vd×Vd)):List (Vd×Vd):=match K.fr with
 | none=>e
 | some l=>(.f fs,.f (some l))::e
noncomputable def Zfy (K:Con) (fs:Option (List Env)) (js bs:List Nat) (c:Code) (s:ES):Gc:=match s with
 | ⟨objs,bgs,gk,m,i,orc,log,eqs,obl⟩=>match Xx js with
  | true=>match Xx bs with
   | true=>.take (.more fun x=>Z7p (K.res x) ⟨(K.fresh x++K.post x)++X1 0 objs js,K.postB x++X1 0 bgs bs,(match K.gen with | true=>false | false=>gk),m+K.made x,i+x.nat 1,orc,log,
    (.c c,.c K.code)::(.p (Xl objs js),.p (K.pre.map some))::(.b (Xl bgs bs),.b (K.preB.map some))::Zjt K fs eqs,obl⟩)
   | false=>.take (.stop "contract: bag twice" 0 s)
  | false=>.take (.stop "contract: twice" 0 s)
noncomputable abbrev Fam:=Nat->Nat->Code->LA->LB->Con
noncomputable def Zk7:List Fam->Nat->Option Fam
 | [],_=>none
 | f::r,k=>match k with
  | 0=>some f
  | k+1=>Zk7 r k
noncomputable def Zkj (native:Bool):Nat->List Nat->List Nat->ES->(List Nat->ES->Gc)->Gc
 | 0,_,js,s,K=>K js.reverse s
 | m+1,own,js,s,K=>Zff native (own.headD 0) s fun k s=>Zkj native m own.tail (k::js) s K
noncomputable def Z2h (native:Bool) (F:Fam) (c:Code) (s:ES):List Nat:=match native with
 | true=>(F 0 0 c [] []).pre.map fun p=>(Zkm p.1 s.objs 0).getD 1000
 | false=>[]
noncomputable def Z26 (native:Bool) (F:Fam) (c:Code):List Nat:=match native with
 | true=>List.range (F 0 0 c [] []).preB.length
 | false=>[]
noncomputable def Zjs (native:Bool) (which:Code->LC->Nat) (n t:Nat) (cons:List Fam) (fs:Option (List Env)) (fuel:Nat) (c:Code) (s:ES):Gc:=Zff native (match native with | true=>which c s.objs | false=>0) s fun k s=>match k with
  | 0=>.skip s
  | k+1=>match Zk7 cons k with
   | none=>.take (.stop "contract" k s)
   | some F=>Zff native (Z2h native F c s).length s fun m s=>Zkj native m (Z2h native F c s) [] s fun js s=>Zff native (Z26 native F c).length s fun mb s=>Zkj native mb (Z26 native F c) [] s fun bs s=>match s with
    | ⟨objs,bgs,gk,m,i,orc,log,eqs,obl⟩=>match Nat.ble (F (n+m) (t+i) c (Xl objs js) (Xl bgs bs)).need (fuel+1) with
     | true=>Zfy (F (n+m) (t+i) c (Xl objs js) (Xl bgs bs)) fs js bs c ⟨objs,bgs,gk,m,i,orc,log,eqs,obl⟩
     | false=>.take (.stop "contract: depth" k s)
noncomputable def Gl:LH->Option (List Str)
 | []=>some []
 | v::r=>match v with
  | .str x _=>match Gl r with
   | some l=>some (x::l)
   | none=>none
  | _=>none
noncomputable def Nn (o:Obj):Option (List Str):=match o with
 | ⟨_,_,.seq items _,_⟩=>Gl items.toList
 | _=>none
noncomputable def isZ (k:Nat):Bool:=match k with
 | 0=>true
 | _=>false
noncomputable def Zm0 (top:LE) (id:String) (kw:List (Str×Value)) (a:Addr) (x:Str) (k j:Nat) (s:ES):Gc:=match s with
 | ⟨objs,bgs,gk,m,i,orc,log,eqs,obl⟩=>match j with
  | 0=>match top a with
   | some o=>match Nn o with
    | some ys=>Y8 "tuple.__contains__" (isZ k) (ys.any (·==x)=isZ k) id kw ⟨objs,bgs,gk,m,i,orc,log,(.o o,.o { o with cls:=.type "tuple" })::eqs,obl⟩
    | none=>.take (.stop "tuple" 0 s)
   | none=>.take (.stop "tuple" 1 s)
  | j+1=>match at? objs j with
   | some p=>match p with
    | (b,o)=>match Nn o with
     | some ys=>Y8 "tuple.__contains__" (isZ k) (ys.any (·==x)=isZ k) id kw ⟨objs,bgs,gk,m,i,orc,log,(.o o,.o { o with cls:=.type "tuple" })::(.a a,.a b)::eqs,obl⟩
     | none=>.take (.stop "tuple" 2 s)
   | none=>.take (.stop "tuple" 3 s)
noncomputable def Zlx (native:Bool) (top:LE) (sym:Code->Nat) (c:Code) (s:ES):Gc:=match c with
 | .builtin id args=>match args with
  | ⟨pos,kw⟩=>match pos with
   | v::r=>match v with
    | .ref a=>match r with
     | v2::r2=>match v2 with
      | .str x tx=>match r2 with
       | []=>Zff native (sym (.builtin id ⟨[.ref a,.str x tx],kw⟩)) s fun k s=>match k with
        | 0=>.skip s
        | k+1=>Zff native (match native with | true=>(match Zkm a s.objs 0 with | some j=>j+1 | none=>0) | false=>0) s fun j s=>Zm0 top id kw a x k j s
       | _=>.skip s
      | _=>.skip s
     | []=>.skip s
    | _=>.skip s
   | []=>.skip s
 | _=>.skip s
noncomputable def Zfv (native:Bool) (top:LE) (which:Code->LC->Nat) (sym:Code->Nat) (n t:Nat) (sts:List Str) (cons:List Fam) (fs:Option (List Env)) (fuel:Nat) (c:Code) (s:ES):Gc :=
 match Zjs native which n t cons fs fuel c s with
 | .skip s=>match Zlx native top sym c s with
  | .skip s=>Zf7 native t sym sts c s
  | .take o=>.take o
 | .take o=>.take o
noncomputable def CZ (T:Params->LE) (prog:Program) (w:World) (n t:Nat) (sts:List Str) (cons:List Fam):Cfg :=
 { den:=Z56,prep:=Ua,set:=⟨prog,w.params⟩,top:=T w.params,n:=n,t:=t,native:=false,sym:=fun _=>0,ans:=Zfv false (T w.params) (fun _ _=>0) (fun _=>0) n t sts cons }
theorem Z09 {a b:Code} (h:Vd.c a=Vd.c b):a=b:=by injection h
theorem Z4w {a b:LA} (h:Vd.p a=Vd.p b):a=b:=by injection h
theorem Z0a {a b:LB} (h:Vd.b a=Vd.b b):a=b:=by injection h
theorem Z4p {a b:Option (List Env)} (h:Vd.f a=Vd.f b):a=b:=by injection h
theorem Zok {K:Con} {fs:Option (List Env)} {e:List (Vd×Vd)} (h:∀ q∈Zjt K fs e,q.1=q.2):(∀ l,K.fr=some l->fs=some l)/\∀ q∈e,q.1=q.2:=by
 unfold Zjt at h
 split at h
 ·rename_i e; exact ⟨fun l z=>(by rw [e] at z; cases z),h⟩
 ·rename_i l' e; exact ⟨fun l z=>(by rw [e] at z; cases z; exact Z4p (h _ (.head _))),fun q hq=>h q (.tail _ hq)⟩
theorem Zix {fs:Option (List Env)} {C:Cfg} {H:Zba} {N:Nat} {K:Con} {bs:List Nat} {c:Code} {st:ES} (G:Ground T w H.heap) (hK:Z6 T prog w (C.n+st.m) (C.t+st.i) K) (hN:K.need<=N+1) :
  Zz fs N C prog w H r c st (Zfy K fs js bs c st):=by
 obtain ⟨objs,bgs,gk,m,i,orc,log,eqs,obl⟩:=st
 unfold Zfy
 dsimp only
 cases hjs:Xx js with
 | false=>exact fun R P=>P.elim
 | true =>
 cases hbs:Xx bs with
 | false=>exact fun R P=>P.elim
 | true =>
 have hjs:=Yq hjs
 have hbs:=Yq hbs
 intro R P
 have all0:∃ st',Jv st'/\st'.eqs=(.c c,.c K.code)::(.p (Xl objs js),.p (K.pre.map some))::(.b (Xl bgs bs),.b (K.preB.map some))::Zjt K fs eqs/\st'.obl=obl:=by
  have:=P Ext.nil
  dsimp only at this
  cases e:K.res Ext.nil with
  | ok f=>rw [e] at this; exact ⟨_,this.1,rfl,rfl⟩
  | error v=>rw [e] at this; exact ⟨_,this.1,rfl,rfl⟩
 obtain ⟨st',all0,es,os⟩:=all0
 unfold Jv at all0
 rw [es,os] at all0
 have hc:c=K.code:=Z09 (all0.1 _ (.head _))
 have hp:Xl objs js=K.pre.map some:=Z4w (all0.1 _ (.tail _ (.head _)))
 have hb:Xl bgs bs=K.preB.map some:=Z0a (all0.1 _ (.tail _ (.tail _ (.head _))))
 obtain ⟨hfr,hfe⟩:=Zok (K:=K) (fs:=fs) (e:=eqs) fun q hq=>all0.1 q (.tail _ (.tail _ (.tail _ hq)))
 refine ⟨⟨hfe,all0.2⟩,fun A h t hA D=>?_⟩
 subst hc
 have hA':AOk A K.fr K.need:=⟨hA.hand,by have:=hA.deep; lia,by have:=hA.units; lia,fun l e=>hA.frames l (hfr l e)⟩
 obtain ⟨tok,gens⟩:=t
 have ht:tok=C.t+i:=D.toks
 subst ht
 have O:Own H.heap (objs++Zt bgs) h:=⟨D.keep,D.own,D.nodup,D.apart⟩
 have perm:(objs++Zt bgs).Perm (K.preA++(X1 0 objs js++Zt (X1 0 bgs bs))) :=
  ((Jw hp hjs).append (G1 hb hbs)).trans (Zc2 _ _ _ _)
 refine hK.use G hA' O perm D.size fun x h' g' O' hs hg=>?_
 have Pr:=P x
 dsimp only at Pr
 have rep:Rep C H ⟨(K.fresh x++K.post x)++X1 0 objs js,K.postB x++X1 0 bgs bs,(match K.gen with | true=>false | false=>gk),m+K.made x,i+x.nat 1,orc,log,(.c K.code,.c K.code)::(.p (Xl objs js),.p (K.pre.map some))::(.b (Xl bgs bs),.b (K.preB.map some))::Zjt K fs eqs,obl⟩ h' ⟨C.t+i+x.nat 1,g'⟩:=by
  have O2:=O'.perm (Zc2 (K.fresh x++K.post x) (Zt (K.postB x)) (X1 0 objs js) (Zt (X1 0 bgs bs)))
  rw [← P8] at O2
  refine ⟨?_,by show C.t+i+x.nat 1=C.t+(i+x.nat 1); lia,O2.own,O2.nodup,O2.keep,O2.apart,?_⟩
  ·show h'.objs.size=C.n+(m+K.made x)
   rw [hs]; show C.n+m+K.made x=_; lia
  ·refine Zq.trans D.gens hg fun e=>?_
   cases e1:K.gen with
   | true=>rw [e1] at e; cases e
   | false=>rw [e1] at e; exact ⟨e,rfl⟩
 cases e:K.res x with
 | ok f=>rw [e] at Pr; exact Pr.2 h' _ rep
 | error v=>rw [e] at Pr; exact Pr.2 h' _ rep
noncomputable def Z4 (T:Params->LE) (prog:Program) (w:World) (cons:List Fam):Prop:=∀ f∈cons,∀ n t c l b,Z6 T prog w n t (f n t c l b)
theorem Zbz:∀ {cons:List Fam} {k:Nat} {F:Fam},Zk7 cons k=some F->F∈cons
 | [],_,_,e=>by cases e
 | f::r,0,F,e=>by cases e; exact .head _
 | f::r,k+1,F,e=>.tail _ (Zbz (cons:=r) (k:=k) e)
section
variable {fs:Option (List Env)} {C:Cfg} {H:Zba} {N:Nat}
theorem Zuk {c:Code} {st:ES} {K:Nat->ES->Gc} (h:∀ k st',st'.objs=st.objs/\st'.m=st.m/\st'.i=st.i/\st'.eqs=st.eqs/\st'.obl=st.obl/\st'.bags=st.bags/\st'.gk=st.gk->Zz fs N C prog w H r c st' (K k st')):Zz fs N C prog w H r c st (Zff native own st K):=by
 obtain ⟨objs,bgs,gk,m,i,orc,log,eqs,obl⟩:=st
 unfold Zff
 cases native with
 | true=>exact Zz.same (st':=⟨objs,bgs,gk,m,i,orc,own::log,eqs,obl⟩) ⟨rfl,rfl,rfl,rfl,rfl,rfl,rfl⟩ (h _ _ ⟨rfl,rfl,rfl,rfl,rfl,rfl,rfl⟩)
 | false =>
  cases orc with
  | nil=>exact fun R P=>P.elim
  | cons k orc=>exact Zz.same (st':=⟨objs,bgs,gk,m,i,orc,log,eqs,obl⟩) ⟨rfl,rfl,rfl,rfl,rfl,rfl,rfl⟩ (h _ _ ⟨rfl,rfl,rfl,rfl,rfl,rfl,rfl⟩)
theorem Zc7 {c:Code} {native:Bool}:∀ {m:Nat} {own js:List Nat} {st:ES} {K:List Nat->ES->Gc},(∀ js st',st'.objs=st.objs/\st'.m=st.m/\st'.i=st.i/\st'.eqs=st.eqs/\st'.obl=st.obl/\st'.bags=st.bags/\st'.gk=st.gk->Zz fs N C prog w H r c st' (K js st'))->Zz fs N C prog w H r c st (Zkj native m own js st K)
 | 0,own,js,st,K,h=>h _ _ ⟨rfl,rfl,rfl,rfl,rfl,rfl,rfl⟩
 | m+1,own,js,st,K,h=>by
  unfold Zkj
  refine Zuk fun k st' ⟨a1,a2,a3,a4,a5,a6,a7⟩=>Zc7 (m:=m) fun js st'' ⟨b1,b2,b3,b4,b5,b6,b7⟩=>h js st'' ⟨b1.trans a1,b2.trans a2,b3.trans a3,b4.trans a4,b5.trans a5,b6.trans a6,b7.trans a7⟩
theorem Zl3 {which:Code->LC->Nat} {cons:List Fam} (G:Ground T w H.heap) (hC:Z4 T prog w cons) (c:Code) (st:ES) :
  Zz fs N C prog w H r c st (Zjs native which C.n C.t cons fs N c st):=by
 unfold Zjs
 ·refine Zz.ask fun k st'=>?_
  cases k with
  | zero=>exact Zz.skip
  | succ k =>
   dsimp only
   split
   ·exact fun R P=>P.elim
   ·rename_i F e
    refine Zz.ask fun m st1=>Zc7 fun js st2 e2=>Zz.ask fun mb st3=>Zc7 fun bs st4 e4=>?_
    obtain ⟨objs,bgs,gk,m,i,orc,log,eqs,obl⟩:=st4
    dsimp only
    split
    ·rename_i hb
     exact Zix (st:=⟨objs,bgs,gk,m,i,orc,log,eqs,obl⟩) G (hC F (Zbz e) _ _ _ _ _) (Nat.le_of_ble_eq_true hb)
    ·exact fun R P=>P.elim
theorem Zav:∀ {l:LH} {ys:List Str},Gl l=some ys->PyProof.Rows.StrsAre l ys
 | [],ys,h=>by cases h; exact .nil
 | v::r,ys,h=>by
  unfold Gl at h
  split at h
  ·rename_i x t
   split at h
   ·rename_i l e
    cases h
    exact .cons x t (Zav e)
   ·cases h
  ·cases h
theorem Zf4 {o:Obj} {ys:List Str} (h:Nn o=some ys):∃ items n,o.data=.seq items n/\PyProof.Rows.StrsAre items.toList ys:=by
 unfold Nn at h
 split at h
 ·exact ⟨_,_,rfl,Zav h⟩
 ·cases h
theorem Zhd {a:Addr} {x:Str} {tx:Tok} {id:String} {kw:List (Str×Value)} {v:Bool} {objs:LC} {m i:Nat} {log:List Nat} {eqs e2:List (Vd×Vd)} {obl:List Prop} {o:Obj} {ys:List Str}
  (hs:∀ q∈eqs,q∈e2) (hget:(∀ q∈e2,q.1=q.2)->∀ hh tk,Rep C H ⟨objs,bgs,gk,m,i,orc,log,eqs,obl⟩ hh tk->hh.get? a=some o) (hy:Nn o=some ys) :
  Zz fs N C prog w H r (.builtin id ⟨[.ref a,.str x tx],kw⟩) ⟨objs,bgs,gk,m,i,orc,log,eqs,obl⟩ (Y8 "tuple.__contains__" v (ys.any (·==x)=v) id kw ⟨objs,bgs,gk,m,i,orc,log,(.o o,.o { o with cls:=.type "tuple" })::e2,obl⟩):=by
 obtain ⟨items,ep,hd,hi⟩:=Zf4 hy
 intro R P
 have ob:ys.any (·==x)=v:=P.1.2 _ (.head _)
 obtain ⟨rfl,rfl⟩:=Uw (id:=id) (kw:=kw) (id' := "tuple.__contains__") fun e he=>P.1.1 e (N8 _ he)
 have hcls:o.cls=.type "tuple" := by have:=Zqy (P.1.1 (.o o,.o { o with cls:=.type "tuple" }) (N7 _ (.head _))); rw [this]
 have he2:∀ q∈e2,q.1=q.2:=fun q hq=>P.1.1 q (N7 _ (.tail _ hq))
 refine ⟨⟨fun q hq=>he2 q (hs q hq),fun q hq=>P.1.2 q (.tail _ hq)⟩,fun A hh tk hA D=>?_⟩
 refine M3 F.entry_tuple_contains ?_
 rw [Q0q (by decide +kernel)]
 refine PyProof.Rows.tuple_contains_strs (items:=items) (ys:=ys) ⟨o,hget he2 hh tk D,hcls,ep,hd⟩ hi ?_
 show R (.ok (.ret (.bool (ys.any (·==x))))) _
 rw [ob]
 exact P.2 hh tk ⟨D.size,D.toks,D.own,D.nodup,D.keep,D.apart,D.gens⟩
theorem Zmi {a:Addr} {x:Str} {tx:Tok} {id:String} {kw:List (Str×Value)} {j:Nat} {st:ES} (G:Ground T w H.heap):Zz fs N C prog w H r (.builtin id ⟨[.ref a,.str x tx],kw⟩) st (Zm0 (T w.params) id kw a x k j st):=by
 obtain ⟨objs,bgs,gk,m,i,orc,log,eqs,obl⟩:=st
 unfold Zm0
 dsimp only
 split
 ·split
  ·rename_i o ho
   split
   ·rename_i ys hy
    exact Zhd (fun q hq=>hq) (fun _ hh tk D=>D.keep _ _ (G.top _ _ ho)) hy
   ·exact fun R P=>P.elim
  ·exact fun R P=>P.elim
 ·split
  ·rename_i p hp
   obtain ⟨b,o⟩:=p
   dsimp only
   split
   ·rename_i ys hy
    exact Zhd (fun q hq=>.tail _ hq) (fun he hh tk D=>by rw [Zka (he _ (.head _))]; exact D.own _ (Ng (at?_mem hp))) hy
   ·exact fun R P=>P.elim
  ·exact fun R P=>P.elim
theorem Zlw {sym:Code->Nat} {c:Code} {st:ES} (G:Ground T w H.heap):Zz fs N C prog w H r c st (Zlx native (T w.params) sym c st):=by
 unfold Zlx
 split
 ·rename_i id args
  obtain ⟨pos,kw⟩:=args
  dsimp only
  split
  ·split
   ·split
    ·split
     ·split
      ·refine Zz.ask fun k st'=>?_
       cases k with
       | zero=>exact Zz.skip
       | succ k=>exact Zz.ask fun j st''=>Zmi G
      ·exact Zz.skip
     ·exact Zz.skip
    ·exact Zz.skip
   ·exact Zz.skip
  ·exact Zz.skip
 ·exact Zz.skip
theorem Zi5 {which:Code->LC->Nat} {sym:Code->Nat} {sts:List Str} {cons:List Fam} (G:Ground T w H.heap) (hC:Z4 T prog w cons) (c:Code) (st:ES) :
  Zz fs N C prog w H r c st (Zfv native (T w.params) which sym C.n C.t sts cons fs N c st):=by
 unfold Zfv
 have:=Zl3 (fs:=fs) (N:=N) (C:=C) (prog:=prog) (r:=r) (native:=native) (which:=which) G hC c st
 split
 ·rename_i s e
  rw [e] at this
  have h2:=Zlw (fs:=fs) (N:=N) (C:=C) (prog:=prog) (r:=r) (native:=native) (sym:=sym) (c:=c) (st:=s) G
  split
  ·rename_i s' e'
   rw [e'] at h2
   exact Zz.same this (Zz.same h2 (Zjg native sym sts rfl c s'))
  ·rename_i o e'
   rw [e'] at h2
   exact Zz.same this h2
 ·rename_i o e
  rw [e] at this
  exact this
end
theorem Zmf {H:Zba} {sts:List Str} {cons:List Fam} (G:Ground T w H.heap) (hC:Z4 T prog w cons):Mu (CZ T prog w n t sts cons) prog w H r :=
 ⟨rfl,Zvv,Mh,rfl,G.top,G.nolimit,fun fs k c st=>Zi5 (C:=CZ T prog w n t sts cons) G hC c st⟩
noncomputable def Zj1 {α:Type}:Out α->(Nat->Ext)->Out α
 | .more k,f=>Zj1 (k (f 0)) fun n=>f (n+1)
 | o,_=>o
theorem Vs {C:Cfg} {H:Zba} {Q:α->Shared->Prop}:∀ (o:Out α),(∀ f,Uh C H r (Zj1 o f) Q E)->Uh C H r o Q E
 | .ok a s,h=>h fun _=>Ext.nil
 | .err e s,h=>h fun _=>Ext.nil
 | .stop ..,h=>h fun _=>Ext.nil
 | .more k,h=>fun x=>Vs (k x) fun f=>h fun n=>match n with | 0=>x | n+1=>f n
 | .look ..,h=>h fun _=>Ext.nil
noncomputable def Zve (ks kb:List Nat) (o:Out Flow):Option (Result×LA×LB×List Prop):=match o with
 | .ok f s=>some (.ok f,Xl s.objs ks,Xl s.bags kb,s.obl)
 | .err e s=>some (.error e,Xl s.objs ks,Xl s.bags kb,s.obl)
 | _=>none
noncomputable def eqL (o:Out Flow):List Vd:=match o with
 | .ok _ s=>s.eqs.map (·.1)
 | .err _ s=>s.eqs.map (·.1)
 | _=>[]
noncomputable def eqR (o:Out Flow):List Vd:=match o with
 | .ok _ s=>s.eqs.map (·.2)
 | .err _ s=>s.eqs.map (·.2)
 | _=>[]
noncomputable def N3 (objs:LC) (bgs:List Bag) (orc:List Nat):ES:=⟨objs,bgs,true,0,0,orc,[],[],[]⟩
noncomputable def Znd (ex:Result->LA->LB->Ext) (ks kb:List Nat) (o:Out Flow):Ext:=match o with
 | .ok f s=>match ex (.ok f) (Xl s.objs ks) (Xl s.bags kb) with | ⟨nt,sl,sq,ob⟩=>⟨fun j=>match j with | 0=>s.m | 1=>s.i | j+2=>nt j,sl,sq,ob⟩
 | .err e s=>match ex (.error e) (Xl s.objs ks) (Xl s.bags kb) with | ⟨nt,sl,sq,ob⟩=>⟨fun j=>match j with | 0=>s.m | 1=>s.i | j+2=>nt j,sl,sq,ob⟩
 | _=>Ext.nil
theorem Za3:∀ {l:List (Vd×Vd)},l.map (·.1)=l.map (·.2)->∀ e∈l,e.1=e.2
 | [],_,_,h=>nomatch h
 | x::r,h,e,he=>by
  simp only [Zcq,List.cons.injEq] at h
  rcases X6.mp he with rfl | he
  ·exact h.1
  ·exact Za3 h.2 e he
theorem Jx {C:Cfg} {H:Zba} {st:ES} {t:Clk} {bl:List Bag} (D:Rep C H st h' t) (hks:ks.Nodup) (hkb:kb.Nodup)
  (e1:Xl st.objs ks=l.map some) (e2:Xl st.bags kb=bl.map some):Own H.heap (l++Zt bl) h':=by
 have O:Own H.heap (st.objs++Zt st.bags) h':=⟨D.keep,D.own,D.nodup,D.apart⟩
 exact (O.perm (((Jw e1 hks).append (G1 e2 hkb)).trans (Zc2 _ _ _ _))).drop
noncomputable def Z7h (o:Out Flow):Bool:=match o with
 | .ok _ s=>s.gk
 | .err _ s=>s.gk
 | _=>false
theorem Zpk {sts:List Str} {cons:List Fam} {H:Zba} {K:Con} {R:Result->Shared->Prop} (o:Out Flow)
  (x:Ext) (hks:ks.Nodup) (hkb:kb.Nodup) {P:List Prop} (hx:match o with | .ok _ s=>x.nat 0=s.m/\x.nat 1=s.i | .err _ s=>x.nat 0=s.m/\x.nat 1=s.i | _=>True)
  (hv:Zve ks kb o=some (K.res x,(K.fresh x++K.post x).map some,(K.postB x).map some,P)) (he:eqL o=eqR o) (hP:∀ p∈P,p)
  (hgk:K.gen=false->Z7h o=true) (hmd:K.made x=x.nat 0)
  (hR:∀ x h' g',Own H.heap (K.postA x) h'->h'.objs.size=n+K.made x->Zq K.gen H.gens g'->R (K.res x) (r.at h' ⟨t+x.nat 1,g'⟩)) :
  Uh (CZ T prog w n t sts cons) H r o (fun f=>R (.ok f)) (fun e=>R (.error e)):=by
 cases o with
 | stop _ _ _=>cases hv
 | more _=>cases hv
 | look _=>cases hv
 | ok f st =>
  have hv':=Zfs hv
  simp only [Prod.mk.injEq] at hv'
  obtain ⟨v1,v2,v3,v4⟩:=hv'
  refine ⟨⟨Za3 he,by rw [v4]; exact hP⟩,fun h' tk' D=>?_⟩
  have z:=hR x h' tk'.gens (Jx D hks hkb v2 v3) (by rw [hmd,hx.1]; exact D.size) ⟨fun e=>D.gens.1 (by have z:=hgk e; show (!st.gk)=false; rw [show st.gk=true from z]; rfl),D.gens.2⟩
  rw [← v1] at z
  obtain ⟨tok,gens⟩:=tk'
  have:=D.toks
  dsimp only at this
  rw [hx.2] at z
  subst this
  exact z
 | err e st =>
  have hv':=Zfs hv
  simp only [Prod.mk.injEq] at hv'
  obtain ⟨v1,v2,v3,v4⟩:=hv'
  refine ⟨⟨Za3 he,by rw [v4]; exact hP⟩,fun h' tk' D=>?_⟩
  have z:=hR x h' tk'.gens (Jx D hks hkb v2 v3) (by rw [hmd,hx.1]; exact D.size) ⟨fun e=>D.gens.1 (by have z:=hgk e; show (!st.gk)=false; rw [show st.gk=true from z]; rfl),D.gens.2⟩
  rw [← v1] at z
  obtain ⟨tok,gens⟩:=tk'
  have:=D.toks
  dsimp only at this
  rw [hx.2] at z
  subst this
  exact z
noncomputable def Zib (T:Params->LE) (prog:Program) (w:World) (n t:Nat) (sts:List Str) (cons:List Fam) (K:Con) (orc:List Nat) (f:Nat->Ext):Out Flow :=
 Zj1 (Zrz (CZ T prog w n t sts cons) K.need K.fr K.code (N3 K.pre K.preB orc)) f
theorem Zop {sts:List Str} {cons:List Fam} {K:Con} (hC:Z4 T prog w cons)
  (x:(Nat->Ext)->Ext) (hks:Xx ks=true) (hkb:Xx kb=true) (P:(Nat->Ext)->List Prop)
  (hx:∀ f,match Zib T prog w n t sts cons K orc f with | .ok _ s=>(x f).nat 0=s.m/\(x f).nat 1=s.i | .err _ s=>(x f).nat 0=s.m/\(x f).nat 1=s.i | _=>True)
  (hv:∀ f,Zve ks kb (Zib T prog w n t sts cons K orc f)=some (K.res (x f),(K.fresh (x f)++K.post (x f)).map some,(K.postB (x f)).map some,P f)) (he:∀ f,eqL (Zib T prog w n t sts cons K orc f)=eqR (Zib T prog w n t sts cons K orc f)) (hP:∀ f,∀ p∈P f,p) (hgk:K.gen=false->∀ f,Z7h (Zib T prog w n t sts cons K orc f)=true) (hmd:∀ f,K.made (x f)=(x f).nat 0) :
  Z6 T prog w n t K:=by
 refine ⟨fun H h r g A R G hA O hs hR=>?_⟩
 have ok:Mu (CZ T prog w n t sts cons) prog w ⟨H,g⟩ r:=Zmf G hC
 refine (Vz ok K.need K.fr K.code (N3 K.pre K.preB orc) R (Vs _ fun f=>?_)).2 A h ⟨t,g⟩ hA ⟨hs,rfl,O.own,O.nodup,O.keep,O.apart,Zq.refl _ _⟩
 exact Zpk (Zib T prog w n t sts cons K orc f) (x f) (Yq hks) (Yq hkb) (hx f) (hv f) (he f) (hP f) (fun e=>hgk e f) (hmd f) hR
theorem Zpl {ex:Result->LA->LB->Ext} (o:Out Flow) :
  match o with | .ok _ s=>(Znd ex ks kb o).nat 0=s.m/\(Znd ex ks kb o).nat 1=s.i | .err _ s=>(Znd ex ks kb o).nat 0=s.m/\(Znd ex ks kb o).nat 1=s.i | _=>True:=by
 cases o<;>first | exact ⟨rfl,rfl⟩ | trivial
theorem Zd:Z4 T prog w []:=fun _ h=>nomatch h
theorem Zb {K:Fam} {cons:List Fam} (h:∀ n t c l b,Z6 T prog w n t (K n t c l b)) (hc:Z4 T prog w cons):Z4 T prog w (K::cons):=fun f hf=>by
 rcases X6.mp hf with rfl | hf
 ·exact h
 ·exact hc f hf
noncomputable def S (l:List Nat):Str:=⟨⟨l⟩⟩
noncomputable abbrev Hs:=String->Int
noncomputable def ent (w:Hs) (k:String) (tk:Nat) (v:Value):DictEntry:=⟨w k,.str k tk,v⟩
structure Lx where
 lex:Addr
 ld:Addr
 io:Addr
 iod:Addr
 pb:Addr
 fk:Addr
 kt:LM
 buf:List Nat
 cm:Str
noncomputable def ioD (w:Hs) (L:Lx) (p:Nat) (tp:Nat):Obj:={ cls:=.type "dict",data:=.dict #[ent w "_StringIO__newline" (L.kt 100) (.str "\n" (L.kt 101)),ent w "_StringIO__buf" (L.kt 102) (.str (S L.buf) (L.kt 103)),ent w "_StringIO__pos" (L.kt 104) (.int (Int.ofNat p) tp)] 3 }
noncomputable def ioO (L:Lx):Obj:={ cls:=.ref 613,dict:=some L.iod,data:=.plain }
noncomputable def Zjn (L:Lx):Obj:={ cls:=.ref 748,dict:=some L.ld,data:=.plain }
noncomputable def Vb:Str := "abcdfeghijklmnopqrstuvwxyzABCDEFGHIJKLMNOPQRSTUVWXYZ0123456789_ßàáâãäåæçèéêëìíîïðñòóôõöøùúûüýþÿÀÁÂÃÄÅÆÇÈÉÊËÌÍÎÏÐÑÒÓÔÕÖØÙÚÛÜÝÞ"
noncomputable def Zx9 (w:Hs) (L:Lx) (st:Value) (ln:Int) (tl:Nat) (tok:Str) (tt:Nat):Obj:={ cls:=.type "dict",data:=.dict #[
 ent w "instream" (L.kt 0) (.ref L.io),ent w "infile" (L.kt 1) .none,ent w "posix" (L.kt 2) (.bool true),ent w "eof" (L.kt 3) .none,ent w "commenters" (L.kt 4) (.str L.cm (L.kt 20)),
 ent w "wordchars" (L.kt 5) (.str Vb (L.kt 21)),ent w "whitespace" (L.kt 6) (.str " \t\r\n" (L.kt 22)),ent w "whitespace_split" (L.kt 7) (.bool true),ent w "quotes" (L.kt 8) (.str "'\"" (L.kt 23)),
 ent w "escape" (L.kt 9) (.str "\\" (L.kt 24)),ent w "escapedquotes" (L.kt 10) (.str "\"" (L.kt 25)),ent w "state" (L.kt 11) st,ent w "pushback" (L.kt 12) (.ref L.pb),ent w "lineno" (L.kt 13) (.int ln tl),
 ent w "debug" (L.kt 14) (.int 0 (L.kt 26)),ent w "token" (L.kt 15) (.str tok tt),ent w "filestack" (L.kt 16) (.ref L.fk),ent w "source" (L.kt 17) .none,ent w "_punctuation_chars" (L.kt 18) (.str "" (L.kt 27))] 19 }
noncomputable def rtF (w:Hs) (L:Lx) (ft:LM) (q:Bool) (es:Str) (te:Nat):Obj:={ cls:=.type "frame",data:=.dict #[ent w "self" (ft 0) (.ref L.lex),ent w "quoted" (ft 1) (.bool q),ent w "escapedstate" (ft 2) (.str es te)] 3 }
noncomputable def rtF4 (w:Hs) (L:Lx) (ft:LM) (q:Bool) (es:Str) (te:Nat) (nx:Str) (tn:Nat):Obj:={ cls:=.type "frame",data:=.dict #[ent w "self" (ft 0) (.ref L.lex),ent w "quoted" (ft 1) (.bool q),ent w "escapedstate" (ft 2) (.str es te),ent w "nextchar" (ft 3) (.str nx tn)] 4 }
noncomputable def Ju:Value->Nat
 | .str _ t=>t
 | .int _ t=>t
 | _=>0
noncomputable def Yar (o:Option (Addr×Obj)) (j:Nat):Value×Value:=match o with
 | some p=>match p with
  | (_,o)=>match o with
   | ⟨_,_,.dict es _,_⟩=>match es.toList.drop j with
    | e::_=>(e.key,e.val)
    | []=>(.none,.none)
   | _=>(.none,.none)
 | none=>(.none,.none)
noncomputable def oAt (l:LA) (k:Nat):Option (Addr×Obj):=match l.drop k with
 | o::_=>o
 | []=>none
noncomputable def Za8 (l:LA) (k j:Nat):Nat:=Ju (Yar (oAt l k) j).2
noncomputable def Nb (l:LA) (k j:Nat):Nat:=Ju (Yar (oAt l k) j).1
noncomputable def Z5t (r:Result):Nat:=match r with
 | .ok f=>match f with
  | .ret v=>Ju v
  | _=>0
 | _=>0
noncomputable def Up:LA->Nat->LG:=fun _ _=>#[]
noncomputable def Z6z (a tq:Nat):Code:=.call (.ref 559) ⟨[.ref a,.int 1 tq],[]⟩
noncomputable def Zfw (w:Hs) (L:Lx) (p p' tp tq:Nat) (r:Str) (n t:Nat):Con where
 pre:=[(L.iod,ioD w L p tp),(L.io,ioO L)]
 post x:=[(L.iod,ioD w L p' (x.nat 2)),(L.io,ioO L)]
 fresh _:=[]
 code:=Z6z L.io tq
 res x:=.ok (.ret (.str r (x.nat 3)))
 need:=20
 fr:=none
noncomputable def Zg5 (r:Result) (l:LA) (j:Nat):Nat:=match j with
 | 0=>Za8 l 0 2
 | _=>Z5t r
noncomputable def cTok (c:Code):Nat:=match c with
 | .call _ args=>match args with
  | ⟨pos,_⟩=>match pos with
   | _::r=>match r with
    | v::_=>Ju v
    | []=>0
   | []=>0
 | _=>0
noncomputable def Y7 (w:Hs) (L:Lx) (p p':Nat) (r:Str):Fam:=fun n t c l _=>Zfw w L p p' (Za8 l 0 2) (cTok c) r n t
noncomputable def Z7 (top:LE) (a:Addr):FuncData:=match top a with
 | some o=>match o with
  | ⟨_,_,.func fd,_⟩=>fd
  | _=>default
 | none=>default
noncomputable def Zl (fd:FuncData) (k:Nat):Stmt:=match fd.body with
 | .stmts b=>match b.drop k with
  | s::_=>s
  | []=>.Pass default
 | _=>.Pass default
theorem Zh4 (us:List α) (k:Nat):(us.take k).length+(us.drop k).length=us.length:=by rw [← Vc,List.take_append_drop]
noncomputable def vE (e:Expr):List Expr×Pos×Scope×List Comprehension×Str×Nat×Const×List Keyword:=match e with
 | .Compare l _ rs p=>(l::rs,p,default,[], "",0,.none,[])
 | .BoolOp _ l p=>(l,p,default,[], "",0,.none,[])
 | .BinOp l _ r p=>([l,r],p,default,[], "",0,.none,[])
 | .ListComp x g s p=>([x],p,s,g, "",0,.none,[])
 | .GeneratorExp x g s p=>([x],p,s,g, "",0,.none,[])
 | .Call f l ks p=>(f::l,p,default,[], "",0,.none,ks)
 | .List l p=>(l,p,default,[], "",0,.none,[])
 | .Tuple l k p=>(l,p,default,[], "",k,.none,[])
 | .UnaryOp _ x p=>([x],p,default,[], "",0,.none,[])
 | .Subscript x y p=>([x,y],p,default,[], "",0,.none,[])
 | .Name x p=>([],p,default,[],x,0,.none,[])
 | .Attribute x n p=>([x],p,default,[],n,0,.none,[])
 | .Constant c k p=>([],p,default,[], "",k,c,[])
 | _=>([],default,default,[], "",0,.none,[])
noncomputable def vS (s:Stmt):List Expr×List Stmt×List Stmt×Pos:=match s with
 | .Return e p=>(e.toList,[],[],p)
 | .If t b o p=>([t],b,o,p)
 | .Assign l v p=>(v::l,[],[],p)
 | .For t i b _ p=>([t,i],b,[],p)
 | .While t b o p=>([t],b,o,p)
 | .Raise x _ p=>(x.toList,[],[],p)
 | _=>([],[],[],default)
noncomputable def N9 (l:List Expr) (k:Nat):Expr:=match l.drop k with
 | e::_=>e
 | []=>.Name "" default
noncomputable def Ul (l:List Stmt) (k:Nat):Stmt:=match l.drop k with
 | s::_=>s
 | []=>.Pass default
noncomputable def Zte (s:Stmt) (e:Env):Code:=.whileLoop (N9 (vS s).1 0) (vS s).2.1 (vS s).2.2.1 e
noncomputable def Z6d (top:LE) (fr:Addr):Env:={ scope:=(Z7 top 716).scope,locals:=fr,globals:=3,cells:=[],qual := "shlex.read_token.<locals>.",func:=some 716,code:=.ref 715,frame:=some fr,builtins:=0 }
noncomputable def Zp5 (top:LE) (fr:Addr):Code:=Zte (Zl (Z7 top 716) 2) (Z6d top fr)
structure Ls where
 p:Nat
 st:LO
 tok:Str
 q:Bool
 ln:Int
 nx:LO
noncomputable def Ls.stV (s:Ls) (t:Nat):Value:=match s.st with
 | none=>.none
 | some z=>.str z t
noncomputable def Ls.frame (w:Hs) (L:Lx) (ft tk:LM) (s:Ls):Obj:=match s.nx with
 | none=>rtF w L ft s.q " " (tk 4)
 | some x=>rtF4 w L ft s.q " " (tk 4) x (tk 5)
noncomputable def Zhi (w:Hs) (L:Lx) (fr:Addr) (ft tk:LM) (s:Ls):LC :=
 [(L.iod,ioD w L s.p (tk 0)),(L.io,ioO L),(L.ld,Zx9 w L (s.stV (tk 1)) s.ln (tk 2) s.tok (tk 3)),(L.lex,Zjn L),(fr,s.frame w L ft tk)]
noncomputable def Ext.tk (x:Ext) (j:Nat):Nat:=x.nat (j+2)
noncomputable def P5 (l:LA) (j:Nat):Nat:=match j with
 | 0=>Za8 l 0 2
 | 1=>Za8 l 2 11
 | 2=>Za8 l 2 13
 | 3=>Za8 l 2 15
 | 4=>Za8 l 4 2
 | _=>Za8 l 4 3
noncomputable def Zya (l:LA) (j:Nat):Nat:=Nb l 4 j
noncomputable def Zf0 (w:Hs) (top:LE) (L:Lx) (fr:Addr) (ft tk:LM) (s s':Ls) (n t:Nat):Con where
 pre:=Zhi w L fr ft tk s
 post x:=Zhi w L fr (fun j=>x.nat (j+8)) x.tk s'
 fresh _:=[]
 code:=Zp5 top fr
 res _:=.ok .next
 need:=40
 fr:=none
noncomputable def Jg (w:Hs) (top:LE) (L:Lx) (fr:Addr) (s s':Ls):Fam:=fun n t _ l _=>Zf0 w top L fr (Zya l) (P5 l) s s' n t
noncomputable def Zeq (_:Result) (l:LA) (j:Nat):Nat:=match j with
 | 0=>P5 l 0
 | 1=>P5 l 1
 | 2=>P5 l 2
 | 3=>P5 l 3
 | 4=>P5 l 4
 | 5=>P5 l 5
 | 6=>Zya l 0
 | 7=>Zya l 1
 | 8=>Zya l 2
 | _=>Zya l 3
structure Lt where
 p:Nat
 st:LO
 ln:Int
noncomputable def Lt.stV (s:Lt) (t:Nat):Value:=match s.st with
 | none=>.none
 | some z=>.str z t
noncomputable def Ya (w:Hs) (L:Lx) (tk:LM) (s:Lt):LC :=
 [(L.iod,ioD w L s.p (tk 0)),(L.io,ioO L),(L.ld,Zx9 w L (s.stV (tk 1)) s.ln (tk 2) (S []) (tk 3)),(L.lex,Zjn L)]
noncomputable def Ms (l:LA) (j:Nat):Nat:=match j with
 | 0=>Za8 l 0 2
 | 1=>Za8 l 2 11
 | 2=>Za8 l 2 13
 | _=>Za8 l 2 15
noncomputable def tokV (r:LO) (t:Nat):Value:=match r with
 | none=>.none
 | some z=>.str z t
noncomputable def Zzf (L:Lx):Code:=.call (.ref 716) ⟨[.ref L.lex],[]⟩
noncomputable def Z18 (w:Hs) (L:Lx) (tk:LM) (s s':Lt) (r:LO) (n t:Nat):Con where
 pre:=Ya w L tk s
 post x:=Ya w L x.tk s'
 fresh _:=[]
 code:=Zzf L
 res x:=.ok (.ret (tokV r (x.nat 6)))
 need:=45
 fr:=none
noncomputable def Zpe (w:Hs) (L:Lx) (s s':Lt) (r:LO):Fam:=fun n t _ l _=>Z18 w L (Ms l) s s' r n t
noncomputable def Z5o (k:Nat) (f:Nat->Ext) (r:Result) (l:LA) (j:Nat):Nat:=match j with
 | 0=>(f k).nat 2
 | 1=>(f k).nat 3
 | 2=>(f k).nat 4
 | 3=>Za8 l 2 15
 | _=>Z5t r
noncomputable def frOf (c:Code):Addr:=match c with
 | .whileLoop _ _ _ e=>e.locals
 | _=>0
noncomputable def N5 (w:Hs) (top:LE) (L:Lx) (s s':Ls):Fam:=fun n t c l _=>Zf0 w top L (frOf c) (Zya l) (P5 l) s s' n t
noncomputable def dqO (e:Int) (l:List (Str×Nat)):Obj:={ cls:=.type "collections.deque",data:=.fields ⟨.none::.int e 0::l.map fun p=>.str p.1 p.2⟩ }
noncomputable def Zln (L:Lx):Code:=.call (.ref 709) ⟨[.ref L.lex],[]⟩
noncomputable def Z4b (w:Hs) (L:Lx) (tk:LM) (s s':Lt) (e:Int) (W:Str) (n t:Nat):Con where
 pre:=Ya w L tk s++[(L.pb,dqO e [])]
 post x:=Ya w L x.tk s'++[(L.pb,dqO e [])]
 fresh _:=[]
 code:=Zln L
 res x:=.ok (.ret (.str W (x.nat 6)))
 need:=48
 fr:=none
noncomputable def Zrw (w:Hs) (L:Lx) (tk:LM) (s s':Lt) (e e':Int) (n t:Nat):Con where
 pre:=Ya w L tk s++[(L.pb,dqO e []),(L.fk,dqO e' [])]
 post x:=Ya w L x.tk s'++[(L.pb,dqO e []),(L.fk,dqO e' [])]
 fresh _:=[]
 code:=Zln L
 res x:=.ok (.ret .none)
 need:=48
 fr:=none
noncomputable def Zra (w:Hs) (L:Lx) (tk:LM) (s:Lt) (e e':Int) (v:Str) (tv:Nat) (l:List (Str×Nat)) (n t:Nat):Con where
 pre:=Ya w L tk s++[(L.pb,dqO e ((v,tv)::l))]
 post x:=Ya w L tk s++[(L.pb,dqO e' l)]
 fresh _:=[]
 code:=Zln L
 res x:=.ok (.ret (.str v tv))
 need:=48
 fr:=none
noncomputable def Z53 (k:Nat) (f:Nat->Ext) (_:Result) (_:LA) (j:Nat):Nat:=(f k).nat (j+2)
noncomputable def vPl (k:Nat):Nat:=match k with
 | 20=>4
 | 21=>5
 | 22=>6
 | 23=>8
 | 24=>9
 | 25=>10
 | 26=>14
 | _=>18
noncomputable def Z7x (_:Result) (l:LA) (j:Nat):Nat:=match Nat.ble 8 j with
 | false=>Ms l j
 | true=>match Nat.ble (j - 8) 18 with
  | true=>Nb l 2 (j - 8)
  | false=>match Nat.ble (j - 8) 99 with
   | true=>Za8 l 2 (vPl (j - 8))
   | false=>match j - 108 with
    | 0=>Nb l 0 0
    | 1=>Za8 l 0 0
    | 2=>Nb l 0 1
    | 3=>Za8 l 0 1
    | _=>Nb l 0 2
noncomputable def Zu:Stmt->List Stmt
 | .ClassDef _ _ _ body _ _ _ _ _ _ _=>body
 | _=>[]
noncomputable def Zht:Stmt->Arguments×List Stmt×Scope
 | .FunctionDef _ args body _ _ _ scope _ _ _=>(args,body,scope)
 | _=>(default,[],default)
noncomputable def pS (k:Nat):Stmt:=Ul PySem.Challenge.pw_ij0140_01.main.body k
noncomputable def Jb (s:Stmt) (name qual:String) (globals _n:Nat) (defaults kwdefaults doc mod:Value) (annotations:Option Addr) (code ct:Value) (builtins:Nat):FuncData:=match Zht s with
 | (args,body,scope)=>{ name:=name,qualname:=qual,params:=args,body:=.stmts body,scope:=scope,globals:=globals,closure:=[],defaults:=defaults,kwdefaults:=kwdefaults,doc:=doc,pyModule:=mod,annotations:=annotations,code:=code,closureTuple:=ct,builtins:=builtins }
theorem Zpi (n:Nat):Acc (fun _ _:Nat=>False) n:=⟨n,fun _ h=>h.elim⟩
noncomputable def gate {α β:Type} (f:α->β) (n:Nat):α->β:=@Acc.rec Nat (fun _ _:Nat=>False) (fun _ _=>α->β) (fun _ _ _=>f) n (Zpi n)
noncomputable def er (w:Hs) (nm:String) (k a:Nat):DictEntry:=ent w nm k (.ref a)
noncomputable def eb (w:Hs) (nm:String) (k:Nat):DictEntry:=ent w nm k (.builtin nm)
noncomputable def et (w:Hs) (nm:String) (k:Nat):DictEntry:=ent w nm k (.type nm)
noncomputable def cdO (nm qn:String) (k:Nat) (ln ac p kw fl:Int) (a b:Nat) (v1 v2 v3 v4:Value) (k4:Int) (k5:Nat):Obj:={ cls:=.type "code",data:=.fields #[.str nm k,.str qn (k+1),.str "/claim/cut.py" (k+2),.int ln 0,.int ac 0,.int p 0,.int kw 0,.int fl 0,.ref a,.bool true,.int 318 0,.ref b,v1,v2,v3,v4,.int k4 0,.int ln 0,.str "/claim/cut.py" k5] }
noncomputable def Znq (w:Hs):LC:=[
 (0,{ cls:=.type "dict",data:=.dict #[ent w "__name__" 1 (.str "builtins" 160),ent w "__doc__" 2 (.builtin "builtins.__doc__:str#opaque"),ent w "__package__" 3 (.builtin "builtins.__package__:str#opaque"),ent w "__loader__" 4 (.builtin "builtins.__loader__:shared#opaque"),ent w "__spec__" 5 (.builtin "builtins.__spec__#opaque"),eb w "__build_class__" 6,eb w "__imp\x6frt__" 7,eb w "abs" 8,eb w "all" 9,eb w "any" 10,eb w "ascii" 11,eb w "bin" 12,eb w "breakpoint" 13,eb w "callable" 14,eb w "chr" 15,eb w "compile" 16,eb w "delattr" 17,eb w "dir" 18,eb w "divmod" 19,eb w "eval" 20,eb w "exec" 21,eb w "format" 22,eb w "getattr" 23,eb w "globals" 24,eb w "hasattr" 25,eb w "hash" 26,eb w "hex" 27,eb w "id" 28,eb w "input" 29,eb w "isinstance" 30,eb w "issubclass" 31,eb w "iter" 32,eb w "aiter" 33,eb w "len" 34,eb w "locals" 35,eb w "max" 36,eb w "min" 37,eb w "next" 38,eb w "anext" 39,eb w "oct" 40,eb w "ord" 41,eb w "pow" 42,eb w "print" 43,eb w "repr" 44,eb w "round" 45,eb w "setattr" 46,eb w "sorted" 47,eb w "sum" 48,eb w "vars" 49,ent w "None" 50 (.none),ent w "Ellipsis" 51 (.ellipsis),ent w "NotImplemented" 52 (.notImplemented),ent w "False" 53 (.bool false),ent w "True" 54 (.bool true),et w "bool" 55,et w "memoryview" 56,et w "bytearray" 57,et w "bytes" 58,et w "classmethod" 59,et w "complex" 60,et w "dict" 61,et w "enumerate" 62,et w "filter" 63,et w "float" 64,et w "frozenset" 65,et w "property" 66,et w "int" 67,et w "list" 68,et w "map" 69,et w "object" 70,et w "range" 71,et w "reversed" 72,et w "set" 73,et w "slice" 74,et w "staticmethod" 75,et w "str" 76,et w "super" 77,et w "tuple" 78,et w "type" 79,et w "zip" 80,ent w "__debug__" 81 (.bool true),et w "BaseException" 82,et w "BaseExceptionGroup" 83,et w "Exception" 84,et w "GeneratorExit" 85,et w "KeyboardInterrupt" 86,et w "SystemExit" 87,et w "ArithmeticError" 88,et w "AssertionError" 89,et w "AttributeError" 90,et w "BufferError" 91,et w "EOFError" 92,et w "ImportError" 93,et w "LookupError" 94,et w "MemoryError" 95,et w "NameError" 96,et w "OSError" 97,et w "ReferenceError" 98,et w "RuntimeError" 99,et w "StopAsyncIteration" 100,et w "StopIteration" 101,et w "SyntaxError" 102,et w "SystemError" 103,et w "TypeError" 104,et w "ValueError" 105,et w "Warning" 106,et w "FloatingPointError" 107,et w "OverflowError" 108,et w "ZeroDivisionError" 109,et w "BytesWarning" 110,et w "DeprecationWarning" 111,et w "EncodingWarning" 112,et w "FutureWarning" 113,et w "ImportWarning" 114,et w "PendingDeprecationWarning" 115,et w "ResourceWarning" 116,et w "RuntimeWarning" 117,et w "SyntaxWarning" 118,et w "UnicodeWarning" 119,et w "UserWarning" 120,et w "BlockingIOError" 121,et w "ChildProcessError" 122,et w "ConnectionError" 123,et w "FileExistsError" 124,et w "FileNotFoundError" 125,et w "InterruptedError" 126,et w "IsADirectoryError" 127,et w "NotADirectoryError" 128,et w "PermissionError" 129,et w "ProcessLookupError" 130,et w "TimeoutError" 131,et w "IndentationError" 132,et w "_IncompleteInputError" 133,et w "IndexError" 134,et w "KeyError" 135,et w "ModuleNotFoundError" 136,et w "NotImplementedError" 137,et w "PythonFinalizationError" 138,et w "RecursionError" 139,et w "UnboundLocalError" 140,et w "UnicodeError" 141,et w "BrokenPipeError" 142,et w "ConnectionAbortedError" 143,et w "ConnectionRefusedError" 144,et w "ConnectionResetError" 145,et w "TabError" 146,et w "UnicodeDecodeError" 147,et w "UnicodeEncodeError" 148,et w "UnicodeTranslateError" 149,et w "ExceptionGroup" 150,ent w "EnvironmentError" 151 (.type "OSError"),ent w "IOError" 152 (.type "OSError"),eb w "open" 153,ent w "quit" 154 (.builtin "builtins.quit#opaque"),ent w "exit" 155 (.builtin "builtins.exit#opaque"),ent w "copyright" 156 (.builtin "builtins.copyright#opaque"),ent w "credits" 157 (.builtin "builtins.credits#opaque"),ent w "license" 158 (.builtin "builtins.license#opaque"),ent w "help" 159 (.builtin "builtins.help#opaque")] 159 }),
 (2,{ cls:=.none,data:=.dict #[ent w "imp\x6frt.loaded._sre" 183 (.bool true),er w "class._frozen_imp\x6frtlib.BuiltinImporter" 185 14,er w "watched.imp\x6frt" 206 18,er w "class._frozen_imp\x6frtlib.ModuleSpec" 216 22,ent w "sys.modules.booked-epoch" 245 (.int 4 0),ent w "imp\x6frt.later-laid._sre" 270 (.bool true),er w "watched.library" 272 27,ent w "watched.library-objects" 0 (.str (S [12,30]) 0),ent w "watched.library-deep._sre" 273 (.str (S [4,0,0,11,4,0,0,11,4,0,0,3,4,0,0,11,8,4,100,105,99,116,2]) 0),ent w "imp\x6frt.loaded._collections" 280 (.bool true),ent w "sys.modules.landed._collections" 294 (.bool true),ent w "imp\x6frt.later-laid._collections" 309 (.bool true),ent w "watched.library-deep._collections" 311 (.str (S [4,0,0,29,4,0,0,29,4,0,0,3,4,0,0,29,8,4,100,105,99,116,2]) 0),ent w "type.__subclasses__.OSError.0" 431 (.int 89 0),ent w "type.__subclasses__.OSError.n" 432 (.int 1 0)] 15 }),
 (3,{ cls:=.type "dict",data:=.dict #[ent w "__name__" 165 (.str "law_ij0140_01" 1279),ent w "__doc__" 166 (.none),ent w "__package__" 167 (.none),ent w "__loader__" 168 (.builtin "__main__.__loader__#opaque"),ent w "__spec__" 169 (.none),er w "__annotations__" 170 6,er w "__builtins__" 171 4,ent w "__file__" 173 (.str "/claim/cut.py" 172),ent w "__cached__" 174 (.none),er w "_sre" 275 12,ent w "deque" 317 (.type "collections.deque"),er w "_wall" 330 44,er w "cmp_to_key" 341 51,er w "_initial_missing" 342 52,er w "reduce" 354 60,er w "_twin_re_1" 394 65,er w "_whence" 404 72,er w "_index" 412 79,er w "UnsupportedOperation" 434 89,er w "IOBase" 466 109,er w "BufferedIOBase" 484 124,er w "TextIOBase" 502 136,er w "BytesIO" 764 366,er w "StringIO" 1051 613,er w "_kind" 1062 622,er w "_fspath" 1071 629,er w "_check_arg_types" 1081 636,er w "isabs" 1088 643,er w "join" 1099 767,er w "join_path" 1100 650,er w "dirname" 1110 657,er w "shlex" 1251 748,er w "split" 1261 760,er w "join_shlex" 1269 767,er w "_find_unsafe" 1271 768,er w "quote" 1278 775,er w "_law_drawn" 1286 780,er w "_law_compared" 1296 787,er w "_law_put" 1302 792,er w "_law_safe" 1309 799,er w "_law_rank" 1315 804,er w "_law_orders" 1321 809,er w "_law_every" 1327 814,er w "_law_six" 1335 821,er w "law" 1341 826] 45 }),
 (4,{ cls:=.type "module",dict:=some 0,data:=.plain }),
 (50,cdO "cmp_to_key" "cmp_to_key" 333 7 1 0 0 3 45 46 .none (.ref 47) (.ref 48) (.ref 49) 339 340),
 (51,{ cls:=.type "function",data:=.func (Jb (pS 4) "cmp_to_key" "cmp_to_key" 3 0 (.none) (.none) (.none) (.str "cpy313.functools" 331) none (.ref 50) (.none) 0) }),
 (52,{ cls:=.type "object",data:=.plain }),
 (53,{ cls:=.type "tuple",data:=.seq #[.ref 52] 0 }),
 (59,cdO "reduce" "reduce" 343 33 3 0 0 3 54 55 .none (.ref 56) (.ref 57) (.ref 58) 352 353),
 (60,{ cls:=.type "function",data:=.func (Jb (pS 6) "reduce" "reduce" 3 0 (.ref 53) (.none) (.none) (.str "cpy313.functools" 331) none (.ref 59) (.none) 0) }),
 (64,{ cls:=.type "tuple",data:=.seq #[.int 14 0,.int 17 0,.int 4 0,.int 1 0,.int 1 0,.int 21 0,.int 9 0,.int 0 0,.int 604043296 0,.int 1 0,.int 0 0,.int 0 0,.int 0 0,.int 0 0,.int 0 0,.int 8 0,.int 4 0,.int 0 0,.int 13 0,.int 14 0,.int 21 0,.int 9 0,.int 0 0,.int 604043296 0,.int 1 0,.int 0 0,.int 0 0,.int 0 0,.int 0 0,.int 0 0,.int 8 0,.int 4 0,.int 0 0,.int 1 0] 0 }),
 (65,{ cls:=.type "re.Pattern",data:=.fields #[.str (S [91,94,92,119,64,37,43,61,58,44,46,47,45,93]) 356,.int 256 393,.int 0 0,.none,.none,.ref 64,.int 0 0] }),
 (78,cdO "_index" "_index" 405 52 2 0 0 3 73 74 .none (.ref 75) (.ref 76) (.ref 77) 410 411),
 (79,{ cls:=.type "function",data:=.func (Jb (pS 10) "_index" "_index" 3 0 (.none) (.none) (.none) (.str "io" 395) none (.ref 78) (.none) 0) }),
 (105,cdO "__new__" "IOBase.__new__" 449 64 1 1 0 15 100 101 .none (.ref 102) (.ref 103) (.ref 104) 455 456),
 (106,{ cls:=.type "function",data:=.func (Jb (Ul (Zu (pS 12)) 1) "__new__" "IOBase.__new__" 3 0 (.none) (.none) (.none) (.str "io" 395) none (.ref 105) (.none) 0) }),
 (108,{ cls:=.type "dict",data:=.dict #[ent w "__module__" 442 (.str "io" 447),ent w "__firstlineno__" 446 (.int 61 445),er w "__new__" 457 110,er w "__static_attributes__" 458 107,er w "__dict__" 461 111,er w "__weakref__" 463 112,ent w "__doc__" 464 (.none)] 4 }),
 (109,{ cls:=.type "type",data:=.cls { name := "IOBase",bases:=[.type "object"],mro:=[.ref 109,.type "object"],ns:=108,qualname := "IOBase",hasDict:=true,slotNames:=[],subclasses:=[.ref 124,.ref 136],abstract:=false,collection:=none,hasDel:=false },slots:=#[none,none,some (.str "IOBase" 435),some (.str "IOBase" 443),some (.none),some (.bool true)] }),
 (110,{ cls:=.type "staticmethod",data:=.fields #[.ref 106] }),
 (135,{ cls:=.type "dict",data:=.dict #[ent w "__module__" 492 (.str "io" 497),ent w "__firstlineno__" 496 (.int 70 495),er w "__static_attributes__" 499 134,ent w "__doc__" 500 (.none)] 2 }),
 (136,{ cls:=.type "type",data:=.cls { name := "TextIOBase",bases:=[.ref 109],mro:=[.ref 136,.ref 109,.type "object"],ns:=135,qualname := "TextIOBase",hasDict:=true,slotNames:=[],subclasses:=[.ref 613],abstract:=false,collection:=none,hasDel:=false },slots:=#[some (.ref 127),none,some (.str "TextIOBase" 485),some (.str "TextIOBase" 493),some (.none),some (.bool true)] }),
 (366,{ cls:=.type "type",data:=.cls { name := "BytesIO",bases:=[.ref 124],mro:=[.ref 366,.ref 124,.ref 109,.type "object"],ns:=365,qualname := "BytesIO",hasDict:=true,slotNames:=[],subclasses:=[],abstract:=false,collection:=none,hasDel:=false },slots:=#[some (.ref 139),none,some (.str "BytesIO" 503),some (.str "BytesIO" 511),some (.none),some (.bool true)] }),
 (376,{ cls:=.type "tuple",data:=.seq #[.str "" 779,.str (S [10]) 780] 0 }),
 (382,cdO "__init__" "StringIO.__init__" 781 245 3 0 0 3 377 378 .none (.ref 379) (.ref 380) (.ref 381) 787 788),
 (383,{ cls:=.type "function",data:=.func (Jb (Ul (Zu (pS 16)) 1) "__init__" "StringIO.__init__" 3 0 (.ref 376) (.none) (.none) (.str "io" 395) none (.ref 382) (.none) 0) }),
 (389,cdO "__translated" "StringIO.__translated" 790 258 2 0 0 3 384 385 .none (.ref 386) (.ref 387) (.ref 388) 796 797),
 (390,{ cls:=.type "function",data:=.func (Jb (Ul (Zu (pS 16)) 2) "__translated" "StringIO.__translated" 3 0 (.none) (.none) (.none) (.str "io" 395) none (.ref 389) (.none) 0) }),
 (396,cdO "__check" "StringIO.__check" 799 266 1 0 0 3 391 392 .none (.ref 393) (.ref 394) (.ref 395) 803 804),
 (397,{ cls:=.type "function",data:=.func (Jb (Ul (Zu (pS 16)) 3) "__check" "StringIO.__check" 3 0 (.none) (.none) (.none) (.str "io" 395) none (.ref 396) (.none) 0) }),
 (552,{ cls:=.type "tuple",data:=.seq #[.int (-1) 972] 0 }),
 (558,cdO "read" "StringIO.read" 973 388 2 2 0 3 553 554 .none (.ref 555) (.ref 556) (.ref 557) 980 981),
 (559,{ cls:=.type "function",data:=.func (Jb (Ul (Zu (pS 16)) 25) "read" "StringIO.read" 3 0 (.ref 552) (.none) (.none) (.str "io" 395) none (.ref 558) (.none) 0) }),
 (612,{ cls:=.type "dict",data:=.dict #[ent w "__module__" 772 (.str "_io" 777),ent w "__firstlineno__" 776 (.int 242 775),er w "__init__" 789 383,er w "_StringIO__translated" 798 390,er w "_StringIO__check" 805 397,er w "_StringIO__check_dot" 812 404,er w "_StringIO__line" 827 411,er w "closed" 835 419,er w "line_buffering" 843 427,er w "newlines" 851 435,er w "encoding" 859 443,er w "errors" 867 451,er w "close" 874 458,er w "__enter__" 881 465,er w "__exit__" 889 472,er w "readable" 896 479,er w "writable" 903 486,er w "seekable" 910 493,er w "isatty" 917 500,er w "flush" 924 507,er w "fileno" 931 514,er w "detach" 938 521,er w "getvalue" 945 528,er w "tell" 952 535,er w "seek" 962 543,er w "truncate" 970 551,er w "read" 982 559,er w "readline" 992 567,er w "readlines" 1002 575,er w "__iter__" 1009 582,er w "__next__" 1017 589,er w "write" 1029 596,er w "writelines" 1037 603,er w "__repr__" 1044 610,er w "__static_attributes__" 1048 611,ent w "__doc__" 1049 (.none)] 2 }),
 (613,{ cls:=.type "type",data:=.cls { name := "StringIO",bases:=[.ref 136],mro:=[.ref 613,.ref 136,.ref 109,.type "object"],ns:=612,qualname := "StringIO",hasDict:=true,slotNames:=[],subclasses:=[],abstract:=false,collection:=none,hasDel:=false },slots:=#[some (.ref 369),none,some (.str "StringIO" 765),some (.str "StringIO" 773),some (.none),some (.bool true)] }),
 (665,{ cls:=.type "tuple",data:=.seq #[.none,.none,.bool false,.bool false] 0 }),
 (671,cdO "__init__" "shlex.__init__" 1125 514 5 0 0 3 666 667 .none (.ref 668) (.ref 669) (.ref 670) 1134 1135),
 (672,{ cls:=.type "function",data:=.func (Jb (Ul (Zu (pS 26)) 0) "__init__" "shlex.__init__" 3 0 (.ref 665) (.none) (.none) (.str "cpy313.shlex" 1111) none (.ref 671) (.none) 0) }),
 (678,cdO "punctuation_chars" "shlex.punctuation_chars" 1137 555 1 0 0 3 673 674 .none (.ref 675) (.ref 676) (.ref 677) 1141 1142),
 (679,{ cls:=.type "function",data:=.func (Jb (Ul (Zu (pS 26)) 1) "punctuation_chars" "shlex.punctuation_chars" 3 0 (.none) (.none) (.none) (.str "cpy313.shlex" 1111) none (.ref 678) (.none) 0) }),
 (680,{ cls:=.type "property",data:=.fields #[.ref 679,.none,.none,.none,.str "punctuation_chars" 1144,.bool false] }),
 (686,cdO "push_token" "shlex.push_token" 1145 559 2 0 0 3 681 682 .none (.ref 683) (.ref 684) (.ref 685) 1150 1151),
 (687,{ cls:=.type "function",data:=.func (Jb (Ul (Zu (pS 26)) 2) "push_token" "shlex.push_token" 3 0 (.none) (.none) (.none) (.str "cpy313.shlex" 1111) none (.ref 686) (.none) 0) }),
 (708,cdO "get_token" "shlex.get_token" 1169 582 1 0 0 3 703 704 .none (.ref 705) (.ref 706) (.ref 707) 1178 1179),
 (709,{ cls:=.type "function",data:=.func (Jb (Ul (Zu (pS 26)) 5) "get_token" "shlex.get_token" 3 0 (.none) (.none) (.none) (.str "cpy313.shlex" 1111) none (.ref 708) (.none) 0) }),
 (715,cdO "read_token" "shlex.read_token" 1181 609 1 0 0 3 710 711 .none (.ref 712) (.ref 713) (.ref 714) 1189 1190),
 (716,{ cls:=.type "function",data:=.func (Jb (Ul (Zu (pS 26)) 6) "read_token" "shlex.read_token" 3 0 (.none) (.none) (.none) (.str "cpy313.shlex" 1111) none (.ref 715) (.none) 0) }),
 (737,cdO "__iter__" "shlex.__iter__" 1209 756 1 0 0 3 732 733 .none (.ref 734) (.ref 735) (.ref 736) 1213 1214),
 (738,{ cls:=.type "function",data:=.func (Jb (Ul (Zu (pS 26)) 9) "__iter__" "shlex.__iter__" 3 0 (.none) (.none) (.none) (.str "cpy313.shlex" 1111) none (.ref 737) (.none) 0) }),
 (744,cdO "__next__" "shlex.__next__" 1216 759 1 0 0 3 739 740 .none (.ref 741) (.ref 742) (.ref 743) 1221 1222),
 (745,{ cls:=.type "function",data:=.func (Jb (Ul (Zu (pS 26)) 10) "__next__" "shlex.__next__" 3 0 (.none) (.none) (.none) (.str "cpy313.shlex" 1111) none (.ref 744) (.none) 0) }),
 (747,{ cls:=.type "dict",data:=.dict #[ent w "__module__" 1120 (.str "cpy313.shlex" 1111),ent w "__firstlineno__" 1124 (.int 512 1123),er w "__init__" 1136 672,er w "punctuation_chars" 1144 680,er w "push_token" 1152 687,er w "push_source" 1161 695,er w "pop_source" 1168 702,er w "get_token" 1180 709,er w "read_token" 1191 716,er w "sourcehook" 1199 723,er w "error_leader" 1208 731,er w "__iter__" 1215 738,er w "__next__" 1223 745,er w "__static_attributes__" 1244 746,er w "__dict__" 1246 749,er w "__weakref__" 1248 750,ent w "__doc__" 1249 (.none)] 4 }),
 (748,{ cls:=.type "type",data:=.cls { name := "shlex",bases:=[.type "object"],mro:=[.ref 748,.type "object"],ns:=747,qualname := "shlex",hasDict:=true,slotNames:=[],subclasses:=[],abstract:=false,collection:=none,hasDel:=false },slots:=#[none,none,some (.str "shlex" 1113),some (.str "shlex" 1121),some (.builtin "object.__new__"),some (.bool true)] }),
 (753,{ cls:=.type "tuple",data:=.seq #[.bool false,.bool true] 0 }),
 (759,cdO "split" "split" 1252 764 3 0 0 3 754 755 .none (.ref 756) (.ref 757) (.ref 758) 1259 1260),
 (760,{ cls:=.type "function",data:=.func (Jb (pS 27) "split" "split" 3 0 (.ref 753) (.none) (.none) (.str "cpy313.shlex" 1111) none (.ref 759) (.none) 0) }),
 (766,cdO "join" "join" 1262 772 1 0 0 3 761 762 .none (.ref 763) (.ref 764) (.ref 765) 1266 1267),
 (767,{ cls:=.type "function",data:=.func (Jb (pS 28) "join" "join" 3 0 (.none) (.none) (.none) (.str "cpy313.shlex" 1111) none (.ref 766) (.none) 0) }),
 (768,{ cls:=.type "builtin_function_or_method",data:=.fields #[.builtin "re.Pattern.search",.ref 65] }),
 (774,cdO "quote" "quote" 1272 776 1 0 0 3 769 770 .none (.ref 771) (.ref 772) (.ref 773) 1276 1277),
 (775,{ cls:=.type "function",data:=.func (Jb (pS 31) "quote" "quote" 3 0 (.none) (.none) (.none) (.str "cpy313.shlex" 1111) none (.ref 774) (.none) 0) }),
 (779,cdO "_law_drawn" "_law_drawn" 1281 783 1 0 0 3 776 777 .none .none .none (.ref 778) 1284 1285),
 (780,{ cls:=.type "function",data:=.func (Jb (pS 33) "_law_drawn" "_law_drawn" 3 0 (.none) (.none) (.none) (.str "law_ij0140_01" 1279) none (.ref 779) (.none) 0) }),
 (786,cdO "_law_compared" "_law_compared" 1287 797 2 0 0 3 781 782 .none (.ref 783) (.ref 784) (.ref 785) 1294 1295),
 (787,{ cls:=.type "function",data:=.func (Jb (pS 34) "_law_compared" "_law_compared" 3 0 (.none) (.none) (.none) (.str "law_ij0140_01" 1279) none (.ref 786) (.none) 0) }),
 (791,cdO "_law_put" "_law_put" 1297 802 2 0 0 3 788 789 .none .none .none (.ref 790) 1300 1301),
 (792,{ cls:=.type "function",data:=.func (Jb (pS 35) "_law_put" "_law_put" 3 0 (.none) (.none) (.none) (.str "law_ij0140_01" 1279) none (.ref 791) (.none) 0) }),
 (798,cdO "_law_safe" "_law_safe" 1303 807 1 0 0 3 793 794 .none (.ref 795) (.ref 796) (.ref 797) 1307 1308),
 (799,{ cls:=.type "function",data:=.func (Jb (pS 36) "_law_safe" "_law_safe" 3 0 (.none) (.none) (.none) (.str "law_ij0140_01" 1279) none (.ref 798) (.none) 0) }),
 (803,cdO "_law_rank" "_law_rank" 1310 809 1 0 0 3 800 801 .none .none .none (.ref 802) 1313 1314),
 (804,{ cls:=.type "function",data:=.func (Jb (pS 37) "_law_rank" "_law_rank" 3 0 (.none) (.none) (.none) (.str "law_ij0140_01" 1279) none (.ref 803) (.none) 0) }),
 (808,cdO "_law_orders" "_law_orders" 1316 813 1 0 0 3 805 806 .none .none .none (.ref 807) 1319 1320),
 (809,{ cls:=.type "function",data:=.func (Jb (pS 38) "_law_orders" "_law_orders" 3 0 (.none) (.none) (.none) (.str "law_ij0140_01" 1279) none (.ref 808) (.none) 0) }),
 (813,cdO "_law_every" "_law_every" 1322 817 1 0 0 3 810 811 .none .none .none (.ref 812) 1325 1326),
 (814,{ cls:=.type "function",data:=.func (Jb (pS 39) "_law_every" "_law_every" 3 0 (.none) (.none) (.none) (.str "law_ij0140_01" 1279) none (.ref 813) (.none) 0) }),
 (820,cdO "_law_six" "_law_six" 1328 823 2 0 0 3 815 816 .none (.ref 817) (.ref 818) (.ref 819) 1333 1334),
 (821,{ cls:=.type "function",data:=.func (Jb (pS 40) "_law_six" "_law_six" 3 0 (.none) (.none) (.none) (.str "law_ij0140_01" 1279) none (.ref 820) (.none) 0) }),
 (825,cdO "law" "law" 1336 825 1 0 0 3 822 823 .none .none .none (.ref 824) 1339 1340),
 (826,{ cls:=.type "function",data:=.func (Jb (pS 41) "law" "law" 3 0 (.none) (.none) (.none) (.str "law_ij0140_01" 1279) none (.ref 825) (.none) 0) })]
noncomputable def Zgb (a:Nat):LC->Option Obj
 | []=>none
 | (b,o)::r=>match Nat.beq a b with
  | true=>some o
  | false=>Zgb a r
noncomputable def Z0n (w:Hs) (L:Lx) (s s':Lt) (e:Int) (U:Str):Fam:=fun n t _ l _=>Z4b w L (Ms l) s s' e U n t
noncomputable def Zkr (w:Hs) (L:Lx) (s:Lt) (e:Int) (v:Str) (tv:Nat) (r:List (Str×Nat)):Fam:=fun n t _ l _=>Zra w L (Ms l) s e (e+1) v tv r n t
noncomputable def Zex (L:Lx):Code:=.call (.ref 745) ⟨[.ref L.lex],[]⟩
noncomputable def Z4k (w:Hs) (L:Lx) (tk:LM) (s s':Lt) (e:Int) (U:Str) (n t:Nat):Con where
 pre:=Ya w L tk s++[(L.pb,dqO e [])]
 post x:=Ya w L x.tk s'++[(L.pb,dqO e [])]
 fresh _:=[]
 code:=Zex L
 res x:=.ok (.ret (.str U (x.nat 6)))
 need:=51
 fr:=none
noncomputable def Zro (w:Hs) (L:Lx) (tk:LM) (s:Lt) (e:Int) (v:Str) (tv:Nat) (r:List (Str×Nat)) (n t:Nat):Con where
 pre:=Ya w L tk s++[(L.pb,dqO e ((v,tv)::r))]
 post x:=Ya w L tk s++[(L.pb,dqO (e+1) r)]
 fresh _:=[]
 code:=Zex L
 res x:=.ok (.ret (.str v tv))
 need:=51
 fr:=none
structure Zx (α:Type) where
 pre:LC
 post:Ext->LC
 fresh:Ext->LC
 tree:Sem α
 res:Ext->Except Value α
 need:Nat
 fr:Option (List Env)
 preB:List Bag:=[]
 postB:Ext->List Bag:=fun _=>[]
 made:Ext->Nat:=fun x=>x.nat 0
noncomputable def Zx.preA {α:Type} (K:Zx α):LC:=K.pre++Zt K.preB
noncomputable def Zx.postA {α:Type} (K:Zx α) (x:Ext):LC:=(K.fresh x++K.post x)++Zt (K.postB x)
noncomputable def Zlq {α:Type} (Q:α->Shared->Prop) (E:LF):Except Value α->Shared->Prop
 | .ok a=>Q a
 | .error e=>E e
structure Xq {α:Type} (T:Params->LE) (prog:Program) (w:World) (n t:Nat) (K:Zx α):Prop where
 run:∀ (H h:Heap) (r:Zb3) (g:LK) (A:Around) (Q:α->Shared->Prop) (E:LF),Ground T w H->AOk A K.fr K.need->Own H K.preA h->h.objs.size=n ->
  (∀ x h' g',Own H (K.postA x) h'->h'.objs.size=n+K.made x->Zq true g g'->Zlq Q E (K.res x) (r.at h' ⟨t+x.nat 1,g'⟩))->wpAny (model prog w) A K.tree Q E (r.at h ⟨t,g⟩)
theorem Xq.use {K:Zx α} (hK:Xq T prog w n t K) {rest:LC} {Q:α->Shared->Prop}
  (G:Ground T w H) (hA:AOk A K.fr K.need) (O:Own H l h) (hp:l.Perm (K.preA++rest)) (hs:h.objs.size=n)
  (hR:∀ x h' g',Own H (K.postA x++rest) h'->h'.objs.size=n+K.made x->Zq true g g'->Zlq Q E (K.res x) (r.at h' ⟨t+x.nat 1,g'⟩)):wpAny (model prog w) A K.tree Q E (r.at h ⟨t,g⟩):=by
 have O1:=O.perm hp
 obtain ⟨G',O'⟩:=G6 G O1
 exact hK.run _ h r g A Q E G' hA O' hs fun x h' g' O2 qS hg=>hR x h' g' (Zc0 O1 O2) qS hg
noncomputable def Zoc {α:Type} (ks kb:List Nat) (o:Out α):Option (Except Value α×LA×LB×List Prop):=match o with
 | .ok f s=>some (.ok f,Xl s.objs ks,Xl s.bags kb,s.obl)
 | .err e s=>some (.error e,Xl s.objs ks,Xl s.bags kb,s.obl)
 | _=>none
noncomputable def Z5n {α:Type} (o:Out α):List Vd:=match o with
 | .ok _ s=>s.eqs.map (·.1)
 | .err _ s=>s.eqs.map (·.1)
 | _=>[]
noncomputable def Z5u {α:Type} (o:Out α):List Vd:=match o with
 | .ok _ s=>s.eqs.map (·.2)
 | .err _ s=>s.eqs.map (·.2)
 | _=>[]
noncomputable def Zed {α:Type} (ex:Except Value α->LA->LB->Ext) (ks kb:List Nat) (o:Out α):Ext:=match o with
 | .ok f s=>match ex (.ok f) (Xl s.objs ks) (Xl s.bags kb) with | ⟨nt,sl,sq,ob⟩=>⟨fun j=>match j with | 0=>s.m | 1=>s.i | j+2=>nt j,sl,sq,ob⟩
 | .err e s=>match ex (.error e) (Xl s.objs ks) (Xl s.bags kb) with | ⟨nt,sl,sq,ob⟩=>⟨fun j=>match j with | 0=>s.m | 1=>s.i | j+2=>nt j,sl,sq,ob⟩
 | _=>Ext.nil
theorem Gq {ex:Except Value α->LA->LB->Ext} (o:Out α) :
  match o with | .ok _ s=>(Zed ex ks kb o).nat 0=s.m/\(Zed ex ks kb o).nat 1=s.i | .err _ s=>(Zed ex ks kb o).nat 0=s.m/\(Zed ex ks kb o).nat 1=s.i | _=>True:=by
 cases o<;>first | exact ⟨rfl,rfl⟩ | trivial
theorem Zdk {sts:List Str} {cons:List Fam} {H:Zba} {K:Zx α} {Q:α->Shared->Prop} (o:Out α)
  (x:Ext) (hks:ks.Nodup) (hkb:kb.Nodup) {P:List Prop} (hx:match o with | .ok _ s=>x.nat 0=s.m/\x.nat 1=s.i | .err _ s=>x.nat 0=s.m/\x.nat 1=s.i | _=>True)
  (hv:Zoc ks kb o=some (K.res x,(K.fresh x++K.post x).map some,(K.postB x).map some,P)) (he:Z5n o=Z5u o) (hP:∀ p∈P,p) (hmd:K.made x=x.nat 0)
  (hR:∀ x h' g',Own H.heap (K.postA x) h'->h'.objs.size=n+K.made x->Zq true H.gens g'->Zlq Q E (K.res x) (r.at h' ⟨t+x.nat 1,g'⟩)) :
  Uh (CZ T prog w n t sts cons) H r o Q E:=by
 cases o with
 | stop _ _ _=>cases hv
 | more _=>cases hv
 | look _=>cases hv
 | ok f st =>
  have hv':=Zfs hv
  simp only [Prod.mk.injEq] at hv'
  obtain ⟨v1,v2,v3,v4⟩:=hv'
  refine ⟨⟨Za3 he,by rw [v4]; exact hP⟩,fun h' tk' D=>?_⟩
  have z:=hR x h' tk'.gens (Jx D hks hkb v2 v3) (by rw [hmd,hx.1]; exact D.size) D.gens.may
  rw [← v1] at z
  obtain ⟨tok,gens⟩:=tk'
  have:=D.toks
  dsimp only at this
  rw [hx.2] at z
  subst this
  exact z
 | err e st =>
  have hv':=Zfs hv
  simp only [Prod.mk.injEq] at hv'
  obtain ⟨v1,v2,v3,v4⟩:=hv'
  refine ⟨⟨Za3 he,by rw [v4]; exact hP⟩,fun h' tk' D=>?_⟩
  have z:=hR x h' tk'.gens (Jx D hks hkb v2 v3) (by rw [hmd,hx.1]; exact D.size) D.gens.may
  rw [← v1] at z
  obtain ⟨tok,gens⟩:=tk'
  have:=D.toks
  dsimp only at this
  rw [hx.2] at z
  subst this
  exact z
noncomputable def Gd {α:Type} (T:Params->LE) (prog:Program) (w:World) (n t:Nat) (sts:List Str) (cons:List Fam) (K:Zx α) (orc:List Nat) (f:Nat->Ext):Out α :=
 Zj1 (Mv (CZ T prog w n t sts cons) (Zrz (CZ T prog w n t sts cons) K.need K.fr) K.tree (N3 K.pre K.preB orc)) f
noncomputable abbrev Ga {α:Type} (ks kb:List Nat) (K:Zx α) (ex:Except Value α->LA->LB->Ext) (P:List Prop) (o:Out α):Prop :=
 (Zoc ks kb o,Z5n o)=(some (K.res (Zed ex ks kb o),(K.fresh (Zed ex ks kb o)++K.post (Zed ex ks kb o)).map some,(K.postB (Zed ex ks kb o)).map some,P),Z5u o)
theorem Zjh {sts:List Str} {cons:List Fam} {K:Zx α}
  {ex:(Nat->Ext)->Except Value α->LA->LB->Ext} {P:(Nat->Ext)->List Prop}
  (hC:Z4 T prog w cons) (hks:Xx ks=true) (hkb:Xx kb=true)
  (h:∀ f,Ga ks kb K (ex f) (P f) (Gd T prog w n t sts cons K orc f)) (hP:∀ f,∀ p∈P f,p) (hmd:∀ x,K.made x=x.nat 0:=by exact fun _=>rfl):Xq T prog w n t K:=by
 refine ⟨fun H h' r g A Q E G hA O hs hR=>?_⟩
 have ok:Mu (CZ T prog w n t sts cons) prog w ⟨H,g⟩ r:=Zmf G hC
 refine (Xw ok (Vz ok K.need K.fr) Q E K.tree (N3 K.pre K.preB orc) (Vs _ fun f=>?_)).2 A h' ⟨t,g⟩ hA ⟨hs,rfl,O.own,O.nodup,O.keep,O.apart,Zq.refl _ _⟩
 exact Zdk (Gd T prog w n t sts cons K orc f) (Zed (ex f) ks kb (Gd T prog w n t sts cons K orc f)) (Yq hks) (Yq hkb) (Gq _) (Yr Prod.fst (h f)) (Yr Prod.snd (h f)) (hP f) (hmd _) hR
noncomputable def exN (f:LM):Ext:=⟨f,fun _=>#[],fun _ _ _=>0,Ext.nil.ob⟩
noncomputable def Js (top:LE) (fr:Addr):Env:={ scope:=(Z7 top 745).scope,locals:=fr,globals:=3,cells:=[],qual := "shlex.__next__.<locals>.",func:=some 745,code:=.ref 744,frame:=some fr,builtins:=0 }
noncomputable def Z54 (w:Hs) (L:Lx) (k:Nat):Obj:={ cls:=.type "frame",data:=.dict #[ent w "self" k (.ref L.lex)] 1 }
noncomputable def Zno (w:Hs) (L:Lx) (k k':Nat):Obj:={ cls:=.type "frame",data:=.dict #[ent w "self" k (.ref L.lex),ent w "token" k' .none] 2 }
noncomputable def Zlp (w:Hs) (top:LE) (prep:Addr->FuncData->Args->Sem Env) (L:Lx) (n t:Nat):Zx Env where
 pre:=[]
 post _:=[]
 fresh x:=[(n,Z54 w L (x.nat 2))]
 tree:=prep 745 (Z7 top 745) ⟨[.ref L.lex],[]⟩
 res _:=.ok (Js top n)
 need:=20
 fr:=none
noncomputable def Xn (w:Hs) (L:Lx) (tk:LM) (s:Lt) (e e':Int):LC:=Ya w L tk s++[(L.pb,dqO e []),(L.fk,dqO e' [])]
noncomputable def Zl8 (w:Hs) (L:Lx) (s s':Lt) (e e':Int):Fam:=fun n t _ l _=>Zrw w L (Ms l) s s' e e' n t
noncomputable def Z8h (w:Hs) (top:LE) (exs:List Stmt->Env->Sem Flow) (L:Lx) (tk:LM) (fr k:Nat) (s s':Lt) (e e':Int) (n t:Nat):Zx Flow where
 pre:=(fr,Z54 w L k)::Xn w L tk s e e'
 post x:=(fr,Zno w L k (x.nat 6))::Xn w L x.tk s' e e'
 fresh _:=[]
 tree:=exs [Zl (Z7 top 745) 0] (Js top fr)
 res _:=.ok .next
 need:=50
 fr:=none
noncomputable def Xf (s:Stmt):Expr:=N9 (vS s).1 0
noncomputable def M8 (s:Stmt):Expr:=N9 (vS (Ul (vS s).2.1 0)).1 0
noncomputable def Yac (w:Hs) (top:LE) (isT:Expr->Env->Sem Value->Sem Bool) (ev:Expr->Env->Sem Value) (L:Lx) (tk:LM) (fr k k':Nat) (s:Lt) (n t:Nat):Zx Bool where
 pre:=(fr,Zno w L k k')::Ya w L tk s
 post _:=(fr,Zno w L k k')::Ya w L tk s
 fresh _:=[]
 tree:=isT (Xf (Zl (Z7 top 745) 1)) (Js top fr) (ev (Xf (Zl (Z7 top 745) 1)) (Js top fr))
 res _:=.ok true
 need:=20
 fr:=none
noncomputable def Z20 (o:Out Flow):Nat:=match o with
 | .ok _ s=>s.m
 | .err _ s=>s.m
 | _=>0
noncomputable def Zeb {α:Type} (o:Out α):Nat:=match o with
 | .ok _ s=>s.m
 | .err _ s=>s.m
 | _=>0
theorem G8 {ex:Except Value α->LA->LB->Ext} (o:Out α):(Zed ex ks kb o).nat 0=Zeb o:=by
 cases o<;>rfl
theorem Zl9 {ex:Result->LA->LB->Ext} (o:Out Flow):(Znd ex ks kb o).nat 0=Z20 o:=by
 cases o<;>rfl
theorem Zge {sts:List Str} {cons:List Fam} {K:Zx α}
  {ex:(Nat->Ext)->Except Value α->LA->LB->Ext} {P:(Nat->Ext)->List Prop}
  (hC:Z4 T prog w cons) (hks:Xx ks=true) (hkb:Xx kb=true) (k:Nat) (hm:∀ x,K.made x=k)
  (h:∀ f,(Ga ks kb K (ex f) (P f) (Gd T prog w n t sts cons K orc f))/\Zeb (Gd T prog w n t sts cons K orc f)=k) (hP:∀ f,∀ p∈P f,p):Xq T prog w n t K:=by
 refine ⟨fun H h' r g A Q E G hA O hs hR=>?_⟩
 have ok:Mu (CZ T prog w n t sts cons) prog w ⟨H,g⟩ r:=Zmf G hC
 refine (Xw ok (Vz ok K.need K.fr) Q E K.tree (N3 K.pre K.preB orc) (Vs _ fun f=>?_)).2 A h' ⟨t,g⟩ hA ⟨hs,rfl,O.own,O.nodup,O.keep,O.apart,Zq.refl _ _⟩
 exact Zdk (Gd T prog w n t sts cons K orc f) (Zed (ex f) ks kb (Gd T prog w n t sts cons K orc f)) (Yq hks) (Yq hkb) (Gq _) (Yr Prod.fst (h f).1) (Yr Prod.snd (h f).1) (hP f) (by rw [hm,G8]; exact (h f).2.symm) hR
noncomputable def hz (w:World):Hs:=fun k=>condFn Int (Str.ofString k).cps.isEmpty 0 (W.ZFast.zw12210062019545310541 (w.params.strHash (Str.ofString k).cps))
noncomputable def hzP (p:Params):Hs:=fun k=>condFn Int (Str.ofString k).cps.isEmpty 0 (W.ZFast.zw12210062019545310541 (p.strHash (Str.ofString k).cps))
noncomputable def T2:Params->Addr->Option Obj:=gate (fun p a=>Zgb a (Znq (hzP p))) 0
noncomputable abbrev TK {α:Type} (prog:Program) (w:World) (b:Bool) (K:Bool->Nat->Nat->Zx α):Prop:=∀ n t,Xq T2 prog (wb w b) n t (K b n t)
noncomputable def Zh6:List Prop->Prop
 | []=>True
 | p::l=>p/\Zh6 l
theorem Np:∀ {l:List Prop},Zh6 l->∀ p∈l,p
 | _::_,h,_,.head _=>h.1
 | _::_,h,_,.tail _ hp=>Np h.2 _ hp
noncomputable abbrev RdC:=(Nat->Ext)->Result->LA->LB->Ext
noncomputable abbrev ShC:=(Bool×Bool×(Ext->Nat)×Option (Result×LA×LB×List Prop))×List Vd×Nat
noncomputable def lC (c:Bool) (ks:List Nat) (K:Con) (o:Out Flow):ShC:=((Xx ks,(match K.gen with | true=>true | false=>Z7h o),K.made,Zve ks [] o),eqL o,match c with | true=>Z20 o | false=>0)
noncomputable def rC (k:Option Nat) (ks:List Nat) (K:Con) (ex:Result->LA->LB->Ext) (P:List Prop) (o:Out Flow):ShC:=((true,true,(match k with | some k=>fun _=>k | none=>fun x=>x.nat 0),some (K.res (Znd ex ks [] o),(K.fresh (Znd ex ks [] o)++K.post (Znd ex ks [] o)).map some,(K.postB (Znd ex ks [] o)).map some,P)),eqR o,match k with | some k=>k | none=>0)
theorem Zms {sts:List Str} {cons:List Fam} {K:Con} (k:Option Nat) (hC:Z4 T2 prog w cons) {ex:RdC} {P:(Nat->Ext)->List Prop} (hP:∀ f,∀ p∈P f,p)
  (h:∀ f,lC k.isSome ks K (Zib T2 prog w n t sts cons K orc f)=rC k ks K (ex f) (P f) (Zib T2 prog w n t sts cons K orc f)):Z6 T2 prog w n t K:=by
 have a:=fun f=>Yr (·.1) (h f)
 have e1:=fun f=>Yr (·.2.2.2) (a f)
 have e2:=fun f=>Yr (·.2.1) (h f)
 have d:=Yr (·.1) (a fun _=>Ext.nil)
 have m:=Yr (·.2.2.1) (a fun _=>Ext.nil)
 refine Zop (kb:=[]) hC (fun f=>Znd (ex f) ks [] (Zib T2 prog w n t sts cons K orc f)) d rfl P (fun f=>Zpl _) e1 e2 hP (fun hg f=>?_) fun f=>?_
 ·have z:=Yr (·.2.1) (a f)
  dsimp only [lC,rC] at z
  rw [hg] at z
  exact z
 ·refine (Us m _).trans ?_
  cases k with
  | none=>rfl
  | some k=>exact (Yr (·.2.2) (h f)).symm.trans (Zl9 _).symm
noncomputable def lD (prog:Program) (w:World) (n t:Nat) (sts:List Str) (cons:Bool->List Fam) (K:Bool->Con) (ks orc:List Nat) (c:Bool) (f:Nat->Ext):ShC×ShC :=
 (lC c ks (K false) (Zib T2 prog (wb w false) n t sts (cons false) (K false) orc f),lC c ks (K true) (Zib T2 prog (wb w true) n t sts (cons true) (K true) orc f))
noncomputable def rD (prog:Program) (w:World) (n t:Nat) (sts:List Str) (cons:Bool->List Fam) (K:Bool->Con) (ks orc:List Nat) (k:Option Nat) (ex:RdC) (P:(Nat->Ext)->List Prop) (f:Nat->Ext):ShC×ShC :=
 (rC k ks (K false) (ex f) (P f) (Zib T2 prog (wb w false) n t sts (cons false) (K false) orc f),rC k ks (K true) (ex f) (P f) (Zib T2 prog (wb w true) n t sts (cons true) (K true) orc f))
noncomputable abbrev CQ (prog:Program) (w:World) (b:Bool) (n t:Nat) (K:Bool->Con):Prop:=Z6 T2 prog (wb w b) n t (K b)
theorem Zoe {sts:List Str} {cons:Bool->List Fam} {K:Bool->Con} (k:Option Nat) (hC:Z4 T2 prog (wb w b) (cons b)) {ex:RdC} {P:(Nat->Ext)->List Prop} (hP:∀ f,Zh6 (P f))
  (h:lD prog w n t sts cons K ks orc k.isSome=rD prog w n t sts cons K ks orc k ex P):CQ prog w b n t K:=by
 cases b
 ·exact Zms k hC (fun f=>Np (hP f)) fun f=>Yr Prod.fst (Us h f)
 ·exact Zms k hC (fun f=>Np (hP f)) fun f=>Yr Prod.snd (Us h f)
theorem p0:Zh6 []:=trivial
theorem pc {p:Prop} {l:List Prop} (h:p) (hl:Zh6 l):Zh6 (p::l):=⟨h,hl⟩
theorem Zfo {cons:Bool->List Fam} {K:Bool->Con} (sts:List Str) (hC:Z4 T2 prog (wb w b) (cons b)) (ks orc:List Nat) (ex:RdC) {P:List Prop} (hP:Zh6 P)
  (h:lD prog w n t sts cons K ks orc false=rD prog w n t sts cons K ks orc none ex (fun _=>P):=by kernel_rfl):CQ prog w b n t K :=
 Zoe none hC (fun _=>hP) h
theorem ckh {cons:List Fam} {K:Bool->Con} (sts:List Str) (hC:Z4 T2 prog (wb w b) cons) (ks orc:List Nat) (ex:RdC) {P:List Prop} (hP:Zh6 P)
  (h:lD prog w n t sts (fun _=>cons) K ks orc false=rD prog w n t sts (fun _=>cons) K ks orc none ex (fun _=>P):=by kernel_rfl):CQ prog w b n t K :=
 Zoe none (cons:=fun _=>cons) hC (fun _=>hP) h
theorem ckhf {cons:List Fam} {K:Bool->Con} (sts:List Str) (hC:Z4 T2 prog (wb w b) cons) (ks orc:List Nat) (ex:RdC) (P:(Nat->Ext)->List Prop) (hP:∀ f,Zh6 (P f))
  (h:lD prog w n t sts (fun _=>cons) K ks orc false=rD prog w n t sts (fun _=>cons) K ks orc none ex P:=by kernel_rfl):CQ prog w b n t K :=
 Zoe none (cons:=fun _=>cons) hC hP h
theorem Zdo {cons:Bool->List Fam} {K:Bool->Con} (hC:Z4 T2 prog (wb w b) (cons b)) (ks orc:List Nat) (ex:RdC)
  (h:lD prog w n t [] cons K ks orc false=rD prog w n t [] cons K ks orc none ex (fun _=>[]):=by kernel_rfl):CQ prog w b n t K :=
 Zfo [] hC ks orc ex p0 h
theorem ckx {cons:List Fam} {K:Bool->Con} (hC:Z4 T2 prog (wb w b) cons) (ks orc:List Nat) (ex:RdC)
  (h:lD prog w n t [] (fun _=>cons) K ks orc false=rD prog w n t [] (fun _=>cons) K ks orc none ex (fun _=>[]):=by kernel_rfl):CQ prog w b n t K :=
 ckh [] hC ks orc ex p0 h
theorem ckm {cons:List Fam} {K:Bool->Con} (hC:Z4 T2 prog (wb w b) cons) (ks orc:List Nat) (ex:RdC) (k:Nat)
  (h:lD prog w n t [] (fun _=>cons) K ks orc true=rD prog w n t [] (fun _=>cons) K ks orc (some k) ex (fun _=>[]):=by kernel_rfl):CQ prog w b n t K :=
 Zoe (some k) (cons:=fun _=>cons) hC (fun _=>p0) h
noncomputable def Tb (X Y:Type):Nat->Type
 | 0=>PUnit
 | n+1=>Y×(X->Tb X Y n)
noncomputable def tbl {X Y:Type}:∀ n,(List X->Y)->Tb X Y n
 | 0,_=>⟨⟩
 | n+1,F=>(F [],fun x=>tbl n fun l=>F (x::l))
theorem Zq2 {X Y:Type}:∀ n {F G:List X->Y},tbl n F=tbl n G->∀ l,l.length < n->F l=G l
 | _+1,_,_,h,[],_=>Yr Prod.fst h
 | n+1,_,_,h,x::l,hl=>Zq2 n (Us (Yr Prod.snd h) x) l (Nat.lt_of_succ_lt_succ hl)
noncomputable def exS (tk:(Nat->Ext)->Result->LA->LM) (sl:(Nat->Ext)->LA->Nat->LG):RdC:=fun f r l _=>⟨tk f r l,sl f l,fun _ _ _=>0,Ext.nil.ob⟩
noncomputable abbrev RdT (α:Type):=(Nat->Ext)->Except Value α->LA->LB->Ext
noncomputable abbrev ShT (α:Type):=(Bool×(Ext->Nat)×Option (Except Value α×LA×LB×List Prop))×List Vd×Nat
noncomputable def lO {α:Type} (c:Bool) (ks:List Nat) (K:Zx α) (o:Out α):ShT α:=((Xx ks,K.made,Zoc ks [] o),Z5n o,match c with | true=>Zeb o | false=>0)
noncomputable def rO {α:Type} (k:Option Nat) (ks:List Nat) (K:Zx α) (ex:Except Value α->LA->LB->Ext) (P:List Prop) (o:Out α):ShT α:=((true,(match k with | some k=>fun _=>k | none=>fun x=>x.nat 0),some (K.res (Zed ex ks [] o),(K.fresh (Zed ex ks [] o)++K.post (Zed ex ks [] o)).map some,(K.postB (Zed ex ks [] o)).map some,P)),Z5u o,match k with | some k=>k | none=>0)
theorem Zqv {sts:List Str} {cons:List Fam} {K:Zx α} (k:Option Nat) (hC:Z4 T2 prog w cons) {ex:RdT α} {P:List Prop} (hP:∀ p∈P,p)
  (h:∀ f,lO k.isSome ks K (Gd T2 prog w n t sts cons K orc f)=rO k ks K (ex f) P (Gd T2 prog w n t sts cons K orc f)):Xq T2 prog w n t K:=by
 have a:=fun f=>Yr (·.1) (h f)
 have e1:=fun f=>Yr (·.2.2) (a f)
 have e2:=fun f=>Yr (·.2.1) (h f)
 have s:∀ f,Ga ks [] K (ex f) P (Gd T2 prog w n t sts cons K orc f):=fun f=>Prod.ext (e1 f) (e2 f)
 have d:=Yr (·.1) (a fun _=>Ext.nil)
 have m:=Yr (·.2.1) (a fun _=>Ext.nil)
 cases k with
 | none=>exact Zjh (P:=fun _=>P) hC d rfl s (fun _=>hP) fun x=>Us m x
 | some k=>exact Zge (P:=fun _=>P) hC d rfl k (fun x=>Us m x) (fun f=>⟨s f,Yr (·.2.2) (h f)⟩) fun _=>hP
noncomputable def lQ {α:Type} (prog:Program) (w:World) (n t:Nat) (sts:List Str) (cons:Bool->List Fam) (K:Bool->Zx α) (ks orc:List Nat) (c:Bool) (f:Nat->Ext):ShT α×ShT α :=
 (lO c ks (K false) (Gd T2 prog (wb w false) n t sts (cons false) (K false) orc f),lO c ks (K true) (Gd T2 prog (wb w true) n t sts (cons true) (K true) orc f))
noncomputable def rQ {α:Type} (prog:Program) (w:World) (n t:Nat) (sts:List Str) (cons:Bool->List Fam) (K:Bool->Zx α) (ks orc:List Nat) (k:Option Nat) (ex:RdT α) (P:List Prop) (f:Nat->Ext):ShT α×ShT α :=
 (rO k ks (K false) (ex f) P (Gd T2 prog (wb w false) n t sts (cons false) (K false) orc f),rO k ks (K true) (ex f) P (Gd T2 prog (wb w true) n t sts (cons true) (K true) orc f))
theorem Zi0 {sts:List Str} {cons:Bool->List Fam} {K:Bool->Zx α} (k:Option Nat) (hC:Z4 T2 prog (wb w b) (cons b)) {ex:RdT α} {P:List Prop} (hP:Zh6 P)
  (h:lQ prog w n t sts cons K ks orc k.isSome=rQ prog w n t sts cons K ks orc k ex P):Xq T2 prog (wb w b) n t (K b):=by
 cases b
 ·exact Zqv k hC (Np hP) fun f=>Yr Prod.fst (Us h f)
 ·exact Zqv k hC (Np hP) fun f=>Yr Prod.snd (Us h f)
noncomputable abbrev TQ {α:Type} (prog:Program) (w:World) (b:Bool) (n t:Nat) (K:Bool->Zx α):Prop:=Xq T2 prog (wb w b) n t (K b)
theorem tkq {K:Bool->Zx α} (ks orc:List Nat) (ex:RdT α) (k:Nat)
  (h:lQ prog w n t [] (fun _=>[]) K ks orc true=rQ prog w n t [] (fun _=>[]) K ks orc (some k) ex []:=by kernel_rfl):TQ prog w b n t K :=
 Zi0 (some k) (cons:=fun _=>[]) Zd (P:=[]) trivial h
theorem Ya1 {cons:Bool->List Fam} {K:Bool->Zx α} (hC:Z4 T2 prog (wb w b) (cons b)) (ks orc:List Nat) (ex:RdT α) (k:Nat)
  (h:lQ prog w n t [] cons K ks orc true=rQ prog w n t [] cons K ks orc (some k) ex []:=by kernel_rfl):TQ prog w b n t K :=
 Zi0 (some k) hC (P:=[]) trivial h
theorem Zrb {cons:Bool->List Fam} {K:Bool->Zx α} (sts:List Str) (hC:Z4 T2 prog (wb w b) (cons b)) (ks orc:List Nat) (ex:RdT α) {P:List Prop} (hP:Zh6 P)
  (h:lQ prog w n t sts cons K ks orc false=rQ prog w n t sts cons K ks orc none ex P:=by kernel_rfl):TQ prog w b n t K :=
 Zi0 none hC hP h
theorem tqx {cons:List Fam} {K:Bool->Zx α} (hC:Z4 T2 prog (wb w b) cons) (ks orc:List Nat) (ex:RdT α)
  (h:lQ prog w n t [] (fun _=>cons) K ks orc false=rQ prog w n t [] (fun _=>cons) K ks orc none ex []:=by kernel_rfl):TQ prog w b n t K :=
 Zi0 none (cons:=fun _=>cons) hC (P:=[]) trivial h
theorem tqm {cons:List Fam} {K:Bool->Zx α} (hC:Z4 T2 prog (wb w b) cons) (ks orc:List Nat) (ex:RdT α) (k:Nat) {P:List Prop} (hP:Zh6 P)
  (h:lQ prog w n t [] (fun _=>cons) K ks orc true=rQ prog w n t [] (fun _=>cons) K ks orc (some k) ex P:=by kernel_rfl):TQ prog w b n t K :=
 Zi0 (some k) (cons:=fun _=>cons) hC hP h
noncomputable def lM {α:Type} (prog:Program) (w:World) (sts:List Str) (cons:Bool->List Fam) (K:Bool->Nat->Nat->Zx α) (ks orc:List Nat) (c:Bool) (n t:Nat):(Nat->Ext)->ShT α×ShT α:=lQ prog w n t sts cons (fun b=>K b n t) ks orc c
noncomputable def rM {α:Type} (prog:Program) (w:World) (sts:List Str) (cons:Bool->List Fam) (K:Bool->Nat->Nat->Zx α) (ks orc:List Nat) (k:Option Nat) (ex:Nat->RdT α) (P:List Prop) (n t:Nat):(Nat->Ext)->ShT α×ShT α:=rQ prog w n t sts cons (fun b=>K b n t) ks orc k (ex t) P
theorem Zki {sts:List Str} {cons:Bool->List Fam} {K:Bool->Nat->Nat->Zx α} (k:Option Nat) (hC:Z4 T2 prog (wb w b) (cons b)) {ex:Nat->RdT α} {P:List Prop} (hP:Zh6 P)
  (h:lM prog w sts cons K ks orc k.isSome=rM prog w sts cons K ks orc k ex P):TK prog w b K :=
 fun n t=>Zi0 k (K:=fun b=>K b n t) hC hP (Us (Us h n) t)
theorem tkm {K:Bool->Nat->Nat->Zx α} (ks orc:List Nat) (ex:RdT α) (k:Nat)
  (h:lM prog w [] (fun _=>[]) K ks orc true=rM prog w [] (fun _=>[]) K ks orc (some k) (fun _=>ex) []:=by kernel_rfl):TK prog w b K :=
 Zki (some k) (ex:=fun _=>ex) (cons:=fun _=>[]) Zd (P:=[]) trivial h
theorem tkr {K:Bool->Nat->Nat->Zx α} (ks orc:List Nat) (ex:RdT α)
  (h:lM prog w [] (fun _=>[]) K ks orc false=rM prog w [] (fun _=>[]) K ks orc none (fun _=>ex) []:=by kernel_rfl):TK prog w b K :=
 Zki none (ex:=fun _=>ex) (cons:=fun _=>[]) Zd (P:=[]) trivial h
theorem tkc {cons:Bool->List Fam} {K:Bool->Nat->Nat->Zx α} (hC:Z4 T2 prog (wb w b) (cons b)) (ks orc:List Nat) (ex:RdT α)
  (h:lM prog w [] cons K ks orc false=rM prog w [] cons K ks orc none (fun _=>ex) []:=by kernel_rfl):TK prog w b K :=
 Zki none (ex:=fun _=>ex) hC (P:=[]) trivial h
theorem tkh {sts:List Str} {cons:Bool->List Fam} {K:Bool->Nat->Nat->Zx α} (hC:Z4 T2 prog (wb w b) (cons b)) (ks orc:List Nat) (ex:RdT α) {P:List Prop} (hP:Zh6 P)
  (h:lM prog w sts cons K ks orc false=rM prog w sts cons K ks orc none (fun _=>ex) P:=by kernel_rfl):TK prog w b K :=
 Zki none (ex:=fun _=>ex) hC hP h
theorem tkct {cons:Bool->List Fam} {K:Bool->Nat->Nat->Zx α} (hC:Z4 T2 prog (wb w b) (cons b)) (ks orc:List Nat) (ex:Nat->RdT α)
  (h:lM prog w [] cons K ks orc false=rM prog w [] cons K ks orc none ex []:=by kernel_rfl):TK prog w b K :=
 Zki none hC (P:=[]) trivial h
noncomputable def upL {X:Type}:Nat->(Nat->X)->List X
 | 0,_=>[]
 | n+1,f=>f n::upL n f
theorem Zbq {X:Type} {f g:Nat->X}:∀ N,upL N f=upL N g->∀ k,k < N->f k=g k
 | N+1,h,k,hk=>by
  rcases Nat.lt_succ_iff_lt_or_eq.mp hk with e | rfl
  ·exact Zbq N (List.cons.inj h).2 k e
  ·exact (List.cons.inj h).1
theorem Zq5 {l:List Nat} {p:Nat} (h:l[p]?=some c) (h1:l.length≠1):U3 (S l) (Int.ofNat p) (Int.ofNat (p+1)) (S [c]):=by
 have hp:p < l.length:=(Zfj.mp h).1
 have e:Builtin.Str.strSliceIndices (some (Int.ofNat p)) (some (Int.ofNat (p+1))) 1 (S l).length=[p]:=by
  have:(S l).length=l.length:=rfl
  rw [this]
  refine (PySem.StrLaws.strSliceIndices_plain (a:=p) (b:=p+1) (len:=l.length) (Nat.le_succ _) hp).trans ?_
  have z:p+1 - p=1:=by lia
  rw [z]; rfl
 refine ⟨?_,?_,show (1:Nat)<=sizeLine by decide⟩
 ·rw [e]
  show (1==l.length)=false
  exact Znu (Ne.symm h1)
 ·rw [e]
  show (⟨([p].filterMap ((⟨l⟩:Array Nat)[·]?)).toArray⟩:Str)=S [c]
  simp [S,h]
noncomputable abbrev Xh (prog:Program) (w:World) (b:Bool) (L:Lx) (p p':Nat) (r:Str):Prop:=∀ tp tq n t,CQ prog w b n t fun b=>Zfw (hz (wb w b)) L p p' tp tq r n t
theorem Zx4 {L:Lx} {p:Nat} (h:L.buf[p]?=some c) (hl:L.buf.length < 2 ^ 63):Xh prog w b L p (p+1) (S [c]):=by
 intro tp tq n t
 have hp:p < L.buf.length:=(Zfj.mp h).1
 have hge:decide (Int.ofNat p ≥ (S L.buf).length)=false:=Uz (by show ¬ ((L.buf.length:Int)<=(p:Int)); lia)
 by_cases h1:L.buf.length=1
 ·have p0:p=0:=by lia
  subst p0
  have hb:L.buf=[c]:=by
   obtain ⟨x,hx⟩:=List.length_eq_one_iff.mp h1
   rw [hx] at h ⊢
   simp at h
   rw [h]
  have hL:L={ L with buf:=[c] }:=by cases L; simp only at hb; rw [hb]
  rw [hL]
  show CQ prog w b n t fun b=>Zfw (hz (wb w b)) { L with buf:=[c] } 0 1 tp tq (S [c]) n t
  exact ckx Zd [5,6] (Yt 16 258 0x111100000000111100033405500000005000000000534440500000005050050000000053300003000330000300003333000000405500000005000000000530033405500000005000000000534055000000050000000005111000034000040000000400000004222100000010000111000000010000001001111000010111110000) (exS (fun f=>Zg5) (fun f=>Up))
 ·by_cases h2:p+1 < L.buf.length
  ·refine ckh (P:=[U3 (S L.buf) (Int.ofNat p) (Int.ofNat (p+1)) (S [c]),decide (Int.ofNat (p+1) < (S L.buf).length)=true,decide (Int.ofNat p ≥ (S L.buf).length)=false,(S L.buf).length < 2 ^ 63]) [S [c]] Zd [5,6] (Yt 16 257 0x11110000000002003340550000000500000000053444050000000505005000000005333300033100300033000034003333100405500000005000000000530033405500000005000000000534055000000050000000005111000034000040000000400000004222100000010000111000000010000001001111000010111110000) (exS (fun f=>Zg5) (fun f=>Up)) ?_
   have qL:decide (Int.ofNat (p+1) < (S L.buf).length)=true:=Za7 (by show ((p+1:Nat):Int) < (L.buf.length:Int); lia)
   refine ⟨?_,?_,?_,?_,trivial⟩
   ·exact Zq5 h h1
   ·exact qL
   ·exact hge
   ·exact hl
  ·have h3:p+1=L.buf.length:=by lia
   rw [h3]
   refine ckh (P:=[U3 (S L.buf) (Int.ofNat p) (S L.buf).length (S [c]),decide (Int.ofNat (p+1) < (S L.buf).length)=false,decide (Int.ofNat p ≥ (S L.buf).length)=false,(S L.buf).length < 2 ^ 63]) [S [c]] Zd [5,6] (Yt 16 250 0x1111000000000200334055000000050000000005344405000000050500500000000533200300033000034003333100405500000005000000000530033405500000005000000000534055000000050000000005111000034000040000000400000004222100000010000111000000010000001001111000010111110000) (exS (fun f=>Zg5) (fun f=>Up)) ?_
   have qL:decide (Int.ofNat (p+1) < (S L.buf).length)=false:=Uz (by show ¬ ((p+1:Nat):Int) < (L.buf.length:Int); lia)
   refine ⟨?_,?_,?_,?_,trivial⟩
   ·have z:=Zq5 h h1
    rw [h3] at z
    exact z
   ·exact qL
   ·exact hge
   ·exact hl
theorem Zqn {L:Lx} {p:Nat} (h:L.buf.length<=p) (hl:L.buf.length < 2 ^ 63):Xh prog w b L p p (S []):=by
 intro tp tq n t
 refine ckh (P:=[decide (Int.ofNat p ≥ (S L.buf).length)=true,(S L.buf).length < 2 ^ 63]) [] Zd [3,4] (Yt 16 166 0x3003333100405500000005000000000530033405500000005000000000534055000000050000000005111000034000040000000400000004222100000010000111000000010000001001111000010111110000) (exS (fun f=>Zg5) (fun f=>Up)) ?_
 have hge:decide (Int.ofNat p ≥ (S L.buf).length)=true:=Za7 (by show ((L.buf.length:Int)<=(p:Int)); lia)
 refine ⟨?_,?_,trivial⟩
 ·exact hge
 ·exact hl
noncomputable abbrev HZ (w:World) (b:Bool):Hs:=hz (wb w b)
noncomputable abbrev Mn (w:World):Addr->Option Obj:=T2 w.params
noncomputable def Vq (k:Nat) (f:Nat->Ext) (_:Result) (_:LA) (j:Nat):Nat:=(f k).nat (j+2)
noncomputable abbrev Z3 (prog:Program) (w:World) (b:Bool) (L:Lx) (s s':Ls):Prop:=∀ fr ft tk n t,CQ prog w b n t fun b=>Zf0 (HZ w b) (Mn (wb w b)) L fr ft tk s s' n t
theorem Z8y {L:Lx} {p:Nat} {ln:Int}  (s':Ls) (h:Xh prog w b L p (p+1) (S [39])) (ih:Z3 prog w b L ⟨p+1,some (S [39]),S [],false,ln,some (S [39])⟩ s') (o0:Jl L.cm (S [39])=false) :
  Z3 prog w b L ⟨p,some (S [32]),S [],false,ln,none⟩ s':=fun fr ft tk n t =>
 Zfo (cons:=fun b=>[Y7 (HZ w b) L p (p+1) (S [39]),Jg (HZ w b) (Mn (wb w b)) L fr ⟨p+1,some (S [39]),S [],false,ln,some (S [39])⟩ s']) [] (Zb (fun n t c l _=>h _ _ _ _) (Zb (fun n t c l _=>ih _ _ _ _ _) Zd)) [0,1,2,3,4] (Yt 16 361 0x654215255506000606006000067705066000600000670000506600060000067700005066000600000611100000000000000050000056600004055000500000566000040550005000005660405500050000056400405500050000056600004055000500000566000006000040550005000005640550005000005600004055000500000560000666021210230000300000003000000034055000500000560000040550005000005111000000000000000400000450) (exS (Vq 1) (fun _=>Up)) (pc o0 p0)
theorem Z0b {L:Lx} {p:Nat} {ln:Int} (c:Nat) (s':Ls) (h:Xh prog w b L p (p+1) (S [c])) (ih:Z3 prog w b L ⟨p+1,some (S [97]),S [c],false,ln,some (S [c])⟩ s') (o0:Vk (S [c]) "\n" = false) (o1:Jl (" \t\r\n" : Str) (S [c])=false) (o2:Jl L.cm (S [c])=false) (o3:Jl "\\" (S [c])=false) (o4:Jl Vb (S [c])=true) :
  Z3 prog w b L ⟨p,some (S [32]),S [],false,ln,none⟩ s':=fun fr ft tk n t =>
 Zfo (cons:=fun b=>[Y7 (HZ w b) L p (p+1) (S [c]),Jg (HZ w b) (Mn (wb w b)) L fr ⟨p+1,some (S [97]),S [c],false,ln,some (S [c])⟩ s']) [] (Zb (fun n t c l _=>h _ _ _ _) (Zb (fun n t c l _=>ih _ _ _ _ _) Zd)) [0,1,2,3,4] (Yt 16 296 0x5431052444050005050050000564440500050500500005663004055000500000566400405500050000056604055000500000564004055000500000566400405500050000056600000600004055000500000564055000500000560000405500050000056200666021210230000300000003000000034055000500000560000040550005000005111000000000000000400000450) (exS (Vq 1) (fun _=>Up)) (pc o4 (pc o3 (pc o2 (pc o1 (pc o0 p0)))))
theorem Z1m {L:Lx} {p:Nat} {ln:Int} (c:Nat) (s':Ls) (h:Xh prog w b L p (p+1) (S [c])) (ih:Z3 prog w b L ⟨p+1,some (S [97]),S [c],false,ln,some (S [c])⟩ s') (o0:Vk (S [c]) "\n" = false) (o1:Jl (" \t\r\n" : Str) (S [c])=false) (o2:Jl L.cm (S [c])=false) (o3:Jl "\\" (S [c])=false) (o4:Jl Vb (S [c])=false) (o5:Jl "" (S [c])=false) (o6:Jl "'\"" (S [c])=false) :
  Z3 prog w b L ⟨p,some (S [32]),S [],false,ln,none⟩ s':=fun fr ft tk n t =>
 Zfo (cons:=fun b=>[Y7 (HZ w b) L p (p+1) (S [c]),Jg (HZ w b) (Mn (wb w b)) L fr ⟨p+1,some (S [97]),S [c],false,ln,some (S [c])⟩ s']) [] (Zb (fun n t c l _=>h _ _ _ _) (Zb (fun n t c l _=>ih _ _ _ _ _) Zd)) [0,1,2,3,4] (Yt 16 375 0x65421525550600060600600006755506000606006000067705066000600000674005066000600000677400506600060000061110000000000000005000005664004055000500000566400405500050000056604055000500000564004055000500000566400405500050000056600000600004055000500000564055000500000560000405500050000056200666021210230000300000003000000034055000500000560000040550005000005111000000000000000400000450) (exS (Vq 1) (fun _=>Up)) (pc o6 (pc o5 (pc o4 (pc o3 (pc o2 (pc o1 (pc o0 p0)))))))
theorem Z9m {L:Lx} {p:Nat} {ln:Int} (tok:Str) (h:Xh prog w b L p (p) (S [])) :
  Z3 prog w b L ⟨p,none,tok,false,ln,none⟩ ⟨p,none,S [],false,ln,some (S [])⟩:=fun fr ft tk n t =>
 Zdo (cons:=fun b=>[Y7 (HZ w b) L p (p) (S [])]) (Zb (fun n t c l _=>h _ _ _ _) Zd) [0,1,3,4,5] (Yt 16 151 0x4440500050500500005640550005000005600004055000500000560000666021210230000300000003000000034055000500000560000040550005000005111000000000000000400000450) (exS (fun _=>Zeq) (fun _=>Up))
theorem Z6k {L:Lx} {p:Nat} {ln:Int}  (h:Xh prog w b L p (p) (S [])) :
  Z3 prog w b L ⟨p,some (S [32]),S [],false,ln,none⟩ ⟨p,none,S [],false,ln,some (S [])⟩:=fun fr ft tk n t =>
 Zdo (cons:=fun b=>[Y7 (HZ w b) L p (p) (S [])]) (Zb (fun n t c l _=>h _ _ _ _) Zd) [0,1,3,4,5] (Yt 16 176 0x44405000505005000056000006000040550005000005640550005000005600004055000500000560000666021210230000300000003000000034055000500000560000040550005000005111000000000000000400000450) (exS (fun _=>Zeq) (fun _=>Up))
theorem Z9c {L:Lx} {p:Nat} {ln:Int} (tok x:Str) (q:Bool) (h:Xh prog w b L p (p) (S [])) (o0:([S [97],S [99]].any (·==S [97]))=true) :
  Z3 prog w b L ⟨p,some (S [97]),tok,q,ln,some x⟩ ⟨p,none,tok,q,ln,some (S [])⟩:=fun fr ft tk n t =>
 Zfo (cons:=fun b=>[Y7 (HZ w b) L p (p) (S [])]) [] (Zb (fun n t c l _=>h _ _ _ _) Zd) [1,2,4,5,6] (Yt 16 266 0x55506000606006000067000007110101140550005000005600004055000500000564055000500000560000405500050000056405500050000056000040550005000005640550005000005600004055000500000560000666021210230000300000003000000034055000500000560000040550005000005111000000000000000400000450) (exS (fun _=>Zeq) (fun _=>Up)) (pc o0 p0)
theorem Z3e {L:Lx} {p:Nat} {ln:Int} (d:Nat) (l:List Nat) (x:Str) (q:Bool) (h:Xh prog w b L p (p+1) (S [32])) (o0:([S [97],S [99]].any (·==S [97]))=true) (o1:(S (d::l)).length < 2 ^ 63) :
  Z3 prog w b L ⟨p,some (S [97]),S (d::l),q,ln,some x⟩ ⟨p+1,some (S [32]),S (d::l),q,ln,some (S [32])⟩:=fun fr ft tk n t =>
 Zfo (cons:=fun b=>[Y7 (HZ w b) L p (p+1) (S [32])]) [] (Zb (fun n t c l _=>h _ _ _ _) Zd) [1,2,4,5,6] (Yt 16 322 0x1050660006000006755506000606006000067000050660006000006700005066000600000677000007110101140550005000005600004055000500000564055000500000560000405500050000056405500050000056000040550005000005640550005000005600004055000500000560000666021210230000300000003000000034055000500000560000040550005000005111000000000000000400000450) (exS (fun _=>Zeq) (fun _=>Up)) (pc o1 (pc o0 p0))
theorem Z23 {L:Lx} {p:Nat} {ln:Int} (x:Str) (h:Xh prog w b L p (p+1) (S [32])) (o0:([S [97],S [99]].any (·==S [97]))=true) :
  Z3 prog w b L ⟨p,some (S [97]),S [],true,ln,some x⟩ ⟨p+1,some (S [32]),S [],true,ln,some (S [32])⟩:=fun fr ft tk n t =>
 Zfo (cons:=fun b=>[Y7 (HZ w b) L p (p+1) (S [32])]) [] (Zb (fun n t c l _=>h _ _ _ _) Zd) [1,2,4,5,6] (Yt 16 342 0x705066000600000670000050660006000006755506000606006000067000050660006000006700005066000600000677000007110101140550005000005600004055000500000564055000500000560000405500050000056405500050000056000040550005000005640550005000005600004055000500000560000666021210230000300000003000000034055000500000560000040550005000005111000000000000000400000450) (exS (fun _=>Zeq) (fun _=>Up)) (pc o0 p0)
theorem Z6q {L:Lx} {p:Nat} {ln:Int} (tok x:Str) (q:Bool) (s':Ls) (h:Xh prog w b L p (p+1) (S [39])) (ih:Z3 prog w b L ⟨p+1,some (S [39]),tok,q,ln,some (S [39])⟩ s') (o0:([S [97],S [99]].any (·==S [97]))=true) (o1:Jl L.cm (S [39])=false) :
  Z3 prog w b L ⟨p,some (S [97]),tok,q,ln,some x⟩ s':=fun fr ft tk n t =>
 Zfo (cons:=fun b=>[Y7 (HZ w b) L p (p+1) (S [39]),Jg (HZ w b) (Mn (wb w b)) L fr ⟨p+1,some (S [39]),tok,q,ln,some (S [39])⟩ s']) [] (Zb (fun n t c l _=>h _ _ _ _) (Zb (fun n t c l _=>ih _ _ _ _ _) Zd)) [0,1,2,3,4] (Yt 16 369 0x65421525550600060600600006770000506600060000067705066000600000670000506600060000067400506600060000067700005066000600000677000007110101140550005000005600004055000500000564055000500000560000405500050000056405500050000056000040550005000005640550005000005600004055000500000560000666021210230000300000003000000034055000500000560000040550005000005111000000000000000400000450) (exS (Vq 1) (fun _=>Up)) (pc o1 (pc o0 p0))
theorem Z9f {L:Lx} {p:Nat} {ln:Int} (tok x:Str) (q:Bool) (s':Ls) (h:Xh prog w b L p (p+1) (S [34])) (ih:Z3 prog w b L ⟨p+1,some (S [34]),tok,q,ln,some (S [34])⟩ s') (o0:([S [97],S [99]].any (·==S [97]))=true) (o1:Jl L.cm (S [34])=false) :
  Z3 prog w b L ⟨p,some (S [97]),tok,q,ln,some x⟩ s':=fun fr ft tk n t =>
 Zfo (cons:=fun b=>[Y7 (HZ w b) L p (p+1) (S [34]),Jg (HZ w b) (Mn (wb w b)) L fr ⟨p+1,some (S [34]),tok,q,ln,some (S [34])⟩ s']) [] (Zb (fun n t c l _=>h _ _ _ _) (Zb (fun n t c l _=>ih _ _ _ _ _) Zd)) [0,1,2,3,4] (Yt 16 369 0x65421525550600060600600006770000506600060000067705066000600000670000506600060000067400506600060000067700005066000600000677000007110101140550005000005600004055000500000564055000500000560000405500050000056405500050000056000040550005000005640550005000005600004055000500000560000666021210230000300000003000000034055000500000560000040550005000005111000000000000000400000450) (exS (Vq 1) (fun _=>Up)) (pc o1 (pc o0 p0))
theorem Z13 {L:Lx} {p:Nat} {ln:Int} (c:Nat) (tok qJ x:Str) (q:Bool) (s':Ls) (h:Xh prog w b L p (p+1) (S [c])) (ih:Z3 prog w b L ⟨p+1,some (S [97]),qJ,q,ln,some (S [c])⟩ s') (o0:Vk (S [c]) "\n" = false) (o1:([S [97],S [99]].any (·==S [97]))=true) (o2:Jl (" \t\r\n" : Str) (S [c])=false) (o3:Jl L.cm (S [c])=false) (o4:Jl "'\"" (S [c])=false) (o5:Jl "\\" (S [c])=false) (o6:Jl Vb (S [c])=true) (o7:Xp tok (S [c]) qJ) :
  Z3 prog w b L ⟨p,some (S [97]),tok,q,ln,some x⟩ s':=fun fr ft tk n t =>
 Zfo (cons:=fun b=>[Y7 (HZ w b) L p (p+1) (S [c]),Jg (HZ w b) (Mn (wb w b)) L fr ⟨p+1,some (S [97]),qJ,q,ln,some (S [c])⟩ s']) [qJ] (Zb (fun n t c l _=>h _ _ _ _) (Zb (fun n t c l _=>ih _ _ _ _ _) Zd)) [0,1,2,3,4] (Yt 16 437 0x6542152555060006060060000650075066000600000673005066000600000677400506600060000067705066000600000674005066000600000677050660006000006700005066000600000674005066000600000677400506600060000067700000711010114055000500000560000405500050000056405500050000056000040550005000005640550005000005600004055000500000564055000500000560000405500050000056200666021210230000300000003000000034055000500000560000040550005000005111000000000000000400000450) (exS (Vq 2) (fun _=>Up)) (pc o7 (pc o6 (pc o5 (pc o4 (pc o3 (pc o2 (pc o1 (pc o0 p0))))))))
theorem Zyy {L:Lx} {p:Nat} {ln:Int} (c:Nat) (tok qJ x:Str) (q:Bool) (s':Ls) (h:Xh prog w b L p (p+1) (S [c])) (ih:Z3 prog w b L ⟨p+1,some (S [97]),qJ,q,ln,some (S [c])⟩ s') (o0:Vk (S [c]) "\n" = false) (o1:([S [97],S [99]].any (·==S [97]))=true) (o2:Jl (" \t\r\n" : Str) (S [c])=false) (o3:Jl L.cm (S [c])=false) (o4:Jl "'\"" (S [c])=false) (o5:Jl "\\" (S [c])=false) (o6:Jl Vb (S [c])=false) (o7:Jl "'\"" (S [c])=false) (o8:Jl "" (S [c])=false) (o9:Xp tok (S [c]) qJ) :
  Z3 prog w b L ⟨p,some (S [97]),tok,q,ln,some x⟩ s':=fun fr ft tk n t =>
 Zfo (cons:=fun b=>[Y7 (HZ w b) L p (p+1) (S [c]),Jg (HZ w b) (Mn (wb w b)) L fr ⟨p+1,some (S [97]),qJ,q,ln,some (S [c])⟩ s']) [qJ] (Zb (fun n t c l _=>h _ _ _ _) (Zb (fun n t c l _=>ih _ _ _ _ _) Zd)) [0,1,2,3,4] (Yt 16 516 0x76532526660700070700700007500860770007000007840060770007000007111000000000000000600000677050660006000006740050660006000006774005066000600000677400506600060000067705066000600000674005066000600000677050660006000006700005066000600000674005066000600000677400506600060000067700000711010114055000500000560000405500050000056405500050000056000040550005000005640550005000005600004055000500000564055000500000560000405500050000056200666021210230000300000003000000034055000500000560000040550005000005111000000000000000400000450) (exS (Vq 2) (fun _=>Up)) (pc o9 (pc o8 (pc o7 (pc o6 (pc o5 (pc o4 (pc o3 (pc o2 (pc o1 (pc o0 p0))))))))))
theorem Zr3 {L:Lx} {p:Nat} {ln:Int} (tok x:Str) (q:Bool) (s':Ls) (h:Xh prog w b L p (p+1) (S [39])) (ih:Z3 prog w b L ⟨p+1,some (S [97]),tok,true,ln,some (S [39])⟩ s') :
  Z3 prog w b L ⟨p,some (S [39]),tok,q,ln,some x⟩ s':=fun fr ft tk n t =>
 Zdo (cons:=fun b=>[Y7 (HZ w b) L p (p+1) (S [39]),Jg (HZ w b) (Mn (wb w b)) L fr ⟨p+1,some (S [97]),tok,true,ln,some (S [39])⟩ s']) (Zb (fun n t c l _=>h _ _ _ _) (Zb (fun n t c l _=>ih _ _ _ _ _) Zd)) [0,1,2,3,4] (Yt 16 256 0x543105244405000505005000056040550005000005600004055000500000566000006660000405500050000056405500050000056000040550005000005640550005000005600004055000500000560000666021210230000300000003000000034055000500000560000040550005000005111000000000000000400000450) (exS (Vq 1) (fun _=>Up))
theorem Zsp {L:Lx} {p:Nat} {ln:Int} (c:Nat) (tok qJ x:Str) (q:Bool) (s':Ls) (h:Xh prog w b L p (p+1) (S [c])) (ih:Z3 prog w b L ⟨p+1,some (S [39]),qJ,true,ln,some (S [c])⟩ s') (o0:Vk (S [c]) "\n" = false) (o1:Vk (S [c]) (S [39])=false) (o2:Jl "\\" (S [c])=false) (o3:Xp tok (S [c]) qJ) :
  Z3 prog w b L ⟨p,some (S [39]),tok,q,ln,some x⟩ s':=fun fr ft tk n t =>
 Zfo (cons:=fun b=>[Y7 (HZ w b) L p (p+1) (S [c]),Jg (HZ w b) (Mn (wb w b)) L fr ⟨p+1,some (S [39]),qJ,true,ln,some (S [c])⟩ s']) [qJ] (Zb (fun n t c l _=>h _ _ _ _) (Zb (fun n t c l _=>ih _ _ _ _ _) Zd)) [0,1,2,3,4] (Yt 16 291 0x54310524440500050500500005500640550005000005640040550005000005660405500050000056200405500050000056600000666000040550005000005640550005000005600004055000500000564055000500000560000405500050000056200666021210230000300000003000000034055000500000560000040550005000005111000000000000000400000450) (exS (Vq 2) (fun _=>Up)) (pc o3 (pc o2 (pc o1 (pc o0 p0))))
theorem Zu1 {L:Lx} {p:Nat} {ln:Int} (tok qJ x:Str) (q:Bool) (s':Ls) (h:Xh prog w b L p (p+1) (S [92])) (ih:Z3 prog w b L ⟨p+1,some (S [39]),qJ,true,ln,some (S [92])⟩ s') (o0:Xp tok (S [92]) qJ) :
  Z3 prog w b L ⟨p,some (S [39]),tok,q,ln,some x⟩ s':=fun fr ft tk n t =>
 Zfo (cons:=fun b=>[Y7 (HZ w b) L p (p+1) (S [92]),Jg (HZ w b) (Mn (wb w b)) L fr ⟨p+1,some (S [39]),qJ,true,ln,some (S [92])⟩ s']) [qJ] (Zb (fun n t c l _=>h _ _ _ _) (Zb (fun n t c l _=>ih _ _ _ _ _) Zd)) [0,1,2,3,4] (Yt 16 328 0x543105244405000505005000055006405500050000056000040550005000005640550005000005600004055000500000566040550005000005600004055000500000566000006660000405500050000056405500050000056000040550005000005640550005000005600004055000500000560000666021210230000300000003000000034055000500000560000040550005000005111000000000000000400000450) (exS (Vq 2) (fun _=>Up)) (pc o0 p0)
theorem Ztg {L:Lx} {p:Nat} {ln:Int} (tok qJ x:Str) (q:Bool) (s':Ls) (h:Xh prog w b L p (p+1) (S [10])) (ih:Z3 prog w b L ⟨p+1,some (S [39]),qJ,true,ln+1,some (S [10])⟩ s') (o0:Xp tok (S [10]) qJ) :
  Z3 prog w b L ⟨p,some (S [39]),tok,q,ln,some x⟩ s':=fun fr ft tk n t =>
 Zfo (cons:=fun b=>[Y7 (HZ w b) L p (p+1) (S [10]),Jg (HZ w b) (Mn (wb w b)) L fr ⟨p+1,some (S [39]),qJ,true,ln+1,some (S [10])⟩ s']) [qJ] (Zb (fun n t c l _=>h _ _ _ _) (Zb (fun n t c l _=>ih _ _ _ _ _) Zd)) [0,1,2,3,4] (Yt 16 331 0x543105244405000505005000055006405500050000056000040550005000005660405500050000056000040550005000005660000066600004055000500000564055000500000560000405500050000056405500050000056000040550005000005644405000505005000050004055000500000560000666021210230000300000003000000034055000500000560000040550005000005111000000000000000400000450) (exS (Vq 2) (fun _=>Up)) (pc o0 p0)
theorem Zzz {L:Lx} {p:Nat} {ln:Int} (tok qJ x:Str) (q:Bool) (s':Ls) (h:Xh prog w b L p (p+1) (S [39])) (ih:Z3 prog w b L ⟨p+1,some (S [34]),qJ,true,ln,some (S [39])⟩ s') (o0:Xp tok (S [39]) qJ) :
  Z3 prog w b L ⟨p,some (S [34]),tok,q,ln,some x⟩ s':=fun fr ft tk n t =>
 Zfo (cons:=fun b=>[Y7 (HZ w b) L p (p+1) (S [39]),Jg (HZ w b) (Mn (wb w b)) L fr ⟨p+1,some (S [34]),qJ,true,ln,some (S [39])⟩ s']) [qJ] (Zb (fun n t c l _=>h _ _ _ _) (Zb (fun n t c l _=>ih _ _ _ _ _) Zd)) [0,1,2,3,4] (Yt 16 294 0x54310524440500050500500005500640550005000005600004055000500000566040550005000005600004055000500000566000006660000405500050000056405500050000056000040550005000005640550005000005600004055000500000560000666021210230000300000003000000034055000500000560000040550005000005111000000000000000400000450) (exS (Vq 2) (fun _=>Up)) (pc o0 p0)
theorem Zz8 {L:Lx} {p:Nat} {ln:Int} (tok x:Str) (q:Bool) (s':Ls) (h:Xh prog w b L p (p+1) (S [34])) (ih:Z3 prog w b L ⟨p+1,some (S [97]),tok,true,ln,some (S [34])⟩ s') :
  Z3 prog w b L ⟨p,some (S [34]),tok,q,ln,some x⟩ s':=fun fr ft tk n t =>
 Zdo (cons:=fun b=>[Y7 (HZ w b) L p (p+1) (S [34]),Jg (HZ w b) (Mn (wb w b)) L fr ⟨p+1,some (S [97]),tok,true,ln,some (S [34])⟩ s']) (Zb (fun n t c l _=>h _ _ _ _) (Zb (fun n t c l _=>ih _ _ _ _ _) Zd)) [0,1,2,3,4] (Yt 16 256 0x543105244405000505005000056040550005000005600004055000500000566000006660000405500050000056405500050000056000040550005000005640550005000005600004055000500000560000666021210230000300000003000000034055000500000560000040550005000005111000000000000000400000450) (exS (Vq 1) (fun _=>Up))
noncomputable abbrev TZ (w:World) (b:Bool):Addr->Option Obj:=Mn (wb w b)
theorem V9 {L:Lx} {s s':Ls} (h:Z3 prog w b L s s') (n t:Nat) (c:Code) (l:LA) (bb:LB):Z6 T2 prog (wb w b) n t (N5 (HZ w b) (TZ w b) L s s' n t c l bb):=h _ _ _ _ _
noncomputable abbrev Za6 (prog:Program) (w:World) (b:Bool) (L:Lx) (s s':Lt) (r:LO):Prop:=∀ tk n t,CQ prog w b n t fun b=>Z18 (HZ w b) L tk s s' r n t
theorem Z4f {L:Lx} {p:Nat} {ln:Int} (z W x:Str) (st:LO) (ih:Z3 prog w b L ⟨p,some z,S [],false,ln,none⟩ ⟨p',st,W,true,ln',some x⟩) :
  Za6 prog w b L ⟨p,some z,ln⟩ ⟨p',st,ln'⟩ (some W):=fun tk n t =>
 Zdo (cons:=fun b=>[N5 (HZ w b) (TZ w b) L ⟨p,some z,S [],false,ln,none⟩ ⟨p',st,W,true,ln',some x⟩]) (Zb (V9 ih) Zd) [0,1,2,3] (Yt 16 91 0x5000030440004000004550304400040000045333040004040040000455530440004000004500432151111111000) (exS (Z5o 0) (fun _=>Up))
theorem Z27 {L:Lx} {p:Nat} {ln:Int} (z W x:Str) (st:LO) (ih:Z3 prog w b L ⟨p,some z,S [],false,ln,none⟩ ⟨p',st,W,false,ln',some x⟩) (o0:Vk W "" = false) :
  Za6 prog w b L ⟨p,some z,ln⟩ ⟨p',st,ln'⟩ (some W):=fun tk n t =>
 Zfo (cons:=fun b=>[N5 (HZ w b) (TZ w b) L ⟨p,some z,S [],false,ln,none⟩ ⟨p',st,W,false,ln',some x⟩]) [] (Zb (V9 ih) Zd) [0,1,2,3] (Yt 16 95 0x50000304400040000045200550304400040000045333040004040040000455530440004000004500432151111111000) (exS (Z5o 0) (fun _=>Up)) (pc o0 p0)
theorem Zyu {L:Lx} {p:Nat} {ln:Int} (z x:Str) (st:LO) (ih:Z3 prog w b L ⟨p,some z,S [],false,ln,none⟩ ⟨p',st,S [],false,ln',some x⟩) :
  Za6 prog w b L ⟨p,some z,ln⟩ ⟨p',st,ln'⟩ none:=fun tk n t =>
 Zdo (cons:=fun b=>[N5 (HZ w b) (TZ w b) L ⟨p,some z,S [],false,ln,none⟩ ⟨p',st,S [],false,ln',some x⟩]) (Zb (V9 ih) Zd) [0,1,2,3] (Yt 16 98 0x50000304400040000045550000550304400040000045333040004040040000455530440004000004500432151111111000) (exS (Z5o 0) (fun _=>Up))
theorem Z0p {L:Lx} {p:Nat} {ln:Int} (x:Str) (st:LO) (ih:Z3 prog w b L ⟨p,none,S [],false,ln,none⟩ ⟨p',st,S [],false,ln',some x⟩) :
  Za6 prog w b L ⟨p,none,ln⟩ ⟨p',st,ln'⟩ none:=fun tk n t =>
 Zdo (cons:=fun b=>[N5 (HZ w b) (TZ w b) L ⟨p,none,S [],false,ln,none⟩ ⟨p',st,S [],false,ln',some x⟩]) (Zb (V9 ih) Zd) [0,1,2,3] (Yt 16 98 0x50000304400040000045550000550304400040000045333040004040040000455530440004000004500432151111111000) (exS (Z5o 0) (fun _=>Up))
theorem Zdc {L:Lx} {s s':Lt} {r:LO} (h:Za6 prog w b L s s' r) (n t:Nat) (c:Code) (l:LA) (bb:LB):Z6 T2 prog (wb w b) n t (Zpe (HZ w b) L s s' r n t c l bb):=h _ _ _
noncomputable def Zr4:List Nat:=Yt 16 127 0x3044000400000457070707730440004000004500030440004000004550304400040000045550432141045000050005000516060606640550005000005111000
theorem Z97 {L:Lx} {p:Nat} {ln:Int} {z U:Str} {st':LO} (h:Za6 prog w b L ⟨p,some z,ln⟩ ⟨p',st',ln'⟩ (some U)) (tk:LM) (e:Int) (n t:Nat) :
  CQ prog w b n t fun b=>Z4b (HZ w b) L tk ⟨p,some z,ln⟩ ⟨p',st',ln'⟩ e U n t :=
 Zdo (cons:=fun b=>[Zpe (HZ w b) L ⟨p,some z,ln⟩ ⟨p',st',ln'⟩ (some U)]) (Zb (Zdc h) Zd) [0,1,2,3,5] (Yt 16 110 0x50000304400040000045000030440004000004550304400040000045550432141045000050005000516060606640550005000005111000) (exS (Z53 0) (fun _=>Up))
theorem Z6l {L:Lx} {p:Nat} {ln:Int} {st st':LO} (h:Za6 prog w b L ⟨p,st,ln⟩ ⟨p',st',ln'⟩ none) (tk:LM) (e e':Int) (n t:Nat) :
  CQ prog w b n t fun b=>Zrw (HZ w b) L tk ⟨p,st,ln⟩ ⟨p',st',ln'⟩ e e' n t:=by
 cases st with
 | none=>exact Zdo (cons:=fun b=>[Zpe (HZ w b) L ⟨p,none,ln⟩ ⟨p',st',ln'⟩ none]) (Zb (Zdc h) Zd) [0,1,2,3,5,6] Zr4 (exS (Z53 0) (fun _=>Up))
 | some z=>exact Zdo (cons:=fun b=>[Zpe (HZ w b) L ⟨p,some z,ln⟩ ⟨p',st',ln'⟩ none]) (Zb (Zdc h) Zd) [0,1,2,3,5,6] Zr4 (exS (Z53 0) (fun _=>Up))
theorem Z8v {L:Lx} (tk:LM) (s:Lt) (e:Int) (v:Str) (tv:Nat) (n t:Nat):∀ (l:List (Str×Nat)),l.length < 21->CQ prog w b n t fun b=>Zra (HZ w b) L tk s e (e+1) v tv l n t:=fun l hl=>ckx Zd [1,2,3,4,5] (Yt 16 77 0x10000405500050000051116666606066664055000500000516060606640550005000005111000) (exS (fun _ _ _ _=>0) (fun _=>Up)) (by
  revert l
  refine Zq2 21 ?_
  kernel_rfl)
noncomputable def Zk3:List Nat:=Yt 16 53 0x60000304400040000046666054321510450000500050005111000
theorem Zog {L:Lx} {p:Nat} {ln:Int} {z U:Str} {s':Lt} (h:Za6 prog w b L ⟨p,some z,ln⟩ s' (some U)) (e:Int) (n t:Nat) (c:Code) (l:LA) (bb:LB) :
  Z6 T2 prog (wb w b) n t (Z0n (HZ w b) L ⟨p,some z,ln⟩ s' e U n t c l bb):=Z97 h (Ms l) e n t
theorem Zd7 {L:Lx} (s:Lt) (e:Int) (v:Str) (tv:Nat) (r:List (Str×Nat)) (hr:r.length < 21) (n t:Nat) (c:Code) (l:LA) (bb:LB) :
  Z6 T2 prog (wb w b) n t (Zkr (HZ w b) L s e v tv r n t c l bb):=Z8v (Ms l) s e v tv n t r hr
theorem Z7b {L:Lx} {p:Nat} {ln:Int} {z U:Str} {s':Lt} (h:Za6 prog w b L ⟨p,some z,ln⟩ s' (some U)) (tk:LM) (e:Int) (n t:Nat) :
  CQ prog w b n t fun b=>Z4k (HZ w b) L tk ⟨p,some z,ln⟩ s' e U n t :=
 Zdo (cons:=fun b=>[Z0n (HZ w b) L ⟨p,some z,ln⟩ s' e U]) (Zb (Zog h e) Zd) [0,1,2,3,4] (Yt 16 53 0x60000304400040000046666054321510450000500050005111000) (exS (Z53 0) (fun _=>Up))
theorem Zza {L:Lx} (tk:LM) (s:Lt) (e:Int) (v:Str) (tv:Nat) (r:List (Str×Nat)) (hr:r.length < 21) (n t:Nat) :
  CQ prog w b n t fun b=>Zro (HZ w b) L tk s e v tv r n t:=by
 obtain ⟨p,st,ln⟩:=s
 cases st with
 | none=>exact Zdo (cons:=fun b=>[Zkr (HZ w b) L ⟨p,none,ln⟩ e v tv r]) (Zb (Zd7 ⟨p,none,ln⟩ e v tv r hr) Zd) [0,1,2,3,4] Zk3 (exS (fun _ _ _ _=>0) (fun _=>Up))
 | some z=>exact Zdo (cons:=fun b=>[Zkr (HZ w b) L ⟨p,some z,ln⟩ e v tv r]) (Zb (Zd7 ⟨p,some z,ln⟩ e v tv r hr) Zd) [0,1,2,3,4] Zk3 (exS (fun _ _ _ _=>0) (fun _=>Up))
section
theorem Za2 {a:Addr} {args:Args} {o:Obj} {fd:FuncData} {R:Result->Shared->Prop} (ho:s.heap.get? a=some o) (hd:Uq o=some fd) (hroom:(A.under (.call (.ref a) args)).depth < recursionLimit)
  (h:wpAny (model prog w) (A.under (.call (.ref a) args)) (Jn a fd args) (fun qq s'=>s'.heap.NoLimit/\codeAny (model prog w) A (J0 fd qq) R s') (fun e=>R (.error e)) s):codeAny (model prog w) A (.call (.ref a) args) R s:=by
 obtain ⟨hdat,hg,hco⟩:=Yc hd
 refine x_code ?_
 show wpAny (model prog w) (A.under (.call (.ref a) args)) (callAny (.ref a) args) _ _ _
 unfold callAny
 dsimp only
 refine Zi (Znz ho ?_)
 rw [hdat]
 dsimp only
 rw [Uu a fd args hg hco]
 refine Zi (Jy h (fun qq s' q=>?_) fun _ _ q=>q)
 refine Zi (wpAny_enterFrame q.1 hroom ?_)
 exact Yo ⟨Py fd qq,q.2⟩
theorem Gv {body:List Stmt} {R:Result->Shared->Prop}
  (h:wpAny (model prog w) (A.under (.func body qq)) (execs body qq) (fun f s'=>R (.ok (.ret (match f with | .ret v=>v | _=>.none))) s') (fun e s'=>wpAny (model prog w) (A.under (.func body qq)) (leaving qq e) (fun _ s''=>R (.error e) s'') (fun e' s''=>R (.error e') s'') s') s) :
  codeAny (model prog w) A (.func body qq) R s:=by
 refine x_code ?_
 show wpAny (model prog w) (A.under (.func body qq)) (point>>=fun _=>(execs body qq).onRaise (leaving qq)>>=fun f=>match f with | .ret v=>pure (PySem.Fin.done (.ret v)) | _=>pure (PySem.Fin.done (.ret .none))) _ _ _
 refine Zi (x_point (Yo ?_))
 refine Zi (wpAny_onRaise (Jy h (fun f s' q=>?_) fun e s' q=>q))
 cases f with
 | ret v=>exact Yo q
 | next=>exact Yo q
 | brk=>exact Yo q
 | cont=>exact Yo q
end
theorem Gz (qq:Env):execs [] qq=pure .next:=by simp [execs]
theorem Zw (a:Stmt) (r:List Stmt) (qq:Env):execs (a::r) qq=(exec a qq>>=fun f=>match f with | .next=>execs r qq | f=>pure f):=by
 simp only [execs]
 refine Yr _ (funext fun f=>?_)
 cases f<;>rfl
theorem Z5 (a:Stmt) (qq:Env):execs [a] qq=exec a qq:=by
 rw [Zw]
 have:(fun f:Flow=>match f with | .next=>execs [] qq | f=>(pure f:Sem Flow))=pure:=by
  funext f
  cases f with
  | next=>exact Gz qq
  | _=>rfl
 rw [this,bind_pure]
theorem eqT {M:Model} {m m':Sem α} {Q:α->Shared->Prop} (e:m'=m) (h:wpAny M A m' Q E s):wpAny M A m Q E s:=e▸h
theorem eqF {M:Model} {m m':Sem α} {Q:α->Shared->Prop} (e:m=m') (h:wpAny M A m' Q E s):wpAny M A m Q E s:=e▸h
theorem eqA {M:Model} {A':Around} {m:Sem α} {Q:α->Shared->Prop} (e:A=A') (h:wpAny M A' m Q E s):wpAny M A m Q E s:=e▸h
theorem Z99 {M:Model} {c:Prop} [Decidable c] {m m':Sem α} {Q:α->Shared->Prop} (e:c) (h:wpAny M A m Q E s):wpAny M A (if c then m else m') Q E s:=by rw [if_pos e]; exact h
theorem Zqj {M:Model} {c:Prop} [Decidable c] {m m':Sem α} {Q:α->Shared->Prop} (e:¬ c) (h:wpAny M A m' Q E s):wpAny M A (if c then m else m') Q E s:=by rw [if_neg e]; exact h
noncomputable def Zlf:List Nat:=Yt 16 28 0x7706543216104500005000500051
noncomputable abbrev Xr:List Stmt->Env->Sem Flow:=W.ZFast.zw12563942051412417395
noncomputable abbrev Zj:Expr->Env->Sem Value:=W.ZFast.zw14044960220447912780
noncomputable abbrev Xo:Expr->Env->Sem Value->Sem Bool:=W.ZFast.zw15418851999007992765
noncomputable def npEx (_:Except Value Env) (l:LA) (_:LB):Ext:=exN fun _=>Nb l 0 0
noncomputable def Z2c (f:Nat->Ext) (_:Except Value Flow) (l:LA) (_:LB):Ext:=exN fun j=>match j with
 | 4=>Nb l 0 1
 | j=>(f 0).nat (j+2)
theorem Z59 (L:Lx) (n t:Nat):TQ prog w b n t fun b=>Zlp (HZ w b) (TZ w b) Ua L n t :=
 tqx Zd [0] [0,1,1] fun _=>npEx
theorem Zee {L:Lx} {s s':Lt} (h:Za6 prog w b L s s' none) (e e':Int) (n t:Nat) (c:Code) (l:LA) (bb:LB) :
  Z6 T2 prog (wb w b) n t (Zl8 (HZ w b) L s s' e e' n t c l bb):=by
 obtain ⟨p,st,ln⟩:=s
 obtain ⟨p',st',ln'⟩:=s'
 exact Z6l h (Ms l) e e' n t
theorem Zyr {L:Lx} {s s':Lt} (h:Za6 prog w b L s s' none) (tk:LM) (fr k:Nat) (e e':Int) (n t:Nat) :
  TQ prog w b n t fun b=>Z8h (HZ w b) (TZ w b) Xr L tk fr k s s' e e' n t:=by
 obtain ⟨p,st,ln⟩:=s
 cases st with
 | none=>exact Zrb (cons:=fun b=>[Zl8 (HZ w b) L ⟨p,none,ln⟩ s' e e']) [] (Zb (Zee h e e') Zd) [6,0,1,2,3,4,5] Zlf Z2c p0
 | some z=>exact Zrb (cons:=fun b=>[Zl8 (HZ w b) L ⟨p,some z,ln⟩ s' e e']) [] (Zb (Zee h e e') Zd) [6,0,1,2,3,4,5] Zlf Z2c p0
theorem Z0l {L:Lx} (tk:LM) (fr k k':Nat) (s:Lt) (n t:Nat):TQ prog w b n t fun b=>Yac (HZ w b) (TZ w b) Xo Zj L tk fr k k' s n t :=
 tqx Zd [0,1,2,3,4] (Yt 16 19 0x4055000500000511) fun _ _ _ _=>exN fun _=>0
noncomputable def Mt {α:Type} (top:LE) (set:Setting):Sem α->Option α
 | .pure a=>some a
 | .rule _ k=>Mt top set (k ())
 | .at _ k=>Mt top set (k ())
 | .point _ k=>Mt top set (k ())
 | .ask k=>Mt top set (k set)
 | .load a _ k=>match top a with
  | some o=>Mt top set (k o)
  | none=>none
 | _=>none
theorem Zi3 (top:LE) (set:Setting) (a:Addr) (p:Option Value) (k:Obj->Sem α):Mt top set (.load a p k)=(match top a with | some o=>Mt top set (k o) | none=>none):=by kernel_rfl
theorem Y1 {top:LE} {Q:α->Shared->Prop} (h:∀ a o,top a=some o->s.heap.get? a=some o) {v:α} :
  ∀ {t:Sem α},Mt top ⟨prog,w.params⟩ t=some v->Q v s->wpAny (model prog w) A t Q E s:=by
 intro t
 induction t with
 | pure a=>intro e q; cases e; exact x_pure q
 | rule _ k ih=>intro e q; exact x_rule (ih () e q)
 | «at» _ k ih=>intro e q; exact x_at (ih () e q)
 | point _ k ih=>intro e q; exact x_point (ih () e q)
 | ask k ih=>intro e q; exact x_ask (ih _ e q)
 | load a p k ih =>
  intro e q
  rw [Zi3] at e
  cases ho:top a with
  | none=>rw [ho] at e; cases e
  | some o=>rw [ho] at e; exact x_load (h a o ho) (ih o e q)
 | _=>intro e; cases e
noncomputable def Zje:List Env->LC->Prop
 | [],[]=>True
 | e::es,p::ps=>e.scope.kind≠.module/\e.frame=some p.1/\(∀ vs,p.2.data≠.fields vs)/\Zje es ps
 | _,_=>False
noncomputable def J6 (f:Nat->LG):LC->LC
 | []=>[]
 | (a,o)::r=>(a,{ o with slots:=f 0 })::J6 (fun k=>f (k+1)) r
theorem Pd:∀ (f:Nat->LG) (l:LC),(J6 f l).map (·.1)=l.map (·.1)
 | _,[]=>rfl
 | f,(a,o)::r=>Yr (a::·) (Pd _ r)
theorem P7 {base:Heap}:∀ {es:List Env} {ps:LC},Zje es ps->(∀ p∈ps,base.get? p.1=none/\h.get? p.1=some p.2)->h.FunFrames base es
 | [],[],_,_=>trivial
 | [],_::_,x,_=>x.elim
 | _::_,[],x,_=>x.elim
 | e::es,p::ps,⟨h1,h2,h3,h4⟩,hp=>⟨h1,⟨p.1,p.2,h2,(hp p (.head _)).1,(hp p (.head _)).2,h3⟩,P7 h4 fun q hq=>hp q (.tail _ hq)⟩
theorem Zbu:∀ {es:List Env} {ps:LC},Zje es ps->∀ p∈ps,∀ vs,p.2.data≠.fields vs
 | [],[],_,_,hp=>nomatch hp
 | [],_::_,x,_,_=>x.elim
 | _::_,[],x,_,_=>x.elim
 | e::es,p::ps,⟨h1,h2,h3,h4⟩,q,hq=>by
  rcases X6.mp hq with rfl | hq
  ·exact h3
  ·exact Zbu h4 q hq
theorem Za1 {h':Heap}:∀ {ps:LC},(∀ p∈ps,∃ sl,h'.get? p.1=some { p.2 with slots:=sl })->∃ f,∀ p∈J6 f ps,h'.get? p.1=some p.2
 | [],_=>⟨fun _=>#[],fun p hp=>nomatch hp⟩
 | (a,o)::r,h=>by
  obtain ⟨sl,hs⟩:=h (a,o) (.head _)
  obtain ⟨f,hf⟩:=Za1 (ps:=r) fun p hp=>h p (.tail _ hp)
  refine ⟨fun k=>match k with | 0=>sl | k+1=>f k,fun p hp=>?_⟩
  rcases X6.mp hp with rfl | hp
  ·exact hs
  ·exact hf p hp
theorem Z2f {qq:Env} {es:List Env} {e:Addr} {tk:Clk} {Q:Unit->Shared->Prop}
  (hfr:A.frames=some (qq::es)) (hf:Zje (qq::es) fo) (O:Own H (fo++l) h) (M:Heap.MadeExc h h' e "StopIteration" [])
  (hR:∀ (f:Nat->LG) (o:Obj) (h'':Heap),Own H ((e,{ o with cls:=.type "StopIteration" })::(J6 f fo++l)) h''->Q () (r.at h'' tk)) :
  wpAny (model prog w) A (leaving qq (.ref e)) Q E (r.at h' tk):=by
 obtain ⟨t,he,_⟩:=M.there
 have nd:=O.nodup
 rw [J3,List.nodup_append] at nd
 have own':∀ p∈fo++l,h'.get? p.1=some p.2:=fun p hp=>M.keeps _ _ (O.own p hp)
 have ne_e:∀ b o,h.get? b=some o->b≠e:=fun b o hb q=>by rw [q,M.new] at hb; cases hb
 have hb:∀ b o,h'.get? b=some o->b≠e->b ∉ fo.map (·.1)->(hideAll h' (e::fo.map (·.1))).get? b=some o:=fun b o h1 h2 h3 =>
  hideAll_get _ h1 fun z=>(X6.mp z).elim h2 h3
 obtain ⟨L,hL⟩:∃ L,qq.frame=some L:=by
  cases fo with
  | nil=>exact hf.elim
  | cons p ps=>exact ⟨p.1,hf.2.1⟩
 refine wpAny_leaving_first (base:=hideAll h' (e::fo.map (·.1))) hfr (P7 hf fun p hp=>⟨hideAll_none _ (.tail _ (Zdq hp)),own' p (N8 _ hp)⟩) hL he
  (fun b o q=>of_hideAll _ q) (hideAll_none _ (.head _)) rfl rfl fun h'' ⟨st,_,tr,sl⟩=>?_
 obtain ⟨oe,_,_,_,_,ge,gc,_⟩:=tr
 obtain ⟨f,hfs⟩:=Za1 (h':=h'') (ps:=fo) fun p hp=>sl p.1 p.2 (own' p (N8 _ hp)) (Zbu hf p hp)
 refine hR f oe h'' ⟨fun b o q=>?_,fun p hp=>?_,?_,fun p hp=>?_⟩
 ·have q1:=O.keep b o q
  refine st b o (hb b o (M.keeps _ _ q1) (ne_e b o q1) fun z=>?_)
  obtain ⟨p,hp,rfl⟩:=Uo.mp z
  rw [O.apart p (N8 _ hp)] at q; cases q
 ·rcases X6.mp hp with rfl | hp
  ·show h''.get? e=some { oe with cls:=.type "StopIteration" }
   have gc':oe.cls=.type "StopIteration" := gc
   rw [ge,← gc']
  ·rcases Zhu.mp hp with hp | hp
   ·exact hfs p hp
   ·exact st _ _ (hb _ _ (own' p (N7 _ hp)) (ne_e _ _ (O.own p (N7 _ hp))) fun z=>nd.2.2 _ z _ (Zdq hp) rfl)
 ·rw [Zcq,J3,Pd,← J3,Zek]
  refine ⟨fun z=>?_,O.nodup⟩
  obtain ⟨p,hp,q⟩:=Uo.mp z
  exact ne_e _ _ (O.own p hp) q
 ·rcases X6.mp hp with rfl | hp
  ·show H.get? e=none
   cases q:H.get? e with
   | none=>rfl
   | some o=>exact absurd rfl (ne_e _ _ (O.keep _ _ q))
  ·have hm:p.1∈(fo++l).map (·.1):=by
    rw [J3,← Pd f fo,← J3]
    exact Zdq hp
   obtain ⟨q,hq,e'⟩:=Uo.mp hm
   rw [← e']; exact O.apart q hq
theorem AOk.bare {fs:Option (List Env)} {m:Nat} (h:AOk A fs n) (hm:m<=n):AOk A none m:=⟨h.hand,by have:=h.deep; lia,by have:=h.units; lia,fun l e=>by cases e⟩
noncomputable def Zlo (w:Hs) (L:Lx) (tk:LM) (s s':Lt) (e e':Int) (es:List Env) (fo:LC) (n t:Nat):Con where
 pre:=Xn w L tk s e e'++fo
 post x:=Xn w L x.tk s' e e'++J6 x.sl fo
 fresh x:=[(x.nat 7,{ x.ob with cls:=.type "StopIteration" })]
 code:=Zex L
 res x:=.error (.ref (x.nat 7))
 need:=60
 fr:=some es
noncomputable def Y6 (w:World):FuncData:=Z7 (Mn w) 745
noncomputable def Yaw (e:Expr):Str:=(vE e).2.2.2.2.1
noncomputable def Ybk (e:Expr):Pos:=(vE e).2.1
noncomputable def ifRp (s:Stmt):Pos:=(vS (Ul (vS s).2.1 0)).2.2.2
noncomputable def ifPo (s:Stmt):Pos:=(vS s).2.2.2
theorem d745 (w:World) (b:Bool):((Mn (wb w b) 745).bind Uq)=some (Y6 (wb w b)):=kf
theorem Zv9 (w:World) (b:Bool):(Y6 (wb w b)).body=.stmts [Zl (Y6 (wb w b)) 0,Zl (Y6 (wb w b)) 1,Zl (Y6 (wb w b)) 2]:=kf
theorem Z7m (w:World) (b:Bool):Zl (Y6 (wb w b)) 1=.If (Xf (Zl (Y6 (wb w b)) 1)) [.Raise (some (.Name (Yaw (M8 (Zl (Y6 (wb w b)) 1))) (Ybk (M8 (Zl (Y6 (wb w b)) 1))))) none (ifRp (Zl (Y6 (wb w b)) 1))] [] (ifPo (Zl (Y6 (wb w b)) 1)):=kf
theorem Z1j (w:World) (b:Bool):M8 (Zl (Y6 (wb w b)) 1)=.Name (Yaw (M8 (Zl (Y6 (wb w b)) 1))) (Ybk (M8 (Zl (Y6 (wb w b)) 1))):=kf
theorem Zt9 (w:World) (b:Bool):(Y6 (wb w b)).scope.kind=.function:=kf
theorem Zxp (prog:Program) (w:World) (b:Bool) (fr:Nat):Mt (TZ w b) ⟨prog,(wb w b).params⟩ (Zj (M8 (Zl (Y6 (wb w b)) 1)) (Js (TZ w b) fr))=some (.type "StopIteration"):=kf
theorem Xy:Zj=eval:=W.ZFast.ze14044960220447912780.symm
theorem Yk:Xr=execs:=W.ZFast.ze12563942051412417395.symm
theorem Pc:Xo=PySem.isTrue:=W.ZFast.ze15418851999007992765.symm
theorem Z00 {L:Lx} {s s':Lt} (h:Za6 prog w b L s s' none) (tk:LM) (e e':Int) {es:List Env} (hfo:Zje es fo) (n t:Nat) :
  Z6 T2 prog (wb w b) n t (Zlo (HZ w b) L tk s s' e e' es fo n t):=by
 refine ⟨fun H hp r g A R G hA O hs hR=>?_⟩
 have O:Own H (Xn (HZ w b) L tk s e e'++fo) hp:=by
  have z:Own H ((Xn (HZ w b) L tk s e e'++fo)++[]) hp:=O
  rw [Gf] at z; exact z
 have hd:=d745 w b
 obtain ⟨o,ho,hd⟩:=Pl.mp hd
 have qI:AOk (A.under (Zex L)) (some es) 59:=hA.under (Zr rfl)
 refine Za2 (O.keep _ _ (G.top _ _ ho)) hd qI.room ?_
 have e1:=(Z59 (prog:=prog) (w:=w) (b:=b) L n t).use (A:=A.under (Zex L)) (r:=r) (g:=g) (rest:=Xn (HZ w b) L tk s e e'++fo) (Q:=fun qq s'=>s'.heap.NoLimit/\codeAny (model prog (wb w b)) A (J0 (Y6 (wb w b)) qq) R s') (E:=fun x=>R (.error x)) G (qI.bare (by show 20<=59; decide)) O (.refl _) hs
 have e2:(Zlp (HZ w b) (TZ w b) Ua L n t).tree=Jn 745 (Y6 (wb w b)) ⟨[.ref L.lex],[]⟩:=by
  unfold Zlp
  exact Us (Us (Us Mh 745) (Y6 (wb w b))) ⟨[.ref L.lex],[]⟩
 rw [e2] at e1
 refine e1 fun x h1 g1 O1 qU qD=>⟨G.nolimit.keeps O1.keep,?_⟩
 unfold J0
 rw [Zv9]
 dsimp only
 generalize hk:x.nat 2=k at O1
 have O1:Own H (((n,Z54 (HZ w b) L k)::Xn (HZ w b) L tk s e e')++fo) h1:=by
  have z:Own H (([(n,Z54 (HZ w b) L (x.nat 2))]++[])++[]++(Xn (HZ w b) L tk s e e'++fo)) h1:=O1
  rw [hk] at z
  simpa using z
 have qR:AOk (A.under (.func [Zl (Y6 (wb w b)) 0,Zl (Y6 (wb w b)) 1,Zl (Y6 (wb w b)) 2] (Js (TZ w b) n))) (some (Js (TZ w b) n::es)) 59:=hA.under (Zr rfl)
 generalize hA2:A.under (.func [Zl (Y6 (wb w b)) 0,Zl (Y6 (wb w b)) 1,Zl (Y6 (wb w b)) 2] (Js (TZ w b) n))=A2 at qR
 refine Gv ?_
 rw [hA2,Zw]
 refine Zi ?_
 have f1:=(Zyr h tk n k e e' (n+x.nat 0) (t+x.nat 1)).use (A:=A2) (r:=r) (g:=g1) (rest:=fo) (Q:=fun f s''=>wpAny (model prog (wb w b)) A2 (match f with | .next=>execs [Zl (Y6 (wb w b)) 1,Zl (Y6 (wb w b)) 2] (Js (TZ w b) n) | f=>pure f) (fun f s'=>R (.ok (.ret (match f with | .ret v=>v | _=>.none))) s') (fun e s'=>wpAny (model prog (wb w b)) A2 («leaving» (Js (TZ w b) n) e) (fun _ s''=>R (.error e) s'') (fun e' s''=>R (.error e') s'') s') s'')
  (E:=fun e s'=>wpAny (model prog (wb w b)) A2 («leaving» (Js (TZ w b) n) e) (fun _ s''=>R (.error e) s'') (fun e' s''=>R (.error e') s'') s') G (qR.bare (by show 50<=59; decide)) O1 (by show List.Perm _ ((_++[])++_); rw [Gf]; exact .refl _) qU
 have f2:(Z8h (HZ w b) (TZ w b) Xr L tk n k s s' e e' (n+x.nat 0) (t+x.nat 1)).tree=exec (Zl (Y6 (wb w b)) 0) (Js (TZ w b) n):=by
  unfold Z8h
  exact (Us (Us Yk [Zl (Y6 (wb w b)) 0]) (Js (TZ w b) n)).trans (Z5 _ _)
 rw [f2] at f1
 refine f1 fun y h2 g2 O2 qS qF=>?_
 have O2:Own H (((n,Zno (HZ w b) L k (y.nat 6))::Xn (HZ w b) L y.tk s' e e')++fo) h2:=by
  have z:Own H ((([]++((n,Zno (HZ w b) L k (y.nat 6))::Xn (HZ w b) L y.tk s' e e'))++[])++fo) h2:=O2
  simpa using z
 rw [Zw]
 refine Zi ?_
 obtain ⟨nm,np,p1,pos,hst,hra⟩:∃ x np p1 pos,Zl (Y6 (wb w b)) 1=.If (Xf (Zl (Y6 (wb w b)) 1)) [.Raise (some (.Name x np)) none p1] [] pos/\M8 (Zl (Y6 (wb w b)) 1)=.Name x np:=⟨_,_,_,_,Z7m w b,Z1j w b⟩
 rw [hst]
 refine wpAny_If ?_
 generalize hk2:y.nat 6=k' at O2
 have c1:=(Z0l (prog:=prog) (w:=w) (b:=b) (L:=L) y.tk n k k' s' (n+x.nat 0+y.nat 0) (t+x.nat 1+y.nat 1)).use (A:=A2) (r:=r) (g:=g2) (rest:=[(L.pb,dqO e []),(L.fk,dqO e' [])]++fo)
  (Q:=fun b' s₂=>if b'=true then wpAny (model prog (wb w b)) A2 (execs [.Raise (some (.Name nm np)) none p1] (Js (TZ w b) n)) (fun f s₃=>wpAny (model prog (wb w b)) A2 (match f with | .next=>execs [Zl (Y6 (wb w b)) 2] (Js (TZ w b) n) | f=>pure f) (fun f s'=>R (.ok (.ret (match f with | .ret v=>v | _=>.none))) s') (fun e s'=>wpAny (model prog (wb w b)) A2 («leaving» (Js (TZ w b) n) e) (fun _ s''=>R (.error e) s'') (fun e' s''=>R (.error e') s'') s') s₃) (fun e s'=>wpAny (model prog (wb w b)) A2 («leaving» (Js (TZ w b) n) e) (fun _ s''=>R (.error e) s'') (fun e' s''=>R (.error e') s'') s') s₂
   else wpAny (model prog (wb w b)) A2 (execs [] (Js (TZ w b) n)) (fun f s₃=>wpAny (model prog (wb w b)) A2 (match f with | .next=>execs [Zl (Y6 (wb w b)) 2] (Js (TZ w b) n) | f=>pure f) (fun f s'=>R (.ok (.ret (match f with | .ret v=>v | _=>.none))) s') (fun e s'=>wpAny (model prog (wb w b)) A2 («leaving» (Js (TZ w b) n) e) (fun _ s''=>R (.error e) s'') (fun e' s''=>R (.error e') s'') s') s₃) (fun e s'=>wpAny (model prog (wb w b)) A2 («leaving» (Js (TZ w b) n) e) (fun _ s''=>R (.error e) s'') (fun e' s''=>R (.error e') s'') s') s₂)
  (E:=fun e s'=>wpAny (model prog (wb w b)) A2 («leaving» (Js (TZ w b) n) e) (fun _ s''=>R (.error e) s'') (fun e' s''=>R (.error e') s'') s') G (qR.bare (by show 20<=59; decide)) O2
  (by show List.Perm _ ((((n,Zno (HZ w b) L k k')::Ya (HZ w b) L y.tk s')++[])++_); rw [List.append_nil]; unfold Xn; simp) qS
 have c2:(Yac (HZ w b) (TZ w b) Xo Zj L y.tk n k k' s' (n+x.nat 0+y.nat 0) (t+x.nat 1+y.nat 1)).tree=PySem.isTrue (Xf (Zl (Y6 (wb w b)) 1)) (Js (TZ w b) n) (eval (Xf (Zl (Y6 (wb w b)) 1)) (Js (TZ w b) n)):=by
  unfold Yac
  rw [Pc,Xy]; rfl
 rw [c2] at c1
 refine c1 fun z h3 g3 O3 xz qz=>?_
 change Zlq _ _ (Except.ok true) _
 unfold Zlq
 dsimp only
 rw [if_pos rfl,Z5]
 have O3:Own H (((n,Zno (HZ w b) L k k')::fo)++Xn (HZ w b) L y.tk s' e e') h3:=by
  have q:Own H ((([]++((n,Zno (HZ w b) L k k')::Ya (HZ w b) L y.tk s'))++[])++([(L.pb,dqO e []),(L.fk,dqO e' [])]++fo)) h3:=O3
  refine q.perm ?_
  simp only [List.nil_append,Gf,List.cons_append]
  refine List.Perm.cons _ ?_
  have:Ya (HZ w b) L y.tk s'++((L.pb,dqO e [])::(L.fk,dqO e' [])::fo)=Xn (HZ w b) L y.tk s' e e'++fo:=by unfold Xn; simp
  rw [this]
  exact List.perm_append_comm
 refine owsi_raiseC qR.hand ?_ fun h4 ex M=>?_
 ·rw [← hra,← Xy]
  exact Y1 (top:=Mn (wb w b)) (fun a o q=>O3.keep _ _ (G.top a o q)) (Zxp prog w b n) ⟨rfl,rfl⟩
 ·refine Z2f (r:=r) (tk:=⟨t+x.nat 1+y.nat 1+z.nat 1,g3⟩) (qR.frames _ rfl) ?_ O3 M fun f ob h5 O5=>?_
  ·exact ⟨by show (Y6 (wb w b)).scope.kind≠_; rw [Zt9]; decide,rfl,fun vs q=>(by cases q),hfo⟩
  ·have hn:n < h5.objs.size:=Zns (O5.own (n,{ Zno (HZ w b) L k k' with slots:=f 0 }) (.tail _ (.head _)))
   have qA:=hR ⟨fun j=>match j with | 0=>h5.objs.size - n | 1=>x.nat 1+y.nat 1+z.nat 1 | 7=>ex | j=>y.nat j,fun k=>f (k+1),fun _ _ _=>0,ob⟩ h5 g3
   have q1:Own H ((Zlo (HZ w b) L tk s s' e e' es fo n t).postA ⟨fun j=>match j with | 0=>h5.objs.size - n | 1=>x.nat 1+y.nat 1+z.nat 1 | 7=>ex | j=>y.nat j,fun k=>f (k+1),fun _ _ _=>0,ob⟩++[(n,{ Zno (HZ w b) L k k' with slots:=f 0 })]) h5:=by
    refine O5.perm ?_
    show List.Perm ((ex,_)::(((n,_)::J6 (fun k=>f (k+1)) fo)++Xn (HZ w b) L y.tk s' e e')) ((([(ex,_)]++(Xn (HZ w b) L y.tk s' e e'++J6 (fun k=>f (k+1)) fo))++[])++[(n,_)])
    rw [Gf]
    simp only [List.cons_append,List.nil_append]
    refine List.Perm.cons _ ?_
    refine (List.Perm.cons _ List.perm_append_comm).trans ?_
    exact List.perm_append_singleton _ _ |>.symm
   have qA:=qA q1.drop (by show h5.objs.size=n+(h5.objs.size - n); lia) (gtr (gtr qD qF) qz)
   have et:t+(x.nat 1+y.nat 1+z.nat 1)=t+x.nat 1+y.nat 1+z.nat 1:=by lia
   rw [← et]
   exact qA
noncomputable def Yai (w:Hs) (L:Lx) (s s':Lt) (e:Int) (U:Str):Fam:=fun n t _ l _=>Z4k w L (Ms l) s s' e U n t
noncomputable def Zz1 (w:Hs) (L:Lx) (s:Lt) (e:Int) (v:Str) (tv:Nat) (r:List (Str×Nat)):Fam:=fun n t _ l _=>Zro w L (Ms l) s e v tv r n t
noncomputable def Zrl (o:Obj):Obj:=match o with
 | ⟨c,d,dt,sl⟩=>⟨c,d,match dt with | .dict es k=>.dict es k | _=>.dict #[] 0,sl⟩
noncomputable def Z7f:List Env->LA->LC
 | [],_=>[]
 | e::es,l=>(e.frame.getD 0,Zrl (match l with | o::_=>(match o with | some p=>(match p with | (_,o)=>o) | none=>{ cls:=.none }) | []=>{ cls:=.none }))::Z7f es (match l with | _::r=>r | []=>[])
noncomputable def Zhk (w:Hs) (L:Lx) (s s':Lt) (e e':Int) (es:List Env):Fam:=fun n t _ l _=>Zlo w L (Ms l) s s' e e' es (Z7f es (l.drop 6)) n t
noncomputable def Zz2 (pn:Value->Sem (Option Value)) (w:Hs) (L:Lx) (tk:LM) (s s':Lt) (e:Int) (U:Str) (n t:Nat):Zx (Option Value) where
 pre:=Ya w L tk s++[(L.pb,dqO e [])]
 post x:=Ya w L x.tk s'++[(L.pb,dqO e [])]
 fresh _:=[]
 tree:=pn (.ref L.lex)
 res x:=.ok (some (.str U (x.nat 6)))
 need:=55
 fr:=none
noncomputable def Zrk (pn:Value->Sem (Option Value)) (w:Hs) (L:Lx) (tk:LM) (s:Lt) (e:Int) (v:Str) (tv:Nat) (r:List (Str×Nat)) (n t:Nat):Zx (Option Value) where
 pre:=Ya w L tk s++[(L.pb,dqO e ((v,tv)::r))]
 post x:=Ya w L tk s++[(L.pb,dqO (e+1) r)]
 fresh _:=[]
 tree:=pn (.ref L.lex)
 res x:=.ok (some (.str v tv))
 need:=55
 fr:=none
noncomputable def Z36 (pn:Value->Sem (Option Value)) (w:Hs) (L:Lx) (tk:LM) (s s':Lt) (e e':Int) (es:List Env) (fo:LC) (n t:Nat):Zx (Option Value) where
 pre:=Xn w L tk s e e'++fo
 post x:=Xn w L x.tk s' e e'++J6 x.sl fo
 fresh _:=[]
 tree:=pn (.ref L.lex)
 res x:=.ok none
 need:=65
 fr:=some es
noncomputable def frO (es:LJ) (k:Nat) (sl:LG):Obj:={ cls:=.type "frame",data:=.dict es k,slots:=sl }
noncomputable abbrev Zc6:Value->Sem (Option Value):=W.ZFast.zw9404975358583537561
theorem Pu:Zc6=pyNext:=W.ZFast.ze9404975358583537561.symm
noncomputable def fe (E:Env) (a:Addr):Env:={ E with frame:=some a }
noncomputable def Z46 (f:Nat->Ext) (_:Except Value (Option Value)) (_:LA) (_:LB):Ext:=⟨fun j=>(f 0).nat (j+2),(f 0).sl,fun _ _ _=>0,Ext.nil.ob⟩
theorem Zf3 (o:Obj):∀ vs,(Zrl o).data≠.fields vs:=by
 obtain ⟨c,d,dt,sl⟩:=o
 intro vs h
 cases dt<;>cases h
theorem Zb1:∀ {es:List Env},(∀ e∈es,e.scope.kind≠.module/\e.frame.isSome=true)->∀ l,Zje es (Z7f es l)
 | [],_,_=>trivial
 | e::es,h,l=>by
  refine ⟨(h e (.head _)).1,?_,Zf3 _,Zb1 (fun x hx=>h x (.tail _ hx)) _⟩
  obtain ⟨a,ha⟩:=Option.isSome_iff_exists.mp (h e (.head _)).2
  rw [ha]; rfl
theorem Zas {L:Lx} {s s':Lt} (h:Za6 prog w b L s s' none) (e e':Int) {es:List Env} (hes:∀ e∈es,e.scope.kind≠.module/\e.frame.isSome=true) (n t:Nat) (c:Code) (l:LA) (bb:LB) :
  Z6 T2 prog (wb w b) n t (Zhk (HZ w b) L s s' e e' es n t c l bb):=Z00 h (Ms l) e e' (Zb1 hes _) n t
theorem Z9y {L:Lx} {p:Nat} {ln:Int} {z U:Str} {s':Lt} (h:Za6 prog w b L ⟨p,some z,ln⟩ s' (some U)) (tk:LM) (e:Int) (n t:Nat) :
  TQ prog w b n t fun b=>Zz2 Zc6 (HZ w b) L tk ⟨p,some z,ln⟩ s' e U n t :=
 Zrb (cons:=fun b=>[Yai (HZ w b) L ⟨p,some z,ln⟩ s' e U]) [] (Zb (fun n t c l _=>Z7b h (Ms l) e n t) Zd) [0,1,2,3,4] (Yt 16 13 0x432105100004) Z46 p0
theorem Z1z {L:Lx} (tk:LM) (s:Lt) (e:Int) (v:Str) (tv:Nat) (r:List (Str×Nat)) (hr:r.length < 21) (n t:Nat) :
  TQ prog w b n t fun b=>Zrk Zc6 (HZ w b) L tk s e v tv r n t:=by
 obtain ⟨p,st,ln⟩:=s
 exact Zrb (cons:=fun b=>[Zz1 (HZ w b) L ⟨p,st,ln⟩ e v tv r]) [] (Zb (fun n t c l _=>Zza (Ms l) ⟨p,st,ln⟩ e v tv r hr n t) Zd) [0,1,2,3,4] (Yt 16 13 0x432105100004) Z46 p0 (by cases st<;>kernel_rfl)
inductive Xv:List Env->LC->Prop
 | one (E1 a1 d1 k1 sl1) (h1:E1.scope.kind≠.module):Xv [fe E1 a1] [(a1,frO d1 k1 sl1)]
 | two (E1 a1 d1 k1 sl1 E2 a2 d2 k2 sl2) (h1:E1.scope.kind≠.module) (h2:E2.scope.kind≠.module):Xv [fe E1 a1,fe E2 a2] [(a1,frO d1 k1 sl1),(a2,frO d2 k2 sl2)]
 | four (E1 a1 d1 k1 sl1 E2 a2 d2 k2 sl2 E3 a3 d3 k3 sl3 E4 a4 d4 k4 sl4) (h1:E1.scope.kind≠.module) (h2:E2.scope.kind≠.module) (h3:E3.scope.kind≠.module) (h4:E4.scope.kind≠.module):Xv [fe E1 a1,fe E2 a2,fe E3 a3,fe E4 a4] [(a1,frO d1 k1 sl1),(a2,frO d2 k2 sl2),(a3,frO d3 k3 sl3),(a4,frO d4 k4 sl4)]
theorem Zz3 {L:Lx} {s s':Lt} (h:Za6 prog w b L s s' none) (tk:LM) (e e':Int) {es:List Env} (hf:Xv es fo) (n t:Nat) :
  TQ prog w b n t fun b=>Z36 Zc6 (HZ w b) L tk s s' e e' es fo n t:=by
 obtain ⟨p,st,ln⟩:=s
 cases hf with
 | one E1 a1 d1 k1 sl1 h1 =>
  refine Zrb (cons:=fun b=>[Zhk (HZ w b) L ⟨p,st,ln⟩ s' e e' [fe E1 a1]]) [] (Zb (Zas h e e' fun x hx=>?_) Zd) [1,2,3,4,5,6,7] (Yt 16 16 0x1065432107100004) Z46 p0 (by cases st<;>kernel_rfl)
  rw [Ur] at hx
  subst hx; exact ⟨h1,rfl⟩
 | two E1 a1 d1 k1 sl1 E2 a2 d2 k2 sl2 h1 h2 =>
  refine Zrb (cons:=fun b=>[Zhk (HZ w b) L ⟨p,st,ln⟩ s' e e' [fe E1 a1,fe E2 a2]]) [] (Zb (Zas h e e' fun x hx=>?_) Zd) [1,2,3,4,5,6,7,8] (Yt 16 17 0x10765432108100004) Z46 p0 (by cases st<;>kernel_rfl)
  simp only [X6,Zfp,Zfe] at hx
  rcases hx with rfl | rfl
  ·exact ⟨h1,rfl⟩
  ·exact ⟨h2,rfl⟩
 | four E1 a1 d1 k1 sl1 E2 a2 d2 k2 sl2 E3 a3 d3 k3 sl3 E4 a4 d4 k4 sl4 h1 h2 h3 h4 =>
  refine Zrb (cons:=fun b=>[Zhk (HZ w b) L ⟨p,st,ln⟩ s' e e' [fe E1 a1,fe E2 a2,fe E3 a3,fe E4 a4]]) [] (Zb (Zas h e e' fun x hx=>?_) Zd) [1,2,3,4,5,6,7,8,9,10] (Yt 16 19 0x109876543210a100004) Z46 p0 (by cases st<;>kernel_rfl)
  simp only [X6,Zfp,Zfe] at hx
  rcases hx with rfl | rfl | rfl | rfl
  ·exact ⟨h1,rfl⟩
  ·exact ⟨h2,rfl⟩
  ·exact ⟨h3,rfl⟩
  ·exact ⟨h4,rfl⟩
theorem Own.update {a:Addr} {o:Obj} (O:Own H ((a,o)::l) h) (f:Obj->Obj) (hf:(f o).isFreed=false):Own H ((a,f o)::l) (h.update a f):=by
 have nd:=O.nodup
 rw [Zcq,Zek] at nd
 have ha:=O.own (a,o) (.head _)
 have oth:∀ b,b≠a->(h.update a f).get? b=h.get? b:=fun b hb=>Heap.get?_update_other _ _ (Ne.symm hb)
 refine ⟨fun b ob e=>(oth b fun q=>?_).trans (O.keep b ob e),fun p hp=>?_,by rw [Zcq,Zek]; exact nd,fun p hp=>?_⟩
 ·subst q
  rw [O.apart (b,o) (.head _)] at e; cases e
 ·rcases X6.mp hp with rfl | hp
  ·exact Heap.get?_update_self f ha hf
  ·exact (oth _ fun q=>nd.1 (Uo.mpr ⟨p,hp,q⟩)).trans (O.own p (.tail _ hp))
 ·rcases X6.mp hp with rfl | hp
  ·exact O.apart (a,o) (.head _)
  ·exact O.apart p (.tail _ hp)
theorem Own.push (O:Own H l h) (o:Obj) (hf:o.isFreed=false):Own H ((h.objs.size,o)::l) (h.push o):=by
 have fresh:∀ b ob,h.get? b=some ob->b≠h.objs.size:=fun b ob e q=>by
  have:=Zns e
  rw [q] at this; exact Nat.lt_irrefl _ this
 refine ⟨fun b ob e=>Zyb _ (O.keep b ob e),fun p hp=>?_,?_,fun p hp=>?_⟩
 ·rcases X6.mp hp with rfl | hp
  ·exact Z42 _ hf
  ·exact Zyb _ (O.own p hp)
 ·rw [Zcq,Zek]
  refine ⟨fun z=>?_,O.nodup⟩
  obtain ⟨p,hp,e⟩:=Uo.mp z
  exact fresh _ _ (O.own p hp) e
 ·rcases X6.mp hp with rfl | hp
  ·cases q:H.get? h.objs.size with
   | none=>rfl
   | some ob=>exact absurd rfl (fresh _ _ (O.keep _ _ q))
  ·exact O.apart p hp
noncomputable def Za (l:LH) (ep:Nat):Obj:={ cls:=.type "list",data:=.seq ⟨l⟩ ep }
inductive Gi (prog:Program) (w:World) (b:Bool) (L:Lx):Lt->List Str->Lt->Prop
 | done {s s'} (h:Za6 prog w b L s s' none):Gi prog w b L s [] s'
 | word {p z ln s1 U ws s'} (h:Za6 prog w b L ⟨p,some z,ln⟩ s1 (some U)) (r:Gi prog w b L s1 ws s'):Gi prog w b L ⟨p,some z,ln⟩ (U::ws) s'
noncomputable def pbV (l:List (Str×Nat)):LH:=l.map fun p=>.str p.1 p.2
noncomputable def wsV:List Str->(LM)->LH
 | [],_=>[]
 | U::r,t=>.str U (t 0)::wsV r fun k=>t (k+1)
noncomputable def Mm (w:Hs) (L:Lx) (tk:LM) (s:Lt) (e:Int) (pbl:List (Str×Nat)) (e':Int):LC:=Ya w L tk s++[(L.pb,dqO e pbl),(L.fk,dqO e' [])]
noncomputable def Ux (lst lex:Addr) (v:Value):Code:=.builtin "list.extend.loop" ⟨[.ref lst,.ref lex,v],[]⟩
noncomputable def Zq8 (w:Hs) (L:Lx) (tk:LM) (s s':Lt) (e e':Int) (pbl:List (Str×Nat)) (ws:List Str) (lst:Addr) (qH:LH) (ep:Nat) (v:Value) (es:List Env) (fo:LC):Con where
 pre:=(lst,Za qH ep)::(Mm w L tk s e pbl e'++fo)
 post x:=(lst,Za (qH++(pbV pbl++wsV ws (x.seq 0 0))) (x.nat 8))::(Mm w L x.tk s' (e+pbl.length) [] e'++J6 x.sl fo)
 fresh _:=[]
 code:=Ux lst L.lex v
 res _:=.ok (.ret v)
 need:=70
 fr:=some es
theorem Zb0 (qH:LH) (ep:Nat) (v:Value):∃ ep',Obj.mapSeq (·.push v) (Za qH ep)=Za (qH++[v]) ep':=by
 have e:(⟨qH⟩:Array Value).push v=⟨qH++[v]⟩:=by simp
 refine ⟨if (⟨qH++[v]⟩:Array Value).size==(⟨qH⟩:Array Value).size then ep else ep+1,?_⟩
 simp only [Obj.mapSeq,Za,e]
section
theorem Zhc {C:Zx (Option Value)} (hC:Xq T2 prog (wb w b) n t C) {v:Ext->Value} (hres:∀ x,C.res x=.ok (some (v x))) {lex:Addr} (htree:C.tree=pyNext (.ref lex)) {qH:LH} {rest:LC} {R:Result->Shared->Prop} {vr:Value}
  (G:Ground T2 (wb w b) H) {fs:Option (List Env)} (hA:AOk A fs 70) (hmd:∀ x,C.made x=x.nat 0) (hneed:C.need<=69) (hfr:C.fr=none) (O:Own H ((lst,Za qH ep)::l) h) (hp:l.Perm (C.preA++rest)) (hs:h.objs.size=n) (qk:qH.length<=sizeLine)
  (next:∀ x h' g' ep',Own H ((lst,Za (qH++[v x]) ep')::(C.postA x++rest)) h'->h'.objs.size=n+x.nat 0->Zq true g g'->codeAny (model prog (wb w b)) A (Ux lst lex vr) R (r.at h' ⟨t+x.nat 1,g'⟩)) :
  codeAny (model prog (wb w b)) A (Ux lst lex vr) R (r.at h ⟨t,g⟩):=by
 refine M3 F.entry_extend_loop ?_
 refine Zi ?_
 rw [← htree]
 have hA':AOk (A.under (Ux lst lex vr)) none 69:=(hA.under (Zr rfl)).bare (Y9 _)
 refine hC.use (rest:=(lst,Za qH ep)::rest) G (by rw [hfr]; exact hA'.bare hneed) O (((List.Perm.cons _ hp).trans List.perm_middle.symm)) hs fun x h1 g1 O1 qU qD=>?_
 rw [hres]
 have O2:=O1.perm (List.perm_middle (a:=(lst,Za qH ep)))
 refine Zi ?_
 refine Znl (O2.own _ (.head _)) rfl ?_ qk (by simpa using qk)
 obtain ⟨ep',hep⟩:=Zb0 qH ep (v x)
 refine Yo ⟨Zkv F.plain_extend_loop _,?_⟩
 have O3:=O2.update (Obj.mapSeq (·.push (v x))) (by rw [hep]; rfl)
 rw [hep] at O3
 refine next x _ g1 ep' O3 ?_ qD
 rw [← hmd,← qU]
 exact (Zhz ..).1
theorem Yw (ws:List Str) (f:LM):(wsV ws f).length=ws.length:=by
 induction ws generalizing f with
 | nil=>rfl
 | cons U r ih=>exact Yr (·+1) (ih _)
theorem Zks {L:Lx} {e e':Int} {v:Value} {es:List Env} (hf:Xv es fo) {s s':Lt} {ws:List Str} (hr:Gi prog w b L s ws s') :
  ∀ (tk:LM) (qH:LH) (ep n t:Nat),qH.length+ws.length<=sizeLine->Z6 T2 prog (wb w b) n t (Zq8 (HZ w b) L tk s s' e e' [] ws lst qH ep v es fo):=by
 induction hr with
 | @done s s' h =>
  intro tk qH ep n t qk
  refine ⟨fun H hp r g A R G hA O hs hR=>?_⟩
  refine M3 F.entry_extend_loop ?_
  show wpAny _ (A.under (Ux lst L.lex v)) (pyNext (.ref L.lex)>>=fun r=>match r with | none=>ret v | some x=>Builtin.List.listUpdate (.ref lst) (·.push x)>>=fun _=>again (Ux lst L.lex v)) _ _ _
  refine Zi ?_
  rw [← Pu]
  have hA':AOk (A.under (Ux lst L.lex v)) (some es) 69:=hA.under (Zr rfl)
  have O0:Own H ((lst,Za qH ep)::(Xn (HZ w b) L tk s e e'++fo)) hp:=by
   have z:Own H (((lst,Za qH ep)::(Mm (HZ w b) L tk s e [] e'++fo))++[]) hp:=O
   rw [Gf] at z; exact z
  refine (Zz3 h tk e e' hf n t).use (rest:=[(lst,Za qH ep)]) G ⟨hA'.hand,by have:=hA'.deep; show _+5 * 65 < _; lia,by have:=hA'.units; show _+10 * 65 < _; lia,hA'.frames⟩ O0 ?_ hs fun x h1 g1 O1 qU qD=>?_
  ·show List.Perm _ (((Xn (HZ w b) L tk s e e'++fo)++[])++_)
   rw [Gf]
   exact (List.perm_append_singleton _ _).symm
  ·show wpAny _ _ (ret v) _ _ _
   refine Yo ?_
   have qA:=hR ⟨fun j=>match j with | 8=>ep | j=>x.nat j,x.sl,fun _ _ _=>0,x.ob⟩ h1 g1 ?_ qU qD
   ·exact qA
   ·have z:Own H ((([]++(Xn (HZ w b) L x.tk s' e e'++J6 x.sl fo))++[])++[(lst,Za qH ep)]) h1:=O1
    rw [Gf,List.nil_append] at z
    have z:=z.perm (List.perm_append_singleton _ _)
    show Own H (([]++((lst,Za (qH++(pbV []++wsV [] fun _=>0)) ep)::(Mm (HZ w b) L x.tk s' (e+([]:List (Str×Nat)).length) [] e'++J6 x.sl fo)))++[]) h1
    have e0:e+(([]:List (Str×Nat)).length:Int)=e:=by simp
    rw [e0,Gf,List.nil_append]
    have e1:qH++(pbV []++wsV [] fun _=>0)=qH:=by simp [pbV,wsV]
    rw [e1]
    exact z
 | @word p z ln s1 U ws s' h hr ih =>
  intro tk qH ep n t qk
  refine ⟨fun H hp r g A R G hA O hs hR=>?_⟩
  have O0:Own H ((lst,Za qH ep)::(Mm (HZ w b) L tk ⟨p,some z,ln⟩ e [] e'++fo)) hp:=by
   have z:Own H (((lst,Za qH ep)::(Mm (HZ w b) L tk ⟨p,some z,ln⟩ e [] e'++fo))++[]) hp:=O
   rw [Gf] at z; exact z
  refine Zhc (Z9y h tk e n t) (v:=fun x=>.str U (x.nat 6)) (fun _=>rfl) (by unfold Zz2; exact congrFun Pu _) (rest:=(L.fk,dqO e' [])::fo) G hA (fun _=>rfl) (by show 55<=69; decide) rfl O0 ?_ hs (by simp at qk ⊢; lia) fun x h1 g1 ep' O1 qU qD=>?_
  ·show List.Perm (Mm (HZ w b) L tk ⟨p,some z,ln⟩ e [] e'++fo) (((Ya (HZ w b) L tk ⟨p,some z,ln⟩++[(L.pb,dqO e [])])++[])++((L.fk,dqO e' [])::fo))
   unfold Mm
   simp
  ·refine (ih x.tk (qH++[.str U (x.nat 6)]) ep' (n+x.nat 0) (t+x.nat 1) (by simp at qk ⊢; lia)).run H h1 r g1 A R G hA ?_ qU fun y h2 g2 O2 qS qF=>?_
   ·have z:Own H ((lst,Za (qH++[.str U (x.nat 6)]) ep')::((([]++(Ya (HZ w b) L x.tk s1++[(L.pb,dqO e [])]))++[])++((L.fk,dqO e' [])::fo))) h1:=O1
    show Own H (((lst,Za (qH++[.str U (x.nat 6)]) ep')::(Mm (HZ w b) L x.tk s1 e [] e'++fo))++[]) h1
    unfold Mm
    simpa using z
   ·have qA:=hR ⟨fun j=>match j with | 0=>x.nat 0+y.nat 0 | 1=>x.nat 1+y.nat 1 | j=>y.nat j,y.sl,fun _ _ k=>match k with | 0=>x.nat 6 | k+1=>y.seq 0 0 k,y.ob⟩ h2 g2 ?_ (by have qS:h2.objs.size=n+x.nat 0+y.nat 0:=qS; show _=n+(x.nat 0+y.nat 0); lia) (gtr qD qF)
    ·have et:t+(x.nat 1+y.nat 1)=t+x.nat 1+y.nat 1:=by lia
     rw [← et]
     exact qA
    ·have e1:qH++[Value.str U (x.nat 6)]++(pbV []++wsV ws (y.seq 0 0))=qH++(pbV []++wsV (U::ws) fun k=>match k with | 0=>x.nat 6 | k+1=>y.seq 0 0 k):=by simp [pbV,wsV]
     have q:Own H (([]++((lst,Za (qH++[Value.str U (x.nat 6)]++(pbV []++wsV ws (y.seq 0 0))) (y.nat 8))::(Mm (HZ w b) L y.tk s' (e+([]:List (Str×Nat)).length) [] e'++J6 y.sl fo)))++[]) h2:=O2
     rw [e1] at q
     exact q
theorem Zq1 {L:Lx} {e':Int} {lst:Addr} {v:Value} {es:List Env} {fo:LC} (hf:Xv es fo) {s s':Lt} {ws:List Str} (hr:Gi prog w b L s ws s') :
  ∀ (pbl:List (Str×Nat)) (e:Int) (tk:LM) (qH:LH) (ep n t:Nat),pbl.length < 21->qH.length+pbl.length+ws.length<=sizeLine->Z6 T2 prog (wb w b) n t (Zq8 (HZ w b) L tk s s' e e' pbl ws lst qH ep v es fo)
 | [],e,tk,qH,ep,n,t,_,qk=>Zks hf hr tk qH ep n t (by simpa using qk)
 | (U,tu)::pbl,e,tk,qH,ep,n,t,hl,qk=>by
  have hl':pbl.length < 21:=by simp at hl; lia
  refine ⟨fun H hp r g A R G hA O hs hR=>?_⟩
  have O0:Own H ((lst,Za qH ep)::(Mm (HZ w b) L tk s e ((U,tu)::pbl) e'++fo)) hp:=by
   have z:Own H (((lst,Za qH ep)::(Mm (HZ w b) L tk s e ((U,tu)::pbl) e'++fo))++[]) hp:=O
   rw [Gf] at z; exact z
  refine Zhc (vr:=v) (lst:=lst) (Z1z tk s e U tu pbl hl' n t) (v:=fun x=>.str U tu) (fun _=>rfl) (by unfold Zrk; exact congrFun Pu _) (rest:=(L.fk,dqO e' [])::fo) G hA (fun _=>rfl) (by show 55<=69; decide) rfl O0 ?_ hs (by simp at qk ⊢; lia) fun x h1 g1 ep' O1 qU qD=>?_
  ·show List.Perm (Mm (HZ w b) L tk s e ((U,tu)::pbl) e'++fo) (((Ya (HZ w b) L tk s++[(L.pb,dqO e ((U,tu)::pbl))])++[])++((L.fk,dqO e' [])::fo))
   unfold Mm
   simp
  ·refine (Zq1 (e':=e') (lst:=lst) (v:=v) hf hr pbl (e+1) tk (qH++[.str U tu]) ep' (n+x.nat 0) (t+x.nat 1) hl' (by simp at qk ⊢; lia)).run H h1 r g1 A R G hA ?_ qU fun y h2 g2 O2 qS qF=>?_
   ·have z:Own H ((lst,Za (qH++[.str U tu]) ep')::((([]++(Ya (HZ w b) L tk s++[(L.pb,dqO (e+1) pbl)]))++[])++((L.fk,dqO e' [])::fo))) h1:=O1
    show Own H (((lst,Za (qH++[.str U tu]) ep')::(Mm (HZ w b) L tk s (e+1) pbl e'++fo))++[]) h1
    unfold Mm
    simpa using z
   ·have qA:=hR ⟨fun j=>match j with | 0=>x.nat 0+y.nat 0 | 1=>x.nat 1+y.nat 1 | j=>y.nat j,y.sl,y.seq,y.ob⟩ h2 g2 ?_ (by have qS:h2.objs.size=n+x.nat 0+y.nat 0:=qS; show _=n+(x.nat 0+y.nat 0); lia) (gtr qD qF)
    ·have et:t+(x.nat 1+y.nat 1)=t+x.nat 1+y.nat 1:=by lia
     rw [← et]
     exact qA
    ·have e1:qH++[Value.str U tu]++(pbV pbl++wsV ws (y.seq 0 0))=qH++(pbV ((U,tu)::pbl)++wsV ws (y.seq 0 0)):=by simp [pbV]
     have e2:e+1+(pbl.length:Int)=e+(((U,tu)::pbl).length:Int):=by simp; lia
     have q:Own H (([]++((lst,Za (qH++[Value.str U tu]++(pbV pbl++wsV ws (y.seq 0 0))) (y.nat 8))::(Mm (HZ w b) L y.tk s' (e+1+pbl.length) [] e'++J6 y.sl fo)))++[]) h2:=O2
     rw [e1,e2] at q
     exact q
end
noncomputable def Zow (o:Obj):Obj:=match o with
 | ⟨_,_,dt,sl⟩=>match dt with
  | .dict es k=>frO es k sl
  | _=>frO #[] 0 sl
noncomputable def Z2 (l:LA) (k:Nat):Obj:=match oAt l k with
 | some p=>match p with | (_,o)=>o
 | none=>{ cls:=.none }
noncomputable def Z50:List Env->LA->Nat->LC
 | [],_,_=>[]
 | e::es,l,k=>(e.frame.getD 0,Zow (Z2 l k))::Z50 es l (k+1)
noncomputable def Jo (o:Obj):Nat:=match o with
 | ⟨_,_,dt,_⟩=>match dt with
  | .seq _ k=>k
  | _=>0
noncomputable def Yj:Value->Addr
 | .ref a=>a
 | _=>0
noncomputable def Z8 (c:Code) (k:Nat):Value:=match c with
 | .builtin _ args=>match args with | ⟨pos,_⟩=>match pos.drop k with | v::_=>v | []=>.none
 | .call _ args=>match args with | ⟨pos,_⟩=>match pos.drop k with | v::_=>v | []=>.none
 | _=>.none
noncomputable def Z34 (w:Hs) (L:Lx) (tk:LM) (s s':Lt) (e e':Int) (pbl:List (Str×Nat)) (ws:List Str) (es:List Env) (fo:LC) (n t:Nat):Con where
 pre:=Mm w L tk s e pbl e'++fo
 post x:=Mm w L x.tk s' (e+pbl.length) [] e'++J6 x.sl fo
 fresh x:=[(n,Za (pbV pbl++wsV ws (x.seq 0 0)) (x.nat 8))]
 code:=.call (.type "list") ⟨[.ref L.lex],[]⟩
 res _:=.ok (.ret (.ref n))
 need:=80
 fr:=some es
noncomputable def Zvf (pi:Value->Sem Value) (lh:Value->Sem Bool) (L:Lx) (n t:Nat):Zx (Value×Bool) where
 pre:=[(L.lex,Zjn L)]
 post _:=[(L.lex,Zjn L)]
 fresh _:=[]
 tree:=pi (.ref L.lex)>>=fun i=>holding [i] (lh (.ref L.lex))>>=fun r=>pure (i,r)
 res _:=.ok (.ref L.lex,true)
 need:=60
 fr:=none
noncomputable def Z02 (w:Hs) (L:Lx) (tk:LM) (s s':Lt) (e e':Int) (pbl:List (Str×Nat)) (ws:List Str) (lst:Addr) (es:List Env) (fo:LC):Con where
 pre:=(lst,Za [] 0)::(Mm w L tk s e pbl e'++fo)
 post x:=(lst,Za (pbV pbl++wsV ws (x.seq 0 0)) (x.nat 8))::(Mm w L x.tk s' (e+pbl.length) [] e'++J6 x.sl fo)
 fresh _:=[]
 code:=.builtin "list.__init__" ⟨[.ref lst,.ref L.lex],[]⟩
 res _:=.ok (.ret .none)
 need:=75
 fr:=some es
noncomputable def Zqi (w:Hs) (L:Lx) (s s':Lt) (e e':Int) (pbl:List (Str×Nat)) (ws:List Str) (es:List Env):Fam:=fun n t c l _ =>
 Z02 w L (Ms (l.drop 1)) s s' e e' pbl ws (Yj (Z8 c 0)) es (Z50 es l 7)
noncomputable def Zj8 (a:Value) (n:Nat):Con where
 pre:=[]
 post _:=[]
 fresh _:=[(n,Za [] 0)]
 code:=.call (.builtin "list.__new__") ⟨[.type "list",a],[]⟩
 res _:=.ok (.ret (.ref n))
 need:=5
 fr:=none
 gen:=false
noncomputable def Zc8:Fam:=fun n _ c _ _=>Zj8 (Z8 c 1) n
theorem Zv4 (a:Value) (n t:Nat):Z6 T prog w n t (Zj8 a n):=by
 refine ⟨fun H h r g A R G hA O hs hR=>?_⟩
 refine codeAny_mono (PySem.code_list_new (E:=fun e s'=>R (.error e) s') (Q₁:=fun v s'=>R (.ok (.ret v)) s') a ?_) fun res s' q=>?_
 ·have O':=O.push (Za [] 0) rfl
  have qA:=hR ⟨fun j=>match j with | 0=>1 | _=>0,fun _=>#[],fun _ _ _=>0,Ext.nil.ob⟩ (h.push (Za [] 0)) g ?_ ?_ (Zq.refl _ _)
  ·show R (.ok (.ret (.ref h.objs.size))) _
   rw [hs]; exact qA
  ·rw [hs] at O'; exact O'
  ·rw [Ziu,hs]; rfl
 ·cases res with
  | ok f=>cases f with
   | ret v=>exact q
   | _=>exact q.elim
  | error e=>exact q
theorem Po (n t:Nat) (c:Code) (l:LA) (bb:LB):Z6 T prog w n t (Zc8 n t c l bb):=Zv4 _ _ _
noncomputable def Ztp (wd r:List Nat) (tt n t:Nat):Con where
 pre:=[]
 post _:=[]
 fresh _:=[]
 code:=.call (.ref 775) ⟨[.str (S wd) tt],[]⟩
 res x:=.ok (.ret (.str (S r) (x.nat 2)))
 need:=30
 fr:=none
 gen:=false
noncomputable def Z5v (r:Result) (_:LA) (_:Nat):Nat:=Z5t r
section
open PySem PySem.Sre
noncomputable def Xa:Array Nat:=#[14,17,4,1,1,21,9,0,604043296,1,0,0,0,0,0,8,4,0,13,14,21,9,0,604043296,1,0,0,0,0,0,8,4,0,1]
noncomputable def Ub (c:Nat):Bool:=decide (c < 256)&&((#[0,604043296,1,0,0,0,0,0]:Array Nat).getD (c / 32) 0).testBit (c % 32)
noncomputable def Yb (c:Nat):Bool:=Ub c||isWord c
theorem Ziz:∀ i,i < 8->Xa.getD (6+(1+i)) 0=(#[0,604043296,1,0,0,0,0,0]:Array Nat).getD i 0/\Xa.getD (21+(1+i)) 0=(#[0,604043296,1,0,0,0,0,0]:Array Nat).getD i 0:=by decide +kernel
theorem Z1h (c:Nat) (seen:Seen):inSet Xa c 34 5 true seen=(if (decide (c < 256)&&(Xa.getD (6+(1+c / 32)) 0).testBit (c % 32))=true then .ok (false,((seen.add 21).add 9)) else if (isWord c != (4 % 2==1))=true then .ok (false,((((seen.add 21).add 9).add 8).add 59)) else .ok (true,(((((seen.add 21).add 9).add 8).add 59).add 0))):=by kernel_rfl
theorem Zxl (c:Nat) (seen:Seen):inSet Xa c 34 20 true seen=(if (decide (c < 256)&&(Xa.getD (21+(1+c / 32)) 0).testBit (c % 32))=true then .ok (false,((seen.add 21).add 9)) else if (isWord c != (4 % 2==1))=true then .ok (false,((((seen.add 21).add 9).add 8).add 59)) else .ok (true,(((((seen.add 21).add 9).add 8).add 59).add 0))):=by kernel_rfl
theorem Zgu (c k:Nat) (hk:k=6∨k=21):(decide (c < 256)&&(Xa.getD (k+(1+c / 32)) 0).testBit (c % 32))=Ub c:=by
 unfold Ub
 by_cases h:c < 256
 ·have:=Ziz (c / 32) (by lia)
  rcases hk with rfl | rfl
  ·rw [this.1]
  ·rw [this.2]
 ·rw [Uz h]; rfl
theorem Zgt (k c:Nat) (hk:k=5∨k=20) (seen:Seen):∃ sn,inSet Xa c 34 k true seen=.ok (!Yb c,sn):=by
 unfold Yb
 rcases hk with rfl | rfl
 ·rw [Z1h,Zgu c 6 (.inl rfl)]
  cases Ub c<;>cases isWord c<;>exact ⟨_,rfl⟩
 ·rw [Zxl,Zgu c 21 (.inr rfl)]
  cases Ub c<;>cases isWord c<;>exact ⟨_,rfl⟩
theorem Zan (m:M) (u:List Nat) (hc:m.code=Xa) (ht:m.text=⟨u⟩) (hl:m.lim=u.length):∀ (fuel s:Nat) (seen:Seen),u.length+1<=fuel+s ->
  (∃ sn,(u.drop s).all Yb=true/\M.admitted m fuel s seen=.ok (none,sn))∨(∃ sn i,(u.drop s).all Yb=false/\i < u.length/\Yb (u.getD i 0)=false/\M.admitted m fuel s seen=.ok (some i,sn))
 | 0,s,seen,h=>.inl ⟨seen,by rw [Z2g (by lia)]; rfl,rfl⟩
 | fuel+1,s,seen,h=>by
  unfold M.admitted
  by_cases hs:s ≥ m.lim
  ·rw [if_pos hs]
   exact .inl ⟨seen,by rw [Z2g (by lia)]; rfl,rfl⟩
  ·rw [if_neg hs]
   have hs':s < u.length:=by lia
   have hg:m.text.getD s 0=u.getD s 0:=by rw [ht]; simp [Array.getD,List.getD,hs']
   have hd:u.drop s=u.getD s 0::u.drop (s+1):=by
    rw [Zzp hs']
    simp [List.getD,hs']
   obtain ⟨sn,e⟩:=Zgt 5 (u.getD s 0) (.inl rfl) seen
   have e2:inSet m.code (m.text.getD s 0) m.code.size 5 true seen=.ok (!Yb (u.getD s 0),sn):=by rw [hg,hc]; exact e
   rw [e2]
   cases hq:Yb (u.getD s 0) with
   | false =>
    refine .inr ⟨sn,s,?_,hs',hq,rfl⟩
    rw [hd,List.all_cons,hq]; rfl
   | true =>
    rcases Zan m u hc ht hl fuel (s+1) sn (by lia) with ⟨sn',a,b⟩ | ⟨sn',i,a,b,c,d⟩
    ·refine .inl ⟨sn',?_,b⟩
     rw [hd,List.all_cons,hq,a]; rfl
    ·refine .inr ⟨sn',i,?_,b,c,d⟩
     rw [hd,List.all_cons,hq,a]; rfl
end
section
open PySem PySem.Sre
noncomputable def Pw (u:List Nat):M:={ code:=Xa,text:=⟨u⟩,lim:=u.length,start:=0,lastStart:=u.length,pc:=18,pos:=0,handed:=0,marks:=#[],mustAdvance:=false,seen:=({}:Seen).add 14 }
theorem Z9w (u:List Nat) (h:0 < u.length):forSearch Xa ⟨u⟩ 0 0 u.length false=(Pw u).attemptFrom 0 true:=by
 unfold forSearch
 have c:(decide (0 > u.length)||decide (u.length - 0 < (header Xa).1))=false:=by
  have:(header Xa).1=1:=rfl
  rw [this,Uz (by lia),Uz (by lia)]
  rfl
 simp only [c]
 rfl
theorem Zvy (u:List Nat):(Pw u).attemptFrom 0 true=(match M.admitted (Pw u) (u.length+1 - 0) 0 (({}:Seen).add 14) with
  | .ok (some s,seen)=>({ Pw u with mustAdvance:=false,seen }).attemptAt s true
  | .ok (none,seen)=>({ Pw u with seen }).say false
  | .error why=>(Pw u).stick why):=by kernel_rfl
noncomputable def Zbh (u:List Nat) (i:Nat) (sn:Seen):M:={ Pw u with start:=i,pos:=i,handed:=i,seen:=sn,weight:=1,frames:=[{ wait:=.nextStart,pc:=18,pos:=i,outermost:=true }] }
theorem Z71 (u:List Nat) (i:Nat) (sn:Seen):({ Pw u with mustAdvance:=false,seen:=sn }).attemptAt i true=Zbh u i sn:=by kernel_rfl
theorem Z8c (u:List Nat) (i:Nat) (sn:Seen):(Zbh u i sn).step=(if i ≥ u.length then (Zbh u i (sn.add 13)).say false else match inSet Xa ((⟨u⟩:Array Nat).getD i 0) 34 20 true (sn.add 13) with
  | .error why=>(Zbh u i (sn.add 13)).stick why
  | .ok (false,seen)=>(Zbh u i seen).say false
  | .ok (true,seen)=>{ Zbh u i seen with pc:=33,pos:=i+1 }):=by kernel_rfl
noncomputable def Zdm (u:List Nat) (i:Nat) (sn:Seen):M:={ Pw u with start:=i,pc:=18,pos:=i,handed:=i+1,seen:=sn,weight:=0,frames:=[],answer:=some true,outcome:=some .matched }
theorem Zod (u:List Nat) (i:Nat) (sn:Seen):M.runFor 3 { Zbh u i sn with pc:=33,pos:=i+1 }=Zdm u i (sn.add 1):=by kernel_rfl
theorem Zo7 (u:List Nat) (sn:Seen):(M.runFor 4 (({ Pw u with seen:=sn }).say false))={ Pw u with seen:=sn,answer:=some false,outcome:=some .failed }:=by kernel_rfl
theorem Zli (u:List Nat) (hu:0 < u.length) :
  (u.all Yb=true/\∃ sn,M.runFor 4 (forSearch Xa ⟨u⟩ 0 0 u.length false)={ Pw u with seen:=sn,answer:=some false,outcome:=some .failed }) ∨
  (u.all Yb=false/\∃ sn i,M.runFor 4 (forSearch Xa ⟨u⟩ 0 0 u.length false)=Zdm u i sn):=by
 rw [Z9w u hu,Zvy]
 rcases Zan (Pw u) u rfl rfl rfl (u.length+1 - 0) 0 (({}:Seen).add 14) (by lia) with ⟨sn,a,e⟩ | ⟨sn,i,a,hi,hs,e⟩
 ·refine .inl ⟨a,sn,?_⟩
  rw [e]
  exact Zo7 u sn
 ·refine .inr ⟨a,?_⟩
  rw [e]
  dsimp only
  rw [Z71]
  obtain ⟨sn',e'⟩:=Zgt 20 ((⟨u⟩:Array Nat).getD i 0) (.inr rfl) (sn.add 13)
  have hg:(⟨u⟩:Array Nat).getD i 0=u.getD i 0:=by simp [Array.getD,List.getD,hi]
  have e1:(Zbh u i sn).step={ Zbh u i sn' with pc:=33,pos:=i+1 }:=by
   rw [Z8c,if_neg (by lia),e',hg,hs]
   rfl
  refine ⟨sn'.add 1,i,?_⟩
  show M.runFor 3 (Zbh u i sn).step=_
  rw [e1]
  exact Zod u i sn'
end
section
open PySem PySem.W PySem.W.X PySem.Builtin.Re
noncomputable def Ya0 (wd:List Nat) (lim:Nat) (tt:Nat):ReTarget:={ pattern:=.ref 65,string:=.str (S wd) tt,code:=Xa,text:=⟨wd⟩,kind:=0,groups:=0,pos:=0,lim }
noncomputable def Nk (rt:String->String->Args->Sem ReTarget) (wd:List Nat) (tt:Nat) (n t:Nat):Zx ReTarget where
 pre:=[]
 post _:=[]
 fresh _:=[]
 tree:=rt "re.Pattern.search" "search" ⟨[.ref 65,.str (S wd) tt],[]⟩
 res _:=.ok (Ya0 wd (min (2 ^ 63 - 1) wd.length) tt)
 need:=20
 fr:=none
 made _:=0
noncomputable def M9 (nm:Value->Value->Nat->Nat->Nat->Sre.M->Sem Value) (wd:List Nat) (tt:Nat) (m:Sre.M) (n t:Nat):Zx Value where
 pre:=[]
 post _:=[]
 fresh _:=[]
 tree:=nm (.ref 65) (.str (S wd) tt) 0 0 wd.length m
 res _:=.ok (.ref (n+1))
 need:=20
 fr:=none
 made _:=2
noncomputable def Z4z (wd:List Nat) (tt:Nat) (s:Bool) (n t:Nat):Con where
 pre:=[]
 post _:=[]
 fresh _:=[]
 code:=.builtin "re.Pattern.search" ⟨[.ref 65,.str (S wd) tt],[]⟩
 res _:=.ok (.ret (match s with | true=>.none | false=>.ref (n+1)))
 need:=22
 fr:=none
 gen:=false
 made _:=match s with | true=>0 | false=>2
end
noncomputable def gkT {α:Type} (o:Out α):Bool:=match o with
 | .ok _ s=>s.gk
 | .err _ s=>s.gk
 | _=>false
structure Zkz {α:Type} (T:Params->LE) (prog:Program) (w:World) (n t:Nat) (K:Zx α):Prop where
 run:∀ (H h:Heap) (r:Zb3) (g:LK) (A:Around) (Q:α->Shared->Prop) (E:LF),Ground T w H->AOk A K.fr K.need->Own H K.preA h->h.objs.size=n ->
  (∀ x h',Own H (K.postA x) h'->h'.objs.size=n+K.made x->Zlq Q E (K.res x) (r.at h' ⟨t+x.nat 1,g⟩))->wpAny (model prog w) A K.tree Q E (r.at h ⟨t,g⟩)
theorem Zkz.use {K:Zx α} (hK:Zkz T prog w n t K) {rest:LC} {Q:α->Shared->Prop}
  (G:Ground T w H) (hA:AOk A K.fr K.need) (O:Own H l h) (hp:l.Perm (K.preA++rest)) (hs:h.objs.size=n)
  (hR:∀ x h',Own H (K.postA x++rest) h'->h'.objs.size=n+K.made x->Zlq Q E (K.res x) (r.at h' ⟨t+x.nat 1,g⟩)):wpAny (model prog w) A K.tree Q E (r.at h ⟨t,g⟩):=by
 have O1:=O.perm hp
 obtain ⟨G',O'⟩:=G6 G O1
 exact hK.run _ h r g A Q E G' hA O' hs fun x h' O2 qS=>hR x h' (Zc0 O1 O2) qS
theorem Zlr {sts:List Str} {cons:List Fam} {H:Zba} {K:Zx α} {Q:α->Shared->Prop} (o:Out α)
  (x:Ext) (hks:ks.Nodup) (hkb:kb.Nodup) {P:List Prop} (hx:match o with | .ok _ s=>x.nat 0=s.m/\x.nat 1=s.i | .err _ s=>x.nat 0=s.m/\x.nat 1=s.i | _=>True)
  (hv:Zoc ks kb o=some (K.res x,(K.fresh x++K.post x).map some,(K.postB x).map some,P)) (he:Z5n o=Z5u o) (hP:∀ p∈P,p) (hgk:gkT o=true) (hmd:K.made x=x.nat 0)
  (hR:∀ x h',Own H.heap (K.postA x) h'->h'.objs.size=n+K.made x->Zlq Q E (K.res x) (r.at h' ⟨t+x.nat 1,H.gens⟩)) :
  Uh (CZ T prog w n t sts cons) H r o Q E:=by
 cases o with
 | stop _ _ _=>cases hv
 | more _=>cases hv
 | look _=>cases hv
 | ok f st =>
  have hv':=Zfs hv
  simp only [Prod.mk.injEq] at hv'
  obtain ⟨v1,v2,v3,v4⟩:=hv'
  refine ⟨⟨Za3 he,by rw [v4]; exact hP⟩,fun h' tk' D=>?_⟩
  have z:=hR x h' (Jx D hks hkb v2 v3) (by rw [hmd,hx.1]; exact D.size)
  rw [← v1] at z
  have hg:tk'.gens=H.gens:=D.gens.1 (by rw [show st.gk=true from hgk]; rfl)
  obtain ⟨tok,gens⟩:=tk'
  have:=D.toks
  dsimp only at this hg
  rw [hx.2] at z
  subst this hg
  exact z
 | err e st =>
  have hv':=Zfs hv
  simp only [Prod.mk.injEq] at hv'
  obtain ⟨v1,v2,v3,v4⟩:=hv'
  refine ⟨⟨Za3 he,by rw [v4]; exact hP⟩,fun h' tk' D=>?_⟩
  have z:=hR x h' (Jx D hks hkb v2 v3) (by rw [hmd,hx.1]; exact D.size)
  rw [← v1] at z
  have hg:tk'.gens=H.gens:=D.gens.1 (by rw [show st.gk=true from hgk]; rfl)
  obtain ⟨tok,gens⟩:=tk'
  have:=D.toks
  dsimp only at this hg
  rw [hx.2] at z
  subst this hg
  exact z
theorem Zbo {sts:List Str} {cons:List Fam} {K:Zx α}
  {ex:(Nat->Ext)->Except Value α->LA->LB->Ext} {P:(Nat->Ext)->List Prop}
  (hC:Z4 T prog w cons) (hks:Xx ks=true) (hkb:Xx kb=true) (k:Nat) (hm:∀ x,K.made x=k)
  (h:∀ f,(Ga ks kb K (ex f) (P f) (Gd T prog w n t sts cons K orc f))/\Zeb (Gd T prog w n t sts cons K orc f)=k/\gkT (Gd T prog w n t sts cons K orc f)=true) (hP:∀ f,∀ p∈P f,p):Zkz T prog w n t K:=by
 refine ⟨fun H h' r g A Q E G hA O hs hR=>?_⟩
 have ok:Mu (CZ T prog w n t sts cons) prog w ⟨H,g⟩ r:=Zmf G hC
 refine (Xw ok (Vz ok K.need K.fr) Q E K.tree (N3 K.pre K.preB orc) (Vs _ fun f=>?_)).2 A h' ⟨t,g⟩ hA ⟨hs,rfl,O.own,O.nodup,O.keep,O.apart,Zq.refl _ _⟩
 exact Zlr (Gd T prog w n t sts cons K orc f) (Zed (ex f) ks kb (Gd T prog w n t sts cons K orc f)) (Yq hks) (Yq hkb) (Gq _) (Yr Prod.fst (h f).1) (Yr Prod.snd (h f).1) (hP f) (h f).2.2 (by rw [hm,G8]; exact (h f).2.1.symm) hR
section
open PySem PySem.W PySem.W.X PySem.Builtin.Re
noncomputable abbrev rtZ:String->String->Args->Sem ReTarget:=W.ZFast.zw15674613487505817675
theorem Z01:rtZ=reTarget:=W.ZFast.ze15674613487505817675.symm
noncomputable abbrev nmZ:Value->Value->Nat->Nat->Nat->Sre.M->Sem Value:=W.ZFast.zw15446554216253225983
theorem Zzt:nmZ=reNewMatch:=W.ZFast.ze15446554216253225983.symm
noncomputable def Zc3:List Nat:=[0,0]
noncomputable def Zdj:List Nat:=[]
theorem Z4n (prog:Program) (w:World) (b:Bool) (wd:List Nat) (tt n t:Nat) (f:Nat->Ext) :
  (Ga [] [] (Nk rtZ wd tt n t) (fun _ _ _=>exN fun _=>0) [] (Gd T2 prog (wb w b) n t [] [] (Nk rtZ wd tt n t) Zc3 f))/\Zeb (Gd T2 prog (wb w b) n t [] [] (Nk rtZ wd tt n t) Zc3 f)=0/\gkT (Gd T2 prog (wb w b) n t [] [] (Nk rtZ wd tt n t) Zc3 f)=true:=by cases b<;>(refine ⟨?_,?_,?_⟩<;>kernel_rfl)
theorem Z0s (prog:Program) (w:World) (b:Bool) (wd u:List Nat) (tt i:Nat) (sn:Sre.Seen) (n t:Nat) (f:Nat->Ext) :
  (Ga [] [] (M9 nmZ wd tt (Zdm u i sn) n t) (fun _ _ _=>exN fun _=>0) [] (Gd T2 prog (wb w b) n t [] [] (M9 nmZ wd tt (Zdm u i sn) n t) Zdj f))/\Zeb (Gd T2 prog (wb w b) n t [] [] (M9 nmZ wd tt (Zdm u i sn) n t) Zdj f)=2/\gkT (Gd T2 prog (wb w b) n t [] [] (M9 nmZ wd tt (Zdm u i sn) n t) Zdj f)=true:=by cases b<;>(refine ⟨?_,?_,?_⟩<;>kernel_rfl)
section
theorem Ztr (wd:List Nat) (tt n t:Nat):Zkz T2 prog (wb w b) n t (Nk rtZ wd tt n t) :=
 Zbo (ex:=fun _ _ _ _=>exN fun _=>0) Zd rfl rfl 0 (fun _=>rfl) (fun f=>Z4n prog w b wd tt n t f) fun f q hq=>nomatch hq
theorem Zu5 (wd u:List Nat) (tt i:Nat) (sn:Sre.Seen) (n t:Nat):Zkz T2 prog (wb w b) n t (M9 nmZ wd tt (Zdm u i sn) n t) :=
 Zbo (ex:=fun _ _ _ _=>exN fun _=>0) Zd rfl rfl 2 (fun _=>rfl) (fun f=>Z0s prog w b wd u tt i sn n t f) fun f q hq=>nomatch hq
theorem Zei:entryFor table "re.Pattern.search" = some PySem.Builtin.«re.Pattern.search»:=by
 have h:entryFor treeTable "re.Pattern.search" = some PySem.Builtin.«re.Pattern.search»:=by kernel_rfl
 rw [← table_eq_tree] at h; exact h
theorem Zmg {m m':Sre.M} (h:m.runFor 4=m') (ho:m'.outcome.isSome=true):reDrive (k+1) m=pure m':=by
 show (if (m.runFor 4).outcome.isSome=true then pure (m.runFor 4) else (do rule "sre.turn"; reDrive k (m.runFor 4)))=_
 rw [h,if_pos ho]
theorem Zbx {M:Model} {body:Nat->PUnit->Sem (ForInStep PUnit)} (hb:∀ i (Q:ForInStep PUnit->Shared->Prop),Q (.yield ⟨⟩) s->wpAny M A (body i ⟨⟩) Q E s) :
  ∀ (l:List Nat) (Q:PUnit->Shared->Prop),Q ⟨⟩ s->wpAny M A (forIn l ⟨⟩ body) Q E s
 | [],Q,h=>by rw [List.forIn_nil]; exact Yo h
 | i::l,Q,h=>by
  rw [List.forIn_cons]
  exact Zi (hb i _ (Zbx hb l Q h))
theorem Zj3 {M:Model} {m m':Sre.M} (h:m.runFor 4=m') {Q:Option Sre.M->Shared->Prop} (ho:(m'.outcome=some .matched/\Q (some m') s)∨(m'.outcome=some .failed/\Q none s)) :
  wpAny M A (reRunToEnd m) Q E s:=by
 unfold reRunToEnd
 have hd:reDrive (2 ^ 64) m=pure m':=by
  have e:(2 ^ 64:Nat)=18446744073709551615+1:=rfl
  rw [e]
  refine Zmg h ?_
  rcases ho with ⟨e,-⟩ | ⟨e,-⟩<;>rw [e]<;>rfl
 rw [hd]
 refine Zi (Yo ?_)
 refine Zi (Zbx (fun i Q' q=>?_) _ _ ?_)
 ·split
  ·exact Zi (wpAny_rule (Yo q))
  ·exact Yo q
 ·rcases ho with ⟨e,q⟩ | ⟨e,q⟩<;>rw [e]<;>exact Yo q
theorem Z45 (hw:0 < wd.length) (hl:wd.length < 2 ^ 63) (tt n t:Nat):Z6 T2 prog (wb w b) n t (Z4z wd tt (wd.all Yb) n t):=by
 refine ⟨fun H h r g A R G hA O hs hR=>?_⟩
 refine M3 Zei ?_
 have hA2:AOk (A.under (.builtin "re.Pattern.search" ⟨[.ref 65,.str (S wd) tt],[]⟩)) none 21:=hA.under (Zr rfl)
 have e1:(Nk rtZ wd tt n t).tree=reTarget "re.Pattern.search" "search" ⟨[.ref 65,.str (S wd) tt],[]⟩:=by unfold Nk; dsimp only; rw [Z01]
 refine Zi (eqT e1 ?_)
 refine (Ztr wd tt n t).use (rest:=[]) G (hA2.le (by show 20<=21; decide)) O (.refl _) hs fun x h2 O2 qS=>?_
 have hm:min (2 ^ 63 - 1) wd.length=wd.length:=by lia
 have qS:h2.objs.size=n:=qS
 show wpAny _ _ (reAnswer (Ya0 wd (min (2 ^ 63 - 1) wd.length) tt) (Sre.forSearch Xa ⟨wd⟩ 0 0 (min (2 ^ 63 - 1) wd.length) false)) _ _ _
 rw [hm]
 unfold reAnswer
 rcases Zli wd hw with ⟨ha,sn,e⟩ | ⟨ha,sn,i,e⟩
 ·refine Zi (Zj3 e (.inr ⟨rfl,Yo ?_⟩))
  have z:=hR x h2 g O2 (by rw [ha]; exact qS) (Zq.refl _ _)
  rw [ha] at z
  exact z
 ·refine Zi (Zj3 e (.inl ⟨rfl,Zi ?_⟩))
  have e2:(M9 nmZ wd tt (Zdm wd i sn) n (t+x.nat 1)).tree=reNewMatch (.ref 65) (.str (S wd) tt) 0 0 wd.length (Zdm wd i sn):=by unfold M9; dsimp only; rw [Zzt]
  refine eqT e2 ?_
  refine (Zu5 wd wd tt i sn n (t+x.nat 1)).use (rest:=[]) G (hA2.le (by show 20<=21; decide)) O2 (.refl _) qS fun y h3 O3 xz=>?_
  refine Yo ?_
  have z:=hR ⟨fun j=>match j with | 0=>2 | 1=>x.nat 1+y.nat 1 | _=>0,fun _=>#[],fun _ _ _=>0,Ext.nil.ob⟩ h3 g O3 (by rw [ha]; exact xz) (Zq.refl _ _)
  rw [ha] at z
  have et:t+(x.nat 1+y.nat 1)=t+x.nat 1+y.nat 1:=by lia
  change R _ (r.at h3 ⟨t+(x.nat 1+y.nat 1),g⟩) at z
  rw [et] at z
  exact z
end
end
noncomputable def esc (w:List Nat):List Nat:=w.flatMap fun c=>if c=39 then [39,34,39,34,39] else [c]
theorem Zpp (c:Nat) (w:List Nat):esc (c::w)=(if c=39 then [39,34,39,34,39] else [c])++esc w:=rfl
noncomputable def lines:List Nat->Int->Int
 | [],n=>n
 | c::w,n=>lines w (if c=10 then n+1 else n)
theorem Xt {l rest:List Nat} {p:Nat} (h:l.drop p=c::rest):l[p]?=some c/\l.drop (p+1)=rest:=by
 refine ⟨?_,?_⟩
 ·rw [← List.head?_drop,h]; rfl
 ·rw [← List.drop_drop,h]; rfl
theorem Zn7 {l:List Nat} {p:Nat} (h:l.drop p=[]):l.length<=p:=by simpa using h
theorem Zmc (a b:List Nat):S a++S b=S (a++b):=by
 show (⟨(⟨a⟩:Array Nat)++⟨b⟩⟩:Str)=⟨⟨a++b⟩⟩
 simp
theorem Ml {a b:List Nat} (h:(a++b).length<=sizeLine):Xp (S a) (S b) (S (a++b)):=⟨Zmc a b,h⟩
section
variable {L:Lx}
theorem Zhs (l:List Nat) (c:Nat):Jl (S l) (S [c])=decide (c∈l):=StrLaws.found_one (S l) c
theorem No {d:Nat} (h:c≠d):Jl (S [c]) (S [d])=false:=by
 rw [Zhs]
 exact Uz (by simp only [X6,Zfp,Zfe]; exact Ne.symm h)
theorem Zhh (c:Nat):Jl (S []) (S [c])=false:=by
 rw [Zhs]
 exact Uz (by simp)
theorem J1 {d:Nat} (h:c≠d):Vk (S [c]) (S [d])=false:=by
 simp [Vk,S,h]
theorem Jd (hl:L.buf.length < 2 ^ 63) {p:Nat} {rest:List Nat} (h:L.buf.drop p=c::rest):Xh prog w b L p (p+1) (S [c]):=Zx4 (Xt h).1 hl
theorem Zdf (hl:L.buf.length < 2 ^ 63) {p:Nat} (h:L.buf.drop p=[]):Xh prog w b L p p (S []):=Zqn (Zn7 h) hl
theorem Zla (hl:L.buf.length < 2 ^ 63) (c1:Jl L.cm (S [39])=false) (c2:Jl L.cm (S [34])=false) {rest:List Nat} {s':Ls}:∀ (u:List Nat) {p:Nat} {tl:List Nat} {ln:Int} {q:Bool} {x:Str},
  L.buf.drop p=esc u++39::rest->(tl++u).length<=sizeLine ->
  Z3 prog w b L ⟨p+(esc u).length+1,some (S [97]),S (tl++u),true,lines u ln,some (S [39])⟩ s'->Z3 prog w b L ⟨p,some (S [39]),S tl,q,ln,some x⟩ s'
 | [],p,tl,ln,q,x,hb,ht,ih=>by
  rw [Gf] at ih
  exact Zr3 _ _ _ _ (Jd hl hb) ih
 | c::u,p,tl,ln,q,x,hb,ht,ih=>by
  rw [Zpp] at hb ih
  have qN:(tl++[c]).length<=sizeLine:=by simp only [Vc,V7,Zbb] at ht ⊢; lia
  have e1:tl++c::u=(tl++[c])++u:=by simp
  rw [e1] at ih ht
  by_cases h39:c=39
  ·subst h39
   rw [if_pos rfl] at hb ih
   have g0:=Xt hb
   have g1:=Xt g0.2
   have g2:=Xt g1.2
   have g3:=Xt g2.2
   have g4:=Xt g3.2
   refine Zr3 _ _ _ _ (Jd hl hb) ?_
   refine Z9f _ _ _ _ (Jd hl g0.2) ?_ rfl c2
   refine Zzz _ (S (tl++[39])) _ _ _ (Jd hl g1.2) ?_ (Ml qN)
   refine Zz8 _ _ _ _ (Jd hl g2.2) ?_
   refine Z6q _ _ _ _ (Jd hl g3.2) ?_ rfl c1
   refine Zla hl c1 c2 u g4.2 ht ?_
   have e2:p+([39,34,39,34,39]++esc u).length+1=p+1+1+1+1+1+(esc u).length+1:=by simp only [Vc,V7,Zbb]; lia
   rw [e2] at ih
   exact ih
  ·rw [if_neg h39] at hb ih
   have g0:=Xt hb
   have e2:p+([c]++esc u).length+1=p+1+(esc u).length+1:=by simp only [Vc,V7,Zbb]; lia
   rw [e2] at ih
   have g:=Jd (prog:=prog) (w:=w) (b:=b) hl hb
   by_cases h10:c=10
   ·subst h10
    exact Ztg _ (S (tl++[10])) _ _ _ g (Zla hl c1 c2 u g0.2 ht ih) (Ml qN)
   ·have ihl:lines (c::u) ln=lines u ln:=by show lines u (if c=10 then ln+1 else ln)=_; rw [if_neg h10]
    rw [ihl] at ih
    by_cases h92:c=92
    ·subst h92
     exact Zu1 _ (S (tl++[92])) _ _ _ g (Zla hl c1 c2 u g0.2 ht ih) (Ml qN)
    ·exact Zsp _ _ (S (tl++[c])) _ _ _ g (Zla hl c1 c2 u g0.2 ht ih) (J1 h10) (J1 h39) (No (Ne.symm h92)) (Ml qN)
structure Z5k (cm:Str) (c:Nat):Prop where
 n10:c≠10
 ws:Jl " \t\r\n" (S [c])=false
 cm:Jl cm (S [c])=false
 qu:Jl "'\"" (S [c])=false
 es:c≠92
theorem Z0w {p:Nat} {ln:Int} {q:Bool} {x:Str} {s':Ls} (hc:Z5k L.cm c) (g:Xh prog w b L p (p+1) (S [c])) (ht:(tl++[c]).length<=sizeLine)
  (ih:Z3 prog w b L ⟨p+1,some (S [97]),S (tl++[c]),q,ln,some (S [c])⟩ s'):Z3 prog w b L ⟨p,some (S [97]),S tl,q,ln,some x⟩ s':=by
 cases hw:Jl Vb (S [c]) with
 | true=>exact Z13 _ _ (S (tl++[c])) _ _ _ g ih (J1 hc.n10) rfl hc.ws hc.cm hc.qu (No (Ne.symm hc.es)) hw (Ml ht)
 | false=>exact Zyy _ _ (S (tl++[c])) _ _ _ g ih (J1 hc.n10) rfl hc.ws hc.cm hc.qu (No (Ne.symm hc.es)) hw hc.qu (Zhh c) (Ml ht)
theorem Z24 (hl:L.buf.length < 2 ^ 63) {rest:List Nat} {s':Ls}:∀ (u:List Nat) {p:Nat} {tl:List Nat} {ln:Int} {q:Bool} {x:Str},(∀ c∈u,Z5k L.cm c) ->
  L.buf.drop p=u++rest->(tl++u).length<=sizeLine ->
  (∀ y,Z3 prog w b L ⟨p+u.length,some (S [97]),S (tl++u),q,ln,some y⟩ s')->Z3 prog w b L ⟨p,some (S [97]),S tl,q,ln,some x⟩ s'
 | [],p,tl,ln,q,x,_,hb,ht,ih=>by
  have:=ih x
  rw [Gf] at this
  exact this
 | c::u,p,tl,ln,q,x,hs,hb,ht,ih=>by
  have g0:=Xt hb
  have qN:(tl++[c]).length<=sizeLine:=by simp only [Vc,V7,Zbb] at ht ⊢; lia
  have e1:tl++c::u=(tl++[c])++u:=by simp
  rw [e1] at ht
  refine Z0w (hs c (.head _)) (Jd hl hb) qN (Z24 hl u (fun d hd=>hs d (.tail _ hd)) g0.2 ht fun y=>?_)
  have:=ih y
  rw [e1] at this
  have e2:p+(c::u).length=p+1+u.length:=by simp only [V7]; lia
  rw [e2] at this
  exact this
inductive Zyh (L:Lx):Nat->Nat->LO->Prop
 | eof {p} (h:L.buf.drop p=[]):Zyh L p p none
 | blank {p rest} (h:L.buf.drop p=32::rest):Zyh L p (p+1) (some (S [32]))
theorem Z0u (hl:L.buf.length < 2 ^ 63) {p:Nat} {st:LO} (he:Zyh L p p' st) {ln:Int} {q:Bool} {x:Str} (hq:q=true∨tl≠[]) (ht:tl.length<=sizeLine) :
  Z3 prog w b L ⟨p,some (S [97]),S tl,q,ln,some x⟩ ⟨p',st,S tl,q,ln,some (st.getD (S []))⟩:=by
 cases he with
 | eof h=>exact Z9c _ _ _ (Zdf hl h) rfl
 | blank h =>
  cases tl with
  | nil =>
   rcases hq with rfl | hq
   ·exact Z23 _ (Jd hl h) rfl
   ·exact absurd rfl hq
  | cons d l=>exact Z3e _ _ _ _ (Jd hl h) rfl (Zd8 ht (by decide))
theorem Ze7 (hl:L.buf.length < 2 ^ 63) (c1:Jl L.cm (S [39])=false) (c2:Jl L.cm (S [34])=false) (u:List Nat) {p:Nat} {st:LO} {ln:Int} {rest:List Nat} (hb:L.buf.drop p=39::(esc u++39::rest))
  (he:Zyh L (p+1+(esc u).length+1) p' st) (hu:u.length<=sizeLine):Za6 prog w b L ⟨p,some (S [32]),ln⟩ ⟨p',st,lines u ln⟩ (some (S u)):=by
 have hy:=Z0u (prog:=prog) (w:=w) (b:=b) hl he (tl:=u) (ln:=lines u ln) (q:=true) (x:=S [39]) (.inl rfl) hu
 exact Z4f _ _ _ _ (Z8y _ (Jd hl hb) (Zla hl c1 c2 u (tl:=[]) (Xt hb).2 hu hy) c1)
theorem Zs8 (hl:L.buf.length < 2 ^ 63) (c:Nat) (u:List Nat) (hs:∀ d∈c::u,Z5k L.cm d) {p:Nat} {st:LO} {ln:Int} {rest:List Nat} (hb:L.buf.drop p=c::u++rest)
  (he:Zyh L (p+1+u.length) p' st) (hu:(c::u).length<=sizeLine):Za6 prog w b L ⟨p,some (S [32]),ln⟩ ⟨p',st,ln⟩ (some (S (c::u))):=by
 have hc:=hs c (.head _)
 have hy:Z3 prog w b L ⟨p+1,some (S [97]),S [c],false,ln,some (S [c])⟩ ⟨p',st,S (c::u),false,ln,some (st.getD (S []))⟩ :=
  Z24 hl u (tl:=[c]) (fun d hd=>hs d (.tail _ hd)) (Xt hb).2 hu fun y=>Z0u hl he (.inr (by simp)) hu
 refine Z27 _ _ _ _ (?_:Z3 prog w b L ⟨p,some (S [32]),S [],false,ln,none⟩ ⟨p',st,S (c::u),false,ln,some (st.getD (S []))⟩) rfl
 cases hw:Jl Vb (S [c]) with
 | true=>exact Z0b _ _ (Jd hl hb) hy (J1 hc.n10) hc.ws hc.cm (No (Ne.symm hc.es)) hw
 | false=>exact Z1m _ _ (Jd hl hb) hy (J1 hc.n10) hc.ws hc.cm (No (Ne.symm hc.es)) hw (Zhh c) hc.qu
theorem Z15 (hl:L.buf.length < 2 ^ 63) {p:Nat} {ln:Int} (hb:L.buf.drop p=[]):Za6 prog w b L ⟨p,some (S [32]),ln⟩ ⟨p,none,ln⟩ none :=
 Zyu _ _ _ (Z6k (Zdf hl hb))
theorem Ztu (hl:L.buf.length < 2 ^ 63) {p:Nat} {ln:Int} (hb:L.buf.drop p=[]):Za6 prog w b L ⟨p,none,ln⟩ ⟨p,none,ln⟩ none :=
 Z0p _ _ (Z9m _ (Zdf hl hb))
end
section
open PySem PySem.StrLaws PySem.Builtin PySem.Builtin.Str
noncomputable def Jj (w:List Nat):List Nat:=w.flatMap fun c=>if c=39 then [39,34,39,34,39] else [c]
theorem Zaj (a b:List Nat):Jj (a++b)=Jj a++Jj b:=Zz4
theorem N4:∀ l:List Nat,39 ∉ l->Jj l=l
 | [],_=>rfl
 | k::r,h=>by
  have h1:¬ k=39:=fun e=>h (e▸List.mem_cons_self ..)
  show (if k=39 then [39,34,39,34,39] else [k])++Jj r=_
  rw [if_neg h1,N4 r fun m=>h (List.mem_cons_of_mem _ m)]
  rfl
theorem Zdu:∀ parts:List PySem.Str,(∀ p∈parts,39 ∉ p.cps.toList)->Jj (Str.join ⟨#[39]⟩ parts).cps.toList=(Str.join ⟨#[39,34,39,34,39]⟩ parts).cps.toList
 | [],_=>rfl
 | [p],h=>N4 _ (h p (Ur.mpr rfl))
 | p::q::r,h=>by
  have ih:=Zdu (q::r) fun a ha=>h a (List.mem_cons_of_mem _ ha)
  show Jj (p++⟨#[39]⟩++Str.join ⟨#[39]⟩ (q::r)).cps.toList=(p++⟨#[39,34,39,34,39]⟩++Str.join ⟨#[39,34,39,34,39]⟩ (q::r)).cps.toList
  simp only [Str.cps_append,Array.toList_append]
  rw [Zaj,Zaj,ih,N4 _ (h p (List.mem_cons_self ..))]
  rfl
theorem Ze2 (x:PySem.Str):(Txt.replace x ⟨#[39]⟩ ⟨#[39,34,39,34,39]⟩).cps.toList=Jj x.cps.toList:=by
 rw [replace_one,← Zdu _ (split_free x 39),join_split]
end
noncomputable def Zig (c:Code) (k:Nat):Nat:=match c with
 | .builtin _ args=>match args with
  | ⟨pos,_⟩=>match pos.drop k with
   | v::_=>Ju v
   | []=>0
 | _=>0
noncomputable def Z0d (wd:List Nat) (s:Bool):Fam:=fun n t c _ _=>Z4z wd (Zig c 1) s n t
noncomputable def Z0m (wd:List Nat) (tt ty tz:Nat) (n t:Nat):Con where
 pre:=[]
 post _:=[]
 fresh _:=[]
 code:=.builtin "str.replace" ⟨[.str (S wd) tt,.str (S [39]) ty,.str (S [39,34,39,34,39]) tz],[]⟩
 res _:=.ok (.ret (.str (S wd) tt))
 need:=5
 fr:=none
 gen:=false
 made _:=0
noncomputable def Z8g (wd:List Nat):Fam:=fun n t c _ _=>Z0m wd (Zig c 0) (Zig c 1) (Zig c 2) n t
noncomputable def Zv (u:List Nat):List Nat:=match u with
 | []=>[39,39]
 | c::r=>match (c::r).all Yb with
  | true=>c::r
  | false=>39::(Jj (c::r)++[39])
theorem Z4g (tt n t:Nat):CQ prog w b n t fun b=>Ztp [] [39,39] tt n t :=
 ckx Zd [] [0,0,0,1,1,1,0,0,0,0,0] (exS (fun _=>Z5v) (fun _=>Up))
section
variable (prog:Program) (w:World) (b:Bool) (c:Nat) (r:List Nat) (tt n t:Nat) (f:Nat->Ext)
end
section
theorem Zgw (u:List Nat):Jj u=esc u:=rfl
theorem Z7w (h:39 ∉ wd) (tt ty tz n t:Nat):Z6 T2 prog w n t (Z0m wd tt ty tz n t):=by
 refine ⟨fun H hp r g A R G hA O hs hR=>?_⟩
 have he:(PySem.Builtin.Str.occurrences (S wd) ⟨#[39]⟩ 0 (S wd).length ((S wd).length+1)).isEmpty=true:=by
  cases ho:PySem.Builtin.Str.occurrences (S wd) ⟨#[39]⟩ 0 (S wd).length ((S wd).length+1) with
  | nil=>rfl
  | cons i q =>
   exfalso
   obtain ⟨f,hc⟩:=StrLaws.occ_chain (S wd) ⟨#[39]⟩ ((S wd).length+1)
   rw [ho] at hc
   have hm:=(StrLaws.subAt_one (S wd) 39 i).mp hc.2.1
   exact h (Nl hm)
 have hq:((PySem.Builtin.Str.occurrences (S wd) (S [39]) 0 (S wd).length ((S wd).length+1)).isEmpty||((S [39]).length==0&&(S [39,34,39,34,39]).length==0))=true:=by
  rw [show (PySem.Builtin.Str.occurrences (S wd) (S [39]) 0 (S wd).length ((S wd).length+1)).isEmpty=true from he]; rfl
 have gv:=gives_str_replace (S wd) (S [39]) (S [39,34,39,34,39]) tt ty tz fun e=>by rw [hq] at e; cases e
 rw [if_pos hq] at gv
 exact Xk F.entry_str_replace (by decide +kernel) gv (hR ⟨fun _=>0,fun _=>#[],fun _ _ _=>0,Ext.nil.ob⟩ hp g O hs (Zq.refl _ _))
theorem Zgo:∀ l:List Nat,l.length<=(Jj l).length/\(39∈l->l.length < (Jj l).length)
 | []=>⟨Y9 _,fun h=>nomatch h⟩
 | k::r=>by
  have ih:=Zgo r
  have e:Jj (k::r)=(if k=39 then [39,34,39,34,39] else [k])++Jj r:=rfl
  rw [e,Vc,V7]
  by_cases hk:k=39
  ·rw [if_pos hk]
   simp only [V7,Zbb]
   lia
  ·rw [if_neg hk]
   simp only [V7,Zbb,X6]
   refine ⟨by lia,fun h=>?_⟩
   rcases h with h | h
   ·exact absurd h.symm hk
   ·have:=ih.2 h; lia
theorem Zcz:∀ l:List Nat,(Jj l).length<=5 * l.length
 | []=>Y9 _
 | k::r=>by
  have ih:=Zcz r
  have e:Jj (k::r)=(if k=39 then [39,34,39,34,39] else [k])++Jj r:=rfl
  rw [e,Vc,V7]
  by_cases hk:k=39
  ·rw [if_pos hk]; simp only [V7,Zbb]; lia
  ·rw [if_neg hk]; simp only [V7,Zbb]; lia
theorem Zgc (l:List Nat):(S l).length=l.length:=rfl
theorem Zm7 {u:List Nat} (h:39∈u) (hl:u.length<=1000000) (ty tz:Nat) (h1:ty≠0) (h2:tz≠0) (h3:ty≠tz):Zdg (S u) (S [39]) (S [39,34,39,34,39]) ty tz (S (Jj u)):=by
 have hr:(Txt.replace (S u) (S [39]) (S [39,34,39,34,39])).cps.toList=Jj u:=Ze2 (S u)
 have qk:=(Zgo u).2 h
 have hc:((PySem.Builtin.Str.occurrences (S u) (S [39]) 0 (S u).length ((S u).length+1)).isEmpty||((S [39]).length==0&&(S [39,34,39,34,39]).length==0))=false:=by
  cases hc:((PySem.Builtin.Str.occurrences (S u) (S [39]) 0 (S u).length ((S u).length+1)).isEmpty||((S [39]).length==0&&(S [39,34,39,34,39]).length==0)) with
  | false=>rfl
  | true =>
   exfalso
   unfold Txt.replace at hr
   rw [if_pos hc] at hr
   have:=Yr List.length hr
   simp only [S] at this
   lia
 have hb:(S u).length+((S u).length+1) * (S [39,34,39,34,39]).length<=16777216:=by
  rw [Zgc]
  show u.length+(u.length+1) * 5<=16777216
  lia
 refine ⟨hc,?_,?_,by decide +kernel,?_,?_,?_⟩
 ·simp [h1,h2]
 ·simp [h3]
 ·have q1:=StrLaws.occ_length_le (S u) (S [39]) 0 (S u).length ((S u).length+1)
  have q2:(PySem.Builtin.Str.occurrences (S u) (S [39]) 0 (S u).length ((S u).length+1)).length * (S [39,34,39,34,39]).length<=((S u).length+1) * (S [39,34,39,34,39]).length:=Zv7 _ q1
  have e:(2:Nat) ^ 24=16777216:=by decide
  unfold PySem.Builtin.Str.tooLong sizeLine
  exact Uz (by lia)
 ·unfold Txt.replace at hr
  rw [if_neg (by exact fun e=>Bool.noConfusion (hc.symm.trans e))] at hr
  have hr:(PySem.Builtin.Str.glued (S [39,34,39,34,39]) (PySem.Builtin.Str.partsBetween (S u) (PySem.Builtin.Str.occurrences (S u) (S [39]) 0 (S u).length ((S u).length+1)) (S [39]).length)).cps.toList=Jj u:=hr
  generalize PySem.Builtin.Str.glued (S [39,34,39,34,39]) (PySem.Builtin.Str.partsBetween (S u) (PySem.Builtin.Str.occurrences (S u) (S [39]) 0 (S u).length ((S u).length+1)) (S [39]).length)=gl at hr
  obtain ⟨⟨gl⟩⟩:=gl
  exact Yr S hr
 ·have:=Zcz u
  rw [Zgc]
  show _<=2 ^ 24
  have e:(2:Nat) ^ 24=16777216:=by decide
  lia
theorem Z1x (hl:wd.length<=1000000) (tt n t:Nat):CQ prog w b n t fun b=>Ztp wd (Zv wd) tt n t:=by
 have e24:sizeLine=16777216:=by decide
 cases wd with
 | nil=>exact Z4g tt n t
 | cons c r =>
  have h63:(S (c::r)).length < 2 ^ 63:=by rw [Zgc]; exact Zd8 hl (by decide)
  have hse:∀ s,(c::r).all Yb=s->Z4 T2 prog (wb w b) [Z0d (c::r) s]:=fun s hs=>Zb (fun n' t' c' l bb=>by
   have z:=Z45 (prog:=prog) (w:=w) (b:=b) (wd:=c::r) (by simp) (by assumption) (Zig c' 1) n' t'
   rw [hs] at z
   exact z) Zd
  cases hs:(c::r).all Yb with
  | true =>
   have hq:Zv (c::r)=c::r:=by
    show (match (c::r).all Yb with | true=>c::r | false=>39::(Jj (c::r)++[39]))=_
    rw [hs]
   rw [hq]
   exact ckh [] (hse _ hs) [] (Yt 16 21 0x100100000001010111000) (exS (fun _=>Z5v) fun _=>Up) (pc h63 p0)
  | false =>
   have hq:Zv (c::r)=39::(Jj (c::r)++[39]):=by
    show (match (c::r).all Yb with | true=>c::r | false=>39::(Jj (c::r)++[39]))=_
    rw [hs]
   rw [hq]
   have hel:=Zcz (c::r)
   by_cases h39:39∈c::r
   ·refine ckhf (P:=fun f=>[Xp (S (39::Jj (c::r))) (S [39]) (S (39::(Jj (c::r)++[39]))),Xp (S [39]) (S (Jj (c::r))) (S (39::Jj (c::r))),Zdg (S (c::r)) (S [39]) (S [39,34,39,34,39]) (t+(0+1+2+(f 0).nat 1+1)) (t+(0+1+2+(f 0).nat 1+1+1)) (S (Jj (c::r))),(S (c::r)).length < 2 ^ 63]) [S (Jj (c::r)),S (39::Jj (c::r)),S (39::(Jj (c::r)++[39]))] (hse _ hs) [] (Yt 16 30 0x700600100100100000001010111000) (exS (fun _=>Z5v) fun _=>Up) fun f=>?_
    refine ⟨?_,?_,?_,?_,trivial⟩
    ·exact ⟨Zmc _ _,by rw [Zgc,e24]; simp only [V7,Vc,Zbb] at hl hel ⊢; lia⟩
    ·exact ⟨Zmc _ _,by rw [Zgc,e24]; simp only [V7] at hl hel ⊢; lia⟩
    ·exact Zm7 h39 hl _ _ (by lia) (by lia) (by lia)
    ·exact h63
   ·refine ckh (cons:=[Z0d (c::r) false,Z8g (c::r)]) (P:=[Xp (S (39::(c::r))) (S [39]) (S (39::(Jj (c::r)++[39]))),Xp (S [39]) (S (c::r)) (S (39::(c::r))),(S (c::r)).length < 2 ^ 63]) [S (39::(c::r)),S (39::(Jj (c::r)++[39]))] (Zb (fun n' t' c' l bb=>by
     have z:=Z45 (prog:=prog) (w:=w) (b:=b) (wd:=c::r) (by simp) (by assumption) (Zig c' 1) n' t'
     rw [hs] at z
     exact z) (Zb (fun n' t' c' l bb=>Z7w h39 _ _ _ n' t') Zd)) [] (Yt 16 31 0x6005000020100100000001010111000) (exS (fun _=>Z5v) fun _=>Up) ?_
    rw [N4 _ h39]
    refine ⟨?_,?_,?_,trivial⟩
    ·exact ⟨Zmc _ _,by rw [Zgc,e24]; simp only [V7,Vc,Zbb] at hl ⊢; lia⟩
    ·exact ⟨Zmc _ _,by rw [Zgc,e24]; simp only [V7] at hl ⊢; lia⟩
    ·exact h63
end
noncomputable def exF (k:Nat) (f:Nat->Ext) (_:Result) (_:LA) (_:LB):Ext:=match f k with | ⟨nt,sl,sq,ob⟩=>⟨fun j=>nt (j+2),sl,sq,ob⟩
theorem Nc (o:Obj):∃ d k sl,Zow o=frO d k sl:=by
 obtain ⟨c,d,dt,sl⟩:=o
 cases dt<;>exact ⟨_,_,_,rfl⟩
theorem P9 {es:List Env} (h:Xv es fo) (l:LA) (k:Nat):Xv es (Z50 es l k):=by
 cases h with
 | one E1 a1 d1 k1 sl1 h1 =>
  obtain ⟨d,j,sl,e⟩:=Nc (Z2 l k)
  show Xv _ [(a1,Zow (Z2 l k))]
  rw [e]; exact .one _ _ _ _ _ h1
 | two E1 a1 d1 k1 sl1 E2 a2 d2 k2 sl2 h1 h2 =>
  obtain ⟨d,j,sl,e⟩:=Nc (Z2 l k)
  obtain ⟨d',j',sl',e'⟩:=Nc (Z2 l (k+1))
  show Xv _ [(a1,Zow (Z2 l k)),(a2,Zow (Z2 l (k+1)))]
  rw [e,e']; exact .two _ _ _ _ _ _ _ _ _ _ h1 h2
 | four E1 a1 d1 k1 sl1 E2 a2 d2 k2 sl2 E3 a3 d3 k3 sl3 E4 a4 d4 k4 sl4 h1 h2 h3 h4 =>
  obtain ⟨d,j,sl,e⟩:=Nc (Z2 l k)
  obtain ⟨d',j',sl',e'⟩:=Nc (Z2 l (k+1))
  obtain ⟨d'',j'',sl'',e''⟩:=Nc (Z2 l (k+1+1))
  obtain ⟨d3,j3,sl3,e3⟩:=Nc (Z2 l (k+1+1+1))
  show Xv _ [(a1,Zow (Z2 l k)),(a2,Zow (Z2 l (k+1))),(a3,Zow (Z2 l (k+1+1))),(a4,Zow (Z2 l (k+1+1+1)))]
  rw [e,e',e'',e3]; exact .four _ _ _ _ _ _ _ _ _ _ _ _ _ _ _ _ _ _ _ _ h1 h2 h3 h4
noncomputable abbrev Pv:Value->Sem Value:=W.ZFast.zw8711993805878244202
noncomputable abbrev Zcp:Value->Sem Bool:=W.ZFast.zw15112759502256325868
theorem Mi:Pv=pyIter:=W.ZFast.ze8711993805878244202.symm
theorem Zf6:Zcp=Builtin.List.listLengthHint:=W.ZFast.ze15112759502256325868.symm
theorem Zn0 {a x y:Nat} (h:a=n+x+y):a=n+(x+y):=by lia
theorem Z8t (L:Lx) (n t:Nat):TQ prog w b n t fun b=>Zvf Pv Zcp L n t :=
 tqx Zd [1] (Yt 16 27 0x200020002111000000010001) (fun _ _ _ _=>exN fun _=>0)
theorem entry_list_init':entryFor table "list.__init__" = some Builtin.«list.__init__»:=F.entry_list_init
theorem Xc (f:Array Value->Array Value) (qH:LH) (ep:Nat):∃ ep',Obj.mapSeq f (Za qH ep)=Za (f ⟨qH⟩).toList ep':=⟨_,rfl⟩
theorem Z6x {L:Lx} {s s':Lt} {ws:List Str} (hr:Gi prog w b L s ws s') (tk:LM) (e e':Int) (pbl:List (Str×Nat)) (lst:Addr) {es:List Env} (hf:Xv es fo) (hl:pbl.length < 21) (hw:pbl.length+ws.length<=sizeLine) (n t:Nat) :
  Z6 T2 prog (wb w b) n t (Z02 (HZ w b) L tk s s' e e' pbl ws lst es fo):=by
 refine ⟨fun H h r g A R G hA O hs hR=>?_⟩
 have O0:Own H ((lst,Za [] 0)::(Mm (HZ w b) L tk s e pbl e'++fo)) h:=by
  have z:Own H (((lst,Za [] 0)::(Mm (HZ w b) L tk s e pbl e'++fo))++[]) h:=O
  rw [Gf] at z; exact z
 have qY:lst≠L.lex:=fun q=>by
  have nd:=O0.nodup
  rw [Zcq,Zek] at nd
  refine nd.1 (q▸Uo.mpr ⟨(L.lex,Zjn L),?_,rfl⟩)
  simp [Mm,Ya]
 have hA':AOk (A.under (.builtin "list.__init__" ⟨[.ref lst,.ref L.lex],[]⟩)) (some es) 74:=hA.under (Zr rfl)
 refine M3 entry_list_init' ?_
 show wpAny _ _ (do let old ← Builtin.List.listItems (.ref lst); Builtin.List.listUpdate (.ref lst) (fun _=>#[]); letGo old.toList.reverse; Builtin.List.listExtendWith (.ref lst) (.ref L.lex) .none) _ _ _
 refine Zi ?_
 unfold Builtin.List.listItems
 refine Zi (Zwn (O0.own _ (.head _)) rfl (Yo ?_))
 show wpAny _ _ (updateSeq lst (fun _=>#[])>>=fun _=>letGo (#[]:Array Value).toList.reverse>>=fun _=>Builtin.List.listExtendWith (.ref lst) (.ref L.lex) .none) _ _ _
 refine Zi (Znl (O0.own _ (.head _)) rfl ?_ (Pt _) (Pt _))
 have O1:Own H ((lst,Za [] 0)::(Mm (HZ w b) L tk s e pbl e'++fo)) (h.update lst (Obj.mapSeq fun _=>#[])):=O0.update (Obj.mapSeq fun _=>#[]) rfl
 have qU:(h.update lst (Obj.mapSeq fun _=>#[])).objs.size=n:=by rw [← hs]; exact (Zhz ..).1
 generalize h.update lst (Obj.mapSeq fun _=>#[])=h1 at O1 qU
 refine Zi (wpAny_letGo ?_)
 unfold Builtin.List.listExtendWith
 have hlex:h1.get? L.lex=some (Zjn L):=O1.own (L.lex,Zjn L) (by simp [Mm,Ya])
 show wpAny _ _ (typeOf (.ref L.lex)>>=_) _ _ (r.at h1 ⟨t,g⟩)
 refine Zi (m:=typeOf (.ref L.lex)) (Zi (wpAny_loadPart hlex (Yo ?_)))
 have q1:Builtin.List.listSameRef (.ref lst) (.ref L.lex)=false:=by simp [Builtin.List.listSameRef,qY]
 have q2:((Zjn L).cls==Value.type "list")=false:=rfl
 have q3:((Zjn L).cls==Value.type "tuple")=false:=rfl
 refine eqF (by simp only [q1,q2,q3,Bool.or_false,Q3q,if_false]; rfl) ?_
 have eT:∀ K:Value->Bool->Sem Fin,(pyIter (.ref L.lex)>>=fun iter=>holding [iter] (Builtin.List.listLengthHint (.ref L.lex))>>=fun room=>K iter room)=(Zvf Pv Zcp L n t).tree>>=fun x=>K x.1 x.2:=fun K=>by
  unfold Zvf
  simp only [Mi,Zf6,bind_assoc,pure_bind]
 refine (Yr (fun z=>wpAny (model prog (wb w b)) (A.under (.builtin "list.__init__" ⟨[.ref lst,.ref L.lex],[]⟩)) z _ _ (r.at h1 ⟨t,g⟩)) (eT _)).mpr ?_
 refine Zi ((Z8t L n t).use (rest:=(lst,Za [] 0)::([(L.iod,ioD (HZ w b) L s.p (tk 0)),(L.io,ioO L),(L.ld,Zx9 (HZ w b) L (s.stV (tk 1)) s.ln (tk 2) (S []) (tk 3))]++([(L.pb,dqO e pbl),(L.fk,dqO e' [])]++fo))) G (hA'.bare (by show 60<=74; decide)) O1 ?_ qU fun x h2 g2 O2 qS qF=>?_)
 ·show List.Perm _ (([(L.lex,Zjn L)]++[])++_)
  have z:=Jw (l:=(lst,Za [] 0)::(Mm (HZ w b) L tk s e pbl e'++fo)) (js:=[4]) (ps:=[(L.lex,Zjn L)]) rfl (Yq rfl)
  have e0:X1 0 ((lst,Za [] 0)::(Mm (HZ w b) L tk s e pbl e'++fo)) [4]=(lst,Za [] 0)::([(L.iod,ioD (HZ w b) L s.p (tk 0)),(L.io,ioO L),(L.ld,Zx9 (HZ w b) L (s.stV (tk 1)) s.ln (tk 2) (S []) (tk 3))]++([(L.pb,dqO e pbl),(L.fk,dqO e' [])]++fo)):=by
   have e1:X1 0 ((lst,Za [] 0)::(Mm (HZ w b) L tk s e pbl e'++fo)) [4]=(lst,Za [] 0)::([(L.iod,ioD (HZ w b) L s.p (tk 0)),(L.io,ioO L),(L.ld,Zx9 (HZ w b) L (s.stV (tk 1)) s.ln (tk 2) (S []) (tk 3))]++([(L.pb,dqO e pbl),(L.fk,dqO e' [])]++X1 7 fo [4])):=rfl
   rw [e1,Mp 7 fo (by decide),Mf]
  rw [e0] at z
  exact z
 ·show wpAny _ _ (if (true||_)=true then _ else _) _ _ _
  refine eqF (by rw [Bool.true_or,if_pos rfl]) ?_
  refine Zi (wpAny_rule ?_)
  have O3:Own H ((lst,Za [] 0)::(Mm (HZ w b) L tk s e pbl e'++fo)) h2:=by
   refine O2.perm ?_
   have z:=Jw (l:=(lst,Za [] 0)::(Mm (HZ w b) L tk s e pbl e'++fo)) (js:=[4]) (ps:=[(L.lex,Zjn L)]) rfl (Yq rfl)
   have e1:X1 0 ((lst,Za [] 0)::(Mm (HZ w b) L tk s e pbl e'++fo)) [4]=(lst,Za [] 0)::([(L.iod,ioD (HZ w b) L s.p (tk 0)),(L.io,ioO L),(L.ld,Zx9 (HZ w b) L (s.stV (tk 1)) s.ln (tk 2) (S []) (tk 3))]++([(L.pb,dqO e pbl),(L.fk,dqO e' [])]++X1 7 fo [4])):=rfl
   rw [e1,Mp 7 fo (by decide),Mf] at z
   exact z.symm
  show wpAny _ _ ((updateSeq lst (·.push .none)>>=fun _=>updateSeq lst (·.pop))>>=fun _=>again (Ux lst L.lex .none)) _ _ _
  refine Zi (Zi (Znl (O3.own _ (.head _)) rfl ?_ (Pt _) (show 1<=sizeLine+1 from Nat.le_add_left _ _)))
  obtain ⟨ep1,h1e⟩:=Xc (·.push .none) [] 0
  have O4:=O3.update (Obj.mapSeq (·.push .none)) (by rw [h1e]; rfl)
  rw [h1e] at O4
  have xj:(h2.update lst (Obj.mapSeq (·.push .none))).objs.size=n+x.nat 0:=by rw [show n+x.nat 0=h2.objs.size from qS.symm]; exact (Zhz ..).1
  change wpAny _ _ _ _ _ (r.at (h2.update lst (Obj.mapSeq (·.push .none))) ⟨t+x.nat 1,g2⟩)
  generalize h2.update lst (Obj.mapSeq (·.push .none))=h4 at O4 xj
  refine Znl (O4.own _ (.head _)) rfl ?_ (show 1<=sizeLine by decide) (Pt _)
  obtain ⟨ep2,h2e⟩:=Xc (·.pop) ((#[]:Array Value).push .none).toList ep1
  have O5:=O4.update (Obj.mapSeq (·.pop)) (by show (Obj.mapSeq (·.pop) (Za ((#[]:Array Value).push .none).toList ep1)).isFreed=false; rw [h2e]; rfl)
  have h2e':Obj.mapSeq (·.pop) (Za ((fun x:Array Value=>x.push .none) ⟨[]⟩).toList ep1)=Za [] ep2:=h2e
  rw [h2e'] at O5
  have xC:(h4.update lst (Obj.mapSeq (·.pop))).objs.size=n+x.nat 0:=by rw [← xj]; exact (Zhz ..).1
  refine Yo ⟨Zkv F.plain_extend_loop _,?_⟩
  refine (Zq1 (e':=e') (lst:=lst) (v:=.none) hf hr pbl e tk [] ep2 (n+x.nat 0) (t+x.nat 1) hl (by simpa using hw)).run H _ r g2 A R G ⟨hA.hand,by have:=hA.deep; show _+5 * 70 < _; have:A.depth+5 * 75 < recursionLimit:=this; lia,by have:A.units+10 * 75 < cLine:=hA.units; show _+10 * 70 < _; lia,hA.frames⟩ ?_ xC fun y h6 g6 O6 xB qC=>?_
  ·show Own H (((lst,Za [] ep2)::(Mm (HZ w b) L tk s e pbl e'++fo))++[]) _
   rw [Gf]; exact O5
  ·have qA:=hR ⟨fun j=>match j with | 0=>x.nat 0+y.nat 0 | 1=>x.nat 1+y.nat 1 | j=>y.nat j,y.sl,y.seq,y.ob⟩ h6 g6 O6 (Zn0 xB) (gtr qF qC)
   have et:t+(x.nat 1+y.nat 1)=t+x.nat 1+y.nat 1:=by lia
   rw [← et]
   exact qA
theorem Zql {L:Lx} {s s':Lt} {ws:List Str} (hr:Gi prog w b L s ws s') (e e':Int) (pbl:List (Str×Nat)) {es:List Env} (hf:Xv es fo) (hl:pbl.length < 21) (hw:pbl.length+ws.length<=sizeLine)
  (n t:Nat) (c:Code) (l:LA) (bb:LB):Z6 T2 prog (wb w b) n t (Zqi (HZ w b) L s s' e e' pbl ws es n t c l bb) :=
 Z6x hr _ e e' pbl _ (P9 hf l 7) hl hw n t
theorem Z9z {L:Lx} {s s':Lt} {ws:List Str} (hr:Gi prog w b L s ws s') (tk:LM) (e e':Int) (pbl:List (Str×Nat)) {es:List Env} (hf:Xv es fo) (hl:pbl.length < 21) (hw:pbl.length+ws.length<=sizeLine) (n t:Nat) :
  CQ prog w b n t fun b=>Z34 (HZ w b) L tk s s' e e' pbl ws es fo n t:=by
 obtain ⟨p,st,ln⟩:=s
 have hc:=Zql (e:=e) (e':=e') (pbl:=pbl) hr hf hl hw
 cases hf with
 | one E1 a1 d1 k1 sl1 h1=>exact Zdo (cons:=fun b=>[Zqi (HZ w b) L ⟨p,st,ln⟩ s' e e' pbl ws [fe E1 a1],Zc8]) (Zb hc (Zb Po Zd)) [0,1,2,3,4,5,6,7] (Yt 16 20 0x7654321081101100200) (exF 1) (by cases st<;>kernel_rfl)
 | two E1 a1 d1 k1 sl1 E2 a2 d2 k2 sl2 h1 h2=>exact Zdo (cons:=fun b=>[Zqi (HZ w b) L ⟨p,st,ln⟩ s' e e' pbl ws [fe E1 a1,fe E2 a2],Zc8]) (Zb hc (Zb Po Zd)) [0,1,2,3,4,5,6,7,8] (Yt 16 21 0x87654321091101100200) (exF 1) (by cases st<;>kernel_rfl)
 | four E1 a1 d1 k1 sl1 E2 a2 d2 k2 sl2 E3 a3 d3 k3 sl3 E4 a4 d4 k4 sl4 h1 h2 h3 h4=>exact Zdo (cons:=fun b=>[Zqi (HZ w b) L ⟨p,st,ln⟩ s' e e' pbl ws [fe E1 a1,fe E2 a2,fe E3 a3,fe E4 a4],Zc8]) (Zb hc (Zb Po Zd)) [0,1,2,3,4,5,6,7,8,9,10] (Yt 16 23 0xa9876543210b1101100200) (exF 1) (by cases st<;>kernel_rfl)
noncomputable def Zcy (top:LE) (a c:Addr) (q:String) (fr:Addr):Env:={ scope:=(Z7 top a).scope,locals:=fr,globals:=3,cells:=[],qual:=q,func:=some a,code:=.ref c,frame:=some fr,builtins:=0 }
noncomputable def spL (n:Nat) (l:LA) (text:List Nat) (cm:Str):Lx:=⟨n+2,n+1,n+8,n+7,n+11,n+12,fun k=>Z7x (.ok .next) l (k+8),text,cm⟩
noncomputable def Zwr (w:Hs) (n0:Nat) (text:List Nat) (cm:Str) (s':Lt) (ws:List Str) (es:List Env):Fam:=fun n t c l _=>Z34 w (spL n0 l text cm) (Ms l) ⟨0,some (S [32]),1⟩ s' 0 0 [] ws es (Z50 es l 6) n t
noncomputable def Z8j (w:Hs) (top:LE) (text:List Nat) (tt:Nat) (s':Lt) (ws:List Str) (E1:Env) (a1:Addr) (d1:LJ) (k1:Nat) (sl1:LG) (n t:Nat):Con where
 pre:=[(a1,frO d1 k1 sl1)]
 post x:=[(a1,frO d1 k1 (x.sl 1))]
 fresh x:=[(n+13,Za (wsV ws (x.seq 0 0)) (x.nat 8))]
 code:=.call (.ref 760) ⟨[.str (S text) tt],[]⟩
 res _:=.ok (.ret (.ref (n+13)))
 need:=90
 fr:=some [fe E1 a1]
noncomputable def Zrp (w:Hs) (top:LE) (text:List Nat) (tt:Nat) (s':Lt) (ws:List Str) (E1 E2 E3:Env) (a1 a2 a3:Addr) (d1 d2 d3:LJ) (k1 k2 k3:Nat) (sl1 sl2 sl3:LG) (n t:Nat):Con where
 pre:=[(a1,frO d1 k1 sl1),(a2,frO d2 k2 sl2),(a3,frO d3 k3 sl3)]
 post x:=[(a1,frO d1 k1 (x.sl 1)),(a2,frO d2 k2 (x.sl 2)),(a3,frO d3 k3 (x.sl 3))]
 fresh x:=[(n+13,Za (wsV ws (x.seq 0 0)) (x.nat 8))]
 code:=.call (.ref 760) ⟨[.str (S text) tt],[]⟩
 res _:=.ok (.ret (.ref (n+13)))
 need:=90
 fr:=some [fe E1 a1,fe E2 a2,fe E3 a3]
theorem Zh1 {n0:Nat} {cm:Str} {s':Lt} {ws:List Str} (hr:∀ L:Lx,L.buf=text->L.cm=cm->Gi prog w b L ⟨0,some (S [32]),1⟩ ws s') {es:List Env} (hf:Xv es fo) (hw:ws.length<=sizeLine)
  (n t:Nat) (c:Code) (l:LA) (bb:LB):Z6 T2 prog (wb w b) n t (Zwr (HZ w b) n0 text cm s' ws es n t c l bb) :=
 Z9z (hr _ rfl rfl) _ 0 0 [] (P9 hf l 6) (by simp) (by simpa using hw) n t
theorem Zku (w:World) (b:Bool):(Z7 (TZ w b) 760).scope.kind=.function:=kf
theorem Z7r {s':Lt} {ws:List Str} (hr:∀ L:Lx,L.buf=text->L.cm=S []->Gi prog w b L ⟨0,some (S [32]),1⟩ ws s') (hw:ws.length<=sizeLine) (tt:Nat) (E1:Env) (h1:E1.scope.kind≠.module) (a1:Addr) (d1:LJ) (k1:Nat) (sl1:LG) (n t:Nat) :
  CQ prog w b n t fun b=>Z8j (HZ w b) (TZ w b) text tt s' ws E1 a1 d1 k1 sl1 n t :=
 Zdo (cons:=fun b=>[Zwr (HZ w b) n text (S []) s' ws [Zcy (TZ w b) 760 759 "split.<locals>." n,fe E1 a1]]) (Zb (Zh1 (es:=[Zcy (TZ w b) 760 759 "split.<locals>." n,fe E1 a1]) hr (.two (Zcy (TZ w b) 760 759 "split.<locals>." n) n #[] 0 #[] E1 a1 d1 k1 sl1 (by show (Z7 (TZ w b) 760).scope.kind≠_; rw [Zku]; decide) h1) hw) Zd) [0,8] (Yt 16 935 0xdc01ab4581d00ccc0b000b0b00b0000bddccc0b000b0b00b0000bddd00000accc0b000b0b00b0000baaaaaccc0b000b0b00b0000baccc0b000b0b00b0000ba1110101100000bbb0a000a0a00a0000a9bbb0a000a0a00a0000a9bbb0a000a0a00a0000a9bbb0a000a0a00a0000a91110101100000aaa09000909009000098aaa09000909009000098aaa09000909009000098aaa09000909009000098aaa09000909009000098aaa09000909009000098aaa0900090900900009000a099000900000980a09900090000098aaa09000909009000098aaa09000909009000098aaa090009090090000988aaa090009090090000988aaa090009090090000988aaa090009090090000988888444030000000303003000000003210000100001111403300000003000000000311111000013200002000000020000000211333020000000202002000000002133302000000020200200000000213330200000002020020000000021100001001000010000110000100111111100000000101000000000000000000000000000000000000000100000100011111110000000000000000000000000000000000001000000010011111111110000000010100000000000000000000000000000000000011011111110000) (exF 0)
structure JSh where
 c:Const
 ck:Nat
 cp:Pos
 nm:Str
 ap:Pos
 q:Str
 qp:Pos
 v:Str
 vp:Pos
 ep:Pos
 x:Str
 xp:Pos
 it:Str
 ip:Pos
 sc:Scope
 gp:Pos
 pos:Pos
 rp:Pos
noncomputable def JSh.elt (J:JSh):Expr:=.Call (.Name J.q J.qp) [.Name J.v J.vp] [] J.ep
noncomputable def JSh.gen (J:JSh):Expr:=.GeneratorExp J.elt [⟨.Name J.x J.xp,.Name J.it J.ip,[],0⟩] J.sc J.gp
noncomputable def JSh.stmt (J:JSh):Stmt:=.Return (some (.Call (.Attribute (.Constant J.c J.ck J.cp) J.nm J.ap) [J.gen] [] J.pos)) J.rp
noncomputable def jsOf (s:Stmt):JSh :=
 let e:=N9 (vS s).1 0
 let a:=N9 (vE e).1 0
 let c:=N9 (vE a).1 0
 let g:=N9 (vE e).1 1
 let q:=N9 (vE g).1 0
 let f:=N9 (vE q).1 0
 let v:=N9 (vE q).1 1
 let p:=match (vE g).2.2.2.1 with
  | k::_=>match k with
   | ⟨x,i,_,_⟩=>(vE x,vE i)
  | []=>(vE g,vE g)
 ⟨(vE c).2.2.2.2.2.2.1,(vE c).2.2.2.2.2.1,(vE c).2.1,(vE a).2.2.2.2.1,(vE a).2.1,(vE f).2.2.2.2.1,(vE f).2.1,(vE v).2.2.2.2.1,(vE v).2.1,(vE q).2.1,p.1.2.2.2.2.1,p.1.2.1,p.2.2.2.2.2.1,p.2.2.1,(vE g).2.2.1,(vE g).2.1,(vE e).2.1,(vS s).2.2.2⟩
noncomputable def Zrf (top:LE):JSh:=jsOf (Zl (Z7 top 767) 0)
noncomputable def Nd (top:LE) (fr:Addr):Env:=Zcy top 767 766 "join.<locals>." fr
noncomputable def jnF (w:Hs) (k:Nat) (lst:Addr):Obj:={ cls:=.type "frame",data:=.dict #[ent w "split_command" k (.ref lst)] 1 }
noncomputable def Zkk (w:Hs) (top:LE) (prep:Addr->FuncData->Args->Sem Env) (lst:Addr) (n t:Nat):Zx Env where
 pre:=[]
 post _:=[]
 fresh x:=[(n,jnF w (x.nat 2) lst)]
 tree:=prep 767 (Z7 top 767) ⟨[.ref lst],[]⟩
 res _:=.ok (Nd top n)
 need:=20
 fr:=none
noncomputable def jnC (top:LE) (ev:Expr->Env->Sem Value) (fr:Addr) (n t:Nat):Zx Value where
 pre:=[]
 post _:=[]
 fresh x:=[]
 tree:=ev (.Constant (Zrf top).c (Zrf top).ck (Zrf top).cp) (Nd top fr)
 res x:=.ok (.str " " (x.nat 2))
 need:=20
 fr:=none
noncomputable def jnI (w:Hs) (top:LE) (ev:Expr->Env->Sem Value) (fr k:Nat) (lst:Addr) (n t:Nat):Zx Value where
 pre:=[(fr,jnF w k lst)]
 post _:=[(fr,jnF w k lst)]
 fresh x:=[]
 tree:=ev (.Name (Zrf top).it (Zrf top).ip) (Nd top fr)
 res x:=.ok (.ref lst)
 need:=20
 fr:=none
noncomputable def Z9 (a b:Int):Option Addr->Obj
 | none=>{ cls:=.none,data:=.fields #[] }
 | some c=>{ cls:=.none,data:=.fields #[.int a 0,.int b 0,.ref c] }
noncomputable def jnB (top:LE) (bf:Addr->Addr->Sem Addr) (fr:Addr) (n t:Nat):Zx Addr where
 pre:=[]
 post _:=[]
 fresh x:=[]
 tree:=bf (Nd top fr).globals (Nd top fr).builtins
 res x:=.ok 0
 need:=20
 fr:=none
section
open PySem PySem.W PySem.W.X PyProof.Rows
noncomputable abbrev gcZ:Env->Pos->Str->Scope->Sem Value:=W.ZFast.zw9492743126541576920
noncomputable abbrev bfZ:Addr->Addr->Sem Addr:=W.ZFast.zw6600643334278800223
theorem Z3x:gcZ=genexprCode:=W.ZFast.ze9492743126541576920.symm
theorem Z1w:bfZ=builtinsFor:=W.ZFast.ze6600643334278800223.symm
section
variable (prog:Program) (w:World) (b:Bool) (n t:Nat) (f:Nat->Ext)
end
section
theorem Z8e (lst n t:Nat):TQ prog w b n t fun b=>Zkk (HZ w b) (TZ w b) Ua lst n t:=tqx Zd [0] [0,1,1] (fun _ _ l _=>exN fun _=>Nb l 0 0)
theorem Z8n (fr n t:Nat):TQ prog w b n t fun b=>jnC (TZ w b) Zj fr n t:=tqx Zd [] [] (fun _ r _ _=>exN fun _=>match r with | .ok v=>Ju v | _=>0)
theorem Z7n (fr k lst n t:Nat):TQ prog w b n t fun b=>jnI (HZ w b) (TZ w b) Zj fr k lst n t:=tqx Zd [0] [1] (fun _ _ _ _=>exN fun _=>0)
theorem Z85 (fr n t:Nat):TQ prog w b n t fun b=>jnB (TZ w b) bfZ fr n t:=tqx Zd [] [0,0] (fun _ _ _ _=>exN fun _=>0)
noncomputable def jnG (top:LE) (gc:Env->Pos->Str->Scope->Sem Value) (fr:Addr) (tb:Option Addr) (n t:Nat):Zx Value where
 pre:=[(762,Z9 773 20 tb)]
 post _:=[(762,Z9 773 20 (some (tb.getD (n+2))))]
 fresh x:=[]
 tree:=gc (Nd top fr) (Zrf top).gp ((Nd top fr).qual ++ "<genexpr>") (Zrf top).sc
 res x:=.ok (.ref (tb.getD (n+2)))
 need:=20
 fr:=none
theorem Z9x (fr:Addr) (tb:Option Addr) (n t:Nat):TQ prog w b n t fun b=>jnG (TZ w b) gcZ fr tb n t:=by
 cases tb with
 | none=>exact tqx Zd [3] [0,1,4,4,4] (fun _ _ _ _=>exN fun _=>0)
 | some c=>exact tqx Zd [0] [0,1] (fun _ _ _ _=>exN fun _=>0)
noncomputable def J7 (w:World):JSh:=Zrf (Mn w)
theorem Z5e:((Mn (wb w b) 767).bind Uq)=some (Z7 (TZ w b) 767):=kf
theorem Zs5:(Z7 (TZ w b) 767).body=.stmts [Zl (Z7 (TZ w b) 767) 0]:=kf
theorem Z6f:Zl (Z7 (TZ w b) 767) 0=(J7 (wb w b)).stmt:=kf
theorem Z7k:(J7 (wb w b)).nm = "join" := kf
theorem Z58:(J7 (wb w b)).v=(J7 (wb w b)).x:=kf
theorem Zva:((J7 (wb w b)).ap.endLine==(J7 (wb w b)).pos.line)=true:=kf
theorem Z6t:(J7 (wb w b)).sc.isCoroutine=false:=kf
theorem Zwm:(J7 (wb w b)).sc.kind=.function:=kf
theorem Zwh (fr:Addr):closureFor (J7 (wb w b)).sc (Nd (TZ w b) fr)=pure []:=kf
theorem Zvu:((J7 (wb w b)).sc.names.all fun y=>decide (y.2≠NameKind.cell))=true:=kf
theorem Z1a:(J7 (wb w b)).sc.names.lookup (".0" : Str)=some NameKind.local:=kf
theorem x767:(J7 (wb w b)).sc.names.lookup (J7 (wb w b)).x=some NameKind.local:=kf
theorem Zqc (fr C:Addr) (code:Value):Mt (TZ w b) ⟨prog,(wb w b).params⟩ (Zj (.Name (J7 (wb w b)).q (J7 (wb w b)).qp) (genEnv (J7 (wb w b)).sc [] C code 0 (Nd (TZ w b) fr)))=some (.ref 775):=kf
theorem Zy6 (fr C:Addr) (code:Value):(genEnv (J7 (wb w b)).sc [] C code 0 (Nd (TZ w b) fr)).kindOf (J7 (wb w b)).x=some .local:=kf
theorem Z4h:((J7 (wb w b)).x==("__debug__" : Str))=false:=kf
theorem Z0t:((Mn (wb w b) 775).bind Uq).isSome=true:=kf
end
end
section
open PySem PySem.W PySem.W.X PyProof.Rows
noncomputable def Zm4 (ws qs:LD) (tk:LM) (lst:Addr) (ep:Nat) (tb:Option Addr):Con where
 pre:=[(762,Z9 773 20 tb),(lst,Za (wsV (ws.map S) tk) ep)]
 post x:=[(762,Z9 773 20 (some (x.nat 3))),(lst,Za (wsV (ws.map S) tk) ep)]
 fresh _:=[]
 code:=.call (.ref 767) ⟨[.ref lst],[]⟩
 res x:=.ok (.ret (.str (Txt.join " " (qs.map S)) (x.nat 2)))
 need:=60
 fr:=none
noncomputable abbrev Z9l (prog:Program) (w:World) (b:Bool) (wd q:List Nat):Prop:=∀ tt n t,Z6 T2 prog (wb w b) n t (Ztp wd q tt n t)
theorem Ji:∀ (ws:LD) (tk:LM) (i:Nat) (v:Value),(wsV (ws.map S) tk)[i]?=some v->∃ wd,ws[i]?=some wd/\v=.str (S wd) (tk i)
 | [],_,_,_,h=>by cases h
 | wd::r,tk,0,v,h=>by cases h; exact ⟨wd,rfl,rfl⟩
 | wd::r,tk,i+1,v,h=>by
  obtain ⟨wd',h1,h2⟩:=Ji r (fun k=>tk (k+1)) i v h
  exact ⟨wd',h1,h2⟩
theorem Zaw (n:Nat):passing (fun _=>true) n 0=List.range n:=by
 unfold passing
 simp
theorem Zi1 {q:List Nat} (h:Z9l prog w b wd q) (hh:A.handled=none) (hd:A.depth+5 * 30 < recursionLimit) (hu:A.units+10 * 30 < cLine)
  (G:Ground T2 (wb w b) s.heap):wpAny (model prog (wb w b)) A (call (.ref 775) [.str (S wd) tt]) (fun y s'=>(∃ u,y=.str (S q) u)/\Keeps s s') E s:=by
 obtain ⟨hp,gs,d,tok,os⟩:=s
 refine Znf ?_
 refine (h tt hp.objs.size tok).run hp hp ⟨d,os⟩ gs A _ G ⟨hh,hd,hu,fun l e=>by cases e⟩ ⟨fun _ _ e=>e,fun p hp=>(nomatch hp),List.nodup_nil,fun p hp=>(nomatch hp)⟩ rfl fun x h' g' O hs gr=>?_
 have eg:g'=gs:=gr.1 rfl
 subst eg
 exact ⟨⟨_,rfl⟩,⟨h',tok+x.nat 1,rfl,O.keep⟩⟩
noncomputable def Zjx {α β:Type} (prog:Program) (w:World) (A:Around) (H:Heap) (r:Zb3) (tree:Sem α) (l:LC) (val:β->α) (post:β->LC):Prop :=
 ∀ (h:Heap) (t:Nat) (g:LK) (Q:α->Shared->Prop) (E:LF),Own H l h ->
  (∀ y h' t' g',Own H (post y) h'->Zq true g g'->Q (val y) (r.at h' ⟨t',g'⟩))->wpAny (model prog w) A tree Q E (r.at h ⟨t,g⟩)
theorem Xq.steps {β:Type} {C:Nat->Nat->Zx α} (hC:∀ n t,Xq T2 prog w n t (C n t)) {tree:Sem α} (ht:∀ n t,(C n t).tree=tree) (G:Ground T2 w H) {rest:LC} {val:β->α} {post:β->LC}
  (hA:∀ n t,AOk A (C n t).fr (C n t).need) (f:Nat->Ext->β) (hp:∀ n t,l.Perm ((C n t).preA++rest)) (hres:∀ n t x,(C n t).res x=.ok (val (f n x))/\(C n t).postA x++rest=post (f n x)):Zjx prog w A H r tree l val post:=by
 intro h t g Q E O hQ
 rw [← ht h.objs.size t]
 refine (hC _ t).use G (hA _ t) O (hp _ t) rfl fun x h' g' O' hs' gr=>?_
 rw [(hres _ t x).1]
 rw [(hres _ t x).2] at O'
 exact hQ _ h' _ g' O' gr
noncomputable def Z8r (prog:Program) (w:World) (A:Around) (qq:Env) (elt:Expr) (x:Str) (sc:Scope) (cl:List (Str×Addr)) (Q:LF) (it:Value) (code:Value) (bi:Nat) (s:Shared):Prop :=
 ∃ I fp wr n₀ P St₀ pz F,it=.ref I/\(∀ A':Around,A'.handled=none->Walks prog w A' I fp wr n₀ P St₀)/\St₀ 0 s.heap/\(∀ b∈fp,b < s.heap.objs.size)/\s.heap.NoLimit/\cStatics ∉ wr /\
  (∀ href:Heap,(∀ b o,s.heap.get? b=some o->href.get? b=some o)->QuietGenD prog w (genEnv sc cl s.heap.objs.size code bi qq) x [] elt (List.range s.heap.objs.size) wr P pz F href (A.depth+1) (A.units+8)) /\
  (∀ a h₅ tk gs,gs.bare=true->s.heap.objs.size < a->h₅.objs.size=a+1->(∀ b o,s.heap.get? b=some o->h₅.get? b=some o) ->
   WalksS prog w A.in4 a (a::s.heap.objs.size::List.range s.heap.objs.size) (s.heap.objs.size::wr) (GenOnlyQ s.gens.size) (passing pz n₀ 0).length (fun j y=>∃ i,(passing pz n₀ 0)[j]?=some i/\F i y) (GenAt prog w A.in4 a s.gens.size s.heap.objs.size (List.range s.heap.objs.size) wr pz n₀ F) ->
   GenAt prog w A.in4 a s.gens.size s.heap.objs.size (List.range s.heap.objs.size) wr pz n₀ F 0 { s with gens:=s.gens.push gs,toks:=tk,heap:=h₅ } ->
   Q (.ref a) { s with gens:=s.gens.push gs,toks:=tk,heap:=h₅ })
theorem Z3t {elt:Expr} {x:Str} {px:Pos} {sc:Scope} {cl:List (Str×Addr)}
  (hh:A.handled=none) (hco:sc.isCoroutine=false) (hclos:closureFor sc qq=pure cl) (hcell:∀ y∈sc.names,y.2≠.cell) (h0:sc.names.lookup (".0" : Str)=some NameKind.local)
  (hx:sc.names.lookup x=some .local) (hkind:sc.kind=.function) (hroom:A.depth < recursionLimit)
  (h:wpAny (model prog w) A (eval iter qq) (fun xv s₁=>wpAny (model prog w) A (pyIter xv) (fun it s₂=>s₂.heap.NoLimit /\
   wpAny (model prog w) A (genexprCode qq pos (qq.qual ++ "<genexpr>") sc) (fun code s₃=>wpAny (model prog w) A (builtinsFor qq.globals qq.builtins) (fun bi s₄=>Z8r prog w A qq elt x sc cl Q it code bi s₄) E s₃) E s₂) E s₁) E s)
  (hs:∀ x,genFold iter qq x=pure x):wpAny (model prog w) A (eval (.GeneratorExp elt [⟨.Name x px,iter,[],0⟩] sc pos) qq) Q E s:=wpAny_GeneratorExp_walksQD hh hco hclos hcell h0 hx hkind hroom h hs
structure Zea (prog:Program) (w:World) (A:Around) (H:Heap) (r:Zb3) (J:JSh) (qq:Env) (n:Nat) (F lst:Addr×Obj) (tb:Option Addr):Prop where
 nm:J.nm = "join"
 vx:J.v=J.x
 line:(J.ap.endLine==J.pos.line)=true
 co:J.sc.isCoroutine=false
 kind:J.sc.kind=.function
 clos:closureFor J.sc qq=pure []
 cell:∀ y∈J.sc.names,y.2≠NameKind.cell
 dot:J.sc.names.lookup (".0" : Str)=some NameKind.local
 x:J.sc.names.lookup J.x=some NameKind.local
 quote:∀ C code,Mt (T2 w.params) ⟨prog,w.params⟩ (Zj (.Name J.q J.qp) (genEnv J.sc [] C code 0 qq))=some (.ref 775)
 loc:∀ C code,(genEnv J.sc [] C code 0 qq).kindOf J.x=some .local
 dbg:(J.x==("__debug__" : Str))=false
 sC:∀ l,Zjx prog w A H r (eval (.Constant J.c J.ck J.cp) qq) l (Value.str " ") fun _=>l
 sI:∀ l,Zjx prog w A H r (eval (.Name J.it J.ip) qq) (F::l) (fun _:Nat=>.ref lst.1) fun _=>F::l
 sG:∀ l,Zjx prog w A H r (genexprCode qq J.gp (qq.qual ++ "<genexpr>") J.sc) ((762,Z9 773 20 tb)::l) Value.ref fun c=>(762,Z9 773 20 (some c))::l
 sB:∀ l,Zjx prog w A H r (builtinsFor qq.globals qq.builtins) l (fun _:Nat=>0) fun _=>l
theorem Zot {P:Nat->Value->Prop} {tx:Nat->Str} (htx:∀ j v,P j v->∃ u,v=.str (tx j) u) {lt:List (Str×Tok)} (h:ItemsOf P (strValues lt).toArray n):lt.map (·.1)=(List.range n).map tx:=by
 apply List.ext_getElem?
 intro j
 have qE:lt.length=n:=by simpa [strValues] using h.1
 by_cases hj:j < n
 ·have hj':j < lt.length:=qE▸hj
  obtain ⟨u,hv⟩:=htx j _ (h.2 j (.str lt[j].1 lt[j].2) (by simp [strValues,Vp hj']))
  injection hv with h1 _
  simp [Vp hj',hj,h1]
 ·rw [Zjq (by simpa [qE] using Nat.le_of_not_lt hj),Zjq (by simpa using Nat.le_of_not_lt hj)]
theorem Own.lose {I:Addr} {ob:Obj} (O:Own H ((I,ob)::l) h) (k:∀ b o,h.get? b=some o->b≠I->h'.get? b=some o):Own H l h':=by
 have ni:I ∉ l.map Prod.fst:=(Zek.mp O.nodup).1
 refine ⟨fun a o e=>k a o (O.keep a o e) fun q=>?_,fun p hp=>k p.1 p.2 (O.own p (.tail _ hp)) fun q=>ni (q▸Zdq hp),(Zek.mp O.nodup).2,fun p hp=>O.apart p (.tail _ hp)⟩
 rw [q,O.apart (I,ob) (.head _)] at e
 cases e
theorem Zin (f:List Nat->α) (qs:LD):(List.range qs.length).map (fun j=>f (qs.getD j []))=qs.map f:=by
 apply List.ext_getElem?
 intro j
 by_cases hj':j < qs.length
 ·simp [hj',Zbj]
 ·rw [Zjq (by simpa using Nat.le_of_not_lt hj'),Zjq (by simpa using Nat.le_of_not_lt hj')]
theorem Zkp {J:JSh} {Fo:Addr×Obj} {ws qs:LD} {tk:LM} {tb:Option Addr}
  (X:Zea prog (wb w b) A H r J qq n Fo (lst,Za (wsV (ws.map S) tk) ep) tb) (G:Ground T2 (wb w b) H) (hA:AOk A none 59)
  (hl:qs.length=ws.length) (hq:∀ (i:Nat) (wd q:List Nat),ws[i]?=some wd->qs[i]?=some q->Z9l prog w b wd q) (hj:JoinOk " " (qs.map S)=true) (qk:ws.length<=sizeLine)
  (O:Own H [Fo,(762,Z9 773 20 tb),(lst,Za (wsV (ws.map S) tk) ep)] h)
  (hQ:∀ v c h' t' g',Own H [Fo,(762,Z9 773 20 (some c)),(lst,Za (wsV (ws.map S) tk) ep)] h'->Zq true g g'->Q (.str (Txt.join " " (qs.map S)) v) (r.at h' ⟨t',g'⟩)) :
  wpAny (model prog (wb w b)) A (eval (.Call (.Attribute (.Constant J.c J.ck J.cp) J.nm J.ap) [J.gen] [] J.pos) qq) Q E (r.at h ⟨t,g⟩):=by
 refine Call_method1 rfl rfl X.line ?_
 refine X.sC _ h t g _ _ O fun u h2 t2 g2 O2 qF=>?_
 refine ⟨"str", "str.join",F.plainAttrs_str,by rw [X.nm]; exact F.slot_str_join,F.type_str_join,typeIs_str _ _ _,fun _ e=>(nomatch e),?_⟩
 refine Q5q rfl (Q7q (Q8q ?_))
 refine Z3t hA.hand X.co X.clos X.cell X.dot X.x X.kind (Zd8 (Zdr _ _) hA.deep) ?_ (fun _=>rfl)
 refine X.sI _ h2 t2 g2 _ _ O2 fun u h3 t3 g3 O3 qz=>?_
 have hL3:h3.IsList lst (⟨wsV (ws.map S) tk⟩:Array Value):=⟨_,O3.own (lst,Za (wsV (ws.map S) tk) ep) (.tail _ (.tail _ (.head _))),rfl,ep,rfl⟩
 refine wpAny_pyIter_list hL3 ⟨Heap.NoLimit.push (Heap.NoLimit.keeps G.nolimit O3.keep) _,?_⟩
 have O4:=O3.push { cls:=.type "list_iterator",data:=.fields #[.ref lst,.int 0 0] } rfl
 change wpAny _ _ _ _ _ (r.at (h3.push { cls:=.type "list_iterator",data:=.fields #[.ref lst,.int 0 0] }) ⟨t3,g3⟩)
 generalize hI:h3.objs.size=I at O4
 generalize h3.push { cls:=.type "list_iterator",data:=.fields #[.ref lst,.int 0 0] }=h4 at O4
 have O4':Own H ((762,Z9 773 20 tb)::(I,{ cls:=.type "list_iterator",data:=.fields #[.ref lst,.int 0 0] })::[Fo,(lst,Za (wsV (ws.map S) tk) ep)]) h4:=O4.perm (by
  refine List.Perm.trans (List.Perm.cons _ (List.Perm.swap _ _ _)) (List.Perm.swap _ _ _))
 refine X.sG _ h4 t3 g3 _ _ O4' fun c h5 t5 g5 O5 qv=>?_
 refine X.sB _ h5 t5 g5 _ _ O5 fun u h6 t6 g6 O6 qC=>?_
 have gtr:∀ {a b c:LK},Zq true a b->Zq true b c->Zq true a c:=fun h h'=>gtr h h'
 have GR:Zq true g g6:=gtr (gtr (gtr qF qz) qv) qC
 replace hQ:=fun v h' t' g'=>hQ v c h' t' g'
 have O6:=O6.perm ((List.Perm.swap _ _ _).trans (List.Perm.cons _ (List.Perm.swap _ _ _)))
 have hit:h6.IsListIter I lst 0:=⟨_,O6.own _ (.head _),rfl,rfl⟩
 have hls:h6.IsList lst (⟨wsV (ws.map S) tk⟩:Array Value):=⟨_,O6.own (lst,Za (wsV (ws.map S) tk) ep) (.tail _ (.tail _ (.tail _ (.head _)))),rfl,ep,rfl⟩
 have hIs:=Zns (O6.own _ (.head _))
 have hLs:=Zns (O6.own (lst,Za (wsV (ws.map S) tk) ep) (.tail _ (.tail _ (.tail _ (.head _)))))
 have hI0:H.get? I=none:=O6.apart _ (.head _)
 have qY:lst≠I:=fun q=>(Zek.mp O6.nodup).1 (.tail _ (.tail _ (by rw [← q]; exact .head _)))
 generalize [Fo,(762,Z9 773 20 (some c)),(lst,Za (wsV (ws.map S) tk) ep)]=L at O6 hQ
 have hget:∀ i (v:Value),(⟨wsV (ws.map S) tk⟩:Array Value)[i]?=some v->∃ wd,ws[i]?=some wd/\v=.str (S wd) (tk i):=fun i v h=>Ji ws tk i v (Array.getElem?_toList.trans h)
 have hsize:(⟨wsV (ws.map S) tk⟩:Array Value).size=ws.length:=(Yw _ _).trans (Z0 _)
 generalize (⟨wsV (ws.map S) tk⟩:Array Value)=xs at hls hget hsize
 have hlen2:(passing (fun _=>true) xs.size 0).length=ws.length:=by rw [Zaw,hsize,List.length_range]
 generalize ({ cls:=.type "list_iterator",data:=.fields #[.ref lst,.int 0 0] }:Obj)=oi at O6
 refine ⟨I,[I,lst],[I],xs.size,fun i v=>xs[i]?=some v,fun i h=>h.IsListIter I lst i/\h.IsList lst xs,fun _=>true,fun i y=>∃ u,y=.str (S (qs.getD i [])) u,rfl,
  fun A' hA'=>Walks.list hA' I lst qY _,⟨hit,hls⟩,?_,Heap.NoLimit.keeps G.nolimit O6.keep,?_,?_,?_⟩
 ·intro b' hb
  rcases X6.mp hb with rfl | hb
  ·exact hIs
  ·rcases X6.mp hb with rfl | hb
   ·exact hLs
   ·cases hb
 ·intro hm
  rcases X6.mp hm with e | hm
  ·obtain ⟨mc,⟨ob,es,ep',ho,_⟩,_⟩:=G.nolimit
   rw [e,hI0] at ho; cases ho
  ·cases hm
 ·intro href hkeep
  refine ⟨fun A' E' i v s₂ m₂ _ _ _ _ _ _ _=>Yo ⟨rfl,⟨s₂.heap,s₂.toks,rfl,fun _ _ e=>e⟩⟩,fun A' E' i v s₂ m₂ hh hd hu hP _ hN hm hk=>?_⟩
  have keep2:∀ b' o,H.get? b'=some o->s₂.heap.get? b'=some o:=fun b' o e=>by
   have e6:=O6.keep b' o e
   refine hk b' (Zhp.mpr (Zns e6)) (fun q=>?_) o (hkeep b' o e6)
   rcases X6.mp q with rfl | q
   ·rw [hI0] at e; cases e
   ·cases q
  obtain ⟨wd,hw,rfl⟩:=hget i v hP
  have hi:i < ws.length:=(Zfj.mp hw).1
  have hqi:qs[i]?=some (qs.getD i []):=by rw [Zbj,Vp (hl▸hi)]; rfl
  obtain ⟨fd,hfd⟩:=Option.isSome_iff_exists.mp (Z0t (w:=w) (b:=b))
  obtain ⟨o,ho,hd775⟩:=Pl.mp hfd
  refine Zi2 ?_
  rw [← Xy]
  refine Y1 (top:=Mn (wb w b)) (fun a o q=>keep2 _ _ (G.top a o q)) (X.quote _ _) ?_
  refine Q6q (o:=o) (fd:=fd) ?_
  refine Q7q (Q8q ?_)
  rw [X.vx]
  refine wpAny_Name (wpAny_loadName_local X.kind (X.loc _ _) hN hm ?_) X.dbg
  refine Q9q ⟨⟨keep2 _ _ (G.top _ _ ho),(Yc hd775).1⟩,?_⟩
  have hdA:=hA.deep
  have huA:=hA.units
  exact Zi1 (hq i wd _ hw hqi) hh (by lia) (by lia) ⟨fun a o q=>keep2 _ _ (G.top a o q),Heap.NoLimit.keeps G.nolimit keep2⟩
 ·intro a h7 tk7 gs hb qL qE hk W hat
  refine Q9q ?_
  refine SC.joinGen W.in4_2 (fun i s' st=>st.1.typeIs) hat ?_ (.head _) (fun j v ⟨i,_,u,e⟩=>⟨_,u,e⟩) (fun s' lt hm hi=>?_) (by rw [hlen2]; exact qk)
  ·intro b' hb'
   rw [qE]
   have hlt':h6.objs.size < a:=qL
   rcases X6.mp hb' with rfl | hb'
   ·exact Nat.lt_succ_self _
   ·rcases X6.mp hb' with rfl | hb'
    ·exact Nat.lt_succ_of_lt qL
    ·exact Nat.lt_succ_of_lt (Nat.lt_trans (Zhp.mp hb') qL)
  ·have ht:lt.map (·.1)=qs.map S:=by
    rw [Zot (tx:=fun j=>S (qs.getD j [])) (fun j v ⟨i,hi,u,e⟩=>⟨u,by
     rw [e]
     rw [Zaw] at hi
     obtain ⟨h1,h2⟩:=Zfj.mp hi
     rw [List.getElem_range] at h2
     rw [h2]⟩) hi,hlen2,← hl]
    exact Zin S qs
   rw [ht]
   refine ⟨hj,fun t' k=>?_⟩
   obtain ⟨hp',g',d',tk',os'⟩:=s'
   have ed:d'=r.d:=hm.drawn
   have eo:os'=r.os:=hm.os
   subst ed eo
   refine hQ t' hp' k g' (O6.lose fun b' o e hne'=>hm.heap b' o (fun q=>?_) (hk b' o e)) ⟨fun e=>Bool.noConfusion e,fun z=>AllBare.moved ((GR.2 z).push hb) hm.gens⟩
   rcases X6.mp q with q | q
   ·have:=Zns e
    rw [q] at this
    exact Nat.lt_irrefl _ this
   ·rcases X6.mp q with q | q
    ·exact hne' q
    ·cases q
theorem Zxy {ws qs:LD} (hl:qs.length=ws.length) (hq:∀ (i:Nat) (wd q:List Nat),ws[i]?=some wd->qs[i]?=some q->Z9l prog w b wd q) (hj:JoinOk " " (qs.map S)=true) (qk:ws.length<=sizeLine)
  (tk:LM) (lst:Addr) (ep:Nat) (tb:Option Addr) (n t:Nat):Z6 T2 prog (wb w b) n t (Zm4 ws qs tk lst ep tb):=by
 refine ⟨fun H hp r g A R G hA O hs hR=>?_⟩
 obtain ⟨o,ho,hd⟩:=Pl.mp (Z5e (w:=w) (b:=b))
 refine codeAny_mono (codeAny_toks_of (n:=t) (R:=fun res s'=>t<=s'.toks->R res s') (Y9 _) ?_) fun r s' q=>q.2 q.1
 have qI:AOk (A.under (.call (.ref 767) ⟨[.ref lst],[]⟩)) none 59:=hA.under (Zr rfl)
 refine Za2 (O.keep _ _ (G.top _ _ ho)) hd qI.room ?_
 have e2:(Zkk (HZ w b) (TZ w b) Ua lst n t).tree=Jn 767 (Z7 (TZ w b) 767) ⟨[.ref lst],[]⟩:=by
  unfold Zkk
  exact Us (Us (Us Mh 767) (Z7 (TZ w b) 767)) ⟨[.ref lst],[]⟩
 refine eqT e2 ?_
 refine (Z8e lst n t).use (rest:=[(762,Z9 773 20 tb),(lst,Za (wsV (ws.map S) tk) ep)]) G (qI.bare (by show 20<=59; decide)) O (.refl _) hs fun x h1 g1 O1 qU qD=>⟨G.nolimit.keeps O1.keep,?_⟩
 have O1:Own H [(n,jnF (HZ w b) (x.nat 2) lst),(762,Z9 773 20 tb),(lst,Za (wsV (ws.map S) tk) ep)] h1:=O1
 show codeAny _ A (J0 (Z7 (TZ w b) 767) (Nd (TZ w b) n)) _ _
 unfold J0
 rw [Zs5]
 dsimp only
 have qR:AOk (A.under (.func [Zl (Z7 (TZ w b) 767) 0] (Nd (TZ w b) n))) none 59:=(hA.under (Zr rfl)).bare (Y9 _)
 generalize hA2:A.under (.func [Zl (Z7 (TZ w b) 767) 0] (Nd (TZ w b) n))=A2 at qR
 refine Gv ?_
 rw [hA2,Z5,Z6f]
 unfold JSh.stmt
 refine Zru ?_
 have h20:∀ {α:Type} (K:Zx α),K.need=20->K.fr=none->AOk A2 K.fr K.need:=fun K e1 e2=>by rw [e1,e2]; exact qR.bare (by decide)
 have X:Zea prog (wb w b) A2 H r (J7 (wb w b)) (Nd (TZ w b) n) n (n,jnF (HZ w b) (x.nat 2) lst) (lst,Za (wsV (ws.map S) tk) ep) tb:={
  nm:=Z7k,vx:=Z58,line:=Zva,co:=Z6t,kind:=Zwm,clos:=Zwh n,cell:=fun y hy=>Znp (Zfh.mp Zvu y hy),dot:=Z1a,x:=x767
  quote:=fun C code=>Zqc n C code,loc:=fun C code=>Zy6 n C code,dbg:=Z4h
  sC:=fun l=>Xq.steps (C:=fun n' t'=>jnC (TZ w b) Zj n n' t') (fun n' t'=>Z8n n n' t') (fun n' t'=>by unfold jnC J7; dsimp only; rw [Xy]) G (rest:=l) (fun _ _=>h20 _ rfl rfl) (fun _ y=>y.nat 2) (fun _ _=>.refl _) (fun _ _ y=>⟨rfl,rfl⟩)
  sI:=fun l=>Xq.steps (C:=fun n' t'=>jnI (HZ w b) (TZ w b) Zj n (x.nat 2) lst n' t') (fun n' t'=>Z7n n _ lst n' t') (fun n' t'=>by unfold jnI J7; dsimp only; rw [Xy]) G (rest:=l) (fun _ _=>h20 _ rfl rfl) (fun _ y=>y.nat 2) (fun _ _=>.refl _) (fun _ _ y=>⟨rfl,rfl⟩)
  sG:=fun l=>Xq.steps (C:=fun n' t'=>jnG (TZ w b) gcZ n tb n' t') (fun n' t'=>Z9x n tb n' t') (fun n' t'=>by unfold jnG J7; dsimp only; rw [Z3x]) G (rest:=l) (fun _ _=>h20 _ rfl rfl) (fun n _=>tb.getD (n+2)) (fun _ _=>.refl _) (fun _ _ y=>⟨rfl,rfl⟩)
  sB:=fun l=>Xq.steps (C:=fun n' t'=>jnB (TZ w b) bfZ n n' t') (fun n' t'=>Z85 n n' t') (fun n' t'=>by unfold jnB; dsimp only; rw [Z1w]) G (rest:=l) (fun _ _=>h20 _ rfl rfl) (fun _ y=>y.nat 2) (fun _ _=>.refl _) (fun _ _ y=>⟨rfl,rfl⟩) }
 clear hA2 hd ho e2 qI h20
 revert X
 generalize J7 (wb w b)=J
 generalize hF:jnF (HZ w b) (x.nat 2) lst=Fo at O1 ⊢
 generalize Nd (TZ w b) n=qq at qR ⊢
 intro X
 refine Zkp X G qR hl hq hj qk O1 fun v c h' t' g' O' gr' ht=>?_
 have hn:n < h'.objs.size:=Zns (O'.own _ (.head _))
 have ht:t<=t':=ht
 have O2:Own H ([(762,Z9 773 20 (some c)),(lst,Za (wsV (ws.map S) tk) ep)]++[(n,Fo)]) h':=O'.perm (by
  refine List.Perm.trans (List.Perm.swap _ _ _) (List.Perm.cons _ (List.Perm.swap _ _ _)))
 have qA:=hR ⟨fun j=>match j with | 0=>h'.objs.size - n | 1=>t' - t | 2=>v | _=>c,fun _=>#[],fun _ _ _=>0,Ext.nil.ob⟩ h' g' O2.drop (by show h'.objs.size=n+(h'.objs.size - n); lia) (gtr qD gr')
 have et:t+(t' - t)=t':=by lia
 have qA:R (.ok (.ret (.str (Txt.join " " (qs.map S)) v))) (r.at h' ⟨t+(t' - t),g'⟩):=qA
 rw [et] at qA
 exact qA
end
theorem Vy {l:List Nat} (h:c ∉ l):Jl (S l) (S [c])=false:=by
 unfold Jl
 cases ho:Builtin.Str.occurrences (S l) (S [c]) 0 (S l).length 1 with
 | nil=>rfl
 | cons i q =>
  exfalso
  obtain ⟨f,hc⟩:=StrLaws.occ_chain (S l) ⟨#[c]⟩ 1
  have ho':Builtin.Str.occurrences (S l) ⟨#[c]⟩ 0 (S l).length 1=i::q:=ho
  rw [ho'] at hc
  have hm:=(StrLaws.subAt_one (S l) c i).mp hc.2.1
  exact h (Nl hm)
theorem Z9r:(" \t\r\n" : PySem.Str)=S [32,9,13,10]:=by kernel_rfl
theorem Z8m:("'\"" : PySem.Str)=S [39,34]:=by kernel_rfl
theorem Jr {d:Nat} (h:Yb c=true) (hd:Yb d=false):c≠d:=fun e=>by rw [e,hd] at h; cases h
theorem Zv5 (h:Yb c=true):Z5k (S []) c:=by
 refine ⟨Jr h (by decide),?_,Vy (by simp),?_,Jr h (by decide)⟩
 ·rw [Z9r]
  refine Vy ?_
  simp only [X6,Zfp,Zfe,not_or]
  exact ⟨Jr h (by decide),Jr h (by decide),Jr h (by decide),Jr h (by decide)⟩
 ·rw [Z8m]
  refine Vy ?_
  simp only [X6,Zfp,Zfe,not_or]
  exact ⟨Jr h (by decide),Jr h (by decide)⟩
theorem Zbt:∀ (u:List Nat) (ln:Int),u.all Yb=true->lines u ln=ln
 | [],_,_=>rfl
 | c::r,ln,h=>by
  rw [List.all_cons] at h
  obtain ⟨h1,h2⟩:=Q2q.mp h
  show lines r (if c=10 then ln+1 else ln)=ln
  rw [if_neg (Jr h1 (by decide))]
  exact Zbt r ln h2
section
variable {L:Lx}
theorem Zrm (hl:L.buf.length < 2 ^ 63) (hcm:L.cm=S []) (u:List Nat) (hu:u.length<=sizeLine) {p:Nat} {st:LO} {ln:Int} {rest:List Nat} (hb:L.buf.drop p=Zv u++rest)
  (he:Zyh L (p+(Zv u).length) p' st):Za6 prog w b L ⟨p,some (S [32]),ln⟩ ⟨p',st,lines u ln⟩ (some (S u)):=by
 have c1:Jl L.cm (S [39])=false:=by rw [hcm]; exact Vy (by simp)
 have c2:Jl L.cm (S [34])=false:=by rw [hcm]; exact Vy (by simp)
 cases u with
 | nil=>exact Ze7 hl c1 c2 [] (rest:=rest) hb he hu
 | cons c r =>
  cases hs:(c::r).all Yb with
  | true =>
   have hq:Zv (c::r)=c::r:=by
    show (match (c::r).all Yb with | true=>c::r | false=>39::(Jj (c::r)++[39]))=_
    rw [hs]
   rw [hq] at hb he
   rw [Zbt _ _ hs]
   refine Zs8 hl c r (fun d hd=>?_) hb ?_ hu
   ·rw [hcm]
    exact Zv5 (Zfh.mp hs d hd)
   ·have e:p+1+r.length=p+(c::r).length:=by rw [V7]; lia
    rw [e]; exact he
  | false =>
   have hq:Zv (c::r)=39::(Jj (c::r)++[39]):=by
    show (match (c::r).all Yb with | true=>c::r | false=>39::(Jj (c::r)++[39]))=_
    rw [hs]
   rw [hq] at hb he
   refine Ze7 hl c1 c2 (c::r) (rest:=rest) ?_ ?_ hu
   ·rw [hb]; simp [Zgw]
   ·have e:p+1+(esc (c::r)).length+1=p+(39::(Jj (c::r)++[39])).length:=by
     rw [V7,Vc,Zgw]
     simp only [V7,Zbb]
     lia
    rw [e]; exact he
noncomputable def Zg:LD->List Nat
 | []=>[]
 | u::r=>match r with
  | []=>Zv u
  | _::_=>Zv u++32::Zg r
noncomputable def Zhb:LD->Int->Int
 | [],ln=>ln
 | u::r,ln=>Zhb r (lines u ln)
theorem Zah (hl:L.buf.length < 2 ^ 63) (hcm:L.cm=S []):∀ (ws:LD) (p:Nat) (ln:Int),(∀ u∈ws,u.length<=sizeLine)->L.buf.drop p=Zg ws->p<=L.buf.length ->
  Gi prog w b L ⟨p,some (S [32]),ln⟩ (ws.map S) ⟨L.buf.length,none,Zhb ws ln⟩
 | [],p,ln,hu,hb,hp=>by
  have e:p=L.buf.length:=by
   have:=List.drop_eq_nil_iff.mp hb
   lia
  refine .done ?_
  rw [← e]
  exact Z15 hl hb
 | [u],p,ln,hu,hb,hp=>by
  have hb':L.buf.drop p=Zv u++[]:=by rw [hb,Gf]; rfl
  have qk:p+(Zv u).length=L.buf.length:=by
   have:=Yr List.length hb'
   rw [List.length_drop,Vc,Zbb,Nat.add_zero] at this
   rw [← this]
   exact Nat.add_sub_of_le hp
  have h0:L.buf.drop (p+(Zv u).length)=[]:=by rw [← List.drop_drop,hb',List.drop_left]
  refine .word (Zrm hl hcm u (hu u (.head _)) hb' (.eof h0)) (.done ?_)
  rw [qk]
  exact Ztu hl (by rw [List.drop_length])
 | u::v::r,p,ln,hu,hb,hp=>by
  have hb':L.buf.drop p=Zv u++(32::Zg (v::r)):=hb
  have h0:L.buf.drop (p+(Zv u).length)=32::Zg (v::r):=by rw [← List.drop_drop,hb',List.drop_left]
  have h1:L.buf.drop (p+(Zv u).length+1)=Zg (v::r):=by rw [← List.drop_drop,h0]; rfl
  have hp1:p+(Zv u).length+1<=L.buf.length:=by
   have:=Yr List.length h0
   rw [List.length_drop,V7] at this
   exact Nat.lt_of_sub_pos (by rw [this]; exact Nat.succ_pos _)
  exact .word (Zrm hl hcm u (hu u (.head _)) hb' (.blank h0)) (Zah hl hcm (v::r) _ _ (fun x hx=>hu x (.tail _ hx)) h1 hp1)
end
theorem Zyw (a b:List Nat):S a++S b=S (a++b):=by
 exact Yr Str.mk (show (a.toArray++b.toArray)=(a++b).toArray by simp)
theorem Ze4:∀ ws:LD,Str.join " " (ws.map fun u=>S (Zv u))=S (Zg ws)
 | []=>rfl
 | [u]=>rfl
 | u::v::r=>by
  have ih:=Ze4 (v::r)
  show S (Zv u)++S [32]++Str.join " " ((v::r).map fun u=>S (Zv u))=S (Zv u++32::Zg (v::r))
  rw [ih,Zyw,Zyw]
  simp
theorem Zj7 (ws:LD):Txt.join " " (ws.map fun u=>S (Zv u))=S (Zg ws):=by
 show PySem.Builtin.Str.glued " " _=_
 rw [StrLaws.glued_eq_join,Ze4]
theorem Zap (u:List Nat):(Zv u).length<=5 * u.length+2:=by
 cases u with
 | nil=>show 2<=2; decide
 | cons c r =>
  show (match (c::r).all Yb with | true=>c::r | false=>39::(Jj (c::r)++[39])).length<=_
  have:=Zcz (c::r)
  cases (c::r).all Yb with
  | true=>show (c::r).length<=_; lia
  | false =>
   show (39::(Jj (c::r)++[39])).length<=_
   rw [V7,Vc]
   simp only [V7,Zbb] at this ⊢
   lia
theorem Zl7 (B:Nat):∀ (l:List Str) (acc:Nat),(∀ x∈l,x.length<=B)->l.foldl (fun a x=>a+x.length+(" " : Str).length) acc<=acc+l.length * (B+1)
 | [],acc,_=>by simp
 | x::l,acc,h=>by
  have h1:=h x (.head _)
  have ih:=Zl7 B l (acc+x.length+(" " : Str).length) fun y hy=>h y (.tail _ hy)
  have e:(" " : Str).length=1:=rfl
  rw [List.foldl_cons,V7,Nat.add_mul,Nat.one_mul]
  rw [e] at ih ⊢
  lia
theorem Zif {ws:LD} (h1:ws.length<=20) (h2:∀ u∈ws,u.length<=100000):JoinOk " " (ws.map fun u=>S (Zv u))=true:=by
 unfold JoinOk
 rw [List.foldl_toArray]
 have hf:=Zl7 500002 (ws.map fun u=>S (Zv u)) 0 (fun x hx=>by
  obtain ⟨u,hu,rfl⟩:=Uo.mp hx
  have:=Zap u
  have:=h2 u hu
  show (Zv u).length<=_
  lia)
 rw [Z0] at hf
 have hm:ws.length * (500002+1)<=20 * (500002+1):=Zv7 _ h1
 have e:sizeLine=16777216:=by decide
 have:PySem.Builtin.Str.tooLong ((ws.map fun u=>S (Zv u)).foldl (fun a x=>a+x.length+(" " : Str).length) 0)=false:=by
  unfold PySem.Builtin.Str.tooLong
  rw [e]
  exact Uz (by lia)
 rw [this]
 rfl
noncomputable def Zp4 (ws:LD) (tk:LM) (lst:Addr) (ep:Nat) (tb:Option Addr):Con where
 pre:=[(762,Z9 773 20 tb),(lst,Za (wsV (ws.map S) tk) ep)]
 post x:=[(762,Z9 773 20 (some (x.nat 3))),(lst,Za (wsV (ws.map S) tk) ep)]
 fresh _:=[]
 code:=.call (.ref 767) ⟨[.ref lst],[]⟩
 res x:=.ok (.ret (.str (S (Zg ws)) (x.nat 2)))
 need:=60
 fr:=none
theorem Zlb {ws:LD} (h1:ws.length<=20) (h2:∀ u∈ws,u.length<=100000) (tk:LM) (lst:Addr) (ep:Nat) (tb:Option Addr) (n t:Nat):Z6 T2 prog (wb w b) n t (Zp4 ws tk lst ep tb):=by
 have e24:sizeLine=16777216:=by decide
 have z:=Zxy (prog:=prog) (w:=w) (b:=b) (ws:=ws) (qs:=ws.map Zv) (by rw [Z0]) (fun i wd q g1 g2=>by
  rw [Zbl,g1] at g2
  cases g2
  intro tt n t
  exact Z1x (by have:=h2 wd (Nl g1); exact Zn this (by decide)) tt n t) (by rw [List.map_map]; exact Zif h1 h2) (by exact Zn h1 (by decide)) tk lst ep tb n t
 unfold Zm4 at z
 rw [List.map_map] at z
 have e:Txt.join " " (ws.map (S ∘ Zv))=S (Zg ws):=Zj7 ws
 rw [e] at z
 exact z
noncomputable def Yav (o:Obj) (k:Nat):Nat:=match o with
 | ⟨_,_,dt,_⟩=>match dt with
  | .seq a _=>match a.toList.drop k with
   | v::_=>Ju v
   | []=>0
  | _=>0
noncomputable def Zpm (o:Obj):Option Addr:=match o with
 | ⟨_,_,dt,_⟩=>match dt with
  | .fields f=>match f.toList.drop 2 with
   | v::_=>some (Yj v)
   | []=>none
  | _=>none
noncomputable def Uy (ws:LD):Fam:=fun _ _ c l _=>Zp4 ws (Yav (Z2 l 1)) (Yj (Z8 c 0)) (Jo (Z2 l 1)) (Zpm (Z2 l 0))
noncomputable def Z1k (x y:List Nat) (v:Bool) (tx ty n t:Nat):Con where
 pre:=[]
 post _:=[]
 fresh _:=[]
 code:=.builtin "str.__lt__" ⟨[.str (S x) tx,.str (S y) ty],[]⟩
 res _:=.ok (.ret (.bool v))
 need:=5
 fr:=none
 gen:=false
 made _:=0
noncomputable def Zmz (x y:List Nat) (v:Bool):Fam:=fun n t c _ _=>Z1k x y v (Zig c 0) (Zig c 1) n t
noncomputable def cpQ (u v:List Nat):Int:=match Vk (S (Zg [u,v])) (S (Zg [v,u])) with
 | true=>0
 | false=>match decide (Zg [u,v] < Zg [v,u]) with
  | true=>-3
  | false=>5
noncomputable def Zy0 (u v:List Nat) (r:Int) (t1 t2:Nat) (tb:Option Addr) (n t:Nat):Con where
 pre:=[(762,Z9 773 20 tb)]
 post x:=[(762,Z9 773 20 (some (x.nat 3)))]
 fresh _:=[]
 code:=.call (.ref 787) ⟨[.str (S u) t1,.str (S v) t2],[]⟩
 res x:=.ok (.ret (.int r (x.nat 2)))
 need:=80
 fr:=none
noncomputable def Z65 (r:Result):Nat:=match r with
 | .ok f=>match f with
  | .ret v=>Ju v
  | _=>0
 | _=>0
noncomputable def Zyn (_:Nat->Ext) (r:Result) (l:LA) (_:LB):Ext:=exN fun j=>match j with
 | 0=>Z65 r
 | _=>match Zpm (Z2 l 0) with
  | some a=>a
  | none=>0
noncomputable def kTk (k:LM) (w:Hs) (s:String) (i:Nat) (v:Value):DictEntry:=ent w s (k i) v
noncomputable def kFd (s:Stmt) (name qual:String) (closure:List (Str×Addr)) (code ct:Value):FuncData:=match Zht s with
 | (args,body,scope)=>{ name:=name,qualname:=qual,params:=args,body:=.stmts body,scope:=scope,globals:=3,closure:=closure,defaults:=.none,kwdefaults:=.none,pyModule:=.str "law_ij0140_01" 1279,code:=code,closureTuple:=ct,builtins:=0 }
noncomputable def kFn (fd:FuncData):Obj:={ cls:=.type "function",data:=.func fd }
noncomputable def kCd (k:LM) (i:Nat) (name qual:String) (line argc flags:Int) (free tbl:Addr) (b c d:Addr):Obj:={ cls:=.type "code",data:=.fields #[.str name (k i),.str qual (k (i+1)),.str "/claim/cut.py" (k (i+2)),.int line 0,.int argc 0,.int 0 0,.int 0 0,.int flags 0,.ref free,.bool true,.int 318 0,.ref tbl,.none,.ref b,.ref c,.ref d,.int (Int.ofNat (k (i+3))) 0,.int line 0,.str "/claim/cut.py" (k (i+4))] }
noncomputable def kIn (K:Addr) (d:Addr) (W:List Nat) (tt:Nat):Obj:={ cls:=.ref K,dict:=some d,slots:=#[some (.str (S W) tt)] }
noncomputable def Mo (a:LN) (k:LM):Obj:={ cls:=.type "type",data:=.cls { name := "K",bases:=[.type "object"],mro:=[.ref (a 6),.type "object"],ns:=a 5,qualname := "cmp_to_key.<locals>.K",hasDict:=false,slotNames:=["obj"] },slots:=#[some (.ref (a 28)),none,some (.str "K" (k 20)),some (.str "cmp_to_key.<locals>.K" (k 21)),some (.builtin "object.__new__"),some (.bool false)] }
noncomputable def Zit (a:LN) (k:LM):Obj:={ cls:=.type "member_descriptor",data:=.fields #[.str "obj" (k 80),.ref (a 6),.builtin "proto.slot",.builtin "proto.slot#set",.int 0 0] }
noncomputable def Z0c (a:LN) (k:LM) (x d:Addr) (W:List Nat) (tt:Nat):Con where
 pre:=[(x,kIn (a 6) d W tt),(a 6,Mo a k),(a 7,Zit a k)]
 post _:=[(x,kIn (a 6) d W tt),(a 6,Mo a k),(a 7,Zit a k)]
 fresh _:=[]
 code:=.builtin "member_descriptor.__get__" ⟨[.ref (a 7),.ref x,.ref (a 6)],[]⟩
 res _:=.ok (.ret (.str (S W) tt))
 need:=20
 fr:=none
 gen:=false
 made _:=0
noncomputable def Z0f (a:LN) (k:LM) (x d:Addr) (W:List Nat) (tt:Nat):Con where
 pre:=[(x,{ cls:=.ref (a 6),dict:=some d,data:=.plain }),(a 6,Mo a k),(a 7,Zit a k)]
 post _:=[(x,kIn (a 6) d W tt),(a 6,Mo a k),(a 7,Zit a k)]
 fresh _:=[]
 code:=.builtin "member_descriptor.__set__" ⟨[.ref (a 7),.ref x,.str (S W) tt],[]⟩
 res _:=.ok (.ret .none)
 need:=20
 fr:=none
 gen:=false
 made _:=0
noncomputable def Zj2 (w:Hs) (a:LN) (k:LM):Obj:={ cls:=.type "dict",data:=.dict #[kTk k w "__module__" 22 (.str "cpy313.functools" (k 23)),kTk k w "__firstlineno__" 24 (.int 9 (k 25)),kTk k w "__slots__" 26 (.ref (a 22)),kTk k w "__init__" 27 (.ref (a 2)),kTk k w "__lt__" 28 (.ref (a 4)),kTk k w "__gt__" 29 (.ref (a 23)),kTk k w "__eq__" 30 (.ref (a 24)),kTk k w "__le__" 31 (.ref (a 25)),kTk k w "__ge__" 32 (.ref (a 26)),kTk k w "__hash__" 33 .none,kTk k w "__static_attributes__" 34 (.ref (a 27)),kTk k w "obj" 35 (.ref (a 7)),kTk k w "__doc__" 36 .none] 3 }
noncomputable def Z1 (w:Hs) (top:LE) (a:LN) (k:LM):LC:=[
 (a 0,{ cls:=.type "cell",data:=.cell (some (.ref 787)) }),
 (a 1,kCd k 50 "__init__" "cmp_to_key.<locals>.K.__init__" 13 2 19 (a 11) (a 12) (a 13) (a 14) (a 15)),
 (a 2,kFn (kFd (Ul (Zu (Zl (Z7 top 51) 0)) 2) "__init__" "cmp_to_key.<locals>.K.__init__" [] (.ref (a 1)) .none)),
 (a 3,kCd k 60 "__lt__" "cmp_to_key.<locals>.K.__lt__" 16 2 19 (a 16) (a 17) (a 18) (a 19) (a 20)),
 (a 4,kFn (kFd (Ul (Zu (Zl (Z7 top 51) 0)) 3) "__lt__" "cmp_to_key.<locals>.K.__lt__" [("mycmp",a 0)] (.ref (a 3)) (.ref (a 21)))),
 (a 5,Zj2 w a k),
 (a 6,Mo a k),
 (a 7,Zit a k),
 (a 30,kCd k 70 "__gt__" "cmp_to_key.<locals>.K.__gt__" 19 2 19 (a 34) (a 35) (a 36) (a 37) (a 38)),
 (a 23,kFn (kFd (Ul (Zu (Zl (Z7 top 51) 0)) 4) "__gt__" "cmp_to_key.<locals>.K.__gt__" [("mycmp",a 0)] (.ref (a 30)) (.ref (a 39)))),
 (a 31,kCd k 90 "__eq__" "cmp_to_key.<locals>.K.__eq__" 22 2 19 (a 40) (a 41) (a 42) (a 43) (a 44)),
 (a 24,kFn (kFd (Ul (Zu (Zl (Z7 top 51) 0)) 5) "__eq__" "cmp_to_key.<locals>.K.__eq__" [("mycmp",a 0)] (.ref (a 31)) (.ref (a 45)))),
 (a 32,kCd k 100 "__le__" "cmp_to_key.<locals>.K.__le__" 25 2 19 (a 46) (a 47) (a 48) (a 49) (a 50)),
 (a 25,kFn (kFd (Ul (Zu (Zl (Z7 top 51) 0)) 6) "__le__" "cmp_to_key.<locals>.K.__le__" [("mycmp",a 0)] (.ref (a 32)) (.ref (a 51)))),
 (a 33,kCd k 110 "__ge__" "cmp_to_key.<locals>.K.__ge__" 28 2 19 (a 52) (a 53) (a 54) (a 55) (a 56)),
 (a 26,kFn (kFd (Ul (Zu (Zl (Z7 top 51) 0)) 7) "__ge__" "cmp_to_key.<locals>.K.__ge__" [("mycmp",a 0)] (.ref (a 33)) (.ref (a 57))))]
noncomputable def kyC (w:Hs) (top:LE) (a:LN) (k:LM) (W:List Nat) (tt n t:Nat):Con where
 pre:=Z1 w top a k
 post _:=Z1 w top a k
 fresh _:=[(n+1,kIn (a 6) n W tt)]
 code:=.call (.ref (a 6)) ⟨[.str (S W) tt],[]⟩
 res _:=.ok (.ret (.ref (n+1)))
 need:=40
 fr:=none
 gen:=false
noncomputable def Ya7 (o:Obj):Addr:=match o with
 | ⟨_,d,_,_⟩=>match d with
  | some a=>a
  | none=>0
noncomputable def Z9t (a:LN) (k:LM) (W:List Nat):Fam:=fun _ _ c l _=>Z0f a k (Yj (Z8 c 1)) (Ya7 (Z2 l 0)) W (Zig c 2)
noncomputable def kSlT (o:Obj):Nat:=match o with
 | ⟨_,_,_,sl⟩=>match sl.toList with
  | v::_=>match v with
   | some v=>Ju v
   | none=>0
  | []=>0
noncomputable def Vg (a:LN) (k:LM) (W:List Nat):Fam:=fun _ _ c l _=>Z0c a k (Yj (Z8 c 1)) (Ya7 (Z2 l 0)) W (kSlT (Z2 l 0))
noncomputable def inC (w:Hs) (top:LE) (a:LN) (k:LM) (x d:Addr) (W:List Nat) (tt:Nat):Con where
 pre:=(x,{ cls:=.ref (a 6),dict:=some d,data:=.plain })::Z1 w top a k
 post _:=(x,kIn (a 6) d W tt)::Z1 w top a k
 fresh _:=[]
 code:=.call (.ref (a 2)) ⟨[.ref x,.str (S W) tt],[]⟩
 res _:=.ok (.ret .none)
 need:=30
 fr:=none
 gen:=false
noncomputable def Zat (u v:List Nat) (r:Int):Fam:=fun _ _ c l _=>Zy0 u v r (posTk c 0) (posTk c 1) (Zpm (Z2 l 0)) 0 0
where posTk (c:Code) (k:Nat):Nat:=Ju (Z8 c k)
noncomputable def cmC (w:Hs) (top:LE) (a:LN) (k:LM) (fa:Addr) (x y dx dy:Addr) (W1 W2:List Nat) (t1 t2:Nat) (v:Bool) (c:Addr):Con where
 pre:=(762,Z9 773 20 (some c))::(x,kIn (a 6) dx W1 t1)::(y,kIn (a 6) dy W2 t2)::Z1 w top a k
 post e:=(762,Z9 773 20 (some (e.nat 2)))::(x,kIn (a 6) dx W1 t1)::(y,kIn (a 6) dy W2 t2)::Z1 w top a k
 fresh _:=[]
 code:=.call (.ref fa) ⟨[.ref x,.ref y],[]⟩
 res _:=.ok (.ret (.bool v))
 need:=100
 fr:=none
noncomputable def Zng (_:Nat->Ext) (_:Result) (l:LA) (_:LB):Ext:=exN fun _=>match Zpm (Z2 l 0) with
  | some a=>a
  | none=>0
noncomputable def Zbp:Obj:={ cls:=.none,data:=.fields #[] }
noncomputable def Zsh (o:Obj) (k:Nat):Nat:=match o with
 | ⟨_,_,.fields f,_⟩=>match f.toList.drop k with
  | v::_=>Ju v
  | []=>0
 | _=>0
noncomputable def fInt (o:Obj) (k:Nat):Nat:=match o with
 | ⟨_,_,.fields f,_⟩=>match f.toList.drop k with
  | v::_=>match v with
   | .int i _=>match i with
    | .ofNat n=>n
    | .negSucc _=>0
   | _=>0
  | []=>0
 | _=>0
noncomputable def Zec (o:Obj) (k:Nat):Nat:=match o with
 | ⟨_,_,_,sl⟩=>match sl.toList.drop k with
  | v::_=>match v with
   | some v=>Ju v
   | none=>0
  | []=>0
noncomputable def Z10 (o:Obj) (k:Nat):Nat:=match k with
 | 0=>Zsh o 0
 | 1=>Zsh o 1
 | 2=>Zsh o 2
 | 3=>fInt o 16
 | _=>Zsh o 18
noncomputable def Z0v (d:Nat):List Nat->LM
 | [],_=>d
 | x::r,k=>match k with
  | 0=>x
  | k+1=>Z0v d r k
noncomputable def adK (a:Nat) (j:Nat):Addr:=a+Z0v 63 [1,15,16,23,24,59,60,61,63,63,63,10,11,12,13,14,18,19,20,21,22,17,9,32,40,48,56,57,2,63,31,39,47,55,26,27,28,29,30,25,34,35,36,37,38,33,42,43,44,45,46,41,50,51,52,53,54,49] j
noncomputable def kTks (l:LA) (k:Nat):Nat:=match Nat.ble 50 k with
 | true=>match Nat.beq k 80 with
  | true=>Zsh (Z2 l 7) 0
  | false=>Z10 (Z2 l (Z0v 0 [0,0,0,0,0,1,3,8,0,10,12,14] (k / 10))) (k % 10)
 | false=>match Nat.ble 26 k with
  | true=>Nb [some (0,Z2 l 5)] 0 (k - 24)
  | false=>Z0v 0 [Zec (Z2 l 6) 2,Zec (Z2 l 6) 3,Nb [some (0,Z2 l 5)] 0 0,Za8 [some (0,Z2 l 5)] 0 0,Nb [some (0,Z2 l 5)] 0 1,Za8 [some (0,Z2 l 5)] 0 1] (k - 20)
noncomputable def ckS (top:LE):Stmt:=Zl (Z7 top 51) 0
noncomputable def Zft (s:Stmt):Str:=match s with
 | .ClassDef n _ _ _ _ _ _ _ _ _ _=>n
 | _ => ""
noncomputable def Zgv (s:Stmt):List Expr:=match s with
 | .ClassDef _ b _ _ _ _ _ _ _ _ _=>b
 | _=>[]
noncomputable def Yl (s:Stmt):Scope:=match s with
 | .ClassDef _ _ _ _ _ _ sc _ _ _ _=>sc
 | _=>default
noncomputable def Z8o (s:Stmt):Option Scope:=match s with
 | .ClassDef _ _ _ _ _ _ _ ts _ _ _=>ts
 | _=>none
noncomputable def Ps (s:Stmt):Str:=match s with
 | .ClassDef _ _ _ _ _ _ _ _ b _ _=>b
 | _ => ""
noncomputable def V8 (s:Stmt):List Str:=match s with
 | .ClassDef _ _ _ _ _ _ _ _ _ st _=>st
 | _=>[]
noncomputable def Mz (s:Stmt):Pos:=match s with
 | .ClassDef _ _ _ _ _ _ _ _ _ _ p=>p
 | _=>default
noncomputable def X3 (a:Nat) (top:LE):Env:={ scope:=(Z7 top 51).scope,locals:=a,globals:=3,cells:=[("mycmp",(a+1))],qual := "cmp_to_key.<locals>.",func:=some 51,code:=.ref 50,frame:=some a,builtins:=0 }
noncomputable def Jp:Str := "cmp_to_key.<locals>.K"
noncomputable def Zl6 (a:Nat) (top:LE):Env:={ scope:=Yl (ckS top),locals:=(a+4),globals:=3,cells:=[("mycmp",(a+1))],qual:=Jp ++ ".",code:=.ref (a+7),frame:=some (a+8),builtins:=0 }
noncomputable def Zny (es:LJ) (n:Nat):Obj:={ cls:=.type "frame",data:=.dict es n }
noncomputable def Z3j:Obj:=Zny #[] 0
noncomputable def Jm:Obj:={ cls:=.type "tuple",data:=.seq #[.type "object"] 0 }
noncomputable def Ya4:Obj:={ cls:=.type "builtin_function_or_method",data:=.fields #[.builtin "type.__prepare__",.type "type"] }
noncomputable def Vh:Obj:={ cls:=.type "dict",data:=.dict #[] 0 }
noncomputable def Yp (a:Nat):Obj:={ cls:=.none,data:=.fields #[.int 9 0,.int 4 0,.ref (a+7)] }
noncomputable def Zaf (a:Nat) (x:LM):Obj:={ cls:=.type "code",data:=.fields #[.str "K" (x 0),.str Jp (x 1),.str "/claim/cut.py" (x 2),.int 9 0,.int 0 0,.int 0 0,.int 0 0,.int 0 0,.ref (a+5),.bool true,.int 318 0,.ref (a+6),.none,.none,.none,.none,.int (Int.ofNat (x 3)) 0,.int 9 0,.str "/claim/cut.py" (x 4)] }
noncomputable def Z5r (a:Nat) (u:Nat):Obj:={ cls:=.type "frame",slots:=#[some (.ref (a+7)),some (.ref 3),some (.ref (a+4)),none,some (.str "law_ij0140_01" u),none,some (.ref 0)] }
noncomputable def Zd9 (a:Nat) (top:LE) (prep:Addr->FuncData->Args->Sem Env) (n t:Nat):Zx Env where
 pre:=[]
 post _:=[]
 fresh x:=[(a,Z3j),((a+1),{ cls:=.type "cell",data:=.cell (some (.ref 787)) })]
 tree:=prep 51 (Z7 top 51) ⟨[.ref 787],[]⟩
 res _:=.ok (X3 a top)
 need:=20
 fr:=none
 made _:=2
noncomputable def Z25 (a:Nat) (ga:Value->Str->Sem (Option Value)):Zx (Option Value) where
 pre:=[]
 post _:=[]
 fresh x:=[((a+3),Ya4)]
 tree:=ga (.type "type") "__prepare__"
 res _:=.ok (some (.ref (a+3)))
 need:=20
 fr:=none
 made _:=1
noncomputable def Z92 (a:Nat) (nm:Str) (u:Nat):Zx Value where
 pre:=[((a+3),Ya4),((a+2),Jm)]
 post _:=[((a+2),Jm)]
 fresh x:=[((a+4),Vh)]
 tree:=call (.ref (a+3)) [.str nm u,.ref (a+2)] []
 res _:=.ok (.ref (a+4))
 need:=20
 fr:=none
 made _:=1
noncomputable def Z2w (a:Nat) (sp:Value->Str->Sem (Option Value)):Zx (Option Value) where
 pre:=[((a+4),Vh)]
 post _:=[((a+4),Vh)]
 fresh x:=[]
 tree:=sp (.ref (a+4)) "__getitem__"
 res _:=.ok (some (.builtin "dict.__getitem__"))
 need:=20
 fr:=none
 made _:=0
noncomputable def Z5q (a:Nat) (top:LE) (cc:Env->Pos->Nat->Str->Str->Scope->Sem Value):Zx Value where
 pre:=[(46,Zbp)]
 post _:=[(46,Yp a)]
 fresh x:=[((a+6),Zbp),((a+7),Zaf a fun k=>x.nat (k+2))]
 tree:=cc (X3 a top) (Mz (ckS top)) 9 (Zft (ckS top)) Jp (Yl (ckS top))
 res _:=.ok (.ref (a+7))
 need:=20
 fr:=none
 made _:=3
noncomputable def Zye (bf:Addr->Addr->Sem Addr):Zx Addr where
 pre:=[]
 post _:=[]
 fresh x:=[]
 tree:=bf 3 0
 res _:=.ok 0
 need:=20
 fr:=none
 made _:=0
noncomputable def Z6n (a:Nat) (nf:Value->Addr->Addr->Addr->Sem Addr):Zx Addr where
 pre:=[]
 post _:=[]
 fresh x:=[((a+8),Z5r a (x.nat 2))]
 tree:=nf (.ref (a+7)) 3 (a+4) 0
 res _:=.ok (a+8)
 need:=20
 fr:=none
 made _:=1
noncomputable def Zym (a:Nat) (top:LE) (cl:Scope->Env->Sem (List (Str×Addr))):Zx (List (Str×Addr)) where
 pre:=[]
 post _:=[]
 fresh x:=[]
 tree:=cl (Yl (ckS top)) (X3 a top)
 res _:=.ok [("mycmp",(a+1))]
 need:=20
 fr:=none
 made _:=0
noncomputable def Pn (a:Nat) (sn:Env->Str->Value->Sem Unit) (ln:Env->Str->Sem Value) (mt:Str->Sem Value) (mi:Int->Sem Value) (ntt:LH->Sem Value) (lv:Env->Value->Sem Unit) (qual:Str) (line:Nat) (statics:List Str) (body:List Stmt) (cenv:Env) (nameV:Value):Sem Value:=do
 (do sn cenv "__module__" (← ln cenv "__name__"); sn cenv "__qualname__" (← mt qual); sn cenv "__firstlineno__" (← mi line); pure ():Sem Unit).onRaise (lv cenv)
 let _ ← run (.body body cenv)
 (do sn cenv "__static_attributes__" (← ntt (← statics.mapM mt)); pure ():Sem Unit).onRaise (lv cenv)
 call (.type "type") [nameV,.ref (a+2),.ref (a+4)] []>>=fun cls=>pure cls
noncomputable def kTab (a:Nat):Obj:={ cls:=.none,data:=.fields #[.int 13 0,.int 8 0,.ref (a+15),.int 16 0,.int 8 0,.ref (a+23),.int 19 0,.int 8 0,.ref (a+31),.int 22 0,.int 8 0,.ref (a+39),.int 25 0,.int 8 0,.ref (a+47),.int 28 0,.int 8 0,.ref (a+55)] }
noncomputable def Ys (a:Nat) (x:LM):LC:=[((a+6),kTab a),((a+7),Zaf a x)]
noncomputable def Zz6 (a:Nat) (w:Hs) (top:LE) (sn:Env->Str->Value->Sem Unit) (ln:Env->Str->Sem Value) (mt:Str->Sem Value) (mi:Int->Sem Value) (ntt:LH->Sem Value) (lv:Env->Value->Sem Unit) (nm:Str) (u:Nat) (x:LM) (uf:Nat):Zx Value where
 pre:=[((a+1),{ cls:=.type "cell",data:=.cell (some (.ref 787)) }),((a+2),Jm),((a+4),Vh),((a+6),Zbp),((a+7),Zaf a x),((a+8),Z5r a uf)]
 post _:=Ys a x
 fresh x:=Z1 w top (adK a) (fun k=>x.nat (k+2))
 tree:=Pn a sn ln mt mi ntt lv Jp 9 (V8 (ckS top)) (Zu (ckS top)) (Zl6 a top) (.str nm u)
 res _:=.ok (.ref (a+60))
 need:=50
 fr:=none
 made _:=55
noncomputable def Z3y (a:Nat) (w:Hs) (top:LE) (bn:Env->Str->Value->Sem Unit):Zx Unit where
 pre:=[(a,Z3j)]
 post x:=[(a,Zny #[ent w "K" (x.nat 2) (.ref (a+60))] 1)]
 fresh x:=[]
 tree:=bn (X3 a top) (Ps (ckS top)) (.ref (a+60))
 res _:=.ok ()
 need:=20
 fr:=none
 made _:=0
noncomputable def Zy1 (a:Nat) (w:Hs) (top:LE) (exs:List Stmt->Env->Sem Flow) (u:Nat):Zx Flow where
 pre:=[(a,Zny #[ent w "K" u (.ref (a+60))] 1)]
 post x:=[(a,Zny #[ent w "K" u (.ref (a+60))] 1)]
 fresh x:=[]
 tree:=exs [Zl (Z7 top 51) 1] (X3 a top)
 res _:=.ok (.ret (.ref (a+60)))
 need:=20
 fr:=none
 made _:=0
noncomputable def Z28 (_:LL) (l:LA) (_:LB):Ext:=exN fun k=>Z10 (Z2 l 1) k
noncomputable def Z3l (_:LL) (l:LA) (_:LB):Ext:=exN (kTks l)
section
set_option maxHeartbeats 0
open PySem PySem.W PySem.W.X PySem.Calls PyProof.Rows
noncomputable def Z9j:LC:=[(46,Zbp),(762,Z9 773 20 none)]
noncomputable def hHs (w:World):Hs:=fun k=>hashStr w (Str.ofString k)
noncomputable def hAd:List Nat:=(Znq fun _=>0).map (·.1)
noncomputable def hYf (s:Shared):Nat×Option Value×List (Option Obj)×List (Option Obj):=(s.heap.objs.size,s.heap.nsMap mainGlobals "law",hAd.map s.heap.get?,Z9j.map fun p=>s.heap.get? p.1)
noncomputable def hYa (w:World):Nat×Option Value×List (Option Obj)×List (Option Obj):=(827,some (.ref 826),(Znq (hHs w)).map fun p=>some p.2,Z9j.map fun p=>some p.2)
noncomputable def hSee (s₀:Shared) (s:Shared):Bool×Bool:=(s₀.heap.isNs mainGlobals&&s₀.gens.size==0,staticsOk (importedModules hP.main.body) s₀.heap s.heap&&namesBound hP s.heap&&gensDone s&&laidKept s₀.heap s.heap)
theorem Z35 (w:World):(Zxa w).map (fun r=>(hSee r.1 r.2.abs,Fast.tw4187177175401517315 hQ Zkt (Fast.tw5923862056798008813 hP.main.body) (fun _=>true) true r.2.abs,hYf r.2.abs))=some ((true,true),openGood hQ Zkt,hYa w):=by kernel_rfl
theorem Zlg:LeftO hP hQ Zkt (fun _=>true) hYf hYa 6000:=fun w=>by
 have h:=Z35 w
 rw [Zpv,← Fast.te4187177175401517315,← Fast.te5923862056798008813] at h
 obtain ⟨⟨s₀,s₁⟩,e,h⟩:=Z1c.mp h
 obtain ⟨a,b⟩:=Zlm (K:=6000) (by decide) (by decide) e
 obtain ⟨h1,h2⟩:=Prod.mk.inj h
 obtain ⟨h3,h4⟩:=Prod.mk.inj h1
 have t:topFrom treeTable hP w 6000 s₀=some s₁.abs:=by
  unfold topFrom
  rw [h3]
  dsimp only
  rw [b]
  show (match staticsOk (importedModules hP.main.body) s₀.heap s₁.abs.heap&&namesBound hP s₁.abs.heap&&gensDone s₁.abs&&laidKept s₀.heap s₁.abs.heap with | true=>some s₁.abs | false=>none)=_
  rw [h4]
 unfold openEnds
 rw [a]
 show (topFrom treeTable hP w 6000 s₀).map _=_
 rw [t]
 exact Yr some h2
end
theorem Own.same {a:Addr} {o o':Obj} (O:Own H ((a,o)::l) h) (hs:Heap.SameBut a h h') (ho:h'.get? a=some o'):Own H ((a,o')::l) h':=by
 have nd:=O.nodup
 rw [Zcq,Zek] at nd
 refine ⟨fun b ob e=>(hs.2 b fun q=>?_).trans (O.keep b ob e),fun p hp=>?_,O.nodup,fun p hp=>?_⟩
 ·subst q
  rw [O.apart (b,o) (.head _)] at e; cases e
 ·rcases X6.mp hp with rfl | hp
  ·exact ho
  ·exact (hs.2 _ fun q=>nd.1 (Uo.mpr ⟨p,hp,q⟩)).trans (O.own p (.tail _ hp))
 ·rcases X6.mp hp with rfl | hp
  ·exact O.apart (a,o) (.head _)
  ·exact O.apart p (.tail _ hp)
theorem Own.ext {a:Addr} {o:Obj} (O:Own H ((a,o)::l) h) (hs:Heap.ExtBut a h h'):Own H l h':=by
 have nd:=O.nodup
 rw [Zcq,Zek] at nd
 refine ⟨fun b ob e=>hs b ob (fun q=>?_) (O.keep b ob e),fun p hp=>?_,nd.2,fun p hp=>O.apart p (.tail _ hp)⟩
 ·subst q
  rw [O.apart (b,o) (.head _)] at e; cases e
 ·exact hs _ _ (fun q=>nd.1 (Uo.mpr ⟨p,hp,q⟩)) (O.own p (.tail _ hp))
noncomputable def Zgm (o:Obj) (lst:Addr) (i:Nat):Prop:=o.cls=.type "list_iterator" /\ o.data=.fields #[.ref lst,.int i 0]
theorem Yn {a:Addr} {xs:LH} (e:h.get? a=some (Za xs ep)):h.IsList a ⟨xs⟩:=⟨_,e,rfl,ep,rfl⟩
section
variable {oi:Obj} {xs:LH} {ep i:Nat} {Q:Option Value->Shared->Prop}
theorem Zc9 {x:Value} (O:Own H ((it,oi)::l) h) (hi:Zgm oi lst i) (hl:(lst,Za xs ep)∈l) (hx:xs[i]?=some x)
  (hQ:∀ h' oi',Own H ((it,oi')::l) h'->Zgm oi' lst (i+1)->h'.objs.size=h.objs.size->Q (some x) (r.at h' ⟨t,g⟩)) :
  wpAny (model prog w) A (pyNext (.ref it)) Q E (r.at h ⟨t,g⟩):=by
 refine wpAny_pyNext_list_item (s:=r.at h ⟨t,g⟩) (i:=i) (items:=⟨xs⟩) (l:=lst) ⟨oi,O.own _ (.head _),hi.1,hi.2⟩ (Yn (O.own _ (.tail _ hl))) (by simpa using hx) fun h' hit hs=>?_
 obtain ⟨o',ho,hc,hd⟩:=hit
 exact hQ h' o' (O.same hs ho) ⟨hc,hd⟩ hs.1
theorem Zr8 (hh:A.handled=none) (O:Own H ((it,oi)::l) h) (hi:Zgm oi lst i) (hl:(lst,Za xs ep)∈l) (hx:xs.length<=i)
  (hQ:∀ h',Own H l h'->Q none (r.at h' ⟨t,g⟩)) :
  wpAny (model prog w) A (pyNext (.ref it)) Q E (r.at h ⟨t,g⟩):=by
 refine wpAny_pyNext_list_end (s:=r.at h ⟨t,g⟩) (i:=i) (items:=⟨xs⟩) (l:=lst) hh ⟨oi,O.own _ (.head _),hi.1,hi.2⟩ (Yn (O.own _ (.tail _ hl))) (by simpa using hx) fun h' hs=>hQ h' (O.ext hs)
end
noncomputable def Ge (l:Addr) (i:Nat):Obj:={ cls:=.type "list_iterator",data:=.fields #[.ref l,.int (Int.ofNat i) 0] }
noncomputable def Je (a b:Addr) (xs ys:LH) (e1 e2:Nat) (n:Nat):Con where
 pre:=[(a,Za xs e1),(b,Za ys e2)]
 post _:=[(a,Za xs e1),(b,Za ys e2)]
 fresh _:=[(n,Za (xs++ys) 0)]
 code:=.builtin "list.__add__" ⟨[.ref a,.ref b],[]⟩
 res _:=.ok (.ret (.ref n))
 need:=5
 fr:=none
 gen:=false
 made _:=1
noncomputable def Nh (o:Obj):LH:=match o with
 | ⟨_,_,dt,_⟩=>match dt with
  | .seq a _=>a.toList
  | _=>[]
noncomputable def Z47 (lst:Addr) (xs:LH) (ep:Nat) (v:Value):Con where
 pre:=[(lst,Za xs ep)]
 post x:=[(lst,Za (xs++[v]) (x.nat 2))]
 fresh _:=[]
 code:=.builtin "list.append" ⟨[.ref lst,v],[]⟩
 res _:=.ok (.ret .none)
 need:=5
 fr:=none
 gen:=false
 made _:=0
noncomputable def Jh:List Int->(LM)->LH
 | [],_=>[]
 | x::r,t=>.int x (t 0)::Jh r fun k=>t (k+1)
noncomputable def Z07 (it lst st:Addr) (xs:LH) (ep i:Nat) (T U:Int) (tT es:Nat) (sg:Int):Con where
 pre:=[(it,Ge lst i),(lst,Za xs ep),(st,Za [.int T tT] es)]
 post _:=[(lst,Za xs ep)]
 fresh _:=[]
 code:=.builtin "sum.loop" ⟨[.ref it,.ref st,.int sg 0,.int 0 0],[]⟩
 res x:=.ok (.ret (.int U (x.nat 2)))
 need:=30
 fr:=none
 made _:=2
noncomputable def sgOf (c:Code):Int:=match Z8 c 2 with
 | .int s _=>s
 | _=>0
noncomputable def sgN (s:Int):Int:=match s with
 | .ofNat k=>match k with
  | 0=>0
  | _=>2
 | .negSucc _=>0
theorem Z2x (s:Int):sgN s=0∨sgN s=2:=by
 unfold sgN
 split
 ·split
  ·exact .inl rfl
  ·exact .inr rfl
 ·exact .inl rfl
noncomputable def Zxt (lst:Addr) (xs:LH) (ep:Nat) (U:Int):Con where
 pre:=[(lst,Za xs ep)]
 post _:=[(lst,Za xs ep)]
 fresh _:=[]
 code:=.call (.builtin "sum") ⟨[.ref lst],[]⟩
 res x:=.ok (.ret (.int U (x.nat 2)))
 need:=40
 fr:=none
 made _:=4
noncomputable def Z19 (lst:Addr) (xs:LH) (ep:Nat) (U:Int):Fam:=fun _ _ c l _=>Z07 (Yj (Z8 c 0)) lst (Yj (Z8 c 1)) xs ep 0 0 U (match Nh (Z2 l 2) with | v::_=>Ju v | []=>0) (Jo (Z2 l 2)) (sgN (sgOf c))
section
variable {oi:Obj} {xs:LH} {ep i:Nat}
theorem Zll {Q:Option Value->Shared->Prop} (hh:A.handled=none) (O:Own H ((it,oi)::l) h) (hi:Zgm oi lst i) (hl:(lst,Za xs ep)∈l) (hx:xs.length<=i)
  (hQ:∀ h',Own H l h'->h'.objs.size=h.objs.size+2->Q none (r.at h' ⟨t,g⟩)) :
  wpAny (model prog w) A (pyNext (.ref it)) Q E (r.at h ⟨t,g⟩):=by
 have ho:=O.own (it,oi) (.head _)
 have hol:=O.own (lst,Za xs ep) (.tail _ hl)
 have hit:h.IsListIter it lst i:=⟨oi,ho,hi.1,hi.2⟩
 have hn:(⟨xs⟩:Array Value)[i]?=none:=by simpa using hx
 have hT:(r.at h ⟨t,g⟩).TypeIs (.ref it) "list_iterator" := ⟨oi,ho,hi.1⟩
 unfold pyNext
 refine Zi (wpAny_attempt (wpAny_callSpecial?_slot (name:=Str.ofString "__next__") hT slot_listiter_next
  (wpAny_call_entry slot_listiter_next hT entry_listiter_next ?_ (args_listiter_next _))))
 refine Zi (m:=field (.ref it) 0) (wpAny_field ho hi.2 (x:=.ref lst) rfl ?_)
 rw [if_neg (show ¬ ((Value.ref lst==Value.none)=true) from Q4q)]
 refine Zi (m:=field (.ref it) 1) (wpAny_field ho hi.2 (x:=.int i 0) rfl ?_)
 refine Zi (m:=seqItems? (.ref lst)) (Zwn hol rfl ?_)
 simp only [Int.toNat_natCast,hn]
 refine Zi (wpAny_rule (Zi (wpAny_setField ho hi.2 (by simp) ?_)))
 refine Zi (m:=newExc (.type "StopIteration") []) ?_
 simp only [newExc,newTuple]
 refine Zi (Zyo ?_ (by size_fits))
 refine Zi (m:=firstArgMember _ _) (Zbf (a:=Value.none) (by first | rfl | (simp only [firstArgMember]; rfl)) ?_)
 refine Zyo ?_ (by size_fits)
 unfold raiseNew
 dsimp only
 refine Zi (wpAny_handled ?_)
 rw [show A.in1.handled=none from hh]
 refine Zi (Yo (wpAny_throw ?_))
 refine Zi (wpAny_isInstance (T := "StopIteration") (b:=true) ⟨_,Z42 _ rfl,rfl⟩ isSubtype_stop ?_)
 refine Yo (hQ _ (O.ext (((Zhz ..).extBut.push _).push _)) ?_)
 rw [Ziu,Ziu]
 exact Yr (·+1+1) (Zhz ..).1
noncomputable def Zg9:List Int->Int
 | []=>0
 | x::r=>x+Zg9 r
theorem Zcu:∀ (l:List Int) (tk:LM) (i:Nat) (x:Int),l[i]?=some x->(Jh l tk)[i]?=some (.int x (tk i))
 | [],_,_,_,h=>by cases h
 | _::_,_,0,_,h=>by cases h; rfl
 | _::r,tk,i+1,x,h=>Zcu r (fun j=>tk (j+1)) i x h
theorem Xj:∀ (l:List Int) (tk:LM),(Jh l tk).length=l.length
 | [],_=>rfl
 | _::r,_=>Yr (·+1) (Xj r _)
theorem Zkw (v:Value) (x:Value) (es:Nat):Obj.mapSeq (fun _=>#[v]) (Za [x] es)=Za [v] es:=by
 simp [Obj.mapSeq,Za]
theorem Zre {l:List Int} {tk:LM} {st:Addr} (hh:A.handled=none) {R:Result->Shared->Prop}:∀ (rs:List Int) (i:Nat),l.drop i=rs->i<=l.length->∀ (T:Int) (tT es:Nat) (sg:Int) (oi:Obj) (h:Heap) (t:Nat),sg=0∨sg=2->Zgm oi lst i ->
  Own H ((it,oi)::(st,Za [.int T tT] es)::[(lst,Za (Jh l tk) ep)]) h->(∀ h' t' u,Own H [(lst,Za (Jh l tk) ep)] h'->h'.objs.size=h.objs.size+2->t<=t'->R (.ok (.ret (.int (T+Zg9 rs) u))) (r.at h' ⟨t',g⟩)) ->
  codeAny (model prog w) A (.builtin "sum.loop" ⟨[.ref it,.ref st,rawInt sg,rawInt 0],[]⟩) R (r.at h ⟨t,g⟩)
 | [],i,hr,hi,T,tT,es,sg,oi,h,t,hsg,hit,O,hR=>by
  have hle:l.length<=i:=by
   have:=Yr List.length hr
   simp at this
   lia
  refine M3 F.entry_sum_loop ?_
  rw [Q0q F.plain_sum_loop _]
  refine Zi (m:=seqItems? (.ref st)) (Zwn (O.own (st,_) (.tail _ (.head _))) rfl ?_)
  refine Zi (wpAny_tryCatch (Zll hh O hit (.tail _ (.head _)) (by rw [Xj]; exact hle) fun h' O' hs=>?_))
  have qA:=hR h' t tT (Own.drop (r:=[(st,Za [.int T tT] es)]) (O'.perm (.swap _ _ _))) hs (Y9 _)
  rw [show T+Zg9 []=T from Int.add_zero T] at qA
  exact Yo qA
 | x::rs,i,hr,hi,T,tT,es,sg,oi,h,t,hsg,hit,O,hR=>by
  have hk:l[i]?=some x:=by
   have:=Yr List.head? hr
   simpa using this
  have hr':l.drop (i+1)=rs:=by rw [← List.drop_drop,hr]; rfl
  have hi':i+1<=l.length:=(Zfj.mp hk).1
  refine M3 F.entry_sum_loop ?_
  rw [Q0q F.plain_sum_loop _]
  refine Zi (m:=seqItems? (.ref st)) (Zwn (O.own (st,_) (.tail _ (.head _))) rfl ?_)
  refine Zi (wpAny_tryCatch (Zc9 O hit (.tail _ (.head _)) (Zcu l tk i x hk) fun h1 oi1 O1 hi1 qU=>?_))
  have S1:h1.get? st=some (Za [.int T tT] es):=O1.own (st,_) (.tail _ (.head _))
  have next:∀ (u:Nat) (sg':Int) (t':Nat) (hp:Heap),(sg'=0∨sg'=2)->t<=t'->hp.objs.size=h1.objs.size->Own H ((it,oi1)::(st,Za [.int (T+x) u] es)::[(lst,Za (Jh l tk) ep)]) hp ->
    codeAny (model prog w) A (.builtin "sum.loop" ⟨[.ref it,.ref st,rawInt sg',rawInt 0],[]⟩) R (r.at hp ⟨t',g⟩):=fun u sg' t' hp hsg' ht qE Op =>
   Zre hh rs (i+1) hr' hi' (T+x) u es sg' oi1 hp t' hsg' hi1 Op fun h' t'' u' O' hs' ht'=>by
    have qA:=hR h' t'' u' O' (by lia) (by exact (Zn ht ht'))
    rw [show T+Zg9 (x::rs)=T+x+Zg9 rs from by show T+(x+Zg9 rs)=_; lia] at qA
    exact qA
  have upd:∀ (hp:Heap) (y:Int) (uy u:Nat),Own H ((it,oi1)::(st,Za [.int y uy] es)::[(lst,Za (Jh l tk) ep)]) hp->Own H ((it,oi1)::(st,Za [.int (T+x) u] es)::[(lst,Za (Jh l tk) ep)]) (hp.update st (Obj.mapSeq fun _=>#[.int (T+x) u])):=fun hp y uy u Op=>by
   have z:=(Op.perm (.swap _ _ _)).update (Obj.mapSeq fun _=>#[.int (T+x) u]) (by rw [Zkw]; rfl)
   rw [Zkw] at z
   exact z.perm (.swap _ _ _)
  rcases hsg with rfl | rfl
  ·show wpAny _ A.in1 (if (_:Bool)=true then (mkInt (T+x)>>=_) else _) _ _ _
   split
   ·refine Zi (wpAny_mkInt ?_)
    refine Zi (m:=updateSeq st fun _=>#[.int (T+x) t]) (Znl S1 rfl (Yo ⟨Zkv F.plain_sum_loop _,?_⟩))
    exact next t 0 (t+1) _ (.inl rfl) (by lia) (Zhz ..).1 (upd h1 T tT t O1)
   ·refine Zi (wpAny_rule ?_)
    refine Zi (wpAny_attempt (Zfk (wpAny_add_int ?_)))
    refine Zi (m:=updateSeq st fun _=>#[.int (T+x) t]) (Znl S1 rfl ?_)
    have O2:=upd h1 T tT t O1
    refine Zi (wpAny_letGo ?_)
    refine Zi (Znl (O2.own (st,_) (.tail _ (.head _))) rfl (Yo ⟨Zkv F.plain_sum_loop _,?_⟩))
    exact next t 2 (t+1) _ (.inr rfl) (by lia) ((Zhz ..).1.trans (Zhz ..).1) (upd _ (T+x) t t O2)
  ·refine Zi (m:=(holding [Value.int x (tk i)] (binaryOp .Add (.int T tT) (.int x (tk i)))).attempt) (wpAny_attempt (Zfk (wpAny_add_int ?_)))
   refine Zi (m:=updateSeq st fun _=>#[.int (T+x) t]) (Znl S1 rfl ?_)
   have O2:=upd h1 T tT t O1
   refine Zi (wpAny_letGo ?_)
   refine Zi (Znl (O2.own (st,_) (.tail _ (.head _))) rfl (Yo ⟨Zkv F.plain_sum_loop _,?_⟩))
   exact next t 2 (t+1) _ (.inr rfl) (by lia) ((Zhz ..).1.trans (Zhz ..).1) (upd _ (T+x) t t O2)
end
section
inductive PT
 | d:PT
 | a:Nat->PT->PT
 | b:Nat->PT->PT
 | c:Nat->PT
 | f:PT->PT->PT
noncomputable abbrev atP {α:Type}:List α->Nat->List α->List α
 | [],_,r=>r
 | x::_,0,r=>x::r
 | _::P,i+1,r=>atP P i r
noncomputable abbrev atQ {α:Type}:List (List α)->Nat->List α
 | [],_=>[]
 | x::_,0=>x
 | _::Q,i+1=>atQ Q i
noncomputable abbrev PT.den {α:Type} (P:List α) (Q:List (List α)):PT->List α
 | .d=>[]
 | .a i t=>atP P i (t.den P Q)
 | .b i t=>atQ Q i++t.den P Q
 | .c i=>atQ Q i
 | .f t u=>t.den P Q++u.den P Q
noncomputable def PT.lv:PT->List Nat
 | .d=>[]
 | .a i t=>2 * i::t.lv
 | .b i t=>(2 * i+1)::t.lv
 | .c i=>[2 * i+1]
 | .f t u=>t.lv++u.lv
noncomputable def lfP {α:Type} (P:List α) (Q:List (List α)) (k:Nat):List α:=if k % 2=0 then atP P (k / 2) [] else atQ Q (k / 2)
theorem Zm2:∀ (P:List α) (i:Nat) (r:List α),atP P i r=atP P i []++r
 | [],_,r=>rfl
 | x::_,0,r=>rfl
 | _::P,i+1,r=>Zm2 P i r
theorem Z94 (P:List α) (Q:List (List α)) (i:Nat):lfP P Q (2 * i)=atP P i []:=by
 unfold lfP
 rw [if_pos (by lia),show 2 * i / 2=i by lia]
theorem Z2y (P:List α) (Q:List (List α)) (i:Nat):lfP P Q (2 * i+1)=atQ Q i:=by
 unfold lfP
 rw [if_neg (by lia),show (2 * i+1) / 2=i by lia]
theorem Zby (P:List α) (Q:List (List α)):∀ t:PT,t.den P Q=t.lv.flatMap (lfP P Q)
 | .d=>rfl
 | .a i t=>by
  show atP P i (t.den P Q)=lfP P Q (2 * i)++t.lv.flatMap (lfP P Q)
  rw [Zm2,Z94,Zby P Q t]
 | .b i t=>by
  show atQ Q i++t.den P Q=lfP P Q (2 * i+1)++t.lv.flatMap (lfP P Q)
  rw [Z2y,Zby P Q t]
 | .c i=>by
  show atQ Q i=lfP P Q (2 * i+1)++[]
  rw [Z2y,Gf]
 | .f t u=>by
  show t.den P Q++u.den P Q=(t.lv++u.lv).flatMap (lfP P Q)
  rw [Zz4,Zby P Q t,Zby P Q u]
noncomputable def PT.rd:Nat->Nat->PT×Nat
 | 0,n=>(.d,n)
 | k+1,n=>match n % 128 with
  | 0=>(.d,n / 128)
  | 1=>match rd k (n / 128) with
   | (t,m)=>match rd k m with
    | (u,m)=>(.f t u,m)
  | i+2=>match i % 3 with
   | 0=>match rd k (n / 128) with
    | (t,m)=>(.a (i / 3) t,m)
   | 1=>match rd k (n / 128) with
    | (t,m)=>(.b (i / 3) t,m)
   | _=>(.c (i / 3),n / 128)
noncomputable def PT.of (n:Nat):PT:=(PT.rd 60 n).1
theorem pm (P:List α) (Q:List (List α)) (m n:Nat) (h:(PT.of m).lv.isPerm (PT.of n).lv=true:=by kernel_rfl):List.Perm ((PT.of m).den P Q) ((PT.of n).den P Q):=by
 rw [Zby,Zby]
 exact (List.isPerm_iff.mp h).flatMap_right _
end
section
section
open Classical
noncomputable def one {α:Type} (a x:α):Nat:=if x=a then 1 else 0
noncomputable def cnt {α:Type} (a:α):List α->Nat
 | []=>0
 | x::l=>one a x+cnt a l
theorem Zc1 (a:α):cnt a []=0:=rfl
theorem Gn (a x:α) (l:List α):cnt a (x::l)=one a x+cnt a l:=rfl
theorem Mq (a:α) (l r:List α):cnt a (l++r)=cnt a l+cnt a r:=by
 induction l with
 | nil=>simp [cnt]
 | cons x l ih=>simp only [List.cons_append,cnt,ih]; lia
theorem Zep (a:α) (l:List α):cnt a l=l.count a:=by
 induction l with
 | nil=>rfl
 | cons x l ih =>
  simp only [cnt,ih,List.count_cons,one,beq_iff_eq]
  lia
theorem Gs {l r:List α} (h:∀ a,cnt a l=cnt a r):l.Perm r :=
 List.perm_iff_count.mpr fun a=>by rw [← Zep,← Zep]; exact h a
end
end
inductive LpI {σ:Type} (r:Zb3) (N:Nat) (At:Obj->Nat->Prop) (qj:Nat->σ->LH->Nat->Prop) (L:Obj->σ->LH->Nat->LC) (H:Heap) (t₀:Nat) (g₀:LK) (k:Nat):Shared->Prop
 | mk (i:Nat) (oi:Obj) (st:σ) (ys:LH) (ea:Nat) (h:Heap) (t:Nat) (g:LK):k=N - i->i<=N->At oi i->qj i st ys h.objs.size->Own H (L oi st ys ea) h->t₀<=t->Zq true g₀ g->LpI r N At qj L H t₀ g₀ k (r.at h ⟨t,g⟩)
structure Src (prog:Program) (w:World) (A:Around) (H:Heap) (r:Zb3) (it:Addr) (fix:LC) (N:Nat) (At:Obj->Nat->Prop) (vl:Nat->Value->Prop) (sz:Nat->Nat->Prop):Prop where
 next:∀ {i:Nat} {oi:Obj} {l:LC} {h:Heap} {t:Nat} {g:LK} {Q:Option Value->Shared->Prop} {E:LF},i < N->At oi i->(∀ p∈fix,p∈l)->Own H ((it,oi)::l) h ->
  (∀ oi' h' v t',At oi' (i+1)->vl i v->Own H ((it,oi')::l) h'->h'.objs.size=h.objs.size->t<=t'->Q (some v) (r.at h' ⟨t',g⟩))->wpAny (model prog w) A (pyNext (.ref it)) Q E (r.at h ⟨t,g⟩)
 done:∀ {oi:Obj} {l:LC} {h:Heap} {t:Nat} {g:LK} {Q:Option Value->Shared->Prop} {E:LF},At oi N->(∀ p∈fix,p∈l)->Own H ((it,oi)::l) h ->
  (∀ h',Own H l h'->sz h.objs.size h'.objs.size->Q none (r.at h' ⟨t,g⟩))->wpAny (model prog w) A (pyNext (.ref it)) Q E (r.at h ⟨t,g⟩)
theorem Zpc {xs:LH} (hh:A.handled=none) :
  Src prog w A H r it [(lst,Za xs ep)] xs.length (fun oi i=>Zgm oi lst i) (fun i v=>xs[i]?=some v) (fun n n'=>n'=n+2) where
 next:=fun hi hat hf O hQ=>Zc9 O hat (hf _ (.head _)) (Vp hi) fun h' oi' O' hi' hs=>hQ oi' h' _ _ hi' (Vp hi) O' hs (Y9 _)
 done:=fun hat hf O hQ=>Zll hh O hat (hf _ (.head _)) (Y9 _) fun h' O' hs=>hQ h' O' hs
noncomputable def Zcx (x left step:Int):Obj:={ cls:=.type "range_iterator",dict:=none,data:=.fields #[rawInt x,rawInt left,rawInt step],slots:=#[] }
theorem Zmb (a d:Int) (N:Nat) (hh:A.handled=none) :
  Src prog w A H r it [] N (fun oi i=>oi=Zcx (a+i * d) (N - i) d) (fun i v=>∃ u,v=.int (a+i * d) u) (fun n n'=>True) where
 next:=fun {i oi l h t g Q E} hi hat hf O hQ=>by
  subst hat
  have ho:=O.own (it,_) (.head _)
  refine wpAny_pyNext_range_item (s:=r.at h ⟨t,g⟩) ho (by lia) fun h' hit hs=>?_
  refine hQ _ h' _ (t+1) rfl ⟨_,rfl⟩ (O.same hs ?_) hs.1 (Nat.le_succ _)
  have e1:a+((i+1:Nat):Int) * d=a+(i:Int) * d+d:=by
   have:((i+1:Nat):Int) * d=(i:Int) * d+d:=by rw [Int.natCast_add,Int.add_mul]; simp
   lia
  have e2:(N:Int) - ((i+1:Nat):Int)=N - i - 1:=by lia
  rw [e1,e2]
  exact hit
 done:=fun {oi l h t g Q E} hat hf O hQ=>by
  subst hat
  have ho:=O.own (it,_) (.head _)
  exact wpAny_pyNext_range_end (s:=r.at h ⟨t,g⟩) hh ho (by lia) fun h' hs=>hQ h' (O.ext hs) trivial
noncomputable def Zcf (M:Model) (A:Around) (target:Expr) (ifs:List Expr) (elt:Expr) (qq:Env) (v:Value) (Q:Option Value->Shared->Prop) (E:LF) (s:Shared):Prop :=
 wpAny M A (assign target qq v) (fun _ s₂=>wpAny M A (forIn ifs true fun c r=>if r=true then do let ok ← isTrue c qq (eval c qq); pure (ForInStep.yield ok) else pure (ForInStep.yield r)) (fun ok s₃ =>
  if ok=true then wpAny M A (eval elt qq) (fun x s₄=>Q (some x) s₄) E s₃ else Q none s₃) E s₂) E s
theorem Zcf.plain {M:Model} {elt:Expr} {v:Value} {Q:Option Value->Shared->Prop}
  (h:wpAny M A (assign target qq v) (fun _ s₂=>wpAny M A (eval elt qq) (fun x s₄=>Q (some x) s₄) E s₂) E s):Zcf M A target [] elt qq v Q E s :=
 Jy h (fun _ _ q=>Yo q) fun _ _ q=>q
theorem Zcf.one {c elt:Expr} {v:Value} {Q:Option Value->Shared->Prop}
  (h:wpAny (model prog w) A (assign target qq v) (fun _ s₂=>wpAny (model prog w) A (isTrue c qq (eval c qq)) (fun ok s₃=>if ok=true then wpAny (model prog w) A (eval elt qq) (fun x s₄=>Q (some x) s₄) E s₃ else Q none s₃) E s₂) E s) :
  Zcf (model prog w) A target [c] elt qq v Q E s :=
 Jy h (fun _ _ q=>wpAny_tests_one q) fun _ _ q=>q
theorem push_listO' (qH:LH) (ep:Nat) (v:Value):∀ n,({ cls:=.type "list",data:=.seq ((⟨qH⟩:Array Value).push v) n }:Obj)=Za (qH++[v]) n:=fun n=>by simp [Za]
theorem Zoj {acc:Addr} {N:Nat} {At:Obj->Nat->Prop} {vl:Nat->Value->Prop} {sz:Nat->Nat->Prop} (S:Src prog w A H r it fix N At vl sz)
  {elt:Expr} {ifs:List Expr} (ht:∀ v,letOwnedTupleGo target (.ref it) v=pure ()) {σ:Type} (ob:σ->LC) (qj:Nat->σ->LH->Nat->Prop) {R:Result->Shared->Prop} (qT:∀ p∈fix,p∈l) {K:Nat} (hK:K<=sizeLine)
  (qk:∀ i st ys n,qj i st ys n->i < N->ys.length < K)
  (qP:∀ i v st ys n m h t g (Q:Option Value->Shared->Prop),i < N->vl i v->qj i st ys n->Own H (ob st++(l++m)) h->h.objs.size=n->t₀<=t->Zq true g₀ g ->
   (∀ o st' n' h' t' g',qj (i+1) st' (ys++o.toList) n'->Own H (ob st'++(l++m)) h'->h'.objs.size=n'->t<=t'->Zq true g g'->Q o (r.at h' ⟨t',g'⟩)) ->
   Zcf (model prog w) A target ifs elt qq v Q (notedBy (model prog w) A qq fun e s'=>R (.error e) s') (r.at h ⟨t,g⟩))
  (last:∀ st ys ea n n' h t g,qj N st ys n->sz n n'->Own H ((acc,Za ys ea)::(ob st++l)) h->h.objs.size=n'->t₀<=t->Zq true g₀ g->R (.ok .next) (r.at h ⟨t,g⟩))
  {oi:Obj} {st:σ} {ys:LH} (hat:At oi 0) (hI:qj 0 st ys h.objs.size) (O:Own H ((it,oi)::(acc,Za ys ea)::(ob st++l)) h) (qV:t₀<=t) (hg:Zq true g₀ g) :
  codeAny (model prog w) A (.compLoop (.ListComp elt [⟨target,iter,ifs,0⟩] scope pos) 0 (.ref it) (.ref acc) qq) R (r.at h ⟨t,g⟩):=by
 refine codeAny_compLoop_tests (fun k s=>LpI r (N) (At) (qj) (fun oi st ys ea=>(it,oi)::(acc,Za ys ea)::(ob st++l)) H t₀ g₀ k s) ?_ N
  (.mk 0 oi st ys ea h t g rfl (Pt _) hat hI (O) qV hg) ht
 rintro k s ⟨i,oi,st,ys,ea,h,t,g,rfl,hi,hat,hI,O,qV,hg⟩
 have hf:∀ p∈fix,p∈(acc,Za ys ea)::(ob st++l):=fun p hp=>.tail _ (N7 _ (qT p hp))
 by_cases qL:i < N
 ·refine S.next qL hat hf O fun oi' h1 v t1 hat1 hv O1 qU qK=>?_
  have O1':Own H (ob st++(l++[(it,oi'),(acc,Za ys ea)])) h1:=O1.perm (by
   refine Gs fun _=>?_
   simp only [Mq,Gn,Zc1]
   lia)
  refine qP i v st ys _ [(it,oi'),(acc,Za ys ea)] h1 t1 g _ qL hv hI O1' qU (by exact (Zn qV qK)) hg |> fun T=>Jy (T fun o st' n' h2 t2 g2 hI2 O2 qS qN hg2=>?_:Zcf _ _ _ _ _ _ _ (fun o s'=>match o with
    | some x=>wpAny (model prog w) A (call (.builtin "list.append") [.ref acc,x]) (fun _ s₅=>∃ m,m < N - i/\LpI r (N) (At) (qj) (fun oi st ys ea=>(it,oi)::(acc,Za ys ea)::(ob st++l)) H t₀ g₀ m s₅) (notedBy (model prog w) A qq fun e s'=>R (.error e) s') s'
    | none=>∃ m,m < N - i/\LpI r (N) (At) (qj) (fun oi st ys ea=>(it,oi)::(acc,Za ys ea)::(ob st++l)) H t₀ g₀ m s') _ _) (fun _ s2 q=>q) fun _ _ q=>q
  have gr:=gtr hg hg2
  cases o with
  | none =>
   refine ⟨N - (i+1),by lia,.mk (i+1) oi' st' ys ea h2 t2 g2 rfl qL hat1 ?_ (O2.perm ?_) (by exact (Zn qV (Zn qK qN))) gr⟩
   ·rw [qS]
    simpa using hI2
   ·exact pm [_,_] [_,_] 10519299 14729858
  | some x =>
   have Oa:(acc,Za ys ea)∈ob st'++(l++[(it,oi'),(acc,Za ys ea)]):=by simp
   refine wpAny_list_append_plain (s:=r.at h2 ⟨t2,g2⟩) (items:=⟨ys⟩) ⟨ea,O2.own _ Oa⟩ (fun h3 hp xz=>?_) (by
    have:=qk i st ys _ hI qL
    show ys.length<=sizeLine
    lia)
   obtain ⟨ea',hp⟩:=hp
   rw [push_listO' ys ea x ea'] at hp
   have O2':Own H ((acc,Za ys ea)::(it,oi')::(ob st'++l)) h2:=O2.perm (by
    refine Gs fun _=>?_
    simp only [Mq,Gn,Zc1]
    lia)
   have O3:Own H ((acc,Za (ys++[x]) ea')::(it,oi')::(ob st'++l)) h3:=O2'.same xz hp
   refine ⟨N - (i+1),by lia,.mk (i+1) oi' st' (ys++[x]) ea' h3 t2 g2 rfl qL hat1 ?_ (O3.perm (.swap _ _ _)) (by exact (Zn qV (Zn qK qN))) gr⟩
   rw [xz.1,qS]
   exact hI2
 ·have hiN:i=N:=by lia
  subst hiN
  exact S.done hat hf O fun h' O' hs=>last st ys ea _ _ h' t g hI hs O' rfl qV hg
structure Opn (prog:Program) (w:World) (A:Around) (H:Heap) (r:Zb3) (xv:Value) (fix:LC) (N:Nat) (vl:Nat->Value->Prop):Prop where
 opn:∀ {l:LC} {h:Heap} {t:Nat} {g:LK} {Q:LF} {E:LF},(∀ p∈fix,p∈l)->Own H l h ->
  (∀ (oi:Obj) (At:Obj->Nat->Prop),(∀ A':Around,A'.handled=none->Src prog w A' H r h.objs.size fix N At vl (fun _ _=>True))->At oi 0->oi.isFreed=false ->
   (∀ {l:LC} {h1:Heap} {t:Nat} {g:LK} {Q:LF} {E:LF},Own H ((h.objs.size,oi)::l) h1->Q (.ref h.objs.size) (r.at h1 ⟨t,g⟩)->wpAny (model prog w) A (pyIter (.ref h.objs.size)) Q E (r.at h1 ⟨t,g⟩)) ->
   Q (.ref h.objs.size) (r.at (h.push oi) ⟨t,g⟩))->wpAny (model prog w) A (pyIter xv) Q E (r.at h ⟨t,g⟩)
theorem Xu {xs:LH}:Opn prog w A H r (.ref lst) [(lst,Za xs ep)] xs.length (fun i v=>xs[i]?=some v) where
 opn:=fun {l h t g Q E} hf O hQ=>by
  have ho:=O.own _ (hf _ (.head _))
  refine wpAny_pyIter_list (s:=r.at h ⟨t,g⟩) (Yn ho) ?_
  refine hQ _ (fun oi i=>Zgm oi lst i) (fun A' hh=>?_) ⟨rfl,rfl⟩ rfl fun O1 hq=>?_
  ·have S:=Zpc (prog:=prog) (w:=w) (A:=A') (H:=H) (r:=r) (it:=h.objs.size) (lst:=lst) (xs:=xs) (ep:=ep) hh
   exact ⟨S.next,fun a b c d=>S.done a b c fun h' O' _=>d h' O' trivial⟩
  ·exact wpAny_pyIter_listiter (s:=r.at _ ⟨_,_⟩) (i:=0) (l:=lst) ⟨_,O1.own _ (.head _),rfl,rfl⟩ hq
noncomputable def Zy3 (x:Str) (tk:Nat) (o:Obj) (i:Nat):Prop:=o.cls=.type (strIterType x)/\o.data=.fields #[.str x tk,.int i 0]
theorem Zlj (us:List Nat) (tk:Nat):Opn prog w A H r (.str (S us) tk) [] us.length (fun i v=>∃ c u,us[i]?=some c/\v=.str (S [c]) u) where
 opn:=fun {l h t g Q E} hf O hQ=>by
  refine wpAny_pyIter_strU (s:=r.at h ⟨t,g⟩) ?_
  have cs:(S us).cps=us.toArray:=rfl
  have ty:strIterType (S us) = "str_ascii_iterator" ∨ strIterType (S us) = "str_iterator" := by
   unfold strIterType
   split
   ·exact .inl rfl
   ·exact .inr rfl
  refine hQ _ (Zy3 (S us) tk) (fun A' hh=>⟨fun {i oi l h1 t g Q E} hi hat hf O hQ=>?_,fun {oi l h1 t g Q E} hat hf O hQ=>?_⟩) ⟨rfl,rfl⟩ rfl fun {l h1 t g Q E} O1 hq=>?_
  ·have ho:=O.own _ (.head _)
   have hx:us[i]?=some us[i]:=Vp hi
   have hx':(S us).cps[i]?=some us[i]:=by rw [cs,Z21]; exact hx
   rcases ty with e | e
   ·unfold Zy3 at hat
    rw [e] at hat
    refine wpAny_pyNext_ascii_item (s:=r.at h1 ⟨t,g⟩) (x:=S us) (t:=tk) (i:=i) ⟨oi,ho,hat.1,hat.2⟩ hx' fun h' hit hs=>?_
    obtain ⟨o',ho',hc',hd'⟩:=hit
    exact hQ o' h' _ (t+1) ⟨hc'.trans (by rw [e]),hd'⟩ ⟨_,_,hx,rfl⟩ (O.same hs ho') hs.1 (Nat.le_succ _)
   ·unfold Zy3 at hat
    rw [e] at hat
    refine wpAny_pyNext_wide_item (s:=r.at h1 ⟨t,g⟩) (x:=S us) (t:=tk) (i:=i) ⟨oi,ho,hat.1,hat.2⟩ hx' fun h' hit hs=>?_
    obtain ⟨o',ho',hc',hd'⟩:=hit
    exact hQ o' h' _ (t+1) ⟨hc'.trans (by rw [e]),hd'⟩ ⟨_,_,hx,rfl⟩ (O.same hs ho') hs.1 (Nat.le_succ _)
  ·have ho:=O.own _ (.head _)
   have hx':(S us).cps[us.length]?=none:=by rw [cs,Z21]; exact Zjq (Y9 _)
   rcases ty with e | e
   ·unfold Zy3 at hat
    rw [e] at hat
    exact wpAny_pyNext_ascii_end (s:=r.at h1 ⟨t,g⟩) (x:=S us) (t:=tk) (i:=us.length) hh ⟨oi,ho,hat.1,hat.2⟩ hx' fun h' hs=>hQ h' (O.ext hs) trivial
   ·unfold Zy3 at hat
    rw [e] at hat
    exact wpAny_pyNext_wide_end (s:=r.at h1 ⟨t,g⟩) (x:=S us) (t:=tk) (i:=us.length) hh ⟨oi,ho,hat.1,hat.2⟩ hx' fun h' hs=>hQ h' (O.ext hs) trivial
  ·have ho:=O1.own _ (.head _)
   rcases ty with e | e
   ·rw [e] at ho
    exact wpAny_pyIter_striter_ascii (s:=r.at h1 ⟨t,g⟩) (x:=S us) (t:=tk) (i:=0) ⟨_,ho,rfl,rfl⟩ hq
   ·rw [e] at ho
    exact wpAny_pyIter_striter_wide (s:=r.at h1 ⟨t,g⟩) (x:=S us) (t:=tk) (i:=0) ⟨_,ho,rfl,rfl⟩ hq
noncomputable def Zyg (o:Obj):Prop:=∃ es ep,o.data=.dict es ep/\StrKeys es
theorem Z0z {a:Addr} {o:Obj} (e:h.get? a=some o) (n:Zyg o):∃ m,h.Ns a m:=by
 obtain ⟨es,ep,hd,hs⟩:=n
 exact ⟨_,o,es,ep,e,hd,hs,fun _=>rfl⟩
noncomputable def Xi:Obj:={ cls:=.type "dict",data:=.dict #[] 0 }
theorem J5 {M:Model} {C:Addr} {oC:Obj} (O:Own H ((C,oC)::l) h) (n:Zyg oC)
  (hQ:∀ h',Own H l h'->Q acc (r.at h' ⟨t,g⟩)):compPost M A E none Q acc C (.ok .next) (r.at h ⟨t,g⟩):=by
 obtain ⟨m,hm⟩:=Z0z (O.own _ (.head _)) n
 exact ⟨m,hm,fun h' hs=>hQ h' (O.ext hs.extBut)⟩
theorem Zay {M:Model} {gl:Addr} {cl:List (Str×Addr)} {qual:Str} {Q:Env->Shared->Prop} (hc:∀ x∈scope.names,x.2≠.cell)
  (hQ:Q { scope:=scope,locals:=s.heap.objs.size,globals:=gl,cells:=cl,qual:=qual,func:=none,code:=qq.code,frame:=qq.frame,builtins:=qq.builtins } { s with heap:=s.heap.push Xi }):wpAny M A (newFunctionEnv scope gl cl [] qual none .none (some qq)) Q E s:=by
 simp only [newFunctionEnv,Option.isSome_some,if_true]
 refine Zi (wpAny_alloc ?_)
 rw [forIn_yield_id cl (fun x hx c=>by
  obtain ⟨name,kind⟩:=x
  have:(kind==NameKind.cell)=false:=by simpa using hc _ hx
  simp only [this,Q3q,if_false])]
 refine Zi (Yo (Zi ?_))
 rw [List.forIn_nil]
 exact Yo (Yo hQ)
noncomputable def Vn (prog:Program) (w:World) (A:Around) (e:Expr) (scope:Scope) (cl:List (Str×Addr)) (qq:Env) (use:Option (Value->Sem Unit)) (Q:LF) (E:LF) (x:Value) (s₁:Shared):Prop :=
 wpAny (model prog w) A (pyIter x) (fun it s₂=>wpAny (model prog w) A (newList []) (fun acc s₃ =>
   wpAny (model prog w) A (newFunctionEnv scope qq.globals cl [] qq.qual none .none (some qq)) (fun cenv s₄ =>
    codeAny (model prog w) A (.compStart e 0 it acc { cenv with scope:=relabel scope qq }) (compPost (model prog w) A E use Q acc cenv.locals) s₄) E s₃) E s₂) E s₁
theorem J8 {e:Expr} {cs:List Comprehension} {g0:Comprehension} {cl:List (Str×Addr)} {use:Option (Value->Sem Unit)}
  (hc:clausesOf e=g0::cs) (hs:∀ x,foldedSetIterable g0.iter qq x=pure x) (hclos:closureFor scope qq=pure cl) (hkind:scope.kind=.function) (hnames:∀ y∈scope.names,y.2=.local->scope.names.lookup y.1=some .local)
  (xx:wpAny (model prog w) A (eval g0.iter qq) (Vn prog w A e scope cl qq use Q E) E s) :
  wpAny (model prog w) A (comprehension e scope qq pos (newList []) false (eval g0.iter qq) use) Q E s :=
 wpAny_comprehension_free hc hs hclos hkind hnames xx
theorem Mj (hh:A.handled=none) {N:Nat} {vl:Nat->Value->Prop} (OP:Opn prog w A H r xv fix N vl)
  {elt:Expr} {ifs:List Expr} {cl:List (Str×Addr)} {use:Option (Value->Sem Unit)} {Q:LF} {E:LF}
  (hcell:∀ y∈scope.names,y.2≠.cell)
  (ht:∀ I v,letOwnedTupleGo target (.ref I) v=pure ())
  {σ:Type} (dO:σ->Obj) (mid:σ->LC) (qj:Nat->σ->LH->Prop) (qT:∀ p∈fix,p∈l) {K:Nat} (hK:K<=sizeLine)
  (qk:∀ i st ys,qj i st ys->i < N->ys.length < K)
  (qP:∀ C i v st ys m h t g (Q:Option Value->Shared->Prop) (E:LF),i < N->vl i v->qj i st ys->Own H ((C,dO st)::(mid st++(l++m))) h->t₀<=t->Zq true g₀ g ->
   (∀ o st' h' t' g',qj (i+1) st' (ys++o.toList)->Own H ((C,dO st')::(mid st'++(l++m))) h'->t<=t'->Zq true g g'->Q o (r.at h' ⟨t',g'⟩)) ->
   Zcf (model prog w) A target ifs elt (compEnvC scope cl C qq) v Q E (r.at h ⟨t,g⟩))
  (last:∀ C acc st ys ea h t g,qj N st ys->Own H ((C,dO st)::(acc,Za ys ea)::(mid st++l)) h->t₀<=t->Zq true g₀ g->compPost (model prog w) A E use Q (.ref acc) C (.ok .next) (r.at h ⟨t,g⟩))
  {st:σ} (hd:dO st=Xi) (hI:qj 0 st []) (O:Own H (mid st++l) h) (qV:t₀<=t) (xA:Zq true g₀ g) :
  Vn prog w A (.ListComp elt [⟨target,iter,ifs,0⟩] scope pos) scope cl qq use Q E xv (r.at h ⟨t,g⟩):=by
 unfold Vn
 have hf1:∀ p∈fix,p∈mid st++l:=fun p hp=>N7 _ (qT p hp)
 refine OP.opn hf1 O fun oi At S hat hfr self=>?_
 have O1:=O.push oi hfr
 generalize h.push oi=h1 at O1
 generalize h.objs.size=I at O1 S self
 have O3:=(O1.push (Za [] 0) rfl).push Xi rfl
 refine Zyo (s:=r.at h1 ⟨t,g⟩) (T := "list") (Zay hcell ?_)
 show codeAny _ A (.compStart (.ListComp elt [⟨target,iter,ifs,0⟩] scope pos) 0 (.ref I) (.ref h1.objs.size) (compEnvC scope cl (h1.push (Za [] 0)).objs.size qq)) (compPost (model prog w) A E use Q (.ref h1.objs.size) (h1.push (Za [] 0)).objs.size) (r.at ((h1.push (Za [] 0)).push Xi) ⟨t,g⟩)
 generalize (h1.push (Za [] 0)).objs.size=C at O3 ⊢
 generalize (h1.push (Za [] 0)).push Xi=h3 at O3 ⊢
 generalize h1.objs.size=acc at O3 ⊢
 have loop:codeAny (model prog w) A (.compLoop (.ListComp elt [⟨target,iter,ifs,0⟩] scope pos) 0 (.ref I) (.ref acc) (compEnvC scope cl C qq)) (compPost (model prog w) A E use Q (.ref acc) C) (r.at h3 ⟨t,g⟩):=by
  refine Zoj (S A hh) (ht I) (fun st=>(C,dO st)::mid st) (fun i st ys _=>qj i st ys) qT hK (fun i st ys n hI hi=>qk i st ys hI hi) (t₀:=t₀) (g₀:=g₀) (fun i v st ys n m h t g Q hi hv hI O qE ht hg hQ=>?_) (fun st ys ea n n' h t g hI _ O qE ht hg=>?_) (st:=st) (ea:=0) hat hI (O3.perm ?_) qV xA
  ·exact qP _ i v st ys m h t g Q _ hi hv hI O ht hg fun o st' h' t' g' hI' O' ht' hg'=>hQ o st' h'.objs.size h' t' g' hI' O' rfl ht' hg'
  ·exact last _ _ st ys ea h t g hI (O.perm (by exact pm [_,_] [_,_] 1887518850 14729477)) ht hg
  ·rw [hd]
   exact pm [_,_,_] [_,_] 1885471362 241596121736
 exact codeAny_compStart_list loop (self (l:=(C,Xi)::(acc,Za [] 0)::(mid st++l)) (O3.perm (by exact pm [_,_,_] [_,_] 1885471362 1885421832)) loop)
theorem Z40 (hh:A.handled=none) {N:Nat} {vl:Nat->Value->Prop} (OP:Opn prog w A H r xv fix N vl)
  {elt:Expr} {ifs:List Expr} {cl:List (Str×Addr)} {pos':Pos} {use:Option (Value->Sem Unit)} {Q:LF} {E:LF}
  (hs:∀ x,foldedSetIterable iter qq x=pure x) (hclos:closureFor scope qq=pure cl) (hcell:∀ y∈scope.names,y.2≠.cell) (hkind:scope.kind=.function) (hnames:∀ y∈scope.names,y.2=.local->scope.names.lookup y.1=some .local)
  (ht:∀ I v,letOwnedTupleGo target (.ref I) v=pure ())
  {σ:Type} (dO:σ->Obj) (mid:σ->LC) (qj:Nat->σ->LH->Prop) (qT:∀ p∈fix,p∈l) {K:Nat} (hK:K<=sizeLine)
  (qk:∀ i st ys,qj i st ys->i < N->ys.length < K)
  (qP:∀ C i v st ys m h t g (Q:Option Value->Shared->Prop) (E:LF),i < N->vl i v->qj i st ys->Own H ((C,dO st)::(mid st++(l++m))) h->t₀<=t->Zq true g₀ g ->
   (∀ o st' h' t' g',qj (i+1) st' (ys++o.toList)->Own H ((C,dO st')::(mid st'++(l++m))) h'->t<=t'->Zq true g g'->Q o (r.at h' ⟨t',g'⟩)) ->
   Zcf (model prog w) A target ifs elt (compEnvC scope cl C qq) v Q E (r.at h ⟨t,g⟩))
  (last:∀ C acc st ys ea h t g,qj N st ys->Own H ((C,dO st)::(acc,Za ys ea)::(mid st++l)) h->t₀<=t->Zq true g₀ g->compPost (model prog w) A E use Q (.ref acc) C (.ok .next) (r.at h ⟨t,g⟩))
  {st:σ} (hd:dO st=Xi) (hI:qj 0 st [])
  (xx:wpAny (model prog w) A (eval iter qq) (fun x s₁=>∃ h t g,x=xv/\s₁=r.at h ⟨t,g⟩/\Own H (mid st++l) h/\t₀<=t/\Zq true g₀ g) E s) :
  wpAny (model prog w) A (comprehension (.ListComp elt [⟨target,iter,ifs,0⟩] scope pos) scope qq pos' (newList []) false (eval iter qq) use) Q E s:=by
 refine wpAny_comprehension_free rfl hs hclos hkind hnames (Jy xx (fun x s₁ h₁=>?_) fun _ _ e=>e)
 obtain ⟨h,t,g,rfl,rfl,O,qV,xA⟩:=h₁
 exact Mj hh OP hcell ht dO mid qj qT hK qk qP last hd hI O qV xA
theorem Z63 {it lst st:Nat} {l:List Int} {tk:LM} (T0:Int) (tT es:Nat) (sg:Int) (n t:Nat) (hs:sg=0∨sg=2) :
  Z6 T prog w n t (Z07 it lst st (Jh l tk) ep 0 T0 (T0+Zg9 l) tT es sg):=by
 refine ⟨fun H h r g A R G hA O hn hR=>?_⟩
 refine Zre (l:=l) (tk:=tk) hA.hand l 0 rfl (Pt _) T0 tT es sg (Ge lst 0) h t hs ⟨rfl,rfl⟩ (O.perm (.cons _ (.swap _ _ _))) fun h' t' u O' qE ht=>?_
 have qA:=hR ⟨fun j=>match j with | 0=>2 | 1=>t' - t | _=>u,fun _=>#[],fun _ _ _=>0,Ext.nil.ob⟩ h' g O' (by rw [qE,hn]; rfl) (Zq.refl _ _)
 have et:t+(t' - t)=t':=by lia
 change R (.ok (.ret (.int (T0+Zg9 l) u))) (r.at h' ⟨t+(t' - t),g⟩) at qA
 rw [et] at qA
 exact qA
theorem Z6v (lst:Nat) (l:List Int) (tk:LM) (ep n t:Nat):CQ prog w b n t fun b=>Zxt lst (Jh l tk) ep (Zg9 l):=by
 have e:(0:Int)+Zg9 l=Zg9 l:=Int.zero_add _
 exact ckm (cons:=[Z19 lst (Jh l tk) ep (Zg9 l)]) (Zb (fun n' t' c l' bb=>e▸Z63 0 _ _ _ n' t' (Z2x _)) Zd) [0] (Yt 16 14 0x213110101100) (fun _ r _ _=>exN fun _=>Z5t r) 4
noncomputable abbrev Zs:Expr->Env->Value->Sem Unit:=W.ZFast.zw17772580674575903948
theorem Ziq:Zs=@assign:=W.ZFast.ze17772580674575903948.symm
noncomputable def Znc (o:Option (Addr×Obj)):Addr:=match o with
 | some p=>match p with | (a,_)=>a
 | none=>0
noncomputable def xV (w:Hs) (nm:String):LI->Obj
 | none=>{ cls:=.type "dict",data:=.dict #[] 0 }
 | some u=>{ cls:=.type "dict",data:=.dict #[ent w nm u.1 u.2] 1 }
theorem Zey (w:Hs) (nm:String) (o:LI):Zyg (xV w nm o):=by
 cases o with
 | none=>exact ⟨_,_,rfl,fun e he=>by simp at he⟩
 | some u=>exact ⟨_,_,rfl,fun e he=>by
   simp only [List.mem_toArray,X6,Zfp,Zfe] at he
   subst he; exact ⟨_,_,rfl⟩⟩
noncomputable def Zc (e:Expr):Scope:=(vE e).2.2.1
noncomputable def Zh (e:Expr):Expr:=N9 (vE e).1 0
noncomputable def Ye (e:Expr):Pos:=(vE e).2.1
noncomputable def Zwk (e:Expr) (k:Nat):Comprehension:=match (vE e).2.2.2.1.drop k with
 | g::_=>g
 | []=>⟨.Name "" default,.Name "" default,[],0⟩
noncomputable def Zf (e:Expr) (k:Nat):Expr:=match Zwk e k with | ⟨t,_,_,_⟩=>t
noncomputable def Ze (e:Expr) (k:Nat):Expr:=match Zwk e k with | ⟨_,i,_,_⟩=>i
noncomputable def Zdh (e:Expr) (k:Nat):List Expr:=match Zwk e k with | ⟨_,_,l,_⟩=>l
noncomputable def Zh7 (e:Expr):Expr:=N9 (vE e).1 0
noncomputable def Pk (e:Expr) (k:Nat):Expr:=N9 (vE e).1 (k+1)
noncomputable def Yv (e:Expr):Pos:=(vE e).2.1
noncomputable def Zoh (e:Expr) (k:Nat):Expr:=N9 (vE e).1 k
noncomputable def Zvi (e:Expr):Expr:=N9 (vE e).1 0
noncomputable def Zyf (e:Expr):Expr:=N9 (vE e).1 1
noncomputable def Z7s (e:Expr) (k:Nat):Expr:=N9 (vE e).1 k
noncomputable def Zo (e:Expr) (k:Nat):Expr:=N9 (vE e).1 (k+1)
noncomputable def Zk (e:Expr):Expr:=N9 (vE e).1 0
noncomputable def M6 (s:Stmt):Expr:=N9 (vS s).1 0
noncomputable def Y5 (s:Stmt):Pos:=(vS s).2.2.2
noncomputable def V3 (s:Stmt) (k:Nat):Stmt:=Ul (vS s).2.1 k
noncomputable def Zjb (s:Stmt):Expr:=N9 (vS s).1 0
noncomputable def Y0 (s:Stmt):Expr:=N9 (vS s).1 1
noncomputable def x2V (w:Hs) (n1 n2:String):Option (Nat×Value×LI)->Obj
 | none=>{ cls:=.type "dict",data:=.dict #[] 0 }
 | some (t1,v1,none)=>{ cls:=.type "dict",data:=.dict #[ent w n1 t1 v1] 1 }
 | some (t1,v1,some (t2,v2))=>{ cls:=.type "dict",data:=.dict #[ent w n1 t1 v1,ent w n2 t2 v2] 2 }
theorem Zbw (w:Hs) (n1 n2:String) (o:Option (Nat×Value×LI)):Zyg (x2V w n1 n2 o):=by
 rcases o with _ | ⟨t1,v1,_ | ⟨t2,v2⟩⟩
 ·exact ⟨_,_,rfl,fun e he=>by simp at he⟩
 ·exact ⟨_,_,rfl,fun e he=>by
   simp only [List.mem_toArray,X6,Zfp,Zfe] at he
   subst he; exact ⟨_,_,rfl⟩⟩
 ·exact ⟨_,_,rfl,fun e he=>by
   simp only [List.mem_toArray,X6,Zfp,Zfe] at he
   rcases he with rfl | rfl<;>exact ⟨_,_,rfl⟩⟩
noncomputable def Nm (a n:Nat) (j:Nat):Addr:=Z0v (n+24) [n+1,a+15,n+7,a+23,n+9,n+20,n+21,n+22,n+24,n+24,n+24,a+10,a+11,a+12,a+13,a+14,a+18,a+19,a+20,a+21,a+22,n+8,n+6,n+11,n+13,n+15,n+17,n+18,n+2,n+24,a+31,a+39,a+47,a+55,a+26,a+27,a+28,a+29,a+30,n+10,a+34,a+35,a+36,a+37,a+38,n+12,a+42,a+43,a+44,a+45,a+46,n+14,a+50,a+51,a+52,a+53,a+54,n+16] j
noncomputable def Xm (a:LN) (k:LM):LC:=[
 (a 1,kCd k 50 "__init__" "cmp_to_key.<locals>.K.__init__" 13 2 19 (a 11) (a 12) (a 13) (a 14) (a 15)),
 (a 3,kCd k 60 "__lt__" "cmp_to_key.<locals>.K.__lt__" 16 2 19 (a 16) (a 17) (a 18) (a 19) (a 20)),
 (a 30,kCd k 70 "__gt__" "cmp_to_key.<locals>.K.__gt__" 19 2 19 (a 34) (a 35) (a 36) (a 37) (a 38)),
 (a 31,kCd k 90 "__eq__" "cmp_to_key.<locals>.K.__eq__" 22 2 19 (a 40) (a 41) (a 42) (a 43) (a 44)),
 (a 32,kCd k 100 "__le__" "cmp_to_key.<locals>.K.__le__" 25 2 19 (a 46) (a 47) (a 48) (a 49) (a 50)),
 (a 33,kCd k 110 "__ge__" "cmp_to_key.<locals>.K.__ge__" 28 2 19 (a 52) (a 53) (a 54) (a 55) (a 56))]
noncomputable def Ze6 (w:Hs) (top:LE) (a:LN) (k:LM):LC:=[
 (a 0,{ cls:=.type "cell",data:=.cell (some (.ref 787)) }),
 (a 2,kFn (kFd (Ul (Zu (Zl (Z7 top 51) 0)) 2) "__init__" "cmp_to_key.<locals>.K.__init__" [] (.ref (a 1)) .none)),
 (a 4,kFn (kFd (Ul (Zu (Zl (Z7 top 51) 0)) 3) "__lt__" "cmp_to_key.<locals>.K.__lt__" [("mycmp",a 0)] (.ref (a 3)) (.ref (a 21)))),
 (a 5,Zj2 w a k),
 (a 6,Mo a k),
 (a 7,Zit a k),
 (a 23,kFn (kFd (Ul (Zu (Zl (Z7 top 51) 0)) 4) "__gt__" "cmp_to_key.<locals>.K.__gt__" [("mycmp",a 0)] (.ref (a 30)) (.ref (a 39)))),
 (a 24,kFn (kFd (Ul (Zu (Zl (Z7 top 51) 0)) 5) "__eq__" "cmp_to_key.<locals>.K.__eq__" [("mycmp",a 0)] (.ref (a 31)) (.ref (a 45)))),
 (a 25,kFn (kFd (Ul (Zu (Zl (Z7 top 51) 0)) 6) "__le__" "cmp_to_key.<locals>.K.__le__" [("mycmp",a 0)] (.ref (a 32)) (.ref (a 51)))),
 (a 26,kFn (kFd (Ul (Zu (Zl (Z7 top 51) 0)) 7) "__ge__" "cmp_to_key.<locals>.K.__ge__" [("mycmp",a 0)] (.ref (a 33)) (.ref (a 57))))]
noncomputable def Znj (R y:LM) (j:Nat):Nat:=bif Nat.ble 50 j then (bif Nat.beq j 80 then y j else R j) else y j
noncomputable def Zmn (a n:Nat) (top:LE):Env:={ scope:=Yl (ckS top),locals:=(n+4),globals:=3,cells:=[("mycmp",(n+1))],qual:=Jp ++ ".",code:=.ref (a+7),frame:=some (n+5),builtins:=0 }
noncomputable def Z5y (a n:Nat) (u:Nat):Obj:={ cls:=.type "frame",slots:=#[some (.ref (a+7)),some (.ref 3),some (.ref (n+4)),none,some (.str "law_ij0140_01" u),none,some (.ref 0)] }
noncomputable def Z1i (a n:Nat) (x:LM) (top:LE) (cc:Env->Pos->Nat->Str->Str->Scope->Sem Value):Zx Value where
 pre:=(46,Yp a)::Ys a x
 post _:=(46,Yp a)::Ys a x
 fresh x:=[]
 tree:=cc (X3 n top) (Mz (ckS top)) 9 (Zft (ckS top)) Jp (Yl (ckS top))
 res _:=.ok (.ref (a+7))
 need:=20
 fr:=none
 made _:=0
noncomputable def Z8a (a n:Nat) (nf:Value->Addr->Addr->Addr->Sem Addr):Zx Addr where
 pre:=[]
 post _:=[]
 fresh x:=[((n+5),Z5y a n (x.nat 2))]
 tree:=nf (.ref (a+7)) 3 (n+4) 0
 res _:=.ok (n+5)
 need:=20
 fr:=none
 made _:=1
noncomputable def Z4d (a n:Nat) (w:Hs) (top:LE) (sn:Env->Str->Value->Sem Unit) (ln:Env->Str->Sem Value) (mt:Str->Sem Value) (mi:Int->Sem Value) (ntt:LH->Sem Value) (lv:Env->Value->Sem Unit) (nm:Str) (u:Nat) (x R:LM) (uf:Nat):Zx Value where
 pre:=[((n+1),{ cls:=.type "cell",data:=.cell (some (.ref 787)) }),((n+2),Jm),((n+4),Vh),((n+5),Z5y a n uf)]++(Ys a x++Xm (adK a) R)
 post _:=Ys a x++Xm (adK a) R
 fresh x:=Ze6 w top (Nm a n) (fun k=>x.nat (k+2))
 tree:=Pn n sn ln mt mi ntt lv Jp 9 (V8 (ckS top)) (Zu (ckS top)) (Zmn a n top) (.str nm u)
 res _:=.ok (.ref (n+21))
 need:=50
 fr:=none
 made _:=19
noncomputable def Z1u (n:Nat) (w:Hs) (top:LE) (bn:Env->Str->Value->Sem Unit):Zx Unit where
 pre:=[(n,Z3j)]
 post x:=[(n,Zny #[ent w "K" (x.nat 2) (.ref (n+21))] 1)]
 fresh x:=[]
 tree:=bn (X3 n top) (Ps (ckS top)) (.ref (n+21))
 res _:=.ok ()
 need:=20
 fr:=none
 made _:=0
noncomputable def Z2k (n:Nat) (w:Hs) (top:LE) (exs:List Stmt->Env->Sem Flow) (u:Nat):Zx Flow where
 pre:=[(n,Zny #[ent w "K" u (.ref (n+21))] 1)]
 post x:=[(n,Zny #[ent w "K" u (.ref (n+21))] 1)]
 fresh x:=[]
 tree:=exs [Zl (Z7 top 51) 1] (X3 n top)
 res _:=.ok (.ret (.ref (n+21)))
 need:=20
 fr:=none
 made _:=0
noncomputable def kTk2 (l:LA) (k:Nat):Nat:=match k with
 | 20=>Zec (Z2 l 4) 2
 | 21=>Zec (Z2 l 4) 3
 | 22=>Nb [some (0,Z2 l 3)] 0 0
 | 23=>Za8 [some (0,Z2 l 3)] 0 0
 | 24=>Nb [some (0,Z2 l 3)] 0 1
 | 25=>Za8 [some (0,Z2 l 3)] 0 1
 | 80=>Zsh (Z2 l 5) 0
 | k=>Nb [some (0,Z2 l 3)] 0 (k - 24)
noncomputable def Zzm (_:LL) (l:LA) (_:LB):Ext:=exN (kTk2 l)
noncomputable def Yax (_:Nat->Ext) (_:Result) (_:LA) (_:LB):Ext:=Ext.nil
section
open PySem PySem.W PySem.W.X PySem.Calls PyProof.Rows Builtin Builtin.ObjectAttr Builtin.Getset_descriptor
section
theorem Zs1 {M:Model} {a:LN} {k:LM} (o6:h.get? (a 6)=some (Mo a k)):PySem.W.Looks M h (isSubtype (.ref (a 6)) (.ref (a 6))) true:=by
 intro A Q E s kp q
 unfold isSubtype mroOf classData
 refine Zi (Zi (Zi (Znz (kp _ _ o6) (Yo (Yo ?_)))))
 show wpAny _ _ (if ([Value.ref (a 6),.type "object"]:LH).isEmpty=true then _ else _) _ _ _
 rw [if_neg (by exact Q4q)]
 refine Yo ?_
 rw [List.contains_cons,beq_self_eq_true,Bool.true_or]
 exact q
theorem Zy2 (a:LN) (k:LM) (x d:Addr) (W:List Nat) (tt n t:Nat):Z6 T2 prog w n t (Z0c a k x d W tt):=by
 refine ⟨fun H hh r g A R G hA O hs hR=>?_⟩
 have hx:hh.get? x=some (kIn (a 6) d W tt):=O.own (x,kIn (a 6) d W tt) (.head _)
 have o6:hh.get? (a 6)=some (Mo a k):=O.own (a 6,Mo a k) (.tail _ (.head _))
 have ho:hh.get? (a 7)=some (Zit a k):=O.own (a 7,Zit a k) (.tail _ (.tail _ (.head _)))
 have L0:PySem.W.Looks (model prog w) hh (typeOf (.ref x)) (.ref (a 6)):=(Zxo hx).andThen .now
 have L1:=Zs1 (M:=model prog w) o6
 have L2:PySem.W.Looks (model prog w) hh (Slots.slotNamesOf (.ref (a 6))) ["obj"]:=by
  intro A Q E s kp q
  unfold Slots.slotNamesOf classData
  exact Zi (Zi (Znz (kp _ _ o6) (Yo (Yo q))))
 have f0:=Zjz (M:=model prog w) ho 0 (v:=.str "obj" (k 80)) rfl
 have f1:=Zjz (M:=model prog w) ho 1 (v:=.ref (a 6)) rfl
 have f2:=Zjz (M:=model prog w) ho 2 (v:=.builtin "proto.slot") rfl
 have f4:=Zjz (M:=model prog w) ho 4 (v:=.int 0 0) rfl
 refine M3 KF.entry_mem ?_
 unfold Builtin.«member_descriptor.__get__» descrGet
 rw [dga_obj]
 refine Zi (Yo ?_)
 unfold descrGetter descrCheckInstance descrNameAndClass isInstance
 repeat lk
 refine ⟨Code.quiet_builtin _ (by decide +kernel),M3 KF.entry_slot ?_⟩
 unfold Builtin.«proto.slot» Slots.target
 repeat lk
 exact hR ⟨fun _=>0,fun _=>#[],fun _ _ _=>0,Ext.nil.ob⟩ hh g O hs (Zq.refl _ _)
theorem Z88 (a:LN) (k:LM) (x d:Addr) (W:List Nat) (tt n t:Nat):Z6 T2 prog w n t (Z0f a k x d W tt):=by
 refine ⟨fun H hh r g A R G hA O hs hR=>?_⟩
 have hx:hh.get? x=some { cls:=.ref (a 6),dict:=some d,data:=.plain }:=O.own (x,{ cls:=.ref (a 6),dict:=some d,data:=.plain }) (.head _)
 have o6:hh.get? (a 6)=some (Mo a k):=O.own (a 6,Mo a k) (.tail _ (.head _))
 have ho:hh.get? (a 7)=some (Zit a k):=O.own (a 7,Zit a k) (.tail _ (.tail _ (.head _)))
 have L0:PySem.W.Looks (model prog w) hh (typeOf (.ref x)) (.ref (a 6)):=(Zxo hx).andThen .now
 have L1:=Zs1 (M:=model prog w) o6
 have L2:PySem.W.Looks (model prog w) hh (Slots.slotNamesOf (.ref (a 6))) ["obj"]:=by
  intro A Q E s kp q
  unfold Slots.slotNamesOf classData
  exact Zi (Zi (Znz (kp _ _ o6) (Yo (Yo q))))
 have f0:=Zjz (M:=model prog w) ho 0 (v:=.str "obj" (k 80)) rfl
 have f1:=Zjz (M:=model prog w) ho 1 (v:=.ref (a 6)) rfl
 have f3:=Zjz (M:=model prog w) ho 3 (v:=.builtin "proto.slot#set") rfl
 have f4:=Zjz (M:=model prog w) ho 4 (v:=.int 0 0) rfl
 refine M3 KF.entry_mset ?_
 unfold Builtin.«member_descriptor.__set__» descrSet descrStoreThrough descrCheckInstance descrNameAndClass isInstance
 have f5:PySem.W.Looks (model prog w) hh (descrItself (.ref (a 7))) [.ref (a 7)]:=((Zxo (part:=none) ho).andThen .now).andThen (Looks.of_pure (by kernel_rfl))
 repeat lk
 refine ⟨Code.quiet_builtin _ (by decide +kernel),M3 KF.entry_slotset ?_⟩
 unfold Builtin.«proto.slot#set» Slots.target
 repeat lk
 have O1:Own H ((x,{ cls:=.ref (a 6),dict:=some d,data:=.plain })::[(a 6,Mo a k),(a 7,Zit a k)]) hh:=O
 have O2:=Own.update O1 (fun o=>{ o with slots:=(o.slots++Array.replicate (0+1 - o.slots.size) none).setIfInBounds 0 (some (.str (S W) tt)) }) rfl
 refine wpAny_updatePart hx (Yo ?_)
 exact hR ⟨fun _=>0,fun _=>#[],fun _ _ _=>0,Ext.nil.ob⟩ _ g O2 (by show (hh.objs.modify _ _).size=n; rw [Array.size_modify]; exact hs) (Zq.refl _ _)
end
end
section
open PySem PySem.W PySem.W.X PySem.Calls PyProof.Rows
section
noncomputable def Nf (hs:Hs) (a:LN) (k:LM):Frag:=[(a 6,Mo a k),(a 5,Zj2 hs a k)]
theorem kf6 (hs:Hs) (a:LN) (k:LM):(Nf hs a k).lookup (a 6)=some (Mo a k):=by simp [Nf,List.lookup]
theorem kf5 (hs:Hs) (a:LN) (k:LM) (qY:a 5≠a 6):(Nf hs a k).lookup (a 5)=some (Zj2 hs a k):=by
 have e:(a 5==a 6)=false:=Znu qY
 simp [Nf,List.lookup,e]
theorem Z9n {hs:Hs} {a:LN} {k:LM} (h6:h.get? (a 6)=some (Mo a k)) (h5:h.get? (a 5)=some (Zj2 hs a k)):(Nf hs a k).In h:=fun p o e=>by
 unfold Nf at e
 rw [List.lookup_cons] at e
 cases q:(p==a 6) with
 | true =>
  rw [q] at e
  cases e
  rw [eq_of_beq q]; exact h6
 | false =>
  rw [q] at e
  dsimp only at e
  rw [List.lookup_cons] at e
  cases q:(p==a 5) with
  | true =>
   rw [q] at e
   cases e
   rw [eq_of_beq q]; exact h5
  | false=>rw [q] at e; cases e
theorem Z2r (hs:Hs) (a:LN) (k:LM) (qY:a 5≠a 6):findIn (Nf hs a k) (.ref (a 6)) "__init__" = some (some (.ref (a 2))):=by
 have e6:=kf6 hs a k
 have e5:=kf5 hs a k qY
 unfold findIn
 dsimp only
 rw [e6]
 show alongIn (Nf hs a k) "__init__" [.ref (a 6),.type "object"]=_
 have eo:ownIn (Nf hs a k) "__init__" (.ref (a 6))=some (some (.ref (a 2))):=by
  unfold ownIn
  dsimp only
  rw [e6]
  show nsIn (Nf hs a k) (a 5) "__init__" = _
  unfold nsIn
  rw [e5]
  kernel_rfl
 unfold alongIn
 rw [eo]
theorem Zv6 (hs:Hs) (a:LN) (k:LM):makesIn (Nf hs a k) (a 6)=true:=by
 have e6:=kf6 hs a k
 have e1:([Value.ref (a 6),.type "object"]:LH).contains (.ref (a 6))=true:=by rw [List.contains_cons,beq_self_eq_true,Bool.true_or]
 have e2:specialIn (Nf hs a k) (.ref (a 6)) "__call__" = some (some (.builtin "type.__call__")):=by
  unfold specialIn typeIn
  dsimp only
  rw [e6]
  kernel_rfl
 have e3:instIn (Nf hs a k) (.ref (a 6)) (.type "type")=some true:=by
  unfold instIn typeIn
  dsimp only
  rw [e6]
  kernel_rfl
 unfold makesIn
 rw [e6]
 show (true&&true&&true&&true&&([Value.ref (a 6),.type "object"]:LH).contains (.ref (a 6))&&_&&(specialIn (Nf hs a k) (.ref (a 6)) "__call__" == some (some (.builtin "type.__call__")))&&(instIn (Nf hs a k) (.ref (a 6)) (.type "type")==some true))=true
 rw [e1,e2,e3]
 kernel_rfl
theorem Z6r (a:LN) (k:LM) (x d:Addr) (W:List Nat) (tt n t:Nat):CQ prog w b n t fun b=>inC (HZ w b) (TZ w b) a k x d W tt :=
 ckx (cons:=[Z9t a k W]) (Zb (fun n' t' c l bb=>Z88 a k _ _ W _ n' t') Zd) [0,4,5,6,7,8,9,1,2,10,11,12,13,14,15,16,17] (Yt 16 33 0x98131a0aa89929209208992111111340) Yax
theorem Zma (a:LN) (k:LM) (W:List Nat) (tt n t:Nat):Z6 T2 prog (wb w b) n t (kyC (HZ w b) (TZ w b) a k W tt n t):=by
 refine ⟨fun H h r g A R G hA O hs hR=>?_⟩
 have O:Own H (Z1 (HZ w b) (TZ w b) a k) h:=O.perm (List.Perm.of_eq (Gf _))
 have h5:h.get? (a 5)=some (Zj2 (HZ w b) a k):=O.own (a 5,Zj2 (HZ w b) a k) (by unfold Z1; simp)
 have h6:h.get? (a 6)=some (Mo a k):=O.own (a 6,Mo a k) (by unfold Z1; simp)
 have qY:a 5≠a 6:=by
  have nd:=O.nodup
  unfold Z1 at nd
  simp only [Zcq,List.map_nil,Zek,X6,Zfp,Zfe,not_or] at nd
  exact nd.2.2.2.2.2.1.1
 obtain ⟨fd,o2⟩:∃ fd,h.get? (a 2)=some (kFn fd):=⟨_,O.own (a 2,kFn _) (.tail _ (.tail _ (.head _)))⟩
 have X:=Z9n h6 h5
 have Y:=makes_of (M:=model prog (wb w b)) X (Zv6 _ a k)
 have hi:=looks_findIn (M:=model prog (wb w b)) X (Z2r (HZ w b) a k qY)
 have hb:∀ self,PySem.W.Looks (model prog (wb w b)) h (bindSpecial (.ref (a 2)) self) (.ref (a 2),[self]):=fun self=>((Zxo o2).andThen .now).andThen (Looks.of_pure rfl)
 have hA2:AOk (A.under (.builtin "type.__call__" ⟨.ref (a 6)::[.str (S W) tt],[]⟩)) none 39:=AOk.under hA (Zr rfl)
 refine make_core (init:=.ref (a 2)) Y hi hb (.inl (by rfl)) ?_
 have O1:=(O.push emptyDict rfl).push (instObj (a 6) h.objs.size) rfl
 rw [Ziu] at O1
 rw [hs] at O1 ⊢
 have qU:((h.push emptyDict).push (instObj (a 6) n)).objs.size=n+2:=by rw [Ziu,Ziu,hs]
 refine (Z6r a k (n+1) n W tt (n+2) t).use (r:=r) (rest:=[(n,emptyDict)]) G (hA2.le (by show 30<=39; decide)) O1 ?_ qU fun x h' g' O' hs' gr'=>?_
 ·show List.Perm ((n+1,({ cls:=.ref (a 6),dict:=some n,data:=.plain }:Obj))::(n,emptyDict)::Z1 (HZ w b) (TZ w b) a k) _
  simp only [Con.preA,inC,Zt]
  exact pm [_,_] [_] 66178 171807113345
 ·refine ⟨rfl,?_⟩
  refine hR ⟨fun j=>match j with | 0=>2+x.nat 0 | j=>x.nat j,x.sl,x.seq,x.ob⟩ h' g' (Own.drop (r:=[(n,emptyDict)]) (O'.perm ?_)) ?_ gr'
  ·simp only [Con.postA,inC,kyC,Zt]
   exact pm [_,_] [_] 2814887742947457 2814887210270849
  ·show h'.objs.size=n+(2+x.nat 0)
   have:h'.objs.size=n+2+x.nat 0:=hs'
   lia
end
end
section
open PySem PySem.W PySem.W.X PySem.Calls PyProof.Rows Builtin Builtin.List
noncomputable def Zy9 (l s:Addr) (xs:LH) (e1 e2:Nat):Con where
 pre:=[(l,Za [] e1),(s,Za xs e2)]
 post _:=[(l,Za xs (e1+1)),(s,Za xs e2)]
 fresh _:=[]
 code:=.builtin "list.__iadd__" ⟨[.ref l,.ref s],[]⟩
 res _:=.ok (.ret (.ref l))
 need:=10
 fr:=none
 made _:=0
section
theorem Z7t (l s:Addr) {xs:LH} (hx:xs.length<=1000) (h0:0 < xs.length) (e1 e2 n t:Nat):Z6 T2 prog w n t (Zy9 l s xs e1 e2):=by
 refine ⟨fun H hh r g A R G hA O hs hR=>?_⟩
 have hl:hh.get? l=some (Za [] e1):=O.own (l,Za [] e1) (.head _)
 have h2:hh.get? s=some (Za xs e2):=O.own (s,Za xs e2) (.tail _ (.head _))
 refine M3 F.entry_list_iadd ?_
 rw [Q0q F.plain_list_iadd]
 have L0:PySem.W.Looks (model prog w) hh (typeOf (.ref s)) (.type "list"):=(Zxo h2).andThen .now
 have L1:PySem.W.Looks (model prog w) hh (listItems (.ref s)) ⟨xs⟩:=by
  intro A Q E s' kp q
  unfold listItems
  refine Zi ?_
  unfold seqItems?
  exact Zi (Znz (kp _ _ h2) (Yo (Yo q)))
 have L2:PySem.W.Looks (model prog w) hh (listItems (.ref l)) ⟨[]⟩:=by
  intro A Q E s' kp q
  unfold listItems
  refine Zi ?_
  unfold seqItems?
  exact Zi (Znz (kp _ _ hl) (Yo (Yo q)))
 show wpAny _ _ (listExtendWith (.ref l) (.ref s) (.ref l)) _ _ _
 unfold listExtendWith
 refine Zi ((Zyi L0) ?_)
 refine Z99 (by rw [show (Value.type "list" == Value.type "list")=true from by decide,Bool.or_true,Bool.true_or]) ?_
 refine Zi ((Zyi L1) ?_)
 refine Zi ((Zyi L2) ?_)
 refine Zqj (by exact Q4q) ?_
 refine Zi ?_
 have O1:Own H ((l,Za [] e1)::[(s,Za xs e2)]) hh:=O
 have O2:=Own.update O1 (Obj.mapSeq fun x=>x++(⟨xs⟩:Array Value)) rfl
 have e:Obj.mapSeq (fun x=>x++(⟨xs⟩:Array Value)) (Za [] e1)=Za xs (e1+1):=by
  have e1':((⟨[]⟩:Array Value)++⟨xs⟩)=⟨xs⟩:=by simp
  show ({ cls:=.type "list",data:=.seq ((⟨[]⟩:Array Value)++⟨xs⟩) (if ((⟨[]⟩:Array Value)++⟨xs⟩).size==(⟨[]⟩:Array Value).size then e1 else e1+1) }:Obj)={ cls:=.type "list",data:=.seq ⟨xs⟩ (e1+1) }
  rw [e1']
  have:((⟨xs⟩:Array Value).size==(⟨[]⟩:Array Value).size)=false:=Znu (by show xs.length≠0; lia)
  rw [this]
  rfl
 rw [e] at O2
 have e24:sizeLine=16777216:=by decide
 refine Znl hl rfl (Yo ?_) (by show 0<=sizeLine; decide) (by show ((⟨[]⟩:Array Value)++⟨xs⟩).size<=_; rw [Array.size_append]; show 0+xs.length<=_; lia)
 exact hR ⟨fun _=>0,fun _=>#[],fun _ _ _=>0,Ext.nil.ob⟩ _ g O2 (by show (hh.objs.modify _ _).size=n; rw [Array.size_modify]; exact hs) (Zq.refl _ _)
end
end
section
open PySem PySem.W PySem.W.X PySem.Calls PyProof.Rows Builtin
noncomputable def Znt (v:Value):Obj:={ cls:=.type "super",data:=.fields #[v,v,v] }
noncomputable def Z3k (a:LN) (k:LM) (s:Addr):Con where
 pre:=[(s,Znt .none),(a 6,Mo a k)]
 post _:=[(s,Znt (.ref (a 6))),(a 6,Mo a k)]
 fresh _:=[]
 code:=.builtin "super.__init__" ⟨[.ref s,.ref (a 6),.ref (a 6)],[]⟩
 res _:=.ok (.ret .none)
 need:=20
 fr:=none
 made _:=0
noncomputable def bmO (K:Addr):Obj:={ cls:=.type "builtin_function_or_method",data:=.fields #[.builtin "object.__init_subclass__",.ref K] }
noncomputable def Z1s (a:LN) (k:LM) (n t:Nat):Con where
 pre:=[(a 6,Mo a k)]
 post _:=[(a 6,Mo a k)]
 fresh _:=[(n,bmO (a 6))]
 code:=.call (.builtin "classmethod_descriptor.__get__") ⟨[.builtin "object.__init_subclass__",.none,.ref (a 6)],[]⟩
 res _:=.ok (.ret (.ref n))
 need:=20
 fr:=none
 made _:=1
noncomputable def Zsj (a:LN) (k:LM) (s:Addr) (tk n t:Nat):Con where
 pre:=[(s,Znt (.ref (a 6))),(a 6,Mo a k)]
 post _:=[(s,Znt (.ref (a 6))),(a 6,Mo a k)]
 fresh _:=[(n,bmO (a 6))]
 code:=.builtin "super.__getattribute__" ⟨[.ref s,.str "__init_subclass__" tk],[]⟩
 res _:=.ok (.ret (.ref n))
 need:=30
 fr:=none
 made _:=1
noncomputable def hdV (o:Obj):Value:=match o with
 | ⟨_,_,.seq xs _,_⟩=>match xs.toList with
  | v::_=>v
  | []=>.none
 | _=>.none
noncomputable def Zl5:Fam:=fun _ _ c l _=>Zy9 (Yj (Z8 c 0)) (Yj (Z8 c 1)) [hdV (Z2 l 1)] (Jo (Z2 l 0)) (Jo (Z2 l 1))
noncomputable def suK (o:Obj) (j:Nat):Nat:=match j with
 | 20=>Zec o 2
 | _=>Zec o 3
noncomputable def Zlk (a:LN):Fam:=fun _ _ c l _=>Z3k a (suK (Z2 l 1)) (Yj (Z8 c 0))
noncomputable def Zmh (a:LN):Fam:=fun n t c l _=>Zsj a (suK (Z2 l 1)) (Yj (Z8 c 0)) (Zig c 1) n t
section
theorem Gj:entryFor table "super.__init__" = some Builtin.«super.__init__»:=entryFor_of_tree (by kernel_rfl)
theorem Z9g (a:LN) (k:LM) (s:Addr) (n t:Nat):Z6 T2 prog w n t (Z3k a k s):=by
 refine ⟨fun H hh r g A R G hA O hs hR=>?_⟩
 have hx:hh.get? s=some (Znt .none):=O.own (s,Znt .none) (.head _)
 have o6:hh.get? (a 6)=some (Mo a k):=O.own (a 6,Mo a k) (.tail _ (.head _))
 have L1:=Zs1 (M:=model prog w) o6
 have L0:PySem.W.Looks (model prog w) hh (typeOf (.ref (a 6))) (.type "type"):=(Zxo o6).andThen .now
 have L2:PySem.W.Looks (model prog w) hh (isSubtype (.type "type") (.type "type")) true:=PySem.W.Looks.of_pure (by rw [isSubtype_type]; kernel_rfl)
 have L3:PySem.W.Looks (model prog w) hh (isType (.ref (a 6))) true:=(Zxo o6).andThen .now
 refine M3 Gj ?_
 unfold Builtin.«super.__init__»
 repeat lk
 have O0:Own H ((s,Znt .none)::[(a 6,Mo a k)]) hh:=O
 have O1:=Own.update O0 (Obj.mapFields fun x=>x.setIfInBounds 0 (.ref (a 6))) rfl
 refine wpAny_updatePart hx ?_
 have z1:(hh.update s (Obj.mapFields fun x=>x.setIfInBounds 0 (.ref (a 6)))).objs.size=n:=by show (hh.objs.modify _ _).size=n; rw [Array.size_modify]; exact hs
 change wpAny _ _ _ _ _ (⟨hh.update s (Obj.mapFields fun x=>x.setIfInBounds 0 (.ref (a 6))),g,r.d,t,r.os⟩:Shared)
 generalize hh.update s (Obj.mapFields fun x=>x.setIfInBounds 0 (.ref (a 6)))=h1 at O1 z1 ⊢
 have hx1:h1.get? s=some _:=O1.own _ (.head _)
 have O2:=Own.update O1 (Obj.mapFields fun x=>x.setIfInBounds 1 (.ref (a 6))) rfl
 repeat lk
 refine wpAny_updatePart hx1 ?_
 have z2:(h1.update s (Obj.mapFields fun x=>x.setIfInBounds 1 (.ref (a 6)))).objs.size=n:=by show (h1.objs.modify _ _).size=n; rw [Array.size_modify]; exact z1
 change wpAny _ _ _ _ _ (⟨h1.update s (Obj.mapFields fun x=>x.setIfInBounds 1 (.ref (a 6))),g,r.d,t,r.os⟩:Shared)
 generalize h1.update s (Obj.mapFields fun x=>x.setIfInBounds 1 (.ref (a 6)))=h2 at O2 z2 ⊢
 have hx2:h2.get? s=some _:=O2.own _ (.head _)
 have O3:=Own.update O2 (Obj.mapFields fun x=>x.setIfInBounds 2 (.ref (a 6))) rfl
 repeat lk
 refine wpAny_updatePart hx2 (Yo ?_)
 exact hR ⟨fun _=>0,fun _=>#[],fun _ _ _=>0,Ext.nil.ob⟩ _ g O3 (by show (h2.objs.modify _ _).size=n; rw [Array.size_modify]; exact z2) (Zq.refl _ _)
end
end
section
open PySem PySem.W PySem.W.X PySem.Calls PyProof.Rows Builtin
section
theorem Z9i (a:LN) (k:LM) (n t:Nat):CQ prog w b n t fun b=>Z1s a k n t :=
 ckm Zd [0,1] [0,0,1,1] Yax 1
theorem Zqo (x y:String) (v:Addr):Mt (TZ w b) ⟨prog,(wb w b).params⟩ (W.ZFast.zw11675142594371477999 x y (.ref v))=some ():=kf
theorem Zvc:Mt (TZ w b) ⟨prog,(wb w b).params⟩ (W.ZFast.zw16165789035321007116 (.type "object") "__init_subclass__")=some (some (.builtin "object.__init_subclass__")):=kf
theorem Zuc:Mt (TZ w b) ⟨prog,(wb w b).params⟩ (W.ZFast.zw1381439984260040727 (.type "classmethod_descriptor") "__get__")=some (some (.builtin "classmethod_descriptor.__get__")):=kf
theorem G2:entryFor table "super.__getattribute__" = some Builtin.«super.__getattribute__»:=entryFor_of_tree (by kernel_rfl)
theorem Z4m (K:Addr):(([Value.ref K,.type "object"]:LH).dropWhile fun x=>x != .ref K).drop 1=[.type "object"]:=by
 rw [List.dropWhile_cons,if_neg (by simp)]
 rfl
theorem Z96 (a:LN) (k:LM) (s:Addr) (tk n t:Nat):Z6 T2 prog (wb w b) n t (Zsj a k s tk n t):=by
 refine ⟨fun H hh r g A R G hA O hs hR=>?_⟩
 have hx:hh.get? s=some (Znt (.ref (a 6))):=O.own (s,Znt (.ref (a 6))) (.head _)
 have o6:hh.get? (a 6)=some (Mo a k):=O.own (a 6,Mo a k) (.tail _ (.head _))
 have f0:=Zjz (M:=model prog (wb w b)) hx 0 (v:=.ref (a 6)) rfl
 have f1:=Zjz (M:=model prog (wb w b)) hx 1 (v:=.ref (a 6)) rfl
 have f2:=Zjz (M:=model prog (wb w b)) hx 2 (v:=.ref (a 6)) rfl
 have L0:PySem.W.Looks (model prog (wb w b)) hh (mroOf (.ref (a 6))) [.ref (a 6),.type "object"]:=by
  intro A Q E s' kp q
  unfold mroOf classData
  exact Zi (Zi (Znz (kp _ _ o6) (Yo (Yo q))))
 have L5:PySem.W.Looks (model prog (wb w b)) hh (notOfAnOpaqueClass (Str.ofString "__init_subclass__").toString "" (.ref (a 6))) ():=fun A Q E s' kp q=>by
  refine eqF (by rw [W.ZFast.ze11675142594371477999]) ?_
  exact Y1 (fun a o e=>kp _ _ (O.keep _ _ (G.top a o e))) (Zqo _ _ _) q
 refine M3 G2 ?_
 unfold Builtin.«super.__getattribute__»
 repeat lk
 refine eqF (by rw [Z4m]) ?_
 refine Zi ?_
 dsimp only
 have ho:PySem.W.Looks (model prog (wb w b)) hh (classOwn (.type "object") "__init_subclass__") (some (.builtin "object.__init_subclass__")):=fun A Q E s' kp q=>by
  refine eqF (by rw [W.ZFast.ze16165789035321007116]) ?_
  exact Y1 (fun a o e=>kp _ _ (O.keep _ _ (G.top a o e))) Zvc q
 have ht:PySem.W.Looks (model prog (wb w b)) hh (typeOf (.builtin "object.__init_subclass__")) (.type "classmethod_descriptor"):=PySem.W.Looks.of_pure (by kernel_rfl)
 have hl:PySem.W.Looks (model prog (wb w b)) hh (typeLookup (.type "classmethod_descriptor") "__get__") (some (.builtin "classmethod_descriptor.__get__")):=fun A Q E s' kp q=>by
  refine eqF (by rw [W.ZFast.ze1381439984260040727]) ?_
  exact Y1 (fun a o e=>kp _ _ (O.keep _ _ (G.top a o e))) Zuc q
 refine Zi ((Zyi ho) ?_)
 dsimp only
 refine Zi ((Zyi ht) ?_)
 refine Zi ((Zyi hl) ?_)
 dsimp only
 refine eqF (by rw [if_pos (by exact beq_self_eq_true _)]) ?_
 refine Zi (Zfk ?_)
 refine Znf ?_
 have hA2:AOk (A.under (.builtin "super.__getattribute__" ⟨[.ref s,.str "__init_subclass__" tk],[]⟩)) none 29:=AOk.under hA (Zr rfl)
 refine (Z9i (prog:=prog) (w:=w) (b:=b) a k n t).use (r:=r) (rest:=[(s,Znt (.ref (a 6)))]) G (hA2.le (by show 20<=29; decide)) O (.swap _ _ _) hs fun x h' g' O' hs' gr'=>?_
 refine Yo (Yo (Yo ?_))
 exact hR x h' g' (O'.perm (by
  simp only [Con.postA,Z1s,Zsj,Zt]
  exact pm [_,_,_] [] 576460924106326145 173946208385)) hs' gr'
theorem Zqm (n t:Nat) (c:Code) (l:LA) (bb:LB):Z6 T2 prog w n t (Zl5 n t c l bb):=Z7t _ _ (by show 1<=1000; decide) (by show 0 < 1; decide) _ _ _ _
theorem Zoi (a:LN) (n t:Nat) (c:Code) (l:LA) (bb:LB):Z6 T2 prog w n t (Zlk a n t c l bb):=Z9g a _ _ _ _
theorem Zn8 (a:LN) (n t:Nat) (c:Code) (l:LA) (bb:LB):Z6 T2 prog (wb w b) n t (Zmh a n t c l bb):=Z96 a _ _ _ _ _
end
end
section
open PySem PySem.W PySem.W.X PySem.Calls PyProof.Rows Builtin
inductive Ph:Builtin->Builtin->Type where
 | mk (a:Builtin):Ph a a
noncomputable def tnB:((Value->Bool)->LH->LH)->Builtin:=by
 refine (fun (f:((Value->Bool)->LH->LH)->Builtin) (_:Ph (f (@R.filterR Value)) W.ZFast.zw4202317264376624991)=>f) ?f ?z
 case z =>
  delta W.ZFast.zw4202317264376624991
  generalize (@R.filterR Value)=F
  exact Ph.mk _
theorem Z1y:@Builtin.«type.__new__»=tnB (@R.filterR Value):=by
 rewrite [W.ZFast.ze4202317264376624991]
 kernel_rfl
noncomputable def tnA (a:LN) (n:Nat) (j:Nat):Addr:=match j with
 | 5=>n+1
 | 6=>n+2
 | 7=>n+3
 | j=>a j
noncomputable def tnK (k:LM) (x:Ext) (j:Nat):Nat:=match j with
 | 35=>x.nat 2
 | 36=>x.nat 3
 | 80=>x.nat 4
 | j=>k j
noncomputable def Z7l (w:Hs) (a:LN) (k:LM) (tq:Nat):Obj:={ cls:=.type "dict",data:=.dict #[kTk k w "__module__" 22 (.str "cpy313.functools" (k 23)),ent w "__qualname__" tq (.str "cmp_to_key.<locals>.K" (k 21)),kTk k w "__firstlineno__" 24 (.int 9 (k 25)),kTk k w "__slots__" 26 (.ref (a 22)),kTk k w "__init__" 27 (.ref (a 2)),kTk k w "__lt__" 28 (.ref (a 4)),kTk k w "__gt__" 29 (.ref (a 23)),kTk k w "__eq__" 30 (.ref (a 24)),kTk k w "__le__" 31 (.ref (a 25)),kTk k w "__ge__" 32 (.ref (a 26)),kTk k w "__hash__" 33 .none,kTk k w "__static_attributes__" 34 (.ref (a 27))] 12 }
noncomputable def Zvd (top:LE) (a:LN):LC:=[
 (a 2,kFn (kFd (Ul (Zu (Zl (Z7 top 51) 0)) 2) "__init__" "cmp_to_key.<locals>.K.__init__" [] (.ref (a 1)) .none)),
 (a 4,kFn (kFd (Ul (Zu (Zl (Z7 top 51) 0)) 3) "__lt__" "cmp_to_key.<locals>.K.__lt__" [("mycmp",a 0)] (.ref (a 3)) (.ref (a 21)))),
 (a 23,kFn (kFd (Ul (Zu (Zl (Z7 top 51) 0)) 4) "__gt__" "cmp_to_key.<locals>.K.__gt__" [("mycmp",a 0)] (.ref (a 30)) (.ref (a 39)))),
 (a 24,kFn (kFd (Ul (Zu (Zl (Z7 top 51) 0)) 5) "__eq__" "cmp_to_key.<locals>.K.__eq__" [("mycmp",a 0)] (.ref (a 31)) (.ref (a 45)))),
 (a 25,kFn (kFd (Ul (Zu (Zl (Z7 top 51) 0)) 6) "__le__" "cmp_to_key.<locals>.K.__le__" [("mycmp",a 0)] (.ref (a 32)) (.ref (a 51)))),
 (a 26,kFn (kFd (Ul (Zu (Zl (Z7 top 51) 0)) 7) "__ge__" "cmp_to_key.<locals>.K.__ge__" [("mycmp",a 0)] (.ref (a 33)) (.ref (a 57))))]
noncomputable def G4 (a:LN) (k:LM) (bd:Addr):Args:=⟨[.type "type",.str "K" (k 20),.ref (a 28),.ref bd],[]⟩
noncomputable def Z2a (w:Hs) (top:LE) (a:LN) (k:LM) (bd tq tl ts e:Nat):LC:=(a 28,{ cls:=.type "tuple",data:=.seq #[.type "object"] 0 })::(bd,Z7l w a k tq)::(a 22,Za [.str "obj" tl] e)::(a 27,{ cls:=.type "tuple",data:=.seq #[.str "obj" ts] 0 })::Zvd top a
noncomputable def tnT (w:Hs) (top:LE) (B:Builtin) (a:LN) (k:LM) (bd tq tl ts e n:Nat):Zx PySem.Fin where
 pre:=Z2a w top a k bd tq tl ts e
 post _:=Zvd top a
 fresh x:=[(n+1,Zj2 w (tnA a n) (tnK k x)),(n+2,Mo (tnA a n) k),(n+3,Zit (tnA a n) (tnK k x))]
 tree:=B (G4 a k bd)
 res _:=.ok (.done (.ret (.ref (n+2))))
 need:=40
 fr:=none
 made _:=6
noncomputable def Ybg (_:Except Value PySem.Fin) (l:LA) (_:LB):Ext:=exN fun k=>match k with
 | 0=>Nb [some (0,Z2 l 0)] 0 11
 | 1=>Nb [some (0,Z2 l 0)] 0 12
 | _=>Zsh (Z2 l 2) 0
noncomputable def Z3f (w:Hs) (top:LE) (a:LN) (k:LM) (bd tq tl ts e n:Nat):Con where
 pre:=Z2a w top a k bd tq tl ts e
 post _:=Zvd top a
 fresh x:=[(n+1,Zj2 w (tnA a n) (tnK k x)),(n+2,Mo (tnA a n) k),(n+3,Zit (tnA a n) (tnK k x))]
 code:=.builtin "type.__new__" (G4 a k bd)
 res _:=.ok (.ret (.ref (n+2)))
 need:=41
 fr:=none
 made _:=6
noncomputable def Zsq (o:Obj) (j:Nat):DictEntry:=match o with
 | ⟨_,_,.dict es _,_⟩=>match es.toList.drop j with
  | v::_=>v
  | []=>⟨0,.none,.none⟩
 | _=>⟨0,.none,.none⟩
noncomputable def tnTk (c:Code) (d:Obj) (j:Nat):Nat:=match j with
 | 20=>Zig c 1
 | 21=>Ju (Zsq d 1).val
 | 22=>Ju (Zsq d 0).key
 | 23=>Ju (Zsq d 0).val
 | 24=>Ju (Zsq d 2).key
 | 25=>Ju (Zsq d 2).val
 | j=>Ju (Zsq d (j - 23)).key
noncomputable def iTk (o:Obj):Nat:=Ju (hdV o)
noncomputable def Zth (w:Hs) (top:LE) (a:LN) (bd:Addr):Fam:=fun n _ c l _=>Z3f w top a (tnTk c (Z2 l 1)) (bd+4) (Ju (Zsq (Z2 l 1) 1).key) (iTk (Z2 l 2)) (iTk (Z2 l 3)) (Jo (Z2 l 2)) n
end
section
variable {α X:Type}
noncomputable def Zy8 (z:Sem α) (rec:(X->Sem α)->Sem (X->Sem α)) (T:X->Sem α) (t:Sem α):Sem (X->Sem α) :=
 match t with
  | .rule g _=>.rule g fun _=>rec fun y=>@Sem.rec α (fun _=>Sem α) (fun _=>z) (fun _=>z) (fun _=>z) (fun _=>z) (fun _ k _=>k ()) (fun _ _ _=>z) (fun _ _ _ _=>z) (fun _ _ _ _ _=>z) (fun _ _ _=>z) (fun _ _ _=>z) (fun _ _ _=>z) (fun _ _ _=>z) (fun _ _=>z) (fun _ _=>z) (fun _ _ _ _=>z) (fun _ _ _ _=>z) (fun _ _ _ _ _ _=>z) (fun _ _ _=>z) (fun _ _ _=>z) (fun _ _ _=>z) (fun _ _ _ _ _=>z) (fun _ _ _ _ _=>z) (fun _ _=>z) (fun _ _ _=>z) (fun _ _=>z) (fun _ _ _ _ _ _=>z) (T y)
  | .at g _=>.at g fun _=>rec fun y=>@Sem.rec α (fun _=>Sem α) (fun _=>z) (fun _=>z) (fun _=>z) (fun _=>z) (fun _ _ _=>z) (fun _ k _=>k ()) (fun _ _ _ _=>z) (fun _ _ _ _ _=>z) (fun _ _ _=>z) (fun _ _ _=>z) (fun _ _ _=>z) (fun _ _ _=>z) (fun _ _=>z) (fun _ _=>z) (fun _ _ _ _=>z) (fun _ _ _ _=>z) (fun _ _ _ _ _ _=>z) (fun _ _ _=>z) (fun _ _ _=>z) (fun _ _ _=>z) (fun _ _ _ _ _=>z) (fun _ _ _ _ _=>z) (fun _ _=>z) (fun _ _ _=>z) (fun _ _=>z) (fun _ _ _ _ _ _=>z) (T y)
  | .point g _=>.point g fun _=>rec fun y=>@Sem.rec α (fun _=>Sem α) (fun _=>z) (fun _=>z) (fun _=>z) (fun _=>z) (fun _ _ _=>z) (fun _ _ _=>z) (fun _ _ _ _=>z) (fun _ _ _ _ _=>z) (fun _ _ _=>z) (fun _ _ _=>z) (fun _ k _=>k ()) (fun _ _ _=>z) (fun _ _=>z) (fun _ _=>z) (fun _ _ _ _=>z) (fun _ _ _ _=>z) (fun _ _ _ _ _ _=>z) (fun _ _ _=>z) (fun _ _ _=>z) (fun _ _ _=>z) (fun _ _ _ _ _=>z) (fun _ _ _ _ _=>z) (fun _ _=>z) (fun _ _ _=>z) (fun _ _=>z) (fun _ _ _ _ _ _=>z) (T y)
  | .ask _=>.ask fun u=>rec fun y=>@Sem.rec α (fun _=>Sem α) (fun _=>z) (fun _=>z) (fun _=>z) (fun _=>z) (fun _ _ _=>z) (fun _ _ _=>z) (fun _ _ _ _=>z) (fun _ _ _ _ _=>z) (fun _ _ _=>z) (fun _ _ _=>z) (fun _ _ _=>z) (fun _ _ _=>z) (fun _ _=>z) (fun k _=>k u) (fun _ _ _ _=>z) (fun _ _ _ _=>z) (fun _ _ _ _ _ _=>z) (fun _ _ _=>z) (fun _ _ _=>z) (fun _ _ _=>z) (fun _ _ _ _ _=>z) (fun _ _ _ _ _=>z) (fun _ _=>z) (fun _ _ _=>z) (fun _ _=>z) (fun _ _ _ _ _ _=>z) (T y)
  | .load a p _=>.load a p fun u=>rec fun y=>@Sem.rec α (fun _=>Sem α) (fun _=>z) (fun _=>z) (fun _=>z) (fun _=>z) (fun _ _ _=>z) (fun _ _ _=>z) (fun _ _ k _=>k u) (fun _ _ _ _ _=>z) (fun _ _ _=>z) (fun _ _ _=>z) (fun _ _ _=>z) (fun _ _ _=>z) (fun _ _=>z) (fun _ _=>z) (fun _ _ _ _=>z) (fun _ _ _ _=>z) (fun _ _ _ _ _ _=>z) (fun _ _ _=>z) (fun _ _ _=>z) (fun _ _ _=>z) (fun _ _ _ _ _=>z) (fun _ _ _ _ _=>z) (fun _ _=>z) (fun _ _ _=>z) (fun _ _=>z) (fun _ _ _ _ _ _=>z) (T y)
  | .update a p f _=>.update a p f fun _=>rec fun y=>@Sem.rec α (fun _=>Sem α) (fun _=>z) (fun _=>z) (fun _=>z) (fun _=>z) (fun _ _ _=>z) (fun _ _ _=>z) (fun _ _ _ _=>z) (fun _ _ _ k _=>k ()) (fun _ _ _=>z) (fun _ _ _=>z) (fun _ _ _=>z) (fun _ _ _=>z) (fun _ _=>z) (fun _ _=>z) (fun _ _ _ _=>z) (fun _ _ _ _=>z) (fun _ _ _ _ _ _=>z) (fun _ _ _=>z) (fun _ _ _=>z) (fun _ _ _=>z) (fun _ _ _ _ _=>z) (fun _ _ _ _ _=>z) (fun _ _=>z) (fun _ _ _=>z) (fun _ _=>z) (fun _ _ _ _ _ _=>z) (T y)
  | .alloc o _=>.alloc o fun u=>rec fun y=>@Sem.rec α (fun _=>Sem α) (fun _=>z) (fun _=>z) (fun _=>z) (fun _=>z) (fun _ _ _=>z) (fun _ _ _=>z) (fun _ _ _ _=>z) (fun _ _ _ _ _=>z) (fun _ k _=>k u) (fun _ _ _=>z) (fun _ _ _=>z) (fun _ _ _=>z) (fun _ _=>z) (fun _ _=>z) (fun _ _ _ _=>z) (fun _ _ _ _=>z) (fun _ _ _ _ _ _=>z) (fun _ _ _=>z) (fun _ _ _=>z) (fun _ _ _=>z) (fun _ _ _ _ _=>z) (fun _ _ _ _ _=>z) (fun _ _=>z) (fun _ _ _=>z) (fun _ _=>z) (fun _ _ _ _ _ _=>z) (T y)
  | .fresh _=>.fresh fun u=>rec fun y=>@Sem.rec α (fun _=>Sem α) (fun _=>z) (fun _=>z) (fun _=>z) (fun _=>z) (fun _ _ _=>z) (fun _ _ _=>z) (fun _ _ _ _=>z) (fun _ _ _ _ _=>z) (fun _ _ _=>z) (fun _ _ _=>z) (fun _ _ _=>z) (fun _ _ _=>z) (fun k _=>k u) (fun _ _=>z) (fun _ _ _ _=>z) (fun _ _ _ _=>z) (fun _ _ _ _ _ _=>z) (fun _ _ _=>z) (fun _ _ _=>z) (fun _ _ _=>z) (fun _ _ _ _ _=>z) (fun _ _ _ _ _=>z) (fun _ _=>z) (fun _ _ _=>z) (fun _ _=>z) (fun _ _ _ _ _ _=>z) (T y)
  | .handled o _=>.handled o fun u=>rec fun y=>@Sem.rec α (fun _=>Sem α) (fun _=>z) (fun _=>z) (fun _=>z) (fun _=>z) (fun _ _ _=>z) (fun _ _ _=>z) (fun _ _ _ _=>z) (fun _ _ _ _ _=>z) (fun _ _ _=>z) (fun _ _ _=>z) (fun _ _ _=>z) (fun _ _ _=>z) (fun _ _=>z) (fun _ _=>z) (fun _ _ _ _=>z) (fun _ _ _ _=>z) (fun _ _ _ _ _ _=>z) (fun _ k _=>k u) (fun _ _ _=>z) (fun _ _ _=>z) (fun _ _ _ _ _=>z) (fun _ _ _ _ _=>z) (fun _ _=>z) (fun _ _ _=>z) (fun _ _=>z) (fun _ _ _ _ _ _=>z) (T y)
  | .call c h g l _=>.call c h g l fun u=>rec fun y=>@Sem.rec α (fun _=>Sem α) (fun _=>z) (fun _=>z) (fun _=>z) (fun _=>z) (fun _ _ _=>z) (fun _ _ _=>z) (fun _ _ _ _=>z) (fun _ _ _ _ _=>z) (fun _ _ _=>z) (fun _ _ _=>z) (fun _ _ _=>z) (fun _ _ _=>z) (fun _ _=>z) (fun _ _=>z) (fun _ _ _ _=>z) (fun _ _ _ _=>z) (fun _ _ _ _ k _=>k u) (fun _ _ _=>z) (fun _ _ _=>z) (fun _ _ _=>z) (fun _ _ _ _ _=>z) (fun _ _ _ _ _=>z) (fun _ _=>z) (fun _ _ _=>z) (fun _ _=>z) (fun _ _ _ _ _ _=>z) (T y)
  | _=>.pure T
noncomputable def Zzo (z:Sem α):Nat->X->(X->Sem α)->Sem (X->Sem α)
 | 0,_,T=>.pure T
 | n+1,x,T=>Zy8 z (Zzo z n x) T (T x)
theorem Zjk {z:Sem α} {rec:(X->Sem α)->Sem (X->Sem α)} {x:X} {T:X->Sem α} (ih:∀ T:X->Sem α,(rec T).bind (fun R=>R x)=T x) {t:Sem α} (e:T x=t):(Zy8 z rec T t).bind (fun R=>R x)=t:=by
 cases t with
 | rule g k=>exact Yr (Sem.rule g) (funext fun u=>(ih _).trans (by rw [e]))
 | «at» g k=>exact Yr (Sem.at g) (funext fun u=>(ih _).trans (by rw [e]))
 | point g k=>exact Yr (Sem.point g) (funext fun u=>(ih _).trans (by rw [e]))
 | ask k=>exact Yr Sem.ask (funext fun u=>(ih _).trans (by rw [e]))
 | load a p k=>exact Yr (Sem.load a p) (funext fun u=>(ih _).trans (by rw [e]))
 | update a p f k=>exact Yr (Sem.update a p f) (funext fun u=>(ih _).trans (by rw [e]))
 | alloc o k=>exact Yr (Sem.alloc o) (funext fun u=>(ih _).trans (by rw [e]))
 | fresh k=>exact Yr Sem.fresh (funext fun u=>(ih _).trans (by rw [e]))
 | handled o k=>exact Yr (Sem.handled o) (funext fun u=>(ih _).trans (by rw [e]))
 | call c h g l k=>exact Yr (Sem.call c h g l) (funext fun u=>(ih _).trans (by rw [e]))
 | _=>exact e
theorem Zd0 (z:Sem α):∀ (n:Nat) (x:X) (T:X->Sem α),(Zzo z n x T).bind (fun R=>R x)=T x
 | 0,_,_=>rfl
 | n+1,x,T=>Zjk (Zd0 z n x) rfl
end
noncomputable def Zmp {α X:Type} (T:Params->LE) (prog:Program) (w:World) (n t:Nat) (sts:List Str) (cons:List Fam) (K:Zx α) (N:Nat) (tr:X->Sem α) (x y:X) (orc:List Nat) (f:Nat->Ext):Out α :=
 Zj1 ((Mv (CZ T prog w n t sts cons) (Zrz (CZ T prog w n t sts cons) K.need K.fr) (Zzo (.unsupported "") N x tr) (N3 K.pre K.preB orc)).bind (fun R s=>Mv (CZ T prog w n t sts cons) (Zrz (CZ T prog w n t sts cons) K.need K.fr) (R y) s) .err) f
theorem Zgg {X:Type} {sts:List Str} {cons:List Fam} {K:Zx α}
  {ex:(Nat->Ext)->Except Value α->LA->LB->Ext} {P:(Nat->Ext)->List Prop}
  (hC:Z4 T prog w cons) (hks:Xx ks=true) (hkb:Xx kb=true) (k:Nat) (hm:∀ x,K.made x=k) (N:Nat) (tr:X->Sem α) (x y:X) (htr:K.tree=tr x)
  (hl:∀ f,Zmp T prog w n t sts cons K N tr x x orc f=Zmp T prog w n t sts cons K N tr x y orc f)
  (h:∀ f,(Ga ks kb K (ex f) (P f) (Zmp T prog w n t sts cons K N tr x y orc f))/\Zeb (Zmp T prog w n t sts cons K N tr x y orc f)=k) (hP:∀ f,∀ p∈P f,p):Xq T prog w n t K:=by
 refine ⟨fun H h' r g A Q E G hA O hs hR=>?_⟩
 have ok:Mu (CZ T prog w n t sts cons) prog w ⟨H,g⟩ r:=Zmf G hC
 have po:Uh (CZ T prog w n t sts cons) ⟨H,g⟩ r ((Mv (CZ T prog w n t sts cons) (Zrz (CZ T prog w n t sts cons) K.need K.fr) (Zzo (.unsupported "") N x tr) (N3 K.pre K.preB orc)).bind (fun R s=>Mv (CZ T prog w n t sts cons) (Zrz (CZ T prog w n t sts cons) K.need K.fr) (R x) s) .err) Q E:=by
  refine Vs _ fun f=>?_
  have hh:=h f
  show Uh _ _ r (Zmp T prog w n t sts cons K N tr x x orc f) Q E
  rw [hl f]
  exact Zdk (Zmp T prog w n t sts cons K N tr x y orc f) (Zed (ex f) ks kb (Zmp T prog w n t sts cons K N tr x y orc f)) (Yq hks) (Yq hkb) (Gq _) (Yr Prod.fst hh.1) (Yr Prod.snd hh.1) (hP f) (by rw [hm,G8]; exact hh.2.symm) hR
 rw [htr,← Zd0 (.unsupported "") N x tr]
 have ih:=Vz ok K.need K.fr
 have z:=Vw (Q':=fun (R:X->Sem α) s'=>∀ A,AOk A K.fr K.need->wpAny (model prog w) A (R x) Q E s') (E':=E) (f:=fun (R:X->Sem α) s=>Mv (CZ T prog w n t sts cons) (Zrz (CZ T prog w n t sts cons) K.need K.fr) (R x) s) (g:=.err)
  (fun (R:X->Sem α) st p=>⟨(Xw ok ih Q E (R x) st p).1,fun h tk D A hA=>(Xw ok ih Q E (R x) st p).2 A h tk hA D⟩) (fun e st p=>⟨p.1,fun h tk D=>p.2 h tk D⟩) _ po
 refine Zi (Jy ((Xw ok ih _ E (Zzo (.unsupported "") N x tr) (N3 K.pre K.preB orc) z).2 A h' ⟨t,g⟩ hA ⟨hs,rfl,O.own,O.nodup,O.keep,O.apart,Zq.refl _ _⟩) (fun R s' q=>q A hA) fun e s' q=>q)
section
open PySem PySem.W PySem.W.X PySem.Calls PyProof.Rows Builtin
noncomputable def Zhq:List Nat:=Yt 16 88 0x3333110010231010202210110020018edcba953333333222233322111111122222221111111030210322121
theorem TN_v (prog:Program) (w:World) (b:Bool) (a:LN) (k:LM) (bd tq tl ts e n t:Nat) (f:Nat->Ext) (F:(Value->Bool)->LH->LH) :
  (Ga [4,2,3,10,11,12,13,14,15] [] (tnT (HZ w b) (TZ w b) (tnB F) a k (bd+4) tq tl ts e n) Ybg [] (Zmp T2 prog (wb w b) n t [] [Zl5,Zlk (tnA a n),Zmh (tnA a n)] (tnT (HZ w b) (TZ w b) (tnB F) a k (bd+4) tq tl ts e n) 24 (fun G=>tnB G (G4 a k (bd+4))) F (fun _ _=>[.type "object"]) Zhq f))/\Zeb (Zmp T2 prog (wb w b) n t [] [Zl5,Zlk (tnA a n),Zmh (tnA a n)] (tnT (HZ w b) (TZ w b) (tnB F) a k (bd+4) tq tl ts e n) 24 (fun G=>tnB G (G4 a k (bd+4))) F (fun _ _=>[.type "object"]) Zhq f)=6:=by cases b<;>(constructor<;>kernel_rfl)
theorem TN_g (prog:Program) (w:World) (b:Bool) (a:LN) (k:LM) (bd tq tl ts e n t:Nat) (f:Nat->Ext) (F:(Value->Bool)->LH->LH) :
  Zmp T2 prog (wb w b) n t [] [Zl5,Zlk (tnA a n),Zmh (tnA a n)] (tnT (HZ w b) (TZ w b) (tnB F) a k (bd+4) tq tl ts e n) 24 (fun G=>tnB G (G4 a k (bd+4))) F F Zhq f=Zmp T2 prog (wb w b) n t [] [Zl5,Zlk (tnA a n),Zmh (tnA a n)] (tnT (HZ w b) (TZ w b) (tnB F) a k (bd+4) tq tl ts e n) 24 (fun G=>tnB G (G4 a k (bd+4))) F (fun _ _=>F (fun x=>@bne Value (@instBEqOfDecidableEq Value W.ZFast.zw7966671052430208091) x (.ref (n+2))) [.ref (n+2),.type "object"]) Zhq f:=kf
end
section
open PySem PySem.W PySem.W.X PySem.Calls PyProof.Rows Builtin
section
theorem Zbe:entryFor table "type.__new__" = some Builtin.«type.__new__»:=entryFor_of_tree (by kernel_rfl)
theorem Zm1 (x:Addr):@R.filterR Value (fun y=>@bne Value (@instBEqOfDecidableEq Value W.ZFast.zw7966671052430208091) y (.ref x)) [.ref x,.type "object"]=[.type "object"]:=by
 rw [← R.filterR_eq,← W.ZFast.ze7966671052430208091]
 simp
theorem Zyq (a:LN) (k:LM) (bd tq tl ts e n t:Nat):Xq T2 prog (wb w b) n t (tnT (HZ w b) (TZ w b) (tnB (@R.filterR Value)) a k (bd+4) tq tl ts e n) :=
 Zgg (ex:=fun _=>Ybg) (P:=fun _=>[]) (Zb Zqm (Zb (Zoi (tnA a n)) (Zb (Zn8 (tnA a n)) Zd))) rfl rfl 6 (fun _=>rfl) 24 _ _ (fun _ _=>[Value.type "object"]) rfl
  (fun f=>by rw [TN_g,Zm1]) (fun f=>TN_v prog w b a k bd tq tl ts e n t f _) fun f q hq=>nomatch hq
theorem Z81 (a:LN) (k:LM) (bd tq tl ts e n t:Nat):Z6 T2 prog (wb w b) n t (Z3f (HZ w b) (TZ w b) a k (bd+4) tq tl ts e n):=by
 refine ⟨fun H hh r g A R G hA O hs hR=>?_⟩
 refine M3 Zbe ?_
 rw [Z1y]
 have hA2:AOk (A.under (.builtin "type.__new__" (G4 a k (bd+4)))) none 40:=AOk.under hA (Zr rfl)
 refine (Zyq (prog:=prog) (w:=w) (b:=b) a k bd tq tl ts e n t).run H hh r g _ _ _ G hA2 O hs fun x h' g' O' hs' gr'=>?_
 exact hR x h' g' O' hs' gr'
theorem Zh0 (a:LN) (bd n t:Nat) (c:Code) (l:LA) (bb:LB):Z6 T2 prog (wb w b) n t (Zth (HZ w b) (TZ w b) a bd n t c l bb):=Z81 a _ _ _ _ _ _ _ _
end
end
noncomputable abbrev EvT:=Expr->Env->Sem Value
noncomputable abbrev AsT:=Expr->Env->Value->Sem Unit
noncomputable abbrev IsT:=Expr->Env->Sem Value->Sem Bool
noncomputable abbrev ExT:=List Stmt->Env->Sem Flow
noncomputable abbrev TpT:=Addr->Option Obj
noncomputable def tP {α:Type} (p f:LC) (m:Sem α) (v:α) (k:Nat):Zx α where
 pre:=p
 post _:=p
 fresh _:=f
 tree:=m
 res _:=.ok v
 need:=20
 fr:=none
 made _:=k
noncomputable def tW {α:Type} (p:LC) (q:Ext->LC) (m:Sem α) (v:α):Zx α where
 pre:=p
 post:=q
 fresh _:=[]
 tree:=m
 res _:=.ok v
 need:=20
 fr:=none
 made _:=0
noncomputable def tG {α:Type} (p:LC) (q f:Ext->LC) (m:Sem α) (r:Ext->Except Value α) (k:Nat:=20) (md:Ext->Nat:=fun x=>x.nat 0):Zx α where
 pre:=p
 post:=q
 fresh:=f
 tree:=m
 res:=r
 need:=k
 fr:=none
 made:=md
noncomputable def exT {α:Type}:(Nat->Ext)->Except Value α->LA->LB->Ext:=fun _ _ l _=>exN fun _=>Nb l 0 0
noncomputable def Go {α:Type}:(Nat->Ext)->Except Value α->LA->LB->Ext:=fun _ _ l _=>exN fun j=>match j with | 0=>Nb l 0 0 | _=>Nb l 0 1
noncomputable def exJ {α:Type}:(Nat->Ext)->Except Value α->LA->LB->Ext:=fun _ _ l _=>exN fun j=>Nb l 0 j
noncomputable def exA {α:Type}:(Nat->Ext)->Except Value α->LA->LB->Ext:=fun _ _ l _=>exN fun _=>Znc (oAt l 0)
noncomputable def exZ {α:Type}:(Nat->Ext)->Except Value α->LA->LB->Ext:=fun _ _ _ _=>exN fun _=>0
section
end
noncomputable abbrev Nr:Value->Str->Sem (Option Value):=W.ZFast.zw18250491105767826471
theorem P4:Nr=@getAttr?:=W.ZFast.ze18250491105767826471.symm
noncomputable abbrev V4:Env->Pos->Nat->Str->Str->Scope->Sem Value:=W.ZFast.zw17169027264674235893
theorem Nz:V4=@classCode:=W.ZFast.ze17169027264674235893.symm
noncomputable abbrev Jk:Addr->Addr->Sem Addr:=W.ZFast.zw6600643334278800223
theorem U4:Jk=@builtinsFor:=W.ZFast.ze6600643334278800223.symm
noncomputable abbrev Xz:Value->Addr->Addr->Addr->Sem Addr:=@W.ZFast.zw12822647523644345616
theorem Uj:Xz=@newBodyFrame:=W.ZFast.ze12822647523644345616.symm
noncomputable abbrev J9:Scope->Env->Sem (List (Str×Addr)):=W.ZFast.zw14069538253670106520
theorem M0:J9=@closureFor:=W.ZFast.ze14069538253670106520.symm
noncomputable abbrev Yf:Env->Str->Value->Sem Unit:=W.ZFast.zw7998390705656384164
theorem Ue:Yf=@storeName:=W.ZFast.ze7998390705656384164.symm
theorem zN {n:Env} {x:Str} {v:Value}:Yf n x v=storeName n x v:=Us (Us (Us Ue n) x) v
noncomputable abbrev U9:Env->Str->Sem Value:=W.ZFast.zw8468629109055619292
theorem Pz:U9=@loadName:=W.ZFast.ze8468629109055619292.symm
noncomputable abbrev Gw:Str->Sem Value:=W.ZFast.zw15347910952255720131
theorem Zch:Gw=@mkText:=W.ZFast.ze15347910952255720131.symm
noncomputable abbrev Zd5:Int->Sem Value:=W.ZFast.zw16909128769118124060
theorem Zeh:Zd5=@mkInt:=W.ZFast.ze16909128769118124060.symm
noncomputable abbrev X0:LH->Sem Value:=W.ZFast.zw15250890844309007415
theorem Um:X0=@newTextTuple:=W.ZFast.ze15250890844309007415.symm
noncomputable abbrev Xs:Env->Value->Sem Unit:=W.ZFast.zw1028981655991621990
theorem V5:Xs=@leavingAround:=W.ZFast.ze1028981655991621990.symm
noncomputable abbrev U5:Env->Str->Value->Sem Unit:=W.ZFast.zw7536695828754713326
theorem P2:U5=@bindName:=W.ZFast.ze7536695828754713326.symm
noncomputable abbrev Mk:Value->Str->Sem (Option Value):=W.ZFast.zw4214721358667687652
theorem N1:Mk=@specialOf:=W.ZFast.ze4214721358667687652.symm
theorem Zry (a:Nat) (t:Nat):TQ prog w b a t fun b=>Zd9 a (TZ w b) Ua a t :=
 tkq [1,0] [0,1,1] (fun _=>fun _ _ _=>exN fun _=>0) 2
theorem Zk8 (a:Nat) (t:Nat):TQ prog w b (a+3) t fun b=>Z25 a Nr :=
 tkq [0] [0,0,0,0] (fun _=>fun _ _ _=>exN fun _=>0) 1
theorem Zm9 (a:Nat) (nm:Str) (u:Nat) (t:Nat):TQ prog w b (a+4) t fun b=>Z92 a nm u :=
 tkq [0,2] [0,1,1,0] (fun _=>fun _ _ _=>exN fun _=>0) 1
theorem Zjw (a:Nat) (t:Nat):TQ prog w b (a+5) t fun b=>Z2w a Mk :=
 tkq [0] [1] (fun _=>fun _ _ _=>exN fun _=>0) 0
theorem Zw3 (a:Nat) (t:Nat):TQ prog w b (a+5) t fun b=>Z5q a (TZ w b) V4 :=
 tkq [1,0,3] [0,1,4,4,4] (fun _=>Z28) 3
theorem Zxu (a:Nat) (t:Nat):TQ prog w b (a+8) t fun b=>Zye Jk :=
 tkq [] [0,0] (fun _=>fun _ _ _=>exN fun _=>0) 0
theorem Zt7 (a:Nat) (t:Nat):TQ prog w b (a+8) t fun b=>Z6n a Xz :=
 tkq [0] [0] (fun _=>fun _ l _=>exN fun _=>Zec (Z2 l 0) 4) 1
theorem Zuz (a:Nat) (t:Nat):TQ prog w b (a+9) t fun b=>Zym a (TZ w b) J9 :=
 tkq [] [] (fun _=>fun _ _ _=>exN fun _=>0) 0
theorem Zxz (a:Nat) (u:Nat) (x:LM) (uf:Nat) (t:Nat):TQ prog w b (a+9) t fun b=>Zz6 a (HZ w b) (TZ w b) Yf U9 Gw Zd5 X0 Xs "K" u x uf :=
 Ya1 (cons:=fun b=>[Zth (HZ w b) (TZ w b) (adK a) a]) (Zb (fun n t c l bb=>Zh0 (adK a) a n t c l bb) Zd) [50,44,3,37,4,0,1,2,30,5,23,6,16,7,9,8,51,52] (Yt 64 112 0x2002080049459869030cf2281000034d34cf3cf3cf3000033cf3b6eaebac0000aebae59a38e30000238e375e6db6c00006db6d55934d30000134d334e2cb2c00002cb2c51841040c30c00c30c30c30c30c00c3) (fun _=>Z3l) 55
theorem Zsn (a:Nat) (t:Nat):TQ prog w b (a+64) t fun b=>Z3y a (HZ w b) (TZ w b) U5 :=
 tkq [0] [1,1] (fun _=>fun _ l _=>exN fun _=>Nb l 0 0) 0
theorem Zvp (a:Nat) (u:Nat) (t:Nat):TQ prog w b (a+64) t fun b=>Zy1 a (HZ w b) (TZ w b) Xr u :=
 tkq [0] [1] (fun _=>fun _ _ _=>exN fun _=>0) 0
theorem Ztj (a n:Nat) (x:LM) (t:Nat):TQ prog w b (n+5) t fun b=>Z1i a n x (TZ w b) V4 :=
 tkq [0,1,2] [0,1] (fun _=>fun _ _ _=>exN fun _=>0) 0
theorem Zvk (a n:Nat) (t:Nat):TQ prog w b (n+5) t fun b=>Zye Jk :=
 tkq [] [0,0] (fun _=>fun _ _ _=>exN fun _=>0) 0
theorem Zwl (a n:Nat) (t:Nat):TQ prog w b (n+5) t fun b=>Z8a a n Xz :=
 tkq [0] [0] (fun _=>fun _ l _=>exN fun _=>Zec (Z2 l 0) 4) 1
theorem Zuo (a n:Nat) (t:Nat):TQ prog w b (n+6) t fun b=>Zym n (TZ w b) J9 :=
 tkq [] [] (fun _=>fun _ _ _=>exN fun _=>0) 0
theorem Zuv (a n:Nat) (u:Nat) (x R:LM) (uf:Nat) (t:Nat):TQ prog w b (n+6) t fun b=>Z4d a n (HZ w b) (TZ w b) Yf U9 Gw Zd5 X0 Xs "K" u x R uf :=
 Ya1 (cons:=fun b=>[Zth (HZ w b) (TZ w b) (Nm a n) n]) (Zb (fun n2 t c l bb=>Zh0 (Nm a n) n n2 t c l bb) Zd) [14,3,4,0,1,2,5,6,7,8,16,17,18,19,20,21,22,23] (Yt 32 94 0x20084008ca74ac0c7b94100010841ef7bdef000108b5ad0000e7ad6b0000c6a5290000a59ce700008494a5000063908418c6018c6318c6318063) (fun _=>Zzm) 19
theorem Zsk (a n:Nat) (t:Nat):TQ prog w b (n+25) t fun b=>Z1u n (HZ w b) (TZ w b) U5 :=
 tkq [0] [1,1] (fun _=>fun _ l _=>exN fun _=>Nb l 0 0) 0
theorem Zw1 (a n:Nat) (u:Nat) (t:Nat):TQ prog w b (n+25) t fun b=>Z2k n (HZ w b) (TZ w b) Xr u :=
 tkq [0] [1] (fun _=>fun _ _ _=>exN fun _=>0) 0
section
section
theorem Zqz:Zft (ckS (TZ w b)) = "K" := kf
theorem Zg0 {l:LH} (hs:s.heap.objs.size=n) (h:Q (.ref n) { s with heap:=s.heap.push { cls:=.type "tuple",data:=.seq l.toArray } }) (hz:l.length<=sizeLine:=by decide):wpAny (model prog w) A (newTuple l) Q E s:=by
 subst hs
 exact wpAny_newTuple h hz
theorem Z4a (a:Nat) (hA:AOk A none 55) (G:Ground T2 (wb w b) H)
  (hsc1:(List.lookup (Str.ofString "__class__") (Yl (ckS (TZ w b))).names==some NameKind.cell)=false) (hsc2:(List.lookup (Str.ofString "__classdict__") (Yl (ckS (TZ w b))).names==some NameKind.cell)=false)
  (O:Own H ((46,Zbp)::((a+1),{ cls:=.type "cell",data:=.cell (some (.ref 787)) })::l) h) (hs:h.objs.size=(a+2))
  (hQ:∀ (R y:LM) h' t' g',Own H ((46,Yp a)::(Ys a y++(Z1 (HZ w b) (TZ w b) (adK a) R++l))) h'->h'.objs.size=(a+64)->t<=t'->Zq true g g'->Q (.ref (a+60)) (r.at h' ⟨t',g'⟩)) :
  wpAny (model prog (wb w b)) A (buildClass "K" Jp [.type "object"] [] (Zu (ckS (TZ w b))) (Yl (ckS (TZ w b))) (V8 (ckS (TZ w b))) 9 (X3 a (TZ w b)) (Mz (ckS (TZ w b))) none) Q E (r.at h ⟨t,g⟩):=by
 refine Zi (m:=newTuple [.type "object"]) (Zg0 hs ?_)
 have O1:=O.push Jm rfl
 change wpAny _ _ _ _ _ (r.at (h.push Jm) ⟨t,g⟩)
 have qU:(h.push Jm).objs.size=(a+3):=by rw [Ziu,hs]
 rw [hs] at O1
 generalize h.push Jm=h1 at O1 qU
 refine Zi (Zbf (a:=([Value.type "object"],false)) rfl ?_)
 refine Zi (Zbf (a:=Value.type "type") rfl ?_)
 refine Zi (Zbf (a:=true) rfl ?_)
 refine Z99 rfl ?_
 refine Zi (Zbf (a:=Value.type "type") ?_ ?_)
 ·have h1:typeOf (.type "object")=pure (.type "type"):=rfl
  have h2:isSubtype (.type "type") (.type "type")=pure true:=by rw [isSubtype_type]; kernel_rfl
  simp only [List.forIn_cons,List.forIn_nil]
  rw [h1]
  simp only [pure_bind,h2,if_true]
 refine Zi (wpAny_mkText ?_)
 change wpAny _ _ _ _ _ (r.at h1 ⟨t+1,g⟩)
 refine Zqj (by decide) ?_
 refine Zi (Yo ?_)
 refine Zfk (Zi ?_)
 have e1:(Z25 a Nr).tree=getAttr? (.type "type") "__prepare__" := by unfold Z25; dsimp only; rw [P4]
 refine eqT e1 ?_
 refine (Zk8 a (t+1)).use (rest:=((a+2),Jm)::(46,Zbp)::((a+1),{ cls:=.type "cell",data:=.cell (some (.ref 787)) })::l) G (hA.le (by show 20<=55; decide)) O1 (.refl _) qU fun x2 h2 g2 O2 qS qF=>?_
 have qS:h2.objs.size=(a+4):=qS
 refine Zi ?_
 have e2:(Z92 a "K" t).tree=call (.ref (a+3)) [.str "K" t,.ref (a+2)] []:=rfl
 refine eqT e2 ?_
 refine (Zm9 a "K" t (t+1+x2.nat 1)).use (rest:=(46,Zbp)::((a+1),{ cls:=.type "cell",data:=.cell (some (.ref 787)) })::l) G (hA.le (by show 20<=55; decide)) O2 (.refl _) qS fun x3 h3 g3 O3 xz qz=>?_
 have xz:h3.objs.size=(a+5):=xz
 refine Zi (m:=notTheModulesDict "class:the-namespace-that-__prepare__-gave" (a+4)) (Zbf (a:=()) rfl ?_)
 refine Zi (m:=specialOf (.ref (a+4)) "__getitem__") ?_
 have e3:(Z2w a Mk).tree=specialOf (.ref (a+4)) "__getitem__" := by unfold Z2w; dsimp only; rw [N1]
 refine eqT e3 ?_
 refine (Zjw a (t+1+x2.nat 1+x3.nat 1)).use (rest:=((a+2),Jm)::(46,Zbp)::((a+1),{ cls:=.type "cell",data:=.cell (some (.ref 787)) })::l) G (hA.le (by show 20<=55; decide)) O3 (.refl _) xz fun x4 h4 g4 O4 xj qw=>?_
 have xj:h4.objs.size=(a+5):=xj
 have qB:t<=t+1+x2.nat 1+x3.nat 1+x4.nat 1:=by lia
 generalize t+1+x2.nat 1+x3.nat 1+x4.nat 1=t4 at qB ⊢
 refine Zqj (by decide) ?_
 refine Zfk ?_
 refine Zqj (fun e=>Q4q (hsc1.symm.trans e)) (Zi (Yo ?_))
 refine Zqj (fun e=>Q4q (hsc2.symm.trans e)) (Zi (Yo (Zi ?_)))
 have e5:(Z5q a (TZ w b) V4).tree=classCode (X3 a (TZ w b)) (Mz (ckS (TZ w b))) 9 "K" Jp (Yl (ckS (TZ w b))):=by
  unfold Z5q; dsimp only; rw [Nz,Zqz]
 refine eqT e5 ?_
 refine (Zw3 a t4).use (rest:=((a+4),Vh)::((a+2),Jm)::((a+1),{ cls:=.type "cell",data:=.cell (some (.ref 787)) })::l) G (hA.le (by show 20<=55; decide)) O4 (by
  simp only [Zx.preA,Z5q,Zt]
  exact pm [_,_,_,_] [_] 1096942210 294444884591509633) xj fun x5 h5 g5 O5 xC qv=>?_
 have xC:h5.objs.size=(a+8):=xC
 have O5:Own H (((a+6),Zbp)::((a+7),Zaf a fun k=>x5.nat (k+2))::(46,Yp a)::((a+4),Vh)::((a+2),Jm)::((a+1),{ cls:=.type "cell",data:=.cell (some (.ref 787)) })::l) h5:=O5
 generalize (fun k=>x5.nat (k+2))=y5 at O5
 have qy:t<=t4+x5.nat 1:=by lia
 generalize t4+x5.nat 1=t5 at qy ⊢
 refine Zi (m:=builtinsFor 3 0) ?_
 have e6:(Zye Jk).tree=builtinsFor 3 0:=by unfold Zye; dsimp only; rw [U4]
 refine eqT e6 ?_
 refine (Zxu a t5).use G (hA.le (by show 20<=55; decide)) O5 (.refl _) xC fun x6 h6 g6 O6 xB qC=>?_
 have xB:h6.objs.size=(a+8):=xB
 have O6:Own H (((a+6),Zbp)::((a+7),Zaf a y5)::(46,Yp a)::((a+4),Vh)::((a+2),Jm)::((a+1),{ cls:=.type "cell",data:=.cell (some (.ref 787)) })::l) h6:=O6
 have qG:t<=t5+x6.nat 1:=by lia
 generalize t5+x6.nat 1=t6 at qG ⊢
 refine Zi (m:=newBodyFrame (.ref (a+7)) 3 (a+4) 0) ?_
 have e7:(Z6n a Xz).tree=newBodyFrame (.ref (a+7)) 3 (a+4) 0:=by unfold Z6n; dsimp only; rw [Uj]
 refine eqT e7 ?_
 refine (Zt7 a t6).use G (hA.le (by show 20<=55; decide)) O6 (.refl _) xB fun x7 h7 g7 O7 xE qM=>?_
 have xE:h7.objs.size=(a+9):=xE
 have O7:Own H (((a+8),Z5r a (x7.nat 2))::((a+6),Zbp)::((a+7),Zaf a y5)::(46,Yp a)::((a+4),Vh)::((a+2),Jm)::((a+1),{ cls:=.type "cell",data:=.cell (some (.ref 787)) })::l) h7:=O7
 have qO:t<=t6+x7.nat 1:=by lia
 generalize t6+x7.nat 1=t7 at qO ⊢
 generalize x7.nat 2=u7 at O7
 refine Zi (m:=closureFor (Yl (ckS (TZ w b))) (X3 a (TZ w b))) ?_
 have e8:(Zym a (TZ w b) J9).tree=closureFor (Yl (ckS (TZ w b))) (X3 a (TZ w b)):=by unfold Zym; dsimp only; rw [M0]
 refine eqT e8 ?_
 refine (Zuz a t7).use G (hA.le (by show 20<=55; decide)) O7 (.refl _) xE fun x8 h8 g8 O8 xD qW=>?_
 have xD:h8.objs.size=(a+9):=xD
 have O8:Own H (((a+8),Z5r a u7)::((a+6),Zbp)::((a+7),Zaf a y5)::(46,Yp a)::((a+4),Vh)::((a+2),Jm)::((a+1),{ cls:=.type "cell",data:=.cell (some (.ref 787)) })::l) h8:=O8
 have qX:t<=t7+x8.nat 1:=by lia
 generalize t7+x8.nat 1=t8 at qX ⊢
 refine Zfk (Zi (wpAny_enterFrame (G.nolimit.keeps O8.keep) (hA.room) ?_))
 show wpAny _ _ (Pn a storeName loadName mkText mkInt newTextTuple leavingAround Jp 9 (V8 (ckS (TZ w b))) (Zu (ckS (TZ w b))) (Zl6 a (TZ w b)) (.str "K" t)) _ _ _
 have e9:(Zz6 a (HZ w b) (TZ w b) Yf U9 Gw Zd5 X0 Xs "K" t y5 u7).tree=Pn a storeName loadName mkText mkInt newTextTuple leavingAround Jp 9 (V8 (ckS (TZ w b))) (Zu (ckS (TZ w b))) (Zl6 a (TZ w b)) (.str "K" t):=by
  unfold Zz6
  dsimp only
  rw [Ue,Pz,Zch,Zeh,Um,V5]
 refine eqT e9 ?_
 refine (Zxz a t y5 u7 t8).use (rest:=(46,Yp a)::l) G (hA.le (by show 50<=55; decide)) O8 (by
  simp only [Zx.preA,Zz6,Zt]
  exact pm [_,_,_,_,_,_,_] [_] 2340348640756354 617449418796465983389825) xD fun x9 h9 g9 O9 xF xq=>?_
 have xF:h9.objs.size=(a+64):=xF
 refine hQ (fun k=>x9.nat (k+2)) y5 h9 _ g9 (O9.perm (by
  simp only [Zx.postA,Zz6,Zt]
  exact pm [_] [_,_,_] 44049199317121 21021442)) xF (by lia) (gtr (gtr (gtr (gtr (gtr (gtr (gtr qF qz) qw) qv) qC) qM) qW) xq)
end
end
noncomputable def Zph (w:Hs) (top:LE) (a:Nat):Con where
 pre:=[(46,Zbp)]
 post x:=Ys a (fun k=>x.nat (k+122))++[(46,Yp a)]
 fresh x:=Z1 w top (adK a) (fun k=>x.nat (k+2))
 code:=.call (.ref 51) ⟨[.ref 787],[]⟩
 res _:=.ok (.ret (.ref (a+60)))
 need:=60
 fr:=none
 made _:=64
section
theorem d51:((Mn (wb w b) 51).bind Uq)=some (Z7 (TZ w b) 51):=kf
theorem Zqw:(Z7 (TZ w b) 51).body=.stmts [ckS (TZ w b),Zl (Z7 (TZ w b) 51) 1]:=kf
theorem Zze:ckS (TZ w b)=.ClassDef "K" (Zgv (ckS (TZ w b))) [] (Zu (ckS (TZ w b))) [] [] (Yl (ckS (TZ w b))) (Z8o (ckS (TZ w b))) (Ps (ckS (TZ w b))) (V8 (ckS (TZ w b))) (Mz (ckS (TZ w b))):=kf
theorem Zqt (a:Nat):qualnameIn (X3 a (TZ w b)) "K" (Ps (ckS (TZ w b)))=Jp:=kf
theorem Zrc:firstLineOf [] (Mz (ckS (TZ w b)))=9:=kf
theorem Z2b:(List.lookup (Str.ofString "__class__") (Yl (ckS (TZ w b))).names==some NameKind.cell)=false:=kf
theorem Z2l:(List.lookup (Str.ofString "__classdict__") (Yl (ckS (TZ w b))).names==some NameKind.cell)=false:=kf
noncomputable abbrev Zrj:Env->Sem Unit:=W.ZFast.zw14857818083647630748
theorem Ze8:Zrj=buildClassGuard:=W.ZFast.ze14857818083647630748.symm
theorem Zkh (a:Nat):Mt (TZ w b) ⟨prog,(wb w b).params⟩ (Zrj (X3 a (TZ w b)))=some ():=kf
theorem Zjv (pos:Pos) (bs:List Expr) (qq:Env):W.ZFast.zw5911215902649259669 (.builtin "__build_class__") false (W.ZFast.zw4897270859577272712 pos (W.ZFast.zw13897175071876407860 bs qq)) (W.ZFast.zw621762911399731506 pos (W.ZFast.zw11621922129505618389 [] qq))=evalArgs (.builtin "__build_class__") false (backTo pos (starEach bs qq)) (backToKw pos (keywordEach [] qq)):=by
 rw [← W.ZFast.ze5911215902649259669,← W.ZFast.ze4897270859577272712,← W.ZFast.ze13897175071876407860,← W.ZFast.ze621762911399731506,← W.ZFast.ze11621922129505618389]
theorem Zq3 (a:Nat):Mt (TZ w b) ⟨prog,(wb w b).params⟩ (W.ZFast.zw5911215902649259669 (.builtin "__build_class__") false (W.ZFast.zw4897270859577272712 (Mz (ckS (TZ w b))) (W.ZFast.zw13897175071876407860 (Zgv (ckS (TZ w b))) (X3 a (TZ w b)))) (W.ZFast.zw621762911399731506 (Mz (ckS (TZ w b))) (W.ZFast.zw11621922129505618389 [] (X3 a (TZ w b)))))=some ⟨[.type "object"],[]⟩:=kf
theorem Yag (a t:Nat):Z6 T2 prog (wb w b) a t (Zph (HZ w b) (TZ w b) a):=by
 refine ⟨fun H h r g A Rz G hA O hs hR=>?_⟩
 have hA:AOk A none 60:=hA
 obtain ⟨o,ho,hd⟩:=Pl.mp (d51 (w:=w) (b:=b))
 have qI:AOk (A.under (.call (.ref 51) ⟨[.ref 787],[]⟩)) none 59:=hA.under (Zr rfl)
 refine Za2 (O.keep _ _ (G.top _ _ ho)) hd qI.room ?_
 have e2:(Zd9 a (TZ w b) Ua a t).tree=Jn 51 (Z7 (TZ w b) 51) ⟨[.ref 787],[]⟩:=by
  unfold Zd9
  exact Us (Us (Us Mh 51) (Z7 (TZ w b) 51)) ⟨[.ref 787],[]⟩
 refine eqT e2 ?_
 refine (Zry a t).use (rest:=[(46,Zbp)]) G (qI.bare (by show 20<=59; decide)) O (.refl _) hs fun x h1 g1 O1 qU qD=>⟨G.nolimit.keeps O1.keep,?_⟩
 have qU:h1.objs.size=(a+2):=qU
 have qK:t<=t+x.nat 1:=by lia
 generalize t+x.nat 1=t1 at qK ⊢
 unfold J0
 rw [Zqw]
 dsimp only
 have qR:AOk (A.under (.func [ckS (TZ w b),Zl (Z7 (TZ w b) 51) 1] (X3 a (TZ w b)))) none 59:=(hA.under (Zr rfl)).bare (Y9 _)
 generalize hA2:A.under (.func [ckS (TZ w b),Zl (Z7 (TZ w b) 51) 1] (X3 a (TZ w b)))=A2 at qR
 refine Gv ?_
 rw [hA2,Zw]
 refine Zi ?_
 refine eqF (by rw [Zze,arm_exec_ClassDef]) ?_
 have kp:∀ a o,Mn (wb w b) a=some o->h1.get? a=some o:=fun a o e=>O1.keep _ _ (G.top a o e)
 refine Zi (Zbf (a:=[]) rfl ?_)
 refine Zi (Zd2 ?_)
 refine Zi ?_
 refine eqF (by rw [← Ze8]) ?_
 refine Y1 (s:=r.at h1 ⟨t1,g1⟩) kp (Zkh a) ?_
 refine Zi (Zfk (Zi ?_))
 refine eqF (by rw [← Zjv]) ?_
 refine Y1 (s:=r.at h1 ⟨t1,g1⟩) kp (Zq3 a) ?_
 refine Zi (Zd2 ?_)
 refine Zfk ?_
 refine eqF (by rw [Zqt,Zrc]) ?_
 refine Z4a a (qR.le (by decide)) G Z2b Z2l (l:=[(a,Z3j)]) (O1.perm (by exact pm [_,_,_] [] 131714 33416)) qU fun R y h2 t2 g2 O2 qS qN qF=>?_
 refine Zi (Zbf (a:=Value.ref (a+60)) rfl ?_)
 refine Zi (Zd2 ?_)
 refine Zi ?_
 have e3:(Z3y a (HZ w b) (TZ w b) U5).tree=bindName (X3 a (TZ w b)) (Ps (ckS (TZ w b))) (.ref (a+60)):=by
  unfold Z3y; dsimp only; rw [P2]
 refine eqT e3 ?_
 refine (Zsn a t2).use (rest:=(46,Yp a)::Ys a y++Z1 (HZ w b) (TZ w b) (adK a) R) G (qR.le (by show 20<=59; decide)) O2 (by
  simp only [Zx.preA,Z3y,Zt]
  exact pm [_,_] [_,_] 10584450 506663788532023425) qS fun x3 h3 g3 O3 xz qz=>?_
 have xz:h3.objs.size=(a+64):=xz
 refine Yo ?_
 have e4:(Zy1 a (HZ w b) (TZ w b) Xr (x3.nat 2)).tree=execs [Zl (Z7 (TZ w b) 51) 1] (X3 a (TZ w b)):=by
  unfold Zy1; dsimp only; rw [Yk]
 refine eqT e4 ?_
 refine (Zvp a (x3.nat 2) (t2+x3.nat 1)).use (rest:=(46,Yp a)::Ys a y++Z1 (HZ w b) (TZ w b) (adK a) R) G (qR.le (by show 20<=59; decide)) O3 (by
  simp only [Zx.preA,Zx.postA,Zy1,Z3y,Zt]
  exact pm [_,_] [_,_] 8301395684089978175617 506676982671507585) xz fun x4 h4 g4 O4 xj qw=>?_
 have xj:h4.objs.size=(a+64):=xj
 have qA:=hR ⟨fun j=>match j with | 0=>64 | 1=>t2+x3.nat 1+x4.nat 1 - t | j+2=>(bif Nat.blt j 120 then R j else y (j - 120)),fun _=>#[],fun _ _ _=>0,Ext.nil.ob⟩ h4 g4 (Own.drop (r:=[(a,Zny #[ent (HZ w b) "K" (x3.nat 2) (.ref (a+60))] 1)]) (O4.perm (by
  simp only [Zx.postA,Con.postA,Zy1,Zph,Zt]
  exact pm [_,_] [_,_] 8301395684089978175617 1125901255409793))) (by rw [xj]; rfl) (gtr (gtr (gtr qD qF) qz) qw)
 have et:t+(t2+x3.nat 1+x4.nat 1 - t)=t2+x3.nat 1+x4.nat 1:=by lia
 change Rz (.ok (.ret (.ref (a+60)))) (r.at h4 ⟨t+(t2+x3.nat 1+x4.nat 1 - t),g4⟩) at qA
 rw [et] at qA
 exact qA
end
section
section
theorem Ztn (a n:Nat) (x R0:LM) (hA:AOk A none 55) (G:Ground T2 (wb w b) H)
  (hsc1:(List.lookup (Str.ofString "__class__") (Yl (ckS (TZ w b))).names==some NameKind.cell)=false) (hsc2:(List.lookup (Str.ofString "__classdict__") (Yl (ckS (TZ w b))).names==some NameKind.cell)=false)
  (O:Own H ((46,Yp a)::((n+1),{ cls:=.type "cell",data:=.cell (some (.ref 787)) })::(Ys a x++(Xm (adK a) R0++l))) h) (hs:h.objs.size=(n+2))
  (hQ:∀ (y:LM) h' t' g',Own H ((46,Yp a)::(Ys a x++(Xm (adK a) R0++(Ze6 (HZ w b) (TZ w b) (Nm a n) y++l)))) h'->h'.objs.size=(n+25)->t<=t'->Zq true g g'->Q (.ref (n+21)) (r.at h' ⟨t',g'⟩)) :
  wpAny (model prog (wb w b)) A (buildClass "K" Jp [.type "object"] [] (Zu (ckS (TZ w b))) (Yl (ckS (TZ w b))) (V8 (ckS (TZ w b))) 9 (X3 n (TZ w b)) (Mz (ckS (TZ w b))) none) Q E (r.at h ⟨t,g⟩):=by
 refine Zi (m:=newTuple [.type "object"]) (Zg0 hs ?_)
 have O1:=O.push Jm rfl
 change wpAny _ _ _ _ _ (r.at (h.push Jm) ⟨t,g⟩)
 have qU:(h.push Jm).objs.size=(n+3):=by rw [Ziu,hs]
 rw [hs] at O1
 generalize h.push Jm=h1 at O1 qU
 refine Zi (Zbf (a:=([Value.type "object"],false)) rfl ?_)
 refine Zi (Zbf (a:=Value.type "type") rfl ?_)
 refine Zi (Zbf (a:=true) rfl ?_)
 refine Z99 rfl ?_
 refine Zi (Zbf (a:=Value.type "type") ?_ ?_)
 ·have h1:typeOf (.type "object")=pure (.type "type"):=rfl
  have h2:isSubtype (.type "type") (.type "type")=pure true:=by rw [isSubtype_type]; kernel_rfl
  simp only [List.forIn_cons,List.forIn_nil]
  rw [h1]
  simp only [pure_bind,h2,if_true]
 refine Zi (wpAny_mkText ?_)
 change wpAny _ _ _ _ _ (r.at h1 ⟨t+1,g⟩)
 refine Zqj (by decide) ?_
 refine Zi (Yo ?_)
 refine Zfk (Zi ?_)
 have e1:(Z25 n Nr).tree=getAttr? (.type "type") "__prepare__" := by unfold Z25; dsimp only; rw [P4]
 refine eqT e1 ?_
 refine (Zk8 n (t+1)).use (rest:=((n+2),Jm)::(46,Yp a)::((n+1),{ cls:=.type "cell",data:=.cell (some (.ref 787)) })::(Ys a x++(Xm (adK a) R0++l))) G (hA.le (by show 20<=55; decide)) O1 (.refl _) qU fun x2 h2 g2 O2 qS qF=>?_
 have qS:h2.objs.size=(n+4):=qS
 refine Zi ?_
 have e2:(Z92 n "K" t).tree=call (.ref (n+3)) [.str "K" t,.ref (n+2)] []:=rfl
 refine eqT e2 ?_
 refine (Zm9 n "K" t (t+1+x2.nat 1)).use (rest:=(46,Yp a)::((n+1),{ cls:=.type "cell",data:=.cell (some (.ref 787)) })::(Ys a x++(Xm (adK a) R0++l))) G (hA.le (by show 20<=55; decide)) O2 (.refl _) qS fun x3 h3 g3 O3 xz qz=>?_
 have xz:h3.objs.size=(n+5):=xz
 refine Zi (m:=notTheModulesDict "class:the-namespace-that-__prepare__-gave" (n+4)) (Zbf (a:=()) rfl ?_)
 refine Zi (m:=specialOf (.ref (n+4)) "__getitem__") ?_
 have e3:(Z2w n Mk).tree=specialOf (.ref (n+4)) "__getitem__" := by unfold Z2w; dsimp only; rw [N1]
 refine eqT e3 ?_
 refine (Zjw n (t+1+x2.nat 1+x3.nat 1)).use (rest:=((n+2),Jm)::(46,Yp a)::((n+1),{ cls:=.type "cell",data:=.cell (some (.ref 787)) })::(Ys a x++(Xm (adK a) R0++l))) G (hA.le (by show 20<=55; decide)) O3 (.refl _) xz fun x4 h4 g4 O4 xj qw=>?_
 have xj:h4.objs.size=(n+5):=xj
 have qB:t<=t+1+x2.nat 1+x3.nat 1+x4.nat 1:=by lia
 generalize t+1+x2.nat 1+x3.nat 1+x4.nat 1=t4 at qB ⊢
 refine Zqj (by decide) ?_
 refine Zfk ?_
 refine Zqj (fun e=>Q4q (hsc1.symm.trans e)) (Zi (Yo ?_))
 refine Zqj (fun e=>Q4q (hsc2.symm.trans e)) (Zi (Yo (Zi ?_)))
 have e5:(Z1i a n x (TZ w b) V4).tree=classCode (X3 n (TZ w b)) (Mz (ckS (TZ w b))) 9 "K" Jp (Yl (ckS (TZ w b))):=by
  unfold Z1i; dsimp only; rw [Nz,Zqz]
 refine eqT e5 ?_
 refine (Ztj a n x t4).use (rest:=((n+4),Vh)::((n+2),Jm)::((n+1),{ cls:=.type "cell",data:=.cell (some (.ref 787)) })::(Xm (adK a) R0++l)) G (hA.le (by show 20<=55; decide)) O4 (by
  simp only [Zx.preA,Z1i,Zt]
  exact pm [_,_,_,_] [_,_,_] 44187452048002 92672280441223512193) xj fun x5 h5 g5 O5 xC qv=>?_
 have xC:h5.objs.size=(n+5):=xC
 have O5:Own H ((46,Yp a)::((n+4),Vh)::((n+2),Jm)::((n+1),{ cls:=.type "cell",data:=.cell (some (.ref 787)) })::(Ys a x++(Xm (adK a) R0++l))) h5:=O5.perm (by
  simp only [Zx.postA,Z1i,Zt]
  exact pm [_,_,_,_] [_,_,_] 1518342860610636385108097 44187452048002)
 have qy:t<=t4+x5.nat 1:=by lia
 generalize t4+x5.nat 1=t5 at qy ⊢
 refine Zi (m:=builtinsFor 3 0) ?_
 have e6:(Zye Jk).tree=builtinsFor 3 0:=by unfold Zye; dsimp only; rw [U4]
 refine eqT e6 ?_
 refine (Zvk a n t5).use G (hA.le (by show 20<=55; decide)) O5 (.refl _) xC fun x6 h6 g6 O6 xB qC=>?_
 have xB:h6.objs.size=(n+5):=xB
 have qG:t<=t5+x6.nat 1:=by lia
 generalize t5+x6.nat 1=t6 at qG ⊢
 refine Zi (m:=newBodyFrame (.ref (a+7)) 3 (n+4) 0) ?_
 have e7:(Z8a a n Xz).tree=newBodyFrame (.ref (a+7)) 3 (n+4) 0:=by unfold Z8a; dsimp only; rw [Uj]
 refine eqT e7 ?_
 refine (Zwl a n t6).use G (hA.le (by show 20<=55; decide)) O6 (.refl _) xB fun x7 h7 g7 O7 xE qM=>?_
 have xE:h7.objs.size=(n+6):=xE
 have O7:Own H (((n+5),Z5y a n (x7.nat 2))::(46,Yp a)::((n+4),Vh)::((n+2),Jm)::((n+1),{ cls:=.type "cell",data:=.cell (some (.ref 787)) })::(Ys a x++(Xm (adK a) R0++l))) h7:=O7
 have qO:t<=t6+x7.nat 1:=by lia
 generalize t6+x7.nat 1=t7 at qO ⊢
 generalize x7.nat 2=u7 at O7
 refine Zi (m:=closureFor (Yl (ckS (TZ w b))) (X3 n (TZ w b))) ?_
 have e8:(Zym n (TZ w b) J9).tree=closureFor (Yl (ckS (TZ w b))) (X3 n (TZ w b)):=by unfold Zym; dsimp only; rw [M0]
 refine eqT e8 ?_
 refine (Zuo a n t7).use G (hA.le (by show 20<=55; decide)) O7 (.refl _) xE fun x8 h8 g8 O8 xD qW=>?_
 have xD:h8.objs.size=(n+6):=xD
 have O8:Own H (((n+5),Z5y a n u7)::(46,Yp a)::((n+4),Vh)::((n+2),Jm)::((n+1),{ cls:=.type "cell",data:=.cell (some (.ref 787)) })::(Ys a x++(Xm (adK a) R0++l))) h8:=O8
 have qX:t<=t7+x8.nat 1:=by lia
 generalize t7+x8.nat 1=t8 at qX ⊢
 refine Zfk (Zi (wpAny_enterFrame (G.nolimit.keeps O8.keep) (hA.room) ?_))
 show wpAny _ _ (Pn n storeName loadName mkText mkInt newTextTuple leavingAround Jp 9 (V8 (ckS (TZ w b))) (Zu (ckS (TZ w b))) (Zmn a n (TZ w b)) (.str "K" t)) _ _ _
 have e9:(Z4d a n (HZ w b) (TZ w b) Yf U9 Gw Zd5 X0 Xs "K" t x R0 u7).tree=Pn n storeName loadName mkText mkInt newTextTuple leavingAround Jp 9 (V8 (ckS (TZ w b))) (Zu (ckS (TZ w b))) (Zmn a n (TZ w b)) (.str "K" t):=by
  unfold Z4d
  dsimp only
  rw [Ue,Pz,Zch,Zeh,Um,V5]
 refine eqT e9 ?_
 refine (Zuv a n t x R0 u7 t8).use (rest:=(46,Yp a)::l) G (hA.le (by show 50<=55; decide)) O8 (by
  simp only [Zx.preA,Z4d,Zt]
  exact pm [_,_,_,_,_] [_,_,_] 5655994673791618 194183774555385925237489793) xD fun x9 h9 g9 O9 xF xq=>?_
 have xF:h9.objs.size=(n+25):=xF
 refine hQ (fun k=>x9.nat (k+2)) h9 _ g9 (O9.perm (by
  simp only [Zx.postA,Z4d,Zt]
  exact pm [_] [_,_,_,_] 7327148184486017 3496100610)) xF (by lia) (gtr (gtr (gtr (gtr (gtr (gtr (gtr qF qz) qw) qv) qC) qM) qW) xq)
end
end
noncomputable def Zk1 (w:Hs) (top:LE) (a n:Nat) (x R:LM):Con where
 pre:=(46,Yp a)::(Ys a x++Xm (adK a) R)
 post _:=(46,Yp a)::(Ys a x++Xm (adK a) R)
 fresh x:=Ze6 w top (Nm a n) (fun k=>x.nat (k+2))
 code:=.call (.ref 51) ⟨[.ref 787],[]⟩
 res _:=.ok (.ret (.ref (n+21)))
 need:=60
 fr:=none
 made _:=25
section
theorem Z1e (a n t:Nat) (x R:LM):Z6 T2 prog (wb w b) n t (Zk1 (HZ w b) (TZ w b) a n x R):=by
 refine ⟨fun H h r g A Rz G hA O hs hR=>?_⟩
 have hA:AOk A none 60:=hA
 have O:Own H ((46,Yp a)::(Ys a x++Xm (adK a) R)) h:=O.perm (by
  simp only [Con.preA,Zk1,Zt]
  exact pm [_] [_,_] 14729473 115074)
 obtain ⟨o,ho,hd⟩:=Pl.mp (d51 (w:=w) (b:=b))
 have qI:AOk (A.under (.call (.ref 51) ⟨[.ref 787],[]⟩)) none 59:=hA.under (Zr rfl)
 refine Za2 (O.keep _ _ (G.top _ _ ho)) hd qI.room ?_
 have e2:(Zd9 n (TZ w b) Ua a t).tree=Jn 51 (Z7 (TZ w b) 51) ⟨[.ref 787],[]⟩:=by
  unfold Zd9
  exact Us (Us (Us Mh 51) (Z7 (TZ w b) 51)) ⟨[.ref 787],[]⟩
 refine eqT e2 ?_
 refine (Zry n t).use (rest:=((46,Yp a)::(Ys a x++Xm (adK a) R))) G (qI.bare (by show 20<=59; decide)) O (.refl _) hs fun x1 h1 g1 O1 qU qD=>⟨G.nolimit.keeps O1.keep,?_⟩
 have qU:h1.objs.size=(n+2):=qU
 have qK:t<=t+x1.nat 1:=by lia
 generalize t+x1.nat 1=t1 at qK ⊢
 unfold J0
 rw [Zqw]
 dsimp only
 have qR:AOk (A.under (.func [ckS (TZ w b),Zl (Z7 (TZ w b) 51) 1] (X3 n (TZ w b)))) none 59:=(hA.under (Zr rfl)).bare (Y9 _)
 generalize hA2:A.under (.func [ckS (TZ w b),Zl (Z7 (TZ w b) 51) 1] (X3 n (TZ w b)))=A2 at qR
 refine Gv ?_
 rw [hA2,Zw]
 refine Zi ?_
 refine eqF (by rw [Zze,arm_exec_ClassDef]) ?_
 have kp:∀ a o,Mn (wb w b) a=some o->h1.get? a=some o:=fun a o e=>O1.keep _ _ (G.top a o e)
 refine Zi (Zbf (a:=[]) rfl ?_)
 refine Zi (Zd2 ?_)
 refine Zi ?_
 refine eqF (by rw [← Ze8]) ?_
 refine Y1 (s:=r.at h1 ⟨t1,g1⟩) kp (Zkh n) ?_
 refine Zi (Zfk (Zi ?_))
 refine eqF (by rw [← Zjv]) ?_
 refine Y1 (s:=r.at h1 ⟨t1,g1⟩) kp (Zq3 n) ?_
 refine Zi (Zd2 ?_)
 refine Zfk ?_
 refine eqF (by rw [Zqt,Zrc]) ?_
 refine Ztn a n x R (qR.le (by decide)) G Z2b Z2l (l:=[(n,Z3j)]) (O1.perm (by exact pm [_,_,_] [_,_] 1885471362 549503624)) qU fun y h2 t2 g2 O2 qS qN qF=>?_
 refine Zi (Zbf (a:=Value.ref (n+21)) rfl ?_)
 refine Zi (Zd2 ?_)
 refine Zi ?_
 have e3:(Z1u n (HZ w b) (TZ w b) U5).tree=bindName (X3 n (TZ w b)) (Ps (ckS (TZ w b))) (.ref (n+21)):=by
  unfold Z1u; dsimp only; rw [P2]
 refine eqT e3 ?_
 refine (Zsk a n t2).use (rest:=(46,Yp a)::(Ys a x++(Xm (adK a) R++Ze6 (HZ w b) (TZ w b) (Nm a n) y))) G (qR.le (by show 20<=59; decide)) O2 (by
  simp only [Zx.preA,Z1u,Zt]
  exact pm [_,_] [_,_,_] 1361150338 723966902958899329) qS fun x3 h3 g3 O3 xz qz=>?_
 have xz:h3.objs.size=(n+25):=xz
 refine Yo ?_
 have e4:(Z2k n (HZ w b) (TZ w b) Xr (x3.nat 2)).tree=execs [Zl (Z7 (TZ w b) 51) 1] (X3 n (TZ w b)):=by
  unfold Z2k; dsimp only; rw [Yk]
 refine eqT e4 ?_
 refine (Zw1 a n (x3.nat 2) (t2+x3.nat 1)).use (rest:=(46,Yp a)::(Ys a x++(Xm (adK a) R++Ze6 (HZ w b) (TZ w b) (Nm a n) y))) G (qR.le (by show 20<=59; decide)) O3 (by
  simp only [Zx.preA,Zx.postA,Z2k,Z1u,Zt]
  exact pm [_,_] [_,_,_] 11861475426927659466881 723967006038065281) xz fun x4 h4 g4 O4 xj qw=>?_
 have xj:h4.objs.size=(n+25):=xj
 have qA:=hR ⟨fun j=>match j with | 0=>25 | 1=>t2+x3.nat 1+x4.nat 1 - t | j+2=>y j,fun _=>#[],fun _ _ _=>0,Ext.nil.ob⟩ h4 g4 (Own.drop (r:=[(n,Zny #[ent (HZ w b) "K" (x3.nat 2) (.ref (n+21))] 1)]) (O4.perm (by
  simp only [Zx.postA,Con.postA,Z2k,Zph,Zt]
  exact pm [_,_] [_,_,_] 11861475426927659466881 1126141240950913))) (by rw [xj]; rfl) (gtr (gtr (gtr qD qF) qz) qw)
 have et:t+(t2+x3.nat 1+x4.nat 1 - t)=t2+x3.nat 1+x4.nat 1:=by lia
 change Rz (.ok (.ret (.ref (n+21)))) (r.at h4 ⟨t+(t2+x3.nat 1+x4.nat 1 - t),g4⟩) at qA
 rw [et] at qA
 exact qA
end
noncomputable def Zyj (vl vu:Value):Obj:={ cls:=.type "slice",data:=.fields #[vl,vu,.none] }
noncomputable def Zaz (lst sl:Addr) (xs:LH) (ep:Nat) (lo hi:Option Int) (vl vu:Value) (n:Nat):Con where
 pre:=[(lst,Za xs ep),(sl,Zyj vl vu)]
 post _:=[(lst,Za xs ep)]
 fresh _:=[(n,Za (slicePick ⟨xs⟩ lo hi none).toList 0)]
 code:=.builtin "list.__getitem__" ⟨[.ref lst,.ref sl],[]⟩
 res _:=.ok (.ret (.ref n))
 need:=10
 fr:=none
 gen:=false
 made _:=1
theorem Zmd {sl:Addr} {xs:LH} {lo hi:Option Int} {vl vu:Value} (pl:IsPart vl lo) (pu:IsPart vu hi) (qE:xs.length<=sizeLine) (n t:Nat):Z6 T prog w n t (Zaz lst sl xs ep lo hi vl vu n):=by
 refine ⟨fun H h r g A R G hA O hs hR=>?_⟩
 have hos:=O.own (sl,Zyj vl vu) (.tail _ (.head _))
 have ho:=O.own (lst,Za xs ep) (.head _)
 have hTs:(r.at h ⟨t,g⟩).TypeIs (.ref sl) "slice" := ⟨_,hos,rfl⟩
 refine M3 F.entry_list_getitem ?_
 refine eqA (by rw [Q0q (by decide +kernel)]) ?_
 show wpAny _ _ (Builtin.List.listSubscript? (.ref sl)>>=_) _ _ _
 refine Zi ?_
 unfold Builtin.List.listSubscript?
 refine Zi (wpAny_specialOf hTs slice_no_index ?_)
 refine eqF (by simp only [Option.isNone_none,if_true]; rfl) ?_
 refine Yo ?_
 refine Zi (wpAny_typeOf hTs ?_)
 refine eqF (by rw [if_neg (by decide)]) ?_
 refine eqF (by rw [listSliceParts_eq]) ?_
 refine Zi (Zi (wpAny_field hos (show (Zyj vl vu).data=.fields #[vl,vu,.none] from rfl) (x:=.none) rfl (Zi (wpAny_listPart .none ?_))))
 refine eqF (by rw [if_neg (show ¬ ((rawPart none==rawInt 0)=true) from Q4q)]) ?_
 refine Zi (wpAny_field hos (show (Zyj vl vu).data=.fields #[vl,vu,.none] from rfl) (x:=vl) rfl (Zi (wpAny_listPart pl ?_)))
 refine Zi (wpAny_field hos (show (Zyj vl vu).data=.fields #[vl,vu,.none] from rfl) (x:=vu) rfl (Zi (wpAny_listPart pu (Yo ?_))))
 refine Zi (m:=Builtin.List.listItems (.ref lst)) ?_
 unfold Builtin.List.listItems
 refine Zi (Zwn ho rfl (Yo ?_))
 refine Zi (Zbf (sliceIndices_raw lo hi none (⟨xs⟩:Array Value).size (by simp)) ?_)
 have hsz':(⟨xs⟩:Array Value).size<=sizeLine:=by simpa using qE
 refine Zi (Zyo (Yo ?_) (Zn (slicePick_size_le ⟨xs⟩ lo hi none) hsz'))
 have O':=O.push (Za (slicePick ⟨xs⟩ lo hi none).toList 0) rfl
 have qA:=hR ⟨fun _=>0,fun _=>#[],fun _ _ _=>0,Ext.nil.ob⟩ (h.push (Za (slicePick ⟨xs⟩ lo hi none).toList 0)) g (by rw [hs] at O'; exact O'.drop (r:=[(sl,Zyj vl vu)])) (by rw [Ziu,hs]; rfl) (Zq.refl _ _)
 rw [hs]
 exact qA
theorem Vl (xs:LH) (k:Nat):(slicePick ⟨xs⟩ none (some (k:Int)) none).toList=xs.take k:=by rw [slicePick_upto']
theorem M5 (xs:LH) (k:Nat):(slicePick ⟨xs⟩ (some (k:Int)) none none).toList=xs.drop k:=by rw [slicePick_from']
noncomputable def ptS (top:LE) (k:Nat):Stmt:=Zl (Z7 top 792) k
noncomputable def Va (top:LE) (fr ct ck:Addr):Env:={ scope:=(Z7 top 792).scope,locals:=fr,globals:=3,cells:=[("key",ck),("text",ct)],qual := "_law_put.<locals>.",func:=some 792,code:=.ref 791,frame:=some fr,builtins:=0 }
noncomputable def Zjm (l:LH) (k:Nat):Value:=match l.drop k with
 | v::_=>v
 | []=>.none
noncomputable def Zp (v:Value):Obj:={ cls:=.type "cell",data:=.cell (some v) }
noncomputable def X4:Obj:={ cls:=.type "cell",data:=.cell none }
noncomputable def Zyk (w:Hs) (t0:Nat) (ws:LD) (tl:Nat):LJ:=#[ent w "line" t0 (.str (S (Zg ws)) tl)]
noncomputable def Zfu (w:Hs) (t0:Nat) (ws:LD) (tl t1:Nat) (lw:Addr):LJ:=#[ent w "line" t0 (.str (S (Zg ws)) tl),ent w "words" t1 (.ref lw)]
noncomputable def Z0i (w:Hs) (t0:Nat) (ws:LD) (tl t1:Nat) (lw:Addr) (t2 k tk:Nat):LJ:=#[ent w "line" t0 (.str (S (Zg ws)) tl),ent w "words" t1 (.ref lw),ent w "k" t2 (.int (Int.ofNat k) tk)]
noncomputable def Z2q (w:Hs) (top:LE) (a:Nat) (x R:LM):Fam:=fun n _ _ _ _=>Zk1 w top a n x R
noncomputable def ptV (top:LE):Expr:=Zjb (ptS top 2)
noncomputable def ptC (top:LE):Expr:=Zo (ptV top) 0
noncomputable def ptI (top:LE):Expr:=N9 (Zdh (ptC top) 0) 0
noncomputable def Z2d (ct ck:Addr):List (Str×Addr):=[("text",ct),("key",ck)]
noncomputable def Ybd (c:Code) (k:Nat):Nat:=match c with | .call _ as=>(match as with | ⟨pos,_⟩=>(match pos.drop k with | v::_=>Ju v | []=>0)) | _=>0
noncomputable def Zpt (w:Hs) (top:LE) (aK:LN) (kk:LM) (u:List Nat):Fam:=fun n t c _ _=>kyC w top aK kk u (Ybd c 0) n t
noncomputable def Zz9 (w:Hs) (top:LE) (fr ct ck:Addr) (t0:Nat) (ws:LD) (tl:Nat) (E2 E3:Env) (a2 a3:Addr) (d2 d3:LJ) (k2 k3:Nat) (sl2 sl3:LG):Fam:=fun n t c _ _=>Zrp w top (Zg ws) (Ybd c 0) ⟨(Zg ws).length,none,Zhb ws 1⟩ (ws.map S) (Va top fr ct ck) E2 E3 fr a2 a3 (Zyk w t0 ws tl) d2 d3 1 k2 k3 #[] sl2 sl3 n t
noncomputable def pt1 (w:Hs) (top:LE) (ev:List Stmt->Env->Sem Flow) (fr ct ck t0:Nat) (ws:LD) (tl:Nat) (E2 E3:Env) (a2 a3:Addr) (d2 d3:LJ) (k2 k3:Nat) (sl2 sl3:LG) (n t:Nat):Zx Flow where
 pre:=[(fr,frO (Zyk w t0 ws tl) 1 #[]),(a2,frO d2 k2 sl2),(a3,frO d3 k3 sl3)]
 post x:=[(fr,frO (Zfu w t0 ws tl (x.nat 2) (n+13)) 2 (x.sl 0)),(a2,frO d2 k2 (x.sl 1)),(a3,frO d3 k3 (x.sl 2))]
 fresh x:=[(n+13,Za (wsV (ws.map S) (x.seq 0 0)) (x.nat 3))]
 tree:=ev [ptS top 1] (Va top fr ct ck)
 res x:=.ok .next
 need:=100
 fr:=some [fe (Va top fr ct ck) fr,fe E2 a2,fe E3 a3]
noncomputable def Z7d (o:Obj):LG:=match o with | ⟨_,_,_,sl⟩=>sl
noncomputable def Z6j (f:Nat->Ext) (_:Except Value Flow) (l:LA) (_:LB):Ext:=⟨fun j=>match j with
 | 0=>Nb l 1 1
 | _=>Jo (Z2 l 0),fun j=>match j with
 | 0=>Z7d (Z2 l 1)
 | 1=>Z7d (Z2 l 2)
 | _=>Z7d (Z2 l 3),(f 0).seq,Ext.nil.ob⟩
noncomputable def ptA (w:Hs) (top:LE) (ev:Expr->Env->Value->Sem Unit) (C fr ct ck:Nat) (o:LI) (v:Value) (n t:Nat):Zx Unit where
 pre:=[(C,xV w "word" o)]
 post x:=[(C,xV w "word" (some (x.nat 2,v)))]
 fresh x:=[]
 tree:=ev (Zf (ptC top) 0) (compEnvC (Zc (ptC top)) (Z2d ct ck) C (Va top fr ct ck)) v
 res x:=.ok ()
 need:=20
 fr:=none
 made _:=0
noncomputable def Ja (n:Nat) (f g:LM) (j:Nat):Nat:=if j < n then f j else g (j - n)
noncomputable def Zp9 (ws:LD) (k:Nat) (v:List Nat):LD:=ws.take k++[v]++ws.drop k
noncomputable def Z8q (lw:Addr) (ws:LD) (tk:LM) (k:Nat):Fam:=fun n _ c l _=>{ Zaz lw (Yj (Z8 c 1)) (wsV (ws.map S) tk) (Jo (Z2 l 0)) none (some (Int.ofNat k)) .none (.int (Int.ofNat k) (match Z2 l 1 with | ⟨_,_,.fields f,_⟩=>Ju (Zjm f.toList 1) | _=>0)) n with fresh:=fun _=>[(n,Za (wsV ((ws.take k).map S) tk) 0)] }
noncomputable def Yap (lw:Addr) (ws:LD) (tk:LM) (k:Nat):Fam:=fun n _ c l _=>{ Zaz lw (Yj (Z8 c 1)) (wsV (ws.map S) tk) (Jo (Z2 l 0)) (some (Int.ofNat k)) none (.int (Int.ofNat k) (match Z2 l 1 with | ⟨_,_,.fields f,_⟩=>Ju (Zjm f.toList 0) | _=>0)) .none n with fresh:=fun _=>[(n,Za (wsV ((ws.drop k).map S) (fun j=>tk (j+k))) 0)] }
noncomputable def Z8x (ws:LD) (tk:LM) (k:Nat) (v:List Nat) (tv:Nat):Fam:=fun n _ c l _=>{ Je (Yj (Z8 c 0)) (Yj (Z8 c 1)) (wsV ((ws.take k).map S) tk) [.str (S v) tv] (Jo (Z2 l 0)) (Jo (Z2 l 1)) n with fresh:=fun _=>[(n,Za (wsV ((ws.take k++[v]).map S) (Ja (ws.take k).length tk fun _=>tv)) 0)] }
noncomputable def Z9s (ws:LD) (tk:LM) (k:Nat) (v:List Nat) (tv:Nat):Fam:=fun n _ c l _=>{ Je (Yj (Z8 c 0)) (Yj (Z8 c 1)) (wsV ((ws.take k++[v]).map S) (Ja (ws.take k).length tk fun _=>tv)) (wsV ((ws.drop k).map S) (fun j=>tk (j+k))) (Jo (Z2 l 0)) (Jo (Z2 l 1)) n with fresh:=fun _=>[(n,Za (wsV ((Zp9 ws k v).map S) (Ja (ws.take k++[v]).length (Ja (ws.take k).length tk fun _=>tv) fun j=>tk (j+k))) 0)] }
noncomputable def Zk4 (ws:LD) (k:Nat) (v:List Nat) (tk:LM) (tv:Nat):Fam:=fun _ _ c l _=>Zp4 (Zp9 ws k v) (Ja (ws.take k++[v]).length (Ja (ws.take k).length tk fun _=>tv) fun j=>tk (j+k)) (Yj (Z8 c 0)) (Jo (Z2 l 1)) (Zpm (Z2 l 0))
noncomputable def Zfq (lst:Addr) (xs:LH) (ep:Nat) (i:Int) (u:Nat) (v:Value):Con where
 pre:=[(lst,Za xs ep)]
 post _:=[(lst,Za xs ep)]
 fresh _:=[]
 code:=.builtin "list.__getitem__" ⟨[.ref lst,.int i u],[]⟩
 res _:=.ok (.ret v)
 need:=20
 fr:=none
 made _:=0
noncomputable def orS (top:LE) (k:Nat):Stmt:=Zl (Z7 top 809) k
noncomputable def Jt (top:LE) (fr cr:Addr):Env:={ scope:=(Z7 top 809).scope,locals:=fr,globals:=3,cells:=[("row",cr)],qual := "_law_orders.<locals>.",func:=some 809,code:=.ref 808,frame:=some fr,builtins:=0 }
noncomputable def orT (top:LE):Expr:=Xf (orS top 0)
noncomputable def orC (top:LE):Expr:=M6 (orS top 1)
noncomputable def Zhn (cr:Addr):List (Str×Addr):=[("row",cr)]
noncomputable def Znk (n:Int) (t u v:Nat):Obj:={ cls:=.type "range",dict:=none,data:=.fields #[.int 0 t,.int n u,.int 1 v],slots:=#[] }
noncomputable def fTk (o:Obj) (k:Nat):Nat:=match o with | ⟨_,_,.fields f,_⟩=>Ju (Zjm f.toList k) | _=>0
noncomputable def Z6b (w:Hs) (top:LE) (ev:Expr->Env->Value->Sem Unit) (C fr cr:Nat) (o:Option (Nat×Value×LI)) (v:Value) (n t:Nat):Zx Unit where
 pre:=[(C,x2V w "k" "rest" o)]
 post x:=[(C,x2V w "k" "rest" (match o with | none=>some (x.nat 2,v,none) | some (_,_,none)=>some (x.nat 2,v,none) | some (_,_,some (_,v2))=>some (x.nat 2,v,some (x.nat 3,v2))))]
 fresh x:=[]
 tree:=ev (Zf (orC top) 0) (compEnvC (Zc (orC top)) (Zhn cr) C (Jt top fr cr)) v
 res x:=.ok ()
 need:=20
 fr:=none
 made _:=0
noncomputable def Yat (w:Hs) (top:LE) (ev:Expr->Env->Value->Sem Unit) (C fr cr:Nat) (o:Option (Nat×Value×LI)) (v:Value) (n t:Nat):Zx Unit where
 pre:=[(C,x2V w "k" "rest" o)]
 post x:=[(C,x2V w "k" "rest" (match o with | none=>none | some (_,v1,_)=>some (x.nat 2,v1,some (x.nat 3,v))))]
 fresh x:=[]
 tree:=ev (Zf (orC top) 1) (compEnvC (Zc (orC top)) (Zhn cr) C (Jt top fr cr)) v
 res x:=.ok ()
 need:=20
 fr:=none
 made _:=0
noncomputable def Mr (us:LD) (k:Nat):LD:=us.take k++us.drop (k+1)
noncomputable def Z5d (lw:Addr) (ws:LD) (tk:LM) (k:Nat):Fam:=fun n _ c l _=>{ Zaz lw (Yj (Z8 c 1)) (wsV (ws.map S) tk) (Jo (Z2 l 0)) none (some (Int.ofNat k)) .none (.int (Int.ofNat k) (match Z2 l 1 with | ⟨_,_,.fields f,_⟩=>Ju (Zjm f.toList 1) | _=>0)) n with fresh:=fun _=>[(n,Za (wsV ((ws.take k).map S) tk) 0)] }
noncomputable def Z5z (lw:Addr) (ws:LD) (tk:LM) (k:Nat):Fam:=fun n _ c l _=>{ Zaz lw (Yj (Z8 c 1)) (wsV (ws.map S) tk) (Jo (Z2 l 0)) (some (Int.ofNat k+1)) none (.int (Int.ofNat k+1) (match Z2 l 1 with | ⟨_,_,.fields f,_⟩=>Ju (Zjm f.toList 0) | _=>0)) .none n with fresh:=fun _=>[(n,Za (wsV ((ws.drop (k+1)).map S) (fun j=>tk (j+(k+1)))) 0)] }
noncomputable def Z5i (ws:LD) (tk:LM) (k:Nat):Fam:=fun n _ c l _=>{ Je (Yj (Z8 c 0)) (Yj (Z8 c 1)) (wsV ((ws.take k).map S) tk) (wsV ((ws.drop (k+1)).map S) (fun j=>tk (j+(k+1)))) (Jo (Z2 l 0)) (Jo (Z2 l 1)) n with fresh:=fun _=>[(n,Za (wsV ((Mr ws k).map S) (Ja (ws.take k).length tk fun j=>tk (j+(k+1)))) 0)] }
noncomputable def orX (w:Hs) (top:LE) (ev:Expr->Env->Sem Value) (C fr cr t1 k uk:Nat) (o:LI) (us:LD) (tw:LM) (rw ep:Nat) (n t:Nat):Zx Value where
 pre:=[(C,x2V w "k" "rest" (some (t1,.int (Int.ofNat k) uk,o))),(cr,Zp (.ref rw)),(rw,Za (wsV (us.map S) tw) ep)]
 post x:=[(C,x2V w "k" "rest" (some (t1,.int (Int.ofNat k) uk,o))),(cr,Zp (.ref rw)),(rw,Za (wsV (us.map S) tw) ep)]
 fresh x:=[(x.nat 2,Za (wsV ((Mr us k).map S) (Ja (us.take k).length tw fun j=>tw (j+(k+1)))) 0)]
 tree:=ev (Zo (Ze (orC top) 1) 0) (compEnvC (Zc (orC top)) (Zhn cr) C (Jt top fr cr))
 res x:=.ok (.ref (x.nat 2))
 need:=20
 fr:=none
noncomputable def orG (lw:Addr) (ws:LD) (tk:LM) (k:Nat) (u:List Nat):Fam:=fun _ _ c l _=>Zfq lw (wsV (ws.map S) tk) (Jo (Z2 l 0)) (Int.ofNat k) (Ju (Z8 c 1)) (.str (S u) (tk k))
noncomputable def Yaf (u:List Nat) (tu:Nat) (vs:LD) (tv:LM):Fam:=fun n _ c l _=>{ Je (Yj (Z8 c 0)) (Yj (Z8 c 1)) [.str (S u) tu] (wsV (vs.map S) tv) (Jo (Z2 l 0)) (Jo (Z2 l 1)) n with fresh:=fun _=>[(n,Za (wsV ((u::vs).map S) (Ja 1 (fun _=>tu) tv)) 0)] }
noncomputable abbrev Z5b:Expr->Env->Value->Sem Value:=W.ZFast.zw7768414822394308030
theorem Zgi:Z5b=@foldedSetIterable:=W.ZFast.ze7768414822394308030.symm
noncomputable def Xg (s:Stmt):Expr:=N9 (vS s).1 0
noncomputable def Pb (s:Stmt):Expr:=N9 (vS s).1 1
noncomputable def Zfr (s:Stmt):List Stmt:=(vS s).2.1
noncomputable def Zlh (s:Stmt):Pos:=(vS s).2.2.2
noncomputable def Zk2 (ev:Expr->Env->Sem Value) (fs:Expr->Env->Value->Sem Value) (pi:Value->Sem Value) (i:Expr) (qq:Env):Sem Value:=ev i qq>>=fun v=>fs i qq v>>=fun x=>standAt i.pos>>=fun _=>holding [x] (pi x)
noncomputable def Vf (top:LE) (fr:Addr):Env:=Zcy top 60 59 "reduce.<locals>." fr
noncomputable def rdS' (top:LE) (k:Nat):Stmt:=Zl (Z7 top 60) k
noncomputable def rdA (top:LE):Stmt:=Ul (Zfr (rdS' top 2)) 0
noncomputable def Z9v (w:Hs) (ft:LM) (sq:Addr) (ti:Nat):LJ:=#[ent w "function" (ft 0) (.ref 792),ent w "sequence" (ft 1) (.ref sq),ent w "initial" (ft 2) (.str (S []) ti)]
noncomputable def Z0h (w:Hs) (ft:LM) (sq:Addr) (ti:Nat) (it:Addr) (V:List Nat) (tv:Nat):LJ:=#[ent w "function" (ft 0) (.ref 792),ent w "sequence" (ft 1) (.ref sq),ent w "initial" (ft 2) (.str (S []) ti),ent w "it" (ft 3) (.ref it),ent w "value" (ft 4) (.str (S V) tv)]
noncomputable def Zlv (w:Hs) (ft:LM) (sq:Addr) (ti:Nat) (it:Addr) (V:List Nat) (tv:Nat) (W:List Nat) (tw:Nat):LJ:=#[ent w "function" (ft 0) (.ref 792),ent w "sequence" (ft 1) (.ref sq),ent w "initial" (ft 2) (.str (S []) ti),ent w "it" (ft 3) (.ref it),ent w "value" (ft 4) (.str (S V) tv),ent w "element" (ft 5) (.str (S W) tw)]
noncomputable def rdO (w:Hs) (ft:LM) (sq:Addr) (ti:Nat) (it:Addr) (V:List Nat) (tv:Nat) (sl:LG):Option (List Nat×Nat)->Obj
 | none=>frO (Z0h w ft sq ti it V tv) 5 sl
 | some u=>frO (Zlv w ft sq ti it V tv u.1 u.2) 6 sl
noncomputable def rdI (w:Hs) (top:LE) (ev:Expr->Env->Sem Value) (fs:Expr->Env->Value->Sem Value) (pi:Value->Sem Value) (fr:Nat) (ft:LM) (sq:Addr) (ti:Nat) (it:Addr) (V:List Nat) (tv:Nat) (n t:Nat):Zx Value where
 pre:=[(fr,frO (Z0h w ft sq ti it V tv) 5 #[]),(it,Ge sq 0)]
 post _:=[(fr,frO (Z0h w ft sq ti it V tv) 5 #[]),(it,Ge sq 0)]
 fresh _:=[]
 tree:=Zk2 ev fs pi (Pb (rdS' top 2)) (Vf top fr)
 res _:=.ok (.ref it)
 need:=40
 fr:=none
noncomputable def rdX (top:LE):Expr:=Zjb (rdA top)
noncomputable def evS (top:TpT) (k:Nat):Stmt:=Zl (Z7 top 814) k
noncomputable def evB (top:TpT) (k:Nat):Stmt:=Ul (Zfr (evS top 1)) k
noncomputable def Ut (top:TpT):Expr:=Zjb (evB top 0)
noncomputable def U0 (top:TpT):Expr:=Zjb (evB top 1)
noncomputable def Vm (top:TpT):Expr:=M6 (evS top 2)
noncomputable def Yx (top:TpT) (fr cr:Addr):Env:={ scope:=(Z7 top 814).scope,locals:=fr,globals:=3,cells:=[("texts",cr)],qual := "_law_every.<locals>.",func:=some 814,code:=.ref 813,frame:=some fr,builtins:=0 }
noncomputable def Zvz (cr:Addr):List (Str×Addr):=[("texts",cr)]
noncomputable def evD2 (w:Hs) (ft:LM) (ln rw:Addr):LJ:=#[ent w "lines" (ft 0) (.ref ln),ent w "rows" (ft 1) (.ref rw)]
noncomputable def evD3 (w:Hs) (ft:LM) (ln rw a:Addr):LJ:=#[ent w "lines" (ft 0) (.ref ln),ent w "rows" (ft 1) (.ref rw),ent w "line" (ft 2) (.ref a)]
noncomputable def Vv (w:Hs) (ft:LM) (ln rw:Addr):Option Addr->Obj
 | none=>frO (evD2 w ft ln rw) 2 #[]
 | some a=>frO (evD3 w ft ln rw a) 3 #[]
noncomputable def Zdn:Option Addr->Obj
 | none=>X4
 | some a=>Zp (.ref a)
noncomputable def jaF (ws:LD) (tk:LM):Fam:=fun _ _ c l _=>Zp4 ws tk (Yj (Z8 c 0)) (Jo (Z2 l 1)) (Zpm (Z2 l 0))
noncomputable def Yay (vs:LD) (tv:LM) (u:List Nat) (tu:Nat):Fam:=fun n _ c l _=>{ Je (Yj (Z8 c 0)) (Yj (Z8 c 1)) (wsV (vs.map S) tv) [.str (S u) tu] (Jo (Z2 l 0)) (Jo (Z2 l 1)) n with fresh:=fun _=>[(n,Za (wsV ((vs++[u]).map S) (Ja vs.length tv fun _=>tu)) 0)] }
noncomputable def evO (w:Hs) (top:TpT) (ev:AsT) (C fr cr:Nat) (o:LI) (v:Value) (n t:Nat):Zx Unit:=tW [(C,xV w "order" o)] (fun x=>[(C,xV w "order" (some (x.nat 2,v)))]) (ev (Zf (Ut top) 0) (compEnvC (Zc (Ut top)) [] C (Yx top fr cr)) v) (())
noncomputable def Yaa (w:Hs) (top:TpT) (ev:AsT) (C fr cr:Nat) (o:Option (Nat×Value×LI)) (v:Value) (n t:Nat):Zx Unit:=tW [(C,x2V w "row" "text" o)] (fun x=>[(C,x2V w "row" "text" (match o with | none=>some (x.nat 2,v,none) | some (_,_,none)=>some (x.nat 2,v,none) | some (_,_,some (_,v2))=>some (x.nat 2,v,some (x.nat 3,v2))))]) (ev (Zf (U0 top) 0) (compEnvC (Zc (U0 top)) (Zvz cr) C (Yx top fr cr)) v) (())
noncomputable def Ybf (w:Hs) (top:TpT) (ev:AsT) (C fr cr:Nat) (o:Option (Nat×Value×LI)) (v:Value) (n t:Nat):Zx Unit:=tW [(C,x2V w "row" "text" o)] (fun x=>[(C,x2V w "row" "text" (match o with | none=>none | some (_,v1,_)=>some (x.nat 2,v1,some (x.nat 3,v))))]) (ev (Zf (U0 top) 1) (compEnvC (Zc (U0 top)) (Zvz cr) C (Yx top fr cr)) v) (())
noncomputable def Z9d (w:Hs) (top:TpT) (ev:AsT) (C fr cr:Nat) (o:Option (Nat×Value×LI)) (v:Value) (n t:Nat):Zx Unit:=tW [(C,x2V w "row" "order" o)] (fun x=>[(C,x2V w "row" "order" (match o with | none=>some (x.nat 2,v,none) | some (_,_,none)=>some (x.nat 2,v,none) | some (_,_,some (_,v2))=>some (x.nat 2,v,some (x.nat 3,v2))))]) (ev (Zf (Vm top) 0) (compEnvC (Zc (Vm top)) [] C (Yx top fr cr)) v) (())
noncomputable def Ya9 (w:Hs) (top:TpT) (ev:AsT) (C fr cr:Nat) (o:Option (Nat×Value×LI)) (v:Value) (n t:Nat):Zx Unit:=tW [(C,x2V w "row" "order" o)] (fun x=>[(C,x2V w "row" "order" (match o with | none=>none | some (_,v1,_)=>some (x.nat 2,v1,some (x.nat 3,v))))]) (ev (Zf (Vm top) 1) (compEnvC (Zc (Vm top)) [] C (Yx top fr cr)) v) (())
theorem Zri {xs:LH} {i:Int} {u:Nat} {v:Value} (h0:0<=i) (hk:i < 2 ^ 63) (hx:xs[i.toNat]?=some v) (n t:Nat):Z6 T prog w n t (Zfq lst xs ep i u v):=by
 have hfit:Builtin.List.listFitsIndex i=true:=fitsIndex_of h0 hk
 clear hk
 refine ⟨fun H h r g A R G hA O hs hR=>?_⟩
 have ho:=O.own (lst,Za xs ep) (.head _)
 refine M3 F.entry_list_getitem ?_
 rw [Q0q (by decide +kernel)]
 show wpAny _ _ (Builtin.List.listSubscript? (.int i u)>>=_) _ _ _
 refine Zi (wpAny_listSubscript_int hfit ?_)
 clear hfit
 have qA:R (.ok (.ret v)) (r.at h ⟨t,g⟩):=hR ⟨fun _=>0,fun _=>#[],fun _ _ _=>0,Ext.nil.ob⟩ h g O hs (Zq.refl _ _)
 clear hR
 obtain ⟨j,rfl⟩:=Int.eq_ofNat_of_zero_le h0
 have hx':(⟨xs⟩:Array Value)[j]?=some v:=by simpa using hx
 refine Zi (Zi (wpAny_seqItemAt ho rfl (Yo ?_)))
 rw [hx']
 exact Yo qA
theorem Zto {xs:LH} {i:Int} {u:Nat} {v:Value} (hi:i=Int.ofNat k) (hk:Int.ofNat k < 2 ^ 63) (hx:xs[k]?=some v) (n t:Nat):Z6 T prog w n t (Zfq lst xs ep i u v):=by
 subst hi
 exact Zri (Int.natCast_nonneg k) hk hx n t
noncomputable def Zrv (lst:Addr) (xs:LH) (ep m:Nat):Con where
 pre:=[(lst,Za xs ep)]
 post _:=[(lst,Za xs ep)]
 fresh _:=[]
 code:=.builtin "len" ⟨[.ref lst],[]⟩
 res x:=.ok (.ret (.int (Int.ofNat m) (x.nat 2)))
 need:=10
 fr:=none
 made _:=0
theorem My {xs:LH} {m:Nat} (hm:xs.length=m) (hl:xs.length < 2 ^ 63) (n t:Nat):Z6 T prog w n t (Zrv lst xs ep m):=by
 subst hm
 refine ⟨fun H h r g A R G hA O hs hR=>?_⟩
 have qA:R (.ok (.ret (.int (Int.ofNat xs.length) (t+1)))) (r.at h ⟨t+2,g⟩):=hR ⟨fun j=>match j with | 1=>2 | 2=>t+1 | _=>0,fun _=>#[],fun _ _ _=>0,Ext.nil.ob⟩ h g O hs (Zq.refl _ _)
 refine M3 entry_len ?_
 rw [Q0q plain_len]
 refine Jy (wpAny_len_body_list (s:=r.at h ⟨t,g⟩) (Q:=fun v s'=>R (.ok (.ret v)) s') (Yn (O.own (lst,_) (.head _))) ?_ ?_) (fun qA s' q=>?_) fun _ _ q=>q
 ·show ((xs.length:Nat):Int) < 2 ^ 63
  have:=hl
  lia
 ·exact qA
 ·obtain ⟨v,rfl,q⟩:=q
  exact q
noncomputable def Zzx (i:Int) (u:Nat):Con where
 pre:=[]
 post _:=[]
 fresh _:=[]
 code:=.builtin "chr" ⟨[.int i u],[]⟩
 res x:=.ok (.ret (.str (S [i.toNat]) (x.nat 2)))
 need:=10
 fr:=none
 made _:=0
theorem Z80 {i:Int} {u:Nat} (hi:(decide (i < 0)||decide (i > 0x10FFFF))=false) (n t:Nat):Z6 T prog w n t (Zzx i u):=by
 refine ⟨fun H h r g A R G hA O hs hR=>?_⟩
 refine M3 F.entry_chr ?_
 rw [Q0q F.plain_chr]
 refine gives_chr i u hi prog w A R (r.at h ⟨t,g⟩) ?_
 exact ⟨by show 1<=sizeLine; decide,hR ⟨fun j=>match j with | 1=>1 | 2=>t | _=>0,fun _=>#[],fun _ _ _=>0,Ext.nil.ob⟩ h g O hs (Zq.refl _ _)⟩
theorem Zai {xs:LH} {u:Nat} {v:Value} (hl:xs.length < 2 ^ 62) (n t:Nat):Z6 T prog w n t (Zfq lst (xs++[v]) ep (-1) u v):=by
 refine ⟨fun H h r g A R G hA O hs hR=>?_⟩
 have ho:=O.own (lst,_) (.head _)
 refine M3 F.entry_list_getitem ?_
 rw [Q0q (by decide +kernel)]
 show wpAny _ _ (Builtin.List.listSubscript? (.int (-1) u)>>=_) _ _ _
 refine Zi (wpAny_listSubscript_int (by decide) ?_)
 have qA:R (.ok (.ret v)) (r.at h ⟨t,g⟩):=hR ⟨fun _=>0,fun _=>#[],fun _ _ _=>0,Ext.nil.ob⟩ h g O hs (Zq.refl _ _)
 show wpAny _ _ ((Builtin.List.listItems (.ref lst)>>=fun ys=>pure ((seqIndex? (Int.negSucc 0) ys.size).bind fun i=>ys[i]?.map (i,·)))>>=_) _ _ _
 refine Zi (Zi ?_)
 show wpAny _ _ (seqItems? (.ref lst)>>=_) _ _ _
 refine Zi (Zwn ho rfl (Yo (Yo ?_)))
 have hz:(⟨xs++[v]⟩:Array Value).size=xs.length+1:=by simp
 rw [hz,PySem.seqIndex_neg (by decide) (by lia)]
 have e:(Int.negSucc 0+((xs.length+1:Nat):Int)).toNat=xs.length:=by lia
 rw [Option.bind_some,e,show (⟨xs++[v]⟩:Array Value)[xs.length]?=some v by simp]
 exact Yo qA
noncomputable def Zhj (lst:Addr) (xs:LH) (ep u:Nat) (v v':Value):Con where
 pre:=[(lst,Za (xs++[v]) ep)]
 post x:=[(lst,Za (xs++[v']) (x.nat 2))]
 fresh _:=[]
 code:=.builtin "list.__setitem__" ⟨[.ref lst,.int (-1) u,v'],[]⟩
 res _:=.ok (.ret .none)
 need:=20
 fr:=none
 made _:=0
theorem Zhf {xs:LH} {u:Nat} {v v':Value} (hl:xs.length < 2 ^ 62) (n t:Nat):Z6 T prog w n t (Zhj lst xs ep u v v'):=by
 refine ⟨fun H h r g A R G hA O hs hR=>?_⟩
 have ho:=O.own (lst,_) (.head _)
 refine M3 F.entry_list_setitem ?_
 rw [Q0q (by decide +kernel)]
 show wpAny _ _ (Builtin.List.listSubscript? (.int (-1) u)>>=_) _ _ _
 refine Zi (wpAny_listSubscript_int (by decide) ?_)
 show wpAny _ _ ((Builtin.List.listItems (.ref lst)>>=fun ys=>pure ((seqIndex? (Int.negSucc 0) ys.size).bind fun i=>ys[i]?.map (i,·)))>>=_) _ _ _
 refine Zi (Zi ?_)
 refine Zi (Zwn ho rfl (Yo (Yo ?_)))
 have hz:(⟨xs++[v]⟩:Array Value).size=xs.length+1:=by simp
 rw [hz,PySem.seqIndex_neg (by decide) (by lia)]
 have e:(Int.negSucc 0+((xs.length+1:Nat):Int)).toNat=xs.length:=by lia
 rw [Option.bind_some,e,show (⟨xs++[v]⟩:Array Value)[xs.length]?=some v by simp]
 obtain ⟨ep',hep⟩:∃ ep',Obj.mapSeq (·.setIfInBounds xs.length v') (Za (xs++[v]) ep)=Za (xs++[v']) ep':=by
  have q:(⟨xs++[v]⟩:Array Value).setIfInBounds xs.length v'=⟨xs++[v']⟩:=by simp
  refine ⟨if (⟨xs++[v']⟩:Array Value).size==(⟨xs++[v]⟩:Array Value).size then ep else ep+1,?_⟩
  simp only [Obj.mapSeq,Za,q]
 refine Zi (wpAny_setSeqItemAt ho rfl ?_)
 have O':=O.update (Obj.mapSeq (·.setIfInBounds xs.length v')) (by rw [hep]; rfl)
 rw [hep] at O'
 exact Yo (hR ⟨fun j=>match j with | 2=>ep' | _=>0,fun _=>#[],fun _ _ _=>0,Ext.nil.ob⟩ (h.update lst (Obj.mapSeq (·.setIfInBounds xs.length v'))) g O' (by rw [← hs]; exact (Zhz ..).1) (Zq.refl _ _))
noncomputable def Zhm (s:Stmt) (k:Nat):Stmt:=Ul (vS s).2.2.1 k
noncomputable def drS (top:TpT) (k:Nat):Stmt:=Zl (Z7 top 780) k
noncomputable def drB (top:TpT) (k:Nat):Stmt:=Ul (Zfr (drS top 1)) k
noncomputable def Zl0 (top:TpT):Stmt:=Zhm (drB top 2) 0
noncomputable def Znh (top:TpT):Stmt:=Zhm (Zl0 top) 0
noncomputable def Zsa (top:TpT):Expr:=Zjb (drB top 1)
noncomputable def drC (top:TpT):Expr:=Zo (Zsa top) 0
noncomputable def Xe (top:TpT) (fr:Addr):Env:=Zcy top 780 779 "_law_drawn.<locals>." fr
noncomputable def drD2 (w:Hs) (ft:LM) (sc ln:Addr):LJ:=#[ent w "script" (ft 0) (.ref sc),ent w "lines" (ft 1) (.ref ln)]
noncomputable def drD3 (w:Hs) (ft:LM) (sc ln:Addr) (y:Int×Nat):LJ:=#[ent w "script" (ft 0) (.ref sc),ent w "lines" (ft 1) (.ref ln),ent w "y" (ft 2) (.int y.1 y.2)]
noncomputable def drD4 (w:Hs) (ft:LM) (sc ln:Addr) (y k:Int×Nat):LJ:=#[ent w "script" (ft 0) (.ref sc),ent w "lines" (ft 1) (.ref ln),ent w "y" (ft 2) (.int y.1 y.2),ent w "k" (ft 3) (.int k.1 k.2)]
noncomputable def Z5p (w:Hs) (ft:LM) (sc ln:Addr) (y k c:Int×Nat):LJ:=#[ent w "script" (ft 0) (.ref sc),ent w "lines" (ft 1) (.ref ln),ent w "y" (ft 2) (.int y.1 y.2),ent w "k" (ft 3) (.int k.1 k.2),ent w "count" (ft 4) (.int c.1 c.2)]
noncomputable def Zr2 (w:Hs) (ft:LM) (sc ln:Addr):Option ((Int×Nat)×(Int×Nat)×(Int×Nat))->Obj
 | none=>frO (drD2 w ft sc ln) 2 #[]
 | some o=>frO (Z5p w ft sc ln o.1 o.2.1 o.2.2) 5 #[]
noncomputable def Ybh (w:Hs) (ft:LM) (sc ln:Addr) (y:Int×Nat):Option ((Int×Nat)×(Int×Nat))->Obj
 | none=>frO (drD3 w ft sc ln y) 3 #[]
 | some o=>frO (Z5p w ft sc ln y o.1 o.2) 5 #[]
noncomputable def Znn (w:Hs) (ft:LM) (sc ln:Addr) (y k:Int×Nat):Option (Int×Nat)->Obj
 | none=>frO (drD4 w ft sc ln y k) 4 #[]
 | some o=>frO (Z5p w ft sc ln y k o) 5 #[]
noncomputable def Gk (w:Hs) (ft:LM) (sc ln:Addr) (y k c:Int×Nat):Obj:=frO (Z5p w ft sc ln y k c) 5 #[]
noncomputable def Xd:List Int:=[5,1,0,4,1,3]
noncomputable def Zzq (lst:Addr) (xs:LH) (ep:Nat) (ys:LH):Fam:=fun n _ c l _=>{ Zaz lst (Yj (Z8 c 1)) xs ep none (some 10) .none (.int 10 (match Z2 l 1 with | ⟨_,_,.fields f,_⟩=>Ju (Zjm f.toList 1) | _=>0)) n with fresh:=fun _=>[(n,Za ys 0)] }
noncomputable def Zd6 (l:LH) (j:Nat):Nat:=Ju (Zjm l j)
noncomputable def Ya6 (ys:List Int) (tk:LM):Fam:=fun n _ c l _=>{ Je (Yj (Z8 c 0)) (Yj (Z8 c 1)) (Jh ys tk) (Jh Xd (Zd6 (Nh (Z2 l 1)))) (Jo (Z2 l 0)) (Jo (Z2 l 1)) n with fresh:=fun _=>[(n,Za (Jh (ys++Xd) (Ja ys.length tk (Zd6 (Nh (Z2 l 1))))) 0)] }
noncomputable def Zmo (xs:LH):Fam:=fun _ _ c l _=>Zrv (Yj (Z8 c 0)) xs (Jo (Z2 l 0)) xs.length
noncomputable def Zbd (xs:LH) (v:Value):Fam:=fun _ _ c l _=>Zfq (Yj (Z8 c 0)) (xs++[v]) (Jo (Z2 l 0)) (-1) (Ju (Z8 c 1)) v
noncomputable def Ya2 (xs:LH):Fam:=fun _ _ c l _=>Z47 (Yj (Z8 c 0)) xs (Jo (Z2 l 0)) (Z8 c 1)
noncomputable def Ybi (xs:LH) (v:Value):Fam:=fun _ _ c l _=>Zhj (Yj (Z8 c 0)) xs (Jo (Z2 l 0)) (Ju (Z8 c 1)) v (Z8 c 2)
noncomputable def chrF (i:Int):Fam:=fun _ _ c _ _=>Zzx i (Ju (Z8 c 0))
noncomputable def kOf (Y:Int):Int:=Z.modQ Y 16
noncomputable def drK (w:Hs) (top:TpT) (ev:ExT) (fr:Nat) (ft:LM) (sc ln:Nat) (Y:Int) (ty:Nat) (o:Option ((Int×Nat)×(Int×Nat))) (K:Int) (n t:Nat):Zx Flow where
 pre:=[(fr,Ybh w ft sc ln (Y,ty) o)]
 post x:=[(fr,Znn w (fun j=>x.nat (j+3)) sc ln (Y,ty) (K,x.nat 2) (o.map fun p=>p.2))]
 fresh _:=[]
 tree:=ev [drB top 0] (Xe top fr)
 res _:=.ok .next
 need:=20
 fr:=none
 made _:=0
noncomputable def drCa (w:Hs) (top:TpT) (ev:AsT) (C fr:Nat) (o:LI) (v:Value) (n t:Nat):Zx Unit:=tW [(C,xV w "line" o)] (fun x=>[(C,xV w "line" (some (x.nat 2,v)))]) (ev (Zf (drC top) 0) (compEnvC (Zc (drC top)) [] C (Xe top fr)) v) (())
noncomputable def Z55 (w:Hs) (top:TpT) (is:IsT) (ev:EvT) (fr:Nat) (ft:LM) (sc ln:Nat) (Y:Int) (ty:Nat) (K:Int) (tk:Nat) (c:Int) (tc:Nat) (xs:LH) (ep:Nat) (b:Bool) (n t:Nat):Zx Bool where
 pre:=[(fr,Gk w ft sc ln (Y,ty) (K,tk) (c,tc)),(ln,Za xs ep)]
 post _:=[(fr,Gk w ft sc ln (Y,ty) (K,tk) (c,tc)),(ln,Za xs ep)]
 fresh _:=[]
 tree:=is (Xf (drB top 2)) (Xe top fr) (ev (Xf (drB top 2)) (Xe top fr))
 res _:=.ok b
 need:=40
 fr:=none
noncomputable def Z3s (w:Hs) (top:TpT) (is:IsT) (ev:EvT) (fr:Nat) (ft:LM) (sc ln:Nat) (Y:Int) (ty:Nat) (K:Int) (tk:Nat) (c:Int) (tc:Nat) (xs:LH) (ep a:Nat) (vs:LH) (ea:Nat) (b:Bool) (n t:Nat):Zx Bool where
 pre:=[(fr,Gk w ft sc ln (Y,ty) (K,tk) (c,tc)),(ln,Za (xs++[.ref a]) ep),(a,Za vs ea)]
 post _:=[(fr,Gk w ft sc ln (Y,ty) (K,tk) (c,tc)),(ln,Za (xs++[.ref a]) ep),(a,Za vs ea)]
 fresh _:=[]
 tree:=is (Xf (Zl0 top)) (Xe top fr) (ev (Xf (Zl0 top)) (Xe top fr))
 res _:=.ok b
 need:=40
 fr:=none
noncomputable def Yaz (w:Hs) (top:TpT) (is:IsT) (ev:EvT) (fr:Nat) (ft:LM) (sc ln:Nat) (Y:Int) (ty:Nat) (K:Int) (tk:Nat) (c:Int) (tc:Nat)  (b:Bool) (n t:Nat):Zx Bool where
 pre:=[(fr,Gk w ft sc ln (Y,ty) (K,tk) (c,tc))]
 post _:=[(fr,Gk w ft sc ln (Y,ty) (K,tk) (c,tc))]
 fresh _:=[]
 tree:=is (Xf (Znh top)) (Xe top fr) (ev (Xf (Znh top)) (Xe top fr))
 res _:=.ok b
 need:=40
 fr:=none
noncomputable def cOf (Y:Int):Int:=1+Z.modQ (Z.divQ Y 16) 55295
noncomputable def Z3q (k:Nat):Nat:=([45,126,44,39,32,37,97,33,34,65,10,35,45,126,44]:List Nat).getD k 0
noncomputable def Ybc (w:Hs) (top:TpT) (ev:ExT) (fr:Nat) (ft:LM) (sc ln:Nat) (Y:Int) (ty:Nat) (K:Int) (tk:Nat) (c:Int) (tc:Nat) (xs:LH) (ep a:Nat) (vs:LH) (ea:Nat) (u:List Nat) (tu:Nat) (z:Nat) (n t:Nat):Zx Flow where
 pre:=[(fr,Gk w ft sc ln (Y,ty) (K,tk) (c,tc)),(ln,Za (xs++[.ref a]) ep),(a,Za (vs++[.str (S u) tu]) ea)]
 post x:=[(fr,Gk w ft sc ln (Y,ty) (K,tk) (c,tc)),(ln,Za (xs++[.ref a]) ep),(a,Za (vs++[.str (S (u++[z])) (x.nat 3)]) (x.nat 2))]
 fresh x:=[]
 tree:=ev [V3 (Znh top) 0] (Xe top fr)
 res x:=.ok .next
 need:=30
 fr:=none
noncomputable def Ya8 (w:Hs) (top:TpT) (ev:ExT) (fr:Nat) (ft:LM) (sc ln:Nat) (Y:Int) (ty:Nat) (K:Int) (tk:Nat) (c:Int) (tc:Nat) (xs:LH) (ep a:Nat) (vs:LH) (ea:Nat) (u:List Nat) (tu:Nat) (z:Nat) (n t:Nat):Zx Flow where
 pre:=[(fr,Gk w ft sc ln (Y,ty) (K,tk) (c,tc)),(ln,Za (xs++[.ref a]) ep),(a,Za (vs++[.str (S u) tu]) ea)]
 post x:=[(fr,Gk w ft sc ln (Y,ty) (K,tk) (c,tc)),(ln,Za (xs++[.ref a]) ep),(a,Za (vs++[.str (S (u++[z])) (x.nat 3)]) (x.nat 2))]
 fresh x:=[]
 tree:=ev [Zhm (Znh top) 0] (Xe top fr)
 res x:=.ok .next
 need:=30
 fr:=none
noncomputable def exX4 {α:Type}:(Nat->Ext)->Except Value α->LA->LB->Ext:=fun f _ l _=>exN fun j=>match j with | 0=>Jo (Z2 l 2) | _=>(f 2).nat 2
section
open PySem
noncomputable def Zh2 (u:List Nat):List Nat:=Zv u++[32]
noncomputable def Xb (u:List Nat):Bool:=!u.isEmpty&&u.all Yb
theorem Vi {u:List Nat} (h:Xb u=true):Zv u=u:=by
 cases u with
 | nil=>cases h
 | cons c r =>
  have h:(c::r).all Yb=true:=h
  show (match (c::r).all Yb with | true=>c::r | false=>39::(Jj (c::r)++[39]))=_
  rw [h]
theorem Vj {u:List Nat} (h:Xb u=false):Zv u=39::(Jj u++[39]):=by
 cases u with
 | nil=>rfl
 | cons c r =>
  have h:(c::r).all Yb=false:=h
  show (match (c::r).all Yb with | true=>c::r | false=>39::(Jj (c::r)++[39]))=_
  rw [h]
theorem Zeu:Yb 32=false:=by decide
theorem Zr7:Yb 39=false:=by decide
theorem Y2 (c:Nat) (r:List Nat):Jj (c::r)=(if c=39 then [39,34,39,34,39] else [c])++Jj r:=rfl
theorem Jf {u:List Nat} (h:Xb u=true):u.all Yb=true:=by
 unfold Xb at h
 rw [Q1q] at h
 exact h.2
inductive Yu:List Nat->List Nat->Prop
 | here {a b:Nat} {x y:List Nat}:a < b->Yu (a::x) (b::y)
 | on {a:Nat} {x y:List Nat}:Yu x y->Yu (a::x) (a::y)
theorem Yu.lt (h:Yu x y):x < y:=by
 induction h with
 | here h=>exact List.Lex.rel h
 | on _ ih=>exact List.Lex.cons ih
theorem Yu.app (h:Yu x y) (p q:List Nat):Yu (x++p) (y++q):=by
 induction h with
 | here h=>exact .here h
 | on _ ih=>exact .on ih
theorem Yu.pre (h:Yu x y):∀ p:List Nat,Yu (p++x) (p++y)
 | []=>h
 | a::p=>.on (h.pre p)
theorem Yu.ne (h:Yu x y):x≠y:=by
 induction h with
 | here h=>exact fun e=>by cases e; lia
 | on _ ih=>exact fun e=>ih (List.cons.inj e).2
theorem Yu.irrefl (h:Yu x x):False:=h.ne rfl
theorem Yu.trans {z:List Nat} (h:Yu x y) (h':Yu y z):Yu x z:=by
 induction h generalizing z with
 | here h =>
  cases h' with
  | here h'=>exact .here (Nat.lt_trans h h')
  | on h'=>exact .here h
 | on h ih =>
  cases h' with
  | here h'=>exact .here h'
  | on h'=>exact .on (ih h')
theorem Yu.asymm (h:Yu x y) (h':Yu y x):False:=(h.trans h').irrefl
theorem Zem:∀ u v:List Nat,u=v∨Yu (Jj u++[39,32]) (Jj v++[39,32])∨Yu (Jj v++[39,32]) (Jj u++[39,32])
 | [],[]=>.inl rfl
 | [],d::v=>by
  rw [Y2]
  by_cases hd:d=39
  ·rw [if_pos hd]; exact .inr (.inl (.on (.here (by decide))))
  ·rw [if_neg hd]
   by_cases h:39 < d
   ·exact .inr (.inl (.here h))
   ·exact .inr (.inr (.here (by lia)))
 | c::u,[]=>by
  rw [Y2]
  by_cases hc:c=39
  ·rw [if_pos hc]; exact .inr (.inr (.on (.here (by decide))))
  ·rw [if_neg hc]
   by_cases h:39 < c
   ·exact .inr (.inr (.here h))
   ·exact .inr (.inl (.here (by lia)))
 | c::u,d::v=>by
  rw [Y2,Y2]
  by_cases e:c=d
  ·subst e
   rcases Zem u v with h | h | h
   ·exact .inl (by rw [h])
   ·refine .inr (.inl ?_)
    rw [Zdp,Zdp]
    exact h.pre _
   ·refine .inr (.inr ?_)
    rw [Zdp,Zdp]
    exact h.pre _
  ·by_cases hc:c=39
   ·rw [if_pos hc,if_neg (by lia)]
    by_cases h:39 < d
    ·exact .inr (.inl (.here h))
    ·exact .inr (.inr (.here (by lia)))
   ·by_cases hd:d=39
    ·rw [if_neg hc,if_pos hd]
     by_cases h:39 < c
     ·exact .inr (.inr (.here h))
     ·exact .inr (.inl (.here (by lia)))
    ·rw [if_neg hc,if_neg hd]
     by_cases h:c < d
     ·exact .inr (.inl (.here h))
     ·exact .inr (.inr (.here (by lia)))
theorem Zau:∀ u v:List Nat,u.all Yb=true->v.all Yb=true->u=v∨Yu (u++[32]) (v++[32])∨Yu (v++[32]) (u++[32])
 | [],[],_,_=>.inl rfl
 | [],d::v,_,h=>by
  have hd:d≠32:=fun e=>by rw [e] at h; simp [Zeu] at h
  by_cases h:32 < d
  ·exact .inr (.inl (.here h))
  ·exact .inr (.inr (.here (by lia)))
 | c::u,[],h,_=>by
  have hd:c≠32:=fun e=>by rw [e] at h; simp [Zeu] at h
  by_cases h:32 < c
  ·exact .inr (.inr (.here h))
  ·exact .inr (.inl (.here (by lia)))
 | c::u,d::v,h1,h2=>by
  simp only [List.all_cons,Q1q] at h1 h2
  by_cases e:c=d
  ·subst e
   rcases Zau u v h1.2 h2.2 with h | h | h
   ·exact .inl (by rw [h])
   ·exact .inr (.inl (.on h))
   ·exact .inr (.inr (.on h))
  ·by_cases h:c < d
   ·exact .inr (.inl (.here h))
   ·exact .inr (.inr (.here (by lia)))
theorem J4 (u v:List Nat):u=v∨Yu (Zh2 u) (Zh2 v)∨Yu (Zh2 v) (Zh2 u):=by
 unfold Zh2
 have oth:∀ {u:List Nat},Xb u=false->Zv u++[32]=39::(Jj u++[39,32]):=fun h=>by rw [Vj h]; simp
 have mix:∀ {u v:List Nat},Xb u=true->Xb v=false->Yu (Zv u++[32]) (Zv v++[32])∨Yu (Zv v++[32]) (Zv u++[32]):=fun {u v} hu hv=>by
  rw [Vi hu,oth hv]
  cases u with
  | nil=>cases hu
  | cons c r =>
   have hc:c≠39:=fun e=>by
    have:=Jf hu
    rw [e] at this
    simp [Zr7] at this
   by_cases h:c < 39
   ·exact .inl (.here h)
   ·exact .inr (.here (by lia))
 cases hu:Xb u with
 | true =>
  cases hv:Xb v with
  | true =>
   rw [Vi hu,Vi hv]
   exact Zau u v (Jf hu) (Jf hv)
  | false=>exact .inr (mix hu hv)
 | false =>
  cases hv:Xb v with
  | true=>exact .inr ((mix hv hu).symm)
  | false =>
   rw [oth hu,oth hv]
   rcases Zem u v with h | h | h
   ·exact .inl h
   ·exact .inr (.inl (.on h))
   ·exact .inr (.inr (.on h))
noncomputable def Yz (u v:List Nat):Prop:=Yu (Zh2 u) (Zh2 v)
theorem Yz.irrefl {u:List Nat} (h:Yz u u):False:=Yu.irrefl h
theorem Yz.trans {u v z:List Nat} (h:Yz u v) (h':Yz v z):Yz u z:=Yu.trans h h'
theorem Yz.asymm {u v:List Nat} (h:Yz u v) (h':Yz v u):False:=Yu.asymm h h'
theorem Zp7 (u v:List Nat):Zg [u,v]=Zh2 u++Zv v:=by
 show Zv u++32::Zv v=_
 unfold Zh2
 simp
theorem G9 {u v:List Nat} (h:Yz u v):cpQ u v=-3:=by
 have hb:Yu (Zg [u,v]) (Zg [v,u]):=by rw [Zp7,Zp7]; exact Yu.app h _ _
 have h1:Vk (S (Zg [u,v])) (S (Zg [v,u]))=false:=by
  unfold Vk
  refine Znu fun e=>?_
  have e:Zg [u,v]=Zg [v,u]:=e
  rw [e] at hb
  exact hb.irrefl
 unfold cpQ
 rw [h1,Za7 hb.lt]
theorem Zad {u v:List Nat} (h:Yz v u):cpQ u v=5:=by
 have hb:Yu (Zg [v,u]) (Zg [u,v]):=by rw [Zp7,Zp7]; exact Yu.app h _ _
 have h1:Vk (S (Zg [u,v])) (S (Zg [v,u]))=false:=by
  unfold Vk
  refine Znu fun e=>?_
  have e:Zg [u,v]=Zg [v,u]:=e
  rw [e] at hb
  exact hb.irrefl
 have h2:¬ Zg [u,v] < Zg [v,u]:=fun hl=>by
  have:=List.lt_trans hl hb.lt
  exact List.lt_irrefl _ this
 unfold cpQ
 rw [h1,Uz h2]
theorem Zcl (u:List Nat):cpQ u u=0:=by
 have h1:Vk (S (Zg [u,u])) (S (Zg [u,u]))=true:=by unfold Vk; simp
 unfold cpQ
 rw [h1]
theorem Zu7 {u v:List Nat}:cpQ u v < 0↔Yz u v:=by
 rcases J4 u v with rfl | h | h
 ·rw [Zcl]; exact ⟨fun h=>by lia,fun h=>h.irrefl.elim⟩
 ·rw [G9 h]; exact ⟨fun _=>h,fun _=>by decide⟩
 ·rw [Zad h]; exact ⟨fun h=>by lia,fun h'=>(Yz.asymm h h').elim⟩
theorem Zmq {u v:List Nat}:cpQ u v > 0↔Yz v u:=by
 rcases J4 u v with rfl | h | h
 ·rw [Zcl]; exact ⟨fun h=>by lia,fun h=>h.irrefl.elim⟩
 ·rw [G9 h]; exact ⟨fun h=>by lia,fun h'=>(Yz.asymm h h').elim⟩
 ·rw [Zad h]; exact ⟨fun _=>h,fun _=>by decide⟩
end
section
open PySem PySem.W PyProof.Rows
noncomputable def pw (n:Nat) (lt:Nat->Nat->Bool) {α:Type}:KasT α->(α->Prop)->Prop
 | .ret a,Q=>Q a
 | .ask i j k,Q=>i < n/\j < n/\i≠j/\pw n lt (k (lt i j)) Q
theorem Zqu {n:Nat} {lt:Nat->Nat->Bool} {cmp:Nat->Nat->(Bool->Shared->Prop)->Shared->Prop} {J:Shared->Prop} (hc:∀ i j C s,i < n->j < n->i≠j->J s->(∀ s',J s'->C (lt i j) s')->cmp i j C s) {P:α->Prop} {Q:α->Shared->Prop} (hQ:∀ a s,P a->J s->Q a s):∀ {t:KasT α} {s:Shared},pw n lt t P->J s->t.kasWp cmp Q s
 | .ret a,s,h,hs=>hQ a s h hs
 | .ask i j k,s,h,hs=>hc i j _ s h.1 h.2.1 h.2.2.1 hs fun s' hs'=>Zqu hc hQ (t:=k (lt i j)) h.2.2.2 hs'
section
variable {key:Nat->Int} {N:Nat}
noncomputable def ltK (key:Nat->Int) (i j:Nat):Bool:=decide (key i < key j)
noncomputable def Bf (key:Nat->Int) (i j:Nat):Prop:=key i < key j∨(key i=key j/\i < j)
noncomputable def Asc (key:Nat->Int) (p:Array Nat) (n:Nat):Prop:=∀ a b,a < b->b < n->Bf key (p.getD a 0) (p.getD b 0)
structure Un (N:Nat) (p:Array Nat) (n:Nat):Prop where
 size:p.size=N
 le:n<=N
 lo:∀ m,m < n->p.getD m 0 < n
 hi:∀ m,n<=m->m < N->p.getD m 0=m
noncomputable def pwB (n:Nat) (lt:Nat->Nat->Bool) {α:Type}:KasT α->(α->Bool)->Bool
 | .ret a,Q=>Q a
 | .ask i j k,Q=>decide (i < n)&&(decide (j < n)&&(decide (i≠j)&&pwB n lt (k (lt i j)) Q))
theorem Zq0 {n:Nat} {lt lt':Nat->Nat->Bool} (hl:∀ i j,i < n->j < n->i≠j->lt i j=lt' i j) {q:α->Bool} {Q:α->Prop} (hq:∀ a,q a=true->Q a):∀ {t:KasT α},pwB n lt t q=true->pw n lt' t Q
 | .ret a,h=>hq a h
 | .ask i j k,h=>by
  obtain ⟨h1,h⟩:=Q2q.mp h
  obtain ⟨h2,h⟩:=Q2q.mp h
  obtain ⟨h3,h⟩:=Q2q.mp h
  have h1:=Znp h1
  have h2:=Znp h2
  have h3:=Znp h3
  refine ⟨h1,h2,h3,?_⟩
  rw [← hl i j h1 h2 h3]
  exact Zq0 hl hq (t:=k (lt i j)) h
noncomputable def lt3 (a b c d e f:Bool) (i j:Nat):Bool:=if i=0 then (if j=1 then a else if j=2 then b else false) else if i=1 then (if j=0 then c else if j=2 then d else false) else if j=0 then e else if j=1 then f else false
noncomputable def bfB (lt:Nat->Nat->Bool) (i j:Nat):Bool:=lt i j||(!lt i j&&(!lt j i&&decide (i < j)))
noncomputable def okB (N:Nat) (lt:Nat->Nat->Bool) (p:Array Nat):Bool:=decide (p.size=N)&&((List.range N).all (fun m=>decide (p.getD m 0 < N))&&(List.range N).all fun b=>(List.range b).all fun a=>bfB lt (p.getD a 0) (p.getD b 0))
noncomputable def wo (a b c d e f:Bool):Bool:=!(a&&c)&&!(b&&e)&&!(d&&f)&&(!(a&&d)||b)&&(!(b&&f)||a)&&(!(c&&b)||d)&&(!(d&&e)||c)&&(!(e&&a)||f)&&(!(f&&c)||e)&&((a||d)||!b)&&((b||f)||!a)&&((c||b)||!d)&&((d||e)||!c)&&((e||a)||!f)&&((f||c)||!e)
theorem all3:∀ a b c d e f:Bool,(!wo a b c d e f||(pwB 1 (lt3 a b c d e f) (kas_sort 1) (okB 1 (lt3 a b c d e f))&&(pwB 2 (lt3 a b c d e f) (kas_sort 2) (okB 2 (lt3 a b c d e f))&&pwB 3 (lt3 a b c d e f) (kas_sort 3) (okB 3 (lt3 a b c d e f)))))=true:=by decide +kernel
theorem woI {a:Bool} (h:a=true) (k:b=true):(a&&b)=true:=by rw [h,k]; rfl
theorem woA (x y:Int):(!(decide (x < y)&&decide (y < x)))=true:=by
 by_cases h:x < y
 ·rw [Uz (Int.lt_asymm h),Bool.and_false]; rfl
 ·rw [Uz h]; rfl
theorem woT (x y z:Int):(!(decide (x < y)&&decide (y < z))||decide (x < z))=true:=by
 by_cases h:x < y
 ·by_cases k:y < z
  ·rw [Za7 (Int.lt_trans h k),Bool.or_true]
  ·rw [Uz k,Bool.and_false]; rfl
 ·rw [Uz h]; rfl
theorem woN (x y z:Int):((decide (x < y)||decide (y < z))||!decide (x < z))=true:=by
 by_cases h:x < y
 ·rw [Za7 h]; rfl
 ·by_cases k:y < z
  ·rw [Za7 k,Bool.or_true]; rfl
  ·rw [Uz (show ¬ x < z from Int.not_lt.mpr (Int.le_trans (Int.not_lt.mp k) (Int.not_lt.mp h))),Bool.not_false,Bool.or_true]
theorem Z7a (x y z:Int):wo (decide (x < y)) (decide (x < z)) (decide (y < x)) (decide (y < z)) (decide (z < x)) (decide (z < y))=true :=
 woI (woI (woI (woI (woI (woI (woI (woI (woI (woI (woI (woI (woI (woI (woA x y) (woA x z)) (woA y z)) (woT x y z)) (woT x z y)) (woT y x z)) (woT y z x)) (woT z x y)) (woT z y x)) (woN x y z)) (woN x z y)) (woN y x z)) (woN y z x)) (woN z x y)) (woN z y x)
theorem Zuh (hN:1<=N) (h3:N < 4):pw N (ltK key) (kas_sort N) fun r=>Un N r N/\Asc key r N:=by
 have h:=all3 (decide (key 0 < key 1)) (decide (key 0 < key 2)) (decide (key 1 < key 0)) (decide (key 1 < key 2)) (decide (key 2 < key 0)) (decide (key 2 < key 1))
 rw [Z7a,Bool.not_true,Bool.false_or] at h
 obtain ⟨q1,h⟩:=Q2q.mp h
 obtain ⟨q2,q3⟩:=Q2q.mp h
 have hl:∀ i j,i < 3->j < 3->i≠j->lt3 (decide (key 0 < key 1)) (decide (key 0 < key 2)) (decide (key 1 < key 0)) (decide (key 1 < key 2)) (decide (key 2 < key 0)) (decide (key 2 < key 1)) i j=ltK key i j:=fun i j hi hj hn=>by
  rcases (by lia:i=0∨i=1∨i=2) with rfl | rfl | rfl<;>rcases (by lia:j=0∨j=1∨j=2) with rfl | rfl | rfl<;>first | rfl | exact absurd rfl hn
 have hi:∀ i,i < 3->lt3 (decide (key 0 < key 1)) (decide (key 0 < key 2)) (decide (key 1 < key 0)) (decide (key 1 < key 2)) (decide (key 2 < key 0)) (decide (key 2 < key 1)) i i=false:=fun i hi=>by
  rcases (by lia:i=0∨i=1∨i=2) with rfl | rfl | rfl<;>rfl
 generalize lt3 (decide (key 0 < key 1)) (decide (key 0 < key 2)) (decide (key 1 < key 0)) (decide (key 1 < key 2)) (decide (key 2 < key 0)) (decide (key 2 < key 1))=lt at q1 q2 q3 hl hi
 have q:pwB N lt (kas_sort N) (okB N lt)=true:=by
  rcases (by lia:N=1∨N=2∨N=3) with rfl | rfl | rfl
  ·exact q1
  ·exact q2
  ·exact q3
 refine Zq0 (fun i j hi hj hn=>hl i j (by lia) (by lia) hn) (fun p hp=>?_) q
 obtain ⟨p1,hp⟩:=Q2q.mp hp
 obtain ⟨p2,p3⟩:=Q2q.mp hp
 have lo:∀ m,m < N->p.getD m 0 < N:=fun m hm=>Znp (Zfh.mp p2 m (Zhp.mpr hm))
 refine ⟨⟨Znp p1,Y9 _,lo,fun m hm hm'=>absurd hm (by lia)⟩,fun a b hab hb=>?_⟩
 have hx:=lo a (by lia)
 have hy:=lo b hb
 have z:=Zfh.mp (Zfh.mp p3 b (Zhp.mpr hb)) a (Zhp.mpr hab)
 generalize p.getD a 0=x at hx z
 generalize p.getD b 0=y at hy z
 by_cases e:x=y
 ·subst e
  simp [bfB,hi x (by lia)] at z
 ·unfold bfB at z
  rw [hl x y (by lia) (by lia) e,hl y x (by lia) (by lia) (Ne.symm e)] at z
  unfold ltK at z
  unfold Bf
  simp only [Q1q,Bool.or_eq_true,Bool.not_eq_true',decide_eq_true_eq,Zvl] at z
  lia
end
end
section
open PySem PySem.W PyProof.Rows
noncomputable def X7 (u v:List Nat):Bool:=decide (cpQ u v < 0)
theorem X9 {u v:List Nat}:X7 u v=true↔Yz u v:=by
 unfold X7
 rw [decide_eq_true_iff,Zu7]
theorem Jc {u v:List Nat}:X7 u v=false↔¬ Yz u v:=by
 rw [← X9]; simp
noncomputable def Asq (l:LD):Prop:=l.Pairwise fun u v=>¬ Yz v u
noncomputable def Zfl (u:List Nat):LD->LD
 | []=>[u]
 | v::r=>bif X7 u v then u::v::r else v::Zfl u r
noncomputable def Zy (l:LD):LD:=l.foldl (fun s u=>Zfl u s) []
theorem Mc (u:List Nat):∀ l,(Zfl u l).Perm (u::l)
 | []=>.refl _
 | v::r=>by
  show (bif X7 u v then u::v::r else v::Zfl u r).Perm _
  cases X7 u v with
  | true=>exact .refl _
  | false=>exact ((Mc u r).cons v).trans (.swap _ _ _)
theorem Zak {u v z:List Nat} (h1:¬ Yz v u) (h2:¬ Yz z v):¬ Yz z u:=fun h=>by
 rcases J4 u v with rfl | h3 | h3
 ·exact h2 h
 ·exact h2 (Yz.trans h h3)
 ·exact h1 h3
theorem Gp (u:List Nat):∀ {l},Asq l->Asq (Zfl u l)
 | [],_=>List.pairwise_singleton _ _
 | v::r,h=>by
  have h':=List.pairwise_cons.mp h
  show Asq (bif X7 u v then u::v::r else v::Zfl u r)
  cases e:X7 u v with
  | true =>
   have e:=X9.mp e
   refine List.pairwise_cons.mpr ⟨fun z hz=>?_,h⟩
   rcases X6.mp hz with rfl | hz
   ·exact fun h=>h.asymm e
   ·exact Zak (fun h=>h.asymm e) (h'.1 z hz)
  | false =>
   refine List.pairwise_cons.mpr ⟨fun z hz=>?_,Gp u h'.2⟩
   rcases X6.mp ((Mc u r).mem_iff.mp hz) with rfl | hz
   ·exact Jc.mp e
   ·exact h'.1 z hz
theorem Zco:∀ (l s:LD),Asq s->Asq (l.foldl (fun s u=>Zfl u s) s)/\(l.foldl (fun s u=>Zfl u s) s).Perm (l++s)
 | [],s,h=>⟨h,.refl _⟩
 | u::l,s,h=>by
  obtain ⟨a,p⟩:=Zco l (Zfl u s) (Gp u h)
  refine ⟨a,p.trans ?_⟩
  exact ((Mc u s).append_left l).trans List.perm_middle
theorem G0 (l:LD):Asq (Zy l):=(Zco l [] .nil).1
theorem Y3 (l:LD):(Zy l).Perm l:=by
 have h:=(Zco l [] .nil).2
 rwa [Gf] at h
theorem Zca:∀ {x y:LD},x.Perm y->Asq x->Asq y->x=y
 | [],y,p,_,_=>(List.nil_perm.mp p).symm
 | u::x,[],p,_,_=>by simpa using p
 | u::x,v::y,p,hx,hy=>by
  have hx':=List.pairwise_cons.mp hx
  have hy':=List.pairwise_cons.mp hy
  have e:u=v:=by
   rcases J4 u v with e | h | h
   ·exact e
   ·rcases X6.mp (p.mem_iff.mp (.head _)) with e | e
    ·exact e
    ·exact (hy'.1 u e h).elim
   ·rcases X6.mp (p.mem_iff.mpr (.head _)) with e | e
    ·exact e.symm
    ·exact (hx'.1 v e h).elim
  subst e
  rw [Zca ((List.perm_cons u).mp p) hx'.2 hy'.2]
theorem U1 {x l:LD} (p:x.Perm l) (h:Asq x):x=Zy l:=Zca (p.trans (Y3 l).symm) h (G0 l)
noncomputable def rkQ (us:LD) (i:Nat):Int:=Int.ofNat (us.countP fun v=>X7 v (us.getD i []))
theorem Zdt {p q:α->Bool} (h:∀ x,p x=true->q x=true):∀ {l:List α} {x:α},x∈l->p x=false->q x=true->l.countP p < l.countP q
 | y::l,x,hm,hp,hq=>by
  have le:∀ l:List α,l.countP p<=l.countP q:=fun l=>List.countP_mono_left fun x _ hx=>h x hx
  rw [List.countP_cons,List.countP_cons]
  rcases X6.mp hm with rfl | hm
  ·rw [hp,hq]
   have:=le l
   simp only [Q3q,if_false,if_true]
   lia
  ·have ih:=Zdt h hm hp hq
   cases h1:p y with
   | true=>rw [h y h1]; lia
   | false=>split<;>split<;>first | lia | (rename_i a b; cases a)
theorem Zmt {i j:Nat} (hi:i < us.length) (hj:j < us.length):decide (rkQ us i < rkQ us j)=X7 (us.getD i []) (us.getD j []):=by
 have ei:us.getD i []=us[i]:=by rw [Zbj,Vp hi]; rfl
 have ej:us.getD j []=us[j]:=by rw [Zbj,Vp hj]; rfl
 have less:∀ {u v:List Nat},u∈us->Yz u v->us.countP (fun z=>X7 z u) < us.countP fun z=>X7 z v:=fun {u v} hu h =>
  Zdt (fun x hx=>X9.mpr (Yz.trans (X9.mp hx) h)) hu (Jc.mpr fun h=>h.irrefl) (X9.mpr h)
 unfold rkQ
 rcases J4 (us.getD i []) (us.getD j []) with e | h | h
 ·rw [e,Jc.mpr fun h=>h.irrefl]; simp
 ·rw [X9.mpr h]
  have:=less (ei▸Zd1 hi) h
  rw [decide_eq_true_iff]
  exact Int.ofNat_lt.mpr this
 ·rw [Jc.mpr fun h'=>h.asymm h']
  have:=less (ej▸Zd1 hj) h
  rw [Zvl]
  intro h'
  have h':=Int.ofNat_lt.mp h'
  lia
theorem Bf.irr' {key:Nat->Int} {i:Nat} (h:Bf key i i):False:=by unfold Bf at h; lia
theorem pigeon':∀ (N:Nat) (L:List Nat),L.Nodup->(∀ y∈L,y < N)->L.length<=N
 | 0,[],_,_=>Y9 _
 | 0,y::_,_,h=>absurd (h y (.head _)) (Nat.not_lt_zero _)
 | N+1,L,hn,h=>by
  have h1:L.count N<=1:=List.nodup_iff_count.mp hn N
  have h2:=List.length_eq_countP_add_countP (fun y=>y==N) (l:=L)
  have h3:(L.filter fun y=>decide ¬(y==N)=true).length<=N:=pigeon' N _ (hn.filter _) fun y hy=>by
   rw [List.mem_filter] at hy
   have a:=h y hy.1
   have b:¬ (y==N)=true:=Znp hy.2
   rw [beq_iff_eq] at b
   lia
  rw [List.countP_eq_length_filter (p:=fun y=>decide ¬(y==N)=true)] at h2
  have h4:L.countP (fun y=>y==N)=L.count N:=rfl
  lia
theorem Zia {N:Nat} {L:List Nat} (hn:L.Nodup) (h:∀ y∈L,y < N) (hl:L.length=N):L.Perm (List.range N):=by
 refine (List.perm_ext_iff_of_nodup hn List.nodup_range).mpr fun x=>?_
 rw [Zhp]
 refine ⟨h x,fun hx=>?_⟩
 by_cases e:x∈L
 ·exact e
 ·have:=pigeon' N (x::L) (Zek.mpr ⟨e,hn⟩) fun y hy=>by
   rcases X6.mp hy with rfl | hy
   ·exact hx
   ·exact h y hy
  simp at this
  lia
theorem Zbm (us:LD):(List.range us.length).map (fun i=>us.getD i [])=us:=by
 refine List.ext_getElem? fun i=>?_
 rw [Zbl]
 by_cases h:i < us.length
 ·simp [h]
 ·simp [h]
theorem Zic {p:Array Nat} (hu:Un us.length p us.length) (ha:Asc (rkQ us) p us.length):p.toList.map (fun i=>us.getD i [])=Zy us:=by
 have hg:∀ i (h:i < p.toList.length),p.toList[i]=p.getD i 0:=fun i h=>by
  have h':i < p.size:=by simpa using h
  simp [Array.getD,h']
 have qk:p.toList.length=us.length:=by rw [Array.length_toList]; exact hu.size
 have hpw:p.toList.Pairwise (Bf (rkQ us)):=by
  rw [List.pairwise_iff_getElem]
  intro i j hi hj hij
  rw [hg i hi,hg j hj]
  exact ha i j hij (by lia)
 have qL:∀ y∈p.toList,y < us.length:=fun y hy=>by
  obtain ⟨i,hi,rfl⟩:=List.mem_iff_getElem.mp hy
  rw [hg i hi]
  exact hu.lo i (by lia)
 have hnd:p.toList.Nodup:=hpw.imp fun {a b} h e=>by subst e; exact h.irr'
 have hp:=(Zia hnd qL qk).map fun i=>us.getD i []
 rw [Zbm] at hp
 refine U1 hp ?_
 refine List.pairwise_map.mpr ?_
 refine List.Pairwise.imp_of_mem ?_ hpw
 intro a b ma mb h
 have e:=Zmt (us:=us) (qL b mb) (qL a ma)
 refine Jc.mp ?_
 rw [← e,Zvl]
 unfold Bf at h
 lia
theorem Zrg:∀ (us:LD) (tk:LM) (i:Nat),i < us.length->(wsV (us.map S) tk).getD i .none=.str (S (us.getD i [])) (tk i)
 | [],_,_,h=>absurd h (Nat.not_lt_zero _)
 | u::us,tk,0,_=>rfl
 | u::us,tk,i+1,h=>Zrg us (fun j=>tk (j+1)) i (Nat.lt_of_succ_lt_succ h)
theorem Zl2 (us:LD) (tk:LM):∀ L:List Nat,(∀ i∈L,i < us.length)->∃ tk',L.map (fun i=>(wsV (us.map S) tk).getD i Value.none)=wsV ((L.map fun i=>us.getD i []).map S) tk'
 | [],_=>⟨fun _=>0,rfl⟩
 | i::L,h=>by
  obtain ⟨tk',e⟩:=Zl2 us tk L fun j hj=>h j (.tail _ hj)
  refine ⟨fun j=>match j with | 0=>tk i | j+1=>tk' j,?_⟩
  rw [Zcq,Zrg us tk i (h i (.head _)),e]
  rfl
theorem Zez {tk:LM} {p:Array Nat} (hu:Un us.length p us.length) (ha:Asc (rkQ us) p us.length):∃ tk',p.toList.map (fun i=>(wsV (us.map S) tk).getD i Value.none)=wsV ((Zy us).map S) tk':=by
 obtain ⟨tk',e⟩:=Zl2 us tk p.toList fun y hy=>by
  obtain ⟨i,hi,rfl⟩:=List.mem_iff_getElem.mp hy
  have hi':i < p.size:=by simpa using hi
  have:p.toList[i]=p.getD i 0:=by simp [Array.getD,hi']
  rw [this]
  exact hu.lo i (by have:=hu.size; lia)
 exact ⟨tk',by rw [e,Zic hu ha]⟩
end
section
open PySem PySem.W PySem.W.X PyProof.Rows
structure M4 (prog:Program) (w:World) (A:Around) (H:Heap) (r:Zb3) (T:Value) (f:Addr) (vs:LH) (key:Nat->Int) (St:Nat->LH->LC->Prop):Prop where
 len:∀ {i kv l},St i kv l->kv.length=i
 call:∀ {i kv l v h t g rest},St i kv l->vs[i]?=some v->Own H (l++rest) h->wpAny (model prog w) A (PySem.call (.ref f) [v]) (fun k s'=>∃ h' t' g' l',s'=r.at h' ⟨t',g'⟩/\St (i+1) (kv++[k]) l'/\Own H (l'++rest) h'/\t<=t'/\Zq true g g') (fun _ _=>False) (r.at h ⟨t,g⟩)
 type:∀ {kv l},St vs.length kv l->∀ v∈kv,∃ p o,v=.ref p/\(p,o)∈l/\o.cls=T
 tup:(T != Value.type "tuple")=true
 lt:∀ {i j kv l h t g rest Q},St vs.length kv l->i < vs.length->j < vs.length->i≠j->Own H (l++rest) h ->
  (∀ l' h' t' g',St vs.length kv l'->Own H (l'++rest) h'->t<=t'->Zq true g g'->Q (decide (key i < key j)) (r.at h' ⟨t',g'⟩)) ->
  wpAny (model prog w) A (keyLt' oneType' (kv.getD i .none) (kv.getD j .none)) Q (fun _ _=>False) (r.at h ⟨t,g⟩)
theorem Gy {kv:LH} {i:Nat} (hl:kv.length=vs.length):kas_item ((⟨kv⟩:Array Value).zip ⟨vs⟩) i=(kv.getD i .none,vs.getD i .none):=by
 unfold kas_item
 rw [Array.getD_eq_getD_getElem?,← Array.getElem?_toList,Array.toList_zip,Zbj,Zbj]
 by_cases h:i < kv.length
 ·rw [Vp h,Vp (by lia:i < vs.length),Vp (by rw [List.length_zip]; show i < min kv.length vs.length; lia)]
  simp
 ·have e1:kv[i]?=none:=Zjq (by lia)
  have e2:vs[i]?=none:=Zjq (by lia)
  have e3:(kv.zip vs)[i]?=none:=Zjq (by rw [List.length_zip]; lia)
  rw [e1,e2]
  rw [e3]
  rfl
theorem Zoa (N:Nat):Un N (List.toArray (List.range N)) N:=by
 have hg:∀ m,m < N->(List.toArray (List.range N)).getD m 0=m:=fun m hm=>by simp [Array.getD,hm]
 exact ⟨by simp,Y9 _,fun m hm=>by rw [hg m hm]; exact hm,fun m h1 h2=>by lia⟩
section
variable {T:Value} {f:Addr} {key:Nat->Int} {St:Nat->LH->LC->Prop}
theorem M4.end_ok (B:M4 prog w A H r T f vs key St) (h64:vs.length < 4) {kv:LH} (hS:St vs.length kv l) {D kS e:Nat} {rest:LC} {P:PySem.Fin->Shared->Prop}
  (O:Own H (l++((kS,Za kv e)::(D,Za [] e1)::rest)) h)
  (hP:∀ p kv l' c h' t' g',Un vs.length p vs.length->Asc key p vs.length->St vs.length kv l'->Own H ((D,Za (p.toList.map fun i=>vs.getD i .none) c)::(l'++rest)) h'->t<=t'->Zq true g g'->P (.done (.ret .none)) (r.at h' ⟨t',g'⟩)) :
  wpAny (model prog w) A (ksk_end D false ⟨vs⟩ e1 (.ref kS) ⟨kv⟩) P E (r.at h ⟨t,g⟩):=by
 have qE:100<=sizeLine:=by decide +kernel
 have hkl:=B.len hS
 have qA:∀ (st':SortSt) (p:Array Nat) l' h' t' g',p.size=vs.length->arrOf st'=p.map (kas_item ((⟨kv⟩:Array Value).zip ⟨vs⟩))->failedOf st'=none->Un vs.length p vs.length->Asc key p vs.length->St vs.length kv l'->Own H (l'++((kS,Za kv e)::(D,Za [] e1)::rest)) h'->t<=t'->Zq true g g' ->
   wpAny (model prog w) A (ksk_tail D false e1 (.ref kS) st') P E (r.at h' ⟨t',g'⟩):=by
  intro st' p l' h' t' g' hp har hf hu ha hS' O' ht' gr'
  have hout:(arrOf st').map (·.2)=⟨p.toList.map fun i=>vs.getD i .none⟩:=by
   apply Array.toList_inj.mp
   rw [har,Array.map_map,Array.toList_map]
   refine List.map_congr_left fun i hi=>?_
   show (kas_item _ i).2=_
   rw [Gy hkl]
  unfold ksk_tail
  dsimp only
  rw [hout,hf]
  simp only [Q3q,if_false]
  have O':Own H ((kS,Za kv e)::(D,Za [] e1)::(l'++rest)) h':=O'.perm (by exact pm [_,_] [_,_] 14762243 14729858)
  have o1:=O'.own (kS,Za kv e) (.head _)
  refine Zi (listUpdate_at (s:=r.at h' ⟨t',g'⟩) o1 rfl ?_ (by show kv.length<=_; lia) (Pt _))
  refine Zi (wpAny_letGo ?_)
  have O2:=O'.update (Obj.mapSeq fun _=>(#[]:Array Value)) rfl
  obtain ⟨x2,hx2⟩:=Xc (fun _=>(#[]:Array Value)) kv e
  rw [hx2] at O2
  have O2:Own H ((D,Za [] e1)::((l'++rest)++[(kS,Za [] x2)])) (h'.update kS (Obj.mapSeq fun _=>(#[]:Array Value))):=O2.perm (by exact pm [_,_] [_,_] 14729858 551600261)
  generalize h'.update kS (Obj.mapSeq fun _=>(#[]:Array Value))=h4 at O2
  have o2:=O2.own (D,Za [] e1) (.head _)
  refine Zi (seqEpoch_at (s:=r.at h4 ⟨t',g'⟩) o2 rfl ?_)
  have hpl:(p.toList.map fun i=>vs.getD i Value.none).length=vs.length:=by rw [Z0,Array.length_toList,hp]
  refine Zi (listUpdate_at (s:=r.at h4 ⟨t',g'⟩) o2 rfl ?_ (Pt _) (by show (p.toList.map fun i=>vs.getD i Value.none).length<=_; lia))
  simp only [bne_self_eq_false,Q3q,if_false]
  have O5:=O2.update (Obj.mapSeq fun _=>(⟨p.toList.map fun i=>vs.getD i .none⟩:Array Value)) rfl
  obtain ⟨x5,hx5⟩:=Xc (fun _=>(⟨p.toList.map fun i=>vs.getD i .none⟩:Array Value)) [] e1
  rw [hx5] at O5
  exact Yo (hP p kv l' x5 _ t' g' hu ha hS' (Own.drop (r:=[(kS,Za [] x2)]) O5) ht' gr')
 have hzs:((⟨kv⟩:Array Value).zip ⟨vs⟩).size=vs.length:=by
  rw [Array.size_zip]
  show min kv.length vs.length=_
  lia
 have est:∀ κ,SortSt.mk' κ ((⟨kv⟩:Array Value).zip ⟨vs⟩) #[] 7 none=kas_st κ ((⟨kv⟩:Array Value).zip ⟨vs⟩) (List.toArray (List.range vs.length)):=fun κ=>by
  have e:=kas_range ((⟨kv⟩:Array Value).zip ⟨vs⟩)
  rw [hzs] at e
  show SortSt.mk' κ _ #[] 7 none=SortSt.mk' κ ((List.toArray (List.range vs.length)).map (kas_item ((⟨kv⟩:Array Value).zip ⟨vs⟩))) #[] 7 none
  rw [e]
 unfold ksk_end
 dsimp only
 simp only [Q3q,if_false]
 by_cases h2:2<=vs.length
 ·have hn2:¬ (⟨vs⟩:Array Value).size < 2:=by show ¬ vs.length < 2; lia
  rw [if_neg hn2,if_neg hn2]
  refine Zi (kas_kind (vs:=kv) (T:=T) (by lia) (fun v hv=>?_) B.tup (by simp) ?_)
  ·obtain ⟨q,o,rfl,hm,rfl⟩:=B.type hS v hv
   have ho:=O.own (q,o) (N8 _ hm)
   exact fun A' Q' E' s' k' q'=>wpAny_typeOf_ref (k' _ _ ho) q'
  have ask:(kas_sort vs.length).kasWp (kas_cmp prog w A oneType' ((⟨kv⟩:Array Value).zip ⟨vs⟩)) (fun p s'=>(Un vs.length p vs.length/\Asc key p vs.length)/\∃ l' h' t' g',s'=r.at h' ⟨t',g'⟩/\St vs.length kv l'/\Own H (l'++((kS,Za kv e)::(D,Za [] e1)::rest)) h'/\t<=t'/\Zq true g g') (r.at h ⟨t,g⟩):=by
   refine Zqu (lt:=ltK key) (n:=vs.length) (J:=fun s'=>∃ l' h' t' g',s'=r.at h' ⟨t',g'⟩/\St vs.length kv l'/\Own H (l'++((kS,Za kv e)::(D,Za [] e1)::rest)) h'/\t<=t'/\Zq true g g') (fun i j C s hi hj hij hJ hC=>?_) (fun p s hp hs=>⟨hp,hs⟩) (Zuh (by lia) h64) ⟨l,h,t,g,rfl,hS,O,Y9 _,Zq.refl _ _⟩
   obtain ⟨l1,h1,t1,g1,rfl,hS1,O1,qK,qD⟩:=hJ
   unfold kas_cmp
   rw [Gy hkl,Gy hkl]
   exact B.lt hS1 hi hj hij O1 fun l3 h3 t3 g3 hS3 O3 qx qz=>hC _ ⟨l3,h3,t3,g3,rfl,hS3,O3,by lia,gtr qD qz⟩
  have run:=kas_runs (E:=E) (Q:=fun _ st' s'=>∃ p:Array Nat,p.size=vs.length/\arrOf st'=p.map (kas_item ((⟨kv⟩:Array Value).zip ⟨vs⟩))/\failedOf st'=none/\((Un vs.length p vs.length/\Asc key p vs.length)/\∃ l' h' t' g',s'=r.at h' ⟨t',g'⟩/\St vs.length kv l'/\Own H (l'++((kS,Za kv e)::(D,Za [] e1)::rest)) h'/\t<=t'/\Zq true g g'))
   h2 (Nat.lt_trans h64 (by decide)) (fun p' st' s' a1 a2 a3 a4=>⟨p',a1,a2,a3,a4⟩) ask
  rw [← est] at run
  refine Zi (Jy run ?_ fun _ _ e=>e)
  rintro ⟨⟨⟩,st'⟩ s' ⟨p,hp,har,hf,⟨hu,ha⟩,l',h',t',g',rfl,hS',O',ht',gr'⟩
  exact qA st' p l' h' t' g' hp har hf hu ha hS' O' ht' gr'
 ·have hn2:(⟨vs⟩:Array Value).size < 2:=by show vs.length < 2; lia
  rw [if_pos hn2,if_pos hn2]
  refine Zi (Yo ?_)
  refine Zi ?_
  rw [est]
  refine Yo ?_
  refine qA _ (List.toArray (List.range vs.length)) l h t g (by simp) rfl rfl (Zoa _) (fun a b hab hb=>by lia) hS O (Y9 _) (Zq.refl _ _)
theorem M4.rest_ok (B:M4 prog w A H r T f vs key St) (h64:vs.length < 4) (hS:St 0 [] l0) {D kS:Nat} {rest:LC} {P:PySem.Fin->Shared->Prop}
  (O:Own H (l0++((kS,Za [] 0)::(D,Za [] e1)::rest)) h)
  (hP:∀ p kv l' c h' t' g',Un vs.length p vs.length->Asc key p vs.length->St vs.length kv l'->Own H ((D,Za (p.toList.map fun i=>vs.getD i .none) c)::(l'++rest)) h'->t<=t'->Zq true g g'->P (.done (.ret .none)) (r.at h' ⟨t',g'⟩)) :
  wpAny (model prog w) A (ksk_rest D (.ref f) false ⟨vs⟩ e1 (.ref kS)) P E (r.at h ⟨t,g⟩):=by
 have qE:100<=sizeLine:=by decide +kernel
 unfold ksk_rest
 refine Zi (wpAny_rule ?_)
 rw [show (⟨vs⟩:Array Value)=vs.toArray from rfl]
 first
  | rw [List.forIn_toArray]
  | (rw [← Array.forIn_toList]; simp only [List.toList_toArray])
 refine Zi (ksk_fold (fun i s'=>∃ h' t' g' kv l e,s'=r.at h' ⟨t',g'⟩/\St i kv l/\Own H (l++((kS,Za kv e)::(D,Za [] e1)::rest)) h'/\t<=t'/\Zq true g g') vs 0 (r.at h ⟨t,g⟩)
  ⟨h,t,g,[],l0,0,rfl,hS,O,Y9 _,Zq.refl _ _⟩ ?step ?done)
 case step =>
  rintro j x s' hx ⟨h',t',g',kv,l,e,rfl,hS',O',ht',gr'⟩
  simp only [Nat.zero_add] at hS' ⊢
  have hj:j < vs.length:=(Zfj.mp hx).1
  refine Zi (wpAny_attempt (Jy (B.call hS' hx O') (fun v s'' he=>?_) fun _ _ hF=>hF.elim))
  obtain ⟨h3,t3,g3,l3,rfl,hS3,O3,qx,qz⟩:=he
  dsimp only
  have O3:Own H ((kS,Za kv e)::(D,Za [] e1)::(l3++rest)) h3:=O3.perm (by exact pm [_,_] [_,_] 14762243 14729858)
  have o1:=O3.own (kS,Za kv e) (.head _)
  have hkl:=B.len hS'
  obtain ⟨x2,hx2⟩:=Xc (·.push v) kv e
  have O4:=O3.update (Obj.mapSeq (·.push v)) (by rw [hx2]; rfl)
  rw [hx2] at O4
  have e2:((⟨kv⟩:Array Value).push v).toList=kv++[v]:=by simp
  rw [e2] at O4
  refine Zi (listUpdate_at (s:=r.at h3 ⟨t3,g3⟩) o1 rfl ?_ (by show kv.length<=_; lia) (by
   have:((⟨kv⟩:Array Value).push v).size=kv.length+1:=by simp
   lia))
  exact Yo ⟨rfl,_,t3,g3,kv++[v],l3,x2,rfl,hS3,O4.perm (by exact pm [_,_] [_,_] 14729858 14762243),by lia,gtr gr' qz⟩
 case done =>
  rintro s' ⟨h',t',g',kv,l,e,rfl,hS',O',ht',gr'⟩
  rw [Nat.zero_add] at hS'
  refine Zi (listItems_at (s:=r.at h' ⟨t',g'⟩) (O'.own (kS,Za kv e) (N7 _ (.head _))) rfl ?_)
  exact B.end_ok h64 hS' O' fun p kv l' c h4 t4 g4 hu ha hS4 O4 qB qw=>hP p kv l' c h4 t4 g4 hu ha hS4 O4 (by lia) (gtr gr' qw)
theorem M4.tree_ok (B:M4 prog w A H r T f vs key St) (h64:vs.length < 4) (hS:St 0 [] l0) {D e0:Nat} {rest:LC} {P:PySem.Fin->Shared->Prop}
  (O:Own H ((D,Za vs e0)::(l0++rest)) h)
  (hP:∀ p kv l' c h' t' g',Un vs.length p vs.length->Asc key p vs.length->St vs.length kv l'->Own H ((D,Za (p.toList.map fun i=>vs.getD i .none) c)::(l'++rest)) h'->t<=t'->Zq true g g'->P (.done (.ret .none)) (r.at h' ⟨t',g'⟩)) :
  wpAny (model prog w) A (ksk_tree D (.ref f) false) P E (r.at h ⟨t,g⟩):=by
 have qE:100<=sizeLine:=by decide +kernel
 unfold ksk_tree
 have o0:=O.own (D,Za vs e0) (.head _)
 refine Zi (listItems_at (s:=r.at h ⟨t,g⟩) o0 rfl ?_)
 refine Zi (listUpdate_at (s:=r.at h ⟨t,g⟩) o0 rfl ?_ (by show vs.length<=_; lia) (Pt _))
 have O1:=O.update (Obj.mapSeq fun _=>(#[]:Array Value)) rfl
 obtain ⟨e1,hx⟩:=Xc (fun _=>(#[]:Array Value)) vs e0
 rw [hx] at O1
 generalize h.update D (Obj.mapSeq fun _=>(#[]:Array Value))=h1 at O1
 refine Zi (seqEpoch_at (s:=r.at h1 ⟨t,g⟩) (O1.own _ (.head _)) rfl ?_)
 refine Zi (wpAny_newTuple ?_ (by show vs.length<=_; lia))
 refine Zi (wpAny_newList ?_ (Pt _))
 refine Zfk ?_
 have O2:=O1.push (seqObj "tuple" vs.toArray 0) rfl
 have O3:=O2.push (Za [] 0) rfl
 have O3:Own H (l0++(((h1.push (seqObj "tuple" vs.toArray 0)).objs.size,Za [] 0)::(D,Za [] e1)::(rest++[(h1.objs.size,seqObj "tuple" vs.toArray 0)]))) ((h1.push (seqObj "tuple" vs.toArray 0)).push (Za [] 0)):=O3.perm (by
  exact pm [_,_,_] [_,_] 1885471362 1354891523)
 exact B.rest_ok h64 hS (t:=t) (g:=g) O3 fun p kv l' c h4 t4 g4 hu ha hS4 O4 qB qw=>hP p kv l' c h4 t4 g4 hu ha hS4 (Own.drop (r:=[(h1.objs.size,seqObj "tuple" vs.toArray 0)]) (O4.perm (by exact pm [_,_] [_,_] 10584450 1356906753))) qB qw
end
end
section
open PySem
theorem Zk9 {M:Model} {Γ:Ctx} {p:Pos} {t:Sem Fin} {fs:List Frame} {s':Shared} {e:End} (h:Runs M Γ p t fs s e s'):s.heap.objs.size<=s'.heap.objs.size:=by
 induction h<;>(try simp only [Shared.setGen,Ziu,Heap.size_update] at *)<;>lia
theorem Zen {M:Model} {Γ:Ctx} {p:Pos} {s':Shared} {r:Result} (h:Returns M Γ p s r s'):s.heap.objs.size<=s'.heap.objs.size:=Zk9 h
theorem G3 {M:Model} {c:Code} {R:Result->Shared->Prop} (hn:n<=s.heap.objs.size) (h:codeAny M A c (fun r s'=>n<=s'.heap.objs.size->R r s') s):codeAny M A c R s :=
 fun Γ p hc hΓ=>by obtain ⟨r,s',hr,hR⟩:=h Γ p hc hΓ; exact ⟨r,s',hr,hR (Zn hn (Zen hr))⟩
end
section
open PySem PySem.W PySem.W.X PyProof.Rows
section
variable {T:Value} {f:Addr} {key:Nat->Int} {St:Nat->LH->LC->Prop}
theorem M4.sorted_ok (B:M4 prog w A.in1.in1 H r T f vs key St) (h64:vs.length < 4) (hS:St 0 [] l0) {la:Addr} {rest:LC} {R:Result->Shared->Prop}
  (O:Own H (l0++((la,Za vs ep)::rest)) h)
  (hR:∀ p kv l' D c h' t' g',Un vs.length p vs.length->Asc key p vs.length->St vs.length kv l'->Own H ((D,Za (p.toList.map fun i=>vs.getD i .none) c)::(l'++((la,Za vs ep)::rest))) h'->h.objs.size<=h'.objs.size->t<=t'->Zq true g g'->R (.ok (.ret (.ref D))) (r.at h' ⟨t',g'⟩)) :
  codeAny (model prog w) A (.builtin "sorted" ⟨[.ref la],[(Str.ofString "key",.ref f)]⟩) R (r.at h ⟨t,g⟩):=by
 have qE:100<=sizeLine:=by decide +kernel
 refine G3 (n:=h.objs.size) (Y9 _) ?_
 refine M3 entry_sorted ?_
 rw [Q0q plain_sorted]
 unfold Builtin.«sorted»
 refine Zi (m:=checkCount "sorted" 1 1 _) (Yo ?_)
 have hl:h.IsList la vs.toArray:=⟨_,O.own (la,Za vs ep) (N7 _ (.head _)),rfl,ep,rfl⟩
 refine Zi (collect_list (s:=r.at h ⟨t,g⟩) hl ?_ (by exact Zn (Nat.le_of_lt h64) (by decide)))
 refine Zi (wpAny_newList ?_ (by exact Zn (Nat.le_of_lt h64) (by decide)))
 have O1:=O.push (Za [] 0) rfl
 have O2:=O1.update (Obj.mapSeq (·++vs.toArray)) (by
  obtain ⟨x,hx⟩:=Xc (·++vs.toArray) [] 0
  rw [hx]; rfl)
 have O3:Own H ((((h.push (seqObj "list" #[] 0)).update h.objs.size (Obj.mapSeq (·++vs.toArray))).objs.size,Za vs 0)::(h.objs.size,Obj.mapSeq (·++vs.toArray) (Za [] 0))::(l0++((la,Za vs ep)::rest))) (((h.push (seqObj "list" #[] 0)).update h.objs.size (Obj.mapSeq (·++vs.toArray))).push (seqObj "list" vs.toArray 0)):=O2.push (Za vs 0) rfl
 refine Zi (Zfk (wpAny_call_entry_kw slot_list_sort ⟨_,O3.own _ (.head _),rfl⟩ entry_list_sort ?body (ksk_l1 _ _)))
 case body =>
  generalize ((h.push (seqObj "list" #[] 0)).update h.objs.size (Obj.mapSeq (·++vs.toArray))).objs.size=D at O3 ⊢
  rw [ksk_t1 f D]
  generalize Obj.mapSeq (·++vs.toArray) (Za [] 0)=ol at O3
  have O3:Own H ((D,Za vs 0)::(l0++((la,Za vs ep)::(rest++[(h.objs.size,ol)])))) (((h.push (seqObj "list" #[] 0)).update h.objs.size (Obj.mapSeq (·++vs.toArray))).push (seqObj "list" vs.toArray 0)):=O3.perm (by exact pm [_,_,_] [_,_] 1895875202 1354891650)
  refine B.tree_ok h64 hS O3 fun p kv l' c h4 t4 g4 hu ha hS4 O4 qB qw=>⟨_,rfl,Yo fun hn'=>?_⟩
  exact hR p kv l' D c h4 t4 g4 hu ha hS4 (Own.drop (r:=[(h.objs.size,ol)]) (O4.perm (by exact pm [_,_,_] [_,_] 2160148866 276767490305))) hn' qB qw
end
end
section
variable (prog:Program) (w:World) (b:Bool) (u v:List Nat) (t1 t2 n t:Nat) (f:Nat->Ext)
end
section
theorem Z98 {v:Bool} (h:decide (x < y)=v) (tx ty n t:Nat):Z6 T2 prog w n t (Z1k x y v tx ty n t):=by
 refine ⟨fun H hp r g A R G hA O hs hR=>?_⟩
 have gv:=gives_str_lt (S x) (S y) tx ty
 have e:decide ((S x).cps.toList < (S y).cps.toList)=v:=h
 rw [e] at gv
 exact Xk F.entry_str_lt (by decide +kernel) gv (hR ⟨fun _=>0,fun _=>#[],fun _ _ _=>0,Ext.nil.ob⟩ hp g O hs (Zq.refl _ _))
theorem Z2p {u v:List Nat} (hu:u.length<=100000) (hv:v.length<=100000):∀ x∈[u,v],x.length<=100000:=fun x hx=>by
 simp only [X6,Zfp,Zfe] at hx
 rcases hx with rfl | rfl<;>assumption
theorem Zhx {u v:List Nat} (hu:u.length<=100000) (hv:v.length<=100000) (n t:Nat) (c:Code) (l:LA) (bb:LB):Z6 T2 prog (wb w b) n t (Uy [u,v] n t c l bb) :=
 Zlb (ws:=[u,v]) (show 2<=20 by decide) (Z2p hu hv) _ _ _ _ n t
theorem Z8k {u v:List Nat} (hu:u.length<=100000) (hv:v.length<=100000) (t1 t2:Nat) (tb:Option Addr) (n t:Nat):CQ prog w b n t fun b=>Zy0 u v (cpQ u v) t1 t2 tb n t:=by
 have hC2:Z4 T2 prog (wb w b) [Uy [u,v],Uy [v,u]]:=Zb (Zhx hu hv) (Zb (Zhx hv hu) Zd)
 have hC3:∀ x,decide (Zg [u,v] < Zg [v,u])=x->Z4 T2 prog (wb w b) [Uy [u,v],Uy [v,u],Zmz (Zg [u,v]) (Zg [v,u]) x]:=fun x hx=>Zb (Zhx hu hv) (Zb (Zhx hv hu) (Zb (fun n' t' c l bb=>Z98 hx _ _ n' t') Zd))
 cases hs:Vk (S (Zg [u,v])) (S (Zg [v,u])) with
 | true =>
  have e:cpQ u v=0:=by unfold cpQ; rw [hs]
  rw [e]
  cases tb with
  | none=>exact ckh (cons:=[Uy [u,v],Uy [v,u]]) [] hC2 [4] (Yt 16 69 0x100888888111211010111211010111211010110101110012203300022101101111000) Zyn (pc hs p0)
  | some c=>exact ckh (cons:=[Uy [u,v],Uy [v,u]]) [] hC2 [4] (Yt 16 69 0x100888888111211010111211010111211010110101110012203300022101101111000) Zyn (pc hs p0)
 | false =>
  cases qL:decide (Zg [u,v] < Zg [v,u]) with
  | true =>
   have e:cpQ u v=-3:=by unfold cpQ; rw [hs,qL]
   rw [e]
   cases tb with
   | none=>exact ckh (cons:=[Uy [u,v],Uy [v,u],Zmz (Zg [u,v]) (Zg [v,u]) true]) [] (hC3 _ qL) [4] (Yt 16 77 0x3088200888888111211010111211010111211010110101110012203300022101101111000) Zyn (pc hs p0)
   | some c=>exact ckh (cons:=[Uy [u,v],Uy [v,u],Zmz (Zg [u,v]) (Zg [v,u]) true]) [] (hC3 _ qL) [4] (Yt 16 77 0x3088200888888111211010111211010111211010110101110012203300022101101111000) Zyn (pc hs p0)
  | false =>
   have e:cpQ u v=5:=by unfold cpQ; rw [hs,qL]
   rw [e]
   cases tb with
   | none=>exact ckh (cons:=[Uy [u,v],Uy [v,u],Zmz (Zg [u,v]) (Zg [v,u]) false]) [] (hC3 _ qL) [4] (Yt 16 75 0x3088200888888111211010111211010111211010110101110012203300022101101111000) Zyn (pc hs p0)
   | some c=>exact ckh (cons:=[Uy [u,v],Uy [v,u],Zmz (Zg [u,v]) (Zg [v,u]) false]) [] (hC3 _ qL) [4] (Yt 16 75 0x3088200888888111211010111211010111211010110101110012203300022101101111000) Zyn (pc hs p0)
end
noncomputable def kOp (op:Nat) (r:Int):Bool:=match op with
 | 0=>decide (r < 0)
 | 1=>decide (r > 0)
 | 2=>r==0
 | 3=>decide (r<=0)
 | _=>decide (r ≥ 0)
noncomputable def Zne:List Nat:=[0,4,1,6,7,8,9,10,11,2,3,12,13,14,15,16,17,18,19]
noncomputable def kFa (a:LN) (op:Nat):Addr:=match op with
 | 0=>a 4
 | 1=>a 23
 | 2=>a 24
 | 3=>a 25
 | _=>a 26
section
theorem Zkf (a:LN) (k:LM) {u v:List Nat} (hu:u.length<=100000) (hv:v.length<=100000):Z4 T2 prog (wb w b) [Vg a k u,Vg a k v,Zat u v (cpQ u v)] :=
 Zb (fun n' t' c l bb=>Zy2 a k _ _ u _ n' t') (Zb (fun n' t' c l bb=>Zy2 a k _ _ v _ n' t') (Zb (fun n' t' c l bb=>Z8k hu hv _ _ _ n' t') Zd))
theorem Z7y (op:Nat) (a:LN) (k:LM) {u v:List Nat} (hu:u.length<=100000) (hv:v.length<=100000) (x y dx dy:Addr) (t1 t2 c n t:Nat) :
  CQ prog w b n t fun b=>cmC (HZ w b) (TZ w b) a k (kFa a op) x y dx dy u v t1 t2 (kOp op (cpQ u v)) c:=by
 have hC:=Zkf (prog:=prog) (w:=w) (b:=b) a k hu hv
 generalize cpQ u v=r at hC ⊢
 match op with
 | 0 =>
  show CQ _ _ _ _ _ fun _=>cmC _ _ a k (a 4) x y dx dy u v t1 t2 (decide (r < 0)) c
  cases h:decide (r < 0) with
  | true=>exact ckh (cons:=[Vg a k u,Vg a k v,Zat u v r]) [] hC Zne (Yt 16 64 0x1000513002153230c2233c22600c22640ba231c0abbccabb300abb3151111780) Zng (pc h p0)
  | false=>exact ckh (cons:=[Vg a k u,Vg a k v,Zat u v r]) [] hC Zne (Yt 16 64 0x2000513002153230c2233c22600c22640ba231c0abbccabb300abb3151111780) Zng (pc h p0)
 | 1 =>
  show CQ _ _ _ _ _ fun _=>cmC _ _ a k (a 23) x y dx dy u v t1 t2 (decide (r > 0)) c
  cases h:decide (r > 0) with
  | true=>exact ckh (cons:=[Vg a k u,Vg a k v,Zat u v r]) [] hC Zne (Yt 16 64 0x9000513002153230c2233c22600c22640ba231c0abbccabb300abb3151111cd0) Zng (pc h p0)
  | false=>exact ckh (cons:=[Vg a k u,Vg a k v,Zat u v r]) [] hC Zne (Yt 16 64 0xa000513002153230c2233c22600c22640ba231c0abbccabb300abb3151111cd0) Zng (pc h p0)
 | 2 =>
  show CQ _ _ _ _ _ fun _=>cmC _ _ a k (a 24) x y dx dy u v t1 t2 ((r==0)) c
  cases h:(r==0) with
  | true=>exact ckh (cons:=[Vg a k u,Vg a k v,Zat u v r]) [] hC Zne (Yt 16 64 0x5000513002153230c2233c22600c22640ba231c0abbccabb300abb3151111ef0) Zng (pc h p0)
  | false=>exact ckh (cons:=[Vg a k u,Vg a k v,Zat u v r]) [] hC Zne (Yt 16 64 0x6000513002153230c2233c22600c22640ba231c0abbccabb300abb3151111ef0) Zng (pc h p0)
 | 3 =>
  show CQ _ _ _ _ _ fun _=>cmC _ _ a k (a 25) x y dx dy u v t1 t2 (decide (r<=0)) c
  cases h:decide (r<=0) with
  | true=>exact ckh (cons:=[Vg a k u,Vg a k v,Zat u v r]) [] hC Zne (Yt 32 64 0x38000284600082518860608431b0423000c108c402d421858052d6c6296b1800a5ac61284210c220) Zng (pc h p0)
  | false=>exact ckh (cons:=[Vg a k u,Vg a k v,Zat u v r]) [] hC Zne (Yt 32 64 0x40000284600082518860608431b0423000c108c402d421858052d6c6296b1800a5ac61284210c220) Zng (pc h p0)
 | _+4 =>
  show CQ _ _ _ _ _ fun _=>cmC _ _ a k (a 26) x y dx dy u v t1 t2 (decide (r ≥ 0)) c
  cases h:decide (r ≥ 0) with
  | true=>exact ckh (cons:=[Vg a k u,Vg a k v,Zat u v r]) [] hC Zne (Yt 32 64 0x18000284600082518860608431b0423000c108c402d421858052d6c6296b1800a5ac61284210ca60) Zng (pc h p0)
  | false=>exact ckh (cons:=[Vg a k u,Vg a k v,Zat u v r]) [] hC Zne (Yt 32 64 0x20000284600082518860608431b0423000c108c402d421858052d6c6296b1800a5ac61284210ca60) Zng (pc h p0)
end
section
open PySem PySem.W PySem.W.X PyProof.Rows
noncomputable def Z5x (op:Nat):Str:=match op with
 | 0 => "__lt__"
 | 1 => "__gt__"
 | 2 => "__eq__"
 | 3 => "__le__"
 | _ => "__ge__"
section
noncomputable def V1 (w:Hs) (top:LE) (a:LN) (k:LM) (x y dx dy:Addr) (W1 W2:List Nat) (t1 t2:Nat) (c:Addr):LC :=
 (762,Z9 773 20 (some c))::(x,kIn (a 6) dx W1 t1)::(y,kIn (a 6) dy W2 t2)::Z1 w top a k
theorem Ybl {hs:Hs} {top:LE} {a:LN} {k:LM} (O:Own H l h) (hl:∀ p∈Z1 hs top a k,p∈l) :
  ∃ mN:Str->Option Value,h.Ns (a 5) mN/\(∀ op,mN (Z5x op)=some (.ref (kFa a op)))/\mN "__ne__" = none:=by
 have h5:h.get? (a 5)=some (Zj2 hs a k):=O.own (a 5,Zj2 hs a k) (hl _ (by unfold Z1; simp))
 refine ⟨_,⟨_,_,_,h5,rfl,fun e he=>?_,fun _=>rfl⟩,fun op=>?_,?_⟩
 ·simp only [List.mem_toArray,X6,Zfp,Zfe] at he
  rcases he with rfl | rfl | rfl | rfl | rfl | rfl | rfl | rfl | rfl | rfl | rfl | rfl | rfl<;>exact ⟨_,_,rfl⟩
 ·match op with
  | 0=>kernel_rfl
  | 1=>kernel_rfl
  | 2=>kernel_rfl
  | 3=>kernel_rfl
  | _+4=>kernel_rfl
 ·kernel_rfl
theorem Zt4 {hs:Hs} {top:LE} {a:LN} {k:LM} (O:Own H l h) (hl:∀ p∈Z1 hs top a k,p∈l) {x d:Addr} {W:List Nat} (hx:(x,kIn (a 6) d W tt)∈l) (op:Nat) :
  h.OwnSpecial x (a 6) (kFa a op) "object" (Z5x op):=by
 obtain ⟨mN,hN,hm,-⟩:=Ybl O hl
 have h6:h.get? (a 6)=some (Mo a k):=O.own (a 6,Mo a k) (hl _ (by unfold Z1; simp))
 obtain ⟨fd,hf⟩:∃ fd,h.get? (kFa a op)=some (kFn fd):=by
  match op with
  | 0=>exact ⟨_,O.own (a 4,kFn _) (hl _ (Nl (i:=4) rfl))⟩
  | 1=>exact ⟨_,O.own (a 23,kFn _) (hl _ (Nl (i:=9) rfl))⟩
  | 2=>exact ⟨_,O.own (a 24,kFn _) (hl _ (Nl (i:=11) rfl))⟩
  | 3=>exact ⟨_,O.own (a 25,kFn _) (hl _ (Nl (i:=13) rfl))⟩
  | _+4=>exact ⟨_,O.own (a 26,kFn _) (hl _ (Nl (i:=15) rfl))⟩
 have ht:∃ y,typeLookup (.type "object") (Z5x op)=pure y:=by
  match op with
  | 0=>exact ⟨some (.builtin "object.__lt__"),by rw [typeLookup_type,Zyx]; kernel_rfl⟩
  | 1=>exact ⟨some (.builtin "object.__gt__"),by rw [typeLookup_type,Zyx]; kernel_rfl⟩
  | 2=>exact ⟨some (.builtin "object.__eq__"),by rw [typeLookup_type,Zyx]; kernel_rfl⟩
  | 3=>exact ⟨some (.builtin "object.__le__"),by rw [typeLookup_type,Zyx]; kernel_rfl⟩
  | _+4=>exact ⟨some (.builtin "object.__ge__"),by rw [typeLookup_type,Zyx]; kernel_rfl⟩
 obtain ⟨y,ht⟩:=ht
 exact ⟨_,_, "K", "cmp_to_key.<locals>.K",a 5,[.type "object"],[.type "object"],false,["obj"],[],false,none,none,some (.ref (a 28)),none,some (.str "K" (k 20)),some (.str "cmp_to_key.<locals>.K" (k 21)),some (.bool false), "object.__new__",mN,y,
  O.own _ hx,rfl,h6,hN,hm op,hf,rfl,by kernel_rfl,ht⟩
theorem Zly (op:Nat) (a:LN) (k:LM) (h1:W1.length<=100000) (h2:W2.length<=100000) (hA:AOk A none 101) (G:Ground T2 (wb w b) H) {x y:Nat}
  (O:Own H (V1 (HZ w b) (TZ w b) a k x y dx dy W1 W2 t1 t2 c++l) h)
  (hQ:∀ c' h' t' g',Own H (V1 (HZ w b) (TZ w b) a k x y dx dy W1 W2 t1 t2 c'++l) h'->h.objs.size<=h'.objs.size->t<=t'->Zq true g g'->Q (.bool (kOp op (cpQ W1 W2))) (r.at h' ⟨t',g'⟩)) :
  wpAny (model prog (wb w b)) A (call (.ref (kFa a op)) [.ref x,.ref y]) Q E (r.at h ⟨t,g⟩):=by
 refine Znf ?_
 refine (Z7y op a k h1 h2 x y dx dy t1 t2 c h.objs.size t).use (rest:=l) G (hA.le (by show 100<=101; decide)) O (by
  simp only [Con.preA,cmC,V1,Zt]
  exact pm [_,_,_] [_,_] 241608769793 3940789270904961) rfl fun z h' g' O' hs' gr=>?_
 exact hQ (z.nat 2) h' _ g' (O'.perm (by
  simp only [Con.postA,cmC,V1,Zt]
  exact pm [_,_,_] [_,_] 64565891414504784001 241608769793)) (by lia) (Zdr _ _) gr
theorem Zej {hs:Hs} {top:LE} {a:LN} {k:LM} {x y dx dy:Addr} {c:Addr}:∀ p∈Z1 hs top a k,p∈V1 hs top a k x y dx dy W1 W2 t1 t2 c++l :=
 fun p hp=>N8 _ (.tail _ (.tail _ (.tail _ hp)))
noncomputable def Zyc (op:Nat):CmpOp:=match op with
 | 0=>.Lt
 | 1=>.Gt
 | 2=>.Eq
 | 3=>.LtE
 | _=>.GtE
theorem Zup (op:Nat):(∃ sym r,cmpInfo (Zyc op)=(sym,Z5x op,r))/\(Zyc op≠.Is/\Zyc op≠.IsNot/\Zyc op≠.In/\Zyc op≠.NotIn):=by
 rcases op with _ | _ | _ | _ | _<;>exact ⟨⟨_,_,rfl⟩,nofun,nofun,nofun,nofun⟩
theorem Zim (op:Nat) (a:LN) (k:LM) (h1:W1.length<=100000) (h2:W2.length<=100000) (hA:AOk A none 101) (G:Ground T2 (wb w b) H) {x y:Nat}
  (O:Own H (V1 (HZ w b) (TZ w b) a k x y dx dy W1 W2 t1 t2 c++l) h)
  (hQ:∀ c' h' t' g',Own H (V1 (HZ w b) (TZ w b) a k x y dx dy W1 W2 t1 t2 c'++l) h'->h.objs.size<=h'.objs.size->t<=t'->Zq true g g'->Q (.bool (kOp op (cpQ W1 W2))) (r.at h' ⟨t',g'⟩)) :
  wpAny (model prog (wb w b)) A (compareOp (Zyc op) (.ref x) (.ref y)) Q E (r.at h ⟨t,g⟩):=by
 have X:=Zt4 O Zej (.tail _ (.head _)) op
 have hy:=O.own (y,kIn (a 6) dy W2 t2) (.tail _ (.tail _ (.head _)))
 have hc:=Zly (prog:=prog) op a k h1 h2 hA G O (E:=E) (Q:=fun v s'=>∃ b,v=.bool b/\Q (.bool b) s') fun c' h' t' g' O' hs' ht' gr'=>⟨_,rfl,hQ c' h' t' g' O' hs' ht' gr'⟩
 have hu:=Zd8 (Zdr _ _) hA.units
 obtain ⟨⟨sy,rf,e⟩,z⟩:=Zup op
 exact compareOp_own_same e z X hy rfl hu hc
theorem k_ne (a:LN) (k:LM) (h1:W1.length<=100000) (h2:W2.length<=100000) (hA:AOk A none 102) (G:Ground T2 (wb w b) H) {x y:Nat}
  (O:Own H (V1 (HZ w b) (TZ w b) a k x y dx dy W1 W2 t1 t2 c++l) h)
  (hQ:∀ c' h' t' g',Own H (V1 (HZ w b) (TZ w b) a k x y dx dy W1 W2 t1 t2 c'++l) h'->h.objs.size<=h'.objs.size->t<=t'->Zq true g g'->Q (.bool (!(kOp 2 (cpQ W1 W2)))) (r.at h' ⟨t',g'⟩)) :
  wpAny (model prog (wb w b)) A (compareOp .NotEq (.ref x) (.ref y)) Q E (r.at h ⟨t,g⟩):=by
 obtain ⟨mN,hN,hm,qY⟩:=Ybl O Zej
 obtain ⟨o,of,nm,q,N,bs,bm,hdct,sn,sub,ab,col,dd,k0,k1,k2,k3,k5,newId,mN',yv,p1,p2,p3,p4,p5,p6,p7,p8,p9⟩:=Zt4 O Zej (.tail _ (.head _)) 2
 have hy:=O.own (y,kIn (a 6) dy W2 t2) (.tail _ (.tail _ (.head _)))
 have h6:h.get? (a 6)=some (Mo a k):=O.own (a 6,Mo a k) (Zej _ (by unfold Z1; simp))
 have X:h.OwnEqNoNe x (a 6) (a 24) "object" [.type "object"] :=
  ⟨o,of, "K", "cmp_to_key.<locals>.K",a 5,[.type "object"],false,["obj"],[],false,none,none,some (.ref (a 28)),none,some (.str "K" (k 20)),some (.str "cmp_to_key.<locals>.K" (k 21)),some (.bool false), "object.__new__",mN,yv,
  p1,p2,h6,hN,hm 2,p6,p7,by kernel_rfl,p9,qY⟩
 have hA1:AOk A.in1 none 101:=⟨hA.hand,by have:=hA.deep; show A.depth+5 * 101 < _; lia,by have:=hA.units; show A.units+1+10 * 101 < _; lia,fun l e=>by cases e⟩
 have hu:=Zd8 (Zdr _ _) hA1.units
 exact compareOp_ne_ownEq F.cmp_object X hy rfl hu (Zly 2 a k h1 h2 hA1 G O fun c' h' t' g' O' hs' ht' gr'=>⟨_,rfl,hQ c' h' t' g' O' hs' ht' gr'⟩)
theorem k_lt (a:LN) (k:LM) (h1:W1.length<=100000) (h2:W2.length<=100000) (hA:AOk A none 101) (G:Ground T2 (wb w b) H) {x y:Nat} {Q:Bool->Shared->Prop}
  (O:Own H (V1 (HZ w b) (TZ w b) a k x y dx dy W1 W2 t1 t2 c++l) h)
  (hQ:∀ c' h' t' g',Own H (V1 (HZ w b) (TZ w b) a k x y dx dy W1 W2 t1 t2 c'++l) h'->h.objs.size<=h'.objs.size->t<=t'->Zq true g g'->Q (decide (cpQ W1 W2 < 0)) (r.at h' ⟨t',g'⟩)) :
  wpAny (model prog (wb w b)) A (keyLt' oneType' (.ref x) (.ref y)) Q E (r.at h ⟨t,g⟩):=by
 rw [keyLt'_oneType,oneLt'_eq]
 simp only [if_true]
 have hu:=Zd8 (Zdr _ _) hA.units
 refine Zi (wpAny_cRoomFor hu ?_)
 refine Zi (wpAny_callSpecialIfBound?_own (Zt4 O Zej (.tail _ (.head _)) 0) ?_)
 exact Zly 0 a k h1 h2 hA G O fun c' h' t' g' O' hs' ht' gr'=>Zj0 (hQ c' h' t' g' O' hs' ht' gr')
end
end
section
open PySem PySem.W PySem.W.X PyProof.Rows
theorem Zi7 {l:List α} {i:Nat} {x:α} (h:l[i]?=some x):l.take (i+1)=l.take i++[x]:=by
 rw [Zbv,h]; rfl
noncomputable def kyO (K:Addr):LD->(LM)->List Nat->LC
 | [],_,_=>[]
 | u::us,tk,l=>match l with
  | []=>[]
  | n::l=>(n+1,kIn K n u (tk 0))::kyO K us (fun j=>tk (j+1)) l
noncomputable def Zf8 (l:List Nat):LH:=l.map fun n=>.ref (n+1)
theorem Zhv (K:Addr):∀ (us:LD) (tk:LM) (l:List Nat) (u:List Nat) (n:Nat),l.length=us.length->kyO K (us++[u]) tk (l++[n])=kyO K us tk l++[(n+1,kIn K n u (tk us.length))]
 | [],tk,[],k,n,_=>rfl
 | [],tk,_::_,k,n,h=>by cases h
 | _::_,tk,[],k,n,h=>by cases h
 | c::us,tk,m::l,k,n,h=>by
  have ih:=Zhv K us (fun j=>tk (j+1)) l k n (Nat.succ.inj h)
  show _::kyO K (us++[k]) _ (l++[n])=_::(kyO K us _ l++_)
  rw [ih]; rfl
theorem Nq (K:Addr):∀ (us:LD) (tk:LM) (l:List Nat) (i:Nat) (u:List Nat) (n:Nat),us[i]?=some u->l[i]?=some n->∃ rest,(kyO K us tk l).Perm ((n+1,kIn K n u (tk i))::rest) /\
  ∀ j c m,j≠i->us[j]?=some c->l[j]?=some m->∃ rest',rest.Perm ((m+1,kIn K m c (tk j))::rest')
 | [],_,_,_,_,_,h,_=>by cases h
 | _::_,_,[],_,_,_,_,h=>by cases h
 | c0::us,tk,m0::l,0,u,n,h1,h2=>by
  cases h1; cases h2
  refine ⟨kyO K us (fun j=>tk (j+1)) l,.refl _,fun j c m hj hc hm=>?_⟩
  obtain ⟨j,rfl⟩:∃ j',j=j'+1:=⟨j - 1,by lia⟩
  obtain ⟨rest,hp,-⟩:=Nq K us (fun j=>tk (j+1)) l j c m hc hm
  exact ⟨rest,hp⟩
 | c0::us,tk,m0::l,i+1,u,n,h1,h2=>by
  obtain ⟨rest,hp,hr⟩:=Nq K us (fun j=>tk (j+1)) l i u n h1 h2
  refine ⟨(m0+1,kIn K m0 c0 (tk 0))::rest,(hp.cons _).trans (.swap _ _ _),fun j c m hj hc hm=>?_⟩
  cases j with
  | zero=>cases hc; cases hm; exact ⟨rest,.refl _⟩
  | succ j =>
   obtain ⟨rest',hp'⟩:=hr j c m (by lia) hc hm
   exact ⟨_,(hp'.cons _).trans (.swap _ _ _)⟩
theorem Zfa {l:List Nat} {i:Nat} (h:l[i]?=some n):(Zf8 l).getD i .none=.ref (n+1):=by
 unfold Zf8; rw [List.getD_eq_getElem?_getD,List.getElem?_map,h]; rfl
theorem Zik (l:List Nat) (n:Nat):Zf8 (l++[n])=Zf8 l++[.ref (n+1)]:=by unfold Zf8; rw [List.map_append]; rfl
noncomputable def kSt (w:Hs) (top:LE) (a:LN) (k:LM) (us:LD) (tk:LM) (i:Nat) (kv:LH) (l:LC):Prop :=
 ∃ c ns,ns.length=i/\i<=us.length/\kv=Zf8 ns/\l=(762,Z9 773 20 (some c))::(kyO (a 6) (us.take i) tk ns++Z1 w top a k)
noncomputable def soC (w:Hs) (top:LE) (a:LN) (k:LM) (la:Addr) (us:LD) (tk:LM) (ep:Nat) (c:Addr):Con where
 pre:=(762,Z9 773 20 (some c))::(la,Za (wsV (us.map S) tk) ep)::Z1 w top a k
 post x:=(762,Z9 773 20 (some (x.nat 4)))::(la,Za (wsV (us.map S) tk) ep)::Z1 w top a k
 fresh x:=[(x.nat 2,Za (wsV ((Zy us).map S) (x.seq 0 0)) (x.nat 3))]
 code:=.builtin "sorted" ⟨[.ref la],[(Str.ofString "key",.ref (a 6))]⟩
 res x:=.ok (.ret (.ref (x.nat 2)))
 need:=110
 fr:=none
section
theorem Zp0 (a:LN) (k:LM) (hus:∀ u∈us,u.length<=100000) (tk:LM) (hA:AOk A none 101) (G:Ground T2 (wb w b) H) (r:Zb3) :
  M4 prog (wb w b) A H r (.ref (a 6)) (a 6) (wsV (us.map S) tk) (rkQ us) (kSt (HZ w b) (TZ w b) a k us tk):=by
 have hwl:(wsV (us.map S) tk).length=us.length:=by rw [Yw,Z0]
 have get:∀ {i},i < us.length->us[i]?=some (us.getD i []):=fun {i} hi=>by
  rw [Vp hi,Zbj,Vp hi]; rfl
 have gle:∀ {i},i < us.length->(us.getD i []).length<=100000:=fun {i} hi=>hus _ (Nl (get hi))
 constructor
 case len=>rintro i kv l ⟨c,ns,h1,h2,rfl,-⟩; unfold Zf8; rw [List.length_map,h1]
 case tup=>show (Value.ref (a 6) != Value.type "tuple")=true; rfl
 case type =>
  rintro kv l ⟨c,ns,h1,h2,rfl,rfl⟩ v hv
  obtain ⟨n,hn,rfl⟩:=Uo.mp hv
  obtain ⟨i,hi,rfl⟩:=List.mem_iff_getElem.mp hn
  rw [hwl] at h1 ⊢
  rw [Zja]
  obtain ⟨rs,hp,-⟩:=Nq (a 6) us tk ns i _ _ (get (by lia)) (Vp hi)
  exact ⟨_,_,rfl,.tail _ (N8 _ (hp.mem_iff.mpr (.head _))),rfl⟩
 case call =>
  rintro i kv l v h t g rest ⟨c,ns,h1,h2,rfl,rfl⟩ hv O
  obtain ⟨wd,hw,rfl⟩:=Ji us tk i v hv
  have hi:i < us.length:=(Zfj.mp hw).1
  refine Znf ?_
  refine (Zma (prog:=prog) (w:=w) (b:=b) a k wd (tk i) h.objs.size t).use (r:=r) (rest:=(762,Z9 773 20 (some c))::(kyO (a 6) (us.take i) tk ns++rest)) G (hA.le (by show 40<=101; decide)) O (by
   simp only [Con.preA,kyC,Zt]
   exact pm [_] [_,_,_] 2699084033 344406885121) rfl fun x h3 g3 O3 xz qz=>?_
  refine ⟨h3,_,g3,_,rfl,⟨c,ns++[h.objs.size],by rw [Vc,h1]; rfl,hi,(Zik _ _).symm,rfl⟩,?_,Zdr _ _,⟨fun e=>(by cases e),qz.2⟩⟩
  rw [Zi7 hw,Zhv _ _ _ _ _ _ (by rw [Zbg,h1]; lia)]
  have e:(us.take i).length=i:=by rw [Zbg]; lia
  rw [e]
  refine O3.perm ?_
  simp only [Con.postA,kyC,Zt]
  exact pm [_,_] [_,_,_] 92668880819985596545 5647092269728385
 case lt =>
  rintro i j kv l h t g rest Q ⟨c,ns,h1,h2,rfl,rfl⟩ hi hj hij O hQ
  rw [hwl] at h1 hi hj hQ
  rw [hwl,Zja] at O
  have ni:ns[i]?=some ns[i]:=Vp (by lia)
  have nj:ns[j]?=some ns[j]:=Vp (by lia)
  rw [Zfa ni,Zfa nj]
  obtain ⟨rs,hp,hr⟩:=Nq (a 6) us tk ns i _ _ (get hi) ni
  obtain ⟨rs',hp'⟩:=hr j _ _ (fun e=>hij e.symm) (get hj) nj
  have hpp:=hp.trans (hp'.cons _)
  have key:∀ (X Y:Addr×Obj) (c:Addr) (L rs' lk:LC),((762,Z9 773 20 (some c))::((X::Y::rs')++lk)++L).Perm ((762,Z9 773 20 (some c))::X::Y::lk++(rs'++L)):=fun X Y c L rs' lk=>by
   exact pm [_,_,_] [_,_,_] 5660425456730369 44085440233729
  have hall:∀ c,((762,Z9 773 20 (some c))::(kyO (a 6) us tk ns++Z1 (HZ w b) (TZ w b) a k)++rest).Perm (V1 (HZ w b) (TZ w b) a k (ns[i]+1) (ns[j]+1) ns[i] ns[j] (us.getD i []) (us.getD j []) (tk i) (tk j) c++(rs'++rest)):=fun c =>
   (((hpp.append_right _).cons _).append_right rest).trans (key _ _ c rest rs' _)
  refine k_lt a k (gle hi) (gle hj) hA G (O.perm (hall c)) fun c' h' t' g' O' hs' ht' gr'=>?_
  have e:=Zmt hi hj
  rw [show decide (cpQ (us.getD i []) (us.getD j []) < 0)=X7 (us.getD i []) (us.getD j []) from rfl,← e]
  exact hQ _ h' t' g' ⟨c',ns,by rw [h1],by exact Y9 _,rfl,rfl⟩ (by rw [Zja]; exact O'.perm (hall c').symm) ht' gr'
theorem Z84 (a:LN) (k:LM) (h64:us.length < 4) (hus:∀ u∈us,u.length<=100000) (la:Addr) (tk:LM) (ep:Nat) (c:Addr) (n t:Nat):Z6 T2 prog (wb w b) n t (soC (HZ w b) (TZ w b) a k la us tk ep c):=by
 refine ⟨fun H h r g A Rz G hA O hs hR=>?_⟩
 have hwl:(wsV (us.map S) tk).length=us.length:=by rw [Yw,Z0]
 have hA:AOk A none 110:=hA
 have hA2:AOk A.in1.in1 none 101:=⟨hA.hand,by have:=hA.deep; show A.depth+5 * 101 < _; lia,by have:=hA.units; show A.units+1+1+10 * 101 < _; lia,fun l e=>by cases e⟩
 refine (Zp0 a k hus tk hA2 G r).sorted_ok (by rw [hwl]; exact h64) (la:=la) (ep:=ep) (l0:=(762,Z9 773 20 (some c))::(kyO (a 6) (us.take 0) tk []++Z1 (HZ w b) (TZ w b) a k)) ⟨c,[],rfl,Pt _,rfl,rfl⟩ (rest:=[]) (O.perm (by
  simp only [Con.preA,soC,Zt]
  exact pm [_,_] [_] 8470785 172872450305)) ?_
 rintro p kv l' D e h' t' g' hu ha ⟨c',ns,h1,h2,rfl,rfl⟩ O' hs' ht' gr'
 rw [hwl] at hu ha O'
 obtain ⟨tk',hv⟩:=Zez (tk:=tk) hu ha
 rw [hv,Zja] at O'
 have hn:n<=h'.objs.size:=by lia
 have qA:=hR ⟨fun j=>match j with | 0=>h'.objs.size - n | 1=>t' - t | 2=>D | 3=>e | _=>c',fun _=>#[],fun _ _=>tk',Ext.nil.ob⟩ h' g' (Own.drop (r:=kyO (a 6) us tk ns) (O'.perm (by
  simp only [Con.postA,soC,Zt]
  exact pm [_,_,_] [_,_] 276763328642 36897464153268043905))) (Nat.add_sub_cancel' hn).symm gr'
 have et:t+(t' - t)=t':=by lia
 change Rz (.ok (.ret (.ref D))) (r.at h' ⟨t+(t' - t),g'⟩) at qA
 rw [et] at qA
 exact qA
end
end
noncomputable def Yau (x y:List Nat) (v:Bool) (tx ty:Nat):Con where
 pre:=[]
 post _:=[]
 fresh _:=[]
 code:=.builtin "str.__le__" ⟨[.str (S x) tx,.str (S y) ty],[]⟩
 res _:=.ok (.ret (.bool v))
 need:=5
 fr:=none
 gen:=false
 made _:=0
noncomputable def Ziw (x y:List Nat) (v:Bool):Fam:=fun _ _ c _ _=>Yau x y v (Zig c 0) (Zig c 1)
noncomputable def Ui (c:Nat) (v1 v2 v3 v4 v5 v6:Bool):List Fam:=[Ziw [97] [c] v1,Ziw [c] [122] v2,Ziw [65] [c] v3,Ziw [c] [90] v4,Ziw [48] [c] v5,Ziw [c] [57] v6]
noncomputable def Z08 (c tt:Nat) (v:Bool):Con where
 pre:=[]
 post _:=[]
 fresh _:=[]
 code:=.call (.ref 799) ⟨[.str (S [c]) tt],[]⟩
 res _:=.ok (.ret (.bool v))
 need:=40
 fr:=none
noncomputable def rkS (top:LE) (k:Nat):Stmt:=Zl (Z7 top 804) k
noncomputable def X5 (top:LE) (fr:Addr):Env:={ scope:=(Z7 top 804).scope,locals:=fr,globals:=3,cells:=[],qual := "_law_rank.<locals>.",func:=some 804,code:=.ref 803,frame:=some fr,builtins:=0 }
noncomputable def Gg (w:Hs) (tk:Nat) (u:List Nat) (tt:Nat):Obj:={ cls:=.type "frame",data:=.dict #[ent w "text" tk (.str (S u) tt)] 1 }
noncomputable def Zpq (top:LE):Expr:=Zoh (Xf (rkS top 0)) 0
noncomputable def Zui (top:LE):Expr:=Zoh (Xf (rkS top 0)) 1
noncomputable def Zb5 (top:LE):Expr:=Zh7 (Zui top)
noncomputable def Z5s (top:LE):Expr:=M6 (V3 (rkS top 0) 0)
noncomputable def Zfm (top:LE):Expr:=Zvi (Z5s top)
noncomputable def Zrx (top:LE):Expr:=M6 (rkS top 1)
noncomputable def Zfi (top:LE):Expr:=Zyf (Zvi (Zrx top))
noncomputable def Zbi (a b:Int) (ta tb:Nat):Obj:={ cls:=.type "tuple",data:=.seq #[.int a ta,.int b tb] 0 }
noncomputable def itT (o:Obj) (k:Nat):Nat:=Yav o k
noncomputable def rkA1 (w:Hs) (top:LE) (ev:Expr->Env->Value->Sem Unit) (C fr:Nat) (o:LI) (v:Value) (n t:Nat):Zx Unit where
 pre:=[(C,xV w "sign" o)]
 post x:=[(C,xV w "sign" (some (x.nat 2,v)))]
 fresh x:=[]
 tree:=ev (Zf (Zb5 top) 0) (compEnvC (Zc (Zb5 top)) [] C (X5 top fr)) v
 res x:=.ok ()
 need:=20
 fr:=none
 made _:=0
noncomputable def rkA2 (w:Hs) (top:LE) (ev:Expr->Env->Value->Sem Unit) (C fr:Nat) (o:LI) (v:Value) (n t:Nat):Zx Unit where
 pre:=[(C,xV w "sign" o)]
 post x:=[(C,xV w "sign" (some (x.nat 2,v)))]
 fresh x:=[]
 tree:=ev (Zf (Zfm top) 0) (compEnvC (Zc (Zfm top)) [] C (X5 top fr)) v
 res x:=.ok ()
 need:=20
 fr:=none
 made _:=0
noncomputable def rkA3 (w:Hs) (top:LE) (ev:Expr->Env->Value->Sem Unit) (C fr:Nat) (o:LI) (v:Value) (n t:Nat):Zx Unit where
 pre:=[(C,xV w "sign" o)]
 post x:=[(C,xV w "sign" (some (x.nat 2,v)))]
 fresh x:=[]
 tree:=ev (Zf (Zfi top) 0) (compEnvC (Zc (Zfi top)) [] C (X5 top fr)) v
 res x:=.ok ()
 need:=20
 fr:=none
 made _:=0
noncomputable def Ztz (c:Nat) (v:Bool):Fam:=fun _ _ cd _ _=>Z08 c (match cd with | .call _ as=>(match as with | ⟨pos,_⟩=>(match pos with | v::_=>Ju v | []=>0)) | _=>0) v
noncomputable def Yas (w:Hs) (top:LE) (ev:Expr->Env->Sem Value->Sem Bool) (ev2:Expr->Env->Sem Value) (C fr ts c u:Nat) (v:Bool) (n t:Nat):Zx Bool where
 pre:=[(C,xV w "sign" (some (ts,.str (S [c]) u)))]
 post x:=[(C,xV w "sign" (some (ts,.str (S [c]) u)))]
 fresh x:=[]
 tree:=ev (N9 (Zdh (Zb5 top) 0) 0) (compEnvC (Zc (Zb5 top)) [] C (X5 top fr)) (ev2 (N9 (Zdh (Zb5 top) 0) 0) (compEnvC (Zc (Zb5 top)) [] C (X5 top fr)))
 res x:=.ok (!v)
 need:=60
 fr:=none
noncomputable def rkL3 (w:Hs) (top:LE) (ev:Expr->Env->Sem Value) (C fr ts c u:Nat) (q:Int) (n t:Nat):Zx Value where
 pre:=[(C,xV w "sign" (some (ts,.str (S [c]) u)))]
 post x:=[(C,xV w "sign" (some (ts,.str (S [c]) u)))]
 fresh x:=[(n,Zbi (Int.ofNat c) q (x.nat 2) (x.nat 3))]
 tree:=ev (Zh (Zfi top)) (compEnvC (Zc (Zfi top)) [] C (X5 top fr))
 res x:=.ok (.ref n)
 need:=20
 fr:=none
 made _:=1
section
variable (prog:Program) (w:World) (b:Bool) (c tt n t:Nat) (f:Nat->Ext)
end
section
theorem Zb2 {v:Bool} (h:(!decide (y < x))=v) (tx ty n t:Nat):Z6 T2 prog w n t (Yau x y v tx ty):=by
 refine ⟨fun H hp r g A R G hA O hs hR=>?_⟩
 have gv:=gives_str_le (S x) (S y) tx ty
 have e:(!decide ((S y).cps.toList < (S x).cps.toList))=v:=h
 rw [e] at gv
 exact Xk F.entry_str_le (by decide +kernel) gv (hR ⟨fun _=>0,fun _=>#[],fun _ _ _=>0,Ext.nil.ob⟩ hp g O hs (Zq.refl _ _))
theorem Zck {a:Nat}:(!decide ([c] < [a]))=decide (a<=c):=by
 by_cases h:a<=c
 ·rw [Za7 h]
  have:¬ ([c] < [a]):=fun h'=>by
   cases h' with
   | rel h'=>lia
   | cons h'=>cases h'
  rw [Uz this]; rfl
 ·rw [Uz h]
  have:[c] < [a]:=List.Lex.rel (by lia)
  rw [Za7 this]; rfl
theorem Zm5 (c:Nat):Z4 T2 prog (wb w b) (Ui c (decide (97<=c)) (decide (c<=122)) (decide (65<=c)) (decide (c<=90)) (decide (48<=c)) (decide (c<=57))) :=
 Zb (fun n' t' _ _ _=>Zb2 Zck _ _ n' t') (Zb (fun n' t' _ _ _=>Zb2 Zck _ _ n' t') (Zb (fun n' t' _ _ _=>Zb2 Zck _ _ n' t') (Zb (fun n' t' _ _ _=>Zb2 Zck _ _ n' t') (Zb (fun n' t' _ _ _=>Zb2 Zck _ _ n' t') (Zb (fun n' t' _ _ _=>Zb2 Zck _ _ n' t') Zd)))))
noncomputable def Pi:List Nat:=[95,64,37,43,61,58,44,46,47,45]
theorem Zjc:("_@%+=:,./-" : PySem.Str)=S Pi:=by kernel_rfl
theorem Zil:(List.range 256).all (fun c=>!Ub c||Pi.contains c)=true:=by decide +kernel
theorem Zb8 (h:c∈Pi):Yb c=true/\Jl "_@%+=:,./-" (S [c])=true:=by
 simp only [Pi,X6,Zfp,Zfe] at h
 rcases h with rfl | rfl | rfl | rfl | rfl | rfl | rfl | rfl | rfl | rfl<;>exact ⟨by decide,by kernel_rfl⟩
theorem Zde (h:Jl "_@%+=:,./-" (S [c])=true):Yb c=true:=by
 by_cases hm:c∈Pi
 ·exact (Zb8 hm).1
 ·rw [Zjc,Vy hm] at h; cases h
theorem Gm (h:Jl "_@%+=:,./-" (S [c])=false) (hw:¬ (48<=c/\c<=57)/\¬ (65<=c/\c<=90)/\¬ (97<=c/\c<=122)):Yb c=false:=by
 have hm:c ∉ Pi:=fun hm=>by rw [(Zb8 hm).2] at h; cases h
 have h1:Ub c=false:=by
  cases e:Ub c with
  | false=>rfl
  | true =>
   exfalso
   have hc:c < 256:=by
    unfold Ub at e
    rw [Q1q,decide_eq_true_iff] at e
    exact e.1
   have:=Zfh.mp Zil c (Zhp.mpr hc)
   rw [e] at this
   exact hm (by simpa using this)
 have h2:Sre.isWord c=false:=by
  have h95:c≠95:=fun e=>hm (by rw [e]; decide)
  unfold Sre.isWord Sre.isDigit
  simp only [Bool.or_eq_false_iff,Bool.and_eq_false_iff,Zvl,beq_eq_false_iff_ne]
  have nn:∀ {p q:Prop} [Decidable p],¬ (p/\q)->¬ p∨¬ q:=fun h=>if hp:_ then .inr fun hq=>h ⟨hp,hq⟩ else .inl hp
  first | exact ⟨⟨⟨nn hw.1,nn hw.2.1⟩,nn hw.2.2⟩,h95⟩ | exact ⟨⟨⟨nn hw.1,nn hw.2.2⟩,nn hw.2.1⟩,h95⟩ | exact ⟨⟨⟨nn hw.2.1,nn hw.2.2⟩,nn hw.1⟩,h95⟩ | exact ⟨⟨⟨nn hw.2.2,nn hw.2.1⟩,nn hw.1⟩,h95⟩ | exact ⟨⟨⟨nn hw.2.2,nn hw.2.1⟩,h95⟩,nn hw.1⟩ | exact ⟨⟨⟨nn hw.2.1,nn hw.2.2⟩,h95⟩,nn hw.1⟩
 unfold Yb
 rw [h1,h2]; rfl
theorem Zaa (h:(48<=c/\c<=57)∨(65<=c/\c<=90)∨(97<=c/\c<=122)):Yb c=true:=by
 have h2:Sre.isWord c=true:=by
  unfold Sre.isWord Sre.isDigit
  simp only [Bool.or_eq_true,Q1q,decide_eq_true_iff,beq_iff_eq]
  rcases h with h | h | h<;>first | exact .inr h | exact .inl (.inr h) | exact .inl (.inl (.inr h)) | exact .inl (.inl (.inl h))
 unfold Yb
 rw [h2,Bool.or_true]
theorem Z77 (c tt n t:Nat):CQ prog w b n t fun b=>Z08 c tt (Yb c):=by
 have hC:=Zm5 (prog:=prog) (w:=w) (b:=b) c
 have d1:∀ {p:Prop} [Decidable p],p->decide p=true:=fun h=>Za7 h
 have d0:∀ {p:Prop} [Decidable p],¬ p->decide p=false:=fun h=>Uz h
 have nil:∀ {P:Prop},P∈([]:List Prop)->P:=fun h=>nomatch h
 have one:∀ {P Q:Prop},Q->P∈[Q]->P:=fun hq h=>by rw [Ur] at h; subst h; exact hq
 by_cases a1:97<=c
 ·rw [d1 a1,d1 (show 65<=c by lia),d1 (show 48<=c by lia),d0 (show ¬ c<=90 by lia),d0 (show ¬ c<=57 by lia)] at hC
  by_cases a2:c<=122
  ·rw [d1 a2] at hC
   rw [Zaa (.inr (.inr ⟨a1,a2⟩))]
   exact ckx (cons:=(Ui c true true true false true false)) hC [] (Yt 16 14 0x200010111000) (fun _ _ _ _=>exN fun _=>0)
  ·rw [d0 a2] at hC
   cases hi:Jl "_@%+=:,./-" (S [c]) with
   | true=>rw [Zde hi]; exact ckh (cons:=(Ui c true false true false true false)) [] hC [] (Yt 16 36 0x300100600050100400030100200010111000) (fun _ _ _ _=>exN fun _=>0) (pc hi p0)
   | false=>rw [Gm hi (by lia)]; exact ckh (cons:=(Ui c true false true false true false)) [] hC [] (Yt 16 36 0x400100600050100400030100200010111000) (fun _ _ _ _=>exN fun _=>0) (pc hi p0)
 ·by_cases a3:65<=c
  ·rw [d0 a1,d1 a3,d1 (show 48<=c by lia),d0 (show ¬ c<=57 by lia),d1 (show c<=122 by lia)] at hC
   by_cases a4:c<=90
   ·rw [d1 a4] at hC
    rw [Zaa (.inr (.inl ⟨a3,a4⟩))]
    exact ckx (cons:=(Ui c false true true true true false)) hC [] (Yt 16 19 0x40003010010111000) (fun _ _ _ _=>exN fun _=>0)
   ·rw [d0 a4] at hC
    cases hi:Jl "_@%+=:,./-" (S [c]) with
    | true=>rw [Zde hi]; exact ckh (cons:=(Ui c false true true false true false)) [] hC [] (Yt 16 32 0x30010060005010040003010010111000) (fun _ _ _ _=>exN fun _=>0) (pc hi p0)
    | false=>rw [Gm hi (by lia)]; exact ckh (cons:=(Ui c false true true false true false)) [] hC [] (Yt 16 32 0x40010060005010040003010010111000) (fun _ _ _ _=>exN fun _=>0) (pc hi p0)
  ·rw [d0 a1,d0 a3,d1 (show c<=122 by lia),d1 (show c<=90 by lia)] at hC
   by_cases a5:48<=c
   ·rw [d1 a5] at hC
    by_cases a6:c<=57
    ·rw [d1 a6] at hC
     rw [Zaa (.inl ⟨a5,a6⟩)]
     exact ckx (cons:=(Ui c false true false true true true)) hC [] (Yt 16 24 0x6000501003010010111000) (fun _ _ _ _=>exN fun _=>0)
    ·rw [d0 a6] at hC
     cases hi:Jl "_@%+=:,./-" (S [c]) with
     | true=>rw [Zde hi]; exact ckh (cons:=(Ui c false true false true true false)) [] hC [] (Yt 16 28 0x3001006000501003010010111000) (fun _ _ _ _=>exN fun _=>0) (pc hi p0)
     | false=>rw [Gm hi (by lia)]; exact ckh (cons:=(Ui c false true false true true false)) [] hC [] (Yt 16 28 0x4001006000501003010010111000) (fun _ _ _ _=>exN fun _=>0) (pc hi p0)
   ·rw [d0 a5,d1 (show c<=57 by lia)] at hC
    cases hi:Jl "_@%+=:,./-" (S [c]) with
    | true=>rw [Zde hi]; exact ckh (cons:=(Ui c false true false true false true)) [] hC [] (Yt 16 24 0x300100501003010010111000) (fun _ _ _ _=>exN fun _=>0) (pc hi p0)
    | false=>rw [Gm hi (by lia)]; exact ckh (cons:=(Ui c false true false true false true)) [] hC [] (Yt 16 24 0x400100501003010010111000) (fun _ _ _ _=>exN fun _=>0) (pc hi p0)
end
section
theorem Z44 (u:List Nat) (tt:Nat):TK prog w b fun b n t=>tG [] (fun x=>[]) (fun x=>[(n,Gg (HZ w b) (x.nat 2) u tt)]) (Ua 804 (Z7 (TZ w b) 804) ⟨[.str (S u) tt],[]⟩) (fun x=>.ok (X5 (TZ w b) n)) (md:=fun x=>1):=tkm [0] [0,1,1] exT 1
theorem Zvh (fr tk:Nat) (u:List Nat) (tt:Nat):TK prog w b fun b _ _=>tP [(fr,Gg (HZ w b) tk u tt)] [] (Zj (Zh7 (Zpq (TZ w b))) (X5 (TZ w b) fr)) (.str (S u) tt) 0:=tkm [0] [1] exZ 0
theorem Zt8 (fr tk:Nat) (u:List Nat) (tt:Nat):TK prog w b fun b _ _=>tP [(fr,Gg (HZ w b) tk u tt)] [] (Zj (Ze (Zb5 (TZ w b)) 0) (X5 (TZ w b) fr)) (.str (S u) tt) 0:=tkm [0] [1] exZ 0
theorem Zw6 (fr tk:Nat) (u:List Nat) (tt:Nat):TK prog w b fun b _ _=>tP [(fr,Gg (HZ w b) tk u tt)] [] (Zj (Ze (Zfm (TZ w b)) 0) (X5 (TZ w b) fr)) (.str (S u) tt) 0:=tkm [0] [1] exZ 0
theorem Zti (fr tk:Nat) (u:List Nat) (tt:Nat):TK prog w b fun b _ _=>tP [(fr,Gg (HZ w b) tk u tt)] [] (Zj (Ze (Zfi (TZ w b)) 0) (X5 (TZ w b) fr)) (.str (S u) tt) 0:=tkm [0] [1] exZ 0
theorem Zsg (fr:Nat):TK prog w b fun b _ _=>tG [] (fun x=>[]) (fun x=>[]) (Zj (Pk (Zpq (TZ w b)) 0) (X5 (TZ w b) fr)) (fun x=>.ok (.str (S []) (x.nat 2))) (md:=fun x=>0):=tkm [] [] (fun _ r _ _=>exN fun _=>match r with | .ok v=>Ju v | .error _=>0) 0
theorem Zwo (fr:Nat):TK prog w b fun b n t=>tP [] [(n,Za [] 0)] (Zj (Pk (Zui (TZ w b)) 0) (X5 (TZ w b) fr)) (.ref n) 1:=tkm [0] [] exZ 1
theorem Zsl (C fr:Nat) (o:Option (Nat×(List Nat×Nat))) (d:List Nat×Nat):TK prog w b fun b n t=>rkA1 (HZ w b) (TZ w b) Zs C fr (o.map fun p=>(p.1,.str (S p.2.1) p.2.2)) (.str (S d.1) d.2) n t:=by
 cases o with
 | none=>exact tkm [0] [1,1] exT 0
 | some o=>exact tkm [0] [1,1] exT 0
theorem Zv0 (C fr:Nat) (o:Option (Nat×(List Nat×Nat))) (d:List Nat×Nat):TK prog w b fun b n t=>rkA2 (HZ w b) (TZ w b) Zs C fr (o.map fun p=>(p.1,.str (S p.2.1) p.2.2)) (.str (S d.1) d.2) n t:=by
 cases o with
 | none=>exact tkm [0] [1,1] exT 0
 | some o=>exact tkm [0] [1,1] exT 0
theorem Ztx (C fr:Nat) (o:Option (Nat×(List Nat×Nat))) (d:List Nat×Nat):TK prog w b fun b n t=>rkA3 (HZ w b) (TZ w b) Zs C fr (o.map fun p=>(p.1,.str (S p.2.1) p.2.2)) (.str (S d.1) d.2) n t:=by
 cases o with
 | none=>exact tkm [0] [1,1] exT 0
 | some o=>exact tkm [0] [1,1] exT 0
theorem Zst (C fr ts c u n t:Nat):TQ prog w b n t fun b=>Yas (HZ w b) (TZ w b) Xo Zj C fr ts c u (Yb c) n t:=by
 have hC:Z4 T2 prog (wb w b) [Ztz c (Yb c)]:=Zb (fun n' t' _ _ _=>Z77 c _ n' t') Zd
 cases h:Yb c with
 | true=>rw [h] at hC; exact tqx (cons:=[Ztz c true]) hC [0] [0,1,0,1,0,0] fun _ _ _ _=>exN fun _=>0
 | false=>rw [h] at hC; exact tqx (cons:=[Ztz c false]) hC [0] [0,1,0,1,0,0] fun _ _ _ _=>exN fun _=>0
theorem Zvq (C fr ts c u:Nat):TK prog w b fun b _ _=>tP [(C,xV (HZ w b) "sign" (some (ts,.str (S [c]) u)))] [] (Zj (Zh (Zb5 (TZ w b))) (compEnvC (Zc (Zb5 (TZ w b))) [] C (X5 (TZ w b) fr))) (.str (S [c]) u) 0:=tkm [0] [1] exZ 0
theorem Zu3 (C fr ts c u:Nat):TK prog w b fun b n t=>tG [(C,xV (HZ w b) "sign" (some (ts,.str (S [c]) u)))] (fun x=>[(C,xV (HZ w b) "sign" (some (ts,.str (S [c]) u)))]) (fun x=>[(n,Zbi (Int.ofNat c) 0 (x.nat 2) (x.nat 3))]) (Zj (Zh (Zfm (TZ w b))) (compEnvC (Zc (Zfm (TZ w b))) [] C (X5 (TZ w b) fr))) (fun x=>.ok (.ref n)) (md:=fun x=>1):=tkm [0,1] [0,0,1,0,0,0] (fun _ _ l _=>exN fun k=>itT (Z2 l 0) k) 1
theorem Z0j (fr:Nat):TK prog w b fun b n t=>tG [] (fun x=>[]) (fun x=>[(n,Zbi 32 0 (x.nat 2) (x.nat 3)),(n+1,Za [.ref n] 0)]) (Zj (Zyf (Z5s (TZ w b))) (X5 (TZ w b) fr)) (fun x=>.ok (.ref (n+1))) (md:=fun x=>2):=tkm [1,0] [] (fun _ _ l _=>exN fun k=>itT (Z2 l 0) k) 2
theorem Zzi (fr:Nat):TK prog w b fun b n t=>tG [] (fun x=>[]) (fun x=>[(n,Zbi 39 0 (x.nat 2) (x.nat 3)),(n+1,Za [.ref n] 0)]) (Zj (Zvi (Zvi (Zrx (TZ w b)))) (X5 (TZ w b) fr)) (fun x=>.ok (.ref (n+1))) (md:=fun x=>2):=tkm [1,0] [] (fun _ _ l _=>exN fun k=>itT (Z2 l 0) k) 2
theorem Z30 (fr:Nat):TK prog w b fun b n t=>tG [] (fun x=>[]) (fun x=>[(n,Zbi 39 0 (x.nat 2) (x.nat 3)),(n+1,Za [.ref n] 0)]) (Zj (Zyf (Zrx (TZ w b))) (X5 (TZ w b) fr)) (fun x=>.ok (.ref (n+1))) (md:=fun x=>2):=tkm [1,0] [] (fun _ _ l _=>exN fun k=>itT (Z2 l 0) k) 2
theorem Zxw (C fr ts c u n t:Nat):TQ prog w b n t fun b=>rkL3 (HZ w b) (TZ w b) Zj C fr ts c u (if c=39 then 1 else 0) n t:=by
 by_cases h:c=39
 ·rw [if_pos h]
  exact tqm (P:=[Vk (S [c]) (S [39])=true]) Zd [0,1] [0,0,1,0,0,0,1,0,0,1] (fun _ _ l _=>exN fun k=>itT (Z2 l 0) k) 1 (pc (by rw [h]; unfold Vk; simp) p0)
 ·rw [if_neg h]
  exact tqm Zd [0,1] [0,0,1,0,0,0,1,0,0,2] (fun _ _ l _=>exN fun k=>itT (Z2 l 0) k) 1 (pc (J1 h) p0)
end
noncomputable def Zr6 (sc:Scope):Bool:=sc.kind==.function&&sc.names.all fun y=>y.2 != .cell&&y.2 != .free&&(y.2 != .local||sc.names.lookup y.1==some .local)
noncomputable def Na (sc:Scope):Bool:=sc.kind==.function&&sc.names.all fun y=>y.2 != .cell&&(y.2 != .local||sc.names.lookup y.1==some .local)
theorem Zg7 {sc:Scope} (h:Zr6 sc=true):Na sc=true:=by
 unfold Zr6 Na at *
 simp only [Q1q,Zfh] at *
 exact ⟨h.1,fun y hy=>⟨(h.2 y hy).1.1,(h.2 y hy).2⟩⟩
theorem Zev {sc:Scope} (h:Zr6 sc=true):∀ y∈sc.names,y.2≠.free:=fun y hy=>by
 unfold Zr6 at h
 simp only [Q1q,Zfh] at h
 exact bne_iff_ne.mp (h.2 y hy).1.2
theorem Yh {sc:Scope} (h:Na sc=true):(∀ y∈sc.names,y.2≠.cell)/\sc.kind=.function/\(∀ y∈sc.names,y.2=.local->sc.names.lookup y.1=some .local):=by
 unfold Na at h
 simp only [Q1q,Zfh] at h
 refine ⟨fun y hy=>bne_iff_ne.mp (h.2 y hy).1,eq_of_beq h.1,fun y hy hl=>?_⟩
 have:=(h.2 y hy).2
 rw [Bool.or_eq_true,hl] at this
 rcases this with e | e
 ·simp at e
 ·exact eq_of_beq e
theorem Zgj (hh:A.handled=none) {N:Nat} {vl:Nat->Value->Prop} (OP:Opn prog w A H r xv fix N vl)
  {e elt:Expr} {ifs:List Expr} {cl:List (Str×Addr)} {Q:LF} {E:LF}
  (he:e=.ListComp elt [⟨target,iter,ifs,0⟩] scope pos) (hsc:Na scope=true) (hs:∀ x,foldedSetIterable iter qq x=pure x) (hclos:closureFor scope qq=pure cl)
  (ht:∀ I v,letOwnedTupleGo target (.ref I) v=pure ())
  {σ:Type} (dO:σ->Obj) (mid:σ->LC) (qj:Nat->σ->LH->Prop) (qT:∀ p∈fix,p∈l) {K:Nat} (hK:K<=sizeLine)
  (qk:∀ i st ys,qj i st ys->i < N->ys.length < K)
  (qP:∀ C i v st ys m h t g (Q:Option Value->Shared->Prop) (E:LF),i < N->vl i v->qj i st ys->Own H ((C,dO st)::(mid st++(l++m))) h->t₀<=t->Zq true g₀ g ->
   (∀ o st' h' t' g',qj (i+1) st' (ys++o.toList)->Own H ((C,dO st')::(mid st'++(l++m))) h'->t<=t'->Zq true g g'->Q o (r.at h' ⟨t',g'⟩)) ->
   Zcf (model prog w) A target ifs elt (compEnvC scope cl C qq) v Q E (r.at h ⟨t,g⟩))
  (hns:∀ st,Zyg (dO st))
  (last:∀ acc st ys ea h t g,qj N st ys->Own H ((acc,Za ys ea)::(mid st++l)) h->t₀<=t->Zq true g₀ g->Q (.ref acc) (r.at h ⟨t,g⟩))
  {st:σ} (hd:dO st=Xi) (hI:qj 0 st [])
  (xx:wpAny (model prog w) A (eval iter qq) (fun x s₁=>∃ h t g,x=xv/\s₁=r.at h ⟨t,g⟩/\Own H (mid st++l) h/\t₀<=t/\Zq true g₀ g) E s) :
  wpAny (model prog w) A (eval e qq) Q E s:=by
 obtain ⟨c1,c2,c3⟩:=Yh hsc
 rw [he,Zvm]
 exact Z40 hh OP (use:=none) hs hclos c1 c2 c3 ht dO mid qj qT hK qk qP (fun C acc st ys ea h t g hI O qV xA=>J5 O (hns st) fun h' O'=>last acc st ys ea h' t g hI O' qV xA) hd hI xx
theorem U7 {a:Addr} {pos:LH} {o:Obj} {fd:FuncData} {body:List Stmt}
  (ho:s.heap.get? a=some o) (hd:Uq o=some fd) (hb:fd.body=.stmts body) {N:Nat} (hA:AOk A none (N+1))
  (hp:wpAny (model prog w) (A.under (.call (.ref a) ⟨pos,[]⟩)) (Jn a fd ⟨pos,[]⟩) (fun qq s'=>s'.heap.NoLimit/\wpAny (model prog w) (A.under (.func body qq)) (execs body qq) (fun f s''=>Q (match f with | .ret v=>v | _=>.none) s'') (fun _ _=>False) s') (fun _ _=>False) s) :
  wpAny (model prog w) A (call (.ref a) pos) Q E s:=by
 refine Znf ?_
 have qI:AOk (A.under (.call (.ref a) ⟨pos,[]⟩)) none N:=hA.under (Zr rfl)
 refine Za2 ho hd qI.room (Jy hp (fun qq s' h'=>⟨h'.1,?_⟩) fun _ _ f=>f.elim)
 have hco:J0 fd qq=.func body qq:=by unfold J0; rw [hb]
 rw [hco]
 exact Gv (Jy h'.2 (fun f s'' q=>q) fun _ _ f=>f.elim)
theorem tgo {K:Nat->Nat->Zx α} (hK:∀ n t,Xq T prog w n t (K n t)) {m:Sem α} (hT:∀ n t,(K n t).tree=m) {rest:LC} {Q:α->Shared->Prop} {N:Nat}
  (G:Ground T w H) (hA:AOk A none N) (hN:∀ n t,(K n t).need<=N/\(K n t).fr=none) (O:Own H l h) (hp:l.Perm ((K h.objs.size t).preA++rest))
  (hR:∀ x h' t' g',Own H ((K h.objs.size t).postA x++rest) h'->t<=t'->Zq true g g'->Zlq Q E ((K h.objs.size t).res x) (r.at h' ⟨t',g'⟩)):wpAny (model prog w) A m Q E (r.at h ⟨t,g⟩):=by
 obtain ⟨a,b⟩:=hN h.objs.size t
 exact eqT (hT h.objs.size t) ((hK h.objs.size t).use G (by rw [b]; exact hA.bare a) O hp rfl fun x h' g' O' hs' gr'=>hR x h' _ g' O' (Zdr _ _) gr')
theorem zV {e:Expr} {n:Env}:Zj e n=eval e n:=Us (Us Xy e) n
theorem zA {e:Expr} {n:Env} {v:Value}:Zs e n v=assign e n v:=Us (Us (Us Ziq e) n) v
theorem zP {a:Addr} {f:FuncData} {x:Args}:Ua a f x=Jn a f x:=Us (Us (Us Mh a) f) x
theorem go0 {K:Nat->Nat->Zx α} (hK:∀ n t,Xq T2 prog w n t (K n t)) {m:Sem α} {rest:LC} {Q:α->Shared->Prop} {N:Nat}
  (G:Ground T2 w H) (hA:AOk A none N) (O:Own H l h)
  (hR:∀ x h' t' g',Own H ((K h.objs.size t).postA x++rest) h'->t<=t'->Zq true g g'->Zlq Q E ((K h.objs.size t).res x) (r.at h' ⟨t',g'⟩))
  (hp:l.Perm ((K h.objs.size t).preA++rest):=by exact .refl _)
  (hT:∀ n t,(K n t).tree=m:=by intro _ _; first | exact zV | exact zA | exact zX | exact zP | exact zN)
  (hN:∀ n t,(K n t).need<=N/\(K n t).fr=none:=by intro _ _; exact ⟨Nat.le_of_ble_eq_true rfl,rfl⟩):wpAny (model prog w) A m Q E (r.at h ⟨t,g⟩) :=
 tgo hK hT G hA hN O hp hR
theorem go {K:Bool->Nat->Nat->Zx α} (hK:TK prog w b K) {m:Sem α} {rest:LC} {Q:α->Shared->Prop} {N:Nat}
  (G:Ground T2 (wb w b) H) (hA:AOk A none N) (O:Own H l h)
  (hR:∀ x h' t' g',Own H ((K b h.objs.size t).postA x++rest) h'->t<=t'->Zq true g g'->Zlq Q E ((K b h.objs.size t).res x) (r.at h' ⟨t',g'⟩))
  (hp:l.Perm ((K b h.objs.size t).preA++rest):=by exact .refl _)
  (hT:∀ n t,(K b n t).tree=m:=by intro _ _; first | exact zV | exact zA | exact zX | exact zP | exact zN)
  (hN:∀ n t,(K b n t).need<=N/\(K b n t).fr=none:=by intro _ _; exact ⟨Nat.le_of_ble_eq_true rfl,rfl⟩):wpAny (model prog (wb w b)) A m Q E (r.at h ⟨t,g⟩) :=
 tgo (K:=K b) hK hT G hA hN O hp hR
theorem goP {p:LC} {f:Nat->LC} {z:Sem α} {v:Nat->α} (hK:∀ n t,Xq T2 prog w n t (tP p (f n) z (v n) k)) {m:Sem α} {rest:LC} {Q:α->Shared->Prop} {N:Nat}
  (G:Ground T2 w H) (hA:AOk A none N) (O:Own H l h)
  (hR:∀ h' t' g',Own H (f h.objs.size++(p++rest)) h'->t<=t'->Zq true g g'->Q (v h.objs.size) (r.at h' ⟨t',g'⟩))
  (hp:l.Perm (p++rest):=by exact .refl _)
  (hT:z=m:=by with_reducible first | exact zV | exact zA | exact zX | exact zP | exact zN)
  (hN:20<=N:=by exact Nat.le_of_ble_eq_true rfl):wpAny (model prog w) A m Q E (r.at h ⟨t,g⟩) :=
 tgo (rest:=rest) hK (fun _ _=>hT) G hA (fun _ _=>⟨hN,rfl⟩) O (hp.trans (.of_eq (by simp [Zx.preA,tP,Zt]))) fun x h' t' g' O' ht hg=>hR h' t' g' (O'.perm (.of_eq (by simp [Zx.postA,tP,Zt]))) ht hg
theorem goW {p:LC} {q:Ext->LC} {z:Sem α} {v:α} (hK:∀ n t,Xq T2 prog w n t (tW p q z v)) {m:Sem α} {rest:LC} {Q:α->Shared->Prop} {N:Nat}
  (G:Ground T2 w H) (hA:AOk A none N) (O:Own H l h)
  (hR:∀ x h' t' g',Own H (q x++rest) h'->t<=t'->Zq true g g'->Q v (r.at h' ⟨t',g'⟩))
  (hp:l.Perm (p++rest):=by exact .refl _)
  (hT:z=m:=by with_reducible first | exact zV | exact zA | exact zX | exact zP | exact zN)
  (hN:20<=N:=by exact Nat.le_of_ble_eq_true rfl):wpAny (model prog w) A m Q E (r.at h ⟨t,g⟩) :=
 tgo (rest:=rest) hK (fun _ _=>hT) G hA (fun _ _=>⟨hN,rfl⟩) O (hp.trans (.of_eq (by simp [Zx.preA,tW,Zt]))) fun x h' t' g' O' ht hg=>hR x h' t' g' (O'.perm (.of_eq (by simp [Zx.postA,tW,Zt]))) ht hg
section
open PySem PySem.W PySem.W.X PySem.SeqAt
structure Tp where
 a:Addr
 p:Int
 q:Int
 ta:Nat
 tb:Nat
noncomputable def Tp.pq (x:Tp):Int×Int:=(x.p,x.q)
noncomputable def Tp.v (x:Tp):Value:=.ref x.a
noncomputable def Tp.o (x:Tp):Addr×Obj:=(x.a,Zbi x.p x.q x.ta x.tb)
noncomputable def Mw (l:List Tp):LC:=l.map Tp.o
noncomputable def sgQ (c:Nat):Int×Int:=(Int.ofNat c,if c=39 then 1 else 0)
noncomputable def Ve (u:List Nat):List (Int×Int):=if Xb u=true then u.map (fun c=>(Int.ofNat c,0))++[(32,0)] else (39,0)::(u.map sgQ++[(39,0)])
theorem Pm (l:List Tp) (x:Tp):Mw (l++[x])=Mw l++[x.o]:=by unfold Mw; rw [List.map_append]; rfl
section
theorem Ya3:((Mn (wb w b) 804).bind Uq)=some (Z7 (TZ w b) 804):=kf
theorem Zvs:(Z7 (TZ w b) 804).body=.stmts [rkS (TZ w b) 0,rkS (TZ w b) 1]:=kf
theorem Z6m:rkS (TZ w b) 0=.If (.BoolOp .And [Zpq (TZ w b),Zui (TZ w b)] (Yv (Xf (rkS (TZ w b) 0)))) [V3 (rkS (TZ w b) 0) 0] [] (Y5 (rkS (TZ w b) 0)):=kf
theorem Z64:Zpq (TZ w b)=.Compare (Zh7 (Zpq (TZ w b))) [.NotEq] [Pk (Zpq (TZ w b)) 0] (Yv (Zpq (TZ w b))):=kf
theorem Z9h:Zui (TZ w b)=.Compare (Zb5 (TZ w b)) [.Eq] [Pk (Zui (TZ w b)) 0] (Yv (Zui (TZ w b))):=kf
theorem Z8l:behindInMarks .NotEq (Pk (Zpq (TZ w b)) 0)=false:=kf
theorem Z73:behindInMarks .Eq (Pk (Zui (TZ w b)) 0)=false:=kf
theorem Z62:Zb5 (TZ w b)=.ListComp (Zh (Zb5 (TZ w b))) [⟨Zf (Zb5 (TZ w b)) 0,Ze (Zb5 (TZ w b)) 0,[N9 (Zdh (Zb5 (TZ w b)) 0) 0],0⟩] (Zc (Zb5 (TZ w b))) (Ye (Zb5 (TZ w b))):=kf
theorem Z95:Zfm (TZ w b)=.ListComp (Zh (Zfm (TZ w b))) [⟨Zf (Zfm (TZ w b)) 0,Ze (Zfm (TZ w b)) 0,[],0⟩] (Zc (Zfm (TZ w b))) (Ye (Zfm (TZ w b))):=kf
theorem Z7q:Zfi (TZ w b)=.ListComp (Zh (Zfi (TZ w b))) [⟨Zf (Zfi (TZ w b)) 0,Ze (Zfi (TZ w b)) 0,[],0⟩] (Zc (Zfi (TZ w b))) (Ye (Zfi (TZ w b))):=kf
theorem Zrd:Zr6 (Zc (Zb5 (TZ w b)))=true:=kf
theorem Zzu:Zr6 (Zc (Zfm (TZ w b)))=true:=kf
theorem Z0y:Zr6 (Zc (Zfi (TZ w b)))=true:=kf
theorem Yae (qq:Env) (x:Value):foldedSetIterable (Ze (Zb5 (TZ w b)) 0) qq x=pure x:=kf
theorem Z66 (qq:Env) (x:Value):foldedSetIterable (Ze (Zfm (TZ w b)) 0) qq x=pure x:=kf
theorem Z8f (qq:Env) (x:Value):foldedSetIterable (Ze (Zfi (TZ w b)) 0) qq x=pure x:=kf
theorem Z79 (I:Addr) (v:Value):letOwnedTupleGo (Zf (Zb5 (TZ w b)) 0) (.ref I) v=pure ():=kf
theorem Z6c (I:Addr) (v:Value):letOwnedTupleGo (Zf (Zfm (TZ w b)) 0) (.ref I) v=pure ():=kf
theorem Z91 (I:Addr) (v:Value):letOwnedTupleGo (Zf (Zfi (TZ w b)) 0) (.ref I) v=pure ():=kf
theorem Z43:V3 (rkS (TZ w b) 0) 0=.Return (some (.BinOp (Zfm (TZ w b)) .Add (Zyf (Z5s (TZ w b))) (Yv (Z5s (TZ w b))))) (Y5 (V3 (rkS (TZ w b) 0) 0)):=kf
theorem Z9k:rkS (TZ w b) 1=.Return (some (.BinOp (.BinOp (Zvi (Zvi (Zrx (TZ w b)))) .Add (Zfi (TZ w b)) (Yv (Zvi (Zrx (TZ w b))))) .Add (Zyf (Zrx (TZ w b))) (Yv (Zrx (TZ w b))))) (Y5 (rkS (TZ w b) 1)):=kf
noncomputable def sgV (o:Option (Nat×(List Nat×Nat))):LI:=o.map fun p=>(p.1,.str (S p.2.1) p.2.2)
theorem Zk0 (hh:A.handled=none) (f:Nat->Int×Int) {e:Expr} {u:List Nat} (hu:u.length<=1000000) (he:e=.ListComp (Zh e) [⟨Zf e 0,Ze e 0,[],0⟩] (Zc e) (Ye e)) (hsc:Zr6 (Zc e)=true) (hf:∀ x,foldedSetIterable (Ze e 0) qq x=pure x) (hg:∀ I v,letOwnedTupleGo (Zf e 0) (.ref I) v=pure ())
  (asg:∀ C o c uc (l:LC) h t g (Q:Unit->Shared->Prop) (E:LF),Own H ((C,xV (HZ w b) "sign" (sgV o))::l) h->(∀ tk h' t' g',Own H ((C,xV (HZ w b) "sign" (some (tk,.str (S [c]) uc)))::l) h'->t<=t'->Zq true g g'->Q () (r.at h' ⟨t',g'⟩))->wpAny (model prog (wb w b)) A (assign (Zf e 0) (compEnvC (Zc e) [] C qq) (.str (S [c]) uc)) Q E (r.at h ⟨t,g⟩))
  (el:∀ C ts c uc (l:LC) h t g (Q:LF) (E:LF),Own H ((C,xV (HZ w b) "sign" (some (ts,.str (S [c]) uc)))::l) h->(∀ x:Tp,x.pq=f c->∀ h' t' g',Own H (x.o::(C,xV (HZ w b) "sign" (some (ts,.str (S [c]) uc)))::l) h'->t<=t'->Zq true g g'->Q x.v (r.at h' ⟨t',g'⟩))->wpAny (model prog (wb w b)) A (eval (Zh e) (compEnvC (Zc e) [] C qq)) Q E (r.at h ⟨t,g⟩))
  {l:LC} {Q:LF} {E:LF}
  (xx:wpAny (model prog (wb w b)) A (eval (Ze e 0) qq) (fun x s₁=>∃ h' t' g',x=.str (S u) tt/\s₁=r.at h' ⟨t',g'⟩/\Own H l h'/\t<=t'/\Zq true g g') E (r.at h ⟨t,g⟩))
  (hQ:∀ acc (ps:List Tp) ea h' t' g',ps.map Tp.pq=u.map f->Own H ((acc,Za (ps.map Tp.v) ea)::(Mw ps++l)) h'->t<=t'->Zq true g g'->Q (.ref acc) (r.at h' ⟨t',g'⟩)) :
  wpAny (model prog (wb w b)) A (eval e qq) Q E (r.at h ⟨t,g⟩):=by
 have qE:10000000<=sizeLine:=by decide +kernel
 refine Zgj hh (Zlj u tt) he (Zg7 hsc) hf (closureFor_none (Zev hsc)) hg (fun st:Option (Nat×(List Nat×Nat))×List Tp=>xV (HZ w b) "sign" (sgV st.1)) (fun st=>Mw st.2) (fun i st ys=>ys=st.2.map Tp.v/\st.2.map Tp.pq=(u.take i).map f) (t₀:=t) (g₀:=g) (l:=l) (fun p hp=>nomatch hp) (K:=1000001) (by decide)
  (fun i st ys hI hi=>?_) (fun C i v st ys m h1 t1 g1 Q E hi hv hI O ht hg1 hQ=>?_) (fun st=>Zey _ _ _) (fun acc st ys ea h1 t1 g1 hI O ht hg1=>?_) (st:=(none,[])) rfl ⟨rfl,rfl⟩ (xx)
 ·obtain ⟨rfl,h2⟩:=hI
  have:=Yr List.length h2
  simp only [Z0,Zbg] at this ⊢
  lia
 ·obtain ⟨c,uc,hc,rfl⟩:=hv
  obtain ⟨rfl,h2⟩:=hI
  refine Zcf.plain ?_
  refine asg C st.1 c uc _ h1 t1 g1 _ _ O fun tk h3 t3 g3 O3 qx qz=>?_
  refine el C tk c uc _ h3 t3 g3 _ _ O3 fun x hx h4 t4 g4 O4 qB qw=>?_
  refine hQ (some x.v) (some (tk,([c],uc)),st.2++[x]) h4 t4 g4 ⟨by rw [J3]; rfl,?_⟩ (O4.perm ?_) (by exact (Zn qx qB)) (gtr qz qw)
  ·rw [J3,h2,Zbv,hc]
   simp [hx]
  ·show List.Perm _ ((C,xV (HZ w b) "sign" (some (tk,.str (S [c]) uc)))::(Mw (st.2++[x])++(l++m)))
   rw [Pm]
   exact pm [_,_] [_,_,_] 2696987266 44186627784837
 ·obtain ⟨rfl,h2⟩:=hI
  rw [Zja] at h2
  exact hQ acc st.2 ea h1 t1 g1 h2 O ht hg1
theorem Zgd (hA:AOk A none 102) (G:Ground T2 (wb w b) H) {u:List Nat} (hu:u.length<=1000000) (O:Own H l h)
  (hQ:∀ acc (ps:List Tp) ea h' t' g',ps.map Tp.pq=Ve u->Own H ((acc,Za (ps.map Tp.v) ea)::(Mw ps++l)) h'->t<=t'->Zq true g g'->Q (.ref acc) (r.at h' ⟨t',g'⟩)) :
  wpAny (model prog (wb w b)) A (call (.ref 804) [.str (S u) tt]) Q E (r.at h ⟨t,g⟩):=by
 have qE:10000000<=sizeLine:=by decide +kernel
 obtain ⟨o,ho,hd⟩:=Pl.mp (Ya3 (w:=w) (b:=b))
 refine U7 (O.keep _ _ (G.top _ _ ho)) hd Zvs (N:=101) hA ?_
 refine go (Z44 u tt) G ((hA.under (Zr rfl)).bare (Y9 _)) O (fun x1 h1 t1 g1 O1 qK qD=>⟨G.nolimit.keeps O1.keep,?_⟩) (N:=101)
 have O1:Own H ((h.objs.size,Gg (HZ w b) (x1.nat 2) u tt)::l) h1:=O1
 generalize h.objs.size=fr at O1 ⊢
 have qK:t<=t+x1.nat 1:=Zdr _ _
 generalize t+x1.nat 1=t1 at qK ⊢
 generalize x1.nat 2=tk at O1
 have hf:AOk (A.under (.func [rkS (TZ w b) 0,rkS (TZ w b) 1] (X5 (TZ w b) fr))) none 101:=(hA.under (Zr rfl)).bare (Y9 _)
 generalize A.under (.func [rkS (TZ w b) 0,rkS (TZ w b) 1] (X5 (TZ w b) fr))=A2 at hf
 have hu2:A2.units < cLine:=Zd8 (Zdr _ _) hf.units
 show wpAny _ A2 (execs _ (X5 (TZ w b) fr)) _ _ _
 rw [Zw,Z6m]
 have O1:Own H ((fr,Gg (HZ w b) tk u tt)::l) h1:=O1
 have comp2:∀ {m:LC} {h:Heap} {t:Nat} {g:LK} {Q:LF} {E:LF},Own H ((fr,Gg (HZ w b) tk u tt)::m) h ->
   (∀ acc (ps:List Tp) ea h' t' g',ps.map Tp.pq=u.map (fun c=>(Int.ofNat c,(0:Int)))->Own H ((acc,Za (ps.map Tp.v) ea)::(Mw ps++((fr,Gg (HZ w b) tk u tt)::m))) h'->t<=t'->Zq true g g'->Q (.ref acc) (r.at h' ⟨t',g'⟩))->wpAny (model prog (wb w b)) A2 (eval (Zfm (TZ w b)) (X5 (TZ w b) fr)) Q E (r.at h ⟨t,g⟩):=by
  intro m h t g Q E O hQ
  refine Zk0 hf.hand (fun c=>(Int.ofNat c,(0:Int))) (tt:=tt) hu Z95 Zzu (fun x=>Z66 _ x) Z6c (fun C o c uc l h t g Q E O hQ=>?_) (fun C ts c uc l h t g Q E O hQ=>?_) ?_ hQ
  ·exact go (Zv0 C fr o ([c],uc)) G hf O fun x h3 t3 g3 O3 qx qz=>hQ (x.nat 2) h3 t3 g3 O3 qx qz
  ·exact go (Zu3 C fr ts c uc) G hf O fun x h3 t3 g3 O3 qx qz=>hQ ⟨h.objs.size,Int.ofNat c,0,x.nat 2,x.nat 3⟩ rfl h3 t3 g3 O3 qx qz
  ·exact go (Zw6 fr tk u tt) G hf O fun x h3 t3 g3 O3 qx qz=>⟨h3,t3,g3,rfl,rfl,O3,qx,qz⟩
 have comp3:∀ {m:LC} {h:Heap} {t:Nat} {g:LK} {Q:LF} {E:LF},Own H ((fr,Gg (HZ w b) tk u tt)::m) h ->
   (∀ acc (ps:List Tp) ea h' t' g',ps.map Tp.pq=u.map sgQ->Own H ((acc,Za (ps.map Tp.v) ea)::(Mw ps++((fr,Gg (HZ w b) tk u tt)::m))) h'->t<=t'->Zq true g g'->Q (.ref acc) (r.at h' ⟨t',g'⟩))->wpAny (model prog (wb w b)) A2 (eval (Zfi (TZ w b)) (X5 (TZ w b) fr)) Q E (r.at h ⟨t,g⟩):=by
  intro m h t g Q E O hQ
  refine Zk0 hf.hand sgQ (tt:=tt) hu Z7q Z0y (fun x=>Z8f _ x) Z91 (fun C o c uc l h t g Q E O hQ=>?_) (fun C ts c uc l h t g Q E O hQ=>?_) ?_ hQ
  ·exact go (Ztx C fr o ([c],uc)) G hf O fun x h3 t3 g3 O3 qx qz=>hQ (x.nat 2) h3 t3 g3 O3 qx qz
  ·exact go0 (Zxw C fr ts c uc) G hf O fun x h3 t3 g3 O3 qx qz=>hQ ⟨h.objs.size,Int.ofNat c,if c=39 then 1 else 0,x.nat 2,x.nat 3⟩ rfl h3 t3 g3 O3 qx qz
  ·exact go (Zti fr tk u tt) G hf O fun x h3 t3 g3 O3 qx qz=>⟨h3,t3,g3,rfl,rfl,O3,qx,qz⟩
 have add:∀ {x y:Addr} {ex ey:Nat} {xs ys:List Tp} {m:LC} {h:Heap} {t:Nat} {g:LK} {Q:LF} {E:LF},xs.length+ys.length<=5000000->Own H ((x,Za (xs.map Tp.v) ex)::(y,Za (ys.map Tp.v) ey)::m) h ->
   (∀ a h',Own H ((a,Za ((xs++ys).map Tp.v) 0)::m) h'->Q (.ref a) (r.at h' ⟨t,g⟩))->wpAny (model prog (wb w b)) A2 (binaryOp .Add (.ref x) (.ref y)) Q E (r.at h ⟨t,g⟩):=by
  intro x y ex ey xs ys m h t g Q E hz O hQ
  refine P.add_list (s:=r.at h ⟨t,g⟩) (items:=⟨xs.map Tp.v⟩) (items2:=⟨ys.map Tp.v⟩) (n:=ex) (n2:=ey) (O.own (x,_) (.head _)) (O.own (y,_) (.tail _ (.head _))) ?_ (by
   show (xs.map Tp.v).length+(ys.map Tp.v).length<=_
   rw [Z0,Z0]; exact Zn hz (by decide))
  have O2:=O.push (Za ((xs++ys).map Tp.v) 0) rfl
  have e:({ cls:=Value.type "list",data:=Data.seq ((⟨xs.map Tp.v⟩:Array Value)++⟨ys.map Tp.v⟩) }:Obj)=Za ((xs++ys).map Tp.v) 0:=by simp [Za]
  show Q _ (r.at (h.push { cls:=Value.type "list",data:=Data.seq ((⟨xs.map Tp.v⟩:Array Value)++⟨ys.map Tp.v⟩) }) ⟨t,g⟩)
  rw [e]
  exact hQ _ _ (Own.drop (r:=[(x,Za (xs.map Tp.v) ex),(y,Za (ys.map Tp.v) ey)]) (O2.perm (by exact pm [_,_,_] [_] 8520322 2158035201)))
 have way2:∀ {m:LC} {h:Heap} {t3:Nat} {g3:LK},Xb u=false->Own H ((fr,Gg (HZ w b) tk u tt)::(l++m)) h->t<=t3->Zq true g g3->wpAny (model prog (wb w b)) A2 (execs [rkS (TZ w b) 1] (X5 (TZ w b) fr)) (fun f s''=>Q (match f with | .ret v=>v | _=>.none) s'') (fun _ _=>False) (r.at h ⟨t3,g3⟩):=by
  intro m h t3 g3 hp O qx qz
  rw [Z5,Z9k]
  refine Zru (wpAny_BinOp (wpAny_BinOp ?_))
  refine go (Zzi fr) G hf O (rest:=(fr,Gg (HZ w b) tk u tt)::(l++m)) fun x4 h4 t4 g4 O4 qB qw=>?_
  generalize h.objs.size=n4 at O4 ⊢
  have O4:Own H ((fr,Gg (HZ w b) tk u tt)::((n4+1,Za [.ref n4] 0)::(n4,Zbi 39 0 (x4.nat 2) (x4.nat 3))::(l++m))) h4:=O4.perm (by
   simp only [Zx.postA,tG,Zt]
   exact pm [_,_,_] [_,_] 8292387921886093262977 1885373064)
  refine comp3 O4 fun acc ps ea h5 t5 g5 hps O5 qy qv=>?_
  have hl5:ps.length=u.length:=by have:=Yr List.length hps; simpa using this
  refine add (x:=n4+1) (y:=acc) (ex:=0) (ey:=ea) (xs:=[⟨n4,39,0,x4.nat 2,x4.nat 3⟩]) (ys:=ps) (m:=(n4,Zbi 39 0 (x4.nat 2) (x4.nat 3))::(Mw ps++((fr,Gg (HZ w b) tk u tt)::(l++m)))) (by simp only [V7,Zbb]; lia) (O5.perm (by
   exact pm [_,_,_,_] [_,_,_] 44189593190786 44187972190472)) fun a6 h6 O6=>?_
  show wpAny _ A2 (eval (Zyf (Zrx (TZ w b))) (X5 (TZ w b) fr)) _ _ _
  refine go (Z30 fr) G hf O6 fun x7 h7 t7 g7 O7 qO qM=>?_
  generalize h6.objs.size=n7 at O7 ⊢
  refine add (x:=a6) (y:=n7+1) (ex:=0) (ey:=0) (xs:=[⟨n4,39,0,x4.nat 2,x4.nat 3⟩]++ps) (ys:=[⟨n7,39,0,x7.nat 2,x7.nat 3⟩]) (m:=(n7,Zbi 39 0 (x7.nat 2) (x7.nat 3))::(n4,Zbi 39 0 (x4.nat 2) (x4.nat 3))::(Mw ps++((fr,Gg (HZ w b) tk u tt)::(l++m)))) (by simp only [V7,Zbb,Vc]; lia) (O7.perm (by
   simp only [Zx.postA,tG,Zt]
   exact pm [_,_,_,_,_] [_,_,_] 24876976928383350811096268929 5656369678025352)) fun a8 h8 O8=>?_
  refine hQ a8 (([⟨n4,39,0,x4.nat 2,x4.nat 3⟩]++ps)++[⟨n7,39,0,x7.nat 2,x7.nat 3⟩]) 0 h8 t7 g7 ?_ (Own.drop (r:=(fr,Gg (HZ w b) tk u tt)::m) (O8.perm ?_)) (by exact (Zn qx (Zn qB (Zn qy qO)))) (gtr (gtr (gtr qz qw) qv) qM)
  ·unfold Ve
   rw [hp,if_neg (by exact Q4q),J3,J3,hps]
   rfl
  ·show List.Perm _ ((a8,_)::(Mw (([⟨n4,39,0,x4.nat 2,x4.nat 3⟩]++ps)++[⟨n7,39,0,x7.nat 2,x7.nat 3⟩])++l)++((fr,Gg (HZ w b) tk u tt)::m))
   rw [Pm]
   have e:Mw ([⟨n4,39,0,x4.nat 2,x4.nat 3⟩]++ps)=(n4,Zbi 39 0 (x4.nat 2) (x4.nat 3))::Mw ps:=rfl
   rw [e]
   exact pm [_,_,_,_] [_,_,_] 44189582754434 11907877724867602170113
 have off:∀ {m:LC} {h:Heap} {t3:Nat} {g3:LK},Xb u=false->Own H ((fr,Gg (HZ w b) tk u tt)::(l++m)) h->t<=t3->Zq true g g3->wpAny (model prog (wb w b)) A2 (execs [] (X5 (TZ w b) fr)) (fun f s'=>wpAny (model prog (wb w b)) A2 (match f with | .next=>execs [rkS (TZ w b) 1] (X5 (TZ w b) fr) | f=>pure f) (fun f s''=>Q (match f with | .ret v=>v | _=>.none) s'') (fun _ _=>False) s') (fun _ _=>False) (r.at h ⟨t3,g3⟩):=by
  intro m h t3 g3 hp O qx qz
  rw [Gz]
  exact Yo (way2 hp O qx qz)
 refine Zi (wpAny_If (wpAny_isTrue_BoolOp (wpAny_allTrue_And_cons ?_)))
 rw [Z64]
 refine wpAny_isTrue_Compare1 ?_ Z8l
 refine go (Zvh fr tk u tt) G hf O1 fun x2 h2 t2 g2 O2 qN qF=>?_
 show wpAny _ A2 (eval (Pk (Zpq (TZ w b)) 0) (X5 (TZ w b) fr)) _ _ _
 refine go (Zsg fr) G hf O2 (rest:=(fr,Gg (HZ w b) tk u tt)::l) fun x3 h3 t3 g3 O3 qx qz=>?_
 have O3:Own H ((fr,Gg (HZ w b) tk u tt)::(l++[])) h3:=by rw [Gf]; exact O3
 have gr3':Zq true g g3:=gtr (gtr qD qF) qz
 refine P.ne_str (Zj0 ?_)
 show if (u != [])=true then _ else _
 cases u with
 | nil=>exact off rfl O3 (by lia) gr3'
 | cons c0 u0 =>
  generalize hus:c0::u0=us at *
  have qY:(us != [])=true:=by rw [← hus]; rfl
  rw [if_pos qY]
  refine wpAny_allTrue_And_cons ?_
  rw [Z9h]
  refine wpAny_isTrue_Compare1 ?_ Z73
  refine Zgj (r:=r) (H:=H) hf.hand (Zlj us tt) Z62 (Zg7 Zrd) (fun x=>Yae _ x) (closureFor_none (Zev Zrd)) Z79 (fun st:Option (Nat×(List Nat×Nat))=>xV (HZ w b) "sign" (sgV st)) (fun _=>[]) (fun i st ys=>ys.length=((us.take i).filter fun c=>!Yb c).length) (t₀:=t3) (g₀:=g3) (l:=(fr,Gg (HZ w b) tk us tt)::(l++[])) (fun p hp=>nomatch hp) (K:=1000001) (by decide)
   (fun i st ys hI hi=>?_) (fun C i v st ys m h4 t4 g4 Q E hi hv hI O ht hg1 hQ=>?_) (fun st=>Zey _ _ _) (fun acc st ys ea h4 t4 g4 hI O4 qB qw=>?_) (st:=none) rfl rfl ?_
  ·rw [hI]
   have:=List.length_filter_le (fun c=>!Yb c) (us.take i)
   rw [Zbg] at this
   lia
  ·obtain ⟨c,uc,hc,rfl⟩:=hv
   have hfl:((us.take (i+1)).filter fun c=>!Yb c)=((us.take i).filter fun c=>!Yb c)++(if Yb c=true then [] else [c]):=by
    rw [Zbv,hc,List.filter_append]
    cases hs:Yb c<;>simp [hs]
   refine Zcf.one ?_
   refine go (Zsl C fr st ([c],uc)) G hf O fun x5 h5 t5 g5 O5 qy qv=>?_
   refine go0 (Zst C fr (x5.nat 2) c uc) G hf O5 (hT:=fun n t=>by unfold Yas; dsimp only; rw [Pc,Xy]) fun x6 h6 t6 g6 O6 qG qC=>?_
   show if (!Yb c)=true then _ else _
   cases hs:Yb c with
   | true =>
    rw [if_neg (by simp)]
    refine hQ none (some (x5.nat 2,([c],uc))) h6 t6 g6 (by rw [hfl,if_pos hs,Gf]; simpa using hI) O6 (by exact (Zn qy qG)) (gtr qv qC)
   | false =>
    rw [if_pos (show (!false)=true from rfl)]
    refine go (Zvq C fr (x5.nat 2) c uc) G hf O6 fun x7 h7 t7 g7 O7 qO qM=>?_
    exact hQ (some (.str (S [c]) uc)) (some (x5.nat 2,([c],uc))) h7 t7 g7 (by rw [hfl,if_neg (by rw [hs]; exact Q4q),Vc,Vc,hI]; rfl) O7 (by exact (Zn qy (Zn qG qO))) (gtr (gtr qv qC) qM)
  ·rw [Zja] at hI
   refine go (Zwo fr) G hf O4 fun x5 h5 t5 g5 O5 qy qv=>?_
   generalize h4.objs.size=n4 at O5 ⊢
   have il:∀ {hh:Heap} {a:Addr} {xs:LH} {e:Nat},hh.get? a=some (Za xs e)->hh.IsList a (⟨xs⟩:Array Value):=fun {hh a xs e} q=>⟨_,q,rfl,e,rfl⟩
   have hl1:=il (O5.own (acc,Za ys ea) (.tail _ (.head _)))
   have hl2:=il (O5.own (n4,Za [] 0) (.head _))
   have gr5':Zq true g g5:=gtr (gtr gr3' qw) qv
   have O5':Own H ((fr,Gg (HZ w b) tk us tt)::(l++[(n4,Za [] 0),(acc,Za ys ea)])) h5:=O5.perm (by exact pm [_,_,_] [_] 6423170 10518920)
   have hall:us.all Yb=decide (ys.length=0):=by
    rw [hI]
    cases ha:us.all Yb with
    | true =>
     have:(us.filter fun c=>!Yb c)=[]:=List.filter_eq_nil_iff.mpr fun c hc=>by
      rw [Zfh.mp ha c hc]; simp
     rw [this]; rfl
    | false =>
     symm
     rw [Zvl]
     intro h0
     have h0:=List.eq_nil_of_length_eq_zero h0
     rw [List.filter_eq_nil_iff] at h0
     have:us.all Yb=true:=Zfh.mpr fun c hc=>by
      have:=h0 c hc
      simpa using this
     rw [ha] at this; cases this
   have hpl:Xb us=us.all Yb:=by rw [← hus]; rfl
   by_cases h0:ys.length=0
   ·have hp:Xb us=true:=by rw [hpl,hall]; exact Za7 h0
    refine eq_listAt (s:=r.at h5 ⟨t5,g5⟩) (e:=fun _=>true) hl1 hl2 (by show ys.length=0; exact h0) hu2 (fun j q1 q2=>absurd q2 (Nat.not_lt_zero _)) ?_
    refine Zj0 ?_
    have e:((List.range (⟨ys⟩:Array Value).size).all fun _=>true)=true:=by simp
    rw [e,if_pos rfl]
    refine wpAny_allTrue_And_nil ?_
    rw [if_pos rfl,Z5,Z43]
    refine Zru (wpAny_BinOp ?_)
    refine comp2 O5' fun acc2 ps ea2 h6 t6 g6 hps O6 qG qC=>?_
    have hl6:ps.length=us.length:=by have:=Yr List.length hps; simpa using this
    refine go (Z0j fr) G hf O6 fun x7 h7 t7 g7 O7 qO qM=>?_
    generalize h6.objs.size=n7 at O7 ⊢
    refine add (x:=acc2) (y:=n7+1) (ex:=ea2) (ey:=0) (xs:=ps) (ys:=[⟨n7,32,0,x7.nat 2,x7.nat 3⟩]) (m:=(n7,Zbi 32 0 (x7.nat 2) (x7.nat 3))::(Mw ps++((fr,Gg (HZ w b) tk us tt)::(l++[(n4,Za [] 0),(acc,Za ys ea)])))) (by simp only [V7,Zbb]; lia) (O7.perm (by
     simp only [Zx.postA,tG,Zt]
     exact pm [_,_,_,_,_,_] [_,_] 42361680428415722009323913345 9631930976862856)) fun a8 h8 O8=>?_
    refine Yo ?_
    refine hQ a8 (ps++[⟨n7,32,0,x7.nat 2,x7.nat 3⟩]) 0 h8 t7 g7 ?_ (Own.drop (r:=(fr,Gg (HZ w b) tk us tt)::[(n4,Za [] 0),(acc,Za ys ea)]) (O8.perm ?_)) (by lia) (gtr (gtr gr5' qC) qM)
    ·unfold Ve
     rw [hp,if_pos rfl,J3,hps]
     rfl
    ·rw [Pm]
     exact pm [_,_,_,_,_] [_,_] 61952235717250 129924376437685502209
   ·have hp:Xb us=false:=by rw [hpl,hall]; exact Uz h0
    refine eq_list_lengthsAt (s:=r.at h5 ⟨t5,g5⟩) hl1 hl2 (bne_iff_ne.mpr (by show ys.length≠0; exact h0)) hu2 ?_
    refine Zj0 ?_
    exact off hp O5' (by lia) gr5'
  ·exact go (Zt8 fr tk us tt) G hf O3 fun x4 h4 t4 g4 O4 qB qw=>⟨h4,t4,g4,rfl,rfl,O4,qB,qw⟩
end
end
section
open PySem PySem.W PySem.W.X PySem.SeqAt
noncomputable def Zkg (p q:Int×Int):Int:=if p.1=q.1 then (if p.2=q.2 then 0 else if p.2 < q.2 then -1 else 1) else if p.1 < q.1 then -1 else 1
theorem Zh5 {p q:Int×Int} (h:p.1≠q.1):Zkg p q=if p.1 < q.1 then -1 else 1:=by unfold Zkg; rw [if_neg h]
theorem Zrh {p q:Int×Int} (h:p.1=q.1) (h2:p.2≠q.2):Zkg p q=if p.2 < q.2 then -1 else 1:=by unfold Zkg; rw [if_pos h,if_neg h2]
theorem Zdi {p q:Int×Int} (h:p≠q) (h1:p.1=q.1):p.2≠q.2:=fun h2=>h (Prod.ext h1 h2)
noncomputable def opZ (op:CmpOp) (c:Int):Bool:=match op with
 | .Lt=>decide (c < 0)
 | .LtE=>decide (c<=0)
 | .Gt=>decide (c > 0)
 | .GtE=>decide (c ≥ 0)
 | .Eq=>decide (c=0)
 | _=>!decide (c=0)
noncomputable def Zw0 (op:CmpOp):Prop:=op=.Lt∨op=.LtE∨op=.Gt∨op=.GtE
noncomputable def Yba (op:CmpOp) (a b:Int):Bool:=match op with
 | .Lt=>decide (a < b)
 | .LtE=>decide (a<=b)
 | .Gt=>decide (a > b)
 | _=>decide (a ≥ b)
theorem Z1r {op:CmpOp} (ho:Zw0 op) {a b:Int} (h:a≠b):opZ op (if a < b then (-1:Int) else 1)=Yba op a b:=by
 by_cases e:a < b
 ·have n:=Int.not_le.mpr e
  rw [if_pos e]
  rcases ho with rfl | rfl | rfl | rfl
  ·exact (Za7 e).symm
  ·exact (Za7 (Int.le_of_lt e)).symm
  ·exact (Uz (Int.lt_asymm e)).symm
  ·exact (Uz n).symm
 ·have n:=Int.not_lt.mp e
  rw [if_neg e]
  rcases ho with rfl | rfl | rfl | rfl
  ·exact (Uz e).symm
  ·exact (Uz fun z=>h (Int.le_antisymm z n)).symm
  ·exact (Za7 (Int.lt_iff_le_and_ne.mpr ⟨n,h.symm⟩)).symm
  ·exact (Za7 n).symm
theorem Zeo {a b:Int} {t u:Tok} (h:Q (.bool (decide (a < b))) s):wpAny (model prog w) A (richCompare .Lt (.int a t) (.int b u)) Q E s:=P.lt_int h
theorem Zdx {a b:Int} {t u:Tok} (h:Q (.bool (decide (a<=b))) s):wpAny (model prog w) A (richCompare .LtE (.int a t) (.int b u)) Q E s:=P.le_int h
theorem Zdy {a b:Int} {t u:Tok} (h:Q (.bool (decide (a > b))) s):wpAny (model prog w) A (richCompare .Gt (.int a t) (.int b u)) Q E s:=P.gt_int h
theorem Zdz {a b:Int} {t u:Tok} (h:Q (.bool (decide (a ≥ b))) s):wpAny (model prog w) A (richCompare .GtE (.int a t) (.int b u)) Q E s:=P.ge_int h
noncomputable def tpB (op:CmpOp):Builtin:=match op with
 | .Lt=>Builtin.«tuple.__lt__»
 | .LtE=>Builtin.«tuple.__le__»
 | .Gt=>Builtin.«tuple.__gt__»
 | _=>Builtin.«tuple.__ge__»
theorem Zud {op:CmpOp} (ho:Zw0 op) (l b:Addr) (p q:Int×Int) (a1 a2 b1 b2:Nat) (qY:p≠q):Meets (tpB op ⟨[.ref l,.ref b],[]⟩)
  (fun A R s=>s.heap.get? l=some (Zbi p.1 p.2 a1 a2)/\s.heap.get? b=some (Zbi q.1 q.2 b1 b2)/\R (.ok (.ret (.bool (opZ op (Zkg p q))))) s) :=
 .of_wp fun prog w A R s h=>by
  obtain ⟨hp,g,d,tk,os⟩:=s; obtain ⟨hl,hb,h⟩:=h
  have f2:=AutoSeq1.sub_tuple_tuple
  unfold Zbi at hl hb
  have z:∀ {a b:Int},a≠b->opZ op (if a < b then (-1:Int) else 1)=Yba op a b:=Z1r ho
  rcases ho with rfl | rfl | rfl | rfl
  all_goals
   unfold tpB
   dsimp only
   wp_walk using P3 hl,P3 hb
   refine (EqAt.int_int p.1 a1 q.1 b1) prog w _ _ ?_
   by_cases h1:p.1=q.1
   ·refine eqF (by rw [h1,beq_self_eq_true]) ?_
    rw [Zrh h1 (Zdi qY h1),z (Zdi qY h1)] at h
    clear z
    wp_walk
    refine (EqAt.int_int p.2 a2 q.2 b2) prog w _ _ ?_
    refine eqF (by rw [Znu (Zdi qY h1)]) ?_
    wp_walk using Zeo,Zdx,Zdy,Zdz
    exact ⟨_,rfl,h⟩
   ·refine eqF (by rw [Znu h1]) ?_
    rw [Zh5 h1,z h1] at h
    clear z
    wp_walk using Zeo,Zdx,Zdy,Zdz
    exact ⟨_,rfl,h⟩
end
section
open PySem PySem.W PySem.W.X PySem.SeqAt PySem.MeetsSeq3
noncomputable def Pa:List (Int×Int)->List (Int×Int)->Int
 | [],[]=>0
 | [],_::_=>-1
 | _::_,[]=>1
 | p::xs,q::ys=>if p=q then Pa xs ys else Zkg p q
noncomputable def Pe (h:Heap) (l:List Tp):Prop:=∀ x∈l,h.get? x.a=some (Zbi x.p x.q x.ta x.tb)
theorem Zt1 {x y:Tp} (hx:s.heap.get? x.a=some (Zbi x.p x.q x.ta x.tb)) (hy:s.heap.get? y.a=some (Zbi y.p y.q y.ta y.tb)) (hu:A.units < cLine):EqAt A s x.v y.v (decide (x.pq=y.pq)):=by
 by_cases e:x.a=y.a
 ·have e2:x.pq=y.pq:=by
   rw [e,hy] at hx
   unfold Zbi at hx
   have:=Zfs hx
   simp only [Obj.mk.injEq,Data.seq.injEq,Array.mk.injEq,List.cons.injEq,Value.int.injEq,true_and,and_true] at this
   exact Prod.ext this.1.1.symm this.2.1.symm
  rw [e2,Za7 rfl]
  have:x.v=y.v:=Yr Value.ref e
  rw [this]
  exact EqAt.same _
 ·have tx:s.heap.IsTuple x.a #[.int x.p x.ta,.int x.q x.tb]:=⟨_,hx,rfl,_,rfl⟩
  have ty:s.heap.IsTuple y.a #[.int y.p y.ta,.int y.q y.tb]:=⟨_,hy,rfl,_,rfl⟩
  have z:=RcAt.tuples (A:=A) (s:=s) (e:=fun j=>match j with | 0=>x.p==y.p | _=>x.q==y.q) tx ty hu fun j h1 h2=>by
   rcases j with _ | _ | j
   ·exact EqAt.int_int _ _ _ _
   ·exact EqAt.int_int _ _ _ _
   ·exact absurd h1 (Nat.not_lt_of_le (Nat.le_add_left 2 j))
  have e3:(((List.range (min (#[Value.int x.p x.ta,.int x.q x.tb]:Array Value).size (#[Value.int y.p y.ta,.int y.q y.tb]:Array Value).size)).all fun j=>match j with | 0=>x.p==y.p | _=>x.q==y.q)&&(#[Value.int x.p x.ta,.int x.q x.tb]:Array Value).size==(#[Value.int y.p y.ta,.int y.q y.tb]:Array Value).size)=decide (x.pq=y.pq):=by
   show (((x.p==y.p)&&((x.q==y.q)&&true))&&true)=decide ((x.p,x.q)=(y.p,y.q))
   rw [Bool.and_true,Bool.and_true]
   by_cases h1:x.p=y.p
   ·by_cases h2:x.q=y.q
    ·rw [h1,h2]; simp
    ·rw [Znu h2,Bool.and_false,Uz (fun e=>h2 (Prod.ext_iff.mp e).2)]
   ·rw [Znu h1,Bool.false_and,Uz (fun e=>h1 (Prod.ext_iff.mp e).1)]
  rw [e3] at z
  exact EqAt.of_refs e z
theorem Zer {xs ys:List Tp} {i:Nat} (h1:i < xs.length) (h2:i < ys.length):Pa ((xs.map Tp.pq).drop i) ((ys.map Tp.pq).drop i)=if xs[i].pq=ys[i].pq then Pa ((xs.map Tp.pq).drop (i+1)) ((ys.map Tp.pq).drop (i+1)) else Zkg xs[i].pq ys[i].pq:=by
 have e1:(xs.map Tp.pq).drop i=xs[i].pq::(xs.map Tp.pq).drop (i+1):=by
  rw [Zzp (by rw [Z0]; exact h1),Zyd]
 have e2:(ys.map Tp.pq).drop i=ys[i].pq::(ys.map Tp.pq).drop (i+1):=by
  rw [Zzp (by rw [Z0]; exact h2),Zyd]
 rw [e1,e2]
 rfl
theorem Zcw {xs ys:List Tp} {i:Nat} (h1:i<=xs.length) (h2:i<=ys.length) (h:¬ (i < xs.length/\i < ys.length)):Pa ((xs.map Tp.pq).drop i) ((ys.map Tp.pq).drop i)=if xs.length < ys.length then -1 else if xs.length=ys.length then 0 else 1:=by
 by_cases a:i < xs.length
 ·have b:ys.length=i:=by lia
  have e1:(xs.map Tp.pq).drop i=xs[i].pq::(xs.map Tp.pq).drop (i+1):=by
   rw [Zzp (by rw [Z0]; exact a),Zyd]
  have e2:(ys.map Tp.pq).drop i=[]:=Z2g (by rw [Z0]; lia)
  rw [e1,e2,if_neg (by lia),if_neg (by lia)]
  rfl
 ·have e1:(xs.map Tp.pq).drop i=[]:=Z2g (by rw [Z0]; lia)
  by_cases b:i < ys.length
  ·have e2:(ys.map Tp.pq).drop i=ys[i].pq::(ys.map Tp.pq).drop (i+1):=by
    rw [Zzp (by rw [Z0]; exact b),Zyd]
   rw [e1,e2,if_pos (by lia)]
   rfl
  ·have e2:(ys.map Tp.pq).drop i=[]:=Z2g (by rw [Z0]; lia)
   rw [e1,e2,if_neg (by lia),if_pos (by lia)]
   rfl
theorem Z31 (i:Nat):((i:Int)+1)=((i+1:Nat):Int):=by push_cast; rfl
theorem Z3z (xs ys:List Tp):(decide ((xs.map Tp.v).length < (ys.map Tp.v).length))=(decide ((if xs.length < ys.length then (-1:Int) else if xs.length=ys.length then 0 else 1) < 0)):=by
 rw [Z0,Z0]
 split
 ·simp only [Zg2]; lia
 ·split
  ·simp only [Zg2]; lia
  ·simp only [Zg2]; lia
theorem Z17 (xs ys:List Tp):(decide ((xs.map Tp.v).length<=(ys.map Tp.v).length))=(decide ((if xs.length < ys.length then (-1:Int) else if xs.length=ys.length then 0 else 1)<=0)):=by
 rw [Z0,Z0]
 split
 ·simp only [Zg2]; lia
 ·split
  ·simp only [Zg2]; lia
  ·simp only [Zg2]; lia
theorem Z41 (xs ys:List Tp):(decide ((xs.map Tp.v).length > (ys.map Tp.v).length))=(decide ((if xs.length < ys.length then (-1:Int) else if xs.length=ys.length then 0 else 1) > 0)):=by
 rw [Z0,Z0]
 split
 ·simp only [Zg2]; lia
 ·split
  ·simp only [Zg2]; lia
  ·simp only [Zg2]; lia
theorem Z06 (xs ys:List Tp):(decide ((xs.map Tp.v).length ≥ (ys.map Tp.v).length))=(decide ((if xs.length < ys.length then (-1:Int) else if xs.length=ys.length then 0 else 1) ≥ 0)):=by
 rw [Z0,Z0]
 split
 ·simp only [Zg2]; lia
 ·split
  ·simp only [Zg2]; lia
  ·simp only [Zg2]; lia
noncomputable def Znb (op:CmpOp) (m n:Nat):Bool:=match op with
 | .Lt=>decide (m < n)
 | .LtE=>decide (m<=n)
 | .Gt=>decide (m > n)
 | _=>decide (m ≥ n)
noncomputable def Zx3 (op:CmpOp):Int:=match op with
 | .Lt=>0
 | .LtE=>1
 | .Gt=>4
 | _=>5
noncomputable def Zsm (op:CmpOp) (a b:Value) (i code:Int):Sem Fin:=do
 let k:=i.toNat
 let (some x,some y):=((← Builtin.List.listItems a)[k]?,(← Builtin.List.listItems b)[k]?)
  | ret (.bool (Znb op (← Builtin.List.listItems a).size (← Builtin.List.listItems b).size))
 if ← eqBool x y then return ← again (.builtin "list.__eq__.loop" ⟨[a,b,rawInt (i+1),rawInt code],[]⟩)
 let xs ← Builtin.List.listItems a
 let ys ← Builtin.List.listItems b
 match xs[k]?,ys[k]? with
 | some x,some y=>ret (← richCompare op x y)
 | _,_=>rule "list.compare.shrunk"; ret (.bool (Znb op xs.size ys.size))
theorem Zkl {op:CmpOp} (ho:Zw0 op) (a b:Value) (i:Int):Builtin.«list.__eq__.loop» ⟨[a,b,rawInt i,rawInt (Zx3 op)],[]⟩=Zsm op a b i (Zx3 op):=by
 rcases ho with rfl | rfl | rfl | rfl<;>kernel_rfl
theorem Zrr {op:CmpOp} (ho:Zw0 op) (xs ys:List Tp):Znb op (xs.map Tp.v).length (ys.map Tp.v).length=opZ op (if xs.length < ys.length then (-1:Int) else if xs.length=ys.length then 0 else 1):=by
 rcases ho with rfl | rfl | rfl | rfl
 ·exact Z3z xs ys
 ·exact Z17 xs ys
 ·exact Z41 xs ys
 ·exact Z06 xs ys
theorem Zwi {op:CmpOp} (ho:Zw0 op) {x y:Tp} (gx:s.heap.get? x.a=some (Zbi x.p x.q x.ta x.tb)) (gy:s.heap.get? y.a=some (Zbi y.p y.q y.ta y.tb)) (e:x.pq≠y.pq) (hu:A.units < cLine) (h:Q (.bool (opZ op (Zkg x.pq y.pq))) s):wpAny (model prog w) A (richCompare op x.v y.v) Q E s:=by
 have z:=Zud ho x.a y.a x.pq y.pq x.ta x.tb y.ta y.tb e
 rcases ho with rfl | rfl | rfl | rfl
 ·exact Zpw (op:=.Lt) (a:=x.v) (b:=y.v) ⟨_,gx,rfl⟩ ⟨_,gy,rfl⟩ F.slot_tuple_lt F.entry_tuple_lt (F.args_tuple_lt_2 _ _) z ⟨gx,gy,(fun x=>nomatch x),h⟩ hu
 ·exact Zpw (op:=.LtE) (a:=x.v) (b:=y.v) ⟨_,gx,rfl⟩ ⟨_,gy,rfl⟩ F.slot_tuple_le F.entry_tuple_le (F.args_tuple_le_2 _ _) z ⟨gx,gy,(fun x=>nomatch x),h⟩ hu
 ·exact Zpw (op:=.Gt) (a:=x.v) (b:=y.v) ⟨_,gx,rfl⟩ ⟨_,gy,rfl⟩ F.slot_tuple_gt F.entry_tuple_gt (F.args_tuple_gt_2 _ _) z ⟨gx,gy,(fun x=>nomatch x),h⟩ hu
 ·exact Zpw (op:=.GtE) (a:=x.v) (b:=y.v) ⟨_,gx,rfl⟩ ⟨_,gy,rfl⟩ F.slot_tuple_ge F.entry_tuple_ge (F.args_tuple_ge_2 _ _) z ⟨gx,gy,(fun x=>nomatch x),h⟩ hu
theorem Zp3 {op:CmpOp} (ho:Zw0 op)
  (l b:Addr) (xs ys:List Tp) (n n2:Nat):∀ (k i:Nat),xs.length - i=k->i<=xs.length->i<=ys.length->Meets (Builtin.«list.__eq__.loop» ⟨[.ref l,.ref b,rawInt i,rawInt (Zx3 op)],[]⟩)
  (fun A R s=>s.heap.get? l=some (Za (xs.map Tp.v) n)/\s.heap.get? b=some (Za (ys.map Tp.v) n2)/\Pe s.heap xs/\Pe s.heap ys/\A.units+10 < cLine /\
   R (.ok (.ret (.bool (opZ op (Pa ((xs.map Tp.pq).drop i) ((ys.map Tp.pq).drop i)))))) s):=by
 intro k
 induction k with
 | zero =>
  intro i hk hi hi2 prog w A R s h
  obtain ⟨hp,g,d,tk,os⟩:=s; obtain ⟨hl,hb,tx,ty,hu,h⟩:=h
  unfold Za at hl hb
  refine eqF (Zkl ho _ _ _) ?_
  unfold Zsm
  wp_walk using P3 hl,P3 hb
  have hi1:(⟨xs.map Tp.v⟩:Array Value)[((i:Nat):Int).toNat]?=none:=by simp; lia
  rw [hi1]
  wp_walk using P3 hl,P3 hb
  rw [Zcw hi hi2 (by lia)] at h
  show R (.ok (.ret (.bool (Znb op (xs.map Tp.v).length (ys.map Tp.v).length)))) _
  rw [Zrr ho]
  exact h
 | succ k ih =>
  intro i hk hi hi2 prog w A R s h
  obtain ⟨hp,g,d,tk,os⟩:=s; obtain ⟨hl,hb,tx,ty,hu,h⟩:=h
  have hl':=hl
  have hb':=hb
  unfold Za at hl' hb'
  refine eqF (Zkl ho _ _ _) ?_
  unfold Zsm
  wp_walk using P3 hl',P3 hb'
  have qL:i < xs.length:=by lia
  have hi1:(⟨xs.map Tp.v⟩:Array Value)[((i:Nat):Int).toNat]?=some xs[i].v:=by simp [qL]
  by_cases hlt2:i < ys.length
  ·have hi2':(⟨ys.map Tp.v⟩:Array Value)[((i:Nat):Int).toNat]?=some ys[i].v:=by simp [hlt2]
   rw [hi1,hi2']
   have gx:=tx xs[i] (Zd1 qL)
   have gy:=ty ys[i] (Zd1 hlt2)
   refine Zi (Zt1 (A:=A.in1) (x:=xs[i]) (y:=ys[i]) gx gy (by show A.units+1 < _; lia) prog w _ _ ?_)
   rw [Zer qL hlt2] at h
   by_cases e:xs[i].pq=ys[i].pq
   ·rw [Za7 e]
    rw [if_pos e] at h
    wp_walk
    rw [Z31]
    exact ⟨Zkv plain_eq_loop _,M3 entry_eq_loop (by
     rw [Q0q plain_eq_loop _]
     exact ih (i+1) (by lia) (by assumption) (by assumption) prog w A R _ ⟨hl,hb,tx,ty,hu,h⟩)⟩
   ·rw [Uz e]
    rw [if_neg e] at h
    wp_walk using P3 hl',P3 hb'
    rw [hi1,hi2']
    dsimp only
    refine Zi (Zwi ho gx gy e (by show A.units+1 < _; lia) ?_)
    wp_walk
    exact h
  ·have hi2':(⟨ys.map Tp.v⟩:Array Value)[((i:Nat):Int).toNat]?=none:=by simp; lia
   rw [hi1,hi2']
   wp_walk using P3 hl',P3 hb'
   rw [Zcw hi hi2 (by lia)] at h
   show R (.ok (.ret (.bool (Znb op (xs.map Tp.v).length (ys.map Tp.v).length)))) _
   rw [Zrr ho]
   exact h
end
section
open PySem PySem.W PySem.W.X PySem.SeqAt PySem.MeetsSeq3 PyProof.Rows
noncomputable def lsB (op:CmpOp):Builtin:=match op with
 | .Lt=>Builtin.«list.__lt__»
 | .LtE=>Builtin.«list.__le__»
 | .Gt=>Builtin.«list.__gt__»
 | _=>Builtin.«list.__ge__»
theorem Nx {op:CmpOp} (ho:Zw0 op) (l b:Addr) (xs ys:List Tp) (n n2:Nat):Meets (lsB op ⟨[.ref l,.ref b],[]⟩)
  (fun A R s=>s.heap.get? l=some (Za (xs.map Tp.v) n)/\s.heap.get? b=some (Za (ys.map Tp.v) n2)/\Pe s.heap xs/\Pe s.heap ys/\A.units+10 < cLine /\
   R (.ok (.ret (.bool (opZ op (Pa (xs.map Tp.pq) (ys.map Tp.pq)))))) s):=by
 intro prog w A R s h
 obtain ⟨hp,g,d,tk,os⟩:=s
 have z:=Zp3 ho l b xs ys n n2 _ 0 rfl (Pt _) (Pt _) prog w A R _ h
 obtain ⟨hl,hb,h⟩:=h
 have f3:=AutoSeq1.sub_list_list
 unfold Za at hl hb
 rcases ho with rfl | rfl | rfl | rfl
 all_goals
  unfold lsB
  dsimp only
  wp_walk using P3 hl,P3 hb
  exact ⟨Zkv plain_eq_loop _,M3 entry_eq_loop (by
   rw [Q0q plain_eq_loop _]
   exact z)⟩
theorem Zet (l:List (Int×Int)):Pa l l=0:=by
 induction l with
 | nil=>rfl
 | cons p r ih=>show (if p=p then Pa r r else _)=0; rw [if_pos rfl,ih]
theorem Zk6 {p q:Int×Int} (h:p≠q):Zkg p q≠0:=by
 by_cases h1:p.1=q.1
 ·rw [Zrh h1 (Zdi h h1)]; split<;>decide
 ·rw [Zh5 h1]; split<;>decide
theorem Zag:∀ {x y:List (Int×Int)},Pa x y=0->x=y
 | [],[],_=>rfl
 | [],_::_,h=>by have h:(-1:Int)=0:=h; lia
 | _::_,[],h=>by have h:(1:Int)=0:=h; lia
 | p::x,q::y,h=>by
  have h:(if p=q then Pa x y else Zkg p q)=0:=h
  by_cases e:p=q
  ·rw [if_pos e] at h
   rw [e,Zag h]
  ·rw [if_neg e] at h
   exact absurd h (Zk6 e)
theorem Ze1 {x y:List (Int×Int)} (h:x.length≠y.length):Pa x y≠0:=fun e=>h (Yr List.length (Zag e))
theorem Zsf (l b:Addr) (xs ys:List Tp) (qE:xs.length=ys.length) (n n2:Nat):∀ (k i:Nat),xs.length - i=k->i<=xs.length->Meets (Builtin.«list.__eq__.loop» ⟨[.ref l,.ref b,rawInt i,rawInt 3],[]⟩)
  (fun A R s=>s.heap.get? l=some (Za (xs.map Tp.v) n)/\s.heap.get? b=some (Za (ys.map Tp.v) n2)/\Pe s.heap xs/\Pe s.heap ys/\A.units+10 < cLine /\
   R (.ok (.ret (.bool (!decide (Pa ((xs.map Tp.pq).drop i) ((ys.map Tp.pq).drop i)=0))))) s):=by
 intro k
 induction k with
 | zero =>
  intro i hk hi prog w A R s h
  obtain ⟨hp,g,d,tk,os⟩:=s; obtain ⟨hl,hb,tx,ty,hu,h⟩:=h
  unfold Za at hl hb
  wp_walk using P3 hl,P3 hb
  have hi1:(⟨xs.map Tp.v⟩:Array Value)[((i:Nat):Int).toNat]?=none:=by simp; lia
  rw [hi1]
  wp_walk using P3 hl,P3 hb
  rw [Zcw hi (by lia) (by lia),if_neg (by lia),if_pos qE] at h
  show R (.ok (.ret (.bool ((xs.map Tp.v).length != (ys.map Tp.v).length)))) _
  rw [Z0,Z0,qE,bne_self_eq_false]
  exact h
 | succ k ih =>
  intro i hk hi prog w A R s h
  obtain ⟨hp,g,d,tk,os⟩:=s; obtain ⟨hl,hb,tx,ty,hu,h⟩:=h
  have hl':=hl
  have hb':=hb
  unfold Za at hl' hb'
  wp_walk using P3 hl',P3 hb'
  have qL:i < xs.length:=by lia
  have hlt2:i < ys.length:=by lia
  have hi1:(⟨xs.map Tp.v⟩:Array Value)[((i:Nat):Int).toNat]?=some xs[i].v:=by simp [qL]
  have hi2':(⟨ys.map Tp.v⟩:Array Value)[((i:Nat):Int).toNat]?=some ys[i].v:=by simp [hlt2]
  rw [hi1,hi2']
  have gx:=tx xs[i] (Zd1 qL)
  have gy:=ty ys[i] (Zd1 hlt2)
  refine Zi (Zt1 (A:=A.in1) (x:=xs[i]) (y:=ys[i]) gx gy (by show A.units+1 < _; lia) prog w _ _ ?_)
  rw [Zer qL hlt2] at h
  by_cases e:xs[i].pq=ys[i].pq
  ·rw [Za7 e]
   rw [if_pos e] at h
   wp_walk
   rw [Z31]
   exact ⟨Zkv plain_eq_loop _,M3 entry_eq_loop (by
    rw [Q0q plain_eq_loop _]
    exact ih (i+1) (by lia) (by assumption) prog w A R _ ⟨hl,hb,tx,ty,hu,h⟩)⟩
  ·rw [Uz e]
   rw [if_neg e,Uz (Zk6 e)] at h
   wp_walk using P3 hl',P3 hb'
   rw [hi1,hi2']
   wp_walk
   exact h
theorem Ztc (l b:Addr) (xs ys:List Tp) (n n2:Nat):Meets (Builtin.«list.__ne__» ⟨[.ref l,.ref b],[]⟩)
  (fun A R s=>s.heap.get? l=some (Za (xs.map Tp.v) n)/\s.heap.get? b=some (Za (ys.map Tp.v) n2)/\Pe s.heap xs/\Pe s.heap ys/\A.units+10 < cLine /\
   R (.ok (.ret (.bool (!decide (Pa (xs.map Tp.pq) (ys.map Tp.pq)=0))))) s):=by
 intro prog w A R s h
 obtain ⟨hp,g,d,tk,os⟩:=s; obtain ⟨hl,hb,tx,ty,hu,h⟩:=h
 have f3:=AutoSeq1.sub_list_list
 have hl':=hl
 have hb':=hb
 unfold Za at hl' hb'
 by_cases qE:xs.length=ys.length
 ·have qY:¬ ((⟨xs.map Tp.v⟩:Array Value).size != (⟨ys.map Tp.v⟩:Array Value).size)=true:=by
   show ¬ ((xs.map Tp.v).length != (ys.map Tp.v).length)=true
   rw [Z0,Z0,qE]; simp
  wp_walk using P3 hl',P3 hb'
  exact ⟨Zkv plain_eq_loop _,M3 entry_eq_loop (by
   rw [Q0q plain_eq_loop _]
   exact Zsf l b xs ys qE n n2 _ 0 rfl (Pt _) prog w A R _ ⟨hl,hb,tx,ty,hu,h⟩)⟩
 ·have qY:((⟨xs.map Tp.v⟩:Array Value).size != (⟨ys.map Tp.v⟩:Array Value).size)=true:=by
   show ((xs.map Tp.v).length != (ys.map Tp.v).length)=true
   rw [Z0,Z0]
   exact bne_iff_ne.mpr qE
  rw [Uz (Ze1 (by rw [Z0,Z0]; exact qE))] at h
  wp_walk using P3 hl',P3 hb'
  exact h
section
theorem Zmv {op:CmpOp} (hop:op=.Lt∨op=.LtE∨op=.Eq∨op=.NotEq∨op=.GtE∨op=.Gt) {l b:Addr} {xs ys:List Tp} {n2:Nat} (hl:s.heap.get? l=some (Za (xs.map Tp.v) n)) (hb:s.heap.get? b=some (Za (ys.map Tp.v) n2)) (tx:Pe s.heap xs) (ty:Pe s.heap ys) (hu:A.units+11 < cLine)
  (h:Q (.bool (opZ op (Pa (xs.map Tp.pq) (ys.map Tp.pq)))) s):wpAny (model prog w) A (compareOp op (.ref l) (.ref b)) Q E s:=by
 have hu0:A.units < cLine:=by lia
 have hu1:A.units+10 < cLine:=by lia
 rcases hop with rfl | rfl | rfl | rfl | rfl | rfl
 ·exact Zpw (op:=.Lt) ⟨_,hl,rfl⟩ ⟨_,hb,rfl⟩ F.slot_list_lt F.entry_list_lt (F.args_list_lt_2 _ _) (Nx (.inl rfl) l b xs ys n n2) ⟨hl,hb,tx,ty,hu1,(fun x=>nomatch x),h⟩ hu0
 ·exact Zpw (op:=.LtE) ⟨_,hl,rfl⟩ ⟨_,hb,rfl⟩ F.slot_list_le F.entry_list_le (F.args_list_le_2 _ _) (Nx (.inr (.inl rfl)) l b xs ys n n2) ⟨hl,hb,tx,ty,hu1,(fun x=>nomatch x),h⟩ hu0
 ·by_cases qE:xs.length=ys.length
  ·have z:=RcAt.lists (A:=A) (s:=s) (e:=fun j=>decide ((xs.map Tp.pq)[j]?=(ys.map Tp.pq)[j]?)) (Yn hl) (Yn hb) (by show (xs.map Tp.v).length=(ys.map Tp.v).length; rw [Z0,Z0,qE]) hu0 fun j h1 h2=>by
    have k1:j < xs.length:=by have:j < (xs.map Tp.v).length:=h1; rwa [Z0] at this
    have k2:j < ys.length:=by lia
    have z:=Zt1 (A:=A.in1) (x:=xs[j]) (y:=ys[j]) (tx _ (Zd1 k1)) (ty _ (Zd1 k2)) (by show A.units+1 < _; lia)
    have e1:(xs.map Tp.pq)[j]?=some xs[j].pq:=by simp [k1]
    have e2:(ys.map Tp.pq)[j]?=some ys[j].pq:=by simp [k2]
    rw [e1,e2]
    have e3:(⟨xs.map Tp.v⟩:Array Value)[j]=xs[j].v:=by simp
    have e4:(⟨ys.map Tp.v⟩:Array Value)[j]=ys[j].v:=by simp
    rw [e3,e4]
    have e5:decide (some xs[j].pq=some ys[j].pq)=decide (xs[j].pq=ys[j].pq):=by simp
    rw [e5]
    exact z
   refine z prog w E Q ?_
   have e:((List.range (⟨xs.map Tp.v⟩:Array Value).size).all fun j=>decide ((xs.map Tp.pq)[j]?=(ys.map Tp.pq)[j]?))=decide (Pa (xs.map Tp.pq) (ys.map Tp.pq)=0):=by
    show ((List.range (xs.map Tp.v).length).all fun j=>decide ((xs.map Tp.pq)[j]?=(ys.map Tp.pq)[j]?))=_
    by_cases he:xs.map Tp.pq=ys.map Tp.pq
    ·rw [he,Zet]; simp
    ·rw [Uz fun h0=>he (Zag h0)]
     rw [List.all_eq_false]
     refine Classical.byContradiction fun hn=>he (List.ext_getElem? fun j=>?_)
     by_cases hj:j < xs.length
     ·refine Classical.byContradiction fun qY=>hn ⟨j,Zhp.mpr (by rw [Z0]; exact hj),?_⟩
      rw [decide_eq_true_iff]; exact qY
     ·rw [Zjq (by rw [Z0]; lia),Zjq (by rw [Z0]; lia)]
   rw [e]
   exact h
  ·refine RcAt.lists_lengths (Yn hl) (Yn hb) (bne_iff_ne.mpr (by show (xs.map Tp.v).length≠(ys.map Tp.v).length; rw [Z0,Z0]; exact qE)) hu0 prog w E Q ?_
   have e:opZ .Eq (Pa (xs.map Tp.pq) (ys.map Tp.pq))=false:=Uz (Ze1 (by rw [Z0,Z0]; exact qE))
   rw [e] at h
   exact h
 ·exact Zpw (op:=.NotEq) ⟨_,hl,rfl⟩ ⟨_,hb,rfl⟩ F.slot_list_ne F.entry_list_ne (F.args_list_ne_2 _ _) (Ztc l b xs ys n n2) ⟨hl,hb,tx,ty,hu1,(fun x=>nomatch x),h⟩ hu0
 ·exact Zpw (op:=.GtE) ⟨_,hl,rfl⟩ ⟨_,hb,rfl⟩ F.slot_list_ge F.entry_list_ge (F.args_list_ge_2 _ _) (Nx (.inr (.inr (.inr rfl))) l b xs ys n n2) ⟨hl,hb,tx,ty,hu1,(fun x=>nomatch x),h⟩ hu0
 ·exact Zpw (op:=.Gt) ⟨_,hl,rfl⟩ ⟨_,hb,rfl⟩ F.slot_list_gt F.entry_list_gt (F.args_list_gt_2 _ _) (Nx (.inr (.inr (.inl rfl))) l b xs ys n n2) ⟨hl,hb,tx,ty,hu1,(fun x=>nomatch x),h⟩ hu0
theorem Znv {l b:Addr} {xs ys:List Tp} {n2:Nat} {Q:Bool->Shared->Prop} (hl:s.heap.get? l=some (Za (xs.map Tp.v) n)) (hb:s.heap.get? b=some (Za (ys.map Tp.v) n2)) (tx:Pe s.heap xs) (ty:Pe s.heap ys) (hu:A.units+11 < cLine)
  (h:Q (decide (Pa (xs.map Tp.pq) (ys.map Tp.pq) < 0)) s):wpAny (model prog w) A (keyLt' oneType' (.ref l) (.ref b)) Q E s:=by
 rw [keyLt'_oneType,oneLt'_eq]
 simp only [if_true]
 refine Zi (wpAny_cRoomFor (by lia) ?_)
 refine Zi (wpAny_callSpecialIfBound?_slot (T := "list") ⟨_,hl,rfl⟩ F.slot_list_lt (call_meets F.slot_list_lt ⟨_,hl,rfl⟩ F.entry_list_lt (F.args_list_lt_2 _ _) (Nx (.inl rfl) l b xs ys n n2) ⟨hl,hb,tx,ty,by lia,?_⟩))
 exact Zj0 h
end
end
section
open PySem PySem.W
noncomputable def Za9 (x y:List Nat) (p q:List (Int×Int)):Prop:=(Yu x y/\Pa p q < 0)∨(Yu y x/\Pa p q > 0)
theorem V0 (a b:Int×Int) (p q:List (Int×Int)):Pa (a::p) (b::q)=if a=b then Pa p q else Zkg a b:=rfl
theorem Zwa {a b:Nat} {p q:List (Int×Int)} (h:a < b):Pa ((Int.ofNat a,fa)::p) ((Int.ofNat b,fb)::q)=-1:=by
 have h':Int.ofNat a < Int.ofNat b:=Int.ofNat_lt.mpr h
 have qY:Int.ofNat a≠Int.ofNat b:=by lia
 rw [V0,if_neg (fun e=>qY (Prod.ext_iff.mp e).1),Zh5 qY,if_pos h']
theorem Zw2 {a b:Nat} {p q:List (Int×Int)} (h:b < a):Pa ((Int.ofNat a,fa)::p) ((Int.ofNat b,fb)::q)=1:=by
 have h':Int.ofNat b < Int.ofNat a:=Int.ofNat_lt.mpr h
 have qY:Int.ofNat a≠Int.ofNat b:=by lia
 have hnl:¬ ((Int.ofNat a,fa):Int×Int).1 < ((Int.ofNat b,fb):Int×Int).1:=by show ¬ Int.ofNat a < Int.ofNat b; lia
 rw [V0,if_neg (fun e=>qY (Prod.ext_iff.mp e).1),Zh5 qY,if_neg hnl]
theorem Za9.here {a b:Nat} {p q:List (Int×Int)} (h:a≠b):Za9 (a::x) (b::y) ((Int.ofNat a,fa)::p) ((Int.ofNat b,fb)::q):=by
 by_cases e:a < b
 ·exact .inl ⟨.here e,by rw [Zwa e]; decide⟩
 ·exact .inr ⟨.here (by lia),by rw [Zw2 (show b < a by lia)]; decide⟩
theorem Za9.on {p q:List (Int×Int)} (h:Za9 x y p q) (z:List Nat) (a:Int×Int):Za9 (z++x) (z++y) (a::p) (a::q):=by
 rcases h with ⟨h1,h2⟩ | ⟨h1,h2⟩
 ·exact .inl ⟨h1.pre z,by rw [V0,if_pos rfl]; exact h2⟩
 ·exact .inr ⟨h1.pre z,by rw [V0,if_pos rfl]; exact h2⟩
noncomputable def eT (u:List Nat):List (Int×Int):=u.map sgQ++[(39,0)]
theorem Zha:sgQ 39=(39,1):=rfl
theorem Zcb (h:c≠39):sgQ c=(Int.ofNat c,0):=by unfold sgQ; rw [if_neg h]
theorem Zh3:∀ u v:List Nat,u=v∨Za9 (Jj u++[39,32]) (Jj v++[39,32]) (eT u) (eT v)
 | [],[]=>.inl rfl
 | [],d::v=>by
  rw [Y2]
  refine .inr ?_
  show Za9 [39,32] _ [(39,0)] (sgQ d::(v.map sgQ++[(39,0)]))
  by_cases hd:d=39
  ·rw [if_pos hd,hd,Zha]
   exact .inl ⟨.on (.here (by decide)),by rw [V0,if_neg (by decide)]; decide⟩
  ·rw [if_neg hd,Zcb hd]
   exact Za9.here (a:=39) (fun e=>hd e.symm)
 | c::u,[]=>by
  rw [Y2]
  refine .inr ?_
  show Za9 _ [39,32] (sgQ c::(u.map sgQ++[(39,0)])) [(39,0)]
  by_cases hc:c=39
  ·rw [if_pos hc,hc,Zha]
   exact .inr ⟨.on (.here (by decide)),by rw [V0,if_neg (by decide)]; decide⟩
  ·rw [if_neg hc,Zcb hc]
   exact Za9.here (b:=39) hc
 | c::u,d::v=>by
  rw [Y2,Y2]
  by_cases e:c=d
  ·subst e
   rcases Zh3 u v with h | h
   ·exact .inl (by rw [h])
   ·refine .inr ?_
    rw [Zdp,Zdp]
    exact h.on _ (sgQ c)
  ·refine .inr ?_
   show Za9 _ _ (sgQ c::(u.map sgQ++[(39,0)])) (sgQ d::(v.map sgQ++[(39,0)]))
   by_cases hc:c=39
   ·rw [if_pos hc,if_neg (by lia),hc,Zha,Zcb (by lia)]
    exact Za9.here (a:=39) (by lia)
   ·by_cases hd:d=39
    ·rw [if_neg hc,if_pos hd,hd,Zha,Zcb hc]
     exact Za9.here (b:=39) (by assumption)
    ·rw [if_neg hc,if_neg hd,Zcb hc,Zcb hd]
     exact Za9.here e
noncomputable def pT (u:List Nat):List (Int×Int):=u.map (fun c=>(Int.ofNat c,0))++[(32,0)]
theorem Zb7:∀ u v:List Nat,u.all Yb=true->v.all Yb=true->u=v∨Za9 (u++[32]) (v++[32]) (pT u) (pT v)
 | [],[],_,_=>.inl rfl
 | [],d::v,_,h=>by
  have hd:d≠32:=fun e=>by rw [e] at h; simp [Zeu] at h
  exact .inr (Za9.here (a:=32) (fun e=>hd e.symm))
 | c::u,[],h,_=>by
  have hd:c≠32:=fun e=>by rw [e] at h; simp [Zeu] at h
  exact .inr (Za9.here (b:=32) hd)
 | c::u,d::v,h1,h2=>by
  simp only [List.all_cons,Q1q] at h1 h2
  by_cases e:c=d
  ·subst e
   rcases Zb7 u v h1.2 h2.2 with h | h
   ·exact .inl (by rw [h])
   ·exact .inr (h.on [c] (Int.ofNat c,0))
  ·exact .inr (Za9.here e)
theorem Zj5 (u v:List Nat):u=v∨Za9 (Zh2 u) (Zh2 v) (Ve u) (Ve v):=by
 unfold Zh2
 have oth:∀ {u:List Nat},Xb u=false->Zv u++[32]=[39]++(Jj u++[39,32])/\Ve u=(39,0)::eT u:=fun {u} h=>⟨by rw [Vj h]; simp,by unfold Ve; rw [h,if_neg Bool.false_ne_true]; rfl⟩
 have pla:∀ {u:List Nat},Xb u=true->Zv u++[32]=u++[32]/\Ve u=pT u:=fun {u} h=>⟨by rw [Vi h],by unfold Ve; rw [if_pos h]; rfl⟩
 have head:∀ {u:List Nat},Xb u=true->∃ c r,u=c::r/\c≠39:=fun {u} hu=>by
  cases u with
  | nil=>cases hu
  | cons c r =>
   refine ⟨c,r,rfl,fun e=>?_⟩
   have:=Jf hu
   rw [e] at this
   simp [Zr7] at this
 cases hu:Xb u with
 | true =>
  cases hv:Xb v with
  | true =>
   rw [(pla hu).1,(pla hu).2,(pla hv).1,(pla hv).2]
   exact Zb7 u v (Jf hu) (Jf hv)
  | false =>
   rw [(pla hu).1,(pla hu).2,(oth hv).1,(oth hv).2]
   obtain ⟨c,r,rfl,hc⟩:=head hu
   exact .inr (Za9.here (b:=39) hc)
 | false =>
  cases hv:Xb v with
  | true =>
   rw [(oth hu).1,(oth hu).2,(pla hv).1,(pla hv).2]
   obtain ⟨c,r,rfl,hc⟩:=head hv
   exact .inr (Za9.here (a:=39) (fun e=>hc e.symm))
  | false =>
   rw [(oth hu).1,(oth hu).2,(oth hv).1,(oth hv).2]
   rcases Zh3 u v with h | h
   ·exact .inl h
   ·exact .inr (h.on [39] (39,0))
theorem Zmy (op:CmpOp) (u v:List Nat):opZ op (Pa (Ve u) (Ve v))=opZ op (cpQ u v):=by
 have key:∀ a b:Int,(a=0/\b=0)∨(a < 0/\b < 0)∨(a > 0/\b > 0)->opZ op a=opZ op b:=fun a b h=>by
  rcases h with ⟨rfl,rfl⟩ | ⟨h1,h2⟩ | ⟨h1,h2⟩
  ·rfl
  ·cases op<;>first | (unfold opZ; dsimp only; rw [decide_eq_decide]; lia) | (unfold opZ; dsimp only; refine congrArg (! ·) ?_; rw [decide_eq_decide]; lia)
  ·cases op<;>first | (unfold opZ; dsimp only; rw [decide_eq_decide]; lia) | (unfold opZ; dsimp only; refine congrArg (! ·) ?_; rw [decide_eq_decide]; lia)
 refine key _ _ ?_
 rcases Zj5 u v with rfl | ⟨h1,h2⟩ | ⟨h1,h2⟩
 ·exact .inl ⟨Zet _,Zcl u⟩
 ·exact .inr (.inl ⟨h2,by rw [G9 h1]; decide⟩)
 ·exact .inr (.inr ⟨h2,by rw [Zad h1]; decide⟩)
theorem Zsb (u v:List Nat):decide (Pa (Ve u) (Ve v) < 0)=X7 u v:=Zmy .Lt u v
end
section
open PySem PySem.W PySem.W.X PyProof.Rows
structure Rk where
 a:Addr
 ep:Nat
 ps:List Tp
noncomputable def Zeg (x:Rk):LC:=(x.a,Za (x.ps.map Tp.v) x.ep)::Mw x.ps
noncomputable def Zrn:List Rk->LC
 | []=>[]
 | x::r=>Zeg x++Zrn r
theorem Ze9:∀ (l:List Rk) (x:Rk),Zrn (l++[x])=Zrn l++Zeg x
 | [],x=>by show Zeg x++[]=_; rw [Gf]; rfl
 | y::l,x=>by show Zeg y++Zrn (l++[x])=(Zeg y++Zrn l)++Zeg x; rw [Ze9 l x,Zdp]
theorem Gr:∀ {l:List Rk} {x:Rk},x∈l->∀ p∈Zeg x,p∈Zrn l
 | y::l,x,h,p,hp=>by
  rcases X6.mp h with rfl | h
  ·exact N8 _ hp
  ·exact N7 _ (Gr h p hp)
theorem Zoy (O:Own H l h) {x:Rk} (hx:∀ p∈Zeg x,p∈l):h.get? x.a=some (Za (x.ps.map Tp.v) x.ep)/\Pe h x.ps :=
 ⟨O.own (x.a,_) (hx _ (.head _)),fun y hy=>O.own y.o (hx _ (.tail _ (Zdq hy)))⟩
noncomputable def rSt (us:LD) (i:Nat) (kv:LH) (l:LC):Prop :=
 ∃ rs:List Rk,rs.length=i/\i<=us.length/\kv=rs.map (fun x=>.ref x.a)/\l=Zrn rs/\∀ (j:Nat) (x:Rk) (u:List Nat),rs[j]?=some x->us[j]?=some u->x.ps.map Tp.pq=Ve u
noncomputable def rsC (la:Addr) (us:LD) (tk:LM) (ep:Nat):Con where
 pre:=[(la,Za (wsV (us.map S) tk) ep)]
 post _:=[(la,Za (wsV (us.map S) tk) ep)]
 fresh x:=[(x.nat 2,Za (wsV ((Zy us).map S) (x.seq 0 0)) (x.nat 3))]
 code:=.builtin "sorted" ⟨[.ref la],[(Str.ofString "key",.ref 804)]⟩
 res x:=.ok (.ret (.ref (x.nat 2)))
 need:=120
 fr:=none
section
theorem Zpu (hus:∀ u∈us,u.length<=1000000) (tk:LM) (hA:AOk A none 102) (G:Ground T2 (wb w b) H) (r:Zb3) :
  M4 prog (wb w b) A H r (.type "list") 804 (wsV (us.map S) tk) (rkQ us) (rSt us):=by
 have hwl:(wsV (us.map S) tk).length=us.length:=by rw [Yw,Z0]
 have get:∀ {i},i < us.length->us[i]?=some (us.getD i []):=fun {i} hi=>by
  rw [Vp hi,Zbj,Vp hi]; rfl
 constructor
 case len=>rintro i kv l ⟨rs,h1,h2,rfl,-⟩; rw [Z0,h1]
 case tup=>rfl
 case type =>
  rintro kv l ⟨rs,h1,h2,rfl,rfl,-⟩ v hv
  obtain ⟨x,hx,rfl⟩:=Uo.mp hv
  exact ⟨x.a,_,rfl,Gr hx _ (.head _),rfl⟩
 case call =>
  rintro i kv l v h t g rest ⟨rs,h1,h2,rfl,rfl,h5⟩ hv O
  obtain ⟨wd,hw,rfl⟩:=Ji us tk i v hv
  have hi:i < us.length:=(Zfj.mp hw).1
  refine Zgd hA G (hus _ (Nl hw)) O fun acc ps ea h' t' g' hps O' ht' gr'=>?_
  refine ⟨h',t',g',_,rfl,⟨rs++[⟨acc,ea,ps⟩],by rw [Vc,h1]; rfl,hi,by rw [J3]; rfl,rfl,fun j x u hx hu=>?_⟩,?_,ht',gr'⟩
  ·by_cases hj:j < rs.length
   ·rw [List.getElem?_append_left hj] at hx
    exact h5 j x u hx hu
   ·have hj':j=i:=by
     have:=(Zfj.mp hx).1
     rw [Vc] at this
     simp only [V7,Zbb] at this
     lia
    subst hj'
    rw [← h1,List.getElem?_append_right (Y9 _),Nat.sub_self] at hx
    cases hx
    rw [hu] at hw
    cases hw
    exact hps
  ·rw [Ze9]
   refine O'.perm ?_
   exact pm [_] [_,_,_] 21070210 2692776705
 case lt =>
  rintro i j kv l h t g rest Q ⟨rs,h1,h2,rfl,rfl,h5⟩ hi hj hij O hQ
  rw [hwl] at h1 hi hj
  have ni:rs[i]?=some rs[i]:=Vp (by lia)
  have nj:rs[j]?=some rs[j]:=Vp (by lia)
  have gi:(rs.map fun x=>Value.ref x.a).getD i .none=.ref rs[i].a:=by rw [Zbj,Zbl,ni]; rfl
  have gj:(rs.map fun x=>Value.ref x.a).getD j .none=.ref rs[j].a:=by rw [Zbj,Zbl,nj]; rfl
  rw [gi,gj]
  obtain ⟨ai,ti⟩:=Zoy O (x:=rs[i]) fun p hp=>N8 _ (Gr (Zd1 _) p hp)
  obtain ⟨aj,tj⟩:=Zoy O (x:=rs[j]) fun p hp=>N8 _ (Gr (Zd1 _) p hp)
  refine Znv (s:=r.at h ⟨t,g⟩) ai aj ti tj (by have:=hA.units; lia) ?_
  rw [h5 i _ _ ni (get hi),h5 j _ _ nj (get hj),Zsb,← Zmt hi hj]
  exact hQ _ h t g ⟨rs,by rw [hwl,h1],by rw [hwl]; exact Y9 _,rfl,rfl,h5⟩ O (Y9 _) (Zq.refl _ _)
theorem Z8s (h64:us.length < 4) (hus:∀ u∈us,u.length<=1000000) (la:Addr) (tk:LM) (ep:Nat) (n t:Nat):Z6 T2 prog (wb w b) n t (rsC la us tk ep):=by
 refine ⟨fun H h r g A Rz G hA O hs hR=>?_⟩
 have hwl:(wsV (us.map S) tk).length=us.length:=by rw [Yw,Z0]
 have hA:AOk A none 120:=hA
 have hA2:AOk A.in1.in1 none 102:=⟨hA.hand,by have:=hA.deep; show A.depth+5 * 102 < _; lia,by have:=hA.units; show A.units+1+1+10 * 102 < _; lia,fun l e=>by cases e⟩
 refine (Zpu hus tk hA2 G r).sorted_ok (by rw [hwl]; exact h64) (la:=la) (ep:=ep) (l0:=[]) ⟨[],rfl,Pt _,rfl,rfl,fun j x u hx=>by cases hx⟩ (rest:=[]) O ?_
 rintro p kv l' D e h' t' g' hu ha ⟨rs,h1,h2,rfl,rfl,h5⟩ O' hs' ht' gr'
 rw [hwl] at hu ha
 obtain ⟨tk',hv⟩:=Zez (tk:=tk) hu ha
 rw [hv] at O'
 have hn:n<=h'.objs.size:=by lia
 have qA:=hR ⟨fun j=>match j with | 0=>h'.objs.size - n | 1=>t' - t | 2=>D | _=>e,fun _=>#[],fun _ _=>tk',Ext.nil.ob⟩ h' g' (Own.drop (r:=Zrn rs) (O'.perm (by
  simp only [Con.postA,rsC,Zt]
  exact pm [_,_] [_] 82306 288230547954614401))) (Nat.add_sub_cancel' hn).symm gr'
 have et:t+(t' - t)=t':=by lia
 change Rz (.ok (.ret (.ref D))) (r.at h' ⟨t+(t' - t),g'⟩) at qA
 rw [et] at qA
 exact qA
end
end
theorem J2 (w:Hs) (top:LE) (a:LN) (k:LM):(Z1 w top a k).Perm (Xm a k++Ze6 w top a k):=by
 unfold Z1 Xm Ze6
 exact pm [_,_,_,_,_,_,_,_,_,_,_,_,_,_,_,_] [] 1920592910782986027144456637121154 31451171088619241856586884848069821057
theorem Zkc (w:Hs) (top:LE) (a n:Nat) (R y:LM):(Z1 w top (Nm a n) (Znj R y)).Perm (Xm (adK a) R++Ze6 w top (Nm a n) y):=by
 have e1:Xm (Nm a n) (Znj R y)=Xm (adK a) R:=by rfl
 have e2:Ze6 w top (Nm a n) (Znj R y)=Ze6 w top (Nm a n) y:=by rfl
 have z:=J2 w top (Nm a n) (Znj R y)
 rw [e1,e2] at z
 exact z
theorem Mg:∀ (ws:LD) (B:Nat),(∀ u∈ws,u.length<=B)->(Zg ws).length<=ws.length * (5 * B+3)
 | [],B,_=>Pt _
 | [u],B,h=>by
  show (Zv u).length<=_
  have:=Zap u
  have:=h u (.head _)
  simp only [V7,Zbb]
  lia
 | u::v::r,B,h=>by
  have ih:=Mg (v::r) B fun x hx=>h x (.tail _ hx)
  have:=Zap u
  have:=h u (.head _)
  show (Zv u++32::Zg (v::r)).length<=(v::r).length.succ * (5 * B+3)
  rw [Vc,V7,Nat.succ_mul]
  lia
noncomputable def lwS (top:TpT) (k:Nat):Stmt:=Zl (Z7 top 826) k
noncomputable def lwV (top:TpT) (k:Nat):Expr:=Zjb (lwS top k)
noncomputable def Zm (top:TpT) (fr kc wc:Addr):Env:={ scope:=(Z7 top 826).scope,locals:=fr,globals:=3,cells:=[("words",wc),("key",kc)],qual := "law.<locals>.",func:=some 826,code:=.ref 825,frame:=some fr,builtins:=0 }
noncomputable def Zld:List String:=["script", "lines", "rows", "ordered", "folded", "told", "pairs", "keys", "ranks"]
noncomputable def Z6u (w:Hs) (ft:LM):Nat->List String->LH->List DictEntry
 | k,n::ns,v::vs=>ent w n (ft k) v::Z6u w ft (k+1) ns vs
 | _,_,_=>[]
noncomputable def Yy (w:Hs) (ft:LM) (vs:LH) (sl:LG):Obj:=frO ⟨Z6u w ft 0 Zld vs⟩ vs.length sl
noncomputable def kwV (e:Expr):Expr:=match (vE e).2.2.2.2.2.2.2 with
 | k::_=>match k with
  | ⟨_,v,_⟩=>v
 | []=>.Name "" default
noncomputable def Yao (w:Hs) (top:TpT):Fam:=fun n _ _ _ _=>Zph w top n
noncomputable def Za4 (top:TpT):Expr:=lwV top 2
noncomputable def Yaq (top:TpT):Expr:=Ze (Za4 top) 0
noncomputable def Z5f (top:TpT):Expr:=Zo (Yaq top) 0
noncomputable def Znr (top:TpT):Expr:=Zo (Z5f top) 0
noncomputable def lw2a (w:Hs) (top:TpT) (ev:AsT) (C fr kc wc:Nat) (o:LI) (v:Value) (n t:Nat):Zx Unit:=tW [(C,xV w "line" o)] (fun x=>[(C,xV w "line" (some (x.nat 2,v)))]) (ev (Zf (Znr top) 0) (compEnvC (Zc (Znr top)) [] C (Zm top fr kc wc)) v) (())
noncomputable def lw2b (w:Hs) (top:TpT) (ev:AsT) (C fr kc wc:Nat) (o:LI) (v:Value) (n t:Nat):Zx Unit:=tW [(C,xV w "text" o)] (fun x=>[(C,xV w "text" (some (x.nat 2,v)))]) (ev (Zf (Za4 top) 0) (compEnvC (Zc (Za4 top)) [] C (Zm top fr kc wc)) v) (())
noncomputable def Z5m (top:TpT):Expr:=Zo (lwV top 3) 0
noncomputable def Zjl (top:TpT):Expr:=Zo (Z5m top) 0
noncomputable def Z48 (top:TpT):Expr:=Zo (Zh (Zjl top)) 0
noncomputable def Zij (kc:Addr):List (Str×Addr):=[("key",kc)]
noncomputable def lw3a (w:Hs) (top:TpT) (ev:AsT) (C fr kc wc:Nat) (o:LI) (v:Value) (n t:Nat):Zx Unit:=tW [(C,xV w "row" o)] (fun x=>[(C,xV w "row" (some (x.nat 2,v)))]) (ev (Zf (Zjl top) 0) (compEnvC (Zc (Zjl top)) (Zij kc) C (Zm top fr kc wc)) v) (())
noncomputable def Zhw (top:TpT):Expr:=Zo (lwV top 4) 1
noncomputable def lw4a (w:Hs) (top:TpT) (ev:AsT) (C fr kc wc:Nat) (o:LI) (v:Value) (n t:Nat):Zx Unit:=tW [(C,xV w "row" o)] (fun x=>[(C,xV w "row" (some (x.nat 2,v)))]) (ev (Zf (Zhw top) 0) (compEnvC (Zc (Zhw top)) [] C (Zm top fr kc wc)) v) (())
noncomputable def Z5w (top:TpT):Expr:=Zo (lwV top 5) 0
noncomputable def Zjp (top:TpT):Expr:=Zo (Z5w top) 0
noncomputable def Z49 (top:TpT):Expr:=Zo (Zh (Zjp top)) 0
noncomputable def lw5a (w:Hs) (top:TpT) (ev:AsT) (C fr kc wc:Nat) (o:LI) (v:Value) (n t:Nat):Zx Unit:=tW [(C,xV w "line" o)] (fun x=>[(C,xV w "line" (some (x.nat 2,v)))]) (ev (Zf (Zjp top) 0) (compEnvC (Zc (Zjp top)) [] C (Zm top fr kc wc)) v) (())
noncomputable def Uv (top:TpT):Expr:=lwV top 6
noncomputable def Zxf (w:Hs) (top:TpT) (ev:AsT) (C fr kc wc:Nat) (o:Option (Nat×Value×LI)) (v:Value) (n t:Nat):Zx Unit:=tW [(C,x2V w "row" "word" o)] (fun x=>[(C,x2V w "row" "word" (match o with | none=>some (x.nat 2,v,none) | some (_,_,none)=>some (x.nat 2,v,none) | some (_,_,some (_,v2))=>some (x.nat 2,v,some (x.nat 3,v2))))]) (ev (Zf (Uv top) 0) (compEnvC (Zc (Uv top)) [] C (Zm top fr kc wc)) v) (())
noncomputable def Z3i (w:Hs) (top:TpT) (ev:AsT) (C fr kc wc:Nat) (o:Option (Nat×Value×LI)) (v:Value) (n t:Nat):Zx Unit:=tW [(C,x2V w "row" "word" o)] (fun x=>[(C,x2V w "row" "word" (match o with | none=>none | some (_,v1,_)=>some (x.nat 2,v1,some (x.nat 3,v))))]) (ev (Zf (Uv top) 1) (compEnvC (Zc (Uv top)) [] C (Zm top fr kc wc)) v) (())
noncomputable def tuP (v1 v2:Value):Obj:={ cls:=.type "tuple",data:=.seq #[v1,v2] 0 }
noncomputable def Zbk (top:TpT):Expr:=lwV top 7
noncomputable def Mx (top:TpT):Expr:=lwV top 8
noncomputable def Ug (top:TpT):Expr:=lwV top 9
noncomputable def Z5a (wc:Addr):List (Str×Addr):=[("words",wc)]
noncomputable def lw7a (w:Hs) (top:TpT) (ev:AsT) (C fr kc wc:Nat) (o:LI) (v:Value) (n t:Nat):Zx Unit:=tW [(C,xV w "k" o)] (fun x=>[(C,xV w "k" (some (x.nat 2,v)))]) (ev (Zf (Zbk top) 0) (compEnvC (Zc (Zbk top)) (Z5a wc) C (Zm top fr kc wc)) v) (())
noncomputable def giF (xs:LH) (i:Nat) (v:Value):Fam:=fun _ _ c l _=>Zfq (Yj (Z8 c 0)) xs (Jo (Z2 l 0)) (Int.ofNat i) (Ju (Z8 c 1)) v
noncomputable def glF (xs:LH) (v:Value):Fam:=fun _ _ c l _=>Zfq (Yj (Z8 c 0)) (xs++[v]) (Jo (Z2 l 0)) (-1) (Ju (Z8 c 1)) v
noncomputable def lwR (top:TpT):Expr:=M6 (lwS top 10)
noncomputable def Znm (top:TpT):Expr:=Zoh (lwR top) 0
noncomputable def Zyp (top:TpT):Expr:=Zoh (lwR top) 1
noncomputable def Zyz (top:TpT):Expr:=Pk (Znm top) 2
noncomputable def Z57 (top:TpT):Expr:=Zo (Zyz top) 0
theorem Zbc (elt target iter:Expr) (ifs:List Expr) (g0:Comprehension) (scope:Scope) (pos:Pos) (it acc:Value) (qq:Env) :
  compTurn (.ListComp elt [g0,⟨target,iter,ifs,0⟩] scope pos) 1 it acc qq=(standAt iter.pos>>=fun _=>pyNext it>>=fun r=>match r with
   | none=>pure (.done .next)
   | some v=>letOwnedTupleGo target it v>>=fun _=>assign target qq v>>=fun _=>(forIn ifs true fun c r=>if r=true then do let ok ← isTrue c qq (eval c qq); pure (ForInStep.yield ok) else pure (ForInStep.yield r))>>=fun ok=>do
    if ok then
     (do let _ ← call (.builtin "list.append") [acc,← eval elt qq])
    again (.compLoop (.ListComp elt [g0,⟨target,iter,ifs,0⟩] scope pos) 1 it acc qq)):=by rfl
theorem Uf {R:Result->Shared->Prop} {elt:Expr} {ifs:List Expr} {g0:Comprehension} {it:Value} (I:Nat->Shared->Prop)
  (qP:∀ n s,I n s->wpAny (model prog w) A (pyNext it) (fun r s₁=>match r with
   | none=>R (.ok .next) s₁
   | some v=>wpAny (model prog w) A (assign target qq v) (fun _ s₂ =>
     wpAny (model prog w) A (forIn ifs true fun c r=>if r=true then do let ok ← isTrue c qq (eval c qq); pure (ForInStep.yield ok) else pure (ForInStep.yield r)) (fun ok s₃ =>
      if ok=true then wpAny (model prog w) A (eval elt qq) (fun x s₄ =>
       wpAny (model prog w) A (call (.builtin "list.append") [acc,x]) (fun _ s₅=>∃ m,m < n/\I m s₅) (notedBy (model prog w) A qq fun e s'=>R (.error e) s') s₄) (notedBy (model prog w) A qq fun e s'=>R (.error e) s') s₃
      else ∃ m,m < n/\I m s₃) (notedBy (model prog w) A qq fun e s'=>R (.error e) s') s₂) (notedBy (model prog w) A qq fun e s'=>R (.error e) s') s₁) (notedBy (model prog w) A qq fun e s'=>R (.error e) s') s)
  (n:Nat) (h:I n s) (ht:∀ v,letOwnedTupleGo target it v=pure ()) :
  codeAny (model prog w) A (.compLoop (.ListComp elt [g0,⟨target,iter,ifs,0⟩] scope pos) 1 it acc qq) R s:=by
 refine codeAny_loop rfl I (fun n s hI=>?_) n h
 refine wpAny_noted ?_
 rw [Zbc]
 refine Zi (Zd2 (Zi (Jy (qP n s hI) (fun r s₁ h₁=>?_) fun _ _ h'=>h')))
 cases r with
 | none=>exact Yo h₁
 | some v =>
  refine Zi (Zbf (ht v) ?_)
  refine Zi (Jy h₁ (fun _ s₂ h₂=>Zi (Jy h₂ (fun ok s₃ h₃=>?_) fun _ _ h'=>h')) fun _ _ h'=>h')
  cases ok with
  | false=>exact Yo ⟨rfl,h₃⟩
  | true =>
   exact Zi (Zi (Jy h₃ (fun x s₄ h₄=>Zi (Jy h₄ (fun _ s₅ h₅=>Yo (Yo ⟨rfl,h₅⟩)) fun _ _ h'=>h')) fun _ _ h'=>h'))
theorem Uc {R:Result->Shared->Prop} {elt:Expr} {ifs:List Expr} {g0:Comprehension} {it:Value}
  (h0:codeAny (model prog w) A (.compLoop (.ListComp elt [g0,⟨target,iter,ifs,0⟩] scope pos) 1 it acc qq) R s)
  (h:wpAny (model prog w) A (pyIter it) (fun it' s'=>codeAny (model prog w) A (.compLoop (.ListComp elt [g0,⟨target,iter,ifs,0⟩] scope pos) 1 it' acc qq) R s')
   (notedBy (model prog w) A qq fun x s'=>R (.error x) s') s) :
  codeAny (model prog w) A (.compStart (.ListComp elt [g0,⟨target,iter,ifs,0⟩] scope pos) 1 it acc qq) R s:=by
 refine codeAny_of_tree ?_
 refine wpAny_notedAt ?_
 unfold compStart
 refine Zi (wpAny_askSetting (wpAny_ite ?_))
 split
 ·first
   | exact Zi (Yo (Yo (And.intro rfl h0)))
   | exact Yo (And.intro rfl h0)
 ·first
   | exact Zi (wpAny_rule (Zi (Zd2 (Zi (Jy h (fun it' s' h'=>Yo (And.intro rfl h')) fun _ _ x=>x)))))
   | (refine Zi (wpAny_rule ?_); show wpAny _ _ (standAt iter.pos>>=_) _ _ s; exact Zi (Zd2 (Zi (Jy h (fun it' s' h'=>Yo (And.intro rfl h')) fun _ _ x=>x))))
theorem Zls {acc:Addr} {N:Nat} {At:Obj->Nat->Prop} {vl:Nat->Value->Prop} {sz:Nat->Nat->Prop} (S:Src prog w A H r it fix N At vl sz)
  {elt:Expr} {ifs:List Expr} {g0:Comprehension} (ht:∀ v,letOwnedTupleGo target (.ref it) v=pure ()) {σ:Type} (ob:σ->LC) (qj:Nat->σ->LH->Nat->Prop) {R:Result->Shared->Prop} (qT:∀ p∈fix,p∈l) {K:Nat} (hK:K<=sizeLine)
  (qk:∀ i st ys n,qj i st ys n->i < N->ys.length < K)
  (qP:∀ i v st ys n m h t g (Q:Option Value->Shared->Prop),i < N->vl i v->qj i st ys n->Own H (ob st++(l++m)) h->h.objs.size=n->t₀<=t->Zq true g₀ g ->
   (∀ o st' n' h' t' g',qj (i+1) st' (ys++o.toList) n'->Own H (ob st'++(l++m)) h'->h'.objs.size=n'->t<=t'->Zq true g g'->Q o (r.at h' ⟨t',g'⟩)) ->
   Zcf (model prog w) A target ifs elt qq v Q (notedBy (model prog w) A qq fun e s'=>R (.error e) s') (r.at h ⟨t,g⟩))
  (last:∀ st ys ea n n' h t g,qj N st ys n->sz n n'->Own H ((acc,Za ys ea)::(ob st++l)) h->h.objs.size=n'->t₀<=t->Zq true g₀ g->R (.ok .next) (r.at h ⟨t,g⟩))
  {oi:Obj} {st:σ} {ys:LH} (hat:At oi 0) (hI:qj 0 st ys h.objs.size) (O:Own H ((it,oi)::(acc,Za ys ea)::(ob st++l)) h) (qV:t₀<=t) (hg:Zq true g₀ g) :
  codeAny (model prog w) A (.compLoop (.ListComp elt [g0,⟨target,iter,ifs,0⟩] scope pos) 1 (.ref it) (.ref acc) qq) R (r.at h ⟨t,g⟩):=by
 refine Uf (fun k s=>LpI r (N) (At) (qj) (fun oi st ys ea=>(it,oi)::(acc,Za ys ea)::(ob st++l)) H t₀ g₀ k s) ?_ N
  (.mk 0 oi st ys ea h t g rfl (Pt _) hat hI (O) qV hg) ht
 rintro k s ⟨i,oi,st,ys,ea,h,t,g,rfl,hi,hat,hI,O,qV,hg⟩
 have hf:∀ p∈fix,p∈(acc,Za ys ea)::(ob st++l):=fun p hp=>.tail _ (N7 _ (qT p hp))
 by_cases qL:i < N
 ·refine S.next qL hat hf O fun oi' h1 v t1 hat1 hv O1 qU qK=>?_
  have O1':Own H (ob st++(l++[(it,oi'),(acc,Za ys ea)])) h1:=O1.perm (by
   refine Gs fun _=>?_
   simp only [Mq,Gn,Zc1]
   lia)
  refine qP i v st ys _ [(it,oi'),(acc,Za ys ea)] h1 t1 g _ qL hv hI O1' qU (by exact (Zn qV qK)) hg |> fun T=>Jy (T fun o st' n' h2 t2 g2 hI2 O2 qS qN hg2=>?_:Zcf _ _ _ _ _ _ _ (fun o s'=>match o with
    | some x=>wpAny (model prog w) A (call (.builtin "list.append") [.ref acc,x]) (fun _ s₅=>∃ m,m < N - i/\LpI r (N) (At) (qj) (fun oi st ys ea=>(it,oi)::(acc,Za ys ea)::(ob st++l)) H t₀ g₀ m s₅) (notedBy (model prog w) A qq fun e s'=>R (.error e) s') s'
    | none=>∃ m,m < N - i/\LpI r (N) (At) (qj) (fun oi st ys ea=>(it,oi)::(acc,Za ys ea)::(ob st++l)) H t₀ g₀ m s') _ _) (fun _ s2 q=>q) fun _ _ q=>q
  have gr:=gtr hg hg2
  cases o with
  | none =>
   refine ⟨N - (i+1),by lia,.mk (i+1) oi' st' ys ea h2 t2 g2 rfl qL hat1 ?_ (O2.perm ?_) (by exact (Zn qV (Zn qK qN))) gr⟩
   ·rw [qS]
    simpa using hI2
   ·exact pm [_,_] [_,_] 10519299 14729858
  | some x =>
   have Oa:(acc,Za ys ea)∈ob st'++(l++[(it,oi'),(acc,Za ys ea)]):=by simp
   refine wpAny_list_append_plain (s:=r.at h2 ⟨t2,g2⟩) (items:=⟨ys⟩) ⟨ea,O2.own _ Oa⟩ (fun h3 hp xz=>?_) (by
    have:=qk i st ys _ hI qL
    show ys.length<=sizeLine
    lia)
   obtain ⟨ea',hp⟩:=hp
   rw [push_listO' ys ea x ea'] at hp
   have O2':Own H ((acc,Za ys ea)::(it,oi')::(ob st'++l)) h2:=O2.perm (by
    refine Gs fun _=>?_
    simp only [Mq,Gn,Zc1]
    lia)
   have O3:Own H ((acc,Za (ys++[x]) ea')::(it,oi')::(ob st'++l)) h3:=O2'.same xz hp
   refine ⟨N - (i+1),by lia,.mk (i+1) oi' st' (ys++[x]) ea' h3 t2 g2 rfl qL hat1 ?_ (O3.perm (.swap _ _ _)) (by exact (Zn qV (Zn qK qN))) gr⟩
   rw [xz.1,qS]
   exact hI2
 ·have hiN:i=N:=by lia
  subst hiN
  exact S.done hat hf O fun h' O' hs=>last st ys ea _ _ h' t g hI hs O' rfl qV hg
theorem Zef (elt t0 i0 t1 i1:Expr) (scope:Scope) (pos:Pos) (it acc:Value) (qq:Env) :
  compTurn (.ListComp elt [⟨t0,i0,[],0⟩,⟨t1,i1,[],0⟩] scope pos) 0 it acc qq=(standAt i0.pos>>=fun _=>pyNext it>>=fun r=>match r with
   | none=>pure (.done .next)
   | some v=>letOwnedTupleGo t0 it v>>=fun _=>assign t0 qq v>>=fun _=>eval i1 qq>>=fun x=>standAt i1.pos>>=fun _=>foldedSetIterable i1 qq x>>=fun x =>
     holding [x] (pyIter x)>>=fun it1=>runOwn (.compStart (.ListComp elt [⟨t0,i0,[],0⟩,⟨t1,i1,[],0⟩] scope pos) 1 it1 acc qq) qq>>=fun _ =>
     again (.compLoop (.ListComp elt [⟨t0,i0,[],0⟩,⟨t1,i1,[],0⟩] scope pos) 0 it acc qq)):=by rfl
theorem Gu (hh:A.handled=none) {N:Nat} {vl:Nat->Value->Prop} (OP:Opn prog w A H r xv fix N vl)
  {elt t1:Expr} {g0:Comprehension} {acc:Addr} {K':Shared->Prop} {E:LF} (ht:∀ I v,letOwnedTupleGo t1 (.ref I) v=pure ())
  {σ:Type} (ob:σ->LC) (qj:Nat->σ->LH->Prop) (qT:∀ p∈fix,p∈l) {K:Nat} (hK:K<=sizeLine)
  (qk:∀ i st ys,qj i st ys->i < N->ys.length < K)
  (qP:∀ i v st ys m h t g (Q:Option Value->Shared->Prop) (E:LF),i < N->vl i v->qj i st ys->Own H (ob st++(l++m)) h->t₀<=t->Zq true g₀ g ->
   (∀ x st' h' t' g',qj (i+1) st' (ys++[x])->Own H (ob st'++(l++m)) h'->t<=t'->Zq true g g'->Q (some x) (r.at h' ⟨t',g'⟩)) ->
   wpAny (model prog w) A (assign t1 qq v) (fun _ s₂=>wpAny (model prog w) A (eval elt qq) (fun x s₄=>Q (some x) s₄) E s₂) E (r.at h ⟨t,g⟩))
  (last:∀ st ys ea h t g,qj N st ys->Own H ((acc,Za ys ea)::(ob st++l)) h->t₀<=t->Zq true g₀ g->K' (r.at h ⟨t,g⟩))
  {st:σ} {ys:LH} (hI:qj 0 st ys) (O:Own H ((acc,Za ys ea)::(ob st++l)) h) (qV:t₀<=t) (xA:Zq true g₀ g) :
  wpAny (model prog w) A (pyIter xv) (fun it1 s=>wpAny (model prog w) A (runOwn (.compStart (.ListComp elt [g0,⟨t1,i1,[],0⟩] scope pos) 1 it1 (.ref acc) qq) qq) (fun _ s=>K' s) E s) E (r.at h ⟨t,g⟩):=by
 refine OP.opn (fun p hp=>.tail _ (N7 _ (qT p hp))) O fun oi At S hat hfr self=>?_
 have O1:=O.push oi hfr
 generalize h.push oi=h1 at O1
 generalize h.objs.size=I at O1 S self
 refine wpAny_runOwn ?_
 have loop:codeAny (model prog w) (A.mark none) (.compLoop (.ListComp elt [g0,⟨t1,i1,[],0⟩] scope pos) 1 (.ref I) (.ref acc) qq) (fun r s'=>match r with | .ok f=>K' s' | .error e=>cameBackBy (model prog w) A qq E e s') (r.at h1 ⟨t,g⟩):=by
  refine Zls (S (A.mark none) hh) (ht I) ob (fun i st ys _=>qj i st ys) qT hK (fun i st ys n hI hi=>qk i st ys hI hi) (t₀:=t₀) (g₀:=g₀) (fun i v st ys n m h t g Q hi hv hI O qE ht hg hQ=>?_) (fun st ys ea n n' h t g hI _ O qE ht hg=>?_) (st:=st) (ea:=ea) hat hI O1 qV xA
  ·exact Zcf.plain (qP i v st ys m h t g Q _ hi hv hI O ht hg fun x st' h' t' g' hI' O' ht' hg'=>hQ (some x) st' h'.objs.size h' t' g' hI' O' rfl ht' hg')
  ·exact last st ys ea h t g hI O ht hg
 exact Uc loop (self O1 loop)
theorem Nu (hh:A.handled=none) {N:Nat} {vl:Nat->Value->Prop} (OP:Opn prog w A H r xv fix N vl)
  {elt t0 i0 t1:Expr} {cl:List (Str×Addr)} {use:Option (Value->Sem Unit)} {E:LF}
  (qU:∀ C x,foldedSetIterable i1 (compEnvC scope cl C qq) x=pure x) (hcell:∀ y∈scope.names,y.2≠.cell)
  (ht:∀ I v,letOwnedTupleGo t0 (.ref I) v=pure ())
  {σ:Type} (dO:σ->Obj) (mid:σ->LC) (qj:Nat->σ->LH->Prop) (qT:∀ p∈fix,p∈l)
  (qP:∀ C acc i v st ys ea m h t g (K:Shared->Prop) (E:LF),i < N->vl i v->qj i st ys->Own H ((acc,Za ys ea)::(C,dO st)::(mid st++(l++m))) h->t₀<=t->Zq true g₀ g ->
   (∀ st' ys' ea' h' t' g',qj (i+1) st' ys'->Own H ((acc,Za ys' ea')::(C,dO st')::(mid st'++(l++m))) h'->t<=t'->Zq true g g'->K (r.at h' ⟨t',g'⟩)) ->
   wpAny (model prog w) A (assign t0 (compEnvC scope cl C qq) v) (fun _ s=>wpAny (model prog w) A (eval i1 (compEnvC scope cl C qq)) (fun x s=>wpAny (model prog w) A (pyIter x) (fun it1 s=>wpAny (model prog w) A (runOwn (.compStart (.ListComp elt [⟨t0,i0,[],0⟩,⟨t1,i1,[],0⟩] scope pos) 1 it1 (.ref acc) (compEnvC scope cl C qq)) (compEnvC scope cl C qq)) (fun _ s=>K s) E s) E s) E s) E (r.at h ⟨t,g⟩))
  (last:∀ C acc st ys ea h t g,qj N st ys->Own H ((C,dO st)::(acc,Za ys ea)::(mid st++l)) h->t₀<=t->Zq true g₀ g->compPost (model prog w) A E use Q (.ref acc) C (.ok .next) (r.at h ⟨t,g⟩))
  {st:σ} (hd:dO st=Xi) (hI:qj 0 st []) (O:Own H (mid st++l) h) (qV:t₀<=t) (xA:Zq true g₀ g) :
  Vn prog w A (.ListComp elt [⟨t0,i0,[],0⟩,⟨t1,i1,[],0⟩] scope pos) scope cl qq use Q E xv (r.at h ⟨t,g⟩):=by
 unfold Vn
 have hf1:∀ p∈fix,p∈mid st++l:=fun p hp=>N7 _ (qT p hp)
 refine OP.opn hf1 O fun oi At S hat hfr self=>?_
 have O1:=O.push oi hfr
 generalize h.push oi=h1 at O1
 generalize h.objs.size=I at O1 S self
 have O3:=(O1.push (Za [] 0) rfl).push Xi rfl
 refine Zyo (s:=r.at h1 ⟨t,g⟩) (T := "list") (Zay hcell ?_)
 show codeAny _ A (.compStart (.ListComp elt [⟨t0,i0,[],0⟩,⟨t1,i1,[],0⟩] scope pos) 0 (.ref I) (.ref h1.objs.size) (compEnvC scope cl (h1.push (Za [] 0)).objs.size qq)) (compPost (model prog w) A E use Q (.ref h1.objs.size) (h1.push (Za [] 0)).objs.size) (r.at ((h1.push (Za [] 0)).push Xi) ⟨t,g⟩)
 generalize (h1.push (Za [] 0)).objs.size=C at O3 ⊢
 generalize (h1.push (Za [] 0)).push Xi=h3 at O3 ⊢
 generalize h1.objs.size=acc at O3 ⊢
 have loop:codeAny (model prog w) A (.compLoop (.ListComp elt [⟨t0,i0,[],0⟩,⟨t1,i1,[],0⟩] scope pos) 0 (.ref I) (.ref acc) (compEnvC scope cl C qq)) (compPost (model prog w) A E use Q (.ref acc) C) (r.at h3 ⟨t,g⟩):=by
  refine codeAny_loop rfl (fun k s=>LpI r (N) (At) (fun i st ys _=>qj i st ys) (fun oi st ys ea=>(I,oi)::(acc,Za ys ea)::(C,dO st)::(mid st++l)) H t₀ g₀ k s) (fun n s hI=>?_) N
   (.mk 0 oi st [] 0 h3 t g rfl (Pt _) hat hI (O3.perm (by rw [hd]; exact pm [_,_,_] [_,_] 1885471362 1885373064)) qV xA)
  show wpAny _ A ((compTurn (.ListComp elt [⟨t0,i0,[],0⟩,⟨t1,i1,[],0⟩] scope pos) 0 (.ref I) (.ref acc) (compEnvC scope cl C qq)).onRaise (fun x=>do noteFrame x (compEnvC scope cl C qq); theTreesLotGoes x)) _ _ s
  refine wpAny_noted ?_
  rw [Zef]
  refine Zi (Zd2 (Zi ?_))
  obtain ⟨i,oi,st,ys,ea,h,t,g,rfl,hi,hat,hI,O,qV,hg⟩:=hI
  have hf:∀ p∈fix,p∈(acc,Za ys ea)::(C,dO st)::(mid st++l):=fun p hp=>.tail _ (.tail _ (N7 _ (qT p hp)))
  by_cases qL:i < N
  ·refine (S A hh).next qL hat hf O fun oi' h2 v t2 hat2 hv O2 qS qN=>?_
   refine Zi (Zbf (ht I v) ?_)
   refine Zi (Jy (qP C acc i v st ys ea [(I,oi')] h2 t2 g (fun s=>∃ m,m < N - i/\LpI r (N) (At) (fun i st ys _=>qj i st ys) (fun oi st ys ea=>(I,oi)::(acc,Za ys ea)::(C,dO st)::(mid st++l)) H t₀ g₀ m s) _ qL hv hI (O2.perm (by exact pm [_,_,_] [_,_] 1885471362 549504005)) (by exact (Zn qV qN)) hg fun st' ys' ea' h' t' g' hI' O' ht' hg'=>?_) (fun _ s₂ q=>?_) fun _ _ q=>q)
   ·exact ⟨N - (i+1),by lia,.mk (i+1) oi' st' ys' ea' h' t' g' rfl qL hat2 hI' (O'.perm (by exact pm [_,_,_] [_,_] 2160116354 1885421832)) (by exact (Zn qV (Zn qN ht'))) (gtr hg hg')⟩
   ·refine Zi (Jy q (fun x s₃ q=>?_) fun _ _ q=>q)
    refine Zi (Zd2 (Zi (Zbf (qU C x) ?_)))
    refine Zi (Zfk (Jy q (fun it1 s₄ q=>?_) fun _ _ q=>q))
    exact Zi (Jy q (fun _ s₅ q=>Yo ⟨rfl,q⟩) fun _ _ q=>q)
  ·have hiN:i=N:=by lia
   subst hiN
   exact (S A hh).done hat hf O fun h' O' _=>Yo (last C acc st ys ea h' t g hI (O'.perm (.swap _ _ _)) qV hg)
 exact codeAny_compStart_list loop (self (l:=(C,Xi)::(acc,Za [] 0)::(mid st++l)) (O3.perm (by exact pm [_,_,_] [_,_] 1885471362 1885421832)) loop)
theorem Z3p {s':Lt} {ws:List Str} (hr:∀ L:Lx,L.buf=text->L.cm=S []->Gi prog w b L ⟨0,some (S [32]),1⟩ ws s') (hw:ws.length<=sizeLine) (tt:Nat) (E1 E2 E3:Env) (a1 a2 a3:Addr) (d1 d2 d3:LJ) (k1 k2 k3:Nat) (sl1 sl2 sl3:LG) (h1:E1.scope.kind≠.module) (h2:E2.scope.kind≠.module) (h3:E3.scope.kind≠.module) (n t:Nat) :
  CQ prog w b n t fun b=>Zrp (HZ w b) (TZ w b) text tt s' ws E1 E2 E3 a1 a2 a3 d1 d2 d3 k1 k2 k3 sl1 sl2 sl3 n t :=
 Zdo (cons:=fun b=>[Zwr (HZ w b) n text (S []) s' ws [Zcy (TZ w b) 760 759 "split.<locals>." n,fe E1 a1,fe E2 a2,fe E3 a3]]) (Zb (Zh1 (es:=[Zcy (TZ w b) 760 759 "split.<locals>." n,fe E1 a1,fe E2 a2,fe E3 a3]) hr (.four (Zcy (TZ w b) 760 759 "split.<locals>." n) n #[] 0 #[] E1 a1 d1 k1 sl1 E2 a2 d2 k2 sl2 E3 a3 d3 k3 sl3 (by show (Z7 (TZ w b) 760).scope.kind≠_; rw [Zku]; decide) h1 h2 h3) hw) Zd) [0,8,9,10] (Yt 16 937 0xfedc01ab45a1d00ccc0b000b0b00b0000bddccc0b000b0b00b0000bddd00000accc0b000b0b00b0000baaaaaccc0b000b0b00b0000baccc0b000b0b00b0000ba1110101100000bbb0a000a0a00a0000a9bbb0a000a0a00a0000a9bbb0a000a0a00a0000a9bbb0a000a0a00a0000a91110101100000aaa09000909009000098aaa09000909009000098aaa09000909009000098aaa09000909009000098aaa09000909009000098aaa09000909009000098aaa0900090900900009000a099000900000980a09900090000098aaa09000909009000098aaa09000909009000098aaa090009090090000988aaa090009090090000988aaa090009090090000988aaa090009090090000988888444030000000303003000000003210000100001111403300000003000000000311111000013200002000000020000000211333020000000202002000000002133302000000020200200000000213330200000002020020000000021100001001000010000110000100111111100000000101000000000000000000000000000000000000000100000100011111110000000000000000000000000000000000001000000010011111111110000000010100000000000000000000000000000000000011011111110000) (exF 0)
theorem Px {a b:Addr} {xs ys:LH} {e2:Nat} (qE:xs.length+ys.length<=sizeLine):Z6 T prog w n t (Je a b xs ys e1 e2 n):=by
 refine ⟨fun H h r g A R G hA O hs hR=>?_⟩
 refine M3 F.entry_list_add ?_
 rw [Q0q (by decide +kernel)]
 refine AutoSeq1.list___add___list_list_0 a ⟨xs⟩ e1 b ⟨ys⟩ e2 (by simpa using qE) prog w A R _ ⟨O.own (a,_) (.head _),O.own (b,_) (.tail _ (.head _)),?_⟩
 have O':=O.push (Za (xs++ys) 0) rfl
 have e:({ cls:=Value.type "list",data:=Data.seq ((⟨xs⟩:Array Value)++⟨ys⟩) }:Obj)=Za (xs++ys) 0:=by simp [Za]
 have qA:=hR ⟨fun j=>match j with | 0=>1 | _=>0,fun _=>#[],fun _ _ _=>0,Ext.nil.ob⟩ (h.push (Za (xs++ys) 0)) g (by rw [hs] at O'; exact O') (by rw [Ziu,hs]; rfl) (Zq.refl _ _)
 rw [e,hs]
 exact qA
section
theorem Z4r (ws:LD) (tl:Nat) (v:List Nat) (tv:Nat):TK prog w b fun b n t=>tG [] (fun x=>[]) (fun x=>[(n,frO (Zyk (HZ w b) (x.nat 2) ws tl) 1 #[]),(n+1,Zp (.str (S v) tv)),(n+2,X4)]) (Ua 792 (Z7 (TZ w b) 792) ⟨[.str (S (Zg ws)) tl,.str (S v) tv],[]⟩) (fun x=>.ok (Va (TZ w b) n (n+1) (n+2))) (md:=fun x=>3):=tkm [2,1,0] [0,3,3,2,2] exT 3
theorem Zzr (a fr ct ck:Nat) (x0 R:LM):TK prog w b fun b n t=>tG ((ck,X4)::((46,Yp a)::(Ys a x0++Xm (adK a) R))) (fun x=>(ck,Zp (.ref (n+21)))::((46,Yp a)::(Ys a x0++Xm (adK a) R))) (fun x=>Ze6 (HZ w b) (TZ w b) (Nm a n) (fun k=>x.nat (k+2))) (Xr [ptS (TZ w b) 0] (Va (TZ w b) fr ct ck)) (fun x=>.ok .next) (k:=90):=tkc (cons:=fun b=>[Z2q (HZ w b) (TZ w b) a x0 R]) (Zb (fun n t c l bb=>Z1e a n t x0 R) Zd) [0,1,2,3,4,5,6,7,8,9,19,10,11,12,13,14,15,16,17,18] (Yt 32 17 0x14a0128398a41882908000) (fun f _ _ _=>exN fun k=>(f 0).nat (k+2))
theorem Z0e (fr ct ck t0:Nat) (ws:LD) (tl t1 lw:Nat) (sl:LG):TK prog w b fun b _ _=>tP [(fr,frO (Zfu (HZ w b) t0 ws tl t1 lw) 2 sl)] [] (Zj (Ze (ptC (TZ w b)) 0) (Va (TZ w b) fr ct ck)) (.ref lw) 0:=tkm [0] [1] exZ 0
theorem Z1q (fr ct ck:Nat):TK prog w b fun b _ _=>tP [] [] (Zj (Zk (ptV (TZ w b))) (Va (TZ w b) fr ct ck)) (.builtin "len") 0:=tkm [] [0,0] exZ 0
theorem Z2u (C fr ct ck:Nat) (o:Option (Nat×(List Nat×Nat))) (d:List Nat×Nat):TK prog w b fun b n t=>ptA (HZ w b) (TZ w b) Zs C fr ct ck (o.map fun p=>(p.1,.str (S p.2.1) p.2.2)) (.str (S d.1) d.2) n t:=by
 cases o with
 | none=>exact tkm [0] [1,1] exT 0
 | some o=>exact tkm [0] [1,1] exT 0
theorem Zxr (aK:LN) (kk:LM) (C fr ct ck ts:Nat) (u:List Nat) (tu:Nat):TK prog w b fun b n t=>tG ((C,xV (HZ w b) "word" (some (ts,.str (S u) tu)))::(ck,Zp (.ref (aK 6)))::Z1 (HZ w b) (TZ w b) aK kk) (fun x=>(C,xV (HZ w b) "word" (some (ts,.str (S u) tu)))::(ck,Zp (.ref (aK 6)))::Z1 (HZ w b) (TZ w b) aK kk) (fun x=>[(n+1,kIn (aK 6) n u tu)]) (Zj (Zh7 (ptI (TZ w b))) (compEnvC (Zc (ptC (TZ w b))) (Z2d ct ck) C (Va (TZ w b) fr ct ck))) (fun x=>.ok (.ref (n+1))) (k:=60):=tkc (cons:=fun b=>[Zpt (HZ w b) (TZ w b) aK kk u]) (Zb (fun n t c l bb=>Zma aK kk u _ n t) Zd) [0,17,18,1,2,3,4,5,6,7,8,9,10,11,12,13,14,15,16] (Yt 32 23 0x2307b9ac5a928398a418a014a422) exZ
theorem Zwx (aK:LN) (kk:LM) (C fr ct ck:Nat) (u:List Nat) (tu:Nat):TK prog w b fun b n t=>tG ((ct,Zp (.str (S u) tu))::(ck,Zp (.ref (aK 6)))::Z1 (HZ w b) (TZ w b) aK kk) (fun x=>(ct,Zp (.str (S u) tu))::(ck,Zp (.ref (aK 6)))::Z1 (HZ w b) (TZ w b) aK kk) (fun x=>[(n+1,kIn (aK 6) n u tu)]) (Zj (Pk (ptI (TZ w b)) 0) (compEnvC (Zc (ptC (TZ w b))) (Z2d ct ck) C (Va (TZ w b) fr ct ck))) (fun x=>.ok (.ref (n+1))) (k:=60):=tkc (cons:=fun b=>[Zpt (HZ w b) (TZ w b) aK kk u]) (Zb (fun n t c l bb=>Zma aK kk u _ n t) Zd) [0,17,18,1,2,3,4,5,6,7,8,9,10,11,12,13,14,15,16] (Yt 32 23 0x2307b9ac5a928398a418a014a422) exZ
theorem Zzy (C fr ct ck ts:Nat) (u:List Nat) (tu:Nat):TK prog w b fun b _ _=>tP [(C,xV (HZ w b) "word" (some (ts,.str (S u) tu)))] [] (Zj (Zh (ptC (TZ w b))) (compEnvC (Zc (ptC (TZ w b))) (Z2d ct ck) C (Va (TZ w b) fr ct ck))) (.str (S u) tu) 0:=tkm [0] [1] exZ 0
theorem Z2e (fr ct ck t0:Nat) (ws:LD) (tl t1 lw:Nat) (sl:LG) (k tk:Nat):TK prog w b fun b _ _=>tW [(fr,frO (Zfu (HZ w b) t0 ws tl t1 lw) 2 sl)] (fun x=>[(fr,frO (Z0i (HZ w b) t0 ws tl t1 lw (x.nat 2) k tk) 3 sl)]) (Yf (Va (TZ w b) fr ct ck) "k" (.int (Int.ofNat k) tk)) ():=tkm [0] [1,1] (fun _ _ l _=>exN fun _=>Nb l 0 2) 0
theorem M7:∀ (a b:LD) (f g:LM),wsV ((a++b).map S) (Ja a.length f g)=wsV (a.map S) f++wsV (b.map S) g
 | [],b,f,g=>by
  show wsV (b.map S) (Ja 0 f g)=wsV (b.map S) g
  have e:Ja 0 f g=g:=by funext j; unfold Ja; simp
  rw [e]
 | u::a,b,f,g=>by
  have ih:=M7 a b (fun j=>f (j+1)) g
  have e:(fun j=>Ja (u::a).length f g (j+1))=Ja a.length (fun j=>f (j+1)) g:=by
   funext j
   unfold Ja
   simp only [V7,Nat.add_lt_add_iff_right,Nat.add_sub_add_right]
  have e0:Ja (u::a).length f g 0=f 0:=by unfold Ja; simp
  show Value.str (S u) (Ja (u::a).length f g 0)::wsV ((a++b).map S) (fun j=>Ja (u::a).length f g (j+1))=_
  rw [e,e0,ih]
  rfl
theorem Zar:∀ (k:Nat) (ws:LD) (f:LM),(wsV (ws.map S) f).take k=wsV ((ws.take k).map S) f
 | 0,ws,f=>rfl
 | k+1,[],f=>rfl
 | k+1,u::ws,f=>by
  show _::(wsV (ws.map S) _).take k=_::wsV ((ws.take k).map S) _
  rw [Zar k ws]
theorem Zab:∀ (k:Nat) (ws:LD) (f:LM),(wsV (ws.map S) f).drop k=wsV ((ws.drop k).map S) (fun j=>f (j+k))
 | 0,ws,f=>rfl
 | k+1,[],f=>rfl
 | k+1,u::ws,f=>by
  show (wsV (ws.map S) _).drop k=wsV ((ws.drop k).map S) _
  rw [Zab k ws]
  rfl
theorem Z1t (fr ct ck t0:Nat) (ws:LD) (tl:Nat) (E2 E3:Env) (a2 a3:Addr) (d2 d3:LJ) (k2 k3:Nat) (sl2 sl3:LG) (hw:ws.length<=sizeLine) (hu:∀ u∈ws,u.length<=sizeLine) (hb:(Zg ws).length < 2 ^ 63) (h2:E2.scope.kind≠.module) (h3:E3.scope.kind≠.module) (n t:Nat):TQ prog w b n t fun b=>pt1 (HZ w b) (TZ w b) Xr fr ct ck t0 ws tl E2 E3 a2 a3 d2 d3 k2 k3 sl2 sl3 n t:=by
 have k1:(Z7 (TZ w b) 792).scope.kind=.function:=kf
 refine Zrb (cons:=fun b=>[Zz9 (HZ w b) (TZ w b) fr ct ck t0 ws tl E2 E3 a2 a3 d2 d3 k2 k3 sl2 sl3]) [] (Zb (fun n t c l bb=>Z3p (fun L h1 h2=>?_) (by rw [Z0]; exact hw) _ _ _ _ _ _ _ _ _ _ _ _ _ _ _ _ (by show (Z7 (TZ w b) 792).scope.kind≠_; rw [k1]; decide) h2 h3 n t) Zd) [0,1,2,3] [0,1,0,1,3,0,1,2,0,2,2] Z6j p0
 have z:=Zah (prog:=prog) (w:=w) (b:=b) (L:=L) (by rw [h1]; exact hb) h2 ws 0 1 hu (by rw [List.drop_zero,h1]) (Pt _)
 rw [h1] at z
 exact z
theorem Z1o (fr ct ck t0:Nat) (ws:LD) (tl t1 lw t2 k tk:Nat) (sl:LG) (tw:LM) (ep:Nat) (v:List Nat) (tv c:Nat) (hw:ws.length<=19) (hu:∀ u∈ws,u.length<=100000) (hv:v.length<=100000):TK prog w b fun b _ _=>tG [(fr,frO (Z0i (HZ w b) t0 ws tl t1 lw t2 k tk) 3 sl),(lw,Za (wsV (ws.map S) tw) ep),(ct,Zp (.str (S v) tv)),(762,Z9 773 20 (some c))] (fun x=>[(fr,frO (Z0i (HZ w b) t0 ws tl t1 lw t2 k tk) 3 sl),(lw,Za (wsV (ws.map S) tw) ep),(ct,Zp (.str (S v) tv)),(762,Z9 773 20 (some (x.nat 3)))]) (fun x=>[]) (Xr [ptS (TZ w b) 3] (Va (TZ w b) fr ct ck)) (fun x=>.ok (.ret (.str (S (Zg (Zp9 ws k v))) (x.nat 2)))) (k:=80):=by
 have qE:100<=sizeLine:=by decide +kernel
 have hl:∀ (us:LD) f,(wsV (us.map S) f).length=us.length:=fun us f=>by rw [Yw,Z0]
 have c1:∀ n t c l bb,Z6 T2 prog (wb w b) n t (Z8q lw ws tw k n t c l bb):=fun n t c l bb=>by
  have z:=Zmd (T:=T2) (prog:=prog) (w:=wb w b) (lst:=lw) (sl:=Yj (Z8 c 1)) (xs:=wsV (ws.map S) tw) (ep:=Jo (Z2 l 0)) .none (.int (Int.ofNat k) (match Z2 l 1 with | ⟨_,_,.fields f,_⟩=>Ju (Zjm f.toList 1) | _=>0)) (by rw [hl]; exact Zn hw (by decide)) n t
  unfold Zaz at z
  rw [show (slicePick (⟨wsV (ws.map S) tw⟩:Array Value) none (some (Int.ofNat k)) none).toList=_ from Vl _ k,Zar] at z
  exact z
 have c2:∀ n t c l bb,Z6 T2 prog (wb w b) n t (Yap lw ws tw k n t c l bb):=fun n t c l bb=>by
  have z:=Zmd (T:=T2) (prog:=prog) (w:=wb w b) (lst:=lw) (sl:=Yj (Z8 c 1)) (xs:=wsV (ws.map S) tw) (ep:=Jo (Z2 l 0)) (.int (Int.ofNat k) (match Z2 l 1 with | ⟨_,_,.fields f,_⟩=>Ju (Zjm f.toList 0) | _=>0)) .none (by rw [hl]; exact Zn hw (by decide)) n t
  unfold Zaz at z
  rw [show (slicePick (⟨wsV (ws.map S) tw⟩:Array Value) (some (Int.ofNat k)) none none).toList=_ from M5 _ k,Zab] at z
  exact z
 have c3:∀ n t c l bb,Z6 T2 prog (wb w b) n t (Z8x ws tw k v tv n t c l bb):=fun n t c l bb=>by
  have z:=Px (T:=T2) (prog:=prog) (w:=wb w b) (a:=Yj (Z8 c 0)) (b:=Yj (Z8 c 1)) (xs:=wsV ((ws.take k).map S) tw) (ys:=[.str (S v) tv]) (e1:=Jo (Z2 l 0)) (e2:=Jo (Z2 l 1)) (n:=n) (t:=t) (by rw [hl]; exact Zn (Nat.succ_le_succ (Zn (List.length_take_le' _ _) hw)) (Zn (by decide) qE))
  unfold Je at z
  rw [show (wsV ((ws.take k).map S) tw++[Value.str (S v) tv])=_ from (M7 (ws.take k) [v] tw fun _=>tv).symm] at z
  exact z
 have c4:∀ n t c l bb,Z6 T2 prog (wb w b) n t (Z9s ws tw k v tv n t c l bb):=fun n t c l bb=>by
  have z:=Px (T:=T2) (prog:=prog) (w:=wb w b) (a:=Yj (Z8 c 0)) (b:=Yj (Z8 c 1)) (xs:=wsV ((ws.take k++[v]).map S) (Ja (ws.take k).length tw fun _=>tv)) (ys:=wsV ((ws.drop k).map S) (fun j=>tw (j+k))) (e1:=Jo (Z2 l 0)) (e2:=Jo (Z2 l 1)) (n:=n) (t:=t) (by rw [hl,hl,Vc,Nat.add_right_comm,Zh4]; exact Zn (Nat.succ_le_succ hw) (Zn (by decide) qE))
  unfold Je at z
  rw [← M7 (ws.take k++[v]) (ws.drop k)] at z
  exact z
 have c5:∀ n t c l bb,Z6 T2 prog (wb w b) n t (Zk4 ws k v tw tv n t c l bb):=fun n t c l bb=>Zlb (by
  unfold Zp9
  rw [Vc,Vc,Nat.add_right_comm,Zh4]; exact Zn (Nat.succ_le_succ hw) (by decide)) (fun u hm=>by
  unfold Zp9 at hm
  rcases Zhu.mp hm with hm | hm
  ·rcases Zhu.mp hm with hm | hm
   ·exact hu u (Z1v hm)
   ·rw [Ur] at hm; subst hm; exact hv
  ·exact hu u (List.mem_of_mem_drop hm)) _ _ _ _ n t
 have hC:Z4 T2 prog (wb w b) [Z8q lw ws tw k,Yap lw ws tw k,Z8x ws tw k v tv,Z9s ws tw k v tv,Zk4 ws k v tw tv]:=Zb c1 (Zb c2 (Zb c3 (Zb c4 (Zb c5 Zd))))
 exact tkc (cons:=fun b=>[Z8q lw ws tw k,Yap lw ws tw k,Z8x ws tw k v tv,Z9s ws tw k v tv,Zk4 ws k v tw tv]) (hC) [7,4,8,0] (Yt 16 52 0x82500022430313004225055555001232021240022130333110) (fun _ r l _=>exN fun j=>match j with | 0=>(match r with | .ok f=>(match f with | Flow.ret v=>Ju v | _=>0) | .error _=>0) | _=>(match Zpm (Z2 l 3) with | some a=>a | none=>0))
end
section
theorem Zz0 (sq:Addr) (ti:Nat):TK prog w b fun b n t=>tG [] (fun x=>[]) (fun x=>[(n,frO (Z9v (HZ w b) (fun j=>x.nat (j+2)) sq ti) 3 #[])]) (Ua 60 (Z7 (TZ w b) 60) ⟨[.ref 792,.ref sq,.str (S []) ti],[]⟩) (fun x=>.ok (Vf (TZ w b) n)) (md:=fun x=>1):=tkm [0] [0,0,1,1,1,1,1,1] exJ 1
theorem Zyv (fr:Nat) (ft:LM) (sq:Addr) (ti:Nat) (qH:LH) (ep:Nat):TK prog w b fun b _ _=>tG [(fr,frO (Z9v (HZ w b) ft sq ti) 3 #[]),(sq,Za qH ep)] (fun x=>[(fr,frO (Z0h (HZ w b) (fun j=>x.nat (j+3)) sq ti (x.nat 2) [] ti) 5 #[]),(sq,Za qH ep)]) (fun x=>[(x.nat 2,Ge sq 0)]) (Xr [rdS' (TZ w b) 0,rdS' (TZ w b) 1] (Vf (TZ w b) fr)) (fun x=>.ok .next) (k:=40):=tkr [0,1,2] (Yt 16 18 0x222022210202200100) (fun _ _ l _=>exN fun j=>match j with | 0=>Znc (oAt l 0) | j+1=>Nb l 1 j)
theorem Z3w (fr:Nat) (ft:LM) (sq:Addr) (ti:Nat) (it:Addr) (V:List Nat) (tv:Nat) (n t:Nat):TQ prog w b n t fun b=>rdI (HZ w b) (TZ w b) Zj Z5b Pv fr ft sq ti it V tv n t:=tqx Zd [0,1] [1,2,2,0,2,0,2] fun _ _ _ _=>exN fun _=>0
theorem Z22 (fr:Nat) (ft:LM) (sq:Addr) (ti:Nat) (it:Addr) (V:List Nat) (tv:Nat) (sl:LG) (o:Option (List Nat×Nat)) (W:List Nat) (tw:Nat):TK prog w b fun b _ _=>tG [(fr,rdO (HZ w b) ft sq ti it V tv sl o)] (fun x=>[(fr,frO (Zlv (HZ w b) (fun j=>x.nat (j+2)) sq ti it V tv W tw) 6 sl)]) (fun x=>[]) (Zs (Xg (rdS' (TZ w b) 2)) (Vf (TZ w b) fr) (.str (S W) tw)) (fun x=>.ok ()):=by
 cases o with
 | none=>exact tkr [0] [1,1] exJ
 | some u=>exact tkr [0] [1,1] exJ
theorem Ztq (fr:Nat) (ft:LM) (sq:Addr) (ti:Nat) (it:Addr) (V:List Nat) (tv:Nat) (W:List Nat) (tw:Nat) (sl:LG):TK prog w b fun b _ _=>tP [(fr,frO (Zlv (HZ w b) ft sq ti it V tv W tw) 6 sl)] [] (Zj (Zk (rdX (TZ w b))) (Vf (TZ w b) fr)) (.ref 792) 0:=tkm [0] [1] exZ 0
theorem Zu9 (fr:Nat) (ft:LM) (sq:Addr) (ti:Nat) (it:Addr) (V:List Nat) (tv:Nat) (W:List Nat) (tw:Nat) (sl:LG):TK prog w b fun b _ _=>tP [(fr,frO (Zlv (HZ w b) ft sq ti it V tv W tw) 6 sl)] [] (Zj (Zo (rdX (TZ w b)) 0) (Vf (TZ w b) fr)) (.str (S V) tv) 0:=tkm [0] [1] exZ 0
theorem Zwf (fr:Nat) (ft:LM) (sq:Addr) (ti:Nat) (it:Addr) (V:List Nat) (tv:Nat) (W:List Nat) (tw:Nat) (sl:LG):TK prog w b fun b _ _=>tP [(fr,frO (Zlv (HZ w b) ft sq ti it V tv W tw) 6 sl)] [] (Zj (Zo (rdX (TZ w b)) 1) (Vf (TZ w b) fr)) (.str (S W) tw) 0:=tkm [0] [1] exZ 0
theorem Z2v (fr:Nat) (ft:LM) (sq:Addr) (ti:Nat) (it:Addr) (V:List Nat) (tv:Nat) (W:List Nat) (tw:Nat) (sl:LG) (V2:List Nat) (tv2:Nat):TK prog w b fun b _ _=>tG [(fr,frO (Zlv (HZ w b) ft sq ti it V tv W tw) 6 sl)] (fun x=>[(fr,frO (Zlv (HZ w b) (fun j=>x.nat (j+2)) sq ti it V2 tv2 W tw) 6 sl)]) (fun x=>[]) (Yf (Vf (TZ w b) fr) "value" (.str (S V2) tv2)) (fun x=>.ok ()):=tkr [0] [1,1] exJ
theorem Z0q (fr:Nat) (ft:LM) (sq:Addr) (ti:Nat) (it:Addr) (V:List Nat) (tv:Nat) (sl:LG) (o:Option (List Nat×Nat)):TK prog w b fun b _ _=>tG [(fr,rdO (HZ w b) ft sq ti it V tv sl o)] (fun x=>[(fr,rdO (HZ w b) ft sq ti it V tv sl o)]) (fun x=>[]) (Xr [rdS' (TZ w b) 3] (Vf (TZ w b) fr)) (fun x=>.ok (.ret (.str (S V) tv))):=by
 cases o with
 | none=>exact tkr [0] [1] exZ
 | some u=>exact tkr [0] [1] exZ
end
section
theorem Z3a (rw:Nat):TK prog w b fun b n t=>tP [] [(n,frO #[] 0 #[]),(n+1,Zp (.ref rw))] (Ua 809 (Z7 (TZ w b) 809) ⟨[.ref rw],[]⟩) (Jt (TZ w b) n (n+1)) 2:=tkm [1,0] [0,1,1] exZ 2
theorem Zzh (fr cr rw:Nat):TK prog w b fun b _ _=>tP [(cr,Zp (.ref rw))] [] (Zj (Zh7 (orT (TZ w b))) (Jt (TZ w b) fr cr)) (.ref rw) 0:=tkm [0] [1] exZ 0
theorem Z4o (fr cr:Nat):TK prog w b fun b n t=>tP [] [(n,Za [] 0)] (Zj (Pk (orT (TZ w b)) 0) (Jt (TZ w b) fr cr)) (.ref n) 1:=tkm [0] [] exZ 1
theorem Zyt (fr cr:Nat):TK prog w b fun b n t=>tP [] [(n,Za [] 0),(n+1,Za [.ref n] 0)] (Zj (M6 (V3 (orS (TZ w b) 0) 0)) (Jt (TZ w b) fr cr)) (.ref (n+1)) 2:=tkm [1,0] [] exZ 2
theorem Zr9 (fr cr:Nat):TK prog w b fun b _ _=>tP [] [] (Zj (Zk (Ze (orC (TZ w b)) 0)) (Jt (TZ w b) fr cr)) (.type "range") 0:=tkm [] [0,0] exZ 0
theorem Zw7 (fr cr:Nat):TK prog w b fun b _ _=>tP [] [] (Zj (Zk (Zo (Ze (orC (TZ w b)) 0) 0)) (Jt (TZ w b) fr cr)) (.builtin "len") 0:=tkm [] [0,0] exZ 0
theorem Zxq (fr cr rw:Nat):TK prog w b fun b _ _=>tP [(cr,Zp (.ref rw))] [] (Zj (Zo (Zo (Ze (orC (TZ w b)) 0) 0) 0) (Jt (TZ w b) fr cr)) (.ref rw) 0:=tkm [0] [1] exZ 0
theorem Zo4 (C fr cr:Nat) (i0:Int) (u0:Nat):TK prog w b fun b n t=>Z6b (HZ w b) (TZ w b) Zs C fr cr none (.int i0 u0) n t:=tkm [0] [1,1] Go 0
theorem Zo2 (C fr cr:Nat) (t1:Nat) (i1:Int) (u1:Nat) (i0:Int) (u0:Nat):TK prog w b fun b n t=>Z6b (HZ w b) (TZ w b) Zs C fr cr (some (t1,.int i1 u1,none)) (.int i0 u0) n t:=tkm [0] [1,1] Go 0
theorem Zqr (C fr cr:Nat) (t1 t2:Nat) (i1:Int) (u1:Nat) (a2:Addr) (i0:Int) (u0:Nat):TK prog w b fun b n t=>Z6b (HZ w b) (TZ w b) Zs C fr cr (some (t1,.int i1 u1,some (t2,.ref a2))) (.int i0 u0) n t:=tkm [0] [1,1] Go 0
theorem Zpy (C fr cr:Nat) (t1:Nat) (i1:Int) (u1:Nat) (a0:Addr):TK prog w b fun b n t=>Yat (HZ w b) (TZ w b) Zs C fr cr (some (t1,.int i1 u1,none)) (.ref a0) n t:=tkm [0] [1,1] Go 0
theorem Zqb (C fr cr:Nat) (t1 t2:Nat) (i1:Int) (u1:Nat) (a2:Addr) (a0:Addr):TK prog w b fun b n t=>Yat (HZ w b) (TZ w b) Zs C fr cr (some (t1,.int i1 u1,some (t2,.ref a2))) (.ref a0) n t:=tkm [0] [1,1] Go 0
theorem Z12 (C fr cr:Nat):TK prog w b fun b _ _=>tP [] [] (Zj (Zk (Ze (orC (TZ w b)) 1)) (compEnvC (Zc (orC (TZ w b))) (Zhn cr) C (Jt (TZ w b) fr cr))) (.ref 809) 0:=tkm [] [0] exZ 0
theorem Z1l (C fr cr t1 k uk:Nat) (o:Option (Nat×Addr)) (us:LD) (tw:LM) (rw ep:Nat) (hw:us.length<=1000):TK prog w b fun b n t=>orX (HZ w b) (TZ w b) Zj C fr cr t1 k uk (o.map fun p=>(p.1,.ref p.2)) us tw rw ep n t:=by
 have qE:100000<=sizeLine:=by decide +kernel
 have hl:∀ (us:LD) f,(wsV (us.map S) f).length=us.length:=fun us f=>by rw [Yw,Z0]
 have c1:∀ n t c l bb,Z6 T2 prog (wb w b) n t (Z5d rw us tw k n t c l bb):=fun n t c l bb=>by
  have z:=Zmd (T:=T2) (prog:=prog) (w:=wb w b) (lst:=rw) (sl:=Yj (Z8 c 1)) (xs:=wsV (us.map S) tw) (ep:=Jo (Z2 l 0)) .none (.int (Int.ofNat k) (match Z2 l 1 with | ⟨_,_,.fields f,_⟩=>Ju (Zjm f.toList 1) | _=>0)) (by rw [hl]; exact Zn hw (by decide)) n t
  unfold Zaz at z
  rw [show (slicePick (⟨wsV (us.map S) tw⟩:Array Value) none (some (Int.ofNat k)) none).toList=_ from Vl _ k,Zar] at z
  exact z
 have c2:∀ n t c l bb,Z6 T2 prog (wb w b) n t (Z5z rw us tw k n t c l bb):=fun n t c l bb=>by
  have z:=Zmd (T:=T2) (prog:=prog) (w:=wb w b) (lst:=rw) (sl:=Yj (Z8 c 1)) (xs:=wsV (us.map S) tw) (ep:=Jo (Z2 l 0)) (.int (Int.ofNat k+1) (match Z2 l 1 with | ⟨_,_,.fields f,_⟩=>Ju (Zjm f.toList 0) | _=>0)) .none (by rw [hl]; exact Zn hw (by decide)) n t
  unfold Zaz at z
  rw [show (slicePick (⟨wsV (us.map S) tw⟩:Array Value) (some (Int.ofNat k+1)) none none).toList=_ from M5 _ (k+1),Zab] at z
  exact z
 have c3:∀ n t c l bb,Z6 T2 prog (wb w b) n t (Z5i us tw k n t c l bb):=fun n t c l bb=>by
  have z:=Px (T:=T2) (prog:=prog) (w:=wb w b) (a:=Yj (Z8 c 0)) (b:=Yj (Z8 c 1)) (xs:=wsV ((us.take k).map S) tw) (ys:=wsV ((us.drop (k+1)).map S) (fun j=>tw (j+(k+1)))) (e1:=Jo (Z2 l 0)) (e2:=Jo (Z2 l 1)) (n:=n) (t:=t) (by rw [hl,hl]; exact Zn (Nat.add_le_add_left (by rw [List.length_drop,List.length_drop]; exact Nat.sub_le_sub_left (Nat.le_succ k) _) _) (Zn (Nat.le_of_eq (Zh4 us k)) (Zn hw (Zn (by decide) qE))))
  unfold Je at z
  rw [← M7 (us.take k) (us.drop (k+1))] at z
  exact z
 have hC:Z4 T2 prog (wb w b) [Z5d rw us tw k,Z5z rw us tw k,Z5i us tw k]:=Zb c1 (Zb c2 (Zb c3 Zd))
 rcases o with _ | ⟨t2,a2⟩
 ·exact tkc (cons:=fun b=>[Z5d rw us tw k,Z5z rw us tw k,Z5i us tw k]) (hC) [0,4,5,3] (Yt 16 37 0x22330313002223033300034003214044412) (fun _ _ l _=>exN fun j=>Znc (oAt l 0))
 ·exact tkc (cons:=fun b=>[Z5d rw us tw k,Z5z rw us tw k,Z5i us tw k]) (hC) [0,4,5,3] (Yt 16 37 0x22330313002223033300034003214044412) (fun _ _ l _=>exN fun j=>Znc (oAt l 0))
theorem Zsv (C fr cr t1 k uk t2:Nat) (us:LD) (tw:LM) (rw ep:Nat) (u:List Nat) (vs:LD) (tv:LM) (rv ev2:Nat) (hu:us[k]?=some u) (hw:us.length<=1000) (hv:vs.length<=1000):TK prog w b fun b _ _=>tG [(C,x2V (HZ w b) "k" "rest" (some (t1,.int (Int.ofNat k) uk,some (t2,.ref rv)))),(cr,Zp (.ref rw)),(rw,Za (wsV (us.map S) tw) ep),(rv,Za (wsV (vs.map S) tv) ev2)] (fun x=>[(C,x2V (HZ w b) "k" "rest" (some (t1,.int (Int.ofNat k) uk,some (t2,.ref rv)))),(cr,Zp (.ref rw)),(rw,Za (wsV (us.map S) tw) ep),(rv,Za (wsV (vs.map S) tv) ev2)]) (fun x=>[(x.nat 2,Za (wsV ((u::vs).map S) (Ja 1 (fun _=>tw k) tv)) 0)]) (Zj (Zh (orC (TZ w b))) (compEnvC (Zc (orC (TZ w b))) (Zhn cr) C (Jt (TZ w b) fr cr))) (fun x=>.ok (.ref (x.nat 2))):=by
 have qE:100000<=sizeLine:=by decide +kernel
 have hl:∀ (us:LD) f,(wsV (us.map S) f).length=us.length:=fun us f=>by rw [Yw,Z0]
 have hk:k < us.length:=(Zfj.mp hu).1
 have hx:(wsV (us.map S) tw)[k]?=some (.str (S u) (tw k)):=by
  have hlt2:k < (wsV (us.map S) tw).length:=by rw [hl]; exact hk
  obtain ⟨u',e1,e2⟩:=Ji us tw k _ (Vp hlt2)
  rw [hu] at e1
  cases e1
  rw [Vp hlt2,e2]
 have c1:∀ n t c l bb,Z6 T2 prog (wb w b) n t (orG rw us tw k u n t c l bb):=fun n t c l bb=>Zri (Int.natCast_nonneg k) (by show ((k:Nat):Int) < 2 ^ 63; lia) hx n t
 have c2:∀ n t c l bb,Z6 T2 prog (wb w b) n t (Yaf u (tw k) vs tv n t c l bb):=fun n t c l bb=>by
  have z:=Px (T:=T2) (prog:=prog) (w:=wb w b) (a:=Yj (Z8 c 0)) (b:=Yj (Z8 c 1)) (xs:=[.str (S u) (tw k)]) (ys:=wsV (vs.map S) tv) (e1:=Jo (Z2 l 0)) (e2:=Jo (Z2 l 1)) (n:=n) (t:=t) (by rw [hl]; simp only [V7,Zbb]; lia)
  unfold Je at z
  rw [show ([Value.str (S u) (tw k)]++wsV (vs.map S) tv)=_ from (M7 [u] vs (fun _=>tw k) tv).symm] at z
  exact z
 have hC:Z4 T2 prog (wb w b) [orG rw us tw k u,Yaf u (tw k) vs tv]:=Zb c1 (Zb c2 Zd)
 exact tkc (cons:=fun b=>[orG rw us tw k u,Yaf u (tw k) vs tv]) (hC) [0,4,5,3,2] (Yt 16 22 0x402210151302113033312) (fun _ _ l _=>exN fun j=>Znc (oAt l 0))
end
noncomputable def Yg (e:Expr):Pos:=(vE e).2.1
noncomputable def leN (v:List Nat) (ws:LD):Nat:=(ws.filter fun u=>decide (cpQ u v<=0)).length
noncomputable def Zjd (ws:LD) (v:List Nat):LD:=Zp9 ws (leN v ws) v
section
theorem Ybe:((Mn (wb w b) 792).bind Uq)=some (Z7 (TZ w b) 792):=kf
theorem Zv8:(Z7 (TZ w b) 792).body=.stmts [ptS (TZ w b) 0,ptS (TZ w b) 1,ptS (TZ w b) 2,ptS (TZ w b) 3]:=kf
theorem Z61:ptS (TZ w b) 2=.Assign [.Name "k" (Yg (Y0 (ptS (TZ w b) 2)))] (.Call (.Name "len" (Yg (Zk (ptV (TZ w b))))) [ptC (TZ w b)] [] (Yv (ptV (TZ w b)))) (Y5 (ptS (TZ w b) 2)):=kf
theorem pt_f:Zk (ptV (TZ w b))=.Name "len" (Yg (Zk (ptV (TZ w b)))):=kf
theorem Z8u (qq:Env):backTo (Yv (ptV (TZ w b))) (starEach [ptC (TZ w b)] qq)=[(false,eval (ptC (TZ w b)) qq)]:=kf
theorem pt_c:ptC (TZ w b)=.ListComp (Zh (ptC (TZ w b))) [⟨Zf (ptC (TZ w b)) 0,Ze (ptC (TZ w b)) 0,[ptI (TZ w b)],0⟩] (Zc (ptC (TZ w b))) (Ye (ptC (TZ w b))):=kf
theorem Z90:Na (Zc (ptC (TZ w b)))=true:=kf
theorem Z8w (qq:Env) (x:Value):foldedSetIterable (Ze (ptC (TZ w b)) 0) qq x=pure x:=kf
theorem pt_g (I:Addr) (v:Value):letOwnedTupleGo (Zf (ptC (TZ w b)) 0) (.ref I) v=pure ():=kf
theorem Yak (fr ct ck:Nat):closureFor (Zc (ptC (TZ w b))) (Va (TZ w b) fr ct ck)=pure (Z2d ct ck):=kf
theorem pt_i:ptI (TZ w b)=.Compare (Zh7 (ptI (TZ w b))) [.LtE] [Pk (ptI (TZ w b)) 0] (Yv (ptI (TZ w b))):=kf
theorem pt_m:behindInMarks .LtE (Pk (ptI (TZ w b)) 0)=false:=kf
theorem Zvw (G:Ground T2 (wb w b) H) (hf:AOk A2 none 102) (aK:LN) (kk:LM) {ct ck t0 tl lw:Nat} {ws:LD} {v:List Nat} (hw:ws.length<=1000) (hu:∀ u∈ws,u.length<=100000) (hv:v.length<=100000)
  (O:Own H ((762,Z9 773 20 (some c))::(ct,Zp (.str (S v) tv))::(ck,Zp (.ref (aK 6)))::(lw,Za (wsV (ws.map S) tw) ep)::(fr,frO (Zfu (HZ w b) t0 ws tl t1 lw) 2 sl)::(Z1 (HZ w b) (TZ w b) aK kk++l)) h)
  (hQ:∀ acc (ys:LH) ea c' h' t' g',ys.length=leN v ws->Own H ((acc,Za ys ea)::(762,Z9 773 20 (some c'))::(ct,Zp (.str (S v) tv))::(ck,Zp (.ref (aK 6)))::(lw,Za (wsV (ws.map S) tw) ep)::(fr,frO (Zfu (HZ w b) t0 ws tl t1 lw) 2 sl)::(Z1 (HZ w b) (TZ w b) aK kk++l)) h'->t<=t'->Zq true g g'->Q (.ref acc) (r.at h' ⟨t',g'⟩)) :
  wpAny (model prog (wb w b)) A2 (eval (ptC (TZ w b)) (Va (TZ w b) fr ct ck)) Q E (r.at h ⟨t,g⟩):=by
 have qE:100000<=sizeLine:=by decide +kernel
 have hwl:(wsV (ws.map S) tw).length=ws.length:=by rw [Yw,Z0]
 refine Zgj (r:=r) (H:=H) hf.hand (Xu (lst:=lw) (xs:=wsV (ws.map S) tw) (ep:=ep)) pt_c Z90 (fun x=>Z8w _ x) (Yak fr ct ck) pt_g (fun st:Option (Nat×(List Nat×Nat))×Nat=>xV (HZ w b) "word" (st.1.map fun p=>(p.1,.str (S p.2.1) p.2.2))) (fun st=>[(762,Z9 773 20 (some st.2))]) (fun i st ys=>ys.length=leN v (ws.take i)) (t₀:=t) (g₀:=g)
  (l:=(ct,Zp (.str (S v) tv))::(ck,Zp (.ref (aK 6)))::(lw,Za (wsV (ws.map S) tw) ep)::(fr,frO (Zfu (HZ w b) t0 ws tl t1 lw) 2 sl)::(Z1 (HZ w b) (TZ w b) aK kk++l)) (fun p hp=>by
   rw [Ur.mp hp]; exact .tail _ (.tail _ (.head _))) (K:=1001) (by decide)
  (fun i st ys hI hi=>?_) (fun C i x st ys m h1 t1' g1 Q E hi hx hI O ht hg1 hQ=>?_) (fun st=>Zey _ _ _) (fun acc st ys ea h1 t1' g1 hI O ht hg1=>?_) (st:=(none,c)) rfl rfl ?_
 ·rw [hI]
  have:=List.length_filter_le (fun u=>decide (cpQ u v<=0)) (ws.take i)
  rw [Zbg] at this
  show (List.filter _ _).length < 1001
  lia
 ·obtain ⟨u,hw',rfl⟩:=Ji ws tw i x hx
  have hul:=hu u (Nl hw')
  have hfl:leN v (ws.take (i+1))=leN v (ws.take i)+(if cpQ u v<=0 then 1 else 0):=by
   unfold leN
   rw [Zbv,hw',List.filter_append,Vc]
   by_cases hs:cpQ u v<=0
   ·simp [hs]
   ·simp [hs]
  refine Zcf.one ?_
  refine go (Z2u C fr ct ck st.1 (u,tw i)) G hf O fun x5 h5 t5 g5 O5 qy qv=>?_
  have O5:Own H ((C,xV (HZ w b) "word" (some (x5.nat 2,.str (S u) (tw i))))::((762,Z9 773 20 (some st.2))::(ct,Zp (.str (S v) tv))::(ck,Zp (.ref (aK 6)))::(lw,Za (wsV (ws.map S) tw) ep)::(fr,frO (Zfu (HZ w b) t0 ws tl t1 lw) 2 sl)::(Z1 (HZ w b) (TZ w b) aK kk++l)++m)) h5:=O5.perm (by
   simp only [Zx.postA,ptA,Zt]
   exact pm [_,_,_,_,_,_] [_,_,_] 1519450318888470562553986 92739887627470192770)
  generalize x5.nat 2=ts at O5
  rw [pt_i]
  refine wpAny_isTrue_Compare1 ?_ pt_m
  refine go (Zxr aK kk C fr ct ck ts u (tw i)) G hf O5 (rest:=(762,Z9 773 20 (some st.2))::(ct,Zp (.str (S v) tv))::(lw,Za (wsV (ws.map S) tw) ep)::(fr,frO (Zfu (HZ w b) t0 ws tl t1 lw) 2 sl)::(l++m)) (hp:=by
   simp only [Zx.preA,tG,Zt]
   exact pm [_,_,_,_,_,_] [_,_,_] 92739887627470192770 1518398634899124955152513) fun x6 h6 t6 g6 O6 qG qC=>?_
  generalize h5.objs.size=n5 at O6 ⊢
  have O6:Own H ((n5+1,kIn (aK 6) n5 u (tw i))::(C,xV (HZ w b) "word" (some (ts,.str (S u) (tw i))))::((762,Z9 773 20 (some st.2))::(ct,Zp (.str (S v) tv))::(ck,Zp (.ref (aK 6)))::(lw,Za (wsV (ws.map S) tw) ep)::(fr,frO (Zfu (HZ w b) t0 ws tl t1 lw) 2 sl)::(Z1 (HZ w b) (TZ w b) aK kk++l)++m)) h6:=O6.perm (by
   simp only [Zx.postA,tG,Zt]
   exact pm [_,_,_,_,_,_,_] [_,_,_] 3184371222901383499068599189633 11870707318258728452738)
  refine go (Zwx aK kk C fr ct ck v tv) G hf O6 (rest:=(n5+1,kIn (aK 6) n5 u (tw i))::(C,xV (HZ w b) "word" (some (ts,.str (S u) (tw i))))::(762,Z9 773 20 (some st.2))::(lw,Za (wsV (ws.map S) tw) ep)::(fr,frO (Zfu (HZ w b) t0 ws tl t1 lw) 2 sl)::(l++m)) (hp:=by
   simp only [Zx.preA,tG,Zt]
   exact pm [_,_,_,_,_,_,_] [_,_,_] 11870707318464075285122 194358594712074913858109569) fun x7 h7 t7 g7 O7 qO qM=>?_
  generalize h6.objs.size=n6 at O7 ⊢
  have O7:Own H (V1 (HZ w b) (TZ w b) aK kk (n5+1) (n6+1) n5 n6 u v (tw i) tv st.2++((C,xV (HZ w b) "word" (some (ts,.str (S u) (tw i))))::(ct,Zp (.str (S v) tv))::(ck,Zp (.ref (aK 6)))::(lw,Za (wsV (ws.map S) tw) ep)::(fr,frO (Zfu (HZ w b) t0 ws tl t1 lw) 2 sl)::(l++m))) h7:=O7.perm (by
   simp only [Zx.postA,tG,Zt,V1]
   exact pm [_,_,_,_,_,_,_,_] [_,_,_] 407607002657042265505863491928193 1518454407477391328987265)
  refine Zim 3 aK kk hul hv (hf.le (by decide)) G O7 fun c' h8 t8 g8 O8 xD qX qW=>Zj0 ?_
  have O8:Own H ((C,xV (HZ w b) "word" (some (ts,.str (S u) (tw i))))::([(762,Z9 773 20 (some c'))]++((ct,Zp (.str (S v) tv))::(ck,Zp (.ref (aK 6)))::(lw,Za (wsV (ws.map S) tw) ep)::(fr,frO (Zfu (HZ w b) t0 ws tl t1 lw) 2 sl)::(Z1 (HZ w b) (TZ w b) aK kk++l)++m))) h8:=Own.drop (r:=[(n5+1,kIn (aK 6) n5 u (tw i)),(n6+1,kIn (aK 6) n6 v tv)]) (O8.perm (by
   simp only [V1]
   exact pm [_,_,_,_,_,_,_,_] [_,_,_] 1518454412583420261646593 2547875090545906311847754089857))
  have gr:Zq true g1 g8:=gtr (gtr (gtr qv qC) qM) qW
  show if decide (cpQ u v<=0)=true then _ else _
  by_cases hs:cpQ u v<=0
  ·rw [if_pos (Za7 hs)]
   refine go (Zzy C fr ct ck ts u (tw i)) G hf O8 fun x9 h9 t9 g9 O9 xk xq=>?_
   exact hQ (some (.str (S u) (tw i))) (some (ts,(u,tw i)),c') h9 t9 g9 (by rw [hfl,if_pos hs,Vc,hI]; rfl) O9 (by exact (Zn qy (Zn qG (Zn qO (Zn qX xk))))) (gtr gr xq)
  ·rw [if_neg (by rw [Uz hs]; exact Q4q)]
   exact hQ none (some (ts,(u,tw i)),c') h8 t8 g8 (by rw [hfl,if_neg hs]; simpa using hI) O8 (by exact (Zn qy (Zn qG (Zn qO qX)))) gr
 ·have e:leN v (ws.take (wsV (ws.map S) tw).length)=leN v ws:=by rw [hwl,Zja]
  have hI:ys.length=leN v (ws.take (wsV (ws.map S) tw).length):=hI
  rw [e] at hI
  exact hQ acc ys ea st.2 h1 t1' g1 hI O ht hg1
 ·refine go (Z0e fr ct ck t0 ws tl t1 lw sl) G hf O (rest:=(762,Z9 773 20 (some c))::(ct,Zp (.str (S v) tv))::(ck,Zp (.ref (aK 6)))::(lw,Za (wsV (ws.map S) tw) ep)::(Z1 (HZ w b) (TZ w b) aK kk++l)) (hp:=by
   simp only [Zx.preA,tP,Zt]
   exact pm [_,_,_,_,_] [_,_] 30893186089602 8292608620325440290945) fun x5 h5 t5 g5 O5 qy qv=>⟨h5,t5,g5,rfl,rfl,O5.perm (by
   simp only [Zx.postA,tP,Zt]
   exact pm [_,_,_,_,_] [_,_] 135869669298251905275805825 506101288224686721),qy,qv⟩
end
section
open PySem PySem.W PySem.W.X PySem.SeqAt
theorem Zdw {rg:Addr} (hn:n < 2 ^ 62):Opn prog w A H r (.ref rg) [(rg,Znk (Int.ofNat n) t1 t2 t3)] n (fun i v=>∃ u,v=.int (Int.ofNat i) u) where
 opn:=fun {l h t g Q E} hf O hQ=>by
  have ho:=O.own _ (hf _ (.head _))
  refine wpAny_pyIter_range (s:=r.at h ⟨t,g⟩) (a:=0) (b:=Int.ofNat n) (c:=1) ho (small_one (by decide) (by decide) (by show -(2 ^ 62)<=((n:Nat):Int); lia) (by show ((n:Nat):Int) < 2 ^ 62; lia)) ?_
  have qE:Builtin.Range.rangeSize 0 (Int.ofNat n) 1=(n:Int):=by rw [rangeSize_one]; show (if _ then _ else _)=_; split<;>simp_all
  rw [qE]
  have e0:({ cls:=.type "range_iterator",data:=.fields #[rawInt 0,rawInt (n:Int),rawInt 1] }:Obj)=Zcx (0+((0:Nat):Int) * 1) ((n:Int) - ((0:Nat):Int)) 1:=by
   unfold Zcx; simp
  refine hQ _ (fun oi i=>oi=Zcx (0+(i:Int) * 1) ((n:Int) - (i:Int)) 1) (fun A' hh=>?_) e0 rfl fun {l h1 t g Q E} O1 hq=>?_
  ·have S:=Zmb (prog:=prog) (w:=w) (A:=A') (H:=H) (r:=r) (it:=h.objs.size) 0 1 n hh
   refine ⟨fun {i oi l h t g Q E} hi hat hf O hQ=>S.next hi hat (fun p hp=>nomatch hp) O fun oi' h' v t' a1 a2 a3 a4 a5=>hQ oi' h' v t' a1 ?_ a3 a4 a5,fun {oi l h t g Q E} hat hf O hQ=>S.done hat (fun p hp=>nomatch hp) O fun h' O' _=>hQ h' O' trivial⟩
   obtain ⟨u,rfl⟩:=a2
   refine ⟨u,?_⟩
   have:(0+(i:Int) * 1)=Int.ofNat i:=by simp
   rw [this]
  ·exact wpAny_pyIter_rangeiter (s:=r.at h1 ⟨t,g⟩) (x:=0) (left:=n) (step:=1) (O1.own _ (.head _)) hq
noncomputable def Zfn {α:Type}:Nat->List α->List (List α)
 | 0,_=>[[]]
 | n+1,us=>match us with
  | []=>[[]]
  | u::us'=>(List.range (u::us').length).flatMap fun k=>(Zfn n ((u::us').take k++(u::us').drop (k+1))).map fun vs=>(u::us').getD k u::vs
noncomputable def M2 {α:Type} (us:List α):List (List α):=Zfn us.length us
structure Od where
 a:Addr
 ep:Nat
 us:LD
 tk:LM
noncomputable def Od.o (x:Od):Addr×Obj:=(x.a,Za (wsV (x.us.map S) x.tk) x.ep)
noncomputable def Od.v (x:Od):Value:=.ref x.a
noncomputable def Yd (l:List Od):LC:=l.map Od.o
theorem Vu (l:List Od) (x:Od):Yd (l++[x])=Yd l++[x.o]:=by unfold Yd; rw [List.map_append]; rfl
theorem Y4:∀ {l:List Od} {i:Nat} {x:Od},l[i]?=some x->∃ rest,(Yd l).Perm (x.o::rest)
 | y::l,0,x,h=>by cases h; exact ⟨Yd l,.refl _⟩
 | y::l,i+1,x,h=>by
  obtain ⟨rest,hp⟩:=Y4 (l:=l) (i:=i) h
  exact ⟨y.o::rest,(hp.cons _).trans (.swap _ _ _)⟩
noncomputable def fac:LM
 | 0=>1
 | n+1=>(n+1) * fac n
theorem Ny (f:α->Nat) (c:Nat):∀ l:List α,(∀ x∈l,f x=c)->(l.map f).sum=l.length * c
 | [],_=>by simp
 | x::l,h=>by
  rw [Zcq,List.sum_cons,h x (.head _),Ny f c l fun y hy=>h y (.tail _ hy),V7,Nat.succ_mul]
  lia
theorem Gb {β:Type} {f g:α->List β}:∀ {l:List α},(∀ x∈l,f x=g x)->l.flatMap f=l.flatMap g
 | [],_=>rfl
 | x::l,h=>by rw [List.flatMap_cons,List.flatMap_cons,h x (.head _),Gb fun y hy=>h y (.tail _ hy)]
theorem Me {us:List α} (h:us.length=n+1) (hk:k < n+1):(us.take k++us.drop (k+1)).length=n:=by
 rw [Vc,Zbg,List.length_drop,h,Nat.min_eq_left (Nat.le_of_lt hk),Nat.add_sub_add_right]
 exact Nat.add_sub_of_le (Nat.le_of_lt_succ hk)
theorem Md:∀ (n:Nat) (us:List α),us.length=n->(Zfn n us).length=fac n
 | 0,_,_=>rfl
 | n+1,[],h=>by cases h
 | n+1,u::us,h=>by
  show ((List.range (u::us).length).flatMap fun k=>(Zfn n ((u::us).take k++(u::us).drop (k+1))).map fun vs=>(u::us).getD k u::vs).length=_
  rw [List.length_flatMap,Ny _ (fac n) _ fun k hk=>by
   rw [Z0,Md n _ (Me h (by have:=Zhp.mp hk; lia))],List.length_range,h]
  rfl
theorem U2:∀ (n:Nat) (us:List α),us.length=n->∀ v∈Zfn n us,v.length=n
 | 0,_,_,v,h=>by rw [Ur.mp (show v∈[[]] from h)]; rfl
 | n+1,[],h,_,_=>by cases h
 | n+1,u::us,h,v,hv=>by
  obtain ⟨k,hk,hv⟩:=Zqx.mp (show v∈(List.range (u::us).length).flatMap fun k=>(Zfn n ((u::us).take k++(u::us).drop (k+1))).map fun vs=>(u::us).getD k u::vs from hv)
  obtain ⟨vs,hvs,rfl⟩:=Uo.mp hv
  rw [V7,U2 n _ (Me h (by have:=Zhp.mp hk; lia)) vs hvs]
theorem Zgq:∀ (n:Nat) (us:List α),us.length=n->∀ v∈Zfn n us,∀ u∈v,u∈us
 | 0,_,_,v,h,u,hu=>by rw [Ur.mp (show v∈[[]] from h)] at hu; cases hu
 | n+1,[],h,_,_,_,_=>by cases h
 | n+1,u0::us,h,v,hv,u,hu=>by
  obtain ⟨k,hk,hv⟩:=Zqx.mp (show v∈(List.range (u0::us).length).flatMap fun k=>(Zfn n ((u0::us).take k++(u0::us).drop (k+1))).map fun vs=>(u0::us).getD k u0::vs from hv)
  obtain ⟨vs,hvs,rfl⟩:=Uo.mp hv
  have hk:=Zhp.mp hk
  rcases X6.mp hu with rfl | hu
  ·rw [Zbj,Vp hk]
   exact Zd1 _
  ·rcases Zhu.mp (Zgq n _ (Me h (by lia)) vs hvs u hu) with e | e
   ·exact Z1v e
   ·exact List.mem_of_mem_drop e
theorem Zdb {us v:List α} (h:v∈M2 us):v.length=us.length/\∀ u∈v,u∈us:=⟨U2 _ us rfl v h,Zgq _ us rfl v h⟩
noncomputable def Zl4 (n:Nat) (us:LD) (i:Nat):List (LD):=(List.range i).flatMap fun k=>(Zfn n (Mr us k)).map fun vs=>us.getD k []::vs
theorem Ze3 (n:Nat) (us:LD) (i:Nat):Zl4 n us (i+1)=Zl4 n us i++(Zfn n (Mr us i)).map fun vs=>us.getD i []::vs:=by
 unfold Zl4
 rw [List.range_succ,Zz4]
 simp
theorem Zpj (h:us.length=n+1):Zl4 n us us.length=M2 us:=by
 cases us with
 | nil=>cases h
 | cons u us =>
  unfold M2
  rw [h]
  show (List.range (n+1)).flatMap _=(List.range (u::us).length).flatMap _
  rw [h]
  refine Gb fun k hk=>?_
  have hk:=Zhp.mp hk
  have e:(u::us).getD k []=(u::us).getD k u:=by
   rw [Zbj,Zbj,Vp (by lia)]; rfl
  rw [e]; rfl
theorem Zcs {n:Nat} {us:LD} (h:us.length=n+1):∀ i,i<=n+1->(Zl4 n us i).length=i * fac n
 | 0,_=>by simp [Zl4]
 | i+1,hi=>by
  rw [Ze3,Vc,Z0,Zcs h i (by lia),show (Zfn n (Mr us i)).length=fac n from Md n _ (Me h (by assumption)),Nat.succ_mul]
noncomputable def okV:Option (Nat×(Nat×Nat)×Option (Nat×Addr))->Option (Nat×Value×LI)
 | none=>none
 | some (t1,k,o)=>some (t1,.int (Int.ofNat k.1) k.2,o.map fun p=>(p.1,.ref p.2))
section
theorem Z5c:((Mn (wb w b) 809).bind Uq)=some (Z7 (TZ w b) 809):=kf
theorem Zv2:(Z7 (TZ w b) 809).body=.stmts [orS (TZ w b) 0,orS (TZ w b) 1]:=kf
theorem Yah:orS (TZ w b) 0=.If (.Compare (Zh7 (orT (TZ w b))) [.Eq] [Pk (orT (TZ w b)) 0] (Yv (orT (TZ w b)))) [.Return (some (M6 (V3 (orS (TZ w b) 0) 0))) (Y5 (V3 (orS (TZ w b) 0) 0))] [] (Y5 (orS (TZ w b) 0)):=kf
theorem or_m:behindInMarks .Eq (Pk (orT (TZ w b)) 0)=false:=kf
theorem Z82:orS (TZ w b) 1=.Return (some (.ListComp (Zh (orC (TZ w b))) [⟨Zf (orC (TZ w b)) 0,Ze (orC (TZ w b)) 0,[],0⟩,⟨Zf (orC (TZ w b)) 1,Ze (orC (TZ w b)) 1,[],0⟩] (Zc (orC (TZ w b))) (Ye (orC (TZ w b))))) (Y5 (orS (TZ w b) 1)):=kf
theorem Z86:Na (Zc (orC (TZ w b)))=true:=kf
theorem Z7v (qq:Env) (x:Value):foldedSetIterable (Ze (orC (TZ w b)) 0) qq x=pure x:=kf
theorem Z9a (qq:Env) (x:Value):foldedSetIterable (Ze (orC (TZ w b)) 1) qq x=pure x:=kf
theorem Yan (I:Addr) (v:Value):letOwnedTupleGo (Zf (orC (TZ w b)) 0) (.ref I) v=pure ():=kf
theorem Z6o (I:Addr) (v:Value):letOwnedTupleGo (Zf (orC (TZ w b)) 1) (.ref I) v=pure ():=kf
theorem Z70 (fr cr:Nat):closureFor (Zc (orC (TZ w b))) (Jt (TZ w b) fr cr)=pure (Zhn cr):=kf
theorem Z7z:Ze (orC (TZ w b)) 0=.Call (.Name "range" (Yg (Zk (Ze (orC (TZ w b)) 0)))) [.Call (.Name "len" (Yg (Zk (Zo (Ze (orC (TZ w b)) 0) 0)))) [Zo (Zo (Ze (orC (TZ w b)) 0) 0) 0] [] (Yv (Zo (Ze (orC (TZ w b)) 0) 0))] [] (Yv (Ze (orC (TZ w b)) 0)):=kf
theorem Z6w:Zk (Ze (orC (TZ w b)) 0)=.Name "range" (Yg (Zk (Ze (orC (TZ w b)) 0))):=kf
theorem Yad:Zk (Zo (Ze (orC (TZ w b)) 0) 0)=.Name "len" (Yg (Zk (Zo (Ze (orC (TZ w b)) 0) 0))):=kf
theorem Zy7:Zo (Ze (orC (TZ w b)) 0) 0=.Call (.Name "len" (Yg (Zk (Zo (Ze (orC (TZ w b)) 0) 0)))) [Zo (Zo (Ze (orC (TZ w b)) 0) 0) 0] [] (Yv (Zo (Ze (orC (TZ w b)) 0) 0)):=kf
theorem Z03 (qq:Env):backTo (Yv (Ze (orC (TZ w b)) 0)) (starEach [Zo (Ze (orC (TZ w b)) 0) 0] qq)=[(false,eval (Zo (Ze (orC (TZ w b)) 0) 0) qq)]:=kf
theorem Z1f (qq:Env):backTo (Yv (Zo (Ze (orC (TZ w b)) 0) 0)) (starEach [Zo (Zo (Ze (orC (TZ w b)) 0) 0) 0] qq)=[(false,eval (Zo (Zo (Ze (orC (TZ w b)) 0) 0) 0) qq)]:=kf
theorem Z8i:Ze (orC (TZ w b)) 1=.Call (.Name "_law_orders" (Yg (Zk (Ze (orC (TZ w b)) 1)))) [Zo (Ze (orC (TZ w b)) 1) 0] [] (Yv (Ze (orC (TZ w b)) 1)):=kf
theorem Z74:Zk (Ze (orC (TZ w b)) 1)=.Name "_law_orders" (Yg (Zk (Ze (orC (TZ w b)) 1))):=kf
theorem Z3u (qq:Env):backTo (Yv (Ze (orC (TZ w b)) 1)) (starEach [Zo (Ze (orC (TZ w b)) 1) 0] qq)=[(false,eval (Zo (Ze (orC (TZ w b)) 1) 0) qq)]:=kf
theorem Zx6 (G:Ground T2 (wb w b) H) (hf:AOk A2 none 30) (hw:us.length<=1000)
  (O:Own H ((cr,Zp (.ref rw))::(rw,Za (wsV (us.map S) tw) ep)::l) h)
  (hQ:∀ rg a1 a2 a3 h' t' g',Own H ((rg,Znk (Int.ofNat us.length) a1 a2 a3)::(cr,Zp (.ref rw))::(rw,Za (wsV (us.map S) tw) ep)::l) h'->t<=t'->Zq true g g'->Q (.ref rg) (r.at h' ⟨t',g'⟩)) :
  wpAny (model prog (wb w b)) A2 (eval (Ze (orC (TZ w b)) 0) (Jt (TZ w b) fr cr)) Q E (r.at h ⟨t,g⟩):=by
 have hwl:(wsV (us.map S) tw).length=us.length:=by rw [Yw,Z0]
 refine eqF (by rw [Z7z]) ?_
 refine Zi2 ?_
 rw [← Z6w,← Zy7]
 refine go (Zr9 fr cr) G hf O fun x1 h1 t1 g1 O1 qK qD=>?_
 rw [Z03]
 refine callWith_type rfl (Q7q (Q8q ?_))
 refine eqF (by rw [Zy7]) ?_
 refine Zi2 ?_
 refine eqF (by rw [← Yad]) ?_
 refine go (Zw7 fr cr) G hf O1 fun x2 h2 t2 g2 O2 qN qF=>?_
 refine eqF (by rw [Z1f]) ?_
 refine Q5q rfl (Q7q (Q8q ?_))
 refine go (Zxq fr cr rw) G hf O2 fun x3 h3 t3 g3 O3 qx qz=>?_
 refine Q9q ?_
 refine Calls.call_len_list (s:=r.at h3 ⟨t3,g3⟩) (items:=⟨wsV (us.map S) tw⟩) (Yn (O3.own (rw,_) (.tail _ (.head _)))) (by
  show (((wsV (us.map S) tw).length:Nat):Int) < 2 ^ 63
  lia) ?_
 refine Q9q ?_
 refine call_range_1 (s:=r.at h3 ⟨t3+1+1,g3⟩) ?_
 have O4:=O3.push (Znk (Int.ofNat us.length) (t3+1+1) (t3+1) (t3+1+1+1)) rfl
 have e:(((⟨wsV (us.map S) tw⟩:Array Value).size:Nat):Int)=Int.ofNat us.length:=by
  show (((wsV (us.map S) tw).length:Nat):Int)=_
  rw [hwl]; rfl
 rw [e]
 exact hQ _ _ _ _ _ (t3+1+1+1+1) g3 O4 (by lia) (gtr (gtr qD qF) qz)
theorem Zac (us:LD) (f:LM):(wsV (us.map S) f).length=us.length:=by rw [Yw,Z0]
theorem Z1n:∀ n,n < 9->fac n<=40320:=by decide
theorem Z2j (G:Ground T2 (wb w b) H) (hf:AOk A2 none 30) {C u:Nat} {st:Option (Nat×(Nat×Nat)×Option (Nat×Addr))} {Q:Unit->Shared->Prop}
  (O:Own H ((C,x2V (HZ w b) "k" "rest" (okV st))::l) h)
  (hQ:∀ t1 o h' t' g',Own H ((C,x2V (HZ w b) "k" "rest" (okV (some (t1,(k,u),o))))::l) h'->t<=t'->Zq true g g'->Q () (r.at h' ⟨t',g'⟩)) :
  wpAny (model prog (wb w b)) A2 (assign (Zf (orC (TZ w b)) 0) (compEnvC (Zc (orC (TZ w b))) (Zhn cr) C (Jt (TZ w b) fr cr)) (.int (Int.ofNat k) u)) Q E (r.at h ⟨t,g⟩):=by
 rcases st with _ | ⟨t1,⟨k1,u1⟩,_ | ⟨t2,a2⟩⟩
 ·exact go (Zo4 C fr cr (Int.ofNat k) u) G hf O fun x h3 t3 g3 O3 qx qz=>hQ (x.nat 2) none h3 t3 g3 O3 qx qz
 ·exact go (Zo2 C fr cr t1 (Int.ofNat k1) u1 (Int.ofNat k) u) G hf O fun x h3 t3 g3 O3 qx qz=>hQ (x.nat 2) none h3 t3 g3 O3 qx qz
 ·exact go (Zqr C fr cr t1 t2 (Int.ofNat k1) u1 a2 (Int.ofNat k) u) G hf O fun x h3 t3 g3 O3 qx qz=>hQ (x.nat 2) (some (x.nat 3,a2)) h3 t3 g3 O3 qx qz
theorem Z16 (G:Ground T2 (wb w b) H) (hf:AOk A2 none 30) {C u:Nat} {o:Option (Nat×Addr)} {a:Addr} {Q:Unit->Shared->Prop}
  (O:Own H ((C,x2V (HZ w b) "k" "rest" (okV (some (t1,(k,u),o))))::l) h)
  (hQ:∀ t1 t2 h' t' g',Own H ((C,x2V (HZ w b) "k" "rest" (okV (some (t1,(k,u),some (t2,a)))))::l) h'->t<=t'->Zq true g g'->Q () (r.at h' ⟨t',g'⟩)) :
  wpAny (model prog (wb w b)) A2 (assign (Zf (orC (TZ w b)) 1) (compEnvC (Zc (orC (TZ w b))) (Zhn cr) C (Jt (TZ w b) fr cr)) (.ref a)) Q E (r.at h ⟨t,g⟩):=by
 rcases o with _ | ⟨t2,a2⟩
 ·exact go (Zpy C fr cr t1 (Int.ofNat k) u a) G hf O fun x h3 t3 g3 O3 qx qz=>hQ (x.nat 2) (x.nat 3) h3 t3 g3 O3 qx qz
 ·exact go (Zqb C fr cr t1 t2 (Int.ofNat k) u a2 a) G hf O fun x h3 t3 g3 O3 qx qz=>hQ (x.nat 2) (x.nat 3) h3 t3 g3 O3 qx qz
noncomputable def Z51 (prog:Program) (w:World) (n:Nat):Prop :=
 ∀ {A:Around},AOk A none (31+n)->∀ {H:Heap},Ground T2 w H->∀ {r:Zb3} {us:LD} {tw:LM} {rw ep:Nat},us.length=n->∀ {l:LC} {h:Heap} {t:Nat} {g:LK} {Q:LF} {E:LF},
  Own H ((rw,Za (wsV (us.map S) tw) ep)::l) h ->
  (∀ acc os ea h' t' g',os.map Od.us=M2 us->Own H ((acc,Za (os.map Od.v) ea)::(Yd os++((rw,Za (wsV (us.map S) tw) ep)::l))) h'->t<=t'->Zq true g g'->Q (.ref acc) (r.at h' ⟨t',g'⟩)) ->
  wpAny (model prog w) A (call (.ref 809) [.ref rw]) Q E (r.at h ⟨t,g⟩)
theorem Zps (hn:n < 8) (IH:Z51 prog (wb w b) n) (hA:AOk A2 none (31+n)) (G:Ground T2 (wb w b) H) (hus:us.length=n+1)
  {C acc i u:Nat} (hi:i < n+1) {st:Option (Nat×(Nat×Nat)×Option (Nat×Addr))} {os:List Od} {m:LC} {K:Shared->Prop} (hos:os.map Od.us=Zl4 n us i)
  (O:Own H ((acc,Za (os.map Od.v) ea)::(C,x2V (HZ w b) "k" "rest" (okV st))::(Yd os++((cr,Zp (.ref rw))::(rw,Za (wsV (us.map S) tw) ep)::m))) h)
  (hK:∀ st' os' ea' h' t' g',os'.map Od.us=Zl4 n us (i+1)->Own H ((acc,Za (os'.map Od.v) ea')::(C,x2V (HZ w b) "k" "rest" (okV st'))::(Yd os'++((cr,Zp (.ref rw))::(rw,Za (wsV (us.map S) tw) ep)::m))) h'->t<=t'->Zq true g g'->K (r.at h' ⟨t',g'⟩)) :
  wpAny (model prog (wb w b)) A2 (assign (Zf (orC (TZ w b)) 0) (compEnvC (Zc (orC (TZ w b))) (Zhn cr) C (Jt (TZ w b) fr cr)) (.int (Int.ofNat i) u)) (fun _ s=>wpAny (model prog (wb w b)) A2 (eval (Ze (orC (TZ w b)) 1) (compEnvC (Zc (orC (TZ w b))) (Zhn cr) C (Jt (TZ w b) fr cr))) (fun x s=>wpAny (model prog (wb w b)) A2 (pyIter x) (fun it1 s=>wpAny (model prog (wb w b)) A2 (runOwn (.compStart (.ListComp (Zh (orC (TZ w b))) [⟨Zf (orC (TZ w b)) 0,Ze (orC (TZ w b)) 0,[],0⟩,⟨Zf (orC (TZ w b)) 1,Ze (orC (TZ w b)) 1,[],0⟩] (Zc (orC (TZ w b))) (Ye (orC (TZ w b)))) 1 it1 (.ref acc) (compEnvC (Zc (orC (TZ w b))) (Zhn cr) C (Jt (TZ w b) fr cr))) (compEnvC (Zc (orC (TZ w b))) (Zhn cr) C (Jt (TZ w b) fr cr))) (fun _ s=>K s) E s) E s) E s) E (r.at h ⟨t,g⟩):=by
 have qE:10000000<=sizeLine:=by decide +kernel
 have hf:AOk A2 none 30:=hA.le (by lia)
 have O:=O.perm (pm [_,_,_,_] [_,_] 243487785602 241327850501)
 refine Z2j G hf O fun t1 o h1 t1' g1 O1 qK qD=>?_
 refine eqT (Yr (fun e=>eval e (compEnvC (Zc (orC (TZ w b))) (Zhn cr) C (Jt (TZ w b) fr cr))) (Z8i (w:=w) (b:=b)).symm) ?_
 refine Zi2 ?_
 refine eqT (Yr (fun e=>eval e (compEnvC (Zc (orC (TZ w b))) (Zhn cr) C (Jt (TZ w b) fr cr))) (Z74 (w:=w) (b:=b))) ?_
 refine go (Z12 C fr cr) G hf O1 fun x2 h2 t2 g2 O2 qN qF=>?_
 refine eqF (by rw [Z3u]) ?_
 obtain ⟨of,hof,hdf⟩:=Pl.mp (Z5c (w:=w) (b:=b))
 refine Q6q (o:=of) (fd:=Z7 (TZ w b) 809) (Q7q (Q8q ?_))
 refine go (Z1l C fr cr t1 i u o us tw rw ep (by lia)) G hf O2 (rest:=(acc,Za (os.map Od.v) ea)::(Yd os++m)) (hp:=by
  cases o<;>exact .refl _) fun x3 h3 t3 g3 O3 qx qz=>?_
 refine Q9q ⟨⟨O3.keep _ _ (G.top _ _ hof),(Yc hdf).1⟩,?_⟩
 have O3:=O3
 simp only [Zx.postA,orX] at O3
 generalize x3.nat 2=ls at O3 ⊢
 have O3:Own H ((ls,Za (wsV ((Mr us i).map S) (Ja (us.take i).length tw fun j=>tw (j+(i+1)))) 0)::((C,x2V (HZ w b) "k" "rest" (okV (some (t1,(i,u),o))))::(cr,Zp (.ref rw))::(rw,Za (wsV (us.map S) tw) ep)::((acc,Za (os.map Od.v) ea)::(Yd os++m)))) h3:=by
  cases o<;>exact O3
 refine IH hA G (us:=Mr us i) (Me hus hi) O3 fun sub ss es h4 t4 g4 hss O4 qB qw=>?_
 have hdl:(Mr us i).length=n:=Me hus hi
 have hss':ss.map Od.us=Zfn n (Mr us i):=by rw [hss]; unfold M2; rw [hdl]
 have hsl:ss.length=fac n:=by have:=Yr List.length hss'; rw [Z0,Md n _ hdl] at this; exact this
 have hol:os.length=i * fac n:=by have:=Yr List.length hos; rw [Z0,Zcs hus i (by lia)] at this; exact this
 have hfac:=Z1n n (by exact Nat.lt_of_lt_of_le hn (by decide))
 have hif:i * fac n<=8 * 40320:=Nat.mul_le_mul (by lia) hfac
 refine Gu (r:=r) (H:=H) hf.hand (Xu (lst:=sub) (xs:=ss.map Od.v) (ep:=es)) (fun I v=>Z6o I v) (fun st:Option (Nat×(Nat×Nat)×Option (Nat×Addr))×List Od=>(C,x2V (HZ w b) "k" "rest" (okV st.1))::Yd st.2)
  (fun j st ys=>ys=st.2.map Od.v/\(∃ t1 o,st.1=some (t1,(i,u),o))/\st.2.map Od.us=Zl4 n us i++((Zfn n (Mr us i)).take j).map fun vs=>us.getD i []::vs) (t₀:=t4) (g₀:=g4)
  (l:=(sub,Za (ss.map Od.v) es)::(Yd ss++((cr,Zp (.ref rw))::(rw,Za (wsV (us.map S) tw) ep)::(ls,Za (wsV ((Mr us i).map S) (Ja (us.take i).length tw fun j=>tw (j+(i+1)))) 0)::m))) (fun p hp=>by rw [Ur.mp hp]; exact .head _) (K:=1000000) (by decide)
  (fun j st ys hI hj=>?_) (fun j v st ys m2 h5 t5 g5 Q E hj hv hI O5 qy qv hQ=>?_) (fun st ys ea5 h5 t5 g5 hI O5 qy qv=>?_) (st:=(some (t1,(i,u),o),os)) ⟨rfl,⟨_,_,rfl⟩,by rw [List.take_zero]; simpa using hos⟩ (O4.perm (by
   exact pm [_,_,_,_,_,_] [_,_,_] 724028890896482690 92601938120227815569)) (Y9 _) (Zq.refl true _)
 ·rw [Z0] at hj
  obtain ⟨rfl,_,h2⟩:=hI
  have e:=Yr List.length h2
  rw [Z0,Vc,Z0,Zbg,Zcs hus i (by lia),Md n _ hdl] at e
  rw [Z0,e]
  lia
 ·rw [Z0] at hj
  obtain ⟨rfl,⟨t1',o',h1⟩,h2⟩:=hI
  obtain ⟨st1,os'⟩:=st
  obtain rfl:st1=some (t1',(i,u),o'):=h1
  have hx:ss[j]?=some ss[j]:=Vp hj
  have hv':v=.ref ss[j].a:=by
   rw [Zbl,hx] at hv
   exact (Zfs hv).symm
  have hxu:(Zfn n (Mr us i))[j]?=some ss[j].us:=by rw [← hss',Zbl,hx]; rfl
  generalize ss[j]=X at hx hv' hxu
  subst hv'
  obtain ⟨rest,hp⟩:=Y4 hx
  have hu:us[i]?=some (us.getD i []):=by rw [Zbj,Vp (by lia)]; rfl
  have hXl:X.us.length<=1000:=by
   have:=U2 n _ hdl X.us (Nl hxu)
   lia
  refine Z16 (a:=X.a) G hf O5 fun t5' t6' h6 t6 g6 O6 qG qC=>?_
  have O6':Own H ((C,x2V (HZ w b) "k" "rest" (some (t5',.int (Int.ofNat i) u,some (t6',.ref X.a))))::(cr,Zp (.ref rw))::(rw,Za (wsV (us.map S) tw) ep)::(X.a,Za (wsV (X.us.map S) X.tk) X.ep)::(Yd os'++((sub,Za (ss.map Od.v) es)::(rest++((ls,Za (wsV ((Mr us i).map S) (Ja (us.take i).length tw fun j=>tw (j+(i+1)))) 0)::(m++m2)))))) h6:=O6.perm (by
   refine (((((hp.append_right _).cons _).append_right _).append_left _).cons _).trans ?_
   exact pm [_,_,_,_,_,_] [_,_,_,_] 1976468185435400554168706 120561951535561672066)
  refine go (Zsv C fr cr t5' i u t6' us tw rw ep (us.getD i []) X.us X.tk X.a X.ep hu (by lia) hXl) G hf O6' fun x7 h7 t7 g7 O7 qO qM=>?_
  refine hQ (.ref (x7.nat 2)) (some (t5',(i,u),some (t6',X.a)),os'++[⟨x7.nat 2,0,us.getD i []::X.us,Ja 1 (fun _=>tw i) X.tk⟩]) h7 t7 g7 ⟨?_,⟨_,_,rfl⟩,?_⟩ (O7.perm ?_) (by exact (Zn qG qO)) (gtr qC qM)
  ·rw [J3]; rfl
  ·have h2:os'.map Od.us=_:=h2
   rw [J3,h2,Zbv,hxu,Option.toList_some,J3,Zdp]
   rfl
  ·show List.Perm ((x7.nat 2,Za (wsV ((us.getD i []::X.us).map S) (Ja 1 (fun _=>tw i) X.tk)) 0)::((C,x2V (HZ w b) "k" "rest" (some (t5',.int (Int.ofNat i) u,some (t6',.ref X.a))))::(cr,Zp (.ref rw))::(rw,Za (wsV (us.map S) tw) ep)::X.o::(Yd os'++((sub,Za (ss.map Od.v) es)::(rest++((ls,Za (wsV ((Mr us i).map S) (Ja (us.take i).length tw fun j=>tw (j+(i+1)))) 0)::(m++m2)))))))
    (((C,x2V (HZ w b) "k" "rest" (some (t5',.int (Int.ofNat i) u,some (t6',.ref X.a))))::Yd (os'++[⟨x7.nat 2,0,us.getD i []::X.us,Ja 1 (fun _=>tw i) X.tk⟩]))++(((sub,Za (ss.map Od.v) es)::(Yd ss++((cr,Zp (.ref rw))::(rw,Za (wsV (us.map S) tw) ep)::(ls,Za (wsV ((Mr us i).map S) (Ja (us.take i).length tw fun j=>tw (j+(i+1)))) 0)::m)))++m2))
   rw [Vu]
   refine List.Perm.trans ?_ (((hp.append_right _).cons _).append_right _ |>.append_left _).symm
   exact pm [_,_,_,_,_,_,_] [_,_,_,_] 15432146022112170214018 4145011779573037825878202040961
 ·obtain ⟨rfl,⟨t1',o',h1⟩,h2⟩:=hI
  obtain ⟨st1,os'⟩:=st
  obtain rfl:st1=some (t1',(i,u),o'):=h1
  refine hK (some (t1',(i,u),o')) os' ea5 h5 t5 g5 ?_ (Own.drop (r:=[(ls,Za (wsV ((Mr us i).map S) (Ja (us.take i).length tw fun j=>tw (j+(i+1)))) 0),(sub,Za (ss.map Od.v) es)]++Yd ss) (O5.perm ?_)) (by exact (Zn qK (Zn qN (Zn qx (Zn qB qy))))) (gtr (gtr (gtr (gtr qD qF) qz) qw) qv)
  ·have h2:os'.map Od.us=_:=h2
   rw [h2,Ze3,Z0,hsl,Zni (by rw [Md n _ hdl]; exact Y9 _)]
  ·show List.Perm ((acc,Za (os'.map Od.v) ea5)::(((C,x2V (HZ w b) "k" "rest" (okV (some (t1',(i,u),o'))))::Yd os')++_)) _
   exact pm [_,_,_,_,_,_] [_,_,_] 93466629353366438018 1057885104725608424882433
theorem Zho (hn:n<=8) (IH:∀ m,n=m+1->Z51 prog (wb w b) m):Z51 prog (wb w b) n:=@fun A hA H G r us tw rw ep hus l h t g Q E O hQ=>by
  have qE:10000000<=sizeLine:=by decide +kernel
  obtain ⟨o,ho,hd⟩:=Pl.mp (Z5c (w:=w) (b:=b))
  refine U7 (O.keep _ _ (G.top _ _ ho)) hd Zv2 (N:=30+n) (hA.le (by lia)) ?_
  refine go (hN:=fun _ _=>⟨by show 20<=30+n; lia,rfl⟩) (Z3a rw) G (AOk.bare (n:=30+n) ((show AOk A none (30+n+1) from hA.le (by lia)).under (Zr rfl)) (Y9 _)) O fun x1 h1 t1 g1 O1 qK qD=>⟨G.nolimit.keeps O1.keep,?_⟩
  generalize h.objs.size=fr at O1 ⊢
  generalize fr+1=cr at O1
  have hf:AOk (A.under (.func [orS (TZ w b) 0,orS (TZ w b) 1] (Jt (TZ w b) fr cr))) none (30+n):=AOk.bare (n:=30+n) ((show AOk A none (30+n+1) from hA.le (by lia)).under (Zr rfl)) (Y9 _)
  generalize A.under (.func [orS (TZ w b) 0,orS (TZ w b) 1] (Jt (TZ w b) fr cr))=A2 at hf
  have hu2:A2.units < cLine:=Zd8 (Zdr _ _) hf.units
  have hf30:AOk A2 none 30:=hf.le (by lia)
  refine eqF (by rw [Zw,Yah]) ?_
  refine Zi (wpAny_If ?_)
  refine wpAny_isTrue_Compare1 ?_ or_m
  refine go (Zzh fr cr rw) G hf30 (O1.perm (.swap _ _ _)) (rest:=(fr,frO #[] 0 #[])::(rw,Za (wsV (us.map S) tw) ep)::l) fun x2 h2 t2 g2 O2 qN qF=>?_
  refine go (Z4o fr cr) G hf30 O2 fun x3 h3 t3 g3 O3 qx qz=>?_
  generalize h2.objs.size=em at O3 ⊢
  have il:∀ {hh:Heap} {a:Addr} {xs:LH} {e:Nat},hh.get? a=some (Za xs e)->hh.IsList a (⟨xs⟩:Array Value):=fun {hh a xs e} q=>⟨_,q,rfl,e,rfl⟩
  have hl1:=il (O3.own (rw,Za (wsV (us.map S) tw) ep) (.tail _ (.tail _ (.tail _ (.head _)))))
  have hl2:=il (O3.own (em,Za [] 0) (.head _))
  have gr3':=gtr (gtr qD qF) qz
  cases us with
  | nil =>
   refine eq_listAt (s:=r.at h3 ⟨t3,g3⟩) (e:=fun _=>true) hl1 hl2 rfl hu2 (fun j q1 q2=>absurd q2 (Nat.not_lt_zero _)) ?_
   refine Zj0 ?_
   refine eqF (by rw [Z5]) ?_
   refine Zru ?_
   refine go (Zyt fr cr) G hf30 O3 fun x4 h4 t4 g4 O4 qB qw=>?_
   generalize h3.objs.size=n4 at O4 ⊢
   refine Yo (hQ (n4+1) [⟨n4,0,[],fun _=>0⟩] 0 h4 t4 g4 rfl (Own.drop (r:=[(em,Za [] 0),(cr,Zp (.ref rw)),(fr,frO #[] 0 #[])]) (O4.perm ?_)) (by exact (Zn qK (Zn qN (Zn qx qB)))) (gtr gr3' qw))
   exact pm [_,_,_,_,_,_] [_] 18180082893442 129924363826317247105
  | cons u us =>
   refine eq_list_lengthsAt (s:=r.at h3 ⟨t3,g3⟩) hl1 hl2 rfl hu2 ?_
   refine Zj0 ?_
   refine eqF (by rw [Gz]) ?_
   refine Yo ?_
   obtain ⟨m,rfl⟩:∃ m,n=m+1:=⟨us.length,by rw [← hus]; rfl⟩
   generalize hU:u::us=U at *
   have hUl:U.length=m+1:=hus
   refine eqF (by rw [Z5,Z82]) ?_
   refine Zru ?_
   refine eqF (by rw [Zvm]) ?_
   obtain ⟨c1,c2,c3⟩:=Yh (Z86 (w:=w) (b:=b))
   have hfx:AOk A2 none (31+m):=hf.le (by lia)
   refine J8 (g0:=⟨Zf (orC (TZ w b)) 0,Ze (orC (TZ w b)) 0,[],0⟩) rfl (fun x=>Z7v _ x) (Z70 fr cr) c2 c3 ?_
   refine Zx6 G hf30 (us:=U) (tw:=tw) (rw:=rw) (ep:=ep) (l:=[(em,Za [] 0),(fr,frO #[] 0 #[])]++l) (by lia) (O3.perm (by exact pm [_,_,_,_] [_] 1096942210 17594337740165)) fun rg a1 a2 a3 h4 t4 g4 O4 qB qw=>?_
   refine Nu (r:=r) (H:=H) hf.hand (Zdw (rg:=rg) (n:=U.length) (t1:=a1) (t2:=a2) (t3:=a3) (by lia)) (fun C x=>Z9a _ x) c1 (fun I v=>Yan I v)
    (fun st:Option (Nat×(Nat×Nat)×Option (Nat×Addr))×List Od=>x2V (HZ w b) "k" "rest" (okV st.1)) (fun st=>Yd st.2) (fun i st ys=>ys=st.2.map Od.v/\st.2.map Od.us=Zl4 m U i) (t₀:=t4) (g₀:=g4)
    (l:=(rg,Znk (Int.ofNat U.length) a1 a2 a3)::(cr,Zp (.ref rw))::(rw,Za (wsV (U.map S) tw) ep)::([(em,Za [] 0),(fr,frO #[] 0 #[])]++l)) (fun p hp=>by rw [Ur.mp hp]; exact .head _)
    (fun C acc i v st ys ea m2 h5 t5 g5 K E hi hv hI O5 qy qv hK=>?_) (fun C acc st ys ea h5 t5 g5 hI O5 qy qv=>?_) (st:=(none,[])) rfl ⟨rfl,rfl⟩ (O4.perm (.refl _)) (Y9 _) (Zq.refl true _)
   ·obtain ⟨u',rfl⟩:=hv
    obtain ⟨rfl,hos⟩:=hI
    obtain ⟨st1,os⟩:=st
    refine Zps (n:=m) (tw:=tw) (rw:=rw) (ep:=ep) (st:=st1) (ea:=ea) (by assumption) (IH m rfl) hfx G hUl (by lia) hos (m:=[(em,Za [] 0),(fr,frO #[] 0 #[]),(rg,Znk (Int.ofNat U.length) a1 a2 a3)]++(l++m2)) (O5.perm ?_) fun st' os' ea' h6 t6 g6 hos' O6 qG qC=>hK (st',os') _ ea' h6 t6 g6 ⟨rfl,hos'⟩ (O6.perm ?_) qG qC
    ·show List.Perm ((acc,Za (os.map Od.v) ea)::(C,x2V (HZ w b) "k" "rest" (okV st1))::(Yd os++_)) _
     exact pm [_,_,_,_,_,_,_] [_,_,_] 194486126923548206932476546 1518241412037147239694978
    ·show List.Perm _ ((acc,Za (os'.map Od.v) ea')::(C,x2V (HZ w b) "k" "rest" (okV st'))::(Yd os'++_))
     exact pm [_,_,_,_,_,_,_] [_,_,_] 1518242275026230883435138 194486099037246020256842370
   ·obtain ⟨rfl,hos⟩:=hI
    obtain ⟨st1,os⟩:=st
    have hos:os.map Od.us=Zl4 m U U.length:=hos
    rw [Zpj hUl] at hos
    refine J5 O5 (Zbw _ _ _ _) fun h6 O6=>?_
    refine hQ acc os ea h6 t5 g5 hos (Own.drop (r:=[(em,Za [] 0),(fr,frO #[] 0 #[]),(rg,Znk (Int.ofNat U.length) a1 a2 a3),(cr,Zp (.ref rw))]) (O6.perm ?_)) (by exact (Zn qK (Zn qN (Zn qx (Zn qB qy))))) (gtr (gtr gr3' qw) qv)
    exact pm [_,_,_,_,_,_] [_,_] 64573236017172136322 579350751799722241
theorem Zcn:∀ n,n<=8->Z51 prog (wb w b) n
 | 0,_=>Zho (by decide) fun m e=>by cases e
 | n+1,hn=>Zho hn fun m e=>by
  cases e
  exact Zcn n (by lia)
end
end
theorem Nj (t i:Expr) (body:List Stmt) (pos:Pos) (qq:Env):exec (.For t i body [] pos) qq=(standAt pos>>=fun _=>Zk2 eval foldedSetIterable pyIter i qq>>=fun y=>runOwn (.forLoop t y body [] qq) qq):=by
 rw [exec_For]
 unfold Zk2
 simp only [bind_assoc]
inductive FrI {σ:Type} (r:Zb3) (N:Nat) (lst:Addr) (qj:Nat->σ->Prop) (L:Obj->σ->LC) (H:Heap) (t₀:Nat) (g₀:LK) (mm:Nat):Shared->Prop
 | mk (i:Nat) (st:σ) (oi:Obj) (h:Heap) (t:Nat) (g:LK):i+mm=N->qj i st->Zgm oi lst i->Own H (L oi st) h->t₀<=t->Zq true g₀ g->FrI r N lst qj L H t₀ g₀ mm (r.at h ⟨t,g⟩)
theorem Zcv (hh:A.handled=none) {tg:Expr} {body:List Stmt} {xs:LH} (ht:∀ v,letOwnedTupleGo tg (.ref it) v=pure ())
  {σ:Type} (ob:σ->LC) (qj:Nat->σ->Prop) (hl:(lst,Za xs ep)∈l) {Rz:Result->Shared->Prop}
  (qP:∀ i v st m h t g (K:Shared->Prop) (E:LF),xs[i]?=some v->qj i st->Own H (ob st++(l++m)) h->t₀<=t->Zq true g₀ g ->
   (∀ st' h' t' g',qj (i+1) st'->Own H (ob st'++(l++m)) h'->t<=t'->Zq true g g'->K (r.at h' ⟨t',g'⟩)) ->
   wpAny (model prog w) A (assign tg qq v) (fun _ s=>wpAny (model prog w) A (execs body qq) (fun f s'=>f=.next/\K s') E s) E (r.at h ⟨t,g⟩))
  (hend:∀ st h t g,qj xs.length st->Own H (ob st++l) h->t₀<=t->Zq true g₀ g->Rz (.ok .next) (r.at h ⟨t,g⟩))
  {st:σ} {oi:Obj} (hI:qj 0 st) (hit:Zgm oi lst 0) (O:Own H ((it,oi)::(ob st++l)) h) (qV:t₀<=t) (xA:Zq true g₀ g) :
  codeAny (model prog w) A (.forLoop tg (.ref it) body [] qq) Rz (r.at h ⟨t,g⟩):=by
 refine codeAny_forLoop (fun mm s=>FrI r xs.length lst qj (fun oi st=>(it,oi)::(ob st++l)) H t₀ g₀ mm s) ?_ xs.length
  (.mk 0 st oi h t g (Nat.zero_add _) hI hit O qV xA) ht
 rintro mm s ⟨i,st,oi,h,t,g,hi,hI,hit,O,ht,hg⟩
 have hm:(lst,Za xs ep)∈ob st++l:=N7 _ hl
 by_cases qL:i < xs.length
 ·have hx:xs[i]?=some xs[i]:=Vp qL
  refine Zc9 O hit hm hx fun h1 oi1 O1 hi1 qU=>?_
  refine Jy (qP i _ st [(it,oi1)] h1 t g (fun s=>∃ m,m < mm/\FrI r xs.length lst qj (fun oi st=>(it,oi)::(ob st++l)) H t₀ g₀ m s) _ hx hI (O1.perm (by
   exact pm [_] [_,_] 115074 33539)) ht hg fun st' h' t' g' hI' O' ht' hg'=>?_) (fun _ s q=>Jy q (fun f s' q=>?_) fun _ _ q=>q) fun _ _ q=>q
  ·exact ⟨mm - 1,by lia,.mk (i+1) st' oi1 h' t' g' (by lia) hI' hi1 (O'.perm (pm [_] [_,_] 33539 115074)) (Zn ht ht') (gtr hg hg')⟩
  ·obtain ⟨rfl,q⟩:=q
   exact q
 ·have hii:i=xs.length:=by lia
  subst hii
  refine Zr8 hh O hit hm (Y9 _) fun h' O'=>?_
  exact wpAny_execs_nil (hend st h' t g hI O' ht hg)
theorem V6 {M:Model} {C:Addr} {u:Value->Sem Unit}
  (hu:wpAny M A (u acc) (fun _ s''=>∃ oC l' h' t' g',s''=r.at h' ⟨t',g'⟩/\Zyg oC/\Own H ((C,oC)::l') h'/\∀ h'',Own H l' h''->Q .none (r.at h'' ⟨t',g'⟩)) E s):compPost M A E (some u) Q acc C (.ok .next) s :=
 Jy hu (fun _ s'' hq=>by
  obtain ⟨oC,l',h',t',g',rfl,hn,O,hq⟩:=hq
  obtain ⟨m,hm⟩:=Z0z (O.own _ (.head _)) hn
  exact ⟨m,hm,fun h'' hs=>hq h'' (O.ext hs.extBut)⟩) fun _ _ e=>e
theorem Mb {M:Model} {x:Str} {px:Pos} {elt:Expr} {gens:List Comprehension} {sc:Scope} {lp:Pos} {Q:Flow->Shared->Prop}
  (hs:swapsWith (.ListComp elt gens sc lp) (some (.Name x px)) pos.line qq=pure true)
  (h:wpAny M A (comprehension (.ListComp elt gens sc lp) sc qq (firstIterPos gens lp) (newList []) (firstAsync gens) (firstIter gens qq) (some (assign (.Name x px) qq))) (fun _ s'=>Q .next s') E s) :
  wpAny M A (exec (.Assign [.Name x px] (.ListComp elt gens sc lp) pos) qq) Q E s:=by
 rw [exec_Assign_Name_used _ _ _ _ hs]
 exact Zi (Zd2 (Zi (Zi (Jy h (fun _ s' q=>Yo (Yo q)) fun _ _ e=>e))))
theorem Ud (us:LD) (u:List Nat) (tk:LM) (t:Nat):wsV ((us++[u]).map S) (Ja us.length tk fun _=>t)=wsV (us.map S) tk++[.str (S u) t]:=M7 us [u] tk fun _=>t
noncomputable def okO (o:Option (Nat×Addr)):LI:=o.map fun p=>(p.1,.ref p.2)
theorem Za0 {os:List Od} {j:Nat} {v:Value} (hj:j < os.length) (hv:(os.map Od.v)[j]?=some v):∃ Y,os[j]?=some Y/\v=.ref Y.a/\∀ f:List (LD),os.map Od.us=f->f[j]?=some Y.us:=by
 have hx:os[j]?=some os[j]:=Vp hj
 refine ⟨os[j],hx,?_,fun f hf=>by rw [← hf,Zbl,hx]; rfl⟩
 rw [Zbl,hx] at hv
 exact (Zfs hv).symm
section
section
theorem Z37 (ln:Nat):TK prog w b fun b n t=>tG [] (fun x=>[]) (fun x=>[(n,frO #[ent (HZ w b) "lines" (x.nat 2) (.ref ln)] 1 #[]),(n+1,X4)]) (Ua 814 (Z7 (TZ w b) 814) ⟨[.ref ln],[]⟩) (fun x=>.ok (Yx (TZ w b) n (n+1))) (md:=fun x=>2):=tkm [1,0] [0,2,2] exT 2
theorem Z29 (fr cr t0 ln:Nat):TK prog w b fun b n t=>tG [(fr,frO #[ent (HZ w b) "lines" t0 (.ref ln)] 1 #[])] (fun x=>[(fr,Vv (HZ w b) (fun j=>x.nat (j+2)) ln (n+1) none)]) (fun x=>[(n,Za [] 0),(n+1,Za [.ref n] 0)]) (Xr [evS (TZ w b) 0] (Yx (TZ w b) fr cr)) (fun x=>.ok .next) (md:=fun x=>2):=tkm [1,0,2] [3,3] (fun _ _ l _=>exN fun j=>Nb l 2 j) 2
theorem Zzc (fr cr:Nat) (ft:LM) (ln rw:Nat) (qH:LH) (ep:Nat):TK prog w b fun b n t=>tG [(fr,Vv (HZ w b) ft ln rw none),(ln,Za qH ep)] (fun x=>[(fr,Vv (HZ w b) ft ln rw none),(ln,Za qH ep)]) (fun x=>[(n,Ge ln 0)]) (Zk2 Zj Z5b Pv (Pb (evS (TZ w b) 1)) (Yx (TZ w b) fr cr)) (fun x=>.ok (.ref n)) (k:=40) (md:=fun x=>1):=tkm [0,1,2] [1,2,2,0,2,0,1] exZ 1
theorem Zv1 (fr cr:Nat) (ft:LM) (ln rw:Nat) (o:Option Addr) (a:Nat):TK prog w b fun b _ _=>tW [(fr,Vv (HZ w b) ft ln rw o)] (fun x=>[(fr,Vv (HZ w b) (fun j=>x.nat (j+2)) ln rw (some a))]) (Zs (Xg (evS (TZ w b) 1)) (Yx (TZ w b) fr cr) (.ref a)) (()):=by
 cases o with
 | none=>exact tkm [0] [1,1] exJ 0
 | some o=>exact tkm [0] [1,1] exJ 0
theorem Zzw (fr cr:Nat):TK prog w b fun b _ _=>tP [] [] (Zj (Zk (Ze (Ut (TZ w b)) 0)) (Yx (TZ w b) fr cr)) ((.ref 809)) 0:=tkm [] [0] exZ 0
theorem Zzn (fr cr:Nat) (ft:LM) (ln rw:Nat) (a:Nat):TK prog w b fun b _ _=>tP [(fr,Vv (HZ w b) ft ln rw (some a))] [] (Zj (Zo (Ze (Ut (TZ w b)) 0) 0) (Yx (TZ w b) fr cr)) ((.ref a)) 0:=tkm [0] [1] exZ 0
theorem Z3r (C fr cr:Nat) (o:Option (Nat×(Addr))) (d:Addr):TK prog w b fun b n t=>evO (HZ w b) (TZ w b) Zs C fr cr (o.map fun p=>(p.1,.ref p.2)) (.ref d) n t:=by
 cases o with
 | none=>exact tkm [0] [1,1] exT 0
 | some o=>exact tkm [0] [1,1] exT 0
theorem Z3h (C fr cr t1 a c:Nat) (vs:LD) (tv:LM) (ep:Nat) (h1:vs.length<=20) (h2:∀ u∈vs,u.length<=100000):TK prog w b fun b _ _=>tG [(C,xV (HZ w b) "order" (some (t1,.ref a))),(762,Z9 773 20 (some c)),(a,Za (wsV (vs.map S) tv) ep)] (fun x=>[(C,xV (HZ w b) "order" (some (t1,.ref a))),(762,Z9 773 20 (some (x.nat 3))),(a,Za (wsV (vs.map S) tv) ep)]) (fun x=>[]) (Zj (Zh (Ut (TZ w b))) (compEnvC (Zc (Ut (TZ w b))) [] C (Yx (TZ w b) fr cr))) (fun x=>.ok (.str (S (Zg vs)) (x.nat 2))) (k:=70):=by
 have hC:Z4 T2 prog (wb w b) [jaF vs tv]:=Zb (fun n t c l bb=>Zlb h1 h2 _ _ _ _ n t) Zd
 exact tkc (cons:=fun b=>[jaF vs tv]) hC [2,0,1] [0,1,0,1,2,1,2,0] (fun _ r l _=>exN fun j=>match j with | 0=>(match r with | .ok v=>Ju v | _=>0) | _=>(match Zpm (Z2 l 1) with | some a=>a | none=>0))
theorem Z4y (fr cr:Nat) (o:Option Addr) (a:Nat):TK prog w b fun b _ _=>tW [(cr,Zdn o)] (fun x=>[(cr,Zdn (some a))]) (Yf (Yx (TZ w b) fr cr) "texts" (.ref a)) (()):=by
 cases o with
 | none=>exact tkm [0] [1,1] exZ 0
 | some o=>exact tkm [0] [1,1] exZ 0
theorem Z4q (fr cr:Nat) (ft:LM) (ln rw:Nat) (a:Nat):TK prog w b fun b _ _=>tP [(fr,Vv (HZ w b) ft ln rw (some a))] [] (Zj (Ze (U0 (TZ w b)) 0) (Yx (TZ w b) fr cr)) ((.ref rw)) 0:=tkm [0] [1] exZ 0
theorem Zzj (C fr cr tx:Nat):TK prog w b fun b _ _=>tP [(cr,Zdn (some tx))] [] (Zj (Ze (U0 (TZ w b)) 1) (compEnvC (Zc (U0 (TZ w b))) (Zvz cr) C (Yx (TZ w b) fr cr))) ((.ref tx)) 0:=tkm [0] [1] exZ 0
theorem Zoq (C fr cr:Nat) (a0:Addr):TK prog w b fun b n t=>Yaa (HZ w b) (TZ w b) Zs C fr cr none (.ref a0) n t:=tkm [0] [1,1] Go 0
theorem Zpb (C fr cr:Nat) (t1:Nat) (a1:Addr) (a0:Addr):TK prog w b fun b n t=>Yaa (HZ w b) (TZ w b) Zs C fr cr (some (t1,.ref a1,none)) (.ref a0) n t:=tkm [0] [1,1] Go 0
theorem Zoo (C fr cr:Nat) (t1 t2:Nat) (a1:Addr) (W2:List Nat) (u2:Nat) (a0:Addr):TK prog w b fun b n t=>Yaa (HZ w b) (TZ w b) Zs C fr cr (some (t1,.ref a1,some (t2,.str (S W2) u2))) (.ref a0) n t:=tkm [0] [1,1] Go 0
theorem Zn3 (C fr cr:Nat) (t1:Nat) (a1:Addr) (W0:List Nat) (u0:Nat):TK prog w b fun b n t=>Ybf (HZ w b) (TZ w b) Zs C fr cr (some (t1,.ref a1,none)) (.str (S W0) u0) n t:=tkm [0] [1,1] Go 0
theorem Zon (C fr cr:Nat) (t1 t2:Nat) (a1:Addr) (W2:List Nat) (u2:Nat) (W0:List Nat) (u0:Nat):TK prog w b fun b n t=>Ybf (HZ w b) (TZ w b) Zs C fr cr (some (t1,.ref a1,some (t2,.str (S W2) u2))) (.str (S W0) u0) n t:=tkm [0] [1,1] Go 0
theorem Z2n (C fr cr t1 a t2:Nat) (u:List Nat) (tu:Nat) (vs:LD) (tv:LM) (ep:Nat) (hv:vs.length<=1000):TK prog w b fun b _ _=>tG [(C,x2V (HZ w b) "row" "text" (some (t1,.ref a,some (t2,.str (S u) tu)))),(a,Za (wsV (vs.map S) tv) ep)] (fun x=>[(C,x2V (HZ w b) "row" "text" (some (t1,.ref a,some (t2,.str (S u) tu)))),(a,Za (wsV (vs.map S) tv) ep)]) (fun x=>[(x.nat 2,Za (wsV ((vs++[u]).map S) (Ja vs.length tv fun _=>tu)) 0)]) (Zj (Zh (U0 (TZ w b))) (compEnvC (Zc (U0 (TZ w b))) (Zvz cr) C (Yx (TZ w b) fr cr))) (fun x=>.ok (.ref (x.nat 2))):=by
 have qE:100000<=sizeLine:=by decide +kernel
 have hC:Z4 T2 prog (wb w b) [Yay vs tv u tu]:=Zb (fun n t c l bb=>by
  have z:=Px (T:=T2) (prog:=prog) (w:=wb w b) (a:=Yj (Z8 c 0)) (b:=Yj (Z8 c 1)) (xs:=wsV (vs.map S) tv) (ys:=[.str (S u) tu]) (e1:=Jo (Z2 l 0)) (e2:=Jo (Z2 l 1)) (n:=n) (t:=t) (by rw [Zac]; simp only [V7,Zbb]; lia)
  unfold Je at z
  rw [show (wsV (vs.map S) tv++[Value.str (S u) tu])=_ from (M7 vs [u] tv (fun _=>tu)).symm] at z
  exact z) Zd
 exact tkc (cons:=fun b=>[Yay vs tv u tu]) hC [0,3,1] [1,1,3,1,3,0,3,1,2,2,0,0] exA
theorem Z1d (fr cr:Nat) (ft:LM) (ln rw:Nat) (a nw:Nat):TK prog w b fun b _ _=>tW [(fr,Vv (HZ w b) ft ln rw (some a))] (fun x=>[(fr,Vv (HZ w b) (fun j=>x.nat (j+2)) ln nw (some a))]) (Zs (Y0 (evB (TZ w b) 1)) (Yx (TZ w b) fr cr) (.ref nw)) (()):=tkm [0] [1,1] exJ 0
theorem Z1g (fr cr:Nat) (ft:LM) (ln rw:Nat) (o:Option Addr):TK prog w b fun b _ _=>tP [(fr,Vv (HZ w b) ft ln rw o)] [] (Zj (Ze (Vm (TZ w b)) 0) (Yx (TZ w b) fr cr)) ((.ref rw)) 0:=by
 cases o with
 | none=>exact tkm [0] [1] exZ 0
 | some o=>exact tkm [0] [1] exZ 0
theorem Zu4 (C fr cr:Nat):TK prog w b fun b _ _=>tP [] [] (Zj (Zk (Ze (Vm (TZ w b)) 1)) (compEnvC (Zc (Vm (TZ w b))) [] C (Yx (TZ w b) fr cr))) ((.ref 809)) 0:=tkm [] [0] exZ 0
theorem Zua (C fr cr t1 a:Nat) (o:Option (Nat×Addr)):TK prog w b fun b _ _=>tP [(C,x2V (HZ w b) "row" "order" (some (t1,.ref a,o.map fun p=>(p.1,.ref p.2))))] [] (Zj (Zo (Ze (Vm (TZ w b)) 1) 0) (compEnvC (Zc (Vm (TZ w b))) [] C (Yx (TZ w b) fr cr))) ((.ref a)) 0:=by
 cases o with
 | none=>exact tkm [0] [1] exZ 0
 | some o=>exact tkm [0] [1] exZ 0
theorem Zo5 (C fr cr:Nat) (a0:Addr):TK prog w b fun b n t=>Z9d (HZ w b) (TZ w b) Zs C fr cr none (.ref a0) n t:=tkm [0] [1,1] Go 0
theorem Zol (C fr cr:Nat) (t1:Nat) (a1:Addr) (a0:Addr):TK prog w b fun b n t=>Z9d (HZ w b) (TZ w b) Zs C fr cr (some (t1,.ref a1,none)) (.ref a0) n t:=tkm [0] [1,1] Go 0
theorem Zpn (C fr cr:Nat) (t1 t2:Nat) (a1:Addr) (a2:Addr) (a0:Addr):TK prog w b fun b n t=>Z9d (HZ w b) (TZ w b) Zs C fr cr (some (t1,.ref a1,some (t2,.ref a2))) (.ref a0) n t:=tkm [0] [1,1] Go 0
theorem Zqe (C fr cr:Nat) (t1:Nat) (a1:Addr) (a0:Addr):TK prog w b fun b n t=>Ya9 (HZ w b) (TZ w b) Zs C fr cr (some (t1,.ref a1,none)) (.ref a0) n t:=tkm [0] [1,1] Go 0
theorem Zo0 (C fr cr:Nat) (t1 t2:Nat) (a1:Addr) (a2:Addr) (a0:Addr):TK prog w b fun b n t=>Ya9 (HZ w b) (TZ w b) Zs C fr cr (some (t1,.ref a1,some (t2,.ref a2))) (.ref a0) n t:=tkm [0] [1,1] Go 0
theorem Zw8 (C fr cr t1 ro t2 a c:Nat) (vs:LD) (tv:LM) (ep:Nat) (h1:vs.length<=20) (h2:∀ u∈vs,u.length<=100000):TK prog w b fun b _ _=>tG [(C,x2V (HZ w b) "row" "order" (some (t1,.ref ro,some (t2,.ref a)))),(762,Z9 773 20 (some c)),(a,Za (wsV (vs.map S) tv) ep)] (fun x=>[(C,x2V (HZ w b) "row" "order" (some (t1,.ref ro,some (t2,.ref a)))),(762,Z9 773 20 (some (x.nat 3))),(a,Za (wsV (vs.map S) tv) ep)]) (fun x=>[]) (Zj (Zh (Vm (TZ w b))) (compEnvC (Zc (Vm (TZ w b))) [] C (Yx (TZ w b) fr cr))) (fun x=>.ok (.str (S (Zg vs)) (x.nat 2))) (k:=70):=by
 have hC:Z4 T2 prog (wb w b) [jaF vs tv]:=Zb (fun n t c l bb=>Zlb h1 h2 _ _ _ _ n t) Zd
 exact tkc (cons:=fun b=>[jaF vs tv]) hC [2,0,1] [0,1,0,1,2,1,2,0] (fun _ r l _=>exN fun j=>match j with | 0=>(match r with | .ok v=>Ju v | _=>0) | _=>(match Zpm (Z2 l 1) with | some a=>a | none=>0))
end
end
section
open PySem PySem.W PySem.W.X PySem.SeqAt
noncomputable def Ni (L:List (LD)):List (LD):=L.foldl (fun rows line=>rows.flatMap fun row=>((M2 line).map Zg).map fun u=>row++[u]) [[]]
noncomputable def Zci (L:List (LD)):LD:=(Ni L).flatMap fun row=>(M2 row).map Zg
noncomputable abbrev WSt:=Option (Nat×Addr×Option (Nat×(List Nat×Nat)))×List Od
noncomputable def okW:Option (Nat×Addr×Option (Nat×(List Nat×Nat)))->Option (Nat×Value×LI)
 | none=>none
 | some (t1,a,o)=>some (t1,.ref a,o.map fun p=>(p.1,.str (S p.2.1) p.2.2))
noncomputable def okR:Option (Nat×Addr×Option (Nat×Addr))->Option (Nat×Value×LI)
 | none=>none
 | some (t1,a,o)=>some (t1,.ref a,okO o)
section
theorem Ybj:((Mn (wb w b) 814).bind Uq)=some (Z7 (TZ w b) 814):=kf
theorem Zun:(Z7 (TZ w b) 814).body=.stmts [evS (TZ w b) 0,evS (TZ w b) 1,evS (TZ w b) 2]:=kf
theorem Z0x:evS (TZ w b) 1=.For (Xg (evS (TZ w b) 1)) (Pb (evS (TZ w b) 1)) [evB (TZ w b) 0,evB (TZ w b) 1] [] (Zlh (evS (TZ w b) 1)):=kf
theorem Z1p (it v:Value):letOwnedTupleGo (Xg (evS (TZ w b) 1)) it v=pure ():=kf
theorem Z7o:evB (TZ w b) 0=.Assign [.Name "texts" (Yg (Y0 (evB (TZ w b) 0)))] (.ListComp (Zh (Ut (TZ w b))) [⟨Zf (Ut (TZ w b)) 0,Ze (Ut (TZ w b)) 0,[],0⟩] (Zc (Ut (TZ w b))) (Ye (Ut (TZ w b)))) (Y5 (evB (TZ w b) 0)):=kf
theorem Z78 (fr cr:Nat):swapsWith (.ListComp (Zh (Ut (TZ w b))) [⟨Zf (Ut (TZ w b)) 0,Ze (Ut (TZ w b)) 0,[],0⟩] (Zc (Ut (TZ w b))) (Ye (Ut (TZ w b)))) (some (.Name "texts" (Yg (Y0 (evB (TZ w b) 0))))) (Y5 (evB (TZ w b) 0)).line (Yx (TZ w b) fr cr)=pure false:=kf
theorem Yaj:evB (TZ w b) 1=.Assign [.Name "rows" (Yg (Y0 (evB (TZ w b) 1)))] (.ListComp (Zh (U0 (TZ w b))) [⟨Zf (U0 (TZ w b)) 0,Ze (U0 (TZ w b)) 0,[],0⟩,⟨Zf (U0 (TZ w b)) 1,Ze (U0 (TZ w b)) 1,[],0⟩] (Zc (U0 (TZ w b))) (Ye (U0 (TZ w b)))) (Y5 (evB (TZ w b) 1)):=kf
theorem Z7c (fr cr:Nat):swapsWith (.ListComp (Zh (U0 (TZ w b))) [⟨Zf (U0 (TZ w b)) 0,Ze (U0 (TZ w b)) 0,[],0⟩,⟨Zf (U0 (TZ w b)) 1,Ze (U0 (TZ w b)) 1,[],0⟩] (Zc (U0 (TZ w b))) (Ye (U0 (TZ w b)))) (some (.Name "rows" (Yg (Y0 (evB (TZ w b) 1))))) (Y5 (evB (TZ w b) 1)).line (Yx (TZ w b) fr cr)=pure true:=kf
theorem Z7e:Y0 (evB (TZ w b) 1)=.Name "rows" (Yg (Y0 (evB (TZ w b) 1))):=kf
theorem Z9u:evS (TZ w b) 2=.Return (some (M6 (evS (TZ w b) 2))) (Y5 (evS (TZ w b) 2)):=kf
theorem Z4x:Na (Zc (Ut (TZ w b)))=true:=kf
theorem Zz5:Na (Zc (U0 (TZ w b)))=true:=kf
theorem Z04:Na (Zc (Vm (TZ w b)))=true:=kf
theorem Zzk (fr cr:Nat):closureFor (Zc (Ut (TZ w b))) (Yx (TZ w b) fr cr)=pure []:=kf
theorem Z2z (fr cr:Nat):closureFor (Zc (U0 (TZ w b))) (Yx (TZ w b) fr cr)=pure (Zvz cr):=kf
theorem Z3b (fr cr:Nat):closureFor (Zc (Vm (TZ w b))) (Yx (TZ w b) fr cr)=pure []:=kf
theorem Z7i (qq:Env) (x:Value):foldedSetIterable (Ze (Ut (TZ w b)) 0) qq x=pure x:=kf
theorem Z76 (qq:Env) (x:Value):foldedSetIterable (Ze (U0 (TZ w b)) 0) qq x=pure x:=kf
theorem ev_f2' (qq:Env) (x:Value):foldedSetIterable (Ze (U0 (TZ w b)) 1) qq x=pure x:=kf
theorem Z75 (qq:Env) (x:Value):foldedSetIterable (Ze (Vm (TZ w b)) 0) qq x=pure x:=kf
theorem ev_f3' (qq:Env) (x:Value):foldedSetIterable (Ze (Vm (TZ w b)) 1) qq x=pure x:=kf
theorem Z93 (I:Addr) (v:Value):letOwnedTupleGo (Zf (Ut (TZ w b)) 0) (.ref I) v=pure ():=kf
theorem Z83 (I:Addr) (v:Value):letOwnedTupleGo (Zf (U0 (TZ w b)) 0) (.ref I) v=pure ():=kf
theorem ev_g2' (I:Addr) (v:Value):letOwnedTupleGo (Zf (U0 (TZ w b)) 1) (.ref I) v=pure ():=kf
theorem Z7g (I:Addr) (v:Value):letOwnedTupleGo (Zf (Vm (TZ w b)) 0) (.ref I) v=pure ():=kf
theorem ev_g3' (I:Addr) (v:Value):letOwnedTupleGo (Zf (Vm (TZ w b)) 1) (.ref I) v=pure ():=kf
theorem Z6a:Ze (Ut (TZ w b)) 0=.Call (.Name "_law_orders" (Yg (Zk (Ze (Ut (TZ w b)) 0)))) [Zo (Ze (Ut (TZ w b)) 0) 0] [] (Yv (Ze (Ut (TZ w b)) 0)):=kf
theorem Zy5:Zk (Ze (Ut (TZ w b)) 0)=.Name "_law_orders" (Yg (Zk (Ze (Ut (TZ w b)) 0))):=kf
theorem Z3n (qq:Env):backTo (Yv (Ze (Ut (TZ w b)) 0)) (starEach [Zo (Ze (Ut (TZ w b)) 0) 0] qq)=[(false,eval (Zo (Ze (Ut (TZ w b)) 0) 0) qq)]:=kf
theorem Z72:Ze (Vm (TZ w b)) 1=.Call (.Name "_law_orders" (Yg (Zk (Ze (Vm (TZ w b)) 1)))) [Zo (Ze (Vm (TZ w b)) 1) 0] [] (Yv (Ze (Vm (TZ w b)) 1)):=kf
theorem Zzd:Zk (Ze (Vm (TZ w b)) 1)=.Name "_law_orders" (Yg (Zk (Ze (Vm (TZ w b)) 1))):=kf
theorem Z3v (qq:Env):backTo (Yv (Ze (Vm (TZ w b)) 1)) (starEach [Zo (Ze (Vm (TZ w b)) 1) 0] qq)=[(false,eval (Zo (Ze (Vm (TZ w b)) 1) 0) qq)]:=kf
theorem Gx {us:List α} (h:us.length<=3):(M2 us).length<=6:=by
 unfold M2
 rw [Md _ _ rfl]
 exact (by decide:∀ n,n < 4->fac n<=6) _ (by exact Zd8 h (by decide))
theorem Z87:Vm (TZ w b)=.ListComp (Zh (Vm (TZ w b))) [⟨Zf (Vm (TZ w b)) 0,Ze (Vm (TZ w b)) 0,[],0⟩,⟨Zf (Vm (TZ w b)) 1,Ze (Vm (TZ w b)) 1,[],0⟩] (Zc (Vm (TZ w b))) (Ye (Vm (TZ w b))):=kf
theorem Zor (hf:AOk A2 none 70) (G:Ground T2 (wb w b) H) {ln:Nat} {X:Od} (h1:X.us.length<=3) (h2:∀ u∈X.us,u.length<=1000)
  (O:Own H ((fr,Vv (HZ w b) ft ln rw (some X.a))::X.o::(762,Z9 773 20 (some c))::l) h)
  (hQ:∀ acc tk ea c' h' t' g',Own H ((acc,Za (wsV (((M2 X.us).map Zg).map S) tk) ea)::(fr,Vv (HZ w b) ft ln rw (some X.a))::X.o::(762,Z9 773 20 (some c'))::l) h'->t<=t'->Zq true g g'->Q (.ref acc) (r.at h' ⟨t',g'⟩)) :
  wpAny (model prog (wb w b)) A2 (eval (.ListComp (Zh (Ut (TZ w b))) [⟨Zf (Ut (TZ w b)) 0,Ze (Ut (TZ w b)) 0,[],0⟩] (Zc (Ut (TZ w b))) (Ye (Ut (TZ w b)))) (Yx (TZ w b) fr cr)) Q E (r.at h ⟨t,g⟩):=by
 have qE:10000000<=sizeLine:=by decide +kernel
 obtain ⟨c1,c2,c3⟩:=Yh (Z4x (w:=w) (b:=b))
 rw [Zvm]
 refine J8 (g0:=⟨Zf (Ut (TZ w b)) 0,Ze (Ut (TZ w b)) 0,[],0⟩) rfl (fun x=>Z7i _ x) (Zzk fr cr) c2 c3 ?_
 refine eqT (Yr (fun e=>eval e (Yx (TZ w b) fr cr)) (Z6a (w:=w) (b:=b)).symm) ?_
 refine Zi2 ?_
 refine eqT (Yr (fun e=>eval e (Yx (TZ w b) fr cr)) (Zy5 (w:=w) (b:=b))) ?_
 refine go (Zzw fr cr) G hf O fun x1 h1' t1 g1 O1 qK qD=>?_
 rw [Z3n]
 obtain ⟨of,hof,hdf⟩:=Pl.mp (Z5c (w:=w) (b:=b))
 refine Q6q (o:=of) (fd:=Z7 (TZ w b) 809) (Q7q (Q8q ?_))
 refine go (Zzn fr cr ft ln rw X.a) G hf O1 fun x2 h2' t2 g2 O2 qN qF=>?_
 refine Q9q ⟨⟨O2.keep _ _ (G.top _ _ hof),(Yc hdf).1⟩,?_⟩
 have O2:Own H (X.o::((fr,Vv (HZ w b) ft ln rw (some X.a))::(762,Z9 773 20 (some c))::l)) h2':=O2.perm (.swap _ _ _)
 refine Zcn X.us.length (by exact Zn h1 (by decide)) (hf.le (by lia)) G (us:=X.us) (tw:=X.tk) (rw:=X.a) (ep:=X.ep) rfl O2 fun sub ss es h3 t3 g3 hss O3 qx qz=>?_
 have hsl:ss.length=(M2 X.us).length:=by have:=Yr List.length hss; rwa [Z0] at this
 have hlen3:(M2 X.us).length<=6:=Gx h1
 refine Mj (r:=r) (H:=H) hf.hand (Xu (lst:=sub) (xs:=ss.map Od.v) (ep:=es)) c1 (fun I v=>Z93 I v) (fun st:Option (Nat×Addr)×Nat=>xV (HZ w b) "order" (okO st.1)) (fun st=>[(762,Z9 773 20 (some st.2))])
  (fun j st ys=>∃ tk,ys=wsV ((((M2 X.us).take j).map Zg).map S) tk) (t₀:=t3) (g₀:=g3) (l:=(sub,Za (ss.map Od.v) es)::(Yd ss++(X.o::((fr,Vv (HZ w b) ft ln rw (some X.a))::l)))) (fun p hp=>by rw [Ur.mp hp]; exact .head _) (K:=1000) (by decide)
  (fun j st ys hI hj=>?_) (fun C j v st ys m h4 t4 g4 Q E hj hv hI O4 qB qw hQ=>?_) (fun C acc st ys ea h4 t4 g4 hI O4 qB qw=>?_) (st:=(none,c)) rfl ⟨fun _=>0,rfl⟩ (O3.perm (by
   exact pm [_,_,_,_] [_,_] 243487818114 3976006654231937)) (Y9 _) (Zq.refl true _)
 ·obtain ⟨tk,rfl⟩:=hI
  rw [Zac,Z0,Zbg]
  lia
 ·rw [Z0] at hj
  obtain ⟨tk,rfl⟩:=hI
  obtain ⟨o,c4⟩:=st
  have hx:ss[j]?=some ss[j]:=Vp hj
  have hv':v=.ref ss[j].a:=by
   rw [Zbl,hx] at hv
   exact (Zfs hv).symm
  have hxu:(M2 X.us)[j]?=some ss[j].us:=by rw [← hss,Zbl,hx]; rfl
  generalize ss[j]=Y at hx hv' hxu
  subst hv'
  obtain ⟨rest,hp⟩:=Y4 hx
  have hY:=Zdb (Nl hxu)
  refine Zcf.plain ?_
  refine go (Z3r C fr cr o Y.a) G hf O4 fun x5 h5 t5 g5 O5 qy qv=>?_
  have O5':Own H (((C,xV (HZ w b) "order" (some (x5.nat 2,.ref Y.a)))::(762,Z9 773 20 (some c4))::(Y.a,Za (wsV (Y.us.map S) Y.tk) Y.ep)::((sub,Za (ss.map Od.v) es)::(rest++(X.o::(fr,Vv (HZ w b) ft ln rw (some X.a))::(l++m)))))) h5:=O5.perm (by
   refine (((((hp.append_right _).cons _).append_right _).cons _).cons _).trans ?_
   exact pm [_,_,_,_,_,_] [_,_,_] 11871712689800517534338 724028888749097602)
  refine go (Z3h C fr cr (x5.nat 2) Y.a c4 Y.us Y.tk Y.ep (by rw [hY.1]; exact Zn h1 (by decide)) (fun u hu=>by have:=h2 u (hY.2 u hu); exact Zn this (by decide))) G hf O5' fun x6 h6 t6 g6 O6 qG qC=>?_
  refine hQ (some (.str (S (Zg Y.us)) (x6.nat 2))) (some (x5.nat 2,Y.a),x6.nat 3) h6 t6 g6 ⟨Ja (((M2 X.us).take j).map Zg).length tk fun _=>x6.nat 2,?_⟩ (O6.perm ?_) (by exact (Zn qy qG)) (gtr qv qC)
  ·have e:((M2 X.us).take (j+1)).map Zg=((M2 X.us).take j).map Zg++[Zg Y.us]:=by
    rw [Zbv,hxu,J3]; rfl
   rw [e,Ud]
   rfl
  ·show List.Perm ((C,xV (HZ w b) "order" (some (x5.nat 2,.ref Y.a)))::(762,Z9 773 20 (some (x6.nat 3)))::Y.o::((sub,Za (ss.map Od.v) es)::(rest++(X.o::(fr,Vv (HZ w b) ft ln rw (some X.a))::(l++m)))))
    ((C,xV (HZ w b) "order" (some (x5.nat 2,.ref Y.a)))::(762,Z9 773 20 (some (x6.nat 3)))::(((sub,Za (ss.map Od.v) es)::(Yd ss++(X.o::((fr,Vv (HZ w b) ft ln rw (some X.a))::l))))++m))
   refine List.Perm.trans ?_ (((((hp.append_right _).cons _).append_right _).cons _).cons _).symm
   exact pm [_,_,_,_,_,_] [_,_,_] 724028888755339906 11871712689697444610690
 ·obtain ⟨tk,rfl⟩:=hI
  obtain ⟨o,c4⟩:=st
  rw [Z0,Zni (by lia)] at O4
  refine J5 O4 (Zey _ _ _) fun h5 O5=>?_
  refine hQ acc tk ea c4 h5 t4 g4 (Own.drop (r:=(sub,Za (ss.map Od.v) es)::Yd ss) (O5.perm ?_)) (by exact (Zn qK (Zn qN (Zn qx qB)))) (gtr (gtr (gtr qD qF) qz) qw)
  exact pm [_,_,_,_,_] [_,_] 512332941351796866 2287226069418241
theorem Zys {N:Nat} (hf:AOk A2 none 30) (G:Ground T2 (wb w b) H) {C:Nat} {a:Addr} {st:Option (Nat×Addr×Option (Nat×(List Nat×Nat)))} {Q:Unit->Shared->Prop}
  (O:Own H ((C,x2V (HZ w b) "row" "text" (okW st))::l) h)
  (hQ:∀ t1 o h' t' g',Own H ((C,x2V (HZ w b) "row" "text" (okW (some (t1,a,o))))::l) h'->t<=t'->Zq true g g'->Q () (r.at h' ⟨t',g'⟩)) :
  wpAny (model prog (wb w b)) A2 (assign (Zf (U0 (TZ w b)) 0) (compEnvC (Zc (U0 (TZ w b))) (Zvz cr) C (Yx (TZ w b) fr cr)) (.ref a)) Q E (r.at h ⟨t,g⟩):=by
 rcases st with _ | ⟨t1,a1,_ | ⟨t2,W2,u2⟩⟩
 ·exact go (Zoq C fr cr a) G hf O fun x h3 t3 g3 O3 qx qz=>hQ (x.nat 2) none h3 t3 g3 O3 qx qz
 ·exact go (Zpb C fr cr t1 a1 a) G hf O fun x h3 t3 g3 O3 qx qz=>hQ (x.nat 2) none h3 t3 g3 O3 qx qz
 ·exact go (Zoo C fr cr t1 t2 a1 W2 u2 a) G hf O fun x h3 t3 g3 O3 qx qz=>hQ (x.nat 2) (some (x.nat 3,W2,u2)) h3 t3 g3 O3 qx qz
theorem Z14 (hf:AOk A2 none 30) (G:Ground T2 (wb w b) H) {C:Nat} {a:Addr} {o:Option (Nat×(List Nat×Nat))} {u:List Nat} {tu:Nat} {Q:Unit->Shared->Prop}
  (O:Own H ((C,x2V (HZ w b) "row" "text" (okW (some (t1,a,o))))::l) h)
  (hQ:∀ t1 t2 h' t' g',Own H ((C,x2V (HZ w b) "row" "text" (okW (some (t1,a,some (t2,u,tu)))))::l) h'->t<=t'->Zq true g g'->Q () (r.at h' ⟨t',g'⟩)) :
  wpAny (model prog (wb w b)) A2 (assign (Zf (U0 (TZ w b)) 1) (compEnvC (Zc (U0 (TZ w b))) (Zvz cr) C (Yx (TZ w b) fr cr)) (.str (S u) tu)) Q E (r.at h ⟨t,g⟩):=by
 rcases o with _ | ⟨t2,W2,u2⟩
 ·exact go (Zn3 C fr cr t1 a u tu) G hf O fun x h3 t3 g3 O3 qx qz=>hQ (x.nat 2) (x.nat 3) h3 t3 g3 O3 qx qz
 ·exact go (Zon C fr cr t1 t2 a W2 u2 u tu) G hf O fun x h3 t3 g3 O3 qx qz=>hQ (x.nat 2) (x.nat 3) h3 t3 g3 O3 qx qz
theorem Zu6 (hf:AOk A2 none 30) (G:Ground T2 (wb w b) H) {ln a tx:Nat} {R:List Od} {er:Nat} {tu:LM} {et:Nat} (h1:R.length<=1000) (h1':us.length<=1000) (h2:∀ x∈R,x.us.length<=1000) {Q:Flow->Shared->Prop}
  (O:Own H ((fr,Vv (HZ w b) ft ln rw (some a))::(cr,Zdn (some tx))::(tx,Za (wsV (us.map S) tu) et)::(rw,Za (R.map Od.v) er)::(Yd R++l)) h)
  (hQ:∀ ft nw R' er' h' t' g',R'.map Od.us=(R.map Od.us).flatMap (fun row=>us.map fun u=>row++[u])->Own H ((fr,Vv (HZ w b) ft ln nw (some a))::(cr,Zdn (some tx))::(nw,Za (R'.map Od.v) er')::(Yd R'++l)) h'->t<=t'->Zq true g g'->Q .next (r.at h' ⟨t',g'⟩)) :
  wpAny (model prog (wb w b)) A2 (exec (evB (TZ w b) 1) (Yx (TZ w b) fr cr)) Q E (r.at h ⟨t,g⟩):=by
 have qE:10000000<=sizeLine:=by decide +kernel
 obtain ⟨c1,c2,c3⟩:=Yh (Zz5 (w:=w) (b:=b))
 have hfl:∀ i,((R.map Od.us).take i |>.flatMap (fun row=>us.map fun u=>row++[u])).length=min i R.length * us.length:=fun i=>by
  rw [List.length_flatMap,Ny _ us.length _ fun row hr=>Z0 _,Zbg,Z0]
 have hmul:∀ i,i<=R.length->i * us.length<=1000000:=fun i hi=>(Nat.mul_le_mul (Zn hi h1) h1':_<=1000 * 1000)
 rw [Yaj]
 refine Mb (Z7c fr cr) ?_
 refine J8 (g0:=⟨Zf (U0 (TZ w b)) 0,Ze (U0 (TZ w b)) 0,[],0⟩) rfl (fun x=>Z76 _ x) (Z2z fr cr) c2 c3 ?_
 refine go (Z4q fr cr ft ln rw a) G hf O fun x1 h1x t1 g1 O1 qK qD=>?_
 refine Nu (r:=r) (H:=H) hf.hand (Xu (lst:=rw) (xs:=R.map Od.v) (ep:=er)) (fun C x=>ev_f2' _ x) c1 (fun I v=>Z83 I v) (fun st:WSt=>x2V (HZ w b) "row" "text" (okW st.1)) (fun st=>Yd st.2)
  (fun i st ys=>ys=st.2.map Od.v/\st.2.map Od.us=((R.map Od.us).take i).flatMap (fun row=>us.map fun u=>row++[u])) (t₀:=t1) (g₀:=g1) (l:=(rw,Za (R.map Od.v) er)::(Yd R++((cr,Zdn (some tx))::(tx,Za (wsV (us.map S) tu) et)::(fr,Vv (HZ w b) ft ln rw (some a))::l))) (fun p hp=>by rw [Ur.mp hp]; exact .head _)
  (fun C acc i v st ys ea m h4 t4 g4 K E hi hv hI O4 qB qw hK=>?_) (fun C acc st ys ea h4 t4 g4 hI O4 qB qw=>?_) (st:=(none,[])) rfl ⟨rfl,rfl⟩ (O1.perm (by
   exact pm [_,_,_,_] [_,_] 241346675330 3949721993527297)) (Y9 _) (Zq.refl true _)
 ·rw [Z0] at hi
  obtain ⟨rfl,hos⟩:=hI
  obtain ⟨st1,os⟩:=st
  obtain ⟨X,hX,rfl,hXu⟩:=Za0 hi hv
  have hXu:=hXu _ rfl
  have hXl:=h2 X (Nl hX)
  obtain ⟨rest,hp⟩:=Y4 hX
  have hos:os.map Od.us=_:=hos
  have hol:os.length=i * us.length:=by have:=Yr List.length hos; rwa [Z0,hfl,Nat.min_eq_left (by lia)] at this
  refine Zys (N:=0) hf G (O4.perm (.swap _ _ _)) fun t1' o h5 t5 g5 O5 qy qv=>?_
  have O5:Own H ((cr,Zdn (some tx))::((acc,Za (os.map Od.v) ea)::(((C,x2V (HZ w b) "row" "text" (okW (some (t1',X.a,o))))::Yd os)++((tx,Za (wsV (us.map S) tu) et)::X.o::(rest++((rw,Za (R.map Od.v) er)::(fr,Vv (HZ w b) ft ln rw (some a))::(l++m))))))) h5:=O5.perm (by
   refine ((((((hp.append_right _).cons _).append_right _).append_left _).cons _).cons _).trans ?_
   exact pm [_,_,_,_,_,_,_] [_,_,_,_] 252991497396895510790455938 1975314828788381935223438)
  refine goP (Zzj C fr cr tx) G hf O5 fun h6 t6 g6 O6 qG qC=>?_
  have O6:=O6.perm (pm [_,_,_,_,_,_,_] [_,_,_,_] 530244710898175694798094271004673 1975315477267044662116485)
  refine Gu (r:=r) (H:=H) hf.hand (Xu (lst:=tx) (xs:=wsV (us.map S) tu) (ep:=et)) (fun I v=>ev_g2' I v) (fun st:WSt=>(C,x2V (HZ w b) "row" "text" (okW st.1))::Yd st.2)
   (fun j st ys=>ys=st.2.map Od.v/\(∃ t1 o,st.1=some (t1,X.a,o))/\st.2.map Od.us=os.map Od.us++(us.take j).map fun u=>X.us++[u]) (t₀:=t6) (g₀:=g6)
   (l:=(tx,Za (wsV (us.map S) tu) et)::X.o::(cr,Zdn (some tx))::(rest++((rw,Za (R.map Od.v) er)::(fr,Vv (HZ w b) ft ln rw (some a))::(l++m)))) (fun p hp=>by rw [Ur.mp hp]; exact .head _) (K:=2000001) (by decide)
   (fun j st ys hI hj=>?_) (fun j v st ys m2 h7 t7 g7 Q E hj hv hI O7 qO qM hQ=>?_) (fun st ys ea7 h7 t7 g7 hI O7 qO qM=>?_) (st:=(some (t1',X.a,o),os)) ⟨rfl,⟨_,_,rfl⟩,by rw [List.take_zero,List.map_nil,Gf]⟩ O6 (Y9 _) (Zq.refl true _)
  ·rw [Zac] at hj
   obtain ⟨rfl,_,h2⟩:=hI
   have e:=Yr List.length h2
   rw [Z0,Vc,Z0,Z0,Zbg,hol] at e
   rw [Z0,e]
   have:=hmul i (by lia)
   lia
  ·rw [Zac] at hj
   obtain ⟨rfl,⟨t1'',o',hst⟩,h2'⟩:=hI
   obtain ⟨st1,os'⟩:=st
   obtain rfl:st1=some (t1'',X.a,o'):=hst
   obtain ⟨u,hu,rfl⟩:=Ji us tu j v hv
   refine Z14 hf G O7 fun t8' t9' h8 t8 g8 O8 qX qW=>?_
   have O8:=O8.perm (pm [_,_,_,_,_,_] [_,_,_,_,_] 2433283573534082776187266 19000804546198160589826)
   refine go (Z2n C fr cr t8' X.a t9' u (tu j) X.us X.tk X.ep hXl) G hf O8 fun x9 h9 t9 g9 O9 xk xq=>?_
   refine hQ (.ref (x9.nat 2)) (some (t8',X.a,some (t9',u,tu j)),os'++[⟨x9.nat 2,0,X.us++[u],Ja X.us.length X.tk fun _=>tu j⟩]) h9 t9 g9 ⟨by rw [J3]; rfl,⟨_,_,rfl⟩,?_⟩ (O9.perm ?_) (by exact (Zn qX xk)) (gtr qW xq)
   ·have h2':os'.map Od.us=_:=h2'
    rw [J3,h2',Zbv,hu,Option.toList_some,J3,Zdp]
    rfl
   ·show List.Perm ((x9.nat 2,Za (wsV ((X.us++[u]).map S) (Ja X.us.length X.tk fun _=>tu j)) 0)::(C,x2V (HZ w b) "row" "text" (some (t8',.ref X.a,some (t9',.str (S u) (tu j)))))::X.o::(Yd os'++((tx,Za (wsV (us.map S) tu) et)::(cr,Zdn (some tx))::(rest++((rw,Za (R.map Od.v) er)::(fr,Vv (HZ w b) ft ln rw (some a))::(l++(m++m2))))))) (((C,x2V (HZ w b) "row" "text" (some (t8',.ref X.a,some (t9',.str (S u) (tu j)))))::Yd (os'++[⟨x9.nat 2,0,X.us++[u],Ja X.us.length X.tk fun _=>tu j⟩]))++(((tx,Za (wsV (us.map S) tu) et)::X.o::(cr,Zdn (some tx))::(rest++((rw,Za (R.map Od.v) er)::(fr,Vv (HZ w b) ft ln rw (some a))::(l++m))))++m2))
    rw [Vu]
    exact pm [_,_,_,_,_,_,_] [_,_,_,_,_] 2432103199775101219373698 5102965969693322179054439285377
  ·obtain ⟨rfl,⟨t1'',o',hst⟩,h2'⟩:=hI
   obtain ⟨st1,os'⟩:=st
   obtain rfl:st1=some (t1'',X.a,o'):=hst
   refine hK (some (t1'',X.a,o'),os') _ ea7 h7 t7 g7 ⟨rfl,?_⟩ (O7.perm ?_) (by exact (Zn qy (Zn qG qO))) (gtr (gtr qv qC) qM)
   ·have h2':os'.map Od.us=_:=h2'
    rw [h2',hos,Zac,Zja,Zbv,hXu,Zz4]
    simp
   ·show List.Perm ((acc,Za (os'.map Od.v) ea7)::((_::Yd os')++_)) ((acc,Za (os'.map Od.v) ea7)::_::(Yd os'++(((rw,Za (R.map Od.v) er)::(Yd R++((cr,Zdn (some tx))::(tx,Za (wsV (us.map S) tu) et)::(fr,Vv (HZ w b) ft ln rw (some a))::l)))++m)))
    refine List.Perm.trans ?_ ((((((hp.append_right _).cons _).append_right _).append_left _).cons _).cons _).symm
    exact pm [_,_,_,_,_,_,_] [_,_,_,_] 1975315477319717335679106 252991414386547181513392770
 ·obtain ⟨rfl,hos⟩:=hI
  obtain ⟨st1,os⟩:=st
  have hos:os.map Od.us=_:=hos
  rw [Z0,Zni (by rw [Z0]; exact Y9 _)] at hos
  refine V6 (H:=H) (r:=r) ?_
  rw [← Z7e]
  refine goW (Z1d fr cr ft ln rw a acc) G hf O4 (rest:=(C,x2V (HZ w b) "row" "text" (okW st1))::(acc,Za (os.map Od.v) ea)::(Yd os++((rw,Za (R.map Od.v) er)::(Yd R++((cr,Zdn (some tx))::(tx,Za (wsV (us.map S) tu) et)::l))))) (fun x5 h5 t5 g5 O5 qy qv=>?_) (hp:=?_)
  ·refine ⟨_,_,h5,t5,g5,rfl,Zbw _ _ _ _,O5.perm (.swap _ _ _),fun h6 O6=>hQ (fun j=>x5.nat (j+2)) acc os ea h6 t5 g5 hos (Own.drop (r:=(tx,Za (wsV (us.map S) tu) et)::(rw,Za (R.map Od.v) er)::Yd R) (O6.perm ?_)) (by exact (Zn qK (Zn qB qy))) (gtr (gtr qD qw) qv)⟩
   exact pm [_,_,_,_,_] [_,_,_] 5691451769930370 508968674957377793
  ·show List.Perm (_::_::(Yd os++((rw,Za (R.map Od.v) er)::(Yd R++((cr,Zdn (some tx))::(tx,Za (wsV (us.map S) tu) et)::(fr,Vv (HZ w b) ft ln rw (some a))::l))))) ([(fr,Vv (HZ w b) ft ln rw (some a))]++_)
   exact pm [_,_,_,_,_,_] [_,_,_] 730208041823158914 11935839462213015308417
theorem Z4j (hf:AOk A2 none 30) (G:Ground T2 (wb w b) H) {C:Nat} {a:Addr} {st:Option (Nat×Addr×Option (Nat×Addr))} {Q:Unit->Shared->Prop}
  (O:Own H ((C,x2V (HZ w b) "row" "order" (okR st))::l) h)
  (hQ:∀ t1 o h' t' g',Own H ((C,x2V (HZ w b) "row" "order" (okR (some (t1,a,o))))::l) h'->t<=t'->Zq true g g'->Q () (r.at h' ⟨t',g'⟩)) :
  wpAny (model prog (wb w b)) A2 (assign (Zf (Vm (TZ w b)) 0) (compEnvC (Zc (Vm (TZ w b))) [] C (Yx (TZ w b) fr cr)) (.ref a)) Q E (r.at h ⟨t,g⟩):=by
 rcases st with _ | ⟨t1,a1,_ | ⟨t2,a2⟩⟩
 ·exact goW (Zo5 C fr cr a) G hf O fun x h3 t3 g3 O3 qx qz=>hQ (x.nat 2) none h3 t3 g3 O3 qx qz
 ·exact goW (Zol C fr cr t1 a1 a) G hf O fun x h3 t3 g3 O3 qx qz=>hQ (x.nat 2) none h3 t3 g3 O3 qx qz
 ·exact goW (Zpn C fr cr t1 t2 a1 a2 a) G hf O fun x h3 t3 g3 O3 qx qz=>hQ (x.nat 2) (some (x.nat 3,a2)) h3 t3 g3 O3 qx qz
theorem Z2m (hf:AOk A2 none 30) (G:Ground T2 (wb w b) H) {C:Nat} {a a0:Addr} {o:Option (Nat×Addr)} {Q:Unit->Shared->Prop}
  (O:Own H ((C,x2V (HZ w b) "row" "order" (okR (some (t1,a,o))))::l) h)
  (hQ:∀ t1 t2 h' t' g',Own H ((C,x2V (HZ w b) "row" "order" (okR (some (t1,a,some (t2,a0)))))::l) h'->t<=t'->Zq true g g'->Q () (r.at h' ⟨t',g'⟩)) :
  wpAny (model prog (wb w b)) A2 (assign (Zf (Vm (TZ w b)) 1) (compEnvC (Zc (Vm (TZ w b))) [] C (Yx (TZ w b) fr cr)) (.ref a0)) Q E (r.at h ⟨t,g⟩):=by
 rcases o with _ | ⟨t2,a2⟩
 ·exact goW (Zqe C fr cr t1 a a0) G hf O fun x h3 t3 g3 O3 qx qz=>hQ (x.nat 2) (x.nat 3) h3 t3 g3 O3 qx qz
 ·exact goW (Zo0 C fr cr t1 t2 a a2 a0) G hf O fun x h3 t3 g3 O3 qx qz=>hQ (x.nat 2) (x.nat 3) h3 t3 g3 O3 qx qz
noncomputable abbrev RSt:=(Option (Nat×Addr×Option (Nat×Addr)))×Nat
theorem Zso (hf:AOk A2 none 70) (G:Ground T2 (wb w b) H) {ln:Nat} {o:Option Addr} {R:List Od} {er:Nat} (h1:R.length<=1000) (h2:∀ x∈R,x.us.length<=3/\∀ u∈x.us,u.length<=100000)
  (O:Own H ((fr,Vv (HZ w b) ft ln rw o)::(762,Z9 773 20 (some c))::(rw,Za (R.map Od.v) er)::(Yd R++l)) h)
  (hQ:∀ acc tk ea c' h' t' g',Own H ((acc,Za (wsV (((R.map Od.us).flatMap fun row=>(M2 row).map Zg).map S) tk) ea)::(762,Z9 773 20 (some c'))::l) h'->t<=t'->Zq true g g'->Q (.ref acc) (r.at h' ⟨t',g'⟩)) :
  wpAny (model prog (wb w b)) A2 (eval (M6 (evS (TZ w b) 2)) (Yx (TZ w b) fr cr)) Q E (r.at h ⟨t,g⟩):=by
 have qE:10000000<=sizeLine:=by decide +kernel
 obtain ⟨c1,c2,c3⟩:=Yh (Z04 (w:=w) (b:=b))
 have hle:∀ L:List (LD),(∀ x∈L,x.length<=3)->(L.flatMap fun row=>(M2 row).map Zg).length<=L.length * 6:=fun L hL=>by
  induction L with
  | nil=>exact Y9 _
  | cons x L ih =>
   rw [List.flatMap_cons,Vc,Z0,V7]
   have:=ih fun y hy=>hL y (.tail _ hy)
   have:=Gx (hL x (.head _))
   lia
 show wpAny _ A2 (eval (Vm (TZ w b)) _) _ _ _
 rw [Z87,Zvm]
 refine J8 (g0:=⟨Zf (Vm (TZ w b)) 0,Ze (Vm (TZ w b)) 0,[],0⟩) rfl (fun x=>Z75 _ x) (Z3b fr cr) c2 c3 ?_
 refine goP (Z1g fr cr ft ln rw o) G hf O fun h1x t1 g1 O1 qK qD=>?_
 refine Nu (r:=r) (H:=H) hf.hand (Xu (lst:=rw) (xs:=R.map Od.v) (ep:=er)) (fun C x=>ev_f3' _ x) c1 (fun I v=>Z7g I v) (fun st:RSt=>x2V (HZ w b) "row" "order" (okR st.1)) (fun st=>[(762,Z9 773 20 (some st.2))])
  (fun i st ys=>∃ tk,ys=wsV ((((R.map Od.us).take i).flatMap fun row=>(M2 row).map Zg).map S) tk) (t₀:=t1) (g₀:=g1) (l:=(rw,Za (R.map Od.v) er)::(Yd R++((fr,Vv (HZ w b) ft ln rw o)::l))) (fun p hp=>by rw [Ur.mp hp]; exact .head _)
  (fun C acc i v st ys ea m h4 t4 g4 K E hi hv hI O4 qB qw hK=>?_) (fun C acc st ys ea h4 t4 g4 hI O4 qB qw=>?_) (st:=(none,c)) rfl ⟨fun _=>0,rfl⟩ (O1.perm (by
   exact pm [_,_,_] [_,_] 506127364300750849 30855867138689)) (Y9 _) (Zq.refl true _)
 ·rw [Z0] at hi
  obtain ⟨tk,rfl⟩:=hI
  obtain ⟨st1,c4⟩:=st
  obtain ⟨X,hX,rfl,hXu⟩:=Za0 hi hv
  have hXu:=hXu _ rfl
  obtain ⟨hXl,hXw⟩:=h2 X (Nl hX)
  obtain ⟨rest,hp⟩:=Y4 hX
  have hcut:=hle ((R.map Od.us).take i) fun x hx=>by
   obtain ⟨y,hy,rfl⟩:=Uo.mp (Z1v hx)
   exact (h2 y hy).1
  rw [Zbg,Z0,Nat.min_eq_left (by lia)] at hcut
  generalize hP:((R.map Od.us).take i).flatMap (fun row=>(M2 row).map Zg)=P at *
  refine Z4j (hf.le (by decide)) G (O4.perm (.swap _ _ _)) fun t1' o1 h5 t5 g5 O5 qy qv=>?_
  refine eqT (Yr (fun e=>eval e (compEnvC (Zc (Vm (TZ w b))) [] C (Yx (TZ w b) fr cr))) (Z72 (w:=w) (b:=b)).symm) ?_
  refine Zi2 ?_
  refine eqT (Yr (fun e=>eval e (compEnvC (Zc (Vm (TZ w b))) [] C (Yx (TZ w b) fr cr))) (Zzd (w:=w) (b:=b))) ?_
  refine goP (Zu4 C fr cr) G hf O5 fun h6 t6 g6 O6 qG qC=>?_
  rw [Z3v]
  obtain ⟨of,hof,hdf⟩:=Pl.mp (Z5c (w:=w) (b:=b))
  refine Q6q (o:=of) (fd:=Z7 (TZ w b) 809) (Q7q (Q8q ?_))
  refine goP (Zua C fr cr t1' X.a o1) G hf O6 (fun h7 t7 g7 O7 qO qM=>?_) (hp:=.refl _)
  have O7:Own H (X.o::(((C,x2V (HZ w b) "row" "order" (okR (some (t1',X.a,o1))))::(acc,Za (wsV (P.map S) tk) ea)::(762,Z9 773 20 (some c4))::(rw,Za (R.map Od.v) er)::(fr,Vv (HZ w b) ft ln rw o)::(rest++(l++m))))) h7:=O7.perm (by
   refine ((((((hp.append_right _).cons _).append_right _).append_left _).cons _).cons _).trans ?_
   exact pm [_,_,_,_,_,_] [_,_,_] 194506049190961491264684674 723967421324542222)
  refine Q9q ⟨⟨O7.keep _ _ (G.top _ _ hof),(Yc hdf).1⟩,?_⟩
  refine Zcn X.us.length (by exact Zn hXl (by decide)) (hf.le (by lia)) G (us:=X.us) (tw:=X.tk) (rw:=X.a) (ep:=X.ep) rfl O7 fun sub ss es h8 t8 g8 hss O8 qX qW=>?_
  have hsl:ss.length=(M2 X.us).length:=by have:=Yr List.length hss; rwa [Z0] at this
  have hlen3:=Gx hXl
  show wpAny _ A2 (pyIter (.ref sub)) _ _ _
  refine Gu (r:=r) (H:=H) hf.hand (Xu (lst:=sub) (xs:=ss.map Od.v) (ep:=es)) (fun I v=>ev_g3' I v) (fun st:RSt=>[(C,x2V (HZ w b) "row" "order" (okR st.1)),(762,Z9 773 20 (some st.2))])
   (fun j st ys=>(∃ tk,ys=wsV ((P++((M2 X.us).take j).map Zg).map S) tk)/\∃ t1 o,st.1=some (t1,X.a,o)) (t₀:=t8) (g₀:=g8)
   (l:=(sub,Za (ss.map Od.v) es)::(Yd ss++(X.o::(rw,Za (R.map Od.v) er)::(fr,Vv (HZ w b) ft ln rw o)::(rest++(l++m))))) (fun p hp=>by rw [Ur.mp hp]; exact .head _) (K:=2000001) (by decide)
   (fun j st ys hI hj=>?_) (fun j v st ys m2 h9 t9 g9 Q E hj hv hI O9 xk xq hQ=>?_) (fun st ys ea9 h9 t9 g9 hI O9 xk xq=>?_) (st:=(some (t1',X.a,o1),c4)) ⟨⟨tk,by rw [List.take_zero,List.map_nil,Gf]⟩,_,_,rfl⟩ (O8.perm (by
    exact pm [_,_,_,_,_,_,_] [_,_,_,_] 15431145097472132596098 252823881271881479024148619)) (Y9 _) (Zq.refl true _)
  ·rw [Z0] at hj
   obtain ⟨⟨tk',rfl⟩,_⟩:=hI
   rw [Zac,Vc,Z0,Zbg]
   lia
  ·rw [Z0] at hj
   obtain ⟨⟨tk',rfl⟩,t1'',o',hst⟩:=hI
   obtain ⟨st1,c9⟩:=st
   obtain rfl:st1=some (t1'',X.a,o'):=hst
   obtain ⟨Y,hY,rfl,hYu⟩:=Za0 hj hv
   have hYu:=hYu _ hss
   obtain ⟨hYl,hYw⟩:=Zdb (Nl hYu)
   obtain ⟨rest2,hp2⟩:=Y4 hY
   refine Z2m (a0:=Y.a) (hf.le (by decide)) G O9 fun u1 u2 h10 t10 g10 O10 xw qZ=>?_
   have O10:Own H ((C,x2V (HZ w b) "row" "order" (some (u1,.ref X.a,some (u2,.ref Y.a))))::(762,Z9 773 20 (some c9))::(Y.a,Za (wsV (Y.us.map S) Y.tk) Y.ep)::(rest2++((sub,Za (ss.map Od.v) es)::X.o::(rw,Za (R.map Od.v) er)::(fr,Vv (HZ w b) ft ln rw o)::(rest++(l++(m++m2)))))) h10:=O10.perm (by
    show List.Perm ((C,x2V (HZ w b) "row" "order" (some (u1,.ref X.a,some (u2,.ref Y.a))))::(762,Z9 773 20 (some c9))::(((sub,Za (ss.map Od.v) es)::(Yd ss++(X.o::(rw,Za (R.map Od.v) er)::(fr,Vv (HZ w b) ft ln rw o)::(rest++(l++m)))))++m2)) (_::_::Y.o::_)
    refine (((((hp2.append_right _).cons _).append_right _).cons _).cons _).trans ?_
    exact pm [_,_,_,_,_,_,_] [_,_,_,_,_] 39866905138409121532916810370 2432102192706012255011458)
   refine go (Zw8 C fr cr u1 X.a u2 Y.a c9 Y.us Y.tk Y.ep (by lia) (fun u hu=>hXw u (hYw u hu))) G hf O10 fun x11 h11 t11 g11 O11 xu xy=>?_
   refine hQ (.str (S (Zg Y.us)) (x11.nat 2)) (some (u1,X.a,some (u2,Y.a)),x11.nat 3) h11 t11 g11 ⟨⟨Ja (P++((M2 X.us).take j).map Zg).length tk' fun _=>x11.nat 2,?_⟩,_,_,rfl⟩ (O11.perm ?_) (by exact (Zn xw xu)) (gtr qZ xy)
   ·have e:P++((M2 X.us).take (j+1)).map Zg=(P++((M2 X.us).take j).map Zg)++[Zg Y.us]:=by
     rw [Zbv,hYu,J3,Zdp]; rfl
    rw [e,Ud]
   ·show List.Perm ((C,x2V (HZ w b) "row" "order" (some (u1,.ref X.a,some (u2,.ref Y.a))))::(762,Z9 773 20 (some (x11.nat 3)))::Y.o::(rest2++((sub,Za (ss.map Od.v) es)::X.o::(rw,Za (R.map Od.v) er)::(fr,Vv (HZ w b) ft ln rw o)::(rest++(l++(m++m2))))))
     ([(C,x2V (HZ w b) "row" "order" (some (u1,.ref X.a,some (u2,.ref Y.a)))),(762,Z9 773 20 (some (x11.nat 3)))]++(((sub,Za (ss.map Od.v) es)::(Yd ss++(X.o::(rw,Za (R.map Od.v) er)::(fr,Vv (HZ w b) ft ln rw o)::(rest++(l++m)))))++m2))
    refine List.Perm.trans ?_ (((((hp2.append_right _).cons _).append_right _).cons _).cons _).symm
    exact pm [_,_,_,_,_,_,_] [_,_,_,_,_] 2432102192706013060268674 39866905138409121429843886722
  ·obtain ⟨⟨tk',rfl⟩,t1'',o',hst⟩:=hI
   obtain ⟨st1,c9⟩:=st
   obtain rfl:st1=some (t1'',X.a,o'):=hst
   rw [Z0,hsl,Zja] at O9
   refine hK (some (t1'',X.a,o'),c9) (wsV ((P++(M2 X.us).map Zg).map S) tk') ea9 h9 t9 g9 ⟨tk',?_⟩ (Own.drop (r:=(sub,Za (ss.map Od.v) es)::Yd ss) (O9.perm ?_)) (by exact (Zn qy (Zn qG (Zn qO (Zn qX xk))))) (gtr (gtr (gtr (gtr qv qC) qM) qW) xq)
   ·rw [Zbv,hXu,Zz4,hP,Option.toList_some,List.flatMap_cons,List.flatMap_nil,Gf]
   ·show List.Perm ((acc,_)::([_,(762,Z9 773 20 (some c9))]++_)) (((acc,_)::_::([(762,Z9 773 20 (some c9))]++(((rw,Za (R.map Od.v) er)::(Yd R++((fr,Vv (HZ w b) ft ln rw o)::l)))++m)))++_)
    refine List.Perm.trans ?_ (((((((hp.append_right _).cons _).append_right _).append_left _).cons _).cons _).append_right _).symm
    exact pm [_,_,_,_,_,_,_] [_,_,_,_] 252823881276948337829953666 165777698879701451695763499335937
 ·obtain ⟨tk,rfl⟩:=hI
  obtain ⟨st1,c4⟩:=st
  refine J5 O4 (Zbw _ _ _ _) fun h5 O5=>?_
  rw [Z0,Zni (by rw [Z0]; exact Y9 _)] at O5
  refine hQ acc tk ea c4 h5 t4 g4 (Own.drop (r:=(rw,Za (R.map Od.v) er)::(fr,Vv (HZ w b) ft ln rw o)::Yd R) (O5.perm ?_)) (by exact (Zn qK qB)) (gtr qD qw)
  exact pm [_,_,_,_] [_,_] 3989133412352130 17972305412353
structure Z9e where
 ft:LM
 rw:Addr
 R:List Od
 er:Nat
 o:Option Addr
 tx:Option Addr
 c:Addr
noncomputable def Z9e.ob (w:Hs) (fr cr ln:Addr) (s:Z9e):LC:=(fr,Vv w s.ft ln s.rw s.o)::(cr,Zdn s.tx)::(762,Z9 773 20 (some s.c))::(s.rw,Za (s.R.map Od.v) s.er)::Yd s.R
theorem Zcd {M:List (LD)} {i:Nat} {x:LD} (h:M[i]?=some x):Ni (M.take (i+1))=(Ni (M.take i)).flatMap fun row=>((M2 x).map Zg).map fun u=>row++[u]:=by
 unfold Ni
 rw [Zbv,h,List.foldl_append]
 rfl
theorem G5 {M:List (LD)} (h1:∀ x∈M,x.length<=3) (h2:∀ x∈M,∀ u∈x,u.length<=1000):∀ i,i<=M.length->(Ni (M.take i)).length<=6 ^ i/\∀ row∈Ni (M.take i),row.length=i/\∀ u∈row,u.length<=100000
 | 0,_=>⟨Y9 _,fun row h=>by rw [Ur.mp (show row∈[[]] from h)]; exact ⟨rfl,fun u hu=>nomatch hu⟩⟩
 | i+1,hi=>by
  obtain ⟨a,c⟩:=G5 h1 h2 i (by lia)
  have hx:M[i]?=some M[i]:=Vp (by assumption)
  have hm:=Nl hx
  rw [Zcd hx]
  have ho:=Gx (h1 _ hm)
  refine ⟨?_,fun row hr=>?_⟩
  ·rw [List.length_flatMap,Ny _ (M2 M[i]).length _ fun row hr=>by rw [Z0,Z0],Nat.pow_succ]
   exact Nat.mul_le_mul a ho
  ·obtain ⟨r0,hr0,hr⟩:=Zqx.mp hr
   obtain ⟨u,hu,rfl⟩:=Uo.mp hr
   obtain ⟨q,hq,rfl⟩:=Uo.mp hu
   obtain ⟨b1,b2⟩:=c r0 hr0
   refine ⟨by rw [Vc,b1]; rfl,fun u hu=>?_⟩
   rcases Zhu.mp hu with hu | hu
   ·exact b2 u hu
   ·rw [Ur.mp hu]
    obtain ⟨e1,e2⟩:=Zdb hq
    have hj:=Mg q 1000 fun u hu=>h2 _ hm u (e2 u hu)
    have:=Zv7 (5 * 1000+3) (show q.length<=3 by rw [e1]; exact h1 _ hm)
    lia
theorem Zih (hA:AOk A none 71) (G:Ground T2 (wb w b) H) {L:List Od} {ln:Nat} (h1:L.length<=3) (h2:∀ x∈L,x.us.length<=3/\∀ u∈x.us,u.length<=1000)
  (O:Own H ((762,Z9 773 20 (some c))::(ln,Za (L.map Od.v) el)::(Yd L++l)) h)
  (hQ:∀ acc tk ea c' h' t' g',Own H ((acc,Za (wsV ((Zci (L.map Od.us)).map S) tk) ea)::(762,Z9 773 20 (some c'))::(ln,Za (L.map Od.v) el)::(Yd L++l)) h'->t<=t'->Zq true g g'->Q (.ref acc) (r.at h' ⟨t',g'⟩)) :
  wpAny (model prog (wb w b)) A (call (.ref 814) [.ref ln]) Q E (r.at h ⟨t,g⟩):=by
 obtain ⟨o,ho,hd⟩:=Pl.mp (Ybj (w:=w) (b:=b))
 have hrows:=G5 (M:=L.map Od.us) (fun x hx=>by obtain ⟨y,hy,rfl⟩:=Uo.mp hx; exact (h2 y hy).1) (fun x hx=>by obtain ⟨y,hy,rfl⟩:=Uo.mp hx; exact (h2 y hy).2)
 have hM:(L.map Od.us).length=L.length:=Z0 _
 have h6:∀ i,i<=3->6 ^ i<=216:=fun i hi=>(by decide:∀ i,i < 4->6 ^ i<=216) i (by exact Zd8 hi (by decide))
 refine U7 (O.keep _ _ (G.top _ _ ho)) hd Zun (N:=70) hA ?_
 refine go (Z37 ln) G (AOk.bare (n:=70) (hA.under (Zr rfl)) (Y9 _)) O fun x1 h1' t1 g1 O1 qK qD=>⟨G.nolimit.keeps O1.keep,?_⟩
 generalize h.objs.size=fr at O1 ⊢
 have O1:Own H ((fr,frO #[ent (HZ w b) "lines" (x1.nat 2) (.ref ln)] 1 #[])::(fr+1,X4)::((762,Z9 773 20 (some c))::(ln,Za (L.map Od.v) el)::(Yd L++l))) h1':=O1
 generalize fr+1=cr at O1
 generalize x1.nat 2=t0 at O1
 have hf:AOk (A.under (.func [evS (TZ w b) 0,evS (TZ w b) 1,evS (TZ w b) 2] (Yx (TZ w b) fr cr))) none 70:=AOk.bare (n:=70) (hA.under (Zr rfl)) (Y9 _)
 generalize A.under (.func [evS (TZ w b) 0,evS (TZ w b) 1,evS (TZ w b) 2] (Yx (TZ w b) fr cr))=A2 at hf
 show wpAny _ A2 (execs _ (Yx (TZ w b) fr cr)) _ _ _
 rw [Zw,← Z5]
 refine Zi ?_
 refine go (Z29 fr cr t0 ln) G hf O1 (fun x2 h2' t2 g2 O2 qN qF=>?_) (hT:=fun n t=>by dsimp only [tG]; rw [Yk])
 generalize h1'.objs.size=n2 at O2 ⊢
 have O2:Own H ((n2,Za [] 0)::(n2+1,Za [.ref n2] 0)::(fr,Vv (HZ w b) (fun j=>x2.nat (j+2)) ln (n2+1) none)::((cr,X4)::(762,Z9 773 20 (some c))::(ln,Za (L.map Od.v) el)::(Yd L++l))) h2':=O2
 generalize (fun j=>x2.nat (j+2))=ft at O2
 show wpAny _ A2 (execs [evS (TZ w b) 1,evS (TZ w b) 2] (Yx (TZ w b) fr cr)) _ _ _
 rw [Zw]
 refine Zi ?_
 rw [Z0x,Nj]
 refine Zi (Zd2 (Zi ?_))
 refine go (Zzc fr cr ft ln (n2+1) (L.map Od.v) el) G hf O2 (rest:=[(n2,Za [] 0),(n2+1,Za [.ref n2] 0),(cr,X4),(762,Z9 773 20 (some c))]++(Yd L++l)) (fun x3 h3 t3 g3 O3 qx qz=>?_) (hp:=by
  exact pm [_,_,_,_,_,_] [_,_] 3954431710331522 1061352882045778001150977) (hT:=fun n t=>by dsimp only [tG]; rw [Xy,Zgi,Mi])
 generalize h2'.objs.size=it at O3 ⊢
 refine wpAny_runOwn ?_
 refine Zcv (r:=r) (H:=H) (lst:=ln) (xs:=L.map Od.v) (ep:=el) (it:=it) (oi:=Ge ln 0) hf.hand (fun v=>Z1p _ v) (Z9e.ob (HZ w b) fr cr ln) (fun i st=>st.R.map Od.us=Ni ((L.map Od.us).take i)) (l:=(ln,Za (L.map Od.v) el)::(Yd L++l)) (.head _) (t₀:=t3) (g₀:=g3)
  (fun i v st m h4 t4 g4 K E hv hI O4 qB qw hK=>?_) (fun st h4 t4 g4 hI O4 qB qw=>?_) (st:=⟨ft,n2+1,[⟨n2,0,[],fun _=>0⟩],0,none,none,c⟩) rfl ⟨rfl,rfl⟩ (O3.perm (by
   exact pm [_,_,_,_,_,_,_] [_,_] 8291822795382293922434 8292387970749699276930)) (Y9 _) (Zq.refl true _)
 ·have hi:i < L.length:=by
   have:=(Zfj.mp hv).1
   rwa [Z0] at this
  obtain ⟨X,hX,rfl,hXu⟩:=Za0 hi hv
  have hXu:=hXu _ rfl
  obtain ⟨hXl,hXw⟩:=h2 X (Nl hX)
  obtain ⟨rest,hp⟩:=Y4 hX
  obtain ⟨ft4,rw4,R,er,o4,tx4,c4⟩:=st
  have hI:R.map Od.us=_:=hI
  obtain ⟨hr1,hr2⟩:=hrows i (by lia)
  rw [← hI] at hr1 hr2
  have hRl:R.length<=216:=by have:=h6 i (by lia); rw [Z0] at hr1; exact (Zn hr1 this)
  have O4:Own H ((fr,Vv (HZ w b) ft4 ln rw4 o4)::(X.o::(762,Z9 773 20 (some c4))::((cr,Zdn tx4)::(rw4,Za (R.map Od.v) er)::(Yd R++((ln,Za (L.map Od.v) el)::(rest++(l++m))))))) h4:=O4.perm (by
   refine ((((hp.append_right _).cons _).append_right _).append_left _).trans ?_
   exact pm [_,_,_,_,_,_] [_,_,_,_] 252976148772974235058520321 120555794203867744386)
  refine goW (Zv1 fr cr ft4 ln rw4 o4 X.a) G hf O4 fun x5 h5 t5 g5 O5 qy qv=>?_
  rw [Zw,Z7o]
  refine Zi (Zo9 (hs:=Z78 fr cr) ?_)
  refine Zor hf G hXl hXw O5 fun tx tk et c6 h6' t6 g6 O6 qG qC=>?_
  have O6:=O6.perm (pm [_,_,_,_,_,_,_] [_,_,_,_] 15431145036003372302978 15431145070875566441102)
  refine goW (Z4y fr cr tx4 tx) G hf O6 fun x7 h7 t7 g7 O7 qO qM=>?_
  rw [Z5]
  refine Zu6 (hf.le (by decide)) G (R:=R) (us:=(M2 X.us).map Zg) (tu:=tk) (et:=et) (by exact Zn hRl (by decide)) (by rw [Z0]; have:=Gx hXl; exact Zn this (by decide)) (fun x hx=>by have:=(hr2 _ (Zdq hx)).1; lia) (O7.perm (.swap _ _ _)) fun ft8 nw R' er' h8 t8 g8 hR' O8 qX qW=>⟨rfl,?_⟩
  refine hK ⟨ft8,nw,R',er',some X.a,some tx,c6⟩ h8 t8 g8 (hR'.trans (by rw [hI,Zcd hXu])) (O8.perm ?_) (by exact (Zn qy (Zn qG (Zn qO qX)))) (gtr (gtr (gtr qv qC) qM) qW)
  refine List.Perm.trans ?_ ((((hp.append_right _).cons _).append_right _).append_left _).symm
  exact pm [_,_,_,_,_,_] [_,_,_,_] 120555807775960203906 252976093434430862997405953
 ·obtain ⟨ft4,rw4,R,er,o4,tx4,c4⟩:=st
  have hI:R.map Od.us=Ni ((L.map Od.us).take (L.map Od.v).length):=hI
  obtain ⟨hr1,hr2⟩:=hrows L.length (by lia)
  have e:(L.map Od.v).length=L.length:=Z0 _
  rw [e] at hI
  rw [← hI] at hr1 hr2
  have hRl:R.length<=216:=by have:=h6 L.length h1; rw [Z0] at hr1; exact (Zn hr1 this)
  rw [Z5,Z9u]
  refine Zru ?_
  refine Zso hf G (ft:=ft4) (o:=o4) (rw:=rw4) (ln:=ln) (R:=R) (er:=er) (c:=c4) (by exact Zn hRl (by decide)) (fun x hx=>by
   obtain ⟨q1,q2⟩:=hr2 _ (Zdq hx)
   exact ⟨by lia,q2⟩) (l:=(cr,Zdn tx4)::(ln,Za (L.map Od.v) el)::(Yd L++l)) (O4.perm ?_) fun acc tk ea c' h5 t5 g5 O5 qy qv=>?_
  ·show List.Perm (((fr,Vv (HZ w b) ft4 ln rw4 o4)::(cr,Zdn tx4)::(762,Z9 773 20 (some c4))::(rw4,Za (R.map Od.v) er)::Yd R)++_) _
   exact pm [_,_,_,_,_] [_,_,_] 724015353159565569 5656370198266882
  ·rw [hI,Zni (by rw [hM]; exact Y9 _)] at O5
   refine hQ acc tk ea c' h5 t5 g5 (Own.drop (r:=[(cr,Zdn tx4)]) (O5.perm ?_)) (by exact (Zn qK (Zn qN (Zn qx (Zn qB qy))))) (gtr (gtr (gtr (gtr qD qF) qz) qw) qv)
   exact pm [_,_,_,_] [_,_] 241346675330 35425718714625
end
end
theorem Z32 {xs:LH} {v:Value} (qE:xs.length<=sizeLine) (n t:Nat):Z6 T prog w n t (Z47 lst xs ep v):=by
 refine ⟨fun H h r g A R G hA O hs hR=>?_⟩
 refine M3 F.entry_list_append ?_
 rw [Q0q (by decide +kernel)]
 obtain ⟨ep',hep⟩:=Zb0 xs ep v
 have O':=O.update (Obj.mapSeq (·.push v)) (by rw [hep]; rfl)
 rw [hep] at O'
 refine AutoListH.list_append_list_val_0 lst ⟨xs⟩ ep v (by simpa using qE) prog w A R _ ⟨O.own _ (.head _),?_⟩
 exact hR ⟨fun j=>match j with | 2=>ep' | _=>0,fun _=>#[],fun _ _ _=>0,Ext.nil.ob⟩ (h.update lst (Obj.mapSeq (·.push v))) g O' (by rw [← hs]; exact (Zhz ..).1) (Zq.refl _ _)
section
section
theorem Z1b (sc:Nat):TK prog w b fun b n t=>tG [] (fun x=>[]) (fun x=>[(n,frO #[ent (HZ w b) "script" (x.nat 2) (.ref sc)] 1 #[])]) (Ua 780 (Z7 (TZ w b) 780) ⟨[.ref sc],[]⟩) (fun x=>.ok (Xe (TZ w b) n)) (md:=fun x=>1):=tkm [0] [0,1,1] exT 1
theorem Z2i (fr t0 sc:Nat):TK prog w b fun b n t=>tG [(fr,frO #[ent (HZ w b) "script" t0 (.ref sc)] 1 #[])] (fun x=>[(fr,Zr2 (HZ w b) (fun j=>x.nat (j+3)) sc (n+1) none)]) (fun x=>[(n,Za [.str (S []) (x.nat 2)] 0),(n+1,Za [.ref n] 0)]) (Xr [drS (TZ w b) 0] (Xe (TZ w b) fr)) (fun x=>.ok .next) (md:=fun x=>2):=tkm [1,0,2] [3,3] (fun _ _ l _=>exN fun j=>match j with | 0=>(match Nh (Z2 l 0) with | v::_=>Ju v | []=>0) | j+1=>Nb l 2 j) 2
theorem Zcr:∀ (l r:List Int) (t u:LM),Jh (l++r) (Ja l.length t u)=Jh l t++Jh r u
 | [],r,t,u=>by
  exact congrArg (Jh r) (funext fun k=>by unfold Ja; simp)
 | x::l,r,t,u=>by
  show Value.int x _::Jh (l++r) (fun k=>Ja (l.length+1) t u (k+1))=Value.int x (t 0)::(Jh l (fun k=>t (k+1))++Jh r u)
  rw [← Zcr l r (fun k=>t (k+1)) u]
  have e:(fun k=>Ja (l.length+1) t u (k+1))=Ja l.length (fun k=>t (k+1)) u:=funext fun k=>by unfold Ja; simp
  rw [e]
  rfl
theorem Zzg (fr:Nat) (ft:LM) (sc ln:Nat) (xs:LH) (ep:Nat) (ys:List Int) (tk:LM) (htake:xs.take 10=Jh ys tk) (hys:ys.length<=10) (hxs:xs.length<=sizeLine):TK prog w b fun b _ _=>tG [(fr,Zr2 (HZ w b) ft sc ln none),(sc,Za xs ep)] (fun x=>[(fr,Zr2 (HZ w b) ft sc ln none),(sc,Za xs ep)]) (fun x=>[(x.nat 2,Ge (x.nat 3) 0),(x.nat 3,Za (Jh (ys++Xd) (Ja ys.length tk (fun j=>x.nat (j+5)))) 0),(x.nat 4,Za (Jh Xd (fun j=>x.nat (j+5))) 0)]) (Zk2 Zj Z5b Pv (Pb (drS (TZ w b) 1)) (Xe (TZ w b) fr)) (fun x=>.ok (.ref (x.nat 2))) (k:=40):=by
 have qE:100000<=sizeLine:=by decide +kernel
 have hC:Z4 T2 prog (wb w b) [Zzq sc xs ep (Jh ys tk),Ya6 ys tk]:=Zb (fun n t c l bb=>by
  have z:=Zmd (T:=T2) (prog:=prog) (w:=wb w b) (lst:=sc) (sl:=Yj (Z8 c 1)) (xs:=xs) (ep:=ep) (lo:=none) (hi:=some 10) (vl:=.none) (vu:=.int 10 (match Z2 l 1 with | ⟨_,_,.fields f,_⟩=>Ju (Zjm f.toList 1) | _=>0)) .none (.int _ _) hxs n t
  have e:(slicePick ⟨xs⟩ none (some 10) none).toList=Jh ys tk:=(Vl xs 10).trans htake
  unfold Zaz at z
  rw [e] at z
  exact z) (Zb (fun n t c l bb=>by
  have z:=Px (T:=T2) (prog:=prog) (w:=wb w b) (a:=Yj (Z8 c 0)) (b:=Yj (Z8 c 1)) (xs:=Jh ys tk) (ys:=Jh Xd (Zd6 (Nh (Z2 l 1)))) (e1:=Jo (Z2 l 0)) (e2:=Jo (Z2 l 1)) (n:=n) (t:=t) (by rw [Xj,Xj]; show ys.length+6<=_; lia)
  unfold Je at z
  rw [← Zcr] at z
  exact z) Zd)
 exact tkc (cons:=fun b=>[Zzq sc xs ep (Jh ys tk),Ya6 ys tk]) hC [0,1,3,5,4] [1,3,3,3,0,3,1,2,2,0,0,2,1,2,0,2,2,2,1,0,0,1,1,0,1,0,1] (fun _ _ l _=>exN fun j=>match j with | 0=>Znc (oAt l 0) | 1=>Znc (oAt l 1) | 2=>Znc (oAt l 2) | j+3=>Zd6 (Nh (Z2 l 2)) j)
theorem Z2o (fr:Nat) (ft:LM) (sc ln:Nat) (Y:Int) (ty:Nat) (o:Option ((Int×Nat)×(Int×Nat)×(Int×Nat))):TK prog w b fun b _ _=>tW [(fr,Zr2 (HZ w b) ft sc ln o)] (fun x=>[(fr,Ybh (HZ w b) (fun j=>x.nat (j+2)) sc ln (Y,ty) (o.map fun p=>p.2))]) (Zs (Xg (drS (TZ w b) 1)) (Xe (TZ w b) fr) (.int Y ty)) (()):=by
 cases o with
 | none=>exact tkm [0] [1,1] exJ 0
 | some o=>exact tkm [0] [1,1] exJ 0
theorem Z38 (fr:Nat) (ft:LM) (sc ln:Nat) (Y:Int) (ty:Nat) (o:Option ((Int×Nat)×(Int×Nat))):TK prog w b fun b n t=>drK (HZ w b) (TZ w b) Xr fr ft sc ln Y ty o (kOf Y) n t:=by
 cases o with
 | none=>exact tkm [0] [1,0,0,0,1,1] (fun _ _ l _=>exN fun j=>match j with | 0=>Za8 l 0 3 | j+1=>Nb l 0 j) 0
 | some o=>exact tkm [0] [1,0,0,0,1,1] (fun _ _ l _=>exN fun j=>match j with | 0=>Za8 l 0 3 | j+1=>Nb l 0 j) 0
theorem Zwc (fr:Nat) (ft:LM) (sc ln:Nat) (Y:Int) (ty:Nat) (K:Int) (tk:Nat) (o:Option (Int×Nat)):TK prog w b fun b _ _=>tP [(fr,Znn (HZ w b) ft sc ln (Y,ty) (K,tk) o)] [] (Zj (Ze (drC (TZ w b)) 0) (Xe (TZ w b) fr)) ((.ref ln)) 0:=by
 cases o with
 | none=>exact tkm [0] [1] exZ 0
 | some o=>exact tkm [0] [1] exZ 0
theorem Zxi (C fr:Nat) (o:Option (Nat×(Addr))) (d:Addr):TK prog w b fun b n t=>drCa (HZ w b) (TZ w b) Zs C fr (o.map fun p=>(p.1,.ref p.2)) (.ref d) n t:=by
 cases o with
 | none=>exact tkm [0] [1,1] exT 0
 | some o=>exact tkm [0] [1,1] exT 0
theorem Ztf (C fr t1 a:Nat) (vs:LH) (ep:Nat) (h1:vs.length < 2 ^ 63):TK prog w b fun b _ _=>tG [(C,xV (HZ w b) "line" (some (t1,.ref a))),(a,Za vs ep)] (fun x=>[(C,xV (HZ w b) "line" (some (t1,.ref a))),(a,Za vs ep)]) (fun x=>[]) (Zj (Zh (drC (TZ w b))) (compEnvC (Zc (drC (TZ w b))) [] C (Xe (TZ w b) fr))) (fun x=>.ok (.int (Int.ofNat vs.length) (x.nat 2))):=by
 have hC:Z4 T2 prog (wb w b) [Zmo vs]:=Zb (fun n t c l bb=>My rfl h1 n t) Zd
 exact tkc (cons:=fun b=>[Zmo vs]) hC [1,0] [0,0,1,0,1,1,1,0] (fun _ r _ _=>exN fun _=>(match r with | .ok v=>Ju v | _=>0))
theorem Zvg (fr:Nat):TK prog w b fun b _ _=>tP [] [] (Zj (Zk (Zsa (TZ w b))) (Xe (TZ w b) fr)) ((.builtin "sum")) 0:=tkm [] [0,0] exZ 0
theorem Ztd (fr:Nat) (ft:LM) (sc ln:Nat) (Y:Int) (ty:Nat) (K:Int) (tk:Nat) (o:Option (Int×Nat)) (c:Int) (tc:Nat):TK prog w b fun b _ _=>tW [(fr,Znn (HZ w b) ft sc ln (Y,ty) (K,tk) o)] (fun x=>[(fr,Gk (HZ w b) (fun j=>x.nat (j+2)) sc ln (Y,ty) (K,tk) (c,tc))]) (Yf (Xe (TZ w b) fr) "count" (.int c tc)) (()):=by
 cases o with
 | none=>exact tkm [0] [1,1] exJ 0
 | some o=>exact tkm [0] [1,1] exJ 0
theorem Zpd (fr:Nat) (ft:LM) (sc ln:Nat) (Y:Int) (ty:Nat) (K:Int) (tk:Nat) (c:Int) (tc:Nat) (xs:LH) (ep:Nat) (h1:xs.length < 2 ^ 63) (g0:(K==0)=false):TK prog w b fun b n t=>Z55 (HZ w b) (TZ w b) Xo Zj fr ft sc ln Y ty K tk c tc xs ep false n t:=tkh (sts:=[]) (cons:=fun b=>[Zmo xs]) (Zb (fun n t c l bb=>My rfl h1 n t) Zd) [0,1] [1,0,0,6] exZ (pc g0 p0)
theorem Zqk (fr:Nat) (ft:LM) (sc ln:Nat) (Y:Int) (ty:Nat) (K:Int) (tk:Nat) (c:Int) (tc:Nat) (xs:LH) (ep:Nat) (h1:xs.length < 2 ^ 63) (g0:decide (Int.ofNat xs.length < 3)=false) (g1:(K==0)=true):TK prog w b fun b n t=>Z55 (HZ w b) (TZ w b) Xo Zj fr ft sc ln Y ty K tk c tc xs ep false n t:=tkh (sts:=[]) (cons:=fun b=>[Zmo xs]) (Zb (fun n t c l bb=>My rfl h1 n t) Zd) [1,0] [1,0,0,5,0,0,1,0,1,1,1,0,0,0,2] exZ (pc g0 (pc g1 p0))
theorem Zqs (fr:Nat) (ft:LM) (sc ln:Nat) (Y:Int) (ty:Nat) (K:Int) (tk:Nat) (c:Int) (tc:Nat) (xs:LH) (ep:Nat) (h1:xs.length < 2 ^ 63) (g0:decide (c < 6)=false) (g1:decide (Int.ofNat xs.length < 3)=true) (g2:(K==0)=true):TK prog w b fun b n t=>Z55 (HZ w b) (TZ w b) Xo Zj fr ft sc ln Y ty K tk c tc xs ep false n t:=tkh (sts:=[]) (cons:=fun b=>[Zmo xs]) (Zb (fun n t c l bb=>My rfl h1 n t) Zd) [1,0] [1,0,0,5,0,0,1,0,1,1,1,0,0,0,1,2,0,0,2] exZ (pc g0 (pc g1 (pc g2 p0)))
theorem Zp8 (fr:Nat) (ft:LM) (sc ln:Nat) (Y:Int) (ty:Nat) (K:Int) (tk:Nat) (c:Int) (tc:Nat) (xs:LH) (ep:Nat) (h1:xs.length < 2 ^ 63) (g0:decide (c < 6)=true) (g1:decide (Int.ofNat xs.length < 3)=true) (g2:(K==0)=true):TK prog w b fun b n t=>Z55 (HZ w b) (TZ w b) Xo Zj fr ft sc ln Y ty K tk c tc xs ep true n t:=tkh (sts:=[]) (cons:=fun b=>[Zmo xs]) (Zb (fun n t c l bb=>My rfl h1 n t) Zd) [1,0] [1,0,0,5,0,0,1,0,1,1,1,0,0,0,1,2,0,0,1] exZ (pc g0 (pc g1 (pc g2 p0)))
theorem Zpf (fr:Nat) (ft:LM) (sc ln:Nat) (Y:Int) (ty:Nat) (K:Int) (tk:Nat) (c:Int) (tc:Nat) (xs:LH) (ep a:Nat) (vs:LH) (ea:Nat) (h1:vs.length < 2 ^ 63) (h2:xs.length < 2 ^ 62) (g0:decide (0 < K)=false):TK prog w b fun b n t=>Z3s (HZ w b) (TZ w b) Xo Zj fr ft sc ln Y ty K tk c tc xs ep a vs ea false n t:=tkh (sts:=[]) (cons:=fun b=>[Zbd xs (.ref a),Zmo vs]) (Zb (fun n t c l bb=>Zai h2 n t) (Zb (fun n t c l bb=>My rfl h1 n t) Zd)) [0,1,2] [1,0,0,2] exZ (pc g0 p0)
theorem Zn1 (fr:Nat) (ft:LM) (sc ln:Nat) (Y:Int) (ty:Nat) (K:Int) (tk:Nat) (c:Int) (tc:Nat) (xs:LH) (ep a:Nat) (vs:LH) (ea:Nat) (h1:vs.length < 2 ^ 63) (h2:xs.length < 2 ^ 62) (g0:decide (K < 3)=false) (g1:decide (0 < K)=true):TK prog w b fun b n t=>Z3s (HZ w b) (TZ w b) Xo Zj fr ft sc ln Y ty K tk c tc xs ep a vs ea false n t:=tkh (sts:=[]) (cons:=fun b=>[Zbd xs (.ref a),Zmo vs]) (Zb (fun n t c l bb=>Zai h2 n t) (Zb (fun n t c l bb=>My rfl h1 n t) Zd)) [0,1,2] [1,0,0,1,0,0,2] exZ (pc g0 (pc g1 p0))
theorem Zpr (fr:Nat) (ft:LM) (sc ln:Nat) (Y:Int) (ty:Nat) (K:Int) (tk:Nat) (c:Int) (tc:Nat) (xs:LH) (ep a:Nat) (vs:LH) (ea:Nat) (h1:vs.length < 2 ^ 63) (h2:xs.length < 2 ^ 62) (g0:decide (Int.ofNat vs.length < 3)=false) (g1:decide (K < 3)=true) (g2:decide (0 < K)=true):TK prog w b fun b n t=>Z3s (HZ w b) (TZ w b) Xo Zj fr ft sc ln Y ty K tk c tc xs ep a vs ea false n t:=tkh (sts:=[]) (cons:=fun b=>[Zbd xs (.ref a),Zmo vs]) (Zb (fun n t c l bb=>Zai h2 n t) (Zb (fun n t c l bb=>My rfl h1 n t) Zd)) [2,1,0] [1,0,0,1,0,0,1,0,0,1,0,0,2,2,2,0,2,1,1,1,0,0,2,1,2,0,0,0,2] exZ (pc g0 (pc g1 (pc g2 p0)))
theorem Zob (fr:Nat) (ft:LM) (sc ln:Nat) (Y:Int) (ty:Nat) (K:Int) (tk:Nat) (c:Int) (tc:Nat) (xs:LH) (ep a:Nat) (vs:LH) (ea:Nat) (h1:vs.length < 2 ^ 63) (h2:xs.length < 2 ^ 62) (g0:decide (c < 6)=false) (g1:decide (Int.ofNat vs.length < 3)=true) (g2:decide (K < 3)=true) (g3:decide (0 < K)=true):TK prog w b fun b n t=>Z3s (HZ w b) (TZ w b) Xo Zj fr ft sc ln Y ty K tk c tc xs ep a vs ea false n t:=tkh (sts:=[]) (cons:=fun b=>[Zbd xs (.ref a),Zmo vs]) (Zb (fun n t c l bb=>Zai h2 n t) (Zb (fun n t c l bb=>My rfl h1 n t) Zd)) [2,1,0] [1,0,0,1,0,0,1,0,0,1,0,0,2,2,2,0,2,1,1,1,0,0,2,1,2,0,0,0,1,3,0,0,2] exZ (pc g0 (pc g1 (pc g2 (pc g3 p0))))
theorem Zou (fr:Nat) (ft:LM) (sc ln:Nat) (Y:Int) (ty:Nat) (K:Int) (tk:Nat) (c:Int) (tc:Nat) (xs:LH) (ep a:Nat) (vs:LH) (ea:Nat) (h1:vs.length < 2 ^ 63) (h2:xs.length < 2 ^ 62) (g0:decide (c < 6)=true) (g1:decide (Int.ofNat vs.length < 3)=true) (g2:decide (K < 3)=true) (g3:decide (0 < K)=true):TK prog w b fun b n t=>Z3s (HZ w b) (TZ w b) Xo Zj fr ft sc ln Y ty K tk c tc xs ep a vs ea true n t:=tkh (sts:=[]) (cons:=fun b=>[Zbd xs (.ref a),Zmo vs]) (Zb (fun n t c l bb=>Zai h2 n t) (Zb (fun n t c l bb=>My rfl h1 n t) Zd)) [2,1,0] [1,0,0,1,0,0,1,0,0,1,0,0,2,2,2,0,2,1,1,1,0,0,2,1,2,0,0,0,1,3,0,0,1] exZ (pc g0 (pc g1 (pc g2 (pc g3 p0))))
theorem Zoz (fr:Nat) (ft:LM) (sc ln:Nat) (Y:Int) (ty:Nat) (K:Int) (tk:Nat) (c:Int) (tc:Nat)  (g0:(K==15)=false):TK prog w b fun b n t=>Yaz (HZ w b) (TZ w b) Xo Zj fr ft sc ln Y ty K tk c tc false n t:=tkh (sts:=[]) (cons:=fun _=>[]) Zd [0] [1,0,0,6] exZ (pc g0 p0)
theorem Zqh (fr:Nat) (ft:LM) (sc ln:Nat) (Y:Int) (ty:Nat) (K:Int) (tk:Nat) (c:Int) (tc:Nat)  (g0:(K==15)=true):TK prog w b fun b n t=>Yaz (HZ w b) (TZ w b) Xo Zj fr ft sc ln Y ty K tk c tc true n t:=tkh (sts:=[]) (cons:=fun _=>[]) Zd [0] [1,0,0,5] exZ (pc g0 p0)
theorem Zw5 (fr:Nat) (ft:LM) (sc ln:Nat) (Y:Int) (ty:Nat) (K:Int) (tk:Nat) (c:Int) (tc:Nat) (xs:LH) (ep:Nat) (h1:xs.length<=sizeLine):TK prog w b fun b _ _=>tG [(fr,Gk (HZ w b) ft sc ln (Y,ty) (K,tk) (c,tc)),(ln,Za xs ep)] (fun x=>[(fr,Gk (HZ w b) ft sc ln (Y,ty) (K,tk) (c,tc)),(ln,Za (xs++[.ref (x.nat 2)]) (x.nat 3))]) (fun x=>[(x.nat 2,Za [.str (S []) (x.nat 4)] 0)]) (Xr [V3 (drB (TZ w b) 2) 0] (Xe (TZ w b) fr)) (fun x=>.ok .next) (k:=30):=tkc (cons:=fun b=>[Ya2 xs]) (Zb (fun n t c l bb=>Z32 h1 n t) Zd) [1,2,0] [1,2,2,2,2,0,3,1,1,2,0] (fun _ _ l _=>exN fun j=>match j with | 0=>Znc (oAt l 0) | 1=>Jo (Z2 l 2) | _=>Zd6 (Nh (Z2 l 0)) 0)
theorem Zs0 (fr:Nat) (ft:LM) (sc ln:Nat) (Y:Int) (ty:Nat) (K:Int) (tk:Nat) (c:Int) (tc:Nat) (xs:LH) (ep a:Nat) (vs:LH) (ea:Nat) (h1:vs.length<=sizeLine) (h2:xs.length < 2 ^ 62):TK prog w b fun b _ _=>tG [(fr,Gk (HZ w b) ft sc ln (Y,ty) (K,tk) (c,tc)),(ln,Za (xs++[.ref a]) ep),(a,Za vs ea)] (fun x=>[(fr,Gk (HZ w b) ft sc ln (Y,ty) (K,tk) (c,tc)),(ln,Za (xs++[.ref a]) ep),(a,Za (vs++[.str (S []) (x.nat 3)]) (x.nat 2))]) (fun x=>[]) (Xr [V3 (Zl0 (TZ w b)) 0] (Xe (TZ w b) fr)) (fun x=>.ok .next) (k:=30):=tkct (cons:=fun b=>[Zbd xs (.ref a),Ya2 vs]) (Zb (fun n t c l bb=>Zai h2 n t) (Zb (fun n t c l bb=>Z32 h1 n t) Zd)) [2,1,0] [1,0,0,2,2,2,0,2,1,1,1,0,3,3,3,3,0,3,2,1,2,0] (fun t f _ l _=>exN fun j=>match j with | 0=>Jo (Z2 l 2) | _=>t+(2+(f 0).nat 1))
theorem Zxc (fr:Nat) (ft:LM) (sc ln:Nat) (Y:Int) (ty:Nat) (K:Int) (tk:Nat) (c:Int) (tc:Nat) (xs:LH) (ep a:Nat) (vs:LH) (ea:Nat) (u:List Nat) (tu:Nat) (h2:xs.length < 2 ^ 62) (h3:vs.length < 2 ^ 62) (h4:(decide (cOf Y < 0)||decide (cOf Y > 0x10FFFF))=false) (g0:Xp (S u) (S [(cOf Y).toNat]) (S (u++[(cOf Y).toNat]))):TK prog w b fun b n t=>Ybc (HZ w b) (TZ w b) Xr fr ft sc ln Y ty K tk c tc xs ep a vs ea u tu (cOf Y).toNat n t:=tkh (sts:=[S (u++[(cOf Y).toNat])]) (cons:=fun b=>[Zbd xs (.ref a),Zbd vs (.str (S u) tu),chrF (cOf Y),Ybi vs (.str (S u) tu)]) (Zb (fun n t c l bb=>Zai h2 n t) (Zb (fun n t c l bb=>Zai h3 n t) (Zb (fun n t c l bb=>Z80 h4 n t) (Zb (fun n t c l bb=>Zhf h3 n t) Zd)))) [2,1,0] [1,0,0,2,2,2,0,2,1,1,1,0,0,0,3,3,0,3,2,1,2,0,0,0,3,0,0,0,0,0,0,0,0,0,0,3,0,0,0,0,5,1,1,0,1,4,1,0,0] (fun f _ l _=>exN fun j=>match j with | 0=>Jo (Z2 l 2) | _=>(f 3).nat 2) (pc g0 p0)
theorem Zsd (fr:Nat) (ft:LM) (sc ln:Nat) (Y:Int) (ty tk:Nat) (c:Int) (tc:Nat) (xs:LH) (ep a:Nat) (vs:LH) (ea:Nat) (u:List Nat) (tu:Nat) (h2:xs.length < 2 ^ 62) (h3:vs.length < 2 ^ 62):∀ k,k < 15->Xp (S u) (S [Z3q k]) (S (u++[Z3q k]))->TK prog w b fun b n t=>Ya8 (HZ w b) (TZ w b) Xr fr ft sc ln Y ty (Int.ofNat k) tk c tc xs ep a vs ea u tu (Z3q k) n t:=fun k hk g0=>by
 refine tkh (sts:=[S (u++[Z3q k])]) (cons:=fun b=>[Zbd xs (.ref a),Zbd vs (.str (S u) tu),Ybi vs (.str (S u) tu)]) (Zb (fun n t c l bb=>Zai h2 n t) (Zb (fun n t c l bb=>Zai h3 n t) (Zb (fun n t c l bb=>Zhf h3 n t) Zd))) [2,1,0] [1,0,0,2,2,2,0,2,1,1,1,0,0,0,3,3,0,3,2,1,2,0,3,0,0,0,0,0,0,0,5,1,1,0,1,3,1,0,0] exX4 (pc g0 p0) ?_
 clear g0
 revert k
 refine Zbq 15 ?_
 kernel_rfl
theorem Z4e (fr:Nat) (ft:LM) (sc ln:Nat) (Y:Int) (ty:Nat) (K:Int) (tk:Nat) (c:Int) (tc:Nat):TK prog w b fun b _ _=>tP [(fr,Gk (HZ w b) ft sc ln (Y,ty) (K,tk) (c,tc))] [] (Xr [drS (TZ w b) 2] (Xe (TZ w b) fr)) ((.ret (.ref ln))) 0:=tkm [0] [1] exZ 0
end
end
section
open PySem PySem.W PySem.W.X PySem.SeqAt
noncomputable def Yi (M:List (LD)):Nat:=(M.map List.length).sum
theorem Jz (M N:List (LD)):Yi (M++N)=Yi M+Yi N:=by unfold Yi; rw [List.map_append,List.sum_append]
structure Vx (i:Nat) (M:List (LD)):Prop where
 ne:M≠[]
 le:M.length<=3
 line:∀ x∈M,x≠[]/\x.length<=3/\∀ u∈x,u.length<=i
theorem Vx.words {i:Nat} {M:List (LD)} (h:Vx i M):1<=Yi M:=by
 cases M with
 | nil=>exact absurd rfl h.ne
 | cons x M =>
  have:=List.length_pos_iff.mpr (h.line x (.head _)).1
  unfold Yi
  rw [Zcq,List.sum_cons]
  lia
theorem Zfb:∀ L:List Od,Zg9 (L.map fun x=>Int.ofNat x.us.length)=Int.ofNat (Yi (L.map Od.us))
 | []=>rfl
 | X::L=>by
  show Int.ofNat X.us.length+Zg9 (L.map fun x=>Int.ofNat x.us.length)=_
  rw [Zfb L]
  unfold Yi
  rw [Zcq,Zcq,List.sum_cons]
  rfl
section
theorem Ya5:((Mn (wb w b) 780).bind Uq)=some (Z7 (TZ w b) 780):=kf
theorem Zvr:(Z7 (TZ w b) 780).body=.stmts [drS (TZ w b) 0,drS (TZ w b) 1,drS (TZ w b) 2]:=kf
theorem Z2t:drS (TZ w b) 1=.For (Xg (drS (TZ w b) 1)) (Pb (drS (TZ w b) 1)) [drB (TZ w b) 0,drB (TZ w b) 1,drB (TZ w b) 2] [] (Zlh (drS (TZ w b) 1)):=kf
theorem Z3o (it v:Value):letOwnedTupleGo (Xg (drS (TZ w b) 1)) it v=pure ():=kf
theorem Z9p:drB (TZ w b) 1=.Assign [.Name "count" (Yg (Y0 (drB (TZ w b) 1)))] (.Call (.Name "sum" (Yg (Zk (Zsa (TZ w b))))) [drC (TZ w b)] [] (Yv (Zsa (TZ w b)))) (Y5 (drB (TZ w b) 1)):=kf
theorem Z6h:Zk (Zsa (TZ w b))=.Name "sum" (Yg (Zk (Zsa (TZ w b)))):=kf
theorem Z8z (qq:Env):backTo (Yv (Zsa (TZ w b))) (starEach [drC (TZ w b)] qq)=[(false,eval (drC (TZ w b)) qq)]:=kf
theorem dr_c:drC (TZ w b)=.ListComp (Zh (drC (TZ w b))) [⟨Zf (drC (TZ w b)) 0,Ze (drC (TZ w b)) 0,[],0⟩] (Zc (drC (TZ w b))) (Ye (drC (TZ w b))):=kf
theorem Z6i:Na (Zc (drC (TZ w b)))=true:=kf
theorem Yam (fr:Nat):closureFor (Zc (drC (TZ w b))) (Xe (TZ w b) fr)=pure []:=kf
theorem dr_f (qq:Env) (x:Value):foldedSetIterable (Ze (drC (TZ w b)) 0) qq x=pure x:=kf
theorem dr_g (I:Addr) (v:Value):letOwnedTupleGo (Zf (drC (TZ w b)) 0) (.ref I) v=pure ():=kf
theorem Z2s:drB (TZ w b) 2=.If (Xf (drB (TZ w b) 2)) [V3 (drB (TZ w b) 2) 0] [Zl0 (TZ w b)] (Y5 (drB (TZ w b) 2)):=kf
theorem Z4t:Zl0 (TZ w b)=.If (Xf (Zl0 (TZ w b))) [V3 (Zl0 (TZ w b)) 0] [Znh (TZ w b)] (Y5 (Zl0 (TZ w b))):=kf
theorem Zy4:Znh (TZ w b)=.If (Xf (Znh (TZ w b))) [V3 (Znh (TZ w b)) 0] [Zhm (Znh (TZ w b)) 0] (Y5 (Znh (TZ w b))):=kf
theorem Zn2 (hf:AOk A2 none 60) (G:Ground T2 (wb w b) H) {ln:Nat} {K:Int} {tk:Nat} {o:Option (Int×Nat)} {L:List Od} (h1:L.length<=1000) (h2:∀ x∈L,x.us.length<=1000) {Q:Flow->Shared->Prop}
  (O:Own H ((fr,Znn (HZ w b) ft sc ln (Y,ty) (K,tk) o)::(ln,Za (L.map Od.v) el)::(Yd L++l)) h)
  (hQ:∀ ft tc h' t' g',Own H ((fr,Gk (HZ w b) ft sc ln (Y,ty) (K,tk) (Int.ofNat (Yi (L.map Od.us)),tc))::(ln,Za (L.map Od.v) el)::(Yd L++l)) h'->t<=t'->Zq true g g'->Q .next (r.at h' ⟨t',g'⟩)) :
  wpAny (model prog (wb w b)) A2 (exec (drB (TZ w b) 1) (Xe (TZ w b) fr)) Q E (r.at h ⟨t,g⟩):=by
 have qE:10000000<=sizeLine:=by decide +kernel
 obtain ⟨c1,c2,c3⟩:=Yh (Z6i (w:=w) (b:=b))
 rw [Z9p]
 refine Zo9 (Zi2 ?_)
 rw [← Z6h]
 refine goP (Zvg fr) G hf O fun h1' t1 g1 O1 qK qD=>?_
 rw [Z8z]
 refine Q5q rfl (Q7q (Q8q ?_))
 refine eqT (Yr (fun e=>eval e (Xe (TZ w b) fr)) (dr_c (w:=w) (b:=b)).symm) ?_
 rw [Zvm]
 refine J8 (g0:=⟨Zf (drC (TZ w b)) 0,Ze (drC (TZ w b)) 0,[],0⟩) rfl (fun x=>dr_f _ x) (Yam fr) c2 c3 ?_
 refine goP (Zwc fr ft sc ln Y ty K tk o) G hf O1 (fun h2' t2 g2 O2 qN qF=>?_) (hp:=.refl _)
 refine Mj (r:=r) (H:=H) hf.hand (Xu (lst:=ln) (xs:=L.map Od.v) (ep:=el)) c1 (fun I v=>dr_g I v) (fun st:Option (Nat×Addr)=>xV (HZ w b) "line" (okO st)) (fun _=>[])
  (fun i st ys=>∃ tk,ys=Jh ((L.take i).map fun x=>Int.ofNat x.us.length) tk) (t₀:=t2) (g₀:=g2) (l:=(ln,Za (L.map Od.v) el)::(Yd L++((fr,Znn (HZ w b) ft sc ln (Y,ty) (K,tk) o)::l))) (fun p hp=>by rw [Ur.mp hp]; exact .head _) (K:=100000) (by lia)
  (fun j st ys hI hj=>?_) (fun C j v st ys m h4 t4 g4 Q E hj hv hI O4 qB qw hQ=>?_) (fun C acc st ys ea h4 t4 g4 hI O4 qB qw=>?_) (st:=none) rfl ⟨fun _=>0,rfl⟩ (O2.perm (by
   exact pm [_,_] [_,_] 3954015616385025 241061412865)) (Y9 _) (Zq.refl true _)
 ·obtain ⟨tk',rfl⟩:=hI
  rw [Xj,Z0,Zbg]
  lia
 ·rw [Z0] at hj
  obtain ⟨tk',rfl⟩:=hI
  obtain ⟨X,hX,rfl,_⟩:=Za0 hj hv
  obtain ⟨rest,hp⟩:=Y4 hX
  have hXl:=h2 X (Nl hX)
  refine Zcf.plain ?_
  refine goW (Zxi C fr st X.a) G hf O4 fun x5 h5 t5 g5 O5 qy qv=>?_
  have O5:Own H ((C,xV (HZ w b) "line" (some (x5.nat 2,.ref X.a)))::(X.a,Za (wsV (X.us.map S) X.tk) X.ep)::((ln,Za (L.map Od.v) el)::(rest++((fr,Znn (HZ w b) ft sc ln (Y,ty) (K,tk) o)::(l++m))))) h5:=O5.perm (by
   refine (((((hp.append_right _).cons _).append_right _).append_left _).cons _).trans ?_
   exact pm [_,_,_,_] [_,_,_] 11871274731986403459202 44189582705666)
  refine go (Ztf C fr (x5.nat 2) X.a (wsV (X.us.map S) X.tk) X.ep (by rw [Zac]; lia)) G hf O5 fun x6 h6 t6 g6 O6 qG qC=>?_
  refine hQ (some (.int (Int.ofNat (wsV (X.us.map S) X.tk).length) (x6.nat 2))) (some (x5.nat 2,X.a)) h6 t6 g6 ⟨Ja ((L.take j).map fun x=>Int.ofNat x.us.length).length tk' fun _=>x6.nat 2,?_⟩ (O6.perm ?_) (by lia) (gtr qv qC)
  ·have e:(L.take (j+1)).map (fun x=>Int.ofNat x.us.length)=(L.take j).map (fun x=>Int.ofNat x.us.length)++[Int.ofNat X.us.length]:=by
    rw [Zbv,hX,J3]; rfl
   rw [e,Zcr,Zac]
   rfl
  ·show List.Perm ((C,xV (HZ w b) "line" (some (x5.nat 2,.ref X.a)))::X.o::((ln,Za (L.map Od.v) el)::(rest++((fr,Znn (HZ w b) ft sc ln (Y,ty) (K,tk) o)::(l++m))))) ((C,xV (HZ w b) "line" (some (x5.nat 2,.ref X.a)))::([]++(((ln,Za (L.map Od.v) el)::(Yd L++((fr,Znn (HZ w b) ft sc ln (Y,ty) (K,tk) o)::l)))++m)))
   refine List.Perm.trans ?_ (((((hp.append_right _).cons _).append_right _).append_left _).cons _).symm
   exact pm [_,_,_,_] [_,_,_] 44189582754434 11871274718793069232258
 ·obtain ⟨tk',rfl⟩:=hI
  rw [Z0,Zni (by lia)] at O4
  refine J5 O4 (Zey _ _ _) fun h5 O5=>?_
  refine Q9q ?_
  refine Znf ?_
  refine (Z6v (prog:=prog) (w:=w) (b:=b) acc (L.map fun x=>Int.ofNat x.us.length) tk' ea h5.objs.size t4).use G (hf.bare (by show 40<=60; lia)) O5 (.refl _) rfl fun x6 h6 g6 O6 xB qC=>?_
  have e:=Zfb L
  have qG:t4<=t4+x6.nat 1:=Zdr _ _
  generalize t4+x6.nat 1=t6 at qG ⊢
  dsimp only [Zxt]
  rw [e]
  have O6:Own H ((fr,Znn (HZ w b) ft sc ln (Y,ty) (K,tk) o)::((acc,Za (Jh (L.map fun x=>Int.ofNat x.us.length) tk') ea)::(ln,Za (L.map Od.v) el)::(Yd L++l))) h6:=O6.perm (by
   simp only [Con.postA,Zxt,Zt]
   exact pm [_,_,_] [_,_] 8338147308849135108225 1885421832)
  refine goW (Ztd fr ft sc ln Y ty K tk o (Int.ofNat (Yi (L.map Od.us))) (x6.nat 2)) G hf O6 fun x7 h7 t7 g7 O7 qO qM=>?_
  exact hQ (fun j=>x7.nat (j+2)) (x6.nat 2) h7 t7 g7 (Own.drop (r:=[(acc,Za (Jh (L.map fun x=>Int.ofNat x.us.length) tk') ea)]) (O7.perm (by
   exact pm [_,_,_] [_,_] 30891562762497 173684162817))) (by lia) (gtr (gtr (gtr (gtr qD qF) qw) qC) qM)
theorem U6 (e:Expr) (qq:Env):Xo e qq (Zj e qq)=isTrue e qq (eval e qq):=by rw [Pc,Xy]
theorem Z67 (a c:Int):Z.modQ a c=Int.fmod a c:=by rw [← Z.modQ_eq]
theorem Zko (Y:Int):0<=kOf Y/\kOf Y < 16:=by
 unfold kOf
 rw [Z67]
 exact ⟨Int.fmod_nonneg_of_pos Y (by decide),Int.fmod_lt_of_pos Y (by decide)⟩
theorem Zzl (Y:Int):(decide (cOf Y < 0)||decide (cOf Y > 0x10FFFF))=false:=by
 have h1:=Int.fmod_nonneg_of_pos (Z.divQ Y 16) (b:=55295) (by decide)
 have h2:=Int.fmod_lt_of_pos (Z.divQ Y 16) (b:=55295) (by decide)
 unfold cOf
 rw [Z67,Bool.or_eq_false_iff,Zvl,Zvl]
 lia
theorem Z9q (hf:AOk A2 none 60) (G:Ground T2 (wb w b) H) {ln:Nat} {K c:Int} {tk:Nat} {xs:LH} (h1:xs.length < 2 ^ 62) {Q:Bool->Shared->Prop}
  (O:Own H ((fr,Gk (HZ w b) ft sc ln (Y,ty) (K,tk) (c,tc))::(ln,Za xs el)::l) h)
  (hQ:∀ bb h' t' g',(bb=true->xs.length < 3)->Own H ((fr,Gk (HZ w b) ft sc ln (Y,ty) (K,tk) (c,tc))::(ln,Za xs el)::l) h'->t<=t'->Zq true g g'->Q bb (r.at h' ⟨t',g'⟩)) :
  wpAny (model prog (wb w b)) A2 (isTrue (Xf (drB (TZ w b) 2)) (Xe (TZ w b) fr) (eval (Xf (drB (TZ w b) 2)) (Xe (TZ w b) fr))) Q E (r.at h ⟨t,g⟩):=by
 have h1':xs.length < 2 ^ 63:=Nat.lt_trans h1 (by decide)
 cases e1:(K==0) with
 | false=>exact go (Zpd fr ft sc ln Y ty K tk c tc xs el h1' e1) G hf O (fun x h3 t3 g3 O3 qx qz=>hQ false h3 t3 g3 (fun e=>Bool.noConfusion e) O3 qx qz) (hT:=fun n t=>U6 _ _)
 | true=>cases e2:decide (Int.ofNat xs.length < 3) with
  | false=>exact go (Zqk fr ft sc ln Y ty K tk c tc xs el h1' e2 e1) G hf O (fun x h3 t3 g3 O3 qx qz=>hQ false h3 t3 g3 (fun e=>Bool.noConfusion e) O3 qx qz) (hT:=fun n t=>U6 _ _)
  | true=>cases e3:decide (c < 6) with
   | false=>exact go (Zqs fr ft sc ln Y ty K tk c tc xs el h1' e3 e2 e1) G hf O (fun x h3 t3 g3 O3 qx qz=>hQ false h3 t3 g3 (fun e=>Bool.noConfusion e) O3 qx qz) (hT:=fun n t=>U6 _ _)
   | true=>exact go (Zp8 fr ft sc ln Y ty K tk c tc xs el h1' e3 e2 e1) G hf O (fun x h3 t3 g3 O3 qx qz=>hQ true h3 t3 g3 (fun _=>by
     have:=Znp e2
     have:((xs.length:Nat):Int) < 3:=this
     lia) O3 qx qz) (hT:=fun n t=>U6 _ _)
theorem Z7u (hf:AOk A2 none 60) (G:Ground T2 (wb w b) H) {ln a:Nat} {K c:Int} {tk:Nat} {xs:LH} (h1:xs.length < 2 ^ 62) (h2:vs.length < 2 ^ 62) {Q:Bool->Shared->Prop}
  (O:Own H ((fr,Gk (HZ w b) ft sc ln (Y,ty) (K,tk) (c,tc))::(ln,Za (xs++[.ref a]) el)::(a,Za vs ea)::l) h)
  (hQ:∀ bb h' t' g',(bb=true->vs.length < 3)->(bb=false->K=1->3<=vs.length∨6<=c)->Own H ((fr,Gk (HZ w b) ft sc ln (Y,ty) (K,tk) (c,tc))::(ln,Za (xs++[.ref a]) el)::(a,Za vs ea)::l) h'->t<=t'->Zq true g g'->Q bb (r.at h' ⟨t',g'⟩)) :
  wpAny (model prog (wb w b)) A2 (isTrue (Xf (Zl0 (TZ w b))) (Xe (TZ w b) fr) (eval (Xf (Zl0 (TZ w b))) (Xe (TZ w b) fr))) Q E (r.at h ⟨t,g⟩):=by
 have h2':vs.length < 2 ^ 63:=Nat.lt_trans h2 (by decide)
 have no:false=true->vs.length < 3:=fun e=>Bool.noConfusion e
 cases e1:decide (0 < K) with
 | false=>exact go (Zpf fr ft sc ln Y ty K tk c tc xs el a vs ea h2' h1 e1) G hf O (fun x h3 t3 g3 O3 qx qz=>hQ false h3 t3 g3 no (fun _ e=>absurd (by rw [e]; decide:0 < K) (of_decide_eq_false e1)) O3 qx qz) (hT:=fun n t=>U6 _ _)
 | true=>cases e2:decide (K < 3) with
  | false=>exact go (Zn1 fr ft sc ln Y ty K tk c tc xs el a vs ea h2' h1 e2 e1) G hf O (fun x h3 t3 g3 O3 qx qz=>hQ false h3 t3 g3 no (fun _ e=>absurd (by rw [e]; decide:K < 3) (of_decide_eq_false e2)) O3 qx qz) (hT:=fun n t=>U6 _ _)
  | true=>cases e3:decide (Int.ofNat vs.length < 3) with
   | false=>exact go (Zpr fr ft sc ln Y ty K tk c tc xs el a vs ea h2' h1 e3 e2 e1) G hf O (fun x h3 t3 g3 O3 qx qz=>hQ false h3 t3 g3 no (fun _ _=>by
     have:=of_decide_eq_false e3
     have:¬ ((vs.length:Nat):Int) < 3:=this
     lia) O3 qx qz) (hT:=fun n t=>U6 _ _)
   | true=>cases e4:decide (c < 6) with
    | false=>exact go (Zob fr ft sc ln Y ty K tk c tc xs el a vs ea h2' h1 e4 e3 e2 e1) G hf O (fun x h3 t3 g3 O3 qx qz=>hQ false h3 t3 g3 no (fun _ _=>by
      have:=of_decide_eq_false e4
      lia) O3 qx qz) (hT:=fun n t=>U6 _ _)
    | true=>exact go (Zou fr ft sc ln Y ty K tk c tc xs el a vs ea h2' h1 e4 e3 e2 e1) G hf O (fun x h3 t3 g3 O3 qx qz=>hQ true h3 t3 g3 (fun _=>by
      have:=Znp e3
      have:((vs.length:Nat):Int) < 3:=this
      lia) (fun e=>Bool.noConfusion e) O3 qx qz) (hT:=fun n t=>U6 _ _)
theorem Zj6 {u:List Nat} (h:u.length<=1000):Xp (S u) (S [c]) (S (u++[c])):=by
 have qE:10000000<=sizeLine:=by decide +kernel
 refine ⟨?_,?_⟩
 ·show (⟨(S u).cps++(S [c]).cps⟩:Str)=_
  unfold S
  simp
 ·show (u++[c]).toArray.size<=_
  simp only [List.size_toArray,Vc,V7,Zbb]
  lia
theorem Zct:∀ (us:LD) (u:List Nat) (tk:LM),wsV ((us++[u]).map S) tk=wsV (us.map S) tk++[.str (S u) (tk us.length)]
 | [],_,_=>rfl
 | v::us,u,tk=>by
  show Value.str (S v) (tk 0)::wsV ((us++[u]).map S) _=_
  rw [Zct us u]
  rfl
structure Z6e (i:Nat) (K:Int) (M M':List (LD)):Prop where
 inv:Vx (i+1) M'
 le:Yi M<=Yi M'
 one:K=1->2<=Yi M'
theorem Vx.line' {i:Nat} {M:List (LD)} (h:Vx i M):∀ x∈M,x≠[]/\x.length<=3/\∀ u∈x,u.length<=i+1:=fun x hx=>⟨(h.line x hx).1,(h.line x hx).2.1,fun u hu=>Nat.le_succ_of_le ((h.line x hx).2.2 u hu)⟩
theorem Z60 {i:Nat} {K:Int} {M:List (LD)} (h:Vx i M) (hl:M.length < 3):Z6e i K M (M++[[[]]]):=by
 have hw:=h.words
 have e:Yi (M++[[[]]])=Yi M+1:=Jz _ _
 refine ⟨⟨by simp,by rw [Vc]; exact hl,fun x hx=>?_⟩,by lia,fun _=>by lia⟩
 rcases Zhu.mp hx with hx | hx
 ·exact h.line' x hx
 ·rw [Ur.mp hx]
  exact ⟨by simp,by simp,fun u hu=>by rw [Ur.mp hu]; exact Pt _⟩
theorem Z6s {i:Nat} {K:Int} {M:List (LD)} {x x':LD} (h:Vx i (M++[x])) (h1:x'≠[]/\x'.length<=3/\∀ u∈x',u.length<=i+1) (h2:x.length<=x'.length) (h3:K=1->2<=Yi (M++[x'])):Z6e i K (M++[x]) (M++[x']):=by
 refine ⟨⟨by simp,?_,fun y hy=>?_⟩,?_,h3⟩
 ·have:=h.le
  rw [Vc] at this ⊢
  exact this
 ·rcases Zhu.mp hy with hy | hy
  ·exact h.line' y (N8 _ hy)
  ·rw [Ur.mp hy]
   exact h1
 ·rw [Jz,Jz]
  exact Nat.add_le_add_left (by unfold Yi; simpa using h2) _
theorem Z7j (hf:AOk A2 none 60) (G:Ground T2 (wb w b) H) {ln:Nat} {tk i:Nat} {L:List Od} (hi:i<=100) (hM:Vx i (L.map Od.us)) {Q:Flow->Shared->Prop}
  (O:Own H ((fr,Gk (HZ w b) ft sc ln (Y,ty) (kOf Y,tk) (Int.ofNat (Yi (L.map Od.us)),tc))::(ln,Za (L.map Od.v) el)::(Yd L++l)) h)
  (hQ:∀ L' el' h' t' g',Z6e i (kOf Y) (L.map Od.us) (L'.map Od.us)->Own H ((fr,Gk (HZ w b) ft sc ln (Y,ty) (kOf Y,tk) (Int.ofNat (Yi (L.map Od.us)),tc))::(ln,Za (L'.map Od.v) el')::(Yd L'++l)) h'->t<=t'->Zq true g g'->Q .next (r.at h' ⟨t',g'⟩)) :
  wpAny (model prog (wb w b)) A2 (exec (drB (TZ w b) 2) (Xe (TZ w b) fr)) Q E (r.at h ⟨t,g⟩):=by
 have qE:10000000<=sizeLine:=by decide +kernel
 have hLl:L.length<=3:=by have:=hM.le; rwa [Z0] at this
 obtain ⟨hk0,hk1⟩:=Zko Y
 have hc6:=Zzl Y
 generalize kOf Y=K at *
 rw [Z2s]
 refine wpAny_If ?_
 refine Z9q hf G (by rw [Z0]; lia) O fun b1 h1 t1 g1 hb1 O1 qK qD=>?_
 cases b1 with
 | true =>
  have hl3:=hb1 rfl
  rw [Z0] at hl3
  refine go (Zw5 fr ft sc ln Y ty K tk _ tc (L.map Od.v) el (by rw [List.length_map]; lia)) G hf O1 (fun x2 h2 t2 g2 O2 qN qF=>?_) (hT:=fun n t=>by dsimp only [tG]; rw [Yk])
  refine hQ (L++[⟨x2.nat 2,0,[[]],fun _=>x2.nat 4⟩]) (x2.nat 3) h2 t2 g2 (by rw [J3]; exact Z60 hM (by rw [Z0]; exact hl3)) (O2.perm ?_) (by lia) (gtr qD qF)
  rw [Vu,J3]
  show (_::_::_::(Yd L++l)).Perm _
  exact pm [_,_,_] [_,_] 1885471362 30786868757509
 | false =>
  show wpAny _ A2 (execs [_] _) _ _ _
  rw [Z5,Z4t]
  obtain ⟨L0,X,rfl⟩:∃ L0 X,L=L0++[X]:=by
   rcases List.eq_nil_or_concat L with e | ⟨L0,X,e⟩
   ·exact absurd (by rw [e]; rfl) hM.ne
   ·exact ⟨L0,X,by rw [e,List.concat_eq_append]⟩
  have hMX:=hM
  rw [J3] at hMX
  obtain ⟨hx1,hx2,hx3⟩:=hM.line X.us (by simp)
  have hcw:Yi ((L0++[X]).map Od.us)=Yi (L0.map Od.us)+X.us.length:=by rw [J3,Jz]; simp [Yi]
  generalize hcn:Int.ofNat (Yi ((L0++[X]).map Od.us))=cn at *
  have hL0:(L0.map Od.v).length<=3:=by rw [Z0]; rw [Vc] at hLl; lia
  have O1:Own H ((fr,Gk (HZ w b) ft sc ln (Y,ty) (K,tk) (cn,tc))::(ln,Za (L0.map Od.v++[.ref X.a]) el)::(X.a,Za (wsV (X.us.map S) X.tk) X.ep)::(Yd L0++l)) h1:=O1.perm (by
   rw [Vu,J3]
   exact pm [_,_,_] [_,_] 30788479369858 1885471362)
  have qA:∀ (us:LD) (tk':LM) (ep':Nat) (h2:Heap) (t2:Nat) (g2:LK),us≠[]/\us.length<=3/\(∀ u∈us,u.length<=i+1)->X.us.length<=us.length->(K=1->2<=Yi (L0.map Od.us++[us])) ->
    Own H ((fr,Gk (HZ w b) ft sc ln (Y,ty) (K,tk) (cn,tc))::(ln,Za (L0.map Od.v++[.ref X.a]) el)::(X.a,Za (wsV (us.map S) tk') ep')::(Yd L0++l)) h2->t1<=t2->Zq true g1 g2->Q .next (r.at h2 ⟨t2,g2⟩):=fun us tk' ep' h2 t2 g2 q1 q2 q3 O2 qN qF=>by
   refine hQ (L0++[⟨X.a,ep',us,tk'⟩]) el h2 t2 g2 ?_ (O2.perm ?_) (by lia) (gtr qD qF)
   ·rw [J3,J3]
    exact Z6s hMX q1 q2 q3
   ·rw [Vu,J3]
    exact pm [_,_,_] [_,_] 1885471362 30788479369858
  refine wpAny_If ?_
  refine Z7u hf G (by lia) (by rw [Zac]; lia) O1 fun b2 h2 t2 g2 hb2 hb2' O2 qN qF=>?_
  rw [Zac] at hb2 hb2'
  cases b2 with
  | true =>
   have hl3:=hb2 rfl
   refine go (Zs0 fr ft sc ln Y ty K tk cn tc (L0.map Od.v) el X.a (wsV (X.us.map S) X.tk) X.ep (by rw [Zac]; lia) (by lia)) G hf O2 (fun x3 h3 t3 g3 O3 qx qz=>?_) (hT:=fun n t=>by dsimp only [tG]; rw [Yk])
   refine qA (X.us++[[]]) (Ja X.us.length X.tk fun _=>x3.nat 3) (x3.nat 2) h3 t3 g3 ⟨by simp,by rw [Vc]; exact hl3,fun u hu=>?_⟩ (by rw [Vc]; lia) (fun _=>?_) ?_ (by lia) (gtr qF qz)
   ·rcases Zhu.mp hu with hu | hu
    ·exact Nat.le_succ_of_le (hx3 u hu)
    ·rw [Ur.mp hu]; exact Pt _
   ·rw [Jz]
    have e:Yi [X.us++[[]]]=X.us.length+1:=by simp [Yi]
    have:=List.length_pos_iff.mpr hx1
    lia
   ·rw [Ud]
    exact O3
  | false =>
   show wpAny _ A2 (execs [_] _) _ _ _
   rw [Z5,Zy4]
   obtain ⟨vs,u,hu⟩:∃ vs u,X.us=vs++[u]:=by
    rcases List.eq_nil_or_concat X.us with e | ⟨vs,u,e⟩
    ·exact absurd e hx1
    ·exact ⟨vs,u,by rw [e,List.concat_eq_append]⟩
   have hone:K=1->∀ z,2<=Yi (L0.map Od.us++[vs++[z]]):=fun e z=>by
    rw [Jz]
    have e1:Yi [vs++[z]]=X.us.length:=by rw [hu]; simp [Yi]
    rw [e1,← hcw]
    rcases hb2' rfl e with q | q
    ·lia
    ·rw [← hcn] at q
     have q:(6:Int)<=((Yi ((L0++[X]).map Od.us):Nat):Int):=q
     lia
   have hul:u.length<=100:=Zn (hx3 u (by rw [hu]; simp)) hi
   have hvl:vs.length<=3:=by rw [hu,Vc] at hx2; lia
   have nw:∀ z,(vs++[u++[z]]:LD)≠[]/\(vs++[u++[z]]).length<=3/\∀ y∈vs++[u++[z]],y.length<=i+1:=fun z=>by
    refine ⟨by simp,by rw [hu] at hx2; simpa using hx2,fun y hy=>?_⟩
    rcases Zhu.mp hy with hy | hy
    ·exact Nat.le_succ_of_le (hx3 y (by rw [hu]; exact N8 _ hy))
    ·rw [Ur.mp hy,Vc]
     exact Nat.succ_le_succ (hx3 u (by rw [hu]; simp))
   have hle:∀ z,X.us.length<=(vs++[u++[z]]).length:=fun z=>by rw [hu]; simp
   rw [hu,Zct] at O2
   refine wpAny_If ?_
   cases e3:(K==15) with
   | true =>
    refine go (Zqh fr ft sc ln Y ty K tk cn tc e3) G hf O2 (fun x3 h3 t3 g3 O3 qx qz=>?_) (hT:=fun n t=>U6 _ _)
    show wpAny _ A2 (execs [_] _) _ _ _
    refine go (Zxc fr ft sc ln Y ty K tk cn tc (L0.map Od.v) el X.a (wsV (vs.map S) X.tk) X.ep u (X.tk vs.length) (by lia) (by rw [Zac]; lia) hc6 (Zj6 (by lia))) G hf O3 (fun x4 h4 t4 g4 O4 qB qw=>?_) (hT:=fun n t=>by unfold Ybc; dsimp only; rw [Yk])
    refine qA (vs++[u++[(cOf Y).toNat]]) (Ja vs.length X.tk fun _=>x4.nat 3) (x4.nat 2) h4 t4 g4 (nw _) (hle _) (fun e=>hone e _) ?_ (by lia) (gtr (gtr qF qz) qw)
    rw [Ud]
    exact O4
   | false =>
    refine go (Zoz fr ft sc ln Y ty K tk cn tc e3) G hf O2 (fun x3 h3 t3 g3 O3 qx qz=>?_) (hT:=fun n t=>U6 _ _)
    show wpAny _ A2 (execs [_] _) _ _ _
    obtain ⟨k,rfl⟩:=Int.eq_ofNat_of_zero_le hk0
    have hk15:k < 15:=by
     have:¬ ((k:Nat):Int)=15:=by simpa using e3
     lia
    refine go (Zsd fr ft sc ln Y ty tk cn tc (L0.map Od.v) el X.a (wsV (vs.map S) X.tk) X.ep u (X.tk vs.length) (by lia) (by rw [Zac]; lia) k hk15 (Zj6 (by lia))) G hf O3 (fun x4 h4 t4 g4 O4 qB qw=>?_) (hT:=fun n t=>by unfold Ya8; dsimp only; rw [Yk])
    refine qA (vs++[u++[Z3q k]]) (Ja vs.length X.tk fun _=>x4.nat 3) (x4.nat 2) h4 t4 g4 (nw _) (hle _) (fun e=>hone e _) ?_ (by lia) (gtr (gtr qF qz) qw)
    rw [Ud]
    exact O4
structure Z8d where
 ft:LM
 o:Option ((Int×Nat)×(Int×Nat)×(Int×Nat))
 L:List Od
 el:Nat
noncomputable def Z8d.ob (w:Hs) (fr sc ln:Addr) (s:Z8d):LC:=(fr,Zr2 w s.ft sc ln s.o)::(ln,Za (s.L.map Od.v) s.el)::Yd s.L
theorem Zk5 (hA:AOk A none 62) (G:Ground T2 (wb w b) H) {xs:LH} {ys:List Int} {tk:LM} (htake:xs.take 10=Jh ys tk) (hxs:xs.length<=sizeLine)
  (O:Own H ((sc,Za xs ep)::l) h)
  (hQ:∀ ln L el h' t' g',Vx 16 (L.map Od.us)->2<=Yi (L.map Od.us)->Own H ((ln,Za (L.map Od.v) el)::(Yd L++((sc,Za xs ep)::l))) h'->t<=t'->Zq true g g'->Q (.ref ln) (r.at h' ⟨t',g'⟩)) :
  wpAny (model prog (wb w b)) A (call (.ref 780) [.ref sc]) Q E (r.at h ⟨t,g⟩):=by
 have hys:ys.length<=10:=by
  have:=Yr List.length htake
  rw [Xj,Zbg] at this
  lia
 obtain ⟨o,ho,hd⟩:=Pl.mp (Ya5 (w:=w) (b:=b))
 refine U7 (O.keep _ _ (G.top _ _ ho)) hd Zvr (N:=61) hA ?_
 refine go (Z1b sc) G (AOk.bare (n:=61) (hA.under (Zr rfl)) (Y9 _)) O fun x1 h1' t1 g1 O1 qK qD=>⟨G.nolimit.keeps O1.keep,?_⟩
 generalize h.objs.size=fr at O1 ⊢
 have O1:Own H ((fr,frO #[ent (HZ w b) "script" (x1.nat 2) (.ref sc)] 1 #[])::((sc,Za xs ep)::l)) h1':=O1
 generalize x1.nat 2=t0 at O1
 have hf:AOk (A.under (.func [drS (TZ w b) 0,drS (TZ w b) 1,drS (TZ w b) 2] (Xe (TZ w b) fr))) none 61:=AOk.bare (n:=61) (hA.under (Zr rfl)) (Y9 _)
 generalize A.under (.func [drS (TZ w b) 0,drS (TZ w b) 1,drS (TZ w b) 2] (Xe (TZ w b) fr))=A2 at hf
 show wpAny _ A2 (execs _ (Xe (TZ w b) fr)) _ _ _
 rw [Zw,← Z5]
 refine Zi ?_
 refine go (Z2i fr t0 sc) G hf O1 (fun x2 h2' t2 g2 O2 qN qF=>?_) (hT:=fun n t=>by dsimp only [tG]; rw [Yk])
 generalize h1'.objs.size=n2 at O2 ⊢
 have O2:Own H ((n2,Za [.str (S []) (x2.nat 2)] 0)::(n2+1,Za [.ref n2] 0)::(fr,Zr2 (HZ w b) (fun j=>x2.nat (j+3)) sc (n2+1) none)::((sc,Za xs ep)::l)) h2':=O2
 generalize (fun j=>x2.nat (j+3))=ft at O2
 generalize x2.nat 2=te at O2
 show wpAny _ A2 (execs [drS (TZ w b) 1,drS (TZ w b) 2] (Xe (TZ w b) fr)) _ _ _
 rw [Zw]
 refine Zi ?_
 rw [Z2t,Nj]
 refine Zi (Zd2 (Zi ?_))
 refine go (Zzg fr ft sc (n2+1) xs ep ys tk htake hys hxs) G hf O2 (rest:=[(n2,Za [.str (S []) te] 0),(n2+1,Za [.ref n2] 0)]++l) (fun x3 h3 t3 g3 O3 qx qz=>?_) (hp:=by
  exact pm [_,_,_,_] [_] 1096942210 288252435372360705) (hT:=fun n t=>by dsimp only [tG]; rw [Xy,Zgi,Mi])
 have O3:Own H ((x3.nat 2,Ge (x3.nat 3) 0)::(x3.nat 3,Za (Jh (ys++Xd) (Ja ys.length tk (fun j=>x3.nat (j+5)))) 0)::(x3.nat 4,Za (Jh Xd (fun j=>x3.nat (j+5))) 0)::((fr,Zr2 (HZ w b) ft sc (n2+1) none)::(sc,Za xs ep)::([(n2,Za [.str (S []) te] 0),(n2+1,Za [.ref n2] 0)]++l))) h3:=O3
 show wpAny _ A2 (runOwn (.forLoop (Xg (drS (TZ w b) 1)) (.ref (x3.nat 2)) [drB (TZ w b) 0,drB (TZ w b) 1,drB (TZ w b) 2] [] (Xe (TZ w b) fr)) (Xe (TZ w b) fr)) _ _ _
 refine wpAny_runOwn ?_
 generalize hJ:(fun j=>x3.nat (j+5))=tj at O3
 generalize x3.nat 2=it at O3 ⊢
 generalize x3.nat 3=lj at O3
 generalize x3.nat 4=lt at O3
 generalize Ja ys.length tk tj=tz at O3
 have hzl:(Jh (ys++Xd) tz).length=ys.length+6:=by rw [Xj,Vc]; rfl
 refine Zcv (r:=r) (H:=H) (lst:=lj) (xs:=Jh (ys++Xd) tz) (ep:=0) (it:=it) (oi:=Ge lj 0) hf.hand (fun v=>Z3o _ v) (Z8d.ob (HZ w b) fr sc (n2+1)) (fun i st=>Vx i (st.L.map Od.us)/\(ys.length+2<=i->2<=Yi (st.L.map Od.us))/\(i≠0->st.o≠none)) (l:=(lj,Za (Jh (ys++Xd) tz) 0)::(lt,Za (Jh Xd tj) 0)::(sc,Za xs ep)::l) (.head _) (t₀:=t3) (g₀:=g3)
  (fun i v st m h4 t4 g4 K E hv hI O4 qB qw hK=>?_) (fun st h4 t4 g4 hI O4 qB qw=>?_) (st:=⟨ft,none,[⟨n2,0,[[]],fun _=>te⟩],0⟩) ⟨⟨by simp,by simp,fun x hx=>by
   rw [Ur.mp hx]
   exact ⟨by simp,by simp,fun u hu=>by rw [Ur.mp hu]; exact Pt _⟩⟩,fun e=>absurd e (by lia),fun e=>absurd rfl e⟩ ⟨rfl,rfl⟩ (O3.perm (by
   exact pm [_,_,_,_,_,_,_] [_] 36904821951419253378 37906820058415546498)) (Y9 _) (Zq.refl true _)
 ·obtain ⟨ft4,o4,L,el⟩:=st
  obtain ⟨hM,h2w,-⟩:=hI
  have hM:Vx i (L.map Od.us):=hM
  have h2w:ys.length+2<=i->2<=Yi (L.map Od.us):=h2w
  have hi:i < (ys++Xd).length:=by
   have:=(Zfj.mp hv).1
   rwa [Xj] at this
  have hi':i < ys.length+6:=by rwa [Vc] at hi
  have hx:(ys++Xd)[i]?=some (ys++Xd)[i]:=Vp hi
  have hv':v=.int (ys++Xd)[i] (tz i):=by
   rw [Zcu _ tz i _ hx] at hv
   exact (Zfs hv).symm
  have hone:i=ys.length+1->(ys++Xd)[i]=1:=fun e=>by
   subst e
   have:(ys++Xd)[ys.length+1]?=some 1:=by rw [List.getElem?_append_right (by lia)]; simp [Xd]
   rw [Vp hi] at this
   exact Zfs this
  generalize (ys++Xd)[i]=Y at hv' hone
  subst hv'
  generalize tz i=ty
  have hLl:L.length<=3:=by have:=hM.le; rwa [Z0] at this
  refine goW (Z2o fr ft4 sc (n2+1) Y ty o4) G hf O4 fun x5 h5 t5 g5 O5 qy qv=>?_
  rw [Zw,← Z5]
  refine Zi ?_
  refine go (Z38 fr (fun j=>x5.nat (j+2)) sc (n2+1) Y ty (o4.map fun p=>p.2)) G hf O5 (fun x6 h6 t6 g6 O6 qG qC=>?_) (hT:=fun n t=>by unfold drK; dsimp only; rw [Yk])
  rw [Zw]
  refine Zi ?_
  have O6:Own H ((fr,Znn (HZ w b) (fun j=>x6.nat (j+3)) sc (n2+1) (Y,ty) (kOf Y,x6.nat 2) ((o4.map fun p=>p.2).map fun p=>p.2))::((n2+1,Za (L.map Od.v) el)::(Yd L++(((lj,Za (Jh (ys++Xd) tz) 0)::(lt,Za (Jh Xd tj) 0)::(sc,Za xs ep)::l)++m)))) h6:=O6
  refine Zn2 (hf.le (by lia)) G (by lia) (fun x hx=>by
   have:=(hM.line x.us (Zdq hx)).2.1
   lia) O6 fun ft7 tc7 h7 t7 g7 O7 qO qM=>?_
  rw [Z5]
  refine Z7j (hf.le (by lia)) G (by lia) hM O7 fun L' el' h8 t8 g8 W O8 qX qW=>⟨rfl,?_⟩
  refine hK ⟨ft7,some ((Y,ty),(kOf Y,x6.nat 2),(Int.ofNat (Yi (L.map Od.us)),tc7)),L',el'⟩ h8 t8 g8 ⟨W.inv,fun e=>?_,fun _ e=>by cases e⟩ O8 (by lia) (gtr (gtr (gtr qv qC) qM) qW)
  by_cases e1:i=ys.length+1
  ·refine W.one ?_
   rw [hone e1]
   unfold kOf
   rw [Z67]
   rfl
  ·exact Zn (h2w (by lia)) W.le
 ·obtain ⟨ft4,o4,L,el⟩:=st
  obtain ⟨hM,h2w,h0⟩:=hI
  rw [hzl] at hM h2w h0
  cases o4 with
  | none=>exact absurd rfl (h0 (by lia))
  | some o =>
  have hM:Vx (ys.length+6) (L.map Od.us):=hM
  refine go (Z4e fr ft4 sc (n2+1) o.1.1 o.1.2 o.2.1.1 o.2.1.2 o.2.2.1 o.2.2.2) G hf O4 (fun x5 h5 t5 g5 O5 qy qv=>?_) (hT:=fun n t=>by dsimp only [tP]; rw [Yk])
  refine hQ (n2+1) L el h5 t5 g5 ⟨hM.ne,hM.le,fun x hx=>⟨(hM.line x hx).1,(hM.line x hx).2.1,fun u hu=>Zn ((hM.line x hx).2.2 u hu) (by lia)⟩⟩ (h2w (by lia)) (Own.drop (r:=[(fr,Zr2 (HZ w b) ft4 sc (n2+1) (some o)),(lj,Za (Jh (ys++Xd) tz) 0),(lt,Za (Jh Xd tj) 0)]) (O5.perm ?_)) (by lia) (gtr (gtr (gtr (gtr qD qF) qz) qw) qv)
  exact pm [_,_,_,_,_] [_,_] 1074440410679826402263041 6227704487658113
end
end
section
section
theorem Zz7 (sc:Nat):TK prog w b fun b n t=>tG [] (fun x=>[]) (fun x=>[(n,Yy (HZ w b) (fun j=>x.nat (j+2)) [.ref sc] #[]),(n+1,X4),(n+2,X4)]) (Ua 826 (Z7 (TZ w b) 826) ⟨[.ref sc],[]⟩) (fun x=>.ok (Zm (TZ w b) n (n+1) (n+2))) (md:=fun x=>3):=tkm [2,1,0] [0,3,3] exJ 3
theorem Zws (fr kc wc:Nat):TK prog w b fun b _ _=>tP [] [] (Zj (Zk (lwV (TZ w b) 0)) (Zm (TZ w b) fr kc wc)) ((.ref 780)) 0:=tkm [] [0] exZ 0
theorem Ztl (fr kc wc:Nat) (ft:LM) (sl:LG) (a:Nat):TK prog w b fun b _ _=>tP [(fr,Yy (HZ w b) ft [.ref a] sl)] [] (Zj (Zo (lwV (TZ w b) 0) 0) (Zm (TZ w b) fr kc wc)) ((.ref a)) 0:=tkm [0] [1] exZ 0
theorem Zur (fr kc wc:Nat) (ft:LM) (sl:LG) (v0:Value) (a:Nat):TK prog w b fun b _ _=>tW [(fr,Yy (HZ w b) ft [v0] sl)] (fun x=>[(fr,Yy (HZ w b) (fun j=>x.nat (j+2)) [v0,.ref a] sl)]) (Yf (Zm (TZ w b) fr kc wc) "lines" (.ref a)) (()):=tkm [0] [1,1] exJ 0
theorem Z4l (fr kc wc:Nat):TK prog w b fun b n t=>tG [(kc,X4),(46,Zbp)] (fun x=>(kc,Zp (.ref (n+60)))::(Ys n (fun k=>x.nat (k+122))++[(46,Yp n)])) (fun x=>Z1 (HZ w b) (TZ w b) (adK n) (fun k=>x.nat (k+2))) (Xr [lwS (TZ w b) 1] (Zm (TZ w b) fr kc wc)) (fun x=>.ok .next) (k:=90):=tkc (cons:=fun b=>[Yao (HZ w b) (TZ w b)]) (Zb (fun n t c l bb=>Yag n t) Zd) [0,1,2,3,4,5,6,7,8,9,10,11,12,13,14,15,19,16,17,18] [0,0,0,1,1,1,0,20,20] (fun f _ _ _=>exN fun k=>(f 0).nat (k+2))
theorem Zw9 (fr kc wc:Nat):TK prog w b fun b _ _=>tP [] [] (Zj (Zk (Yaq (TZ w b))) (Zm (TZ w b) fr kc wc)) ((.ref 760)) 0:=tkm [] [0] exZ 0
theorem Ztk (fr kc wc:Nat):TK prog w b fun b _ _=>tP [] [] (Zj (Zk (Z5f (TZ w b))) (Zm (TZ w b) fr kc wc)) ((.ref 767)) 0:=tkm [] [0] exZ 0
theorem Zs3 (fr kc wc:Nat) (ft:LM) (sl:LG) (v0:Value) (a:Nat):TK prog w b fun b _ _=>tP [(fr,Yy (HZ w b) ft [v0,.ref a] sl)] [] (Zj (Ze (Znr (TZ w b)) 0) (Zm (TZ w b) fr kc wc)) ((.ref a)) 0:=tkm [0] [1] exZ 0
theorem Zww (C fr kc wc:Nat) (o:Option (Nat×(Addr))) (d:Addr):TK prog w b fun b n t=>lw2a (HZ w b) (TZ w b) Zs C fr kc wc (o.map fun p=>(p.1,.ref p.2)) (.ref d) n t:=by
 cases o with
 | none=>exact tkm [0] [1,1] exT 0
 | some o=>exact tkm [0] [1,1] exT 0
theorem Zw4 (C fr kc wc:Nat):TK prog w b fun b _ _=>tP [] [] (Zj (Zk (Zh (Znr (TZ w b)))) (compEnvC (Zc (Znr (TZ w b))) [] C (Zm (TZ w b) fr kc wc))) ((.ref 767)) 0:=tkm [] [0] exZ 0
theorem Zs9 (C fr kc wc:Nat) (t1 a:Nat):TK prog w b fun b _ _=>tP [(C,xV (HZ w b) "line" (some (t1,.ref a)))] [] (Zj (Zo (Zh (Znr (TZ w b))) 0) (compEnvC (Zc (Znr (TZ w b))) [] C (Zm (TZ w b) fr kc wc))) ((.ref a)) 0:=tkm [0] [1] exZ 0
theorem Zue (C fr kc wc:Nat) (o:Option (Nat×(List Nat×Nat))) (d:List Nat×Nat):TK prog w b fun b n t=>lw2b (HZ w b) (TZ w b) Zs C fr kc wc (o.map fun p=>(p.1,.str (S p.2.1) p.2.2)) (.str (S d.1) d.2) n t:=by
 cases o with
 | none=>exact tkm [0] [1,1] exT 0
 | some o=>exact tkm [0] [1,1] exT 0
theorem Zvn (C fr kc wc:Nat):TK prog w b fun b _ _=>tP [] [] (Zj (Zk (Zh (Za4 (TZ w b)))) (compEnvC (Zc (Za4 (TZ w b))) [] C (Zm (TZ w b) fr kc wc))) ((.ref 760)) 0:=tkm [] [0] exZ 0
theorem Zx8 (C fr kc wc:Nat) (t1:Nat) (u:List Nat) (tu:Nat):TK prog w b fun b _ _=>tP [(C,xV (HZ w b) "text" (some (t1,.str (S u) tu)))] [] (Zj (Zo (Zh (Za4 (TZ w b))) 0) (compEnvC (Zc (Za4 (TZ w b))) [] C (Zm (TZ w b) fr kc wc))) ((.str (S u) tu)) 0:=tkm [0] [1] exZ 0
theorem Ztb (fr kc wc:Nat) (ft:LM) (sl:LG) (v0 v1:Value) (a:Nat):TK prog w b fun b _ _=>tW [(fr,Yy (HZ w b) ft [v0,v1] sl)] (fun x=>[(fr,Yy (HZ w b) (fun j=>x.nat (j+2)) [v0,v1,.ref a] sl)]) (Zs (Y0 (lwS (TZ w b) 2)) (Zm (TZ w b) fr kc wc) (.ref a)) (()):=tkm [0] [1,1] exJ 0
theorem Zta (fr kc wc:Nat):TK prog w b fun b _ _=>tP [] [] (Zj (Zk (lwV (TZ w b) 3)) (Zm (TZ w b) fr kc wc)) ((.ref 767)) 0:=tkm [] [0] exZ 0
theorem Zuj (fr kc wc:Nat):TK prog w b fun b _ _=>tP [] [] (Zj (Zk (Z5m (TZ w b))) (Zm (TZ w b) fr kc wc)) ((.builtin "sorted")) 0:=tkm [] [0,0] exZ 0
theorem Zuf (fr kc wc:Nat) (ft:LM) (sl:LG) (v0 v1:Value) (a:Nat):TK prog w b fun b _ _=>tP [(fr,Yy (HZ w b) ft [v0,v1,.ref a] sl)] [] (Zj (Ze (Zjl (TZ w b)) 0) (Zm (TZ w b) fr kc wc)) ((.ref a)) 0:=tkm [0] [1] exZ 0
theorem Zx0 (C fr kc wc:Nat) (o:Option (Nat×(Addr))) (d:Addr):TK prog w b fun b n t=>lw3a (HZ w b) (TZ w b) Zs C fr kc wc (o.map fun p=>(p.1,.ref p.2)) (.ref d) n t:=by
 cases o with
 | none=>exact tkm [0] [1,1] exT 0
 | some o=>exact tkm [0] [1,1] exT 0
theorem Zt0 (C fr kc wc:Nat):TK prog w b fun b _ _=>tP [] [] (Zj (Zk (Zh (Zjl (TZ w b)))) (compEnvC (Zc (Zjl (TZ w b))) (Zij kc) C (Zm (TZ w b) fr kc wc))) ((.ref 767)) 0:=tkm [] [0] exZ 0
theorem Zwe (C fr kc wc:Nat):TK prog w b fun b _ _=>tP [] [] (Zj (Zk (Z48 (TZ w b))) (compEnvC (Zc (Zjl (TZ w b))) (Zij kc) C (Zm (TZ w b) fr kc wc))) ((.builtin "sorted")) 0:=tkm [] [0,0] exZ 0
theorem Zsr (C fr kc wc:Nat) (t1 a:Nat):TK prog w b fun b _ _=>tP [(C,xV (HZ w b) "row" (some (t1,.ref a)))] [] (Zj (Zo (Z48 (TZ w b)) 0) (compEnvC (Zc (Zjl (TZ w b))) (Zij kc) C (Zm (TZ w b) fr kc wc))) ((.ref a)) 0:=tkm [0] [1] exZ 0
theorem Zwt (C fr kc wc:Nat) (q:Nat):TK prog w b fun b _ _=>tP [(kc,Zp (.ref q))] [] (Zj (kwV (Z48 (TZ w b))) (compEnvC (Zc (Zjl (TZ w b))) (Zij kc) C (Zm (TZ w b) fr kc wc))) ((.ref q)) 0:=tkm [0] [1] exZ 0
theorem Zse (fr kc wc:Nat) (q:Nat):TK prog w b fun b _ _=>tP [(kc,Zp (.ref q))] [] (Zj (kwV (Z5m (TZ w b))) (Zm (TZ w b) fr kc wc)) ((.ref q)) 0:=tkm [0] [1] exZ 0
theorem Zv3 (fr kc wc:Nat) (ft:LM) (sl:LG) (v0 v1 v2:Value) (u:List Nat) (tu:Nat):TK prog w b fun b _ _=>tW [(fr,Yy (HZ w b) ft [v0,v1,v2] sl)] (fun x=>[(fr,Yy (HZ w b) (fun j=>x.nat (j+2)) [v0,v1,v2,.str (S u) tu] sl)]) (Yf (Zm (TZ w b) fr kc wc) "ordered" (.str (S u) tu)) (()):=tkm [0] [1,1] exJ 0
theorem Zwg (fr kc wc:Nat):TK prog w b fun b _ _=>tP [] [] (Zj (Zk (lwV (TZ w b) 4)) (Zm (TZ w b) fr kc wc)) ((.ref 60)) 0:=tkm [] [0] exZ 0
theorem Zus (fr kc wc:Nat):TK prog w b fun b _ _=>tP [] [] (Zj (Zo (lwV (TZ w b) 4) 0) (Zm (TZ w b) fr kc wc)) ((.ref 792)) 0:=tkm [] [0] exZ 0
theorem Zvo (fr kc wc:Nat):TK prog w b fun b _ _=>tG [] (fun x=>[]) (fun x=>[]) (Zj (Zo (lwV (TZ w b) 4) 2) (Zm (TZ w b) fr kc wc)) (fun x=>.ok (.str (S []) (x.nat 2))) (md:=fun x=>0):=tkm [] [] (fun _ r _ _=>exN fun _=>(match r with | .ok v=>Ju v | _=>0)) 0
theorem Zvj (fr kc wc:Nat) (ft:LM) (sl:LG) (v0 v1 v3:Value) (a:Nat):TK prog w b fun b _ _=>tP [(fr,Yy (HZ w b) ft [v0,v1,.ref a,v3] sl)] [] (Zj (Ze (Zhw (TZ w b)) 0) (Zm (TZ w b) fr kc wc)) ((.ref a)) 0:=tkm [0] [1] exZ 0
theorem Ztt (C fr kc wc:Nat) (o:Option (Nat×(Addr))) (d:Addr):TK prog w b fun b n t=>lw4a (HZ w b) (TZ w b) Zs C fr kc wc (o.map fun p=>(p.1,.ref p.2)) (.ref d) n t:=by
 cases o with
 | none=>exact tkm [0] [1,1] exT 0
 | some o=>exact tkm [0] [1,1] exT 0
theorem Zub (C fr kc wc:Nat):TK prog w b fun b _ _=>tP [] [] (Zj (Zk (Zh (Zhw (TZ w b)))) (compEnvC (Zc (Zhw (TZ w b))) [] C (Zm (TZ w b) fr kc wc))) ((.ref 60)) 0:=tkm [] [0] exZ 0
theorem Zsu (C fr kc wc:Nat):TK prog w b fun b _ _=>tP [] [] (Zj (Zo (Zh (Zhw (TZ w b))) 0) (compEnvC (Zc (Zhw (TZ w b))) [] C (Zm (TZ w b) fr kc wc))) ((.ref 792)) 0:=tkm [] [0] exZ 0
theorem Zwb (C fr kc wc:Nat) (t1 a:Nat):TK prog w b fun b _ _=>tP [(C,xV (HZ w b) "row" (some (t1,.ref a)))] [] (Zj (Zo (Zh (Zhw (TZ w b))) 1) (compEnvC (Zc (Zhw (TZ w b))) [] C (Zm (TZ w b) fr kc wc))) ((.ref a)) 0:=tkm [0] [1] exZ 0
theorem Zt2 (C fr kc wc:Nat):TK prog w b fun b _ _=>tG [] (fun x=>[]) (fun x=>[]) (Zj (Zo (Zh (Zhw (TZ w b))) 2) (compEnvC (Zc (Zhw (TZ w b))) [] C (Zm (TZ w b) fr kc wc))) (fun x=>.ok (.str (S []) (x.nat 2))) (md:=fun x=>0):=tkm [] [] (fun _ r _ _=>exN fun _=>(match r with | .ok v=>Ju v | _=>0)) 0
theorem Zwz (fr kc wc:Nat) (ft:LM) (sl:LG) (v0 v1 v2 v3:Value) (u:List Nat) (tu:Nat):TK prog w b fun b _ _=>tW [(fr,Yy (HZ w b) ft [v0,v1,v2,v3] sl)] (fun x=>[(fr,Yy (HZ w b) (fun j=>x.nat (j+2)) [v0,v1,v2,v3,.str (S u) tu] sl)]) (Yf (Zm (TZ w b) fr kc wc) "folded" (.str (S u) tu)) (()):=tkm [0] [1,1] exJ 0
theorem Zvt (fr kc wc:Nat):TK prog w b fun b _ _=>tP [] [] (Zj (Zk (lwV (TZ w b) 5)) (Zm (TZ w b) fr kc wc)) ((.ref 767)) 0:=tkm [] [0] exZ 0
theorem Zty (fr kc wc:Nat):TK prog w b fun b _ _=>tP [] [] (Zj (Zk (Z5w (TZ w b))) (Zm (TZ w b) fr kc wc)) ((.builtin "sorted")) 0:=tkm [] [0,0] exZ 0
theorem Zxd (fr kc wc:Nat) (ft:LM) (sl:LG) (v0 v2 v3 v4:Value) (a:Nat):TK prog w b fun b _ _=>tP [(fr,Yy (HZ w b) ft [v0,.ref a,v2,v3,v4] sl)] [] (Zj (Ze (Zjp (TZ w b)) 0) (Zm (TZ w b) fr kc wc)) ((.ref a)) 0:=tkm [0] [1] exZ 0
theorem Zux (C fr kc wc:Nat) (o:Option (Nat×(Addr))) (d:Addr):TK prog w b fun b n t=>lw5a (HZ w b) (TZ w b) Zs C fr kc wc (o.map fun p=>(p.1,.ref p.2)) (.ref d) n t:=by
 cases o with
 | none=>exact tkm [0] [1,1] exT 0
 | some o=>exact tkm [0] [1,1] exT 0
theorem Zx1 (C fr kc wc:Nat):TK prog w b fun b _ _=>tP [] [] (Zj (Zk (Zh (Zjp (TZ w b)))) (compEnvC (Zc (Zjp (TZ w b))) [] C (Zm (TZ w b) fr kc wc))) ((.ref 767)) 0:=tkm [] [0] exZ 0
theorem Zt3 (C fr kc wc:Nat):TK prog w b fun b _ _=>tP [] [] (Zj (Zk (Z49 (TZ w b))) (compEnvC (Zc (Zjp (TZ w b))) [] C (Zm (TZ w b) fr kc wc))) ((.builtin "sorted")) 0:=tkm [] [0,0] exZ 0
theorem Zxn (C fr kc wc:Nat) (t1 a:Nat):TK prog w b fun b _ _=>tP [(C,xV (HZ w b) "line" (some (t1,.ref a)))] [] (Zj (Zo (Z49 (TZ w b)) 0) (compEnvC (Zc (Zjp (TZ w b))) [] C (Zm (TZ w b) fr kc wc))) ((.ref a)) 0:=tkm [0] [1] exZ 0
theorem Zxm (C fr kc wc:Nat):TK prog w b fun b _ _=>tP [] [] (Zj (kwV (Z49 (TZ w b))) (compEnvC (Zc (Zjp (TZ w b))) [] C (Zm (TZ w b) fr kc wc))) ((.ref 804)) 0:=tkm [] [0] exZ 0
theorem Zwy (fr kc wc:Nat):TK prog w b fun b _ _=>tP [] [] (Zj (kwV (Z5w (TZ w b))) (Zm (TZ w b) fr kc wc)) ((.ref 804)) 0:=tkm [] [0] exZ 0
theorem Zxv (fr kc wc:Nat) (ft:LM) (sl:LG) (v0 v1 v2 v3 v4:Value) (u:List Nat) (tu:Nat):TK prog w b fun b _ _=>tW [(fr,Yy (HZ w b) ft [v0,v1,v2,v3,v4] sl)] (fun x=>[(fr,Yy (HZ w b) (fun j=>x.nat (j+2)) [v0,v1,v2,v3,v4,.str (S u) tu] sl)]) (Yf (Zm (TZ w b) fr kc wc) "told" (.str (S u) tu)) (()):=tkm [0] [1,1] exJ 0
theorem Zsw (fr kc wc:Nat) (ft:LM) (sl:LG) (v0 v1 v3 v4 v5:Value) (a:Nat):TK prog w b fun b _ _=>tP [(fr,Yy (HZ w b) ft [v0,v1,.ref a,v3,v4,v5] sl)] [] (Zj (Ze (Uv (TZ w b)) 0) (Zm (TZ w b) fr kc wc)) ((.ref a)) 0:=tkm [0] [1] exZ 0
theorem Zm6 (C fr kc wc:Nat) (a0:Addr):TK prog w b fun b n t=>Zxf (HZ w b) (TZ w b) Zs C fr kc wc none (.ref a0) n t:=tkm [0] [1,1] Go 0
theorem Zm8 (C fr kc wc:Nat) (t1:Nat) (a1:Addr) (a0:Addr):TK prog w b fun b n t=>Zxf (HZ w b) (TZ w b) Zs C fr kc wc (some (t1,.ref a1,none)) (.ref a0) n t:=tkm [0] [1,1] Go 0
theorem Zj4 (C fr kc wc:Nat) (t1 t2:Nat) (a1:Addr) (W2:List Nat) (u2:Nat) (a0:Addr):TK prog w b fun b n t=>Zxf (HZ w b) (TZ w b) Zs C fr kc wc (some (t1,.ref a1,some (t2,.str (S W2) u2))) (.ref a0) n t:=tkm [0] [1,1] Go 0
theorem Zjy (C fr kc wc:Nat) (t1:Nat) (a1:Addr) (W0:List Nat) (u0:Nat):TK prog w b fun b n t=>Z3i (HZ w b) (TZ w b) Zs C fr kc wc (some (t1,.ref a1,none)) (.str (S W0) u0) n t:=tkm [0] [1,1] Go 0
theorem Zkb (C fr kc wc:Nat) (t1 t2:Nat) (a1:Addr) (W2:List Nat) (u2:Nat) (W0:List Nat) (u0:Nat):TK prog w b fun b n t=>Z3i (HZ w b) (TZ w b) Zs C fr kc wc (some (t1,.ref a1,some (t2,.str (S W2) u2))) (.str (S W0) u0) n t:=tkm [0] [1,1] Go 0
theorem Zt6 (C fr kc wc:Nat) (t1 a:Nat) (o:Option (Nat×(List Nat×Nat))):TK prog w b fun b _ _=>tP [(C,x2V (HZ w b) "row" "word" (some (t1,.ref a,o.map fun p=>(p.1,.str (S p.2.1) p.2.2))))] [] (Zj (Ze (Uv (TZ w b)) 1) (compEnvC (Zc (Uv (TZ w b))) [] C (Zm (TZ w b) fr kc wc))) ((.ref a)) 0:=by
 cases o with
 | none=>exact tkm [0] [1] exZ 0
 | some o=>exact tkm [0] [1] exZ 0
theorem Zxb (C fr kc wc:Nat) (t1 a t2:Nat) (u:List Nat) (tu:Nat):TK prog w b fun b _ _=>tP [(C,x2V (HZ w b) "row" "word" (some (t1,.ref a,some (t2,.str (S u) tu))))] [] (Zj (Zh (Uv (TZ w b))) (compEnvC (Zc (Uv (TZ w b))) [] C (Zm (TZ w b) fr kc wc))) ((.str (S u) tu)) 0:=tkm [0] [1] exZ 0
theorem Zsz (fr kc wc:Nat) (a:Nat):TK prog w b fun b _ _=>tW [(wc,X4)] (fun x=>[(wc,Zp (.ref a))]) (Yf (Zm (TZ w b) fr kc wc) "words" (.ref a)) (()):=tkm [0] [1,1] exZ 0
end
end
noncomputable def Zc5 (top:LE) (fr:Addr):Env:={ scope:=(Z7 top 821).scope,locals:=fr,globals:=3,cells:=[],qual := "_law_six.<locals>.",func:=some 821,code:=.ref 820,frame:=some fr,builtins:=0 }
noncomputable def Zjo (w:Hs) (ta tb:Nat) (p q:Addr):Obj:={ cls:=.type "frame",data:=.dict #[ent w "a" ta (.ref p),ent w "b" tb (.ref q)] 2 }
noncomputable def sxL (top:LE):Expr:=M6 (Zl (Z7 top 821) 0)
noncomputable def sxE (top:LE) (k:Nat):Expr:=Z7s (sxL top) k
section
theorem Z0o (p q:Addr):TK prog w b fun b n t=>tG [] (fun x=>[]) (fun x=>[(n,Zjo (HZ w b) (x.nat 2) (x.nat 3) p q)]) (Ua 821 (Z7 (TZ w b) 821) ⟨[.ref p,.ref q],[]⟩) (fun x=>.ok (Zc5 (TZ w b) n)) (md:=fun x=>1):=tkm [0] [0,1,1,1,1] (fun _ _ l _=>exN fun k=>match k with | 0=>Nb l 0 0 | _=>Nb l 0 1) 1
theorem Z0g (fr ta tb:Nat) (p q:Addr) (k:Nat) (hk:k < 6):TK prog w b fun b _ _=>tP [(fr,Zjo (HZ w b) ta tb p q)] [] (Zj (Zh7 (sxE (TZ w b) k)) (Zc5 (TZ w b) fr)) (.ref p) 0:=tkm [0] [1] exZ 0 (by
  revert k
  refine Zbq 6 ?_
  kernel_rfl)
theorem Z3d (fr ta tb:Nat) (p q:Addr) (k:Nat) (hk:k < 6):TK prog w b fun b _ _=>tP [(fr,Zjo (HZ w b) ta tb p q)] [] (Zj (Pk (sxE (TZ w b) k) 0) (Zc5 (TZ w b) fr)) (.ref q) 0:=tkm [0] [1] exZ 0 (by
  revert k
  refine Zbq 6 ?_
  kernel_rfl)
end
section
open PySem PySem.W PySem.W.X PySem.SeqAt
noncomputable def opK (k:Nat):CmpOp:=match k with
 | 0=>.Lt
 | 1=>.LtE
 | 2=>.Eq
 | 3=>.NotEq
 | 4=>.GtE
 | _=>.Gt
theorem Zs7 (k:Nat):opK k=.Lt∨opK k=.LtE∨opK k=.Eq∨opK k=.NotEq∨opK k=.GtE∨opK k=.Gt:=by
 match k with
 | 0=>exact .inl rfl
 | 1=>exact .inr (.inl rfl)
 | 2=>exact .inr (.inr (.inl rfl))
 | 3=>exact .inr (.inr (.inr (.inl rfl)))
 | 4=>exact .inr (.inr (.inr (.inr (.inl rfl))))
 | _+5=>exact .inr (.inr (.inr (.inr (.inr rfl))))
noncomputable def Zjj (z:Int):LH:=[.bool (opZ .Lt z),.bool (opZ .LtE z),.bool (opZ .Eq z),.bool (opZ .NotEq z),.bool (opZ .GtE z),.bool (opZ .Gt z)]
section
theorem Z9b:((Mn (wb w b) 821).bind Uq)=some (Z7 (TZ w b) 821):=kf
theorem Zvx:(Z7 (TZ w b) 821).body=.stmts [Zl (Z7 (TZ w b) 821) 0]:=kf
theorem sx_s:Zl (Z7 (TZ w b) 821) 0=.Return (some (.List [sxE (TZ w b) 0,sxE (TZ w b) 1,sxE (TZ w b) 2,sxE (TZ w b) 3,sxE (TZ w b) 4,sxE (TZ w b) 5] (Yv (sxL (TZ w b))))) (Y5 (Zl (Z7 (TZ w b) 821) 0)):=kf
theorem sx_e (k:Nat) (hk:k < 6):sxE (TZ w b) k=.Compare (Zh7 (sxE (TZ w b) k)) [opK k] [Pk (sxE (TZ w b) k) 0] (Yv (sxE (TZ w b) k)):=by
 revert k
 refine Zbq 6 ?_
 cases b<;>kernel_rfl
theorem sx_m (k:Nat) (hk:k < 6):behindInMarks (opK k) (Pk (sxE (TZ w b) k) 0)=false:=by
 revert k
 refine Zbq 6 ?_
 cases b<;>kernel_rfl
theorem Z6y (qq:Env):backTo (Yv (sxL (TZ w b))) (starEach [sxE (TZ w b) 0,sxE (TZ w b) 1,sxE (TZ w b) 2,sxE (TZ w b) 3,sxE (TZ w b) 4,sxE (TZ w b) 5] qq)=[(false,eval (sxE (TZ w b) 0) qq),(false,eval (sxE (TZ w b) 1) qq),(false,eval (sxE (TZ w b) 2) qq),(false,eval (sxE (TZ w b) 3) qq),(false,eval (sxE (TZ w b) 4) qq),(false,eval (sxE (TZ w b) 5) qq)]:=kf
theorem Zg8 {A:Around} (hA:AOk A none 106) (G:Ground T2 (wb w b) H) {p q:Addr} {z:Int} (Cx:Nat->LC)
  (cmp:∀ (k:Nat) (A:Around) c m h t g (Q:LF) (E:LF),AOk A none 103->Own H (Cx c++m) h->(∀ c' h' t' g',Own H (Cx c'++m) h'->t<=t'->Zq true g g'->Q (.bool (opZ (opK k) z)) (r.at h' ⟨t',g'⟩))->wpAny (model prog (wb w b)) A (compareOp (opK k) (.ref p) (.ref q)) Q E (r.at h ⟨t,g⟩))
  {Q:LF} {E:LF} (O:Own H (Cx c++l) h)
  (hQ:∀ acc c' h' t' g',Own H ((acc,Za (Zjj z) 0)::(Cx c'++l)) h'->t<=t'->Zq true g g'->Q (.ref acc) (r.at h' ⟨t',g'⟩)) :
  wpAny (model prog (wb w b)) A (call (.ref 821) [.ref p,.ref q]) Q E (r.at h ⟨t,g⟩):=by
 have qE:100<=sizeLine:=by decide +kernel
 obtain ⟨o,ho,hd⟩:=Pl.mp (Z9b (w:=w) (b:=b))
 refine U7 (O.keep _ _ (G.top _ _ ho)) hd Zvx (N:=105) hA ?_
 refine go (Z0o p q) G ((hA.under (Zr rfl)).bare (Y9 _)) O (rest:=Cx c++l) fun x1 h1 t1 g1 O1 qK qD=>⟨G.nolimit.keeps O1.keep,?_⟩
 generalize h.objs.size=fr at O1 ⊢
 have O1:Own H ((fr,Zjo (HZ w b) (x1.nat 2) (x1.nat 3) p q)::(Cx c++l)) h1:=O1
 generalize x1.nat 2=ta at O1
 generalize x1.nat 3=tb at O1
 have hf:AOk (A.under (.func [Zl (Z7 (TZ w b) 821) 0] (Zc5 (TZ w b) fr))) none 105:=(hA.under (Zr rfl)).bare (Y9 _)
 generalize A.under (.func [Zl (Z7 (TZ w b) 821) 0] (Zc5 (TZ w b) fr))=A2 at hf
 show wpAny _ A2 (execs _ (Zc5 (TZ w b) fr)) _ _ _
 have one:∀ (k:Nat),k < 6->∀ {c:Nat} {h:Heap} {t:Nat} {g:LK} {Q:LF} {E:LF},Own H ((fr,Zjo (HZ w b) ta tb p q)::(Cx c++l)) h->(∀ c' h' t' g',Own H ((fr,Zjo (HZ w b) ta tb p q)::(Cx c'++l)) h'->t<=t'->Zq true g g'->Q (.bool (opZ (opK k) z)) (r.at h' ⟨t',g'⟩))->wpAny (model prog (wb w b)) A2 (eval (sxE (TZ w b) k) (Zc5 (TZ w b) fr)) Q E (r.at h ⟨t,g⟩):=by
  intro k hk c h t g Q E O hQ
  rw [sx_e k hk]
  refine wpAny_Compare1 ?_ (sx_m k hk)
  have hAB:∀ {h:Heap} {t:Nat} {g:LK} {Q:LF} {E:LF},Own H ((fr,Zjo (HZ w b) ta tb p q)::(Cx c++l)) h->(∀ h' t' g',Own H ((fr,Zjo (HZ w b) ta tb p q)::(Cx c++l)) h'->t<=t'->Zq true g g'->Q (.ref p) (r.at h' ⟨t',g'⟩))->wpAny (model prog (wb w b)) A2 (eval (Zh7 (sxE (TZ w b) k)) (Zc5 (TZ w b) fr)) Q E (r.at h ⟨t,g⟩):=by
   intro h t g Q E O hR
   exact go (Z0g fr ta tb p q k hk) G hf O fun x h3 t3 g3 O3 qx qz=>hR h3 t3 g3 O3 qx qz
  have hBB:∀ {h:Heap} {t:Nat} {g:LK} {Q:LF} {E:LF},Own H ((fr,Zjo (HZ w b) ta tb p q)::(Cx c++l)) h->(∀ h' t' g',Own H ((fr,Zjo (HZ w b) ta tb p q)::(Cx c++l)) h'->t<=t'->Zq true g g'->Q (.ref q) (r.at h' ⟨t',g'⟩))->wpAny (model prog (wb w b)) A2 (eval (Pk (sxE (TZ w b) k) 0) (Zc5 (TZ w b) fr)) Q E (r.at h ⟨t,g⟩):=by
   intro h t g Q E O hR
   exact go (Z3d fr ta tb p q k hk) G hf O fun x h3 t3 g3 O3 qx qz=>hR h3 t3 g3 O3 qx qz
  refine hAB O fun h3 t3 g3 O3 qx qz=>?_
  refine hBB O3 fun h4 t4 g4 O4 qB qw=>?_
  refine cmp k A2 c ((fr,Zjo (HZ w b) ta tb p q)::l) h4 t4 g4 _ _ (hf.le (by decide)) (O4.perm (by generalize Cx c=lc; exact pm [_] [_,_] 115074 114947)) fun c' h5 t5 g5 O5 qy qv=>?_
  exact hQ c' h5 t5 g5 (O5.perm (by generalize Cx c'=lc; exact pm [_] [_,_] 114947 115074)) (by exact (Zn qx (Zn qB qy))) (gtr (gtr qz qw) qv)
 rw [Z5,sx_s]
 refine Zru (wpAny_List ?_)
 rw [Z6y]
 refine Q8q (one 0 (by decide) O1 fun c2 h2 t2 g2 O2 qN qF=>?_)
 refine Q8q (one 1 (by decide) O2 fun c3 h3 t3 g3 O3 qx qz=>?_)
 refine Q8q (one 2 (by decide) O3 fun c4 h4 t4 g4 O4 qB qw=>?_)
 refine Q8q (one 3 (by decide) O4 fun c5 h5 t5 g5 O5 qy qv=>?_)
 refine Q8q (one 4 (by decide) O5 fun c6 h6 t6 g6 O6 qG qC=>?_)
 refine Q8q (one 5 (by decide) O6 fun c7 h7 t7 g7 O7 qO qM=>?_)
 refine Q9q ⟨by show 6<=_; decide,?_⟩
 have O8:=O7.push (Za (Zjj z) 0) rfl
 exact hQ _ c7 _ t7 g7 (Own.drop (r:=[(fr,Zjo (HZ w b) ta tb p q)]) (O8.perm (by generalize Cx c7=lc; exact pm [_,_] [_,_] 14729858 1356906753))) (by exact (Zn qK (Zn qN (Zn qx (Zn qB (Zn qy (Zn qG qO))))))) (gtr (gtr (gtr (gtr (gtr (gtr qD qF) qz) qw) qv) qC) qM)
end
end
section
open PySem PySem.W PySem.W.X PySem.SeqAt
section
theorem Zsy (hA:AOk A none 106) (G:Ground T2 (wb w b) H) (a:LN) (k:LM) (h1:W1.length<=100000) (h2:W2.length<=100000) {x y:Nat}
  (O:Own H (V1 (HZ w b) (TZ w b) a k x y dx dy W1 W2 t1 t2 c++l) h)
  (hQ:∀ acc c' h' t' g',Own H ((acc,Za (Zjj (cpQ W1 W2)) 0)::(V1 (HZ w b) (TZ w b) a k x y dx dy W1 W2 t1 t2 c'++l)) h'->t<=t'->Zq true g g'->Q (.ref acc) (r.at h' ⟨t',g'⟩)) :
  wpAny (model prog (wb w b)) A (call (.ref 821) [.ref x,.ref y]) Q E (r.at h ⟨t,g⟩):=by
 refine Zg8 hA G (z:=cpQ W1 W2) (fun c=>V1 (HZ w b) (TZ w b) a k x y dx dy W1 W2 t1 t2 c) (fun n A c m h t g Q E hA O hQ=>?_) O hQ
 have hA1:AOk A none 101:=hA.le (by decide)
 rcases n with _ | _ | _ | _ | _ | n
 ·exact Zim 0 a k h1 h2 hA1 G O fun c' h' t' g' O' hs' ht' gr'=>hQ c' h' t' g' O' ht' gr'
 ·exact Zim 3 a k h1 h2 hA1 G O fun c' h' t' g' O' hs' ht' gr'=>hQ c' h' t' g' O' ht' gr'
 ·exact Zim 2 a k h1 h2 hA1 G O fun c' h' t' g' O' hs' ht' gr'=>hQ c' h' t' g' O' ht' gr'
 ·exact k_ne a k h1 h2 (hA.le (by decide)) G O fun c' h' t' g' O' hs' ht' gr'=>hQ c' h' t' g' O' ht' gr'
 ·exact Zim 4 a k h1 h2 hA1 G O fun c' h' t' g' O' hs' ht' gr'=>hQ c' h' t' g' O' ht' gr'
 ·exact Zim 1 a k h1 h2 hA1 G O fun c' h' t' g' O' hs' ht' gr'=>hQ c' h' t' g' O' ht' gr'
theorem Zpg (hA:AOk A none 106) (G:Ground T2 (wb w b) H) {x y:Rk} {u v:List Nat} (hx:x.ps.map Tp.pq=Ve u) (hy:y.ps.map Tp.pq=Ve v)
  (O:Own H ((Zeg x++Zeg y)++l) h)
  (hQ:∀ acc h' t' g',Own H ((acc,Za (Zjj (cpQ u v)) 0)::((Zeg x++Zeg y)++l)) h'->t<=t'->Zq true g g'->Q (.ref acc) (r.at h' ⟨t',g'⟩)) :
  wpAny (model prog (wb w b)) A (call (.ref 821) [.ref x.a,.ref y.a]) Q E (r.at h ⟨t,g⟩):=by
 have hz:∀ op,opZ op (Pa (Ve u) (Ve v))=opZ op (cpQ u v):=fun op=>Zmy op u v
 have es:Zjj (Pa (Ve u) (Ve v))=Zjj (cpQ u v):=by unfold Zjj; simp only [hz]
 refine Zg8 hA G (z:=Pa (Ve u) (Ve v)) (fun _=>Zeg x++Zeg y) (fun n A c m h t g Q E hA O hQ=>?_) (c:=0) O (fun acc c' h' t' g' O' ht' gr'=>hQ acc h' t' g' (by rw [← es]; exact O') ht' gr')
 obtain ⟨ax,tx⟩:=Zoy O (x:=x) fun p hp=>N8 _ (N8 _ hp)
 obtain ⟨ay,ty⟩:=Zoy O (x:=y) fun p hp=>N8 _ (N7 _ hp)
 refine Zmv (s:=r.at h ⟨t,g⟩) (Zs7 n) ax ay tx ty (by have:=hA.units; lia) ?_
 rw [hx,hy]
 exact hQ c h t g O (Y9 _) (Zq.refl _ _)
end
end
section
section
theorem Zwp (fr kc wc:Nat):TK prog w b fun b _ _=>tG [] (fun x=>[]) (fun x=>[(x.nat 2,Znk 2 (x.nat 3) (x.nat 4) (x.nat 5))]) (Zj (Ze (Zbk (TZ w b)) 0) (Zm (TZ w b) fr kc wc)) (fun x=>.ok (.ref (x.nat 2))):=tkr [0] [0,0,0,0,0,0,1,1,0,1,0,1] (fun _ _ l _=>exN fun j=>match j with | 0=>Znc (oAt l 0) | 1=>fTk (Z2 l 0) 0 | 2=>fTk (Z2 l 0) 1 | _=>fTk (Z2 l 0) 2)
theorem Zuq (C fr kc wc:Nat) (o:Option (Nat×(Int×Nat))) (d:Int×Nat):TK prog w b fun b n t=>lw7a (HZ w b) (TZ w b) Zs C fr kc wc (o.map fun p=>(p.1,.int p.2.1 p.2.2)) (.int d.1 d.2) n t:=by
 cases o with
 | none=>exact tkm [0] [1,1] exT 0
 | some o=>exact tkm [0] [1,1] exT 0
theorem Zo3 (C fr kc wc:Nat) (t1 u wd:Nat) (xs:LH) (ep:Nat) (p:List Nat) (tp:Nat) (q:List Nat) (tq:Nat) (hl:xs.length < 2 ^ 62) (h0:(xs++[(.str (S p) tp)])[0]?=some (.str (S q) tq)):TK prog w b fun b _ _=>tG [(C,xV (HZ w b) "k" (some (t1,.int 0 u))),(wc,Zp (.ref wd)),(wd,Za (xs++[(.str (S p) tp)]) ep)] (fun x=>[(C,xV (HZ w b) "k" (some (t1,.int 0 u))),(wc,Zp (.ref wd)),(wd,Za (xs++[(.str (S p) tp)]) ep)]) (fun x=>[(x.nat 2,tuP (.str (S p) tp) (.str (S q) tq))]) (Zj (Zh (Zbk (TZ w b))) (compEnvC (Zc (Zbk (TZ w b))) (Z5a wc) C (Zm (TZ w b) fr kc wc))) (fun x=>.ok (.ref (x.nat 2))):=tkc (cons:=fun b=>[glF xs (.str (S p) tp),giF (xs++[(.str (S p) tp)]) 0 (.str (S q) tq)]) (Zb (fun n t c l bb=>Zai (by assumption) n t) (Zb (fun n t c l bb=>Zto (k:=0) rfl (by decide) h0 n t) Zd)) [0,2,3,1] [2,1,0,0,0,3,3,3,0,3,1,1,2,0,3,2,1,1,1,0,1,2,1,0,0] exA
theorem Zp2 (C fr kc wc:Nat) (t1 u wd:Nat) (xs:LH) (ep:Nat) (p:List Nat) (tp:Nat) (q:List Nat) (tq:Nat) (h0:xs[0]?=some (.str (S p) tp)) (h1:xs[1]?=some (.str (S q) tq)):TK prog w b fun b _ _=>tG [(C,xV (HZ w b) "k" (some (t1,.int 1 u))),(wc,Zp (.ref wd)),(wd,Za xs ep)] (fun x=>[(C,xV (HZ w b) "k" (some (t1,.int 1 u))),(wc,Zp (.ref wd)),(wd,Za xs ep)]) (fun x=>[(x.nat 2,tuP (.str (S p) tp) (.str (S q) tq))]) (Zj (Zh (Zbk (TZ w b))) (compEnvC (Zc (Zbk (TZ w b))) (Z5a wc) C (Zm (TZ w b) fr kc wc))) (fun x=>.ok (.ref (x.nat 2))):=tkc (cons:=fun b=>[giF xs 0 (.str (S p) tp),giF xs 1 (.str (S q) tq)]) (Zb (fun n t c l bb=>Zto (k:=0) rfl (by decide) h0 n t) (Zb (fun n t c l bb=>Zto (k:=1) rfl (by decide) h1 n t) Zd)) [0,2,3,1] [2,1,0,0,0,3,3,3,0,3,1,1,2,0,3,2,1,1,1,0,1,2,1,0,0] exA
theorem Zum (fr kc wc:Nat) (ft:LM) (sl:LG) (v0 v1 v2 v3 v4 v5:Value) (a:Nat):TK prog w b fun b _ _=>tW [(fr,Yy (HZ w b) ft [v0,v1,v2,v3,v4,v5] sl)] (fun x=>[(fr,Yy (HZ w b) (fun j=>x.nat (j+2)) [v0,v1,v2,v3,v4,v5,.ref a] sl)]) (Zs (Y0 (lwS (TZ w b) 7)) (Zm (TZ w b) fr kc wc) (.ref a)) (()):=tkm [0] [1,1] exJ 0
theorem Zxg (C fr kc wc p:Nat) (u:List Nat) (tu:Nat) (v:List Nat) (tv:Nat):TK prog w b fun b _ _=>tG [(C,x2V (HZ w b) "one" "other" none),(p,tuP (.str (S u) tu) (.str (S v) tv))] (fun x=>[(C,x2V (HZ w b) "one" "other" (some (x.nat 2,.str (S u) tu,some (x.nat 3,.str (S v) tv)))),(p,tuP (.str (S u) tu) (.str (S v) tv))]) (fun x=>[]) (Zs (Zf (Mx (TZ w b)) 0) (compEnvC (Zc (Mx (TZ w b))) (Zij kc) C (Zm (TZ w b) fr kc wc)) (.ref p)) (fun x=>.ok ()):=tkr [3,4] [2,2,2,0,2,0,1,1,0,1,0,1,1,3,1,1,1,0,1,0,1,1,3,1,1,1,0,1,0,1,1,3,1,1,1,4,4,4,4] Go
theorem Zu2 (C fr kc wc p t1 t2:Nat) (u1:List Nat) (k1:Nat) (v1:List Nat) (k2:Nat) (u:List Nat) (tu:Nat) (v:List Nat) (tv:Nat):TK prog w b fun b _ _=>tG [(C,x2V (HZ w b) "one" "other" (some (t1,.str (S u1) k1,some (t2,.str (S v1) k2)))),(p,tuP (.str (S u) tu) (.str (S v) tv))] (fun x=>[(C,x2V (HZ w b) "one" "other" (some (x.nat 2,.str (S u) tu,some (x.nat 3,.str (S v) tv)))),(p,tuP (.str (S u) tu) (.str (S v) tv))]) (fun x=>[]) (Zs (Zf (Mx (TZ w b)) 0) (compEnvC (Zc (Mx (TZ w b))) (Zij kc) C (Zm (TZ w b) fr kc wc)) (.ref p)) (fun x=>.ok ()):=tkr [3,4] [2,2,2,0,2,0,1,1,0,1,0,1,1,3,1,1,1,0,1,0,1,1,3,1,1,1,0,1,0,1,1,3,1,1,1,4,4,4,4] Go
theorem Zs6 (C fr kc wc p:Nat) (u:List Nat) (tu:Nat) (v:List Nat) (tv:Nat):TK prog w b fun b _ _=>tG [(C,x2V (HZ w b) "one" "other" none),(p,tuP (.str (S u) tu) (.str (S v) tv))] (fun x=>[(C,x2V (HZ w b) "one" "other" (some (x.nat 2,.str (S u) tu,some (x.nat 3,.str (S v) tv)))),(p,tuP (.str (S u) tu) (.str (S v) tv))]) (fun x=>[]) (Zs (Zf (Ug (TZ w b)) 0) (compEnvC (Zc (Ug (TZ w b))) [] C (Zm (TZ w b) fr kc wc)) (.ref p)) (fun x=>.ok ()):=tkr [3,4] [2,2,2,0,2,0,1,1,0,1,0,1,1,3,1,1,1,0,1,0,1,1,3,1,1,1,0,1,0,1,1,3,1,1,1,4,4,4,4] Go
theorem Zug (C fr kc wc p t1 t2:Nat) (u1:List Nat) (k1:Nat) (v1:List Nat) (k2:Nat) (u:List Nat) (tu:Nat) (v:List Nat) (tv:Nat):TK prog w b fun b _ _=>tG [(C,x2V (HZ w b) "one" "other" (some (t1,.str (S u1) k1,some (t2,.str (S v1) k2)))),(p,tuP (.str (S u) tu) (.str (S v) tv))] (fun x=>[(C,x2V (HZ w b) "one" "other" (some (x.nat 2,.str (S u) tu,some (x.nat 3,.str (S v) tv)))),(p,tuP (.str (S u) tu) (.str (S v) tv))]) (fun x=>[]) (Zs (Zf (Ug (TZ w b)) 0) (compEnvC (Zc (Ug (TZ w b))) [] C (Zm (TZ w b) fr kc wc)) (.ref p)) (fun x=>.ok ()):=tkr [3,4] [2,2,2,0,2,0,1,1,0,1,0,1,1,3,1,1,1,0,1,0,1,1,3,1,1,1,0,1,0,1,1,3,1,1,1,4,4,4,4] Go
theorem Zxs (fr kc wc:Nat) (ft:LM) (sl:LG) (v0 v1 v2 v3 v4 v5:Value) (a:Nat):TK prog w b fun b _ _=>tP [(fr,Yy (HZ w b) ft [v0,v1,v2,v3,v4,v5,.ref a] sl)] [] (Zj (Ze (Mx (TZ w b)) 0) (Zm (TZ w b) fr kc wc)) ((.ref a)) 0:=tkm [0] [1] exZ 0
theorem Zxh (C fr kc wc:Nat):TK prog w b fun b _ _=>tP [] [] (Zj (Zk (Zh (Mx (TZ w b)))) (compEnvC (Zc (Mx (TZ w b))) (Zij kc) C (Zm (TZ w b) fr kc wc))) ((.ref 821)) 0:=tkm [] [0] exZ 0
theorem Zp1 (aK:LN) (kk:LM) (C fr kc wc:Nat) (t1:Nat) (u:List Nat) (tu t2:Nat) (v:List Nat) (tv:Nat):TK prog w b fun b n t=>tG ((C,x2V (HZ w b) "one" "other" (some (t1,.str (S u) tu,some (t2,.str (S v) tv))))::(kc,Zp (.ref (aK 6)))::Z1 (HZ w b) (TZ w b) aK kk) (fun x=>(C,x2V (HZ w b) "one" "other" (some (t1,.str (S u) tu,some (t2,.str (S v) tv))))::(kc,Zp (.ref (aK 6)))::Z1 (HZ w b) (TZ w b) aK kk) (fun x=>[(n+1,kIn (aK 6) n u tu)]) (Zj (Zo (Zh (Mx (TZ w b))) 0) (compEnvC (Zc (Mx (TZ w b))) (Zij kc) C (Zm (TZ w b) fr kc wc))) (fun x=>.ok (.ref (n+1))) (k:=60):=tkc (cons:=fun b=>[Zpt (HZ w b) (TZ w b) aK kk u]) (Zb (fun n t c l bb=>Zma aK kk u _ n t) Zd) [0,17,18,1,2,3,4,5,6,7,8,9,10,11,12,13,14,15,16] [2,1,9,9,1,16,2,3,4,5,6,7,8,9,10,11,12,13,14,15,16,17,0] exZ
theorem Zn4 (aK:LN) (kk:LM) (C fr kc wc:Nat) (t1:Nat) (u:List Nat) (tu t2:Nat) (v:List Nat) (tv:Nat):TK prog w b fun b n t=>tG ((C,x2V (HZ w b) "one" "other" (some (t1,.str (S u) tu,some (t2,.str (S v) tv))))::(kc,Zp (.ref (aK 6)))::Z1 (HZ w b) (TZ w b) aK kk) (fun x=>(C,x2V (HZ w b) "one" "other" (some (t1,.str (S u) tu,some (t2,.str (S v) tv))))::(kc,Zp (.ref (aK 6)))::Z1 (HZ w b) (TZ w b) aK kk) (fun x=>[(n+1,kIn (aK 6) n v tv)]) (Zj (Zo (Zh (Mx (TZ w b))) 1) (compEnvC (Zc (Mx (TZ w b))) (Zij kc) C (Zm (TZ w b) fr kc wc))) (fun x=>.ok (.ref (n+1))) (k:=60):=tkc (cons:=fun b=>[Zpt (HZ w b) (TZ w b) aK kk v]) (Zb (fun n t c l bb=>Zma aK kk v _ n t) Zd) [0,17,18,1,2,3,4,5,6,7,8,9,10,11,12,13,14,15,16] [2,1,9,9,1,16,2,3,4,5,6,7,8,9,10,11,12,13,14,15,16,17,0] exZ
theorem Zxj (fr kc wc:Nat) (ft:LM) (sl:LG) (v0 v1 v2 v3 v4 v5 v6:Value) (a:Nat):TK prog w b fun b _ _=>tW [(fr,Yy (HZ w b) ft [v0,v1,v2,v3,v4,v5,v6] sl)] (fun x=>[(fr,Yy (HZ w b) (fun j=>x.nat (j+2)) [v0,v1,v2,v3,v4,v5,v6,.ref a] sl)]) (Zs (Y0 (lwS (TZ w b) 8)) (Zm (TZ w b) fr kc wc) (.ref a)) (()):=tkm [0] [1,1] exJ 0
theorem Zts (fr kc wc:Nat) (ft:LM) (sl:LG) (v0 v1 v2 v3 v4 v5 v7:Value) (a:Nat):TK prog w b fun b _ _=>tP [(fr,Yy (HZ w b) ft [v0,v1,v2,v3,v4,v5,.ref a,v7] sl)] [] (Zj (Ze (Ug (TZ w b)) 0) (Zm (TZ w b) fr kc wc)) ((.ref a)) 0:=tkm [0] [1] exZ 0
theorem Zwd (C fr kc wc:Nat):TK prog w b fun b _ _=>tP [] [] (Zj (Zk (Zh (Ug (TZ w b)))) (compEnvC (Zc (Ug (TZ w b))) [] C (Zm (TZ w b) fr kc wc))) ((.ref 821)) 0:=tkm [] [0] exZ 0
theorem Zom (C fr kc wc:Nat):TK prog w b fun b _ _=>tP [] [] (Zj (Zk (Zo (Zh (Ug (TZ w b))) 0)) (compEnvC (Zc (Ug (TZ w b))) [] C (Zm (TZ w b) fr kc wc))) ((.ref 804)) 0:=tkm [] [0] exZ 0
theorem Zox (C fr kc wc:Nat) (t1:Nat) (u:List Nat) (tu t2:Nat) (v:List Nat) (tv:Nat):TK prog w b fun b _ _=>tP [(C,x2V (HZ w b) "one" "other" (some (t1,.str (S u) tu,some (t2,.str (S v) tv))))] [] (Zj (Zo (Zo (Zh (Ug (TZ w b))) 0) 0) (compEnvC (Zc (Ug (TZ w b))) [] C (Zm (TZ w b) fr kc wc))) ((.str (S u) tu)) 0:=tkm [0] [1] exZ 0
theorem Zov (C fr kc wc:Nat):TK prog w b fun b _ _=>tP [] [] (Zj (Zk (Zo (Zh (Ug (TZ w b))) 1)) (compEnvC (Zc (Ug (TZ w b))) [] C (Zm (TZ w b) fr kc wc))) ((.ref 804)) 0:=tkm [] [0] exZ 0
theorem Zn5 (C fr kc wc:Nat) (t1:Nat) (u:List Nat) (tu t2:Nat) (v:List Nat) (tv:Nat):TK prog w b fun b _ _=>tP [(C,x2V (HZ w b) "one" "other" (some (t1,.str (S u) tu,some (t2,.str (S v) tv))))] [] (Zj (Zo (Zo (Zh (Ug (TZ w b))) 1) 0) (compEnvC (Zc (Ug (TZ w b))) [] C (Zm (TZ w b) fr kc wc))) ((.str (S v) tv)) 0:=tkm [0] [1] exZ 0
theorem Zs2 (fr kc wc:Nat) (ft:LM) (sl:LG) (v0 v1 v2 v3 v4 v5 v6 v7:Value) (a:Nat):TK prog w b fun b _ _=>tW [(fr,Yy (HZ w b) ft [v0,v1,v2,v3,v4,v5,v6,v7] sl)] (fun x=>[(fr,Yy (HZ w b) (fun j=>x.nat (j+2)) [v0,v1,v2,v3,v4,v5,v6,v7,.ref a] sl)]) (Zs (Y0 (lwS (TZ w b) 9)) (Zm (TZ w b) fr kc wc) (.ref a)) (()):=tkm [0] [1,1] exJ 0
theorem Zu0 (fr kc wc:Nat) (ft:LM) (sl:LG) (v0 v1 v2 v4 v5 v6 v7 v8:Value) (u:List Nat) (tu:Nat):TK prog w b fun b _ _=>tP [(fr,Yy (HZ w b) ft [v0,v1,v2,.str (S u) tu,v4,v5,v6,v7,v8] sl)] [] (Zj (Zh7 (Znm (TZ w b))) (Zm (TZ w b) fr kc wc)) ((.str (S u) tu)) 0:=tkm [0] [1] exZ 0
theorem Zuy (fr kc wc:Nat) (ft:LM) (sl:LG) (v0 v1 v2 v3 v5 v6 v7 v8:Value) (u:List Nat) (tu:Nat):TK prog w b fun b _ _=>tP [(fr,Yy (HZ w b) ft [v0,v1,v2,v3,.str (S u) tu,v5,v6,v7,v8] sl)] [] (Zj (Pk (Znm (TZ w b)) 0) (Zm (TZ w b) fr kc wc)) ((.str (S u) tu)) 0:=tkm [0] [1] exZ 0
theorem Zwj (fr kc wc:Nat) (ft:LM) (sl:LG) (v0 v1 v2 v3 v4 v6 v7 v8:Value) (u:List Nat) (tu:Nat):TK prog w b fun b _ _=>tP [(fr,Yy (HZ w b) ft [v0,v1,v2,v3,v4,.str (S u) tu,v6,v7,v8] sl)] [] (Zj (Pk (Znm (TZ w b)) 1) (Zm (TZ w b) fr kc wc)) ((.str (S u) tu)) 0:=tkm [0] [1] exZ 0
theorem Zwv (fr kc wc:Nat):TK prog w b fun b _ _=>tP [] [] (Zj (Zk (Zyz (TZ w b))) (Zm (TZ w b) fr kc wc)) ((.builtin "min")) 0:=tkm [] [0,0] exZ 0
theorem Zwu (fr kc wc:Nat):TK prog w b fun b _ _=>tP [] [] (Zj (Zk (Z57 (TZ w b))) (Zm (TZ w b) fr kc wc)) ((.ref 814)) 0:=tkm [] [0] exZ 0
theorem Zs4 (fr kc wc:Nat) (ft:LM) (sl:LG) (v0 v2 v3 v4 v5 v6 v7 v8:Value) (a:Nat):TK prog w b fun b _ _=>tP [(fr,Yy (HZ w b) ft [v0,.ref a,v2,v3,v4,v5,v6,v7,v8] sl)] [] (Zj (Zo (Z57 (TZ w b)) 0) (Zm (TZ w b) fr kc wc)) ((.ref a)) 0:=tkm [0] [1] exZ 0
theorem Zxe (fr kc wc:Nat) (ft:LM) (sl:LG) (v0 v1 v2 v3 v4 v5 v6 v8:Value) (a:Nat):TK prog w b fun b _ _=>tP [(fr,Yy (HZ w b) ft [v0,v1,v2,v3,v4,v5,v6,.ref a,v8] sl)] [] (Zj (Zh7 (Zyp (TZ w b))) (Zm (TZ w b) fr kc wc)) ((.ref a)) 0:=tkm [0] [1] exZ 0
theorem Zsx (fr kc wc:Nat) (ft:LM) (sl:LG) (v0 v1 v2 v3 v4 v5 v6 v7:Value) (a:Nat):TK prog w b fun b _ _=>tP [(fr,Yy (HZ w b) ft [v0,v1,v2,v3,v4,v5,v6,v7,.ref a] sl)] [] (Zj (Pk (Zyp (TZ w b)) 0) (Zm (TZ w b) fr kc wc)) ((.ref a)) 0:=tkm [0] [1] exZ 0
end
end
section
section
theorem AOk.underF {fs:List Env} {body:List Stmt} (h:AOk A (some fs) (n+1)):AOk (A.under (.func body qq)) (some (qq::fs)) n:=h.under (Zr rfl)
noncomputable def Z3m (a:Nat) (x0 R:LM) (a2 a3:Addr) (d2 d3:LJ) (k2 k3:Nat) (c:Addr) (sl2 sl3:LG):LC :=
 (46,Yp a)::(762,Z9 773 20 (some c))::(a2,frO d2 k2 sl2)::(a3,frO d3 k3 sl3)::(Ys a x0++Xm (adK a) R)
theorem Zqp {E2:Env} {a2:Addr} (hA:AOk A (some [fe E2 a2,fe E3 a3]) 110) (h2:E2.scope.kind≠.module) (h3:E3.scope.kind≠.module) (G:Ground T2 (wb w b) H) (a:Nat) (x0 R:LM) {d2:LJ} {k2:Nat} {sl2:LG}
  {ws:LD} {v:List Nat} {tl:Nat} (hw:ws.length<=19) (hu:∀ u∈ws,u.length<=100000) (hv:v.length<=100000)
  (O:Own H (Z3m a x0 R a2 a3 d2 d3 k2 k3 c sl2 sl3++l) h)
  (hQ:∀ u c' sl2' sl3' h' t' g',Own H (Z3m a x0 R a2 a3 d2 d3 k2 k3 c' sl2' sl3'++l) h'->t<=t'->Zq true g g'->Q (.str (S (Zg (Zjd ws v))) u) (r.at h' ⟨t',g'⟩)) :
  wpAny (model prog (wb w b)) A (call (.ref 792) [.str (S (Zg ws)) tl,.str (S v) tv]) Q E (r.at h ⟨t,g⟩):=by
 have qE:10000000<=sizeLine:=by decide +kernel
 obtain ⟨o,ho,hd⟩:=Pl.mp (Ybe (w:=w) (b:=b))
 have qI:AOk (A.under (.call (.ref 792) ⟨[.str (S (Zg ws)) tl,.str (S v) tv],[]⟩)) (some [fe E2 a2,fe E3 a3]) 109:=hA.under (Zr rfl)
 refine U7 (O.keep _ _ (G.top _ _ ho)) hd Zv8 (N:=109) (hA.bare (Y9 _)) ?_
 refine go (Z4r ws tl v tv) G (qI.bare (Y9 _)) O fun x1 h1 t1 g1 O1 qK qD=>⟨G.nolimit.keeps O1.keep,?_⟩
 generalize h.objs.size=fr at O1 ⊢
 have O1:Own H ((fr,frO (Zyk (HZ w b) (x1.nat 2) ws tl) 1 #[])::(fr+1,Zp (.str (S v) tv))::(fr+2,X4)::(Z3m a x0 R a2 a3 d2 d3 k2 k3 c sl2 sl3++l)) h1:=O1
 generalize x1.nat 2=t0 at O1
 have hf:AOk (A.under (.func [ptS (TZ w b) 0,ptS (TZ w b) 1,ptS (TZ w b) 2,ptS (TZ w b) 3] (Va (TZ w b) fr (fr+1) (fr+2)))) (some [Va (TZ w b) fr (fr+1) (fr+2),fe E2 a2,fe E3 a3]) 109:=hA.underF
 generalize A.under (.func [ptS (TZ w b) 0,ptS (TZ w b) 1,ptS (TZ w b) 2,ptS (TZ w b) 3] (Va (TZ w b) fr (fr+1) (fr+2)))=A2 at hf
 have hfn:AOk A2 none 109:=hf.bare (Y9 _)
 show wpAny _ A2 (execs _ (Va (TZ w b) fr (fr+1) (fr+2))) _ _ _
 refine eqF (by rw [Zw,← Z5]) ?_
 refine Zi ?_
 unfold Z3m at O1
 refine go (Zzr a fr (fr+1) (fr+2) x0 R) G hfn O1 (hT:=fun n t=>by dsimp only [tG]; rw [Yk]) (rest:=(fr,frO (Zyk (HZ w b) t0 ws tl) 1 #[])::(fr+1,Zp (.str (S v) tv))::(762,Z9 773 20 (some c))::(a2,frO d2 k2 sl2)::(a3,frO d3 k3 sl3)::l) (hp:=by
  simp only [Zx.preA,tG,Zt]
  exact pm [_,_,_,_,_,_,_] [_,_,_] 11870707318464060719746 196470645233552064291930241) fun x2 h2' t2 g2 O2 qN qF=>?_
 generalize h1.objs.size=m at O2 ⊢
 have O2:Own H (Ze6 (HZ w b) (TZ w b) (Nm a m) (fun k=>x2.nat (k+2))++((fr+2,Zp (.ref (m+21)))::(46,Yp a)::(Ys a x0++Xm (adK a) R))++((fr,frO (Zyk (HZ w b) t0 ws tl) 1 #[])::(fr+1,Zp (.str (S v) tv))::(762,Z9 773 20 (some c))::(a2,frO d2 k2 sl2)::(a3,frO d3 k3 sl3)::l)) h2':=O2.perm (by
  simp only [Zx.postA,tG,Zt]
  exact pm [_,_,_,_,_,_,_] [_,_,_,_] 32575882881379536959713624193 1988274101647042775384449)
 generalize (fun k=>x2.nat (k+2))=y at O2
 refine eqF (by rw [Zw,← Z5]) ?_
 refine Zi ?_
 have hj:=Mg ws 100000 hu
 have hjb:ws.length * (5 * 100000+3)<=19 * 500003:=Zv7 _ hw
 have K1:=(Z1t (prog:=prog) (w:=w) (b:=b) fr (fr+1) (fr+2) t0 ws tl E2 E3 a2 a3 d2 d3 k2 k3 sl2 sl3 (by exact Zn hw (by decide)) (fun u hm=>by have:=hu u hm; exact Zn this (by decide)) (by lia) h2 h3 h2'.objs.size t2)
 refine eqT (show _=execs [ptS (TZ w b) 1] (Va (TZ w b) fr (fr+1) (fr+2)) from by unfold pt1; dsimp only; rw [Yk]) (K1.use (rest:=Ze6 (HZ w b) (TZ w b) (Nm a m) y++((fr+2,Zp (.ref (m+21)))::(46,Yp a)::(Ys a x0++Xm (adK a) R))++((fr+1,Zp (.str (S v) tv))::(762,Z9 773 20 (some c))::l)) G (show AOk A2 (some [fe (Va (TZ w b) fr (fr+1) (fr+2)) fr,fe E2 a2,fe E3 a3]) 100 from hf.le (by decide)) O2 (by
  simp only [Zx.preA,pt1,Zt]
  exact pm [_,_,_,_,_,_,_] [_,_,_,_] 1988274101647042775384449 531806855817353636928952847171713) rfl fun x3 h3' g3 O3 xz qz=>?_)
 have qx:t2<=t2+x3.nat 1:=Zdr _ _
 generalize t2+x3.nat 1=t3 at qx ⊢
 have O3:Own H ((h2'.objs.size+13,Za (wsV (ws.map S) (x3.seq 0 0)) (x3.nat 3))::(fr,frO (Zfu (HZ w b) t0 ws tl (x3.nat 2) (h2'.objs.size+13)) 2 (x3.sl 0))::(a2,frO d2 k2 (x3.sl 1))::(a3,frO d3 k3 (x3.sl 2))::(Ze6 (HZ w b) (TZ w b) (Nm a m) y++((fr+2,Zp (.ref (m+21)))::(46,Yp a)::(Ys a x0++Xm (adK a) R))++((fr+1,Zp (.str (S v) tv))::(762,Z9 773 20 (some c))::l))) h3':=O3
 generalize h2'.objs.size+13=lw at O3
 generalize x3.seq 0 0=tw at O3
 generalize x3.nat 3=ep at O3
 generalize x3.nat 2=t1' at O3
 generalize x3.sl 0=sl at O3
 generalize x3.sl 1=sl2' at O3
 generalize x3.sl 2=sl3' at O3
 have hko:=Zkc (HZ w b) (TZ w b) a m R y
 have O3':Own H ((762,Z9 773 20 (some c))::(fr+1,Zp (.str (S v) tv))::(fr+2,Zp (.ref (Nm a m 6)))::(lw,Za (wsV (ws.map S) tw) ep)::(fr,frO (Zfu (HZ w b) t0 ws tl t1' lw) 2 sl)::(Z1 (HZ w b) (TZ w b) (Nm a m) (Znj R y)++((46,Yp a)::(a2,frO d2 k2 sl2')::(a3,frO d3 k3 sl3')::(Ys a x0++l)))) h3':=by
  refine O3.perm ?_
  refine List.Perm.trans ?_ (((((((hko.append_right _).cons _).cons _).cons _).cons _).cons _).symm)
  exact pm [_,_,_,_,_,_,_,_] [_,_,_,_] 254955936719347033447727746 252376326366628543165860375
 show wpAny _ A2 (execs _ (Va (TZ w b) fr (fr+1) (fr+2))) _ _ _
 refine eqF (by rw [Zw,Z61]) ?_
 refine Zi (Zo9 (Zi2 ?_))
 refine eqF (by rw [← pt_f]) ?_
 refine go (Z1q fr (fr+1) (fr+2)) G hfn O3' fun x4 h4' t4 g4 O4 qB qw=>?_
 refine eqF (by rw [Z8u]) ?_
 refine Q5q rfl (Q7q (Q8q ?_))
 refine Zvw G (hfn.le (by decide)) (Nm a m) (Znj R y) (by exact Zn hw (by decide)) hu hv O4 fun acc ys ea c' h5' t5 g5 hys O5 qy qv=>?_
 refine Q9q ?_
 refine Calls.call_len_list (s:=r.at h5' ⟨t5,g5⟩) (items:=⟨ys⟩) (Yn (O5.own (acc,_) (.head _))) (by
  show ((ys.length:Nat):Int) < 2 ^ 63
  have:=List.length_filter_le (fun u=>decide (cpQ u v<=0)) ws
  unfold leN at hys
  lia) ?_
 have O5:=Own.drop (r:=[(acc,Za ys ea)]) (O5.perm (l':=((762,Z9 773 20 (some c'))::(fr+1,Zp (.str (S v) tv))::(fr+2,Zp (.ref (Nm a m 6)))::(lw,Za (wsV (ws.map S) tw) ep)::(fr,frO (Zfu (HZ w b) t0 ws tl t1' lw) 2 sl)::(Z1 (HZ w b) (TZ w b) (Nm a m) (Znj R y)++((46,Yp a)::(a2,frO d2 k2 sl2')::(a3,frO d3 k3 sl3')::(Ys a x0++l))))++[(acc,Za ys ea)]) (by
  exact pm [_,_,_,_,_,_,_,_,_] [_,_,_] 1518482300512993137525378 40204108528181126728123009))
 show wpAny _ A2 (storeName (Va (TZ w b) fr (fr+1) (fr+2)) "k" (.int (Int.ofNat ys.length) (t5+1))) _ _ (r.at h5' ⟨t5+1+1,g5⟩)
 refine eqF (by rw [hys]) ?_
 refine go (Z2e fr (fr+1) (fr+2) t0 ws tl t1' lw sl (leN v ws) (t5+1)) G hfn O5 (rest:=(762,Z9 773 20 (some c'))::(fr+1,Zp (.str (S v) tv))::(fr+2,Zp (.ref (Nm a m 6)))::(lw,Za (wsV (ws.map S) tw) ep)::(Z1 (HZ w b) (TZ w b) (Nm a m) (Znj R y)++((46,Yp a)::(a2,frO d2 k2 sl2')::(a3,frO d3 k3 sl3')::(Ys a x0++l)))) (hp:=by
  simp only [Zx.preA,tW,Zt]
  exact pm [_,_,_,_,_,_,_,_] [_,_,_] 11862925097930833658498 3184429708156690114649329467521) fun x6 h6' t6 g6 O6 qG qC=>?_
 have O6:Own H ((fr,frO (Z0i (HZ w b) t0 ws tl t1' lw (x6.nat 2) (leN v ws) (t5+1)) 3 sl)::((762,Z9 773 20 (some c'))::(fr+1,Zp (.str (S v) tv))::(fr+2,Zp (.ref (Nm a m 6)))::(lw,Za (wsV (ws.map S) tw) ep)::(Z1 (HZ w b) (TZ w b) (Nm a m) (Znj R y)++((46,Yp a)::(a2,frO d2 k2 sl2')::(a3,frO d3 k3 sl3')::(Ys a x0++l))))) h6':=O6
 generalize x6.nat 2=t6' at O6
 refine go (Z1o fr (fr+1) (fr+2) t0 ws tl t1' lw t6' (leN v ws) (t5+1) sl tw ep v tv c' hw hu hv) G hfn O6 (hT:=fun n t=>by dsimp only [tG]; rw [Yk]) (rest:=(fr+2,Zp (.ref (Nm a m 6)))::(Z1 (HZ w b) (TZ w b) (Nm a m) (Znj R y)++((46,Yp a)::(a2,frO d2 k2 sl2')::(a3,frO d3 k3 sl3')::(Ys a x0++l)))) (hp:=by
  simp only [Zx.preA,tG,Zt]
  exact pm [_,_,_,_,_,_,_,_] [_,_,_] 11862925097930833658498 3184429708156685589164725403777) fun x7 h7' t7 g7 O7 qO qM=>?_
 refine hQ (x7.nat 2) (x7.nat 3) sl2' sl3' h7' t7 g7 ?_ (by lia) (gtr (gtr (gtr (gtr (gtr (gtr qD qF) qz) qw) qv) qC) qM)
 refine Own.drop (r:=Ze6 (HZ w b) (TZ w b) (Nm a m) y++[(fr,frO (Z0i (HZ w b) t0 ws tl t1' lw t6' (leN v ws) (t5+1)) 3 sl),(lw,Za (wsV (ws.map S) tw) ep),(fr+1,Zp (.str (S v) tv)),(fr+2,Zp (.ref (Nm a m 6)))]) (O7.perm ?_)
 simp only [Zx.postA,tG,Zt,Z3m]
 refine List.Perm.trans ((((((hko.append_right _).cons _).cons _).cons _).cons _).cons _) ?_
 exact pm [_,_,_,_,_,_,_,_] [_,_,_,_] 252843951330559544315216514 34817821601001093931114709121
end
end
theorem Znw (ws:LD) (v:List Nat):(Zjd ws v).length=ws.length+1:=by
 unfold Zjd Zp9
 rw [Vc,Vc,Nat.add_right_comm,Zh4]
 rfl
theorem Znx {ws:LD} {v u:List Nat} (h:u∈Zjd ws v):u∈ws∨u=v:=by
 unfold Zjd Zp9 at h
 rcases Zhu.mp h with h | h
 ·rcases Zhu.mp h with h | h
  ·exact .inl (Z1v h)
  ·exact .inr (Ur.mp h)
 ·exact .inl (List.mem_of_mem_drop h)
noncomputable def N0 (us:LD):LD:=us.foldl Zjd []
theorem Zb9 {i:Nat} {u:List Nat} (h:us[i]?=some u):N0 (us.take (i+1))=Zjd (N0 (us.take i)) u:=by
 unfold N0
 rw [Zbv,h,List.foldl_append]
 rfl
theorem Zaq (us:LD):∀ i,i<=us.length->(N0 (us.take i)).length=i/\∀ u∈N0 (us.take i),u∈us
 | 0,_=>⟨rfl,fun u h=>by cases h⟩
 | i+1,h=>by
  obtain ⟨a,b⟩:=Zaq us i (by lia)
  have hu:us[i]?=some us[i]:=Vp (by assumption)
  rw [Zb9 hu]
  refine ⟨by rw [Znw,a],fun u hm=>?_⟩
  rcases Znx hm with hm | rfl
  ·exact b u hm
  ·exact Zd1 _
section
theorem d60:((Mn (wb w b) 60).bind Uq)=some (Z7 (TZ w b) 60):=kf
theorem Z3g:(Z7 (TZ w b) 60).body=.stmts [rdS' (TZ w b) 0,rdS' (TZ w b) 1,rdS' (TZ w b) 2,rdS' (TZ w b) 3]:=kf
theorem Z9o:rdS' (TZ w b) 2=.For (Xg (rdS' (TZ w b) 2)) (Pb (rdS' (TZ w b) 2)) [rdA (TZ w b)] [] (Zlh (rdS' (TZ w b) 2)):=kf
theorem Yab (it v:Value):letOwnedTupleGo (Xg (rdS' (TZ w b) 2)) it v=pure ():=kf
theorem rd_a:rdA (TZ w b)=.Assign [.Name "value" (Yg (Y0 (rdA (TZ w b))))] (.Call (.Name "function" (Yg (Zk (rdX (TZ w b))))) [Zo (rdX (TZ w b)) 0,Zo (rdX (TZ w b)) 1] [] (Yv (rdX (TZ w b)))) (Y5 (rdA (TZ w b))):=kf
theorem rd_f:Zk (rdX (TZ w b))=.Name "function" (Yg (Zk (rdX (TZ w b)))):=kf
theorem Z8p (qq:Env):backTo (Yv (rdX (TZ w b))) (starEach [Zo (rdX (TZ w b)) 0,Zo (rdX (TZ w b)) 1] qq)=[(false,eval (Zo (rdX (TZ w b)) 0) qq),(false,eval (Zo (rdX (TZ w b)) 1) qq)]:=kf
theorem Z0k:(Z7 (TZ w b) 60).scope.kind=.function:=kf
noncomputable def Zhe (a:Nat) (x0 R:LM) (a3:Addr) (d3:LJ) (k3:Nat) (c:Addr) (sl3:LG):LC :=
 (46,Yp a)::(762,Z9 773 20 (some c))::(a3,frO d3 k3 sl3)::(Ys a x0++Xm (adK a) R)
structure Z6g where
 ft:LM
 tv:Nat
 sl:LG
 o:Option (List Nat×Nat)
 c:Nat
 sl3:LG
 acc:LD
noncomputable def Z6g.ob (hs:Hs) (a:Nat) (x0 R:LM) (a3:Addr) (d3:LJ) (k3 fr sq ti it:Nat) (s:Z6g):LC:=(fr,rdO hs s.ft sq ti it (Zg s.acc) s.tv s.sl s.o)::Zhe a x0 R a3 d3 k3 s.c s.sl3
theorem Zx7 (hA:AOk A (some [fe (Vf (TZ w b) fr) fr,fe E3 a3]) 111) (h3:E3.scope.kind≠.module) (G:Ground T2 (wb w b) H) (a:Nat) (x0 R:LM)
  {es sq ti it:Nat} (hw:us.length<=18) (hu:∀ u∈us,u.length<=100000) {Rz:Result->Shared->Prop}
  (hend:∀ ft tv sl o c sl3 h' t' g',Own H ((fr,rdO (HZ w b) ft sq ti it (Zg (N0 us)) tv sl o)::(sq,Za (wsV (us.map S) tw) es)::(Zhe a x0 R a3 d3 k3 c sl3++l)) h'->t₀<=t'->Zq true g₀ g'->Rz (.ok .next) (r.at h' ⟨t',g'⟩))
  {o:Option (List Nat×Nat)} {oi:Obj} (hit:Zgm oi sq 0)
  (O:Own H ((it,oi)::(fr,rdO (HZ w b) ft sq ti it (Zg []) tv sl o)::(sq,Za (wsV (us.map S) tw) es)::(Zhe a x0 R a3 d3 k3 c sl3++l)) h) (ht:t₀<=t) (hg:Zq true g₀ g) :
  codeAny (model prog (wb w b)) A (.forLoop (Xg (rdS' (TZ w b) 2)) (.ref it) [rdA (TZ w b)] [] (Vf (TZ w b) fr)) Rz (r.at h ⟨t,g⟩):=by
 have hAn:AOk A none 111:=hA.bare (Y9 _)
 obtain ⟨of,hof,hdf⟩:=Pl.mp (Ybe (w:=w) (b:=b))
 refine Zcv (r:=r) (H:=H) (lst:=sq) (xs:=wsV (us.map S) tw) (ep:=es) (it:=it) (oi:=oi) hA.hand (fun v=>Yab _ v) (Z6g.ob (HZ w b) a x0 R a3 d3 k3 fr sq ti it) (fun i st=>i<=us.length/\st.acc=N0 (us.take i)) (l:=(sq,Za (wsV (us.map S) tw) es)::l) (.head _) (t₀:=t₀) (g₀:=g₀)
  (fun i v st m h t g K E hv hI O ht hg hK=>?_) (fun st h t g hI O ht hg=>?_) (st:=⟨ft,tv,sl,o,c,sl3,[]⟩) ⟨Pt _,rfl⟩ hit (O.perm ?_) ht hg
 ·obtain ⟨ft,tv,sl,o,c,sl3,acc⟩:=st
  obtain ⟨hi,rfl⟩:i<=us.length/\acc=N0 (us.take i):=hI
  obtain ⟨u,hx,rfl⟩:=Ji us tw i v hv
  obtain ⟨f1,f2⟩:=Zaq us i hi
  have hacc:=Zb9 hx
  generalize N0 (us.take i)=acc at O f1 f2 hacc
  refine go (Z22 fr ft sq ti it (Zg acc) tv sl o u (tw i)) G hAn O fun x2 h2 t2 g2 O2 qN qF=>?_
  have O2:Own H ((fr,frO (Zlv (HZ w b) (fun j=>x2.nat (j+2)) sq ti it (Zg acc) tv u (tw i)) 6 sl)::(Zhe a x0 R a3 d3 k3 c sl3++(((sq,Za (wsV (us.map S) tw) es)::l)++m))) h2:=O2
  generalize (fun j=>x2.nat (j+2))=ft2 at O2
  show wpAny _ A (execs [rdA (TZ w b)] (Vf (TZ w b) fr)) _ _ _
  rw [Z5,rd_a]
  refine Zo9 (Zi2 ?_)
  rw [← rd_f]
  refine go (Ztq fr ft2 sq ti it (Zg acc) tv u (tw i) sl) G hAn O2 fun x3 h3' t3 g3 O3 qx qz=>?_
  show wpAny _ A (callWith (Yv (rdX (TZ w b))) (.ref 792) [] _ []) _ _ _
  rw [Z8p]
  refine Q6q (o:=of) (fd:=Z7 (TZ w b) 792) (Q7q (Q8q ?_))
  refine go (Zu9 fr ft2 sq ti it (Zg acc) tv u (tw i) sl) G hAn O3 fun x4 h4 t4 g4 O4 qB qw=>?_
  refine Q8q ?_
  refine go (Zwf fr ft2 sq ti it (Zg acc) tv u (tw i) sl) G hAn O4 fun x5 h5 t5 g5 O5 qy qv=>?_
  refine Q9q ⟨⟨O5.keep _ _ (G.top _ _ hof),(Yc hdf).1⟩,?_⟩
  have O5:Own H ((fr,frO (Zlv (HZ w b) ft2 sq ti it (Zg acc) tv u (tw i)) 6 sl)::(Zhe a x0 R a3 d3 k3 c sl3++(((sq,Za (wsV (us.map S) tw) es)::l)++m))) h5:=O5
  refine Zqp (E2:=Vf (TZ w b) fr) (E3:=E3) (hA.le (by decide)) (by show (Z7 (TZ w b) 60).scope.kind≠_; rw [Z0k]; decide) h3 G a x0 R (d2:=Zlv (HZ w b) ft2 sq ti it (Zg acc) tv u (tw i)) (k2:=6) (sl2:=sl) (a2:=fr) (a3:=a3) (d3:=d3) (k3:=k3) (sl3:=sl3) (c:=c) (l:=((sq,Za (wsV (us.map S) tw) es)::l)++m) (by lia) (fun z hz=>hu z (f2 z hz)) (hu u (Nl hx)) (O5.perm (by
   exact pm [_,_,_,_,_] [_,_,_,_] 15440934189853753557122 15440934189853741023873)) fun u6 c6 sl6 sl36 h6 t6 g6 O6 qG qC=>?_
  have O6:Own H ((fr,frO (Zlv (HZ w b) ft2 sq ti it (Zg acc) tv u (tw i)) 6 sl6)::(Zhe a x0 R a3 d3 k3 c6 sl36++(((sq,Za (wsV (us.map S) tw) es)::l)++m))) h6:=O6.perm (by
   exact pm [_,_,_,_,_] [_,_,_,_] 15440934189853753557249 15440934189853747216520)
  refine go (Z2v fr ft2 sq ti it (Zg acc) tv u (tw i) sl6 (Zg (Zjd acc u)) u6) G hAn O6 fun x7 h7 t7 g7 O7 qO qM=>⟨rfl,?_⟩
  refine hK ⟨fun j=>x7.nat (j+2),u6,sl6,some (u,tw i),c6,sl36,Zjd acc u⟩ h7 t7 g7 ⟨by have:=(Zfj.mp hx).1; lia,hacc.symm⟩ O7 (Zn qN (Zn qx (Zn qB (Zn qy (Zn qG qO))))) (gtr (gtr (gtr (gtr (gtr qF qz) qw) qv) qC) qM)
 ·obtain ⟨ft,tv,sl,o,c,sl3,acc⟩:=st
  obtain ⟨hi,rfl⟩:(wsV (us.map S) tw).length<=us.length/\acc=N0 (us.take (wsV (us.map S) tw).length):=hI
  rw [Zac,Zja] at O
  refine hend ft tv sl o c sl3 h t g (O.perm ?_) ht hg
  exact pm [_,_] [_,_] 1889599745 14729858
 ·show List.Perm _ (_::(((fr,rdO (HZ w b) ft sq ti it (Zg []) tv sl o)::Zhe a x0 R a3 d3 k3 c sl3)++_))
  exact pm [_,_,_] [_,_] 1885471362 242674122882
end
noncomputable def Z11 (e:Expr):List Keyword:=(vE e).2.2.2.2.2.2.2
structure Ma (X:Expr) (nm:String):Prop where
 shape:X=.Call (.Name nm (Yg (Zk X))) [Zo X 0] [] (Yv X)
 fn:Zk X=.Name nm (Yg (Zk X))
 arg:∀ qq,backTo (Yv X) (starEach [Zo X 0] qq)=[(false,eval (Zo X 0) qq)]
theorem Ma.go {X:Expr} {nm:String} (c:Ma X nm) {M:Model} {o:Obj} {fd:FuncData}
  (h:wpAny M A (eval (Zk X) qq) (fun f s=>f=.ref af/\wpAny M A (eval (Zo X 0) qq) (fun v s₁=>(s₁.heap.get? af=some o/\o.data=.func fd)/\wpAny M A (call (.ref af) [v]) Q E s₁) E s) E s):wpAny M A (eval X qq) Q E s:=by
 rw [c.shape]
 refine Zi2 ?_
 rw [← c.fn]
 refine Jy h (fun f s q=>?_) fun _ _ e=>e
 obtain ⟨rfl,q⟩:=q
 rw [c.arg]
 exact Q6q (o:=o) (fd:=fd) (Q7q (Q8q (Jy q (fun v s₁ q=>Q9q q) fun _ _ e=>e)))
theorem Ma.goB {X:Expr} {nm:String} (c:Ma X nm) {M:Model} {id:String}
  (h:wpAny M A (eval (Zk X) qq) (fun f s=>f=.builtin id/\wpAny M A (eval (Zo X 0) qq) (fun v s₁=>wpAny M A (call (.builtin id) [v]) Q E s₁) E s) E s):wpAny M A (eval X qq) Q E s:=by
 rw [c.shape]
 refine Zi2 ?_
 rw [← c.fn]
 refine Jy h (fun f s q=>?_) fun _ _ e=>e
 obtain ⟨rfl,q⟩:=q
 rw [c.arg]
 exact Q5q rfl (Q7q (Q8q (Jy q (fun v s₁ q=>Q9q q) fun _ _ e=>e)))
structure Zi9 (X:Expr):Prop where
 shape:X=.Call (.Name "sorted" (Yg (Zk X))) [Zo X 0] (Z11 X) (Yv X)
 fn:Zk X=.Name "sorted" (Yg (Zk X))
 arg:∀ qq,backTo (Yv X) (starEach [Zo X 0] qq)=[(false,eval (Zo X 0) qq)]
 kw:∀ qq,backToKw (Yv X) (keywordEach (Z11 X) qq)=[(some (Str.ofString "key"),eval (kwV X) qq>>=fun v=>standAt (Yv X)>>=fun _=>pure v)]
theorem Zi9.go {X:Expr} (c:Zi9 X) {M:Model}
  (h:wpAny M A (eval (Zk X) qq) (fun f s=>f=.builtin "sorted" /\ wpAny M A (eval (Zo X 0) qq) (fun v s₁=>wpAny M A (eval (kwV X) qq) (fun k s₂=>wpAny M A (call (.builtin "sorted") [v] [(Str.ofString "key",k)]) Q E s₂) E s₁) E s) E s):wpAny M A (eval X qq) Q E s:=by
 rw [c.shape]
 refine wpAny_Call_Name_kw ?_
 rw [← c.fn]
 refine Jy h (fun f s q=>?_) fun _ _ e=>e
 obtain ⟨rfl,q⟩:=q
 rw [c.arg,c.kw]
 refine PyProof.Rows.callWith_builtin_kwB rfl rfl (PyProof.Rows.evalArgs_kwB rfl (Q8q (Jy q (fun v s₁ q=>Q9q ?_) fun _ _ e=>e)))
 exact wpAny_evalAll_cons (Zi (Jy q (fun k s₂ q=>Zi (Zd2 (Yo (wpAny_evalAll_nil q)))) fun _ _ e=>e))
structure Zqd (X:Expr) (nm:String):Prop where
 shape:X=.Call (.Name nm (Yg (Zk X))) [Zo X 0,Zo X 1,Zo X 2] [] (Yv X)
 fn:Zk X=.Name nm (Yg (Zk X))
 arg:∀ qq,backTo (Yv X) (starEach [Zo X 0,Zo X 1,Zo X 2] qq)=[(false,eval (Zo X 0) qq),(false,eval (Zo X 1) qq),(false,eval (Zo X 2) qq)]
theorem Zqd.go {X:Expr} {nm:String} (c:Zqd X nm) {M:Model} {o:Obj} {fd:FuncData}
  (h:wpAny M A (eval (Zk X) qq) (fun f s=>f=.ref af/\wpAny M A (eval (Zo X 0) qq) (fun v s=>wpAny M A (eval (Zo X 1) qq) (fun v1 s=>wpAny M A (eval (Zo X 2) qq) (fun v2 s₁=>(s₁.heap.get? af=some o/\o.data=.func fd)/\wpAny M A (call (.ref af) [v,v1,v2]) Q E s₁) E s) E s) E s) E s):wpAny M A (eval X qq) Q E s:=by
 rw [c.shape]
 refine Zi2 ?_
 rw [← c.fn]
 refine Jy h (fun f s q=>?_) fun _ _ e=>e
 obtain ⟨rfl,q⟩:=q
 rw [c.arg]
 exact Q6q (o:=o) (fd:=fd) (Q7q (Q8q (Jy q (fun v s₁ q=>Q8q (Jy q (fun v s₁ q=>Q8q (Jy q (fun v s₁ q=>Q9q q) fun _ _ e=>e)) fun _ _ e=>e)) fun _ _ e=>e)))
structure Zqq (X:Expr) (nm:String):Prop where
 shape:X=.Call (.Name nm (Yg (Zk X))) [Zo X 0,Zo X 1] [] (Yv X)
 fn:Zk X=.Name nm (Yg (Zk X))
 arg:∀ qq,backTo (Yv X) (starEach [Zo X 0,Zo X 1] qq)=[(false,eval (Zo X 0) qq),(false,eval (Zo X 1) qq)]
theorem Zqq.go {X:Expr} {nm:String} (c:Zqq X nm) {M:Model} {o:Obj} {fd:FuncData}
  (h:wpAny M A (eval (Zk X) qq) (fun f s=>f=.ref af/\wpAny M A (eval (Zo X 0) qq) (fun v s=>wpAny M A (eval (Zo X 1) qq) (fun v1 s₁=>(s₁.heap.get? af=some o/\o.data=.func fd)/\wpAny M A (call (.ref af) [v,v1]) Q E s₁) E s) E s) E s):wpAny M A (eval X qq) Q E s:=by
 rw [c.shape]
 refine Zi2 ?_
 rw [← c.fn]
 refine Jy h (fun f s q=>?_) fun _ _ e=>e
 obtain ⟨rfl,q⟩:=q
 rw [c.arg]
 exact Q6q (o:=o) (fd:=fd) (Q7q (Q8q (Jy q (fun v s₁ q=>Q8q (Jy q (fun v s₁ q=>Q9q q) fun _ _ e=>e)) fun _ _ e=>e)))
structure Comp1 (X:Expr):Prop where
 shape:X=.ListComp (Zh X) [⟨Zf X 0,Ze X 0,[],0⟩] (Zc X) (Ye X)
 sc:Na (Zc X)=true
 f:∀ qq x,foldedSetIterable (Ze X 0) qq x=pure x
structure M1 (X:Expr):Prop extends Comp1 X where
 lets:∀ I v,letOwnedTupleGo (Zf X 0) (.ref I) v=pure ()
theorem Comp1.go {X:Expr} (c:Comp1 X) {cl:List (Str×Addr)} (hcl:closureFor (Zc X) qq=pure cl)
  (h:wpAny (model prog w) A (eval (Ze X 0) qq) (Vn prog w A (.ListComp (Zh X) [⟨Zf X 0,Ze X 0,[],0⟩] (Zc X) (Ye X)) (Zc X) cl qq none Q E) E s):wpAny (model prog w) A (eval X qq) Q E s:=by
 obtain ⟨c1,c2,c3⟩:=Yh c.sc
 refine eqT (Yr (fun e=>eval e qq) c.shape.symm) ?_
 rw [Zvm]
 exact J8 (g0:=⟨Zf X 0,Ze X 0,[],0⟩) rfl (fun x=>c.f _ x) hcl c2 c3 h
theorem M1.ods {X:Expr} (c:M1 X) (hh:A.handled=none) {cl:List (Str×Addr)} {use:Option (Value->Sem Unit)} {Q:LF} {E:LF}
  {lw ep:Addr} {L:List Od} (nm:String) {hs:Hs} {σ:Type} (mid:σ->LC) (qj:Nat->σ->LH->Prop) (qk:∀ i st ys,qj i st ys->ys.length=i) (hL:L.length<=1000)
  (qP:∀ C i X' o st ys m rest h t g (Q:LF) (E:LF),L[i]?=some X'->qj i st ys->Own H ((C,xV hs nm (okO o))::(mid st++(X'.o::(rest++(l++m))))) h ->
   (∀ x o' st' h' t' g',qj (i+1) st' (ys++[x])->Own H ((C,xV hs nm (okO o'))::(mid st'++(X'.o::(rest++(l++m))))) h'->t<=t'->Zq true g g'->Q x (r.at h' ⟨t',g'⟩)) ->
   wpAny (model prog w) A (assign (Zf X 0) (compEnvC (Zc X) cl C qq) (.ref X'.a)) (fun _ s₂=>wpAny (model prog w) A (eval (Zh X) (compEnvC (Zc X) cl C qq)) Q E s₂) E (r.at h ⟨t,g⟩))
  {st:σ} (hI:qj 0 st []) (O:Own H (mid st++((lw,Za (L.map Od.v) ep)::(Yd L++l))) h)
  (last:∀ C o acc st ys ea h' t' g',qj L.length st ys->Own H ((C,xV hs nm (okO o))::(acc,Za ys ea)::(mid st++((lw,Za (L.map Od.v) ep)::(Yd L++l)))) h'->t<=t'->Zq true g g'->compPost (model prog w) A E use Q (.ref acc) C (.ok .next) (r.at h' ⟨t',g'⟩)) :
  Vn prog w A (.ListComp (Zh X) [⟨Zf X 0,Ze X 0,[],0⟩] (Zc X) (Ye X)) (Zc X) cl qq use Q E (.ref lw) (r.at h ⟨t,g⟩):=by
 have qE:10000000<=sizeLine:=by decide +kernel
 obtain ⟨c1,c2,c3⟩:=Yh c.sc
 refine Mj (r:=r) (H:=H) hh (Xu (lst:=lw) (xs:=L.map Od.v) (ep:=ep)) c1 c.lets (fun st:Option (Nat×Addr)×σ=>xV hs nm (okO st.1)) (fun st=>mid st.2) (fun i st ys=>qj i st.2 ys) (t₀:=t) (g₀:=g) (l:=(lw,Za (L.map Od.v) ep)::(Yd L++l)) (fun p hp=>by rw [Ur.mp hp]; exact .head _) (K:=100000) (by decide)
  (fun j st ys hI hj=>?_) (fun C j v st ys m h4 t4 g4 Q E hj hv hI O4 qB qw hQ=>?_) (fun C acc st ys ea h4 t4 g4 hI O4 qB qw=>?_) (st:=(none,st)) rfl hI O (Y9 _) (Zq.refl true _)
 ·rw [qk _ _ _ hI]
  rw [Z0] at hj
  lia
 ·rw [Z0] at hj
  obtain ⟨o,st⟩:=st
  obtain ⟨Y,hY,rfl,-⟩:=Za0 hj hv
  obtain ⟨rest,hp⟩:=Y4 hY
  refine Zcf.plain (qP C j Y o st ys ((lw,Za (L.map Od.v) ep)::m) rest h4 t4 g4 (fun x s=>Q (some x) s) E hY hI (O4.perm ?_) fun x o' st' h' t' g' hI' O' ht' hg'=>hQ (some x) (o',st') h' t' g' hI' (O'.perm ?_) ht' hg')
  ·show List.Perm (_::(mid st++(((lw,Za (L.map Od.v) ep)::(Yd L++l))++m))) _
   refine (((((hp.append_right _).cons _).append_right _).append_left _).cons _).trans ?_
   exact pm [_,_,_] [_,_,_,_] 942409283509698946 57348831969666
  ·show List.Perm _ (_::(mid st'++(((lw,Za (L.map Od.v) ep)::(Yd L++l))++m)))
   refine List.Perm.trans ?_ (((((hp.append_right _).cons _).append_right _).append_left _).cons _).symm
   exact pm [_,_,_] [_,_,_,_] 57451911135618 942409180436775298
 ·obtain ⟨o,st⟩:=st
  rw [Z0] at hI
  exact last C o acc st ys ea h4 t4 g4 hI O4 qB qw
theorem M1.texts {X:Expr} (c:M1 X) (hh:A.handled=none) {cl:List (Str×Addr)} {Q:LF} {E:LF}
  {lw ep:Addr} {L:List Od} (nm:String) {hs:Hs} {σ:Type} (mid:σ->LC) (F:LD->List Nat) (hL:L.length<=1000)
  (qP:∀ (C:Addr) (i:Nat) (X':Od) o st m rest h t g (Q:LF) (E:LF),L[i]?=some X'->Own H ((C,xV hs nm (okO o))::(mid st++(X'.o::(rest++(l++m))))) h ->
   (∀ u o' st' h' t' g',Own H ((C,xV hs nm (okO o'))::(mid st'++(X'.o::(rest++(l++m))))) h'->t<=t'->Zq true g g'->Q (.str (S (F X'.us)) u) (r.at h' ⟨t',g'⟩)) ->
   wpAny (model prog w) A (assign (Zf X 0) (compEnvC (Zc X) cl C qq) (.ref X'.a)) (fun _ s₂=>wpAny (model prog w) A (eval (Zh X) (compEnvC (Zc X) cl C qq)) Q E s₂) E (r.at h ⟨t,g⟩))
  {st:σ} (O:Own H (mid st++((lw,Za (L.map Od.v) ep)::(Yd L++l))) h)
  (last:∀ st acc tk ea h' t' g',Own H ((acc,Za (wsV ((L.map fun x=>F x.us).map S) tk) ea)::(mid st++((lw,Za (L.map Od.v) ep)::(Yd L++l)))) h'->t<=t'->Zq true g g'->Q (.ref acc) (r.at h' ⟨t',g'⟩)) :
  Vn prog w A (.ListComp (Zh X) [⟨Zf X 0,Ze X 0,[],0⟩] (Zc X) (Ye X)) (Zc X) cl qq none Q E (.ref lw) (r.at h ⟨t,g⟩):=by
 refine c.ods (hs:=hs) hh nm mid (fun i _ ys=>i<=L.length/\∃ tk,ys=wsV (((L.take i).map fun x=>F x.us).map S) tk) (fun i st ys hI=>?_) hL (fun C i X' o st ys m rest h t g Q E hX hI O hQ=>?_) (st:=st) ⟨Pt _,fun _=>0,rfl⟩ O fun C o acc st ys ea h' t' g' hI O ht hg=>?_
 ·obtain ⟨hi,tk,rfl⟩:=hI
  rw [Zac,Z0,Zbg]
  exact Nat.min_eq_left hi
 ·obtain ⟨hi,tk,rfl⟩:=hI
  refine qP C i X' o st m rest h t g Q E hX O fun u o' st' h' t' g' O' ht hg=>hQ _ o' st' h' t' g' ⟨(Zfj.mp hX).1,Ja ((L.take i).map fun x=>F x.us).length tk fun _=>u,?_⟩ O' ht hg
  rw [Zbv,hX,J3]
  exact (Ud _ _ _ _).symm
 ·obtain ⟨hi,tk,rfl⟩:=hI
  rw [Zja] at O
  exact J5 O (Zey _ _ _) fun h5 O5=>last st acc tk ea h5 t' g' O5 ht hg
section
theorem Zbn {E1:Env} {a1:Addr} (hA:AOk A (some [fe E1 a1]) 90) (h1:E1.scope.kind≠.module) (G:Ground T2 (wb w b) H) {ws:LD} (hw:ws.length<=20) (hu:∀ u∈ws,u.length<=100000) {tl:Nat} {d1:LJ} {k1:Nat} {sl1:LG}
  (O:Own H ((a1,frO d1 k1 sl1)::l) h)
  (hQ:∀ lw tw ep sl h' t' g',Own H ((lw,Za (wsV (ws.map S) tw) ep)::(a1,frO d1 k1 sl)::l) h'->t<=t'->Zq true g g'->Q (.ref lw) (r.at h' ⟨t',g'⟩)) :
  wpAny (model prog (wb w b)) A (call (.ref 760) [.str (S (Zg ws)) tl]) Q E (r.at h ⟨t,g⟩):=by
 have qE:10000000<=sizeLine:=by decide +kernel
 have hj:=Mg ws 100000 hu
 have hjb:ws.length * (5 * 100000+3)<=20 * 500003:=Zv7 _ hw
 refine Znf ?_
 refine (Z7r (prog:=prog) (w:=w) (b:=b) (text:=Zg ws) (s':=⟨(Zg ws).length,none,Zhb ws 1⟩) (ws:=ws.map S) (fun L e1 e2=>?_) (by rw [Z0]; exact Zn hw (by decide)) tl E1 h1 a1 d1 k1 sl1 h.objs.size t).use G (hA.le (Y9 _)) O (.refl _) rfl fun x h' g' O' hs gr=>?_
 ·have z:=Zah (prog:=prog) (w:=w) (b:=b) (L:=L) (by rw [e1]; lia) e2 ws 0 1 (fun u hm=>by have:=hu u hm; exact Zn this (by decide)) (by rw [List.drop_zero,e1]) (Pt _)
  rw [e1] at z
  exact z
 ·exact hQ _ (x.seq 0 0) (x.nat 8) (x.sl 1) h' _ g' O' (Zdr _ _) gr.may
theorem Vr (hA:AOk A none 60) (G:Ground T2 (wb w b) H) {ws:LD} (hw:ws.length<=20) (hu:∀ u∈ws,u.length<=100000) {tk:LM} {tb:Option Addr}
  (O:Own H ((762,Z9 773 20 tb)::(la,Za (wsV (ws.map S) tk) ep)::l) h)
  (hQ:∀ u c h' t' g',Own H ((762,Z9 773 20 (some c))::(la,Za (wsV (ws.map S) tk) ep)::l) h'->t<=t'->Zq true g g'->Q (.str (S (Zg ws)) u) (r.at h' ⟨t',g'⟩)) :
  wpAny (model prog (wb w b)) A (call (.ref 767) [.ref la]) Q E (r.at h ⟨t,g⟩):=by
 refine Znf ?_
 refine (Zlb (prog:=prog) (w:=w) (b:=b) hw hu tk la ep tb h.objs.size t).use G hA O (.refl _) rfl fun x h' g' O' hs gr=>?_
 exact hQ (x.nat 2) (x.nat 3) h' _ g' O' (Zdr _ _) gr.may
theorem Zes (la k:Addr):checkBuiltinCall "sorted" ⟨[.ref la],[(Str.ofString "key",.ref k)]⟩=pure ():=by kernel_rfl
theorem Zbr (hA:AOk A none 110) (G:Ground T2 (wb w b) H) (a:LN) (k:LM) {ws:LD} (hw:ws.length < 4) (hu:∀ u∈ws,u.length<=100000) {tk:LM}
  (O:Own H ((762,Z9 773 20 (some c))::(la,Za (wsV (ws.map S) tk) ep)::(Z1 (HZ w b) (TZ w b) a k++l)) h)
  (hQ:∀ lw tw e' c' h' t' g',Own H ((lw,Za (wsV ((Zy ws).map S) tw) e')::(762,Z9 773 20 (some c'))::(la,Za (wsV (ws.map S) tk) ep)::(Z1 (HZ w b) (TZ w b) a k++l)) h'->t<=t'->Zq true g g'->Q (.ref lw) (r.at h' ⟨t',g'⟩)) :
  wpAny (model prog (wb w b)) A (call (.builtin "sorted") [.ref la] [(Str.ofString "key",.ref (a 6))]) Q E (r.at h ⟨t,g⟩):=by
 refine Znf (codeAny_call_builtin_code (Zkv (by decide +kernel) _) (Zbf (Zes la (a 6)) ?_))
 refine (Z84 (prog:=prog) (w:=w) (b:=b) a k hw hu la tk ep c h.objs.size t).use (rest:=l) G hA O (by
  simp only [Con.preA,soC,Zt]
  exact pm [_,_] [_,_] 14729858 30787409838209) rfl fun x h' g' O' hs gr=>?_
 refine hQ (x.nat 2) (x.seq 0 0) (x.nat 3) (x.nat 4) h' _ g' (O'.perm ?_) (Zdr _ _) gr.may
 simp only [Con.postA,soC,Zt]
 exact pm [_,_,_] [_,_] 64565891413972107393 1885471362
theorem Zcg (hA:AOk A none 120) (G:Ground T2 (wb w b) H) {ws:LD} (hw:ws.length < 4) (hu:∀ u∈ws,u.length<=1000000) {tk:LM}
  (O:Own H ((la,Za (wsV (ws.map S) tk) ep)::l) h)
  (hQ:∀ lw tw e' h' t' g',Own H ((lw,Za (wsV ((Zy ws).map S) tw) e')::(la,Za (wsV (ws.map S) tk) ep)::l) h'->t<=t'->Zq true g g'->Q (.ref lw) (r.at h' ⟨t',g'⟩)) :
  wpAny (model prog (wb w b)) A (call (.builtin "sorted") [.ref la] [(Str.ofString "key",.ref 804)]) Q E (r.at h ⟨t,g⟩):=by
 refine Znf (codeAny_call_builtin_code (Zkv (by decide +kernel) _) (Zbf (Zes la 804) ?_))
 refine (Z8s (prog:=prog) (w:=w) (b:=b) hw hu la tk ep h.objs.size t).use (rest:=l) G hA O (.refl _) rfl fun x h' g' O' hs gr=>?_
 exact hQ (x.nat 2) (x.seq 0 0) (x.nat 3) h' _ g' O' (Zdr _ _) gr.may
end
section
theorem d760:((Mn (wb w b) 760).bind Uq)=some (Z7 (TZ w b) 760):=kf
theorem cl2L (fr kc wc:Nat):closureFor (Zc (Znr (TZ w b))) (Zm (TZ w b) fr kc wc)=pure ([]):=kf
theorem cl2C (fr kc wc:Nat):closureFor (Zc (Za4 (TZ w b))) (Zm (TZ w b) fr kc wc)=pure ([]):=kf
theorem cl3C (fr kc wc:Nat):closureFor (Zc (Zjl (TZ w b))) (Zm (TZ w b) fr kc wc)=pure (Zij kc):=kf
theorem cl4C (fr kc wc:Nat):closureFor (Zc (Zhw (TZ w b))) (Zm (TZ w b) fr kc wc)=pure ([]):=kf
theorem cl5C (fr kc wc:Nat):closureFor (Zc (Zjp (TZ w b))) (Zm (TZ w b) fr kc wc)=pure ([]):=kf
theorem n2L:M1 (Znr (TZ w b)):=⟨⟨kf,kf,fun _ _=>kf⟩,fun _ _=>kf⟩
theorem n2C:M1 (Za4 (TZ w b)):=⟨⟨kf,kf,fun _ _=>kf⟩,fun _ _=>kf⟩
theorem n3C:M1 (Zjl (TZ w b)):=⟨⟨kf,kf,fun _ _=>kf⟩,fun _ _=>kf⟩
theorem n4C:M1 (Zhw (TZ w b)):=⟨⟨kf,kf,fun _ _=>kf⟩,fun _ _=>kf⟩
theorem n5C:M1 (Zjp (TZ w b)):=⟨⟨kf,kf,fun _ _=>kf⟩,fun _ _=>kf⟩
theorem k2I:Ma (Yaq (TZ w b)) "split" := ⟨kf,kf,fun _=>kf⟩
theorem k2Q:Ma (Z5f (TZ w b)) "join_shlex" := ⟨kf,kf,fun _=>kf⟩
theorem k2e:Ma (Zh (Znr (TZ w b))) "join_shlex" := ⟨kf,kf,fun _=>kf⟩
theorem k2f:Ma (Zh (Za4 (TZ w b))) "split" := ⟨kf,kf,fun _=>kf⟩
theorem k3J:Ma (lwV (TZ w b) 3) "join_shlex" := ⟨kf,kf,fun _=>kf⟩
theorem k3S:Zi9 (Z5m (TZ w b)):=⟨kf,kf,fun _=>kf,fun _=>kf⟩
theorem k3e:Ma (Zh (Zjl (TZ w b))) "join_shlex" := ⟨kf,kf,fun _=>kf⟩
theorem k3s:Zi9 (Z48 (TZ w b)):=⟨kf,kf,fun _=>kf,fun _=>kf⟩
theorem k4F:Zqd (lwV (TZ w b) 4) "reduce" := ⟨kf,kf,fun _=>kf⟩
theorem k4f:Zqd (Zh (Zhw (TZ w b))) "reduce" := ⟨kf,kf,fun _=>kf⟩
theorem k5J:Ma (lwV (TZ w b) 5) "join_shlex" := ⟨kf,kf,fun _=>kf⟩
theorem k5S:Zi9 (Z5w (TZ w b)):=⟨kf,kf,fun _=>kf,fun _=>kf⟩
theorem k5e:Ma (Zh (Zjp (TZ w b))) "join_shlex" := ⟨kf,kf,fun _=>kf⟩
theorem k5s:Zi9 (Z49 (TZ w b)):=⟨kf,kf,fun _=>kf,fun _=>kf⟩
theorem s2e:lwS (TZ w b) 2=.Assign [.Name "rows" (Yg (Y0 (lwS (TZ w b) 2)))] (.ListComp (Zh (Za4 (TZ w b))) [⟨Zf (Za4 (TZ w b)) 0,Ze (Za4 (TZ w b)) 0,[],0⟩] (Zc (Za4 (TZ w b))) (Ye (Za4 (TZ w b)))) (Y5 (lwS (TZ w b) 2)):=kf
theorem s2n:Y0 (lwS (TZ w b) 2)=.Name "rows" (Yg (Y0 (lwS (TZ w b) 2))):=kf
theorem s2w (fr kc wc:Nat):swapsWith (.ListComp (Zh (Za4 (TZ w b))) [⟨Zf (Za4 (TZ w b)) 0,Ze (Za4 (TZ w b)) 0,[],0⟩] (Zc (Za4 (TZ w b))) (Ye (Za4 (TZ w b)))) (some (.Name "rows" (Yg (Y0 (lwS (TZ w b) 2))))) (Y5 (lwS (TZ w b) 2)).line (Zm (TZ w b) fr kc wc)=pure true:=kf
noncomputable def Za5 (L:List Od):Prop:=L.length<=3/\∀ x∈L,x.us.length<=3/\∀ u∈x.us,u.length<=16
theorem Za5.join {L:List Od} (h:Za5 L):∀ u∈L.map fun x=>Zg x.us,u.length<=1000:=fun u hu=>by
 obtain ⟨x,hx,rfl⟩:=Uo.mp hu
 obtain ⟨h1,h2⟩:=h.2 x hx
 have:=Mg x.us 16 h2
 have:=Zv7 (5 * 16+3) h1
 lia
theorem Zo6 (hA:AOk A none 60) (G:Ground T2 (wb w b) H) {ln:Nat} {L:List Od} (hL:Za5 L)
  (O:Own H ((762,Z9 773 20 none)::(fr,Yy (HZ w b) ft [v0,.ref ln] sl)::(ln,Za (L.map Od.v) el)::(Yd L++l)) h)
  (hQ:∀ u c h' t' g',Own H ((762,Z9 773 20 (some c))::(fr,Yy (HZ w b) ft [v0,.ref ln] sl)::(ln,Za (L.map Od.v) el)::(Yd L++l)) h'->t<=t'->Zq true g g'->Q (.str (S (Zg (L.map fun x=>Zg x.us))) u) (r.at h' ⟨t',g'⟩)) :
  wpAny (model prog (wb w b)) A (eval (Z5f (TZ w b)) (Zm (TZ w b) fr kc wc)) Q E (r.at h ⟨t,g⟩):=by
 obtain ⟨o,ho,hd⟩:=Pl.mp (Z5e (w:=w) (b:=b))
 refine k2Q.go (o:=o) (af:=767) (fd:=Z7 (TZ w b) 767) ?_
 refine goP (Ztk fr kc wc) G hA (p:=[]) O fun h1 t1 g1 O1 qK qD=>⟨rfl,?_⟩
 refine n2L.toComp1.go (cl2L fr kc wc) ?_
 have O1:Own H ((fr,Yy (HZ w b) ft [v0,.ref ln] sl)::((762,Z9 773 20 none)::(ln,Za (L.map Od.v) el)::(Yd L++l))) h1:=O1.perm (.swap _ _ _)
 refine goP (Zs3 fr kc wc ft sl v0 ln) G hA O1 fun h2 t2 g2 O2 qN qF=>?_
 refine n2L.texts (L:=L) (lw:=ln) (ep:=el) hA.hand "line" (hs:=hz (wb w b)) (fun tb=>[(762,Z9 773 20 tb)]) Zg (l:=(fr,Yy (HZ w b) ft [v0,.ref ln] sl)::l) (by have:=hL.1; exact Zn this (by decide)) (fun C i X o' st m rest h3 t3 g3 Q E hX O3 hQ=>?_) (st:=none) (O2.perm ?_) fun st acc tk ea h3 t3 g3 O3 qx qz=>?_
 ·obtain ⟨q1,q2⟩:=hL.2 X (Nl hX)
  refine goW (Zww C fr kc wc o' X.a) G hA O3 fun x4 h4 t4 g4 O4 qB qw=>?_
  refine k2e.go (o:=o) (af:=767) (fd:=Z7 (TZ w b) 767) ?_
  refine goP (Zw4 C fr kc wc) G hA (p:=[]) O4 fun h5 t5 g5 O5 qy qv=>⟨rfl,?_⟩
  refine goP (Zs9 C fr kc wc (x4.nat 2) X.a) G hA O5 fun h6 t6 g6 O6 qG qC=>⟨⟨O6.keep _ _ (G.top _ _ ho),(Yc hd).1⟩,?_⟩
  have O6:=O6.perm (pm [_,_,_,_] [_,_,_] 92744320479574179970 5660664091673605)
  refine Vr hA G (ws:=X.us) (by exact Zn q1 (by decide)) (fun u hu=>by have:=q2 u hu; exact Zn this (by decide)) (tk:=X.tk) (la:=X.a) (ep:=X.ep) (tb:=st) O6 fun u c h7 t7 g7 O7 qO qM=>?_
  refine hQ u (some (x4.nat 2,X.a)) (some c) h7 t7 g7 (O7.perm ?_) (by exact (Zn qB (Zn qy (Zn qG qO)))) (gtr (gtr (gtr qw qv) qC) qM)
  exact pm [_,_,_,_] [_,_,_] 5660664091771522 92744320478768824456
 ·show List.Perm _ ([(762,Z9 773 20 none)]++_)
  exact pm [_,_,_] [_,_] 1885471362 30855867138689
 ·refine ⟨⟨O3.keep _ _ (G.top _ _ ho),(Yc hd).1⟩,?_⟩
  have O3:Own H ((762,Z9 773 20 st)::(acc,Za (wsV ((L.map fun x=>Zg x.us).map S) tk) ea)::((fr,Yy (HZ w b) ft [v0,.ref ln] sl)::(ln,Za (L.map Od.v) el)::(Yd L++l))) h3:=O3.perm (by
   exact pm [_,_,_,_] [_,_] 3989133412352130 241340432645)
  refine Vr hA G (ws:=L.map fun x=>Zg x.us) (by rw [Z0]; have:=hL.1; exact Zn this (by decide)) (fun u hu=>by have:=hL.join u hu; exact Zn this (by decide)) O3 fun u c h4 t4 g4 O4 qB qw=>?_
  refine hQ u c h4 t4 g4 (Own.drop (r:=[(acc,Za (wsV ((L.map fun x=>Zg x.us).map S) tk) ea)]) (O4.perm ?_)) (by exact (Zn qK (Zn qN (Zn qx qB)))) (gtr (gtr (gtr qD qF) qz) qw)
  exact pm [_,_,_,_] [_,_] 241346675330 22231579230465
noncomputable def okT:Option (Nat×(List Nat×Nat))->LI:=fun o=>o.map fun p=>(p.1,.str (S p.2.1) p.2.2)
structure RwSt where
 o:Option (Nat×(List Nat×Nat))
 R:List Od
 sl:LG
theorem Zof {ln:Nat} (hA:AOk A (some [fe (Zm (TZ w b) fr kc wc) fr]) 90) (G:Ground T2 (wb w b) H) {L:List Od} (hL:Za5 L) {Q:Flow->Shared->Prop}
  (O:Own H ((762,Z9 773 20 none)::(fr,Yy (HZ w b) ft [v0,.ref ln] sl)::(ln,Za (L.map Od.v) el)::(Yd L++l)) h)
  (hQ:∀ ft sl c rw R er h' t' g',R.map Od.us=L.map Od.us->Own H ((762,Z9 773 20 (some c))::(fr,Yy (HZ w b) ft [v0,.ref ln,.ref rw] sl)::(rw,Za (R.map Od.v) er)::(Yd R++((ln,Za (L.map Od.v) el)::(Yd L++l)))) h'->t<=t'->Zq true g g'->Q .next (r.at h' ⟨t',g'⟩)) :
  wpAny (model prog (wb w b)) A (exec (lwS (TZ w b) 2) (Zm (TZ w b) fr kc wc)) Q E (r.at h ⟨t,g⟩):=by
 have hn:AOk A none 60:=hA.bare (by decide)
 have hk:(Zm (TZ w b) fr kc wc).scope.kind≠.module:=by
  have e:(Z7 (TZ w b) 826).scope.kind=.function:=kf
  show (Z7 (TZ w b) 826).scope.kind≠.module
  rw [e]
  exact nofun
 have qE:10000000<=sizeLine:=by decide +kernel
 obtain ⟨c1,c2,c3⟩:=Yh (n2C (w:=w) (b:=b)).sc
 obtain ⟨o,ho,hd⟩:=Pl.mp (d760 (w:=w) (b:=b))
 rw [s2e]
 refine Mb (s2w fr kc wc) ?_
 refine J8 (g0:=⟨Zf (Za4 (TZ w b)) 0,Ze (Za4 (TZ w b)) 0,[],0⟩) rfl (fun x=>n2C.f _ x) (cl2C fr kc wc) c2 c3 ?_
 refine k2I.go (o:=o) (af:=760) (fd:=Z7 (TZ w b) 760) ?_
 refine goP (Zw9 fr kc wc) G hn (p:=[]) O fun h1 t1 g1 O1 qK qD=>⟨rfl,?_⟩
 refine Zo6 hn G hL O1 fun u c h2 t2 g2 O2 qN qF=>⟨⟨O2.keep _ _ (G.top _ _ ho),(Yc hd).1⟩,?_⟩
 have O2:Own H ((fr,frO ⟨Z6u (HZ w b) ft 0 Zld [v0,.ref ln]⟩ 2 sl)::((762,Z9 773 20 (some c))::(ln,Za (L.map Od.v) el)::(Yd L++l))) h2:=O2.perm (.swap _ _ _)
 refine Zbn hA hk G (ws:=L.map fun x=>Zg x.us) (by rw [Z0]; have:=hL.1; exact Zn this (by decide)) (fun u hu=>by have:=hL.join u hu; exact Zn this (by decide)) O2 fun xs tw ep sl3 h3 t3 g3 O3 qx qz=>?_
 refine Mj (r:=r) (H:=H) hA.hand (Xu (lst:=xs) (xs:=wsV ((L.map fun x=>Zg x.us).map S) tw) (ep:=ep)) c1 n2C.lets (fun st:RwSt=>xV (HZ w b) "text" (okT st.o)) (fun st=>(fr,Yy (HZ w b) ft [v0,.ref ln] st.sl)::Yd st.R)
  (fun j st ys=>ys=st.R.map Od.v/\st.R.map Od.us=(L.map Od.us).take j) (t₀:=t3) (g₀:=g3) (l:=(xs,Za (wsV ((L.map fun x=>Zg x.us).map S) tw) ep)::((762,Z9 773 20 (some c))::(ln,Za (L.map Od.v) el)::(Yd L++l))) (fun p hp=>by rw [Ur.mp hp]; exact .head _) (K:=1000) (by decide)
  (fun j st ys hI hj=>?_) (fun C j v st ys m h4 t4 g4 Q E hj hv hI O4 qB qw hQ=>?_) (fun C acc st ys ea h4 t4 g4 hI O4 qB qw=>?_) (st:=⟨none,[],sl3⟩) rfl ⟨rfl,rfl⟩ (O3.perm (by
   exact pm [_,_,_,_] [_,_] 241346675330 3954223922283137)) (Y9 _) (Zq.refl true _)
 ·obtain ⟨rfl,hR⟩:=hI
  have e:=Yr List.length hR
  rw [Z0,Zbg,Z0] at e
  have:=hL.1
  rw [Z0,e]
  lia
 ·obtain ⟨o4,R,sl4⟩:=st
  obtain ⟨rfl,hR⟩:=hI
  rw [Zac,Z0] at hj
  obtain ⟨u,hu,rfl⟩:=Ji _ tw j v hv
  have hX:L[j]?=some L[j]:=Vp hj
  generalize L[j]=X at hX
  rw [Zbl,hX] at hu
  obtain rfl:=Zfs hu
  obtain ⟨q1,q2⟩:=hL.2 X (Nl hX)
  refine Zcf.plain ?_
  refine goW (Zue C fr kc wc o4 (Zg X.us,tw j)) G hn O4 fun x5 h5 t5 g5 O5 qy qv=>?_
  refine k2f.go (o:=o) (af:=760) (fd:=Z7 (TZ w b) 760) ?_
  refine goP (Zvn C fr kc wc) G hn (p:=[]) O5 fun h6 t6 g6 O6 qG qC=>⟨rfl,?_⟩
  refine goP (Zx8 C fr kc wc (x5.nat 2) (Zg X.us) (tw j)) G hn O6 fun h7 t7 g7 O7 qO qM=>⟨⟨O7.keep _ _ (G.top _ _ ho),(Yc hd).1⟩,?_⟩
  have O7:=O7.perm (pm [_,_,_,_,_] [_,_,_,_] 15440365065212136603778 120627852071969800453)
  refine Zbn hA hk G (ws:=X.us) (by exact Zn q1 (by decide)) (fun u hu=>by have:=q2 u hu; exact Zn this (by decide)) O7 fun nw tn en sl8 h8 t8 g8 O8 qX qW=>?_
  refine hQ (some (.ref nw)) ⟨some (x5.nat 2,Zg X.us,tw j),R++[⟨nw,en,X.us,tn⟩],sl8⟩ h8 t8 g8 ⟨by rw [J3]; rfl,?_⟩ (O8.perm ?_) (by exact (Zn qy (Zn qG (Zn qO qX)))) (gtr (gtr (gtr qv qC) qM) qW)
  ·have hR:R.map Od.us=_:=hR
   rw [J3,hR,Zbv,Zbl,hX]
   rfl
  ·show List.Perm ((nw,Za (wsV (X.us.map S) tn) en)::(fr,Yy (HZ w b) ft [v0,.ref ln] sl8)::(C,xV (HZ w b) "text" (some (x5.nat 2,.str (S (Zg X.us)) (tw j))))::(Yd R++(((xs,Za (wsV ((L.map fun x=>Zg x.us).map S) tw) ep)::((762,Z9 773 20 (some c))::(ln,Za (L.map Od.v) el)::(Yd L++l)))++m))) ((C,xV (HZ w b) "text" (some (x5.nat 2,.str (S (Zg X.us)) (tw j))))::(((fr,Yy (HZ w b) ft [v0,.ref ln] sl8)::Yd (R++[⟨nw,en,X.us,tn⟩]))++(((xs,Za (wsV ((L.map fun x=>Zg x.us).map S) tw) ep)::((762,Z9 773 20 (some c))::(ln,Za (L.map Od.v) el)::(Yd L++l)))++m)))
   rw [Vu]
   exact pm [_,_,_,_,_,_] [_,_,_,_] 15440366767359213568642 252974969116413250414657672
 ·obtain ⟨o4,R,sl4⟩:=st
  obtain ⟨rfl,hR⟩:=hI
  have hR:R.map Od.us=_:=hR
  rw [Zac,Z0,Zni (by rw [Z0]; exact Y9 _)] at hR
  have O4:=O4.perm (pm [_,_,_,_,_,_] [_,_,_] 92675698033682301570 724028890885996808)
  refine V6 (H:=H) (r:=r) ?_
  rw [← s2n]
  refine goW (Ztb fr kc wc ft sl4 v0 (.ref ln) acc) G hn O4 fun x5 h5 t5 g5 O5 qy qv=>?_
  refine ⟨_,_,h5,t5,g5,rfl,Zey _ _ _,O5.perm (.swap _ _ _),fun h6 O6=>hQ (fun j=>x5.nat (j+2)) sl4 c acc R ea h6 t5 g5 hR (Own.drop (r:=[(xs,Za (wsV ((L.map fun x=>Zg x.us).map S) tw) ep)]) (O6.perm ?_)) (by exact (Zn qK (Zn qN (Zn qx (Zn qB qy))))) (gtr (gtr (gtr (gtr qD qF) qz) qw) qv)⟩
  exact pm [_,_,_,_,_] [_,_,_] 5656371819233922 582117121968866689
end
theorem Za5.of_map {L R:List Od} (h:Za5 L) (e:R.map Od.us=L.map Od.us):Za5 R:=by
 refine ⟨?_,fun x hx=>?_⟩
 ·have:=Yr List.length e
  rw [Z0,Z0] at this
  rw [this]
  exact h.1
 ·have hm:x.us∈L.map Od.us:=by
   rw [← e]
   exact Zdq hx
  obtain ⟨y,hy,e⟩:=Uo.mp hm
  rw [← e]
  exact h.2 y hy
theorem Za5.sorted {L:List Od} (h:Za5 L) {x:Od} (hx:x∈L):(Zy x.us).length<=3/\∀ u∈Zy x.us,u.length<=100000:=by
 obtain ⟨h1,h2⟩:=h.2 x hx
 have hp:=Y3 x.us
 exact ⟨by rw [hp.length_eq]; exact h1,fun u hu=>by have:=h2 u (hp.mem_iff.mp hu); exact Zn this (by decide)⟩
noncomputable def X2 (L:List Od):LD:=L.map fun x=>Zg (Zy x.us)
theorem Za5.lines {L:List Od} (h:Za5 L):(X2 L).length<=3/\∀ u∈X2 L,u.length<=1000:=by
 refine ⟨by unfold X2; rw [List.length_map]; exact h.1,fun u hu=>?_⟩
 obtain ⟨x,hx,rfl⟩:=Uo.mp hu
 obtain ⟨h1,h2⟩:=h.2 x hx
 have hp:=Y3 x.us
 have:=Mg (Zy x.us) 16 fun u hu=>h2 u (hp.mem_iff.mp hu)
 have:=Zv7 (5 * 16+3) (show (Zy x.us).length<=3 by rw [hp.length_eq]; exact h1)
 lia
theorem Za5.slines {L:List Od} (h:Za5 L):(Zy (X2 L)).length<=3/\∀ u∈Zy (X2 L),u.length<=100000:=by
 have hp:=Y3 (X2 L)
 obtain ⟨h1,h2⟩:=h.lines
 exact ⟨by rw [hp.length_eq]; exact h1,fun u hu=>by have:=h2 u (hp.mem_iff.mp hu); exact Zn this (by decide)⟩
section
theorem s3e:lwS (TZ w b) 3=.Assign [.Name "ordered" (Yg (Y0 (lwS (TZ w b) 3)))] (lwV (TZ w b) 3) (Y5 (lwS (TZ w b) 3)):=kf
theorem s3w (fr kc wc:Nat):swapsWith (lwV (TZ w b) 3) (some (.Name "ordered" (Yg (Y0 (lwS (TZ w b) 3))))) (Y5 (lwS (TZ w b) 3)).line (Zm (TZ w b) fr kc wc)=pure false:=kf
theorem s5e:lwS (TZ w b) 5=.Assign [.Name "told" (Yg (Y0 (lwS (TZ w b) 5)))] (lwV (TZ w b) 5) (Y5 (lwS (TZ w b) 5)):=kf
theorem s5w (fr kc wc:Nat):swapsWith (lwV (TZ w b) 5) (some (.Name "told" (Yg (Y0 (lwS (TZ w b) 5))))) (Y5 (lwS (TZ w b) 5)).line (Zm (TZ w b) fr kc wc)=pure false:=kf
theorem Zt5 (hA:AOk A none 110) (G:Ground T2 (wb w b) H) (a:LN) (k:LM) {er:Nat} {R:List Od} (hL:Za5 R) {Q:Flow->Shared->Prop}
  (O:Own H ((fr,Yy (HZ w b) ft [v0,v1,.ref rw] sl)::(kc,Zp (.ref (a 6)))::(762,Z9 773 20 (some c))::(rw,Za (R.map Od.v) er)::(Yd R++(Z1 (HZ w b) (TZ w b) a k++l))) h)
  (hQ:∀ ft c u h' t' g',Own H ((fr,Yy (HZ w b) ft [v0,v1,.ref rw,.str (S (Zg (Zy (X2 R)))) u] sl)::(kc,Zp (.ref (a 6)))::(762,Z9 773 20 (some c))::(rw,Za (R.map Od.v) er)::(Yd R++(Z1 (HZ w b) (TZ w b) a k++l))) h'->t<=t'->Zq true g g'->Q .next (r.at h' ⟨t',g'⟩)) :
  wpAny (model prog (wb w b)) A (exec (lwS (TZ w b) 3) (Zm (TZ w b) fr kc wc)) Q E (r.at h ⟨t,g⟩):=by
 have hj:AOk A none 60:=hA.le (by decide)
 obtain ⟨o,ho,hd⟩:=Pl.mp (Z5e (w:=w) (b:=b))
 rw [s3e]
 refine Zo9 (hs:=s3w fr kc wc) ?_
 refine k3J.go (o:=o) (af:=767) (fd:=Z7 (TZ w b) 767) ?_
 refine goP (Zta fr kc wc) G hA (p:=[]) O fun h1 t1 g1 O1 qK qD=>⟨rfl,?_⟩
 refine k3S.go ?_
 refine goP (Zuj fr kc wc) G hA (p:=[]) O1 fun h2 t2 g2 O2 qN qF=>⟨rfl,?_⟩
 refine n3C.toComp1.go (cl3C fr kc wc) ?_
 refine goP (Zuf fr kc wc ft sl v0 v1 rw) G hA O2 fun h3 t3 g3 O3 qx qz=>?_
 refine n3C.texts (L:=R) (lw:=rw) (ep:=er) hA.hand "row" (hs:=hz (wb w b)) (fun c=>(762,Z9 773 20 (some c))::Z1 (HZ w b) (TZ w b) a k) (fun us=>Zg (Zy us)) (l:=(fr,Yy (HZ w b) ft [v0,v1,.ref rw] sl)::(kc,Zp (.ref (a 6)))::l) (by have:=hL.1; exact Zn this (by decide)) (fun C i X o' st m rest h4 t4 g4 Q E hX O4 hQ=>?_) (st:=c) (O3.perm ?_) fun st acc tk ea h4 t4 g4 O4 qB qw=>?_
 ·obtain ⟨q1,q2⟩:=hL.2 X (Nl hX)
  obtain ⟨q3,q4⟩:=hL.sorted (Nl hX)
  refine goW (Zx0 C fr kc wc o' X.a) G hA O4 fun x5 h5 t5 g5 O5 qy qv=>?_
  generalize x5.nat 2=t1' at O5
  refine k3e.go (o:=o) (af:=767) (fd:=Z7 (TZ w b) 767) ?_
  refine goP (Zt0 C fr kc wc) G hA (p:=[]) O5 fun h6 t6 g6 O6 qG qC=>⟨rfl,?_⟩
  refine k3s.go ?_
  refine goP (Zwe C fr kc wc) G hA (p:=[]) O6 fun h7 t7 g7 O7 qO qM=>⟨rfl,?_⟩
  refine goP (Zsr C fr kc wc t1' X.a) G hA O7 fun h8 t8 g8 O8 qX qW=>?_
  have O8:=O8.perm (pm [_,_,_,_,_] [_,_,_,_] 15440939793067274223746 941842038853337742)
  refine goP (Zwt C fr kc wc (a 6)) G hA O8 fun h9 t9 g9 O9 xk xq=>?_
  have O9:=O9.perm (pm [_,_,_,_,_] [_,_,_,_] 941842144348471938 941842144346293253)
  refine Zbr hA G a k (ws:=X.us) (by exact Zd8 q1 (by decide)) (fun u hu=>by have:=q2 u hu; exact Zn this (by decide)) (tk:=X.tk) (la:=X.a) (ep:=X.ep) O9 fun lw tw e' c' h10 t10 g10 O10 xw qZ=>?_
  refine ⟨⟨O10.keep _ _ (G.top _ _ ho),(Yc hd).1⟩,?_⟩
  refine Vr hj G (ws:=Zy X.us) (by exact Zn q3 (by decide)) q4 (O10.perm (.swap _ _ _)) fun u c'' h11 t11 g11 O11 xu xy=>?_
  refine hQ u (some (t1',X.a)) c'' h11 t11 g11 (Own.drop (r:=[(lw,Za (wsV ((Zy X.us).map S) tw) e')]) (O11.perm ?_)) (by exact (Zn qy (Zn qG (Zn qO (Zn qX (Zn xk (Zn xw xu))))))) (gtr (gtr (gtr (gtr (gtr (gtr qv qC) qM) qW) xq) qZ) xy)
  exact pm [_,_,_,_,_,_] [_,_,_,_] 120555807775960203906 98690478624912398734083841
 ·generalize Yd R=lr
  exact pm [_,_,_,_] [_,_,_] 44187452048002 5651559314736129
 ·obtain ⟨q1,q2⟩:=hL.lines
  obtain ⟨q3,q4⟩:=hL.slines
  have O4:=O4.perm (pm [_,_,_,_,_] [_,_,_] 728505826553184386 5656165650301582)
  refine goP (Zse fr kc wc (a 6)) G hA O4 fun h5 t5 g5 O5 qy qv=>?_
  have O5:=O5.perm (pm [_,_,_,_,_] [_,_,_] 5656371808830082 5656371806651397)
  refine Zbr hA G a k (ws:=X2 R) (by exact Zd8 q1 (by decide)) (fun u hu=>by have:=q2 u hu; exact Zn this (by decide)) O5 fun lw tw e' c' h6 t6 g6 O6 qG qC=>?_
  refine ⟨⟨O6.keep _ _ (G.top _ _ ho),(Yc hd).1⟩,?_⟩
  refine Vr hj G (ws:=Zy (X2 R)) (by exact Zn q3 (by decide)) q4 (O6.perm (.swap _ _ _)) fun u c'' h7 t7 g7 O7 qO qM=>?_
  have O7:=Own.drop (r:=[(acc,Za (wsV ((X2 R).map S) tk) ea),(lw,Za (wsV ((Zy (X2 R)).map S) tw) e')]) (O7.perm (pm [_,_,_,_,_,_] [_,_,_] 724028890886046338 46698963840977258241))
  refine goW (Zv3 fr kc wc ft sl v0 v1 (.ref rw) (Zg (Zy (X2 R))) u) G hA O7 fun x8 h8 t8 g8 O8 qX qW=>?_
  exact hQ (fun j=>x8.nat (j+2)) c'' u h8 t8 g8 O8 (by exact (Zn qK (Zn qN (Zn qx (Zn qB (Zn qy (Zn qG (Zn qO qX)))))))) (gtr (gtr (gtr (gtr (gtr (gtr (gtr qD qF) qz) qw) qv) qC) qM) qW)
theorem Zul (hA:AOk A none 120) (G:Ground T2 (wb w b) H) {ln:Nat} {L:List Od} (hL:Za5 L) {Q:Flow->Shared->Prop}
  (O:Own H ((fr,Yy (HZ w b) ft [v0,.ref ln,v2,v3,v4] sl)::(762,Z9 773 20 (some c))::(ln,Za (L.map Od.v) el)::(Yd L++l)) h)
  (hQ:∀ ft c u h' t' g',Own H ((fr,Yy (HZ w b) ft [v0,.ref ln,v2,v3,v4,.str (S (Zg (Zy (X2 L)))) u] sl)::(762,Z9 773 20 (some c))::(ln,Za (L.map Od.v) el)::(Yd L++l)) h'->t<=t'->Zq true g g'->Q .next (r.at h' ⟨t',g'⟩)) :
  wpAny (model prog (wb w b)) A (exec (lwS (TZ w b) 5) (Zm (TZ w b) fr kc wc)) Q E (r.at h ⟨t,g⟩):=by
 have hj:AOk A none 60:=hA.le (by decide)
 obtain ⟨o,ho,hd⟩:=Pl.mp (Z5e (w:=w) (b:=b))
 rw [s5e]
 refine Zo9 (hs:=s5w fr kc wc) ?_
 refine k5J.go (o:=o) (af:=767) (fd:=Z7 (TZ w b) 767) ?_
 refine goP (Zvt fr kc wc) G hA (p:=[]) O fun h1 t1 g1 O1 qK qD=>⟨rfl,?_⟩
 refine k5S.go ?_
 refine goP (Zty fr kc wc) G hA (p:=[]) O1 fun h2 t2 g2 O2 qN qF=>⟨rfl,?_⟩
 refine n5C.toComp1.go (cl5C fr kc wc) ?_
 refine goP (Zxd fr kc wc ft sl v0 v2 v3 v4 ln) G hA O2 fun h3 t3 g3 O3 qx qz=>?_
 refine n5C.texts (L:=L) (lw:=ln) (ep:=el) hA.hand "line" (hs:=hz (wb w b)) (fun c=>[(762,Z9 773 20 (some c))]) (fun us=>Zg (Zy us)) (l:=(fr,Yy (HZ w b) ft [v0,.ref ln,v2,v3,v4] sl)::l) (by have:=hL.1; exact Zn this (by decide)) (fun C i X o' st m rest h4 t4 g4 Q E hX O4 hQ=>?_) (st:=c) (O3.perm ?_) fun st acc tk ea h4 t4 g4 O4 qB qw=>?_
 ·obtain ⟨q1,q2⟩:=hL.2 X (Nl hX)
  obtain ⟨q3,q4⟩:=hL.sorted (Nl hX)
  refine goW (Zux C fr kc wc o' X.a) G hA O4 fun x5 h5 t5 g5 O5 qy qv=>?_
  generalize x5.nat 2=t1' at O5
  refine k5e.go (o:=o) (af:=767) (fd:=Z7 (TZ w b) 767) ?_
  refine goP (Zx1 C fr kc wc) G hA (p:=[]) O5 fun h6 t6 g6 O6 qG qC=>⟨rfl,?_⟩
  refine k5s.go ?_
  refine goP (Zt3 C fr kc wc) G hA (p:=[]) O6 fun h7 t7 g7 O7 qO qM=>⟨rfl,?_⟩
  refine goP (Zxn C fr kc wc t1' X.a) G hA O7 fun h8 t8 g8 O8 qX qW=>?_
  refine goP (Zxm C fr kc wc) G hA (p:=[]) O8 fun h9 t9 g9 O9 xk xq=>?_
  have O9:=O9.perm (pm [_,_,_,_] [_,_,_] 92744320479574179970 5660664091721992)
  refine Zcg hA G (ws:=X.us) (by exact Zd8 q1 (by decide)) (fun u hu=>by have:=q2 u hu; exact Zn this (by decide)) (tk:=X.tk) (la:=X.a) (ep:=X.ep) O9 fun lw tw e' h10 t10 g10 O10 xw qZ=>?_
  refine ⟨⟨O10.keep _ _ (G.top _ _ ho),(Yc hd).1⟩,?_⟩
  refine Vr hj G (ws:=Zy X.us) (tb:=some st) (la:=lw) (ep:=e') (tk:=tw) (l:=X.o::((C,xV (HZ w b) "line" (some (t1',.ref X.a)))::(rest++(((fr,Yy (HZ w b) ft [v0,.ref ln,v2,v3,v4] sl)::l)++m)))) (by exact Zn q3 (by decide)) q4 (O10.perm (by
   exact pm [_,_,_,_,_] [_,_,_] 724578197892629122 724578197886288139)) fun u c'' h11 t11 g11 O11 xu xy=>?_
  refine hQ u (some (t1',X.a)) c'' h11 t11 g11 (Own.drop (r:=[(lw,Za (wsV ((Zy X.us).map S) tw) e')]) (O11.perm ?_)) (by exact (Zn qy (Zn qG (Zn qO (Zn qX (Zn xk (Zn xw xu))))))) (gtr (gtr (gtr (gtr (gtr (gtr qv qC) qM) qW) xq) qZ) xy)
  exact pm [_,_,_,_,_] [_,_,_] 724578197892629122 767450126453310836721025
 ·generalize Yd L=lr
  exact pm [_,_,_] [_,_] 1885471362 30855867138689
 ·obtain ⟨q1,q2⟩:=hL.lines
  obtain ⟨q3,q4⟩:=hL.slines
  have O4:=O4.perm (pm [_,_,_,_] [_,_] 3989133412352130 241340433026)
  refine goP (Zwy fr kc wc) G hA (p:=[]) O4 fun h5 t5 g5 O5 qy qv=>?_
  refine Zcg hA G (ws:=X2 L) (by exact Zd8 q1 (by decide)) (fun u hu=>by have:=q2 u hu; exact Zn this (by decide)) O5 fun lw tw e' h6 t6 g6 O6 qG qC=>?_
  refine ⟨⟨O6.keep _ _ (G.top _ _ ho),(Yc hd).1⟩,?_⟩
  refine Vr hj G (ws:=Zy (X2 L)) (tb:=some st) (la:=lw) (ep:=e') (tk:=tw) (l:=(acc,Za (wsV ((X2 L).map S) tk) ea)::((fr,Yy (HZ w b) ft [v0,.ref ln,v2,v3,v4] sl)::(ln,Za (L.map Od.v) el)::(Yd L++l))) (by exact Zn q3 (by decide)) q4 (O6.perm (by
   exact pm [_,_,_,_,_] [_,_] 30893186089602 30893186040072)) fun u c'' h7 t7 g7 O7 qO qM=>?_
  have O7:=Own.drop (r:=[(acc,Za (wsV ((X2 L).map S) tk) ea),(lw,Za (wsV ((Zy (X2 L)).map S) tw) e')]) (O7.perm (pm [_,_,_,_,_] [_,_] 30893186089602 2850175492064641))
  refine goW (Zxv fr kc wc ft sl v0 (.ref ln) v2 v3 v4 (Zg (Zy (X2 L))) u) G hA O7 fun x8 h8 t8 g8 O8 qX qW=>?_
  exact hQ (fun j=>x8.nat (j+2)) c'' u h8 t8 g8 O8 (by exact (Zn qK (Zn qN (Zn qx (Zn qB (Zn qy (Zn qG (Zn qO qX)))))))) (gtr (gtr (gtr (gtr (gtr (gtr (gtr qD qF) qz) qw) qv) qC) qM) qW)
end
section
theorem s6e:lwS (TZ w b) 6=.Assign [.Name "words" (Yg (Y0 (lwS (TZ w b) 6)))] (.ListComp (Zh (Uv (TZ w b))) [⟨Zf (Uv (TZ w b)) 0,Ze (Uv (TZ w b)) 0,[],0⟩,⟨Zf (Uv (TZ w b)) 1,Ze (Uv (TZ w b)) 1,[],0⟩] (Zc (Uv (TZ w b))) (Ye (Uv (TZ w b)))) (Y5 (lwS (TZ w b) 6)):=kf
theorem s6w (fr kc wc:Nat):swapsWith (.ListComp (Zh (Uv (TZ w b))) [⟨Zf (Uv (TZ w b)) 0,Ze (Uv (TZ w b)) 0,[],0⟩,⟨Zf (Uv (TZ w b)) 1,Ze (Uv (TZ w b)) 1,[],0⟩] (Zc (Uv (TZ w b))) (Ye (Uv (TZ w b)))) (some (.Name "words" (Yg (Y0 (lwS (TZ w b) 6))))) (Y5 (lwS (TZ w b) 6)).line (Zm (TZ w b) fr kc wc)=pure false:=kf
theorem s6c (fr kc wc:Nat):closureFor (Zc (Uv (TZ w b))) (Zm (TZ w b) fr kc wc)=pure []:=kf
theorem s6s:Na (Zc (Uv (TZ w b)))=true:=kf
theorem s6f (qq:Env) (x:Value):foldedSetIterable (Ze (Uv (TZ w b)) 0) qq x=pure x:=kf
theorem s6g (qq:Env) (x:Value):foldedSetIterable (Ze (Uv (TZ w b)) 1) qq x=pure x:=kf
theorem s6l (I:Addr) (v:Value):letOwnedTupleGo (Zf (Uv (TZ w b)) 0) (.ref I) v=pure ():=kf
theorem s6m (I:Addr) (v:Value):letOwnedTupleGo (Zf (Uv (TZ w b)) 1) (.ref I) v=pure ():=kf
theorem Zsc (hf:AOk A none 60) (G:Ground T2 (wb w b) H) {C:Nat} {a:Addr} {st:Option (Nat×Addr×Option (Nat×(List Nat×Nat)))} {Q:Unit->Shared->Prop}
  (O:Own H ((C,x2V (HZ w b) "row" "word" (okW st))::l) h)
  (hQ:∀ t1 o h' t' g',Own H ((C,x2V (HZ w b) "row" "word" (okW (some (t1,a,o))))::l) h'->t<=t'->Zq true g g'->Q () (r.at h' ⟨t',g'⟩)) :
  wpAny (model prog (wb w b)) A (assign (Zf (Uv (TZ w b)) 0) (compEnvC (Zc (Uv (TZ w b))) [] C (Zm (TZ w b) fr kc wc)) (.ref a)) Q E (r.at h ⟨t,g⟩):=by
 rcases st with _ | ⟨t1,a1,_ | ⟨t2,W2,u2⟩⟩
 ·exact goW (Zm6 C fr kc wc a) G hf O fun x h3 t3 g3 O3 qx qz=>hQ (x.nat 2) none h3 t3 g3 O3 qx qz
 ·exact goW (Zm8 C fr kc wc t1 a1 a) G hf O fun x h3 t3 g3 O3 qx qz=>hQ (x.nat 2) none h3 t3 g3 O3 qx qz
 ·exact goW (Zj4 C fr kc wc t1 t2 a1 W2 u2 a) G hf O fun x h3 t3 g3 O3 qx qz=>hQ (x.nat 2) (some (x.nat 3,W2,u2)) h3 t3 g3 O3 qx qz
theorem Zsi (hf:AOk A none 60) (G:Ground T2 (wb w b) H) {C:Nat} {a:Addr} {o:Option (Nat×(List Nat×Nat))} {u:List Nat} {tu:Nat} {Q:Unit->Shared->Prop}
  (O:Own H ((C,x2V (HZ w b) "row" "word" (okW (some (t1,a,o))))::l) h)
  (hQ:∀ t1 t2 h' t' g',Own H ((C,x2V (HZ w b) "row" "word" (some (t1,.ref a,some (t2,.str (S u) tu))))::l) h'->t<=t'->Zq true g g'->Q () (r.at h' ⟨t',g'⟩)) :
  wpAny (model prog (wb w b)) A (assign (Zf (Uv (TZ w b)) 1) (compEnvC (Zc (Uv (TZ w b))) [] C (Zm (TZ w b) fr kc wc)) (.str (S u) tu)) Q E (r.at h ⟨t,g⟩):=by
 rcases o with _ | ⟨t2,W2,u2⟩
 ·exact goW (Zjy C fr kc wc t1 a u tu) G hf O fun x h3 t3 g3 O3 qx qz=>hQ (x.nat 2) (x.nat 3) h3 t3 g3 O3 qx qz
 ·exact goW (Zkb C fr kc wc t1 t2 a W2 u2 u tu) G hf O fun x h3 t3 g3 O3 qx qz=>hQ (x.nat 2) (x.nat 3) h3 t3 g3 O3 qx qz
theorem Zhl {R:List Od} (hL:Za5 R) (i:Nat):((R.map Od.us).take i).flatten.length<=9:=by
 have h:∀ l:List (LD),(∀ x∈l,x.length<=3)->l.flatten.length<=l.length * 3:=by
  intro l
  induction l with
  | nil=>exact fun _=>Pt _
  | cons x l ih =>
   intro h
   have:=ih fun y hy=>h y (.tail _ hy)
   have:=h x (.head _)
   rw [List.flatten_cons,Vc,V7]
   lia
 have h2:=h ((R.map Od.us).take i) fun x hx=>by
  obtain ⟨y,hy,rfl⟩:=Uo.mp (Z1v hx)
  exact (hL.2 y hy).1
 have h1:=hL.1
 rw [Zbg,Z0] at h2
 lia
theorem Zxx (hA:AOk A none 60) (G:Ground T2 (wb w b) H) {er:Nat} {R:List Od} (hL:Za5 R) {Q:Flow->Shared->Prop}
  (O:Own H ((fr,Yy (HZ w b) ft [v0,v1,.ref rw,v3,v4,v5] sl)::(wc,X4)::(rw,Za (R.map Od.v) er)::(Yd R++l)) h)
  (hQ:∀ wd tk ew h' t' g',Own H ((wc,Zp (.ref wd))::(wd,Za (wsV ((R.map Od.us).flatten.map S) tk) ew)::(fr,Yy (HZ w b) ft [v0,v1,.ref rw,v3,v4,v5] sl)::(rw,Za (R.map Od.v) er)::(Yd R++l)) h'->t<=t'->Zq true g g'->Q .next (r.at h' ⟨t',g'⟩)) :
  wpAny (model prog (wb w b)) A (exec (lwS (TZ w b) 6) (Zm (TZ w b) fr kc wc)) Q E (r.at h ⟨t,g⟩):=by
 have qE:10000000<=sizeLine:=by decide +kernel
 obtain ⟨c1,c2,c3⟩:=Yh (s6s (w:=w) (b:=b))
 rw [s6e]
 refine Zo9 (hs:=s6w fr kc wc) ?_
 rw [Zvm]
 refine J8 (g0:=⟨Zf (Uv (TZ w b)) 0,Ze (Uv (TZ w b)) 0,[],0⟩) rfl (fun x=>s6f _ x) (s6c fr kc wc) c2 c3 ?_
 refine goP (Zsw fr kc wc ft sl v0 v1 v3 v4 v5 rw) G hA O fun h1 t1 g1 O1 qK qD=>?_
 refine Nu (r:=r) (H:=H) hA.hand (Xu (lst:=rw) (xs:=R.map Od.v) (ep:=er)) (fun C x=>s6g _ x) c1 (fun I v=>s6l I v) (fun st:Option (Nat×Addr×Option (Nat×(List Nat×Nat)))=>x2V (HZ w b) "row" "word" (okW st)) (fun _=>[])
  (fun i st ys=>∃ tk,ys=wsV (((R.map Od.us).take i).flatten.map S) tk) (t₀:=t1) (g₀:=g1) (l:=(rw,Za (R.map Od.v) er)::(Yd R++((fr,Yy (HZ w b) ft [v0,v1,.ref rw,v3,v4,v5] sl)::(wc,X4)::l))) (fun p hp=>by rw [Ur.mp hp]; exact .head _)
  (fun C acc i v st ys ea m h4 t4 g4 K E hi hv hI O4 qB qw hK=>?_) (fun C acc st ys ea h4 t4 g4 hI O4 qB qw=>?_) (st:=none) rfl ⟨fun _=>0,rfl⟩ (O1.perm (by
   exact pm [_,_,_] [_,_] 1885471362 30958667563009)) (Y9 _) (Zq.refl true _)
 ·rw [Z0] at hi
  obtain ⟨tk,rfl⟩:=hI
  obtain ⟨X,hX,rfl,hXu⟩:=Za0 hi hv
  have hXu:=hXu _ rfl
  obtain ⟨rest,hp⟩:=Y4 hX
  have hfl:=Zhl hL i
  have hxl:=(hL.2 X (Nl hX)).1
  generalize hP:((R.map Od.us).take i).flatten=P at hfl O4
  have O4:Own H ((C,x2V (HZ w b) "row" "word" (okW st))::((acc,Za (wsV (P.map S) tk) ea)::X.o::(rest++((rw,Za (R.map Od.v) er)::(fr,Yy (HZ w b) ft [v0,v1,.ref rw,v3,v4,v5] sl)::(wc,X4)::(l++m))))) h4:=O4.perm (by
   refine (((((hp.append_right _).cons _).append_right _).cons _).cons _).trans ?_
   exact pm [_,_,_,_,_,_] [_,_,_] 11871712689800517534338 724028890080788741)
  refine Zsc hA G O4 fun t1' o h5 t5 g5 O5 qy qv=>?_
  refine goP (Zt6 C fr kc wc t1' X.a o) G hA O5 fun h6 t6 g6 O6 qG qC=>?_
  refine Gu (r:=r) (H:=H) hA.hand (Xu (lst:=X.a) (xs:=wsV (X.us.map S) X.tk) (ep:=X.ep)) (fun I v=>s6m I v) (fun st:Option (Nat×(List Nat×Nat))×Nat=>[(C,x2V (HZ w b) "row" "word" (okW (some (st.2,X.a,st.1))))])
   (fun j st ys=>∃ tk',ys=wsV ((P++X.us.take j).map S) tk') (t₀:=t6) (g₀:=g6)
   (l:=X.o::(rest++((rw,Za (R.map Od.v) er)::(fr,Yy (HZ w b) ft [v0,v1,.ref rw,v3,v4,v5] sl)::(wc,X4)::(l++m)))) (fun p hp=>by rw [Ur.mp hp]; exact .head _) (K:=2000001) (by decide)
   (fun j st ys hI hj=>?_) (fun j v st ys m2 h7 t7 g7 Q E hj hv hI O7 qO qM hQ=>?_) (fun st ys ea7 h7 t7 g7 hI O7 qO qM=>?_) (st:=(o,t1')) (ea:=ea) ⟨tk,by rw [List.take_zero,Gf]⟩ (O6.perm ?_) (Y9 _) (Zq.refl true _)
  ·obtain ⟨tk',rfl⟩:=hI
   rw [Zac,Vc,Zbg]
   lia
  ·rw [Zac] at hj
   obtain ⟨tk',rfl⟩:=hI
   obtain ⟨u,hu,rfl⟩:=Ji X.us X.tk j v hv
   refine Zsi hA G O7 fun t8' t9' h8 t8 g8 O8 qX qW=>?_
   refine goP (Zxb C fr kc wc t8' X.a t9' u (X.tk j)) G hA O8 fun h9 t9 g9 O9 xk xq=>?_
   refine hQ (.str (S u) (X.tk j)) (some (t9',u,X.tk j),t8') h9 t9 g9 ⟨Ja (P++X.us.take j).length tk' fun _=>X.tk j,?_⟩ O9 (by exact (Zn qX xk)) (gtr qW xq)
   rw [Zbv,hu,Option.toList_some,← Zdp,Ud]
  ·obtain ⟨tk',rfl⟩:=hI
   rw [Zac,Zja] at O7
   refine hK (some (st.2,X.a,st.1)) (wsV ((P++X.us).map S) tk') ea7 h7 t7 g7 ⟨tk',?_⟩ (O7.perm ?_) (by exact (Zn qy (Zn qG qO))) (gtr (gtr qv qC) qM)
   ·rw [Zbv,hXu,List.flatten_append,hP]
    simp
   ·show List.Perm ((acc,Za (wsV ((P++X.us).map S) tk') ea7)::(C,x2V (HZ w b) "row" "word" (okW (some (st.2,X.a,st.1))))::(X.o::(rest++((rw,Za (R.map Od.v) er)::(fr,Yy (HZ w b) ft [v0,v1,.ref rw,v3,v4,v5] sl)::(wc,X4)::(l++m))))) ((acc,Za (wsV ((P++X.us).map S) tk') ea7)::(C,x2V (HZ w b) "row" "word" (okW (some (st.2,X.a,st.1))))::(((rw,Za (R.map Od.v) er)::(Yd R++((fr,Yy (HZ w b) ft [v0,v1,.ref rw,v3,v4,v5] sl)::(wc,X4)::l)))++m))
    refine List.Perm.trans ?_ (((((hp.append_right _).cons _).append_right _).cons _).cons _).symm
    exact pm [_,_,_,_,_,_] [_,_,_] 724028890886046338 11871712689697444610690
  ·show List.Perm ((C,x2V (HZ w b) "row" "word" (okW (some (t1',X.a,o))))::((acc,Za (wsV (P.map S) tk) ea)::X.o::_)) ((acc,Za (wsV (P.map S) tk) ea)::([(C,x2V (HZ w b) "row" "word" (okW (some (t1',X.a,o))))]++_))
   exact pm [_,_,_,_,_,_] [_,_,_] 724028890886046338 11862489348276972716165
 ·obtain ⟨tk,rfl⟩:=hI
  rw [Z0,Zni (by rw [Z0]; exact Y9 _)] at O4
  refine J5 O4 (Zbw _ _ _ _) fun h5 O5=>?_
  have O5:=O5.perm (pm [_,_,_,_] [_,_] 3989303879270530 241334092043)
  refine goW (Zsz fr kc wc acc) G hA O5 fun x6 h6 t6 g6 O6 qG qC=>?_
  exact hQ acc tk ea h6 t6 g6 O6 (by exact (Zn qK (Zn qB qG))) (gtr (gtr qD qw) qC)
end
theorem Zgs:∀ (us:LD) (tk:LM) (i:Nat) (u:List Nat),us[i]?=some u->(wsV (us.map S) tk)[i]?=some (.str (S u) (tk i))
 | v::us,tk,0,u,h=>by cases h; rfl
 | v::us,tk,i+1,u,h=>Zgs us (fun k=>tk (k+1)) i u h
structure Pr where
 a:Addr
 u:List Nat
 tu:Nat
 v:List Nat
 tv:Nat
noncomputable def Pr.o (x:Pr):Addr×Obj:=(x.a,tuP (.str (S x.u) x.tu) (.str (S x.v) x.tv))
noncomputable def Pr.V (x:Pr):Value:=.ref x.a
noncomputable def Pr.q (x:Pr):List Nat×List Nat:=(x.u,x.v)
noncomputable def okI:Option (Nat×(Int×Nat))->LI:=fun o=>o.map fun p=>(p.1,.int p.2.1 p.2.2)
section
theorem n7C:M1 (Zbk (TZ w b)):=⟨⟨kf,kf,fun _ _=>kf⟩,fun _ _=>kf⟩
theorem s7e:lwS (TZ w b) 7=.Assign [.Name "pairs" (Yg (Y0 (lwS (TZ w b) 7)))] (.ListComp (Zh (Zbk (TZ w b))) [⟨Zf (Zbk (TZ w b)) 0,Ze (Zbk (TZ w b)) 0,[],0⟩] (Zc (Zbk (TZ w b))) (Ye (Zbk (TZ w b)))) (Y5 (lwS (TZ w b) 7)):=kf
theorem s7n:Y0 (lwS (TZ w b) 7)=.Name "pairs" (Yg (Y0 (lwS (TZ w b) 7))):=kf
theorem s7w (fr kc wc:Nat):swapsWith (.ListComp (Zh (Zbk (TZ w b))) [⟨Zf (Zbk (TZ w b)) 0,Ze (Zbk (TZ w b)) 0,[],0⟩] (Zc (Zbk (TZ w b))) (Ye (Zbk (TZ w b)))) (some (.Name "pairs" (Yg (Y0 (lwS (TZ w b) 7))))) (Y5 (lwS (TZ w b) 7)).line (Zm (TZ w b) fr kc wc)=pure true:=kf
theorem s7c (fr kc wc:Nat):closureFor (Zc (Zbk (TZ w b))) (Zm (TZ w b) fr kc wc)=pure (Z5a wc):=kf
theorem Ztv (hA:AOk A none 60) (G:Ground T2 (wb w b) H) {wd ew:Nat} {W:LD} {tk:LM} {wl w0 w1:List Nat} {ini:LD} (hW:W.length<=100) (hl:W=ini++[wl]) (h0:W[0]?=some w0) (h1:W[1]?=some w1) {Q:Flow->Shared->Prop}
  (O:Own H ((wc,Zp (.ref wd))::(wd,Za (wsV (W.map S) tk) ew)::(fr,Yy (HZ w b) ft [v0,v1,v2,v3,v4,v5] sl)::l) h)
  (hQ:∀ ft pr ep (P:List Pr) h' t' g',P.map Pr.q=[(wl,w0),(w0,w1)]->Own H ((fr,Yy (HZ w b) ft [v0,v1,v2,v3,v4,v5,.ref pr] sl)::(pr,Za (P.map Pr.V) ep)::(P.map Pr.o++((wc,Zp (.ref wd))::(wd,Za (wsV (W.map S) tk) ew)::l))) h'->t<=t'->Zq true g g'->Q .next (r.at h' ⟨t',g'⟩)) :
  wpAny (model prog (wb w b)) A (exec (lwS (TZ w b) 7) (Zm (TZ w b) fr kc wc)) Q E (r.at h ⟨t,g⟩):=by
 have qE:10000000<=sizeLine:=by decide +kernel
 obtain ⟨c1,c2,c3⟩:=Yh (n7C (w:=w) (b:=b)).sc
 rw [s7e]
 refine Mb (s7w fr kc wc) ?_
 refine J8 (g0:=⟨Zf (Zbk (TZ w b)) 0,Ze (Zbk (TZ w b)) 0,[],0⟩) rfl (fun x=>n7C.f _ x) (s7c fr kc wc) c2 c3 ?_
 refine go (Zwp fr kc wc) G hA O fun x1 h1' t1 g1 O1 qK qD=>?_
 refine Mj (r:=r) (H:=H) hA.hand (Zdw (rg:=x1.nat 2) (n:=2) (t1:=x1.nat 3) (t2:=x1.nat 4) (t3:=x1.nat 5) (by decide)) c1 n7C.lets (fun st:Option (Nat×(Int×Nat))×List Pr=>xV (HZ w b) "k" (okI st.1)) (fun st=>st.2.map Pr.o)
  (fun j st ys=>ys=st.2.map Pr.V/\st.2.map Pr.q=[(wl,w0),(w0,w1)].take j) (t₀:=t1) (g₀:=g1) (l:=(x1.nat 2,Znk (Int.ofNat 2) (x1.nat 3) (x1.nat 4) (x1.nat 5))::(wc,Zp (.ref wd))::(wd,Za (wsV (W.map S) tk) ew)::(fr,Yy (HZ w b) ft [v0,v1,v2,v3,v4,v5] sl)::l) (fun p hp=>by rw [Ur.mp hp]; exact .head _) (K:=1000) (by decide)
  (fun j st ys hI hj=>?_) (fun C j v st ys m h4 t4 g4 Q E hj hv hI O4 qB qw hQ=>?_) (fun C acc st ys ea h4 t4 g4 hI O4 qB qw=>?_) (st:=(none,[])) rfl ⟨rfl,rfl⟩ O1 (Y9 _) (Zq.refl true _)
 ·obtain ⟨rfl,hP⟩:=hI
  have e:=Yr List.length hP
  rw [Z0,Zbg] at e
  rw [Z0,e]
  lia
 ·obtain ⟨o4,P⟩:=st
  obtain ⟨rfl,hP⟩:=hI
  have hP:P.map Pr.q=_:=hP
  obtain ⟨u,rfl⟩:=hv
  refine Zcf.plain ?_
  refine goW (Zuq C fr kc wc o4 (Int.ofNat j,u)) G hA O4 fun x5 h5 t5 g5 O5 qy qv=>?_
  generalize x5.nat 2=t5' at O5
  have O5:=O5.perm (pm [_,_,_,_,_] [_,_,_] 724578542819492226 92673969325458194689)
  have qA:∀ (a:Addr) (u1:List Nat) (k1:Nat) (u2:List Nat) (k2:Nat) h6 t6 g6,[(wl,w0),(w0,w1)][j]?=some (u1,u2)->Own H ((a,tuP (.str (S u1) k1) (.str (S u2) k2))::(([(C,xV (HZ w b) "k" (some (t5',.int (Int.ofNat j) u))),(wc,Zp (.ref wd)),(wd,Za (wsV (W.map S) tk) ew)])++(P.map Pr.o++((x1.nat 2,Znk (Int.ofNat 2) (x1.nat 3) (x1.nat 4) (x1.nat 5))::(fr,Yy (HZ w b) ft [v0,v1,v2,v3,v4,v5] sl)::(l++m))))) h6->t5<=t6->Zq true g5 g6->Q (some (.ref a)) (r.at h6 ⟨t6,g6⟩):=fun a u1 k1 u2 k2 h6 t6 g6 hj2 O6 qG qC=>by
   refine hQ (some (.ref a)) (some (t5',Int.ofNat j,u),P++[⟨a,u1,k1,u2,k2⟩]) h6 t6 g6 ⟨by rw [J3]; rfl,?_⟩ (O6.perm ?_) (by exact (Zn qy qG)) (gtr qv qC)
   ·rw [J3,hP,Zbv,hj2]
    rfl
   ·rw [J3]
    exact pm [_,_,_,_,_,_] [_,_,_] 11862489312990343544962 1519579010386675938410629
  obtain rfl | rfl:j=0∨j=1:=by lia
  ·have e:wsV (W.map S) tk=wsV (ini.map S) tk++[.str (S wl) (tk ini.length)]:=by rw [hl]; exact Zct _ _ _
   have hi0:(wsV (W.map S) tk)[0]?=some (.str (S w0) (tk 0)):=Zgs _ _ _ _ h0
   rw [e] at O5 hi0 qA
   refine go (Zo3 C fr kc wc t5' u wd (wsV (ini.map S) tk) ew wl (tk ini.length) w0 (tk 0) (by
    rw [Zac]
    have:=Yr List.length hl
    rw [Vc] at this
    lia) hi0) G hA O5 (fun x6 h6 t6 g6 O6 qG qC=>?_)
   exact qA _ _ _ _ _ h6 t6 g6 rfl O6 qG qC
  ·refine go (Zp2 C fr kc wc t5' u wd (wsV (W.map S) tk) ew w0 (tk 0) w1 (tk 1) (Zgs _ _ _ _ h0) (Zgs _ _ _ _ h1)) G hA O5 (fun x6 h6 t6 g6 O6 qG qC=>?_)
   exact qA _ _ _ _ _ h6 t6 g6 rfl O6 qG qC
 ·obtain ⟨o4,P⟩:=st
  obtain ⟨rfl,hP⟩:=hI
  have hP:P.map Pr.q=_:=hP
  refine V6 (H:=H) (r:=r) ?_
  rw [← s7n]
  have O4:=O4.perm (pm [_,_,_,_,_,_] [_,_] 4015900470592130 4002602436083985)
  refine goW (Zum fr kc wc ft sl v0 v1 v2 v3 v4 v5 acc) G hA O4 fun x5 h5 t5 g5 O5 qy qv=>?_
  refine ⟨_,_,h5,t5,g5,rfl,Zey _ _ _,O5.perm (.swap _ _ _),fun h6 O6=>hQ (fun j=>x5.nat (j+2)) acc ea P h6 t5 g5 hP (Own.drop (r:=[(x1.nat 2,Znk (Int.ofNat 2) (x1.nat 3) (x1.nat 4) (x1.nat 5))]) (O6.perm ?_)) (by exact (Zn qK (Zn qB qy))) (gtr (gtr qD qw) qv)⟩
  exact pm [_,_,_,_,_] [_,_] 31270331531906 4534869948449025
end
theorem Zp6 {tg:Expr} {l:List Expr} {p:Pos} {I a:Addr} {oi:Obj} {i:Nat} {Q:Unit->Shared->Prop} (ht:tg=.Tuple l c p) (hg:s.heap.get? I=some oi) (hi:Zgm oi lst i) (hQ:Q () s) :
  wpAny (model prog w) A (letOwnedTupleGo tg (.ref I) (.ref a)) Q E s:=by
 obtain ⟨h1,h2⟩:=hi
 subst ht
 unfold letOwnedTupleGo
 dsimp only
 refine Zi (Znz hg ?_)
 rw [h1,h2]
 exact Yo hQ
theorem Zrq (hh:A.handled=none) {xs:LH}
  {elt:Expr} {cl:List (Str×Addr)} {use:Option (Value->Sem Unit)} {Q:LF} {E:LF}
  (hcell:∀ y∈scope.names,y.2≠.cell) {tl:List Expr} {tp:Pos} (ht:target=.Tuple tl tc tp) (hrf:∀ (i:Nat) (v:Value),xs[i]?=some v->∃ a,v=Value.ref a)
  {σ:Type} (dO:σ->Obj) (mid:σ->LC) (qj:Nat->σ->LH->Prop) (qT:(lst,Za xs ep)∈l)
  (qk:∀ i st ys,qj i st ys->i < xs.length->ys.length<=sizeLine)
  (qP:∀ C i v st ys m h t g (Q:LF) (E:LF),xs[i]?=some v->qj i st ys->Own H ((C,dO st)::(mid st++(l++m))) h->t₀<=t->Zq true g₀ g ->
   (∀ x st' h' t' g',qj (i+1) st' (ys++[x])->Own H ((C,dO st')::(mid st'++(l++m))) h'->t<=t'->Zq true g g'->Q x (r.at h' ⟨t',g'⟩)) ->
   wpAny (model prog w) A (assign target (compEnvC scope cl C qq) v) (fun _ s₂=>wpAny (model prog w) A (eval elt (compEnvC scope cl C qq)) Q E s₂) E (r.at h ⟨t,g⟩))
  (last:∀ C acc st ys ea h t g,qj xs.length st ys->Own H ((C,dO st)::(acc,Za ys ea)::(mid st++l)) h->t₀<=t->Zq true g₀ g->compPost (model prog w) A E use Q (.ref acc) C (.ok .next) (r.at h ⟨t,g⟩))
  {st:σ} (hd:dO st=Xi) (hI:qj 0 st []) (O:Own H (mid st++l) h) (qV:t₀<=t) (xA:Zq true g₀ g) :
  Vn prog w A (.ListComp elt [⟨target,iter,[],0⟩] scope pos) scope cl qq use Q E (.ref lst) (r.at h ⟨t,g⟩):=by
 unfold Vn
 have ho:=O.own (lst,Za xs ep) (N7 _ qT)
 refine wpAny_pyIter_list (s:=r.at h ⟨t,g⟩) (Yn ho) ?_
 have hat0:Zgm ({ cls:=.type "list_iterator",data:=.fields #[.ref lst,.int 0 0] }:Obj) lst 0:=⟨rfl,rfl⟩
 have O1:=O.push ({ cls:=.type "list_iterator",data:=.fields #[.ref lst,.int 0 0] }:Obj) rfl
 change wpAny _ A _ _ _ (r.at (h.push ({ cls:=.type "list_iterator",data:=.fields #[.ref lst,.int 0 0] }:Obj)) ⟨t,g⟩)
 generalize ({ cls:=.type "list_iterator",data:=.fields #[.ref lst,.int 0 0] }:Obj)=oi at O1 hat0 ⊢
 generalize h.push oi=h1 at O1
 generalize h.objs.size=I at O1
 have O3:=(O1.push (Za [] 0) rfl).push Xi rfl
 refine Zyo (s:=r.at h1 ⟨t,g⟩) (T := "list") (Zay hcell ?_)
 show codeAny _ A (.compStart (.ListComp elt [⟨target,iter,[],0⟩] scope pos) 0 (.ref I) (.ref h1.objs.size) (compEnvC scope cl (h1.push (Za [] 0)).objs.size qq)) (compPost (model prog w) A E use Q (.ref h1.objs.size) (h1.push (Za [] 0)).objs.size) (r.at ((h1.push (Za [] 0)).push Xi) ⟨t,g⟩)
 generalize (h1.push (Za [] 0)).objs.size=C at O3 ⊢
 generalize (h1.push (Za [] 0)).push Xi=h3 at O3 ⊢
 generalize h1.objs.size=acc at O3 ⊢
 have loop:codeAny (model prog w) A (.compLoop (.ListComp elt [⟨target,iter,[],0⟩] scope pos) 0 (.ref I) (.ref acc) (compEnvC scope cl C qq)) (compPost (model prog w) A E use Q (.ref acc) C) (r.at h3 ⟨t,g⟩):=by
  refine codeAny_loop rfl (fun k s=>LpI r (xs.length) (fun oi i=>Zgm oi lst i) (fun i st ys _=>qj i st ys) (fun oi st ys ea=>(I,oi)::(acc,Za ys ea)::(C,dO st)::(mid st++l)) H t₀ g₀ k s) (fun n s hI=>?_) xs.length
   (.mk 0 oi st [] 0 h3 t g rfl (Pt _) hat0 hI (O3.perm (by rw [hd]; exact pm [_,_,_] [_,_] 1885471362 1885373064)) qV xA)
  show wpAny _ A ((compTurn (.ListComp elt [⟨target,iter,[],0⟩] scope pos) 0 (.ref I) (.ref acc) (compEnvC scope cl C qq)).onRaise (fun x=>do noteFrame x (compEnvC scope cl C qq); theTreesLotGoes x)) _ _ s
  refine wpAny_noted ?_
  rw [compTurn_list1]
  refine Zi (Zd2 (Zi ?_))
  obtain ⟨i,oi,st,ys,ea,h,t,g,rfl,hi,hat,hI,O,qV,hg⟩:=hI
  have hm:(lst,Za xs ep)∈(acc,Za ys ea)::(C,dO st)::(mid st++l):=.tail _ (.tail _ (N7 _ qT))
  by_cases qL:i < xs.length
  ·have hx:xs[i]?=some xs[i]:=Vp qL
   generalize xs[i]=v at hx
   refine Zc9 O hat hm hx fun h2 oi' O2 hat2 qS=>?_
   obtain ⟨a,rfl⟩:=hrf i v hx
   refine Zi (Zp6 ht (O2.own _ (.head _)) hat2 ?_)
   refine Zi (Jy (qP C i _ st ys [(I,oi'),(acc,Za ys ea)] h2 t g (fun x s₄=>wpAny (model prog w) A (call (.builtin "list.append") [.ref acc,x]) (fun _ s₅=>∃ m,m < xs.length - i/\LpI r (xs.length) (fun oi i=>Zgm oi lst i) (fun i st ys _=>qj i st ys) (fun oi st ys ea=>(I,oi)::(acc,Za ys ea)::(C,dO st)::(mid st++l)) H t₀ g₀ m s₅) (notedBy (model prog w) A (compEnvC scope cl C qq) fun e s'=>compPost (model prog w) A E use Q (.ref acc) C (.error e) s') s₄) _ hx hI (O2.perm (by exact pm [_,_,_] [_,_] 1885471362 1346470280)) qV hg fun x st' h' t' g' hI' O' ht' hg'=>?_) (fun _ s₂ q=>?_) fun _ _ q=>q)
   ·have Oa:(acc,Za ys ea)∈(C,dO st')::(mid st'++(l++[(I,oi'),(acc,Za ys ea)])):=by simp
    refine wpAny_list_append_plain (s:=r.at h' ⟨t',g'⟩) (items:=⟨ys⟩) ⟨ea,O'.own _ Oa⟩ (fun h4 hp xj=>?_) (by
     have:=qk i st ys hI qL
     show ys.length<=sizeLine
     exact this)
    obtain ⟨ea',hp⟩:=hp
    rw [push_listO' ys ea x ea'] at hp
    have O4:Own H ((acc,Za (ys++[x]) ea')::(I,oi')::(C,dO st')::(mid st'++l)) h4:=(O'.perm (l':=(acc,Za ys ea)::(I,oi')::(C,dO st')::(mid st'++l)) (by exact pm [_,_,_] [_,_] 2158068098 1885373064)).same xj hp
    exact ⟨xs.length - (i+1),by lia,.mk (i+1) oi' st' (ys++[x]) ea' h4 t' g' rfl qL hat2 hI' (O4.perm (.swap _ _ _)) (by exact (Zn qV ht')) (gtr hg hg')⟩
   ·exact Zi (Zi (Jy q (fun x s₃ h₃=>Zi (Jy h₃ (fun _ s₄ h₄=>Yo (Yo ⟨rfl,h₄⟩)) fun _ _ h'=>h')) fun _ _ h'=>h'))
  ·have hiN:i=xs.length:=by lia
   subst hiN
   exact Zr8 hh O hat hm (Y9 _) fun h' O'=>Yo (last C acc st ys ea h' t g hI (O'.perm (.swap _ _ _)) qV hg)
 exact codeAny_compStart_list loop (wpAny_pyIter_listiter (s:=r.at h3 ⟨t,g⟩) (i:=0) (l:=lst) ⟨_,O3.own _ (.tail _ (.tail _ (.head _))),hat0.1,hat0.2⟩ loop)
theorem Zam {β:Type} (f:α->β):∀ {l:List α} {i:Nat} {x:α},l[i]?=some x->∃ rest,(l.map f).Perm (f x::rest)
 | y::l,0,x,h=>by cases h; exact ⟨l.map f,.refl _⟩
 | y::l,i+1,x,h=>by
  obtain ⟨rest,hp⟩:=Zam f (l:=l) (i:=i) h
  exact ⟨f y::rest,(hp.cons _).trans (.swap _ _ _)⟩
noncomputable def Zyl (e:Expr):List Expr×Nat×Pos:=((vE e).1,(vE e).2.2.2.2.2.1,(vE e).2.1)
structure Six where
 a:Addr
 z:Int
noncomputable def Six.o (x:Six):Addr×Obj:=(x.a,Za (Zjj x.z) 0)
noncomputable def Six.v (x:Six):Value:=.ref x.a
noncomputable abbrev PSt:=Option (Nat×Nat×(List Nat×Nat)×(List Nat×Nat))
noncomputable def okP:PSt->Option (Nat×Value×LI):=fun o=>o.map fun q=>(q.1,.str (S q.2.2.1.1) q.2.2.1.2,some (q.2.1,.str (S q.2.2.2.1) q.2.2.2.2))
section
theorem s8e:lwS (TZ w b) 8=.Assign [.Name "keys" (Yg (Y0 (lwS (TZ w b) 8)))] (.ListComp (Zh (Mx (TZ w b))) [⟨Zf (Mx (TZ w b)) 0,Ze (Mx (TZ w b)) 0,[],0⟩] (Zc (Mx (TZ w b))) (Ye (Mx (TZ w b)))) (Y5 (lwS (TZ w b) 8)):=kf
theorem s8n:Y0 (lwS (TZ w b) 8)=.Name "keys" (Yg (Y0 (lwS (TZ w b) 8))):=kf
theorem s8w (fr kc wc:Nat):swapsWith (.ListComp (Zh (Mx (TZ w b))) [⟨Zf (Mx (TZ w b)) 0,Ze (Mx (TZ w b)) 0,[],0⟩] (Zc (Mx (TZ w b))) (Ye (Mx (TZ w b)))) (some (.Name "keys" (Yg (Y0 (lwS (TZ w b) 8))))) (Y5 (lwS (TZ w b) 8)).line (Zm (TZ w b) fr kc wc)=pure true:=kf
theorem s8c (fr kc wc:Nat):closureFor (Zc (Mx (TZ w b))) (Zm (TZ w b) fr kc wc)=pure (Zij kc):=kf
theorem s8s:Na (Zc (Mx (TZ w b)))=true:=kf
theorem s8f (qq:Env) (x:Value):foldedSetIterable (Ze (Mx (TZ w b)) 0) qq x=pure x:=kf
theorem s8t:Zf (Mx (TZ w b)) 0=.Tuple (Zyl (Zf (Mx (TZ w b)) 0)).1 (Zyl (Zf (Mx (TZ w b)) 0)).2.1 (Zyl (Zf (Mx (TZ w b)) 0)).2.2:=kf
theorem k8s:Zqq (Zh (Mx (TZ w b))) "_law_six" := ⟨kf,kf,fun _=>kf⟩
theorem Zzs (hf:AOk A none 100) (G:Ground T2 (wb w b) H) {C:Nat} {X:Pr} {st:PSt} {Q:Unit->Shared->Prop}
  (O:Own H ((C,x2V (HZ w b) "one" "other" (okP st))::X.o::l) h)
  (hQ:∀ t1 t2 h' t' g',Own H ((C,x2V (HZ w b) "one" "other" (some (t1,.str (S X.u) X.tu,some (t2,.str (S X.v) X.tv))))::X.o::l) h'->t<=t'->Zq true g g'->Q () (r.at h' ⟨t',g'⟩)) :
  wpAny (model prog (wb w b)) A (assign (Zf (Mx (TZ w b)) 0) (compEnvC (Zc (Mx (TZ w b))) (Zij kc) C (Zm (TZ w b) fr kc wc)) X.V) Q E (r.at h ⟨t,g⟩):=by
 rcases st with _ | ⟨t1,t2,⟨u1,k1⟩,v1,k2⟩
 ·exact go (Zxg C fr kc wc X.a X.u X.tu X.v X.tv) G hf O fun x h3 t3 g3 O3 qx qz=>hQ (x.nat 2) (x.nat 3) h3 t3 g3 O3 qx qz
 ·exact go (Zu2 C fr kc wc X.a t1 t2 u1 k1 v1 k2 X.u X.tu X.v X.tv) G hf O fun x h3 t3 g3 O3 qx qz=>hQ (x.nat 2) (x.nat 3) h3 t3 g3 O3 qx qz
theorem s9e:lwS (TZ w b) 9=.Assign [.Name "ranks" (Yg (Y0 (lwS (TZ w b) 9)))] (.ListComp (Zh (Ug (TZ w b))) [⟨Zf (Ug (TZ w b)) 0,Ze (Ug (TZ w b)) 0,[],0⟩] (Zc (Ug (TZ w b))) (Ye (Ug (TZ w b)))) (Y5 (lwS (TZ w b) 9)):=kf
theorem s9n:Y0 (lwS (TZ w b) 9)=.Name "ranks" (Yg (Y0 (lwS (TZ w b) 9))):=kf
theorem s9w (fr kc wc:Nat):swapsWith (.ListComp (Zh (Ug (TZ w b))) [⟨Zf (Ug (TZ w b)) 0,Ze (Ug (TZ w b)) 0,[],0⟩] (Zc (Ug (TZ w b))) (Ye (Ug (TZ w b)))) (some (.Name "ranks" (Yg (Y0 (lwS (TZ w b) 9))))) (Y5 (lwS (TZ w b) 9)).line (Zm (TZ w b) fr kc wc)=pure true:=kf
theorem s9c (fr kc wc:Nat):closureFor (Zc (Ug (TZ w b))) (Zm (TZ w b) fr kc wc)=pure ([]):=kf
theorem s9s:Na (Zc (Ug (TZ w b)))=true:=kf
theorem s9f (qq:Env) (x:Value):foldedSetIterable (Ze (Ug (TZ w b)) 0) qq x=pure x:=kf
theorem s9t:Zf (Ug (TZ w b)) 0=.Tuple (Zyl (Zf (Ug (TZ w b)) 0)).1 (Zyl (Zf (Ug (TZ w b)) 0)).2.1 (Zyl (Zf (Ug (TZ w b)) 0)).2.2:=kf
theorem k9s:Zqq (Zh (Ug (TZ w b))) "_law_six" := ⟨kf,kf,fun _=>kf⟩
theorem Zzb (hf:AOk A none 100) (G:Ground T2 (wb w b) H) {C:Nat} {X:Pr} {st:PSt} {Q:Unit->Shared->Prop}
  (O:Own H ((C,x2V (HZ w b) "one" "other" (okP st))::X.o::l) h)
  (hQ:∀ t1 t2 h' t' g',Own H ((C,x2V (HZ w b) "one" "other" (some (t1,.str (S X.u) X.tu,some (t2,.str (S X.v) X.tv))))::X.o::l) h'->t<=t'->Zq true g g'->Q () (r.at h' ⟨t',g'⟩)) :
  wpAny (model prog (wb w b)) A (assign (Zf (Ug (TZ w b)) 0) (compEnvC (Zc (Ug (TZ w b))) [] C (Zm (TZ w b) fr kc wc)) X.V) Q E (r.at h ⟨t,g⟩):=by
 rcases st with _ | ⟨t1,t2,⟨u1,k1⟩,v1,k2⟩
 ·exact go (Zs6 C fr kc wc X.a X.u X.tu X.v X.tv) G hf O fun x h3 t3 g3 O3 qx qz=>hQ (x.nat 2) (x.nat 3) h3 t3 g3 O3 qx qz
 ·exact go (Zug C fr kc wc X.a t1 t2 u1 k1 v1 k2 X.u X.tu X.v X.tv) G hf O fun x h3 t3 g3 O3 qx qz=>hQ (x.nat 2) (x.nat 3) h3 t3 g3 O3 qx qz
theorem k9a:Ma (Zo (Zh (Ug (TZ w b))) 0) "_law_rank" := ⟨kf,kf,fun _=>kf⟩
theorem k9b:Ma (Zo (Zh (Ug (TZ w b))) 1) "_law_rank" := ⟨kf,kf,fun _=>kf⟩
theorem Zwq (hA:AOk A none 106) (G:Ground T2 (wb w b) H) (a:LN) (k:LM) {pr:Nat} {P:List Pr} (hP:P.length<=100/\∀ x∈P,x.u.length<=100000/\x.v.length<=100000) {Q:Flow->Shared->Prop}
  (O:Own H ((fr,Yy (HZ w b) ft [v0,v1,v2,v3,v4,v5,.ref pr] sl)::(kc,Zp (.ref (a 6)))::(762,Z9 773 20 (some c))::(pr,Za (P.map Pr.V) ep)::(P.map Pr.o++(Z1 (HZ w b) (TZ w b) a k++l))) h)
  (hQ:∀ ft c ks ek (Z:List Six) h' t' g',Z.map Six.z=P.map (fun x=>cpQ x.u x.v)->Own H ((fr,Yy (HZ w b) ft [v0,v1,v2,v3,v4,v5,.ref pr,.ref ks] sl)::(ks,Za (Z.map Six.v) ek)::(Z.map Six.o++((kc,Zp (.ref (a 6)))::(762,Z9 773 20 (some c))::(pr,Za (P.map Pr.V) ep)::(P.map Pr.o++(Z1 (HZ w b) (TZ w b) a k++l))))) h'->t<=t'->Zq true g g'->Q .next (r.at h' ⟨t',g'⟩)) :
  wpAny (model prog (wb w b)) A (exec (lwS (TZ w b) 8) (Zm (TZ w b) fr kc wc)) Q E (r.at h ⟨t,g⟩):=by
 have qE:10000000<=sizeLine:=by decide +kernel
 obtain ⟨c1,c2,c3⟩:=Yh (s8s (w:=w) (b:=b))
 have ht:=s8t (w:=w) (b:=b)
 obtain ⟨o,ho,hd⟩:=Pl.mp (Z9b (w:=w) (b:=b))
 rw [s8e]
 refine Mb (s8w fr kc wc) ?_
 refine J8 (g0:=⟨Zf (Mx (TZ w b)) 0,Ze (Mx (TZ w b)) 0,[],0⟩) rfl (fun x=>s8f _ x) (s8c fr kc wc) c2 c3 ?_
 refine goP (Zxs fr kc wc ft sl v0 v1 v2 v3 v4 v5 pr) G hA O fun h1 t1 g1 O1 qK qD=>?_
 refine Zrq (r:=r) (H:=H) (lst:=pr) (xs:=P.map Pr.V) (ep:=ep) hA.hand c1 ht (fun i v hv=>?_) (fun st:PSt×Addr×List Six=>x2V (HZ w b) "one" "other" (okP st.1)) (fun st=>(((kc,Zp (.ref (a 6)))::(762,Z9 773 20 (some st.2.1))::Z1 (HZ w b) (TZ w b) a k)++st.2.2.map Six.o))
  (fun j st ys=>ys=st.2.2.map Six.v/\st.2.2.map Six.z=(P.map fun x=>cpQ x.u x.v).take j) (t₀:=t1) (g₀:=g1) (l:=(pr,Za (P.map Pr.V) ep)::(P.map Pr.o++((fr,Yy (HZ w b) ft [v0,v1,v2,v3,v4,v5,.ref pr] sl)::l))) (.head _)
  (fun j st ys hI hj=>?_) (fun C j v st ys m h4 t4 g4 Q E hv hI O4 qB qw hQ=>?_) (fun C acc st ys ea h4 t4 g4 hI O4 qB qw=>?_) (st:=(none,c,[])) rfl ⟨rfl,rfl⟩ (O1.perm (by
   exact pm [_,_,_,_] [_,_,_] 44187452048002 92379572786891407489)) (Y9 _) (Zq.refl true _)
 ·obtain ⟨X,hX,rfl⟩:∃ X,P[i]?=some X/\v=Pr.V X:=by
   rw [Zbl] at hv
   obtain ⟨X,hX,e⟩:=Z1c.mp hv
   exact ⟨X,hX,e.symm⟩
  exact ⟨X.a,rfl⟩
 ·obtain ⟨rfl,hZ⟩:=hI
  have e:=Yr List.length hZ
  rw [Z0,Zbg,Z0] at e
  have:=hP.1
  rw [Z0,e]
  lia
 ·obtain ⟨o4,c4,Z⟩:=st
  obtain ⟨rfl,hZ⟩:=hI
  have hZ:Z.map Six.z=_:=hZ
  obtain ⟨X,hX,rfl⟩:∃ X,P[j]?=some X/\v=Pr.V X:=by
   rw [Zbl] at hv
   obtain ⟨X,hX,e⟩:=Z1c.mp hv
   exact ⟨X,hX,e.symm⟩
  obtain ⟨q1,q2⟩:=hP.2 X (Nl hX)
  obtain ⟨rest,hp⟩:=Zam Pr.o hX
  have O4:Own H ((C,x2V (HZ w b) "one" "other" (okP o4))::X.o::(((kc,Zp (.ref (a 6)))::(762,Z9 773 20 (some c4))::Z1 (HZ w b) (TZ w b) a k)++(Z.map Six.o++((pr,Za (P.map Pr.V) ep)::(rest++(((fr,Yy (HZ w b) ft [v0,v1,v2,v3,v4,v5,.ref pr] sl)::l)++m)))))) h4:=O4.perm (by
   refine (((((hp.append_right _).cons _).append_right _).append_left _).cons _).trans ?_
   exact pm [_,_,_,_,_,_] [_,_,_,_,_] 5103119197452846480047084683394 311469594213880397685606146)
  refine Zzs (hA.le (by decide)) G O4 fun t1' t2' h5 t5 g5 O5 qy qv=>?_
  refine k8s.go (o:=o) (af:=821) (fd:=Z7 (TZ w b) 821) ?_
  refine goP (Zxh C fr kc wc) G hA (p:=[]) O5 fun h6 t6 g6 O6 qG qC=>⟨rfl,?_⟩
  have O6:=O6.perm (pm [_,_,_,_,_,_] [_,_,_,_,_] 311469594215569248357466754 2433356204809136619176962)
  refine go (Zp1 a k C fr kc wc t1' X.u X.tu t2' X.v X.tv) G hA O6 fun x7 h7 t7 g7 O7 qO qM=>?_
  generalize h6.objs.size=n6 at O7
  have O7:Own H ((C,x2V (HZ w b) "one" "other" (some (t1',.str (S X.u) X.tu,some (t2',.str (S X.v) X.tv))))::(kc,Zp (.ref (a 6)))::(Z1 (HZ w b) (TZ w b) a k++((n6+1,kIn (a 6) n6 X.u X.tu)::X.o::(762,Z9 773 20 (some c4))::(Z.map Six.o++((pr,Za (P.map Pr.V) ep)::(rest++(((fr,Yy (HZ w b) ft [v0,v1,v2,v3,v4,v5,.ref pr] sl)::l)++m))))))) h7:=O7.perm (by
   show List.Perm ((n6+1,kIn (a 6) n6 X.u X.tu)::(C,x2V (HZ w b) "one" "other" (some (t1',.str (S X.u) X.tu,some (t2',.str (S X.v) X.tv))))::(kc,Zp (.ref (a 6)))::(Z1 (HZ w b) (TZ w b) a k++_)) _
   generalize Z.map Six.o=lz
   generalize Z1 (HZ w b) (TZ w b) a k=lk
   exact pm [_,_,_,_,_,_,_] [_,_,_,_,_] 311473135992120594038653570 311473135992120594036474885)
  show wpAny _ A _ _ _ _
  refine go (Zn4 a k C fr kc wc t1' X.u X.tu t2' X.v X.tv) G hA O7 fun x8 h8 t8 g8 O8 qX qW=>?_
  generalize h7.objs.size=n7 at O8
  refine ⟨⟨O8.keep _ _ (G.top _ _ ho),(Yc hd).1⟩,?_⟩
  have O8:Own H (V1 (HZ w b) (TZ w b) a k (n6+1) (n7+1) n6 n7 X.u X.v X.tu X.tv c4++((C,x2V (HZ w b) "one" "other" (some (t1',.str (S X.u) X.tu,some (t2',.str (S X.v) X.tv))))::(kc,Zp (.ref (a 6)))::X.o::(Z.map Six.o++((pr,Za (P.map Pr.V) ep)::(rest++(((fr,Yy (HZ w b) ft [v0,v1,v2,v3,v4,v5,.ref pr] sl)::l)++m)))))) h8:=O8.perm (by
   show List.Perm ((n7+1,kIn (a 6) n7 X.v X.tv)::(C,x2V (HZ w b) "one" "other" (some (t1',.str (S X.u) X.tu,some (t2',.str (S X.v) X.tv))))::(kc,Zp (.ref (a 6)))::(Z1 (HZ w b) (TZ w b) a k++_)) _
   unfold V1
   generalize Z.map Six.o=lz
   generalize Z1 (HZ w b) (TZ w b) a k=lk
   exact pm [_,_,_,_,_,_,_,_] [_,_,_,_,_] 39869014754389977604357751426 5103233888561915417913750374529)
  refine Zsy hA G a k q1 q2 O8 fun sx c' h9 t9 g9 O9 xk xq=>?_
  refine hQ (.ref sx) (some (t1',t2',(X.u,X.tu),(X.v,X.tv)),c',Z++[⟨sx,cpQ X.u X.v⟩]) h9 t9 g9 ⟨by rw [J3]; rfl,?_⟩ (Own.drop (r:=[(n6+1,kIn (a 6) n6 X.u X.tu),(n7+1,kIn (a 6) n7 X.v X.tv)]) (O9.perm ?_)) (by exact (Zn qy (Zn qG (Zn qO (Zn qX xk))))) (gtr (gtr (gtr (gtr qv qC) qM) qW) xq)
  ·rw [J3,hZ,Zbv,Zbl,hX]
   rfl
  ·rw [J3]
   refine List.Perm.trans ?_ ((((((hp.append_right _).cons _).append_right _).append_left _).cons _).append_right _).symm
   exact pm [_,_,_,_,_,_,_,_,_] [_,_,_,_,_] 653221365379703098088460312985730 120470660271741622657461447501274689849089
 ·obtain ⟨o4,c4,Z⟩:=st
  obtain ⟨rfl,hZ⟩:=hI
  have hZ:Z.map Six.z=_:=hZ
  rw [Z0,Zni (by rw [Z0]; exact Y9 _)] at hZ
  refine V6 (H:=H) (r:=r) ?_
  rw [← s8n]
  have O4:=O4.perm (pm [_,_,_,_,_,_] [_,_,_,_] 1984658537539238591742594 120125137763575087377)
  refine goW (Zxj fr kc wc ft sl v0 v1 v2 v3 v4 v5 (.ref pr) acc) G hA O4 fun x5 h5 t5 g5 O5 qy qv=>?_
  refine ⟨_,_,h5,t5,g5,rfl,Zbw _ _ _ _,O5.perm (.swap _ _ _),fun h6 O6=>hQ (fun j=>x5.nat (j+2)) c4 acc ea Z h6 t5 g5 hZ (O6.perm ?_) (by exact (Zn qK (Zn qB qy))) (gtr (gtr qD qw) qv)⟩
  exact .refl _
theorem Zss (hA:AOk A none 106) (G:Ground T2 (wb w b) H) {pr:Nat} {v7:Value} {P:List Pr} (hP:P.length<=100/\∀ x∈P,x.u.length<=100000/\x.v.length<=100000) {Q:Flow->Shared->Prop}
  (O:Own H ((fr,Yy (HZ w b) ft [v0,v1,v2,v3,v4,v5,.ref pr,v7] sl)::(pr,Za (P.map Pr.V) ep)::(P.map Pr.o++l)) h)
  (hQ:∀ ft ks ek (Z:List Six) h' t' g',Z.map Six.z=P.map (fun x=>cpQ x.u x.v)->Own H ((fr,Yy (HZ w b) ft [v0,v1,v2,v3,v4,v5,.ref pr,v7,.ref ks] sl)::(ks,Za (Z.map Six.v) ek)::(Z.map Six.o++((pr,Za (P.map Pr.V) ep)::(P.map Pr.o++l)))) h'->t<=t'->Zq true g g'->Q .next (r.at h' ⟨t',g'⟩)) :
  wpAny (model prog (wb w b)) A (exec (lwS (TZ w b) 9) (Zm (TZ w b) fr kc wc)) Q E (r.at h ⟨t,g⟩):=by
 have qE:10000000<=sizeLine:=by decide +kernel
 obtain ⟨c1,c2,c3⟩:=Yh (s9s (w:=w) (b:=b))
 have ht:=s9t (w:=w) (b:=b)
 obtain ⟨o,ho,hd⟩:=Pl.mp (Z9b (w:=w) (b:=b))
 obtain ⟨ok,hok,hdk⟩:=Pl.mp (Ya3 (w:=w) (b:=b))
 rw [s9e]
 refine Mb (s9w fr kc wc) ?_
 refine J8 (g0:=⟨Zf (Ug (TZ w b)) 0,Ze (Ug (TZ w b)) 0,[],0⟩) rfl (fun x=>s9f _ x) (s9c fr kc wc) c2 c3 ?_
 refine goP (Zts fr kc wc ft sl v0 v1 v2 v3 v4 v5 v7 pr) G hA O fun h1 t1 g1 O1 qK qD=>?_
 refine Zrq (r:=r) (H:=H) (lst:=pr) (xs:=P.map Pr.V) (ep:=ep) hA.hand c1 ht (fun i v hv=>?_) (fun st:PSt×Addr×List Six=>x2V (HZ w b) "one" "other" (okP st.1)) (fun st=>([]++st.2.2.map Six.o))
  (fun j st ys=>ys=st.2.2.map Six.v/\st.2.2.map Six.z=(P.map fun x=>cpQ x.u x.v).take j) (t₀:=t1) (g₀:=g1) (l:=(pr,Za (P.map Pr.V) ep)::(P.map Pr.o++((fr,Yy (HZ w b) ft [v0,v1,v2,v3,v4,v5,.ref pr,v7] sl)::l))) (.head _)
  (fun j st ys hI hj=>?_) (fun C j v st ys m h4 t4 g4 Q E hv hI O4 qB qw hQ=>?_) (fun C acc st ys ea h4 t4 g4 hI O4 qB qw=>?_) (st:=(none,0,[])) rfl ⟨rfl,rfl⟩ (O1.perm (by
   exact pm [_,_] [_,_] 14729858 3949550188363905)) (Y9 _) (Zq.refl true _)
 ·obtain ⟨X,hX,rfl⟩:∃ X,P[i]?=some X/\v=Pr.V X:=by
   rw [Zbl] at hv
   obtain ⟨X,hX,e⟩:=Z1c.mp hv
   exact ⟨X,hX,e.symm⟩
  exact ⟨X.a,rfl⟩
 ·obtain ⟨rfl,hZ⟩:=hI
  have e:=Yr List.length hZ
  rw [Z0,Zbg,Z0] at e
  have:=hP.1
  rw [Z0,e]
  lia
 ·obtain ⟨o4,c4,Z⟩:=st
  obtain ⟨rfl,hZ⟩:=hI
  have hZ:Z.map Six.z=_:=hZ
  obtain ⟨X,hX,rfl⟩:∃ X,P[j]?=some X/\v=Pr.V X:=by
   rw [Zbl] at hv
   obtain ⟨X,hX,e⟩:=Z1c.mp hv
   exact ⟨X,hX,e.symm⟩
  obtain ⟨q1,q2⟩:=hP.2 X (Nl hX)
  obtain ⟨rest,hp⟩:=Zam Pr.o hX
  have O4:Own H ((C,x2V (HZ w b) "one" "other" (okP o4))::X.o::([]++(Z.map Six.o++((pr,Za (P.map Pr.V) ep)::(rest++(((fr,Yy (HZ w b) ft [v0,v1,v2,v3,v4,v5,.ref pr,v7] sl)::l)++m)))))) h4:=O4.perm (by
   refine (((((hp.append_right _).cons _).append_right _).append_left _).cons _).trans ?_
   exact pm [_,_,_,_] [_,_,_,_] 252980779402839032237932674 15440718012740148413442)
  refine Zzb (hA.le (by decide)) G O4 fun t1' t2' h5 t5 g5 O5 qy qv=>?_
  refine k9s.go (o:=o) (af:=821) (fd:=Z7 (TZ w b) 821) ?_
  refine goP (Zwd C fr kc wc) G hA (p:=[]) O5 fun h6 t6 g6 O6 qG qC=>⟨rfl,?_⟩
  refine k9a.go (o:=ok) (af:=804) (fd:=Z7 (TZ w b) 804) ?_
  refine goP (Zom C fr kc wc) G hA (p:=[]) O6 fun h7 t7 g7 O7 qO qM=>⟨rfl,?_⟩
  refine goP (Zox C fr kc wc t1' X.u X.tu t2' X.v X.tv) G hA O7 fun h8 t8 g8 O8 qX qW=>⟨⟨O8.keep _ _ (G.top _ _ hok),(Yc hdk).1⟩,?_⟩
  refine Zgd (hA.le (by decide)) G (by exact Zn q1 (by decide)) O8 fun ra ps1 ea1 h9 t9 g9 hps1 O9 xk xq=>?_
  have O9:=O9.perm (pm [_,_,_,_,_] [_,_,_,_,_] 19010379177186180546946 2433328534679831107895429)
  refine k9b.go (o:=ok) (af:=804) (fd:=Z7 (TZ w b) 804) ?_
  refine goP (Zov C fr kc wc) G hA (p:=[]) O9 fun h10 t10 g10 O10 xw qZ=>⟨rfl,?_⟩
  refine goP (Zn5 C fr kc wc t1' X.u X.tu t2' X.v X.tv) G hA O10 fun h11 t11 g11 O11 xu xy=>⟨⟨O11.keep _ _ (G.top _ _ hok),(Yc hdk).1⟩,?_⟩
  have O11:Own H ((C,x2V (HZ w b) "one" "other" (some (t1',.str (S X.u) X.tu,some (t2',.str (S X.v) X.tv))))::(Zeg ⟨ra,ea1,ps1⟩++(X.o::(Z.map Six.o++((pr,Za (P.map Pr.V) ep)::(rest++(((fr,Yy (HZ w b) ft [v0,v1,v2,v3,v4,v5,.ref pr,v7] sl)::l)++m))))))) h11:=O11
  refine Zgd (hA.le (by decide)) G (by exact Zn q2 (by decide)) O11 fun rb ps2 ea2 h12 t12 g12 hps2 O12 xH xG=>?_
  refine ⟨⟨O12.keep _ _ (G.top _ _ ho),(Yc hd).1⟩,?_⟩
  have O12:=O12.perm (pm [_,_,_,_,_] [_,_,_,_,_,_] 2890217493586422226043266 369947839179062044662989569)
  refine Zpg hA G (x:=⟨ra,ea1,ps1⟩) (y:=⟨rb,ea2,ps2⟩) hps1 hps2 O12 fun sx h13 t13 g13 O13 ht13 gr13=>?_
  refine hQ (.ref sx) (some (t1',t2',(X.u,X.tu),(X.v,X.tv)),0,Z++[⟨sx,cpQ X.u X.v⟩]) h13 t13 g13 ⟨by rw [J3]; rfl,?_⟩ (Own.drop (r:=Zeg ⟨ra,ea1,ps1⟩++Zeg ⟨rb,ea2,ps2⟩) (O13.perm ?_)) (by exact (Zn qy (Zn qG (Zn qO (Zn qX (Zn xk (Zn xw (Zn xu (Zn xH ht13))))))))) (gtr (gtr (gtr (gtr (gtr (gtr (gtr (gtr qv qC) qM) qW) xq) qZ) xy) xG) gr13)
  ·rw [J3,hZ,Zbv,Zbl,hX]
   rfl
  ·rw [J3]
   refine List.Perm.trans ?_ ((((((hp.append_right _).cons _).append_right _).append_left _).cons _).append_right _).symm
   exact pm [_,_,_,_,_] [_,_,_,_,_,_] 369947839179062044669296770 4668650712905137592853517199204172417
 ·obtain ⟨o4,c4,Z⟩:=st
  obtain ⟨rfl,hZ⟩:=hI
  have hZ:Z.map Six.z=_:=hZ
  rw [Z0,Zni (by rw [Z0]; exact Y9 _)] at hZ
  refine V6 (H:=H) (r:=r) ?_
  rw [← s9n]
  have O4:=O4.perm (pm [_,_,_,_] [_,_,_] 93029766924498649730 44188777398539)
  refine goW (Zs2 fr kc wc ft sl v0 v1 v2 v3 v4 v5 (.ref pr) v7 acc) G hA O4 fun x5 h5 t5 g5 O5 qy qv=>?_
  refine ⟨_,_,h5,t5,g5,rfl,Zbw _ _ _ _,O5.perm (.swap _ _ _),fun h6 O6=>hQ (fun j=>x5.nat (j+2)) acc ea Z h6 t5 g5 hZ (O6.perm ?_) (by exact (Zn qK (Zn qB qy))) (gtr (gtr qD qw) qv)⟩
  exact .refl _
end
section
open PySem PySem.W PyProof.Rows
noncomputable def Le (x y:List Nat):Prop:=x=y∨Yu x y
theorem Le.refl (x:List Nat):Le x x:=.inl rfl
theorem Le.trans {z:List Nat} (h:Le x y) (h':Le y z):Le x z:=by
 rcases h with rfl | h
 ·exact h'
 ·rcases h' with rfl | h'
  ·exact .inr h
  ·exact .inr (h.trans h')
theorem Le.app {p q:List Nat} (h:Le x y) (h':Le p q):Le (x++p) (y++q):=by
 rcases h with rfl | h
 ·rcases h' with rfl | h'
  ·exact .inl rfl
  ·exact .inr (h'.pre x)
 ·exact .inr (h.app p q)
theorem Vt (u v:List Nat) (r:LD):Zg (u::v::r)=Zh2 u++Zg (v::r):=by
 show Zv u++32::Zg (v::r)=_
 unfold Zh2
 simp
theorem Zii {z v:List Nat} (h:¬ Yz v z) (r:LD):Le (Zg (z::v::r)) (Zg (v::z::r)):=by
 rcases J4 z v with rfl | h1 | h1
 ·exact .refl _
 ·rw [Vt,Vt]
  exact .inr (h1.app _ _)
 ·exact (h h1).elim
theorem Zce (u:List Nat) {x y:LD} (hl:x.length=y.length) (h:Le (Zg x) (Zg y)):Le (Zg (u::x)) (Zg (u::y)):=by
 cases x with
 | nil=>cases y with
  | nil=>exact .refl _
  | cons b y=>cases hl
 | cons a x=>cases y with
  | nil=>cases hl
  | cons b y =>
   rw [Vt,Vt]
   exact (Le.refl _).app h
theorem Zd4 (v:List Nat):∀ s:LD,Le (Zg (Zfl v s)) (Zg (v::s))
 | []=>.refl _
 | z::s=>by
  show Le (Zg (bif X7 v z then v::z::s else z::Zfl v s)) _
  cases e:X7 v z with
  | true=>exact .refl _
  | false=>exact (Zce z (Mc v s).length_eq (Zd4 v s)).trans (Zii (Jc.mp e) s)
theorem Zie (v:List Nat) (r:LD):Zy (v::r)=Zfl v (Zy r) :=
 (U1 ((Mc v _).trans ((Y3 r).cons v)) (Gp v (G0 r))).symm
theorem N2 {x y:LD} (h:x.Perm y):Zy x=Zy y:=U1 ((Y3 x).trans h) (G0 x)
theorem Pq:∀ us:LD,Le (Zg (Zy us)) (Zg us)
 | []=>.refl _
 | v::r=>by
  rw [Zie]
  exact (Zd4 v _).trans (Zce v (Y3 r).length_eq (Pq r))
theorem Zmx (v:List Nat):∀ {ws:LD},Asq ws->Zjd ws v=Zfl v ws
 | [],_=>rfl
 | z::ws,h=>by
  have h':=List.pairwise_cons.mp h
  have ih:=Zmx v h'.2
  show _=(bif X7 v z then v::z::ws else z::Zfl v ws)
  unfold Zjd Zp9 leN
  rw [List.filter_cons]
  cases e:X7 v z with
  | true =>
   have e:=X9.mp e
   have no:∀ y∈z::ws,¬ decide (cpQ y v<=0)=true:=fun y hy hd=>by
    have hd:cpQ y v<=0:=Znp hd
    have:Yz v y:=by
     rcases X6.mp hy with rfl | hy
     ·exact e
     ·rcases J4 v y with rfl | h3 | h3
      ·exact (h'.1 _ hy e).elim
      ·exact h3
      ·exact (h'.1 _ hy (Yz.trans h3 e)).elim
    have:=Zmq.mpr this
    lia
   rw [if_neg (no z (.head _)),List.filter_eq_nil_iff.mpr fun y hy=>no y (.tail _ hy)]
   rfl
  | false =>
   have e:=Jc.mp e
   have hz:decide (cpQ z v<=0)=true:=Za7 (by
    by_cases hp:cpQ z v > 0
    ·exact (e (Zmq.mp hp)).elim
    ·lia)
   rw [if_pos hz]
   show z::Zjd ws v=z::Zfl v ws
   rw [ih]
theorem Zb6 (us:LD):N0 us=Zy us:=by
 have h:∀ (l s:LD),Asq s->l.foldl Zjd s=l.foldl (fun s u=>Zfl u s) s:=by
  intro l
  induction l with
  | nil=>exact fun s _=>rfl
  | cons u l ih =>
   intro s hs
   rw [List.foldl_cons,List.foldl_cons,Zmx u hs]
   exact ih _ (Gp u hs)
 exact h us [] .nil
theorem Vo:∀ {us:List α} {k:Nat} {x:α},us[k]?=some x->us.Perm (x::(us.take k++us.drop (k+1)))
 | y::us,0,x,h=>by cases h; exact .refl _
 | y::us,k+1,x,h=>by
  have h:us[k]?=some x:=h
  exact ((Vo h).cons y).trans (.swap _ _ _)
theorem Zal:∀ (n:Nat) (us:List α),us.length=n->∀ v,v∈Zfn n us↔v.Perm us
 | 0,us,h,v=>by
  cases us with
  | nil=>exact ⟨fun h=>by rw [Ur.mp h],fun h=>by rw [h.eq_nil]; exact .head _⟩
  | cons a r=>cases h
 | n+1,us,h,v=>by
  cases us with
  | nil=>cases h
  | cons u us =>
   show v∈((List.range (u::us).length).flatMap fun k=>(Zfn n ((u::us).take k++(u::us).drop (k+1))).map fun vs=>(u::us).getD k u::vs)↔_
   rw [Zqx]
   constructor
   ·rintro ⟨k,hk,hv⟩
    have hk:=Zhp.mp hk
    obtain ⟨vs,hvs,rfl⟩:=Uo.mp hv
    have hx:(u::us)[k]?=some ((u::us).getD k u):=by rw [Zbj,Vp hk]; rfl
    have hp:=Vo hx
    have hl:((u::us).take k++(u::us).drop (k+1)).length=n:=by
     have:=hp.length_eq
     rw [h,V7] at this
     lia
    exact (((Zal n _ hl vs).mp hvs).cons _).trans hp.symm
   ·intro hv
    cases v with
    | nil=>exact absurd hv.length_eq (by simp)
    | cons x vs =>
     obtain ⟨k,hk⟩:=List.mem_iff_getElem?.mp (hv.mem_iff.mp (.head _))
     have hkl:=(Zfj.mp hk).1
     have hp:=Vo hk
     have hl:((u::us).take k++(u::us).drop (k+1)).length=n:=by
      have:=hp.length_eq
      rw [h,V7] at this
      lia
     refine ⟨k,Zhp.mpr hkl,Uo.mpr ⟨vs,(Zal n _ hl vs).mpr (hv.trans hp).cons_inv,?_⟩⟩
     rw [Zbj,hk]
     rfl
theorem Nv {us v:List α}:v∈M2 us↔v.Perm us:=Zal _ us rfl v
theorem Zpo (h:Yu x y):Yu (Jj x) (Jj y):=by
 induction h with
 | @here a b x y h =>
  rw [Y2,Y2]
  by_cases ha:a=39
  ·subst ha
   rw [if_pos rfl,if_neg (by lia)]
   exact .here h
  ·rw [if_neg ha]
   by_cases hb:b=39
   ·subst hb
    rw [if_pos rfl]
    exact .here h
   ·rw [if_neg hb]
    exact .here h
 | @on a x y _ ih =>
  rw [Y2,Y2]
  exact ih.pre _
theorem Zcj {u v:List Nat} {r:LD}:Xb (Zg (u::v::r))=false:=by
 have hm:32∈Zg (u::v::r):=N7 _ (.head _)
 cases e:Xb (Zg (u::v::r)) with
 | false=>rfl
 | true =>
  have h1:=Zfh.mp (Jf e) 32 hm
  rw [Zeu] at h1
  cases h1
theorem Zmm {q p:LD} (hp:q.Perm p) (h:Le (Zg q) (Zg p)):Le (Zv (Zg q)) (Zv (Zg p)):=by
 match q,p,hp,h with
 | [],p,hp,h=>rw [hp.nil_eq]; exact .refl _
 | [u],p,hp,h=>rw [List.singleton_perm.mp hp]; exact .refl _
 | u::v::r,[],hp,h=>exact absurd hp.length_eq (by simp)
 | u::v::r,[z],hp,h=>exact absurd hp.length_eq (by simp)
 | u::v::r,z::y::s,hp,h =>
  rcases h with h | h
  ·rw [h]; exact .refl _
  ·rw [Vj Zcj,Vj Zcj]
   exact .inr (.on ((Zpo h).app _ _))
inductive Al {α β:Type} (R:α->β->Prop):List α->List β->Prop
 | nil:Al R [] []
 | cons {a:α} {b:β} {x:List α} {y:List β}:R a b->Al R x y->Al R (a::x) (b::y)
theorem Al.perm {β:Type} {R:α->β->Prop} {y y':List β} (hp:y.Perm y'):∀ {x:List α},Al R x y->∃ x',x.Perm x'/\Al R x' y':=by
 induction hp with
 | nil=>exact fun h=>⟨_,.refl _,h⟩
 | cons a _ ih =>
  intro x h
  cases h with
  | cons h1 h2 =>
   obtain ⟨x',p,q⟩:=ih h2
   exact ⟨_,p.cons _,.cons h1 q⟩
 | swap a b l =>
  intro x h
  cases h with
  | cons h1 h2 =>
   cases h2 with
   | cons h3 h4=>exact ⟨_,.swap _ _ _,.cons h3 (.cons h1 h4)⟩
 | trans _ _ ih1 ih2 =>
  intro x h
  obtain ⟨x',p,q⟩:=ih1 h
  obtain ⟨x'',p',q'⟩:=ih2 q
  exact ⟨x'',p.trans p',q'⟩
theorem Al.snoc {β:Type} {R:α->β->Prop} {x:List α} {y:List β} {a:α} {b:β} (h:Al R x y) (h1:R a b):Al R (x++[a]) (y++[b]):=by
 induction h with
 | nil=>exact .cons h1 .nil
 | cons h2 _ ih=>exact .cons h2 ih
theorem Al.join {x y:LD} (h:Al (fun u v=>Le (Zv u) (Zv v)) x y):Le (Zg x) (Zg y):=by
 induction h with
 | nil=>exact .refl _
 | @cons a b x y h1 h2 ih =>
  cases h2 with
  | nil=>exact h1
  | cons h3 h4 =>
   rw [Vt,Vt]
   exact (h1.app (.refl _)).app ih
theorem Zcc (M:List (LD)) (x:LD):Ni (M++[x])=(Ni M).flatMap fun row=>((M2 x).map Zg).map fun u=>row++[u]:=by
 unfold Ni
 rw [List.foldl_append]
 rfl
noncomputable def Zew (l:LD):List Nat:=Zg (Zy l)
theorem Zgr {P:List α->Prop} (h0:P []) (h1:∀ l a,P l->P (l++[a])) (l:List α):P l:=by
 have:∀ r:List α,P r.reverse:=fun r=>by
  induction r with
  | nil=>exact h0
  | cons a r ih=>rw [List.reverse_cons]; exact h1 _ _ ih
 have e:=this l.reverse
 rwa [List.reverse_reverse] at e
theorem Zuu (M:List (LD)):∀ row∈Ni M,Al (fun u v=>Le (Zv u) (Zv v)) (M.map Zew) row:=by
 refine Zgr (P:=fun M=>∀ row∈Ni M,Al (fun u v=>Le (Zv u) (Zv v)) (M.map Zew) row) (fun row h=>?_) (fun M x ih row h=>?_) M
 ·rw [Ur.mp (show row∈[[]] from h)]
  exact .nil
 ·rw [Zcc] at h
  obtain ⟨r0,hr0,hr⟩:=Zqx.mp h
  obtain ⟨u,hu,rfl⟩:=Uo.mp hr
  obtain ⟨q,hq,rfl⟩:=Uo.mp hu
  rw [J3]
  have hq:=Nv.mp hq
  refine (ih r0 hr0).snoc (Zmm ((Y3 x).trans hq.symm) ?_)
  rw [← N2 hq]
  exact Pq q
theorem Zqg (M:List (LD)):M.map Zew∈Ni M:=by
 refine Zgr (P:=fun M=>M.map Zew∈Ni M) (.head _) (fun M x ih=>?_) M
 rw [Zcc,J3]
 exact Zqx.mpr ⟨_,ih,Uo.mpr ⟨Zew x,Uo.mpr ⟨_,Nv.mpr (Y3 x),rfl⟩,rfl⟩⟩
theorem Zfz (M:List (LD)):∀ z∈Zci M,Le (Zg (Zy (M.map Zew))) z:=fun z hz=>by
 obtain ⟨row,hr,hz⟩:=Zqx.mp hz
 obtain ⟨o,ho,rfl⟩:=Uo.mp hz
 have ho:=Nv.mp ho
 obtain ⟨x',hp,ha⟩:=(Zuu M row hr).perm ho.symm
 refine Le.trans ?_ ha.join
 rw [N2 hp]
 exact Pq x'
theorem Zkn (M:List (LD)):Zg (Zy (M.map Zew))∈Zci M :=
 Zqx.mpr ⟨_,Zqg M,Uo.mpr ⟨_,Nv.mpr (Y3 _),rfl⟩⟩
end
section
open PySem PySem.W PySem.W.X PySem.SeqAt PyProof.Rows
theorem Own.grow (O:Own H l h) (hk:∀ b o,h.get? b=some o->h'.get? b=some o):Own H l h' :=
 ⟨fun b o e=>hk b o (O.keep b o e),fun p hp=>hk _ _ (O.own p hp),O.nodup,O.apart⟩
noncomputable def btQ (W:LD) (i j:Nat):Bool:=decide (W.getD i [] < W.getD j [])
theorem Zgx {W:LD} {m:List Nat} (hle:∀ x∈W,Le m x):∀ k,k < W.length->(∃ i,i<=k/\W.getD i []=m)->W.getD (argBest (btQ W) k) []=m/\argBest (btQ W) k<=k
 | 0,_,⟨i,hi,e⟩=>by
  have:i=0:=by lia
  subst this
  exact ⟨e,Y9 _⟩
 | k+1,hk,⟨i,hi,e⟩=>by
  have at':∀ j,j < W.length->Le m (W.getD j []):=fun j hj=>by
   refine hle _ ?_
   rw [Zbj,Vp hj]
   exact Zd1 hj
  show W.getD (if btQ W (k+1) (argBest (btQ W) k) then k+1 else argBest (btQ W) k) []=m/\(if btQ W (k+1) (argBest (btQ W) k) then k+1 else argBest (btQ W) k)<=k+1
  have hb:argBest (btQ W) k<=k:=by
   have:∀ k,argBest (btQ W) k<=k:=fun k=>by
    induction k with
    | zero=>exact Y9 _
    | succ k ih =>
     show (if btQ W (k+1) (argBest (btQ W) k) then k+1 else argBest (btQ W) k)<=k+1
     split<;>lia
   exact this k
  by_cases hik:i<=k
  ·have ih:=(Zgx hle k (by lia) ⟨i,hik,e⟩).1
   have hc:btQ W (k+1) (argBest (btQ W) k)=false:=by
    show decide (W.getD (k+1) [] < W.getD (argBest (btQ W) k) [])=false
    rw [ih]
    refine Uz fun qL=>?_
    rcases at' (k+1) hk with h | h
    ·rw [← h] at qL
     exact List.lt_irrefl _ qL
    ·exact List.lt_irrefl _ (List.lt_trans qL h.lt)
   rw [hc]
   exact ⟨ih,by show argBest (btQ W) k<=k+1; lia⟩
  ·have hi:i=k+1:=by lia
   subst hi
   cases hc:btQ W (k+1) (argBest (btQ W) k) with
   | true=>exact ⟨e,Y9 _⟩
   | false =>
    refine ⟨?_,by show argBest (btQ W) k<=k+1; lia⟩
    show W.getD (argBest (btQ W) k) []=m
    rcases at' (argBest (btQ W) k) (by lia) with h | h
    ·exact h.symm
    ·have hc:decide (W.getD (k+1) [] < W.getD (argBest (btQ W) k) [])=false:=hc
     rw [e] at hc
     exact absurd h.lt (of_decide_eq_false hc)
theorem Zpx (W:LD) (tk:LM):CmpOf prog w A .Lt (fun i v=>(⟨wsV (W.map S) tk⟩:Array Value)[i]?=some v) (btQ W):=fun i j vi vj s Q E hi hj h=>by
 obtain ⟨u,hu,rfl⟩:=Ji W tk i vi (by rw [← hi]; exact (Z21 ..).symm)
 obtain ⟨v,hv,rfl⟩:=Ji W tk j vj (by rw [← hj]; exact (Z21 ..).symm)
 refine richCompare_gives (op:=.Lt) (typeIs_str s _ _) (typeIs_str s _ _) F.slot_str_lt F.entry_str_lt (F.args_str_lt_2 _ _) (gives_str_lt _ _ _ _) (fun x=>nomatch x) ?_
 have e1:W.getD i []=u:=by rw [Zbj,hu]; rfl
 have e2:W.getD j []=v:=by rw [Zbj,hv]; rfl
 unfold btQ at h
 rw [e1,e2] at h
 exact h
theorem Zl1 (hh:A.handled=none) {W:LD} {tk:LM} {m:List Nat} (hm:m∈W) (hle:∀ x∈W,Le m x)
  (O:Own H l h) (hl:(la,Za (wsV (W.map S) tk) ep)∈l) (hQ:∀ u h' t',Own H l h'->Q (.str (S m) u) (r.at h' ⟨t',g⟩)) :
  wpAny (model prog w) A (call (.builtin "min") [.ref la]) Q E (r.at h ⟨t,g⟩):=by
 have ho:=O.own _ hl
 have qL:la < h.objs.size:=Zns ho
 have hL:h.IsList la ⟨wsV (W.map S) tk⟩:=Yn ho
 have hW:0 < W.length:=List.length_pos_of_mem hm
 refine call_min_walk (s:=r.at h ⟨t,g⟩) (wpAny_pyIter_list hL ?_)
 refine ⟨h.objs.size,[h.objs.size,la],[h.objs.size],(wsV (W.map S) tk).length,_,_,btQ W,rfl,Walks.list (A:=A.in1) hh h.objs.size la (Nat.ne_of_lt qL) ⟨wsV (W.map S) tk⟩,⟨⟨_,Z42 _ rfl,rfl,rfl⟩,hL.push _⟩,fun b hb=>?_,by rw [Zac]; exact hW,Zpx W tk,fun v h' t' hP hk=>?_⟩
 ·show b < (h.push _).objs.size
  rw [Ziu]
  rcases X6.mp hb with rfl | hb
  ·exact Nat.lt_succ_self _
  ·rw [Ur.mp hb]
   exact Nat.lt_succ_of_lt qL
 ·rw [Zac] at hP
  obtain ⟨i0,hi0⟩:=List.mem_iff_getElem?.mp hm
  have hil:=(Zfj.mp hi0).1
  obtain ⟨z1,z2⟩:=Zgx hle (W.length - 1) (by lia) ⟨i0,by lia,by rw [Zbj,hi0]; rfl⟩
  obtain ⟨u,hu,rfl⟩:=Ji W tk _ v (by rw [← hP]; exact (Z21 ..).symm)
  have e1:u=m:=by
   rw [← z1,Zbj,hu]
   rfl
  subst e1
  refine hQ _ h' t' (O.grow fun b o e=>hk b o (fun hb=>?_) (Zyb _ e))
  rw [Ur.mp hb] at e
  exact Nat.lt_irrefl _ (Zns e)
theorem Zi8 (L:List Od):Zg (Zy (X2 L))∈Zci (L.map Od.us)/\∀ x∈Zci (L.map Od.us),Le (Zg (Zy (X2 L))) x:=by
 have e:X2 L=(L.map Od.us).map Zew:=by rw [List.map_map]; rfl
 rw [e]
 exact ⟨Zkn _,Zfz _⟩
theorem Z0r (hu:A.units+2 < cLine) {x y:Six} (hx:s.heap.get? x.a=some (Za (Zjj x.z) 0)) (hy:s.heap.get? y.a=some (Za (Zjj y.z) 0)) (he:x.z=y.z):EqAt A s x.v y.v true:=by
 obtain ⟨xa,z⟩:=x
 obtain ⟨ya,z'⟩:=y
 obtain rfl:z=z':=he
 by_cases hn:xa=ya
 ·subst hn
  exact .same _
 ·refine .of_refs hn ?_
  have hr:((List.range (⟨Zjj z⟩:Array Value).size).all fun _=>true)=true:=Zfh.mpr fun _ _=>rfl
  have q:=RcAt.lists (A:=A) (s:=s) (l:=xa) (b:=ya) (items:=⟨Zjj z⟩) (items2:=⟨Zjj z⟩) (e:=fun _=>true) (Yn hx) (Yn hy) rfl (by lia) (fun j h1 h2=>.same _)
  rw [hr] at q
  exact q
section
theorem s10e:lwS (TZ w b) 10=.Return (some (.BoolOp .And [.Compare (Zh7 (Znm (TZ w b))) [.Eq,.Eq,.Eq] [Pk (Znm (TZ w b)) 0,Pk (Znm (TZ w b)) 1,Zyz (TZ w b)] (Yv (Znm (TZ w b))),.Compare (Zh7 (Zyp (TZ w b))) [.Eq] [Pk (Zyp (TZ w b)) 0] (Yv (Zyp (TZ w b)))] (Yv (lwR (TZ w b))))) (Y5 (lwS (TZ w b) 10)):=kf
theorem s10m:lastMarks [.Eq,.Eq,.Eq] [Pk (Znm (TZ w b)) 0,Pk (Znm (TZ w b)) 1,Zyz (TZ w b)]=false:=kf
theorem s10n:behindInMarks .Eq (Pk (Zyp (TZ w b)) 0)=false:=kf
theorem k10m:Ma (Zyz (TZ w b)) "min" := ⟨kf,kf,fun _=>kf⟩
theorem k10e:Ma (Z57 (TZ w b)) "_law_every" := ⟨kf,kf,fun _=>kf⟩
theorem Zqf (hA:AOk A none 71) (G:Ground T2 (wb w b) H) {ln ks rs ek er u3 u4 u5:Nat} {v6:Value} {L:List Od} (hL:Za5 L) {Z Z':List Six} (hZ:Z.map Six.z=Z'.map Six.z) {Q:Flow->Shared->Prop}
  (O:Own H ((fr,Yy (HZ w b) ft [v0,.ref ln,v2,.str (S (Zg (Zy (X2 L)))) u3,.str (S (Zg (Zy (X2 L)))) u4,.str (S (Zg (Zy (X2 L)))) u5,v6,.ref ks,.ref rs] sl)::(762,Z9 773 20 (some c))::(ln,Za (L.map Od.v) el)::(Yd L++((ks,Za (Z.map Six.v) ek)::(rs,Za (Z'.map Six.v) er)::(Z.map Six.o++(Z'.map Six.o++l))))) h)
  (hQ:∀ c h' t' g',Own H ((762,Z9 773 20 (some c))::l) h'->Zq true g g'->Q (.ret (.bool true)) (r.at h' ⟨t',g'⟩)) :
  wpAny (model prog (wb w b)) A (exec (lwS (TZ w b) 10) (Zm (TZ w b) fr kc wc)) Q E (r.at h ⟨t,g⟩):=by
 obtain ⟨o,ho,hd⟩:=Pl.mp (Ybj (w:=w) (b:=b))
 have same:∀ (A:Around) (u v:Nat) (s:Shared) (Q:LF) (E:LF),Q (.bool true) s->wpAny (model prog (wb w b)) A (compareOp .Eq (.str (S (Zg (Zy (X2 L)))) u) (.str (S (Zg (Zy (X2 L)))) v)) Q E s:=fun A u v s Q E hq=>P.eq_str (by rw [beq_self_eq_true]; exact hq)
 rw [s10e]
 refine Zru (BoolOp_and ?_)
 refine Compare_chain (hm:=s10m) ?_
 refine goP (fun n t=>Zu0 fr kc wc ft sl v0 (.ref ln) v2 (.str (S (Zg (Zy (X2 L)))) u4) (.str (S (Zg (Zy (X2 L)))) u5) v6 (.ref ks) (.ref rs) (Zg (Zy (X2 L))) u3 n t) G hA O fun h1 t1 g1 O1 qK qD=>?_
 refine chain_link ?_
 refine goP (fun n t=>Zuy fr kc wc ft sl v0 (.ref ln) v2 (.str (S (Zg (Zy (X2 L)))) u3) (.str (S (Zg (Zy (X2 L)))) u5) v6 (.ref ks) (.ref rs) (Zg (Zy (X2 L))) u4 n t) G hA O1 fun h2 t2 g2 O2 qN qF=>?_
 refine same _ _ _ _ _ _ (Zj0 ?_)
 rw [if_pos rfl]
 refine chain_link ?_
 refine goP (fun n t=>Zwj fr kc wc ft sl v0 (.ref ln) v2 (.str (S (Zg (Zy (X2 L)))) u3) (.str (S (Zg (Zy (X2 L)))) u4) v6 (.ref ks) (.ref rs) (Zg (Zy (X2 L))) u5 n t) G hA O2 fun h3 t3 g3 O3 qx qz=>?_
 refine same _ _ _ _ _ _ (Zj0 ?_)
 rw [if_pos rfl]
 refine chain_last ?_
 refine k10m.goB (id := "min") ?_
 refine goP (Zwv fr kc wc) G hA (p:=[]) O3 fun h4 t4 g4 O4 qB qw=>⟨rfl,?_⟩
 refine k10e.go (o:=o) (af:=814) (fd:=Z7 (TZ w b) 814) ?_
 refine goP (Zwu fr kc wc) G hA (p:=[]) O4 fun h5 t5 g5 O5 qy qv=>⟨rfl,?_⟩
 refine goP (fun n t=>Zs4 fr kc wc ft sl v0 v2 (.str (S (Zg (Zy (X2 L)))) u3) (.str (S (Zg (Zy (X2 L)))) u4) (.str (S (Zg (Zy (X2 L)))) u5) v6 (.ref ks) (.ref rs) ln n t) G hA O5 fun h6 t6 g6 O6 qG qC=>⟨⟨O6.keep _ _ (G.top _ _ ho),(Yc hd).1⟩,?_⟩
 have O6:=O6.perm (pm [_,_,_,_,_] [_,_,_,_] 941842144348471938 941842144346293253)
 refine Zih hA G hL.1 (fun x hx=>⟨(hL.2 x hx).1,fun u hu=>by have:=(hL.2 x hx).2 u hu; exact Zn this (by decide)⟩) O6 fun acc tk ea c' h7 t7 g7 O7 qO qM=>?_
 obtain ⟨m1,m2⟩:=Zi8 L
 refine Zl1 hA.hand m1 m2 O7 (.head _) fun u h8 t8 O8=>?_
 refine same _ _ _ _ _ _ (Zj0 ?_)
 rw [if_pos rfl]
 refine BoolOp_one ?_
 refine wpAny_Compare1 (hm:=s10n) ?_
 have O8:=Own.drop (r:=(acc,Za (wsV ((Zci (L.map Od.us)).map S) tk) ea)::(ln,Za (L.map Od.v) el)::Yd L) (O8.perm (pm [_,_,_,_,_,_] [_,_,_,_] 120555807775960203906 4796304932495123629441))
 refine goP (fun n t=>Zxe fr kc wc ft sl v0 (.ref ln) v2 (.str (S (Zg (Zy (X2 L)))) u3) (.str (S (Zg (Zy (X2 L)))) u4) (.str (S (Zg (Zy (X2 L)))) u5) v6 (.ref rs) ks n t) G hA O8 fun h9 t9 g9 O9 xk xq=>?_
 refine goP (fun n t=>Zsx fr kc wc ft sl v0 (.ref ln) v2 (.str (S (Zg (Zy (X2 L)))) u3) (.str (S (Zg (Zy (X2 L)))) u4) (.str (S (Zg (Zy (X2 L)))) u5) v6 (.ref ks) rs n t) G hA O9 fun h10 t10 g10 O10 xw qZ=>?_
 have O10:=Own.drop (r:=[(fr,Yy (HZ w b) ft [v0,.ref ln,v2,.str (S (Zg (Zy (X2 L)))) u3,.str (S (Zg (Zy (X2 L)))) u4,.str (S (Zg (Zy (X2 L)))) u5,v6,.ref ks,.ref rs] sl)]) (O10.perm (pm [_,_,_,_] [_,_,_] 44187452048002 1170053787730945))
 have hzl:Z.length=Z'.length:=by
  have:=Yr List.length hZ
  rwa [Z0,Z0] at this
 have hu:=hA.units
 refine eq_listAt (s:=r.at h10 ⟨t10,g10⟩) (items:=⟨Z.map Six.v⟩) (items2:=⟨Z'.map Six.v⟩) (e:=fun _=>true) (Yn (O10.own _ (.head _))) (Yn (O10.own _ (.tail _ (.head _)))) (by show (Z.map Six.v).length=(Z'.map Six.v).length; rw [Z0,Z0,hzl]) (by lia) (fun j h1 h2=>?_) ?_
 ·have j1:j < Z.length:=by have h1:j < (Z.map Six.v).length:=h1; rwa [Z0] at h1
  have j2:j < Z'.length:=by lia
  have e1:(⟨Z.map Six.v⟩:Array Value)[j]=Six.v Z[j]:=Zyd ..
  have e2:(⟨Z'.map Six.v⟩:Array Value)[j]=Six.v Z'[j]:=Zyd ..
  rw [e1,e2]
  refine Z0r (by show A.units+1+2 < _; lia) (O10.own _ (.tail _ (.tail _ (N8 _ (Zdq (Zd1 j1)))))) (O10.own _ (.tail _ (.tail _ (N7 _ (N8 _ (Zdq (Zd1 j2))))))) ?_
  have e:(Z.map Six.z)[j]?=(Z'.map Six.z)[j]?:=by rw [hZ]
  rw [Zbl,Zbl,Vp j1,Vp j2] at e
  exact Zfs e
 ·have hr:((List.range (⟨Z.map Six.v⟩:Array Value).size).all fun _=>true)=true:=Zfh.mpr fun _ _=>rfl
  rw [hr]
  refine hQ c' h10 t10 g10 (Own.drop (r:=(ks,Za (Z.map Six.v) ek)::(rs,Za (Z'.map Six.v) er)::(Z.map Six.o++Z'.map Six.o)) (O10.perm ?_)) (gtr (gtr (gtr (gtr (gtr (gtr (gtr (gtr qD qF) qz) qw) qv) qC) qM) xq) qZ)
  exact pm [_,_,_] [_,_,_] 345757500034 30890751329281
end
end
section
section
theorem Zg3 (hA:AOk A (some [fe E3 a3]) 113) (h3:E3.scope.kind≠.module) (G:Ground T2 (wb w b) H) (a:Nat) (x0 R:LM)
  {es sq ti:Nat} (hw:us.length<=18) (hu:∀ u∈us,u.length<=100000)
  (O:Own H ((sq,Za (wsV (us.map S) tw) es)::(Zhe a x0 R a3 d3 k3 c sl3++l)) h)
  (hQ:∀ u c' sl3' h' t' g',Own H ((sq,Za (wsV (us.map S) tw) es)::(Zhe a x0 R a3 d3 k3 c' sl3'++l)) h'->t<=t'->Zq true g g'->Q (.str (S (Zg (N0 us))) u) (r.at h' ⟨t',g'⟩)) :
  wpAny (model prog (wb w b)) A (call (.ref 60) [.ref 792,.ref sq,.str (S []) ti]) Q E (r.at h ⟨t,g⟩):=by
 obtain ⟨o,ho,hd⟩:=Pl.mp (d60 (w:=w) (b:=b))
 have qI:AOk (A.under (.call (.ref 60) ⟨[.ref 792,.ref sq,.str (S []) ti],[]⟩)) (some [fe E3 a3]) 112:=hA.under (Zr rfl)
 refine U7 (O.keep _ _ (G.top _ _ ho)) hd Z3g (N:=112) (hA.bare (Y9 _)) ?_
 refine go (Zz0 sq ti) G (qI.bare (Y9 _)) O fun x1 h1 t1 g1 O1 qK qD=>⟨G.nolimit.keeps O1.keep,?_⟩
 generalize h.objs.size=fr at O1 ⊢
 have O1:Own H ((fr,frO (Z9v (HZ w b) (fun j=>x1.nat (j+2)) sq ti) 3 #[])::(sq,Za (wsV (us.map S) tw) es)::(Zhe a x0 R a3 d3 k3 c sl3++l)) h1:=O1
 generalize (fun j=>x1.nat (j+2))=ft1 at O1
 have hf:AOk (A.under (.func [rdS' (TZ w b) 0,rdS' (TZ w b) 1,rdS' (TZ w b) 2,rdS' (TZ w b) 3] (Vf (TZ w b) fr))) (some [fe (Vf (TZ w b) fr) fr,fe E3 a3]) 112:=hA.underF
 generalize A.under (.func [rdS' (TZ w b) 0,rdS' (TZ w b) 1,rdS' (TZ w b) 2,rdS' (TZ w b) 3] (Vf (TZ w b) fr))=A2 at hf
 have hfn:AOk A2 none 112:=hf.bare (Y9 _)
 show wpAny _ A2 (execs _ (Vf (TZ w b) fr)) _ _ _
 have e4:execs [rdS' (TZ w b) 0,rdS' (TZ w b) 1,rdS' (TZ w b) 2,rdS' (TZ w b) 3] (Vf (TZ w b) fr)=(execs [rdS' (TZ w b) 0,rdS' (TZ w b) 1] (Vf (TZ w b) fr)>>=fun f=>match f with | .next=>execs [rdS' (TZ w b) 2,rdS' (TZ w b) 3] (Vf (TZ w b) fr) | f=>pure f):=by
  generalize rdS' (TZ w b) 0=a0
  generalize rdS' (TZ w b) 1=a1
  generalize rdS' (TZ w b) 2=a2
  generalize rdS' (TZ w b) 3=a3
  generalize Vf (TZ w b) fr=qq
  rw [Zw,Zw a0 [a1],Z5,bind_assoc]
  refine Yr _ (funext fun f=>?_)
  cases f with
  | next=>exact Zw a1 [a2,a3] qq
  | _=>rfl
 refine eqF (by rw [e4]) ?_
 refine Zi ?_
 refine go (Zyv fr ft1 sq ti (wsV (us.map S) tw) es) G hfn O1 (hT:=fun n t=>by dsimp only [tG]; rw [Yk]) (rest:=Zhe a x0 R a3 d3 k3 c sl3++l) fun x2 h2 t2 g2 O2 qN qF=>?_
 have O2:Own H ((x2.nat 2,Ge sq 0)::(fr,frO (Z0h (HZ w b) (fun j=>x2.nat (j+3)) sq ti (x2.nat 2) [] ti) 5 #[])::(sq,Za (wsV (us.map S) tw) es)::(Zhe a x0 R a3 d3 k3 c sl3++l)) h2:=O2
 generalize (fun j=>x2.nat (j+3))=ft2 at O2
 generalize x2.nat 2=it at O2
 refine eqF (by rw [Zw]) ?_
 refine Zi ?_
 refine eqF (by rw [Z9o,Nj]) ?_
 refine Zi (Zd2 (Zi ?_))
 refine go0 (Z3w fr ft2 sq ti it [] ti) G hfn O2 (rest:=(sq,Za (wsV (us.map S) tw) es)::(Zhe a x0 R a3 d3 k3 c sl3++l)) (hp:=by
  simp only [Zx.preA,rdI,Zt]
  exact pm [_,_,_] [_,_] 1885471362 506127192502124673) (hT:=fun n t=>by unfold rdI; dsimp only; rw [Xy,Zgi,Mi]) fun x3 h3' t3 g3 O3 qx qz=>?_
 have O3:Own H ((it,Ge sq 0)::(fr,rdO (HZ w b) ft2 sq ti it (Zg []) ti #[] none)::(sq,Za (wsV (us.map S) tw) es)::(Zhe a x0 R a3 d3 k3 c sl3++l)) h3':=O3.perm (by
  simp only [Zx.postA,rdI,Zt]
  exact .swap _ _ _)
 refine wpAny_runOwn ?_
 refine Zx7 (t₀:=t) (g₀:=g) (show AOk A2 (some [fe (Vf (TZ w b) fr) fr,fe E3 a3]) 111 from hf.le (by decide)) h3 G a x0 R hw hu ?_ ⟨rfl,rfl⟩ O3 (by exact (Zn qK (Zn qN qx))) (gtr (gtr qD qF) qz)
 intro ft' tv' sl' o' c' sl3' h' t' gs' O' ht' hg'
 refine go (Z0q fr ft' sq ti it (Zg (N0 us)) tv' sl' o') G hfn O' (hT:=fun n t=>by dsimp only [tG]; rw [Yk]) fun x5 h5 t5 g5 O5 qy qv=>?_
 exact hQ tv' c' sl3' h5 t5 g5 (Own.drop (r:=[(fr,rdO (HZ w b) ft' sq ti it (Zg (N0 us)) tv' sl' o')]) (O5.perm (by
  simp only [Zx.postA,tG,Zt]
  exact pm [_,_] [_,_] 64782591790401208449 551600769))) (by exact (Zn ht' qy)) (gtr hg' qv)
end
end
section
theorem s4e:lwS (TZ w b) 4=.Assign [.Name "folded" (Yg (Y0 (lwS (TZ w b) 4)))] (lwV (TZ w b) 4) (Y5 (lwS (TZ w b) 4)):=kf
theorem s4w (fr kc wc:Nat):swapsWith (lwV (TZ w b) 4) (some (.Name "folded" (Yg (Y0 (lwS (TZ w b) 4))))) (Y5 (lwS (TZ w b) 4)).line (Zm (TZ w b) fr kc wc)=pure false:=kf
theorem Zq9 (fr kc wc:Nat):(Zm (TZ w b) fr kc wc).scope.kind≠.module:=by
 have e:(Z7 (TZ w b) 826).scope.kind=.function:=kf
 show (Z7 (TZ w b) 826).scope.kind≠.module
 rw [e]
 exact nofun
noncomputable def f4O (w:Hs) (ft:LM) (vs:LH) (fr:Addr) (s:Addr×LG):LC:=[(762,Z9 773 20 (some s.1)),(fr,Yy w ft vs s.2)]
theorem Ztm (hA:AOk A (some [fe (Zm (TZ w b) fr kc wc) fr]) 113) (G:Ground T2 (wb w b) H) (a:Nat) (x0 k:LM) {er:Nat} {R:List Od} (hL:Za5 R) {Q:Flow->Shared->Prop}
  (O:Own H ((fr,Yy (HZ w b) ft [v0,v1,.ref rw,v3] sl)::(762,Z9 773 20 (some c))::(rw,Za (R.map Od.v) er)::(Yd R++((46,Yp a)::((Ys a x0++Xm (adK a) k)++l)))) h)
  (hQ:∀ ft sl c u h' t' g',Own H ((fr,Yy (HZ w b) ft [v0,v1,.ref rw,v3,.str (S (Zg (Zy (X2 R)))) u] sl)::(762,Z9 773 20 (some c))::(rw,Za (R.map Od.v) er)::(Yd R++((46,Yp a)::((Ys a x0++Xm (adK a) k)++l)))) h'->t<=t'->Zq true g g'->Q .next (r.at h' ⟨t',g'⟩)) :
  wpAny (model prog (wb w b)) A (exec (lwS (TZ w b) 4) (Zm (TZ w b) fr kc wc)) Q E (r.at h ⟨t,g⟩):=by
 have hn:AOk A none 113:=hA.bare (by decide)
 obtain ⟨o,ho,hd⟩:=Pl.mp (d60 (w:=w) (b:=b))
 rw [s4e]
 refine Zo9 (hs:=s4w fr kc wc) ?_
 refine k4F.go (o:=o) (af:=60) (fd:=Z7 (TZ w b) 60) ?_
 refine goP (Zwg fr kc wc) G hn (p:=[]) O fun h1 t1 g1 O1 qK qD=>⟨rfl,?_⟩
 refine goP (Zus fr kc wc) G hn (p:=[]) O1 fun h2 t2 g2 O2 qN qF=>?_
 refine n4C.toComp1.go (cl4C fr kc wc) ?_
 refine goP (Zvj fr kc wc ft sl v0 v1 v3 rw) G hn O2 fun h3 t3 g3 O3 qx qz=>?_
 refine n4C.texts (L:=R) (lw:=rw) (ep:=er) hA.hand "row" (hs:=hz (wb w b)) (f4O (HZ w b) ft [v0,v1,.ref rw,v3] fr) (fun us=>Zg (Zy us)) (l:=(46,Yp a)::((Ys a x0++Xm (adK a) k)++l)) (by have:=hL.1; exact Zn this (by decide)) (fun C i X o' st m rest h4 t4 g4 Q E hX O4 hQ=>?_) (st:=(c,sl)) (O3.perm ?_) fun st acc tk ea h4 t4 g4 O4 qB qw=>?_
 ·obtain ⟨q1,q2⟩:=hL.2 X (Nl hX)
  obtain ⟨c4,sl4⟩:=st
  refine goW (Ztt C fr kc wc o' X.a) G hn O4 fun x5 h5 t5 g5 O5 qy qv=>?_
  generalize x5.nat 2=t1' at O5
  refine k4f.go (o:=o) (af:=60) (fd:=Z7 (TZ w b) 60) ?_
  refine goP (Zub C fr kc wc) G hn (p:=[]) O5 fun h6 t6 g6 O6 qG qC=>⟨rfl,?_⟩
  refine goP (Zsu C fr kc wc) G hn (p:=[]) O6 fun h7 t7 g7 O7 qO qM=>?_
  refine goP (Zwb C fr kc wc t1' X.a) G hn O7 fun h8 t8 g8 O8 qX qW=>?_
  refine go (Zt2 C fr kc wc) G hn O8 fun x9 h9 t9 g9 O9 xk xq=>?_
  refine ⟨⟨O9.keep _ _ (G.top _ _ ho),(Yc hd).1⟩,?_⟩
  have O9:=O9.perm (pm [_,_,_,_,_] [_,_,_,_] 1976366722696006248513666 120554052714083090571)
  refine Zg3 hA (Zq9 fr kc wc) G a x0 k (us:=X.us) (tw:=X.tk) (sq:=X.a) (es:=X.ep) (ti:=x9.nat 2) (by exact Zn q1 (by decide)) (fun u hu=>by have:=q2 u hu; exact Zn this (by decide)) O9 fun u c' sl' h10 t10 g10 O10 xw qZ=>?_
  rw [Zb6]
  refine hQ u (some (t1',X.a)) (c',sl') h10 t10 g10 (O10.perm ?_) (by exact (Zn qy (Zn qG (Zn qO (Zn qX (Zn xk xw)))))) (gtr (gtr (gtr (gtr (gtr qv qC) qM) qW) xq) qZ)
  exact pm [_,_,_,_,_] [_,_,_,_] 120555794238233723010 1976338404074434251063438
 ·generalize Yd R=lr
  exact pm [_,_,_,_] [_,_,_] 44189582754434 724002123838161537
 ·obtain ⟨q1,q2⟩:=hL.lines
  obtain ⟨c4,sl4⟩:=st
  refine go (Zvo fr kc wc) G hn O4 fun x5 h5 t5 g5 O5 qy qv=>?_
  refine ⟨⟨O5.keep _ _ (G.top _ _ ho),(Yc hd).1⟩,?_⟩
  have O5:=O5.perm (pm [_,_,_,_,_] [_,_,_] 92673960804236738690 722313411427532930)
  refine Zg3 hA (Zq9 fr kc wc) G a x0 k (us:=X2 R) (sq:=acc) (ti:=x5.nat 2) (by exact Zn q1 (by decide)) (fun u hu=>by have:=q2 u hu; exact Zn this (by decide)) O5 fun u c' sl' h6 t6 g6 O6 qG qC=>?_
  rw [Zb6]
  have O6:=Own.drop (r:=[(acc,Za (wsV ((X2 R).map S) tk) ea)]) (O6.perm (pm [_,_,_,_,_] [_,_,_] 724015353159565442 149758055188399489))
  refine goW (Zwz fr kc wc ft sl' v0 v1 (.ref rw) v3 (Zg (Zy (X2 R))) u) G hn O6 fun x8 h8 t8 g8 O8 qX qW=>?_
  exact hQ (fun j=>x8.nat (j+2)) sl' c' u h8 t8 g8 O8 (by exact (Zn qK (Zn qN (Zn qx (Zn qB (Zn qy (Zn qG qX))))))) (gtr (gtr (gtr (gtr (gtr (gtr qD qF) qz) qw) qv) qC) qW)
end
section
theorem Zx5 {L R:List Od} (e:R.map Od.us=L.map Od.us):X2 R=X2 L:=by
 have h:∀ X:List Od,X2 X=(X.map Od.us).map fun us=>Zg (Zy us):=fun X=>by
  rw [List.map_map]
  rfl
 rw [h,h,e]
theorem Za5.of {L:List Od} (h:Vx 16 (L.map Od.us)):Za5 L :=
 ⟨by have:=h.le; rwa [Z0] at this,fun x hx=>(h.line _ (Zdq hx)).2⟩
theorem Zb4:∀ M:List (LD),M.flatten.length=Yi M
 | []=>rfl
 | x::M=>by
  rw [List.flatten_cons,Vc,Zb4 M]
  rfl
section
theorem d826:((Mn (wb w b) 826).bind Uq)=some (Z7 (TZ w b) 826):=kf
theorem Zut:(Z7 (TZ w b) 826).body=.stmts [lwS (TZ w b) 0,lwS (TZ w b) 1,lwS (TZ w b) 2,lwS (TZ w b) 3,lwS (TZ w b) 4,lwS (TZ w b) 5,lwS (TZ w b) 6,lwS (TZ w b) 7,lwS (TZ w b) 8,lwS (TZ w b) 9,lwS (TZ w b) 10]:=kf
theorem s0e:lwS (TZ w b) 0=.Assign [.Name "lines" (Yg (Y0 (lwS (TZ w b) 0)))] (lwV (TZ w b) 0) (Y5 (lwS (TZ w b) 0)):=kf
theorem s0w (fr kc wc:Nat):swapsWith (lwV (TZ w b) 0) (some (.Name "lines" (Yg (Y0 (lwS (TZ w b) 0))))) (Y5 (lwS (TZ w b) 0)).line (Zm (TZ w b) fr kc wc)=pure false:=kf
theorem k0:Ma (lwV (TZ w b) 0) "_law_drawn" := ⟨kf,kf,fun _=>kf⟩
theorem Zn9 {ys:List Int} {xs:LH} {tk:LM} (htake:xs.take 10=Jh ys tk) (hxs:xs.length<=sizeLine) (hA:AOk A (some []) 139) (G:Ground T2 (wb w b) H)
  (O:Own H ((46,Zbp)::(762,Z9 773 20 none)::(sc,Za xs ep)::l) h)
  (hQ:∀ n c h' t' g',Own H ((46,Yp n)::(762,Z9 773 20 (some c))::(sc,Za xs ep)::l) h'->Zq true g g'->Q (.bool true) (r.at h' ⟨t',g'⟩)) :
  wpAny (model prog (wb w b)) A (call (.ref 826) [.ref sc]) Q E (r.at h ⟨t,g⟩):=by
 obtain ⟨o,ho,hd⟩:=Pl.mp (d826 (w:=w) (b:=b))
 obtain ⟨od,hod,hdd⟩:=Pl.mp (Ya5 (w:=w) (b:=b))
 have qI:AOk (A.under (.call (.ref 826) ⟨[.ref sc],[]⟩)) (some []) 138:=hA.under (Zr rfl)
 refine U7 (O.keep _ _ (G.top _ _ ho)) hd Zut (N:=138) (hA.bare (Y9 _)) ?_
 refine go (Zz7 sc) G (qI.bare (Y9 _)) O fun x1 h1 t1 g1 O1 qK qD=>⟨G.nolimit.keeps O1.keep,?_⟩
 generalize h.objs.size=fr at O1 ⊢
 generalize hft:(fun j=>x1.nat (j+2))=ft0
 have O1:Own H ((fr,Yy (HZ w b) ft0 [.ref sc] #[])::(fr+1,X4)::(fr+2,X4)::((46,Zbp)::(762,Z9 773 20 none)::(sc,Za xs ep)::l)) h1:=by
  rw [← hft]
  exact O1
 have hf:AOk (A.under (.func [lwS (TZ w b) 0,lwS (TZ w b) 1,lwS (TZ w b) 2,lwS (TZ w b) 3,lwS (TZ w b) 4,lwS (TZ w b) 5,lwS (TZ w b) 6,lwS (TZ w b) 7,lwS (TZ w b) 8,lwS (TZ w b) 9,lwS (TZ w b) 10] (Zm (TZ w b) fr (fr+1) (fr+2)))) (some [(Zm (TZ w b) fr (fr+1) (fr+2))]) 138:=hA.underF
 generalize A.under (.func [lwS (TZ w b) 0,lwS (TZ w b) 1,lwS (TZ w b) 2,lwS (TZ w b) 3,lwS (TZ w b) 4,lwS (TZ w b) 5,lwS (TZ w b) 6,lwS (TZ w b) 7,lwS (TZ w b) 8,lwS (TZ w b) 9,lwS (TZ w b) 10] (Zm (TZ w b) fr (fr+1) (fr+2)))=A2 at hf
 have hfn:AOk A2 none 120:=hf.bare (by decide)
 have hfe:AOk A2 (some [fe (Zm (TZ w b) fr (fr+1) (fr+2)) fr]) 113:=hf.le (by decide)
 generalize xI:(fun (f:Flow) s''=>Q (match f with | .ret v=>v | _=>.none) s'')=Q2
 have qA:∀ n c h' t' g',Own H ((46,Yp n)::(762,Z9 773 20 (some c))::(sc,Za xs ep)::l) h'->Zq true g g'->Q2 (.ret (.bool true)) (r.at h' ⟨t',g'⟩):=fun n c h' t' g' O gr=>by
  rw [← xI]
  exact hQ n c h' t' g' O gr
 refine Zky (eqT (Yr (fun x=>exec x _) (s0e (w:=w) (b:=b)).symm) (Zo9 (hs:=s0w fr (fr+1) (fr+2)) ?_))
 refine k0.go (o:=od) (af:=780) (fd:=Z7 (TZ w b) 780) ?_
 refine goP (Zws fr (fr+1) (fr+2)) G hfn (p:=[]) O1 fun h2 t2 g2 O2 qN qF=>⟨rfl,?_⟩
 refine goP (Ztl fr (fr+1) (fr+2) ft0 #[] sc) G hfn O2 fun h3 t3 g3 O3 qx qz=>⟨⟨O3.keep _ _ (G.top _ _ hod),(Yc hdd).1⟩,?_⟩
 refine Zk5 (hfn.le (by decide)) G htake hxs (O3.perm (l':=(sc,Za xs ep)::(fr,Yy (HZ w b) ft0 [.ref sc] #[])::(fr+1,X4)::(fr+2,X4)::(46,Zbp)::(762,Z9 773 20 none)::l) (by exact pm [_,_,_,_,_,_] [_] 18180082893442 18076192030993)) fun ln L el h4 t4 g4 hLI hwn O4 qB qw=>?_
 have hL:=Za5.of hLI
 have O4:=O4.perm (pm [_,_,_,_,_,_,_] [_,_] 515737408130597250 507279584342066568)
 refine goW (Zur fr (fr+1) (fr+2) ft0 #[] (.ref sc) ln) G hfn O4 fun x5 h5 t5 g5 O5 qy qv=>?_
 refine Zky (eqT (Z5 _ _) ?_)
 generalize hft:(fun j=>x5.nat (j+2))=ft5
 have O5:Own H ((fr+1,X4)::(46,Zbp)::((fr,Yy (HZ w b) ft5 [.ref sc,.ref ln] #[])::(762,Z9 773 20 none)::(ln,Za (L.map Od.v) el)::(Yd L++((fr+2,X4)::(sc,Za xs ep)::l)))) h5:=by
  rw [← hft]
  refine O5.perm ?_
  exact pm [_,_,_,_,_,_,_] [_,_] 515737030985122434 515737030985024517
 refine go (Z4l fr (fr+1) (fr+2)) G hfn O5 (fun x6 h6 t6 g6 O6 qG qC=>?_) (hT:=fun n t=>by dsimp only [tG]; rw [Yk])
 generalize h5.objs.size=a at O6 ⊢
 generalize hx0:(fun k=>x6.nat (k+122))=x0
 generalize hk:(fun k=>x6.nat (k+2))=k
 have O6:Own H ((762,Z9 773 20 none)::(fr,Yy (HZ w b) ft5 [.ref sc,.ref ln] #[])::(ln,Za (L.map Od.v) el)::(Yd L++((fr+1,Zp (.ref (adK a 6)))::(46,Yp a)::(fr+2,X4)::(sc,Za xs ep)::((Ys a x0++Xm (adK a) k)++(Ze6 (HZ w b) (TZ w b) (adK a) k++l))))) h6:=O6.perm (by
  rw [← hx0,← hk]
  simp only [Zx.postA,tG,Zt]
  refine ((((J2 (HZ w b) (TZ w b) (adK a) (fun k=>x6.nat (k+2))).append_right _).append_right _).append_right _).trans ?_
  exact pm [_,_,_,_,_,_,_] [_,_,_,_,_] 83893463618786323028995982216937601 310396509646278774202008587)
 refine Zky ?_
 refine Zof (hfe.le (by decide)) G hL O6 fun ft7 sl7 c7 rw R er h7 t7 g7 hR O7 qO qM=>?_
 have hLR:=hL.of_map hR
 have hlq:=Zx5 hR
 have O7:Own H ((fr,Yy (HZ w b) ft7 [.ref sc,.ref ln,.ref rw] sl7)::(fr+1,Zp (.ref (adK a 6)))::(762,Z9 773 20 (some c7))::(rw,Za (R.map Od.v) er)::(Yd R++(Z1 (HZ w b) (TZ w b) (adK a) k++((ln,Za (L.map Od.v) el)::(Yd L++((46,Yp a)::(fr+2,X4)::(sc,Za xs ep)::(Ys a x0++l))))))) h7:=O7.perm (by
  refine List.Perm.trans ?_ (((((((J2 (HZ w b) (TZ w b) (adK a) k).append_right _).append_left _).cons _).cons _).cons _).cons _).symm
  exact pm [_,_,_,_,_,_,_,_] [_,_,_,_,_,_] 6058731370268857936059281048194 6044071198933593200129285850885)
 refine Zky ?_
 refine Zt5 (hfn.le (by decide)) G (adK a) k hLR O7 fun ft8 c8 q3 h8 t8 g8 O8 qX qW=>?_
 have O8:Own H ((fr,Yy (HZ w b) ft8 [.ref sc,.ref ln,.ref rw,.str (S (Zg (Zy (X2 R)))) q3] sl7)::(762,Z9 773 20 (some c8))::(rw,Za (R.map Od.v) er)::(Yd R++((46,Yp a)::((Ys a x0++Xm (adK a) k)++((fr+1,Zp (.ref (adK a 6)))::(ln,Za (L.map Od.v) el)::(Yd L++((fr+2,X4)::(sc,Za xs ep)::(Ze6 (HZ w b) (TZ w b) (adK a) k++l)))))))) h8:=O8.perm (by
  refine (((((((J2 (HZ w b) (TZ w b) (adK a) k).append_right _).append_left _).cons _).cons _).cons _).cons _).trans ?_
  exact pm [_,_,_,_,_,_,_,_] [_,_,_,_,_,_] 6058926479460570764343324574338 6044071193103984673921146471426)
 refine Zky ?_
 refine Ztm hfe G a x0 k hLR O8 fun ft9 sl9 c9 q4 h9 t9 g9 O9 xk xq=>?_
 rw [hlq] at O9
 have O9:Own H ((fr,Yy (HZ w b) ft9 [.ref sc,.ref ln,.ref rw,.str (S (Zg (Zy (X2 L)))) q3,.str (S (Zg (Zy (X2 L)))) q4] sl9)::(762,Z9 773 20 (some c9))::(ln,Za (L.map Od.v) el)::(Yd L++((fr+2,X4)::(rw,Za (R.map Od.v) er)::(Yd R++((fr+1,Zp (.ref (adK a 6)))::(46,Yp a)::(sc,Za xs ep)::(Z1 (HZ w b) (TZ w b) (adK a) k++(Ys a x0++l))))))) h9:=O9.perm (by
  refine List.Perm.trans ?_ ((((((((((((J2 (HZ w b) (TZ w b) (adK a) k).append_right _).cons _).cons _).cons _).append_left _).cons _).cons _).append_left _).cons _).cons _).cons _).symm
  exact pm [_,_,_,_,_,_,_,_] [_,_,_,_,_,_] 6058926473603729520942672642690 6036506478000412337807923888770)
 refine Zky ?_
 refine Zul hfn G hL O9 fun ft10 c10 q5 h10 t10 g10 O10 xw qZ=>?_
 have O10:=O10.perm (pm [_,_,_,_,_,_,_,_] [_,_,_,_,_] 311309237463659219089752706 311309237463645817187566978)
 refine Zky ?_
 refine Zxx (hfn.le (by decide)) G hLR O10 fun wd tw ew h11 t11 g11 O11 xu xy=>?_
 have hWl:=Zhl hLR (R.map Od.us).length
 rw [Zja] at hWl
 have hW2:2<=(R.map Od.us).flatten.length:=by rw [Zb4,hR]; exact hwn
 have hWu:∀ u∈(R.map Od.us).flatten,u.length<=16:=fun u hu=>by
  obtain ⟨us,h1,h2⟩:=List.mem_flatten.mp hu
  obtain ⟨x,hx,rfl⟩:=Uo.mp h1
  exact (hLR.2 x hx).2 u h2
 have O11:=Own.drop (r:=(rw,Za (R.map Od.v) er)::Yd R) (O11.perm (pm [_,_,_,_,_,_,_,_,_] [_,_,_,_,_] 39847585965009544385625457282 1295196590357859404610007023873))
 generalize hW:(R.map Od.us).flatten=W at O11 hWl hW2 hWu
 have qY:W≠[]:=fun e=>by rw [e] at hW2; exact absurd hW2 (by decide)
 have hlast:W=W.dropLast++[W.getLast qY]:=(List.dropLast_concat_getLast qY).symm
 have g0:W[0]?=some W[0]:=Vp (by lia)
 have g1':W[1]?=some W[1]:=Vp (by assumption)
 refine Zky ?_
 refine Ztv (hfn.le (by decide)) G (by exact Zn hWl (by decide)) hlast g0 g1' O11 fun ft12 pr ep12 P h12 t12 g12 hP O12 xH xG=>?_
 have hPb:P.length<=100/\∀ x∈P,x.u.length<=100000/\x.v.length<=100000:=by
  refine ⟨by have:=Yr List.length hP; rw [Z0] at this; rw [this]; show 2<=100; decide,fun x hx=>?_⟩
  have hm:x.q∈[(W.getLast qY,W[0]),(W[0],W[1])]:=by rw [← hP]; exact Zdq hx
  have a1:=hWu _ (List.getLast_mem qY)
  have a2:=hWu _ (Zd1 (show 0 < W.length by lia))
  have a3:=hWu _ (Zd1 (show 1 < W.length by assumption))
  rcases X6.mp hm with e | hm
  ·have e1:x.u=W.getLast qY:=Yr Prod.fst e
   have e2:x.v=W[0]:=Yr Prod.snd e
   rw [e1,e2]
   exact ⟨by exact Zn a1 (by decide),by lia⟩
  ·have e:=Ur.mp hm
   have e1:x.u=W[0]:=Yr Prod.fst e
   have e2:x.v=W[1]:=Yr Prod.snd e
   rw [e1,e2]
   exact ⟨by lia,by lia⟩
 have O12:=Own.drop (r:=(fr+2,Zp (.ref wd))::(wd,Za (wsV (W.map S) tw) ew)::Ys a x0) (O12.perm (pm [_,_,_,_,_,_,_,_,_] [_,_,_,_,_] 39847585965009544387766567554 4147256322870535473605437096193))
 refine Zky ?_
 refine Zwq (hfn.le (by decide)) G (adK a) k hPb O12 fun ft13 c13 ks ek Z h13 t13 g13 hZ O13 ht13 gr13=>?_
 have O13:=Own.drop (r:=(fr+1,Zp (.ref (adK a 6)))::Z1 (HZ w b) (TZ w b) (adK a) k) (O13.perm (pm [_,_,_,_,_,_,_,_] [_,_,_,_,_] 312984395295688438596027010 24915988481206499174816907521))
 refine Zky ?_
 refine Zss (hfn.le (by decide)) G hPb O13 fun ft14 rs ek' Z' h14 t14 g14 hZ' O14 ht14 gr14=>?_
 have O14:=Own.drop (r:=(pr,Za (P.map Pr.V) ep12)::P.map Pr.o) (O14.perm (pm [_,_,_,_,_,_,_,_] [_,_,_,_,_] 312984395295723518546723458 17488348244841204685075562753))
 refine Zky ?_
 refine Zqf (hfn.le (by decide)) G hL (hZ.trans hZ'.symm) O14 fun c15 h15 t15 g15 O15 gr15=>?_
 exact qA a c15 h15 t15 g15 (O15.perm (.swap _ _ _)) (gtr (gtr (gtr (gtr (gtr (gtr (gtr (gtr (gtr (gtr (gtr (gtr (gtr (gtr qD qF) qz) qw) qv) qC) qM) qW) xq) qZ) xy) xG) gr13) gr14) gr15)
end
end
section
open PySem PySem.W PySem.W.X PySem.Calls PyProof.Rows
noncomputable def Zzv:Obj:={ cls:=.none,data:=.freed }
noncomputable def Zhr (h:Heap) (a:Addr):Heap:=h.update a fun _=>Zzv
theorem Zip (h:Heap) (a b:Addr):(Zhr h a).get? b=if b=a then none else h.get? b:=by
 unfold Zhr
 by_cases e:b=a
 ·subst e
  rw [if_pos rfl]
  unfold Heap.get? Heap.update
  dsimp only
  rw [Array.getElem?_modify,if_pos rfl]
  cases h.objs[b]?<;>rfl
 ·rw [if_neg e]
  exact Heap.get?_update_ne _ _ _ _ e
noncomputable def Zjf (h:Heap):List Addr->Heap
 | []=>h
 | a::l=>Zhr (Zjf h l) a
theorem Zfc (h:Heap) (b:Addr):∀ l,(Zjf h l).get? b=if b∈l then none else h.get? b
 | []=>by rw [if_neg (by simp)]; rfl
 | a::l=>by
  show (Zhr (Zjf h l) a).get? b=_
  rw [Zip,Zfc h b l]
  by_cases e:b=a
  ·rw [if_pos e,if_pos (by simp [e])]
  ·rw [if_neg e]
   by_cases m:b∈l
   ·rw [if_pos m,if_pos (by simp [m])]
   ·rw [if_neg m,if_neg (by simp [e,m])]
theorem Zuw (w:World) (k:String):hzP w.params k=hashStr w (Str.ofString k):=by
 unfold hzP hashStr
 rw [← W.ZFast.ze12210062019545310541]
 cases (Str.ofString k).cps.isEmpty<;>rfl
theorem Z4s (w:World):hHs w=hzP w.params:=funext fun k=>(Zuw w k).symm
theorem U8:∀ {l:LC} {m:List Nat},m=l.map (·.1)->m.map h.get?=l.map (fun p=>some p.2)->∀ p∈l,h.get? p.1=some p.2
 | [],_,_,_=>fun p hp=>nomatch hp
 | q::l,m,hm,h2=>by
  subst hm
  rw [Zcq,Zcq] at h2
  obtain ⟨a,b⟩:=List.cons.inj h2
  intro p hp
  cases hp with
  | head=>exact a
  | tail _ hp=>exact U8 rfl b p hp
theorem Z4c (hs:Hs):hAd=(Znq hs).map (·.1):=by kernel_rfl
theorem Zjr (hs:Hs):(Znq hs).all (fun p=>!([46,762,827]:List Nat).contains p.1)=true:=by kernel_rfl
structure Zrs (w:World) (h:Heap):Prop where
 size:h.objs.size=827
 top:∀ p∈Znq (hzP w.params),h.get? p.1=some p.2
 tbl:∀ p∈Z9j,h.get? p.1=some p.2
theorem Zna (e:hYf s=hYa w):Zrs w s.heap/\s.heap.nsMap mainGlobals "law" = some (.ref 826):=by
 obtain ⟨e1,e2⟩:=Prod.mk.inj e
 obtain ⟨e2,e3⟩:=Prod.mk.inj e2
 obtain ⟨e3,e4⟩:=Prod.mk.inj e3
 refine ⟨⟨e1,U8 (Z4c _) ?_,U8 rfl (by rw [List.map_map]; exact e4)⟩,e2⟩
 rw [Z4s] at e3
 exact e3
end
section
open PySem PySem.W PySem.W.X PySem.Calls PyProof.Rows
theorem Zfd:∀ (is:List Int) (tk:LM) (n:Nat),(Jh is tk).take n=Jh (is.take n) tk
 | [],_,n=>by cases n<;>rfl
 | _::_,_,0=>rfl
 | x::r,tk,n+1=>by
  show Value.int x (tk 0)::(Jh r fun k=>tk (k+1)).take n=Value.int x (tk 0)::Jh (r.take n) fun k=>tk (k+1)
  rw [Zfd r _ n]
theorem Zhg:∀ (is:List Int) (tk:LM),(Jh is tk).length=is.length
 | [],_=>rfl
 | _::r,tk=>Yr (·+1) (Zhg r _)
theorem Zhy {cl:Str->Option Addr} {P:Params} {ord:List DictEntry->List DictEntry}:∀ (ds:List WData) (s:Shared),WShape.hasItems [] ds .int=true->∃ is:List Int,is.length=ds.length/\layAllW [] cl P ord ds s=some (Jh is (fun k=>s.toks+k),{ s with toks:=s.toks+ds.length })
 | [],s,_=>⟨[],rfl,by rw [layAllW]; rfl⟩
 | d::ds,s,h=>by
  rw [WShape.hasItems] at h
  obtain ⟨h1,h2⟩:=Q2q.mp h
  obtain ⟨i,rfl⟩:=hasW_int h1
  obtain ⟨is,e1,e2⟩:=Zhy (cl:=cl) (P:=P) (ord:=ord) ds { s with toks:=s.toks+1 } h2
  refine ⟨i::is,by rw [V7,V7,e1],?_⟩
  rw [layAllW,layW]
  dsimp only
  rw [e2]
  dsimp only
  refine Yr some (Prod.ext ?_ ?_)
  ·show Value.int i s.toks::Jh is (fun k=>s.toks+1+k)=Value.int i (s.toks+0)::Jh is fun k=>s.toks+(k+1)
   have:(fun k=>s.toks+1+k)=fun k=>s.toks+(k+1):=funext fun k=>by lia
   rw [this]
   rfl
  ·show ({ s with toks:=s.toks+1+ds.length }:Shared)={ s with toks:=s.toks+(ds.length+1) }
   have:s.toks+1+ds.length=s.toks+(ds.length+1):=by lia
   rw [this]
theorem Z8b (p:Params) (a:Addr):T2 p a=Zgb a (Znq (hzP p)):=by kernel_rfl
theorem Zio:AOk callerA (some []) 139:=⟨rfl,by show 1+claimMargin+5 * 139 < recursionLimit; decide,by decide +kernel,fun l h=>by cases h; rfl⟩
noncomputable def Gh:List Nat:=[46,762,827]
theorem Zax {a:Nat} {o:Obj}:∀ {l:LC},Zgb a l=some o->(a,o)∈l
 | [],h=>nomatch h
 | (c,o')::r,h=>by
  unfold Zgb at h
  split at h
  ·rename_i e
   cases h
   rw [Nat.eq_of_beq_eq_true e]
   exact .head _
  ·exact .tail _ (Zax h)
noncomputable def Ziy (o:Obj):Option (Value×Value):=match o.data with
 | .fields vs=>match vs[11]? with
  | some v=>some (o.cls,v)
  | none=>none
 | _=>none
theorem Zo1 {o:Obj} {c v:Value} (h:Ziy o=some (c,v)):o.cls=c/\∃ vs,o.data=.fields vs/\vs[11]?=some v:=by
 unfold Ziy at h
 split at h
 ·rename_i vs e
  split at h
  ·rename_i v' e'
   cases h
   exact ⟨rfl,vs,e,e'⟩
  ·cases h
 ·cases h
theorem Zpz (hs:Hs):[((50:Nat),(46:Nat)),(766,762)].all (fun p=>match (Zgb p.1 (Znq hs)).bind Ziy with
  | some (.type c,.ref t)=>c == "code" && Nat.beq t p.2
  | _=>false)=true:=by kernel_rfl
theorem Zpa (top:∀ p∈Znq (hzP w.params),h.get? p.1=some p.2):∀ p∈[((50:Nat),(46:Nat)),(766,762)],isCodeTable h p.2:=by
 intro p hp
 have z:=Zfh.mp (Zpz (hzP w.params)) p hp
 cases e:Zgb p.1 (Znq (hzP w.params)) with
 | none=>rw [e] at z; exact Bool.noConfusion z
 | some o =>
  rw [e] at z
  cases e':Ziy o with
  | none=>rw [show (some o).bind Ziy=none from e'] at z; exact Bool.noConfusion z
  | some cv =>
   obtain ⟨c,v⟩:=cv
   rw [show (some o).bind Ziy=some (c,v) from e'] at z
   obtain ⟨h1,vs,h2,h3⟩:=Zo1 e'
   split at z
   ·rename_i c' t' q
    cases q
    obtain ⟨z1,z2⟩:=Q2q.mp z
    have z1:=eq_of_beq z1
    have z2:=Nat.eq_of_beq_eq_true z2
    subst z1
    subst z2
    exact ⟨p.1,o,vs,top _ (Zax e),h1,h2,h3⟩
   ·exact Bool.noConfusion z
theorem Z3c {b:Addr} {vs:Array Value} (ht:isCodeTable h b) (e:h'.get? b=some { cls:=.none,data:=.fields vs }):asItWas h h' b { cls:=.none,data:=.fields #[] }:=.inr (.inl ⟨ht,rfl,#[],vs,rfl,by rw [Array.empty_append]; exact e⟩)
theorem Zmu {s₁:Shared} (F:Zrs w s.heap) (NL:s.heap.NoLimit) (hgens:s.gens=#[]) {cl:Str->Option Addr} {ord:List DictEntry->List DictEntry} {ds:List WData} (hI:WShape.hasItems [] ds .int=true) (qk:ds.length<=63)
  (qQ:layAllW [] cl w.params ord [.list ds] s=some (vs,s₁))
  (hQ:∀ s',OldK s₁.heap s'.heap->s'.os=s₁.os->AllBare s'.gens->Q (.bool true) s'):wpAny (model hP w) callerA (call (.ref 826) vs) Q E s₁:=by
 obtain ⟨is,hl,e⟩:=Zhy (cl:=cl) (P:=w.params) (ord:=ord) ds s hI
 rw [layAllW,layW,e] at qQ
 dsimp only at qQ
 rw [layAllW] at qQ
 dsimp only at qQ
 obtain ⟨rfl,rfl⟩:=Prod.mk.inj (Zfs qQ)
 rw [F.size]
 generalize htk:(fun k=>s.toks+k)=tk at qQ hQ ⊢
 have hc:({ cls:=.type "list",data:=.seq (Jh is tk).toArray }:Obj)=Za (Jh is tk) 0:=rfl
 rw [hc] at hQ ⊢
 generalize hx:Jh is tk=xs at hQ ⊢
 have hxl:xs.length<=63:=by rw [← hx,Zhg,hl]; exact qk
 generalize hh:s.heap.push (Za xs 0)=h1 at hQ ⊢
 have hold:∀ b o,s.heap.get? b=some o->h1.get? b=some o:=fun b o e=>by rw [← hh]; exact Zyb _ e
 have hsc:h1.get? 827=some (Za xs 0):=by rw [← hh,← F.size]; exact Z42 _ rfl
 have hg5:∀ b,(Zjf h1 Gh).get? b=if b∈Gh then none else h1.get? b:=fun b=>Zfc h1 b Gh
 have O:Own (Zjf h1 Gh) [(46,Zbp),(762,Z9 773 20 none),(827,Za xs 0)] h1:=by
  refine ⟨fun b o e=>?_,fun p hp=>?_,(by decide:([46,762,827]:List Nat).Nodup),fun p hp=>?_⟩
  ·rw [hg5] at e
   by_cases m:b∈Gh
   ·rw [if_pos m] at e; cases e
   ·rw [if_neg m] at e; exact e
  ·simp only [X6,Zfp,Zfe] at hp
   rcases hp with rfl | rfl | rfl
   ·exact hold _ _ (F.tbl _ (.head _))
   ·exact hold _ _ (F.tbl _ (.tail _ (.head _)))
   ·exact hsc
  ·rw [hg5]
   refine if_pos ?_
   simp only [X6,Zfp,Zfe] at hp
   rcases hp with rfl | rfl | rfl<;>simp [Gh]
 have G:Mine.Ground T2 (wb w (w.params.followText "special-get-raises")) (Zjf h1 Gh):=by
  rw [Zlc]
  refine ⟨fun a o e=>?_,?_⟩
  ·rw [Z8b] at e
   have m:=Zax e
   have z:=Zfh.mp (Zjr (hzP w.params)) _ m
   rw [hg5,if_neg ?_]
   ·exact hold _ _ (F.top _ m)
   ·intro q
    change (!Gh.contains a)=true at z
    rw [List.contains_iff_mem.mpr q] at z
    exact Bool.noConfusion z
  ·obtain ⟨mc,⟨o,es,ep,e,r⟩,hn⟩:=NL
   exact ⟨mc,⟨o,es,ep,by rw [hg5,if_neg (by decide)]; exact hold _ _ e,r⟩,hn⟩
 have T:∀ b o,s.heap.get? b=some o->h1.get? b=some o:=hold
 have tabs:=Zpa (h:=h1) (w:=w) fun p hp=>hold _ _ (F.top p hp)
 have law:=Zn9 (prog:=hP) (w:=w) (b:=w.params.followText "special-get-raises") (ys:=is.take 10) (xs:=xs) (tk:=tk) (by rw [← hx,Zfd]) (Zn hxl (by decide)) Zio G (sc:=827) (ep:=0) (l:=[])
  (h:=h1) (t:=s.toks+ds.length) (g:=s.gens) (r:=⟨s.drawn,s.os⟩) (Q:=Q) (E:=E) O ?_
 ·rw [Zlc] at law
  exact law
 ·intro n tb h' t' g' O' hgr
  have hk:=O'.keep
  have ht:=O'.own
  refine hQ _ ⟨fun b o e=>?_,fun b o e=>?_⟩ rfl (hgr.2 (.of_eq hgens))
  ·by_cases m:b∈Gh
   ·simp only [Gh,X6,Zfp,Zfe] at m
    rcases m with rfl | rfl | rfl
    ·have q:=(O.own _ (.head _)).symm.trans e
     cases q
     exact Z3c (tabs _ (.head _)) (ht _ (.head _))
    ·have q:=(O.own _ (.tail _ (.head _))).symm.trans e
     cases q
     exact Z3c (tabs _ (.tail _ (.head _))) (ht _ (.tail _ (.head _)))
    ·have q:=hsc.symm.trans e
     cases q
     exact .inl (ht _ (.tail _ (.tail _ (.head _))))
   ·exact .inl (hk b o (by rw [hg5,if_neg m]; exact e))
  ·by_cases m:b∈Gh
   ·simp only [Gh,X6,Zfp,Zfe] at m
    rcases m with rfl | rfl | rfl
    ·exact ⟨_,ht _ (.head _)⟩
    ·exact ⟨_,ht _ (.tail _ (.head _))⟩
    ·exact ⟨_,ht _ (.tail _ (.tail _ (.head _)))⟩
   ·exact ⟨o,hk b o (by rw [hg5,if_neg m]; exact e)⟩
end
section
open PySem PySem.W PySem.W.X PySem.Calls PyProof.Rows
noncomputable abbrev hR:RowW:=PySem.Challenge.rw_ij0140_01.row.toRowW
theorem Zu8:opensWell hP=true:=by decide +kernel
theorem Zo8:chainsOk hQ=true:=by kernel_rfl
theorem Z05:hP.bare:=⟨rfl,rfl,rfl,rfl,rfl,by decide +kernel⟩
theorem Z68:∃ d kwd,defOf hQ "law" = some (d,kwd)/\hP.theDef "law" = some (d.params,d.body,d.scope)/\kwWritten? d.params.kwonlyargs d.params.kw_defaults=some kwd:=⟨_,_,by rfl,by rfl,by rfl⟩
end
section
open PySem PySem.W PySem.W.X PySem.Calls PyProof.Rows
theorem Z69 {ds:List WData} (h:hR.pre.holds hR.records { args:=[.list ds] }=true):ds.length<=63:=by
 have e:hR.pre.holds hR.records { args:=[.list ds] }=(WTm.and (.not (.lit (.bool (decide ((63:Int) < ds.length))))) (.lit (.bool true))).holds hR.records { args:=[.list ds] }:=by kernel_rfl
 rw [e] at h
 by_cases q:(63:Int) < ds.length
 ·rw [Za7 q] at h
  have z:(WTm.and (.not (.lit (.bool true))) (.lit (.bool true))).holds hR.records { args:=[.list ds] }=false:=by kernel_rfl
  rw [z] at h
  exact Bool.noConfusion h
 ·lia
theorem Zos (args:List WData):hR.claim.post args (.bool true) args=true:=by
 kernel_rfl
theorem Z4u (args:List WData) (s₁ s':Shared) (cl:Str->Option Addr) (mean:ExcName->Option Value) (hK:OldK s₁.heap s'.heap) (ho:s'.os=s₁.os) (hb:AllBare s'.gens):GoodWG hR.claim cl mean args s₁ (.ok (.ret (.bool true))) s' :=
 ⟨.inl ⟨.bool true,.bool true,[],rfl,fun _=>rfl,.bool true,Zos args,fun _=>⟨List.nodup_nil,fun a ha=>nomatch ha⟩⟩,hK,ho,hb⟩
theorem law_is_kept:hR.claim.HoldsOpenBy (callStub hR.name) (if PySem.Challenge.rw_ij0140_01.row.pinned then [hR.name] else []) PySem.Challenge.rw_ij0140_01.row.keeps PySem.Challenge.rw_ij0140_01.row.writes:=by
 have left:=Zlg.behind (XP:=fun _ _=>True) (fun _ _=>trivial) Zo8
 refine ⟨⟨Z05,Zu8,rfl⟩,law_prom.witness,fun w=>⟨(left w).1,fun s' hs'=>?_⟩⟩
 obtain ⟨s₀,hf,hg0,s,hT,hz,hgens,hg,G,y⟩:=(left w).2 s' hs'
 have hgens:s.gens=#[]:=Array.eq_empty_of_size_eq_zero (beq_iff_eq.mp hgens)
 obtain ⟨F,hlaw⟩:=Zna y
 refine ⟨s₀,hf,hg0,s,hT,fun n hn=>?_,(fun x hx=>nomatch hx),(fun x hx=>nomatch hx),?_⟩
 ·obtain rfl:n = "law" := Ur.mp hn
  obtain ⟨d,kwd,a,b,c⟩:=Z68
  exact pinned_of_view hg G a b c
 ·refine ClaimW.callFrom_of_specG (c:=hR.claim) hz hgens fun args hpre hlay ord hord=>?_
  obtain ⟨hsh,hpr⟩:=pre_splitW hpre
  obtain ⟨d,r,rfl,h1,h2⟩:=hasAllW_cons hsh
  obtain rfl:=hasAllW_nil h2
  obtain ⟨ds,rfl,hI⟩:=hasW_list h1
  have qk:=Z69 hpr
  obtain ⟨⟨vs,s₁⟩,qQ⟩:=Option.isSome_iff_exists.mp (layAllW_isSome (P:=w.params) (ord:=ord) G.has _ hR.args s hsh)
  have keeps:=layAllW_keeps _ _ _ qQ
  have hal:=layAllW_rest _ _ _ qQ
  obtain ⟨as,hrd,hin,hold⟩:=reads_layAllW hord _ _ _ qQ hlay s₁.heap (fun _ _ e=>e)
  have L:Laid hR.records w s s₁ _ vs as:=⟨⟨ord,hord,qQ⟩,hrd,hin,hold,keeps,hal.1.trans hgens,hal.2.2.1⟩
  have G₁:=G.keeps (fun _ _ _ _ _=>trivial) keeps
  refine ⟨vs,s₁,qQ,?_⟩
  refine Zi (wpAny_nsGet G₁.T.g ?_)
  rw [show s.heap.nsMap mainGlobals hR.name=some (.ref 826) from hlaw]
  refine Zi (Zmu F G.T.nolimit hgens hI qk qQ fun s' hK ho hb=>?_)
  refine Yo ⟨_,rfl,?_⟩
  have z:=(Z4u _ s₁ s' (classAt s.heap) (ExcName.means s.heap) hK ho hb).laid (c:=hR.claim) rfl rfl (ident_freeW rfl rfl rfl) L
  exact ⟨z.1,z.2.1,z.2.2,fun q=>Bool.noConfusion q⟩
end
end Mine
theorem PySem.Challenge.cw_ij0140_01_holds : PySem.Challenge.rw_ij0140_01.Holds :=
  ⟨Mine.law_ws, PySem.W.row_said Mine.law_ws, Mine.law_prom, Mine.law_is_kept⟩
