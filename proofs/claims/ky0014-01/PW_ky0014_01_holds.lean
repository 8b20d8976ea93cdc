import PyProof.Rows.All
import Wide.All
import OpenK.AllK
import Wide.FinOn
import PySem.Challenge.RW_ky0014_01
open PySem PySem.W PySem.Calls PyProof.Rows PySem.Spec
set_option Elab.async false
set_option maxRecDepth 100000
set_option maxHeartbeats 8000000
set_option genInjectivity false
set_option genSizeOf false
set_option genSizeOfSpec false
set_option bootstrap.genMatcherCode false
set_option tactic.hygienic false
namespace Mine
theorem ins_some (o:Obj):∀ (t:BT) (a:Nat),(∀ i,i < a→(t.get i).isSome=true)→((t.ins a o).get a).isSome=true
 | .nil,a,h=>by
  cases a with
  | zero=>rfl
  | succ a=>have:=h 0 (Nat.succ_pos a);simp [BT.get] at this
 | .node v l r,a,h=>by
  rw [BT.ins_node]
  by_cases e:a=0
  ·rw [if_pos e,BT.get_node,if_pos e];rfl
  ·rw [if_neg e]
   by_cases q:a % 2=1
   ·rw [if_pos q,BT.get_node,if_neg e,if_pos q]
    refine ins_some o l (a / 2) fun i hi=>?_
    have:=h (2 * i + 1) (Nat.le_trans (Nat.mul_le_mul_left 2 hi) (Nat.mul_div_le a 2))
    rw [BT.get_node,if_neg (Nat.succ_ne_zero _),if_pos (Nat.mul_add_mod 2 i 1)] at this
    rwa [show (2 * i + 1) / 2=i from Nat.mul_add_div (by decide) i 1] at this
   ·rw [if_neg q,BT.get_node,if_neg e,if_neg q]
    refine ins_some o r (a / 2 - 1) fun i hi=>?_
    have:=h (2 * i + 2) (Nat.lt_of_lt_of_le (Nat.lt_add_of_pos_right Nat.zero_lt_two) (Nat.le_trans (Nat.mul_le_mul_left 2 (Nat.add_lt_of_lt_sub hi)) (Nat.mul_div_le a 2)))
    rw [BT.get_node,if_neg (Nat.succ_ne_zero _),if_neg (by rw [Nat.mul_add_mod];decide)] at this
    rwa [show (2 * i + 2) / 2 - 1=i by rw [Nat.mul_add_div (by decide)];rfl] at this
noncomputable def grow:List Obj→BT→Nat→BT
 | [],t,_=>t
 | o :: r,t,n=>grow r (t.ins n o) (n + 1)
theorem grow_abs (life:Life):∀ (l:List Obj) (t:BT) (n:Nat),(∀ i,i < n→(t.get i).isSome=true)→absHeap (grow l t n) (n + l.length) life=⟨(absHeap t n life).objs ++ l.toArray,life⟩
 | [],t,n,_=>by show absHeap t n life=_;simp [absHeap]
 | o :: r,t,n,h=>by
  have hs:=ins_some o t n h
  have e:n + (o :: r).length=(n + 1) + r.length:=Nat.add_right_comm n r.length 1
  show absHeap (grow r (t.ins n o) (n + 1)) _ life=_
  rw [e,grow_abs life r (t.ins n o) (n + 1) (fun i hi=>?_),absHeap_ins hs]
  ·show Heap.mk ((absHeap t n life).objs.push o ++ r.toArray) life=_
   simp
  ·rw [BT.get_ins o t n hs]
   by_cases e:i=n
   ·rw [if_pos e];rfl
   ·rw [if_neg e];exact h i (Nat.lt_of_le_of_ne (Nat.le_of_lt_succ hi) e)
noncomputable def toT (s:Shared):SharedT:=⟨grow s.heap.objs.toList .nil 0,s.heap.objs.toList.length,s.heap.life,s.gens,s.drawn,s.toks,s.os⟩
theorem toT_abs (s:Shared):(toT s).abs=s:=by
 have:=grow_abs s.heap.life s.heap.objs.toList .nil 0 (fun i hi=>absurd hi (Nat.not_lt_zero i))
 rw [Nat.zero_add] at this
 unfold toT SharedT.abs
 dsimp only
 rw [this]
 simp [absHeap,BT.list]
noncomputable def impT (den:Code→Sem Fin) (p:Program) (w:World):Nat→SharedT→Thread→Option SharedT
 | 0,_,_=>none
 | n + 1,s,t=>match t.atExitBegin with
  | some []=>some s
  | some _=>none
  | none=>match stepT den p w s t with
   | some (s',t')=>impT den p w n s' t'
   | none=>none
theorem impT_of {tb:String→Option Builtin} {p:Program} {w:World}:∀ {n:Nat} {s s':SharedT} {t:Thread},impT (denote tb) p w n s t=some s'→importEnds tb p w n s.abs t=some s'.abs
 | 0,_,_,_,h=>by cases h
 | n + 1,s,s',t,h=>by
  unfold impT at h
  unfold importEnds
  cases he:t.atExitBegin with
  | some x =>
   rw [he] at h
   cases x with
   | nil=>cases h;rfl
   | cons=>cases h
  | none =>
   rw [he] at h
   cases hs:stepT (denote tb) p w s t with
   | none=>rw [hs] at h;cases h
   | some r=>obtain ⟨s₂,t₂⟩:=r;rw [hs] at h;dsimp only;rw [stepT_spec hs];exact impT_of h
noncomputable def topT (den:Code→Sem Fin) (p:Program) (w:World) (n₀:Nat) (ann:Option Value):Nat→SharedT→Thread→Option SharedT
 | 0,_,_=>none
 | n + 1,s,t=>match through t with
  | true=>some s
  | false=>match stepOk n₀ ann t with
   | false=>none
   | true=>match stepT den p w s t with
    | some (s',t')=>topT den p w n₀ ann n s' t'
    | none=>none
theorem topT_of {tb:String→Option Builtin} {p:Program} {w:World} {n₀:Nat} {ann:Option Value}:∀ {n:Nat} {s s':SharedT} {t:Thread},topT (denote tb) p w n₀ ann n s t=some s'→topRun tb p w n₀ ann n s.abs t=some s'.abs
 | 0,_,_,_,h=>by cases h
 | n + 1,s,s',t,h=>by
  unfold topT at h
  unfold topRun
  cases he:through t with
  | true=>rw [he] at h;cases h;rfl
  | false =>
   rw [he] at h
   cases hk:stepOk n₀ ann t with
   | false=>rw [hk] at h;cases h
   | true =>
    rw [hk] at h
    cases hs:stepT (denote tb) p w s t with
    | none=>rw [hs] at h;cases h
    | some r=>obtain ⟨s₂,t₂⟩:=r;rw [hs] at h;dsimp only;rw [stepT_spec hs];exact topT_of h
theorem den_eq:denote treeTable=PySem.W.Fast.tw11892475500146522536 PySem.W.Fast.tw14364793385576792824:=by
 rw [PySem.W.Fast.te11892475500146522536,PySem.W.Fast.te14364793385576792824]
noncomputable def getT (st:SharedT) (a:Nat):Option Obj:=match Nat.blt a st.n with
 | true=>alive ((st.tree.get a).getD default)
 | false=>none
theorem getT_eq (st:SharedT) (a:Nat):st.abs.heap.get? a=getT st a:=by
 unfold getT SharedT.abs
 dsimp only
 cases h:Nat.blt a st.n with
 | true =>
  have h':a < st.n:=by simpa [Nat.blt_eq] using h
  unfold Heap.get?
  rw [absHeap_at,if_pos h']
  show (match some ((st.tree.get a).getD default) with | some ⟨_,_,.freed,_⟩=>none | o=>o)=alive _
  generalize (st.tree.get a).getD default=o
  obtain ⟨c,d,dt,sl⟩:=o
  cases dt <;> rfl
 | false =>
  have h':¬ a < st.n:=by
   intro h9
   rw [← Nat.blt_eq] at h9
   rw [h9] at h;cases h
  exact abs_get_none h'
theorem mapT_eq (st:SharedT) (as:List Nat):as.map st.abs.heap.get?=as.map (getT st):=by
 have:st.abs.heap.get?=getT st:=funext fun a=>getT_eq st a
 rw [this]
noncomputable abbrev pw:Program:=PySem.Challenge.pw_ky0014_01
noncomputable def headO (q:Program) (loose:List Str) (Xt:Shared→Bool) {α β:Type} (Yt:SharedT→α) (den:Code→Sem Fin) (seenQ:Program→List Str→List Str→(Shared→Bool)→Bool→Shared→β) (w:World) (N:Nat):Option (β×α) :=
 match impT den (opening pw) w N (toT (start (opening pw)).1) (start (opening pw)).2 with
 | none=>none
 | some s=>match fenceModules? pw s.abs with
  | none=>none
  | some s₀=>match s₀.heap.isNs mainGlobals && s₀.gens.size == 0 with
   | false=>none
   | true=>match topT den pw w s₀.heap.objs.size (s₀.heap.nsMap mainGlobals "__annotations__") N (toT s₀) (topStub pw) with
    | none=>none
    | some st=>match staticsOk (importedModules pw.main.body) s₀.heap st.abs.heap && namesBound pw st.abs.heap && gensDone st.abs && laidKept s₀.heap st.abs.heap with
     | false=>none
     | true=>some (seenQ q loose (importedModules pw.main.body) Xt true st.abs,Yt st)
theorem left_of {q:Program} {loose:List Str} {Xt:Shared→Bool} {α:Type} {Yf:Shared→α} {Ya:World→α} {w:World} {N:Nat} (Yt:SharedT→α) (hY:∀ st,Yf st.abs=Yt st)
  (h:headO q loose Xt Yt (PySem.W.Fast.tw11892475500146522536 PySem.W.Fast.tw14364793385576792824) PySem.W.Fast.tw4187177175401517315 w N=some (openGood q loose,Ya w)) :
  (openEnds treeTable pw w N).map (fun s=>(openSeen q loose (importedModules pw.main.body) Xt true s,Yf s))=some (openGood q loose,Ya w):=by
 rw [← den_eq,← PySem.W.Fast.te4187177175401517315] at h
 unfold headO at h
 unfold openEnds fencedOpening
 cases h1:impT (denote treeTable) (opening pw) w N (toT (start (opening pw)).1) (start (opening pw)).2 with
 | none=>rw [h1] at h;exact absurd h.symm (Option.some_ne_none _)
 | some s =>
  rw [h1] at h
  dsimp only at h
  have h2:=impT_of h1
  rw [toT_abs] at h2
  rw [h2]
  show (((fenceModules? pw s.abs).bind (topFrom treeTable pw w N)).map _)=_
  cases h3:fenceModules? pw s.abs with
  | none=>rw [h3] at h;exact absurd h.symm (Option.some_ne_none _)
  | some s₀ =>
   rw [h3] at h
   dsimp only at h
   show ((topFrom treeTable pw w N s₀).map _)=_
   unfold topFrom
   cases h4:(s₀.heap.isNs mainGlobals && s₀.gens.size == 0) with
   | false=>rw [h4] at h;exact absurd h.symm (Option.some_ne_none _)
   | true =>
    rw [h4] at h
    dsimp only at h ⊢
    cases h5:topT (denote treeTable) pw w s₀.heap.objs.size (s₀.heap.nsMap mainGlobals "__annotations__") N (toT s₀) (topStub pw) with
    | none=>rw [h5] at h;exact absurd h.symm (Option.some_ne_none _)
    | some st =>
     rw [h5] at h
     dsimp only at h
     have h6:=topT_of h5
     rw [toT_abs] at h6
     rw [h6]
     show ((match staticsOk (importedModules pw.main.body) s₀.heap st.abs.heap && namesBound pw st.abs.heap && gensDone st.abs && laidKept s₀.heap st.abs.heap with | true=>some st.abs | false=>none).map _)=_
     cases h7:(staticsOk (importedModules pw.main.body) s₀.heap st.abs.heap && namesBound pw st.abs.heap && gensDone st.abs && laidKept s₀.heap st.abs.heap) with
     | false=>rw [h7] at h;exact absurd h.symm (Option.some_ne_none _)
     | true =>
      rw [h7,← hY] at h
      exact h
noncomputable def vq:Program:={ pw with main:={ pw.main with body:=[0,1,2,4,5,9,11,12,13,14,15,16,17,18,19,21,22,23,24,25].filterMap fun i=>pw.main.body[i]? } }
noncomputable def vl:List Str:=["izip","xrange","izip_longest","array","_1SPERBYTE_00","_1SPERBYTE_01","_1SPERBYTE_02","_1SPERBYTE","BitSet","SortedIntSet"]
end Mine
local macro_rules | `(tactic| o_head (kmHook $k $a $e $_t)) => `(tactic| (refine holds_open (q := Mine.vq) (loose := Mine.vl) (Xt := fun s => xlAt Mine.vq [] s && recOk (RowW.records (OpenRow.toRowW PySem.Challenge.rw_ky0014_01.row)) s) (XP := XL Mine.vq []) (Yf := Hook.obs (kmHook $k $a $e [294, 308, 363, 478, 506, 589, 596])) (Ya := Hook.val (kmHook $k $a $e [294, 308, 363, 478, 506, 589, 596])) (YP := Hook.says (kmHook $k $a $e [294, 308, 363, 478, 506, 589, 596])) (N := 9052) ?hl (Hook.of (kmHook $k $a $e [294, 308, 363, 478, 506, 589, 596])) (Hook.keeps (kmHook $k $a $e [294, 308, 363, 478, 506, 589, 596])) (fun s e => xl_of s (Bool.and_eq_true_iff.mp e).1) XL.keeps (by rfl) (by rfl) (by rfl) (fun s e => recFacts_of (Bool.and_eq_true_iff.mp e).2) (by rfl) (by first | assumption | decide +kernel) (by decide +kernel) ⟨rfl, rfl, rfl, rfl, rfl, by decide +kernel⟩ ?hw ?hc; (case hl => exact fun w => Mine.left_of (fun st => (List.map (Mine.getT st) $a, List.map (Mine.getT st) [294, 308, 363, 478, 506, 589, 596])) (fun st => Prod.ext (Mine.mapT_eq st _) (Mine.mapT_eq st _)) (by kernel_rfl))))
local macro_rules | `(tactic| o_law) => `(tactic| (refine holds_law (by decide +kernel) fun said => ?_))
open_top hd for PySem.Challenge.rw_ky0014_01
namespace Mine
abbrev ZA := @List.getElem?_eq_getElem
abbrev ZB := @List.getElem?_eq_some_iff
abbrev ZC := @List.mem_append_right
abbrev ZD := @List.mem_append_left
abbrev ZE := @List.getD_eq_getElem?_getD
abbrev ZF := @List.mem_iff_getElem
abbrev ZG := @List.map_eq_nil_iff
abbrev ZH := @List.getElem?_append_left
abbrev ZI := @List.getElem?_append_right
abbrev ZJ := @Nat.le_of_ble_eq_true
abbrev ZK := @Option.some.inj
abbrev ZL := @wpAny_bind
abbrev ZM := @wpAny_pure
abbrev ZN := @List.prefix_refl
abbrev ZO := @List.prefix_append
abbrev ZP := @List.mem_singleton
abbrev ZQ := @List.mem_of_getElem?
abbrev ZR := @Heap.get?_push_of_some
abbrev ZS := @List.mem_append
abbrev ZT := @List.mem_cons
abbrev ZU := @Bool.and_eq_true_iff
abbrev ZV := @Heap.get?_update_self
abbrev ZW := @Nat.le_trans
abbrev ZX := @Nat.lt_of_le_of_lt
abbrev ZY := @Nat.lt_of_lt_of_le
abbrev ZZ := @Nat.le_refl
abbrev Za := @Nat.lt_of_lt_of_eq
abbrev Zb := @Nat.ne_of_lt
abbrev Zc := @List.mem_map
abbrev Zd := @List.mem_map_of_mem
abbrev Ze := @List.mem_filter
abbrev Zf := @Nat.zero_le
abbrev Zg := @Heap.lt_size
abbrev Zh := @List.getElem?_eq_none
abbrev Zi := @Heap.get?_update_other
abbrev Zj := @List.drop_eq_getElem_cons
abbrev Zk := @List.filter_eq_self
abbrev Zl := @List.length_append
abbrev Zm := @List.length_map
abbrev Zn := @List.length_set
abbrev Zo := @List.drop_eq_nil_of_le
abbrev Zp := @List.all_eq_true
abbrev Zq := @Nat.lt_or_ge
abbrev Zr := @Nat.le_of_lt
abbrev Zs := @Heap.get?_none_of_le
abbrev Zt := @Array.getElem?_eq_getElem
abbrev Zu := @Heap.get?_push_size
abbrev Zv := @List.length_take
abbrev Zw := @List.take_succ_eq_append_getElem
abbrev Zx := @Array.getElem?_eq_some_iff
abbrev Zy := @List.getElem?_take
abbrev Zz := @List.of_mem_zip
end Mine
namespace Mine
example (w : World) (h : Heap) : (hd.heap_1 w.params).In h->PySem.Challenge.rw_ky0014_01 = PySem.Challenge.rw_ky0014_01 :=by
 k_fill
 intro _
 rfl
inductive Tm|v(i:Nat)|z (i:Nat)|n (k:Nat)|add (a b:Tm)|mul (k:Nat) (a:Tm)|rml (a:Tm) (k:Nat)|sub (a b:Tm)|neg (a:Tm)|cast (a:Tm)
noncomputable def gt{α:Type}(d:α):List α->Nat->α
|[],_=>d
|a::_,0=>a
|_::l,i+1=>gt d l i
noncomputable def Tm.N(V:List Nat):Tm->Nat
|.v i=>gt 0 V i
|.n k=>k
|.add a b=>a.N V+b.N V
|.mul k a=>k*a.N V
|.rml a k=>a.N V*k
|_=>0
noncomputable def Tm.Z(V:List Nat)(W:List Int):Tm->Int
|.v _=>0
|.z i=>gt 0 W i
|.n k=>Int.ofNat k
|.add a b=>a.Z V W+b.Z V W
|.mul k a=>Int.ofNat k*a.Z V W
|.rml a k=>a.Z V W*Int.ofNat k
|.sub a b=>a.Z V W-b.Z V W
|.neg a=>- a.Z V W
|.cast a=>(a.N V:Int)
inductive Fm|le(b:Bool)(x y:Tm)|lt (b:Bool) (x y:Tm)|eq (b:Bool) (x y:Tm)|and (p q:Fm)|or (p q:Fm)|not (p:Fm)|iff (p q:Fm)|ff
noncomputable def Fm.P(V:List Nat)(W:List Int):Fm->Prop
|.le true x y=>x.N V<=y.N V
|.le false x y=>x.Z V W<=y.Z V W
|.lt true x y=>x.N V<y.N V
|.lt false x y=>x.Z V W<y.Z V W
|.eq true x y=>x.N V=y.N V
|.eq false x y=>x.Z V W=y.Z V W
|.and p q=>p.P V W/\q.P V W
|.or p q=>p.P V W\/q.P V W
|.not p=>¬ p.P V W
|.iff p q=>(p.P V W<->q.P V W)
|.ff=>False
noncomputable def rl:List Int->List Int->List Int
|[],q=>q
|a::p,[]=>a::p
|a::p,b::q=>(a+b)::rl p q
noncomputable def nM(k:Int):List Int->List Int
|[]=>[]
|a::p=>(k*a)::nM k p
noncomputable def mq:Nat->List Int
|0=>[1]
|i+1=>0::mq i
noncomputable def cg(E:Nat->Int):List Int->Nat->Int
|[],_=>0
|a::p,i=>a*E i+cg E p (i+1)
theorem cU(E:Nat->Int):∀(p q:List Int) (i:Nat),cg E (rl p q) i=cg E p i+cg E q i
|[],q,i=>(Int.zero_add _).symm
|a::p,[],i=>(Int.add_zero _).symm
|a::p,b::q,i=>by
  show (a+b)*E i+cg E (rl p q) (i+1)=(a*E i+cg E p (i+1))+(b*E i+cg E q (i+1))
  rw[cU E p q,Int.add_mul];omega
theorem bE(E:Nat->Int)(k:Int):∀(p:List Int) (i:Nat),cg E (nM k p) i=k*cg E p i
|[],i=>(Int.mul_zero _).symm
|a::p,i=>by
  show (k*a)*E i+cg E (nM k p) (i+1)=k*(a*E i+cg E p (i+1))
  rw[bE E k p,Int.mul_add,Int.mul_assoc]
theorem eF(E:Nat->Int):∀(j i:Nat),cg E (mq j) i=E (i+j)
|0,i=>by show 1*E i+0=E i;rw[Int.one_mul,Int.add_zero]
|j+1,i=>by show 0*E i+cg E (mq j) (i+1)=_;rw[eF E j,Int.zero_mul,Int.zero_add,Nat.add_right_comm];rfl
noncomputable def En(V:List Nat)(W:List Int):Nat->Int
|0=>1
|j+1=>bif j%2 == 0 then ((gt 0 V (j/2):Nat):Int) else gt 0 W (j/2)
theorem tm(V:List Nat)(W:List Int)(i:Nat):En V W (2*i+1)=((gt 0 V i:Nat):Int):=by
 show (bif 2*i%2 == 0 then ((gt 0 V (2*i/2):Nat):Int) else gt 0 W (2*i/2))=_
 rw[Nat.mul_mod_right,Nat.mul_div_cancel_left i (by decide)];rfl
theorem ub(V:List Nat)(W:List Int)(i:Nat):En V W (2*i+2)=gt 0 W i:=by
 show (bif (2*i+1)%2 == 0 then ((gt 0 V ((2*i+1)/2):Nat):Int) else gt 0 W ((2*i+1)/2))=_
 rw[Nat.mul_add_mod,Nat.mul_add_div (by decide)];rfl
noncomputable def Tm.L(b:Bool):Tm->List Int
|.v i=>bif b then mq (2*i+1) else []
|.z i=>bif b then [] else mq (2*i+2)
|.n k=>[Int.ofNat k]
|.add x y=>rl (x.L b) (y.L b)
|.mul k x=>nM k (x.L b)
|.rml x k=>nM k (x.L b)
|.sub x y=>bif b then [] else rl (x.L b) (nM (-1) (y.L b))
|.neg x=>bif b then [] else nM (-1) (x.L b)
|.cast x=>bif b then [] else x.L true
theorem ry(V:List Nat)(W:List Int)(k:Nat):cg (En V W) [Int.ofNat k] 0=(k:Int):=by
 show Int.ofNat k*1+0=_
 rw[Int.add_zero,Int.mul_one];rfl
theorem Tm.okN(V:List Nat)(W:List Int):∀t:Tm,cg (En V W) (t.L true) 0=(t.N V:Int)
|.v i=>(eF _ _ 0).trans ((congrArg _ (Nat.zero_add _)).trans (tm V W i))
|.z _=>rfl
|.n k=>ry V W k
|.add x y=>(cU _ _ _ 0).trans ((congr (congrArg _ (Tm.okN V W x)) (Tm.okN V W y)).trans (Int.natCast_add _ _).symm)
|.mul k x=>(bE _ _ _ 0).trans ((congrArg _ (Tm.okN V W x)).trans (Int.natCast_mul _ _).symm)
|.rml x k=>(bE _ _ _ 0).trans ((congrArg _ (Tm.okN V W x)).trans ((Int.mul_comm _ _).trans (Int.natCast_mul _ _).symm))
|.sub ..=>rfl
|.neg _=>rfl
|.cast _=>rfl
theorem Tm.okZ(V:List Nat)(W:List Int):∀t:Tm,cg (En V W) (t.L false) 0=t.Z V W
|.v i=>rfl
|.z i=>(eF _ _ 0).trans ((congrArg _ (Nat.zero_add _)).trans (ub V W i))
|.n k=>ry V W k
|.add x y=>(cU _ _ _ 0).trans (congr (congrArg _ (Tm.okZ V W x)) (Tm.okZ V W y))
|.mul k x=>(bE _ _ _ 0).trans (congrArg _ (Tm.okZ V W x))
|.rml x k=>(bE _ _ _ 0).trans ((congrArg _ (Tm.okZ V W x)).trans (Int.mul_comm _ _))
|.sub x y=>by
  refine(cU _ _ _ 0).trans ?_
  rw[bE,Tm.okZ V W x,Tm.okZ V W y,Int.neg_mul,Int.one_mul];rfl
|.neg x=>by
  refine(bE _ _ _ 0).trans ?_
  rw[Tm.okZ V W x,Int.neg_mul,Int.one_mul];rfl
|.cast x=>Tm.okN V W x
noncomputable def df(b:Bool)(x y:Tm)(k:Int):List Int:=rl (x.L b) (rl (nM (-1) (y.L b)) [k])
noncomputable def pro(d e:List (List (List Int))):List (List (List Int)):=d.flatMap fun c=>e.map fun c'=>c++c'
noncomputable def Fm.D:Fm->Bool->List (List (List Int))
|.le b x y,true=>[[df b x y 0]]
|.le b x y,false=>[[df b y x 1]]
|.lt b x y,true=>[[df b x y 1]]
|.lt b x y,false=>[[df b y x 0]]
|.eq b x y,true=>[[df b x y 0,df b y x 0]]
|.eq b x y,false=>[[df b x y 1],[df b y x 1]]
|.and p q,true=>pro (p.D true) (q.D true)
|.and p q,false=>p.D false++q.D false
|.or p q,true=>p.D true++q.D true
|.or p q,false=>pro (p.D false) (q.D false)
|.not p,b=>p.D !b
|.iff p q,true=>pro (p.D true) (q.D true)++pro (p.D false) (q.D false)
|.iff p q,false=>pro (p.D true) (q.D false)++pro (p.D false) (q.D true)
|.ff,b=>bif b then [] else [[]]
def mm(E:Nat->Int)(d:List (List (List Int))):Prop:=∃c,c∈d/\∀p,p∈c->cg E p 0<=0
theorem mm.pro{E:Nat->Int}{d e:List (List (List Int))}:mm E d->mm E e->mm E (pro d e)
|⟨c,h1,h2⟩,⟨c',h3,h4⟩=>⟨c++c',List.mem_flatMap.mpr ⟨c,h1,Zd h3⟩,fun p hp=>(ZS.mp hp).elim (h2 p) (h4 p)⟩
theorem mm.l{E:Nat->Int}{d e:List (List (List Int))}:mm E d->mm E (d++e)
|⟨c,h1,h2⟩=>⟨c,ZD _ h1,h2⟩
theorem mm.r{E:Nat->Int}{d e:List (List (List Int))}:mm E e->mm E (d++e)
|⟨c,h1,h2⟩=>⟨c,ZC _ h1,h2⟩
theorem mm.one{E:Nat->Int}{p:List Int}(h:cg E p 0<=0):mm E [[p]]:=⟨_,.head _,fun _ hp=>ZP.mp hp▸h⟩
theorem oR(V:List Nat)(W:List Int)(b:Bool)(x y:Tm)(k:Int):cg (En V W) (df b x y k) 0=cg (En V W) (x.L b) 0-cg (En V W) (y.L b) 0+k:=by
 refine(cU _ _ _ 0).trans ?_
 rw[cU,bE,Int.neg_mul,Int.one_mul,<- Int.add_assoc]
 show _+(k*1+0)=_
 rw[Int.mul_one,Int.add_zero];rfl
theorem fb{V:List Nat}{W:List Int}{b:Bool}{x y:Tm}(h:cg (En V W) (x.L b) 0<=cg (En V W) (y.L b) 0):cg (En V W) (df b x y 0) 0<=0:=by
 rw[oR];omega
theorem e7{V:List Nat}{W:List Int}{b:Bool}{x y:Tm}(h:cg (En V W) (x.L b) 0<cg (En V W) (y.L b) 0):cg (En V W) (df b x y 1) 0<=0:=by
 rw[oR];omega
noncomputable def Sg(p:Prop):Bool->Prop
|true=>p
|false=>¬ p
theorem ui(V:List Nat)(W:List Int)(b:Bool)(x y:Tm){R:Int->Int->Prop}(h:R (cg (En V W) (x.L b) 0) (cg (En V W) (y.L b) 0)):match b with|true=>R (x.N V) (y.N V)|false=>R (x.Z V W) (y.Z V W):=by
 cases b
 ·rw[Tm.okZ,Tm.okZ] at h;exact h
 ·rw[Tm.okN,Tm.okN] at h;exact h
theorem Fm.ok(V:List Nat)(W:List Int):∀(f:Fm) (b:Bool),Sg (f.P V W) b->mm (En V W) (f.D b)
|.le true x y,true,h=>.one (fb (by rw[Tm.okN,Tm.okN];exact Int.ofNat_le.mpr h))
|.le false x y,true,h=>.one (fb (by rw[Tm.okZ,Tm.okZ];exact h))
|.le true x y,false,h=>.one (e7 (by rw[Tm.okN,Tm.okN];exact Int.ofNat_lt.mpr (Nat.lt_of_not_le h)))
|.le false x y,false,h=>.one (e7 (by rw[Tm.okZ,Tm.okZ];exact Int.lt_of_not_ge h))
|.lt true x y,true,h=>.one (e7 (by rw[Tm.okN,Tm.okN];exact Int.ofNat_lt.mpr h))
|.lt false x y,true,h=>.one (e7 (by rw[Tm.okZ,Tm.okZ];exact h))
|.lt true x y,false,h=>.one (fb (by rw[Tm.okN,Tm.okN];exact Int.ofNat_le.mpr (Nat.le_of_not_lt h)))
|.lt false x y,false,h=>.one (fb (by rw[Tm.okZ,Tm.okZ];exact Int.not_lt.mp h))
|.eq b x y,true,h=>by
  have e:cg (En V W) (x.L b) 0=cg (En V W) (y.L b) 0:=by
   cases b
   ·rw[Tm.okZ,Tm.okZ];exact h
   ·rw[Tm.okN,Tm.okN];exact congrArg _ h
  exact⟨_,.head _,fun p hp=>(ZT.mp hp).elim (fun q=>q▸fb (Int.le_of_eq e)) fun q=>ZP.mp q▸fb (Int.le_of_eq e.symm)⟩
|.eq b x y,false,h=>by
  have e:cg (En V W) (x.L b) 0≠cg (En V W) (y.L b) 0:=by
   cases b
   ·rw[Tm.okZ,Tm.okZ];exact h
   ·rw[Tm.okN,Tm.okN];exact fun q=>h (Int.ofNat_inj.mp q)
  rcases Int.lt_or_gt_of_ne e with q|q
  ·exact .l (e:=[_]) (.one (e7 q))
  ·exact .r (d:=[_]) (.one (e7 q))
|.and p q,true,h=>.pro (Fm.ok V W p true h.1) (Fm.ok V W q true h.2)
|.and p q,false,h=>(Classical.not_and_iff_not_or_not.mp h).elim (fun k=>.l (Fm.ok V W p false k)) fun k=>.r (Fm.ok V W q false k)
|.or p q,true,h=>h.elim (fun k=>.l (Fm.ok V W p true k)) fun k=>.r (Fm.ok V W q true k)
|.or p q,false,h=>.pro (Fm.ok V W p false fun k=>h (.inl k)) (Fm.ok V W q false fun k=>h (.inr k))
|.not p,true,h=>Fm.ok V W p false h
|.not p,false,h=>Fm.ok V W p true (Classical.not_not.mp h)
|.iff p q,true,h=>(Classical.em (p.P V W)).elim (fun k=>.l (.pro (Fm.ok V W p true k) (Fm.ok V W q true (h.mp k)))) fun k=>.r (.pro (Fm.ok V W p false k) (Fm.ok V W q false fun j=>k (h.mpr j)))
|.iff p q,false,h=>(Classical.em (p.P V W)).elim (fun k=>.l (.pro (Fm.ok V W p true k) (Fm.ok V W q false fun j=>h ⟨fun _=>j,fun _=>k⟩))) fun k=>.r (.pro (Fm.ok V W p false k) (Fm.ok V W q true (Classical.byContradiction fun j=>h ⟨fun i=>(k i).elim,fun i=>(j i).elim⟩)))
|.ff,true,h=>h.elim
|.ff,false,_=>⟨[],.head _,fun _ h=>nomatch h⟩
noncomputable def uA:List Int->Bool
|[]=>false
|c::r=>decide (0<c)&&r.all (· == 0)
noncomputable def gd:List Int->Nat
|[]=>0
|a::r=>Nat.gcd a.natAbs (gd r)
noncomputable def tg:List Int->List Int
|[]=>[]
|c::r=>bif decide (1<gd r)&&r.all (· % (gd r:Int) == 0) then (-((-c)/(gd r:Int)))::r.map (· / (gd r:Int)) else c::r
noncomputable def el(k:Nat)(ps:List (List Int)):List (List Int):=(ps.filter fun p=>gt 0 p k == 0)++(ps.filter fun p=>decide (0<gt 0 p k)).flatMap fun p=>(ps.filter fun q=>decide (gt 0 q k<0)).map fun q=>tg (rl (nM (- gt 0 q k) p) (nM (gt 0 p k) q))
noncomputable def fm:Nat->List (List Int)->Bool
|0,ps=>ps.any uA
|k+1,ps=>fm k (el (k+1) ps)
theorem l5(E:Nat->Int)(g:Int):∀(r:List Int) (i:Nat),r.all (· % g == 0)=true->cg E (r.map (· / g)) i*g=cg E r i
|[],_,_=>Int.zero_mul _
|a::r,i,h=>by
  have h:=ZU.mp h
  have e:g*(a/g)=a:=Int.mul_ediv_cancel' (Int.dvd_of_emod_eq_zero (eq_of_beq h.1))
  show (a/g*E i+cg E (r.map (· / g)) (i+1))*g=a*E i+cg E r (i+1)
  rw[Int.add_mul,l5 E g r _ h.2,Int.mul_right_comm,Int.mul_comm _ g,e]
theorem sT{E:Nat->Int}(hE:E 0=1){p:List Int}(h:cg E p 0<=0):cg E (tg p) 0<=0:=by
 cases p with
|nil=>exact h
|cons c r =>
  refine(?_:∀b:Bool,(decide (1<gd r)&&r.all (· % (gd r:Int) == 0))=b->cg E (bif b then (-((-c)/(gd r:Int)))::r.map (· / (gd r:Int)) else c::r) 0<=0) _ rfl
  intro b e
  cases b with
 |false=>exact h
 |true =>
   have e:=ZU.mp e
   have h:c*E 0+cg E r 1<=0:=h
   show -((-c)/(gd r:Int))*E 0+cg E (r.map (· / (gd r:Int))) 1<=0
   rw[hE,Int.mul_one] at h ⊢
   have:=Int.le_ediv_of_mul_le (Int.ofNat_lt.mpr (Nat.lt_of_succ_lt (of_decide_eq_true e.1))) (a:=cg E (r.map (· / (gd r:Int))) 1) (b:=-c) (by rw[l5 E _ r 1 e.2];exact Int.le_of_sub_nonpos (by rw[Int.sub_neg,Int.add_comm];exact h))
   rw[Int.add_comm]
   exact Int.sub_nonpos_of_le this
theorem j0(E:Nat->Int):∀(r:List Int) (i:Nat),r.all (· == 0)=true->cg E r i=0
|[],_,_=>rfl
|a::r,i,h=>by
  have:=ZU.mp h
  show a*E i+cg E r (i+1)=0
  rw[eq_of_beq this.1,Int.zero_mul,j0 E r _ this.2];rfl
theorem rt{E:Nat->Int}(hE:E 0=1):∀(k:Nat) (ps:List (List Int)),(∀p,p∈ps->cg E p 0<=0)->fm k ps=true->False
|0,ps,H,h=>by
  obtain⟨p,hp,hb⟩:=List.any_eq_true.mp h
  have:=H p hp
  cases p with
 |nil=>exact nomatch hb
 |cons c r =>
   have hb:=ZU.mp hb
   have h2:c*E 0+cg E r 1<=0:=this
   rw[j0 E r 1 hb.2,hE,Int.mul_one,Int.add_zero] at h2
   exact Int.not_lt.mpr h2 (of_decide_eq_true hb.1)
|k+1,ps,H,h=>by
  refine rt hE k _ (fun p hp=>?_) h
  rcases ZS.mp hp with hp|hp
  ·exact H p (Ze.mp hp).1
  ·obtain⟨a,ha,hp⟩:=List.mem_flatMap.mp hp
   obtain⟨b,hb,e⟩:=Zc.mp hp
   subst e
   have ha:=Ze.mp ha
   have hb:=Ze.mp hb
   refine sT hE ?_
   rw[cU,bE,bE]
   exact Int.add_le_add (b:=0) (d:=0) (Int.mul_nonpos_of_nonneg_of_nonpos (Int.neg_nonneg_of_nonpos (Int.le_of_lt (of_decide_eq_true hb.2))) (H a ha.1)) (Int.mul_nonpos_of_nonneg_of_nonpos (Int.le_of_lt (of_decide_eq_true ha.2)) (H b hb.1))
noncomputable def nn:Nat->List (List Int)
|0=>[]
|i+1=>nM (-1) (mq (2*i+1))::nn i
theorem rm(V:List Nat)(W:List Int):∀(k:Nat) (p:List Int),p∈nn k->cg (En V W) p 0<=0
|0,_,h=>nomatch h
|i+1,p,h=>by
  rcases ZT.mp h with rfl|h
  ·rw[bE,eF,Nat.zero_add,tm,Int.neg_mul,Int.one_mul]
   exact Int.neg_nonpos_of_nonneg (Int.natCast_nonneg _)
  ·exact rm V W i p h
noncomputable def tV(acc:List (List (List Int))):List Fm->Fm->List (List (List Int))
|[],g=>pro acc (g.D false)
|h::t,g=>tV (pro acc (h.D true)) t g
noncomputable def dQ(V:List Nat)(W:List Int):List Fm->Fm->Prop
|[],g=>g.P V W
|h::t,g=>h.P V W->dQ V W t g
noncomputable def ck(n m:Nat)(hs:List Fm)(g:Fm):Bool:=(tV [nn n] hs g).all (fm (2*m))
theorem rp(V:List Nat)(W:List Int)(m:Nat):∀(hs:List Fm) (g:Fm) (acc:List (List (List Int))),mm (En V W) acc->(tV acc hs g).all (fm (2*m))=true->dQ V W hs g
|[],g,acc,H,h=>Classical.byContradiction fun k=>by
  obtain⟨c,h1,h2⟩:=H.pro (Fm.ok V W g false k)
  exact rt rfl _ c h2 (Zp.mp h c h1)
|f::t,g,acc,H,h=>fun hf=>rp V W m t g _ (H.pro (Fm.ok V W f true hf)) h
theorem la(V:List Nat)(W:List Int)(n m:Nat)(hs:List Fm)(g:Fm)(h:ck n m hs g=true):dQ V W hs g:=rp V W m hs g _ ⟨_,.head _,rm V W n⟩ h
noncomputable def Tm.p:=Tm.add
noncomputable def Tm.k:=Tm.mul
noncomputable def Tm.r:=Tm.rml
noncomputable def Tm.s:=Tm.sub
noncomputable def Tm.j:=Tm.neg
noncomputable def Tm.t:=Tm.cast
noncomputable def Fm.d:=Fm.and
noncomputable def Fm.o:=Fm.or
noncomputable def Fm.x:=Fm.not
noncomputable def Fm.i:=Fm.iff
noncomputable def Fm.f:=Fm.ff
noncomputable def Fm.l:=Fm.lt true
noncomputable def Fm.m:=Fm.le true
noncomputable def Fm.e:=Fm.eq true
noncomputable def Fm.L:=Fm.lt false
noncomputable def Fm.M:=Fm.le false
noncomputable def Fm.E:=Fm.eq false
noncomputable def Tm.a:=Tm.v 0
noncomputable def Tm.b:=Tm.v 1
noncomputable def Tm.c:=Tm.v 2
noncomputable def Tm.d:=Tm.v 3
noncomputable def Tm.e:=Tm.v 4
noncomputable def Tm.f:=Tm.v 5
noncomputable def Tm.g:=Tm.v 6
noncomputable def Tm.h:=Tm.v 7
noncomputable def Tm.A:=Tm.z 0
noncomputable def Tm.B:=Tm.z 1
noncomputable def Tm.C:=Tm.z 2
noncomputable def Tm.D:=Tm.z 3
noncomputable def Tm.E:=Tm.z 4
noncomputable def Tm.u:=Tm.n 1
noncomputable def Tm.o:=Tm.n 0
noncomputable def Tm.w:=Tm.n 3
noncomputable def Tm.x:=Tm.n 20
noncomputable def Tm.y:=Tm.n 8
noncomputable def Tm.q:=Tm.n 1000
noncomputable def Tm.i:=Tm.n 9223372036854775808
noncomputable def Tm.l:=Tm.n 500
noncomputable def Tm.m:=Tm.n 100
noncomputable def Tm.G:=Tm.n 9000
noncomputable def Fm.S(x a b:Tm):Fm:=.o (.e (.p x b) a) (.d (.m a b) (.e x .o))
noncomputable def Fm.V(k:Nat)(x a:Tm):Fm:=.d (.m (.k k x) a) (.l a (.p (.k k x) (.n k)))
noncomputable def Fm.W(k:Nat)(x a:Tm):Fm:=.d (.M (.k k x) a) (.L a (.p (.k k x) (.n k)))
noncomputable def Fm.R(k:Nat)(y x a:Tm):Fm:=.d (.e (.p (.k k y) x) a) (.l x (.n k))
noncomputable def Fm.Q(k:Nat)(y x a:Tm):Fm:=.d (.E (.p (.k k y) x) a) (.d (.M .o x) (.L x (.n k)))
noncomputable def Fm.I(x a b:Tm):Fm:=.o (.d (.e x a) (.m a b)) (.d (.e x b) (.m b a))
noncomputable def Fm.U(x a b:Tm):Fm:=.o (.d (.e x b) (.m a b)) (.d (.e x a) (.m b a))
noncomputable def Fm.J(x a b:Tm):Fm:=.o (.d (.E x a) (.M a b)) (.d (.E x b) (.M b a))
noncomputable def Fm.K(x a b:Tm):Fm:=.o (.d (.E x b) (.M a b)) (.d (.E x a) (.M b a))
noncomputable def Fm.T(x z:Tm):Fm:=.o (.d (.M .o z) (.E (.t x) z)) (.d (.L z .o) (.e x .o))
theorem aO{O:Int}(hs:List Fm)(g:Fm)(h:ck 0 1 hs g=true:=by kernel_rfl):dQ [] [O] hs g:=la _ _ _ _ hs g h
theorem bo{O z1:Int}(hs:List Fm)(g:Fm)(h:ck 0 2 hs g=true:=by kernel_rfl):dQ [] [O,z1] hs g:=la _ _ _ _ hs g h
theorem dk{O z1 z2:Int}(hs:List Fm)(g:Fm)(h:ck 0 3 hs g=true:=by kernel_rfl):dQ [] [O,z1,z2] hs g:=la _ _ _ _ hs g h
theorem jN{O z1 z2 z3:Int}(hs:List Fm)(g:Fm)(h:ck 0 4 hs g=true:=by kernel_rfl):dQ [] [O,z1,z2,z3] hs g:=la _ _ _ _ hs g h
theorem r5{O z1 z2 z3 z4:Int}(hs:List Fm)(g:Fm)(h:ck 0 5 hs g=true:=by kernel_rfl):dQ [] [O,z1,z2,z3,z4] hs g:=la _ _ _ _ hs g h
theorem ai{a0:Nat}(hs:List Fm)(g:Fm)(h:ck 1 1 hs g=true:=by kernel_rfl):dQ [a0] [] hs g:=la _ _ _ _ hs g h
theorem aR{a0:Nat}{O:Int}(hs:List Fm)(g:Fm)(h:ck 1 1 hs g=true:=by kernel_rfl):dQ [a0] [O] hs g:=la _ _ _ _ hs g h
theorem aG{a0:Nat}{O z1:Int}(hs:List Fm)(g:Fm)(h:ck 1 2 hs g=true:=by kernel_rfl):dQ [a0] [O,z1] hs g:=la _ _ _ _ hs g h
theorem eZ{a0:Nat}{O z1 z2:Int}(hs:List Fm)(g:Fm)(h:ck 1 3 hs g=true:=by kernel_rfl):dQ [a0] [O,z1,z2] hs g:=la _ _ _ _ hs g h
theorem t8{a0:Nat}{O z1 z2 z3:Int}(hs:List Fm)(g:Fm)(h:ck 1 4 hs g=true:=by kernel_rfl):dQ [a0] [O,z1,z2,z3] hs g:=la _ _ _ _ hs g h
theorem tj{a0:Nat}{O z1 z2 z3 z4:Int}(hs:List Fm)(g:Fm)(h:ck 1 5 hs g=true:=by kernel_rfl):dQ [a0] [O,z1,z2,z3,z4] hs g:=la _ _ _ _ hs g h
theorem ah{a0 a1:Nat}(hs:List Fm)(g:Fm)(h:ck 2 2 hs g=true:=by kernel_rfl):dQ [a0,a1] [] hs g:=la _ _ _ _ hs g h
theorem c8{a0 a1:Nat}{O:Int}(hs:List Fm)(g:Fm)(h:ck 2 2 hs g=true:=by kernel_rfl):dQ [a0,a1] [O] hs g:=la _ _ _ _ hs g h
theorem t7{a0 a1:Nat}{O z1 z2:Int}(hs:List Fm)(g:Fm)(h:ck 2 3 hs g=true:=by kernel_rfl):dQ [a0,a1] [O,z1,z2] hs g:=la _ _ _ _ hs g h
theorem dj{a0 a1:Nat}{O z1:Int}(hs:List Fm)(g:Fm)(h:ck 2 2 hs g=true:=by kernel_rfl):dQ [a0,a1] [O,z1] hs g:=la _ _ _ _ hs g h
theorem t6{a0 a1:Nat}{O z1 z2 z3:Int}(hs:List Fm)(g:Fm)(h:ck 2 4 hs g=true:=by kernel_rfl):dQ [a0,a1] [O,z1,z2,z3] hs g:=la _ _ _ _ hs g h
theorem t4{a0 a1:Nat}{O z1 z2 z3 z4:Int}(hs:List Fm)(g:Fm)(h:ck 2 5 hs g=true:=by kernel_rfl):dQ [a0,a1] [O,z1,z2,z3,z4] hs g:=la _ _ _ _ hs g h
theorem av{a0 a1 a2:Nat}(hs:List Fm)(g:Fm)(h:ck 3 3 hs g=true:=by kernel_rfl):dQ [a0,a1,a2] [] hs g:=la _ _ _ _ hs g h
theorem ow{a0 a1 a2:Nat}{O:Int}(hs:List Fm)(g:Fm)(h:ck 3 3 hs g=true:=by kernel_rfl):dQ [a0,a1,a2] [O] hs g:=la _ _ _ _ hs g h
theorem r0{a0 a1 a2:Nat}{O z1:Int}(hs:List Fm)(g:Fm)(h:ck 3 3 hs g=true:=by kernel_rfl):dQ [a0,a1,a2] [O,z1] hs g:=la _ _ _ _ hs g h
theorem ti{a0 a1 a2:Nat}{O z1 z2 z3:Int}(hs:List Fm)(g:Fm)(h:ck 3 4 hs g=true:=by kernel_rfl):dQ [a0,a1,a2] [O,z1,z2,z3] hs g:=la _ _ _ _ hs g h
theorem aJ{a0 a1 a2 a3:Nat}(hs:List Fm)(g:Fm)(h:ck 4 4 hs g=true:=by kernel_rfl):dQ [a0,a1,a2,a3] [] hs g:=la _ _ _ _ hs g h
theorem th{a0 a1 a2 a3:Nat}{O:Int}(hs:List Fm)(g:Fm)(h:ck 4 4 hs g=true:=by kernel_rfl):dQ [a0,a1,a2,a3] [O] hs g:=la _ _ _ _ hs g h
theorem tf{a0 a1 a2 a3:Nat}{O z1:Int}(hs:List Fm)(g:Fm)(h:ck 4 4 hs g=true:=by kernel_rfl):dQ [a0,a1,a2,a3] [O,z1] hs g:=la _ _ _ _ hs g h
theorem c7{a0 a1 a2 a3 a4:Nat}(hs:List Fm)(g:Fm)(h:ck 5 5 hs g=true:=by kernel_rfl):dQ [a0,a1,a2,a3,a4] [] hs g:=la _ _ _ _ hs g h
theorem t0{a0 a1 a2 a3 a4:Nat}{O z1 z2 z3:Int}(hs:List Fm)(g:Fm)(h:ck 5 5 hs g=true:=by kernel_rfl):dQ [a0,a1,a2,a3,a4] [O,z1,z2,z3] hs g:=la _ _ _ _ hs g h
theorem gV{a0 a1 a2 a3 a4 a5:Nat}(hs:List Fm)(g:Fm)(h:ck 6 6 hs g=true:=by kernel_rfl):dQ [a0,a1,a2,a3,a4,a5] [] hs g:=la _ _ _ _ hs g h
theorem te{a0 a1 a2 a3 a4 a5:Nat}{O:Int}(hs:List Fm)(g:Fm)(h:ck 6 6 hs g=true:=by kernel_rfl):dQ [a0,a1,a2,a3,a4,a5] [O] hs g:=la _ _ _ _ hs g h
theorem td{a0 a1 a2 a3 a4 a5 a6:Nat}(hs:List Fm)(g:Fm)(h:ck 7 7 hs g=true:=by kernel_rfl):dQ [a0,a1,a2,a3,a4,a5,a6] [] hs g:=la _ _ _ _ hs g h
theorem bc(a b:Nat):a-b+b=a\/(a<=b/\a-b=0):=(Nat.le_total b a).elim (fun h=>.inl (Nat.sub_add_cancel h)) fun h=>.inr ⟨h,Nat.sub_eq_zero_of_le h⟩
theorem tP{a:Nat}(k:Nat)(h:0<k:=by decide):k*(a/k)<=a/\a<k*(a/k)+k:=⟨Nat.mul_div_le a k,Nat.mul_comm k _▸Nat.lt_div_mul_add h⟩
theorem uC{a:Nat}(k:Nat)(h:0<k:=by decide):k*(a/k)+a%k=a/\a%k<k:=⟨Nat.div_add_mod a k,Nat.mod_lt a h⟩
theorem iX(a b:Nat):(min a b=a/\a<=b)\/(min a b=b/\b<=a):=(Nat.le_total a b).elim (fun h=>.inl ⟨Nat.min_eq_left h,h⟩) fun h=>.inr ⟨Nat.min_eq_right h,h⟩
theorem eh(a b:Nat):(max a b=b/\a<=b)\/(max a b=a/\b<=a):=(Nat.le_total a b).elim (fun h=>.inl ⟨Nat.max_eq_right h,h⟩) fun h=>.inr ⟨Nat.max_eq_left h,h⟩
theorem uy(a b:Int):(min a b=a/\a<=b)\/(min a b=b/\b<=a):=(Int.le_total a b).elim (fun h=>.inl ⟨Int.min_eq_left h,h⟩) fun h=>.inr ⟨Int.min_eq_right h,h⟩
theorem tZ(a b:Int):(max a b=b/\a<=b)\/(max a b=a/\b<=a):=(Int.le_total a b).elim (fun h=>.inl ⟨Int.max_eq_right h,h⟩) fun h=>.inr ⟨Int.max_eq_left h,h⟩
theorem bz(z:Int):(0<=z/\(z.toNat:Int)=z)\/(z<0/\z.toNat=0):=(Int.lt_or_le z 0).elim (fun h=>.inr ⟨h,Int.toNat_of_nonpos (Int.le_of_lt h)⟩) fun h=>.inl ⟨h,Int.toNat_of_nonneg h⟩
theorem aM{a:Int}(k:Nat)(h:0<k:=by decide):(k:Int)*(a/(k:Int))<=a/\a<(k:Int)*(a/(k:Int))+(k:Int):=⟨Int.mul_ediv_self_le (Int.ofNat_ne_zero.mpr (Nat.ne_of_gt h)),Int.lt_mul_ediv_self_add (Int.ofNat_lt.mpr h)⟩
theorem dJ{a:Int}(k:Nat)(h:0<k:=by decide):(k:Int)*(a/(k:Int))+a%(k:Int)=a/\0<=a%(k:Int)/\a%(k:Int)<(k:Int):=⟨Int.mul_ediv_add_emod a k,Int.emod_nonneg a (Int.ofNat_ne_zero.mpr (Nat.ne_of_gt h)),Int.emod_lt_of_pos a (Int.ofNat_lt.mpr h)⟩
theorem gP{G:Prop}(h:∀P:Prop,(G->P)->P):G:=h G id
theorem cj{prog:Program}{w:World}{A:Around}{α:Type}{c:Prop}[Decidable c]{a b:Sem α}{Q:α->Shared->Prop}{E:Value->Shared->Prop}{s:Shared}(hc:c)(h:wpAny (model prog w) A a Q E s):wpAny (model prog w) A (if c then a else b) Q E s:=by rw[if_pos hc];exact h
theorem aj{prog:Program}{w:World}{A:Around}{α:Type}{c:Prop}[Decidable c]{a b:Sem α}{Q:α->Shared->Prop}{E:Value->Shared->Prop}{s:Shared}(hc:¬c)(h:wpAny (model prog w) A b Q E s):wpAny (model prog w) A (if c then a else b) Q E s:=by rw[if_neg hc];exact h
@[elab_as_elim] theorem aa{α:Sort u}{b:α}{motive:α->Prop}{a:α}(h:a=b)(k:motive b):motive a:=h▸k
@[elab_as_elim] theorem aA{α:Sort u}{b:α}{motive:α->Prop}{a:α}(h:b=a)(k:motive b):motive a:=h▸k
theorem vT:true=true:=rfl
theorem vS{α:Type u}{a:α}:some a=some a:=rfl
theorem vF:false=false:=rfl
theorem vP:(pure false:Sem Bool)=pure false:=rfl
noncomputable abbrev AO:=List (Addr×Obj)
noncomputable abbrev VS:=Value->Shared->Prop
noncomputable abbrev LI:=List Int
noncomputable abbrev LQ:=List Addr
noncomputable abbrev RS:=Result->Shared->Prop
noncomputable abbrev OV:=Str->Option Value
noncomputable abbrev VG:=Value->GenState->Shared->Prop
noncomputable abbrev LN:=List Nat
noncomputable abbrev LW:=List Value
noncomputable abbrev LS:=List Stmt
noncomputable abbrev OQ:=Option Value->Shared->Prop
noncomputable abbrev UQ:=Unit->Shared->Prop
example:True:=by w_top off;trivial
noncomputable abbrev AR(dp un:Nat)(gd:Option (List Code))(fr:List Env):Around:={ handled:=none,depth:=dp,frames:=some fr,guards:=gd,units:=un }
def d5(g h:Heap)(foot:AO):Prop:=∀q∈foot,h.get? q.1=some q.2/\g.get? q.1=none
noncomputable abbrev Gs:=List (Nat×GenState)
structure aN(pg:Gs)(a b:Array GenState):Prop where
 size:a.size<=b.size
 old:∀(i:Nat) (x:GenState),(∀q∈pg,q.1≠i)->a[i]?=some x->b[i]?=some x
 bare:AllBare a->AllBare b
theorem aN.refl(pg:Gs)(a:Array GenState):aN pg a a:=⟨ZZ _,fun O O O h=>h,id⟩
def sJ(pg:Gs)(a:Array GenState)(pg':Gs)(b:Array GenState):Prop:=∀q∈pg',b[q.1]?=some q.2/\((∃z∈pg,z.1=q.1)\/a.size<=q.1)
theorem aN.comp{pg cur:Gs}{a b c:Array GenState}(x:aN pg a b)(y:aN cur b c)(h:∀q∈cur,(∃z∈pg,z.1=q.1)\/a.size<=q.1):aN pg a c :=
 ⟨ZW x.size y.size,fun i z hi hz=>y.old i z (fun q hq e=>by
  rcases h q hq with ⟨z',hz',e'⟩|h1
  ·exact hi z' hz' (e'.trans e)
  ·rw[e] at h1
   exact absurd (Zx.mp hz).1 (Nat.not_lt.mpr h1)) (x.old i z hi hz),fun h=>y.bare (x.bare h)⟩
theorem aN.trans{pg:Gs}{a b c:Array GenState}(x:aN pg a b)(y:aN [] b c):aN pg a c:=x.comp y fun O h=>nomatch h
noncomputable abbrev aZ(fr:List Env):List Addr:=fr.filterMap (·.frame)
inductive aw(fs:LQ):AO->AO->Prop
|nil:aw fs [] []
|same {q:Addr×Obj} {a b:AO} (t:aw fs a b):aw fs (q::a) (q::b)
|soft {x:Addr} {o:Obj} {sl:Array (Option Value)} {a b:AO} (hx:x∈fs) (t:aw fs a b):aw fs ((x,o)::a) ((x,{ o with slots:=sl })::b)
theorem aw.refl{fs:LQ}:∀l:AO,aw fs l l
|[]=>.nil
|_::l=>.same (aw.refl l)
theorem aw.trans{fs:LQ}{a b c:AO}(x:aw fs a b)(y:aw fs b c):aw fs a c:=by
 induction x generalizing c with
|nil=>exact y
|same _ ih=>cases y with
 |same t=>exact .same (ih t)
 |soft hx t=>exact .soft hx (ih t)
|soft hx _ ih=>cases y with
 |same t=>exact .soft hx (ih t)
 |soft hx2 t=>exact .soft hx (ih t)
theorem aw.mem{fs:LQ}{a b:AO}(x:aw fs a b){z:Addr}{o:Obj}(h:(z,o)∈a):∃sl,(z,{ o with slots:=sl })∈b:=by
 induction x with
|nil=>cases h
|same _ ih =>
  rcases ZT.mp h with rfl|h
  ·exact⟨o.slots,.head _⟩
  ·obtain⟨sl,h⟩:=ih h;exact⟨sl,.tail _ h⟩
|soft hx _ ih =>
  rcases ZT.mp h with e|h
  ·cases e;exact⟨_,.head _⟩
  ·obtain⟨sl,h⟩:=ih h;exact⟨sl,.tail _ h⟩
theorem aw.fst{fs:LQ}{a b:AO}(x:aw fs a b):b.map (·.1)=a.map (·.1):=by
 induction x with
|nil=>rfl
|same _ ih=>rw[List.map_cons,List.map_cons,ih]
|soft _ _ ih=>rw[List.map_cons,List.map_cons,ih]
theorem aw.off{fs:LQ}{a b:AO}(x:aw fs a b)(h:∀q∈a,q.1∉fs):b=a:=by
 induction x with
|nil=>rfl
|same _ ih=>rw[ih fun q hq=>h q (.tail _ hq)]
|soft hx _ _=>exact absurd hx (h _ (.head _))
theorem aw.less{fs fs':LQ}{a b:AO}(x:aw fs a b)(h:∀q∈a,q.1∈fs->q.1∈fs'):aw fs' a b:=by
 induction x with
|nil=>exact .nil
|same _ ih=>exact .same (ih fun q hq=>h q (.tail _ hq))
|soft hx _ ih=>exact .soft (h _ (.head _) hx) (ih fun q hq=>h q (.tail _ hq))
theorem aw.split{fs:LQ}{a a' b:AO}(x:aw fs (a++a') b):∃c c',b=c++c'/\aw fs a c/\aw fs a' c':=by
 induction a generalizing b with
|nil=>exact⟨[],b,rfl,.nil,x⟩
|cons q a ih =>
  cases x with
 |same t=>obtain⟨c,c',rfl,h1,h2⟩:=ih t;exact⟨_::c,c',rfl,.same h1,h2⟩
 |soft hx t=>obtain⟨c,c',rfl,h1,h2⟩:=ih t;exact⟨_::c,c',rfl,.soft hx h1,h2⟩
def eM(fr:List Env)(hold:AO):Prop:=∀env∈fr,env.scope.kind≠.module/\∃L o,env.frame=some L/\(L,o)∈hold/\∀vs,o.data≠.fields vs
theorem eM.fun{g h:Heap}{hold:AO}(hF:d5 g h hold):∀{fr:List Env},eM fr hold->h.FunFrames g fr
|[],_=>trivial
|env::fr,H=>by
  obtain⟨h1,L,o,h2,h3,h4⟩:=H env (.head _)
  exact⟨h1,⟨L,o,h2,(hF _ h3).2,(hF _ h3).1,h4⟩,eM.fun hF fun e he=>H e (.tail _ he)⟩
theorem eM.kept{fr:List Env}{fs:LQ}{a b:AO}(H:eM fr a)(x:aw fs a b):eM fr b:=fun env he=>by
 obtain⟨h1,L,o,h2,h3,h4⟩:=H env he
 obtain⟨sl,h5⟩:=x.mem h3
 exact⟨h1,L,_,h2,h5,h4⟩
noncomputable def quiet(fr:List Env)(hold:AO):AO:=hold.filter fun q=>decide (q.1∉aZ fr)
theorem ag{fr:List Env}{hold:AO}{q:Addr×Obj}:q∈quiet fr hold<->q∈hold/\q.1∉aZ fr:=by
 unfold quiet
 rw[Ze,decide_eq_true_eq]
structure On(w:World) where
 (p:Program) (loose:List Str) (mean:ExcName->Option Value) (mg mb:OV) (dp un:Nat) (gd:Option (List Code)) (fr:List Env) (g:Heap)
 X:(hd.heap_1 w.params).In g
 T:Top p loose mean mg mb g
noncomputable abbrev On.A{w:World}(o:On w):Around:=AR o.dp o.un o.gd o.fr
structure On.Fits{w:World}(o:On w)(lvl:Nat):Prop where
 d:o.dp+lvl<=500
 u:o.un+50*lvl<=9000
structure At{w:World}(o:On w)(own hold:AO)(s:Shared):Prop where
 fr:eM o.fr hold
 st:o.g.StaysIn s.heap
 top:∃q∈hold,o.g.objs.size<=q.1
 ft:d5 o.g s.heap (own++hold)
 ap:∀q∈own,∀z∈hold,q.1≠z.1
theorem At.sz{w:World}{o:On w}{own hold:AO}{s:Shared}(A:At o own hold s):o.g.objs.size<=s.heap.objs.size:=by
 obtain⟨q,hq,h⟩:=A.top
 exact ZW h (Zr (Zg (A.ft q (ZC _ hq)).1))
structure Mv{w:World}(o:On w)(pg pg':Gs)(hold hold':AO)(s s':Shared):Prop where
 eq:s'={ s with heap:=s'.heap,gens:=s'.gens,drawn:=s'.drawn,toks:=s'.toks }
 gm:aN pg s.gens s'.gens
 pi:sJ pg s.gens pg' s'.gens
 kp:aw (aZ o.fr) hold hold'
noncomputable def bI{α:Type}(w:World)(lvl:Nat)(X:Around->(α->Shared->Prop)->Shared->Prop)(foot:AO)(pg:Gs)(D:Nat->AO->Prop)(Post:Nat->α->AO->Gs->Prop):Prop :=
 ∀(o:On w) (hold:AO) (s:Shared) (Q:α->Shared->Prop),o.Fits lvl->At o foot hold s->(∀q∈pg,s.gens[q.1]?=some q.2)->D o.g.objs.size (quiet o.fr hold) ->
  (∀r foot' pg' hold' s',Mv o pg pg' hold hold' s s'->At o foot' hold' s'->Post s.heap.objs.size r foot' pg'->Q r s')->X o.A Q s
noncomputable def fA(w:World)(f:Value)(args:LW)(kw:List (Str×Value))(A:Around)(Q:VS)(s:Shared):Prop :=
 ∀R:Result->Shared->Prop,(∀r s',Q r s'->R (.ok (.ret r)) s')->codeAny (model PySem.Challenge.rw_ky0014_01.row.prog w) A (.call f ⟨args,kw⟩) R s
noncomputable abbrev uB(w:World)(lvl:Nat)(f:Value)(args:LW)(kw:List (Str×Value))(foot:AO)(Post:Value->AO->Prop):Prop :=
 bI w lvl (fA w f args kw) foot [] (fun O O=>True) (fun O r foot' O=>Post r foot')
theorem d5.ofNews{g h:Heap}{L:Addr}{l:AO}(N:News g L h l):d5 g h l:=fun q hq=>⟨(N q hq).1,(N q hq).2.2⟩
section
variable{prog:Program}{w:World}{dp un:Nat}{gd:Option (List Code)}{fr:List Env}{g:Heap}{s:Shared}{foot:AO}{K:Frag}{p:Program}{loose:List Str}{mean:ExcName->Option Value}{mg mb:OV}
 {name qual:Str} {params:Arguments} {body:LS} {scope:Scope} {dV kV doc pm cdv ct oc:Value} {an od:Option Addr} {osl:Array (Option Value)} {f:Addr} {args:Args} {binds:List (Str×Value)} {R:RS}
theorem enter(st:g.StaysIn s.heap)(hsz:g.objs.size<=s.heap.objs.size)(X:K.In g)(T:Top p loose mean mg mb g)(hF:d5 g s.heap foot)
  (ho:K.lookup f=some ⟨oc,od,.func (fnOf name qual params body scope dV kV doc pm an cdv ct),osl⟩) (hcd:codeIn K cdv qual=true) (hroom:dp<recursionLimit)
  (hbind:BindsTo s (fnOf name qual params body scope dV kV doc pm an cdv ct) args binds) (hloc:∀y∈binds,scope.names.lookup y.1=some .local)
  (h:∀L' hj1,s.heap.objs.size<=L'->Fr g L' hj1 (fun y=>binds.reverse.lookup y)->News g L' hj1 foot ->
   wpAny (model prog w) ((AR dp un gd fr).deeper (envOf qual scope L' f cdv)) (execs body (envOf qual scope L' f cdv))
    (fun fl s'=>R (.ok (.ret (match fl with|.ret v=>v|_=>.none))) s')
    (fun e s'=>wpAny (model prog w) ((AR dp un gd fr).deeper (envOf qual scope L' f cdv)) (leaving (envOf qual scope L' f cdv) e) (fun O s''=>R (.error e) s'') (fun e' s''=>R (.error e') s'') s')
    { s with heap:=hj1,toks:=s.toks+binds.length })
  (hco:scope.isCoroutine=false) (hgen:scope.isGenerator=false) (hk:scope.kind=.function)
  (hcell:∀x∈scope.names,x.2≠.cell):codeAny (model prog w) (AR dp un gd fr) (.call (.ref f) args) R s:=by
 have Xs:K.In s.heap:=X.keeps st
 refine codeAny_call_def (fd:=fnOf name qual params body scope dV kV doc pm an cdv ct) (body:=body) (binds:=binds) hroom (Xs _ _ ho) rfl (T.nolimit.keeps st) (codeRec_of Xs hcd) rfl hbind hcell hloc (fun hj1 hns hkj1=>?_) hco hgen hk
 exact h s.heap.objs.size hj1 (ZZ _) ⟨hns,fun b o e=>hkj1 b o (st b o e),hsz⟩ (fun q hq=>⟨hkj1 _ _ (hF q hq).1,Zb (Zg (hF q hq).1),(hF q hq).2⟩)
end
local macro_rules | `(tactic| k_ne) => `(tactic| k_extra "my k_ne")
example : True :=by
 (k_with "my k_ne" => (first | (refine neN ?_; assumption) | (refine neN (Ne.symm ?_); assumption) | (refine neN ?_; (try dsimp only); omega)))
 trivial
local macro_rules | `(tactic| k_room) => `(tactic| k_extra "my k_room")
example : True :=by
 (k_with "my k_room" => (ktr_room))
 trivial
local macro_rules | `(tactic| k_units) => `(tactic| k_extra "my k_units")
example : True :=by
 (k_with "my k_units" => (ktr_units))
 trivial
local macro_rules | `(tactic| ktr_room) => `(tactic| k_extra "my ktr_room")
example : True :=by
 (k_with "my ktr_room" => (((try simp only [depth_mark, depth_under_make, depth_under_kw, depth_in1, depth_deeper, depth_caller]); (try dsimp only [AR]); (simp only [recursionLimit]); ktr_rel)))
 trivial
local macro_rules | `(tactic| ktr_units) => `(tactic| k_extra "my ktr_units")
example : True :=by
 (k_with "my ktr_units" => (((try simp only [units_in1, units_deeper, Around.mark_units, units_caller]); (try dsimp only [AR]); first | ktr_rel | (have hcL9 := cLine_is; omega))))
 trivial
local macro_rules | `(tactic| ktr_enter) => `(tactic| k_extra "my ktr_enter")
example : True :=by
 (k_with "my ktr_enter" => ((refine' enter ?k1 ?k2 ?k3 ?k4 ?k5 ?k6 ?k7 ?k8 ?k9 ?k10 ?k11 ?_ ?c2 ?c3 ?c4 ?c5; (case k1 => k_asm); (case k2 => k_asm); (case k3 => k_asm); (case k4 => k_asm); (case k5 => k_asm); (case k6 => k_asm); (case k7 => k_is); (case k8 => k_is); (case k9 => ((simp only [recursionLimit]); ktr_rel)); (case k10 => first | exact BindsTo.of_eq rfl | exact binds_K (Frag.In.keeps (by assumption) (by assumption)) rfl (by k_is) rfl rfl rfl); (case k11 => exact locs rfl); (case c5 => decide); (case c2 => exact rfl); (case c3 => exact rfl); (case c4 => exact rfl); k_whole; intro L' h' hL' F' N'; (try dsimp only); (try k_fold))))
 trivial
local macro_rules | `(tactic| ktr_rel) => `(tactic| k_extra "my ktr_rel")
example : True :=by
 (k_with "my ktr_rel" => (first | exact bdL (by assumption) rfl | exact bdL1 (by assumption) rfl | exact bdL3 (by assumption) rfl | exact bdS (by assumption) rfl | exact bdS1 (by assumption) rfl | exact beL (by assumption) rfl | exact beL1 (by assumption) rfl | exact beL3 (by assumption) rfl | exact beS (by assumption) rfl | exact beS1 (by assumption) rfl | omega | (dsimp only [AR]; omega) | ((simp only [depth_mark, depth_under_make, depth_under_kw, depth_in1, depth_deeper, units_in1, units_deeper, Around.mark_units]); (try dsimp only [AR]); omega)))
 trivial
local macro_rules | `(tactic| ktr_unf) => `(tactic| k_extra "my ktr_unf")
example : True :=by
 (k_with "my ktr_unf" => (((try dsimp only); (try k_unfold); (try dsimp only))))
 trivial
local macro_rules | `(tactic| tb_start) => `(tactic| k_extra "my tb_start")
example : True :=by
 (k_with "my tb_start" => (first | exact List.forall_mem_nil _ | (refine List.forall_mem_cons.mpr ⟨?tb9, ?_⟩; (case tb9 => k_mem); tb_start)))
 trivial
local macro_rules | `(tactic| tb_rel) => `(tactic| k_extra "my tb_rel")
example : True :=by
 (k_with "my tb_rel" => ((repeat' (first | ((fail_if_success (with_reducible show wpAny _ _ (pyIter _) _ _ _)); (fail_if_success (with_reducible show wpAny _ _ (exec (.While _ _ _ _) _) _ _ _)); first | (k_unfold; (try dsimp only)) | (k_end; wrow_close) | walk1 | (dsimp only; walk1)) | fail "no step"))))
 trivial
example:True:=by w_top off;trivial
theorem eW:fillsNumberSlot (.type "tuple") "mul"=pure false :=
 PySem.fillsNumberSlot_seq (id:="tuple.__mul__") (r:=some (.builtin "tuple.__rmul__")) PySem.F.slot_tuple_mul.lookup (by decide +kernel) PySem.F.slot_tuple_rmul.lookup (by decide +kernel)
theorem iN:seqRepeat? (.type "tuple")=pure (some (.builtin "tuple.__mul__")):=by
 unfold seqRepeat?
 refine aa (PySem.seqSlot_of (T:="tuple") (name:="__mul__") (id:="tuple.__mul__") PySem.F.slot_tuple_mul.lookup (by decide +kernel) ..) (aa (PySem.seqSlot_of (T:="tuple") (name:="__rmul__") (id:="tuple.__rmul__") PySem.F.slot_tuple_rmul.lookup (by decide +kernel) ..) ?_)
 rfl
theorem gf(a:Int)(t:Tok)(l:Addr)(items:Array Value)(n:Nat) :
  Meets (Builtin.«int.__rmul__» ⟨[.int a t,.ref l],[]⟩) (fun O R s=>s.heap.get? l=some { cls:=.type "tuple",dict:=none,data:=.seq items n,slots:=#[] }/\R (.ok (.ret Value.notImplemented)) s) :=
 .of_wp fun prog w A R s h=>by obtain⟨hp,g,d,tk,os⟩:=s;obtain⟨hl,h⟩:=h;wp_walk;exact⟨_,rfl,h⟩
theorem gS(l:Addr)(v:Value)(n:Nat)(u:Tok) :
  Meets (Builtin.«tuple.__mul__» ⟨[.ref l,.int 1 u],[]⟩) (fun O R s=>s.heap.get? l=some { cls:=.type "tuple",dict:=none,data:=.seq #[v] n,slots:=#[] }/\R (.ok (.ret (.ref l))) s) :=
 .of_wp fun prog w A R s h=>by obtain⟨hp,g,d,tk,os⟩:=s;obtain⟨hl,h⟩:=h;wp_walk;exact⟨_,rfl,h⟩
theorem jY(v:Value)(n:Nat):(List.replicate n #[v]).foldl (· ++ ·) #[]=(List.replicate n v).toArray:=by
 have:∀(n:Nat) (a:Array Value),(List.replicate n #[v]).foldl (· ++ ·) a=a++(List.replicate n v).toArray:=by
  intro n
  induction n with
 |zero=>intro a;simp
 |succ n ih=>intro a;refine aa (List.replicate_succ ..) (aa (List.foldl_cons ..) (aa (ih ..) (aa (List.replicate_succ ..) ?_)));apply Array.toList_inj.mp;simp
 simpa using this n #[]
theorem fY(l:Addr)(v:Value)(n:Nat)(x:Int)(u:Tok)(h2:2<=x)(h3:x<=1000) :
  Meets (Builtin.«tuple.__mul__» ⟨[.ref l,.int x u],[]⟩) (fun O R s=>s.heap.get? l=some { cls:=.type "tuple",dict:=none,data:=.seq #[v] n,slots:=#[] } /\
   R (.ok (.ret (.ref s.heap.objs.size))) { s with heap:=s.heap.push { cls:=.type "tuple",data:=.seq ((List.replicate x.toNat #[v]).foldl (· ++ ·) #[]) },toks:=s.toks }) :=
 .of_wp fun prog w A R s h=>by
  obtain⟨hp,g,d,tk,os⟩:=s;obtain⟨hl,h⟩:=h
  have e1:(decide (x < -2^63)||decide (x>=2^63))=false:=by simp;exact(aO [.M (.n 2) .A,.M .A .q] (.d (.M (.j .i) .A) (.L .A .i))) h2 h3
  have e2:(x == 1)=false:=by simp;exact(aO [.M (.n 2) .A] (.x (.E .A .u))) h2
  have e3:(decide (x<=0))=false:=by simp;exact(aO [.M (.n 2) .A] (.L .o .A)) h2
  have e4:¬ ((#[v].size:Int)*x > (2^63-1)/8):=by simp;exact(aO [.M .A .q] (.M .A (.n 1152921504606846975))) h3
  have e5:Builtin.Tuple.tupleTooMany (#[v].size*x)=false:=by simp[Builtin.Tuple.tupleTooMany,sizeLine];exact(aO [.M .A .q] (.M .A (.n 16777216))) h3
  wp_walk
  refine wpAny_ite_false (by refine aa (e1 ..) ?_;rfl) ?_
  wp_walk
  refine wpAny_ite_false (decide_eq_false e4) ?_
  wp_walk
  refine wpAny_ite_false (by refine aa (e5 ..) ?_;rfl) ?_
  wp_walk
  refine wpAny_ite_false (decide_eq_false (Nat.not_lt.mpr ?_)) ?_
  ·refine aa (jY ..) ?_;simp[sizeLine];exact(aO [.M .A .q] (.M .A (.n 16777216))) h3
  wp_walk
  exact⟨_,rfl,h⟩
section
variable{prog:Program}{w:World}{A:Around}{E:VS}{s:Shared}{h₀:Heap}{L:Addr}{m:OV}{news:AO}
theorem pY{l:Addr}{v:Value}{x:Int}{u:Tok}{k:Nat}{Q:VS}(Fm:Fr h₀ L s.heap m)
  (N:News h₀ L s.heap ((l,{ cls:=.type "tuple",data:=.seq #[v] k })::news)) (hx1:1<=x) (hx2:x<=1000) (hlow:∀q∈news,q.1<l)
  (h:∀r k' h',Fr h₀ L h' m->News h₀ L h' ((r,{ cls:=.type "tuple",data:=.seq (List.replicate x.toNat v).toArray k' })::news)->(∀q∈news,q.1<r)->Q (.ref r) { s with heap:=h' }) :
  wpAny (model prog w) A (binaryOp .Mult (.ref l) (.int x u)) Q E s:=by
 have hl:=(N _ (.head _)).1
 refine wpAny_binaryOp_repeat_ref (T:="tuple") (U:="int") (by decide) ⟨_,hl,rfl⟩ (fun s'=>typeIs_int s' x u) eW PySem.F.fills_int_mul PySem.F.slot_int_rmul iN PySem.F.slot_int_index.lookup
  (call_meets PySem.F.slot_int_rmul (typeIs_int s x u) PySem.F.entry_int_rmul (PySem.F.args_int_rmul_2 _ _) (gf x u l #[v] k)
   ⟨hl,rfl,⟨_,hl,rfl⟩,?_⟩)
 by_cases e:x=1
 ·subst e
  exact call_meets PySem.F.slot_tuple_mul ⟨_,hl,rfl⟩ PySem.F.entry_tuple_mul (PySem.F.args_tuple_mul_2 _ _) (gS l v k u) ⟨hl,h l k s.heap Fm N hlow⟩
 ·refine call_meets PySem.F.slot_tuple_mul ⟨_,hl,rfl⟩ PySem.F.entry_tuple_mul (PySem.F.args_tuple_mul_2 _ _) (fY l v k x u (by exact(aO [.M .u .A,.x (.E .A .u)] (.M (.n 2) .A)) hx1 e) hx2) ⟨hl,h s.heap.objs.size 0 _ (Fm.push _) ?_ (fun q hq=>Zg (N q (.tail _ hq)).1)⟩
  have N2:=News.push Fm N { cls:=.type "tuple",data:=.seq ((List.replicate x.toNat #[v]).foldl (· ++ ·) #[]) }
  intro q hq
  rcases ZT.mp hq with rfl|hq
  ·have:=N2 _ (.head _)
   rw[jY] at this ⊢
   exact this
  ·exact N2 q (.tail _ (.tail _ hq))
end
example:True:=by w_top off;trivial
theorem oU(sel:Nat->Bool)(a n:Nat)(items:Array Value)(hn:items.size=n)(ha:a<=n)
  (hsel:∀k,sel k=(if (1:Int) > 0 then (decide ((max 0 (min (a:Int) n))<=(k:Int))&&decide ((k:Int)<(n:Int))&&(((k:Int)-(max 0 (min (a:Int) n)))%1 == 0)) else (decide ((n:Int)<(k:Int))&&decide ((k:Int)<=(max 0 (min (a:Int) n)))&&(((max 0 (min (a:Int) n))-(k:Int))%(-1) == 0)))) :
  (items.toList.zipIdx.filterMap fun p=>if sel p.2=true then none else some p.1).toArray=(items.toList.take a).toArray:=by
 have h2:∀k,k<n->sel k=decide (a<=k):=by
  intro k hk
  refine aa (hsel ..) ?_
  have e:max 0 (min (a:Int) n)=(a:Int):=by exact(dj [.m .a .b,.J .B (.t .a) (.t .b),.K .A .o .B] (.E .A (.t .a))) ha (uy _ _) (tZ _ _)
  refine aa (e ..) ?_
  simp[hk]
 have h3:∀(l:LW) (j:Nat),j+l.length<=n->((l.zipIdx j).filterMap fun p=>if sel p.2=true then none else some p.1)=l.take (a-j):=by
  intro l
  induction l with
 |nil=>intro j _;simp
 |cons v r ih =>
   intro j hj
   simp only[List.length_cons] at hj
   refine aa (List.zipIdx_cons ..) (aa (List.filterMap_cons ..) ?_)
   dsimp only
   refine aa (h2 j (by exact(av [.m (.p .a (.p .b .u)) .c] (.l .a .c)) hj) ..) ?_
   by_cases h:a<=j
   ·have e0:a-j=0:=by exact(av [.m .a .b,.S .c .a .b] (.e .c .o)) h (bc _ _)
    have e1:a-(j+1)=0:=by exact(av [.m .a .b,.S .c .a (.p .b .u)] (.e .c .o)) h (bc _ _)
    simp[h,e0,ih (j+1) (by exact(av [.m (.p .a (.p .b .u)) .c] (.m (.p (.p .a .u) .b) .c)) hj),e1]
   ·have e0:a-j=(a-(j+1))+1:=by exact(aJ [.x (.m .a .b),.S .c .a .b,.S .d .a (.p .b .u)] (.e .c (.p .d .u))) h (bc _ _) (bc _ _)
    simp[h,ih (j+1) (by exact(av [.m (.p .a (.p .b .u)) .c] (.m (.p (.p .a .u) .b) .c)) hj)]
    exact aa (e0 ..) (aa (List.take_succ_cons ..) rfl)
 refine aa (h3 items.toList 0 (by simp[hn]) ..) ?_
 simp
section
variable{prog:Program}{w:World}{A:Around}{E:VS}{s:Shared}
theorem oS{l sl:Addr}{items:Array Value}{n:Nat}{t:Tok}{a:Nat}{Q:UQ}(ho:s.heap.get? l=some { cls:=.type "list",data:=.seq items n })
  (hs:s.heap.IsSliceOf sl (.int (a:Int) t) .none .none) (ha:a<=items.size) (hsz:items.size<=1000)
  (h:∀f:Array Value->Array Value,f items=(items.toList.take a).toArray->Q () { s with heap:=s.heap.update l (Obj.mapSeq f) }) :
  wpAny (model prog w) A (delItem (.ref l) (.ref sl)) Q E s:=by
 have hT:s.TypeIs (.ref l) "list":=⟨_,ho,rfl⟩
 obtain⟨os,hos,hcs,hds⟩:=id hs
 have hTs:s.TypeIs (.ref sl) "slice":=⟨os,hos,hcs⟩
 refine wpAny_delItem_slot hT (by decide) PySem.F.slot_list_delitem (wpAny_call_entry PySem.F.slot_list_delitem hT PySem.F.entry_list_delitem ?_ (PySem.F.args_list_delitem_2 _ _))
 show wpAny _ _ (Builtin.List.listSubscript? (.ref sl) >>= _) _ _ s
 refine ZL ?_
 unfold Builtin.List.listSubscript?
 refine ZL (wpAny_specialOf hTs slice_no_index ?_)
 simp only[Option.isNone_none,if_true]
 refine ZM ?_
 show wpAny _ _ (typeOf (.ref sl) >>= _) _ _ s
 refine ZL (wpAny_typeOf hTs ?_)
 refine aj (by decide) ?_
 refine aa (listSliceParts_eq ..) ?_
 refine ZL (ZL (wpAny_field hos hds (x:=.none) vS (ZL (wpAny_listPart .none ?_))))
 refine aj (by decide) ?_
 refine ZL (wpAny_field hos hds (x:=.int (a:Int) t) vS (ZL (wpAny_listPart (.int _ _) ?_)))
 refine ZL (wpAny_field hos hds (x:=.none) vS (ZL (wpAny_listPart .none (ZM ?_))))
 refine ZL (m:=Builtin.List.listItems (.ref l)) ?_
 unfold Builtin.List.listItems
 refine ZL (wpAny_seqItems ho rfl (ZM ?_))
 refine ZL (wpAny_of_eq (sliceIndices_raw (some (a:Int)) none none items.size (by simp)) ?_)
 refine ZL (wpAny_rule ?_)
 have key:∀f:Array Value->Array Value,f items=(items.toList.take a).toArray->wpAny (model prog w) A.in1 (Builtin.List.listUpdate (.ref l) f) (fun O s'=>Q () s') E s:=fun f hf =>
  wpAny_updateSeq ho rfl (h f hf) (by simp[sizeLine];exact(ai [.m .a .q] (.m .a (.n 16777216))) hsz) (by refine aa (hf ..) ?_;simp[sizeLine];exact(av [.m .b .q,.I .c .a .b] (.m .c (.n 16777217))) hsz (iX _ _))
 refine ZL (wpAny_mono (key _ ?_) (fun O s' h'=>ZL (wpAny_letGo (ZM ⟨_,rfl,h'⟩))) fun O O e=>e)
 exact oU _ a items.size items rfl ha (fun k=>rfl)
end
example:True:=by w_top off;trivial
set_option genInjectivity true in
inductive SV
|int (z:Int)
|ref (i:Nat)
|val (v:Value)
|str (x:Str)
inductive SV.Is(ρ:LQ):SV->Value->Prop
|int (z:Int) (t:Tok):SV.Is ρ (.int z) (.int z t)
|ref {i:Nat} {a:Addr} (h:ρ[i]?=some a):SV.Is ρ (.ref i) (.ref a)
|val (v:Value):SV.Is ρ (.val v) v
|str (x:Str) (t:Tok):SV.Is ρ (.str x) (.str x t)
inductive aQ(w:World)(ρ:LQ):List (Str×SV)->List DictEntry->Prop
|nil:aQ w ρ [] []
|cons {x:Str} (t:Tok) {v:SV} {u:Value} {es:List (Str×SV)} {ds:List DictEntry} (h:v.Is ρ u) (r:aQ w ρ es ds):aQ w ρ ((x,v)::es) (⟨PyData.keyHash w.params x,.str x t,u⟩::ds)
inductive bh(ρ:LQ):List SV->List Value->Prop
|nil:bh ρ [] []
|cons {v:SV} {u:Value} {vs:List SV} {us:LW} (h:v.Is ρ u) (r:bh ρ vs us):bh ρ (v::vs) (u::us)
def iz(pos:Pos)(ps:Array Value):Prop:=ps=#[]\/∃c',ps=#[rawInt pos.line,rawInt pos.col,c']
inductive SO
|inst (C:Addr) (d:Nat)
|attrs (es:List (Str×SV))
|nums (bs:LI)
|list (vs:List SV)
|tup (vs:List SV)
|meth (f:Addr) (x:SV)
|cell (v:SV)
|tab (i:Nat) (a:Addr) (pos:Pos)
|dep (i k:Nat) (P:Addr->Addr->Obj->Prop)
|obj (P:Obj->Prop)
inductive SO.Is(w:World)(ρ:LQ):SO->Obj->Prop
|inst {C:Addr} {d:Nat} {a:Addr} (h:ρ[d]?=some a):SO.Is w ρ (.inst C d) (instObj C a)
|attrs {es:List (Str×SV)} {n:Nat} {ds:List DictEntry} (h:aQ w ρ es ds):SO.Is w ρ (.attrs es) (dictOf ds n)
|nums {vs:LW} {k:Nat} {bs:LI} (h:IntsAre vs bs):SO.Is w ρ (.nums bs) (listOf vs.toArray k)
|list {vs:List SV} {us:LW} {k:Nat} (h:bh ρ vs us):SO.Is w ρ (.list vs) (listOf us.toArray k)
|tup {vs:List SV} {us:LW} (h:bh ρ vs us):SO.Is w ρ (.tup vs) { cls:=.type "tuple",data:=.seq us.toArray }
|meth {f:Addr} {x:SV} {u:Value} (h:x.Is ρ u):SO.Is w ρ (.meth f x) (methodObj (.ref f) u)
|cell {v:SV} {u:Value} {o:Obj} (hd:o.data=.cell (some u)) (h:v.Is ρ u):SO.Is w ρ (.cell v) o
|tab {i:Nat} {a:Addr} {pos:Pos} {ps:Array Value} (h:ρ[i]?=some a) (ht:iz pos ps):SO.Is w ρ (.tab i a pos) (tabObj ps)
|dep {i k:Nat} {a b:Addr} {P:Addr->Addr->Obj->Prop} {o:Obj} (h:ρ[i]?=some a) (h':ρ[k]?=some b) (hP:P a b o):SO.Is w ρ (.dep i k P) o
|obj {P:Obj->Prop} {o:Obj} (h:P o):SO.Is w ρ (.obj P) o
inductive ud(ρ:LQ)(i:Nat)(u:Value):Prop
|mk (a:Addr) (e:.ref a=u) (h:ρ[i]?=some a)
theorem SV.Is.refI{ρ:LQ}{i:Nat}{u:Value}(h:(SV.ref i).Is ρ u):ud ρ i u:=by cases h with|ref h=>exact⟨_,rfl,h⟩
theorem SV.Is.refAt{ρ:LQ}{i:Nat}{u:Value}{a:Addr}(h:(SV.ref i).Is ρ u)(e:ρ[i]?=some a):.ref a=u:=by
 obtain⟨b,rfl,h'⟩:=h.refI
 exact aa (ZK (e.symm.trans h') ..) rfl
theorem SV.Is.valI{ρ:LQ}{v u:Value}(h:(SV.val v).Is ρ u):v=u:=by cases h;rfl
theorem SV.Is.intI{ρ:LQ}{z:Int}{u:Value}(h:(SV.int z).Is ρ u):∃t,.int z t=u:=by cases h;exact⟨_,rfl⟩
theorem SV.Is.strI{ρ:LQ}{x:Str}{u:Value}(h:(SV.str x).Is ρ u):∃t,.str x t=u:=by cases h;exact⟨_,rfl⟩
inductive tK(ρ:LQ)(v:SV)(vs:List SV)(us:LW):Prop
|mk (u:Value) (us':LW) (e:u::us'=us) (h:v.Is ρ u) (t:bh ρ vs us')
theorem bh.consI{ρ:LQ}{v:SV}{vs:List SV}{us:LW}(h:bh ρ (v::vs) us):tK ρ v vs us:=by cases h with|cons h1 h2=>exact⟨_,_,rfl,h1,h2⟩
theorem bh.nilI{ρ:LQ}{us:LW}(h:bh ρ [] us):[]=us:=by cases h;rfl
section
variable{w:World}{ρ:LQ}{o:Obj}
theorem SO.Is.instI{C:Addr}{d:Nat}(h:(SO.inst C d).Is w ρ o):∃a,instObj C a=o/\ρ[d]?=some a:=by cases h with|inst h=>exact⟨_,rfl,h⟩
theorem SO.Is.attrsI{es:List (Str×SV)}(h:(SO.attrs es).Is w ρ o):∃n ds,dictOf ds n=o/\aQ w ρ es ds:=by cases h with|attrs h=>exact⟨_,_,rfl,h⟩
inductive tG(bs:LI)(o:Obj):Prop
|mk (vs:LW) (n:Nat) (e:listOf vs.toArray n=o) (h:IntsAre vs bs)
theorem SO.Is.numsI{bs:LI}(h:(SO.nums bs).Is w ρ o):tG bs o:=by cases h with|nums h=>exact⟨_,_,rfl,h⟩
theorem SO.Is.listI{vs:List SV}(h:(SO.list vs).Is w ρ o):∃us n,listOf us.toArray n=o/\bh ρ vs us:=by cases h with|list h=>exact⟨_,_,rfl,h⟩
theorem SO.Is.tupI{vs:List SV}(h:(SO.tup vs).Is w ρ o):∃us:List Value,({ cls:=.type "tuple",data:=.seq us.toArray }:Obj)=o/\bh ρ vs us:=by cases h with|tup h=>exact⟨_,rfl,h⟩
theorem SO.Is.methI{f:Addr}{x:SV}(h:(SO.meth f x).Is w ρ o):∃u,methodObj (.ref f) u=o/\x.Is ρ u:=by cases h with|meth h=>exact⟨_,rfl,h⟩
theorem SO.Is.cellI{v:SV}(h:(SO.cell v).Is w ρ o):∃u,o.data=.cell (some u)/\v.Is ρ u:=by cases h with|cell hd h=>exact⟨_,hd,h⟩
theorem SO.Is.tabI{i:Nat}{a:Addr}{pos:Pos}(h:(SO.tab i a pos).Is w ρ o):∃ps,tabObj ps=o/\ρ[i]?=some a/\iz pos ps:=by cases h with|tab h ht=>exact⟨_,rfl,h,ht⟩
inductive uf(ρ:LQ)(i k:Nat)(P:Addr->Addr->Obj->Prop)(o:Obj):Prop
|mk (a b:Addr) (h:ρ[i]?=some a) (h':ρ[k]?=some b) (hP:P a b o)
theorem SO.Is.depI{i k:Nat}{P:Addr->Addr->Obj->Prop}(h:(SO.dep i k P).Is w ρ o):uf ρ i k P o:=by cases h with|dep h h' hP=>exact⟨_,_,h,h',hP⟩
theorem SO.Is.objI{P:Obj->Prop}(h:(SO.obj P).Is w ρ o):P o:=by cases h with|obj h=>exact h
end
inductive sI(w:World)(ρ:LQ)(os:List Obj)(X:AO)(i:Nat)(so:SO):Prop
|mk (a:Addr) (o:Obj) (ha:ρ[i]?=some a) (hoa:os[i]?=some o) (hi:so.Is w ρ o) (hm:(a,o)∈X)
inductive sL(g:Heap)(L:Addr)(h:Heap)(ρ:LQ)(i:Nat)(bs:LI):Prop
|mk (a:Addr) (vs:LW) (k:Nat) (nw:AO) (ha:ρ[i]?=some a) (hI:IntsAre vs bs) (N:News g L h nw) (hm:(a,listOf vs.toArray k)∈nw)
inductive sM(w:World)(ρ:LQ)(os:List Obj)(h:Heap)(i d:Nat)(C:Addr)(es:List (Str×SV)):Prop
|mk (a dx:Addr) (ds:List DictEntry) (n:Nat) (h1:ρ[i]?=some a) (h2:ρ[d]?=some dx) (h3:aQ w ρ es ds) (h4:os[d]?=some (dictOf ds n)) (h5:W.InstAt h a (instObj C dx) C (some (dictOf ds n)))
structure G where
 m:List (Str×SV)
 o:List SO
theorem ak{ρ ρ':LQ}(hp:ρ<+:ρ'){i:Nat}{a:Addr}(h:ρ[i]?=some a):ρ'[i]?=some a:=by
 obtain⟨t,rfl⟩:=hp
 exact aa (ZH (ZB.mp h).1 ..) (aa (h ..) vS)
theorem SV.Is.up{ρ ρ':LQ}(hp:ρ<+:ρ'){v:SV}{u:Value}(h:v.Is ρ u):v.Is ρ' u:=by
 cases h with
|int z t=>exact .int _ _
|ref h=>exact .ref (ak hp h)
|val v=>exact .val _
|str x t=>exact .str _ _
theorem bh.up{ρ ρ':LQ}(hp:ρ<+:ρ'){vs:List SV}{us:LW}(h:bh ρ vs us):bh ρ' vs us:=by
 induction h with
|nil=>exact .nil
|cons h _ ih=>exact .cons (h.up hp) ih
theorem aQ.up{w:World}{ρ ρ':LQ}(hp:ρ<+:ρ'){es:List (Str×SV)}{ds:List DictEntry}(h:aQ w ρ es ds):aQ w ρ' es ds:=by
 induction h with
|nil=>exact .nil
|cons t h _ ih=>exact .cons t (h.up hp) ih
theorem SO.Is.up{w:World}{ρ ρ':LQ}(hp:ρ<+:ρ'){so:SO}{o:Obj}(h:so.Is w ρ o):so.Is w ρ' o:=by
 cases h with
|inst h=>exact .inst (ak hp h)
|attrs h=>exact .attrs (h.up hp)
|nums h=>exact .nums h
|list h=>exact .list (h.up hp)
|tup h=>exact .tup (h.up hp)
|meth h=>exact .meth (h.up hp)
|cell hd h=>exact .cell hd (h.up hp)
|tab h ht=>exact .tab (ak hp h) ht
|dep h h' hP=>exact .dep (ak hp h) (ak hp h') hP
|obj h=>exact .obj h
noncomputable abbrev PR:Program:=PySem.Challenge.rw_ky0014_01.row.prog
structure CK where
 cs:Scope
 lv:Nat
 nf:Nat
 n:Nat
 cm:List (Str×Nat):=[]
def rG(L:Addr)(frs:List Env)(hold:AO):Prop:=∀e∈frs,e.scope.kind≠.module/\∃L',e.frame=some L'/\(L'=L\/∃o,(L',o)∈hold/\∀vs,o.data≠.fields vs)
structure Cx(w:World)(κ:CK) where
 (o:On w) (qn:Str) (fo:Option Addr) (L:Addr) (ccd:Value) (cl:List (Str×Addr)) (frm:Option Addr) (sj0:Shared) (ρ0:LQ) (hold shr:AO)
 hfr:rG L o.fr hold
 len:ρ0.length=κ.n
 hk:κ.cs.kind=.function
 hnf:κ.nf<=κ.n
 fits:o.Fits κ.lv
 hsh:∀q∈shr,q∈hold/\q.1∉aZ o.fr
 hcl:∀x i,κ.cm.lookup x=some i->∃a,ρ0[i]?=some a/\cl.lookup x=some a
section
variable{w:World}{κ:CK}
noncomputable def Cx.env(c:Cx w κ):Env:={ scope:=κ.cs,locals:=c.L,globals:=mainGlobals,cells:=c.cl,qual:=c.qn,func:=c.fo,code:=c.ccd,frame:=c.frm,builtins:=builtinsNs }
noncomputable def Cx.A(c:Cx w κ):Around:=c.o.A
structure aT(c:Cx w κ)(s:Shared):Prop where
 eq:s={ c.sj0 with heap:=s.heap,gens:=s.gens,drawn:=s.drawn,toks:=s.toks }
 gx:aN [] c.sj0.gens s.gens
structure eK(c:Cx w κ)(o:List SO)(ρ:LQ)(os:List Obj)(H:AO):Prop where
 hl:ρ.length=os.length
 hg:o.length=os.length
 ho:∀(i:Nat) (so:SO) (x:Obj),o[i]?=some so->os[i]?=some x->so.Is w ρ x
 nd:ρ.Nodup
 pre:c.ρ0<+:ρ
 ap:∀q∈H,q.1∉ρ.drop κ.nf
 kp:aw (aZ c.o.fr) c.hold H
 sh:∀(i:Nat) a x,i<κ.nf->ρ[i]?=some a->os[i]?=some x->(a,x)∈c.shr
def cY(l:List (Str×SV))(ρ:LQ)(m:OV):Prop:=∀x v,l.lookup x=some v->∃u,m x=some u/\v.Is ρ u
noncomputable abbrev aS(ρ:LQ)(os:List Obj)(H:AO):AO:=ρ.zip os++H
inductive ad(c:Cx w κ)(Γ:G)(ρ:LQ)(s:Shared):Prop
|mk (m:OV) (os:List Obj) (H:AO) (F:Fr c.o.g c.L s.heap m) (N:News c.o.g c.L s.heap (aS ρ os H)) (hm:cY Γ.m ρ m) (LY:eK c Γ.o ρ os H) (hs:aT c s)
def Ev(c:Cx w κ)(Γ:G)(e:Expr)(v:SV)(Γ':G):Prop:=∀ρ s (Q:VS) (E:VS),ad c Γ ρ s->(∀u ρ' s',ρ<+:ρ'->v.Is ρ' u->ad c Γ' ρ' s'->Q u s')->wpAny (model PR w) c.A (eval e c.env) Q E s
def jn(c:Cx w κ)(Γ:G)(es:List Expr)(vs:List SV)(Γ':G):Prop:=∀pos ρ s (Q:List Value->Shared->Prop) (E:VS),ad c Γ ρ s->(∀us ρ' s',ρ<+:ρ'->bh ρ' vs us->ad c Γ' ρ' s'->Q us s')->wpAny (model PR w) c.A (spliced (backTo pos (starEach es c.env))) Q E s
def cb(c:Cx w κ)(Γ:G)(e:Expr)(φ:Prop)(Γ':G):Prop:=∀ρ s (Q:Bool->Shared->Prop) (E:VS),ad c Γ ρ s->(∀b ρ' s',ρ<+:ρ'->(b=true<->φ)->ad c Γ' ρ' s'->Q b s')->wpAny (model PR w) c.A (isTrue e c.env (eval e c.env)) Q E s
def ax(c:Cx w κ)(Γ:G)(f:SV)(vs:List SV)(kw:List (Str×SV))(v:SV)(Γ':G):Prop:=∀ρ s (Q:VS) (E:VS) (fv:Value) (us:LW) (ks:List (Str×Value)),ad c Γ ρ s->f.Is ρ fv->bh ρ vs us ->
 ks.map (·.1)=kw.map (·.1)->bh ρ (kw.map (·.2)) (ks.map (·.2))->(∀u ρ' s',ρ<+:ρ'->v.Is ρ' u->ad c Γ' ρ' s'->Q u s')->wpAny (model PR w) c.A (call fv us ks) Q E s
def ae(c:Cx w κ)(Γ:G)(f:Addr)(vs:List SV)(kw:List (Str×SV))(v:SV)(Γ':G):Prop:=∀ρ s (R:RS) (us:LW) (ks:List (Str×Value)),ad c Γ ρ s->bh ρ vs us ->
 ks.map (·.1)=kw.map (·.1)->bh ρ (kw.map (·.2)) (ks.map (·.2))->(∀u ρ' s',ρ<+:ρ'->v.Is ρ' u->ad c Γ' ρ' s'->R (.ok (.ret u)) s')->codeAny (model PR w) c.A (.call (.ref f) ⟨us,ks⟩) R s
theorem ae.cal{c:Cx w κ}{Γ Γ':G}{f:Addr}{vs:List SV}{kw:List (Str×SV)}{v:SV}(h:ae c Γ f vs kw v Γ'):ax c Γ (.val (.ref f)) vs kw v Γ':=fun ρ s Q E fv us ks S hf hv h1 h2 K=>by
 obtain rfl:=hf.valI
 exact wpAny_call (h ρ s _ us ks S hv h1 h2 K)
inductive SF
|next|brk|cont
|ret (v:SV)
inductive SF.Is(ρ:LQ):SF->Flow->Prop
|next:SF.Is ρ .next .next
|brk:SF.Is ρ .brk .brk
|cont:SF.Is ρ .cont .cont
|ret {v:SV} {u:Value} (h:v.Is ρ u):SF.Is ρ (.ret v) (.ret u)
noncomputable def Ex(c:Cx w κ)(Γ:G)(ss:LS)(P:SF->G->Prop):Prop :=
 ∀ρ s (Q:Flow->Shared->Prop) (E:VS),PassesOwn (model PR w) c.A c.env E->ad c Γ ρ s->(∀f fl ρ' Γ' s',P f Γ'->f.Is ρ' fl->ad c Γ' ρ' s'->Q fl s')->wpAny (model PR w) c.A (execs ss c.env) Q E s
noncomputable def bJ(c:Cx w κ)(Γ:G)(st:Stmt)(P:SF->G->Prop):Prop :=
 ∀ρ s (Q:Flow->Shared->Prop) (E:VS),PassesOwn (model PR w) c.A c.env E->ad c Γ ρ s->(∀f fl ρ' Γ' s',P f Γ'->f.Is ρ' fl->ad c Γ' ρ' s'->Q fl s')->wpAny (model PR w) c.A (exec st c.env) Q E s
end
section
variable{w:World}{κ:CK}{c:Cx w κ}{Γ Γ₁ Γ2 Γ3:G}
theorem aT.toks{s:Shared}(h:aT c s)(tk:Tok):aT c { s with toks:=tk }:=⟨by exact aa (h.eq ..) rfl,h.gx⟩
theorem aT.heap{s:Shared}(h:aT c s)(hp:Heap)(tk:Tok):aT c { s with heap:=hp,toks:=tk }:=⟨by exact aa (h.eq ..) rfl,h.gx⟩
theorem ad.toks{ρ:LQ}{s:Shared}(h:ad c Γ ρ s)(tk:Tok):ad c Γ ρ { s with toks:=tk }:=by
 cases h with|mk m os H F N hm LY hs=>exact .mk m os H F N hm LY (hs.toks tk)
theorem Ev.name{x:Str}{pos:Pos}{v:SV}(h:Γ.m.lookup x=some v)(hx:κ.cs.names.lookup x=some .local:=by exact vS)(hd:(x == ("__debug__":Str))=false:=by exact vF):Ev c Γ (.Name x pos) v Γ:=by
 intro ρ s Q E S k
 have S':=S
 obtain⟨m,os,H,F,N,hm,LY,hs⟩:=S
 obtain⟨u,h1,h2⟩:=hm x v h
 exact wpAny_Name (wpAny_loadName_local c.hk (by exact hx) F.ns h1 (k u ρ s (ZN _) h2 S')) hd
theorem Ev.intE{i:Int}{k:Nat}{pos:Pos}:Ev c Γ (.Constant (.int i) k pos) (.int i) Γ:=fun ρ s Q E S h =>
 wpAny_Constant_int (h _ ρ _ (ZN _) (.int _ _) (S.toks _))
theorem Ev.binop{l r:Expr}{op:Operator}{pos:Pos}{a b v:SV}(hl:Ev c Γ l a Γ₁)(hr:Ev c Γ₁ r b Γ2)
  (ho:∀ρ x y,a.Is ρ x->b.Is ρ y->∀s (Q:VS) E,(∀u tk,v.Is ρ u->Q u { s with toks:=tk })->wpAny (model PR w) c.A (binaryOp op x y) Q E s):Ev c Γ (.BinOp l op r pos) v Γ2:=fun ρ s Q E S k=>by
 refine wpAny_BinOp (hl ρ s _ E S fun x ρ1 sj1 hp1 h1 Sj1=>?_)
 refine hr ρ1 sj1 _ E Sj1 fun y ρ₂ sj2 hp2 h2 Sj2=>?_
 exact ho ρ₂ x y (h1.up hp2) h2 sj2 Q E fun u tk hu=>k u ρ₂ _ (hp1.trans hp2) hu (Sj2.toks tk)
end
section
variable{w:World}{κ:CK}{c:Cx w κ}{Γ Γ₁ Γ2 Γ3 Γ4:G}{ρ:LQ}{s:Shared}
noncomputable def G.put(Γ:G)(x:Str)(v:SV):G:={ Γ with m:=(x,v)::Γ.m }
noncomputable def G.setO(Γ:G)(i:Nat)(so:SO):G:={ Γ with o:=Γ.o.set i so }
noncomputable def G.addO(Γ:G)(so:SO):G:={ Γ with o:=Γ.o++[so] }
theorem au{os:List Obj}{i:Nat}{a:Addr}{o:Obj}(h1:ρ[i]?=some a)(h2:os[i]?=some o):(a,o)∈ρ.zip os:=by
 obtain⟨h,e⟩:=ZB.mp h1
 obtain⟨h',e'⟩:=ZB.mp h2
 refine ZF.mpr ⟨i,by refine aa (List.length_zip ..) ?_;exact(aJ [.l .a .b,.l .a .c,.I .d .b .c] (.l .a .d)) h h' (iX _ _),?_⟩
 exact aa (List.getElem_zip ..) (aa (e ..) (aa (e' ..) rfl))
theorem tX{x:Int}(h:0<=x):(x+1).toNat=x.toNat+1:=by obtain⟨n,rfl⟩:=Int.eq_ofNat_of_zero_le h;rfl
theorem sP{x y:Int}(hy:0<y)(h:x<y):x.toNat<y.toNat:=(Int.toNat_lt_toNat hy).mpr h
theorem sS(n:Nat):(-1+(n:Int)).toNat=n-1:=by
 refine aa (Int.add_comm ..) ?_
 exact Int.toNat_sub n 1
theorem nS{n i m:Nat}(h:n-i=m+1):n-(i+1)=m:=by refine aa (Nat.sub_add_eq ..) (aa (h ..) ?_);rfl
theorem nL{n i:Nat}(h:i<n):n-(i+1)<n-i:=Nat.sub_lt_sub_left h (Nat.lt_succ_self i)
theorem eK.slot{l:List SO}{os:List Obj}{H:AO}(LY:eK c l ρ os H){i:Nat}{so:SO}(h:l[i]?=some so):sI w ρ os (aS ρ os H) i so:=by
 have hi:=(ZB.mp h).1
 have:=LY.hg
 have:=LY.hl
 have h1:ρ[i]?=some (ρ[i]'(by exact(aJ [.l .a .b,.e .d .c,.e .b .c] (.l .a .d)) hi this ‹_›)):=ZA _
 have h2:os[i]?=some (os[i]'(by exact Za ‹_› ‹_›)):=ZA _
 exact⟨_,_,h1,h2,LY.ho _ _ _ h h2,ZD _ (au h1 h2)⟩
theorem ad.put(S:ad c Γ ρ s){x:Str}{v:SV}{u:Value}(hv:v.Is ρ u){Q:UQ}{E:VS}(hx:κ.cs.names.lookup x=some .local)
  (k:∀h' tk,ad c (Γ.put x v) ρ { s with heap:=h',toks:=tk }->Q () { s with heap:=h',toks:=tk }):wpAny (model PR w) c.A (storeName c.env x u) Q E s:=by
 obtain⟨m,os,H,F,N,hm,LY,hs⟩:=S
 refine wpAny_storeName_local (by exact hx) F.ns (fun h' hn hs'=>k h' _ (.mk _ os H (F.set hn hs') (N.set hs') (fun y v' hy=>?_) LY (hs.heap h' _))) (by show (κ.cs.kind == .class||(κ.cs.kind == .module&&c.L != mainGlobals))=false;refine aa (c.hk ..) ?_;rfl)
 simp only[G.put,List.lookup_cons] at hy
 by_cases e:y=x
 ·subst e
  simp only[beq_self_eq_true] at hy
  obtain rfl:=ZK hy
  exact⟨u,if_pos rfl,hv⟩
 ·have hb:(y == x)=false:=beq_eq_false_iff_ne.mpr e
  rw[hb] at hy
  obtain⟨u',h1,h2⟩:=hm y v' hy
  exact⟨u',by refine aa (if_neg e ..) ?_;exact h1,h2⟩
theorem kz{a:Addr}{o:Obj}:∀{ρ:LQ} {os:List Obj} {i:Nat},ρ.Nodup->ρ[i]?=some a->os[i]?=some o->∀o',Upd a o o' (ρ.zip os) (ρ.zip (os.set i o'))
|[],_,i,_,h,_,_=>by cases i <;> exact nomatch h
|_::_,[],i,_,_,h,_=>by cases i <;> exact nomatch h
|b::ρ,p::os,0,nd,h1,h2,o'=>by
  obtain rfl:=ZK h1;obtain rfl:=ZK h2
  exact .head fun q hq e=>(List.nodup_cons.mp nd).1 (e▸(Zz hq).1)
|b::ρ,p::os,i+1,nd,h1,h2,o'=>by
  refine .tail (fun e=>?_) (kz (List.nodup_cons.mp nd).2 h1 h2 o')
  have e2:b=a:=e
  exact(List.nodup_cons.mp nd).1 (e2▸ZQ h1)
theorem lk{d:Addr}{o o':Obj}{l l' r:AO}(h:Upd d o o' l l')(hr:∀q∈r,q.1≠d):Upd d o o' (l++r) (l'++r):=by
 induction h with
|head h=>exact .head fun q hq=>(ZS.mp hq).elim (h q) (hr q)
|tail h _ ih=>exact .tail h ih
theorem bD{α:Type}{l:List α}{n i:Nat}{a:α}(h:l[i]?=some a)(hi:n<=i):a∈l.drop n :=
 List.mem_iff_getElem?.mpr ⟨i-n,by refine aa (List.getElem?_drop ..) (aa (Nat.add_sub_cancel' hi ..) ?_);exact h⟩
theorem eK.upd{l:List SO}{os:List Obj}{H:AO}(LY:eK c l ρ os H){i:Nat}{a:Addr}{o:Obj}(h1:ρ[i]?=some a)(h2:os[i]?=some o)(o':Obj)(hz:κ.nf<=i):Upd a o o' (aS ρ os H) (aS ρ (os.set i o') H) :=
 lk (kz LY.nd h1 h2 o') fun q hq e=>LY.ap q hq (e▸bD h1 hz)
theorem eK.set{l:List SO}{os:List Obj}{H:AO}(LY:eK c l ρ os H){i:Nat}{so:SO}{o':Obj}(hi:so.Is w ρ o')(hz:κ.nf<=i):eK c (l.set i so) ρ (os.set i o') H:=by
 refine⟨by refine aa (Zn ..) ?_;exact LY.hl,by refine aa (Zn ..) (aa (Zn ..) ?_);exact LY.hg,fun j so' o2 h1 h2=>?_,LY.nd,LY.pre,LY.ap,LY.kp,fun j a x hj h1 h2=>LY.sh j a x hj h1 (by rwa [List.getElem?_set_ne (Nat.ne_of_gt (ZY hj hz))] at h2)⟩
 by_cases e:i=j
 ·subst e
  rw[List.getElem?_set_self' ] at h1 h2
  cases hq:l[i]? with
 |none=>rw[hq] at h1;exact nomatch h1
 |some x =>
   rw[hq] at h1;obtain rfl:=ZK h1
   cases hq2:os[i]? with
  |none=>rw[hq2] at h2;exact nomatch h2
  |some y=>rw[hq2] at h2;obtain rfl:=ZK h2;exact hi
 ·rw[List.getElem?_set_ne e] at h1 h2
  exact LY.ho j so' o2 h1 h2
theorem ad.set{m:OV}{os:List Obj}{H:AO}(hm:cY Γ.m ρ m)(LY:eK c Γ.o ρ os H){i:Nat}{so:SO}{o':Obj}(hi:so.Is w ρ o')(F:Fr c.o.g c.L s.heap m)(N:News c.o.g c.L s.heap (aS ρ (os.set i o') H))(hs:aT c s)(hz:κ.nf<=i):ad c (Γ.setO i so) ρ s :=
 .mk m (os.set i o') H F N hm (LY.set hi hz) hs
theorem cY.up{l:List (Str×SV)}{ρ':LQ}{m:OV}(h:cY l ρ m)(hp:ρ<+:ρ'):cY l ρ' m:=fun x v e=>by
 obtain⟨u,h1,h2⟩:=h x v e
 exact⟨u,h1,h2.up hp⟩
theorem eK.nfl{l:List SO}{os:List Obj}{H:AO}(LY:eK c l ρ os H):κ.nf<=ρ.length:=ZW c.hnf (c.len▸LY.pre.length_le)
theorem eK.add{l:List SO}{os:List Obj}{H:AO}(LY:eK c l ρ os H){so:SO}{q:Addr}{o':Obj}(hi:so.Is w (ρ++[q]) o')(hq:∀p∈aS ρ os H,p.1≠q):eK c (l++[so]) (ρ++[q]) (os++[o']) H:=by
 have hp:ρ<+:ρ++[q]:=ZO _ _
 have hl:=LY.hl
 have hg:=LY.hg
 have hnf:=LY.nfl
 refine⟨by simp[hl],by simp[hg],fun j so' o2 h1 h2=>?_,?_,LY.pre.trans hp,fun z hz hm=>?_,LY.kp,fun j a x hj h1 h2=>?_⟩
 ·rcases Zq j l.length with hj|hj
  ·rw[ZH hj] at h1
   rw[ZH (hg▸hj)] at h2
   exact(LY.ho j so' o2 h1 h2).up hp
  ·rw[ZI hj] at h1
   rw[ZI (hg▸hj)] at h2
   rw[hg] at h1
   cases hk:j-os.length with
  |zero=>rw[hk] at h1 h2;obtain rfl:=ZK h1;obtain rfl:=ZK h2;exact hi
  |succ n=>rw[hk] at h1;exact nomatch h1
 ·refine List.nodup_append.mpr ⟨LY.nd,by simp,fun a ha b hb e=>?_⟩
  obtain rfl:=ZP.mp hb
  subst e
  obtain⟨i,hi',e⟩:=ZF.mp ha
  have h1:ρ[i]?=some a:=by exact aa (ZA hi' ..) (aa (e ..) vS)
  exact hq _ (ZD _ (au h1 (ZA (h:=hl▸hi')))) rfl
 ·rw[List.drop_append] at hm
  rcases ZS.mp hm with hm|hm
  ·exact LY.ap z hz hm
  ·exact hq z (ZC _ hz) (ZP.mp (List.mem_of_mem_drop hm))
 ·rw[ZH (by lia)] at h1 h2
  exact LY.sh j a x hj h1 h2
theorem ad.add{m:OV}{os:List Obj}{H:AO}(hm:cY Γ.m ρ m)(LY:eK c Γ.o ρ os H){so:SO}{q:Addr}{o':Obj}(hi:so.Is w (ρ++[q]) o')(hq:∀p∈aS ρ os H,p.1≠q)(F:Fr c.o.g c.L s.heap m)(N:News c.o.g c.L s.heap ((q,o')::aS ρ os H))(hs:aT c s):ad c (Γ.addO so) (ρ++[q]) s:=by
 refine .mk m (os++[o']) H F (fun p hp=>N p ?_) (hm.up (ZO _ _)) (LY.add hi hq) hs
 unfold aS at hp ⊢
 rw[List.zip_append LY.hl] at hp
 rcases ZS.mp hp with hp|hp
 ·rcases ZS.mp hp with hp|hp
  ·exact .tail _ (ZD _ hp)
  ·refine aa (ZP.mp hp ..) ?_;exact .head _
 ·exact .tail _ (ZC _ hp)
theorem Ev.glob{x:Str}{pos:Pos}{v:Value}(e:nsIn (hd.heap_1 w.params) mainGlobals x=some (some v))(hx:κ.cs.names.lookup x=some .globalImplicit:=by exact vS)(hd:(x == ("__debug__":Str))=false:=by exact vF):Ev c Γ (.Name x pos) (.val v) Γ:=by
 intro ρ s Q E S k
 have S':=S
 obtain⟨m,os,H,F,N,hm,LY,hs⟩:=S
 exact Name_function_global c.hk (by exact hx) (loadGlobal_global (env:=c.env) (c.o.T.g.keeps F.keep) (mg_of c.o.X c.o.T.g e) (k v ρ s (ZN _) (.val _) S')) hd
theorem Ev.bi{x:Str}{pos:Pos}{v:Value}(e:nsIn (hd.heap_1 w.params) mainGlobals x=some none)(hv:bootBuiltins x=some v)(hn:x ≠ "__name__":=by decide)(hx:κ.cs.names.lookup x=some .globalImplicit:=by exact vS)(hd:(x == ("__debug__":Str))=false:=by exact vF):Ev c Γ (.Name x pos) (.val v) Γ:=by
 intro ρ s Q E S k
 have S':=S
 obtain⟨m,os,H,F,N,hm,LY,hs⟩:=S
 exact Name_function_global c.hk (by exact hx) (loadGlobal_builtin (env:=c.env) (c.o.T.g.keeps F.keep) (mg_none_of c.o.X c.o.T.g e) (c.o.T.b.keeps F.keep) ((c.o.T.builtins x hn).trans hv) (k v ρ s (ZN _) (.val _) S')) hd
theorem Ev.nonE{k:Nat}{pos:Pos}:Ev c Γ (.Constant .none k pos) (.val .none) Γ:=fun ρ s Q E S h=>wpAny_Constant_none (h _ ρ _ (ZN _) (.val _) S)
theorem Ev.boolE{b:Bool}{k:Nat}{pos:Pos}:Ev c Γ (.Constant (.bool b) k pos) (.val (.bool b)) Γ:=fun ρ s Q E S h=>Constant_bool (h _ ρ _ (ZN _) (.val _) S)
def cZ(w:World)(op:Operator)(a b z:Int):Prop:=∀(A:Around) t u (s:Shared) (Q:VS) (E:VS),(∀t' tk,Q (.int z t') { s with toks:=tk })->wpAny (model PR w) A (binaryOp op (.int a t) (.int b u)) Q E s
theorem cZ.add{a b:Int}:cZ w .Add a b (a+b):=fun O O O O O O h=>add_int (h _ _)
theorem cZ.sub{a b:Int}:cZ w .Sub a b (a-b):=fun O O O O O O h=>sub_int (h _ _)
theorem cZ.mul{a b:Int}(hm:IntMulOk a b):cZ w .Mult a b (a*b):=fun O O O O O O h=>mul_int (h _ _) hm
theorem cZ.and{a b:Int}:cZ w .BitAnd a b (Builtin.bitAnd a b):=fun O O O O O O h=>and_int (h _ _)
theorem cZ.shl{a b:Int}(h0:0<=b)(h1:(Builtin.Int.intBits a:Int)+b<=2^27):cZ w .LShift a b (a*2^b.toNat):=fun O O O O O O h=>lshift_int h0 h1 (h _ _)
theorem cZ.shr{a b:Int}(h0:0<=b):cZ w .RShift a b (a.fdiv (2^b.toNat)):=fun O O O O O O h=>rshift_int h0 (h _ _)
theorem cZ.mod{a b:Int}(h0:b≠0):cZ w .Mod a b (a.fmod b):=fun O O O O O O h=>mod_int' h0 (h _ _)
theorem cZ.div{a b:Int}(h0:b≠0)(h1:Builtin.divisionGoesByPylong a b=false):cZ w .FloorDiv a b (a.fdiv b):=fun O O O O O O h=>floordiv_int h0 (h _ _) (.inl h1)
theorem Ev.iop{l r:Expr}{op:Operator}{pos:Pos}{a b z:Int}(hl:Ev c Γ l (.int a) Γ₁)(hr:Ev c Γ₁ r (.int b) Γ2)(ho:cZ w op a b z):Ev c Γ (.BinOp l op r pos) (.int z) Γ2 :=
 Ev.binop hl hr fun ρ x y hx hy s Q E k=>by
  obtain⟨_,rfl⟩:=hx.intI;obtain⟨_,rfl⟩:=hy.intI
  exact ho _ _ _ s Q E fun t' tk=>k _ tk (.int _ _)
theorem Ev.neg{e:Expr}{pos:Pos}{a:Int}(h:Ev c Γ e (.int a) Γ₁):Ev c Γ (.UnaryOp .USub e pos) (.int (-a)) Γ₁:=fun ρ s Q E S k =>
 UnaryOp_ (h ρ s _ E S fun u ρ1 sj1 hp h1 Sj1=>by
  obtain⟨_,rfl⟩:=h1.intI
  exact neg_int (k _ ρ1 _ hp (.int _ _) (Sj1.toks _)))
theorem Ev.inv{e:Expr}{pos:Pos}{a:Int}(h:Ev c Γ e (.int a) Γ₁):Ev c Γ (.UnaryOp .Invert e pos) (.int (Builtin.bitNot a)) Γ₁:=fun ρ s Q E S k =>
 UnaryOp_ (h ρ s _ E S fun u ρ1 sj1 hp h1 Sj1=>by
  obtain⟨_,rfl⟩:=h1.intI
  exact invert_int (k _ ρ1 _ hp (.int _ _) (Sj1.toks _)))
def d4(op:CmpOp)(a b:Int)(φ:Prop):Prop:=∀(w:World) (A:Around) t u (s:Shared) (Q:VS) (E:VS),(∀r:Bool,(r=true<->φ)->Q (.bool r) s)->wpAny (model PR w) A (compareOp op (.int a t) (.int b u)) Q E s
theorem d4.lt{a b:Int}:d4 .Lt a b (a<b):=fun O O O O O O O h=>lt_int (h _ (by exact decide_eq_true_iff))
theorem d4.le{a b:Int}:d4 .LtE a b (a<=b):=fun O O O O O O O h=>le_int (h _ (by exact decide_eq_true_iff))
theorem d4.gt{a b:Int}:d4 .Gt a b (b<a):=fun O O O O O O O h=>gt_int (h _ (by exact decide_eq_true_iff))
theorem d4.ge{a b:Int}:d4 .GtE a b (b<=a):=fun O O O O O O O h=>ge_int (h _ (by exact decide_eq_true_iff))
theorem d4.eq{a b:Int}:d4 .Eq a b (a=b):=fun O O O O O O O h=>eq_int (h _ (by exact decide_eq_true_iff))
theorem d4.ne{a b:Int}:d4 .NotEq a b (a≠b):=fun O O O O O O O h=>ne_int (h _ (by simp))
theorem Ev.icmp{l r:Expr}{op:CmpOp}{pos:Pos}{a b:Int}{φ:Prop}{v:Bool}(hl:Ev c Γ l (.int a) Γ₁)(hr:Ev c Γ₁ r (.int b) Γ2)(ho:d4 op a b φ)(hv:v=true<->φ)(hm:behindInMarks op r=false:=by with_unfolding_all rfl):Ev c Γ (.Compare l [op] [r] pos) (.val (.bool v)) Γ2:=fun ρ s Q E S k=>by
 refine wpAny_Compare1 (hl ρ s _ E S fun x ρ1 sj1 hp1 h1 Sj1=>?_) hm
 obtain⟨_,rfl⟩:=h1.intI
 refine hr ρ1 sj1 _ E Sj1 fun y ρ₂ sj2 hp2 h2 Sj2=>?_
 obtain⟨_,rfl⟩:=h2.intI
 refine ho w c.A _ _ sj2 Q E fun r' hr'=>?_
 have e:r'=v:=Bool.eq_iff_iff.mpr (hr'.trans hv.symm)
 exact k _ ρ₂ _ (hp1.trans hp2) (e▸.val _) Sj2
theorem cb.icmp{l r:Expr}{op:CmpOp}{pos:Pos}{a b:Int}{φ:Prop}(hl:Ev c Γ l (.int a) Γ₁)(hr:Ev c Γ₁ r (.int b) Γ2)(ho:d4 op a b φ)(hm:behindInMarks op r=false:=by with_unfolding_all rfl):cb c Γ (.Compare l [op] [r] pos) φ Γ2:=fun ρ s Q E S k=>by
 refine wpAny_isTrue_Compare1 (hl ρ s _ E S fun x ρ1 sj1 hp1 h1 Sj1=>?_) hm
 obtain⟨_,rfl⟩:=h1.intI
 refine hr ρ1 sj1 _ E Sj1 fun y ρ₂ sj2 hp2 h2 Sj2=>?_
 obtain⟨_,rfl⟩:=h2.intI
 refine ho w c.A _ _ sj2 _ E fun r' hr'=>wpAny_truthy_bool (k _ ρ₂ _ (hp1.trans hp2) hr' Sj2)
def pG(c:Cx w κ)(Γ:G)(v:SV)(φ:Prop):Prop:=∀ρ (s:Shared) (Q:Bool->Shared->Prop) (E:VS) u,ad c Γ ρ s->v.Is ρ u->(∀b tk,(b=true<->φ)->Q b { s with toks:=tk })->wpAny (model PR w) c.A (truthy u) Q E s
theorem pG.int{z:Int}:pG c Γ (.int z) (z≠0):=fun ρ s Q E u S h k=>by
 obtain⟨_,rfl⟩:=h.intI;exact truthy_int (k _ s.toks (by simp))
theorem pG.none:pG c Γ (.val .none) False:=fun ρ s Q E u S h k=>by
 obtain rfl:=h.valI;exact truthy_none (k _ s.toks (by exact iff_of_false Bool.false_ne_true id))
theorem pG.bool{b:Bool}:pG c Γ (.val (.bool b)) (b=true):=fun ρ s Q E u S h k=>by
 obtain rfl:=h.valI;exact wpAny_truthy_bool (k _ s.toks Iff.rfl)
theorem ad.nums(S:ad c Γ ρ s){i:Nat}{bs:LI}(h:Γ.o[i]?=some (.nums bs)):sL c.o.g c.L s.heap ρ i bs:=by
 obtain⟨m,os,H,F,N,hm,LY,hs⟩:=S
 obtain⟨a,o,ha,_,hi,hm⟩:=LY.slot h
 obtain⟨_,_,rfl,hI⟩:=hi.numsI;exact⟨a,_,_,_,ha,hI,N,hm⟩
theorem aK{h:Heap}{a:Addr}{vs:LW}{k:Nat}(e:h.get? a=some (listOf vs.toArray k)):h.IsList a vs.toArray:=⟨_,e,rfl,_,rfl⟩
theorem pG.nums{i:Nat}{bs:LI}(h:Γ.o[i]?=some (.nums bs))(hl:bs.length<2^62):pG c Γ (.ref i) (0<bs.length):=fun ρ s Q E u S hv k=>by
 obtain⟨a,vs,n,os,ha,hI,N,hg⟩:=S.nums h
 obtain rfl:=hv.refAt ha
 exact truthy_ints_fit (aK (N _ hg).1) hI hl (k _ _ (by exact decide_eq_true_iff))
theorem cb.plain{e:Expr}{v:SV}{φ:Prop}(h:Ev c Γ e v Γ₁)(ht:pG c Γ₁ v φ)(he:∀env whole,PySem.isTrue e env whole=(do let v <- whole;standAt e.pos;holding [v] (truthy v)):=by intros;rfl):cb c Γ e φ Γ₁:=fun ρ s Q E S k =>
 isTrue_plain (h ρ s _ E S fun u ρ1 sj1 hp h1 Sj1=>by
  exact ht ρ1 sj1 Q E u Sj1 h1 fun b tk hb=>k b ρ1 _ hp hb (Sj1.toks tk)) (he _ _)
theorem cb.not{e:Expr}{pos:Pos}{φ:Prop}(h:cb c Γ e φ Γ₁):cb c Γ (.UnaryOp .Not e pos) (¬φ) Γ₁:=fun ρ s Q E S k =>
 isTrue_not (h ρ s _ E S fun b ρ1 sj1 hp h1 Sj1=>k _ ρ1 _ hp (by rw[<- h1];cases b <;> simp) Sj1)
end
section
variable{w:World}{κ:CK}{c:Cx w κ}{Γ Γ₁ Γ2 Γ3 Γ4:G}{ρ:LQ}{s:Shared}
theorem cb.and_nil{pos:Pos}:cb c Γ (.BoolOp .And [] pos) True Γ:=fun ρ s Q E S k=>isTrue_and_nil (k _ ρ _ (ZN _) (by exact iff_of_true rfl trivial) S)
theorem cb.or_nil{pos:Pos}:cb c Γ (.BoolOp .Or [] pos) False Γ:=fun ρ s Q E S k=>isTrue_or_nil (k _ ρ _ (ZN _) (by exact iff_of_false Bool.false_ne_true id) S)
theorem cb.and{e:Expr}{es:List Expr}{pos:Pos}{φ ψ:Prop}(h:cb c Γ e φ Γ)(h2:φ->cb c Γ (.BoolOp .And es pos) ψ Γ):cb c Γ (.BoolOp .And (e::es) pos) (φ/\ψ) Γ:=fun ρ s Q E S k =>
 isTrue_and (h ρ s _ E S fun b ρ1 sj1 hp h1 Sj1=>by
  cases b with
 |false=>exact k false ρ1 sj1 hp (by simp[<- h1]) Sj1
 |true=>exact h2 (h1.mp vT) ρ1 sj1 Q E Sj1 fun b2 ρ₂ sj2 hp2 q Sj2=>k b2 ρ₂ sj2 (hp.trans hp2) (by rw[q];simp[<- h1]) Sj2)
theorem cb.or{e:Expr}{es:List Expr}{pos:Pos}{φ ψ:Prop}(h:cb c Γ e φ Γ)(h2:¬φ->cb c Γ (.BoolOp .Or es pos) ψ Γ):cb c Γ (.BoolOp .Or (e::es) pos) (φ\/ψ) Γ:=fun ρ s Q E S k =>
 isTrue_or (h ρ s _ E S fun b ρ1 sj1 hp h1 Sj1=>by
  cases b with
 |true=>exact k true ρ1 sj1 hp (by simp[<- h1]) Sj1
 |false=>exact h2 (fun q=>by simpa using h1.mpr q) ρ1 sj1 Q E Sj1 fun b2 ρ₂ sj2 hp2 q Sj2=>k b2 ρ₂ sj2 (hp.trans hp2) (by rw[q];simp[<- h1]) Sj2)
theorem Ev.ifexp{test a b:Expr}{pos:Pos}{φ:Prop}{v:SV}(h:cb c Γ test φ Γ₁)(h1:φ->Ev c Γ₁ a v Γ2)(h2:¬φ->Ev c Γ₁ b v Γ2):Ev c Γ (.IfExp test a b pos) v Γ2:=fun ρ s Q E S k =>
 IfExp_ (h ρ s _ E S fun r ρ1 sj1 hp q Sj1=>by
  cases r with
 |true=>exact h1 (q.mp vT) ρ1 sj1 Q E Sj1 fun u ρ₂ sj2 hp2=>k u ρ₂ sj2 (hp.trans hp2)
 |false=>exact h2 (fun z=>by simpa using q.mpr z) ρ1 sj1 Q E Sj1 fun u ρ₂ sj2 hp2=>k u ρ₂ sj2 (hp.trans hp2))
set_option tactic.hygienic true in
theorem jZ{es:List (Str×SV)}{ds:List DictEntry}(h:aQ w ρ es ds){x:Str}{v:SV}(e:es.lookup x=some v):∃u,getL x ds=some (some u)/\v.Is ρ u:=by
 induction h with
|nil=>exact nomatch e
|cons t' hv r ih =>
  rename_i x' v' u' es' ds'
  simp only[List.lookup_cons] at e
  by_cases q:x=x'
  ·subst q
   simp only[beq_self_eq_true] at e
   obtain rfl:=ZK e
   refine⟨u',?_,hv⟩
   unfold getL
   simp[Value.isStr]
  ·have hb:(x == x')=false:=beq_eq_false_iff_ne.mpr q
   rw[hb] at e
   obtain⟨u,h1,h2⟩:=ih e
   refine⟨u,?_,h2⟩
   refine aA (h1 ..) ?_
   unfold getL
   have hb':(Value.str x' t').isStr x=false:=by
    exact beq_eq_false_iff_ne.mpr (Ne.symm q)
   simp[List.find?_cons,hb',DictEntry.refKey]
set_option tactic.hygienic true in
theorem cf{es:List (Str×SV)}{ds:List DictEntry}(h:aQ w ρ es ds){x:Str}(e:es.lookup x=none):getL x ds=some none:=by
 induction h with
|nil=>rfl
|cons t' hv r ih =>
  rename_i x' v' u' es' ds'
  simp only[List.lookup_cons] at e
  by_cases q:x=x'
  ·subst q;simp at e
  ·have hb:(x == x')=false:=beq_eq_false_iff_ne.mpr q
   rw[hb] at e
   refine aA (ih e ..) ?_
   unfold getL
   have hb':(Value.str x' t').isStr x=false:=by
    exact beq_eq_false_iff_ne.mpr (Ne.symm q)
   simp[List.find?_cons,hb',DictEntry.refKey]
structure fk(w:World)(C:Addr)(x:Str):Prop where
 g:plainGet (hd.heap_1 w.params) C x=true
 d:hasDictIn (hd.heap_1 w.params) C=true
 f:∃at_,findIn (hd.heap_1 w.params) (.ref C) x=some at_/\noGet (hd.heap_1 w.params) at_=true
structure am(w:World)(C:Addr)(x:Str)(f:Addr):Prop where
 g:plainGet (hd.heap_1 w.params) C x=true
 fd:findIn (hd.heap_1 w.params) (.ref C) x=some (some (.ref f))
 i:isFn (hd.heap_1 w.params) (.ref f)=true
 k:keepIn (hd.heap_1 w.params) (.ref f)=true
structure dI(w:World)(C:Addr)(x:Str)(f:Addr):Prop where
 g:plainGet (hd.heap_1 w.params) C x=true
 d:hasDictIn (hd.heap_1 w.params) C=true
 fd:findIn (hd.heap_1 w.params) (.ref C) x=some (some (.ref f))
 i:isFn (hd.heap_1 w.params) (.ref f)=true
 s:specialIn (hd.heap_1 w.params) (.ref f) "__get__"=some (some (.builtin "function.__get__"))
 t:takesIn (hd.heap_1 w.params) (.ref f)=some false
 c:copiedNames.contains x=false
theorem bf{os:List Obj}{H:AO}(N:News c.o.g c.L s.heap (aS ρ os H))(LY:eK c Γ.o ρ os H)
  {i d:Nat} {C:Addr} {es:List (Str×SV)} (h1:Γ.o[i]?=some (.inst C d)) (h2:Γ.o[d]?=some (.attrs es)):sM w ρ os s.heap i d C es:=by
 obtain⟨a,o,ha,_,hi,hm⟩:=LY.slot h1
 obtain⟨dx,od,hd,hd',hi',hm'⟩:=LY.slot h2
 obtain⟨_,rfl,h5⟩:=hi.instI
 rw[hd] at h5;obtain rfl:=ZK h5
 obtain⟨_,_,rfl,h6⟩:=hi'.attrsI;exact⟨a,dx,_,_,ha,hd,h6,hd',InstAt.of_news N hm hm'⟩
theorem Ev.attr{x y:Str}{xp pos:Pos}{i d:Nat}{C:Addr}{es:List (Str×SV)}{v:SV}(h:Ev c Γ (.Name x xp) (.ref i) Γ₁)(h1:Γ₁.o[i]?=some (.inst C d))(h2:Γ₁.o[d]?=some (.attrs es))(hv:es.lookup y=some v)
  (hA:fk w C y) (hh:∀ρ u,v.Is ρ u->handedIn u=true):Ev c Γ (.Attribute (.Name x xp) y pos) v Γ₁:=fun ρ s Q E S k =>
 Attribute_Name_ (h ρ s _ E S fun u ρ1 sj1 hp q Sj1=>by
  have S1':=Sj1
  obtain⟨m,os,H,F,N,hm,LY,hs⟩:=Sj1
  obtain⟨a,dx,ds,n,ha,_,hE,_,I⟩:=bf N LY h1 h2
  obtain rfl:=q.refAt ha
  obtain⟨u',g1,g2⟩:=jZ hE hv
  obtain⟨at_,f1,f2⟩:=hA.f
  exact get_own F c.o.X I hA.g hA.d f1 f2 g1 (hh _ _ g2) (k _ ρ1 _ hp g2 (S1'.toks _)))
theorem af{i:Nat}:∀(ρ:LQ) u,(SV.ref i).Is ρ u->handedIn u=true:=fun O O h=>by cases h;rfl
theorem cT{x:Str}:∀(ρ:LQ) u,(SV.str x).Is ρ u->handedIn u=true:=fun O O h=>by obtain⟨_,rfl⟩:=h.strI;rfl
theorem dY{z:Int}:∀(ρ:LQ) u,(SV.int z).Is ρ u->handedIn u=true:=fun O O h=>by obtain⟨_,rfl⟩:=h.intI;rfl
theorem Ev.bound{x y:Str}{xp pos:Pos}{i d:Nat}{C f:Addr}{es:List (Str×SV)}(h:Ev c Γ (.Name x xp) (.ref i) Γ₁)(h1:Γ₁.o[i]?=some (.inst C d))(h2:Γ₁.o[d]?=some (.attrs es))(hv:es.lookup y=none)
  (hA:dI w C y f):Ev c Γ (.Attribute (.Name x xp) y pos) (.ref Γ₁.o.length) (Γ₁.addO (.meth f (.ref i))):=fun ρ s Q E S k =>
 Attribute_Name_ (h ρ s _ E S fun u ρ1 sj1 hp q Sj1=>by
  obtain⟨m,os,H,F,N,hm,LY,hs⟩:=Sj1
  obtain⟨a,dx,ds,n,ha,_,hE,_,I⟩:=bf N LY h1 h2
  obtain rfl:=q.refAt ha
  refine kbm_bound F c.o.X N I hA.g hA.d hA.fd hA.i hA.s hA.t hA.c (cf hE hv) fun q h' F' N' hlt=>?_
  have hp2:ρ1<+:ρ1++[q]:=ZO _ _
  refine k _ (ρ1++[q]) _ (hp.trans hp2) (.ref (by refine aa (LY.hg ..) (aA (LY.hl ..) ?_);simp)) ?_
  exact ad.add (s:={ sj1 with heap:=h',toks:=_ }) hm LY (.meth (.ref (ak hp2 ha))) (fun p hp=>Zb (hlt p hp)) F' N' (hs.heap h' _))
theorem Ev.item{l k:Expr}{pos:Pos}{i:Nat}{bs:LI}{z:Int}(hl:Ev c Γ l (.ref i) Γ₁)(hk:Ev c Γ₁ k (.int z) Γ2)(hn:Γ2.o[i]?=some (.nums bs))(h0:0<=z)(h1:z<bs.length)(h2:z<2^63)
  (hs:∀o i,subscripted k false o i=operate [o,i] (getItem o i):=by intros;with_unfolding_all rfl):Ev c Γ (.Subscript l k pos) (.int (bs.getD z.toNat 0)) Γ2:=fun ρ s Q E S K =>
 Subscript_ (hl ρ s _ E S fun u ρ1 sj1 hp1 q1 Sj1=>by
  refine hk ρ1 sj1 _ E Sj1 fun u2 ρ₂ sj2 hp2 q2 Sj2=>?_
  obtain⟨_,rfl⟩:=q2.intI
  obtain⟨a,vs,n,os,ha,hI,N,hg⟩:=Sj2.nums hn
  obtain rfl:=(q1.up hp2).refAt ha
  exact ksa_sub N hg hI h0 h1 h2 (fun t=>K _ ρ₂ _ (hp1.trans hp2) (.int _ _) Sj2) (hs _ _))
theorem Ev.itemN{l k:Expr}{pos:Pos}{i:Nat}{bs:LI}{z:Int}(hl:Ev c Γ l (.ref i) Γ₁)(hk:Ev c Γ₁ k (.int z) Γ2)(hn:Γ2.o[i]?=some (.nums bs))(h0:z<0)(h1:-(bs.length:Int)<=z)(h2:-2^63<=z)
  (hs:∀o i,subscripted k false o i=operate [o,i] (getItem o i):=by intros;with_unfolding_all rfl):Ev c Γ (.Subscript l k pos) (.int (bs.getD (z+bs.length).toNat 0)) Γ2:=fun ρ s Q E S K =>
 Subscript_ (hl ρ s _ E S fun u ρ1 sj1 hp1 q1 Sj1=>by
  refine hk ρ1 sj1 _ E Sj1 fun u2 ρ₂ sj2 hp2 q2 Sj2=>?_
  obtain⟨_,rfl⟩:=q2.intI
  obtain⟨a,vs,n,os,ha,hI,N,hg⟩:=Sj2.nums hn
  obtain rfl:=(q1.up hp2).refAt ha
  exact item_list_ints_negR (aK (N _ hg).1) hI h0 h1 h2 (fun t=>K _ ρ₂ _ (hp1.trans hp2) (.int _ _) Sj2) (hs _ _))
theorem jn.nil:jn c Γ [] [] Γ:=fun O ρ s Q E S k=>args_nil (k _ ρ _ (ZN _) (.nil) S)
theorem jn.cons{e:Expr}{es:List Expr}{v:SV}{vs:List SV}(h:Ev c Γ e v Γ₁)(hs:jn c Γ₁ es vs Γ2)(he:∀env,starEach (e::es) env=(false,eval e env)::starEach es env:=by intros;rfl):jn c Γ (e::es) (v::vs) Γ2:=fun pos ρ s Q E S k =>
 args_cons (h ρ s _ E S fun u ρ1 sj1 hp1 q1 Sj1=>by
  exact hs pos ρ1 sj1 _ E Sj1 fun us ρ₂ sj2 hp2 q2 Sj2=>k _ ρ₂ _ (hp1.trans hp2) (.cons (q1.up hp2) q2) Sj2) (he _)
theorem bO(S:ad c Γ ρ s):(hd.heap_1 w.params).In s.heap:=by
 cases S with|mk m os H F N hm LY hs=>exact c.o.X.keeps F.keep
theorem Ev.call{x:Str}{xp pos:Pos}{e:Expr}{es:List Expr}{f:Addr}{vs:List SV}{v:SV}(hf:Ev c Γ (.Name x xp) (.val (.ref f)) Γ)(hk:keepIn (hd.heap_1 w.params) (.ref f)=true)(ha:jn c Γ (e::es) vs Γ₁)(hc:ax c Γ₁ (.val (.ref f)) vs [] v Γ2)
  (he:∀env,starEach (e::es) env=(false,eval e env)::starEach es env:=by intros;rfl) (hp:∀env,(backTo pos (starEach es env)).any (·.1)=false:=by intros;rfl):Ev c Γ (.Call (.Name x xp) (e::es) [] pos) v Γ2:=fun ρ s Q E S k =>
 Call_ (hf ρ s _ E S fun u ρ1 sj1 hp1 q1 Sj1=>by
  obtain rfl:=q1.valI
  refine callWith_K (bO Sj1) hk (ha pos ρ1 sj1 _ E Sj1 fun us ρ₂ sj2 hp2 q2 Sj2=>⟨bO Sj2,?_⟩) (he _) (hp _)
  exact hc ρ₂ sj2 Q E _ us [] Sj2 (.val _) q2 rfl .nil fun u ρ3 sj3 hp3 hv S3=>k u ρ3 sj3 ((hp1.trans hp2).trans hp3) hv S3)
theorem Ev.call_bi{x:Str}{xp pos:Pos}{e:Expr}{es:List Expr}{id:String}{vs:List SV}{v:SV}(hf:Ev c Γ (.Name x xp) (.val (.builtin id)) Γ)(ha:jn c Γ (e::es) vs Γ₁)(hc:ax c Γ₁ (.val (.builtin id)) vs [] v Γ2)
  (he:∀env,starEach (e::es) env=(false,eval e env)::starEach es env:=by intros;rfl) (hp:∀env,(backTo pos (starEach es env)).any (·.1)=false:=by intros;rfl):Ev c Γ (.Call (.Name x xp) (e::es) [] pos) v Γ2:=fun ρ s Q E S k =>
 Call_ (hf ρ s _ E S fun u ρ1 sj1 hp1 q1 Sj1=>by
  obtain rfl:=q1.valI
  refine PyProof.Rows.callWith_builtin1 (ha pos ρ1 sj1 _ E Sj1 fun us ρ₂ sj2 hp2 q2 Sj2=>?_) (he _) (hp _)
  exact hc ρ₂ sj2 Q E _ us [] Sj2 (.val _) q2 rfl .nil fun u ρ3 sj3 hp3 hv S3=>k u ρ3 sj3 ((hp1.trans hp2).trans hp3) hv S3)
theorem Ev.call_ty{x:Str}{xp pos:Pos}{e:Expr}{es:List Expr}{T:String}{vs:List SV}{v:SV}(hf:Ev c Γ (.Name x xp) (.val (.type T)) Γ)(ha:jn c Γ (e::es) vs Γ₁)(hc:ax c Γ₁ (.val (.type T)) vs [] v Γ2)
  (he:∀env,starEach (e::es) env=(false,eval e env)::starEach es env:=by intros;rfl) (hp:∀env,(backTo pos (starEach es env)).any (·.1)=false:=by intros;rfl):Ev c Γ (.Call (.Name x xp) (e::es) [] pos) v Γ2:=fun ρ s Q E S k =>
 Call_ (hf ρ s _ E S fun u ρ1 sj1 hp1 q1 Sj1=>by
  obtain rfl:=q1.valI
  refine PySem.Pv.callWith_type1 (ha pos ρ1 sj1 _ E Sj1 fun us ρ₂ sj2 hp2 q2 Sj2=>?_) (he _) (hp _)
  exact hc ρ₂ sj2 Q E _ us [] Sj2 (.val _) q2 rfl .nil fun u ρ3 sj3 hp3 hv S3=>k u ρ3 sj3 ((hp1.trans hp2).trans hp3) hv S3)
def bF(o:Expr)(y:Str)(ap:Pos)(args:List Expr)(pos:Pos):Prop:=∀env,eval (.Call (.Attribute o y ap) args [] pos) env=(do
 let ov <- eval o env
 standAt ap.atName
 let (f,first) <- holding [ov] (getMethod ov y (do return (<- importBound o env).getD true))
 callWith pos f first (backTo pos (starEach args env)) [])
theorem Ev.mcall{o e:Expr}{y:Str}{ap pos:Pos}{es:List Expr}{i d:Nat}{C f:Addr}{as:List (Str×SV)}{vs:List SV}{v:SV}(h:Ev c Γ o (.ref i) Γ₁)(h1:Γ₁.o[i]?=some (.inst C d))(h2:Γ₁.o[d]?=some (.attrs as))(hv:as.lookup y=none)
  (hM:am w C y f) (ha:jn c Γ₁ (e::es) vs Γ2) (hc:ax c Γ2 (.val (.ref f)) (.ref i::vs) [] v Γ3)
  (he:∀env,starEach (e::es) env=(false,eval e env)::starEach es env:=by intros;rfl) (hp:∀env,(backTo pos (starEach es env)).any (·.1)=false:=by intros;rfl) (he0:bF o y ap (e::es) pos:=by intro;rfl):Ev c Γ (.Call (.Attribute o y ap) (e::es) [] pos) v Γ3:=fun ρ s Q E S k =>
 MethodCall_ (he:=he0 _) (h ρ s _ E S fun u ρ1 sj1 hp1 q1 Sj1=>by
  have S1':=Sj1
  obtain⟨m,os,H,F,N,hm,LY,hs⟩:=Sj1
  obtain⟨a,dx,ds,n,ha1,_,hE,_,I⟩:=bf N LY h1 h2
  obtain rfl:=q1.refAt ha1
  refine method_inst F c.o.X I hM.g hM.fd hM.i (cf hE hv) ?_
  refine callWith_K (bO S1') hM.k (ha pos ρ1 sj1 _ E S1' fun us ρ₂ sj2 hp2 q2 Sj2=>⟨bO Sj2,?_⟩) (he _) (hp _)
  exact hc ρ₂ sj2 Q E _ _ [] Sj2 (.val _) (.cons (.ref (ak hp2 ha1)) q2) rfl .nil fun u ρ3 sj3 hp3 hv S3=>k u ρ3 sj3 ((hp1.trans hp2).trans hp3) hv S3)
theorem Ev.mcall0{o:Expr}{y:Str}{ap pos:Pos}{i d:Nat}{C f:Addr}{as:List (Str×SV)}{v:SV}(h:Ev c Γ o (.ref i) Γ₁)(h1:Γ₁.o[i]?=some (.inst C d))(h2:Γ₁.o[d]?=some (.attrs as))(hv:as.lookup y=none)
  (hM:am w C y f) (hc:ax c Γ₁ (.val (.ref f)) [.ref i] [] v Γ3) (he0:bF o y ap [] pos:=by intro;rfl):Ev c Γ (.Call (.Attribute o y ap) [] [] pos) v Γ3:=fun ρ s Q E S k =>
 MethodCall_ (he:=he0 _) (h ρ s _ E S fun u ρ1 sj1 hp1 q1 Sj1=>by
  have S1':=Sj1
  obtain⟨m,os,H,F,N,hm,LY,hs⟩:=Sj1
  obtain⟨a,dx,ds,n,ha1,_,hE,_,I⟩:=bf N LY h1 h2
  obtain rfl:=q1.refAt ha1
  refine method_inst F c.o.X I hM.g hM.fd hM.i (cf hE hv) ?_
  refine callWith_K0 (bO S1') hM.k ?_
  exact hc ρ1 sj1 Q E _ _ [] S1' (.val _) (.cons (.ref ha1) .nil) rfl .nil fun u ρ3 sj3 hp3 hv S3=>k u ρ3 sj3 (hp1.trans hp3) hv S3)
end
noncomputable abbrev LV:=List (Str×SV)
noncomputable abbrev OP:=List SO->Prop
noncomputable abbrev LO:=List SO
noncomputable abbrev LX:=List SV
noncomputable abbrev TQ:=SV->List SO->Prop
example:True:=by w_top off;trivial
section
variable{w:World}{κ:CK}{c:Cx w κ}{Γ Γ₁ Γ2 Γ3 Γ4:G}{ρ:LQ}{s:Shared}{P:SF->G->Prop}
inductive rE(Γ:LV):List (Str×SV)->Prop
|nil:rE Γ []
|same:rE Γ Γ
|cons {x:Str} {v:SV} {r:LV} (h:Γ.lookup x=some v) (t:rE Γ r):rE Γ ((x,v)::r)
inductive ky:List SO->List SO->Prop
|nil {l:LO}:ky l []
|same {l:LO}:ky l l
|cons {a:SO} {l r:LO} (t:ky l r):ky (a::l) (a::r)
structure G.Le(Γ Γ':G):Prop where
 m:rE Γ.m Γ'.m
 o:ky Γ.o Γ'.o
set_option tactic.hygienic true in
theorem rE.get{l r:LV}(h:rE l r){x:Str}{v:SV}(e:r.lookup x=some v):l.lookup x=some v:=by
 induction h with
|nil=>exact nomatch e
|same=>exact e
|cons h _ ih =>
  rename_i x' v' r' _
  simp only[List.lookup_cons] at e
  by_cases q:x=x'
  ·subst q;simp only[beq_self_eq_true] at e;obtain rfl:=ZK e;exact h
  ·have hb:(x == x')=false:=beq_eq_false_iff_ne.mpr q
   rw[hb] at e;exact ih e
theorem ky.get{l r:LO}(h:ky l r):r.length<=l.length/\∀(i:Nat) (so:SO),r[i]?=some so->l[i]?=some so:=by
 induction h with
|nil=>exact⟨Zf _,fun i so e=>by exact nomatch e⟩
|same=>exact⟨ZZ _,fun i so e=>e⟩
|cons _ ih =>
  refine⟨Nat.succ_le_succ ih.1,fun i so e=>?_⟩
  cases i with
 |zero=>obtain rfl:=ZK e;rfl
 |succ i=>exact ih.2 i so e
theorem lF:∀(l r:LO),ky (l++r) l
|[],_=>.nil
|_::l,r=>.cons (lF l r)
noncomputable def SV.fit(n:Nat):SV->Bool
|.ref i=>Nat.blt i n
|_=>true
noncomputable def SO.fit(n:Nat):SO->Bool
|.inst _ d=>Nat.blt d n
|.attrs es=>es.all fun e=>e.2.fit n
|.list vs=>vs.all (·.fit n)
|.tup vs=>vs.all (·.fit n)
|.meth _ x=>x.fit n
|.cell x=>x.fit n
|.tab i _ _=>Nat.blt i n
|.dep i k _=>Nat.blt i n&&Nat.blt k n
|_=>true
noncomputable def G.fit(Γ:G):Bool:=Γ.m.all (fun e=>e.2.fit Γ.o.length)&&Γ.o.all (·.fit Γ.o.length)
theorem dc{n i:Nat}{a:Addr}(h:ρ[i]?=some a)(hi:Nat.blt i n=true):(ρ.take n)[i]?=some a:=by
 refine aa (Zy ..) (aa (if_pos (ZJ hi) ..) ?_);exact h
theorem SV.Is.take{n:Nat}{v:SV}{u:Value}(h:v.Is ρ u)(hf:v.fit n=true):v.Is (ρ.take n) u:=by
 cases h with
|int z t=>exact .int _ _
|ref h=>exact .ref (dc h hf)
|val v=>exact .val _
|str x t=>exact .str _ _
theorem bh.take{n:Nat}{vs:LX}{us:LW}(h:bh ρ vs us)(hf:vs.all (·.fit n)=true):bh (ρ.take n) vs us:=by
 induction h with
|nil=>exact .nil
|cons h _ ih =>
  simp only[List.all_cons,Bool.and_eq_true] at hf
  exact .cons (h.take hf.1) (ih hf.2)
theorem aQ.take{w:World}{n:Nat}{es:LV}{ds:List DictEntry}(h:aQ w ρ es ds)(hf:es.all (fun e=>e.2.fit n)=true):aQ w (ρ.take n) es ds:=by
 induction h with
|nil=>exact .nil
|cons t h _ ih =>
  simp only[List.all_cons,Bool.and_eq_true] at hf
  exact .cons t (h.take hf.1) (ih hf.2)
theorem SO.Is.take{w:World}{n:Nat}{so:SO}{o:Obj}(h:so.Is w ρ o)(hf:so.fit n=true):so.Is w (ρ.take n) o:=by
 cases h with
|inst h=>exact .inst (dc h hf)
|attrs h=>exact .attrs (h.take hf)
|nums h=>exact .nums h
|list h=>exact .list (h.take hf)
|tup h=>exact .tup (h.take hf)
|meth h=>exact .meth (h.take hf)
|cell hd h=>exact .cell hd (h.take hf)
|tab h ht=>exact .tab (dc h hf) ht
|dep h h' hP =>
  obtain⟨f1,f2⟩:=ZU.mp hf
  exact .dep (dc h f1) (dc h' f2) hP
|obj h=>exact .obj h
theorem fU{n:Nat}:∀{l:LV} {x:Str} {v:SV},l.all (fun e=>e.2.fit n)=true->l.lookup x=some v->v.fit n=true
|[],_,_,_,h=>by exact nomatch h
|(k,z)::l,x,v,hl,e=>by
  simp only[List.all_cons,Bool.and_eq_true] at hl
  simp only[List.lookup_cons] at e
  cases hb:x == k with
 |true=>rw[hb] at e;obtain rfl:=ZK e;exact hl.1
 |false=>rw[hb] at e;exact fU hl.2 e
theorem lG{α:Type}{l:List α}{n i:Nat}{a:α}(h:(l.take n)[i]?=some a):l[i]?=some a:=by
 rw[Zy] at h
 split at h
 ·exact h
 ·exact nomatch h
theorem ad.weak(S:ad c Γ ρ s)(h:G.Le Γ Γ₁)(hf:Γ₁.fit=true)(hn:Nat.ble κ.n Γ₁.o.length=true):ad c Γ₁ (ρ.take Γ₁.o.length) s:=by
 obtain⟨m,os,H,F,N,hm,LY,hs⟩:=S
 obtain⟨n1,n2⟩:=h.o.get
 obtain⟨f1,f2⟩:=ZU.mp hf
 have hl:=LY.hl
 have hg:=LY.hg
 refine .mk m (os.take Γ₁.o.length) H F (fun q hq=>N q ?_) (fun x v e=>?_) ⟨by refine aa (Zv ..) (aa (Zv ..) ?_);lia,by refine aa (Zv ..) ?_;exact(aJ [.m .a .b,.e .b .c,.I .d .a .c] (.e .a .d)) n1 hg (iX _ _),fun i so o h1 h2=>?_,LY.nd.sublist (List.take_sublist _ _),List.prefix_take_iff.mpr ⟨LY.pre,by refine aa (c.len ..) ?_;exact ZJ hn⟩,fun q hq hm=>LY.ap q hq (by rw[List.drop_take] at hm;exact List.mem_of_mem_take hm),LY.kp,fun i a x hi h1 h2=>LY.sh i a x hi (lG h1) (lG h2)⟩ hs
 ·rcases ZS.mp hq with hq|hq
  ·rw[List.zip_eq_zipWith,<- List.take_zipWith,<- List.zip_eq_zipWith] at hq;exact ZD _ (List.mem_of_mem_take hq)
  ·exact ZC _ hq
 ·obtain⟨u,q1,q2⟩:=hm x v (h.m.get e)
  exact⟨u,q1,q2.take (fU f1 e)⟩
 ·have h3:os[i]?=some o:=by
   rw[Zy] at h2
   split at h2
   ·exact h2
   ·exact nomatch h2
  exact(LY.ho i so o (n2 i so h1) h3).take (Zp.mp f2 _ (ZQ h1))
noncomputable def uc(c:Cx w κ)(rest:LS)(P:SF->G->Prop):SF->G->Prop
|.next,Γ'=>Ex c Γ' rest P
|f,Γ'=>P f Γ'
theorem Ex.nil(k:P .next Γ):Ex c Γ [] P:=fun ρ s Q E O S K=>wpAny_execs_nil (K _ _ ρ Γ s k .next S)
theorem Ex.cons{st:Stmt}{rest:LS}(h:bJ c Γ st (uc c rest P)):Ex c Γ (st::rest) P:=fun ρ s Q E hE S K=>wpAny_execs_cons (h ρ s _ E hE S fun f fl ρ' Γ' s' p hf S'=>by
 cases hf with
|next=>exact p ρ' s' Q E hE S' K
|brk=>exact K _ _ ρ' Γ' s' p .brk S'
|cont=>exact K _ _ ρ' Γ' s' p .cont S'
|ret h=>exact K _ _ ρ' Γ' s' p (.ret h) S')
theorem Ex.mono{P':SF->G->Prop}{ss:LS}(h:Ex c Γ ss P')(k:∀f Γ',P' f Γ'->P f Γ'):Ex c Γ ss P:=fun ρ s Q E hE S K=>h ρ s Q E hE S fun f fl ρ' Γ' s' p=>K f fl ρ' Γ' s' (k f Γ' p)
theorem Sx.assign{x:Str}{px pos:Pos}{e:Expr}{v:SV}(h:Ev c Γ e v Γ₁)(hx:κ.cs.names.lookup x=some .local)(hs:swapsWith e (some (.Name x px)) pos.line c.env=pure false){Q:Flow->Shared->Prop}{E:VS}(S:ad c Γ ρ s)(K:∀ρ' s',ρ<+:ρ'->ad c (Γ₁.put x v) ρ' s'->Q .next s'):wpAny (model PR w) c.A (exec (.Assign [.Name x px] e pos) c.env) Q E s :=
 wpAny_Assign_Name (h ρ s _ E S fun u ρ1 sj1 hp q Sj1=>by
  exact Sj1.put q hx fun h' tk Sj2=>K ρ1 _ hp Sj2) hs
theorem bJ.assign{x:Str}{px pos:Pos}{e:Expr}{v:SV}(h:Ev c Γ e v Γ₁)(k:P .next (Γ₁.put x v))(hx:κ.cs.names.lookup x=some .local:=by exact vS)(hs:∀env,swapsWith e (some (.Name x px)) pos.line env=pure false:=by intros;exact vP):bJ c Γ (.Assign [.Name x px] e pos) P:=fun ρ s Q E hE S K =>
 Sx.assign h hx (hs _) S fun ρ' s' O S'=>K _ _ ρ' _ s' k .next S'
theorem bJ.ret{e:Expr}{pos:Pos}{v:SV}(h:Ev c Γ e v Γ₁)(k:P (.ret v) Γ₁):bJ c Γ (.Return (some e) pos) P:=fun ρ s Q E hE S K =>
 wpAny_Return_some (h ρ s _ E S fun u ρ1 sj1 hp q Sj1=>by exact K _ _ ρ1 _ sj1 k (.ret q) Sj1)
theorem bJ.ret0{pos:Pos}(k:P (.ret (.val .none)) Γ):bJ c Γ (.Return none pos) P:=fun ρ s Q E hE S K=>wpAny_Return_none (K _ _ ρ _ s k (.ret (.val _)) S)
theorem bJ.cont{pos:Pos}(k:P .cont Γ):bJ c Γ (.Continue pos) P:=fun ρ s Q E hE S K=>wpAny_Continue (K _ _ ρ _ s k .cont S)
theorem bJ.ite{test:Expr}{a b:LS}{pos:Pos}{φ:Prop}(h:cb c Γ test φ Γ₁)(h1:φ->Ex c Γ₁ a P)(h2:¬φ->Ex c Γ₁ b P):bJ c Γ (.If test a b pos) P:=fun ρ s Q E hE S K =>
 wpAny_If (h ρ s _ E S fun r ρ1 sj1 hp q Sj1=>by
  cases r with
 |true=>exact h1 (q.mp vT) ρ1 sj1 Q E hE Sj1 K
 |false=>exact h2 (fun z=>by simpa using q.mpr z) ρ1 sj1 Q E hE Sj1 K)
theorem Cx.quiet(c:Cx w κ):interactive c.env=false:=by
 unfold interactive
 show (κ.cs.kind == .module&&_)=false
 refine aa (c.hk ..) ?_;rfl
theorem bJ.expr{e:Expr}{pos:Pos}{v:SV}(h:Ev c Γ e v Γ₁)(k:P .next Γ₁)(hs:∀env,swapsWith e none pos.line env=pure false:=by intros;exact vP):bJ c Γ (.Expr e pos) P:=fun ρ s Q E hE S K =>
 wpAny_Expr_any (h ρ s _ E S fun u ρ1 sj1 hp q Sj1=>by exact K _ _ ρ1 _ sj1 k .next Sj1) c.quiet (hs _)
def gM(w:World)(op:Operator)(a b z:Int):Prop:=∀(A:Around) t u (s:Shared) (Q:VS) (E:VS),(∀t' tk,Q (.int z t') { s with toks:=tk })->wpAny (model PR w) A (inplaceOp op (.int a t) (.int b u)) Q E s
theorem gM.add{a b:Int}:gM w .Add a b (a+b):=fun O O O O O O h=>iadd_int (h _ _)
theorem gM.sub{a b:Int}:gM w .Sub a b (a-b):=fun O O O O O O h=>isub_int (h _ _)
theorem gM.and{a b:Int}:gM w .BitAnd a b (Builtin.bitAnd a b):=fun O O O O O O h=>iand_int (h _ _)
theorem gM.or{a b:Int}:gM w .BitOr a b (Builtin.bitOr a b):=fun O O O O O O h=>ior_int (h _ _)
theorem Sx.aug{x:Str}{px pos:Pos}{op:Operator}{e:Expr}{a b z:Int}(h0:Γ.m.lookup x=some (.int a))(h:Ev c Γ e (.int b) Γ₁)(hop:gM w op a b z)(hx:κ.cs.names.lookup x=some .local){Q:Flow->Shared->Prop}{E:VS}(S:ad c Γ ρ s)(K:∀ρ' s',ρ<+:ρ'->ad c (Γ₁.put x (.int z)) ρ' s'->Q .next s'):wpAny (model PR w) c.A (exec (.AugAssign (.Name x px) op e pos) c.env) Q E s:=by
 refine wpAny_AugAssign_Name ?_
 have S':=S
 obtain⟨m,os,H,F,N,hm,LY,hs⟩:=S
 obtain⟨u,h1,h2⟩:=hm x _ h0
 refine wpAny_loadName_local c.hk (by exact hx) F.ns h1 ?_
 refine h ρ s _ E S' fun u2 ρ1 sj1 hp q Sj1=>?_
 obtain⟨_,rfl⟩:=q.intI;obtain⟨_,rfl⟩:=h2.intI
 refine hop c.A _ _ sj1 _ E fun t' tk=>?_
 exact(Sj1.toks tk).put (.int z t') hx fun h' tk' Sj2=>K ρ1 _ hp Sj2
theorem bJ.aug{x:Str}{px pos:Pos}{op:Operator}{e:Expr}{a b z:Int}(h0:Γ.m.lookup x=some (.int a))(h:Ev c Γ e (.int b) Γ₁)(hop:gM w op a b z)(k:P .next (Γ₁.put x (.int z)))(hx:κ.cs.names.lookup x=some .local:=by exact vS):bJ c Γ (.AugAssign (.Name x px) op e pos) P:=fun ρ s Q E hE S K =>
 Sx.aug h0 h hop hx S fun ρ' s' O S'=>K _ _ ρ' _ s' k .next S'
inductive LP(nj0:Nat){α:Type}(I:α->Prop)(Γf:α->G)(μ:α->Nat)(n:Nat)(P:SF->G->Prop):SF->G->Prop
|next {Γ':G} (a:α) (h:I a) (hm:μ a<n) (hl:G.Le Γ' (Γf a)) (hf:(Γf a).fit=true) (hn:Nat.ble nj0 (Γf a).o.length=true):LP nj0 I Γf μ n P .next Γ'
|cont {Γ':G} (a:α) (h:I a) (hm:μ a<n) (hl:G.Le Γ' (Γf a)) (hf:(Γf a).fit=true) (hn:Nat.ble nj0 (Γf a).o.length=true):LP nj0 I Γf μ n P .cont Γ'
|brk {Γ':G} (h:P .next Γ'):LP nj0 I Γf μ n P .brk Γ'
|ret {Γ':G} {v:SV} (h:P (.ret v) Γ'):LP nj0 I Γf μ n P (.ret v) Γ'
theorem bJ.loop{α:Type}{test:Expr}{body:LS}{pos:Pos}(I:α->Prop)(Γf:α->G)(μ:α->Nat)(φ:α->Prop)(aj0:α)(h0:I aj0)(hl:G.Le Γ (Γf aj0))(hf:(Γf aj0).fit=true)(hn:Nat.ble κ.n (Γf aj0).o.length=true)
  (turn:∀a,I a->cb c (Γf a) test (φ a) (Γf a)/\(φ a->Ex c (Γf a) body (LP κ.n I Γf μ (μ a) P))/\(¬φ a->P .next (Γf a))):bJ c Γ (.While test body [] pos) P:=fun ρ s Q E hE S K=>by
 refine wpAny_While (codeAny_whileLoop (fun n s'=>∃a ρ,μ a=n/\I a/\ad c (Γf a) ρ s') ?_ (μ aj0) ⟨aj0,_,rfl,h0,S.weak hl hf hn⟩)
 rintro n s' ⟨a,ρ',rfl,hI,S'⟩
 obtain⟨t1,t2,t3⟩:=turn a hI
 refine t1 ρ' s' _ _ S' fun r ρ1 sj1 hp q Sj1=>?_
 cases r with
|true =>
  simp only[if_true]
  refine wpAny_mono ?_ (fun O O h=>h) hE
  refine t2 (q.mp vT) ρ1 sj1 _ E hE Sj1 fun f fl ρ₂ Γ2 sj2 hP hF Sj2=>?_
  cases hP with
 |next a' h hm hl hf hn=>cases hF;exact⟨μ a',hm,a',_,rfl,h,Sj2.weak hl hf hn⟩
 |cont a' h hm hl hf hn=>cases hF;exact⟨μ a',hm,a',_,rfl,h,Sj2.weak hl hf hn⟩
 |brk h=>cases hF;exact K _ _ ρ₂ _ sj2 h .next Sj2
 |ret h=>cases hF with|ret hu=>exact K _ _ ρ₂ _ sj2 h (.ret hu) Sj2
|false =>
  simp only[Bool.false_eq_true,if_false]
  exact wpAny_execs_nil (K _ _ ρ1 _ sj1 (t3 fun z=>by simpa using q.mpr z) .next Sj1)
inductive JN(nj0:Nat){α:Type}(I:α->Prop)(Γf:α->G)(P:SF->G->Prop):SF->G->Prop
|next {Γ':G} (a:α) (h:I a) (hl:G.Le Γ' (Γf a)) (hf:(Γf a).fit=true) (hn:Nat.ble nj0 (Γf a).o.length=true):JN nj0 I Γf P .next Γ'
|cont {Γ':G} (h:P .cont Γ'):JN nj0 I Γf P .cont Γ'
|brk {Γ':G} (h:P .brk Γ'):JN nj0 I Γf P .brk Γ'
|ret {Γ':G} {v:SV} (h:P (.ret v) Γ'):JN nj0 I Γf P (.ret v) Γ'
theorem bJ.join{α:Type}{st:Stmt}(I:α->Prop)(Γf:α->G)(h:bJ c Γ st (JN κ.n I Γf P))(k:∀a,I a->P .next (Γf a)):bJ c Γ st P:=fun ρ s Q E hE S K =>
 h ρ s Q E hE S fun f fl ρ' Γ' s' p hf S'=>by
  cases p with
 |next a h hl hf' hn=>cases hf;exact K _ _ _ _ s' (k a h) .next (S'.weak hl hf' hn)
 |cont h=>exact K _ _ _ _ s' h hf S'
 |brk h=>exact K _ _ _ _ s' h hf S'
 |ret h=>exact K _ _ _ _ s' h hf S'
end
example:True:=by w_top off;trivial
section
variable{w:World}{κ:CK}{c:Cx w κ}{Γ Γ₁ Γ2 Γ3:G}{ρ:LQ}{s:Shared}{P:SF->G->Prop}
theorem ad.cellAt(S:ad c Γ ρ s){x:Str}{i:Nat}{v:SV}(h:κ.cm.lookup x=some i)(ho:Γ.o[i]?=some (.cell v)):∃a o u,c.cl.lookup x=some a/\s.heap.get? a=some o/\o.data=.cell (some u)/\v.Is ρ u:=by
 obtain⟨m,os,H,F,N,hm,LY,hs⟩:=S
 obtain⟨a,h1,h2⟩:=c.hcl x i h
 obtain⟨a',o,ha,_,hi,hmem⟩:=LY.slot ho
 rw[ak LY.pre h1] at ha;obtain rfl:=ZK ha
 obtain⟨_,hd,hv⟩:=hi.cellI;exact⟨a,o,_,h2,(N _ hmem).1,hd,hv⟩
theorem Ev.cell{x:Str}{pos:Pos}{i:Nat}{v:SV}(ho:Γ.o[i]?=some (.cell v))(h:κ.cm.lookup x=some i:=by exact vS)(hx:κ.cs.names.lookup x=some .cell:=by exact vS)(hd:(x == ("__debug__":Str))=false:=by exact vF):Ev c Γ (.Name x pos) v Γ:=fun ρ s Q E S k=>by
 obtain⟨a,o,u,h1,h2,h3,h4⟩:=S.cellAt h ho
 exact wpAny_Name (wpAny_loadName_cell c.hk (by exact hx) h1 ⟨o,h2,h3⟩ (k u ρ s (ZN _) h4 S)) hd
theorem Ev.free{x:Str}{pos:Pos}{i:Nat}{v:SV}(ho:Γ.o[i]?=some (.cell v))(h:κ.cm.lookup x=some i:=by exact vS)(hx:κ.cs.names.lookup x=some .free:=by exact vS)(hd:(x == ("__debug__":Str))=false:=by exact vF)(hn:(x == ("__classdict__":Str))=false:=by exact vF):Ev c Γ (.Name x pos) v Γ:=fun ρ s Q E S k=>by
 obtain⟨a,o,u,h1,h2,h3,h4⟩:=S.cellAt h ho
 exact wpAny_Name (wpAny_loadName_free c.hk (by exact hx) h1 ⟨o,h2,h3⟩ (k u ρ s (ZN _) h4 S) hn) hd
theorem ad.putC(S:ad c Γ ρ s){x:Str}{i:Nat}{so:SO}{v:SV}{u:Value}(hv:v.Is ρ u){Q:UQ}{E:VS}(ho:Γ.o[i]?=some so)(hso:∀o,so.Is w ρ o->∃v0,o.data=.cell v0)(h:κ.cm.lookup x=some i)(hx:κ.cs.names.lookup x=some .cell)(hz:κ.nf<=i)
  (k:∀h' tk,ad c (Γ.setO i (.cell v)) ρ { s with heap:=h',toks:=tk }->Q () { s with heap:=h',toks:=tk }):wpAny (model PR w) c.A (storeName c.env x u) Q E s:=by
 obtain⟨m,os,H,F,N,hm,LY,hs⟩:=S
 obtain⟨a,h1,h2⟩:=c.hcl x i h
 obtain⟨a',o,ha,hob,hi,hmem⟩:=LY.slot ho
 rw[ak LY.pre h1] at ha;obtain rfl:=ZK ha
 obtain⟨v0,hd⟩:=hso o hi
 refine wpAny_storeName_cell c.hk (by exact hx) h2 ⟨o,(N _ hmem).1,hd⟩ fun h' hv' hs'=>?_
 obtain⟨o',ho',hd'⟩:=hv'
 have z:=N _ hmem
 obtain⟨pre,post,e1,e2,n1,n2⟩:=(LY.upd (ak LY.pre h1) hob o' hz).split
 rw[e1] at N
 have N':=N.setAt n1 n2 hs' ho'
 rw[<- e2] at N'
 exact k h' s.toks (ad.set (s:={ s with heap:=h',toks:=s.toks }) hm LY (.cell hd' hv) ⟨F.ns.sameBut hs' (Ne.symm z.2.1),fun b ob e=>(hs'.2 b (fun q=>by rw[q,z.2.2] at e;exact nomatch e)).trans (F.keep b ob e),F.above⟩ N' (hs.heap h' _) hz)
theorem bJ.assignC{x:Str}{px pos:Pos}{e:Expr}{v:SV}{i:Nat}{so:SO}(h:Ev c Γ e v Γ₁)(ho:Γ₁.o[i]?=some so)(hso:∀ρ o,so.Is w ρ o->∃v0,o.data=.cell v0)(K:P .next (Γ₁.setO i (.cell v)))(hc:κ.cm.lookup x=some i:=by exact vS)(hx:κ.cs.names.lookup x=some .cell:=by exact vS)(hz:Nat.ble κ.nf i=true:=by exact vT)
  (hs:∀env,swapsWith e (some (.Name x px)) pos.line env=pure false:=by intros;exact vP):bJ c Γ (.Assign [.Name x px] e pos) P:=fun ρ s Q E hE S KK =>
 wpAny_Assign_Name (h ρ s _ E S fun u ρ1 sj1 hp q Sj1=>by
  exact Sj1.putC q ho (hso ρ1) hc hx (ZJ hz) fun h' tk Sj2=>KK _ _ ρ1 _ _ K .next Sj2) (hs _)
theorem cC{v:SV}:∀(ρ:LQ) o,(SO.cell v).Is w ρ o->∃v0,o.data=.cell v0:=fun O O h=>by cases h with|cell hd _=>exact⟨_,hd⟩
end
example:True:=by w_top off;trivial
section
variable{w:World}{κ:CK}{c:Cx w κ}{Γ Γ₁ Γ2 Γ3 Γ4:G}{ρ:LQ}{s:Shared}{P:SF->G->Prop}
inductive M0(ρ:LQ)(m:OV):List (Str×SV)->Prop
|nil:M0 ρ m []
|cons {x:Str} {v:SV} {u:Value} {r:LV} (h:m x=some u) (hv:v.Is ρ u) (t:M0 ρ m r):M0 ρ m ((x,v)::r)
set_option tactic.hygienic true in
theorem M0.get{ρ:LQ}{m:OV}{l:LV}(h:M0 ρ m l):∀x v,l.lookup x=some v->∃u,m x=some u/\v.Is ρ u:=by
 induction h with
|nil=>intro x v e;exact nomatch e
|cons h hv _ ih =>
  rename_i x' v' u' r' _
  intro x v e
  simp only[List.lookup_cons] at e
  by_cases q:x=x'
  ·subst q;simp only[beq_self_eq_true] at e;obtain rfl:=ZK e;exact⟨_,h,hv⟩
  ·have hb:(x == x')=false:=beq_eq_false_iff_ne.mpr q
   rw[hb] at e;exact ih x v e
theorem pU(foot:AO):(foot.map (·.1)).zip (foot.map (·.2))=foot:=by
 induction foot with
|nil=>rfl
|cons p r ih=>simp[ih]
end
noncomputable def SV.ren(σ:LN):SV->SV
|.ref j=>.ref (σ.getD j 0)
|v=>v
noncomputable def SO.ren(σ:LN):SO->SO
|.inst C d=>.inst C (σ.getD d 0)
|.attrs es=>.attrs (es.map fun e=>(e.1,e.2.ren σ))
|.list vs=>.list (vs.map (·.ren σ))
|.tup vs=>.tup (vs.map (·.ren σ))
|.meth f x=>.meth f (x.ren σ)
|.cell x=>.cell (x.ren σ)
|.tab i a pos=>.tab (σ.getD i 0) a pos
|.dep i k P=>.dep (σ.getD i 0) (σ.getD k 0) P
|o=>o
def cy(w:World)(ρ:LQ)(l:LO)(os:List Obj):Prop:=∀(i:Nat) (so:SO) (o:Obj),l[i]?=some so->os[i]?=some o->so.Is w ρ o
def kt(ρ:LQ)(kw:LV)(ks:List (Str×Value)):Prop:=ks.map (·.1)=kw.map (·.1)/\bh ρ (kw.map (·.2)) (ks.map (·.2))
inductive tD(w:World)(ρ:LQ)(T:TQ)(r:Value):AO->Prop
|mk (v:SV) (l:LO) (ρ':LQ) (os':List Obj) (hT:T v l) (hp:ρ<+:ρ') (h1:ρ'.length=os'.length) (h2:l.length=os'.length) (ho:cy w ρ' l os') (nd:ρ'.Nodup) (hv:v.Is ρ' r):tD w ρ T r (ρ'.zip os')
noncomputable def az(w:World)(lvl:Nat)(f:Addr)(Γo:LO)(args:LX)(kw:LV)(T:TQ):Prop :=
 ∀ρ os us ks,ρ.length=os.length->Γo.length=os.length->cy w ρ Γo os->ρ.Nodup->bh ρ args us->kt ρ kw ks->uB w lvl (.ref f) us ks (ρ.zip os) (tD w ρ T)
noncomputable def da(w:World)(lvl:Nat)(f:Addr)(Γo:LO)(args:LX)(kw:LV)(v:SV):Prop :=
 ∀ρ us ks,ρ.length=Γo.length->ρ.Nodup->bh ρ args us->kt ρ kw ks->bI w lvl (fA w (.ref f) us ks) [] [] (fun O hold=>∃os,Γo.length=os.length/\cy w ρ Γo os/\∀q∈ρ.zip os,q∈hold) (fun O r O O=>v.Is ρ r)
inductive RR(n:Nat)(v:SV):SF->G->Prop
|ret {v':SV} {Γ:G} (h:v'=v) (hf:v'.fit n=true):RR n v (.ret v') Γ
|next {Γ:G} (h:v=.val .none):RR n v .next Γ
inductive RT(nj0:Nat)(T:TQ):SF->G->Prop
|ret {v:SV} {Γ:G} (l:LO) (h:T v l) (hl:ky Γ.o l) (hf:(Nat.ble nj0 l.length&&v.fit l.length&&l.all (·.fit l.length))=true):RT nj0 T (.ret v) Γ
|next {Γ:G} (l:LO) (h:T (.val .none) l) (hl:ky Γ.o l) (hf:(Nat.ble nj0 l.length&&l.all (·.fit l.length))=true):RT nj0 T .next Γ
section
variable{ρ ρc:LQ}{σ:LN}{w:World}
theorem SV.Is.ren{v:SV}{u:Value}(hm:∀(j:Nat) (a:Addr),ρc[j]?=some a->ρ[σ.getD j 0]?=some a)(h:v.Is ρc u):(v.ren σ).Is ρ u:=by
 cases h with
|int z t=>exact .int _ _
|ref h=>exact .ref (hm _ _ h)
|val v=>exact .val _
|str x t=>exact .str _ _
theorem bh.ren{vs:LX}{us:LW}(hm:∀(j:Nat) (a:Addr),ρc[j]?=some a->ρ[σ.getD j 0]?=some a)(h:bh ρc vs us):bh ρ (vs.map (·.ren σ)) us:=by
 induction h with
|nil=>exact .nil
|cons h _ ih=>exact .cons (h.ren hm) ih
theorem aQ.ren{es:LV}{ds:List DictEntry}(hm:∀(j:Nat) (a:Addr),ρc[j]?=some a->ρ[σ.getD j 0]?=some a)(h:aQ w ρc es ds):aQ w ρ (es.map fun e=>(e.1,e.2.ren σ)) ds:=by
 induction h with
|nil=>exact .nil
|cons t h _ ih=>exact .cons t (h.ren hm) ih
theorem SO.Is.ren{so:SO}{o:Obj}(hm:∀(j:Nat) (a:Addr),ρc[j]?=some a->ρ[σ.getD j 0]?=some a)(h:so.Is w ρc o):(so.ren σ).Is w ρ o:=by
 cases h with
|inst h=>exact .inst (hm _ _ h)
|attrs h=>exact .attrs (h.ren hm)
|nums h=>exact .nums h
|list h=>exact .list (h.ren hm)
|tup h=>exact .tup (h.ren hm)
|meth h=>exact .meth (h.ren hm)
|cell hd h=>exact .cell hd (h.ren hm)
|tab h ht=>exact .tab (hm _ _ h) ht
|dep h h' hP=>exact .dep (hm _ _ h) (hm _ _ h') hP
|obj h=>exact .obj h
theorem SV.Is.unren{n:Nat}{v:SV}{u:Value}(hm:∀(j:Nat) (a:Addr),j<n->ρ[σ.getD j 0]?=some a->ρc[j]?=some a)(hf:v.fit n=true)(h:(v.ren σ).Is ρ u):v.Is ρc u:=by
 cases v with
|int z=>obtain⟨_,rfl⟩:=h.intI;exact .int _ _
|ref j=>replace h:=h.refI;obtain⟨_,rfl,h⟩:=h;exact .ref (hm _ _ (ZJ hf) h)
|val v=>obtain rfl:=h.valI;exact .val _
|str x=>obtain⟨_,rfl⟩:=h.strI;exact .str _ _
theorem bh.unren{n:Nat}(hm:∀(j:Nat) (a:Addr),j<n->ρ[σ.getD j 0]?=some a->ρc[j]?=some a):∀{vs:LX} {us:LW},vs.all (·.fit n)=true->bh ρ (vs.map (·.ren σ)) us->bh ρc vs us
|[],_,_,h=>by obtain rfl:=h.nilI;exact .nil
|v::vs,_,hf,h=>by
  simp only[List.all_cons,Bool.and_eq_true] at hf
  replace h:=h.consI;obtain⟨_,_,rfl,h,t⟩:=h;exact .cons (h.unren hm hf.1) (bh.unren hm hf.2 t)
theorem aQ.unren{n:Nat}(hm:∀(j:Nat) (a:Addr),j<n->ρ[σ.getD j 0]?=some a->ρc[j]?=some a):∀{es:LV} {ds:List DictEntry},es.all (fun e=>e.2.fit n)=true->aQ w ρ (es.map fun e=>(e.1,e.2.ren σ)) ds->aQ w ρc es ds
|[],_,_,h=>by cases h;exact .nil
|e::es,_,hf,h=>by
  simp only[List.all_cons,Bool.and_eq_true] at hf
  cases h with|cons t h r=>exact .cons t (h.unren hm hf.1) (aQ.unren hm hf.2 r)
theorem SO.Is.unren{n:Nat}{so:SO}{o:Obj}(hm:∀(j:Nat) (a:Addr),j<n->ρ[σ.getD j 0]?=some a->ρc[j]?=some a)(hf:so.fit n=true)(h:(so.ren σ).Is w ρ o):so.Is w ρc o:=by
 cases so with
|inst C d=>replace h:=h.instI;obtain⟨_,rfl,h⟩:=h;exact .inst (hm _ _ (ZJ hf) h)
|attrs es=>replace h:=h.attrsI;obtain⟨_,_,rfl,h⟩:=h;exact .attrs (h.unren hm hf)
|nums bs=>replace h:=h.numsI;obtain⟨_,_,rfl,h⟩:=h;exact .nums h
|list vs=>replace h:=h.listI;obtain⟨_,_,rfl,h⟩:=h;exact .list (h.unren hm hf)
|tup vs=>replace h:=h.tupI;obtain⟨_,rfl,h⟩:=h;exact .tup (h.unren hm hf)
|meth f x=>replace h:=h.methI;obtain⟨_,rfl,h⟩:=h;exact .meth (h.unren hm hf)
|cell x=>replace h:=h.cellI;obtain⟨_,hd,h⟩:=h;exact .cell hd (h.unren hm hf)
|tab i a pos=>replace h:=h.tabI;obtain⟨_,rfl,h,ht⟩:=h;exact .tab (hm _ _ (ZJ hf) h) ht
|dep i k P =>
  obtain⟨f1,f2⟩:=ZU.mp hf
  replace h:=h.depI;obtain⟨_,_,h,h',hP⟩:=h;exact .dep (hm _ _ (ZJ f1) h) (hm _ _ (ZJ f2) h') hP
|obj P=>have h:=h.objI;exact .obj h
end
noncomputable def gR{α:Type}:List α->List Nat->List α->List α
|xs,i::σ,y::ys=>gR (xs.set i y) σ ys
|xs,_,ys=>xs++ys
theorem co{α:Type}:∀{σ:LN} {xs ys:List α},σ.length<=ys.length->∀{k:Nat} {y:α},(gR xs σ ys)[k]?=some y->(∃j:Nat,σ[j]?=some k/\ys[j]?=some y/\k<xs.length)\/(k<xs.length/\xs[k]?=some y/\k∉σ)\/(∃t,k=xs.length+t/\ys[σ.length+t]?=some y)
|[],xs,ys,_,k,y,h=>by
  have h:(xs++ys)[k]?=some y:=by cases ys <;> exact h
  rcases Zq k xs.length with q|q
  ·rw[ZH q] at h;exact .inr (.inl ⟨q,h,by simp⟩)
  ·rw[ZI q] at h;exact .inr (.inr ⟨k-xs.length,by exact(av [.m .a .b,.S .c .b .a] (.e .b (.p .a .c))) q (bc _ _),by refine aa (List.length_nil ..) (aa (Nat.zero_add ..) ?_);exact h⟩)
|i::σ,xs,[],hl,k,y,h=>by simp at hl
|i::σ,xs,y0::ys,hl,k,y,h=>by
  rcases co (xs:=xs.set i y0) (by simpa using hl) h with ⟨j,h1,h2,h3⟩|⟨h1,h2,h3⟩|⟨t,h1,h2⟩
  ·exact .inl ⟨j+1,h1,h2,by simpa using h3⟩
  ·rw[Zn] at h1
   by_cases e:i=k
   ·subst e
    rw[List.getElem?_set_self h1] at h2
    exact .inl ⟨0,vS,h2,h1⟩
   ·rw[List.getElem?_set_ne e] at h2
    exact .inr (.inl ⟨h1,h2,fun hm=>(ZT.mp hm).elim (fun q=>e q.symm) h3⟩)
  ·rw[Zn] at h1
   exact .inr (.inr ⟨t,h1,by refine aa (List.length_cons ..) (aa (Nat.add_right_comm ..) ?_);exact h2⟩)
theorem fX{α:Type}:∀{σ:LN} {xs ys:List α},σ.length<=ys.length->(gR xs σ ys).length=xs.length+(ys.length-σ.length)
|[],xs,ys,_=>by cases ys <;> exact(Zl ..)
|i::σ,xs,[],hl=>by simp at hl
|i::σ,xs,y::ys,hl=>by
  show (gR (xs.set i y) σ ys).length=_
  refine aa (fX (by simpa using hl) ..) ?_;simp
inductive Fits(Γ:G)(τ:LN):List Nat->List SO->Prop
|nil:Fits Γ τ [] []
|cons {i:Nat} {so:SO} {σ:LN} {l:LO} (h:Γ.o[i]?=some (so.ren τ)) (t:Fits Γ τ σ l):Fits Γ τ (i::σ) (so::l)
theorem Fits.get{Γ:G}{τ σ:LN}{l:LO}(h:Fits Γ τ σ l):σ.length=l.length/\∀(j i:Nat) (so:SO),σ[j]?=some i->l[j]?=some so->Γ.o[i]?=some (so.ren τ):=by
 induction h with
|nil=>exact⟨rfl,fun j i so h=>by exact nomatch h⟩
|cons h _ ih =>
  refine⟨by simp[ih.1],fun j i so h1 h2=>?_⟩
  cases j with
 |zero=>obtain rfl:=ZK h1;obtain rfl:=ZK h2;exact h
 |succ j=>exact ih.2 j i so h1 h2
example:True:=by w_top off;trivial
section
variable{w:World}{lvl:Nat}{o:On w}{s:Shared}{foot own hold0 H:AO}{L:Addr}{m:OV}{α:Type}{Xc:Around->(α->Shared->Prop)->Shared->Prop}{pg:Gs}{D:Nat->AO->Prop}{Post:Nat->α->AO->Gs->Prop}
theorem On.Fits.le(h:o.Fits lvl){lvl':Nat}(hl:lvl'<=lvl):o.Fits lvl':=⟨by have:=h.d;exact(av [.m .a .b,.m (.p .c .b) .l] (.m (.p .c .a) .l)) hl this,by have:=h.u;exact(av [.m .a .b,.m (.p .c (.k 50 .b)) .G] (.m (.p .c (.k 50 .a)) .G)) hl this⟩
theorem rJ{Q:α->Shared->Prop}(C:bI w lvl Xc foot pg D Post)(hfr:rG L o.fr hold0)(hk:aw (aZ o.fr) hold0 H)(F:Fr o.g L s.heap m)(N:News o.g L s.heap (own++H))(hap:∀q∈H,∀z∈foot,q.1≠z.1)(hoff:∀q∈own,q.1∉aZ o.fr)
  (hfoot:∀q∈foot,q∈own) (hlv:o.Fits lvl) (hpg:∀q∈pg,s.gens[q.1]?=some q.2) (hD:∀hold,(∀q∈own,(∀z∈foot,q.1≠z.1)->q∈hold)->(∀q∈H,q.1∉aZ o.fr->q∈hold)->D o.g.objs.size hold)
  (k:∀r foot' pg' H' s',Mv o pg pg' hold0 H' s s'->Fr o.g L s'.heap m->H'.map (·.1)=H.map (·.1)->(∀nx,(∀q∈nx,q∈foot'\/(q∈own/\∀z∈foot,q.1≠z.1))->News o.g L s'.heap (nx++H')) ->
   (∀q∈foot',∀z∈own,(∀y∈foot,z.1≠y.1)->q.1≠z.1)->(∀q∈foot',∀z∈H,q.1≠z.1)->Post s.heap.objs.size r foot' pg'->Q r s') :
  Xc o.A Q s:=by
 obtain⟨oL,esL,epL,hL,hLd,hLk⟩:=F.ns
 have hLn:o.g.get? L=none:=Zs F.above
 have Nd:∀q∈own++H,q.1≠L:=fun q hq=>(N q hq).2.1
 let rest:=own.filter fun q=>decide (∀z∈foot,q.1≠z.1)
 have hrest:∀q,q∈rest<->q∈own/\∀z∈foot,q.1≠z.1:=fun q=>by simp only[rest,Ze,decide_eq_true_eq]
 have mL:(L,oL)∈rest++(H++[(L,oL)]):=by simp
 have key:∀q∈own++H,s.heap.get? q.1=some q.2/\o.g.get? q.1=none:=fun q h=>⟨(N q h).1,(N q h).2.2⟩
 refine C o (rest++(H++[(L,oL)])) s Q hlv ⟨fun e he=>?_,F.keep,⟨_,mL,F.above⟩,fun q hq=>?_,fun q hq z hz=>?_⟩ hpg (hD _ (fun q hq hn=>ag.mpr ⟨ZD _ ((hrest q).mpr ⟨hq,hn⟩),hoff q hq⟩) fun q hq hn=>ag.mpr ⟨ZC _ (ZD _ hq),hn⟩) (fun r foot' pg' hold' s' V A hP=>?_)
 ·obtain⟨h1,L',h2,h3⟩:=hfr e he
  rcases h3 with rfl|⟨o,h3,h4⟩
  ·exact⟨h1,L',oL,h2,mL,fun vs e=>by rw[hLd] at e;exact nomatch e⟩
  ·obtain⟨sl,h5⟩:=hk.mem h3
   exact⟨h1,L',_,h2,ZC _ (ZD _ h5),h4⟩
 ·rcases ZS.mp hq with hq|hq
  ·exact key q (ZD _ (hfoot q hq))
  ·rcases ZS.mp hq with hq|hq
   ·exact key q (ZD _ ((hrest q).mp hq).1)
   ·rcases ZS.mp hq with hq|hq
    ·exact key q (ZC _ hq)
    ·refine aa (ZP.mp hq ..) ?_;exact⟨hL,hLn⟩
 ·rcases ZS.mp hz with hz|hz
  ·exact fun e=>((hrest z).mp hz).2 q hq e.symm
  ·rcases ZS.mp hz with hz|hz
   ·exact fun e=>hap z hz q hq e.symm
   ·refine aa (ZP.mp hz ..) ?_;exact Nd q (ZD _ (hfoot q hq))
 ·obtain⟨rest',_,rfl,k1,k2⟩:=V.kp.split
  obtain⟨H',_,rfl,k3,k4⟩:=k2.split
  obtain⟨sl,hm⟩:=k4.mem (.head _)
  have e1:rest'=rest:=k1.off fun q hq=>hoff q ((hrest q).mp hq).1
  subst e1
  have hHL:∀q∈H',q.1≠L:=fun q hq=>by
   have:q.1∈H'.map (·.1):=Zd hq
   rw[k3.fst] at this
   obtain⟨z,hz,e⟩:=Zc.mp this
   refine aA (e ..) ?_;exact Nd z (ZC _ hz)
  have mL':=ZC rest (ZC H' hm)
  refine k r foot' pg' H' s' ⟨V.eq,V.gm,V.pi,hk.trans k3⟩ ⟨⟨_,esL,epL,(A.ft _ (ZC _ mL')).1,hLd,hLk⟩,A.st,F.above⟩ k3.fst (fun nx hnx q hq=>?_) (fun q hq z hz hn=>A.ap q hq z (ZD _ ((hrest z).mpr ⟨hz,hn⟩))) (fun q hq z hz=>?_) hP
  ·rcases ZS.mp hq with hq|hq
   ·rcases hnx q hq with h1|h1
    ·exact⟨(A.ft q (ZD _ h1)).1,A.ap q h1 _ mL',(A.ft q (ZD _ h1)).2⟩
    ·have:=A.ft q (ZC _ (ZD _ ((hrest q).mpr h1)))
     exact⟨this.1,Nd q (ZD _ h1.1),this.2⟩
   ·have:=A.ft q (ZC _ (ZC _ (ZD _ hq)))
    exact⟨this.1,hHL q hq,this.2⟩
  ·obtain⟨sl,h5⟩:=k3.mem (z:=z.1) (o:=z.2) hz
   exact A.ap q hq (z.1,{ z.2 with slots:=sl }) (ZC _ (ZD _ h5))
end
section
variable{w:World}{κ:CK}{c:Cx w κ}{Γ Γ₁ Γ2 Γ3 Γ4:G}{ρ:LQ}{s:Shared}
noncomputable def cQ(n:Nat)(σ:LN)(k:Nat):List Nat:=σ++List.range' n (k-σ.length)
noncomputable def G.upd(Γ:G)(σ:LN)(l:LO):G:={ Γ with o:=gR Γ.o σ (l.map (·.ren (cQ Γ.o.length σ l.length))) }
theorem cE{α:Type}{l:List α}(h:l.Nodup){i j:Nat}(hij:i<j)(hj:j<l.length):l[i]? ≠ l[j]?:=fun e=>by
 rw[ZA hj,ZA (Nat.lt_trans hij hj)] at e
 exact List.pairwise_iff_getElem.mp h i j _ hj hij (ZK e)
theorem s0{α:Type}{l:List α}(h:∀i j:Nat,i<j->j<l.length->l[i]? ≠ l[j]?):l.Nodup :=
 List.pairwise_iff_getElem.mpr fun i j hi hj hij e=>h i j hij hj (by exact aa (ZA hj ..) (aa (ZA hi ..) (aa (e ..) vS)))
theorem qf{α:Type}{os:List α}{σ:LN}:(∀i∈σ,i<os.length)->∃oc:List α,oc.length=σ.length/\∀j i:Nat,σ[j]?=some i->oc[j]?=os[i]?:=by
 induction σ with
|nil=>exact fun O=>⟨[],rfl,fun j i h=>by exact nomatch h⟩
|cons i σ ih =>
  intro h
  obtain⟨oc,h1,h2⟩:=ih fun i hi=>h i (.tail _ hi)
  refine⟨os[i]'(h i (.head _))::oc,by simp[h1],fun j i' hj=>?_⟩
  cases j with
 |zero=>obtain rfl:=ZK hj;simp
 |succ j=>exact h2 j i' hj
theorem Fits.cut0{os:List Obj}{Γo:LO}{σ:LN}{ρc:LQ}(h1:ρ.length=os.length)(ho:cy w ρ Γ.o os)(hσ:Fits Γ σ σ Γo)(f1:Γo.all (·.fit Γo.length)=true)(n2:ρc.length=σ.length)(p2:∀j i:Nat,σ[j]?=some i->ρc[j]?=ρ[i]?)(hg:Γ.o.length=os.length:=by lia) :
  ∃osc:List Obj,osc.length=σ.length/\(∀j i:Nat,σ[j]?=some i->osc[j]?=os[i]?)/\cy w ρc Γo osc/\∀q∈ρc.zip osc,q∈ρ.zip os:=by
 obtain⟨hlen,hget⟩:=hσ.get
 have hlt:∀i∈σ,i<os.length:=fun i hi=>by
  obtain⟨j,hj,e⟩:=ZF.mp hi
  have h1:σ[j]?=some i:=by exact aa (ZA hj ..) (aa (e ..) vS)
  have h2:=hget j i _ h1 (ZA (h:=hlen▸hj))
  refine aA (hg ..) ?_;exact(ZB.mp h2).1
 obtain⟨osc,n1,p1⟩:=qf hlt
 have some_of:∀{j:Nat},j<σ.length->∃i,σ[j]?=some i:=fun hj=>⟨_,ZA hj⟩
 refine⟨osc,n1,p1,fun j so o h1 h2=>?_,fun q hq=>?_⟩
 ·have hj:j<Γo.length:=(ZB.mp h1).1
  obtain⟨i,hi⟩:=some_of (hlen▸hj)
  rw[p1 j i hi] at h2
  refine(ho i _ o (hget j i so hi h1) h2).unren (fun j a hj h=>?_) (Zp.mp f1 _ (ZQ h1))
  obtain⟨i,hi⟩:=some_of (hlen▸hj)
  refine aa (p2 j i hi ..) ?_
  rw[ZE,hi] at h;exact h
 ·obtain⟨j,hj,e⟩:=ZF.mp hq
  rw[List.getElem_zip] at e
  rw[List.length_zip] at hj
  obtain⟨i,hi⟩:=some_of (j:=j) (by exact(c7 [.e .c .b,.l .d .e,.I .e .a .c] (.l .d .b)) n1 hj (iX _ _))
  have e1:ρ[i]?=some (ρc[j]'(by exact ZY ‹_› (Nat.min_le_left _ _))):=by refine aA (p2 j i hi ..) ?_;exact ZA _
  have e2:os[i]?=some (osc[j]'(by exact ZY ‹_› (Nat.min_le_right _ _))):=by refine aA (p1 j i hi ..) ?_;exact ZA _
  refine aA (e ..) ?_;exact au e1 e2
theorem Fits.cut{os:List Obj}{H:AO}{Γo:LO}{σ:LN}{ρc:LQ}(LY:eK c Γ.o ρ os H)(hσ:Fits Γ σ σ Γo)(f1:Γo.all (·.fit Γo.length)=true)(n2:ρc.length=σ.length)(p2:∀j i:Nat,σ[j]?=some i->ρc[j]?=ρ[i]?) :
  ∃osc:List Obj,osc.length=σ.length/\(∀j i:Nat,σ[j]?=some i->osc[j]?=os[i]?)/\cy w ρc Γo osc/\∀q∈ρc.zip osc,q∈ρ.zip os:=hσ.cut0 LY.hl LY.ho f1 n2 p2 LY.hg
theorem gE{σ:LN}{ρc:LQ}(nd1:ρ.Nodup)(nd:σ.Nodup)(hlt:∀i∈σ,i<ρ.length)(n2:ρc.length=σ.length)(p2:∀j i:Nat,σ[j]?=some i->ρc[j]?=ρ[i]?):ρc.Nodup:=by
 refine s0 fun a b hab hb he=>?_
 have hb':b<σ.length:=n2▸hb
 have hi:σ[a]?=some (σ[a]'(by exact Nat.lt_trans ‹_› ‹_›)):=ZA _
 have hi':σ[b]?=some σ[b]:=ZA _
 rw[p2 a _ hi,p2 b _ hi'] at he
 have hii:σ[a]'(by exact Nat.lt_trans ‹_› ‹_›)≠σ[b]:=fun e=>cE nd hab hb' (by exact aa (hi ..) (aa (hi' ..) (aa (e ..) vS)))
 have l1:=hlt _ (ZQ hi)
 have l2:=hlt _ (ZQ hi')
 rcases Nat.lt_or_gt_of_ne hii with q|q
 ·exact cE nd1 q l2 he
 ·exact cE nd1 q l1 he.symm
theorem eK.offF{l:LO}{os:List Obj}{H:AO}(LY:eK c l ρ os H)(N:News c.o.g c.L s.heap (aS ρ os H)):∀q∈ρ.zip os,q.1∉aZ c.o.fr:=fun q hq hm=>by
 obtain⟨i,hi,e⟩:=ZF.mp hq
 rw[List.getElem_zip] at e
 rw[List.length_zip] at hi
 have h1:ρ[i]?=some q.1:=by exact aa (ZA (by exact ZY ‹_› (Nat.min_le_left _ _)) ..) (aA (e ..) vS)
 have h2:os[i]?=some q.2:=by exact aa (ZA (by exact ZY ‹_› (Nat.min_le_right _ _)) ..) (aA (e ..) vS)
 rcases Zq i κ.nf with h|h
 ·exact(c.hsh _ (LY.sh i _ _ h h1 h2)).2 hm
 ·obtain⟨e,he,he2⟩:=List.mem_filterMap.mp hm
  obtain⟨_,L',h3,h4⟩:=c.hfr e he
  rw[he2] at h3;obtain rfl:=ZK h3
  rcases h4 with h4|⟨o,h4,_⟩
  ·exact(N q (ZD _ hq)).2.1 h4
  ·obtain⟨sl,h5⟩:=LY.kp.mem h4
   exact LY.ap _ h5 (bD h1 h)
theorem eK.apEx{l:LO}{os:List Obj}{H H':AO}(LY:eK c l ρ os H)(hH:H'.map (·.1)=H.map (·.1)){ex:LQ}(hex:∀a∈ex,∀z∈H,a≠z.1):∀q∈H',q.1∉(ρ++ex).drop κ.nf:=fun q hq hm=>by
 obtain⟨z,hz,e⟩:∃z∈H,z.1=q.1:=by
  have h9:q.1∈H'.map (·.1):=Zd hq
  rw[hH] at h9
  exact Zc.mp h9
 rw[<- e,List.drop_append_of_le_length LY.nfl] at hm
 rcases ZS.mp hm with hm|hm
 ·exact LY.ap z hz hm
 ·exact hex _ hm z hz rfl
theorem aT.mv{pg':Gs}{H':AO}{s':Shared}(hs:aT c s){hold:AO}(V:Mv c.o [] pg' hold H' s s'):aT c s':=⟨by have h2:=V.eq;rw[hs.eq] at h2;exact h2,hs.gx.trans V.gm⟩
theorem ae.of{lvl:Nat}{f:Addr}{Γo:LO}{args:LX}{kw:LV}{T:TQ}(C:az w lvl f Γo args kw T)(σ:LN)(hσ:Fits Γ σ σ Γo)(nd:σ.Nodup)
  (hf:(Γo.all (·.fit Γo.length)&&args.all (·.fit Γo.length)&&(kw.map (·.2)).all (·.fit Γo.length))=true) (hlv:Nat.ble lvl κ.lv=true) (hz:(σ.all fun i=>Nat.ble κ.nf i)=true)
  (R:RS) {us:LW} {ks:List (Str×Value)} (S:ad c Γ ρ s) (hu:bh ρ (args.map (·.ren σ)) us) (hk:kt ρ (kw.map fun e=>(e.1,e.2.ren σ)) ks)
  (K:∀v l u ρ' s',T v l->Γo.length<=l.length->ρ<+:ρ'->(v.ren (cQ Γ.o.length σ l.length)).Is ρ' u->ad c (Γ.upd σ l) ρ' s'->R (.ok (.ret u)) s'):codeAny (model PR w) c.A (.call (.ref f) ⟨us,ks⟩) R s:=by
 obtain⟨m,os,H,F,N,hm,LY,hs⟩:=S
 have hl:=LY.hl
 have hg:=LY.hg
 have ho:=LY.ho
 have nd1:=LY.nd
 obtain⟨hlen,hget⟩:=hσ.get
 have hlt:∀i∈σ,i<os.length:=fun i hi=>by
  obtain⟨j,hj,e⟩:=ZF.mp hi
  have h1:σ[j]?=some i:=by exact aa (ZA hj ..) (aa (e ..) vS)
  have h2:=hget j i _ h1 (ZA (h:=hlen▸hj))
  refine aA (hg ..) ?_;exact(ZB.mp h2).1
 obtain⟨ρc,n2,p2⟩:=qf (os:=ρ) (σ:=σ) fun i hi=>hl▸hlt i hi
 have some_of:∀{j:Nat},j<σ.length->∃i,σ[j]?=some i:=fun hj=>⟨_,ZA hj⟩
 have getD_of:∀{j i:Nat},σ[j]?=some i->σ.getD j 0=i:=fun h=>by refine aa (ZE ..) (aa (h ..) ?_);rfl
 have back:∀(j:Nat) (a:Addr),j<Γo.length->ρ[σ.getD j 0]?=some a->ρc[j]?=some a:=fun j a hj h=>by
  obtain⟨i,hi⟩:=some_of (hlen▸hj)
  refine aa (p2 j i hi ..) (aA (getD_of hi ..) ?_);exact h
 obtain⟨f12,f3⟩:=ZU.mp hf
 obtain⟨f1,f2⟩:=ZU.mp f12
 obtain⟨osc,n1,p1,hob,hsub⟩:=hσ.cut LY f1 n2 p2
 have ndc:ρc.Nodup:=gE nd1 nd (fun i hi=>hl▸hlt i hi) n2 p2
 have C':=C ρc osc us ks (by exact Eq.trans ‹_› (Eq.symm ‹_›)) (by exact Eq.trans (Eq.symm ‹_›) (Eq.symm ‹_›)) hob ndc (hu.unren back f2) ⟨by refine aa (hk.1 ..) (aa (List.map_map ..) ?_);rfl,bh.unren back f3 (by have:=hk.2;rw[List.map_map] at this ⊢;exact this)⟩
 have hnf:∀i∈σ,κ.nf<=i:=fun i hi=>ZJ (Zp.mp hz i hi)
 refine rJ C' c.hfr LY.kp F N (fun q hq z hz e=>?apx) (LY.offF N) hsub (c.fits.le (ZJ hlv)) (fun O h=>nomatch h) (fun O O O=>trivial) (fun r foot' pg' H' s' V F' hHf hN hfr hfH hP=>?_) R fun O O h=>h
 case apx =>
  obtain⟨j,hj,e2⟩:=ZF.mp hz
  rw[List.getElem_zip] at e2
  rw[List.length_zip] at hj
  obtain⟨i,hi⟩:=some_of (j:=j) (by exact(c7 [.e .c .b,.l .d .e,.I .e .a .c] (.l .d .b)) n1 hj (iX _ _))
  refine LY.ap q hq (e▸bD (i:=i) ?_ (hnf i (ZQ hi)))
  exact aA (p2 j i hi ..) (aa (ZA (by exact ZY ‹_› (Nat.min_le_left _ _)) ..) (aA (e2 ..) vS))
 cases hP with|mk v l ρ' os' hT hpre e1 e2 hob' nd' hv =>
 obtain⟨ex,rfl⟩:=hpre
 have hle:σ.length<=os'.length:=by refine aA (e1 ..) (aa (Zl ..) ?_);exact(av [.e .a .b] (.m .b (.p .a .c))) n2
 have hls:σ.length<=l.length:=by exact(av [.e .a .b,.m .c .b] (.m .c .a)) e2 hle
 have fwd:∀(j:Nat) (a:Addr),(ρc++ex)[j]?=some a->(ρ++ex)[(cQ Γ.o.length σ l.length).getD j 0]?=some a:=fun j a h=>by
  unfold cQ
  rcases Zq j σ.length with q|q
  ·obtain⟨i,hi⟩:=some_of q
   rw[ZH (by exact Za ‹_› (Eq.symm ‹_›)),p2 j i hi] at h
   refine aa (ZE ..) (aa (ZH q ..) (aa (hi ..) ?_))
   show (ρ++ex)[i]?=some a
   refine aa (ZH (hl▸hlt i (ZQ hi)) ..) ?_;exact h
  ·rw[ZI (by exact(av [.e .a .b,.m .b .c] (.m .a .c)) n2 q),n2] at h
   have hj2:j-σ.length<ex.length:=(ZB.mp h).1
   have hle2:j-σ.length<l.length-σ.length:=by
    have:(ρc++ex).length=ρc.length+ex.length:=Zl
    lia
   refine aa (ZE ..) (aa (ZI q ..) (aa (List.getElem?_range' hle2 ..) ?_))
   show (ρ++ex)[Γ.o.length+1*(j-σ.length)]?=some a
   refine aa (Nat.one_mul ..) (aa (ZI (by exact(gV [.e .a .b,.e .c .b,.S .d .e .f] (.m .a (.p .c .d))) hl hg (bc _ _)) ..) (aa (show Γ.o.length+(j-σ.length)-ρ.length=j-σ.length by exact(td [.e .a .b,.e .c .b,.S .e .f .g,.S .d (.p .c .e) .a] (.e .d .e)) hl hg (bc _ _) (bc _ _)) ?_));exact h
 have hT3:(gR os σ os').length=os.length+(os'.length-σ.length):=fX hle
 have hex:ex.length=os'.length-σ.length:=by
  have:(ρc++ex).length=ρc.length+ex.length:=Zl
  exact(gV [.e .a .b,.e .c .d,.e .c (.p .a .e),.S .f .d .b] (.e .e .f)) n2 e1 this (bc _ _)
 have exget:∀t:Nat,(ρ++ex)[os.length+t]?=(ρc++ex)[σ.length+t]?:=fun t=>by
  exact aa (ZI (by exact(av [.e .a .b] (.m .a (.p .b .c))) hl) ..) (aa (ZI (by exact(av [.e .a .b] (.m .a (.p .b .c))) n2) ..) (aa (hl ..) (aa (n2 ..) (aa (Nat.add_sub_cancel_left ..) (aa (Nat.add_sub_cancel_left ..) rfl)))))
 refine K v l r (ρ++ex) _ hT (by exact(aJ [.e .a .b,.e .c .d,.m .a .d] (.m .b .c)) hlen e2 hle) (ZO _ _) (hv.ren fwd) (.mk m (gR os σ os') H' F' (hN _ fun q hq=>?_) (cY.up hm (ZO _ _)) ⟨by refine aa (hT3 ..) (aa (Zl ..) ?_);exact(gV [.e .a .b,.e .c .d,.S .d .e .f] (.e (.p .a .c) (.p .b .d))) hl hex (bc _ _),?_,fun k so o q1 q2=>?_,?_,LY.pre.trans (ZO _ _),LY.apEx hHf fun a ha z hz=>?_,V.kp,fun i a x hi q1 q2=>?_⟩ ?_)
 ·-- every object is the call's,or was and is not touched
  obtain⟨k,hk9,e⟩:=ZF.mp hq
  rw[List.getElem_zip] at e
  rw[List.length_zip] at hk9
  have a1:(ρ++ex)[k]?=some q.1:=by exact aa (ZA (ZY hk9 (Nat.min_le_left _ _)) ..) (aA (e ..) vS)
  have a2:(gR os σ os')[k]?=some q.2:=by exact aa (ZA (ZY hk9 (Nat.min_le_right _ _)) ..) (aA (e ..) vS)
  rcases co hle a2 with ⟨j,h1,h2,h3⟩|⟨h1,h2,h3⟩|⟨t,h1,h2⟩
  ·left
   have b1:(ρc++ex)[j]?=some q.1:=by
    rw[ZH (by rw[n2];exact(ZB.mp h1).1),p2 j k h1]
    rw[ZH (by exact Za ‹_› (Eq.symm ‹_›))] at a1;exact a1
   exact au b1 h2
  ·right
   rw[ZH (by exact Za ‹_› (Eq.symm ‹_›))] at a1
   refine⟨au a1 h2,fun z hz e9=>?_⟩
   obtain⟨j,hj,e⟩:=ZF.mp hz
   rw[List.getElem_zip] at e
   rw[List.length_zip] at hj
   obtain⟨i,hi⟩:=some_of (j:=j) (by exact(c7 [.e .c .b,.l .d .e,.I .e .a .c] (.l .d .b)) n1 hj (iX _ _))
   have e1:ρ[i]?=some z.1:=by exact aA (p2 j i hi ..) (aa (ZA (by exact ZY ‹_› (Nat.min_le_left _ _)) ..) (aA (e ..) vS))
   have hik:i≠k:=fun e=>h3 (e▸ZQ hi)
   have l1:=hl▸hlt i (ZQ hi)
   rcases Nat.lt_or_gt_of_ne hik with q'|q'
   ·exact cE nd1 q' (by exact Za ‹_› (Eq.symm ‹_›)) (by exact aa (e1 ..) (aa (a1 ..) (aa (e9 ..) vS)))
   ·exact cE nd1 q' l1 (by exact aa (e1 ..) (aa (a1 ..) (aa (e9 ..) vS)))
  ·left
   rw[h1,exget] at a1
   exact au a1 h2
 ·show (gR Γ.o σ _).length=_
  rw[fX (by rw[Zm];exact hls),hT3,Zm];exact(td [.e .a .b,.e .c .d,.S .e .c .f,.S .g .d .f] (.e (.p .a .e) (.p .b .g))) hg e2 (bc _ _) (bc _ _)
 ·rcases co (by refine aa (Zm ..) ?_;exact hls) q1 with ⟨j,h1,h2,h3⟩|⟨h1,h2,h3⟩|⟨t,h1,h2⟩
  ·rw[List.getElem?_map] at h2
   cases hq:l[j]? with
  |none=>rw[hq] at h2;exact nomatch h2
  |some so' =>
    rw[hq] at h2;obtain rfl:=ZK h2
    rcases co hle q2 with ⟨j',h1',h2',_⟩|⟨_,_,h3'⟩|⟨t,h1',_⟩
    ·have:j=j':=by
      rcases Nat.lt_trichotomy j j' with q|q|q
      ·exact absurd (h1.trans h1'.symm) (cE nd q (ZB.mp h1').1)
      ·exact q
      ·exact absurd (h1'.trans h1.symm) (cE nd q (ZB.mp h1).1)
     subst this
     exact(hob' j so' o hq h2').ren fwd
    ·exact absurd (ZQ h1) h3'
    ·lia
  ·rcases co hle q2 with ⟨j',h1',_,_⟩|⟨_,h2',_⟩|⟨t,h1',_⟩
   ·exact absurd (ZQ h1') h3
   ·exact(ho k so o h2 h2').up (ZO _ _)
   ·lia
  ·rw[List.getElem?_map] at h2
   cases hq:l[σ.length+t]? with
  |none=>rw[hq] at h2;exact nomatch h2
  |some so' =>
    rw[hq] at h2;obtain rfl:=ZK h2
    rcases co hle q2 with ⟨j',h1',_,h3'⟩|⟨h1',_,_⟩|⟨t',h1',h2'⟩
    ·lia
    ·lia
    ·obtain rfl:t'=t:=by exact(c7 [.e .a .b,.e .c (.p .a .d),.e .c (.p .b .e)] (.e .e .d)) hg h1 h1'
     exact(hob' _ so' o hq h2').ren fwd
 ·refine List.nodup_append.mpr ⟨nd1,(List.nodup_append.mp nd').2.1,fun a ha b hb e=>?_⟩
  subst e
  obtain⟨i,hi,e⟩:=ZF.mp ha
  obtain⟨t,ht,e'⟩:=ZF.mp hb
  have a1:ρ[i]?=some a:=by exact aa (ZA hi ..) (aa (e ..) vS)
  have a2:(ρc++ex)[σ.length+t]?=some a:=by exact aa (ZI (by exact(av [.e .a .b] (.m .a (.p .b .c))) n2) ..) (aa (show σ.length+t-ρc.length=t by exact(aJ [.e .a .b,.S .c (.p .b .d) .a] (.e .c .d)) n2 (bc _ _)) (aa (ZA ht ..) (aa (e' ..) vS)))
  by_cases hin:i∈σ
  ·obtain⟨j,hj,e⟩:=ZF.mp hin
   have h1:σ[j]?=some i:=by exact aa (ZA hj ..) (aa (e ..) vS)
   have h2:(ρc++ex)[j]?=some a:=by refine aa (ZH (by exact Za ‹_› (Eq.symm ‹_›)) ..) (aa (p2 j i h1 ..) ?_);exact a1
   exact cE nd' (by exact(av [.l .a .b] (.l .a (.p .b .c))) hj) (by refine aa (Zl ..) ?_;exact(gV [.e .a .b,.e .c .d,.l .f .c,.S .d .e .b] (.l (.p .b .f) (.p .a .c))) n2 hex ht (bc _ _)) (h2.trans a2.symm)
  ·have o1:os[i]?=some (os[i]'(by exact Za ‹_› ‹_›)):=ZA _
   have o2:os'[σ.length+t]?=some (os'[σ.length+t]'(by exact(c7 [.e .a .b,.l .e .a,.S .b .c .d] (.l (.p .d .e) .c)) hex ht (bc _ _))):=ZA _
   refine hfr _ (au a2 o2) _ (au a1 o1) (fun z hz e9=>?_) rfl
   obtain⟨j,hj,e⟩:=ZF.mp hz
   rw[List.getElem_zip] at e
   rw[List.length_zip] at hj
   obtain⟨i',hi'⟩:=some_of (j:=j) (by exact(c7 [.e .c .b,.l .d .e,.I .e .a .c] (.l .d .b)) n1 hj (iX _ _))
   have e1:ρ[i']?=some z.1:=by exact aA (p2 j i' hi' ..) (aa (ZA (by exact ZY ‹_› (Nat.min_le_left _ _)) ..) (aA (e ..) vS))
   have hik:i'≠i:=fun e=>hin (e▸ZQ hi')
   have l1:=hl▸hlt i' (ZQ hi')
   have e9':a=z.1:=e9
   rcases Nat.lt_or_gt_of_ne hik with q'|q'
   ·exact cE nd1 q' hi (by exact aa (e1 ..) (aa (a1 ..) (aa (e9' ..) vS)))
   ·exact cE nd1 q' l1 (by exact aa (e1 ..) (aa (a1 ..) (aa (e9' ..) vS)))
 ·obtain⟨t,ht,e'⟩:=ZF.mp ha
  have a2:(ρc++ex)[σ.length+t]?=some a:=by exact aa (ZI (by exact(av [.e .a .b] (.m .a (.p .b .c))) n2) ..) (aa (show σ.length+t-ρc.length=t by exact(aJ [.e .a .b,.S .c (.p .b .d) .a] (.e .c .d)) n2 (bc _ _)) (aa (ZA ht ..) (aa (e' ..) vS)))
  have o2:os'[σ.length+t]?=some (os'[σ.length+t]'(by exact(c7 [.e .a .b,.l .e .a,.S .b .c .d] (.l (.p .d .e) .c)) hex ht (bc _ _))):=ZA _
  exact hfH _ (au a2 o2) z hz
 ·have hi2:i<ρ.length:=ZY hi LY.nfl
  rw[ZH hi2] at q1
  rcases co hle q2 with ⟨j,h1,_,_⟩|⟨_,h2,_⟩|⟨t,h1,_⟩
  ·exact absurd (hnf i (ZQ h1)) (Nat.not_le.mpr hi)
  ·exact LY.sh i a x hi q1 h2
  ·lia
 ·exact hs.mv V
end
example:True:=by w_top off;trivial
theorem n8{ρ:LQ}{m:OV}:∀{xs:List Str} {args:LX} {us:LW},bh ρ args us->(∀(i:Nat) x u,xs[i]?=some x->us[i]?=some u->m x=some u)->M0 ρ m (xs.zip args)
|[],_,_,_,_=>.nil
|_::_,[],_,_,_=>.nil
|x::xs,a::args,_,h,hm=>by
  replace h:=h.consI;obtain⟨_,_,rfl,h,t⟩:=h;exact .cons (hm 0 x _ vS vS) h (n8 t fun i x' u' h1 h2=>hm (i+1) x' u' h1 h2)
theorem gh{xs:List Str}{us:LW}(nd:xs.Nodup){i:Nat}{x:Str}{u:Value}(h1:xs[i]?=some x)(h2:us[i]?=some u):(xs.zip us).reverse.lookup x=some u:=by
 induction xs generalizing us i with
|nil=>exact nomatch h1
|cons y xs ih =>
  cases us with
 |nil=>exact nomatch h2
 |cons v us =>
   refine aa (List.zip_cons_cons ..) (aa (List.reverse_cons ..) (aa (List.lookup_append ..) ?_))
   obtain⟨n1,n2⟩:=List.nodup_cons.mp nd
   cases i with
  |zero =>
    cases ZK h1;cases ZK h2
    have:(xs.zip us).reverse.lookup x=none:=by
     rw[List.lookup_eq_none_iff]
     intro p hp
     have hm:=(Zz (List.mem_reverse.mp hp)).1
     exact bne_iff_ne.mpr fun e=>n1 (e▸hm)
    refine aa (this ..) ?_;simp
  |succ i=>refine aa (ih n2 h1 h2 ..) ?_;rfl
theorem svs_len{ρ:LQ}{vs:LX}{us:LW}(h:bh ρ vs us):us.length=vs.length:=by
 induction h with
|nil=>rfl
|cons _ _ ih=>simp[ih]
theorem gc{w:World}{lv nf:Nat}{f:Addr}{args:LX}{Γo:LO}{name qual:Str}{params:Arguments}{body:LS}{scope:Scope}{dV kV doc pm cdv ct oc:Value}{an od:Option Addr}{osl:Array (Option Value)}(xs:List Str)
  (ho:(hd.heap_1 w.params).lookup f=some ⟨oc,od,.func (fnOf name qual params body scope dV kV doc pm an cdv ct),osl⟩) (hcd:codeIn (hd.heap_1 w.params) cdv qual=true)
  {o:On w} {hold shr:AO} {s:Shared} {us us0:LW} {ks0:List (Str×Value)} {ρ:LQ} {os:List Obj} {R:RS}
  (hb:BindsTo s (fnOf name qual params body scope dV kV doc pm an cdv ct) ⟨us0,ks0⟩ (xs.zip us)) (hx:(xs.all fun x=>decide (scope.names.lookup x=some .local))=true) (nd:xs.Nodup)
  (hco:scope.isCoroutine=false) (hgen:scope.isGenerator=false) (hk:scope.kind=.function) (hcell:(scope.names.all fun x=>decide (x.2≠.cell))=true)
  (hfr:eM o.fr hold) (st:o.g.StaysIn s.heap) (hsz:o.g.objs.size<=s.heap.objs.size) (hF:d5 o.g s.heap (ρ.zip os++hold)) (hap:∀q∈hold,q.1∉ρ.drop nf) (hfit:o.Fits (lv+1))
  (hu:bh ρ args us) (e1:ρ.length=os.length) (e2:Γo.length=os.length) (hob:cy w ρ Γo os) (ndρ:ρ.Nodup) (hnf:nf<=Γo.length) (hsh:∀q∈shr,q∈hold/\q.1∉aZ o.fr) (sh:∀(i:Nat) a x,i<nf->ρ[i]?=some a->os[i]?=some x->(a,x)∈shr)
  (H:∀c:Cx w ⟨scope,lv,nf,Γo.length,[]⟩,(c.ccd=cdv/\c.env=envOf qual scope c.L f cdv)->c.sj0=s->c.o.g=o.g->c.hold=hold->c.ρ0=ρ->s.heap.objs.size<=c.L->(∀b∈aZ c.o.fr,b=c.L\/b∈aZ o.fr)->∀sj1 (E:VS),PassesOwn (model PR w) c.A c.env E->ad c ⟨xs.zip args,Γo⟩ ρ sj1 ->
   wpAny (model PR w) c.A (execs body c.env) (fun fl s'=>R (.ok (.ret (match fl with|.ret v=>v|_=>.none))) s') E sj1):codeAny (model PR w) o.A (.call (.ref f) ⟨us0,ks0⟩) R s:=by
 refine enter st hsz o.X o.T hF ho hcd (by show o.dp<1000;have:=hfit.d;exact(ah [.m (.p .a (.p .b .u)) .l] (.l .a .q)) this) hb (fun q hq=>of_decide_eq_true (Zp.mp hx _ (Zz hq).1)) (fun L' hj1 hL F N=>?_) hco hgen hk fun x hx'=>of_decide_eq_true (Zp.mp hcell x hx')
 let c:Cx w ⟨scope,lv,nf,Γo.length,[]⟩:=⟨⟨o.p,o.loose,o.mean,o.mg,o.mb,o.dp+1,o.un+3,o.gd,envOf qual scope L' f cdv::o.fr,o.g,o.X,o.T⟩,qual ++ ".<locals>.",some f,L',cdv,[],some L',s,ρ,hold,shr,
  fun e he=>(ZT.mp he).elim (fun h=>by subst h;exact⟨by show scope.kind≠_;refine aa (hk ..) ?_;decide,L',vS,.inl rfl⟩) (fun he=>by
    obtain⟨h1,Lj1,ob,h2,h3,h4⟩:=hfr e he
    exact⟨h1,Lj1,h2,.inr ⟨ob,h3,h4⟩⟩),
  by exact aa (e1 ..) (aa (e2 ..) rfl),hk,hnf,⟨by show o.dp+1+lv<=500;have:=hfit.d;exact(ah [.m (.p .a (.p .b .u)) .l] (.m (.p (.p .a .u) .b) .l)) this,by show o.un+3+50*lv<=9000;have:=hfit.u;exact(ah [.m (.p .a (.k 50 (.p .b .u))) .G] (.m (.p (.p .a .w) (.k 50 .b)) .G)) this⟩,
  fun q hq=>⟨(hsh q hq).1,fun hm=>(ZT.mp (show q.1∈L'::aZ o.fr from hm)).elim (fun e=>(N q (ZC _ (hsh q hq).1)).2.1 e) (hsh q hq).2⟩,
  fun O O h=>nomatch h⟩
 have S:ad c ⟨xs.zip args,Γo⟩ ρ { s with heap:=hj1,toks:=s.toks+(xs.zip us).length } :=
  .mk _ os hold F N (n8 hu fun i x u h1 h2=>gh nd h1 h2).get ⟨e1,e2,hob,ndρ,ZN _,hap,.refl _,sh⟩ ⟨rfl,aN.refl _ _⟩
 show wpAny (model PR w) c.A (execs body c.env) _ _ _
 exact H c ⟨rfl,rfl⟩ rfl rfl rfl rfl hL (fun b hb=>(ZT.mp (show b∈L'::aZ o.fr from hb)).imp id id) _ _ (by passes_own) S
theorem lB{w:World}{lv nf:Nat}{f:Addr}{args:LX}{Γo:LO}{P:SF->G->Prop}{name qual:Str}{params:Arguments}{body:LS}{scope:Scope}{dV kV doc pm cdv ct oc:Value}{an od:Option Addr}{osl:Array (Option Value)}(xs:List Str)
  (ho:(hd.heap_1 w.params).lookup f=some ⟨oc,od,.func (fnOf name qual params body scope dV kV doc pm an cdv ct),osl⟩) (hcd:codeIn (hd.heap_1 w.params) cdv qual=true)
  {o:On w} {hold shr:AO} {s:Shared} {us us0:LW} {ks0:List (Str×Value)} {ρ:LQ} {os:List Obj} {R:RS}
  (hb:BindsTo s (fnOf name qual params body scope dV kV doc pm an cdv ct) ⟨us0,ks0⟩ (xs.zip us)) (hx:(xs.all fun x=>decide (scope.names.lookup x=some .local))=true) (nd:xs.Nodup)
  (H:∀c:Cx w ⟨scope,lv,nf,Γo.length,[]⟩,(c.ccd=cdv/\c.env=envOf qual scope c.L f cdv)->Ex c ⟨xs.zip args,Γo⟩ body P) (hco:scope.isCoroutine=false) (hgen:scope.isGenerator=false) (hk:scope.kind=.function) (hcell:(scope.names.all fun x=>decide (x.2≠.cell))=true)
  (hfr:eM o.fr hold) (st:o.g.StaysIn s.heap) (hsz:o.g.objs.size<=s.heap.objs.size) (hF:d5 o.g s.heap (ρ.zip os++hold)) (hap:∀q∈hold,q.1∉ρ.drop nf) (hfit:o.Fits (lv+1))
  (hu:bh ρ args us) (e1:ρ.length=os.length) (e2:Γo.length=os.length) (hob:cy w ρ Γo os) (ndρ:ρ.Nodup) (hnf:nf<=Γo.length) (hsh:∀q∈shr,q∈hold/\q.1∉aZ o.fr) (sh:∀(i:Nat) a x,i<nf->ρ[i]?=some a->os[i]?=some x->(a,x)∈shr)
  (K:∀c:Cx w ⟨scope,lv,nf,Γo.length,[]⟩,c.sj0=s->c.o.g=o.g->c.hold=hold->c.ρ0=ρ->(∀b∈aZ c.o.fr,b=c.L\/b∈aZ o.fr)->∀f' fl ρ' Γ' s',P f' Γ'->f'.Is ρ' fl->ad c Γ' ρ' s'->R (.ok (.ret (match fl with|.ret v=>v|_=>.none))) s'):codeAny (model PR w) o.A (.call (.ref f) ⟨us0,ks0⟩) R s :=
 gc xs ho hcd hb hx nd hco hgen hk hcell hfr st hsz hF hap hfit hu e1 e2 hob ndρ hnf hsh sh fun c cc c1 c2 c3 c4 O c5 sj1 E hE S=>H c cc ρ sj1 _ E hE S fun f' fl ρ' Γ' s' hP hF' S'=>K c c1 c2 c3 c4 c5 f' fl ρ' Γ' s' hP hF' S'
theorem Exists.kept{fs:LQ}{a b:AO}{n:Nat}(h:∃q∈a,n<=q.1)(x:aw fs a b):∃q∈b,n<=q.1:=by
 obtain⟨q,hq,h⟩:=h
 obtain⟨sl,h2⟩:=x.mem (z:=q.1) (o:=q.2) hq
 exact⟨_,h2,h⟩
theorem ad.fin{w:World}{κ:CK}{c:Cx w κ}{Γ:G}{ρ:LQ}{s s':Shared}{o:On w}{own hold:AO}(S:ad c Γ ρ s')(A:At o own hold s)(h1:c.sj0=s)(h2:c.o.g=o.g)(h3:c.hold=hold)(h5:∀b∈aZ c.o.fr,b=c.L\/b∈aZ o.fr) :
  ∃os H,Mv o [] [] hold H s s'/\At o ((ρ.zip os).drop κ.nf) H s'/\ρ.length=os.length/\Γ.o.length=os.length/\cy w ρ Γ.o os/\ρ.Nodup/\c.ρ0<+:ρ:=by
 subst h1;subst h3
 obtain⟨m,os,H,F,N,hm,LY,hs⟩:=S
 rw[h2] at F N
 have kp:aw (aZ o.fr) c.hold H:=LY.kp.less fun q hq hm=>(h5 _ hm).elim (fun e=>by
  obtain⟨sl,h⟩:=LY.kp.mem (z:=q.1) (o:=q.2) hq
  exact absurd e (N (q.1,{ q.2 with slots:=sl }) (ZC _ h)).2.1) id
 refine⟨os,H,⟨hs.eq,hs.gx,fun O h=>(nomatch h),kp⟩,⟨A.fr.kept kp,F.keep,Exists.kept A.top kp,fun q hq=>d5.ofNews N q ((ZS.mp hq).elim (fun h=>ZD _ (List.mem_of_mem_drop h)) (ZC _)),fun q hq z hz e=>LY.ap z hz ?_⟩,LY.hl,LY.hg,LY.ho,LY.nd,LY.pre⟩
 refine aA (e ..) ?_
 rw[List.zip_eq_zipWith,List.drop_zipWith,<- List.zip_eq_zipWith] at hq
 exact(Zz hq).1
theorem ga{w:World}{lv:Nat}{f:Addr}{args fa:LX}{kw:LV}{Γo:LO}{T:TQ}{name qual:Str}{params:Arguments}{body:LS}{scope:Scope}{dV kV doc pm cdv ct oc:Value}{an od:Option Addr}{osl:Array (Option Value)}(xs:List Str)
  (ho:(hd.heap_1 w.params).lookup f=some ⟨oc,od,.func (fnOf name qual params body scope dV kV doc pm an cdv ct),osl⟩) (hcd:codeIn (hd.heap_1 w.params) cdv qual=true)
  (hb:∀(ρ:LQ) (s:Shared) us ks,(hd.heap_1 w.params).In s.heap->bh ρ args us->kt ρ kw ks->∃us',bh ρ fa us'/\BindsTo s (fnOf name qual params body scope dV kV doc pm an cdv ct) ⟨us,ks⟩ (xs.zip us')) (hx:(xs.all fun x=>decide (scope.names.lookup x=some .local))=true) (nd:xs.Nodup)
  (H:∀c:Cx w ⟨scope,lv,0,Γo.length,[]⟩,(c.ccd=cdv/\c.env=envOf qual scope c.L f cdv)->Ex c ⟨xs.zip fa,Γo⟩ body (RT Γo.length T)) (hco:scope.isCoroutine=false) (hgen:scope.isGenerator=false) (hk:scope.kind=.function) (hcell:(scope.names.all fun x=>decide (x.2≠.cell))=true):az w (lv+1) f Γo args kw T:=by
 intro ρ os us ks e1 e2 hob ndρ hu hks o hold s Q hfit A _ _ hret R hR
 obtain⟨us',hu',hbind⟩:=hb ρ s us ks (o.X.keeps A.st) hu hks
 have hap':∀q∈hold,q.1∉ρ.drop 0:=fun q hq hm=>by
  rw[List.drop_zero] at hm
  obtain⟨j,hj,e⟩:=ZF.mp hm
  exact A.ap (ρ[j],os[j]'(by exact Za ‹_› ‹_›)) (au (ZA hj) (ZA (by exact Za ‹_› ‹_›))) q hq e
 refine lB (shr:=[]) xs ho hcd hbind hx nd H hco hgen hk hcell A.fr A.st A.sz A.ft hap' hfit hu' e1 e2 hob ndρ (Zf _) (fun O h=>nomatch h) (fun O O O h=>absurd h (Nat.not_lt_zero _)) fun c c1 c2 c3 c4 c5 f' fl ρ' Γ' s' hP hF' S'=>?_
 have key:∀v u l,T v l->v.Is ρ' u->ky Γ'.o l->(Nat.ble Γo.length l.length&&v.fit l.length&&l.all (·.fit l.length))=true->R (.ok (.ret u)) s':=fun v u l hT hv hle hf=>by
  obtain⟨f12,f3⟩:=ZU.mp hf
  obtain⟨f1,f2⟩:=ZU.mp f12
  obtain⟨os2,H2,V,A2,g6,g7,g8,g9,g10⟩:=(S'.weak (Γ₁:=⟨[],l⟩) ⟨.nil,hle⟩ f3 f1).fin A c1 c2 c3 c5
  exact hR _ _ (hret u _ [] H2 s' V A2 (.mk v l _ os2 hT (c4▸g10) g6 g7 g8 g9 (hv.take f2)))
 cases hP with
|ret l h hl hf=>cases hF' with|ret hv=>exact key _ _ l h hv hl hf
|next l h hl hf=>cases hF';exact key (.val .none) _ l h (.val _) hl (by simpa [SV.fit] using hf)
theorem bU{w:World}{lv:Nat}{f:Addr}{args fa:LX}{kw:LV}{Γo:LO}{T:TQ}{name qual:Str}{params:Arguments}{body:LS}{scope:Scope}{dV kV doc pm cdv ct oc:Value}{an od:Option Addr}{osl:Array (Option Value)}(xs:List Str)
  (ho:(hd.heap_1 w.params).lookup f=some ⟨oc,od,.func (fnOf name qual params body scope dV kV doc pm an cdv ct),osl⟩) (hcd:codeIn (hd.heap_1 w.params) cdv qual=true)
  (hb:∀(ρ:LQ) (s:Shared) us ks,(hd.heap_1 w.params).In s.heap->bh ρ args us->kt ρ kw ks->∃us',bh ρ fa us'/\BindsTo s (fnOf name qual params body scope dV kV doc pm an cdv ct) ⟨us,ks⟩ (xs.zip us')) (hx:(xs.all fun x=>decide (scope.names.lookup x=some .local))=true) (nd:xs.Nodup)
  (H:∀c:Cx w ⟨scope,lv,0,Γo.length,[]⟩,c.ccd=cdv->Ex c ⟨xs.zip fa,Γo⟩ body (RT Γo.length T)) (hco:scope.isCoroutine=false) (hgen:scope.isGenerator=false) (hk:scope.kind=.function) (hcell:(scope.names.all fun x=>decide (x.2≠.cell))=true):az w (lv+1) f Γo args kw T :=
 ga xs ho hcd hb hx nd (fun c h=>H c h.1) hco hgen hk hcell
theorem cJ{w:World}{lv:Nat}{f:Addr}{args:LX}{Γo:LO}{T:TQ}{name qual:Str}{params:Arguments}{body:LS}{scope:Scope}{dV kV doc pm cdv ct oc:Value}{an od:Option Addr}{osl:Array (Option Value)}(xs:List Str)
  (ho:(hd.heap_1 w.params).lookup f=some ⟨oc,od,.func (fnOf name qual params body scope dV kV doc pm an cdv ct),osl⟩) (hcd:codeIn (hd.heap_1 w.params) cdv qual=true)
  (hb:∀(s:Shared) us,(hd.heap_1 w.params).In s.heap->us.length=xs.length->BindsTo s (fnOf name qual params body scope dV kV doc pm an cdv ct) ⟨us,[]⟩ (xs.zip us)) (hx:(xs.all fun x=>decide (scope.names.lookup x=some .local))=true) (nd:xs.Nodup) (hl:xs.length=args.length)
  (H:∀c:Cx w ⟨scope,lv,0,Γo.length,[]⟩,c.ccd=cdv->Ex c ⟨xs.zip args,Γo⟩ body (RT Γo.length T)) (hco:scope.isCoroutine=false) (hgen:scope.isGenerator=false) (hk:scope.kind=.function) (hcell:(scope.names.all fun x=>decide (x.2≠.cell))=true):az w (lv+1) f Γo args [] T :=
 bU xs ho hcd (fun ρ s us ks X h1 h2=>⟨us,h1,by obtain rfl:ks=[]:=ZG.mp h2.1;exact hb s us X (by exact aa (svs_len h1 ..) (aa (hl ..) rfl))⟩) hx nd H hco hgen hk hcell
theorem ao{w:World}{lv:Nat}{f:Addr}{args:LX}{Γo:LO}{T:TQ}{name qual:Str}{params:Arguments}{body:LS}{scope:Scope}{dV kV doc pm cdv ct oc:Value}{an od:Option Addr}{osl:Array (Option Value)}(xs:List Str)
  (ho:(hd.heap_1 w.params).lookup f=some ⟨oc,od,.func (fnOf name qual params body scope dV kV doc pm an cdv ct),osl⟩) (hcd:codeIn (hd.heap_1 w.params) cdv qual=true)
  (hb:∀(s:Shared) us,(hd.heap_1 w.params).In s.heap->us.length=xs.length->BindsTo s (fnOf name qual params body scope dV kV doc pm an cdv ct) ⟨us,[]⟩ (xs.zip us)) (hx:(xs.all fun x=>decide (scope.names.lookup x=some .local))=true) (nd:xs.Nodup) (hl:xs.length=args.length)
  (H:∀c:Cx w ⟨scope,lv,0,Γo.length,[]⟩,Ex c ⟨xs.zip args,Γo⟩ body (RT Γo.length T)) (hco:scope.isCoroutine=false) (hgen:scope.isGenerator=false) (hk:scope.kind=.function) (hcell:(scope.names.all fun x=>decide (x.2≠.cell))=true):az w (lv+1) f Γo args [] T :=
 cJ xs ho hcd hb hx nd hl (fun c O=>H c) hco hgen hk hcell
theorem aU{w:World}{lv:Nat}{f:Addr}{args:LX}{Γo:LO}{v:SV}{name qual:Str}{params:Arguments}{body:LS}{scope:Scope}{dV kV doc pm cdv ct oc:Value}{an od:Option Addr}{osl:Array (Option Value)}(xs:List Str)
  (ho:(hd.heap_1 w.params).lookup f=some ⟨oc,od,.func (fnOf name qual params body scope dV kV doc pm an cdv ct),osl⟩) (hcd:codeIn (hd.heap_1 w.params) cdv qual=true)
  (hb:∀(s:Shared) us,(hd.heap_1 w.params).In s.heap->us.length=xs.length->BindsTo s (fnOf name qual params body scope dV kV doc pm an cdv ct) ⟨us,[]⟩ (xs.zip us)) (hx:(xs.all fun x=>decide (scope.names.lookup x=some .local))=true) (nd:xs.Nodup) (hl:xs.length=args.length)
  (H:∀c:Cx w ⟨scope,lv,Γo.length,Γo.length,[]⟩,Ex c ⟨xs.zip args,Γo⟩ body (RR Γo.length v)) (hco:scope.isCoroutine=false) (hgen:scope.isGenerator=false) (hk:scope.kind=.function) (hcell:(scope.names.all fun x=>decide (x.2≠.cell))=true):da w (lv+1) f Γo args [] v:=by
 intro ρ us ks e1 ndρ hu hks o hold s Q hfit A _ hD hret R hR
 obtain rfl:ks=[]:=ZG.mp hks.1
 obtain⟨os,e2,hob,hm⟩:=hD
 have hm':=fun q hq=>ag.mp (hm q hq)
 refine lB (shr:=ρ.zip os) (nf:=Γo.length) xs ho hcd (hb s us (o.X.keeps A.st) (by exact aa (svs_len hu ..) (aa (hl ..) rfl))) hx nd (fun c O=>H c) hco hgen hk hcell A.fr A.st A.sz (fun q hq=>A.ft q ((ZS.mp hq).elim (fun h=>(hm' q h).1) id)) (fun q hq h=>?_) hfit hu (by exact Eq.trans ‹_› ‹_›) e2 hob ndρ (ZZ _) hm' (fun i a x O h1 h2=>au h1 h2) fun c c1 c2 c3 c4 c5 f' fl ρ' Γ' s' hP hF' S'=>?_
 ·rw[Zo (by exact Nat.le_of_eq ‹_›)] at h;exact nomatch h
 obtain⟨os2,H2,V,A2,_,_,_,_,ex,g10⟩:=S'.fin A c1 c2 c3 c5
 have key:∀u,v.Is ρ u->R (.ok (.ret u)) s':=fun u hv=>hR _ _ (hret u [] [] H2 s' V ⟨A2.fr,A2.st,A2.top,fun q hq=>A2.ft q (ZC _ hq),fun O h=>nomatch h⟩ hv)
 cases hP with
|ret h hf =>
  cases hF' with|ret hv =>
  subst h
  refine key _ ?_
  have:=hv.take hf
  rwa [<- g10,c4,<- e1,List.take_left] at this
|next h=>cases hF';exact key _ (h▸.val _)
section
variable{w:World}{κ:CK}{c:Cx w κ}{Γ Γ₁ Γ2 Γ3 Γ4:G}{ρ:LQ}{s:Shared}
def ch(v:SV)(l:LO)(v':SV)(l':LO):Prop:=v'=v/\l'=l
theorem ae.det{lvl:Nat}{f:Addr}{Γo:LO}{args:LX}{kw:LV}{v:SV}{l:LO}(C:az w lvl f Γo args kw (ch v l))(σ:LN)(hσ:Fits Γ σ σ Γo)(nd:σ.Nodup)
  (hf:(Γo.all (·.fit Γo.length)&&args.all (·.fit Γo.length)&&(kw.map (·.2)).all (·.fit Γo.length))=true) (hlv:Nat.ble lvl κ.lv=true) (hz:(σ.all fun i=>Nat.ble κ.nf i)=true:=by exact vT):ae c Γ f (args.map (·.ren σ)) (kw.map fun e=>(e.1,e.2.ren σ)) (v.ren (cQ Γ.o.length σ l.length)) (Γ.upd σ l) :=
 fun _ρ _s R _us _ks S hu h1 h2 K=>ae.of C σ hσ nd hf hlv hz R S hu ⟨h1,h2⟩ fun _v' _l' u ρ' s' ⟨e1,e2⟩ _ hp hv S'=>K u ρ' s' hp (by refine aA (e1 ..) (aA (e2 ..) ?_);exact hv) (by refine aA (e2 ..) ?_;exact S')
end
example : True :=by
 (k_with "cx" => ((case ho => k_is); (case hcd => k_is); (case hb => (intro _ us _ hl; first | (obtain ⟨_, rfl⟩ := len1 hl; exact BindsTo.of_eq rfl) | (obtain ⟨_, _, rfl⟩ := len2 hl; exact BindsTo.of_eq rfl) | (obtain ⟨_, _, _, rfl⟩ := len3 hl; exact BindsTo.of_eq rfl))); (case hx => exact rfl); (case nd => decide); (case hl => exact rfl); (case c1 => exact rfl); (case c2 => exact rfl); (case c3 => exact rfl); (case c4 => exact rfl)))
 trivial
theorem len1{α:Type}{us:List α}(h:us.length=1):∃a,us=[a]:=List.length_eq_one_iff.mp h
theorem len2{α:Type}{us:List α}(h:us.length=2):∃a b,us=[a,b]:=⟨_,_,List.eq_getElem_of_length_eq_two us h⟩
theorem len3{α:Type}{us:List α}(h:us.length=3):∃a b c,us=[a,b,c]:=⟨_,_,_,List.eq_getElem_of_length_eq_three us h⟩
example:True:=by w_top off;trivial
section
variable{prog:Program}{w:World}{A:Around}{E:VS}{s:Shared}{h₀:Heap}{L D:Addr}{m:OV}{news news':AO}
theorem mw{l:Addr}{items:Array Value}{n:Nat}{t:Tok}{v:Value}{Q:UQ}(ho:s.heap.get? l=some (listOf items n))(h0:1<=items.size)
  (hQ:Q () { s with heap:=s.heap.update l (Obj.mapSeq (·.setIfInBounds (items.size-1) v)) }):wpAny (model prog w) A (setItem (.ref l) (.int (-1) t) v) Q E s:=by
 have hl:s.heap.IsList l items:=PySem.IsL.isList (n:=n) ho
 unfold setItem
 try with_reducible refine wpAny_holding ?_
 first|refine ZL (ZM ?_)|skip
 refine ZL (wpAny_sequenceKey hl.typeIs (by decide) ?_)
 refine ZL (wpAny_callSpecial?_slot (name:=Str.ofString "__setitem__") hl.typeIs slot_list_setitem
  (wpAny_call_entry slot_list_setitem hl.typeIs entry_list_setitem ?_ (args_list_setitem _ _ _)))
 show wpAny _ _ (Builtin.List.listSubscript? (.int (-1) t) >>= _) _ _ s
 refine ZL (wpAny_listSubscript_int vT ?_)
 show wpAny _ _ ((Builtin.List.listItems (.ref l) >>= fun xs=>pure ((seqIndex? (-1) xs.size).bind fun j=>xs[j]?.map (j,·))) >>= _) _ _ s
 refine ZL (ZL ?_)
 unfold Builtin.List.listItems
 refine ZL (wpAny_seqItems ho rfl (ZM (ZM ?_)))
 have e:seqIndex? (-1) items.size=some (items.size-1):=by
  unfold seqIndex?
  dsimp only
  rw[if_pos (by decide:(-1:Int)<0),if_pos (by simp;exact(ai [.m .u .a] (.d (.M .o (.p (.j .u) (.t .a))) (.L (.p (.j .u) (.t .a)) (.t .a)))) h0)]
  congr 1
  exact sS items.size
 have hx':items[items.size-1]?=some (items[items.size-1]'(by exact Nat.sub_lt (ZX (Zf _) ‹_›) Nat.one_pos)):=Zt (by exact Nat.sub_lt (ZX (Zf _) ‹_›) Nat.one_pos)
 refine aa (e ..) ?_
 simp only[Option.bind_some,hx',Option.map_some]
 refine ZL (wpAny_setSeqItemAt ho rfl ?_)
 exact ZM ⟨.none,rfl,ZM hQ⟩
theorem nD{vs:LW}{ns:LI}{n:Nat}{t u:Tok}{x:Int}{Q:UQ}(F:Fr h₀ L s.heap m)(N:News h₀ L s.heap news)(U:Upd D (listOf vs.toArray n) (listOf (vs.set (vs.length-1) (.int x u)).toArray n) news news')(hi:IntsAre vs ns)(h0:1<=ns.length)
  (h:∀h',Fr h₀ L h' m->News h₀ L h' news'->IntsAre (vs.set (vs.length-1) (.int x u)) (ns.set (ns.length-1) x)->Q () { s with heap:=h' }) :
  wpAny (model prog w) A (setItem (.ref D) (.int (-1) t) (.int x u)) Q E s:=by
 obtain⟨pre,post,rfl,rfl,a,b⟩:=U.split
 have z:=N (D,listOf vs.toArray n) (ZS.mpr (.inr (.head _)))
 have hl:vs.length=ns.length:=hi.length
 have hI:=ints_set (x:=x) (u:=u) hi (ns.length-1)
 rw[<- hl] at hI
 rw[hl] at hI
 refine mw z.1 (by simp;exact Za ‹_› (Eq.symm ‹_›)) (h _ (F.change (Heap.SameBut.update ..) z.2.1 z.2.2) (ki_turn _ N a b ?_ ?_) ?_)
 ·show vs.toArray.setIfInBounds (vs.toArray.size-1) (.int x u)=(vs.set (vs.length-1) (.int x u)).toArray
  apply Array.toList_inj.mp
  simp
 ·simp
 ·refine aa (hl ..) ?_;exact hI
end
section
variable{w:World}{κ:CK}{c:Cx w κ}{Γ Γ₁ Γ2 Γ3 Γ4:G}{ρ:LQ}{s:Shared}{P:SF->G->Prop}
theorem ad.setItem{i:Nat}{bs:LI}{a:Addr}{k z:Int}{t u:Tok}{Q:UQ}{E:VS}(S:ad c Γ ρ s)(h:Γ.o[i]?=some (.nums bs))(ha:ρ[i]?=some a)(h0:0<=k)(h1:k<bs.length)(h2:k<2^63)(hz:Nat.ble κ.nf i=true)
  (K:∀h',ad c (Γ.setO i (.nums (bs.set k.toNat z))) ρ { s with heap:=h' }->Q () { s with heap:=h' }):wpAny (model PR w) c.A (setItem (.ref a) (.int k t) (.int z u)) Q E s:=by
 obtain⟨m,os,H,F,N,hm,LY,hs⟩:=S
 obtain⟨a',o,ha',hob,hi,hmem⟩:=LY.slot h
 rw[ha] at ha';obtain rfl:=ZK ha'
 obtain⟨_,_,rfl,hI⟩:=hi.numsI
 exact ksa_set F N (LY.upd ha hob _ (ZJ hz)) hI h0 h1 h2 fun h' F' N' hI' O O=>K h' (ad.set (s:={ s with heap:=h' }) hm LY (.nums hI') F' N' (hs.heap h' _) (ZJ hz))
theorem ad.setLast{i:Nat}{bs:LI}{a:Addr}{z:Int}{t u:Tok}{Q:UQ}{E:VS}(S:ad c Γ ρ s)(h:Γ.o[i]?=some (.nums bs))(ha:ρ[i]?=some a)(h0:1<=bs.length)(hz:Nat.ble κ.nf i=true)
  (K:∀h',ad c (Γ.setO i (.nums (bs.set (bs.length-1) z))) ρ { s with heap:=h' }->Q () { s with heap:=h' }):wpAny (model PR w) c.A (PySem.setItem (.ref a) (.int (-1) t) (.int z u)) Q E s:=by
 obtain⟨m,os,H,F,N,hm,LY,hs⟩:=S
 obtain⟨a',o,ha',hob,hi,hmem⟩:=LY.slot h
 rw[ha] at ha';obtain rfl:=ZK ha'
 obtain⟨_,_,rfl,hI⟩:=hi.numsI
 exact nD F N (LY.upd ha hob _ (ZJ hz)) hI h0 fun h' F' N' hI'=>K h' (ad.set (s:={ s with heap:=h' }) hm LY (.nums hI') F' N' (hs.heap h' _) (ZJ hz))
theorem bJ.setItem{o k e:Expr}{p' pos:Pos}{i:Nat}{bs:LI}{z x:Int}(he:Ev c Γ e (.int x) Γ₁)(ho:Ev c Γ₁ o (.ref i) Γ2)(hk:Ev c Γ2 k (.int z) Γ3)(hn:Γ3.o[i]?=some (.nums bs))(h0:0<=z)(h1:z<bs.length)(h2:z<2^63)
  (K:P .next (Γ3.setO i (.nums (bs.set z.toNat x)))) (hs:∀env,swapsWith e (some (.Subscript o k p')) pos.line env=pure false:=by intros;exact vP) (hz:Nat.ble κ.nf i=true:=by exact vT):bJ c Γ (.Assign [.Subscript o k p'] e pos) P:=fun ρ s Q E hE S KK =>
 wpAny_Assign_Subscript (he ρ s _ E S fun u ρ1 sj1 hp1 q1 Sj1=>by
  obtain⟨_,rfl⟩:=q1.intI
  refine ho ρ1 sj1 _ E Sj1 fun u2 ρ₂ sj2 hp2 q2 Sj2=>?_
  refine hk ρ₂ sj2 _ E Sj2 fun u3 ρ3 sj3 hp3 q3 S3=>?_
  obtain⟨_,rfl⟩:=q3.intI
  cases q2.up hp3 with|ref ha =>
  exact S3.setItem hn ha h0 h1 h2 hz fun h' S'=>KK _ _ ρ3 _ _ K .next S') (hs _)
theorem bJ.setLast{o k e:Expr}{p' pos:Pos}{i:Nat}{bs:LI}{x:Int}(he:Ev c Γ e (.int x) Γ₁)(ho:Ev c Γ₁ o (.ref i) Γ2)(hk:Ev c Γ2 k (.int (-1)) Γ3)(hn:Γ3.o[i]?=some (.nums bs))(h0:1<=bs.length)
  (K:P .next (Γ3.setO i (.nums (bs.set (bs.length-1) x)))) (hs:∀env,swapsWith e (some (.Subscript o k p')) pos.line env=pure false:=by intros;exact vP) (hz:Nat.ble κ.nf i=true:=by exact vT):bJ c Γ (.Assign [.Subscript o k p'] e pos) P:=fun ρ s Q E hE S KK =>
 wpAny_Assign_Subscript (he ρ s _ E S fun u ρ1 sj1 hp1 q1 Sj1=>by
  obtain⟨_,rfl⟩:=q1.intI
  refine ho ρ1 sj1 _ E Sj1 fun u2 ρ₂ sj2 hp2 q2 Sj2=>?_
  refine hk ρ₂ sj2 _ E Sj2 fun u3 ρ3 sj3 hp3 q3 S3=>?_
  obtain⟨_,rfl⟩:=q3.intI
  cases q2.up hp3 with|ref ha =>
  exact S3.setLast hn ha h0 hz fun h' S'=>KK _ _ ρ3 _ _ K .next S') (hs _)
theorem bJ.augItem{o e:Expr}{x:Str}{px p' pos:Pos}{op:Operator}{i:Nat}{bs:LI}{k y z:Int}(ho:Ev c Γ o (.ref i) Γ₁)(hk:Ev c Γ₁ (.Name x px) (.int k) Γ2)(hn:Γ2.o[i]?=some (.nums bs))(h0:0<=k)(h1:k<bs.length)(h2:k<2^63)
  (he:Ev c Γ2 e (.int y) Γ3) (hop:gM w op (bs.getD k.toNat 0) y z) (hn3:Γ3.o[i]?=some (.nums bs)) (K:P .next (Γ3.setO i (.nums (bs.set k.toNat z)))) (hz:Nat.ble κ.nf i=true:=by exact vT):bJ c Γ (.AugAssign (.Subscript o (.Name x px) p') op e pos) P:=fun ρ s Q E hE S KK =>
 wpAny_AugAssign_Subscript (ho ρ s _ E S fun u ρ1 sj1 hp1 q1 Sj1=>by
  refine hk ρ1 sj1 _ E Sj1 fun u2 ρ₂ sj2 hp2 q2 Sj2=>?_
  obtain⟨_,rfl⟩:=q2.intI
  cases q1.up hp2 with|ref ha =>
  obtain⟨a',vs,n,os,ha',hI,N,hmem⟩:=Sj2.nums hn
  rw[ha] at ha';obtain rfl:=ZK ha'
  refine ksa_get N hmem hI h0 h1 h2 fun t=>?_
  refine he ρ₂ sj2 _ E Sj2 fun u3 ρ3 sj3 hp3 q3 S3=>?_
  obtain⟨_,rfl⟩:=q3.intI
  refine hop c.A _ _ sj3 _ E fun t' tk=>?_
  exact(S3.toks tk).setItem hn3 (ak hp3 ha) h0 h1 h2 hz fun h' S'=>KK _ _ ρ3 _ _ K .next S')
end
example:True:=by w_top off;trivial
section
variable{w:World}{κ:CK}{c:Cx w κ}{Γ Γ₁ Γ2 Γ3 Γ4:G}{ρ:LQ}{s:Shared}
theorem ae.ro{lvl:Nat}{f:Addr}{Γo:LO}{args:LX}{kw:LV}{v v':SV}(C:da w lvl f Γo args kw v)(σ:LN)(hσ:Fits Γ σ σ Γo)(hv:v.ren σ=v':=by rfl)(nd:σ.Nodup:=by decide)
  (hf:(Γo.all (·.fit Γo.length)&&args.all (·.fit Γo.length)&&(kw.map (·.2)).all (·.fit Γo.length))=true:=by exact vT) (hlv:Nat.ble lvl κ.lv=true:=by exact vT):ae c Γ f (args.map (·.ren σ)) (kw.map fun e=>(e.1,e.2.ren σ)) v' Γ:=by
 subst hv
 intro ρ s R us ks S hu hk1 hk2 K
 have S':=S
 obtain⟨m,os,H,F,N,hm,LY,hs⟩:=S
 obtain⟨hlen,hget⟩:=hσ.get
 have hg:=LY.hg
 have hl:=LY.hl
 have hlt:∀i∈σ,i<ρ.length:=fun i hi=>by
  obtain⟨j,hj,e⟩:=ZF.mp hi
  have h1:σ[j]?=some i:=by exact aa (ZA hj ..) (aa (e ..) vS)
  have h2:=hget j i _ h1 (ZA (h:=hlen▸hj))
  have:=(ZB.mp h2).1
  exact(aJ [.e .a .b,.e .c .b,.l .d .a] (.l .d .c)) hg hl this
 obtain⟨ρc,n2,p2⟩:=qf (os:=ρ) (σ:=σ) hlt
 have fwd:∀(j:Nat) (a:Addr),ρc[j]?=some a->ρ[σ.getD j 0]?=some a:=fun j a h=>by
  have hj:j<σ.length:=n2▸(ZB.mp h).1
  have h1:σ[j]?=some σ[j]:=ZA _
  refine aa (ZE ..) (aa (h1 ..) (aa (Option.getD_some ..) (aA (p2 j _ h1 ..) ?_)));exact h
 have back:∀(j:Nat) (a:Addr),j<Γo.length->ρ[σ.getD j 0]?=some a->ρc[j]?=some a:=fun j a hj h=>by
  have h1:σ[j]?=some (σ[j]'(hlen▸hj)):=ZA _
  exact aa (p2 j _ h1 ..) (aA (h ..) (aa (ZE ..) (aa (h1 ..) (aa (Option.getD_some ..) rfl))))
 obtain⟨f12,f3⟩:=ZU.mp hf
 obtain⟨f1,f2⟩:=ZU.mp f12
 obtain⟨osc,n1,p1,hob,hsub⟩:=hσ.cut LY f1 n2 p2
 have C':=C ρc us ks (by exact Eq.trans ‹_› ‹_›) (gE LY.nd nd hlt n2 p2) (hu.unren back f2) ⟨by refine aa (hk1 ..) (aa (List.map_map ..) ?_);rfl,bh.unren back f3 (by rw[List.map_map] at hk2 ⊢;exact hk2)⟩
 refine rJ C' c.hfr LY.kp F N (fun O O O h=>nomatch h) (LY.offF N) (fun O h=>nomatch h) (c.fits.le (ZJ hlv)) (fun O h=>nomatch h) (fun hold hh O=>⟨osc,by exact Eq.trans (Eq.symm ‹_›) (Eq.symm ‹_›),hob,fun q hq=>hh q (hsub q hq) fun O h=>nomatch h⟩) (fun r foot' pg' H' s' V F' hHf hN O O hP=>?_) R fun O O h=>h
 have ap:∀q∈H',q.1∉(ρ++[]).drop κ.nf:=LY.apEx hHf fun O h=>nomatch h
 rw[List.append_nil] at ap
 exact K r ρ _ (ZN _) (hP.ren fwd) (.mk m os H' F' (hN _ fun q hq=>.inr ⟨hq,fun O h=>nomatch h⟩) hm ⟨LY.hl,LY.hg,LY.ho,LY.nd,LY.pre,ap,V.kp,LY.sh⟩ (hs.mv V))
theorem ab{a b d:SO}{σ:LN}{i j k:Nat}(h1:Γ.o[i]?=some (a.ren σ))(h2:Γ.o[j]?=some (b.ren σ))(h3:Γ.o[k]?=some (d.ren σ)):Fits Γ σ [i,j,k] [a,b,d]:=.cons h1 (.cons h2 (.cons h3 .nil))
theorem Ev.call_m{x:Str}{xp pos:Pos}{e:Expr}{es:List Expr}{q i:Nat}{f:Addr}{vs:LX}{v:SV}(hf:Ev c Γ (.Name x xp) (.ref q) Γ)(hq:Γ.o[q]?=some (.meth f (.ref i)))(hk:fnIn (hd.heap_1 w.params) f=true)(ha:jn c Γ (e::es) vs Γ₁)(hq1:Γ₁.o[q]?=some (.meth f (.ref i)))(hc:ae c Γ₁ f (.ref i::vs) [] v Γ2)
  (he:∀env,starEach (e::es) env=(false,eval e env)::starEach es env:=by intros;rfl) (hp:∀env,(backTo pos (starEach es env)).any (·.1)=false:=by intros;rfl):Ev c Γ (.Call (.Name x xp) (e::es) [] pos) v Γ2:=fun ρ s Q E S k =>
 Call_ (hf ρ s _ E S fun u ρ1 sj1 hp1 q1 Sj1=>by
  have S1':=Sj1
  obtain⟨m,os,H,F,N,hm,LY,hs⟩:=Sj1
  obtain⟨a,o,ha1,_,hi,hmem⟩:=LY.slot hq
  obtain rfl:=q1.refAt ha1
  replace hi:=hi.methI;obtain⟨_,rfl,hi⟩:=hi
  replace hi:=hi.refI;obtain⟨_,rfl,hi⟩:=hi
  refine callWith_M c.o.X N hmem hk (ha pos ρ1 sj1 _ E S1' fun us ρ₂ sj2 hp2 q2 Sj2=>?_) (he _) (hp _)
  have S2':=Sj2
  obtain⟨m2,os2,H2,F2,N2,hm2,LY2,hs2⟩:=Sj2
  obtain⟨a2,o2,ha2,_,hi2,hmem2⟩:=LY2.slot hq1
  have ha1':=ak hp2 ha1
  rw[ha2] at ha1';obtain rfl:=ZK ha1'
  replace hi2:=hi2.methI;obtain⟨_,rfl,hi2⟩:=hi2
  replace hi2:=hi2.refI;obtain⟨_,rfl,hi2⟩:=hi2
  have hi':=ak hp2 hi
  rw[hi2] at hi';obtain rfl:=ZK hi'
  refine⟨methP N2 hmem2 (bO S2'),call_meth N2 hmem2 (hc ρ₂ sj2 _ _ [] S2' (.cons (.ref hi2) q2) rfl .nil fun u ρ3 sj3 hp3 hv S3=>k u ρ3 sj3 ((hp1.trans hp2).trans hp3) hv S3)⟩)
end
example:True:=by w_top off;trivial
theorem aD(w:World):fk w 514 "bits":=⟨by k_is,by k_is,none,by k_is,by k_is⟩
theorem ce(w:World):am w 514 "byte_count" 375:=⟨by k_is,by k_is,by k_is,by k_is⟩
theorem qs(w:World):am w 514 "_get_byte" 382:=⟨by k_is,by k_is,by k_is,by k_is⟩
theorem mh(w:World):dI w 514 "_get_byte" 382:=⟨by k_is,by k_is,by k_is,by k_is,by k_is,by k_is,by decide⟩
section
variable{w:World}{κ:CK}{c:Cx w κ}{Γ Γ₁ Γ2 Γ3 Γ4:G}{ρ:LQ}{s:Shared}
theorem ax.one{f:Value}{v:SV}{r:SV}(H:∀ρ s Q E u,ad c Γ ρ s->v.Is ρ u->(∀x tk,r.Is ρ x->Q x { s with toks:=tk })->wpAny (model PR w) c.A (call f [u] []) Q E s):ax c Γ (.val f) [v] [] r Γ:=fun ρ s Q E fv us ks S hf hv hk1 O K=>by
 obtain rfl:=hf.valI
 obtain⟨_,_,rfl,h1,h2⟩:=hv.consI
 obtain rfl:=h2.nilI
 obtain rfl:ks=[]:=ZG.mp hk1
 exact H ρ s Q E _ S h1 fun x tk hx=>K x ρ _ (ZN _) hx (S.toks tk)
theorem ax.len{i:Nat}{bs:LI}(h:Γ.o[i]?=some (.nums bs))(hl:bs.length<2^62):ax c Γ (.val (.builtin "len")) [.ref i] [] (.int bs.length) Γ:=.one fun ρ s Q E u S hv K=>by
 obtain⟨_,rfl,ha'⟩:=hv.refI
 obtain⟨a,vs,n,os,ha,hI,N,hg⟩:=S.nums h
 rw[ha] at ha';obtain rfl:=ZK ha'
 exact len_ints_fit (aK (N _ hg).1) hI hl (K _ _ (.int _ _))
theorem ax.boolI{z:Int}{b:Bool}(hb:b=(z != 0)):ax c Γ (.val (.type "bool")) [.int z] [] (.val (.bool b)) Γ:=.one fun ρ s Q E u S hv K=>by
 obtain⟨_,rfl⟩:=hv.intI;exact call_bool_int (K _ s.toks (hb▸.val _))
theorem Ev.len{pos fp:Pos}{e:Expr}{i:Nat}{bs:LI}(h:Ev c Γ e (.ref i) Γ₁)(hn:Γ₁.o[i]?=some (.nums bs))(hl:bs.length<2^62)(hx:κ.cs.names.lookup (Str.ofString "len")=some .globalImplicit:=by exact vS)(hs:∀env,starEach [e] env=(false,eval e env)::starEach [] env:=by intros;rfl):Ev c Γ (.Call (.Name "len" fp) [e] [] pos) (.int bs.length) Γ₁ :=
 .call_bi (.bi (by k_is) boot_len (hx:=hx)) (.cons h .nil hs) (.len hn hl) hs
end
section
variable{w:World}{κ:CK}{c:Cx w κ}{Γ Γ₁ Γ2 Γ3 Γ4:G}{ρ:LQ}{s:Shared}
theorem cZ.div8{a:Int}:cZ w .FloorDiv a 8 (a/8):=by
 have:=cZ.div (w:=w) (a:=a) (b:=8) (by decide) (PyProof.noPylong_of_log2 (by decide +kernel))
 rwa [Int.fdiv_eq_ediv_of_nonneg _ (by decide)] at this
theorem cZ.mul8{a:Int}:cZ w .Mult a 8 (a*8):=.mul (.of_right (by decide))
theorem cZ.shr3{a:Int}:cZ w .RShift a 3 (a/8):=by
 have:=cZ.shr (w:=w) (a:=a) (b:=3) (by decide)
 rwa [Int.fdiv_eq_ediv_of_nonneg _ (by decide)] at this
theorem cZ.and7{a:Int}:cZ w .BitAnd a 7 (a%8):=by
 have:=cZ.and (w:=w) (a:=a) (b:=7)
 rwa [show Builtin.bitAnd a 7=a%8 from bitAnd_m3 a] at this
theorem cZ.mod8{a:Int}:cZ w .Mod a 8 (a%8):=by
 have:=cZ.mod (w:=w) (a:=a) (b:=8) (by decide)
 rwa [Int.fmod_eq_emod_of_nonneg _ (by decide)] at this
theorem cZ.shl1{z:Int}:cZ w .LShift 1 (z%8) (1*2^(z%8).toNat):=.shl (by lia) (by
 have e:Builtin.Int.intBits 1=1:=by decide
 refine aa (e ..) ?_;exact(dk [.Q 8 .C .A .B] (.M (.p (.t .u) .A) (.n 134217728))) (dJ 8))
end
noncomputable abbrev ba(bs:LI):List SO:=[.inst 514 1,.attrs [("bits",.ref 2)],.nums bs]
theorem je(w:World)(i:Int):da w 1 84 [] [.int i] [] (.int ((i+8)/8)):=by
 refine' aU ["bitcount"] ?ho ?hcd ?hb ?hx ?nd ?hl ?H ?c1 ?c2 ?c3 ?c4
 k_extra "cx"
 exact fun c=>.cons (.assign (.iop (.iop (.name vS) .intE .add) .intE .div8) (.cons (.ret (.name vS) (.ret rfl vT))))
theorem cM(w:World)(bs:LI)(hlen:bs.length<=3):da w 1 375 (ba bs) [.ref 0] [] (.int bs.length):=by
 refine' aU ["self"] ?ho ?hcd ?hb ?hx ?nd ?hl ?H ?c1 ?c2 ?c3 ?c4
 k_extra "cx"
 exact fun c=>.cons (.ret (.len (.attr (.name vS) vS vS vS (aD w) af) vS (by exact ZX ‹_› (by decide))) (.ret rfl vT))
theorem kX(w:World)(bs:LI)(hlen:bs.length<=3)(z:Int)(h0:0<=z)(h1:z<bs.length):da w 1 382 (ba bs) [.ref 0,.int z] [] (.int (bs.getD z.toNat 0)):=by
 refine' aU ["self","n"] ?ho ?hcd ?hb ?hx ?nd ?hl ?H ?c1 ?c2 ?c3 ?c4
 k_extra "cx"
 exact fun c=>.cons (.ret (.item (.attr (.name vS) vS vS vS (aD w) af) (.name vS) vS h0 h1 (by exact(aR [.m .a .w,.L .A (.t .a)] (.L .A .i)) hlen h1)) (.ret rfl vT))
noncomputable def ay(bs:LI)(i:Int):Bool:=if (bs.length:Int)<=i/8 then false else Builtin.bitAnd (bs.getD (i/8).toNat 0) (1*2^(i%8).toNat) != 0
theorem tz(x:Int):Builtin.bitAnd 0 x=0:=by
 have:=kbt_mask' x 0
 simpa using this
theorem jU{bs:LI}{l:Int}(h:bs.getD (l/8).toNat 0=0):ay bs l=false:=by
 unfold ay
 split
 ·rfl
 ·refine aa (h ..) (aa (tz ..) ?_);rfl
theorem fQ{bs:LI}{l:Int}(hlt:l<bs.length*8):ay bs l=(Builtin.bitAnd (bs.getD (l/8).toNat 0) (1*2^(l%8).toNat) != 0):=by
 unfold ay
 exact aa (if_neg (by exact(aG [.L .A (.r (.t .a) 8),.W 8 .B .A] (.x (.M (.t .a) .B))) hlt (aM 8)) ..) rfl
theorem qI{bs:LI}{l:Int}(h:(bs.length:Int)*8<=l):ay bs l=false:=by
 unfold ay
 exact aa (if_pos (by exact(aG [.M (.r (.t .a) 8) .A,.W 8 .B .A] (.M (.t .a) .B)) h (aM 8)) ..) rfl
noncomputable def fP(bs:LI):Nat->SV
|0=>.val .none
|n+1=>if ay bs n then .int n else fP bs n
noncomputable def loN(bs:LI)(lo:Int):Nat->SV
|0=>.val .none
|n+1=>if ay bs lo then .int lo else loN bs (lo+1) n
theorem jT{bs:LI}{a b:Int}(hb:0<=b)(h:∀l:Int,b<=l->l<a->ay bs l=false)(hab:b<=a):fP bs a.toNat=fP bs b.toNat:=by
 obtain⟨k,rfl⟩:∃k:Nat,a=b+k:=⟨(a-b).toNat,by exact(aG [.M .A .B,.T .a (.s .B .A)] (.E .B (.p .A (.t .a)))) hab (bz _)⟩
 induction k with
|zero=>congr 1;exact(c8 [.T .a (.p .A (.t .o)),.T .b .A] (.e .a .b)) (bz _) (bz _)
|succ k ih =>
  rw[show b+((k+1:Nat):Int)=b+(k:Int)+1 by rw[Int.natCast_succ,<- Int.add_assoc],tX (Int.add_nonneg hb (Int.natCast_nonneg k))]
  show (if ay bs ((b+(k:Int)).toNat:Int) then _ else fP bs (b+(k:Int)).toNat)=_
  refine aa (Int.toNat_of_nonneg (Int.add_nonneg hb (Int.natCast_nonneg k)) ..) (aa (h _ (by exact(aR [] (.M .A (.p .A (.t .a))))) (by exact(aR [] (.L (.p .A (.t .a)) (.p .A (.t (.p .a .u)))))) ..) (aa (ih (fun l h1 h2=>h l h1 (by exact(aG [.L .A (.p .B (.t .a))] (.L .A (.p .B (.t (.p .a .u))))) h2)) (by exact(aR [] (.M .A (.p .A (.t .a))))) ..) ?_))
  rfl
theorem qH{bs:LI}{a:Int}(h0:0<=a)(h:ay bs a=true):fP bs (a+1).toNat=.int a:=by
 refine aa (tX h0 ..) ?_
 show (if ay bs (a.toNat:Int) then SV.int (a.toNat:Int) else _)=_
 exact aa (Int.toNat_of_nonneg h0 ..) (aa (if_pos h ..) rfl)
theorem jI{bs:LI}(lo:Int):∀(k n:Nat),(∀l:Int,lo<=l->l<lo+k->ay bs l=false)->k<=n->loN bs lo n=loN bs (lo+k) (n-k)
|0,n,_,_=>by simp
|k+1,0,_,h=>by lia
|k+1,n+1,h,hk=>by
  show (if ay bs lo then SV.int lo else loN bs (lo+1) n)=_
  refine aa (h lo (by exact(aO [] (.M .A .A))) (by exact(aR [] (.L .A (.p .A (.t (.p .a .u)))))) ..) (aa (jI (lo+1) k n (fun l h1 h2=>h l (by exact Int.le_of_lt ‹_›) (by exact(aG [.L .A (.p (.p .B .u) (.t .a))] (.L .A (.p .B (.t (.p .a .u))))) h2)) (by exact Nat.le_of_lt_succ ‹_›) ..) ?_)
  simp only[Bool.false_eq_true,if_false]
  congr 1
  ·exact(aR [] (.E (.p (.p .A .u) (.t .a)) (.p .A (.t (.p .a .u)))))
  ·lia
noncomputable def bp(bs:LI)(i:Int):Int:=if i<=0 then -1 else if (bs.length:Int)*8<=i then bs.length*8-1 else i-1
noncomputable def bR(i:Int):Int:=if i<0 then 0 else i+1
noncomputable def kx(bs:LI)(lo:Int):SV:=loN bs lo (bs.length*8-lo).toNat
theorem jH{bs:LI}{a b:Int}(hab:a<=b)(hb:b<=bs.length*8)(h:∀l:Int,a<=l->l<b->ay bs l=false):kx bs a=kx bs b:=by
 unfold kx
 obtain⟨m,hm⟩:=Int.eq_ofNat_of_zero_le (show 0<=b-a by exact(bo [.M .A .B] (.M .o (.s .B .A))) hab)
 obtain⟨n,hn⟩:=Int.eq_ofNat_of_zero_le (show 0<=(bs.length:Int)*8-b by exact(aR [.M .A (.r (.t .a) 8)] (.M .o (.s (.r (.t .a) 8) .A))) hb)
 have e:(bs.length:Int)*8-a=((n+m:Nat):Int):=by exact(r0 [.E (.s .A .B) (.t .a),.E (.s (.r (.t .b) 8) .A) (.t .c)] (.E (.s (.r (.t .b) 8) .B) (.t (.p .c .a)))) hm hn
 have e2:b=a+(m:Int):=by exact(aG [.E (.s .A .B) (.t .a)] (.E .A (.p .B (.t .a)))) hm
 exact aa (hn ..) (aa (e ..) (aa (Int.toNat_natCast ..) (aa (Int.toNat_natCast ..) (aa (jI a m _ (fun l h1 h2=>h l h1 (by exact(eZ [.E (.s .A .B) (.t .a),.L .C (.p .B (.t .a))] (.L .C .A)) hm h2)) (Nat.le_add_left _ _) ..) (aa (Nat.add_sub_cancel ..) (aa (e2 ..) rfl))))))
theorem qz{bs:LI}{a:Int}(ha:a<bs.length*8)(h:ay bs a=true):kx bs a=.int a:=by
 unfold kx
 refine aA (Int.sub_add_cancel ((bs.length:Int)*8-a) 1 ..) (aa (tX (by exact(aR [.L .A (.r (.t .a) 8)] (.M .o (.s (.s (.r (.t .a) 8) .A) .u))) ha) ..) ?_)
 exact if_pos h
theorem lN{bs:LI}{a:Int}(ha:bs.length*8<=a):kx bs a=.val .none:=by
 unfold kx
 refine aa (show (bs.length*8-a).toNat=0 by exact(c8 [.M (.r (.t .a) 8) .A,.T .b (.s (.r (.t .a) 8) .A)] (.e .b .o)) ha (bz _)) ?_;rfl
theorem eE(bs:LI)(σ:LN):∀n,(fP bs n).ren σ=fP bs n
|0=>rfl
|n+1=>by
  show (if ay bs n then SV.int n else fP bs n).ren σ=if ay bs n then SV.int n else fP bs n
  split
  ·rfl
  ·exact eE bs σ n
theorem lW(bs:LI)(k:Nat):∀n,(fP bs n).fit k=true
|0=>rfl
|n+1=>by
  show (if ay bs n then SV.int n else fP bs n).fit k=true
  split
  ·rfl
  ·exact lW bs k n
theorem fN(bs:LI)(σ:LN):∀n lo,(loN bs lo n).ren σ=loN bs lo n
|0,_=>rfl
|n+1,lo=>by
  show (if ay bs lo then SV.int lo else loN bs (lo+1) n).ren σ=if ay bs lo then SV.int lo else loN bs (lo+1) n
  split
  ·rfl
  ·exact fN bs σ n _
theorem lO(bs:LI)(k:Nat):∀n lo,(loN bs lo n).fit k=true
|0,_=>rfl
|n+1,lo=>by
  show (if ay bs lo then SV.int lo else loN bs (lo+1) n).fit k=true
  split
  ·rfl
  ·exact lO bs k n _
theorem d1(w:World)(bs:LI)(hlen:bs.length<=3)(z:Int)(h0:0<=z):da w 3 320 (ba bs) [.ref 0,.int z] [] (.val (.bool (ay bs z))):=by
 refine' aU ["self","i"] ?ho ?hcd ?hb ?hx ?nd ?hl ?H ?c1 ?c2 ?c3 ?c4
 k_extra "cx"
 intro c
 refine .cons (.assign (.iop (.name vS) .intE .div8) (.cons (.ite (.icmp (.name vS) (.mcall0 (.name vS) vS vS rfl (ce w) (ae.ro (cM w bs hlen) [0,1,2] (ab rfl rfl rfl)).cal) .ge) (fun h=>.cons (.ret .boolE (.ret ?_ vT))) fun h=>.nil (.cons (.ret (.call_ty (.bi (by k_is) boot_bool) (.cons (.iop
  (.mcall (.name vS) vS vS rfl (qs w) (.cons (.name vS) .nil) (ae.ro (kX w bs hlen (z/8) (by exact(bo [.M .o .A,.W 8 .B .A] (.M .o .B)) h0 (aM 8)) (by exact(aG [.x (.M (.t .a) .A),.W 8 .A .B] (.L .A (.t .a))) h (aM 8))) [0,1,2] (ab rfl rfl rfl)).cal) (.iop .intE (.iop (.name vS) .intE .and7) .shl1) .and) .nil) (.boolI ?_)) (.ret rfl vT))))))
 ·unfold ay;rw[if_pos h]
 ·unfold ay;exact aa (if_neg h ..) rfl
theorem kb(w:World)(bs:LI)(hlen:bs.length<=3)(i:Int):da w 3 341 (ba bs) [.ref 0,.int i] [] (fP bs (bp bs i+1).toNat):=by
 refine' aU ["self","i"] ?ho ?hcd ?hb ?hx ?nd ?hl ?H ?c1 ?c2 ?c3 ?c4
 k_extra "cx"
 intro c
 refine .cons (.assign (.bound (.name vS) vS vS rfl (mh w)) (.cons (.assign (.iop (.mcall0 (.name vS) vS vS rfl (ce w) (ae.ro (cM w bs hlen) [0,1,2] (ab rfl rfl rfl)).cal) .intE .mul8)
  (.cons (.join (fun j=>j=bp bs i/\-1<=j/\j<bs.length*8) (fun j=>⟨[("i",.int j),("_get_byte",.ref 3),("self",.ref 0)],ba bs++[.meth 382 (.ref 0)]⟩) ?_ ?_)))))
 ·refine .ite (.icmp (.name vS) .intE .le) (fun h=>.cons (.ret .nonE (.ret (.ret ?_ vT)))) fun h=>.cons (.ite (.icmp (.name vS) (.name vS) .ge) (fun h'=>.cons (.assign (.iop (.name vS) .intE .sub) (.nil (.nil (.next _ ?_ ⟨.cons vS (.cons vS (.cons vS .nil)),.same⟩ vT vT))))) fun h'=>.cons (.aug vS .intE .sub (.nil (.nil (.next _ ?_ ⟨.cons vS (.cons vS (.cons vS .nil)),.same⟩ vT vT)))))
  ·unfold bp;refine aa (if_pos h ..) ?_;rfl
  ·unfold bp;refine aa (if_neg h ..) (aa (if_pos h' ..) ?_);exact(ai [] (.d (.E (.s (.r (.t .a) 8) .u) (.s (.r (.t .a) 8) .u)) (.d (.M (.j .u) (.s (.r (.t .a) 8) .u)) (.L (.s (.r (.t .a) 8) .u) (.r (.t .a) 8)))))
  ·unfold bp;refine aa (if_neg h ..) (aa (if_neg h' ..) ?_);exact(aR [.x (.M .A .o),.x (.M (.r (.t .a) 8) .A)] (.d (.E (.s .A .u) (.s .A .u)) (.d (.M (.j .u) (.s .A .u)) (.L (.s .A .u) (.r (.t .a) 8))))) h h'
 ·rintro j ⟨hj,j1,j2⟩
  subst hj
  refine .cons (.assign (.iop (.name vS) .intE .div8) (.cons (.loop (fun a:Int=>-1<=a/\a<bs.length*8/\fP bs (a+1).toNat=fP bs (bp bs i+1).toNat) (fun a=>⟨[("i",.int a),("bucket",.int (a/8)),("_get_byte",.ref 3),("self",.ref 0)],ba bs++[.meth 382 (.ref 0)]⟩) (fun a=>(a+1).toNat) (fun a=>0<=a) _ ⟨j1,j2,rfl⟩
   ⟨.cons vS (.cons vS (.cons vS (.cons vS .nil))),.same⟩ rfl rfl ?_)))
  rintro a ⟨a1,a2,a3⟩
  refine⟨.icmp (.name vS) .intE .ge,fun hp=>?_,fun hp=>.cons (.ret .nonE (.ret ?_ vT))⟩
  ·refine .cons (.assign (.call_m (.name vS) vS (by k_is) (.cons (.name vS) .nil) vS (ae.ro (kX w bs hlen (a/8) (by exact(bo [.M .o .A,.W 8 .B .A] (.M .o .B)) hp (aM 8)) (by exact(aG [.L .A (.r (.t .a) 8),.W 8 .B .A] (.L .B (.t .a))) a2 (aM 8))) [0,1,2] (ab vS vS vS))) (.cons (.ite (.not (.plain (.name vS) .int)) (fun hz=>?_) fun hz=>.nil ?_)))
   ·refine .cons (.aug vS .intE .sub (.cons (.assign (.iop (.iop (.name vS) .intE .mul8) .intE .add) (.cons (.cont (.cont ((a/8-1)*8+7) ⟨by exact(bo [.M .o .B,.W 8 .A .B] (.M (.j .u) (.p (.r (.s .A .u) 8) (.n 7)))) hp (aM 8),by exact(aG [.L .A (.r (.t .a) 8),.W 8 .B .A] (.L (.p (.r (.s .B .u) 8) (.n 7)) (.r (.t .a) 8))) a2 (aM 8),?_⟩ (sP (by exact(aO [.M .o .A] (.L .o (.p .A .u))) hp) (by exact(bo [.W 8 .A .B] (.L (.p (.p (.r (.s .A .u) 8) (.n 7)) .u) (.p .B .u))) (aM 8))) ⟨.cons vS (.cons (congrArg (fun z=>some (SV.int z)) ?_) (.cons vS (.cons vS .nil))),.cons (.cons (.cons (.cons .nil)))⟩ vT vT))))))
    ·rw[<- a3,<- jT (a:=a+1) (b:=(a/8-1)*8+7+1) (by exact(bo [.M .o .B,.W 8 .A .B] (.M .o (.p (.p (.r (.s .A .u) 8) (.n 7)) .u))) hp (aM 8)) (fun l h1 h2=>jU (by rw[show l/8=a/8 by exact(jN [.M (.p (.p (.r (.s .A .u) 8) (.n 7)) .u) .C,.L .C (.p .B .u),.W 8 .A .B,.W 8 .D .C] (.E .D .A)) h1 h2 (aM 8) (aM 8)];exact Decidable.not_not.mp hz)) (by exact(bo [.W 8 .A .B] (.M (.p (.p (.r (.s .A .u) 8) (.n 7)) .u) (.p .B .u))) (aM 8))]
    ·exact(dk [.W 8 .A .B,.W 8 .C (.p (.r (.s .A .u) 8) (.n 7))] (.E (.s .A .u) .C)) (aM 8) (aM 8)
   ·refine .cons (.ite (.plain (.iop (.name vS) (.iop .intE (.iop (.name vS) .intE .and7) .shl1) .and) .int) (fun hb=>.cons (.ret (.name vS) (.ret (.ret ?_ vT)))) fun hb=>.nil ?_)
    ·rw[<- a3,qH hp (by rw[fQ a2];simpa using hb)]
    ·have hb':ay bs a=false:=by refine aa (fQ a2 ..) ?_;simpa using hb
     have hs:fP bs (a-1+1).toNat=fP bs (bp bs i+1).toNat:=by
      rw[<- a3,jT (a:=a+1) (b:=a-1+1) (by exact(aO [.M .o .A] (.M .o (.p (.s .A .u) .u))) hp) (fun l h1 h2=>by rw[show l=a by exact(bo [.M (.p (.s .A .u) .u) .B,.L .B (.p .A .u)] (.E .B .A)) h1 h2];exact hb') (by exact(aO [] (.M (.p (.s .A .u) .u) (.p .A .u))))]
     refine .cons (.ite (.icmp (.iop (.name vS) .intE .mod8) .intE .eq) (fun h=>.cons (.aug vS .intE .sub (.nil ?_))) fun h=>.nil ?_)
     ·exact .cons (.aug vS .intE .sub (.nil (.next (a-1) ⟨by exact(dk [.M (.j .u) .B,.E .C .o,.Q 8 .A .C .B] (.M (.j .u) (.s .B .u))) a1 h (dJ 8),by exact(eZ [.L .A (.r (.t .a) 8),.E .B .o,.Q 8 .C .B .A] (.L (.s .A .u) (.r (.t .a) 8))) a2 h (dJ 8),hs⟩ (by refine aa (Int.sub_add_cancel ..) ?_;exact sP (by exact(dk [.M (.j .u) .B,.E .C .o,.Q 8 .A .C .B] (.L .o (.p .B .u))) a1 h (dJ 8)) (by exact(aO [] (.L .A (.p .A .u))))) ⟨.cons vS (.cons (congrArg (fun z=>some (SV.int z)) (by exact(jN [.E .A .o,.Q 8 .C .A .B,.W 8 .D (.s .B .u)] (.E (.s .C .u) .D)) h (dJ 8) (aM 8))) (.cons vS (.cons vS .nil))),.same⟩ vT vT)))
     ·exact .cons (.aug vS .intE .sub (.nil (.next (a-1) ⟨by exact(aO [.M .o .A] (.M (.j .u) (.s .A .u))) hp,by exact(aR [.L .A (.r (.t .a) 8)] (.L (.s .A .u) (.r (.t .a) 8))) a2,hs⟩ (by refine aa (Int.sub_add_cancel ..) ?_;exact sP (by exact(aO [.M .o .A] (.L .o (.p .A .u))) hp) (by exact(aO [] (.L .A (.p .A .u))))) ⟨.cons vS (.cons (congrArg (fun z=>some (SV.int z)) (by exact(jN [.x (.E .A .o),.Q 8 .C .A .B,.W 8 .D (.s .B .u)] (.E .C .D)) h (dJ 8) (aM 8))) (.cons vS (.cons vS .nil))),.same⟩ vT vT)))
  ·refine aA (a3 ..) ?_
   refine aa (show (a+1).toNat=0 by exact(aR [.x (.M .o .A),.T .a (.p .A .u)] (.e .a .o)) hp (bz _)) ?_
   rfl
example:True:=by w_top off;trivial
theorem ie(w:World):am w 514 "before" 341:=⟨by k_is,by k_is,by k_is,by k_is⟩
theorem jG(w:World):am w 514 "after" 348:=⟨by k_is,by k_is,by k_is,by k_is⟩
theorem ma(w:World)(bs:LI)(hlen:bs.length<=3)(i:Int):da w 3 348 (ba bs) [.ref 0,.int i] [] (kx bs (bR i)):=by
 refine' aU ["self","i"] ?ho ?hcd ?hb ?hx ?nd ?hl ?H ?c1 ?c2 ?c3 ?c4
 k_extra "cx"
 intro c
 refine .cons (.assign (.bound (.name vS) vS vS rfl (mh w)) (.cons (.assign (.iop (.mcall0 (.name vS) vS vS rfl (ce w) (ae.ro (cM w bs hlen) [0,1,2] (ab rfl rfl rfl)).cal) .intE .mul8)
  (.cons (.join (fun j=>j=bR i/\0<=j/\j<=bs.length*8) (fun j=>⟨[("i",.int j),("size",.int (bs.length*8)),("_get_byte",.ref 3),("self",.ref 0)],ba bs++[.meth 382 (.ref 0)]⟩) ?_ ?_)))))
 ·refine .ite (.icmp (.name vS) (.name vS) .ge) (fun h=>.cons (.ret .nonE (.ret (.ret ?_ vT)))) fun h=>.cons (.ite (.icmp (.name vS) .intE .lt) (fun h'=>.cons (.assign .intE (.nil (.nil (.next _ ?_ ⟨.cons vS (.cons vS (.cons vS (.cons vS .nil))),.same⟩ vT vT))))) fun h'=>.cons (.aug vS .intE .add (.nil (.nil (.next _ ?_ ⟨.cons vS (.cons vS (.cons vS (.cons vS .nil))),.same⟩ vT vT)))))
  ·exact(lN (by unfold bR;split <;> lia)).symm
  ·unfold bR;refine aa (if_pos h' ..) ?_;exact(ai [] (.d (.E .o .o) (.d (.M .o .o) (.M .o (.r (.t .a) 8)))))
  ·unfold bR;refine aa (if_neg h' ..) ?_;exact(aR [.x (.M (.r (.t .a) 8) .A),.x (.L .A .o)] (.d (.E (.p .A .u) (.p .A .u)) (.d (.M .o (.p .A .u)) (.M (.p .A .u) (.r (.t .a) 8))))) h h'
 ·rintro j ⟨hj,j1,j2⟩
  subst hj
  refine .cons (.assign (.iop (.name vS) .intE .div8) (.cons (.loop (fun a:Int=>0<=a/\a<=bs.length*8/\kx bs a=kx bs (bR i)) (fun a=>⟨[("i",.int a),("bucket",.int (a/8)),("size",.int (bs.length*8)),("_get_byte",.ref 3),("self",.ref 0)],ba bs++[.meth 382 (.ref 0)]⟩) (fun a=>(bs.length*8-a).toNat) (fun a=>a<bs.length*8) _ ⟨j1,j2,rfl⟩
   ⟨.cons vS (.cons vS (.cons vS (.cons vS (.cons vS .nil)))),.same⟩ rfl rfl ?_)))
  rintro a ⟨a1,a2,a3⟩
  refine⟨.icmp (.name vS) (.name vS) .lt,fun hp=>?_,fun hp=>.cons (.ret .nonE (.ret (by refine aA (a3 ..) ?_;exact(lN (by exact(aR [.x (.L .A (.r (.t .a) 8))] (.M (.r (.t .a) 8) .A)) hp)).symm) vT))⟩
  refine .cons (.assign (.call_m (.name vS) vS (by k_is) (.cons (.name vS) .nil) vS (ae.ro (kX w bs hlen (a/8) (by exact(bo [.M .o .A,.W 8 .B .A] (.M .o .B)) a1 (aM 8)) (by exact(aG [.L .A (.r (.t .a) 8),.W 8 .B .A] (.L .B (.t .a))) hp (aM 8))) [0,1,2] (ab vS vS vS))) (.cons (.ite (.not (.plain (.name vS) .int)) (fun hz=>?_) fun hz=>.nil ?_)))
  ·refine .cons (.aug vS .intE .add (.cons (.assign (.iop (.name vS) .intE .mul8) (.cons (.cont (.cont ((a/8+1)*8) ⟨by exact(bo [.M .o .A,.W 8 .B .A] (.M .o (.r (.p .B .u) 8))) a1 (aM 8),by exact(aG [.L .B (.r (.t .a) 8),.W 8 .A .B] (.M (.r (.p .A .u) 8) (.r (.t .a) 8))) hp (aM 8),?_⟩ (sP (by exact(aR [.L .A (.r (.t .a) 8)] (.L .o (.s (.r (.t .a) 8) .A))) hp) (by exact(aG [.W 8 .A .B] (.L (.s (.r (.t .a) 8) (.r (.p .A .u) 8)) (.s (.r (.t .a) 8) .B))) (aM 8))) ⟨.cons vS (.cons (congrArg (fun z=>some (SV.int z)) (by exact(dk [.W 8 .A .B,.W 8 .C (.r (.p .A .u) 8)] (.E (.p .A .u) .C)) (aM 8) (aM 8))) (.cons vS (.cons vS (.cons vS .nil)))),.same⟩ vT vT))))))
   rw[<- a3,<- jH (a:=a) (by exact(bo [.W 8 .B .A] (.M .A (.r (.p .B .u) 8))) (aM 8)) (by exact(aG [.L .B (.r (.t .a) 8),.W 8 .A .B] (.M (.r (.p .A .u) 8) (.r (.t .a) 8))) hp (aM 8)) (fun l h1 h2=>jU (by rw[show l/8=a/8 by exact(jN [.M .A .B,.L .B (.r (.p .C .u) 8),.W 8 .C .A,.W 8 .D .B] (.E .D .C)) h1 h2 (aM 8) (aM 8)];exact Decidable.not_not.mp hz))]
  ·refine .cons (.ite (.plain (.iop (.name vS) (.iop .intE (.iop (.name vS) .intE .and7) .shl1) .and) .int) (fun hb=>.cons (.ret (.name vS) (.ret (.ret ?_ vT)))) fun hb=>.nil (.cons (.aug vS .intE .add ?_)))
   ·rw[<- a3,qz hp (by rw[fQ hp];simpa using hb)]
   ·have hb':ay bs a=false:=by refine aa (fQ hp ..) ?_;simpa using hb
    have hs:kx bs (a+1)=kx bs (bR i):=by
     rw[<- a3,jH (a:=a) (b:=a+1) (by exact(aO [] (.M .A (.p .A .u)))) ‹_› (fun l h1 h2=>by rw[show l=a by exact(bo [.M .A .B,.L .B (.p .A .u)] (.E .B .A)) h1 h2];exact hb')]
    refine .cons (.ite (.icmp (.iop (.name vS) .intE .mod8) .intE .eq) (fun h=>.cons (.aug vS .intE .add (.nil (.nil ?_)))) fun h=>.nil (.nil ?_))
    ·exact .next (a+1) ⟨by exact(dk [.M .o .A,.E .B .o,.Q 8 .C .B (.p .A .u)] (.M .o (.p .A .u))) a1 h (dJ 8),by assumption,hs⟩ (sP (by exact(eZ [.M .B (.r (.t .a) 8),.E .C .o,.Q 8 .A .C (.p .B .u)] (.L .o (.s (.r (.t .a) 8) .B))) a2 h (dJ 8)) (by exact(aR [] (.L (.s (.r (.t .a) 8) (.p .A .u)) (.s (.r (.t .a) 8) .A))))) ⟨.cons vS (.cons (congrArg (fun z=>some (SV.int z)) (by exact(jN [.E .A .o,.Q 8 .C .A (.p .B .u),.W 8 .D .B] (.E (.p .D .u) .C)) h (dJ 8) (aM 8))) (.cons vS (.cons vS (.cons vS .nil)))),.same⟩ vT vT
    ·exact .next (a+1) ⟨by exact(aO [.M .o .A] (.M .o (.p .A .u))) a1,by assumption,hs⟩ (sP (by exact(aR [.L .A (.r (.t .a) 8)] (.L .o (.s (.r (.t .a) 8) .A))) hp) (by exact(aR [] (.L (.s (.r (.t .a) 8) (.p .A .u)) (.s (.r (.t .a) 8) .A))))) ⟨.cons vS (.cons (congrArg (fun z=>some (SV.int z)) (by exact(jN [.x (.E .A .o),.Q 8 .C .A (.p .B .u),.W 8 .D .B] (.E .D .C)) h (dJ 8) (aM 8))) (.cons vS (.cons vS (.cons vS .nil)))),.same⟩ vT vT
theorem qX(w:World)(bs:LI)(hlen:bs.length<=3):da w 4 327 (ba bs) [.ref 0] [] (kx bs 0):=by
 refine' aU ["self"] ?ho ?hcd ?hb ?hx ?nd ?hl ?H ?c1 ?c2 ?c3 ?c4
 k_extra "cx"
 intro c
 exact .cons (.ret (.mcall (.name vS) vS vS rfl (jG w) (.cons (.neg .intE) .nil) (ae.ro (ma w bs hlen (-1)) [0,1,2] (ab rfl rfl rfl) (fN bs _ _ _)).cal) (.ret rfl (lO _ _ _ _)))
theorem o6(w:World)(bs:LI)(hlen:bs.length<=3):da w 4 334 (ba bs) [.ref 0] [] (fP bs (bs.length*8)):=by
 refine' aU ["self"] ?ho ?hcd ?hb ?hx ?nd ?hl ?H ?c1 ?c2 ?c3 ?c4
 k_extra "cx"
 intro c
 refine .cons (.ret (.mcall (.name vS) vS vS rfl (ie w) (.cons (.iop (.iop (.mcall0 (.name vS) vS vS rfl (ce w) (ae.ro (cM w bs hlen) [0,1,2] (ab rfl rfl rfl)).cal) .intE .mul8) .intE .add) .nil) (ae.ro (kb w bs hlen _) [0,1,2] (ab rfl rfl rfl) (eE bs _ _)).cal) (.ret ?_ (lW _ _ _)))
 congr 1
 unfold bp
 refine aa (if_neg (by exact(ai [] (.x (.M (.p (.r (.t .a) 8) .u) .o)))) ..) (aa (if_pos (by exact(ai [] (.M (.r (.t .a) 8) (.p (.r (.t .a) 8) .u)))) ..) ?_);exact(ah [.T .a (.p (.s (.r (.t .b) 8) .u) .u)] (.e .a (.r .b 8))) (bz _)
example:True:=by w_top off;trivial
theorem jQ(v:Int)(t:Tok):∀n:Nat,IntsAre (List.replicate n (Value.int v t)) (List.replicate n v)
|0=>.nil
|n+1=>.cons _ _ (jQ v t n)
section
variable{prog:Program}{w:World}{A:Around}{E:VS}{s:Shared}{h₀:Heap}{L D:Addr}{m:OV}{news news':AO}
theorem mP{h:Heap}{l:Addr}{vs:LW}{n:Nat}{t:Tok}{a:Int}{nw:Nat->AO}{Q:UQ}(hs:s.heap=h.push { cls:=.type "slice",data:=.fields #[.int a t,.none,.none] })(F:Fr h₀ L h m)(N:News h₀ L h news)(hm:(l,listOf vs.toArray n)∈news)
  (ha0:0<=a) (ha:a<=vs.length) (hsz:vs.length<=1000) (U:∀k',Upd l (listOf vs.toArray n) (listOf (vs.take a.toNat).toArray k') news (nw k'))
  (hQ:∀k' h',Fr h₀ L h' m->News h₀ L h' (nw k')->Q () { s with heap:=h' }) :
  wpAny (model prog w) A (delItem (.ref l) (.ref h.objs.size)) Q E s:=by
 obtain⟨a,rfl⟩:=Int.eq_ofNat_of_zero_le ha0
 have F2:=F.push { cls:=.type "slice",data:=.fields #[.int (a:Int) t,.none,.none] }
 have N2:News h₀ L (h.push { cls:=.type "slice",data:=.fields #[.int (a:Int) t,.none,.none] }) news:=fun q hq=>⟨ZR _ (N q hq).1,(N q hq).2⟩
 rw[<- hs] at F2 N2
 refine oS (items:=vs.toArray) (n:=n) (a:=a) (N2 _ hm).1 (by refine aa (hs ..) ?_;exact Heap.IsSliceOf.new ..) (by simpa using ha) (by simpa using hsz) (fun f hf=>?_)
 have z:=N2 _ hm
 by_cases hz:(f vs.toArray).size=vs.toArray.size
 ·obtain⟨pre,post,e1,e2,n1,n2⟩:=(U n).split
  rw[e1] at N2
  refine hQ n _ (F2.change (Heap.SameBut.update ..) z.2.1 z.2.2) ?_
  refine aa (e2 ..) ?_
  exact kl_turn0 f N2 n1 n2 (by refine aa (hf ..) ?_;simp) (by rw[hf] at hz;simpa using hz)
 ·obtain⟨pre,post,e1,e2,n1,n2⟩:=(U (n+1)).split
  rw[e1] at N2
  refine hQ (n+1) _ (F2.change (Heap.SameBut.update ..) z.2.1 z.2.2) ?_
  refine aa (e2 ..) ?_
  exact kl_turn f N2 n1 n2 (by refine aa (hf ..) ?_;simp) (by rw[hf] at hz;simpa using hz)
end
section
variable{w:World}{ρ ex:LQ}
theorem dq{i:Nat}{a b:Addr}(h0:ρ[i]?=some a)(h:(ρ++ex)[i]?=some b):ρ[i]?=some b:=by
 rw[ZH (ZB.mp h0).1] at h;exact h
theorem SV.Is.down{v:SV}{uj0 u:Value}(h0:v.Is ρ uj0)(h:v.Is (ρ++ex) u):v.Is ρ u:=by
 cases h0 with
|int z t=>obtain⟨_,rfl⟩:=h.intI;exact .int _ _
|ref h0=>replace h:=h.refI;obtain⟨_,rfl,h⟩:=h;exact .ref (dq h0 h)
|val v=>obtain rfl:=h.valI;exact .val _
|str x t=>obtain⟨_,rfl⟩:=h.strI;exact .str _ _
theorem bh.down{vs:LX}{us:LW}(h0:bh ρ vs us):∀{us':LW},bh (ρ++ex) vs us'->bh ρ vs us':=by
 induction h0 with
|nil=>intro us' h;obtain rfl:=h.nilI;exact .nil
|cons h0 _ ih=>intro us' h;replace h:=h.consI;obtain⟨_,_,rfl,h,t⟩:=h;exact .cons (h0.down h) (ih t)
theorem aQ.down{es:LV}{ds:List DictEntry}(h0:aQ w ρ es ds):∀{ds':List DictEntry},aQ w (ρ++ex) es ds'->aQ w ρ es ds':=by
 induction h0 with
|nil=>intro ds' h;cases h;exact .nil
|cons t h0 _ ih=>intro ds' h;cases h with|cons t' h r=>exact .cons t' (h0.down h) (ih r)
theorem SO.Is.down{so:SO}{oj0 o:Obj}(h0:so.Is w ρ oj0)(h:so.Is w (ρ++ex) o):so.Is w ρ o:=by
 cases h0 with
|inst h0=>replace h:=h.instI;obtain⟨_,rfl,h⟩:=h;exact .inst (dq h0 h)
|attrs h0=>replace h:=h.attrsI;obtain⟨_,_,rfl,h⟩:=h;exact .attrs (h0.down h)
|nums h0=>replace h:=h.numsI;obtain⟨_,_,rfl,h⟩:=h;exact .nums h
|list h0=>replace h:=h.listI;obtain⟨_,_,rfl,h⟩:=h;exact .list (h0.down h)
|tup h0=>replace h:=h.tupI;obtain⟨_,rfl,h⟩:=h;exact .tup (h0.down h)
|meth h0=>replace h:=h.methI;obtain⟨_,rfl,h⟩:=h;exact .meth (h0.down h)
|cell _ h0=>replace h:=h.cellI;obtain⟨_,hd,h⟩:=h;exact .cell hd (h0.down h)
|tab h0 _=>replace h:=h.tabI;obtain⟨_,rfl,h,ht⟩:=h;exact .tab (dq h0 h) ht
|dep h0 h1 _=>replace h:=h.depI;obtain⟨_,_,h,h',hP⟩:=h;exact .dep (dq h0 h) (dq h1 h') hP
|obj h0=>have h:=h.objI;exact .obj h
end
section
variable{w:World}{κ:CK}{c:Cx w κ}{Γ Γ₁ Γ2 Γ3 Γ4:G}{ρ:LQ}{s:Shared}{P:SF->G->Prop}
set_option tactic.hygienic true in
theorem bJ.extend0{o e:Expr}{ap p1 p2 p3 p4 p5:Pos}{k kk b:Nat}{bs:LI}{x:Int}(ho:Ev c Γ o (.ref b) Γ)(hb:Γ.o[b]?=some (.nums bs))(he:Ev c (Γ.addO (.tup [.int 0])) e (.int x) (Γ.addO (.tup [.int 0])))(h1:1<=x)(h2:x<=100)(hl:bs.length<=100)
  (K:P .next (Γ.setO b (.nums (bs++List.replicate x.toNat 0)))) (hm:bF o (Str.ofString "extend") ap [.BinOp (.Tuple [.Constant (.int 0) k p1] kk p2) .Mult e p3] p4:=by intro;rfl)
  (hs:∀env,swapsWith (.Call (.Attribute o (Str.ofString "extend") ap) [.BinOp (.Tuple [.Constant (.int 0) k p1] kk p2) .Mult e p3] [] p4) none p5.line env=pure false:=by intros;exact vP)
  (hzz:Nat.ble κ.nf b=true:=by exact vT):bJ c Γ (.Expr (.Call (.Attribute o (Str.ofString "extend") ap) [.BinOp (.Tuple [.Constant (.int 0) k p1] kk p2) .Mult e p3] [] p4) p5) P:=fun ρ s Q E hE S KK =>
 wpAny_Expr_any (MethodCall_ (he:=hm _) (ho ρ s _ E S fun u ρ1 sj1 hp1 q1 Sj1=>by
  obtain⟨_,rfl,ha⟩:=q1.refI
  rename_i a
  obtain⟨m,os,H,F,N,hm,LY,hs⟩:=Sj1
  obtain⟨a',o1,ha',ho1,hi1,hmem⟩:=LY.slot hb
  rw[ha] at ha';obtain rfl:=ZK ha'
  obtain⟨_,_,rfl,hI⟩:=hi1.numsI
  rename_i vs n
  refine kl_method N hmem PySem.F.slot_list_extend PySem.F.type_list_extend ?_
  refine callWith_method1 (args_cons (wpAny_BinOp (Tuple_ (args_cons (wpAny_Constant_int (args_nil ?_)) rfl))) rfl) rfl rfl
  refine kup_newTuple F N (fun D h' F' N' hlt=>?_) (by size_fits)
  have hl':=LY.hl
  have hg:=LY.hg
  have hlen:ρ1.length=Γ.o.length:=by exact Eq.trans ‹_› (Eq.symm ‹_›)
  have Sj2:ad c (Γ.addO (.tup [.int 0])) (ρ1++[D]) { sj1 with heap:=h',toks:=sj1.toks+1 } :=
   ad.add (s:={ sj1 with heap:=h',toks:=sj1.toks+1 }) hm LY (.tup (.cons (.int 0 sj1.toks) .nil)) (fun p hp=>Zb (hlt p hp)) F' N' (hs.heap h' _)
  refine he (ρ1++[D]) _ _ E Sj2 fun u2 ρ₂ sj2 hp2 q2 S3=>?_
  obtain⟨_,rfl⟩:=q2.intI
  obtain⟨m3,os3,H3,F3,N3,hm3,LY3,hs3⟩:=S3
  have hl3:=LY3.hl
  have hg3:=LY3.hg
  have ho3:=LY3.ho
  have nd3:=LY3.nd
  have hg3':os3.length=Γ.o.length+1:=by refine aA (hg3 ..) ?_;simp[G.addO]
  obtain rfl:=hp2.eq_of_length (by simp only[Zl,List.length_cons,List.length_nil];exact(c7 [.e .a .b,.e .c .b,.e .d .e,.e .e (.p .c .u)] (.e (.p .a (.p .o .u)) .d)) hl' hg hl3 hg3')
  obtain⟨os4,oT,rfl⟩:∃l x,os3=l++[x]:=⟨os3.dropLast,os3.getLast (by intro h;rw[h] at hg3';simp at hg3'),(List.dropLast_concat_getLast _).symm⟩
  have hl4:os4.length=Γ.o.length:=by simpa using hg3'
  have hT:=ho3 Γ.o.length (.tup [.int 0]) oT (by simp[G.addO]) (by refine aa (ZI (by exact Nat.le_of_eq ‹_›) ..) (aa (hl4 ..) ?_);simp)
  replace hT:=hT.tupI;obtain⟨_,rfl,hT⟩:=hT
  obtain⟨_,_,rfl,h5,h6⟩:=hT.consI
  obtain rfl:=h6.nilI;obtain⟨_,rfl⟩:=h5.intI
  rename_i t5
  have hz:(ρ1++[D]).zip (os4++[({ cls:=.type "tuple",data:=.seq [Value.int 0 t5].toArray }:Obj)])=ρ1.zip os4++[(D,{ cls:=.type "tuple",data:=.seq [Value.int 0 t5].toArray })]:=by refine aa (List.zip_append (by exact Eq.trans ‹_› (Eq.symm ‹_›)) ..) ?_;rfl
  have N3':News c.o.g c.L sj2.heap ((D,{ cls:=.type "tuple",data:=.seq #[Value.int 0 t5] })::aS ρ1 os4 H3):=fun q hq=>N3 q (by
   unfold aS at hq ⊢
   refine aa (hz ..) ?_
   rcases ZT.mp hq with rfl|hq
   ·exact ZD _ (ZC _ (.head _))
   ·exact(ZS.mp hq).elim (fun h=>ZD _ (ZD _ h)) (ZC _))
  have hlow:∀q∈aS ρ1 os4 H3,q.1<D:=fun q hq=>by
   rcases ZS.mp hq with hq|hq
   ·obtain⟨i,hi,e⟩:=ZF.mp (Zz hq).1
    exact hlt (q.1,os[i]'(hl'▸hi)) (ZD _ (au (i:=i) (by exact aa (ZA hi ..) (aa (e ..) vS)) (ZA (hl'▸hi))))
   ·have h9:q.1∈H.map (·.1):=by refine aa (LY.kp.fst ..) (aA (LY3.kp.fst ..) ?_);exact Zd hq
    obtain⟨z,hz9,e9⟩:=Zc.mp h9
    refine aA (e9 ..) ?_;exact hlt z (ZC _ hz9)
  refine pY F3 N3' h1 (by exact Int.le_trans ‹_› (by decide)) hlow fun r k' h7 F7 N7 l7=>args_nil ?_
  have hb4:os4[b]?=some (os4[b]'(by have:=(ZB.mp hb).1;exact Za ‹_› (Eq.symm ‹_›))):=ZA _
  have hbi:=ho3 b (.nums bs) _ (by simp only[G.addO];refine aa (ZH (ZB.mp hb).1 ..) ?_;exact hb) (by refine aa (ZH (ZB.mp hb4).1 ..) ?_;exact hb4)
  generalize os4[b]'(by have:=(ZB.mp hb).1;exact Za ‹_› (Eq.symm ‹_›))=ob at hb4 hbi
  obtain⟨_,_,rfl,hI4⟩:=hbi.numsI
  rename_i vs4 n4
  have hv4:=hI4.length
  have nd4:ρ1.Nodup:=(List.nodup_append.mp nd3).1
  have hxl:(List.replicate x.toNat (Value.int 0 t5)).length=x.toNat:=List.length_replicate
  refine kup_extend F7 N7 (.head _) rfl (by simp;assumption) (.tail (fun e=>?_) (lk (kz nd4 ha hb4 _) fun q hq e=>LY3.ap q hq (e▸bD (ak (ZO _ _) ha) (ZJ hzz)))) (by simp[Builtin.List.listTooLong,sizeLine];lia) (by simp[sizeLine];exact(ah [.m .a .m,.e .b .a] (.m .b (.n 16777216))) hl hv4) (by simp[sizeLine];exact(ow [.M .A .m,.m .a .m,.e .b .a,.T .c .A] (.m (.p .b .c) (.n 16777217))) h2 hl hv4 (bz _)) fun h8 F8 N8=>?_
  ·have l9:=l7 _ (ZD _ (au ha hb4))
   have e9:r=_:=e
   rw[e9] at l9
   exact absurd l9 (Nat.lt_irrefl _)
  refine KK _ _ ρ1 _ _ K .next (.mk m3 (os4.set b _) H3 F8 (fun q hq=>N8 q (.tail _ hq)) (fun y v hy=>?_) ⟨by refine aa (Zn ..) ?_;exact Eq.trans ‹_› (Eq.symm ‹_›),by refine aa (Zn ..) ?_;simp[G.setO];exact Eq.symm ‹_›,fun j so o2 g1 g2=>?_,nd4,LY.pre,fun q hq hm=>LY3.ap q hq (by refine aa (List.drop_append_of_le_length LY.nfl ..) ?_;exact ZD _ hm),LY3.kp,fun i a z hi q1 q2=>LY3.sh i a z hi (ak (ZO _ _) q1) ?_⟩ ?_)
  ·obtain⟨u0,_,g0⟩:=hm y v hy
   obtain⟨u,g1,g2⟩:=hm3 y v hy
   exact⟨u,g1,g0.down g2⟩
  ·by_cases e:b=j
   ·subst e
    rw[List.getElem?_set_self (ZB.mp hb4).1] at g2
    obtain rfl:=ZK g2
    simp only[G.setO] at g1
    rw[List.getElem?_set_self (ZB.mp hb).1] at g1
    obtain rfl:=ZK g1
    have e9:((vs4.toArray.toList++(List.replicate x.toNat (Value.int 0 t5)).toArray.toList:LW))=vs4++List.replicate x.toNat (Value.int 0 t5):=by simp
    refine aa (e9 ..) ?_
    exact .nums (hI4.append (jQ _ _ _))
   ·rw[List.getElem?_set_ne e] at g2
    simp only[G.setO] at g1
    rw[List.getElem?_set_ne e] at g1
    have hj:=(ZB.mp g1).1
    have g3:=ho3 j so o2 (by simp only[G.addO];refine aa (ZH hj ..) ?_;exact g1) (by refine aa (ZH (by exact Za ‹_› (Eq.symm ‹_›)) ..) ?_;exact g2)
    obtain⟨o0,k0⟩:∃o0,os[j]?=some o0:=⟨_,ZA (by exact Za ‹_› ‹_›)⟩
    exact(LY.ho j so o0 g1 k0).down g3
  ·rw[List.getElem?_set_ne (Nat.ne_of_gt (ZY hi (ZJ hzz)))] at q2
   refine aa (ZH (ZB.mp q2).1 ..) ?_;exact q2
  ·exact hs3.heap h8 _)) c.quiet (hs _)
end
example:True:=by w_top off;trivial
section
variable{w:World}{κ:CK}{c:Cx w κ}{Γ Γ₁ Γ2 Γ3 Γ4:G}{ρ:LQ}{s:Shared}{P:SF->G->Prop}
set_option tactic.hygienic true in
theorem bJ.delFrom{o e:Expr}{p1 p2 pos:Pos}{b:Nat}{bs:LI}{x:Int}(ho:Ev c Γ o (.ref b) Γ₁)(he:Ev c Γ₁ e (.int x) Γ2)(hb:Γ2.o[b]?=some (.nums bs))(h0:0<=x)(h1:x<=bs.length)(h2:bs.length<=1000)
  (K:P .next (Γ2.setO b (.nums (bs.take x.toNat)))) (hz:Nat.ble κ.nf b=true:=by exact vT):bJ c Γ (.Delete [.Subscript o (.Slice (some e) none none p1) p2] pos) P:=fun ρ s Q E hE S KK =>
 wpAny_Delete (wpAny_deleteEach_cons (delete_Subscript (ho ρ s _ E S fun u ρ1 sj1 hp1 q1 Sj1=>by
  refine wpAny_Slice ?_
  show wpAny _ _ (eval e c.env) _ _ _
  refine he ρ1 sj1 _ E Sj1 fun u2 ρ₂ sj2 hp2 q2 Sj2=>?_
  obtain⟨_,rfl⟩:=q2.intI
  show wpAny _ _ (pure Value.none) _ _ _
  refine ZM ?_
  show wpAny _ _ (pure Value.none) _ _ _
  refine ZM ?_
  obtain⟨m,os,H,F,N,hm,LY,hs⟩:=Sj2
  obtain⟨a,o1,ha,hoa,hi,hmem⟩:=LY.slot hb
  cases q1.up hp2 with|ref ha' =>
  rw[ha] at ha';obtain rfl:=ZK ha'
  obtain⟨_,_,rfl,hI⟩:=hi.numsI
  rename_i vs n
  have hvl:=hI.length
  refine mP rfl F N hmem h0 (by exact(c8 [.M .A (.t .a),.e .b .a] (.M .A (.t .b))) h1 hvl) (by exact(ah [.m .a .q,.e .b .a] (.m .b .q)) h2 hvl) (fun k'=>LY.upd ha hoa _ (ZJ hz)) fun k' h' F' N'=>wpAny_deleteEach_nil ?_
  exact KK _ _ ρ₂ _ _ K .next (ad.set (s:={ sj2 with heap:=h' }) hm LY (.nums (IntsAre.take (ns:=bs) hI _)) F' N' (hs.heap h' _) (ZJ hz)))))
end
noncomputable def bj(bs:LI)(i:Int):List Int:=bs.set (i/8).toNat (Builtin.bitAnd (bs.getD (i/8).toNat 0) (Builtin.bitNot (1*2^(i%8).toNat)))
noncomputable def fG(bs:LI)(i:Int):List Int:=bs.set (i/8).toNat (Builtin.bitOr (bs.getD (i/8).toNat 0) (1*2^(i%8).toNat))
noncomputable def aP(bs:LI)(i:Int):List Int:=if (bs.length:Int)<=i/8 then fG (bs++List.replicate ((i+9)/8-bs.length).toNat 0) i else fG bs i
theorem ic(w:World):am w 514 "_resize" 403:=⟨by k_is,by k_is,by k_is,by k_is⟩
theorem gB(w:World):nsIn (hd.heap_1 w.params) mainGlobals "bytes_for_bits"=some (some (.ref 84)):=by k_is
theorem gr(w:World):keepIn (hd.heap_1 w.params) (.ref 84)=true:=by k_is
theorem j5(w:World)(bs:LI)(hlen:bs.length<=3)(i:Int)(h1:i<100)(h2:(bs.length:Int)<(i+8)/8):az w 2 403 (ba bs) [.ref 0,.int i] [] (ch (.val .none) (ba (bs++List.replicate ((i+8)/8-bs.length).toNat 0))):=by
 refine' ao ["self","tosize"] ?ho ?hcd ?hb ?hx ?nd ?hl ?H ?c1 ?c2 ?c3 ?c4
 k_extra "cx"
 intro c
 refine .cons (.assign (.len (.attr (.name vS) vS vS vS (aD w) af) vS (by exact ZX ‹_› (by decide))) (.cons (.assign (.call (.glob (gB w)) (gr w) (.cons (.name vS) .nil) (ae.ro (je w i) [] .nil).cal) (.cons (.ite (.icmp (.name vS) (.name vS) .gt) (fun h=>.cons (.extend0 (.attr (.name vS) vS vS vS (aD w) af) vS (.iop (.name vS) (.name vS) .sub) (by exact(aG [.L (.t .a) .A,.W 8 .A (.p .B .y)] (.M .u (.s .A (.t .a)))) h2 (aM 8)) (by exact(aG [.L .A .m,.W 8 .B (.p .A .y)] (.M (.s .B (.t .a)) .m)) h1 (aM 8)) (by exact ZW ‹_› (by decide)) (.nil (.nil (.next _ ⟨rfl,rfl⟩ .same vT))))) fun h=>absurd h2 h)))))
theorem kc(w:World)(bs:LI)(hlen:bs.length<=3)(i:Int)(h0:0<=i)(h1:i<20):az w 3 448 (ba bs) [.ref 0,.int i] [] (ch (.val .none) (ba (aP bs i))):=by
 refine' ao ["self","i"] ?ho ?hcd ?hb ?hx ?nd ?hl ?H ?c1 ?c2 ?c3 ?c4
 k_extra "cx"
 intro c
 refine .cons (.assign (.iop (.name vS) .intE .shr3) (.cons (.join (fun _:Unit=>True) (fun O=>⟨[("bucket",.int (i/8)),("i",.int i),("self",.ref 0)],ba (if (bs.length:Int)<=i/8 then bs++List.replicate ((i+9)/8-bs.length).toNat 0 else bs)⟩) ?_ ?_)))
 ·refine .ite (.icmp (.name vS) (.len (.attr (.name vS) vS vS vS (aD w) af) vS (by exact ZX ‹_› (by decide))) .ge) (fun h=>.cons (.expr (.mcall (.name vS) vS vS rfl (ic w) (.cons (.iop (.name vS) .intE .add) .nil) (ae.det (j5 w bs hlen (i+1) (by exact Int.lt_of_le_of_lt ‹_› (by decide)) (by exact(eZ [.M (.t .a) .A,.W 8 .A .B,.W 8 .C (.p (.p .B .u) .y)] (.L (.t .a) .C)) h (aM 8) (aM 8))) [0,1,2] (ab rfl rfl rfl) (by decide) vT rfl).cal) (.nil (.next () trivial ⟨.cons vS (.cons vS (.cons vS .nil)),?_⟩ vT vT)))) fun h=>.nil (.next () trivial ⟨.cons vS (.cons vS (.cons vS .nil)),?_⟩ vT vT)
  ·refine aa (if_pos h ..) (aa (show i+9=i+1+8 by exact(aO [] (.E (.p .A (.n 9)) (.p (.p .A .u) .y)))) ?_);exact .same
  ·refine aa (if_neg h ..) ?_;exact .same
 ·rintro _ _
  refine .cons (.augItem (.attr (.name vS) vS vS vS (aD w) af) (.name vS) vS (by exact(bo [.M .o .A,.W 8 .B .A] (.M .o .B)) h0 (aM 8)) ?_ (by exact(bo [.L .A .x,.W 8 .B .A] (.L .B .i)) h1 (aM 8)) (.iop .intE (.iop (.name vS) .intE .and7) .shl1) .or vS (.nil (.next _ ⟨rfl,?_⟩ .same vT)))
  ·split
   ·simp;lia
   ·exact(aG [.W 8 .A .B,.x (.M (.t .a) .A)] (.L .A (.t .a))) (aM 8) ‹_›
  ·unfold aP fG;split <;> rfl
theorem dH(w:World)(bs:LI)(i:Int)(h0:0<=i)(h1:i/8<bs.length)(h2:i<1000):az w 1 455 (ba bs) [.ref 0,.int i] [] (ch (.val .none) (ba (bj bs i))):=by
 refine' ao ["self","i"] ?ho ?hcd ?hb ?hx ?nd ?hl ?H ?c1 ?c2 ?c3 ?c4
 k_extra "cx"
 intro c
 exact .cons (.assign (.iop (.name vS) .intE .shr3) (.cons (.augItem (.attr (.name vS) vS vS vS (aD w) af) (.name vS) vS (by exact(bo [.M .o .A,.W 8 .B .A] (.M .o .B)) h0 (aM 8)) h1 (by exact(bo [.L .A .q,.W 8 .B .A] (.L .B .i)) h2 (aM 8)) (.inv (.iop .intE (.iop (.name vS) .intE .and7) .shl1)) .and vS (.nil (.next _ ⟨rfl,rfl⟩ .same vT)))))
example:True:=by w_top off;trivial
section
variable{prog:Program}{w:World}{A:Around}{E:VS}{s:Shared}{l:Addr}{vs:LW}{cs:LI}{n:Nat}
theorem om{items:Array Value}{k:Int}{t:Tok}{x:Value}{Q:OQ}(hl:s.heap.IsList l items)(h0:0<=k)(hfit:k<2^63)(hx:items[k.toNat]?=some x)(h:Q (some x) s) :
  wpAny (model prog w) A (callSpecial? (.ref l) "__getitem__" [.int k t]) Q E s:=by
 obtain⟨o,ho,hc,ne,hd⟩:=id hl
 refine wpAny_callSpecial?_slot (name:=Str.ofString "__getitem__") hl.typeIs slot_list_getitem (wpAny_call_entry slot_list_getitem hl.typeIs entry_list_getitem ?_ (args_list_getitem _ _))
 show wpAny _ _ (Builtin.List.listSubscript? (.int k t) >>= _) _ _ s
 refine ZL (wpAny_listSubscript_int (fitsIndex_of h0 hfit) ?_)
 clear hfit
 obtain⟨j,rfl⟩:=Int.eq_ofNat_of_zero_le h0
 have hx':items[j]?=some x:=hx
 show wpAny _ _ ((seqItemAt l j >>= fun r=>pure (r.map (j,·))) >>= _) _ _ s
 refine ZL (ZL (wpAny_seqItemAt ho hd (ZM ?_)))
 refine aa (hx' ..) ?_
 first
 |exact ZL (ZM (ZM ⟨x,rfl,h⟩))
 |exact ZM ⟨x,rfl,h⟩
theorem qA{i:Nat}{k:Int}{t:Tok}{Q:OQ}(hl:s.heap.IsList l vs.toArray)(hI:IntsAre vs cs)(hi:i<cs.length)(hk:k=(i:Int))(hlen:cs.length<=1000)(h:∀t',Q (some (.int (cs.getD i 0) t')) s) :
  wpAny (model prog w) A (callSpecial? (.ref l) "__getitem__" [.int k t]) Q E s:=by
 obtain⟨t',e⟩:=hI.get i (cs.getD i 0) (by refine aa (ZE ..) (aa (ZA hi ..) ?_);simp)
 have hx:vs.toArray[k.toNat]?=some (.int (cs.getD i 0) t'):=by refine aa (hk ..) (aa (Int.toNat_natCast ..) ?_);simpa using e
 exact om hl (by exact(aR [.E .A (.t .a)] (.M .o .A)) hk) (by exact(c8 [.l .a .b,.E .A (.t .a),.m .b .q] (.L .A .i)) hi hk hlen) hx (h t')
theorem iw:entryFor table "_bisect.bisect_right.loop"=some Builtin.«_bisect.bisect_right.loop»:=entryFor_of_fast (by kernel_rfl)
theorem eD{a b:Int}{t u:Tok}{Q:OQ}(h:Q (some (.bool (decide (a<b)))) s):wpAny (model prog w) A (callSpecialIfBound? (.int a t) "__lt__" [.int b u]) Q E s :=
 wpAny_callSpecialIfBound?_slot (name:=Str.ofString "__lt__") (typeIs_int s a t) slot_int_lt (call_int_lt h)
theorem bZ:plainId "_bisect.bisect_right.loop"=true:=by decide +kernel
noncomputable def bB(right:Bool)(x y:Int):Bool:=if right then decide (y<=x) else decide (y<x)
theorem km(right:Bool){x:Int}{t:Tok}(hI:IntsAre vs cs)(hlen:cs.length<=1000){R:RS}(hL:s.heap.IsList l vs.toArray)
  (hs:∀i j:Nat,i<=j->j<cs.length->cs.getD i 0<=cs.getD j 0)
  (hR:∀(ans tk':Nat) u,ans<=cs.length->(∀j:Nat,j<ans->bB right x (cs.getD j 0)=true)->(∀j:Nat,ans<=j->j<cs.length->bB right x (cs.getD j 0)=false)->R (.ok (.ret (.int ans u))) { s with toks:=tk' }) :
  ∀(d lo hi:Nat) (tk:Nat),lo<=hi->hi<=cs.length->hi-lo<=d->(∀j:Nat,j<lo->bB right x (cs.getD j 0)=true)->(∀j:Nat,hi<=j->j<cs.length->bB right x (cs.getD j 0)=false) ->
  codeAny (model prog w) A (.builtin "_bisect.bisect_right.loop" ⟨[.ref l,.int x t,rawInt lo,rawInt hi,.none,.bool right,.bool true,rawInt 0],[]⟩) R { s with toks:=tk }:=by
 intro d
 induction d with
|zero =>
  intro lo hi tk h1 h2 h3 hlo hhi
  have:lo=hi:=by exact(av [.m .a .b,.m .c .o,.S .c .b .a] (.e .a .b)) h1 h3 (bc _ _)
  subst this
  refine codeAny_builtin iw ?_
  refine aa (Around.under_plainId bZ ..) ?_
  unfold Builtin.«_bisect.bisect_right.loop»
  simp only[rawInt,Int.lt_irrefl,if_false]
  unfold retInt
  exact ZL (wpAny_mkInt (ZM (hR lo _ _ h2 hlo hhi)))
|succ d ih =>
  intro lo hi tk h1 h2 h3 hlo hhi
  refine codeAny_builtin iw ?_
  refine aa (Around.under_plainId bZ ..) ?_
  unfold Builtin.«_bisect.bisect_right.loop»
  simp only[rawInt]
  by_cases hlt:lo<hi
  ·refine cj (by exact(ah [.l .a .b] (.L (.t .a) (.t .b))) hlt) ?_
   obtain⟨m,hmm⟩:∃m,m=(lo+hi)/2:=⟨_,rfl⟩
   have hm:((lo:Int)+hi)/2=(m:Int):=by refine aa (hmm ..) ?_;rfl
   have m1:lo<=m:=by exact(aJ [.l .a .b,.e .c .d,.V 2 .d (.p .a .b)] (.m .a .c)) hlt hmm (tP 2)
   have m2:m<hi:=by exact(aJ [.l .a .b,.e .c .d,.V 2 .d (.p .a .b)] (.l .c .b)) hlt hmm (tP 2)
   clear hmm
   have hm1:m<cs.length:=ZY m2 h2
   refine ZL (wpAny_mkInt ?_)
   refine ZL (qA (i:=m) hL hI hm1 hm hlen fun u=>?_)
   refine cj (beq_self_eq_true _) ?_
   refine ZL (ZM ?_)
   refine wpAny_holding ?_
   refine ZL (wpAny_typeOf (typeIs_int _ _ _) ?_)
   refine ZL (wpAny_typeOf (typeIs_int _ _ _) ?_)
   refine cj (beq_self_eq_true _) ?_
   refine ZL (wpAny_cRoomFor_byValue ?_ ?_)
   ·cases right <;> rfl
   have go:∀(lo' hi':Int) (lo2 hi2:Nat),lo'=lo2->hi'=hi2->lo2<=hi2->hi2<=cs.length->hi2-lo2<=d->(∀j:Nat,j<lo2->bB right x (cs.getD j 0)=true)->(∀j:Nat,hi2<=j->j<cs.length->bB right x (cs.getD j 0)=false)->∀tk,
     wpAny (model prog w) A.in1 (again (.builtin "_bisect.bisect_right.loop" ⟨[.ref l,.int x t,rawInt lo',rawInt hi',.none,.bool right,.bool true,rawInt 0],[]⟩))
      (fun fin s'=>match fin with|.done f=>R (.ok f) s'|.again c'=>c'.quiet=true/\codeAny (model prog w) A c' R s') (fun e s'=>R (.error e) s') { s with toks:=tk }:=by
    intro lo' hi' lo2 hi2 e1 e2 k1 k2 k3 k4 k5 tk
    subst e1 e2
    exact ZM ⟨plainId_quiet bZ _,ih lo2 hi2 tk k1 k2 k3 k4 k5⟩
   cases right with
  |true =>
    refine ZL (eD ?_)
    refine ZL (wpAny_truthy_bool ?_)
    refine ZL (ZM ?_)
    by_cases hc:x<cs.getD m 0
    ·simp only[hc,decide_true,beq_self_eq_true,if_true]
     refine go lo _ lo m rfl hm ‹_› (by exact Zr ‹_›) (by exact(gV [.m .a (.p .d .u),.l .e .b,.S .a .b .c,.S .f .e .c] (.m .f .d)) h3 m2 (bc _ _) (bc _ _)) hlo (fun j hj hj2=>?_) _
     have:=hs _ _ hj hj2
     simp only[bB,if_true,Bool.false_eq_true,if_false,decide_eq_true_eq,decide_eq_false_iff_not];exact(dk [.L .A .B,.M .B .C] (.x (.M .C .A))) hc this
    ·simp only[hc,decide_false,show (false == true)=false from rfl,Bool.false_eq_true,if_false]
     refine go _ hi (m+1) hi (by refine aa (hm ..) ?_;rfl) rfl ‹_› ‹_› (by exact(te [.m .a (.p .d .u),.E .A (.t .e),.S .a .b .c,.W 2 .A (.p (.t .c) (.t .b)),.S .f .b (.p .e .u)] (.m .f .d)) h3 hm (bc _ _) (aM 2) (bc _ _)) (fun j hj=>?_) hhi _
     have:=hs j m (by exact Nat.le_of_lt_succ ‹_›) hm1
     simp only[bB,if_true,Bool.false_eq_true,if_false,decide_eq_true_eq,decide_eq_false_iff_not];exact(dk [.x (.L .A .B),.M .C .B] (.M .C .A)) hc this
  |false =>
    refine ZL (eD ?_)
    refine ZL (wpAny_truthy_bool ?_)
    refine ZL (ZM ?_)
    by_cases hc:cs.getD m 0<x
    ·simp only[hc,decide_true,show (true == false)=false from rfl,Bool.false_eq_true,if_false]
     refine go _ hi (m+1) hi (by refine aa (hm ..) ?_;rfl) rfl ‹_› ‹_› (by exact(te [.m .a (.p .d .u),.E .A (.t .e),.S .a .b .c,.W 2 .A (.p (.t .c) (.t .b)),.S .f .b (.p .e .u)] (.m .f .d)) h3 hm (bc _ _) (aM 2) (bc _ _)) (fun j hj=>?_) hhi _
     have:=hs j m (by exact Nat.le_of_lt_succ ‹_›) hm1
     simp only[bB,if_true,Bool.false_eq_true,if_false,decide_eq_true_eq,decide_eq_false_iff_not];exact Int.lt_of_le_of_lt ‹_› ‹_›
    ·simp only[hc,decide_false,beq_self_eq_true,if_true]
     refine go lo _ lo m rfl hm ‹_› (by exact Zr ‹_›) (by exact(gV [.m .a (.p .d .u),.l .e .b,.S .a .b .c,.S .f .e .c] (.m .f .d)) h3 m2 (bc _ _) (bc _ _)) hlo (fun j hj hj2=>?_) _
     have:=hs _ _ hj hj2
     simp only[bB,if_true,Bool.false_eq_true,if_false,decide_eq_true_eq,decide_eq_false_iff_not];exact(dk [.x (.L .A .B),.M .A .C] (.x (.L .C .B))) hc this
  ·refine aj (by exact(ah [.x (.l .a .b)] (.x (.L (.t .a) (.t .b)))) hlt) ?_
   have:lo=hi:=by exact(ah [.m .a .b,.x (.l .a .b)] (.e .a .b)) h1 hlt
   subst this
   unfold retInt
   exact ZL (wpAny_mkInt (ZM (hR lo _ _ h2 hlo hhi)))
theorem lj:entryFor table "_bisect.bisect_left"=some Builtin.«_bisect.bisect_left»:=entryFor_of_fast (by kernel_rfl)
theorem li:entryFor table "_bisect.bisect_right"=some Builtin.«_bisect.bisect_right»:=entryFor_of_fast (by kernel_rfl)
theorem mZ(a b:Value):argsOk "_bisect.bisect_left" ⟨[a,b],[]⟩:=by unfold argsOk;kernel_rfl
theorem mY(a b:Value):argsOk "_bisect.bisect_right" ⟨[a,b],[]⟩:=by unfold argsOk;kernel_rfl
theorem lz{items:Array Value}{Q:VS}(hl:s.heap.IsList l items)(hfit:(items.size:Int)<2^63)(h:Q (.int items.size (s.toks+1)) { s with toks:=s.toks+1+1 }) :
  wpAny (model prog w) A (runValue (.builtin "len" ⟨[.ref l],[]⟩)) Q E s:=by
 refine wpAny_runValue (codeAny_builtin entry_len ?_)
 refine aa (Around.under_plainId plain_len _ ..) ?_
 exact wpAny_mono (wpAny_len_body_list (Q:=Q) hl hfit h) (fun fin s' h'=>by obtain⟨r,rfl,hq⟩:=h';exact hq) fun O O e=>e
theorem fJ:mroOf (.type "list")=pure [.type "list",.type "object"]:=by refine aa (mroOf_type ..) ?_;kernel_rfl
theorem cS{items:Array Value}{Q:String->Shared->Prop}(hl:s.heap.IsList l items)(h:∀n,Q n s):wpAny (model prog w) A (typeNameOfCut 200 (.ref l)) Q E s:=by
 unfold typeNameOfCut shownTypeOf
 refine ZL (ZL (wpAny_typeOf hl.typeIs ?_))
 simp only[show (Value.type "list" == Value.type "builtin_function_or_method")=false by decide,Bool.false_eq_true,if_false]
 exact ZM (ZM (h _))
theorem pz{x:Int}{t:Tok}{Q:VS}(hI:IntsAre vs cs)(hlen:cs.length<=1000)(hL:s.heap.IsList l vs.toArray)(hs:∀i j:Nat,i<=j->j<cs.length->cs.getD i 0<=cs.getD j 0)
  (hR:∀(ans tk':Nat) u,ans<=cs.length->(∀j:Nat,j<ans->cs.getD j 0<x)->(∀j:Nat,ans<=j->j<cs.length->x<=cs.getD j 0)->Q (.int ans u) { s with toks:=tk' }) :
  wpAny (model prog w) A (call (.builtin "_bisect.bisect_left") [.ref l,.int x t]) Q E s:=by
 refine PySem.call_function_tree (by decide +kernel) (by decide +kernel) lj (mZ _ _) ?_
 unfold Builtin.«_bisect.bisect_left»
 refine ZL (wpAny_of_eq (a:=(Value.ref l,Value.int x t,none,none,none)) (by first|rfl|kernel_rfl!) ?_)
 dsimp only
 refine ZL (ZM ?_)
 refine ZL (ZM ?_)
 refine aj Bool.false_ne_true ?_
 refine ZL (ZM ?_)
 refine wpAny_holding ?_
 refine aj (by decide) (aj (by decide) ?_)
 have hL2:s.heap.IsList l vs.toArray:=hL
 refine ZL ?_
 show wpAny _ _ (typeOf (.ref l) >>= _) _ _ _
 refine ZL (wpAny_typeOf hL2.typeIs ?_)
 refine ZL (cS hL2 fun n=>?_)
 refine ZL (wpAny_of_eq fJ ?_)
 refine aj (by decide) ?_
 refine cj vT ?_
 refine ZL (wpAny_of_eq slot_list_len.lookup ?_)
 refine aj (by decide) (aj (by decide) ?_)
 refine ZM ?_
 refine ZL (lz hL2 (by simp;have:=hI.length;exact(ah [.m .a .q,.e .b .a] (.L (.t .b) .i)) hlen this) ?_)
 refine ZL (ZM ?_)
 have hL2:({ s with toks:=s.toks+1+1 }:Shared).heap.IsList l vs.toArray:=hL
 refine ZL ?_
 show wpAny _ _ (typeOf (.ref l) >>= _) _ _ _
 refine ZL (wpAny_typeOf hL2.typeIs ?_)
 refine ZL (cS hL2 fun n=>?_)
 refine ZL (wpAny_of_eq fJ ?_)
 refine aj (by decide) ?_
 refine aj Bool.false_ne_true ?_
 refine ZL (wpAny_of_eq slot_list_getitem.lookup ?_)
 refine aj (by decide) (aj (by decide) ?_)
 refine ZM ?_
 have hvl:vs.toArray.size=cs.length:=by simp[hI.length]
 refine aa (hvl ..) ?_
 refine ZM ?_
 refine⟨plainId_quiet bZ _,km (x:=x) (t:=t) false hI hlen (s:={ s with toks:=s.toks+1+1 }) hL2 hs (fun ans tk' u h1 h2 h3=>?_) cs.length 0 cs.length _ (Zf _) (ZZ _) (by exact(ah [.S .a .b .o] (.m .a .b)) (bc _ _)) (fun j hj=>absurd hj (Nat.not_lt_zero _)) (fun j h1 h2=>absurd h2 (Nat.not_lt.mpr h1))⟩
 exact(hR ans tk' u h1 (fun j hj=>by simpa [bB] using h2 j hj) fun j hj hj2=>by simpa [bB] using h3 j hj hj2)
theorem mW{x:Int}{t:Tok}{Q:VS}(hI:IntsAre vs cs)(hlen:cs.length<=1000)(hL:s.heap.IsList l vs.toArray)(hs:∀i j:Nat,i<=j->j<cs.length->cs.getD i 0<=cs.getD j 0)
  (hR:∀(ans tk':Nat) u,ans<=cs.length->(∀j:Nat,j<ans->cs.getD j 0<=x)->(∀j:Nat,ans<=j->j<cs.length->x<cs.getD j 0)->Q (.int ans u) { s with toks:=tk' }) :
  wpAny (model prog w) A (call (.builtin "_bisect.bisect_right") [.ref l,.int x t]) Q E s:=by
 refine PySem.call_function_tree (by decide +kernel) (by decide +kernel) li (mY _ _) ?_
 unfold Builtin.«_bisect.bisect_right»
 refine ZL (wpAny_of_eq (a:=(Value.ref l,Value.int x t,none,none,none)) (by first|rfl|kernel_rfl!) ?_)
 dsimp only
 refine ZL (ZM ?_)
 refine ZL (ZM ?_)
 refine aj Bool.false_ne_true ?_
 refine ZL (ZM ?_)
 refine wpAny_holding ?_
 refine aj (by decide) (aj (by decide) ?_)
 have hL2:s.heap.IsList l vs.toArray:=hL
 refine ZL ?_
 show wpAny _ _ (typeOf (.ref l) >>= _) _ _ _
 refine ZL (wpAny_typeOf hL2.typeIs ?_)
 refine ZL (cS hL2 fun n=>?_)
 refine ZL (wpAny_of_eq fJ ?_)
 refine aj (by decide) ?_
 refine cj vT ?_
 refine ZL (wpAny_of_eq slot_list_len.lookup ?_)
 refine aj (by decide) (aj (by decide) ?_)
 refine ZM ?_
 refine ZL (lz hL2 (by simp;have:=hI.length;exact(ah [.m .a .q,.e .b .a] (.L (.t .b) .i)) hlen this) ?_)
 refine ZL (ZM ?_)
 have hL2:({ s with toks:=s.toks+1+1 }:Shared).heap.IsList l vs.toArray:=hL
 refine ZL ?_
 show wpAny _ _ (typeOf (.ref l) >>= _) _ _ _
 refine ZL (wpAny_typeOf hL2.typeIs ?_)
 refine ZL (cS hL2 fun n=>?_)
 refine ZL (wpAny_of_eq fJ ?_)
 refine aj (by decide) ?_
 refine aj Bool.false_ne_true ?_
 refine ZL (wpAny_of_eq slot_list_getitem.lookup ?_)
 refine aj (by decide) (aj (by decide) ?_)
 refine ZM ?_
 have hvl:vs.toArray.size=cs.length:=by simp[hI.length]
 refine aa (hvl ..) ?_
 refine ZM ?_
 refine⟨plainId_quiet bZ _,km (x:=x) (t:=t) true hI hlen (s:={ s with toks:=s.toks+1+1 }) hL2 hs (fun ans tk' u h1 h2 h3=>?_) cs.length 0 cs.length _ (Zf _) (ZZ _) (by exact(ah [.S .a .b .o] (.m .a .b)) (bc _ _)) (fun j hj=>absurd hj (Nat.not_lt_zero _)) (fun j h1 h2=>absurd h2 (Nat.not_lt.mpr h1))⟩
 exact(hR ans tk' u h1 (fun j hj=>by simpa [bB] using h2 j hj) fun j hj hj2=>by simpa [bB] using h3 j hj hj2)
end
def Up(cs:LI):Prop:=cs.Pairwise (· < ·)
theorem Up.lt{cs:LI}(h:Up cs):∀i j:Nat,i<j->j<cs.length->cs.getD i 0<cs.getD j 0:=fun i j hij hj=>by
 refine aa (ZE ..) (aa (ZE ..) (aa (ZA (by exact Nat.lt_trans ‹_› ‹_›:i<cs.length) ..) (aa (ZA hj ..) ?_)))
 exact List.pairwise_iff_getElem.mp h i j (by exact Nat.lt_trans ‹_› ‹_›) hj hij
theorem Up.le{cs:LI}(h:Up cs):∀i j:Nat,i<=j->j<cs.length->cs.getD i 0<=cs.getD j 0:=fun i j hij hj=>by
 rcases Nat.lt_or_eq_of_le hij with h1|h1
 ·exact Int.le_of_lt (h.lt i j h1 hj)
 ·refine aa (h1 ..) ?_;exact Int.le_refl _
section
variable{prog:Program}{w:World}{A:Around}{E:VS}{s:Shared}{h₀:Heap}{L l:Addr}{m:OV}{news:AO}{vs:LW}{cs:LI}{n:Nat}
theorem mX{x:Int}{t:Tok}{Q:VS}(N:News h₀ L s.heap news)(hm:(l,listOf vs.toArray n)∈news)(hI:IntsAre vs cs)(hlen:cs.length<=1000)(hs:Up cs)
  (hR:∀(ans tk':Nat) u,ans<=cs.length->(∀j:Nat,j<ans->cs.getD j 0<x)->(∀j:Nat,ans<=j->j<cs.length->x<=cs.getD j 0)->Q (.int ans u) { s with toks:=tk' }) :
  wpAny (model prog w) A (call (.builtin "_bisect.bisect_left") [.ref l,.int x t]) Q E s:=pz hI hlen (PySem.IsL.isList (n:=n) (N _ hm).1) hs.le hR
theorem lh{x:Int}{t:Tok}{Q:VS}(N:News h₀ L s.heap news)(hm:(l,listOf vs.toArray n)∈news)(hI:IntsAre vs cs)(hlen:cs.length<=1000)(hs:Up cs)
  (hR:∀(ans tk':Nat) u,ans<=cs.length->(∀j:Nat,j<ans->cs.getD j 0<=x)->(∀j:Nat,ans<=j->j<cs.length->x<cs.getD j 0)->Q (.int ans u) { s with toks:=tk' }) :
  wpAny (model prog w) A (call (.builtin "_bisect.bisect_right") [.ref l,.int x t]) Q E s:=mW hI hlen (PySem.IsL.isList (n:=n) (N _ hm).1) hs.le hR
end
theorem jF{cs:LI}{i:Int}:i∈cs<->∃j:Nat,j<cs.length/\cs.getD j 0=i:=by
 constructor
 ·intro h
  obtain⟨j,hj,e⟩:=ZF.mp h
  exact⟨j,hj,by refine aa (ZE ..) (aa (ZA hj ..) ?_);exact e⟩
 ·rintro ⟨j,hj,e⟩
  rw[ZE,ZA hj] at e
  exact ZF.mpr ⟨j,hj,e⟩
section
variable{prog:Program}{w:World}{A:Around}{E:VS}{s:Shared}{h₀:Heap}{L D:Addr}{m:OV}{news news':AO}{vs:LW}{cs:LI}{n:Nat}
theorem mu{x i:Int}{u t:Tok}{Q:VS}(F:Fr h₀ L s.heap m)(N:News h₀ L s.heap news)(U:Upd D (listOf vs.toArray n) (listOf (vs.take x.toNat++.int i t::vs.drop x.toNat).toArray (n+1)) news news')(hI:IntsAre vs cs)(hx:0<=x)(hxl:x.toNat<=cs.length)(hl:cs.length<=100)
  (h:∀h',Fr h₀ L h' m->News h₀ L h' news'->IntsAre (vs.take x.toNat++.int i t::vs.drop x.toNat) (cs.take x.toNat++i::cs.drop x.toNat)->Q .none { s with heap:=h' }):wpAny (model prog w) A (call (.builtin "list.insert") [.ref D,.int x u,.int i t]) Q E s:=by
 have hvl:=hI.length
 refine kl_insert F N ?_ (l:=vs.take x.toNat++.int i t::vs.drop x.toNat) ?_ U ?_ fun h' F' N'=>h h' F' N' (IntsAre.append (hI.take _) (.cons _ _ (hI.drop _)))
 ·simp only[Builtin.List.listFitsIndex,Bool.and_eq_true,decide_eq_true_eq];exact(c8 [.M .o .A,.m .a .b,.m .b .m,.T .a .A] (.d (.M (.j .i) .A) (.L .A .i))) hx hxl hl (bz _)
 ·unfold kl_ins
  have:(if x<0 then (x+(vs.toArray.toList.length:Int)).toNat else min x.toNat vs.toArray.toList.length)=x.toNat:=by refine aa (if_neg (by exact(aO [.M .o .A] (.x (.L .A .o))) hx) ..) ?_;simp;lia
  exact aa (this ..) rfl
 ·simp[sizeLine];exact(ah [.m .a .m,.e .b .a] (.m .b (.n 16777216))) hl hvl
theorem ij:∀(l:LW) (k:Nat) (h:k<l.length),kl_cut l k=some (l.take k,l[k],l.drop (k+1))
|[],_,h=>absurd h (Nat.not_lt_zero _)
|x::r,0,_=>rfl
|x::r,k+1,h=>by
  unfold kl_cut
  refine aa (ij r k (by simpa using h) ..) ?_
  rfl
theorem rQ{x:Int}{u:Tok}{Q:VS}(F:Fr h₀ L s.heap m)(N:News h₀ L s.heap news)(U:Upd D (listOf vs.toArray n) (listOf (vs.take x.toNat++vs.drop (x.toNat+1)).toArray (n+1)) news news')(hI:IntsAre vs cs)(hx:0<=x)(hxl:x.toNat<cs.length)(hl:cs.length<=100)
  (h:∀v h',Fr h₀ L h' m->News h₀ L h' news'->IntsAre (vs.take x.toNat++vs.drop (x.toNat+1)) (cs.take x.toNat++cs.drop (x.toNat+1))->Q v { s with heap:=h' }):wpAny (model prog w) A (call (.builtin "list.pop") [.ref D,.int x u]) Q E s:=by
 have hvl:=hI.length
 have hlt:x.toNat<vs.length:=by exact Za ‹_› (Eq.symm ‹_›)
 refine kl_popAt (k:=x.toNat) F N ?_ ?_ (ij vs.toArray.toList x.toNat (by simpa using hlt)) U ?_ fun h' F' N'=>h _ h' F' N' (IntsAre.append (hI.take _) (hI.drop _))
 ·simp only[Builtin.List.listFitsIndex,Bool.and_eq_true,decide_eq_true_eq];exact(c8 [.M .o .A,.l .a .b,.m .b .m,.T .a .A] (.d (.M (.j .i) .A) (.L .A .i))) hx hxl hl (bz _)
 ·unfold seqIndex?
  have e:(if x<0 then x+(vs.toArray.size:Int) else x)=x:=if_neg (by exact(aO [.M .o .A] (.x (.L .A .o))) hx)
  simp only[e]
  exact aa (if_pos (by simp;exact(ow [.M .o .A,.l .a .b,.e .c .b,.T .a .A] (.d (.M .o .A) (.L .A (.t .c)))) hx hxl hvl (bz _)) ..) vS
 ·simp[sizeLine];exact(ah [.m .a .m,.e .b .a] (.m .b (.n 16777216))) hl hvl
end
section
variable{w:World}{κ:CK}{c:Cx w κ}{Γ Γ₁ Γ2 Γ3 Γ4:G}{ρ:LQ}{s:Shared}
theorem bw{cs:LI}{x:Int}{p:Nat}(hp:p<=cs.length)(h1:∀j:Nat,j<p->cs.getD j 0<x)(h2:∀j:Nat,p<=j->j<cs.length->x<=cs.getD j 0):cs.filter (decide <| · < x)=cs.take p:=by
 conv=>lhs;rw[<- List.take_append_drop p cs]
 rw[List.filter_append,Zk.mpr fun a ha=>?_,List.filter_eq_nil_iff.mpr fun a ha=>?_,List.append_nil]
 ·obtain⟨j,hj,e⟩:=ZF.mp ha
  rw[List.length_drop] at hj
  rw[List.getElem_drop] at e
  have:=h2 (p+j) (by exact(ah [] (.m .a (.p .a .b)))) (by exact(aJ [.l .c .d,.S .d .b .a] (.l (.p .a .c) .b)) hj (bc _ _))
  rw[ZE,ZA (by lia),Option.getD_some,e] at this
  simpa using this
 ·obtain⟨j,hj,e⟩:=ZF.mp ha
  rw[Zv] at hj
  rw[List.getElem_take] at e
  have:=h1 j (by exact ZY ‹_› (Nat.min_le_left _ _))
  rw[ZE,ZA (by exact ZY ‹_› (Nat.min_le_right _ _)),Option.getD_some,e] at this
  exact decide_eq_true this
theorem bx{cs:LI}{x:Int}{p:Nat}(hp:p<=cs.length)(h1:∀j:Nat,j<p->cs.getD j 0<=x)(h2:∀j:Nat,p<=j->j<cs.length->x<cs.getD j 0):cs.filter (decide <| x<·)=cs.drop p:=by
 conv=>lhs;rw[<- List.take_append_drop p cs]
 rw[List.filter_append,List.filter_eq_nil_iff.mpr fun a ha=>?_,Zk.mpr fun a ha=>?_,List.nil_append]
 ·obtain⟨j,hj,e⟩:=ZF.mp ha
  rw[List.length_drop] at hj
  rw[List.getElem_drop] at e
  have:=h2 (p+j) (by exact(ah [] (.m .a (.p .a .b)))) (by exact(aJ [.l .c .d,.S .d .b .a] (.l (.p .a .c) .b)) hj (bc _ _))
  rw[ZE,ZA (by lia),Option.getD_some,e] at this
  exact decide_eq_true this
 ·obtain⟨j,hj,e⟩:=ZF.mp ha
  rw[Zv] at hj
  rw[List.getElem_take] at e
  have:=h1 j (by exact ZY ‹_› (Nat.min_le_left _ _))
  rw[ZE,ZA (by exact ZY ‹_› (Nat.min_le_right _ _)),Option.getD_some,e] at this
  simpa using this
noncomputable def lo(cs:LI)(x:Int):Nat:=(cs.filter (decide <| · < x)).length
noncomputable def up(cs:LI)(x:Int):Nat:=cs.length-(cs.filter (decide <| x<·)).length
theorem ax.bisL{b:Nat}{bs:LI}{x:Int}(h:Γ.o[b]?=some (.nums bs))(hU:Up bs)(hl:bs.length<=1000):ax c Γ (.val (.builtin "_bisect.bisect_left")) [.ref b,.int x] [] (.int (lo bs x)) Γ:=fun ρ s Q E fv us ks S hf hv hk1 O K=>by
 obtain rfl:=hf.valI
 obtain⟨_,_,rfl,h1,h2⟩:=hv.consI
 replace h2:=h2.consI;obtain⟨_,_,rfl,h2,h3⟩:=h2
 obtain rfl:=h3.nilI;obtain⟨_,rfl⟩:=h2.intI
 obtain rfl:ks=[]:=ZG.mp hk1
 obtain⟨a,vs,n,os,ha,hI,N,hg⟩:=S.nums h
 obtain rfl:=h1.refAt ha
 refine mX N hg hI hl hU fun ans tk' u h1 h2 h3=>?_
 have e:lo bs x=ans:=by unfold lo;refine aa (bw h1 h2 h3 ..) (aa (Zv ..) ?_);exact(av [.m .a .b,.I .c .a .b] (.e .c .a)) h1 (iX _ _)
 exact K _ ρ _ (ZN _) (e▸.int _ _) (S.toks _)
theorem ax.bisR{b:Nat}{bs:LI}{x:Int}(h:Γ.o[b]?=some (.nums bs))(hU:Up bs)(hl:bs.length<=1000):ax c Γ (.val (.builtin "_bisect.bisect_right")) [.ref b,.int x] [] (.int (up bs x)) Γ:=fun ρ s Q E fv us ks S hf hv hk1 O K=>by
 obtain rfl:=hf.valI
 obtain⟨_,_,rfl,h1,h2⟩:=hv.consI
 replace h2:=h2.consI;obtain⟨_,_,rfl,h2,h3⟩:=h2
 obtain rfl:=h3.nilI;obtain⟨_,rfl⟩:=h2.intI
 obtain rfl:ks=[]:=ZG.mp hk1
 obtain⟨a,vs,n,os,ha,hI,N,hg⟩:=S.nums h
 obtain rfl:=h1.refAt ha
 refine lh N hg hI hl hU fun ans tk' u h1 h2 h3=>?_
 have e:up bs x=ans:=by unfold up;refine aa (bx h1 h2 h3 ..) (aa (List.length_drop ..) ?_);exact(aJ [.m .a .b,.S .d .b .a,.S .c .b .d] (.e .c .a)) h1 (bc _ _) (bc _ _)
 exact K _ ρ _ (ZN _) (e▸.int _ _) (S.toks _)
theorem Ev.lmeth{o e:Expr}{y:Str}{ap pos:Pos}{es:List Expr}{b:Nat}{bs:LI}{id:String}{vs:LX}{v:SV}(h:Ev c Γ o (.ref b) Γ₁)(hb:Γ₁.o[b]?=some (.nums bs))(hs:Slot "list" y id)(ht:typeOf (.builtin id)=pure (.type "method_descriptor"))(ha:jn c Γ₁ (e::es) vs Γ2)(hc:ax c Γ2 (.val (.builtin id)) (.ref b::vs) [] v Γ3)
  (he:∀env,starEach (e::es) env=(false,eval e env)::starEach es env:=by intros;rfl) (hp:∀env,(backTo pos (starEach es env)).any (·.1)=false:=by intros;rfl) (he0:bF o y ap (e::es) pos:=by intro;rfl):Ev c Γ (.Call (.Attribute o y ap) (e::es) [] pos) v Γ3:=fun ρ s Q E S k =>
 MethodCall_ (he:=he0 _) (h ρ s _ E S fun u ρ1 sj1 hp1 q1 Sj1=>by
  obtain⟨a,us,n,os,ha1,hI,N,hg⟩:=Sj1.nums hb
  obtain rfl:=q1.refAt ha1
  refine kl_method N hg hs ht ?_
  refine callWith_method1 (ha pos ρ1 sj1 _ E Sj1 fun us ρ₂ sj2 hp2 q2 Sj2=>?_) (he _) (hp _)
  exact hc ρ₂ sj2 Q E _ _ [] Sj2 (.val _) (.cons (.ref (ak hp2 ha1)) q2) rfl .nil fun u ρ3 sj3 hp3 hv S3=>k u ρ3 sj3 ((hp1.trans hp2).trans hp3) hv S3)
set_option tactic.hygienic true in
theorem ax.append{b:Nat}{bs:LI}{x:Int}(h:Γ.o[b]?=some (.nums bs))(hl:bs.length<=100)(hz:Nat.ble κ.nf b=true:=by exact vT):ax c Γ (.val (.builtin "list.append")) [.ref b,.int x] [] (.val .none) (Γ.setO b (.nums (bs++[x]))):=fun ρ s Q E fv us ks S hf hv hk1 O K=>by
 obtain rfl:=hf.valI
 obtain⟨_,_,rfl,h1,h2⟩:=hv.consI
 replace h2:=h2.consI;obtain⟨_,_,rfl,h2,h3⟩:=h2
 obtain rfl:=h3.nilI;obtain⟨_,rfl⟩:=h2.intI
 obtain rfl:ks=[]:=ZG.mp hk1
 obtain⟨m,os,H,F,N,hm,LY,hs⟩:=S
 obtain⟨a,o1,ha,hoa,hi,hmem⟩:=LY.slot h
 obtain rfl:=h1.refAt ha
 obtain⟨_,_,rfl,hI⟩:=hi.numsI
 rename_i vs n
 have hvl:=hI.length
 refine append_K F N (LY.upd ha hoa _ (ZJ hz)) (fun h' F' N'=>K _ ρ _ (ZN _) (.val _) (ad.set (s:={ s with heap:=h' }) hm LY ?_ F' N' (hs.heap h' _) (ZJ hz))) (by simp[sizeLine];exact(ah [.m .a .m,.e .b .a] (.m .b (.n 16777216))) hl hvl)
 have e:∀v:Value,vs.toArray.push v=(vs++[v]).toArray:=fun v=>by simp
 refine aa (e ..) ?_;exact .nums (hI.append (.cons _ _ .nil))
theorem ax.insert{b:Nat}{bs:LI}{x z:Int}(h:Γ.o[b]?=some (.nums bs))(hl:bs.length<=100)(h0:0<=z)(h1':z.toNat<=bs.length)(hz:Nat.ble κ.nf b=true:=by exact vT):ax c Γ (.val (.builtin "list.insert")) [.ref b,.int z,.int x] [] (.val .none) (Γ.setO b (.nums (bs.take z.toNat++x::bs.drop z.toNat))):=fun ρ s Q E fv us ks S hf hv hk1 O K=>by
 obtain rfl:=hf.valI
 obtain⟨_,_,rfl,h1,h2⟩:=hv.consI
 replace h2:=h2.consI;obtain⟨_,_,rfl,h2,h3⟩:=h2
 replace h3:=h3.consI;obtain⟨_,_,rfl,h3,h4⟩:=h3
 obtain rfl:=h4.nilI;obtain⟨_,rfl⟩:=h2.intI;obtain⟨_,rfl⟩:=h3.intI
 obtain rfl:ks=[]:=ZG.mp hk1
 obtain⟨m,os,H,F,N,hm,LY,hs⟩:=S
 obtain⟨a,o1,ha,hoa,hi,hmem⟩:=LY.slot h
 obtain rfl:=h1.refAt ha
 obtain⟨_,_,rfl,hI⟩:=hi.numsI
 exact mu F N (LY.upd ha hoa _ (ZJ hz)) hI h0 h1' hl fun h' F' N' hI'=>K _ ρ _ (ZN _) (.val _) (ad.set (s:={ s with heap:=h' }) hm LY (.nums hI') F' N' (hs.heap h' _) (ZJ hz))
theorem bJ.pop{o e:Expr}{ap p1 pos:Pos}{b:Nat}{bs:LI}{z:Int}{P:SF->G->Prop}(h:Ev c Γ o (.ref b) Γ₁)(ha:Ev c Γ₁ e (.int z) Γ2)(hb:Γ₁.o[b]?=some (.nums bs))(hb2:Γ2.o[b]?=some (.nums bs))(hl:bs.length<=100)(h0:0<=z)(h1':z.toNat<bs.length)(K:P .next (Γ2.setO b (.nums (bs.take z.toNat++bs.drop (z.toNat+1)))))
  (he:∀env,starEach [e] env=(false,eval e env)::starEach [] env:=by intros;rfl) (he0:bF o (Str.ofString "pop") ap [e] p1:=by intro;rfl) (hs':∀env,swapsWith (.Call (.Attribute o (Str.ofString "pop") ap) [e] [] p1) none pos.line env=pure false:=by intros;exact vP) (hz:Nat.ble κ.nf b=true:=by exact vT) :
  bJ c Γ (.Expr (.Call (.Attribute o (Str.ofString "pop") ap) [e] [] p1) pos) P:=fun ρ s Q E hE S KK =>
 wpAny_Expr_any (MethodCall_ (he:=he0 _) (h ρ s _ E S fun u ρ1 sj1 hp1 q1 Sj1=>by
  obtain⟨a,us,n,os,ha1,hI,N,hg⟩:=Sj1.nums hb
  obtain rfl:=q1.refAt ha1
  refine kl_method N hg PySem.F.slot_list_pop PySem.F.type_list_pop ?_
  refine callWith_method1 (args_cons (ha ρ1 sj1 _ E Sj1 fun u2 ρ₂ sj2 hp2 q2 Sj2=>args_nil ?_) (he _)) (he _) rfl
  obtain⟨_,rfl⟩:=q2.intI
  have ha2:=ak hp2 ha1
  obtain⟨m,os,H,F,N,hm,LY,hs⟩:=Sj2
  obtain⟨a',o1,ha',hoa,hi,hmem⟩:=LY.slot hb2
  rw[ha2] at ha';obtain rfl:=ZK ha'
  obtain⟨_,_,rfl,hI⟩:=hi.numsI
  exact rQ F N (LY.upd ha2 hoa _ (ZJ hz)) hI h0 h1' hl fun v h' F' N' hI'=>KK _ _ ρ₂ _ _ K .next (ad.set (s:={ sj2 with heap:=h' }) hm LY (.nums hI') F' N' (hs.heap h' _) (ZJ hz)))) c.quiet (hs' _)
end
example:True:=by w_top off;trivial
noncomputable abbrev b9(cs:LI):List SO:=[.inst 646 1,.attrs [("data",.ref 2),("typecode",.str "I")],.nums cs]
noncomputable def rh:Option Int->SV
|none=>.val .none
|some z=>.int z
noncomputable def aX(cs:LI)(i:Int):List Int:=cs.filter (decide <| · < i)++i::cs.filter (decide <| i<·)
theorem jr{cs:LI}(hU:Up cs)(x:Int):∃p,p<=cs.length/\(∀j:Nat,j<p->cs.getD j 0<x)/\∀j:Nat,p<=j->j<cs.length->x<=cs.getD j 0:=by
 induction cs with
|nil=>exact⟨0,ZZ _,fun j h=>absurd h (Nat.not_lt_zero _),fun j O h=>absurd h (Nat.not_lt_zero _)⟩
|cons a cs ih =>
  obtain⟨h1,h2⟩:=List.pairwise_cons.mp hU
  by_cases e:a<x
  ·obtain⟨p,p1,p2,p3⟩:=ih h2
   refine⟨p+1,Nat.succ_le_succ p1,fun j hj=>?_,fun j hj hl=>?_⟩
   ·cases j with
   |zero=>exact e
   |succ j=>exact p2 j (Nat.lt_of_succ_lt_succ hj)
   ·cases j with
   |zero=>exact(aG [.m (.p .a .u) .o] (.M .A .B)) hj
   |succ j=>exact p3 j (Nat.le_of_succ_le_succ hj) (Nat.lt_of_succ_lt_succ hl)
  ·refine⟨0,Zf _,fun j h=>absurd h (Nat.not_lt_zero _),fun j O hl=>?_⟩
   have:=hU.le 0 j (Zf _) hl
   have e0:(a::cs).getD 0 0=a:=rfl
   exact(jN [.x (.L .A .B),.M .C .D,.E .C .A] (.M .B .D)) e this e0
theorem dD{cs:LI}(hU:Up cs)(x:Int):lo cs x<=cs.length/\(∀j:Nat,j<lo cs x->cs.getD j 0<x)/\∀j:Nat,lo cs x<=j->j<cs.length->x<=cs.getD j 0:=by
 obtain⟨p,p1,p2,p3⟩:=jr hU x
 have e:lo cs x=p:=by unfold lo;refine aa (bw p1 p2 p3 ..) (aa (Zv ..) ?_);exact(av [.m .a .b,.I .c .a .b] (.e .c .a)) p1 (iX _ _)
 refine aa (e ..) ?_;exact⟨p1,p2,p3⟩
theorem pV{cs:LI}(hU:Up cs)(x:Int):up cs x<=cs.length/\(∀j:Nat,j<up cs x->cs.getD j 0<=x)/\∀j:Nat,up cs x<=j->j<cs.length->x<cs.getD j 0:=by
 obtain⟨p,p1,p2,p3⟩:=jr hU (x+1)
 have e:up cs x=p:=by unfold up;refine aa (bx p1 (fun j h=>by have:=p2 j h;exact(bo [.L .A (.p .B .u)] (.M .A .B)) this) (fun j h h'=>by have:=p3 j h h';assumption) ..) (aa (List.length_drop ..) ?_);exact(aJ [.m .a .b,.S .d .b .a,.S .c .b .d] (.e .c .a)) p1 (bc _ _) (bc _ _)
 refine aa (e ..) ?_;exact⟨p1,fun j h=>by have:=p2 j h;exact(bo [.L .A (.p .B .u)] (.M .A .B)) this,fun j h h'=>by have:=p3 j h h';assumption⟩
theorem i4{cs:LI}{i:Int}{p:Nat}(hp:p<=cs.length)(h1:∀j:Nat,j<p->cs.getD j 0<i)(h2:∀j:Nat,p<=j->j<cs.length->i<cs.getD j 0):aX cs i=cs.take p++i::cs.drop p:=by
 unfold aX
 exact aa (bw hp h1 (fun j a b=>Int.le_of_lt (h2 j a b)) ..) (aa (bx hp (fun j a=>Int.le_of_lt (h1 j a)) h2 ..) rfl)
theorem gv{cs:LI}{i:Int}(hU:Up cs){p:Nat}(hp:p<cs.length)(he:cs.getD p 0=i):aX cs i=cs:=by
 unfold aX
 rw[bw (p:=p) (by exact Zr ‹_›) (fun j h=>he▸hU.lt j p h hp) (fun j h h'=>he▸hU.le p j h h'),bx (p:=p+1) ‹_› (fun j h=>he▸hU.le j p (by exact Nat.le_of_lt_succ ‹_›) hp) (fun j h h'=>he▸hU.lt p j ‹_› h')]
 have h1:cs[p]=i:=by rw[ZE,ZA hp] at he;exact he
 conv=>rhs;rw[<- List.take_append_drop p cs,Zj hp,h1]
theorem mem_iff{cs:LI}{i:Int}(hU:Up cs):i∈cs<->lo cs i<cs.length/\cs.getD (lo cs i) 0=i:=by
 obtain⟨p1,p2,p3⟩:=dD hU i
 constructor
 ·intro h
  obtain⟨j,hj,e⟩:=jF.mp h
  have hj2:lo cs i<=j:=Nat.le_of_not_lt fun q=>by have:=p2 j q;exact(bo [.E .A .B,.L .A .B] .f) e this
  refine⟨by exact ZX ‹_› ‹_›,?_⟩
  have a:=p3 _ (ZZ _) (by exact ZX ‹_› ‹_›)
  have b:=hU.le _ j hj2 hj
  exact(dk [.E .A .B,.M .B .C,.M .C .A] (.E .C .B)) e a b
 ·rintro ⟨h1,h2⟩
  exact jF.mpr ⟨_,h1,h2⟩
theorem tr{cs:LI}{i:Int}(hU:Up cs)(hp:lo cs i<cs.length)(h:cs.getD (lo cs i) 0=i):cs.take (lo cs i)++cs.drop (lo cs i+1)=cs.filter (decide <| · ≠ i):=by
 obtain⟨p1,p2,p3⟩:=dD hU i
 generalize lo cs i=p at *
 have h1:cs[p]=i:=by rw[ZE,ZA hp] at h;exact h
 conv=>rhs;rw[<- List.take_append_drop p cs,Zj hp,h1]
 rw[List.filter_append,List.filter_cons_of_neg (by simp),Zk.mpr,Zk.mpr]
 ·intro a ha
  obtain⟨j,hj,e⟩:=ZF.mp ha
  rw[List.length_drop] at hj
  rw[List.getElem_drop] at e
  have:=hU.lt p (p+1+j) (by exact(ah [] (.l .a (.p (.p .a .u) .b)))) (by exact(aJ [.l .c .d,.S .d .b (.p .a .u)] (.l (.p (.p .a .u) .c) .b)) hj (bc _ _))
  rw[h,ZE,ZA (by lia),Option.getD_some,e] at this
  exact decide_eq_true (by exact(bo [.L .A .B] (.x (.E .B .A))) this)
 ·intro a ha
  obtain⟨j,hj,e⟩:=ZF.mp ha
  rw[Zv] at hj
  rw[List.getElem_take] at e
  have:=p2 j (by exact ZY ‹_› (Nat.min_le_left _ _))
  rw[ZE,ZA (by exact ZY ‹_› (Nat.min_le_right _ _)),Option.getD_some,e] at this
  exact decide_eq_true (by exact(bo [.L .A .B] (.x (.E .A .B))) this)
theorem ji(w:World):fk w 646 "data":=⟨by k_is,by k_is,none,by k_is,by k_is⟩
theorem fT(w:World):nsIn (hd.heap_1 w.params) mainGlobals "bisect_left"=some (some (.builtin "_bisect.bisect_left")):=by k_is
theorem qP(w:World):nsIn (hd.heap_1 w.params) mainGlobals "bisect_right"=some (some (.builtin "_bisect.bisect_right")):=by k_is
section
variable{w:World}{κ:CK}{c:Cx w κ}{Γ Γ₁ Γ2 Γ3 Γ4:G}
theorem Ev.data{x:Str}{xp pos:Pos}{i d b:Nat}(h:Γ.m.lookup x=some (.ref i))(h1:Γ.o[i]?=some (.inst 646 d))(h2:Γ.o[d]?=some (.attrs [((Str.ofString "data"),.ref b),((Str.ofString "typecode"),.str (Str.ofString "I"))]))(hx:κ.cs.names.lookup x=some .local:=by exact vS)(hd:(x == ("__debug__":Str))=false:=by exact vF):Ev c Γ (.Attribute (.Name x xp) "data" pos) (.ref b) Γ :=
 .attr (.name h hx hd) h1 h2 vS (ji w) af
theorem Ev.first{l:Expr}{pos p2:Pos}{k b:Nat}{bs:LI}(hl:Ev c Γ l (.ref b) Γ)(hn:Γ.o[b]?=some (.nums bs))(h1:0<bs.length):Ev c Γ (.Subscript l (.Constant (.int 0) k p2) pos) (.int (bs.getD 0 0)) Γ :=
 .item hl .intE hn (Int.le_refl _) (by exact(ai [.l .o .a] (.L .o (.t .a))) h1) (by decide)
end
theorem sn(w:World)(cs:LI)(hlen:cs.length<=24):da w 1 545 (b9 cs) [.ref 0] [] (.int cs.length):=by
 refine' aU ["self"] ?ho ?hcd ?hb ?hx ?nd ?hl ?H ?c1 ?c2 ?c3 ?c4
 k_extra "cx"
 exact fun c=>.cons (.ret (.len (.data vS vS vS) vS (by exact ZX ‹_› (by decide))) (.ret rfl vT))
theorem oY(w:World)(cs:LI)(h0:0<cs.length):da w 1 622 (b9 cs) [.ref 0] [] (.int (cs.getD 0 0)):=by
 refine' aU ["self"] ?ho ?hcd ?hb ?hx ?nd ?hl ?H ?c1 ?c2 ?c3 ?c4
 k_extra "cx"
 exact fun c=>.cons (.ret (.first (.data vS vS vS) vS h0) (.ret rfl vT))
theorem cz{cs:LI}:(-1+(cs.length:Int)).toNat=cs.length-1:=sS _
theorem fx(w:World)(cs:LI)(hlen:cs.length<=24)(hU:Up cs)(i:Int):da w 1 566 (b9 cs) [.ref 0,.int i] [] (.val (.bool (decide (i∈cs)))):=by
 refine' aU ["self","i"] ?ho ?hcd ?hb ?hx ?nd ?hl ?H ?c1 ?c2 ?c3 ?c4
 k_extra "cx"
 intro c
 obtain⟨p1,p2,p3⟩:=dD hU i
 refine .cons (.assign (.data vS vS vS) (.cons (.ite (.or (.not (.plain (.name vS) (.nums vS (by exact ZX ‹_› (by decide))))) fun h=>.or (.icmp (.name vS) (.first (.name vS) vS (Decidable.not_not.mp h)) .lt) fun h2=>.or (.icmp (.name vS) (.itemN (.name vS) (.neg .intE) vS (by decide) (by exact(ai [.x (.x (.l .o .a))] (.M (.j (.t .a)) (.j .u))) h) (by decide)) .gt) fun O=>.or_nil)
  (fun h=>.cons (.ret .boolE (.ret ?_ vT))) fun h=>.nil (.cons (.assign (.call_bi (.glob (fT w)) (.cons (.name vS) (.cons (.name vS) .nil)) (.bisL vS hU (by exact ZW ‹_› (by decide)))) (.cons (.ite (.icmp (.name vS) (.len (.name vS) vS (by exact ZX ‹_› (by decide))) .eq) (fun h2=>.cons (.ret .boolE (.ret ?_ vT))) fun h2=>.nil (.cons (.ret (.icmp (.item (.name vS) (.name vS) vS (by exact(ai [] (.M .o (.t .a)))) (by exact(ah [.m .a .b,.x (.E (.t .a) (.t .b))] (.L (.t .a) (.t .b))) p1 h2) (by exact(ah [.m .a (.n 24),.m .b .a] (.L (.t .b) .i)) hlen p1)) (.name vS) .eq ?_) (.ret rfl vT))))))))))
 ·congr 2
  refine(decide_eq_false fun hm=>?_).symm
  obtain⟨q1,q2⟩:=(mem_iff hU).mp hm
  rcases h with h|h|h|h
  ·exact h (by exact(ah [.l .a .b] (.l .o .b)) q1)
  ·have:=hU.le 0 _ (Zf _) q1;exact(dk [.E .A .B,.L .B .C,.M .C .A] .f) q2 h this
  ·rw[cz] at h
   have:=hU.le _ (cs.length-1) (by exact Nat.le_sub_one_of_lt ‹_›:lo cs i<=cs.length-1) (by exact Nat.sub_lt (ZX (Zf _) ‹_›) Nat.one_pos);exact(dk [.E .A .B,.L .C .B,.M .A .C] .f) q2 h this
  ·exact h
 ·congr 2
  exact(decide_eq_false fun hm=>by have:=(mem_iff hU).mp hm;exact(dj [.E (.t .a) (.t .b),.d (.l .a .b) (.E .A .B)] .f) h2 this).symm
 ·rw[decide_eq_true_iff,mem_iff hU,Int.toNat_natCast]
  exact⟨fun h=>h.2,fun h=>⟨by exact(ah [.m .a .b,.x (.E (.t .a) (.t .b))] (.l .a .b)) p1 h2,h⟩⟩
example:True:=by w_top off;trivial
theorem qR(w:World)(cs:LI)(h0:0<cs.length):da w 1 629 (b9 cs) [.ref 0] [] (.int (cs.getD (cs.length-1) 0)):=by
 refine' aU ["self"] ?ho ?hcd ?hb ?hx ?nd ?hl ?H ?c1 ?c2 ?c3 ?c4
 k_extra "cx"
 exact fun c=>.cons (.ret (.itemN (.data vS vS vS) (.neg .intE) vS (by decide) (by exact(ai [.l .o .a] (.M (.j (.t .a)) (.j .u))) h0) (by decide)) (.ret (by exact aa (cz ..) rfl) vT))
theorem mQ(w:World)(cs:LI)(hlen:cs.length<=24)(hU:Up cs)(i:Int):da w 1 636 (b9 cs) [.ref 0,.int i] [] (rh (cs.filter (decide <| · < i)).getLast?):=by
 refine' aU ["self","i"] ?ho ?hcd ?hb ?hx ?nd ?hl ?H ?c1 ?c2 ?c3 ?c4
 k_extra "cx"
 intro c
 obtain⟨p1,p2,p3⟩:=dD hU i
 refine .cons (.assign (.data vS vS vS) (.cons (.assign (.call_bi (.glob (fT w)) (.cons (.name vS) (.cons (.name vS) .nil)) (.bisL vS hU (by exact ZW ‹_› (by decide)))) (.cons (.ite (.icmp (.name vS) .intE .lt) (fun h=>.cons (.ret .nonE (.ret ?_ vT))) fun h=>.cons (.ret (.item (.name vS) (.iop (.name vS) .intE .sub) vS (by exact(ai [.x (.L (.t .a) .u)] (.M .o (.s (.t .a) .u))) h) (by exact(ah [.m .a .b] (.L (.s (.t .a) .u) (.t .b))) p1) (by exact(ah [.m .a (.n 24),.m .b .a] (.L (.s (.t .b) .u) .i)) hlen p1)) (.ret ?_ vT)))))))
 ·refine aa (bw p1 p2 p3 ..) (aa (show lo cs i=0 by exact(ai [.L (.t .a) .u] (.e .a .o)) h) ?_);rfl
 ·refine aa (bw p1 p2 p3 ..) (aa (List.getLast?_eq_getElem? ..) (aa (Zv ..) (aa (Zy ..) (aa (if_pos (by exact(aJ [.x (.L (.t .a) .u),.I .d .a .b,.S .c .d .u] (.l .c .a)) h (iX _ _) (bc _ _)) ..) (aa (show ((lo cs i:Int)-1).toNat=min (lo cs i) cs.length-1 by exact(c7 [.m .a .b,.T .c (.s (.t .a) .u),.I .e .a .b,.S .d .e .u] (.e .c .d)) p1 (bz _) (iX _ _) (bc _ _)) (aa (ZE ..) (aa (ZA (by lia) ..) ?_)))))));rfl
theorem o4(w:World)(cs:LI)(hlen:cs.length<=24)(hU:Up cs)(i:Int):da w 1 643 (b9 cs) [.ref 0,.int i] [] (rh (cs.filter (decide <| i<·)).head?):=by
 refine' aU ["self","i"] ?ho ?hcd ?hb ?hx ?nd ?hl ?H ?c1 ?c2 ?c3 ?c4
 k_extra "cx"
 intro c
 obtain⟨p1,p2,p3⟩:=pV hU i
 have key:∀h:up cs i<cs.length,rh (cs.filter (decide <| i<·)).head?=.int (cs.getD (up cs i) 0):=fun h=>by
  refine aa (bx p1 p2 p3 ..) (aa (List.head?_drop ..) (aa (ZE ..) (aa (ZA h ..) ?_)));rfl
 refine .cons (.assign (.data vS vS vS) (.cons (.ite (.or (.not (.plain (.name vS) (.nums vS (by exact ZX ‹_› (by decide))))) fun h=>.or (.icmp (.name vS) (.itemN (.name vS) (.neg .intE) vS (by decide) (by exact(ai [.x (.x (.l .o .a))] (.M (.j (.t .a)) (.j .u))) h) (by decide)) .ge) fun O=>.or_nil) (fun h=>.cons (.ret .nonE (.ret ?_ vT)))
  fun h=>.cons (.ite (.icmp (.name vS) (.first (.name vS) vS ?_) .lt) (fun h2=>.cons (.ret (.first (.name vS) vS ?_) (.ret ?_ vT))) fun h2=>.nil (.nil (.cons (.assign (.call_bi (.glob (qP w)) (.cons (.name vS) (.cons (.name vS) .nil)) (.bisR vS hU (by exact ZW ‹_› (by decide)))) (.cons (.ret (.item (.name vS) (.name vS) vS (by exact(ai [] (.M .o (.t .a)))) ?_ (by exact(ah [.m .a (.n 24),.m .b .a] (.L (.t .b) .i)) hlen p1)) (.ret ?_ vT))))))))))
 ·rcases h with h|h|h
  ·refine aa (show cs=[] from List.length_eq_zero_iff.mp (by exact(ai [.x (.l .o .a)] (.e .a .o)) h)) ?_;rfl
  ·rw[cz] at h
   have:up cs i=cs.length:=Nat.le_antisymm p1 (Nat.le_of_not_lt fun q=>by
    have a:=p3 _ (ZZ _) q
    have b:=hU.le (up cs i) (cs.length-1) (by exact Nat.le_sub_one_of_lt ‹_›) (by exact Nat.sub_lt (ZX (Zf _) ‹_›) Nat.one_pos)
    exact(dk [.M .A .B,.L .B .C,.M .C .A] .f) h a b)
   refine aa (bx p1 p2 p3 ..) (aa (this ..) (aa (List.drop_length ..) ?_));rfl
  ·exact h.elim
 all_goals have hne:0<cs.length:=Nat.pos_of_ne_zero fun e=>h (.inl (by exact(aG [.x (.o (.x (.l .o .a)) (.o (.M .A .B) .f)),.e .a .o] (.x (.l .o .a))) h e))
 ·exact hne
 ·exact hne
 ·have:up cs i=0:=Nat.eq_zero_of_not_pos fun q=>by have:=p2 0 q;exact(bo [.L .A .B,.M .B .A] .f) h2 this
  have k:=key (by exact(dj [.x (.o (.x (.l .o .a)) (.o (.M .A .B) .f)),.e .b .o] (.l .b .a)) h this)
  rw[this] at k
  exact k.symm
 all_goals have hlt:up cs i<cs.length:=Nat.lt_of_le_of_ne p1 fun e=>h (.inr (.inl (by refine aa (cz ..) ?_;exact p2 _ (by exact(r0 [.x (.o (.x (.l .o .a)) (.o (.M .A .B) .f)),.e .b .a,.S .c .a .u] (.l .c .b)) h e (bc _ _)))))
 ·exact(ah [.l .a .b] (.L (.t .a) (.t .b))) hlt
 ·exact aa (key hlt ..) (aa (Int.toNat_natCast ..) rfl)
theorem jb(w:World)(cs:LI)(hlen:cs.length<=24)(hU:Up cs)(i:Int):az w 1 573 (b9 cs) [.ref 0,.int i] [] (ch (.val .none) (b9 (aX cs i))):=by
 refine' ao ["self","i"] ?ho ?hcd ?hb ?hx ?nd ?hl ?H ?c1 ?c2 ?c3 ?c4
 k_extra "cx"
 intro c
 obtain⟨p1,p2,p3⟩:=dD hU i
 have app:(∀j:Nat,j<cs.length->cs.getD j 0<i)->aX cs i=cs++[i]:=fun h=>by
  rw[i4 (ZZ _) h (fun j a b=>absurd b (Nat.not_lt.mpr a)),List.take_length,List.drop_length]
 refine .cons (.assign (.data vS vS vS) (.cons (.ite (.or (.not (.plain (.name vS) (.nums vS (by exact ZX ‹_› (by decide))))) fun h=>.or (.icmp (.name vS) (.itemN (.name vS) (.neg .intE) vS (by decide) (by exact(ai [.x (.x (.l .o .a))] (.M (.j (.t .a)) (.j .u))) h) (by decide)) .gt) fun O=>.or_nil)
  (fun h=>.cons (.expr (.lmeth (.name vS) vS PySem.F.slot_list_append PySem.F.type_list_append (.cons (.name vS) .nil) (.append vS (by exact ZW ‹_› (by decide)))) (.nil (.nil (.next _ ⟨rfl,?_⟩ .same vT))))) fun h=>?_)))
 ·show b9 (cs++[i])=b9 (aX cs i)
  rw[app fun j hj=>?_]
  rcases h with h|h|h
  ·exact(dj [.l .a .b,.x (.l .o .b)] (.L .A .B)) hj h
  ·rw[cz] at h
   have:=hU.le j (cs.length-1) (by exact Nat.le_sub_one_of_lt ‹_›) (by exact Nat.sub_lt (ZX (Zf _) ‹_›) Nat.one_pos);exact Int.lt_of_le_of_lt ‹_› ‹_›
  ·exact h.elim
 have hne:0<cs.length:=Nat.pos_of_ne_zero fun e=>h (.inl (by exact(aG [.x (.o (.x (.l .o .a)) (.o (.L .A .B) .f)),.e .a .o] (.x (.l .o .a))) h e))
 have hla:i<=cs.getD (cs.length-1) 0:=Int.not_lt.mp fun q=>h (.inr (.inl (by rw[cz];exact q)))
 have hlt:lo cs i<cs.length:=Nat.lt_of_le_of_ne p1 fun e=>by have:=p2 (cs.length-1) (by exact(r0 [.x (.o (.x (.l .o .a)) (.o (.L .A .B) .f)),.e .b .a,.S .c .a .u] (.l .c .b)) h e (bc _ _));exact(bo [.M .A .B,.L .B .A] .f) hla this
 refine .cons (.assign (.first (.name vS) vS hne) ?_)
 refine .cons (.assign (.itemN (.name vS) (.neg .intE) vS (by decide) (by exact(aG [.x (.o (.x (.l .o .a)) (.o (.L .A .B) .f))] (.M (.j (.t .a)) (.j .u))) h) (by decide)) ?_)
 refine .cons (.ite (.or (.icmp (.name vS) (.name vS) .eq) fun O=>.or (.icmp (.name vS) (.name vS) .eq) fun O=>.or_nil) (fun h2=>.cons (.ret0 (.ret _ ⟨rfl,?_⟩ .same vT))) fun h2=>?_)
 ·show b9 cs=b9 (aX cs i)
  rcases h2 with h2|h2|h2
  ·rw[gv hU hne h2.symm]
  ·rw[cz] at h2;rw[gv hU (by exact Nat.sub_lt (ZX (Zf _) ‹_›) Nat.one_pos:cs.length-1<cs.length) h2.symm]
  ·exact h2.elim
 refine .cons (.ite (.icmp (.name vS) (.name vS) .gt) (fun h3=>absurd h3 (by rw[cz];exact(t8 [.x (.o (.x (.l .o .a)) (.o (.L .A .B) .f)),.x (.o (.E .B .C) (.o (.E .B .A) .f)),.L .A .B] (.x (.L .D .B))) h h2 h3)) fun h3=>?_)
 refine .cons (.ite (.icmp (.name vS) (.name vS) .lt) (fun h4=>?_) fun h4=>?_)
 ·refine .cons (.expr (.lmeth (.name vS) vS PySem.F.slot_list_insert PySem.F.type_list_insert (.cons .intE (.cons (.name vS) .nil)) (.insert vS (by exact ZW ‹_› (by decide)) (by decide) (by exact Zf _))) (.nil (.nil (.nil (.nil (.nil (.next _ ⟨rfl,?_⟩ .same vT)))))))
  show b9 (cs.take (Int.toNat 0)++i::cs.drop (Int.toNat 0))=b9 (aX cs i)
  rw[i4 (Zf _) (fun j a=>absurd a (Nat.not_lt_zero _)) (fun j O b=>by have:=hU.le 0 j (Zf _) b;exact Int.lt_of_lt_of_le ‹_› ‹_›)];rfl
 refine .cons (.assign (.call_bi (.glob (fT w)) (.cons (.name vS) (.cons (.name vS) .nil)) (.bisL vS hU (by exact ZW ‹_› (by decide)))) ?_)
 refine .cons (.ite (.icmp (.item (.name vS) (.name vS) vS (by exact(ai [] (.M .o (.t .a)))) (by exact(ah [.l .a .b] (.L (.t .a) (.t .b))) hlt) (by exact(ah [.m .a (.n 24),.l .b .a] (.L (.t .b) .i)) hlen hlt)) (.name vS) .ne) (fun h5=>?_) fun h5=>?_)
 ·refine .cons (.expr (.lmeth (.name vS) vS PySem.F.slot_list_insert PySem.F.type_list_insert (.cons (.name vS) (.cons (.name vS) .nil)) (.insert vS (by exact ZW ‹_› (by decide)) (by exact(ai [] (.M .o (.t .a)))) ‹_›)) (.nil (.nil (.nil (.nil (.nil (.nil (.next _ ⟨rfl,?_⟩ .same vT))))))))
  show b9 (cs.take ((lo cs i:Int)).toNat++i::cs.drop ((lo cs i:Int)).toNat)=b9 (aX cs i)
  rw[Int.toNat_natCast] at h5 ⊢
  rw[i4 p1 p2 fun j a b=>?_]
  have a1:=p3 _ (ZZ _) hlt
  have a2:=hU.le _ j a b
  exact(dk [.x (.E .A .B),.M .B .A,.M .A .C] (.L .B .C)) h5 a1 a2
 ·refine .nil (.nil (.nil (.nil (.nil (.nil (.next _ ⟨rfl,?_⟩ .same vT))))))
  show b9 cs=b9 (aX cs i)
  rw[Int.toNat_natCast] at h5
  rw[gv hU hlt (Decidable.not_not.mp h5)]
theorem l6(w:World)(cs:LI)(hlen:cs.length<=24)(hU:Up cs)(i:Int)(hl:lo cs i<cs.length):az w 1 580 (b9 cs) [.ref 0,.int i] [] (ch (.val .none) (b9 (cs.filter (decide <| · ≠ i)))):=by
 refine' ao ["self","i"] ?ho ?hcd ?hb ?hx ?nd ?hl ?H ?c1 ?c2 ?c3 ?c4
 k_extra "cx"
 intro c
 refine .cons (.assign (.data vS vS vS) (.cons (.assign (.call_bi (.glob (fT w)) (.cons (.name vS) (.cons (.name vS) .nil)) (.bisL vS hU (by exact ZW ‹_› (by decide)))) (.cons (.ite (.icmp (.item (.name vS) (.name vS) vS (by exact(ai [] (.M .o (.t .a)))) (by exact(ah [.l .a .b] (.L (.t .a) (.t .b))) hl) (by exact(ah [.m .a (.n 24),.l .b .a] (.L (.t .b) .i)) hlen hl)) (.name vS) .eq) (fun h=>.cons (.pop (.name vS) (.name vS) vS vS (by exact ZW ‹_› (by decide)) (by exact(ai [] (.M .o (.t .a)))) ‹_› (.nil (.nil (.next _ ⟨rfl,?_⟩ .same vT))))) fun h=>.nil (.nil (.next _ ⟨rfl,?_⟩ .same vT)))))))
 ·show b9 (cs.take ((lo cs i:Int)).toNat++cs.drop (((lo cs i:Int)).toNat+1))=_
  rw[Int.toNat_natCast] at h ⊢
  exact aa (tr hU hl h ..) rfl
 ·show b9 cs=_
  rw[Int.toNat_natCast] at h
  have e:cs.filter (decide <| · ≠ i)=cs:=Zk.mpr fun a ha=>decide_eq_true fun e=>by
   subst e
   exact h ((mem_iff hU).mp ha).2
  exact aa (e ..) rfl
example:True:=by w_top off;trivial
noncomputable abbrev DC:=AO->Prop
def fu(w:World)(I:Addr)(A:Around)(Q:OQ)(s:Shared):Prop:=∀E:VS,wpAny (model PR w) A (pyNext (.ref I)) Q E s
def oz(w:World)(v:Value)(A:Around)(Q:VS)(s:Shared):Prop:=∀E:VS,wpAny (model PR w) A (pyIter v) Q E s
noncomputable def aE(w:World)(lvl:Nat)(b I:Addr):DC->List (Int×DC)->AO->Gs->Prop
|D,[],own,pg=>bI w lvl (fu w I) own pg (fun n hold=>n<=b/\D hold) (fun O r O O=>r=none)
|D,(z,D')::l,own,pg=>bI w lvl (fu w I) own pg (fun n hold=>n<=b/\D hold) (fun O r own' pg'=>(∃t,r=some (.int z t))/\aE w lvl b I D' l own' pg')
theorem aE.nil{w:World}{lvl:Nat}{b I:Addr}{D:DC}{own:AO}{pg:Gs}(h:bI w lvl (fu w I) own pg (fun n hold=>n<=b/\D hold) (fun O r O O=>r=none)):aE w lvl b I D [] own pg:=h
theorem aE.cons{w:World}{lvl:Nat}{b I:Addr}{D D':DC}{z:Int}{l:List (Int×DC)}{own:AO}{pg:Gs}(h:bI w lvl (fu w I) own pg (fun n hold=>n<=b/\D hold) (fun O r own' pg'=>(∃t,r=some (.int z t))/\aE w lvl b I D' l own' pg')):aE w lvl b I D ((z,D')::l) own pg:=h
structure bt(w:World)(T:String)(I:Addr)(own:AO):Prop where
 ty:∃r,typeLookup (.type T) "__next__"=pure (some r)
 is:∀s:Shared,(∀q∈own,s.heap.get? q.1=some q.2)->s.TypeIs (.ref I) T
 self:∀(A:Around) (s:Shared) (Q:VS) (E:VS),(∀q∈own,s.heap.get? q.1=some q.2)->Q (.ref I) s->wpAny (model PR w) A (pyIter (.ref I)) Q E s
noncomputable def dOf(w:World)(ρ:LQ)(K:OP):DC:=fun hold=>∃l os,K l/\ρ.length=os.length/\l.length=os.length/\cy w ρ l os/\∀q∈ρ.zip os,q∈hold
noncomputable abbrev KL:=List (Int×(List SO->Prop))
noncomputable abbrev dL(w:World)(ρ:LQ)(l:KL):List (Int×DC):=l.map fun e=>(e.1,dOf w ρ e.2)
noncomputable def du(w:World)(lvl:Nat)(ρ:LQ)(Ok:String->(List SO->Prop)->KL->Prop)(n:Nat)(r:Value)(own:AO)(pg:Gs):Prop :=
 ∃T b I K l,n<=b/\r=.ref I/\Ok T K l/\bt w T I own/\aE w lvl b I (dOf w ρ K) (dL w ρ l) own pg
noncomputable def pJ(w:World)(lvl:Nat)(v:SV)(n:Nat)(K₀:OP)(Ok:String->(List SO->Prop)->KL->Prop):Prop :=
 ∀ρ u,ρ.length=n->ρ.Nodup->v.Is ρ u->bI w lvl (oz w u) [] [] (fun O=>dOf w ρ K₀) (du w lvl ρ Ok)
noncomputable def gL(w:World)(lvl:Nat)(f:Addr)(n:Nat)(K₀:OP)(args:LX)(Ok:String->(List SO->Prop)->KL->Prop):Prop :=
 ∀ρ us,ρ.length=n->ρ.Nodup->bh ρ args us->bI w lvl (fA w (.ref f) us []) [] [] (fun O=>dOf w ρ K₀) (du w lvl ρ Ok)
def Meets(Γ:G)(σ:LN)(K:OP):Prop:=∃l,Fits Γ σ σ l/\l.all (·.fit l.length)=true/\K l
section
variable{w:World}{κ:CK}{n₁:Nat}{c:Cx w κ}{Γ Γ₁ Γ2 Γ3 Γ4:G}{ρ:LQ}{s:Shared}{P:SF->G->Prop}
noncomputable def Cx.lp(c:Cx w κ)(ρ1:LQ)(hp:c.ρ0<+:ρ1)(h:ρ1.length=n₁)(own:AO)(sj1:Shared):Cx w { κ with n:=n₁ } :=
 ⟨c.o,c.qn,c.fo,c.L,c.ccd,c.cl,c.frm,sj1,ρ1,own++c.hold,c.shr,fun e he=>by
  obtain⟨h1,L',h2,h3⟩:=c.hfr e he
  exact⟨h1,L',h2,h3.imp id fun hZ1=>by obtain⟨o,h4,h5⟩:=hZ1;exact⟨o,ZC _ h4,h5⟩⟩,h,c.hk,ZW c.hnf (by have:=hp.length_le;rw[c.len,h] at this;exact this),c.fits,fun q hq=>⟨ZC _ (c.hsh q hq).1,(c.hsh q hq).2⟩,fun x i hx=>by
  obtain⟨a,h1,h2⟩:=c.hcl x i hx
  exact⟨a,ak hp h1,h2⟩⟩
theorem ad.out{ρ1:LQ}{hp:c.ρ0<+:ρ1}{h:ρ1.length=n₁}{own:AO}{sj1:Shared}(S:ad (c.lp ρ1 hp h own sj1) Γ ρ s)(hsj1:aT c sj1):ad c Γ ρ s:=by
 obtain⟨m,os,H,F,N,hm,LY,hs⟩:=S
 obtain⟨o',Hc,rfl,k1,k2⟩:=aw.split LY.kp
 refine .mk m os Hc F (fun q hq=>N q ((ZS.mp hq).elim (ZD _) fun h=>ZC _ (ZC _ h))) hm ⟨LY.hl,LY.hg,LY.ho,LY.nd,hp.trans LY.pre,fun q hq=>LY.ap q (ZC _ hq),k2,LY.sh⟩ ⟨?_,hsj1.gx.trans hs.gx⟩
 have h1:=hs.eq
 have h2:=hsj1.eq
 have e:(c.lp ρ1 hp h own sj1).sj0=sj1:=rfl
 rw[e] at h1
 exact aa (h1 ..) (aa (h2 ..) rfl)
end
theorem aw.app{fs:LQ}{a b:AO}(x:aw fs a b):∀l:AO,aw fs (l++a) (l++b)
|[]=>x
|_::l=>.same (x.app l)
section
variable{w:World}{κ:CK}{lvl n₁:Nat}{c:Cx w κ}{Γ Γ₁ Γ2 Γ3 Γ4:G}{ρ ρc ρ1:LQ}{s sj1:Shared}{P:SF->G->Prop}{hp:c.ρ0<+:ρ1}{h:ρ1.length=n₁}{own:AO}{σ:LN}
theorem aw.quiet{fs:LQ}{a b:AO}(x:aw fs a b){q:Addr×Obj}(h:q∈a)(hn:q.1∉fs):q∈b:=by
 induction x with
|nil=>exact h
|same _ ih=>exact(ZT.mp h).elim (fun e=>e▸.head _) fun h=>.tail _ (ih h)
|soft hx _ ih=>exact(ZT.mp h).elim (fun e=>by subst e;exact absurd hx hn) fun h=>.tail _ (ih h)
theorem ad.act2{α:Type}{Xc:Around->(α->Shared->Prop)->Shared->Prop}{pg:Gs}{D:Nat->AO->Prop}{Post:Nat->α->AO->Gs->Prop}{Q:α->Shared->Prop}(S:ad (c.lp ρ1 hp h own sj1) Γ ρ s)(hoff:∀q∈own,q.1∉aZ c.o.fr/\∀z∈c.hold,q.1≠z.1)
  (C:bI w lvl Xc own pg D Post) (hD:∀os hold,ρ.length=os.length->Γ.o.length=os.length->cy w ρ Γ.o os->(∀q∈ρ.zip os,q∈hold)->(∀q∈c.hold,q.1∉aZ c.o.fr->q∈hold)->D c.o.g.objs.size hold) (hlv:lvl<=κ.lv) (hpg:∀q∈pg,s.gens[q.1]?=some q.2)
  (k:∀r own' pg' s',Mv c.o pg pg' [] [] s s'->Post s.heap.objs.size r own' pg'->(∀q∈own',q.1∉aZ c.o.fr/\∀z∈c.hold,q.1≠z.1)->ad (c.lp ρ1 hp h own' s') Γ ρ s'->Q r s'):Xc c.A Q s:=by
 obtain⟨m,os,H,F,N,hm,LY,hs⟩:=S
 have offF:=LY.offF N
 obtain⟨o',Hc,rfl,k1,k2⟩:=aw.split LY.kp
 have e1:=(k1.off fun q hq=>(hoff q hq).1).symm
 subst e1
 have inHc:∀q∈Hc,∃z∈c.hold,z.1=q.1:=fun q hq=>by
  have:q.1∈Hc.map (·.1):=Zd hq
  rw[k2.fst] at this
  exact Zc.mp this
 have apz:∀q∈own,q.1∉ρ:=fun q hq hm=>by
  obtain⟨j,hj,e⟩:=ZF.mp hm
  have h3:ρ[j]?=some q.1:=by exact aa (ZA hj ..) (aa (e ..) vS)
  rcases Zq j κ.nf with hz|hz
  ·have:=LY.sh j _ _ hz h3 (ZA (h:=LY.hl▸hj))
   exact(hoff q hq).2 _ (c.hsh _ this).1 rfl
  ·exact LY.ap q (ZD _ hq) (bD h3 hz)
 refine rJ C c.hfr k2 F (own:=own++ρ.zip os) (fun q hq=>N q ?_) (fun q hq z hz e=>?_) (fun q hq=>?_) (fun q hq=>ZD _ hq) (c.fits.le hlv) hpg
  (fun hold hh h9=>hD os hold LY.hl LY.hg LY.ho (fun q hq=>hh q (ZC _ hq) fun z hz e=>apz z hz (e▸(Zz hq).1)) fun q hq hn=>h9 q (k2.quiet hq hn) hn) (fun r own' pg' H' s' V F' hHf hN hfr hfH hP=>?_)
 ·simp only[ZS] at hq ⊢
  rcases hq with (hq|hq)|hq
  ·exact .inr (.inl hq)
  ·exact .inl hq
  ·exact .inr (.inr hq)
 ·obtain⟨y,hy,e2⟩:=inHc q hq
  exact(hoff z hz).2 y hy (e2.trans e).symm
 ·exact(ZS.mp hq).elim (fun h=>(hoff q h).1) (offF q)
 ·have hown:∀q∈own',∀z∈c.hold,q.1≠z.1:=fun q hq z hz e=>by
   have:z.1∈Hc.map (·.1):=by refine aa (k2.fst ..) ?_;exact Zd hz
   obtain⟨y,hy,e2⟩:=Zc.mp this
   exact hfH q hq y hy (e.trans e2.symm)
  have N2:=hN (own'++ρ.zip os) fun q hq=>by
   rcases ZS.mp hq with hq|hq
   ·exact .inl hq
   ·exact .inr ⟨ZC _ hq,fun z hz e=>apz z hz (e▸(Zz hq).1)⟩
  have nF:∀q∈own',q.1∉aZ c.o.fr:=fun q hq hm=>by
   obtain⟨e,he,he2⟩:=List.mem_filterMap.mp hm
   obtain⟨_,L',h3,h4⟩:=c.hfr e he
   rw[he2] at h3;obtain rfl:=ZK h3
   rcases h4 with h4|⟨o,h4,_⟩
   ·exact(N2 q (ZD _ (ZD _ hq))).2.1 h4
   ·exact hown q hq _ h4 rfl
  refine k r own' pg' s' ⟨V.eq,V.gm,V.pi,.nil⟩ hP (fun q hq=>⟨nF q hq,hown q hq⟩) (.mk m os (own'++H') F' (fun q hq=>N2 q ?_) hm ⟨LY.hl,LY.hg,LY.ho,LY.nd,LY.pre,fun q hq hmm=>?_,V.kp.app own',LY.sh⟩ ⟨rfl,aN.refl _ _⟩)
  ·simp only[ZS] at hq ⊢
   rcases hq with hq|hq|hq
   ·exact .inl (.inr hq)
   ·exact .inl (.inl hq)
   ·exact .inr hq
  ·rcases ZS.mp hq with hq|hq
   ·obtain⟨j,hj,e⟩:=ZF.mp (List.mem_of_mem_drop hmm)
    have hm2:=au (ρ:=ρ) (os:=os) (ZA hj) (ZA (h:=LY.hl▸hj))
    refine hfr q hq _ (ZC _ hm2) (fun y hy e2=>apz y hy ?_) e.symm
    have e3:ρ[j]=y.1:=e2
    refine aA (e3 ..) ?_;exact List.getElem_mem hj
   ·have:q.1∈H'.map (·.1):=Zd hq
    rw[hHf] at this
    obtain⟨y,hy,e2⟩:=Zc.mp this
    exact LY.ap y (ZC _ hy) (e2▸hmm)
theorem ad.act{α:Type}{Xc:Around->(α->Shared->Prop)->Shared->Prop}{pg:Gs}{D:Nat->AO->Prop}{Post:Nat->α->AO->Gs->Prop}{Q:α->Shared->Prop}(S:ad (c.lp ρ1 hp h own sj1) Γ ρ s)(hoff:∀q∈own,q.1∉aZ c.o.fr/\∀z∈c.hold,q.1≠z.1)
  (C:bI w lvl Xc own pg D Post) (hD:∀os hold,ρ.length=os.length->Γ.o.length=os.length->cy w ρ Γ.o os->(∀q∈ρ.zip os,q∈hold)->D c.o.g.objs.size hold) (hlv:lvl<=κ.lv) (hpg:∀q∈pg,s.gens[q.1]?=some q.2)
  (k:∀r own' pg' s',Mv c.o pg pg' [] [] s s'->Post s.heap.objs.size r own' pg'->(∀q∈own',q.1∉aZ c.o.fr/\∀z∈c.hold,q.1≠z.1)->ad (c.lp ρ1 hp h own' s') Γ ρ s'->Q r s'):Xc c.A Q s :=
 S.act2 hoff C (fun os hold h1 h2 h3 h4 O=>hD os hold h1 h2 h3 h4) hlv hpg k
theorem Meets.dOf{K:OP}(M:Meets Γ σ K)(n2:ρc.length=σ.length)(p2:∀j i:Nat,σ[j]?=some i->ρc[j]?=ρ[i]?){os:List Obj}{hold:AO}(h1:ρ.length=os.length)(hg:Γ.o.length=os.length)(ho:cy w ρ Γ.o os)(hm:∀q∈ρ.zip os,q∈hold):dOf w ρc K hold:=by
 obtain⟨l,hF,hfit,hK⟩:=M
 obtain⟨osc,n1,_,hob,hsub⟩:=hF.cut0 h1 ho hfit n2 p2 hg
 exact⟨l,osc,hK,by exact aa (n1 ..) (aa (n2 ..) rfl),by exact aa (n1 ..) (aa (hF.get.1 ..) rfl),hob,fun q hq=>hm q (hsub q hq)⟩
end
noncomputable abbrev LD:=List (Int×DC)
example:True:=by w_top off;trivial
inductive TP(n₁:Nat){α:Type}(I:(List SO->Prop)->KL->α->Prop)(Γf:α->G)(K:OP)(l:KL)(P:SF->G->Prop):SF->G->Prop
|next {Γ':G} (a:α) (h:I K l a) (hl:G.Le Γ' (Γf a)) (hf:(Γf a).fit=true) (hn:Nat.ble n₁ (Γf a).o.length=true):TP n₁ I Γf K l P .next Γ'
|cont {Γ':G} (a:α) (h:I K l a) (hl:G.Le Γ' (Γf a)) (hf:(Γf a).fit=true) (hn:Nat.ble n₁ (Γf a).o.length=true):TP n₁ I Γf K l P .cont Γ'
|brk {Γ':G} (h:P .next Γ'):TP n₁ I Γf K l P .brk Γ'
|ret {Γ':G} {v:SV} (h:P (.ret v) Γ'):TP n₁ I Γf K l P (.ret v) Γ'
section
variable{w:World}{κ:CK}{lvl n₁:Nat}{c:Cx w κ}{Γ Γ₁ Γ2 Γ3 Γ4:G}{ρ ρc ρ1:LQ}{s sj1:Shared}{P:SF->G->Prop}{hp:c.ρ0<+:ρ1}{h:ρ1.length=n₁}{own:AO}{σ:LN}
theorem ad.lp(S:ad c Γ ρ s)(hp1:ρ1<+:ρ):ad (c.lp ρ1 hp h [] s) Γ ρ s:=by
 cases S with|mk m os H F N hm LY hs=>exact .mk m os H F N hm ⟨LY.hl,LY.hg,LY.ho,LY.nd,hp1,LY.ap,LY.kp,LY.sh⟩ ⟨rfl,aN.refl _ _⟩
theorem ad.re{nj2:Nat}{ρ₂:LQ}{hp2:c.ρ0<+:ρ₂}{h2:ρ₂.length=nj2}(S:ad (c.lp ρ1 hp h own sj1) Γ ρ s)(hq:ρ₂<+:ρ):ad (c.lp ρ₂ hp2 h2 own s) Γ ρ s:=by
 cases S with|mk m os H F N hm LY hs=>exact .mk m os H F N hm ⟨LY.hl,LY.hg,LY.ho,LY.nd,hq,LY.ap,LY.kp,LY.sh⟩ ⟨rfl,aN.refl _ _⟩
theorem ad.rel(S:ad c Γ ρ s):aT c s:=by cases S;assumption
theorem ad.ltL(S:ad c Γ ρ s):c.L<s.heap.objs.size:=by cases S with|mk m os H F N hm LY hs=>exact F.ns.lt
theorem ad.above(S:ad c Γ ρ s):c.o.g.objs.size<=c.L:=by cases S with|mk m os H F N hm LY hs=>exact F.above
theorem ad.pre(S:ad c Γ ρ s):c.ρ0<+:ρ:=by cases S with|mk m os H F N hm LY hs=>exact LY.pre
theorem ad.len(S:ad c Γ ρ s):ρ.length=Γ.o.length:=by cases S with|mk m os H F N hm LY hs=>exact LY.hl.trans LY.hg.symm
theorem ad.nd(S:ad c Γ ρ s):ρ.Nodup:=by cases S with|mk m os H F N hm LY hs=>exact LY.nd
theorem aT.step{s':Shared}{pg pg':Gs}(h1:aT c s)(V:Mv c.o pg pg' [] [] s s')(hg:∀q∈pg,c.sj0.gens.size<=q.1):aT c s' :=
 ⟨by have h2:=V.eq;have h3:=h1.eq;rw[h3] at h2;exact h2,h1.gx.comp V.gm fun q hq=>.inr (hg q hq)⟩
inductive dv(c:Cx w κ)(lvl:Nat)(σ:LN)(Ok:String->(List SO->Prop)->KL->Prop)(Γ:G)(ρ:LQ)(it:Addr)(s:Shared):Prop
|mk (T:String) (b:Addr) (K:OP) (l:KL) (own:AO) (pg:Gs) (ρc:LQ) (hOk:Ok T K l) (hself:bt w T it own) (hi:aE w lvl b it (dOf w ρc K) (dL w ρc l) own pg) (hb:c.L<=b) (n2:ρc.length=σ.length) (p2:∀j i:Nat,σ[j]?=some i->ρc[j]?=ρ[i]?)
   (hs:aT c s) (hg:∀q∈pg,s.gens[q.1]?=some q.2) (hg2:∀q∈pg,c.sj0.gens.size<=q.1) (ho:∀q∈own,q.1∉aZ c.o.fr/\∀z∈c.hold,q.1≠z.1) (S:ad (c.lp c.ρ0 (ZN _) c.len own s) Γ ρ s)
noncomputable def bH(c:Cx w κ)(Γ:G)(e:Expr)(lvl:Nat)(σ:LN)(Ok:String->(List SO->Prop)->KL->Prop)(Γ₁:G):Prop :=
 ∀ρ s (Q:VS) (E:VS),ad c Γ ρ s->(∀it ρ' s',ρ<+:ρ'->dv c lvl σ Ok Γ₁ ρ' it s'->Q (.ref it) s')->wpAny (model PR w) c.A (eval e c.env) (fun u sj1=>wpAny (model PR w) c.A (pyIter u) Q E sj1) E s
theorem ad.it(S:ad c Γ ρ s){e:Expr}{Ok:String->(List SO->Prop)->KL->Prop}{Q:VS}{E:VS}(B:bH c Γ e lvl σ Ok Γ₁)(K:∀it ρ' s',ρ<+:ρ'->dv c lvl σ Ok Γ₁ ρ' it s'->Q (.ref it) s'):wpAny (model PR w) c.A (eval e c.env) (fun u sj1=>wpAny (model PR w) c.A (pyIter u) Q E sj1) E s:=B ρ s Q E S K
theorem SV.Is.pick{v:SV}{u:Value}(q:(v.ren σ).Is ρ u)(p2:∀j i:Nat,σ[j]?=some i->ρc[j]?=ρ[i]?)(hv:v.fit σ.length=true):v.Is ρc u :=
 q.unren (n:=σ.length) (fun j a hj e=>by
  have h1:σ[j]?=some (σ[j]'hj):=ZA _
  rw[ZE,h1] at e
  refine aa (p2 j _ h1 ..) ?_;exact e) hv
theorem bH.of{e:Expr}{v:SV}{K₀:OP}{Ok:String->(List SO->Prop)->KL->Prop}(hi:Ev c Γ e (v.ren σ) Γ₁)(B:pJ w lvl v σ.length K₀ Ok)(M0:Meets Γ₁ σ K₀)(hv:v.fit σ.length=true:=by exact vT)(nd:σ.Nodup:=by decide)(hσ:(σ.all fun i=>Nat.blt i Γ₁.o.length)=true:=by exact vT)(hlv:Nat.ble lvl κ.lv=true:=by exact vT):bH c Γ e lvl σ Ok Γ₁:=fun ρ s Q E S KK =>
 hi ρ s _ E S fun u ρ1 sj1 hp q Sj1=>by
  have hlt:∀i∈σ,i<ρ1.length:=fun i hi=>by refine aa (Sj1.len ..) ?_;simpa [Nat.blt_eq] using Zp.mp hσ i hi
  obtain⟨ρc,n2,p2⟩:=Mine.qf (os:=ρ1) (σ:=σ) hlt
  have Sj0:ad (c.lp c.ρ0 (ZN _) c.len [] sj1) Γ₁ ρ1 sj1:=Sj1.lp Sj1.pre
  refine Sj0.act (fun O h=>nomatch h) (B ρc u n2 (gE Sj1.nd nd hlt n2 p2) (q.pick p2 hv)) (fun os hold h1 h2 h3 h4=>M0.dOf n2 p2 h1 h2 h3 h4) (ZJ hlv) (fun O h=>nomatch h) (fun r own pg sj2 V hr ho Sj2=>?_) E
  obtain⟨T,b,it,K,l,hb,rfl,hOk,hself,hit⟩:=hr
  exact KK it ρ1 sj2 hp (.mk T b K l own pg ρc hOk hself hit (ZW (Zr Sj1.ltL) hb) n2 p2 (Sj1.rel.step V fun O h=>nomatch h) (fun q hq=>(V.pi q hq).1) (fun q hq=>(V.pi q hq).2.elim (fun hZ2=>by obtain⟨_,h,_⟩:=hZ2;exact nomatch h) fun h=>ZW Sj1.rel.gx.size h) ho Sj2)
inductive pK(c:Cx w κ)(ρ1:LQ)(hp:c.ρ0<+:ρ1)(h:ρ1.length=n₁)(lvl:Nat)(b it:Addr)(ρc:LQ){α:Type}(I:(List SO->Prop)->KL->α->Prop)(Γf:α->G)(n:Nat)(s:Shared):Prop
|mk (K:OP) (l:KL) (a:α) (own:AO) (pg:Gs) (ρ:LQ) (hn:l.length=n) (hi:aE w lvl b it (dOf w ρc K) (dL w ρc l) own pg) (hI:I K l a) (hs:aT c s) (hg:∀q∈pg,s.gens[q.1]?=some q.2) (hg2:∀q∈pg,c.sj0.gens.size<=q.1)
   (ho:∀q∈own,q.1∉aZ c.o.fr/\∀z∈c.hold,q.1≠z.1) (S:ad (c.lp ρ1 hp h own s) (Γf a) ρ s)
theorem jX{prog:Program}{A:Around}{env:Env}{target:Expr}{it:Value}{body orelse:LS}{E:VS}(hE:PassesOwn (model prog w) A env E)(I:Nat->Shared->Prop)(Q:Flow->Shared->Prop)
  (turn:∀n s,I n s->wpAny (model prog w) A (pyNext it) (fun r sj1=>match r with
  |none=>wpAny (model prog w) A (execs orelse env) Q E sj1
  |some v=>wpAny (model prog w) A (letOwnedTupleGo target it v) (fun _ s1'=>wpAny (model prog w) A (assign target env v) (fun _ sj2=>wpAny (model prog w) A (execs body env) (fun f sj3=>match f with
     |.next|.cont=>∃m,m<n/\I m sj3
     |.brk=>Q .next sj3
     |.ret v=>Q (.ret v) sj3) E sj2) E s1') E sj1) E s)
  (n:Nat) {s:Shared} (h:I n s):codeAny (model prog w) A (.forLoop target it body orelse env) (fun r s'=>match r with|.ok f=>Q f s'|.error er=>cameBackBy (model prog w) A env E er s') s:=by
 refine codeAny_forLoop_any I (fun n s hI=>wpAny_passesOwn hE (wpAny_mono (turn n s hI) (fun r sj1 hj1=>?_) fun _ _ x=>x)) n h
 cases r with
|none=>exact wpAny_passesOwn hE hj1
|some v=>exact wpAny_passesOwn hE (wpAny_mono hj1 (fun _ _ h2=>wpAny_passesOwn hE (wpAny_mono h2 (fun _ _ h3=>wpAny_passesOwn hE (wpAny_mono h3 (fun f _ h4=>by cases f <;> exact h4) fun _ _ x=>x)) fun _ _ x=>x)) fun _ _ x=>x)
theorem pK.loop{α:Type}{x:Str}{px:Pos}{body:LS}{b it:Addr}{Q:Flow->Shared->Prop}{E:VS}(I:(List SO->Prop)->KL->α->Prop)(Γf:α->G)(n2:ρc.length=σ.length)(p2:∀j i:Nat,σ[j]?=some i->∃b,ρc[j]?=some b/\ρ1[i]?=some b)(hlv:lvl<=κ.lv)(hb:c.L<=b)
  (meets:∀K l a,I K l a->Meets (Γf a) σ K) (turn:∀(c':Cx w { κ with n:=n₁ }) K z K' l a,I K ((z,K')::l) a->Ex c' ((Γf a).put x (.int z)) body (TP n₁ I Γf K' l P)) (done:∀K a,I K [] a->P .next (Γf a)) (hx:κ.cs.names.lookup x=some .local)
  (hE:PassesOwn (model PR w) c.A c.env E) (KK:∀f fl ρ' Γ' s',P f Γ'->f.Is ρ' fl->ad c Γ' ρ' s'->Q fl s') {n:Nat} (H0:pK c ρ1 hp h lvl b it ρc I Γf n s) :
  codeAny (model PR w) c.A (.forLoop (.Name x px) (.ref it) body [] c.env) (fun r s'=>match r with|.ok f=>Q f s'|.error e=>cameBackBy (model PR w) c.A c.env E e s') s:=by
 obtain⟨J,hJ⟩:∃J:Nat->Shared->Prop,J=pK c ρ1 hp h lvl b it ρc I Γf:=⟨_,rfl⟩
 refine jX hE J Q ?_ n (by refine aa (hJ ..) ?_;exact H0)
 intro n s' h9
 rw[hJ] at h9
 refine gP fun P0 k0=>?_
 obtain⟨K,l,a,own,pg,ρ,hn,hi,hI,hs,hg,hg2,ho,S⟩:=h9
 refine k0 ?_
 have pk:∀j i:Nat,σ[j]?=some i->ρc[j]?=ρ[i]?:=fun j i e=>by
  obtain⟨b,e1,e2⟩:=p2 j i e
  exact aa (e1 ..) (aa (ak S.pre e2 ..) vS)
 cases l with
|nil =>
  refine S.act ho hi (fun os hold h1 h2 h3 h4=>⟨ZW S.above hb,(meets K _ a hI).dOf n2 pk h1 h2 h3 h4⟩) hlv hg (fun r own' pg' s'' V hr ho' S'=>?_) _
  subst hr
  exact wpAny_execs_nil (KK _ _ ρ _ s'' (done K a hI) .next (S'.out (hs.step V hg2)))
|cons q l =>
  obtain⟨z,K'⟩:=q
  refine S.act ho hi (fun os hold h1 h2 h3 h4=>⟨ZW S.above hb,(meets K _ a hI).dOf n2 pk h1 h2 h3 h4⟩) hlv hg (fun r own' pg' s'' V hr ho' S'=>?_) _
  obtain⟨⟨t,rfl⟩,hi'⟩:=hr
  have hs'':=hs.step V hg2
  have hg2':∀q∈pg',c.sj0.gens.size<=q.1:=fun q hq=>(V.pi q hq).2.elim (fun hZ3=>by obtain⟨y,hy,e⟩:=hZ3;exact e▸hg2 y hy) fun h=>ZW hs.gx.size h
  refine wpAny_of_eq (rfl:letOwnedTupleGo (.Name x px) (.ref it) (.int z t)=pure ()) ?_
  refine wpAny_assign_Name (S'.put (.int z t) hx fun h' tk S3=>?_)
  refine turn _ K z K' l a hI ρ _ _ E hE S3 fun f fl ρ4 Γ4 sj4 hPP hF S4=>?_
  have hsj4:aT c sj4:=hs''.step (pg:=[]) (pg':=[]) ⟨by have:=S4.rel.eq;exact this,by have:=S4.rel.gx;exact this,fun O h=>(nomatch h),.nil⟩ fun O h=>nomatch h
  have fin:∀a',I K' l a'->G.Le Γ4 (Γf a')->(Γf a').fit=true->Nat.ble n₁ (Γf a').o.length=true->∃m,m<n/\J m sj4:=fun a' hI' hle hfit hn' =>
   ⟨l.length,by refine aA (hn ..) ?_;exact Nat.lt_succ_self _,by refine aa (hJ ..) ?_;exact .mk K' l a' own' pg' _ rfl hi' hI' hsj4 (fun q hq=>S4.rel.gx.old _ _ (fun O h=>nomatch h) (V.pi q hq).1) hg2' ho' ((S4.weak hle hfit hn').re (S4.weak hle hfit hn').pre)⟩
  cases hPP with
 |next a' h1 hl2 hf2 hf3=>cases hF;exact fin a' h1 hl2 hf2 hf3
 |cont a' h1 hl2 hf2 hf3=>cases hF;exact fin a' h1 hl2 hf2 hf3
 |brk h1=>cases hF;exact KK _ _ ρ4 _ _ h1 .next (S4.out hs'')
 |ret h1=>cases hF with|ret hu=>exact KK _ _ ρ4 _ _ h1 (.ret hu) (S4.out hs'')
theorem bJ.forIt{α:Type}{x:Str}{px pos:Pos}{iter:Expr}{body:LS}{Ok:String->(List SO->Prop)->KL->Prop}(I:(List SO->Prop)->KL->α->Prop)(Γf:α->G)(n₁:Nat)(B:bH c Γ iter lvl σ Ok Γ₁)
  (start:∀T K l,Ok T K l->∃a,I K l a/\G.Le Γ₁ (Γf a)/\(Γf a).fit=true/\Nat.ble n₁ (Γf a).o.length=true) (meets:∀K l a,I K l a->Meets (Γf a) σ K)
  (turn:∀(c':Cx w { κ with n:=n₁ }) K z K' l a,I K ((z,K')::l) a->Ex c' ((Γf a).put x (.int z)) body (TP n₁ I Γf K' l P)) (done:∀K a,I K [] a->P .next (Γf a))
  (hσ:(σ.all fun i=>Nat.blt i n₁)=true:=by exact vT) (hn0:Nat.ble κ.n n₁=true:=by exact vT) (hn1:Nat.ble n₁ Γ₁.o.length=true:=by exact vT) (hlv:Nat.ble lvl κ.lv=true:=by exact vT)
  (hx:κ.cs.names.lookup x=some .local:=by exact vS) (hs:∀env (v:Value),foldedSetIterable iter env v=pure v:=by intros;rfl):bJ c Γ (.For (.Name x px) iter body [] pos) P:=fun ρ s Q E hE S KK =>
 wpAny_For (B ρ s _ E S fun it ρ1 sj2 hp IH=>by
  cases IH with|mk T b K l own pg ρc hOk hself hit hb n2 p2 hsr hg hg2 ho Sj2 =>
  have hl:=Sj2.len
  have g1:=ZJ hn0
  have g2:=ZJ hn1
  have hlen:(ρ1.take n₁).length=n₁:=by refine aa (Zv ..) ?_;exact(aJ [.e .a .b,.m .c .b,.I .d .c .a] (.e .d .c)) hl g2 (iX _ _)
  have hpp:c.ρ0<+:ρ1.take n₁:=List.prefix_take_iff.mpr ⟨Sj2.pre,by refine aa (c.len ..) ?_;exact g1⟩
  have p3:∀j i:Nat,σ[j]?=some i->∃b,ρc[j]?=some b/\(ρ1.take n₁)[i]?=some b:=fun j i e=>by
   have h1:i<n₁:=by simpa [Nat.blt_eq] using Zp.mp hσ i (ZQ e)
   have h2:ρ1[i]?=some (ρ1[i]'(by exact(aJ [.e .a .b,.m .c .b,.l .d .c] (.l .d .a)) hl g2 h1)):=ZA _
   exact⟨_,(p2 j i e).trans h2,by refine aa (Zy ..) (aa (if_pos h1 ..) ?_);exact h2⟩
  obtain⟨a,hI,hle,hf,hn⟩:=start T K l hOk
  have S3:ad (c.lp (ρ1.take n₁) hpp hlen own sj2) Γ₁ ρ1 sj2:=Sj2.re (List.take_prefix _ _)
  exact pK.loop I Γf n2 p3 (ZJ hlv) hb meets turn done hx hE (fun f fl ρ' Γ' s'=>KK f fl ρ' Γ' s') (.mk K l a own pg _ rfl hit hI hsr hg hg2 ho (S3.weak hle hf hn))) (hs _)
end
example:True:=by w_top off;trivial
section
variable{w:World}{o:On w}{s:Shared}{hold own:AO}{I:Addr}{x x':Obj}{h':Heap}{tk:Nat}
theorem Mv.still{s':Shared}(e:s'={ s with heap:=s'.heap,drawn:=s'.drawn,toks:=s'.toks }):Mv o [] [] hold hold s s':=⟨by exact aa (e ..) rfl,by refine aa (e ..) ?_;exact .refl _ _,fun O h=>(nomatch h),.refl _⟩
theorem At.drop(A:At o ((I,x)::own) hold s)(hne:∀q∈own,q.1≠I)(hk:Heap.ExtBut I s.heap h'):At o own hold { s with heap:=h',toks:=tk }:=by
 have hI:=A.ft (I,x) (.head _)
 refine⟨A.fr,fun b y e=>hk b y (fun e2=>by rw[e2,hI.2] at e;exact nomatch e) (A.st b y e),A.top,fun q hq=>⟨hk _ _ ?_ (A.ft q (.tail _ hq)).1,(A.ft q (.tail _ hq)).2⟩,fun q hq=>A.ap q (.tail _ hq)⟩
 exact(ZS.mp hq).elim (hne q) fun h e=>A.ap (I,x) (.head _) q h e.symm
theorem At.upd(A:At o ((I,x)::own) hold s)(hne:∀q∈own,q.1≠I)(hk:Heap.ExtBut I s.heap h')(e:h'.get? I=some x'):At o ((I,x')::own) hold { s with heap:=h',toks:=tk }:=by
 have A':=A.drop (tk:=tk) hne hk
 refine⟨A'.fr,A'.st,A'.top,fun q hq=>?_,fun q hq=>?_⟩
 ·rcases ZT.mp hq with rfl|hq
  ·exact⟨e,(A.ft (I,x) (.head _)).2⟩
  ·exact A'.ft q hq
 ·rcases ZT.mp hq with rfl|hq
  ·exact A.ap (I,x) (.head _)
  ·exact A'.ap q hq
theorem At.push(A:At o own hold s)(x:Obj)(hx:x.isFreed=false:=by exact vF):At o ((s.heap.objs.size,x)::own) hold { s with heap:=s.heap.push x,toks:=tk }/\∀q∈own++hold,q.1<s.heap.objs.size:=by
 have lt:∀q∈own++hold,q.1<s.heap.objs.size:=fun q hq=>Zg (A.ft q hq).1
 refine⟨⟨A.fr,fun b y e=>ZR _ (A.st b y e),A.top,fun q hq=>?_,fun q hq z hz=>?_⟩,lt⟩
 ·rcases ZT.mp hq with rfl|hq
  ·exact⟨Zu _ hx,Zs A.sz⟩
  ·exact⟨ZR _ (A.ft q hq).1,(A.ft q hq).2⟩
 ·rcases ZT.mp hq with rfl|hq
  ·exact Nat.ne_of_gt (lt z (ZC _ hz))
  ·exact A.ap q hq z hz
theorem At.sub{own':AO}(A:At o own hold s)(h:∀q∈own',q∈own):At o own' hold s:=⟨A.fr,A.st,A.top,fun q hq=>A.ft q ((ZS.mp hq).elim (fun h'=>ZD _ (h q h')) (ZC _)),fun q hq=>A.ap q (h q hq)⟩
end
noncomputable abbrev lC(a n st:Int):Obj:={ cls:=.type "range_iterator",dict:=none,data:=.fields #[rawInt a,rawInt n,rawInt st],slots:=#[] }
noncomputable def cw(st:Int):Nat->Int->List Int
|0,_=>[]
|n+1,a=>a::cw st n (a+st)
theorem iM(w:World)(I:Addr)(a st:Int):bI w 0 (fu w I) [(I,lC a ((0:Nat):Int) st)] [] (fun O O=>True) (fun O r own' pg'=>r=none/\own'=[]/\pg'=[]) :=
 fun o hold s Q O A O O k E=>wpAny_pyNext_range_end rfl (A.ft _ (.head _)).1 (Int.le_refl _) fun h' hk=>k none [] [] hold _ (.still rfl) (A.drop (tk:=s.toks) (fun O h=>nomatch h) hk) ⟨rfl,rfl,rfl⟩
theorem gg(w:World)(I:Addr)(a st:Int)(n:Nat):bI w 0 (fu w I) [(I,lC a ((n+1:Nat):Int) st)] [] (fun O O=>True) (fun O r own' pg'=>(∃t,r=some (.int a t))/\own'=[(I,lC (a+st) n st)]/\pg'=[]):=by
 intro o hold s Q _ A _ _ k E
 refine wpAny_pyNext_range_item (A.ft _ (.head _)).1 (by exact(ai [] (.L .o (.t (.p .a .u))))) fun h' hit hs=>?_
 rw[show (((n+1:Nat):Int)-1)=(n:Int) by exact(ai [] (.E (.s (.t (.p .a .u)) .u) (.t .a)))] at hit
 exact k _ _ [] hold _ (.still rfl) (A.upd (fun O h=>nomatch h) hs.extBut hit) ⟨⟨_,vS⟩,rfl,rfl⟩
theorem bI.imp{w:World}{α:Type}{lvl:Nat}{X:Around->(α->Shared->Prop)->Shared->Prop}{foot:AO}{pg:Gs}{D D':Nat->AO->Prop}{Post Post':Nat->α->AO->Gs->Prop}(C:bI w lvl X foot pg D Post)(hD:∀n h,D' n h->D n h)(hP:∀n r f p,Post n r f p->Post' n r f p):bI w lvl X foot pg D' Post' :=
 fun o hold s Q hf A hpg hDD k=>C o hold s Q hf A hpg (hD _ _ hDD) fun r foot' pg' hold' s' V A' h=>k r foot' pg' hold' s' V A' (hP _ _ _ _ h)
theorem rT(w:World)(b I:Addr)(D:DC)(st:Int)(n:Nat):∀a:Int,aE w 0 b I D ((cw st n a).map fun z=>(z,D)) [(I,lC a n st)] []:=by
 induction n with
|zero=>exact fun a=>aE.nil ((iM w I a st).imp (fun O O O=>trivial) fun O O O O h=>h.1)
|succ n ih=>exact fun a=>aE.cons (l:=(cw st n (a+st)).map fun z=>(z,D)) ((gg w I a st n).imp (fun O O O=>trivial) fun O r own' pg' h=>⟨h.1,by refine aa (h.2.1 ..) (aa (h.2.2 ..) ?_);exact ih (a+st)⟩)
theorem nJ(w:World)(I:Addr)(a n st:Int):bt w "range_iterator" I [(I,lC a n st)] where
 ty:=⟨_,PySem.F.slot_range_iterator_next.lookup⟩
 is:=fun s h=>⟨_,h _ (.head _),rfl⟩
 self:=fun O s O O h k=>by
  have h1:s.heap.get? I=some (lC a n st):=h (I,lC a n st) (.head _)
  exact wpAny_pyIter_rangeiter (x:=a) (left:=n) (step:=st) h1 k
noncomputable abbrev rY(l:Addr)(i:Int):Obj:={ cls:=.type "list_iterator",data:=.fields #[.ref l,.int i 0] }
def tR(o:Obj)(l:Addr)(i:Nat):Prop:=o.cls=.type "list_iterator"/\o.data=.fields #[.ref l,.int i 0]
theorem oa(w:World){I l:Addr}{o:Obj}{i:Nat}(h:tR o l i):bt w "list_iterator" I [(I,o)] where
 ty:=⟨_,slot_listiter_next.lookup⟩
 is:=fun s hh=>⟨o,hh (I,o) (.head _),h.1⟩
 self:=fun O O O O hh k=>wpAny_pyIter_listiter (l:=l) (i:=i) ⟨o,hh (I,o) (.head _),h.1,h.2⟩ k
def KT(p N i:Nat)(tl:LI)(l:LO):Prop:=∃bs,l[p]?=some (.nums bs)/\bs.length=N/\bs.drop i=tl
noncomputable def oy(p N:Nat):Nat->List Int->KL
|_,[]=>[]
|i,c::tl=>(c,KT p N (i+1) tl)::oy p N (i+1) tl
theorem dOf.at{w:World}{ρ:LQ}{K:OP}{hold:AO}(h:dOf w ρ K hold):∃l,K l/\∀(i:Nat) so b,l[i]?=some so->ρ[i]?=some b->∃o,so.Is w ρ o/\(b,o)∈hold:=by
 obtain⟨l,os,hK,e1,e2,ho,hm⟩:=h
 refine⟨l,hK,fun i so b h1 h2=>?_⟩
 have h3:=(ZB.mp h1).1
 have h4:os[i]?=some (os[i]'(by exact Za ‹_› ‹_›)):=ZA _
 exact⟨_,ho i so _ h1 h4,hm _ (au h2 h4)⟩
theorem rq{w:World}{ρ:LQ}{p N i:Nat}{b:Addr}{tl:LI}{hold:AO}(h:dOf w ρ (KT p N i tl) hold)(hb:ρ[p]?=some b):∃vs n bs,(b,listOf vs.toArray n)∈hold/\IntsAre vs bs/\bs.length=N/\bs.drop i=tl:=by
 obtain⟨l,⟨bs,h0,h1,h2⟩,hl⟩:=h.at
 obtain⟨o,hi,hm⟩:=hl p _ b h0 hb
 obtain⟨_,_,rfl,hI⟩:=hi.numsI;exact⟨_,_,bs,hm,hI,h1,h2⟩
theorem oh(w:World)(bd I b:Addr)(ρ:LQ)(p:Nat)(hb:ρ[p]?=some b)(N:Nat)(tl:LI):∀(i:Nat) (o:Obj),i+tl.length=N->tR o b i->aE w 0 bd I (dOf w ρ (KT p N i tl)) (dL w ρ (oy p N i tl)) [(I,o)] []:=by
 induction tl with
|nil =>
  intro i o hN ho
  refine aE.nil ?_
  intro on hold s Q _ A _ hD k E
  obtain⟨vs,n,bs,hm,hI,h1,h2⟩:=rq hD.2 hb
  have hb:=A.ft _ (ZC _ (ag.mp hm).1)
  refine wpAny_pyNext_list_end rfl ⟨o,(A.ft (I,o) (.head _)).1,ho.1,ho.2⟩ (aK hb.1) (by have:=hI.length;simp at hN ⊢;exact(aJ [.e .a .b,.e .c .b,.e .d .c] (.m .d .a)) hN h1 this) fun h' hk=>?_
  exact k none [] [] hold _ (.still rfl) (A.drop (tk:=s.toks) (fun O h=>nomatch h) hk) rfl
|cons c tl ih =>
  intro i o hN ho
  show aE w 0 bd I _ ((c,dOf w ρ (KT p N (i+1) tl))::dL w ρ (oy p N (i+1) tl)) _ _
  refine aE.cons ?_
  intro on hold s Q _ A _ hD k E
  obtain⟨vs,n,bs,hm,hI,h1,h2⟩:=rq hD.2 hb
  have hb:=A.ft _ (ZC _ (ag.mp hm).1)
  rw[List.length_cons] at hN
  have hlt:i<bs.length:=by exact(aJ [.e (.p .a (.p .b .u)) .c,.e .d .c] (.l .a .d)) hN h1
  have hc:bs[i]?=some c:=by
   rw[Zj hlt] at h2
   injection h2 with h3 h4
   exact aa (ZA hlt ..) (aa (h3 ..) vS)
  obtain⟨t,e⟩:=hI.get i c hc
  refine wpAny_pyNext_list_item ⟨o,(A.ft (I,o) (.head _)).1,ho.1,ho.2⟩ (aK hb.1) (x:=.int c t) (by simpa using e) fun h' hit hs=>?_
  obtain⟨o',ho',hc',hd'⟩:=hit
  exact k _ [(I,o')] [] hold _ (.still rfl) (A.upd (fun O h=>nomatch h) hs.extBut ho') ⟨⟨t,vS⟩,ih (i+1) o' (by exact(av [.e (.p .a (.p .b .u)) .c] (.e (.p (.p .a .u) .b) .c)) hN) ⟨hc',hd'⟩⟩
def sK(p:Nat)(cs:LI)(T:String)(K:OP)(l:KL):Prop:=T="list_iterator"/\K=KT p cs.length 0 cs/\l=oy p cs.length 0 cs
set_option tactic.hygienic true in
theorem bC(w:World)(cs:LI)(p n:Nat)(hp:p<n){K₀:OP}(hK:∀l,K₀ l->l[p]?=some (.nums cs)):pJ w 0 (.ref p) n K₀ (sK p cs):=by
 intro ρ u hl nd hu on hold s Q _ A _ hD k E
 replace hu:=hu.refI;obtain⟨_,rfl,hu⟩:=hu
 rename_i b
 obtain⟨l,hK0,hat⟩:=hD.at
 obtain⟨o,hi,hm⟩:=hat p _ b (hK l hK0) hu
 obtain⟨_,_,rfl,hI⟩:=hi.numsI
 have hLI:tR (rY b 0) b 0:=⟨rfl,rfl⟩
 exact wpAny_pyIter_list (aK (A.ft _ (ZC _ (ag.mp hm).1)).1) (k _ [(s.heap.objs.size,rY b 0)] [] hold _ (.still rfl) (A.push (tk:=s.toks) (rY b 0)).1 ⟨_,_,_,_,_,ZZ _,rfl,⟨rfl,rfl,rfl⟩,oa w hLI,oh w _ _ b ρ p hu cs.length cs 0 _ (Nat.zero_add _) hLI⟩)
example:True:=by w_top off;trivial
theorem lD{b:Int}{n:Nat}(hb:b=n)(hn:n<=1000):Builtin.Range.small 0 b 1=true/\Builtin.Range.rangeSize 0 b 1=(n:Int):=by
 subst hb
 have e:Builtin.Range.rangeSize 0 (n:Int) 1=(n:Int):=by
  unfold Builtin.Range.rangeSize
  by_cases h:(0:Int)<n
  ·refine aa (if_pos (by decide) ..) (aa (if_pos h ..) ?_);exact(aR [.W 1 .A (.s (.s (.t .a) .o) .u)] (.E (.p .A .u) (.t .a))) (aM 1)
  ·refine aa (if_pos (by decide) ..) (aa (if_neg h ..) ?_);exact(ai [.x (.L .o (.t .a))] (.E .o (.t .a))) h
 refine⟨?_,e⟩
 unfold Builtin.Range.small
 refine aa (e ..) ?_
 simp[Builtin.Range.rangeFitsLong]
 exact(ai [.m .a .q] (.d (.L (.t .a) .i) (.o (.e .a .o) (.L (.t .a) .i)))) hn
def uq(st:Int)(n:Nat)(a:Int)(_:String)(K:OP)(l:KL):Prop:=K=(fun O=>True)/\l=(cw st n a).map fun z=>(z,fun O=>True)
section
variable{w:World}{κ:CK}{c:Cx w κ}{Γ Γ₁ Γ2 Γ3 Γ4:G}{ρ:LQ}{s:Shared}{P:SF->G->Prop}
structure pH(c:Cx w κ)(a st:Int)(n:Nat)(Γ:G)(ρ:LQ)(J:Addr)(s:Shared):Prop where
 hs:aT c s
 ho:J∉aZ c.o.fr/\∀z∈c.hold,J≠z.1
 S:ad (c.lp c.ρ0 (ZN _) c.len [(J,lC a n st)] s) Γ ρ s
noncomputable def m8(c:Cx w κ)(Γ:G)(e:Expr)(a st:Int)(n:Nat)(Γ₁:G):Prop :=
 ∀ρ s (Q:VS) (E:VS),ad c Γ ρ s->(∀it ρ' s',ρ<+:ρ'->pH c a st n Γ₁ ρ' it s'->Q (.ref it) s')->wpAny (model PR w) c.A (eval e c.env) (fun u sj1=>wpAny (model PR w) c.A (pyIter u) Q E sj1) E s
theorem ad.itR(S:ad c Γ ρ s){e:Expr}{a st:Int}{n:Nat}{Q:VS}{E:VS}(B:m8 c Γ e a st n Γ₁)(K:∀it ρ' s',ρ<+:ρ'->pH c a st n Γ₁ ρ' it s'->Q (.ref it) s'):wpAny (model PR w) c.A (eval e c.env) (fun u sj1=>wpAny (model PR w) c.A (pyIter u) Q E sj1) E s:=B ρ s Q E S K
theorem bH.ofR{e:Expr}{a st:Int}{n:Nat}(h:m8 c Γ e a st n Γ₁):bH c Γ e 0 [] (uq st n a) Γ₁:=fun ρ s Q E S KK=>h ρ s Q E S fun it ρ' s' hp R=>by
 have e:dL w [] ((cw st n a).map fun z=>(z,fun O=>True))=(cw st n a).map fun z=>(z,dOf w [] fun O=>True):=List.map_map
 exact KK it ρ' s' hp (.mk _ c.L (fun O=>True) _ [(it,lC a n st)] [] [] ⟨rfl,rfl⟩ (nJ w _ a n st) (by refine aa (e ..) ?_;exact rT w _ _ _ st n a) (ZZ _) rfl (fun j i h=>nomatch h) R.hs (fun O h=>nomatch h) (fun O h=>nomatch h) (fun q hq=>by refine aa (ZP.mp hq ..) ?_;exact R.ho) R.S)
theorem ad.rng{m:OV}{os:List Obj}{H:AO}{r:Addr}{a b st:Int}{t u v:Tok}{n:Nat}{Q E:VS}(F:Fr c.o.g c.L s.heap m)(N:News c.o.g c.L s.heap (aS ρ os H))(hm:cY Γ.m ρ m)(LY:eK c Γ.o ρ os H)(hs:aT c s)
  (hR:IsRange s.heap r a b st t u v) (h1:Builtin.Range.small a b st=true) (h2:Builtin.Range.rangeSize a b st=(n:Int)) (K:∀it s',pH c a st n Γ ρ it s'->Q (.ref it) s'):wpAny (model PR w) c.A (pyIter (.ref r)) Q E s:=by
 refine wpAny_pyIter_range hR h1 ?_
 refine aa (h2 ..) ?_
 have N':=News.push F N (lC a n st) rfl
 have hI:=(N' _ (.head _)).1
 have lt:∀q∈aS ρ os H,q.1≠s.heap.objs.size:=fun q hq=>Zb (Zg (N q hq).1)
 have ltH:∀q∈c.hold,s.heap.objs.size≠q.1:=fun q hq e=>by
  obtain⟨sl,h5⟩:=LY.kp.mem (z:=q.1) (o:=q.2) hq
  exact lt _ (ZC _ h5) e.symm
 refine K _ _ ⟨⟨by have:=hs.eq;exact aa (this ..) rfl,hs.gx⟩,⟨fun hf=>?_,ltH⟩,.mk m os ((s.heap.objs.size,lC a n st)::H) (F.push _) (fun q hq=>N' q ?_) hm ⟨LY.hl,LY.hg,LY.ho,LY.nd,LY.pre,fun q hq hmm=>?_,LY.kp.app [(s.heap.objs.size,lC a n st)],LY.sh⟩ ⟨rfl,aN.refl _ _⟩⟩
 ·obtain⟨e,he,he2⟩:=List.mem_filterMap.mp hf
  obtain⟨_,L',h3,h4⟩:=c.hfr e he
  rw[he2] at h3;obtain rfl:=ZK h3
  rcases h4 with h4|⟨o,h4,_⟩
  ·exact absurd F.ns.lt (h4▸Nat.lt_irrefl _)
  ·exact ltH _ h4 rfl
 ·rcases ZS.mp hq with hq|hq
  ·exact .tail _ (ZD _ hq)
  ·rcases ZT.mp hq with rfl|hq
   ·exact .head _
   ·exact .tail _ (ZC _ hq)
 ·rcases ZT.mp hq with rfl|hq
  ·obtain⟨j,hj,e⟩:=ZF.mp (List.mem_of_mem_drop hmm)
   exact lt _ (ZD _ (au (ρ:=ρ) (os:=os) (ZA hj) (ZA (h:=LY.hl▸hj)))) e
  ·exact LY.ap q hq hmm
theorem m8.range1{f:Str}{fp pos:Pos}{e:Expr}{n:Nat}(hf:Ev c Γ (.Name f fp) (.val (.type "range")) Γ)(he:Ev c Γ e (.int n) Γ₁)(hn:n<=1000)(hst:∀env,starEach [e] env=(false,eval e env)::starEach [] env:=by intros;rfl) :
  m8 c Γ (.Call (.Name f fp) [e] [] pos) 0 1 n Γ₁:=fun ρ s Q E S KK =>
 Call_ (hf ρ s _ E S fun u ρ1 sj1 hp1 q1 Sj1=>by
  obtain rfl:=q1.valI
  refine PySem.Pv.callWith_type1 (args_cons (he ρ1 sj1 _ E Sj1 fun u2 ρ₂ sj2 hp2 q2 Sj2=>args_nil ?_) (hst _)) (hst _) rfl
  obtain⟨_,rfl⟩:=q2.intI
  obtain⟨m,os,H,F,N,hm,LY,hs⟩:=Sj2
  refine range1_rows F N fun h' tk tj1 uj1 v1 hR F' N' O=>?_
  obtain⟨r1,r2⟩:=lD (b:=(n:Int)) rfl hn
  exact ad.rng (s:={ sj2 with heap:=h',toks:=tk }) F' N' hm LY (hs.heap h' tk) hR r1 r2 fun it s' h=>KK it ρ₂ s' (hp1.trans hp2) h)
theorem m8.range3{f:Str}{fp pos:Pos}{e e2 e3:Expr}{a b st:Int}{n:Nat}(hf:Ev c Γ (.Name f fp) (.val (.type "range")) Γ)(ha:jn c Γ [e,e2,e3] [.int a,.int b,.int st] Γ₁)(h0:st≠0)(h1:Builtin.Range.small a b st=true)(h2:Builtin.Range.rangeSize a b st=(n:Int))(hpl:Builtin.divisionGoesByPylong (b-a) st=false)
  (hst:∀env,starEach [e,e2,e3] env=(false,eval e env)::starEach [e2,e3] env:=by intros;rfl) (hp:∀env,(backTo pos (starEach [e2,e3] env)).any (·.1)=false:=by intros;rfl) :
  m8 c Γ (.Call (.Name f fp) [e,e2,e3] [] pos) a st n Γ₁:=fun ρ s Q E S KK =>
 Call_ (hf ρ s _ E S fun u ρ1 sj1 hp1 q1 Sj1=>by
  obtain rfl:=q1.valI
  refine PySem.Pv.callWith_type1 (ha pos ρ1 sj1 _ E Sj1 fun us ρ₂ sj2 hp2 q2 Sj2=>?_) (hst _) (hp _)
  replace q2:=q2.consI;obtain⟨_,_,rfl,x,q2⟩:=q2
  replace q2:=q2.consI;obtain⟨_,_,rfl,y,q2⟩:=q2
  replace q2:=q2.consI;obtain⟨_,_,rfl,z,q2⟩:=q2
  obtain rfl:=q2.nilI;obtain⟨_,rfl⟩:=x.intI;obtain⟨_,rfl⟩:=y.intI;obtain⟨_,rfl⟩:=z.intI
  obtain⟨m,os,H,F,N,hm,LY,hs⟩:=Sj2
  exact range3_rows F N h0 (fun h' tk tj1 uj1 v1 hR F' N' O=>ad.rng (s:={ sj2 with heap:=h',toks:=tk }) F' N' hm LY (hs.heap h' tk) hR h1 h2 fun it s' h=>KK it ρ₂ s' (hp1.trans hp2) h) (.inl hpl))
inductive FP(n₁:Nat){α:Type}(I:Nat->α->Prop)(Γf:Nat->α->G)(i:Nat)(P:SF->G->Prop):SF->G->Prop
|next {Γ':G} (a:α) (h:I (i+1) a) (hl:G.Le Γ' (Γf (i+1) a)) (hf:(Γf (i+1) a).fit=true) (hn:Nat.ble n₁ (Γf (i+1) a).o.length=true):FP n₁ I Γf i P .next Γ'
|cont {Γ':G} (a:α) (h:I (i+1) a) (hl:G.Le Γ' (Γf (i+1) a)) (hf:(Γf (i+1) a).fit=true) (hn:Nat.ble n₁ (Γf (i+1) a).o.length=true):FP n₁ I Γf i P .cont Γ'
|brk {Γ':G} (h:P .next Γ'):FP n₁ I Γf i P .brk Γ'
|ret {Γ':G} {v:SV} (h:P (.ret v) Γ'):FP n₁ I Γf i P (.ret v) Γ'
theorem bJ.forRange{α:Type}{x:Str}{px pos:Pos}{iter:Expr}{body:LS}{st aj0:Int}{n:Nat}(I:Nat->α->Prop)(Γf:Nat->α->G)(bj0:α)(n₁:Nat)(B:m8 c Γ iter aj0 st n Γ₁)(h0:I 0 bj0)(hle:G.Le Γ₁ (Γf 0 bj0))(hft:(Γf 0 bj0).fit=true)(hnn:Nat.ble n₁ (Γf 0 bj0).o.length=true)
  (turn:∀(c':Cx w { κ with n:=n₁ }) (i:Nat) a,i<n->I i a->Ex c' ((Γf i a).put x (.int (aj0+st*i))) body (FP n₁ I Γf i P)) (done:∀a,I n a->P .next (Γf n a)) (hn0:Nat.ble κ.n n₁=true:=by exact vT) (hn1:Nat.ble n₁ Γ₁.o.length=true:=by exact vT)
  (hx:κ.cs.names.lookup x=some .local:=by exact vS) (hs:∀env (v:Value),foldedSetIterable iter env v=pure v:=by intros;rfl):bJ c Γ (.For (.Name x px) iter body [] pos) P:=by
 refine .forIt (α:=Nat×α) (fun K l p=>K []/\p.1<=n/\l=(cw st (n-p.1) (aj0+st*p.1)).map (fun z=>(z,fun O=>True))/\I p.1 p.2) (fun p=>Γf p.1 p.2) n₁ (.ofR B) ?_ (fun K l a h=>⟨[],.nil,vT,h.1⟩) ?_ ?_ vT hn0 hn1 (Nat.ble_eq.mpr (Zf _)) hx hs
 ·rintro T K l ⟨rfl,rfl⟩
  exact⟨(0,bj0),⟨trivial,Zf _,by show _=List.map _ (cw st (n-0) (aj0+st*((0:Nat):Int)));refine aa (Nat.sub_zero ..) ?_;simp,h0⟩,hle,hft,hnn⟩
 ·rintro c' K z K' l ⟨i,a⟩ ⟨_,h1,h2,h3⟩
  dsimp only at h1 h2 h3
  obtain⟨m,hm⟩:∃m,n-i=m+1:=by
   cases hq:n-i with
  |zero=>rw[hq] at h2;exact nomatch h2
  |succ m=>exact⟨m,rfl⟩
  rw[hm] at h2
  injection h2 with h4 h5
  injection h4 with h6 h7
  subst h6;subst h7;subst h5
  have fin:∀a',I (i+1) a'->(fun O=>True:OP) []/\(i+1,a').1<=n/\((cw st m (aj0+st*i+st)).map fun z=>(z,(fun O=>True:OP)))=(cw st (n-(i+1,a').1) (aj0+st*((i+1,a').1:Nat))).map (fun z=>(z,fun O=>True))/\I (i+1,a').1 (i+1,a').2:=fun a' h =>
   ⟨trivial,by show i+1<=n;exact(aJ [.e .c (.p .d .u),.S .c .b .a] (.m (.p .a .u) .b)) hm (bc _ _),by show _=List.map _ (cw st (n-(i+1)) (aj0+st*((i+1:Nat):Int)));rw[nS ‹_›,show aj0+st*i+st=aj0+st*((i+1:Nat):Int) by rw[Int.natCast_add,Int.mul_add];lia],h⟩
  refine(turn c' i a (by exact(aJ [.e .c (.p .d .u),.S .c .b .a] (.l .a .b)) hm (bc _ _)) h3).mono fun f Γ' hP=>?_
  cases hP with
 |next a' h hl hf hn=>exact .next (i+1,a') (fin a' h) hl hf hn
 |cont a' h hl hf hn=>exact .cont (i+1,a') (fin a' h) hl hf hn
 |brk h=>exact .brk h
 |ret h=>exact .ret h
 ·rintro K ⟨i,a⟩ ⟨_,h1,h2,h3⟩
  dsimp only at h1 h2 h3
  have:n-i=0:=by
   cases hq:n-i with
  |zero=>rfl
  |succ m=>rw[hq] at h2;exact nomatch h2
  obtain rfl:i=n:=by exact(av [.m .a .b,.e .c .o,.S .c .b .a] (.e .a .b)) h1 this (bc _ _)
  exact done a h3
end
example:True:=by w_top off;trivial
noncomputable def tN(bs:LI):Nat->Nat
|0=>0
|n+1=>if bs.getD n 0=0 then tN bs n else n+1
noncomputable def b8(bs:LI):List Int:=bs.take (tN bs bs.length)
theorem oV(w:World)(bs:LI)(hlen:bs.length<=3):az w 1 396 (ba bs) [.ref 0] [] (ch (.val .none) (ba (b8 bs))):=by
 refine' ao ["self"] ?ho ?hcd ?hb ?hx ?nd ?hl ?H ?c1 ?c2 ?c3 ?c4
 k_extra "cx"
 intro c
 refine .cons (.assign (.attr (.name vS) vS vS vS (aD w) af) (.cons (.assign (.iop (.len (.attr (.name vS) vS vS vS (aD w) af) vS (by exact ZX ‹_› (by decide))) .intE .sub) (.cons (.loop (fun a:Int=>-1<=a/\a<bs.length/\tN bs (a+1).toNat=tN bs bs.length) (fun a=>⟨[("last",.int a),("bits",.ref 2),("self",.ref 0)],ba bs⟩) (fun a=>(a+1).toNat) (fun a=>0<=a/\¬(bs.getD a.toNat 0≠0)/\True) _ ⟨by exact(ai [] (.M (.j .u) (.s (.t .a) .u))),by exact(ai [] (.L (.s (.t .a) .u) (.t .a))),?_⟩
  ⟨.cons vS (.cons vS (.cons vS .nil)),.same⟩ vT vT ?_)))))
 ·exact aa (show ((bs.length:Int)-1+1).toNat=bs.length by exact(ah [.T .a (.p (.s (.t .b) .u) .u)] (.e .a .b)) (bz _)) rfl
 rintro a ⟨a1,a2,a3⟩
 refine⟨.and (.icmp (.name vS) .intE .ge) fun h=>.and (.not (.plain (.item (.name vS) (.name vS) vS h a2 (by exact(aR [.m .a .w,.L .A (.t .a)] (.L .A .i)) hlen a2)) .int)) fun O=>.and_nil,fun ⟨h1,h2,_⟩=>.cons (.aug vS .intE .sub (.nil (.next (a-1) ⟨by lia,by exact(aR [.L .A (.t .a)] (.L (.s .A .u) (.t .a))) a2,?_⟩ (by lia) ⟨.cons vS (.cons vS (.cons vS .nil)),.same⟩ vT vT))),fun h=>.cons (.delFrom (.attr (.name vS) vS vS vS (aD w) af) (.iop (.name vS) .intE .add) vS (by exact(aO [.M (.j .u) .A] (.M .o (.p .A .u))) a1) ‹_› (by exact ZW ‹_› (by decide)) (.nil (.next _ ⟨rfl,?_⟩ .same vT)))⟩
 ·refine aA (a3 ..) (aa (show (a+1).toNat=(a-1+1).toNat+1 by lia) ?_)
  show _=if bs.getD (a-1+1).toNat 0=0 then _ else _
  rw[if_pos (by rw[show (a-1+1).toNat=a.toNat by exact(c8 [.T .a (.p (.s .A .u) .u),.T .b .A] (.e .a .b)) (bz _) (bz _)];exact Decidable.not_not.mp h2)]
 ·have e:tN bs bs.length=(a+1).toNat:=by
   refine aA (a3 ..) ?_
   rcases Int.lt_or_le a 0 with q|q
   ·refine aa (show (a+1).toNat=0 by exact(aR [.L .A .o,.T .a (.p .A .u)] (.e .a .o)) q (bz _)) ?_;rfl
   ·refine aa (show (a+1).toNat=a.toNat+1 by exact(c8 [.M .o .A,.T .a (.p .A .u),.T .b .A] (.e .a (.p .b .u))) q (bz _) (bz _)) ?_
    exact if_neg fun z=>h ⟨q,fun k=>k z,trivial⟩
  show ba (bs.take _)=ba (bs.take _)
  exact aa (e ..) rfl
theorem bA(w:World):nsIn (hd.heap_1 w.params) mainGlobals "xrange"=some (some (.type "range")):=by k_is
theorem lf(bs:LI)(i:Nat)(hi:i<bs.length):(List.replicate i 0++bs.drop i).set i 0=List.replicate (i+1) 0++bs.drop (i+1):=by
 refine aa (List.set_append_right _ _ (by simp) ..) ?_
 simp only[List.length_replicate,Nat.sub_self]
 refine aa (Zj hi ..) (aa (List.set_cons_zero ..) (aa (List.replicate_succ' ..) (aa (List.append_assoc ..) ?_)))
 rfl
theorem ua{i:Nat}:(0:Int)+1*(i:Int)=i:=by exact(ai [] (.E (.p .o (.k 1 (.t .a))) (.t .a)))
theorem qY(w:World)(bs:LI)(hlen:bs.length<=3):az w 1 441 (ba bs) [.ref 0] [] (ch (.val .none) (ba (List.replicate bs.length 0))):=by
 refine' ao ["self"] ?ho ?hcd ?hb ?hx ?nd ?hl ?H ?c1 ?c2 ?c3 ?c4
 k_extra "cx"
 intro c
 refine .cons (.forRange (fun _ (_:Unit)=>True) (fun i O=>⟨[("self",.ref 0)],ba (List.replicate i 0++bs.drop i)⟩) () 3 (.range1 (.glob (bA w)) (.len (.attr (.name vS) vS vS vS (aD w) af) vS (by exact ZX ‹_› (by decide))) (by exact ZW ‹_› (by decide))) trivial ⟨.same,.same⟩ vT vT (fun c' i O hi O=>?_) fun O O=>.nil (.next _ ⟨rfl,?_⟩ .same vT))
 ·refine aa (ua ..) ?_
  exact .cons (.setItem .intE (.attr (.name vS) vS vS vS (aD w) af) (.name vS) vS (by exact(ai [] (.M .o (.t .a)))) (by simp;exact(av [.l .a .b,.S .c .b .a] (.L (.t .a) (.p (.t .a) (.t .c)))) hi (bc _ _)) (by exact(ah [.m .a .w,.l .b .a] (.L (.t .b) .i)) hlen hi) (.nil (.next () trivial ⟨.cons vS .nil,by refine aA (lf bs i hi ..) ?_;exact .same⟩ vT vT)))
 ·simp
noncomputable def iC(bs:LI)(i:Int):List Int:=bs.set (bs.length-1) (Builtin.bitAnd (bs.getD (bs.length-1) 0) (2^(i-((bs.length:Int)-1)*8).toNat-1))
theorem cZ.pow2{w:World}{n:Int}(h0:0<=n)(h1:n<=1000):cZ w .Pow 2 n (2^n.toNat):=fun O O O O O O h=>pow_int_small h0 (by exact Int.le_trans ‹_› (by decide)) (by decide) (h _ _)
theorem sj(w:World)(bs:LI)(hlen:bs.length<=3)(h1:1<=bs.length)(i:Int)(hi0:1<=i-((bs.length:Int)-1)*8)(hi1:i-((bs.length:Int)-1)*8<=8):az w 1 410 (ba bs) [.ref 0,.int i] [] (ch (.val .none) (ba (iC bs i))):=by
 refine' ao ["self","size"] ?ho ?hcd ?hb ?hx ?nd ?hl ?H ?c1 ?c2 ?c3 ?c4
 k_extra "cx"
 intro c
 refine .cons (.assign (.attr (.name vS) vS vS vS (aD w) af) (.cons (.assign (.iop (.name vS) (.iop (.iop (.len (.name vS) vS (by exact ZX ‹_› (by decide))) .intE .sub) .intE .mul8) .sub) (.cons (.ite (.plain (.name vS) .int) (fun h=>.cons (.assign (.iop (.iop .intE (.name vS) (.pow2 (by exact Int.le_of_lt ‹_›) (by exact Int.le_trans ‹_› (by decide)))) .intE .sub) (.cons (.setLast (.iop (.itemN (.name vS) (.neg .intE) vS (by decide) (by exact(ai [.m .u .a] (.M (.j (.t .a)) (.j .u))) h1) (by decide)) (.name vS) .and) (.name vS) (.neg .intE) vS h1 (.nil (.nil (.next _ ⟨rfl,?_⟩ .same vT))))))) fun h=>absurd (by exact(aR [.M .u (.s .A (.r (.s (.t .a) .u) 8))] (.x (.E (.s .A (.r (.s (.t .a) .u) 8)) .o))) hi0) h)))))
 show ba (bs.set _ (Builtin.bitAnd (bs.getD (-1+(bs.length:Int)).toNat 0) _))=_
 refine aa (sS ..) ?_
 rfl
noncomputable def eB(bs:LI):List Int:=bs.map fun y=>Builtin.bitAnd (Builtin.bitNot y) 255
theorem oE(bs:LI)(i:Nat)(hi:i<bs.length)(f:Int->Int):((bs.take i).map f++bs.drop i).set i (f (((bs.take i).map f++bs.drop i).getD i 0))=(bs.take (i+1)).map f++bs.drop (i+1):=by
 have hl:((bs.take i).map f).length=i:=by simp;exact(av [.l .a .b,.I .c .a .b] (.e .c .a)) hi (iX _ _)
 refine aa (ZE ..) (aa (ZI (by exact Nat.le_of_eq ‹_›) ..) (aa (hl ..) (aa (Nat.sub_self ..) (aa (List.set_append_right _ _ (by exact Nat.le_of_eq ‹_›) ..) (aa (hl ..) (aa (Nat.sub_self ..) (aa (Zj hi ..) (aa (List.set_cons_zero ..) (aa (Zw hi ..) (aa (List.map_append ..) (aa (List.append_assoc ..) ?_)))))))))))
 simp[hi]
theorem qj(w:World):am w 514 "_zero_extra_bits" 410:=⟨by k_is,by k_is,by k_is,by k_is⟩
theorem tw(w:World)(bs:LI)(hlen:bs.length<=3)(h1:1<=bs.length)(i:Int)(hi0:1<=i-((bs.length:Int)-1)*8)(hi1:i-((bs.length:Int)-1)*8<=8):az w 2 490 (ba bs) [.ref 0,.int i] [] (ch (.val .none) (ba (iC (eB bs) i))):=by
 refine' ao ["self","size"] ?ho ?hcd ?hb ?hx ?nd ?hl ?H ?c1 ?c2 ?c3 ?c4
 k_extra "cx"
 intro c
 have hil:(eB bs).length=bs.length:=by simp[eB]
 refine .cons (.assign (.attr (.name vS) vS vS vS (aD w) af) (.cons (.forRange (fun _ (_:Unit)=>True) (fun j O=>⟨[("bits",.ref 2),("self",.ref 0),("size",.int i)],ba ((bs.take j).map (fun y=>Builtin.bitAnd (Builtin.bitNot y) 255)++bs.drop j)⟩) () 3 (.range1 (.glob (bA w)) (.len (.name vS) vS (by exact ZX ‹_› (by decide))) (by exact ZW ‹_› (by decide))) trivial ⟨.cons vS (.cons vS (.cons vS .nil)),.same⟩ vT vT (fun c' j O hj O=>?_) fun O O =>
  .cons (.expr (.mcall (.name vS) vS vS rfl (qj w) (.cons (.name vS) .nil) (ae.det (sj w (eB bs) (by exact(ah [.m .a .w,.e .b .a] (.m .b .w)) hlen hil) (by exact Za ‹_› (Eq.symm ‹_›)) i (by exact(c8 [.M .u (.s .A (.r (.s (.t .a) .u) 8)),.e .b .a] (.M .u (.s .A (.r (.s (.t .b) .u) 8)))) hi0 hil) (by exact(c8 [.M (.s .A (.r (.s (.t .a) .u) 8)) .y,.e .b .a] (.M (.s .A (.r (.s (.t .b) .u) 8)) .y)) hi1 hil)) [0,1,2] (ab rfl rfl ?_) (by decide) vT rfl).cal) (.nil (.next _ ⟨rfl,rfl⟩ .same vT))))))
 ·refine aa (ua ..) ?_
  refine .cons (.setItem (.iop (.inv (.item (.name vS) (.name vS) vS (by exact(ai [] (.M .o (.t .a)))) (by simp;exact(aJ [.l .a .b,.I .c .a .b,.S .d .b .a] (.L (.t .a) (.p (.t .c) (.t .d)))) hj (iX _ _) (bc _ _)) (by exact(ah [.m .a .w,.l .b .a] (.L (.t .b) .i)) hlen hj))) .intE .and) (.name vS) (.name vS) vS (by exact(ai [] (.M .o (.t .a)))) (by simp;exact(aJ [.l .a .b,.I .c .a .b,.S .d .b .a] (.L (.t .a) (.p (.t .c) (.t .d)))) hj (iX _ _) (bc _ _)) (by exact(ah [.m .a .w,.l .b .a] (.L (.t .b) .i)) hlen hj) (.nil (.next () trivial ⟨.cons vS (.cons vS (.cons vS .nil)),?_⟩ vT vT)))
  refine aA (oE bs j hj ..) ?_;exact .same
 ·show some (SO.nums _)=some (SO.nums _)
  refine aa (List.take_length ..) (aa (List.drop_length ..) (aa (List.append_nil ..) ?_));rfl
example:True:=by w_top off;trivial
section
variable{M:Model}
noncomputable def sN(R:RS)(Y:VG)(e:End)(s':Shared):Prop :=
 match e with
|.ret r=>R r s'
|.susp v g l k c p fs=>(g||fs.any Frame.guarded)=false/\Y v (.suspended k l c p fs false) s'
noncomputable def aq(M:Model)(A:Around)(R:RS)(Y:VG)(c:Code)(t:Sem Fin)(fs:List Frame)(s:Shared):Prop :=
 ∀Γ p,Γ.code=c->Γ.Woken A->∃e s',Runs M Γ p t fs s e s'/\sN R Y e s'
noncomputable def c6(M:Model)(A:Around)(R:RS)(Y:VG)(gs:GenState)(s:Shared):Prop :=
 match gs with
|.fresh c=>aq M A R Y c (M.den c) [] s
|.suspended k _ c _ fs _=>aq M A R Y c (k (.send .none)) fs s
|_=>False
variable{A:Around}{R:RS}{Y:VG}{c:Code}{fs:List Frame}{s:Shared}{env:Env}
 {gd:Bool->Bool} {lv:List Value->List Value}
theorem dA{α:Type}{m:Sem α}{K:α->Sem Fin}{H:Value->Sem Fin}
  (h:wpAny M (A.over c fs) m (fun a s'=>aq M A R Y c (K a) fs s') (fun x s'=>aq M A R Y c (H x) fs s') s):aq M A R Y c (m.wrap K H gd lv) fs s:=by
 rintro Γ p rfl hΓ
 exact runs_wrap_of_wp K H gd lv m (h (Γ.over fs) p (hΓ.over fs)) (fun a p' s' h'=>h' Γ p' rfl hΓ) (fun x p' s' h'=>h' Γ p' rfl hΓ)
theorem aC{α β:Type}{m:Sem α}{f:α->Sem β}{K:β->Sem Fin}{H:Value->Sem Fin}
  (h:wpAny M (A.over c fs) m (fun a s'=>aq M A R Y c ((f a).wrap K H gd lv) fs s') (fun x s'=>aq M A R Y c (H x) fs s') s):aq M A R Y c ((m >>= f).wrap K H gd lv) fs s:=by
 refine aa (Sem.bind_eq_wrap' ..) (aa (Sem.wrap_wrap ..) ?_);exact dA h
theorem nA{p':Pos}{k:Unit->Sem Fin}(h:aq M A R Y c (k ()) fs s):aq M A R Y c (.at p' k) fs s :=
 dA (m:=standAt p') (K:=k) (H:=.raise) (gd:=id) (lv:=id) (wpAny_standAt h)
theorem nz{l:LW}{k:Unit->Sem Fin}(h:aq M A R Y c (k ()) fs s):aq M A R Y c (.point l k) fs s :=
 dA (m:=point) (K:=k) (H:=.raise) (gd:=id) (lv:=fun O=>l) (wpAny_point h)
theorem qd{c':Code}{h g l}{k:Result->Sem Fin}(hc:∀p,aq M A R Y c' (M.den c') (.ret k h g l c p []::fs) s):aq M A R Y c (.call c' h g l k) fs s:=by
 rintro Γ p rfl hΓ
 obtain⟨e,s',hr,he⟩:=hc p (Γ.goto c') p rfl (hΓ.goto c')
 exact⟨e,s',runs_call_seg hr,he⟩
theorem qb{k h g l c₁ pj1 kp}(r:Result)(hk:aq M A R Y c₁ (k r) fs s):aq M A R Y c (leafOf r) (.ret k h g l c₁ pj1 kp::fs) s:=by
 rintro Γ p rfl hΓ
 obtain⟨e,s',hr,he⟩:=hk (Γ.goto c₁) pj1 rfl (hΓ.goto c₁)
 exact⟨e,s',Runs.pop r hr,he⟩
theorem bl{c':Code}(hq:c'.quiet=true)(hc:aq M A R Y c' (M.den c') fs s):aq M A R Y c (.pure (.again c')) fs s:=by
 rintro Γ p rfl hΓ
 obtain⟨e,s',hr,he⟩:=hc (Γ.goto c') p rfl (hΓ.goto c')
 exact⟨e,s',Runs.head (c₁:=c') (fun O O x=>.again hq x) hr,he⟩
theorem kG(r:Result)(h:R r s):aq M A R Y c (leafOf r) [] s:=by
 rintro Γ p rfl _
 exact⟨.ret r,s,Runs.leaf r,h⟩
theorem jx{v g l}{k:Resume->Sem Fin}(hfs:splitAtGen fs=none)(hg:g=false)(hfg:fs.any Frame.guarded=false)
  (h:∀p,Y v (.suspended k l c p fs false) s):aq M A R Y c (.yield v g l k) fs s:=by
 rintro Γ p rfl _
 exact⟨_,s,Runs.yield' fs hfs,by simp[hg,hfg],h p⟩
variable{K:Flow->Sem Fin}{H:Value->Sem Fin}
theorem cD{st:Stmt}{rest:LS}
  (h:aq M A R Y c ((exec st env).wrap (fun f=>match f with|.next=>(execs rest env).wrap K H gd lv|f=>K f) H gd lv) fs s) :
  aq M A R Y c ((execs (st::rest) env).wrap K H gd lv) fs s:=by
 refine aa (execs_cons_wrap ..) ?_;exact h
theorem d9{st:Stmt}{rest:LS}(h:wpAny M (A.over c fs) (exec st env) (fun f s'=>aq M A R Y c (match f with|.next=>(execs rest env).wrap K H gd lv|f=>K f) fs s') (fun x s'=>aq M A R Y c (H x) fs s') s) :
  aq M A R Y c ((execs (st::rest) env).wrap K H gd lv) fs s:=cD (dA h)
theorem rj{test body orelse pos}(h:wpAny M (A.over c fs) (isTrue test env (eval test env)) (fun b s'=>aq M A R Y c ((execs (if b=true then body else orelse) env).wrap K H gd lv) fs s') (fun x s'=>aq M A R Y c (H x) fs s') s) :
  aq M A R Y c ((exec (.If test body orelse pos) env).wrap K H gd lv) fs s:=by
 refine aa (exec_If ..) ?_
 refine aC (wpAny_standAt (aC (wpAny_mono h (fun b s' h'=>?_) fun O O h'=>h')))
 cases b <;> exact h'
theorem jy{e:Expr}{ypos pos:Pos}(hfs:splitAtGen fs=none)(hgd:gd false=false)(hfg:fs.any Frame.guarded=false)
  (h:wpAny M (A.over c fs) (eval e env) (fun v s'=>∀gs',(∀A' R' Y' s'',aq M A' R' Y' c (K .next) fs s''->c6 M A' R' Y' gs' s'')->gs'.bare=true->Y v gs' s')
   (fun x s'=>aq M A R Y c (H x) fs s') s) (hco:env.scope.isCoroutine=false:=by exact vF) (hi:interactive env=false:=by exact vF) :
  aq M A R Y c ((exec (.Expr (.Yield (some e) ypos) pos) env).wrap K H gd lv) fs s:=by
 refine aa (exec_Expr env _ pos hi rfl ..) ?_
 show aq M A R Y c (.at pos fun O=>((eval e env >>= fun v=>(standAt ypos >>= fun O=>yieldOut env v)) >>= fun x=>dropValue (.Yield (some e) ypos) pos x).wrap K H gd lv) fs s
 have hy:∀v,yieldOut env v=yieldValue v:=fun v=>by simp only[yieldOut,hco,Bool.false_eq_true,if_false]
 simp only[hy]
 refine nA ?_
 refine aa (Sem.bind_eq_wrap' ..) (aa (Sem.bind_eq_wrap' ..) (aa (Sem.wrap_wrap ..) (aa (Sem.wrap_wrap ..) ?_)))
 refine dA (wpAny_mono h (fun v s' h'=>?_) fun O O x=>x)
 exact nA (jx hfs hgd hfg fun p=>h' _ (fun A' R' Y' s'' hx=>hx) vT)
theorem jD(c':Code)(env:Env):∃kk:Result->Sem Flow,runOwn c' env=.call c' none false [] kk/\∀f,kk (.ok f)=.pure f:=⟨_,rfl,fun O=>rfl⟩
theorem rS{target iter body orelse pos}(hs:∀x,foldedSetIterable iter env x=pure x)
  (h:wpAny M (A.over c fs) (eval iter env) (fun x sj1=>wpAny M (A.over c fs) (pyIter x) (fun it sj2=>∀(kk:Result->Sem Flow) p,(∀f,kk (.ok f)=.pure f) ->
   aq M A R Y (.forLoop target it body orelse env) (M.den (.forLoop target it body orelse env)) (.ret (fun r=>(kk r).wrap K H gd lv) none (gd false) (lv []) c p []::fs) sj2)
   (fun x s'=>aq M A R Y c (H x) fs s') sj1) (fun x s'=>aq M A R Y c (H x) fs s') s) :
  aq M A R Y c ((exec (.For target iter body orelse pos) env).wrap K H gd lv) fs s:=by
 refine aa (exec_For ..) ?_
 refine aC (wpAny_standAt (aC (wpAny_mono h (fun x sj1 hj1=>?_) fun O O h'=>h')))
 refine aC (wpAny_of_eq (hs x) (aC (wpAny_standAt (aC (wpAny_holding (wpAny_mono hj1 (fun it sj2 hw2=>?_) fun O O h'=>h'))))))
 obtain⟨kk,e,hk⟩:=jD (.forLoop target it body orelse env) env
 refine aa (e ..) ?_
 exact qd fun p=>hw2 kk p hk
end
section
variable{prog:Program}{w:World}{A:Around}{R:RS}{Y:VG}{fs:List Frame}{s:Shared}{env:Env}
noncomputable def rf(c:Code)(f:Flow):Sem Fin:=match f with
|.next|.cont=>.pure (.again c)
|.brk=>.pure (.done .next)
|.ret v=>.pure (.done (.ret v))
theorem dU{x:Str}{px:Pos}{it:Value}{body:LS}
  (h:∀H,wpAny (model prog w) (A.over (.forLoop (.Name x px) it body [] env) fs) (pyNext it) (fun r sj1=>match r with
  |none=>∀c',aq (model prog w) A R Y c' (leafOf (.ok .next)) fs sj1
  |some v=>wpAny (model prog w) (A.over (.forLoop (.Name x px) it body [] env) fs) (assign (.Name x px) env v) (fun O sj2 =>
     aq (model prog w) A R Y (.forLoop (.Name x px) it body [] env) ((execs body env).wrap (rf (.forLoop (.Name x px) it body [] env)) H id id) fs sj2)
     (fun e s'=>aq (model prog w) A R Y (.forLoop (.Name x px) it body [] env) (H e) fs s') sj1)
   (fun e s'=>aq (model prog w) A R Y (.forLoop (.Name x px) it body [] env) (H e) fs s') s) :
  aq (model prog w) A R Y (.forLoop (.Name x px) it body [] env) ((model prog w).den (.forLoop (.Name x px) it body [] env)) fs s:=by
 show aq _ A R Y _ ((forTurn (.Name x px) it body [] env).onRaise (fun x=>do noteFrame x env;theTreesLotGoes x)) fs s
 refine aa (Sem.onRaise_eq_wrap ..) ?_
 unfold forTurn
 refine aC (wpAny_standAt (aC (wpAny_onRaise (wpAny_mono (h _) (fun r sj1 hj1=>?_) fun O O h'=>wpAny_standAt h'))))
 cases r with
|none =>
  refine bl vT ?_
  exact hj1 _
|some v =>
  refine aC (wpAny_of_eq (rfl:letOwnedTupleGo (.Name x px) it v=pure ()) (aC (wpAny_mono hj1 (fun O sj2 hw2=>?_) fun O O h'=>h')))
  refine aa (Sem.bind_eq_wrap' ..) (aa (Sem.wrap_wrap ..) ?_)
  refine aa (Sem.wrap_congr (K':=rf (.forLoop (.Name x px) it body [] env)) (H':=_) (execs body env) _ _ (fun f=>by cases f <;> rfl) (fun O=>rfl) ..) ?_
  exact hw2
theorem qc{body:LS}(h:∀H,aq (model prog w) A R Y (.func body env) ((execs body env).wrap (fun f=>.pure (.done (.ret (match f with|.ret v=>v|_=>.none)))) H id id) fs s) :
  aq (model prog w) A R Y (.func body env) ((model prog w).den (.func body env)) fs s:=by
 show aq _ A R Y _ (.point [] fun O=>((execs body env).onRaise (leaving env)) >>= _) fs s
 refine nz ?_
 refine aa (Sem.onRaise_eq_wrap ..) (aa (Sem.bind_eq_wrap' ..) (aa (Sem.wrap_wrap ..) ?_))
 refine aa (Sem.wrap_congr (execs body env) _ _ (K':=fun f=>.pure (.done (.ret (match f with|.ret v=>v|_=>.none)))) (H':=_) (fun f=>by cases f <;> rfl) (fun O=>rfl) ..) ?_
 exact h _
theorem dK{E:VS}{g:Nat}{gs:GenState}{l:LW}{α:Type}{k:GenResult->Sem α}{Q:α->Shared->Prop}(hg:s.gens[g]?=some gs)
  (hgo:c6 (model prog w) A R Y gs (s.setGen g .running))
  (hR:∀x sj1,R x sj1->wpAny (model prog w) A (k (End.ret x).result) Q E (sj1.setGen g .finished))
  (hY:∀v sj1 gs',Y v gs' sj1->wpAny (model prog w) A (k (.yielded v)) Q E (sj1.setGen g gs')) :
  wpAny (model prog w) A (.resume g (.send .none) l k) Q E s:=by
 intro Γ p hΓ
 refine aa (Sem.wp_resume ..) ?_
 have hB:∀c,(Γ.wake c p).Woken A:=fun c=>hΓ.wake c p
 have fin:∀ej1 sj1,sN R Y ej1 sj1->Sem.wp (model prog w) Γ (k ej1.result) (fun a O s'=>Q a s') (fun e O s'=>E e s') p (sj1.setGen g ej1.genState):=by
  intro ej1 sj1 he
  cases ej1 with
 |ret x=>exact hR x sj1 he Γ p hΓ
 |susp v gj0 lj0 kj0 c₀ pj0 fs0 =>
   have e8:(gj0||fs0.any Frame.guarded)=false:=he.1
   have e9:(End.susp v gj0 lj0 kj0 c₀ pj0 fs0).genState=.suspended kj0 lj0 c₀ pj0 fs0 false:=by show GenState.suspended kj0 lj0 c₀ pj0 fs0 (gj0||fs0.any Frame.guarded)=_;rw[e8]
   refine aa (e9 ..) ?_
   exact hY v sj1 _ he.2 Γ p hΓ
 have hqt:∀ej1 sj1,sN R Y ej1 sj1->ej1.quiet=true:=by
  intro ej1 sj1 he
  cases ej1 with
 |ret x=>rfl
 |susp v gj0 lj0 kj0 c₀ pj0 fs0 =>
   have e8:(gj0||fs0.any Frame.guarded)=false:=he.1
   show (!(gj0||fs0.any Frame.guarded))=true
   refine aa (e8 ..) ?_;rfl
 cases gs with
|fresh c =>
  obtain⟨ej1,sj1,hr,he⟩:=hgo (Γ.wake c p) p rfl (hB c)
  exact⟨_,_,by unfold Wakes;refine aa (hg ..) ?_;exact⟨ej1,sj1,hr,hqt ej1 sj1 he,rfl,rfl⟩,fin ej1 sj1 he⟩
|suspended kj0 lj0 c₀ pj0 fs0 cl =>
  obtain⟨ej1,sj1,hr,he⟩:=hgo (Γ.wake c₀ p) pj0 rfl (hB c₀)
  exact⟨_,_,by unfold Wakes;refine aa (hg ..) ?_;exact⟨ej1,sj1,hr,hqt ej1 sj1 he,rfl,rfl⟩,fin ej1 sj1 he⟩
|running=>exact hgo.elim
|finished=>exact hgo.elim
theorem sZ{E:VS}{a:Addr}{g:Nat}{gs:GenState}{Q:OQ}(hh:A.handled=none)(hl:s.heap.NoLimit)(hroom:A.depth<recursionLimit)
  (hg:s.heap.IsGen a g) (hgs:s.gens[g]?=some gs) (hgo:c6 (model prog w) A.in1 R Y gs (s.setGen g .running))
  (hY:∀v sj1 gs',Y v gs' sj1->Q (some v) (sj1.setGen g gs'))
  (hR:∀r sj1,R r sj1->(r=.ok .next\/r=.ok (.ret .none))/\∀h',(∀b o,sj1.heap.get? b=some o->h'.get? b=some o)->sj1.heap.objs.size<=h'.objs.size->Q none { sj1.setGen g .finished with heap:=h' }) :
  wpAny (model prog w) A (pyNext (.ref a)) Q E s:=by
 unfold pyNext
 refine ZL (wpAny_attempt (wpAny_callSpecial?_slot (name:=Str.ofString "__next__") hg.typeIs slot_gen_next
  (wpAny_call_entry slot_gen_next hg.typeIs entry_gen_next ?_ (args_gen_next _))))
 show wpAny _ A.in1 (Builtin.Generator.genWake (.ref a) (.send .none)) _ _ s
 unfold Builtin.Generator.genWake
 refine ZL (wpAny_holding (wpAny_genNumber hg (ZL (wpAny_genState hgs ?_))))
 have fin:∀v sj1,R v sj1->(End.ret v).result=.returned .none:=fun v sj1 h=>by
  rcases (hR v sj1 h).1 with rfl|rfl <;> rfl
 cases gs with
|running=>exact hgo.elim
|finished=>exact hgo.elim
|_ =>
  refine ZL (wpAny_roomToWake hl hroom ?_)
  show wpAny _ A.in1 (.resume g (.send .none) [] _) _ _ s
  refine dK hgs hgo (fun x sj1 hx=>?_) (fun v sj1 gs' hv=>?_)
  ·refine aa (fin x sj1 hx ..) ?_
   show wpAny _ A.in1 (newExc (.type "StopIteration") [] >>= _) _ _ _
   refine ZL ?_
   unfold newExc newTuple
   refine ZL (wpAny_newObj_type ?_ (by size_fits))
   refine ZL (m:=firstArgMember _ _) (wpAny_of_eq (a:=Value.none) (by first|rfl|(simp only[firstArgMember];rfl)) ?_)
   refine wpAny_newObj_type ?_ (by size_fits)
   unfold raiseNew
   refine ZL (ZL (wpAny_handled ?_))
   refine aa (show A.in1.handled=none from hh) ?_
   refine wpAny_throw ?_
   refine ZL (wpAny_isInstance (T:="StopIteration") (b:=true) ⟨_,Zu _ rfl,rfl⟩ isSubtype_stop ?_)
   refine ZM ((hR x sj1 hx).2 _ (fun b o hb=>ZR _ (ZR _ hb)) ?_)
   have e1:=Heap.size_push sj1.heap
   simp only[Heap.size_push]
   exact ZW (Nat.le_succ _) (Nat.le_succ _)
  ·exact ZM ⟨v,rfl,ZM (hY v sj1 gs' hv)⟩
end
example:True:=by w_top off;trivial
structure Wk(w:World)(lvl:Nat)(b L:Addr)(m:OV)(pf:AO)(pg:Gs) where
 (o:On w) (hold:AO) (s:Shared)
 hfr:eM o.fr hold
 F:Fr o.g L s.heap m
 N:News o.g L s.heap (pf++hold)
 ap:∀q∈pf,∀z∈hold,q.1≠z.1
 fits:o.Fits lvl
 hpg:∀q∈pg,s.gens[q.1]?=some q.2
 hb:o.g.objs.size<=b
section
variable{w:World}{lvl:Nat}{b L:Addr}{m:OV}{pf:AO}{pg:Gs}
noncomputable abbrev Wk.A(k:Wk w lvl b L m pf pg):Around:=k.o.A
structure Sl(k:Wk w lvl b L m pf pg)(m':OV)(pf':AO)(pg':Gs)(s':Shared):Prop where
 eq:s'={ k.s with heap:=s'.heap,gens:=s'.gens,drawn:=s'.drawn,toks:=s'.toks }
 F:Fr k.o.g L s'.heap m'
 N:∃hold',News k.o.g L s'.heap (pf'++hold')/\aw (aZ k.o.fr) k.hold hold'
 ap:∀q∈pf',∀z∈k.hold,q.1≠z.1
 mv:aN pg k.s.gens s'.gens
 inn:sJ pg k.s.gens pg' s'.gens
end
noncomputable def bG(w:World)(lvl:Nat)(b L:Addr):DC->List (Int×DC)->(Str->Option Value)->AO->Gs->GenState->Prop
|D,[],m,pf,pg,gs=>∀(k:Wk w lvl b L m pf pg) h',(∀q∈h',q∈quiet k.o.fr k.hold)->D h'->c6 (model PR w) k.A (fun r s'=>(r=.ok .next\/r=.ok (.ret .none))/\∃m',Sl k m' [] [] s') (fun O O O=>False) gs k.s
|D,(z,D')::l,m,pf,pg,gs=>∀(k:Wk w lvl b L m pf pg) h',(∀q∈h',q∈quiet k.o.fr k.hold)->D h'->c6 (model PR w) k.A (fun O O=>False)
   (fun v gs' s'=>gs'.bare=true/\(∃t,v=.int z t)/\∃m' pf' pg',Sl k m' pf' pg' s'/\bG w lvl b L D' l m' pf' pg' gs') gs k.s
section
variable{w:World}{lvl:Nat}{b L:Addr}{m:OV}{pf:AO}{pg:Gs}
noncomputable def GR(k:Wk w lvl b L m pf pg)(l:LD):Result->Shared->Prop:=fun r s'=>l=[]/\(r=.ok .next\/r=.ok (.ret .none))/\∃m',Sl k m' [] [] s'
noncomputable def GY(k:Wk w lvl b L m pf pg)(l:LD):Value->GenState->Shared->Prop:=fun v gs' s'=>∃z D' l',l=(z,D')::l'/\gs'.bare=true/\(∃t,v=.int z t)/\∃m' pf' pg',Sl k m' pf' pg' s'/\bG w lvl b L D' l' m' pf' pg' gs'
theorem aq.mono{M:Model}{A:Around}{R R':RS}{Y Y':VG}{c:Code}{t:Sem Fin}{fs:List Frame}{s:Shared}(h:aq M A R Y c t fs s)(hR:∀r s',R r s'->R' r s')(hY:∀v g s',Y v g s'->Y' v g s'):aq M A R' Y' c t fs s:=by
 intro Γ p hc hΓ
 obtain⟨e,s',hr,he⟩:=h Γ p hc hΓ
 refine⟨e,s',hr,?_⟩
 cases e with
|ret r=>exact hR _ _ he
|susp v g l k c p fs=>exact⟨he.1,hY _ _ _ he.2⟩
theorem c6.mono{M:Model}{A:Around}{R R':RS}{Y Y':VG}{gs:GenState}{s:Shared}(h:c6 M A R Y gs s)(hR:∀r s',R r s'->R' r s')(hY:∀v g s',Y v g s'->Y' v g s'):c6 M A R' Y' gs s:=by
 cases gs with
|fresh c=>exact aq.mono h hR hY
|suspended k l c p fs cl=>exact aq.mono h hR hY
|running=>exact h.elim
|finished=>exact h.elim
theorem bG.mk{D:DC}{l:LD}{gs:GenState}(h:∀(k:Wk w lvl b L m pf pg) h',(∀q∈h',q∈quiet k.o.fr k.hold)->D h'->c6 (model PR w) k.A (GR k l) (GY k l) gs k.s):bG w lvl b L D l m pf pg gs:=by
 cases l with
|nil=>exact fun k h' h1 h2=>(h k h' h1 h2).mono (fun r s' hr=>hr.2) fun v g s' hZ5=>by obtain⟨z,D',l',e,_⟩:=hZ5;exact nomatch e
|cons q l =>
  obtain⟨z,D'⟩:=q
  refine fun k h' h1 h2=>(h k h' h1 h2).mono (fun r s' hr=>nomatch hr.1) fun v g s' hZ=>?_
  obtain⟨z,D',l',e,h9⟩:=hZ
  cases e
  exact h9
end
theorem cq{h:Heap}{L:Addr}{m:OV}(x:h.Ns L m):∃o,h.get? L=some o/\∀h':Heap,h'.get? L=some o->h'.Ns L m:=by
 obtain⟨o,es,ep,e,r⟩:=x
 exact⟨o,e,fun h' e'=>⟨o,es,ep,e',r⟩⟩
def m6(a:Addr)(gn:Nat)(og:Obj):Prop:=∀h:Heap,h.get? a=some og->h.IsGen a gn
theorem dB{G:Array GenState}{i j:Nat}{x y:GenState}(h:G[i]?=some x)(hn:i≠j):(G.setIfInBounds j y)[i]?=some x:=by
 refine aa (Array.getElem?_setIfInBounds_ne (Ne.symm hn) ..) ?_;exact h
theorem jz{G:Array GenState}{i:Nat}{x y:GenState}(h:G[i]?=some x):(G.setIfInBounds i y)[i]?=some y:=by
 obtain⟨hi,_⟩:=Zx.mp h
 simp[hi]
theorem jB{G:Array GenState}{i:Nat}{y:GenState}(hy:y.bare=true)(h:AllBare G):AllBare (G.setIfInBounds i y):=by
 intro z hz
 rcases Array.mem_or_eq_of_mem_setIfInBounds hz with h1|h1
 ·exact h z h1
 ·refine aa (h1 ..) ?_;exact hy
theorem eM.off{fr:List Env}{hold:AO}(H:eM fr hold){a:Addr}(h:∀z∈hold,a≠z.1):a∉aZ fr:=fun hm=>by
 obtain⟨e,he,he2⟩:=List.mem_filterMap.mp hm
 obtain⟨_,L',o,h2,h3,_⟩:=H e he
 rw[he2] at h2;obtain rfl:=ZK h2
 exact h _ h3 rfl
theorem aw.consOff{fs:LQ}{q:Addr×Obj}{a b:AO}(x:aw fs (q::a) b)(h:q.1∉fs):∃b',b=q::b'/\aw fs a b':=by
 cases x with
|same t=>exact⟨_,rfl,t⟩
|soft hx t=>exact absurd hx h
section
variable{w:World}{lvl:Nat}{a b L:Addr}{gn:Nat}{og:Obj}
theorem aN.wake{pg:Gs}{gs gs':GenState}{G G':Array GenState}(hgs:G[gn]?=some gs)(hpg:∀q∈pg,q.1≠gn)(hb':gs'.bare=true)(mv:aN pg (G.setIfInBounds gn .running) G'):aN ((gn,gs)::pg) G (G'.setIfInBounds gn gs')/\G'[gn]?=some .running:=by
 refine⟨⟨?_,fun i x hi hx=>?_,fun hbare=>jB hb' (mv.bare (jB vT hbare))⟩,mv.old gn .running (fun q hq=>hpg q hq) (jz hgs)⟩
 ·have:=mv.size
  rw[Array.size_setIfInBounds] at this ⊢;exact this
 ·have hne:i≠gn:=fun e=>hi (gn,gs) (.head _) e.symm
  exact dB (mv.old i x (fun q hq=>hi q (.tail _ hq)) (dB hx hne)) hne
noncomputable def pN(w:World)(a:Addr)(j:Nat)(X:Around->(Option Value->Shared->Prop)->Shared->Prop):Prop :=
 ∀(o:On w) (gn:Nat) (gs:GenState) (R:RS) (Y:VG) (s:Shared) (Q:OQ),s.heap.NoLimit->o.dp<1000->s.heap.IsGen a gn->s.gens[gn]?=some gs->c6 (model PR w) (AR o.dp (o.un+j) o.gd o.fr) R Y gs (s.setGen gn .running) ->
  (∀v sj1 gs',Y v gs' sj1->Q (some v) (sj1.setGen gn gs'))->(∀r sj1,R r sj1->(r=.ok .next\/r=.ok (.ret .none))/\∀h',(∀b o,sj1.heap.get? b=some o->h'.get? b=some o)->sj1.heap.objs.size<=h'.objs.size->Q none { sj1.setGen gn .finished with heap:=h' })->X o.A Q s
theorem ko(w:World)(a:Addr):pN w a 1 (fu w a):=fun o gn gs R Y s Q h1 h2 h3 h4 h5 hY hR E=>sZ (gs:=gs) rfl h1 h2 h3 h4 h5 hY hR
theorem jp{X:Around->(Option Value->Shared->Prop)->Shared->Prop}{j:Nat}(hX:pN w a j X)(hj:j<=50)(hog:m6 a gn og)(hbL:b<=L){D:Nat->AO->Prop}{m:OV}{oL:Obj}{pf:AO}{pg:Gs}{gs:GenState}(hns:∀h:Heap,h.get? L=some oL->h.Ns L m)(haL:a≠L)(hpf:∀q∈pf,q.1≠L/\q.1≠a)(hpg:∀q∈pg,q.1≠gn)
  (hn:∀n hold,D n hold->n<=b) {R:Option Value->AO->Gs->Prop}
  (ok:∀(k:Wk w lvl b L m pf pg) (gj0:Nat) h',(∀q∈h',q∈quiet k.o.fr k.hold)->D gj0 h'->c6 (model PR w) k.A (fun r s'=>(r=.ok .next\/r=.ok (.ret .none))/\(∃m',Sl k m' [] [] s')/\R none [] [])
    (fun v gs' s'=>gs'.bare=true/\∃m' pf' pg',Sl k m' pf' pg' s'/\∀oL',(∀h:Heap,h.get? L=some oL'->h.Ns L m')->(∀q∈pf',q.1≠L/\q.1≠a)->(∀q∈pg',q.1≠gn)->R (some v) ((a,og)::(L,oL')::pf') ((gn,gs')::pg')) gs k.s) :
  bI w (lvl+1) X ((a,og)::(L,oL)::pf) ((gn,gs)::pg) D (fun O r own' pg'=>R r own' pg'):=by
 intro o hold s Q hfit A hpgs hD kk
 have hgs:=hpgs _ (.head _)
 have hL:=A.ft (L,oL) (.tail _ (.head _))
 have hgn:gn<s.gens.size:=(Zx.mp hgs).1
 have haF:a∉aZ o.fr:=A.fr.off (A.ap (a,og) (.head _))
 let k:Wk w lvl b L m pf pg:=⟨⟨o.p,o.loose,o.mean,o.mg,o.mb,o.dp,o.un+j,o.gd,o.fr,o.g,o.X,o.T⟩,(a,og)::hold,s.setGen gn .running,fun e he=>by
   obtain⟨h1,L',o,h2,h3,h4⟩:=A.fr e he
   exact⟨h1,L',o,h2,.tail _ h3,h4⟩,⟨hns _ hL.1,A.st,ZW (hn _ _ hD) hbL⟩,fun q hq=>by
   have hq':q∈(a,og)::(L,oL)::pf++hold:=(ZS.mp hq).elim (fun h=>ZD _ (.tail _ (.tail _ h))) fun h=>(ZT.mp h).elim (fun h=>by refine aa (h ..) ?_;exact .head _) (ZC _)
   refine⟨(A.ft q hq').1,?_,(A.ft q hq').2⟩
   rcases ZS.mp hq with h|h
   ·exact(hpf q h).1
   ·rcases ZT.mp h with rfl|h
    ·exact haL
    ·exact fun e=>A.ap (L,oL) (.tail _ (.head _)) q h e.symm,fun q hq z hz=>by
   rcases ZT.mp hz with rfl|hz
   ·exact(hpf q hq).2
   ·exact A.ap q (.tail _ (.tail _ hq)) z hz,⟨by have:=hfit.d;show o.dp+lvl<=500;exact Zr ‹_›,by have:=hfit.u;show o.un+j+50*lvl<=9000;exact(av [.m .a (.n 50),.m (.p .b (.k 50 (.p .c .u))) .G] (.m (.p (.p .b .a) (.k 50 .c)) .G)) hj this⟩,fun q hq=>dB (hpgs q (.tail _ hq)) (hpg q hq),hn _ _ hD⟩
 have hh:∀q∈quiet o.fr hold,q∈quiet k.o.fr k.hold:=fun q hq=>by
  obtain⟨h1,h2⟩:=ag.mp hq
  exact ag.mpr ⟨.tail _ h1,h2⟩
 have ksz:k.s.gens.size=s.gens.size:=by show (s.gens.setIfInBounds gn .running).size=_;rw[Array.size_setIfInBounds]
 refine hX o gn gs _ _ s Q (o.T.nolimit.keeps A.st) (by have:=hfit.d;exact(ah [.m (.p .a (.p .b .u)) .l] (.l .a .q)) this) (hog _ (A.ft (a,og) (.head _)).1) hgs (ok k _ _ hh hD) ?_ ?_
 ·rintro v sj1 gs' ⟨hb',m',pf',pg',S,hR⟩
  obtain⟨hold',N',K'⟩:=S.N
  obtain⟨hold'',rfl,K''⟩:=K'.consOff haF
  obtain⟨oL',eL',nL'⟩:=cq S.F.ns
  obtain⟨mv,hrun⟩:=aN.wake hgs hpg hb' S.mv
  have ngn:∀q∈pg',q.1≠gn:=fun q hq=>by
   rcases (S.inn q hq).2 with ⟨z,hz,e2⟩|h2
   ·refine aA (e2 ..) ?_;exact hpg z hz
   ·rw[ksz] at h2
    exact Nat.ne_of_gt (ZY hgn h2)
  have hpf':∀q∈pf',q.1≠L/\q.1≠a:=fun q hq=>⟨(N' q (ZD _ hq)).2.1,S.ap q hq (a,og) (.head _)⟩
  have hap:∀z∈hold'',∃y∈hold,y.1=z.1:=fun z hz=>by
   have h9:z.1∈hold''.map (·.1):=Zd hz
   rw[K''.fst] at h9
   exact Zc.mp h9
  refine kk (some v) ((a,og)::(L,oL')::pf') ((gn,gs')::pg') hold'' (sj1.setGen gn gs') ⟨by refine aa (S.eq ..) ?_;rfl,mv,fun q hq=>?_,K''⟩ ⟨A.fr.kept K'',S.F.keep,Exists.kept A.top K'',fun q hq=>?_,fun q hq z hz=>?_⟩ (hR oL' nL' hpf' ngn)
  ·rcases ZT.mp hq with rfl|hq
   ·exact⟨jz hrun,.inl ⟨_,.head _,rfl⟩⟩
   ·refine⟨dB (S.inn q hq).1 (ngn q hq),(S.inn q hq).2.imp (fun hZ6=>by obtain⟨z,hz,e⟩:=hZ6;exact⟨z,.tail _ hz,e⟩) fun h=>?_⟩
    rwa [ksz] at h
  ·have key:∀q∈pf'++(a,og)::hold'',sj1.heap.get? q.1=some q.2/\o.g.get? q.1=none:=fun q hq=>⟨(N' q hq).1,(N' q hq).2.2⟩
   rcases ZT.mp hq with rfl|hq
   ·exact key _ (ZC _ (.head _))
   ·rcases ZT.mp hq with rfl|hq
    ·exact⟨eL',Zs S.F.above⟩
    ·rcases ZS.mp hq with h|h
     ·exact key _ (ZD _ h)
     ·exact key _ (ZC _ (.tail _ h))
  ·obtain⟨y,hy,ey⟩:=hap z hz
   refine aA (ey ..) ?_
   rcases ZT.mp hq with rfl|hq
   ·exact A.ap (a,og) (.head _) y hy
   ·rcases ZT.mp hq with rfl|hq
    ·exact A.ap (L,oL) (.tail _ (.head _)) y hy
    ·exact S.ap q hq y (.tail _ hy)
 ·rintro r sj1 ⟨hr,⟨m',S⟩,hR⟩
  refine⟨hr,fun h'' hk O=>?_⟩
  obtain⟨hold',N',K'⟩:=S.N
  obtain⟨hold'',rfl,K''⟩:=K'.consOff haF
  obtain⟨mv,hrun⟩:=aN.wake (gs':=.finished) hgs hpg vT S.mv
  exact kk none [] [] hold'' _ ⟨by refine aa (S.eq ..) ?_;rfl,mv,fun O h=>(nomatch h),K''⟩ ⟨A.fr.kept K'',fun b o e=>hk b o (S.F.keep b o e),Exists.kept A.top K'',fun q hq=>⟨hk _ _ (N' q (.tail _ hq)).1,(N' q (.tail _ hq)).2.2⟩,fun O h=>nomatch h⟩ hR
end
noncomputable def ku(w:World)(lvl:Nat)(b a:Addr)(D:DC)(l:LD)(own:AO)(pg:Gs):Prop :=
 ∃(gn:Nat) (og:Obj) (L:Addr) (oL:Obj) (m:OV) (pf:AO) (gs:GenState) (pgI:Gs),own=(a,og)::(L,oL)::pf/\pg=(gn,gs)::pgI/\m6 a gn og/\b<=L/\(∀h:Heap,h.get? L=some oL->h.Ns L m)/\a≠L/\(∀q∈pf,q.1≠L/\q.1≠a)/\gs.bare=true/\(∀q∈pgI,q.1≠gn)/\bG w lvl b L D l m pf pgI gs
section
variable{w:World}{lvl:Nat}{a b:Addr}{D D':DC}{z:Int}{l:LD}{own:AO}{pg:Gs}{X:Around->(Option Value->Shared->Prop)->Shared->Prop}{j:Nat}
theorem ku.nil(h:ku w lvl b a D [] own pg)(hX:pN w a j X)(hj:j<=50):bI w (lvl+1) X own pg (fun n hold=>n<=b/\D hold) (fun O r O O=>r=none):=by
 obtain⟨gn,og,L,oL,m,pf,gs,pgI,rfl,rfl,hog,hbL,hns,haL,hpf,hb,hpg,ok⟩:=h
 exact jp hX hj hog hbL hns haL hpf hpg (fun n hold h=>h.1) (R:=fun r O O=>r=none) fun k gj0 h' h1 h2=>(ok k h' h1 h2.2).mono (fun r s' hr=>⟨hr.1,hr.2,rfl⟩) fun O O O h=>h.elim
theorem ku.cons(h:ku w lvl b a D ((z,D')::l) own pg)(hX:pN w a j X)(hj:j<=50):bI w (lvl+1) X own pg (fun n hold=>n<=b/\D hold) (fun O r own' pg'=>(∃t,r=some (.int z t))/\ku w lvl b a D' l own' pg'):=by
 obtain⟨gn,og,L,oL,m,pf,gs,pgI,rfl,rfl,hog,hbL,hns,haL,hpf,hb,hpg,ok⟩:=h
 exact jp hX hj hog hbL hns haL hpf hpg (fun n hold h=>h.1) (R:=fun r own' pg'=>(∃t,r=some (.int z t))/\ku w lvl b a D' l own' pg') fun k gj0 h' h1 h2=>(ok k h' h1 h2.2).mono (fun O O h=>h.elim) fun v gs' s' hZ7=>by obtain⟨hb',⟨t,hv⟩,m',pf',pg',S,ok'⟩:=hZ7;exact⟨hb',m',pf',pg',S,fun oL' hns' hpf' hpg'=>⟨⟨t,congrArg some hv⟩,gn,og,L,oL',m',pf',gs',pg',rfl,rfl,hog,hbL,hns',haL,hpf',hb',hpg',ok'⟩⟩
theorem ku.it(l:LD):∀{D:DC} {own:AO} {pg:Gs},ku w lvl b a D l own pg->aE w (lvl+1) b a D l own pg:=by
 induction l with
|nil=>exact fun h=>aE.nil (h.nil (ko w a) (by decide))
|cons q l ih =>
  obtain⟨z,D'⟩:=q
  exact fun h=>aE.cons fun o hold s Q hf A hpg hD k=>h.cons (ko w a) (by decide) o hold s Q hf A hpg hD fun r foot' pg' hold' s' V A' h'=>k r foot' pg' hold' s' V A' ⟨h'.1,ih h'.2⟩
end
section
variable{w:World}{lvl:Nat}{a b L:Addr}{gn:Nat}{og:Obj}
theorem sg(hog:m6 a gn og)(hbL:b<=L)(l:LD)(D:DC)(m:OV)(oL:Obj)(pf:AO)(pg:Gs)(gs:GenState)(hns:∀h:Heap,h.get? L=some oL->h.Ns L m)(haL:a≠L)(hpf:∀q∈pf,q.1≠L/\q.1≠a)(hb:gs.bare=true)(hpg:∀q∈pg,q.1≠gn)(ok:bG w lvl b L D l m pf pg gs) :
  aE w (lvl+1) b a D l ((a,og)::(L,oL)::pf) ((gn,gs)::pg):=ku.it l ⟨gn,og,L,oL,m,pf,gs,pg,rfl,rfl,hog,hbL,hns,haL,hpf,hb,hpg,ok⟩
theorem jW(hog:m6 a gn og){own:AO}:bt w "generator" a ((a,og)::own) where
 ty:=⟨_,slot_gen_next.lookup⟩
 is:=fun s h=>Heap.IsGen.typeIs (hog s.heap (h (a,og) (.head _)))
 self:=fun O s O O h k=>wpAny_pyIter_gen (hog s.heap (h (a,og) (.head _))) k
end
example:True:=by w_top off;trivial
section
variable{w:World}{lvl:Nat}{b L:Addr}{m:OV}{pf:AO}{pg pg' pg'':Gs}{k:Wk w lvl b L m pf pg}{s s':Shared}
structure gQ(k:Wk w lvl b L m pf pg)(pg':Gs)(s:Shared):Prop where
 eq:s={ k.s with heap:=s.heap,gens:=s.gens,drawn:=s.drawn,toks:=s.toks }
 mv:aN pg k.s.gens s.gens
 inn:sJ pg k.s.gens pg' s.gens
theorem gQ.start:gQ k pg k.s:=⟨rfl,.refl _ _,fun q hq=>⟨k.hpg q hq,.inl ⟨q,hq,rfl⟩⟩⟩
theorem gQ.act(M:gQ k pg' s){o:On w}{hold hold':AO}(V:Mv o pg' pg'' hold hold' s s'):gQ k pg'' s' :=
 ⟨by have e:=V.eq;have h3:=M.eq;rw[h3] at e;exact e,M.mv.comp V.gm fun q hq=>(M.inn q hq).2,fun q hq=>⟨(V.pi q hq).1,(V.pi q hq).2.elim (fun hZ8=>by obtain⟨z,hz,e⟩:=hZ8;exact e▸(M.inn z hz).2) fun h=>.inr (ZW M.mv.size h)⟩⟩
theorem gQ.still(M:gQ k pg' s)(e:s'={ s with heap:=s'.heap,gens:=s'.gens,drawn:=s'.drawn,toks:=s'.toks })(mv:aN [] s.gens s'.gens):gQ k pg' s' :=
 M.act (o:=k.o) (hold:=[]) (hold':=[]) ⟨e,aN.trans (.refl _ _) mv,fun q hq=>⟨mv.old _ _ (fun O h=>nomatch h) (M.inn q hq).1,.inl ⟨q,hq,rfl⟩⟩,.nil⟩
theorem gQ.step{κ:CK}{c:Cx w κ}(M:gQ k pg' s)(h0:c.sj0=s)(h:aT c s'):gQ k pg' s':=by
 subst h0
 exact M.still h.eq h.gx
noncomputable def Wk.cx(k:Wk w lvl b L m pf pg)(κ:CK)(η:LQ)(shr:AO)(qn:Str)(fo:Option Addr)(ccd:Value)(cl:List (Str×Addr))(hk:κ.cs.kind=.function)(hlv:κ.lv+1<=lvl)(hn:η.length=κ.n)(hnf:κ.nf=κ.n)(hsh:∀q∈shr,q∈quiet k.o.fr k.hold)
  (hcl:∀x i,κ.cm.lookup x=some i->∃a,η[i]?=some a/\cl.lookup x=some a):Cx w κ :=
 ⟨⟨k.o.p,k.o.loose,k.o.mean,k.o.mg,k.o.mb,k.o.dp+1,k.o.un+3,k.o.gd,{ scope:=κ.cs,locals:=L,globals:=mainGlobals,cells:=cl,qual:=qn,func:=fo,code:=ccd,frame:=some L,builtins:=builtinsNs }::k.o.fr,k.o.g,k.o.X,k.o.T⟩,qn,fo,L,ccd,cl,some L,k.s,η,k.hold,shr,
  fun e he=>(ZT.mp he).elim (fun h=>by subst h;exact⟨by show κ.cs.kind≠_;refine aa (hk ..) ?_;decide,L,vS,.inl rfl⟩) (fun he=>by
    obtain⟨h1,Lj1,o,h2,h3,h4⟩:=k.hfr e he
    exact⟨h1,Lj1,h2,.inr ⟨o,h3,h4⟩⟩),
  hn,hk,by exact Nat.le_of_eq ‹_›,⟨by have:=k.fits.d;show k.o.dp+1+κ.lv<=500;exact(av [.m (.p .a .u) .b,.m (.p .c .b) .l] (.m (.p (.p .c .u) .a) .l)) hlv this,by have:=k.fits.u;show k.o.un+3+50*κ.lv<=9000;exact(av [.m (.p .a .u) .b,.m (.p .c (.k 50 .b)) .G] (.m (.p (.p .c .w) (.k 50 .a)) .G)) hlv this⟩,
  fun q hq=>by
   obtain⟨h1,h2⟩:=ag.mp (hsh q hq)
   exact⟨h1,fun hm=>(ZT.mp (show q.1∈L::aZ k.o.fr from hm)).elim (fun e=>(k.N q (ZC _ h1)).2.1 e) h2⟩,
  hcl⟩
theorem Wk.start(k:Wk w lvl b L m pf pg){κ:CK}{η:LQ}{os:List Obj}{Γo:LO}{l:LV}{qn:Str}{fo:Option Addr}{ccd:Value}{cl:List (Str×Addr)}(hk:κ.cs.kind=.function)(hlv:κ.lv+1<=lvl)(hn:η.length=κ.n)(hnf:κ.nf=κ.n)(hsh:∀q∈η.zip os,q∈quiet k.o.fr k.hold)
  (hcl:∀x i,κ.cm.lookup x=some i->∃a,η[i]?=some a/\cl.lookup x=some a) (hm:cY l η m) (e1:η.length=os.length) (e2:Γo.length=os.length) (hob:cy w η Γo os) (nd:η.Nodup) :
  ad ((k.cx κ η (η.zip os) qn fo ccd cl hk hlv hn hnf hsh hcl).lp η (ZN _) hn pf k.s) ⟨l,Γo⟩ η k.s :=
 .mk m os (pf++k.hold) k.F (fun q hq=>(ZS.mp hq).elim (fun h=>k.N q (ZC _ (ag.mp (hsh q h)).1)) (k.N q)) hm ⟨e1,e2,hob,nd,ZN _,fun q O h=>absurd h (by refine aa (show ({ κ with n:=κ.n }:CK).nf=κ.nf from rfl) (aa (Zo (by exact(av [.e .a .b,.e .c .b] (.m .a .c)) hn hnf) ..) ?_);exact List.not_mem_nil),.refl _,fun i a x O h1 h2=>au h1 h2⟩ ⟨rfl,.refl _ _⟩
theorem rG.off{L:Addr}{frs:List Env}{hold:AO}(H:rG L frs hold){a:Addr}(h:a≠L)(h2:∀z∈hold,a≠z.1):a∉aZ frs:=fun hm=>by
 obtain⟨e,he,he2⟩:=List.mem_filterMap.mp hm
 obtain⟨_,L',h3,h4⟩:=H e he
 rw[he2] at h3;obtain rfl:=ZK h3
 exact h4.elim h fun hZ9=>by obtain⟨o,h5,_⟩:=hZ9;exact h2 _ h5 rfl
theorem ad.sleep{κ:CK}{η:LQ}{shr:AO}{qn:Str}{fo:Option Addr}{ccd:Value}{cl:List (Str×Addr)}{hk:κ.cs.kind=.function}{hlv:κ.lv+1<=lvl}{hn:η.length=κ.n}{hnf:κ.nf=κ.n}{hsh:∀q∈shr,q∈quiet k.o.fr k.hold}{hcl:∀x i,κ.cm.lookup x=some i->∃a,η[i]?=some a/\cl.lookup x=some a}
  {n₁:Nat} {ρ1 ρ:LQ} {hp:(k.cx κ η shr qn fo ccd cl hk hlv hn hnf hsh hcl).ρ0<+:ρ1} {h:ρ1.length=n₁} {own:AO} {sj1:Shared} {Γ:G} (S:ad ((k.cx κ η shr qn fo ccd cl hk hlv hn hnf hsh hcl).lp ρ1 hp h own sj1) Γ ρ s) (M:gQ k pg' s) (ho:∀q∈own,∀z∈k.hold,q.1≠z.1) :
  ∃m',cY Γ.m ρ m'/\Sl k m' own pg' s:=by
 have hfr:=(k.cx κ η shr qn fo ccd cl hk hlv hn hnf hsh hcl).hfr
 obtain⟨m2,os,H,F,N,hm,LY,hs⟩:=S
 obtain⟨o',Hc,rfl,k1,k2⟩:=aw.split LY.kp
 have notL:∀q:Addr×Obj,q∈o'++Hc->q.1≠L:=fun q hq=>(N q (ZC _ hq)).2.1
 have fsts:∀q∈own,q.1≠L:=fun q hq=>by
  obtain⟨sl,h9⟩:=k1.mem (z:=q.1) (o:=q.2) hq
  exact notL (q.1,{ q.2 with slots:=sl }) (ZD _ h9)
 have e:=k1.off fun q hq=>hfr.off (fsts q hq) (ho q hq)
 subst e
 have kp:aw (aZ k.o.fr) k.hold Hc:=k2.less fun q hq hm=>(ZT.mp (show q.1∈L::aZ k.o.fr from hm)).elim (fun e=>absurd e (k.N q (ZC _ hq)).2.1) id
 exact⟨m2,hm,M.eq,F,⟨Hc,fun q hq=>N q (ZC _ hq),kp⟩,ho,M.mv,M.inn⟩
end
section
variable{w:World}{κ:CK}{n₁ nj2:Nat}{c:Cx w κ}{Γ:G}{ρ ρ1 ρ₂:LQ}{s sj1 sj2:Shared}{hp:c.ρ0<+:ρ1}{h:ρ1.length=n₁}{oj1 oj2:AO}
theorem ad.merge{hp2:ρ1<+:ρ₂}{h2:ρ₂.length=nj2}(S:ad ((c.lp ρ1 hp h oj1 sj1).lp ρ₂ hp2 h2 oj2 sj2) Γ ρ s):ad (c.lp ρ1 hp h (oj2++oj1) s) Γ ρ s:=by
 obtain⟨m,os,H,F,N,hm,LY,hs⟩:=S
 have kp:aw (aZ c.o.fr) (oj2++(oj1++c.hold)) H:=LY.kp
 rw[<- List.append_assoc] at kp
 exact .mk m os H F N hm ⟨LY.hl,LY.hg,LY.ho,LY.nd,hp2.trans LY.pre,LY.ap,kp,LY.sh⟩ ⟨rfl,.refl _ _⟩
theorem ad.part(S:ad (c.lp ρ1 hp h (oj2++oj1) sj1) Γ ρ s):ad ((c.lp ρ1 hp h oj1 s).lp ρ1 (ZN _) h oj2 s) Γ ρ s:=by
 obtain⟨m,os,H,F,N,hm,LY,hs⟩:=S
 have kp:aw (aZ c.o.fr) (oj2++oj1++c.hold) H:=LY.kp
 rw[List.append_assoc] at kp
 exact .mk m os H F N hm ⟨LY.hl,LY.hg,LY.ho,LY.nd,LY.pre,LY.ap,kp,LY.sh⟩ ⟨rfl,.refl _ _⟩
end
theorem Sl.drop{w:World}{lvl:Nat}{b L:Addr}{m m':OV}{pf pf':AO}{pg pg':Gs}{k:Wk w lvl b L m pf pg}{s':Shared}(h:Sl k m' pf' pg' s'):∃m',Sl k m' [] [] s':=by
 obtain⟨hold',N,K⟩:=h.N
 exact⟨m',h.eq,h.F,⟨hold',fun q hq=>N q (ZC _ hq),K⟩,fun O h=>(nomatch h),h.mv,fun O h=>nomatch h⟩
theorem ad.offL{w:World}{κ:CK}{n₁:Nat}{c:Cx w κ}{Γ:G}{ρ ρ1:LQ}{s sj1:Shared}{hp:c.ρ0<+:ρ1}{h:ρ1.length=n₁}{own:AO}(S:ad (c.lp ρ1 hp h own sj1) Γ ρ s)(ho:∀q∈own,∀z∈c.hold,q.1≠z.1):∀q∈own,q.1∉aZ c.o.fr/\∀z∈c.hold,q.1≠z.1:=fun q hq=>by
 obtain⟨m,os,H,F,N,hm,LY,hs⟩:=S
 obtain⟨sl,h9⟩:=LY.kp.mem (z:=q.1) (o:=q.2) (ZD _ hq)
 exact⟨c.hfr.off (N (q.1,{ q.2 with slots:=sl }) (ZC _ h9)).2.1 (ho q hq),ho q hq⟩
theorem SV.Is.free{ρ η:LQ}{v:SV}{u:Value}(h:v.Is ρ u)(hf:v.fit 0=true):v.Is η u:=by
 cases h with
|int z t=>exact .int _ _
|ref h=>exact absurd (ZJ hf) (Nat.not_succ_le_zero _)
|val v=>exact .val _
|str x t=>exact .str _ _
theorem cY.free{l l':LV}{ρ η:LQ}{m:OV}(h:cY l ρ m)(hl:rE l l')(hf:l'.all (fun e=>e.2.fit 0)=true):cY l' η m:=fun x v e=>by
 obtain⟨u,h1,h2⟩:=h x v (hl.get e)
 exact⟨u,h1,h2.free (fU hf e)⟩
theorem kJ{η:LQ}{cl:List (Str×Addr)}:∀(x:Str) (i:Nat),([]:List (Str×Nat)).lookup x=some i->∃a,η[i]?=some a/\cl.lookup x=some a:=fun O O h=>nomatch h
theorem ad.tst{w:World}{κ:CK}{c:Cx w κ}{Γ Γ₁:G}{ρ:LQ}{s:Shared}(S:ad c Γ ρ s){e:Expr}{φ:Prop}{Q:Bool->Shared->Prop}{E:VS}(B:cb c Γ e φ Γ₁)(K:∀b ρ' s',ρ<+:ρ'->(b=true<->φ)->ad c Γ₁ ρ' s'->Q b s'):wpAny (model PR w) c.A (isTrue e c.env (eval e c.env)) Q E s:=B ρ s Q E S K
theorem ad.ev{w:World}{κ:CK}{c:Cx w κ}{Γ Γ₁:G}{ρ:LQ}{s:Shared}(S:ad c Γ ρ s){e:Expr}{v:SV}{Q:VS}{E:VS}(B:Ev c Γ e v Γ₁)(K:∀u ρ' s',ρ<+:ρ'->v.Is ρ' u->ad c Γ₁ ρ' s'->Q u s'):wpAny (model PR w) c.A (eval e c.env) Q E s:=B ρ s Q E S K
theorem ip{w:World}{lvl:Nat}{b L:Addr}{m:OV}{pf:AO}{pg:Gs}(k:Wk w lvl b L m pf pg){body:LS}{qual:Str}{scope:Scope}{f:Addr}{cdv:Value}{R:RS}{Y:VG}(lv n:Nat){η:LQ}{os:List Obj}{Γo:LO}{l:LV}(hn:η.length=n)(hsh:∀q∈η.zip os,q∈quiet k.o.fr k.hold)
  (hm:cY l η m) (e1:η.length=os.length) (e2:Γo.length=os.length) (hob:cy w η Γo os) (nd:η.Nodup) (hk:scope.kind=.function) (hlv:lv+1<=lvl)
  (h:∀H,ad ((k.cx ⟨scope,lv,n,n,[]⟩ η (η.zip os) (qual ++ ".<locals>.") (some f) cdv [] hk hlv hn rfl hsh kJ).lp η (ZN _) hn pf k.s) ⟨l,Γo⟩ η k.s->aq (model PR w) k.A R Y (.func body (envOf qual scope L f cdv)) ((execs body (envOf qual scope L f cdv)).wrap (fun f=>.pure (.done (.ret (match f with|.ret v=>v|_=>.none)))) H id id) [] k.s) :
  aq (model PR w) k.A R Y (.func body (envOf qual scope L f cdv)) ((model PR w).den (.func body (envOf qual scope L f cdv))) [] k.s :=
 qc fun H=>h H (k.start (κ:=⟨scope,lv,n,n,[]⟩) (qn:=qual ++ ".<locals>.") (fo:=some f) (ccd:=cdv) (cl:=[]) hk hlv hn rfl hsh (kJ) hm e1 e2 hob nd)
example:True:=by w_top off;trivial
section
variable{prog:Program}{w:World}{A:Around}{E:VS}{s:Shared}
theorem gF{v:Value}{Q:VS}(h:wpAny (model prog w) A.in1 (pyIter v) Q E s):wpAny (model prog w) A (call (.builtin "iter") [v]) Q E s:=by
 refine call_function_entry (by decide +kernel) (by decide +kernel) kdk_entry_iter (kdk_args_iter _) ?_
 unfold Builtin.«iter»
 refine ZL (m:=someArgs "iter" 1 2 _) (wpAny_of_eq (a:=[v]) (by first|rfl|kernel_rfl!) ?_)
 show wpAny _ _ (pyIter v >>= _) _ _ _
 exact ZL (wpAny_mono h (fun it s' h'=>ZM ⟨_,rfl,h'⟩) fun O O z=>z)
end
section
variable{prog:Program}{w:World}{A:Around}{E:VS}{s:Shared}{K:Frag}{x C:Addr}{ox:Obj}{od:Option Obj}
theorem mK{f:Addr}{Q:VS}(X:K.In s.heap)(I:InstAt s.heap x ox C od)
  (hs:findIn K (.ref C) "__iter__"=some (some (.ref f))) (hf:typeIn K (.ref f)=some (.type "function"))
  (h:wpAny (model prog w) A (call (.ref f) [.ref x]) (fun it s'=>∃T' r,s'.TypeIs it T'/\typeLookup (.type T') "__next__"=pure (some r)/\Q it s') E s):wpAny (model prog w) A (pyIter (.ref x)) Q E s:=by
 unfold pyIter
 refine ZL (ZL (I.type.here ((looks_findIn X hs).here ?_)))
 show wpAny (model prog w) A (callSpecialIfBoundUnlessNone? (.ref x) "__iter__" _ >>= _) Q E s
 simp only[callSpecialIfBoundUnlessNone?,bindSpecialIfBound?]
 refine ZL (wpAny_holding (ZL (ZL (ZL (I.type.here ((looks_findIn X hs).here ?_))))))
 dsimp only
 refine ZL (wpAny_askSetting (wpAny_ite ?_))
 have fin:∀(Q2:OQ),(∀it s',(∃T' r,s'.TypeIs it T'/\typeLookup (.type T') "__next__"=pure (some r)/\Q it s')->Q2 (some it) s')->wpAny (model prog w) A (call (.ref f) [.ref x] >>= fun v=>pure (some v)) Q2 E s:=fun Q2 hQ2 =>
  ZL (wpAny_mono h (fun it s' h'=>ZM (hQ2 it s' h')) fun O O z=>z)
 split
 ·refine ZL ((bind_fn X _ hf).here (ZM ?_))
  show wpAny _ _ (if (Value.ref f == Value.none)=true then _ else _) _ _ _
  refine aj (show ¬ ((Value.ref f == Value.none)=true) from Bool.false_ne_true) ?_
  refine fin _ fun it s' h'=>?_
  obtain⟨T',r,hT',hl,hQ⟩:=h'
  exact ZL (wpAny_specialOf hT' hl (ZM hQ))
 ·refine wpAny_tryCatch (ZL ((bind_fn X _ hf).here (ZM ?_)))
  show wpAny _ _ (if (Value.ref f == Value.none)=true then _ else _) _ _ _
  refine aj (show ¬ ((Value.ref f == Value.none)=true) from Bool.false_ne_true) ?_
  refine fin _ fun it s' h'=>?_
  obtain⟨T',r,hT',hl,hQ⟩:=h'
  exact ZL (wpAny_specialOf hT' hl (ZM hQ))
end
section
variable{prog:Program}{w:World}{dp un:Nat}{gd:Option (List Code)}{fr:List Env}{g:Heap}{s:Shared}{foot:AO}{K:Frag}{p:Program}{loose:List Str}{mean:ExcName->Option Value}{mg mb:OV}
 {name qual:Str} {params:Arguments} {body:LS} {scope:Scope} {dV kV doc pm cdv ct oc:Value} {an od:Option Addr} {osl:Array (Option Value)} {f:Addr} {args:Args} {binds:List (Str×Value)} {R:RS}
theorem si(st:g.StaysIn s.heap)(hsz:g.objs.size<=s.heap.objs.size)(X:K.In g)(T:Top p loose mean mg mb g)(hF:d5 g s.heap foot)
  (ho:K.lookup f=some ⟨oc,od,.func (fnOf name qual params body scope dV kV doc pm an cdv ct),osl⟩) (hcd:codeIn K cdv qual=true) (hroom:dp<recursionLimit)
  (hbind:BindsTo s (fnOf name qual params body scope dV kV doc pm an cdv ct) args binds) (hloc:∀y∈binds,scope.names.lookup y.1=some .local)
  (h:∀L' a og hw2 t,s.heap.objs.size<=L'->L'<a->m6 a s.gens.size og->Fr g L' hw2 (fun y=>binds.reverse.lookup y)->News g L' hw2 ((a,og)::foot)->(∀q∈foot,q.1≠L'/\q.1≠a)->s.heap.objs.size<=hw2.objs.size ->
   R (.ok (.ret (.ref a))) { s with gens:=s.gens.push (.fresh (.func body (envOf qual scope L' f cdv))),heap:=hw2,toks:=t })
  (hco:scope.isCoroutine=false) (hgen:scope.isGenerator=true) (hk:scope.kind=.function)
  (hcell:∀x∈scope.names,x.2≠.cell):codeAny (model prog w) (AR dp un gd fr) (.call (.ref f) args) R s:=by
 have Xs:K.In s.heap:=X.keeps st
 refine codeAny_call_generator (fd:=fnOf name qual params body scope dV kV doc pm an cdv ct) (body:=body) hroom (Xs _ _ ho) rfl hco hgen rfl (codeRec_of Xs hcd) (hbind _ _ _ _ ?_)
 refine wpAny_newFunctionEnv hcell hloc (fun h₀ hns0 hsb0=>⟨(T.nolimit.keeps st).fresh _ hsb0,?_⟩) hk
 have keep:∀b o,s.heap.get? b=some o->h₀.get? b=some o:=fun b o e=>hsb0.extBut b o (Zb (Zg e)) (ZR _ e)
 have hsz0:h₀.objs.size=s.heap.objs.size+1:=by exact aa (hsb0.1 ..) (aa (Heap.size_push ..) rfl)
 have hlt:s.heap.objs.size<h₀.objs.size:=by refine aa (hsz0 ..) ?_;exact Nat.lt_succ_self _
 refine h s.heap.objs.size h₀.objs.size { cls:=.type "generator",data:=.fields #[.int s.gens.size 0,.str name (s.toks+binds.length),.str qual (s.toks+binds.length+1)] } _ _ (ZZ _) hlt ?_ ⟨hns0.push _,fun b o e=>ZR _ (keep b o (st b o e)),hsz⟩ ?_ ?_ ?_
 ·intro h' e
  exact⟨_,_,_,e,rfl,rfl,rfl⟩
 ·intro q hq
  rcases ZT.mp hq with rfl|hq
  ·exact⟨Zu _ rfl,Nat.ne_of_gt hlt,Zs (ZW hsz (Zr hlt))⟩
  ·exact⟨ZR _ (keep _ _ (hF q hq).1),Zb (Zg (hF q hq).1),(hF q hq).2⟩
 ·intro q hq
  have h1:=Zg (hF q hq).1
  exact⟨Zb h1,Zb (Nat.lt_trans h1 hlt)⟩
 ·refine aa (Heap.size_push ..) ?_
  exact ZW (Zr hlt) (Nat.le_succ _)
end
section
variable{w:World}{α:Type}{lvl lvl':Nat}{X X':Around->(α->Shared->Prop)->Shared->Prop}{foot:AO}{pg:Gs}{D:Nat->AO->Prop}{Post Post':Nat->α->AO->Gs->Prop}
theorem bI.mono(C:bI w lvl X foot pg D Post)(h:lvl<=lvl')(hP:∀n r f p,Post n r f p->Post' n r f p):bI w lvl' X foot pg D Post' :=
 fun o hold s Q hf A hpg hD k=>C o hold s Q (hf.le h) A hpg hD fun r foot' pg' hold' s' V A' h=>k r foot' pg' hold' s' V A' (hP _ _ _ _ h)
noncomputable def On.un1(o:On w):On w:=⟨o.p,o.loose,o.mean,o.mg,o.mb,o.dp,o.un+1,o.gd,o.fr,o.g,o.X,o.T⟩
theorem On.Fits.un1{o:On w}(h:o.Fits (lvl+1)):o.un1.Fits lvl:=⟨by have:=h.d;show o.dp+lvl<=500;exact Zr ‹_›,by have:=h.u;show o.un+1+50*lvl<=9000;exact(ah [.m (.p .a (.k 50 (.p .b .u))) .G] (.m (.p (.p .a .u) (.k 50 .b)) .G)) this⟩
theorem bI.un1(C:bI w lvl X foot pg D Post)(h:∀(o:On w) Q s,X o.un1.A Q s->X' o.A Q s):bI w (lvl+1) X' foot pg D Post :=
 fun o hold s Q hf A hpg hD k=>h o Q s (C o.un1 hold s Q hf.un1 ⟨A.fr,A.st,A.top,A.ft,A.ap⟩ hpg hD fun r foot' pg' hold' s' V A' h=>k r foot' pg' hold' s' ⟨V.eq,V.gm,V.pi,V.kp⟩ ⟨A'.fr,A'.st,A'.top,A'.ft,A'.ap⟩ h)
end
theorem aE.mono{w:World}{lvl lvl':Nat}(h:lvl<=lvl'){b I:Addr}(l:LD):∀{D:DC} {own:AO} {pg:Gs},aE w lvl b I D l own pg->aE w lvl' b I D l own pg:=by
 induction l with
|nil=>exact fun x=>aE.nil (bI.mono x h fun O O O O z=>z)
|cons q l ih=>obtain⟨z,D'⟩:=q;exact fun x=>aE.cons (bI.mono x h fun O O O O y=>⟨y.1,ih y.2⟩)
theorem du.mono{w:World}{lvl lvl':Nat}{ρ:LQ}{Ok:String->(List SO->Prop)->KL->Prop}{n:Nat}{r:Value}{own:AO}{pg:Gs}(x:du w lvl ρ Ok n r own pg)(h:lvl<=lvl'){n':Nat}(hn:n'<=n):du w lvl' ρ Ok n' r own pg:=by
 obtain⟨T,b,I,K,l,h1,h2,h3,h4,h5⟩:=x
 exact⟨T,b,I,K,l,ZW hn h1,h2,h3,h4,h5.mono h⟩
section
variable{w:World}{κ:CK}{lvl n₁:Nat}{c:Cx w κ}{Γ Γ₁ Γ2 Γ3 Γ4:G}{ρ ρc ρ1:LQ}{s sj1:Shared}{P:SF->G->Prop}{hp:c.ρ0<+:ρ1}{h:ρ1.length=n₁}{own:AO}{σ:LN}{Ok:String->(List SO->Prop)->KL->Prop}
theorem ad.ownAt(S:ad (c.lp ρ1 hp h own sj1) Γ ρ s)(ho:∀q∈own,q.1∉aZ c.o.fr):∀q∈own,s.heap.get? q.1=some q.2:=fun q hq=>by
 obtain⟨m,os,H,F,N,hm,LY,hs⟩:=S
 obtain⟨o',Hc,rfl,k1,k2⟩:=aw.split LY.kp
 have e:=k1.off ho
 subst e
 exact(N q (ZC _ (ZD _ hq))).1
noncomputable def iB(c:Cx w κ)(Γ:G)(e:Expr)(lvl:Nat)(σ:LN)(Ok:String->(List SO->Prop)->KL->Prop)(Γ₁:G):Prop :=
 ∀ρ s (Q:VS) (E:VS),ad c Γ ρ s->(∀it ρ' s',ρ<+:ρ'->dv c lvl σ Ok Γ₁ ρ' it s'->Q (.ref it) s')->wpAny (model PR w) c.A (eval e c.env) Q E s
theorem bH.ofI{e:Expr}(h:iB c Γ e lvl σ Ok Γ₁):bH c Γ e lvl σ Ok Γ₁:=fun ρ s Q E S KK=>h ρ s _ E S fun it ρ' s' hp IH=>by
 have IH':=IH
 cases IH with|mk T b K l own pg ρc hOk hself hit hb n2 p2 hsr hg hg2 ho Sj2 =>
 exact hself.self c.A s' Q E (Sj2.ownAt fun q hq=>(ho q hq).1) (KK it ρ' s' hp IH')
theorem ad.icon{Xc:Around->(VS)->Shared->Prop}{Q:VS}{K₀:OP}(S:ad c Γ ρ s)(C:bI w lvl Xc [] [] (fun O=>dOf w ρc K₀) (du w lvl ρc Ok))(M0:Meets Γ σ K₀)(n2:ρc.length=σ.length)(p2:∀j i:Nat,σ[j]?=some i->ρc[j]?=ρ[i]?)(hlv:lvl<=κ.lv)
  (KK:∀it s',dv c lvl σ Ok Γ ρ it s'->Q (.ref it) s'):Xc c.A Q s:=by
 have Sj0:ad (c.lp c.ρ0 (ZN _) c.len [] s) Γ ρ s:=S.lp S.pre
 refine Sj0.act (fun O h=>nomatch h) C (fun os hold h1 h2 h3 h4=>M0.dOf n2 p2 h1 h2 h3 h4) hlv (fun O h=>nomatch h) (fun r own pg sj2 V hr ho Sj2=>?_)
 obtain⟨T,b,it,K,l,hb,rfl,hOk,hself,hit⟩:=hr
 exact KK it sj2 (.mk T b K l own pg ρc hOk hself hit (ZW (Zr S.ltL) hb) n2 p2 (S.rel.step V fun O h=>nomatch h) (fun q hq=>(V.pi q hq).1) (fun q hq=>(V.pi q hq).2.elim (fun hZ10=>by obtain⟨_,h,_⟩:=hZ10;exact nomatch h) fun h=>ZW S.rel.gx.size h) ho Sj2)
theorem ed(S:ad c Γ ρ s)(hσ:(σ.all fun i=>Nat.blt i Γ.o.length)=true):∃ρc:List Addr,ρc.length=σ.length/\(∀j i:Nat,σ[j]?=some i->ρc[j]?=ρ[i]?)/\(σ.Nodup->ρc.Nodup):=by
 have hlt:∀i∈σ,i<ρ.length:=fun i hi=>by refine aa (S.len ..) ?_;simpa [Nat.blt_eq] using Zp.mp hσ i hi
 obtain⟨ρc,n2,p2⟩:=Mine.qf (os:=ρ) (σ:=σ) hlt
 exact⟨ρc,n2,p2,fun nd=>gE S.nd nd hlt n2 p2⟩
theorem iB.iter{fp pos:Pos}{e:Expr}{v:SV}{K₀:OP}(hf:Ev c Γ (.Name "iter" fp) (.val (.builtin "iter")) Γ)(he:Ev c Γ e (v.ren σ) Γ₁)(B:pJ w lvl v σ.length K₀ Ok)(M0:Meets Γ₁ σ K₀)(hv:v.fit σ.length=true:=by exact vT)(nd:σ.Nodup:=by decide)(hσ:(σ.all fun i=>Nat.blt i Γ₁.o.length)=true:=by exact vT)(hlv:Nat.ble (lvl+1) κ.lv=true:=by exact vT)
  (hst:∀env,starEach [e] env=(false,eval e env)::starEach [] env:=by intros;rfl):iB c Γ (.Call (.Name "iter" fp) [e] [] pos) (lvl+1) σ Ok Γ₁:=fun ρ s Q E S KK =>
 Call_ (hf ρ s _ E S fun u ρ1 sj1 hp1 q1 Sj1=>by
  obtain rfl:=q1.valI
  refine PyProof.Rows.callWith_builtin1 (args_cons (he ρ1 sj1 _ E Sj1 fun u2 ρ₂ sj2 hp2 q2 Sj2=>args_nil ?_) (hst _)) (hst _) rfl
  obtain⟨ρc,n2,p2,ndc⟩:=ed Sj2 hσ
  have C:=bI.un1 (X':=fun A Q s=>∀E:VS,wpAny (model PR w) A (call (.builtin "iter") [u2]) Q E s) (B ρc u2 n2 (ndc nd) (q2.pick p2 hv)) fun o Q s h E=>gF (h E)
  exact Sj2.icon (bI.mono C (ZZ _) fun O O O O h=>h.mono (Nat.le_succ _) (ZZ _)) M0 n2 p2 (ZJ hlv) (fun it s' IH=>KK it ρ₂ s' (hp1.trans hp2) IH) E)
theorem iB.mcall0{o:Expr}{y:Str}{ap pos:Pos}{i d:Nat}{C f:Addr}{as:LV}{K₀:OP}(h:Ev c Γ o (.ref i) Γ₁)(h1:Γ₁.o[i]?=some (.inst C d))(h2:Γ₁.o[d]?=some (.attrs as))(hv:as.lookup y=none)
  (hM:am w C y f) (B:gL w lvl f σ.length K₀ [.ref 0] Ok) (M0:Meets Γ₁ σ K₀) (h0:σ[0]?=some i:=by exact vS) (nd:σ.Nodup:=by decide) (hσ:(σ.all fun i=>Nat.blt i Γ₁.o.length)=true:=by exact vT) (hlv:Nat.ble lvl κ.lv=true:=by exact vT) (he0:bF o y ap [] pos:=by intro;rfl):iB c Γ (.Call (.Attribute o y ap) [] [] pos) lvl σ Ok Γ₁:=fun ρ s Q E S KK =>
 MethodCall_ (he:=he0 _) (h ρ s _ E S fun u ρ1 sj1 hp1 q1 Sj1=>by
  have S1':=Sj1
  obtain⟨m,os,H,F,N,hm,LY,hs⟩:=Sj1
  obtain⟨a,dx,ds,n,ha1,_,hE,_,I⟩:=bf N LY h1 h2
  obtain rfl:=q1.refAt ha1
  refine method_inst F c.o.X I hM.g hM.fd hM.i (cf hE hv) ?_
  refine callWith_K0 (bO S1') hM.k ?_
  obtain⟨ρc,n2,p2,ndc⟩:=ed S1' hσ
  exact wpAny_call (S1'.icon (B ρc [.ref a] n2 (ndc nd) (.cons (.ref ((p2 0 i h0).trans ha1)) .nil)) M0 n2 p2 (ZJ hlv) (fun it s' IH=>KK it ρ1 s' hp1 IH) _ fun O O h=>h))
end
section
variable{w:World}{κ:CK}{lvl:Nat}{c:Cx w κ}{Γ:G}{ρ:LQ}{s s':Shared}{σ:LN}{Ok:String->(List SO->Prop)->KL->Prop}
theorem ad.finL{n₁:Nat}{ρ1:LQ}{hp:c.ρ0<+:ρ1}{h:ρ1.length=n₁}{own own0 hold:AO}{sj1:Shared}{pg pg':Gs}{o:On w}(S:ad (c.lp ρ1 hp h own sj1) Γ ρ s')(ho:∀q∈own,q.1∉aZ c.o.fr/\∀z∈c.hold,q.1≠z.1)(A:At o own0 hold s)(V:Mv o pg pg' [] [] s s')(h2:c.o.g=o.g)(h3:c.hold=hold)(h5:∀b∈aZ c.o.fr,b=c.L\/b∈aZ o.fr) :
  ∃H,Mv o pg pg' hold H s s'/\At o own H s':=by
 subst h3
 obtain⟨m,os,H,F,N,hm,LY,hs⟩:=S
 obtain⟨o',Hc,rfl,k1,k2⟩:=aw.split LY.kp
 have e:=k1.off fun q hq=>(ho q hq).1
 subst e
 have kp:aw (aZ o.fr) c.hold Hc:=k2.less fun q hq hm=>(h5 _ hm).elim (fun e=>by
  obtain⟨sl,h⟩:=k2.mem (z:=q.1) (o:=q.2) hq
  exact absurd e (N (q.1,{ q.2 with slots:=sl }) (ZC _ (ZC _ h))).2.1) id
 refine⟨Hc,⟨V.eq,V.gm,V.pi,kp⟩,⟨A.fr.kept kp,fun b x e=>F.keep b x (by rw[<- h2] at e;exact e),Exists.kept A.top kp,fun q hq=>?_,fun q hq z hz e=>?_⟩⟩
 ·have:=N q (ZC _ hq)
  exact⟨this.1,by refine aA (h2 ..) ?_;exact this.2.2⟩
 ·have h9:z.1∈Hc.map (·.1):=Zd hz
  rw[k2.fst] at h9
  obtain⟨y,hy,ey⟩:=Zc.mp h9
  exact(ho q hq).2 y hy (e.trans ey.symm)
theorem dv.fin{it:Addr}{o:On w}{own0 hold:AO}(IH:dv c lvl σ Ok Γ ρ it s')(A:At o own0 hold s)(h1:c.sj0=s)(h2:c.o.g=o.g)(h3:c.hold=hold)(h5:∀b∈aZ c.o.fr,b=c.L\/b∈aZ o.fr) :
  ∃own pg H ρc,Mv o [] pg hold H s s'/\At o own H s'/\ρc.length=σ.length/\(∀j i:Nat,σ[j]?=some i->ρc[j]?=ρ[i]?)/\du w lvl ρc Ok c.L (.ref it) own pg/\c.ρ0<+:ρ:=by
 subst h1
 cases IH with|mk T b K l own pg ρc hOk hself hit hb n2 p2 hsr hg hg2 ho S =>
 obtain⟨H,V,A'⟩:=S.finL ho A ⟨hsr.eq,hsr.gx,fun q hq=>⟨hg q hq,.inr (hg2 q hq)⟩,.nil⟩ h2 h3 h5
 exact⟨own,pg,H,ρc,V,A',n2,p2,⟨T,b,it,K,l,hb,rfl,hOk,hself,hit⟩,S.pre⟩
end
theorem jR{w:World}{lv lvl:Nat}{f:Addr}{args:LX}{Γo:LO}{Ok:String->(List SO->Prop)->KL->Prop}{name qual:Str}{params:Arguments}{e:Expr}{pos:Pos}{scope:Scope}{dV kV doc pm cdv ct oc:Value}{an od:Option Addr}{osl:Array (Option Value)}(xs:List Str)
  (ho:(hd.heap_1 w.params).lookup f=some ⟨oc,od,.func (fnOf name qual params [.Return (some e) pos] scope dV kV doc pm an cdv ct),osl⟩) (hcd:codeIn (hd.heap_1 w.params) cdv qual=true)
  (hb:∀(s:Shared) us,(hd.heap_1 w.params).In s.heap->us.length=xs.length->BindsTo s (fnOf name qual params [.Return (some e) pos] scope dV kV doc pm an cdv ct) ⟨us,[]⟩ (xs.zip us)) (hx:(xs.all fun x=>decide (scope.names.lookup x=some .local))=true) (nd:xs.Nodup) (hl:xs.length=args.length)
  (H:∀c:Cx w ⟨scope,lv,Γo.length,Γo.length,[]⟩,∃Γ₁,iB c ⟨xs.zip args,Γo⟩ e lvl (List.range Γo.length) Ok Γ₁) (hlv:lvl<=lv+1) (hco:scope.isCoroutine=false) (hgen:scope.isGenerator=false) (hk:scope.kind=.function) (hcell:(scope.names.all fun x=>decide (x.2≠.cell))=true):gL w (lv+1) f Γo.length (·=Γo) args Ok:=by
 intro ρ us e1 ndρ hu o hold s Q hfit A _ hD hret R hR
 obtain⟨l0,os,hl0,e3,e2,hob,hm⟩:=hD
 rw[hl0] at e2 hob
 have hm':=fun q hq=>ag.mp (hm q hq)
 refine gc (shr:=ρ.zip os) (nf:=Γo.length) xs ho hcd (hb s us (o.X.keeps A.st) (by exact aa (svs_len hu ..) (aa (hl ..) rfl))) hx nd hco hgen hk hcell A.fr A.st A.sz (fun q hq=>A.ft q ((ZS.mp hq).elim (fun h=>(hm' q h).1) id)) (fun q hq h=>?_) hfit hu ‹_› e2 hob ndρ (ZZ _) hm' (fun i a x O h1 h2=>au h1 h2) fun c O c1 c2 c3 c4 cL c5 sj1 E hE S=>?_
 ·rw[Zo (by exact Nat.le_of_eq ‹_›)] at h;exact nomatch h
 obtain⟨Γ₁,hev⟩:=H c
 refine wpAny_execs_cons (wpAny_Return_some (hev ρ sj1 _ E S fun it ρ' s' hp IH=>?_))
 obtain⟨own,pg,H2,ρc,V,A2,a8,a9,a10,a11⟩:=IH.fin A c1 c2 c3 c5
 have er:ρc=ρ:=by
  obtain⟨t,ht⟩:=a11
  rw[c4] at ht
  rw[List.length_range] at a8
  refine List.ext_getElem (by exact Eq.trans ‹_› (Eq.symm ‹_›)) fun j h1 h2=>?_
  have h3:=a9 j j (by exact aa (List.getElem?_range (by exact Za ‹_› ‹_›) ..) vS)
  rw[<- ht,ZH h2,ZA h1,ZA h2] at h3
  exact ZK h3
 subst er
 exact hR _ _ (hret (.ref it) own pg H2 s' V A2 (a10.mono hlv cL))
theorem aN.push{G:Array GenState}{x:GenState}(hx:x.bare=true):aN [] G (G.push x):=by
 refine⟨by simp,fun i z O hz=>?_,fun hbare y hy=>?_⟩
 ·obtain⟨hi,_⟩:=Zx.mp hz
  exact aa (Array.getElem?_push_lt hi ..) (aA (hz ..) (aa (Zt hi ..) vS))
 ·rcases Array.mem_push.mp hy with h1|h1
  ·exact hbare y h1
  ·refine aa (h1 ..) ?_;exact hx
def mn(w:World)(lvl:Nat)(ρ:LQ)(K:OP)(l:KL)(n:Nat)(r:Value)(own:AO)(pg:Gs):Prop:=∃b a,n<=b/\r=.ref a/\ku w lvl b a (dOf w ρ K) (dL w ρ l) own pg
noncomputable def pL(w:World)(lvl:Nat)(f:Addr)(n:Nat)(K₀:OP)(args:LX)(K:OP)(l:KL):Prop :=
 ∀ρ us,ρ.length=n->ρ.Nodup->bh ρ args us->bI w (lvl+1) (fA w (.ref f) us []) [] [] (fun O=>dOf w ρ K₀) (mn w lvl ρ K l)
theorem mn.self{w:World}{lvl:Nat}{ρ:LQ}{K:OP}{l:KL}{n:Nat}{r:Value}{own:AO}{pg:Gs}(h:mn w lvl ρ K l n r own pg):∃b a,n<=b/\r=.ref a/\ku w lvl b a (dOf w ρ K) (dL w ρ l) own pg/\bt w "generator" a own:=by
 obtain⟨b,a,h1,h2,h3⟩:=h
 have h3':=h3
 obtain⟨gn,og,L,oL,m,pf,gs,pgI,rfl,_,hog,_⟩:=h3
 exact⟨b,a,h1,h2,h3',jW hog⟩
theorem pL.it{w:World}{lvl:Nat}{f:Addr}{n:Nat}{K₀ K:OP}{args:LX}{l:KL}(C:pL w lvl f n K₀ args K l):gL w (lvl+1) f n K₀ args (fun T K' l'=>T="generator"/\K'=K/\l'=l):=fun ρ us h1 h2 h3=>bI.mono (C ρ us h1 h2 h3) (ZZ _) fun n r own pg h=>by
 obtain⟨b,a,g1,g2,g3,g4⟩:=h.self
 exact⟨_,b,a,K,l,g1,g2,⟨rfl,rfl,rfl⟩,g4,ku.it _ g3⟩
theorem jS{w:World}{lvl:Nat}{f:Addr}{args:LX}{n:Nat}{K₀ K:OP}{l:KL}{name qual:Str}{params:Arguments}{body:LS}{scope:Scope}{dV kV doc pm cdv ct oc:Value}{an od:Option Addr}{osl:Array (Option Value)}(xs:List Str)
  (ho:(hd.heap_1 w.params).lookup f=some ⟨oc,od,.func (fnOf name qual params body scope dV kV doc pm an cdv ct),osl⟩) (hcd:codeIn (hd.heap_1 w.params) cdv qual=true)
  (hb:∀(s:Shared) us,(hd.heap_1 w.params).In s.heap->us.length=xs.length->BindsTo s (fnOf name qual params body scope dV kV doc pm an cdv ct) ⟨us,[]⟩ (xs.zip us)) (hx:(xs.all fun x=>decide (scope.names.lookup x=some .local))=true) (nd:xs.Nodup) (hl:xs.length=args.length)
  (H:∀(ρ:LQ) (us:LW) (L':Addr),ρ.length=n->ρ.Nodup->cY (xs.zip args) ρ (fun y=>(xs.zip us).reverse.lookup y)->bG w lvl L' L' (dOf w ρ K) (dL w ρ l) (fun y=>(xs.zip us).reverse.lookup y) [] [] (.fresh (.func body (envOf qual scope L' f cdv))))
  (hco:scope.isCoroutine=false) (hgen:scope.isGenerator=true) (hk:scope.kind=.function) (hcell:(scope.names.all fun x=>decide (x.2≠.cell))=true):pL w lvl f n K₀ args K l:=by
 intro ρ us e1 ndρ hu o hold s Q hfit A _ _ hret R hR
 refine si (foot:=hold) A.st A.sz o.X o.T (fun q hq=>A.ft q hq) ho hcd (by have:=hfit.d;show o.dp<1000;exact(ah [.m (.p .a (.p .b .u)) .l] (.l .a .q)) this) (hb s us (o.X.keeps A.st) (by exact aa (svs_len hu ..) (aa (hl ..) rfl))) (fun q hq=>of_decide_eq_true (Zp.mp hx _ (Zz hq).1)) (fun L' a og hw2 t hL' hLa hog F' N' hne hs2=>?_) hco hgen hk fun x hx'=>of_decide_eq_true (Zp.mp hcell x hx')
 obtain⟨oL,eL,nL⟩:=cq F'.ns
 have ok:=H ρ us L' e1 ndρ (n8 hu fun i x u h1 h2=>gh nd h1 h2).get
 refine hR _ _ (hret (.ref a) [(a,og),(L',oL)] [(s.gens.size,.fresh (.func body (envOf qual scope L' f cdv)))] hold _ ⟨rfl,aN.push vT,fun q hq=>?_,.refl _⟩ ⟨A.fr,F'.keep,A.top,fun q hq=>?_,fun q hq z hz=>?_⟩ ⟨L',a,hL',rfl,_,og,L',oL,_,[],_,[],rfl,rfl,hog,ZZ _,nL,Nat.ne_of_gt hLa,(fun O h=>nomatch h),vT,(fun O h=>nomatch h),ok⟩)
 ·refine aa (ZP.mp hq ..) ?_
  exact⟨Array.getElem?_push_size ..,.inr (ZZ _)⟩
 ·rcases ZT.mp hq with rfl|hq
  ·exact⟨(N' _ (.head _)).1,(N' _ (.head _)).2.2⟩
  rcases ZT.mp hq with rfl|hq
  ·exact⟨eL,Zs F'.above⟩
  ·exact⟨(N' _ (.tail _ hq)).1,(N' _ (.tail _ hq)).2.2⟩
 ·rcases ZT.mp hq with rfl|hq
  ·exact(hne z hz).2.symm
  ·refine aa (ZP.mp hq ..) ?_
   exact(hne z hz).1.symm
theorem d5.news{g h:Heap}{l:AO}(hF:d5 g h l):News g h.objs.size h l:=fun q hq=>⟨(hF q hq).1,Zb (Zg (hF q hq).1),(hF q hq).2⟩
theorem il{w:World}{lvl:Nat}{C f:Addr}{K₀:OP}{ρ:LQ}{u:Value}{Post:Nat->Value->AO->Gs->Prop}(hs:findIn (hd.heap_1 w.params) (.ref C) "__iter__"=some (some (.ref f)))(hf:typeIn (hd.heap_1 w.params) (.ref f)=some (.type "function"))
  (hK:∀l,K₀ l->∃d as,l[0]?=some (.inst C d)/\l[d]?=some (.attrs as)) (hP:∀n r own pg,Post n r own pg->∃T I,r=.ref I/\bt w T I own) (hu:(SV.ref 0).Is ρ u) (B:bI w lvl (fA w (.ref f) [u] []) [] [] (fun O=>dOf w ρ K₀) Post):bI w lvl (oz w u) [] [] (fun O=>dOf w ρ K₀) Post:=by
 intro o hold s Q hfit A hpg hD k E
 replace hu:=hu.refI;obtain⟨_,rfl,hu⟩:=hu
 have hD':=hD
 obtain⟨l,os,hK0,e3,e2,hob,hm⟩:=hD
 obtain⟨d,as,h1,h2⟩:=hK l hK0
 have l1:=(ZB.mp h1).1
 have l2:=(ZB.mp h2).1
 have o1:os[0]?=some (os[0]'(by exact Za ‹_› ‹_›)):=ZA _
 have o2:os[d]?=some (os[d]'(by exact Za ‹_› ‹_›)):=ZA _
 have r2:ρ[d]?=some (ρ[d]'(by exact(aJ [.e .a .b,.e .c .b,.l .d .c] (.l .d .a)) e3 e2 l2)):=ZA _
 have i1:=hob 0 _ _ h1 o1
 have i2:=hob d _ _ h2 o2
 have m1:=(ag.mp (hm _ (au hu o1))).1
 have m2:=(ag.mp (hm _ (au r2 o2))).1
 generalize os[0]'(by exact Za ‹_› ‹_›)=ox at i1 m1
 generalize os[d]'(by exact Za ‹_› ‹_›)=od at i2 m2
 obtain⟨_,rfl,hd1⟩:=i1.instI
 rw[r2] at hd1;obtain rfl:=ZK hd1
 obtain⟨_,_,rfl,hE⟩:=i2.attrsI
 refine mK (o.X.keeps A.st) (InstAt.of_news (d5.news A.ft) m1 m2) hs hf (wpAny_call (B o hold s _ hfit A hpg hD' (fun r own pg hold' s' V A' a7=>?_) _ fun O O h=>h))
 have a7':=a7
 obtain⟨T',I,rfl,hself⟩:=hP _ _ _ _ a7
 obtain⟨r',hl'⟩:=hself.ty
 exact⟨T',r',hself.is _ fun q hq=>(A'.ft q (ZD _ hq)).1,hl',k _ own pg hold' s' V A' a7'⟩
theorem cK{w:World}{lvl n:Nat}{C f:Addr}{K₀:OP}{Ok:String->(List SO->Prop)->KL->Prop}(hs:findIn (hd.heap_1 w.params) (.ref C) "__iter__"=some (some (.ref f)))(hf:typeIn (hd.heap_1 w.params) (.ref f)=some (.type "function"))
  (hK:∀l,K₀ l->∃d as,l[0]?=some (.inst C d)/\l[d]?=some (.attrs as)) (B:gL w lvl f n K₀ [.ref 0] Ok):pJ w lvl (.ref 0) n K₀ Ok:=fun ρ u e1 ndρ hu =>
 il hs hf hK (fun O O O O hZ11=>by obtain⟨T,_,I,_,_,_,h1,_,h2,_⟩:=hZ11;exact⟨T,I,h1,h2⟩) hu (B ρ [u] e1 ndρ (.cons hu .nil))
example:True:=by w_top off;trivial
theorem jd(w:World)(bs:LI):gL w 2 389 3 (·=ba bs) [.ref 0] (sK 2 bs):=by
 refine' jR (Γo:=ba bs) ["self"] ?ho ?hcd ?hb ?hx ?nd ?hl ?H ?hlv ?c1 ?c2 ?c3 ?c4
 k_extra "cx"
 case hlv=>exact Nat.le_succ 1
 exact fun c=>⟨_,iB.iter (v:=.ref 2) (.bi (by k_is) boot_iter) (.attr (.name vS) vS vS vS (aD w) af) (bC w bs 2 3 (by decide) (K₀:=(·=ba bs)) fun l h=>by refine aa (h ..) ?_;rfl) ⟨ba bs,ab vS vS vS,vT,rfl⟩ (nd:=List.nodup_range)⟩
theorem gp(w:World):am w 514 "_iter_bytes" 389:=⟨by k_is,by k_is,by k_is,by k_is⟩
def KB(N i:Nat)(tl:LI)(l:LO):Prop:=∃bs,l=ba bs/\bs.length=N/\bs.drop i=tl
noncomputable def cX(c:Int)(i:Nat):List Nat:=(List.range' i (8-i)).filter fun j=>Builtin.bitAnd c (1*2^j) != 0
noncomputable def bY(N k:Nat)(c:Int)(i:Nat)(tl:LI):KL:=(cX c i).map fun j:Nat=>(8*(k:Int)+(j:Int),KB N (k+1) tl)
noncomputable def cv(N:Nat):Nat->List Int->KL
|_,[]=>[]
|k,c::tl=>bY N k c 0 tl++cv N (k+1) tl
theorem fD(c:Int)(i:Nat)(hi:i<8):cX c i=if Builtin.bitAnd c (1*2^i)=0 then cX c (i+1) else i::cX c (i+1):=by
 unfold cX
 refine aa (show 8-i=(8-(i+1))+1 by exact(av [.l .a .y,.S .b .y .a,.S .c .y (.p .a .u)] (.e .b (.p .c .u))) hi (bc _ _) (bc _ _)) (aa (List.range'_succ ..) (aa (List.filter_cons ..) ?_))
 by_cases h:Builtin.bitAnd c (1*2^i)=0
 ·exact aa (if_pos h ..) (aa (if_neg (by simpa using h) ..) rfl)
 ·exact aa (if_neg h ..) (aa (if_pos (by simpa using h) ..) rfl)
theorem kF{M:Model}{c:Code}{fs:List Frame}(Inv:Nat->Around->(Result->Shared->Prop)->(Value->GenState->Shared->Prop)->Shared->Prop)
  (step:∀n,(∀n' A R Y s,n'<n->Inv n' A R Y s->aq M A R Y c (M.den c) fs s)->∀A R Y s,Inv n A R Y s->aq M A R Y c (M.den c) fs s):∀n A R Y s,Inv n A R Y s->aq M A R Y c (M.den c) fs s:=by
 intro n
 induction n using Nat.strongRecOn with
|ind n ih=>exact step n fun n' A R Y s hn hI=>ih n' hn A R Y s hI
theorem sY{η ρ ρc:LQ}(h1:η.length=3)(hp:η<+:ρ)(n2:ρc.length=[0,1,2].length)(p2:∀j i:Nat,[0,1,2][j]?=some i->ρc[j]?=ρ[i]?):ρc=η:=by
 obtain⟨t,rfl⟩:=hp
 refine List.ext_getElem? fun j=>?_
 rcases Zq j 3 with hj|hj
 ·have e:[0,1,2][j]?=some j:=by
   rcases j with _|_|_|j
   ·rfl
   ·rfl
   ·rfl
   ·lia
  exact aa (p2 j j e ..) (aa (ZH (by exact Za ‹_› (Eq.symm ‹_›)) ..) rfl)
 ·exact aa (Zh (by simp at n2;exact(ah [.m .w .a,.e .b .w] (.m .b .a)) hj n2) ..) (aa (Zh (by exact(ah [.e .a .w,.m .w .b] (.m .a .b)) h1 hj) ..) rfl)
theorem nP{η ρ:LQ}(h1:η.length=3)(hp:η<+:ρ):∀j i:Nat,[0,1,2][j]?=some i->η[j]?=ρ[i]?:=fun j i h=>by
 obtain⟨t,rfl⟩:=hp
 rcases j with _|_|_|j
 ·obtain rfl:=ZK h;rw[ZH (by exact(ai [.e .a .w] (.l .o .a)) h1)]
 ·obtain rfl:=ZK h;rw[ZH (by exact(ai [.e .a .w] (.l .u .a)) h1)]
 ·obtain rfl:=ZK h;rw[ZH (by exact Nat.le_of_eq (Eq.symm ‹_›))]
 ·exact nomatch h
theorem jO{Γ:G}{bs:LI}{N i:Nat}{tl:LI}(h:Γ.o=ba bs)(hN:bs.length=N)(hd:bs.drop i=tl):Meets Γ [0,1,2] (KT 2 N i tl):=by
 obtain⟨m,o⟩:=Γ
 subst h
 exact⟨ba bs,ab vS vS vS,vT,bs,vS,hN,hd⟩
noncomputable abbrev uo{w:World}{L:Addr}{m:OV}{pf:AO}{pg:Gs}(k:Wk w 3 L L m pf pg)(cs:Scope)(hk:cs.kind=.function)(qn:Str)(fo:Option Addr)(cd:Value)(η:LQ)(shr:AO)(hn:η.length=3)(hsh:∀q∈shr,q∈quiet k.o.fr k.hold):Cx w ⟨cs,2,3,3,[]⟩ :=
 k.cx ⟨cs,2,3,3,[]⟩ η shr qn fo cd [] hk (ZZ 3) hn rfl hsh kJ
section
variable{w:World}{lvl:Nat}{b L:Addr}{m m':OV}{pf pf':AO}{pg pg':Gs}{k:Wk w lvl b L m pf pg}{η:LQ}{Z:KL}{R:RS}{Y:VG}{s:Shared}
theorem bG.mkR{D:DC}{l:LD}{gs:GenState}(h:∀(k:Wk w lvl b L m pf pg) h' R Y,(∀q∈h',q∈quiet k.o.fr k.hold)->D h'->R=GR k l->Y=GY k l->c6 (model PR w) k.A R Y gs k.s):bG w lvl b L D l m pf pg gs:=bG.mk fun k h' h1 h2=>h k h' _ _ h1 h2 rfl rfl
theorem lX{l:LD}{r:Result}(hR:R=GR k l)(hl:l=[])(hr:r=.ok .next\/r=.ok (.ret .none))(h:∃m',Sl k m' [] [] s):R r s:=by subst hR hl;exact⟨rfl,hr,h⟩
theorem uj{D':DC}{l l':LD}(hY:Y=GY k l){z:Int}(hl:l=(z,D')::l'){gs:GenState}{t:Tok}(hb:gs.bare=true)(S:Sl k m' pf' pg' s)(G:bG w lvl b L D' l' m' pf' pg' gs):Y (.int z t) gs s:=by subst hY hl;exact⟨_,_,_,rfl,hb,⟨_,rfl⟩,_,_,_,S,G⟩
theorem oM(hR:R=GR k (dL w η Z))(hZ:Z=[])(h:∃m',Sl k m' [] [] s):R (.ok (.ret .none)) s:=lX hR (by refine aa (hZ ..) ?_;rfl) (.inr rfl) h
theorem rr(hY:Y=GY k (dL w η Z)){z:Int}{K:OP}{Z':KL}(hZ:Z=(z,K)::Z'){gs:GenState}{t:Tok}(hb:gs.bare=true)(S:Sl k m' pf' pg' s)(G:bG w lvl b L (dOf w η K) (dL w η Z') m' pf' pg' gs):Y (.int z t) gs s:=uj hY (by refine aa (hZ ..) ?_;rfl) hb S G
end
section
variable{M:Model}{A:Around}{R:RS}{Y:VG}{c c₁:Code}{fs:List Frame}{s:Shared}{env:Env}{gd:Bool->Bool}{lv:List Value->List Value}{K:Flow->Sem Fin}{H:Value->Sem Fin}
theorem rR{st:Stmt}{rest:LS}(h:∀K':Flow->Sem Fin,K' .next=(execs rest env).wrap K H gd lv->aq M A R Y c ((exec st env).wrap K' H gd lv) fs s):aq M A R Y c ((execs (st::rest) env).wrap K H gd lv) fs s:=cD (h _ rfl)
theorem eU{st:Stmt}(h:∀K':Flow->Sem Fin,K' .next=K .next->aq M A R Y c ((exec st env).wrap K' H gd lv) fs s):aq M A R Y c ((execs [st] env).wrap K H gd lv) fs s:=cD (h _ rfl)
theorem ea{X:Sem Fin}(hK:K .next=X)(hc:aq M A R Y c X fs s):aq M A R Y c (K .next) fs s:=hK▸hc
theorem kE{KK:Result->Sem Fin}{X:Sem Fin}{h g l pj1 kp}(hKK:∀f,KK (.ok f)=K f)(hK:K .next=X)(hc:aq M A R Y c₁ X fs s):aq M A R Y c (leafOf (.ok .next)) (.ret KK h g l c₁ pj1 kp::fs) s :=
 qb _ (((hKK _).trans hK).symm▸hc)
theorem iJ{target:Expr}{iter:Expr}{body orelse:LS}{pos:Pos}(hs:∀x,foldedSetIterable iter env x=pure x)
  (h:wpAny M (A.over c fs) (eval iter env) (fun x sj1=>wpAny M (A.over c fs) (pyIter x) (fun it sj2=>∀(KK:Result->Sem Fin) p,(∀f,KK (.ok f)=K f) ->
   aq M A R Y (.forLoop target it body orelse env) (M.den (.forLoop target it body orelse env)) (.ret KK none (gd false) (lv []) c p []::fs) sj2)
   (fun x s'=>aq M A R Y c (H x) fs s') sj1) (fun x s'=>aq M A R Y c (H x) fs s') s) :
  aq M A R Y c ((exec (.For target iter body orelse pos) env).wrap K H gd lv) fs s :=
 rS hs (wpAny_mono h (fun _ _ h1=>wpAny_mono h1 (fun _ _ h2 kk p hk=>h2 _ p fun f=>by refine aa (hk ..) ?_;rfl) fun _ _ x=>x) fun _ _ x=>x)
end
inductive BO(w:World)(L:Addr)(cs:Scope)(hk:cs.kind=.function)(qn:Str)(fo:Option Addr)(cd:Value)(η:LQ)(hn:η.length=3)(N b I:Nat)(n:Nat)(A:Around)(R:RS)(Y:VG)(s:Shared):Prop
|mk {m:OV} {pf:AO} {pg:Gs} (k:Wk w 3 L L m pf pg) (shr own:AO) (pgI:Gs) (hsh:∀q∈shr,q∈quiet k.o.fr k.hold) (bs:LI) (i:Nat) (tl:LI) (ρ:LQ) (Z:KL) (hn':n=tl.length) (hA:A=k.A) (hR:R=GR k (dL w η Z)) (hY:Y=GY k (dL w η Z)) (hZ:Z=cv N i tl)
   (hN:bs.length=N) (hd:bs.drop i=tl) (hi:aE w 2 b I (dOf w η (KT 2 N i tl)) (dL w η (oy 2 N i tl)) own pgI) (hb:L<=b) (M:gQ k pgI s) (ho:∀q∈own,∀z∈k.hold,q.1≠z.1) (S:ad ((uo k cs hk qn fo cd η shr hn hsh).lp η (ZN _) hn own s) ⟨[("base",.int (8*(i:Int)))],ba bs⟩ ρ s):BO w L cs hk qn fo cd η hn N b I n A R Y s
inductive BI(w:World)(L:Addr)(cs:Scope)(hk:cs.kind=.function)(qn:Str)(fo:Option Addr)(cd:Value)(η:LQ)(hn:η.length=3)(N b I:Nat)(J:Addr)(i:Nat)(c:Int)(tl:LI)(n:Nat)(A:Around)(R:RS)(Y:VG)(s:Shared):Prop
|mk {m:OV} {pf:AO} {pg:Gs} (k:Wk w 3 L L m pf pg) (shr own:AO) (pgI:Gs) (hsh:∀q∈shr,q∈quiet k.o.fr k.hold) (bs:LI) (j:Nat) (ρ:LQ) (Z:KL) (hj:j+n=8) (hA:A=k.A) (hR:R=GR k (dL w η Z)) (hY:Y=GY k (dL w η Z)) (hZ:Z=bY N i c j tl++cv N (i+1) tl)
   (hN:bs.length=N) (hd:bs.drop (i+1)=tl) (hi:aE w 2 b I (dOf w η (KT 2 N (i+1) tl)) (dL w η (oy 2 N (i+1) tl)) own pgI) (hb:L<=b) (M:gQ k pgI s) (ho:∀q∈own,∀z∈k.hold,q.1≠z.1) (hJ:∀z∈own++k.hold,J≠z.1)
   (S:ad ((uo k cs hk qn fo cd η shr hn hsh).lp η (ZN _) hn ([(J,lC j n 1)]++own) s) ⟨[("byte",.int c),("base",.int (8*(i:Int)))],ba bs⟩ ρ s):BI w L cs hk qn fo cd η hn N b I J i c tl n A R Y s
theorem sE{M:Model}{t:Expr}{bd:LS}{env:Env}{fs:List Frame}{w:World}{L:Addr}{cs:Scope}{hk:cs.kind=.function}{qn:Str}{fo:Option Addr}{cd:Value}{η:LQ}{hn:η.length=3}{N b I n:Nat}{A:Around}{R:RS}{Y:VG}{s:Shared}(h0:BO w L cs hk qn fo cd η hn N b I n A R Y s)
  (step:∀n,(∀n' A R Y s,n'<n->BO w L cs hk qn fo cd η hn N b I n' A R Y s->aq M A R Y (.forLoop t (.ref I) bd [] env) (M.den (.forLoop t (.ref I) bd [] env)) fs s)->∀A R Y s,BO w L cs hk qn fo cd η hn N b I n A R Y s->aq M A R Y (.forLoop t (.ref I) bd [] env) (M.den (.forLoop t (.ref I) bd [] env)) fs s) :
  aq M A R Y (.forLoop t (.ref I) bd [] env) (M.den (.forLoop t (.ref I) bd [] env)) fs s:=kF _ step _ _ _ _ _ h0
theorem sH{M:Model}{t:Expr}{bd:LS}{env:Env}{fs:List Frame}{w:World}{L:Addr}{cs:Scope}{hk:cs.kind=.function}{qn:Str}{fo:Option Addr}{cd:Value}{η:LQ}{hn:η.length=3}{N b I J i n:Nat}{c:Int}{tl:LI}{A:Around}{R:RS}{Y:VG}{s:Shared}(h0:BI w L cs hk qn fo cd η hn N b I J i c tl n A R Y s)
  (step:∀n,(∀n' A R Y s,n'<n->BI w L cs hk qn fo cd η hn N b I J i c tl n' A R Y s->aq M A R Y (.forLoop t (.ref J) bd [] env) (M.den (.forLoop t (.ref J) bd [] env)) fs s)->∀A R Y s,BI w L cs hk qn fo cd η hn N b I J i c tl n A R Y s->aq M A R Y (.forLoop t (.ref J) bd [] env) (M.den (.forLoop t (.ref J) bd [] env)) fs s) :
  aq M A R Y (.forLoop t (.ref J) bd [] env) (M.den (.forLoop t (.ref J) bd [] env)) fs s:=kF _ step _ _ _ _ _ h0
theorem sV{w:World}{j:Nat}(h:j<8):cZ w .LShift 1 (j:Int) (1*2^j):=by
 have:=cZ.shl (w:=w) (a:=1) (b:=(j:Int)) (by exact(ai [] (.M .o (.t .a)))) (by
  have e:Builtin.Int.intBits 1=1:=by decide
  refine aa (e ..) ?_;exact(ai [.l .a .y] (.M (.p (.t .u) (.t .a)) (.n 134217728))) h)
 rwa [Int.toNat_natCast] at this
theorem ki(w:World)(bs:LI):pL w 3 306 3 (·=ba bs) [.ref 0] (KB bs.length 0 bs) (cv bs.length 0 bs):=by
 refine' jS ["self"] ?ho ?hcd ?hb ?hx ?nd ?hl ?H ?c1 ?c2 ?c3 ?c4
 k_extra "cx"
 intro η us L hη nd nm
 refine bG.mkR fun k h' R Y hh HD hR hY=>?_
 obtain⟨l,os,⟨bs',rfl,hN,hd⟩,e1,e2,hob,hm⟩:=HD
 have hsh:∀q∈η.zip os,q∈quiet k.o.fr k.hold:=fun q hq=>hh q (hm q hq)
 show aq _ _ _ _ (.func _ _) _ [] k.s
 refine ip k 2 3 hη hsh nm e1 e2 hob nd rfl (ZZ 3) fun H S=>?_
 refine d9 (Sx.assign .intE rfl rfl S fun ρ1 sj1 hp Sj1=>?_)
 refine eU fun K1 hK1=>(iJ (fun O=>rfl) (bH.ofI (σ:=[0,1,2]) (iB.mcall0 (.name rfl) vS vS rfl (gp w) (jd w bs') ⟨ba bs',ab rfl rfl rfl,vT,rfl⟩) ρ1 sj1 _ _ Sj1 fun I ρ₂ sj2 hp2 IH kk1 p1 hkk1=>?_))
 cases IH with|mk T b Kc l own pgI ρc hOk _ hi hb n2 p2 hs hg hg2 ho Sj2 =>
 rw[List.drop_zero] at hd
 subst hd
 have eη:=sY hη Sj2.pre n2 p2
 subst eη
 obtain⟨_,rfl,rfl⟩:=hOk
 have S3:=Sj2.merge
 rw[List.append_nil] at S3
 refine sE (.mk k _ own pgI hsh bs' 0 bs' _ _ rfl rfl hR hY rfl rfl rfl hi hb ⟨hs.eq,hs.gx,fun q hq=>⟨hg q hq,.inr (hg2 q hq)⟩⟩ (fun q hq=>(ho q hq).2) (S3.weak (Γ₁:=⟨[("base",.int (8*((0:Nat):Int)))],ba bs'⟩) ⟨.cons vS .nil,.same⟩ vT vT)) ?_
 clear S Sj1 Sj2 S3 hs hg hg2 ho hi hob hm hh nm hb
 rintro n ih A R Y s ⟨k,shr,own,pgI,hsh,bs,i,tl,ρ,Z,rfl,rfl,hR,hY,hZ,hN,hd,hi,hb,M,ho,S⟩
 refine dU fun H1=>?_
 cases tl with
|nil =>
  refine S.act (S.offL ho) hi (fun os hold h1 h2 h3 h4=>⟨ZW S.above hb,(jO rfl hN hd).dOf hη (nP hη S.pre) h1 h2 h3 h4⟩) (ZZ 2) (fun q hq=>(M.inn q hq).1) (fun r own' pg' s' V hr ho' S'=>?_) _
  subst hr
  intro c'
  obtain⟨m',_,hSl⟩:=S'.sleep (M.act V) fun q hq=>(ho' q hq).2
  exact kE hkk1 hK1 (kG (.ok (.ret .none)) (oM hR hZ hSl.drop))
|cons c tl =>
  refine S.act (S.offL ho) hi (fun os hold h1 h2 h3 h4=>⟨ZW S.above hb,(jO rfl hN hd).dOf hη (nP hη S.pre) h1 h2 h3 h4⟩) (ZZ 2) (fun q hq=>(M.inn q hq).1) (fun r own' pg' s' V hr ho' S'=>?_) _
  obtain⟨⟨t,rfl⟩,hi'⟩:=hr
  have M':=M.act V
  clear M V S
  refine wpAny_assign_Name (S'.put (.int c t) vS fun h3 tk3 S3=>?_)
  refine rR fun K2 hK2=>(iJ (fun O=>rfl) (S3.itR (m8.range1 (n:=8) (.glob (bA w)) .intE (by decide)) fun J ρ4 sj4 hp4 IH kk2 p2 hkk2=>?_))
  have Sj5:=IH.S.merge
  refine sH (.mk k shr own' pg' hsh bs 0 _ Z rfl rfl hR hY hZ hN (by refine aA (List.tail_drop ..) (aa (hd ..) ?_);rfl) hi' hb (M'.step rfl IH.hs) (fun q hq=>(ho' q hq).2) IH.ho.2 (Sj5.weak (Γ₁:=⟨[("byte",.int c),("base",.int (8*(i:Int)))],ba bs⟩) ⟨.cons vS (.cons vS .nil),.same⟩ vT vT)) ?_
  clear Sj5 IH S3 S' M' hi' ho' hi hb ho hN hd hR hY hZ
  rintro n ih2 A R Y s ⟨k,shr,own,pgI,hsh,bs,j,ρ,Z,hj,rfl,hR,hY,hZ,hN,hd,hi,hb,M,ho,hJ,S⟩
  refine dU fun H2=>?_
  have S':=S.part
  cases n with
 |zero =>
   obtain rfl:j=8:=hj
   refine S'.act (S'.offL fun q hq=>by refine aa (ZP.mp hq ..) ?_;exact hJ) (iM w J _ 1) (fun O O O O O O=>trivial) (Zf 2) (fun O h=>nomatch h) (fun r own' pg' s' V hr ho' S'=>?_) _
   obtain⟨rfl,rfl,rfl⟩:=hr
   intro c'
   refine kE hkk2 hK2 (d9 (Sx.aug rfl .intE .add rfl (S'.out ⟨V.eq,V.gm⟩) fun ρ7 sj7 hp7 Sj7=>?_))
   refine bl vT (ih tl.length _ _ _ _ (Nat.lt_succ_self _) (.mk k shr own pgI hsh bs (i+1) tl _ Z rfl rfl hR hY hZ hN hd hi hb (M.step rfl Sj7.rel) ho ((Sj7.re Sj7.pre).weak (Γ₁:=⟨[("base",.int (8*((i+1:Nat):Int)))],ba bs⟩) ⟨.cons (congrArg (fun z=>some (SV.int z)) (by rfl)) .nil,.same⟩ vT vT)))
 |succ n =>
   have hj9:j<8:=by exact(ah [.e (.p .a (.p .b .u)) .y] (.l .a .y)) hj
   have ej:((j:Int)+1)=((j+1:Nat):Int):=by rfl
   refine S'.act (S'.offL fun q hq=>by refine aa (ZP.mp hq ..) ?_;exact hJ) (gg w J _ 1 n) (fun O O O O O O=>trivial) (Zf 2) (fun O h=>nomatch h) (fun r own' pg' s' V hr ho' S'=>?_) _
   obtain⟨⟨t,rfl⟩,rfl,rfl⟩:=hr
   rw[ej] at S'
   have M':=M.still V.eq V.gm
   refine wpAny_assign_Name (S'.put (.int (j:Int) t) vS fun h3 tk3 S3=>?_)
   refine eU fun K3 hK3=>(rj (S3.tst (cb.plain (.iop (.name vS) (.iop .intE (.name vS) (sV hj9)) .and) .int) fun bb ρ4 sj4 hp4 hbb S4=>?_))
   have M4:=M'.step rfl S4.rel
   cases bb with
  |false =>
    have hz:Builtin.bitAnd c (1*2^j)=0:=Decidable.not_not.mp fun h=>Bool.false_ne_true (hbb.mpr h)
    have eL:bY bs'.length i c j tl=bY bs'.length i c (j+1) tl:=by rw[bY,fD _ _ hj9,if_pos hz];rfl
    refine ea hK3 (bl vT (ih2 n _ _ _ _ (Nat.lt_succ_self n) (.mk k shr own pgI hsh bs (j+1) _ Z (by exact(ah [.e (.p .a (.p .b .u)) .y] (.e (.p (.p .a .u) .b) .y)) hj) rfl hR hY (hZ.trans (congrArg (· ++ cv bs'.length (i+1) tl) eL)) hN hd hi hb M4 ho hJ (S4.merge.weak (Γ₁:=⟨[("byte",.int c),("base",.int (8*(i:Int)))],ba bs⟩) ⟨.cons vS (.cons vS .nil),.same⟩ vT vT))))
  |true =>
    have hz:¬Builtin.bitAnd c (1*2^j)=0:=hbb.mp vT
    have eL:bY bs'.length i c j tl=(8*(i:Int)+(j:Int),KB bs'.length (i+1) tl)::bY bs'.length i c (j+1) tl:=by rw[bY,fD _ _ hj9,if_neg hz];rfl
    refine eU fun K4 hK4=>(jy rfl rfl rfl (S4.ev (.iop (.name vS) (.name vS) .add) fun v ρ5 sj5 hp5 hv Sj5 gs' hgs hbare=>?_))
    obtain⟨_,rfl⟩:=hv.intI
    obtain⟨m',nm',hSl⟩:=Sj5.merge.sleep (M'.step rfl Sj5.rel) fun q hq=>(ZT.mp hq).elim (fun e=>by refine aa (e ..) ?_;exact fun z hz=>hJ z (ZC _ hz)) (ho q)
    refine rr hY (hZ.trans (congrArg (· ++ cv bs'.length (i+1) tl) eL)) hbare hSl (bG.mkR fun k2 h2 R2 Y2 hh2 HD2 hR2 hY2=>hgs _ _ _ _ ?_)
    obtain⟨l2,os2,⟨bs2,rfl,hN2,hd2⟩,e1,e2,hob2,hm2⟩:=HD2
    have hsh2:∀q∈ρc.zip os2,q∈quiet k2.o.fr k2.hold:=fun q hq=>hh2 q (hm2 q hq)
    exact ea (hK4.trans hK3) (bl vT (ih2 n _ _ _ _ (Nat.lt_succ_self n) (.mk k2 (ρc.zip os2) own pgI hsh2 bs2 (j+1) _ _ (by exact(ah [.e (.p .a (.p .b .u)) .y] (.e (.p (.p .a .u) .b) .y)) hj) rfl hR2 hY2 rfl hN2 hd2 hi hb gQ.start (fun q hq=>k2.ap q (.tail _ hq)) (fun z hz=>(ZS.mp hz).elim (fun h=>hJ z (ZD _ h)) (k2.ap _ (.head _) z)) (k2.start (by rfl) (by decide) hη (by rfl) hsh2 kJ (nm'.free (.cons vS (.cons vS .nil)) vT) e1 e2 hob2 nd))))
theorem me(w:World)(bs:LI):gL w 4 306 3 (·=ba bs) [.ref 0] (fun T K l=>T="generator"/\K=KB bs.length 0 bs/\l=cv bs.length 0 bs):=(ki w bs).it
example:True:=by w_top off;trivial
section
variable{w:World}{o:On w}{pg pg' pg'':Gs}{hold hold' hold'':AO}{s s' s'':Shared}
theorem Mv.trans(x:Mv o pg pg' hold hold' s s')(y:Mv o pg' pg'' hold' hold'' s' s''):Mv o pg pg'' hold hold'' s s'' :=
 ⟨by have h1:=y.eq;rw[x.eq] at h1;exact h1,x.gm.comp y.gm fun q hq=>(x.pi q hq).2,fun q hq=>⟨(y.pi q hq).1,(y.pi q hq).2.elim (fun hZ12=>by obtain⟨z,hz,e⟩:=hZ12;exact e▸(x.pi z hz).2) fun h=>.inr (ZW x.gm.size h)⟩,x.kp.trans y.kp⟩
theorem Mv.still2{h':Heap}{tk:Tok}(h:∀q∈pg,s.gens[q.1]?=some q.2):Mv o pg pg hold hold s { s with heap:=h',toks:=tk }:=⟨rfl,.refl _ _,fun q hq=>⟨h q hq,.inl ⟨q,hq,rfl⟩⟩,.refl _⟩
theorem i9{fs:LQ}(x:aw fs hold hold'){z:Addr×Obj}(hz:z∈hold'):∃y∈hold,y.1=z.1:=by
 have h9:z.1∈hold'.map (·.1):=Zd hz
 rw[x.fst] at h9
 exact Zc.mp h9
theorem At.give{X a b:AO}(A:At o X hold s)(ha:∀q∈a,q∈X)(hb:∀q∈b,q∈X)(hab:∀q∈a,∀y∈b,q.1≠y.1):At o a (b++hold) s:=by
 obtain⟨q0,h0,h1⟩:=A.top
 refine⟨fun e he=>?_,A.st,⟨q0,ZC _ h0,h1⟩,fun q hq=>A.ft q ?_,fun q hq z hz=>(ZS.mp hz).elim (hab q hq z) (A.ap q (ha q hq) z)⟩
 ·obtain⟨h1,L,ob,h2,h3,h4⟩:=A.fr e he
  exact⟨h1,L,ob,h2,ZC _ h3,h4⟩
 ·exact(ZS.mp hq).elim (fun h=>ZD _ (ha q h)) fun h=>(ZS.mp h).elim (fun h=>ZD _ (hb q h)) (ZC _)
theorem At.back{X a' b H:AO}(A:At o X hold s)(hb:∀q∈b,q∈X)(V:Mv o pg pg' (b++hold) H s s')(A':At o a' H s'):∃hold',H=b++hold'/\Mv o pg pg' hold hold' s s'/\At o (b++a') hold' s'/\∀q∈b,∀y∈a',q.1≠y.1:=by
 obtain⟨b',hold'',rfl,k1,k2⟩:=V.kp.split
 have e:=k1.off fun q hq=>A.fr.off (A.ap q (hb q hq))
 subst e
 refine⟨hold'',rfl,⟨V.eq,V.gm,V.pi,k2⟩,⟨A.fr.kept k2,A'.st,Exists.kept A.top k2,fun q hq=>A'.ft q ?_,fun q hq z hz=>?_⟩,fun q hq y hy e=>A'.ap y hy q (ZD _ hq) e.symm⟩
 ·simp only[ZS] at hq ⊢
  rcases hq with (h|h)|h
  ·exact .inr (.inl h)
  ·exact .inl h
  ·exact .inr (.inr h)
 ·rcases ZS.mp hq with hq|hq
  ·obtain⟨y,hy,ey⟩:=i9 k2 hz
   refine aA (ey ..) ?_
   exact A.ap q (hb q hq) y hy
  ·exact A'.ap q hq z (ZC _ hz)
theorem At.to1{own:AO}(A:At o own hold s):At o.un1 own hold s:=⟨A.fr,A.st,A.top,A.ft,A.ap⟩
theorem At.of1{own:AO}(A:At o.un1 own hold s):At o own hold s:=⟨A.fr,A.st,A.top,A.ft,A.ap⟩
theorem Mv.of1(V:Mv o.un1 pg pg' hold hold' s s'):Mv o pg pg' hold hold' s s':=⟨V.eq,V.gm,V.pi,V.kp⟩
theorem aY{fr:List Env}(x:aw (aZ fr) hold hold'){q:Addr×Obj}(h:q∈quiet fr hold):q∈quiet fr hold' :=
 have y:=ag.mp h
 ag.mpr ⟨x.quiet y.1 y.2,y.2⟩
theorem dOf.mono{ρ:LQ}{K:OP}{h h':AO}(x:dOf w ρ K h)(hs:∀q∈h,q∈h'):dOf w ρ K h':=by
 obtain⟨l,os,h1,h2,h3,h4,h5⟩:=x
 exact⟨l,os,h1,h2,h3,h4,fun q hq=>hs q (h5 q hq)⟩
end
def cG(Z:AO)(D:DC)(l:LD):Prop:=∀h,(∀q∈Z,q∈h)->D h/\∀e∈l,e.2 h
def DS(D:DC)(l:LD)(h:AO):Prop:=∃Z,(∀q∈Z,q∈h)/\cG Z D l
theorem ru{w:World}{ρ:LQ}{K:OP}{l:KL}{h:AO}(h1:dOf w ρ K h)(h2:∀e∈l,dOf w ρ e.2 h):DS (dOf w ρ K) (dL w ρ l) h :=
 ⟨h,fun O h=>h,fun h' hh=>⟨h1.mono hh,fun e he=>by
  obtain⟨x,hx,rfl⟩:=Zc.mp he
  exact(h2 x hx).mono hh⟩⟩
theorem d7{w:World}{lvl:Nat}{b it:Addr}{Post:Nat->Option Value->AO->Gs->Prop}{D:DC}{own ac hold Z:AO}{pg:Gs}{o:On w}{s:Shared}{Q:OQ}(C:bI w lvl (fu w it) own pg (fun n hold=>n<=b/\D hold) Post)(hfit:o.Fits (lvl+1))(A:At o (ac++own) hold s)(hao:∀q∈ac,∀y∈own,q.1≠y.1)(hpg:∀q∈pg,s.gens[q.1]?=some q.2)(hb:o.g.objs.size<=b)(hD:∀h,(∀q∈Z,q∈h)->D h)(hZ:∀q∈Z,q∈quiet o.fr hold)
  (k:∀r own' pg' hold' s',Mv o pg pg' hold hold' s s'->At o (ac++own') hold' s'->(∀q∈ac,∀y∈own',q.1≠y.1)->Post s.heap.objs.size r own' pg'->Q r s'):∀E:VS,wpAny (model PR w) o.un1.A (pyNext (.ref it)) Q E s:=by
 refine C o.un1 (ac++hold) s _ hfit.un1 (A.give (fun q hq=>ZC _ hq) (fun q hq=>ZD _ hq) fun q hq y hy e=>hao y hy q hq e.symm).to1 hpg ⟨hb,hD _ fun q hq=>?_⟩ fun r own' pg' hold' s' V A' hP=>?_
 ·obtain⟨h1,h2⟩:=ag.mp (hZ q hq)
  exact ag.mpr ⟨ZC _ h1,h2⟩
 ·obtain⟨hold'',rfl,V',A'',hao'⟩:=A.back (fun q hq=>ZD _ hq) V.of1 A'.of1
  exact k r own' pg' hold'' s' V' A'' hao' hP
theorem rx{w:World}{lvl:Nat}{b it:Addr}{α:Type}{code:Code}{St:Nat->α->AO->Prop}{f:α->Int->α}{Next:On w->(Result->Shared->Prop)->α->Option Value->Shared->Prop}
  (step:∀(o:On w) (R:RS) s (Q:OQ) n a ac (rest:AO),o.Fits (lvl+1)->St n a ac->d5 o.g s.heap (ac++rest)->(∀r s',Q r s'->Next o R a r s')->(∀E:VS,wpAny (model PR w) o.un1.A (pyNext (.ref it)) Q E s)->codeAny (model PR w) o.A code R s)
  (some_:∀(o:On w) (R:RS) s n a z t (ac own hold:AO),o.Fits (lvl+1)->St (n+1) a ac->At o (ac++own) hold s->(∀q∈ac,∀y∈own,q.1≠y.1)->(∀ac' h' tk',St n (f a z) ac'->At o (ac'++own) hold { s with heap:=h',toks:=tk' }->(∀q∈ac',∀y∈own,q.1≠y.1)->codeAny (model PR w) o.A code R { s with heap:=h',toks:=tk' })->Next o R a (some (.int z t)) s)
  (l:LD):∀(D:DC) (own:AO) (pg:Gs) (a:α) (ac hold Z:AO) (o:On w) (s:Shared) (R:RS),aE w lvl b it D l own pg->o.Fits (lvl+1)->At o (ac++own) hold s->(∀q∈ac,∀y∈own,q.1≠y.1)->(∀q∈pg,s.gens[q.1]?=some q.2)->o.g.objs.size<=b->cG Z D l->(∀q∈Z,q∈quiet o.fr hold)->St l.length a ac ->
   (∀ac' hold' s',Mv o pg [] hold hold' s s'->At o ac' hold' s'->St 0 (l.foldl (fun a e=>f a e.1) a) ac'->Next o R (l.foldl (fun a e=>f a e.1) a) none s')->codeAny (model PR w) o.A code R s:=by
 induction l with
|nil =>
  intro D own pg a ac hold Z o s R hi hfit A hao hpg hb hS hZ hst k
  refine step o R s (Next o R a) _ a ac (own++hold) hfit hst (fun q hq=>A.ft q (by refine aa (List.append_assoc ..) ?_;exact hq)) (fun O O h=>h) (d7 hi hfit A hao hpg hb (fun h hh=>(hS h hh).1) hZ fun r own' pg' hold' s' V A' hao' hP=>?_)
  subst hP
  exact k ac hold' s' ⟨V.eq,V.gm,fun O h=>(nomatch h),V.kp⟩ (A'.sub fun q hq=>ZD _ hq) hst
|cons e l ih =>
  obtain⟨z,D'⟩:=e
  intro D own pg a ac hold Z o s R hi hfit A hao hpg hb hS hZ hst k
  refine step o R s (Next o R a) _ a ac (own++hold) hfit hst (fun q hq=>A.ft q (by refine aa (List.append_assoc ..) ?_;exact hq)) (fun O O h=>h) (d7 hi hfit A hao hpg hb (fun h hh=>(hS h hh).1) hZ fun r own' pg' hold' s' V A' hao' hP=>?_)
  obtain⟨⟨t,rfl⟩,hi'⟩:=hP
  refine some_ o R s' _ a z t ac own' hold' hfit hst A' hao' fun ac' h' tk' hst' A'' hao''=>?_
  have hpg':∀q∈pg',s'.gens[q.1]?=some q.2:=fun q hq=>(V.pi q hq).1
  exact ih D' own' pg' (f a z) ac' hold' Z o _ R hi' hfit A'' hao'' hpg' hb (fun h hh=>⟨(hS h hh).2 _ (.head _),fun e he=>(hS h hh).2 e (.tail _ he)⟩) (fun q hq=>aY V.kp (hZ q hq)) hst' fun ac3 hold3 s3 V3 A3 hst3=>k ac3 hold3 s3 (V.trans ((Mv.still2 hpg').trans V3)) A3 hst3
abbrev pM{w:World}(o:On w)(R:RS)(fin:Fin)(s':Shared):Prop:=match fin with
|.done f=>R (.ok f) s'
|.again c'=>c'.quiet=true/\codeAny (model PR w) o.A c' R s'
theorem fW{w:World}{it:Addr}{id:String}{args:Args}{bi:Builtin}{K:Option Value->Sem Fin}(hb:entryFor table id=some bi)(hp:plainId id=true){o:On w}{R:RS}{s:Shared}{Q:OQ}
  (hK:bi args=pyNext (.ref it) >>= K) (hQ:∀r s',Q r s'->wpAny (model PR w) o.un1.A (K r) (pM o R) (fun e s'=>R (.error e) s') s') (h:∀E:VS,wpAny (model PR w) o.un1.A (pyNext (.ref it)) Q E s):codeAny (model PR w) o.A (.builtin id args) R s:=by
 refine codeAny_builtin hb ?_
 refine aa (Around.under_plainId hp _ ..) (aa (hK ..) ?_)
 exact ZL (wpAny_mono (h _) hQ fun O O z=>z)
example:True:=by w_top off;trivial
noncomputable abbrev On.un2{w:World}(o:On w):On w:=o.un1.un1
theorem l4{w:World}{o:On w}{foot hold:AO}{s:Shared}{u res:Value}{S:Addr}{c:Nat}{R:RS}(A:At o ((S,listOf #[] c)::foot) hold s)(hu:∀a,u=.ref a->a≠S)
  (hT:∀(A:Around) (s':Shared) (Q:VS) (E:VS),(∀q∈foot++hold,s'.heap.get? q.1=some q.2)->(∀t,(t == Value.type "list")=false->(t == Value.type "tuple")=false->Q t s')->wpAny (model PR w) A (typeOf u) Q E s')
  (k:∀E':VS,wpAny (model PR w) o.un1.A (pyIter u) (fun it s2=>wpAny (model PR w) o.un1.A (Builtin.List.listLengthHint u) (fun O s3=>∃own hold3 c3,At o ((S,listOf #[] c3)::own) hold3 s3/\(∀q∈own,q.1≠S) /\
   ∀c' h',At o ((S,listOf #[] c')::own) hold3 { s3 with heap:=h' }->codeAny (model PR w) o.A (.builtin "list.extend.loop" ⟨[.ref S,it,res],[]⟩) R { s3 with heap:=h' }) E' s2) E' s):wpAny (model PR w) o.un1.A (Builtin.List.listExtendWith (.ref S) u res) (pM o R) (fun e s'=>R (.error e) s') s:=by
 unfold Builtin.List.listExtendWith
 refine ZL (hT _ _ _ _ (fun q hq=>(A.ft q (.tail _ hq)).1) fun t ht1 ht2=>?_)
 have h1':Builtin.List.listSameRef (.ref S) u=false:=by
  cases u with
 |ref a=>simp[Builtin.List.listSameRef,Ne.symm (hu a rfl)]
 |_=>rfl
 refine aa (h1' ..) (aa (ht1 ..) (aa (ht2 ..) ?_))
 refine aj Bool.false_ne_true ?_
 refine ZL (wpAny_mono (k _) (fun it s2 h2=>ZL (wpAny_holding (wpAny_mono h2 (fun room s3 h3=>?_) fun O O e=>e))) fun O O e=>e)
 obtain⟨own,hold3,c3,A3,hne,kk⟩:=h3
 have go:∀c' h',At o ((S,listOf #[] c')::own) hold3 { s3 with heap:=h' }->wpAny (model PR w) o.un1.A (again (.builtin "list.extend.loop" ⟨[.ref S,it,res],[]⟩)) (pM o R) (fun e s'=>R (.error e) s') { s3 with heap:=h' }:=fun c' h' A'=>ZM ⟨plainId_quiet F.plain_extend_loop _,kk c' h' A'⟩
 split
 ·refine ZL (wpAny_rule (ZL ?_))
  show wpAny _ _ (updateSeq S (·.push .none) >>= fun O=>updateSeq S (·.pop)) _ _ _
  have hS3:=(A3.ft _ (.head _)).1
  refine ZL (wpAny_updateSeq hS3 rfl ?_)
  have hS4:=ZV (Obj.mapSeq (·.push Value.none)) hS3 rfl
  have A4:=A3.upd (tk:=s3.toks) hne (fun b o hb e=>(Zi _ _ (Ne.symm hb)).trans e) hS4
  refine wpAny_updateSeq (hz:=by seq_fits) hS4 rfl ?_
  have hS5:=ZV (Obj.mapSeq (·.pop)) hS4 rfl
  exact go _ _ (A4.upd (tk:=s3.toks) hne (fun b o hb e=>(Zi _ _ (Ne.symm hb)).trans e) hS5)
 ·exact go c3 s3.heap A3
theorem oj{w:World}{o:On w}{foot hold:AO}{s:Shared}{u:Value}{Q E:VS}(A:At o foot hold s)(hu:∀S,u=.ref S->S≠s.heap.objs.size)
  (hT:∀(A:Around) (s':Shared) (Q:VS) (E:VS),(∀q∈foot++hold,s'.heap.get? q.1=some q.2)->(∀t,(t == Value.type "list")=false->(t == Value.type "tuple")=false->Q t s')->wpAny (model PR w) A (typeOf u) Q E s')
  (k:∀S c h1 (E':VS),At o ((S,listOf #[] c)::foot) hold { s with heap:=h1 }->(∀q∈foot++hold,q.1<S)->wpAny (model PR w) o.un2.A (pyIter u) (fun it s2=>wpAny (model PR w) o.un2.A (Builtin.List.listLengthHint u) (fun O s3=>∃own hold3 c3,At o ((S,listOf #[] c3)::own) hold3 s3/\(∀q∈own,q.1≠S) /\
   ∀c' h',At o ((S,listOf #[] c')::own) hold3 { s3 with heap:=h' }->codeAny (model PR w) o.un1.A (.builtin "list.extend.loop" ⟨[.ref S,it,.none],[]⟩) (wants (fun r sj2=>r=.none/\Q (.ref S) sj2) E) { s3 with heap:=h' }) E' s2) E' { s with heap:=h1 }):wpAny (model PR w) o.A (call (.type "list") [u]) Q E s:=by
 refine callType_codes (Q₁:=fun obj sj1=>obj=.ref s.heap.objs.size/\sj1={ s with heap:=s.heap.push { cls:=.type "list",data:=.seq #[] } }) F.called_list (F.typeCall_list_1 _) F.entry_list_init
  (code_list_new _ ⟨rfl,rfl⟩) fun obj sj1 hj1=>?_
 obtain⟨rfl,rfl⟩:=hj1
 obtain⟨A1,lt⟩:=A.push (tk:=s.toks) { cls:=.type "list",data:=.seq #[] }
 have hS0:=(A1.ft _ (.head _)).1
 refine⟨⟨_,hS0,rfl⟩,F.args_list_init_2 _ _,?_⟩
 generalize s.heap.push { cls:=.type "list",data:=.seq #[] }=h1 at hS0 A1
 generalize s.heap.objs.size=S at *
 show wpAny _ o.un2.A (do let old <- Builtin.List.listItems (.ref S);Builtin.List.listUpdate (.ref S) (fun O=>#[]);letGo old.toList.reverse;Builtin.List.listExtendWith (.ref S) u .none) _ _ _
 refine ZL ?_
 unfold Builtin.List.listItems
 refine ZL (wpAny_seqItems hS0 rfl (ZM ?_))
 show wpAny _ _ (updateSeq S (fun O=>#[]) >>= fun O=>letGo (#[]:Array Value).toList.reverse >>= fun O=>Builtin.List.listExtendWith (.ref S) u .none) _ _ _
 refine ZL (wpAny_updateSeq hS0 rfl ?_)
 have hS2:=ZV (Obj.mapSeq (fun O=>(#[]:Array Value))) hS0 rfl
 have A2:=A1.upd (tk:=s.toks) (fun q hq=>Zb (lt q (ZD _ hq))) (fun b o hb e=>(Zi _ _ (Ne.symm hb)).trans e) hS2
 refine ZL (wpAny_letGo ?_)
 exact l4 A2.to1 (fun a e e2=>hu a e e2) hT fun E'=>wpAny_mono (k S _ _ E' A2 lt) (fun it s2 h2=>wpAny_mono h2 (fun O s3 hZ13=>by obtain⟨own,hold3,c3,A3,hne,kk⟩:=hZ13;exact⟨own,hold3,c3,A3.to1,hne,fun c' h' A'=>kk c' h' A'.of1⟩) fun O O e=>e) fun O O e=>e
theorem eX{w:World}{lvl:Nat}{b it S:Addr}(l:LD){D:DC}{own hold Z:AO}{pg:Gs}{c:Nat}{o:On w}{s:Shared}{R:RS}(hi:aE w lvl b it D l own pg)(hf:o.Fits (lvl+1))(A:At o ((S,listOf #[] c)::own) hold s)(hne:∀q∈own,q.1≠S)(hpg:∀q∈pg,s.gens[q.1]?=some q.2)
  (hb:o.g.objs.size<=b) (hS:cG Z D l) (hZ:∀q∈Z,q∈quiet o.fr hold) (hl:l.length<=1000) {res:Value} (k:∀vs c' hold' s',Mv o pg [] hold hold' s s'->At o [(S,listOf vs.toArray c')] hold' s'->IntsAre vs (l.map (·.1))->R (.ok (.ret res)) s'):codeAny (model PR w) o.A (.builtin "list.extend.loop" ⟨[.ref S,.ref it,res],[]⟩) R s:=by
 refine rx (α:=List Int) (St:=fun n zs ac=>∃vs c,ac=[(S,listOf vs.toArray c)]/\IntsAre vs zs/\zs.length+n<=1000) (f:=fun zs z=>zs++[z]) (Next:=fun o R zs r s'=>wpAny (model PR w) o.un1.A _ (pM o R) (fun e s'=>R (.error e) s') s')
  (fun o R s Q n a ac rest O O O hQ h=>fW F.entry_extend_loop F.plain_extend_loop (K:=fun r=>match r with|none=>ret res|some x=>Builtin.List.listUpdate (.ref S) (·.push x) >>= fun O=>again (.builtin "list.extend.loop" ⟨[.ref S,.ref it,res],[]⟩)) rfl hQ h) ?_ l D own pg [] _ hold Z o s R hi hf A (fun q hq y hy e=>hne y hy (by exact aA (e ..) (aa (ZP.mp hq ..) rfl))) hpg hb hS hZ ⟨[],c,rfl,.nil,by simpa using hl⟩ ?_
 ·rintro o R s n zs z t _ own hold hf ⟨vs,c,rfl,hI,hn⟩ A hao k
  have hS0:=(A.ft (S,listOf vs.toArray c) (.head _)).1
  have hvl:=hI.length
  show wpAny _ _ (updateSeq S (·.push (.int z t)) >>= _) _ _ _
  refine ZL (wpAny_updateSeq hS0 rfl (ZM ⟨plainId_quiet F.plain_extend_loop _,?_⟩) (by show vs.toArray.size<=sizeLine;simp[sizeLine];exact(av [.m (.p .a (.p .b .u)) .q,.e .c .a] (.m .c (.n 16777216))) hn hvl) (by show (vs.toArray.push (.int z t)).size<=sizeLine+1;simp[sizeLine];exact(av [.m (.p .a (.p .b .u)) .q,.e .c .a] (.m .c (.n 16777216))) hn hvl))
  have hS1:=ZV (Obj.mapSeq (·.push (.int z t))) hS0 rfl
  have e9:Obj.mapSeq (·.push (Value.int z t)) (listOf vs.toArray c)=listOf (vs++[Value.int z t]).toArray (c+1):=by
   unfold Obj.mapSeq
   simp
  rw[e9] at hS1
  exact k [(S,listOf (vs++[Value.int z t]).toArray (c+1))] _ s.toks ⟨_,_,rfl,hI.append (.cons _ _ .nil),by simp;exact(ah [.m (.p .a (.p .b .u)) .q] (.m (.p (.p .a .u) .b) .q)) hn⟩ (A.upd (tk:=s.toks) (fun q hq e=>hao _ (.head _) q hq e.symm) (fun b o hb e=>(Zi _ _ (Ne.symm hb)).trans e) hS1) (fun q hq y hy e=>hao (S,listOf vs.toArray c) (.head _) y hy (by exact aA (e ..) (aa (ZP.mp hq ..) rfl)))
 ·rintro ac' hold' s' V A' ⟨vs,c',rfl,hI,_⟩
  refine ZM (k vs c' hold' s' V A' ?_)
  have e:∀(l:LD) (a:LI),l.foldl (fun a e=>a++[e.1]) a=a++l.map (·.1):=by
   intro l
   induction l with
  |nil=>intro a;simp
  |cons e l ih=>intro a;refine aa (List.foldl_cons ..) (aa (ih ..) ?_);simp
  rw[e,List.nil_append] at hI
  exact hI
def s9(w:World)(u:Value)(A:Around)(Q:VS)(s:Shared):Prop:=∀E:VS,wpAny (model PR w) A (call (.type "list") [u]) Q E s
def gK(zs:LI)(_:Nat)(r:Value)(own:AO)(_:Gs):Prop:=∃S vs c,r=.ref S/\own=[(S,listOf vs.toArray c)]/\IntsAre vs zs
theorem mE{w:World}{lvl:Nat}{b it:Addr}{D:DC}{l:LD}{own:AO}{pg:Gs}{T:String}(hself:bt w T it own)(h1:(Value.type T == Value.type "list")=false)(h2:(Value.type T == Value.type "tuple")=false)
  (hint:∀(A:Around) (s:Shared) (Q:Bool->Shared->Prop) (E:VS),s.TypeIs (.ref it) T->(∀r,Q r s)->wpAny (model PR w) A (Builtin.List.listLengthHint (.ref it)) Q E s) (hi:aE w lvl b it D l own pg) (hl:l.length<=1000):bI w (lvl+2) (s9 w (.ref it)) own pg (fun n h=>n<=b/\DS D l h) (gK (l.map (·.1))):=by
 intro o hold s Q hfit A hpg hD k E
 obtain⟨hb,Z,hZ,hS⟩:=hD
 have inO:∀s':Shared,(∀q∈own++hold,s'.heap.get? q.1=some q.2)->s'.TypeIs (.ref it) T:=fun s' h=>hself.is s' fun q hq=>h q (ZD _ hq)
 refine oj A (fun S e=>?_) (fun A' s' Q' E' hh hQ=>wpAny_typeOf (inO s' hh) (hQ _ h1 h2)) fun S c h1 E' A1 lt=>?_
 ·cases e
  obtain⟨ob,hob,_⟩:=inO s fun q hq=>(A.ft q hq).1
  exact Zb (Zg hob)
 ·have hin:∀q∈own,h1.get? q.1=some q.2:=fun q hq=>(A1.ft q (.tail _ (ZD _ hq))).1
  refine hself.self _ _ _ _ hin (hint _ _ _ _ (hself.is _ hin) fun r=>⟨own,hold,c,A1,fun q hq=>Zb (lt q (ZD _ hq)),fun c' h' A'=>?_⟩)
  exact eX l hi hfit.un1 A'.to1 (fun q hq=>Zb (lt q (ZD _ hq))) hpg hb hS hZ hl fun vs c'' hold' s' V A'' hI=>⟨rfl,k _ _ [] hold' s' ⟨V.eq,V.gm,V.pi,V.kp⟩ A''.of1 ⟨S,vs,c'',rfl,rfl,hI⟩⟩
theorem oG{w:World}{it:Addr}(A:Around)(s:Shared)(Q:Bool->Shared->Prop)(E:VS)(hT:s.TypeIs (.ref it) "generator")(k:∀r,Q r s):wpAny (model PR w) A (Builtin.List.listLengthHint (.ref it)) Q E s:=by
 unfold Builtin.List.listLengthHint
 refine ZL (wpAny_specialOf hT F.gen_no_len ?_)
 show wpAny _ _ (specialOf (Value.ref it) (Str.ofString "__length_hint__") >>= _) _ _ _
 exact ZL (wpAny_specialOf hT F.gen_no_hint (ZM (k true)))
example:True:=by w_top off;trivial
inductive tS{w:World}{κ:CK}(c:Cx w κ)(Γ:G):List Expr->Bool->Prop
|nil:tS c Γ [] true
|one {e:Expr} {b:Bool} (h:cb c Γ e (b=true) Γ):tS c Γ [e] b
structure gO(w:World)(κ:CK)(x:Str)(ifs:List Expr)(elt:Expr)(Γo:LO)(zs:LI)(p:Int->Bool)(f:Int->Int):Prop where
 test:∀(c:Cx w κ) z,z∈zs->tS c ⟨[(x,.int z)],Γo⟩ ifs (p z)
 elt:∀(c:Cx w κ) z,z∈zs->p z=true->Ev c ⟨[(x,.int z)],Γo⟩ elt (.int (f z)) ⟨[(x,.int z)],Γo⟩
section
variable{w:World}{κ:CK}{c:Cx w κ}{Γ:G}{ρ:LQ}{s:Shared}
theorem ad.ifs(S:ad c Γ ρ s){ifs:List Expr}{b:Bool}{Q:Bool->Shared->Prop}{E:VS}(h:tS c Γ ifs b)(K:∀ρ' s',ρ<+:ρ'->ad c Γ ρ' s'->Q b s') :
  wpAny (model PR w) c.A (forIn ifs true fun e r=>if r=true then do let ok <- isTrue e c.env (eval e c.env);pure (ForInStep.yield ok) else pure (ForInStep.yield r)) Q E s:=by
 cases h with
|nil=>exact ZM (K ρ s (ZN _) S)
|one h =>
  refine aa (List.forIn_cons ..) ?_
  simp only[if_true]
  refine ZL (ZL (h ρ s _ _ S fun b' ρ' s' hp hb S'=>ZM ?_))
  dsimp only
  refine aa (List.forIn_nil ..) ?_
  have e:b'=b:=Bool.eq_iff_iff.mpr hb
  exact ZM (e▸K ρ' s' hp S')
end
noncomputable def qM(zs:LI)(p:Int->Bool)(f:Int->Int)(DD:DC):List (Int×DC):=(zs.filter p).map fun z=>(f z,DD)
section
variable{w:World}{lvl lS:Nat}{b bS I L:Addr}{κ:CK}{x:Str}{px:Pos}{ifs:List Expr}{elt iter:Expr}{scope:Scope}{pos:Pos}{Γo:LO}{zs:LI}{p:Int->Bool}{f:Int->Int}{η:LQ}{qn:Str}{ccd:Value}{cl:List (Str×Addr)}{DD:DC}
noncomputable abbrev sb(elt:Expr)(x:Str)(px:Pos)(iter:Expr)(ifs:List Expr)(scope:Scope)(pos:Pos):Expr:=.GeneratorExp elt [⟨.Name x px,iter,ifs,0⟩] scope pos
noncomputable abbrev dm(κ:CK)(L:Addr)(qn:Str)(ccd:Value)(cl:List (Str×Addr)):Env:={ scope:=κ.cs,locals:=L,globals:=mainGlobals,cells:=cl,qual:=qn,func:=none,code:=ccd,frame:=some L,builtins:=builtinsNs }
theorem nK{η ρ:LQ}(hp:η<+:ρ)(h:ρ.length=η.length):ρ=η:=(hp.eq_of_length h.symm).symm
theorem qL(Bd:gO w κ x ifs elt Γo zs p f)(hk:κ.cs.kind=.function)(hx:κ.cs.names.lookup x=some .local)(hco:κ.cs.isCoroutine=false)(hlv:κ.lv+1<=lvl)(hlS:lS<=κ.lv)(hn:η.length=κ.n)(hnf:κ.nf=κ.n)(hcl:∀x i,κ.cm.lookup x=some i->∃a,η[i]?=some a/\cl.lookup x=some a)(hb:b<=bS)(hfit:G.fit ⟨[],Γo⟩=true)(hΓ:Γo.length=κ.n)(nd:η.Nodup)
  (l:LD):∀{m:OV} {pf:AO} {pg:Gs} (D:DC) (own:AO) (pgI:Gs) (k:Wk w lvl b L m pf pg) (shr:AO) (hsh:∀q∈shr,q∈quiet k.o.fr k.hold) (s:Shared) (ρ:LQ),aE w lS bS I D l own pgI->(∀e∈l,e.1∈zs)->(∀h,dOf w η (·=Γo) h->D h/\∀e∈l,e.2 h) ->
   gQ k pgI s->(∀q∈own,∀z∈k.hold,q.1≠z.1)->ad ((k.cx κ η shr qn none ccd cl hk hlv hn hnf hsh hcl).lp η (ZN _) hn own s) ⟨[],Γo⟩ ρ s->∀{R Y} {Z:LD},R=GR k Z->Y=GY k Z->Z=qM (l.map (·.1)) p f (dOf w η (·=Γo)) ->
   aq (model PR w) k.A R Y (.compLoop (sb elt x px iter ifs scope pos) 0 (.ref I) .none (dm κ L qn ccd cl)) ((model PR w).den (.compLoop (sb elt x px iter ifs scope pos) 0 (.ref I) .none (dm κ L qn ccd cl))) [] s:=by
 have hD0:∀{os:List Obj} {hold:AO} {ρ:LQ},η<+:ρ->ρ.length=os.length->Γo.length=os.length->cy w ρ Γo os->(∀q∈ρ.zip os,q∈hold)->dOf w η (·=Γo) hold:=fun hp h1 h2 h3 h4=>by
  have e:=nK hp (by exact(c7 [.e .a .b,.e .c .b,.e .d .e,.e .c .e] (.e .d .a)) hn hΓ h1 h2)
  subst e
  exact⟨Γo,_,rfl,h1,h2,h3,h4⟩
 induction l with
|nil =>
  intro m pf pg D own pgI k shr hsh s ρ hi hz hD M ho S R Y Z hR hY hZ
  show aq _ _ _ _ _ ((compTurn (sb elt x px iter ifs scope pos) 0 (.ref I) .none (dm κ L qn ccd cl)).onRaise (leaving (dm κ L qn ccd cl))) [] s
  refine aa (compTurn_gen ..) (aa (Sem.onRaise_eq_wrap ..) ?_)
  refine aC (wpAny_standAt (aC ?_))
  refine S.act (S.offL ho) hi (fun os hold h1 h2 h3 h4=>⟨ZW k.hb hb,(hD _ (hD0 S.pre h1 h2 h3 h4)).1⟩) hlS (fun q hq=>(M.inn q hq).1) (fun r own' pg' s' V hr ho' S'=>?_) _
  subst hr
  obtain⟨m',_,hSl⟩:=S'.sleep (M.act V) fun q hq=>(ho' q hq).2
  exact kG (.ok .next) (lX hR hZ (.inl rfl) hSl.drop)
|cons e l ih =>
  obtain⟨z,D'⟩:=e
  intro m pf pg D own pgI k shr hsh s ρ hi hz hD M ho S R Y Z hR hY hZ
  show aq _ _ _ _ _ ((compTurn (sb elt x px iter ifs scope pos) 0 (.ref I) .none (dm κ L qn ccd cl)).onRaise (leaving (dm κ L qn ccd cl))) [] s
  refine aa (compTurn_gen ..) (aa (Sem.onRaise_eq_wrap ..) ?_)
  refine aC (wpAny_standAt (aC ?_))
  refine S.act (S.offL ho) hi (fun os hold h1 h2 h3 h4=>⟨ZW k.hb hb,(hD _ (hD0 S.pre h1 h2 h3 h4)).1⟩) hlS (fun q hq=>(M.inn q hq).1) (fun r own' pg' s' V hr ho' S'=>?_) _
  obtain⟨⟨t,rfl⟩,hi'⟩:=hr
  have M':=M.act V
  have ho2:∀q∈own',∀z∈k.hold,q.1≠z.1:=fun q hq=>(ho' q hq).2
  have hz':∀e∈l,e.1∈zs:=fun e he=>hz e (.tail _ he)
  have hzz:z∈zs:=hz _ (.head _)
  have hD':∀h,dOf w η (·=Γo) h->D' h/\∀e∈l,e.2 h:=fun h hh=>⟨(hD h hh).2 _ (.head _),fun e he=>(hD h hh).2 e (.tail _ he)⟩
  clear S M V hz hi ho'
  refine aC (wpAny_of_eq (rfl:letOwnedTupleGo (.Name x px) (.ref I) (.int z t)=pure ()) ?_)
  refine aC (wpAny_assign_Name (S'.put (.int z t) hx fun h2 tk2 Sj2=>?_))
  refine aC (Sj2.ifs (Bd.test _ z hzz) fun ρ3 sj3 hp3 S3=>?_)
  have Mj3:=M'.step rfl S3.rel
  by_cases hp:p z=true
  ·have eL:qM (((z,D')::l).map (·.1)) p f (dOf w η (·=Γo))=(f z,dOf w η (·=Γo))::qM (l.map (·.1)) p f (dOf w η (·=Γo)):=by
    unfold qM
    refine aa (List.map_cons ..) (aa (List.filter_cons_of_pos hp ..) ?_);rfl
   refine aa (hp ..) ?_
   simp only[if_true]
   have hy:∀v,yieldOut (dm κ L qn ccd cl) v=yieldValue v:=fun v=>by simp only[yieldOut,hco,Bool.false_eq_true,if_false]
   simp only[hy]
   refine aa (Sem.bind_eq_wrap' ..) (aa (Sem.bind_eq_wrap' ..) (aa (Sem.wrap_wrap ..) (aa (Sem.wrap_wrap ..) ?_)))
   refine dA ?_
   refine S3.ev (Bd.elt _ z hzz hp) fun v ρ4 sj4 hp4 hv S4=>?_
   obtain⟨_,rfl⟩:=hv.intI
   obtain⟨m',_,hSl⟩:=S4.sleep (M'.step rfl S4.rel) ho2
   refine nA (jx rfl rfl rfl fun p=>uj hY (hZ.trans eL) vT hSl (bG.mkR fun k2 h2 R2 Y2 hh2 HD2 hR2 hY2=>?_))
   obtain⟨l2,os2,rfl,e1,e2,hob2,hm2⟩:=HD2
   have hsh2:∀q∈η.zip os2,q∈quiet k2.o.fr k2.hold:=fun q hq=>hh2 q (hm2 q hq)
   exact bl vT (ih D' own' _ k2 (η.zip os2) hsh2 k2.s η hi' hz' hD' gQ.start (fun q hq=>k2.ap q hq) (k2.start hk hlv hn hnf hsh2 hcl (fun O O h=>nomatch h) e1 e2 hob2 nd) hR2 hY2 rfl)
  ·have hpf:p z=false:=by simpa using hp
   have eL:qM (((z,D')::l).map (·.1)) p f (dOf w η (·=Γo))=qM (l.map (·.1)) p f (dOf w η (·=Γo)):=by
    unfold qM
    exact aa (List.map_cons ..) (aa (List.filter_cons_of_neg hp ..) rfl)
   refine aa (hpf ..) ?_
   simp only[Bool.false_eq_true,if_false]
   have Sj5:=S3.weak (Γ₁:=⟨[],Γo⟩) ⟨.nil,.same⟩ hfit (by show Nat.ble κ.n Γo.length=true;refine aa (hΓ ..) ?_;exact Nat.ble_eq.mpr (ZZ _))
   exact bl vT (ih D' own' _ k shr hsh sj3 _ hi' hz' hD' Mj3 ho2 (Sj5.re Sj5.pre) hR hY (hZ.trans eL))
end
example:True:=by w_top off;trivial
section
variable{w:World}{lvl lS:Nat}{b bS I L:Addr}{κ:CK}{x:Str}{px:Pos}{ifs:List Expr}{elt iter:Expr}{scope:Scope}{pos:Pos}{Γo:LO}{zs:LI}{p:Int->Bool}{f:Int->Int}{η:LQ}{qn:Str}{ccd:Value}{cl:List (Str×Addr)}
theorem oJ(Bd:gO w κ x ifs elt Γo zs p f)(hk:κ.cs.kind=.function)(hx:κ.cs.names.lookup x=some .local)(hco:κ.cs.isCoroutine=false)(hlv:κ.lv+1<=lvl)(hlS:lS<=κ.lv)(hn:η.length=κ.n)(hnf:κ.nf=κ.n)(hcl:∀x i,κ.cm.lookup x=some i->∃a,η[i]?=some a/\cl.lookup x=some a)(hb:b<=bS)(hfit:G.fit ⟨[],Γo⟩=true)(hΓ:Γo.length=κ.n)(nd:η.Nodup)
  {l:LD} {D:DC} {own:AO} {pgI:Gs} {m:OV} {T:String} (hself:bt w T I own) (hi:aE w lS bS I D l own pgI) (hz:∀e∈l,e.1∈zs) (hD:∀h,dOf w η (·=Γo) h->D h/\∀e∈l,e.2 h) :
  bG w lvl b L (dOf w η (·=Γo)) (qM (l.map (·.1)) p f (dOf w η (·=Γo))) m own pgI (.fresh (.compStart (sb elt x px iter ifs scope pos) 0 (.ref I) .none (dm κ L qn ccd cl))):=by
 refine bG.mkR fun k h' R Y hh HD hR hY=>?_
 obtain⟨l2,os2,rfl,e1,e2,hob2,hm2⟩:=HD
 have hsh2:∀q∈η.zip os2,q∈quiet k.o.fr k.hold:=fun q hq=>hh q (hm2 q hq)
 have loop:=qL (px:=px) (iter:=iter) (scope:=scope) (pos:=pos) (qn:=qn) (ccd:=ccd) Bd hk hx hco hlv hlS hn hnf hcl hb hfit hΓ nd l D own pgI k (η.zip os2) hsh2 k.s η hi hz hD gQ.start (fun q hq=>k.ap q hq) (k.start hk hlv hn hnf hsh2 hcl (fun O O h=>nomatch h) e1 e2 hob2 nd) hR hY rfl
 show aq _ _ _ _ _ ((compStart (sb elt x px iter ifs scope pos) 0 (.ref I) .none (dm κ L qn ccd cl)).onRaise (leaving (dm κ L qn ccd cl))) [] k.s
 unfold compStart
 refine aa (Sem.onRaise_eq_wrap ..) ?_
 show aq _ _ _ _ _ ((ask >>= _).wrap _ _ _ _) [] k.s
 refine aC (wpAny_askSetting ?_)
 split
 ·exact bl vT loop
 ·refine aC (wpAny_rule ?_)
  show aq _ _ _ _ _ ((standAt iter.pos >>= _).wrap _ _ _ _) [] k.s
  exact aC (wpAny_standAt (aC (hself.self _ _ _ _ (fun q hq=>(k.N q (ZD _ hq)).1) (bl vT loop))))
end
section
variable{w:World}{κ:CK}{c:Cx w κ}{Γ Γ₁:G}{ρ:LQ}{s:Shared}
theorem ad.chg{m:OV}{os:List Obj}{H:AO}(F:Fr c.o.g c.L s.heap m)(N:News c.o.g c.L s.heap (aS ρ os H))(hm:cY Γ.m ρ m)(LY:eK c Γ.o ρ os H)(hs:aT c s){i:Nat}{a:Addr}{o o':Obj}{so:SO}{h':Heap}{tk:Tok}(ha:ρ[i]?=some a)(ho:os[i]?=some o)(hz:κ.nf<=i)(hi:so.Is w ρ o')(hk:Heap.ExtBut a s.heap h')(e:h'.get? a=some o') :
  ad c (Γ.setO i so) ρ { s with heap:=h',toks:=tk }:=by
 have z:=N _ (ZD _ (au ha ho))
 obtain⟨oL,eL,nL⟩:=cq F.ns
 have F':Fr c.o.g c.L h' m:=⟨nL _ (hk _ _ (Ne.symm z.2.1) eL),fun b x eb=>hk b x (fun e2=>by rw[e2,z.2.2] at eb;exact nomatch eb) (F.keep b x eb),F.above⟩
 obtain⟨pre,post,e1,e2,n1,n2⟩:=(LY.upd ha ho o' hz).split
 refine ad.set (s:={ s with heap:=h',toks:=tk }) hm LY hi F' (fun q hq=>?_) (hs.heap h' tk) hz
 rw[e2] at hq
 rw[e1] at N
 rcases ZS.mp hq with hq|hq
 ·exact⟨hk _ _ (n1 q hq) (N q (ZD _ hq)).1,(N q (ZD _ hq)).2⟩
 ·rcases ZT.mp hq with rfl|hq
  ·exact⟨e,z.2⟩
  ·exact⟨hk _ _ (n2 q hq) (N q (ZC _ (.tail _ hq))).1,(N q (ZC _ (.tail _ hq))).2⟩
end
section
variable{w:World}{κ:CK}{n₁:Nat}{c:Cx w κ}{Γ:G}{ρ ρ1:LQ}{s sj1:Shared}{hp:c.ρ0<+:ρ1}{h:ρ1.length=n₁}{own:AO}
theorem ad.fresh(S:ad (c.lp ρ1 hp h own sj1) Γ ρ s){a:Addr}{x:Obj}{h':Heap}{G':Array GenState}{tk:Tok}(ha:s.heap.objs.size<=a)(hk:∀b o,s.heap.get? b=some o->h'.get? b=some o)(e:h'.get? a=some x) :
  ad (c.lp ρ1 hp h ((a,x)::own) { s with heap:=h',gens:=G',toks:=tk }) Γ ρ { s with heap:=h',gens:=G',toks:=tk }/\a∉aZ c.o.fr/\∀z∈c.hold,a≠z.1:=by
 obtain⟨m,os,H,F,N,hm,LY,hs⟩:=S
 have lt:∀q∈aS ρ os H,q.1≠a:=fun q hq=>Zb (ZY (Zg (N q hq).1) ha)
 have ltH:∀z∈c.hold,a≠z.1:=fun z hz e=>by
  obtain⟨sl,h5⟩:=LY.kp.mem (z:=z.1) (o:=z.2) (ZC _ hz)
  exact lt _ (ZC _ h5) e.symm
 have aL:a≠c.L:=Nat.ne_of_gt (ZY F.ns.lt ha)
 obtain⟨oL,eL,nL⟩:=cq F.ns
 refine⟨.mk m os ((a,x)::H) ⟨nL _ (hk _ _ eL),fun b o eb=>hk b o (F.keep b o eb),F.above⟩ (fun q hq=>?_) hm ⟨LY.hl,LY.hg,LY.ho,LY.nd,LY.pre,fun q hq hmm=>?_,.same LY.kp,LY.sh⟩ ⟨rfl,.refl _ _⟩,c.hfr.off aL ltH,ltH⟩
 ·have old:∀q∈aS ρ os H,h'.get? q.1=some q.2/\q.1≠c.L/\c.o.g.get? q.1=none:=fun q hq=>⟨hk _ _ (N q hq).1,(N q hq).2⟩
  rcases ZS.mp hq with hq|hq
  ·exact old q (ZD _ hq)
  ·rcases ZT.mp hq with rfl|hq
   ·exact⟨e,aL,Zs (ZW F.above (ZW (Zr F.ns.lt) ha))⟩
   ·exact old q (ZC _ hq)
 ·rcases ZT.mp hq with rfl|hq
  ·obtain⟨i,hi,e9⟩:=ZF.mp (List.mem_of_mem_drop hmm)
   exact lt _ (ZD _ (au (ρ:=ρ) (os:=os) (ZA hi) (ZA (h:=LY.hl▸hi)))) e9
  ·exact LY.ap q hq hmm
end
abbrev gN(K:Frag)(c P:Addr):Prop:=codeHdIn K c P=true
theorem iz.triples{pos:Pos}{ps:Array Value}(h:iz pos ps):TriplesOk ps.toList:=by
 rcases h with rfl|⟨c',rfl⟩
 ·trivial
 ·exact trivial
theorem gN.isCode{K:Frag}{c P:Addr}{ps:Array Value}{h:Heap}(C:gN K c P)(X:K.In h)(hP:h.get? P=some { cls:=.none,data:=.fields ps })(ht:TriplesOk ps.toList):h.IsCode c P ps/\h.TableAt c P ps:=⟨(codeHd_of_K X C).code hP ht,(codeHd_of_K X C).tab hP⟩
section
variable{w:World}{κ κ':CK}{c:Cx w κ}{Γ Γ₁:G}{lvl lS:Nat}{σ:LN}{Ok:String->(List SO->Prop)->KL->Prop}
def ur(Γo:LO)(zs:LI)(T:String)(K:OP)(l:KL):Prop:=T="generator"/\K=(·=Γo)/\l=zs.map fun z=>(z,(·=Γo))
def tL(c:Cx w κ)(κ':CK)(σ:LN):Prop:=∃cl,closureFor κ'.cs c.env=pure cl/\∀x i,κ'.cm.lookup x=some i->∃j,κ.cm.lookup x=some j/\σ[i]?=some j/\cl.lookup x=c.cl.lookup x
theorem iB.gx{elt iter:Expr}{x:Str}{px pos:Pos}{ifs:List Expr}{Γo:LO}{zs:LI}{p:Int->Bool}{f:Int->Int}{j:Nat}{Pt ca:Addr}(B:bH c Γ iter lS σ Ok Γ₁)(hσ:Fits Γ₁ σ σ Γo)(hft:Γo.all (·.fit Γo.length)=true)(hok:∀T K l,Ok T K l->l.map (·.1)=zs/\K Γo/\∀e∈l,e.2 Γo)(Bd:gO w κ' x ifs elt Γo zs p f)
  (htab:Γ₁.o[j]?=some (.tab j Pt pos)) (hC:gN (hd.heap_1 w.params) ca Pt) (hcode:c.ccd=.ref ca) (hcl:tL c κ' σ) (hz:Nat.ble κ.nf j=true) (hj:j∉σ) (nd:σ.Nodup) (hσl:(σ.all fun i=>Nat.blt i Γ₁.o.length)=true) (hΓ:Γo.length=κ'.n) (hnf:κ'.nf=κ'.n) (hlS:lS<=κ'.lv) (hlv:κ'.lv+1<=lvl)
  (hcell:∀y∈κ'.cs.names,y.2≠.cell) (h0:κ'.cs.names.lookup (".0":Str)=some NameKind.local) (hx:κ'.cs.names.lookup x=some .local) (hk:κ'.cs.kind=.function) (hco:κ'.cs.isCoroutine=false) (hs:∀(env:Env) v,genFold iter env v=pure v) :
  iB c Γ (.GeneratorExp elt [⟨.Name x px,iter,ifs,0⟩] κ'.cs pos) (lvl+1) σ (ur Γo ((zs.filter p).map f)) (Γ₁.setO j (.tab j Pt pos)):=fun ρ s Q E S KK=>by
 obtain⟨cl,hclos,hcm⟩:=hcl
 have hroom:c.A.depth<recursionLimit:=by have:=c.fits.d;show c.o.dp<1000;exact(ah [.m (.p .a .b) .l] (.l .a .q)) this
 refine wpAny_GeneratorExp_make hco hclos hcell h0 hk hroom (wpAny_mono (S.it B fun it ρ₂ sj2 hp IH=>?_) (fun O O h=>h) fun O O e=>e) (hs _)
 cases IH with|mk T bS K l own pgI ρc hOk hself hi hb n2 p2 hsr hg hg2 ho Sj2 =>
 obtain⟨hzs,hK,hKl⟩:=hok T K l hOk
 obtain⟨ρc',n2',p2',ndc⟩:=ed Sj2 hσl
 have eρ:ρc'=ρc:=List.ext_getElem? fun i=>by
  rcases Zq i σ.length with hi|hi
  ·exact aa (p2' i _ (ZA hi) ..) (aa (p2 i _ (ZA hi) ..) rfl)
  ·exact aa (Zh (by exact(av [.e .a .b,.m .b .c] (.m .a .c)) n2' hi) ..) (aa (Zh (by exact(av [.e .a .b,.m .b .c] (.m .a .c)) n2 hi) ..) rfl)
 have nd2:=ndc nd
 rw[eρ] at nd2
 clear ndc eρ p2' n2'
 have next:∀(code:Value) sj3,ad (c.lp c.ρ0 (ZN _) c.len own sj2) (Γ₁.setO j (.tab j Pt pos)) ρ₂ sj3->wpAny (model PR w) c.A (builtinsFor c.env.globals c.env.builtins) (fun bi sj4=>∀h',h'.Ns sj4.heap.objs.size (fun y=>if y=".0" then some (.ref it) else none)->Heap.SameBut sj4.heap.objs.size (sj4.heap.push { cls:=.type "frame",data:=.dict #[] }) h' ->
   Q (.ref h'.objs.size) { sj4 with
     gens:=sj4.gens.push (.fresh (.compStart (.GeneratorExp elt [⟨.Name x px,iter,ifs,0⟩] κ'.cs pos) 0 (.ref it) .none (genEnv κ'.cs cl sj4.heap.objs.size code bi c.env))),
     toks:=sj4.toks+1+1+1,
     heap:=h'.push { cls:=.type "generator",data:=.fields #[.int sj4.gens.size 0,.str "<genexpr>" (sj4.toks+1),.str (c.env.qual ++ "<genexpr>") (sj4.toks+1+1)] } }) E sj3:=by
  intro code sj3 S3
  have S3':=S3
  obtain⟨m,os,H,F,N,hm,LY,hs⟩:=S3
  obtain⟨bm,ob,M⟩:=bmod_of_top c.o.T
  have M3:=M.keeps F.keep
  refine wpAny_builtinsFor M3.ns M3.name M3.ne M3.obj M3.cls M3.dict M3.data ?_
  intro h' hn' hs'
  have hsz:h'.objs.size=sj3.heap.objs.size+1:=by exact aa (hs'.1 ..) (aa (Heap.size_push ..) rfl)
  have keep:∀b o,sj3.heap.get? b=some o->h'.get? b=some o:=fun b o e=>hs'.extBut b o (Zb (Zg e)) (ZR _ e)
  obtain⟨oL,eL,nL⟩:=cq hn'
  obtain⟨S4,f1,f2⟩:=S3'.fresh (G':=sj3.gens) (tk:=sj3.toks) (ZZ _) keep eL
  have hog:m6 h'.objs.size sj3.gens.size { cls:=.type "generator",data:=.fields #[.int sj3.gens.size 0,.str "<genexpr>" (sj3.toks+1),.str (c.env.qual ++ "<genexpr>") (sj3.toks+1+1)] }:=fun h'' e=>⟨_,_,_,e,rfl,rfl,rfl⟩
  obtain⟨Sj5,g1,g2⟩:=S4.fresh (G':=sj3.gens.push (.fresh (.compStart (sb elt x px iter ifs κ'.cs pos) 0 (.ref it) .none (dm κ' sj3.heap.objs.size (c.env.qual ++ "<genexpr>.") code cl)))) (tk:=sj3.toks+1+1+1) (ZZ _) (fun b o e=>ZR { cls:=.type "generator",data:=.fields #[.int sj3.gens.size 0,.str "<genexpr>" (sj3.toks+1),.str (c.env.qual ++ "<genexpr>") (sj3.toks+1+1)] } e) (Zu _ rfl)
  have hcl':∀x i,κ'.cm.lookup x=some i->∃a,ρc[i]?=some a/\cl.lookup x=some a:=fun x i e=>by
   obtain⟨j',e1,e2,e3⟩:=hcm x i e
   obtain⟨a,e4,e5⟩:=c.hcl x j' e1
   exact⟨a,by refine aa (p2 i j' e2 ..) ?_;exact ak S3'.pre e4,e3.trans e5⟩
  have hfl:(dL w ρc l).map (·.1)=zs:=by refine aA (hzs ..) ?_;exact List.map_map
  have ownne:∀q∈own,q.1≠sj3.heap.objs.size/\q.1≠h'.objs.size:=fun q hq=>by
   have h1:q.1<sj3.heap.objs.size:=Zg (S3'.ownAt (fun q hq=>(ho q hq).1) q hq)
   exact⟨Zb h1,by lia⟩
  have pgne:∀q∈pgI,q.1≠sj3.gens.size:=fun q hq=>by
   have:=S3'.rel.gx.old _ _ (fun O h=>nomatch h) (hg q hq)
   exact Zb (Zx.mp this).1
  have hbb:min bS sj3.heap.objs.size<=bS:=Nat.min_le_left _ _
  have ok:=oJ (lvl:=lvl) (L:=sj3.heap.objs.size) (px:=px) (iter:=iter) (scope:=κ'.cs) (pos:=pos) (qn:=c.env.qual ++ "<genexpr>.") (ccd:=code) (cl:=cl) (m:=fun y=>if y=".0" then some (.ref it) else none) Bd hk hx hco hlv hlS (n2.trans (hσ.get.1.trans hΓ)) hnf hcl' hbb (by unfold G.fit;simpa using hft) hΓ nd2 hself hi (fun e he=>by refine aA (hfl ..) ?_;exact Zd he) (fun h hh=>by
   obtain⟨l0,os0,rfl,r1,r2,r3,r4⟩:=hh
   exact⟨⟨l0,os0,hK,r1,r2,r3,r4⟩,fun e he=>by
    obtain⟨y,hy,rfl⟩:=Zc.mp he
    exact⟨l0,os0,hKl y hy,r1,r2,r3,r4⟩⟩)
  rw[hfl] at ok
  have eL:dL w ρc (((zs.filter p).map f).map fun z=>(z,(·=Γo)))=qM zs p f (dOf w ρc (·=Γo)):=by
   show List.map _ (List.map _ (List.map _ _))=List.map _ _
   refine aa (List.map_map ..) (aa (List.map_map ..) ?_);rfl
  refine KK h'.objs.size ρ₂ _ hp (.mk _ (min bS sj3.heap.objs.size) (·=Γo) (((zs.filter p).map f).map fun z=>(z,(·=Γo))) _ ((sj3.gens.size,_)::pgI) ρc ⟨rfl,rfl,rfl⟩ (jW hog) (by refine aa (eL ..) ?_;exact sg hog (Nat.min_le_right _ _) _ _ _ oL own pgI _ nL (by lia) ownne rfl pgne ok) (Nat.le_min.mpr ⟨hb,Zr S3'.ltL⟩) n2 p2 ?_ (fun q hq=>?_) (fun q hq=>?_) (fun q hq=>?_) Sj5)
  ·have V:Mv c.o [] [] [] [] sj2 sj3:=⟨hs.eq,hs.gx,fun O h=>(nomatch h),.nil⟩
   have h1:=hsr.step V fun O h=>nomatch h
   exact⟨by have:=h1.eq;exact aa (this ..) rfl,h1.gx.trans (aN.push vT)⟩
  ·rcases ZT.mp hq with rfl|hq
   ·exact Array.getElem?_push_size ..
   ·have:=hs.gx.old _ _ (fun O h=>nomatch h) (hg q hq)
    obtain⟨h1,_⟩:=Zx.mp this
    show (sj3.gens.push _)[q.1]?=_
    exact aa (Array.getElem?_push_lt h1 ..) (aA (this ..) (aa (Zt h1 ..) vS))
  ·rcases ZT.mp hq with rfl|hq
   ·exact ZW hsr.gx.size hs.gx.size
   ·exact hg2 q hq
  ·rcases ZT.mp hq with rfl|hq
   ·exact⟨g1,g2⟩
   ·rcases ZT.mp hq with rfl|hq
    ·exact⟨f1,f2⟩
    ·exact ho q hq
 obtain⟨m,os,H,F,N,hm,LY,hs⟩:=Sj2
 obtain⟨a,o,ha,hob,hi2,hmem⟩:=LY.slot htab
 obtain⟨_,rfl,hP,ht⟩:=hi2.tabI
 rw[ha] at hP;cases ZK hP
 rename_i ps
 have hP2:=(N _ hmem).1
 obtain⟨hok2,htab2⟩:=gN.isCode hC (c.o.X.keeps F.keep) hP2 ht.triples
 refine⟨c.o.T.nolimit.keeps F.keep,?_⟩
 have hzz:=ZJ hz
 rcases ht with rfl|⟨c',rfl⟩
 ·refine wpAny_genexprCodeX hcode hok2 htab2 rfl fun c' hj3 tkj3 hx3 O O O O htab3 O=>?_
  have e9:(#[]:Array Value) ++ #[rawInt pos.line,rawInt pos.col,Value.ref c']=#[rawInt pos.line,rawInt pos.col,Value.ref c']:=by simp
  rw[e9] at htab3
  exact next (.ref c') _ (ad.chg (tk:=tkj3) F N hm LY hs ha hob hzz (.tab ha (.inr ⟨_,rfl⟩)) hx3 htab3.2)
 ·exact wpAny_genexprCode_hit hcode hok2 (c':=c') (by simp[codeAmong,rawInt]) (next c' _ (.mk m os H F N hm (by
   have:=LY.set (i:=j) (so:=.tab j Pt pos) (o':=tabObj #[rawInt pos.line,rawInt pos.col,c']) (.tab ha (.inr ⟨_,rfl⟩)) hzz
   rwa [show os.set j (tabObj #[rawInt pos.line,rawInt pos.col,c'])=os by
    obtain⟨hi9,e9⟩:=ZB.mp hob
    refine aA (e9 ..) ?_;exact List.set_getElem_self hi9] at this) hs))
end
example:True:=by w_top off;trivial
section
variable{w:World}{κ:CK}{lvl lvl' n₁:Nat}{c:Cx w κ}{Γ Γ₁ Γ2:G}{ρ ρ1:LQ}{s sj1:Shared}{σ:LN}{Ok:String->(List SO->Prop)->KL->Prop}{hp:c.ρ0<+:ρ1}{h:ρ1.length=n₁}{own hold:AO}
theorem dv.use{it:Addr}{α:Type}{Xc:Around->(α->Shared->Prop)->Shared->Prop}{Post:α->AO->Prop}{Q:α->Shared->Prop}(IH:dv c lvl σ Ok Γ ρ it s)
  (C:∀T b K l own pg ρc,Ok T K l->bt w T it own->aE w lvl b it (dOf w ρc K) (dL w ρc l) own pg->bI w lvl' Xc own pg (fun n h=>n<=b/\DS (dOf w ρc K) (dL w ρc l) h) (fun O r own' O=>Post r own')) (hst:∀T K l,Ok T K l->Meets Γ σ K/\∀e∈l,Meets Γ σ e.2) (hlv:lvl'<=κ.lv)
  (KK:∀r own' s',Post r own'->aT c s'->(∀q∈own',q.1∉aZ c.o.fr/\∀z∈c.hold,q.1≠z.1)->ad (c.lp c.ρ0 (ZN _) c.len own' s') Γ ρ s'->Q r s'):Xc c.A Q s:=by
 cases IH with|mk T b K l own pg ρc hOk hself hit hb n2 p2 hsr hg hg2 ho S =>
 obtain⟨h1,h2⟩:=hst T K l hOk
 exact S.act ho (C T b K l own pg ρc hOk hself hit) (fun os hold e1 e2 e3 e4=>⟨ZW S.above hb,ru (h1.dOf n2 p2 e1 e2 e3 e4) fun e he=>(h2 e he).dOf n2 p2 e1 e2 e3 e4⟩) hlv hg fun r own' pg' s' V hP ho' S'=>KK r own' s' hP (hsr.step V hg2) ho' S'
theorem ad.keep{a:Addr}{o:Obj}{so:SO}(S:ad (c.lp c.ρ0 (ZN _) c.len [(a,o)] sj1) Γ ρ s)(hsj1:aT c sj1)(ho:a∉aZ c.o.fr/\∀z∈c.hold,a≠z.1)(hi:so.Is w (ρ++[a]) o):ad c (Γ.addO so) (ρ++[a]) s:=by
 have hs:=(S.out hsj1).rel
 have ho':=S.ownAt fun q hq=>by refine aa (ZP.mp hq ..) ?_;exact ho.1
 obtain⟨m,os,H,F,N,hm,LY,hsl⟩:=S
 obtain⟨o',Hc,rfl,k1,k2⟩:=aw.split LY.kp
 have e:=k1.off fun q hq=>by refine aa (ZP.mp hq ..) ?_;exact ho.1
 subst e
 have apz:∀p∈aS ρ os Hc,p.1≠a:=fun p hp' e=>by
  rcases ZS.mp hp' with hp'|hp'
  ·obtain⟨i,hi',e9⟩:=ZF.mp (Zz hp').1
   rcases Zq i κ.nf with h9|h9
   ·have:=LY.sh i _ _ h9 (ZA hi') (ZA (h:=LY.hl▸hi'))
    exact ho.2 _ (c.hsh _ this).1 (by show a=ρ[i];exact aa (e9 ..) (aa (e ..) rfl))
   ·exact LY.ap (a,o) (ZD _ (.head _)) (bD (by exact aa (ZA hi' ..) (aa (e9 ..) (aa (e ..) vS))) h9)
  ·obtain⟨z,hz,ez⟩:∃z∈c.hold,z.1=p.1:=by
    have h9:p.1∈Hc.map (·.1):=Zd hp'
    rw[k2.fst] at h9
    exact Zc.mp h9
   exact ho.2 z hz (e.symm.trans ez.symm)
 refine ad.add (c:=c) hm ⟨LY.hl,LY.hg,LY.ho,LY.nd,LY.pre,fun q hq=>LY.ap q (ZC _ hq),k2,LY.sh⟩ hi apz F (fun q hq=>N q ?_) hs
 rcases ZT.mp hq with rfl|hq
 ·exact ZC _ (ZD _ (.head _))
 ·exact(ZS.mp hq).elim (ZD _) fun h=>ZC _ (ZC _ h)
noncomputable def Cx.low(c:Cx w κ)(hold shr:AO)(hfr:rG c.L c.o.fr hold)(hsh:∀q∈shr,q∈hold/\q.1∉aZ c.o.fr):Cx w κ:=⟨c.o,c.qn,c.fo,c.L,c.ccd,c.cl,c.frm,c.sj0,c.ρ0,hold,shr,hfr,c.len,c.hk,c.hnf,c.fits,hsh,c.hcl⟩
theorem ad.asLp{shr:AO}{hfr:rG c.L c.o.fr hold}{hsh:∀q∈shr,q∈hold/\q.1∉aZ c.o.fr}(S:ad c Γ ρ s)(e:c.hold=own++hold)(hs:κ.nf=0):ad ((c.low hold shr hfr hsh).lp c.ρ0 (ZN _) c.len own c.sj0) Γ ρ s:=by
 obtain⟨m,os,H,F,N,hm,LY,hs⟩:=S
 have kp:=LY.kp
 rw[e] at kp
 exact .mk m os H F N hm ⟨LY.hl,LY.hg,LY.ho,LY.nd,LY.pre,LY.ap,kp,fun i O O h=>absurd h (by lia)⟩ ⟨hs.eq,hs.gx⟩
end
example:True:=by w_top off;trivial
def rC(w:World)(id:String)(args:LW)(A:Around)(Q:VS)(s:Shared):Prop:=∀E:VS,wpAny (model PR w) A (call (.builtin id) args) Q E s
theorem pA{w:World}{lvl:Nat}{b it:Addr}(l:LD):∀{D:DC} {own hold Z:AO} {pg:Gs} {o:On w} {s:Shared} {R:RS},aE w lvl b it D l own pg->o.Fits (lvl+1)->At o own hold s->(∀q∈pg,s.gens[q.1]?=some q.2)->o.g.objs.size<=b->cG Z D l->(∀q∈Z,q∈quiet o.fr hold) ->
  (∀hold' s',Mv o pg [] hold hold' s s'->At o [] hold' s'->R (.ok (.ret (.bool (l.any (·.1 != 0))))) s')->codeAny (model PR w) o.A (.builtin "any.loop" ⟨[.ref it],[]⟩) R s:=by
 induction l with
|nil =>
  intro D own hold Z pg o s R hi hf A hpg hb hS hZ k
  refine fW F.entry_any_loop F.plain_any_loop (K:=fun r=>match r with|none=>rule "any.exhausted" >>= fun O=>ret (.bool false)|some v=>_) rfl (fun O O h=>h) (d7 (ac:=[]) hi hf A (fun O h=>nomatch h) hpg hb (fun h hh=>(hS h hh).1) hZ fun r own' pg' hold' s' V A' O hP=>?_)
  subst hP
  exact ZL (wpAny_rule (ZM (k hold' s' ⟨V.eq,V.gm,fun O h=>(nomatch h),V.kp⟩ (A'.sub fun O h=>nomatch h))))
|cons e l ih =>
  obtain⟨z,D'⟩:=e
  intro D own hold Z pg o s R hi hf A hpg hb hS hZ k
  refine fW F.entry_any_loop F.plain_any_loop (K:=fun r=>match r with|none=>rule "any.exhausted" >>= fun O=>ret (.bool false)|some v=>_) rfl (fun O O h=>h) (d7 (ac:=[]) hi hf A (fun O h=>nomatch h) hpg hb (fun h hh=>(hS h hh).1) hZ fun r own' pg' hold' s' V A' O hP=>?_)
  obtain⟨⟨t,rfl⟩,hi'⟩:=hP
  refine ZL (wpAny_holding (PyProof.Rows.truthy_int ?_))
  refine ZL (wpAny_letGo ?_)
  have hpg':∀q∈pg',s'.gens[q.1]?=some q.2:=fun q hq=>(V.pi q hq).1
  by_cases hz0:z=0
  ·subst hz0
   simp only[bne_self_eq_false,Bool.false_eq_true,if_false]
   exact ZM ⟨plainId_quiet F.plain_any_loop _,ih hi' hf A' hpg' hb (fun h hh=>⟨(hS h hh).2 _ (.head _),fun e he=>(hS h hh).2 e (.tail _ he)⟩) (fun q hq=>aY V.kp (hZ q hq)) fun h3 s3 V3 A3=>by
    have:=k h3 s3 (V.trans V3) A3
    rw[List.any_cons] at this
    simpa using this⟩
  ·have hb':(z != 0)=true:=by simpa using hz0
   simp only[hb',if_true]
   refine ZL (wpAny_rule (ZM ?_))
   have:=k hold' s' ⟨V.eq,V.gm,fun O h=>(nomatch h),V.kp⟩ (A'.sub fun O h=>nomatch h)
   rw[List.any_cons,hb',Bool.true_or] at this
   exact this
theorem pB{w:World}{lvl:Nat}{T:String}{b it:Addr}{D:DC}{l:LD}{own:AO}{pg:Gs}(hself:bt w T it own)(hi:aE w lvl b it D l own pg):bI w (lvl+1) (rC w "any" [.ref it]) own pg (fun n h=>n<=b/\DS D l h) (fun O r O O=>r=.bool (l.any (·.1 != 0))):=by
 intro o hold s Q hfit A hpg ⟨hb,Z,hZ,hS⟩ k E
 refine PySem.call_function_tree F.kind_any F.plain_any F.entry_any (F.args_any1 _) ?_
 unfold Builtin.«any»
 refine ZL (m:=oneArg "any" _) (ZM ?_)
 refine ZL (hself.self _ _ _ _ (fun q hq=>(A.ft q (ZD _ hq)).1) ?_)
 exact ZM ⟨plainId_quiet F.plain_any_loop _,pA l hi hfit A hpg hb hS hZ fun hold' s' V A'=>k _ [] [] hold' s' V A' rfl⟩
example:True:=by w_top off;trivial
theorem np{w:World}{lvl:Nat}{b it S:Addr}(l:LD):∀{D:DC} {own hold Z:AO} {pg:Gs} {o:On w} {s:Shared} {R:RS} (acc:Int) (tA:Tok) (c:Nat),aE w lvl b it D l own pg->o.Fits (lvl+1)->At o ([(S,listOf #[.int acc tA] c)]++own) hold s->(∀q∈own,S≠q.1)->(∀q∈pg,s.gens[q.1]?=some q.2)->o.g.objs.size<=b->cG Z D l->(∀q∈Z,q∈quiet o.fr hold) ->
  (∀e∈l,0<=e.1/\e.1<=100)->0<=acc->acc+100*l.length<=100000 ->
  (∀t hold' s',Mv o pg [] hold hold' s s'->At o [] hold' s'->R (.ok (.ret (.int (acc+(l.map (·.1)).sum) t))) s')->codeAny (model PR w) o.A (.builtin "sum.loop" ⟨[.ref it,.ref S,rawInt 0,rawInt 0],[]⟩) R s:=by
 induction l with
|nil =>
  intro D own hold Z pg o s R acc tA c hi hf A hne hpg hb hS hZ hz h0 hs k
  refine codeAny_builtin F.entry_sum_loop ?_
  refine aa (Around.under_plainId F.plain_sum_loop _ ..) ?_
  show wpAny _ _ (seqItems? (.ref S) >>= _) _ _ s
  refine ZL (wpAny_seqItems (A.ft _ (.head _)).1 rfl ?_)
  show wpAny _ o.un1.A (tryCatch (pyNext (.ref it)) _ >>= _) _ _ s
  refine ZL (wpAny_tryCatch (d7 (ac:=[(S,listOf #[.int acc tA] c)]) hi hf A (fun q hq y hy=>by refine aa (ZP.mp hq ..) ?_;exact hne y hy) hpg hb (fun h hh=>(hS h hh).1) hZ (fun r own' pg' hold' s' V A' O hP=>?_) _))
  subst hP
  have:=k tA hold' s' ⟨V.eq,V.gm,fun O h=>(nomatch h),V.kp⟩ (A'.sub fun O h=>nomatch h)
  rw[List.map_nil,List.sum_nil,Int.add_zero] at this
  exact ZM this
|cons e l ih =>
  obtain⟨z,D'⟩:=e
  intro D own hold Z pg o s R acc tA c hi hf A hne hpg hb hS hZ hz h0 hs k
  refine codeAny_builtin F.entry_sum_loop ?_
  refine aa (Around.under_plainId F.plain_sum_loop _ ..) ?_
  show wpAny _ _ (seqItems? (.ref S) >>= _) _ _ s
  refine ZL (wpAny_seqItems (A.ft _ (.head _)).1 rfl ?_)
  show wpAny _ o.un1.A (tryCatch (pyNext (.ref it)) _ >>= _) _ _ s
  refine ZL (wpAny_tryCatch (d7 (ac:=[(S,listOf #[.int acc tA] c)]) hi hf A (fun q hq y hy=>by refine aa (ZP.mp hq ..) ?_;exact hne y hy) hpg hb (fun h hh=>(hS h hh).1) hZ (fun r own' pg' hold' s' V A' hao hP=>?_) _))
  obtain⟨⟨t,rfl⟩,hi'⟩:=hP
  obtain⟨hz1,hz2⟩:=hz (z,D') (.head _)
  dsimp only at hz1 hz2
  simp only[List.length_cons] at hs
  show wpAny _ _ (if (_:Bool)=true then (mkInt (acc+z) >>= _) else _) _ _ _
  split
  case isFalse hno =>
   exfalso
   apply hno
   show ((decide (-(2^63)<=z)&&decide (z<2^63))&&(decide (-(2^63)<=acc+z)&&decide (acc+z<2^63)))=true
   simp only[Bool.and_eq_true,decide_eq_true_eq]
   exact(aG [.M .o .A,.M (.p .A (.k 100 (.t (.p .a .u)))) (.n 100000),.M .o .B,.M .B .m] (.d (.d (.M (.j .i) .B) (.L .B .i)) (.d (.M (.j .i) (.p .A .B)) (.L (.p .A .B) .i)))) h0 hs hz1 hz2
  refine ZL (wpAny_mkInt ?_)
  have zS:=A'.ft (S,listOf #[.int acc tA] c) (.head _)
  have hne':∀q∈own',q.1≠S:=fun q hq e=>hao (S,listOf #[.int acc tA] c) (.head _) q hq e.symm
  have upd:=ZV (Obj.mapSeq (fun O=>#[Value.int (acc+z) s'.toks])) zS.1 rfl
  show wpAny _ _ (updateSeq S (fun O=>#[.int (acc+z) _]) >>= _) _ _ _
  refine ZL (wpAny_updateSeq zS.1 rfl (ZM ⟨plainId_quiet F.plain_sum_loop _,?_⟩))
  have hpg':∀q∈pg',s'.gens[q.1]?=some q.2:=fun q hq=>(V.pi q hq).1
  refine ih (acc+z) s'.toks _ hi' hf (A'.upd (tk:=s'.toks+1) hne' (fun b o hb e=>(Zi _ _ (Ne.symm hb)).trans e) upd) (fun q hq=>(hne' q hq).symm) hpg' hb (fun h hh=>⟨(hS h hh).2 _ (.head _),fun e he=>(hS h hh).2 e (.tail _ he)⟩) (fun q hq=>aY V.kp (hZ q hq)) (fun e he=>hz e (.tail _ he)) (by exact(bo [.M .o .A,.M .o .B] (.M .o (.p .A .B))) h0 hz1) (by exact(aG [.M (.p .A (.k 100 (.t (.p .a .u)))) (.n 100000),.M .B .m] (.M (.p (.p .A .B) (.k 100 (.t .a))) (.n 100000))) hs hz2) fun t' h3 s3 V3 A3=>?_
  have:=k t' h3 s3 (V.trans ((Mv.still2 hpg').trans V3)) A3
  rw[List.map_cons,List.sum_cons,<- Int.add_assoc] at this
  exact this
theorem nq{w:World}{lvl:Nat}{T:String}{b it:Addr}{D:DC}{l:LD}{own:AO}{pg:Gs}(hself:bt w T it own)(hi:aE w lvl b it D l own pg)(hz:∀e∈l,0<=e.1/\e.1<=100)(hl:l.length<=100):bI w (lvl+1) (rC w "sum" [.ref it]) own pg (fun n h=>n<=b/\DS D l h) (fun O r O O=>∃t,r=.int (l.map (·.1)).sum t):=by
 intro o hold s Q hfit A hpg ⟨hb,Z,hZ,hS⟩ k E
 refine PySem.call_function_tree F.kind_sum F.plain_sum F.entry_sum (F.args_sum1 _) ?_
 unfold Builtin.«sum»
 simp only[List.length_cons,List.length_nil]
 refine aj (by decide) ?_
 refine ZL (wpAny_of_eq (show Builtin.Builtins.bindParams "sum" ["start"] 0 { }=pure [none] from rfl) ?_)
 refine ZL (hself.self _ _ _ _ (fun q hq=>(A.ft q (ZD _ hq)).1) ?_)
 refine ZL (wpAny_mkInt ?_)
 refine ZL (ZM ?_)
 simp only[List.forIn_cons,List.forIn_nil]
 refine ZL (ZL (ZL (wpAny_isInstance (T:="int") (b:=false) (typeIs_int _ _ _) PySem.sub_int_str ?_)))
 refine aj Bool.false_ne_true ?_
 refine ZM (ZL (ZL (wpAny_isInstance (T:="int") (b:=false) (typeIs_int _ _ _) PySem.sub_int_bytes ?_)))
 refine aj Bool.false_ne_true ?_
 refine ZM (ZL (ZL (wpAny_isInstance (T:="int") (b:=false) (typeIs_int _ _ _) PySem.sub_int_bytearray ?_)))
 refine aj Bool.false_ne_true ?_
 refine ZM (ZM ?_)
 refine ZL (wpAny_newObj_type ?_)
 obtain⟨A1,lt⟩:=A.push (tk:=s.toks+1) { cls:=.type "list",data:=.seq #[.int 0 s.toks] }
 refine ZM ⟨plainId_quiet F.plain_sum_loop _,np (S:=s.heap.objs.size) l 0 s.toks 0 hi hfit A1 (fun q hq=>Nat.ne_of_gt (lt q (ZD _ hq))) hpg hb hS hZ hz (Int.le_refl _) (by exact(ai [.m .a .m] (.M (.p .o (.k 100 (.t .a))) (.n 100000))) hl) fun t hold' s' V A'=>?_⟩
 have:=k (.int (l.map (·.1)).sum t) [] [] hold' s' ⟨V.eq,V.gm,V.pi,V.kp⟩ A' ⟨t,rfl⟩
 refine aa (show (0:Int)+(l.map (·.1)).sum=(l.map (·.1)).sum by exact(aO [] (.E (.p .o .A) .A))) ?_
 exact this
example:True:=by w_top off;trivial
noncomputable def ones(c:Int):Int:=((List.range 8).filter fun j=>Builtin.bitAnd c (1*2^j) != 0).length
noncomputable def tI(P:Params):Array Value:=match (hd.heap_1 P).lookup 89 with|some ⟨_,_,.seq items _,_⟩=>items|_=>#[]
noncomputable def uv(P:Params):Nat:=match (hd.heap_1 P).lookup 89 with|some ⟨_,_,.seq _ n,_⟩=>n|_=>0
noncomputable def tT(P:Params)(k:Nat):Tok:=match (tI P)[k]? with|some (.int _ t)=>t|_=>0
theorem rM(P:Params):(hd.heap_1 P).lookup 89=some ⟨.type "list",((hd.heap_1 P).lookup 89).bind (·.dict),.seq (tI P) (uv P),(((hd.heap_1 P).lookup 89).map (·.slots)).getD #[]⟩:=by kernel_rfl
theorem rN(P:Params):(List.range 256).map (fun k=>(tI P)[k]?)=(List.range 256).map fun k=>some (.int (ones k) (tT P k)):=by kernel_rfl
theorem rO(P:Params)(k:Nat)(hk:k<256):∃items n od sl t,(hd.heap_1 P).lookup 89=some ⟨.type "list",od,.seq items n,sl⟩/\items[k]?=some (.int (ones k) t) :=
 ⟨_,_,_,_,_,rM P,List.map_inj_left.mp (rN P) k (List.mem_range.mpr hk)⟩
theorem po(P:Params):codeHdIn (hd.heap_1 P) 298 294=true:=by kernel_rfl
theorem pn(P:Params):codeHdIn (hd.heap_1 P) 312 308=true:=by kernel_rfl
theorem kg(P:Params):codeHdIn (hd.heap_1 P) 367 363=true:=by kernel_rfl
theorem pj(P:Params):codeHdIn (hd.heap_1 P) 593 589=true:=by kernel_rfl
theorem ph(P:Params):codeHdIn (hd.heap_1 P) 600 596=true:=by kernel_rfl
section
variable{w:World}{κ κ':CK}{c:Cx w κ}{Γ Γ₁:G}{lvl lS:Nat}{σ:LN}{Ok:String->(List SO->Prop)->KL->Prop}
def gJ(Γ:G)(σ:LN)(Ok:String->(List SO->Prop)->KL->Prop)(zs:LI):Prop:=∀T K l,Ok T K l->Meets Γ σ K/\(∀e∈l,Meets Γ σ e.2)/\l.map (·.1)=zs
theorem cI{Γo:LO}{zs:LI}(hσ:Fits Γ σ σ Γo)(hft:Γo.all (·.fit Γo.length)=true):gJ Γ σ (ur Γo zs) zs:=by
 rintro T K l ⟨_,rfl,rfl⟩
 refine⟨⟨Γo,hσ,hft,rfl⟩,fun e he=>?_,?_⟩
 ·obtain⟨z,_,rfl⟩:=Zc.mp he
  exact⟨Γo,hσ,hft,rfl⟩
 ·refine aa (List.map_map ..) ?_
  exact List.map_id' _
theorem dF{ρ:LQ}{l:KL}{zs:LI}(h:l.map (·.1)=zs):(dL w ρ l).map (·.1)=zs/\(dL w ρ l).length=zs.length:=by
 subst h
 exact⟨List.map_map,by simp⟩
theorem iZ(p N:Nat)(cs:LI):∀i,(oy p N i cs).map (·.1)=cs:=by
 induction cs with
|nil=>exact fun O=>rfl
|cons c cs ih=>exact fun i=>by rw[oy,List.map_cons,ih]
theorem r6{Γo:LO}{p:Nat}{bs:LI}(h:Γo[p]?=some (.nums bs))(cs:LI):∀i,bs.drop i=cs->∀e∈oy p bs.length i cs,e.2 Γo:=by
 induction cs with
|nil=>exact fun i O e he=>nomatch he
|cons c cs ih =>
  intro i hd e he
  have h1:bs.drop (i+1)=cs:=by refine aA (List.drop_drop ..) (aa (hd ..) ?_);rfl
  rcases ZT.mp he with rfl|he
  ·exact⟨bs,h,rfl,h1⟩
  ·exact ih (i+1) h1 e he
theorem cR{Γo:LO}{p:Nat}{bs:LI}(h:Γo[p]?=some (.nums bs)):∀T K l,sK p bs T K l->l.map (·.1)=bs/\K Γo/\∀e∈l,e.2 Γo:=by
 rintro T K l ⟨_,rfl,rfl⟩
 exact⟨iZ ..,⟨bs,h,rfl,rfl⟩,r6 h bs 0 rfl⟩
theorem kC{Γo:LO}{p:Nat}{bs:LI}(h:Γo[p]?=some (.nums bs))(hσ:Fits Γ σ σ Γo)(hft:Γo.all (·.fit Γo.length)=true):gJ Γ σ (sK p bs) bs:=fun T K l hO =>
 have x:=cR h T K l hO
 ⟨⟨Γo,hσ,hft,x.2.1⟩,fun e he=>⟨Γo,hσ,hft,x.2.2 e he⟩,x.1⟩
theorem Ev.sumI{fp pos:Pos}{e:Expr}{zs:LI}(hf:Ev c Γ (.Name "sum" fp) (.val (.builtin "sum")) Γ)(B:iB c Γ e lvl σ Ok Γ₁)(hst:gJ Γ₁ σ Ok zs)(hz:∀z∈zs,0<=z/\z<=100)(hl:zs.length<=100)(hlv:Nat.ble (lvl+1) κ.lv=true:=by exact vT)
  (hs:∀env,starEach [e] env=(false,eval e env)::starEach [] env:=by intros;rfl):Ev c Γ (.Call (.Name "sum" fp) [e] [] pos) (.int zs.sum) Γ₁:=fun ρ s Q E S KK =>
 Call_ (hf ρ s _ E S fun u ρ1 sj1 hp1 q1 Sj1=>by
  obtain rfl:=q1.valI
  refine PyProof.Rows.callWith_builtin1 (args_cons (B ρ1 sj1 _ E Sj1 fun it ρ₂ sj2 hp2 IH=>args_nil ?_) (hs _)) (hs _) rfl
  refine(show rC w "sum" [.ref it] c.A Q sj2 from IH.use (Post:=fun (r:Value) _=>∃t,r=Value.int zs.sum t) (lvl':=lvl+1) (fun T b K l own pg ρc hO hself hit=>?_) (fun T K l hO=>⟨(hst T K l hO).1,(hst T K l hO).2.1⟩) (ZJ hlv) (fun r own' s' hr hs' O S'=>?_)) E
  ·obtain⟨_,_,h3⟩:=hst T K l hO
   obtain⟨f1,f2⟩:=dF (w:=w) (ρ:=ρc) h3
   refine bI.mono (nq hself hit (fun e he=>hz _ (by refine aA (f1 ..) ?_;exact Zd he)) (by exact(ah [.m .a .m,.e .b .a] (.m .b .m)) hl f2)) (ZZ _) fun O O O O h=>?_
   rw[f1] at h;exact h
  ·obtain⟨t,rfl⟩:=hr
   exact KK _ ρ₂ s' (hp1.trans hp2) (.int _ _) (S'.out hs'))
theorem Ev.anyI{fp pos:Pos}{e:Expr}{zs:LI}(hf:Ev c Γ (.Name "any" fp) (.val (.builtin "any")) Γ)(B:iB c Γ e lvl σ Ok Γ₁)(hst:gJ Γ₁ σ Ok zs)(hlv:Nat.ble (lvl+1) κ.lv=true:=by exact vT)
  (hs:∀env,starEach [e] env=(false,eval e env)::starEach [] env:=by intros;rfl):Ev c Γ (.Call (.Name "any" fp) [e] [] pos) (.val (.bool (zs.any (· != 0)))) Γ₁:=fun ρ s Q E S KK =>
 Call_ (hf ρ s _ E S fun u ρ1 sj1 hp1 q1 Sj1=>by
  obtain rfl:=q1.valI
  refine PyProof.Rows.callWith_builtin1 (args_cons (B ρ1 sj1 _ E Sj1 fun it ρ₂ sj2 hp2 IH=>args_nil ?_) (hs _)) (hs _) rfl
  refine(show rC w "any" [.ref it] c.A Q sj2 from IH.use (Post:=fun (r:Value) _=>r=Value.bool (zs.any (· != 0))) (lvl':=lvl+1) (fun T b K l own pg ρc hO hself hit=>?_) (fun T K l hO=>⟨(hst T K l hO).1,(hst T K l hO).2.1⟩) (ZJ hlv) (fun r own' s' hr hs' O S'=>?_)) E
  ·obtain⟨_,_,h3⟩:=hst T K l hO
   obtain⟨f1,_⟩:=dF (w:=w) (ρ:=ρc) h3
   refine bI.mono (pB hself hit) (ZZ _) fun O O O O h=>?_
   refine aA (f1 ..) (aa (List.any_map ..) ?_);exact h
  ·subst hr
   exact KK _ ρ₂ s' (hp1.trans hp2) (.val _) (S'.out hs'))
theorem Ev.ones{y:Expr}{p1 p3:Pos}{z:Int}(hy:Ev c Γ y (.int z) Γ₁)(h0:0<=z)(h1:z<256)(hx:κ.cs.names.lookup ("_1SPERBYTE":Str)=some .globalImplicit:=by exact vS)
  (hs:∀o i,subscripted y false o i=operate [o,i] (getItem o i):=by intros;with_unfolding_all rfl):Ev c Γ (.Subscript (.Name "_1SPERBYTE" p1) y p3) (.int (ones z)) Γ₁:=fun ρ s Q E S K=>by
 obtain⟨items,n,od,sl,t',e1,e2⟩:=rO w.params z.toNat (by exact(aR [.L .A (.n 256),.T .a .A] (.l .a (.n 256))) h1 (bz _))
 rw[Int.toNat_of_nonneg h0] at e2
 refine Subscript_ (Ev.glob (v:=.ref 89) (by k_is) hx (by decide) ρ s _ E S fun u ρ1 sj1 hp1 q1 Sj1=>?_)
 obtain rfl:=q1.valI
 refine hy ρ1 sj1 _ E Sj1 fun u2 ρ₂ sj2 hp2 q2 Sj2=>?_
 obtain⟨_,rfl⟩:=q2.intI
 have hl:sj2.heap.IsList 89 items:=⟨_,(bO Sj2) _ _ e1,rfl,n,rfl⟩
 exact tail_any hl.typeIs slot_list_getitem.lookup (wpAny_getItem_list hl h0 (by exact Int.lt_of_lt_of_le ‹_› (by decide)) e2 (K _ ρ₂ sj2 (hp1.trans hp2) (.int _ _) Sj2)) (hs _ _)
end
example:True:=by w_top off;trivial
theorem qg(c:Int):0<=ones c/\ones c<=100:=by
 unfold ones
 have:=List.length_filter_le (fun j=>Builtin.bitAnd c (1*2^j) != 0) (List.range 8)
 rw[List.length_range] at this
 exact(ai [.m .a .y] (.d (.M .o (.t .a)) (.M (.t .a) .m))) this
theorem eH(zs:LI)(f:Int->Int):(zs.filter fun O=>true).map f=zs.map f:=by exact aa (Zk.mpr fun O O=>rfl ..) rfl
noncomputable abbrev sC(bs:LI)(Pt:Addr)(pos:Pos):List SO:=ba bs++[.tab 3 Pt pos]
theorem o8(w:World)(bs:LI)(hlen:bs.length<=3)(hby:∀c∈bs,0<=c/\c<256):az w 6 299 (sC bs 294 ⟨127,19,127,62⟩) [.ref 0] [] (ch (.int (bs.map ones).sum) (sC bs 294 ⟨127,19,127,62⟩)):=by
 refine' cJ ["self"] ?ho ?hcd ?hb ?hx ?nd ?hl ?H ?c1 ?c2 ?c3 ?c4
 k_extra "cx"
 intro c hc
 have f3:Fits ⟨[("self",.ref 0)],sC bs 294 ⟨127,19,127,62⟩⟩ [0,1,2] [0,1,2] (ba bs):=ab vS vS vS
 refine aA (eH ..) ?_
 refine .cons (.ret (Ev.sumI (.bi (by k_is) boot_sum) (iB.gx (σ:=[0,1,2]) (κ':=⟨_,2,3,3,[]⟩) (p:=fun O=>true) (f:=ones) (.ofI (.mcall0 (.name vS) vS vS rfl (gp w) (jd w bs) ⟨_,f3,vT,rfl⟩)) f3 vT (cR (Γo:=ba bs) vS) ⟨fun O O O=>.nil,fun c z hz O=>.ones (.name vS) (hby z hz).1 (hby z hz).2⟩ (j:=3) vS (po _) hc ⟨[],rfl,fun O O h=>nomatch h⟩ vT (by decide) (by decide) vT rfl rfl (ZZ _) (ZZ _) (by decide) vS vS rfl rfl fun O O=>rfl) (cI f3 vT) (fun z hz=>?_) (by refine aa (eH ..) (aa (Zm ..) ?_);exact ZW ‹_› (by decide))) (.ret _ ⟨rfl,rfl⟩ .same vT))
 obtain⟨c,_,rfl⟩:=Zc.mp hz
 exact qg c
theorem q7(w:World)(bs:LI)(hlen:bs.length<=3):az w 6 313 (sC bs 308 ⟨138,19,138,50⟩) [.ref 0] [] (ch (.val (.bool (bs.any (· != 0)))) (sC bs 308 ⟨138,19,138,50⟩)):=by
 refine' cJ ["self"] ?ho ?hcd ?hb ?hx ?nd ?hl ?H ?c1 ?c2 ?c3 ?c4
 k_extra "cx"
 intro c hc
 have f3:Fits ⟨[("self",.ref 0)],sC bs 308 ⟨138,19,138,50⟩⟩ [0,1,2] [0,1,2] (ba bs):=ab vS vS vS
 rw[show bs.any (· != 0)=((bs.filter fun O=>true).map fun z=>z).any (· != 0) by rw[eH,List.map_id']]
 refine .cons (.ret (Ev.anyI (.bi (by k_is) boot_any) (iB.gx (σ:=[0,1,2]) (κ':=⟨_,2,3,3,[]⟩) (p:=fun O=>true) (f:=fun z=>z) (.ofI (.mcall0 (.name vS) vS vS rfl (gp w) (jd w bs) ⟨_,f3,vT,rfl⟩)) f3 vT (cR (Γo:=ba bs) vS) ⟨fun O O O=>.nil,fun c z hz O=>.name vS⟩ (j:=3) vS (pn _) hc ⟨[],rfl,fun O O h=>nomatch h⟩ vT (by decide) (by decide) vT rfl rfl (ZZ _) (ZZ _) (by decide) vS vS rfl rfl fun O O=>rfl) (cI f3 vT)) (.ret _ ⟨rfl,rfl⟩ .same vT))
example:True:=by w_top off;trivial
theorem aT.mv2{w:World}{κ:CK}{c:Cx w κ}{s':Shared}(h:aT c s')(o:On w){pg:Gs}(hpg:∀q∈pg,c.sj0.gens[q.1]?=some q.2):Mv o pg pg [] [] c.sj0 s' :=
 ⟨h.eq,⟨h.gx.size,fun i z O hz=>h.gx.old i z (fun O h=>nomatch h) hz,h.gx.bare⟩,fun q hq=>⟨h.gx.old _ _ (fun O h=>nomatch h) (hpg q hq),.inl ⟨q,hq,rfl⟩⟩,.nil⟩
theorem rd{w:World}{lv lvl:Nat}{f:Addr}{args:LX}{us:LW}{own:AO}{pg:Gs}{D:Nat->AO->Prop}{Post:Nat->Value->AO->Gs->Prop}{X:Around->(VS)->Shared->Prop}{e:Expr}{pos:Pos}{name qual:Str}{params:Arguments}{scope:Scope}{dV kV doc pm cdv ct oc:Value}{an od:Option Addr}{osl:Array (Option Value)}(xs:List Str)
  (ho:(hd.heap_1 w.params).lookup f=some ⟨oc,od,.func (fnOf name qual params [.Return (some e) pos] scope dV kV doc pm an cdv ct),osl⟩) (hcd:codeIn (hd.heap_1 w.params) cdv qual=true)
  (hb:∀(s:Shared) us,(hd.heap_1 w.params).In s.heap->us.length=xs.length->BindsTo s (fnOf name qual params [.Return (some e) pos] scope dV kV doc pm an cdv ct) ⟨us,[]⟩ (xs.zip us)) (hx:(xs.all fun x=>decide (scope.names.lookup x=some .local))=true) (nd:xs.Nodup) (hl:xs.length=args.length)
  (H:∀(n:Nat) (c:Cx w ⟨scope,lv,0,n,[]⟩) ρ s Q E,ad c ⟨xs.zip args,[]⟩ ρ s->(∀ρ' s',ad c ⟨xs.zip args,[]⟩ ρ' s'->X c.A Q s')->wpAny (model PR w) c.A (eval e c.env) Q E s)
  (hco:scope.isCoroutine=false) (hgen:scope.isGenerator=false) (hk:scope.kind=.function) (hcell:(scope.names.all fun x=>decide (x.2≠.cell))=true)
  (hu:bh [] args us) (C:bI w lvl X own pg D Post) (hlv:lvl<=lv) (hD:∀n h h',(∀q∈h,q∈h')->D n h->D n h') (hP:∀n n' r f p,n'<=n->Post n r f p->Post n' r f p):bI w (lv+1) (fA w (.ref f) us []) own pg D Post:=by
 intro o hold s Q hfit A hpg hDD hret R hR
 have hsz:∀q∈own++hold,s.heap.get? q.1=some q.2:=fun q hq=>(A.ft q hq).1
 refine gc (shr:=[]) (nf:=0) (Γo:=[]) (ρ:=[]) (os:=[]) (hold:=own++hold) xs ho hcd (hb s us (o.X.keeps A.st) (by exact aa (svs_len hu ..) (aa (hl ..) rfl))) hx nd hco hgen hk hcell (fun e he=>by
  obtain⟨h1,L',ob,h2,h3,h4⟩:=A.fr e he
  exact⟨h1,L',ob,h2,ZC _ h3,h4⟩) A.st A.sz A.ft (fun O O h=>nomatch h) hfit hu rfl rfl (fun O O O h=>nomatch h) .nil (Zf _) (fun O h=>nomatch h) (fun O O O h=>absurd h (Nat.not_lt_zero _)) fun c O c1 c2 c3 c4 cL c5 sj1 E hE S=>?_
 have nL:∀q∈own++hold,q.1≠c.L:=fun q hq=>Zb (ZY (Zg (hsz q hq)) cL)
 have offF:∀q∈own,q.1∉aZ c.o.fr:=fun q hq hm=>by
  rcases c5 _ hm with h9|h9
  ·exact nL q (ZD _ hq) h9
  ·obtain⟨e,he,he2⟩:=List.mem_filterMap.mp h9
   obtain⟨_,L',ob,h3,h4,_⟩:=A.fr e he
   rw[he2] at h3;obtain rfl:=ZK h3
   exact A.ap q hq _ h4 rfl
 have hfr':rG c.L c.o.fr hold:=fun e he=>by
  obtain⟨h1,L',h2,h3⟩:=c.hfr e he
  refine⟨h1,L',h2,h3.imp id fun ⟨o,h4,h5⟩=>⟨o,?_,h5⟩⟩
  rw[c3] at h4
  refine(ZS.mp h4).resolve_left fun h9=>offF _ h9 ?_
  exact List.mem_filterMap.mpr ⟨e,he,h2⟩
 have S0:=ad.asLp (shr:=[]) (hfr:=hfr') (hsh:=fun O h=>nomatch h) S c3 rfl
 refine wpAny_execs_cons (wpAny_Return_some ?_)
 refine H _ ((c.low hold [] hfr' (fun O h=>nomatch h)).lp c.ρ0 (ZN _) c.len own c.sj0) _ _ _ _ S0 fun ρ' s' S'=>?_
 have key:∀q∈quiet o.fr hold,q∈hold/\q.1∉aZ c.o.fr:=fun q hq=>by
  obtain⟨h1,h2⟩:=ag.mp hq
  exact⟨h1,fun h9=>(c5 _ h9).elim (nL q (ZC _ h1)) h2⟩
 have rel:=S'.rel
 have hpg':∀q∈pg,c.sj0.gens[q.1]?=some q.2:=by refine aa (c1 ..) ?_;exact hpg
 have V0:=rel.mv2 o hpg'
 refine S'.act2 (fun q hq=>⟨offF q hq,A.ap q hq⟩) C (fun os hold' h1 h2 h3 h4 h5=>by show D c.o.g.objs.size hold';refine aa (c2 ..) ?_;exact hD _ _ _ (fun q hq=>h5 q (key q hq).1 (key q hq).2) hDD) hlv (fun q hq=>(V0.pi q hq).1) fun r own' pg' s'' V hP' ho' S''=>?_
 have V1:Mv o pg pg' [] [] c.sj0 s'':=V0.trans ⟨V.eq,V.gm,V.pi,.nil⟩
 rw[c1] at V1
 obtain⟨H2,V2,A2⟩:=S''.finL ho' A V1 c2 rfl c5
 refine hR _ _ (hret r own' pg' H2 s'' V2 A2 (hP _ _ _ _ _ ?_ hP'))
 have h9:=S'.ltL
 exact Zr (ZX cL h9)
example : True :=by
 (k_with "cxd" => ((case ho => k_is); (case hcd => k_is); (case hx => exact rfl); (case nd => decide); (case hl => exact rfl); (case c1 => exact rfl); (case c2 => exact rfl); (case c3 => exact rfl); (case c4 => exact rfl)))
 trivial
example : True :=by
 (k_with "cxk" => ((case ho => k_is); (case hcd => k_is); (case hx => exact rfl); (case nd => decide); (case c1 => exact rfl); (case c2 => exact rfl); (case c3 => exact rfl); (case c4 => exact rfl)))
 trivial
theorem kB(P:Params):(hd.heap_1 P).lookup 70=some ⟨.type "tuple",none,.seq #[.ref 69] 0,#[]⟩:=by kernel_rfl
structure tQ(w:World)(T:String):Prop where
 l:(Value.type T == Value.type "list")=false
 t:(Value.type T == Value.type "tuple")=false
 hint:∀(it:Addr) (A:Around) (s:Shared) (Q:Bool->Shared->Prop) (E:VS),s.TypeIs (.ref it) T->(∀r,Q r s)->wpAny (model PR w) A (Builtin.List.listLengthHint (.ref it)) Q E s
theorem fM(w:World):tQ w "generator":=⟨by decide,by decide,fun O A s Q E=>oG A s Q E⟩
theorem qy(w:World):tQ w "list_iterator":=⟨by decide,by decide,fun it A s Q E hT k=>by
 unfold Builtin.List.listLengthHint
 refine ZL (wpAny_specialOf hT F.nolen_li ?_)
 show wpAny _ _ (specialOf (Value.ref _) (Str.ofString "__length_hint__") >>= _) _ _ _
 refine ZL (wpAny_specialOf hT F.hint_li ?_)
 generalize hid:("list_iterator.__length_hint__":String)=id0
 fail_if_success (clear hid id0)
 wp_delta
 refine aa (show splitId id0=some ("list_iterator","__length_hint__") from by subst hid;decide +kernel) ?_
 subst hid
 refine ZL (wpAny_isInstance (b:=true) hT (by refine aa (isSubtype_type ..) ?_;kernel_rfl) ?_)
 exact ZM (k false)⟩
theorem m4{w:World}{lvl:Nat}{T:String}(hT:tQ w T){b it:Addr}{D:DC}{l:LD}{own:AO}{pg:Gs}{ty:Str}{tt:Tok}(hself:bt w T it own)(hi:aE w lvl b it D l own pg)(hl:l.length<=1000):bI w (lvl+3) (fA w (.ref 77) [.str ty tt,.ref it] []) own pg (fun n h=>n<=b/\DS D l h) (gK (l.map (·.1))):=by
 refine' rd (args:=[.str ty,.val (.ref it)]) ["typecode","rows"] ?ho ?hcd ?hb ?hx ?nd ?hl ?H ?c1 ?c2 ?c3 ?c4 (.cons (.str _ _) (.cons (.val _) .nil)) (mE hself hT.l hT.t (hT.hint it) hi hl) (ZZ _) (fun n h h' hh hZ15=>by obtain⟨h1,Z,h2,h3⟩:=hZ15;exact⟨h1,Z,fun q hq=>hh q (h2 q hq),h3⟩) (fun O O O O O O h=>h)
 k_extra "cxd"
 case hb =>
  intro _ us X hl
  obtain⟨_,_,rfl⟩:=len2 hl
  exact BindsTo.of_defaults rfl (X _ _ (kB _)) rfl rfl rfl
 intro n c ρ s Q E S KK
 refine Call_ (Ev.bi (v:=.type "list") (by k_is) boot_list (by decide) rfl (by decide) ρ s _ E S fun u ρ1 sj1 hp1 q1 Sj1=>?_)
 obtain rfl:=q1.valI
 refine PySem.Pv.callWith_type1 (args_cons (Ev.name (v:=.val (.ref it)) rfl rfl (by decide) ρ1 sj1 _ E Sj1 fun u2 ρ₂ sj2 hp2 q2 Sj2=>args_nil ?_))
 obtain rfl:=q2.valI
 exact KK ρ₂ sj2 Sj2 E
section
variable{w:World}{κ:CK}{c:Cx w κ}{Γ Γ₁ Γ2:G}{lvl:Nat}{σ:LN}{Ok:String->(List SO->Prop)->KL->Prop}
theorem Ev.arrayG{x:Str}{xp pos:Pos}{et e:Expr}{ty:Str}{zs:LI}(hf:Ev c Γ (.Name x xp) (.val (.ref 77)) Γ)(hkp:keepIn (hd.heap_1 w.params) (.ref 77)=true)(ht:Ev c Γ et (.str ty) Γ₁)(B:iB c Γ₁ e lvl σ Ok Γ2)(hg:∀T K l,Ok T K l->tQ w T)(hst:gJ Γ2 σ Ok zs)(hl:zs.length<=1000)(hlv:Nat.ble (lvl+3) κ.lv=true:=by exact vT)
  (hs1:∀env,starEach [et,e] env=(false,eval et env)::starEach [e] env:=by intros;rfl) (hs2:∀env,starEach [e] env=(false,eval e env)::starEach [] env:=by intros;rfl) (hpl:∀env,(backTo pos (starEach [e] env)).any (·.1)=false:=by intros;rfl):Ev c Γ (.Call (.Name x xp) [et,e] [] pos) (.ref Γ2.o.length) (Γ2.addO (.nums zs)):=fun ρ s Q E S KK =>
 Call_ (hf ρ s _ E S fun u ρ1 sj1 hp1 q1 Sj1=>by
  obtain rfl:=q1.valI
  refine callWith_K (bO Sj1) hkp (args_cons (ht ρ1 sj1 _ E Sj1 fun ut ρ₂ sj2 hp2 q2 Sj2=>args_cons (B ρ₂ sj2 _ E Sj2 fun it ρ3 sj3 hp3 IH=>args_nil ?_) (hs2 _)) (hs1 _)) (hs1 _) (hpl _)
  obtain⟨_,rfl⟩:=q2.strI
  have IH':=IH
  cases IH' with|mk T b K l own pg ρc hOk hself hit hb n2 p2 hsr hg' hg2 ho S3 =>
  refine⟨bO S3,wpAny_call (IH.use (Post:=fun (r:Value) own'=>gK zs 0 r own' []) (Xc:=fA w (.ref 77) [.str ty _,.ref it] []) (lvl':=lvl+3) (Q:=Q) (fun T b K l own pg ρc hO hself hit=>?_) (fun T K l hO=>⟨(hst T K l hO).1,(hst T K l hO).2.1⟩) (ZJ hlv) (fun r own' s' hr hs' ho' S'=>?_) _ fun O O h=>h)⟩
  ·obtain⟨_,_,h3⟩:=hst T K l hO
   obtain⟨f1,f2⟩:=dF (w:=w) (ρ:=ρc) h3
   refine bI.mono (m4 (hg T K l hO) hself hit (by exact(ah [.m .a .q,.e .b .a] (.m .b .q)) hl f2)) (ZZ _) fun O O O O h=>?_
   rw[f1] at h;exact h
  ·obtain⟨S,vs,k,rfl,rfl,hI⟩:=hr
   have S9:=S'.keep hs' (ho' _ (.head _)) (.nums hI)
   refine KK _ _ s' (((hp1.trans hp2).trans hp3).trans (ZO _ _)) (.ref ?_) S9
   refine aA (S'.len ..) ?_;simp)
end
example:True:=by w_top off;trivial
theorem nh(dp un:Nat)(gd:Option (List Code))(fr:List Env)(C:Addr)(rest:LW)(kw:List (Str×Value)):∃dp' un',dp'<=dp+3/\un'<=un+60/\(AR dp un gd fr).under (.builtin "type.__call__" ⟨.ref C::rest,kw⟩)=AR dp' un' gd fr :=
 ⟨dp+(Code.builtin "type.__call__" ⟨.ref C::rest,kw⟩).weight,un+(Code.builtin "type.__call__" ⟨.ref C::rest,kw⟩).cUnits,Nat.add_le_add_left (ZJ (by kernel_rfl)) _,Nat.add_le_add_left (ZJ (by kernel_rfl)) _,rfl⟩
section
variable{w:World}{κ:CK}{lv':Nat}{c:Cx w κ}{Γ Γ':G}{ρ:LQ}{s:Shared}
noncomputable def Cx.dn(c:Cx w κ)(dp un:Nat)(h1:dp<=c.o.dp+3)(h2:un<=c.o.un+60)(hlv:lv'+3<=κ.lv):Cx w { κ with lv:=lv' } :=
 ⟨⟨c.o.p,c.o.loose,c.o.mean,c.o.mg,c.o.mb,dp,un,c.o.gd,c.o.fr,c.o.g,c.o.X,c.o.T⟩,c.qn,c.fo,c.L,c.ccd,c.cl,c.frm,c.sj0,c.ρ0,c.hold,c.shr,c.hfr,c.len,c.hk,c.hnf,⟨by have:=c.fits.d;show dp+lv'<=500;exact(aJ [.m .a (.p .b .w),.m (.p .c .w) .d,.m (.p .b .d) .l] (.m (.p .a .c) .l)) h1 hlv this,by have:=c.fits.u;show un+50*lv'<=9000;exact(aJ [.m .a (.p .b (.n 60)),.m (.p .c .w) .d,.m (.p .b (.k 50 .d)) .G] (.m (.p .a (.k 50 .c)) .G)) h2 hlv this⟩,c.hsh,c.hcl⟩
theorem ad.up{dp un:Nat}{h1:dp<=c.o.dp+3}{h2:un<=c.o.un+60}{hlv:lv'+3<=κ.lv}(S:ad (c.dn dp un h1 h2 hlv) Γ ρ s):ad c Γ ρ s:=by
 cases S with|mk m os H F N hm LY hs=>exact .mk m os H F N hm ⟨LY.hl,LY.hg,LY.ho,LY.nd,LY.pre,LY.ap,LY.kp,LY.sh⟩ ⟨hs.eq,hs.gx⟩
noncomputable abbrev G.new(Γ:G)(C:Addr):G:=(⟨Γ.m,Γ.o++[.attrs []]⟩:G).addO (.inst C Γ.o.length)
theorem ax.new{C fI:Addr}{vs:LX}{kw:LV}(hm:makesIn (hd.heap_1 w.params) C=true)(hi:findIn (hd.heap_1 w.params) (.ref C) "__init__"=some (some (.ref fI)))(hf:typeIn (hd.heap_1 w.params) (.ref fI)=some (.type "function"))
  (hI:∀c':Cx w { κ with lv:=lv' },ae c' (Γ.new C) fI (.ref (Γ.o.length+1)::vs) kw (.val .none) Γ') (hlv:Nat.ble (lv'+3) κ.lv=true:=by exact vT):ax c Γ (.val (.ref C)) vs kw (.ref (Γ.o.length+1)) Γ':=fun ρ s Q E fv us ks S hfv hus hks hkv KK=>by
 obtain rfl:=hfv.valI
 obtain⟨m,os,H,F,N,hmm,LY,hs⟩:=S
 refine wpAny_call (make_K F N (c.o.X.keeps F.keep) hm hi hf fun x dx h' F' N' hlt hdx=>?_)
 obtain⟨dp',un',b1,b2,eA⟩:=nh c.o.dp c.o.un c.o.gd c.o.fr C us ks
 refine aa (show c.A=AR c.o.dp c.o.un c.o.gd c.o.fr from rfl) (aa (eA ..) ?_)
 have LY':eK (c.dn (lv':=lv') dp' un' b1 b2 (ZJ hlv)) Γ.o ρ os H:=⟨LY.hl,LY.hg,LY.ho,LY.nd,LY.pre,LY.ap,LY.kp,LY.sh⟩
 have L1:=LY'.add (so:=.attrs []) (q:=dx) (o':=dictOf [] 0) (.attrs .nil) fun p hp=>Zb (hlt p hp)
 have e1:(ρ++[dx]++[x])[Γ.o.length]?=some dx:=by refine aa (LY.hg ..) (aA (LY.hl ..) ?_);simp
 have N2:∀p,p∈aS (ρ++[dx]) (os++[dictOf [] 0]) H->p=(dx,dictOf [] 0)\/p∈aS ρ os H:=fun p hp=>by
  unfold aS at hp ⊢
  rw[List.zip_append LY.hl] at hp
  simp only[ZS,List.zip_cons_cons,List.zip_nil_right,ZP] at hp ⊢
  rcases hp with (hp|hp)|hp
  ·exact .inr (.inl hp)
  ·exact .inl hp
  ·exact .inr (.inr hp)
 have S2:ad (c.dn (lv':=lv') dp' un' b1 b2 (ZJ hlv)) (Γ.new C) (ρ++[dx]++[x]) { s with heap:=h' } :=
  ad.add (c:=c.dn (lv':=lv') dp' un' b1 b2 (ZJ hlv)) (s:={ s with heap:=h' }) (Γ:=⟨Γ.m,Γ.o++[SO.attrs []]⟩) (so:=.inst C Γ.o.length) (o':=instObj C dx) (hmm.up (ZO _ _)) L1 (.inst e1) (fun p hp=>(N2 p hp).elim (fun e=>by refine aa (e ..) ?_;exact Zb hdx) fun h=>Zb (Nat.lt_trans (hlt p h) hdx)) F' (fun p hp=>N' p (by
   rcases ZT.mp hp with rfl|hp
   ·exact .head _
   ·rcases N2 p hp with rfl|hp
    ·exact .tail _ (.head _)
    ·exact .tail _ (.tail _ hp))) ⟨hs.heap h' s.toks |>.eq,hs.heap h' s.toks |>.gx⟩
 have hpp:ρ<+:ρ++[dx]++[x]:=⟨[dx,x],by simp⟩
 have e2:(ρ++[dx]++[x])[Γ.o.length+1]?=some x:=by refine aa (LY.hg ..) (aA (LY.hl ..) ?_);simp
 refine hI _ _ _ _ (.ref x::us) ks S2 (.cons (.ref e2) (hus.up hpp)) hks (hkv.up hpp) fun u ρ' s' hp hu S'=>?_
 obtain rfl:=hu.valI
 exact⟨rfl,KK _ ρ' s' (hpp.trans hp) (.ref (ak hp e2)) S'.up⟩
end
example:True:=by w_top off;trivial
section
variable{w:World}{κ:CK}{c:Cx w κ}{Γ Γ₁ Γ2:G}
theorem nj{ρ:LQ}{cs us:LW}(h:bh ρ (cs.map .val) us):us=cs:=by
 induction cs generalizing us with
|nil=>obtain rfl:=h.nilI;rfl
|cons c cs ih =>
  replace h:=h.consI;obtain⟨_,_,rfl,h,t⟩:=h
  obtain rfl:=h.valI
  exact aa (ih t ..) rfl
theorem Ev.tuple{es:List Expr}{k:Nat}{pos:Pos}{vs:LX}(h:jn c Γ es vs Γ₁)(hl:vs.length<=100):Ev c Γ (.Tuple es k pos) (.ref Γ₁.o.length) (Γ₁.addO (.tup vs)):=fun ρ s Q E S KK =>
 Tuple_ (h pos ρ s _ E S fun us ρ1 sj1 hp hu Sj1=>by
  have e:=svs_len hu
  obtain⟨m,os,H,F,N,hm,LY,hs⟩:=Sj1
  refine kup_newTuple F N (fun D h' F' N' hlt=>?_) (by show us.toArray.size<=sizeLine;simp[sizeLine];exact(ah [.m .a .m,.e .b .a] (.m .b (.n 16777216))) hl e)
  have e3:(ρ1++[D])[Γ₁.o.length]?=some D:=by refine aa (LY.hg ..) (aA (LY.hl ..) ?_);simp
  exact KK _ _ _ (hp.trans (ZO _ _)) (.ref e3) (ad.add hm LY (.tup (hu.up (ZO _ _))) (fun p hp=>Zb (hlt p hp)) F' N' (hs.heap h' sj1.toks)))
noncomputable def pX:List Value:=[.type "list",.type "tuple",.type "set",.type "frozenset"]
theorem pC:AnswersAll (fun s=>s.TypeIs .none "NoneType") .none pX [false,false,false,false] :=
 ⟨Answers.of_false_none (by decide +kernel) PySem.F.isi_meta_list PySem.F.sub_NoneType_list,Answers.of_false_none (by decide +kernel) PySem.F.isi_meta_tuple PySem.F.sub_NoneType_tuple,Answers.of_false_none (by decide +kernel) PySem.F.isi_meta_set PySem.F.sub_NoneType_set,Answers.of_false_none (by decide +kernel) PySem.F.isi_meta_frozenset PySem.F.sub_NoneType_frozenset,trivial⟩
theorem pD(a:Addr):AnswersAll (fun s=>s.TypeIs (.ref a) "list") (.ref a) pX [true,false,false,false] :=
 ⟨Answers.of_true PySem.F.isi_meta_list PySem.F.sub_list_list,Answers.of_false_list (by decide +kernel) PySem.F.isi_meta_tuple PySem.F.sub_list_tuple,Answers.of_false_list (by decide +kernel) PySem.F.isi_meta_set PySem.F.sub_list_set,Answers.of_false_list (by decide +kernel) PySem.F.isi_meta_frozenset PySem.F.sub_list_frozenset,trivial⟩
theorem ax.isiT{v:SV}{j:Nat}{b:Bool}(hj:Γ.o[j]?=some (.tup (pX.map .val)))(hv:∀ρ (s:Shared) u,ad c Γ ρ s->v.Is ρ u->∃Tx vs,AnswersAll (fun s=>s.TypeIs u Tx) u pX vs/\s.TypeIs u Tx/\vs.any id=b):ax c Γ (.val (.builtin "isinstance")) [v,.ref j] [] (.val (.bool b)) Γ:=fun ρ s Q E fv us ks S hfv hus hks hkv KK=>by
 obtain rfl:=hfv.valI
 obtain rfl:ks=[]:=ZG.mp hks
 obtain⟨_,_,rfl,h1,t⟩:=hus.consI
 replace t:=t.consI;obtain⟨_,_,rfl,h2,t⟩:=t
 obtain rfl:=t.nilI
 replace h2:=h2.refI;obtain⟨_,rfl,h2⟩:=h2
 obtain⟨Tx,vs,a1,a2,a3⟩:=hv ρ s _ S h1
 have S':=S
 obtain⟨m,os,H,F,N,hm,LY,hs⟩:=S
 obtain⟨a,o,ha,hob,hi,hmem⟩:=LY.slot hj
 rw[ha] at h2;obtain rfl:=ZK h2
 obtain⟨_,rfl,hu⟩:=hi.tupI
 obtain rfl:=nj hu
 refine PySem.IsiPair.tupleOf a1 a2 (N _ hmem).1 fun tk=>?_
 refine aa (a3 ..) ?_
 exact KK _ ρ _ (ZN _) (.val _) (S'.toks tk)
theorem oB:∀ρ (s:Shared) u,ad c Γ ρ s->(SV.val .none).Is ρ u->∃Tx vs,AnswersAll (fun s=>s.TypeIs u Tx) u pX vs/\s.TypeIs u Tx/\vs.any id=false:=fun O O O O h=>by
 obtain rfl:=h.valI
 exact⟨_,_,pC,rfl,rfl⟩
theorem jP{i:Nat}{bs:LI}(hi:Γ.o[i]?=some (.nums bs)):∀ρ (s:Shared) u,ad c Γ ρ s->(SV.ref i).Is ρ u->∃Tx vs,AnswersAll (fun s=>s.TypeIs u Tx) u pX vs/\s.TypeIs u Tx/\vs.any id=true:=fun ρ s u S h=>by
 obtain⟨a,vs,n,os,ha,hI,N,hg⟩:=S.nums hi
 obtain rfl:=h.refAt ha
 exact⟨_,_,pD a,⟨_,(N _ hg).1,rfl⟩,vT⟩
end
example:True:=by w_top off;trivial
theorem oF{w:World}{A:Around}{a b:Int}{t u:Tok}{s:Shared}{Q E:VS}(h:Q (.bool (decide (a > b))) s):wpAny (model PR w) A (richCompare .Gt (.int a t) (.int b u)) Q E s :=
 CmpOf.ints_gt (P:=fun i v=>∃t,v=.int (if i=0 then a else b) t) (fun i=>if i=0 then a else b) (fun i v h=>h) 0 1 _ _ s Q E ⟨t,rfl⟩ ⟨u,rfl⟩ h
noncomputable abbrev dO(b:Int)(t:Tok):Array Value:=#[.int b t,.int b t]
noncomputable def mB(l:LD)(b:Int):Int:=l.foldl (fun a e=>max a e.1) b
theorem n6{w:World}{lvl:Nat}{bd it S:Addr}(l:LD):∀{D:DC} {own hold Z:AO} {pg:Gs} {o:On w} {s:Shared} {R:RS} (b:Int) (tA:Tok) (c:Nat),aE w lvl bd it D l own pg->o.Fits (lvl+1)->At o ([(S,listOf (dO b tA) c)]++own) hold s->(∀q∈own,S≠q.1)->(∀q∈pg,s.gens[q.1]?=some q.2)->o.g.objs.size<=bd->cG Z D l->(∀q∈Z,q∈quiet o.fr hold) ->
  (∀t hold' s',Mv o pg [] hold hold' s s'->At o [] hold' s'->R (.ok (.ret (.int (mB l b) t))) s')->codeAny (model PR w) o.A (.builtin "max.loop" ⟨[.ref it,.none,.ref S],[]⟩) R s:=by
 induction l with
|nil =>
  intro D own hold Z pg o s R b tA c hi hf A hne hpg hb hS hZ k
  refine codeAny_builtin PySem.F.entry_max_loop ?_
  refine aa (Around.under_plainId PySem.F.plain_max_loop _ ..) ?_
  show wpAny _ _ (seqItems? (.ref S) >>= _) _ _ s
  refine ZL (wpAny_seqItems (A.ft _ (.head _)).1 rfl ?_)
  show wpAny _ o.un1.A (tryCatch (pyNext (.ref it)) _ >>= _) _ _ s
  refine ZL (wpAny_tryCatch (d7 (ac:=[(S,listOf (dO b tA) c)]) hi hf A (fun q hq y hy=>by refine aa (ZP.mp hq ..) ?_;exact hne y hy) hpg hb (fun h hh=>(hS h hh).1) hZ (fun r own' pg' hold' s' V A' hao hP=>?_) _))
  subst hP
  dsimp only
  show wpAny _ _ (updateSeq S (fun O=>#[]) >>= fun O=>letGo [.int b tA] [.int b tA] >>= fun O=>ret (.int b tA)) _ _ _
  have zS:=A'.ft (S,listOf (dO b tA) c) (.head _)
  refine ZL (wpAny_updateSeq zS.1 rfl ?_ (by show 2<=sizeLine;simp[sizeLine]) (by show 0<=_;simp))
  have hS2:=ZV (Obj.mapSeq fun O=>(#[]:Array Value)) zS.1 rfl
  have A2:=A'.upd (tk:=s'.toks) (fun q hq e=>hao _ (.head _) q hq e.symm) (fun b o hb e=>(Zi _ _ (Ne.symm hb)).trans e) hS2
  refine ZL (wpAny_letGo (ZM ?_))
  have W:=V.trans (Mv.still2 (h':=s'.heap.update S (Obj.mapSeq fun O=>(#[]:Array Value))) (tk:=s'.toks) fun q hq=>(V.pi q hq).1)
  exact k tA hold' _ ⟨W.eq,W.gm,fun O h=>(nomatch h),W.kp⟩ (A2.sub fun O h=>nomatch h)
|cons e l ih =>
  obtain⟨z,D'⟩:=e
  intro D own hold Z pg o s R b tA c hi hf A hne hpg hb hS hZ k
  refine codeAny_builtin PySem.F.entry_max_loop ?_
  refine aa (Around.under_plainId PySem.F.plain_max_loop _ ..) ?_
  show wpAny _ _ (seqItems? (.ref S) >>= _) _ _ s
  refine ZL (wpAny_seqItems (A.ft _ (.head _)).1 rfl ?_)
  show wpAny _ o.un1.A (tryCatch (pyNext (.ref it)) _ >>= _) _ _ s
  refine ZL (wpAny_tryCatch (d7 (ac:=[(S,listOf (dO b tA) c)]) hi hf A (fun q hq y hy=>by refine aa (ZP.mp hq ..) ?_;exact hne y hy) hpg hb (fun h hh=>(hS h hh).1) hZ (fun r own' pg' hold' s' V A' hao hP=>?_) _))
  obtain⟨⟨u,rfl⟩,hi'⟩:=hP
  dsimp only
  refine ZL (ZM ?_)
  show wpAny _ _ (tryCatch (holding [.int z u,.int z u] (richCompare .Gt (.int z u) (.int b tA) >>= fun answer=>holding [answer] (truthy answer) >>= fun yes=>letGo [answer] >>= fun O=>pure yes)) _ >>= _) _ _ _
  refine ZL (wpAny_tryCatch (wpAny_holding (ZL (oF (ZL (wpAny_holding (wpAny_truthy_bool (ZL (wpAny_letGo (ZM ?_))))))))))
  have hpg':∀q∈pg',s'.gens[q.1]?=some q.2:=fun q hq=>(V.pi q hq).1
  have zS:=A'.ft (S,listOf (dO b tA) c) (.head _)
  have hne':∀q∈own',q.1≠S:=fun q hq e=>hao (S,listOf (dO b tA) c) (.head _) q hq e.symm
  have hS':cG Z D' l:=fun h hh=>⟨(hS h hh).2 _ (.head _),fun e he=>(hS h hh).2 e (.tail _ he)⟩
  by_cases hgt:z > b
  ·refine aa (decide_eq_true hgt ..) ?_
   refine cj vT ?_
   show wpAny _ _ (updateSeq S (fun O=>dO z u) >>= fun O=>letGo [.int b tA,.int b tA] >>= fun O=>again (.builtin "max.loop" ⟨[.ref it,.none,.ref S],[]⟩)) _ _ _
   refine ZL (wpAny_updateSeq zS.1 rfl ?_ (by show 2<=sizeLine;simp[sizeLine]) (by show 2<=_;simp[sizeLine]))
   have hS2:=ZV (Obj.mapSeq fun O=>dO z u) zS.1 rfl
   have A2:=A'.upd (tk:=s'.toks) hne' (fun b o hb e=>(Zi _ _ (Ne.symm hb)).trans e) hS2
   refine ZL (wpAny_letGo (ZM ⟨plainId_quiet PySem.F.plain_max_loop _,ih z u _ hi' hf A2 (fun q hq=>(hne' q hq).symm) hpg' hb hS' (fun q hq=>aY V.kp (hZ q hq)) fun t' h3 s3 V3 A3=>?_⟩))
   have:=k t' h3 s3 (V.trans ((Mv.still2 hpg').trans V3)) A3
   rwa [show mB ((z,D')::l) b=mB l z from by unfold mB;refine aa (List.foldl_cons ..) ?_;show List.foldl _ (max b z) l=_;rw[Int.max_eq_right (Int.le_of_lt hgt)]] at this
  ·refine aa (decide_eq_false hgt ..) ?_
   refine aj Bool.false_ne_true ?_
   show wpAny _ _ (letGo [.int z u,.int z u] >>= fun O=>again (.builtin "max.loop" ⟨[.ref it,.none,.ref S],[]⟩)) _ _ _
   refine ZL (wpAny_letGo (ZM ⟨plainId_quiet PySem.F.plain_max_loop _,ih b tA _ hi' hf A' (fun q hq=>(hne' q hq).symm) hpg' hb hS' (fun q hq=>aY V.kp (hZ q hq)) fun t' h3 s3 V3 A3=>?_⟩))
   have:=k t' h3 s3 (V.trans V3) A3
   rwa [show mB ((z,D')::l) b=mB l b from by unfold mB;refine aa (List.foldl_cons ..) ?_;show List.foldl _ (max b z) l=_;rw[Int.max_eq_left (Int.not_lt.mp hgt)]] at this
theorem nT(l:LD):∀b,(mB l b=b\/mB l b∈l.map (·.1))/\b<=mB l b/\∀z∈l.map (·.1),z<=mB l b:=by
 induction l with
|nil=>exact fun b=>⟨.inl rfl,Int.le_refl _,fun O h=>nomatch h⟩
|cons e l ih =>
  intro b
  obtain⟨h1,h2,h3⟩:=ih (max b e.1)
  have e9:mB (e::l) b=mB l (max b e.1):=rfl
  refine aa (e9 ..) ?_
  refine⟨?_,by exact(jN [.M .A .D,.K .A .B .C] (.M .B .D)) h2 (tZ _ _),fun z hz=>?_⟩
  ·rcases h1 with h1|h1
   ·refine aa (h1 ..) ?_
    rcases Int.le_total b e.1 with h|h
    ·exact .inr (by refine aa (Int.max_eq_right h ..) ?_;exact .head _)
    ·exact .inl (Int.max_eq_left h)
   ·exact .inr (.tail _ h1)
  ·rcases ZT.mp hz with rfl|hz
   ·lia
   ·exact h3 z hz
theorem lM{w:World}{lvl:Nat}{u:Value}{ρ:LQ}{K₀:OP}{Ok:String->(List SO->Prop)->KL->Prop}{zs:LI}(B:bI w lvl (oz w u) [] [] (fun O=>dOf w ρ K₀) (du w lvl ρ Ok))(hst:∀T K l,Ok T K l->(∀h,dOf w ρ K₀ h->dOf w ρ K h/\∀e∈l,dOf w ρ e.2 h)/\∀z,z∈l.map (·.1)<->z∈zs)(hz:zs≠[]) :
  bI w (lvl+1) (rC w "max" [u]) [] [] (fun O=>dOf w ρ K₀) (fun O r O O=>∃M t,r=.int M t/\M∈zs/\∀z∈zs,z<=M):=by
 intro o hold s Q hfit A hpg hD k E
 refine PySem.call_function_tree (by decide +kernel) PySem.F.plain_max PySem.F.entry_max (PySem.F.args_max1 _) ?_
 show wpAny _ _ (Builtin.Builtins.bindParams "max" ["key","default"] 0 ⟨[],[]⟩ >>= _) _ _ _
 refine ZL (wpAny_of_eq (a:=[none,none]) (by first|rfl|kernel_rfl!) ?_)
 show wpAny _ o.un1.A (pyIter u >>= fun it=>newList [] >>= fun l=>again (.builtin "max.loop" ⟨[it,.none,l],[]⟩)) _ _ _
 refine ZL (B o.un1 hold s _ hfit.un1 A.to1 hpg hD (fun r own pg hold' s' V A' hP=>?_) _)
 obtain⟨T,bd,it,K,l,hb,rfl,hOk,hself,hi⟩:=hP
 obtain⟨h1,h2⟩:=hst T K l hOk
 have A':=A'.of1
 have V:=V.of1
 refine ZL (wpAny_newObj_type (data:=.seq #[] 0) ?_ (by first|trivial|size_fits|decide))
 obtain⟨A2,lt⟩:=A'.push (tk:=s'.toks) (listOf #[] 0)
 have hpg':∀q∈pg,s'.gens[q.1]?=some q.2:=fun q hq=>(V.pi q hq).1
 refine ZM ⟨plainId_quiet PySem.F.plain_max_loop _,?_⟩
 cases l with
|nil =>
  exfalso
  obtain⟨z,zs',e⟩:=List.exists_cons_of_ne_nil hz
  exact nomatch (h2 z).mpr (e▸.head _)
|cons e l =>
 obtain⟨z,K'⟩:=e
 refine codeAny_builtin PySem.F.entry_max_loop ?_
 refine aa (Around.under_plainId PySem.F.plain_max_loop _ ..) ?_
 generalize s'.heap.objs.size=S at *
 show wpAny _ _ (seqItems? (.ref S) >>= _) _ _ _
 refine ZL (wpAny_seqItems (A2.ft _ (.head _)).1 rfl ?_)
 have hS:cG (quiet o.fr hold) (dOf w ρ K) (dL w ρ ((z,K')::l)):=fun h hh=>⟨(h1 h (hD.mono hh)).1,fun e he=>by
  obtain⟨x,hx,rfl⟩:=Zc.mp he
  exact(h1 h (hD.mono hh)).2 x hx⟩
 refine ZL (wpAny_tryCatch (d7 (ac:=[(S,listOf #[] 0)]) hi hfit A2 (fun q hq y hy=>by refine aa (ZP.mp hq ..) ?_;exact Nat.ne_of_gt (lt y (ZD _ hy))) hpg' (ZW A.sz hb) (fun h hh=>(hS h hh).1) (fun q hq=>aY V.kp hq) (fun r own' pg' hold2 s2 V2 A3 hao hP=>?_) _))
 obtain⟨⟨u,rfl⟩,hi'⟩:=hP
 dsimp only
 refine ZL (ZM ?_)
 show wpAny _ _ (updateSeq S (fun O=>dO z u) >>= fun O=>again (.builtin "max.loop" ⟨[.ref it,.none,.ref S],[]⟩)) _ _ _
 have zS:=A3.ft (S,listOf #[] 0) (.head _)
 have hne':∀q∈own',q.1≠S:=fun q hq e=>hao (S,listOf #[] 0) (.head _) q hq e.symm
 refine ZL (wpAny_updateSeq zS.1 rfl ?_ (by show 0<=sizeLine;simp[sizeLine]) (by show 2<=_;simp[sizeLine]))
 have hS2:=ZV (Obj.mapSeq fun O=>dO z u) zS.1 rfl
 have A4:=A3.upd (tk:=s2.toks) hne' (fun b o hb e=>(Zi _ _ (Ne.symm hb)).trans e) hS2
 have hpg2:∀q∈pg',s2.gens[q.1]?=some q.2:=fun q hq=>(V2.pi q hq).1
 refine ZM ⟨plainId_quiet PySem.F.plain_max_loop _,n6 (dL w ρ l) z u _ hi' hfit A4 (fun q hq=>(hne' q hq).symm) hpg2 (ZW A.sz hb) (fun h hh=>⟨(hS h hh).2 _ (.head _),fun e he=>(hS h hh).2 e (.tail _ he)⟩) (fun q hq=>aY V2.kp (aY V.kp hq)) fun t' h3 s3 V3 A5=>?_⟩
 have W:=V.trans (Mv.trans (Mv.still2 (h':=s'.heap.push (listOf #[] 0)) (tk:=s'.toks) hpg') (V2.trans ((Mv.still2 hpg2).trans V3)))
 obtain⟨m1,m2,m3⟩:=nT (dL w ρ l) z
 have e1:(dL w ρ l).map (·.1)=l.map (·.1):=List.map_map
 rw[e1] at m1 m3
 refine k _ [] [] h3 s3 W A5 ⟨_,t',rfl,(h2 _).mp ?_,fun y hy=>?_⟩
 ·rcases m1 with m1|m1
  ·refine aa (m1 ..) ?_;exact .head _
  ·exact .tail _ m1
 ·rcases ZT.mp ((h2 y).mpr hy) with rfl|hy
  ·exact m2
  ·exact m3 y hy
example:True:=by w_top off;trivial
theorem dOf.at1{w:World}{ρ:LQ}{Γo:LO}{K:OP}{h:AO}(x:dOf w ρ (·=Γo) h)(hK:K Γo):dOf w ρ K h:=by
 obtain⟨l,os,rfl,h1,h2,h3,h4⟩:=x
 exact⟨_,os,hK,h1,h2,h3,h4⟩
section
variable{w:World}{κ:CK}{c:Cx w κ}{Γ:G}{lvl:Nat}
theorem ax.biI{id:String}{v:SV}{σ:LN}{K₀:OP}{r:SV}(C:∀ρ u,ρ.length=σ.length->ρ.Nodup->v.Is ρ u->bI w lvl (rC w id [u]) [] [] (fun O=>dOf w ρ K₀) (fun O x O O=>∀ρ,r.Is ρ x))(M0:Meets Γ σ K₀)(hv:v.fit σ.length=true:=by exact vT)(nd:σ.Nodup:=by decide)(hσ:(σ.all fun i=>Nat.blt i Γ.o.length)=true:=by exact vT)(hlv:Nat.ble lvl κ.lv=true:=by exact vT) :
  ax c Γ (.val (.builtin id)) [v.ren σ] [] r Γ:=fun ρ s Q E fv us ks S hfv hus hks hkv KK=>by
 obtain rfl:=hfv.valI
 obtain rfl:ks=[]:=ZG.mp hks
 obtain⟨_,_,rfl,h1,t⟩:=hus.consI
 obtain rfl:=t.nilI
 obtain⟨ρc,n2,p2,ndc⟩:=ed S hσ
 have Sj0:ad (c.lp c.ρ0 (ZN _) c.len [] s) Γ ρ s:=S.lp S.pre
 exact Sj0.act (fun O h=>nomatch h) (C ρc _ n2 (ndc nd) (h1.pick p2 hv)) (fun os hold h1 h2 h3 h4=>M0.dOf n2 p2 h1 h2 h3 h4) (ZJ hlv) (fun O h=>nomatch h) (fun x own pg sj2 V hr ho Sj2=>KK x ρ sj2 (ZN _) (hr ρ) (Sj2.out (S.rel.step V fun O h=>nomatch h))) E
theorem ax.maxL{i:Nat}{bs:LI}{M:Int}(hi:Γ.o[i]?=some (.nums bs))(hM:M∈bs)(hM2:∀z∈bs,z<=M)(hlv:Nat.ble 1 κ.lv=true:=by exact vT):ax c Γ (.val (.builtin "max")) [.ref i] [] (.int M) Γ :=
 ax.biI (σ:=[i]) (v:=.ref 0) (K₀:=(·=[.nums bs])) (fun ρ u h1 h2 h3=>(lM (zs:=bs) (bC w bs 0 1 (by decide) (K₀:=(·=[.nums bs])) (fun l h=>by refine aa (h ..) ?_;rfl) ρ u h1 h2 h3) (fun T K l hO=>by
  have x:=cR (Γo:=[.nums bs]) vS T K l hO
  exact⟨fun h hh=>⟨hh.at1 x.2.1,fun e he=>hh.at1 (x.2.2 e he)⟩,fun z=>by rw[x.1]⟩) (fun e=>by rw[e] at hM;exact nomatch hM)).imp (fun O O h=>h) (fun O r O O hZ ρ=>by
   obtain⟨M',t,e,h4,h5⟩:=hZ
   refine aa (e ..) (aa (show M'=M from Int.le_antisymm (hM2 _ h4) (h5 _ hM)) ?_)
   exact .int _ _)) ⟨[.nums bs],.cons hi .nil,vT,rfl⟩ vT (List.nodup_cons.mpr ⟨(fun h=>nomatch h),List.nodup_nil⟩) (by
    have:=(ZB.mp hi).1
    simp[Nat.blt_eq,this]) hlv
end
example:True:=by w_top off;trivial
noncomputable def mx(y:Str)(v:SV):List (Str×SV)->List (Str×SV)
|[]=>[(y,v)]
|(x,u)::r=>if x=y then (x,v)::r else (x,u)::mx y v r
section
variable{w:World}{ρ:LQ}
theorem mO{es:LV}{ds:List DictEntry}(h:aQ w ρ es ds)(x:Str):(getL x ds).isSome=true:=by
 cases e:es.lookup x with
|none=>refine aa (cf h e ..) ?_;rfl
|some v=>obtain⟨u,h1,_⟩:=jZ h e;refine aa (h1 ..) ?_;rfl
set_option tactic.hygienic true in
theorem oO{es:LV}{ds:List DictEntry}(h:aQ w ρ es ds){y:Str}{v:SV}{u:Value}(hv:v.Is ρ u)(t:Tok):aQ w ρ (mx y v es) (putL y (PyData.keyHash w.params y) (.str y t) u ds):=by
 induction h with
|nil=>exact .cons t hv .nil
|cons t' hv' r ih =>
  rename_i x' v' u' es' ds'
  by_cases q:x'=y
  ·subst q
   unfold mx putL
   simp only[Value.isStr,beq_self_eq_true,if_true]
   exact .cons t' hv r
  ·have hb:(Value.str x' t').isStr y=false:=by
    exact beq_eq_false_iff_ne.mpr q
   unfold mx putL
   rw[if_neg q,if_neg (by rw[hb];decide)]
   exact .cons t' hv' ih
theorem oP{es:LV}{ds:List DictEntry}(h:aQ w ρ es ds):ds.length=es.length:=by
 induction h with
|nil=>rfl
|cons _ _ _ ih=>simp[ih]
end
structure iA(w:World)(C:Addr)(y:Str):Prop where
 s:findIn (hd.heap_1 w.params) (.ref C) "__setattr__"=some (some (.builtin "object.__setattr__"))
 p:plainOver (hd.heap_1 w.params) C=true
 t:takerIn (hd.heap_1 w.params) C y=some none
 d:hasDictIn (hd.heap_1 w.params) C=true
section
variable{w:World}{κ:CK}{c:Cx w κ}{Γ Γ₁ Γ2:G}{P:SF->G->Prop}
theorem bJ.setAttr{o e:Expr}{y:Str}{ap pos:Pos}{i d:Nat}{C:Addr}{as:LV}{v:SV}(he:Ev c Γ e v Γ₁)(ho:Ev c Γ₁ o (.ref i) Γ2)(h1:Γ2.o[i]?=some (.inst C d))(h2:Γ2.o[d]?=some (.attrs as))(hS:iA w C y)
  (K:P .next (Γ2.setO d (.attrs (mx y v as)))) (hl:Nat.ble (mx y v as).length 100=true:=by exact vT) (hs:∀env,swapsWith e (some (.Attribute o y ap)) pos.line env=pure false:=by intros;exact vP) (hz:Nat.ble κ.nf d=true:=by exact vT):bJ c Γ (.Assign [.Attribute o y ap] e pos) P:=fun ρ s Q E hE S KK =>
 PySem.plainObj_wpAny_Assign_Attribute (he ρ s _ E S fun u ρ1 sj1 hp1 q1 Sj1=>by
  refine ho ρ1 sj1 _ E Sj1 fun u2 ρ₂ sj2 hp2 q2 Sj2=>?_
  obtain⟨m,os,H,F,N,hm,LY,hs2⟩:=Sj2
  obtain⟨a,dx,ds,n,ha,hd,hE2,ho2,I⟩:=bf N LY h1 h2
  obtain rfl:=q2.refAt ha
  have hzz:=ZJ hz
  have hput:=oO (y:=y) hE2 (q1.up hp2) (sj2.toks+1)
  refine set_dict F c.o.X N I vS hS.s hS.p hS.t hS.d (mO hE2 y) rfl (LY.upd hd ho2 _ hzz) (by refine aa (oP hput ..) ?_;have:=ZJ hl;exact ZW ‹_› (by decide)) fun h' F' N'=>?_
  exact KK _ _ ρ₂ _ _ K .next (ad.set (s:={ sj2 with heap:=h',toks:=sj2.toks+2 }) hm LY (.attrs hput) F' N' (hs2.heap h' _) hzz)) (hs _)
end
example:True:=by w_top off;trivial
section
variable{w:World}{κ:CK}{c:Cx w κ}{Γ Γ₁ Γ2 Γ3:G}
theorem Ev.forget{e:Expr}{v:SV}(h:Ev c Γ e v Γ₁)(hle:G.Le Γ₁ Γ2)(hf:Γ2.fit=true)(hn:Nat.ble κ.n Γ2.o.length=true)(hv:v.fit Γ2.o.length=true)(hl:Nat.ble Γ.o.length Γ2.o.length=true):Ev c Γ e v Γ2:=fun ρ s Q E S KK =>
 h ρ s Q E S fun u ρ1 sj1 hp hu Sj1=>KK u _ sj1 (List.prefix_take_iff.mpr ⟨hp,by refine aa (S.len ..) ?_;exact ZJ hl⟩) (hu.take hv) (Sj1.weak hle hf hn)
theorem Ev.strE{x:Str}{k:Nat}{pos:Pos}:Ev c Γ (.Constant (.str x) k pos) (.str x) Γ:=fun ρ s Q E S h=>wpAny_Constant_str (h _ ρ _ (ZN _) (.str _ _) (S.toks _))
theorem Ev.isiT{e:Expr}{f1 f2 f3 f4 f5 pos p2:Pos}{k:Nat}{v:SV}{b:Bool}(n1:Ev c Γ (.Name "isinstance" f1) (.val (.builtin "isinstance")) Γ)(he:Ev c Γ e v Γ)(n2:Ev c Γ (.Name "list" f2) (.val (.type "list")) Γ)(n3:Ev c Γ (.Name "tuple" f3) (.val (.type "tuple")) Γ)(n4:Ev c Γ (.Name "set" f4) (.val (.type "set")) Γ)(n5:Ev c Γ (.Name "frozenset" f5) (.val (.type "frozenset")) Γ)
  (hv:∀ρ (s:Shared) u,ad c (Γ.addO (.tup (pX.map .val))) ρ s->v.Is ρ u->∃Tx vs,AnswersAll (fun s=>s.TypeIs u Tx) u pX vs/\s.TypeIs u Tx/\vs.any id=b) (hf:Γ.fit=true:=by exact vT) (hn:Nat.ble κ.n Γ.o.length=true:=by exact vT) (hs1:∀es env,starEach (e::es) env=(false,eval e env)::starEach es env:=by intros;rfl) :
  Ev c Γ (.Call (.Name "isinstance" f1) [e,.Tuple [.Name "list" f2,.Name "tuple" f3,.Name "set" f4,.Name "frozenset" f5] k p2] [] pos) (.val (.bool b)) Γ :=
 .forget (.call_bi n1 (.cons he (.cons (.tuple (.cons n2 (.cons n3 (.cons n4 (.cons n5 .nil)))) (by decide)) .nil) (hs1 _)) (ax.isiT (b:=b) (by show (Γ.o++[_])[Γ.o.length]?=_;simp[pX]) hv) (hs1 _)) ⟨.same,lF _ _⟩ hf hn vT (by simp)
end
example:True:=by w_top off;trivial
theorem iI(w:World):iA w 514 "bits":=⟨by k_is,by k_is,by k_is,by k_is⟩
noncomputable abbrev tY(pos:Pos):List SO:=[.inst 514 1,.attrs [],.tab 2 363 pos]
noncomputable abbrev uz(bs:LI)(pos:Pos):List SO:=[.inst 514 1,.attrs [("bits",.ref 3)],.tab 2 363 pos,.nums bs]
theorem fH(st:Int)(n:Nat):∀a,(cw st n a).length=n:=by
 induction n with
|zero=>exact fun O=>rfl
|succ n ih=>exact fun a=>by unfold cw;exact aa (List.length_cons ..) (aa (ih ..) rfl)
theorem zeros(n:Nat):((cw 1 n 0).filter fun O=>true).map (fun O=>(0:Int))=List.replicate n 0:=by
 refine aa (eH ..) ?_
 exact List.eq_replicate_iff.mpr ⟨by exact aa (Zm ..) (aa (fH ..) rfl),fun z hz=>by obtain⟨_,_,rfl⟩:=Zc.mp hz;rfl⟩
theorem nQ{st a:Int}{n:Nat}:∀T K l,uq st n a T K l->l.map (·.1)=cw st n a/\K []/\∀e∈l,e.2 []:=by
 rintro T K l ⟨rfl,rfl⟩
 refine⟨by refine aa (List.map_map ..) ?_;exact List.map_id' _,trivial,fun e he=>?_⟩
 obtain⟨z,_,rfl⟩:=Zc.mp he
 trivial
noncomputable def sR(o:Option Obj):Nat:=match o with
|some ⟨_,_,.seq items _,_⟩=>(match (items[1]?:Option Value) with|some (.int _ t)=>t|_=>0)
|_=>0
theorem iF(P:Params):(hd.heap_1 P).lookup 361=some ⟨.type "tuple",none,.seq #[.none,.int 0 (sR ((hd.heap_1 P).lookup 361))] 0,#[]⟩:=by kernel_rfl
theorem uh{ρ:LQ}{x:Str}{v:SV}{ks:List (Str×Value)}(h:kt ρ [(x,v)] ks):∃u,ks=[(x,u)]/\v.Is ρ u:=by
 obtain⟨h1,h2⟩:=h
 obtain⟨q,rfl⟩:=List.length_eq_one_iff.mp (show ks.length=1 by have:=congrArg List.length h1;simpa using this)
 obtain⟨x',u⟩:=q
 cases h2 with|cons h2 _ =>
 exact⟨u,by simpa using h1,h2⟩
theorem jf(w:World)(n:Int)(h1:n<=19)(k:Nat)(hk:(n+8)/8=(k:Int)){kw:LV}(hkw:kw=[(Str.ofString "size",SV.int n)]\/(kw=[]/\n=0)):az w 8 368 (tY ⟨203,31,203,61⟩) [.ref 0] kw (ch (.val .none) (uz (List.replicate k 0) ⟨203,31,203,61⟩)):=by
 refine' bU (fa:=[.ref 0,.val .none,.int n]) ["self","source","size"] ?ho ?hcd ?hb ?hx ?nd ?H ?c1 ?c2 ?c3 ?c4
 case ho=>k_is
 case hcd=>k_is
 case hx=>exact rfl
 case nd=>decide
 case c1=>exact rfl
 case c2=>exact rfl
 case c3=>exact rfl
 case c4=>exact rfl
 case hb =>
  intro ρ s us ks X hu hks
  obtain⟨_,_,rfl,h2,t⟩:=hu.consI
  obtain rfl:=t.nilI
  rcases hkw with rfl|⟨rfl,rfl⟩
  rotate_left
  ·obtain rfl:ks=[]:=ZG.mp hks.1
   exact⟨[_,.none,_],.cons h2 (.cons (.val _) (.cons (.int _ _) .nil)),BindsTo.of_defaults rfl (X _ _ (iF _)) rfl rfl rfl⟩
  obtain⟨u,rfl,hu⟩:=uh hks
  obtain⟨_,rfl⟩:=hu.intI
  exact⟨[_,.none,_],.cons h2 (.cons (.val _) (.cons (.int _ _) .nil)),BindsTo.of_defaults rfl (X _ _ (iF _)) rfl rfl rfl⟩
 intro c hc
 refine aA (zeros ..) ?_
 refine .cons (.ite (.and (.not (.plain (.name vS) .int)) fun O=>.and (.plain (.isiT (.bi (by k_is) boot_isinstance) (.name vS) (.bi (by k_is) boot_list) (.bi (by k_is) boot_tuple) (.bi (by k_is) boot_set) (.bi (by k_is) boot_frozenset) oB) .bool) fun O=>.and_nil) (fun h=>absurd h.2.1 (by decide)) fun O=>.nil (.cons (.assign (.call (.glob (gB w)) (gr w) (.cons (.name vS) .nil) (ae.ro (je w n) [] .nil).cal) ?_)))
 refine aa (hk ..) ?_
 refine .cons (.setAttr (.arrayG (σ:=[]) (.glob (by k_is)) (by k_is) .strE (iB.gx (σ:=[]) (κ':=⟨_,0,0,0,[]⟩) (p:=fun O=>true) (f:=fun O=>0) (.ofR (m8.range1 (n:=k) (.glob (bA w)) (.name vS) (by exact(aG [.M .A (.n 19),.E .B (.t .a),.W 8 .B (.p .A .y)] (.m .a .q)) h1 hk (aM 8)))) .nil vT nQ ⟨fun O O O=>.nil,fun c z hz O=>.intE⟩ (j:=2) vS (kg _) hc ⟨[],rfl,fun O O h=>nomatch h⟩ vT (by decide) (by decide) vT rfl rfl (ZZ _) (ZZ _) (by decide) vS vS rfl rfl fun O O=>rfl) (fun T K l h=>h.1▸fM w) (cI .nil vT) (by refine aa (zeros ..) (aa (List.length_replicate ..) ?_);exact(aG [.M .A (.n 19),.E .B (.t .a),.W 8 .B (.p .A .y)] (.m .a .q)) h1 hk (aM 8))) (.name vS) vS vS (iI w) (.cons (.ite (.plain (.name vS) .none) (fun h=>h.elim) fun O=>.nil (.nil (.next _ ⟨rfl,rfl⟩ .same vT)))))
example:True:=by w_top off;trivial
theorem pE{bs:LI}{i:Int}(h:bs.length<=3)(h0:0<=i)(h1:i<20):(aP bs i).length<=3:=by
 unfold aP fG
 split
 ·simp;lia
 ·simpa using h
theorem kr(fs:LI):∀{bs:LI},bs.length<=3->(∀z∈fs,0<=z/\z<20)->(fs.foldl aP bs).length<=3:=by
 induction fs with
|nil=>exact fun h O=>h
|cons z fs ih=>exact fun h hz=>ih (pE h (hz z (.head _)).1 (hz z (.head _)).2) fun y hy=>hz y (.tail _ hy)
theorem pu(w:World):dI w 514 "add" 448:=⟨by k_is,by k_is,by k_is,by k_is,by k_is,by k_is,by decide⟩
theorem ka(w:World)(fs:LI)(hl:fs.length<=20)(hz:∀z∈fs,0<=z/\z<20)(M:Int)(hM:M∈fs)(hM2:∀z∈fs,z<=M)(k:Nat)(hk:(M+8)/8=(k:Int)):az w 8 368 (tY ⟨203,31,203,61⟩++[.nums fs]) [.ref 0,.ref 3] []
  (ch (.val .none) [.inst 514 1,.attrs [("bits",.ref 4)],.tab 2 363 ⟨203,31,203,61⟩,.nums fs,.nums (fs.foldl aP (List.replicate k 0))]):=by
 have hM9:=hz M hM
 refine' bU (fa:=[.ref 0,.ref 3,.int 0]) ["self","source","size"] ?ho ?hcd ?hb ?hx ?nd ?H ?c1 ?c2 ?c3 ?c4
 case ho=>k_is
 case hcd=>k_is
 case hx=>exact rfl
 case nd=>decide
 case c1=>exact rfl
 case c2=>exact rfl
 case c3=>exact rfl
 case c4=>exact rfl
 case hb =>
  intro ρ s us ks X hu hks
  obtain⟨_,_,rfl,h2,t⟩:=hu.consI
  replace t:=t.consI;obtain⟨_,_,rfl,h3,t⟩:=t
  obtain rfl:=t.nilI
  obtain rfl:ks=[]:=ZG.mp hks.1
  exact⟨[_,_,_],.cons h2 (.cons h3 (.cons (.int _ _) .nil)),BindsTo.of_defaults rfl (X _ _ (iF _)) rfl rfl rfl⟩
 intro c hc
 refine .cons (.ite (.and (.not (.plain (.name vS) .int)) fun O=>.and (.plain (.isiT (.bi (by k_is) boot_isinstance) (.name vS) (.bi (by k_is) boot_list) (.bi (by k_is) boot_tuple) (.bi (by k_is) boot_set) (.bi (by k_is) boot_frozenset) (jP vS)) .bool) fun O=>.and_nil) (fun O=>?_) fun h=>absurd ⟨fun h=>h rfl,vT,trivial⟩ h)
 refine .cons (.assign (.call_bi (.bi (by k_is) boot_max) (.cons (.name vS) .nil) (ax.maxL (bs:=fs) (M:=M) vS hM hM2)) (.nil ?_))
 refine .cons (.assign (.call (.glob (gB w)) (gr w) (.cons (.name vS) .nil) (ae.ro (je w M) [] .nil).cal) ?_)
 refine aa (hk ..) ?_
 refine .cons (.setAttr (.arrayG (σ:=[]) (.glob (by k_is)) (by k_is) .strE (iB.gx (σ:=[]) (κ':=⟨_,0,0,0,[]⟩) (p:=fun O=>true) (f:=fun O=>0) (.ofR (m8.range1 (n:=k) (.glob (bA w)) (.name vS) (by exact(aG [.E .A (.t .a),.d (.M .o .B) (.L .B .x),.W 8 .A (.p .B .y)] (.m .a .q)) hk hM9 (aM 8)))) .nil vT nQ ⟨fun O O O=>.nil,fun c z hz O=>.intE⟩ (j:=2) vS (kg _) hc ⟨[],rfl,fun O O h=>nomatch h⟩ vT (by decide) (by decide) vT rfl rfl (ZZ _) (ZZ _) (by decide) vS vS rfl rfl fun O O=>rfl) (fun T K l h=>h.1▸fM w) (cI .nil vT) (by refine aa (zeros ..) (aa (List.length_replicate ..) ?_);exact(aG [.E .A (.t .a),.d (.M .o .B) (.L .B .x),.W 8 .A (.p .B .y)] (.m .a .q)) hk hM9 (aM 8))) (.name vS) vS vS (iI w) ?_)
 refine aa (zeros ..) ?_
 have hk3:(List.replicate k (0:Int)).length<=3:=by refine aa (List.length_replicate ..) ?_;exact(aG [.E .A (.t .a),.d (.M .o .B) (.L .B .x),.W 8 .A (.p .B .y)] (.m .a .w)) hk hM9 (aM 8)
 generalize List.replicate k (0:Int)=bs at hk3
 refine .cons (.ite (.plain (.name vS) (.nums vS (by exact ZX ‹_› (by decide)))) (fun O=>?_) fun h=>absurd (List.length_pos_of_mem hM) h)
 refine .cons (.assign (.bound (.name vS) vS vS rfl (pu w)) ?_)
 refine .cons (.forIt (α:=Nat) (fun K l i=>i<=fs.length/\K=KT 0 fs.length i (fs.drop i)/\l=oy 0 fs.length i (fs.drop i)) (fun i=>⟨[("add",.ref 5)],[.inst 514 1,.attrs [("bits",.ref 4)],.tab 2 363 ⟨203,31,203,61⟩,.nums fs,.nums ((fs.take i).foldl aP bs),.meth 448 (.ref 0)]⟩) 6 (.of (σ:=[3]) (v:=.ref 0) (K₀:=(·=[.nums fs])) (.name vS) (bC w fs 0 1 (by decide) (fun l h=>by refine aa (h ..) ?_;rfl)) ⟨[.nums fs],.cons vS .nil,vT,rfl⟩) (fun T K l hO=>?_) (fun K l a hI=>?_) (fun c' K z K' l a hI=>?_) fun K a hI=>?_)
 ·obtain⟨_,rfl,rfl⟩:=hO
  exact⟨0,⟨Zf _,rfl,rfl⟩,⟨.cons vS .nil,.same⟩,vT,vT⟩
 ·obtain⟨_,rfl,_⟩:=hI
  exact⟨[.nums fs],.cons vS .nil,vT,⟨fs,vS,rfl,rfl⟩⟩
 ·obtain⟨ha,_,hl9⟩:=hI
  rcases Zq a fs.length with hlt|hge
  ·rw[Zj hlt] at hl9
   cases hl9
   have hz9:=hz _ (List.getElem_mem hlt)
   refine .cons (.expr (.call_m (q:=5) (.name vS) vS (by k_is) (.cons (.name vS) .nil) vS (ae.det (kc w _ (kr (fs.take a) hk3 fun y hy=>hz y (List.mem_of_mem_take hy)) _ hz9.1 hz9.2) [0,1,4] (ab vS vS vS) (by decide) vT vT)) (.nil (.next (a+1) ⟨hlt,rfl,rfl⟩ ⟨.cons vS .nil,?_⟩ vT vT)))
   refine aa (Zw hlt ..) (aa (List.foldl_append ..) ?_)
   exact .same
  ·rw[Zo hge] at hl9
   exact nomatch hl9
 ·obtain⟨ha,_,hl9⟩:=hI
  have e:fs.take a=fs:=by
   rcases Zq a fs.length with hlt|hge
   ·rw[Zj hlt] at hl9;exact nomatch hl9
   ·exact List.take_of_length_le hge
  exact .nil (.nil (.next _ ⟨rfl,by exact aa (e ..) rfl⟩ (.cons (.cons (.cons (.cons (.cons .nil))))) vT))
example:True:=by w_top off;trivial
section
variable{w:World}{κ:CK}{c:Cx w κ}{Γ Γ₁ Γ':G}
theorem Ev.call0{x:Str}{xp pos:Pos}{f:Addr}{v:SV}(hf:Ev c Γ (.Name x xp) (.val (.ref f)) Γ₁)(hk:keepIn (hd.heap_1 w.params) (.ref f)=true)(hc:ax c Γ₁ (.val (.ref f)) [] [] v Γ'):Ev c Γ (.Call (.Name x xp) [] [] pos) v Γ':=fun ρ s Q E S k =>
 Call_ (hf ρ s _ E S fun u ρ1 sj1 hp1 q1 Sj1=>by
  obtain rfl:=q1.valI
  refine callWith_K0 (bO Sj1) hk ?_
  exact hc ρ1 sj1 Q E _ [] [] Sj1 (.val _) .nil rfl .nil fun u ρ3 sj3 hp3 hv S3=>k u ρ3 sj3 (hp1.trans hp3) hv S3)
end
theorem gu(w:World):keepIn (hd.heap_1 w.params) (.ref 514)=true:=by k_is
theorem gj(w:World):makesIn (hd.heap_1 w.params) 514=true:=by k_is
theorem gw(w:World):findIn (hd.heap_1 w.params) (.ref 514) "__init__"=some (some (.ref 368)):=by k_is
section
variable{w:World}{κ:CK}{c:Cx w κ}{Γ Γ₁ Γ2 Γ':G}
theorem Ev.callK{x y:Str}{xp pos kp:Pos}{f:Addr}{e:Expr}{ve v:SV}(hf:Ev c Γ (.Name x xp) (.val (.ref f)) Γ₁)(hk:keepIn (hd.heap_1 w.params) (.ref f)=true)(he:Ev c Γ₁ e ve Γ2)(hc:ax c Γ2 (.val (.ref f)) [] [(y,ve)] v Γ'):Ev c Γ (.Call (.Name x xp) [] [⟨some y,e,kp⟩] pos) v Γ':=fun ρ s Q E S k=>by
 show wpAny _ _ (do callWith pos (<- eval (.Name x xp) c.env) [] (backTo pos (starEach [] c.env)) (backToKw pos (keywordEach [⟨some y,e,kp⟩] c.env))) Q E s
 refine ZL (hf ρ s _ E S fun u ρ1 sj1 hp1 q1 Sj1=>?_)
 obtain rfl:=q1.valI
 refine callWith_KW0 (bO Sj1) hk vT (kws_cons (he ρ1 sj1 _ E Sj1 fun u2 ρ₂ sj2 hp2 q2 Sj2=>kws_nil ⟨bO Sj2,?_⟩))
 exact hc ρ₂ sj2 Q E _ [] [(y,u2)] Sj2 (.val _) .nil rfl (.cons q2 .nil) fun u ρ3 sj3 hp3 hv S3=>k u ρ3 sj3 ((hp1.trans hp2).trans hp3) hv S3
end
example:True:=by w_top off;trivial
section
variable{w:World}{κ:CK}{c:Cx w κ}{Γ Γ₁ Γ2 Γ3:G}{ρ:LQ}{s:Shared}
theorem ad.made{m:OV}{os:List Obj}{H:AO}(hm:cY Γ.m ρ m)(LY:eK c Γ.o ρ os H){so:SO}{q:Addr}{o':Obj}(hi:so.Is w (ρ++[q]) o')(hlt:∀p∈aS ρ os H,p.1<q)(F:Fr c.o.g c.L s.heap m)(N:News c.o.g c.L s.heap ((q,o')::aS ρ os H))(hs:aT c s) :
  ad c (Γ.addO so) (ρ++[q]) s/\(SV.ref Γ.o.length).Is (ρ++[q]) (.ref q) :=
 ⟨ad.add hm LY hi (fun p hp=>Zb (hlt p hp)) F N hs,.ref (by refine aa (LY.hg ..) (aA (LY.hl ..) ?_);simp)⟩
theorem ax.listL{i:Nat}{bs:LI}(h:Γ.o[i]?=some (.nums bs))(hl:bs.length<=1000):ax c Γ (.val (.type "list")) [.ref i] [] (.ref Γ.o.length) (Γ.addO (.nums bs)):=fun ρ s Q E fv us ks S hf hv hk1 O K=>by
 obtain rfl:=hf.valI
 obtain⟨_,_,rfl,h1,h2⟩:=hv.consI
 obtain rfl:=h2.nilI
 obtain rfl:ks=[]:=ZG.mp hk1
 obtain⟨m,os,H,F,N,hm,LY,hs⟩:=S
 obtain⟨a,o1,ha,hoa,hi,hmem⟩:=LY.slot h
 obtain rfl:=h1.refAt ha
 obtain⟨_,_,rfl,hI⟩:=hi.numsI
 refine kup_listOf F N hmem rfl (fun D c' h' F' N' hlt=>?_) (by simp[sizeLine];have:=hI.length;exact(ah [.m .a .q,.e .b .a] (.m .b (.n 16777216))) hl this)
 obtain⟨S',e⟩:=ad.made (s:={ s with heap:=h' }) hm LY (.nums hI) hlt F' N' (hs.heap h' s.toks)
 exact K _ _ _ (ZO _ _) e S'
theorem ax.sortedL{i:Nat}{bs:LI}(h:Γ.o[i]?=some (.nums bs))(hl:bs.length<64)(hU:bs.Pairwise (· <= ·)):ax c Γ (.val (.builtin "sorted")) [.ref i] [] (.ref Γ.o.length) (Γ.addO (.nums bs)):=fun ρ s Q E fv us ks S hf hv hk1 O K=>by
 obtain rfl:=hf.valI
 obtain⟨_,_,rfl,h1,h2⟩:=hv.consI
 obtain rfl:=h2.nilI
 obtain rfl:ks=[]:=ZG.mp hk1
 obtain⟨m,os,H,F,N,hm,LY,hs⟩:=S
 obtain⟨a,o1,ha,hoa,hi,hmem⟩:=LY.slot h
 obtain rfl:=h1.refAt ha
 obtain⟨_,_,rfl,hI⟩:=hi.numsI
 refine kso_sorted F N (N.isList hmem) hI hl fun D vs' ns' c' h' F' N' hlt hI' O hp hpw O=>?_
 obtain rfl:ns'=bs:=hp.eq_of_pairwise (fun O O O O=>Int.le_antisymm) hpw hU
 obtain⟨S',e⟩:=ad.made (s:={ s with heap:=h' }) hm LY (.nums hI') hlt F' N' (hs.heap h' s.toks)
 exact K _ _ _ (ZO _ _) e S'
end
theorem rK(P:Params):(hd.heap_1 P).lookup 69=some ⟨.type "tuple",none,.seq #[] 0,#[]⟩:=by kernel_rfl
section
variable{w:World}{κ:CK}{c:Cx w κ}{Γ Γ₁ Γ2 Γ3:G}{ρ:LQ}{s:Shared}
theorem ax.listE:ax c Γ (.val (.type "list")) [.val (.ref 69)] [] (.ref Γ.o.length) (Γ.addO (.nums [])):=fun ρ s Q E fv us ks S hf hv hk1 O K=>by
 obtain rfl:=hf.valI
 obtain⟨_,_,rfl,h1,h2⟩:=hv.consI
 obtain rfl:=h2.nilI;obtain rfl:=h1.valI
 obtain rfl:ks=[]:=ZG.mp hk1
 refine call_list_seq 69 (.inr rfl) (bO S _ _ (rK _)) rfl rfl fun h' c' hk e=>?_
 obtain⟨S',h1,h2⟩:=ad.fresh (G':=s.gens) (tk:=s.toks) (S.lp S.pre) (h:=c.len) (ZZ _) hk e
 have S2:=ad.keep S' (S.rel.heap h' s.toks) ⟨h1,h2⟩ (so:=.nums []) (.nums (vs:=[]) .nil)
 exact K _ _ _ (ZO _ _) (.ref (by refine aA (S.len ..) ?_;simp)) S2
end
theorem pd(w:World)(cs:LI)(hl:cs.length<=1000)(ty:Str):az w 1 77 [.nums cs] [.str ty,.ref 0] [] (ch (.ref 1) [.nums cs,.nums cs]):=by
 refine' cJ ["typecode","rows"] ?ho ?hcd ?hb ?hx ?nd ?hl ?H ?c1 ?c2 ?c3 ?c4
 k_extra "cxd"
 case hb =>
  intro _ us X hl
  obtain⟨_,_,rfl⟩:=len2 hl
  exact BindsTo.of_defaults rfl (X _ _ (kB _)) rfl rfl rfl
 intro c _
 exact .cons (.ret (.call_ty (.bi (by k_is) boot_list) (.cons (.name vS) .nil) (ax.listL vS hl)) (.ret _ ⟨rfl,rfl⟩ .same vT))
theorem kY(w:World)(ty:Str):az w 1 77 [] [.str ty] [] (ch (.ref 0) [.nums []]):=by
 refine' bU (fa:=[.str ty,.val (.ref 69)]) ["typecode","rows"] ?ho ?hcd ?hb ?hx ?nd ?H ?c1 ?c2 ?c3 ?c4
 case ho=>k_is
 case hcd=>k_is
 case hx=>exact rfl
 case nd=>decide
 case c1=>exact rfl
 case c2=>exact rfl
 case c3=>exact rfl
 case c4=>exact rfl
 case hb =>
  intro ρ s us ks X hu hks
  obtain⟨_,_,rfl,h2,t⟩:=hu.consI
  obtain rfl:=t.nilI
  obtain rfl:ks=[]:=ZG.mp hks.1
  exact⟨[_,_],.cons h2 (.cons (.val _) .nil),BindsTo.of_defaults rfl (X _ _ (kB _)) rfl rfl rfl⟩
 intro c _
 exact .cons (.ret (.call_ty (.bi (by k_is) boot_list) (.cons (.name vS) .nil) ax.listE) (.ret _ ⟨rfl,rfl⟩ .same vT))
section
variable{w:World}{κ:CK}{c:Cx w κ}{Γ Γ₁ Γ2 Γ3:G}{ρ:LQ}{s:Shared}
structure mo(w:World)(C:Addr):Prop where
 g:plainGet (hd.heap_1 w.params) C "__class__"=true
 d:hasDictIn (hd.heap_1 w.params) C=true
 a:findIn (hd.heap_1 w.params) (.ref C) "__class__"=some (some (.builtin "object.__class__"))
 n:specialIn (hd.heap_1 w.params) (.builtin "object.__class__") "__get__"=some (some (.builtin "getset_descriptor.__get__"))
 t:takesIn (hd.heap_1 w.params) (.builtin "object.__class__")=some true
 m:mroIn (hd.heap_1 w.params) C (.type "object")=some true
theorem Ev.newSelf{o:Expr}{ap pos:Pos}{i d:Nat}{C:Addr}{as:LV}{v:SV}(h:Ev c Γ o (.ref i) Γ₁)(h1:Γ₁.o[i]?=some (.inst C d))(h2:Γ₁.o[d]?=some (.attrs as))(hC:mo w C)(hk:keepIn (hd.heap_1 w.params) (.ref C)=true)
  (hc:ax c Γ₁ (.val (.ref C)) [] [] v Γ3) (he0:bF o "__class__" ap [] pos:=by intro;rfl):Ev c Γ (.Call (.Attribute o "__class__" ap) [] [] pos) v Γ3:=fun ρ s Q E S k =>
 MethodCall_ (he:=he0 _) (h ρ s _ E S fun u ρ1 sj1 hp1 q1 Sj1=>by
  have S1':=Sj1
  obtain⟨m,os,H,F,N,hm,LY,hs⟩:=Sj1
  obtain⟨a,dx,ds,n,ha1,_,hE,_,I⟩:=bf N LY h1 h2
  obtain rfl:=q1.refAt ha1
  have X:=c.o.X.keeps F.keep
  unfold getMethod specialOf
  refine ZL (ZL (I.type.here ((looks_findIn X (plainGet_of hC.g).1).here ?_)))
  dsimp only
  refine aa (PySem.F.canon_object_ga ..) (aa (if_neg (by decide) ..) ?_)
  refine ZL (ZL (I.type.here ((looks_findIn X (plainGet_of hC.g).2).here ?_)))
  refine ZL (ZL (I.type.here ((looks_findIn X hC.a).here (ZL (wpAny_of_eq KF.type_class ?_)))))
  refine cj (by decide +kernel) ?_
  refine ZL (get_class F c.o.X I hC.g hC.d hC.a hC.n hC.t hC.m (ZM ?_))
  refine callWith_K0 (bO (S1'.toks _)) hk ?_
  exact hc ρ1 _ Q E _ _ [] (S1'.toks _) (.val _) .nil rfl .nil fun u ρ3 sj3 hp3 hv S3=>k u ρ3 sj3 (hp1.trans hp3) hv S3)
end
theorem sA(w:World):mo w 514:=⟨by k_is,by k_is,by k_is,by k_is,by k_is,by k_is⟩
example:True:=by w_top off;trivial
theorem q6(w:World)(bs:LI)(hl:bs.length<=1000):az w 12 434 (sC bs 363 ⟨203,31,203,61⟩) [.ref 0] [] (ch (.ref 5) [.inst 514 1,.attrs [("bits",.ref 2)],.nums bs,.tab 3 363 ⟨203,31,203,61⟩,.attrs [("bits",.ref 7)],.inst 514 4,.nums [0],.nums bs]):=by
 refine' ao ["self"] ?ho ?hcd ?hb ?hx ?nd ?hl ?H ?c1 ?c2 ?c3 ?c4
 k_extra "cx"
 intro c
 refine .cons (.assign (.newSelf (.name vS) vS vS (sA w) (gu w) (ax.new (lv':=8) (gj w) (gw w) (by k_is) fun c'=>ae.det (jf w 0 (by decide) 1 rfl (.inr ⟨rfl,rfl⟩)) [5,4,3] (ab vS vS vS) (by decide) vT vT)) ?_)
 have f1:Fits ⟨[("b",.ref 5),("self",.ref 0)],[.inst 514 1,.attrs [("bits",.ref 2)],.nums bs,.tab 3 363 ⟨203,31,203,61⟩,.attrs [("bits",.ref 6)],.inst 514 4,.nums [0]]⟩ [2] [2] [.nums bs]:=.cons vS .nil
 refine .cons (.setAttr (.arrayG (σ:=[2]) (Ok:=sK 0 bs) (.glob (by k_is)) (by k_is) .strE (.iter (σ:=[2]) (v:=.ref 0) (.bi (by k_is) boot_iter) (.attr (.name vS) vS vS vS (aD w) af) (bC w bs 0 1 (by decide) (K₀:=(·=[.nums bs])) fun l h=>by refine aa (h ..) ?_;rfl) ⟨_,f1,vT,rfl⟩) (fun T K l h=>h.1▸qy w) (kC (Γo:=[.nums bs]) vS f1 vT) hl) (.name vS) vS vS (iI w) ?_)
 exact .cons (.ret (.name vS) (.ret _ ⟨rfl,rfl⟩ .same vT))
example:True:=by w_top off;trivial
noncomputable def tW(o:Option Obj):Nat:=match o with
|some ⟨_,_,.seq items _,_⟩=>(match (items[1]?:Option Value) with|some (.str _ t)=>t|_=>0)
|_=>0
theorem iE(P:Params):(hd.heap_1 P).lookup 524=some ⟨.type "tuple",none,.seq #[.none,.str "I" (tW ((hd.heap_1 P).lookup 524))] 0,#[]⟩:=by kernel_rfl
theorem cP(w:World):iA w 646 "data":=⟨by k_is,by k_is,by k_is,by k_is⟩
theorem iH(w:World):iA w 646 "typecode":=⟨by k_is,by k_is,by k_is,by k_is⟩
theorem cu(w:World):nsIn (hd.heap_1 w.params) mainGlobals "array"=some (some (.ref 77)):=by k_is
theorem cr(w:World):keepIn (hd.heap_1 w.params) (.ref 77)=true:=by k_is
theorem i8(w:World):nsIn (hd.heap_1 w.params) mainGlobals "SortedIntSet"=some (some (.ref 646)):=by k_is
theorem i0(w:World):keepIn (hd.heap_1 w.params) (.ref 646)=true:=by k_is
theorem iR(w:World):makesIn (hd.heap_1 w.params) 646=true:=by k_is
theorem i5(w:World):findIn (hd.heap_1 w.params) (.ref 646) "__init__"=some (some (.ref 531)):=by k_is
theorem mi(w:World):fk w 646 "typecode":=⟨by k_is,by k_is,none,by k_is,by k_is⟩
theorem j4(w:World):az w 3 531 [.inst 646 1,.attrs []] [.ref 0] [] (ch (.val .none) (b9 [])):=by
 refine' bU (fa:=[.ref 0,.val .none,.str "I"]) ["self","source","typecode"] ?ho ?hcd ?hb ?hx ?nd ?H ?c1 ?c2 ?c3 ?c4
 k_extra "cxk"
 case hb =>
  intro ρ s us ks X hu hks
  obtain⟨_,_,rfl,h2,t⟩:=hu.consI
  obtain rfl:=t.nilI
  obtain rfl:ks=[]:=ZG.mp hks.1
  exact⟨[_,_,_],.cons h2 (.cons (.val _) (.cons (.str _ _) .nil)),BindsTo.of_defaults rfl (X _ _ (iE _)) rfl rfl rfl⟩
 intro c _
 refine .cons (.ite (.plain (.name vS) .none) (fun h=>h.elim) fun O=>?_)
 refine .cons (.setAttr (.call (.glob (cu w)) (cr w) (.cons (.name vS) .nil) (ae.det (kY w "I") [] .nil (by decide) vT rfl).cal) (.name vS) vS vS (cP w) (.nil ?_))
 exact .cons (.setAttr (.name vS) (.name vS) vS vS (iH w) (.nil (.next _ ⟨rfl,rfl⟩ .same vT)))
theorem oW(w:World)(cs:LI)(h0:0<cs.length)(hl:cs.length<64)(hU:cs.Pairwise (· <= ·)):az w 3 531 [.inst 646 1,.attrs [],.nums cs] [.ref 0,.ref 2] [] (ch (.val .none) [.inst 646 1,.attrs [("data",.ref 4),("typecode",.str "I")],.nums cs,.nums cs,.nums cs]):=by
 refine' bU (fa:=[.ref 0,.ref 2,.str "I"]) ["self","source","typecode"] ?ho ?hcd ?hb ?hx ?nd ?H ?c1 ?c2 ?c3 ?c4
 k_extra "cxk"
 case hb =>
  intro ρ s us ks X hu hks
  obtain⟨_,_,rfl,h2,t⟩:=hu.consI
  replace t:=t.consI;obtain⟨_,_,rfl,h3,t⟩:=t
  obtain rfl:=t.nilI
  obtain rfl:ks=[]:=ZG.mp hks.1
  exact⟨[_,_,_],.cons h2 (.cons h3 (.cons (.str _ _) .nil)),BindsTo.of_defaults rfl (X _ _ (iE _)) rfl rfl rfl⟩
 intro c _
 refine .cons (.ite (.plain (.name vS) (.nums vS (by exact ZW ‹_› (by decide)))) (fun O=>?_) fun h=>absurd h0 h)
 refine .cons (.setAttr (.call (.glob (cu w)) (cr w) (.cons (.name vS) (.cons (.call_bi (.bi (by k_is) boot_sorted) (.cons (.name vS) .nil) (ax.sortedL vS hl hU)) .nil)) (ae.det (pd w cs (by exact(ai [.l .a (.n 64)] (.m .a .q)) hl) "I") [3] (.cons rfl .nil) (by decide) vT rfl).cal) (.name vS) vS vS (cP w) (.nil ?_))
 exact .cons (.setAttr (.name vS) (.name vS) vS vS (iH w) (.nil (.next _ ⟨rfl,rfl⟩ .same vT)))
theorem oX(w:World):az w 3 531 [.inst 646 1,.attrs [],.nums []] [.ref 0,.ref 2] [] (ch (.val .none) [.inst 646 1,.attrs [("data",.ref 3),("typecode",.str "I")],.nums [],.nums []]):=by
 refine' bU (fa:=[.ref 0,.ref 2,.str "I"]) ["self","source","typecode"] ?ho ?hcd ?hb ?hx ?nd ?H ?c1 ?c2 ?c3 ?c4
 k_extra "cxk"
 case hb =>
  intro ρ s us ks X hu hks
  obtain⟨_,_,rfl,h2,t⟩:=hu.consI
  replace t:=t.consI;obtain⟨_,_,rfl,h3,t⟩:=t
  obtain rfl:=t.nilI
  obtain rfl:ks=[]:=ZG.mp hks.1
  exact⟨[_,_,_],.cons h2 (.cons h3 (.cons (.str _ _) .nil)),BindsTo.of_defaults rfl (X _ _ (iE _)) rfl rfl rfl⟩
 intro c _
 refine .cons (.ite (.plain (.name vS) (.nums vS (by decide))) (fun h=>absurd h (by decide)) fun O=>?_)
 refine .cons (.setAttr (.call (.glob (cu w)) (cr w) (.cons (.name vS) .nil) (ae.det (kY w "I") [] .nil (by decide) vT rfl).cal) (.name vS) vS vS (cP w) (.nil ?_))
 exact .cons (.setAttr (.name vS) (.name vS) vS vS (iH w) (.nil (.next _ ⟨rfl,rfl⟩ .same vT)))
theorem qS(w:World)(cs:LI)(hl:cs.length<=1000):az w 8 538 (b9 cs) [.ref 0] [] (ch (.ref 4) (b9 cs++[.attrs [("data",.ref 6),("typecode",.str "I")],.inst 646 3,.nums [],.nums cs])):=by
 refine' ao ["self"] ?ho ?hcd ?hb ?hx ?nd ?hl ?H ?c1 ?c2 ?c3 ?c4
 k_extra "cx"
 intro c
 refine .cons (.assign (.call0 (.glob (i8 w)) (i0 w) (ax.new (lv':=3) (iR w) (i5 w) (by k_is) fun c'=>ae.det (j4 w) [4,3] (.cons vS (.cons vS .nil)) (by decide) vT vT)) ?_)
 refine .cons (.setAttr (.call (.glob (cu w)) (cr w) (.cons (.attr (.name vS) vS vS vS (mi w) cT) (.cons (.attr (.name vS) vS vS vS (ji w) af) .nil)) (ae.det (pd w cs hl "I") [2] (.cons rfl .nil) (by decide) vT rfl).cal) (.name vS) vS vS (cP w) ?_)
 exact .cons (.ret (.name vS) (.ret _ ⟨rfl,rfl⟩ .same vT))
theorem oZ(w:World)(cs:LI):az w 2 587 (b9 cs) [.ref 0] [] (ch (.val .none) [.inst 646 1,.attrs [("data",.ref 3),("typecode",.str "I")],.nums cs,.nums []]):=by
 refine' ao ["self"] ?ho ?hcd ?hb ?hx ?nd ?hl ?H ?c1 ?c2 ?c3 ?c4
 k_extra "cx"
 intro c
 exact .cons (.setAttr (.call (.glob (cu w)) (cr w) (.cons (.attr (.name vS) vS vS vS (mi w) cT) .nil) (ae.det (kY w "I") [] .nil (by decide) vT rfl).cal) (.name vS) vS vS (cP w) (.nil (.next _ ⟨rfl,rfl⟩ .same vT)))
example:True:=by w_top off;trivial
section
variable{w:World}{κ:CK}{lvl:Nat}{c:Cx w κ}{Γ Γ₁ Γ2:G}{P:SF->G->Prop}{σ:LN}{Ok:String->(List SO->Prop)->KL->Prop}
def tE(Ok:String->(List SO->Prop)->KL->Prop)(Γo:LO)(p:List Int->Prop):Prop:=∀T K l,Ok T K l->p (l.map (·.1))/\K Γo/\∀e∈l,e.2 Γo
theorem jE(bs:LI):tE (sK 0 bs) [.nums bs] (·=bs):=cR (Γo:=[.nums bs]) vS
theorem bJ.forStill{x:Str}{px pos:Pos}{iter:Expr}{body:LS}{Γo:LO}{p:List Int->Prop}(Γf:List Int->Nat->G)(n₁:Nat)(B:bH c Γ iter lvl σ Ok Γ₁)(hok:tE Ok Γo p)(hfo:Γo.all (·.fit Γo.length)=true)(hΓ:∀zs i,i<=zs.length->Fits (Γf zs i) σ σ Γo)
  (hle:∀zs,p zs->G.Le Γ₁ (Γf zs 0)) (hft:∀zs,(Γf zs 0).fit=true) (hnn:∀zs,Nat.ble n₁ (Γf zs 0).o.length=true)
  (turn:∀(c':Cx w { κ with n:=n₁ }) (zs:LI) (i:Nat) (hi:i<zs.length),p zs->Ex c' ((Γf zs i).put x (.int zs[i])) body (FP n₁ (fun _ (_:Unit)=>True) (fun i O=>Γf zs i) i P)) (done:∀zs,p zs->P .next (Γf zs zs.length))
  (hσ:(σ.all fun i=>Nat.blt i n₁)=true:=by exact vT) (hn0:Nat.ble κ.n n₁=true:=by exact vT) (hn1:Nat.ble n₁ Γ₁.o.length=true:=by exact vT) (hlv:Nat.ble lvl κ.lv=true:=by exact vT)
  (hx:κ.cs.names.lookup x=some .local:=by exact vS) (hs:∀env (v:Value),foldedSetIterable iter env v=pure v:=by intros;rfl):bJ c Γ (.For (.Name x px) iter body [] pos) P:=by
 refine .forIt (α:=List Int×Nat) (fun K l a=>p a.1/\a.2<=a.1.length/\l.map (·.1)=a.1.drop a.2/\K Γo/\∀e∈l,e.2 Γo) (fun a=>Γf a.1 a.2) n₁ B (fun T K l hO=>?_) (fun K l a hI=>⟨Γo,hΓ a.1 a.2 hI.2.1,hfo,hI.2.2.2.1⟩) (fun c' K z K' l a hI=>?_) (fun K a hI=>?_) hσ hn0 hn1 hlv hx hs
 ·obtain⟨h1,h2,h3⟩:=hok T K l hO
  exact⟨(_,0),⟨h1,Zf _,rfl,h2,h3⟩,hle _ h1,hft _,hnn _⟩
 ·obtain⟨zs,i⟩:=a
  obtain⟨h1,h2,h3,h4,h5⟩:=hI
  dsimp only at h1 h2 h3
  rcases Zq i zs.length with hlt|hge
  ·rw[Zj hlt,List.map_cons] at h3
   obtain⟨rfl,h6⟩:=List.cons.inj h3
   refine(turn c' zs i hlt h1).mono fun f Γ' hP=>?_
   have I':p zs/\i+1<=zs.length/\l.map (·.1)=zs.drop (i+1)/\K' Γo/\∀e∈l,e.2 Γo:=⟨h1,hlt,h6,h5 _ (.head _),fun e he=>h5 e (.tail _ he)⟩
   cases hP with
  |next _ _ hl hf hn=>exact .next (zs,i+1) I' hl hf hn
  |cont _ _ hl hf hn=>exact .cont (zs,i+1) I' hl hf hn
  |brk h=>exact .brk h
  |ret h=>exact .ret h
  ·rw[Zo hge] at h3;exact nomatch h3
 ·obtain⟨zs,i⟩:=a
  obtain⟨h1,h2,h3,_⟩:=hI
  dsimp only at h1 h2 h3 ⊢
  rcases Zq i zs.length with hlt|hge
  ·rw[Zj hlt] at h3;exact nomatch h3
  ·refine aa (Nat.le_antisymm h2 hge ..) ?_;exact done zs h1
theorem bJ.forList{x:Str}{px pos:Pos}{iter:Expr}{body:LS}{j:Nat}{fs:LI}(Γf:Nat->G)(n₁:Nat)(he:Ev c Γ iter (.ref j) Γ₁)(h1:Γ₁.o[j]?=some (.nums fs))(hΓ:∀i,(Γf i).o[j]?=some (.nums fs))
  (hle:G.Le Γ₁ (Γf 0)) (hft:(Γf 0).fit=true) (hnn:Nat.ble n₁ (Γf 0).o.length=true)
  (turn:∀(c':Cx w { κ with n:=n₁ }) (i:Nat) (hi:i<fs.length),Ex c' ((Γf i).put x (.int fs[i])) body (FP n₁ (fun _ (_:Unit)=>True) (fun i O=>Γf i) i P)) (done:P .next (Γf fs.length))
  (hj:Nat.blt j n₁=true:=by exact vT) (hn0:Nat.ble κ.n n₁=true:=by exact vT) (hn1:Nat.ble n₁ Γ₁.o.length=true:=by exact vT)
  (hx:κ.cs.names.lookup x=some .local:=by exact vS) (hs:∀env (v:Value),foldedSetIterable iter env v=pure v:=by intros;rfl):bJ c Γ (.For (.Name x px) iter body [] pos) P :=
 .forStill (Γo:=[.nums fs]) (σ:=[j]) (p:=(·=fs)) (fun O=>Γf) n₁ (.of (σ:=[j]) (v:=.ref 0) (K₀:=(·=[.nums fs])) he (bC w fs 0 1 (by decide) fun l h=>by refine aa (h ..) ?_;rfl) ⟨[.nums fs],.cons (so:=.nums fs) h1 .nil,vT,rfl⟩ vT (List.nodup_cons.mpr ⟨(fun h=>nomatch h),List.nodup_nil⟩) (by
   have:=(ZB.mp h1).1
   simp[Nat.blt_eq,this]) vT) (jE fs) vT (fun O i O=>.cons (so:=.nums fs) (hΓ i) .nil) (fun O O=>hle) (fun O=>hft) (fun O=>hnn) (fun c' zs i hi e=>by subst e;exact turn c' i hi) (fun zs e=>by subst e;exact done) (by simp[hj]) hn0 hn1 vT hx hs
end
example:True:=by w_top off;trivial
structure rI(w:World)(C:Addr)(y:Str)(f:Addr):Prop where
 g:specialIn (hd.heap_1 w.params) (.ref C) "__getattribute__"=some (some (.builtin "type.__getattribute__"))
 r:readsIn (hd.heap_1 w.params) C (.type "type")=true
 e:findCls (hd.heap_1 w.params) (.ref C) (.type "type") y=some (.val (.ref f))
 k:keepIn (hd.heap_1 w.params) (.ref f)=true
section
variable{w:World}{κ:CK}{c:Cx w κ}{Γ Γ₁ Γ2 Γ3:G}
theorem Ev.cmcall{o e:Expr}{y:Str}{ap pos:Pos}{es:List Expr}{C f:Addr}{vs:LX}{v:SV}(h:Ev c Γ o (.val (.ref C)) Γ₁)(hM:rI w C y f)(ha:jn c Γ₁ (e::es) vs Γ2)(hc:ax c Γ2 (.val (.ref f)) vs [] v Γ3)
  (he:∀env,starEach (e::es) env=(false,eval e env)::starEach es env:=by intros;rfl) (hp:∀env,(backTo pos (starEach es env)).any (·.1)=false:=by intros;rfl) (he0:bF o y ap (e::es) pos:=by intro;rfl):Ev c Γ (.Call (.Attribute o y ap) (e::es) [] pos) v Γ3:=fun ρ s Q E S k =>
 MethodCall_ (he:=he0 _) (h ρ s _ E S fun u ρ1 sj1 hp1 q1 Sj1=>by
  obtain rfl:=q1.valI
  refine method_cls (bO Sj1) hM.g (cls_value (bO Sj1) hM.r hM.e vT ?_)
  have S1':=Sj1.toks (sj1.toks+1)
  refine callWith_K (bO S1') hM.k (ha pos ρ1 _ _ E S1' fun us ρ₂ sj2 hp2 q2 Sj2=>⟨bO Sj2,?_⟩) (he _) (hp _)
  exact hc ρ₂ sj2 Q E _ us [] Sj2 (.val _) q2 rfl .nil fun u ρ3 sj3 hp3 hv S3=>k u ρ3 sj3 ((hp1.trans hp2).trans hp3) hv S3)
end
noncomputable def dW(bs:LI)(M:Int):List Int:=if (bs.length:Int)<M/8 then bs++List.replicate ((M+8)/8-bs.length).toNat 0 else bs
theorem nI{bs:LI}{M:Int}(h:bs.length<=3)(h1:M<20):(dW bs M).length<=3:=by
 unfold dW
 split
 ·refine aa (Zl ..) (aa (List.length_replicate ..) ?_);exact(dj [.m .a .w,.L .A .x,.W 8 .B (.p .A .y),.T .b (.s .B (.t .a))] (.m (.p .a .b) .w)) h h1 (aM (a:=M+8) 8) (bz _)
 ·exact h
theorem tu(w:World)(bs fs:LI)(hlen:bs.length<=3)(M:Int)(hM:M∈fs)(hM2:∀z∈fs,z<=M)(h1:M<20):az w 5 462 (ba bs++[.nums fs]) [.ref 0,.ref 3] [] (ch (.val .none) (ba (dW bs M)++[.nums fs])):=by
 refine' ao ["self","other"] ?ho ?hcd ?hb ?hx ?nd ?hl ?H ?c1 ?c2 ?c3 ?c4
 k_extra "cx"
 intro c
 refine .cons (.ite (.plain (.isiT (.bi (by k_is) boot_isinstance) (.name vS) (.bi (by k_is) boot_list) (.bi (by k_is) boot_tuple) (.bi (by k_is) boot_set) (.bi (by k_is) boot_frozenset) (jP vS)) .bool) (fun O=>?_) fun h=>absurd vT h)
 refine .cons (.assign (.call_bi (.bi (by k_is) boot_max) (.cons (.name vS) .nil) (ax.maxL (bs:=fs) (M:=M) vS hM hM2)) ?_)
 refine .cons (.ite (.icmp (.iop (.name vS) .intE .div8) (.len (.attr (.name vS) vS vS vS (aD w) af) vS (by exact ZX ‹_› (by decide))) .gt) (fun h=>?_) fun h=>?_)
 ·refine .cons (.expr (.mcall (.name vS) vS vS rfl (ic w) (.cons (.name vS) .nil) (ae.det (j5 w bs hlen M (by exact Int.lt_of_lt_of_le ‹_› (by decide)) (by exact(eZ [.L (.t .a) .A,.W 8 .A .B,.W 8 .C (.p .B .y)] (.L (.t .a) .C)) h (aM 8) (aM 8))) [0,1,2] (ab rfl rfl rfl) (by decide) vT rfl).cal) (.nil (.nil (.nil (.next (ba (dW bs M)++[.nums fs]) ⟨rfl,rfl⟩ ?_ rfl)))))
  unfold dW;refine aa (if_pos h ..) ?_;exact .same
 ·refine .nil (.nil (.nil (.next (ba (dW bs M)++[.nums fs]) ⟨rfl,rfl⟩ ?_ rfl)))
  unfold dW;refine aa (if_neg h ..) ?_;exact .same
theorem rX(w:World):am w 514 "_resize_to_other" 462:=⟨by k_is,by k_is,by k_is,by k_is⟩
theorem ra(w:World):dI w 646 "add" 573:=⟨by k_is,by k_is,by k_is,by k_is,by k_is,by k_is,by decide⟩
theorem sw(w:World)(bs fs:LI)(hlen:bs.length<=3)(hz:∀z∈fs,0<=z/\z<20):az w 5 173 (ba bs++[.nums fs]) [.ref 0,.ref 3] [] (ch (.val .none) (ba (fs.foldl aP bs)++[.nums fs])):=by
 refine' ao ["self","other"] ?ho ?hcd ?hb ?hx ?nd ?hl ?H ?c1 ?c2 ?c3 ?c4
 k_extra "cx"
 intro c
 refine .cons (.assign (.bound (.name vS) vS vS rfl (pu w)) ?_)
 refine .cons (.forList (j:=3) (fs:=fs) (fun i=>⟨[("add",.ref 4)],[.inst 514 1,.attrs [("bits",.ref 2)],.nums ((fs.take i).foldl aP bs),.nums fs,.meth 448 (.ref 0)]⟩) 5 (.name vS) vS (fun O=>rfl) ⟨.cons vS .nil,.same⟩ vT vT (fun c' i hi=>?_) ?_)
 ·have h9:=hz _ (List.getElem_mem hi)
  refine .cons (.expr (.call_m (q:=4) (.name vS) vS (by k_is) (.cons (.name vS) .nil) vS (ae.det (kc w _ (kr (fs.take i) hlen fun y hy=>hz y (List.mem_of_mem_take hy)) _ h9.1 h9.2) [0,1,2] (ab vS vS vS) (by decide) vT vT)) (.nil (.next () trivial ⟨.cons vS .nil,?_⟩ vT vT)))
  refine aa (Zw hi ..) (aa (List.foldl_append ..) ?_)
  exact .same
 ·exact .nil (.next _ ⟨rfl,by refine aa (List.take_length ..) ?_;rfl⟩ (.cons (.cons (.cons (.cons .nil)))) vT)
theorem sB(w:World):rI w 260 "update" 173:=⟨by k_is,by k_is,by k_is,by k_is⟩
theorem se(w:World):nsIn (hd.heap_1 w.params) mainGlobals "DocIdSet"=some (some (.ref 260)):=by k_is
theorem sx(w:World)(bs fs:LI)(hlen:bs.length<=3)(hz:∀z∈fs,0<=z/\z<20)(M:Int)(hM:M∈fs)(hM2:∀z∈fs,z<=M):az w 6 469 (ba bs++[.nums fs]) [.ref 0,.ref 3] [] (ch (.val .none) (ba (fs.foldl aP (dW bs M))++[.nums fs])):=by
 refine' ao ["self","iterable"] ?ho ?hcd ?hb ?hx ?nd ?hl ?H ?c1 ?c2 ?c3 ?c4
 k_extra "cx"
 intro c
 have h1:=(hz M hM).2
 refine .cons (.expr (.mcall (.name vS) vS vS rfl (rX w) (.cons (.name vS) .nil) (ae.det (tu w bs fs hlen M hM hM2 h1) [0,1,2,3] (.cons rfl (ab rfl rfl rfl)) (by decide) vT rfl).cal) ?_)
 exact .cons (.expr (.cmcall (.glob (se w)) (sB w) (.cons (.name vS) (.cons (.name vS) .nil)) (ae.det (sw w (dW bs M) fs (nI hlen h1) hz) [0,1,2,3] (.cons rfl (ab rfl rfl rfl)) (by decide) vT rfl).cal) (.nil (.next _ ⟨rfl,rfl⟩ .same vT)))
theorem br{cs:LI}(i:Int)(hU:Up cs):Up (aX cs i)/\∀z,z∈aX cs i<->z=i\/z∈cs:=by
 unfold aX Up
 refine⟨List.pairwise_append.mpr ⟨hU.filter _,List.pairwise_cons.mpr ⟨fun z hz=>?_,hU.filter _⟩,fun a ha b hb=>?_⟩,fun z=>?_⟩
 ·simpa using (Ze.mp hz).2
 ·have h1:a<i:=by simpa using (Ze.mp ha).2
  rcases ZT.mp hb with rfl|hb
  ·exact h1
  ·exact Int.lt_trans h1 (by simpa using (Ze.mp hb).2)
 ·simp only[ZS,ZT,Ze,decide_eq_true_eq]
  constructor
  ·rintro (h|h|h)
   ·exact .inr h.1
   ·exact .inl h
   ·exact .inr h.1
  ·rintro (h|h)
   ·exact .inr (.inl h)
   ·rcases Int.lt_trichotomy z i with q|q|q
    ·exact .inl ⟨h,q⟩
    ·exact .inr (.inl q)
    ·exact .inr (.inr ⟨h,q⟩)
theorem db{cs:LI}(hU:Up cs)(h:∀z∈cs,0<=z/\z<20):cs.length<=20:=by
 have key:∀(cs:LI) (a:Int),a<=20->Up cs->(∀z∈cs,a<=z/\z<20)->(cs.length:Int)<=20-a:=by
  intro cs
  induction cs with
 |nil=>intro a h _ _;simp;assumption
 |cons c cs ih =>
   intro a _ hU h
   have hc:=h c (.head _)
   have h9:=List.pairwise_cons.mp hU
   have:=ih (c+1) (by exact(bo [.d (.M .A .B) (.L .B .x)] (.M (.p .B .u) .x)) hc) h9.2 fun z hz=>⟨h9.1 z hz,(h z (.tail _ hz)).2⟩
   refine aa (List.length_cons ..) ?_;exact(aG [.d (.M .A .B) (.L .B .x),.M (.t .a) (.s .x (.p .B .u))] (.M (.t (.p .a .u)) (.s .x .A))) hc this
 have:=key cs 0 (by decide) hU h
 exact(ai [.M (.t .a) (.s .x .o)] (.m .a .x)) this
theorem qG(fs:LI):∀{cs:LI},Up cs->(∀z∈cs,0<=z/\z<20)->(∀z∈fs,0<=z/\z<20)->Up (fs.foldl aX cs)/\(∀z∈fs.foldl aX cs,0<=z/\z<20)/\∀z,z∈fs.foldl aX cs<->z∈cs\/z∈fs:=by
 induction fs with
|nil=>exact fun h1 h2 O=>⟨h1,h2,fun z=>by simp⟩
|cons f fs ih =>
  intro cs h1 h2 h3
  obtain⟨g1,g2⟩:=br f h1
  obtain⟨a1,a2,a3⟩:=ih g1 (fun z hz=>((g2 z).mp hz).elim (fun e=>e▸h3 _ (.head _)) (h2 z)) fun z hz=>h3 z (.tail _ hz)
  refine⟨a1,a2,fun z=>?_⟩
  rw[List.foldl_cons,a3,g2,ZT]
  constructor
  ·rintro ((h|h)|h)
   ·exact .inr (.inl h)
   ·exact .inl h
   ·exact .inr (.inr h)
  ·rintro (h|h|h)
   ·exact .inl (.inr h)
   ·exact .inl (.inl h)
   ·exact .inr h
theorem sk(w:World)(cs fs:LI)(hU:Up cs)(hc:∀z∈cs,0<=z/\z<20)(hz:∀z∈fs,0<=z/\z<20):az w 3 173 (b9 cs++[.nums fs]) [.ref 0,.ref 3] [] (ch (.val .none) (b9 (fs.foldl aX cs)++[.nums fs])):=by
 refine' ao ["self","other"] ?ho ?hcd ?hb ?hx ?nd ?hl ?H ?c1 ?c2 ?c3 ?c4
 k_extra "cx"
 intro c
 refine .cons (.assign (.bound (.name vS) vS vS rfl (ra w)) ?_)
 refine .cons (.forList (j:=3) (fs:=fs) (fun i=>⟨[("add",.ref 4)],[.inst 646 1,.attrs [("data",.ref 2),("typecode",.str "I")],.nums ((fs.take i).foldl aX cs),.nums fs,.meth 573 (.ref 0)]⟩) 5 (.name vS) vS (fun O=>rfl) ⟨.cons vS .nil,.same⟩ vT vT (fun c' i hi=>?_) ?_)
 ·obtain⟨a1,a2,_⟩:=qG (fs.take i) hU hc fun y hy=>hz y (List.mem_of_mem_take hy)
  refine .cons (.expr (.call_m (q:=4) (.name vS) vS (by k_is) (.cons (.name vS) .nil) vS (ae.det (jb w _ (ZW (db a1 a2) (by decide)) a1 fs[i]) [0,1,2] (ab vS vS vS) (by decide) vT vT)) (.nil (.next () trivial ⟨.cons vS .nil,?_⟩ vT vT)))
  refine aa (Zw hi ..) (aa (List.foldl_append ..) ?_)
  exact .same
 ·exact .nil (.next _ ⟨rfl,by refine aa (List.take_length ..) ?_;rfl⟩ (.cons (.cons (.cons (.cons .nil)))) vT)
example:True:=by w_top off;trivial
section
variable{w:World}{κ:CK}{lv':Nat}{c:Cx w κ}{Γ Γ₁ Γ2 Γ':G}{ρ:LQ}{s:Shared}
theorem ad.dn{dp un:Nat}{h1:dp<=c.o.dp+3}{h2:un<=c.o.un+60}{hlv:lv'+3<=κ.lv}(S:ad c Γ ρ s):ad (c.dn dp un h1 h2 hlv) Γ ρ s:=by
 cases S with|mk m os H F N hm LY hs=>exact .mk m os H F N hm ⟨LY.hl,LY.hg,LY.ho,LY.nd,LY.pre,LY.ap,LY.kp,LY.sh⟩ ⟨hs.eq,hs.gx⟩
theorem ax.lenI{i d:Nat}{C f:Addr}{as:LV}{n:Int}(h1:Γ.o[i]?=some (.inst C d))(h2:Γ.o[d]?=some (.attrs as))(hs:findIn (hd.heap_1 w.params) (.ref C) "__len__"=some (some (.ref f)))(hf:isFn (hd.heap_1 w.params) (.ref f)=true)
  (hI:∀c':Cx w { κ with lv:=lv' },ax c' Γ (.val (.ref f)) [.ref i] [] (.int n) Γ') (h0:0<=n) (h9:n<=1000) (hlv:Nat.ble (lv'+3) κ.lv=true:=by exact vT):ax c Γ (.val (.builtin "len")) [.ref i] [] (.int n) Γ':=fun ρ s Q E fv us ks S hfv hus hks hkv KK=>by
 obtain rfl:=hfv.valI
 obtain⟨_,_,rfl,q1,t⟩:=hus.consI
 obtain rfl:=t.nilI
 obtain rfl:ks=[]:=ZG.mp hks
 have Sj1:=S
 obtain⟨m,os,H,F,N,hm,LY,hs'⟩:=S
 obtain⟨a,dx,ds,n',ha1,_,hE,_,I⟩:=bf N LY h1 h2
 obtain rfl:=q1.refAt ha1
 refine len_K F c.o.X I hs hf ?_
 refine hI (c.dn c.o.dp (c.o.un+1) (Nat.le_add_right _ _) (Nat.add_le_add_left (by decide) _) (ZJ hlv)) ρ s _ E _ [.ref a] [] Sj1.dn (.val _) (.cons (.ref ha1) .nil) rfl .nil fun u ρ' s' hp hu S'=>?_
 obtain⟨_,rfl⟩:=hu.intI
 exact⟨⟨h0,by exact Int.lt_of_le_of_lt ‹_› (by decide)⟩,KK _ ρ' _ hp (.int _ _) (S'.up.toks _)⟩
theorem pG.inst{i d:Nat}{C f:Addr}{as:LV}{b:Bool}(h1:Γ.o[i]?=some (.inst C d))(h2:Γ.o[d]?=some (.attrs as))(hs:findIn (hd.heap_1 w.params) (.ref C) "__bool__"=some (some (.ref f)))(hf:isFn (hd.heap_1 w.params) (.ref f)=true)
  (hI:ax c Γ (.val (.ref f)) [.ref i] [] (.val (.bool b)) Γ') {Q:Bool->Shared->Prop} {E:VS} {u:Value} (S:ad c Γ ρ s) (hu:(SV.ref i).Is ρ u) (KK:∀ρ' s',ρ<+:ρ'->ad c Γ' ρ' s'->Q b s'):wpAny (model PR w) c.A (truthy u) Q E s:=by
 have Sj1:=S
 obtain⟨m,os,H,F,N,hm,LY,hs'⟩:=S
 obtain⟨a,dx,ds,n',ha1,_,hE,_,I⟩:=bf N LY h1 h2
 obtain rfl:=hu.refAt ha1
 refine truthy_K F c.o.X I hs hf ?_
 refine hI ρ s _ E _ [.ref a] [] Sj1 (.val _) (.cons (.ref ha1) .nil) rfl .nil fun u ρ' s' hp hu S'=>?_
 obtain rfl:=hu.valI
 exact KK ρ' s' hp S'
def eO(c:Cx w κ)(Γ:G)(op:CmpOp)(a b:SV)(φ:Prop):Prop:=∀ρ (s:Shared) (Q:VS) (E:VS) x y,ad c Γ ρ s->a.Is ρ x->b.Is ρ y->(∀(r:Bool) ρ' s',ρ<+:ρ'->(r=true<->φ)->ad c Γ ρ' s'->Q (.bool r) s')->wpAny (model PR w) c.A (compareOp op x y) Q E s
theorem cb.cmp{l r:Expr}{op:CmpOp}{pos:Pos}{a b:SV}{φ:Prop}(hl:Ev c Γ l a Γ₁)(hr:Ev c Γ₁ r b Γ2)(ho:eO c Γ2 op a b φ)(hm:behindInMarks op r=false:=by with_unfolding_all rfl):cb c Γ (.Compare l [op] [r] pos) φ Γ2:=fun ρ s Q E S k =>
 wpAny_isTrue_Compare1 (hl ρ s _ E S fun x ρ1 sj1 hp1 h1 Sj1=>hr ρ1 sj1 _ E Sj1 fun y ρ₂ sj2 hp2 h2 Sj2=>ho ρ₂ sj2 _ E x y Sj2 (h1.up hp2) h2 fun r' ρ3 sj3 hp3 hr' S3=>wpAny_truthy_bool (k _ ρ3 _ ((hp1.trans hp2).trans hp3) hr' S3)) hm
theorem Ev.cmp{l r:Expr}{op:CmpOp}{pos:Pos}{a b:SV}{φ:Prop}{v:Bool}(hl:Ev c Γ l a Γ₁)(hr:Ev c Γ₁ r b Γ2)(ho:eO c Γ2 op a b φ)(hv:v=true<->φ)(hm:behindInMarks op r=false:=by with_unfolding_all rfl):Ev c Γ (.Compare l [op] [r] pos) (.val (.bool v)) Γ2:=fun ρ s Q E S k =>
 wpAny_Compare1 (hl ρ s _ E S fun x ρ1 sj1 hp1 h1 Sj1=>hr ρ1 sj1 _ E Sj1 fun y ρ₂ sj2 hp2 h2 Sj2=>ho ρ₂ sj2 _ E x y Sj2 (h1.up hp2) h2 fun r' ρ3 sj3 hp3 hr' S3=>by
  have e:r'=v:=Bool.eq_iff_iff.mpr (hr'.trans hv.symm)
  exact k _ ρ3 _ ((hp1.trans hp2).trans hp3) (e▸.val _) S3) hm
def rF(c:Cx w κ)(Γ:G)(v:SV)(z:Int)(φ:Prop):Prop:=∀ρ (s:Shared) (Q:Bool->Shared->Prop) (E:VS) x t,ad c Γ ρ s->v.Is ρ x->(∀(r:Bool) ρ' s',ρ<+:ρ'->(r=true<->φ)->ad c Γ ρ' s'->Q r s')->wpAny (model PR w) c.A (contains x (.int z t)) Q E s
theorem eO.isin{v:SV}{z:Int}{φ:Prop}(h:rF c Γ v z φ):eO c Γ .In (.int z) v φ:=fun ρ s Q E x y S hx hy k=>by
 obtain⟨_,rfl⟩:=hx.intI
 exact ZL (h ρ s _ E y _ S hy fun r ρ' s' hp hr S'=>ZM (k r ρ' s' hp hr S'))
theorem eO.notin{v:SV}{z:Int}{φ:Prop}(h:rF c Γ v z φ):eO c Γ .NotIn (.int z) v (¬φ):=fun ρ s Q E x y S hx hy k=>by
 obtain⟨_,rfl⟩:=hx.intI
 exact ZL (h ρ s _ E y _ S hy fun r ρ' s' hp hr S'=>ZM (k (!r) ρ' s' hp (by rw[<- hr];simp) S'))
theorem rF.inst{i d:Nat}{C f:Addr}{as:LV}{b:Bool}{z:Int}(h1:Γ.o[i]?=some (.inst C d))(h2:Γ.o[d]?=some (.attrs as))(hs:findIn (hd.heap_1 w.params) (.ref C) "__contains__"=some (some (.ref f)))(hf:isFn (hd.heap_1 w.params) (.ref f)=true)
  (hI:ax c Γ (.val (.ref f)) [.ref i,.int z] [] (.val (.bool b)) Γ):rF c Γ (.ref i) z (b=true):=fun ρ s Q E x t S hx k=>by
 have Sj1:=S
 obtain⟨m,os,H,F,N,hm,LY,hs'⟩:=S
 obtain⟨a,dx,ds,n',ha1,_,hE,_,I⟩:=bf N LY h1 h2
 obtain rfl:=hx.refAt ha1
 refine contains_K F c.o.X I hs hf ?_
 refine hI ρ s _ E _ [.ref a,.int z t] [] Sj1 (.val _) (.cons (.ref ha1) (.cons (.int _ _) .nil)) rfl .nil fun u ρ' s' hp hu S'=>?_
 obtain rfl:=hu.valI
 exact wpAny_truthy_bool (k _ ρ' s' hp Iff.rfl S')
end
theorem lc(w:World):findIn (hd.heap_1 w.params) (.ref 514) "__contains__"=some (some (.ref 320)):=by k_is
theorem pq(w:World):findIn (hd.heap_1 w.params) (.ref 646) "__contains__"=some (some (.ref 566)):=by k_is
theorem pp(w:World):findIn (hd.heap_1 w.params) (.ref 714) "__contains__"=some (some (.ref 676)):=by k_is
theorem kL(w:World):findIn (hd.heap_1 w.params) (.ref 514) "__len__"=some (some (.ref 299)):=by k_is
theorem oq(w:World):findIn (hd.heap_1 w.params) (.ref 646) "__len__"=some (some (.ref 545)):=by k_is
theorem oo(w:World):findIn (hd.heap_1 w.params) (.ref 714) "__len__"=some (some (.ref 669)):=by k_is
theorem sF(w:World):findIn (hd.heap_1 w.params) (.ref 514) "__bool__"=some (some (.ref 313)):=by k_is
example:True:=by w_top off;trivial
def jo(xs:Array Nat)(j r:Nat):Prop:=r<=xs.size/\(∀i,i<r->xs.getD i 0<j)/\∀i,r<=i->i<xs.size->j<=xs.getD i 0
theorem iO{xs:LN}(h:xs.Pairwise (· < ·)):∀i k,i<k->k<xs.length->xs.getD i 0<xs.getD k 0:=fun i k hik hk=>by
 refine aa (ZE ..) (aa (ZE ..) (aa (ZA (by exact Nat.lt_trans ‹_› ‹_›:i<xs.length) ..) (aa (ZA hk ..) ?_)))
 exact List.pairwise_iff_getElem.mp h i k (by exact Nat.lt_trans ‹_› ‹_›) hk hik
theorem b0(xs:Array Nat)(i:Nat):xs.getD i 0=xs.toList.getD i 0:=by
 exact aa (Array.getD_eq_getD_getElem? ..) (aa (ZE ..) (aa (Array.getElem?_toList ..) rfl))
theorem gH{xs:Array Nat}(h:xs.toList.Pairwise (· < ·))(j:Nat):∀(fuel lo hi:Nat),lo<=hi->hi<=xs.size->hi-lo<=fuel->(∀i,i<lo->xs.getD i 0<j)->(∀i,hi<=i->i<xs.size->j<=xs.getD i 0)->jo xs j (SetTable.below.go xs j fuel lo hi)
|0,lo,hi,h1,h2,h3,h4,h5=>by
  have:lo=hi:=by exact(av [.m .a .b,.m .c .o,.S .c .b .a] (.e .a .b)) h1 h3 (bc _ _)
  subst this
  exact⟨h2,h4,h5⟩
|fuel+1,lo,hi,h1,h2,h3,h4,h5=>by
  unfold SetTable.below.go
  by_cases hlt:lo<hi
  ·refine aa (if_pos hlt ..) ?_
   have m1:lo<=(lo+hi)/2:=by exact(av [.l .a .b,.V 2 .c (.p .a .b)] (.m .a .c)) hlt (tP 2)
   have m2:(lo+hi)/2<hi:=by exact(av [.l .a .b,.V 2 .c (.p .a .b)] (.l .c .b)) hlt (tP 2)
   generalize (lo+hi)/2=m at m1 m2 ⊢
   have hm:m<xs.size:=ZY m2 h2
   have mono:∀i k,i<=k->k<xs.size->xs.getD i 0<=xs.getD k 0:=fun i k hik hk=>by
    refine aa (b0 ..) (aa (b0 ..) ?_)
    rcases Nat.lt_or_eq_of_le hik with e|e
    ·exact Zr (iO h i k e (by simpa using hk))
    ·refine aa (e ..) ?_;exact ZZ _
   show jo xs j (if xs.getD m j<j then _ else _)
   have e9:xs.getD m j=xs.getD m 0:=by
    refine aa (Array.getD_eq_getD_getElem? ..) (aa (Array.getD_eq_getD_getElem? ..) (aa (Zt hm ..) ?_));rfl
   refine aa (e9 ..) ?_
   by_cases hc:xs.getD m 0<j
   ·refine aa (if_pos hc ..) ?_
    exact gH h j fuel _ hi ‹_› h2 (by exact(gV [.m .a (.p .d .u),.m .c .e,.S .a .b .c,.S .f .b (.p .e .u)] (.m .f .d)) h3 m1 (bc _ _) (bc _ _)) (fun i hi'=>ZX (mono i _ (by exact Nat.le_of_lt_succ ‹_›) hm) hc) h5
   ·refine aa (if_neg hc ..) ?_
    exact gH h j fuel lo _ ‹_› (by exact Zr ‹_›) (by exact(gV [.m .a (.p .d .u),.l .e .b,.S .a .b .c,.S .f .e .c] (.m .f .d)) h3 m2 (bc _ _) (bc _ _)) h4 (fun i hi' hi2=>ZW (Nat.not_lt.mp hc) (mono _ i ‹_› hi2))
  ·refine aa (if_neg hlt ..) ?_
   have:lo=hi:=by exact(ah [.m .a .b,.x (.l .a .b)] (.e .a .b)) h1 hlt
   subst this
   exact⟨h2,h4,h5⟩
theorem gG{xs:Array Nat}(h:xs.toList.Pairwise (· < ·))(j:Nat):jo xs j (SetTable.below xs j) :=
 gH h j xs.size 0 xs.size (Zf _) (ZZ _) (by exact(ah [.S .a .b .o] (.m .a .b)) (bc _ _)) (fun i hi=>absurd hi (Nat.not_lt_zero i)) (fun i h1 h2=>absurd h2 (Nat.not_lt.mpr h1))
structure bT(w:World)(t:SetTable)(n:Nat):Prop where
 fits:t.fits n=true
 ris:t.place.toList.Pairwise (· < ·)
 dum:t.dummies=#[]
 led:t.led=true\/w.params.followText "set-order"=true
theorem rU{xs:LN}{p j:Nat}(h:xs.Pairwise (· < ·))(h2:∀i,i<p->i<xs.length->xs.getD i 0<j)(h3:∀i,p<=i->i<xs.length->j<xs.getD i 0):(xs.take p++j::xs.drop p).Pairwise (· < ·):=by
 have hd:∀b∈xs.drop p,j<b:=fun b hb=>by
  obtain⟨i,hi,e⟩:=ZF.mp hb
  rw[List.getElem_drop] at e
  have hl:p+i<xs.length:=by rw[List.length_drop] at hi;exact(aJ [.l .a .b,.S .b .c .d] (.l (.p .d .a) .c)) hi (bc _ _)
  have:=h3 (p+i) (by exact(ah [] (.m .a (.p .a .b)))) hl
  rw[ZE,ZA hl] at this
  refine aA (e ..) ?_;exact this
 refine List.pairwise_append.mpr ⟨h.sublist (List.take_sublist ..),List.pairwise_cons.mpr ⟨hd,h.sublist (List.drop_sublist ..)⟩,fun a ha b hb=>?_⟩
 obtain⟨i,hi,e⟩:=ZF.mp ha
 rw[List.getElem_take] at e
 have hl:i<p/\i<xs.length:=by rw[Zv] at hi;exact(aJ [.l .a .b,.I .b .c .d] (.d (.l .a .c) (.l .a .d))) hi (iX _ _)
 have h6:=h2 i hl.1 hl.2
 rw[ZE,ZA hl.2] at h6
 have h6:a<j:=by refine aA (e ..) ?_;exact h6
 rcases ZT.mp hb with rfl|hb
 ·exact h6
 ·exact Nat.lt_trans h6 (hd b hb)
theorem cO{w:World}{t:SetTable}{n:Nat}(hl:t.led=true\/w.params.followText "set-order"=true):bT w (t.standIn n) n :=
 ⟨SetTable.standIn_fits t n,by simp only[SetTable.standIn,Array.toList_range];exact List.pairwise_lt_range,rfl,hl⟩
theorem dg{t:SetTable}{f:Nat->Int}{h:Int}(hd:t.dummies=#[]):∀(fuel:Nat) (p:SetTable.Probe) (j:Nat) (d:Option Nat),p.dummy=none->SetTable.probe.go t f h fuel p=some (.empty j d)->d=none/\t.slot j=.empty
|0,_,_,_,_,e=>by exact nomatch e
|fuel+1,p,j,d,hp,e=>by
  unfold SetTable.probe.go at e
  cases hs:t.slot p.j with
 |empty=>rw[hs] at e;cases ZK e;exact⟨hp,hs⟩
 |dummy =>
   exfalso
   have h0:SetTable.has t.dummies p.j=false:=by refine aa (hd ..) ?_;simp[SetTable.has]
   unfold SetTable.slot at hs
   simp only[h0] at hs
   split at hs
   ·exact nomatch hs
   ·exact nomatch hs
 |live i =>
   rw[hs] at e
   dsimp only at e
   have ha:(t.advance p).dummy=none:=by
    unfold SetTable.advance
    split
    ·exact hp
    ·exact hp
   split at e
   ·cases ZK e
   ·exact dg hd fuel _ j d ha e
set_option tactic.hygienic true in
theorem jK{w:World}{t:SetTable}{es:Array (Int×Value)}{h:Int}{x:Value}(g:bT w t es.size):bT w (layNew t es h x).2.1 (layNew t es h x).1.size/\((layNew t es h x).2.1.plain=t.plain\/(layNew t es h x).2.1.plain=false):=by
 refine⟨⟨layNew_fits t es h x,?_,?_,?_⟩,?_⟩
 all_goals unfold layNew
 all_goals cases hf:t.freeSlot h with
|none=>first|exact(cO (n:=es.size+1) g.led).ris|rfl|exact g.led|exact .inr rfl
|some r =>
  obtain⟨slot,wd⟩:=r
  dsimp only
  have hput:(t.put slot).1.place.toList.Pairwise (· < ·):=by
   unfold SetTable.freeSlot at hf
   split at hf
   ·rename_i j d e
    cases ZK hf
    obtain⟨rfl,hse⟩:=dg g.dum _ _ j d rfl e
    show (SetTable.insertAt t.place (SetTable.below t.place j) j).toList.Pairwise (· < ·)
    refine aa (SetTable.toList_insertAt ..) ?_
    obtain⟨b1,b2,b3⟩:=gG g.ris j
    refine rU g.ris (fun i hi hl=>by refine aA (b0 ..) ?_;exact b2 i hi) fun i hi hl=>?_
    have h1:=b3 i hi (by simpa using hl)
    refine aA (b0 ..) ?_
    rcases Nat.lt_or_eq_of_le h1 with q|q
    ·exact q
    ·exfalso
     unfold SetTable.slot at hse
     have hb:SetTable.below t.place j<t.place.size:=by
      have:i<t.place.size:=by simpa using hl
      exact ZX ‹_› ‹_›
     have h4:=b3 _ (ZZ _) hb
     have h5:t.place.getD (SetTable.below t.place j) 0<=t.place.getD i 0:=by
      rcases Nat.lt_or_eq_of_le hi with z|z
      ·refine aa (b0 ..) (aa (b0 ..) ?_);exact Zr (iO g.ris _ _ z hl)
      ·refine aa (z ..) ?_;exact ZZ _
     have h6:t.place[SetTable.below t.place j]?=some j:=by
      refine aa (Zt hb ..) ?_
      rw[Array.getD_eq_getD_getElem?,Zt hb] at h4 h5
      simp only[Option.getD_some] at h4 h5
      congr 1
      exact(c7 [.e .a .b,.l .c .d,.m .a .e,.m .e .b] (.e .e .a)) q hb h4 h5
     simp[h6] at hse
   ·exact nomatch hf
  unfold SetTable.orStandIn
  split
  ·first
   |exact hput
   |(show (if SetTable.has t.dummies slot=true then _ else t.dummies)=#[];refine aa (g.dum ..) ?_;simp[SetTable.has,SetTable.below,SetTable.below.go])
   |exact g.led
   |exact .inl rfl
  ·first
   |(simp only[SetTable.standIn,Array.toList_range];exact List.pairwise_lt_range)
   |rfl
   |exact g.led
   |exact .inr rfl
theorem eS{α:Type}{f:Nat->Option α}:∀(l:LN),((l.filterMap fun j=>(f j).map (j,·)).map (·.1)).Sublist l
|[]=>.slnil
|j::r=>by
  refine aa (List.filterMap_cons ..) ?_
  cases h:f j with
 |none=>exact(eS r).cons _
 |some x=>exact(eS r).cons₂ _
theorem kH{w:World}{t:SetTable}{es:Array (Int×Value)}{n:Nat}(g:bT w t es.size):bT w (relayAll t es n).2.1 (relayAll t es n).1.size:=by
 refine⟨relayAll_fits t es n,?_,?_,?_⟩
 all_goals unfold relayAll
 all_goals cases hr:t.relaid (es.map (·.1)) n with
|none=>first|exact(cO (n:=es.size) g.led).ris|rfl|exact g.led
|some r =>
  obtain⟨t',order⟩:=r
  dsimp only
  unfold SetTable.relaid SetTable.laid at hr
  cases ho:SetTable.layClean (SetTable.sizeAbove n-1) (es.map (·.1)) with
 |none=>rw[ho] at hr;exact nomatch hr
 |some owner =>
   rw[ho] at hr
   have hr:=ZK hr
   obtain⟨rfl,rfl⟩:=Prod.mk.inj hr
   split
   ·first
    |(show ((List.map _ _).toArray.toList).Pairwise (· < ·);refine aa (List.toList_toArray ..) ?_;exact List.pairwise_lt_range.sublist (eS _))
    |rfl
    |exact g.led
   ·first
    |exact(cO (n:=es.size) g.led).ris
    |rfl
    |exact g.led
example:True:=by w_top off;trivial
theorem d0{α:Type}:∀(l:List α) (i:Nat) (h:i<l.length),(l[i]::l.eraseIdx i).Perm l
|[],i,h=>absurd h (Nat.not_lt_zero i)
|a::l,0,_=>List.Perm.refl _
|a::l,i+1,h=>by
  refine aa (List.eraseIdx_cons_succ ..) (aa (List.getElem_cons_succ ..) ?_)
  exact(List.Perm.swap _ _ _).trans (List.Perm.cons _ (d0 l i (by simpa using h)))
theorem ee{α:Type}(next:Nat->Nat):∀(fuel k:Nat) (left:List α) (out:Array α),left.length<=fuel->(pickOrder.go next fuel k left out).toList.Perm (out.toList++left)
|0,k,[],out,_=>by simp[pickOrder.go]
|0,k,_::_,out,h=>absurd h (by simp)
|fuel+1,k,left,out,h=>by
  unfold pickOrder.go
  cases hl:left[next k%left.length]? with
 |none =>
   have:left=[]:=by
    cases left with
   |nil=>rfl
   |cons a b =>
     have:next k%(a::b).length<(a::b).length:=Nat.mod_lt _ (by exact Nat.succ_pos _)
     rw[ZA this] at hl;exact nomatch hl
   subst this;simp
 |some x =>
   obtain⟨hi,hx⟩:=ZB.mp hl
   refine(ee next fuel (k+1) _ _ (by refine aa (List.length_eraseIdx_of_lt hi ..) ?_;exact(aJ [.m .a (.p .b .u),.l .c .a,.S .d .a .u] (.m .d .b)) h hi (bc _ _))).trans ?_
   refine aa (Array.toList_push ..) (aa (List.append_assoc ..) ?_)
   refine List.Perm.append_left _ ?_
   refine aA (hx ..) ?_
   exact d0 _ _ hi
theorem mz{α:Type}(next:Nat->Nat)(xs:Array α):(pickOrder next xs).toList.Perm xs.toList:=by
 refine(ee next xs.size 0 xs.toList #[] (by exact ZZ _)).trans (by simp)
section
variable{prog:Program}{w:World}{A:Around}{E:VS}{s:Shared}
theorem iD{src:Source}{n:Nat}{Q:Nat->Shared->Prop}(hn:n≠0)(h:Q ((model prog w).w.draws src (s.drawn.get src)%n) { s with drawn:=s.drawn.bump src }):wpAny (model prog w) A (choose src n) Q E s:=fun Γ p O=>by
 unfold choose
 refine aa (Sem.wp_choose ..) ?_
 exact⟨hn,h⟩
theorem c0{α:Type}:∀(n:Nat) (xs:List α) (s:Shared) (Q:List α->Shared->Prop),xs.length=n->(∀ys d,ys.Perm xs->Q ys { s with drawn:=d })->wpAny (model prog w) A (drawOrder n xs) Q E s
|0,xs,s,Q,hn,h=>by
  obtain rfl:=List.length_eq_zero_iff.mp hn
  exact ZM (h [] s.drawn (List.Perm.refl _))
|n+1,[],s,Q,hn,h=>nomatch hn
|n+1,x::xs,s,Q,hn,h=>by
  unfold drawOrder
  refine ZL (iD (by simp) ?_)
  generalize hi:((model prog w).w.draws Source.order (s.drawn.get Source.order)%(x::xs).length)=i
  have hlt:i<(x::xs).length:=by refine aA (hi ..) ?_;exact Nat.mod_lt _ (by exact Nat.succ_pos _)
  refine aa (ZA hlt ..) ?_
  dsimp only
  refine ZL (c0 n _ _ _ (by refine aa (List.length_eraseIdx_of_lt hlt ..) ?_;exact(av [.e .a (.p .b .u),.S .c .a .u] (.e .c .b)) hn (bc _ _)) fun ys d hp=>ZM (h _ d ?_))
  exact(List.Perm.cons _ hp).trans (d0 _ _ hlt)
end
noncomputable def dw(w:World)(o:Obj)(zs:LI):Prop :=
 ∃es ep t,o={ cls:=.type "set",dict:=none,data:=.set es ep t }/\bT w t es.size/\ElemsOf (intKind PR w) es.toList/\zs=es.toList.map (fun e=>numOf e.2)/\zs.Nodup
theorem oQ{w:World}{l:List (Int×Value)}(h:ElemsOf (intKind PR w) l){e:Int×Value}(he:e∈l):∃t,e.2=.int (numOf e.2) t/\e.1=hashInt (numOf e.2):=by
 obtain⟨⟨k,hk,hh⟩,_⟩:=h e he
 obtain⟨t,e2⟩:=Value.isInt_shape hk
 exact⟨t,by refine aa (e2 ..) ?_;rfl,by refine aa (hh ..) (aa (e2 ..) ?_);rfl⟩
theorem dw.mem{w:World}{es:List (Int×Value)}(h:ElemsOf (intKind PR w) es)(k:Int):k∈es.map (fun e=>numOf e.2)<->∃e∈es,(intKind PR w).is k e.2=true:=by
 rw[Zc]
 constructor
 ·rintro ⟨e,he,rfl⟩
  obtain⟨t,e2,_⟩:=oQ h he
  exact⟨e,he,by refine aa (e2 ..) ?_;exact intKind_is _ _ _ _⟩
 ·rintro ⟨e,he,hk⟩
  obtain⟨t,e2⟩:=Value.isInt_shape hk
  exact⟨e,he,by refine aa (e2 ..) ?_;rfl⟩
theorem dw.kind{w:World}{o:Obj}{zs:LI}(h:dw w o zs):o.SetObjOf (intKind PR w) (fun k=>decide (k∈zs)) zs.length:=by
 obtain⟨es,ep,t,rfl,hg,hel,rfl,hn⟩:=h
 exact⟨⟨rfl,rfl,rfl⟩,es,ep,t,rfl,hel,fun k=>by refine aa (decide_eq_true_eq ..) ?_;exact dw.mem hel k,by simp,hg.fits⟩
theorem dw.fresh{w:World}{led:Bool}(h:led=!w.params.followText "set-order"):dw w { cls:=.type "set",dict:=none,data:=.set #[] 0 (.fresh 0 0 led) } [] :=
 ⟨#[],0,_,rfl,⟨by rfl,by simp[SetTable.fresh],rfl,by
  show led=true\/_
  refine aa (h ..) ?_;cases w.params.followText "set-order" <;> simp⟩,fun e he=>by simp at he,rfl,List.nodup_nil⟩
def m5(w:World)(h:Heap)(a:Addr)(zs:LI):Prop:=∃o,h.get? a=some o/\dw w o zs
section
variable{w:World}{A:Around}{E:VS}{s:Shared}
theorem gy{h:Heap}{a:Addr}{o:Obj}{es:Array (Int×Value)}{ep:Nat}{t:SetTable}(ho:h.get? a=some o)(hd:o={ cls:=.type "set",dict:=none,data:=.set es ep t })(es':Array (Int×Value))(t':SetTable) :
  (h.update a (Obj.putSet es' t')).get? a=some { cls:=.type "set",dict:=none,data:=.set es' (ep+1) t' }:=by
 subst hd
 exact ZV (Obj.putSet es' t') ho rfl
theorem i7{a:Addr}{zs:LI}{k:Int}{tk:Tok}{Q:Bool->Shared->Prop}(hS:m5 w s.heap a zs)(hroom:zs.length+1<4096)
  (h:∀b h' zs',Heap.SameBut a s.heap h'->m5 w h' a zs'->(∀z,z∈zs'<->z∈zs\/z=k)->zs'.length<=zs.length+1->Q b { s with heap:=h' }) :
  wpAny (model PR w) A (setAddHashed a (.int k tk) (hashInt k)) Q E s:=by
 obtain⟨o,ho,es,ep,t,eo,hg,hel,ez,hn⟩:=hS
 have hd:o.data=.set es ep t:=by exact aa (eo ..) rfl
 have hes:es.size=zs.length:=by refine aa (ez ..) ?_;simp
 have hb:es.size<scanBound:=by unfold scanBound;exact(ah [.l (.p .a .u) (.n 4096),.e .b .a] (.l .b (.n 4096))) hroom hes
 unfold setAddHashed setAddHashedIn
 refine wpAny_holding (ZL (wpAny_setState_of ho hd hg.fits ?_))
 dsimp only
 refine aa (byScan_of (x:=.int k tk) vT hb hel ..) ?_
 simp only[↓reduceIte]
 unfold setAddByScan
 refine ZL ?_
 refine ZL (wpAny_rule ?_)
 refine ZL (wpAny_setScan_of (knd:=intKind PR w) (k:=k) (intKind_is _ _ _ _) ho hd hg.fits hel ?_)
 cases hr:List.findIdx? (fun e=>(intKind PR w).is k e.2) es.toList with
|some j =>
  dsimp only
  obtain⟨hj,hpj,_⟩:=List.findIdx?_eq_some_iff_getElem.mp hr
  have hk:k∈zs:=by refine aa (ez ..) ?_;exact(dw.mem hel k).mpr ⟨_,List.getElem_mem hj,hpj⟩
  exact ZM (ZM (h _ s.heap zs (Heap.SameBut.refl a s.heap) ⟨o,ho,es,ep,t,eo,hg,hel,ez,hn⟩ (fun z=>⟨.inl,fun hz=>hz.elim id fun e=>e▸hk⟩) (by exact(ai [] (.m .a (.p .a .u))))))
|none =>
  dsimp only
  have hk:k∉zs:=fun hk=>by
   rw[ez] at hk
   obtain⟨e,he,hp⟩:=(dw.mem hel k).mp hk
   have:=List.findIdx?_eq_none_iff.mp hr e he
   rw[hp] at this;exact Bool.noConfusion this
  have hgw:∀(b:Bool) {sj1:Shared} {Q':UQ},Q' () sj1->wpAny (model PR w) A (match b with|true=>rule "set.scan.the-table-gave-way"|false=>pure ()) Q' E sj1 :=
   fun b sj1 Q' hq=>by cases b <;> first|exact ZM hq|exact wpAny_rule hq
  have hperm:=layNew_perm t es (hashInt k) (.int k tk)
  have hgood:=(jK (h:=hashInt k) (x:=.int k tk) hg).1
  generalize hL:layNew t es (hashInt k) (.int k tk)=Lz at hperm hgood ⊢
  obtain⟨es1,t1,wasDummy,gave⟩:=Lz
  dsimp only at hperm hgood ⊢
  rw[Array.toList_push] at hperm
  have hel1:ElemsOf (intKind PR w) es1.toList:=(hel.push (k:=k) (x:=.int k tk) (intKind_is _ _ _ _) vT).perm hperm
  have fin:∀(es2:Array (Int×Value)) (t2:SetTable) (ep2:Nat),es2.toList.Perm es1.toList->bT w t2 es2.size->dw w { cls:=.type "set",dict:=none,data:=.set es2 ep2 t2 } (es2.toList.map fun e=>numOf e.2)/\(∀z,z∈(es2.toList.map fun e=>numOf e.2)<->z∈zs\/z=k)/\(es2.toList.map fun e=>numOf e.2).length<=zs.length+1:=by
   intro es2 t2 ep2 hp2 hg2
   have hz:(es2.toList.map fun e=>numOf e.2).Perm (zs++[k]):=by
    have:=(hp2.trans hperm).map (fun e=>numOf e.2)
    rw[List.map_append,<- ez] at this
    exact this
   refine⟨⟨es2,ep2,t2,rfl,hg2,hel1.perm hp2,rfl,hz.nodup_iff.mpr ?_⟩,fun z=>?_,?_⟩
   ·rw[List.nodup_append]
    exact⟨hn,by simp,fun x hx y hy e=>hk (by rw[ZP] at hy;rw[<- hy,<- e];exact hx)⟩
   ·rw[hz.mem_iff,ZS,ZP]
   ·refine aa (hz.length_eq ..) ?_;simp
  refine ZL (hgw _ ?_)
  have hsz1:es1.size=zs.length+1:=by
   have:=hperm.length_eq
   simp at this;exact(av [.e .a .b,.e .c (.p .a .u)] (.e .c (.p .b .u))) hes this
  have tail:∀(t2:SetTable),bT w t2 es1.size->wpAny (model PR w) A (do
    storeSet a es1 t2
    if (!wasDummy&&t2.tooFull)=true then do
      (match (relayAll t2 es1 (SetTable.grown es1.size)).2.2 with|true=>rule "set.scan.the-table-gave-way"|false=>pure ())
      storeSet a (relayAll t2 es1 (SetTable.grown es1.size)).1 (relayAll t2 es1 (SetTable.grown es1.size)).2.1
      pure (some true)
     else pure (some true)) (fun r s'=>∃b,r=some b/\Q b s') E s:=by
   intro t2 hg2
   refine ZL (wpAny_storeSet_of ho hd ?_ (fits_of_scanBound (by unfold scanBound;exact(ah [.l (.p .a .u) (.n 4096),.e .b (.p .a .u)] (.l .b (.n 4096))) hroom hsz1)))
   have ho1:=gy ho eo es1 t2
   have hsb1:=Heap.SameBut.update s.heap a (Obj.putSet es1 t2)
   split
   ·have hp:=relayAll_perm t2 es1 (SetTable.grown es1.size)
    have hg3:=kH (n:=SetTable.grown es1.size) hg2
    generalize relayAll t2 es1 (SetTable.grown es1.size)=Rl at hp hg3 ⊢
    obtain⟨es2,t3,gave2⟩:=Rl
    dsimp only at hp hg3 ⊢
    have hsz:es2.size=es1.size:=by exact aA (Array.length_toList ..) (aa (hp.length_eq ..) (aa (Array.length_toList ..) rfl))
    refine ZL (hgw _ ?_)
    refine ZL (wpAny_storeSet_of ho1 rfl ?_ (fits_of_scanBound (by unfold scanBound;exact(av [.l (.p .a .u) (.n 4096),.e .b (.p .a .u),.e .c .b] (.l .c (.n 4096))) hroom hsz1 hsz)))
    obtain⟨f1,f2,f3⟩:=fin es2 t3 (ep+1+1) hp hg3
    exact ZM ⟨_,vS,h _ _ _ (hsb1.trans (Heap.SameBut.update _ a _)) ⟨_,gy ho1 rfl es2 t3,f1⟩ f2 f3⟩
   ·obtain⟨f1,f2,f3⟩:=fin es1 t2 (ep+1) (List.Perm.refl _) hg2
    exact ZM ⟨_,vS,h _ _ _ hsb1 ⟨_,ho1,f1⟩ f2 f3⟩
  split
  ·refine ZL ?_
   refine aa (hashByValue_scannable 8 (x:=.int k tk) vT ..) ?_
   refine ZM ?_
   refine wpAny_mono (tail _ ?_) (fun r s' hr=>?_) fun O O z=>z
   ·split
    ·exact hgood
    ·exact⟨SetTable.fits_plain_off hgood.fits,hgood.ris,hgood.dum,hgood.led⟩
   ·obtain⟨b,rfl,hq⟩:=hr
    exact ZM hq
  ·refine ZL (ZM ?_)
   simp only[↓reduceIte]
   refine wpAny_mono (tail _ hgood) (fun r s' hr=>?_) fun O O z=>z
   obtain⟨b,rfl,hq⟩:=hr
   exact ZM hq
end
example:True:=by w_top off;trivial
theorem aI:Slot "set_iterator" "__next__" "set_iterator.__next__" :=
 .of (owner:="set_iterator") (n:="__next__") (by refine aa (typeLookup_type ..) (aa (builtinLookup_eq_fast ..) ?_);kernel_rfl) (by decide +kernel) (by decide +kernel) (by decide +kernel)
  (by first|exact .inl (by decide +kernel)|exact .inr (by decide +kernel)) (by refine aa (isSubtype_type ..) ?_;kernel_rfl)
theorem dM:Slot "set_iterator" "__iter__" "set_iterator.__iter__" :=
 .of (owner:="set_iterator") (n:="__iter__") (by refine aa (typeLookup_type ..) (aa (builtinLookup_eq_fast ..) ?_);kernel_rfl) (by decide +kernel) (by decide +kernel) (by decide +kernel)
  (by first|exact .inl (by decide +kernel)|exact .inr (by decide +kernel)) (by refine aa (isSubtype_type ..) ?_;kernel_rfl)
theorem dr:entryFor table "set_iterator.__next__"=some Builtin.«set_iterator.__next__»:=entryFor_of_tree (by kernel_rfl)
theorem dP(a:Value):argsOk "set_iterator.__next__" ⟨[a],[]⟩:=by unfold argsOk;kernel_rfl
theorem fF:entryFor table "set.__iter__"=some Builtin.«frozenset.__iter__»:=
 entryFor_alias (id':="frozenset.__iter__") (by kernel_rfl) rfl (by decide +kernel) (by kernel_rfl)
theorem gX(a:Value):argsOk "set_iterator.__iter__" ⟨[a],[]⟩:=by unfold argsOk;kernel_rfl
noncomputable abbrev f8(first:Value)(i:Nat)(a:Addr)(n ep:Nat):Obj:={ cls:=.type "set_iterator",data:=.fields #[first,.int i 0,.ref a,.int n 0,.int ep 0] }
noncomputable abbrev setO(es:Array (Int×Value))(ep:Nat)(t:SetTable):Obj:={ cls:=.type "set",dict:=none,data:=.set es ep t }
section
variable{w:World}{A:Around}{E:VS}{s:Shared}{it a:Addr}{es:Array (Int×Value)}{ep i:Nat}{t:SetTable}
theorem ju{α:Type}{P:α->Shared->Prop}{Q:OQ}{K:Value->Sem (Option Value)}(hh:A.handled=none)(h:∀h',(∀b o,s.heap.get? b=some o->h'.get? b=some o)->Q none { s with heap:=h' })
  (hK:∀x (s':Shared),s'.TypeIs x "StopIteration"->Q none s'->wpAny (model PR w) A (K x) Q E s'):wpAny (model PR w) A.in1 (newExc (.type "StopIteration") [] >>= raiseNew (α:=α)) P (fun x s'=>wpAny (model PR w) A (K x) Q E s') s:=by
 refine ZL ?_
 unfold newExc newTuple
 refine ZL (wpAny_newObj_type ?_ (by size_fits))
 refine ZL (m:=firstArgMember _ _) (wpAny_of_eq (a:=Value.none) (by first|rfl|(simp only[firstArgMember];rfl)) ?_)
 refine wpAny_newObj_type ?_ (by size_fits)
 unfold raiseNew
 refine ZL (wpAny_handled ?_)
 refine aa (show A.in1.handled=none from hh) ?_
 refine ZL (ZM (wpAny_throw ?_))
 exact hK _ _ ⟨_,Zu _ rfl,rfl⟩ (h _ fun b o e=>ZR _ (ZR _ e))
theorem lx{slot:Nat}{r:Option (Value×Nat)}{Q:OQ}(hh:A.handled=none)(hit:s.heap.get? it=some (f8 (.int slot 0) i a es.size ep))(ho:s.heap.get? a=some (setO es ep t))(hf:t.fits es.size=true)
  (hr:∀(A':Around) (Q':Option (Value×Nat)->Shared->Prop) (E':VS),Q' r s->wpAny (model PR w) A' (setNext a slot i ep) Q' E' s)
  (hs:∀x nx,r=some (x,nx)->∀h',h'.get? it=some (f8 (.int nx 0) (i+1) a es.size ep)->Heap.SameBut it s.heap h'->Q (some x) { s with heap:=h' })
  (he:r=none->∀h',Heap.ExtBut it s.heap h'->Q none { s with heap:=h' }):wpAny (model PR w) A (pyNext (.ref it)) Q E s:=by
 have hT:s.TypeIs (.ref it) "set_iterator":=⟨_,hit,rfl⟩
 unfold pyNext
 refine ZL (wpAny_attempt (wpAny_callSpecial?_slot (name:=Str.ofString "__next__") hT aI (wpAny_call_entry aI hT dr ?_ (dP _))))
 show wpAny _ _ (fieldsOf (.ref it) >>= _) _ _ s
 refine ZL (wpAny_fieldsOf hit rfl ?_)
 show wpAny _ _ (setEntries a >>= _) _ _ s
 refine ZL (wpAny_setEntries_of ho rfl hf ?_)
 refine aj (by simp) ?_
 show wpAny _ _ (setNext a slot i ep >>= _) _ _ s
 refine ZL (hr _ _ _ ?_)
 cases r with
|some r =>
  obtain⟨x,nx⟩:=r
  refine ZL (wpAny_setField hit rfl (by exact Nat.succ_pos _) ?_)
  refine ZL (wpAny_setField (ZV _ hit rfl) (Obj.data_mapFields rfl _) (by simp) (ZM ⟨_,rfl,ZM (hs x nx vS _ ?_ ((Heap.SameBut.update ..).trans (Heap.SameBut.update ..)))⟩))
  exact ZV _ (ZV _ hit rfl) rfl
|none =>
  refine ZL (wpAny_setField hit rfl (by simp) ?_)
  refine ju hh (fun h' hk=>he rfl h' fun b o hb e=>hk b o ((Zi _ _ (Ne.symm hb)).trans e)) fun x s' hx hq=>?_
  exact ZL (wpAny_isInstance (T:="StopIteration") (b:=true) hx isSubtype_stop (ZM hq))
noncomputable abbrev tupI(ys:LN):Obj:={ cls:=.type "tuple",data:=.seq (ys.map fun (k:Nat)=>rawInt k).toArray }
theorem mt{T:Addr}{ys:LN}{Q:OQ}(hh:A.handled=none)(hit:s.heap.get? it=some (f8 (.ref T) i a es.size ep))(ho:s.heap.get? a=some (setO es ep t))(hf:t.fits es.size=true)(hT':s.heap.get? T=some (tupI ys))(hy:∀k∈ys,k<es.size)
  (hs:∀k e,ys[i]?=some k->es[k]?=some e->∀h',h'.get? it=some (f8 (.ref T) (i+1) a es.size ep)->Heap.SameBut it s.heap h'->Q (some e.2) { s with heap:=h' })
  (he:ys[i]?=none->∀h',Heap.ExtBut it s.heap h'->Q none { s with heap:=h' }):wpAny (model PR w) A (pyNext (.ref it)) Q E s:=by
 have hT:s.TypeIs (.ref it) "set_iterator":=⟨_,hit,rfl⟩
 unfold pyNext
 refine ZL (wpAny_attempt (wpAny_callSpecial?_slot (name:=Str.ofString "__next__") hT aI (wpAny_call_entry aI hT dr ?_ (dP _))))
 show wpAny _ _ (fieldsOf (.ref it) >>= _) _ _ s
 refine ZL (wpAny_fieldsOf hit rfl ?_)
 show wpAny _ _ (setEntries a >>= _) _ _ s
 refine ZL (wpAny_setEntries_of ho rfl hf ?_)
 refine aj (by simp) ?_
 show wpAny _ _ (seqItems? (.ref T) >>= _) _ _ s
 refine ZL (wpAny_seqItems hT' rfl ?_)
 have e0:((ys.map fun (k:Nat)=>rawInt k).toArray)[(i:Int).toNat]?=(ys[i]?).map fun (k:Nat)=>rawInt k:=by simp
 dsimp only
 refine aa (e0 ..) ?_
 cases hk:ys[i]? with
|some k =>
  have hlt:=hy k (ZQ hk)
  show wpAny _ _ (setNextDrawn a k ep >>= _) _ _ s
  refine ZL ?_
  unfold setNextDrawn
  refine ZL (wpAny_setState_of ho rfl hf ?_)
  dsimp only
  refine aa (if_neg (by simp) ..) (aa (Zt hlt ..) ?_)
  refine ZM ?_
  refine ZL (wpAny_setField hit rfl (by simp) (ZM ⟨_,rfl,ZM (hs k _ hk (Zt hlt) _ ?_ (Heap.SameBut.update ..))⟩))
  exact ZV _ hit rfl
|none =>
  show wpAny _ _ (setField (.ref it) 0 (rawInt 0) >>= fun O=>setField (.ref it) 2 .none >>= fun O=>newExc (.type "StopIteration") [] >>= raiseNew) _ _ _
  refine ZL (wpAny_setField hit rfl (by exact Nat.succ_pos _) ?_)
  refine ZL (wpAny_setField (ZV _ hit rfl) (Obj.data_mapFields rfl _) (by simp) ?_)
  refine ju hh (fun h' hk'=>he hk h' fun b o hb e=>hk' b o ((Zi _ _ (Ne.symm hb)).trans ((Zi _ _ (Ne.symm hb)).trans e))) fun x s' hx hq=>?_
  exact ZL (wpAny_isInstance (T:="StopIteration") (b:=true) hx isSubtype_stop (ZM hq))
theorem ny{o:Obj}{zs:LI}{Q:VS}(ho:s.heap.get? a=some (setO es ep t))(hf:t.fits es.size=true)(hz:es.size<=20)
  (hd:∀ys d h',w.params.followText "set-order"=false->ys.Perm (List.range es.size)->h'=(s.heap.push (tupI ys)).push (f8 (.ref s.heap.objs.size) 0 a es.size ep)->Q (.ref (s.heap.objs.size+1)) { s with heap:=h',drawn:=d })
  (hn:w.params.followText "set-order"=true\/(!t.plain&&decide (es.size > 1))=false->Q (.ref s.heap.objs.size) { s with heap:=s.heap.push (f8 (.int 0 0) 0 a es.size ep) }):wpAny (model PR w) A (pyIter (.ref a)) Q E s:=by
 have hT:s.TypeIs (.ref a) "set":=⟨_,ho,rfl⟩
 refine wpAny_pyIter_slot hT F.slot_set_iter (wpAny_call_entry F.slot_set_iter hT fF ?_ (F.args_set_iter_1 _))
 unfold Builtin.«frozenset.__iter__» Builtin.Frozenset.slot0
 refine ZL (ZM ?_)
 unfold Builtin.Frozenset.sizeOf
 refine ZL (ZL (wpAny_setEntries_of ho rfl hf (ZM ?_)))
 refine ZL ?_
 unfold setDrawn setsByText
 refine ZL (wpAny_setState_of ho rfl hf ?_)
 dsimp only
 refine ZL (ZL (wpAny_askSetting (ZM ?_)))
 refine ZM ?_
 show wpAny _ _ (if (!w.params.followText "set-order" && (!t.plain&&decide (es.size > 1)))=true then _ else _) _ _ _
 by_cases hc:(!w.params.followText "set-order" && (!t.plain&&decide (es.size > 1)))=true
 ·refine cj hc ?_
  have hb:w.params.followText "set-order"=false:=by
   cases hb:w.params.followText "set-order" with
  |false=>rfl
  |true=>rw[hb] at hc;exact nomatch hc
  refine ZL (c0 _ _ _ _ (by simp) fun ys d hp=>?_)
  unfold newTuple
  refine ZL (wpAny_newObj_type ?_ ?_)
  ·refine ZL (wpAny_setEpoch_of (ZR _ ho) rfl hf ?_)
   refine ZL ?_
   unfold newFields
   refine wpAny_newObj_type ?_ (by size_fits)
   refine ZM ⟨_,rfl,"set_iterator",_,⟨_,Zu _ rfl,rfl⟩,aI.lookup,?_⟩
   have:=hd ys d _ hb hp rfl
   rw[<- Heap.size_push (h:=s.heap) (o:=tupI ys)] at this
   exact this
  ·show _<=sizeLine
   refine aa (sizeLine_eq ..) ?_
   have:=hp.length_eq
   simp at this ⊢
   exact(ah [.m .a .x,.e .b .a] (.m .b (.n 16777216))) hz this
 ·refine aj hc ?_
  refine ZL (ZM ?_)
  refine ZL (wpAny_setEpoch_of ho rfl hf ?_)
  refine ZL ?_
  unfold newFields
  refine wpAny_newObj_type ?_ (by size_fits)
  refine ZM ⟨_,rfl,"set_iterator",_,⟨_,Zu _ rfl,rfl⟩,aI.lookup,hn ?_⟩
  cases hb:w.params.followText "set-order" with
 |true=>exact .inl vT
 |false=>rw[hb] at hc;exact .inr (by simpa using hc)
end
example:True:=by w_top off;trivial
theorem gD:entryFor table "set_iterator.__iter__"=some Builtin.«dict_keyiterator.__iter__» :=
 entryFor_alias (id':="dict_keyiterator.__iter__") (by kernel_rfl) rfl (by decide +kernel) (by kernel_rfl)
theorem kn{t:SetTable}{i slot j:Nat}(hr:t.place.toList.Pairwise (· < ·))(hj:t.place[i]?=some j)(hsl:slot=j+1):SetTable.below t.place slot=i+1:=by
 subst hsl
 obtain⟨b1,b2,b3⟩:=gG hr (j+1)
 have hi:i<t.place.size:=(Zx.mp hj).1
 have e0:t.place.getD i 0=j:=by refine aa (Array.getD_eq_getD_getElem? ..) (aa (hj ..) ?_);rfl
 have mono:∀i k,i<k->k<t.place.size->t.place.getD i 0<t.place.getD k 0:=fun i k hik hk=>by
  refine aa (b0 ..) (aa (b0 ..) ?_);exact iO hr i k hik (by simpa using hk)
 generalize SetTable.below t.place (j+1)=r at b1 b2 b3
 rcases Nat.lt_trichotomy r (i+1) with h|h|h
 ·have:=b3 i (by exact Nat.le_of_lt_succ ‹_›) hi
  exact(aJ [.e .a .b,.m (.p .b .u) .a] (.e .c (.p .d .u))) e0 this
 ·exact h
 ·have h1:=b2 (i+1) h
  have:=mono i (i+1) (by exact(ai [] (.l .a (.p .a .u)))) (by exact ZY ‹_› ‹_›)
  exact(c7 [.e .a .b,.l .c (.p .b .u),.l .a .c] (.e .d (.p .e .u))) e0 h1 this
inductive rD(w:World)(I a:Addr)(es:Array (Int×Value))(ep:Nat)(t:SetTable):List (Int×Value)->Obj->AO->Prop
|text {i:Nat} (hb:w.params.followText "set-order"=true):rD w I a es ep t ((pickOrder (w.params.setOrder a ep) es).toList.drop i) (f8 (.int (0:Nat) 0) i a es.size ep) []
|tab {i slot:Nat} (hb:w.params.followText "set-order"=false) (hpl:(!t.plain&&decide (es.size > 1))=false) (hsl:SetTable.below t.place slot=i):rD w I a es ep t (es.toList.drop i) (f8 (.int slot 0) i a es.size ep) []
|drawn {i:Nat} {T:Addr} {ys:LN} {xs:List (Int×Value)} (hy:∀k∈ys,k<es.size) (hx:xs.map some=ys.map fun k=>es[k]?):rD w I a es ep t (xs.drop i) (f8 (.ref T) i a es.size ep) [(T,tupI ys)]
theorem dG{α:Type}{l:List α}{i:Nat}:(l.drop i=[]/\l[i]?=none)\/∃e,l[i]?=some e/\l.drop i=e::l.drop (i+1):=by
 rcases Zq i l.length with h|h
 ·exact .inr ⟨_,ZA h,Zj h⟩
 ·exact .inl ⟨Zo h,Zh h⟩
section
variable{w:World}{A:Around}{E:VS}{s:Shared}{I a:Addr}{es:Array (Int×Value)}{ep:Nat}{t:SetTable}{xs:List (Int×Value)}{o:Obj}{X:AO}
theorem jw{Q:OQ}(S:rD w I a es ep t xs o X)(hh:A.handled=none)(hit:s.heap.get? I=some o)(hX:∀q∈X,s.heap.get? q.1=some q.2)(ha:s.heap.get? a=some (setO es ep t))(hg:bT w t es.size)
  (k0:xs=[]->∀h',Heap.ExtBut I s.heap h'->Q none { s with heap:=h' })
  (k1:∀e xs' o' h',xs=e::xs'->rD w I a es ep t xs' o' X->h'.get? I=some o'->Heap.SameBut I s.heap h'->Q (some e.2) { s with heap:=h' }):wpAny (model PR w) A (pyNext (.ref I)) Q E s:=by
 cases S with
|@text i hb =>
  refine lx (r:=((pickOrder (w.params.setOrder a ep) es)[i]?).map fun e=>(e.2,0)) hh hit ha hg.fits (fun A' Q' E' hq=>?_) (fun x nx hr h' h1 h2=>?_) (fun hr h' hk=>?_)
  ·unfold setNext
   refine ZL (wpAny_setState_of ha rfl hg.fits ?_)
   dsimp only
   unfold setsByText
   refine ZL (ZL (wpAny_askSetting (ZM ?_)))
   show wpAny _ _ (if w.params.followText "set-order"=true then _ else _) _ _ _
   refine cj hb (aj (by simp) ?_)
   refine ZL ?_
   unfold setWalk setsByText
   refine ZL (wpAny_setState_of ha rfl hg.fits ?_)
   dsimp only
   refine ZL (ZL (wpAny_askSetting (ZM ?_)))
   show wpAny _ _ (if w.params.followText "set-order"=true then _ else _) _ _ _
   refine cj hb ?_
   exact ZL (wpAny_askSetting (ZM (ZM hq)))
  ·rcases dG (l:=(pickOrder (w.params.setOrder a ep) es).toList) (i:=i) with ⟨_,e2⟩|⟨e,e2,e3⟩
   ·rw[<- Array.getElem?_toList,e2] at hr;exact nomatch hr
   ·rw[<- Array.getElem?_toList,e2] at hr
    cases ZK hr
    exact k1 e _ _ h' e3 (.text hb) h1 h2
  ·rcases dG (l:=(pickOrder (w.params.setOrder a ep) es).toList) (i:=i) with ⟨e1,_⟩|⟨e,e2,_⟩
   ·exact k0 e1 h' hk
   ·rw[<- Array.getElem?_toList,e2] at hr;exact nomatch hr
|@tab i slot hb hpl hsl =>
  have hpz:t.place.size=es.size:=by
   have:=hg.fits
   simp only[SetTable.fits,Bool.and_eq_true,beq_iff_eq] at this
   exact this.1
  have hld:(!t.led && !es.isEmpty)=false:=by rw[hg.led.resolve_right (by rw[hb];exact Bool.false_ne_true)];rfl
  refine lx (r:=match es[i]?,t.place[i]? with|some (_,x),some j=>some (x,j+1)|_,_=>none) hh hit ha hg.fits (fun A' Q' E' hq=>?_) (fun x nx hr h' h1 h2=>?_) (fun hr h' hk=>?_)
  ·unfold setNext
   refine ZL (wpAny_setState_of ha rfl hg.fits ?_)
   dsimp only
   unfold setsByText
   refine ZL (ZL (wpAny_askSetting (ZM ?_)))
   show wpAny _ _ (if w.params.followText "set-order"=true then _ else _) _ _ _
   refine aj (by refine aa (hb ..) ?_;exact Bool.false_ne_true) ?_
   show wpAny _ _ (if (!t.plain&&decide (es.size > 1))=true then _ else _) _ _ _
   refine aj (by refine aa (hpl ..) ?_;exact Bool.false_ne_true) ?_
   show wpAny _ _ ((if (!t.led && !es.isEmpty)=true then (unsupported "set:maker-not-led":Sem Unit) else pure ()) >>= _) _ _ _
   rw[if_neg (by rw[hld];exact Bool.false_ne_true),hsl]
   exact ZL (ZM (ZM hq))
  ·rcases dG (l:=es.toList) (i:=i) with ⟨_,e2⟩|⟨e,e2,e3⟩
   ·rw[<- Array.getElem?_toList,e2] at hr;exact nomatch hr
   ·have hi:i<t.place.size:=by refine aa (hpz ..) (aA (Array.length_toList ..) ?_);exact(ZB.mp e2).1
    have hj:=Zt hi
    rw[<- Array.getElem?_toList,e2,hj] at hr
    cases ZK hr
    exact k1 e _ _ h' e3 (.tab hb hpl (kn hg.ris hj rfl)) h1 h2
  ·rcases dG (l:=es.toList) (i:=i) with ⟨e1,_⟩|⟨e,e2,_⟩
   ·exact k0 e1 h' hk
   ·have hi:i<t.place.size:=by refine aa (hpz ..) (aA (Array.length_toList ..) ?_);exact(ZB.mp e2).1
    rw[<- Array.getElem?_toList,e2,Zt hi] at hr;exact nomatch hr
|@drawn i T ys xs hy hx =>
  have hat:∀j:Nat,(xs[j]?).map some=(ys[j]?).map fun k=>es[k]?:=fun j=>by exact aA (List.getElem?_map ..) (aa (hx ..) (aa (List.getElem?_map ..) rfl))
  refine mt hh hit ha hg.fits (hX _ (.head _)) hy (fun k e e1 e2 h' h1 h2=>?_) fun e1 h' hk=>?_
  ·have:=hat i
   rw[e1] at this
   dsimp only[Option.map_some] at this
   rw[e2] at this
   rcases dG (l:=xs) (i:=i) with ⟨_,e3⟩|⟨e',e3,e4⟩
   ·rw[e3] at this;exact nomatch this
   ·rw[e3] at this;cases ZK this
    exact k1 _ _ _ h' e4 (.drawn hy hx) h1 h2
  ·have:=hat i
   rw[e1] at this
   rcases dG (l:=xs) (i:=i) with ⟨e3,_⟩|⟨e',e3,_⟩
   ·exact k0 e3 h' hk
   ·rw[e3] at this;exact nomatch this
theorem qa(S:rD w I a es ep t xs o X):o.cls=.type "set_iterator":=by cases S <;> rfl
end
def aB(w:World)(cs:LI)(o:Obj):Prop:=∃zs,zs.Perm cs/\dw w o zs
def pI(Γo:LO)(p:List Int->Prop)(_:String)(K:OP)(l:KL):Prop:=p (l.map (·.1))/\K Γo/\∀e∈l,e.2 Γo
theorem dh{Γo:LO}{p:List Int->Prop}:tE (pI Γo p) Γo p:=fun O O O h=>h
theorem rP{w:World}{bd I a:Addr}{es:Array (Int×Value)}{ep:Nat}{t:SetTable}{X:AO}{ρ:LQ}{p:Nat}(hp:ρ[p]?=some a)(hX:∀q∈X,q.1≠I)(hg:bT w t es.size){K:OP}(hK:∀l,K l->l[p]?=some (.obj (·=setO es ep t)))(xs:List (Int×Value)):∀(o:Obj),(∀e∈xs,∃u,e.2=.int (numOf e.2) u)->rD w I a es ep t xs o X ->
  aE w 0 bd I (dOf w ρ K) (dL w ρ (xs.map fun e=>(numOf e.2,K))) ((I,o)::X) []:=by
 have at_:∀{on:On w} {hold:AO} {s:Shared} {o:Obj},At on ((I,o)::X) hold s->dOf w ρ K (quiet on.fr hold)->s.heap.get? a=some (setO es ep t):=fun A hD=>by
  obtain⟨l,hKl,hat⟩:=hD.at
  obtain⟨ob,hi,hm⟩:=hat p _ a (hK l hKl) hp
  have e:=hi.objI
  exact e▸(A.ft _ (ZC _ (ag.mp hm).1)).1
 induction xs with
|nil =>
  intro o _ S
  refine aE.nil fun on hold s Q O A O hD k E=>?_
  refine jw S rfl (A.ft (I,o) (.head _)).1 (fun q hq=>(A.ft q (.tail _ (ZD _ hq))).1) (at_ A hD.2) hg (fun O h' hk=>k none X [] hold _ (.still rfl) (A.drop (tk:=s.toks) hX hk) rfl) fun e xs' o' h' e1=>nomatch e1
|cons e xs ih =>
  intro o hx S
  obtain⟨u,hu⟩:=hx e (.head _)
  refine aE.cons (l:=dL w ρ (xs.map fun e=>(numOf e.2,K))) fun on hold s Q O A O hD k E=>?_
  refine jw S rfl (A.ft (I,o) (.head _)).1 (fun q hq=>(A.ft q (.tail _ (ZD _ hq))).1) (at_ A hD.2) hg (fun e1=>nomatch e1) fun e' xs' o' h' e1 S' h1 h2=>?_
  cases e1
  exact k _ ((I,o')::X) [] hold _ (.still rfl) (A.upd (tk:=s.toks) hX h2.extBut h1) ⟨⟨u,by exact aA (hu ..) vS⟩,ih o' (fun e he=>hx e (.tail _ he)) S'⟩
theorem mA{l l':List (Int×Value)}(h:l.Perm l'):(l.map fun e=>numOf e.2).Perm (l'.map fun e=>numOf e.2):=h.map _
theorem nv(w:World){I:Addr}{o:Obj}{X:AO}(ho:o.cls=.type "set_iterator"):bt w "set_iterator" I ((I,o)::X) where
 ty:=⟨_,aI.lookup⟩
 is:=fun s h=>⟨o,h _ (.head _),ho⟩
 self:=fun A s Q E h k=>by
  have hT:s.TypeIs (.ref I) "set_iterator":=⟨o,h _ (.head _),ho⟩
  refine wpAny_pyIter_slot hT dM (wpAny_call_entry dM hT gD ?_ (gX _))
  show wpAny _ _ (ret (.ref I)) _ _ s
  exact ZM ⟨_,rfl,"set_iterator",_,hT,aI.lookup,k⟩
set_option tactic.hygienic true in
theorem dE(w:World){cs:LI}{so:Obj}(hS:aB w cs so)(hc:cs.length<=20)(Γo:LO)(p:Nat)(hp:Γo[p]?=some (.obj (·=so))):pJ w 0 (.ref p) Γo.length (·=Γo) (pI Γo (·.Perm cs)):=by
 intro ρ u hl nd hu on hold s Q _ A _ hD k E
 replace hu:=hu.refI;obtain⟨_,rfl,hu⟩:=hu
 rename_i b
 obtain⟨l,rfl,hat⟩:=hD.at
 obtain⟨o,hi,hm⟩:=hat p _ b hp hu
 have e:=hi.objI
 subst e
 obtain⟨zs,hz,es,ep,t,rfl,hg,hel,ez,hn⟩:=hS
 have ha:=(A.ft _ (ZC _ (ag.mp hm).1)).1
 have hes:es.size<=20:=by rw[<- hz.length_eq,ez] at hc;simpa using hc
 have fin:∀(xs:List (Int×Value)) (I:Addr) (o:Obj) (X:AO) (s':Shared),xs.Perm es.toList->rD w I b es ep t xs o X->(∀q∈X,q.1≠I)->s.heap.objs.size<=I->Mv on [] [] hold hold s s'->At on ((I,o)::X) hold s'->Q (.ref I) s':=fun xs I o X s' hp' S hX hI V A' =>
  k _ _ [] hold s' V A' ⟨"set_iterator",I,I,(·=l),xs.map fun e=>(numOf e.2,(·=l)),hI,rfl,⟨by refine aa (List.map_map ..) ?_;exact(mA hp').trans (by refine aA (ez ..) ?_;exact hz),rfl,fun e he=>by
   obtain⟨_,_,rfl⟩:=Zc.mp he;rfl⟩,nv w (qa S),rP (bd:=I) hu hX hg (K:=(·=l)) (fun l' e=>e▸hp) xs o (fun e he=>by
    obtain⟨t,h1,_⟩:=oQ hel (hp'.mem_iff.mp he)
    exact⟨t,h1⟩) S⟩
 refine ny (zs:=zs) (o:=setO es ep t) ha hg.fits hes ?_ ?_
 ·rintro ys d h' hb hp' rfl
  obtain⟨A1,l1⟩:=A.push (tk:=s.toks) (tupI ys)
  obtain⟨A2,l2⟩:=A1.push (tk:=s.toks) (f8 (.ref s.heap.objs.size) 0 b es.size ep)
  dsimp only at A2 l2
  rw[Heap.size_push] at A2 l2
  have hy:∀k∈ys,k<es.size:=fun k hk=>List.mem_range.mp (hp'.mem_iff.mp hk)
  have e1:(ys.map fun k=>es.toList.getD k (0,.none)).map some=ys.map fun k=>es[k]?:=by
   refine aa (List.map_map ..) ?_
   refine List.map_congr_left fun k hk=>?_
   have:=hy k hk
   simp[this]
  have e2:(ys.map fun k=>es.toList.getD k (0,.none)).Perm es.toList:=by
   refine(hp'.map _).trans (List.Perm.of_eq (List.ext_getElem (by simp) fun i h1 h2=>?_))
   simp at h2
   simp[h2]
  refine fin _ (s.heap.objs.size+1) _ [(s.heap.objs.size,tupI ys)] _ e2 (.drawn (i:=0) hy e1) (fun q hq=>?_) (Nat.le_succ _) ⟨rfl,.refl _ _,fun O h=>(nomatch h),.refl _⟩ ⟨A2.fr,A2.st,A2.top,A2.ft,A2.ap⟩
  refine aa (ZP.mp hq ..) ?_;exact Zb (Nat.lt_succ_self _)
 ·intro hc'
  have A1:=(A.push (tk:=s.toks) (f8 (.int (0:Nat) 0) 0 b es.size ep)).1
  cases hb:w.params.followText "set-order" with
 |true=>exact fin _ _ _ [] _ (mz _ es) (.text (i:=0) hb) (fun O h=>nomatch h) (ZZ _) (.still rfl) A1
 |false =>
   refine fin _ _ _ [] _ (List.Perm.refl _) (.tab (i:=0) (slot:=0) hb (hc'.resolve_left (by refine aa (hb ..) ?_;exact Bool.false_ne_true)) ?_) (fun O h=>nomatch h) (ZZ _) (.still rfl) A1
   obtain⟨_,b2,_⟩:=gG hg.ris 0
   exact(Nat.eq_zero_or_pos _).resolve_right fun q=>absurd (b2 0 q) (Nat.not_lt_zero _)
example:True:=by w_top off;trivial
inductive tF(g:Heap)(L:Addr)(h:Heap)(ρ:LQ)(i:Nat)(P:Obj->Prop):Prop
|mk (a:Addr) (o:Obj) (ha:ρ[i]?=some a) (hP:P o) (hg:h.get? a=some o) (N:News g L h [(a,o)])
section
variable{w:World}
theorem aB.kind{cs:LI}{o:Obj}(h:aB w cs o):o.SetObjOf (intKind PR w) (fun k=>decide (k∈cs)) cs.length:=by
 obtain⟨zs,hp,hg⟩:=h
 have:=hg.kind
 rw[hp.length_eq] at this
 rwa [show (fun k=>decide (k∈zs))=fun k=>decide (k∈cs) from funext fun k=>decide_eq_decide.mpr hp.mem_iff] at this
theorem f9{cs zs:LI}{o:Obj}(h:dw w o zs)(hn:cs.Nodup)(hm:∀x,x∈zs<->x∈cs):aB w cs o :=
 ⟨zs,(List.perm_ext_iff_of_nodup (by obtain⟨_,_,_,_,_,_,_,h9⟩:=h;exact h9) hn).mpr hm,h⟩
variable{κ:CK}{c:Cx w κ}{Γ Γ₁ Γ2:G}{ρ:LQ}{s:Shared}{P:Obj->Prop}{i:Nat}{cs:LI}
theorem eK.know{l:LO}{os:List Obj}{H:AO}(LY:eK c l ρ os H){so:SO}(h:∀o,os[i]?=some o->so.Is w ρ o):eK c (l.set i so) ρ os H :=
 ⟨LY.hl,by refine aa (Zn ..) ?_;exact LY.hg,fun j so' x h1 h2=>by
  rw[List.getElem?_set] at h1
  split at h1
  ·rename_i e
   subst e
   split at h1
   ·obtain rfl:=ZK h1;exact h x h2
   ·exact nomatch h1
  ·exact LY.ho j so' x h1 h2,LY.nd,LY.pre,LY.ap,LY.kp,LY.sh⟩
theorem ad.pin(S:ad c Γ ρ s)(h:Γ.o[i]?=some (.obj P)):∃o,P o/\ad c (Γ.setO i (.obj (·=o))) ρ s:=by
 obtain⟨m,os,H,F,N,hm,LY,hs⟩:=S
 obtain⟨a,o,ha,ho,hi,hmem⟩:=LY.slot h
 have hP:=hi.objI
 exact⟨o,hP,.mk m os H F N hm (LY.know fun o' e=>.obj (ZK (e.symm.trans ho))) hs⟩
theorem Ex.pin{ss:LS}{R:SF->G->Prop}(h:Γ.o[i]?=some (.obj P))(K:∀o,P o->Ex c (Γ.setO i (.obj (·=o))) ss R):Ex c Γ ss R:=fun ρ s Q E hE S k=>by
 obtain⟨o,hP,S'⟩:=S.pin h
 exact K o hP ρ s Q E hE S' k
theorem ad.objAt(S:ad c Γ ρ s)(h:Γ.o[i]?=some (.obj P)):tF c.o.g c.L s.heap ρ i P:=by
 obtain⟨m,os,H,F,N,hm,LY,hs⟩:=S
 obtain⟨a,o,ha,ho,hi,hmem⟩:=LY.slot h
 have hP:=hi.objI
 exact⟨a,o,ha,hP,(N _ hmem).1,fun q hq=>N q (by refine aa (ZP.mp hq ..) ?_;exact hmem)⟩
theorem eO.inS{z:Int}(h:Γ.o[i]?=some (.obj P))(hP:∀o,P o->aB w cs o)(hl:cs.length<=100):eO c Γ .In (.int z) (.ref i) (z∈cs):=fun ρ s Q E x y S hx hy k=>by
 obtain⟨_,rfl⟩:=hx.intI
 obtain⟨a,o,ha,hPo,hg,_⟩:=S.objAt h
 obtain rfl:=hy.refAt ha
 exact wpAny_inSet_of (knd:=intKind PR w) (k:=z) (intKind_is _ _ _ _) vT ((hP o hPo).kind.setOf hg (by unfold scanBound;exact ZX ‹_› (by decide))) (k _ ρ _ (ZN _) (by exact decide_eq_true_iff) (S.toks _))
theorem eO.ninS{z:Int}(h:Γ.o[i]?=some (.obj P))(hP:∀o,P o->aB w cs o)(hl:cs.length<=100):eO c Γ .NotIn (.int z) (.ref i) (z∉cs):=fun ρ s Q E x y S hx hy k=>by
 obtain⟨_,rfl⟩:=hx.intI
 obtain⟨a,o,ha,hPo,hg,_⟩:=S.objAt h
 obtain rfl:=hy.refAt ha
 exact wpAny_notInSet_of (knd:=intKind PR w) (k:=z) (intKind_is _ _ _ _) vT ((hP o hPo).kind.setOf hg (by unfold scanBound;exact ZX ‹_› (by decide))) (k _ ρ _ (ZN _) (by simp) (S.toks _))
theorem ax.lenS(h:Γ.o[i]?=some (.obj P))(hP:∀o,P o->aB w cs o)(hl:cs.length<=100):ax c Γ (.val (.builtin "len")) [.ref i] [] (.int cs.length) Γ:=.one fun ρ s Q E u S hu k=>by
 obtain⟨a,o,ha,hPo,_,N⟩:=S.objAt h
 obtain rfl:=hu.refAt ha
 exact len_sl1 (own:=[]) (rest:=[]) N (hP o hPo).kind (by exact(ai [.m .a .m] (.L (.t .a) .i)) hl) (k _ _ (.int _ _))
theorem ax.maxS{so:Obj}{M:Int}(h:Γ.o[i]?=some (.obj (·=so)))(hS:aB w cs so)(hl:cs.length<=20)(hM:M∈cs)(hM2:∀z∈cs,z<=M)(hlv:Nat.ble 1 κ.lv=true:=by exact vT):ax c Γ (.val (.builtin "max")) [.ref i] [] (.int M) Γ :=
 ax.biI (σ:=[i]) (v:=.ref 0) (K₀:=(·=[.obj (·=so)])) (fun ρ u h1 h2 h3=>(lM (zs:=cs) (dE w hS hl [.obj (·=so)] 0 vS ρ u h1 h2 h3) (fun T K l hO=>⟨fun h hh=>⟨hh.at1 hO.2.1,fun e he=>hh.at1 (hO.2.2 e he)⟩,fun z=>hO.1.mem_iff⟩) (fun e=>by rw[e] at hM;exact nomatch hM)).imp (fun O O h=>h) (fun O r O O hZ ρ=>by
   obtain⟨M',t,e,h4,h5⟩:=hZ
   refine aa (e ..) (aa (show M'=M from Int.le_antisymm (hM2 _ h4) (h5 _ hM)) ?_)
   exact .int _ _)) ⟨[.obj (·=so)],.cons (so:=.obj (·=so)) h .nil,vT,rfl⟩ vT (List.nodup_cons.mpr ⟨(fun h=>nomatch h),List.nodup_nil⟩) (by
    have:=(ZB.mp h).1
    simp[Nat.blt_eq,this]) hlv
end
example:True:=by w_top off;trivial
noncomputable def de(led:Bool):Obj:={ cls:=.type "set",dict:=none,data:=.set #[] 0 (.fresh 0 0 led) }
section
variable{prog:Program}{w:World}{A:Around}{E:VS}{s:Shared}
theorem g5{Q:VS}(h:∀led,led=!w.params.followText "set-order"->Q (.ref s.heap.objs.size) { s with heap:=s.heap.push (de led) }):wpAny (model prog w) A (newSet (.type "set")) Q E s:=by
 unfold newSet setsByText
 refine ZL ?_
 refine ZL (wpAny_askSetting ?_)
 refine ZM ?_
 exact wpAny_newObj_type (h _ rfl) (by first|exact trivial|size_fits|decide)
theorem gZ:checkBuiltinCall "set.__new__" ⟨[.type "set"],[]⟩=pure ():=by first|rfl|kernel_rfl!
theorem gY(a:Value):checkBuiltinCall "set.__new__" ⟨[.type "set",a],[]⟩=pure ():=by first|rfl|kernel_rfl!
theorem gW(rest:LW){Q₁:VS}(hrest:checkBuiltinCall "set.__new__" ⟨.type "set" :: rest,[]⟩=pure ())
  (h:∀led,led=!w.params.followText "set-order"->Q₁ (.ref s.heap.objs.size) { s with heap:=s.heap.push (de led) }) :
  codeAny (model prog w) A (.call (.builtin "set.__new__") ⟨.type "set" :: rest,[]⟩) (wants Q₁ E) s:=by
 refine codeAny_call_builtin F.plain_set_new F.entry_set_new ?_
 refine wpAny_of_eq hrest ?_
 unfold Builtin.«set.__new__» Builtin.Frozenset.newClass
 refine ZL ?_
 show wpAny _ _ (isType (.type "set") >>= _) _ _ _
 refine ZL (wpAny_of_eq (a:=true) rfl ?_)
 refine aj Bool.false_ne_true ?_
 refine ZL (wpAny_of_eq F.called_set.sub ?_)
 refine aj Bool.false_ne_true ?_
 refine ZM ?_
 dsimp only
 refine ZL (g5 fun led hl=>?_)
 exact ZM (h led hl)
theorem nB{n:Nat}{v:Value}{Q:String->Shared->Prop}(ht:s.TypeIs v "set")(h:Q "set" s):wpAny (model prog w) A (typeNameOfCut n v) Q E s:=by
 unfold typeNameOfCut shownTypeOf
 refine ZL (ZL (wpAny_typeOf ht ?_))
 have:(Value.type "set" == Value.type "builtin_function_or_method")=false:=by decide
 simp only[this,Bool.false_eq_true,if_false]
 refine ZM ?_
 exact wpAny_of_eq (a:="set") rfl h
theorem qi:∃c tl,mroOf (.type "set")=pure (c::tl):=F.called_set.mro
end
theorem nc(dp un:Nat)(gd:Option (List Code))(fr:List Env)(rest:LW):∃dp' un',dp'<=dp+3/\un'<=un+60/\(AR dp un gd fr).under (.builtin "type.__call__" ⟨.type "set" :: rest,[]⟩)=AR dp' un' gd fr :=
 ⟨dp+(Code.builtin "type.__call__" ⟨.type "set" :: rest,[]⟩).weight,un+(Code.builtin "type.__call__" ⟨.type "set" :: rest,[]⟩).cUnits,Nat.add_le_add_left (ZJ (by kernel_rfl)) _,Nat.add_le_add_left (ZJ (by kernel_rfl)) _,rfl⟩
section
variable{w:World}{E:VS}{s:Shared}
noncomputable abbrev On.at(o:On w)(dp un:Nat):On w:=⟨o.p,o.loose,o.mean,o.mg,o.mb,dp,un,o.gd,o.fr,o.g,o.X,o.T⟩
theorem iu{o:On w}{args:LW}{Q:VS}(hct:checkTypeCall "set" ⟨args,[]⟩=pure ())(hnew:checkBuiltinCall "set.__new__" ⟨.type "set" :: args,[]⟩=pure ())
  (hchk:∀(A':Around) (E':VS) (s1:Shared) (self:Value) (Q':UQ),s1.TypeIs self "set"->Q' () s1->wpAny (model PR w) A' (checkBuiltinCall "set.__init__" ⟨self::args,[]⟩) Q' E' s1)
  (hk:∀dp' un' led,dp'<=o.dp+3->un'<=o.un+60->led=(!w.params.followText "set-order")->wpAny (model PR w) (o.at dp' un').un1.A (Builtin.«set.__init__» ⟨.ref s.heap.objs.size::args,[]⟩)
   (fun fin s'=>match fin with|.done f=>f=.ret .none/\Q (.ref s.heap.objs.size) s'|.again _=>False) E { s with heap:=s.heap.push (de led) }) :
  wpAny (model PR w) o.A (call (.type "set") args) Q E s:=by
 refine wpAny_call (codeAny_of_tree ?_)
 refine ZM ⟨by kernel_rfl,codeAny_builtin entry_typeCall ?_⟩
 obtain⟨dp',un',b1,b2,eA⟩:=nc o.dp o.un o.gd o.fr args
 refine aa (show o.A=AR o.dp o.un o.gd o.fr from rfl) (aa (eA ..) ?_)
 unfold Builtin.«type.__call__»
 have e1:(Value.type "set" == Value.type "type")=false:=by decide
 simp only[e1,Bool.false_eq_true,if_false]
 have e2:=F.called_set.canCreate
 refine aj (by refine aa (e2 ..) ?_;exact Bool.false_ne_true) ?_
 refine ZL (wpAny_of_eq hct ?_)
 obtain⟨c,tl,e3⟩:=qi
 refine ZL (wpAny_of_eq e3 ?_)
 refine aj (by exact Bool.false_ne_true) ?_
 refine ZL (wpAny_of_eq F.called_set.made ?_)
 dsimp only
 refine ZL (ZM ?_)
 refine ZL (wpAny_holding (wpAny_call (gW args hnew fun led hl=>?_)))
 have hS0:(s.heap.push (de led)).get? s.heap.objs.size=some (de led):=Zu _ rfl
 refine ZL (wpAny_isInstance (T:="set") ⟨_,hS0,rfl⟩ F.called_set.sub ?_)
 refine aj Bool.false_ne_true ?_
 refine ZL (wpAny_holding (wpAny_callSpecial?_slot (T:="set") ⟨_,hS0,rfl⟩ F.slot_set_init (wpAny_call (codeAny_call_builtin F.slot_set_init.plain F.entry_set_init (hchk _ _ _ _ _ ⟨_,hS0,rfl⟩ ?_)))))
 refine wpAny_mono (hk dp' un' led b1 b2 hl) (fun fin s' hf=>?_) fun O O z=>z
 cases fin with
|again _=>exact hf.elim
|done f =>
  obtain⟨rfl,hq⟩:=hf
  dsimp only
  refine aj (by decide) ?_
  exact ZM hq
end
section
variable{w:World}{A:Around}{E:VS}{s:Shared}{h₀:Heap}{L:Addr}{m:OV}{news:AO}
theorem jA{a:Addr}{rest:LW}{led:Bool}{P:PySem.Fin->Shared->Prop}(hr:rest.length<=1)(ha:s.heap.get? a=some (de led))
  (h:wpAny (model PR w) A (match rest with|[it]=>(do Builtin.Frozenset.updateFrom "set.__init__" a it;ret .none:Sem PySem.Fin)|_=>ret .none) P E s):wpAny (model PR w) A (Builtin.«set.__init__» ⟨.ref a::rest,[]⟩) P E s:=by
 unfold Builtin.«set.__init__»
 refine ZL (wpAny_of_eq (a:=()) (by first|rfl|kernel_rfl!) ?_)
 show wpAny _ _ (typeNameOfCut 200 (.ref a) >>= _) _ _ _
 refine ZL (nB ⟨_,ha,rfl⟩ ?_)
 refine ZL (wpAny_of_eq (a:=()) (by unfold checkCount;simp;lia) ?_)
 refine ZL (wpAny_of_eq (a:=a) rfl ?_)
 refine ZL ?_
 unfold setUsed
 refine ZL (wpAny_setState_of ha rfl vT ?_)
 refine ZM ?_
 refine aj (show ¬ (((#[]:Array (Int×Value)),(0:Nat),SetTable.fresh 0 0 led).2.2.fill != 0)=true from Bool.false_ne_true) ?_
 exact h
end
section
variable{w:World}{A:Around}{E:VS}{s:Shared}
theorem im{a:Addr}{zs:LI}{z:Int}{t:Tok}{Q:Bool->Shared->Prop}(hS:m5 w s.heap a zs)(hl:zs.length<4000)
  (k:∀b h' tk zs',Heap.SameBut a s.heap h'->m5 w h' a zs'->(∀x,x∈zs'<->x∈zs\/x=z)->zs'.length<=zs.length+1->Q b { s with heap:=h',toks:=tk }):wpAny (model PR w) A (setAdd a (.int z t)) Q E s:=by
 unfold setAdd
 exact wpAny_holding (ZL ((intKind PR w).pyHash (k:=z) (intKind_is _ _ _ _) (i7 (zs:=zs) hS (by exact ZX ‹_› (by decide)) fun b h' zs'=>k b h' _ zs')))
theorem oK{a:Addr}{zs:LI}{z:Int}{t:Tok}{Q:VS}(hS:m5 w s.heap a zs)(hl:zs.length<4000)
  (k:∀h' tk zs',Heap.SameBut a s.heap h'->m5 w h' a zs'->(∀x,x∈zs'<->x∈zs\/x=z)->zs'.length<=zs.length+1->Q .none { s with heap:=h',toks:=tk }):wpAny (model PR w) A (call (.builtin "set.add") [.ref a,.int z t]) Q E s:=by
 refine wpAny_call (codeAny_call_builtin (by decide +kernel) F.entry_set_add ?_)
 have hT:s.TypeIs (.ref a) "set":=by
  obtain⟨o,ho,es,ep,t,rfl,_⟩:=hS
  exact⟨_,ho,rfl⟩
 refine F.slot_set_add.check _ _ _ _ _ _ _ _ hT (F.args_set_add_2 _ _) ?_
 unfold Builtin.«set.add»
 refine ZL (wpAny_of_eq (a:=(a,Value.int z t)) rfl ?_)
 exact ZL (im hS hl fun b h' tk zs' h1 h2 h3 h4=>ZM (k h' tk zs' h1 h2 h3 h4))
end
theorem kR{cs:LI}(hU:Up cs)(i:Int):(aX cs i).Nodup:=(br i hU).1.imp fun h e=>by rw[e] at h;exact Int.lt_irrefl _ h
section
variable{w:World}{κ:CK}{c:Cx w κ}{Γ Γ₁ Γ2:G}{ρ:LQ}{s:Shared}{i:Nat}{cs:LI}
theorem Ev.setAdd{o e:Expr}{ap pos:Pos}{z:Int}(h:Ev c Γ o (.ref i) Γ₁)(hb:Γ₁.o[i]?=some (.obj (aB w cs)))(ha:Ev c Γ₁ e (.int z) Γ2)(hb2:Γ2.o[i]?=some (.obj (aB w cs)))(hU:Up cs)(hl:cs.length<=100)(hz:Nat.ble κ.nf i=true:=by exact vT)
  (he:∀env,starEach [e] env=(false,eval e env)::starEach [] env:=by intros;rfl) (he0:bF o "add" ap [e] pos:=by intro;rfl):Ev c Γ (.Call (.Attribute o "add" ap) [e] [] pos) (.val .none) (Γ2.setO i (.obj (aB w (aX cs z)))):=fun ρ s Q E S k =>
 MethodCall_ (he:=he0 _) (h ρ s _ E S fun u ρ1 sj1 hp1 q1 Sj1=>by
  obtain⟨a,ob,ha1,hP,hg,_⟩:=Sj1.objAt hb
  obtain rfl:=q1.refAt ha1
  refine getMethod_set_add (hP.kind.setOf hg (by unfold scanBound;exact ZX ‹_› (by decide))) ?_
  refine callWith_method1 (args_cons (ha ρ1 sj1 _ E Sj1 fun ux ρ₂ sj2 hp2 q2 Sj2=>args_nil ?_) (he _)) (he _)
  obtain⟨_,rfl⟩:=q2.intI
  obtain⟨m,os,H,F,N,hm,LY,hs⟩:=Sj2
  obtain⟨a2,ob2,ha2,hob2,hi2,hmem⟩:=LY.slot hb2
  rw[ak hp2 ha1] at ha2;obtain rfl:=ZK ha2
  have hP2:=hi2.objI
  obtain⟨zs,hpm,hg2⟩:=hP2
  refine oK (zs:=zs) ⟨ob2,(N _ hmem).1,hg2⟩ (by refine aa (hpm.length_eq ..) ?_;exact ZX ‹_› (by decide)) fun h' tk zs' h1 ⟨o',h2,h3⟩ h4 _=>?_
  refine k _ ρ₂ _ (hp1.trans hp2) (.val _) (ad.chg F N hm LY hs (ak hp2 ha1) hob2 (ZJ hz) (.obj (f9 h3 (kR hU z) fun x=>?_)) h1.extBut h2)
  rw[h4,(br z hU).2,hpm.mem_iff]
  exact or_comm)
theorem ax.setNew:ax c Γ (.val (.type "set")) [] [] (.ref Γ.o.length) (Γ.addO (.obj (aB w []))):=fun ρ s Q E fv us ks S hf hv hk1 O K=>by
 obtain rfl:=hf.valI
 obtain rfl:=hv.nilI
 obtain rfl:ks=[]:=ZG.mp hk1
 refine iu (o:=c.o) F.typeCall_set_0 gZ (fun O O O O O ht hq=>check_set_init ht hq) fun dp' un' led b1 b2 hl=>?_
 have hS0:(s.heap.push (de led)).get? s.heap.objs.size=some (de led):=Zu _ rfl
 refine jA (by exact Zf _) hS0 (ZM ⟨rfl,?_⟩)
 obtain⟨S',h1,h2⟩:=ad.fresh (G':=s.gens) (tk:=s.toks) (S.lp S.pre) (h:=c.len) (ZZ _) (fun b o e=>ZR _ e) hS0
 have S2:=ad.keep S' (S.rel.heap (s.heap.push (de led)) s.toks) ⟨h1,h2⟩ (so:=.obj (aB w [])) (.obj ⟨[],.nil,.fresh hl⟩)
 exact K _ _ _ (ZO _ _) (.ref (by refine aA (S.len ..) ?_;simp)) S2
end
theorem nC{w:World}{lvl:Nat}{b it D:Addr}(l:LD){D0:DC}{own hold Z:AO}{pg:Gs}{ob:Obj}{zs:LI}{o:On w}{s:Shared}{R:RS}(hi:aE w lvl b it D0 l own pg)(hf:o.Fits (lvl+1))(A:At o ((D,ob)::own) hold s)(hne:∀q∈own,q.1≠D)(hpg:∀q∈pg,s.gens[q.1]?=some q.2)
  (hb:o.g.objs.size<=b) (hS:cG Z D0 l) (hZ:∀q∈Z,q∈quiet o.fr hold) (hl:zs.length+l.length<=1000) (hg:dw w ob zs) (k:∀ob' zs' hold' s',Mv o pg [] hold hold' s s'->At o [(D,ob')] hold' s'->dw w ob' zs'->(∀x,x∈zs'<->x∈zs\/x∈l.map (·.1))->R (.ok (.ret .none)) s'):codeAny (model PR w) o.A (.builtin "set.update.loop" ⟨[.ref D,.ref it],[]⟩) R s:=by
 refine rx (α:=List Int) (St:=fun n ys ac=>∃ob zs',ac=[(D,ob)]/\dw w ob zs'/\(∀x,x∈zs'<->x∈zs\/x∈ys)/\zs'.length+n<=1000) (f:=fun ys z=>ys++[z]) (Next:=fun o R ys r s'=>wpAny (model PR w) o.un1.A _ (pM o R) (fun e s'=>R (.error e) s') s')
  (fun o R s Q n a ac rest O O O hQ h=>fW PyProof.Rows.F.entry_set_update_loop PyProof.Rows.F.plain_set_update_loop (K:=fun r=>match r with|some x=>holding [x] (setAdd D x) >>= fun O=>again (.builtin "set.update.loop" ⟨[.ref D,.ref it],[]⟩)|_=>ret .none) rfl hQ h) ?_ l D0 own pg [] _ hold Z o s R hi hf A (fun q hq y hy e=>hne y hy (by exact aA (e ..) (aa (ZP.mp hq ..) rfl))) hpg hb hS hZ ⟨ob,zs,rfl,hg,fun x=>by simp,by simpa using hl⟩ ?_
 ·rintro o R s n ys z t _ own hold hf ⟨ob,zs',rfl,hg,hm,hn⟩ A hao k
  refine ZL (wpAny_holding (im (zs:=zs') ⟨ob,(A.ft (D,ob) (.head _)).1,hg⟩ (by exact(ah [.m (.p .a (.p .b .u)) .q] (.l .a (.n 4000))) hn) fun b h' tk zs2 h1 ⟨ob2,h2,h3⟩ h4 h5=>?_))
  have hne:∀q∈own,q.1≠D:=fun q hq e=>hao _ (.head _) q hq e.symm
  refine ZM ⟨plainId_quiet PyProof.Rows.F.plain_set_update_loop _,k [(D,ob2)] h' tk ⟨ob2,zs2,rfl,h3,fun x=>?_,by exact(av [.m (.p .a (.p .b .u)) .q,.m .c (.p .a .u)] (.m (.p .c .b) .q)) hn h5⟩ (A.upd hne h1.extBut h2) fun q hq y hy=>by refine aa (ZP.mp hq ..) ?_;exact(hne y hy).symm⟩
  rw[h4,hm,ZS,ZP,or_assoc]
 ·rintro ac' hold' s' V A' ⟨ob',zs',rfl,hg',hm,_⟩
  refine ZM (k ob' zs' hold' s' V A' hg' fun x=>?_)
  have e:∀(l:LD) (a:LI),l.foldl (fun a e=>a++[e.1]) a=a++l.map (·.1):=by
   intro l
   induction l with
  |nil=>intro a;simp
  |cons e l ih=>intro a;refine aa (List.foldl_cons ..) (aa (ih ..) ?_);simp
  rw[hm,e,List.nil_append]
def sW(w:World)(u:Value)(A:Around)(Q:VS)(s:Shared):Prop:=∀E:VS,wpAny (model PR w) A (call (.type "set") [u]) Q E s
theorem qe(w:World){fs:LI}{ρ:LQ}{a:Addr}(ha:ρ[0]?=some a)(hl:fs.length<=1000):bI w 5 (sW w (.ref a)) [] [] (fun O=>dOf w ρ (·=[.nums fs])) (fun O r own O=>∃D ob zs,r=.ref D/\own=[(D,ob)]/\dw w ob zs/\∀x,x∈zs<->x∈fs):=by
 intro o hold s Q hfit A hpg hD k E
 have atL:∃vs n,(a,listOf vs.toArray n)∈quiet o.fr hold/\IntsAre vs fs:=by
  obtain⟨l,rfl,hat⟩:=hD.at
  obtain⟨ob,hi,hm⟩:=hat 0 _ a vS ha
  obtain⟨_,_,rfl,hI⟩:=hi.numsI;exact⟨_,_,hm,hI⟩
 obtain⟨vs,n,hm,hI⟩:=atL
 refine iu (F.typeCall_set_1 _) (gY _) (fun O O O O O ht hq=>check_set_init_1 ht hq) fun dp' un' led b1 b2 hl9=>?_
 have hS0:(s.heap.push (de led)).get? s.heap.objs.size=some (de led):=Zu _ rfl
 refine jA (by exact Nat.lt_succ_self _) hS0 ?_
 dsimp only
 obtain⟨A1,lt⟩:=A.push (tk:=s.toks) (de led)
 generalize s.heap.push (de led)=h1 at hS0 A1
 generalize s.heap.objs.size=D at *
 have hl1:h1.IsList a vs.toArray:=aK (A1.ft _ (ZC _ (ag.mp hm).1)).1
 have hT:({ s with heap:=h1 }:Shared).TypeIs (.ref a) "list":=hl1.typeIs
 refine ZL ?_
 unfold Builtin.Frozenset.updateFrom Builtin.Frozenset.isAnySet
 refine ZL ?_
 unfold orM
 refine ZL (wpAny_isInstance (T:="list") (b:=false) hT (by first|rfl|kernel_rfl!) ?_)
 show wpAny _ _ (PySem.isInstance (.ref a) (.type "frozenset")) _ _ _
 refine wpAny_isInstance (T:="list") (b:=false) hT (by first|rfl|kernel_rfl!) ?_
 refine aj Bool.false_ne_true ?_
 refine ZL (wpAny_typeOf hT ?_)
 refine aj (by decide) ?_
 have hfit':(o.at dp' un').un1.Fits 1:=⟨by have:=hfit.d;show dp'+1<=500;exact(ah [.m .a (.p .b .w),.m (.p .b (.n 5)) .l] (.m (.p .a .u) .l)) b1 this,by have:=hfit.u;show un'+1+50<=9000;exact(ah [.m .a (.p .b (.n 60)),.m (.p .b (.k 50 (.n 5))) .G] (.m (.p (.p .a .u) (.n 50)) .G)) b2 this⟩
 have D2:dOf w ρ (·=[.nums fs]) (quiet o.fr ((D,de led)::hold)):=hD.mono fun q hq=>ag.mpr ⟨.tail _ (ag.mp hq).1,(ag.mp hq).2⟩
 have nd0:(o.at dp' un').un1.g=o.g:=rfl
 refine ZL (wpAny_pyIter_list hl1 ?_)
 have ltI:∀q∈(D,de led)::[]++hold,q.1<h1.objs.size:=fun q hq=>Zg (A1.ft q hq).1
 obtain⟨A2,lt2⟩:=A1.push (tk:=s.toks) (rY a 0)
 have hLI:tR (rY a 0) a 0:=⟨rfl,rfl⟩
 dsimp only at A2 lt2
 have hneI:D≠h1.objs.size:=Zb (ltI (D,de led) (.head _))
 have A3:At (o.at dp' un').un1 ((D,de led)::[(h1.objs.size,rY a 0)]) hold { s with heap:=h1.push (rY a 0),toks:=s.toks }:=⟨A2.fr,A2.st,A2.top,fun q hq=>A2.ft q (by
  rcases ZT.mp hq with rfl|hq
  ·exact .tail _ (.head _)
  rcases ZT.mp hq with rfl|hq
  ·exact .head _
  ·exact .tail _ (.tail _ hq)),fun q hq z hz=>A2.ap q (by
  rcases ZT.mp hq with rfl|hq
  ·exact .tail _ (.head _)
  ·refine aa (ZP.mp hq ..) ?_;exact .head _) z hz⟩
 obtain⟨l9,os,e9,h6,h7,h8,h9⟩:=hD
 subst e9
 refine ZL (wpAny_runValue (nC (b:=h1.objs.size) (lvl:=0) (D0:=dOf w ρ (KT 0 fs.length 0 fs)) (dL w ρ (oy 0 fs.length 0 fs)) (oh w _ _ a ρ 0 ha fs.length fs 0 _ (Nat.zero_add _) hLI) hfit' A3 (fun q hq=>by refine aa (ZP.mp hq ..) ?_;exact hneI.symm) (fun O h=>nomatch h) (A1.sz) (Z:=ρ.zip os) (fun h hh=>?_) (fun q hq=>h9 q hq) ?_ (.fresh hl9) fun ob' zs' hold' s' V A' hg hz=>?_))
 ·have:=cR (Γo:=[.nums fs]) (p:=0) vS "list_iterator" _ _ ⟨rfl,rfl,rfl⟩
  have hd9:dOf w ρ (·=[.nums fs]) h:=⟨_,os,rfl,h6,h7,h8,hh⟩
  exact⟨hd9.at1 this.2.1,fun e he=>by
   obtain⟨x,hx,rfl⟩:=Zc.mp he
   exact hd9.at1 (this.2.2 x hx)⟩
 ·obtain⟨f1,f2⟩:=dF (w:=w) (ρ:=ρ) (iZ 0 fs.length fs 0)
  refine aa (f2 ..) ?_;simpa using hl
 ·obtain⟨f1,f2⟩:=dF (w:=w) (ρ:=ρ) (iZ 0 fs.length fs 0)
  refine ZM (ZM ⟨rfl,k _ _ [] hold' s' ⟨V.eq,V.gm,V.pi,V.kp⟩ ⟨A'.fr,A'.st,A'.top,A'.ft,A'.ap⟩ ⟨D,ob',zs',rfl,rfl,hg,fun x=>?_⟩⟩)
  rw[hz,f1];simp
section
variable{w:World}{κ:CK}{c:Cx w κ}{Γ Γ₁ Γ2:G}{lvl:Nat}{σ:LN}
theorem ax.mkI{f:Value}{v:SV}{K₀:OP}{so:SO}{Xc:Value->Around->(VS)->Shared->Prop}(hX:∀u A Q s,Xc u A Q s->∀E,wpAny (model PR w) A (call f [u]) Q E s)(C:∀ρ u,ρ.length=σ.length->ρ.Nodup->v.Is ρ u->bI w lvl (Xc u) [] [] (fun O=>dOf w ρ K₀) (fun O x own O=>∃D o,x=.ref D/\own=[(D,o)]/\∀ρ,so.Is w ρ o))(M0:Meets Γ σ K₀)
  (hv:v.fit σ.length=true:=by exact vT) (nd:σ.Nodup:=by decide) (hσ:(σ.all fun i=>Nat.blt i Γ.o.length)=true:=by exact vT) (hlv:Nat.ble lvl κ.lv=true:=by exact vT):ax c Γ (.val f) [v.ren σ] [] (.ref Γ.o.length) (Γ.addO so):=fun ρ s Q E fv us ks S hfv hus hks hkv KK=>by
 obtain rfl:=hfv.valI
 obtain rfl:ks=[]:=ZG.mp hks
 obtain⟨_,_,rfl,h1,t⟩:=hus.consI
 obtain rfl:=t.nilI
 obtain⟨ρc,n2,p2,ndc⟩:=ed S hσ
 have Sj0:ad (c.lp c.ρ0 (ZN _) c.len [] s) Γ ρ s:=S.lp S.pre
 refine hX _ _ _ _ (Sj0.act (fun O h=>nomatch h) (C ρc _ n2 (ndc nd) (h1.pick p2 hv)) (fun os hold h1 h2 h3 h4=>M0.dOf n2 p2 h1 h2 h3 h4) (ZJ hlv) (fun O h=>nomatch h) (fun x own pg sj2 V hr ho Sj2=>?_)) E
 obtain⟨D,o,rfl,rfl,hso⟩:=hr
 have rel:=S.rel.step V fun O h=>nomatch h
 exact KK _ _ sj2 (ZO _ _) (.ref (by refine aA (S.len ..) ?_;simp)) (Sj2.keep rel (ho _ (.head _)) (hso _))
theorem ax.setL{i:Nat}{fs:LI}(h:Γ.o[i]?=some (.nums fs))(hn:fs.Nodup)(hl:fs.length<=1000)(hlv:Nat.ble 5 κ.lv=true:=by exact vT):ax c Γ (.val (.type "set")) [.ref i] [] (.ref Γ.o.length) (Γ.addO (.obj (aB w fs))) :=
 ax.mkI (σ:=[i]) (v:=.ref 0) (K₀:=(·=[.nums fs])) (Xc:=sW w) (fun O O O O h=>h) (fun ρ u h1 h2 h3=>by
  replace h3:=h3.refI;obtain⟨_,rfl,h3⟩:=h3
  exact(qe w h3 hl).imp (fun O O h=>h) fun O x own O hZ16=>by obtain⟨D,ob,zs,e1,e2,hg,hz⟩:=hZ16;exact⟨D,ob,e1,e2,fun ρ=>.obj (f9 hg hn hz)⟩) ⟨[.nums fs],.cons (so:=.nums fs) h .nil,vT,rfl⟩ vT (List.nodup_cons.mpr ⟨(fun h=>nomatch h),List.nodup_nil⟩) (by
   have:=(ZB.mp h).1
   simp[Nat.blt_eq,this]) hlv
end
example:True:=by w_top off;trivial
theorem nE{w:World}{A:Around}{s:Shared}{E:VS}{v:Value}{Q:Bool->Shared->Prop}(ht:s.TypeIs v "set")(h:Q false s):wpAny (model PR w) A (Builtin.List.listLengthHint v) Q E s:=by
 unfold Builtin.List.listLengthHint
 refine ZL (wpAny_specialOf (T:="set") (r:=some (.builtin "set.__len__")) ht (by first|rfl|kernel_rfl!) ?_)
 have e:splitId "set.__len__"=some ("set","__len__"):=by kernel_rfl!
 simp -zeta -zetaHave only[e]
 show wpAny _ _ (PySem.isInstance v (.type "set") >>= _) _ _ _
 refine ZL (wpAny_isInstance (T:="set") ht F.called_set.sub ?_)
 show wpAny _ _ (typeOf v >>= _) _ _ _
 refine ZL (wpAny_typeOf ht ?_)
 exact ZM h
theorem dOf.one{w:World}{ρ:LQ}{a:Addr}{so:Obj}{h:AO}(ha:ρ[0]?=some a)(hρ:ρ.length=1)(hm:(a,so)∈h):dOf w ρ (·=[.obj (·=so)]) h:=by
 obtain⟨x,rfl⟩:=List.length_eq_one_iff.mp hρ
 obtain rfl:x=a:=ZK ha
 refine⟨[.obj (·=so)],[so],rfl,rfl,rfl,fun i so' o' e1 e2=>?_,fun q hq=>by refine aa (ZP.mp hq ..) ?_;exact hm⟩
 cases i with
|zero=>obtain rfl:=ZK e1;obtain rfl:=ZK e2;exact .obj rfl
|succ i=>exact nomatch e1
def tx(w:World)(u:Value)(A:Around)(Q:VS)(s:Shared):Prop:=∀R:Result->Shared->Prop,(∀r s',Q r s'->R (.ok (.ret r)) s')->codeAny (model PR w) A (.builtin "proto.collect" ⟨[u],[]⟩) R s
theorem pe(w:World){cs:LI}{so:Obj}(hS:aB w cs so)(hc:cs.length<=20){ρ:LQ}{a:Addr}(ha:ρ[0]?=some a)(hρ:ρ.length=1)(nd:ρ.Nodup):bI w 2 (tx w (.ref a)) [] [] (fun O=>dOf w ρ (·=[.obj (·=so)])) (fun O r own O=>∃D vs c ns,r=.ref D/\own=[(D,listOf vs.toArray c)]/\IntsAre vs ns/\ns.Perm cs):=by
 intro o hold s Q hfit A hpg hD k R hR
 have atS:(a,so)∈quiet o.fr hold:=by
  obtain⟨l,rfl,hat⟩:=hD.at
  obtain⟨ob,hi,hm⟩:=hat 0 _ a vS ha
  have e:=hi.objI;exact e▸hm
 have tyS:∀s':Shared,s'.heap.get? a=some so->s'.TypeIs (.ref a) "set":=fun s' e=>by
  obtain⟨zs,_,es,ep,t,rfl,_⟩:=hS
  exact⟨_,e,rfl⟩
 refine codeAny_builtin PySem.F.entry_proto_collect ?_
 refine aa (Around.under_plainId PySem.F.plain_proto_collect _ ..) ?_
 show wpAny _ o.un1.A (newList [] >>= fun l=>again (.builtin "list.__iadd__" ⟨[l,.ref a],[]⟩)) _ _ _
 refine ZL (wpAny_newObj_type (data:=.seq #[] 0) ?_ (by first|trivial|size_fits|decide))
 obtain⟨A1,lt⟩:=A.push (tk:=s.toks) (listOf #[] 0)
 generalize s.heap.push (listOf #[] 0)=h1 at *
 generalize s.heap.objs.size=S at *
 have lta:=lt (a,so) (ZC _ (ag.mp atS).1)
 refine ZM ⟨by kernel_rfl,codeAny_builtin PySem.F.entry_list_iadd ?_⟩
 refine aa (Around.under_plainId (by decide +kernel) _ ..) ?_
 show wpAny _ o.un1.A (slotArgs "__iadd__" 1 ⟨[.ref S,.ref a],[]⟩ >>= _) _ _ _
 refine ZL (wpAny_of_eq (a:=(Value.ref S,[Value.ref a])) (by first|rfl|kernel_rfl!) ?_)
 refine l4 A1 (fun b e e2=>by cases e;exact absurd e2 (Zb lta)) (fun A' s' Q' E' hh hQ=>wpAny_typeOf (tyS s' (hh _ (ZC _ (ag.mp atS).1))) (hQ _ (by decide) (by decide))) fun E'=>?_
 have A2:At o.un1 [] ((S,listOf #[] 0)::hold) { s with heap:=h1,toks:=s.toks }:=(A1.give (a:=[]) (b:=[(S,listOf #[] 0)]) (fun O h=>nomatch h) (fun q hq=>hq) fun O h=>nomatch h).to1
 have hD2:dOf w ρ (·=[.obj (·=so)]) (quiet o.fr ((S,listOf #[] 0)::hold)):=hD.mono fun q hq=>ag.mpr ⟨.tail _ (ag.mp hq).1,(ag.mp hq).2⟩
 refine dE w hS hc [.obj (·=so)] 0 vS ρ (.ref a) hρ nd (.ref ha) o.un1 _ _ _ ⟨by have:=hfit.d;show o.dp+0<=500;exact(ai [.m (.p .a (.n 2)) .l] (.m (.p .a .o) .l)) this,by have:=hfit.u;show o.un+1+50*0<=9000;exact(ai [.m (.p .a (.k 50 (.n 2))) .G] (.m (.p (.p .a .u) (.k 50 .o)) .G)) this⟩ A2 (fun O h=>nomatch h) hD2 (fun r own pg H s' V A3 hP=>?_) E'
 obtain⟨T,b,I,K,l,hb,rfl,⟨hp,hKΓ,hlΓ⟩,hself,hi⟩:=hP
 obtain⟨hold',rfl,V',A4,hao⟩:=A1.back (b:=[(S,listOf #[] 0)]) (fun q hq=>hq) V.of1 A3.of1
 have atS':(a,so)∈quiet o.fr hold':=aY V'.kp atS
 refine nE (tyS s' (A4.ft _ (ZC _ (ag.mp atS').1)).1) ⟨own,hold',0,A4,fun q hq e=>hao _ (.head _) q hq e.symm,fun c' h' A5=>?_⟩
 have steady:cG [(a,so)] (dOf w ρ K) (dL w ρ l):=fun h hh=>by
  have hd:=dOf.one (w:=w) ha hρ (hh _ (.head _))
  exact⟨hd.at1 hKΓ,fun e he=>by
   obtain⟨y,hy,rfl⟩:=Zc.mp he
   exact hd.at1 (hlΓ y hy)⟩
 have e1:(dL w ρ l).map (·.1)=l.map (·.1):=List.map_map
 have e2:l.length<=20:=by have:=hp.length_eq;rw[Zm] at this;exact(ah [.m .a .x,.e .b .a] (.m .b .x)) hc this
 have hpg':∀q∈pg,s'.gens[q.1]?=some q.2:=fun q hq=>(V'.pi q hq).1
 refine eX (dL w ρ l) hi ⟨by have:=hfit.d;show o.dp+1<=500;exact Zr ‹_›,by have:=hfit.u;show o.un+50*1<=9000;exact(ai [.m (.p .a (.k 50 (.n 2))) .G] (.m (.p .a (.k 50 .u)) .G)) this⟩ A5 (fun q hq e=>hao _ (.head _) q hq e.symm) hpg' (ZW A1.sz hb) steady (fun q hq=>by refine aa (ZP.mp hq ..) ?_;exact atS') (by refine aa (Zm ..) ?_;exact ZW ‹_› (by decide)) fun vs c2 hold2 s2 V2 A6 hI=>?_
 rw[e1] at hI
 have W:=V'.trans ((Mv.still2 hpg').trans V2)
 exact hR _ _ (k _ _ [] hold2 s2 ⟨W.eq,W.gm,fun O h=>(nomatch h),W.kp⟩ A6 ⟨S,vs,c2,_,rfl,rfl,hI,hp⟩)
theorem kD(w:World){cs:LI}{so:Obj}(hS:aB w cs so)(hc:cs.length<=20)(hU:cs.Pairwise (· <= ·)){ρ:LQ}{a:Addr}(ha:ρ[0]?=some a)(hρ:ρ.length=1)(nd:ρ.Nodup):bI w 3 (rC w "sorted" [.ref a]) [] [] (fun O=>dOf w ρ (·=[.obj (·=so)])) (fun O r own O=>∃D vs c,r=.ref D/\own=[(D,listOf vs.toArray c)]/\IntsAre vs cs):=by
 intro o hold s Q hfit A hpg hD k E
 refine Calls.call_function_entry kind_sorted plain_sorted entry_sorted (args_sorted1 _) ?_
 unfold Builtin.«sorted»
 refine ZL (m:=checkCount "sorted" 1 1 _) (ZM ?_)
 refine ZL ?_
 unfold collect
 refine ZL (wpAny_runValue (pe w hS hc ha hρ nd o.un1 hold s _ hfit.un1 A.to1 (fun O h=>nomatch h) hD (fun r own pg hold2 s2 V A6 hP=>?_) _ fun O O h=>h))
 obtain⟨S,vs,c2,ns,rfl,rfl,hI,hp⟩:=hP
 have A6:=A6.of1
 show wpAny _ _ (load S >>= _) _ _ _
 refine ZL (wpAny_load (A6.ft _ (.head _)).1 (ZM ?_))
 have hvl:=hI.length
 have hnl:=hp.length_eq
 refine ZL (wpAny_newList (hsz:=by simp[sizeLine];exact(av [.m .a .x,.e .b .c,.e .c .a] (.m .b (.n 16777216))) hc hvl hnl) ?_)
 obtain⟨A7,lt7⟩:=A6.push (tk:=s2.toks) (listOf vs.toArray 0)
 dsimp only at A7 lt7 ⊢
 have hz:=(A7.ft _ (.head _)).1
 refine ZL (wpAny_holding (wpAny_call_entry slot_list_sort ⟨_,hz,rfl⟩ entry_list_sort (list_sort_tree hz hI (by exact(av [.m .a .x,.e .b .c,.e .c .a] (.l .b (.n 64))) hc hvl hnl) fun out ns' a1 a2 a3=>⟨_,rfl,?_⟩) (args_list_sort _)))
 obtain⟨e,he⟩:=sortedHeap_at (out:=out) hz
 obtain rfl:ns'=cs:=(a2.trans hp).eq_of_pairwise (fun O O O O=>Int.le_antisymm) a3 hU
 have A8:=A7.upd (tk:=s2.toks) (fun q hq=>Zb (lt7 q (ZD _ hq))) (fun b o hb e=>(sortedHeap_old hb (Zg e)).trans e) he
 have V:=V.of1
 have W:∀h' tk,Mv o [] [] hold hold2 s { s2 with heap:=h',toks:=tk }:=fun h' tk =>
  have x:=V.trans (Mv.still2 (h':=h') (tk:=tk) fun q hq=>(V.pi q hq).1)
  ⟨x.eq,x.gm,fun O h=>(nomatch h),x.kp⟩
 exact ZM ⟨_,rfl,k _ _ [] hold2 _ (W _ _) (A8.sub fun q hq=>by rw[ZP.mp hq];exact .head _) ⟨_,out.toList,e,rfl,by simp,a1⟩⟩
section
variable{w:World}{κ:CK}{c:Cx w κ}{Γ:G}
theorem ax.sortedS{i:Nat}{cs:LI}{so:Obj}(h:Γ.o[i]?=some (.obj (·=so)))(hS:aB w cs so)(hc:cs.length<=20)(hU:cs.Pairwise (· <= ·))(hlv:Nat.ble 3 κ.lv=true:=by exact vT):ax c Γ (.val (.builtin "sorted")) [.ref i] [] (.ref Γ.o.length) (Γ.addO (.nums cs)) :=
 ax.mkI (σ:=[i]) (v:=.ref 0) (K₀:=(·=[.obj (·=so)])) (Xc:=fun u=>rC w "sorted" [u]) (fun O O O O h=>h) (fun ρ u h1 h2 h3=>by
  replace h3:=h3.refI;obtain⟨_,rfl,h3⟩:=h3
  exact(kD w hS hc hU h3 h1 h2).imp (fun O O h=>h) fun O x own O hZ17=>by obtain⟨D,vs,c,e1,e2,hI⟩:=hZ17;exact⟨D,_,e1,e2,fun ρ=>.nums hI⟩) ⟨[.obj (·=so)],.cons (so:=.obj (·=so)) h .nil,vT,rfl⟩ vT (List.nodup_cons.mpr ⟨(fun h=>nomatch h),List.nodup_nil⟩) (by
   have:=(ZB.mp h).1
   simp[Nat.blt_eq,this]) hlv
end
example:True:=by w_top off;trivial
section
variable{w:World}{κ:CK}{n₁:Nat}{c:Cx w κ}{Γ:G}{ρ ρ1:LQ}{s sj1:Shared}{hp:c.ρ0<+:ρ1}{h:ρ1.length=n₁}{own:AO}
theorem ad.ownSet{a:Addr}{x x':Obj}(S:ad (c.lp ρ1 hp h (own++[(a,x)]) sj1) Γ ρ s)(ho:∀q∈own++[(a,x)],q.1∉aZ c.o.fr/\∀z∈c.hold,q.1≠z.1)(hne:∀q∈own,q.1≠a){h':Heap}{tk:Tok}(hk:Heap.ExtBut a s.heap h')(e:h'.get? a=some x') :
  ad (c.lp ρ1 hp h (own++[(a,x')]) { s with heap:=h',toks:=tk }) Γ ρ { s with heap:=h',toks:=tk }:=by
 obtain⟨m,os,H,F,N,hm,LY,hs⟩:=S
 obtain⟨o',Hc,rfl,k1,k2⟩:=aw.split LY.kp
 have e1:=k1.off fun q hq=>(ho q hq).1
 subst e1
 have ha:(a,x)∈own++[(a,x)]:=ZC _ (.head _)
 have zA:=N (a,x) (ZC _ (ZD _ ha))
 obtain⟨oL,eL,nL⟩:=cq F.ns
 have F':Fr c.o.g c.L h' m:=⟨nL _ (hk _ _ (fun e=>zA.2.1 e.symm) eL),fun b o eb=>hk b o (fun e2=>by
  have h9:c.o.g.get? a=none:=zA.2.2
  have h8:c.o.g.get? b=some o:=eb
  rw[e2,h9] at h8;exact nomatch h8) (F.keep b o eb),F.above⟩
 have hcA:∀z∈Hc,z.1≠a:=fun z hz e2=>by
  obtain⟨y,hy,ey⟩:=i9 k2 hz
  exact(ho _ ha).2 y hy (e2.symm.trans ey.symm)
 have old:∀q∈aS ρ os ((own++[(a,x)])++Hc),q.1≠a->h'.get? q.1=some q.2/\q.1≠c.L/\c.o.g.get? q.1=none:=fun q hq hn=>⟨hk _ _ hn (N q hq).1,(N q hq).2⟩
 have rA:∀q∈ρ.zip os,q.1≠a:=fun q hq e2=>by
  obtain⟨i,hi,e9⟩:=ZF.mp (Zz hq).1
  rcases Zq i κ.nf with h9|h9
  ·have:=LY.sh i _ _ h9 (ZA hi) (ZA (h:=LY.hl▸hi))
   exact(ho _ ha).2 _ (c.hsh _ this).1 (by show a=ρ[i];exact aa (e9 ..) (aa (e2 ..) rfl))
  ·exact LY.ap (a,x) (ZD _ ha) (bD (by exact aa (ZA hi ..) (aa (e9 ..) (aa (e2 ..) vS))) h9)
 refine .mk m os ((own++[(a,x')])++Hc) F' (fun q hq=>?_) hm ⟨LY.hl,LY.hg,LY.ho,LY.nd,LY.pre,fun q hq=>?_,k2.app _,LY.sh⟩ ⟨rfl,.refl _ _⟩
 ·simp only[ZS,ZP] at hq
  rcases hq with hq|(hq|rfl)|hq
  ·exact old q (ZD _ hq) (rA q hq)
  ·exact old q (ZC _ (ZD _ (ZD _ hq))) (hne q hq)
  ·exact⟨e,zA.2⟩
  ·exact old q (ZC _ (ZC _ hq)) (hcA q hq)
 ·simp only[ZS,ZP] at hq
  rcases hq with (hq|rfl)|hq
  ·exact LY.ap q (ZD _ (ZD _ hq))
  ·exact LY.ap (a,x) (ZD _ ha)
  ·exact LY.ap q (ZC _ hq)
end
def pT(w:World)(b:Bool)(ys:LI)(o:Obj):Prop:=if b then ∃zs,dw w o zs/\(∀x,x∈zs<->x∈ys)/\zs.length<=ys.length else ∃vs c,o=listOf vs.toArray c/\IntsAre vs ys
noncomputable def md(b:Bool)(elt:Expr)(x:Str)(px:Pos)(iter:Expr)(ifs:List Expr)(scope:Scope)(pos:Pos):Expr:=if b then .SetComp elt [⟨.Name x px,iter,ifs,0⟩] scope pos else .ListComp elt [⟨.Name x px,iter,ifs,0⟩] scope pos
section
variable{w:World}{A:Around}{E:VS}{s:Shared}
theorem pF{b:Bool}{D:Addr}{oD:Obj}{ys:LI}{z:Int}{t:Tok}{elt:Expr}{Q:UQ}(hg:s.heap.get? D=some oD)(hA:pT w b ys oD)(hl:ys.length<=500)
  (k:∀h' tk oD',Heap.ExtBut D s.heap h'->h'.get? D=some oD'->pT w b (ys++[z]) oD'->Q () { s with heap:=h',toks:=tk }) :
  wpAny (model PR w) A (if b then (do standAt elt.pos;let _ <- call (.builtin "set.add") [.ref D,.int z t];pure ()) else (do let _ <- call (.builtin "list.append") [.ref D,.int z t];pure ()):Sem Unit) Q E s:=by
 cases b with
|true =>
  obtain⟨zs,h1,h2,h3⟩:=hA
  refine ZL (wpAny_standAt (ZL (oK (zs:=zs) ⟨oD,hg,h1⟩ (by exact(ah [.m .a .l,.m .b .a] (.l .b (.n 4000))) hl h3) fun h' tk zs' e1 ⟨o',e2,e3⟩ e4 e5=>ZM (k h' tk o' e1.extBut e2 ⟨zs',e3,fun x=>?_,by simp;exact(av [.m .a .b,.m .c (.p .a .u)] (.m .c (.p .b .u))) h3 e5⟩))))
  rw[e4,h2];simp
|false =>
  obtain⟨vs,c,rfl,hI⟩:=hA
  have:=hI.length
  exact ZL (append_at (hsz:=by simp[sizeLine];exact(ah [.m .a .l,.e .b .a] (.m .b (.n 16777216))) hl this) hg fun h' e1 e2=>ZM (k h' s.toks _ e1.extBut e2 ⟨vs++[.int z t],c+1,by simp,hI.append (.cons _ _ .nil)⟩))
end
theorem fz{b:Bool}{elt:Expr}{x:Str}{px:Pos}{iter:Expr}{ifs:List Expr}{scope:Scope}{pos:Pos}{it acc:Value}{env:Env}:compTurn (md b elt x px iter ifs scope pos) 0 it acc env=(do
  standAt iter.pos
  match <- pyNext it with
 |none=>pure (.done .next)
 |some v =>
   letOwnedTupleGo (.Name x px) it v
   assign (.Name x px) env v
   let ok <- forIn ifs true fun e r=>if r=true then do let ok <- isTrue e env (eval e env);pure (ForInStep.yield ok) else pure (ForInStep.yield r)
   if ok then
    (if b then (do let v <- eval elt env;standAt elt.pos;let _ <- call (.builtin "set.add") [acc,v];pure ()) else (do let v <- eval elt env;let _ <- call (.builtin "list.append") [acc,v];pure ()):Sem Unit)
    again (.compLoop (md b elt x px iter ifs scope pos) 0 it acc env)
   else again (.compLoop (md b elt x px iter ifs scope pos) 0 it acc env)):=by
 cases b <;> rfl
theorem qQ{w:World}{A:Around}{E:VS}{s:Shared}{b:Bool}{D:Addr}{elt:Expr}{env:Env}{Q:UQ}(h:wpAny (model PR w) A (eval elt env) (fun v s'=>wpAny (model PR w) A (if b then (do standAt elt.pos;let _ <- call (.builtin "set.add") [.ref D,v];pure ()) else (do let _ <- call (.builtin "list.append") [.ref D,v];pure ()):Sem Unit) Q E s') E s) :
  wpAny (model PR w) A (if b then (do let v <- eval elt env;standAt elt.pos;let _ <- call (.builtin "set.add") [.ref D,v];pure ()) else (do let v <- eval elt env;let _ <- call (.builtin "list.append") [.ref D,v];pure ()):Sem Unit) Q E s:=by
 cases b <;> exact ZL h
theorem mc{w:World}{A:Around}{s:Shared}{b:Bool}{elt:Expr}{x:Str}{px:Pos}{iter:Expr}{ifs:List Expr}{scope:Scope}{pos:Pos}{it acc:Value}{env:Env}{R:RS}
  (h:∀E:VS,wpAny (model PR w) A (compTurn (md b elt x px iter ifs scope pos) 0 it acc env) (fun fin s'=>match fin with|.done f=>R (.ok f) s'|.again c'=>c'.quiet=true/\codeAny (model PR w) A c' R s') E s):codeAny (model PR w) A (.compLoop (md b elt x px iter ifs scope pos) 0 it acc env) R s:=by
 cases b <;> exact codeAny_of_tree (wpAny_onRaise (h _))
theorem kh{b:Bool}{elt:Expr}{x:Str}{px:Pos}{iter:Expr}{ifs:List Expr}{scope:Scope}{pos:Pos}{it acc:Value}{env:Env}:(Code.compLoop (md b elt x px iter ifs scope pos) 0 it acc env).quiet=true:=by cases b <;> rfl
section
variable{w:World}{κ:CK}{c:Cx w κ}{lS:Nat}{bS I D:Addr}{b:Bool}{x:Str}{px:Pos}{ifs:List Expr}{elt iter:Expr}{scope:Scope}{pos:Pos}{Γo:LO}{zs:LI}{p:Int->Bool}{f:Int->Int}{R:RS}
theorem mU(Bd:gO w κ x ifs elt Γo zs p f)(hx:κ.cs.names.lookup x=some .local)(hlS:lS<=κ.lv)(hfit:G.fit ⟨[],Γo⟩=true)(hΓ:Γo.length=κ.n)(hb:c.o.g.objs.size<=bS)
  (l:LD):∀(D0:DC) (own:AO) (pgI:Gs) (s:Shared) (ρ:LQ) (acc:LI) (oD:Obj),aE w lS bS I D0 l own pgI->(∀e∈l,e.1∈zs)->(∀h,dOf w c.ρ0 (·=Γo) h->D0 h/\∀e∈l,e.2 h)->(∀q∈pgI,s.gens[q.1]?=some q.2) ->
   (∀q∈own++[(D,oD)],q.1∉aZ c.o.fr/\∀z∈c.hold,q.1≠z.1)->(∀q∈own,q.1≠D)->ad (c.lp c.ρ0 (ZN _) c.len (own++[(D,oD)]) s) ⟨[],Γo⟩ ρ s->pT w b acc oD->acc.length+l.length<=500 ->
   (∀oD' s' ρ',ad (c.lp c.ρ0 (ZN _) c.len [(D,oD')] s') ⟨[],Γo⟩ ρ' s'->Mv c.o pgI [] [] [] s s'->pT w b (acc++((l.map (·.1)).filter p).map f) oD'->R (.ok .next) s') ->
   codeAny (model PR w) c.A (.compLoop (md b elt x px iter ifs scope pos) 0 (.ref I) (.ref D) c.env) R s:=by
 have hD0:∀{os:List Obj} {hold:AO} {ρ:LQ},c.ρ0<+:ρ->ρ.length=os.length->Γo.length=os.length->cy w ρ Γo os->(∀q∈ρ.zip os,q∈hold)->dOf w c.ρ0 (·=Γo) hold:=fun hp h1 h2 h3 h4=>by
  have e:=nK hp (by refine aa (c.len ..) ?_;exact(aJ [.e .a .b,.e .c .d,.e .a .d] (.e .c .b)) hΓ h1 h2)
  subst e
  exact⟨Γo,_,rfl,h1,h2,h3,h4⟩
 have hoff:∀{own:AO} {oD:Obj},(∀q∈own++[(D,oD)],q.1∉aZ c.o.fr/\∀z∈c.hold,q.1≠z.1)->(∀q∈own,q.1≠D)->∀q∈own,q.1∉aZ c.o.fr/\∀z∈[(D,oD)]++c.hold,q.1≠z.1:=fun ho hne q hq=>⟨(ho q (ZD _ hq)).1,fun z hz=>(ZS.mp hz).elim (fun h=>by refine aa (ZP.mp h ..) ?_;exact hne q hq) ((ho q (ZD _ hq)).2 z)⟩
 induction l with
|nil =>
  intro D0 own pgI s ρ acc oD hi hz hD hpg ho hne S hA hl k
  refine mc fun E=>?_
  refine aa (fz ..) ?_
  refine ZL (wpAny_standAt (ZL (S.part.act (hoff ho hne) hi (fun os hold h1 h2 h3 h4=>⟨hb,(hD _ (hD0 S.pre h1 h2 h3 h4)).1⟩) hlS hpg (fun r own' pg' s' V hr ho' S'=>?_) E)))
  subst hr
  exact ZM (k oD s' ρ (S'.merge.part.out ⟨rfl,.refl _ _⟩) ⟨V.eq,V.gm,fun O h=>(nomatch h),.nil⟩ (by simpa using hA))
|cons e l ih =>
  obtain⟨z,D'⟩:=e
  intro D0 own pgI s ρ acc oD hi hz hD hpg ho hne S hA hl k
  refine mc fun E=>?_
  refine aa (fz ..) ?_
  refine ZL (wpAny_standAt (ZL (S.part.act (hoff ho hne) hi (fun os hold h1 h2 h3 h4=>⟨hb,(hD _ (hD0 S.pre h1 h2 h3 h4)).1⟩) hlS hpg (fun r own' pg' s' V hr ho' S'=>?_) E)))
  obtain⟨⟨t,rfl⟩,hi'⟩:=hr
  have hpg':∀q∈pg',s'.gens[q.1]?=some q.2:=fun q hq=>(V.pi q hq).1
  have hne':∀q∈own',q.1≠D:=fun q hq=>(ho' q hq).2 (D,oD) (.head _)
  have hoD:=ho _ (ZC own (.head []))
  have ho2:∀(o2:Obj),∀q∈own'++[(D,o2)],q.1∉aZ c.o.fr/\∀z∈c.hold,q.1≠z.1:=fun o2 q hq=>(ZS.mp hq).elim (fun h=>⟨(ho' q h).1,fun z hz=>(ho' q h).2 z (ZC _ hz)⟩) fun h=>by refine aa (ZP.mp h ..) ?_;exact hoD
  have hz':∀e∈l,e.1∈zs:=fun e he=>hz e (.tail _ he)
  have hD':∀h,dOf w c.ρ0 (·=Γo) h->D' h/\∀e∈l,e.2 h:=fun h hh=>⟨(hD h hh).2 _ (.head _),fun e he=>(hD h hh).2 e (.tail _ he)⟩
  have S1:=S'.merge
  refine ZL (wpAny_of_eq (rfl:letOwnedTupleGo (.Name x px) (.ref I) (.int z t)=pure ()) ?_)
  refine ZL (wpAny_assign_Name (S1.put (.int z t) hx fun h2 tk2 Sj2=>?_))
  refine ZL (Sj2.ifs (Bd.test _ z (hz _ (.head _))) fun ρ3 sj3 hp3 S3=>?_)
  have V3:Mv c.o pgI pg' [] [] s sj3:=V.trans (S3.rel.mv2 c.o hpg')
  have hpg3:∀q∈pg',sj3.gens[q.1]?=some q.2:=fun q hq=>(V3.pi q hq).1
  by_cases hp:p z=true
  ·refine aa (hp ..) ?_
   refine cj vT ?_
   refine ZL (qQ ?_)
   refine S3.ev (Bd.elt _ z (hz _ (.head _)) hp) fun v ρ4 sj4 hp4 hv S4=>?_
   obtain⟨_,rfl⟩:=hv.intI
   have hg4:=S4.ownAt (fun q hq=>(ho2 oD q hq).1) (D,oD) (ZC _ (.head _))
   refine pF hg4 hA (by rw[List.length_cons] at hl;exact(ah [.m (.p .a (.p .b .u)) .l] (.m .a .l)) hl) fun h5 tk5 oD5 e1 e2 hA5=>?_
   have Sj5:=ad.ownSet (tk:=tk5) S4 (ho2 oD) hne' e1 e2
   have Sj6:=Sj5.weak (Γ₁:=⟨[],Γo⟩) ⟨.nil,.same⟩ hfit (by show Nat.ble κ.n Γo.length=true;refine aa (hΓ ..) ?_;exact Nat.ble_eq.mpr (ZZ _))
   have V4:Mv c.o pgI pg' [] [] s sj4:=V.trans (S4.rel.mv2 c.o hpg')
   have V5:Mv c.o pgI pg' [] [] s { sj4 with heap:=h5,toks:=tk5 }:=V4.trans (Mv.still2 fun q hq=>(V4.pi q hq).1)
   refine ZM ⟨kh,ih D' own' pg' _ _ (acc++[f z]) oD5 hi' hz' hD' (fun q hq=>(V5.pi q hq).1) (ho2 oD5) hne' (Sj6.re Sj6.pre) hA5 (by rw[List.length_cons] at hl;simp;exact(ah [.m (.p .a (.p .b .u)) .l] (.m (.p (.p .a .u) .b) .l)) hl) fun oD' s'' ρ' S'' V'' hA''=>k oD' s'' ρ' S'' (V5.trans V'') ?_⟩
   refine aa (List.map_cons ..) (aa (List.filter_cons_of_pos hp ..) (aa (List.map_cons ..) (aa (List.append_cons ..) ?_)))
   exact hA''
  ·have hpf:p z=false:=by simpa using hp
   refine aa (hpf ..) ?_
   refine aj Bool.false_ne_true ?_
   have Sj6:=S3.weak (Γ₁:=⟨[],Γo⟩) ⟨.nil,.same⟩ hfit (by show Nat.ble κ.n Γo.length=true;refine aa (hΓ ..) ?_;exact Nat.ble_eq.mpr (ZZ _))
   refine ZM ⟨kh,ih D' own' pg' sj3 _ acc oD hi' hz' hD' hpg3 (ho2 oD) hne' (Sj6.re Sj6.pre) hA (by rw[List.length_cons] at hl;exact Zr ‹_›) fun oD' s'' ρ' S'' V'' hA''=>k oD' s'' ρ' S'' (V3.trans V'') ?_⟩
   refine aa (List.map_cons ..) (aa (List.filter_cons_of_neg (by simpa using hp) ..) ?_)
   exact hA''
end
example:True:=by w_top off;trivial
section
variable{w:World}{A:Around}{E:VS}{s:Shared}{b:Bool}{elt:Expr}{x:Str}{px:Pos}{iter:Expr}{ifs:List Expr}{scope:Scope}{pos:Pos}{env:Env}{R:RS}
theorem kZ{I:Addr}{acc:Value}(hself:∀(E:VS) (Q:VS),Q (.ref I) s->wpAny (model PR w) A (pyIter (.ref I)) Q E s)(h:codeAny (model PR w) A (.compLoop (md b elt x px iter ifs scope pos) 0 (.ref I) acc env) R s):codeAny (model PR w) A (.compStart (md b elt x px iter ifs scope pos) 0 (.ref I) acc env) R s:=by
 cases b
 all_goals
  refine codeAny_of_tree (wpAny_onRaise ?_)
  unfold compStart
  show wpAny _ _ (ask >>= _) _ _ _
  refine ZL (wpAny_askSetting ?_)
  split
  ·exact ZM ⟨vT,h⟩
  ·refine ZL (wpAny_rule ?_)
   show wpAny _ _ (standAt iter.pos >>= _) _ _ _
   exact ZL (wpAny_standAt (ZL (hself _ _ (ZM ⟨vT,h⟩))))
theorem qh{Q:VS}(h:∀oD,pT w b [] oD->oD.isFreed=false->Q (.ref s.heap.objs.size) { s with heap:=s.heap.push oD }):wpAny (model PR w) A (if b then newSet (.type "set") else newList []) Q E s:=by
 cases b with
|true=>exact g5 fun led hl=>h _ ⟨[],.fresh hl,fun x=>Iff.rfl,ZZ _⟩ rfl
|false=>exact wpAny_newObj_type (data:=.seq #[] 0) (h (listOf #[] 0) ⟨[],0,rfl,.nil⟩ rfl) (by first|trivial|size_fits|decide)
end
def rz(w:World)(b:Bool)(e:Expr)(scope:Scope)(cl:List (Str×Addr))(env:Env)(I:Addr)(A:Around)(Q:VS)(s:Shared):Prop:=∀E:VS,wpAny (model PR w) A (if b then newSet (.type "set") else newList []) (fun acc sj3=>wpAny (model PR w) A (newFunctionEnv scope env.globals cl [] env.qual none .none (some env)) (fun cenv sj4=>codeAny (model PR w) A (.compStart e 0 (.ref I) acc { cenv with scope:=relabel scope env }) (compPost (model PR w) A E none Q acc cenv.locals) sj4) E sj3) E s
theorem ke{w:World}{κ0:CK}{c₀:Cx w κ0}{lv n lS:Nat}{cm:List (Str×Nat)}{bS I:Addr}{b:Bool}{x:Str}{px:Pos}{ifs:List Expr}{elt iter:Expr}{scope:Scope}{pos:Pos}{Γo:LO}{zs:LI}{p:Int->Bool}{f:Int->Int}{η:LQ}{cl:List (Str×Addr)}(hn:η.length=n)(nd:η.Nodup)
  (Bd:gO w ⟨relabel scope c₀.env,lv,n,n,cm⟩ x ifs elt Γo zs p f) (hx:(relabel scope c₀.env).names.lookup x=some .local) (hlS:lS<=lv) (hfit:G.fit ⟨[],Γo⟩=true) (hΓ:Γo.length=n) (hk:scope.kind=.function) (hcell:∀y∈scope.names,y.2≠.cell) (hcl:∀x i,cm.lookup x=some i->∃a,η[i]?=some a/\cl.lookup x=some a)
  {T:String} {l:LD} {D0:DC} {own:AO} {pgI:Gs} (hself:bt w T I own) (hi:aE w lS bS I D0 l own pgI) (hz:∀e∈l,e.1∈zs) (hDD:∀h,dOf w η (·=Γo) h->D0 h/\∀e∈l,e.2 h) (hl:l.length<=500) :
  bI w lv (rz w b (md b elt x px iter ifs scope pos) scope cl c₀.env I) own pgI (fun n h=>n<=bS/\dOf w η (·=Γo) h) (fun O r own' O=>∃D oD,r=.ref D/\own'=[(D,oD)]/\pT w b (((l.map (·.1)).filter p).map f) oD):=by
 intro o hold s Q hfit' A hpg hDn k E
 obtain⟨hb,l0,os,rfl,e1,e2,hob,hm⟩:=hDn
 refine qh fun oD hA hfr=>?_
 obtain⟨A1,lt⟩:=A.push (tk:=s.toks) oD hfr
 generalize s.heap.objs.size=D at *
 generalize s.heap.push oD=h1 at *
 refine wpAny_newFunctionEnv hcell (fun O hb=>nomatch hb) (fun h' hns hsb=>?_) hk
 dsimp only at hns hsb ⊢
 have keep:∀a ob,h1.get? a=some ob->h'.get? a=some ob:=fun a ob e=>hsb.extBut a ob (Zb (Zg e)) (ZR _ e)
 have ltC:∀q∈((D,oD)::own)++hold,q.1<h1.objs.size:=fun q hq=>Zg (A1.ft q hq).1
 have szC:o.g.objs.size<=h1.objs.size:=A1.sz
 generalize h1.objs.size=C at *
 have nF:∀q∈(D,oD)::own,q.1∉aZ o.fr:=fun q hq=>A1.fr.off (A1.ap q hq)
 have hfrl:rG C o.fr hold:=fun e he=>by
  obtain⟨q1,L',ob,q2,q3,q4⟩:=A.fr e he
  exact⟨q1,L',q2,.inr ⟨ob,q3,q4⟩⟩
 let c:Cx w ⟨relabel scope c₀.env,lv,n,n,cm⟩:=⟨o,c₀.env.qual,none,C,c₀.env.code,cl,c₀.env.frame,{ s with heap:=h' },η,hold,η.zip os,hfrl,hn,hk,ZZ _,hfit',fun q hq=>ag.mp (hm q hq),hcl⟩
 show codeAny (model PR w) o.A (.compStart (md b elt x px iter ifs scope pos) 0 (.ref I) (.ref D) c.env) (compPost (model PR w) o.A E none Q (.ref D) C) { s with heap:=h' }
 have S:ad (c.lp η (ZN _) hn (own++[(D,oD)]) { s with heap:=h' }) ⟨[],l0⟩ η { s with heap:=h' }:=by
  refine .mk _ os ((own++[(D,oD)])++hold) ⟨hns,fun a ob e=>keep a ob (A1.st a ob e),szC⟩ (fun q hq=>?_) (fun O O e=>nomatch e) ⟨e1,e2,hob,nd,ZN _,fun q O hq=>?_,.refl _,fun i a y O y1 y2=>au y1 y2⟩ ⟨rfl,.refl _ _⟩
  ·have hq':q∈((D,oD)::own)++hold:=by
    simp only[ZS,ZT,List.not_mem_nil,or_false] at hq ⊢
    rcases hq with hq|(hq|hq)|hq
    ·exact .inr (ag.mp (hm q hq)).1
    ·exact .inl (.inr hq)
    ·exact .inl (.inl hq)
    ·exact .inr hq
   exact⟨keep _ _ (A1.ft q hq').1,Zb (ltC q hq'),(A1.ft q hq').2⟩
  ·rw[show ({ cs:=relabel scope c₀.env,lv:=lv,nf:=n,n:=n,cm:=cm }:CK).nf=n from rfl] at hq
   rw[Zo (Nat.le_of_eq hn)] at hq
   exact nomatch hq
 have hne:∀q∈own,q.1≠D:=fun q hq=>Zb (lt q (ZD _ hq))
 have ho:∀q∈own++[(D,oD)],q.1∉aZ c.o.fr/\∀z∈c.hold,q.1≠z.1:=fun q hq=>by
  have hq':q∈(D,oD)::own:=by
   simp only[ZS,ZT,List.not_mem_nil,or_false] at hq ⊢
   exact hq.symm
  exact⟨nF q hq',A1.ap q hq'⟩
 refine kZ (fun E' Q' hq=>hself.self _ _ _ _ (fun q hq=>keep _ _ (A1.ft q (.tail _ (ZD _ hq))).1) hq) ?_
 refine mU (c:=c) (R:=compPost (model PR w) o.A E none Q (.ref D) C) Bd hx hlS hfit hΓ hb l D0 own pgI { s with heap:=h' } η [] oD hi hz hDD hpg ho hne S hA (by simpa using hl) fun oD' s' ρ' S' V hA'=>?_
 have V0:Mv o pgI [] [] [] s s':=(Mv.still2 (h':=h') (tk:=s.toks) hpg).trans V
 have hD0:(D,oD).1∉aZ c.o.fr/\∀z∈c.hold,(D,oD).1≠z.1:=ho _ (ZC _ (.head _))
 obtain⟨H,V1,A9⟩:=S'.finL (fun q hq=>by refine aa (ZP.mp hq ..) ?_;exact hD0) A V0 rfl rfl fun b hb=>.inr hb
 obtain⟨m,os',H',F,N,hm',LY,hs⟩:=S'
 refine⟨m,F.ns,fun h9 hsb9=>?_⟩
 have neC:∀q∈[(D,oD')]++H,q.1≠C:=fun q hq=>(ZS.mp hq).elim (fun h=>by refine aa (ZP.mp h ..) ?_;exact Zb (ltC (D,oD) (.head _))) fun h=>by
  obtain⟨y,hy,ey⟩:=i9 V1.kp h
  refine aA (ey ..) ?_;exact Zb (ltC y (ZC _ hy))
 have W:=V1.trans (Mv.still2 (h':=h9) (tk:=s'.toks) (pg:=[]) fun O h=>nomatch h)
 refine k (.ref D) [(D,oD')] [] H { s' with heap:=h9 } W ⟨A9.fr,fun a ob e=>hsb9.extBut a ob (fun e9=>?_) (A9.st a ob e),A9.top,fun q hq=>⟨hsb9.extBut _ _ (neC q hq) (A9.ft q hq).1,(A9.ft q hq).2⟩,A9.ap⟩ ⟨D,oD',rfl,rfl,by simpa using hA'⟩
 exact absurd (Zg e) (Nat.not_lt.mpr (e9▸szC))
example:True:=by w_top off;trivial
section
variable{w:World}{κ:CK}{c:Cx w κ}{Γ Γ₁:G}{lS lv':Nat}{σ:LN}{Ok:String->(List SO->Prop)->KL->Prop}
theorem Ev.comp(b:Bool){elt iter:Expr}{x:Str}{px pos:Pos}{ifs:List Expr}{scope:Scope}{Γo:LO}{zs:LI}{zp:List Int->Prop}{p:Int->Bool}{f:Int->Int}{so:SO}{cm:List (Str×Nat)}(B:bH c Γ iter lS σ Ok Γ₁)(hσ:Fits Γ₁ σ σ Γo)(hft:Γo.all (·.fit Γo.length)=true)(hok:tE Ok Γo zp)
  (hzp:∀ys,zp ys->(∀y∈ys,y∈zs)/\ys.length<=500/\∀oD ρ,pT w b ((ys.filter p).map f) oD->so.Is w ρ oD) (Bd:gO w ⟨relabel scope c.env,lv',σ.length,σ.length,cm⟩ x ifs elt Γo zs p f)
  (hcl:∃cl,closureFor scope c.env=pure cl/\∀x i,cm.lookup x=some i->∃j,κ.cm.lookup x=some j/\σ[i]?=some j/\cl.lookup x=c.cl.lookup x) (nd:σ.Nodup) (hσl:(σ.all fun i=>Nat.blt i Γ₁.o.length)=true) (hk:scope.kind=.function) (hcell:∀y∈scope.names,y.2≠.cell)
  (hloc:∀y∈scope.names,y.2=.local->scope.names.lookup y.1=some .local) (hx:(relabel scope c.env).names.lookup x=some .local) (hlS:lS<=lv') (hlv:lv'<=κ.lv) (hs:∀v,foldedSetIterable iter c.env v=pure v) :
  Ev c Γ (if b then .SetComp elt [⟨.Name x px,iter,ifs,0⟩] scope pos else .ListComp elt [⟨.Name x px,iter,ifs,0⟩] scope pos) (.ref Γ₁.o.length) (Γ₁.addO so):=fun ρ s Q E S KK=>by
 obtain⟨cl,hclos,hcm⟩:=hcl
 have main:∀pos',wpAny (model PR w) c.A (comprehension (md b elt x px iter ifs scope pos) scope c.env pos' (if b then newSet (.type "set") else newList []) false (eval iter c.env)) Q E s:=fun pos'=>by
  refine wpAny_comprehension_free (g:=⟨.Name x px,iter,ifs,0⟩) (gs:=[]) (cl:=cl) (by cases b <;> rfl) hs hclos hk hloc ?_
  refine B ρ s _ E S fun it ρ₂ sj2 hp IH=>?_
  cases IH with|mk T bS K l own pgI ρc hOk hself hi hb n2 p2 hsr hg hg2 ho Sj2 =>
  obtain⟨h1,h2,h3⟩:=hok T K l hOk
  obtain⟨z1,z2,z3⟩:=hzp _ h1
  obtain⟨ρc',n2',p2',ndc⟩:=ed Sj2 hσl
  have eρ:ρc'=ρc:=List.ext_getElem? fun i=>by
   rcases Zq i σ.length with hi|hi
   ·exact aa (p2' i _ (ZA hi) ..) (aa (p2 i _ (ZA hi) ..) rfl)
   ·exact aa (Zh (by exact(av [.e .a .b,.m .b .c] (.m .a .c)) n2' hi) ..) (aa (Zh (by exact(av [.e .a .b,.m .b .c] (.m .a .c)) n2 hi) ..) rfl)
  have nd2:=ndc nd
  rw[eρ] at nd2
  have hcl':∀x i,cm.lookup x=some i->∃a,ρc[i]?=some a/\cl.lookup x=some a:=fun x i e=>by
   obtain⟨j',e1,e2,e3⟩:=hcm x i e
   obtain⟨a,e4,e5⟩:=c.hcl x j' e1
   exact⟨a,by refine aa (p2 i j' e2 ..) ?_;exact ak Sj2.pre e4,e3.trans e5⟩
  have hfl:(dL w ρc l).map (·.1)=l.map (·.1):=List.map_map
  have M0:Meets Γ₁ σ (·=Γo):=⟨Γo,hσ,hft,rfl⟩
  refine Sj2.act ho (ke (c₀:=c) n2 nd2 Bd hx hlS (by unfold G.fit;simpa using hft) hσ.get.1.symm hk hcell hcl' hself hi (fun e he=>z1 _ (by refine aA (hfl ..) ?_;exact Zd he)) (fun h hZ=>?_) (by refine aa (Zm ..) ?_;rw[Zm] at z2;exact z2)) (fun os hold h1 h2 h3 h4=>⟨ZW Sj2.above hb,M0.dOf n2 p2 h1 h2 h3 h4⟩) hlv hg (fun r own' pg' s' V hr ho' S'=>?_) E
  ·obtain⟨l0,os0,q0,q1,q2,q3,q4⟩:=hZ
   subst q0
   exact⟨⟨l0,os0,h2,q1,q2,q3,q4⟩,fun e he=>by
    obtain⟨y,hy,rfl⟩:=Zc.mp he
    exact⟨l0,os0,h3 y hy,q1,q2,q3,q4⟩⟩
  ·obtain⟨D,oD,rfl,rfl,hA⟩:=hr
   rw[hfl] at hA
   exact KK _ _ s' (hp.trans (ZO _ _)) (.ref (by refine aA (Sj2.len ..) ?_;simp)) (S'.keep (hsr.step V hg2) (ho' _ (.head _)) (z3 _ _ hA))
 cases b with
|true=>exact main _
|false=>exact main _
theorem eI{cs ys:LI}{p:Int->Bool}(hc:cs.Nodup)(h:∀x,x∈ys.filter p<->x∈cs){oD:Obj}{ρ:LQ}(hA:pT w true ((ys.filter p).map fun z=>z) oD):(SO.obj (aB w cs)).Is w ρ oD:=by
 rw[List.map_id'] at hA
 obtain⟨zs,h1,h2,_⟩:=hA
 exact .obj (f9 h1 hc fun x=>(h2 x).trans (h x))
theorem eJ{ys:LI}{oD:Obj}{ρ:LQ}(hA:pT w false ys oD):(SO.nums ys).Is w ρ oD:=by
 obtain⟨vs,c,rfl,hI⟩:=hA
 exact .nums hI
end
example:True:=by w_top off;trivial
theorem d6:∀{cn:List Str} {n0 k:Nat} {x:Str} {i:Nat},(cn.zip (List.range' n0 k)).lookup x=some i->∃j,i=n0+j/\cn[j]?=some x
|[],_,_,_,_,h=>by exact nomatch h
|_::_,_,0,_,_,h=>by exact nomatch h
|y::cn,n0,k+1,x,i,h=>by
  rw[List.range'_succ,List.zip_cons_cons,List.lookup_cons] at h
  cases e:x == y with
 |true =>
   rw[e] at h;obtain rfl:=ZK h
   exact⟨0,rfl,by refine aa (eq_of_beq e ..) ?_;rfl⟩
 |false =>
   rw[e] at h
   obtain⟨j,h1,h2⟩:=d6 h
   exact⟨j+1,by exact(av [.e .a (.p (.p .b .u) .c)] (.e .a (.p .b (.p .c .u)))) h1,h2⟩
theorem cV:∀(names:List (Str×NameKind)) (n:Nat) (acc:List (Str×Addr)),(acc.map (·.2)).Nodup->(∀q∈acc,q.2<n)->((cellsFrom n names acc).map (·.2)).Nodup
|[],_,_,h,_=>h
|(name,kind)::r,n,acc,h,hlt=>by
  unfold cellsFrom
  split
  ·refine cV r _ _ (List.nodup_cons.mpr ⟨fun hm=>?_,h⟩) fun q hq=>?_
   ·obtain⟨q,hq,e⟩:=Zc.mp hm
    have e:q.2=n:=e
    have:=hlt q hq
    lia
   ·rcases ZT.mp hq with rfl|hq
    ·exact Nat.lt_succ_self _
    ·exact Nat.lt_succ_of_lt (hlt q hq)
  ·exact cV r n acc h hlt
inductive sO(w:World)(ρ:LQ)(cm:OV):List Str->List SO->Prop
|nil:sO w ρ cm [] []
|cons {n:Str} {so:SO} {ns:List Str} {l:LO} (h:∀o,o.data=.cell (cm n)->so.Is w ρ o) (t:sO w ρ cm ns l):sO w ρ cm (n::ns) (so::l)
noncomputable def bN:SO:=.obj fun o=>o.data=.cell none
theorem fg{w:World}:∀(ρ:LQ) o,bN.Is w ρ o->∃v0,o.data=.cell v0:=fun O O h=>by have h:=h.objI;exact⟨_,h⟩
theorem mS{w:World}{ρ:LQ}{cm:OV}{cl:List (Str×Addr)}{cells:AO}(Y:CellsAre cm cl cells):∀{cn:List Str} {l:LO},cl.map (·.1)=cn->sO w ρ cm cn l->cells.map (·.1)=cl.map (·.2)/\l.length=cells.length/\cy w ρ l (cells.map (·.2)):=by
 induction Y with
|nil=>intro cn l e C;subst e;cases C;exact⟨rfl,rfl,fun O O O h=>by cases h⟩
|cons hd _ ih =>
  intro cn l e C
  subst e
  cases C with|cons h t =>
  obtain⟨h1,h2,h3⟩:=ih rfl t
  refine⟨by exact aa (List.map_cons ..) (aa (List.map_cons ..) (aa (h1 ..) rfl)),by exact aa (List.length_cons ..) (aa (List.length_cons ..) (aa (h2 ..) rfl)),fun i so o e1 e2=>?_⟩
  cases i with
 |zero=>cases e1;cases e2;exact h _ hd
 |succ i=>exact h3 i so o e1 e2
theorem lA{w:World}{lv:Nat}{f:Addr}{fa:LX}{lm:LV}{Γo cso:LO}{cm:List (Str×Nat)}{P:SF->G->Prop}{name qual:Str}{params:Arguments}{body:LS}{scope:Scope}{dV kV doc pm cdv ct oc:Value}{an od:Option Addr}{osl:Array (Option Value)}(xs:List Str)
  (ho:(hd.heap_1 w.params).lookup f=some ⟨oc,od,.func (fnOf name qual params body scope dV kV doc pm an cdv ct),osl⟩) (hcd:codeIn (hd.heap_1 w.params) cdv qual=true)
  (hkind:(xs.all fun x=>scope.names.lookup x == some .local||scope.names.lookup x == some .cell)=true)
  (hnd:((cellsFrom 0 scope.names []).map (·.1)).Nodup) (hcm:((cellsFrom 0 scope.names []).map (·.1)).zip (List.range' Γo.length cso.length)=cm)
  (hM:∀ρ us',bh ρ fa us'->M0 ρ (bindL (fun x=>scope.names.lookup x) (xs.zip us') fun O=>none) lm) (hC:∀ρ us',bh ρ fa us'->sO w ρ (bindC (fun x=>scope.names.lookup x) (xs.zip us') fun O=>none) ((cellsFrom 0 scope.names []).map (·.1)) cso)
  (hco:scope.isCoroutine=false) (hgen:scope.isGenerator=false) (hk:scope.kind=.function)
  {o:On w} (H:∀c:Cx w ⟨scope,lv,0,Γo.length+cso.length,cm⟩,c.ccd=cdv->c.o.g=o.g->Ex c ⟨lm,Γo++cso⟩ body P) {hold:AO} {s:Shared} {us us':LW} {ks:List (Str×Value)} {ρ:LQ} {os:List Obj} {R:RS} (hbind:BindsTo s (fnOf name qual params body scope dV kV doc pm an cdv ct) ⟨us,ks⟩ (xs.zip us')) (hu':bh ρ fa us')
  (hfr:eM o.fr hold) (st:o.g.StaysIn s.heap) (hsz:o.g.objs.size<=s.heap.objs.size) (hft:d5 o.g s.heap (ρ.zip os++hold)) (hap:∀q∈ρ.zip os,∀z∈hold,q.1≠z.1) (hfit:o.Fits (lv+1)) (e1:ρ.length=os.length) (e2:Γo.length=os.length) (hob:cy w ρ Γo os) (ndρ:ρ.Nodup)
  (K:∀c:Cx w ⟨scope,lv,0,Γo.length+cso.length,cm⟩,c.sj0=s->c.o.g=o.g->c.hold=hold->ρ<+:c.ρ0->(∀b∈aZ c.o.fr,b=c.L\/b∈aZ o.fr)->∀f' fl ρ' Γ' s',P f' Γ'->f'.Is ρ' fl->ad c Γ' ρ' s'->R (.ok (.ret (match fl with|.ret v=>v|_=>.none))) s'):codeAny (model PR w) o.A (.call (.ref f) ⟨us,ks⟩) R s:=by
 have Xs:=o.X.keeps st
 refine codeAny_call_function (fd:=fnOf name qual params body scope dV kV doc pm an cdv ct) (body:=body) (by show o.dp<1000;have:=hfit.d;exact(ah [.m (.p .a (.p .b .u)) .l] (.l .a .q)) this) (Xs _ _ ho) rfl hco hgen rfl (codeRec_of Xs hcd) (hbind _ _ _ _ ?_)
 refine wpAny_newFunctionEnv_cells hk (kindsX (Zp.mpr fun q hq=>Zp.mp hkind _ (Zz hq).1) _) fun env' he s' x=>?_
 subst he
 refine⟨(o.T.nolimit.keeps st).keeps x.toInCall.keep,codeAny_func ?_⟩
 obtain⟨hj1,tk,rfl,_⟩:=x.done
 have hkj1:=x.toInCall.keep
 have en:(cellsFrom (s.heap.objs.size+1) scope.names []).map (·.1)=(cellsFrom 0 scope.names []).map (·.1):=cellsFrom_names scope.names _ _ [] [] rfl
 have hnd':((cellsFrom (s.heap.objs.size+1) scope.names []).map (·.1)).Nodup:=by refine aa (en ..) ?_;exact hnd
 obtain⟨cells,NC,Y⟩:=Cl.news (h₀:=s.heap) (ZZ _) fun n c hm=>⟨x.cell n c (lookup_of_mem_nodup hnd' hm),x.above n c hm⟩
 obtain⟨y1,y2,y3⟩:=mS Y en (hC ρ us' hu')
 have y1:cells.map (·.1)=(cellsFrom (s.heap.objs.size+1) scope.names []).map (·.2):=y1
 have lt:∀q∈ρ.zip os++hold,q.1<s.heap.objs.size:=fun q hq=>Zg (hft q hq).1
 have gtC:∀q∈cells,s.heap.objs.size<q.1:=fun q hq=>by
  have h1:q.1∈cells.map (·.1):=Zd hq
  rw[y1] at h1
  obtain⟨z,hz,ez⟩:=Zc.mp h1
  refine aA (ez ..) ?_;exact x.above z.1 z.2 hz
 have F:Fr o.g s.heap.objs.size hj1 (bindL (fun x=>scope.names.lookup x) (xs.zip us') fun O=>none):=⟨x.toInCall.ns,fun b ob e=>hkj1 b ob (st b ob e),hsz⟩
 have N:News o.g s.heap.objs.size hj1 (aS (ρ++cells.map (·.1)) (os++cells.map (·.2)) hold):=fun q hq=>by
  unfold aS at hq
  rw[List.zip_append e1,List.append_assoc,pU] at hq
  rcases ZS.mp hq with hq|hq
  ·exact⟨hkj1 _ _ (hft q (ZD _ hq)).1,Zb (lt q (ZD _ hq)),(hft q (ZD _ hq)).2⟩
  rcases ZS.mp hq with hq|hq
  ·refine⟨(NC q hq).1,(NC q hq).2.1,?_⟩
   cases e:o.g.get? q.1 with
  |none=>rfl
  |some ob=>have:=st _ _ e;rw[(NC q hq).2.2] at this;exact nomatch this
  ·exact⟨hkj1 _ _ (hft q (ZC _ hq)).1,Zb (lt q (ZC _ hq)),(hft q (ZC _ hq)).2⟩
 have cl9:∀y i,cm.lookup y=some i->∃a,(ρ++cells.map (·.1))[i]?=some a/\(cellsFrom (s.heap.objs.size+1) scope.names []).lookup y=some a:=fun y i e=>by
  rw[<- hcm] at e
  obtain⟨j,rfl,h1⟩:=d6 e
  rw[<- en,List.getElem?_map] at h1
  obtain⟨z,h2,rfl⟩:=Option.map_eq_some_iff.mp h1
  refine⟨z.2,?_,lookup_of_mem_nodup hnd' (ZQ h2)⟩
  refine aa (ZI (by exact(aJ [.e .a .b,.e .c .b] (.m .a (.p .c .d))) e1 e2) ..) (aa (show Γo.length+j-ρ.length=j by exact(c7 [.e .a .b,.e .c .b,.S .d (.p .c .e) .a] (.e .d .e)) e1 e2 (bc _ _)) (aa (y1 ..) (aa (List.getElem?_map ..) (aa (h2 ..) ?_))))
  rfl
 have lenR:(ρ++cells.map (·.1)).length=Γo.length+cso.length:=by refine aa (Zl ..) (aa (Zm ..) ?_);exact(c7 [.e .a .b,.e .c .b,.e .d .e] (.e (.p .a .e) (.p .c .d))) e1 e2 y2
 let c:Cx w ⟨scope,lv,0,Γo.length+cso.length,cm⟩:=⟨⟨o.p,o.loose,o.mean,o.mg,o.mb,o.dp+1,o.un+3,o.gd,envOfC qual scope s.heap.objs.size f cdv::o.fr,o.g,o.X,o.T⟩,qual ++ ".<locals>.",some f,s.heap.objs.size,cdv,cellsFrom (s.heap.objs.size+1) scope.names [],some s.heap.objs.size,s,ρ++cells.map (·.1),hold,[],
  fun e he=>(ZT.mp he).elim (fun h=>by subst h;exact⟨by show scope.kind≠_;refine aa (hk ..) ?_;decide,_,vS,.inl rfl⟩) (fun he=>by
    obtain⟨h1,Lj1,ob,h2,h3,h4⟩:=hfr e he
    exact⟨h1,Lj1,h2,.inr ⟨ob,h3,h4⟩⟩),
  lenR,hk,Zf _,⟨by show o.dp+1+lv<=500;have:=hfit.d;exact(ah [.m (.p .a (.p .b .u)) .l] (.m (.p (.p .a .u) .b) .l)) this,by show o.un+3+50*lv<=9000;have:=hfit.u;exact(ah [.m (.p .a (.k 50 (.p .b .u))) .G] (.m (.p (.p .a .w) (.k 50 .b)) .G)) this⟩,(fun O h=>nomatch h),cl9⟩
 have ndR:(ρ++cells.map (·.1)).Nodup:=List.nodup_append.mpr ⟨ndρ,by refine aa (y1 ..) ?_;exact cV _ _ _ List.nodup_nil (fun O h=>nomatch h),fun a ha b hb e=>by
  obtain⟨q,hq,rfl⟩:=Zc.mp hb
  obtain⟨j,hj,ej⟩:=ZF.mp ha
  have:=lt (ρ[j],os[j]'(by exact Za ‹_› ‹_›)) (ZD _ (au (ZA hj) (ZA (by exact Za ‹_› ‹_›))))
  have h2:=gtC q hq
  have h3:a<s.heap.objs.size:=by refine aA (ej ..) ?_;exact this
  lia⟩
 have S:ad c ⟨lm,Γo++cso⟩ (ρ++cells.map (·.1)) { s with heap:=hj1,toks:=tk }:=by
  refine .mk _ (os++cells.map (·.2)) hold F N ((hM ρ us' hu').get |> fun h=>cY.up h (ZO _ _)) ⟨by simp;assumption,by simp;exact(aJ [.e .a .b,.e .c .d] (.e (.p .a .c) (.p .b .d))) e2 y2,fun i so y h1 h2=>?_,ndR,ZN _,fun q hq hm=>?_,.refl _,fun i O O h=>absurd h (Nat.not_lt_zero _)⟩ ⟨rfl,.refl _ _⟩
  ·have hpp:ρ<+:ρ++cells.map (·.1):=ZO _ _
   rcases Zq i Γo.length with hi|hi
   ·rw[ZH hi] at h1
    rw[ZH (by exact Za ‹_› ‹_›)] at h2
    exact(hob i so y h1 h2).up hpp
   ·rw[ZI hi] at h1
    rw[ZI (by exact(av [.e .a .b,.m .a .c] (.m .b .c)) e2 hi),show i-os.length=i-Γo.length by exact(c7 [.e .a .b,.S .c .d .b,.S .e .d .a] (.e .c .e)) e2 (bc _ _) (bc _ _)] at h2
    exact(y3 _ so y h1 h2).up hpp
  ·rw[List.drop_zero] at hm
   have h1:=lt q (ZC _ hq)
   rcases ZS.mp hm with hm|hm
   ·obtain⟨j,hj,e⟩:=ZF.mp hm
    exact hap (ρ[j],os[j]'(by exact Za ‹_› ‹_›)) (au (ZA hj) (ZA (by exact Za ‹_› ‹_›))) q hq e
   ·obtain⟨z,hz,e⟩:=Zc.mp hm
    have:=gtC z hz
    lia
 show wpAny (model PR w) c.A (execs body c.env) _ _ _
 exact H c rfl rfl _ _ _ _ (by passes_own) S fun f' fl ρ' Γ' s' hP hF' S'=>K c rfl rfl rfl (ZO _ _) (fun b hb=>(ZT.mp (show b∈_::aZ o.fr from hb)).imp id id) f' fl ρ' Γ' s' hP hF' S'
theorem ec{w:World}{lv:Nat}{f:Addr}{args fa:LX}{kw lm:LV}{Γo cso:LO}{cm:List (Str×Nat)}{T:TQ}{name qual:Str}{params:Arguments}{body:LS}{scope:Scope}{dV kV doc pm cdv ct oc:Value}{an od:Option Addr}{osl:Array (Option Value)}(xs:List Str)
  (ho:(hd.heap_1 w.params).lookup f=some ⟨oc,od,.func (fnOf name qual params body scope dV kV doc pm an cdv ct),osl⟩) (hcd:codeIn (hd.heap_1 w.params) cdv qual=true)
  (hb:∀(ρ:LQ) (s:Shared) us ks,(hd.heap_1 w.params).In s.heap->bh ρ args us->kt ρ kw ks->∃us',bh ρ fa us'/\BindsTo s (fnOf name qual params body scope dV kV doc pm an cdv ct) ⟨us,ks⟩ (xs.zip us')) (hkind:(xs.all fun x=>scope.names.lookup x == some .local||scope.names.lookup x == some .cell)=true)
  (hnd:((cellsFrom 0 scope.names []).map (·.1)).Nodup) (hcm:((cellsFrom 0 scope.names []).map (·.1)).zip (List.range' Γo.length cso.length)=cm)
  (hM:∀ρ us',bh ρ fa us'->M0 ρ (bindL (fun x=>scope.names.lookup x) (xs.zip us') fun O=>none) lm) (hC:∀ρ us',bh ρ fa us'->sO w ρ (bindC (fun x=>scope.names.lookup x) (xs.zip us') fun O=>none) ((cellsFrom 0 scope.names []).map (·.1)) cso)
  (H:∀c:Cx w ⟨scope,lv,0,Γo.length+cso.length,cm⟩,c.ccd=cdv->Ex c ⟨lm,Γo++cso⟩ body (RT (Γo.length+cso.length) T)) (hco:scope.isCoroutine=false) (hgen:scope.isGenerator=false) (hk:scope.kind=.function):az w (lv+1) f Γo args kw T:=by
 intro ρ os us ks e1 e2 hob ndρ hu hks o hold s Q hfit A hpg _ hret R hR
 obtain⟨us',hu',hbind⟩:=hb ρ s us ks (o.X.keeps A.st) hu hks
 refine lA xs ho hcd hkind hnd hcm hM hC hco hgen hk (fun c h O=>H c h) hbind hu' A.fr A.st A.sz A.ft A.ap hfit e1 e2 hob ndρ fun c c1 c2 c3 c4 c5 f' fl ρ' Γ' s' hP hF' S'=>?_
 have key:∀v u l,T v l->v.Is ρ' u->ky Γ'.o l->(Nat.ble (Γo.length+cso.length) l.length&&v.fit l.length&&l.all (·.fit l.length))=true->R (.ok (.ret u)) s':=fun v u l hT hv hle hf=>by
  obtain⟨f12,f3⟩:=ZU.mp hf
  obtain⟨f1,f2⟩:=ZU.mp f12
  obtain⟨os2,H2,V,A2,g6,g7,g8,g9,g10⟩:=(S'.weak (Γ₁:=⟨[],l⟩) ⟨.nil,hle⟩ f3 f1).fin A c1 c2 c3 c5
  exact hR _ _ (hret u _ [] H2 s' V A2 (.mk v l _ os2 hT (c4.trans g10) g6 g7 g8 g9 (hv.take f2)))
 cases hP with
|ret l h hl hf=>cases hF' with|ret hv=>exact key _ _ l h hv hl hf
|next l h hl hf=>cases hF';exact key (.val .none) _ l h (.val _) hl (by simpa [SV.fit] using hf)
example:True:=by w_top off;trivial
theorem fc{c:Int}{tl:LI}{y:Int}(h0:0<=y):ay (c::tl) y=if y<8 then Builtin.bitAnd c (1*2^(y%8).toNat) != 0 else ay tl (y-8):=by
 unfold ay
 refine aa (List.length_cons ..) ?_
 have e:(y-8)%8=y%8:=by exact(r5 [.Q 8 .A .C (.s .D .y),.Q 8 .B .E .D] (.E .C .E)) (dJ 8) (dJ 8)
 split
 ·exact aa (if_neg (by exact(aG [.W 8 .A .B,.M (.t (.p .a .u)) .A] (.x (.L .B .y))) (aM 8) ‹_›) ..) (aa (if_pos (by exact(tj [.Q 8 .C .A (.s .B .y),.Q 8 .E .D .B,.M (.t (.p .a .u)) .E] (.M (.t .a) .C)) (dJ 8) (dJ 8) ‹_›) ..) rfl)
 ·split
  ·refine aa (show (y/8).toNat=0 by exact(aG [.W 8 .B .A,.T .a .B,.L .A .y] (.e .a .o)) (aM 8) (bz _) ‹_›) ?_;rfl
  ·refine aa (if_neg (by exact(tj [.Q 8 .C .A (.s .B .y),.Q 8 .E .D .B,.x (.M (.t (.p .a .u)) .E)] (.x (.M (.t .a) .C))) (dJ 8) (dJ 8) ‹_›) ..) (aa (e ..) (aa (show (y/8).toNat=((y-8)/8).toNat+1 by exact(t4 [.E .A .D,.Q 8 .C .A (.s .B .y),.Q 8 .E .D .B,.T .a .E,.T .b .C,.x (.L .B .y)] (.e .a (.p .b .u))) e (dJ 8) (dJ 8) (bz _) (bz _) ‹_›) ?_));rfl
theorem lg(N k:Nat)(c:Int)(tl:LI):((bY N k c 0 tl).map (·.1)).Pairwise (· < ·)/\∀x:Int,x∈(bY N k c 0 tl).map (·.1)<->8*(k:Int)<=x/\x<8*k+8/\Builtin.bitAnd c (1*2^(x-8*k).toNat)≠0:=by
 have e:(bY N k c 0 tl).map (·.1)=(cX c 0).map fun j:Nat=>8*(k:Int)+(j:Int):=by unfold bY;refine aa (List.map_map ..) ?_;rfl
 refine aa (e ..) ?_
 refine⟨List.pairwise_map.mpr ((List.Pairwise.filter _ (List.pairwise_lt_range' (s:=0) (n:=8))).imp fun h=>by exact(av [.l .a .b] (.L (.p (.k 8 (.t .c)) (.t .a)) (.p (.k 8 (.t .c)) (.t .b)))) h),fun x=>?_⟩
 rw[Zc]
 constructor
 ·rintro ⟨j,hj,rfl⟩
  obtain⟨h1,h2⟩:=Ze.mp hj
  have h1:=List.mem_range'_1.mp h1
  refine⟨by exact(ah [] (.M (.k 8 (.t .a)) (.p (.k 8 (.t .a)) (.t .b)))),by exact(av [.d (.m .o .a) (.l .a (.p .o .b)),.S .b .y .o] (.L (.p (.k 8 (.t .c)) (.t .a)) (.p (.k 8 (.t .c)) .y))) h1 (bc _ _),?_⟩
  refine aa (show (8*(k:Int)+(j:Int)-8*k).toNat=j by exact(av [.T .a (.s (.p (.k 8 (.t .b)) (.t .c)) (.k 8 (.t .b)))] (.e .a .c)) (bz _)) ?_
  simpa using h2
 ·rintro ⟨h1,h2,h3⟩
  refine⟨(x-8*k).toNat,Ze.mpr ⟨List.mem_range'_1.mpr ⟨by exact(c8 [.T .a (.s .A (.k 8 (.t .b)))] (.m .o .a)) (bz _),by exact(ow [.L .A (.p (.k 8 (.t .a)) .y),.T .b (.s .A (.k 8 (.t .a))),.S .c .y .o] (.l .b (.p .o .c))) h2 (bz _) (bc _ _)⟩,by simpa using h3⟩,by exact(c8 [.M (.k 8 (.t .a)) .A,.T .b (.s .A (.k 8 (.t .a)))] (.E (.p (.k 8 (.t .a)) (.t .b)) .A)) h1 (bz _)⟩
theorem iv(N:Nat)(tl:LI):∀k:Nat,((cv N k tl).map (·.1)).Pairwise (· < ·)/\∀x:Int,x∈(cv N k tl).map (·.1)<->8*(k:Int)<=x/\ay tl (x-8*k)=true:=by
 induction tl with
|nil=>exact fun k=>⟨List.Pairwise.nil,fun x=>⟨(fun h=>nomatch h),fun ⟨h1,h2⟩=>by
   unfold ay at h2
   rw[if_pos (by simp;lia)] at h2;exact nomatch h2⟩⟩
|cons c tl ih =>
  intro k
  obtain⟨a1,a2⟩:=lg N k c tl
  obtain⟨b1,b2⟩:=ih (k+1)
  have e:(cv N k (c::tl)).map (·.1)=(bY N k c 0 tl).map (·.1)++(cv N (k+1) tl).map (·.1):=List.map_append
  refine aa (e ..) ?_
  refine⟨List.pairwise_append.mpr ⟨a1,b1,fun x hx y hy=>?_⟩,fun x=>?_⟩
  ·have:=((a2 x).mp hx).2.1
   have:=((b2 y).mp hy).1
   exact Int.lt_of_lt_of_le ‹_› ‹_›
  ·rw[ZS,a2,b2]
   constructor
   ·rintro (⟨h1,h2,h3⟩|⟨h1,h2⟩)
    ·refine⟨h1,?_⟩
     refine aa (fc (by exact(aR [.M (.k 8 (.t .a)) .A] (.M .o (.s .A (.k 8 (.t .a))))) h1) ..) (aa (if_pos (by exact(aR [.L .A (.p (.k 8 (.t .a)) .y)] (.L (.s .A (.k 8 (.t .a))) .y)) h2) ..) (aa (show (x-8*(k:Int))%8=x-8*k by exact(eZ [.M (.k 8 (.t .a)) .B,.L .B (.p (.k 8 (.t .a)) .y),.Q 8 .A .C (.s .B (.k 8 (.t .a)))] (.E .C (.s .B (.k 8 (.t .a))))) h1 h2 (dJ 8)) ?_))
     simpa using h3
    ·refine⟨by exact(aR [.M (.k 8 (.t (.p .a .u))) .A] (.M (.k 8 (.t .a)) .A)) h1,?_⟩
     refine aa (fc (by exact(aR [.M (.k 8 (.t (.p .a .u))) .A] (.M .o (.s .A (.k 8 (.t .a))))) h1) ..) (aa (if_neg (by exact(aR [.M (.k 8 (.t (.p .a .u))) .A] (.x (.L (.s .A (.k 8 (.t .a))) .y))) h1) ..) (aa (show x-8*(k:Int)-8=x-8*((k+1:Nat):Int) by exact(aR [] (.E (.s (.s .A (.k 8 (.t .a))) .y) (.s .A (.k 8 (.t (.p .a .u))))))) ?_))
     exact h2
   ·rintro ⟨h1,h2⟩
    rw[fc (by exact(aR [.M (.k 8 (.t .a)) .A] (.M .o (.s .A (.k 8 (.t .a))))) h1)] at h2
    split at h2
    ·refine .inl ⟨h1,by exact(aR [.L (.s .A (.k 8 (.t .a))) .y] (.L .A (.p (.k 8 (.t .a)) .y))) ‹_›,?_⟩
     rw[show (x-8*(k:Int))%8=x-8*k by exact(eZ [.M (.k 8 (.t .a)) .B,.Q 8 .A .C (.s .B (.k 8 (.t .a))),.L (.s .B (.k 8 (.t .a))) .y] (.E .C (.s .B (.k 8 (.t .a))))) h1 (dJ 8) ‹_›] at h2
     simpa using h2
    ·refine .inr ⟨by exact(aR [.x (.L (.s .A (.k 8 (.t .a))) .y)] (.M (.k 8 (.t (.p .a .u))) .A)) ‹_›,?_⟩
     refine aa (show x-8*((k+1:Nat):Int)=x-8*(k:Int)-8 by exact(aR [] (.E (.s .A (.k 8 (.t (.p .a .u)))) (.s (.s .A (.k 8 (.t .a))) .y)))) ?_
     exact h2
theorem rc{bs:LI}(tl:LI):∀k,bs.drop k=tl->∀e∈cv bs.length k tl,e.2 (ba bs):=by
 induction tl with
|nil=>exact fun O O O h=>nomatch h
|cons c tl ih =>
  intro k hd e he
  have hd':bs.drop (k+1)=tl:=by refine aA (List.drop_drop ..) (aa (hd ..) ?_);rfl
  rcases ZS.mp he with he|he
  ·obtain⟨j,_,rfl⟩:=Zc.mp he
   exact⟨bs,rfl,rfl,hd'⟩
  ·exact ih (k+1) hd' e he
structure ar(bs cs:LI):Prop where
 len:bs.length<=3
 byte:∀c∈bs,0<=c/\c<256
 up:Up cs
 rng:∀z∈cs,0<=z/\z<20
 mem:∀z:Int,0<=z->(ay bs z=true<->z∈cs)
theorem b6{a b:LI}(ha:Up a)(hb:Up b)(h:∀x,x∈a<->x∈b):a=b :=
 List.Perm.eq_of_pairwise (fun O O O O h1 h2=>absurd (Int.lt_trans h1 h2) (Int.lt_irrefl _)) ha hb ((List.perm_ext_iff_of_nodup (ha.imp fun h e=>by rw[e] at h;exact Int.lt_irrefl _ h) (hb.imp fun h e=>by rw[e] at h;exact Int.lt_irrefl _ h)).mpr h)
theorem ar.walk{bs cs:LI}(h:ar bs cs):(cv bs.length 0 bs).map (·.1)=cs:=by
 obtain⟨a1,a2⟩:=iv bs.length bs 0
 refine b6 a1 h.up fun x=>?_
 rw[a2,show x-8*((0:Nat):Int)=x by exact(aO [] (.E (.s .A (.k 8 (.t .o))) .A))]
 exact⟨fun hZ19=>by obtain⟨h1,h2⟩:=hZ19;exact(h.mem x ‹_›).mp h2,fun hx=>⟨by have:=h.rng x hx;exact(aO [.d (.M .o .A) (.L .A .x)] (.M (.k 8 (.t .o)) .A)) this,(h.mem x (h.rng x hx).1).mpr hx⟩⟩
theorem cH{cs:LI}(h:Up cs):cs.Nodup:=h.imp fun h e=>by rw[e] at h;exact Int.lt_irrefl _ h
inductive jm
|bits (bs:LI)
|sis (cs:LI)
|set (so:Obj) (a b:LI)
|list (zs a b:LI)
noncomputable def o1:jm->Nat->SO
|.bits _,b=>.inst 514 (b+1)
|.sis _,b=>.inst 646 (b+1)
|.set so _ _,_=>.obj (·=so)
|.list zs _ _,_=>.nums zs
noncomputable def o2:jm->Nat->SO
|.bits _,b=>.attrs [("bits",.ref (b+2))]
|.sis _,b=>.attrs [("data",.ref (b+2)),("typecode",.str "I")]
|.set _ a _,_=>.nums a
|.list _ a _,_=>.nums a
noncomputable def o3:jm->SO
|.bits bs=>.nums bs
|.sis cs=>.nums cs
|.set _ _ b=>.nums b
|.list _ _ b=>.nums b
noncomputable abbrev kO(k:jm):List SO:=[o1 k 0,o2 k 0,o3 k]
noncomputable def pR(w:World)(cs:LI):jm->Prop
|.bits bs=>ar bs cs
|.sis cs'=>cs'=cs
|.set so _ _=>aB w cs so
|.list zs _ _=>zs=cs
theorem kN(k:jm):(kO k).all (·.fit (kO k).length)=true:=by cases k <;> rfl
theorem qW(w:World)(cs:LI):gL w 2 552 3 (·=b9 cs) [.ref 0] (sK 2 cs):=by
 refine' jR (Γo:=b9 cs) ["self"] ?ho ?hcd ?hb ?hx ?nd ?hl ?H ?hlv ?c1 ?c2 ?c3 ?c4
 k_extra "cx"
 case hlv=>exact Nat.le_succ 1
 exact fun c=>⟨_,iB.iter (v:=.ref 2) (.bi (by k_is) boot_iter) (.attr (.name vS) vS vS vS (ji w) af) (bC w cs 2 3 (by decide) (K₀:=(·=b9 cs)) fun l h=>by refine aa (h ..) ?_;rfl) ⟨b9 cs,ab vS vS vS,vT,rfl⟩ (nd:=List.nodup_range)⟩
theorem kQ(w:World):findIn (hd.heap_1 w.params) (.ref 514) "__iter__"=some (some (.ref 306)):=by k_is
theorem r8(w:World):findIn (hd.heap_1 w.params) (.ref 646) "__iter__"=some (some (.ref 552)):=by k_is
theorem pJ.imp{w:World}{lvl lvl':Nat}{v:SV}{n:Nat}{K₀:OP}{Ok Ok':String->(List SO->Prop)->KL->Prop}(B:pJ w lvl v n K₀ Ok)(h:lvl<=lvl')(hO:∀T K l,Ok T K l->Ok' T K l):pJ w lvl' v n K₀ Ok':=fun ρ u h1 h2 h3 =>
 (B ρ u h1 h2 h3).mono h fun n r f p hP=>by
  obtain⟨T,b,I,K,l,q1,q2,q3,q4,q5⟩:=hP.mono h (ZZ _)
  exact⟨T,b,I,K,l,q1,q2,hO _ _ _ q3,q4,q5⟩
def KP(k:jm)(cs ys:LI):Prop:=ys.Perm cs/\((∀so a b,k≠.set so a b)->ys=cs)
theorem iP(w:World){k:jm}{cs:LI}(K:pR w cs k)(hU:Up cs)(hr:∀z∈cs,0<=z/\z<20):pJ w 4 (.ref 0) 3 (·=kO k) (pI (kO k) (KP k cs)):=by
 cases k with
|bits bs =>
  refine(cK (K₀:=(·=ba bs)) (kQ w) (by k_is) (fun l h=>by subst h;exact⟨1,_,vS,vS⟩) (me w bs)).imp (ZZ _) fun T K' l hO=>?_
  obtain⟨_,rfl,rfl⟩:=hO
  exact⟨by refine aa (ar.walk K ..) ?_;exact⟨.refl _,fun O=>rfl⟩,⟨bs,rfl,rfl,rfl⟩,rc bs 0 rfl⟩
|sis cs' =>
  have K:cs'=cs:=K
  subst K
  refine(cK (K₀:=(·=b9 cs')) (r8 w) (by k_is) (fun l h=>by subst h;exact⟨1,_,vS,vS⟩) (qW w cs')).imp (by decide) fun T K' l hO=>?_
  obtain⟨h1,h2,h3⟩:=cR (Γo:=b9 cs') vS T K' l hO
  exact⟨by refine aa (h1 ..) ?_;exact⟨.refl _,fun O=>rfl⟩,h2,h3⟩
|set so a b=>exact(dE w K (db hU hr) (kO (.set so a b)) 0 vS).imp (Zf _) fun O O O h=>⟨⟨h.1,fun hn=>absurd rfl (hn so a b)⟩,h.2⟩
|list zs a b =>
  have K:zs=cs:=K
  subst K
  refine(bC w zs 0 3 (by decide) (K₀:=(·=kO (.list zs a b))) fun l h=>by refine aa (h ..) ?_;rfl).imp (Zf _) fun T K' l hO=>?_
  obtain⟨h1,h2,h3⟩:=cR (Γo:=kO (.list zs a b)) vS T K' l hO
  exact⟨by refine aa (h1 ..) ?_;exact⟨.refl _,fun O=>rfl⟩,h2,h3⟩
section
variable{w:World}{κ:CK}{c:Cx w κ}{Γ Γ₁:G}
theorem nd3(b:Nat):[b,b+1,b+2].Nodup:=by simp
theorem gi{k:jm}{b:Nat}(h0:Γ.o[b]?=some (o1 k b))(h1:Γ.o[b+1]?=some (o2 k b))(h2:Γ.o[b+2]?=some (o3 k)):Fits Γ [b,b+1,b+2] [b,b+1,b+2] (kO k) :=
 ab (by refine aa (h0 ..) ?_;cases k <;> rfl) (by refine aa (h1 ..) ?_;cases k <;> rfl) (by refine aa (h2 ..) ?_;cases k <;> rfl)
theorem iQ{k:jm}{cs:LI}(K:pR w cs k)(hU:Up cs)(hr:∀z∈cs,0<=z/\z<20){b:Nat}{e:Expr}(he:Ev c Γ e (.ref b) Γ₁)(h0:Γ₁.o[b]?=some (o1 k b))(h1:Γ₁.o[b+1]?=some (o2 k b))(h2:Γ₁.o[b+2]?=some (o3 k))(hlv:Nat.ble 4 κ.lv=true:=by exact vT):bH c Γ e 4 [b,b+1,b+2] (pI (kO k) (KP k cs)) Γ₁ :=
 .of (σ:=[b,b+1,b+2]) (v:=.ref 0) he (iP w K hU hr) ⟨_,gi h0 h1 h2,kN k,rfl⟩ vT (nd3 b) (by
  have a0:=(ZB.mp h0).1
  have a1:=(ZB.mp h1).1
  have a2:=(ZB.mp h2).1
  simp[Nat.blt_eq,a0,a1,a2]) hlv
theorem dC{k:jm}{cs:LI}(K:pR w cs k)(hn:∀zs a b,k≠.list zs a b)(hU:Up cs)(hr:∀z∈cs,0<=z/\z<20){b:Nat}(h0:Γ.o[b]?=some (o1 k b))(h1:Γ.o[b+1]?=some (o2 k b))(h2:Γ.o[b+2]?=some (o3 k)){z:Int}(hz:0<=z)(hlv:Nat.ble 3 κ.lv=true:=by exact vT):eO c Γ .In (.int z) (.ref b) (z∈cs)/\eO c Γ .NotIn (.int z) (.ref b) (z∉cs):=by
 have hl:=db hU hr
 cases k with
|bits bs =>
  have K:ar bs cs:=K
  have H:rF c Γ (.ref b) z (z∈cs):=by
   have:=rF.inst (c:=c) (z:=z) h0 h1 (lc w) (by k_is) (ae.ro (d1 w bs K.len z hz) [b,b+1,b+2] (ab h0 h1 h2) rfl (nd3 b) vT hlv).cal
   rwa [show (ay bs z=true)=(z∈cs) from propext (K.mem z hz)] at this
  exact⟨.isin H,.notin H⟩
|sis cs' =>
  have K:cs'=cs:=K
  subst K
  have H:rF c Γ (.ref b) z (z∈cs'):=by
   have:=rF.inst (c:=c) (z:=z) h0 h1 (pq w) (by k_is) (ae.ro (fx w cs' (by exact ZW ‹_› (by decide)) hU z) [b,b+1,b+2] (ab h0 h1 h2) rfl (nd3 b) vT (Nat.ble_eq.mpr (ZW (by decide) (ZJ hlv)))).cal
   rwa [show (decide (z∈cs')=true)=(z∈cs') from propext decide_eq_true_iff] at this
  exact⟨.isin H,.notin H⟩
|set so a b'=>exact⟨.inS h0 (fun o e=>by refine aa (e ..) ?_;exact K) (by exact ZW ‹_› (by decide)),.ninS h0 (fun o e=>by refine aa (e ..) ?_;exact K) (by exact ZW ‹_› (by decide))⟩
|list zs a b'=>exact absurd rfl (hn zs a b')
end
example:True:=by w_top off;trivial
theorem aE.pre{w:World}{lvl:Nat}{b I:Addr}{D':DC}:∀{l:LD} {D:DC} {own:AO} {pg:Gs},aE w lvl b I D l own pg->(∀h,D' h->D h/\∀e∈l,e.2 h)->aE w lvl b I D' (l.map fun e=>(e.1,D')) own pg
|[],_,_,_,h,hD=>aE.nil (bI.imp h (fun O O x=>⟨x.1,(hD _ x.2).1⟩) fun O O O O x=>x)
|(z,D1)::l,_,_,_,h,hD=>by
  show aE w lvl b I D' ((z,D')::l.map fun e=>(e.1,D')) _ _
  exact aE.cons (bI.imp h (fun O O x=>⟨x.1,(hD _ x.2).1⟩) fun O O O O x=>⟨x.1,aE.pre x.2 fun h hh=>⟨(hD h hh).2 _ (.head _),fun e he=>(hD h hh).2 e (.tail _ he)⟩⟩)
section
variable{w:World}{κ:CK}{lvl:Nat}{c:Cx w κ}{Γ Γ₁:G}{σ:LN}
theorem bH.widen{e:Expr}{Γo:LO}{p:List Int->Prop}(B:bH c Γ e lvl σ (pI Γo p) Γ₁)(τ:LN)(X:LO)(hl:Γo.length=σ.length)(hf:Γo.all (·.fit Γo.length)=true)(hσ:((σ++τ).all fun i=>Nat.blt i Γ₁.o.length)=true):bH c Γ e lvl (σ++τ) (pI (Γo++X) p) Γ₁:=fun ρ s Q E S KK =>
 B ρ s Q E S fun it ρ' s' hp IH=>KK it ρ' s' hp (by
  cases IH with|mk T b K l own pg ρc hOk hself hi hb n2 p2 hs hg hg2 ho S' =>
  obtain⟨h1,h2,h3⟩:=hOk
  obtain⟨ρd,n3,p3,_⟩:=ed S' hσ
  have e9:ρd.take σ.length=ρc:=List.ext_getElem? fun i=>by
   refine aa (Zy ..) ?_
   split
   ·rename_i hi
    rw[p3 i _ (by rw[ZH hi];exact ZA hi),p2 i _ (ZA hi)]
   ·rename_i hi
    exact aa (Zh (by exact(av [.e .a .b,.x (.l .c .b)] (.m .a .c)) n2 hi) ..) rfl
  have key:∀{K':OP},K' Γo->∀h,dOf w ρd (·=Γo++X) h->dOf w ρc K' h:=fun hK h hZ=>by
   obtain⟨l9,os,q0,q1,q2,q3,q4⟩:=hZ
   subst q0
   refine⟨Γo,os.take σ.length,hK,?_,?_,fun i so o e1 e2=>?_,fun q hq=>q4 q ?_⟩
   ·exact aA (e9 ..) (aa (Zv ..) (aa (Zv ..) (aa (q1 ..) rfl)))
   ·refine aa (Zv ..) ?_;rw[Zl] at q2;exact(c7 [.e .a .b,.e (.p .a .c) .d,.I .e .b .d] (.e .a .e)) hl q2 (iX _ _)
   ·have hi:i<σ.length:=by refine aA (hl ..) ?_;exact(ZB.mp e1).1
    rw[Zy,if_pos hi] at e2
    have:=q3 i so o (by refine aa (ZH (by exact Za ‹_› (Eq.symm ‹_›)) ..) ?_;exact e1) e2
    refine aA (e9 ..) (aA (hl ..) ?_)
    exact this.take (Zp.mp hf so (ZQ e1))
   ·rw[<- e9,List.zip_eq_zipWith,<- List.take_zipWith,<- List.zip_eq_zipWith] at hq
    exact List.mem_of_mem_take hq
  exact .mk T b (·=Γo++X) (l.map fun e=>(e.1,(·=Γo++X))) own pg ρd ⟨by refine aa (List.map_map ..) ?_;exact h1,rfl,fun e he=>by obtain⟨_,_,rfl⟩:=Zc.mp he;rfl⟩ hself (by
   have:=hi.pre fun h hh=>⟨key h2 h hh,fun e he=>by
    obtain⟨y,hy,rfl⟩:=Zc.mp he
    exact key (h3 y hy) h hh⟩
   rw[List.map_map] at this
   show aE _ _ _ _ _ (List.map _ (List.map _ _)) _ _
   refine aa (List.map_map ..) ?_
   exact this) hb n3 p3 hs hg hg2 ho S')
end
theorem cb.iff{w:World}{κ:CK}{c:Cx w κ}{Γ Γ':G}{e:Expr}{φ ψ:Prop}(h:cb c Γ e φ Γ')(hi:φ<->ψ):cb c Γ e ψ Γ':=propext hi▸h
noncomputable def eN(cl:List (Str×Addr)):List (Str×NameKind)->List (Str×Addr)->List (Str×Addr)->Prop
|[],acc,l=>l=acc
|(n,k)::r,acc,l=>if k == .free then ∃a,cl.lookup n=some a/\eN cl r ((n,a)::acc) l else eN cl r acc l
theorem jg{scope:Scope}{env:Env}{l:List (Str×Addr)}(h:eN env.cells scope.names [] l):closureFor scope env=pure l:=by
 have key:∀(names:List (Str×NameKind)) (acc:List (Str×Addr)),eN env.cells names acc l->(forIn names acc fun (x:Str×NameKind) (__s:List (Str×Addr))=>if (x.2 == NameKind.free)=true then (do let a <- cellOf env x.1;pure (ForInStep.yield ((x.1,a)::__s))) else pure (ForInStep.yield __s):Sem (List (Str×Addr)))=pure l:=by
  intro names
  induction names with
 |nil=>intro acc h;rw[List.forIn_nil,show l=acc from h]
 |cons x names ih =>
   intro acc h
   obtain⟨n,k⟩:=x
   refine aa (List.forIn_cons ..) ?_
   dsimp only
   have h:(if k == .free then ∃a,env.cells.lookup n=some a/\eN env.cells names ((n,a)::acc) l else eN env.cells names acc l):=h
   by_cases hk:(k == NameKind.free)=true
   ·rw[if_pos hk] at h
    obtain⟨a,ha,h⟩:=h
    refine aa (if_pos hk ..) ?_
    have e:cellOf env n=pure a:=by unfold cellOf;rw[ha]
    refine aa (e ..) ?_
    exact ih _ h
   ·rw[if_neg hk] at h
    refine aa (if_neg hk ..) ?_
    exact ih _ h
 exact congrArg (fun m:Sem (List (Str×Addr))=>m >>= fun s=>pure s) (key scope.names [] h)
theorem rB{w:World}{κ κ':CK}{c:Cx w κ}{x:Str}{i j:Nat}{σ:LN}(hc:∀a,c.cl.lookup x=some a->eN c.cl κ'.cs.names [] [(x,a)])(h:κ.cm.lookup x=some j)(h':κ'.cm=[(x,i)])(hσ:σ[i]?=some j):tL c κ' σ:=by
 obtain⟨a,_,ha⟩:=c.hcl x j h
 refine⟨[(x,a)],jg (hc a ha),fun y n e=>?_⟩
 rw[h'] at e
 rw[List.lookup_cons] at e
 cases hb:y == x with
|false=>rw[hb] at e;exact nomatch e
|true =>
  rw[hb] at e;obtain rfl:=ZK e
  refine aa (eq_of_beq hb ..) ?_
  exact⟨j,h,hσ,by exact aa (ha ..) (aa (List.lookup_cons ..) (aa (show (x == x)=true from BEq.rfl) vS))⟩
example : True :=by
 (k_with "cxc" => ((case ho => k_is); (case hcd => k_is); (case hkind => exact rfl); (case hnd => decide +kernel); (case hcm => exact rfl); (case c1 => exact rfl); (case c2 => exact rfl); (case c3 => exact rfl)))
 trivial
theorem kT(w:World){k:jm}{cs ks:LI}(K:pR w ks k)(hn:∀zs a b,k≠.list zs a b)(hkU:Up ks)(hkr:∀z∈ks,0<=z/\z<20)(hU:Up cs)(hr:∀z∈cs,0<=z/\z<20):az w 10 594 (b9 cs++[o1 k 3,o2 k 3,o3 k,.tab 6 589 ⟨381,41,381,78⟩]) [.ref 0,.ref 3] []
  (ch (.val .none) [.inst 646 1,.attrs [("data",.ref 8),("typecode",.str "I")],.nums cs,o1 k 3,o2 k 3,o3 k,.tab 6 589 ⟨381,41,381,78⟩,.cell (.ref 3),.nums (cs.filter fun z=>decide (z∈ks))]):=by
 refine' ec (fa:=[.ref 0,.ref 3]) (lm:=[("self",.ref 0)]) (cso:=[.cell (.ref 3)]) (cm:=[("other",7)]) ["self","other"] ?ho ?hcd ?hb ?hkind ?hnd ?hcm ?hM ?hC ?H ?c1 ?c2 ?c3
 k_extra "cxc"
 case hb =>
  intro ρ s us ks X hu hks
  obtain rfl:ks=[]:=ZG.mp hks.1
  refine⟨us,hu,?_⟩
  obtain⟨_,_,rfl,h2,t⟩:=hu.consI
  replace t:=t.consI;obtain⟨_,_,rfl,h3,t⟩:=t
  obtain rfl:=t.nilI
  exact BindsTo.of_eq rfl
 case hM =>
  intro ρ us hu
  obtain⟨_,_,rfl,h2,t⟩:=hu.consI
  replace t:=t.consI;obtain⟨_,_,rfl,h3,t⟩:=t
  obtain rfl:=t.nilI
  exact .cons vS h2 .nil
 case hC =>
  intro ρ us hu
  obtain⟨_,_,rfl,h2,t⟩:=hu.consI
  replace t:=t.consI;obtain⟨_,_,rfl,h3,t⟩:=t
  obtain rfl:=t.nilI
  exact .cons (fun o h=>.cell h h3) .nil
 intro c hc
 have hl:=db hU hr
 have f7:Fits ⟨[("self",.ref 0)],b9 cs++[o1 k 3,o2 k 3,o3 k,.tab 6 589 ⟨381,41,381,78⟩]++[.cell (.ref 3)]⟩ [0,1,2,3,4,5,7] [0,1,2,3,4,5,7] (b9 cs++[o1 k 3,o2 k 3,o3 k,.cell (.ref 3)]):=.cons vS (.cons vS (.cons vS (.cons (by cases k <;> rfl) (.cons (by cases k <;> rfl) (.cons (by cases k <;> rfl) (.cons vS .nil))))))
 have ft:(b9 cs++[o1 k 3,o2 k 3,o3 k,.cell (.ref 3)]).all (·.fit (b9 cs++[o1 k 3,o2 k 3,o3 k,SO.cell (.ref 3)]).length)=true:=by cases k <;> rfl
 rw[show (cs.filter fun z=>decide (z∈ks))=((cs.filter fun z=>decide (z∈ks)).map fun z=>z) by rw[List.map_id']]
 refine .cons (.setAttr (.arrayG (σ:=[0,1,2,3,4,5,7]) (.glob (cu w)) (cr w) (.attr (.name vS) vS vS vS (mi w) cT) (iB.gx (σ:=[0,1,2,3,4,5,7]) (κ':=⟨_,4,7,7,[("other",6)]⟩) (p:=fun z=>decide (z∈ks)) (f:=fun z=>z) ((iQ (k:=.sis cs) rfl hU hr (b:=0) (.name rfl) rfl rfl rfl).widen [3,4,5,7] [o1 k 3,o2 k 3,o3 k,.cell (.ref 3)] rfl vT vT) f7 ft (fun T K' l hO=>⟨hO.1.2 (fun O O O e=>nomatch e),hO.2⟩) ⟨fun c' z hz=>.one ((cb.cmp (.name rfl) (.free (i:=6) rfl) (dC K hn hkU hkr (b:=3) rfl rfl rfl (hr z hz).1).1).iff decide_eq_true_iff.symm),fun c' z hz O=>.name vS⟩ (j:=6) vS (pj _) hc (rB (x:="other") (i:=6) (j:=7) (fun a ha=>⟨a,ha,rfl⟩) vS rfl vS) vT (by decide) (by decide) vT rfl rfl (ZZ _) (ZZ _) (by decide) vS vS rfl rfl fun O O=>rfl) (fun T K' l h=>h.1▸fM w) (cI f7 ft) ?_) (.name vS) vS vS (cP w) (.nil (.next _ ⟨rfl,rfl⟩ .same (by cases k <;> rfl))))
 refine aa (Zm ..) ?_;exact ZW (List.length_filter_le _ _) (by exact ZW ‹_› (by decide))
theorem ja(w:World){k:jm}{cs ks:LI}(K:pR w ks k)(hn:∀zs a b,k≠.list zs a b)(hkU:Up ks)(hkr:∀z∈ks,0<=z/\z<20)(hU:Up cs)(hr:∀z∈cs,0<=z/\z<20):az w 10 601 (b9 cs++[o1 k 3,o2 k 3,o3 k,.tab 6 596 ⟨384,41,384,82⟩]) [.ref 0,.ref 3] []
  (ch (.val .none) [.inst 646 1,.attrs [("data",.ref 8),("typecode",.str "I")],.nums cs,o1 k 3,o2 k 3,o3 k,.tab 6 596 ⟨384,41,384,82⟩,.cell (.ref 3),.nums (cs.filter fun z=>decide (z∉ks))]):=by
 refine' ec (fa:=[.ref 0,.ref 3]) (lm:=[("self",.ref 0)]) (cso:=[.cell (.ref 3)]) (cm:=[("other",7)]) ["self","other"] ?ho ?hcd ?hb ?hkind ?hnd ?hcm ?hM ?hC ?H ?c1 ?c2 ?c3
 k_extra "cxc"
 case hb =>
  intro ρ s us ks X hu hks
  obtain rfl:ks=[]:=ZG.mp hks.1
  refine⟨us,hu,?_⟩
  obtain⟨_,_,rfl,h2,t⟩:=hu.consI
  replace t:=t.consI;obtain⟨_,_,rfl,h3,t⟩:=t
  obtain rfl:=t.nilI
  exact BindsTo.of_eq rfl
 case hM =>
  intro ρ us hu
  obtain⟨_,_,rfl,h2,t⟩:=hu.consI
  replace t:=t.consI;obtain⟨_,_,rfl,h3,t⟩:=t
  obtain rfl:=t.nilI
  exact .cons vS h2 .nil
 case hC =>
  intro ρ us hu
  obtain⟨_,_,rfl,h2,t⟩:=hu.consI
  replace t:=t.consI;obtain⟨_,_,rfl,h3,t⟩:=t
  obtain rfl:=t.nilI
  exact .cons (fun o h=>.cell h h3) .nil
 intro c hc
 have hl:=db hU hr
 have f7:Fits ⟨[("self",.ref 0)],b9 cs++[o1 k 3,o2 k 3,o3 k,.tab 6 596 ⟨384,41,384,82⟩]++[.cell (.ref 3)]⟩ [0,1,2,3,4,5,7] [0,1,2,3,4,5,7] (b9 cs++[o1 k 3,o2 k 3,o3 k,.cell (.ref 3)]):=.cons vS (.cons vS (.cons vS (.cons (by cases k <;> rfl) (.cons (by cases k <;> rfl) (.cons (by cases k <;> rfl) (.cons vS .nil))))))
 have ft:(b9 cs++[o1 k 3,o2 k 3,o3 k,.cell (.ref 3)]).all (·.fit (b9 cs++[o1 k 3,o2 k 3,o3 k,SO.cell (.ref 3)]).length)=true:=by cases k <;> rfl
 rw[show (cs.filter fun z=>decide (z∉ks))=((cs.filter fun z=>decide (z∉ks)).map fun z=>z) by rw[List.map_id']]
 refine .cons (.setAttr (.arrayG (σ:=[0,1,2,3,4,5,7]) (.glob (cu w)) (cr w) (.attr (.name vS) vS vS vS (mi w) cT) (iB.gx (σ:=[0,1,2,3,4,5,7]) (κ':=⟨_,4,7,7,[("other",6)]⟩) (p:=fun z=>decide (z∉ks)) (f:=fun z=>z) ((iQ (k:=.sis cs) rfl hU hr (b:=0) (.name rfl) rfl rfl rfl).widen [3,4,5,7] [o1 k 3,o2 k 3,o3 k,.cell (.ref 3)] rfl vT vT) f7 ft (fun T K' l hO=>⟨hO.1.2 (fun O O O e=>nomatch e),hO.2⟩) ⟨fun c' z hz=>.one ((cb.cmp (.name rfl) (.free (i:=6) rfl) (dC K hn hkU hkr (b:=3) rfl rfl rfl (hr z hz).1).2).iff decide_eq_true_iff.symm),fun c' z hz O=>.name vS⟩ (j:=6) vS (ph _) hc (rB (x:="other") (i:=6) (j:=7) (fun a ha=>⟨a,ha,rfl⟩) vS rfl vS) vT (by decide) (by decide) vT rfl rfl (ZZ _) (ZZ _) (by decide) vS vS rfl rfl fun O O=>rfl) (fun T K' l h=>h.1▸fM w) (cI f7 ft) ?_) (.name vS) vS vS (cP w) (.nil (.next _ ⟨rfl,rfl⟩ .same (by cases k <;> rfl))))
 refine aa (Zm ..) ?_;exact ZW (List.length_filter_le _ _) (by exact ZW ‹_› (by decide))
example:True:=by w_top off;trivial
noncomputable def tb(x:Int)(j:Nat):Bool:=x/2^j%2 == 1
theorem dy(x:Int):tb x 0=(x%2 == 1):=by unfold tb;rw[Int.pow_zero,Int.ediv_one]
theorem dz(x:Int)(j:Nat):tb x (j+1)=tb (x/2) j:=by
 unfold tb
 rw[Int.ediv_ediv_of_nonneg (by decide),show (2:Int)^(j+1)=2*2^j by rw[Int.pow_succ,Int.mul_comm]]
theorem eR(j:Nat):∀x y:Int,tb (Builtin.bitAnd x y) j=(tb x j&&tb y j):=by
 induction j with
|zero =>
  intro x y
  refine aa (dy ..) (aa (dy ..) (aa (dy ..) (aa (kbt_halves x y ..) ?_)))
  rcases Int.emod_two_eq x with h|h <;> rcases Int.emod_two_eq y with h'|h' <;> simp[h,h'] <;> lia
|succ j ih =>
  intro x y
  refine aa (dz ..) (aa (dz ..) (aa (dz ..) (aA (ih ..) ?_)))
  congr 1
  refine aa (kbt_halves x y ..) ?_
  split <;> lia
theorem eQ(j:Nat):∀x:Int,tb (Builtin.bitNot x) j=!tb x j:=by
 induction j with
|zero =>
  intro x
  refine aa (dy ..) (aa (dy ..) (aa (kbt_not ..) ?_))
  rcases Int.emod_two_eq x with h|h
  ·refine aa (h ..) (aa (show (-x-1)%2=1 by exact(r5 [.E .C .o,.Q 2 .A .C .D,.Q 2 .B .E (.s (.j .D) .u)] (.E .E .u)) h (dJ 2) (dJ 2)) ?_);rfl
  ·refine aa (h ..) (aa (show (-x-1)%2=0 by exact(r5 [.E .C .u,.Q 2 .A .C .D,.Q 2 .B .E (.s (.j .D) .u)] (.E .E .o)) h (dJ 2) (dJ 2)) ?_);rfl
|succ j ih =>
  intro x
  refine aa (dz ..) (aa (dz ..) (aA (ih ..) (aa (kbt_not ..) (aa (kbt_not ..) ?_))))
  congr 1
  exact(dk [.W 2 .A (.s (.j .B) .u),.W 2 .C .B] (.E .A (.s (.j .C) .u))) (aM 2) (aM 2)
theorem sU(j:Nat)(x y:Int):tb (Builtin.bitOr x y) j=(tb x j||tb y j):=by
 show tb (Builtin.bitNot _) j=_
 refine aa (eQ ..) (aa (eR ..) (aa (eQ ..) (aa (eQ ..) ?_)))
 cases tb x j <;> cases tb y j <;> rfl
theorem ni(i:Nat):∀j:Nat,tb ((2:Int)^j) i=decide (i=j):=by
 induction i with
|zero =>
  intro j
  refine aa (dy ..) ?_
  cases j with
 |zero=>rfl
 |succ j=>refine aa (Int.pow_succ ..) (aa (Int.mul_emod_left ..) ?_);rfl
|succ i ih =>
  intro j
  refine aa (dz ..) ?_
  cases j with
 |zero=>unfold tb;refine aa (show (2:Int)^0/2=0 from rfl) (aa (Int.zero_ediv ..) ?_);rfl
 |succ j=>refine aa (Int.pow_succ ..) (aa (Int.mul_ediv_cancel _ (by decide) ..) (aa (ih ..) ?_));simp
theorem sG(x:Int)(j:Nat):(Builtin.bitAnd x (1*2^j) != 0)=tb x j:=by
 refine aa (Int.one_mul ..) (aa (kbt_bit ..) ?_)
 have:=kbt_pos j
 unfold tb
 rcases Int.emod_two_eq (x/2^j) with h|h
 ·refine aa (h ..) (aa (Int.zero_mul ..) ?_);rfl
 ·refine aa (h ..) (aa (Int.one_mul ..) ?_)
  have:(2:Int)^j≠0:=by exact(aO [.L .o .A] (.x (.E .A .o))) this
  simp[this]
theorem cA(bs:LI){z:Int}(h0:0<=z):ay bs z=(decide (z/8<bs.length)&&tb (bs.getD (z/8).toNat 0) (z%8).toNat):=by
 unfold ay
 split
 ·refine aa (decide_eq_false (by exact(aG [.W 8 .A .B,.M (.t .a) .A] (.x (.L .A (.t .a)))) (aM 8) ‹_›) ..) ?_;rfl
 ·refine aa (sG ..) (aa (decide_eq_true (by exact(aG [.W 8 .A .B,.x (.M (.t .a) .A)] (.L .A (.t .a))) (aM 8) ‹_›) ..) ?_);rfl
theorem oN(bs:LI)(i j:Nat)(x:Int)(hi:i<bs.length):(bs.set i x).getD j 0=if j=i then x else bs.getD j 0:=by
 refine aa (ZE ..) (aa (ZE ..) (aa (List.getElem?_set ..) ?_))
 by_cases e:i=j
 ·subst e;refine aa (if_pos rfl ..) (aa (if_pos hi ..) (aa (if_pos rfl ..) ?_));rfl
 ·exact aa (if_neg e ..) (aa (if_neg (Ne.symm e) ..) rfl)
theorem i6{bs:LI}{i:Nat}{x:Int}(hi:i<bs.length){z:Int}(h0:0<=z):ay (bs.set i x) z=if (z/8).toNat=i then tb x (z%8).toNat else ay bs z:=by
 refine aa (cA _ h0 ..) (aa (cA _ h0 ..) (aa (Zn ..) (aa (oN bs i _ x hi ..) ?_)))
 split
 ·refine aa (decide_eq_true (by lia) ..) ?_;rfl
 ·rfl
theorem jC{z i:Int}(h0:0<=z)(h1:0<=i):((z/8).toNat=(i/8).toNat/\(z%8).toNat=(i%8).toNat)<->z=i:=by
 constructor
 ·rintro ⟨a,b⟩
  have e:=congrArg Int.ofNat a
  have e2:=congrArg Int.ofNat b
  rw[Int.ofNat_eq_natCast,Int.ofNat_eq_natCast,Int.toNat_of_nonneg (Int.ediv_nonneg h0 (by decide)),Int.toNat_of_nonneg (Int.ediv_nonneg h1 (by decide))] at e
  rw[Int.ofNat_eq_natCast,Int.ofNat_eq_natCast,Int.toNat_of_nonneg (Int.emod_nonneg _ (by decide)),Int.toNat_of_nonneg (Int.emod_nonneg _ (by decide))] at e2
  exact aA (Int.mul_ediv_add_emod z 8 ..) (aa (e ..) (aa (e2 ..) (aa (Int.mul_ediv_add_emod ..) rfl)))
 ·rintro rfl;exact⟨rfl,rfl⟩
theorem qJ{bs:LI}{i z:Int}(h0:0<=i)(h1:i/8<bs.length)(hz:0<=z):ay (bj bs i) z=(ay bs z && !decide (z=i)):=by
 unfold bj
 refine aa (i6 (by exact(dj [.M .o .A,.L .B (.t .a),.W 8 .B .A,.T .b .B] (.l .b .a)) h0 h1 (aM 8) (bz _)) hz ..) ?_
 have h9:=jC hz h0
 split
 ·rename_i e
  refine aa (eR ..) (aa (eQ ..) (aa (Int.one_mul ..) (aa (ni ..) (aa (cA bs hz ..) (aa (e ..) (aa (decide_eq_true (show z/8<bs.length by exact(ti [.M .o .A,.L .B (.t .a),.e .b .c,.W 8 .B .A,.W 8 .C .D,.T .b .C,.T .c .B] (.L .C (.t .a))) h0 h1 e (aM 8) (aM 8) (bz _) (bz _)) ..) (aa (Bool.true_and ..) ?_)))))))
  congr 1
  by_cases q:(z%8).toNat=(i%8).toNat
  ·exact aa (decide_eq_true q ..) (aa (decide_eq_true (h9.mp ⟨e,q⟩) ..) rfl)
  ·exact aa (decide_eq_false q ..) (aa (decide_eq_false (fun h=>q (h9.mpr h).2) ..) rfl)
 ·rename_i e
  exact aa (decide_eq_false (fun h=>e (h9.mpr h).1) ..) (aa (Bool.not_false ..) (aa (Bool.and_true ..) rfl))
theorem qK{bs:LI}{i z:Int}(h0:0<=i)(h1:i/8<bs.length)(hz:0<=z):ay (fG bs i) z=(ay bs z||decide (z=i)):=by
 unfold fG
 refine aa (i6 (by exact(dj [.M .o .A,.L .B (.t .a),.W 8 .B .A,.T .b .B] (.l .b .a)) h0 h1 (aM 8) (bz _)) hz ..) ?_
 have h9:=jC hz h0
 split
 ·rename_i e
  refine aa (sU ..) (aa (Int.one_mul ..) (aa (ni ..) (aa (cA bs hz ..) (aa (e ..) (aa (decide_eq_true (show z/8<bs.length by exact(ti [.M .o .A,.L .B (.t .a),.e .b .c,.W 8 .B .A,.W 8 .C .D,.T .b .C,.T .c .B] (.L .C (.t .a))) h0 h1 e (aM 8) (aM 8) (bz _) (bz _)) ..) (aa (Bool.true_and ..) ?_))))))
  congr 1
  by_cases q:(z%8).toNat=(i%8).toNat
  ·exact aa (decide_eq_true q ..) (aa (decide_eq_true (h9.mp ⟨e,q⟩) ..) vT)
  ·exact aa (decide_eq_false q ..) (aa (decide_eq_false (fun h=>q (h9.mpr h).2) ..) rfl)
 ·rename_i e
  exact aa (decide_eq_false (fun h=>e (h9.mpr h).1) ..) (aa (Bool.or_false ..) rfl)
theorem mM(bs:LI)(n:Nat){z:Int}(hz:0<=z):ay (bs++List.replicate n 0) z=ay bs z:=by
 refine aa (cA _ hz ..) (aa (cA _ hz ..) (aa (Zl ..) (aa (List.length_replicate ..) ?_)))
 by_cases h:z/8<bs.length
 ·exact aa (decide_eq_true h ..) (aa (decide_eq_true (by exact(dj [.L .A (.t .a),.W 8 .A .B] (.L .A (.t (.p .a .b)))) h (aM 8)) ..) (aa (ZE ..) (aa (ZH (by exact(dj [.M .o .A,.L .B (.t .a),.W 8 .B .A,.T .b .B] (.l .b .a)) hz h (aM 8) (bz _)) ..) (aA (ZE ..) rfl))))
 ·refine aa (decide_eq_false h ..) (aa (ZE ..) (aa (ZI (by exact(dj [.x (.L .A (.t .a)),.W 8 .A .B,.T .b .A] (.m .a .b)) h (aM 8) (bz _)) ..) (aa (List.getElem?_replicate ..) ?_)))
  split
  ·rw[show (some (0:Int)).getD 0=0 from rfl,show tb 0 (z%8).toNat=false by unfold tb;rw[Int.zero_ediv];rfl,Bool.and_false];rfl
  ·rw[show (none:Option Int).getD 0=0 from rfl,show tb 0 (z%8).toNat=false by unfold tb;rw[Int.zero_ediv];rfl,Bool.and_false];rfl
def b7(x:Int):Prop:=0<=x/\x<256
theorem fj{bs:LI}(h:∀c∈bs,b7 c){i:Nat}{x:Int}(hx:b7 x):∀c∈bs.set i x,b7 c:=fun c hc=>(List.mem_or_eq_of_mem_set hc).elim (h c) fun e=>e▸hx
theorem d2{bs:LI}(h:∀c∈bs,b7 c)(i:Nat):b7 (bs.getD i 0):=by
 refine aa (ZE ..) ?_
 cases e:bs[i]? with
|none=>exact⟨by decide,by decide⟩
|some x=>exact h x (ZQ e)
theorem kj{x y:Int}(h:b7 x):b7 (Builtin.bitAnd x y):=by
 have:=bitAnd_range y h.1
 rw[bitAnd_comm] at this
 exact⟨this.1,Int.lt_of_le_of_lt this.2 h.2⟩
theorem rV:∀(c:Fin 256) (j:Fin 8),decide (0<=Builtin.bitOr (c:Nat) (2^(j:Nat))/\Builtin.bitOr (c:Nat) (2^(j:Nat))<256)=true:=by decide +kernel
theorem q9{x:Int}(h:b7 x){j:Nat}(hj:j<8):b7 (Builtin.bitOr x (1*2^j)):=by
 have:=of_decide_eq_true (rV ⟨x.toNat,by have:=h.2;have:=h.1;exact(aR [.T .a .A,.L .A (.n 256)] (.l .a (.n 256))) (bz _) ‹_›⟩ ⟨j,hj⟩)
 have e:((x.toNat:Nat):Int)=x:=by have:=h.1;exact Int.toNat_of_nonneg ‹_›
 refine aa (Int.one_mul ..) ?_
 unfold b7
 simpa only[e] using this
theorem mf(x:Int):b7 (Builtin.bitAnd x 255):=by refine aa (bitAnd_m8 ..) ?_;exact⟨by lia,by exact(dk [.Q 256 .C .A .B] (.L .A (.n 256))) (dJ 256)⟩
theorem rg(x:Int){j:Nat}(hj:j<8):tb (Builtin.bitAnd x 255) j=tb x j:=by
 refine aa (eR ..) ?_
 have:∀j:Fin 8,tb 255 (j:Nat)=true:=by decide +kernel
 exact aa (this ⟨j,hj⟩ ..) (aa (Bool.and_true ..) rfl)
example:True:=by w_top off;trivial
section
variable{bs cs:LI}
theorem ar.dis(h:ar bs cs){z:Int}(h0:0<=z)(h1:z/8<bs.length):ar (bj bs z) (cs.filter (decide <| · ≠ z)) :=
 ⟨by unfold bj;refine aa (Zn ..) ?_;exact h.len,fj h.byte (kj (d2 h.byte _)),h.up.filter _,fun y hy=>h.rng y (Ze.mp hy).1,fun y hy=>by
  rw[qJ h0 h1 hy,Bool.and_eq_true,h.mem y hy,Ze];simp⟩
theorem ar.zeros(h:ar bs cs){n:Nat}(hn:bs.length+n<=3):ar (bs++List.replicate n 0) cs :=
 ⟨by refine aa (Zl ..) (aa (List.length_replicate ..) ?_);exact hn,fun c hc=>(ZS.mp hc).elim (h.byte c) fun hc=>by refine aa ((List.mem_replicate.mp hc).2) ?_;exact⟨by decide,by decide⟩,h.up,h.rng,fun y hy=>by refine aa (mM bs n hy ..) ?_;exact h.mem y hy⟩
theorem ar.addL(h:ar bs cs){z:Int}(h0:0<=z)(h2:z<20)(h1:z/8<bs.length):ar (fG bs z) (aX cs z) :=
 ⟨by unfold Mine.fG;refine aa (Zn ..) ?_;exact h.len,fj h.byte (q9 (d2 h.byte _) (by exact(eZ [.Q 8 .C .A .B,.T .a .A] (.l .a .y)) (dJ 8) (bz _))),(br z h.up).1,fun y hy=>((br z h.up).2 y |>.mp hy).elim (fun e=>e▸⟨h0,h2⟩) (h.rng y),fun y hy=>by
  rw[qK h0 h1 hy,Bool.or_eq_true,h.mem y hy,(br z h.up).2,decide_eq_true_iff];exact or_comm⟩
theorem ar.addR(h:ar bs cs){z:Int}(h0:0<=z)(h1:z<20):ar (aP bs z) (aX cs z):=by
 have hl:=h.len
 unfold Mine.aP
 split
 ·exact(h.zeros (by exact(dj [.L .A .x,.m .a .w,.W 8 .B (.p .A (.n 9)),.T .b (.s .B (.t .a))] (.m (.p .a .b) .w)) h1 hl (aM (a:=z+9) 8) (bz _))).addL h0 h1 (by refine aa (Zl ..) (aa (List.length_replicate ..) ?_);exact(t7 [.W 8 .A .B,.W 8 .C (.p .B (.n 9)),.T .b (.s .C (.t .a))] (.L .A (.t (.p .a .b)))) (aM (a:=z) 8) (aM (a:=z+9) 8) (bz _))
 ·exact h.addL h0 h1 (by exact(aG [.W 8 .A .B,.x (.M (.t .a) .A)] (.L .A (.t .a))) (aM 8) ‹_›)
theorem ar.rsz(h:ar bs cs){M:Int}(h1:M<20):ar (dW bs M) cs:=by
 have hl:=h.len
 unfold dW
 split
 ·exact h.zeros (by exact(dj [.L .A .x,.m .a .w,.W 8 .B (.p .A .y),.T .b (.s .B (.t .a))] (.m (.p .a .b) .w)) h1 hl (aM (a:=M+8) 8) (bz _))
 ·exact h
theorem ar.adds(fs:LI):∀{bs cs:LI},ar bs cs->(∀z∈fs,0<=z/\z<20)->ar (fs.foldl Mine.aP bs) (fs.foldl aX cs):=by
 induction fs with
|nil=>exact fun h O=>h
|cons f fs ih=>exact fun h hz=>ih (h.addR (hz f (.head _)).1 (hz f (.head _)).2) fun z hz'=>hz z (.tail _ hz')
theorem ar.diss(fs:LI):∀{bs cs:LI},ar bs cs->(∀z∈fs,0<=z/\z/8<bs.length)->ar (fs.foldl bj bs) (cs.filter fun z=>decide (z∉fs))/\(fs.foldl bj bs).length=bs.length:=by
 induction fs with
|nil=>exact fun h O=>⟨by rwa [Zk.mpr fun O O=>by simp],rfl⟩
|cons f fs ih =>
  intro bs cs h hz
  have e:(bj bs f).length=bs.length:=by unfold bj;rw[Zn]
  obtain⟨a,b⟩:=ih (h.dis (hz f (.head _)).1 (hz f (.head _)).2) fun z hz'=>by refine aa (e ..) ?_;exact hz z (.tail _ hz')
  refine⟨?_,b.trans e⟩
  rw[List.filter_filter] at a
  rwa [show (fun z=>decide (z∉f::fs))=fun z=>decide (z∉fs)&&decide (z≠f) from funext fun z=>by
   refine aA (Bool.decide_and ..) ?_;exact decide_eq_decide.mpr ⟨fun hh=>⟨fun h1=>hh (.tail _ h1),fun h1=>hh (h1▸.head _)⟩,fun ⟨h1,h2⟩ hh=>(ZT.mp hh).elim h2 h1⟩]
end
section
variable{w:World}{κ:CK}{c:Cx w κ}{Γ:G}
theorem ax.isiI{i d:Nat}{C D:Addr}{as:LV}(h1:Γ.o[i]?=some (.inst D d))(h2:Γ.o[d]?=some (.attrs as)){b:Bool}(hb:(b=false/\kin_not (hd.heap_1 w.params) D C=true/\mo w D)\/(b=true/\isIn (hd.heap_1 w.params) (.ref D) C=true)):ax c Γ (.val (.builtin "isinstance")) [.ref i,.val (.ref C)] [] (.val (.bool b)) Γ:=fun ρ s Q E fv us ks S hfv hus hks hkv KK=>by
 obtain rfl:=hfv.valI
 obtain rfl:ks=[]:=ZG.mp hks
 obtain⟨_,_,rfl,q1,t⟩:=hus.consI
 replace t:=t.consI;obtain⟨_,_,rfl,q2,t⟩:=t
 obtain rfl:=t.nilI;obtain rfl:=q2.valI
 have S':=S
 obtain⟨m,os,H,F,N,hm,LY,hs⟩:=S
 obtain⟨a,dx,ds,n,ha1,_,hE,_,I⟩:=bf N LY h1 h2
 obtain rfl:=q1.refAt ha1
 rcases hb with ⟨rfl,e,hC⟩|⟨rfl,e⟩
 ·exact kin_callC (c.o.X.keeps F.keep) I e hC.g hC.d hC.a hC.n hC.t hC.m (KK _ ρ _ (ZN _) (.val _) (S'.toks _))
 ·exact isi_call (c.o.X.keeps F.keep) (fun M=>I.type) e (by intro q;exact nomatch q) (KK _ ρ _ (ZN _) (.val _) S')
theorem ax.isiS{i:Nat}{C:Addr}{cs:LI}{so:Obj}(h:Γ.o[i]?=some (.obj (·=so)))(hS:aB w cs so)(e:isNotIn (hd.heap_1 w.params) "set" C=true):ax c Γ (.val (.builtin "isinstance")) [.ref i,.val (.ref C)] [] (.val (.bool false)) Γ:=fun ρ s Q E fv us ks S hfv hus hks hkv KK=>by
 obtain rfl:=hfv.valI
 obtain rfl:ks=[]:=ZG.mp hks
 obtain⟨_,_,rfl,q1,t⟩:=hus.consI
 replace t:=t.consI;obtain⟨_,_,rfl,q2,t⟩:=t
 obtain rfl:=t.nilI;obtain rfl:=q2.valI
 obtain⟨a,o,ha,e1,hg,_⟩:=S.objAt h
 obtain rfl:=q1.refAt ha
 subst e1
 have hc:o.cls=.type "set":=by
  obtain⟨zs,_,es,ep,t,rfl,_⟩:=hS
  rfl
 exact isn_call (T:="set") (P:=fun h=>h.get? a=some o) (bO S) (fun M A' Q' E' s' k q=>wpAny_typeOf ⟨o,k _ _ hg,hc⟩ q) e (by intro q;exact nomatch q) hg (fun hx hq=>class_attr_set hx hc hq) (KK _ ρ _ (ZN _) (.val _) (S.toks _))
end
theorem bg(w:World):nsIn (hd.heap_1 w.params) mainGlobals "BitSet"=some (some (.ref 514)):=by k_is
theorem sy(w:World):mo w 646:=⟨by k_is,by k_is,by k_is,by k_is,by k_is,by k_is⟩
noncomputable def t9:jm->Bool
|.bits _=>true
|_=>false
theorem lE{w:World}{κ:CK}{c:Cx w κ}{Γ:G}{k:jm}{cs:LI}(K:pR w cs k)(hn:∀zs a b,k≠.list zs a b){b:Nat}(h0:Γ.o[b]?=some (o1 k b))(h1:Γ.o[b+1]?=some (o2 k b)):ax c Γ (.val (.builtin "isinstance")) [.ref b,.val (.ref 514)] [] (.val (.bool (t9 k))) Γ:=by
 cases k with
|bits bs=>exact ax.isiI h0 h1 (.inr ⟨vT,by k_is⟩)
|sis cs'=>exact ax.isiI h0 h1 (.inl ⟨rfl,by kernel_rfl,sy w⟩)
|set so a b'=>exact ax.isiS h0 K (by kernel_rfl)
|list zs a b'=>exact absurd rfl (hn zs a b')
theorem pt(w:World):dI w 514 "discard" 455:=⟨by k_is,by k_is,by k_is,by k_is,by k_is,by k_is,by decide⟩
theorem l8(w:World){k:jm}{bs cs ks:LI}(R:ar bs cs)(K:pR w ks k)(hn:∀zs a b,k≠.list zs a b)(hB:t9 k=false)(hkU:Up ks)(hkr:∀z∈ks,0<=z/\z<20)(hkl:∀z∈ks,z/8<bs.length):az w 6 483 (ba bs++[o1 k 3,o2 k 3,o3 k]) [.ref 0,.ref 3] []
  (fun v l=>v=.val .none/\∃bs',ar bs' (cs.filter fun z=>decide (z∉ks))/\l=ba bs'++[o1 k 3,o2 k 3,o3 k]):=by
 refine' ao ["self","other"] ?ho ?hcd ?hb ?hx ?nd ?hl ?H ?c1 ?c2 ?c3 ?c4
 k_extra "cx"
 intro c
 refine .cons (.ite (.plain (.call_bi (.bi (by k_is) boot_isinstance) (.cons (.name vS) (.cons (.glob (bg w)) .nil)) (lE K hn (b:=3) vS vS)) .bool) (fun h=>absurd (hB.symm.trans h) (by decide)) fun O=>.nil (.cons (.assign (.bound (.name vS) vS vS rfl (pt w)) ?_)))
 refine .cons (.forStill (Γf:=fun zs i=>⟨[("discard",.ref 6)],[.inst 514 1,.attrs [("bits",.ref 2)],.nums ((zs.take i).foldl bj bs),o1 k 3,o2 k 3,o3 k,.meth 455 (.ref 0)]⟩) (n₁:=7) (iQ K hkU hkr (b:=3) (.name vS) vS vS vS) dh (kN k) (fun zs i O=>gi vS vS vS) (fun zs O=>⟨.cons vS .nil,.same⟩) (fun zs=>by cases k <;> rfl) (fun zs=>rfl) (fun c' zs i hi hp=>?_) fun zs hp=>?_)
 ·have hzi:∀y∈zs,0<=y/\y/8<bs.length:=fun y hy=>⟨(hkr y (hp.1.mem_iff.mp hy)).1,hkl y (hp.1.mem_iff.mp hy)⟩
  have h9:=hzi _ (List.getElem_mem hi)
  have h8:=hkr _ (hp.1.mem_iff.mp (List.getElem_mem hi))
  obtain⟨_,e⟩:=R.diss (zs.take i) fun y hy=>hzi y (List.mem_of_mem_take hy)
  refine .cons (.expr (.call_m (q:=6) (.name vS) vS (by k_is) (.cons (.name vS) .nil) vS (ae.det (dH w ((zs.take i).foldl bj bs) zs[i] h9.1 (by refine aa (e ..) ?_;exact h9.2) (by exact(c8 [.l .a .b,.d (.M .o .A) (.L .A .x)] (.L .A .q)) hi h8)) [0,1,2] (ab vS vS vS) (by decide) vT vT)) (.nil (.next () trivial ⟨.cons vS .nil,?_⟩ (by cases k <;> rfl) vT)))
  refine aa (Zw hi ..) (aa (List.foldl_append ..) ?_)
  exact .same
 ·have hzi:∀y∈zs,0<=y/\y/8<bs.length:=fun y hy=>⟨(hkr y (hp.1.mem_iff.mp hy)).1,hkl y (hp.1.mem_iff.mp hy)⟩
  have:=(R.diss zs hzi).1
  rw[show (fun z=>decide (z∉zs))=fun z=>decide (z∉ks) from funext fun z=>decide_eq_decide.mpr (not_congr hp.1.mem_iff)] at this
  exact .nil (.next _ ⟨rfl,_,this,by refine aa (List.take_length ..) ?_;rfl⟩ (.cons (.cons (.cons (.cons (.cons (.cons .nil)))))) (by cases k <;> rfl))
example:True:=by w_top off;trivial
def GL(bs:LI)(m:Nat)(l:KL):Prop:=(l.map (·.1)).Pairwise (· < ·)/\∀e∈l,0<=e.1/\e.1/8<bs.length/\m<=(e.1/8).toNat+1/\e.2=KB bs.length ((e.1/8).toNat+1) (bs.drop ((e.1/8).toNat+1))
theorem jV{bs:LI}:GL bs 0 (cv bs.length 0 bs):=by
 refine⟨(iv bs.length bs 0).1,?_⟩
 have key:∀(tl:LI) (k:Nat),bs.drop k=tl->∀e∈cv bs.length k tl,0<=e.1/\e.1/8<bs.length/\0<=(e.1/8).toNat+1/\e.2=KB bs.length ((e.1/8).toNat+1) (bs.drop ((e.1/8).toNat+1)):=by
  intro tl
  induction tl with
 |nil=>exact fun O O O h=>nomatch h
 |cons c tl ih =>
   intro k hd e he
   have hd':bs.drop (k+1)=tl:=by refine aA (List.drop_drop ..) (aa (hd ..) ?_);rfl
   have hk:k<bs.length:=by
    rcases Zq k bs.length with h|h
    ·exact h
    ·rw[Zo h] at hd;exact nomatch hd
   rcases ZS.mp he with he|he
   ·obtain⟨j,hj,rfl⟩:=Zc.mp he
    have h1:=List.mem_range'_1.mp (Ze.mp hj).1
    have e1:((8*(k:Int)+(j:Int))/8).toNat=k:=by exact(th [.d (.m .o .a) (.l .a (.p .o .b)),.S .b .y .o,.W 8 .A (.p (.k 8 (.t .d)) (.t .a)),.T .c .A] (.e .c .d)) h1 (bc _ _) (aM 8) (bz _)
    refine⟨by show 0<=8*(k:Int)+(j:Int);exact(ah [] (.M .o (.p (.k 8 (.t .a)) (.t .b)))),by show (8*(k:Int)+(j:Int))/8<_;exact(th [.l .a .b,.d (.m .o .c) (.l .c (.p .o .d)),.S .d .y .o,.W 8 .A (.p (.k 8 (.t .a)) (.t .c))] (.L .A (.t .b))) hk h1 (bc _ _) (aM 8),Zf _,?_⟩
    show KB bs.length (k+1) tl=KB bs.length (((8*(k:Int)+(j:Int))/8).toNat+1) (bs.drop (((8*(k:Int)+(j:Int))/8).toNat+1))
    exact aa (e1 ..) (aa (hd' ..) rfl)
   ·exact ih (k+1) hd' e he
 exact key bs 0 rfl
theorem GL.step{bs:LI}{m:Nat}{z:Int}{K:OP}{l:KL}(h:GL bs m ((z,K)::l)):0<=z/\z/8<bs.length/\m<=(z/8).toNat+1/\K=KB bs.length ((z/8).toNat+1) (bs.drop ((z/8).toNat+1))/\z∉l.map (·.1)/\GL bs ((z/8).toNat+1) l:=by
 obtain⟨h1,h2⟩:=h
 obtain⟨a1,a2,a3,a4⟩:=h2 _ (.head _)
 have h9:=List.pairwise_cons.mp h1
 refine⟨a1,a2,a3,a4,fun hm=>Int.lt_irrefl _ (h9.1 z hm),h9.2,fun e he=>?_⟩
 obtain⟨b1,b2,_,b4⟩:=h2 e (.tail _ he)
 have:=h9.1 e.1 (Zd he)
 exact⟨b1,b2,by lia,b4⟩
theorem fh{α:Type}{a b:List α}{m n:Nat}(h:a.drop m=b.drop m)(hn:m<=n):a.drop n=b.drop n:=by
 have:n=m+(n-m):=by exact(av [.m .a .b,.S .c .b .a] (.e .b (.p .a .c))) hn (bc _ _)
 exact aa (this ..) (aA (List.drop_drop ..) (aA (List.drop_drop ..) (aa (h ..) rfl)))
theorem pa(w:World){k:jm}{bs cs ks:LI}(R:ar bs cs)(K:pR w ks k)(hn:∀zs a b,k≠.list zs a b)(hB:t9 k=false)(hkU:Up ks)(hkr:∀z∈ks,0<=z/\z<20):az w 6 476 (ba bs++[o1 k 3,o2 k 3,o3 k]) [.ref 0,.ref 3] []
  (fun v l=>v=.val .none/\∃bs',ar bs' (cs.filter fun z=>decide (z∈ks))/\l=ba bs'++[o1 k 3,o2 k 3,o3 k]):=by
 refine' ao ["self","other"] ?ho ?hcd ?hb ?hx ?nd ?hl ?H ?c1 ?c2 ?c3 ?c4
 k_extra "cx"
 intro c
 refine .cons (.ite (.plain (.call_bi (.bi (by k_is) boot_isinstance) (.cons (.name vS) (.cons (.glob (bg w)) .nil)) (lE K hn (b:=3) vS vS)) .bool) (fun h=>absurd (hB.symm.trans h) (by decide)) fun O=>.nil (.cons (.assign (.bound (.name vS) vS vS rfl (pt w)) ?_)))
 have hl:=R.len
 refine .cons (.forIt (σ:=[0,1,2]) (α:=List Int) (fun K' l a=>a.length=bs.length/\ar a (cs.filter fun x=>decide (x∈l.map (·.1))||decide (x∈ks))/\∃m,K'=KB bs.length m (bs.drop m)/\a.drop m=bs.drop m/\GL bs m l) (fun a=>⟨[("discard",.ref 6),("other",.ref 3)],[.inst 514 1,.attrs [("bits",.ref 2)],.nums a,o1 k 3,o2 k 3,o3 k,.meth 455 (.ref 0)]⟩) 7
  (.of (σ:=[0,1,2]) (v:=.ref 0) (K₀:=(·=ba bs)) (.name vS) (cK (kQ w) (by k_is) (fun l h=>by subst h;exact⟨1,_,vS,vS⟩) (me w bs)) ⟨_,ab rfl rfl rfl,rfl,rfl⟩) (fun T K' l hO=>?_) (fun K' l a hI=>?_) (fun c' K' z K'' l a hI=>?_) fun K' a hI=>?_)
 ·obtain⟨_,rfl,rfl⟩:=hO
  refine⟨bs,⟨rfl,?_,0,rfl,rfl,jV⟩,⟨.cons vS (.cons vS .nil),.same⟩,by cases k <;> rfl,vT⟩
  refine aa (R.walk ..) (aa (Zk.mpr fun x hx=>by simp[hx] ..) ?_)
  exact R
 ·obtain⟨h1,_,m,rfl,h3,_⟩:=hI
  exact⟨ba a,ab vS vS vS,vT,a,rfl,h1,h3⟩
 ·obtain⟨h1,h2,m,_,h3,h4⟩:=hI
  obtain⟨O,z1,z2,e1,z3,h5⟩:=h4.step
  have hlen:(bj a z).length=bs.length:=by unfold bj;rw[Zn,h1]
  refine .cons (.ite (.cmp (.name vS) (.name vS) (dC K hn hkU hkr (b:=3) rfl rfl rfl O).2) (fun hk=>?_) fun hk=>?_)
  ·refine .cons (.expr (.call_m (q:=6) (.name vS) vS (by k_is) (.cons (.name vS) .nil) vS (ae.det (dH w a z O (by exact(dj [.e .a .b,.L .A (.t .b),.W 8 .A .B] (.L .A (.t .a))) h1 z1 (aM 8)) (by exact(aG [.m .a .w,.L .A (.t .a),.W 8 .A .B] (.L .B .q)) hl z1 (aM 8))) [0,1,2] (ab vS vS vS) (by decide) vT vT)) (.nil (.nil (.next (bj a z) ⟨hlen,?_,_,e1,?_,h5⟩ ⟨.cons vS (.cons vS .nil),.same⟩ (by cases k <;> rfl) vT))))
   ·have:=h2.dis O (by exact(dj [.e .a .b,.L .A (.t .b),.W 8 .A .B] (.L .A (.t .a))) h1 z1 (aM 8))
    rw[List.filter_filter] at this
    rwa [show (fun x=>decide (x∈l.map (·.1))||decide (x∈ks))=fun x=>(decide (x≠z))&&(decide (x∈(((z,K'')::l).map (·.1)))||decide (x∈ks)) from funext fun x=>by
     refine aa (List.map_cons ..) ?_
     by_cases e:x=z
     ·subst e;simp[hk,z3]
     ·simp[e,beq_eq_false_iff_ne.mpr e]]
   ·unfold bj
    refine aa (List.drop_set_of_lt (by lia) ..) ?_
    exact fh h3 z2
  ·have hk:z∈ks:=Classical.not_not.mp hk
   refine .nil (.nil (.next a ⟨h1,?_,_,e1,fh h3 z2,h5⟩ ⟨.cons vS (.cons vS .nil),.same⟩ (by cases k <;> rfl) vT))
   rwa [show (fun x=>decide (x∈l.map (·.1))||decide (x∈ks))=fun x=>decide (x∈(((z,K'')::l).map (·.1)))||decide (x∈ks) from funext fun x=>by
    refine aa (List.map_cons ..) ?_
    by_cases e:x=z
    ·subst e;simp[hk]
    ·simp[e,beq_eq_false_iff_ne.mpr e]]
 ·obtain⟨_,h2,_⟩:=hI
  refine .nil (.next _ ⟨rfl,_,?_,rfl⟩ (.cons (.cons (.cons (.cons (.cons (.cons .nil)))))) (by cases k <;> rfl))
  simpa using h2
example:True:=by w_top off;trivial
section
variable{w:World}{κ:CK}{c:Cx w κ}{Γ Γ₁ Γ2 Γ3 Γ4:G}{ρ:LQ}{s:Shared}
theorem ad.grow(S:ad c Γ ρ s){h':Heap}{tk:Tok}(hk:∀b o,s.heap.get? b=some o->h'.get? b=some o):ad c Γ ρ { s with heap:=h',toks:=tk }:=by
 cases S with|mk m os H F N hm LY hs=>exact .mk m os H (F.keeps hk) (N.grown hk) hm LY (hs.heap h' tk)
theorem Ev.nilL{pos:Pos}:Ev c Γ (.List [] pos) (.ref Γ.o.length) (Γ.addO (.list [])):=fun ρ s Q E S KK =>
 List_ (jn.nil pos ρ s _ E S fun us ρ1 sj1 hp hu Sj1=>by
  obtain rfl:=hu.nilI
  obtain⟨m,os,H,F,N,hm,LY,hs⟩:=Sj1
  refine newList_N F N (fun h' F' N'=>?_) (by simp[sizeLine])
  obtain⟨S',e⟩:=ad.made (s:={ sj1 with heap:=h' }) hm LY (so:=.list []) (.list (us:=[]) .nil) (fun p hp=>Zg (N p hp).1) F' N' (hs.heap h' sj1.toks)
  exact KK _ _ _ (hp.trans (ZO _ _)) e S')
theorem Ev.rmeth{o e:Expr}{y:Str}{ap pos:Pos}{b:Nat}{xs:LX}{id:String}{u v:SV}(h:Ev c Γ o (.ref b) Γ₁)(hb:Γ₁.o[b]?=some (.list xs))(hs:Slot "list" y id)(ht:typeOf (.builtin id)=pure (.type "method_descriptor"))(ha:Ev c Γ₁ e u Γ2)(hc:ax c Γ2 (.val (.builtin id)) [.ref b,u] [] v Γ3)
  (he:∀env,starEach [e] env=(false,eval e env)::starEach [] env:=by intros;rfl) (he0:bF o y ap [e] pos:=by intro;rfl):Ev c Γ (.Call (.Attribute o y ap) [e] [] pos) v Γ3:=fun ρ s Q E S k =>
 MethodCall_ (he:=he0 _) (h ρ s _ E S fun u1 ρ1 sj1 hp1 q1 Sj1=>by
  have S1':=Sj1
  obtain⟨m,os,H,F,N,hm,LY,hs'⟩:=Sj1
  obtain⟨a,o1,ha1,hoa,hi,hmem⟩:=LY.slot hb
  obtain rfl:=q1.refAt ha1
  obtain⟨_,_,rfl,hu⟩:=hi.listI
  refine kl_method N hmem hs ht ?_
  refine callWith_method1 (args_cons (ha ρ1 sj1 _ E S1' fun us ρ₂ sj2 hp2 q2 Sj2=>args_nil ?_) (he _)) (he _)
  exact hc ρ₂ sj2 Q E _ _ [] Sj2 (.val _) (.cons (.ref (ak hp2 ha1)) (.cons q2 .nil)) rfl .nil fun u ρ3 sj3 hp3 hv S3=>k u ρ3 sj3 ((hp1.trans hp2).trans hp3) hv S3)
theorem bh.snoc{vs:LX}{us:LW}{v:SV}{u:Value}(h:bh ρ vs us)(hv:v.Is ρ u):bh ρ (vs++[v]) (us++[u]):=by
 induction h with
|nil=>exact .cons hv .nil
|cons h _ ih=>exact .cons h ih
set_option tactic.hygienic true in
theorem ax.appendR{b:Nat}{xs:LX}{v:SV}(h:Γ.o[b]?=some (.list xs))(hl:xs.length<=100)(hz:Nat.ble κ.nf b=true:=by exact vT):ax c Γ (.val (.builtin "list.append")) [.ref b,v] [] (.val .none) (Γ.setO b (.list (xs++[v]))):=fun ρ s Q E fv us ks S hf hv hk1 O K=>by
 obtain rfl:=hf.valI
 obtain⟨_,_,rfl,h1,h2⟩:=hv.consI
 replace h2:=h2.consI;obtain⟨_,_,rfl,h2,h3⟩:=h2
 obtain rfl:=h3.nilI
 obtain rfl:ks=[]:=ZG.mp hk1
 obtain⟨m,os,H,F,N,hm,LY,hs⟩:=S
 obtain⟨a,o1,ha,hoa,hi,hmem⟩:=LY.slot h
 obtain rfl:=h1.refAt ha
 obtain⟨_,_,rfl,hu⟩:=hi.listI
 rename_i us' n
 have hvl:=svs_len hu
 refine append_K F N (LY.upd ha hoa _ (ZJ hz)) (fun h' F' N'=>K _ ρ _ (ZN _) (.val _) (ad.set (s:={ s with heap:=h' }) hm LY ?_ F' N' (hs.heap h' _) (ZJ hz))) (by simp[sizeLine];exact(ah [.m .a .m,.e .b .a] (.m .b (.n 16777216))) hl hvl)
 have e:∀v:Value,us'.toArray.push v=(us'++[v]).toArray:=fun v=>by simp
 refine aa (e ..) ?_;exact .list (hu.snoc h2)
theorem ax.max2{a b:Int}:ax c Γ (.val (.builtin "max")) [.int a,.int b] [] (.int (max a b)) Γ:=fun ρ s Q E fv us ks S hf hv hk1 O K=>by
 obtain rfl:=hf.valI
 obtain⟨_,_,rfl,h1,h2⟩:=hv.consI
 replace h2:=h2.consI;obtain⟨_,_,rfl,h2,h3⟩:=h2
 obtain rfl:=h3.nilI;obtain⟨_,rfl⟩:=h1.intI;obtain⟨_,rfl⟩:=h2.intI
 obtain rfl:ks=[]:=ZG.mp hk1
 refine max_two_ints rfl fun h' tk hk=>?_
 split
 ·rename_i h;rw[Int.max_eq_right (Int.le_of_lt h)] at K;exact K _ ρ _ (ZN _) (.int _ _) (S.grow hk)
 ·rename_i h;rw[Int.max_eq_left (Int.not_lt.mp h)] at K;exact K _ ρ _ (ZN _) (.int _ _) (S.grow hk)
theorem Ev.callPK{x y:Str}{xp pos kp:Pos}{f:Addr}{e ek:Expr}{es:List Expr}{vs:LX}{vk v:SV}(hf:Ev c Γ (.Name x xp) (.val (.ref f)) Γ₁)(hk:keepIn (hd.heap_1 w.params) (.ref f)=true)(ha:jn c Γ₁ (e::es) vs Γ2)(he:Ev c Γ2 ek vk Γ3)(hc:ax c Γ3 (.val (.ref f)) vs [(y,vk)] v Γ4)
  (hst:∀env,starEach (e::es) env=(false,eval e env)::starEach es env:=by intros;rfl) (hp:∀env,((backTo pos (starEach (e::es) env)).any (·.1)||(backToKw pos (keywordEach [⟨some y,ek,kp⟩] env)).any (·.1.isNone))=false:=by intros;rfl):Ev c Γ (.Call (.Name x xp) (e::es) [⟨some y,ek,kp⟩] pos) v Γ4:=fun ρ s Q E S k=>by
 show wpAny _ _ (do callWith pos (<- eval (.Name x xp) c.env) [] (backTo pos (starEach (e::es) c.env)) (backToKw pos (keywordEach [⟨some y,ek,kp⟩] c.env))) Q E s
 refine ZL (hf ρ s _ E S fun u ρ1 sj1 hp1 q1 Sj1=>?_)
 obtain rfl:=q1.valI
 refine callWith_KW (bO Sj1) hk vT (ha pos ρ1 sj1 _ E Sj1 fun us ρ₂ sj2 hp2 q2 Sj2=>kws_cons (he ρ₂ sj2 _ E Sj2 fun u3 ρ3 sj3 hp3 q3 S3=>kws_nil ⟨bO S3,?_⟩)) (hp _) (hst _)
 exact hc ρ3 sj3 Q E _ us [(y,u3)] S3 (.val _) (q2.up hp3) rfl (.cons q3 .nil) fun u ρ4 sj4 hp4 hv S4=>k u ρ4 sj4 (((hp1.trans hp2).trans hp3).trans hp4) hv S4
end
noncomputable def be(b n:Nat):List SV:=(List.range n).map fun j=>SV.ref (b+j)
noncomputable def bu(f g:Nat->Int)(n:Nat):List SO:=(List.range n).map fun j=>SO.tup [.int (f j),.int (g j)]
theorem kI(b n:Nat):be b (n+1)=be b n++[.ref (b+n)]:=by unfold be;refine aa (List.range_succ ..) (aa (List.map_append ..) ?_);rfl
theorem kA(f g:Nat->Int)(n:Nat):bu f g (n+1)=bu f g n++[.tup [.int (f n),.int (g n)]]:=by unfold bu;refine aa (List.range_succ ..) (aa (List.map_append ..) ?_);rfl
theorem hV(f g:Nat->Int)(n:Nat):(bu f g n).length=n:=by unfold bu;rw[Zm,List.length_range]
theorem ia(b n:Nat):(be b n).length=n:=by unfold be;rw[Zm,List.length_range]
theorem ib{b n m:Nat}(h:b+n<=m):(SO.list (be b n)).fit m=true:=Zp.mpr fun v hv=>by
 obtain⟨j,hj,rfl⟩:=Zc.mp hv
 have:=List.mem_range.mp hj
 exact Nat.blt_eq.mpr (by exact(aJ [.m (.p .a .b) .c,.l .d .b] (.l (.p .a .d) .c)) h this)
theorem hW(f g:Nat->Int)(n m:Nat):(bu f g n).all (·.fit m)=true:=Zp.mpr fun v hv=>by
 obtain⟨j,hj,rfl⟩:=Zc.mp hv
 rfl
example:True:=by w_top off;trivial
theorem Ev.int_eq{w:World}{κ:CK}{c:Cx w κ}{Γ Γ':G}{e:Expr}{a b:Int}(h:Ev c Γ e (.int a) Γ')(q:a=b):Ev c Γ e (.int b) Γ':=q▸h
theorem rL(P:Params):(hd.heap_1 P).lookup 61=some ⟨.type "tuple",none,.seq #[.none] 0,#[]⟩:=by kernel_rfl
noncomputable abbrev zO(as bs:LI)(n:Nat):List SO:=[.nums as,.nums bs,.list (be 5 n),.nums as,.nums bs]++bu (as.getD · 0) (bs.getD · 0) n
theorem eP(as bs:LI)(n:Nat):(zO as bs n).length=n+5:=by unfold zO;refine aa (Zl ..) (aa (hV ..) (aa (Nat.add_comm ..) ?_));rfl
theorem na(as bs:LI)(n:Nat):(zO as bs n).all (·.fit (zO as bs n).length)=true:=by
 refine aa (eP ..) ?_
 unfold zO
 refine aa (List.all_append ..) (aa (hW ..) (aa (Bool.and_true ..) ?_))
 simp only[List.all_cons,List.all_nil,ib (Nat.le_of_eq (Nat.add_comm 5 n)),Bool.and_true]
 rfl
theorem o7(w:World)(as bs:LI)(ha:as.length<=3)(hb:bs.length<=3):az w 1 68 [.nums as,.nums bs] [.ref 0,.ref 1] [(Str.ofString "fillvalue",.int 0)] (ch (.ref 2) (zO as bs (max as.length bs.length))):=by
 refine' bU (fa:=[.ref 0,.ref 1,.int 0]) ["one","other","fillvalue"] ?ho ?hcd ?hb ?hx ?nd ?H ?c1 ?c2 ?c3 ?c4
 k_extra "cxk"
 case hb =>
  intro ρ s us ks X hu hks
  obtain⟨_,_,rfl,h2,t⟩:=hu.consI
  replace t:=t.consI;obtain⟨_,_,rfl,h3,t⟩:=t
  obtain rfl:=t.nilI
  obtain⟨u,rfl,h4⟩:=uh hks
  exact⟨[_,_,_],.cons h2 (.cons h3 (.cons h4 .nil)),BindsTo.of_defaults rfl (X _ _ (rL _)) rfl rfl rfl⟩
 intro c _
 have e9:(max (as.length:Int) (bs.length:Int))=((max as.length bs.length:Nat):Int):=by exact(ow [.K .A (.t .a) (.t .b),.U .c .a .b] (.E .A (.t .c))) (tZ _ _) (eh _ _)
 have hn:max as.length bs.length<=3:=by exact(av [.m .a .w,.m .b .w,.U .c .a .b] (.m .c .w)) ha hb (eh _ _)
 have n1:as.length<=max as.length bs.length:=by exact(av [.U .b .a .c] (.m .a .b)) (eh _ _)
 have n2:bs.length<=max as.length bs.length:=by exact(av [.U .b .c .a] (.m .a .b)) (eh _ _)
 refine .cons (.assign .nilL ?_)
 refine .cons (.assign (.call_ty (.bi (by k_is) boot_list) (.cons (.name vS) .nil) (ax.listL vS (by exact(ai [.m .a .w] (.m .a .q)) ha))) ?_)
 refine .cons (.assign (.call_ty (.bi (by k_is) boot_list) (.cons (.name vS) .nil) (ax.listL vS (by exact(ai [.m .a .w] (.m .a .q)) hb))) ?_)
 generalize max as.length bs.length=n at e9 hn n1 n2
 refine .cons (.forRange (fun _ (_:Unit)=>True) (fun i O=>⟨[("rows",.ref 2),("one",.ref 3),("other",.ref 4),("fillvalue",.int 0)],zO as bs i⟩) () 5 (n:=n) (.range1 (.bi (by k_is) boot_range) (.int_eq (.call_bi (.bi (by k_is) boot_max) (.cons (.len (.name vS) vS (by exact(ai [.m .a .w] (.l .a (.n 4611686018427387904))) ha)) (.cons (.len (.name vS) vS (by exact(ai [.m .a .w] (.l .a (.n 4611686018427387904))) hb)) .nil)) ax.max2) e9) (by exact ZW ‹_› (by decide))) trivial ⟨.cons vS (.cons vS (.cons vS (.cons vS .nil))),.same⟩ vT vT (fun c' i O hi O=>?_) fun O O=>?_)
 ·refine aa (ua ..) ?_
  refine .cons (.expr (.rmeth (.name vS) vS PySem.F.slot_list_append PySem.F.type_list_append (.tuple (vs:=[.int (as.getD i 0),.int (bs.getD i 0)]) (.cons (.ifexp (.icmp (.name vS) (.len (.name vS) vS (by exact(ai [.m .a .w] (.l .a (.n 4611686018427387904))) ha)) .lt) (fun h=>.item (.name rfl) (.name rfl) vS (by exact(ai [] (.M .o (.t .a)))) h (by exact(ah [.m .a .w,.l .b .a] (.L (.t .b) .i)) hn hi)) fun h=>?_) (.cons (.ifexp (.icmp (.name vS) (.len (.name vS) vS (by exact(ai [.m .a .w] (.l .a (.n 4611686018427387904))) hb)) .lt) (fun h=>.item (.name rfl) (.name rfl) vS (by exact(ai [] (.M .o (.t .a)))) h (by exact(ah [.m .a .w,.l .b .a] (.L (.t .b) .i)) hn hi)) fun h=>?_) .nil)) (by show 2<=100;decide)) (ax.appendR vS (by refine aa (ia ..) ?_;exact(ah [.m .a .w,.l .b .a] (.m .b .m)) hn hi))) (.nil (.next () trivial ⟨.cons vS (.cons vS (.cons vS (.cons vS .nil))),?_⟩ ?_ ?_)))
  ·refine aa (ZE ..) (aa (Zh (by exact(ah [.x (.L (.t .a) (.t .b))] (.m .b .a)) h) ..) ?_);exact .name vS
  ·refine aa (ZE ..) (aa (Zh (by exact(ah [.x (.L (.t .a) (.t .b))] (.m .b .a)) h) ..) ?_);exact .name vS
  ·have e1:([SO.nums as,.nums bs,.list (be 5 i),.nums as,.nums bs]++bu (as.getD · 0) (bs.getD · 0) i).length=5+i:=(eP as bs i).trans (Nat.add_comm _ _)
   show ky ([SO.nums as,.nums bs,.list (be 5 i++[.ref ([SO.nums as,.nums bs,.list (be 5 i),.nums as,.nums bs]++bu (as.getD · 0) (bs.getD · 0) i).length]),.nums as,.nums bs]++(bu (as.getD · 0) (bs.getD · 0) i++[.tup [.int (as.getD i 0),.int (bs.getD i 0)]])) (zO as bs (i+1))
   refine aa (e1 ..) (aA (kI ..) (aA (kA ..) ?_))
   exact .same
  ·refine ZU.mpr ⟨?_,na as bs (i+1)⟩
   show (List.all [(Str.ofString "rows",SV.ref 2),(Str.ofString "one",.ref 3),(Str.ofString "other",.ref 4),(Str.ofString "fillvalue",.int 0)] fun e=>e.2.fit (zO as bs (i+1)).length)=true
   refine aa (eP ..) ?_
   rfl
  ·show Nat.ble 5 (zO as bs (i+1)).length=true
   refine aa (eP ..) ?_;exact Nat.ble_eq.mpr (Nat.le_add_left _ _)
 ·refine .cons (.ret (.name vS) (.ret (zO as bs n) ⟨rfl,rfl⟩ .same ?_))
  refine aa (na ..) (aa (eP ..) ?_)
  rfl
example:True:=by w_top off;trivial
inductive tC(w:World)(ρ:LQ)(h:Heap)(i:Nat)(so:SO):Prop
|mk (a:Addr) (o:Obj) (ha:ρ[i]?=some a) (hi:so.Is w ρ o) (hg:h.get? a=some o)
section
variable{w:World}{κ:CK}{n₁:Nat}{c:Cx w κ}{Γ Γ₁:G}{ρ ρ1:LQ}{s sj1:Shared}{hp:c.ρ0<+:ρ1}{h:ρ1.length=n₁}{own own' X:AO}{P:SF->G->Prop}
theorem ad.zipOff(S:ad (c.lp ρ1 hp h own sj1) Γ ρ s)(ho:∀q∈own,∀z∈c.hold,q.1≠z.1):∀q∈own,q.1∉ρ:=by
 obtain⟨m,os,H,F,N,hm,LY,hs⟩:=S
 obtain⟨o',Hc,rfl,k1,k2⟩:=aw.split LY.kp
 intro q hq e2
 obtain⟨y,hy,ey⟩:∃y∈o',y.1=q.1:=by
  have h9:q.1∈own.map (·.1):=Zd hq
  rw[<- k1.fst] at h9
  exact Zc.mp h9
 obtain⟨i,hi,e9⟩:=ZF.mp e2
 rcases Zq i κ.nf with h9|h9
 ·have:=LY.sh i _ _ h9 (ZA hi) (ZA (h:=LY.hl▸hi))
  exact ho q hq _ (c.hsh _ this).1 e9.symm
 ·exact LY.ap y (ZD _ hy) (bD (by exact aa (ZA hi ..) (aa (e9 ..) (aa (ey ..) vS))) h9)
theorem ad.reown(S:ad (c.lp ρ1 hp h own sj1) Γ ρ s)(ho:∀q∈own,q.1∉aZ c.o.fr/\∀z∈c.hold,q.1≠z.1)(ho':∀q∈own',∃y∈own,y.1=q.1){h':Heap}{tk:Tok}(hk:∀b o,(∀q∈own,q.1≠b)->s.heap.get? b=some o->h'.get? b=some o)(he:∀q∈own',h'.get? q.1=some q.2) :
  ad (c.lp ρ1 hp h own' { s with heap:=h',toks:=tk }) Γ ρ { s with heap:=h',toks:=tk }:=by
 have zo:=S.zipOff fun q hq=>(ho q hq).2
 obtain⟨m,os,H,F,N,hm,LY,hs⟩:=S
 obtain⟨o',Hc,rfl,k1,k2⟩:=aw.split LY.kp
 have e1:=k1.off fun q hq=>(ho q hq).1
 subst e1
 have nO:∀q∈o',q.1≠c.L/\c.o.g.get? q.1=none:=fun q hq=>(N q (ZC _ (ZD _ hq))).2
 obtain⟨oL,eL,nL⟩:=cq F.ns
 refine .mk m os (own'++Hc) ⟨nL _ (hk _ _ (fun q hq=>(nO q hq).1) eL),fun b o eb=>hk b o (fun q hq e=>by
  have h9:c.o.g.get? b=some o:=eb
  rw[<- e,(nO q hq).2] at h9;exact nomatch h9) (F.keep b o eb),F.above⟩ (fun q hq=>?_) hm ⟨LY.hl,LY.hg,LY.ho,LY.nd,LY.pre,fun q hq=>?_,k2.app _,LY.sh⟩ ⟨rfl,.refl _ _⟩
 ·have old:∀q∈aS ρ os (o'++Hc),(∀y∈o',y.1≠q.1)->h'.get? q.1=some q.2/\q.1≠c.L/\c.o.g.get? q.1=none:=fun q hq hn=>⟨hk _ _ hn (N q hq).1,(N q hq).2⟩
  rcases ZS.mp hq with hq|hq
  ·exact old q (ZD _ hq) fun y hy e=>zo y hy (e▸(Zz hq).1)
  rcases ZS.mp hq with hq|hq
  ·obtain⟨y,hy,ey⟩:=ho' q hq
   exact⟨he q hq,ey▸nO y hy⟩
  ·refine old q (ZC _ (ZC _ hq)) fun y hy e=>?_
   obtain⟨z,hz,ez⟩:=i9 k2 hq
   exact(ho y hy).2 z hz (e.trans ez.symm)
 ·rcases ZS.mp hq with hq|hq
  ·obtain⟨y,hy,ey⟩:=ho' q hq
   refine aA (ey ..) ?_
   exact LY.ap y (ZD _ hy)
  ·exact LY.ap q (ZC _ hq)
theorem ad.freshs(S:ad (c.lp ρ1 hp h [] sj1) Γ ρ s){h':Heap}{tk:Tok}(hX:∀q∈X,s.heap.objs.size<=q.1/\h'.get? q.1=some q.2)(hk:∀b o,s.heap.get? b=some o->h'.get? b=some o) :
  ad (c.lp ρ1 hp h X { s with heap:=h',toks:=tk }) Γ ρ { s with heap:=h',toks:=tk }/\∀q∈X,q.1∉aZ c.o.fr/\∀z∈c.hold,q.1≠z.1:=by
 obtain⟨m,os,H,F,N,hm,LY,hs⟩:=S
 have lt:∀q∈aS ρ os H,∀x∈X,q.1≠x.1:=fun q hq x hx=>Zb (ZY (Zg (N q hq).1) (hX x hx).1)
 have ltH:∀x∈X,∀z∈c.hold,x.1≠z.1:=fun x hx z hz e=>by
  obtain⟨sl,h5⟩:=LY.kp.mem (z:=z.1) (o:=z.2) hz
  exact lt _ (ZC _ h5) x hx e.symm
 have xL:∀x∈X,x.1≠c.L:=fun x hx=>Nat.ne_of_gt (ZY F.ns.lt (hX x hx).1)
 refine⟨.mk m os (X++H) (F.keeps hk) (fun q hq=>?_) hm ⟨LY.hl,LY.hg,LY.ho,LY.nd,LY.pre,fun q hq hmm=>?_,LY.kp.app _,LY.sh⟩ ⟨rfl,.refl _ _⟩,fun x hx=>⟨c.hfr.off (xL x hx) (ltH x hx),ltH x hx⟩⟩
 ·have old:∀q∈aS ρ os H,h'.get? q.1=some q.2/\q.1≠c.L/\c.o.g.get? q.1=none:=fun q hq=>⟨hk _ _ (N q hq).1,(N q hq).2⟩
  rcases ZS.mp hq with hq|hq
  ·exact old q (ZD _ hq)
  rcases ZS.mp hq with hq|hq
  ·exact⟨(hX q hq).2,xL q hq,Zs (ZW F.above (ZW (Zr F.ns.lt) (hX q hq).1))⟩
  ·exact old q (ZC _ hq)
 ·rcases ZS.mp hq with hq|hq
  ·obtain⟨i,hi,e9⟩:=ZF.mp (List.mem_of_mem_drop hmm)
   exact lt _ (ZD _ (au (ρ:=ρ) (os:=os) (ZA hi) (ZA (h:=LY.hl▸hi)))) q hq e9
  ·exact LY.ap q hq hmm
theorem ad.slotAt(S:ad c Γ ρ s){i:Nat}{so:SO}(h:Γ.o[i]?=some so):tC w ρ s.heap i so:=by
 obtain⟨m,os,H,F,N,hm,LY,hs⟩:=S
 obtain⟨a,o,ha,_,hi,hmem⟩:=LY.slot h
 exact⟨a,o,ha,hi,(N _ hmem).1⟩
theorem p0{vs:LX}{us:LW}(h:bh ρ vs us){i:Nat}{v:SV}(e:vs[i]?=some v):∃u,us[i]?=some u/\v.Is ρ u:=by
 induction h generalizing i with
|nil=>exact nomatch e
|cons h _ ih =>
  cases i with
 |zero=>obtain rfl:=ZK e;exact⟨_,vS,h⟩
 |succ i=>exact ih e
end
section
variable{w:World}{κ:CK}{n₁:Nat}{c:Cx w κ}{Γ Γ₁:G}{ρ1:LQ}{P:SF->G->Prop}
noncomputable def um:Expr:=.Tuple [.Name "byte1" ⟨242,16,242,21⟩,.Name "byte2" ⟨242,23,242,28⟩] 0 ⟨242,15,242,29⟩
noncomputable def uk:Expr:=.Tuple [.Name "i" ⟨242,12,242,13⟩,um] 0 ⟨242,12,242,29⟩
inductive uu(c:Cx w κ)(Γf:Nat->G)(hp:c.ρ0<+:ρ1)(hlen:ρ1.length=n₁)(e it al:Addr)(n m:Nat)(s':Shared):Prop
|mk (i:Nat) (ρ:LQ) (oe oi:Obj) (old:Value) (hm:m=n-i) (hi:i<=n) (hs:aT c s') (hE:∀h'':Heap,h''.get? e=some oe->IsEnum h'' e it ((i:Nat):Int) old) (hI:∀h'':Heap,h''.get? it=some oi->h''.IsListIter it al i) (S:ad (c.lp ρ1 hp hlen [(e,oe),(it,oi)] s') (Γf i) ρ s')
theorem mN{body:LS}{r b n:Nat}{f g:Nat->Int}{Γf:Nat->G}{e it al:Addr}{hpp:c.ρ0<+:ρ1}{hlen:ρ1.length=n₁}{Q:Flow->Shared->Prop}{E:VS}(hr:∀i,(Γf i).o[r]?=some (.list (be b n)))(ht:∀i j,j<n->(Γf i).o[b+j]?=some (.tup [.int (f j),.int (g j)]))
  (turn:∀(c':Cx w { κ with n:=n₁ }) i,i<n->Ex c' ((((Γf i).put "i" (.int i)).put "byte1" (.int (f i))).put "byte2" (.int (g i))) body (FP n₁ (fun _ (_:Unit)=>True) (fun i O=>Γf i) i P)) (done:P .next (Γf n))
  (hxi:κ.cs.names.lookup ("i":Str)=some .local) (hxa:κ.cs.names.lookup ("byte1":Str)=some .local) (hxb:κ.cs.names.lookup ("byte2":Str)=some .local) (hE_:PassesOwn (model PR w) c.A c.env E) (KK:∀f fl ρ' Γ' s',P f Γ'->f.Is ρ' fl->ad c Γ' ρ' s'->Q fl s')
  (hpr:ρ1[r]?=some al) (hne:e≠it) (hoff1:e∉aZ c.o.fr/\∀z∈c.hold,e≠z.1) (hoff2:it∉aZ c.o.fr/\∀z∈c.hold,it≠z.1) {m:Nat} {s':Shared} (I:uu c Γf hpp hlen e it al n m s') :
  codeAny (model PR w) c.A (.forLoop uk (.ref e) body [] c.env) (fun r s'=>match r with|.ok f=>Q f s'|.error er=>cameBackBy (model PR w) c.A c.env E er s') s':=by
 have hofO:∀(o o':Obj),∀q∈[(e,o),(it,o')],q.1∉aZ c.o.fr/\∀z∈c.hold,q.1≠z.1:=fun o o' q hq=>by
  rcases ZT.mp hq with rfl|hq
  ·exact hoff1
  ·refine aa (ZP.mp hq ..) ?_;exact hoff2
 obtain⟨J,hJ⟩:∃J:Nat->Shared->Prop,J=uu c Γf hpp hlen e it al n:=⟨_,rfl⟩
 refine jX hE_ J Q ?_ m (by refine aa (hJ ..) ?_;exact I)
 clear I m s'
 intro m s' h9
 rw[hJ] at h9
 refine gP fun P0 k0=>?_
 obtain⟨i,ρ5,oe,oi,old,hm,hi,hs',hEo,hIo,S⟩:=h9
 have own:=S.ownAt fun q hq=>(hofO oe oi q hq).1
 have hE:=hEo _ (own _ (.head _))
 have hI:=hIo _ (own _ (.tail _ (.head _)))
 obtain⟨a1,o1,h1,i1,g1⟩:=S.slotAt (hr i)
 rw[ak S.pre hpr] at h1;obtain rfl:=ZK h1
 obtain⟨us,k,rfl,hus⟩:=i1.listI
 have hL:s'.heap.IsList al us.toArray:=aK g1
 rcases Zq i n with hlt|hge
 ·obtain⟨u,hu1,hu2⟩:=p0 hus (show (be b n)[i]?=some (.ref (b+i)) by unfold be;refine aa (List.getElem?_map ..) (aa (List.getElem?_range hlt ..) ?_);rfl)
  obtain⟨T,rfl,hT1⟩:=hu2.refI
  obtain⟨T',oT,hT2,iT,gT⟩:=S.slotAt (ht i i hlt)
  rw[hT1] at hT2;obtain rfl:=ZK hT2
  obtain⟨_,rfl,hts⟩:=iT.tupI
  obtain⟨_,_,rfl,t1,ts⟩:=hts.consI
  replace ts:=ts.consI;obtain⟨_,_,rfl,t2,ts⟩:=ts
  obtain rfl:=ts.nilI;obtain⟨tk1,rfl⟩:=t1.intI;obtain⟨tk2,rfl⟩:=t2.intI
  refine k0 ?_
  refine wpAny_pyNext_enum_item hE hI hL (by simpa using hu1) hne fun hj1 heo hit1 htj1 hzj1 hkj1=>?_
  dsimp only
  have heH:=Zg (own _ (.head _))
  refine wpAny_letOwnedTupleGo_enum heo fun hw2 hej2 hsj2=>?_
  replace hsj2:Heap.SameBut e hj1 hw2:=hsj2
  have htj2:hw2.IsTuple s'.heap.objs.size #[.int i s'.toks,.ref T]:=⟨_,(hsj2.2 _ (Nat.ne_of_gt heH)).trans htj1,rfl,_,rfl⟩
  have hzj2:hw2.objs.size=s'.heap.objs.size+1:=hsj2.1.trans hzj1
  refine wpAny_assign_Tuple rfl htj2 rfl rfl fun hj3 hx3=>?_
  replace hx3:Heap.ExtBut hw2.objs.size hw2 hj3:=hx3
  have up:∀b o,b≠e->b≠it->s'.heap.get? b=some o->hj3.get? b=some o:=fun b o hbe hbi x =>
   hx3 b o (by refine aa (hzj2 ..) ?_;exact Zb (Nat.lt_succ_of_lt (Zg x))) ((hsj2.2 b hbe).trans (hkj1 b o hbe hbi x))
  obtain⟨oi1,hoi1,ci1,di1⟩:=hit1
  have hi3:hj3.get? it=some oi1:=hx3 it _ (by refine aa (hzj2 ..) ?_;exact Zb (Nat.lt_succ_of_lt (Zg (own _ (.tail _ (.head _)))))) ((hsj2.2 it hne.symm).trans hoi1)
  obtain⟨eo,hE9,he3⟩:∃eo:Obj,(∀h':Heap,h'.get? e=some eo->IsEnum h' e it ((i:Int)+1) (.ref T))/\hj3.get? e=some eo:=⟨_,fun h' x=>x,hx3 e _ (by refine aa (hzj2 ..) ?_;exact Zb (Nat.lt_succ_of_lt heH)) hej2⟩
  have S5:=S.reown (own':=[(e,eo),(it,oi1)]) (tk:=s'.toks+1) (hofO oe oi) (fun q hq=>by
   rcases ZT.mp hq with rfl|hq
   ·exact⟨_,.head _,rfl⟩
   ·refine aa (ZP.mp hq ..) ?_;exact⟨_,.tail _ (.head _),rfl⟩) (fun b o hb x=>up b o (hb _ (.head _)).symm (hb _ (.tail _ (.head _))).symm x) fun q hq=>by
   rcases ZT.mp hq with rfl|hq
   ·exact he3
   ·refine aa (ZP.mp hq ..) ?_;exact hi3
  show wpAny _ c.A (do holding [.ref T] (PySem.assign (.Name "i" ⟨242,12,242,13⟩) c.env (.int i s'.toks));do holding [] (PySem.assign um c.env (.ref T));pure ()) _ _ _
  refine ZL (wpAny_holding (wpAny_assign_Name (S5.put (.int _ _) hxi fun hj4 tk4 S6=>?_)))
  obtain⟨T9,oT9,e9,iT9,gT9⟩:=S6.slotAt (i:=b+i) (ht i i hlt)
  rw[hT1] at e9;obtain rfl:=ZK e9
  obtain⟨_,rfl,hts⟩:=iT9.tupI
  obtain⟨_,_,rfl,t1,ts⟩:=hts.consI
  replace ts:=ts.consI;obtain⟨_,_,rfl,t2,ts⟩:=ts
  obtain rfl:=ts.nilI;obtain⟨_,rfl⟩:=t1.intI;obtain⟨_,rfl⟩:=t2.intI
  refine ZL (wpAny_holding (wpAny_assign_Tuple rfl ⟨_,gT9,rfl,_,rfl⟩ rfl rfl fun hj5 hx5=>?_))
  have S7:=S6.grow (h':=hj5) (tk:=tk4) fun b o x=>hx5 b o (Zb (Zg x)) x
  show wpAny _ c.A (do holding [.int (g i) _] (PySem.assign (.Name "byte1" ⟨242,16,242,21⟩) c.env (.int (f i) _));do holding [] (PySem.assign (.Name "byte2" ⟨242,23,242,28⟩) c.env (.int (g i) _));pure ()) _ _ _
  refine ZL (wpAny_holding (wpAny_assign_Name (S7.put (.int _ _) hxa fun hj6 tk6 S8=>?_)))
  refine ZL (wpAny_holding (wpAny_assign_Name (S8.put (.int _ _) hxb fun hj7 tk7 S9=>?_)))
  refine ZM (ZM ?_)
  refine turn _ i hlt ρ5 _ _ E hE_ S9 fun f' fl ρ8 Γ8 sj8 hPP hF S10=>?_
  have hs8:aT c sj8:=(hs'.heap hj3 (s'.toks+1)).step (pg:=[]) (pg':=[]) ⟨by have:=S10.rel.eq;exact this,by have:=S10.rel.gx;exact this,fun O h=>(nomatch h),.nil⟩ fun O h=>nomatch h
  have fin:G.Le Γ8 (Γf (i+1))->(Γf (i+1)).fit=true->Nat.ble n₁ (Γf (i+1)).o.length=true->∃m',m'<m/\J m' sj8:=fun g1 g2 g3 =>
   ⟨n-(i+1),by refine aa (hm ..) ?_;exact nL hlt,by refine aa (hJ ..) ?_;exact .mk (i+1) _ eo oi1 (.ref T) rfl hlt hs8 hE9 (fun h'' x=>⟨oi1,x,ci1,di1⟩) ((S10.weak g1 g2 g3).re (S10.weak g1 g2 g3).pre)⟩
  cases hPP with
 |next _ _ hl2 hf2 hf3=>cases hF;exact fin hl2 hf2 hf3
 |cont _ _ hl2 hf2 hf3=>cases hF;exact fin hl2 hf2 hf3
 |brk h1=>cases hF;exact KK _ _ ρ8 _ _ h1 .next ((S10.reown (own':=[]) (tk:=sj8.toks) (hofO eo oi1) (fun O h=>nomatch h) (fun O O O x=>x) fun O h=>nomatch h).out hs8)
 |ret h1=>cases hF with|ret hu=>exact KK _ _ ρ8 _ _ h1 (.ret hu) ((S10.reown (own':=[]) (tk:=sj8.toks) (hofO eo oi1) (fun O h=>nomatch h) (fun O O O x=>x) fun O h=>nomatch h).out hs8)
 ·obtain rfl:i=n:=Nat.le_antisymm hi hge
  refine k0 ?_
  refine wpAny_pyNext_enum_end rfl hE hI hL (by have:=svs_len hus;rw[ia] at this;simp[this]) fun h9 hk9=>?_
  have S5:=S.reown (own':=[]) (tk:=s'.toks) (hofO oe oi) (fun O h=>nomatch h) (fun b o hb x=>hk9 b o (hb _ (.tail _ (.head _))).symm x) fun O h=>nomatch h
  exact wpAny_execs_nil (KK _ _ ρ5 _ _ done .next (S5.out (hs'.heap h9 s'.toks)))
theorem bJ.forEnum{fe:Str}{p3 pos fp:Pos}{arg:Expr}{body:LS}{r b n:Nat}{f g:Nat->Int}(Γf:Nat->G)(n₁:Nat)(hf:Ev c Γ (.Name fe fp) (.val (.type "enumerate")) Γ)(he:Ev c Γ arg (.ref r) Γ₁)(hr1:Γ₁.o[r]?=some (.list (be b n)))(hr:∀i,(Γf i).o[r]?=some (.list (be b n)))(ht:∀i j,j<n->(Γf i).o[b+j]?=some (.tup [.int (f j),.int (g j)]))
  (hle:G.Le Γ₁ (Γf 0)) (hft:(Γf 0).fit=true) (hnn:Nat.ble n₁ (Γf 0).o.length=true)
  (turn:∀(c':Cx w { κ with n:=n₁ }) i,i<n->Ex c' ((((Γf i).put "i" (.int i)).put "byte1" (.int (f i))).put "byte2" (.int (g i))) body (FP n₁ (fun _ (_:Unit)=>True) (fun i O=>Γf i) i P)) (done:P .next (Γf n))
  (hrn:Nat.blt r n₁=true:=by exact vT) (hn0:Nat.ble κ.n n₁=true:=by exact vT) (hn1:Nat.ble n₁ Γ₁.o.length=true:=by exact vT) (hxi:κ.cs.names.lookup ("i":Str)=some .local:=by exact vS) (hxa:κ.cs.names.lookup ("byte1":Str)=some .local:=by exact vS) (hxb:κ.cs.names.lookup ("byte2":Str)=some .local:=by exact vS)
  (hs:∀env (v:Value),foldedSetIterable (.Call (.Name fe fp) [arg] [] p3) env v=pure v:=by intros;rfl) (hst:∀env,starEach [arg] env=(false,eval arg env)::starEach [] env:=by intros;rfl) :
  bJ c Γ (.For uk (.Call (.Name fe fp) [arg] [] p3) body [] pos) P:=fun ρ s Q E hE_ S KK=>by
 refine wpAny_For ?_ (hs _)
 refine Call_ (hf ρ s _ E S fun u ρ1 sj1 hp1 q1 Sj1=>?_)
 obtain rfl:=q1.valI
 refine PySem.Pv.callWith_type1 (args_cons (he ρ1 sj1 _ E Sj1 fun u2 ρ₂ sj2 hp2 q2 Sj2=>args_nil ?_) (hst _)) (hst _)
 obtain⟨al,ol,hal,hil,hgl⟩:=Sj2.slotAt hr1
 obtain rfl:=q2.refAt hal
 obtain⟨us,k,rfl,hus⟩:=hil.listI
 refine call_enumerate_list (aK hgl) fun h' hE0 hI0 hsz hk=>?_
 refine wpAny_pyIter_enum hE0 ?_
 obtain⟨oi,hoi,ci,di⟩:=hI0
 have g1:=ZJ hn0
 have g2:=ZJ hn1
 have hl:=Sj2.len
 have hlen:(ρ₂.take n₁).length=n₁:=by refine aa (Zv ..) ?_;exact(aJ [.m .a .b,.e .c .b,.I .d .a .c] (.e .d .a)) g2 hl (iX _ _)
 have hpp:c.ρ0<+:ρ₂.take n₁:=List.prefix_take_iff.mpr ⟨Sj2.pre,by refine aa (c.len ..) ?_;exact g1⟩
 have hrn:=Nat.blt_eq.mp hrn
 have hpr:(ρ₂.take n₁)[r]?=some al:=by refine aa (Zy ..) (aa (if_pos hrn ..) ?_);exact hal
 obtain⟨oe,hoe,hEo⟩:∃oe,h'.get? (sj2.heap.objs.size+1)=some oe/\∀h'':Heap,h''.get? (sj2.heap.objs.size+1)=some oe->IsEnum h'' (sj2.heap.objs.size+1) sj2.heap.objs.size ((0:Nat):Int) .none:=⟨_,hE0,fun O x=>x⟩
 obtain⟨S3,hoff⟩:=ad.freshs (X:=[(sj2.heap.objs.size+1,oe),(sj2.heap.objs.size,oi)]) (h':=h') (tk:=sj2.toks) (Sj2.lp (hp:=hpp) (h:=hlen) (List.take_prefix _ _)) (fun q hq=>by
  rcases ZT.mp hq with rfl|hq
  ·exact⟨Nat.le_succ _,hoe⟩
  ·refine aa (ZP.mp hq ..) ?_;exact⟨ZZ _,hoi⟩) hk
 have S4:=S3.weak hle hft hnn
 have S4:=S4.re (ρ₂:=ρ₂.take n₁) (hp2:=hpp) (h2:=hlen) S4.pre
 have hsj4:aT c { sj2 with heap:=h',toks:=sj2.toks }:=Sj2.rel.heap h' sj2.toks
 exact mN hr ht turn done hxi hxa hxb hE_ KK hpr (Nat.succ_ne_self _) (hoff _ (.head _)) (hoff _ (.tail _ (.head _))) ⟨0,_,oe,oi,.none,rfl,Zf _,hsj4,hEo,fun h'' x=>⟨oi,x,ci,di⟩,S4⟩
end
example:True:=by w_top off;trivial
theorem ug(j:Nat):tb 0 j=false:=by unfold tb;refine aa (Int.zero_ediv ..) ?_;rfl
theorem bW(bs:LI){z:Int}(h0:0<=z):ay bs z=tb (bs.getD (z/8).toNat 0) (z%8).toNat:=by
 refine aa (cA bs h0 ..) ?_
 by_cases h:z/8<bs.length
 ·exact aa (decide_eq_true h ..) (aa (Bool.true_and ..) rfl)
 ·refine aa (decide_eq_false h ..) (aa (ZE ..) (aa (Zh (by exact(dj [.x (.L .A (.t .a)),.W 8 .A .B,.T .b .A] (.m .a .b)) h (aM 8) (bz _)) ..) ?_))
  exact(ug _).symm
noncomputable def dN(F:Int->Int->Int)(as bs:LI)(i:Nat):List Int:=(List.range i).map (fun j=>F (as.getD j 0) (bs.getD j 0))++as.drop i
section
variable{F:Int->Int->Int}{as bs:LI}{i:Nat}
theorem ew:(dN F as bs i).length=max i as.length:=by unfold dN;refine aa (Zl ..) (aa (Zm ..) (aa (List.length_range ..) (aa (List.length_drop ..) ?_)));exact(aJ [.S .b .c .a,.U .d .a .c] (.e (.p .a .b) .d)) (bc _ _) (eh _ _)
theorem lQ(hi:i<as.length):(dN F as bs i).set i (F (as.getD i 0) (bs.getD i 0))=dN F as bs (i+1):=by
 unfold dN
 refine aa (List.set_append_right _ _ (by simp) ..) (aa (Zm ..) (aa (List.length_range ..) (aa (Nat.sub_self ..) (aa (Zj hi ..) (aa (List.set_cons_zero ..) (aa (List.range_succ ..) (aa (List.map_append ..) (aa (List.append_assoc ..) ?_))))))))
 rfl
theorem lR(hi:as.length<=i):dN F as bs i++[F (as.getD i 0) (bs.getD i 0)]=dN F as bs (i+1):=by
 unfold dN
 refine aa (Zo hi ..) (aa (Zo (by exact(ah [.m .a .b] (.m .a (.p .b .u))) hi) ..) (aa (List.append_nil ..) (aa (List.append_nil ..) (aa (List.range_succ ..) (aa (List.map_append ..) ?_)))))
 rfl
end
theorem lq(bs:LI):∀(n j:Nat),tN bs n<=j->j<n->bs.getD j 0=0
|0,_,_,h=>absurd h (Nat.not_lt_zero _)
|n+1,j,h1,h2=>by
  unfold tN at h1
  split at h1
  ·rcases Nat.lt_succ_iff_lt_or_eq.mp h2 with h|h
   ·exact lq bs n j h1 h
   ·refine aa (h ..) ?_;assumption
  ·exact(c8 [.l .a (.p .b .u),.m (.p .b .u) .a] (.E .A .o)) h2 h1
theorem oH(bs:LI){z:Int}(h0:0<=z):ay (b8 bs) z=ay bs z:=by
 refine aa (bW _ h0 ..) (aa (bW _ h0 ..) ?_)
 congr 1
 unfold b8
 refine aa (ZE ..) (aa (Zy ..) ?_)
 split
 ·exact aa (ZE ..) rfl
 ·rename_i h
  rcases Zq (z/8).toNat bs.length with h9|h9
  ·refine aa (lq bs bs.length _ (Nat.not_lt.mp h) h9 ..) ?_;rfl
  ·exact aa (ZE ..) (aa (Zh h9 ..) rfl)
theorem sa{op:Int->Int->Int}{q:Bool->Bool->Bool}(hop:∀a b j,tb (op a b) j=q (tb a j) (tb b j))(hq:q false false=false)(as bs:LI){z:Int}(h0:0<=z):ay (dN (fun a b=>Builtin.bitAnd (op a b) 255) as bs (max as.length bs.length)) z=q (ay as z) (ay bs z):=by
 refine aa (bW _ h0 ..) (aa (bW _ h0 ..) (aa (bW _ h0 ..) ?_))
 unfold dN
 refine aa (Zo (Nat.le_max_left _ _) ..) (aa (List.append_nil ..) (aa (ZE ..) (aa (List.getElem?_map ..) ?_)))
 rcases Zq (z/8).toNat (max as.length bs.length) with h|h
 ·refine aa (List.getElem?_range h ..) ?_
  show tb (Builtin.bitAnd (op _ _) 255) _=_
  exact aa (rg _ (by exact(eZ [.Q 8 .C .A .B,.T .a .A] (.l .a .y)) (dJ 8) (bz _)) ..) (aa (hop ..) rfl)
 ·rw[Zh (by rw[List.length_range];exact h),ZE,ZE,Zh (by exact(tf [.m .a .d,.U .a .b .c,.W 8 .A .B,.T .d .A] (.m .b .d)) h (eh _ _) (aM 8) (bz _)),Zh (by exact(tf [.m .a .d,.U .a .b .c,.W 8 .A .B,.T .d .A] (.m .c .d)) h (eh _ _) (aM 8) (bz _))]
  show tb 0 _=q (tb 0 _) (tb 0 _)
  exact aa (ug ..) (aa (hq ..) rfl)
theorem ar.logic{op:Int->Int->Int}{q:Bool->Bool->Bool}(hop:∀a b j,tb (op a b) j=q (tb a j) (tb b j))(hq:∀b,q false b=false){as bs cs ks:LI}(A:ar as cs)(B:ar bs ks):ar (b8 (dN (fun a b=>Builtin.bitAnd (op a b) 255) as bs (max as.length bs.length))) (cs.filter fun z=>q true (decide (z∈ks))):=by
 have ha:=A.len
 have hb:=B.len
 refine⟨?_,fun c hc=>?_,A.up.filter _,fun z hz=>A.rng z (Ze.mp hz).1,fun z hz=>?_⟩
 ·unfold b8
  have:=List.length_take_le (tN (dN (fun a b=>Builtin.bitAnd (op a b) 255) as bs (max as.length bs.length)) (dN (fun a b=>Builtin.bitAnd (op a b) 255) as bs (max as.length bs.length)).length) (dN (fun a b=>Builtin.bitAnd (op a b) 255) as bs (max as.length bs.length))
  refine ZW (List.length_take_le' _ _) ?_
  refine aa (ew ..) ?_;exact(aJ [.m .a .w,.m .b .w,.U .d .a .b,.U .c .d .a] (.m .c .w)) ha hb (eh _ _) (eh _ _)
 ·have h9:=List.mem_of_mem_take hc
  unfold dN at h9
  rw[Zo (Nat.le_max_left _ _),List.append_nil] at h9
  obtain⟨j,_,rfl⟩:=Zc.mp h9
  exact mf _
 ·rw[oH _ hz,sa hop (hq false) as bs hz,Ze]
  have e1:=A.mem z hz
  have e2:=B.mem z hz
  cases h1:ay as z with
 |false =>
   rw[hq]
   exact⟨(fun h=>nomatch h),fun hZ21=>by obtain⟨h,_⟩:=hZ21;rw[e1.mpr h] at h1;exact nomatch h1⟩
 |true =>
   rw[show decide (z∈ks)=ay bs z from Bool.eq_iff_iff.mpr (decide_eq_true_iff.trans e2.symm)]
   exact⟨fun h=>⟨e1.mp h1,h⟩,fun h=>h.2⟩
theorem Ev.conv{w:World}{κ:CK}{c:Cx w κ}{Γ Γ₁ Γ2:G}{e:Expr}{u v:SV}(h:Ev c Γ e u Γ₁)(hv:u=v)(hg:Γ₁=Γ2):Ev c Γ e v Γ2:=hv▸hg▸h
theorem m9(m:LV)(B:LO)(a b:Nat)(as bs:LI)(n:Nat):G.upd ⟨m,B⟩ [a,b] (zO as bs n)=⟨m,((B.set a (.nums as)).set b (.nums bs))++([.list (be (B.length+3) n),.nums as,.nums bs]++bu (as.getD · 0) (bs.getD · 0) n)⟩:=by
 have e0:cQ B.length [a,b] (zO as bs n).length=[a,b]++List.range' B.length (n+3):=by
  unfold cQ
  refine aa (eP ..) ?_
  rfl
 have e1:(be 5 n).map (·.ren ([a,b]++List.range' B.length (n+3)))=be (B.length+3) n:=by
  unfold be
  refine aa (List.map_map ..) ?_
  refine List.map_congr_left fun j hj=>?_
  have hj:=List.mem_range.mp hj
  show SV.ref (([a,b]++List.range' B.length (n+3)).getD (5+j) 0)=SV.ref (B.length+3+j)
  refine aa (ZE ..) (aa (ZI (by show 2<=5+j;exact(ai [] (.m (.n 2) (.p (.n 5) .a)))) ..) (aa (List.getElem?_range' (by show 5+j-2<n+3;exact(av [.l .a .b,.S .c (.p (.n 5) .a) (.n 2)] (.l .c (.p .b .w))) hj (bc _ _)) ..) ?_))
  show SV.ref (B.length+1*(5+j-2))=_
  congr 1;exact(av [.S .b (.p (.n 5) .c) (.n 2)] (.e (.p .a (.k 1 .b)) (.p (.p .a .w) .c))) (bc _ _)
 have e2:(bu (as.getD · 0) (bs.getD · 0) n).map (·.ren ([a,b]++List.range' B.length (n+3)))=bu (as.getD · 0) (bs.getD · 0) n:=by
  unfold bu
  refine aa (List.map_map ..) ?_
  rfl
 unfold G.upd
 dsimp only
 refine aa (e0 ..) ?_
 unfold zO
 refine aa (List.map_append ..) (aa (e2 ..) ?_)
 show (⟨m,gR B [a,b] ((.nums as)::(.nums bs)::([.list ((be 5 n).map (·.ren ([a,b]++List.range' B.length (n+3)))),.nums as,.nums bs]++bu (as.getD · 0) (bs.getD · 0) n))⟩:G)=_
 refine aa (e1 ..) ?_
 rfl
theorem lZ(w:World):nsIn (hd.heap_1 w.params) mainGlobals "izip_longest"=some (some (.ref 68)):=by k_is
theorem lT(w:World):keepIn (hd.heap_1 w.params) (.ref 68)=true:=by k_is
theorem lH(w:World):am w 514 "_trim" 396:=⟨by k_is,by k_is,by k_is,by k_is⟩
theorem ax.and_{w:World}{κ:CK}{c:Cx w κ}{Γ:G}{a b:Int}:ax c Γ (.val (.builtin "_operator.and_")) [.int a,.int b] [] (.int (Builtin.bitAnd a b)) Γ:=fun ρ s Q E fv us ks S hf hv hk1 O K=>by
 obtain rfl:=hf.valI
 obtain⟨_,_,rfl,h1,h2⟩:=hv.consI
 replace h2:=h2.consI;obtain⟨_,_,rfl,h2,h3⟩:=h2
 obtain rfl:=h3.nilI;obtain⟨_,rfl⟩:=h1.intI;obtain⟨_,rfl⟩:=h2.intI
 obtain rfl:ks=[]:=ZG.mp hk1
 refine call_function_entry (b:=Builtin.«_operator.and_») (by decide +kernel) (by decide +kernel) (entryFor_of_tree (by kernel_rfl)) (by unfold argsOk;kernel_rfl) ?_
 unfold Builtin.«_operator.and_»
 refine ZL (m:=Builtin._operator.two "and_" _) (wpAny_of_eq (a:=(Value.int a _,Value.int b _)) (by first|rfl|kernel_rfl!) ?_)
 dsimp only
 exact ZL (cZ.and _ _ _ _ _ _ fun t' tk=>ZM ⟨_,rfl,K _ ρ _ (ZN _) (.int _ _) (S.toks tk)⟩)
example:True:=by w_top off;trivial
noncomputable abbrev bs2(as bs:LI):List SO:=[.inst 514 1,.attrs [("bits",.ref 2)],.nums as,.inst 514 4,.attrs [("bits",.ref 5)],.nums bs]
noncomputable abbrev m7(X:LO)(F:Int->Int->Int)(as bs:LI)(n i:Nat):List SO:=[.inst 514 1,.attrs [("bits",.ref 2)],.nums (dN F as bs i),.inst 514 4,.attrs [("bits",.ref 5)],.nums bs]++X++([.list (be (6+X.length+3) n),.nums as,.nums bs]++bu (as.getD · 0) (bs.getD · 0) n)
section
variable(X:LO)(F:Int->Int->Int)(as bs:LI)(n i:Nat)
theorem eu:(m7 X F as bs n i).length=n+3+X.length+6:=by
 unfold m7
 refine aa (Zl ..) (aa (Zl ..) (aa (Zl ..) (aa (hV ..) ?_)))
 show 6+X.length+(3+n)=_
 exact(ah [] (.e (.p (.p (.n 6) .a) (.p .w .b)) (.p (.p (.p .b .w) .a) (.n 6))))
theorem fO(hX:X.all (·.fit (n+3+X.length+6))=true)(m:LV)(hm:m.all (fun e=>e.2.fit (n+3+X.length+6))=true):G.fit ⟨m,m7 X F as bs n i⟩=true:=by
 unfold G.fit
 refine aa (eu ..) (aa (hm ..) (aa (Bool.true_and ..) ?_))
 unfold m7
 refine aa (List.all_append ..) (aa (List.all_append ..) (aa (List.all_append ..) (aa (hW ..) (aa (hX ..) ?_))))
 simp only[List.all_cons,List.all_nil,ib (show 6+X.length+3+n<=n+3+X.length+6 by exact(ah [] (.m (.p (.p (.p (.n 6) .a) .w) .b) (.p (.p (.p .b .w) .a) (.n 6))))),Bool.and_true]
 rfl
theorem lP(j:Nat)(hj:j<n):(m7 X F as bs n i)[6+X.length+3+j]?=some (.tup [.int (as.getD j 0),.int (bs.getD j 0)]):=by
 unfold m7
 have e1:([SO.inst 514 1,.attrs [("bits",.ref 2)],.nums (dN F as bs i),.inst 514 4,.attrs [("bits",.ref 5)],.nums bs]++X).length=6+X.length:=by refine aa (Zl ..) ?_;rfl
 rw[ZI (by rw[e1];exact(ah [] (.m (.p (.n 6) .a) (.p (.p (.p (.n 6) .a) .w) .b)))),e1,ZI (by show 3<=6+X.length+3+j-(6+X.length);exact(av [.S .a (.p (.p (.p (.n 6) .b) .w) .c) (.p (.n 6) .b)] (.m .w .a)) (bc _ _))]
 show (bu _ _ n)[6+X.length+3+j-(6+X.length)-3]?=_
 refine aa (show 6+X.length+3+j-(6+X.length)-3=j by lia) ?_
 unfold bu
 refine aa (List.getElem?_map ..) (aa (List.getElem?_range hj ..) ?_)
 rfl
end
theorem qV(w:World)(as bs:LI)(ha:as.length<=3)(hb:bs.length<=3):az w 5 417 (bs2 as bs) [.ref 0,.ref 0,.val (.builtin "_operator.and_"),.ref 3] []
  (ch (.ref 0) (bs2 (b8 (dN (fun a b=>Builtin.bitAnd (Builtin.bitAnd a b) 255) as bs (max as.length bs.length))) bs)):=by
 refine' cJ ["self","obj","op","other"] ?ho ?hcd ?hb ?hx ?nd ?hl ?H ?c1 ?c2 ?c3 ?c4
 k_extra "cxd"
 case hb =>
  intro _ us _ hl
  obtain⟨a,b,c,d,rfl⟩:∃a b c d,us=[a,b,c,d]:=⟨_,_,_,_,List.eq_getElem_of_length_eq_four us hl⟩
  exact BindsTo.of_eq rfl
 intro c _
 have hn:max as.length bs.length<=3:=by exact(av [.m .a .w,.m .b .w,.U .c .a .b] (.m .c .w)) ha hb (eh _ _)
 have n1:as.length<=max as.length bs.length:=by exact(av [.U .b .a .c] (.m .a .b)) (eh _ _)
 refine .cons (.assign (.attr (.name vS) vS vS vS (aD w) af) ?_)
 refine .cons (.forEnum (r:=6) (b:=9) (n:=max as.length bs.length) (f:=(as.getD · 0)) (g:=(bs.getD · 0)) (fun i=>⟨[("objbits",.ref 2),("obj",.ref 0),("op",.val (.builtin "_operator.and_"))],m7 [] (fun a b=>Builtin.bitAnd (Builtin.bitAnd a b) 255) as bs (max as.length bs.length) i⟩) 9 (.bi (by k_is) boot_enumerate)
  (.conv (.callPK (.glob (lZ w)) (lT w) (.cons (.name vS) (.cons (.attr (.name vS) vS vS vS (aD w) af) .nil)) .intE (ae.det (o7 w as bs ha hb) [2,5] (.cons rfl (.cons rfl .nil)) (by decide) vT rfl).cal) ?_ (m9 _ (bs2 as bs) 2 5 as bs _)) vS (fun O=>rfl) (fun i j hj=>lP [] _ as bs _ i j hj) ⟨.cons vS (.cons vS (.cons vS .nil)),?_⟩ ?_ ?_ (fun c' i hi=>?_) ?_)
 ·exact rfl
 ·exact .same
 ·exact fO [] _ as bs _ 0 vT _ vT
 ·show Nat.ble 9 (m7 [] _ as bs _ 0).length=true
  refine aa (eu ..) ?_;rfl
 ·have hlen:=ew (F:=fun a b=>Builtin.bitAnd (Builtin.bitAnd a b) 255) (as:=as) (bs:=bs) (i:=i)
  refine .cons (.assign (.iop (.call_bi (.name vS) (.cons (.name vS) (.cons (.name vS) .nil)) ax.and_) .intE .and) ?_)
  have le9:Nat.ble 9 (m7 [] (fun a b=>Builtin.bitAnd (Builtin.bitAnd a b) 255) as bs (max as.length bs.length) (i+1)).length=true:=by refine aa (eu ..) ?_;rfl
  have ft9:=fO [] (fun a b=>Builtin.bitAnd (Builtin.bitAnd a b) 255) as bs (max as.length bs.length) (i+1) vT [(Str.ofString "objbits",.ref 2),(Str.ofString "obj",.ref 0),(Str.ofString "op",.val (.builtin "_operator.and_"))] vT
  refine .cons (.ite (.icmp (.name vS) (.len (.name vS) vS (by exact(gV [.m .a .w,.m .b .w,.l .c .d,.e .e .f,.U .d .a .b,.U .f .c .a] (.l .e (.n 4611686018427387904))) ha hb hi hlen (eh _ _) (eh _ _))) .ge) (fun h=>?_) fun h=>?_)
  ·have e:=lR (F:=fun a b=>Builtin.bitAnd (Builtin.bitAnd a b) 255) (as:=as) (bs:=bs) (i:=i) (by exact(aJ [.e .a .b,.M (.t .a) (.t .c),.U .b .c .d] (.m .d .c)) hlen h (eh _ _))
   refine .cons (.expr (.lmeth (.name vS) vS PySem.F.slot_list_append PySem.F.type_list_append (.cons (.name vS) .nil) (.append vS (by exact(c7 [.m .a .w,.l .d .a,.M (.t .e) (.t .d),.U .a .b .c] (.m .e .m)) hn hi h (eh _ _)))) (.nil (.nil (.next () trivial ⟨.cons vS (.cons vS (.cons vS .nil)),?_⟩ ft9 le9))))
   refine aa (e ..) ?_;exact .same
  ·have e:=lQ (F:=fun a b=>Builtin.bitAnd (Builtin.bitAnd a b) 255) (as:=as) (bs:=bs) (i:=i) (by exact(aJ [.e .a .b,.x (.M (.t .a) (.t .c)),.U .b .c .d] (.l .c .d)) hlen h (eh _ _))
   refine .cons (.setItem (.name vS) (.name vS) (.name vS) vS (by exact(ai [] (.M .o (.t .a)))) (by exact(ah [.x (.M (.t .a) (.t .b))] (.L (.t .b) (.t .a))) h) (by exact(aJ [.m .a .w,.l .d .a,.U .a .b .c] (.L (.t .d) .i)) hn hi (eh _ _)) (.nil (.nil (.next () trivial ⟨.cons vS (.cons vS (.cons vS .nil)),?_⟩ ft9 le9))))
   show ky (([SO.inst 514 1,.attrs [("bits",.ref 2)],.nums ((dN (fun a b=>Builtin.bitAnd (Builtin.bitAnd a b) 255) as bs i).set i _),.inst 514 4,.attrs [("bits",.ref 5)],.nums bs]++[])++([.list (be (6+0+3) (max as.length bs.length)),.nums as,.nums bs]++bu (as.getD · 0) (bs.getD · 0) (max as.length bs.length))) _
   refine aa (e ..) ?_;exact .same
 ·have hl3:(dN (fun a b=>Builtin.bitAnd (Builtin.bitAnd a b) 255) as bs (max as.length bs.length)).length<=3:=by refine aa (ew ..) ?_;exact(aJ [.m .a .w,.m .b .w,.U .c .a .b,.U .d .c .a] (.m .d .w)) ha hb (eh _ _) (eh _ _)
  refine .cons (.expr (.mcall0 (.name vS) vS vS rfl (lH w) (ae.det (oV w _ hl3) [0,1,2] (ab rfl rfl rfl) (by decide) vT rfl).cal) ?_)
  exact .cons (.ret (.name vS) (.ret _ ⟨rfl,rfl⟩ (.cons (.cons (.cons (.cons (.cons (.cons .nil)))))) vT))
example:True:=by w_top off;trivial
noncomputable abbrev mJ:Arguments:={ posonlyargs:=[],args:=[{ arg:=Str.ofString "x",annotation:=none,pos:={ line:=294,col:=44,endLine:=294,endCol:=45 } },{ arg:=Str.ofString "y",annotation:=none,pos:={ line:=294,col:=47,endLine:=294,endCol:=48 } }],vararg:=none,kwonlyargs:=[],kw_defaults:=[],kwarg:=none,defaults:=[] }
noncomputable abbrev kM:Expr:=.BinOp (.Name (Str.ofString "x") { line:=294,col:=50,endLine:=294,endCol:=51 }) .BitAnd (.UnaryOp .Invert (.Name (Str.ofString "y") { line:=294,col:=55,endLine:=294,endCol:=56 }) { line:=294,col:=54,endLine:=294,endCol:=56 }) { line:=294,col:=50,endLine:=294,endCol:=56 }
noncomputable abbrev jL:Scope:={ kind:=ScopeKind.function,names:=[(Str.ofString "x",NameKind.local),(Str.ofString "y",NameKind.local)],isGenerator:=false,isCoroutine:=false }
noncomputable abbrev jM:Str:=(Str.ofString "BitSet.difference_update" ++ Str.ofString ".<locals>.")++Str.ofString "<lambda>"
noncomputable abbrev iY:Pos:={ line:=294,col:=37,endLine:=294,endCol:=56 }
noncomputable abbrev cF:SO:=.obj fun o=>∃vs t,o.data=.fields vs/\vs[1]?=some (.str jM t)
noncomputable abbrev rn(t:Nat):SO:=.dep t t fun a O o=>a=478/\o=tabObj #[]
noncomputable abbrev qx(t k:Nat):SO:=.dep t k fun a b o=>a=478/\o=tabObj #[rawInt 294,rawInt 37,.ref b]
noncomputable abbrev fw(k:Nat):SO:=.dep k k fun a O o=>∃pm ctv,o=kla_obj "<lambda>" jM mJ kM jL [] pm a ctv
theorem kf(P:Params):codeHdIn (hd.heap_1 P) 482 478=true:=by kernel_rfl
theorem ir{K:Frag}{c P:Addr}{h:Heap}(C:gN K c P)(X:K.In h):CodeHd h c P:=codeHd_of_K X C
theorem jq{d:Addr}{o:Obj}{post:AO}(h2:∀p∈post,p.1≠d):∀{pre:AO},(∀p∈pre,p.1≠d)->UpdF d o (pre++(d,o)::post) fun x=>pre++(d,x)::post
|[],_=>.head h2
|_::_,h=>.tail (h _ (.head _)) (jq h2 fun q hq=>h q (.tail _ hq))
section
variable{w:World}{κ:CK}{c:Cx w κ}{Γ Γ₁ Γ2:G}{scope:Scope}{t k:Nat}
theorem Ev.lam0(henv:c.env=envOf "BitSet.difference_update" scope c.L 483 (.ref 482))(ht:Γ.o[t]?=some (rn t))(hz:Nat.ble κ.nf t=true:=by exact vT):Ev c Γ (.Lambda mJ kM jL iY) (.ref (Γ.o.length+1)) (((Γ.addO cF).addO (fw Γ.o.length)).setO t (qx t Γ.o.length)):=fun ρ s Q E S KK=>by
 refine aa (henv ..) ?_
 refine kla_eval rfl ?_
 obtain⟨m,os,H,F,N,hm,LY,hs⟩:=S
 obtain⟨a,o,ha,ho,hi,hmem⟩:=LY.slot ht
 obtain⟨_,_,h1,h2,hP⟩:=hi.depI
 obtain⟨rfl,rfl⟩:=hP
 rw[ha] at h1;obtain rfl:=ZK h1
 have hz:=ZJ hz
 have htl:t<os.length:=(ZB.mp ho).1
 obtain⟨pre,post,eA,_,n1,n2⟩:=(LY.upd ha ho (tabObj #[]) hz).split
 have N2:=N
 rw[eA] at N2
 refine kla_nest (cn:="BitSet.difference_update") (cs:=scope) (a:=483) (cl:=[]) F N2 c.o.T (ir (kf _) c.o.X) rfl (jq n2 n1) (iz.triples (pos:=iY) (.inl rfl)) rfl rfl fun f c' oc vs tk9 ctv h' tk F' N' hd hv hlt hcf=>?_
 rw[<- eA] at hlt
 have hq1:∀p∈aS ρ os H,p.1≠c':=fun p hp=>Zb (hlt p hp)
 have L1:=LY.add (so:=cF) (q:=c') (o':=oc) (.obj ⟨vs,tk9,hd,hv⟩) hq1
 have e1:(ρ++[c'])[Γ.o.length]?=some c':=by refine aa (LY.hg ..) (aA (LY.hl ..) ?_);simp
 have mem1:∀p,p∈aS (ρ++[c']) (os++[oc]) H->p=(c',oc)\/p∈aS ρ os H:=fun p hp=>by
  unfold aS at hp ⊢
  rw[List.zip_append LY.hl] at hp
  simp only[ZS,List.zip_cons_cons,List.zip_nil_right,ZP] at hp ⊢
  rcases hp with (hp|hp)|hp
  ·exact .inr (.inl hp)
  ·exact .inl hp
  ·exact .inr (.inr hp)
 have L2:=L1.add (so:=fw Γ.o.length) (q:=f) (o':=kla_obj "<lambda>" jM mJ kM jL [] ((c.o.mg (Str.ofString "__name__")).getD Value.none) c' ctv) (.dep (ak (ZO _ _) e1) (ak (ZO _ _) e1) ⟨_,ctv,rfl⟩) fun p hp=>(mem1 p hp).elim (fun e=>by refine aa (e ..) ?_;exact Zb hcf) fun h=>Zb (Nat.lt_trans (hlt p h) hcf)
 have L3:=L2.set (i:=t) (so:=qx t Γ.o.length) (o':=tabObj #[rawInt 294,rawInt 37,.ref c']) (.dep (ak (ZO _ _) (ak (ZO _ _) ha)) (ak (ZO _ _) e1) ⟨rfl,rfl⟩) hz
 have hpp:ρ<+:ρ++[c']++[f]:=⟨[c',f],by simp⟩
 refine KK (.ref f) _ _ hpp (.ref (by refine aa (LY.hg ..) (aA (LY.hl ..) ?_);simp)) (.mk m _ H F' (fun q hq=>N' q ?_) (hm.up hpp) L3 (hs.heap h' tk))
 have eos:∀x y:Obj,((os++[oc])++[y]).set t x=((os.set t x)++[oc])++[y]:=fun x y=>by
  exact aa (List.set_append_left _ _ (by simp;exact Nat.lt_succ_of_lt ‹_›) ..) (aa (List.set_append_left _ _ htl ..) rfl)
 unfold aS at hq
 rw[eos,List.zip_append (by simp[LY.hl]),List.zip_append (by simp[LY.hl])] at hq
 simp only[ZS,List.zip_cons_cons,List.zip_nil_right,ZP] at hq
 have key:∀x:Obj,q∈aS ρ (os.set t x) H->q∈pre++(478,x)::post:=fun x hx=>by
  obtain⟨pre',post',e1',e2',n1',n2'⟩:=(LY.upd ha ho x hz).split
  rw[e2'] at hx
  have old:q∈aS ρ os H->q.1≠478->q∈pre++(478,x)::post:=fun h1 h2=>by
   rw[eA] at h1
   rcases ZS.mp h1 with h1|h1
   ·exact ZD _ h1
   ·rcases ZT.mp h1 with h1|h1
    ·rw[h1] at h2;exact absurd rfl h2
    ·exact ZC _ (.tail _ h1)
  rcases ZS.mp hx with hx|hx
  ·exact old (by refine aa (e1' ..) ?_;exact ZD _ hx) (n1' q hx)
  ·rcases ZT.mp hx with hx|hx
   ·refine aa (hx ..) ?_;exact ZC _ (.head _)
   ·exact old (by refine aa (e1' ..) ?_;exact ZC _ (.tail _ hx)) (n2' q hx)
 rcases hq with ((hq|hq)|hq)|hq
 ·exact .tail _ (.tail _ (key _ (ZD _ hq)))
 ·refine aa (hq ..) ?_;exact .tail _ (.head _)
 ·refine aa (hq ..) ?_;exact .head _
 ·exact .tail _ (.tail _ (key _ (ZC _ hq)))
theorem Ev.lam1(henv:c.env=envOf "BitSet.difference_update" scope c.L 483 (.ref 482))(ht:Γ.o[t]?=some (qx t k)):Ev c Γ (.Lambda mJ kM jL iY) (.ref Γ.o.length) (Γ.addO (fw k)):=fun ρ s Q E S KK=>by
 refine aa (henv ..) ?_
 refine kla_eval rfl ?_
 obtain⟨m,os,H,F,N,hm,LY,hs⟩:=S
 obtain⟨a,o,ha,ho,hi,hmem⟩:=LY.slot ht
 obtain⟨_,_,h1,h2,hP⟩:=hi.depI
 obtain⟨rfl,rfl⟩:=hP
 rw[ha] at h1;obtain rfl:=ZK h1
 refine kla_hit (cn:="BitSet.difference_update") (cs:=scope) (a:=483) (cl:=[]) F N c.o.T (ir (kf _) c.o.X) rfl hmem (iz.triples (pos:=iY) (.inr ⟨_,rfl⟩)) vS rfl fun f ctv h' tk F' N' hlt=>?_
 obtain⟨S',e⟩:=ad.made (s:={ s with heap:=h',toks:=tk }) hm LY (so:=fw k) (.dep (ak (ZO _ _) h2) (ak (ZO _ _) h2) ⟨_,ctv,rfl⟩) hlt F' N' (hs.heap h' tk)
 exact KK _ _ _ (ZO _ _) e S'
set_option tactic.hygienic true in
theorem ax.lam{i:Nat}{a b:Int}(hi:Γ.o[i]?=some (fw k))(hk:Γ.o[k]?=some cF):ax c Γ (.ref i) [.int a,.int b] [] (.int (Builtin.bitAnd a (Builtin.bitNot b))) Γ:=fun ρ s Q E fv us ks S hf hv hk1 O K=>by
 obtain⟨_,_,rfl,h1,h2⟩:=hv.consI
 replace h2:=h2.consI;obtain⟨_,_,rfl,h2,h3⟩:=h2
 obtain rfl:=h3.nilI;obtain⟨_,rfl⟩:=h1.intI;rename_i t1;obtain⟨_,rfl⟩:=h2.intI;rename_i t2
 obtain rfl:ks=[]:=ZG.mp hk1
 obtain⟨f,of,hf1,hif,hgf⟩:=S.slotAt hi
 obtain⟨c',oc,hc1,hic,hgc⟩:=S.slotAt hk
 obtain rfl:=hf.refAt hf1
 obtain⟨_,_,g1,g2,hP⟩:=hif.depI
 rw[hc1] at g1;obtain rfl:=ZK g1
 obtain⟨pm,ctv,rfl⟩:=hP
 have hP:=hic.objI
 obtain⟨vs,tq,hd,hvs⟩:=hP
 have hcd:s.heap.CodeRec (.ref c') jM:=⟨c',oc,vs,tq,rfl,hgc,hd,hvs⟩
 refine wpAny_call (kla_callFunE (by show c.o.dp<1000;have:=c.fits.d;exact(ah [.m (.p .a .b) .l] (.l .a .q)) this) hgf rfl rfl rfl rfl hcd ?_)
 refine wpAny_of_eq (a:=[(Str.ofString "x",Value.int a t1),(Str.ofString "y",Value.int b t2)]) (by rfl) ?_
 have hnl:s.heap.NoLimit:=by
  cases S with|mk m os H F N hm LY hs=>exact c.o.T.nolimit.keeps F.keep
 refine wpAny_newFunctionEnv (show ∀x∈jL.names,x.2≠.cell by decide) (locs vT) (fun hj1 hns hsb=>⟨hnl.fresh _ hsb,?_⟩) rfl
 have hkj1:∀b o,s.heap.get? b=some o->hj1.get? b=some o:=fun b o e=>hsb.extBut b o (Zb (Zg e)) (ZR _ e)
 show codeAny _ _ (.expr kM (envX jM jL s.heap.objs.size f (.ref c') [])) _ _
 refine kla_codeExpr ?_
 refine wpAny_BinOp (wpAny_Name (wpAny_loadName_local rfl vS hns (v:=.int a t1) vS ?_) (by decide))
 refine UnaryOp_ (wpAny_Name (wpAny_loadName_local rfl vS hns (v:=.int b t2) vS ?_) (by decide))
 refine invert_int ?_
 exact cZ.and _ _ _ _ _ _ fun t' tk=>K _ ρ _ (ZN _) (.int _ _) (S.grow hkj1)
set_option tactic.hygienic true in
theorem Ev.call_lam{x:Str}{xp pos:Pos}{e:Expr}{es:List Expr}{i:Nat}{vs:LX}{v:SV}(hf:Ev c Γ (.Name x xp) (.ref i) Γ)(hi:Γ.o[i]?=some (fw k))(ha:jn c Γ (e::es) vs Γ₁)(hi1:Γ₁.o[i]?=some (fw k))(hc:ax c Γ₁ (.ref i) vs [] v Γ2)
  (he:∀env,starEach (e::es) env=(false,eval e env)::starEach es env:=by intros;rfl) (hp:∀env,(backTo pos (starEach es env)).any (·.1)=false:=by intros;rfl):Ev c Γ (.Call (.Name x xp) (e::es) [] pos) v Γ2:=fun ρ s Q E S K =>
 Call_ (hf ρ s _ E S fun u ρ1 sj1 hp1 q1 Sj1=>by
  have S1':=Sj1
  obtain⟨f,of,hf1,hif,hgf⟩:=Sj1.slotAt hi
  obtain rfl:=q1.refAt hf1
  obtain⟨_,_,g1,g2,hP⟩:=hif.depI
  rename_i c' _
  obtain⟨pm,ctv,rfl⟩:=hP
  have hh:=ha pos ρ1 sj1 (fun us sj2=>(∃pm c' ctv,sj2.heap.get? f=some (kla_obj "<lambda>" jM mJ kM jL [] pm c' ctv))/\wpAny (model PR w) c.A (PySem.call (.ref f) us []) Q E sj2) E S1' fun us ρ₂ sj2 hp2 q2 Sj2=>⟨?_,hc ρ₂ sj2 Q E _ us [] Sj2 (.ref (ak hp2 hf1)) q2 rfl .nil fun u ρ3 sj3 hp3 hv S3=>K u ρ3 sj3 ((hp1.trans hp2).trans hp3) hv S3⟩
  ·rw[he] at hh ⊢
   exact callWith_of (P:=fun h=>∃pm c' ctv,h.get? f=some (kla_obj "<lambda>" jM mJ kM jL [] pm c' ctv)) (by show ((false||(backTo pos (starEach es c.env)).any (·.1))||false)=false;refine aa (hp ..) ?_;rfl) (fun h hZ22=>by obtain⟨_,_,_,X⟩:=hZ22;exact⟨.frame,.inl rfl,(Looks.ld (part:=none) X).andThen .now⟩) (Calls.evalArgs_plain hh)
  ·obtain⟨f',of',hf2,hif2,hgf2⟩:=Sj2.slotAt hi1
   rw[ak hp2 hf1] at hf2;obtain rfl:=ZK hf2
   cases hif2 with|dep _ _ hP =>
   obtain⟨pm',ctv',rfl⟩:=hP
   exact⟨_,_,_,hgf2⟩)
end
example:True:=by w_top off;trivial
example : True :=by
 (k_with "cxe" => ((case ho => k_is); (case hcd => k_is); (case hb => (intro ρ s us ks _ h1 h2; obtain rfl : ks = [] := ZG.mp h2.1; obtain ⟨_, _, rfl⟩ := len2 (svs_len h1); exact ⟨_, h1, BindsTo.of_eq rfl⟩)); (case hx => exact rfl); (case nd => decide); (case c1 => exact rfl); (case c2 => exact rfl); (case c3 => exact rfl); (case c4 => exact rfl)))
 trivial
noncomputable abbrev gU:List SO:=[fw 7,cF]
noncomputable abbrev dX:Int->Int->Int:=fun a b=>Builtin.bitAnd (Builtin.bitAnd a (Builtin.bitNot b)) 255
theorem j9(w:World)(as bs:LI)(ha:as.length<=3)(hb:bs.length<=3):az w 5 417 (bs2 as bs++gU) [.ref 0,.ref 0,.ref 6,.ref 3] []
  (ch (.ref 0) (bs2 (b8 (dN dX as bs (max as.length bs.length))) bs++gU)):=by
 refine' cJ ["self","obj","op","other"] ?ho ?hcd ?hb ?hx ?nd ?hl ?H ?c1 ?c2 ?c3 ?c4
 k_extra "cxd"
 case hb =>
  intro _ us _ hl
  obtain⟨a,b,c,d,rfl⟩:∃a b c d,us=[a,b,c,d]:=⟨_,_,_,_,List.eq_getElem_of_length_eq_four us hl⟩
  exact BindsTo.of_eq rfl
 intro c _
 have hn:max as.length bs.length<=3:=by exact(av [.m .a .w,.m .b .w,.U .c .a .b] (.m .c .w)) ha hb (eh _ _)
 have n1:as.length<=max as.length bs.length:=by exact(av [.U .b .a .c] (.m .a .b)) (eh _ _)
 refine .cons (.assign (.attr (.name vS) vS vS vS (aD w) af) ?_)
 refine .cons (.forEnum (r:=8) (b:=11) (n:=max as.length bs.length) (f:=(as.getD · 0)) (g:=(bs.getD · 0)) (fun i=>⟨[("objbits",.ref 2),("obj",.ref 0),("op",.ref 6)],m7 gU dX as bs (max as.length bs.length) i⟩) 11 (.bi (by k_is) boot_enumerate)
  (.conv (.callPK (.glob (lZ w)) (lT w) (.cons (.name vS) (.cons (.attr (.name vS) vS vS vS (aD w) af) .nil)) .intE (ae.det (o7 w as bs ha hb) [2,5] (.cons rfl (.cons rfl .nil)) (by decide) vT rfl).cal) ?_ (m9 _ (bs2 as bs++gU) 2 5 as bs _)) vS (fun O=>rfl) (fun i j hj=>lP gU _ as bs _ i j hj) ⟨.cons vS (.cons vS (.cons vS .nil)),?_⟩ ?_ ?_ (fun c' i hi=>?_) ?_)
 ·exact rfl
 ·exact .same
 ·exact fO gU _ as bs _ 0 vT _ vT
 ·show Nat.ble 11 (m7 gU _ as bs _ 0).length=true
  refine aa (eu ..) ?_;rfl
 ·have hlen:=ew (F:=dX) (as:=as) (bs:=bs) (i:=i)
  refine .cons (.assign (.iop (.call_lam (.name vS) vS (.cons (.name vS) (.cons (.name vS) .nil)) vS (ax.lam vS vS)) .intE .and) ?_)
  have le9:Nat.ble 11 (m7 gU dX as bs (max as.length bs.length) (i+1)).length=true:=by refine aa (eu ..) ?_;rfl
  have ft9:=fO gU dX as bs (max as.length bs.length) (i+1) vT [(Str.ofString "objbits",.ref 2),(Str.ofString "obj",.ref 0),(Str.ofString "op",.ref 6)] vT
  refine .cons (.ite (.icmp (.name vS) (.len (.name vS) vS (by exact(gV [.m .a .w,.m .b .w,.l .c .d,.e .e .f,.U .d .a .b,.U .f .c .a] (.l .e (.n 4611686018427387904))) ha hb hi hlen (eh _ _) (eh _ _))) .ge) (fun h=>?_) fun h=>?_)
  ·have e:=lR (F:=dX) (as:=as) (bs:=bs) (i:=i) (by exact(aJ [.e .a .b,.M (.t .a) (.t .c),.U .b .c .d] (.m .d .c)) hlen h (eh _ _))
   refine .cons (.expr (.lmeth (.name vS) vS PySem.F.slot_list_append PySem.F.type_list_append (.cons (.name vS) .nil) (.append vS (by exact(c7 [.m .a .w,.l .d .a,.M (.t .e) (.t .d),.U .a .b .c] (.m .e .m)) hn hi h (eh _ _)))) (.nil (.nil (.next () trivial ⟨.cons vS (.cons vS (.cons vS .nil)),?_⟩ ft9 le9))))
   refine aa (e ..) ?_;exact .same
  ·have e:=lQ (F:=dX) (as:=as) (bs:=bs) (i:=i) (by exact(aJ [.e .a .b,.x (.M (.t .a) (.t .c)),.U .b .c .d] (.l .c .d)) hlen h (eh _ _))
   refine .cons (.setItem (.name vS) (.name vS) (.name vS) vS (by exact(ai [] (.M .o (.t .a)))) (by exact(ah [.x (.M (.t .a) (.t .b))] (.L (.t .b) (.t .a))) h) (by exact(aJ [.m .a .w,.l .d .a,.U .a .b .c] (.L (.t .d) .i)) hn hi (eh _ _)) (.nil (.nil (.next () trivial ⟨.cons vS (.cons vS (.cons vS .nil)),?_⟩ ft9 le9))))
   show ky (([SO.inst 514 1,.attrs [("bits",.ref 2)],.nums ((dN dX as bs i).set i _),.inst 514 4,.attrs [("bits",.ref 5)],.nums bs]++gU)++([.list (be (6+2+3) (max as.length bs.length)),.nums as,.nums bs]++bu (as.getD · 0) (bs.getD · 0) (max as.length bs.length))) _
   refine aa (e ..) ?_;exact .same
 ·have hl3:(dN dX as bs (max as.length bs.length)).length<=3:=by refine aa (ew ..) ?_;exact(aJ [.m .a .w,.m .b .w,.U .c .a .b,.U .d .c .a] (.m .d .w)) ha hb (eh _ _) (eh _ _)
  refine .cons (.expr (.mcall0 (.name vS) vS vS rfl (lH w) (ae.det (oV w _ hl3) [0,1,2] (ab rfl rfl rfl) (by decide) vT rfl).cal) ?_)
  exact .cons (.ret (.name vS) (.ret _ ⟨rfl,rfl⟩ (.cons (.cons (.cons (.cons (.cons (.cons (.cons (.cons .nil)))))))) vT))
theorem sf(w:World):nsIn (hd.heap_1 w.params) mainGlobals "and_"=some (some (.builtin "_operator.and_")):=by k_is
theorem gl(w:World):am w 514 "_logic" 417:=⟨by k_is,by k_is,by k_is,by k_is⟩
theorem ar.and{as bs cs ks:LI}(A:ar as cs)(B:ar bs ks):ar (b8 (dN (fun a b=>Builtin.bitAnd (Builtin.bitAnd a b) 255) as bs (max as.length bs.length))) (cs.filter fun z=>decide (z∈ks)):=by
 have:=A.logic (op:=Builtin.bitAnd) (q:=fun a b=>a&&b) (fun a b j=>eR j a b) (fun O=>rfl) B
 simpa using this
theorem ar.sub{as bs cs ks:LI}(A:ar as cs)(B:ar bs ks):ar (b8 (dN dX as bs (max as.length bs.length))) (cs.filter fun z=>decide (z∉ks)):=by
 have:=A.logic (op:=fun a b=>Builtin.bitAnd a (Builtin.bitNot b)) (q:=fun a b=>a && !b) (fun a b j=>by exact aa (eR ..) (aa (eQ ..) rfl)) (fun O=>rfl) B
 simpa using this
theorem qZ(w:World){as bs:LI}(ha:as.length<=3)(hb:bs.length<=3):az w 6 476 (bs2 as bs) [.ref 0,.ref 3] []
  (ch (.ref 0) (bs2 (b8 (dN (fun a b=>Builtin.bitAnd (Builtin.bitAnd a b) 255) as bs (max as.length bs.length))) bs)):=by
 refine' ao ["self","other"] ?ho ?hcd ?hb ?hx ?nd ?hl ?H ?c1 ?c2 ?c3 ?c4
 k_extra "cx"
 intro c
 refine .cons (.ite (.plain (.call_bi (.bi (by k_is) boot_isinstance) (.cons (.name rfl) (.cons (.glob (bg w)) .nil)) (ax.isiI (i:=3) rfl rfl (.inr ⟨rfl,by k_is⟩))) .bool) (fun O=>?_) fun h=>nomatch h)
 exact .cons (.ret (.mcall (.name vS) vS vS rfl (gl w) (.cons (.name vS) (.cons (.glob (sf w)) (.cons (.name vS) .nil))) (ae.det (qV w as bs ha hb) [0,1,2,3,4,5] (.cons rfl (.cons rfl (.cons rfl (.cons rfl (.cons rfl (.cons rfl .nil)))))) (by decide) vT rfl).cal) (.ret _ ⟨rfl,rfl⟩ (.cons (.cons (.cons (.cons (.cons (.cons .nil)))))) vT))
theorem pc(w:World){as bs:LI}(ha:as.length<=3)(hb:bs.length<=3):az w 6 483 (bs2 as bs++[rn 6]) [.ref 0,.ref 3] []
  (ch (.ref 0) (bs2 (b8 (dN dX as bs (max as.length bs.length))) bs++[qx 6 7,cF])):=by
 refine' ga (fa:=[.ref 0,.ref 3]) ["self","other"] ?ho ?hcd ?hb ?hx ?nd ?H ?c1 ?c2 ?c3 ?c4
 k_extra "cxe"
 rintro c ⟨_,henv⟩
 refine .cons (.ite (.plain (.call_bi (.bi (by k_is) boot_isinstance) (.cons (.name rfl) (.cons (.glob (bg w)) .nil)) (ax.isiI (i:=3) rfl rfl (.inr ⟨rfl,by k_is⟩))) .bool) (fun O=>?_) fun h=>nomatch h)
 exact .cons (.ret (.mcall (.name vS) vS vS rfl (gl w) (.cons (.name vS) (.cons (.lam0 henv (t:=6) vS) (.cons (.name vS) .nil))) (ae.det (j9 w as bs ha hb) [0,1,2,3,4,5,8,7] (.cons rfl (.cons rfl (.cons rfl (.cons rfl (.cons rfl (.cons rfl (.cons rfl (.cons rfl .nil)))))))) (by decide) vT rfl).cal) (.ret _ ⟨rfl,rfl⟩ (.cons (.cons (.cons (.cons (.cons (.cons (.cons (.cons .nil)))))))) vT))
theorem pb(w:World){as bs:LI}(ha:as.length<=3)(hb:bs.length<=3):az w 6 483 (bs2 as bs++[qx 6 7,cF]) [.ref 0,.ref 3] []
  (ch (.ref 0) (bs2 (b8 (dN dX as bs (max as.length bs.length))) bs++[qx 6 7,cF])):=by
 refine' ga (fa:=[.ref 0,.ref 3]) ["self","other"] ?ho ?hcd ?hb ?hx ?nd ?H ?c1 ?c2 ?c3 ?c4
 k_extra "cxe"
 rintro c ⟨_,henv⟩
 refine .cons (.ite (.plain (.call_bi (.bi (by k_is) boot_isinstance) (.cons (.name rfl) (.cons (.glob (bg w)) .nil)) (ax.isiI (i:=3) rfl rfl (.inr ⟨rfl,by k_is⟩))) .bool) (fun O=>?_) fun h=>nomatch h)
 exact .cons (.ret (.mcall (.name vS) vS vS rfl (gl w) (.cons (.name vS) (.cons (.lam1 henv (t:=6) (k:=7) vS) (.cons (.name vS) .nil))) (ae.det (j9 w as bs ha hb) [0,1,2,3,4,5,8,7] (.cons rfl (.cons rfl (.cons rfl (.cons rfl (.cons rfl (.cons rfl (.cons rfl (.cons rfl .nil)))))))) (by decide) vT rfl).cal) (.ret _ ⟨rfl,rfl⟩ (.cons (.cons (.cons (.cons (.cons (.cons (.cons (.cons .nil)))))))) vT))
example:True:=by w_top off;trivial
noncomputable abbrev jv(t:Addr):Obj:={ cls:=.type "StopIteration",data:=.fields #[.ref t,.none,.none,.none,.bool false,.none] }
noncomputable abbrev f6(h:Heap):Heap:=(h.push { cls:=.type "tuple",data:=.seq #[] }).push (jv h.objs.size)
noncomputable def nR(w:World)(a:Addr)(A:Around)(Q:OQ)(s:Shared):Prop :=
 ∀E:VS,(∀sj1:Shared,Q none sj1->E (.ref (sj1.heap.objs.size+1)) { sj1 with heap:=f6 sj1.heap })->wpAny (model PR w) A (call (.builtin "next") [.ref a]) (fun v s'=>Q (some v) s') E s
theorem iy(w:World)(a:Addr):pN w a 2 (nR w a):=by
 intro o gn gs R Y s Q hl hroom hg hgs hgo hY hR E hE
 refine call_function_entry (by decide +kernel) (by decide +kernel) kdk_entry_next (kdk_args_next _) ?_
 unfold Builtin.«next»
 refine ZL (m:=someArgs "next" 1 2 _) (wpAny_of_eq (a:=[Value.ref a]) (by first|rfl|kernel_rfl!) ?_)
 dsimp only
 refine ZL (wpAny_specialOf (name:=Str.ofString "__next__") hg.typeIs slot_gen_next.lookup ?_)
 refine wpAny_ite_split (fun hab=>absurd hab (by decide)) (fun O=>?_)
 refine ZL (wpAny_callSpecial?_slot (name:=Str.ofString "__next__") hg.typeIs slot_gen_next (wpAny_call_entry slot_gen_next hg.typeIs entry_gen_next ?_ (args_gen_next _)))
 show wpAny _ o.A.in1.in1 (Builtin.Generator.genWake (.ref a) (.send .none)) _ _ s
 unfold Builtin.Generator.genWake
 refine ZL (wpAny_holding (wpAny_genNumber hg (ZL (wpAny_genState hgs ?_))))
 have fin:∀v sj1,R v sj1->(End.ret v).result=.returned .none:=fun v sj1 h=>by
  rcases (hR v sj1 h).1 with rfl|rfl <;> rfl
 cases gs with
|running=>exact hgo.elim
|finished=>exact hgo.elim
|_ =>
  refine ZL (wpAny_roomToWake hl hroom ?_)
  show wpAny _ o.A.in1.in1 (.resume gn (.send .none) [] _) _ _ s
  refine dK hgs hgo (fun x sj1 hx=>?_) (fun v sj1 gs' hv=>?_)
  ·refine aa (fin x sj1 hx ..) ?_
   show wpAny _ o.A.in1.in1 (newExc (.type "StopIteration") [] >>= _) _ _ _
   refine ZL ?_
   unfold newExc newTuple
   refine ZL (wpAny_newObj_type ?_ (by size_fits))
   refine ZL (m:=firstArgMember _ _) (wpAny_of_eq (a:=Value.none) (by first|rfl|(simp only[firstArgMember];rfl)) ?_)
   refine wpAny_newObj_type ?_ (by size_fits)
   unfold raiseNew
   refine ZL (ZL (wpAny_handled ?_))
   refine aa (show o.A.in1.in1.handled=none from rfl) ?_
   refine wpAny_throw ?_
   have z:=hE _ ((hR x sj1 hx).2 sj1.heap (fun O O e=>e) (ZZ _))
   have e1:=Heap.size_push sj1.heap
   show E (.ref (sj1.heap.push { cls:=.type "tuple",data:=.seq #[] }).objs.size) _
   refine aa (e1 ..) ?_
   exact z
  ·exact ZM ⟨v,rfl,ZM ⟨_,rfl,hY v sj1 gs' hv⟩⟩
theorem aw.slots{fs:LQ}{h h':Heap}(x:Heap.SlotsOnly fs h h'):∀H:AO,(∀q∈H,h.get? q.1=some q.2)->∃H',aw fs H H'/\∀q∈H',h'.get? q.1=some q.2
|[],_=>⟨[],.nil,fun O h=>nomatch h⟩
|(b,o)::H,hH=>by
  obtain⟨H',K,hK⟩:=aw.slots x H fun q hq=>hH q (.tail _ hq)
  have hb:=hH _ (.head _)
  by_cases hm:b∈fs
  ·obtain⟨sl,e⟩:=x.2.2 b o hb
   exact⟨(b,{ o with slots:=sl })::H',.soft hm K,fun q hq=>(ZT.mp hq).elim (fun e'=>by refine aa (e' ..) ?_;exact e) (hK q)⟩
  ·exact⟨(b,o)::H',.same K,fun q hq=>(ZT.mp hq).elim (fun e'=>by refine aa (e' ..) ?_;exact(x.2.1 b hm).trans hb) (hK q)⟩
section
variable{w:World}{κ:CK}{c:Cx w κ}{Γ:G}{ρ:LQ}{s:Shared}
theorem ad.noted(S:ad c Γ ρ s){outer:List Env}(hfr:c.o.fr=c.env::outer)(hfm:c.frm=some c.L){Q:UQ}{E:VS}
  (k:∀h' H m os,cY Γ.m ρ m->eK c Γ.o ρ os H->TT.HeldN c.o.g c.L h' m (s.heap.objs.size+1) "StopIteration" (aS ρ os H)->Q () { s with heap:=h' }) :
  wpAny (model PR w) c.A (noteFrame (.ref (s.heap.objs.size+1)) c.env) Q E { s with heap:=f6 s.heap }:=by
 obtain⟨m,os,H,F,N,hm,LY,hs⟩:=S
 have hsz:(s.heap.push { cls:=.type "tuple",data:=.seq #[] }).objs.size=s.heap.objs.size+1:=Heap.size_push _ _
 have keep:∀b o,s.heap.get? b=some o->(f6 s.heap).get? b=some o:=fun b o e=>ZR _ (ZR _ e)
 have he:(f6 s.heap).get? (s.heap.objs.size+1)=some (jv s.heap.objs.size):=by refine aA (hsz ..) ?_;exact Zu _ rfl
 have lt:∀b o,s.heap.get? b=some o->b<s.heap.objs.size+1:=fun b o e=>Nat.lt_succ_of_lt (Zg e)
 have fe:c.o.g.get? (s.heap.objs.size+1)=none:=Zs (ZW F.above (Zr (Nat.lt_succ_of_lt F.ns.lt)))
 have F1:=F.keeps keep
 have N1:News c.o.g c.L (f6 s.heap) (aS ρ os H):=fun q hq=>⟨keep _ _ (N q hq).1,(N q hq).2⟩
 have lt1:∀q∈aS ρ os H,q.1≠s.heap.objs.size+1:=fun q hq=>Zb (lt _ _ (N q hq).1)
 have eL1:c.L≠s.heap.objs.size+1:=Zb (Nat.lt_succ_of_lt F.ns.lt)
 clear keep N F lt hsz
 generalize s.heap.objs.size+1=e at *
 generalize s.heap.objs.size=tp at *
 generalize f6 s.heap=hp at *
 obtain⟨oL,esL,epL,hL,hLd,hLk⟩:=F1.ns
 have frm:∀b∈aZ c.o.fr,b=c.L\/∃o,(b,o)∈H:=fun b hb=>by
  obtain⟨x,hx,e2⟩:=List.mem_filterMap.mp hb
  obtain⟨_,L',h2,h3⟩:=c.hfr x hx
  rw[e2] at h2;obtain rfl:=ZK h2
  rcases h3 with h3|⟨o,h4,_⟩
  ·exact .inl h3
  ·obtain⟨sl,h5⟩:=LY.kp.mem h4
   exact .inr ⟨_,h5⟩
 have FF:hp.FunFrames c.o.g c.o.fr:=eM.fun (hold:=(c.L,oL)::H) (fun q hq=>by
  rcases ZT.mp hq with rfl|hq
  ·exact⟨hL,Zs F1.above⟩
  ·exact⟨(N1 q (ZC _ hq)).1,(N1 q (ZC _ hq)).2.2⟩) fun x hx=>by
  obtain⟨h1,L',h2,h3⟩:=c.hfr x hx
  rcases h3 with rfl|⟨o,h4,h5⟩
  ·exact⟨h1,_,oL,h2,.head _,fun vs e=>by rw[hLd] at e;exact nomatch e⟩
  ·obtain⟨sl,h6⟩:=LY.kp.mem h4
   exact⟨h1,L',_,h2,.tail _ h6,h5⟩
 have gone:∀b o,c.o.g.get? b=some o->b∉aZ c.o.fr:=fun b o hb hm=>by
  rcases frm b hm with rfl|⟨o2,h2⟩
  ·rw[Zs F1.above] at hb;exact nomatch hb
  ·rw[(N1 _ (ZC _ h2)).2.2] at hb;exact nomatch hb
 have offe:e∉aZ c.o.fr:=fun hm=>by
  rcases frm e hm with h|⟨o2,h2⟩
  ·exact eL1 h.symm
  ·exact lt1 _ (ZC _ h2) rfl
 have offz:∀q∈ρ.zip os,q.1∉aZ c.o.fr:=fun q hq hm=>by
  obtain⟨i,hi,rfl⟩:=ZF.mp hq
  rw[List.length_zip] at hi
  have h1:ρ[i]?=some (ρ[i]'(by exact ZY ‹_› (Nat.min_le_left _ _))):=ZA _
  have h2:os[i]?=some (os[i]'(by exact ZY ‹_› (Nat.min_le_right _ _))):=ZA _
  rw[List.getElem_zip] at hm
  rcases Zq i κ.nf with h9|h9
  ·exact(c.hsh _ (LY.sh i _ _ h9 h1 h2)).2 hm
  ·rcases frm _ hm with h|⟨o2,h3⟩
   ·exact(N1 _ (ZD _ (au h1 h2))).2.1 h
   ·exact LY.ap _ h3 (bD h1 h9)
 have hf:c.env.frame=some c.L:=hfm
 have hA:c.A.frames=some (c.env::outer):=congrArg some hfr
 rw[hfr] at FF
 unfold noteFrame
 simp only[hf]
 refine ZL (wpAny_field he rfl (x:=.none) vS ?_)
 refine aj (by decide) ?_
 refine ZL (wpAny_frameOf_fun hA FF hf fun hj1 hsj1=>?_)
 have hsj1:Heap.SlotsOnly (aZ c.o.fr) hp hj1:=by refine aa (hfr ..) ?_;exact hsj1
 refine ZL (wpAny_entryPlaceOf fun pl hpl=>?_)
 unfold EntryCells.newEntry newFields
 refine ZL (wpAny_newObj_type ?_ (hpl.sizeOk5 _ _ _ _ _))
 have he1:hj1.get? e=some (jv tp):=(hsj1.2.1 e offe).trans he
 obtain⟨slL,hLj1⟩:=hsj1.2.2 c.L oL hL
 obtain⟨H',K',hH'⟩:=aw.slots hsj1 H fun q hq=>(N1 q (ZC _ hq)).1
 generalize htbo:({ cls:=.type "traceback",dict:=none,data:=.fields ([Value.none,.ref c.L,.none,rawInt c.L,.none]++(if pl.isEmpty then List.replicate 6 Value.none else pl)).toArray }:Obj)=tbo
 have hTf:(hj1.push tbo).get? hj1.objs.size=some tbo:=by refine aA (htbo ..) ?_;exact Zu hj1 rfl
 have hej2:(hj1.push tbo).get? e=some (jv tp):=ZR _ he1
 refine wpAny_setField hej2 rfl (by show 1<6;decide) ?_
 have hTe:hj1.objs.size≠e:=Nat.ne_of_gt (Zg he1)
 have old:∀b o,b≠e->hj1.get? b=some o->((hj1.push tbo).update e (Obj.mapFields (·.setIfInBounds 1 (Value.ref hj1.objs.size)))).get? b=some o:=fun b o hbe hb=>by
  refine aa (Zi _ _ (Ne.symm hbe) ..) ?_
  exact ZR _ hb
 have hTL:hj1.objs.size≠c.L:=Nat.ne_of_gt (Zg hLj1)
 have gT:c.o.g.get? hj1.objs.size=none:=Zs (ZW F1.above (Zr (Zg hLj1)))
 have fsts:∀q∈H',∃y∈H,y.1=q.1:=fun q hq=>by
  have h9:q.1∈H'.map (·.1):=Zd hq
  rw[K'.fst] at h9
  exact Zc.mp h9
 have N2:∀q∈aS ρ os H',hj1.get? q.1=some q.2/\q.1≠c.L/\c.o.g.get? q.1=none/\q.1≠e:=fun q hq=>by
  rcases ZS.mp hq with h|h
  ·have:=N1 q (ZD _ h)
   exact⟨(hsj1.2.1 _ (offz q h)).trans this.1,this.2.1,this.2.2,lt1 q (ZD _ h)⟩
  ·obtain⟨y,hy,ey⟩:=fsts q h
   have:=N1 y (ZC _ hy)
   refine aA (ey ..) ?_
   exact⟨ey▸hH' q h,this.2.1,this.2.2,lt1 y (ZC _ hy)⟩
 refine k _ H' m os hm ⟨LY.hl,LY.hg,LY.ho,LY.nd,LY.pre,fun q hq=>?_,LY.kp.trans K',LY.sh⟩ ⟨⟨⟨⟨_,esL,epL,old c.L _ eL1 hLj1,hLd,hLk⟩,fun b o hb=>old b o (fun q=>by rw[q,fe] at hb;exact nomatch hb) ((hsj1.2.1 b (gone b o hb)).trans (F1.keep b o hb)),F1.above⟩,
  ⟨_,_,hj1.objs.size,tbo,([Value.none,.ref c.L,.none,rawInt c.L,.none]++(if pl.isEmpty then List.replicate 6 Value.none else pl)).toArray,ZV _ hej2 (Obj.isFreed_of_fields (Obj.data_mapFields rfl _)),Obj.cls_mapFields _ _,Obj.data_mapFields rfl _,rfl,
   (Zi _ _ (Ne.symm hTe)).trans hTf,(by exact aA (htbo ..) rfl),(by exact rfl),hTL,hTe,gT⟩,fe⟩,fun q hq=>?_,?_⟩
 ·obtain⟨y,hy,ey⟩:=fsts q hq
  refine aA (ey ..) ?_
  exact LY.ap y hy
 ·obtain⟨h1,h2,h3,h4⟩:=N2 q hq
  exact⟨old q.1 q.2 h4 h1,h2,h3⟩
 ·intro ob vs tb e1 e2 e3 q hq e4
  have h9:=ZV (Obj.mapFields (·.setIfInBounds 1 (Value.ref hj1.objs.size))) hej2 (Obj.isFreed_of_fields (Obj.data_mapFields rfl _))
  rw[h9] at e1
  obtain rfl:=ZK e1
  have e5:Data.fields _=Data.fields vs:=(Obj.data_mapFields (o:=jv tp) rfl (·.setIfInBounds 1 (Value.ref hj1.objs.size))).symm.trans e2
  injection e5 with e5
  rw[<- e5] at e3
  have e6:some (Value.ref hj1.objs.size)=some (Value.ref tb):=e3
  injection e6 with e6
  injection e6 with e6
  have h10:=(N2 q hq).1
  rw[e4,<- e6] at h10
  exact Nat.lt_irrefl _ (Zg h10)
theorem ad.stopped(S:ad c Γ ρ s){outer:List Env}(hfr:c.o.fr=c.env::outer)(hfm:c.frm=some c.L){x:Str}{k:Nat}{p6 p7 p8 p9 p10 p11:Pos}{Q:Flow->Shared->Prop}(hx:κ.cs.names.lookup x=some .local)(hst:κ.cs.names.lookup (Str.ofString "StopIteration")=some .globalImplicit)
  (K:∀s',ad c (Γ.put x (.int (-1))) ρ s'->Q .next s') :
  wpAny (model PR w) c.A (noteFrame (.ref (s.heap.objs.size+1)) c.env) (fun O sj2=>wpAny (model PR w) c.A (setFlight (.ref (s.heap.objs.size+1)) none) (fun O sj3=>wpAny (model PR w) c.A (handleBy (.ref (s.heap.objs.size+1)) c.env
   [.ExceptHandler (some (.Name (Str.ofString "StopIteration") p6)) none [.Assign [.Name x p7] (.UnaryOp .USub (.Constant (.int 1) k p8) p9) p10] p11]) Q (fun O O=>False) sj3) (fun O O=>False) sj2) (fun O O=>False) { s with heap:=f6 s.heap }:=by
 have rel:=S.rel
 refine S.noted hfr hfm fun h' H m os hm LY HN=>?_
 refine TT.HeldNA.land HN fun h2 HN2=>?_
 refine wpAny_handleBy_builtin (X:="StopIteration") (T:="StopIteration") (b:=true) (isSubtype_of_subB (by decide +kernel)) (isSubtype_of_subB (by decide +kernel)) (isSubtype_of_subB (by decide +kernel)) ?_
 refine wpAny_passesOwnAt PassesOwnAt.never ?_
 have F2:=HN2.held.fr
 refine Name_function_global c.hk (by exact hst) (loadGlobal_builtin (env:=c.env) (v:=.type "StopIteration") (c.o.T.g.keeps F2.keep) (mg_none_of c.o.X c.o.T.g (by k_is)) (c.o.T.b.keeps F2.keep) ((c.o.T.builtins (Str.ofString "StopIteration") (by decide)).trans (by decide +kernel)) ?_) (by decide)
 refine⟨rfl,HN2.isA,?_⟩
 refine aa (if_pos vT ..) ?_
 refine TT.HeldNA.lands HN2 fun h3 F3 N3=>?_
 refine wpAny_passesOwnAt PassesOwnAt.never ?_
 refine wpAny_execs_cons (wpAny_Assign_Name (UnaryOp_ (wpAny_Constant_int (neg_int ?_))) (by rfl))
 refine wpAny_storeName_local (by exact hx) F3.ns (fun h4 hn hs4=>wpAny_execs_nil (K _ (.mk _ os H (F3.set hn hs4) (N3.set hs4) (fun y v' hy=>?_) LY (rel.heap h4 _)))) (by show (κ.cs.kind == .class||(κ.cs.kind == .module&&c.L != mainGlobals))=false;refine aa (c.hk ..) ?_;rfl)
 simp only[G.put,List.lookup_cons] at hy
 by_cases e:y=x
 ·subst e
  simp only[beq_self_eq_true] at hy
  obtain rfl:=ZK hy
  exact⟨_,if_pos rfl,.int _ _⟩
 ·have hb:(y == x)=false:=beq_eq_false_iff_ne.mpr e
  rw[hb] at hy
  obtain⟨u',h1,h2⟩:=hm y v' hy
  exact⟨u',by refine aa (if_neg e ..) ?_;exact h1,h2⟩
end
example:True:=by w_top off;trivial
noncomputable abbrev cp(rs:LI):List SO:=[.inst 714 1,.attrs [("idset",.ref 2),("limit",.int 20)],.inst 514 3,.attrs [("bits",.ref 4)],.nums rs]
theorem cN(w:World):fk w 714 "idset":=⟨by k_is,by k_is,none,by k_is,by k_is⟩
theorem gI(w:World):fk w 714 "limit":=⟨by k_is,by k_is,none,by k_is,by k_is⟩
theorem aw.append{fs:LQ}{a b a' b':AO}(x:aw fs a b)(y:aw fs a' b'):aw fs (a++a') (b++b'):=by
 induction x with
|nil=>exact y
|same _ ih=>exact .same ih
|soft hx _ ih=>exact .soft hx ih
section
variable{w:World}{κ:CK}{n₁:Nat}{c:Cx w κ}{Γ:G}{ρ ρ1:LQ}{s sj1:Shared}{hp:c.ρ0<+:ρ1}{h:ρ1.length=n₁}{own oj1 oj2:AO}
theorem ad.shed(S:ad (c.lp ρ1 hp h own sj1) Γ ρ s):ad (c.lp ρ1 hp h [] sj1) Γ ρ s:=by
 obtain⟨m,os,H,F,N,hm,LY,hs⟩:=S
 obtain⟨o',Hc,rfl,k1,k2⟩:=aw.split LY.kp
 exact .mk m os Hc F (fun q hq=>N q ((ZS.mp hq).elim (ZD _) fun h=>ZC _ (ZC _ h))) hm ⟨LY.hl,LY.hg,LY.ho,LY.nd,LY.pre,fun q hq=>LY.ap q (ZC _ hq),k2,LY.sh⟩ ⟨hs.eq,hs.gx⟩
theorem ad.swap(S:ad (c.lp ρ1 hp h (oj2++oj1) sj1) Γ ρ s):ad (c.lp ρ1 hp h (oj1++oj2) sj1) Γ ρ s:=by
 obtain⟨m,os,H,F,N,hm,LY,hs⟩:=S
 obtain⟨H2,Hc,rfl,k1,k2⟩:=aw.split LY.kp
 obtain⟨H3,H4,rfl,k3,k4⟩:=aw.split k1
 have mv:∀q,q∈(H4++H3)++Hc->q∈(H3++H4)++Hc:=fun q hq=>by
  simp only[ZS] at hq ⊢
  exact hq.imp (fun h=>h.symm) id
 exact .mk m os ((H4++H3)++Hc) F (fun q hq=>N q ((ZS.mp hq).elim (ZD _) fun h=>ZC _ (mv q h))) hm ⟨LY.hl,LY.hg,LY.ho,LY.nd,LY.pre,fun q hq=>LY.ap q (mv q hq),(k4.append k3).append k2,LY.sh⟩ ⟨hs.eq,hs.gx⟩
theorem ng{outer:List Env}{lvl:Nat}{a b:Addr}{D:DC}{l:LD}{pg:Gs}{k:Nat}{p1 p2 p3 p4 p5 p6 p7 p8 p9 p10 p11 p12:Pos}{Q:Flow->Shared->Prop}(S:ad (c.lp ρ1 hp h own sj1) Γ ρ s)(hfr:c.o.fr=c.env::outer)(hfm:c.frm=some c.L)(hids:Γ.m.lookup (Str.ofString "ids")=some (.val (.ref a)))
  (hx:κ.cs.names.lookup (Str.ofString "nx")=some .local) (hst:κ.cs.names.lookup (Str.ofString "StopIteration")=some .globalImplicit) (hxi:κ.cs.names.lookup (Str.ofString "ids")=some .local) (hxn:κ.cs.names.lookup (Str.ofString "next")=some .globalImplicit) (hsw:swapsWith (.Call (.Name (Str.ofString "next") p2) [.Name (Str.ofString "ids") p3] [] p4) (some (.Name (Str.ofString "nx") p1)) p5.line c.env=pure false)
  (hG:ku w lvl b a D l own pg) (hlv:lvl+1<=κ.lv) (ho:∀q∈own,∀z∈c.hold,q.1≠z.1) (hD:∀ρ' os hold,ρ1<+:ρ'->ρ'.length=os.length->Γ.o.length=os.length->cy w ρ' Γ.o os->(∀q∈ρ'.zip os,q∈hold)->c.o.g.objs.size<=b/\D hold) (hpg:∀q∈pg,s.gens[q.1]?=some q.2)
  (k0:l=[]->∀pg' ρ' sj2 sj3 s',aT (c.lp ρ1 hp h own s) sj2->Mv c.o pg pg' [] [] sj2 sj3->ad (c.lp ρ1 hp h [] sj3) (Γ.put "nx" (.int (-1))) ρ' s'->Q .next s')
  (k1:∀z D' l',l=(z,D')::l'->∀own' pg' ρ' sj2 sj3 s',aT (c.lp ρ1 hp h own s) sj2->Mv c.o pg pg' [] [] sj2 sj3->ku w lvl b a D' l' own' pg'->(∀q∈own',∀z∈c.hold,q.1≠z.1)->ad (c.lp ρ1 hp h own' sj3) (Γ.put "nx" (.int z)) ρ' s'->Q .next s') :
  wpAny (model PR w) c.A (exec (.Try [.Assign [.Name (Str.ofString "nx") p1] (.Call (.Name (Str.ofString "next") p2) [.Name (Str.ofString "ids") p3] [] p4) p5]
   [.ExceptHandler (some (.Name (Str.ofString "StopIteration") p6)) none [.Assign [.Name (Str.ofString "nx") p7] (.UnaryOp .USub (.Constant (.int 1) k p8) p9) p10] p11] [] [] p12) c.env) Q (fun O O=>False) s:=by
 refine wpAny_Try_except (wpAny_execs_cons (wpAny_Assign_Name ?_ hsw))
 have Sj0:=S.re (hp2:=hp) (h2:=h) S.pre
 refine Call_ (Ev.bi (c:=c.lp ρ1 hp h own s) (by k_is) (show bootBuiltins (Str.ofString "next")=some (.builtin "next") by decide +kernel) (by decide) (by exact hxn) (by decide) ρ s _ _ Sj0 fun u ρ₂ sj2 hp1 q1 Sj2=>?_)
 obtain rfl:=q1.valI
 refine PyProof.Rows.callWith_builtin1 (args_cons (Ev.name (c:=c.lp ρ1 hp h own s) hids (by exact hxi) (by decide) ρ₂ sj2 _ _ Sj2 fun u2 ρ3 sj3 hp2 q2 S3=>args_nil ?_) rfl) rfl rfl
 obtain rfl:=q2.valI
 have hpg3:∀q∈pg,sj3.gens[q.1]?=some q.2:=fun q hq=>S3.rel.gx.old _ _ (fun O h=>nomatch h) (hpg q hq)
 cases l with
|nil =>
  have B:nR w a c.A (fun r s'=>r=none/\∃pg',Mv c.o pg pg' [] [] sj3 s'/\ad (c.lp ρ1 hp h [] s') Γ ρ3 s') sj3:=S3.act (S3.offL ho) (hG.nil (iy w a) (by decide)) (fun os hold=>hD ρ3 os hold S3.pre) hlv hpg3 fun r own' pg' s' V hr O S'=>⟨hr,pg',V,S'.shed⟩
  exact wpAny_mono (B _ fun sj4 hZ23=>by obtain⟨_,pg',V,S4⟩:=hZ23;exact S4.stopped (c:=c.lp ρ1 hp h [] sj4) hfr hfm hx hst fun s' S'=>k0 rfl pg' ρ3 sj3 sj4 s' S3.rel V S') (fun O O h=>nomatch h.1) fun O O h=>h
|cons q l =>
  obtain⟨z,D'⟩:=q
  have B:nR w a c.A (fun r s'=>∃t own' pg',r=some (.int z t)/\Mv c.o pg pg' [] [] sj3 s'/\ku w lvl b a D' l own' pg'/\(∀q∈own',∀z∈c.hold,q.1≠z.1)/\ad (c.lp ρ1 hp h own' s') Γ ρ3 s') sj3:=S3.act (S3.offL ho) (hG.cons (iy w a) (by decide)) (fun os hold=>hD ρ3 os hold S3.pre) hlv hpg3 fun r own' pg' s' V hZ ho' S'=>hZ.1.elim fun t hr=>⟨t,own',pg',hr,V,hZ.2,(fun q hq=>(ho' q hq).2),S'⟩
  refine wpAny_mono (B (fun O O=>False) fun sj4 hZ24=>by obtain⟨_,_,_,e,_⟩:=hZ24;exact nomatch e) (fun v s' hZ=>?_) fun O O h=>h.elim
  obtain⟨t,own',pg',e,V,hG',ho',S'⟩:=hZ
  obtain rfl:=ZK e
  exact S'.put (.int z t) (by exact hx) fun h3 tk3 S4=>wpAny_execs_nil (wpAny_execs_nil (k1 z D' l rfl own' pg' ρ3 sj3 s' _ S3.rel V hG' ho' S4))
end
example:True:=by w_top off;trivial
def KR(bs:LI)(nx:Int)(l:LO):Prop:=∃cs,l=cp cs/\cs.length=bs.length/\(nx=-1\/cs.drop ((nx/8).toNat+1)=bs.drop ((nx/8).toNat+1))
noncomputable def iL(bs:LI):Nat->Int->Int->List Int->KL
|0,_,_,_=>[]
|f+1,i,nx,zs=>if i=nx then (match zs with|[]=>iL bs f (i+1) (-1) []|z::zs'=>iL bs f (i+1) z zs') else (i,KR bs nx)::iL bs f (i+1) nx zs
noncomputable def tO(bs:LI)(n:Nat)(i:Int):List Int->KL
|[]=>iL bs n i (-1) []
|z::zs=>iL bs n i z zs
noncomputable def ue(w:World)(η:LQ)(a:Addr)(bs:LI)(L:Addr)(nx:Int)(zs:LI)(own:AO)(pgI:Gs):Prop :=
 (nx=-1/\own=[])\/(0<=nx/\∃b ys,L<=b/\ku w 3 b a (dOf w (η.drop 2) (KB bs.length ((nx/8).toNat+1) (bs.drop ((nx/8).toNat+1)))) (dL w (η.drop 2) ys) own pgI/\GL bs ((nx/8).toNat+1) ys/\zs=ys.map (·.1))
theorem nN{η ρ:LQ}(h1:η.length=5)(hp:η<+:ρ):∀j i:Nat,[2,3,4][j]?=some i->(η.drop 2)[j]?=ρ[i]?:=fun j i h=>by
 obtain⟨t,rfl⟩:=hp
 refine aa (List.getElem?_drop ..) ?_
 rcases j with _|_|_|j
 ·obtain rfl:=ZK h;rw[ZH (by exact(ai [.e .a (.n 5)] (.l (.n 2) .a)) h1)]
 ·obtain rfl:=ZK h;rw[ZH (by exact(ai [.e .a (.n 5)] (.l .w .a)) h1)]
 ·obtain rfl:=ZK h;rw[ZH (by exact Nat.le_of_eq (Eq.symm ‹_›))]
 ·exact nomatch h
theorem nH{Γ:G}{cs:LI}(h:Γ.o=cp cs){bs:LI}{m:Nat}(hN:cs.length=bs.length)(hd:cs.drop m=bs.drop m):Meets Γ [2,3,4] (KB bs.length m (bs.drop m)):=by
 obtain⟨l,o⟩:=Γ
 subst h
 exact⟨ba cs,ab rfl rfl rfl,rfl,cs,rfl,hN,hd⟩
section
variable{w:World}{κ:CK}{c:Cx w κ}{Γ:G}{η ρ:LQ}{s sj1:Shared}{hp:c.ρ0<+:η}{h:η.length=5}{own:AO}
theorem nG{outer:List Env}{a b L:Addr}{bs cs:LI}{m:Nat}{ys:KL}{pg:Gs}{k:Nat}{p1 p2 p3 p4 p5 p6 p7 p8 p9 p10 p11 p12:Pos}{Q:Flow->Shared->Prop}(S:ad (c.lp η hp h own sj1) Γ ρ s)(hΓ:Γ.o=cp cs)(hfr:c.o.fr=c.env::outer)(hfm:c.frm=some c.L)(hids:Γ.m.lookup (Str.ofString "ids")=some (.val (.ref a)))
  (hG:ku w 3 b a (dOf w (η.drop 2) (KB bs.length m (bs.drop m))) (dL w (η.drop 2) ys) own pg) (hGL:GL bs m ys) (hL:L<=b) (hcL:c.L<=L) (hN:cs.length=bs.length) (hd:cs.drop m=bs.drop m) (ho:∀q∈own,∀z∈c.hold,q.1≠z.1) (hpg:∀q∈pg,s.gens[q.1]?=some q.2)
  (hx:κ.cs.names.lookup (Str.ofString "nx")=some .local) (hst:κ.cs.names.lookup (Str.ofString "StopIteration")=some .globalImplicit) (hxi:κ.cs.names.lookup (Str.ofString "ids")=some .local) (hxn:κ.cs.names.lookup (Str.ofString "next")=some .globalImplicit) (hlv:4<=κ.lv)
  (hsw:swapsWith (.Call (.Name (Str.ofString "next") p2) [.Name (Str.ofString "ids") p3] [] p4) (some (.Name (Str.ofString "nx") p1)) p5.line c.env=pure false)
  (K:∀nx zs own' pg' ρ' sj2 sj3 s',((ys.map (·.1)=[]/\nx=-1/\zs=[])\/ys.map (·.1)=nx::zs)->ue w η a bs L nx zs own' pg'->(nx=-1\/cs.drop ((nx/8).toNat+1)=bs.drop ((nx/8).toNat+1))->aT (c.lp η hp h own s) sj2->Mv c.o pg pg' [] [] sj2 sj3->(∀q∈own',∀z∈c.hold,q.1≠z.1)->ad (c.lp η hp h own' sj3) (Γ.put "nx" (.int nx)) ρ' s'->Q .next s') :
  wpAny (model PR w) c.A (exec (.Try [.Assign [.Name (Str.ofString "nx") p1] (.Call (.Name (Str.ofString "next") p2) [.Name (Str.ofString "ids") p3] [] p4) p5]
   [.ExceptHandler (some (.Name (Str.ofString "StopIteration") p6)) none [.Assign [.Name (Str.ofString "nx") p7] (.UnaryOp .USub (.Constant (.int 1) k p8) p9) p10] p11] [] [] p12) c.env) Q (fun O O=>False) s:=by
 refine ng S hfr hfm hids hx hst hxi hxn hsw hG hlv ho (fun ρ' os hold hpp h1 h2 h3 h4=>⟨ZW S.above (ZW hcL hL),(nH hΓ hN hd).dOf (by refine aa (List.length_drop ..) (aa (h ..) ?_);rfl) (nN h hpp) h1 h2 h3 h4⟩) hpg (fun e pg' ρ' sj2 sj3 s' hr V S'=>?_) fun z D' l' e own' pg' ρ' sj2 sj3 s' hr V hG' ho' S'=>?_
 ·obtain rfl:ys=[]:=ZG.mp e
  exact K (-1) [] [] pg' ρ' sj2 sj3 s' (.inl ⟨rfl,rfl,rfl⟩) (.inl ⟨rfl,rfl⟩) (.inl rfl) hr V (fun O h=>nomatch h) S'
 ·cases ys with
 |nil=>exact nomatch e
 |cons y ys =>
   obtain⟨z',K'⟩:=y
   cases e
   obtain⟨O,_,z2,rfl,_,z5⟩:=hGL.step
   exact K _ (ys.map (·.1)) own' pg' ρ' sj2 sj3 s' (.inr rfl) (.inr ⟨O,b,ys,hL,hG',z5,rfl⟩) (.inr (fh hd z2)) hr V ho' S'
end
noncomputable abbrev uw{w:World}{L:Addr}{m:OV}{pf:AO}{pg:Gs}(k:Wk w 6 L L m pf pg)(cs:Scope)(hk:cs.kind=.function)(qn:Str)(fo:Option Addr)(cd:Value)(η:LQ)(shr:AO)(hn:η.length=5)(hsh:∀q∈shr,q∈quiet k.o.fr k.hold):Cx w ⟨cs,5,5,5,[]⟩ :=
 k.cx ⟨cs,5,5,5,[]⟩ η shr qn fo cd [] hk (ZZ 6) hn rfl hsh kJ
inductive BR(w:World)(L:Addr)(sc:Scope)(hk:sc.kind=.function)(qn:Str)(fo:Option Addr)(cd:Value)(η:LQ)(hn:η.length=5)(bs:LI)(a J:Addr)(n:Nat)(A:Around)(R:RS)(Y:VG)(s:Shared):Prop
|mk {m:OV} {pf:AO} {pg:Gs} (k:Wk w 6 L L m pf pg) (shr own:AO) (pgI:Gs) (hsh:∀q∈shr,q∈quiet k.o.fr k.hold) (cs:LI) (i:Nat) (nx:Int) (zs:LI) (ρ:LQ) (Z:KL) (hi:i+n=20) (hA:A=k.A) (hR:R=GR k (dL w η Z)) (hY:Y=GY k (dL w η Z)) (hZ:Z=iL bs n i nx zs)
   (hN:cs.length=bs.length) (hd:nx=-1\/cs.drop ((nx/8).toNat+1)=bs.drop ((nx/8).toNat+1)) (hI:ue w η a bs L nx zs own pgI) (M:gQ k pgI s) (ho:∀q∈own,∀z∈k.hold,q.1≠z.1) (hJ:∀z∈own++k.hold,J≠z.1)
   (S:ad ((uw k sc hk qn fo cd η shr hn hsh).lp η (ZN _) hn ([(J,lC i n 1)]++own) s) ⟨[("nx",.int nx),("ids",.val (.ref a))],cp cs⟩ ρ s):BR w L sc hk qn fo cd η hn bs a J n A R Y s
theorem sD{M:Model}{t:Expr}{bd:LS}{env:Env}{fs:List Frame}{w:World}{L:Addr}{sc:Scope}{hk:sc.kind=.function}{qn:Str}{fo:Option Addr}{cd:Value}{η:LQ}{hn:η.length=5}{bs:LI}{a J:Addr}{n:Nat}{A:Around}{R:RS}{Y:VG}{s:Shared}(h0:BR w L sc hk qn fo cd η hn bs a J n A R Y s)
  (step:∀n,(∀n' A R Y s,n'<n->BR w L sc hk qn fo cd η hn bs a J n' A R Y s->aq M A R Y (.forLoop t (.ref J) bd [] env) (M.den (.forLoop t (.ref J) bd [] env)) fs s)->∀A R Y s,BR w L sc hk qn fo cd η hn bs a J n A R Y s->aq M A R Y (.forLoop t (.ref J) bd [] env) (M.den (.forLoop t (.ref J) bd [] env)) fs s) :
  aq M A R Y (.forLoop t (.ref J) bd [] env) (M.den (.forLoop t (.ref J) bd [] env)) fs s:=kF _ step _ _ _ _ _ h0
theorem jh(w:World)(bs:LI):pL w 6 683 5 (·=cp bs) [.ref 0] (·=cp bs) (tO bs 20 0 ((cv bs.length 0 bs).map (·.1))):=by
 refine' jS ["self"] ?ho ?hcd ?hb ?hx ?nd ?hl ?H ?c1 ?c2 ?c3 ?c4
 k_extra "cx"
 intro η us L hη nd nm
 refine bG.mkR fun k h' R Y hh HD hR hY=>?_
 obtain⟨l,os,rfl,e1,e2,hob,hm⟩:=HD
 have hsh:∀q∈η.zip os,q∈quiet k.o.fr k.hold:=fun q hq=>hh q (hm q hq)
 show aq _ _ _ _ (.func _ _) _ [] k.s
 refine ip k 5 5 hη hsh nm e1 e2 hob nd rfl (ZZ 6) fun H S=>?_
 have hdl:(η.drop 2).length=[2,3,4].length:=by refine aa (List.length_drop ..) (aa (hη ..) ?_);rfl
 refine d9 (wpAny_Assign_Name ?_ rfl)
 refine Call_ (Ev.bi (by k_is) boot_iter (by decide) rfl (by decide) η k.s _ _ S fun u ρ1 sj1 hp1 q1 Sj1=>?_)
 obtain rfl:=q1.valI
 refine PyProof.Rows.callWith_builtin1 (args_cons (Ev.attr (.name rfl) vS vS rfl (cN w) af ρ1 sj1 _ _ Sj1 fun u2 ρ₂ sj2 hp2 q2 Sj2=>args_nil ?_) rfl) rfl rfl
 have hu:(SV.ref 0).Is (η.drop 2) u2:=by
  replace q2:=q2.refI;obtain⟨_,rfl,q2⟩:=q2
  exact .ref ((nN hη Sj2.pre 0 2 vS).trans q2)
 have C:bI w 5 (fun A Q s=>∀E:VS,wpAny (model PR w) A (call (.builtin "iter") [u2]) Q E s) [] [] (fun O=>dOf w (η.drop 2) (·=ba bs)) (mn w 3 (η.drop 2) (KB bs.length 0 bs) (cv bs.length 0 bs)) :=
  bI.un1 (il (kQ w) (by k_is) (fun l h=>by subst h;exact⟨1,_,vS,vS⟩) (fun n r own pg h=>by
   obtain⟨b,a,h1,h2,h3,h4⟩:=h.self
   exact⟨_,a,h2,h4⟩) hu (ki w bs _ [u2] hdl (nd.sublist (List.drop_sublist _ _)) (.cons hu .nil))) fun o Q s h E=>gF (h E)
 refine Sj2.act (fun O h=>nomatch h) C (fun os hold h1 h2 h3 h4=>Meets.dOf (σ:=[2,3,4]) (K:=(·=ba bs)) ⟨ba bs,ab rfl rfl rfl,vT,rfl⟩ hdl (nN hη Sj2.pre) h1 h2 h3 h4) (ZZ 5) (fun O h=>nomatch h) (fun r own pg sj3 V hr ho S3=>?_) _
 obtain⟨b,a,hb,rfl,hG⟩:=hr
 have Mj3:=(gQ.start.step rfl Sj2.rel).act V
 have hLb:L<=b:=ZW (Zr Sj2.ltL) hb
 refine S3.put (.val (.ref a)) vS fun h3 tk3 S4=>?_
 have M4:=Mj3.step rfl S4.rel
 refine d9 (wpAny_mono (nG (L:=L) (m:=0) (cs:=bs) S4 rfl rfl vS vS hG jV hLb (ZZ _) rfl rfl (fun q hq=>(ho q hq).2) (fun q hq=>(M4.inn q hq).1) vS vS vS vS (by decide) rfl (Q:=fun f s'=>f=.next/\∃nx zs own pgI ρ' sj5,tO bs 20 0 ((cv bs.length 0 bs).map (·.1))=iL bs 20 0 nx zs/\ue w η a bs L nx zs own pgI/\(nx=-1\/bs.drop ((nx/8).toNat+1)=bs.drop ((nx/8).toNat+1))/\gQ k pgI s'/\(∀q∈own,∀z∈k.hold,q.1≠z.1)/\ad ((k.cx _ η (η.zip os) _ _ _ [] _ _ hη rfl hsh kJ).lp η (ZN _) hη own sj5) ⟨[("nx",.int nx),("ids",.val (.ref a)),("self",.ref 0)],cp bs⟩ ρ' s') fun nx zs own' pg' ρ' sj5 sj6 s' hz hI hd hr V' ho' S'=>⟨rfl,nx,zs,own',pg',ρ',sj6,?_,hI,hd,((M4.step rfl hr).act V').step rfl S'.rel,ho',S'⟩) ?_ fun O O h=>h.elim)
 ·rcases hz with ⟨e,rfl,rfl⟩|e
  ·refine aa (e ..) ?_;rfl
  ·refine aa (e ..) ?_;rfl
 clear M4 S4 Mj3 S3 V ho hG hb hLb C hu Sj1 Sj2 S hdl
 rintro f s' ⟨rfl,nx,zs,own,pgI,ρ,sj5,hrv,hI,hd,M,ho,S⟩
 have S:=S.re (hp2:=ZN _) (h2:=hη) S.pre
 refine eU fun K1 hK1=>(iJ (fun O=>rfl) (S.itR (m8.range1 (n:=20) (.glob (bA w)) (.attr (.name vS) vS vS vS (gI w) dY) (by decide)) fun J ρ4 sj4 hp4 IH kk p hkk=>?_))
 have Sj5:=IH.S.merge
 refine sD (.mk k _ own pgI hsh bs 0 nx zs _ _ rfl rfl hR hY hrv rfl hd hI (M.step rfl IH.hs) ho IH.ho.2 (Sj5.weak (Γ₁:=⟨[("nx",.int nx),("ids",.val (.ref a))],cp bs⟩) ⟨.cons vS (.cons vS .nil),.same⟩ vT vT)) ?_
 clear Sj5 IH S M ho hd hI hob hm hh nm hrv e1 e2
 rintro n ih A R Y s ⟨k,shr,own,pgI,hsh,cs,i,nx,zs,ρ,Z,hi,rfl,hR,hY,hZ,hN,hd,hI,M,ho,hJ,S⟩
 refine dU fun H2=>?_
 have S':=S.part
 cases n with
|zero =>
  refine S'.act (S'.offL fun q hq=>by refine aa (ZP.mp hq ..) ?_;exact hJ) (iM w J _ 1) (fun O O O O O O=>trivial) (Zf 5) (fun O h=>nomatch h) (fun r own' pg' s' V hr ho' S'=>?_) _
  obtain⟨rfl,rfl,rfl⟩:=hr
  intro c'
  obtain⟨m',_,hSl⟩:=(S'.out ⟨V.eq,V.gm⟩).sleep (M.still V.eq V.gm) ho
  exact kE hkk hK1 (kG (.ok (.ret .none)) (oM hR hZ hSl.drop))
|succ n =>
  have ej:((i:Int)+1)=((i+1:Nat):Int):=by rfl
  refine S'.act (S'.offL fun q hq=>by refine aa (ZP.mp hq ..) ?_;exact hJ) (gg w J _ 1 n) (fun O O O O O O=>trivial) (Zf 5) (fun O h=>nomatch h) (fun r own' pg' s' V hr ho' S'=>?_) _
  obtain⟨⟨t,rfl⟩,rfl,rfl⟩:=hr
  rw[ej] at S'
  have M':=M.still V.eq V.gm
  refine wpAny_assign_Name (S'.put (.int (i:Int) t) vS fun h3 tk3 S3=>?_)
  refine eU fun K3 hK3=>(rj (S3.tst (cb.icmp (.name vS) (.name vS) .eq) fun bb ρ4 sj4 hp4 hbb S4=>?_))
  have M4:=M'.step rfl S4.rel
  cases bb with
 |false =>
   have hz:¬((i:Int)=nx):=fun h=>Bool.false_ne_true (hbb.mpr h)
   have eL:iL bs (n+1) i nx zs=((i:Int),KR bs nx)::iL bs n ((i+1:Nat):Int) nx zs:=by refine aA (ej ..) ?_;exact if_neg hz
   refine eU fun K4 hK4=>(jy rfl rfl rfl (S4.ev (.name vS) fun v ρ5 sj5 hp5 hv Sj5 gs' hgs hbare=>?_))
   obtain⟨_,rfl⟩:=hv.intI
   obtain⟨m',nm',hSl⟩:=Sj5.merge.sleep (M'.step rfl Sj5.rel) fun q hq=>(ZT.mp hq).elim (fun e=>by refine aa (e ..) ?_;exact fun z hz=>hJ z (ZC _ hz)) (ho q)
   refine rr hY (hZ.trans eL) hbare hSl (bG.mkR fun k2 h2 R2 Y2 hh2 HD2 hR2 hY2=>hgs _ _ _ _ ?_)
   obtain⟨l2,os2,⟨cs2,rfl,hN2,hd2⟩,e1,e2,hob2,hm2⟩:=HD2
   have hsh2:∀q∈η.zip os2,q∈quiet k2.o.fr k2.hold:=fun q hq=>hh2 q (hm2 q hq)
   exact ea (hK4.trans hK3) (bl vT (ih n _ _ _ _ (Nat.lt_succ_self n) (.mk k2 (η.zip os2) own pgI hsh2 cs2 (i+1) nx zs _ _ (by exact(ah [.e (.p .a (.p .b .u)) .x] (.e (.p (.p .a .u) .b) .x)) hi) rfl hR2 hY2 rfl hN2 hd2 hI gQ.start (fun q hq=>k2.ap q (.tail _ hq)) (fun z hz=>(ZS.mp hz).elim (fun h=>hJ z (ZD _ h)) (k2.ap _ (.head _) z)) (k2.start (by rfl) (by decide) hη (by rfl) hsh2 kJ (nm'.free (.cons vS (.cons vS .nil)) vT) e1 e2 hob2 nd))))
 |true =>
   have hz:(i:Int)=nx:=hbb.mp vT
   subst hz
   rcases hI with ⟨h9,_⟩|⟨_,b,ys,hLb,hG,hGL,rfl⟩
   ·exact((ai [.E (.t .a) (.j .u)] .f) h9).elim
   have hd:=hd.resolve_left (by exact(ai [] (.x (.E (.t .a) (.j .u)))))
   have Sj5:=S4.merge.swap.part
   have eL:∀nx' zs',((ys.map (·.1)=[]/\nx'=-1/\zs'=[])\/ys.map (·.1)=nx'::zs')->iL bs (n+1) i i (ys.map (·.1))=iL bs n ((i+1:Nat):Int) nx' zs':=fun nx' zs' hz=>by
    refine aA (ej ..) ?_
    refine(if_pos rfl).trans ?_
    rcases hz with ⟨e,rfl,rfl⟩|e
    ·exact aa (e ..) rfl
    ·exact aa (e ..) rfl
   refine d9 (wpAny_mono (nG (L:=L) (cs:=cs) Sj5 rfl rfl vS vS hG hGL hLb (ZZ _) hN hd (fun q hq z hz=>(ZT.mp hz).elim (fun e=>by refine aa (e ..) ?_;exact fun e2=>hJ q (ZD _ hq) e2.symm) (ho q hq z)) (fun q hq=>(M4.inn q hq).1) vS vS vS vS (by decide) rfl (Q:=fun f s'=>f=.next/\BR w L _ _ _ _ _ η hη bs a J n k.A R Y s') fun nx' zs' own' pg' ρ' sj6 sj7 s' hz hI hd' hr V' ho' S'=>⟨rfl,
     .mk k shr own' pg' hsh cs (i+1) nx' zs' _ Z (by exact(ah [.e (.p .a (.p .b .u)) .x] (.e (.p (.p .a .u) .b) .x)) hi) rfl hR hY (hZ.trans (eL _ _ hz)) hN hd' hI (((M4.step rfl hr).act V').step rfl S'.rel) (fun q hq z hz=>ho' q hq z (.tail _ hz)) (fun z hz e=>(ZS.mp hz).elim (fun hz=>ho' z hz _ (.head _) e.symm) fun hz=>hJ z (ZC _ hz) e)
      ((S'.merge.swap.re (hp2:=ZN _) (h2:=hη) S'.pre).weak (Γ₁:=⟨[("nx",.int nx'),("ids",.val (.ref a))],cp cs⟩) ⟨.cons vS (.cons vS .nil),.same⟩ vT vT)⟩) ?_ fun O O h=>h.elim)
   rintro f s' ⟨rfl,h9⟩
   exact ea hK3 (bl vT (ih n _ _ _ _ (Nat.lt_succ_self n) h9))
example:True:=by w_top off;trivial
theorem aV(n:Nat):∀(a z:Int),z∈cw 1 n a<->a<=z/\z<a+n:=by
 induction n with
|zero =>
  intro a z
  rw[cw]
  exact⟨(fun h=>nomatch h),fun h=>by lia⟩
|succ n ih =>
  intro a z
  rw[cw,ZT,ih]
  constructor
  ·rintro (h|h) <;> lia
  ·intro h;exact(aG [.d (.M .A .B) (.L .B (.p .A (.t (.p .a .u))))] (.o (.E .B .A) (.d (.M (.p .A .u) .B) (.L .B (.p (.p .A .u) (.t .a)))))) h
theorem eV(n:Nat):∀a:Int,Up (cw 1 n a):=by
 induction n with
|zero=>exact fun O=>.nil
|succ n ih=>exact fun a=>.cons (fun z hz=>by have:=(aV n (a+1) z).mp hz;exact(aG [.d (.M (.p .A .u) .B) (.L .B (.p (.p .A .u) (.t .a)))] (.L .A .B)) this) (ih _)
noncomputable def bK(cs:LI):List Int:=(cw 1 20 0).filter fun z=>decide (z∉cs)
theorem bq(cs:LI):Up (bK cs):=(eV 20 0).filter _
theorem aW{cs:LI}{z:Int}:z∈bK cs<->(0<=z/\z<20)/\z∉cs:=by
 unfold bK
 rw[Ze,aV,decide_eq_true_iff]
 exact and_congr_left fun O=>by rfl
theorem fi{cs:LI}:∀z∈bK cs,0<=z/\z<20:=fun O h=>(aW.mp h).1
structure bk(rs cs:LI):Prop where
 len:rs.length=3
 rep:ar rs (bK cs)
 up:Up cs
 rng:∀z∈cs,0<=z/\z<20
section
variable{rs cs:LI}
theorem bk.ks(h:bk rs cs):bK (bK cs)=cs:=b6 (bq _) h.up fun z=>by
 rw[aW,aW]
 exact⟨fun hZ25=>by obtain⟨h1,h2⟩:=hZ25;exact Classical.byContradiction fun h3=>h2 ⟨h1,h3⟩,fun h1=>⟨h.rng z h1,fun h2=>h2.2 h1⟩⟩
theorem bk.has(h:bk rs cs){z:Int}(h0:0<=z)(h1:z<20):(!ay rs z)=decide (z∈cs):=by
 have:=h.rep.mem z h0
 rw[aW] at this
 by_cases hz:z∈cs
 ·refine aa (decide_eq_true hz ..) (aa (Bool.eq_false_iff.mpr fun e=>(this.mp e).2 hz ..) ?_);rfl
 ·refine aa (decide_eq_false hz ..) (aa (this.mpr ⟨⟨h0,h1⟩,hz⟩ ..) ?_);rfl
theorem bk.add(h:bk rs cs){z:Int}(h0:0<=z)(h1:z<20):bk (bj rs z) (aX cs z):=by
 obtain⟨g1,g2⟩:=br z h.up
 refine⟨by unfold bj;refine aa (Zn ..) ?_;exact h.len,?_,g1,fun y hy=>((g2 y).mp hy).elim (fun e=>e▸⟨h0,h1⟩) (h.rng y)⟩
 have:=h.rep.dis h0 (by rw[h.len];exact(bo [.L .A .x,.W 8 .B .A] (.L .B (.t .w))) h1 (aM 8))
 rwa [show (bK cs).filter (decide <| · ≠ z)=bK (aX cs z) from b6 ((bq _).filter _) (bq _) fun y=>by
  rw[Ze,aW,aW,g2,decide_eq_true_iff]
  exact⟨fun hZ26=>by obtain⟨⟨a,b⟩,c⟩:=hZ26;exact⟨a,fun d=>d.elim c b⟩,fun hZ27=>by obtain⟨a,b⟩:=hZ27;exact⟨⟨a,fun d=>b (.inr d)⟩,fun d=>b (.inl d)⟩⟩] at this
theorem jl{bs:LI}{z:Int}(hl:bs.length=3)(h0:0<=z)(h1:z<20):aP bs z=fG bs z:=by
 unfold aP
 exact aa (if_neg (by exact(aG [.e .a .w,.L .A .x,.W 8 .B .A] (.x (.M (.t .a) .B))) hl h1 (aM 8)) ..) rfl
theorem bk.dis(h:bk rs cs){z:Int}(h0:0<=z)(h1:z<20):bk (aP rs z) (cs.filter (decide <| · ≠ z)):=by
 have:=h.rep.addR h0 h1
 refine⟨by refine aa (jl h.len h0 h1 ..) ?_;unfold fG;refine aa (Zn ..) ?_;exact h.len,?_,h.up.filter _,fun y hy=>h.rng y (Ze.mp hy).1⟩
 rwa [show aX (bK cs) z=bK (cs.filter (decide <| · ≠ z)) from b6 (br z (bq _)).1 (bq _) fun y=>by
  rw[(br z (bq _)).2,aW,aW,Ze,decide_eq_true_iff]
  constructor
  ·rintro (rfl|⟨a,b⟩)
   ·exact⟨⟨h0,h1⟩,fun d=>d.2 rfl⟩
   ·exact⟨a,fun d=>b d.1⟩
  ·rintro ⟨a,b⟩
   by_cases e:y=z
   ·exact .inl e
   ·exact .inr ⟨a,fun d=>b ⟨d,e⟩⟩] at this
theorem bk.adds(fs:LI):∀{rs cs:LI},bk rs cs->(∀z∈fs,0<=z/\z<20)->bk (fs.foldl bj rs) (fs.foldl aX cs):=by
 induction fs with
|nil=>exact fun h O=>h
|cons f fs ih=>exact fun h hz=>ih (h.add (hz f (.head _)).1 (hz f (.head _)).2) fun z hz'=>hz z (.tail _ hz')
theorem bk.diss(fs:LI):∀{rs cs:LI},bk rs cs->(∀z∈fs,0<=z/\z<20)->bk (fs.foldl Mine.aP rs) (cs.filter fun z=>decide (z∉fs)):=by
 induction fs with
|nil=>exact fun h O=>by rwa [Zk.mpr fun O O=>by simp]
|cons f fs ih =>
  intro rs cs h hz
  have a:=ih (h.dis (hz f (.head _)).1 (hz f (.head _)).2) fun z hz'=>hz z (.tail _ hz')
  rw[List.filter_filter] at a
  rwa [show (fun z=>decide (z∉f::fs))=fun z=>decide (z∉fs)&&decide (z≠f) from funext fun z=>by
   refine aA (Bool.decide_and ..) ?_;exact decide_eq_decide.mpr ⟨fun hh=>⟨fun h1=>hh (.tail _ h1),fun h1=>hh (h1▸.head _)⟩,fun ⟨h1,h2⟩ hh=>(ZT.mp hh).elim h2 h1⟩]
end
theorem nY(w:World):am w 514 "discard" 455:=⟨by k_is,by k_is,by k_is,by k_is⟩
theorem kK(w:World):am w 514 "add" 448:=⟨by k_is,by k_is,by k_is,by k_is⟩
theorem lK(w:World):am w 514 "last" 334:=⟨by k_is,by k_is,by k_is,by k_is⟩
theorem fK(w:World):am w 714 "discard" 697:=⟨by k_is,by k_is,by k_is,by k_is⟩
theorem lJ(w:World):am w 714 "add" 690:=⟨by k_is,by k_is,by k_is,by k_is⟩
theorem rb(w:World):dI w 714 "add" 690:=⟨by k_is,by k_is,by k_is,by k_is,by k_is,by k_is,by decide⟩
theorem nu(w:World):iA w 714 "idset":=⟨by k_is,by k_is,by k_is,by k_is⟩
theorem nt(w:World):iA w 714 "limit":=⟨by k_is,by k_is,by k_is,by k_is⟩
section
variable(w:World)(rs:LI)
theorem qU:az w 1 662 [.inst 714 1,.attrs [],.inst 514 3,.attrs [("bits",.ref 4)],.nums rs] [.ref 0,.ref 2,.int 20] [] (ch (.val .none) (cp rs)):=by
 refine' ao ["self","idset","limit"] ?ho ?hcd ?hb ?hx ?nd ?hl ?H ?c1 ?c2 ?c3 ?c4
 k_extra "cx"
 intro c
 exact .cons (.setAttr (.name vS) (.name vS) vS vS (nu w) (.cons (.setAttr (.name vS) (.name vS) vS vS (nt w) (.nil (.next _ ⟨rfl,rfl⟩ .same vT)))))
theorem fy(hlen:rs.length<=3)(z:Int)(h0:0<=z):da w 4 676 (cp rs) [.ref 0,.int z] [] (.val (.bool (!ay rs z))):=by
 refine' aU ["self","i"] ?ho ?hcd ?hb ?hx ?nd ?hl ?H ?c1 ?c2 ?c3 ?c4
 k_extra "cx"
 exact fun c=>.cons (.ret (.cmp (.name vS) (.attr (.name vS) vS vS vS (cN w) af) (.notin (.inst vS vS (lc w) (by k_is) (ae.ro (d1 w rs hlen z h0) [2,3,4] (ab rfl rfl rfl)).cal)) (by cases ay rs z <;> simp)) (.ret rfl vT))
theorem kW(z:Int)(h0:0<=z)(h1:z/8<rs.length)(h2:z<1000):az w 2 690 (cp rs) [.ref 0,.int z] [] (ch (.val .none) (cp (bj rs z))):=by
 refine' ao ["self","n"] ?ho ?hcd ?hb ?hx ?nd ?hl ?H ?c1 ?c2 ?c3 ?c4
 k_extra "cx"
 exact fun c=>.cons (.expr (.mcall (.attr (.name vS) vS vS vS (cN w) af) vS vS rfl (nY w) (.cons (.name vS) .nil) (ae.det (dH w rs z h0 h1 h2) [2,3,4] (ab rfl rfl rfl) (by decide) vT rfl).cal) (.nil (.next _ ⟨rfl,rfl⟩ .same vT)))
theorem jc(hlen:rs.length<=3)(z:Int)(h0:0<=z)(h1:z<20):az w 4 697 (cp rs) [.ref 0,.int z] [] (ch (.val .none) (cp (aP rs z))):=by
 refine' ao ["self","n"] ?ho ?hcd ?hb ?hx ?nd ?hl ?H ?c1 ?c2 ?c3 ?c4
 k_extra "cx"
 exact fun c=>.cons (.expr (.mcall (.attr (.name vS) vS vS vS (cN w) af) vS vS rfl (kK w) (.cons (.name vS) .nil) (ae.det (kc w rs hlen z h0 h1) [2,3,4] (ab rfl rfl rfl) (by decide) vT rfl).cal) (.nil (.next _ ⟨rfl,rfl⟩ .same vT)))
theorem sr(hlen:rs.length<=3)(hby:∀c∈rs,0<=c/\c<256)(hs:(rs.map ones).sum<=24)(hs0:0<=(rs.map ones).sum):az w 10 669 (cp rs++[.tab 5 294 ⟨127,19,127,62⟩]) [.ref 0] [] (ch (.int (20-(rs.map ones).sum)) (cp rs++[.tab 5 294 ⟨127,19,127,62⟩])):=by
 refine' ao ["self"] ?ho ?hcd ?hb ?hx ?nd ?hl ?H ?c1 ?c2 ?c3 ?c4
 k_extra "cx"
 exact fun c=>.cons (.ret (.iop (.attr (.name vS) vS vS vS (gI w) dY) (.call_bi (.bi (by k_is) boot_len) (.cons (.attr (.name vS) vS vS vS (cN w) af) .nil) (ax.lenI (lv':=6) (i:=2) vS vS (kL w) (by k_is) (fun c'=>(ae.det (o8 w rs hlen hby) [2,3,4,5] (.cons rfl (.cons rfl (.cons rfl (.cons rfl .nil)))) (by decide) vT rfl).cal) hs0 (by exact Int.le_trans ‹_› (by decide)))) .sub) (.ret _ ⟨rfl,rfl⟩ .same vT))
theorem sv(fs:LI)(hlen:rs.length=3)(hz:∀z∈fs,0<=z/\z<20):az w 4 173 (cp rs++[.nums fs]) [.ref 0,.ref 5] [] (ch (.val .none) (cp (fs.foldl bj rs)++[.nums fs])):=by
 refine' ao ["self","other"] ?ho ?hcd ?hb ?hx ?nd ?hl ?H ?c1 ?c2 ?c3 ?c4
 k_extra "cx"
 intro c
 have dl:∀(l:LI) (a:LI),(l.foldl bj a).length=a.length:=by
  intro l
  induction l with
 |nil=>exact fun O=>rfl
 |cons f l ih=>exact fun a=>(ih _).trans (by unfold bj;exact aa (Zn ..) rfl)
 refine .cons (.assign (.bound (.name vS) vS vS rfl (rb w)) ?_)
 refine .cons (.forList (j:=5) (fs:=fs) (fun i=>⟨[("add",.ref 6)],[.inst 714 1,.attrs [("idset",.ref 2),("limit",.int 20)],.inst 514 3,.attrs [("bits",.ref 4)],.nums ((fs.take i).foldl bj rs),.nums fs,.meth 690 (.ref 0)]⟩) 7 (.name vS) vS (fun O=>rfl) ⟨.cons vS .nil,.same⟩ vT vT (fun c' i hi=>?_) ?_)
 ·have h9:=hz _ (List.getElem_mem hi)
  refine .cons (.expr (.call_m (q:=6) (.name vS) vS (by k_is) (.cons (.name vS) .nil) vS (ae.det (kW w ((fs.take i).foldl bj rs) fs[i] h9.1 (by refine aa (dl ..) (aa (hlen ..) ?_);exact(dj [.l .a .b,.d (.M .o .A) (.L .A .x),.W 8 .B .A] (.L .B (.t .w))) hi h9 (aM 8)) (by exact(c8 [.l .a .b,.d (.M .o .A) (.L .A .x)] (.L .A .q)) hi h9)) [0,1,2,3,4] (.cons vS (.cons vS (ab vS vS vS))) (by decide) vT vT)) (.nil (.next () trivial ⟨.cons vS .nil,?_⟩ vT vT)))
  refine aa (Zw hi ..) (aa (List.foldl_append ..) ?_)
  exact .same
 ·exact .nil (.next _ ⟨rfl,by refine aa (List.take_length ..) ?_;rfl⟩ (.cons (.cons (.cons (.cons (.cons (.cons .nil)))))) vT)
end
theorem fV(w:World){k:jm}{rs cs ks:LI}(R:bk rs cs)(K:pR w ks k)(hkU:Up ks)(hkr:∀z∈ks,0<=z/\z<20):az w 6 187 (cp rs++[o1 k 5,o2 k 5,o3 k]) [.ref 0,.ref 5] []
  (fun v l=>v=.val .none/\∃rs',bk rs' (cs.filter fun z=>decide (z∉ks))/\l=cp rs'++[o1 k 5,o2 k 5,o3 k]):=by
 refine' ao ["self","other"] ?ho ?hcd ?hb ?hx ?nd ?hl ?H ?c1 ?c2 ?c3 ?c4
 k_extra "cx"
 intro c
 refine .cons (.forStill (Γf:=fun zs i=>⟨[("self",.ref 0)],[.inst 714 1,.attrs [("idset",.ref 2),("limit",.int 20)],.inst 514 3,.attrs [("bits",.ref 4)],.nums ((zs.take i).foldl aP rs),o1 k 5,o2 k 5,o3 k]⟩) (n₁:=8) (iQ K hkU hkr (b:=5) (.name vS) vS vS vS) dh (kN k) (fun zs i O=>gi vS vS vS) (fun zs O=>⟨.cons vS .nil,.same⟩) (fun zs=>by cases k <;> rfl) (fun zs=>rfl) (fun c' zs i hi hp=>?_) fun zs hp=>?_)
 ·have hzi:∀y∈zs,0<=y/\y<20:=fun y hy=>hkr y (hp.1.mem_iff.mp hy)
  have h9:=hzi _ (List.getElem_mem hi)
  have e:=(R.diss (zs.take i) fun y hy=>hzi y (List.mem_of_mem_take hy)).len
  refine .cons (.expr (.mcall (.name vS) vS vS rfl (fK w) (.cons (.name vS) .nil) (ae.det (jc w ((zs.take i).foldl aP rs) (by exact Nat.le_of_eq ‹_›) zs[i] h9.1 h9.2) [0,1,2,3,4] (.cons rfl (.cons rfl (ab rfl rfl rfl))) (by decide) vT rfl).cal) (.nil (.next () trivial ⟨.cons vS .nil,?_⟩ (by cases k <;> rfl) vT)))
  refine aa (Zw hi ..) (aa (List.foldl_append ..) ?_)
  exact .same
 ·have hzi:∀y∈zs,0<=y/\y<20:=fun y hy=>hkr y (hp.1.mem_iff.mp hy)
  have:=R.diss zs hzi
  rw[show (fun z=>decide (z∉zs))=fun z=>decide (z∉ks) from funext fun z=>decide_eq_decide.mpr (not_congr hp.1.mem_iff)] at this
  exact .nil (.next _ ⟨rfl,_,this,by refine aa (List.take_length ..) ?_;rfl⟩ (.cons (.cons (.cons (.cons (.cons (.cons (.cons (.cons .nil)))))))) (by cases k <;> rfl))
example:True:=by w_top off;trivial
theorem kP(w:World):findIn (hd.heap_1 w.params) (.ref 714) "__iter__"=some (some (.ref 683)):=by k_is
theorem ly(bs:LI):∀(n:Nat) (i nx:Int) (zs:LI),0<=i->((nx=-1/\zs=[])\/(i<=nx/\Up (nx::zs))) ->
  (iL bs n i nx zs).map (·.1)=(cw 1 n i).filter (fun z=>decide (z∉nx::zs))/\∀e∈iL bs n i nx zs,∃nx',e.2=KR bs nx'/\(nx'=-1\/e.1<nx'):=by
 intro n
 induction n with
|zero=>exact fun O O O O O=>⟨rfl,(fun O h=>nomatch h)⟩
|succ n ih =>
  intro i nx zs h0 h
  rw[cw,List.filter_cons]
  by_cases e:i=nx
  ·subst e
   rw[if_neg (by simp)]
   have hU:Up (i::zs):=h.elim (fun hZ28=>by obtain⟨a,_⟩:=hZ28;lia) (·.2)
   cases zs with
  |nil =>
    rw[show iL bs (n+1) i i []=iL bs n (i+1) (-1) [] from if_pos rfl]
    obtain⟨a,b⟩:=ih (i+1) (-1) [] (by exact(aO [.M .o .A] (.M .o (.p .A .u))) h0) (.inl ⟨rfl,rfl⟩)
    refine⟨a.trans (List.filter_congr fun z hz=>?_),b⟩
    have:=(aV n (i+1) z).mp hz
    simp;exact(aG [.M .o .A,.d (.M (.p .A .u) .B) (.L .B (.p (.p .A .u) (.t .a)))] (.i (.E .B (.j .u)) (.E .B .A))) h0 this
  |cons y zs =>
    rw[show iL bs (n+1) i i (y::zs)=iL bs n (i+1) y zs from if_pos rfl]
    have h9:=List.pairwise_cons.mp hU
    obtain⟨a,b⟩:=ih (i+1) y zs (by exact(aO [.M .o .A] (.M .o (.p .A .u))) h0) (.inr ⟨h9.1 y (.head _),h9.2⟩)
    refine⟨a.trans (List.filter_congr fun z hz=>?_),b⟩
    have:=(aV n (i+1) z).mp hz
    refine decide_eq_decide.mpr (not_congr ⟨.tail _,fun q=>(ZT.mp q).elim (fun e=>by lia) id⟩)
  ·rw[show iL bs (n+1) i nx zs=(i,KR bs nx)::iL bs n (i+1) nx zs from if_neg e]
   have hni:i∉nx::zs:=fun hm=>by
    rcases h with ⟨rfl,rfl⟩|⟨h1,h2⟩
    ·rcases ZT.mp hm with q|q
     ·exact(aO [.M .o .A,.E .A (.j .u)] .f) h0 q
     ·exact nomatch q
    ·rcases ZT.mp hm with q|q
     ·exact e q
     ·have:=(List.pairwise_cons.mp h2).1 _ q
      exact(bo [.M .A .B,.L .B .A] .f) h1 this
   rw[if_pos (decide_eq_true hni)]
   obtain⟨a,b⟩:=ih (i+1) nx zs (by exact(aO [.M .o .A] (.M .o (.p .A .u))) h0) (h.imp id fun hZ29=>by obtain⟨a,b⟩:=hZ29;exact⟨by exact(bo [.x (.E .A .B),.M .A .B] (.M (.p .A .u) .B)) e a,b⟩)
   refine⟨congrArg (i::·) a,fun x hx=>?_⟩
   rcases ZT.mp hx with rfl|hx
   ·exact⟨nx,rfl,h.imp And.left fun h=>by show i<nx;lia⟩
   ·exact b x hx
theorem gb(bs ks:LI)(hU:Up ks)(h0:∀z∈ks,0<=z):(tO bs 20 0 ks).map (·.1)=bK ks/\∀e∈tO bs 20 0 ks,∃nx',e.2=KR bs nx'/\(nx'=-1\/e.1<nx'):=by
 cases ks with
|nil =>
  obtain⟨a,b⟩:=ly bs 20 0 (-1) [] (by decide) (.inl ⟨rfl,rfl⟩)
  exact⟨a.trans (by decide),b⟩
|cons z zs=>exact ly bs 20 0 z zs (by decide) (.inr ⟨h0 z (.head _),hU⟩)
theorem KR.self(bs:LI)(nx:Int):KR bs nx (cp bs):=⟨bs,rfl,rfl,.inr rfl⟩
theorem KR.add{bs a:LI}{nx z:Int}(h:KR bs nx (cp a))(hn:nx=-1\/z<nx)(hl:a.length=3)(h0:0<=z)(h1:z<20):KR bs nx (cp (aP a z)):=by
 obtain⟨cs,e,hc,hd⟩:=h
 obtain rfl:a=cs:=by
  injection e with _ e;injection e with _ e;injection e with _ e;injection e with _ e;injection e with e _;injection e
 refine aa (jl hl h0 h1 ..) ?_
 refine⟨_,rfl,by unfold fG;refine aa (Zn ..) ?_;exact hc,?_⟩
 rcases hn with h9|h9
 ·exact .inl h9
 ·refine hd.imp id fun hd=>?_
  unfold fG
  refine aa (List.drop_set_of_lt (by exact(t6 [.L .A .B,.W 8 .C .A,.T .a .C,.W 8 .D .B,.T .b .D] (.l .a (.p .b .u))) h9 (aM 8) (bz _) (aM 8) (bz _)) ..) ?_
  exact hd
theorem kU(w:World){k:jm}{rs cs ks:LI}(R:bk rs cs)(K:pR w ks k)(hn:∀zs a b,k≠.list zs a b)(hkU:Up ks)(hkr:∀z∈ks,0<=z/\z<20):az w 8 180 (cp rs++[o1 k 5,o2 k 5,o3 k]) [.ref 0,.ref 5] []
  (fun v l=>v=.val .none/\∃rs',bk rs' (cs.filter fun z=>decide (z∈ks))/\l=cp rs'++[o1 k 5,o2 k 5,o3 k]):=by
 refine' ao ["self","other"] ?ho ?hcd ?hb ?hx ?nd ?hl ?H ?c1 ?c2 ?c3 ?c4
 k_extra "cx"
 intro c
 obtain⟨s1,s2⟩:=gb rs (bK cs) (bq _) fun z h=>(fi z h).1
 rw[R.ks] at s1
 refine .cons (.forIt (σ:=[0,1,2,3,4]) (α:=List Int) (fun K' l a=>K' (cp a)/\bk a (cs.filter fun x=>decide (x∈l.map (·.1))||decide (x∈ks))/\Up (l.map (·.1))/\∀e∈l,0<=e.1/\e.1<20/\e.2 (cp a)/\∃nx,e.2=KR rs nx/\(nx=-1\/e.1<nx)) (fun a=>⟨[("self",.ref 0),("other",.ref 5)],[.inst 714 1,.attrs [("idset",.ref 2),("limit",.int 20)],.inst 514 3,.attrs [("bits",.ref 4)],.nums a,o1 k 5,o2 k 5,o3 k]⟩) 8
  (.of (σ:=[0,1,2,3,4]) (v:=.ref 0) (K₀:=(·=cp rs)) (.name vS) (cK (kP w) (by k_is) (fun l h=>by subst h;exact⟨1,_,vS,vS⟩) (jh w rs).it) ⟨_,.cons rfl (.cons rfl (ab rfl rfl rfl)),rfl,rfl⟩) (fun T K' l hO=>?_) (fun K' l a hI=>⟨cp a,.cons vS (.cons vS (ab vS vS vS)),vT,hI.1⟩) (fun c' K' z K'' l a hI=>?_) fun K' a hI=>?_)
 ·obtain⟨_,rfl,rfl⟩:=hO
  refine aa (R.rep.walk ..) ?_
  refine⟨rs,⟨rfl,?_,by refine aa (s1 ..) ?_;exact R.up,fun e he=>?_⟩,⟨.cons vS (.cons vS .nil),.same⟩,by cases k <;> rfl,vT⟩
  ·refine aa (s1 ..) (aa (Zk.mpr fun x hx=>by simp[hx] ..) ?_)
   exact R
  ·obtain⟨nx,e1,e2⟩:=s2 e he
   have h9:e.1∈cs:=by refine aA (s1 ..) ?_;exact Zd he
   exact⟨(R.rng _ h9).1,(R.rng _ h9).2,by refine aa (e1 ..) ?_;exact .self _ _,nx,e1,e2⟩
 ·obtain⟨_,h2,h3,h4⟩:=hI
  obtain⟨O,z1,z2,nx,rfl,z3⟩:=h4 _ (.head _)
  have h9:=List.pairwise_cons.mp h3
  have hzl:z∉l.map (·.1):=fun hm=>Int.lt_irrefl _ (h9.1 z hm)
  refine .cons (.ite (.cmp (.name vS) (.name vS) (dC K hn hkU hkr (b:=5) rfl rfl rfl O).2) (fun hk=>?_) fun hk=>?_)
  ·refine .cons (.expr (.mcall (.name vS) vS vS rfl (fK w) (.cons (.name vS) .nil) (ae.det (jc w a (by have:=h2.len;exact Nat.le_of_eq ‹_›) z O z1) [0,1,2,3,4] (.cons rfl (.cons rfl (ab rfl rfl rfl))) (by decide) vT rfl).cal) (.nil (.nil (.next (aP a z) ⟨z2.add z3 h2.len O z1,?_,h9.2,fun e he=>?_⟩ ⟨.cons vS (.cons vS .nil),.same⟩ (by cases k <;> rfl) vT))))
   ·have:=h2.dis O z1
    rw[List.filter_filter] at this
    rwa [show (fun x=>decide (x∈l.map (·.1))||decide (x∈ks))=fun x=>(decide (x≠z))&&(decide (x∈(((z,KR rs nx)::l).map (·.1)))||decide (x∈ks)) from funext fun x=>by
     refine aa (List.map_cons ..) ?_
     by_cases e:x=z
     ·subst e;simp[hk,hzl]
     ·simp[e,beq_eq_false_iff_ne.mpr e]]
   ·obtain⟨a1,a2,a3,nx',e1,a4⟩:=h4 e (.tail _ he)
    have:=h9.1 e.1 (Zd he)
    refine⟨a1,a2,?_,nx',e1,a4⟩
    rw[e1] at a3 ⊢
    exact a3.add (a4.imp id fun h=>by exact Int.lt_trans ‹_› ‹_›) h2.len O z1
  ·have hk:z∈ks:=Classical.not_not.mp hk
   refine .nil (.nil (.next a ⟨z2,?_,h9.2,fun e he=>h4 e (.tail _ he)⟩ ⟨.cons vS (.cons vS .nil),.same⟩ (by cases k <;> rfl) vT))
   rwa [show (fun x=>decide (x∈l.map (·.1))||decide (x∈ks))=fun x=>decide (x∈(((z,KR rs nx)::l).map (·.1)))||decide (x∈ks) from funext fun x=>by
    refine aa (List.map_cons ..) ?_
    by_cases e:x=z
    ·subst e;simp[hk]
    ·simp[e,beq_eq_false_iff_ne.mpr e]]
 ·obtain⟨_,h2,_⟩:=hI
  refine .nil (.next _ ⟨rfl,_,?_,rfl⟩ (.cons (.cons (.cons (.cons (.cons (.cons (.cons (.cons .nil)))))))) (by cases k <;> rfl))
  simpa using h2
example:True:=by w_top off;trivial
noncomputable def bM(cs:LI):SV:=match cs with|[]=>.val .none|z::_=>.int z
noncomputable def bv(cs:LI):SV:=match cs.getLast? with|none=>.val .none|some z=>.int z
theorem kS(cs:LI)(σ:LN):(bM cs).ren σ=bM cs:=by cases cs <;> rfl
theorem mH(cs:LI)(σ:LN):(bv cs).ren σ=bv cs:=by unfold bv;split <;> rfl
theorem ig{cs:LI}{z:Int}(hU:Up cs)(h:z∈cs)(h2:∀y∈cs,y<=z):bv cs=.int z:=by
 have hne:cs≠[]:=fun e=>by rw[e] at h;exact nomatch h
 unfold bv
 refine aa (List.getLast?_eq_some_getLast hne ..) ?_
 have h3:=h2 _ (List.getLast_mem hne)
 obtain⟨i,hi,e⟩:=ZF.mp h
 have:z<=cs.getLast hne:=by
  refine aa (List.getLast_eq_getElem ..) (aA (e ..) ?_)
  rcases Nat.lt_or_eq_of_le (show i<=cs.length-1 by exact(av [.l .a .b,.S .c .b .u] (.m .a .c)) hi (bc _ _)) with q|q
  ·exact Int.le_of_lt (List.pairwise_iff_getElem.mp hU i _ hi (by exact(av [.l .a .b,.S .c .b .u] (.l .c .b)) hi (bc _ _)) q)
  ·subst q;exact Int.le_refl _
 show SV.int (cs.getLast hne)=.int z
 exact aa (Int.le_antisymm h3 this ..) rfl
theorem lV(bs:LI):∀n:Nat,(fP bs n=.val .none/\∀z:Int,0<=z->z<n->ay bs z=false)\/∃L:Int,fP bs n=.int L/\0<=L/\L<n/\ay bs L=true/\∀z:Int,L<z->z<n->ay bs z=false
|0=>.inl ⟨rfl,fun z h1 h2=>by lia⟩
|n+1=>by
  by_cases h:ay bs n=true
  ·exact .inr ⟨n,if_pos h,by exact(ai [] (.M .o (.t .a))),by exact(ai [] (.L (.t .a) (.t (.p .a .u)))),h,fun z h1 h2=>by lia⟩
  ·have e:fP bs (n+1)=fP bs n:=if_neg h
   have h:=Bool.eq_false_iff.mpr h
   refine aa (e ..) ?_
   have ext:∀z:Int,z<((n+1:Nat):Int)->z<n\/z=n:=fun z hz=>by exact(aR [.L .A (.t (.p .a .u))] (.o (.L .A (.t .a)) (.E .A (.t .a)))) hz
   rcases lV bs n with ⟨h1,h2⟩|⟨L,h1,h2,h3,h4,h5⟩
   ·exact .inl ⟨h1,fun z g1 g2=>(ext z g2).elim (h2 z g1) fun e=>e▸h⟩
   ·exact .inr ⟨L,h1,h2,by exact(aR [.L .A (.t .a)] (.L .A (.t (.p .a .u)))) h3,h4,fun z g1 g2=>(ext z g2).elim (h5 z g1) fun e=>e▸h⟩
theorem o5(w:World){rs cs:LI}(R:bk rs cs):az w 8 704 (cp rs) [.ref 0] [] (ch (bM cs) (cp rs)):=by
 refine' ao ["self"] ?ho ?hcd ?hb ?hx ?nd ?hl ?H ?c1 ?c2 ?c3 ?c4
 k_extra "cx"
 intro c
 obtain⟨s1,_⟩:=gb rs (bK cs) (bq _) fun z h=>(fi z h).1
 rw[R.ks] at s1
 refine .cons (.forIt (σ:=[0,1,2,3,4]) (α:=Unit) (fun K' l O=>K' (cp rs)/\l.map (·.1)=cs) (fun O=>⟨[("self",.ref 0)],cp rs⟩) 5
  (.of (σ:=[0,1,2,3,4]) (v:=.ref 0) (K₀:=(·=cp rs)) (.name vS) (cK (kP w) (by k_is) (fun l h=>by subst h;exact⟨1,_,vS,vS⟩) (jh w rs).it) ⟨_,.cons rfl (.cons rfl (ab rfl rfl rfl)),rfl,rfl⟩) (fun T K' l hO=>?_) (fun K' l a hI=>⟨cp rs,.cons vS (.cons vS (ab vS vS vS)),vT,hI.1⟩) (fun c' K' z K'' l a hI=>?_) fun K' a hI=>?_)
 ·obtain⟨_,rfl,rfl⟩:=hO
  refine aa (R.rep.walk ..) ?_
  exact⟨(),⟨rfl,s1⟩,⟨.cons vS .nil,.same⟩,vT,vT⟩
 ·obtain⟨_,h2⟩:=hI
  exact .cons (.ret (.name vS) (.ret (.ret _ ⟨by refine aA (h2 ..) ?_;rfl,rfl⟩ .same vT)))
 ·obtain⟨_,h2⟩:=hI
  exact .nil (.next _ ⟨by refine aA (h2 ..) ?_;rfl,rfl⟩ .same vT)
theorem qT(w:World){rs cs:LI}(R:bk rs cs)(hne:bK cs≠[]):az w 6 711 (cp rs) [.ref 0] [] (ch (bv cs) (cp rs)):=by
 refine' ao ["self"] ?ho ?hcd ?hb ?hx ?nd ?hl ?H ?c1 ?c2 ?c3 ?c4
 k_extra "cx"
 intro c
 have h3:=R.len
 have l3:rs.length<=3:=by exact(ai [.e .a .w] (.m .a .w)) h3
 have key:∀z:Int,0<=z->z<20->(ay rs z=true<->z∉cs):=fun z h0 h1=>by
  rw[R.rep.mem z h0,aW]
  exact⟨fun h=>h.2,fun h=>⟨⟨h0,h1⟩,h⟩⟩
 rcases lV rs (rs.length*8) with ⟨_,h9⟩|⟨L,hL,hL0,hL1,hL2,hL3⟩
 ·obtain⟨z,hz⟩:=List.exists_mem_of_ne_nil _ hne
  have hz':=aW.mp hz
  exact absurd ((h9 z hz'.1.1 (by lia)).symm.trans ((key z hz'.1.1 hz'.1.2).mpr hz'.2)) (by decide)
 refine .cons (.assign (.attr (.name vS) vS vS vS (cN w) af) (.cons (.assign (.iop (.attr (.name vS) vS vS vS (gI w) dY) .intE .sub) (.cons (.ite (.icmp (.conv (.mcall0 (.name vS) vS vS rfl (lK w) (ae.ro (o6 w rs l3) [2,3,4] (ab rfl rfl rfl) (eE rs _ _)).cal) hL rfl) (.iop (.name vS) .intE .sub) .lt) (fun h=>?_) fun h=>.nil ?_)))))
 ·refine .cons (.ret (.name vS) (.ret _ ⟨?_,rfl⟩ .same vT))
  have h19:(19:Int)∈cs:=Classical.byContradiction fun hn=>by
   have:=(key 19 (by decide) (by decide)).mpr hn
   rw[hL3 19 (by exact(aO [.L .A (.s (.s .x .u) .u)] (.L .A (.n 19))) h) (by exact(ai [.e .a .w] (.L (.n 19) (.t (.r .a 8)))) h3)] at this
   exact nomatch this
  exact(ig R.up h19 fun y hy=>by have:=R.rng y hy;exact(aO [.d (.M .o .A) (.L .A .x)] (.M .A (.n 19))) this).symm
 refine .cons (.forRange (st:=-1) (n:=20) (fun i (_:Unit)=>∀z:Int,19-i<z->z<20->z∉cs) (fun i O=>⟨[("idset",.ref 2)],cp rs⟩) () 5 (.range3 (.glob (bA w)) (.cons (.name vS) (.cons (.neg .intE) (.cons (.neg .intE) .nil))) (by decide) vT (by decide) (by decide)) (fun z h1 h2=>by lia) ⟨.cons vS .nil,.same⟩ vT vT (fun c' i O hi hI=>?_) fun O hI=>.nil (.next _ ⟨?_,rfl⟩ .same vT))
 ·have O:(0:Int)<=20-1 + -1*i:=by lia
  refine .cons (.ite (.cmp (.name vS) (.name vS) (.notin (.inst (i:=2) vS vS (lc w) (by k_is) (ae.ro (d1 w rs l3 _ O) [2,3,4] (ab rfl rfl rfl)).cal))) (fun hk=>?_) fun hk=>?_)
  ·have hz:(20-1 + -1*(i:Int))∈cs:=Classical.byContradiction fun hn=>hk ((key _ O (by lia)).mpr hn)
   exact .cons (.ret (.name vS) (.ret (.ret _ ⟨(ig R.up hz fun y hy=>Classical.byContradiction fun hq=>hI y (by lia) (R.rng y hy).2 hy).symm,rfl⟩ .same vT)))
  ·have hz:=(key _ O (by lia)).mp (Classical.not_not.mp hk)
   refine .nil (.nil (.next () (fun z h1 h2=>?_) ⟨.cons vS .nil,.same⟩ vT vT))
   rcases Int.lt_or_eq_of_le (show 19-(i:Int)<=z by exact(aR [.L (.s (.n 19) (.t (.p .a .u))) .A] (.M (.s (.n 19) (.t .a)) .A)) h1) with q|q
   ·exact hI z q h2
   ·rw[show z=20-1 + -1*(i:Int) by lia];exact hz
 ·have:cs=[]:=List.eq_nil_iff_forall_not_mem.mpr fun z hz=>by
   have:=R.rng z hz
   exact hI z (by exact(aO [.d (.M .o .A) (.L .A .x)] (.L (.s (.n 19) (.t .x)) .A)) this) this.2 hz
  rw[this];rfl
noncomputable def fE(cs:LI)(i:Int):List Int:=(cw 1 20 0).filter fun z=>decide ((z<i/\z∉cs)\/(i<=z/\z∈cs))
theorem bP{cs:LI}{i z:Int}:z∈fE cs i<->(0<=z/\z<20)/\((z<i/\z∉cs)\/(i<=z/\z∈cs)):=by
 unfold fE
 rw[Ze,aV,decide_eq_true_iff]
 exact and_congr_left fun O=>by exact(aO [] (.i (.d (.M .o .A) (.L .A (.p .o (.t .x)))) (.d (.M .o .A) (.L .A .x))))
theorem bL(cs:LI)(i:Int):Up (fE cs i):=(eV 20 0).filter _
theorem js{cs:LI}(hU:Up cs)(h:∀z∈cs,0<=z/\z<20):fE cs 0=cs:=b6 (bL _ _) hU fun z=>by
 rw[bP]
 exact⟨fun hZ30=>by obtain⟨h1,h2⟩:=hZ30;exact h2.elim (fun h3=>by lia) (·.2),fun h1=>⟨h z h1,.inr ⟨(h z h1).1,h1⟩⟩⟩
theorem iG{cs:LI}{i:Int}(h0:0<=i)(h1:i<20):i∈fE cs i<->i∈cs:=by
 rw[bP]
 exact⟨fun hZ31=>by obtain⟨_,h2⟩:=hZ31;exact h2.elim (fun h3=>by lia) (·.2),fun h=>⟨⟨h0,h1⟩,.inr ⟨Int.le_refl _,h⟩⟩⟩
theorem ll{cs:LI}{i:Int}(h:i∈cs):(fE cs i).filter (decide <| · ≠ i)=fE cs (i+1):=b6 ((bL _ _).filter _) (bL _ _) fun z=>by
 rw[Ze,bP,bP,decide_eq_true_iff]
 by_cases e:z=i
 ·subst e
  exact⟨fun h=>absurd rfl h.2,fun hZ32=>by obtain⟨_,h2⟩:=hZ32;exact h2.elim (fun h3=>absurd h h3.2) fun h3=>by lia⟩
 ·exact⟨fun hZ33=>by obtain⟨⟨a,b⟩,_⟩:=hZ33;exact⟨a,b.imp (fun h=>⟨by lia,h.2⟩) fun h=>⟨by lia,h.2⟩⟩,fun hZ34=>by obtain⟨a,b⟩:=hZ34;exact⟨⟨a,b.imp (fun h=>⟨by lia,h.2⟩) fun h=>⟨by lia,h.2⟩⟩,e⟩⟩
theorem ln{cs:LI}{i:Int}(h0:0<=i)(h1:i<20)(h:i∉cs):aX (fE cs i) i=fE cs (i+1):=b6 (br i (bL _ _)).1 (bL _ _) fun z=>by
 rw[(br i (bL _ _)).2,bP,bP]
 by_cases e:z=i
 ·subst e
  exact⟨fun O=>⟨⟨h0,h1⟩,.inl ⟨by exact(aO [] (.L .A (.p .A .u))),h⟩⟩,fun O=>.inl rfl⟩
 ·exact⟨fun q=>q.elim (fun q=>absurd q e) fun hZ35=>by obtain⟨a,b⟩:=hZ35;exact⟨a,b.imp (fun h=>⟨by lia,h.2⟩) fun h=>⟨by lia,h.2⟩⟩,fun hZ36=>by obtain⟨a,b⟩:=hZ36;exact .inr ⟨a,b.imp (fun h=>⟨by lia,h.2⟩) fun h=>⟨by lia,h.2⟩⟩⟩
theorem su(w:World){rs cs:LI}(R:bk rs cs){n:Nat}(hn:n<=20):az w 5 194 (cp rs) [.ref 0,.int n] []
  (fun v l=>v=.val .none/\∃rs',bk rs' (fE cs n)/\l=cp rs'):=by
 refine' ao ["self","size"] ?ho ?hcd ?hb ?hx ?nd ?hl ?H ?c1 ?c2 ?c3 ?c4
 k_extra "cx"
 intro c
 refine .cons (.forRange (α:=List Int) (n:=n) (fun i a=>bk a (fE cs i)) (fun i a=>⟨[("self",.ref 0)],cp a⟩) rs 5 (.range1 (.glob (bA w)) (.name vS) (by exact(ai [.m .a .x] (.m .a .q)) hn)) (by refine aa (show fE cs ((0:Nat):Int)=cs from js R.up R.rng) ?_;exact R) ⟨.cons vS .nil,.same⟩ vT vT (fun c' i a hi hI=>?_) fun a hI=>.nil (.next _ ⟨rfl,a,hI,rfl⟩ .same vT))
 have O:(0:Int)<=0+1*i:=by exact(ai [] (.M .o (.p .o (.k 1 (.t .a)))))
 have z1:0+1*(i:Int)<20:=by exact(ah [.m .a .x,.l .b .a] (.L (.p .o (.k 1 (.t .b))) .x)) hn hi
 have ei:0+1*(i:Int)=i:=by exact(ai [] (.E (.p .o (.k 1 (.t .a))) (.t .a)))
 have al:a.length<=3:=by have:=hI.len;exact(ai [.e .a .w] (.m .a .w)) this
 refine .cons (.ite (.cmp (.name vS) (.name vS) (.isin (.inst (i:=0) vS vS (pp w) (by k_is) (ae.ro (fy w a al _ O) [0,1,2,3,4] (.cons rfl (.cons rfl (ab rfl rfl rfl)))).cal))) (fun hk=>?_) fun hk=>?_)
 ·rw[hI.has O z1,decide_eq_true_iff,ei,iG (by exact(ai [] (.M .o (.t .a)))) (by exact(ah [.m .a .x,.l .b .a] (.L (.t .b) .x)) hn hi)] at hk
  refine .cons (.expr (.mcall (.name vS) vS vS rfl (fK w) (.cons (.name vS) .nil) (ae.det (jc w a al _ O z1) [0,1,2,3,4] (.cons rfl (.cons rfl (ab rfl rfl rfl))) (by decide) vT rfl).cal) (.nil (.nil (.next (aP a (0+1*i)) ?_ ⟨.cons vS .nil,.same⟩ vT vT))))
  have:=hI.dis O z1
  rw[ei,ll hk] at this
  refine aa (ei ..) ?_
  exact this
 ·rw[hI.has O z1,decide_eq_true_iff,ei,iG (by exact(ai [] (.M .o (.t .a)))) (by exact(ah [.m .a .x,.l .b .a] (.L (.t .b) .x)) hn hi)] at hk
  refine .cons (.expr (.mcall (.name vS) vS vS rfl (lJ w) (.cons (.name vS) .nil) (ae.det (kW w a _ O (by have:=hI.len;exact(ow [.m .a .x,.l .b .a,.e .c .w,.W 8 .A (.p .o (.k 1 (.t .b)))] (.L .A (.t .c))) hn hi this (aM 8)) (by exact(ah [.m .a .x,.l .b .a] (.L (.p .o (.k 1 (.t .b))) .q)) hn hi)) [0,1,2,3,4] (.cons rfl (.cons rfl (ab rfl rfl rfl))) (by decide) vT rfl).cal) (.nil (.nil (.next (bj a (0+1*i)) ?_ ⟨.cons vS .nil,.same⟩ vT vT))))
  have:=hI.add O z1
  rw[ei,ln (by exact(ai [] (.M .o (.t .a)))) (by exact(ah [.m .a .x,.l .b .a] (.L (.t .b) .x)) hn hi) hk] at this
  refine aa (ei ..) ?_
  exact this
theorem lI(w:World):am w 646 "discard" 580:=⟨by k_is,by k_is,by k_is,by k_is⟩
theorem iU(w:World):am w 646 "add" 573:=⟨by k_is,by k_is,by k_is,by k_is⟩
theorem sp(w:World){cs:LI}(hU:Up cs)(hr:∀z∈cs,0<=z/\z<20){n:Nat}(hn:n<=20):az w 5 194 (b9 cs) [.ref 0,.int n] [] (ch (.val .none) (b9 (fE cs n))):=by
 refine' ao ["self","size"] ?ho ?hcd ?hb ?hx ?nd ?hl ?H ?c1 ?c2 ?c3 ?c4
 k_extra "cx"
 intro c
 refine .cons (.forRange (n:=n) (fun i (_:Unit)=>True) (fun i O=>⟨[("self",.ref 0)],b9 (fE cs i)⟩) () 3 (.range1 (.glob (bA w)) (.name vS) (by exact(ai [.m .a .x] (.m .a .q)) hn)) trivial ⟨.cons vS .nil,?_⟩ vT vT (fun c' i O hi O=>?_) fun O O=>.nil (.next _ ⟨rfl,rfl⟩ .same vT))
 ·refine aa (show fE cs ((0:Nat):Int)=cs from js hU hr) ?_;exact .same
 have ei:0+1*(i:Int)=i:=by exact(ai [] (.E (.p .o (.k 1 (.t .a))) (.t .a)))
 have tl:(fE cs i).length<=24:=ZW (db (bL _ _) fun z hz=>(bP.mp hz).1) (by decide)
 refine .cons (.ite (.cmp (.name vS) (.name vS) (.isin (.inst (i:=0) vS vS (pq w) (by k_is) (ae.ro (fx w (fE cs i) tl (bL _ _) (0+1*i)) [0,1,2] (ab rfl rfl rfl)).cal))) (fun hk=>?_) fun hk=>?_)
 ·rw[decide_eq_true_iff,ei] at hk
  refine .cons (.expr (.mcall (.name vS) vS vS rfl (lI w) (.cons (.name vS) .nil) (ae.det (l6 w (fE cs i) tl (bL _ _) (0+1*i) (by refine aa (ei ..) ?_;exact((mem_iff (bL _ _)).mp hk).1)) [0,1,2] (ab rfl rfl rfl) (by decide) vT rfl).cal) (.nil (.nil (.next () trivial ⟨.cons vS .nil,?_⟩ vT vT))))
  refine aa (ei ..) (aa (ll ((iG (by exact(ai [] (.M .o (.t .a)))) (by exact(ah [.m .a .x,.l .b .a] (.L (.t .b) .x)) hn hi)).mp hk) ..) ?_)
  exact .same
 ·rw[decide_eq_true_iff,ei] at hk
  refine .cons (.expr (.mcall (.name vS) vS vS rfl (iU w) (.cons (.name vS) .nil) (ae.det (jb w (fE cs i) tl (bL _ _) (0+1*i)) [0,1,2] (ab rfl rfl rfl) (by decide) vT rfl).cal) (.nil (.nil (.next () trivial ⟨.cons vS .nil,?_⟩ vT vT))))
  refine aa (ei ..) (aa (ln (by exact(ai [] (.M .o (.t .a)))) (by exact(ah [.m .a .x,.l .b .a] (.L (.t .b) .x)) hn hi) fun h=>hk ((iG (by exact(ai [] (.M .o (.t .a)))) (by exact(ah [.m .a .x,.l .b .a] (.L (.t .b) .x)) hn hi)).mpr h) ..) ?_)
  exact .same
example:True:=by w_top off;trivial
theorem n9{w:World}{lvl:Nat}{b it S:Addr}{l:LD}{D:DC}{own:AO}{pg:Gs}{c:Nat}(hi:aE w lvl b it D l own pg)(hne:∀q∈own,q.1≠S)(hl:l.length<=1000) :
  bI w (lvl+2) (fun A (Q:UQ) s=>∀R:Result->Shared->Prop,(∀s',Q () s'->R (.ok (.ret .none)) s')->codeAny (model PR w) A.in1 (.builtin "list.extend.loop" ⟨[.ref S,.ref it,.none],[]⟩) R s) ((S,listOf #[] c)::own) pg (fun n h=>n<=b/\DS D l h) (fun O O own' O=>∃vs c,own'=[(S,listOf vs.toArray c)]/\IntsAre vs (l.map (·.1))) :=
 fun o hold s Q hf A hpg ⟨hb,Z,hZ,hS⟩ k R hR=>eX l hi hf.un1 A.to1 hne hpg hb hS hZ hl fun vs c' hold' s' V A'' hI=>hR _ (k () _ [] hold' s' V.of1 A''.of1 ⟨vs,c',rfl,hI⟩)
theorem aT.andThen{w:World}{κ κ':CK}{c:Cx w κ}{c':Cx w κ'}{s1 s2:Shared}(h:aT c s1)(h0:c'.sj0=s1)(h':aT c' s2):aT c s2:=by
 subst h0
 exact⟨by have e:=h'.eq;rw[h.eq] at e;exact e,h.gx.trans h'.gx⟩
section
variable{w:World}{κ:CK}{lvl lv':Nat}{c:Cx w κ}{Γ:G}{σ:LN}{Ok:String->(List SO->Prop)->KL->Prop}
theorem ax.listI{i d:Nat}{C f:Addr}{as:LV}{K₀:OP}{zs:LI}{n:Int}(h1:Γ.o[i]?=some (.inst C d))(h2:Γ.o[d]?=some (.attrs as))(B:pJ w lvl (.ref 0) σ.length K₀ Ok)(M0:Meets Γ σ K₀)(hst:gJ Γ σ Ok zs)(hs:findIn (hd.heap_1 w.params) (.ref C) "__len__"=some (some (.ref f)))
  (hI:∀n₁ (c':Cx w { κ with lv:=lv',n:=n₁ }),ax c' Γ (.val (.builtin "len")) [.ref i] [] (.int n) Γ) (h0:0<=n) (hn:n<=1000) (hl:zs.length<=1000) (h0σ:σ[0]?=some i:=by exact vS) (nd:σ.Nodup:=by decide) (hσ:(σ.all fun i=>Nat.blt i Γ.o.length)=true:=by exact vT) (hlv:Nat.ble (lv'+3) κ.lv=true:=by exact vT) (hlv2:Nat.ble (lvl+2) lv'=true:=by exact vT) :
  ax c Γ (.val (.type "list")) [.ref i] [] (.ref Γ.o.length) (Γ.addO (.nums zs)):=fun ρ s Q E fv us ks S hfv hus hks hkv KK=>by
 obtain rfl:=hfv.valI
 obtain⟨_,_,rfl,q1,t⟩:=hus.consI
 obtain rfl:=t.nilI
 obtain rfl:ks=[]:=ZG.mp hks
 have hlv:=ZJ hlv
 have hlv2:=ZJ hlv2
 let c₁:Cx w { κ with lv:=lv' }:=c.dn c.o.dp (c.o.un+2) (Nat.le_add_right _ _) (by exact(ai [] (.m (.p .a (.n 2)) (.p .a (.n 60))))) hlv
 refine callType_codes (Q₁:=fun obj sj1=>obj=.ref s.heap.objs.size/\sj1={ s with heap:=s.heap.push { cls:=.type "list",data:=.seq #[] } }) F.called_list (F.typeCall_list_1 _) F.entry_list_init
  (code_list_new _ ⟨rfl,rfl⟩) fun obj sj1 hj1=>?_
 obtain⟨rfl,rfl⟩:=hj1
 have hS0:(s.heap.push { cls:=.type "list",data:=.seq #[] }).get? s.heap.objs.size=some (listOf #[] 0):=Zu _ rfl
 have S0:ad c₁ Γ ρ s:=S.dn
 obtain⟨S1,off⟩:=ad.freshs (X:=[(s.heap.objs.size,listOf #[] 0)]) (h':=s.heap.push { cls:=.type "list",data:=.seq #[] }) (tk:=s.toks) (S0.lp (hp:=ZN _) (h:=c₁.len) S0.pre) (fun q hq=>by refine aa (ZP.mp hq ..) ?_;exact⟨ZZ _,hS0⟩) fun b o e=>ZR _ e
 refine⟨⟨_,hS0,rfl⟩,F.args_list_init_2 _ _,?_⟩
 have rel1:aT c₁ { s with heap:=s.heap.push { cls:=.type "list",data:=.seq #[] } }:=S0.rel.heap _ s.toks
 have lS:∀q∈[(s.heap.objs.size,listOf #[] 0)],q.1=s.heap.objs.size:=fun q hq=>by exact aa (ZP.mp hq ..) rfl
 have hne0:∀a,ρ[i]?=some a->a≠s.heap.objs.size:=fun a ha e=>by
  obtain⟨a',o',h3,_,h4⟩:=S.slotAt h1
  rw[ha] at h3;obtain rfl:=ZK h3
  exact absurd (Zg h4) (by refine aa (e ..) ?_;exact Nat.lt_irrefl _)
 generalize s.heap.push { cls:=.type "list",data:=.seq #[] }=hp at *
 generalize s.heap.objs.size=L at *
 have offL:∀(c:Nat) (vs:Array Value),∀q∈[(L,listOf vs c)],q.1∉aZ c₁.o.fr/\∀z∈c₁.hold,q.1≠z.1:=fun c vs q hq=>by
  refine aa (ZP.mp hq ..) ?_
  exact off (L,listOf #[] 0) (.head _)
 show wpAny _ c₁.A (do let old <- Builtin.List.listItems (.ref L);Builtin.List.listUpdate (.ref L) (fun O=>#[]);letGo old.toList.reverse;Builtin.List.listExtendWith (.ref L) _ .none) _ _ _
 refine ZL ?_
 unfold Builtin.List.listItems
 refine ZL (wpAny_seqItems hS0 rfl (ZM ?_))
 show wpAny _ _ (updateSeq L (fun O=>#[]) >>= fun O=>letGo (#[]:Array Value).toList.reverse >>= fun O=>Builtin.List.listExtendWith (.ref L) _ .none) _ _ _
 refine ZL (wpAny_updateSeq hS0 rfl ?_)
 have hS2:=ZV (Obj.mapSeq (fun O=>(#[]:Array Value))) hS0 rfl
 have S2:=S1.reown (own':=[(L,Obj.mapSeq (fun O=>(#[]:Array Value)) (listOf #[] 0))]) (tk:=s.toks) (offL 0 #[]) (fun q hq=>⟨_,.head _,by exact aa (ZP.mp hq ..) rfl⟩) (h':=hp.update L (Obj.mapSeq (fun O=>(#[]:Array Value)))) (fun b o hb e=>(Zi _ _ (hb (L,listOf #[] 0) (.head _))).trans e) fun q hq=>by refine aa (ZP.mp hq ..) ?_;exact hS2
 refine ZL (wpAny_letGo ?_)
 have rel2:aT c₁ { s with heap:=hp.update L (Obj.mapSeq (fun O=>(#[]:Array Value))) }:=rel1.heap _ s.toks
 obtain⟨k2,hk2⟩:∃k,Obj.mapSeq (fun O=>(#[]:Array Value)) (listOf #[] 0)=listOf #[] k:=⟨_,rfl⟩
 rw[hk2] at hS2 S2
 clear hS0 S1 off lS rel1
 generalize hp.update L (Obj.mapSeq (fun O=>(#[]:Array Value)))=h2' at *
 obtain⟨_,rfl,ha⟩:=q1.refI
 rename_i a
 have inst:∀{κ':CK} {c':Cx w κ'} {ρ':LQ} {s':Shared},ad c' Γ ρ' s'->ρ'[i]?=some a->∃ox od,InstAt s'.heap a ox C od:=fun S' ha'=>by
  obtain⟨m,os,H,F,N,hm,LY,hs'⟩:=S'
  obtain⟨a',dx,ds,n',ha1,_,hE,_,I⟩:=bf N LY h1 h2
  rw[ha'] at ha1;obtain rfl:=ZK ha1
  exact⟨_,_,I⟩
 obtain⟨ρc,n2,p2,ndc⟩:=ed S2 hσ
 obtain⟨ox,od,I⟩:=inst S2 ha
 unfold Builtin.List.listExtendWith
 refine ZL (I.type.here ?_)
 have h1':Builtin.List.listSameRef (.ref L) (.ref a)=false:=by simp[Builtin.List.listSameRef,Ne.symm (hne0 a ha)]
 refine aa (h1' ..) (aa (show (Value.ref C == Value.type "list")=false from rfl) (aa (show (Value.ref C == Value.type "tuple")=false from rfl) ?_))
 refine aj Bool.false_ne_true ?_
 refine ZL (S2.icon (c:=c₁.lp _ _ _ _ _) (B ρc (.ref a) n2 (ndc nd) (.ref ((p2 0 i h0σ).trans ha))) M0 n2 p2 (by show lvl<=lv';exact(ah [.m (.p .a (.n 2)) .b] (.m .a .b)) hlv2) (fun it s3 IH=>?_) _)
 cases IH with|mk T b K l own pg ρd hOk hself hit hb n3 p3 hsr hg hg2 ho S3 =>
 obtain⟨ox3,od3,I3⟩:=inst S3 ha
 refine ZL (wpAny_holding ?_)
 unfold Builtin.List.listLengthHint
 refine ZL (ZL (I3.type.here ((looks_findIn (bO S3) hs).here ?_)))
 refine wpAny_ite_split (fun h=>absurd h Bool.false_ne_true) fun O=>?_
 refine wpAny_ite_split (fun O=>?_) fun h=>absurd vT h
 refine ZL (wpAny_rule (ZL (wpAny_attempt ?_)))
 refine hI _ (((c₁.lp _ _ _ _ _).lp _ _ _ own s3):Cx w { κ with lv:=lv',n:=κ.n }) ρ s3 _ _ (.builtin "len") [.ref a] [] S3 (.val _) (.cons (.ref ha) .nil) rfl .nil fun u ρ' s4 hp4 hu S4=>?_
 cases hu with|int n tn =>
 refine ZL (wpAny_of_eq (a:=some n) (by rfl) ?_)
 dsimp only
 refine aj (show ¬(Builtin.List.listTooLong n.toNat=true) from by simp[Builtin.List.listTooLong,sizeLine];exact Int.le_trans ‹_› (by decide)) ?_
 refine ZM ?_
 have p4:∀j k:Nat,σ[j]?=some k->ρd[j]?=ρ'[k]?:=fun j k e=>by
  have h9:k<ρ.length:=by refine aa (S.len ..) ?_;simpa [Nat.blt_eq] using Zp.mp hσ k (ZQ e)
  refine aa (p3 j k e ..) (aa (ZA h9 ..) ?_)
  exact(ak hp4 (ZA h9)).symm
 have hpg:∀q∈pg,s4.gens[q.1]?=some q.2:=fun q hq=>S4.rel.gx.old _ _ (fun O h=>nomatch h) (hg q hq)
 have Sj6:=S4.merge.swap
 have own4:∀q∈own,s4.heap.get? q.1=some q.2:=S4.ownAt fun q hq=>(ho q hq).1
 have hL4:s4.heap.get? L=some (listOf #[] k2):=Sj6.ownAt (fun q hq=>(ZT.mp hq).elim (fun e=>by refine aa (e ..) ?_;exact(offL k2 #[] _ (.head _)).1) fun hq=>(ho q hq).1) _ (.head _)
 have hneL:∀q∈own,q.1≠L:=fun q hq=>(ho q hq).2 (L,listOf #[] k2) (.head _)
 have rel4:aT c s4:=((S.rel.heap h2' s.toks).andThen rfl hsr).andThen rfl S4.rel
 obtain⟨m1,m2,hz⟩:=hst T K l hOk
 obtain⟨f1,f2⟩:=dF (w:=w) (ρ:=ρd) hz
 have go:∀k' h'',(∀b o,b≠L->s4.heap.get? b=some o->h''.get? b=some o)->h''.get? L=some (listOf #[] k')->codeAny (model PR w) c.A.in1 (.builtin "list.extend.loop" ⟨[.ref L,.ref it,.none],[]⟩) (wants (fun r sj2=>r=.none/\Q (.ref L) sj2) E) { s4 with heap:=h'' }:=fun k' h'' hk hL=>by
  have off8:∀k:Nat,∀q∈(L,listOf #[] k)::own,q.1∉aZ c.o.fr/\∀z∈c.hold,q.1≠z.1:=fun k q hq=>by
   rcases ZT.mp hq with rfl|hq
   ·exact offL k #[] _ (.head _)
   ·exact⟨(ho q hq).1,fun z hz=>(ho q hq).2 z (.tail _ hz)⟩
  have Sj7:=Sj6.reown (own':=(L,listOf #[] k')::own) (h':=h'') (tk:=s4.toks) (off8 k2) (fun q hq=>(ZT.mp hq).elim (fun e=>⟨_,.head _,by exact aa (e ..) rfl⟩) fun hq=>⟨q,.tail _ hq,rfl⟩) (fun b o hb e=>hk b o (fun e2=>hb (L,listOf #[] k2) (.head _) e2.symm) e) fun q hq=>(ZT.mp hq).elim (fun e=>by refine aa (e ..) ?_;exact hL) fun hq=>hk _ _ (hneL q hq) (own4 q hq)
  have Sj8:ad (c.lp c.ρ0 (ZN _) c.len ((L,listOf #[] k')::own) { s4 with heap:=h'' }) Γ ρ' { s4 with heap:=h'' }:=ad.up (c:=c.lp c.ρ0 (ZN _) c.len ((L,listOf #[] k')::own) { s4 with heap:=h'' }) (dp:=c.o.dp) (un:=c.o.un+2) (lv':=lv') (h1:=Nat.le_add_right _ _) (h2:=Nat.add_le_add_left (by decide) _) (hlv:=hlv) Sj7
  refine Sj8.act (off8 k') (n9 hit hneL (by exact(ah [.m .a .q,.e .b .a] (.m .b .q)) hl f2)) (fun os hold h1 h2 h3 h4=>⟨ZW S.above hb,ru (m1.dOf n3 p4 h1 h2 h3 h4) fun e he=>(m2 e he).dOf n3 p4 h1 h2 h3 h4⟩) (by exact(av [.m (.p .a .w) .b,.m (.p .c (.n 2)) .a] (.m (.p .c (.n 2)) .b)) hlv hlv2) hpg (Q:=fun O s'=>wants (fun r sj2=>r=.none/\Q (.ref L) sj2) E (.ok (.ret .none)) s') (fun O own' pg' s6 V hP ho' S'=>?_) _ fun s' h=>h
  obtain⟨vs,k6,rfl,hI'⟩:=hP
  rw[f1] at hI'
  have S9:=S'.keep ((rel4.heap h'' s4.toks).step V fun q hq=>ZW S.rel.gx.size (hg2 q hq)) (ho' _ (.head _)) (.nums hI')
  exact⟨rfl,KK _ _ s6 (hp4.trans (ZO _ _)) (.ref (by refine aA (S'.len ..) ?_;simp)) S9⟩
 split
 ·refine ZL (wpAny_rule (ZL ?_))
  show wpAny _ _ (updateSeq L (·.push .none) >>= fun O=>updateSeq L (·.pop)) _ _ _
  refine ZL (wpAny_updateSeq hL4 rfl ?_)
  have hS4:=ZV (Obj.mapSeq (·.push Value.none)) hL4 rfl
  refine wpAny_updateSeq (hz:=by seq_fits) hS4 rfl ?_
  have hS5:=ZV (Obj.mapSeq (·.pop)) hS4 rfl
  exact ZM ⟨plainId_quiet F.plain_extend_loop _,go _ _ (fun b o hb e=>(Zi _ _ (Ne.symm hb)).trans ((Zi _ _ (Ne.symm hb)).trans e)) hS5⟩
 ·exact ZM ⟨plainId_quiet F.plain_extend_loop _,go k2 s4.heap (fun O O O e=>e) hL4⟩
end
example:True:=by w_top off;trivial
inductive NV:SV->Prop
|int (z:Int):NV (.int z)
|none:NV (.val .none)
inductive pQ(Γ:G)(σ:LN):List (Str×SV)->Prop
|nil:pQ Γ σ []
|cons {x:Str} {v:SV} {l:LV} (h:Γ.m.lookup x=some (v.ren σ)) (t:pQ Γ σ l):pQ Γ σ ((x,v)::l)
theorem pQ.get{Γ:G}{σ:LN}{l:LV}(h:pQ Γ σ l){x:Str}{v:SV}(e:l.lookup x=some v):Γ.m.lookup x=some (v.ren σ):=by
 induction h with
|nil=>exact nomatch e
|@cons y v' l h _ ih =>
  rw[List.lookup_cons] at e
  cases hb:x == y with
 |true=>rw[hb] at e;obtain rfl:=ZK e;refine aa (eq_of_beq hb ..) ?_;exact h
 |false=>rw[hb] at e;exact ih e
section
variable{w:World}{κ:CK}{c:Cx w κ}{Γ Γ₁ Γ2 Γ':G}{ρ:LQ}{s:Shared}{P:SF->G->Prop}
theorem eO.inL{i:Nat}{cs:LI}{z:Int}(h:Γ.o[i]?=some (.nums cs)):eO c Γ .In (.int z) (.ref i) (z∈cs):=fun ρ s Q E x y S hx hy k=>by
 obtain⟨_,rfl⟩:=hx.intI
 obtain⟨a,o,ha,hi,hg⟩:=S.slotAt h
 obtain rfl:=hy.refAt ha
 obtain⟨_,_,rfl,hI⟩:=hi.numsI
 exact in_list_ints (aK hg) hI (k _ ρ s (ZN _) (by simp) S)
theorem eO.ninL{i:Nat}{cs:LI}{z:Int}(h:Γ.o[i]?=some (.nums cs)):eO c Γ .NotIn (.int z) (.ref i) (z∉cs):=fun ρ s Q E x y S hx hy k=>by
 obtain⟨_,rfl⟩:=hx.intI
 obtain⟨a,o,ha,hi,hg⟩:=S.slotAt h
 obtain rfl:=hy.refAt ha
 obtain⟨_,_,rfl,hI⟩:=hi.numsI
 exact notin_list_ints (aK hg) hI (k _ ρ s (ZN _) (by simp only[Bool.not_eq_true',List.any_eq_false,beq_iff_eq];exact⟨fun h h2=>h z h2 rfl,fun h y hy e=>h (e▸hy)⟩) S)
theorem eO.neLL{i j:Nat}{as bs:LI}(h1:Γ.o[i]?=some (.nums as))(h2:Γ.o[j]?=some (.nums bs)):eO c Γ .NotEq (.ref i) (.ref j) (as≠bs):=fun ρ s Q E x y S hx hy k=>by
 obtain⟨a,o,ha,hi,hg⟩:=S.slotAt h1
 obtain⟨b,o2,hb,hj,hg2⟩:=S.slotAt h2
 replace hx:=hx.refI;obtain⟨_,rfl,hx⟩:=hx
 replace hy:=hy.refI;obtain⟨_,rfl,hy⟩:=hy
 rw[ha] at hx;obtain rfl:=ZK hx
 rw[hb] at hy;obtain rfl:=ZK hy
 obtain⟨_,_,rfl,hI⟩:=hi.numsI
 obtain⟨_,_,rfl,hJ⟩:=hj.numsI
 exact ke_ne_ints (aK hg) (aK hg2) hI hJ (by show c.o.un+64<9900;have:=c.fits.u;exact(ah [.m (.p .a (.k 50 .b)) .G] (.l (.p .a (.n 64)) (.n 9900))) this) (k _ ρ s (ZN _) (by simp) S)
theorem eO.neV{a b:SV}(ha:NV a)(hb:NV b):eO c Γ .NotEq a b (a≠b):=fun ρ s Q E x y S hx hy k=>by
 show wpAny _ _ (richCompare .NotEq x y) _ _ _
 cases ha with
|int z =>
  obtain⟨_,rfl⟩:=hx.intI
  cases hb with
 |int z'=>obtain⟨_,rfl⟩:=hy.intI;exact PySem.SeqAt.RcNeAt.int_int _ _ _ _ _ w E Q (k _ ρ s (ZN _) (by simp) S)
 |none=>obtain rfl:=hy.valI;exact PySem.SeqAt.RcNeAt.int_none _ _ _ w E Q (k _ ρ s (ZN _) (by simp) S)
|none =>
  obtain rfl:=hx.valI
  cases hb with
 |int z'=>obtain⟨_,rfl⟩:=hy.intI;exact PySem.SeqAt.RcNeAt.none_int _ _ _ w E Q (k _ ρ s (ZN _) (by simp) S)
 |none=>obtain rfl:=hy.valI;exact PySem.SeqAt.RcNeAt.none_none _ w E Q (k _ ρ s (ZN _) (by simp) S)
theorem eO.eqB{a b:Bool}:eO c Γ .Eq (.val (.bool a)) (.val (.bool b)) (a=b):=fun ρ s Q E x y S hx hy k=>by
 show wpAny _ _ (richCompare .Eq x y) _ _ _
 obtain rfl:=hx.valI;obtain rfl:=hy.valI
 exact PySem.SeqAt.RcAt.bool_bool a b _ w E Q (k _ ρ s (ZN _) (by exact decide_eq_true_iff) S)
theorem eO.neB{a b:Bool}:eO c Γ .NotEq (.val (.bool a)) (.val (.bool b)) (a≠b):=fun ρ s Q E x y S hx hy k=>by
 show wpAny _ _ (richCompare .NotEq x y) _ _ _
 obtain rfl:=hx.valI;obtain rfl:=hy.valI
 exact PySem.SeqAt.RcNeAt.bool_bool a b _ w E Q (k _ ρ s (ZN _) (by simp) S)
theorem eO.int{op:CmpOp}{a b:Int}{φ:Prop}(h:d4 op a b φ):eO c Γ op (.int a) (.int b) φ:=fun ρ s Q E x y S hx hy k=>by
 obtain⟨_,rfl⟩:=hx.intI;obtain⟨_,rfl⟩:=hy.intI
 exact h w _ _ _ _ _ _ fun r hr=>k r ρ s (ZN _) hr S
theorem cb.cmp2{l m r:Expr}{op1 op2:CmpOp}{pos:Pos}{a b d:SV}{φ ψ:Prop}(hl:Ev c Γ l a Γ)(hm:Ev c Γ m b Γ)(hr:Ev c Γ r d Γ)(h1:eO c Γ op1 a b φ)(h2:eO c Γ op2 b d ψ)
  (hk:∀env,isTrue (.Compare l [op1,op2] [m,r] pos) env (eval (.Compare l [op1,op2] [m,r] pos) env)=(do let v <- eval l env;testChain pos v [op1,op2] [eval m env,eval r env]):=by intros;with_unfolding_all rfl):cb c Γ (.Compare l [op1,op2] [m,r] pos) (φ/\ψ) Γ:=fun ρ s Q E S K=>by
 refine aa (hk ..) ?_
 refine ZL (hl ρ s _ E S fun x ρ1 sj1 hp1 q1 Sj1=>?_)
 show wpAny _ _ (do let rv <- holding [x] (eval m c.env);standAt pos;let v <- holding [x,rv] (compareOp op1 x rv);release [x,rv] [v];if <- holding [v,rv] (truthy v) then testChain pos rv [op2] [eval r c.env] else pure false) _ _ _
 refine ZL (wpAny_holding (hm ρ1 sj1 _ E Sj1 fun y ρ₂ sj2 hp2 q2 Sj2=>?_))
 refine ZL (wpAny_standAt (ZL (wpAny_holding (h1 ρ₂ sj2 _ E x y Sj2 (q1.up hp2) q2 fun b1 ρ3 sj3 hp3 hb1 S3=>?_))))
 refine ZL (wpAny_release (ZL (wpAny_holding (wpAny_truthy_bool ?_))))
 cases b1 with
|false=>exact ZM (K false ρ3 sj3 ((hp1.trans hp2).trans hp3) (by simp[<- hb1]) S3)
|true =>
  show wpAny _ _ (do let rv <- holding [y] (eval r c.env);standAt pos;let v <- operate [y,rv] (compareOp op2 y rv);holding [v] (truthy v)) _ _ _
  refine ZL (wpAny_holding (hr ρ3 sj3 _ E S3 fun z ρ4 sj4 hp4 q4 S4=>?_))
  refine ZL (wpAny_standAt (ZL (wpAny_operateT (h2 ρ4 sj4 _ E y z S4 ((q2.up hp3).up hp4) q4 fun b2 ρ5 sj5 hp5 hb2 Sj5=>wpAny_holding (wpAny_truthy_bool ?_)))))
  exact K b2 ρ5 sj5 ((((hp1.trans hp2).trans hp3).trans hp4).trans hp5) (by rw[hb2];simp[<- hb1]) Sj5
theorem Ev.and3{e1 e2 e3:Expr}{pos:Pos}{a b d:Bool}(h1:Ev c Γ e1 (.val (.bool a)) Γ)(h2:Ev c Γ e2 (.val (.bool b)) Γ)(h3:Ev c Γ e3 (.val (.bool d)) Γ):Ev c Γ (.BoolOp .And [e1,e2,e3] pos) (.val (.bool (a&&(b&&d)))) Γ:=fun ρ s Q E S K=>by
 refine aa (arm_eval_BoolOp ..) ?_
 show wpAny _ _ (do let v <- eval e1 c.env;standAt pos;let t <- holding [v] (truthy v);match BoolOp.And,t with|.And,false|.Or,true=>pure v|_,_=>boolOp pos .And [eval e2 c.env,eval e3 c.env]) _ _ _
 refine ZL (h1 ρ s _ E S fun u ρ1 sj1 hp1 q1 Sj1=>?_)
 obtain rfl:=q1.valI
 refine ZL (wpAny_standAt (ZL (wpAny_holding (wpAny_truthy_bool ?_))))
 cases a with
|false=>exact ZM (K _ ρ1 sj1 hp1 (.val _) Sj1)
|true =>
  show wpAny _ _ (do let v <- eval e2 c.env;standAt pos;let t <- holding [v] (truthy v);match BoolOp.And,t with|.And,false|.Or,true=>pure v|_,_=>boolOp pos .And [eval e3 c.env]) _ _ _
  refine ZL (h2 ρ1 sj1 _ E Sj1 fun u ρ₂ sj2 hp2 q2 Sj2=>?_)
  obtain rfl:=q2.valI
  refine ZL (wpAny_standAt (ZL (wpAny_holding (wpAny_truthy_bool ?_))))
  cases b with
 |false=>exact ZM (K _ ρ₂ sj2 (hp1.trans hp2) (.val _) Sj2)
 |true=>exact h3 ρ₂ sj2 _ E Sj2 fun u ρ3 sj3 hp3 q3 S3=>K u ρ3 sj3 ((hp1.trans hp2).trans hp3) q3 S3
theorem ad.sel(S:ad c Γ ρ s)(σ:LN)(hσ:Fits Γ σ σ Γ₁.o)(hm:pQ Γ σ Γ₁.m)(hf:Γ₁.fit=true)(nd:σ.Nodup)(hpre:∀i,i<κ.n->σ[i]?=some i)(hnf:κ.nf=0):∃ρ',(∀j i:Nat,σ[j]?=some i->ρ'[j]?=ρ[i]?)/\ad c Γ₁ ρ' s:=by
 obtain⟨m,os,H,F,N,hN,LY,hs⟩:=S
 obtain⟨f1,f2⟩:=ZU.mp hf
 obtain⟨hlen,hget⟩:=hσ.get
 have hl:=LY.hl
 have hg:=LY.hg
 have hlt:∀i∈σ,i<ρ.length:=fun i hi=>by
  obtain⟨j,hj,e⟩:=ZF.mp hi
  have h1:σ[j]?=some i:=by exact aa (ZA hj ..) (aa (e ..) vS)
  have h2:=hget j i _ h1 (ZA (h:=hlen▸hj))
  refine aa (hl ..) (aA (hg ..) ?_);exact(ZB.mp h2).1
 obtain⟨ρc,n2,p2⟩:=qf (os:=ρ) (σ:=σ) hlt
 obtain⟨osc,n1,p1,hob,hsub⟩:=hσ.cut LY f2 n2 p2
 refine⟨ρc,p2,.mk m osc H F (fun q hq=>N q ((ZS.mp hq).elim (fun h=>ZD _ (hsub q h)) (ZC _))) (fun x v e=>?_) ⟨by exact Eq.trans ‹_› (Eq.symm ‹_›),by exact Eq.trans (Eq.symm ‹_›) (Eq.symm ‹_›),hob,gE LY.nd nd hlt n2 p2,?_,fun q hq hq2=>?_,LY.kp,fun i O O h=>by rw[hnf] at h;exact absurd h (Nat.not_lt_zero _)⟩ hs⟩
 ·obtain⟨u,h1,h2⟩:=hN x _ (hm.get e)
  exact⟨u,h1,h2.pick p2 (by refine aa (hlen ..) ?_;exact fU f1 e)⟩
 ·refine List.prefix_iff_eq_take.mpr (List.ext_getElem? fun i=>?_)
  refine aa (Zy ..) (aa (c.len ..) ?_)
  split
  ·rename_i hi
   obtain⟨t,ht⟩:=LY.pre
   rw[p2 i i (hpre i hi),<- ht,ZH (by rw[c.len];exact hi)]
  ·rename_i hi
   rw[Zh (by rw[c.len];exact(ah [.x (.l .a .b)] (.m .b .a)) hi)]
 ·rw[hnf,List.drop_zero] at hq2
  obtain⟨j,hj,e⟩:=ZF.mp hq2
  have h1:σ[j]?=some (σ[j]'(by exact Za ‹_› ‹_›)):=ZA _
  have h2:=p2 j _ h1
  rw[ZA hj,e] at h2
  exact LY.ap q hq (by refine aa (hnf ..) (aa (List.drop_zero ..) ?_);exact ZQ h2.symm)
theorem Ex.sel{ss:LS}(σ:LN)(hσ:Fits Γ σ σ Γ₁.o)(hm:pQ Γ σ Γ₁.m)(k:Ex c Γ₁ ss P)(hf:Γ₁.fit=true:=by exact vT)(nd:σ.Nodup:=by decide)(hpre:∀i,i<κ.n->σ[i]?=some i:=by decide)(hnf:κ.nf=0:=by rfl):Ex c Γ ss P:=fun ρ s Q E hE S K=>by
 obtain⟨ρ',_,S'⟩:=S.sel σ hσ hm hf nd hpre hnf
 exact k ρ' s Q E hE S' K
theorem bJ.mcallT{o e:Expr}{y:Str}{ap pos pos2:Pos}{es:List Expr}{i d:Nat}{C f:Addr}{as:LV}{vs args:LX}{lvl:Nat}{Γo:LO}{T:TQ}(h:Ev c Γ o (.ref i) Γ₁)(h1:Γ₁.o[i]?=some (.inst C d))(h2:Γ₁.o[d]?=some (.attrs as))(hv:as.lookup y=none)
  (hM:am w C y f) (ha:jn c Γ₁ (e::es) vs Γ2) (D:az w lvl f Γo args [] T) (σ:LN) (hσ:Fits Γ2 σ σ Γo) (hargs:.ref i::vs=args.map (·.ren σ)) (k:∀v l,T v l->P .next (Γ2.upd σ l)) (hf:(Γo.all (·.fit Γo.length)&&args.all (·.fit Γo.length)&&true)=true) (nd:σ.Nodup:=by decide) (hlv:Nat.ble lvl κ.lv=true:=by exact vT) (hz:(σ.all fun i=>Nat.ble κ.nf i)=true:=by exact vT)
  (he:∀env,starEach (e::es) env=(false,eval e env)::starEach es env:=by intros;rfl) (hp:∀env,(backTo pos (starEach es env)).any (·.1)=false:=by intros;rfl) (he0:bF o y ap (e::es) pos:=by intro;rfl) (hs:∀env,swapsWith (.Call (.Attribute o y ap) (e::es) [] pos) none pos2.line env=pure false:=by intros;exact vP):bJ c Γ (.Expr (.Call (.Attribute o y ap) (e::es) [] pos) pos2) P:=fun ρ s Q E hE S KK =>
 wpAny_Expr_any (MethodCall_ (he:=he0 _) (h ρ s _ E S fun u ρ1 sj1 hp1 q1 Sj1=>by
  have S1':=Sj1
  obtain⟨m,os,H,F,N,hm,LY,hs⟩:=Sj1
  obtain⟨a,dx,ds,n,ha1,_,hE,_,I⟩:=bf N LY h1 h2
  obtain rfl:=q1.refAt ha1
  refine method_inst F c.o.X I hM.g hM.fd hM.i (cf hE hv) ?_
  refine callWith_K (bO S1') hM.k (ha pos ρ1 sj1 _ E S1' fun us ρ₂ sj2 hp2 q2 Sj2=>⟨bO Sj2,?_⟩) (he _) (hp _)
  exact wpAny_call (ae.of D σ hσ nd hf hlv hz _ Sj2 (hargs▸.cons (.ref (ak hp2 ha1)) q2) ⟨rfl,.nil⟩ fun v l u ρ3 sj3 hT O hp3 hv' S3=>KK _ _ ρ3 _ sj3 (k v l hT) .next S3))) c.quiet (hs _)
end
example:True:=by w_top off;trivial
theorem io(w:World):nsIn (hd.heap_1 w.params) mainGlobals "_law_spread"=some (some (.ref 723)):=by k_is
theorem ik(w:World):keepIn (hd.heap_1 w.params) (.ref 723)=true:=by k_is
theorem boot_range:bootBuiltins (Str.ofString "range")=some (.type "range"):=by decide +kernel
noncomputable def pO(z:Int):Int:=if z<4 then z else z+12
theorem j3(w:World)(z:Int):da w 1 723 [] [.int z] [] (.int (pO z)):=by
 refine' aU ["one"] ?ho ?hcd ?hb ?hx ?nd ?hl ?H ?c1 ?c2 ?c3 ?c4
 k_extra "cx"
 intro c
 refine .cons (.ret (Γ₁:=⟨[("one",.int z)],[]⟩) (.ifexp (.icmp (.name vS) .intE .lt) (fun h=>?_) fun h=>?_) (.ret rfl vT))
 ·rw[pO,if_pos h];exact .name vS
 ·rw[pO,if_neg h];exact .iop (.name vS) .intE .add
section
variable{w:World}{κ:CK}{c:Cx w κ}{Γ Γ₁:G}{lvl:Nat}{σ:LN}{Ok Ok':String->(List SO->Prop)->KL->Prop}
theorem bH.imp{e:Expr}(B:bH c Γ e lvl σ Ok Γ₁)(h:∀T K l,Ok T K l->Ok' T K l):bH c Γ e lvl σ Ok' Γ₁:=fun ρ s Q E S K=>B ρ s Q E S fun it ρ' s' hp IH=>K it ρ' s' hp (by
 cases IH with|mk T b K l own pg ρc hOk hself hi hb n2 p2 hs hg hg2 ho S'=>exact .mk T b K l own pg ρc (h T K l hOk) hself hi hb n2 p2 hs hg hg2 ho S')
theorem bH.rng{e:Expr}{a:Int}{n:Nat}(B:m8 c Γ e a 1 n Γ₁)(τ:LN)(X:LO)(hσ:(τ.all fun i=>Nat.blt i Γ₁.o.length)=true):bH c Γ e 0 τ (pI X (·=cw 1 n a)) Γ₁ :=
 bH.widen (σ:=[]) (Γo:=[]) ((bH.ofR B).imp fun T K l h=>by
  obtain⟨rfl,rfl⟩:=h
  exact⟨by show List.map _ _=_;refine aa (List.map_map ..) ?_;exact List.map_id' _,trivial,fun e he=>by obtain⟨_,_,rfl⟩:=Zc.mp he;trivial⟩) τ X rfl vT hσ
theorem cB{scope:Scope}{x:Str}{i j:Nat}{σ:LN}(hc:∀a,c.cl.lookup x=some a->eN c.cl scope.names [] [(x,a)])(h:κ.cm.lookup x=some j)(hσ:σ[i]?=some j) :
  ∃cl,closureFor scope c.env=pure cl/\∀y k,([(x,i)]:List (Str×Nat)).lookup y=some k->∃j,κ.cm.lookup y=some j/\σ[k]?=some j/\cl.lookup y=c.cl.lookup y:=by
 obtain⟨a,_,ha⟩:=c.hcl x j h
 refine⟨[(x,a)],jg (hc a ha),fun y n e=>?_⟩
 rw[List.lookup_cons] at e
 cases hb:y == x with
|false=>rw[hb] at e;exact nomatch e
|true =>
  rw[hb] at e;obtain rfl:=ZK e
  refine aa (eq_of_beq hb ..) ?_
  exact⟨j,h,hσ,by exact aa (ha ..) (aa (List.lookup_cons ..) (aa (show (x == x)=true from BEq.rfl) vS))⟩
theorem q8{scope:Scope}{x y:Str}{i i' j j':Nat}{σ:LN}(hxy:x≠y)(hc:∀a b,c.cl.lookup x=some a->c.cl.lookup y=some b->eN c.cl scope.names [] [(y,b),(x,a)])(h:κ.cm.lookup x=some j)(h':κ.cm.lookup y=some j')(hσ:σ[i]?=some j)(hσ':σ[i']?=some j') :
  ∃cl,closureFor scope c.env=pure cl/\∀z k,([(x,i),(y,i')]:List (Str×Nat)).lookup z=some k->∃j,κ.cm.lookup z=some j/\σ[k]?=some j/\cl.lookup z=c.cl.lookup z:=by
 obtain⟨a,_,ha⟩:=c.hcl x j h
 obtain⟨b,_,hb⟩:=c.hcl y j' h'
 refine⟨[(y,b),(x,a)],jg (hc a b ha hb),fun z n e=>?_⟩
 rw[List.lookup_cons] at e
 cases hz:z == x with
|true =>
  rw[hz] at e;obtain rfl:=ZK e
  have e2:=eq_of_beq hz
  refine aa (e2 ..) ?_
  exact⟨j,h,hσ,by exact aa (ha ..) (aa (List.lookup_cons ..) (aa (beq_eq_false_iff_ne.mpr hxy ..) (aa (List.lookup_cons ..) (aa (show (x == x)=true from BEq.rfl) vS))))⟩
|false =>
  rw[hz] at e
  dsimp only at e
  rw[List.lookup_cons] at e
  cases hz2:z == y with
 |false=>rw[hz2] at e;exact nomatch e
 |true =>
   rw[hz2] at e;obtain rfl:=ZK e
   refine aa (eq_of_beq hz2 ..) ?_
   exact⟨j',h',hσ',by exact aa (hb ..) (aa (List.lookup_cons ..) (aa (show (y == y)=true from BEq.rfl) vS))⟩
end
noncomputable def dR(z:Int):Int:=(z*93+85).fmod 256
noncomputable def ri(z one:Int):Bool:=decide (((dR z).fdiv (2^one.toNat)).fmod 2=1)
noncomputable def fq(z:Int):List Int:=((cw 1 8 0).filter (ri z)).map pO
theorem sm(w:World)(z:Int):az w 5 728 [] [.int z] [] (ch (.ref 1) [.cell (.int (dR z)),.nums (fq z)]):=by
 refine' ec (fa:=[.int z]) (lm:=[("more",.int z)]) (cso:=[bN]) (cm:=[("word",0)]) ["more"] ?ho ?hcd ?hb ?hkind ?hnd ?hcm ?hM ?hC ?H ?c1 ?c2 ?c3
 k_extra "cxc"
 case hb =>
  intro ρ s us ks X hu hks
  obtain rfl:ks=[]:=ZG.mp hks.1
  refine⟨us,hu,?_⟩
  obtain⟨_,_,rfl,h2,t⟩:=hu.consI
  obtain rfl:=t.nilI
  exact BindsTo.of_eq rfl
 case hM =>
  intro ρ us hu
  obtain⟨_,_,rfl,h2,t⟩:=hu.consI
  obtain rfl:=t.nilI
  exact .cons vS h2 .nil
 case hC =>
  intro ρ us hu
  obtain⟨_,_,rfl,h2,t⟩:=hu.consI
  obtain rfl:=t.nilI
  exact .cons (fun o h=>.obj h) .nil
 intro c hc
 refine .cons (.assignC (i:=0) (.iop (.iop (.iop (.name vS) .intE (.mul (IntMulOk.of_right (by decide)))) .intE .add) .intE (.mod (by decide))) vS fg ?_)
 have f1:Fits ⟨[("more",.int z)],[.cell (.int (dR z))]⟩ [0] [0] [.cell (.int (dR z))]:=.cons vS .nil
 exact .cons (.ret (.comp false (lv':=3) (σ:=[0]) (Γo:=[.cell (.int (dR z))]) (zs:=cw 1 8 0) (zp:=(·=cw 1 8 0)) (p:=ri z) (f:=pO) (so:=.nums (fq z)) (cm:=[("word",0)]) (.rng (.range1 (n:=8) (.bi (by k_is) boot_range) .intE (by decide)) [0] [.cell (.int (dR z))] vT) f1 vT dh
  (fun ys e=>by subst e;exact⟨fun O h=>h,by decide,fun oD ρ hA=>eJ hA⟩)
  ⟨fun c' y hy=>.one ((cb.icmp (.iop (.iop (.cell (i:=0) rfl) (.name rfl) (.shr ((aV 8 0 y).mp hy).1)) .intE (.mod (by decide))) .intE .eq).iff decide_eq_true_iff.symm),fun c' y hy O=>.call (.glob (io w)) (ik w) (.cons (.name vS) .nil) (ae.ro (j3 w y) [] .nil).cal⟩
  (cB (x:="word") (i:=0) (j:=0) (fun a ha=>⟨a,ha,rfl⟩) vS vS) (by decide) vT rfl (by decide) (by decide) vS (by decide) (Nat.le_succ 3) (fun O=>rfl)) (.ret _ ⟨rfl,rfl⟩ .same vT))
example:True:=by w_top off;trivial
noncomputable abbrev dd(i:Nat):SO:=.tab i 363 ⟨203,31,203,61⟩
theorem bV(w:World):keepIn (hd.heap_1 w.params) (.ref 735)=true:=by k_is
theorem boot_set:bootBuiltins (Str.ofString "set")=some (.type "set"):=by decide +kernel
section
variable(w:World)
theorem j8(fs:LI)(hl:fs.length<=20)(hz:∀z∈fs,0<=z/\z<20)(M:Int)(hM:fs≠[]->M∈fs/\∀z∈fs,z<=M)(hM0:fs=[]->M=0)(k:Nat)(hk:(M+8)/8=(k:Int)):az w 12 735 [.nums fs,dd 1] [.int 0,.ref 0] []
  (ch (.ref 3) [.nums fs,dd 1,.attrs [("bits",.ref 4)],.inst 514 2,.nums (fs.foldl aP (List.replicate k 0))]):=by
 refine' ao ["form","few"] ?ho ?hcd ?hb ?hx ?nd ?hl ?H ?c1 ?c2 ?c3 ?c4
 k_extra "cx"
 intro c
 refine .cons (.ite (.icmp (.name vS) .intE .eq) (fun O=>?_) fun h=>absurd rfl h)
 refine .cons (.ret (Γ₁:=⟨[("form",.int 0),("few",.ref 0)],[.nums fs,dd 1,.attrs [("bits",.ref 4)],.inst 514 2,.nums (fs.foldl aP (List.replicate k 0))]⟩) (v:=.ref 3) (.ifexp (.icmp (.len (.name vS) vS (by exact ZX ‹_› (by decide))) .intE .gt) (fun h=>?_) fun h=>?_) (.ret _ ⟨rfl,rfl⟩ .same vT))
 ·obtain⟨m1,m2⟩:=hM fun e=>by rw[e] at h;exact absurd h (by decide)
  exact .call (.glob (bg w)) (gu w) (.cons (.name vS) .nil) (ax.new (lv':=8) (gj w) (gw w) (by k_is) fun c'=>ae.det (ka w fs hl hz M m1 m2 k hk) [3,2,1,0] (.cons vS (ab vS vS vS)) (by decide) vT vT)
 ·obtain rfl:fs=[]:=List.eq_nil_of_length_eq_zero (by exact(ai [.x (.L .o (.t .a))] (.e .a .o)) h)
  obtain rfl:=hM0 rfl
  exact .call0 (.glob (bg w)) (gu w) (ax.new (lv':=8) (gj w) (gw w) (by k_is) fun c'=>ae.det (jf w 0 (by decide) k hk (.inr ⟨rfl,rfl⟩)) [3,2,1] (ab vS vS vS) (by decide) vT vT)
theorem j7(fs:LI)(h0:0<fs.length)(hl:fs.length<64)(hU:Up fs):az w 12 735 [.nums fs] [.int 1,.ref 0] []
  (ch (.ref 2) [.nums fs,.attrs [("data",.ref 4),("typecode",.str "I")],.inst 646 1,.nums fs,.nums fs]):=by
 refine' ao ["form","few"] ?ho ?hcd ?hb ?hx ?nd ?hl ?H ?c1 ?c2 ?c3 ?c4
 k_extra "cx"
 intro c
 refine .cons (.ite (.icmp (.name vS) .intE .eq) (fun h=>absurd h (by decide)) fun O=>.nil ?_)
 refine .cons (.ite (.icmp (.name vS) .intE .eq) (fun O=>?_) fun h=>absurd rfl h)
 exact .cons (.ret (.call (.glob (i8 w)) (i0 w) (.cons (.name vS) .nil) (ax.new (lv':=3) (iR w) (i5 w) (by k_is) fun c'=>ae.det (oW w fs h0 hl (hU.imp Int.le_of_lt)) [2,1,0] (ab vS vS vS) (by decide) vT vT)) (.ret _ ⟨rfl,rfl⟩ .same vT))
theorem iq:az w 12 735 [.nums []] [.int 1,.ref 0] []
  (ch (.ref 2) [.nums [],.attrs [("data",.ref 3),("typecode",.str "I")],.inst 646 1,.nums []]):=by
 refine' ao ["form","few"] ?ho ?hcd ?hb ?hx ?nd ?hl ?H ?c1 ?c2 ?c3 ?c4
 k_extra "cx"
 intro c
 refine .cons (.ite (.icmp (.name vS) .intE .eq) (fun h=>absurd h (by decide)) fun O=>.nil ?_)
 refine .cons (.ite (.icmp (.name vS) .intE .eq) (fun O=>?_) fun h=>absurd rfl h)
 exact .cons (.ret (.call (.glob (i8 w)) (i0 w) (.cons (.name vS) .nil) (ax.new (lv':=3) (iR w) (i5 w) (by k_is) fun c'=>ae.det (oX w) [2,1,0] (ab vS vS vS) (by decide) vT vT)) (.ret _ ⟨rfl,rfl⟩ .same vT))
theorem j6(fs:LI)(hl:fs.length<=1000)(hU:Up fs):az w 12 735 [.nums fs] [.int 2,.ref 0] []
  (ch (.ref 1) [.nums fs,.obj (aB w fs)]):=by
 refine' ao ["form","few"] ?ho ?hcd ?hb ?hx ?nd ?hl ?H ?c1 ?c2 ?c3 ?c4
 k_extra "cx"
 intro c
 refine .cons (.ite (.icmp (.name vS) .intE .eq) (fun h=>absurd h (by decide)) fun O=>.nil ?_)
 refine .cons (.ite (.icmp (.name vS) .intE .eq) (fun h=>absurd h (by decide)) fun O=>.nil ?_)
 exact .cons (.ret (.call_ty (.bi (by k_is) boot_set) (.cons (.name vS) .nil) (ax.setL vS (cH hU) hl)) (.ret _ ⟨rfl,rfl⟩ .same vT))
end
example:True:=by w_top off;trivial
theorem kl(c:Int):ones c=(cX c 0).length:=rfl
theorem jt:∀(tl:LI) (N k:Nat),(tl.map ones).sum=(cv N k tl).length
|[],_,_=>rfl
|c::tl,N,k=>by
  refine aa (List.map_cons ..) (aa (List.sum_cons ..) (aa (jt tl N (k+1) ..) (aa (kl ..) ?_)))
  show _=(((bY N k c 0 tl++cv N (k+1) tl).length:Nat):Int)
  rw[Zl,bY,Zm,Int.natCast_add]
theorem mV:∀c:Fin 256,(cX ((c:Nat):Int) 0=[]<->((c:Nat):Int)=0):=by decide +kernel
theorem pv{c:Int}(h:0<=c/\c<256):cX c 0=[]<->c=0:=by
 have:=mV ⟨c.toNat,by exact(aR [.d (.M .o .A) (.L .A (.n 256)),.T .a .A] (.l .a (.n 256))) h (bz _)⟩
 rwa [show (((⟨c.toNat,by exact(aR [.d (.M .o .A) (.L .A (.n 256)),.T .a .A] (.l .a (.n 256))) h (bz _)⟩:Fin 256):Nat):Int)=c from Int.toNat_of_nonneg h.1] at this
theorem kq:∀(tl:LI) (N k:Nat),(∀c∈tl,0<=c/\c<256)->(tl.any (· != 0)=false<->cv N k tl=[])
|[],_,_,_=>by simp[cv]
|c::tl,N,k,h=>by
  have ih:=kq tl N (k+1) fun z hz=>h z (.tail _ hz)
  have e:=pv (h c (.head _))
  show _<->bY N k c 0 tl++cv N (k+1) tl=[]
  unfold bY
  rw[List.any_cons,Bool.or_eq_false_iff,ih,List.append_eq_nil_iff,ZG,e]
  simp
section
variable{bs cs:LI}
theorem ar.sum(h:ar bs cs):(bs.map ones).sum=cs.length:=by
 exact aa (jt bs bs.length 0 ..) (aA (h.walk ..) (aa (Zm ..) rfl))
theorem ar.any(h:ar bs cs):bs.any (· != 0)=decide (0<(cs.length:Int)):=by
 have:=kq bs bs.length 0 h.byte
 rw[<- ZG (f:=(·.1)),h.walk] at this
 cases hb:bs.any (· != 0) with
|false=>refine aa (this.mp hb ..) ?_;rfl
|true =>
  have:cs≠[]:=fun e=>by rw[this.mpr e] at hb;exact nomatch hb
  exact(decide_eq_true (by have:=List.length_pos_iff.mpr this;exact(ai [.l .o .a] (.L .o (.t .a))) this)).symm
theorem mI(l:LI)(z:Int):bv (l++[z])=.int z:=by
 unfold bv
 refine aa (List.getLast?_append ..) ?_;rfl
theorem nb{cs:LI}(hU:Up cs)(n:Int):cs.filter (decide <| · < n+1)=cs.filter (decide <| · < n)++(if n∈cs then [n] else []):=by
 refine b6 (hU.filter _) (List.pairwise_append.mpr ⟨hU.filter _,by split <;> simp,fun a ha b hb=>?_⟩) fun x=>?_
 ·have:=(Ze.mp ha).2
  split at hb
  ·refine aa (ZP.mp hb ..) ?_;simpa using this
  ·exact nomatch hb
 ·rw[ZS,Ze,Ze,decide_eq_true_iff,decide_eq_true_iff]
  constructor
  ·rintro ⟨h1,h2⟩
   by_cases e:x=n
   ·subst e;refine aa (if_pos h1 ..) ?_;exact .inr (.head _)
   ·exact .inl ⟨h1,by exact(bo [.L .A (.p .B .u),.x (.E .A .B)] (.L .A .B)) h2 e⟩
  ·rintro (⟨h1,h2⟩|h)
   ·exact⟨h1,by exact(bo [.L .A .B] (.L .A (.p .B .u))) h2⟩
   ·split at h
    ·refine aa (ZP.mp h ..) ?_;exact⟨by assumption,by exact(aO [] (.L .A (.p .A .u)))⟩
    ·exact nomatch h
theorem ar.hi(h:ar bs cs):∀n:Nat,fP bs n=bv (cs.filter (decide <| · < (n:Int)))
|0=>by
  refine aa (List.filter_eq_nil_iff.mpr fun z hz=>by have:=h.rng z hz;simp;exact(aO [.d (.M .o .A) (.L .A .x)] (.M .o .A)) this ..) ?_
  rfl
|n+1=>by
  refine aa (show ((n+1:Nat):Int)=(n:Int)+1 by rfl) (aa (nb h.up ..) ?_)
  have:=h.mem n (by exact(ai [] (.M .o (.t .a))))
  by_cases hn:(n:Int)∈cs
  ·refine aa (if_pos hn ..) (aa (mI ..) ?_)
   exact if_pos (this.mpr hn)
  ·refine aa (if_neg hn ..) (aa (List.append_nil ..) (aA (h.hi n ..) ?_))
   exact if_neg fun e=>hn (this.mp e)
theorem ar.top(h:ar bs cs):∀z∈cs,z<bs.length*8:=fun z hz=>by
 have:=(h.mem z (h.rng z hz).1).mpr hz
 rcases Int.lt_or_le z (bs.length*8) with q|q
 ·exact q
 ·rw[qI q] at this;exact nomatch this
theorem ar.before(h:ar bs cs)(p:Int):fP bs (bp bs p+1).toNat=bv (cs.filter (decide <| · < p)):=by
 refine aa (h.hi ..) ?_
 congr 1
 refine List.filter_congr fun z hz=>decide_eq_decide.mpr ?_
 have h1:=h.rng z hz
 have h2:=h.top z hz
 unfold bp
 split
 ·exact(aG [.d (.M .o .A) (.L .A .x),.T .a (.p (.j .u) .u),.M .B .o] (.i (.L .A (.t .a)) (.L .A .B))) h1 (bz _) ‹_›
 ·split <;> lia
theorem ar.last(h:ar bs cs):fP bs (bs.length*8)=bv cs:=by
 exact aa (h.hi ..) (aa (Zk.mpr fun z hz=>by have:=h.top z hz;simp;assumption ..) rfl)
theorem pW{cs:LI}(hU:Up cs)(a:Int):cs.filter (decide <| a<=·)=(if a∈cs then [a] else [])++cs.filter (decide <| a+1<=·):=by
 refine b6 (hU.filter _) (List.pairwise_append.mpr ⟨by split <;> simp,hU.filter _,fun x hx b hb=>?_⟩) fun x=>?_
 ·have:=(Ze.mp hb).2
  split at hx
  ·refine aa (ZP.mp hx ..) ?_;have:=of_decide_eq_true this;assumption
  ·exact nomatch hx
 ·rw[ZS,Ze,Ze,decide_eq_true_iff,decide_eq_true_iff]
  constructor
  ·rintro ⟨h1,h2⟩
   by_cases e:x=a
   ·subst e;refine aa (if_pos h1 ..) ?_;exact .inl (.head _)
   ·exact .inr ⟨h1,by exact(bo [.M .A .B,.x (.E .B .A)] (.M (.p .A .u) .B)) h2 e⟩
  ·rintro (h|⟨h1,h2⟩)
   ·split at h
    ·refine aa (ZP.mp h ..) ?_;exact⟨by assumption,by exact(aO [] (.M .A .A))⟩
    ·exact nomatch h
   ·exact⟨h1,by exact Int.le_of_lt ‹_›⟩
theorem ar.loN(h:ar bs cs):∀(n:Nat) (a:Int),0<=a->(bs.length:Int)*8<=a+n->loN bs a n=bM (cs.filter (decide <| a<=·))
|0,a,h0,h1=>by
  refine aa (List.filter_eq_nil_iff.mpr fun z hz=>by have:=h.top z hz;simp;exact(aG [.M (.r (.t .a) 8) (.p .A (.t .o)),.L .B (.r (.t .a) 8)] (.L .B .A)) h1 this ..) ?_
  rfl
|n+1,a,h0,h1=>by
  refine aa (pW h.up ..) ?_
  have:=h.mem a h0
  by_cases hn:a∈cs
  ·refine aa (if_pos hn ..) ?_
   exact if_pos (this.mpr hn)
  ·refine aa (if_neg hn ..) (aa (List.nil_append ..) (aA (ar.loN h n (a+1) (by exact(aO [.M .o .A] (.M .o (.p .A .u))) h0) (by exact(c8 [.M (.r (.t .a) 8) (.p .A (.t (.p .b .u)))] (.M (.r (.t .a) 8) (.p (.p .A .u) (.t .b)))) h1) ..) ?_))
   exact if_neg fun e=>hn (this.mp e)
theorem ar.lo(h:ar bs cs){a:Int}(h0:0<=a):kx bs a=bM (cs.filter (decide <| a<=·)):=ar.loN h _ a h0 (by exact(c8 [.T .b (.s (.r (.t .a) 8) .A)] (.M (.r (.t .a) 8) (.p .A (.t .b)))) (bz _))
theorem ar.after(h:ar bs cs)(p:Int):kx bs (bR p)=bM (cs.filter (decide <| p<·)):=by
 refine aa (h.lo (by unfold bR;split <;> lia) ..) ?_
 congr 1
 refine List.filter_congr fun z hz=>decide_eq_decide.mpr ?_
 have h1:=h.rng z hz
 unfold bR
 split <;> lia
theorem ar.first(h:ar bs cs):kx bs 0=bM cs:=by
 exact aa (h.lo (Int.le_refl 0) ..) (aa (Zk.mpr fun z hz=>by have:=h.rng z hz;simp;exact(aO [.d (.M .o .A) (.L .A .x)] (.M .o .A)) this ..) rfl)
end
theorem nk(cs:LI):rh cs.getLast?=bv cs:=by unfold bv rh;cases cs.getLast? <;> rfl
theorem nl(cs:LI):rh cs.head?=bM cs:=by cases cs <;> rfl
theorem bn(cs:LI):NV (bM cs):=by cases cs <;> constructor
theorem bQ(cs:LI):NV (bv cs):=by unfold bv;split <;> constructor
example:True:=by w_top off;trivial
def tU(w:World)(x:Value)(A:Around)(R:RS)(s:Shared):Prop:=wpAny (model PR w) A.in1 (truthy x) (fun b s'=>R (.ok (.ret (.bool b))) s') (fun e s'=>R (.error e) s') s
theorem pr(w:World)(x:Value):MeetsIn PR w (Builtin.«bool.__new__» ⟨[.type "bool",x],[]⟩) (tU w x):=.of_wp fun A R s h=>by
 have f1:=F.conv_sub_bool
 unfold Builtin.«bool.__new__»
 dsimp only
 refine ZL (wpAny_of_eq (a:=true) (by rfl) ?_)
 refine wpAny_ite_split (fun h=>absurd h (by decide)) fun O=>?_
 refine ZL (wpAny_of_eq f1 ?_)
 refine wpAny_ite_split (fun h=>absurd h (by decide)) fun O=>?_
 refine ZL (wpAny_of_eq (a:=[x]) (by first|rfl|kernel_rfl!) ?_)
 dsimp only
 exact ZL (wpAny_mono h (fun b s2 h2=>ZM ⟨_,rfl,h2⟩) fun O O e=>e)
section
variable{w:World}{κ:CK}{lv':Nat}{c:Cx w κ}{Γ:G}
theorem ax.boolInst{i d:Nat}{C f:Addr}{as:LV}{b:Bool}(h1:Γ.o[i]?=some (.inst C d))(h2:Γ.o[d]?=some (.attrs as))(hs:findIn (hd.heap_1 w.params) (.ref C) "__bool__"=some (some (.ref f)))(hf:isFn (hd.heap_1 w.params) (.ref f)=true)
  (hI:∀c':Cx w { κ with lv:=lv' },ax c' Γ (.val (.ref f)) [.ref i] [] (.val (.bool b)) Γ) (hlv:Nat.ble (lv'+3) κ.lv=true:=by exact vT):ax c Γ (.val (.type "bool")) [.ref i] [] (.val (.bool b)) Γ:=fun ρ s Q E fv us ks S hfv hus hks hkv KK=>by
 obtain rfl:=hfv.valI
 obtain⟨_,_,rfl,q1,t⟩:=hus.consI
 obtain rfl:=t.nilI
 obtain rfl:ks=[]:=ZG.mp hks
 refine callType_newIn F.called_bool F.newNe_bool (F.typeCall_bool_1 _) (F.newCall_bool_1 _) (fun obj=>F.args_object_init_2 obj _) F.entry_bool_new (pr w _) ?_
 have hlv:=ZJ hlv
 exact pG.inst (c:=c.dn c.o.dp (c.o.un+2) (Nat.le_add_right _ _) (by exact(ai [] (.m (.p .a (.n 2)) (.p .a (.n 60))))) hlv) h1 h2 hs hf (hI _) S.dn q1 fun ρ' s' hp S'=>⟨rfl,KK _ ρ' s' hp (.val _) S'.up⟩
theorem cb.orF{Γ₁ Γ2:G}{e:Expr}{es:List Expr}{pos:Pos}{φ ψ:Prop}(h:cb c Γ e φ Γ₁)(hn:¬φ)(h2:cb c Γ₁ (.BoolOp .Or es pos) ψ Γ2):cb c Γ (.BoolOp .Or (e::es) pos) ψ Γ2:=fun ρ s Q E S k =>
 isTrue_or (h ρ s _ E S fun b ρ1 sj1 hp h1 Sj1=>by
  cases b with
 |true=>exact absurd (h1.mp vT) hn
 |false=>exact h2 ρ1 sj1 Q E Sj1 fun b2 ρ₂ sj2 hp2 q Sj2=>k b2 ρ₂ sj2 (hp.trans hp2) q Sj2)
end
theorem eT{Γ:G}{σ:LN}{Γo:LO}{p:List Int->Prop}{zs:LI}(hσ:Fits Γ σ σ Γo)(hf:Γo.all (·.fit Γo.length)=true)(hp:∀ys,p ys->ys=zs):gJ Γ σ (pI Γo p) zs:=fun T K l h=>⟨⟨Γo,hσ,hf,h.2.1⟩,fun e he=>⟨Γo,hσ,hf,h.2.2 e he⟩,hp _ h.1⟩
theorem qE(w:World){rs cs:LI}(R:bk rs cs):pJ w 7 (.ref 0) 5 (·=cp rs) (pI (cp rs) (·=cs)):=by
 obtain⟨s1,s2⟩:=gb rs (bK cs) (bq _) fun z h=>(fi z h).1
 rw[R.ks] at s1
 refine(cK (K₀:=(·=cp rs)) (kP w) (by k_is) (fun l h=>by subst h;exact⟨1,_,vS,vS⟩) (jh w rs).it).imp (ZZ _) fun T K' l hO=>?_
 obtain⟨_,rfl,rfl⟩:=hO
 refine aa (R.rep.walk ..) ?_
 exact⟨s1,rfl,fun e he=>by obtain⟨nx,e1,_⟩:=s2 e he;refine aa (e1 ..) ?_;exact .self _ _⟩
example:True:=by w_top off;trivial
noncomputable def gA(h:Heap)(C:Addr):Heap:={ h with objs:=h.objs.modify C fun o=>{ o with data:=.freed } }
theorem lY(h:Heap)(C:Addr):(gA h C).get? C=none:=by
 cases e:(gA h C).get? C with
|none=>rfl
|some o =>
  obtain⟨h1,h2⟩:=Heap.get?_some_iff.mp e
  have h1:(h.objs.modify C _)[C]?=some o:=h1
  rw[Array.getElem?_modify,if_pos rfl] at h1
  obtain⟨o',_,rfl⟩:=Option.map_eq_some_iff.mp h1
  exact nomatch h2
theorem gz(h:Heap)(C:Addr):Heap.SameBut C h (gA h C):=by
 refine⟨Array.size_modify,fun b hb=>?_⟩
 have e:(gA h C).objs[b]?=h.objs[b]?:=by
  show (h.objs.modify C _)[b]?=_
  exact aa (Array.getElem?_modify ..) (aa (if_neg (Ne.symm hb) ..) rfl)
 cases e1:h.get? b with
|none =>
  cases e2:(gA h C).get? b with
 |none=>rfl
 |some o =>
   obtain⟨h1,h2⟩:=Heap.get?_some_iff.mp e2
   rw[Heap.get?_some_iff.mpr ⟨e.symm.trans h1,h2⟩] at e1
   exact nomatch e1
|some o =>
  obtain⟨h1,h2⟩:=Heap.get?_some_iff.mp e1
  exact Heap.get?_some_iff.mpr ⟨e.trans h1,h2⟩
section
variable{w:World}{κ:CK}{c:Cx w κ}{Γ Γ₁:G}{P:SF->G->Prop}{lS lv':Nat}{σ:LN}{Ok:String->(List SO->Prop)->KL->Prop}
theorem bJ.assignComp{elt iter:Expr}{x y:Str}{px py pos spos:Pos}{ifs:List Expr}{scope:Scope}{Γo:LO}{zs:LI}{zp:List Int->Prop}{p:Int->Bool}{f:Int->Int}{so:SO}{cm:List (Str×Nat)}(B:bH c Γ iter lS σ Ok Γ₁)(hσ:Fits Γ₁ σ σ Γo)(hft:Γo.all (·.fit Γo.length)=true)(hok:tE Ok Γo zp)
  (hzp:∀ys,zp ys->(∀y∈ys,y∈zs)/\ys.length<=500/\∀oD ρ,pT w false ((ys.filter p).map f) oD->so.Is w ρ oD) (Bd:gO w ⟨relabel scope c.env,lv',σ.length,σ.length,cm⟩ x ifs elt Γo zs p f)
  (hcl:∃cl,closureFor scope c.env=pure cl/\∀x i,cm.lookup x=some i->∃j,κ.cm.lookup x=some j/\σ[i]?=some j/\cl.lookup x=c.cl.lookup x) (K:P .next ((Γ₁.addO so).put y (.ref Γ₁.o.length))) (nd:σ.Nodup) (hσl:(σ.all fun i=>Nat.blt i Γ₁.o.length)=true) (hk:scope.kind=.function) (hcell:∀y∈scope.names,y.2≠.cell)
  (hloc:∀y∈scope.names,y.2=.local->scope.names.lookup y.1=some .local) (hx:(relabel scope c.env).names.lookup x=some .local) (hlS:lS<=lv') (hlv:lv'<=κ.lv) (hs:∀v,foldedSetIterable iter c.env v=pure v) (hy:κ.cs.names.lookup y=some .local)
  (hsw:swapsWith (.ListComp elt [⟨.Name x px,iter,ifs,0⟩] scope pos) (some (.Name y py)) spos.line c.env=pure true):bJ c Γ (.Assign [.Name y py] (.ListComp elt [⟨.Name x px,iter,ifs,0⟩] scope pos) spos) P:=fun ρ s Q E hE S KK=>by
 obtain⟨cl,hclos,hcm⟩:=hcl
 refine aa (exec_Assign_Name_used _ _ _ _ hsw ..) ?_
 refine ZL (wpAny_standAt (ZL ?_))
 show wpAny _ c.A (do let _ <- comprehension (md false elt x px iter ifs scope pos) scope c.env _ (newList []) false (eval iter c.env) (some (PySem.assign (.Name y py) c.env))) _ _ s
 refine ZL (wpAny_mono (wpAny_comprehension_free (g:=⟨.Name x px,iter,ifs,0⟩) (gs:=[]) (cl:=cl) (use:=some (PySem.assign (.Name y py) c.env)) (Q:=fun O s'=>Q .next s') rfl hs hclos hk hloc ?_) (fun O s' hq=>ZM (ZM hq)) fun O O e=>e)
 refine B ρ s _ E S fun it ρ₂ sj2 hp IH=>?_
 cases IH with|mk T bS K' l own pgI ρc hOk hself hi hb n2 p2 hsr hg hg2 ho Sj2 =>
 obtain⟨h1,h2,h3⟩:=hok T K' l hOk
 obtain⟨z1,z2,z3⟩:=hzp _ h1
 obtain⟨ρc',n2',p2',ndc⟩:=ed Sj2 hσl
 have eρ:ρc'=ρc:=List.ext_getElem? fun i=>by
  rcases Zq i σ.length with hi|hi
  ·exact aa (p2' i _ (ZA hi) ..) (aa (p2 i _ (ZA hi) ..) rfl)
  ·exact aa (Zh (by exact(av [.e .a .b,.m .b .c] (.m .a .c)) n2' hi) ..) (aa (Zh (by exact(av [.e .a .b,.m .b .c] (.m .a .c)) n2 hi) ..) rfl)
 have nd2:=ndc nd
 rw[eρ] at nd2
 have hcl':∀x i,cm.lookup x=some i->∃a,ρc[i]?=some a/\cl.lookup x=some a:=fun x i e=>by
  obtain⟨j',e1,e2,e3⟩:=hcm x i e
  obtain⟨a,e4,e5⟩:=c.hcl x j' e1
  exact⟨a,by refine aa (p2 i j' e2 ..) ?_;exact ak Sj2.pre e4,e3.trans e5⟩
 have hfl:(dL w ρc l).map (·.1)=l.map (·.1):=List.map_map
 have M0:Meets Γ₁ σ (·=Γo):=⟨Γo,hσ,hft,rfl⟩
 have X:rz w false (md false elt x px iter ifs scope pos) scope cl c.env it c.A (fun r s'=>∃ρ',(SV.ref Γ₁.o.length).Is ρ' r/\ad c (Γ₁.addO so) ρ' s') sj2:=by
  refine Sj2.act ho (ke (c₀:=c) n2 nd2 Bd hx hlS (by unfold G.fit;simpa using hft) hσ.get.1.symm hk hcell hcl' hself hi (fun e he=>z1 _ (by refine aA (hfl ..) ?_;exact Zd he)) (fun h hZ=>?_) (by refine aa (Zm ..) ?_;rw[Zm] at z2;exact z2)) (fun os hold h1 h2 h3 h4=>⟨ZW Sj2.above hb,M0.dOf n2 p2 h1 h2 h3 h4⟩) hlv hg (fun r own' pg' s' V hr ho' S'=>?_)
  ·obtain⟨l0,os0,q0,q1,q2,q3,q4⟩:=hZ
   subst q0
   exact⟨⟨l0,os0,h2,q1,q2,q3,q4⟩,fun e he=>by
    obtain⟨y,hy,rfl⟩:=Zc.mp he
    exact⟨l0,os0,h3 y hy,q1,q2,q3,q4⟩⟩
  ·obtain⟨D,oD,rfl,rfl,hA⟩:=hr
   rw[hfl] at hA
   exact⟨_,.ref (by refine aA (Sj2.len ..) ?_;simp),S'.keep (hsr.step V hg2) (ho' _ (.head _)) (z3 _ _ hA)⟩
 refine wpAny_mono (X E) (fun acc sj3 h=>wpAny_mono h (fun cenv sj4 h=>codeAny_mono h fun r s' hr=>?_) fun O O e=>e) fun O O e=>e
 cases r with
|error x=>exact hr
|ok fl =>
  obtain⟨m,hm,hr⟩:=hr
  obtain⟨ρ',hu,S'⟩:=hr (gA s'.heap cenv.locals) (gz _ _)
  obtain⟨m2,os,H,F,N,hm2,LY,hs2⟩:=S'
  have hLC:c.L≠cenv.locals:=fun e=>by
   obtain⟨o,e2,_⟩:=cq F.ns
   rw[e,lY] at e2;exact nomatch e2
  have F1:s'.heap.Ns c.L m2:=by
   obtain⟨o,e2,f⟩:=cq F.ns
   exact f _ (((gz s'.heap cenv.locals).2 _ hLC).symm.trans e2)
  show wpAny _ _ (PySem.assign (.Name y py) c.env acc) _ _ _
  refine wpAny_assign_Name (wpAny_storeName_local (by exact hy) F1 (fun h3 hn hs3=>?_) (by show (κ.cs.kind == .class||(κ.cs.kind == .module&&c.L != mainGlobals))=false;refine aa (c.hk ..) ?_;rfl))
  obtain⟨oC,eC,fC⟩:=cq hm
  refine⟨m,fC _ ((hs3.2 _ hLC.symm).trans eC),fun h4 hs4=>?_⟩
  have up:∀b o,b≠c.L->(gA s'.heap cenv.locals).get? b=some o->h4.get? b=some o:=fun b o hb e=>by
   have hbC:b≠cenv.locals:=fun e2=>by rw[e2,lY] at e;exact nomatch e
   exact(hs4.2 b hbC).trans ((hs3.2 b hb).trans (((gz s'.heap cenv.locals).2 b hbC).symm.trans e))
  obtain⟨oL,eL,fL⟩:=cq hn
  refine KK _ _ ρ' _ _ K .next (.mk _ os H ⟨fL _ ((hs4.2 _ hLC).trans eL),fun b o e=>up b o (fun e2=>by
   have e:c.o.g.get? b=some o:=e
   rw[e2,Zs F.above] at e;exact nomatch e) (F.keep b o e),F.above⟩ (fun q hq=>⟨up _ _ (N q hq).2.1 (N q hq).1,(N q hq).2⟩) (fun z v' hz=>?_) LY (hs2.heap h4 _))
  simp only[G.put,List.lookup_cons] at hz
  by_cases e:z=y
  ·subst e
   simp only[beq_self_eq_true] at hz
   obtain rfl:=ZK hz
   exact⟨acc,if_pos rfl,hu⟩
  ·have hb:(z == y)=false:=beq_eq_false_iff_ne.mpr e
   rw[hb] at hz
   obtain⟨u',h1,h2⟩:=hm2 z v' hz
   exact⟨u',by refine aa (if_neg e ..) ?_;exact h1,h2⟩
end
example:True:=by w_top off;trivial
theorem qo(w:World):am w 646 "before" 636:=⟨by k_is,by k_is,by k_is,by k_is⟩
theorem qp(w:World):am w 646 "after" 643:=⟨by k_is,by k_is,by k_is,by k_is⟩
theorem mC(w:World):am w 646 "first" 622:=⟨by k_is,by k_is,by k_is,by k_is⟩
theorem nU(w:World):am w 646 "last" 629:=⟨by k_is,by k_is,by k_is,by k_is⟩
theorem nX(w:World):am w 514 "first" 327:=⟨by k_is,by k_is,by k_is,by k_is⟩
theorem mD(w:World):am w 714 "first" 704:=⟨by k_is,by k_is,by k_is,by k_is⟩
theorem nW(w:World):am w 714 "last" 711:=⟨by k_is,by k_is,by k_is,by k_is⟩
theorem eG:bootBuiltins (Str.ofString "sorted")=some (.builtin "sorted"):=by decide +kernel
theorem cW:bootBuiltins (Str.ofString "list")=some (.type "list"):=by decide +kernel
noncomputable abbrev dT(i:Nat):SO:=.tab i 294 ⟨127,19,127,62⟩
noncomputable abbrev dS(i:Nat):SO:=.tab i 308 ⟨138,19,138,50⟩
theorem bH.nums{w:World}{κ:CK}{c:Cx w κ}{Γ Γ₁:G}{e:Expr}{j:Nat}{cs:LI}(he:Ev c Γ e (.ref j) Γ₁)(h:Γ₁.o[j]?=some (.nums cs))(τ:LN)(X:LO)(hσ:(([j]++τ).all fun i=>Nat.blt i Γ₁.o.length)=true):bH c Γ e 0 ([j]++τ) (pI ([.nums cs]++X) (·=cs)) Γ₁ :=
 bH.widen (σ:=[j]) (Γo:=[.nums cs]) ((bH.of (σ:=[j]) (v:=.ref 0) (K₀:=(·=[.nums cs])) he (bC w cs 0 1 (by decide) fun l h=>by refine aa (h ..) ?_;rfl) ⟨[.nums cs],.cons (so:=.nums cs) h .nil,vT,rfl⟩ vT (List.nodup_cons.mpr ⟨(fun h=>nomatch h),List.nodup_nil⟩) (by
  have:=(ZB.mp h).1
  simp[Nat.blt_eq,this]) rfl).imp (Ok':=pI [.nums cs] (·=cs)) fun T K l h=>cR (Γo:=[.nums cs]) rfl T K l h) τ X rfl rfl hσ
noncomputable abbrev kv(bs cs rs:LI)(p:Int):List SO:=[.inst 514 2,.attrs [("bits",.ref 3)],.nums bs,.inst 646 5,.attrs [("data",.ref 6),("typecode",.str "I")],.nums cs,.inst 714 8,.attrs [("idset",.ref 9),("limit",.int 20)],.inst 514 10,.attrs [("bits",.ref 11)],.nums rs,dT 12,dS 13,.cell (.int p)]
theorem mT{cs:LI}(hU:Up cs)(hr:∀z∈cs,0<=z/\z<20):(bK cs).length+cs.length=20:=by
 have h1:=List.length_eq_countP_add_countP (fun z=>decide (z∉cs)) (l:=cw 1 20 0)
 rw[List.countP_eq_length_filter,List.countP_eq_length_filter] at h1
 have h2:(cw 1 20 0).filter (fun z=>decide ¬(decide (z∉cs)=true))=cs:=b6 ((eV 20 0).filter _) hU fun z=>by
  rw[Ze,aV]
  simp only[decide_eq_true_eq,Classical.not_not]
  exact⟨fun h=>h.2,fun h=>⟨by have:=hr z h;assumption,h⟩⟩
 rw[h2] at h1
 exact h1.symm
theorem eY{l:LI}(h:0<(l.length:Int)):SV.int (l.getD (-1+(l.length:Int)).toNat 0)=bv l:=by
 have hne:l≠[]:=fun e=>by rw[e] at h;exact absurd h (by decide)
 unfold bv
 have hp:0<l.length:=List.length_pos_iff.mpr hne
 refine aa (List.getLast?_eq_some_getLast hne ..) (aa (List.getLast_eq_getElem ..) (aa (sS ..) (aa (ZE ..) (aa (ZA (Nat.sub_lt hp Nat.one_pos) ..) ?_))))
 rfl
theorem dZ{l:LI}(h:0<(l.length:Int)):SV.int (l.getD (0:Int).toNat 0)=bM l:=by
 cases l with
|nil=>exact absurd h (by decide)
|cons a l=>rfl
theorem ii{l:LI}(h:¬0<(l.length:Int)):SV.val .none=bv l:=by
 obtain rfl:l=[]:=List.eq_nil_of_length_eq_zero (by exact(ai [.x (.L .o (.t .a))] (.e .a .o)) h)
 rfl
theorem gC{l:LI}(h:¬0<(l.length:Int)):SV.val .none=bM l:=by
 obtain rfl:l=[]:=List.eq_nil_of_length_eq_zero (by exact(ai [.x (.L .o (.t .a))] (.e .a .o)) h)
 rfl
theorem lu(o:Option Int)(σ:LN):(rh o).ren σ=rh o:=by cases o <;> rfl
theorem ax.conv{w:World}{κ:CK}{c:Cx w κ}{Γ Γ₁ Γ2:G}{f v:SV}{vs:LX}{kw:LV}(h:ax c Γ f vs kw v Γ₁)(e:Γ₁=Γ2):ax c Γ f vs kw v Γ2:=e▸h
theorem sq(w:World){bs rs cs:LI}(B:ar bs cs)(R:bk rs cs)(p:Int):az w 20 740 [.obj (aB w cs),.inst 514 2,.attrs [("bits",.ref 3)],.nums bs,.inst 646 5,.attrs [("data",.ref 6),("typecode",.str "I")],.nums cs,.inst 714 8,.attrs [("idset",.ref 9),("limit",.int 20)],.inst 514 10,.attrs [("bits",.ref 11)],.nums rs,dT 12,dS 13] [.ref 0,.ref 1,.ref 4,.ref 7,.int p] []
  (fun v l=>v=.val (.bool true)/\∃so,l=.obj (·=so)::kv bs cs rs p):=by
 refine' ec (fa:=[.ref 0,.ref 1,.ref 4,.ref 7,.int p]) (lm:=[("whole",.ref 0),("bits",.ref 1),("rows",.ref 4),("back",.ref 7)]) (cso:=[.cell (.int p)]) (cm:=[("probe",14)]) ["whole","bits","rows","back","probe"] ?ho ?hcd ?hb ?hkind ?hnd ?hcm ?hM ?hC ?H ?c1 ?c2 ?c3
 k_extra "cxc"
 case hb =>
  intro ρ s us ks X hu hks
  obtain rfl:ks=[]:=ZG.mp hks.1
  refine⟨us,hu,?_⟩
  obtain⟨_,_,rfl,h1,t⟩:=hu.consI
  replace t:=t.consI;obtain⟨_,_,rfl,h2,t⟩:=t
  replace t:=t.consI;obtain⟨_,_,rfl,h3,t⟩:=t
  replace t:=t.consI;obtain⟨_,_,rfl,h4,t⟩:=t
  replace t:=t.consI;obtain⟨_,_,rfl,h5,t⟩:=t
  obtain rfl:=t.nilI
  exact BindsTo.of_eq rfl
 case hM =>
  intro ρ us hu
  obtain⟨_,_,rfl,h1,t⟩:=hu.consI
  replace t:=t.consI;obtain⟨_,_,rfl,h2,t⟩:=t
  replace t:=t.consI;obtain⟨_,_,rfl,h3,t⟩:=t
  replace t:=t.consI;obtain⟨_,_,rfl,h4,t⟩:=t
  replace t:=t.consI;obtain⟨_,_,rfl,h5,t⟩:=t
  obtain rfl:=t.nilI
  exact .cons vS h1 (.cons vS h2 (.cons vS h3 (.cons vS h4 .nil)))
 case hC =>
  intro ρ us hu
  obtain⟨_,_,rfl,h1,t⟩:=hu.consI
  replace t:=t.consI;obtain⟨_,_,rfl,h2,t⟩:=t
  replace t:=t.consI;obtain⟨_,_,rfl,h3,t⟩:=t
  replace t:=t.consI;obtain⟨_,_,rfl,h4,t⟩:=t
  replace t:=t.consI;obtain⟨_,_,rfl,h5,t⟩:=t
  obtain rfl:=t.nilI
  exact .cons (fun o h=>.cell h h5) .nil
 intro c hc
 have hl:=db B.up B.rng
 have b3:=B.len
 have r3:=R.len
 refine .pin (i:=0) vS fun so hso=>?_
 refine .cons (.assign (.call_bi (.bi (by k_is) eG) (.cons (.name vS) .nil) (ax.sortedS (i:=0) vS hso hl (B.up.imp Int.le_of_lt))) ?_)
 have fB:∀(m:LV) (X:LO),Fits ⟨m,[.obj (·=so)]++kv bs cs rs p++X⟩ [1,2,3] [1,2,3] (ba bs):=fun O O=>ab vS vS vS
 have fS:∀(m:LV) (X:LO),Fits ⟨m,[.obj (·=so)]++kv bs cs rs p++X⟩ [4,5,6] [4,5,6] (b9 cs):=fun O O=>ab vS vS vS
 have fR:∀(m:LV) (X:LO),Fits ⟨m,[.obj (·=so)]++kv bs cs rs p++X⟩ [7,8,9,10,11] [7,8,9,10,11] (cp rs):=fun O O=>.cons vS (.cons vS (ab vS vS vS))
 have cl:=mT B.up B.rng
 have ap:∀(m:LV) (X:LO),(⟨m,([.obj (·=so)]++kv bs cs rs p++X)++[]⟩:G)=⟨m,[.obj (·=so)]++kv bs cs rs p++X⟩:=fun m X=>by exact aa (List.append_nil ..) rfl
 have lb:∀{sc:Scope} {lv n:Nat} {cm:List (Str×Nat)} (c:Cx w ⟨sc,lv,0,n,cm⟩) (m:LV) (X:LO),Nat.ble 9 lv=true->ax c ⟨m,[.obj (·=so)]++kv bs cs rs p++X⟩ (.val (.builtin "len")) [.ref 1] [] (.int cs.length) ⟨m,[.obj (·=so)]++kv bs cs rs p++X⟩:=fun c m X hlv =>
  ax.lenI (lv':=6) vS vS (kL w) (by k_is) (fun c''=>by
   refine aA (B.sum ..) ?_
   have h9:=(ae.det (c:=c'') (Γ:=⟨m,[.obj (·=so)]++kv bs cs rs p++X⟩) (o8 w bs b3 B.byte) [1,2,3,12] (.cons rfl (.cons rfl (.cons rfl (.cons rfl .nil)))) (by decide) vT vT).cal
   exact h9.conv (ap m X)) (by exact(ai [] (.M .o (.t .a)))) (by exact(ai [.m .a .x] (.M (.t .a) .q)) hl) hlv
 have ls:∀{sc:Scope} {lv n:Nat} {cm:List (Str×Nat)} (c:Cx w ⟨sc,lv,0,n,cm⟩) (m:LV) (X:LO),Nat.ble 9 lv=true->ax c ⟨m,[.obj (·=so)]++kv bs cs rs p++X⟩ (.val (.builtin "len")) [.ref 4] [] (.int cs.length) ⟨m,[.obj (·=so)]++kv bs cs rs p++X⟩:=fun c m X hlv =>
  ax.lenI (lv':=6) vS vS (oq w) (by k_is) (fun c''=>(ae.ro (sn w cs (by exact ZW ‹_› (by decide))) [4,5,6] (fS m X)).cal) (by exact(ai [] (.M .o (.t .a)))) (by exact(ai [.m .a .x] (.M (.t .a) .q)) hl) hlv
 have lr:∀{sc:Scope} {lv n:Nat} {cm:List (Str×Nat)} (c:Cx w ⟨sc,lv,0,n,cm⟩) (m:LV) (X:LO),Nat.ble 13 lv=true->ax c ⟨m,[.obj (·=so)]++kv bs cs rs p++X⟩ (.val (.builtin "len")) [.ref 7] [] (.int cs.length) ⟨m,[.obj (·=so)]++kv bs cs rs p++X⟩:=fun c m X hlv =>
  ax.lenI (lv':=10) vS vS (oo w) (by k_is) (fun c''=>by
   have e:(cs.length:Int)=20-(rs.map ones).sum:=by refine aa (R.rep.sum ..) ?_;exact(ah [.e (.p .a .b) .x] (.E (.t .b) (.s .x (.t .a)))) cl
   refine aa (e ..) ?_
   have h9:=(ae.det (c:=c'') (Γ:=⟨m,[.obj (·=so)]++kv bs cs rs p++X⟩) (sr w rs (by exact Nat.le_of_eq ‹_›) R.rep.byte (by refine aa (R.rep.sum ..) ?_;exact(ah [.e (.p .a .b) .x] (.M (.t .a) (.n 24))) cl) (by refine aa (R.rep.sum ..) ?_;exact(ah [.m .a .x,.e (.p .b .a) .x] (.M .o (.t .b))) hl cl)) [7,8,9,10,11,12] (.cons rfl (.cons rfl (.cons rfl (ab rfl rfl rfl)))) (by decide) vT vT).cal
   exact h9.conv (ap m X)) (by exact(ai [] (.M .o (.t .a)))) (by exact(ai [.m .a .x] (.M (.t .a) .q)) hl) hlv
 refine .cons (.ite (.orF (.cmp (.call_ty (.bi (by k_is) cW) (.cons (.name vS) .nil) (ax.listI (i:=1) (d:=2) (σ:=[1,2,3]) (lv':=9) (zs:=cs) vS vS (iP w (k:=.bits bs) B B.up B.rng) ⟨ba bs,ab vS vS vS,vT,rfl⟩ (eT (ab vS vS vS) vT fun ys h=>h.2 fun O O O e=>nomatch e) (kL w) (fun O c'=>lb c' _ [.nums cs] vT) (by exact(ai [] (.M .o (.t .a)))) (by exact(ai [.m .a .x] (.M (.t .a) .q)) hl) (by exact ZW ‹_› (by decide)))) (.name vS) (.neLL (i:=16) (j:=15) (as:=cs) (bs:=cs) vS vS)) (by simp)
  (.orF (.cmp (.call_ty (.bi (by k_is) cW) (.cons (.name vS) .nil) (ax.listI (i:=4) (d:=5) (σ:=[4,5,6]) (lv':=9) (zs:=cs) vS vS (iP w (k:=.sis cs) rfl B.up B.rng) ⟨b9 cs,ab vS vS vS,vT,rfl⟩ (eT (ab vS vS vS) vT fun ys h=>h.2 fun O O O e=>nomatch e) (oq w) (fun O c'=>ls c' _ [.nums cs,.nums cs] vT) (by exact(ai [] (.M .o (.t .a)))) (by exact(ai [.m .a .x] (.M (.t .a) .q)) hl) (by exact ZW ‹_› (by decide)))) (.name vS) (.neLL (i:=17) (j:=15) (as:=cs) (bs:=cs) vS vS)) (by simp)
  (.orF (.cmp (.call_ty (.bi (by k_is) cW) (.cons (.name vS) .nil) (ax.listI (i:=7) (d:=8) (σ:=[7,8,9,10,11]) (lv':=13) (zs:=cs) vS vS (qE w R) ⟨cp rs,.cons vS (.cons vS (ab vS vS vS)),vT,rfl⟩ (eT (.cons vS (.cons vS (ab vS vS vS))) vT fun ys h=>h) (oo w) (fun O c'=>lr c' _ [.nums cs,.nums cs,.nums cs] vT) (by exact(ai [] (.M .o (.t .a)))) (by exact(ai [.m .a .x] (.M (.t .a) .q)) hl) (by exact ZW ‹_› (by decide)))) (.name vS) (.neLL (i:=18) (j:=15) (as:=cs) (bs:=cs) vS vS)) (by simp) .or_nil))) (fun h=>h.elim) fun O=>.nil ?_)
 refine .cons (.ite (.orF (.icmp (.call_bi (.bi (by k_is) boot_len) (.cons (.name vS) .nil) (lb c _ [.nums cs,.nums cs,.nums cs,.nums cs] vT)) (.len (.name vS) vS (by exact ZX ‹_› (by decide))) .ne) (by simp)
  (.orF (.icmp (.call_bi (.bi (by k_is) boot_len) (.cons (.name vS) .nil) (ls c _ [.nums cs,.nums cs,.nums cs,.nums cs] vT)) (.len (.name vS) vS (by exact ZX ‹_› (by decide))) .ne) (by simp)
  (.orF (.icmp (.call_bi (.bi (by k_is) boot_len) (.cons (.name vS) .nil) (lr c _ [.nums cs,.nums cs,.nums cs,.nums cs] vT)) (.len (.name vS) vS (by exact ZX ‹_› (by decide))) .ne) (by simp)
  (.orF (.cmp (.call_ty (.bi (by k_is) boot_bool) (.cons (.name vS) .nil) (ax.boolInst (i:=1) (lv':=6) vS vS (sF w) (by k_is) fun c'=>(ae.det (q7 w bs b3) [1,2,3,13] (.cons rfl (.cons rfl (.cons rfl (.cons rfl .nil)))) (by decide) vT rfl).cal)) (.icmp (v:=decide (0<(cs.length:Int))) (.len (.name vS) vS (by exact ZX ‹_› (by decide))) .intE .gt decide_eq_true_iff) .neB) (by refine aa (B.any ..) ?_;simp) .or_nil)))) (fun h=>h.elim) fun O=>.nil ?_)
 have ul:=List.length_filter_le (fun z=>decide (z<p)) cs
 have vl:=List.length_filter_le (fun z=>decide (p<z)) cs
 refine .cons (.assignComp (lv':=4) (σ:=[15,14]) (Γo:=[.nums cs,.cell (.int p)]) (zs:=cs) (zp:=(·=cs)) (p:=fun z=>decide (z<p)) (f:=fun z=>z) (so:=.nums (cs.filter fun z=>decide (z<p))) (cm:=[("probe",1)]) (.nums (j:=15) (.name rfl) rfl [14] [.cell (.int p)] vT) (.cons vS (.cons vS .nil)) vT dh
  (fun ys e=>by subst e;exact⟨fun O h=>h,by exact ZW ‹_› (by decide),fun oD ρ hA=>by rw[List.map_id'] at hA;exact eJ hA⟩) ⟨fun c' y hy=>.one ((cb.icmp (.name rfl) (.cell (i:=1) rfl) .lt).iff decide_eq_true_iff.symm),fun c' y hy O=>.name vS⟩ (cB (x:="probe") (i:=1) (j:=14) (fun a ha=>⟨a,ha,rfl⟩) vS vS) ?_ (by decide) vT rfl (by decide) (by decide) vS (Zf _) (show 4<=19 by decide) (fun O=>rfl) vS rfl)
 refine .cons (.assignComp (lv':=4) (σ:=[15,14]) (Γo:=[.nums cs,.cell (.int p)]) (zs:=cs) (zp:=(·=cs)) (p:=fun z=>decide (p<z)) (f:=fun z=>z) (so:=.nums (cs.filter fun z=>decide (p<z))) (cm:=[("probe",1)]) (.nums (j:=15) (.name rfl) rfl [14] [.cell (.int p)] vT) (.cons vS (.cons vS .nil)) vT dh
  (fun ys e=>by subst e;exact⟨fun O h=>h,by exact ZW ‹_› (by decide),fun oD ρ hA=>by rw[List.map_id'] at hA;exact eJ hA⟩) ⟨fun c' y hy=>.one ((cb.icmp (.name rfl) (.cell (i:=1) rfl) .gt).iff decide_eq_true_iff.symm),fun c' y hy O=>.name vS⟩ (cB (x:="probe") (i:=1) (j:=14) (fun a ha=>⟨a,ha,rfl⟩) vS vS) ?_ (by decide) vT rfl (by decide) (by decide) vS (Zf _) (show 4<=19 by decide) (fun O=>rfl) vS rfl)
 refine .cons (.assign (v:=bv (cs.filter fun z=>decide (z<p))) (.ifexp (.icmp (.len (i:=19) (.name vS) vS (by exact(ah [.m .a .x,.m .b .a] (.l .b (.n 4611686018427387904))) hl ul)) .intE .gt) (fun h=>.conv (.itemN (i:=19) (.name vS) (.neg .intE) vS (by decide) (by exact(ai [.L .o (.t .a)] (.M (.j (.t .a)) (.j .u))) h) (by decide)) (eY h) rfl) (fun h=>.conv .nonE (ii h) rfl)) ?_)
 refine .cons (.assign (v:=bM (cs.filter fun z=>decide (p<z))) (.ifexp (.icmp (.len (i:=20) (.name vS) vS (by exact(ah [.m .a .x,.m .b .a] (.l .b (.n 4611686018427387904))) hl vl)) .intE .gt) (fun h=>.conv (.item (i:=20) (.name vS) .intE vS (by decide) h (by decide)) (dZ h) rfl) (fun h=>.conv .nonE (gC h) rfl)) ?_)
 refine .cons (.ite (.orF (.cmp (.conv (.mcall (.name vS) vS vS rfl (ie w) (.cons (.cell (i:=14) vS) .nil) (ae.ro (kb w bs b3 p) [1,2,3] (ab rfl rfl rfl) (eE bs _ _)).cal) (B.before p) rfl) (.name vS) (.neV (bQ _) (bQ _))) (by simp)
  (.orF (.cmp (.conv (.mcall (.name vS) vS vS rfl (qo w) (.cons (.cell (i:=14) vS) .nil) (ae.ro (mQ w cs (by exact ZW ‹_› (by decide)) B.up p) [4,5,6] (ab rfl rfl rfl) (lu _ _)).cal) (nk _) rfl) (.name vS) (.neV (bQ _) (bQ _))) (by simp) .or_nil)) (fun h=>h.elim) fun O=>.nil ?_)
 refine .cons (.ite (.orF (.cmp (.conv (.mcall (.name vS) vS vS rfl (jG w) (.cons (.cell (i:=14) vS) .nil) (ae.ro (ma w bs b3 p) [1,2,3] (ab rfl rfl rfl) (fN bs _ _ _)).cal) (B.after p) rfl) (.name vS) (.neV (bn _) (bn _))) (by simp)
  (.orF (.cmp (.conv (.mcall (.name vS) vS vS rfl (qp w) (.cons (.cell (i:=14) vS) .nil) (ae.ro (o4 w cs (by exact ZW ‹_› (by decide)) B.up p) [4,5,6] (ab rfl rfl rfl) (lu _ _)).cal) (nl _) rfl) (.name vS) (.neV (bn _) (bn _))) (by simp) .or_nil)) (fun h=>h.elim) fun O=>.nil ?_)
 refine .cons (.assign (v:=bM cs) (.ifexp (.icmp (.len (i:=15) (.name vS) vS (by exact ZX ‹_› (by decide))) .intE .gt) (fun h=>.conv (.item (i:=15) (.name vS) .intE vS (by decide) h (by decide)) (dZ h) rfl) (fun h=>.conv .nonE (gC h) rfl)) ?_)
 refine .cons (.assign (v:=bv cs) (.ifexp (.icmp (.len (i:=15) (.name vS) vS (by exact ZX ‹_› (by decide))) .intE .gt) (fun h=>.conv (.itemN (i:=15) (.name vS) (.neg .intE) vS (by decide) (by exact(ai [.L .o (.t .a)] (.M (.j (.t .a)) (.j .u))) h) (by decide)) (eY h) rfl) (fun h=>.conv .nonE (ii h) rfl)) ?_)
 refine .cons (.ite (.orF (.cmp (.conv (.mcall0 (.name vS) vS vS rfl (nX w) (ae.ro (qX w bs b3) [1,2,3] (ab rfl rfl rfl) (fN bs _ _ _)).cal) B.first rfl) (.name vS) (.neV (bn _) (bn _))) (by simp)
  (.orF (.cmp (.conv (.mcall0 (.name vS) vS vS rfl (lK w) (ae.ro (o6 w bs b3) [1,2,3] (ab rfl rfl rfl) (eE bs _ _)).cal) B.last rfl) (.name vS) (.neV (bQ _) (bQ _))) (by simp)
  (.orF (.cmp (.conv (.mcall0 (.name vS) vS vS rfl (mD w) (ae.det (o5 w R) [7,8,9,10,11] (.cons rfl (.cons rfl (ab rfl rfl rfl))) (by decide) vT rfl).cal) (kS _ _) rfl) (.name vS) (.neV (bn _) (bn _))) (by simp) .or_nil))) (fun h=>h.elim) fun O=>.nil ?_)
 refine .cons (.ite (.and (φ:=0<(cs.length:Int)) (ψ:=False) (.icmp (.len (i:=15) (.name vS) vS (by exact ZX ‹_› (by decide))) .intE .gt) fun h=>.iff (.and (φ:=False) (ψ:=True) (.orF (.cmp (.conv (.mcall0 (.name vS) vS vS rfl (mC w) (ae.ro (oY w cs (by exact(ai [.L .o (.t .a)] (.l .o .a)) h)) [4,5,6] (ab rfl rfl rfl)).cal) (dZ h) rfl) (.name vS) (.neV (bn _) (bn _))) (by simp)
  (.orF (.cmp (.conv (.mcall0 (.name vS) vS vS rfl (nU w) (ae.ro (qR w cs (by exact(ai [.L .o (.t .a)] (.l .o .a)) h)) [4,5,6] (ab rfl rfl rfl)).cal) ((congrArg (fun k=>SV.int (cs.getD k 0)) (sS cs.length).symm).trans (eY h)) rfl) (.name vS) (.neV (bQ _) (bQ _))) (by simp) .or_nil)) fun h=>h.elim) (by decide)) (fun h=>h.2.elim) fun O=>.nil ?_)
 refine .cons (.ite (.and (φ:=(cs.length:Int)<20) (ψ:=False) (.icmp (.len (i:=15) (.name rfl) rfl (by exact ZX ‹_› (by decide))) .intE .lt) fun h=>.iff (.and (φ:=False) (ψ:=True) ((cb.cmp (.conv (.mcall0 (.name rfl) rfl rfl rfl (nW w) (ae.det (qT w R (fun e=>by rw[e,List.length_nil] at cl;exact(ai [.e (.p .o .a) .x,.L (.t .a) .x] .f) cl h)) [7,8,9,10,11] (.cons rfl (.cons rfl (ab rfl rfl rfl))) (by decide) rfl rfl).cal) (mH _ _) rfl) (.name rfl) (.neV (bQ _) (bQ _))).iff (by simp)) fun h=>h.elim) (by decide)) (fun h=>h.2.elim) fun O=>.nil ?_)
 refine .cons (.ite (.cmp2 .intE (.cell (i:=14) vS) .intE (.int .le) (.int .lt)) (fun h=>?_) fun O=>.nil (.cons (.ret .boolE (.ret (.obj (·=so)::kv bs cs rs p) ⟨rfl,so,rfl⟩ (.cons <| .cons <| .cons <| .cons <| .cons <| .cons <| .cons <| .cons <| .cons <| .cons <| .cons <| .cons <| .cons <| .cons <| .cons <| .nil) vT))))
 refine .cons (.assign (.cmp (v:=decide (p∈cs)) (.cell (i:=14) vS) (.name vS) (.inS (i:=0) vS (fun o e=>by refine aa (e ..) ?_;exact hso) (by exact ZW ‹_› (by decide))) decide_eq_true_iff) ?_)
 exact .cons (.ret (.and3 (a:=true) (b:=true) (d:=true)
  (.cmp (.cmp (v:=decide (p∈cs)) (.cell (i:=14) vS) (.name vS) (dC (k:=.bits bs) B (fun O O O e=>nomatch e) B.up B.rng (b:=1) rfl rfl rfl h.1).1 decide_eq_true_iff) (.name vS) .eqB (by simp))
  (.cmp (.cmp (v:=decide (p∈cs)) (.cell (i:=14) vS) (.name vS) (dC (k:=.sis cs) rfl (fun O O O e=>nomatch e) B.up B.rng (b:=4) rfl rfl rfl h.1).1 decide_eq_true_iff) (.name vS) .eqB (by simp))
  (.cmp (.cmp (v:=decide (p∈cs)) (.cell (i:=14) vS) (.name vS) (.isin (.inst (i:=7) vS vS (pp w) (by k_is) (ae.ro (fy w rs (by exact Nat.le_of_eq ‹_›) p h.1) [7,8,9,10,11] (.cons rfl (.cons rfl (ab rfl rfl rfl)))).cal)) (by rw[R.has h.1 h.2])) (.name vS) .eqB (by simp))) (.ret (.obj (·=so)::kv bs cs rs p) ⟨rfl,so,rfl⟩ (.cons <| .cons <| .cons <| .cons <| .cons <| .cons <| .cons <| .cons <| .cons <| .cons <| .cons <| .cons <| .cons <| .cons <| .cons <| .nil) vT))
example:True:=by w_top off;trivial
noncomputable abbrev f0(i:Nat):SO:=.tab i 589 ⟨381,41,381,78⟩
noncomputable abbrev fZ(i:Nat):SO:=.tab i 596 ⟨384,41,384,82⟩
theorem sd(w:World):nsIn (hd.heap_1 w.params) mainGlobals "ReverseIdSet"=some (some (.ref 714)):=by k_is
theorem r7(w:World):keepIn (hd.heap_1 w.params) (.ref 714)=true:=by k_is
theorem rW(w:World):makesIn (hd.heap_1 w.params) 714=true:=by k_is
theorem r9(w:World):findIn (hd.heap_1 w.params) (.ref 714) "__init__"=some (some (.ref 662)):=by k_is
theorem qN(w:World):nsIn (hd.heap_1 w.params) mainGlobals "_law_some"=some (some (.ref 728)):=by k_is
theorem qC(w:World):keepIn (hd.heap_1 w.params) (.ref 728)=true:=by k_is
theorem bX(w:World):nsIn (hd.heap_1 w.params) mainGlobals "_law_other"=some (some (.ref 735)):=by k_is
theorem qO(w:World):nsIn (hd.heap_1 w.params) mainGlobals "_law_same"=some (some (.ref 740)):=by k_is
theorem qD(w:World):keepIn (hd.heap_1 w.params) (.ref 740)=true:=by k_is
section
variable{w:World}{κ:CK}{c:Cx w κ}{Γ Γ₁:G}
theorem ad.gList{ρ:LQ}{s:Shared}{a:Addr}{items:Array Value}(S:ad c Γ ρ s)(hG:c.o.g.IsList a items):s.heap.IsList a items:=by
 obtain⟨m,os,H,F,N,hm,LY,hs⟩:=S
 obtain⟨o,e,r⟩:=hG
 exact⟨o,F.keep _ _ e,r⟩
theorem Ev.lenG{pos fp:Pos}{e:Expr}{a:Addr}{vs:LW}{cs:LI}(h:Ev c Γ e (.val (.ref a)) Γ₁)(hG:c.o.g.IsList a vs.toArray)(hI:IntsAre vs cs)(hl:cs.length<2^62)(hx:κ.cs.names.lookup (Str.ofString "len")=some .globalImplicit:=by exact vS)(hs:∀env,starEach [e] env=(false,eval e env)::starEach [] env:=by intros;rfl):Ev c Γ (.Call (.Name "len" fp) [e] [] pos) (.int cs.length) Γ₁ :=
 .call_bi (.bi (by k_is) boot_len (hx:=hx)) (.cons h .nil hs) (.one fun ρ s Q E u S hv K=>by
  obtain rfl:=hv.valI
  exact len_ints_fit (S.gList hG) hI hl (K _ _ (.int _ _))) hs
theorem Ev.itemG{l k:Expr}{pos:Pos}{a:Addr}{vs:LW}{cs:LI}{z:Int}{Γ2:G}(hl:Ev c Γ l (.val (.ref a)) Γ₁)(hk:Ev c Γ₁ k (.int z) Γ2)(hG:c.o.g.IsList a vs.toArray)(hI:IntsAre vs cs)(h0:0<=z)(h1:z<cs.length)(h2:z<2^63)
  (hs:∀o i,subscripted k false o i=operate [o,i] (getItem o i):=by intros;with_unfolding_all rfl):Ev c Γ (.Subscript l k pos) (.int (cs.getD z.toNat 0)) Γ2:=fun ρ s Q E S K =>
 Subscript_ (hl ρ s _ E S fun u ρ1 sj1 hp1 q1 Sj1=>by
  refine hk ρ1 sj1 _ E Sj1 fun u2 ρ₂ sj2 hp2 q2 Sj2=>?_
  obtain⟨_,rfl⟩:=q2.intI
  obtain rfl:=q1.valI
  exact item_anyK (Sj2.gList hG) hI h0 h1 h2 (fun t=>K _ ρ₂ _ (hp1.trans hp2) (.int _ _) Sj2) (hs _ _))
theorem Ev.slice4{l:Expr}{a:Addr}{vs:LW}{kk:Nat}{cs:LI}{p1 p2 pos:Pos}(hl:Ev c Γ l (.val (.ref a)) Γ₁)(hG:c.o.g.IsList a vs.toArray)(hI:IntsAre vs cs)(hlen:cs.length<=1000)
  (hs:∀o i,subscripted (.Slice none (some (.Constant (.int 4) kk p1)) none p2) false o i=operate [i,o] (getItem o i):=by intros;with_unfolding_all rfl) (ht:∀o r,letTemporaryGo l o r=pure ():=by intros;rfl) :
  Ev c Γ (.Subscript l (.Slice none (some (.Constant (.int 4) kk p1)) none p2) pos) (.ref Γ₁.o.length) (Γ₁.addO (.nums (cs.take 4))):=fun ρ s Q E S K =>
 Subscript_ (hl ρ s _ E S fun u ρ1 sj1 hp1 q1 Sj1=>by
  have hL:=Sj1.gList hG
  obtain⟨m,os,H,F,N,hm,LY,hs'⟩:=Sj1
  obtain rfl:=q1.valI
  refine wpAny_Slice (ZM ?_)
  refine aa (evalPart_some ..) ?_
  refine wpAny_Constant_int (ZM ?_)
  have hv:=hI.length
  have e4:IntsAre (slicePick vs.toArray none (some 4) none).toList (cs.take 4):=by
   refine aa (kms_pick_eq ..) ?_
   show IntsAre ((vs.drop 0).take (min 4 vs.length-0)) (cs.take 4)
   refine aa (List.drop_zero ..) (aa (Nat.sub_zero ..) (aa (kmk_take_min ..) ?_))
   exact hI.take 4
  refine kmk_slice_ints (s:={ sj1 with toks:=_ }) F N hL .none (.int 4 _) hI e4 rfl (fun D ws h' F' N' hlt hI' O O=>?_) (hs _ _) (ht _) (by simp[sizeLine];exact(ah [.m .a .q,.e .b .a] (.m .b (.n 16777216))) hlen hv)
  obtain⟨S',e⟩:=ad.made (s:={ sj1 with heap:=h',toks:=_ }) hm LY (.nums hI') (fun p hp=>hlt p hp) F' N' (hs'.heap h' _)
  exact K _ _ _ (hp1.trans (ZO _ _)) e S')
end
section
variable{w:World}{κ:CK}{c:Cx w κ}{Γ Γ₁:G}
theorem oA{xs:LW}:∀{n:Nat} {a:Int},xs.length=n->(∀(i:Nat) (v:Value),xs[i]?=some v->∃t,v=Value.int (a+i*1) t)->IntsAre xs (cw 1 n a):=by
 induction xs with
|nil=>intro n a e _;subst e;exact .nil
|cons x xs ih =>
  intro n a e h
  cases n with
 |zero=>exact nomatch e
 |succ n =>
   obtain⟨t,e1⟩:=h 0 x vS
   rw[show a+((0:Nat):Int)*1=a by exact(aO [] (.E (.p .A (.r (.t .o) 1)) .A))] at e1
   refine aa (e1 ..) ?_
   refine .cons _ _ (ih (a:=a+1) (by simpa using e) fun i v hv=>?_)
   obtain⟨t,e2⟩:=h (i+1) v hv
   exact⟨t,by refine aa (e2 ..) ?_;congr 1;exact(aR [] (.E (.p .A (.r (.t (.p .a .u)) 1)) (.p (.p .A .u) (.r (.t .a) 1))))⟩
theorem Ev.listR{f:Str}{lp fp rpos pos:Pos}{e:Expr}{n:Nat}(hl:Ev c Γ (.Name "list" lp) (.val (.type "list")) Γ)(hf:Ev c Γ (.Name f fp) (.val (.type "range")) Γ)(he:Ev c Γ e (.int n) Γ₁)(hn:n<=1000)
  (hst:∀env,starEach [e] env=(false,eval e env)::starEach [] env:=by intros;rfl) (hst2:∀env,starEach [.Call (.Name f fp) [e] [] rpos] env=(false,eval (.Call (.Name f fp) [e] [] rpos) env)::starEach [] env:=by intros;rfl) :
  Ev c Γ (.Call (.Name "list" lp) [.Call (.Name f fp) [e] [] rpos] [] pos) (.ref Γ₁.o.length) (Γ₁.addO (.nums (cw 1 n 0))):=fun ρ s Q E S KK =>
 Call_ (hl ρ s _ E S fun u ρ1 sj1 hp1 q1 Sj1=>by
  obtain rfl:=q1.valI
  refine PySem.Pv.callWith_type1 (args_cons (Call_ (hf ρ1 sj1 _ E Sj1 fun u2 ρ₂ sj2 hp2 q2 Sj2=>?_)) (hst2 _)) (hst2 _) rfl
  obtain rfl:=q2.valI
  refine PySem.Pv.callWith_type1 (args_cons (he ρ₂ sj2 _ E Sj2 fun u3 ρ3 sj3 hp3 q3 S3=>args_nil ?_) (hst _)) (hst _) rfl
  obtain⟨_,rfl⟩:=q3.intI
  obtain⟨m,os,H,F,N,hm,LY,hs⟩:=S3
  refine range1_rows F N fun h' tk tj1 uj1 v1 hR F' N' O=>args_nil ?_
  obtain⟨r1,r2⟩:=lD (b:=(n:Int)) rfl hn
  refine call_list_range (s:={ sj3 with heap:=h',toks:=tk }) rfl hR r1 r2 (by exact ZW ‹_› (by decide)) fun h'' tk' acc' c' hk hD hI=>?_
  have hI':IntsAre acc'.toList (cw 1 n 0):=oA (by simpa using hI.1) fun i v hv=>hI.2 i v (by simpa using hv)
  have hlt:∀p∈aS ρ3 os H,p.1<h'.objs.size:=fun p hp=>Zg (N' p hp).1
  have lL:c.L<h'.objs.size:=F'.ns.lt
  obtain⟨S',e⟩:=ad.made (s:={ sj3 with heap:=h'',toks:=tk' }) (q:=h'.objs.size) (o':=listOf acc'.toList.toArray c') hm LY (.nums hI') hlt (F'.keeps hk) (fun q hq=>by
   rcases ZT.mp hq with rfl|hq
   ·exact⟨by refine aa (Array.toArray_toList ..) ?_;exact hD,Nat.ne_of_gt lL,Zs (ZW F'.above (Zr lL))⟩
   ·exact⟨hk _ _ (N' q hq).1,(N' q hq).2⟩) (hs.heap h'' tk')
  exact KK _ _ _ (((hp1.trans hp2).trans hp3).trans (ZO _ _)) e S')
end
section
variable{w:World}{κ:CK}{c:Cx w κ}{Γ Γ₁ Γ':G}
theorem Ev.call_ty0{x:Str}{xp pos:Pos}{T:String}{v:SV}(hf:Ev c Γ (.Name x xp) (.val (.type T)) Γ₁)(hc:ax c Γ₁ (.val (.type T)) [] [] v Γ'):Ev c Γ (.Call (.Name x xp) [] [] pos) v Γ':=fun ρ s Q E S k =>
 Call_ (hf ρ s _ E S fun u ρ1 sj1 hp1 q1 Sj1=>by
  obtain rfl:=q1.valI
  refine PySem.callWith_type rfl (wpAny_of_eq (a:=⟨[],[]⟩) (by rfl) ?_)
  exact hc ρ1 sj1 Q E _ [] [] Sj1 (.val _) .nil rfl .nil fun u ρ3 sj3 hp3 hv S3=>k u ρ3 sj3 (hp1.trans hp3) hv S3)
end
example:True:=by w_top off;trivial
section
variable{bs rs cs:LI}
theorem ar.nil0:ar [] []:=⟨by decide,(fun O h=>nomatch h),.nil,(fun O h=>nomatch h),fun y hy=>by refine aa (bW _ hy ..) ?_;simp[tb]⟩
theorem ar.zero{k:Nat}(hk:k<=3):ar (List.replicate k 0) []:=ar.nil0.zeros (by refine aa (List.length_nil ..) ?_;exact(ai [.m .a .w] (.m (.p .o .a) .w)) hk)
theorem n7:∀(m:Fin 9) (j:Fin 8),tb (2^(m:Nat)-1) j=decide ((j:Nat)<m):=by decide +kernel
theorem oI(bs:LI){z:Int}(h0:0<=z):ay (eB bs) z=(decide (z/8<bs.length) && !ay bs z):=by
 refine aa (bW bs h0 ..) (aa (cA _ h0 ..) ?_)
 unfold eB
 refine aa (Zm ..) ?_
 by_cases h:z/8<bs.length
 ·refine aa (decide_eq_true h ..) (aa (Bool.true_and ..) (aa (Bool.true_and ..) (aa (ZE ..) (aa (List.getElem?_map ..) (aa (ZE ..) (aa (ZA (by lia) ..) ?_))))))
  exact(rg _ (by exact(eZ [.Q 8 .C .A .B,.T .a .A] (.l .a .y)) (dJ 8) (bz _))).trans (eQ _ _)
 ·refine aa (decide_eq_false h ..) ?_;rfl
theorem ar.inv(h:ar bs cs){i:Int}(h1:1<=bs.length)(h2:1<=i-((bs.length:Int)-1)*8)(h3:i-((bs.length:Int)-1)*8<=8)(h4:∀z∈cs,z<i)(h5:i<=20):ar (iC (eB bs) i) (fE cs i):=by
 have hl:(eB bs).length=bs.length:=Zm ..
 have hb:∀c∈eB bs,b7 c:=fun c hc=>by
  obtain⟨y,_,rfl⟩:=Zc.mp hc
  exact mf _
 refine⟨by unfold iC;refine aa (Zn ..) (aa (hl ..) ?_);exact h.len,fj hb (kj (d2 hb _)),bL _ _,fun z hz=>(bP.mp hz).1,fun z hz=>?_⟩
 unfold iC
 rw[i6 (by exact(av [.m .u .a,.e .b .a,.S .c .b .u] (.l .c .b)) h1 hl (bc _ _)) hz,bP]
 have hm:=h.mem z hz
 have hi:=oI bs hz
 have key:(ay (eB bs) z&&decide (z<i))=true<->(0<=z/\z<20)/\((z<i/\z∉cs)\/(i<=z/\z∈cs)):=by
  rw[Bool.and_eq_true,hi,Bool.and_eq_true,decide_eq_true_iff,decide_eq_true_iff,Bool.not_eq_true',<- Bool.not_eq_true,hm]
  refine⟨fun hZ37=>by obtain⟨⟨q1,q2⟩,q3⟩:=hZ37;exact⟨⟨hz,by exact Int.lt_of_lt_of_le ‹_› ‹_›⟩,.inl ⟨q3,q2⟩⟩,fun ⟨_,q2⟩=>q2.elim (fun q=>⟨⟨by lia,q.2⟩,q.1⟩) fun q=>?_⟩
  have:=h4 z q.2
  lia
 rw[<- key]
 split
 ·rename_i e
  refine aa (hl ..) (aa (eR ..) (aa (bW _ hz ..) (aa (e ..) (aa (hl ..) ?_))))
  have hf:=n7 ⟨(i-((bs.length:Int)-1)*8).toNat,by exact(c8 [.M (.s .A (.r (.s (.t .a) .u) 8)) .y,.T .b (.s .A (.r (.s (.t .a) .u) 8))] (.l .b (.n 9))) h3 (bz _)⟩ ⟨(z%8).toNat,by exact(eZ [.Q 8 .C .A .B,.T .a .A] (.l .a .y)) (dJ 8) (bz _)⟩
  dsimp only at hf
  have e8:=Int.toNat_of_nonneg (Int.ediv_nonneg hz (show (0:Int)<=8 by decide))
  rw[e,hl] at e8
  rw[hf,decide_eq_decide.mpr ((Int.toNat_lt_toNat ‹_›).trans (show z%8<i-((bs.length:Int)-1)*8<->z<i by exact(t0 [.m .u .a,.e .b .a,.e .c .d,.E (.t .e) .A,.W 8 .A .B,.T .c .A,.S .d .b .u,.S .e .a .u,.Q 8 .A .C .B] (.i (.L .C (.s .D (.r (.s (.t .a) .u) 8))) (.L .B .D))) h1 hl e e8 (aM 8) (bz _) (bc _ _) (bc _ _) (dJ 8)))]
 ·rename_i e
  refine aa (Bool.and_eq_true ..) ?_
  refine⟨fun q=>⟨q,decide_eq_true ?_⟩,fun q=>q.1⟩
  rw[hi,Bool.and_eq_true,decide_eq_true_iff] at q
  lia
theorem pZ{i:Int}(h4:∀z∈cs,z<i)(h5:i<=20)(z:Int):z∈fE cs i<->(0<=z/\z<i)/\z∉cs:=by
 rw[bP]
 exact⟨fun hZ39=>by obtain⟨q1,q2⟩:=hZ39;exact q2.elim (fun q=>⟨⟨q1.1,q.1⟩,q.2⟩) fun q=>by have:=h4 z q.2;lia,fun hZ40=>by obtain⟨q1,q2⟩:=hZ40;exact⟨⟨q1.1,by exact(bo [.M .A .x,.d (.M .o .B) (.L .B .A)] (.L .B .x)) h5 q1⟩,.inl ⟨q1.2,q2⟩⟩⟩
theorem i3(fs:LI):∀{cs:LI},Up cs->Up (fs.foldl aX cs)/\∀z,z∈fs.foldl aX cs<->z∈cs\/z∈fs:=by
 induction fs with
|nil=>exact fun h=>⟨h,fun z=>by simp⟩
|cons f fs ih =>
  intro cs h
  obtain⟨g1,g2⟩:=br f h
  obtain⟨g3,g4⟩:=ih g1
  exact⟨g3,fun z=>by rw[List.foldl_cons,g4,g2,ZT];grind⟩
theorem lU{fs:LI}(h:Up fs):fs.foldl aX []=fs:=b6 (i3 fs .nil).1 h fun z=>by rw[(i3 fs .nil).2];simp
theorem tB(fs:LI):∀{bs:LI},bs.length=3->(∀z∈fs,0<=z/\z<20)->(fs.foldl aP bs).length=3:=by
 induction fs with
|nil=>exact fun h O=>h
|cons f fs ih=>exact fun h hz=>ih (by refine aa (jl h (hz f (.head _)).1 (hz f (.head _)).2 ..) ?_;unfold fG;refine aa (Zn ..) ?_;exact h) fun z hz'=>hz z (.tail _ hz')
theorem sX:bk ((cw 1 20 0).foldl aP (List.replicate 3 0)) []:=by
 have hz:∀z∈cw 1 20 0,0<=z/\z<20:=fun z h=>by have:=(aV 20 0 z).mp h;assumption
 refine⟨tB _ rfl hz,?_,.nil,fun O h=>nomatch h⟩
 have:=(ar.zero (k:=3) (by decide)).adds (cw 1 20 0) hz
 rwa [lU (eV 20 0),show cw 1 20 0=bK [] from b6 (eV 20 0) (bq _) fun z=>by rw[aW,aV];simp] at this
theorem rk{fs:LI}(hU:Up fs)(hz:∀z∈fs,0<=z/\z<20){k:Nat}(hk:k<=3):ar (fs.foldl aP (List.replicate k 0)) fs:=by
 have:=(ar.zero hk).adds fs hz
 rwa [lU hU] at this
theorem lw{z:Int}(h0:0<=z)(h1:z<8):0<=pO z/\pO z<20:=by
 unfold pO
 split <;> lia
theorem mr{z y:Int}(h:y∈fq z):0<=y/\y<20:=by
 obtain⟨x,hx,rfl⟩:=Zc.mp h
 have:=(aV 8 0 x).mp (Ze.mp hx).1
 exact lw this.1 (by exact(aO [.d (.M .o .A) (.L .A (.p .o (.t .y)))] (.L .A .y)) this)
theorem nr(z:Int):Up (fq z):=by
 refine List.pairwise_map.mpr (((eV 8 0).filter _).imp_of_mem fun {a b} ha hb h=>?_)
 have h1:=(aV 8 0 a).mp (Ze.mp ha).1
 unfold pO
 split <;> split <;> lia
theorem ms(z:Int):(fq z).length<=8:=by
 unfold fq
 refine aa (Zm ..) ?_
 refine ZW (List.length_filter_le _ _) ?_
 refine aa (fH ..) ?_
 exact ZZ _
end
theorem gq:∀cs:List Int,∃M:Int,(cs≠[]->M∈cs)/\(cs=[]->M=-1)/\∀y∈cs,y<=M
|[]=>⟨-1,fun h=>absurd rfl h,fun O=>rfl,fun O h=>nomatch h⟩
|a::r=>by
  obtain⟨M,h1,h2,h3⟩:=gq r
  by_cases h:r≠[]/\a<=M
  ·exact⟨M,fun O=>.tail _ (h1 h.1),(fun h=>nomatch h),fun y hy=>by
    rcases ZT.mp hy with rfl|hy
    ·exact h.2
    ·exact h3 y hy⟩
  ·refine⟨a,fun O=>.head _,(fun h=>nomatch h),fun y hy=>?_⟩
   rcases ZT.mp hy with rfl|hy
   ·exact Int.le_refl _
   ·have:=h3 y hy
    have h4:r≠[]:=fun e=>by rw[e] at hy;exact nomatch hy
    have h5:¬a<=M:=fun q=>h ⟨h4,q⟩
    lia
theorem s8{cs:LI}(hU:Up cs){M i:Int}(hM:M∈cs)(h:i<=M):lo cs i<cs.length:=by
 obtain⟨j,hj,e⟩:=ZF.mp hM
 obtain⟨h1,h2,_⟩:=dD hU i
 rcases Zq (lo cs i) cs.length with q|q
 ·exact q
 ·have:=h2 j (by exact ZY ‹_› ‹_›)
  rw[ZE,ZA hj,Option.getD_some,e] at this
  exact(dj [.M .A .B,.L .B .A] (.l .a .b)) h this
example:True:=by w_top off;trivial
section
variable{w:World}{κ:CK}{c:Cx w κ}{Γ:G}{P:SF->G->Prop}{ss:LS}
theorem Ex.soft(i:Nat){so0:SO}(so:SO)(h:Γ.o[i]?=some so0)(hs:∀ρ o,ρ.length=Γ.o.length->so0.Is w ρ o->so.Is w ρ o)(k:Ex c (Γ.setO i so) ss P):Ex c Γ ss P:=fun ρ s Q E hE S K=>by
 refine k ρ s Q E hE ?_ K
 obtain⟨m,os,H,F,N,hm,LY,hs'⟩:=S
 refine .mk m os H F N hm (LY.know fun o e=>?_) hs'
 obtain⟨a,o',ha,ho,hi,hmem⟩:=LY.slot h
 rw[ho] at e;obtain rfl:=ZK e
 exact hs _ _ (LY.hl.trans LY.hg.symm) hi
theorem Ex.have1{α:Type}{s1:Stmt}{rest:LS}(J:α->Prop)(Γf:α->G)(k:∀a,J a->Ex c (Γf a) rest P)(h:(∀a,J a->Ex c (Γf a) rest P)->Ex c Γ (s1::rest) P):Ex c Γ (s1::rest) P:=h k
theorem Ex.have4{α:Type}{s1 s2 s3 s4:Stmt}{rest:LS}(J:α->Prop)(Γf:α->G)(k:∀a,J a->Ex c (Γf a) rest P)(h:(∀a,J a->Ex c (Γf a) rest P)->Ex c Γ (s1::s2::s3::s4::rest) P):Ex c Γ (s1::s2::s3::s4::rest) P:=h k
theorem Fits.of'{τ σ:LN}{l:LO}(h:σ.map (fun i=>Γ.o[i]?)=l.map fun so=>some (so.ren τ)):Fits Γ τ σ l:=by
 induction σ generalizing l with
|nil=>cases l with
 |nil=>exact .nil
 |cons=>exact nomatch h
|cons i σ ih=>cases l with
 |nil=>exact nomatch h
 |cons so l =>
   rw[List.map_cons,List.map_cons] at h
   obtain⟨h1,h2⟩:=List.cons.inj h
   exact .cons h1 (ih h2)
theorem pQ.of'{σ:LN}{l:LV}(h:l.map (fun e=>Γ.m.lookup e.1)=l.map fun e=>some (e.2.ren σ)):pQ Γ σ l:=by
 induction l with
|nil=>exact .nil
|cons e l ih =>
  rw[List.map_cons,List.map_cons] at h
  obtain⟨h1,h2⟩:=List.cons.inj h
  exact .cons h1 (ih h2)
end
noncomputable def c9:SO:=.obj fun o=>∃v,o.data=.cell v
theorem jj{w:World}:∀(ρ:LQ) o,c9.Is w ρ o->∃v0,o.data=.cell v0:=fun O O h=>by have h:=h.objI;exact h
theorem jk{w:World}{n:Nat}{v:SV}:∀(ρ:LQ) o,ρ.length=n->(SO.cell v).Is w ρ o->c9.Is w ρ o:=fun ρ o O h=>.obj (cC ρ o h)
theorem d3{w:World}{n:Nat}:∀(ρ:LQ) o,ρ.length=n->bN.Is w ρ o->c9.Is w ρ o:=fun ρ o O h=>.obj (fg ρ o h)
noncomputable def pP(f:Bool)(k:Nat):SO:=.dep 4 k fun a b o=>a=478/\o=tabObj (bif f then #[rawInt 294,rawInt 37,.ref b] else #[])
noncomputable def rZ(f:Bool):SO:=.obj fun o=>f=true->∃vs t,o.data=.fields vs/\vs[1]?=some (.str jM t)
theorem mF{w:World}{n:Nat}{so:SO}:∀(ρ:LQ) o,ρ.length=n->so.Is w ρ o->(rZ false).Is w ρ o:=fun O O O O=>.obj (fun h=>nomatch h)
theorem jJ{w:World}{n:Nat}:∀(ρ:LQ) o,ρ.length=n->cF.Is w ρ o->(rZ true).Is w ρ o:=fun O O O h=>by have h:=h.objI;exact .obj fun O=>h
theorem ot{w:World}{n:Nat}:∀(ρ:LQ) o,ρ.length=n->(rZ true).Is w ρ o->cF.Is w ρ o:=fun O O O h=>by have h:=h.objI;exact .obj (h vT)
theorem s7{w:World}{n k:Nat}:∀(ρ:LQ) o,ρ.length=n->(pP false k).Is w ρ o->(rn 4).Is w ρ o:=fun O O O h=>by replace h:=h.depI;obtain⟨_,_,h,h',hP⟩:=h;exact .dep h h hP
theorem s5{w:World}{n k:Nat}:∀(ρ:LQ) o,ρ.length=n->(pP true k).Is w ρ o->(qx 4 k).Is w ρ o:=fun O O O h=>by replace h:=h.depI;obtain⟨_,_,h,h',hP⟩:=h;exact .dep h h' hP
theorem rH{w:World}{n k:Nat}:∀(ρ:LQ) o,ρ.length=n->(qx 4 k).Is w ρ o->(pP true k).Is w ρ o:=fun O O O h=>by replace h:=h.depI;obtain⟨_,_,h,h',hP⟩:=h;exact .dep h h' hP
theorem tJ{w:World}{n k:Nat}(hk:k<n):∀(ρ:LQ) o,ρ.length=n->(rn 4).Is w ρ o->(pP false k).Is w ρ o:=fun O O hl h=>by replace h:=h.depI;obtain⟨_,_,h,h',hP⟩:=h;exact .dep h (ZA (by exact Za ‹_› (Eq.symm ‹_›))) hP
theorem iK{w:World}{n:Nat}{so:Obj}{cs:LI}(h:aB w cs so):∀(ρ:LQ) o,ρ.length=n->(SO.obj (·=so)).Is w ρ o->(SO.obj (aB w cs)).Is w ρ o:=fun O O O q=>by have q:=q.objI;exact .obj (by refine aa (q ..) ?_;exact h)
theorem qt(w:World):am w 514 "update" 469:=⟨by k_is,by k_is,by k_is,by k_is⟩
theorem qk(w:World):am w 646 "update" 173:=⟨by k_is,by k_is,by k_is,by k_is⟩
theorem qq(w:World):am w 714 "update" 173:=⟨by k_is,by k_is,by k_is,by k_is⟩
theorem iW(w:World):am w 514 "intersection_update" 476:=⟨by k_is,by k_is,by k_is,by k_is⟩
theorem iS(w:World):am w 646 "intersection_update" 594:=⟨by k_is,by k_is,by k_is,by k_is⟩
theorem iV(w:World):am w 714 "intersection_update" 180:=⟨by k_is,by k_is,by k_is,by k_is⟩
theorem eg(w:World):am w 514 "difference_update" 483:=⟨by k_is,by k_is,by k_is,by k_is⟩
theorem gk(w:World):am w 646 "difference_update" 601:=⟨by k_is,by k_is,by k_is,by k_is⟩
theorem ef(w:World):am w 714 "difference_update" 187:=⟨by k_is,by k_is,by k_is,by k_is⟩
theorem qu(w:World):am w 514 "invert_update" 490:=⟨by k_is,by k_is,by k_is,by k_is⟩
theorem ql(w:World):am w 646 "invert_update" 194:=⟨by k_is,by k_is,by k_is,by k_is⟩
theorem qr(w:World):am w 714 "invert_update" 194:=⟨by k_is,by k_is,by k_is,by k_is⟩
theorem nZ(w:World):am w 514 "copy" 434:=⟨by k_is,by k_is,by k_is,by k_is⟩
theorem nV(w:World):am w 646 "copy" 538:=⟨by k_is,by k_is,by k_is,by k_is⟩
theorem qv(w:World):am w 514 "clear" 441:=⟨by k_is,by k_is,by k_is,by k_is⟩
theorem qm(w:World):am w 646 "clear" 587:=⟨by k_is,by k_is,by k_is,by k_is⟩
example:True:=by w_top off;trivial
inductive mj{α:Type}(J:α->Prop)(Γf:α->G):SF->G->Prop
|next (a:α) (h:J a):mj J Γf .next (Γf a)
section
variable{w:World}{κ:CK}{c:Cx w κ}{Γ Γ₁:G}{P:SF->G->Prop}
theorem bJ.forListS{α:Type}{x:Str}{px pos:Pos}{iter:Expr}{body:LS}{j j':Nat}{fs:LI}(J:α->Prop)(Γf:α->G)(n₁:Nat)(aj0:α)(τ:LN)(he:Ev c Γ iter (.ref j) Γ₁)(h1:Γ₁.o[j]?=some (.nums fs))(hj2:Nat.blt j Γ₁.o.length=true)(hτ:Fits Γ₁ τ τ (Γf aj0).o)(hm:pQ Γ₁ τ (Γf aj0).m)(ha:J aj0)
  (hfit:∀a,(Γf a).fit=true) (hlen:∀a,Nat.ble n₁ (Γf a).o.length=true) (hj:τ[j']?=some j) (hΓ:∀a,(Γf a).o[j']?=some (.nums fs))
  (turn:∀(c':Cx w { κ with n:=n₁ }) z a,J a->Ex c' ((Γf a).put x (.int z)) body (mj J Γf)) (done:∀a,J a->P .next (Γf a))
  (nd:τ.Nodup) (hpre:∀i,i<κ.n->τ[i]?=some i) (hnf:κ.nf=0) (hj':Nat.blt j' n₁=true) (hn0:Nat.ble κ.n n₁=true)
  (hx:κ.cs.names.lookup x=some .local:=by exact vS) (hs:∀env (v:Value),foldedSetIterable iter env v=pure v:=by intros;rfl):bJ c Γ (.For (.Name x px) iter body [] pos) P:=fun ρ s Q E hE S KK =>
 wpAny_For ((bH.of (σ:=[j]) (v:=.ref 0) (K₀:=(·=[.nums fs])) he (bC w fs 0 1 (by decide) fun l h=>by refine aa (h ..) ?_;rfl) ⟨[.nums fs],.cons (so:=.nums fs) h1 .nil,vT,rfl⟩ vT (List.nodup_cons.mpr ⟨(fun h=>nomatch h),List.nodup_nil⟩) (by simp[hj2]) vT) ρ s _ E S fun it ρ1 sj2 hp IH=>by
  cases IH with|mk T b K l own pg ρc hOk hself hit hb n2 p2 hsr hg hg2 ho Sj2 =>
  obtain⟨ρ',pS,S'⟩:=Sj2.sel τ hτ hm (hfit aj0) nd hpre hnf
  have hl:=S'.len
  have g1:=ZJ hn0
  have g2:=ZJ (hlen aj0)
  have hl1:(ρ'.take n₁).length=n₁:=by refine aa (Zv ..) ?_;exact(aJ [.e .a .b,.m .c .b,.I .d .c .a] (.e .d .c)) hl g2 (iX _ _)
  have hpp:c.ρ0<+:ρ'.take n₁:=List.prefix_take_iff.mpr ⟨S'.pre,by refine aa (c.len ..) ?_;exact g1⟩
  have hjn:j'<n₁:=by simpa [Nat.blt_eq] using hj'
  have p3:∀ij0 i:Nat,[j'][ij0]?=some i->∃b,ρc[ij0]?=some b/\(ρ'.take n₁)[i]?=some b:=fun ij0 i e=>by
   obtain rfl:ij0=0:=by
    rcases ij0 with _|ij0
    ·rfl
    ·exact nomatch e
   obtain rfl:=ZK e
   have h2:ρ'[j']?=some (ρ'[j']'(by exact(aJ [.e .a .b,.m .c .b,.l .d .c] (.l .d .a)) hl g2 hjn)):=ZA _
   exact⟨_,(p2 0 j vS).trans ((pS j' j hj).symm.trans h2),by refine aa (Zy ..) (aa (if_pos hjn ..) ?_);exact h2⟩
  obtain⟨o1,o2,o3⟩:=jE fs T K l hOk
  have S3:ad (c.lp (ρ'.take n₁) hpp hl1 own sj2) (Γf aj0) ρ' sj2:=S'.re (List.take_prefix _ _)
  exact pK.loop (fun K l a=>J a/\K [.nums fs]/\∀e∈l,e.2 [.nums fs]) Γf (show ρc.length=[j'].length from n2) p3 (Zf _) hb (fun K l a h=>⟨[.nums fs],.cons (so:=.nums fs) (hΓ a) .nil,vT,h.2.1⟩)
   (fun c' K z K' l a h=>(turn c' z a h.1).mono fun f Γ' hP=>by
    cases hP with|next a' h'=>exact .next a' ⟨h',h.2.2 _ (.head _),fun e he=>h.2.2 e (.tail _ he)⟩ ⟨.same,.same⟩ (hfit a') (hlen a'))
   (fun K a h=>done a h.1) hx hE (fun f fl ρ' Γ' s'=>KK f fl ρ' Γ' s') (.mk K l aj0 own pg _ rfl hit ⟨ha,o2,o3⟩ hsr hg hg2 ho S3)) (hs _)
theorem bJ.assignCc{x:Str}{px pos:Pos}{e:Expr}{v:SV}{i:Nat}{so:SO}(h:Ev c Γ e v Γ₁)(ho:Γ₁.o[i]?=some so)(hso:∀ρ o,so.Is w ρ o->∃v0,o.data=.cell v0)(K:P .next (Γ₁.setO i (.cell v)))(hc:κ.cm.lookup x=some i:=by exact vS)(hx:κ.cs.names.lookup x=some .cell:=by exact vS)(hz:Nat.ble κ.nf i=true:=by exact vT)
  (hs:swapsWith e (some (.Name x px)) pos.line c.env=pure false:=by rfl):bJ c Γ (.Assign [.Name x px] e pos) P:=fun ρ s Q E hE S KK =>
 wpAny_Assign_Name (h ρ s _ E S fun u ρ1 sj1 hp q Sj1=>by
  exact Sj1.putC q ho (hso ρ1) hc hx (ZJ hz) fun h' tk Sj2=>KK _ _ ρ1 _ _ K .next Sj2) hs
theorem Ex.to{ss:LS}(Γ':G)(h:Γ=Γ')(k:Ex c Γ' ss P):Ex c Γ ss P:=h▸k
theorem Ex.last{st:Stmt}(h:bJ c Γ st P):Ex c Γ [st] P:=fun ρ s Q E hE S K=>wpAny_execs_cons (h ρ s _ E hE S fun f fl ρ' Γ' s' p hf S'=>by
 cases hf with
|next=>exact wpAny_execs_nil (K _ _ ρ' Γ' s' p .next S')
|brk=>exact K _ _ ρ' Γ' s' p .brk S'
|cont=>exact K _ _ ρ' Γ' s' p .cont S'
|ret h=>exact K _ _ ρ' Γ' s' p (.ret h) S')
theorem bJ.retT{x:Str}{xp pos pos2:Pos}{e:Expr}{es:List Expr}{f:Addr}{lvl:Nat}{Γo:LO}{vs args:LX}{v0:SV}{T:TQ}(hf:Ev c Γ (.Name x xp) (.val (.ref f)) Γ)(hk:keepIn (hd.heap_1 w.params) (.ref f)=true)(ha:jn c Γ (e::es) vs Γ₁)(D:az w lvl f Γo args [] T)(σ:LN)(hσ:Fits Γ₁ σ σ Γo)(hargs:vs=args.map (·.ren σ))(hv0:∀v l,T v l->v=v0)(hv:∀τ,v0.ren τ=v0)(k:∀v l,T v l->P (.ret v0) (Γ₁.upd σ l))
  (hfit:(Γo.all (·.fit Γo.length)&&args.all (·.fit Γo.length)&&true)=true) (nd:σ.Nodup:=by decide) (hlv:Nat.ble lvl κ.lv=true:=by exact vT) (hz:(σ.all fun i=>Nat.ble κ.nf i)=true:=by exact vT)
  (he:∀env,starEach (e::es) env=(false,eval e env)::starEach es env:=by intros;rfl) (hp:∀env,(backTo pos (starEach es env)).any (·.1)=false:=by intros;rfl):bJ c Γ (.Return (some (.Call (.Name x xp) (e::es) [] pos)) pos2) P:=fun ρ s Q E hE S KK =>
 wpAny_Return_some (Call_ (hf ρ s _ E S fun u ρ1 sj1 hp1 q1 Sj1=>by
  obtain rfl:=q1.valI
  refine callWith_K (bO Sj1) hk (ha pos ρ1 sj1 _ E Sj1 fun us ρ₂ sj2 hp2 q2 Sj2=>⟨bO Sj2,?_⟩) (he _) (hp _)
  exact wpAny_call (ae.of D σ hσ nd hfit hlv hz _ Sj2 (hargs▸q2) ⟨rfl,.nil⟩ fun v l u ρ3 sj3 hT O hp3 hv' S3=>KK _ _ ρ3 _ sj3 (k v l hT) (.ret (by rw[hv0 v l hT,hv] at hv';exact hv')) S3)))
end
theorem aH{σ:LN}{n:Nat}(h:σ.take n=List.range n):∀i,i<n->σ[i]?=some i:=fun i hi=>by
 have:(σ.take n)[i]?=(List.range n)[i]?:=by exact aa (h ..) rfl
 rwa [Zy,if_pos hi,List.getElem?_range hi] at this
example:True:=by w_top off;trivial
noncomputable def tH(w:World)(lvl:Nat)(f:Addr)(Γo:LO)(args:LX)(a:Addr)(vs:LW)(T:TQ):Prop :=
 ∀(o:On w) (s:Shared) (R:RS) ρ os us,o.fr=[]->o.g.IsList a vs.toArray->o.Fits lvl->o.g.StaysIn s.heap->o.g.objs.size<=s.heap.objs.size->d5 o.g s.heap (ρ.zip os)->ρ.length=os.length->Γo.length=os.length->cy w ρ Γo os->ρ.Nodup->bh ρ args us ->
  (∀u s' v l ρ' os',s'={ s with heap:=s'.heap,gens:=s'.gens,drawn:=s'.drawn,toks:=s'.toks }->aN [] s.gens s'.gens->o.g.StaysIn s'.heap->T v l->v.Is ρ' u->ρ<+:ρ'->ρ'.length=os'.length->l.length=os'.length->cy w ρ' l os'->(∀q∈ρ'.zip os',s'.heap.get? q.1=some q.2)->R (.ok (.ret u)) s') ->
  codeAny (model PR w) o.A (.call (.ref f) ⟨us,[]⟩) R s
theorem ou{w:World}{lv:Nat}{f:Addr}{args fa:LX}{lm:LV}{Γo cso:LO}{cm:List (Str×Nat)}{T:TQ}{a:Addr}{vs:LW}{name qual:Str}{params:Arguments}{body:LS}{scope:Scope}{dV kV doc pm cdv ct oc:Value}{an od:Option Addr}{osl:Array (Option Value)}(xs:List Str)
  (ho:(hd.heap_1 w.params).lookup f=some ⟨oc,od,.func (fnOf name qual params body scope dV kV doc pm an cdv ct),osl⟩) (hcd:codeIn (hd.heap_1 w.params) cdv qual=true)
  (hb:∀(ρ:LQ) (s:Shared) us ks,(hd.heap_1 w.params).In s.heap->bh ρ args us->kt ρ [] ks->∃us',bh ρ fa us'/\BindsTo s (fnOf name qual params body scope dV kV doc pm an cdv ct) ⟨us,ks⟩ (xs.zip us')) (hkind:(xs.all fun x=>scope.names.lookup x == some .local||scope.names.lookup x == some .cell)=true)
  (hnd:((cellsFrom 0 scope.names []).map (·.1)).Nodup) (hcm:((cellsFrom 0 scope.names []).map (·.1)).zip (List.range' Γo.length cso.length)=cm)
  (hM:∀ρ us',bh ρ fa us'->M0 ρ (bindL (fun x=>scope.names.lookup x) (xs.zip us') fun O=>none) lm) (hC:∀ρ us',bh ρ fa us'->sO w ρ (bindC (fun x=>scope.names.lookup x) (xs.zip us') fun O=>none) ((cellsFrom 0 scope.names []).map (·.1)) cso)
  (H:∀c:Cx w ⟨scope,lv,0,Γo.length+cso.length,cm⟩,c.ccd=cdv->c.o.g.IsList a vs.toArray->Ex c ⟨lm,Γo++cso⟩ body (RT (Γo.length+cso.length) T)) (hco:scope.isCoroutine=false) (hgen:scope.isGenerator=false) (hk:scope.kind=.function):tH w (lv+1) f Γo args a vs T:=by
 intro o s R ρ os us hfr hlist hfit st hsz hft e1 e2 hob ndρ hu K
 obtain⟨us',hu',hbind⟩:=hb ρ s us [] (o.X.keeps st) hu ⟨rfl,.nil⟩
 refine lA (hold:=[]) xs ho hcd hkind hnd hcm hM hC hco hgen hk (fun c h hg=>H c h (by refine aa (hg ..) ?_;exact hlist)) hbind hu' (by refine aa (hfr ..) ?_;exact fun O h=>nomatch h) st hsz (by refine aa (List.append_nil ..) ?_;exact hft) (fun O O O h=>nomatch h) hfit e1 e2 hob ndρ fun c c1 c2 c3 c4 c5 f' fl ρ' Γ' s' hP hF' S'=>?_
 have key:∀v u l,T v l->v.Is ρ' u->ky Γ'.o l->(Nat.ble (Γo.length+cso.length) l.length&&v.fit l.length&&l.all (·.fit l.length))=true->R (.ok (.ret u)) s':=fun v u l hT hv hle hf=>by
  obtain⟨f12,f3⟩:=ZU.mp hf
  obtain⟨f1,f2⟩:=ZU.mp f12
  have S2:=S'.weak (Γ₁:=⟨[],l⟩) ⟨.nil,hle⟩ f3 f1
  subst c1
  generalize hρ:ρ'.take l.length=ρ2 at S2
  have hv2:=hv.take f2
  obtain⟨m,os2,H,F,N,hm,LY,hs⟩:=S2
  rw[c2] at F
  exact K u s' v l _ os2 hs.eq hs.gx F.keep hT (hρ▸hv2) (c4.trans LY.pre) LY.hl LY.hg LY.ho fun q hq=>(N q (ZD _ hq)).1
 cases hP with
|ret l h hl hf=>cases hF' with|ret hv=>exact key _ _ l h hv hl hf
|next l h hl hf=>cases hF';exact key (.val .none) _ l h (.val _) hl (by simpa [SV.fit] using hf)
example:True:=by w_top off;trivial
@[irreducible] noncomputable def ix:List Int:=(cw 1 20 0).foldl aP (List.replicate 3 0)
theorem mR(w:World):az w 8 368 (tY ⟨203,31,203,61⟩++[.nums (cw 1 20 0)]) [.ref 0,.ref 3] [] (ch (.val .none) [.inst 514 1,.attrs [("bits",.ref 4)],.tab 2 363 ⟨203,31,203,61⟩,.nums (cw 1 20 0),.nums ix]):=by
 unfold ix
 exact ka w (cw 1 20 0) (Nat.le_of_eq (fH 1 20 0)) (fun z h=>by have:=(aV 20 0 z).mp h;assumption) 19 ((aV 20 0 19).mpr (by decide)) (fun z h=>by have:=(aV 20 0 z).mp h;exact(aO [.d (.M .o .A) (.L .A (.p .o (.t .x)))] (.M .A (.n 19))) this) 3 rfl
theorem m0:bk ix []:=by
 unfold ix
 exact sX
def ml(w:World)(so:SO):Prop:=∀(ρ:LQ) o,so.Is w ρ o->∃ps,o=tabObj ps
theorem d8{w:World}{i:Nat}{a:Addr}{pos:Pos}:ml w (.tab i a pos):=fun O O h=>by replace h:=h.tabI;obtain⟨_,rfl,h,ht⟩:=h;exact⟨_,rfl⟩
theorem qw{w:World}{f:Bool}{k:Nat}:ml w (pP f k):=fun O O h=>by replace h:=h.depI;obtain⟨_,_,h,h',hP⟩:=h;exact⟨_,hP.2⟩
noncomputable def sQ:SO:=.obj fun o=>∃ps,o=tabObj ps
theorem qF{w:World}:ml w sQ:=fun O O h=>by have h:=h.objI;exact h
structure LA where
 f:Bool
 bs:List Int
 rs:List Int
 cs:List Int
 p:Int
noncomputable def tc(w:World)(fs:LI)(f:Bool)(bs rs cs:LI)(ws x y z:SO)(r:LO):List SO:=sQ::dT 1::dS 2::dd 3::pP f 24::f0 5::fZ 6::x::y::z::.cell (.ref 23)::.nums fs::.attrs [("bits",.ref 14)]::.inst 514 12::.nums bs::.attrs [("data",.ref 17),("typecode",.str "I")]::.inst 646 15::.nums cs::.attrs [("bits",.ref 20)]::.inst 514 18::.nums rs::.attrs [("idset",.ref 19),("limit",.int 20)]::.inst 714 21::ws::rZ f::r
noncomputable def mG(w:World)(fs:LI)(a:LA):G:=⟨[("bits",.ref 13),("rows",.ref 16),("back",.ref 22),("probe",.int a.p)],tc w fs a.f a.bs a.rs a.cs (.obj (aB w a.cs)) c9 c9 c9 []⟩
def qB(a:LA):Prop:=ar a.bs a.cs/\bk a.rs a.cs
theorem Ex.turn{w:World}{κ:CK}{c:Cx w κ}{Γ:G}{fs:LI}(a:LA)(h:qB a)(σ:LN){v7 v8 v9:SV}(h7:Γ.o[7]?=some (.cell v7))(h8:(Γ.setO 7 c9).o[8]?=some (.cell v8))(h9:((Γ.setO 7 c9).setO 8 c9).o[9]?=some (.cell v9))(hσ:σ.map (fun i=>(((Γ.setO 7 c9).setO 8 c9).setO 9 c9).o[i]?)=(mG w fs a).o.map fun so=>some (so.ren σ))(hm:(mG w fs a).m.map (fun e=>Γ.m.lookup e.1)=(mG w fs a).m.map fun e=>some (e.2.ren σ))
  (nd:σ.Nodup:=by decide) (hpre:σ.take κ.n=List.range κ.n:=by rfl) (hnf:κ.nf=0:=by rfl):Ex c Γ [] (mj qB (mG w fs)) :=
 .soft 7 c9 h7 jk (.soft 8 c9 h8 jk (.soft 9 c9 h9 jk (.sel σ (.of' hσ) (.of' hm) (.nil (.next a h)) (by rfl) nd (aH hpre) hnf)))
noncomputable def b5(p kd m:Int):List (Str×SV):=[("bits",.ref 13),("rows",.ref 16),("back",.ref 22),("probe",.int p),("kind",.int kd),("more",.int m)]
noncomputable def aF(w:World)(fs:LI)(f:Bool)(bs rs cs:LI)(ws:SO)(M one:Int)(r:LO)(nm:LV):G:=⟨nm,tc w fs f bs rs cs ws (.cell (.int M)) (.cell (.ref 25)) (.cell (.int one)) r⟩
theorem tv(w:World){a:Addr}{vs:LW}{script:LI}(hI:IntsAre vs script)(hl:script.length<=63):tH w 30 745 [sQ,dT 1,dS 2,dd 3,rn 4,f0 5,fZ 6] [.val (.ref a)] a vs (fun v l=>v=.val (.bool true)/\∀i,i<=6->∃so,l[i]?=some so/\ml w so):=by
 refine' ou (fa:=[.val (.ref a)]) (lm:=[("script",.val (.ref a))]) (cso:=[bN,bN,bN,bN]) (cm:=[("top",7),("few",8),("one",9),("whole",10)]) ["script"] ?ho ?hcd ?hb ?hkind ?hnd ?hcm ?hM ?hC ?H ?c1 ?c2 ?c3
 k_extra "cxc"
 case hb =>
  intro ρ s us ks X hu hks
  obtain rfl:ks=[]:=ZG.mp hks.1
  refine⟨us,hu,?_⟩
  obtain⟨_,_,rfl,h1,t⟩:=hu.consI
  obtain rfl:=t.nilI
  exact BindsTo.of_eq rfl
 case hM =>
  intro ρ us hu
  obtain⟨_,_,rfl,h1,t⟩:=hu.consI
  obtain rfl:=t.nilI
  exact .cons vS h1 .nil
 case hC =>
  intro ρ us hu
  obtain⟨_,_,rfl,h1,t⟩:=hu.consI
  obtain rfl:=t.nilI
  exact .cons (fun o h=>.obj h) (.cons (fun o h=>.obj h) (.cons (fun o h=>.obj h) (.cons (fun o h=>.obj h) .nil)))
 intro c hc hG
 refine .cons (.assignC (i:=10) (.call_ty0 (.bi (by k_is) boot_set) ax.setNew) vS fg ?_)
 obtain⟨n0,hn0,hn1,hn2⟩:∃n0:Int,(0<(script.length:Int)->(script.getD (0:Int).toNat 0).fmod 20=n0)/\(¬0<(script.length:Int)->(0:Int)=n0)/\0<=n0/\n0<=19:=by
  by_cases h:0<(script.length:Int)
  ·refine⟨(script.getD (0:Int).toNat 0).fmod 20,fun O=>rfl,fun h2=>absurd h h2,Int.fmod_nonneg_of_pos _ (by decide),?_⟩
   have:=Int.fmod_lt_of_pos (script.getD (0:Int).toNat 0) (show (0:Int)<20 by decide)
   exact(aO [.L .A .x] (.M .A (.n 19))) this
  ·exact⟨0,fun h2=>absurd h2 h,fun O=>rfl,by decide,by decide⟩
 refine .cons (.assign (.callK (.glob (bg w)) (gu w) (.ifexp (v:=.int n0) (.icmp (.lenG (.name vS) hG hI (by exact ZX ‹_› (by decide))) .intE .gt) (fun h=>.conv (.iop (.itemG (.name vS) .intE hG hI (by decide) h (by decide)) .intE (.mod (by decide))) (by exact aa (hn0 h ..) rfl) rfl) (fun h=>.conv .intE (by exact aa (hn1 h ..) rfl) rfl)) (ax.new (lv':=8) (gj w) (gw w) (by k_is) fun c'=>ae.det (jf w n0 hn2.2 ((n0+8)/8).toNat (by exact(aG [.d (.M .o .A) (.M .A (.n 19)),.W 8 .B (.p .A .y),.T .a .B] (.E .B (.t .a))) hn2 (aM 8) (bz _)) (.inl rfl)) [13,12,3] (ab vS vS vS) (by decide) vT vT)) ?_)
 have hB0:ar (List.replicate ((n0+8)/8).toNat 0) []:=.zero (by exact(aG [.d (.M .o .A) (.M .A (.n 19)),.W 8 .B (.p .A .y),.T .a .B] (.m .a .w)) hn2 (aM (a:=n0+8) 8) (bz _))
 generalize List.replicate ((n0+8)/8).toNat (0:Int)=bs0 at hB0 ⊢
 refine .cons (.assign (.call0 (.glob (i8 w)) (i0 w) (ax.new (lv':=3) (iR w) (i5 w) (by k_is) fun c'=>ae.det (j4 w) [16,15] (.cons vS (.cons vS .nil)) (by decide) vT vT)) ?_)
 refine .sel (Γ₁:=⟨[("script",.val (.ref a)),("bits",.ref 13),("rows",.ref 16)],[sQ,dT 1,dS 2,dd 3,rn 4,f0 5,fZ 6,bN,bN,bN,.cell (.ref 11),.obj (aB w []),.attrs [("bits",.ref 14)],.inst 514 12,.nums bs0,.attrs [("data",.ref 17),("typecode",.str "I")],.inst 646 15,.nums []]⟩) [0,1,2,3,4,5,6,7,8,9,10,11,12,13,14,15,16,17] (.of' (by kernel_rfl)) (.of' (by kernel_rfl)) (hpre:=aH rfl) ?_
 refine .cons (.assign (.call (.glob (sd w)) (r7 w) (.cons (.call (.glob (bg w)) (gu w) (.cons (.listR (n:=20) (.bi (by k_is) cW) (.bi (by k_is) boot_range) .intE (by decide)) .nil) (ax.new (lv':=8) (gj w) (gw w) (by k_is) fun c'=>ae.det (mR w) [20,19,3,18] (.cons vS (ab vS vS vS)) (by decide) vT vT)) (.cons .intE .nil)) (ax.new (lv':=1) (rW w) (r9 w) (by k_is) fun c'=>ae.det (qU w _) [23,22,20,19,21] (.cons vS (.cons vS (ab vS vS vS))) (by decide) vT vT)) ?_)
 refine .sel (Γ₁:=⟨[("script",.val (.ref a)),("bits",.ref 13),("rows",.ref 16),("back",.ref 22)],[sQ,dT 1,dS 2,dd 3,rn 4,f0 5,fZ 6,bN,bN,bN,.cell (.ref 23),.nums (cw 1 20 0),.attrs [("bits",.ref 14)],.inst 514 12,.nums bs0,.attrs [("data",.ref 17),("typecode",.str "I")],.inst 646 15,.nums [],.attrs [("bits",.ref 20)],.inst 514 18,.nums ix,.attrs [("idset",.ref 19),("limit",.int 20)],.inst 714 21,.obj (aB w [])]⟩) [0,1,2,3,4,5,6,7,8,9,10,18,12,13,14,15,16,17,19,20,21,22,23,11] (.of' (by kernel_rfl)) (.of' (by kernel_rfl)) (hpre:=aH rfl) ?_
 refine .cons (.assign (.neg .intE) ?_)
 refine .soft 4 (pP false 11) vS (tJ (n:=24) (by decide)) (.soft 7 c9 vS d3 (.soft 8 c9 vS d3 (.soft 9 c9 vS d3 (.soft 11 (rZ false) vS mF ?_))))
 refine .cons (.forListS (j:=24) (j':=11) (fs:=script.take 4) qB (mG w (script.take 4)) 12 ⟨false,bs0,ix,[],-1⟩ [0,1,2,3,4,5,6,7,8,9,10,24,12,13,14,15,16,17,18,19,20,21,22,23,11] (.slice4 (.name rfl) hG hI (by exact ZW ‹_› (by decide))) vS vT (.of' (by kernel_rfl)) (.of' (by kernel_rfl)) ⟨hB0,m0⟩ (fun O=>rfl) (fun O=>rfl) vS (fun O=>rfl) (fun c' z a hJ=>?_) (fun a hJ=>?_) (by decide) (aH rfl) rfl vT vT)
 ·generalize script.take 4=fs
  obtain⟨f,bs,rs,cs,p⟩:=a
  obtain⟨B,R⟩:=hJ
  dsimp only at B R
  have cl:cs.length<=20:=db B.up B.rng
  have b3:=B.len
  have r3:=R.len
  refine .pin (i:=23) vS fun so hso=>?_
  have hso:aB w cs so:=hso
  refine .cons (.assign (.iop (.name vS) .intE (.mod (by decide))) ?_)
  refine .cons (.assign (.iop (.name vS) .intE (.div (by decide) (PyProof.noPylong_of_log2 (by decide +kernel)))) ?_)
  generalize z.fmod 10=kd
  generalize z.fdiv 10=m
  refine .cons (.assignC (i:=9) (.call (.glob (io w)) (ik w) (.cons (.iop (.name vS) .intE .mod8) .nil) (ae.ro (j3 w _) [] .nil).cal) vS jj ?_)
  have hone:=lw (z:=m%8) (by lia) (by exact(dk [.Q 8 .C .A .B] (.L .A .y)) (dJ 8))
  generalize pO (m%8)=one at hone ⊢
  refine .cons (.assignC (i:=8) (.call (.glob (qN w)) (qC w) (.cons (.name vS) .nil) (ae.det (sm w m) [] .nil (by decide) vT rfl).cal) vS jj ?_)
  have hf1:=nr m
  have hf2:=ms m
  have hf3:∀y∈fq m,0<=y/\y<20:=fun y h=>mr h
  generalize fq m=few at hf1 hf2 hf3 ⊢
  generalize dR m=word
  refine .cons (.assign (.iop (.iop (.name vS) .intE (.mod (by decide))) .intE .sub) ?_)
  generalize m.fmod 27-1=p'
  obtain⟨M,hM0,hM1,hM2⟩:=gq cs
  refine .cons (.assignC (i:=7) (.ifexp (.icmp (.call_bi (.bi (by k_is) boot_len) (.cons (.cell (i:=10) vS) .nil) (ax.lenS (i:=23) vS (fun o e=>by refine aa (e ..) ?_;exact hso) (by exact ZW ‹_› (by decide)))) .intE .gt) (fun h=>.call_bi (.bi (by k_is) boot_max) (.cons (.cell (i:=10) vS) .nil) (ax.maxS (i:=23) vS hso cl (hM0 fun e=>by rw[e] at h;exact nomatch h) hM2)) (fun h=>.conv (.neg .intE) (by rw[hM1 (List.length_eq_zero_iff.mp (by exact(ai [.x (.L .o (.t .a))] (.e .a .o)) h))]) rfl)) vS jj ?_)
  refine .sel (Γ₁:=aF w fs f bs rs cs (.obj (·=so)) M one [.nums few] (b5 p' kd m)) [0,1,2,3,4,5,6,7,8,9,10,11,12,13,14,15,16,17,18,19,20,21,22,23,24,26] (.of' (by kernel_rfl)) (.of' (by kernel_rfl)) (hpre:=aH rfl) ?_
  have hMb:∀y,0<=y->y<=M->y<bs.length*8/\M∈cs:=fun y hy h=>by
   have h1:cs≠[]:=fun e=>by have:=hM1 e;lia
   have h2:=B.top M (hM0 h1)
   exact⟨by exact Int.lt_of_le_of_lt ‹_› ‹_›,hM0 h1⟩
  have same:Ex c' (aF w fs f bs rs cs (.obj (·=so)) M one [.nums few] (b5 p' kd m)) [] (mj qB (mG w fs)):=.soft 23 (.obj (aB w cs)) vS (iK hso) (.turn ⟨f,bs,rs,cs,p'⟩ ⟨B,R⟩ (List.range 25) vS vS vS (by kernel_rfl) (by kernel_rfl))
  refine .last (.ite (.icmp (.name vS) .intE .eq) (fun O=>?k2) fun O=>.last (.ite (.icmp (.name vS) .intE .eq) (fun O=>?k3) fun O=>.last (.ite (.icmp (.name vS) .intE .eq) (fun O=>?k4) fun O=>.last (.ite (.icmp (.name vS) .intE .eq) (fun O=>?k5) fun O=>.last (.ite (.icmp (.name vS) .intE .eq) (fun O=>?k6) fun O=>.last (.ite (.icmp (.name vS) .intE .eq) (fun O=>?k7) fun O=>.last (.ite (.icmp (.name vS) .intE .eq) (fun O=>?k8) fun O=>?k9)))))))
  case k2 =>
   refine .last (.ite (.icmp (.cell (i:=9) vS) (.cell (i:=7) vS) .le) (fun h=>?_) (fun O=>same))
   obtain⟨hb1,hb2⟩:=hMb one hone.1 h
   refine .cons (.expr (.mcall (.name vS) vS vS rfl (nY w) (.cons (.cell (i:=9) vS) .nil) (ae.det (dH w bs one hone.1 (by exact(aG [.L .A (.r (.t .a) 8),.W 8 .B .A] (.L .B (.t .a))) hb1 (aM 8)) (by exact(aR [.m .a .w,.L .A (.r (.t .a) 8)] (.L .A .q)) b3 hb1)) [13,12,14] (ab rfl rfl rfl) (by decide) vT rfl).cal) ?_)
   refine .to (aF w fs f (bj bs one) rs cs (.obj (·=so)) M one [.nums few] (b5 p' kd m)) (by kernel_rfl) ?_
   refine .cons (.expr (.mcall (.name vS) vS vS rfl (lI w) (.cons (.cell (i:=9) vS) .nil) (ae.det (l6 w cs (by exact ZW ‹_› (by decide)) B.up one (s8 B.up hb2 h)) [16,15,17] (ab rfl rfl rfl) (by decide) vT rfl).cal) ?_)
   refine .to (aF w fs f (bj bs one) rs (cs.filter (decide <| · ≠ one)) (.obj (·=so)) M one [.nums few] (b5 p' kd m)) (by kernel_rfl) ?_
   refine .cons (.expr (.mcall (.name vS) vS vS rfl (fK w) (.cons (.cell (i:=9) vS) .nil) (ae.det (jc w rs (by exact Nat.le_of_eq ‹_›) one hone.1 hone.2) [22,21,19,18,20] (.cons rfl (.cons rfl (ab rfl rfl rfl))) (by decide) vT rfl).cal) ?_)
   refine .to (aF w fs f (bj bs one) (aP rs one) (cs.filter (decide <| · ≠ one)) (.obj (·=so)) M one [.nums few] (b5 p' kd m)) (by kernel_rfl) ?_
   refine .cons (.assignCc (i:=10) (.comp true (lv':=4) (σ:=[23,9]) (Γo:=[.obj (·=so),.cell (.int one)]) (zs:=cs) (zp:=(·.Perm cs)) (p:=fun y=>decide (y≠one)) (f:=fun y=>y) (so:=.obj (aB w (cs.filter (decide <| · ≠ one)))) (cm:=[("one",1)]) (.of (σ:=[23,9]) (v:=.ref 0) (K₀:=(·=[.obj (·=so),.cell (.int one)])) (.cell (i:=10) vS) (dE w hso cl [.obj (·=so),.cell (.int one)] 0 vS) ⟨_,.cons rfl (.cons rfl .nil),rfl,rfl⟩) (.cons vS (.cons vS .nil)) vT dh (fun ys hp=>⟨fun y hy=>hp.mem_iff.mp hy,by have:=hp.length_eq;exact(ah [.m .a .x,.e .b .a] (.m .b .l)) cl this,fun oD ρ hA=>eI (cH (B.up.filter _)) (fun x=>by rw[Ze,Ze,hp.mem_iff]) hA⟩) ⟨fun c' y hy=>.one ((cb.icmp (.name rfl) (.cell (i:=1) rfl) .ne).iff decide_eq_true_iff.symm),fun c' y hy O=>.name vS⟩ (cB (x:="one") (i:=1) (j:=9) (fun a ha=>⟨a,ha,rfl⟩) vS vS) (by decide) vT rfl (by decide) (by decide) vS (Zf _) (show 4<=29 by decide) (fun O=>rfl)) vS cC ?_)
   exact .turn ⟨f,bj bs one,aP rs one,cs.filter (decide <| · ≠ one),p'⟩ ⟨B.dis hone.1 (by exact(aG [.L .A (.r (.t .a) 8),.W 8 .B .A] (.L .B (.t .a))) hb1 (aM 8)),R.dis hone.1 hone.2⟩ [0,1,2,3,4,5,6,7,8,9,10,11,12,13,14,15,16,17,18,19,20,21,22,26,24] vS vS vS (by kernel_rfl) (by kernel_rfl)
  case k3 =>
   refine .last (.ite (.icmp (.len (i:=25) (.cell (i:=8) vS) vS (by exact ZX ‹_› (by decide))) .intE .gt) (fun h=>?_) (fun O=>same))
   obtain⟨F,hF0,_,hF2⟩:=gq few
   have hF:=hF0 fun e=>by rw[e] at h;exact nomatch h
   refine .cons (.expr (.mcall (.name vS) vS vS rfl (qt w) (.cons (.cell (i:=8) vS) .nil) (ae.det (sx w bs few b3 hf3 F hF hF2) [13,12,14,25] (.cons rfl (ab rfl rfl rfl)) (by decide) vT rfl).cal) ?_)
   refine .to (aF w fs f (few.foldl aP (dW bs F)) rs cs (.obj (·=so)) M one [.nums few] (b5 p' kd m)) (by kernel_rfl) ?_
   refine .cons (.expr (.mcall (.name vS) vS vS rfl (qk w) (.cons (.cell (i:=8) vS) .nil) (ae.det (sk w cs few B.up B.rng hf3) [16,15,17,25] (.cons rfl (ab rfl rfl rfl)) (by decide) vT rfl).cal) ?_)
   refine .to (aF w fs f (few.foldl aP (dW bs F)) rs (few.foldl aX cs) (.obj (·=so)) M one [.nums few] (b5 p' kd m)) (by kernel_rfl) ?_
   refine .cons (.expr (.mcall (.name vS) vS vS rfl (qq w) (.cons (.cell (i:=8) vS) .nil) (ae.det (sv w rs few r3 hf3) [22,21,19,18,20,25] (.cons rfl (.cons rfl (.cons rfl (ab rfl rfl rfl)))) (by decide) vT rfl).cal) ?_)
   refine .to (aF w fs f (few.foldl aP (dW bs F)) (few.foldl bj rs) (few.foldl aX cs) (.obj (·=so)) M one [.nums few] (b5 p' kd m)) (by kernel_rfl) ?_
   have hI:=i3 few B.up
   refine .cons (.assignCc (i:=10) (.comp true (lv':=4) (σ:=[10,23,8,25]) (Γo:=[.cell (.ref 1),.obj (·=so),.cell (.ref 3),.nums few]) (zs:=cw 1 20 0) (zp:=(·=cw 1 20 0)) (p:=fun y=>decide (y∈cs\/y∈few)) (f:=fun y=>y) (so:=.obj (aB w (few.foldl aX cs))) (cm:=[("few",2),("whole",0)]) (.rng (.range1 (n:=20) (.bi (by k_is) boot_range) .intE (by decide)) [10,23,8,25] [.cell (.ref 1),.obj (·=so),.cell (.ref 3),.nums few] vT) (.cons vS (.cons vS (.cons vS (.cons vS .nil)))) vT dh (fun ys e=>by
    subst e
    exact⟨fun O h=>h,by decide,fun oD ρ hA=>eI (cH hI.1) (fun x=>by
     rw[Ze,hI.2,aV,decide_eq_true_iff]
     exact⟨fun h=>h.2,fun h=>⟨h.elim (fun h=>by have:=B.rng x h;assumption) fun h=>by have:=hf3 x h;assumption,h⟩⟩) hA⟩) ⟨fun c' y hy=>.one ((cb.or (.cmp (.name rfl) (.cell (i:=0) rfl) (.inS (i:=1) rfl (fun o e=>by rw[e];exact hso) (by exact ZW ‹_› (by decide)))) fun O=>.or (.cmp (.name rfl) (.cell (i:=2) rfl) (.inL (i:=3) rfl)) fun O=>.or_nil).iff (by simp)),fun c' y hy O=>.name rfl⟩ (q8 (x:="few") (y:="whole") (i:=2) (i':=0) (j:=8) (j':=10) (by decide) (fun a b ha hb=>⟨a,ha,b,hb,rfl⟩) vS vS vS vS) (by decide) vT rfl (by decide) (by decide) vS (Zf _) (show 4<=29 by decide) (fun O=>rfl)) vS cC ?_)
   exact .turn ⟨f,few.foldl aP (dW bs F),few.foldl bj rs,few.foldl aX cs,p'⟩ ⟨(B.rsz (hf3 F hF).2).adds few hf3,R.adds few hf3⟩ [0,1,2,3,4,5,6,7,8,9,10,11,12,13,14,15,16,17,18,19,20,21,22,26,24] vS vS vS (by kernel_rfl) (by kernel_rfl)
  case k4 =>
   have hm3:m.fmod 3=0\/m.fmod 3=1\/m.fmod 3=2:=by
    have h1:=Int.fmod_nonneg_of_pos m (show (0:Int)<3 by decide)
    have h2:=Int.fmod_lt_of_pos m (show (0:Int)<3 by decide)
    lia
   refine .have4 (α:=Bool×List Int×List Int) (fun a=>ar a.2.1 (cs.filter fun z=>decide (z∈few))/\bk a.2.2 (cs.filter fun z=>decide (z∈few))) (fun a=>aF w fs a.1 a.2.1 a.2.2 (cs.filter fun z=>decide (z∈few)) (.obj (·=so)) M one [.nums few] (b5 p' kd m)) (fun a ha=>?_) fun K=>?_
   ·obtain⟨f,bs',rs'⟩:=a
    dsimp only at ha
    refine .cons (.assignCc (i:=10) (.comp true (lv':=4) (σ:=[23,8,25]) (Γo:=[.obj (·=so),.cell (.ref 2),.nums few]) (zs:=cs) (zp:=(·.Perm cs)) (p:=fun y=>decide (y∈few)) (f:=fun y=>y) (so:=.obj (aB w (cs.filter fun z=>decide (z∈few)))) (cm:=[("few",1)]) (.of (σ:=[23,8,25]) (v:=.ref 0) (K₀:=(·=[.obj (·=so),.cell (.ref 2),.nums few])) (.cell (i:=10) vS) (dE w hso cl [.obj (·=so),.cell (.ref 2),.nums few] 0 vS) ⟨_,.cons rfl (.cons rfl (.cons rfl .nil)),rfl,rfl⟩) (.cons vS (.cons vS (.cons vS .nil))) vT dh (fun ys hp=>⟨fun y hy=>hp.mem_iff.mp hy,by have:=hp.length_eq;exact(ah [.m .a .x,.e .b .a] (.m .b .l)) cl this,fun oD ρ hA=>eI (cH (B.up.filter _)) (fun x=>by rw[Ze,Ze,hp.mem_iff]) hA⟩) ⟨fun c' y hy=>.one ((cb.cmp (.name rfl) (.cell (i:=1) rfl) (.inL (i:=2) rfl)).iff decide_eq_true_iff.symm),fun c' y hy O=>.name vS⟩ (cB (x:="few") (i:=1) (j:=8) (fun a ha=>⟨a,ha,rfl⟩) vS vS) (by decide) vT rfl (by decide) (by decide) vS (Zf _) (show 4<=29 by decide) (fun O=>rfl)) vS cC ?_)
    exact .turn ⟨f,bs',rs',cs.filter fun z=>decide (z∈few),p'⟩ ha [0,1,2,3,4,5,6,7,8,9,10,11,12,13,14,15,16,17,18,19,20,21,22,26,24] vS vS vS (by kernel_rfl) (by kernel_rfl)
   rcases hm3 with h|h|h
   ·obtain⟨F,hF,hF0,hF1,hF2⟩:∃F:Int,(few≠[]->F∈few/\∀z∈few,z<=F)/\(few=[]->F=0)/\0<=F/\F<20:=by
     obtain⟨F,h1,_,h3⟩:=gq few
     by_cases e:few=[]
     ·exact⟨0,fun h=>absurd e h,fun O=>rfl,by decide,by decide⟩
     ·exact⟨F,fun h=>⟨h1 h,h3⟩,fun h=>absurd h e,hf3 F (h1 e)⟩
    refine .cons (.assign (.call (.glob (bX w)) (bV w) (.cons (.conv (.iop (.name vS) .intE (.mod (by decide))) (congrArg SV.int h) rfl) (.cons (.cell (i:=8) vS) .nil)) (ae.det (j8 w few (by exact ZW ‹_› (by decide)) hf3 F hF hF0 ((F+8)/8).toNat (by exact(aG [.M .o .A,.W 8 .B (.p .A .y),.T .a .B] (.E .B (.t .a))) hF1 (aM 8) (bz _))) [25,3] (.cons rfl (.cons rfl .nil)) (by decide) vT rfl).cal) ?_)
    have Gs:ar (few.foldl aP (List.replicate ((F+8)/8).toNat 0)) few:=rk hf1 hf3 (by exact(aG [.L .A .x,.W 8 .B (.p .A .y),.T .a .B] (.m .a .w)) hF2 (aM (a:=F+8) 8) (bz _))
    generalize few.foldl aP (List.replicate ((F+8)/8).toNat 0)=gs at Gs ⊢
    refine .to (aF w fs f bs rs cs (.obj (·=so)) M one [.nums few,.attrs [("bits",.ref 28)],.inst 514 26,.nums gs] (("group",.ref 27)::b5 p' kd m)) (by kernel_rfl) ?_
    refine .cons (.expr (.mcall (.name vS) vS vS rfl (iW w) (.cons (.name vS) .nil) (ae.det (qZ w b3 Gs.len) [13,12,14,27,26,28] (.of' (by kernel_rfl)) (by decide) vT rfl).cal) ?_)
    have B':=B.and Gs
    generalize b8 (dN (fun a b=>Builtin.bitAnd (Builtin.bitAnd a b) 255) bs gs (max bs.length gs.length))=bs' at B' ⊢
    refine .to (aF w fs f bs' rs cs (.obj (·=so)) M one [.nums few,.attrs [("bits",.ref 28)],.inst 514 26,.nums gs] (("group",.ref 27)::b5 p' kd m)) (by kernel_rfl) ?_
    refine .cons (.expr (.mcall (.name vS) vS vS rfl (iS w) (.cons (.name vS) .nil) (ae.det (kT w (k:=.bits gs) Gs (fun O O O e=>nomatch e) hf1 hf3 B.up B.rng) [16,15,17,27,26,28,5] (.of' (by kernel_rfl)) (by decide) vT rfl).cal) ?_)
    refine .sel (Γ₁:=aF w fs f bs' rs (cs.filter fun z=>decide (z∈few)) (.obj (·=so)) M one [.nums few,.attrs [("bits",.ref 28)],.inst 514 26,.nums gs] (("group",.ref 27)::b5 p' kd m)) [0,1,2,3,4,5,6,7,8,9,10,11,12,13,14,15,16,30,18,19,20,21,22,23,24,25,26,27,28] (.of' (by kernel_rfl)) (.of' (by kernel_rfl)) (hpre:=aH rfl) ?_
    refine .cons (.mcallT (.name vS) vS vS rfl (iV w) (.cons (.name vS) .nil) (kU w (k:=.bits gs) R Gs (fun O O O e=>nomatch e) hf1 hf3) [22,21,19,18,20,27,26,28] (.of' (by kernel_rfl)) rfl (fun v l hT=>?_) vT)
    obtain⟨_,rs',R',rfl⟩:=hT
    exact .to (aF w fs f bs' rs' (cs.filter fun z=>decide (z∈few)) (.obj (·=so)) M one [.nums few,.attrs [("bits",.ref 28)],.inst 514 26,.nums gs] (("group",.ref 27)::b5 p' kd m)) (by kernel_rfl) (.sel [0,1,2,3,4,5,6,7,8,9,10,11,12,13,14,15,16,17,18,19,20,21,22,23,24,25] (.of' (by kernel_rfl)) (.of' (by kernel_rfl)) (hpre:=aH rfl) (K (f,bs',rs') ⟨B',R'⟩))
   ·refine .have1 (α:=Unit) (fun O=>True) (fun O=>aF w fs f bs rs cs (.obj (·=so)) M one [.nums few,.attrs [("data",.ref 28),("typecode",.str "I")],.inst 646 26,.nums few] (("group",.ref 27)::b5 p' kd m)) (fun O O=>?_) fun K1=>?_
    ·skip
     refine .cons (.mcallT (.name vS) vS vS rfl (iW w) (.cons (.name vS) .nil) (pa w (k:=.sis few) B rfl (fun O O O e=>nomatch e) rfl hf1 hf3) [13,12,14,27,26,28] (.of' (by kernel_rfl)) rfl (fun v l hT=>?_) vT)
     obtain⟨_,bs',B',rfl⟩:=hT
     refine .to (aF w fs f bs' rs cs (.obj (·=so)) M one [.nums few,.attrs [("data",.ref 28),("typecode",.str "I")],.inst 646 26,.nums few] (("group",.ref 27)::b5 p' kd m)) (by kernel_rfl) ?_
     refine .cons (.expr (.mcall (.name vS) vS vS rfl (iS w) (.cons (.name vS) .nil) (ae.det (kT w (k:=.sis few) rfl (fun O O O e=>nomatch e) hf1 hf3 B.up B.rng) [16,15,17,27,26,28,5] (.of' (by kernel_rfl)) (by decide) vT rfl).cal) ?_)
     refine .sel (Γ₁:=aF w fs f bs' rs (cs.filter fun z=>decide (z∈few)) (.obj (·=so)) M one [.nums few,.attrs [("data",.ref 28),("typecode",.str "I")],.inst 646 26,.nums few] (("group",.ref 27)::b5 p' kd m)) [0,1,2,3,4,5,6,7,8,9,10,11,12,13,14,15,16,30,18,19,20,21,22,23,24,25,26,27,28] (.of' (by kernel_rfl)) (.of' (by kernel_rfl)) (hpre:=aH rfl) ?_
     refine .cons (.mcallT (.name vS) vS vS rfl (iV w) (.cons (.name vS) .nil) (kU w (k:=.sis few) R rfl (fun O O O e=>nomatch e) hf1 hf3) [22,21,19,18,20,27,26,28] (.of' (by kernel_rfl)) rfl (fun v l hT=>?_) vT)
     obtain⟨_,rs',R',rfl⟩:=hT
     exact .to (aF w fs f bs' rs' (cs.filter fun z=>decide (z∈few)) (.obj (·=so)) M one [.nums few,.attrs [("data",.ref 28),("typecode",.str "I")],.inst 646 26,.nums few] (("group",.ref 27)::b5 p' kd m)) (by kernel_rfl) (.sel [0,1,2,3,4,5,6,7,8,9,10,11,12,13,14,15,16,17,18,19,20,21,22,23,24,25] (.of' (by kernel_rfl)) (.of' (by kernel_rfl)) (hpre:=aH rfl) (K (f,bs',rs') ⟨B',R'⟩))
    by_cases e:0<few.length
    ·exact .cons (.assign (.call (.glob (bX w)) (bV w) (.cons (.conv (.iop (.name vS) .intE (.mod (by decide))) (congrArg SV.int h) rfl) (.cons (.cell (i:=8) vS) .nil)) (ae.det (j7 w few e (by exact ZX ‹_› (by decide)) hf1) [25] (.cons rfl .nil) (by decide) vT rfl).cal) (.sel [0,1,2,3,4,5,6,7,8,9,10,11,12,13,14,15,16,17,18,19,20,21,22,23,24,25,26,27,29] (.of' (by kernel_rfl)) (.of' (by kernel_rfl)) (hpre:=aH rfl) (K1 () trivial)))
    ·obtain rfl:few=[]:=List.length_eq_zero_iff.mp (by exact(ai [.x (.l .o .a)] (.e .a .o)) e)
     exact .cons (.assign (.call (.glob (bX w)) (bV w) (.cons (.conv (.iop (.name vS) .intE (.mod (by decide))) (congrArg SV.int h) rfl) (.cons (.cell (i:=8) vS) .nil)) (ae.det (iq w) [25] (.cons rfl .nil) (by decide) vT rfl).cal) (.sel [0,1,2,3,4,5,6,7,8,9,10,11,12,13,14,15,16,17,18,19,20,21,22,23,24,25,26,27,28] (.of' (by kernel_rfl)) (.of' (by kernel_rfl)) (hpre:=aH rfl) (K1 () trivial)))
   ·refine .cons (.assign (.call (.glob (bX w)) (bV w) (.cons (.conv (.iop (.name vS) .intE (.mod (by decide))) (congrArg SV.int h) rfl) (.cons (.cell (i:=8) vS) .nil)) (ae.det (j6 w few (by exact ZW ‹_› (by decide)) hf1) [25] (.cons rfl .nil) (by decide) vT rfl).cal) (.pin (i:=26) vS fun so2 hso2=>.to (aF w fs f bs rs cs (.obj (·=so)) M one [.nums few,.obj (·=so2)] (("group",.ref 26)::b5 p' kd m)) (by kernel_rfl) ?_))
    refine .cons (.mcallT (.name vS) vS vS rfl (iW w) (.cons (.name vS) .nil) (pa w (k:=.set so2 fs few) B hso2 (fun O O O e=>nomatch e) rfl hf1 hf3) [13,12,14,26,11,25] (.of' (by kernel_rfl)) rfl (fun v l hT=>?_) vT)
    obtain⟨_,bs',B',rfl⟩:=hT
    refine .to (aF w fs f bs' rs cs (.obj (·=so)) M one [.nums few,.obj (·=so2)] (("group",.ref 26)::b5 p' kd m)) (by kernel_rfl) ?_
    refine .cons (.expr (.mcall (.name vS) vS vS rfl (iS w) (.cons (.name vS) .nil) (ae.det (kT w (k:=.set so2 fs few) hso2 (fun O O O e=>nomatch e) hf1 hf3 B.up B.rng) [16,15,17,26,11,25,5] (.of' (by kernel_rfl)) (by decide) vT rfl).cal) ?_)
    refine .sel (Γ₁:=aF w fs f bs' rs (cs.filter fun z=>decide (z∈few)) (.obj (·=so)) M one [.nums few,.obj (·=so2)] (("group",.ref 26)::b5 p' kd m)) [0,1,2,3,4,5,6,7,8,9,10,11,12,13,14,15,16,28,18,19,20,21,22,23,24,25,26] (.of' (by kernel_rfl)) (.of' (by kernel_rfl)) (hpre:=aH rfl) ?_
    refine .cons (.mcallT (.name vS) vS vS rfl (iV w) (.cons (.name vS) .nil) (kU w (k:=.set so2 fs few) R hso2 (fun O O O e=>nomatch e) hf1 hf3) [22,21,19,18,20,26,11,25] (.of' (by kernel_rfl)) rfl (fun v l hT=>?_) vT)
    obtain⟨_,rs',R',rfl⟩:=hT
    exact .to (aF w fs f bs' rs' (cs.filter fun z=>decide (z∈few)) (.obj (·=so)) M one [.nums few,.obj (·=so2)] (("group",.ref 26)::b5 p' kd m)) (by kernel_rfl) (.sel [0,1,2,3,4,5,6,7,8,9,10,11,12,13,14,15,16,17,18,19,20,21,22,23,24,25] (.of' (by kernel_rfl)) (.of' (by kernel_rfl)) (hpre:=aH rfl) (K (f,bs',rs') ⟨B',R'⟩))
  case k5 =>
   have hm3:m.fmod 3=0\/m.fmod 3=1\/m.fmod 3=2:=by
    have h1:=Int.fmod_nonneg_of_pos m (show (0:Int)<3 by decide)
    have h2:=Int.fmod_lt_of_pos m (show (0:Int)<3 by decide)
    lia
   refine .have1 (α:=List Int) (fun q=>Up q/\q.length<=8/\(∀y∈q,0<=y/\y<20)/\(m.fmod 3≠0->∀y∈q,y<=M)) (fun q=>aF w fs f bs rs cs (.obj (·=so)) M one [.nums q] (b5 p' kd m)) (fun few hq=>?_) fun K=>.cons (.ite (.icmp (.iop (.name vS) .intE (.mod (by decide))) .intE .gt) (fun h=>.last (.assignCc (i:=8) (.comp false (lv':=4) (σ:=[25,7]) (Γo:=[.nums few,.cell (.int M)]) (zs:=few) (zp:=(·=few)) (p:=fun y=>decide (y<=M)) (f:=fun y=>y) (so:=.nums (few.filter fun y=>decide (y<=M))) (cm:=[("top",1)]) (.nums (j:=25) (.cell (i:=8) rfl) rfl [7] [.cell (.int M)] vT) (.cons vS (.cons vS .nil)) vT dh (fun ys e=>by subst e;exact⟨fun O h=>h,by exact ZW ‹_› (by decide),fun oD ρ hA=>by rw[List.map_id'] at hA;exact eJ hA⟩) ⟨fun c' y hy=>.one ((cb.icmp (.name rfl) (.cell (i:=1) rfl) .le).iff decide_eq_true_iff.symm),fun c' y hy O=>.name vS⟩ (cB (x:="top") (i:=1) (j:=7) (fun a ha=>⟨a,ha,rfl⟩) vS vS) (by decide) vT rfl (by decide) (by decide) vS (Zf _) (show 4<=29 by decide) (fun O=>rfl)) vS cC (.sel [0,1,2,3,4,5,6,7,8,9,10,11,12,13,14,15,16,17,18,19,20,21,22,23,24,26] (.of' (by kernel_rfl)) (.of' (by kernel_rfl)) (hpre:=aH rfl) (K (few.filter fun y=>decide (y<=M)) ⟨hf1.filter _,ZW (List.length_filter_le _ _) hf2,fun y hy=>hf3 y (Ze.mp hy).1,fun O y hy=>of_decide_eq_true (Ze.mp hy).2⟩)))) fun h=>.nil (K few ⟨hf1,hf2,hf3,fun h2=>absurd h (by lia)⟩))
   obtain⟨hf1,hf2,hf3,hf4⟩:=hq
   have hkl:m.fmod 3≠0->∀y∈few,y/8<bs.length:=fun h y hy=>by have:=(hMb y (hf3 y hy).1 (hf4 h y hy)).1;exact(aG [.L .A (.r (.t .a) 8),.W 8 .B .A] (.L .B (.t .a))) this (aM 8)
   refine .have4 (α:=Bool×List Int×List Int) (fun a=>ar a.2.1 (cs.filter fun z=>decide (z∉few))/\bk a.2.2 (cs.filter fun z=>decide (z∉few))) (fun a=>aF w fs a.1 a.2.1 a.2.2 (cs.filter fun z=>decide (z∉few)) (.obj (·=so)) M one [.nums few] (b5 p' kd m)) (fun a ha=>?_) fun K=>?_
   ·obtain⟨f,bs',rs'⟩:=a
    dsimp only at ha
    refine .cons (.assignCc (i:=10) (.comp true (lv':=4) (σ:=[23,8,25]) (Γo:=[.obj (·=so),.cell (.ref 2),.nums few]) (zs:=cs) (zp:=(·.Perm cs)) (p:=fun y=>decide (y∉few)) (f:=fun y=>y) (so:=.obj (aB w (cs.filter fun z=>decide (z∉few)))) (cm:=[("few",1)]) (.of (σ:=[23,8,25]) (v:=.ref 0) (K₀:=(·=[.obj (·=so),.cell (.ref 2),.nums few])) (.cell (i:=10) vS) (dE w hso cl [.obj (·=so),.cell (.ref 2),.nums few] 0 vS) ⟨_,.cons rfl (.cons rfl (.cons rfl .nil)),rfl,rfl⟩) (.cons vS (.cons vS (.cons vS .nil))) vT dh (fun ys hp=>⟨fun y hy=>hp.mem_iff.mp hy,by have:=hp.length_eq;exact(ah [.m .a .x,.e .b .a] (.m .b .l)) cl this,fun oD ρ hA=>eI (cH (B.up.filter _)) (fun x=>by rw[Ze,Ze,hp.mem_iff]) hA⟩) ⟨fun c' y hy=>.one ((cb.cmp (.name rfl) (.cell (i:=1) rfl) (.ninL (i:=2) rfl)).iff decide_eq_true_iff.symm),fun c' y hy O=>.name vS⟩ (cB (x:="few") (i:=1) (j:=8) (fun a ha=>⟨a,ha,rfl⟩) vS vS) (by decide) vT rfl (by decide) (by decide) vS (Zf _) (show 4<=29 by decide) (fun O=>rfl)) vS cC ?_)
    exact .turn ⟨f,bs',rs',cs.filter fun z=>decide (z∉few),p'⟩ ha [0,1,2,3,4,5,6,7,8,9,10,11,12,13,14,15,16,17,18,19,20,21,22,26,24] vS vS vS (by kernel_rfl) (by kernel_rfl)
   rcases hm3 with h|h|h
   ·obtain⟨F,hF,hF0,hF1,hF2⟩:∃F:Int,(few≠[]->F∈few/\∀z∈few,z<=F)/\(few=[]->F=0)/\0<=F/\F<20:=by
     obtain⟨F,h1,_,h3⟩:=gq few
     by_cases e:few=[]
     ·exact⟨0,fun h=>absurd e h,fun O=>rfl,by decide,by decide⟩
     ·exact⟨F,fun h=>⟨h1 h,h3⟩,fun h=>absurd h e,hf3 F (h1 e)⟩
    refine .cons (.assign (.call (.glob (bX w)) (bV w) (.cons (.conv (.iop (.name vS) .intE (.mod (by decide))) (congrArg SV.int h) rfl) (.cons (.cell (i:=8) vS) .nil)) (ae.det (j8 w few (by exact ZW ‹_› (by decide)) hf3 F hF hF0 ((F+8)/8).toNat (by exact(aG [.M .o .A,.W 8 .B (.p .A .y),.T .a .B] (.E .B (.t .a))) hF1 (aM 8) (bz _))) [25,3] (.cons rfl (.cons rfl .nil)) (by decide) vT rfl).cal) ?_)
    have Gs:ar (few.foldl aP (List.replicate ((F+8)/8).toNat 0)) few:=rk hf1 hf3 (by exact(aG [.L .A .x,.W 8 .B (.p .A .y),.T .a .B] (.m .a .w)) hF2 (aM (a:=F+8) 8) (bz _))
    generalize few.foldl aP (List.replicate ((F+8)/8).toNat 0)=gs at Gs ⊢
    refine .to (aF w fs f bs rs cs (.obj (·=so)) M one [.nums few,.attrs [("bits",.ref 28)],.inst 514 26,.nums gs] (("group",.ref 27)::b5 p' kd m)) (by kernel_rfl) ?_
    have B':=B.sub Gs
    refine .have1 (α:=Unit) (fun O=>True) (fun O=>aF w fs true (b8 (dN dX bs gs (max bs.length gs.length))) rs cs (.obj (·=so)) M one [.nums few,.attrs [("bits",.ref 28)],.inst 514 26,.nums gs] (("group",.ref 27)::b5 p' kd m)) (fun O O=>?_) fun K1=>?_
    ·generalize b8 (dN dX bs gs (max bs.length gs.length))=bs' at B' ⊢
     refine .cons (.expr (.mcall (.name vS) vS vS rfl (gk w) (.cons (.name vS) .nil) (ae.det (ja w (k:=.bits gs) Gs (fun O O O e=>nomatch e) hf1 hf3 B.up B.rng) [16,15,17,27,26,28,6] (.of' (by kernel_rfl)) (by decide) vT rfl).cal) ?_)
     refine .sel (Γ₁:=aF w fs true bs' rs (cs.filter fun z=>decide (z∉few)) (.obj (·=so)) M one [.nums few,.attrs [("bits",.ref 28)],.inst 514 26,.nums gs] (("group",.ref 27)::b5 p' kd m)) [0,1,2,3,4,5,6,7,8,9,10,11,12,13,14,15,16,30,18,19,20,21,22,23,24,25,26,27,28] (.of' (by kernel_rfl)) (.of' (by kernel_rfl)) (hpre:=aH rfl) ?_
     refine .cons (.mcallT (.name vS) vS vS rfl (ef w) (.cons (.name vS) .nil) (fV w (k:=.bits gs) R Gs hf1 hf3) [22,21,19,18,20,27,26,28] (.of' (by kernel_rfl)) rfl (fun v l hT=>?_) vT)
     obtain⟨_,rs',R',rfl⟩:=hT
     exact .to (aF w fs true bs' rs' (cs.filter fun z=>decide (z∉few)) (.obj (·=so)) M one [.nums few,.attrs [("bits",.ref 28)],.inst 514 26,.nums gs] (("group",.ref 27)::b5 p' kd m)) (by kernel_rfl) (.sel [0,1,2,3,4,5,6,7,8,9,10,11,12,13,14,15,16,17,18,19,20,21,22,23,24,25] (.of' (by kernel_rfl)) (.of' (by kernel_rfl)) (hpre:=aH rfl) (K (true,bs',rs') ⟨B',R'⟩))
    cases f with
   |false =>
     refine .soft 4 (rn 4) vS s7 ?_
     refine .cons (.expr (.mcall (.name vS) vS vS rfl (eg w) (.cons (.name vS) .nil) (ae.det (pc w b3 Gs.len) [13,12,14,27,26,28,4] (.of' (by kernel_rfl)) (by decide) vT rfl).cal) ?_)
     exact .soft 4 (pP true 29) vS rH (.soft 29 (rZ true) vS jJ (.sel [0,1,2,3,4,5,6,7,8,9,10,11,12,13,14,15,16,17,18,19,20,21,22,23,29,25,26,27,28] (.of' (by kernel_rfl)) (.of' (by kernel_rfl)) (hpre:=aH rfl) (K1 () trivial)))
   |true =>
     refine .soft 4 (qx 4 24) vS s5 (.soft 24 cF vS ot ?_)
     refine .cons (.expr (.mcall (.name vS) vS vS rfl (eg w) (.cons (.name vS) .nil) (ae.det (pb w b3 Gs.len) [13,12,14,27,26,28,4,24] (.of' (by kernel_rfl)) (by decide) vT rfl).cal) ?_)
     exact .soft 4 (pP true 24) vS rH (.soft 24 (rZ true) vS jJ (.to (aF w fs true (b8 (dN dX bs gs (max bs.length gs.length))) rs cs (.obj (·=so)) M one [.nums few,.attrs [("bits",.ref 28)],.inst 514 26,.nums gs] (("group",.ref 27)::b5 p' kd m)) (by kernel_rfl) (K1 () trivial)))
   ·refine .have1 (α:=Unit) (fun O=>True) (fun O=>aF w fs f bs rs cs (.obj (·=so)) M one [.nums few,.attrs [("data",.ref 28),("typecode",.str "I")],.inst 646 26,.nums few] (("group",.ref 27)::b5 p' kd m)) (fun O O=>?_) fun K1=>?_
    ·skip
     refine .cons (.mcallT (.name vS) vS vS rfl (eg w) (.cons (.name vS) .nil) (l8 w (k:=.sis few) B rfl (fun O O O e=>nomatch e) rfl hf1 hf3 (hkl (by exact(aO [.E .A .u] (.x (.E .A .o))) h))) [13,12,14,27,26,28] (.of' (by kernel_rfl)) rfl (fun v l hT=>?_) vT)
     obtain⟨_,bs',B',rfl⟩:=hT
     refine .to (aF w fs f bs' rs cs (.obj (·=so)) M one [.nums few,.attrs [("data",.ref 28),("typecode",.str "I")],.inst 646 26,.nums few] (("group",.ref 27)::b5 p' kd m)) (by kernel_rfl) ?_
     refine .cons (.expr (.mcall (.name vS) vS vS rfl (gk w) (.cons (.name vS) .nil) (ae.det (ja w (k:=.sis few) rfl (fun O O O e=>nomatch e) hf1 hf3 B.up B.rng) [16,15,17,27,26,28,6] (.of' (by kernel_rfl)) (by decide) vT rfl).cal) ?_)
     refine .sel (Γ₁:=aF w fs f bs' rs (cs.filter fun z=>decide (z∉few)) (.obj (·=so)) M one [.nums few,.attrs [("data",.ref 28),("typecode",.str "I")],.inst 646 26,.nums few] (("group",.ref 27)::b5 p' kd m)) [0,1,2,3,4,5,6,7,8,9,10,11,12,13,14,15,16,30,18,19,20,21,22,23,24,25,26,27,28] (.of' (by kernel_rfl)) (.of' (by kernel_rfl)) (hpre:=aH rfl) ?_
     refine .cons (.mcallT (.name vS) vS vS rfl (ef w) (.cons (.name vS) .nil) (fV w (k:=.sis few) R rfl hf1 hf3) [22,21,19,18,20,27,26,28] (.of' (by kernel_rfl)) rfl (fun v l hT=>?_) vT)
     obtain⟨_,rs',R',rfl⟩:=hT
     exact .to (aF w fs f bs' rs' (cs.filter fun z=>decide (z∉few)) (.obj (·=so)) M one [.nums few,.attrs [("data",.ref 28),("typecode",.str "I")],.inst 646 26,.nums few] (("group",.ref 27)::b5 p' kd m)) (by kernel_rfl) (.sel [0,1,2,3,4,5,6,7,8,9,10,11,12,13,14,15,16,17,18,19,20,21,22,23,24,25] (.of' (by kernel_rfl)) (.of' (by kernel_rfl)) (hpre:=aH rfl) (K (f,bs',rs') ⟨B',R'⟩))
    by_cases e:0<few.length
    ·exact .cons (.assign (.call (.glob (bX w)) (bV w) (.cons (.conv (.iop (.name vS) .intE (.mod (by decide))) (congrArg SV.int h) rfl) (.cons (.cell (i:=8) vS) .nil)) (ae.det (j7 w few e (by exact ZX ‹_› (by decide)) hf1) [25] (.cons rfl .nil) (by decide) vT rfl).cal) (.sel [0,1,2,3,4,5,6,7,8,9,10,11,12,13,14,15,16,17,18,19,20,21,22,23,24,25,26,27,29] (.of' (by kernel_rfl)) (.of' (by kernel_rfl)) (hpre:=aH rfl) (K1 () trivial)))
    ·obtain rfl:few=[]:=List.length_eq_zero_iff.mp (by exact(ai [.x (.l .o .a)] (.e .a .o)) e)
     exact .cons (.assign (.call (.glob (bX w)) (bV w) (.cons (.conv (.iop (.name vS) .intE (.mod (by decide))) (congrArg SV.int h) rfl) (.cons (.cell (i:=8) vS) .nil)) (ae.det (iq w) [25] (.cons rfl .nil) (by decide) vT rfl).cal) (.sel [0,1,2,3,4,5,6,7,8,9,10,11,12,13,14,15,16,17,18,19,20,21,22,23,24,25,26,27,28] (.of' (by kernel_rfl)) (.of' (by kernel_rfl)) (hpre:=aH rfl) (K1 () trivial)))
   ·refine .cons (.assign (.call (.glob (bX w)) (bV w) (.cons (.conv (.iop (.name vS) .intE (.mod (by decide))) (congrArg SV.int h) rfl) (.cons (.cell (i:=8) vS) .nil)) (ae.det (j6 w few (by exact ZW ‹_› (by decide)) hf1) [25] (.cons rfl .nil) (by decide) vT rfl).cal) (.pin (i:=26) vS fun so2 hso2=>.to (aF w fs f bs rs cs (.obj (·=so)) M one [.nums few,.obj (·=so2)] (("group",.ref 26)::b5 p' kd m)) (by kernel_rfl) ?_))
    refine .cons (.mcallT (.name vS) vS vS rfl (eg w) (.cons (.name vS) .nil) (l8 w (k:=.set so2 fs few) B hso2 (fun O O O e=>nomatch e) rfl hf1 hf3 (hkl (by exact(aO [.E .A (.n 2)] (.x (.E .A .o))) h))) [13,12,14,26,11,25] (.of' (by kernel_rfl)) rfl (fun v l hT=>?_) vT)
    obtain⟨_,bs',B',rfl⟩:=hT
    refine .to (aF w fs f bs' rs cs (.obj (·=so)) M one [.nums few,.obj (·=so2)] (("group",.ref 26)::b5 p' kd m)) (by kernel_rfl) ?_
    refine .cons (.expr (.mcall (.name vS) vS vS rfl (gk w) (.cons (.name vS) .nil) (ae.det (ja w (k:=.set so2 fs few) hso2 (fun O O O e=>nomatch e) hf1 hf3 B.up B.rng) [16,15,17,26,11,25,6] (.of' (by kernel_rfl)) (by decide) vT rfl).cal) ?_)
    refine .sel (Γ₁:=aF w fs f bs' rs (cs.filter fun z=>decide (z∉few)) (.obj (·=so)) M one [.nums few,.obj (·=so2)] (("group",.ref 26)::b5 p' kd m)) [0,1,2,3,4,5,6,7,8,9,10,11,12,13,14,15,16,28,18,19,20,21,22,23,24,25,26] (.of' (by kernel_rfl)) (.of' (by kernel_rfl)) (hpre:=aH rfl) ?_
    refine .cons (.mcallT (.name vS) vS vS rfl (ef w) (.cons (.name vS) .nil) (fV w (k:=.set so2 fs few) R hso2 hf1 hf3) [22,21,19,18,20,26,11,25] (.of' (by kernel_rfl)) rfl (fun v l hT=>?_) vT)
    obtain⟨_,rs',R',rfl⟩:=hT
    exact .to (aF w fs f bs' rs' (cs.filter fun z=>decide (z∉few)) (.obj (·=so)) M one [.nums few,.obj (·=so2)] (("group",.ref 26)::b5 p' kd m)) (by kernel_rfl) (.sel [0,1,2,3,4,5,6,7,8,9,10,11,12,13,14,15,16,17,18,19,20,21,22,23,24,25] (.of' (by kernel_rfl)) (.of' (by kernel_rfl)) (hpre:=aH rfl) (K (f,bs',rs') ⟨B',R'⟩))
  case k6 =>
   refine .cons (.assign (.iop (.iop (.mcall0 (.name vS) vS vS rfl (ce w) (ae.ro (cM w bs b3) [13,12,14] (ab rfl rfl rfl)).cal) .intE .mul8) (.iop (.name vS) .intE .mod8) .sub) ?_)
   have hz1:(bs.length:Int)*8-m%8<=bs.length*8:=by exact(eZ [.Q 8 .C .A .B] (.M (.s (.r (.t .a) 8) .A) (.r (.t .a) 8))) (dJ 8)
   have hz2:(bs.length:Int)*8-m%8 > bs.length*8-8:=by exact(eZ [.Q 8 .C .A .B] (.L (.s (.r (.t .a) 8) .y) (.s (.r (.t .a) 8) .A))) (dJ 8)
   generalize (bs.length:Int)*8-m%8=sz at hz1 hz2 ⊢
   refine .to (aF w fs f bs rs cs (.obj (·=so)) M one [.nums few] (("size",.int sz)::b5 p' kd m)) (by kernel_rfl) ?_
   refine .last (.ite (.and (φ:=0<(bs.length:Int)) (ψ:=M<sz/\sz<=20) (.icmp (.mcall0 (.name vS) vS vS rfl (ce w) (ae.ro (cM w bs b3) [13,12,14] (ab rfl rfl rfl)).cal) .intE .gt) fun O=>.iff (.and (.cmp2 (.cell (i:=7) vS) (.name vS) .intE (.int .lt) (.int .le)) fun O=>.and_nil) (by simp)) (fun h=>?_) (fun O=>?_))
   ·obtain⟨h1,h2,h3⟩:=h
    obtain⟨n,rfl⟩:=Int.eq_ofNat_of_zero_le (show 0<=sz by exact(aR [.L (.s (.r (.t .a) 8) .y) .A,.L .o (.t .a)] (.M .o .A)) hz2 h1)
    have h4:∀y∈cs,y<(n:Int):=fun y hy=>by have:=hM2 y hy;exact Int.lt_of_le_of_lt ‹_› ‹_›
    refine .cons (.expr (.mcall (.name vS) vS vS rfl (qu w) (.cons (.name vS) .nil) (ae.det (tw w bs b3 (by exact(ai [.L .o (.t .a)] (.m .u .a)) h1) n (by exact(ah [.L (.s (.r (.t .a) 8) .y) (.t .b)] (.M .u (.s (.t .b) (.r (.s (.t .a) .u) 8)))) hz2) (by exact(ah [.M (.t .a) (.r (.t .b) 8)] (.M (.s (.t .a) (.r (.s (.t .b) .u) 8)) .y)) hz1)) [13,12,14] (ab rfl rfl rfl) (by decide) vT rfl).cal) ?_)
    refine .to (aF w fs f (iC (eB bs) n) rs cs (.obj (·=so)) M one [.nums few] (("size",.int n)::b5 p' kd m)) (by kernel_rfl) ?_
    refine .cons (.expr (.mcall (.name vS) vS vS rfl (ql w) (.cons (.name vS) .nil) (ae.det (sp w B.up B.rng (n:=n) (by exact(ai [.M (.t .a) .x] (.m .a .x)) h3)) [16,15,17] (ab rfl rfl rfl) (by decide) vT rfl).cal) ?_)
    refine .to (aF w fs f (iC (eB bs) n) rs (fE cs n) (.obj (·=so)) M one [.nums few] (("size",.int n)::b5 p' kd m)) (by kernel_rfl) ?_
    refine .cons (.mcallT (.name vS) vS vS rfl (qr w) (.cons (.name vS) .nil) (su w R (n:=n) (by exact(ai [.M (.t .a) .x] (.m .a .x)) h3)) [22,21,19,18,20] (.cons vS (.cons vS (ab vS vS vS))) rfl (fun v l hT=>?_) vT)
    obtain⟨_,rs',R',rfl⟩:=hT
    refine .to (aF w fs f (iC (eB bs) n) rs' (fE cs n) (.obj (·=so)) M one [.nums few] (("size",.int n)::b5 p' kd m)) (by kernel_rfl) ?_
    refine .cons (.assignCc (i:=10) (.comp true (lv':=4) (σ:=[10,23]) (Γo:=[.cell (.ref 1),.obj (·=so)]) (zs:=cw 1 n 0) (zp:=(·=cw 1 n 0)) (p:=fun y=>decide (y∉cs)) (f:=fun y=>y) (so:=.obj (aB w (fE cs n))) (cm:=[("whole",0)]) (.rng (.range1 (n:=n) (.bi (by k_is) boot_range) (.name rfl) (by exact(ah [.m .a .w,.M (.t .b) (.r (.t .a) 8)] (.m .b .q)) b3 hz1)) [10,23] [.cell (.ref 1),.obj (·=so)] vT) (.cons vS (.cons vS .nil)) vT dh (fun ys e=>by
     subst e
     exact⟨fun O h=>h,by rw[fH];exact(ah [.m .a .w,.M (.t .b) (.r (.t .a) 8)] (.m .b .l)) b3 hz1,fun oD ρ hA=>eI (cH (bL _ _)) (fun x=>by
      rw[Ze,pZ h4 h3,aV,decide_eq_true_iff,Int.zero_add]) hA⟩) ⟨fun c' y hy=>.one ((cb.cmp (.name rfl) (.cell (i:=0) rfl) (.ninS (i:=1) rfl (fun o e=>by refine aa (e ..) ?_;exact hso) (by exact ZW ‹_› (by decide)))).iff decide_eq_true_iff.symm),fun c' y hy O=>.name rfl⟩ (cB (x:="whole") (i:=0) (j:=10) (fun a ha=>⟨a,ha,rfl⟩) vS vS) (by decide) vT rfl (by decide) (by decide) vS (Zf _) (show 4<=29 by decide) (fun O=>rfl)) vS cC ?_)
    exact .turn ⟨f,iC (eB bs) n,rs',fE cs n,p'⟩ ⟨B.inv (by exact(ai [.L .o (.t .a)] (.m .u .a)) h1) (by exact(ah [.L (.s (.r (.t .a) 8) .y) (.t .b)] (.M .u (.s (.t .b) (.r (.s (.t .a) .u) 8)))) hz2) (by exact(ah [.M (.t .a) (.r (.t .b) 8)] (.M (.s (.t .a) (.r (.s (.t .b) .u) 8)) .y)) hz1) h4 h3,R'⟩ [0,1,2,3,4,5,6,7,8,9,10,11,12,13,14,15,16,17,18,19,20,21,22,26,24] vS vS vS (by kernel_rfl) (by kernel_rfl)
   ·exact .soft 23 (.obj (aB w cs)) vS (iK hso) (.turn ⟨f,bs,rs,cs,p'⟩ ⟨B,R⟩ (List.range 25) vS vS vS (by kernel_rfl) (by kernel_rfl))
  case k7 =>
   refine .cons (.assign (.name vS) ?_)
   refine .to (aF w fs f bs rs cs (.obj (·=so)) M one [.nums few] (("old",.ref 13)::b5 p' kd m)) (by kernel_rfl) ?_
   refine .cons (.assign (.mcall0 (.name vS) vS vS rfl (nZ w) (ae.det (q6 w bs (by exact ZW ‹_› (by decide))) [13,12,14,3] (.cons rfl (.cons rfl (.cons rfl (.cons rfl .nil)))) (by decide) vT rfl).cal) ?_)
   refine .to (aF w fs f bs rs cs (.obj (·=so)) M one [.nums few,.attrs [("bits",.ref 29)],.inst 514 26,.nums [0],.nums bs] (("bits",.ref 27)::("old",.ref 13)::b5 p' kd m)) (by kernel_rfl) ?_
   refine .cons (.expr (.mcall (.name vS) vS vS rfl (kK w) (.cons (.cell (i:=9) vS) .nil) (ae.det (kc w bs b3 one hone.1 hone.2) [13,12,14] (ab rfl rfl rfl) (by decide) vT rfl).cal) ?_)
   refine .to (aF w fs f (aP bs one) rs cs (.obj (·=so)) M one [.nums few,.attrs [("bits",.ref 29)],.inst 514 26,.nums [0],.nums bs] (("bits",.ref 27)::("old",.ref 13)::b5 p' kd m)) (by kernel_rfl) ?_
   refine .cons (.assign (.name vS) ?_)
   refine .to (aF w fs f (aP bs one) rs cs (.obj (·=so)) M one [.nums few,.attrs [("bits",.ref 29)],.inst 514 26,.nums [0],.nums bs] (("past",.ref 16)::("bits",.ref 27)::("old",.ref 13)::b5 p' kd m)) (by kernel_rfl) ?_
   refine .cons (.assign (.mcall0 (.name vS) vS vS rfl (nV w) (ae.det (qS w cs (by exact ZW ‹_› (by decide))) [16,15,17] (ab rfl rfl rfl) (by decide) vT rfl).cal) ?_)
   refine .to (aF w fs f (aP bs one) rs cs (.obj (·=so)) M one [.nums few,.attrs [("bits",.ref 29)],.inst 514 26,.nums [0],.nums bs,.attrs [("data",.ref 33),("typecode",.str "I")],.inst 646 30,.nums [],.nums cs] (("rows",.ref 31)::("past",.ref 16)::("bits",.ref 27)::("old",.ref 13)::b5 p' kd m)) (by kernel_rfl) ?_
   refine .cons (.expr (.mcall (.name vS) vS vS rfl (iU w) (.cons (.cell (i:=9) vS) .nil) (ae.det (jb w cs (by exact ZW ‹_› (by decide)) B.up one) [16,15,17] (ab rfl rfl rfl) (by decide) vT rfl).cal) ?_)
   refine .to (aF w fs f (aP bs one) rs (aX cs one) (.obj (·=so)) M one [.nums few,.attrs [("bits",.ref 29)],.inst 514 26,.nums [0],.nums bs,.attrs [("data",.ref 33),("typecode",.str "I")],.inst 646 30,.nums [],.nums cs] (("rows",.ref 31)::("past",.ref 16)::("bits",.ref 27)::("old",.ref 13)::b5 p' kd m)) (by kernel_rfl) ?_
   exact .soft 23 (.obj (aB w cs)) vS (iK hso) (.turn ⟨f,bs,rs,cs,p'⟩ ⟨B,R⟩ [0,1,2,3,4,5,6,7,8,9,10,11,26,27,29,30,31,33,18,19,20,21,22,23,24] vS vS vS (by kernel_rfl) (by kernel_rfl))
  case k8 =>
   refine .cons (.expr (.mcall0 (.name vS) vS vS rfl (qv w) (ae.det (qY w bs b3) [13,12,14] (ab rfl rfl rfl) (by decide) vT rfl).cal) ?_)
   refine .to (aF w fs f (List.replicate bs.length 0) rs cs (.obj (·=so)) M one [.nums few] (b5 p' kd m)) (by kernel_rfl) ?_
   refine .cons (.expr (.mcall0 (.name vS) vS vS rfl (qm w) (ae.det (oZ w cs) [16,15,17] (ab rfl rfl rfl) (by decide) vT rfl).cal) ?_)
   refine .sel (Γ₁:=aF w fs f (List.replicate bs.length 0) rs [] (.obj (·=so)) M one [.nums few,.nums cs] (b5 p' kd m)) [0,1,2,3,4,5,6,7,8,9,10,11,12,13,14,15,16,26,18,19,20,21,22,23,24,25,17] (.of' (by kernel_rfl)) (.of' (by kernel_rfl)) (hpre:=aH rfl) ?_
   refine .cons (.mcallT (.name vS) vS vS rfl (ef w) (.cons (.call_bi (.bi (by k_is) eG) (.cons (.cell (i:=10) vS) .nil) (ax.sortedS (i:=23) vS hso cl (B.up.imp Int.le_of_lt))) .nil) (fV w (k:=.list cs few cs) R rfl B.up B.rng) [22,21,19,18,20,27,25,26] (.of' (by kernel_rfl)) rfl (fun v l hT=>?_) vT)
   obtain⟨_,rs',R',rfl⟩:=hT
   refine .to (aF w fs f (List.replicate bs.length 0) rs' [] (.obj (·=so)) M one [.nums few,.nums cs,.nums cs] (b5 p' kd m)) (by kernel_rfl) ?_
   rw[show (cs.filter fun z=>decide (z∉cs))=[] from List.filter_eq_nil_iff.mpr fun z hz=>by simp[hz]] at R'
   refine .cons (.assignC (i:=10) (.call_ty0 (.bi (by k_is) boot_set) ax.setNew) vS cC ?_)
   exact .turn ⟨f,List.replicate bs.length 0,rs',[],p'⟩ ⟨.zero b3,R'⟩ [0,1,2,3,4,5,6,7,8,9,10,11,12,13,14,15,16,17,18,19,20,21,22,28,24] vS vS vS (by kernel_rfl) (by kernel_rfl)
  case k9 =>
   refine .soft 23 (.obj (aB w cs)) vS (iK hso) ?_
   refine .cons (.expr (.mcall (.name vS) vS vS rfl (kK w) (.cons (.cell (i:=9) vS) .nil) (ae.det (kc w bs b3 one hone.1 hone.2) [13,12,14] (ab rfl rfl rfl) (by decide) vT rfl).cal) ?_)
   refine .to (aF w fs f (aP bs one) rs cs (.obj (aB w cs)) M one [.nums few] (b5 p' kd m)) (by kernel_rfl) ?_
   refine .cons (.expr (.mcall (.name vS) vS vS rfl (iU w) (.cons (.cell (i:=9) vS) .nil) (ae.det (jb w cs (by exact ZW ‹_› (by decide)) B.up one) [16,15,17] (ab rfl rfl rfl) (by decide) vT rfl).cal) ?_)
   refine .to (aF w fs f (aP bs one) rs (aX cs one) (.obj (aB w cs)) M one [.nums few] (b5 p' kd m)) (by kernel_rfl) ?_
   refine .cons (.expr (.mcall (.name vS) vS vS rfl (lJ w) (.cons (.cell (i:=9) vS) .nil) (ae.det (kW w rs one hone.1 (by exact(aG [.e .a .w,.d (.M .o .A) (.L .A .x),.W 8 .B .A] (.L .B (.t .a))) r3 hone (aM 8)) (by exact(aO [.d (.M .o .A) (.L .A .x)] (.L .A .q)) hone)) [22,21,19,18,20] (.cons rfl (.cons rfl (ab rfl rfl rfl))) (by decide) vT rfl).cal) ?_)
   refine .to (aF w fs f (aP bs one) (bj rs one) (aX cs one) (.obj (aB w cs)) M one [.nums few] (b5 p' kd m)) (by kernel_rfl) ?_
   refine .cons (.expr (.setAdd (i:=23) (.cell (i:=10) vS) vS (.cell (i:=9) vS) vS B.up (by exact ZW ‹_› (by decide))) ?_)
   exact .turn ⟨f,aP bs one,bj rs one,aX cs one,p'⟩ ⟨B.addR hone.1 hone.2,R.add hone.1 hone.2⟩ (List.range 25) vS vS vS (by kernel_rfl) (by kernel_rfl)
 ·obtain⟨f,bs,rs,cs,p⟩:=a
  obtain⟨B,R⟩:=hJ
  refine .cons (.retT (.glob (qO w)) (qD w) (.cons (.cell (i:=10) vS) (.cons (.name vS) (.cons (.name vS) (.cons (.name vS) (.cons (.name vS) .nil))))) (sq w B R p) [23,13,12,14,16,15,17,22,21,19,18,20,1,2] (.of' (by kernel_rfl)) rfl (fun v l h=>h.1) (fun O=>rfl) (fun v l h=>?_) vT)
  obtain⟨_,so,rfl⟩:=h
  refine .ret _ ⟨rfl,fun i h2=>?_⟩ .same (by kernel_rfl)
  obtain rfl|rfl|rfl|rfl|rfl|rfl|rfl:i=0\/i=1\/i=2\/i=3\/i=4\/i=5\/i=6:=by lia
  ·exact⟨sQ,by kernel_rfl,qF⟩
  ·exact⟨dT 1,by kernel_rfl,d8⟩
  ·exact⟨dS 2,by kernel_rfl,d8⟩
  ·exact⟨dd 3,by kernel_rfl,d8⟩
  ·exact⟨pP f 24,by kernel_rfl,qw⟩
  ·exact⟨f0 5,by kernel_rfl,d8⟩
  ·exact⟨fZ 6,by kernel_rfl,d8⟩
example:True:=by w_top off;trivial
noncomputable abbrev fn:List (Addr×Addr):=[(510,506),(298,294),(312,308),(367,363),(482,478),(593,589),(600,596)]
theorem tM{K:Frag}{h:Heap}(KX:K.In h)(hT:∀P∈[294,308,363,478,506,589,596],h.get? P=some (tabObj #[]))(e:fn.all (fun q=>codeHdIn K q.1 q.2&&[294,308,363,478,506,589,596].elem q.2)=true):TabsAt fn h:=fun q hq=>by
 have:=ZU.mp (Zp.mp e q hq)
 exact⟨codeHd_of_K KX this.1,hT q.2 (List.elem_iff.mp this.2)⟩
theorem ta(w:World){sj1:Shared}{p:Program}{loose:List Str}{mean:ExcName->Option Value}{mg mb:OV}{a:Addr}{vs:LW}{ns:LI}(KX:(hd.heap_1 w.params).In sj1.heap)(hT:TabsAt fn sj1.heap)(T:Top p loose mean mg mb sj1.heap)(hL:sj1.heap.IsList a vs.toArray)(hI:IntsAre vs ns)(hl:ns.length<=63)(hg:sj1.gens=#[]){R:RS}
  (hR:∀s',OldK sj1.heap s'.heap->s'.os=sj1.os->AllBare s'.gens->R (.ok (.ret (.bool true))) s'):codeAny (model PR w) callerA (.call (.ref 745) ⟨[.ref a],[]⟩) R sj1:=by
 let o:On w:=⟨topProg,_,mean,mg,mb,1+claimMargin,4,some [],[],ghostOf sj1.heap fn,ghost_K hT KX (by kernel_rfl),ghost_top hT T⟩
 refine tv w hI hl o sj1 R [506,294,308,363,478,589,596] (List.replicate 7 (tabObj #[])) [.ref a] rfl (ghost_list hT hL) ⟨show 1+claimMargin+30<=500 by decide,show 4+50*30<=9000 by decide⟩ (fun b o e=>of_hideAll _ e) (Nat.le_of_eq (hideAll_size _ _)) (fun q hq=>?_) rfl rfl (fun i so x h1 h2=>?_) (by decide) (.cons (.val _) .nil) fun u s' v l ρ' os' heq hgm hst hv hu hp h1 h2 hob hget=>?_
 ·have h1:q.1∈fn.map (·.2):=by
   have:=Zz (show (q.1,q.2)∈_ from hq)
   exact this.1
  obtain⟨r,hr,e⟩:=Zc.mp h1
  have h2:q.2=tabObj #[]:=List.eq_of_mem_replicate (Zz (show (q.1,q.2)∈_ from hq)).2
  exact⟨by refine aa (h2 ..) (aA (e ..) ?_);exact(hT r hr).2,hideAll_none _ h1⟩
 ·obtain rfl:x=tabObj #[]:=List.eq_of_mem_replicate (ZQ h2)
  have hi:=(ZB.mp h1).1
  obtain rfl|rfl|rfl|rfl|rfl|rfl|rfl:i=0\/i=1\/i=2\/i=3\/i=4\/i=5\/i=6:=by
   have:i<7:=hi
   lia
  ·obtain rfl:=ZK h1;exact .obj ⟨_,rfl⟩
  ·obtain rfl:=ZK h1;exact .tab vS (.inl rfl)
  ·obtain rfl:=ZK h1;exact .tab vS (.inl rfl)
  ·obtain rfl:=ZK h1;exact .tab vS (.inl rfl)
  ·obtain rfl:=ZK h1;exact .dep vS vS ⟨rfl,rfl⟩
  ·obtain rfl:=ZK h1;exact .tab vS (.inl rfl)
  ·obtain rfl:=ZK h1;exact .tab vS (.inl rfl)
 ·obtain⟨rfl,hv⟩:=hv
  obtain rfl:=hu.valI
  have tab:∀(i:Nat) P,i<=6->([506,294,308,363,478,589,596]:LQ)[i]?=some P->∃ps,s'.heap.get? P=some (tabObj ps):=fun i P hi hP=>by
   obtain⟨so,e1,e2⟩:=hv i hi
   have e3:i<os'.length:=by refine aA (h2 ..) ?_;exact(ZB.mp e1).1
   obtain⟨ps,e4⟩:=e2 ρ' _ (hob i so os'[i] e1 (ZA e3))
   exact⟨ps,by refine aA (e4 ..) ?_;exact hget (P,os'[i]) (au (ak hp hP) (ZA e3))⟩
  have grown:∀b o,b∈fn.map (·.2)->sj1.heap.get? b=some o->isCodeTable sj1.heap b/\o=tabObj #[]/\∃ps,s'.heap.get? b=some (tabObj ps):=fun b o hb e=>by
   obtain⟨i,hi,ei⟩:=ZF.mp hb
   have t:=tab i b (Nat.le_of_lt_succ hi) (by refine aA (ei ..) ?_;exact ZA hi)
   obtain⟨q,hq,rfl⟩:=Zc.mp hb
   have e2:=(hT q hq).2
   rw[e] at e2
   exact⟨((hT q hq).1.tab (hT q hq).2).isCodeTable,ZK e2,t⟩
  refine hR s' ⟨fun b o e=>?_,fun b o e=>?_⟩ (by exact aa (heq ..) rfl) (hgm.bare (.of_eq hg))
  ·by_cases hb:b∈fn.map (·.2)
   ·obtain⟨ht,rfl,ps,hP⟩:=grown b o hb e
    exact .inr (.inl ⟨ht,rfl,#[],ps,rfl,by refine aa (Array.empty_append ..) ?_;exact hP⟩)
   ·exact .inl (hst b o (ghost_ne e hb))
  ·by_cases hb:b∈fn.map (·.2)
   ·obtain⟨_,_,ps,hP⟩:=grown b o hb e
    exact⟨_,hP⟩
   ·exact⟨o,hst b o (ghost_ne e hb)⟩
end Mine
theorem PySem.Challenge.cw_ky0014_01_holds : PySem.Challenge.rw_ky0014_01.Holds := by
  refine hd ?_
  intro w s₀ s₁ mg mb G Y fa o pm cd doc dV kV ho hdd hcd hD hmg hg args vals as hpre hlay hrd hwl hlo
  have KX := km_in_of Y
  have hT9 := Mine.tM KX (km_tabs_of Y) (by kernel_rfl)
  have V := (Ground.X G).2
  refine Ground.open G ?_
  intro T B D TE TW
  have e9 : some (Value.ref fa) = some (.ref 745) := hmg.symm.trans (mg_of KX T.g (by kernel_rfl))
  cases e9
  clear hdd hcd hD hmg
  wrow_args hpre hlay hrd hwl hlo
  refine enter_call ?_
  refine Mine.ta w KX hT9 T (by assumption) (by assumption) (by omega) hg fun s' h1 h2 h3 => ⟨.inl ⟨_, .bool true, [], rfl, fun _ => rfl, .bool true, ?_, fun _ => ⟨.nil, fun _ h => nomatch h⟩⟩, h1, h2, h3⟩
  wrow_post
