import PyProof.Rows.All
import Wide.All
import OpenK.AllK
import Wide.FinOn
import Lean
import PySem.Challenge.RW_xb0039_01
set_option Elab.async false
set_option maxRecDepth 100000
set_option linter.unusedVariables false
set_option maxHeartbeats 0
local macro_rules | `(tactic| omega)=>`(tactic| lia)
section
namespace Mine
open PySem PySem.W PyProof.Rows PySem.Calls
section
variable (p:Program) (w:World) (na:Nat) (ann:Option Value)
noncomputable abbrev seg (n:Nat) (S:SharedT) (t:Thread):Option (SharedT×Thread):=segGoT treeTable p w na ann 1 n S t
noncomputable def EvT {α:Type} (m:Sem α) (S:SharedT) (a:α) (S':SharedT) (k:Nat):Prop:=
 ∀ (K:α->Sem Fin) (H:Value->Sem Fin) (gd:Bool->Bool) (lv:List Value->List Value) (code:Code) (pos:Pos) (B:List Frame),1<=B.length ->
  ∃ pos' n,n<=k/\seg p w na ann n S ⟨m.wrap K H gd lv,code,pos,B⟩=some (S',⟨K a,code,pos',B⟩)
end
section
variable {p:Program} {w:World} {na:Nat} {ann:Option Value}
theorem whG:∀ {n m:Nat} {S S':SharedT} {t t':Thread} {r:SharedT×Thread},seg p w na ann n S t=some (S',t')->seg p w na ann m S' t'=some r ->
  seg p w na ann (n+m) S t=some r
 | 0,m,S,S',t,t',r,h,k=>by
  have:some (S,t)=some (S',t'):=h
  cases this
  rw [Nat.zero_add];exact k
 | n+1,m,S,S',t,t',r,h,k=>by
  rw [show n+1+m=(n+m)+1 by omega]
  unfold seg segGoT at h ⊢
  cases he:endAt 1 t with
  | some f=>rw [he]at h;cases h
  | none=>
   rw [he]at h
   cases hk:stepOk na ann t with
   | false=>rw [hk]at h;cases h
   | true=>
    rw [hk]at h
    cases hs:stepT (denote treeTable) p w S t with
    | none=>rw [hs]at h;cases h
    | some rc=>obtain ⟨s₂,ta⟩:=rc;rw [hs]at h;exact whG (n:=n) h k
theorem whF {n:Nat} {S S':SharedT} {t t':Thread} {r:SharedT×Thread} (he:endAt 1 t=none) (hk:stepOk na ann t=true)
  (hs:stepT (denote treeTable) p w S t=some (S',t')) (h:seg p w na ann n S' t'=some r):seg p w na ann (n+1) S t=some r:=by
 unfold seg segGoT
 rw [he,hk,hs]
 exact h
theorem wn6 {t:Thread} (h:∀ f,t.cur≠.pure (.done f)):endAt 1 t=none:=by
 unfold endAt
 split
 ·rename_i f _ e;exact absurd e (h f)
 ·rfl
theorem wkL {t:Thread} (h:2<=t.stack.length):endAt 1 t=none:=by
 unfold endAt
 have:(t.stack.length==1)=false:=beq_eq_false_iff_ne.mpr (by omega)
 rw [this]
namespace EvT
variable {α β:Type} {S S' S'':SharedT} {k k':Nat}
theorem mono {m:Sem α} {a:α} (h:EvT p w na ann m S a S' k) (hk:k<=k'):EvT p w na ann m S a S' k':=
 fun K H gd lv code pos B hB=>let ⟨pos',n,hn,e⟩:=h K H gd lv code pos B hB;⟨pos',n,Nat.le_trans hn hk,e⟩
theorem pure' (a:α):EvT p w na ann (Sem.pure a) S a S 0:=fun _ _ _ _ _ pos _ _=>⟨pos,0,Nat.le_refl _,rfl⟩
theorem pure (a:α):EvT p w na ann (Pure.pure a:Sem α) S a S 0:=pure' a
theorem wrapped {m:Sem α} {a:α} {f:α->Sem β} {b:β} {H:Value->Sem β} {gd:Bool->Bool} {lv:List Value->List Value} (h:EvT p w na ann m S a S' k) (h':EvT p w na ann (f a) S' b S'' k') :
  EvT p w na ann (m.wrap f H gd lv) S b S'' (k+k'):=by
 intro K H' gd' lv' code pos B hB
 obtain ⟨p1,n1,l1,e1⟩:=h (fun a=>(f a).wrap K H' gd' lv') (fun e=>(H e).wrap K H' gd' lv') (fun g=>gd' (gd g)) (fun l=>lv' (lv l)) code pos B hB
 obtain ⟨p2,n2,l2,e2⟩:=h' K H' gd' lv' code p1 B hB
 refine ⟨p2,n1+n2,by omega,?_⟩
 rw [Sem.wrap_wrap]
 exact whG e1 e2
theorem bind {m:Sem α} {a:α} {f:α->Sem β} {b:β} (h:EvT p w na ann m S a S' k) (h':EvT p w na ann (f a) S' b S'' k'):EvT p w na ann (m >>= f) S b S'' (k+k'):=by
 rw [Sem.bind_eq_wrap'];exact wrapped h h'
theorem tryCatch {m:Sem α} {a:α} {h':Value->Sem α} (h:EvT p w na ann m S a S' k):EvT p w na ann (m.tryCatch h') S a S' k:=by
 rw [Sem.tryCatch_eq_wrap];exact wrapped h (pure' a)
theorem onRaise {m:Sem α} {a:α} {h':Value->Sem Unit} (h:EvT p w na ann m S a S' k):EvT p w na ann (m.onRaise h') S a S' k:=by
 rw [Sem.onRaise_eq_wrap];exact wrapped h (pure' a)
theorem keep {m:Sem α} {a:α} {vs:List Value} (h:EvT p w na ann m S a S' k):EvT p w na ann (m.keep vs) S a S' k:=by
 rw [Sem.keep_eq_wrap];exact wrapped h (pure' a)
theorem holding {m:Sem α} {a:α} {vs:List Value} (h:EvT p w na ann m S a S' k):EvT p w na ann (PySem.holding vs m) S a S' k:=by
 unfold PySem.holding
 split
 ·exact h
 ·exact keep h
theorem wdM {m:Sem α} {m':Sem α} {a:α} (h':EvT p w na ann m' S' a S'' k)
  (hs:∀ (K:α->Sem Fin) (H:Value->Sem Fin) (gd:Bool->Bool) (lv:List Value->List Value) (code:Code) (pos:Pos) (B:List Frame),
   (∀ f,m.wrap K H gd lv≠.pure (.done f))/\stepOk na ann ⟨m.wrap K H gd lv,code,pos,B⟩=true /\
   ∃ pos',stepT (denote treeTable) p w S ⟨m.wrap K H gd lv,code,pos,B⟩=some (S',⟨m'.wrap K H gd lv,code,pos',B⟩)):EvT p w na ann m S a S'' (k+1):=by
 intro K H gd lv code pos B hB
 obtain ⟨h1,h2,pos',h3⟩:=hs K H gd lv code pos B
 obtain ⟨p2,n2,l2,e2⟩:=h' K H gd lv code pos' B hB
 exact ⟨p2,n2+1,by omega,whF (wn6 h1) h2 h3 e2⟩
theorem rule (t:String):EvT p w na ann (PySem.rule t) S () S 1:=
 wdM (pure' ()) fun K H gd lv code pos B=>⟨(fun f e=>by cases e),rfl,pos,rfl⟩
theorem standAt (q:Pos):EvT p w na ann (PySem.standAt q) S () S 1:=
 wdM (pure' ()) fun K H gd lv code pos B=>⟨(fun f e=>by cases e),rfl,q,rfl⟩
theorem point:EvT p w na ann PySem.point S () S 1:=
 wdM (pure' ()) fun K H gd lv code pos B=>⟨(fun f e=>by cases e),rfl,pos,rfl⟩
theorem ask:EvT p w na ann PySem.ask S ⟨p,w.params⟩ S 1:=
 wdM (pure' _) fun K H gd lv code pos B=>⟨(fun f e=>by cases e),rfl,pos,rfl⟩
theorem fresh:EvT p w na ann PySem.fresh S S.toks { S with toks:=S.toks+1 } 1:=
 wdM (pure' _) fun K H gd lv code pos B=>⟨(fun f e=>by cases e),rfl,pos,rfl⟩
theorem loadPart {a:Addr} {q:Option Value} {o:Obj} (hn:Nat.blt a S.n=true) (hg:S.tree.get a=some o) (ha:alive o=some o):EvT p w na ann (PySem.loadPart a q) S o S 1:=
 wdM (pure' o) fun K H gd lv code pos B=>⟨(fun f e=>by cases e),rfl,pos,by
  show (match Nat.blt a S.n with
   | true=>match S.tree.get a with
    | some o=>match alive o with
     | some o'=>some (S,(⟨K o',code,pos,B⟩:Thread))
     | none=>none
    | none=>none
   | false=>none)=some (S,⟨K o,code,pos,B⟩)
  rw [hn,hg]
  dsimp only
  rw [ha]⟩
theorem load {a:Addr} {o:Obj} (hn:Nat.blt a S.n=true) (hg:S.tree.get a=some o) (ha:alive o=some o):EvT p w na ann (PySem.load a) S o S 1:=loadPart hn hg ha
theorem updatePart {a:Addr} {q:Option Value} {f:Obj->Obj} {o:Obj} (hn:Nat.blt a S.n=true) (hg:S.tree.get a=some o) (ha:alive o=some o) (hle:Nat.ble na a=true) :
  EvT p w na ann (PySem.updatePart a q f) S () { S with tree:=S.tree.set a f } 1:=
 wdM (pure' ()) fun K H gd lv code pos B=>⟨(fun f e=>by cases e),by
  show (true&&((Nat.ble na a||a==mainNs||a==cStatics||ann==some (.ref a))))=true
  rw [hle];rfl,pos,by
  show (match Nat.blt a S.n with
   | true=>match S.tree.get a with
    | some o=>match alive o with
     | some _=>some ({ S with tree:=S.tree.set a f },(⟨K (),code,pos,B⟩:Thread))
     | none=>none
    | none=>none
   | false=>none)=some ({ S with tree:=S.tree.set a f },⟨K (),code,pos,B⟩)
  rw [hn,hg]
  dsimp only
  rw [ha]⟩
theorem alloc {o:Obj} (hg:((S.tree.ins S.n o).get S.n).isSome=true):EvT p w na ann (PySem.alloc o) S S.n { S with tree:=S.tree.ins S.n o,n:=S.n+1 } 1:=
 wdM (pure' _) fun K H gd lv code pos B=>⟨(fun f e=>by cases e),rfl,pos,by
  show (match ((S.tree.ins S.n o).get S.n).isSome with
   | true=>some ({ S with tree:=S.tree.ins S.n o,n:=S.n+1 },(⟨K S.n,code,pos,B⟩:Thread))
   | false=>none)=_
  rw [hg];rfl⟩
theorem mkInt (i:Int):EvT p w na ann (PySem.mkInt i) S (.int i S.toks) { S with toks:=S.toks+1 } 1:=bind (f:=fun t=>Pure.pure (Value.int i t)) fresh (pure _)
theorem mkText (x:Str):EvT p w na ann (PySem.mkText x) S (.str x S.toks) { S with toks:=S.toks+1 } 1:=bind (f:=fun t=>Pure.pure (Value.str x t)) fresh (pure _)
theorem wq0 (m:Sem α):m.wrap .pure .raise id id=m:=by
 induction m<;>simp only [Sem.wrap,id, *]
theorem callB {id:String} {b:Builtin} {args:List Value} {v:Value} (hid:id.startsWith "lifetime."=false) (hb:entryFor treeTable id=some b)
  (hc:EvT p w na ann (checkBuiltinCall id ⟨args,[]⟩) S () S k) (hr:EvT p w na ann (b ⟨args,[]⟩) S (.done (.ret v)) S' k') :
  EvT p w na ann (PySem.call (.builtin id) args) S v S' (k+k'+3):=by
 intro K H gd lv code pos B hB
 have e1:∀ kk lvv kept,∃ p1 n1,n1<=k/\seg p w na ann n1 S ⟨denote treeTable (.call (.builtin id) ⟨args,[]⟩),.call (.builtin id) ⟨args,[]⟩,pos,.ret kk none (gd false) lvv code pos kept::B⟩ =
   some (S,⟨.pure (.again (.builtin id ⟨args,[]⟩)),.call (.builtin id) ⟨args,[]⟩,p1,.ret kk none (gd false) lvv code pos kept::B⟩):=by
  intro kk lvv kept
  obtain ⟨p1,n1,l1,e1⟩:=hc (fun _=>.pure (.again (.builtin id ⟨args,[]⟩))) .raise (fun g=>g) (fun l=>l) (.call (.builtin id) ⟨args,[]⟩) pos (.ret kk none (gd false) lvv code pos kept::B) (by simp)
  refine ⟨p1,n1,l1,?_⟩
  have:denote treeTable (.call (.builtin id) ⟨args,[]⟩)=(checkBuiltinCall id ⟨args,[]⟩).wrap (fun _=>.pure (.again (.builtin id ⟨args,[]⟩))) .raise (fun g=>g) (fun l=>l):=by
   show (checkBuiltinCall id ⟨args,[]⟩ >>= fun _=>again (.builtin id ⟨args,[]⟩))=_
   rw [Sem.bind_eq_wrap']
   rfl
  rw [this]
  exact e1
 have e2:∀ kk lvv kept q,∃ p2 n2,n2<=k'/\seg p w na ann n2 S ⟨denote treeTable (.builtin id ⟨args,[]⟩),.builtin id ⟨args,[]⟩,q,.ret kk none (gd false) lvv code pos kept::B⟩ =
   some (S',⟨.pure (.done (.ret v)),.builtin id ⟨args,[]⟩,p2,.ret kk none (gd false) lvv code pos kept::B⟩):=by
  intro kk lvv kept q
  obtain ⟨p2,n2,l2,e2⟩:=hr .pure .raise (fun g=>g) (fun l=>l) (.builtin id ⟨args,[]⟩) q (.ret kk none (gd false) lvv code pos kept::B) (by simp)
  refine ⟨p2,n2,l2,?_⟩
  have:denote treeTable (.builtin id ⟨args,[]⟩)=(b ⟨args,[]⟩).wrap .pure .raise (fun g=>g) (fun l=>l):=by
   have e:=wq0 (b ⟨args,[]⟩)
   refine Eq.trans ?_ e.symm
   show (match entryFor treeTable id with | some b=>b ⟨args,[]⟩ | none=>unsupported ((withoutEnding? id "#data").getD id))=b ⟨args,[]⟩
   rw [hb]
  rw [this]
  exact e2
 have key:∀ kk kept,∃ n,n<=k+k'+2/\seg p w na ann n S ⟨denote treeTable (.call (.builtin id) ⟨args,[]⟩),.call (.builtin id) ⟨args,[]⟩,pos,.ret kk none (gd false) (lv []) code pos kept::B⟩ =
   some (S',⟨kk (.ok (.ret v)),code,pos,B⟩):=by
  intro kk kept
  obtain ⟨p1,n1,l1,s1⟩:=e1 kk (lv []) kept
  obtain ⟨p2,n2,l2,s2⟩:=e2 kk (lv []) (keptBy (.call (.builtin id) ⟨args,[]⟩) (.builtin id ⟨args,[]⟩) (lv []) kept) p1
  refine ⟨n1+((n2+(0+1))+1),by omega,whG s1 ?_⟩
  refine whF (wkL (by show 2<=B.length+1;omega)) ?_ (S':=S) (t':=⟨denote treeTable (.builtin id ⟨args,[]⟩),.builtin id ⟨args,[]⟩,p1,.ret kk none (gd false) (lv []) code pos _::B⟩) ?_ (whG s2 ?_)
  ·show ((!(id.startsWith "lifetime.")||_)&&!false&&true&&true)=true
   rw [hid];rfl
  ·show (match step (denote treeTable) p w ⟨{},S.gens,S.drawn,S.toks,S.os⟩ ⟨.pure (.again (.builtin id ⟨args,[]⟩)),.call (.builtin id) ⟨args,[]⟩,p1,.ret kk none (gd false) (lv []) code pos kept::B⟩ with
    | .go s' t'=>some ((⟨S.tree,S.n,S.life,s'.gens,s'.drawn,s'.toks,s'.os⟩:SharedT),t')
    | .halt _ _=>none)=_
   rw [PySem.W.step_again]
  ·exact whF (wkL (by show 2<=B.length+1;omega)) rfl (S':=S') (t':=⟨kk (.ok (.ret v)),code,pos,B⟩) rfl rfl
 have hstep:∃ kk kept,stepT (denote treeTable) p w S ⟨(PySem.call (.builtin id) args).wrap K H gd lv,code,pos,B⟩ =
   some (S,⟨denote treeTable (.call (.builtin id) ⟨args,[]⟩),.call (.builtin id) ⟨args,[]⟩,pos,.ret kk none (gd false) (lv []) code pos kept::B⟩)/\kk (.ok (.ret v))=K v:=⟨_,_,rfl,rfl⟩
 obtain ⟨kk,kept,h1,h2⟩:=hstep
 obtain ⟨n,ln,hn⟩:=key kk kept
 refine ⟨pos,n+1,by omega,whF (wn6 (fun f e=>by cases e)) rfl h1 ?_⟩
 rw [<- h2]
 exact hn
end EvT
end
noncomputable def put (T:BT) (d:Nat) (o:Obj):BT:=T.set d fun _=>o
theorem wk1 (f:Obj->Obj) (o:Obj):∀ (T:BT) (d:Nat),T.get d=some o->T.set d f=put T d (f o)
 | .nil,d,h=>rfl
 | .node v l r,d,h=>by
  unfold put
  rw [BT.set_node,BT.set_node]
  rw [BT.get_node]at h
  by_cases h0:d=0
  ·rw [if_pos h0]at h;cases h;simp [h0]
  ·rw [if_neg h0]at h
   by_cases h1:d % 2=1
   ·rw [if_pos h1]at h;simp only [h0,h1,if_true,if_false];rw [wk1 f o l _ h];rfl
   ·rw [if_neg h1]at h;simp only [h0,h1,if_false];rw [wk1 f o r _ h];rfl
theorem wfK (x y:Obj):∀ (T:BT) (d:Nat),put (put T d x) d y=put T d y
 | .nil,d=>rfl
 | .node v l r,d=>by
  unfold put
  rw [BT.set_node v l r d (fun _=>x),BT.set_node v l r d (fun _=>y)]
  by_cases h0:d=0
  ·simp only [h0,if_true];rw [BT.set_node];simp
  ·by_cases h1:d % 2=1
   ·simp only [h0,h1,if_true,if_false];rw [BT.set_node];simp only [h0,h1,if_true,if_false];exact congrArg (BT.node v · r) (wfK x y l _)
   ·simp only [h0,h1,if_false];rw [BT.set_node];simp only [h0,h1,if_false];exact congrArg (BT.node v l ·) (wfK x y r _)
theorem wmd {T:BT} {d:Nat} {o x:Obj} (h:T.get d=some o):(put T d x).get d=some x:=by
 unfold put;rw [BT.get_set,if_pos rfl,h];rfl
theorem wqG {T:BT} {d i:Nat} {x:Obj} (h:i≠d):(put T d x).get i=T.get i:=by
 unfold put;rw [BT.get_set,if_neg h]
theorem whJ (x y:Obj):∀ (T:BT) (n:Nat),((T.ins n x).get n).isSome=true->put (T.ins n x) n y=T.ins n y
 | .nil,n,h=>by
  have e:∀ o,(BT.nil.ins n o)=.node o .nil .nil:=fun _=>rfl
  rw [e,e]at *
  unfold put
  rw [BT.get_node]at h
  have h0:n=0:=by
   by_cases q:n=0
   ·exact q
   ·exfalso;revert h;by_cases p:n % 2=1<;>simp [q,p,BT.get]
  rw [BT.set_node];simp [h0]
 | .node v l r,n,h=>by
  rw [BT.ins_node]at h ⊢
  rw [BT.ins_node]
  unfold put
  by_cases h0:n=0
  ·simp only [h0,if_true];rw [BT.set_node];simp
  ·by_cases h1:n % 2=1
   ·simp only [h0,h1,if_true,if_false]at h ⊢
    rw [BT.get_node]at h
    simp only [h0,h1,if_true,if_false]at h
    rw [BT.set_node];simp only [h0,h1,if_true,if_false]
    exact congrArg (BT.node v · r) (whJ x y l _ h)
   ·simp only [h0,h1,if_false]at h ⊢
    rw [BT.get_node]at h
    simp only [h0,h1,if_false]at h
    rw [BT.set_node];simp only [h0,h1,if_false]
    exact congrArg (BT.node v l ·) (whJ x y r _ h)
theorem get_ins {T:BT} {n:Nat} {x:Obj} (h:((T.ins n x).get n).isSome=true):(T.ins n x).get n=some x:=by
 rw [BT.get_ins x T n h,if_pos rfl]
theorem wqH {T:BT} {n i:Nat} {x:Obj} (h:((T.ins n x).get n).isSome=true) (hi:i≠n):(T.ins n x).get i=T.get i:=by
 rw [BT.get_ins x T n h,if_neg hi]
noncomputable def dObj (es:List DictEntry):Obj:=⟨.type "dict",none,.dict es.toArray es.length,#[]⟩
theorem wdd (es:List DictEntry):alive (dObj es)=some (dObj es):=rfl
section
variable {p:Program} {w:World} {na:Nat} {ann:Option Value} {S:SharedT}
theorem wtR (k:Int) (t:Tok):checkBuiltinCall "int.__hash__" ⟨[.int k t],[]⟩=pure ():=by kernel_rfl
theorem wqN:entryFor treeTable "int.__hash__"=some Builtin.«int.__hash__»:=by rw [<- table_eq_tree];exact entry_int_hash
theorem wvg (k:Int) (t:Tok):EvT p w na ann (pyHash (.int k t)) S (hashInt k) { S with toks:=S.toks+1 } 12:=by
 have hr:=rawHash_range k
 have hs:specialOf (.int k t) "__hash__"=pure (some (.builtin "int.__hash__")):=by
  show (typeLookup (.type "int") "__hash__")=_
  exact slot_int_hash.lookup
 have hv:[Value.int k t].any Value.onHeap=false:=rfl
 have hcall:EvT p w na ann (call (.builtin "int.__hash__") [.int k t]) S (.int (rawHash k) S.toks) { S with toks:=S.toks+1 } 4:=by
  refine EvT.callB (k:=0) (k':=1) (b:=Builtin.«int.__hash__») (by decide +kernel) wqN ?_ ?_
  ·rw [wtR];exact EvT.pure ()
  ·show EvT p w na ann (mkInt (rawHash k) >>= fun v=>ret v) S _ _ _
   exact EvT.bind (k:=1) (k':=0) (EvT.mkInt _) (EvT.pure _)
 have hb:∀ r:Sem Value,EvT p w na ann (callSpecialIfBoundUnlessNone? (.int k t) "__hash__" r) S (some (.int (rawHash k) S.toks)) { S with toks:=S.toks+1 } 6:=by
  intro r
  unfold callSpecialIfBoundUnlessNone? bindSpecialIfBound?
  rw [hs]
  refine EvT.holding ?_
  have hbs:bindSpecial (.builtin "int.__hash__") (.int k t)=pure (.builtin "int.__hash__",[.int k t]):=slot_int_hash.bind _
  have wdM:EvT p w na ann (do
    let bind:Sem (Option (Value×List Value)):=do return some (<- bindSpecial (.builtin "int.__hash__") (.int k t))
    if (<- ask).params.followText "special-get-raises" then bind
    else bind.tryCatch fun _=>do rule "special.get-raises-dropped";pure none) S (some (Value.builtin "int.__hash__",[Value.int k t])) S 1:=by
   rw [hbs]
   refine EvT.bind (k:=1) (k':=0) EvT.ask ?_
   show EvT p w na ann (if w.params.followText "special-get-raises"=true then _ else _) S _ S 0
   split
   ·exact EvT.pure _
   ·exact EvT.tryCatch (EvT.pure _)
  refine EvT.mono (EvT.bind (k:=1) (k':=4+0) wdM ?_) (by decide)
  exact EvT.bind (k:=4) (k':=0) hcall (EvT.pure _)
 unfold pyHash pyHashByItsType
 refine EvT.mono (EvT.bind (k:=0) (k':=6) (a:=()) (S':=S) (by rw [cRoomFor,if_neg (by rw [hv];exact Bool.false_ne_true)];exact EvT.pure ()) ?_) (by decide)
 rw [hs]
 refine EvT.bind (k:=0) (k':=6) (EvT.pure _) ?_
 show EvT p w na ann (if (some (Value.builtin "int.__hash__")==some Value.none)=true then _ else _) S _ _ _
 rw [if_neg (by rw [beq_builtin_none];exact Bool.false_ne_true)]
 refine EvT.bind (k:=0) (k':=6) (EvT.pure _) ?_
 refine EvT.bind (k:=6) (k':=0) (hb _) ?_
 show EvT p w na ann (if (decide (-(2:Int) ^ 63<=rawHash k)&&decide (rawHash k<2 ^ 63))=true then _ else _) _ _ _ _
 rw [if_pos (by rw [decide_eq_true hr.1,decide_eq_true hr.2];rfl)]
 exact EvT.pure _
noncomputable def NoHash (h:Int) (es:List DictEntry):Prop:=∀ e∈es,e.hash≠h
theorem wot {es:List DictEntry} {h:Int} (hn:NoHash h es):placesWithHash es.toArray.size (fun i=>es.toArray[i]?.map (·.hash)) h=[]:=by
 unfold placesWithHash
 rw [List.filter_eq_nil_iff]
 intro i _ e
 simp only [List.getElem?_toArray]at e
 cases hi:es[i]? with
 | none=>rw [hi]at e;simp at e
 | some x=>
  rw [hi]at e
  have:x.hash=h:=by simpa using e
  exact hn x (List.mem_of_getElem? hi) this
structure DAt (na:Nat) (S:SharedT) (d:Nat) (es:List DictEntry):Prop where
 get:S.tree.get d=some (dObj es)
 lt:Nat.blt d S.n=true
 new:Nat.ble na d=true
theorem DAt.toks {d:Nat} {es:List DictEntry} {k:Nat} (h:DAt na S d es):DAt na { S with toks:=k } d es:=⟨h.get,h.lt,h.new⟩
theorem wes {d:Nat} {es:List DictEntry} {q:Option Value} (h:DAt na S d es):EvT p w na ann (dictEntries d q) S es.toArray S 1:=
 EvT.bind (k:=1) (k':=0) (EvT.loadPart h.lt h.get (wdd es)) (EvT.pure _)
theorem wn1 {d:Nat} {es:List DictEntry} {q:Option Value} (h:DAt na S d es):EvT p w na ann (dictEpoch d q) S es.length S 1:=
 EvT.bind (k:=1) (k':=0) (EvT.loadPart h.lt h.get (wdd es)) (EvT.pure _)
theorem wp6 {d:Nat} {es:List DictEntry} {k h:Int} {t:Tok} (hd:DAt na S d es) (hn:NoHash h es):EvT p w na ann (dictFind d (.int k t) h) S none S 1:=by
 unfold dictFind
 refine EvT.holding (EvT.bind (k:=1) (k':=0) (wes hd) ?_)
 dsimp only
 rw [wot hn]
 show EvT p w na ann (if ([Value.int k t].all carriedByValue)=true then _ else _) S _ S 0
 rw [if_pos (by rfl)]
 unfold dictWalkPlain
 exact EvT.pure _
noncomputable def grown (es:List DictEntry) (e:DictEntry):List DictEntry:=es++[e]
theorem wi4 (es:List DictEntry) (e:DictEntry):Obj.mapDictKeys (·.push e) (dObj es)=dObj (es++[e]):=by
 simp [Obj.mapDictKeys,dObj]
theorem wp4 {d:Nat} {es:List DictEntry} {e:DictEntry} {q:Option Value} (hd:DAt na S d es) (hz:es.length<=5000) :
  EvT p w na ann (updateDictKeys d (·.push e) q) S () { S with tree:=put S.tree d (dObj (es++[e])) } 3:=by
 unfold updateDictKeys
 refine EvT.bind (k:=1) (k':=2) (EvT.loadPart hd.lt hd.get (wdd es)) ?_
 show EvT p w na ann (do updatePart d q (Obj.mapDictKeys (·.push e));lookBehind d q) S _ _ 2
 have e1:S.tree.set d (Obj.mapDictKeys (·.push e))=put S.tree d (dObj (es++[e])):=by rw [wk1 _ _ _ _ hd.get,wi4]
 refine EvT.bind (k:=1) (k':=1) (S':={ S with tree:=put S.tree d (dObj (es++[e])) }) (e1 ▸ EvT.updatePart hd.lt hd.get (wdd es) hd.new) ?_
 unfold lookBehind
 refine EvT.bind (k:=1) (k':=0) (EvT.loadPart (o:=dObj (es++[e])) hd.lt (wmd hd.get) rfl) ?_
 have:(dObj (es++[e])).data.pastItsLine=none:=by
  show (if (es++[e]).toArray.size > sizeLine+1 then some "dict:memory" else none)=none
  rw [if_neg]
  simp only [List.size_toArray,List.length_append,List.length_singleton,sizeLine]
  omega
 rw [this]
 exact EvT.pure _
theorem wr3 {d:Nat} {es:List DictEntry} {k:Int} {t:Tok} {v:Value} (hd:DAt na S d es) (hn:NoHash (hashInt k) es) (hz:es.length<=5000) :
  EvT p w na ann (dictSet d (.int k t) v) S () { S with tree:=put S.tree d (dObj (es++[⟨hashInt k,.int k t,v⟩])),toks:=S.toks+1 } 17:=by
 unfold dictSet
 refine EvT.holding (EvT.bind (k:=12) (k':=5) (wvg k t) ?_)
 unfold dictSetHashed
 refine EvT.holding (EvT.bind (k:=1) (k':=4) (wp6 hd.toks hn) ?_)
 exact EvT.bind (k:=1) (k':=3) (EvT.rule _) (wp4 hd.toks hz)
theorem wwM {d:Nat} {es:List DictEntry} {k h:Int} {t:Tok} {v:Value} (hd:DAt na S d es) (hn:NoHash h es) (hz:es.length<=5000) :
  EvT p w na ann (dictPut d h (.int k t) v) S () { S with tree:=put S.tree d (dObj (es++[⟨h,.int k t,v⟩])) } 4:=by
 unfold dictPut
 exact EvT.bind (k:=1) (k':=3) (wp6 hd hn) (wp4 hd hz)
noncomputable def braunB:BT->Nat->Bool
 | .nil,n=>n==0
 | .node _ l r,n=>n != 0&&(braunB l (n / 2)&&braunB r ((n - 1) / 2))
theorem wrq {n:Nat} (h:n % 2=1):∃ k,n=2 * k+1/\n / 2=k:=⟨n / 2,(h ▸ Nat.div_add_mod n 2).symm,rfl⟩
theorem wme {n:Nat} (h0:¬ n=0) (h:¬ n % 2=1):∃ k,n=2 * k+2/\n / 2=k+1:=by
 have e:=Nat.div_add_mod n 2
 rw [(Nat.mod_two_eq_zero_or_one n).resolve_right h]at e
 cases q:n / 2 with
 | zero=>rw [q]at e;exact absurd e.symm h0
 | succ k=>rw [q]at e;exact ⟨k,e.symm,rfl⟩
theorem wtw {n:Nat} (h:n % 2=1):(n+1) / 2=n / 2+1:=by
 obtain ⟨k,e,q⟩:=wrq h
 rw [q,e];exact Nat.mul_div_cancel_left (k+1) Nat.two_pos
theorem wrS {n:Nat} (h:n % 2=1):n / 2=(n - 1) / 2:=by
 obtain ⟨k,e,q⟩:=wrq h
 rw [q,e];exact (Nat.mul_div_cancel_left k Nat.two_pos).symm
theorem wrR {n:Nat} (h0:¬ n=0) (h:¬ n % 2=1):(n+1) / 2=n / 2:=by
 obtain ⟨k,e,q⟩:=wme h0 h
 rw [q,e];exact Nat.mul_add_div Nat.two_pos (k+1) 1
theorem wtv {n:Nat} (h0:¬ n=0) (h:¬ n % 2=1):n / 2=n / 2 - 1+1:=by
 obtain ⟨k,e,q⟩:=wme h0 h
 rw [q];rfl
theorem wrT {n:Nat} (h0:¬ n=0) (h:¬ n % 2=1):(n - 1) / 2=n / 2 - 1:=by
 obtain ⟨k,e,q⟩:=wme h0 h
 rw [q,e];exact Nat.mul_add_div Nat.two_pos k 1
theorem wcV (o:Obj):∀ (T:BT) (n:Nat),braunB T n=true->braunB (T.ins n o) (n+1)=true/\((T.ins n o).get n).isSome=true
 | .nil,n,h=>by
  have h0:n=0:=by simpa [braunB] using h
  subst h0
  exact ⟨rfl,rfl⟩
 | .node v l r,n,h=>by
  simp only [braunB,Bool.and_eq_true,bne_iff_ne,ne_eq]at h
  obtain ⟨h0,hl,hr⟩:=h
  rw [BT.ins_node,if_neg h0]
  by_cases h1:n % 2=1
  ·rw [if_pos h1]
   obtain ⟨a,b⟩:=wcV o l (n / 2) hl
   refine ⟨?_,?_⟩
   ·simp only [braunB,Bool.and_eq_true,bne_iff_ne,ne_eq]
    refine ⟨Nat.succ_ne_zero n,?_,?_⟩
    ·rw [wtw h1];exact a
    ·rw [Nat.add_sub_cancel,wrS h1];exact hr
   ·rw [BT.get_node,if_neg h0,if_pos h1];exact b
  ·rw [if_neg h1]
   have e:(n - 1) / 2=n / 2 - 1:=wrT h0 h1
   rw [e]at hr
   obtain ⟨a,b⟩:=wcV o r (n / 2 - 1) hr
   refine ⟨?_,?_⟩
   ·simp only [braunB,Bool.and_eq_true,bne_iff_ne,ne_eq]
    refine ⟨Nat.succ_ne_zero n,?_,?_⟩
    ·rw [wrR h0 h1];exact hl
    ·rw [Nat.add_sub_cancel];exact (wtv h0 h1).symm ▸ a
   ·rw [BT.get_node,if_neg h0,if_neg h1];exact b
theorem whk (o:Obj):∀ (T:BT) (d n:Nat),braunB T n=true->braunB (put T d o) n=true
 | .nil,d,n,h=>h
 | .node v l r,d,n,h=>by
  simp only [braunB,Bool.and_eq_true]at h
  unfold put
  rw [BT.set_node]
  split
  ·simp only [braunB,Bool.and_eq_true];exact h
  ·split
   ·simp only [braunB,Bool.and_eq_true];exact ⟨h.1,whk o l _ _ h.2.1,h.2.2⟩
   ·simp only [braunB,Bool.and_eq_true];exact ⟨h.1,h.2.1,whk o r _ _ h.2.2⟩
theorem put_self {o:Obj}:∀ (T:BT) (d:Nat),T.get d=some o->put T d o=T
 | .nil,d,h=>rfl
 | .node v l r,d,h=>by
  rw [BT.get_node]at h
  unfold put
  rw [BT.set_node]
  by_cases h0:d=0
  ·rw [if_pos h0]at h;cases h;simp [h0]
  ·rw [if_neg h0]at h
   by_cases h1:d % 2=1
   ·rw [if_pos h1]at h;simp only [h0,h1,if_true,if_false];exact congrArg (BT.node v · r) (put_self l _ h)
   ·rw [if_neg h1]at h;simp only [h0,h1,if_false];exact congrArg (BT.node v l ·) (put_self r _ h)
noncomputable abbrev mkPair (q:Pos) (kv:Int×Str):Sem Value×Sem Value:=(mkInt kv.1,do let x <- mkText kv.2;standAt q;pure x)
noncomputable def chunkL:Nat->List (Int×Str)->List DictEntry
 | _,[]=>[]
 | t,(k,v)::r=>⟨hashInt k,.int k t,.str v (t+1)⟩::chunkL (t+3) r
noncomputable def chunkS:Nat->List (Int×Str)->List DictEntry
 | _,[]=>[]
 | t,(k,v)::r=>⟨hashInt k,.int k t,.str v (t+1)⟩::chunkS (t+2) r
noncomputable def rises:Int->List (Int×Str)->Bool
 | _,[]=>true
 | b,(k,_)::r=>decide (b<hashInt k)&&rises (hashInt k) r
noncomputable def lastH:Int->List (Int×Str)->Int
 | b,[]=>b
 | _,(k,_)::r=>lastH (hashInt k) r
noncomputable def UpTo (b:Int) (es:List DictEntry):Prop:=∀ e∈es,e.hash<=b
theorem UpTo.none {b h:Int} {es:List DictEntry} (u:UpTo b es) (hb:b<h):NoHash h es:=fun e he q=>by have:=u e he;omega
theorem UpTo.snoc {b h:Int} {es:List DictEntry} {e:DictEntry} (u:UpTo b es) (hb:b<h) (he:e.hash=h):UpTo h (es++[e]):=fun x hx=>by
 rcases List.mem_append.mp hx with q | q
 ·have:=u x q;omega
 ·rw [List.mem_singleton.mp q,he];exact Int.le_refl _
theorem wgW:∀ {b:Int} {L M:List (Int×Str)},rises b (L++M)=true->rises b L=true/\rises (lastH b L) M=true
 | b,[],M,h=>⟨rfl,h⟩
 | b,(k,v)::L,M,h=>by
  simp only [List.cons_append,rises,Bool.and_eq_true]at h ⊢
  obtain ⟨a,c⟩:=wgW h.2
  exact ⟨⟨h.1,a⟩,c⟩
noncomputable def IntE (c:List DictEntry):Prop:=∀ e∈c,∃ k t,e.key=.int k t
theorem wrQ:∀ (t:Nat) (L:List (Int×Str)),IntE (chunkL t L)
 | _,[]=>fun e he=>by cases he
 | t,(k,v)::r=>fun e he=>by
  rcases List.mem_cons.mp he with q | q
  ·exact ⟨k,t,by rw [q]⟩
  ·exact wrQ _ r e q
theorem wrP:∀ (t:Nat) (L:List (Int×Str)),IntE (chunkS t L)
 | _,[]=>fun e he=>by cases he
 | t,(k,v)::r=>fun e he=>by
  rcases List.mem_cons.mp he with q | q
  ·exact ⟨k,t,by rw [q]⟩
  ·exact wrP _ r e q
theorem wt8:∀ (t:Nat) (L:List (Int×Str)),(chunkL t L).length=L.length
 | _,[]=>rfl
 | t,(k,v)::r=>by simp only [chunkL,List.length_cons,wt8 _ r]
theorem wt7:∀ (t:Nat) (L:List (Int×Str)),(chunkS t L).length=L.length
 | _,[]=>rfl
 | t,(k,v)::r=>by simp only [chunkS,List.length_cons,wt7 _ r]
noncomputable def RisesE:Int->List DictEntry->Int->Prop
 | b,[],b'=>b'=b
 | b,e::r,b'=>b<e.hash/\RisesE e.hash r b'
theorem wnt:∀ {b:Int} {L:List (Int×Str)} (t:Nat),rises b L=true->RisesE b (chunkL t L) (lastH b L)
 | b,[],t,_=>rfl
 | b,(k,v)::r,t,h=>by
  simp only [rises,Bool.and_eq_true,decide_eq_true_eq]at h
  exact ⟨h.1,wnt _ h.2⟩
theorem wns:∀ {b:Int} {L:List (Int×Str)} (t:Nat),rises b L=true->RisesE b (chunkS t L) (lastH b L)
 | b,[],t,_=>rfl
 | b,(k,v)::r,t,h=>by
  simp only [rises,Bool.and_eq_true,decide_eq_true_eq]at h
  exact ⟨h.1,wns _ h.2⟩
theorem UpTo.app:∀ {b b':Int} {es c:List DictEntry},UpTo b es->RisesE b c b'->UpTo b' (es++c)
 | b,b',es,[],u,h=>by cases h;rw [List.append_nil];exact u
 | b,b',es,e::c,u,h=>by
  have:=UpTo.app (es:=es++[e]) (u.snoc h.1 rfl) h.2
  rwa [List.append_assoc]at this
theorem wr2 (v:Str) (q:Pos):EvT p w na ann (do let x <- mkText v;standAt q;pure x:Sem Value) S (.str v S.toks) { S with toks:=S.toks+1 } 2:=
 EvT.bind (k:=1) (k':=1) (EvT.mkText v) (EvT.bind (k:=1) (k':=0) (EvT.standAt q) (EvT.pure _))
theorem DAt.putSelf {d:Nat} {es es':List DictEntry} {k:Nat} (h:DAt na S d es):DAt na { S with tree:=put S.tree d (dObj es'),toks:=k } d es':=⟨wmd h.get,h.lt,h.new⟩
theorem DAt.putOther {d a:Nat} {es:List DictEntry} {o:Obj} {k:Nat} (h:DAt na S d es) (hne:d≠a):DAt na { S with tree:=put S.tree a o,toks:=k } d es:=⟨(wqG hne).trans h.get,h.lt,h.new⟩
theorem wp5 {d:Nat} {q:Pos}:∀ (L:List (Int×Str)) {b:Int} {es:List DictEntry} {S:SharedT},DAt na S d es->UpTo b es->rises b L=true->es.length+L.length<=5000 ->
  EvT p w na ann (forIn (L.map (mkPair q)) PUnit.unit fun x _=>match x with
   | (k,v)=>do
    let kv <- k
    let vv <- holding [kv] v
    holding [kv,vv] (dictSet d kv vv)
    pure (ForInStep.yield PUnit.unit)) S PUnit.unit { S with tree:=put S.tree d (dObj (es++chunkL S.toks L)),toks:=S.toks+3 * L.length } (20 * L.length)
 | [],b,es,S,hd,hu,hr,hz=>by
  have e:{ S with tree:=put S.tree d (dObj (es++chunkL S.toks [])),toks:=S.toks+3 * ([]:List (Int×Str)).length }=S:=by
   have:put S.tree d (dObj (es++[]))=S.tree:=by rw [List.append_nil];exact put_self _ _ hd.get
   show { S with tree:=put S.tree d (dObj (es++[])),toks:=S.toks }=S
   rw [this]
  rw [e]
  exact EvT.pure _
 | (k,v)::L,b,es,S,hd,hu,hr,hz=>by
  simp only [rises,Bool.and_eq_true,decide_eq_true_eq]at hr
  simp only [List.length_cons]at hz
  simp only [List.map_cons,List.forIn_cons]
  refine EvT.mono (EvT.bind (k:=20) (k':=20 * L.length) (S':={ S with tree:=put S.tree d (dObj (es++[⟨hashInt k,.int k S.toks,.str v (S.toks+1)⟩])),toks:=S.toks+3 }) (a:=ForInStep.yield PUnit.unit) ?_ ?_) (by rw [List.length_cons];omega)
  ·refine EvT.bind (k:=1) (k':=19) (EvT.mkInt k) ?_
   refine EvT.bind (k:=2) (k':=17) (EvT.holding (wr2 v q)) ?_
   refine EvT.bind (k:=17) (k':=0) (EvT.holding (wr3 (S:={ S with toks:=S.toks+1+1 }) hd.toks (hu.none hr.1) (by omega))) (EvT.pure _)
  ·have:=wp5 (q:=q) L (b:=hashInt k) (es:=es++[⟨hashInt k,.int k S.toks,.str v (S.toks+1)⟩]) (S:={ S with tree:=put S.tree d (dObj (es++[⟨hashInt k,.int k S.toks,.str v (S.toks+1)⟩])),toks:=S.toks+3 })
    hd.putSelf (hu.snoc hr.1 rfl) hr.2 (by rw [List.length_append,List.length_singleton];omega)
   dsimp only at this
   rw [wfK,List.append_assoc]at this
   have e:S.toks+3+3 * L.length=S.toks+3 * ((k,v)::L).length:=by rw [List.length_cons];omega
   rw [e]at this
   exact this
noncomputable def valsS:Nat->List (Int×Str)->List (Value×Value)
 | _,[]=>[]
 | t,(k,v)::r=>(.int k t,.str v (t+1))::valsS (t+2) r
theorem wnZ {q:Pos}:∀ (L:List (Int×Str)) {S:SharedT},EvT p w na ann (evalPairs (L.map (mkPair q))) S (valsS S.toks L) { S with toks:=S.toks+2 * L.length } (3 * L.length)
 | [],S=>EvT.pure _
 | (k,v)::L,S=>by
  simp only [List.map_cons,evalPairs]
  refine EvT.mono (EvT.bind (k:=1) (k':=2+3 * L.length) (EvT.mkInt k) ?_) (by rw [List.length_cons];omega)
  refine EvT.bind (k:=2) (k':=3 * L.length) (EvT.holding (wr2 v q)) ?_
  refine EvT.bind (k:=3 * L.length) (k':=0) (EvT.holding (wnZ (q:=q) L (S:={ S with toks:=S.toks+1+1 }))) ?_
  have e:S.toks+1+1+2 * L.length=S.toks+2 * ((k,v)::L).length:=by rw [List.length_cons];omega
  dsimp only
  rw [e]
  exact EvT.pure _
theorem wnY {d:Nat}:∀ (L:List (Int×Str)) {b:Int} {es:List DictEntry} {t:Nat} {S:SharedT},DAt na S d es->UpTo b es->rises b L=true->es.length+L.length<=5000 ->
  EvT p w na ann (forIn (valsS t L) PUnit.unit fun x _=>match x with
   | (k,v)=>do
    dictSet d k v
    pure (ForInStep.yield PUnit.unit)) S PUnit.unit { S with tree:=put S.tree d (dObj (es++chunkS t L)),toks:=S.toks+L.length } (17 * L.length)
 | [],b,es,t,S,hd,hu,hr,hz=>by
  have e:{ S with tree:=put S.tree d (dObj (es++chunkS t [])),toks:=S.toks+([]:List (Int×Str)).length }=S:=by
   have:put S.tree d (dObj (es++[]))=S.tree:=by rw [List.append_nil];exact put_self _ _ hd.get
   show { S with tree:=put S.tree d (dObj (es++[])),toks:=S.toks }=S
   rw [this]
  rw [e]
  exact EvT.pure _
 | (k,v)::L,b,es,t,S,hd,hu,hr,hz=>by
  simp only [rises,Bool.and_eq_true,decide_eq_true_eq]at hr
  simp only [List.length_cons]at hz
  simp only [valsS,List.forIn_cons]
  refine EvT.mono (EvT.bind (k:=17) (k':=17 * L.length) (S':={ S with tree:=put S.tree d (dObj (es++[⟨hashInt k,.int k t,.str v (t+1)⟩])),toks:=S.toks+1 }) (a:=ForInStep.yield PUnit.unit) ?_ ?_) (by rw [List.length_cons];omega)
  ·exact EvT.bind (k:=17) (k':=0) (wr3 hd (hu.none hr.1) (by omega)) (EvT.pure _)
  ·have:=wnY L (b:=hashInt k) (es:=es++[⟨hashInt k,.int k t,.str v (t+1)⟩]) (t:=t+2) (S:={ S with tree:=put S.tree d (dObj (es++[⟨hashInt k,.int k t,.str v (t+1)⟩])),toks:=S.toks+1 })
    hd.putSelf (hu.snoc hr.1 rfl) hr.2 (by rw [List.length_append,List.length_singleton];omega)
   dsimp only at this
   rw [wfK,List.append_assoc]at this
   have e:S.toks+1+L.length=S.toks+((k,v)::L).length:=by rw [List.length_cons];omega
   rw [e]at this
   exact this
noncomputable def chunk (t:Nat) (R:List (Int×Str)):List DictEntry:=if R.length<=15 then chunkS t R else chunkL t R
theorem wmE (t:Nat) (R:List (Int×Str)):(chunk t R).length=R.length:=by unfold chunk;split;exact wt7 _ _;exact wt8 _ _
theorem wqE (t:Nat) (R:List (Int×Str)):IntE (chunk t R):=by unfold chunk;split;exact wrP _ _;exact wrQ _ _
theorem weA {b:Int} {R:List (Int×Str)} (t:Nat) (h:rises b R=true):RisesE b (chunk t R) (lastH b R):=by unfold chunk;split;exact wns _ h;exact wnt _ h
noncomputable def subS (R:List (Int×Str)) (S:SharedT):SharedT:={ S with tree:=S.tree.ins S.n (dObj (chunk S.toks R)),n:=S.n+1,toks:=S.toks+3 * R.length }
theorem wwL {q:Pos} {R:List (Int×Str)} {b:Int} (hb:braunB S.tree S.n=true) (hn:na<=S.n) (hr:rises b R=true) (hz:R.length<=5000) :
  EvT p w na ann (subDict (R.map (mkPair q))) S S.n (subS R S) (20 * R.length+2):=by
 have hi:=(wcV (dObj []) S.tree S.n hb).2
 have hd:DAt na { S with tree:=S.tree.ins S.n (dObj []),n:=S.n+1 } S.n []:=
  ⟨get_ins hi,Nat.ble_eq_true_of_le (Nat.le_refl _),Nat.ble_eq_true_of_le hn⟩
 unfold subDict
 refine EvT.mono (EvT.bind (k:=1) (k':=20 * R.length+1) (EvT.alloc (o:=dObj []) hi) ?_) (by omega)
 refine EvT.bind (k:=20 * R.length+1) (k':=0) (a:=()) (EvT.holding ?_) (EvT.pure _)
 rw [List.length_map]
 by_cases hl:R.length<=15
 ·rw [if_pos hl]
  refine EvT.mono (EvT.bind (k:=3 * R.length) (k':=17 * R.length) (wnZ R) (EvT.holding ?_)) (by omega)
  refine EvT.bind (k:=17 * R.length) (k':=0) (a:=PUnit.unit) (S':=subS R S) ?_ (EvT.pure _)
  have:=wnY (p:=p) (w:=w) (ann:=ann) R (b:=b) (es:=[]) (t:=S.toks) (S:={ S with tree:=S.tree.ins S.n (dObj []),n:=S.n+1,toks:=S.toks+2 * R.length }) hd.toks (fun _ h=>by cases h) hr (by simpa using hz)
  dsimp only at this
  rw [whJ _ _ _ _ hi,List.nil_append]at this
  have e:{ S with tree:=S.tree.ins S.n (dObj (chunkS S.toks R)),n:=S.n+1,toks:=S.toks+2 * R.length+R.length }=subS R S:=by
   unfold subS chunk
   rw [if_pos hl]
   have:S.toks+2 * R.length+R.length=S.toks+3 * R.length:=by omega
   rw [this]
  rw [e]at this
  exact this
 ·rw [if_neg hl]
  refine EvT.mono (EvT.bind (k:=1) (k':=20 * R.length) (EvT.rule _) ?_) (by omega)
  refine EvT.bind (k:=20 * R.length) (k':=0) (a:=PUnit.unit) (S':=subS R S) ?_ (EvT.pure _)
  have:=wp5 (p:=p) (w:=w) (ann:=ann) (q:=q) R (b:=b) (es:=[]) (S:={ S with tree:=S.tree.ins S.n (dObj []),n:=S.n+1 }) hd (fun _ h=>by cases h) hr (by simpa using hz)
  dsimp only at this
  rw [whJ _ _ _ _ hi,List.nil_append]at this
  have e:{ S with tree:=S.tree.ins S.n (dObj (chunkL S.toks R)),n:=S.n+1,toks:=S.toks+3 * R.length }=subS R S:=by
   unfold subS chunk
   rw [if_neg hl]
  rw [e]at this
  exact this
theorem whd {d a:Nat} {c:List DictEntry} {ep:Nat} (hne:a≠d) (hep:ep=c.length):∀ (m i:Nat) {b b':Int} {es:List DictEntry} {S:SharedT},i+m=c.length->DAt na S d es->DAt na S a c->IntE c->UpTo b es ->
  RisesE b (c.drop i) b'->es.length+m<=5000 ->
  EvT p w na ann (forIn (List.range' i m) PUnit.unit fun i _=>do
    let es <- dictEntries a
    match es[i]? with
    | some e=>do
     holding [e.key,e.val] (if false=true then (do
       let f <- dictFind d e.key e.hash
       if f.isSome=true then do
        rule "dict.merge.duplicate-key"
        let x <- newExc (Value.type "KeyError") [e.key]
        let _ <- (raiseNew x:Sem PUnit)
        dictPut d e.hash e.key e.val
       else dictPut d e.hash e.key e.val) else dictPut d e.hash e.key e.val)
     let n <- dictEpoch a
     if (n != ep)=true then do
      unsupported "dict.changed-during-merge"
      pure (ForInStep.yield PUnit.unit)
     else pure (ForInStep.yield PUnit.unit)
    | _=>do
     unsupported "dict.changed-during-merge"
     pure (ForInStep.yield PUnit.unit)) S PUnit.unit { S with tree:=put S.tree d (dObj (es++c.drop i)) } (6 * m)
 | 0,i,b,b',es,S,him,hd,ha,hi,hu,hr,hz=>by
  have e:c.drop i=[]:=List.drop_eq_nil_of_le (by omega)
  have:put S.tree d (dObj (es++c.drop i))=S.tree:=by rw [e,List.append_nil];exact put_self _ _ hd.get
  rw [this]
  exact EvT.pure _
 | m+1,i,b,b',es,S,him,hd,ha,hi,hu,hr,hz=>by
  have hlt:i<c.length:=by omega
  rw [List.drop_eq_getElem_cons hlt]at hr ⊢
  obtain ⟨k,t,hk⟩:=hi c[i] (List.getElem_mem hlt)
  rw [List.range'_succ,List.forIn_cons]
  refine EvT.mono (EvT.bind (k:=6) (k':=6 * m) (S':={ S with tree:=put S.tree d (dObj (es++[c[i]])) }) (a:=ForInStep.yield PUnit.unit) ?_ ?_) (by omega)
  ·refine EvT.bind (k:=1) (k':=5) (wes ha) ?_
   rw [List.getElem?_toArray,List.getElem?_eq_getElem hlt]
   dsimp only
   refine EvT.bind (k:=4) (k':=1) (S':={ S with tree:=put S.tree d (dObj (es++[c[i]])) }) (a:=()) (EvT.holding ?_) ?_
   ·rw [if_neg Bool.false_ne_true,hk]
    have:=wwM (p:=p) (w:=w) (ann:=ann) (k:=k) (h:=c[i].hash) (t:=t) (v:=c[i].val) hd (hu.none hr.1) (by omega)
    have e:(⟨c[i].hash,.int k t,c[i].val⟩:DictEntry)=c[i]:=by rw [<- hk]
    rw [e]at this
    exact this
   ·refine EvT.bind (k:=1) (k':=0) (wn1 (S:={ S with tree:=put S.tree d (dObj (es++[c[i]])) }) (ha.putOther hne)) ?_
    rw [if_neg (by rw [hep];simp)]
    exact EvT.pure _
  ·have:=whd hne hep m (i+1) (b:=c[i].hash) (b':=b') (es:=es++[c[i]]) (S:={ S with tree:=put S.tree d (dObj (es++[c[i]])) }) (by omega)
    hd.putSelf (ha.putOther hne) hi (hu.snoc hr.1 rfl) hr.2 (by rw [List.length_append,List.length_singleton];omega)
   dsimp only at this
   rw [wfK,List.append_assoc]at this
   exact this
theorem wtG {d a:Nat} {c es:List DictEntry} {b b':Int} (hne:a≠d) (hs:(a==sysModules)=false) (hd:DAt na S d es) (ha:DAt na S a c) (hi:IntE c) (hu:UpTo b es) (hr:RisesE b c b') (hes:es≠[])
  (hz:es.length+c.length<=5000):EvT p w na ann (mergeMapping d (.ref a) false) S () { S with tree:=put S.tree d (dObj (es++c)) } (6 * c.length+5):=by
 have h1:EvT p w na ann (typeOf (.ref a)) S (.type "dict") S 1:=EvT.bind (k:=1) (k':=0) (EvT.loadPart ha.lt ha.get (wdd c)) (EvT.pure _)
 have h2:EvT p w na ann (isInstance (.ref a) (.type "dict")) S true S 1:=by
  unfold isInstance
  exact EvT.bind (k:=1) (k':=0) h1 (by rw [PySem.F.sub_dict_dict];exact EvT.pure _)
 have h3:EvT p w na ann (specialOf (.ref a) "__iter__") S (some (.builtin "dict.__iter__")) S 1:=by
  unfold specialOf
  exact EvT.bind (k:=1) (k':=0) h1 (by rw [PySem.F.slot_dict_iter.lookup];exact EvT.pure _)
 unfold mergeMapping
 refine EvT.mono (EvT.bind (k:=1) (k':=1+(1+(1+(1+6 * c.length)))) h2 ?_) (by omega)
 rw [if_pos rfl]
 refine EvT.bind (k:=1) (k':=1+(1+(1+6 * c.length))) h3 ?_
 refine EvT.bind (k:=0) (k':=1+(1+(1+6 * c.length))) (EvT.pure _) ?_ |> fun h=>EvT.mono h (by omega)
 rw [show (some (Value.builtin "dict.__iter__")==some (Value.builtin "dict.__iter__"))=true from by decide +kernel]
 dsimp only
 rw [if_neg (by rw [hs];exact Bool.false_ne_true)]
 refine EvT.bind (k:=1) (k':=1+(1+6 * c.length)) (wes hd) ?_
 rw [if_neg (by
  intro e
  have:es.toArray=#[]:=by simpa using e
  exact hes (by simpa using this))]
 refine EvT.bind (k:=1) (k':=1+6 * c.length) (wes ha) ?_
 refine EvT.bind (k:=1) (k':=6 * c.length) (wn1 ha) ?_
 refine EvT.bind (k:=6 * c.length) (k':=0) (a:=PUnit.unit) (S':={ S with tree:=put S.tree d (dObj (es++c)) }) ?_ (EvT.pure _)
 rw [List.range_eq_range',List.size_toArray]
 have:=whd (p:=p) (w:=w) (ann:=ann) hne (ep:=c.length) rfl c.length 0 (b:=b) (b':=b') (es:=es) (by omega) hd ha hi hu (by simpa using hr) hz
 rw [List.drop_zero]at this
 exact this
noncomputable abbrev Main:=Option (Nat×List DictEntry)
noncomputable def flushS (R:List (Int×Str)) (m:Main) (S:SharedT):Main×SharedT:=match R,m with
 | [],m=>(m,S)
 | kv::R,none=>(some (S.n,chunk S.toks (kv::R)),subS (kv::R) S)
 | kv::R,some (d,es)=>(some (d,es++chunk S.toks (kv::R)),{ subS (kv::R) S with tree:=put (subS (kv::R) S).tree d (dObj (es++chunk S.toks (kv::R))) })
noncomputable def loopS:List (Int×Str)->List (Int×Str)->Main->SharedT->Main×SharedT
 | [],R,m,S=>flushS R m S
 | kv::L,R,m,S=>match (R++[kv]).length==17 with
  | true=>loopS L [] (flushS (R++[kv]) m S).1 (flushS (R++[kv]) m S).2
  | false=>loopS L (R++[kv]) m S
structure MainOk (na:Nat) (S:SharedT) (b:Int) (m:Main) (z:Nat):Prop where
 braun:braunB S.tree S.n=true
 ge:na<=S.n
 small:sysModules<S.n
 at_:∀ d es,m=some (d,es)->DAt na S d es/\UpTo b es/\es≠[]/\es.length<=z
theorem sub_ok {d:Nat} {es:List DictEntry} {R:List (Int×Str)} (hb:braunB S.tree S.n=true) (h:DAt na S d es):DAt na (subS R S) d es/\d≠S.n:=by
 have hlt:d<S.n:=Nat.le_of_ble_eq_true h.lt
 have hi:=(wcV (dObj (chunk S.toks R)) S.tree S.n hb).2
 refine ⟨⟨?_,?_,h.new⟩,Nat.ne_of_lt hlt⟩
 ·show (S.tree.ins S.n _).get d=_
  rw [wqH hi (Nat.ne_of_lt hlt)];exact h.get
 ·exact Nat.ble_eq_true_of_le (Nat.le_succ_of_le hlt)
theorem woP {R:List (Int×Str)} (hb:braunB S.tree S.n=true) (hn:na<=S.n):DAt na (subS R S) S.n (chunk S.toks R):=
 ⟨get_ins (wcV (dObj (chunk S.toks R)) S.tree S.n hb).2,Nat.ble_eq_true_of_le (Nat.le_refl _),Nat.ble_eq_true_of_le hn⟩
noncomputable abbrev flushM (run:List (Sem Value×Sem Value)) (main:Option Addr):Sem (Option Addr):=
 if run.isEmpty=true then pure main
 else match main with
  | none=>do
   let x <- subDict run
   pure (some x)
  | some d=>do
   let sub <- holding [Value.ref d] (subDict run)
   (holding [Value.ref d,Value.ref sub] (mergeMapping d (Value.ref sub) false)).onRaise fun (x:Value)=>do
     let _ <- holding [Value.ref d,x] (runValue (Code.builtin "proto.let_go" { }))
     pure ()
   pure (some d)
theorem wn0 {q:Pos} {R:List (Int×Str)} {m:Main} {b:Int} {z:Nat} (h:MainOk na S b m z) (hr:rises b R=true) (hz:z+R.length<=5000) :
  EvT p w na ann (flushM (R.map (mkPair q)) (m.map (·.1))) S ((flushS R m S).1.map (·.1)) (flushS R m S).2 (40 * R.length)/\MainOk na (flushS R m S).2 (lastH b R) (flushS R m S).1 (z+R.length):=by
 cases R with
 | nil=>exact ⟨EvT.pure _,h⟩
 | cons kv R=>
  have hsub:=wwL (p:=p) (w:=w) (ann:=ann) (q:=q) h.braun h.ge hr (by omega)
  have hbr:braunB (subS (kv::R) S).tree (subS (kv::R) S).n=true:=(wcV (dObj (chunk S.toks (kv::R))) S.tree S.n h.braun).1
  have hne:(chunk S.toks (kv::R))≠[]:=fun e=>by have:=congrArg List.length e;rw [wmE]at this;simp at this
  have hl:(chunk S.toks (kv::R)).length=R.length+1:=by rw [wmE];rfl
  cases m with
  | none=>
   refine ⟨?_,⟨hbr,Nat.le_succ_of_le h.ge,Nat.lt_succ_of_lt h.small,fun d es e=>?_⟩⟩
   ·exact EvT.mono (EvT.bind (k':=0) hsub (EvT.pure _)) (by simp only [List.length_cons];omega)
   ·simp only [flushS,Option.some.injEq,Prod.mk.injEq]at e
    obtain ⟨rfl,rfl⟩:=e
    refine ⟨woP h.braun h.ge,?_,hne,by rw [hl,List.length_cons];omega⟩
    have:=UpTo.app (es:=[]) (fun _ x=>by cases x) (weA S.toks hr)
    rwa [List.nil_append]at this
  | some x=>
   obtain ⟨d,es⟩:=x
   obtain ⟨hd,hu,hes,hez⟩:=h.at_ d es rfl
   obtain ⟨hd',hne'⟩:=sub_ok (R:=kv::R) h.braun hd
   have hmerge:=wtG (p:=p) (w:=w) (ann:=ann) (S:=subS (kv::R) S) (Ne.symm hne') (beq_eq_false_iff_ne.mpr (Nat.ne_of_gt h.small)) hd' (woP h.braun h.ge) (wqE _ _) hu (weA S.toks hr) hes
    (by rw [hl];simp only [List.length_cons]at hz;omega)
   refine ⟨?_,⟨whk _ _ _ _ hbr,Nat.le_succ_of_le h.ge,Nat.lt_succ_of_lt h.small,fun d' es' e=>?_⟩⟩
   ·refine EvT.mono (EvT.bind (k:=20 * (kv::R).length+2) (k':=6 * (R.length+1)+5) (EvT.holding hsub) ?_) (by simp only [List.length_cons];omega)
    refine EvT.bind (k:=6 * (R.length+1)+5) (k':=0) (a:=()) (EvT.onRaise (EvT.holding ?_)) (EvT.pure _)
    rw [<- hl]
    exact hmerge
   ·simp only [flushS,Option.some.injEq,Prod.mk.injEq]at e
    obtain ⟨rfl,rfl⟩:=e
    refine ⟨⟨wmd hd'.get,hd'.lt,hd'.new⟩,UpTo.app hu (weA S.toks hr),fun e=>hes (List.append_eq_nil_iff.mp e).1,?_⟩
    rw [List.length_append,hl,List.length_cons];omega
noncomputable abbrev mkItem (q:Pos) (kv:Int×Str):Option (Sem Value)×Sem Value:=(some (mkPair q kv).1,(mkPair q kv).2)
noncomputable abbrev bodyM (x:Option (Sem Value)×Sem Value) (s:Option Addr×List (Sem Value×Sem Value)):Sem (ForInStep (Option Addr×List (Sem Value×Sem Value))):=
 match x with
 | (some k,v)=>
  if ((s.2++[(k,v)]).length==17)=true then do
   let main <- flushM (s.2++[(k,v)]) s.1
   pure (ForInStep.yield (main,[]))
  else pure (ForInStep.yield (s.1,s.2++[(k,v)]))
 | (none,_)=>unsupported ""
theorem wmf {q:Pos} {body:Option (Sem Value)×Sem Value->Option Addr×List (Sem Value×Sem Value)->Sem (ForInStep (Option Addr×List (Sem Value×Sem Value)))} (hb:∀ kv s,body (mkItem q kv) s=bodyM (mkItem q kv) s) :
  ∀ (L R:List (Int×Str)) {m:Main} {b:Int} {z:Nat} {S:SharedT},MainOk na S b m z->rises b (R++L)=true->z+R.length+L.length<=5000 ->
  EvT p w na ann (do
   let s <- forIn (L.map (mkItem q)) (m.map (·.1),R.map (mkPair q)) body
   flushM s.2 s.1) S ((loopS L R m S).1.map (·.1)) (loopS L R m S).2 (40 * (L.length+R.length))
 | [],R,m,b,z,S,h,hr,hz=>by
  rw [List.append_nil]at hr
  refine EvT.mono (EvT.bind (k:=0) (k':=40 * R.length) (EvT.pure _) (wn0 h hr (by simpa using hz)).1) (by simp)
 | kv::L,R,m,b,z,S,h,hr,hz=>by
  simp only [List.length_cons]at hz
  have hmap:R.map (mkPair q)++[((mkPair q kv).1,(mkPair q kv).2)]=(R++[kv]).map (mkPair q):=by rw [List.map_append];rfl
  have hr':rises b ((R++[kv])++L)=true:=by rw [List.append_assoc];exact hr
  rw [List.map_cons,List.forIn_cons]
  show EvT p w na ann ((body (mkItem q kv) (m.map (·.1),R.map (mkPair q)) >>= _) >>= _) S _ _ _
  rw [hb]
  show EvT p w na ann (((if ((R.map (mkPair q)++[((mkPair q kv).1,(mkPair q kv).2)]).length==17)=true then _ else _) >>= _) >>= _) S _ _ _
  rw [hmap,List.length_map]
  unfold loopS
  cases h17:((R++[kv]).length==17) with
  | true=>
   rw [if_pos rfl]
   obtain ⟨r1,r2⟩:=wgW hr'
   obtain ⟨f1,f2⟩:=wn0 (p:=p) (w:=w) (ann:=ann) (q:=q) h r1 (by rw [List.length_append,List.length_singleton];omega)
   have ih:=wmf hb L [] f2 r2 (by rw [List.length_append,List.length_singleton];simp only [List.length_nil];omega)
   dsimp only
   have e:∀ {α β γ δ:Type} (x:Sem α) (f:α->Sem β) (g:β->Sem γ) (k:γ->Sem δ),(((x >>= f) >>= g) >>= k)=x >>= fun a=>((f a >>= g) >>= k):=by
    intro α β γ δ x f g k
    simp only [Sem.bind_eq_wrap',Sem.wrap_wrap]
    rfl
   rw [e]
   refine EvT.mono (EvT.bind (k:=40 * (R++[kv]).length) (k':=40 * (L.length+0)) f1 ?_) (by rw [List.length_append,List.length_singleton];simp only [List.length_cons];omega)
   exact ih
  | false=>
   rw [if_neg Bool.false_ne_true]
   have ih:=wmf hb L (R++[kv]) h hr' (by rw [List.length_append,List.length_singleton];omega)
   refine EvT.mono ?_ (k:=40 * (L.length+(R++[kv]).length)) (by rw [List.length_append,List.length_singleton];simp only [List.length_cons];omega)
   exact ih
theorem wqM {q:Pos} {L:List (Int×Str)} {b:Int} {d:Nat} {es:List DictEntry} {S':SharedT} (hb:braunB S.tree S.n=true) (hn:na<=S.n) (hs:sysModules<S.n) (hr:rises b L=true) (hz:L.length<=5000)
  (e:loopS L [] none S=(some (d,es),S')):EvT p w na ann (dictDisplay (L.map (mkItem q))) S (.ref d) S' (40 * L.length):=by
 have h:MainOk na S b none 0:=⟨hb,hn,hs,fun _ _ x=>by cases x⟩
 have assoc:∀ {α β γ:Type} (x:Sem α) (f:α->Sem β) (g:β->Sem γ),(x >>= fun a=>f a >>= g)=((x >>= f) >>= g):=by
  intro α β γ x f g
  simp only [Sem.bind_eq_wrap',Sem.wrap_wrap]
  rfl
 unfold dictDisplay
 show EvT p w na ann (forIn (L.map (mkItem q)) ((none:Option Addr),([]:List (Sem Value×Sem Value))) _ >>= fun s=>flushM s.2 s.1 >>= fun r=>match r with
  | some d=>(pure (Value.ref d):Sem Value)
  | none=>newDict) S _ _ _
 rw [assoc]
 refine EvT.mono (EvT.bind (k:=40 * (L.length+0)) (k':=0) (a:=some d) (S':=S') ?_ (EvT.pure _)) (by simp)
 have:=wmf (p:=p) (w:=w) (ann:=ann) (q:=q) (body:=?_) ?_ L [] h hr (by simpa using hz)
 rw [e]at this
 exact this
 exact fun _ _=>rfl
end
set_option genInjectivity false
set_option genSizeOf false
noncomputable def stF (s:Stmt):Arguments×List Stmt×Scope:=@PySem.Stmt.casesOn (fun _=>_) s (fun _ a b _ _ _ sc _ _ _=>(a,b,sc)) (fun _ _ _ _ _ _ _ _ _ _=>(default,[],default)) (fun _ _ _ _ _ _ _ _ _ _ _=>(default,[],default)) (fun _ _=>(default,[],default)) (fun _ _=>(default,[],default)) (fun _ _ _=>(default,[],default)) (fun _ _ _ _ _ _ _=>(default,[],default)) (fun _ _ _ _=>(default,[],default)) (fun _ _ _ _ _=>(default,[],default)) (fun _ _ _ _ _=>(default,[],default)) (fun _ _ _ _ _=>(default,[],default)) (fun _ _ _ _=>(default,[],default)) (fun _ _ _ _=>(default,[],default)) (fun _ _ _=>(default,[],default)) (fun _ _ _=>(default,[],default)) (fun _ _ _=>(default,[],default)) (fun _ _ _=>(default,[],default)) (fun _ _ _ _ _=>(default,[],default)) (fun _ _ _ _ _=>(default,[],default)) (fun _ _ _=>(default,[],default)) (fun _ _=>(default,[],default)) (fun _ _ _ _=>(default,[],default)) (fun _ _=>(default,[],default)) (fun _ _=>(default,[],default)) (fun _ _=>(default,[],default)) (fun _=>(default,[],default)) (fun _=>(default,[],default)) (fun _=>(default,[],default))
noncomputable def fnPar (s:Stmt):Arguments:=(stF s).1
noncomputable def fnBody (s:Stmt):List Stmt:=(stF s).2.1
noncomputable def fnScope (s:Stmt):Scope:=(stF s).2.2
noncomputable def clBody (s:Stmt):List Stmt:=@PySem.Stmt.casesOn (fun _=>_) s (fun _ _ _ _ _ _ _ _ _ _=>[]) (fun _ _ _ _ _ _ _ _ _ _=>[]) (fun _ _ _ b _ _ _ _ _ _ _=>b) (fun _ _=>[]) (fun _ _=>[]) (fun _ _ _=>[]) (fun _ _ _ _ _ _ _=>[]) (fun _ _ _ _=>[]) (fun _ _ _ _ _=>[]) (fun _ _ _ _ _=>[]) (fun _ _ _ _ _=>[]) (fun _ _ _ _=>[]) (fun _ _ _ _=>[]) (fun _ _ _=>[]) (fun _ _ _=>[]) (fun _ _ _=>[]) (fun _ _ _=>[]) (fun _ _ _ _ _=>[]) (fun _ _ _ _ _=>[]) (fun _ _ _=>[]) (fun _ _=>[]) (fun _ _ _ _=>[]) (fun _ _=>[]) (fun _ _=>[]) (fun _ _=>[]) (fun _=>[]) (fun _=>[]) (fun _=>[])
noncomputable def stA (s:Stmt):List Expr×Expr×Pos:=@PySem.Stmt.casesOn (fun _=>_) s (fun _ _ _ _ _ _ _ _ _ _=>([],.Constant .none 0 default,default)) (fun _ _ _ _ _ _ _ _ _ _=>([],.Constant .none 0 default,default)) (fun _ _ _ _ _ _ _ _ _ _ _=>([],.Constant .none 0 default,default)) (fun _ _=>([],.Constant .none 0 default,default)) (fun _ _=>([],.Constant .none 0 default,default)) (fun ts e q=>(ts,e,q)) (fun _ _ _ _ _ _ _=>([],.Constant .none 0 default,default)) (fun _ _ _ _=>([],.Constant .none 0 default,default)) (fun _ _ _ _ _=>([],.Constant .none 0 default,default)) (fun _ _ _ _ _=>([],.Constant .none 0 default,default)) (fun _ _ _ _ _=>([],.Constant .none 0 default,default)) (fun _ _ _ _=>([],.Constant .none 0 default,default)) (fun _ _ _ _=>([],.Constant .none 0 default,default)) (fun _ _ _=>([],.Constant .none 0 default,default)) (fun _ _ _=>([],.Constant .none 0 default,default)) (fun _ _ _=>([],.Constant .none 0 default,default)) (fun _ _ _=>([],.Constant .none 0 default,default)) (fun _ _ _ _ _=>([],.Constant .none 0 default,default)) (fun _ _ _ _ _=>([],.Constant .none 0 default,default)) (fun _ _ _=>([],.Constant .none 0 default,default)) (fun _ _=>([],.Constant .none 0 default,default)) (fun _ _ _ _=>([],.Constant .none 0 default,default)) (fun _ _=>([],.Constant .none 0 default,default)) (fun _ _=>([],.Constant .none 0 default,default)) (fun _ _=>([],.Constant .none 0 default,default)) (fun _=>([],.Constant .none 0 default,default)) (fun _=>([],.Constant .none 0 default,default)) (fun _=>([],.Constant .none 0 default,default))
noncomputable def exD (e:Expr):List (Option Expr)×List Expr×Pos:=@PySem.Expr.casesOn (fun _=>_) e (fun _ _ _=>([],[],default)) (fun _ _ _=>([],[],default)) (fun _ _ _ _=>([],[],default)) (fun _ _ _=>([],[],default)) (fun _ _ _ _=>([],[],default)) (fun _ _ _ _=>([],[],default)) (fun ks vs q=>(ks,vs,q)) (fun _ _ _=>([],[],default)) (fun _ _ _ _=>([],[],default)) (fun _ _ _ _=>([],[],default)) (fun _ _ _ _ _=>([],[],default)) (fun _ _ _ _=>([],[],default)) (fun _ _=>([],[],default)) (fun _ _=>([],[],default)) (fun _ _=>([],[],default)) (fun _ _ _ _=>([],[],default)) (fun _ _ _ _=>([],[],default)) (fun _ _ _ _=>([],[],default)) (fun _ _=>([],[],default)) (fun _ _ _=>([],[],default)) (fun _ _ _=>([],[],default)) (fun _ _ _=>([],[],default)) (fun _ _=>([],[],default)) (fun _ _=>([],[],default)) (fun _ _=>([],[],default)) (fun _ _ _=>([],[],default)) (fun _ _ _ _=>([],[],default))
noncomputable def exN (e:Expr):Pos:=@PySem.Expr.casesOn (fun _=>_) e (fun _ _ _=>default) (fun _ _ _=>default) (fun _ _ _ _=>default) (fun _ _ _=>default) (fun _ _ _ _=>default) (fun _ _ _ _=>default) (fun _ _ _=>default) (fun _ _ _=>default) (fun _ _ _ _=>default) (fun _ _ _ _=>default) (fun _ _ _ _ _=>default) (fun _ _ _ _=>default) (fun _ _=>default) (fun _ _=>default) (fun _ _=>default) (fun _ _ _ _=>default) (fun _ _ _ _=>default) (fun _ _ _ _=>default) (fun _ _=>default) (fun _ _ _=>default) (fun _ _ _=>default) (fun _ _ _=>default) (fun _ _=>default) (fun _ p=>p) (fun _ _=>default) (fun _ _ _=>default) (fun _ _ _ _=>default)
noncomputable def conE (e:Expr):Option Const:=@PySem.Expr.casesOn (fun _=>_) e (fun _ _ _=>none) (fun _ _ _=>none) (fun _ _ _ _=>none) (fun _ _ _=>none) (fun _ _ _ _=>none) (fun _ _ _ _=>none) (fun _ _ _=>none) (fun _ _ _=>none) (fun _ _ _ _=>none) (fun _ _ _ _=>none) (fun _ _ _ _ _=>none) (fun _ _ _ _=>none) (fun _ _=>none) (fun _ _=>none) (fun _ _=>none) (fun _ _ _ _=>none) (fun _ _ _ _=>none) (fun _ _ _ _=>none) (fun _ _=>none) (fun c _ _=>some c) (fun _ _ _=>none) (fun _ _ _=>none) (fun _ _=>none) (fun _ _=>none) (fun _ _=>none) (fun _ _ _=>none) (fun _ _ _ _=>none)
noncomputable def dictKeys (s:Stmt):List (Option Expr):=(exD (stA s).2.1).1
noncomputable def dictVals (s:Stmt):List Expr:=(exD (stA s).2.1).2.1
noncomputable def dPos (s:Stmt):Pos:=(exD (stA s).2.1).2.2
noncomputable def dTgts (s:Stmt):List Expr:=(stA s).1
noncomputable def sPos (s:Stmt):Pos:=(stA s).2.2
noncomputable def nPos (l:List Expr):Pos:=exN (l.headD (.Constant .none 0 default))
noncomputable def coI (c:Const):Option Int:=match c with
 | .int i=>some i
 | _=>none
noncomputable def coS (c:Const):Option Str:=match c with
 | .str s=>some s
 | _=>none
noncomputable def pairOf (o:Option Expr) (v:Expr):Option (Int×Str):=o.bind fun k=>(conE k).bind fun a=>(conE v).bind fun b=>(coI a).bind fun i=>(coS b).map fun s=>(i,s)
theorem wqa {e:Expr} {c:Const} (h:conE e=some c):∃ k p,e=.Constant c k p:=by
 cases e<;>first | exact ⟨_,_,congrArg (fun c=>Expr.Constant c _ _) (Option.some.inj h)⟩ | exact nomatch (show (none:Option Const)=some c from h)
theorem wro {o:Option Expr} {v:Expr} {p:Int×Str} (h:pairOf o v=some p):∃ k q k' q',o=some (.Constant (.int p.1) k q)/\v=.Constant (.str p.2) k' q':=by
 unfold pairOf at h
 obtain ⟨e,he,h1⟩:=Option.bind_eq_some_iff.mp h
 obtain ⟨a,ha,h2⟩:=Option.bind_eq_some_iff.mp h1
 obtain ⟨b,hb,h3⟩:=Option.bind_eq_some_iff.mp h2
 obtain ⟨i,hi,h4⟩:=Option.bind_eq_some_iff.mp h3
 obtain ⟨s,hs,h5⟩:=Option.map_eq_some_iff.mp h4
 clear h h1 h2 h3 h4
 subst he h5
 obtain ⟨k,q,rfl⟩:=wqa ha
 obtain ⟨k',q',rfl⟩:=wqa hb
 have e1:a=.int i:=by cases a<;>first | exact congrArg Const.int (Option.some.inj hi) | exact nomatch (show (none:Option Int)=some i from hi)
 have e2:b=.str s:=by cases b<;>first | exact congrArg Const.str (Option.some.inj hs) | exact nomatch (show (none:Option Str)=some s from hs)
 subst e1 e2
 exact ⟨k,q,k',q',rfl,rfl⟩
noncomputable def dictPairs:List (Option Expr)->List Expr->List (Int×Str)
 | [],_=>[]
 | _::_,[]=>[]
 | k::ks,v::vs=>(pairOf k v).elim [] fun p=>p::dictPairs ks vs
noncomputable def okPairs:List (Option Expr)->List Expr->Bool
 | [],vs=>vs.isEmpty
 | _::_,[]=>false
 | k::ks,v::vs=>(pairOf k v).isSome&&okPairs ks vs
theorem wts {env:Env} {q:Pos} (ks:List (Option Expr)):∀ (vs:List Expr),okPairs ks vs=true ->
  (evalEachOpt ks env).zip ((evalEach vs env).map fun v=>do let x <- v;standAt q;pure x)=(dictPairs ks vs).map (mkItem q):=by
 induction ks with
 | nil=>intro vs h;rfl
 | cons k ks ih=>
  intro vs h
  cases vs with
  | nil=>exact absurd h Bool.false_ne_true
  | cons v vs=>
   obtain ⟨h1,h2⟩:=Bool.and_eq_true_iff.mp (show ((pairOf k v).isSome&&okPairs ks vs)=true from h)
   obtain ⟨p,hp⟩:=Option.isSome_iff_exists.mp h1
   obtain ⟨k1,q1,k2,q2,rfl,rfl⟩:=wro hp
   exact congrArg (List.cons (mkItem q p)) (ih vs h2)
theorem wgV {tb:String->Option Builtin} {p:Program} {w:World} {na:Nat} {ann:Option Value} {b:Nat} (k:Nat):∀ (n:Nat) (s:SharedT) (t:Thread) (r:Flow×SharedT×Code×Pos),segRunT tb p w na ann b n s t=some r->segRunT tb p w na ann b (n+k) s t=some r
 | 0,_,_,_,h=>by cases h
 | n+1,s,t,r,h=>by
  rw [show n+1+k=n+k+1 by omega]
  unfold segRunT at h ⊢
  cases he:endAt b t with
  | some f=>rw [he]at h;exact h
  | none=>
   rw [he]at h
   cases hk:stepOk na ann t with
   | false=>rw [hk]at h;cases h
   | true=>
    rw [hk]at h
    cases hs:stepT (denote tb) p w s t with
    | none=>rw [hs]at h;cases h
    | some x=>obtain ⟨s',t'⟩:=x;rw [hs]at h;exact wgV k n s' t' r h
theorem wgU {p:Program} {w:World} {na:Nat} {ann:Option Value}:∀ {n m:Nat} {S S':SharedT} {t t':Thread} {r:Flow×SharedT×Code×Pos},seg p w na ann n S t=some (S',t')->segRunT treeTable p w na ann 1 m S' t'=some r ->
  segRunT treeTable p w na ann 1 (n+m) S t=some r
 | 0,m,S,S',t,t',r,h,k=>by
  have:some (S,t)=some (S',t'):=h
  cases this
  rw [Nat.zero_add];exact k
 | n+1,m,S,S',t,t',r,h,k=>by
  rw [show n+1+m=(n+m)+1 by omega]
  unfold seg segGoT at h
  unfold segRunT
  cases he:endAt 1 t with
  | some f=>rw [he]at h;cases h
  | none=>
   rw [he]at h
   cases hk:stepOk na ann t with
   | false=>rw [hk]at h;cases h
   | true=>
    rw [hk]at h
    cases hs:stepT (denote treeTable) p w S t with
    | none=>rw [hs]at h;cases h
    | some rc=>obtain ⟨s₂,ta⟩:=rc;rw [hs]at h;exact wgU (n:=n) h k
theorem wrh {α β γ:Type} (x:Sem α) (f:α->Sem β) (g:β->Sem γ):((x >>= f) >>= g)=(x >>= fun a=>f a >>= g):=by
 simp only [Sem.bind_eq_wrap',Sem.wrap_wrap]
 rfl
noncomputable abbrev flowOn (env:Env) (f:Flow):Sem Flow:=match f with
 | Flow.next=>execs [] env
 | f=>pure f
noncomputable abbrev dictTail (x:Str) (pn:Pos) (env:Env) (v:Value):Sem Flow:=(assignAll v [assign (.Name x pn) env] >>= fun _=>(pure Flow.next:Sem Flow)) >>= flowOn env
theorem wr1 {x:Str} {pn q p3:Pos} {ks:List (Option Expr)} {vs:List Expr} {env:Env}:execs [.Assign [.Name x pn] (.Dict ks vs q) p3] env =
  (standAt p3 >>= fun _=>standAt q >>= fun _=>dictDisplay ((evalEachOpt ks env).zip ((evalEach vs env).map fun v=>do let x <- v;standAt q;pure x))) >>= fun v=>dictTail x pn env v:=by
 have h:exec (.Assign [.Name x pn] (.Dict ks vs q) p3) env=(standAt p3 >>= fun _=>standAt q >>= fun _=>dictDisplay ((evalEachOpt ks env).zip ((evalEach vs env).map fun v=>do let x <- v;standAt q;pure x))) >>= fun v=>(assignAll v [assign (.Name x pn) env] >>= fun _=>(pure Flow.next:Sem Flow)):=by
  rfl
 have h2:execs [.Assign [.Name x pn] (.Dict ks vs q) p3] env=exec (.Assign [.Name x pn] (.Dict ks vs q) p3) env >>= flowOn env:=rfl
 rw [h2,h,wrh]
end Mine
end
section
noncomputable section
namespace Mine
open PySem PySem.W PyProof.Rows PySem.Calls
noncomputable abbrev uL (o:Obj):BT:=.node o .nil .nil
noncomputable abbrev sV (x:String) (n:Nat):Value:=.str (Str.ofString x) n
noncomputable abbrev eV (P:Params) (x:String) (n:Nat) (v:Value):DictEntry:=⟨PyData.keyHash P (Str.ofString x),.str (Str.ofString x) n,v⟩
noncomputable abbrev i0:Value:=.int 0 0
noncomputable abbrev oE:Obj:=⟨(.type "tuple"),none,(.seq #[] 0),#[]⟩
noncomputable abbrev prog:Program:=PySem.Challenge.pw_xb0039_01
noncomputable def st (i:Nat):Stmt:=prog.main.body.getD i (.Pass default)
noncomputable def sub (s:Stmt) (j:Nat):Stmt:=(clBody s).getD j (.Pass default)
noncomputable abbrev ann0:Option Value:=some (.ref 6)
noncomputable def env0:Env:={ scope:=prog.main.scope,locals:=mainNs,globals:=mainNs,cells:=[],code:=.ref 13,frame:=some 14 }
noncomputable def wag:Code:=.body (behindTheImports prog) env0
noncomputable abbrev SAt (T:Params->BT) (n tk:Nat) (w:World) (os:OsState):SharedT:=⟨T w.params,n,{},Array.mk [],boot_drawn,tk,os⟩
noncomputable def wcx (P:Params):Obj:=oE
noncomputable def wrr (P:Params):Obj:=⟨.none,none,(.fields #[]),#[]⟩
noncomputable def wcw (P:Params):Obj:=⟨(.type "code"),none,(.fields #[(sV "<module>" 182),(sV "<module>" 183),(sV "/claim/cut.py" 184),(.int 1 0),i0,i0,i0,i0,(.ref 11),(.bool false),(.int 181 0),(.ref 12),.none,.none,.none,.none,(.int 185 0),(.int 1 0),(sV "/claim/cut.py" 186)]),#[]⟩
noncomputable def wcv (P:Params):Obj:=⟨(.type "frame"),none,.plain,#[(some (.ref 13)),(some (.ref 3)),(some (.ref 3)),none,(some (sV "__main__" 164)),none,(some (.ref 0))]⟩
noncomputable def wqg (P:Params):List Obj:=[boot_o_0 P,boot_o_1 P,boot_o_2 P,boot_o_3 P,boot_o_4 P,boot_o_5 P,boot_o_6 P,boot_o_7 P,boot_o_8 P,boot_o_9 P,boot_o_10 P,wcx P,wrr P,wcw P,wcv P]
noncomputable def tokA:Nat:=187
noncomputable def posA:Pos:=⟨0,0,0,0⟩
noncomputable def posQ:Pos:=⟨0,0,0,0⟩
noncomputable def T0 (P:Params):BT:=(.node (boot_o_0 P) (.node (boot_o_1 P) (.node (boot_o_3 P) (uL (boot_o_7 P)) (uL (wcx P))) (.node (boot_o_5 P) (uL (boot_o_9 P)) (uL (wcw P)))) (.node (boot_o_2 P) (.node (boot_o_4 P) (uL (boot_o_8 P)) (uL (wrr P))) (.node (boot_o_6 P) (uL (boot_o_10 P)) (uL (wcv P)))))
noncomputable def n0:Nat:=15
noncomputable def pos0:Pos:=⟨0,0,0,0⟩
noncomputable def wxu (P:Params):Obj:=⟨(.type "dict"),none,(.dict #[eV P "__name__" 165 (sV "cpy313.stringprep" 194),eV P "__doc__" 166 .none,eV P "__package__" 167 .none,eV P "__loader__" 168 (.builtin "__main__.__loader__#opaque"),eV P "__spec__" 169 .none,eV P "__annotations__" 170 (.ref 6),eV P "__builtins__" 171 (.ref 4),eV P "__file__" 173 (sV "/claim/cut.py" 172),eV P "__cached__" 174 .none,eV P "_wall" 193 (.ref 21)] 10),#[]⟩
noncomputable def wru (P:Params):Obj:=⟨.none,none,(.fields #[(.int 1 0),i0,(.ref 20)]),#[]⟩
noncomputable def wd0 (P:Params):Obj:=oE
noncomputable def weM (P:Params):Obj:=⟨.none,none,(.fields #[]),#[]⟩
noncomputable def wdZ (P:Params):Obj:=⟨(.type "tuple"),none,(.seq #[(sV "k" 190)] 0),#[]⟩
noncomputable def wdY (P:Params):Obj:=oE
noncomputable def wdX (P:Params):Obj:=⟨.none,none,(.func { name:=(Str.ofString "_wall"),qualname:=(Str.ofString "_wall"),params:=fnPar (st 0),body:=.stmts (fnBody (st 0)),scope:=fnScope (st 0),globals:=0,closure:=[],defaults:=.none,kwdefaults:=.none,doc:=.none,pyModule:=.none,annotations:=none,code:=.none,closureTuple:=.none,builtins:=0 }),#[]⟩
noncomputable def wdW (P:Params):Obj:=⟨(.type "code"),none,(.fields #[(sV "_wall" 187),(sV "_wall" 188),(sV "/claim/cut.py" 189),(.int 1 0),(.int 1 0),i0,i0,(.int 3 0),(.ref 15),(.bool true),(.int 181 0),(.ref 16),.none,(.ref 17),(.ref 18),(.ref 19),(.int 191 0),(.int 1 0),(sV "/claim/cut.py" 192)]),#[]⟩
noncomputable def wdV (P:Params):Obj:=⟨(.type "function"),none,(.func { name:=(Str.ofString "_wall"),qualname:=(Str.ofString "_wall"),params:=fnPar (st 0),body:=.stmts (fnBody (st 0)),scope:=fnScope (st 0),globals:=3,closure:=[],defaults:=.none,kwdefaults:=.none,doc:=.none,pyModule:=(sV "__main__" 164),annotations:=none,code:=(.ref 20),closureTuple:=.none,builtins:=0 }),#[]⟩
noncomputable def T1 (P:Params):BT:=(.node (boot_o_0 P) (.node (boot_o_1 P) (.node (wxu P) (.node (boot_o_7 P) (uL (wd0 P)) .nil) (.node (wcx P) (uL (wdX P)) .nil)) (.node (boot_o_5 P) (.node (boot_o_9 P) (uL (wdZ P)) .nil) (.node (wcw P) (uL (wdV P)) .nil))) (.node (boot_o_2 P) (.node (boot_o_4 P) (.node (boot_o_8 P) (uL (weM P)) .nil) (.node (wru P) (uL (wdW P)) .nil)) (.node (boot_o_6 P) (.node (boot_o_10 P) (uL (wdY P)) .nil) (uL (wcv P)))))
noncomputable def n1:Nat:=22
noncomputable def tok1:Nat:=196
noncomputable def pos1:Pos:=⟨4,0,4,8⟩
noncomputable def wxt (P:Params):Obj:=⟨(.type "dict"),none,(.dict #[eV P "__name__" 165 (sV "cpy313.stringprep" 194),eV P "__doc__" 166 .none,eV P "__package__" 167 .none,eV P "__loader__" 168 (.builtin "__main__.__loader__#opaque"),eV P "__spec__" 169 .none,eV P "__annotations__" 170 (.ref 6),eV P "__builtins__" 171 (.ref 4),eV P "__file__" 173 (sV "/claim/cut.py" 172),eV P "__cached__" 174 .none,eV P "_wall" 193 (.ref 21),eV P "b1_set" 255 (.ref 29)] 11),#[]⟩
noncomputable def weL (P:Params):Obj:=⟨(.type "list"),none,(.seq #[(.int 173 196),(.int 847 197),(.int 6150 198),(.int 6155 199),(.int 6156 200),(.int 6157 201),(.int 8203 202),(.int 8204 203),(.int 8205 204),(.int 8288 205),(.int 65279 206)] 0),#[]⟩
noncomputable def weK (P:Params):Obj:=⟨(.type "range"),none,(.fields #[(.int 65024 207),(.int 65040 208),(.int 1 209)]),#[]⟩
noncomputable def wfU (P:Params):Obj:=⟨(.type "list"),none,(.seq #[(.int 65024 212),(.int 65025 213),(.int 65026 214),(.int 65027 215),(.int 65028 216),(.int 65029 217),(.int 65030 218),(.int 65031 219),(.int 65032 220),(.int 65033 221),(.int 65034 222),(.int 65035 223),(.int 65036 224),(.int 65037 225),(.int 65038 226),(.int 65039 227)] 18),#[]⟩
noncomputable def weJ (P:Params):Obj:=⟨(.type "range_iterator"),none,(.fields #[(.int 65040 0),i0,(.int 1 0)]),#[]⟩
noncomputable def weI (P:Params):Obj:=oE
noncomputable def weH (P:Params):Obj:=⟨(.type "StopIteration"),none,(.fields #[(.ref 26),.none,.none,.none,(.bool false),.none]),#[]⟩
noncomputable def weG (P:Params):Obj:=⟨(.type "list"),none,(.seq #[(.int 173 196),(.int 847 197),(.int 6150 198),(.int 6155 199),(.int 6156 200),(.int 6157 201),(.int 8203 202),(.int 8204 203),(.int 8205 204),(.int 8288 205),(.int 65279 206),(.int 65024 212),(.int 65025 213),(.int 65026 214),(.int 65027 215),(.int 65028 216),(.int 65029 217),(.int 65030 218),(.int 65031 219),(.int 65032 220),(.int 65033 221),(.int 65034 222),(.int 65035 223),(.int 65036 224),(.int 65037 225),(.int 65038 226),(.int 65039 227)] 0),#[]⟩
noncomputable def wc6 (P:Params):Obj:=⟨(.type "set"),none,(.set #[(65024,(.int 65024 212)),(65025,(.int 65025 213)),(65026,(.int 65026 214)),(65027,(.int 65027 215)),(65028,(.int 65028 216)),(65029,(.int 65029 217)),(6150,(.int 6150 198)),(65030,(.int 65030 218)),(65031,(.int 65031 219)),(65032,(.int 65032 220)),(65033,(.int 65033 221)),(6155,(.int 6155 199)),(6156,(.int 6156 200)),(6157,(.int 6157 201)),(8203,(.int 8203 202)),(8204,(.int 8204 203)),(8205,(.int 8205 204)),(65034,(.int 65034 222)),(65035,(.int 65035 223)),(65036,(.int 65036 224)),(65037,(.int 65037 225)),(65038,(.int 65038 226)),(65039,(.int 65039 227)),(173,(.int 173 196)),(847,(.int 847 197)),(8288,(.int 8288 205)),(65279,(.int 65279 206))] 29 { mask:=127,place:=#[0,1,2,3,4,5,6,7,8,9,10,11,12,13,14,15,16,17,18,19,20,21,22,45,79,96,127],dummies:=#[],finger:=0,led:=!P.followText "set-order",moves:=2,plain:=true }),#[]⟩
noncomputable def weF (P:Params):Obj:=⟨(.type "list_iterator"),none,(.fields #[.none,(.int 27 0)]),#[]⟩
noncomputable def weE (P:Params):Obj:=oE
noncomputable def wfT (P:Params):Obj:=⟨(.type "StopIteration"),none,(.fields #[(.ref 31),.none,.none,.none,(.bool false),.none]),#[]⟩
noncomputable def u0 (P:Params):BT:=(.node (boot_o_8 P) (.node (weM P) (uL (wfT P)) .nil) (uL (wfU P)))
noncomputable def T2 (P:Params):BT:=(.node (boot_o_0 P) (.node (boot_o_1 P) (.node (wxt P) (.node (boot_o_7 P) (.node (wd0 P) (uL (weE P)) .nil) (uL (weK P))) (.node (wcx P) (uL (wdX P)) (uL (weH P)))) (.node (boot_o_5 P) (.node (boot_o_9 P) (uL (wdZ P)) (uL (weJ P))) (.node (wcw P) (uL (wdV P)) (uL (wc6 P))))) (.node (boot_o_2 P) (.node (boot_o_4 P) (u0 P) (.node (wru P) (uL (wdW P)) (uL (weG P)))) (.node (boot_o_6 P) (.node (boot_o_10 P) (uL (wdY P)) (uL (weI P))) (.node (wcv P) (uL (weL P)) (uL (weF P))))))
noncomputable def n2:Nat:=33
noncomputable def tok2:Nat:=256
noncomputable def pos2:Pos:=⟨5,0,5,6⟩
noncomputable def wt5 (P:Params):Obj:=⟨(.type "dict"),none,(.dict #[eV P "__name__" 165 (sV "cpy313.stringprep" 194),eV P "__doc__" 166 .none,eV P "__package__" 167 .none,eV P "__loader__" 168 (.builtin "__main__.__loader__#opaque"),eV P "__spec__" 169 .none,eV P "__annotations__" 170 (.ref 6),eV P "__builtins__" 171 (.ref 4),eV P "__file__" 173 (sV "/claim/cut.py" 172),eV P "__cached__" 174 .none,eV P "_wall" 193 (.ref 21),eV P "b1_set" 255 (.ref 29),eV P "in_table_b1" 262 (.ref 39)] 12),#[]⟩
noncomputable def wrt (P:Params):Obj:=⟨.none,none,(.fields #[(.int 1 0),i0,(.ref 20),(.int 6 0),i0,(.ref 38)]),#[]⟩
noncomputable def wfS (P:Params):Obj:=oE
noncomputable def wfR (P:Params):Obj:=⟨.none,none,(.fields #[]),#[]⟩
noncomputable def wfQ (P:Params):Obj:=⟨(.type "tuple"),none,(.seq #[(sV "code" 259)] 0),#[]⟩
noncomputable def wfP (P:Params):Obj:=oE
noncomputable def wfO (P:Params):Obj:=⟨.none,none,(.func { name:=(Str.ofString "in_table_b1"),qualname:=(Str.ofString "in_table_b1"),params:=fnPar (st 3),body:=.stmts (fnBody (st 3)),scope:=fnScope (st 3),globals:=0,closure:=[],defaults:=.none,kwdefaults:=.none,doc:=.none,pyModule:=.none,annotations:=none,code:=.none,closureTuple:=.none,builtins:=0 }),#[]⟩
noncomputable def wfN (P:Params):Obj:=⟨(.type "code"),none,(.fields #[(sV "in_table_b1" 256),(sV "in_table_b1" 257),(sV "/claim/cut.py" 258),(.int 6 0),(.int 1 0),i0,i0,(.int 3 0),(.ref 33),(.bool true),(.int 181 0),(.ref 34),.none,(.ref 35),(.ref 36),(.ref 37),(.int 260 0),(.int 6 0),(sV "/claim/cut.py" 261)]),#[]⟩
noncomputable def wfM (P:Params):Obj:=⟨(.type "function"),none,(.func { name:=(Str.ofString "in_table_b1"),qualname:=(Str.ofString "in_table_b1"),params:=fnPar (st 3),body:=.stmts (fnBody (st 3)),scope:=fnScope (st 3),globals:=3,closure:=[],defaults:=.none,kwdefaults:=.none,doc:=.none,pyModule:=(sV "cpy313.stringprep" 194),annotations:=none,code:=(.ref 38),closureTuple:=.none,builtins:=0 }),#[]⟩
noncomputable def T3 (P:Params):BT:=(.node (boot_o_0 P) (.node (boot_o_1 P) (.node (wt5 P) (.node (boot_o_7 P) (.node (wd0 P) (uL (weE P)) .nil) (.node (weK P) (uL (wfM P)) .nil)) (.node (wcx P) (.node (wdX P) (uL (wfQ P)) .nil) (uL (weH P)))) (.node (boot_o_5 P) (.node (boot_o_9 P) (.node (wdZ P) (uL (wfS P)) .nil) (uL (weJ P))) (.node (wcw P) (.node (wdV P) (uL (wfO P)) .nil) (uL (wc6 P))))) (.node (boot_o_2 P) (.node (boot_o_4 P) (u0 P) (.node (wrt P) (.node (wdW P) (uL (wfP P)) .nil) (uL (weG P)))) (.node (boot_o_6 P) (.node (boot_o_10 P) (.node (wdY P) (uL (wfR P)) .nil) (uL (weI P))) (.node (wcv P) (.node (weL P) (uL (wfN P)) .nil) (uL (weF P))))))
noncomputable def n3:Nat:=40
noncomputable def tok3:Nat:=263
noncomputable def pos3:Pos:=⟨6,0,7,30⟩
noncomputable def dictL:List (Int×Str):=dictPairs (dictKeys (st 4)) (dictVals (st 4))
noncomputable def chunkAt (i:Nat):List DictEntry:=chunk (tok3+51 * i) ((dictL.drop (17 * i)).take 17)
noncomputable def allTo:Nat->List DictEntry
 | 0=>chunkAt 0
 | i+1=>allTo i++chunkAt (i+1)
noncomputable def wge (_:Params):Obj:=dObj (allTo 38)
noncomputable def wkr (_:Params):Obj:=dObj (chunkAt 1)
noncomputable def wkq (_:Params):Obj:=dObj (chunkAt 2)
noncomputable def wkp (_:Params):Obj:=dObj (chunkAt 3)
noncomputable def wko (_:Params):Obj:=dObj (chunkAt 4)
noncomputable def wkn (_:Params):Obj:=dObj (chunkAt 5)
noncomputable def wkm (_:Params):Obj:=dObj (chunkAt 6)
noncomputable def wkl (_:Params):Obj:=dObj (chunkAt 7)
noncomputable def wkk (_:Params):Obj:=dObj (chunkAt 8)
noncomputable def wkj (_:Params):Obj:=dObj (chunkAt 9)
noncomputable def wki (_:Params):Obj:=dObj (chunkAt 10)
noncomputable def wkh (_:Params):Obj:=dObj (chunkAt 11)
noncomputable def wkg (_:Params):Obj:=dObj (chunkAt 12)
noncomputable def wkf (_:Params):Obj:=dObj (chunkAt 13)
noncomputable def wke (_:Params):Obj:=dObj (chunkAt 14)
noncomputable def wkd (_:Params):Obj:=dObj (chunkAt 15)
noncomputable def wkc (_:Params):Obj:=dObj (chunkAt 16)
noncomputable def wkb (_:Params):Obj:=dObj (chunkAt 17)
noncomputable def wka (_:Params):Obj:=dObj (chunkAt 18)
noncomputable def wj9 (_:Params):Obj:=dObj (chunkAt 19)
noncomputable def wj8 (_:Params):Obj:=dObj (chunkAt 20)
noncomputable def wj7 (_:Params):Obj:=dObj (chunkAt 21)
noncomputable def wj6 (_:Params):Obj:=dObj (chunkAt 22)
noncomputable def wm2 (_:Params):Obj:=dObj (chunkAt 23)
noncomputable def wm1 (_:Params):Obj:=dObj (chunkAt 24)
noncomputable def wm0 (_:Params):Obj:=dObj (chunkAt 25)
noncomputable def wj5 (_:Params):Obj:=dObj (chunkAt 26)
noncomputable def wj4 (_:Params):Obj:=dObj (chunkAt 27)
noncomputable def wj3 (_:Params):Obj:=dObj (chunkAt 28)
noncomputable def wj2 (_:Params):Obj:=dObj (chunkAt 29)
noncomputable def wj1 (_:Params):Obj:=dObj (chunkAt 30)
noncomputable def wj0 (_:Params):Obj:=dObj (chunkAt 31)
noncomputable def wjZ (_:Params):Obj:=dObj (chunkAt 32)
noncomputable def wjY (_:Params):Obj:=dObj (chunkAt 33)
noncomputable def wjX (_:Params):Obj:=dObj (chunkAt 34)
noncomputable def wjW (_:Params):Obj:=dObj (chunkAt 35)
noncomputable def wjV (_:Params):Obj:=dObj (chunkAt 36)
noncomputable def wjU (_:Params):Obj:=dObj (chunkAt 37)
noncomputable def wjT (_:Params):Obj:=dObj (chunkAt 38)
noncomputable def wxs (P:Params):Obj:=⟨(.type "dict"),none,(.dict #[eV P "__name__" 165 (sV "cpy313.stringprep" 194),eV P "__doc__" 166 .none,eV P "__package__" 167 .none,eV P "__loader__" 168 (.builtin "__main__.__loader__#opaque"),eV P "__spec__" 169 .none,eV P "__annotations__" 170 (.ref 6),eV P "__builtins__" 171 (.ref 4),eV P "__file__" 173 (sV "/claim/cut.py" 172),eV P "__cached__" 174 .none,eV P "_wall" 193 (.ref 21),eV P "b1_set" 255 (.ref 29),eV P "in_table_b1" 262 (.ref 39),eV P "b3_exceptions" 2213 (.ref 40)] 13),#[]⟩
noncomputable def u1 (P:Params):BT:=(.node (boot_o_7 P) (.node (wd0 P) (.node (weE P) (uL (wm2 P)) .nil) (uL (wkl P))) (.node (weK P) (.node (wfM P) (uL (wj0 P)) .nil) (uL (wkd P))))
noncomputable def u2 (P:Params):BT:=(.node (wcx P) (.node (wdX P) (.node (wfQ P) (uL (wj4 P)) .nil) (uL (wkh P))) (.node (weH P) (.node (wkp P) (uL (wjW P)) .nil) (uL (wj9 P))))
noncomputable def u3 (P:Params):BT:=(.node (boot_o_5 P) (.node (boot_o_9 P) (.node (wdZ P) (.node (wfS P) (uL (wm0 P)) .nil) (uL (wkj P))) (.node (weJ P) (.node (wkr P) (uL (wjY P)) .nil) (uL (wkb P)))) (.node (wcw P) (.node (wdV P) (.node (wfO P) (uL (wj2 P)) .nil) (uL (wkf P))) (.node (wc6 P) (.node (wkn P) (uL (wjU P)) .nil) (uL (wj7 P)))))
noncomputable def u4 (P:Params):BT:=(.node (boot_o_2 P) (.node (boot_o_4 P) (.node (boot_o_8 P) (.node (weM P) (.node (wfT P) (uL (wm1 P)) .nil) (uL (wkk P))) (.node (wfU P) (.node (wge P) (uL (wjZ P)) .nil) (uL (wkc P)))) (.node (wrt P) (.node (wdW P) (.node (wfP P) (uL (wj3 P)) .nil) (uL (wkg P))) (.node (weG P) (.node (wko P) (uL (wjV P)) .nil) (uL (wj8 P))))) (.node (boot_o_6 P) (.node (boot_o_10 P) (.node (wdY P) (.node (wfR P) (uL (wj5 P)) .nil) (uL (wki P))) (.node (weI P) (.node (wkq P) (uL (wjX P)) .nil) (uL (wka P)))) (.node (wcv P) (.node (weL P) (.node (wfN P) (uL (wj1 P)) .nil) (uL (wke P))) (.node (weF P) (.node (wkm P) (uL (wjT P)) .nil) (uL (wj6 P))))))
noncomputable def T4 (P:Params):BT:=(.node (boot_o_0 P) (.node (boot_o_1 P) (.node (wxs P) (u1 P) (u2 P)) (u3 P)) (u4 P))
noncomputable def n4:Nat:=79
noncomputable def tok4:Nat:=2214
noncomputable def pos4:Pos:=⟨8,0,8,13⟩
noncomputable def wxr (P:Params):Obj:=⟨(.type "dict"),none,(.dict #[eV P "__name__" 165 (sV "cpy313.tabnanny" 2286),eV P "__doc__" 166 .none,eV P "__package__" 167 .none,eV P "__loader__" 168 (.builtin "__main__.__loader__#opaque"),eV P "__spec__" 169 .none,eV P "__annotations__" 170 (.ref 6),eV P "__builtins__" 171 (.ref 4),eV P "__file__" 173 (sV "/claim/cut.py" 172),eV P "__cached__" 174 .none,eV P "_wall" 193 (.ref 21),eV P "b1_set" 255 (.ref 29),eV P "in_table_b1" 262 (.ref 39),eV P "b3_exceptions" 2213 (.ref 40),eV P "map_table_b3" 2221 (.ref 85),eV P "TupleComp" 2265 (.ref 109),eV P "add_callers" 2276 (.ref 120),eV P "count_calls" 2285 (.ref 127)] 17),#[]⟩
noncomputable def wvZ (P:Params):Obj:=⟨.none,none,(.fields #[(.int 1 0),i0,(.ref 20),(.int 6 0),i0,(.ref 38),(.int 9 0),i0,(.ref 84),(.int 15 0),i0,(.ref 91),(.int 29 0),i0,(.ref 119),(.int 42 0),i0,(.ref 126)]),#[]⟩
noncomputable def wjS (P:Params):Obj:=oE
noncomputable def wjR (P:Params):Obj:=⟨.none,none,(.fields #[]),#[]⟩
noncomputable def wjQ (P:Params):Obj:=⟨(.type "tuple"),none,(.seq #[(sV "code" 2217),(sV "r" 2218)] 0),#[]⟩
noncomputable def wjP (P:Params):Obj:=oE
noncomputable def wjO (P:Params):Obj:=⟨.none,none,(.func { name:=(Str.ofString "map_table_b3"),qualname:=(Str.ofString "map_table_b3"),params:=fnPar (st 5),body:=.stmts (fnBody (st 5)),scope:=fnScope (st 5),globals:=0,closure:=[],defaults:=.none,kwdefaults:=.none,doc:=.none,pyModule:=.none,annotations:=none,code:=.none,closureTuple:=.none,builtins:=0 }),#[]⟩
noncomputable def wjN (P:Params):Obj:=⟨(.type "code"),none,(.fields #[(sV "map_table_b3" 2214),(sV "map_table_b3" 2215),(sV "/claim/cut.py" 2216),(.int 9 0),(.int 1 0),i0,i0,(.int 3 0),(.ref 79),(.bool true),(.int 181 0),(.ref 80),.none,(.ref 81),(.ref 82),(.ref 83),(.int 2219 0),(.int 9 0),(sV "/claim/cut.py" 2220)]),#[]⟩
noncomputable def wjM (P:Params):Obj:=⟨(.type "function"),none,(.func { name:=(Str.ofString "map_table_b3"),qualname:=(Str.ofString "map_table_b3"),params:=fnPar (st 5),body:=.stmts (fnBody (st 5)),scope:=fnScope (st 5),globals:=3,closure:=[],defaults:=.none,kwdefaults:=.none,doc:=.none,pyModule:=(sV "cpy313.stringprep" 194),annotations:=none,code:=(.ref 84),closureTuple:=.none,builtins:=0 }),#[]⟩
noncomputable def wjL (P:Params):Obj:=oE
noncomputable def wjK (P:Params):Obj:=⟨(.type "builtin_function_or_method"),none,(.fields #[(.builtin "type.__prepare__"),(.type "type")]),#[]⟩
noncomputable def wjJ (P:Params):Obj:=⟨(.type "dict"),none,(.dict #[eV P "__module__" 2231 (sV "cpy313.pstats" 2222),eV P "__qualname__" 2233 (sV "TupleComp" 2232),eV P "__firstlineno__" 2235 (.int 15 2234),eV P "__init__" 2243 (.ref 99),eV P "compare" 2256 (.ref 106),eV P "__static_attributes__" 2258 (.ref 107)] 6),#[]⟩
noncomputable def wjI (P:Params):Obj:=oE
noncomputable def wjH (P:Params):Obj:=⟨.none,none,(.fields #[(.int 17 0),(.int 4 0),(.ref 98),(.int 20 0),(.int 4 0),(.ref 105)]),#[]⟩
noncomputable def wjG (P:Params):Obj:=⟨(.type "code"),none,(.fields #[(sV "TupleComp" 2226),(sV "TupleComp" 2227),(sV "/claim/cut.py" 2228),(.int 15 0),i0,i0,i0,i0,(.ref 89),(.bool false),(.int 181 0),(.ref 90),.none,.none,.none,.none,(.int 2229 0),(.int 15 0),(sV "/claim/cut.py" 2230)]),#[]⟩
noncomputable def wjF (P:Params):Obj:=⟨(.type "frame"),none,.plain,#[(some (.ref 91)),(some (.ref 3)),(some (.ref 88)),none,(some (sV "cpy313.pstats" 2222)),none,(some (.ref 0))]⟩
noncomputable def wjE (P:Params):Obj:=oE
noncomputable def wjD (P:Params):Obj:=⟨.none,none,(.fields #[]),#[]⟩
noncomputable def wjC (P:Params):Obj:=⟨(.type "tuple"),none,(.seq #[(sV "self" 2239),(sV "comp_select_list" 2240)] 0),#[]⟩
noncomputable def wjB (P:Params):Obj:=oE
noncomputable def wjA (P:Params):Obj:=⟨.none,none,(.func { name:=(Str.ofString "__init__"),qualname:=(Str.ofString "TupleComp.__init__"),params:=fnPar (sub (st 7) 0),body:=.stmts (fnBody (sub (st 7) 0)),scope:=fnScope (sub (st 7) 0),globals:=0,closure:=[],defaults:=.none,kwdefaults:=.none,doc:=.none,pyModule:=.none,annotations:=none,code:=.none,closureTuple:=.none,builtins:=0 }),#[]⟩
noncomputable def wjz (P:Params):Obj:=⟨(.type "code"),none,(.fields #[(sV "__init__" 2236),(sV "TupleComp.__init__" 2237),(sV "/claim/cut.py" 2238),(.int 17 0),(.int 2 0),i0,i0,(.int 3 0),(.ref 93),(.bool true),(.int 181 0),(.ref 94),.none,(.ref 95),(.ref 96),(.ref 97),(.int 2241 0),(.int 17 0),(sV "/claim/cut.py" 2242)]),#[]⟩
noncomputable def wjy (P:Params):Obj:=⟨(.type "function"),none,(.func { name:=(Str.ofString "__init__"),qualname:=(Str.ofString "TupleComp.__init__"),params:=fnPar (sub (st 7) 0),body:=.stmts (fnBody (sub (st 7) 0)),scope:=fnScope (sub (st 7) 0),globals:=3,closure:=[],defaults:=.none,kwdefaults:=.none,doc:=.none,pyModule:=(sV "cpy313.pstats" 2222),annotations:=none,code:=(.ref 98),closureTuple:=.none,builtins:=0 }),#[]⟩
noncomputable def wh8 (P:Params):Obj:=oE
noncomputable def wh7 (P:Params):Obj:=⟨.none,none,(.fields #[]),#[]⟩
noncomputable def wh6 (P:Params):Obj:=⟨(.type "tuple"),none,(.seq #[(sV "self" 2247),(sV "left" 2248),(sV "right" 2249),(sV "index" 2250),(sV "direction" 2251),(sV "l" 2252),(sV "r" 2253)] 0),#[]⟩
noncomputable def wh5 (P:Params):Obj:=oE
noncomputable def wh4 (P:Params):Obj:=⟨.none,none,(.func { name:=(Str.ofString "compare"),qualname:=(Str.ofString "TupleComp.compare"),params:=fnPar (sub (st 7) 1),body:=.stmts (fnBody (sub (st 7) 1)),scope:=fnScope (sub (st 7) 1),globals:=0,closure:=[],defaults:=.none,kwdefaults:=.none,doc:=.none,pyModule:=.none,annotations:=none,code:=.none,closureTuple:=.none,builtins:=0 }),#[]⟩
noncomputable def wh3 (P:Params):Obj:=⟨(.type "code"),none,(.fields #[(sV "compare" 2244),(sV "TupleComp.compare" 2245),(sV "/claim/cut.py" 2246),(.int 20 0),(.int 3 0),i0,i0,(.int 3 0),(.ref 100),(.bool true),(.int 181 0),(.ref 101),.none,(.ref 102),(.ref 103),(.ref 104),(.int 2254 0),(.int 20 0),(sV "/claim/cut.py" 2255)]),#[]⟩
noncomputable def wh2 (P:Params):Obj:=⟨(.type "function"),none,(.func { name:=(Str.ofString "compare"),qualname:=(Str.ofString "TupleComp.compare"),params:=fnPar (sub (st 7) 1),body:=.stmts (fnBody (sub (st 7) 1)),scope:=fnScope (sub (st 7) 1),globals:=3,closure:=[],defaults:=.none,kwdefaults:=.none,doc:=.none,pyModule:=(sV "cpy313.pstats" 2222),annotations:=none,code:=(.ref 105),closureTuple:=.none,builtins:=0 }),#[]⟩
noncomputable def wh1 (P:Params):Obj:=⟨(.type "tuple"),none,(.seq #[(sV "comp_select_list" 2257)] 0),#[]⟩
noncomputable def wh0 (P:Params):Obj:=⟨(.type "dict"),none,(.dict #[eV P "__module__" 2231 (sV "cpy313.pstats" 2222),eV P "__firstlineno__" 2235 (.int 15 2234),eV P "__init__" 2243 (.ref 99),eV P "compare" 2256 (.ref 106),eV P "__static_attributes__" 2258 (.ref 107),eV P "__dict__" 2260 (.ref 110),eV P "__weakref__" 2262 (.ref 111),eV P "__doc__" 2263 .none] 4),#[]⟩
noncomputable def whZ (P:Params):Obj:=⟨(.type "type"),none,(.cls { name:=(Str.ofString "TupleComp"),bases:=[(.type "object")],mro:=[(.ref 109),(.type "object")],ns:=108,qualname:=(Str.ofString "TupleComp"),hasDict:=true,slotNames:=[],subclasses:=[],abstract:=false,collection:=none,hasDel:=false }),#[none,none,(some (sV "TupleComp" 2224)),(some (sV "TupleComp" 2232)),(some (.builtin "object.__new__")),(some (.bool true))]⟩
noncomputable def whY (P:Params):Obj:=⟨(.type "getset_descriptor"),none,(.fields #[(sV "__dict__" 2259),(.ref 109),(.builtin "function.__dict__"),(.builtin "function.__dict__#set")]),#[]⟩
noncomputable def whX (P:Params):Obj:=⟨(.type "getset_descriptor"),none,(.fields #[(sV "__weakref__" 2261),(.ref 109),(.builtin "ExceptionGroup.__weakref__"),.none]),#[]⟩
noncomputable def whW (P:Params):Obj:=⟨(.type "super"),none,(.fields #[(.ref 109),(.ref 109),(.ref 109)]),#[]⟩
noncomputable def whV (P:Params):Obj:=⟨(.type "builtin_function_or_method"),none,(.fields #[(.builtin "object.__init_subclass__"),(.ref 109)]),#[]⟩
noncomputable def whU (P:Params):Obj:=oE
noncomputable def wfL (P:Params):Obj:=⟨.none,none,(.fields #[]),#[]⟩
noncomputable def whT (P:Params):Obj:=⟨(.type "tuple"),none,(.seq #[(sV "target" 2269),(sV "source" 2270),(sV "new_callers" 2271),(sV "func" 2272),(sV "caller" 2273)] 0),#[]⟩
noncomputable def whS (P:Params):Obj:=oE
noncomputable def whR (P:Params):Obj:=⟨.none,none,(.func { name:=(Str.ofString "add_callers"),qualname:=(Str.ofString "add_callers"),params:=fnPar (st 8),body:=.stmts (fnBody (st 8)),scope:=fnScope (st 8),globals:=0,closure:=[],defaults:=.none,kwdefaults:=.none,doc:=.none,pyModule:=.none,annotations:=none,code:=.none,closureTuple:=.none,builtins:=0 }),#[]⟩
noncomputable def weu (P:Params):Obj:=⟨(.type "code"),none,(.fields #[(sV "add_callers" 2266),(sV "add_callers" 2267),(sV "/claim/cut.py" 2268),(.int 29 0),(.int 2 0),i0,i0,(.int 3 0),(.ref 114),(.bool true),(.int 181 0),(.ref 115),.none,(.ref 116),(.ref 117),(.ref 118),(.int 2274 0),(.int 29 0),(sV "/claim/cut.py" 2275)]),#[]⟩
noncomputable def whQ (P:Params):Obj:=⟨(.type "function"),none,(.func { name:=(Str.ofString "add_callers"),qualname:=(Str.ofString "add_callers"),params:=fnPar (st 8),body:=.stmts (fnBody (st 8)),scope:=fnScope (st 8),globals:=3,closure:=[],defaults:=.none,kwdefaults:=.none,doc:=.none,pyModule:=(sV "cpy313.pstats" 2222),annotations:=none,code:=(.ref 119),closureTuple:=.none,builtins:=0 }),#[]⟩
noncomputable def whP (P:Params):Obj:=oE
noncomputable def whO (P:Params):Obj:=⟨.none,none,(.fields #[]),#[]⟩
noncomputable def whN (P:Params):Obj:=⟨(.type "tuple"),none,(.seq #[(sV "callers" 2280),(sV "nc" 2281),(sV "calls" 2282)] 0),#[]⟩
noncomputable def whM (P:Params):Obj:=oE
noncomputable def whL (P:Params):Obj:=⟨.none,none,(.func { name:=(Str.ofString "count_calls"),qualname:=(Str.ofString "count_calls"),params:=fnPar (st 9),body:=.stmts (fnBody (st 9)),scope:=fnScope (st 9),globals:=0,closure:=[],defaults:=.none,kwdefaults:=.none,doc:=.none,pyModule:=.none,annotations:=none,code:=.none,closureTuple:=.none,builtins:=0 }),#[]⟩
noncomputable def whK (P:Params):Obj:=⟨(.type "code"),none,(.fields #[(sV "count_calls" 2277),(sV "count_calls" 2278),(sV "/claim/cut.py" 2279),(.int 42 0),(.int 1 0),i0,i0,(.int 3 0),(.ref 121),(.bool true),(.int 181 0),(.ref 122),.none,(.ref 123),(.ref 124),(.ref 125),(.int 2283 0),(.int 42 0),(sV "/claim/cut.py" 2284)]),#[]⟩
noncomputable def wl3 (P:Params):Obj:=⟨(.type "function"),none,(.func { name:=(Str.ofString "count_calls"),qualname:=(Str.ofString "count_calls"),params:=fnPar (st 9),body:=.stmts (fnBody (st 9)),scope:=fnScope (st 9),globals:=3,closure:=[],defaults:=.none,kwdefaults:=.none,doc:=.none,pyModule:=(sV "cpy313.pstats" 2222),annotations:=none,code:=(.ref 126),closureTuple:=.none,builtins:=0 }),#[]⟩
noncomputable def T5 (P:Params):BT:=(.node (boot_o_0 P) (.node (boot_o_1 P) (.node (wxr P) (.node (boot_o_7 P) (.node (wd0 P) (.node (weE P) (.node (wm2 P) (uL (wl3 P)) .nil) (uL (wjC P))) (.node (wkl P) (uL (wjS P)) (uL (whX P)))) (.node (weK P) (.node (wfM P) (uL (wj0 P)) (uL (wh5 P))) (.node (wkd P) (uL (wjK P)) (uL (weu P))))) (.node (wcx P) (.node (wdX P) (.node (wfQ P) (uL (wj4 P)) (uL (wjy P))) (.node (wkh P) (uL (wjO P)) (uL (wfL P)))) (.node (weH P) (.node (wkp P) (uL (wjW P)) (uL (wh1 P))) (.node (wj9 P) (uL (wjG P)) (uL (whN P)))))) (.node (boot_o_5 P) (.node (boot_o_9 P) (.node (wdZ P) (.node (wfS P) (uL (wm0 P)) (uL (wjA P))) (.node (wkj P) (uL (wjQ P)) (uL (whV P)))) (.node (weJ P) (.node (wkr P) (uL (wjY P)) (uL (wh3 P))) (.node (wkb P) (uL (wjI P)) (uL (whP P))))) (.node (wcw P) (.node (wdV P) (.node (wfO P) (uL (wj2 P)) (uL (wh7 P))) (.node (wkf P) (uL (wjM P)) (uL (whS P)))) (.node (wc6 P) (.node (wkn P) (uL (wjU P)) (uL (whZ P))) (.node (wj7 P) (uL (wjE P)) (uL (whL P))))))) (.node (boot_o_2 P) (.node (boot_o_4 P) (.node (boot_o_8 P) (.node (weM P) (.node (wfT P) (uL (wm1 P)) (uL (wjB P))) (.node (wkk P) (uL (wjR P)) (uL (whW P)))) (.node (wfU P) (.node (wge P) (uL (wjZ P)) (uL (wh4 P))) (.node (wkc P) (uL (wjJ P)) (uL (whQ P))))) (.node (wvZ P) (.node (wdW P) (.node (wfP P) (uL (wj3 P)) (uL (wh8 P))) (.node (wkg P) (uL (wjN P)) (uL (whT P)))) (.node (weG P) (.node (wko P) (uL (wjV P)) (uL (wh0 P))) (.node (wj8 P) (uL (wjF P)) (uL (whM P)))))) (.node (boot_o_6 P) (.node (boot_o_10 P) (.node (wdY P) (.node (wfR P) (uL (wj5 P)) (uL (wjz P))) (.node (wki P) (uL (wjP P)) (uL (whU P)))) (.node (weI P) (.node (wkq P) (uL (wjX P)) (uL (wh2 P))) (.node (wka P) (uL (wjH P)) (uL (whO P))))) (.node (wcv P) (.node (weL P) (.node (wfN P) (uL (wj1 P)) (uL (wh6 P))) (.node (wke P) (uL (wjL P)) (uL (whR P)))) (.node (weF P) (.node (wkm P) (uL (wjT P)) (uL (whY P))) (.node (wj6 P) (uL (wjD P)) (uL (whK P))))))))
noncomputable def n5:Nat:=128
noncomputable def tok5:Nat:=2288
noncomputable def pos5:Pos:=⟨47,0,47,8⟩
noncomputable def wxq (P:Params):Obj:=⟨(.type "dict"),none,(.dict #[eV P "__name__" 165 (sV "cpy313.tabnanny" 2286),eV P "__doc__" 166 .none,eV P "__package__" 167 .none,eV P "__loader__" 168 (.builtin "__main__.__loader__#opaque"),eV P "__spec__" 169 .none,eV P "__annotations__" 170 (.ref 6),eV P "__builtins__" 171 (.ref 4),eV P "__file__" 173 (sV "/claim/cut.py" 172),eV P "__cached__" 174 .none,eV P "_wall" 193 (.ref 21),eV P "b1_set" 255 (.ref 29),eV P "in_table_b1" 262 (.ref 39),eV P "b3_exceptions" 2213 (.ref 40),eV P "map_table_b3" 2221 (.ref 85),eV P "TupleComp" 2265 (.ref 109),eV P "add_callers" 2276 (.ref 120),eV P "count_calls" 2285 (.ref 127),eV P "Whitespace" 2390 (.ref 189)] 18),#[]⟩
noncomputable def wvY (P:Params):Obj:=⟨.none,none,(.fields #[(.int 1 0),i0,(.ref 20),(.int 6 0),i0,(.ref 38),(.int 9 0),i0,(.ref 84),(.int 15 0),i0,(.ref 91),(.int 29 0),i0,(.ref 119),(.int 42 0),i0,(.ref 126),(.int 48 0),i0,(.ref 133)]),#[]⟩
noncomputable def wpO (P:Params):Obj:=oE
noncomputable def wpN (P:Params):Obj:=⟨(.type "builtin_function_or_method"),none,(.fields #[(.builtin "type.__prepare__"),(.type "type")]),#[]⟩
noncomputable def wl2 (P:Params):Obj:=⟨(.type "dict"),none,(.dict #[eV P "__module__" 2295 (sV "cpy313.tabnanny" 2286),eV P "__qualname__" 2297 (sV "Whitespace" 2296),eV P "__firstlineno__" 2299 (.int 48 2298),eV P "S" 2303 (sV " " 2301),eV P "T" 2304 (sV "\t" 2302),eV P "__init__" 2319 (.ref 144),eV P "longest_run_of_spaces" 2328 (.ref 151),eV P "indent_level" 2340 (.ref 158),eV P "equal" 2348 (.ref 165),eV P "not_equal_witness" 2359 (.ref 172),eV P "less" 2369 (.ref 179),eV P "not_less_witness" 2377 (.ref 186),eV P "__static_attributes__" 2383 (.ref 187)] 13),#[]⟩
noncomputable def wl1 (P:Params):Obj:=oE
noncomputable def wl0 (P:Params):Obj:=⟨.none,none,(.fields #[(.int 51 0),(.int 4 0),(.ref 143),(.int 74 0),(.int 4 0),(.ref 150),(.int 78 0),(.int 4 0),(.ref 157),(.int 85 0),(.int 4 0),(.ref 164),(.int 88 0),(.int 4 0),(.ref 171),(.int 96 0),(.int 4 0),(.ref 178),(.int 107 0),(.int 4 0),(.ref 185)]),#[]⟩
noncomputable def wlZ (P:Params):Obj:=⟨(.type "code"),none,(.fields #[(sV "Whitespace" 2290),(sV "Whitespace" 2291),(sV "/claim/cut.py" 2292),(.int 48 0),i0,i0,i0,i0,(.ref 131),(.bool false),(.int 181 0),(.ref 132),.none,.none,.none,.none,(.int 2293 0),(.int 48 0),(sV "/claim/cut.py" 2294)]),#[]⟩
noncomputable def wlY (P:Params):Obj:=⟨(.type "frame"),none,.plain,#[(some (.ref 133)),(some (.ref 3)),(some (.ref 130)),none,(some (sV "cpy313.tabnanny" 2286)),none,(some (.ref 0))]⟩
noncomputable def wlX (P:Params):Obj:=⟨(.type "str_ascii_iterator"),none,(.fields #[.none,(.int 2 0)]),#[]⟩
noncomputable def wlW (P:Params):Obj:=oE
noncomputable def wlV (P:Params):Obj:=⟨(.type "StopIteration"),none,(.fields #[(.ref 136),.none,.none,.none,(.bool false),.none]),#[]⟩
noncomputable def wlU (P:Params):Obj:=oE
noncomputable def wlT (P:Params):Obj:=⟨.none,none,(.fields #[]),#[]⟩
noncomputable def wlS (P:Params):Obj:=⟨(.type "tuple"),none,(.seq #[(sV "self" 2308),(sV "ws" 2309),(sV "S" 2310),(sV "T" 2311),(sV "count" 2312),(sV "b" 2313),(sV "n" 2314),(sV "nt" 2315),(sV "ch" 2316)] 0),#[]⟩
noncomputable def wlR (P:Params):Obj:=oE
noncomputable def wlQ (P:Params):Obj:=⟨.none,none,(.func { name:=(Str.ofString "__init__"),qualname:=(Str.ofString "Whitespace.__init__"),params:=fnPar (sub (st 11) 1),body:=.stmts (fnBody (sub (st 11) 1)),scope:=fnScope (sub (st 11) 1),globals:=0,closure:=[],defaults:=.none,kwdefaults:=.none,doc:=.none,pyModule:=.none,annotations:=none,code:=.none,closureTuple:=.none,builtins:=0 }),#[]⟩
noncomputable def wlP (P:Params):Obj:=⟨(.type "code"),none,(.fields #[(sV "__init__" 2305),(sV "Whitespace.__init__" 2306),(sV "/claim/cut.py" 2307),(.int 51 0),(.int 2 0),i0,i0,(.int 3 0),(.ref 138),(.bool true),(.int 181 0),(.ref 139),.none,(.ref 140),(.ref 141),(.ref 142),(.int 2317 0),(.int 51 0),(sV "/claim/cut.py" 2318)]),#[]⟩
noncomputable def wlO (P:Params):Obj:=⟨(.type "function"),none,(.func { name:=(Str.ofString "__init__"),qualname:=(Str.ofString "Whitespace.__init__"),params:=fnPar (sub (st 11) 1),body:=.stmts (fnBody (sub (st 11) 1)),scope:=fnScope (sub (st 11) 1),globals:=3,closure:=[],defaults:=.none,kwdefaults:=.none,doc:=.none,pyModule:=(sV "cpy313.tabnanny" 2286),annotations:=none,code:=(.ref 143),closureTuple:=.none,builtins:=0 }),#[]⟩
noncomputable def wlN (P:Params):Obj:=oE
noncomputable def wlM (P:Params):Obj:=⟨.none,none,(.fields #[]),#[]⟩
noncomputable def wlL (P:Params):Obj:=⟨(.type "tuple"),none,(.seq #[(sV "self" 2323),(sV "count" 2324),(sV "trailing" 2325)] 0),#[]⟩
noncomputable def wlK (P:Params):Obj:=oE
noncomputable def wlJ (P:Params):Obj:=⟨.none,none,(.func { name:=(Str.ofString "longest_run_of_spaces"),qualname:=(Str.ofString "Whitespace.longest_run_of_spaces"),params:=fnPar (sub (st 11) 2),body:=.stmts (fnBody (sub (st 11) 2)),scope:=fnScope (sub (st 11) 2),globals:=0,closure:=[],defaults:=.none,kwdefaults:=.none,doc:=.none,pyModule:=.none,annotations:=none,code:=.none,closureTuple:=.none,builtins:=0 }),#[]⟩
noncomputable def wlI (P:Params):Obj:=⟨(.type "code"),none,(.fields #[(sV "longest_run_of_spaces" 2320),(sV "Whitespace.longest_run_of_spaces" 2321),(sV "/claim/cut.py" 2322),(.int 74 0),(.int 1 0),i0,i0,(.int 3 0),(.ref 145),(.bool true),(.int 181 0),(.ref 146),.none,(.ref 147),(.ref 148),(.ref 149),(.int 2326 0),(.int 74 0),(sV "/claim/cut.py" 2327)]),#[]⟩
noncomputable def wlH (P:Params):Obj:=⟨(.type "function"),none,(.func { name:=(Str.ofString "longest_run_of_spaces"),qualname:=(Str.ofString "Whitespace.longest_run_of_spaces"),params:=fnPar (sub (st 11) 2),body:=.stmts (fnBody (sub (st 11) 2)),scope:=fnScope (sub (st 11) 2),globals:=3,closure:=[],defaults:=.none,kwdefaults:=.none,doc:=.none,pyModule:=(sV "cpy313.tabnanny" 2286),annotations:=none,code:=(.ref 150),closureTuple:=.none,builtins:=0 }),#[]⟩
noncomputable def wlG (P:Params):Obj:=oE
noncomputable def wlF (P:Params):Obj:=⟨.none,none,(.fields #[]),#[]⟩
noncomputable def wlE (P:Params):Obj:=⟨(.type "tuple"),none,(.seq #[(sV "self" 2332),(sV "tabsize" 2333),(sV "count" 2334),(sV "trailing" 2335),(sV "il" 2336),(sV "i" 2337)] 0),#[]⟩
noncomputable def wlD (P:Params):Obj:=oE
noncomputable def wlC (P:Params):Obj:=⟨.none,none,(.func { name:=(Str.ofString "indent_level"),qualname:=(Str.ofString "Whitespace.indent_level"),params:=fnPar (sub (st 11) 3),body:=.stmts (fnBody (sub (st 11) 3)),scope:=fnScope (sub (st 11) 3),globals:=0,closure:=[],defaults:=.none,kwdefaults:=.none,doc:=.none,pyModule:=.none,annotations:=none,code:=.none,closureTuple:=.none,builtins:=0 }),#[]⟩
noncomputable def wlB (P:Params):Obj:=⟨(.type "code"),none,(.fields #[(sV "indent_level" 2329),(sV "Whitespace.indent_level" 2330),(sV "/claim/cut.py" 2331),(.int 78 0),(.int 2 0),i0,i0,(.int 3 0),(.ref 152),(.bool true),(.int 181 0),(.ref 153),.none,(.ref 154),(.ref 155),(.ref 156),(.int 2338 0),(.int 78 0),(sV "/claim/cut.py" 2339)]),#[]⟩
noncomputable def wlA (P:Params):Obj:=⟨(.type "function"),none,(.func { name:=(Str.ofString "indent_level"),qualname:=(Str.ofString "Whitespace.indent_level"),params:=fnPar (sub (st 11) 3),body:=.stmts (fnBody (sub (st 11) 3)),scope:=fnScope (sub (st 11) 3),globals:=3,closure:=[],defaults:=.none,kwdefaults:=.none,doc:=.none,pyModule:=(sV "cpy313.tabnanny" 2286),annotations:=none,code:=(.ref 157),closureTuple:=.none,builtins:=0 }),#[]⟩
noncomputable def wlz (P:Params):Obj:=oE
noncomputable def wly (P:Params):Obj:=⟨.none,none,(.fields #[]),#[]⟩
noncomputable def wlx (P:Params):Obj:=⟨(.type "tuple"),none,(.seq #[(sV "self" 2344),(sV "other" 2345)] 0),#[]⟩
noncomputable def wlw (P:Params):Obj:=oE
noncomputable def wlv (P:Params):Obj:=⟨.none,none,(.func { name:=(Str.ofString "equal"),qualname:=(Str.ofString "Whitespace.equal"),params:=fnPar (sub (st 11) 4),body:=.stmts (fnBody (sub (st 11) 4)),scope:=fnScope (sub (st 11) 4),globals:=0,closure:=[],defaults:=.none,kwdefaults:=.none,doc:=.none,pyModule:=.none,annotations:=none,code:=.none,closureTuple:=.none,builtins:=0 }),#[]⟩
noncomputable def wlu (P:Params):Obj:=⟨(.type "code"),none,(.fields #[(sV "equal" 2341),(sV "Whitespace.equal" 2342),(sV "/claim/cut.py" 2343),(.int 85 0),(.int 2 0),i0,i0,(.int 3 0),(.ref 159),(.bool true),(.int 181 0),(.ref 160),.none,(.ref 161),(.ref 162),(.ref 163),(.int 2346 0),(.int 85 0),(sV "/claim/cut.py" 2347)]),#[]⟩
noncomputable def wlt (P:Params):Obj:=⟨(.type "function"),none,(.func { name:=(Str.ofString "equal"),qualname:=(Str.ofString "Whitespace.equal"),params:=fnPar (sub (st 11) 4),body:=.stmts (fnBody (sub (st 11) 4)),scope:=fnScope (sub (st 11) 4),globals:=3,closure:=[],defaults:=.none,kwdefaults:=.none,doc:=.none,pyModule:=(sV "cpy313.tabnanny" 2286),annotations:=none,code:=(.ref 164),closureTuple:=.none,builtins:=0 }),#[]⟩
noncomputable def wls (P:Params):Obj:=oE
noncomputable def wlr (P:Params):Obj:=⟨.none,none,(.fields #[]),#[]⟩
noncomputable def wlq (P:Params):Obj:=⟨(.type "tuple"),none,(.seq #[(sV "self" 2352),(sV "other" 2353),(sV "n" 2354),(sV "a" 2355),(sV "ts" 2356)] 0),#[]⟩
noncomputable def wlp (P:Params):Obj:=oE
noncomputable def wlo (P:Params):Obj:=⟨.none,none,(.func { name:=(Str.ofString "not_equal_witness"),qualname:=(Str.ofString "Whitespace.not_equal_witness"),params:=fnPar (sub (st 11) 5),body:=.stmts (fnBody (sub (st 11) 5)),scope:=fnScope (sub (st 11) 5),globals:=0,closure:=[],defaults:=.none,kwdefaults:=.none,doc:=.none,pyModule:=.none,annotations:=none,code:=.none,closureTuple:=.none,builtins:=0 }),#[]⟩
noncomputable def wln (P:Params):Obj:=⟨(.type "code"),none,(.fields #[(sV "not_equal_witness" 2349),(sV "Whitespace.not_equal_witness" 2350),(sV "/claim/cut.py" 2351),(.int 88 0),(.int 2 0),i0,i0,(.int 3 0),(.ref 166),(.bool true),(.int 181 0),(.ref 167),.none,(.ref 168),(.ref 169),(.ref 170),(.int 2357 0),(.int 88 0),(sV "/claim/cut.py" 2358)]),#[]⟩
noncomputable def wlm (P:Params):Obj:=⟨(.type "function"),none,(.func { name:=(Str.ofString "not_equal_witness"),qualname:=(Str.ofString "Whitespace.not_equal_witness"),params:=fnPar (sub (st 11) 5),body:=.stmts (fnBody (sub (st 11) 5)),scope:=fnScope (sub (st 11) 5),globals:=3,closure:=[],defaults:=.none,kwdefaults:=.none,doc:=.none,pyModule:=(sV "cpy313.tabnanny" 2286),annotations:=none,code:=(.ref 171),closureTuple:=.none,builtins:=0 }),#[]⟩
noncomputable def wll (P:Params):Obj:=oE
noncomputable def wlk (P:Params):Obj:=⟨.none,none,(.fields #[]),#[]⟩
noncomputable def wlj (P:Params):Obj:=⟨(.type "tuple"),none,(.seq #[(sV "self" 2363),(sV "other" 2364),(sV "n" 2365),(sV "ts" 2366)] 0),#[]⟩
noncomputable def wli (P:Params):Obj:=oE
noncomputable def wlh (P:Params):Obj:=⟨.none,none,(.func { name:=(Str.ofString "less"),qualname:=(Str.ofString "Whitespace.less"),params:=fnPar (sub (st 11) 6),body:=.stmts (fnBody (sub (st 11) 6)),scope:=fnScope (sub (st 11) 6),globals:=0,closure:=[],defaults:=.none,kwdefaults:=.none,doc:=.none,pyModule:=.none,annotations:=none,code:=.none,closureTuple:=.none,builtins:=0 }),#[]⟩
noncomputable def wlg (P:Params):Obj:=⟨(.type "code"),none,(.fields #[(sV "less" 2360),(sV "Whitespace.less" 2361),(sV "/claim/cut.py" 2362),(.int 96 0),(.int 2 0),i0,i0,(.int 3 0),(.ref 173),(.bool true),(.int 181 0),(.ref 174),.none,(.ref 175),(.ref 176),(.ref 177),(.int 2367 0),(.int 96 0),(sV "/claim/cut.py" 2368)]),#[]⟩
noncomputable def wlf (P:Params):Obj:=⟨(.type "function"),none,(.func { name:=(Str.ofString "less"),qualname:=(Str.ofString "Whitespace.less"),params:=fnPar (sub (st 11) 6),body:=.stmts (fnBody (sub (st 11) 6)),scope:=fnScope (sub (st 11) 6),globals:=3,closure:=[],defaults:=.none,kwdefaults:=.none,doc:=.none,pyModule:=(sV "cpy313.tabnanny" 2286),annotations:=none,code:=(.ref 178),closureTuple:=.none,builtins:=0 }),#[]⟩
noncomputable def wle (P:Params):Obj:=oE
noncomputable def wld (P:Params):Obj:=⟨.none,none,(.fields #[]),#[]⟩
noncomputable def wlc (P:Params):Obj:=⟨(.type "tuple"),none,(.seq #[(sV "self" 2373),(sV "other" 2374)] 0),#[]⟩
noncomputable def wlb (P:Params):Obj:=oE
noncomputable def wla (P:Params):Obj:=⟨.none,none,(.func { name:=(Str.ofString "not_less_witness"),qualname:=(Str.ofString "Whitespace.not_less_witness"),params:=fnPar (sub (st 11) 7),body:=.stmts (fnBody (sub (st 11) 7)),scope:=fnScope (sub (st 11) 7),globals:=0,closure:=[],defaults:=.none,kwdefaults:=.none,doc:=.none,pyModule:=.none,annotations:=none,code:=.none,closureTuple:=.none,builtins:=0 }),#[]⟩
noncomputable def wk9 (P:Params):Obj:=⟨(.type "code"),none,(.fields #[(sV "not_less_witness" 2370),(sV "Whitespace.not_less_witness" 2371),(sV "/claim/cut.py" 2372),(.int 107 0),(.int 2 0),i0,i0,(.int 3 0),(.ref 180),(.bool true),(.int 181 0),(.ref 181),.none,(.ref 182),(.ref 183),(.ref 184),(.int 2375 0),(.int 107 0),(sV "/claim/cut.py" 2376)]),#[]⟩
noncomputable def wk8 (P:Params):Obj:=⟨(.type "function"),none,(.func { name:=(Str.ofString "not_less_witness"),qualname:=(Str.ofString "Whitespace.not_less_witness"),params:=fnPar (sub (st 11) 7),body:=.stmts (fnBody (sub (st 11) 7)),scope:=fnScope (sub (st 11) 7),globals:=3,closure:=[],defaults:=.none,kwdefaults:=.none,doc:=.none,pyModule:=(sV "cpy313.tabnanny" 2286),annotations:=none,code:=(.ref 185),closureTuple:=.none,builtins:=0 }),#[]⟩
noncomputable def wk7 (P:Params):Obj:=⟨(.type "tuple"),none,(.seq #[(sV "is_simple" 2378),(sV "n" 2379),(sV "norm" 2380),(sV "nt" 2381),(sV "raw" 2382)] 0),#[]⟩
noncomputable def wk6 (P:Params):Obj:=⟨(.type "dict"),none,(.dict #[eV P "__module__" 2295 (sV "cpy313.tabnanny" 2286),eV P "__firstlineno__" 2299 (.int 48 2298),eV P "S" 2303 (sV " " 2301),eV P "T" 2304 (sV "\t" 2302),eV P "__init__" 2319 (.ref 144),eV P "longest_run_of_spaces" 2328 (.ref 151),eV P "indent_level" 2340 (.ref 158),eV P "equal" 2348 (.ref 165),eV P "not_equal_witness" 2359 (.ref 172),eV P "less" 2369 (.ref 179),eV P "not_less_witness" 2377 (.ref 186),eV P "__static_attributes__" 2383 (.ref 187),eV P "__dict__" 2385 (.ref 190),eV P "__weakref__" 2387 (.ref 191),eV P "__doc__" 2388 .none] 4),#[]⟩
noncomputable def wk5 (P:Params):Obj:=⟨(.type "type"),none,(.cls { name:=(Str.ofString "Whitespace"),bases:=[(.type "object")],mro:=[(.ref 189),(.type "object")],ns:=188,qualname:=(Str.ofString "Whitespace"),hasDict:=true,slotNames:=[],subclasses:=[],abstract:=false,collection:=none,hasDel:=false }),#[none,none,(some (sV "Whitespace" 2288)),(some (sV "Whitespace" 2296)),(some (.builtin "object.__new__")),(some (.bool true))]⟩
noncomputable def wk4 (P:Params):Obj:=⟨(.type "getset_descriptor"),none,(.fields #[(sV "__dict__" 2384),(.ref 189),(.builtin "function.__dict__"),(.builtin "function.__dict__#set")]),#[]⟩
noncomputable def wpM (P:Params):Obj:=⟨(.type "getset_descriptor"),none,(.fields #[(sV "__weakref__" 2386),(.ref 189),(.builtin "ExceptionGroup.__weakref__"),.none]),#[]⟩
noncomputable def wpL (P:Params):Obj:=⟨(.type "super"),none,(.fields #[(.ref 189),(.ref 189),(.ref 189)]),#[]⟩
noncomputable def wpK (P:Params):Obj:=⟨(.type "builtin_function_or_method"),none,(.fields #[(.builtin "object.__init_subclass__"),(.ref 189)]),#[]⟩
noncomputable def u5 (P:Params):BT:=(.node (wm2 P) (uL (wl3 P)) (uL (wpM P)))
noncomputable def u6 (P:Params):BT:=(.node (wm0 P) (uL (wpN P)) (uL (wpK P)))
noncomputable def u7 (P:Params):BT:=(.node (wm1 P) (uL (wpO P)) (uL (wpL P)))
noncomputable def T6 (P:Params):BT:=(.node (boot_o_0 P) (.node (boot_o_1 P) (.node (wxq P) (.node (boot_o_7 P) (.node (wd0 P) (.node (weE P) (u5 P) (.node (wjC P) (uL (wlz P)) .nil)) (.node (wkl P) (.node (wjS P) (uL (wlP P)) .nil) (.node (whX P) (uL (wlj P)) .nil))) (.node (weK P) (.node (wfM P) (.node (wj0 P) (uL (wlX P)) .nil) (.node (wh5 P) (uL (wlr P)) .nil)) (.node (wkd P) (.node (wjK P) (uL (wlH P)) .nil) (.node (weu P) (uL (wlb P)) .nil)))) (.node (wcx P) (.node (wdX P) (.node (wfQ P) (.node (wj4 P) (uL (wl1 P)) .nil) (.node (wjy P) (uL (wlv P)) .nil)) (.node (wkh P) (.node (wjO P) (uL (wlL P)) .nil) (.node (wfL P) (uL (wlf P)) .nil))) (.node (weH P) (.node (wkp P) (.node (wjW P) (uL (wlT P)) .nil) (.node (wh1 P) (uL (wln P)) .nil)) (.node (wj9 P) (.node (wjG P) (uL (wlD P)) .nil) (.node (whN P) (uL (wk7 P)) .nil))))) (.node (boot_o_5 P) (.node (boot_o_9 P) (.node (wdZ P) (.node (wfS P) (u6 P) (.node (wjA P) (uL (wlx P)) .nil)) (.node (wkj P) (.node (wjQ P) (uL (wlN P)) .nil) (.node (whV P) (uL (wlh P)) .nil))) (.node (weJ P) (.node (wkr P) (.node (wjY P) (uL (wlV P)) .nil) (.node (wh3 P) (uL (wlp P)) .nil)) (.node (wkb P) (.node (wjI P) (uL (wlF P)) .nil) (.node (whP P) (uL (wk9 P)) .nil)))) (.node (wcw P) (.node (wdV P) (.node (wfO P) (.node (wj2 P) (uL (wlZ P)) .nil) (.node (wh7 P) (uL (wlt P)) .nil)) (.node (wkf P) (.node (wjM P) (uL (wlJ P)) .nil) (.node (whS P) (uL (wld P)) .nil))) (.node (wc6 P) (.node (wkn P) (.node (wjU P) (uL (wlR P)) .nil) (.node (whZ P) (uL (wll P)) .nil)) (.node (wj7 P) (.node (wjE P) (uL (wlB P)) .nil) (.node (whL P) (uL (wk5 P)) .nil)))))) (.node (boot_o_2 P) (.node (boot_o_4 P) (.node (boot_o_8 P) (.node (weM P) (.node (wfT P) (u7 P) (.node (wjB P) (uL (wly P)) .nil)) (.node (wkk P) (.node (wjR P) (uL (wlO P)) .nil) (.node (whW P) (uL (wli P)) .nil))) (.node (wfU P) (.node (wge P) (.node (wjZ P) (uL (wlW P)) .nil) (.node (wh4 P) (uL (wlq P)) .nil)) (.node (wkc P) (.node (wjJ P) (uL (wlG P)) .nil) (.node (whQ P) (uL (wla P)) .nil)))) (.node (wvY P) (.node (wdW P) (.node (wfP P) (.node (wj3 P) (uL (wl0 P)) .nil) (.node (wh8 P) (uL (wlu P)) .nil)) (.node (wkg P) (.node (wjN P) (uL (wlK P)) .nil) (.node (whT P) (uL (wle P)) .nil))) (.node (weG P) (.node (wko P) (.node (wjV P) (uL (wlS P)) .nil) (.node (wh0 P) (uL (wlm P)) .nil)) (.node (wj8 P) (.node (wjF P) (uL (wlC P)) .nil) (.node (whM P) (uL (wk6 P)) .nil))))) (.node (boot_o_6 P) (.node (boot_o_10 P) (.node (wdY P) (.node (wfR P) (.node (wj5 P) (uL (wl2 P)) .nil) (.node (wjz P) (uL (wlw P)) .nil)) (.node (wki P) (.node (wjP P) (uL (wlM P)) .nil) (.node (whU P) (uL (wlg P)) .nil))) (.node (weI P) (.node (wkq P) (.node (wjX P) (uL (wlU P)) .nil) (.node (wh2 P) (uL (wlo P)) .nil)) (.node (wka P) (.node (wjH P) (uL (wlE P)) .nil) (.node (whO P) (uL (wk8 P)) .nil)))) (.node (wcv P) (.node (weL P) (.node (wfN P) (.node (wj1 P) (uL (wlY P)) .nil) (.node (wh6 P) (uL (wls P)) .nil)) (.node (wke P) (.node (wjL P) (uL (wlI P)) .nil) (.node (whR P) (uL (wlc P)) .nil))) (.node (weF P) (.node (wkm P) (.node (wjT P) (uL (wlQ P)) .nil) (.node (whY P) (uL (wlk P)) .nil)) (.node (wj6 P) (.node (wjD P) (uL (wlA P)) .nil) (.node (whK P) (uL (wk4 P)) .nil)))))))
noncomputable def n6:Nat:=194
noncomputable def tok6:Nat:=2391
noncomputable def pos6:Pos:=⟨48,0,108,16⟩
noncomputable def wmZ (P:Params):Obj:=⟨(.type "dict"),none,(.dict #[eV P "__name__" 165 (sV "law_xb0039_01" 2391),eV P "__doc__" 166 .none,eV P "__package__" 167 .none,eV P "__loader__" 168 (.builtin "__main__.__loader__#opaque"),eV P "__spec__" 169 .none,eV P "__annotations__" 170 (.ref 6),eV P "__builtins__" 171 (.ref 4),eV P "__file__" 173 (sV "/claim/cut.py" 172),eV P "__cached__" 174 .none,eV P "_wall" 193 (.ref 21),eV P "b1_set" 255 (.ref 29),eV P "in_table_b1" 262 (.ref 39),eV P "b3_exceptions" 2213 (.ref 40),eV P "map_table_b3" 2221 (.ref 85),eV P "TupleComp" 2265 (.ref 109),eV P "add_callers" 2276 (.ref 120),eV P "count_calls" 2285 (.ref 127),eV P "Whitespace" 2390 (.ref 189),eV P "_law_ring" 2398 (.ref 198),eV P "_law_column" 2408 (.ref 205),eV P "_law_lead" 2414 (.ref 210),eV P "_law_apart" 2420 (.ref 215),eV P "_law_nanny" 2426 (.ref 220),eV P "_law_turned" 2432 (.ref 225),eV P "_law_tables" 2438 (.ref 230),eV P "_law_drawn" 2444 (.ref 235),eV P "law" 2450 (.ref 240)] 27),#[]⟩
noncomputable def wrs (P:Params):Obj:=⟨.none,none,(.fields #[(.int 1 0),i0,(.ref 20),(.int 6 0),i0,(.ref 38),(.int 9 0),i0,(.ref 84),(.int 15 0),i0,(.ref 91),(.int 29 0),i0,(.ref 119),(.int 42 0),i0,(.ref 126),(.int 48 0),i0,(.ref 133),(.int 110 0),i0,(.ref 197),(.int 131 0),i0,(.ref 204),(.int 136 0),i0,(.ref 209),(.int 138 0),i0,(.ref 214),(.int 141 0),i0,(.ref 219),(.int 170 0),i0,(.ref 224),(.int 183 0),i0,(.ref 229),(.int 192 0),i0,(.ref 234),(.int 196 0),i0,(.ref 239)]),#[]⟩
noncomputable def wpJ (P:Params):Obj:=oE
noncomputable def wpI (P:Params):Obj:=⟨.none,none,(.fields #[]),#[]⟩
noncomputable def wpH (P:Params):Obj:=⟨.none,none,(.func { name:=(Str.ofString "_law_ring"),qualname:=(Str.ofString "_law_ring"),params:=fnPar (st 13),body:=.stmts (fnBody (st 13)),scope:=fnScope (st 13),globals:=0,closure:=[],defaults:=.none,kwdefaults:=.none,doc:=.none,pyModule:=.none,annotations:=none,code:=.none,closureTuple:=.none,builtins:=0 }),#[]⟩
noncomputable def wpG (P:Params):Obj:=⟨(.type "code"),none,(.fields #[(sV "_law_ring" 2393),(sV "_law_ring" 2394),(sV "/claim/cut.py" 2395),(.int 110 0),(.int 1 0),i0,i0,(.int 3 0),(.ref 194),(.bool true),(.int 181 0),(.ref 195),.none,.none,.none,(.ref 196),(.int 2396 0),(.int 110 0),(sV "/claim/cut.py" 2397)]),#[]⟩
noncomputable def wpF (P:Params):Obj:=⟨(.type "function"),none,(.func { name:=(Str.ofString "_law_ring"),qualname:=(Str.ofString "_law_ring"),params:=fnPar (st 13),body:=.stmts (fnBody (st 13)),scope:=fnScope (st 13),globals:=3,closure:=[],defaults:=.none,kwdefaults:=.none,doc:=.none,pyModule:=(sV "law_xb0039_01" 2391),annotations:=none,code:=(.ref 197),closureTuple:=.none,builtins:=0 }),#[]⟩
noncomputable def wpE (P:Params):Obj:=oE
noncomputable def wpD (P:Params):Obj:=⟨.none,none,(.fields #[]),#[]⟩
noncomputable def wpC (P:Params):Obj:=⟨(.type "tuple"),none,(.seq #[(sV "runs" 2402),(sV "size" 2403),(sV "column" 2404),(sV "run" 2405)] 0),#[]⟩
noncomputable def wpB (P:Params):Obj:=oE
noncomputable def wpA (P:Params):Obj:=⟨.none,none,(.func { name:=(Str.ofString "_law_column"),qualname:=(Str.ofString "_law_column"),params:=fnPar (st 14),body:=.stmts (fnBody (st 14)),scope:=fnScope (st 14),globals:=0,closure:=[],defaults:=.none,kwdefaults:=.none,doc:=.none,pyModule:=.none,annotations:=none,code:=.none,closureTuple:=.none,builtins:=0 }),#[]⟩
noncomputable def wpz (P:Params):Obj:=⟨(.type "code"),none,(.fields #[(sV "_law_column" 2399),(sV "_law_column" 2400),(sV "/claim/cut.py" 2401),(.int 131 0),(.int 2 0),i0,i0,(.int 3 0),(.ref 199),(.bool true),(.int 181 0),(.ref 200),.none,(.ref 201),(.ref 202),(.ref 203),(.int 2406 0),(.int 131 0),(sV "/claim/cut.py" 2407)]),#[]⟩
noncomputable def wpy (P:Params):Obj:=⟨(.type "function"),none,(.func { name:=(Str.ofString "_law_column"),qualname:=(Str.ofString "_law_column"),params:=fnPar (st 14),body:=.stmts (fnBody (st 14)),scope:=fnScope (st 14),globals:=3,closure:=[],defaults:=.none,kwdefaults:=.none,doc:=.none,pyModule:=(sV "law_xb0039_01" 2391),annotations:=none,code:=(.ref 204),closureTuple:=.none,builtins:=0 }),#[]⟩
noncomputable def wpx (P:Params):Obj:=oE
noncomputable def wpw (P:Params):Obj:=⟨.none,none,(.fields #[]),#[]⟩
noncomputable def wpv (P:Params):Obj:=⟨.none,none,(.func { name:=(Str.ofString "_law_lead"),qualname:=(Str.ofString "_law_lead"),params:=fnPar (st 15),body:=.stmts (fnBody (st 15)),scope:=fnScope (st 15),globals:=0,closure:=[],defaults:=.none,kwdefaults:=.none,doc:=.none,pyModule:=.none,annotations:=none,code:=.none,closureTuple:=.none,builtins:=0 }),#[]⟩
noncomputable def wpu (P:Params):Obj:=⟨(.type "code"),none,(.fields #[(sV "_law_lead" 2409),(sV "_law_lead" 2410),(sV "/claim/cut.py" 2411),(.int 136 0),(.int 2 0),i0,i0,(.int 3 0),(.ref 206),(.bool true),(.int 181 0),(.ref 207),.none,.none,.none,(.ref 208),(.int 2412 0),(.int 136 0),(sV "/claim/cut.py" 2413)]),#[]⟩
noncomputable def wpt (P:Params):Obj:=⟨(.type "function"),none,(.func { name:=(Str.ofString "_law_lead"),qualname:=(Str.ofString "_law_lead"),params:=fnPar (st 15),body:=.stmts (fnBody (st 15)),scope:=fnScope (st 15),globals:=3,closure:=[],defaults:=.none,kwdefaults:=.none,doc:=.none,pyModule:=(sV "law_xb0039_01" 2391),annotations:=none,code:=(.ref 209),closureTuple:=.none,builtins:=0 }),#[]⟩
noncomputable def wps (P:Params):Obj:=oE
noncomputable def wpr (P:Params):Obj:=⟨.none,none,(.fields #[]),#[]⟩
noncomputable def wpq (P:Params):Obj:=⟨.none,none,(.func { name:=(Str.ofString "_law_apart"),qualname:=(Str.ofString "_law_apart"),params:=fnPar (st 16),body:=.stmts (fnBody (st 16)),scope:=fnScope (st 16),globals:=0,closure:=[],defaults:=.none,kwdefaults:=.none,doc:=.none,pyModule:=.none,annotations:=none,code:=.none,closureTuple:=.none,builtins:=0 }),#[]⟩
noncomputable def wpp (P:Params):Obj:=⟨(.type "code"),none,(.fields #[(sV "_law_apart" 2415),(sV "_law_apart" 2416),(sV "/claim/cut.py" 2417),(.int 138 0),(.int 2 0),i0,i0,(.int 3 0),(.ref 211),(.bool true),(.int 181 0),(.ref 212),.none,.none,.none,(.ref 213),(.int 2418 0),(.int 138 0),(sV "/claim/cut.py" 2419)]),#[]⟩
noncomputable def wpo (P:Params):Obj:=⟨(.type "function"),none,(.func { name:=(Str.ofString "_law_apart"),qualname:=(Str.ofString "_law_apart"),params:=fnPar (st 16),body:=.stmts (fnBody (st 16)),scope:=fnScope (st 16),globals:=3,closure:=[],defaults:=.none,kwdefaults:=.none,doc:=.none,pyModule:=(sV "law_xb0039_01" 2391),annotations:=none,code:=(.ref 214),closureTuple:=.none,builtins:=0 }),#[]⟩
noncomputable def wpn (P:Params):Obj:=oE
noncomputable def wpm (P:Params):Obj:=⟨.none,none,(.fields #[]),#[]⟩
noncomputable def wpl (P:Params):Obj:=⟨.none,none,(.func { name:=(Str.ofString "_law_nanny"),qualname:=(Str.ofString "_law_nanny"),params:=fnPar (st 17),body:=.stmts (fnBody (st 17)),scope:=fnScope (st 17),globals:=0,closure:=[],defaults:=.none,kwdefaults:=.none,doc:=.none,pyModule:=.none,annotations:=none,code:=.none,closureTuple:=.none,builtins:=0 }),#[]⟩
noncomputable def wpk (P:Params):Obj:=⟨(.type "code"),none,(.fields #[(sV "_law_nanny" 2421),(sV "_law_nanny" 2422),(sV "/claim/cut.py" 2423),(.int 141 0),(.int 2 0),i0,i0,(.int 3 0),(.ref 216),(.bool true),(.int 181 0),(.ref 217),.none,.none,.none,(.ref 218),(.int 2424 0),(.int 141 0),(sV "/claim/cut.py" 2425)]),#[]⟩
noncomputable def wpj (P:Params):Obj:=⟨(.type "function"),none,(.func { name:=(Str.ofString "_law_nanny"),qualname:=(Str.ofString "_law_nanny"),params:=fnPar (st 17),body:=.stmts (fnBody (st 17)),scope:=fnScope (st 17),globals:=3,closure:=[],defaults:=.none,kwdefaults:=.none,doc:=.none,pyModule:=(sV "law_xb0039_01" 2391),annotations:=none,code:=(.ref 219),closureTuple:=.none,builtins:=0 }),#[]⟩
noncomputable def wpi (P:Params):Obj:=oE
noncomputable def wph (P:Params):Obj:=⟨.none,none,(.fields #[]),#[]⟩
noncomputable def wpg (P:Params):Obj:=⟨.none,none,(.func { name:=(Str.ofString "_law_turned"),qualname:=(Str.ofString "_law_turned"),params:=fnPar (st 18),body:=.stmts (fnBody (st 18)),scope:=fnScope (st 18),globals:=0,closure:=[],defaults:=.none,kwdefaults:=.none,doc:=.none,pyModule:=.none,annotations:=none,code:=.none,closureTuple:=.none,builtins:=0 }),#[]⟩
noncomputable def wpf (P:Params):Obj:=⟨(.type "code"),none,(.fields #[(sV "_law_turned" 2427),(sV "_law_turned" 2428),(sV "/claim/cut.py" 2429),(.int 170 0),(.int 2 0),i0,i0,(.int 3 0),(.ref 221),(.bool true),(.int 181 0),(.ref 222),.none,.none,.none,(.ref 223),(.int 2430 0),(.int 170 0),(sV "/claim/cut.py" 2431)]),#[]⟩
noncomputable def wpe (P:Params):Obj:=⟨(.type "function"),none,(.func { name:=(Str.ofString "_law_turned"),qualname:=(Str.ofString "_law_turned"),params:=fnPar (st 18),body:=.stmts (fnBody (st 18)),scope:=fnScope (st 18),globals:=3,closure:=[],defaults:=.none,kwdefaults:=.none,doc:=.none,pyModule:=(sV "law_xb0039_01" 2391),annotations:=none,code:=(.ref 224),closureTuple:=.none,builtins:=0 }),#[]⟩
noncomputable def wpd (P:Params):Obj:=oE
noncomputable def wpc (P:Params):Obj:=⟨.none,none,(.fields #[]),#[]⟩
noncomputable def wpb (P:Params):Obj:=⟨.none,none,(.func { name:=(Str.ofString "_law_tables"),qualname:=(Str.ofString "_law_tables"),params:=fnPar (st 19),body:=.stmts (fnBody (st 19)),scope:=fnScope (st 19),globals:=0,closure:=[],defaults:=.none,kwdefaults:=.none,doc:=.none,pyModule:=.none,annotations:=none,code:=.none,closureTuple:=.none,builtins:=0 }),#[]⟩
noncomputable def wpa (P:Params):Obj:=⟨(.type "code"),none,(.fields #[(sV "_law_tables" 2433),(sV "_law_tables" 2434),(sV "/claim/cut.py" 2435),(.int 183 0),(.int 1 0),i0,i0,(.int 3 0),(.ref 226),(.bool true),(.int 181 0),(.ref 227),.none,.none,.none,(.ref 228),(.int 2436 0),(.int 183 0),(sV "/claim/cut.py" 2437)]),#[]⟩
noncomputable def wo9 (P:Params):Obj:=⟨(.type "function"),none,(.func { name:=(Str.ofString "_law_tables"),qualname:=(Str.ofString "_law_tables"),params:=fnPar (st 19),body:=.stmts (fnBody (st 19)),scope:=fnScope (st 19),globals:=3,closure:=[],defaults:=.none,kwdefaults:=.none,doc:=.none,pyModule:=(sV "law_xb0039_01" 2391),annotations:=none,code:=(.ref 229),closureTuple:=.none,builtins:=0 }),#[]⟩
noncomputable def wo8 (P:Params):Obj:=oE
noncomputable def wo7 (P:Params):Obj:=⟨.none,none,(.fields #[]),#[]⟩
noncomputable def wo6 (P:Params):Obj:=⟨.none,none,(.func { name:=(Str.ofString "_law_drawn"),qualname:=(Str.ofString "_law_drawn"),params:=fnPar (st 20),body:=.stmts (fnBody (st 20)),scope:=fnScope (st 20),globals:=0,closure:=[],defaults:=.none,kwdefaults:=.none,doc:=.none,pyModule:=.none,annotations:=none,code:=.none,closureTuple:=.none,builtins:=0 }),#[]⟩
noncomputable def wo5 (P:Params):Obj:=⟨(.type "code"),none,(.fields #[(sV "_law_drawn" 2439),(sV "_law_drawn" 2440),(sV "/claim/cut.py" 2441),(.int 192 0),(.int 1 0),i0,i0,(.int 3 0),(.ref 231),(.bool true),(.int 181 0),(.ref 232),.none,.none,.none,(.ref 233),(.int 2442 0),(.int 192 0),(sV "/claim/cut.py" 2443)]),#[]⟩
noncomputable def wo4 (P:Params):Obj:=⟨(.type "function"),none,(.func { name:=(Str.ofString "_law_drawn"),qualname:=(Str.ofString "_law_drawn"),params:=fnPar (st 20),body:=.stmts (fnBody (st 20)),scope:=fnScope (st 20),globals:=3,closure:=[],defaults:=.none,kwdefaults:=.none,doc:=.none,pyModule:=(sV "law_xb0039_01" 2391),annotations:=none,code:=(.ref 234),closureTuple:=.none,builtins:=0 }),#[]⟩
noncomputable def wo3 (P:Params):Obj:=oE
noncomputable def wo2 (P:Params):Obj:=⟨.none,none,(.fields #[]),#[]⟩
noncomputable def wo1 (P:Params):Obj:=⟨.none,none,(.func { name:=(Str.ofString "law"),qualname:=(Str.ofString "law"),params:=fnPar (st 21),body:=.stmts (fnBody (st 21)),scope:=fnScope (st 21),globals:=0,closure:=[],defaults:=.none,kwdefaults:=.none,doc:=.none,pyModule:=.none,annotations:=none,code:=.none,closureTuple:=.none,builtins:=0 }),#[]⟩
noncomputable def wo0 (P:Params):Obj:=⟨(.type "code"),none,(.fields #[(sV "law" 2445),(sV "law" 2446),(sV "/claim/cut.py" 2447),(.int 196 0),(.int 1 0),i0,i0,(.int 3 0),(.ref 236),(.bool true),(.int 181 0),(.ref 237),.none,.none,.none,(.ref 238),(.int 2448 0),(.int 196 0),(sV "/claim/cut.py" 2449)]),#[]⟩
noncomputable def woZ (P:Params):Obj:=⟨(.type "function"),none,(.func { name:=(Str.ofString "law"),qualname:=(Str.ofString "law"),params:=fnPar (st 21),body:=.stmts (fnBody (st 21)),scope:=fnScope (st 21),globals:=3,closure:=[],defaults:=.none,kwdefaults:=.none,doc:=.none,pyModule:=(sV "law_xb0039_01" 2391),annotations:=none,code:=(.ref 239),closureTuple:=.none,builtins:=0 }),#[]⟩
noncomputable def T7 (P:Params):BT:=(.node (boot_o_0 P) (.node (boot_o_1 P) (.node (wmZ P) (.node (boot_o_7 P) (.node (wd0 P) (.node (weE P) (u5 P) (.node (wjC P) (uL (wlz P)) (uL (wpg P)))) (.node (wkl P) (.node (wjS P) (uL (wlP P)) (uL (wpw P))) (.node (whX P) (uL (wlj P)) (uL (wo0 P))))) (.node (weK P) (.node (wfM P) (.node (wj0 P) (uL (wlX P)) (uL (wpE P))) (.node (wh5 P) (uL (wlr P)) (uL (wo8 P)))) (.node (wkd P) (.node (wjK P) (uL (wlH P)) (uL (wpo P))) (.node (weu P) (uL (wlb P)) .nil)))) (.node (wcx P) (.node (wdX P) (.node (wfQ P) (.node (wj4 P) (uL (wl1 P)) (uL (wpI P))) (.node (wjy P) (uL (wlv P)) (uL (wpc P)))) (.node (wkh P) (.node (wjO P) (uL (wlL P)) (uL (wps P))) (.node (wfL P) (uL (wlf P)) .nil))) (.node (weH P) (.node (wkp P) (.node (wjW P) (uL (wlT P)) (uL (wpA P))) (.node (wh1 P) (uL (wln P)) (uL (wo4 P)))) (.node (wj9 P) (.node (wjG P) (uL (wlD P)) (uL (wpk P))) (.node (whN P) (uL (wk7 P)) .nil))))) (.node (boot_o_5 P) (.node (boot_o_9 P) (.node (wdZ P) (.node (wfS P) (u6 P) (.node (wjA P) (uL (wlx P)) (uL (wpe P)))) (.node (wkj P) (.node (wjQ P) (uL (wlN P)) (uL (wpu P))) (.node (whV P) (uL (wlh P)) .nil))) (.node (weJ P) (.node (wkr P) (.node (wjY P) (uL (wlV P)) (uL (wpC P))) (.node (wh3 P) (uL (wlp P)) (uL (wo6 P)))) (.node (wkb P) (.node (wjI P) (uL (wlF P)) (uL (wpm P))) (.node (whP P) (uL (wk9 P)) .nil)))) (.node (wcw P) (.node (wdV P) (.node (wfO P) (.node (wj2 P) (uL (wlZ P)) (uL (wpG P))) (.node (wh7 P) (uL (wlt P)) (uL (wpa P)))) (.node (wkf P) (.node (wjM P) (uL (wlJ P)) (uL (wpq P))) (.node (whS P) (uL (wld P)) .nil))) (.node (wc6 P) (.node (wkn P) (.node (wjU P) (uL (wlR P)) (uL (wpy P))) (.node (whZ P) (uL (wll P)) (uL (wo2 P)))) (.node (wj7 P) (.node (wjE P) (uL (wlB P)) (uL (wpi P))) (.node (whL P) (uL (wk5 P)) .nil)))))) (.node (boot_o_2 P) (.node (boot_o_4 P) (.node (boot_o_8 P) (.node (weM P) (.node (wfT P) (u7 P) (.node (wjB P) (uL (wly P)) (uL (wpf P)))) (.node (wkk P) (.node (wjR P) (uL (wlO P)) (uL (wpv P))) (.node (whW P) (uL (wli P)) (uL (woZ P))))) (.node (wfU P) (.node (wge P) (.node (wjZ P) (uL (wlW P)) (uL (wpD P))) (.node (wh4 P) (uL (wlq P)) (uL (wo7 P)))) (.node (wkc P) (.node (wjJ P) (uL (wlG P)) (uL (wpn P))) (.node (whQ P) (uL (wla P)) .nil)))) (.node (wrs P) (.node (wdW P) (.node (wfP P) (.node (wj3 P) (uL (wl0 P)) (uL (wpH P))) (.node (wh8 P) (uL (wlu P)) (uL (wpb P)))) (.node (wkg P) (.node (wjN P) (uL (wlK P)) (uL (wpr P))) (.node (whT P) (uL (wle P)) .nil))) (.node (weG P) (.node (wko P) (.node (wjV P) (uL (wlS P)) (uL (wpz P))) (.node (wh0 P) (uL (wlm P)) (uL (wo3 P)))) (.node (wj8 P) (.node (wjF P) (uL (wlC P)) (uL (wpj P))) (.node (whM P) (uL (wk6 P)) .nil))))) (.node (boot_o_6 P) (.node (boot_o_10 P) (.node (wdY P) (.node (wfR P) (.node (wj5 P) (uL (wl2 P)) (uL (wpJ P))) (.node (wjz P) (uL (wlw P)) (uL (wpd P)))) (.node (wki P) (.node (wjP P) (uL (wlM P)) (uL (wpt P))) (.node (whU P) (uL (wlg P)) .nil))) (.node (weI P) (.node (wkq P) (.node (wjX P) (uL (wlU P)) (uL (wpB P))) (.node (wh2 P) (uL (wlo P)) (uL (wo5 P)))) (.node (wka P) (.node (wjH P) (uL (wlE P)) (uL (wpl P))) (.node (whO P) (uL (wk8 P)) .nil)))) (.node (wcv P) (.node (weL P) (.node (wfN P) (.node (wj1 P) (uL (wlY P)) (uL (wpF P))) (.node (wh6 P) (uL (wls P)) (uL (wo9 P)))) (.node (wke P) (.node (wjL P) (uL (wlI P)) (uL (wpp P))) (.node (whR P) (uL (wlc P)) .nil))) (.node (weF P) (.node (wkm P) (.node (wjT P) (uL (wlQ P)) (uL (wpx P))) (.node (whY P) (uL (wlk P)) (uL (wo1 P)))) (.node (wj6 P) (.node (wjD P) (uL (wlA P)) (uL (wph P))) (.node (whK P) (uL (wk4 P)) .nil)))))))
noncomputable def n7:Nat:=241
noncomputable def tok7:Nat:=2451
noncomputable def pos7:Pos:=⟨196,0,206,107⟩
noncomputable def fragL (P:Params):List (Nat×Obj):=[(0,boot_o_0 P),(1,boot_o_1 P),(2,boot_o_2 P),(3,wmZ P),(4,boot_o_4 P),(5,boot_o_5 P),(6,boot_o_6 P),(7,boot_o_7 P),(8,boot_o_8 P),(9,boot_o_9 P),(10,boot_o_10 P),(11,wcx P),(12,wrs P),(13,wcw P),(14,wcv P),(15,wd0 P),(16,weM P),(17,wdZ P),(18,wdY P),(19,wdX P),(20,wdW P),(21,wdV P),(22,weL P),(23,weK P),(24,wfU P),(25,weJ P),(26,weI P),(27,weH P),(28,weG P),(29,wc6 P),(30,weF P),(31,weE P),(32,wfT P),(33,wfS P),(34,wfR P),(35,wfQ P),(36,wfP P),(37,wfO P),(38,wfN P),(39,wfM P),(40,wge P),(41,wkr P),(42,wkq P),(43,wkp P),(44,wko P),(45,wkn P),(46,wkm P),(47,wkl P),(48,wkk P),(49,wkj P),(50,wki P),(51,wkh P),(52,wkg P),(53,wkf P),(54,wke P),(55,wkd P),(56,wkc P),(57,wkb P),(58,wka P),(59,wj9 P),(60,wj8 P),(61,wj7 P),(62,wj6 P),(63,wm2 P),(64,wm1 P),(65,wm0 P),(66,wj5 P),(67,wj4 P),(68,wj3 P),(69,wj2 P),(70,wj1 P),(71,wj0 P),(72,wjZ P),(73,wjY P),(74,wjX P),(75,wjW P),(76,wjV P),(77,wjU P),(78,wjT P),(79,wjS P),(80,wjR P),(81,wjQ P),(82,wjP P),(83,wjO P),(84,wjN P),(85,wjM P),(86,wjL P),(87,wjK P),(88,wjJ P),(89,wjI P),(90,wjH P),(91,wjG P),(92,wjF P),(93,wjE P),(94,wjD P),(95,wjC P),(96,wjB P),(97,wjA P),(98,wjz P),(99,wjy P),(100,wh8 P),(101,wh7 P),(102,wh6 P),(103,wh5 P),(104,wh4 P),(105,wh3 P),(106,wh2 P),(107,wh1 P),(108,wh0 P),(109,whZ P),(110,whY P),(111,whX P),(112,whW P),(113,whV P),(114,whU P),(115,wfL P),(116,whT P),(117,whS P),(118,whR P),(119,weu P),(120,whQ P),(121,whP P),(122,whO P),(123,whN P),(124,whM P),(125,whL P),(126,whK P),(127,wl3 P),(128,wpO P),(129,wpN P),(130,wl2 P),(131,wl1 P),(132,wl0 P),(133,wlZ P),(134,wlY P),(135,wlX P),(136,wlW P),(137,wlV P),(138,wlU P),(139,wlT P),(140,wlS P),(141,wlR P),(142,wlQ P),(143,wlP P),(144,wlO P),(145,wlN P),(146,wlM P),(147,wlL P),(148,wlK P),(149,wlJ P),(150,wlI P),(151,wlH P),(152,wlG P),(153,wlF P),(154,wlE P),(155,wlD P),(156,wlC P),(157,wlB P),(158,wlA P),(159,wlz P),(160,wly P),(161,wlx P),(162,wlw P),(163,wlv P),(164,wlu P),(165,wlt P),(166,wls P),(167,wlr P),(168,wlq P),(169,wlp P),(170,wlo P),(171,wln P),(172,wlm P),(173,wll P),(174,wlk P),(175,wlj P),(176,wli P),(177,wlh P),(178,wlg P),(179,wlf P),(180,wle P),(181,wld P),(182,wlc P),(183,wlb P),(184,wla P),(185,wk9 P),(186,wk8 P),(187,wk7 P),(188,wk6 P),(189,wk5 P),(190,wk4 P),(191,wpM P),(192,wpL P),(193,wpK P),(194,wpJ P),(195,wpI P),(196,wpH P),(197,wpG P),(198,wpF P),(199,wpE P),(200,wpD P),(201,wpC P),(202,wpB P),(203,wpA P),(204,wpz P),(205,wpy P),(206,wpx P),(207,wpw P),(208,wpv P),(209,wpu P),(210,wpt P),(211,wps P),(212,wpr P),(213,wpq P),(214,wpp P),(215,wpo P),(216,wpn P),(217,wpm P),(218,wpl P),(219,wpk P),(220,wpj P),(221,wpi P),(222,wph P),(223,wpg P),(224,wpf P),(225,wpe P),(226,wpd P),(227,wpc P),(228,wpb P),(229,wpa P),(230,wo9 P),(231,wo8 P),(232,wo7 P),(233,wo6 P),(234,wo5 P),(235,wo4 P),(236,wo3 P),(237,wo2 P),(238,wo1 P),(239,wo0 P),(240,woZ P)]
theorem wuD (w:World):(fun os=>topGo treeTable prog w 11 ann0 12 ⟨boot_heap w.params,Array.mk [],boot_drawn,boot_toks,os⟩ (topStub prog)) =
  fun os=>some (⟨⟨Array.mk (wqg w.params),{}⟩,Array.mk [],boot_drawn,tokA,os⟩,(⟨denote treeTable wag,wag,posA,[topFrame posQ]⟩:Thread)):=by
 kernel_rfl!
theorem wsk (w:World):(fun os=>segRun treeTable prog w 11 ann0 1 1 ⟨⟨Array.mk (wqg w.params),{}⟩,Array.mk [],boot_drawn,tokA,os⟩ (blockOf (behindTheImports prog) env0 wag posA [topFrame posQ])) =
  fun os=>some (.next,(SAt T0 n0 tokA w os).abs,wag,pos0):=by
 kernel_rfl!
noncomputable def sts1:List Stmt:=[st 0,st 1]
theorem wuK (w:World):∀ os:OsState,Option.map (fun r=>r) (PySem.W.Fast.tw10110043849684766642 PySem.W.Fast.tw14364793385576792824 prog w 11 ann0 1 39 (SAt T0 n0 tokA w os) (piecesOf sts1 env0 wag pos0 [topFrame posQ]))=some (Flow.next,SAt T1 n1 tok1 w os,wag,pos1):=by
 intro os;kernel_rfl!
theorem wvV (w:World):(fun os=>segRunT treeTable prog w 11 ann0 1 39 (SAt T0 n0 tokA w os) (piecesOf sts1 env0 wag pos0 [topFrame posQ])) =
  fun os=>some (.next,SAt T1 n1 tok1 w os,wag,pos1):=by
 rw [PySem.W.Fast.te10110043849684766642,PySem.W.Fast.te14364793385576792824]
 funext os
 have h:=wuK w os
 rwa [Option.map_id']at h
noncomputable def sts2:List Stmt:=[st 2]
theorem wuJ (w:World):∀ os:OsState,Option.map (fun r=>r) (PySem.W.Fast.tw10110043849684766642 PySem.W.Fast.tw14364793385576792824 prog w 11 ann0 1 999 (SAt T1 n1 tok1 w os) (piecesOf sts2 env0 wag pos1 [topFrame posQ]))=some (Flow.next,SAt T2 n2 tok2 w os,wag,pos2):=by
 refine byRow2 "set-order" (P:=fun w=>∀ os:OsState,Option.map (fun r=>r) (PySem.W.Fast.tw10110043849684766642 PySem.W.Fast.tw14364793385576792824 prog w 11 ann0 1 999 (SAt T1 n1 tok1 w os) (piecesOf sts2 env0 wag pos1 [topFrame posQ]))=some (Flow.next,SAt T2 n2 tok2 w os,wag,pos2)) (fun w=>?_) (fun w=>?_) w
 ·refine byRow2 "special-get-raises" (P:=fun w=>∀ os:OsState,Option.map (fun r=>r) (PySem.W.Fast.tw10110043849684766642 PySem.W.Fast.tw14364793385576792824 prog (w.withFollow "set-order" false) 11 ann0 1 999 (SAt T1 n1 tok1 (w.withFollow "set-order" false) os) (piecesOf sts2 env0 wag pos1 [topFrame posQ]))=some (Flow.next,SAt T2 n2 tok2 (w.withFollow "set-order" false) os,wag,pos2)) (fun w=>?_) (fun w=>?_) w
  ·intro os;kernel_rfl!
  ·intro os;kernel_rfl!
 ·refine byRow2 "special-get-raises" (P:=fun w=>∀ os:OsState,Option.map (fun r=>r) (PySem.W.Fast.tw10110043849684766642 PySem.W.Fast.tw14364793385576792824 prog (w.withFollow "set-order" true) 11 ann0 1 999 (SAt T1 n1 tok1 (w.withFollow "set-order" true) os) (piecesOf sts2 env0 wag pos1 [topFrame posQ]))=some (Flow.next,SAt T2 n2 tok2 (w.withFollow "set-order" true) os,wag,pos2)) (fun w=>?_) (fun w=>?_) w
  ·intro os;kernel_rfl!
  ·intro os;kernel_rfl!
theorem wvU (w:World):(fun os=>segRunT treeTable prog w 11 ann0 1 999 (SAt T1 n1 tok1 w os) (piecesOf sts2 env0 wag pos1 [topFrame posQ])) =
  fun os=>some (.next,SAt T2 n2 tok2 w os,wag,pos2):=by
 rw [PySem.W.Fast.te10110043849684766642,PySem.W.Fast.te14364793385576792824]
 funext os
 have h:=wuJ w os
 rwa [Option.map_id']at h
noncomputable def sts3:List Stmt:=[st 3]
theorem wuI (w:World):∀ os:OsState,Option.map (fun r=>r) (PySem.W.Fast.tw10110043849684766642 PySem.W.Fast.tw14364793385576792824 prog w 11 ann0 1 30 (SAt T2 n2 tok2 w os) (piecesOf sts3 env0 wag pos2 [topFrame posQ]))=some (Flow.next,SAt T3 n3 tok3 w os,wag,pos3):=by
 intro os;kernel_rfl!
theorem wvT (w:World):(fun os=>segRunT treeTable prog w 11 ann0 1 30 (SAt T2 n2 tok2 w os) (piecesOf sts3 env0 wag pos2 [topFrame posQ])) =
  fun os=>some (.next,SAt T3 n3 tok3 w os,wag,pos3):=by
 rw [PySem.W.Fast.te10110043849684766642,PySem.W.Fast.te14364793385576792824]
 funext os
 have h:=wuI w os
 rwa [Option.map_id']at h
noncomputable def sts5:List Stmt:=[st 5,st 6,st 7,st 8,st 9,st 10]
theorem wuH (w:World):∀ os:OsState,Option.map (fun r=>r) (PySem.W.Fast.tw10110043849684766642 PySem.W.Fast.tw14364793385576792824 prog w 11 ann0 1 372 (SAt T4 n4 tok4 w os) (piecesOf sts5 env0 wag pos4 [topFrame posQ]))=some (Flow.next,SAt T5 n5 tok5 w os,wag,pos5):=by
 intro os;kernel_rfl!
theorem wvR (w:World):(fun os=>segRunT treeTable prog w 11 ann0 1 372 (SAt T4 n4 tok4 w os) (piecesOf sts5 env0 wag pos4 [topFrame posQ])) =
  fun os=>some (.next,SAt T5 n5 tok5 w os,wag,pos5):=by
 rw [PySem.W.Fast.te10110043849684766642,PySem.W.Fast.te14364793385576792824]
 funext os
 have h:=wuH w os
 rwa [Option.map_id']at h
noncomputable def sts6:List Stmt:=[st 11]
theorem wuG (w:World):∀ os:OsState,Option.map (fun r=>r) (PySem.W.Fast.tw10110043849684766642 PySem.W.Fast.tw14364793385576792824 prog w 11 ann0 1 496 (SAt T5 n5 tok5 w os) (piecesOf sts6 env0 wag pos5 [topFrame posQ]))=some (Flow.next,SAt T6 n6 tok6 w os,wag,pos6):=by
 refine byRow2 "special-get-raises" (P:=fun w=>∀ os:OsState,Option.map (fun r=>r) (PySem.W.Fast.tw10110043849684766642 PySem.W.Fast.tw14364793385576792824 prog w 11 ann0 1 496 (SAt T5 n5 tok5 w os) (piecesOf sts6 env0 wag pos5 [topFrame posQ]))=some (Flow.next,SAt T6 n6 tok6 w os,wag,pos6)) (fun w=>?_) (fun w=>?_) w
 ·intro os;kernel_rfl!
 ·intro os;kernel_rfl!
theorem wvQ (w:World):(fun os=>segRunT treeTable prog w 11 ann0 1 496 (SAt T5 n5 tok5 w os) (piecesOf sts6 env0 wag pos5 [topFrame posQ])) =
  fun os=>some (.next,SAt T6 n6 tok6 w os,wag,pos6):=by
 rw [PySem.W.Fast.te10110043849684766642,PySem.W.Fast.te14364793385576792824]
 funext os
 have h:=wuG w os
 rwa [Option.map_id']at h
noncomputable def sts7:List Stmt:=[st 12,st 13,st 14,st 15,st 16,st 17,st 18,st 19,st 20,st 21]
theorem wuF (w:World):∀ os:OsState,Option.map (fun r=>r) (PySem.W.Fast.tw10110043849684766642 PySem.W.Fast.tw14364793385576792824 prog w 11 ann0 1 250 (SAt T6 n6 tok6 w os) (piecesOf sts7 env0 wag pos6 [topFrame posQ]))=some (Flow.next,SAt T7 n7 tok7 w os,wag,pos7):=by
 intro os;kernel_rfl!
theorem wvP (w:World):(fun os=>segRunT treeTable prog w 11 ann0 1 250 (SAt T6 n6 tok6 w os) (piecesOf sts7 env0 wag pos6 [topFrame posQ])) =
  fun os=>some (.next,SAt T7 n7 tok7 w os,wag,pos7):=by
 rw [PySem.W.Fast.te10110043849684766642,PySem.W.Fast.te14364793385576792824]
 funext os
 have h:=wuF w os
 rwa [Option.map_id']at h
noncomputable def TD (P:Params):BT:=(.node (boot_o_0 P) (.node (boot_o_1 P) (.node (wt5 P) (u1 P) (u2 P)) (u3 P)) (u4 P))
noncomputable def tokD:Nat:=tok4 - 1
theorem wut:st 4=.Assign (dTgts (st 4)) (.Dict (dictKeys (st 4)) (dictVals (st 4)) (dPos (st 4))) (sPos (st 4)):=by kernel_rfl!
theorem wuM:okPairs (dictKeys (st 4)) (dictVals (st 4))=true:=by kernel_rfl!
theorem wqu:rises (-1) dictL=true:=by decide +kernel
theorem wnH:dictL.length=650:=by kernel_rfl!
theorem wrL (w:World) (os:OsState):loopS dictL [] none (SAt T3 n3 tok3 w os)=(some (40,allTo 38),SAt TD n4 tokD w os):=by kernel_rfl!
theorem wqU (P:Params):braunB (T3 P) n3=true:=by kernel_rfl!
theorem wra:dTgts (st 4)=[.Name (Str.ofString "b3_exceptions") (nPos (dTgts (st 4)))]:=by kernel_rfl!
theorem wsE (w:World):(fun (q:Pos) (os:OsState)=>segRunT treeTable prog w 11 ann0 1 30 (SAt TD n4 tokD w os) ⟨(dictTail (Str.ofString "b3_exceptions") (nPos (dTgts (st 4))) env0 (.ref 40)).wrap doneF deadEnd id id,wag,q,[topFrame posQ]⟩) =
  fun q os=>some (Flow.next,SAt T4 n4 tok4 w os,wag,pos4):=by
 rw [PySem.W.Fast.te10110043849684766642,PySem.W.Fast.te14364793385576792824]
 kernel_rfl!
noncomputable def sts4:List Stmt:=[st 4]
theorem wvS (w:World):(fun os=>segRunT treeTable prog w 11 ann0 1 26100 (SAt T3 n3 tok3 w os) (piecesOf sts4 env0 wag pos3 [topFrame posQ])) =
  fun os=>some (.next,SAt T4 n4 tok4 w os,wag,pos4):=by
 funext os
 have h1:EvT prog w 11 ann0 (standAt (sPos (st 4)) >>= fun _=>standAt (dPos (st 4)) >>= fun _=>dictDisplay (dictL.map (mkItem (dPos (st 4))))) (SAt T3 n3 tok3 w os) (.ref 40) (SAt TD n4 tokD w os) (1+(1+40 * dictL.length)):=by
  refine EvT.bind (EvT.standAt _) (EvT.bind (EvT.standAt _) ?_)
  exact wqM (b:=-1) (wqU w.params) (show 11<=n3 by decide) (show sysModules<n3 by decide) wqu (by rw [wnH];decide) (wrL w os)
 obtain ⟨q,n,hn,e⟩:=h1 (fun v=>(dictTail (Str.ofString "b3_exceptions") (nPos (dTgts (st 4))) env0 v).wrap doneF deadEnd id id) deadEnd id id wag pos3 [topFrame posQ] (by simp)
 have e':=wgU e (congrFun (congrFun (wsE w) q) os)
 have hl:1+(1+40 * dictL.length)=26002:=by rw [wnH]
 rw [hl]at hn
 have e2:=wgV (26100 - (n+30)) _ _ _ _ e'
 rw [show n+30+(26100 - (n+30))=26100 by omega]at e2
 rw [<- e2]
 have:execs sts4 env0=(standAt (sPos (st 4)) >>= fun _=>standAt (dPos (st 4)) >>= fun _=>dictDisplay (dictL.map (mkItem (dPos (st 4))))) >>= fun v=>dictTail (Str.ofString "b3_exceptions") (nPos (dTgts (st 4))) env0 v:=by
  show execs [st 4] env0=_
  rw [wut,wra,wr1]
  have hi:=wts (env:=env0) (q:=dPos (st 4)) _ _ wuM
  rw [hi]
  rfl
 show segRunT treeTable prog w 11 ann0 1 26100 _ ⟨(execs sts4 env0).wrap doneF deadEnd id id,wag,pos3,[topFrame posQ]⟩=_
 rw [this,Sem.bind_eq_wrap',Sem.wrap_wrap]
 rfl
noncomputable def bodyL:List Stmt:=sts1++(sts2++(sts3++(sts4++(sts5++(sts6++(sts7++[]))))))
theorem wvt:behindTheImports prog=bodyL:=by kernel_rfl!
theorem wve (w:World):(fun os=>topRun treeTable prog w 11 ann0 2 (SAt T7 n7 tok7 w os).abs ⟨doneF .next,wag,pos7,[topFrame posQ]⟩)=fun os=>some (SAt T7 n7 tok7 w os).abs:=by
 kernel_rfl!
noncomputable def fuelM:Nat:=12+(1+(39+(999+(30+(26100+(372+(496+(250+2))))))))
theorem wux (w:World) (os:OsState):topRun treeTable prog w 11 ann0 fuelM ⟨boot_heap w.params,Array.mk [],boot_drawn,boot_toks,os⟩ (topStub prog)=some (SAt T7 n7 tok7 w os).abs:=by
 refine go_top (congrFun (wuD w) os) ?_
 show topRun treeTable prog w 11 ann0 _ _ ⟨denote treeTable (.body (behindTheImports prog) env0),wag,posA,[topFrame posQ]⟩=_
 refine piece_block (congrFun (wsk w) os) ?_
 rw [wvt]
 refine piece_app (segRun_of (congrFun (wvV w) os)) ?_
 refine piece_app (segRun_of (congrFun (wvU w) os)) ?_
 refine piece_app (segRun_of (congrFun (wvT w) os)) ?_
 refine piece_app (segRun_of (congrFun (wvS w) os)) ?_
 refine piece_app (segRun_of (congrFun (wvR w) os)) ?_
 refine piece_app (segRun_of (congrFun (wvQ w) os)) ?_
 refine piece_app (segRun_of (congrFun (wvP w) os)) ?_
 exact piece_nil (congrFun (wve w) os)
noncomputable def lawQ:Program:={ prog with main:={ prog.main with body:=[st 21] } }
noncomputable def looseQ:List Str:=[Str.ofString "_wall",Str.ofString "b1_set",Str.ofString "in_table_b1",Str.ofString "b3_exceptions",Str.ofString "map_table_b3",Str.ofString "TupleComp",Str.ofString "add_callers",Str.ofString "count_calls",Str.ofString "Whitespace",Str.ofString "_law_ring",Str.ofString "_law_column",Str.ofString "_law_lead",Str.ofString "_law_apart",Str.ofString "_law_nanny",Str.ofString "_law_turned",Str.ofString "_law_tables",Str.ofString "_law_drawn"]
noncomputable def asL:List Addr:=List.range n7
theorem wrZ (P:Params):asL=(fragL P).map (·.1):=by kernel_rfl!
noncomputable def hookK:Hook:=kHook fragL asL wrZ
theorem wxE (w:World):(fun os:OsState=>(staticsOk (importedModules prog.main.body) (boot_heap w.params) (absHeap (T7 w.params) n7 {})&&namesBound prog (absHeap (T7 w.params) n7 {})&&gensDone ⟨absHeap (T7 w.params) n7 {},Array.mk [],boot_drawn,tok7,os⟩&&laidKept (boot_heap w.params) (absHeap (T7 w.params) n7 {})))=fun _=>true:=by
 kernel_rfl!
theorem wxD (w:World):(fun os:OsState=>openSeen lawQ looseQ (importedModules prog.main.body) (fun _=>true) true ⟨absHeap (T7 w.params) n7 {},Array.mk [],boot_drawn,tok7,os⟩)=fun _=>openGood lawQ looseQ:=by
 kernel_rfl!
theorem wxC (w:World):(fun os:OsState=>hookK.obs ⟨absHeap (T7 w.params) n7 {},Array.mk [],boot_drawn,tok7,os⟩)=fun _=>hookK.val w:=by
 kernel_rfl!
theorem wsP (w:World):((boot_heap w.params).isNs mainGlobals&&(Array.mk ([]:List GenState)).size==0,(boot_heap w.params).objs.size,(boot_heap w.params).nsMap mainGlobals "__annotations__")=(true,11,ann0):=by
 kernel_rfl!
theorem wrp:∀ w:World,(fencedOpening treeTable prog w 60000).map (fun s=>(s.heap,s.gens,s.drawn,s.toks))=some (boot_heap w.params,Array.mk [],boot_drawn,boot_toks):=
 boot_open (by kernel_rfl!) (by decide) (fun s=>rfl)
theorem left_top:LeftO prog lawQ looseQ (fun _=>true) hookK.obs hookK.val 60000:=
 LeftO.of_pieces (H₀:=boot_heap) (H₁:=fun P=>absHeap (T7 P) n7 {}) (gs₀:=Array.mk []) (gs₁:=Array.mk []) (d₀:=boot_drawn) (d₁:=boot_drawn) (k₀:=boot_toks) (k₁:=tok7) (m₀:=11) (ann:=ann0) (M:=fuelM)
  wrp wsP wux (by decide) (fun w=>by
   funext os
   exact Prod.ext (congrFun (wxE w) os) (Prod.ext (congrFun (wxD w) os) (congrFun (wxC w) os)))
end Mine
end
end
section
namespace Mine.Py
open PySem
theorem viaG {P:Prop} (h:∀ G:Prop,(P->G)->G):P:=h P id
theorem sub1 {n j k:Nat} (h:n - j=k+1):n - (j+1)=k:=congrArg Nat.pred h
theorem ltSub {n j k:Nat} (h:n - j=k+1):j<n:=Nat.lt_of_sub_pos (h ▸ Nat.succ_pos k)
theorem leSub {n j:Nat} (h:n - j=0):n<=j:=Nat.le_of_sub_eq_zero h
theorem subLt {n i:Nat} (h:i<n):n+1 - (i+1)<n+1 - i:=Nat.sub_lt_sub_left (Nat.lt_succ_of_lt h) (Nat.lt_succ_self i)
noncomputable abbrev Tx:=List Nat
noncomputable abbrev mk (x:Tx):Str:=⟨x.toArray⟩
inductive Key where
 | i (n:Int) | s (x:Tx)
 deriving DecidableEq
inductive D where
 | none | bool (b:Bool) | int (i:Int) | str (x:Tx) | list (xs:List D) | tuple (xs:List D)
 | dict (kvs:List (Key×D)) | obj (c:Str) (fs:List (Str×D)) | set (xs:List Int)
section
variable {α β:Type}
noncomputable def optK (o:Option β) (k:β->Option α):Option α:=match o with
 | some b=>k b
 | none=>none
noncomputable def boolK (d:D) (k:Bool->Option α):Option α:=match d with
 | .bool b=>k b
 | _=>none
noncomputable def intK (d:D) (k:Int->Option α):Option α:=match d with
 | .int b=>k b
 | _=>none
noncomputable def strK (d:D) (k:Tx->Option α):Option α:=match d with
 | .str b=>k b
 | _=>none
noncomputable def listK (d:D) (k:List D->Option α):Option α:=match d with
 | .list b=>k b
 | _=>none
noncomputable def tupK (d:D) (k:List D->Option α):Option α:=match d with
 | .tuple b=>k b
 | _=>none
noncomputable def dictK (d:D) (k:List (Key×D)->Option α):Option α:=match d with
 | .dict b=>k b
 | _=>none
noncomputable def objK (d:D) (k:Str->List (Str×D)->Option α):Option α:=match d with
 | .obj c fs=>k c fs
 | _=>none
noncomputable def nilK (l:List D) (x:Option α):Option α:=match l with
 | []=>x
 | _=>none
noncomputable def unK (l:List D) (k:D->List D->Option α):Option α:=match l with
 | a::r=>k a r
 | []=>none
noncomputable def unN:Nat->List D->(List D->Option α)->Option α
 | 0,l,k=>nilK l (k [])
 | n+1,l,k=>unK l fun a l=>unN n l fun ds=>k (a::ds)
noncomputable def wau (d:D) (k:D->D->Option α):Option α:=tupK d fun l=>unK l fun a l=>unK l fun b l=>nilK l (k a b)
noncomputable def wnd (d:D) (k:D->D->D->Option α):Option α:=tupK d fun l=>unK l fun a l=>unK l fun b l=>unK l fun c l=>nilK l (k a b c)
noncomputable def wq5 (d:D) (k:D->D->D->D->D->Option α):Option α:=tupK d fun l=>unK l fun a l=>unK l fun b l=>unK l fun c l=>unK l fun e l=>unK l fun f l=>nilK l (k a b c e f)
variable {P:Prop} {r:α}
theorem noneE (h:none=some r):P:=nomatch h
theorem ffE (h:false=true):P:=nomatch h
theorem consE {a:α} {l:List α} (h:[]=a::l):P:=nomatch h
theorem memE {a:α} (h:a∈[]):P:=nomatch h
theorem succE {n:Nat} (h:0=n+1):P:=nomatch h
theorem wav {a:α}:some a≠none:=fun h=>noneE h.symm
theorem someE {a b:α} (h:some a=some b) (f:a=b->P):P:=f (Option.some.inj h)
theorem bindE {o:Option β} {k:β->Option α} (h:o.bind k=some r) (f:∀ b,o=some b->k b=some r->P):P:=by
 cases o with
 | none=>exact noneE h
 | some b=>exact f b rfl h
theorem mapE {o:Option β} {k:β->α} (h:o.map k=some r) (f:∀ b,o=some b->k b=r->P):P:=by
 cases o with
 | none=>exact noneE h
 | some b=>exact f b rfl (Option.some.inj h)
theorem optE {o:Option β} {k:β->Option α} (h:optK o k=some r) (f:∀ b,o=some b->k b=some r->P):P:=by
 cases o with
 | none=>exact noneE h
 | some b=>exact f b rfl h
theorem iteE {c:Prop} [i:Decidable c] {x y:Option α} (h:(if c then x else y)=some r) (f:c->x=some r->P) (g:¬ c->y=some r->P):P:=by
 cases i with
 | isTrue q=>exact f q h
 | isFalse q=>exact g q h
theorem ifE {c:Prop} [Decidable c] {x:Option α} (h:(if c then x else none)=some r) (f:c->x=some r->P):P:=iteE h f fun _=>noneE
theorem nifE {c:Prop} [Decidable c] {x:Option α} (h:(if c then none else x)=some r) (f:¬ c->x=some r->P):P:=iteE h (fun _=>noneE) f
theorem andE {a b:Bool} (h:(a&&b)=true) (f:a=true->b=true->P):P:=by
 cases a with
 | true=>exact f rfl h
 | false=>exact Bool.noConfusion h
theorem boolE {d:D} {k:Bool->Option α} (h:boolK d k=some r) (f:∀ b,d=.bool b->k b=some r->P):P:=by
 cases d<;>first | exact f _ rfl h | exact noneE h
theorem intE {d:D} {k:Int->Option α} (h:intK d k=some r) (f:∀ b,d=.int b->k b=some r->P):P:=by
 cases d<;>first | exact f _ rfl h | exact noneE h
theorem strE {d:D} {k:Tx->Option α} (h:strK d k=some r) (f:∀ b,d=.str b->k b=some r->P):P:=by
 cases d<;>first | exact f _ rfl h | exact noneE h
theorem listE {d:D} {k:List D->Option α} (h:listK d k=some r) (f:∀ b,d=.list b->k b=some r->P):P:=by
 cases d<;>first | exact f _ rfl h | exact noneE h
theorem tupE {d:D} {k:List D->Option α} (h:tupK d k=some r) (f:∀ b,d=.tuple b->k b=some r->P):P:=by
 cases d<;>first | exact f _ rfl h | exact noneE h
theorem dictE {d:D} {k:List (Key×D)->Option α} (h:dictK d k=some r) (f:∀ b,d=.dict b->k b=some r->P):P:=by
 cases d<;>first | exact f _ rfl h | exact noneE h
theorem objE {d:D} {k:Str->List (Str×D)->Option α} (h:objK d k=some r) (f:∀ c fs,d=.obj c fs->k c fs=some r->P):P:=by
 cases d<;>first | exact f _ _ rfl h | exact noneE h
theorem wt3 (n:Nat):∀ {l:List D} {k:List D->Option α},unN n l k=some r->k l=some r:=by
 induction n with
 | zero=>intro l k h;cases l with
  | nil=>exact h
  | cons=>exact noneE h
 | succ n ih=>intro l k h;cases l with
  | nil=>exact noneE h
  | cons a l=>exact ih (k:=fun ds=>k (a::ds)) h
end
mutual
noncomputable def toPy:D->Option PyData
 | .none=>some .none
 | .bool b=>some (.bool b)
 | .int i=>some (.int i)
 | .str x=>some (.str (mk x))
 | .list xs=>(toPys xs).map .list
 | .tuple xs=>(toPys xs).map .tuple
 | .dict _=>Option.none
 | .obj _ _=>Option.none
 | .set _=>Option.none
noncomputable def toPys:List D->Option (List PyData)
 | []=>some []
 | x::xs=>(toPy x).bind fun p=>(toPys xs).map fun ps=>p::ps
end
noncomputable def kget (k:Key):List (Key×D)->Option D
 | []=>Option.none
 | (a,v)::r=>if a=k then some v else kget k r
noncomputable def khas (k:Key) (l:List (Key×D)):Bool:=(kget k l).isSome
noncomputable def kput (k:Key) (v:D):List (Key×D)->List (Key×D)
 | []=>[]
 | (a,x)::r=>if a=k then (a,v)::kput k v r else (a,x)::kput k v r
noncomputable def kset (k:Key) (v:D) (l:List (Key×D)):List (Key×D):=if khas k l then kput k v l else l++[(k,v)]
noncomputable def toKey:D->Option Key
 | .int i=>some (.i i)
 | .str x=>some (.s x)
 | _=>Option.none
noncomputable def ofKey:Key->D
 | .i n=>.int n
 | .s x=>.str x
noncomputable def eqP (a b:D):Option Bool:=(toPy a).bind fun p=>(toPy b).bind fun q=>if SeqAt.shaped p&&SeqAt.shaped q then some (PyData.eqv p q) else Option.none
noncomputable def hits (kb:List (Key×D)):List (Key×D)->Option Bool
 | []=>some true
 | (k,v)::r=>match kget k kb with
  | Option.none=>some false
  | some y=>(eqP v y).bind fun e=>(hits kb r).map fun b=>e&&b
noncomputable def eqD (a b:D):Option Bool:=match a with
 | .dict ka=>dictK b fun kb=>if ka.length=kb.length then hits kb ka else some false
 | a=>eqP a b
noncomputable def ltS (a b:D):Option Bool:=match a with
 | .int x=>intK b fun y=>some (decide (x<y))
 | .str x=>strK b fun y=>some (decide (x<y))
 | _=>none
noncomputable def eqS (a b:D):Option Bool:=match a with
 | .int x=>intK b fun y=>some (decide (x=y))
 | .str x=>strK b fun y=>some (decide (x=y))
 | _=>none
noncomputable def ltTup:List D->List D->Option Bool
 | [],[]=>some false
 | [],_::_=>some true
 | _::_,[]=>some false
 | x::xs,y::ys=>(eqS x y).bind fun e=>if e then ltTup xs ys else ltS x y
noncomputable def ltD (a b:D):Option Bool:=match a with
 | .tuple x=>tupK b fun y=>ltTup x y
 | a=>ltS a b
noncomputable def cap:Nat:=10000
noncomputable def wdQ {α:Type} (a b:D) (k:Int->Int->Option α):Option α:=intK a fun x=>intK b fun y=>k x y
noncomputable def addD (a b:D):Option D:=match a with
 | .int x=>intK b fun y=>some (.int (x+y))
 | .str x=>strK b fun y=>if x.length+y.length<=cap then some (.str (x++y)) else none
 | .list x=>listK b fun y=>if x.length+y.length<=cap then some (.list (x++y)) else none
 | .tuple x=>tupK b fun y=>if x.length+y.length<=cap/\x.length≠0/\y.length≠0 then some (.tuple (x++y)) else none
 | _=>none
noncomputable def mulD (a b:D):Option D:=match a with
 | .int x=>intK b fun y=>if x.natAbs<2 ^ 60 then some (.int (x * y)) else none
 | .str x=>intK b fun y=>if x.length=1/\0<=y/\y<10000 then some (.str (List.replicate y.toNat (x.headD 0))) else none
 | .list x=>intK b fun y=>if x.length=1/\0<=y/\y<10000 then some (.list (List.replicate y.toNat (x.headD .none))) else none
 | _=>none
noncomputable def binop (op:Operator) (a b:D):Option D:=match op with
 | .Add=>addD a b
 | .Sub=>wdQ a b fun x y=>some (.int (x - y))
 | .Mult=>mulD a b
 | .FloorDiv=>wdQ a b fun x y=>if y≠0/\y.natAbs<2 ^ 30 then some (.int (x.fdiv y)) else none
 | .Mod=>wdQ a b fun x y=>if y≠0 then some (.int (x.fmod y)) else none
 | .Pow=>wdQ a b fun x y=>if 0<=y/\y<=64/\x.natAbs<2 ^ 32 then some (.int (x ^ y.toNat)) else none
 | _=>none
noncomputable def addI (a b:D):Option D:=match a with
 | .int x=>intK b fun y=>some (.int (x+y))
 | .str x=>strK b fun y=>if x.length+y.length<=cap then some (.str (x++y)) else none
 | _=>none
noncomputable def isD (a b:D):Option Bool:=match a with
 | .none=>(match b with | .none=>some true | .bool _=>some false | _=>none)
 | .bool x=>(match b with | .none=>some false | .bool y=>some (x==y) | _=>none)
 | .str _=>(match b with | .none=>some false | _=>none)
 | _=>none
noncomputable def memP (x:D):List D->Option Bool
 | []=>some false
 | y::ys=>(eqS y x).bind fun e=>(memP x ys).map fun b=>e||b
noncomputable def inD (x:D) (c:D):Option Bool:=match c with
 | .dict kvs=>(toKey x).map fun k=>khas k kvs
 | .set ys=>intK x fun i=>some (ys.contains i)
 | .list ys=>memP x ys
 | .tuple ys=>memP x ys
 | _=>none
noncomputable def cmpD (op:CmpOp) (a b:D):Option Bool:=match op with
 | .Eq=>eqD a b
 | .NotEq=>(eqD a b).map (!·)
 | .Lt=>ltS a b
 | .Gt=>ltS b a
 | .LtE=>wdQ a b fun x y=>some (decide (x<=y))
 | .GtE=>wdQ a b fun x y=>some (decide (x>=y))
 | .Is=>isD a b
 | .IsNot=>(isD a b).map (!·)
 | .In=>inD a b
 | .NotIn=>(inD a b).map (!·)
noncomputable def unop (op:UnaryOp) (a:D):Option D:=match op with
 | .USub=>intK a fun x=>some (.int (-x))
 | .Not=>boolK a fun b=>some (.bool (!b))
 | _=>none
noncomputable def nth {α:Type} (xs:List α) (i:Int):Option α:=
 if 0<=i then (if i<100000 then xs[i.toNat]? else Option.none) else if -(xs.length:Int)<=i/\-100000<i then xs[(i+xs.length).toNat]? else Option.none
noncomputable def cut {α:Type} (lo hi:Option Int) (xs:List α):List α:=
 let a:=lo.elim 0 (clipAt xs.length)
 let b:=hi.elim xs.length (clipAt xs.length)
 (xs.drop a).take (b - a)
noncomputable def sub (a k:D):Option D:=match a with
 | .list xs=>intK k fun i=>nth xs i
 | .tuple xs=>intK k fun i=>nth xs i
 | .str xs=>intK k fun i=>(nth xs i).map fun c=>.str [c]
 | .dict kvs=>(toKey k).bind fun k=>kget k kvs
 | _=>none
noncomputable def cutT (lo hi:Option Int) (xs:List D):Option D:=match lo with
 | some i=>(match hi with
  | none=>if 1<=i/\i<=xs.length/\xs.length<=cap then some (.tuple (xs.drop i.toNat)) else none
  | some _=>none)
 | none=>none
noncomputable def cutD (lo hi:Option Int) (a:D):Option D:=match a with
 | .list xs=>if xs.length<=cap then some (.list (cut lo hi xs)) else none
 | .tuple xs=>cutT lo hi xs
 | .str xs=>if xs.length<=cap then some (.str (cut lo hi xs)) else none
 | _=>none
noncomputable def boundOk:Option Int->Bool
 | some i=>decide (-100000<i)&&decide (i<100000)
 | Option.none=>true
noncomputable def intsOf:List D->Option (List Int)
 | []=>some []
 | d::r=>intK d fun i=>(intsOf r).map fun l=>i::l
noncomputable def txtsOf:List D->Option (List Tx)
 | []=>some []
 | d::r=>strK d fun i=>(txtsOf r).map fun l=>i::l
noncomputable def bestBy (lt:D->D->Option Bool) (best:D):List D->Option D
 | []=>some best
 | x::r=>(lt x best).bind fun b=>bestBy lt (if b then x else best) r
noncomputable def chars (x:Tx):List D:=x.map fun c=>.str [c]
noncomputable def seqOf:D->Option (List D)
 | .list xs=>some xs
 | .tuple xs=>some xs
 | .str x=>some (chars x)
 | _=>Option.none
noncomputable def intText (i:Int):Tx:=(Str.ofString (toString i)).cps.toList
inductive B where
 | len | max | min | sum | tuple | ord | chr | str | abs
 deriving DecidableEq
noncomputable def bname (f:Str):Option B:=
 if f==("len":Str) then some .len else if f==("max":Str) then some .max else if f==("min":Str) then some .min
 else if f==("sum":Str) then some .sum else if f==("tuple":Str) then some .tuple else if f==("ord":Str) then some .ord
 else if f==("chr":Str) then some .chr else if f==("str":Str) then some .str else if f==("abs":Str) then some .abs else none
noncomputable def oneK {α β:Type} (l:List β) (k:β->Option α):Option α:=match l with
 | [d]=>k d
 | _=>none
theorem oneE {α β:Type} {P:Prop} {r:α} {l:List β} {k:β->Option α} (h:oneK l k=some r) (f:∀ d,l=[d]->k d=some r->P):P:=by
 rcases l with _ | ⟨d,_ | _⟩<;>first | exact f _ rfl h | cases h
noncomputable def bestOf (lt:D->D->Option Bool) (l:List D):Option D:=match l with
 | x::r=>bestBy lt x r
 | []=>none
noncomputable def maxB (lt:D->D->Option Bool) (f:Int->Int->Int) (ds:List D):Option D:=match ds with
 | [a]=>(seqOf a).bind (bestOf lt)
 | [a,b]=>wdQ a b fun x y=>some (.int (f x y))
 | _=>none
noncomputable def lenOf (d:D):Option D:=match d with
 | .list xs=>if xs.length<=cap then some (.int xs.length) else none
 | .tuple xs=>if xs.length<=cap then some (.int xs.length) else none
 | .str xs=>if xs.length<=cap then some (.int xs.length) else none
 | _=>none
noncomputable def tupleD (d:D):Option D:=match d with
 | .list xs=>if xs.length<=cap then some (.tuple xs) else none
 | .str xs=>if xs.length<=cap then some (.tuple (chars xs)) else none
 | _=>none
noncomputable def bfn (b:B) (ds:List D):Option D:=match b with
 | .len=>oneK ds lenOf
 | .max=>maxB (fun a b=>ltD b a) (fun a b=>if b > a then b else a) ds
 | .min=>maxB ltD (fun a b=>if b<a then b else a) ds
 | .sum=>oneK ds fun d=>listK d fun xs=>(intsOf xs).map fun l=>.int l.sum
 | .tuple=>oneK ds tupleD
 | .ord=>oneK ds fun d=>strK d fun x=>oneK x fun c=>some (.int (c:Nat))
 | .chr=>oneK ds fun d=>intK d fun i=>if 0<=i/\i<1114112 then some (.str [i.toNat]) else none
 | .str=>oneK ds fun d=>intK d fun i=>if i.natAbs<10 ^ 9 then some (.str (intText i)) else none
 | .abs=>oneK ds fun d=>intK d fun i=>some (.int i.natAbs)
noncomputable def joinT (sep:Tx):List Tx->Tx
 | []=>[]
 | [x]=>x
 | x::r=>x++sep++joinT sep r
inductive Mt where
 | join | get | lower
 deriving DecidableEq
noncomputable def mname (m:Str):Option Mt:=
 if m==("join":Str) then some .join else if m==("get":Str) then some .get else if m==("lower":Str) then some .lower else none
noncomputable def lowerT (x:Tx):Tx:=(PySem.Txt.lower (mk x)).cps.toList
noncomputable def getD (kvs:List (Key×D)) (ds:List D):Option D:=match ds with
 | [k]=>(toKey k).map fun k=>(kget k kvs).getD .none
 | [k,d]=>(toKey k).map fun k=>(kget k kvs).getD d
 | _=>none
noncomputable def mfn (a:D) (m:Mt) (ds:List D):Option D:=match m with
 | .join=>strK a fun sep=>oneK ds fun d=>listK d fun xs=>(txtsOf xs).bind fun l=>if (l.map List.length).sum+l.length * sep.length<=cap then some (.str (joinT sep l)) else none
 | .lower=>strK a fun x=>if ds.isEmpty=true/\(lowerT x).length<=cap then some (.str (lowerT x)) else none
 | .get=>dictK a fun kvs=>getD kvs ds
inductive Slot where
 | fz (d:D) | own (d:D)
structure Cx where
 hints:List (Nat×List Str)
 muts:List Str
structure Def where
 name:Str
 params:List Str
 body:List Stmt
 scope:Scope
 cx:Cx
structure Tab where
 fns:List (Str×Def)
 cls:List (Str×List (Str×Def))
 con:List (Str×List (Str×D))
 gl:List (Str×D)
 ats:List Str
inductive ItK where
 | plain | pairs | lst
 deriving DecidableEq
noncomputable def isGlob (sc:Scope) (x:Str):Bool:=sc.names.lookup x==some .globalImplicit&&!(x==("__debug__":Str))
noncomputable def isVar (sc:Scope) (x:Str):Bool:=match sc.names.lookup x with
 | some .local | some .cell | some .free=>!(x==("__debug__":Str))&&!(x==("__classdict__":Str))
 | _=>false
noncomputable def canSet (sc:Scope) (x:Str):Bool:=match sc.names.lookup x with
 | some .local | some .cell=>true
 | _=>false
noncomputable def isListD:D->Bool
 | .list _=>true
 | .dict _=>true
 | _=>false
noncomputable def nodupB:List Str->Bool
 | []=>true
 | x::xs=>!xs.contains x&&nodupB xs
noncomputable abbrev gk:Str:=Str.ofString "new_callers"
noncomputable def scOk (scope sc:Scope):Bool:=
 scope.kind==.function&&nodupB (scope.names.map (·.1))&&(scope.names.all fun p=>p.2 != .free||sc.names.lookup p.1==some .cell||sc.names.lookup p.1==some .free)&&scope.names.lookup gk != some .local
noncomputable def relab (scope sc:Scope):Scope:=
 { scope with names:=scope.names.map fun (n,k)=>if (k==.free&&sc.kind==.function&&sc.names.lookup n==some .cell) then (n,.cell) else (n,k) }
noncomputable def tgtOk (k:ItK) (t:Expr):Bool:=@PySem.Expr.casesOn (fun _=>_) t (fun _ _ _=>false) (fun _ _ _=>false) (fun _ _ _ _=>false) (fun _ _ _=>false) (fun _ _ _ _=>false) (fun _ _ _ _=>false) (fun _ _ _=>false) (fun _ _ _=>false) (fun _ _ _ _=>false) (fun _ _ _ _=>false) (fun _ _ _ _ _=>false) (fun _ _ _ _=>false) (fun _ _=>false) (fun _ _=>false) (fun _ _=>false) (fun _ _ _ _=>false) (fun _ _ _ _=>false) (fun _ _ _ _=>false) (fun _ _=>false) (fun _ _ _=>false) (fun _ _ _=>false) (fun _ _ _=>false) (fun _ _=>false) (fun _ _=>k != .pairs) (fun _ _=>false) (fun ts _ _=>k != .plain&&ts.all fun t=>t.ctorIdx==23) (fun _ _ _ _=>false)
noncomputable def itKind:D->ItK
 | .list _=>.lst
 | _=>.plain
noncomputable def wct (a b:Int):List D:=(List.range (b - a).toNat).map fun (i:Nat)=>.int (a+(i:Int))
noncomputable def rangeD (ds:List D):Option (List D):=match ds with
 | [b]=>intK b fun b=>if -10000<b/\b<10000 then some (wct 0 b) else none
 | [a,b]=>wdQ a b fun a b=>if (-100000<a/\a<100000)/\-100000<b/\b<100000/\b - a<10000 then some (wct a b) else none
 | _=>none
noncomputable def isStarE (e:Expr):Bool:=e.ctorIdx==22
noncomputable def genOk (sc scope:Scope) (x y:Str):Bool:=
 scope.kind==.function&&!scope.isCoroutine&&scope.names.lookup x==some .local&&scope.names.lookup y==some .local&&!(x==y)&&scope.names.lookup (".0":Str)==some .local &&
 (scope.names.all fun p=>p.2 != .cell&&p.2 != .free)&&!(x==("__debug__":Str))&&!(y==("__debug__":Str))&&!(x==(".0":Str))&&!(y==(".0":Str))&&sc.names.lookup gk==some .local
noncomputable def enumD (xs:List D):List D:=List.zipWith (fun (i:Nat) x=>.tuple [.int (i:Int),x]) (List.range xs.length) xs
noncomputable def fresh (e:Expr):Bool:=e.ctorIdx==24||e.ctorIdx==6||e.ctorIdx==2
noncomputable def isComp (e:Expr):Bool:=e.ctorIdx==8||e.ctorIdx==9||e.ctorIdx==10
noncomputable def nmV {β:Type} (e:Expr) (z:β) (f:Str->Pos->β):β:=@PySem.Expr.casesOn (fun _=>_) e (fun _ _ _=>z) (fun _ _ _=>z) (fun _ _ _ _=>z) (fun _ _ _=>z) (fun _ _ _ _=>z) (fun _ _ _ _=>z) (fun _ _ _=>z) (fun _ _ _=>z) (fun _ _ _ _=>z) (fun _ _ _ _=>z) (fun _ _ _ _ _=>z) (fun _ _ _ _=>z) (fun _ _=>z) (fun _ _=>z) (fun _ _=>z) (fun _ _ _ _=>z) (fun _ _ _ _=>z) (fun _ _ _ _=>z) (fun _ _=>z) (fun _ _ _=>z) (fun _ _ _=>z) (fun _ _ _=>z) (fun _ _=>z) (fun x p=>f x p) (fun _ _=>z) (fun _ _ _=>z) (fun _ _ _ _=>z)
noncomputable def names (ts:List Expr):List Str:=ts.filterMap fun e=>nmV e none fun x _=>some x
noncomputable def nmF (sc:Scope) (ts:List Expr):List Str:=ts.filterMap fun e=>nmV e none fun id pos=>if sc.names.lookup id==some .local&&pos.line==(ts.head?.map (·.pos.line)).getD 0 then some id else none
noncomputable def swapRoad (sc:Scope) (ts vs:List Expr):Option Bool:=
 if !(ts.length==2||ts.length==3)||vs.length != ts.length then some false
 else if vs.any isStarE then some false
 else if (nmF sc ts).length != ts.length||(nmF sc ts).eraseDups.length != (nmF sc ts).length then some false
 else if vs.all (foldedForSure 8) then some false
 else if vs.all (constantsAlone 8) then none
 else some true
noncomputable def isSliceE (e:Expr):Bool:=e.ctorIdx==26
noncomputable def hintsAt (c:Cx) (st:Stmt):List Str:=((c.hints.lookup st.pos.line).getD [])
noncomputable def okSlot:Slot->Bool
 | .fz _=>true
 | .own (.obj _ _)=>true
 | .own _=>false
end Mine.Py
end
section
namespace Mine.Py
open PySem PySem.W PyProof.Rows PySem.Calls
set_option genInjectivity false
set_option genSizeOf false
noncomputable def keyIs:Key->Value->Bool
 | .i n,v=>Value.isInt n v
 | .s x,v=>Value.isStrOf (mk x) v
theorem wkv {x y:Tx} (h:mk x=mk y):x=y:=by
 have:=congrArg (fun s:Str=>s.cps.toList) h;simpa using this
theorem wkw (s:Str):mk s.cps.toList=s:=by cases s;simp
theorem wbC {k:Key} {v:Value} (h:keyIs k v=true):(∃ n t,k=.i n/\v=.int n t)\/(∃ x t,k=.s x/\v=.str (mk x) t):=by
 cases k with
 | i n=>obtain ⟨t,rfl⟩:=Value.isInt_shape (show Value.isInt n v=true from h);exact .inl ⟨n,t,rfl,rfl⟩
 | s x=>obtain ⟨t,rfl⟩:=Value.isStrOf_shape (show Value.isStrOf (mk x) v=true from h);exact .inr ⟨x,t,rfl,rfl⟩
noncomputable def keyHash (w:World):Key->Int
 | .i n=>hashInt n
 | .s x=>hashStr w (mk x)
theorem keyIsE {P:Key->Value->Prop} {k:Key} {v:Value} (h:keyIs k v=true) (f:∀ n t,P (.i n) (.int n t)) (g:∀ x t,P (.s x) (.str (mk x) t)):P k v:=by
 rcases wbC h with ⟨n,t,rfl,rfl⟩ | ⟨x,t,rfl,rfl⟩
 ·exact f n t
 ·exact g x t
theorem wwZ {prog:Program} {w:World} {A:Around} {E:Value->Shared->Prop} {s:Shared} {a b:Key} {u v:Value} {Q:Bool->Shared->Prop} (hu:keyIs a u=true) (hv:keyIs b v=true) (h:Q (decide (a=b)) s):wpAny (model prog w) A (eqBool u v) Q E s:=by
 refine keyIsE (P:=fun a u=>Q (decide (a=b)) s->wpAny (model prog w) A (eqBool u v) Q E s) hu (fun n t=>?_) (fun x t=>?_) h
 ·refine keyIsE (P:=fun b v=>Q (decide (Key.i n=b)) s->wpAny (model prog w) A (eqBool (.int n t) v) Q E s) hv (fun n' t' h=>wpAny_eqBool_int ?_) (fun x t' h=>?_)
  ·have e:(n==n')=decide ((Key.i n)=.i n'):=decide_eq_decide.mpr ⟨fun q=>q ▸ rfl,fun q=>Key.i.inj q⟩
   rw [e];exact h
  ·unfold eqBool
   rw [if_neg (by simp)]
   exact wpAny_holding (wpAny_bind (SeqAt.RcAt.int_str n t (mk x) t' _ _ _ _ (wpAny_truthy_bool h)))
 ·refine keyIsE (P:=fun b v=>Q (decide (Key.s x=b)) s->wpAny (model prog w) A (eqBool (.str (mk x) t) v) Q E s) hv (fun n' t' h=>?_) (fun x' t' h=>wpAny_eqBool_str ?_)
  ·unfold eqBool
   rw [if_neg (by simp)]
   exact wpAny_holding (wpAny_bind (SeqAt.RcAt.str_int (mk x) t n' t' _ _ _ _ (wpAny_truthy_bool h)))
  ·have e:decide (mk x=mk x')=decide ((Key.s x)=.s x'):=decide_eq_decide.mpr ⟨fun q=>congrArg Key.s (wkv q),fun q=>congrArg mk (Key.s.inj q)⟩
   rw [e];exact h
noncomputable def anyKind (prog:Program) (w:World):KeyKind prog w Key where
 is:=keyIs
 hash:=keyHash w
 inj:=fun v a b ha hb=>keyIsE (P:=fun a v=>keyIs b v=true->a=b) ha (fun n t hb=>by
   rcases wbC hb with ⟨n',t',rfl,e⟩ | ⟨x,t',rfl,e⟩
   ·injection e with e;rw [e]
   ·exact Value.noConfusion e) (fun x t hb=>by
   rcases wbC hb with ⟨n',t',rfl,e⟩ | ⟨x',t',rfl,e⟩
   ·exact Value.noConfusion e
   ·injection e with e;rw [wkv e]) hb
 byValue:=fun k v h=>by
  rcases wbC h with ⟨n,t,rfl,rfl⟩ | ⟨x,t,rfl,rfl⟩<;>rfl
 pyHash:=fun hv h=>by
  rcases wbC hv with ⟨n,t,rfl,rfl⟩ | ⟨x,t,rfl,rfl⟩
  ·exact wpAny_pyHash_int h
  ·exact wpAny_pyHash_str h
 eqBool:=wwZ
 «strs»:=fun k x t v h=>by
  rcases wbC h with ⟨n,t',rfl,e⟩ | ⟨x',t',rfl,e⟩
  ·exact Value.noConfusion e
  ·injection e with e1 e2
   subst e1
   cases v<;>rfl
noncomputable abbrev FH:=Addr->Option Obj
noncomputable def FH.le (F G:FH):Prop:=∀ b o,F b=some o->G b=some o
noncomputable def FH.In (F:FH) (h:Heap):Prop:=∀ b o,F b=some o->h.get? b=some o
noncomputable def FH.put (F:FH) (a:Addr) (o:Obj):FH:=fun b=>if b=a then some o else F b
theorem FH.le.refl (F:FH):F.le F:=fun _ _ e=>e
theorem FH.le.trans {F G H:FH} (x:F.le G) (y:G.le H):F.le H:=fun b o e=>y b o (x b o e)
theorem FH.le.inn {F G:FH} {h:Heap} (x:F.le G) (y:G.In h):F.In h:=fun b o e=>y b o (x b o e)
theorem FH.put_self (F:FH) (a:Addr) (o:Obj):F.put a o a=some o:=by simp [FH.put]
theorem FH.le_put {F:FH} {a:Addr} {o:Obj} (h:F a=none):F.le (F.put a o):=fun b ob e=>by
 unfold FH.put;split
 ·rename_i q;rw [q,h]at e;cases e
 ·exact e
noncomputable def Keep (h h':Heap):Prop:=∀ b o,h.get? b=some o->h'.get? b=some o
theorem Keep.refl (h:Heap):Keep h h:=fun _ _ e=>e
theorem Keep.trans {h h' h'':Heap} (x:Keep h h') (y:Keep h' h''):Keep h h'':=fun b o e=>y b o (x b o e)
noncomputable def Tab0 (o:Obj):Prop:=o.cls=.none/\∃ ps,o.data=.fields ps/\TriplesOk ps.toList
theorem wab {o:Obj} {T:String} (h:o.cls=.type T):¬ Tab0 o:=fun ⟨q,_⟩=>by rw [h]at q;cases q
theorem wmy {o:Obj} {T:Addr} (h:o.cls=.ref T):¬ Tab0 o:=fun ⟨q,_⟩=>by rw [h]at q;cases q
theorem wgf {o:Obj} {es:Array DictEntry} {n:Nat} (h:o.data=.dict es n):¬ Tab0 o:=fun ⟨_,_,q,_⟩=>by rw [h]at q;cases q
theorem wqv {o:Obj} {v:Option Value} (h:o.data=.cell v):¬ Tab0 o:=fun ⟨_,_,q,_⟩=>by rw [h]at q;cases q
structure Grown (o o':Obj):Prop where
 tab:Tab0 o'
 more:∀ ps,o.data=.fields ps->∃ more,o'={ o with data:=.fields (ps++more) }
theorem Grown.refl {o:Obj} (t:Tab0 o):Grown o o:=⟨t,fun ps e=>⟨#[],by cases o;cases e;simp⟩⟩
theorem Grown.trans {o o' o'':Obj} (x:Grown o o') (y:Grown o' o''):Grown o o'':=⟨y.tab,fun ps e=>by
 obtain ⟨m,rfl⟩:=x.more ps e
 obtain ⟨m',rfl⟩:=y.more _ rfl
 exact ⟨m++m',by rw [Array.append_assoc]⟩⟩
structure KeepT (h h':Heap):Prop where
 at_:∀ b o,h.get? b=some o->¬ Tab0 o->h'.get? b=some o
 tab:∀ b o,h.get? b=some o->Tab0 o->∃ o',h'.get? b=some o'/\Grown o o'
theorem KeepT.of {h h':Heap} (k:Keep h h'):KeepT h h':=⟨fun b o e _=>k b o e,fun b o e t=>⟨o,k b o e,.refl t⟩⟩
theorem KeepT.trans {h h' h'':Heap} (x:KeepT h h') (y:KeepT h' h''):KeepT h h'':=
 ⟨fun b o e n=>y.at_ b o (x.at_ b o e n) n,fun b o e t=>let ⟨o',e',t'⟩:=x.tab b o e t;let ⟨o'',e'',t''⟩:=y.tab b o' e' t'.tab;⟨o'',e'',t'.trans t''⟩⟩
theorem KeepT.alive {h h':Heap} (k:KeepT h h') {b:Addr} (e:h.get? b≠none):h'.get? b≠none:=by
 cases q:h.get? b with
 | none=>exact absurd q e
 | some o=>
  by_cases t:Tab0 o
  ·obtain ⟨o',e',_⟩:=k.tab b o q t;rw [e'];simp
  ·rw [k.at_ b o q t];simp
theorem weN {h h':Heap} (k:Keep h h') {b:Addr} (e:h'.get? b=none):h.get? b=none:=by
 cases q:h.get? b with
 | none=>rfl
 | some o=>rw [k b o q]at e;cases e
theorem KeepT.gone {h h':Heap} (k:KeepT h h') {b:Addr} (e:h'.get? b=none):h.get? b=none:=by
 cases q:h.get? b with
 | none=>rfl
 | some o=>exact absurd e (k.alive (by rw [q];simp))
theorem KeepT.but {h hX hJ:Heap} (x:KeepT h hX) {P:Addr->Prop} (hP:∀ b,P b->h.get? b=none) (k:∀ b o,¬ P b->hX.get? b=some o->hJ.get? b=some o):KeepT h hJ:=by
 have np:∀ b o,h.get? b=some o->¬ P b:=fun b o e q=>by rw [hP b q]at e;cases e
 exact ⟨fun b o e n=>k b o (np b o e) (x.at_ b o e n),fun b o e t=>let ⟨o',e',t'⟩:=x.tab b o e t;⟨o',k b o' (np b o e) e',t'⟩⟩
structure Calm (s s':Shared):Prop where
 os:s'.os=s.os
 gens:AllBare s.gens->AllBare s'.gens
theorem Calm.refl (s:Shared):Calm s s:=⟨rfl,id⟩
theorem Calm.trans {s s' s'':Shared} (x:Calm s s') (y:Calm s' s''):Calm s s'':=⟨y.os.trans x.os,fun q=>y.gens (x.gens q)⟩
theorem Calm.of {s s':Shared} (h:∃ h tk,s'={ s with heap:=h,toks:=tk }):Calm s s':=by obtain ⟨h,t,rfl⟩:=h;exact ⟨rfl,id⟩
theorem Calm.call {s₀ s:Shared} {L:Addr} {m:Str->Option Value} (x:InCall s₀ L m s):Calm s₀ s:=by obtain ⟨h,t,rfl⟩:=x.same;exact ⟨rfl,id⟩
structure Ext (F:FH) (s:Shared) (F':FH) (s':Shared):Prop where
 le:F.le F'
 inn:F'.In s'.heap
 keep:KeepT s.heap s'.heap
 new:∀ b o,F' b=some o->F b=some o\/s.heap.get? b=none
 calm:Calm s s'
theorem Ext.refl {F:FH} {s:Shared} (x:F.In s.heap):Ext F s F s:=⟨FH.le.refl F,x,KeepT.of (Keep.refl s.heap),fun _ _ e=>.inl e,.refl s⟩
theorem Ext.trans {F F' F'':FH} {s s' s'':Shared} (x:Ext F s F' s') (y:Ext F' s' F'' s''):Ext F s F'' s'':=
 ⟨x.le.trans y.le,y.inn,x.keep.trans y.keep,fun b o e=>(y.new b o e).elim (fun q=>x.new b o q) fun q=>.inr (x.keep.gone q),x.calm.trans y.calm⟩
theorem Ext.tok {F F':FH} {s s':Shared} (x:Ext F s F' s') {t:Nat}:Ext F s F' { s' with toks:=t }:=⟨x.le,x.inn,x.keep,x.new,x.calm.os,x.calm.gens⟩
theorem Ext.same {F:FH} {s s':Shared} (x:F.In s.heap) (k:Keep s.heap s'.heap) (c:Calm s s':=by first | exact ⟨rfl,fun x=>x⟩ | assumption):Ext F s F s':=⟨FH.le.refl F,fun b o e=>k b o (x b o e),KeepT.of k,fun _ _ e=>.inl e,c⟩
theorem Ext.put {F:FH} {s s':Shared} {a:Addr} {o:Obj} (x:F.In s.heap) (k:Keep s.heap s'.heap) (hn:s.heap.get? a=none) (ho:s'.heap.get? a=some o) (c:Calm s s':=by first | exact ⟨rfl,fun x=>x⟩ | assumption):Ext F s (F.put a o) s':=by
 have hf:F a=none:=by
  cases q:F a with
  | none=>rfl
  | some o=>rw [x a o q]at hn;cases hn
 refine ⟨FH.le_put hf,fun b ob e=>?_,KeepT.of k,fun b ob e=>?_,c⟩
 ·unfold FH.put at e;split at e
  ·rename_i q;cases e;rw [q];exact ho
  ·exact k b ob (x b ob e)
 ·unfold FH.put at e;split at e
  ·rename_i q;right;rw [q];exact hn
  ·exact .inl e
theorem get?_size (h:Heap):h.get? h.objs.size=none:=by
 cases q:h.get? h.objs.size with
 | none=>rfl
 | some o=>exact absurd (Heap.lt_size q) (Nat.lt_irrefl _)
theorem wbB {F:FH} {h:Heap} {o:Obj} (x:F.In h):F.le (F.put h.objs.size o):=FH.le_put (by
 cases q:F h.objs.size with
 | none=>rfl
 | some o=>exact absurd (x _ _ q) (by rw [get?_size];simp))
theorem Keep.push (h:Heap) (o:Obj):Keep h (h.push o):=fun _ _ e=>Heap.get?_push_of_some _ e
noncomputable def NsO (o:Obj) (m:Str->Option Value):Prop:=∃ es ep,o.data=.dict es ep/\StrKeys es/\∀ name,nsFind es name=m name
theorem NsO.ns {h:Heap} {C:Addr} {o:Obj} {m:Str->Option Value} (x:NsO o m) (e:h.get? C=some o):h.Ns C m:=let ⟨es,ep,hd,r⟩:=x;⟨o,es,ep,e,hd,r⟩
structure NsD (o:Obj) (es:List (Str×Value)):Prop where
 ns:NsO o fun x=>es.lookup x
 size:∀ des ep,o.data=.dict des ep->des.size<=es.length
structure Fr where
 T:Tab
 prog:Program
 w:World
 cad:Str->Addr
 K:Frag
 mg:Str->Option Value
inductive VI (i:Int):Value->Prop | mk (t):VI i (.int i t)
inductive VS (x:Tx):Value->Prop | mk (t):VS x (.str (mk x) t)
inductive VL (ty:String) (R:List Value->Prop) (G:FH):Value->Prop | mk {a vs n}:G a=some { cls:=.type ty,data:=.seq vs n }->R vs.toList->VL ty R G (.ref a)
inductive VD (C:Fr) (R:List (Key×Value)->Prop) (G:FH):Value->Prop | mk {a o es}:G a=some o->(a==sysModules)=false->o.IsDictOf (anyKind C.prog C.w) es->R es->VD C R G (.ref a)
inductive VO (a:Addr) (R:List (Str×Value)->Prop) (G:FH):Value->Prop | mk {b d od es}:G b=some (instObj a d)->G d=some od->NsD od es->R es->VO a R G (.ref b)
inductive VT (C:Fr) (xs:List Int) (G:FH):Value->Prop | mk {a o n}:G a=some o->n<scanBound->o.SetObjOf (intKind C.prog C.w) (fun k=>xs.contains k) n->VT C xs G (.ref a)
inductive VC {α:Type} (P:α->Prop) (R:List α->Prop):List α->Prop | mk {v vs}:P v->R vs->VC P R (v::vs)
mutual
noncomputable def Vw (C:Fr) (F:FH):D->FH->Value->Prop
 | .none,_,v=>v=.none
 | .bool b,_,v=>v=.bool b
 | .int i,_,v=>VI i v
 | .str x,_,v=>VS x v
 | .list xs,G,v=>VL "list" (RepAll C F xs) G v
 | .tuple xs,G,v=>VL "tuple" (RepAll C F xs) G v
 | .dict kvs,G,v=>VD C (RepKV C F kvs) G v
 | .obj c fs,G,v=>VO (C.cad c) (RepFs C F fs) G v
 | .set xs,G,v=>VT C xs G v
noncomputable def RepAll (C:Fr) (F:FH):List D->List Value->Prop
 | [],vs=>vs=[]
 | d::ds,vs=>VC (Vw C F d F) (RepAll C F ds) vs
noncomputable def RepKV (C:Fr) (F:FH):List (Key×D)->List (Key×Value)->Prop
 | [],vs=>vs=[]
 | (k,d)::ds,vs=>VC (fun p=>p.1=k/\Vw C F d F p.2) (RepKV C F ds) vs
noncomputable def RepFs (C:Fr) (F:FH):List (Str×D)->List (Str×Value)->Prop
 | [],vs=>vs=[]
 | (k,d)::ds,vs=>VC (fun p=>p.1=k/\Vw C F d F p.2) (RepFs C F ds) vs
end
noncomputable abbrev Rep (C:Fr) (F:FH) (v:Value) (d:D):Prop:=Vw C F d F v
noncomputable abbrev View (C:Fr) (h:Heap) (F:FH) (v:Value) (d:D):Prop:=Vw C F d h.get? v
noncomputable def tops (G:FH):Value->List Addr
 | .ref a=>a::(match G a with | some o=>o.dict.toList | none=>[])
 | _=>[]
section
variable {C:Fr} {F F' G G':FH} {h h':Heap} {v:Value} {d:D}
theorem wbk {a:Addr} {o:Obj} (e:G a=some o):tops G (.ref a)=a::o.dict.toList:=by show a::_=_;rw [e]
theorem waJ (a:Addr):a∈tops G (.ref a):=List.mem_cons_self
mutual
theorem Vw.gen (le:F.le F'):∀ (d:D) {G G':FH} {v:Value},(∀ b∈tops G v,∀ o,G b=some o->¬ Tab0 o->G' b=some o)->Vw C F d G v->Vw C F' d G' v
 | .none,_,_,_,_,r=>r
 | .bool _,_,_,_,_,r=>r
 | .int _,_,_,_,_,r=>r
 | .str _,_,_,_,_,r=>r
 | .list xs,_,_,_,k,.mk e r=>.mk (k _ (waJ _) _ e (wab rfl)) (RepAll.mono le xs r)
 | .tuple xs,_,_,_,k,.mk e r=>.mk (k _ (waJ _) _ e (wab rfl)) (RepAll.mono le xs r)
 | .dict xs,_,_,_,k,.mk e a b r=>.mk (k _ (waJ _) _ e (let ⟨_,_,x,_⟩:=b;wab x.1)) a b (RepKV.mono le xs r)
 | .obj _ fs,_,_,_,k,.mk e e' b r=>.mk (k _ (waJ _) _ e (wmy rfl)) (k _ (by rw [wbk e];exact List.mem_cons_of_mem _ List.mem_cons_self) _ e' (let ⟨_,_,x,_⟩:=b.ns;wgf x)) b (RepFs.mono le fs r)
 | .set _,_,_,_,k,.mk e a b=>.mk (k _ (waJ _) _ e (wab b.1.1)) a b
theorem RepAll.mono (le:F.le F'):∀ (ds:List D) {vs:List Value},RepAll C F ds vs->RepAll C F' ds vs
 | [],_,r=>r
 | d::ds,_,.mk a b=>.mk (Vw.gen le d (fun b _ o e _=>le b o e) a) (RepAll.mono le ds b)
theorem RepKV.mono (le:F.le F'):∀ (ds:List (Key×D)) {vs:List (Key×Value)},RepKV C F ds vs->RepKV C F' ds vs
 | [],_,r=>r
 | (_,d)::ds,_,.mk a b=>.mk ⟨a.1,Vw.gen le d (fun b _ o e _=>le b o e) a.2⟩ (RepKV.mono le ds b)
theorem RepFs.mono (le:F.le F'):∀ (ds:List (Str×D)) {vs:List (Str×Value)},RepFs C F ds vs->RepFs C F' ds vs
 | [],_,r=>r
 | (_,d)::ds,_,.mk a b=>.mk ⟨a.1,Vw.gen le d (fun b _ o e _=>le b o e) a.2⟩ (RepFs.mono le ds b)
end
theorem Vw.mono (r:Vw C F d G v) (k:G.le G') (le:F.le F'):Vw C F' d G' v:=Vw.gen le d (fun b _ o e _=>k b o e) r
theorem Rep.mono (r:Rep C F v d) (le:F.le F'):Rep C F' v d:=Vw.mono r le le
theorem Rep.view (r:Rep C F v d) (i:F.In h):View C h F v d:=Vw.mono r i (FH.le.refl F)
theorem View.ext {s s':Shared} (r:View C s.heap F v d) (x:Ext F s F' s'):View C s'.heap F' v d:=Vw.gen x.le d (fun b _ o e n=>x.keep.at_ b o e n) r
theorem Rep.ext {s s':Shared} (r:Rep C F v d) (x:Ext F s F' s'):Rep C F' v d:=r.mono x.le
theorem Vw.top (r:Vw C F d G v) {a:Addr} (ha:a∈tops G v):∃ o,G a=some o/\¬ Tab0 o:=by
 have key:∀ {b o},G b=some o->¬ Tab0 o->o.dict=none->a∈tops G (.ref b)->∃ o,G a=some o/\¬ Tab0 o:=fun {b o} e n ed ha=>by
  rw [wbk e,ed]at ha
  exact ⟨o,List.mem_singleton.mp ha ▸ e,n⟩
 cases d with
 | none=>cases r;exact memE ha
 | bool=>cases r;exact memE ha
 | int=>cases r;exact memE ha
 | str=>cases r;exact memE ha
 | list=>cases r with | mk e r=>exact key e (wab rfl) rfl ha
 | tuple=>cases r with | mk e r=>exact key e (wab rfl) rfl ha
 | dict=>cases r with | mk e x b r=>exact let ⟨_,_,x,_⟩:=b;key e (wab x.1) x.2.1 ha
 | set=>cases r with | mk e x b=>exact key e (wab b.1.1) b.1.2.1 ha
 | obj=>cases r with | mk e e' b r=>
  rw [wbk e]at ha
  rcases List.mem_cons.mp ha with rfl | ha
  ·exact ⟨_,e,wmy rfl⟩
  ·exact ⟨_,List.mem_singleton.mp ha ▸ e',let ⟨_,_,x,_⟩:=b.ns;wgf x⟩
theorem Vw.alive (r:Vw C F d G v) {a:Addr} (ha:a∈tops G v):G a≠none:=fun q=>by obtain ⟨o,e,_⟩:=r.top ha;rw [q]at e;exact noneE e
theorem Rep.fz (r:Rep C F v d):∀ b,v=.ref b->F b≠none:=fun b e=>Vw.alive r (e ▸ waJ b)
theorem wcR (r:Vw C F d G v) (k:∀ a∈tops G v,∀ o,G a=some o->G' a=some o):tops G' v=tops G v:=by
 cases v<;>try rfl
 rename_i a
 obtain ⟨o,e,_⟩:=r.top (waJ a)
 rw [wbk e,wbk (k a (waJ a) o e)]
theorem wgc (r:Vw C F d G v) (k:∀ a∈tops G v,∀ o,G a=some o->¬ Tab0 o->G' a=some o):tops G' v=tops G v:=
 wcR r fun a ha o e=>k a ha o e fun t=>by obtain ⟨o',e',n⟩:=r.top ha;rw [e]at e';exact n (Option.some.inj e' ▸ t)
theorem waU {a:Addr} {o:Obj} (e:G a=some o) (hd:o.dict=none):tops G (.ref a)=[a]:=by rw [wbk e,hd];rfl
section
variable {α:Type} {r:α} {M:Value->Prop}
theorem boolV {k:Bool->Option α} (h:boolK d k=some r) (v':Vw C F d G v) (f:∀ i,k i=some r->M (.bool i)):M v:=by
 revert v';revert h;cases d<;>intro h v<;>first | exact noneE h | (cases v;exact f _ h)
theorem intV {k:Int->Option α} (h:intK d k=some r) (v':Vw C F d G v) (f:∀ i t,k i=some r->M (.int i t)):M v:=by
 revert v';revert h;cases d<;>intro h v<;>first | exact noneE h | (cases v;exact f _ _ h)
theorem strV {k:Tx->Option α} (h:strK d k=some r) (v':Vw C F d G v) (f:∀ x t,k x=some r->M (.str (mk x) t)):M v:=by
 revert v';revert h;cases d<;>intro h v<;>first | exact noneE h | (cases v;exact f _ _ h)
theorem listV {k:List D->Option α} (h:listK d k=some r) (v':Vw C F d G v) (f:∀ xs a vs n,G a=some { cls:=.type "list",data:=.seq vs n }->RepAll C F xs vs.toList->k xs=some r->M (.ref a)):M v:=by
 revert v';revert h;cases d<;>intro h v<;>first | exact noneE h | (cases v with | mk e q=>exact f _ _ _ _ e q h)
theorem tupV {k:List D->Option α} (h:tupK d k=some r) (v':Vw C F d G v) (f:∀ xs a vs n,G a=some { cls:=.type "tuple",data:=.seq vs n }->RepAll C F xs vs.toList->k xs=some r->M (.ref a)):M v:=by
 revert v';revert h;cases d<;>intro h v<;>first | exact noneE h | (cases v with | mk e q=>exact f _ _ _ _ e q h)
theorem dictV {k:List (Key×D)->Option α} (h:dictK d k=some r) (v':Vw C F d G v) (f:∀ kvs a o es,G a=some o->(a==sysModules)=false->o.IsDictOf (anyKind C.prog C.w) es->RepKV C F kvs es->k kvs=some r->M (.ref a)):M v:=by
 revert v';revert h;cases d<;>intro h v<;>first | exact noneE h | (cases v with | mk e x y q=>exact f _ _ _ _ e x y q h)
end
theorem RepAll.length:∀ {ds:List D} {vs:List Value},RepAll C F ds vs->vs.length=ds.length:=by
 intro ds
 induction ds with
 | nil=>intro vs r;exact congrArg List.length r
 | cons d ds ih=>intro vs r;cases r with | mk a b=>exact congrArg Nat.succ (ih b)
theorem RepAll.size {ds:List D} {vs:Array Value} (r:RepAll C F ds vs.toList):vs.size=ds.length:=r.length
theorem RepAll.get {ds:List D} {vs:List Value} (r:RepAll C F ds vs) {i:Nat} {d:D} (e:ds[i]?=some d):∃ v,vs[i]?=some v/\Rep C F v d:=by
 induction ds generalizing vs i with
 | nil=>exact noneE e
 | cons x ds ih=>cases r with | mk a b=>
  cases i with
  | zero=>exact ⟨_,rfl,Option.some.inj e ▸ a⟩
  | succ i=>exact ih b e
theorem RepAll.get' {ds:List D} {vs:List Value} (r:RepAll C F ds vs) {i:Nat} {v:Value} (e:vs[i]?=some v):∃ d,ds[i]?=some d/\Rep C F v d:=by
 induction ds generalizing vs i with
 | nil=>cases r;exact noneE e
 | cons x ds ih=>cases r with | mk a b=>
  cases i with
  | zero=>exact ⟨_,rfl,Option.some.inj e ▸ a⟩
  | succ i=>exact ih b e
theorem RepAll.append {vs us:List Value} {ds es:List D} (r:RepAll C F ds vs) (r':RepAll C F es us):RepAll C F (ds++es) (vs++us):=by
 induction ds generalizing vs with
 | nil=>cases r;exact r'
 | cons d ds ih=>cases r with | mk a b=>exact .mk a (ih b)
theorem RepAll.take {vs:List Value} {ds:List D} (r:RepAll C F ds vs) (n:Nat):RepAll C F (ds.take n) (vs.take n):=by
 induction ds generalizing vs n with
 | nil=>cases r;cases n<;>exact rfl
 | cons d ds ih=>cases r with | mk a b=>cases n with
  | zero=>exact rfl
  | succ n=>exact .mk a (ih b n)
theorem RepAll.drop {vs:List Value} {ds:List D} (r:RepAll C F ds vs) (n:Nat):RepAll C F (ds.drop n) (vs.drop n):=by
 induction ds generalizing vs n with
 | nil=>cases r;cases n<;>exact rfl
 | cons d ds ih=>cases r with | mk a b=>cases n with
  | zero=>exact .mk a b
  | succ n=>exact ih b n
theorem RepAll.set {vs:List Value} {ds:List D} {v:Value} {d:D} (r:RepAll C F ds vs) (x:Rep C F v d) (n:Nat):RepAll C F (ds.set n d) (vs.set n v):=by
 induction ds generalizing vs n with
 | nil=>cases r;exact rfl
 | cons d ds ih=>cases r with | mk a b=>cases n with
  | zero=>exact .mk x b
  | succ n=>exact .mk a (ih b n)
theorem RepAll.one (x:Rep C F v d):RepAll C F [d] [v]:=.mk x rfl
theorem RepAll.replicate (x:Rep C F v d) (n:Nat):RepAll C F (List.replicate n d) (List.replicate n v):=by
 induction n with
 | zero=>exact rfl
 | succ n ih=>exact .mk x ih
theorem wbR {a:Addr} {vs:Array Value} (x:h.PlainList a vs) (k:KeepT h h'):h'.PlainList a vs:=let ⟨n,e⟩:=x;⟨n,k.at_ _ _ e (wab rfl)⟩
theorem wrv {a:Addr} {m:Str->Option Value} (x:h.Ns a m) (k:KeepT h h'):h'.Ns a m:=let ⟨o,es,ep,e,hd,r⟩:=x;⟨o,es,ep,k.at_ _ _ e (wgf hd),hd,r⟩
theorem wod {a:Addr} {m:Option Value} (x:h.IsCell a m) (k:KeepT h h'):h'.IsCell a m:=let ⟨o,e,hd⟩:=x;⟨o,k.at_ _ _ e (wqv hd),hd⟩
theorem wce {a:Addr} {es:List (Key×Value)} (x:h.DictOf (anyKind C.prog C.w) a es) (k:KeepT h h'):h'.DictOf (anyKind C.prog C.w) a es:=
 let ⟨o,e,hd⟩:=Heap.dictOf_iff.mp x
 Heap.dictOf_iff.mpr ⟨o,k.at_ _ _ e (let ⟨_,_,x,_⟩:=hd;wab x.1),hd⟩
end
structure Room (A:Around) (n:Nat):Prop where
 handled:A.handled=none
 depth:A.depth+2 * n+10<recursionLimit
 units:A.units+16 * n+200<cLine
theorem Room.mono {A:Around} {n m:Nat} (x:Room A n) (h:m<=n):Room A m:=⟨x.handled,by have:=x.depth;omega,by have:=x.units;omega⟩
section
variable {C:Fr} {F:FH} {A:Around} {E:Value->Shared->Prop} {s:Shared} {Q:Value->Shared->Prop} {d:D}
noncomputable abbrev Cont (C:Fr) (F:FH) (s:Shared) (d:D) (Q:Value->Shared->Prop):Prop:=
 ∀ v s' F',Ext F s F' s'->Rep C F' v d->Q v s'
theorem Cont.of {d':D} (k:Cont C F s d Q) (e:some d'=some d):Cont C F s d' Q:=Option.some.inj e ▸ k
theorem Cont.ext {s:Shared} {F':FH} {s':Shared} (k:Cont C F s d Q) (x:Ext F s F' s'):Cont C F' s' d Q:=fun v s' F'' y r=>k v s' F'' (x.trans y) r
theorem Cont.here (k:Cont C F s d Q) (hF:F.In s.heap) {v:Value} {s':Shared} (e:s'.heap=s.heap) (r:Rep C F v d) (c:Calm s s':=by first | exact ⟨rfl,fun x=>x⟩ | assumption):Q v s':=
 k v s' F (Ext.same hF (by rw [e];exact Keep.refl _) c) r
theorem Cont.push (k:Cont C F s d Q) (hF:F.In s.heap) {o:Obj} {s':Shared} (e:s'.heap=s.heap.push o) (hfr:o.isFreed=false) (r:Rep C (F.put s.heap.objs.size o) (.ref s.heap.objs.size) d) (c:Calm s s':=by first | exact ⟨rfl,fun x=>x⟩ | assumption):Q (.ref s.heap.objs.size) s':=by
 refine k _ s' _ ?_ r
 refine Ext.put hF (by rw [e];exact Keep.push _ _) (get?_size _) (by rw [e];exact Heap.get?_push_size _ hfr) c
theorem RepAll.new {ty:String} {ds:List D} {vs:Array Value} {n:Nat} {a:Addr} (r:RepAll C F ds vs.toList) (le:F.le (F.put a { cls:=.type ty,data:=.seq vs n })):VL ty (RepAll C (F.put a { cls:=.type ty,data:=.seq vs n }) ds) (F.put a { cls:=.type ty,data:=.seq vs n }) (.ref a):=.mk (FH.put_self _ _ _) (RepAll.mono le ds r)
theorem wih {a b:Array Value} {xs ys:List D} (r:RepAll C F xs a.toList) (r':RepAll C F ys b.toList):RepAll C F (xs++ys) (a++b).toList:=by rw [Array.toList_append];exact r.append r'
theorem wgB {a:Int} (h:a.natAbs<2 ^ 60):Builtin.Int.intBits a<=64:=PySem.intBits_le_64 (by omega) (by omega)
theorem ws2 {a b:Int} (h0:0<=b) (h1:b<=64) (h:a.natAbs<2 ^ 32):(Builtin.Int.intBits a:Int) * b<=2 ^ 27:=by
 have h':Builtin.Int.intBits a<=64:=wgB (by omega)
 have:(Builtin.Int.intBits a:Int) * b<=64 * 64:=Int.mul_le_mul (by omega) h1 h0 (by omega)
 omega
theorem wiS {α:Type} (d:α):∀ n,(List.replicate n [d]).flatten=List.replicate n d
 | 0=>rfl
 | n+1=>by rw [List.replicate_succ,List.flatten_cons,wiS d n,List.replicate_succ];rfl
theorem wg9 {α:Type} (x:Array α):∀ (n:Nat) (acc:Array α),List.foldl (fun a b=>a++b) acc (List.replicate n x)=(acc.toList++(List.replicate n x.toList).flatten).toArray
 | 0,acc=>by simp
 | n+1,acc=>by rw [List.replicate_succ,List.foldl_cons,wg9 x n,List.replicate_succ];simp
theorem wb4 (x:Tx):(mk x).length=x.length:=by show x.toArray.size=_;rw [List.size_toArray]
theorem wuQ {c:Nat} {n:Int}:PySem.Txt.mul (mk [c]) n=mk (List.replicate n.toNat c):=by
 unfold PySem.Txt.mul
 by_cases h:n<1
 ·rw [if_pos h,show n.toNat=0 by omega];rfl
 ·rw [if_neg h]
  by_cases h1:n=1
  ·subst h1;rfl
  ·rw [if_neg (by simp [h1,Str.length])]
   rw [wg9];simp
theorem woA {c:Nat} {n:Int} (h0:0<=n) (h:n<10000):MulOk (mk [c]) n:=by
 have hl:(mk [c]).length=1:=rfl
 refine ⟨by simp;omega,fun h1 _=>?_,fun _ _=>?_⟩
 ·rw [hl]
  have:(1:Int)<=(2 ^ 63 - 1) / n:=Int.le_ediv_of_mul_le (by omega) (by omega)
  omega
 ·rw [hl];simp [Builtin.Str.tooLong,sizeLine];omega
theorem postIf {c:Prop} [i:Decidable c] {x y:Made} (h:c->x.post Q s) (h':¬ c->y.post Q s):(if c then x else y).post Q s:=by
 cases i with
 | isTrue q=>exact h q
 | isFalse q=>exact h' q
theorem wrE {x:Tx} (h:((mk x).length==0)=true):x=[]:=List.eq_nil_of_length_eq_zero (wb4 x ▸ eq_of_beq h)
theorem wv5 (x y:Tx):mk x++mk y=mk (x++y):=by show Str.append _ _=_;simp [Str.append]
theorem waA {n:Nat} (h:n<=cap):n<=sizeLine:=Nat.le_trans h (by decide)
theorem wkY {x y:Tx} {t u:Tok} (hz:x.length+y.length<=cap) (hF:F.In s.heap) (k:Cont C F s (.str (x++y)) Q) :
  (if (mk x).length==0 then Made.val (.str (mk y) u) else if (mk y).length==0 then Made.val (.str (mk x) t) else Made.str (mk x++mk y)).post Q s:=
 postIf (fun q=>k.here hF rfl (by rw [wrE q];exact .mk _)) fun _=>postIf (fun q=>k.here hF rfl (by rw [wrE q,List.append_nil];exact .mk _)) fun _=>by
  rw [wv5]
  exact ⟨by rw [wb4,List.length_append];exact waA hz,k.here hF rfl (.mk _)⟩
theorem woz {l:Addr} {items:Array Value} {n:Nat} {x:Int} {u:Tok} (hl:s.heap.get? l=some { cls:=.type "list",data:=.seq items n })
  (hlo:-(2 ^ 63:Int)<=x) (hhi:x<2 ^ 63) (hsz:items.size * x.toNat<=2 ^ 24)
  (h:Q (.ref s.heap.objs.size) { s with heap:=s.heap.push { cls:=.type "list",data:=.seq (List.foldl (fun x1 x2=>x1++x2) #[] (List.replicate (if items.isEmpty=true then 0 else x.toNat) items)) } }) :
  wpAny (model C.prog C.w) A (binaryOp .Mult (.ref l) (.int x u)) Q E s:=
 wpAny_binaryOp_repeat_ref (T:="list") (U:="int") (by decide) ⟨_,hl,rfl⟩ (fun s'=>typeIs_int s' x u) noFill_list_mul F.fills_int_mul F.slot_int_rmul repeat_list F.slot_int_index.lookup
  (call_meets F.slot_int_rmul (typeIs_int s x u) F.entry_int_rmul (F.args_int_rmul_2 _ _) (int___rmul___int_list x u l items n)
   ⟨hl,rfl,⟨_,hl,rfl⟩,call_meets F.slot_list_mul ⟨_,hl,rfl⟩ F.entry_list_mul (F.args_list_mul_2 _ _)
    (AutoListH.list___mul___list_int_3 l items n x u (by simp [Builtin.List.listFitsIndex];omega) (by omega) (by simp [Builtin.List.listTooLong,sizeLine];omega))
    ⟨hl,h⟩⟩)
theorem wnm {vs:Array Value} {n:Nat} (e:vs.size=n) (h:n≠0):¬ vs.isEmpty=true:=fun q=>h (by rw [<- e];simpa using q)
theorem wnl {vs us:Array Value} {n m:Nat} (e:vs.size=n) (e':us.size=m) (h:n+m<=cap):vs.size+us.size<=sizeLine:=by rw [e,e'];exact waA h
theorem wvD {a b:Value} {da db:D} (e:addD da db=some d) (va:View C s.heap F a da) (vb:View C s.heap F b db) (hF:F.In s.heap)
  (k:Cont C F s d Q):wpAny (model C.prog C.w) A (binaryOp .Add a b) Q E s:=by
 cases da with
 | int x=>cases va;apply intV e vb;intro y t e;exact P.add_int ((k.of e).here hF rfl (.mk _))
 | str x=>cases va;apply strV e vb;intro y t e;exact ifE e fun hz e=>P.add_str (wkY hz hF (k.of e))
 | list x=>cases va with | mk hl r=>
  apply listV e vb;intro y a' vs n hl' r' e;exact ifE e fun hz e=>P.add_list hl hl' ((k.of e).push hF rfl rfl ((wih r r').new (wbB hF))) (wnl r.size r'.size hz)
 | tuple x=>cases va with | mk hl r=>
  apply tupV e vb;intro y a' vs n hl' r' e;exact ifE e fun hz e=>P.add_tuple hl hl' (wnm r.size hz.2.1) (wnm r'.size hz.2.2) ((k.of e).push hF rfl rfl ((wih r r').new (wbB hF))) (wnl r.size r'.size hz.1)
 | none=>exact noneE e
 | bool=>exact noneE e
 | dict=>exact noneE e
 | obj=>exact noneE e
 | set=>exact noneE e
theorem wuR {a b:Value} {da db:D} (e:mulD da db=some d) (va:View C s.heap F a da) (vb:View C s.heap F b db) (hF:F.In s.heap)
  (k:Cont C F s d Q):wpAny (model C.prog C.w) A (binaryOp .Mult a b) Q E s:=by
 cases da with
 | int x=>cases va;apply intV e vb;intro y t e;exact ifE e fun hz e=>P.mul_int ((k.of e).here hF rfl (.mk _)) (IntMulOk.of_left (wgB hz))
 | str x=>cases va;apply intV e vb;intro y t e;refine ifE e fun hz e=>?_;obtain ⟨h1,h2,h3⟩:=hz;obtain ⟨c,rfl⟩:=List.length_eq_one_iff.mp h1;exact SB.mul (woA h2 h3) fun t' tk=>by rw [wuQ];exact (k.of e).here hF rfl (.mk _)
 | list x=>cases va with | @mk l vs n hl r=>
  apply intV e vb;intro y t e;refine ifE e fun hz e=>?_
  obtain ⟨h1,h2,h3⟩:=hz
  obtain ⟨c,rfl⟩:=List.length_eq_one_iff.mp h1
  obtain ⟨vs⟩:=vs
  cases r with | mk r r0=>
  cases r0
  refine woz hl (by omega) (by omega) (by show 1 * _<=_;omega) ((k.of e).push hF rfl rfl (.mk (FH.put_self _ _ _) ?_))
  rw [if_neg (by simp),wg9]
  simp only [List.nil_append,wiS]
  exact RepAll.mono (wbB hF) _ (RepAll.replicate r _)
 | none=>exact noneE e
 | bool=>exact noneE e
 | dict=>exact noneE e
 | obj=>exact noneE e
 | set=>exact noneE e
 | tuple=>exact noneE e
theorem wd2 {α:Type} {M:Value->Value->Prop} {G:FH} {r:α} {da db:D} {a b:Value} {k:Int->Int->Option α} (h:wdQ da db k=some r) (va:Vw C F da G a) (vb:Vw C F db G b) (f:∀ x t y u,k x y=some r->M (.int x t) (.int y u)):M a b:=
 intV (M:=fun a=>M a b) h va fun x t h=>intV h vb fun y u h=>f x t y u h
theorem wtS {op:Operator} {a b:Value} {da db:D} (e:binop op da db=some d) (va:View C s.heap F a da) (vb:View C s.heap F b db) (hF:F.In s.heap)
  (k:Cont C F s d Q):wpAny (model C.prog C.w) A (binaryOp op a b) Q E s:=by
 cases op<;>first | exact noneE e | skip
 ·exact wvD e va vb hF k
 ·apply wd2 e va vb;intro x t y u e;exact P.sub_int ((k.of e).here hF rfl (.mk _))
 ·exact wuR e va vb hF k
 ·apply wd2 e va vb;intro x t y u e;exact ifE e fun hz e=>PyProof.Rows.mod_int' hz ((k.of e).here hF rfl (.mk _))
 ·apply wd2 e va vb;intro x t y u e;exact ifE e fun hz e=>PyProof.Rows.pow_int hz.1 (ws2 hz.1 hz.2.1 hz.2.2) ((k.of e).here hF rfl (.mk _))
 ·apply wd2 e va vb;intro x t y u e;exact ifE e fun hz e=>PyProof.Rows.floordiv_int hz.1 ((k.of e).here hF rfl (.mk _)) (.inl (PyProof.noPylong_small (by omega)))
theorem wqf {a b:Value} {da db:D} (e:addI da db=some d) (ra:Rep C F a da) (rb:Rep C F b db) (hF:F.In s.heap)
  (k:Cont C F s d Q):wpAny (model C.prog C.w) A (inplaceOp .Add a b) Q E s:=by
 cases da<;>first | exact noneE e | skip
 ·cases ra;apply intV e rb;intro y t e;exact P.iadd_int ((k.of e).here hF rfl (.mk _))
 ·cases ra;apply strV e rb;intro y t e;exact ifE e fun hz e=>P.iadd_str (wkY hz hF (k.of e))
theorem wui {op:UnaryOp} {a:Value} {da:D} (e:unop op da=some d) (va:View C s.heap F a da) (hF:F.In s.heap)
  (k:Cont C F s d Q):wpAny (model C.prog C.w) A (unaryOp op a) Q E s:=by
 cases op<;>first | exact noneE e | skip
 ·apply boolV e va;intro x e;exact PyProof.Rows.not_of (wpAny_truthy_bool ((k.of e).here hF rfl rfl))
 ·apply intV e va;intro x t e;exact P.neg_int ((k.of e).here hF rfl (.mk _))
end
section
variable {C:Fr} {F G:FH} {h:Heap}
mutual
theorem Vw.reads (hF:F.In h):∀ (d:D) {G:FH} {v:Value} {p:PyData},G.In h->toPy d=some p->Vw C F d G v->∃ as,Reads h v p as
 | .none,_,_,_,_,e,.refl _=>someE e fun e=>e ▸ ⟨_,.none⟩
 | .bool b,_,_,_,_,e,.refl _=>someE e fun e=>e ▸ ⟨_,.bool _⟩
 | .int b,_,_,_,_,e,.mk _=>someE e fun e=>e ▸ ⟨_,.int _ _⟩
 | .str b,_,_,_,_,e,.mk _=>someE e fun e=>e ▸ ⟨_,.str _ _⟩
 | .list xs,_,_,_,hG,e,.mk ho r=>mapE e fun ps e1 e=>let ⟨as,q⟩:=RepAll.reads hF xs e1 r;e ▸ ⟨_,.list (hG _ _ ho) rfl rfl q⟩
 | .tuple xs,_,_,_,hG,e,.mk ho r=>mapE e fun ps e1 e=>let ⟨as,q⟩:=RepAll.reads hF xs e1 r;e ▸ ⟨_,.tuple (hG _ _ ho) rfl rfl q⟩
 | .dict _,_,_,_,_,e,_=>noneE e
 | .obj _ _,_,_,_,_,e,_=>noneE e
 | .set _,_,_,_,_,e,_=>noneE e
theorem RepAll.reads (hF:F.In h):∀ (ds:List D) {vs:List Value} {ps:List PyData},toPys ds=some ps->RepAll C F ds vs->∃ as,ReadsAll h vs ps as
 | [],_,_,e,.refl _=>someE e fun e=>e ▸ ⟨_,.nil⟩
 | d::ds,_,_,e,.mk r1 r2=>bindE e fun p e1 e=>mapE e fun ps e2 e=>let ⟨as,q1⟩:=Vw.reads hF d hF e1 r1;let ⟨bs,q2⟩:=RepAll.reads hF ds e2 r2;e ▸ ⟨_,.cons q1 q2⟩
end
theorem RepKV.keys:∀ {kvs:List (Key×D)} {es:List (Key×Value)},RepKV C F kvs es->es.map (·.1)=kvs.map (·.1):=by
 intro kvs
 induction kvs with
 | nil=>intro es r;cases r;rfl
 | cons x l ih=>intro es r;cases r with | mk a b=>rw [List.map_cons,List.map_cons,a.1,ih b]
theorem RepKV.length {es:List (Key×Value)} {kvs:List (Key×D)} (r:RepKV C F kvs es):es.length=kvs.length:=by
 have:=congrArg List.length r.keys;rwa [List.length_map,List.length_map]at this
theorem wnc {k a:Key} {v:Value} {l:List (Key×Value)}:valueAt ((a,v)::l) k=if a=k then some v else valueAt l k:=by
 unfold valueAt
 by_cases q:a=k<;>simp [q]
theorem RepKV.get {es:List (Key×Value)} {kvs:List (Key×D)} (r:RepKV C F kvs es) (k:Key) :
  (kget k kvs=none/\valueAt es k=none)\/∃ d v,kget k kvs=some d/\valueAt es k=some v/\Rep C F v d:=by
 induction kvs generalizing es with
 | nil=>cases r;exact .inl ⟨rfl,rfl⟩
 | cons x l ih=>
  obtain ⟨k',d'⟩:=x
  cases r with | @mk p vs a b=>
  obtain ⟨pk,pv⟩:=p
  obtain ⟨e0,a⟩:=a
  have e0:pk=k':=e0
  rw [wnc]
  simp only [kget]
  rw [<- e0]
  by_cases q:pk=k
  ·rw [if_pos q,if_pos q];exact .inr ⟨_,_,rfl,rfl,a⟩
  ·rw [if_neg q,if_neg q];exact ih b
theorem toKeyE {P:Prop} {d:D} {k:Key} (e:toKey d=some k) (f:∀ i,d=.int i->k=.i i->P) (g:∀ x,d=.str x->k=.s x->P):P:=by
 cases d with
 | int i=>exact f i rfl (Option.some.inj e).symm
 | str x=>exact g x rfl (Option.some.inj e).symm
 | none=>exact noneE e
 | bool=>exact noneE e
 | list=>exact noneE e
 | tuple=>exact noneE e
 | dict=>exact noneE e
 | obj=>exact noneE e
 | set=>exact noneE e
theorem wcD {d:D} {k:Key} {v:Value} (e:toKey d=some k) (r:Vw C F d G v):(anyKind C.prog C.w).is k v=true:=by
 refine toKeyE e (fun i a b=>?_) fun x a b=>?_<;>subst a<;>subst b<;>cases r
 ·exact beq_self_eq_true i
 ·exact beq_self_eq_true (mk x)
end
section
variable {C:Fr} {F G:FH} {A:Around} {E:Value->Shared->Prop} {s:Shared} {Q:Value->Shared->Prop} {d:D}
theorem wwN {da db:D} {a b:Value} {r:Bool} (e:eqP da db=some r) (ra:Rep C F a da) (rb:Rep C F b db) (hF:F.In s.heap) (hu:A.in1.units+64<cLine) :
  SeqAt.EqAt A.in1 s a b r:=bindE e fun p e1 e=>bindE e fun q e2 e=>ifE e fun hs e=>by
 obtain ⟨as,x1⟩:=ra.reads hF _ hF e1
 obtain ⟨bs,x2⟩:=rb.reads hF _ hF e2
 rw [Bool.and_eq_true]at hs
 exact Option.some.inj e ▸ keq_at x1 x2 hs.1 hs.2 hu
theorem wu9 {eb:List (Key×Value)} {kb:List (Key×D)} (rb:RepKV C F kb eb) (hF:F.In s.heap) (hu:A.in1.units+64<cLine)
  (ka:List (Key×D)) {ea:List (Key×Value)} {r:Bool} (e:hits kb ka=some r) (ra:RepKV C F ka ea):KeqHits A.in1 s eb ea r:=by
 induction ka generalizing ea r with
 | nil=>cases ra;cases e;exact .nil
 | cons x l ih=>
  obtain ⟨k',d'⟩:=x
  cases ra with | @mk p vs a r2=>
  obtain ⟨k,v⟩:=p
  obtain ⟨e0,r1⟩:=a
  have e0:k=k':=e0
  subst e0
  simp only [hits]at e
  rcases rb.get k with ⟨e1,e2⟩ | ⟨y,v,e1,e2,e3⟩
  ·rw [e1]at e;cases e;exact .miss e2
  ·rw [e1]at e
   exact bindE e fun x h1 e=>mapE e fun b h2 e=>e ▸ .hit e2 (wwN h1 r1 e3 hF hu) (ih h2 r2)
theorem wr5 {P:Prop} {a b:Value} {da db:D} {r:Bool} (e:eqD da db=some r) (va:View C s.heap F a da) (vb:View C s.heap F b db) (hF:F.In s.heap) (hu:A.units+100<cLine)
  (dct:∀ x y es es',a=.ref x->b=.ref y->(x==sysModules)=false->(y==sysModules)=false->s.heap.DictOf (anyKind C.prog C.w) x es->s.heap.DictOf (anyKind C.prog C.w) y es'->(∃ r',(es.length=es'.length->KeqHits A.in1 s es' es r')/\(es.length==es'.length&&r')=r)->es.length+es'.length<2 ^ 60\/True->P)
  (red:∀ p q as bs,Reads s.heap a p as->Reads s.heap b q bs->SeqAt.shaped p=true->SeqAt.shaped q=true->PyData.eqv p q=r->P):P:=by
 have gen:eqP da db=some r->P:=fun e=>bindE e fun p e1 e=>bindE e fun q e2 e=>ifE e fun hs e=>by
  obtain ⟨as,x1⟩:=va.reads hF _ (fun _ _ e=>e) e1
  obtain ⟨bs,x2⟩:=vb.reads hF _ (fun _ _ e=>e) e2
  rw [Bool.and_eq_true]at hs
  exact red p q as bs x1 x2 hs.1 hs.2 (Option.some.inj e)
 cases da<;>first | exact gen e | skip
 rename_i ka
 cases va with | mk ex hx dx rx=>
 refine dictE e fun kb eb e=>?_
 subst eb
 cases vb with | mk ey hy dy ry=>
 have h1:=rx.length;have h2:=ry.length
 refine dct _ _ _ _ rfl rfl hx hy (Heap.dictOf_iff.mpr ⟨_,ex,dx⟩) (Heap.dictOf_iff.mpr ⟨_,ey,dy⟩) ?_ (.inr trivial)
 refine iteE e (fun hl e=>⟨r,fun _=>wu9 ry hF (by simp;omega) _ e rx,by rw [h1,h2,hl,beq_self_eq_true,Bool.true_and]⟩) fun hl e=>⟨false,fun q=>absurd (by omega) hl,?_⟩
 rw [Bool.and_false];exact Option.some.inj e
theorem wx0 {a b:Value} {da db:D} {r:Bool} (e:eqD da db=some r) (va:View C s.heap F a da) (vb:View C s.heap F b db) (hF:F.In s.heap)
  (hu:A.units+100<cLine) (k:Q (.bool r) s):wpAny (model C.prog C.w) A (compareOp .Eq a b) Q E s:=
 wr5 e va vb hF hu (fun x y es es' ea eb hx hy dx dy ⟨r',hh,er⟩ _=>by subst ea;subst eb;subst er;exact keq_eq hx hy dx dy (by omega) hh k)
  fun p q as bs x1 x2 h1 h2 er=>by subst er;exact SeqAt.compareEq_shaped x1 x2 h1 h2 (by omega) k
theorem wxw {a b:Value} {da db:D} {r:Bool} (e:eqD da db=some r) (va:View C s.heap F a da) (vb:View C s.heap F b db) (hF:F.In s.heap)
  (hu:A.units+100<cLine) (k:Q (.bool (!r)) s):wpAny (model C.prog C.w) A (compareOp .NotEq a b) Q E s:=
 wr5 e va vb hF hu (fun x y es es' ea eb hx hy dx dy ⟨r',hh,er⟩ _=>by subst ea;subst eb;subst er;exact keq_ne hx hy dx dy (by omega) hh k)
  fun p q as bs x1 x2 h1 h2 er=>by subst er;exact SeqAt.compareNe_shaped x1 x2 h1 h2 (by omega) k
noncomputable def valEq:Value->Value->Bool
 | .int a _,.int b _=>a==b
 | .str a _,.str b _=>a==b
 | _,_=>false
theorem wrF (a b:Tx):(mk a==mk b)=decide (a=b):=by
 by_cases h:a=b
 ·subst h;rw [beq_self_eq_true,decide_eq_true rfl]
 ·rw [decide_eq_false h,beq_eq_false_iff_ne];exact fun e=>h (wkv e)
theorem eqSV {M:Value->Value->Prop} {y x:D} {vy vx:Value} {r:Bool} {G':FH} (e:eqS y x=some r) (ry:Vw C F y G vy) (rx:Vw C F x G' vx) (f:∀ i t j u,decide (i=j)=r->M (.int i t) (.int j u)) (g:∀ i t j u,decide (i=j)=r->M (.str (mk i) t) (.str (mk j) u)):M vy vx:=by
 cases y<;>first | exact noneE e | skip
 ·cases ry;apply intV e rx;intro j u e;exact f _ _ j u (Option.some.inj e)
 ·cases ry;apply strV e rx;intro j u e;exact g _ _ j u (Option.some.inj e)
theorem wn4 {y x:D} {vy vx:Value} {r:Bool} (e:eqS y x=some r) (ry:Rep C F vy y) (rx:Rep C F vx x):valEq vy vx=r/\SeqAt.EqAt A s vy vx r:=by
 apply eqSV e ry rx
 ·intro i t j u q;exact ⟨q,fun prog w E Q hq=>wpAny_eqBool_int (by rw [show (i==j)=r from q];exact hq)⟩
 ·intro i t j u q;exact ⟨(wrF i j).trans q,fun prog w E Q hq=>wpAny_eqBool_str (by rw [show decide (mk i=mk j)=r from (wrF i j).trans q];exact hq)⟩
end
section
variable {C:Fr} {F G:FH} {A:Around} {E:Value->Shared->Prop} {s:Shared} {Q:Value->Shared->Prop} {d:D}
theorem wuT {x:D} {vx:Value} (rx:Rep C F vx x) (ys:List D) {vs:List Value} {r:Bool} (e:memP x ys=some r) (rs:RepAll C F ys vs) :
  (vs.any fun v=>valEq v vx)=r/\∀ v∈vs,SeqAt.EqAt A s v vx (valEq v vx):=by
 induction ys generalizing vs r with
 | nil=>cases rs;cases e;exact ⟨rfl,fun v h=>memE h⟩
 | cons y ys ih=>cases rs with | mk r1 r2=>
  refine bindE e fun b e1 e=>mapE e fun c e2 e=>?_
  subst e
  have h1:=wn4 (A:=A) (s:=s) e1 r1 rx
  have h2:=ih e2 r2
  refine ⟨by rw [List.any_cons,h1.1,h2.1],fun v hv=>?_⟩
  rcases List.mem_cons.mp hv with rfl | hv
  ·rw [h1.1];exact h1.2
  ·exact h2.2 v hv
inductive InF (C:Fr) (A:Around) (s:Shared) (a b:Value) (r:Bool):Prop
 | dict {k:Key} {d:Addr} {f:Key->Option Value}:b=.ref d->(anyKind C.prog C.w).is k a=true->(d==sysModules)=false->s.heap.MapOf (anyKind C.prog C.w) d f->(f k).isSome=r->InF C A s a b r
 | set {i:Int} {d:Addr} {S:Int->Bool} {n:Nat}:b=.ref d->(intKind C.prog C.w).is i a=true->a.scannable=true->s.heap.SetOf (intKind C.prog C.w) d S n->S i=r->InF C A s a b r
 | list {d:Addr} {vs:Array Value}:b=.ref d->s.heap.IsList d vs->(∀ y,y∈vs->SeqAt.EqAt A.in1 s y a (valEq y a))->(vs.any fun v=>valEq v a)=r->InF C A s a b r
 | tuple {d:Addr} {vs:Array Value}:b=.ref d->s.heap.IsTuple d vs->(∀ y,y∈vs->SeqAt.EqAt A.in1 s y a (valEq y a))->(vs.any fun v=>valEq v a)=r->InF C A s a b r
theorem wmz {x:D} {ys:List D} {a:Value} {r:Bool} {vs:Array Value} (e:memP x ys=some r) (va:View C s.heap F a x) (rl:RepAll C F ys vs.toList) :
  (∀ y,y∈vs->SeqAt.EqAt A.in1 s y a (valEq y a))/\(vs.any fun v=>valEq v a)=r:=by
 obtain ⟨vs⟩:=vs
 cases ys with
 | nil=>cases rl;cases e;exact ⟨fun y hy=>by simp at hy,by simp⟩
 | cons y ys=>
  have rx:Rep C F a x:=bindE (show (eqS y x).bind _=some r from e) fun b e1 _=>by
   cases y<;>first | exact noneE e1 | skip
   ·exact intE e1 fun i q _=>by subst q;exact va
   ·exact strE e1 fun i q _=>by subst q;exact va
  have h:=wuT (A:=A.in1) (s:=s) rx _ e rl
  exact ⟨fun y hy=>h.2 y (Array.mem_toList_iff.mpr hy),by rw [<- Array.any_toList];exact h.1⟩
theorem waD {h:Heap} {a:Addr} {vs:Array Value} {n:Nat} (e:h.get? a=some { cls:=.type "list",data:=.seq vs n }):h.PlainList a vs:=⟨n,e⟩
theorem weB {h:Heap} {a:Addr} {vs:Array Value} {n:Nat} (e:h.get? a=some { cls:=.type "tuple",data:=.seq vs n }):h.IsTuple a vs:=⟨_,e,rfl,_,rfl⟩
theorem wnP {a b:Value} {da db:D} {r:Bool} (e:inD da db=some r) (va:View C s.heap F a da) (vb:View C s.heap F b db):InF C A s a b r:=by
 cases db<;>first | exact noneE e | skip
 ·cases vb with | mk e2 q=>exact let h:=wmz (A:=A) e va q;.list rfl (waD e2).isList h.1 h.2
 ·cases vb with | mk e2 q=>exact let h:=wmz (A:=A) e va q;.tuple rfl (weB e2) h.1 h.2
 ·cases vb with | mk e2 hy dy ry=>
  refine mapE e fun kk e1 e=>.dict rfl (wcD e1 va) hy (Heap.dictOf_iff.mpr ⟨_,e2,dy⟩).mapOf (e ▸ ?_)
  unfold khas
  rcases ry.get kk with ⟨h1,h2⟩ | ⟨_,_,h1,h2,_⟩<;>rw [h1,h2]<;>rfl
 ·cases vb with | mk h1 h2 h3=>
  apply intV e va;intro i t e
  exact .set rfl (intKind_is C.prog C.w _ _) rfl (h3.setOf h1 h2) (Option.some.inj e)
theorem wxM {a b:Value} {da db:D} {r:Bool} (e:inD da db=some r) (va:View C s.heap F a da) (vb:View C s.heap F b db)
  (k:∀ s':Shared,s'.heap=s.heap->Calm s s'->Q (.bool r) s'):wpAny (model C.prog C.w) A (compareOp .In a b) Q E s:=by
 cases wnP (A:=A) e va vb with
 | dict e1 h1 h2 h3 h4=>subst e1;exact wpAny_in_of h1 h2 h3 (h4 ▸ k _ rfl ⟨rfl,fun x=>x⟩)
 | set e1 h1 h2 h3 h4=>subst e1;exact wpAny_inSet_of h1 h2 h3 (h4 ▸ k _ rfl ⟨rfl,fun x=>x⟩)
 | list e1 h1 h2 h3=>subst e1;exact SeqAt.in_listAt (fun v=>valEq v a) h1 h2 (h3 ▸ k _ rfl ⟨rfl,fun x=>x⟩)
 | tuple e1 h1 h2 h3=>subst e1;exact SeqAt.in_tupleAt (fun v=>valEq v a) h1 h2 (h3 ▸ k _ rfl ⟨rfl,fun x=>x⟩)
theorem ws6 {a b:Value} {da db:D} {r:Bool} (e:inD da db=some r) (va:View C s.heap F a da) (vb:View C s.heap F b db)
  (k:∀ s':Shared,s'.heap=s.heap->Calm s s'->Q (.bool (!r)) s'):wpAny (model C.prog C.w) A (compareOp .NotIn a b) Q E s:=by
 cases wnP (A:=A) e va vb with
 | dict e1 h1 h2 h3 h4=>subst e1;exact wpAny_notIn_of h1 h2 h3 (h4 ▸ k _ rfl ⟨rfl,fun x=>x⟩)
 | set e1 h1 h2 h3 h4=>subst e1;exact wpAny_notInSet_of h1 h2 h3 (h4 ▸ k _ rfl ⟨rfl,fun x=>x⟩)
 | list e1 h1 h2 h3=>subst e1;exact SeqAt.notIn_listAt (fun v=>valEq v a) h1 h2 (h3 ▸ k _ rfl ⟨rfl,fun x=>x⟩)
 | tuple e1 h1 h2 h3=>subst e1;exact SeqAt.notIn_tupleAt (fun v=>valEq v a) h1 h2 (h3 ▸ k _ rfl ⟨rfl,fun x=>x⟩)
inductive IsF:Value->Value->Bool->Prop
 | nn:IsF .none .none true
 | nb (b):IsF .none (.bool b) false
 | bn (b):IsF (.bool b) .none false
 | bb (a b):IsF (.bool a) (.bool b) (a==b)
 | sn (x t):IsF (.str x t) .none false
theorem wnK {a b:Value} {da db:D} {r:Bool} (e:isD da db=some r) (va:Vw C F da G a) (vb:Vw C F db G b):IsF a b r:=by
 cases da<;>first | exact noneE e | skip
 ·cases va;cases db<;>first | exact noneE e | skip
  ·cases vb;cases e;exact .nn
  ·cases vb;cases e;exact .nb _
 ·cases va;cases db<;>first | exact noneE e | skip
  ·cases vb;cases e;exact .bn _
  ·cases vb;cases e;exact .bb _ _
 ·cases va;cases db<;>first | exact noneE e | skip
  ·cases vb;cases e;exact .sn _ _
theorem wxJ {a b:Value} {r:Bool} (e:IsF a b r) (k:Q (.bool r) s):wpAny (model C.prog C.w) A (compareOp .Is a b) Q E s:=by
 cases e
 ·exact is_none_none k
 ·exact wpAny_pure k
 ·exact is_bool_none k
 ·exact is_bool k
 ·exact is_str_none k
theorem wtt {a b:Value} {r:Bool} (e:IsF a b r) (k:Q (.bool (!r)) s):wpAny (model C.prog C.w) A (compareOp .IsNot a b) Q E s:=by
 cases e
 ·exact isnot_none_none k
 ·exact wpAny_pure k
 ·exact isnot_bool_none k
 ·exact isnot_bool k
 ·exact isnot_str_none k
theorem ltSV {M:Value->Value->Prop} {x y:D} {vx vy:Value} {r:Bool} {G':FH} (e:ltS x y=some r) (rx:Vw C F x G vx) (ry:Vw C F y G' vy) (f:∀ i t j u,decide (i<j)=r->M (.int i t) (.int j u)) (g:∀ i t j u,decide (i<j)=r->M (.str (mk i) t) (.str (mk j) u)):M vx vy:=by
 cases x<;>first | exact noneE e | skip
 ·cases rx;apply intV e ry;intro j u e;exact f _ _ j u (Option.some.inj e)
 ·cases rx;apply strV e ry;intro j u e;exact g _ _ j u (Option.some.inj e)
theorem wxB {a b:Value} {da db:D} {r:Bool} (e:ltS da db=some r) (va:Vw C F da G a) (vb:Vw C F db G b)
  (k:Q (.bool r) s):wpAny (model C.prog C.w) A (compareOp .Lt a b) Q E s:=by
 apply ltSV e va vb
 ·intro i t j u q;exact P.lt_int (q ▸ k)
 ·intro i t j u q;exact P.lt_str (q ▸ k)
theorem wxP {a b:Value} {da db:D} {r:Bool} (e:ltS db da=some r) (va:Vw C F da G a) (vb:Vw C F db G b)
  (k:Q (.bool r) s):wpAny (model C.prog C.w) A (compareOp .Gt a b) Q E s:=by
 apply ltSV (M:=fun b a=>wpAny (model C.prog C.w) A (compareOp .Gt a b) Q E s) e vb va
 ·intro i t j u q;exact P.gt_int (q ▸ k)
 ·intro i t j u q;exact P.gt_str (q ▸ k)
theorem wsd {op:CmpOp} {a b:Value} {da db:D} {r:Bool} (e:cmpD op da db=some r) (va:View C s.heap F a da) (vb:View C s.heap F b db) (hF:F.In s.heap)
  (hu:A.units+100<cLine) (k:∀ s':Shared,s'.heap=s.heap->Calm s s'->Q (.bool r) s'):wpAny (model C.prog C.w) A (compareOp op a b) Q E s:=by
 have k₀:=k s rfl (.refl s)
 cases op with
 | Eq=>exact wx0 e va vb hF hu k₀
 | NotEq=>exact mapE e fun x e1 e=>wxw e1 va vb hF hu (e ▸ k₀)
 | Lt=>exact wxB e va vb k₀
 | Gt=>exact wxP e va vb k₀
 | LtE=>apply wd2 e va vb;intro x t y u e;exact P.le_int (Option.some.inj e ▸ k₀)
 | GtE=>apply wd2 e va vb;intro x t y u e;exact P.ge_int (Option.some.inj e ▸ k₀)
 | Is=>exact wxJ (wnK e va vb) k₀
 | IsNot=>exact mapE e fun x e1 e=>wtt (wnK e1 va vb) (e ▸ k₀)
 | In=>exact wxM e va vb k
 | NotIn=>exact mapE e fun x e1 e=>ws6 e1 va vb (e ▸ k)
theorem nthE {α:Type} {P:Prop} {xs:List α} {i:Int} {x:α} (e:nth xs i=some x) (f:0<=i->i<xs.length->i<100000->xs[i.toNat]?=some x->P)
  (g:i<0->-(xs.length:Int)<=i->-100000<i->xs[(i+xs.length).toNat]?=some x->P):P:=
 iteE e (fun h e=>ifE e fun h2 e=>f h (by have:=(List.getElem?_eq_some_iff.mp e).1;omega) h2 e) fun h e=>ifE e fun h2 e=>g (by omega) h2.1 h2.2 e
theorem wno {i:Int} {n:Nat} (h0:0<=i) (h1:i<n):seqIndex? i n=some i.toNat:=by
 unfold seqIndex?
 dsimp only
 rw [if_neg (Int.not_lt.mpr h0)]
 exact if_pos (by rw [decide_eq_true h0,decide_eq_true h1];rfl)
theorem wnp {i:Int} {n:Nat} (h0:i<0) (h1:-(n:Int)<=i):seqIndex? i n=some (i+n).toNat:=by
 unfold seqIndex?
 dsimp only
 rw [if_pos h0]
 exact if_pos (by rw [decide_eq_true (show 0<=i+n by omega),decide_eq_true (show i+n<n by omega)];rfl)
theorem nthI {α:Type} {P:Prop} {xs:List α} {i:Int} {x:α} (e:nth xs i=some x) (f:∀ j,seqIndex? i xs.length=some j->xs[j]?=some x->-(2 ^ 63:Int)<=i->i<2 ^ 63->P):P:=
 nthE e (fun h0 h1 h2 e=>f _ (wno h0 h1) e (by omega) (by omega)) fun h0 h1 h2 e=>f _ (wnp h0 h1) e (by omega) (by omega)
theorem wiW {slice:Expr} {o i:Value} (h:isSliceE slice=false):subscripted slice false o i=operate [o,i] (getItem o i):=by
 cases slice<;>first | rfl | exact ffE h.symm
theorem wkF {l:Addr} {vs:Array Value} {n:Nat} {xs:List D} {i:Int} {t:Tok} (hl:s.heap.get? l=some { cls:=.type "list",data:=.seq vs n }) (r:RepAll C F xs vs.toList) (e:nth xs i=some d) (hF:F.In s.heap) (k:Cont C F s d Q) :
  wpAny (model C.prog C.w) A (getItem (.ref l) (.int i t)) Q E s:=by
 have hz:=r.size
 refine nthE e (fun h0 h1 h2 e=>?_) fun h0 h1 h2 e=>?_<;>obtain ⟨v,e1,r⟩:=r.get e<;>rw [Array.getElem?_toList]at e1
 ·exact wpAny_getItem_list (waD hl).isList h0 (by omega) e1 (k.here hF rfl r)
 ·exact wpAny_getItem_list_neg (waD hl).isList h0 (by omega) (by omega) (by rw [hz];exact e1) (k.here hF rfl r)
theorem wpY {o i:Value} {do' di:D} (e:Py.sub do' di=some d) (vo:View C s.heap F o do') (ri:Rep C F i di) (hF:F.In s.heap) (k:Cont C F s d Q):wpAny (model C.prog C.w) A (getItem o i) Q E s:=by
 cases do'<;>first | exact noneE e | skip
 ·cases vo;apply intV e ri;intro i t e
  refine mapE e fun c e1 e2=>?_
  refine nthI e1 fun j hj ej b1 b2=>P.getItem_str (by simp;omega) (by rw [wb4,hj];exact (List.getElem?_toArray).trans ej) ((k.of (congrArg some e2)).here hF rfl (.mk (x:=[c]) _))
 ·cases vo with | mk hl r=>apply intV e ri;intro i t e;exact wkF hl r e hF k
 ·cases vo with | mk hl r=>
  apply intV e ri;intro i t e
  have hz:=r.size
  refine nthI e fun j hj ej b1 b2=>?_
  obtain ⟨v,e1,r⟩:=r.get ej
  exact P.getItem_tuple hl (by omega) (by omega) (hz ▸ hj) (by rw [<- Array.getElem?_toList];exact e1) (k.here hF rfl r)
 ·cases vo with | mk ho hy dy ry=>
  refine bindE e fun kk e1 e2=>?_
  rcases ry.get kk with ⟨h1,_⟩ | ⟨d',v,h1,h2,r⟩
  ·rw [h1]at e2;exact noneE e2
  ·rw [h1]at e2
   exact wpAny_getItem_of (wcD e1 ri) (Heap.dictOf_iff.mpr ⟨_,ho,dy⟩).mapOf h2 ((k.of e2).here hF rfl r)
theorem sub_ok {o i:Value} {do' di:D} {value slice:Expr} (hs:isSliceE slice=false) (e:Py.sub do' di=some d) (vo:View C s.heap F o do') (ri:Rep C F i di) (hF:F.In s.heap)
  (k:Cont C F s d Q):wpAny (model C.prog C.w) A (subscriptTail value slice o i) Q E s:=by
 have hs':=fun {o i:Value}=>wiW (o:=o) (i:=i) hs
 have it:=wpY (A:=A) (E:=E) e vo ri hF k
 cases do'<;>first | exact noneE e | skip
 ·cases vo;exact tail_any (typeIs_str _ _ _) PySem.F.slot_str_getitem.lookup it hs'
 ·cases vo with | mk hl r=>exact tail_any (waD hl).isList.typeIs slot_list_getitem.lookup it hs'
 ·cases vo with | mk hl r=>exact tail_any ⟨_,hl,rfl⟩ slot_tuple_getitem.lookup it hs'
 ·cases vo with | mk ho hy dy ry=>exact tail_any (Heap.dictOf_iff.mpr ⟨_,ho,dy⟩).typeIs slot_dict_getitem.lookup it hs'
end
section
variable {C:Fr} {F:FH} {A:Around} {E:Value->Shared->Prop} {s:Shared} {Q:Value->Shared->Prop} {d:D}
theorem wci {a b:Option Expr} {p:Pos} {o i:Value}:subscripted (.Slice a b none p) false o i=operate [i,o] (getItem o i):=rfl
theorem wmQ (n:Nat) (i:Int):clipAt n i<=n:=Int.ofNat_le.mp (by rw [clipAt_cast];exact Int.max_le.mpr ⟨Int.natCast_nonneg n,Int.min_le_right _ _⟩)
theorem wus (lo hi:Option Int) (n:Nat):Builtin.Str.strSliceIndices lo hi 1 n=(List.range (hi.elim n (clipAt n) - lo.elim 0 (clipAt n))).map (lo.elim 0 (clipAt n)+·):=by
 rw [<- sliceRange_one]
 unfold Builtin.Str.strSliceIndices
 cases lo<;>cases hi<;>simp [clipAt_cast]
theorem partVal {v:Value} {o:Option Int} (p:IsPart v o):∃ l:Option (Int×Tok),v=partValue l/\l.map (·.1)=o:=by
 cases p with
 | none=>exact ⟨none,rfl,rfl⟩
 | int i t=>exact ⟨some (i,t),rfl,rfl⟩
noncomputable abbrev slc (vl vu:Value):Obj:={ cls:=.type "slice",data:=.fields #[vl,vu,.none] }
theorem wr9 {x:Tx} {t:Tok} {vl vu:Value} {lo hi:Option Int} (pl:IsPart vl lo) (pu:IsPart vu hi) (hz:x.length<=cap) {o:Addr} (ho:s.heap.get? o=some (slc vl vu))
  (k:∀ tk,Q (.str (mk (cut lo hi x)) tk) s/\Q (.str (mk (cut lo hi x)) tk) { s with toks:=s.toks+1 }):wpAny (model C.prog C.w) A (getItem (.str (mk x) t) (.ref o)) Q E s:=by
 obtain ⟨l,rfl,hl⟩:=partVal pl
 obtain ⟨u,rfl,hu⟩:=partVal pu
 have hp:slicePicked (mk x) l u none=(List.range (hi.elim x.length (clipAt x.length) - lo.elim 0 (clipAt x.length))).map (lo.elim 0 (clipAt x.length)+·):=by
  unfold slicePicked
  rw [hl,hu,wb4];exact wus lo hi x.length
 refine wpAny_getItem_str_slice (l:=l) (u:=u) (st:=none) ⟨_,ho,rfl,rfl⟩ rfl ?_
 unfold sliceMade
 rw [hp]
 have ha:lo.elim 0 (clipAt x.length)<=x.length:=by cases lo<;>simp [wmQ]
 have hb:hi.elim x.length (clipAt x.length)<=x.length:=by cases hi<;>simp [wmQ]
 refine postIf (fun hc=>?_) fun _=>?_
 ·have:cut lo hi x=x:=by
   unfold cut
   simp [Str.length]at hc
   rw [show lo.elim 0 (clipAt x.length)=0 by omega,show hi.elim x.length (clipAt x.length)=x.length by omega];exact List.take_length
  rw [this]at k;exact (k t).1
 ·refine ⟨?_,?_⟩
  ·show (List.filterMap _ _).toArray.size<=sizeLine
   rw [pick_run,List.size_toArray,List.length_take,List.length_drop];exact waA (by omega)
  ·rw [pick_run];exact (k _).2
theorem wwQ {o vl vu:Value} {do':D} {lo hi:Option Int} {value:Expr} {a b:Option Expr} {p:Pos} {q:Addr} (pl:IsPart vl lo) (pu:IsPart vu hi) (e:cutD lo hi do'=some d)
  (vo:View C s.heap F o do') (hF:F.In s.heap) (hq:s.heap.get? q=some (slc vl vu)) (k:Cont C F s d Q):wpAny (model C.prog C.w) A (subscriptTail value (.Slice a b none p) o (.ref q)) Q E s:=by
 cases do'<;>first | exact noneE e | skip
 ·cases vo
  exact ifE e fun hz e=>tail_any (typeIs_str _ _ _) PySem.F.slot_str_getitem.lookup (wr9 pl pu hz hq fun tk=>⟨(k.of e).here hF rfl (.mk _),(k.of e).here hF rfl (.mk _)⟩) wci
 ·cases vo with | mk hl rl=>
  refine ifE e fun hz e=>tail_any (waD hl).isList.typeIs slot_list_getitem.lookup ?_ wci
  have hz':=rl.size
  refine wpAny_getItem_list_slice (waD hl).isList ⟨_,hq,rfl,rfl⟩ pl pu .none (by simp) ((k.of e).push hF rfl rfl (.mk (FH.put_self _ _ _) ?_)) (waA (by omega))
  rw [slicePick_plain,hz']
  exact RepAll.mono (wbB hF) _ ((rl.drop _).take _)
 ·cases vo with | mk hl rl=>
  cases lo with
  | none=>exact noneE e
  | some i=>cases hi with
  | some=>exact noneE e
  | none=>
  refine ifE e fun hz e=>tail_any ⟨_,hl,rfl⟩ slot_tuple_getitem.lookup ?_ wci
  cases pl;cases pu
  have hz':=rl.size
  obtain ⟨j,rfl⟩:=Int.eq_ofNat_of_zero_le (show 0<=i by omega)
  exact getItem_tuple_from ⟨_,hl,rfl,_,rfl⟩ ⟨_,hq,rfl,rfl⟩ (a:=j) (by omega) (by omega) ((k.of e).push hF rfl rfl (.mk (FH.put_self _ _ _) (RepAll.mono (wbB hF) _ (rl.drop _)))) (waA (by omega))
end
open AutoSeq1 (wpAny_loadPart')
open MeetsSeq MeetsSeq2 MeetsSeq3 SeqRoads2 SeqAt
noncomputable def RcOp (op:CmpOp) (A:Around) (s:Shared) (x y:Value) (b:Bool):Prop:=
 ∀ (prog:Program) (w:World) (E:Value->Shared->Prop) (Q:Value->Shared->Prop),Q (.bool b) s->wpAny (model prog w) A (richCompare op x y) Q E s
inductive OrdAt (op:CmpOp) (A:Around) (s:Shared):List Value->List Value->Bool->Prop
 | ends {xs ys r}:xs=[]\/ys=[]->(∀ i,Builtin.Tuple.tupleCompareSizes op (i+xs.length) (i+ys.length)=.bool r)->OrdAt op A s xs ys r
 | eq {x y xs ys r}:EqAt A s x y true->OrdAt op A s xs ys r->OrdAt op A s (x::xs) (y::ys) r
 | ne {x y xs ys r}:EqAt A s x y false->RcOp op A s x y r->OrdAt op A s (x::xs) (y::ys) r
theorem wqo (l b:Addr) (items items2:Array Value) (n n2:Nat) (r:Bool) :
  Meets (Builtin.«tuple.__lt__» ⟨[.ref l,.ref b],[]⟩)
   (fun A R s=>s.heap.get? l=some { cls:=.type "tuple",data:=.seq items n }/\s.heap.get? b=some { cls:=.type "tuple",data:=.seq items2 n2 } /\
    OrdAt .Lt A.in1 s items.toList items2.toList r/\R (.ok (.ret (.bool r))) s):=
 .of_wp fun prog w A R s h=>by
  obtain ⟨hp,g,d,tk,os⟩:=s;obtain ⟨hl,hb,he,h⟩:=h
  have f2:=AutoSeq1.sub_tuple_tuple
  wp_walk using wpAny_loadPart' hl,wpAny_loadPart' hb,wpAny_forIn_list _ (fun rest b s'=>b.1=none/\s'=⟨hp,g,d,tk,os⟩/\∃ i xs ys,rest=xs.zip ys/\items.size=i+xs.length/\items2.size=i+ys.length /\
   OrdAt .Lt A.in1 ⟨hp,g,d,tk,os⟩ xs ys r) _
  case turn=>
   rintro ⟨y,x⟩ rest b s' ⟨hb',rfl,i,xs,ys,hz,h1,h2,hO⟩
   cases xs with
   | nil=>cases hz
   | cons x0 xs=>
   cases ys with
   | nil=>cases hz
   | cons y0 ys=>
   simp only [List.zip_cons_cons,List.cons.injEq,Prod.mk.injEq]at hz
   obtain ⟨⟨rfl,rfl⟩,rfl⟩:=hz
   cases hO with
   | ends q=>simp at q
   | eq e1 e2=>
    refine wpAny_bind (e1 prog w _ _ ?_)
    wp_walk
    exact ⟨rfl,rfl,i+1,xs,ys,rfl,by simp at h1;omega,by simp at h2;omega,e2⟩
   | ne e1 e2=>
    refine wpAny_bind (e1 prog w _ _ ?_)
    simp only [Bool.not_false,if_true]
    refine wpAny_bind (wpAny_rule ?_)
    refine wpAny_bind (e2 prog w _ _ ?_)
    wp_walk
    exact ⟨_,rfl,h⟩
  case fin=>
   rintro ⟨b1,b2⟩ s' ⟨hb',rfl,i,xs,ys,hz,h1,h2,hO⟩
   simp only at hb'
   subst hb'
   cases hO with
   | ends q q2=>
    wp_walk
    rw [h1,h2,q2]
    exact ⟨_,rfl,h⟩
   | eq=>cases hz
   | ne=>cases hz
  case h=>
   exact ⟨rfl,rfl,0,_,_,rfl,by simp,by simp,he⟩
theorem wqp (l b:Addr) (items items2:Array Value) (n n2:Nat) (r:Bool) :
  Meets (Builtin.«tuple.__gt__» ⟨[.ref l,.ref b],[]⟩)
   (fun A R s=>s.heap.get? l=some { cls:=.type "tuple",data:=.seq items n }/\s.heap.get? b=some { cls:=.type "tuple",data:=.seq items2 n2 } /\
    OrdAt .Gt A.in1 s items.toList items2.toList r/\R (.ok (.ret (.bool r))) s):=
 .of_wp fun prog w A R s h=>by
  obtain ⟨hp,g,d,tk,os⟩:=s;obtain ⟨hl,hb,he,h⟩:=h
  have f2:=AutoSeq1.sub_tuple_tuple
  wp_walk using wpAny_loadPart' hl,wpAny_loadPart' hb,wpAny_forIn_list _ (fun rest b s'=>b.1=none/\s'=⟨hp,g,d,tk,os⟩/\∃ i xs ys,rest=xs.zip ys/\items.size=i+xs.length/\items2.size=i+ys.length /\
   OrdAt .Gt A.in1 ⟨hp,g,d,tk,os⟩ xs ys r) _
  case turn=>
   rintro ⟨y,x⟩ rest b s' ⟨hb',rfl,i,xs,ys,hz,h1,h2,hO⟩
   cases xs with
   | nil=>cases hz
   | cons x0 xs=>
   cases ys with
   | nil=>cases hz
   | cons y0 ys=>
   simp only [List.zip_cons_cons,List.cons.injEq,Prod.mk.injEq]at hz
   obtain ⟨⟨rfl,rfl⟩,rfl⟩:=hz
   cases hO with
   | ends q=>simp at q
   | eq e1 e2=>
    refine wpAny_bind (e1 prog w _ _ ?_)
    wp_walk
    exact ⟨rfl,rfl,i+1,xs,ys,rfl,by simp at h1;omega,by simp at h2;omega,e2⟩
   | ne e1 e2=>
    refine wpAny_bind (e1 prog w _ _ ?_)
    simp only [Bool.not_false,if_true]
    refine wpAny_bind (wpAny_rule ?_)
    refine wpAny_bind (e2 prog w _ _ ?_)
    wp_walk
    exact ⟨_,rfl,h⟩
  case fin=>
   rintro ⟨b1,b2⟩ s' ⟨hb',rfl,i,xs,ys,hz,h1,h2,hO⟩
   simp only at hb'
   subst hb'
   cases hO with
   | ends q q2=>
    wp_walk
    rw [h1,h2,q2]
    exact ⟨_,rfl,h⟩
   | eq=>cases hz
   | ne=>cases hz
  case h=>
   exact ⟨rfl,rfl,0,_,_,rfl,by simp,by simp,he⟩
section
variable {A:Around} {s:Shared} {a b:Addr} {items items2:Array Value} {n n2:Nat} {r:Bool}
theorem RcOp.tup_lt (ha:s.heap.get? a=some { cls:=.type "tuple",data:=.seq items n }) (hb:s.heap.get? b=some { cls:=.type "tuple",data:=.seq items2 n2 }) (hu:A.units<cLine)
  (o:OrdAt .Lt A.in1 s items.toList items2.toList r):RcOp .Lt A s (.ref a) (.ref b) r:=fun prog w E Q h=>
 richCompare_meets_room (op:=.Lt) ⟨_,ha,rfl⟩ ⟨_,hb,rfl⟩ F.slot_tuple_lt F.entry_tuple_lt (F.args_tuple_lt_2 _ _) (wqo a b items items2 n n2 r)
  ⟨ha,hb,o,show Value.bool r≠Value.notImplemented/\Q (.bool r) s from ⟨(fun x=>nomatch x),h⟩⟩ hu
theorem RcOp.tup_gt (ha:s.heap.get? a=some { cls:=.type "tuple",data:=.seq items n }) (hb:s.heap.get? b=some { cls:=.type "tuple",data:=.seq items2 n2 }) (hu:A.units<cLine)
  (o:OrdAt .Gt A.in1 s items.toList items2.toList r):RcOp .Gt A s (.ref a) (.ref b) r:=fun prog w E Q h=>
 richCompare_meets_room (op:=.Gt) ⟨_,ha,rfl⟩ ⟨_,hb,rfl⟩ F.slot_tuple_gt F.entry_tuple_gt (F.args_tuple_gt_2 _ _) (wqp a b items items2 n n2 r)
  ⟨ha,hb,o,show Value.bool r≠Value.notImplemented/\Q (.bool r) s from ⟨(fun x=>nomatch x),h⟩⟩ hu
end
section
variable {C:Fr} {F:FH} {A:Around} {s:Shared}
theorem wrK {x y:D} {vx vy:Value} {r:Bool} (e:ltS x y=some r) (rx:Rep C F vx x) (ry:Rep C F vy y):RcOp .Lt A s vx vy r:=by
 apply ltSV e rx ry
 ·intro i t j u q prog w E Q h;exact P.lt_int (q ▸ h)
 ·intro i t j u q prog w E Q h;exact P.lt_str (q ▸ h)
theorem wrV {x y:D} {vx vy:Value} {r:Bool} (e:ltS y x=some r) (rx:Rep C F vx x) (ry:Rep C F vy y):RcOp .Gt A s vx vy r:=by
 apply ltSV (M:=fun b a=>RcOp .Gt A s a b r) e ry rx
 ·intro i t j u q prog w E Q h;exact P.gt_int (q ▸ h)
 ·intro i t j u q prog w E Q h;exact P.gt_str (q ▸ h)
theorem wtH (x y:D):eqS x y=eqS y x:=by
 cases x<;>cases y<;>first | rfl | exact congrArg some (decide_eq_decide.mpr eq_comm)
theorem wrJ (xs:List D):∀ (ys:List D) {vx vy:List Value} {r:Bool},ltTup xs ys=some r->RepAll C F xs vx->RepAll C F ys vy->OrdAt .Lt A s vx vy r:=by
 induction xs with
 | nil=>intro ys vx vy r e rx ry;cases ys with
  | nil=>cases rx;cases ry;cases e;exact .ends (.inl rfl) (by simp [Builtin.Tuple.tupleCompareSizes])
  | cons=>cases rx;cases ry;cases e;exact .ends (.inl rfl) (by simp [Builtin.Tuple.tupleCompareSizes])
 | cons x xs ih=>intro ys vx vy r e rx ry;cases rx with | mk r1 r2=>cases ys with
  | nil=>cases ry;cases e;exact .ends (.inr rfl) (by simp [Builtin.Tuple.tupleCompareSizes])
  | cons y ys=>cases ry with | mk q1 q2=>
   refine bindE e fun b e1 e2=>?_
   have h:=(wn4 (A:=A) (s:=s) e1 r1 q1).2
   cases b with
   | true=>exact .eq h (ih ys e2 r2 q2)
   | false=>exact .ne h (wrK e2 r1 q1)
theorem wrU (ys:List D):∀ (xs:List D) {vx vy:List Value} {r:Bool},ltTup ys xs=some r->RepAll C F xs vx->RepAll C F ys vy->OrdAt .Gt A s vx vy r:=by
 induction ys with
 | nil=>intro xs vx vy r e rx ry;cases xs with
  | nil=>cases rx;cases ry;cases e;exact .ends (.inl rfl) (by simp [Builtin.Tuple.tupleCompareSizes])
  | cons=>cases rx;cases ry;cases e;exact .ends (.inr rfl) (by simp [Builtin.Tuple.tupleCompareSizes])
 | cons y ys ih=>intro xs vx vy r e rx ry;cases ry with | mk q1 q2=>cases xs with
  | nil=>cases rx;cases e;exact .ends (.inl rfl) (by simp [Builtin.Tuple.tupleCompareSizes])
  | cons x xs=>cases rx with | mk r1 r2=>
   refine bindE e fun b e1 e2=>?_
   have h:=(wn4 (A:=A) (s:=s) ((wtH x y).trans e1) r1 q1).2
   cases b with
   | true=>exact .eq h (ih xs e2 r2 q2)
   | false=>exact .ne h (wrV e2 r1 q1)
theorem ltDE {P:Prop} {x y:D} {r:Bool} (e:ltD x y=some r) (f:∀ xs ys,x=.tuple xs->y=.tuple ys->ltTup xs ys=some r->P) (g:ltS x y=some r->P):P:=by
 cases x<;>first | exact g e | exact tupE e fun ys q e=>f _ ys rfl q e
theorem wv9 {x y:D} {vx vy:Value} {r:Bool} (e:ltD x y=some r) (rx:Rep C F vx x) (ry:Rep C F vy y) (hF:F.In s.heap) (hu:A.units<cLine):RcOp .Lt A s vx vy r:=
 ltDE e (fun xs ys ex ey e=>by
  subst ex;subst ey
  cases rx with | mk h1 r1=>cases ry with | mk h2 r2=>
  exact RcOp.tup_lt (hF _ _ h1) (hF _ _ h2) hu (wrJ _ _ e r1 r2)) fun e=>wrK e rx ry
theorem wwj {x y:D} {vx vy:Value} {r:Bool} (e:ltD y x=some r) (rx:Rep C F vx x) (ry:Rep C F vy y) (hF:F.In s.heap) (hu:A.units<cLine):RcOp .Gt A s vx vy r:=
 ltDE e (fun ys xs ey ex e=>by
  subst ex;subst ey
  cases rx with | mk h1 r1=>cases ry with | mk h2 r2=>
  exact RcOp.tup_gt (hF _ _ h1) (hF _ _ h2) hu (wrU _ _ e r1 r2)) fun e=>wrV e rx ry
end
section
variable {C:Fr} {F:FH} {A:Around} {E:Value->Shared->Prop} {s:Shared} {Q:Value->Shared->Prop} {d:D}
structure SeqIt (C:Fr) (A:Around) (F:FH) (s:Shared) (I:Addr) (ds:List D) (s':Shared) (fp:List Addr) (P:Nat->Value->Prop) (St:Nat->Heap->Prop):Prop where
 W:Walks C.prog C.w A I fp [I] ds.length P St
 st:St 0 s'.heap
 fp:∀ b∈fp,b<s'.heap.objs.size
 rep:∀ i v,P i v->∃ d,ds[i]?=some d/\Rep C F v d
 keep:Keep s.heap s'.heap
 new:s.heap.get? I=none
 calm:Calm s s'
theorem wq6 {a b n:Nat} (h:b<n) (h':n<a):∀ x∈[n,b],x<a:=fun x hx=>(List.mem_cons.mp hx).elim (fun e=>e ▸ h') fun hx=>List.mem_singleton.mp hx ▸ Nat.lt_trans h h'
theorem wiX {x:Tx} (i:Nat) (v:Value) (h:SignAt (mk x) i v):∃ d,(chars x)[i]?=some d/\Rep C F v d:=by
 obtain ⟨c,u,hc,rfl⟩:=h
 refine ⟨.str [c],?_,.mk (x:=[c]) u⟩
 have hc':x[i]?=some c:=List.getElem?_toArray ▸ hc
 unfold chars
 rw [List.getElem?_map,hc'];rfl
theorem wdr {ds:List D} {vs:Array Value} (r:RepAll C F ds vs.toList) (i:Nat) (v:Value) (h:vs[i]?=some v):∃ d,ds[i]?=some d/\Rep C F v d:=r.get' (by rw [Array.getElem?_toList];exact h)
theorem wi7 {v:Value} {ds:List D} (hh:A.handled=none) (e:seqOf d=some ds) (vd:View C s.heap F v d)
  (k:∀ I s' fp P St,SeqIt C A F s I ds s' fp P St->Q (.ref I) s'):wpAny (model C.prog C.w) A (pyIter v) Q E s:=by
 have hI:=get?_size s.heap
 have sz:∀ o:Obj,s.heap.objs.size<(s.heap.push o).objs.size:=fun o=>by rw [Heap.size_push];exact Nat.lt_succ_self _
 cases d<;>first | exact noneE e | skip
 ·cases vd
  cases e
  rename_i x t
  refine wpAny_pyIter_str fun o St W st=>k _ _ [s.heap.objs.size] _ _ ⟨?_,st,fun b hb=>List.mem_singleton.mp hb ▸ sz _,wiX,Keep.push _ _,hI,⟨rfl,fun x=>x⟩⟩
  have:=W A hh
  rwa [show (mk x).cps.size=(chars x).length from (wb4 x).trans (List.length_map ..).symm]at this
 ·cases vd with | mk hl r=>
  cases e
  have hlt:=Heap.lt_size hl
  exact wpAny_pyIter_list (waD hl).isList (k _ _ [s.heap.objs.size,_] _ _ ⟨r.size ▸ Walks.list hh s.heap.objs.size _ (Nat.ne_of_lt hlt) _,⟨⟨_,Heap.get?_push_size _ rfl,rfl,rfl⟩,(waD hl).isList.push _⟩,wq6 hlt (sz _),wdr r,Keep.push _ _,hI,⟨rfl,fun x=>x⟩⟩)
 ·cases vd with | mk hl r=>
  cases e
  have hlt:=Heap.lt_size hl
  exact wpAny_pyIter_tuple (weB hl) (k _ _ [s.heap.objs.size,_] _ _ ⟨r.size ▸ Walks.tuple hh s.heap.objs.size _ (Nat.ne_of_lt hlt) _,⟨⟨_,Heap.get?_push_size _ rfl,rfl,rfl⟩,(weB hl).push _⟩,wq6 hlt (sz _),wdr r,Keep.push _ _,hI,⟨rfl,fun x=>x⟩⟩)
theorem noneF {h:Heap} {I:Addr} (hF:F.In h) (hI:h.get? I=none):F I=none:=by
 cases q:F I with
 | none=>rfl
 | some o=>rw [hF _ _ q]at hI;cases hI
theorem wtd {I:Addr} {fp:List Addr} {n:Nat} {P:Nat->Value->Prop} {St:Nat->Heap->Prop} {ds:List D} {R:Result->Shared->Prop} (W:Walks C.prog C.w A.in1 I fp [I] n P St) (hn:n=ds.length)
  (hP:∀ i v,P i v->∃ d,ds[i]?=some d/\Rep C F v d) (hu:A.units+10<cLine) (hI:F I=none) (S:Addr) (hSf:S ∉ fp) (hS0:F S=none) :
  ∀ (k j:Nat) (s:Shared) (vb:Value) (db:D) (c:Nat),n - j=k->j<=n->St j s.heap->F.In s.heap->Rep C F vb db->bestBy (fun a b=>ltD b a) db (ds.drop j)=some d ->
  s.heap.get? S=some { cls:=.type "list",data:=.seq #[vb,vb] c } ->
  (∀ v h' tk,Rep C F v d->F.In h'->(∀ b o,b≠I->b≠S->s.heap.get? b=some o->h'.get? b=some o)->R (.ok (.ret v)) { s with heap:=h',toks:=tk }) ->
  codeAny (model C.prog C.w) A (.builtin "max.loop" ⟨[.ref I,.none,.ref S],[]⟩) R s:=by
 have hSI:S≠I:=fun h=>hSf (h ▸ W.sub I (by simp))
 have hname:(toString "max"++toString ".loop":String)="max.loop":=by decide
 have keepF:∀ {h h':Heap},F.In h->(∀ b o,b ∉ [I]->h.get? b=some o->h'.get? b=some o)->F.In h':=fun hF hk b o e=>hk b o (fun q=>by rw [List.mem_singleton.mp q,hI]at e;cases e) (hF b o e)
 intro k
 induction k with
 | zero=>
  intro j s vb db c hk hj hst hF hb he hS hR
  have hin:j=n:=Nat.le_antisymm hj (leSub hk)
  subst hin
  rw [List.drop_of_length_le (Nat.le_of_eq hn.symm)]at he
  cases he
  refine codeAny_builtin PySem.F.entry_max_loop ?_
  rw [Around.under_plainId PySem.F.plain_max_loop _]
  show wpAny _ A.in1 (seqItems? (.ref S) >>= _) _ _ s
  refine wpAny_bind (wpAny_seqItems hS rfl ?_)
  show wpAny _ A.in1 (tryCatch (pyNext (.ref I)) _ >>= _) _ _ s
  refine wpAny_bind (wpAny_tryCatch (W.done s _ _ hst fun h' tk hk'=>?_))
  have hS':=hk' S _ (by simpa using hSI) hS
  have hF':=keepF hF hk'
  show wpAny _ A.in1 (updateSeq S (fun _=>#[]) >>= _) _ _ _
  refine wpAny_bind ?_
  refine wpAny_updateSeq hS' rfl (wpAny_bind (wpAny_letGo (wpAny_pure ?_)))
  refine hR vb _ tk hb (fun b o e=>?_) fun b o hbw hbS e=>(Heap.get?_update_other _ _ (Ne.symm hbS)).trans (hk' b o (by simpa using hbw) e)
  exact (Heap.get?_update_other _ _ (fun h:S=b=>by rw [<- h,hS0]at e;cases e)).trans (hF' b o e)
 | succ k ih=>
  intro j s vb db c hk hj hst hF hb he hS hR
  have hlt:j<n:=ltSub hk
  have hjd:j<ds.length:=hn ▸ hlt
  rw [List.drop_eq_getElem_cons hjd]at he
  refine bindE he fun r e1 e2=>?_
  refine codeAny_builtin PySem.F.entry_max_loop ?_
  rw [Around.under_plainId PySem.F.plain_max_loop _]
  show wpAny _ A.in1 (seqItems? (.ref S) >>= _) _ _ s
  refine wpAny_bind (wpAny_seqItems hS rfl ?_)
  show wpAny _ A.in1 (tryCatch (pyNext (.ref I)) _ >>= _) _ _ s
  refine wpAny_bind (wpAny_tryCatch (W.item j s _ _ hlt hst fun v h' tk hPv hst' hk'=>?_))
  have hS':=hk' S _ (by simpa using hSI) hS
  have hF':=keepF hF hk'
  obtain ⟨dv,hd1,hd2⟩:=hP _ _ hPv
  rw [List.getElem?_eq_getElem hjd]at hd1
  cases hd1
  show wpAny _ A.in1 (tryCatch (holding [v,v] (richCompare .Gt v vb >>= _)) _ >>= _) _ _ _
  refine wpAny_bind (wpAny_tryCatch (wpAny_holding (wpAny_bind (wwj (A:=A.in1) (s:=⟨h',s.gens,s.drawn,tk,s.os⟩) e1 hd2 hb hF' (by simp;omega) _ _ _ _ ?_))))
  refine wpAny_bind (wpAny_holding (wpAny_truthy_bool ?_))
  refine wpAny_bind (wpAny_letGo (wpAny_pure ?_))
  cases r with
  | true=>
   simp only [if_true]at e2 ⊢
   refine wpAny_bind ?_
   refine wpAny_updateSeq hS' rfl (wpAny_bind (wpAny_letGo ?_))
   rw [hname]
   refine wpAny_pure ⟨plainId_quiet PySem.F.plain_max_loop _,ih (j+1) _ v _ _ (sub1 hk) hlt (W.frame _ _ _ hst' fun b hbf o e=>?_) (fun b o e=>?_) hd2 e2 (Heap.get?_update_self _ hS' rfl)
    fun v' h'' tk'' hP' hF'' hk''=>?_⟩
   ·exact (Heap.get?_update_other _ _ (fun h:S=b=>hSf (by rw [h];exact hbf))).trans e
   ·exact (Heap.get?_update_other _ _ (fun h:S=b=>by rw [<- h,hS0]at e;cases e)).trans (hF' b o e)
   ·exact hR v' h'' tk'' hP' hF'' fun b o hbw hbS e=>hk'' b o hbw hbS ((Heap.get?_update_other _ _ (Ne.symm hbS)).trans (hk' b o (by simpa using hbw) e))
  | false=>
   simp only [Bool.false_eq_true,if_false]at e2 ⊢
   refine wpAny_bind (wpAny_letGo ?_)
   rw [hname]
   refine wpAny_pure ⟨plainId_quiet PySem.F.plain_max_loop _,ih (j+1) _ vb _ c (sub1 hk) hlt hst' hF' hb e2 hS' fun v' h'' tk'' hP' hF'' hk''=>?_⟩
   exact hR v' h'' tk'' hP' hF'' fun b o hbw hbS e=>hk'' b o hbw hbS (hk' b o (by simpa using hbw) e)
theorem wv8 {v:Value} {x:D} {r:List D} {d0:D} (hh:A.handled=none) (hu:A.units+10<cLine) (es:seqOf d0=some (x::r)) (e:bestBy (fun a b=>ltD b a) x r=some d) (vd:View C s.heap F v d0) (hF:F.In s.heap)
  (k:Cont C F s d Q):wpAny (model C.prog C.w) A (call (.builtin "max") [v]) Q E s:=by
 have hname:(toString "max"++toString ".loop":String)="max.loop":=by decide
 refine call_function_tree PySem.F.kind_max PySem.F.plain_max PySem.F.entry_max (PySem.F.args_max1 _) ?_
 show wpAny _ A.in1 (Builtin.Builtins.bindParams "max" ["key","default"] 0 ⟨[],[]⟩ >>= _) _ _ s
 refine wpAny_bind (wpAny_of_eq (show Builtin.Builtins.bindParams "max" ["key","default"] 0 ⟨[],[]⟩=pure [none,none] from rfl) ?_)
 refine wpAny_bind (wpAny_pure ?_)
 refine wpAny_bind (wi7 (A:=A.in1) hh es vd fun I s₂ fp P St ⟨W,hst,hfp,hP,hk0,hI0,hcm⟩=>?_)
 refine wpAny_bind (wpAny_newObj_type ?_)
 have hSf:s₂.heap.objs.size ∉ fp:=fun hm=>Nat.lt_irrefl _ (hfp _ hm)
 have hFI:F I=none:=noneF hF hI0
 have hF2:F.In s₂.heap:=fun b o e=>hk0 b o (hF b o e)
 have hFS:F s₂.heap.objs.size=none:=noneF hF2 (get?_size _)
 have hSI:s₂.heap.objs.size≠I:=fun h=>hSf (h ▸ W.sub I (by simp))
 rw [hname]
 refine wpAny_pure ⟨plainId_quiet PySem.F.plain_max_loop _,?_⟩
 refine codeAny_builtin PySem.F.entry_max_loop ?_
 rw [Around.under_plainId PySem.F.plain_max_loop _]
 show wpAny _ A.in1 (seqItems? (.ref s₂.heap.objs.size) >>= _) _ _ _
 have hS:=Heap.get?_push_size s₂.heap (o:={ cls:=.type "list",data:=.seq ([]:List Value).toArray }) rfl
 refine wpAny_bind (wpAny_seqItems hS rfl ?_)
 show wpAny _ A.in1 (tryCatch (pyNext (.ref I)) _ >>= _) _ _ _
 refine wpAny_bind (wpAny_tryCatch (W.item 0 _ _ _ (by simp) (W.frame _ _ _ hst fun b _ o e=>Heap.get?_push_of_some _ e) fun v h' tk hPv hst' hk'=>?_))
 have hS':=hk' _ _ (by simpa using hSI) hS
 have hF':F.In h':=fun b o e=>hk' b o (fun q=>by rw [List.mem_singleton.mp q,hFI]at e;cases e) (Heap.get?_push_of_some _ (hF2 b o e))
 obtain ⟨dv,hd1,hd2⟩:=hP _ _ hPv
 simp at hd1;subst hd1
 show wpAny _ A.in1 (updateSeq s₂.heap.objs.size (fun _=>#[v,v]) >>= _) _ _ _
 refine wpAny_bind ?_
 refine wpAny_updateSeq hS' rfl ?_
 rw [hname]
 refine wpAny_pure ⟨plainId_quiet PySem.F.plain_max_loop _,wtd (d:=d) W rfl hP hu hFI _ hSf hFS _ 1 _ v _ _ rfl (by simp) (W.frame _ _ _ hst' fun b hbf o e=>?_) (fun b o e=>?_) hd2 (by simpa using e) (Heap.get?_update_self _ hS' rfl) fun v' h'' tk'' hP' hF'' hk''=>?_⟩
 ·exact (Heap.get?_update_other _ _ (fun h:_=b=>hSf (by rw [h];exact hbf))).trans e
 ·exact (Heap.get?_update_other _ _ (fun h:_=b=>by rw [<- h,hFS]at e;cases e)).trans (hF' b o e)
 ·refine k v' _ F ⟨FH.le.refl F,hF'',KeepT.of fun b o e=>?_,fun _ _ e=>.inl e,⟨hcm.os,hcm.gens⟩⟩ hP'
  have hbI:b≠I:=fun q=>by rw [q,hI0]at e;cases e
  have hbS:b≠s₂.heap.objs.size:=fun q=>by have h1:=Heap.lt_size (hk0 b o e);rw [q]at h1;exact absurd h1 (Nat.lt_irrefl _)
  refine hk'' b o hbI hbS ((Heap.get?_update_other _ _ (Ne.symm hbS)).trans (hk' b o (by simpa using hbI) (Heap.get?_push_of_some _ (hk0 b o e))))
theorem wtb {I:Addr} {fp:List Addr} {n:Nat} {P:Nat->Value->Prop} {St:Nat->Heap->Prop} {ds:List D} {R:Result->Shared->Prop} (W:Walks C.prog C.w A.in1 I fp [I] n P St) (hn:n=ds.length)
  (hP:∀ i v,P i v->∃ d,ds[i]?=some d/\Rep C F v d) (hu:A.units+10<cLine) (hI:F I=none) (S:Addr) (hSf:S ∉ fp) (hS0:F S=none) :
  ∀ (k j:Nat) (s:Shared) (vb:Value) (db:D) (c:Nat),n - j=k->j<=n->St j s.heap->F.In s.heap->Rep C F vb db->bestBy ltD db (ds.drop j)=some d ->
  s.heap.get? S=some { cls:=.type "list",data:=.seq #[vb,vb] c } ->
  (∀ v h' tk,Rep C F v d->F.In h'->(∀ b o,b≠I->b≠S->s.heap.get? b=some o->h'.get? b=some o)->R (.ok (.ret v)) { s with heap:=h',toks:=tk }) ->
  codeAny (model C.prog C.w) A (.builtin "min.loop" ⟨[.ref I,.none,.ref S],[]⟩) R s:=by
 have hSI:S≠I:=fun h=>hSf (h ▸ W.sub I (by simp))
 have hname:(toString "min"++toString ".loop":String)="min.loop":=by decide
 have keepF:∀ {h h':Heap},F.In h->(∀ b o,b ∉ [I]->h.get? b=some o->h'.get? b=some o)->F.In h':=fun hF hk b o e=>hk b o (fun q=>by rw [List.mem_singleton.mp q,hI]at e;cases e) (hF b o e)
 intro k
 induction k with
 | zero=>
  intro j s vb db c hk hj hst hF hb he hS hR
  have hin:j=n:=Nat.le_antisymm hj (leSub hk)
  subst hin
  rw [List.drop_of_length_le (Nat.le_of_eq hn.symm)]at he
  cases he
  refine codeAny_builtin PySem.F.entry_min_loop ?_
  rw [Around.under_plainId PySem.F.plain_min_loop _]
  show wpAny _ A.in1 (seqItems? (.ref S) >>= _) _ _ s
  refine wpAny_bind (wpAny_seqItems hS rfl ?_)
  show wpAny _ A.in1 (tryCatch (pyNext (.ref I)) _ >>= _) _ _ s
  refine wpAny_bind (wpAny_tryCatch (W.done s _ _ hst fun h' tk hk'=>?_))
  have hS':=hk' S _ (by simpa using hSI) hS
  have hF':=keepF hF hk'
  show wpAny _ A.in1 (updateSeq S (fun _=>#[]) >>= _) _ _ _
  refine wpAny_bind ?_
  refine wpAny_updateSeq hS' rfl (wpAny_bind (wpAny_letGo (wpAny_pure ?_)))
  refine hR vb _ tk hb (fun b o e=>?_) fun b o hbw hbS e=>(Heap.get?_update_other _ _ (Ne.symm hbS)).trans (hk' b o (by simpa using hbw) e)
  exact (Heap.get?_update_other _ _ (fun h:S=b=>by rw [<- h,hS0]at e;cases e)).trans (hF' b o e)
 | succ k ih=>
  intro j s vb db c hk hj hst hF hb he hS hR
  have hlt:j<n:=ltSub hk
  have hjd:j<ds.length:=hn ▸ hlt
  rw [List.drop_eq_getElem_cons hjd]at he
  refine bindE he fun r e1 e2=>?_
  refine codeAny_builtin PySem.F.entry_min_loop ?_
  rw [Around.under_plainId PySem.F.plain_min_loop _]
  show wpAny _ A.in1 (seqItems? (.ref S) >>= _) _ _ s
  refine wpAny_bind (wpAny_seqItems hS rfl ?_)
  show wpAny _ A.in1 (tryCatch (pyNext (.ref I)) _ >>= _) _ _ s
  refine wpAny_bind (wpAny_tryCatch (W.item j s _ _ hlt hst fun v h' tk hPv hst' hk'=>?_))
  have hS':=hk' S _ (by simpa using hSI) hS
  have hF':=keepF hF hk'
  obtain ⟨dv,hd1,hd2⟩:=hP _ _ hPv
  rw [List.getElem?_eq_getElem hjd]at hd1
  cases hd1
  show wpAny _ A.in1 (tryCatch (holding [v,v] (richCompare .Lt v vb >>= _)) _ >>= _) _ _ _
  refine wpAny_bind (wpAny_tryCatch (wpAny_holding (wpAny_bind (wv9 (A:=A.in1) (s:=⟨h',s.gens,s.drawn,tk,s.os⟩) e1 hd2 hb hF' (by simp;omega) _ _ _ _ ?_))))
  refine wpAny_bind (wpAny_holding (wpAny_truthy_bool ?_))
  refine wpAny_bind (wpAny_letGo (wpAny_pure ?_))
  cases r with
  | true=>
   simp only [if_true]at e2 ⊢
   refine wpAny_bind ?_
   refine wpAny_updateSeq hS' rfl (wpAny_bind (wpAny_letGo ?_))
   rw [hname]
   refine wpAny_pure ⟨plainId_quiet PySem.F.plain_min_loop _,ih (j+1) _ v _ _ (sub1 hk) hlt (W.frame _ _ _ hst' fun b hbf o e=>?_) (fun b o e=>?_) hd2 e2 (Heap.get?_update_self _ hS' rfl)
    fun v' h'' tk'' hP' hF'' hk''=>?_⟩
   ·exact (Heap.get?_update_other _ _ (fun h:S=b=>hSf (by rw [h];exact hbf))).trans e
   ·exact (Heap.get?_update_other _ _ (fun h:S=b=>by rw [<- h,hS0]at e;cases e)).trans (hF' b o e)
   ·exact hR v' h'' tk'' hP' hF'' fun b o hbw hbS e=>hk'' b o hbw hbS ((Heap.get?_update_other _ _ (Ne.symm hbS)).trans (hk' b o (by simpa using hbw) e))
  | false=>
   simp only [Bool.false_eq_true,if_false]at e2 ⊢
   refine wpAny_bind (wpAny_letGo ?_)
   rw [hname]
   refine wpAny_pure ⟨plainId_quiet PySem.F.plain_min_loop _,ih (j+1) _ vb _ c (sub1 hk) hlt hst' hF' hb e2 hS' fun v' h'' tk'' hP' hF'' hk''=>?_⟩
   exact hR v' h'' tk'' hP' hF'' fun b o hbw hbS e=>hk'' b o hbw hbS (hk' b o (by simpa using hbw) e)
theorem wv6 {v:Value} {x:D} {r:List D} {d0:D} (hh:A.handled=none) (hu:A.units+10<cLine) (es:seqOf d0=some (x::r)) (e:bestBy ltD x r=some d) (vd:View C s.heap F v d0) (hF:F.In s.heap)
  (k:Cont C F s d Q):wpAny (model C.prog C.w) A (call (.builtin "min") [v]) Q E s:=by
 have hname:(toString "min"++toString ".loop":String)="min.loop":=by decide
 refine call_function_tree PySem.F.kind_min PySem.F.plain_min PySem.F.entry_min (PySem.F.args_min1 _) ?_
 show wpAny _ A.in1 (Builtin.Builtins.bindParams "min" ["key","default"] 0 ⟨[],[]⟩ >>= _) _ _ s
 refine wpAny_bind (wpAny_of_eq (show Builtin.Builtins.bindParams "min" ["key","default"] 0 ⟨[],[]⟩=pure [none,none] from rfl) ?_)
 refine wpAny_bind (wpAny_pure ?_)
 refine wpAny_bind (wi7 (A:=A.in1) hh es vd fun I s₂ fp P St ⟨W,hst,hfp,hP,hk0,hI0,hcm⟩=>?_)
 refine wpAny_bind (wpAny_newObj_type ?_)
 have hSf:s₂.heap.objs.size ∉ fp:=fun hm=>Nat.lt_irrefl _ (hfp _ hm)
 have hFI:F I=none:=noneF hF hI0
 have hF2:F.In s₂.heap:=fun b o e=>hk0 b o (hF b o e)
 have hFS:F s₂.heap.objs.size=none:=noneF hF2 (get?_size _)
 have hSI:s₂.heap.objs.size≠I:=fun h=>hSf (h ▸ W.sub I (by simp))
 rw [hname]
 refine wpAny_pure ⟨plainId_quiet PySem.F.plain_min_loop _,?_⟩
 refine codeAny_builtin PySem.F.entry_min_loop ?_
 rw [Around.under_plainId PySem.F.plain_min_loop _]
 show wpAny _ A.in1 (seqItems? (.ref s₂.heap.objs.size) >>= _) _ _ _
 have hS:=Heap.get?_push_size s₂.heap (o:={ cls:=.type "list",data:=.seq ([]:List Value).toArray }) rfl
 refine wpAny_bind (wpAny_seqItems hS rfl ?_)
 show wpAny _ A.in1 (tryCatch (pyNext (.ref I)) _ >>= _) _ _ _
 refine wpAny_bind (wpAny_tryCatch (W.item 0 _ _ _ (by simp) (W.frame _ _ _ hst fun b _ o e=>Heap.get?_push_of_some _ e) fun v h' tk hPv hst' hk'=>?_))
 have hS':=hk' _ _ (by simpa using hSI) hS
 have hF':F.In h':=fun b o e=>hk' b o (fun q=>by rw [List.mem_singleton.mp q,hFI]at e;cases e) (Heap.get?_push_of_some _ (hF2 b o e))
 obtain ⟨dv,hd1,hd2⟩:=hP _ _ hPv
 simp at hd1;subst hd1
 show wpAny _ A.in1 (updateSeq s₂.heap.objs.size (fun _=>#[v,v]) >>= _) _ _ _
 refine wpAny_bind ?_
 refine wpAny_updateSeq hS' rfl ?_
 rw [hname]
 refine wpAny_pure ⟨plainId_quiet PySem.F.plain_min_loop _,wtb (d:=d) W rfl hP hu hFI _ hSf hFS _ 1 _ v _ _ rfl (by simp) (W.frame _ _ _ hst' fun b hbf o e=>?_) (fun b o e=>?_) hd2 (by simpa using e) (Heap.get?_update_self _ hS' rfl) fun v' h'' tk'' hP' hF'' hk''=>?_⟩
 ·exact (Heap.get?_update_other _ _ (fun h:_=b=>hSf (by rw [h];exact hbf))).trans e
 ·exact (Heap.get?_update_other _ _ (fun h:_=b=>by rw [<- h,hFS]at e;cases e)).trans (hF' b o e)
 ·refine k v' _ F ⟨FH.le.refl F,hF'',KeepT.of fun b o e=>?_,fun _ _ e=>.inl e,⟨hcm.os,hcm.gens⟩⟩ hP'
  have hbI:b≠I:=fun q=>by rw [q,hI0]at e;cases e
  have hbS:b≠s₂.heap.objs.size:=fun q=>by have h1:=Heap.lt_size (hk0 b o e);rw [q]at h1;exact absurd h1 (Nat.lt_irrefl _)
  refine hk'' b o hbI hbS ((Heap.get?_update_other _ _ (Ne.symm hbS)).trans (hk' b o (by simpa using hbI) (Heap.get?_push_of_some _ (hk0 b o e))))
end
noncomputable def Views (C:Fr) (F G:FH):List D->List Value->Prop
 | [],vs=>vs=[]
 | d::ds,vs=>VC (Vw C F d G) (Views C F G ds) vs
noncomputable def bval:B->Value
 | .len=>.builtin "len" | .max=>.builtin "max" | .min=>.builtin "min" | .sum=>.builtin "sum" | .tuple=>.type "tuple"
 | .ord=>.builtin "ord" | .chr=>.builtin "chr" | .str=>.type "str" | .abs=>.builtin "abs"
section
variable {C:Fr} {F:FH} {A:Around} {E:Value->Shared->Prop} {s:Shared} {Q:Value->Shared->Prop} {d:D}
theorem oneV {α:Type} {r:α} {M:List Value->Prop} {G:FH} {ds:List D} {vs:List Value} {k:D->Option α} (h:oneK ds k=some r) (vv:Views C F G ds vs) (f:∀ d v,Vw C F d G v->k d=some r->M [v]):M vs:=by
 rcases ds with _ | ⟨d,_ | _⟩
 ·exact noneE h
 ·cases vv with | mk v1 v2=>cases v2;exact f _ _ v1 h
 ·exact noneE h
theorem intsE {P:Prop} {d:D} {ds:List D} {l:List Int} (h:intsOf (d::ds)=some l) (f:∀ i l',d=.int i->intsOf ds=some l'->l=i::l'->P):P:=
 intE (show intK d _=some l from h) fun i e h=>mapE h fun l' e' h=>f i l' e e' h.symm
theorem wi8 {ds:List D} {l:List Int} (h:intsOf ds=some l):l.length=ds.length/\∀ {i:Nat} {v:Value},(∃ d,ds[i]?=some d/\Rep C F v d)->∃ t,v=.int (l.getD i 0) t:=by
 induction ds generalizing l with
 | nil=>cases h;exact ⟨rfl,fun ⟨d,e,_⟩=>noneE e⟩
 | cons x ds ih=>
   refine intsE h fun n l' e e' q=>?_
   subst e;subst q
   refine ⟨congrArg Nat.succ (ih e').1,fun {i v} ⟨d,e,r⟩=>?_⟩
   cases i with
   | zero=>cases e;cases r;exact ⟨_,rfl⟩
   | succ i=>exact (ih e').2 ⟨d,e,r⟩
theorem wrf {x:Tx} {acc:Array Value} (h:ItemsOf (SignAt (mk x)) acc (mk x).cps.size):RepAll C F (chars x) acc.toList:=by
 obtain ⟨acc⟩:=acc
 obtain ⟨g1,g2⟩:=h
 have h1:acc.length=x.length:=g1.trans (List.size_toArray ..)
 have h2:∀ (j:Nat) v,acc[j]?=some v->∃ c u,x[j]?=some c/\v=.str ⟨#[c]⟩ u:=fun j v e=>let ⟨c,u,e1,e2⟩:=g2 j v (List.getElem?_toArray.trans e);⟨c,u,List.getElem?_toArray ▸ e1,e2⟩
 clear g1 g2
 induction acc generalizing x with
 | nil=>cases x with
  | nil=>exact rfl
  | cons=>exact succE h1
 | cons v l ih=>cases x with
  | nil=>exact succE h1.symm
  | cons c y=>
   obtain ⟨c',u,e1,rfl⟩:=h2 0 v rfl
   cases e1
   exact .mk (.mk (x:=[c]) u) (ih (Nat.succ.inj h1) fun j v e=>h2 (j+1) v e)
theorem wqA {a:Nat} (h:a<10 ^ 9):a.log2<1920:=by
 by_cases h0:a=0
 ·subst h0;decide +kernel
 ·exact Nat.lt_of_lt_of_le ((Nat.log2_lt h0).mpr (show a<2 ^ 30 by omega)) (by omega)
theorem wwa {v:Value} {a:D} (e:lenOf a=some d) (vd:View C s.heap F v a) (hF:F.In s.heap) (k:Cont C F s d Q):wpAny (model C.prog C.w) A (call (.builtin "len") [v]) Q E s:=by
 have cap62:∀ {n:Nat},n<=cap->n<2 ^ 62:=fun h=>Nat.lt_of_le_of_lt h (by decide)
 cases a<;>first | exact noneE e | skip
 ·cases vd
  exact ifE e fun hz e=>P.len_str (by rw [wb4];unfold cap at hz;omega) ((k.of e).here hF rfl (by rw [wb4];exact .mk _))
 ·cases vd with | mk hl r=>
  exact ifE e fun hz e=>call_len_list (waD hl).isList (by rw [r.size];unfold cap at hz;omega) ((k.of e).here hF rfl (by rw [r.size];exact .mk _))
 ·cases vd with | mk hl r=>
  exact ifE e fun hz e=>P.len_tuple hl (by rw [r.size];unfold cap at hz;omega) ((k.of e).here hF rfl (by rw [r.size];exact .mk _))
theorem wsC {v:Value} {a:D} (hh:A.handled=none) (e:tupleD a=some d) (vd:View C s.heap F v a) (hF:F.In s.heap) (k:Cont C F s d Q):wpAny (model C.prog C.w) A (call (.type "tuple") [v]) Q E s:=by
 have fin:∀ {h':Heap} {tk:Nat} {vs:Array Value} {ds:List D},Keep s.heap h'->RepAll C F ds vs.toList->Cont C F s (.tuple ds) Q->Q (.ref h'.objs.size) { s with heap:=h'.push { cls:=.type "tuple",data:=.seq vs },toks:=tk }:=fun {h' tk vs ds} hk r k=>
  have y:=Ext.put (s:=s) (s':={ s with heap:=h'.push { cls:=.type "tuple",data:=.seq vs },toks:=tk }) (o:={ cls:=.type "tuple",data:=.seq vs }) (a:=h'.objs.size) hF (Keep.trans hk (Keep.push h' _)) (weN hk (get?_size _)) (Heap.get?_push_size _ rfl)
  k _ _ _ y (r.new y.le)
 cases a<;>first | exact noneE e | skip
 ·cases vd
  exact ifE e fun hz e=>call_tuple_str hh _ _ (fun h' tk acc hk hacc=>fin hk (wrf hacc) (k.of e)) (waA (by rw [<- wb4]at hz;exact hz))
 ·cases vd with | mk hl r=>
  exact ifE e fun hz e=>call_tuple_list (waD hl).isList (fun h' hk=>fin (tk:=s.toks) hk r (k.of e)) (waA (by rw [r.size];exact hz))
theorem wup {v:Value} {a:D} {xs:List D} {l:List Int} (hh:A.handled=none) (hu:A.units+100<cLine) (e:intsOf xs=some l) (vd:View C s.heap F v (.list xs)) (hF:F.In s.heap) (k:Cont C F s (.int l.sum) Q):wpAny (model C.prog C.w) A (call (.builtin "sum") [v]) Q E s:=by
 refine call_sum_walkG (wi7 (A:=A.in1) hh rfl vd fun I s₂ fp P St ⟨W,hst,hfp,hP,hk0,hI0,hcm⟩=>?_)
 have q:=wi8 (C:=C) (F:=F) e
 refine ⟨I,fp,[I],_,P,St,fun i=>l.getD i 0,rfl,W,hst,hfp,fun i v hv=>q.2 (hP i v hv),fun h' tk t' hk=>?_⟩
 rw [preSum_getD,List.take_of_length_le (Nat.le_of_eq q.1)]
 refine k _ _ F (Ext.same hF (fun b o e=>hk b o (fun q=>?_) (hk0 b o e)) ⟨hcm.os,hcm.gens⟩) (.mk _)
 rw [List.mem_singleton.mp q,hI0]at e;exact noneE e
theorem bestOfE {P:Prop} {lt:D->D->Option Bool} {l:List D} (h:bestOf lt l=some d) (f:∀ x r,l=x::r->bestBy lt x r=some d->P):P:=by
 cases l with
 | nil=>exact noneE h
 | cons x r=>exact f x r rfl h
theorem maxBV {M:List Value->Prop} {G:FH} {lt:D->D->Option Bool} {f:Int->Int->Int} {ds:List D} {vs:List Value} (e:maxB lt f ds=some d) (vv:Views C F G ds vs)
  (h1:∀ a v x r,Vw C F a G v->seqOf a=some (x::r)->bestBy lt x r=some d->M [v]) (h2:∀ x t y u,some (.int (f x y))=some d->M [.int x t,.int y u]):M vs:=by
 rcases ds with _ | ⟨a,_ | ⟨b,_ | _⟩⟩
 ·exact noneE e
 ·cases vv with | mk v1 v2=>cases v2;exact bindE e fun l el e=>bestOfE e fun x r q e=>h1 _ _ x r v1 (q ▸ el) e
 ·cases vv with | mk v1 v2=>cases v2 with | mk v2 v3=>cases v3;exact wd2 (M:=fun a b=>M [a,b]) e v1 v2 fun x t y u e=>h2 x t y u e
 ·exact noneE e
theorem wwV {b:B} {vs:List Value} {ds:List D} (hh:A.handled=none) (hu:A.units+100<cLine) (e:bfn b ds=some d) (vv:Views C F s.heap.get? ds vs) (hF:F.In s.heap)
  (k:Cont C F s d Q):wpAny (model C.prog C.w) A (call (bval b) vs) Q E s:=by
 cases b with
 | len=>apply oneV e vv;intro a v va e;exact wwa e va hF k
 | tuple=>apply oneV e vv;intro a v va e;exact wsC hh e va hF k
 | max=>
  apply maxBV e vv
  ·intro a v x r va h1 h2;exact wv8 hh (by omega) h1 h2 va hF k
  ·intro x t y u e;exact max_two_ints hh fun h' tk hk=>k.of e _ _ F (Ext.same hF hk) (by by_cases c:y > x<;>simp only [c,if_true,if_false]<;>exact .mk _)
 | min=>
  apply maxBV e vv
  ·intro a v x r va h1 h2;exact wv6 hh (by omega) h1 h2 va hF k
  ·intro x t y u e;exact min_two_ints hh fun h' tk hk=>k.of e _ _ F (Ext.same hF hk) (by by_cases c:y<x<;>simp only [c,if_true,if_false]<;>exact .mk _)
 | sum=>apply oneV e vv;intro a v va e;refine listE e fun xs q e=>mapE e fun l e1 e2=>?_;subst q;exact wup (a:=.none) hh hu e1 va hF (k.of (congrArg some e2))
 | ord=>apply oneV e vv;intro a v va e;apply strV e va;intro x t e;exact oneE e fun c q e=>by subst q;exact P.ord_of_char ((k.of e).here hF rfl (.mk _))
 | chr=>apply oneV e vv;intro a v va e;apply intV e va;intro i t e;exact ifE e fun hz e=>P.chr_of_int (by simp;omega) ((k.of e).here hF rfl (.mk (x:=[i.toNat]) _))
 | str=>apply oneV e vv;intro a v va e;apply intV e va;intro i t e;exact ifE e fun hz e=>P.str_of_int (wqA hz) ((k.of e).here hF rfl (wkw (Str.ofString (toString i)) ▸ .mk (x:=intText i) _))
 | abs=>apply oneV e vv;intro a v va e;apply intV e va;intro i t e;exact PyProof.Rows.call_abs_int fun u tk=>(k.of e).here hF rfl (by rw [show (if i<0 then -i else i)=(i.natAbs:Int) by split<;>omega];exact .mk _)
end
noncomputable abbrev QV:=List (Str×Option Slot)
noncomputable def lookq (x:Str):QV->Option Slot
 | []=>none
 | (y,s)::r=>if y==x then s else lookq x r
noncomputable def setq (x:Str) (s:Slot):QV->QV
 | []=>[(x,some s)]
 | (y,t)::r=>if y==x then (y,some s)::r else (y,t)::setq x s r
noncomputable def visq (scope:Scope) (q:QV):QV:=q.map fun p=>(p.1,if scope.names.lookup p.1==some .free then p.2 else none)
noncomputable def onlyOk:Option Slot->Option Slot
 | some s=>if okSlot s then some s else none
 | none=>none
noncomputable def staysq (q:QV):QV:=q.map fun p=>(p.1,onlyOk p.2)
theorem wmB (x y:Str) (s:Slot) (q:QV):lookq y (setq x s q)=if x==y then some s else lookq y q:=by
 induction q with
 | nil=>rfl
 | cons p r ih=>
  unfold setq
  by_cases h:(p.1==x)=true
  ·rw [if_pos h]
   simp only [lookq]
   rw [eq_of_beq h]
   by_cases h2:(x==y)=true
   ·rw [if_pos h2,if_pos h2]
   ·rw [if_neg h2,if_neg h2,if_neg h2]
  ·rw [if_neg h]
   simp only [lookq]
   rw [ih]
   by_cases h2:(p.1==y)=true
   ·rw [if_pos h2,if_pos h2,if_neg fun e=>h (by rw [eq_of_beq h2,eq_of_beq e];exact beq_self_eq_true y)]
   ·rw [if_neg h2,if_neg h2]
theorem setqE {P:Prop} {x y:Str} {s t:Slot} {q:QV} (h:lookq y (setq x s q)=some t) (f:y=x->s=t->P) (g:y≠x->lookq y q=some t->P):P:=by
 rw [wmB]at h
 exact iteE h (fun e h=>f (eq_of_beq e).symm (Option.some.inj h)) fun e h=>g (fun q=>e (by rw [q];exact beq_self_eq_true x)) h
theorem wg4 (f:Str->Option Slot->Option Slot) (y:Str) (hf:∀ x,f x none=none) (q:QV):lookq y (q.map fun p=>(p.1,f p.1 p.2))=f y (lookq y q):=by
 induction q with
 | nil=>exact (hf y).symm
 | cons p r ih=>
  simp only [List.map_cons,lookq]
  by_cases h:(p.1==y)=true
  ·rw [if_pos h,if_pos h,eq_of_beq h]
  ·rw [if_neg h,if_neg h];exact ih
theorem wmC {P:Prop} {scope:Scope} {q:QV} {x:Str} {sl:Slot} (h:lookq x (visq scope q)=some sl) (f:scope.names.lookup x=some .free->lookq x q=some sl->P):P:=by
 unfold visq at h
 rw [wg4 (fun x o=>if scope.names.lookup x==some .free then o else none) x (fun x=>ite_self _)]at h
 exact ifE h fun e h=>f (eq_of_beq e) h
theorem wiP {P:Prop} {q:QV} {x:Str} {sl:Slot} (h:lookq x (staysq q)=some sl) (f:lookq x q=some sl->okSlot sl=true->P):P:=by
 unfold staysq at h
 rw [wg4 (fun _ o=>onlyOk o) x (fun x=>rfl)]at h
 cases e:lookq x q with
 | none=>rw [e]at h;exact noneE h
 | some t=>rw [e]at h;exact ifE h fun hs h=>f (e.trans h) (Option.some.inj h ▸ hs)
noncomputable def Holds (env:Env) (h:Heap) (x:Str) (v:Value):Prop:=
 (env.scope.names.lookup x=some .local/\∃ m,h.Ns env.locals m/\m x=some v) \/
 ((env.scope.names.lookup x=some .cell\/env.scope.names.lookup x=some .free)/\∃ c,env.cells.lookup x=some c/\h.IsCell c (some v))
theorem Holds.keep {env:Env} {h h':Heap} {x:Str} {v:Value} (k:KeepT h h') (x:Holds env h x v):Holds env h' ‹Str› v:=by
 rcases x with ⟨a,m,n,e⟩ | ⟨a,c,e,hc⟩
 ·exact .inl ⟨a,m,wrv n k,e⟩
 ·exact .inr ⟨a,c,e,wod hc k⟩
theorem wt6 {h:Heap} {L:Addr} {m m':Str->Option Value} (a:h.Ns L m) (b:h.Ns L m') (y:Str):m y=m' y:=by
 obtain ⟨o,es,ep,g1,g2,g3,g4⟩:=a
 obtain ⟨o',es',ep',g1',g2',g3',g4'⟩:=b
 have e:=Option.some.inj (g1.symm.trans g1');subst e
 have e:=g2.symm.trans g2'
 injection e with e1 e2
 subst e1
 exact (g4 y).symm.trans (g4' y)
theorem wvr {h:Heap} {c:Addr} {v v':Option Value} (a:h.IsCell c v) (b:h.IsCell c v'):v=v':=by
 obtain ⟨o,g1,g2⟩:=a
 obtain ⟨o',g1',g2'⟩:=b
 have e:=Option.some.inj (g1.symm.trans g1');subst e
 have e:=g2.symm.trans g2'
 injection e
theorem wi5 {k:Option NameKind} (a:k=some .local) (b:k=some .cell\/k=some .free):False:=by subst a;exact b.elim (fun e=>nomatch e) fun e=>nomatch e
theorem Holds.fn {env:Env} {h:Heap} {y:Str} {v v':Value} (hh:Holds env h y v) (h':Holds env h y v'):v=v':=by
 rcases hh with ⟨a,m,n,e⟩ | ⟨a,c,e,hc⟩
 ·rcases h' with ⟨_,m2,n2,e2⟩ | ⟨b,_⟩
  ·exact Option.some.inj (e.symm.trans ((wt6 n n2 y).trans e2))
  ·exact (wi5 a b).elim
 ·rcases h' with ⟨b,_⟩ | ⟨_,c2,e2,hc2⟩
  ·exact (wi5 b a).elim
  ·have q:=Option.some.inj (e.symm.trans e2);subst q
   exact Option.some.inj (wvr hc hc2)
noncomputable def biNames:List Str:=[Str.ofString "range",Str.ofString "zip",Str.ofString "enumerate",Str.ofString "len",Str.ofString "max",Str.ofString "min",Str.ofString "sum",Str.ofString "tuple",Str.ofString "ord",Str.ofString "chr",Str.ofString "str",Str.ofString "abs",Str.ofString "isinstance",Str.ofString "list"]
noncomputable def CodeO (o:Obj) (c P:Addr):Prop:=∃ vs file tf flags tg inF text tt,o.data=.fields vs/\vs.getD 11 .none=.ref P/\vs.getD 18 .none=.str file tf /\
  vs.getD 7 .none=.int flags tg/\vs.getD 9 .none=.bool inF/\vs.getD 10 .none=.int text tt/\c≠P
noncomputable def CodeF (F:FH) (c P:Addr):Prop:=∃ o,F c=some o/\CodeO o c P
theorem CodeF.mono {F F':FH} {c P:Addr} (x:CodeF F c P) (le:F.le F'):CodeF F' c P:=by
 obtain ⟨o,e,r⟩:=x
 exact ⟨o,le _ _ e,r⟩
structure Gd (C:Fr) (F:FH):Prop where
 kin:∀ b o,C.K.lookup b=some o->F b=some o
 glob:∃ o,F mainGlobals=some o/\NsO o C.mg
 bi:∃ o mb,F builtinsNs=some o/\NsO o mb/\∀ (x:Str) v,x≠"__name__"->bootBuiltins x=some v->mb x=some v
 lim:∃ o mc,F cStatics=some o/\NsO o mc/\mc "sys.recursionlimit"=none
 gl:∀ x d,C.T.gl.lookup x=some d->∃ v,C.mg x=some v/\Rep C F v d
 nob:∀ x∈biNames,C.mg x=none
 bf:∃ bm ob,C.mg "__builtins__"=some (.ref bm)/\bm≠builtinsNs/\F bm=some ob/\ob.cls=.type "module"/\ob.dict=some builtinsNs/\ob.data=.plain
theorem Gd.mono {C:Fr} {F F':FH} (g:Gd C F) (le:F.le F'):Gd C F' where
 kin b o e:=le _ _ (g.kin b o e)
 glob:=by obtain ⟨o,e,r⟩:=g.glob;exact ⟨o,le _ _ e,r⟩
 bi:=by obtain ⟨o,mb,e,r⟩:=g.bi;exact ⟨o,mb,le _ _ e,r⟩
 lim:=by obtain ⟨o,mb,e,r⟩:=g.lim;exact ⟨o,mb,le _ _ e,r⟩
 gl x d e:=by obtain ⟨v,h1,h2⟩:=g.gl x d e;exact ⟨v,h1,h2.mono le⟩
 nob:=g.nob
 bf:=by obtain ⟨bm,ob,e1,e2,e3,r⟩:=g.bf;exact ⟨bm,ob,e1,e2,le _ _ e3,r⟩
theorem Gd.noSys {C:Fr} {F:FH} (g:Gd C F) {h:Heap} (i:F.In h):(h.objs.size==sysModules)=false:=by
 obtain ⟨o,h1,_⟩:=g.glob
 have:=Heap.lt_size (i _ _ h1)
 rw [beq_eq_false_iff_ne]
 intro q
 rw [q]at this
 exact absurd this (by decide)
theorem Gd.limit {C:Fr} {F:FH} (g:Gd C F) {h:Heap} (i:F.In h):h.NoLimit:=by
 obtain ⟨ol,mc,e1,e2,e3⟩:=g.lim
 exact ⟨mc,e2.ns (i _ _ e1),e3⟩
theorem Gd.kIn {C:Fr} {F:FH} (g:Gd C F) {h:Heap} (i:F.In h):C.K.In h:=fun a o e=>i _ _ (g.kin _ _ e)
noncomputable def slotG (h:Heap) (F:FH):Slot->FH
 | .fz _=>F
 | .own _=>h.get?
noncomputable def slotD:Slot->D
 | .fz d=>d
 | .own d=>d
noncomputable abbrev SlotOk (C:Fr) (h:Heap) (F:FH) (v:Value) (sl:Slot):Prop:=Vw C F (slotD sl) (slotG h F sl) v
theorem SlotOk.view {C:Fr} {h:Heap} {F:FH} {v:Value} {sl:Slot} (i:F.In h) (r:SlotOk C h F v sl):View C h F v (slotD sl):=by
 cases sl with
 | fz d=>exact Rep.view r i
 | own d=>exact r
theorem SlotOk.ext {C:Fr} {s s':Shared} {F F':FH} {v:Value} {sl:Slot} (r:SlotOk C s.heap F v sl) (x:Ext F s F' s'):SlotOk C s'.heap F' v sl:=by
 cases sl with
 | fz d=>exact Rep.ext r x
 | own d=>exact View.ext r x
noncomputable abbrev tabAt (C:Fr):Addr:=C.cad (Str.ofString "<tab>")
noncomputable def Apart (env:Env) (a:Addr):Prop:=a≠env.locals/\∀ y c,env.cells.lookup y=some c->c≠a
noncomputable def Owns (env:Env) (h:Heap) (q:QV) (P:Addr->Prop):Prop:=∀ ⦃x d v⦄,lookq x q=some (.own d)->isVar env.scope x=true->Holds env h x v->∀ a∈tops h.get? v,P a
structure EnvOk (env:Env):Prop where
 kind:env.scope.kind=.function
 glob:env.globals=mainGlobals
 bi:env.builtins=builtinsNs
 cells:∀ x,(env.scope.names.lookup x=some .cell\/env.scope.names.lookup x=some .free)->∃ c,env.cells.lookup x=some c
 inj:∀ x y c,env.cells.lookup x=some c->env.cells.lookup y=some c->x=y
noncomputable def TabIn (C:Fr) (h:Heap):Prop:=∃ o,h.get? (tabAt C)=some o/\Tab0 o
structure RelR (C:Fr) (env:Env) (F:FH) (h:Heap) (q:QV):Prop where
 eo:EnvOk env
 inn:F.In h
 vars:∀ {x sl},lookq x q=some sl->isVar env.scope x=true->∃ v,Holds env h x v/\SlotOk C h F v sl
 cin:∀ {x c},env.cells.lookup x=some c->h.get? c≠none
 own:Owns env h q (Apart env)
 tab:TabIn C h
 ftab:F (tabAt C)=none
 code:env.scope.names.lookup gk=some .local->∃ c,env.code=.ref c/\CodeF F c (tabAt C)
section
variable {C:Fr} {F F':FH} {A:Around} {E:Value->Shared->Prop} {s:Shared} {Q:Value->Shared->Prop} {d:D} {env:Env} {q q':QV} {n:Nat} {h h':Heap} {P P':Addr->Prop}
theorem Ext.ftab {s s':Shared} {p:Addr} (x:Ext F s F' s') (hf:F p=none) (ht:∃ o,s.heap.get? p=some o/\Tab0 o):F' p=none:=by
 cases q:F' p with
 | none=>rfl
 | some o=>
  rcases x.new _ _ q with e | e
  ·exact noneE (hf.symm.trans e)
  ·obtain ⟨o',e',_⟩:=ht;exact noneE (e.symm.trans e')
theorem Ext.tab {s s':Shared} (x:Ext F s F' s') (ht:TabIn C s.heap):TabIn C s'.heap:=by
 obtain ⟨o,e,t⟩:=ht
 obtain ⟨o',e',t'⟩:=x.keep.tab _ o e t
 exact ⟨o',e',t'.tab⟩
noncomputable def Still (env:Env) (h h':Heap) (q q':QV):Prop:=∀ ⦃x d v⦄,lookq x q'=some (.own d)->isVar env.scope x=true->Holds env h' x v->lookq x q=some (.own d)/\Holds env h x v/\tops h'.get? v=tops h.get? v
theorem Owns.mv (o:Owns env h q P) (z:Still env h h' q q') (f:∀ a,P a->P' a):Owns env h' q' P':=fun x d v hl hv hh a ha=>by
 obtain ⟨h1,h2,h3⟩:=z hl hv hh
 exact f a (o h1 hv h2 a (h3 ▸ ha))
theorem RelR.still (r:RelR C env F h q) (hold:∀ x v,Holds env h x v->Holds env h' x v)
  (kt:∀ {x d v},lookq x q=some (.own d)->isVar env.scope x=true->Holds env h x v->∀ a∈tops h.get? v,∀ o,h.get? a=some o->¬ Tab0 o->h'.get? a=some o):Still env h h' q q:=fun x d v hl hv hh=>by
 obtain ⟨v',h1,h2⟩:=r.vars hl hv
 have e:=hh.fn (hold x v' h1);subst e
 exact ⟨hl,h1,wgc h2 (kt hl hv h1)⟩
theorem RelR.stillX {s':Shared} (r:RelR C env F s.heap q) (x:Ext F s F' s'):Still env s.heap s'.heap q q:=
 r.still (fun y v hh=>hh.keep x.keep) fun hl hv hh a ha o e n=>x.keep.at_ a o e n
theorem RelR.ext {s s':Shared} (r:RelR C env F s.heap q) (x:Ext F s F' s'):RelR C env F' s'.heap q where
 eo:=r.eo
 inn:=x.inn
 vars e hv:=by obtain ⟨v,h1,h2⟩:=r.vars e hv;exact ⟨v,h1.keep x.keep,h2.ext x⟩
 cin e:=x.keep.alive (r.cin e)
 own:=r.own.mv (r.stillX x) fun _=>id
 tab:=x.tab r.tab
 ftab:=x.ftab r.ftab r.tab
 code z:=by obtain ⟨c,e,y⟩:=r.code z;exact ⟨c,e,y.mono x.le⟩
structure Ok (C:Fr) (A:Around) (n:Nat) (env:Env) (q:QV) (F:FH) (s:Shared):Prop where
 R:Room A n
 g:Gd C F
 r:RelR C env F s.heap q
theorem Ok.ext {s':Shared} (X:Ok C A n env q F s) (x:Ext F s F' s'):Ok C A n env q F' s':=⟨X.R,X.g.mono x.le,X.r.ext x⟩
theorem Ok.here (X:Ok C A n env q F s):Ext F s F s:=Ext.refl X.r.inn
theorem wdO {sc:Scope} {x:Str} (h:isVar sc x=true):(x==("__debug__":Str))=false/\(x==("__classdict__":Str))=false:=by
 unfold isVar at h
 split at h<;>simp_all
theorem wqC {sc:Scope} {x:Str} (h1:(x==("__debug__":Str))=false) (h2:(x==("__classdict__":Str))=false) (h:sc.names.lookup x=some .cell\/sc.names.lookup x=some .free):isVar sc x=true:=by
 unfold isVar
 rcases h with q | q<;>(rw [q];simp only [h1,h2];rfl)
theorem wkx {x:Str} {v:Value} (r:RelR C env F s.heap q) (hv:isVar env.scope x=true) (h:Holds env s.heap x v) (k:Q v s):wpAny (model C.prog C.w) A (loadName env x) Q E s:=by
 rcases h with ⟨a,m,n,e⟩ | ⟨a | a,c,e,hc⟩
 ·exact wpAny_loadName_local r.eo.kind a n e k
 ·exact wpAny_loadName_cell r.eo.kind a e hc k
 ·exact wpAny_loadName_free r.eo.kind a e hc k (wdO hv).2
theorem wgg {x:Str} {pos:Pos} {v:Value} (r:RelR C env F s.heap q) (hv:isVar env.scope x=true) (h:Holds env s.heap x v) (k:Q v s):wpAny (model C.prog C.w) A (eval (.Name x pos) env) Q E s:=
 wpAny_Name (wkx r hv h k) (wdO hv).1
theorem wdP {sc:Scope} {x:Str} (h:isGlob sc x=true):sc.names.lookup x=some .globalImplicit/\(x==("__debug__":Str))=false:=
 andE h fun h1 h2=>⟨eq_of_beq h1,by simpa using h2⟩
theorem wfc {x:Str} {pos:Pos} {v:Value} (X:Ok C A n env q F s) (hg:isGlob env.scope x=true) (e:C.mg x=some v) (k:Q v s) :
  wpAny (model C.prog C.w) A (eval (.Name x pos) env) Q E s:=by
 obtain ⟨o,h1,h2⟩:=X.g.glob
 exact Name_function_global X.r.eo.kind (wdP hg).1 (loadGlobal_global (mg:=C.mg) (by rw [X.r.eo.glob];exact h2.ns (X.r.inn _ _ h1)) e k) (wdP hg).2
theorem wkV {x:Str} {pos:Pos} {v:Value} (X:Ok C A n env q F s) (hg:isGlob env.scope x=true) (hn:x≠("__name__":Str)) (e:C.mg x=none) (hb:bootBuiltins x=some v) (k:Q v s) :
  wpAny (model C.prog C.w) A (eval (.Name x pos) env) Q E s:=by
 obtain ⟨o,h1,h2⟩:=X.g.glob
 obtain ⟨ob,mb,h3,h4,h5⟩:=X.g.bi
 exact Name_function_global X.r.eo.kind (wdP hg).1 (loadGlobal_builtin (mg:=C.mg) (mb:=mb) (by rw [X.r.eo.glob];exact h2.ns (X.r.inn _ _ h1)) e (by rw [X.r.eo.bi];exact h4.ns (X.r.inn _ _ h3)) (h5 _ _ hn hb) k) (wdP hg).2
end
end Mine.Py
end
section
namespace Mine.Py
open PySem
set_option genInjectivity false
set_option genSizeOf false
structure KJ where
 ev:{α:Type}->Scope->QV->Expr->(D->Option α)->Option α
 tr:{α:Type}->Scope->QV->Expr->(Bool->Option α)->Option α
 it:{α:Type}->Scope->QV->Expr->Expr->(List D->Option α)->Option α
 exs:Cx->Scope->QV->List Stmt->(QV->Option D)->(QV->Option D)->(QV->Option D)->(D->Option D)->Option D
section
variable {α:Type}
noncomputable def fzK (s:Option Slot) (k:D->Option α):Option α:=match s with
 | some (.fz d)=>k d
 | _=>none
noncomputable def ownK (s:Option Slot) (k:D->Option α):Option α:=match s with
 | some (.own d)=>k d
 | _=>none
noncomputable def nameK (e:Expr) (k:Str->Option α):Option α:=nmV e none fun x _=>k x
noncomputable def tupleK (e:Expr) (k:List Expr->Option α):Option α:=(PySem.Expr.casesOn (motive_1:=fun _=>_) e (fun _ _ _=>none) (fun _ _ _=>none) (fun _ _ _ _=>none) (fun _ _ _=>none) (fun _ _ _ _=>none) (fun _ _ _ _=>none) (fun _ _ _=>none) (fun _ _ _=>none) (fun _ _ _ _=>none) (fun _ _ _ _=>none) (fun _ _ _ _ _=>none) (fun _ _ _ _=>none) (fun _ _=>none) (fun _ _=>none) (fun _ _=>none) (fun _ _ _ _=>none) (fun _ _ _ _=>none) (fun _ _ _ _=>none) (fun _ _=>none) (fun _ _ _=>none) (fun _ _ _=>none) (fun _ _ _=>none) (fun _ _=>none) (fun _ _=>none) (fun _ _=>none) (fun ts _ _=>k ts) (fun _ _ _ _=>none))
noncomputable def sliceK (e:Expr) (k:Option Expr->Option Expr->Option α):Option α:=(PySem.Expr.casesOn (motive_1:=fun _=>_) e (fun _ _ _=>none) (fun _ _ _=>none) (fun _ _ _ _=>none) (fun _ _ _=>none) (fun _ _ _ _=>none) (fun _ _ _ _=>none) (fun _ _ _=>none) (fun _ _ _=>none) (fun _ _ _ _=>none) (fun _ _ _ _=>none) (fun _ _ _ _ _=>none) (fun _ _ _ _=>none) (fun _ _=>none) (fun _ _=>none) (fun _ _=>none) (fun _ _ _ _=>none) (fun _ _ _ _=>none) (fun _ _ _ _=>none) (fun _ _=>none) (fun _ _ _=>none) (fun _ _ _=>none) (fun _ _ _=>none) (fun _ _=>none) (fun _ _=>none) (fun _ _=>none) (fun _ _ _=>none) (fun lo hi st _=>if st.isNone then k lo hi else none))
noncomputable def callK (e:Expr) (k:Expr->List Expr->Pos->Option α):Option α:=(PySem.Expr.casesOn (motive_1:=fun _=>_) e (fun _ _ _=>none) (fun _ _ _=>none) (fun _ _ _ _=>none) (fun _ _ _=>none) (fun _ _ _ _=>none) (fun _ _ _ _=>none) (fun _ _ _=>none) (fun _ _ _=>none) (fun _ _ _ _=>none) (fun _ _ _ _=>none) (fun _ _ _ _ _=>none) (fun _ _ _ _=>none) (fun _ _=>none) (fun _ _=>none) (fun _ _=>none) (fun _ _ _ _=>none) (fun f as ks p=>if ks.isEmpty then k f as p else none) (fun _ _ _ _=>none) (fun _ _=>none) (fun _ _ _=>none) (fun _ _ _=>none) (fun _ _ _=>none) (fun _ _=>none) (fun _ _=>none) (fun _ _=>none) (fun _ _ _=>none) (fun _ _ _ _=>none))
noncomputable def attrK (e:Expr) (k:Expr->Str->Pos->Option α):Option α:=(PySem.Expr.casesOn (motive_1:=fun _=>_) e (fun _ _ _=>none) (fun _ _ _=>none) (fun _ _ _ _=>none) (fun _ _ _=>none) (fun _ _ _ _=>none) (fun _ _ _ _=>none) (fun _ _ _=>none) (fun _ _ _=>none) (fun _ _ _ _=>none) (fun _ _ _ _=>none) (fun _ _ _ _ _=>none) (fun _ _ _ _=>none) (fun _ _=>none) (fun _ _=>none) (fun _ _=>none) (fun _ _ _ _=>none) (fun _ _ _ _=>none) (fun _ _ _ _=>none) (fun _ _=>none) (fun _ _ _=>none) (fun o a p=>k o a p) (fun _ _ _=>none) (fun _ _=>none) (fun _ _=>none) (fun _ _=>none) (fun _ _ _=>none) (fun _ _ _ _=>none))
noncomputable def addK (e:Expr) (k:Expr->Expr->Option α):Option α:=(PySem.Expr.casesOn (motive_1:=fun _=>_) e (fun _ _ _=>none) (fun _ _ _=>none) (fun l op r _=>if op=.Add then k l r else none) (fun _ _ _=>none) (fun _ _ _ _=>none) (fun _ _ _ _=>none) (fun _ _ _=>none) (fun _ _ _=>none) (fun _ _ _ _=>none) (fun _ _ _ _=>none) (fun _ _ _ _ _=>none) (fun _ _ _ _=>none) (fun _ _=>none) (fun _ _=>none) (fun _ _=>none) (fun _ _ _ _=>none) (fun _ _ _ _=>none) (fun _ _ _ _=>none) (fun _ _=>none) (fun _ _ _=>none) (fun _ _ _=>none) (fun _ _ _=>none) (fun _ _=>none) (fun _ _=>none) (fun _ _=>none) (fun _ _ _=>none) (fun _ _ _ _=>none))
noncomputable def genK (e:Expr) (k:Expr->List Comprehension->Scope->Option α):Option α:=(PySem.Expr.casesOn (motive_1:=fun _=>_) e (fun _ _ _=>none) (fun _ _ _=>none) (fun _ _ _ _=>none) (fun _ _ _=>none) (fun _ _ _ _=>none) (fun _ _ _ _=>none) (fun _ _ _=>none) (fun _ _ _=>none) (fun _ _ _ _=>none) (fun _ _ _ _=>none) (fun _ _ _ _ _=>none) (fun elt gens scope _=>k elt gens scope) (fun _ _=>none) (fun _ _=>none) (fun _ _=>none) (fun _ _ _ _=>none) (fun _ _ _ _=>none) (fun _ _ _ _=>none) (fun _ _=>none) (fun _ _ _=>none) (fun _ _ _=>none) (fun _ _ _=>none) (fun _ _=>none) (fun _ _=>none) (fun _ _=>none) (fun _ _ _=>none) (fun _ _ _ _=>none))
noncomputable def twoK {β:Type} (l:List β) (k:β->β->Option α):Option α:=match l with
 | [a,b]=>k a b
 | _=>none
noncomputable def compK (l:List Comprehension) (k:Expr->Expr->List Expr->Option α):Option α:=oneK l fun c=>if c.is_async=0 then k c.target c.iter c.ifs else none
variable {P:Prop} {r:α}
theorem fzE {s:Option Slot} {k:D->Option α} (h:fzK s k=some r) (f:∀ d,s=some (.fz d)->k d=some r->P):P:=by
 rcases s with _ | ⟨_⟩ | ⟨_⟩<;>first | exact f _ rfl h | exact noneE h
theorem ownE {s:Option Slot} {k:D->Option α} (h:ownK s k=some r) (f:∀ d,s=some (.own d)->k d=some r->P):P:=by
 rcases s with _ | ⟨_⟩ | ⟨_⟩<;>first | exact f _ rfl h | exact noneE h
theorem nameM {M:Expr->Prop} {e:Expr} {k:Str->Option α} (h:nameK e k=some r) (f:∀ x p,k x=some r->M (.Name x p)):M e:=by
 cases e<;>first | exact f _ _ h | exact noneE h
theorem nameE {e:Expr} {k:Str->Option α} (h:nameK e k=some r):∃ x p,e=.Name x p/\k x=some r:=nameM (M:=fun e=>∃ x p,e=.Name x p/\k x=some r) h fun x p h=>⟨x,p,rfl,h⟩
theorem tupleM {M:Expr->Prop} {e:Expr} {k:List Expr->Option α} (h:tupleK e k=some r) (f:∀ x n p,k x=some r->M (.Tuple x n p)):M e:=by
 cases e<;>first | exact f _ _ _ h | exact noneE h
theorem tupleE {e:Expr} {k:List Expr->Option α} (h:tupleK e k=some r):∃ x n p,e=.Tuple x n p/\k x=some r:=tupleM (M:=fun e=>∃ x n p,e=.Tuple x n p/\k x=some r) h fun x n p h=>⟨x,n,p,rfl,h⟩
theorem sliceM {M:Expr->Prop} {e:Expr} {k:Option Expr->Option Expr->Option α} (h:sliceK e k=some r) (f:∀ lo hi st p,(if st.isNone then k lo hi else none)=some r->M (.Slice lo hi st p)):M e:=by
 cases e<;>first | exact f _ _ _ _ h | exact noneE h
theorem sliceE {e:Expr} {k:Option Expr->Option Expr->Option α} (h:sliceK e k=some r):∃ lo hi st p,e=.Slice lo hi st p/\(if st.isNone then k lo hi else none)=some r:=sliceM (M:=fun e=>∃ lo hi st p,e=.Slice lo hi st p/\(if st.isNone then k lo hi else none)=some r) h fun lo hi st p h=>⟨lo,hi,st,p,rfl,h⟩
theorem callM {M:Expr->Prop} {e:Expr} {k:Expr->List Expr->Pos->Option α} (h:callK e k=some r) (f:∀ g as ks p,(if ks.isEmpty then k g as p else none)=some r->M (.Call g as ks p)):M e:=by
 cases e<;>first | exact f _ _ _ _ h | exact noneE h
theorem callE {e:Expr} {k:Expr->List Expr->Pos->Option α} (h:callK e k=some r):∃ g as ks p,e=.Call g as ks p/\(if ks.isEmpty then k g as p else none)=some r:=callM (M:=fun e=>∃ g as ks p,e=.Call g as ks p/\(if ks.isEmpty then k g as p else none)=some r) h fun g as ks p h=>⟨g,as,ks,p,rfl,h⟩
theorem attrM {M:Expr->Prop} {e:Expr} {k:Expr->Str->Pos->Option α} (h:attrK e k=some r) (f:∀ o a p,k o a p=some r->M (.Attribute o a p)):M e:=by
 cases e<;>first | exact f _ _ _ h | exact noneE h
theorem addM {M:Expr->Prop} {e:Expr} {k:Expr->Expr->Option α} (h:addK e k=some r) (f:∀ a op b p,(if op=.Add then k a b else none)=some r->M (.BinOp a op b p)):M e:=by
 cases e<;>first | exact f _ _ _ _ h | exact noneE h
theorem genM {M:Expr->Prop} {e:Expr} {k:Expr->List Comprehension->Scope->Option α} (h:genK e k=some r) (f:∀ a b c p,k a b c=some r->M (.GeneratorExp a b c p)):M e:=by
 cases e<;>first | exact f _ _ _ _ h | exact noneE h
theorem twoE {β:Type} {l:List β} {k:β->β->Option α} (h:twoK l k=some r) (f:∀ a b,l=[a,b]->k a b=some r->P):P:=by
 rcases l with _ | ⟨a,_ | ⟨b,_ | _⟩⟩<;>first | exact f _ _ rfl h | exact noneE h
theorem compE {l:List Comprehension} {k:Expr->Expr->List Expr->Option α} (h:compK l k=some r) (f:∀ t it ifs,l=[⟨t,it,ifs,0⟩]->k t it ifs=some r->P):P:=
 oneE h fun c e h=>by
  obtain ⟨t,it,ifs,a⟩:=c
  exact ifE h fun z h=>f t it ifs (by rw [e];exact congrArg (fun a=>[(⟨t,it,ifs,a⟩:Comprehension)]) z) h
theorem twoM {β:Type} {M:List β->Prop} {l:List β} {k:β->β->Option α} (h:twoK l k=some r) (f:∀ a b,k a b=some r->M [a,b]):M l:=twoE h fun a b e h=>e ▸ f a b h
theorem oneM {β:Type} {M:List β->Prop} {l:List β} {k:β->Option α} (h:oneK l k=some r) (f:∀ a,k a=some r->M [a]):M l:=oneE h fun a e h=>e ▸ f a h
theorem compM {M:List Comprehension->Prop} {l:List Comprehension} {k:Expr->Expr->List Expr->Option α} (h:compK l k=some r) (f:∀ t it ifs,k t it ifs=some r->M [⟨t,it,ifs,0⟩]):M l:=compE h fun t it ifs e h=>e ▸ f t it ifs h
theorem wax {β:Type} {l:List β} (h:l.isEmpty=true):l=[]:=List.isEmpty_iff.mp h
end
section
variable (T:Tab) (CF:Str->List D->Option D) (CM:Str->Str->List D->Option D) (K:KJ)
noncomputable def callOk (o:Expr) (ap p:Pos):Bool:=ap.endLine==p.line&&(o.ctorIdx != 16||(callK o fun f _ _=>nameK f fun id=>if id==("super":Str) then none else some ()).isSome)
noncomputable def somes:List (Option Expr)->List Expr->Bool
 | [],[]=>true
 | some _::ks,_::vs=>somes ks vs
 | _,_=>false
noncomputable def noStar (args:List Expr):Bool:=args.all fun e=>!isStarE e
noncomputable def rdQ {α:Type} (sc:Scope) (q:QV) (x:Str) (k:D->Option α):Option α:=
 if isVar sc x then optK (lookq x q) fun s=>k (slotD s) else if isGlob sc x then optK (T.gl.lookup x) k else none
noncomputable def pkQ {α:Type} (sc:Scope) (q:QV) (e:Expr) (k:D->Option α):Option α:=(PySem.Expr.casesOn (motive_1:=fun _=>_) e (fun x0 x1 x2=>K.ev sc q (.BoolOp x0 x1 x2) k) (fun x0 x1 x2=>K.ev sc q (.NamedExpr x0 x1 x2) k) (fun x0 x1 x2 x3=>K.ev sc q (.BinOp x0 x1 x2 x3) k) (fun x0 x1 x2=>K.ev sc q (.UnaryOp x0 x1 x2) k) (fun x0 x1 x2 x3=>K.ev sc q (.Lambda x0 x1 x2 x3) k) (fun x0 x1 x2 x3=>K.ev sc q (.IfExp x0 x1 x2 x3) k) (fun x0 x1 x2=>K.ev sc q (.Dict x0 x1 x2) k) (fun x0 x1 x2=>K.ev sc q (.Set x0 x1 x2) k) (fun x0 x1 x2 x3=>K.ev sc q (.ListComp x0 x1 x2 x3) k) (fun x0 x1 x2 x3=>K.ev sc q (.SetComp x0 x1 x2 x3) k) (fun x0 x1 x2 x3 x4=>K.ev sc q (.DictComp x0 x1 x2 x3 x4) k) (fun x0 x1 x2 x3=>K.ev sc q (.GeneratorExp x0 x1 x2 x3) k) (fun x0 x1=>K.ev sc q (.Await x0 x1) k) (fun x0 x1=>K.ev sc q (.Yield x0 x1) k) (fun x0 x1=>K.ev sc q (.YieldFrom x0 x1) k) (fun x0 x1 x2 x3=>K.ev sc q (.Compare x0 x1 x2 x3) k) (fun x0 x1 x2 x3=>K.ev sc q (.Call x0 x1 x2 x3) k) (fun x0 x1 x2 x3=>K.ev sc q (.FormattedValue x0 x1 x2 x3) k) (fun x0 x1=>K.ev sc q (.JoinedStr x0 x1) k) (fun x0 x1 x2=>K.ev sc q (.Constant x0 x1 x2) k) (fun x0 x1 x2=>K.ev sc q (.Attribute x0 x1 x2) k) (fun x0 x1 x2=>K.ev sc q (.Subscript x0 x1 x2) k) (fun x0 x1=>K.ev sc q (.Starred x0 x1) k) (fun x _=>rdQ T sc q x k) (fun x0 x1=>K.ev sc q (.List x0 x1) k) (fun x0 x1 x2=>K.ev sc q (.Tuple x0 x1 x2) k) (fun x0 x1 x2 x3=>K.ev sc q (.Slice x0 x1 x2 x3) k))
noncomputable def evLQ {α:Type} (sc:Scope) (q:QV):List Expr->(List D->Option α)->Option α
 | [],k=>k []
 | e::r,k=>if isStarE e then none else K.ev sc q e fun d=>evLQ sc q r fun ds=>k (d::ds)
noncomputable def pkLQ {α:Type} (sc:Scope) (q:QV):List Expr->(List D->Option α)->Option α
 | [],k=>k []
 | e::r,k=>if isStarE e then none else pkQ T K sc q e fun d=>pkLQ sc q r fun ds=>k (d::ds)
noncomputable def evOptQ {α:Type} (sc:Scope) (q:QV) (o:Option Expr) (k:Option Int->Option α):Option α:=match o with
 | none=>k none
 | some e=>K.ev sc q e fun d=>intK d fun i=>k (some i)
noncomputable def evKVsQ {α:Type} (sc:Scope) (q:QV):List (Option Expr)->List Expr->(List (Key×D)->Option α)->Option α
 | [],[],k=>k []
 | o::ks,v::vs,k=>optK o fun e=>K.ev sc q e fun kd=>(toKey kd).bind fun kk=>K.ev sc q v fun vd=>evKVsQ sc q ks vs fun r=>k ((kk,vd)::r)
 | [],_::_,_=>none
 | _::_,[],_=>none
noncomputable def trAllQ (sc:Scope) (q:QV):List Expr->Option Bool
 | []=>some true
 | e::r=>K.tr sc q e fun b=>if b then trAllQ sc q r else some false
noncomputable def trAnyQ (sc:Scope) (q:QV):List Expr->Option Bool
 | []=>some false
 | e::r=>K.tr sc q e fun b=>if b then some true else trAnyQ sc q r
noncomputable def evAndQ (sc:Scope) (q:QV):List Expr->Option D
 | []=>none
 | [e]=>K.ev sc q e some
 | e::r=>K.ev sc q e fun d=>boolK d fun b=>if b then evAndQ sc q r else some (.bool false)
noncomputable def evOrQ (sc:Scope) (q:QV):List Expr->Option D
 | []=>none
 | [e]=>K.ev sc q e some
 | e::r=>K.ev sc q e fun d=>boolK d fun b=>if b then some (.bool true) else evOrQ sc q r
noncomputable def bindNs (sc:Scope):List Expr->List D->QV->Option QV
 | [],[],q=>some q
 | t::ts,d::ds,q=>nameK t fun x=>if canSet sc x then bindNs sc ts ds (setq x (.fz d) q) else none
 | [],_::_,_=>none
 | _::_,[],_=>none
noncomputable def bindTQ {α:Type} (ss:Scope) (t:Expr) (d:D) (q:QV) (k:QV->Option α):Option α:=(PySem.Expr.casesOn (motive_1:=fun _=>_) t (fun _ _ _=>none) (fun _ _ _=>none) (fun _ _ _ _=>none) (fun _ _ _=>none) (fun _ _ _ _=>none) (fun _ _ _ _=>none) (fun _ _ _=>none) (fun _ _ _=>none) (fun _ _ _ _=>none) (fun _ _ _ _=>none) (fun _ _ _ _ _=>none) (fun _ _ _ _=>none) (fun _ _=>none) (fun _ _=>none) (fun _ _=>none) (fun _ _ _ _=>none) (fun _ _ _ _=>none) (fun _ _ _ _=>none) (fun _ _=>none) (fun _ _ _=>none) (fun _ _ _=>none) (fun _ _ _=>none) (fun _ _=>none) (fun x _=>if canSet ss x then k (setq x (.fz d) q) else none) (fun _ _=>none) (fun ts _ _=>tupK d fun l=>unN ts.length l fun ds=>(bindNs ss ts ds q).bind k) (fun _ _ _ _=>none))
noncomputable def zipSumQ (da db:D):Option D:=tupK da fun la=>tupK db fun lb=>if la.length<=cap/\lb.length<=cap then (intsOf la).bind fun xs=>(intsOf lb).map fun ys=>.tuple (List.zipWith (fun u v=>.int (u+v)) xs ys) else none
noncomputable def isTupQ (d:D):Option Bool:=match d with
 | .tuple _=>some true
 | .int _=>some false
 | _=>none
noncomputable def isiQ {α:Type} (sc:Scope) (q:QV) (args:List Expr) (k:D->Option α):Option α:=
 twoK args fun e c=>nameK c fun c=>if c==("tuple":Str)&&isGlob sc c&&!isStarE e then pkQ T K sc q e fun d=>(isTupQ d).bind fun b=>k (.bool b) else none
noncomputable def lrQ {α:Type} (sc:Scope) (q:QV) (args:List Expr) (k:D->Option α):Option α:=
 oneK args fun e=>callK e fun g as _=>nameK g fun g=>if g==("range":Str)&&isGlob sc g&&noStar as then pkLQ T K sc q as fun ds=>(rangeD ds).bind fun l=>k (.list l) else none
noncomputable def gs3Q {α:Type} (sc:Scope) (q:QV) (scope:Scope) (x y x' y':Str) (it:Expr) (ifs:List Expr) (k:D->Option α):Option α:=
 callK it fun z as _=>nameK z fun z=>twoK as fun a b=>if ifs.isEmpty&&z==("zip":Str)&&isGlob sc z&&x==x'&&y==y'&&genOk sc scope x y&&!isStarE a&&!isStarE b then
   pkQ T K sc q a fun da=>pkQ T K sc q b fun db=>(zipSumQ da db).bind k else none
noncomputable def gs2Q {α:Type} (sc:Scope) (q:QV) (scope:Scope) (x y:Str) (gens:List Comprehension) (k:D->Option α):Option α:=
 compK gens fun t it ifs=>tupleK t fun ts=>twoK ts fun t1 t2=>nameK t1 fun x'=>nameK t2 fun y'=>gs3Q T K sc q scope x y x' y' it ifs k
noncomputable def gsQ {α:Type} (sc:Scope) (q:QV) (args:List Expr) (k:D->Option α):Option α:=
 oneK args fun g=>genK g fun elt gens scope=>addK elt fun l r=>nameK l fun x=>nameK r fun y=>gs2Q T K sc q scope x y gens k
noncomputable def hasF (T:Tab) (f:Str):Bool:=(T.fns.lookup f).isSome||(T.cls.lookup f).isSome
noncomputable def isGen (args:List Expr):Bool:=args.any fun e=>e.ctorIdx==11
noncomputable def woi {α:Type} (sc:Scope) (q:QV) (f:Str) (args:List Expr) (k:D->Option α):Option α:=
 if isGlob sc f then
  if f==("isinstance":Str) then isiQ T K sc q args k
  else if f==("list":Str) then lrQ T K sc q args k
  else match bname f with
   | some b=>if f==("tuple":Str)&&isGen args then gsQ T K sc q args k else pkLQ T K sc q args fun ds=>(bfn b ds).bind k
   | none=>if hasF T f then evLQ K sc q args fun ds=>(CF f ds).bind k else none
 else none
noncomputable def attrQ (d:D) (a:Str):Option D:=objK d fun c fs=>if (T.cls.lookup c).isSome then fs.lookup a else none
noncomputable def evAttrQ {α:Type} (sc:Scope) (q:QV) (o:Expr) (a:Str) (k:D->Option α):Option α:=
 nameK o fun c=>if isGlob sc c then optK (T.con.lookup c) fun l=>optK (l.lookup a) k else if T.ats.contains a then rdQ T sc q c fun d=>(attrQ T d a).bind k else none
noncomputable def constQ {α:Type} (c:Const) (k:D->Option α):Option α:=match c with
 | .none=>k .none
 | .bool b=>k (.bool b)
 | .int i=>k (.int i)
 | .str x=>k (.str x.cps.toList)
 | _=>none
noncomputable def boolQ (sc:Scope) (q:QV) (op:BoolOp) (es:List Expr):Option D:=match op with
 | .And=>evAndQ K sc q es
 | .Or=>evOrQ K sc q es
noncomputable def allQ (sc:Scope) (q:QV) (op:BoolOp) (es:List Expr):Option Bool:=match op with
 | .And=>trAllQ K sc q es
 | .Or=>trAnyQ K sc q es
noncomputable def compQ (c:D->Option Bool) (f:D->Option D):List D->Option (List D)
 | []=>some []
 | d::ds=>(c d).bind fun b=>if b then (f d).bind fun v=>(compQ c f ds).map fun r=>v::r else compQ c f ds
noncomputable def compDQ (c:D->Option Bool) (f:D->Option (Key×D)):List D->List (Key×D)->Option (List (Key×D))
 | [],acc=>some acc
 | d::ds,acc=>(c d).bind fun b=>if b then (f d).bind fun v=>compDQ c f ds (kset v.1 v.2 acc) else compDQ c f ds acc
noncomputable def listCompQ {α:Type} (sc:Scope) (q:QV) (elt:Expr) (gens:List Comprehension) (scope:Scope) (k:D->Option α):Option α:=
 compK gens fun t iter ifs=>if scOk scope sc then K.it sc q iter t fun ds=>if ds.length<=cap then
   (compQ (fun d=>bindTQ scope t d (visq scope q) fun q'=>trAllQ K (relab scope sc) q' ifs) (fun d=>bindTQ scope t d (visq scope q) fun q'=>K.ev (relab scope sc) q' elt some) ds).bind fun l=>k (.list l) else none else none
noncomputable def dictCompQ {α:Type} (sc:Scope) (q:QV) (kx vx:Expr) (gens:List Comprehension) (scope:Scope) (k:D->Option α):Option α:=
 compK gens fun t iter ifs=>if scOk scope sc then K.it sc q iter t fun ds=>if ds.length<=cap then
   (compDQ (fun d=>bindTQ scope t d (visq scope q) fun q'=>trAllQ K (relab scope sc) q' ifs) (fun d=>bindTQ scope t d (visq scope q) fun q'=>K.ev (relab scope sc) q' kx fun a=>(toKey a).bind fun kk=>K.ev (relab scope sc) q' vx fun b=>some (kk,b)) ds []).bind fun l=>k (.dict l) else none else none
noncomputable def compExpQ {α:Type} (sc:Scope) (q:QV) (e:Expr) (k:D->Option α):Option α:=(PySem.Expr.casesOn (motive_1:=fun _=>_) e (fun _ _ _=>none) (fun _ _ _=>none) (fun _ _ _ _=>none) (fun _ _ _=>none) (fun _ _ _ _=>none) (fun _ _ _ _=>none) (fun _ _ _=>none) (fun _ _ _=>none) (fun elt gens scope _=>listCompQ K sc q elt gens scope k) (fun _ _ _ _=>none) (fun kx vx gens scope _=>dictCompQ K sc q kx vx gens scope k) (fun _ _ _ _=>none) (fun _ _=>none) (fun _ _=>none) (fun _ _=>none) (fun _ _ _ _=>none) (fun _ _ _ _=>none) (fun _ _ _ _=>none) (fun _ _=>none) (fun _ _ _=>none) (fun _ _ _=>none) (fun _ _ _=>none) (fun _ _=>none) (fun _ _=>none) (fun _ _=>none) (fun _ _ _=>none) (fun _ _ _ _=>none))
noncomputable def hasM (T:Tab) (c m:Str):Bool:=((T.cls.lookup c).bind fun ms=>ms.lookup m).isSome
noncomputable def mOk (T:Tab) (c:Str) (fs:List (Str×D)) (m:Str):Bool:=(fs.lookup m).isNone&&hasM T c m
noncomputable def bmQ {α:Type} (sc:Scope) (q:QV) (o:Expr) (mt:Mt) (args:List Expr) (k:D->Option α):Option α:=pkQ T K sc q o fun d=>match mt with
 | .join=>strK d fun t=>oneK args fun e=>K.ev sc q e fun x=>(mfn (.str t) .join [x]).bind k
 | .lower=>strK d fun t=>if args.isEmpty then (mfn (.str t) .lower []).bind k else none
 | .get=>dictK d fun kvs=>match args with
  | [e]=>K.ev sc q e fun x=>(mfn (.dict kvs) .get [x]).bind k
  | [e,e']=>K.ev sc q e fun x=>K.ev sc q e' fun y=>(mfn (.dict kvs) .get [x,y]).bind k
  | _=>none
noncomputable def methQ {α:Type} (sc:Scope) (q:QV) (o:Expr) (m:Str) (ap:Pos) (args:List Expr) (p:Pos) (k:D->Option α):Option α:=
 if !(callOk o ap p&&decide (args.length<20)) then none else match mname m with
   | some mt=>bmQ T K sc q o mt args k
   | none=>K.ev sc q o fun d=>objK d fun c fs=>if mOk T c fs m then evLQ K sc q args fun ds=>(CM c m (.obj c fs::ds)).bind k else none
noncomputable def callQ {α:Type} (sc:Scope) (q:QV) (f:Expr) (args:List Expr) (p:Pos) (k:D->Option α):Option α:=(PySem.Expr.casesOn (motive_1:=fun _=>_) f (fun _ _ _=>none) (fun _ _ _=>none) (fun _ _ _ _=>none) (fun _ _ _=>none) (fun _ _ _ _=>none) (fun _ _ _ _=>none) (fun _ _ _=>none) (fun _ _ _=>none) (fun _ _ _ _=>none) (fun _ _ _ _=>none) (fun _ _ _ _ _=>none) (fun _ _ _ _=>none) (fun _ _=>none) (fun _ _=>none) (fun _ _=>none) (fun _ _ _ _=>none) (fun _ _ _ _=>none) (fun _ _ _ _=>none) (fun _ _=>none) (fun _ _ _=>none) (fun o m ap=>methQ T CM K sc q o m ap args p k) (fun _ _ _=>none) (fun _ _=>none) (fun f _=>woi T CF K sc q f args k) (fun _ _=>none) (fun _ _ _=>none) (fun _ _ _ _=>none))
noncomputable def evSQ {α:Type} (sc:Scope) (q:QV) (e:Expr) (k:D->Option α):Option α:=(PySem.Expr.casesOn (motive_1:=fun _=>_) e (fun op es _=>(boolQ K sc q op es).bind k) (fun _ _ _=>none) (fun l op r _=>pkQ T K sc q l fun a=>pkQ T K sc q r fun b=>(binop op a b).bind k) (fun op x _=>pkQ T K sc q x fun a=>(unop op a).bind k) (fun _ _ _ _=>none) (fun t a b _=>(K.tr sc q t fun c=>if c then K.ev sc q a some else K.ev sc q b some).bind k) (fun ks vs _=>if ks.length<=16/\somes ks vs=true then evKVsQ K sc q ks vs fun kvs=>k (.dict (kvs.foldl (fun acc p=>kset p.1 p.2 acc) [])) else none) (fun _ _ _=>none) (fun elt gens scope _=>listCompQ K sc q elt gens scope k) (fun _ _ _ _=>none) (fun kx vx gens scope _=>dictCompQ K sc q kx vx gens scope k) (fun _ _ _ _=>none) (fun _ _=>none) (fun _ _=>none) (fun _ _=>none) (fun l ops rs _=>oneK ops fun op=>oneK rs fun r=>if behindInMarks op r then none else pkQ T K sc q l fun a=>pkQ T K sc q r fun b=>(cmpD op a b).bind fun c=>k (.bool c)) (fun f args ks p=>if ks.isEmpty&&noStar args then callQ T CF CM K sc q f args p k else none) (fun _ _ _ _=>none) (fun _ _=>none) (fun c _ _=>constQ c k) (fun o a _=>evAttrQ T sc q o a k) (fun o i _=>if isSliceE i then sliceK i fun lo hi=>pkQ T K sc q o fun d=>evOptQ K sc q lo fun a=>evOptQ K sc q hi fun b=>if boundOk a&&boundOk b then (cutD a b d).bind k else none
   else pkQ T K sc q o fun d=>K.ev sc q i fun kd=>(sub d kd).bind k) (fun _ _=>none) (fun x _=>if isVar sc x then fzK (lookq x q) k else if isGlob sc x then optK (T.gl.lookup x) k else none) (fun es _=>if es.length<=cap then evLQ K sc q es fun ds=>k (.list ds) else none) (fun es _ _=>if es.length<=cap then evLQ K sc q es fun ds=>k (.tuple ds) else none) (fun _ _ _ _=>none))
noncomputable def trSQ {α:Type} (sc:Scope) (q:QV) (e:Expr) (k:Bool->Option α):Option α:=(PySem.Expr.casesOn (motive_1:=fun _=>_) e (fun op es _=>(allQ K sc q op es).bind k) (fun x0 x1 x2=>K.ev sc q (.NamedExpr x0 x1 x2) fun d=>boolK d k) (fun x0 x1 x2 x3=>K.ev sc q (.BinOp x0 x1 x2 x3) fun d=>boolK d k) (fun op x p=>if op=.Not then K.tr sc q x fun b=>k (!b) else K.ev sc q (.UnaryOp op x p) fun d=>boolK d k) (fun x0 x1 x2 x3=>K.ev sc q (.Lambda x0 x1 x2 x3) fun d=>boolK d k) (fun _ _ _ _=>none) (fun x0 x1 x2=>K.ev sc q (.Dict x0 x1 x2) fun d=>boolK d k) (fun x0 x1 x2=>K.ev sc q (.Set x0 x1 x2) fun d=>boolK d k) (fun x0 x1 x2 x3=>K.ev sc q (.ListComp x0 x1 x2 x3) fun d=>boolK d k) (fun x0 x1 x2 x3=>K.ev sc q (.SetComp x0 x1 x2 x3) fun d=>boolK d k) (fun x0 x1 x2 x3 x4=>K.ev sc q (.DictComp x0 x1 x2 x3 x4) fun d=>boolK d k) (fun x0 x1 x2 x3=>K.ev sc q (.GeneratorExp x0 x1 x2 x3) fun d=>boolK d k) (fun x0 x1=>K.ev sc q (.Await x0 x1) fun d=>boolK d k) (fun x0 x1=>K.ev sc q (.Yield x0 x1) fun d=>boolK d k) (fun x0 x1=>K.ev sc q (.YieldFrom x0 x1) fun d=>boolK d k) (fun l ops rs _=>oneK ops fun op=>oneK rs fun r=>if behindInMarks op r then none else pkQ T K sc q l fun a=>pkQ T K sc q r fun b=>(cmpD op a b).bind k) (fun x0 x1 x2 x3=>K.ev sc q (.Call x0 x1 x2 x3) fun d=>boolK d k) (fun x0 x1 x2 x3=>K.ev sc q (.FormattedValue x0 x1 x2 x3) fun d=>boolK d k) (fun x0 x1=>K.ev sc q (.JoinedStr x0 x1) fun d=>boolK d k) (fun x0 x1 x2=>K.ev sc q (.Constant x0 x1 x2) fun d=>boolK d k) (fun x0 x1 x2=>K.ev sc q (.Attribute x0 x1 x2) fun d=>boolK d k) (fun x0 x1 x2=>K.ev sc q (.Subscript x0 x1 x2) fun d=>boolK d k) (fun x0 x1=>K.ev sc q (.Starred x0 x1) fun d=>boolK d k) (fun x0 x1=>K.ev sc q (.Name x0 x1) fun d=>boolK d k) (fun x0 x1=>K.ev sc q (.List x0 x1) fun d=>boolK d k) (fun x0 x1 x2=>K.ev sc q (.Tuple x0 x1 x2) fun d=>boolK d k) (fun x0 x1 x2 x3=>K.ev sc q (.Slice x0 x1 x2 x3) fun d=>boolK d k))
noncomputable def keysOf (d:D):Option (List D):=match d with
 | .dict kvs=>some (kvs.map fun p=>ofKey p.1)
 | d=>seqOf d
noncomputable def isNameE (e:Expr):Bool:=e.ctorIdx==23
noncomputable def seqT {α:Type} (t:Expr) (d:D) (k:List D->Option α):Option α:=if isNameE t then (keysOf d).bind k else if tgtOk .lst t then listK d k else none
noncomputable def callSeqT {α:Type} (t:Expr) (d:D) (k:List D->Option α):Option α:=if isNameE t then (seqOf d).bind k else if tgtOk .lst t then listK d k else none
noncomputable def zipQ (ds:List D):Option (List D):=twoK ds fun a b=>listK a fun la=>listK b fun lb=>some ((la.zip lb).map fun p=>.tuple [p.1,p.2])
noncomputable def enumQ (ds:List D):Option (List D):=oneK ds fun a=>listK a fun la=>some (enumD la)
noncomputable def itemsQ (d:D):Option (List D):=dictK d fun kvs=>some (kvs.map fun p=>.tuple [ofKey p.1,p.2])
noncomputable def valsQ (d:D):Option (List D):=dictK d fun kvs=>some (kvs.map fun p=>p.2)
noncomputable def itNQ {α:Type} (sc:Scope) (q:QV) (f:Str) (args:List Expr) (t:Expr) (k:List D->Option α):Option α:=
  if isGlob sc f&&f==("range":Str) then (if tgtOk .plain t then pkLQ T K sc q args fun ds=>(rangeD ds).bind k else none)
  else if isGlob sc f&&f==("zip":Str) then (if tgtOk .pairs t then pkLQ T K sc q args fun ds=>(zipQ ds).bind k else none)
  else if isGlob sc f&&f==("enumerate":Str) then (if tgtOk .pairs t then pkLQ T K sc q args fun ds=>(enumQ ds).bind k else none)
  else woi T CF K sc q f args fun d=>callSeqT t d k
noncomputable def itAQ {α:Type} (sc:Scope) (q:QV) (o:Expr) (m:Str) (ap:Pos) (args:List Expr) (p:Pos) (t:Expr) (k:List D->Option α):Option α:=
  if !callOk o ap p then none else if !args.isEmpty then none else
  if m==("items":Str) then (if tgtOk .pairs t then pkQ T K sc q o fun d=>(itemsQ d).bind k else none)
  else if m==("values":Str) then (if tgtOk .plain t then pkQ T K sc q o fun d=>(valsQ d).bind k else none)
  else none
noncomputable def itCQ {α:Type} (sc:Scope) (q:QV) (f:Expr) (args:List Expr) (p:Pos) (t:Expr) (k:List D->Option α):Option α:=(PySem.Expr.casesOn (motive_1:=fun _=>_) f (fun _ _ _=>none) (fun _ _ _=>none) (fun _ _ _ _=>none) (fun _ _ _=>none) (fun _ _ _ _=>none) (fun _ _ _ _=>none) (fun _ _ _=>none) (fun _ _ _=>none) (fun _ _ _ _=>none) (fun _ _ _ _=>none) (fun _ _ _ _ _=>none) (fun _ _ _ _=>none) (fun _ _=>none) (fun _ _=>none) (fun _ _=>none) (fun _ _ _ _=>none) (fun _ _ _ _=>none) (fun _ _ _ _=>none) (fun _ _=>none) (fun _ _ _=>none) (fun o m ap=>itAQ T K sc q o m ap args p t k) (fun _ _ _=>none) (fun _ _=>none) (fun f _=>itNQ T CF K sc q f args t k) (fun _ _=>none) (fun _ _ _=>none) (fun _ _ _ _=>none))
noncomputable def itSQ {α:Type} (sc:Scope) (q:QV) (e t:Expr) (k:List D->Option α):Option α:=(PySem.Expr.casesOn (motive_1:=fun _=>_) e (fun x0 x1 x2=>pkQ T K sc q (.BoolOp x0 x1 x2) fun d=>seqT t d k) (fun x0 x1 x2=>pkQ T K sc q (.NamedExpr x0 x1 x2) fun d=>seqT t d k) (fun x0 x1 x2 x3=>pkQ T K sc q (.BinOp x0 x1 x2 x3) fun d=>seqT t d k) (fun x0 x1 x2=>pkQ T K sc q (.UnaryOp x0 x1 x2) fun d=>seqT t d k) (fun x0 x1 x2 x3=>pkQ T K sc q (.Lambda x0 x1 x2 x3) fun d=>seqT t d k) (fun x0 x1 x2 x3=>pkQ T K sc q (.IfExp x0 x1 x2 x3) fun d=>seqT t d k) (fun x0 x1 x2=>pkQ T K sc q (.Dict x0 x1 x2) fun d=>seqT t d k) (fun _ _ _=>none) (fun x0 x1 x2 x3=>pkQ T K sc q (.ListComp x0 x1 x2 x3) fun d=>seqT t d k) (fun x0 x1 x2 x3=>pkQ T K sc q (.SetComp x0 x1 x2 x3) fun d=>seqT t d k) (fun x0 x1 x2 x3 x4=>pkQ T K sc q (.DictComp x0 x1 x2 x3 x4) fun d=>seqT t d k) (fun x0 x1 x2 x3=>pkQ T K sc q (.GeneratorExp x0 x1 x2 x3) fun d=>seqT t d k) (fun x0 x1=>pkQ T K sc q (.Await x0 x1) fun d=>seqT t d k) (fun x0 x1=>pkQ T K sc q (.Yield x0 x1) fun d=>seqT t d k) (fun x0 x1=>pkQ T K sc q (.YieldFrom x0 x1) fun d=>seqT t d k) (fun x0 x1 x2 x3=>pkQ T K sc q (.Compare x0 x1 x2 x3) fun d=>seqT t d k) (fun f args ks p=>if ks.isEmpty&&noStar args then itCQ T CF K sc q f args p t k else none) (fun x0 x1 x2 x3=>pkQ T K sc q (.FormattedValue x0 x1 x2 x3) fun d=>seqT t d k) (fun x0 x1=>pkQ T K sc q (.JoinedStr x0 x1) fun d=>seqT t d k) (fun x0 x1 x2=>pkQ T K sc q (.Constant x0 x1 x2) fun d=>seqT t d k) (fun x0 x1 x2=>pkQ T K sc q (.Attribute x0 x1 x2) fun d=>seqT t d k) (fun x0 x1 x2=>pkQ T K sc q (.Subscript x0 x1 x2) fun d=>seqT t d k) (fun x0 x1=>pkQ T K sc q (.Starred x0 x1) fun d=>seqT t d k) (fun x0 x1=>pkQ T K sc q (.Name x0 x1) fun d=>seqT t d k) (fun x0 x1=>pkQ T K sc q (.List x0 x1) fun d=>seqT t d k) (fun x0 x1 x2=>pkQ T K sc q (.Tuple x0 x1 x2) fun d=>seqT t d k) (fun x0 x1 x2 x3=>pkQ T K sc q (.Slice x0 x1 x2 x3) fun d=>seqT t d k))
noncomputable def catQ (a b:D):Option (List D):=listK a fun x=>listK b fun y=>if x.length+y.length<=cap then some (x++y) else none
noncomputable def evOwnQ (sc:Scope) (q:QV) (e:Expr) (k:D->Option D):Option D:=(PySem.Expr.casesOn (motive_1:=fun _=>_) e (fun _ _ _=>none) (fun _ _ _=>none) (fun l op r _=>if op=.Add then pkQ T K sc q l fun a=>pkQ T K sc q r fun b=>(catQ a b).bind fun x=>k (.list x) else none) (fun _ _ _=>none) (fun _ _ _ _=>none) (fun _ _ _ _=>none) (fun ks vs _=>if ks.isEmpty&&vs.isEmpty then k (.dict []) else none) (fun _ _ _=>none) (fun _ _ _ _=>none) (fun _ _ _ _=>none) (fun _ _ _ _ _=>none) (fun _ _ _ _=>none) (fun _ _=>none) (fun _ _=>none) (fun _ _=>none) (fun _ _ _ _=>none) (fun _ _ _ _=>none) (fun _ _ _ _=>none) (fun _ _=>none) (fun _ _ _=>none) (fun _ _ _=>none) (fun _ _ _=>none) (fun _ _=>none) (fun _ _=>none) (fun es _=>if es.length<=cap then evLQ K sc q es fun ds=>k (.list ds) else none) (fun _ _ _=>none) (fun _ _ _ _=>none))
noncomputable def evSlotQ (c:Cx) (sc:Scope) (q:QV) (x:Str) (e:Expr) (k:Slot->Option D):Option D:=
 if c.muts.contains x&&fresh e then evOwnQ T K sc q e fun d=>k (.own d)
 else if isComp e then compExpQ K sc q e fun d=>k (.fz d)
 else K.ev sc q e fun d=>k (.fz d)
noncomputable def evSlotsQ (c:Cx) (sc:Scope) (q:QV):List Expr->List Expr->(List Slot->Option D)->Option D
 | [],[],k=>k []
 | t::ts,e::es,k=>nameK t fun x=>if isStarE e then none else
   if c.muts.contains x&&fresh e then evOwnQ T K sc q e fun d=>evSlotsQ c sc q ts es fun r=>k (.own d::r)
   else K.ev sc q e fun d=>evSlotsQ c sc q ts es fun r=>k (.fz d::r)
 | [],_::_,_=>none
 | _::_,[],_=>none
noncomputable def setSlotsQ (sc:Scope):List Str->List Slot->QV->(QV->Option D)->Option D
 | [],[],q,k=>k q
 | x::xs,s::ss,q,k=>if canSet sc x then setSlotsQ sc xs ss (setq x s q) k else none
 | [],_::_,_,_=>none
 | _::_,[],_,_=>none
noncomputable def putL (xs:List D) (k v:D):Option (List D):=intK k fun i=>if 0<=i/\i<xs.length/\xs.length<=cap then some (xs.set i.toNat v) else none
noncomputable def putM (kvs:List (Key×D)) (k v:D):Option (List (Key×D)):=(toKey k).bind fun k=>if kvs.length<=cap then some (kset k v kvs) else none
noncomputable def putQ (d k v:D) (f:D->Option D):Option D:=match d with
 | .list xs=>(putL xs k v).bind fun ys=>f (.list ys)
 | .dict kvs=>(putM kvs k v).bind fun m=>f (.dict m)
 | _=>none
noncomputable def wqK (sc:Scope) (x:Str) (q:QV):QV:=if isVar sc x then match lookq x q with
 | some (.own d)=>if isListD d then setq x (.fz d) q else q
 | _=>q else q
noncomputable def frzq (sc:Scope) (xs:List Str) (q:QV):QV:=xs.foldl (fun q x=>wqK sc x q) q
noncomputable def asgNameQ (c:Cx) (sc:Scope) (q:QV) (x:Str) (e:Expr) (next:QV->Option D):Option D:=if canSet sc x then evSlotQ T K c sc q x e fun s=>next (setq x s q) else none
noncomputable def asgTupQ (c:Cx) (sc:Scope) (q:QV) (ts:List Expr) (t e:Expr) (next:QV->Option D):Option D:=
 if e.ctorIdx==25 then tupleK e fun es=>if nodupB (names ts)&&es.length<=cap then evSlotsQ T K c sc q ts es fun ss=>optK (swapRoad sc ts es) fun b=>
   if b then setSlotsQ sc (names ts).reverse ss.reverse q next else setSlotsQ sc (names ts) ss q next
  else none
 else K.ev sc q e fun d=>bindTQ sc t d q next
noncomputable def asgAttrQ (sc:Scope) (q:QV) (o:Expr) (a:Str) (e:Expr) (next:QV->Option D):Option D:=nameK o fun x=>
 if isComp e||!T.ats.contains a then none else K.ev sc q e fun d=>if isVar sc x then ownK (lookq x q) fun ob=>objK ob fun cl fs=>
  if (fs.lookup a).isNone&&(T.cls.lookup cl).isSome&&fs.length<=100 then next (setq x (.own (.obj cl (fs++[(a,d)]))) q) else none else none
noncomputable def asgSubQ (sc:Scope) (q:QV) (o i e:Expr) (next:QV->Option D):Option D:=nameK o fun x=>
 if isComp e then none else K.ev sc q e fun v=>if isVar sc x then ownK (lookq x q) fun d=>K.ev sc q i fun k=>putQ d k v fun d=>next (setq x (.own d) q) else none
noncomputable def wgx (c:Cx) (sc:Scope) (q:QV) (t e:Expr) (next:QV->Option D):Option D:=(PySem.Expr.casesOn (motive_1:=fun _=>_) t (fun _ _ _=>none) (fun _ _ _=>none) (fun _ _ _ _=>none) (fun _ _ _=>none) (fun _ _ _ _=>none) (fun _ _ _ _=>none) (fun _ _ _=>none) (fun _ _ _=>none) (fun _ _ _ _=>none) (fun _ _ _ _=>none) (fun _ _ _ _ _=>none) (fun _ _ _ _=>none) (fun _ _=>none) (fun _ _=>none) (fun _ _=>none) (fun _ _ _ _=>none) (fun _ _ _ _=>none) (fun _ _ _ _=>none) (fun _ _=>none) (fun _ _ _=>none) (fun o a _=>asgAttrQ T K sc q o a e next) (fun o i _=>asgSubQ K sc q o i e next) (fun _ _=>none) (fun x _=>asgNameQ T K c sc q x e next) (fun _ _=>none) (fun ts n p=>asgTupQ T K c sc q ts (.Tuple ts n p) e next) (fun _ _ _ _=>none))
noncomputable def wub (sc:Scope) (q:QV) (x y z e:Expr) (next:QV->Option D):Option D:=nameK x fun x=>nameK y fun y=>nameK z fun z=>K.ev sc q e fun d=>intK d fun i=>
 if canSet sc x&&canSet sc y&&canSet sc z then next (setq z (.fz (.int i)) (setq y (.fz (.int i)) (setq x (.fz (.int i)) q))) else none
noncomputable def asgQ (c:Cx) (sc:Scope) (q:QV) (ts:List Expr) (e:Expr) (next:QV->Option D):Option D:=match ts with
 | [t]=>wgx T K c sc q t e next
 | [x,y,z]=>wub K sc q x y z e next
 | _=>none
noncomputable def augNameQ (sc:Scope) (q:QV) (x:Str) (e:Expr) (next:QV->Option D):Option D:=
 if isVar sc x&&canSet sc x then fzK (lookq x q) fun old=>K.ev sc q e fun v=>(addI old v).bind fun d=>next (setq x (.fz d) q) else none
noncomputable def augSubQ (sc:Scope) (q:QV) (o i e:Expr) (next:QV->Option D):Option D:=nameK o fun x=>
 if isVar sc x&&!isSliceE i then ownK (lookq x q) fun d=>K.ev sc q i fun k=>(sub d k).bind fun old=>K.ev sc q e fun v=>(addI old v).bind fun n=>putQ d k n fun d=>next (setq x (.own d) q) else none
noncomputable def augTQ (sc:Scope) (q:QV) (t e:Expr) (next:QV->Option D):Option D:=(PySem.Expr.casesOn (motive_1:=fun _=>_) t (fun _ _ _=>none) (fun _ _ _=>none) (fun _ _ _ _=>none) (fun _ _ _=>none) (fun _ _ _ _=>none) (fun _ _ _ _=>none) (fun _ _ _=>none) (fun _ _ _=>none) (fun _ _ _ _=>none) (fun _ _ _ _=>none) (fun _ _ _ _ _=>none) (fun _ _ _ _=>none) (fun _ _=>none) (fun _ _=>none) (fun _ _=>none) (fun _ _ _ _=>none) (fun _ _ _ _=>none) (fun _ _ _ _=>none) (fun _ _=>none) (fun _ _ _=>none) (fun _ _ _=>none) (fun o i _=>augSubQ K sc q o i e next) (fun _ _=>none) (fun x _=>augNameQ K sc q x e next) (fun _ _=>none) (fun _ _ _=>none) (fun _ _ _ _=>none))
noncomputable def augQ (sc:Scope) (q:QV) (t:Expr) (op:Operator) (e:Expr) (next:QV->Option D):Option D:=if op=.Add then augTQ K sc q t e next else none
noncomputable def appQ (sc:Scope) (q:QV) (x:Str) (e:Expr) (next:QV->Option D):Option D:=ownK (lookq x q) fun d=>listK d fun xs=>K.ev sc q e fun v=>if xs.length<=cap then next (setq x (.own (.list (xs++[v]))) q) else none
noncomputable def extQ (sc:Scope) (q:QV) (x:Str) (e:Expr) (next:QV->Option D):Option D:=ownK (lookq x q) fun d=>listK d fun xs=>K.ev sc q e fun v=>listK v fun ys=>if xs.length+ys.length<=cap then next (setq x (.own (.list (xs++ys))) q) else none
noncomputable def exprXQ (sc:Scope) (q:QV) (o:Expr) (m:Str) (ap:Pos) (as:List Expr) (p:Pos) (next:QV->Option D):Option D:=nameK o fun x=>oneK as fun e=>
 if isVar sc x&&callOk o ap p&&!isStarE e then (if m==("append":Str) then appQ K sc q x e next else if m==("extend":Str) then extQ K sc q x e next else none) else none
noncomputable def exprQ (sc:Scope) (q:QV) (e:Expr) (next:QV->Option D):Option D:=callK e fun f as p=>attrK f fun o m ap=>exprXQ K sc q o m ap as p next
noncomputable def execSQ (c:Cx) (sc:Scope) (q:QV) (st:Stmt) (next brk cont:QV->Option D) (ret:D->Option D):Option D:=(@PySem.Stmt.casesOn (fun _=>_) st (fun _ _ _ _ _ _ _ _ _ _=>none) (fun _ _ _ _ _ _ _ _ _ _=>none) (fun _ _ _ _ _ _ _ _ _ _ _=>none) (fun e _=>optK e fun e=>K.ev sc q e ret) (fun _ _=>none) (fun ts e _=>asgQ T K c sc q ts e next) (fun _ _ _ _ _ _ _=>none) (fun t op e _=>augQ K sc q t op e next) (fun _ _ _ _ _=>none) (fun _ _ _ _ _=>none) (fun _ _ _ _ _=>none) (fun _ _ _ _=>none) (fun t a b _=>K.tr sc q t fun x=>if x then K.exs c sc q a next brk cont ret else K.exs c sc q b next brk cont ret) (fun _ _ _=>none) (fun _ _ _=>none) (fun _ _ _=>none) (fun _ _ _=>none) (fun _ _ _ _ _=>none) (fun _ _ _ _ _=>none) (fun _ _ _=>none) (fun _ _=>none) (fun _ _ _ _=>none) (fun _ _=>none) (fun _ _=>none) (fun e _=>exprQ K sc q e next) (fun _=>none) (fun _=>brk q) (fun _=>cont q))
noncomputable def execLQ (c:Cx) (sc:Scope):List Stmt->QV->(QV->Option D)->(QV->Option D)->(QV->Option D)->(D->Option D)->Option D
 | [],q,next,_,_,_=>next q
 | st::r,q,next,brk,cont,ret=>execSQ T K c sc (frzq sc (hintsAt c st) q) st (fun q'=>execLQ c sc r q' next brk cont ret) brk cont ret
noncomputable abbrev Hd:=QV->(QV->Option D)->(D->Option D)->Option D
noncomputable def stmtQ (c:Cx) (sc:Scope) (q:QV) (st:Stmt) (h:Option Hd) (next brk cont:QV->Option D) (ret:D->Option D):Option D:=match h with
 | some F=>F q next ret
 | none=>execSQ T K c sc q st next brk cont ret
noncomputable def execT (c:Cx) (sc:Scope):List Stmt->List (Option Hd)->QV->(QV->Option D)->(QV->Option D)->(QV->Option D)->(D->Option D)->Option D
 | [],_,q,next,_,_,_=>next q
 | st::r,hs,q,next,brk,cont,ret=>stmtQ T K c sc (frzq sc (hintsAt c st) q) st (hs.headD none) (fun q'=>execT c sc r hs.tail q' next brk cont ret) brk cont ret
end
noncomputable def stepK (T:Tab) (CF:Str->List D->Option D) (CM:Str->Str->List D->Option D) (K:KJ):KJ where
 ev:=fun sc q e k=>evSQ T CF CM K sc q e k
 tr:=fun sc q e k=>trSQ T K sc q e k
 it:=fun sc q e t k=>itSQ T CF K sc q e t k
 exs:=fun c sc q l next brk cont ret=>execLQ T K c sc l q next brk cont ret
noncomputable def botK:KJ where
 ev:=fun _ _ _ _=>none
 tr:=fun _ _ _ _=>none
 it:=fun _ _ _ _ _=>none
 exs:=fun _ _ _ _ _ _ _ _=>none
noncomputable def kI (T:Tab) (CF:Str->List D->Option D) (CM:Str->Str->List D->Option D):Nat->KJ
 | 0=>botK
 | n+1=>stepK T CF CM (kI T CF CM n)
end Mine.Py
end
section
namespace Mine.Py
open PySem PySem.W PyProof.Rows PySem.Calls
set_option genInjectivity false
set_option genSizeOf false
noncomputable def SoundEv (C:Fr) (n:Nat) (ev:{α:Type}->Scope->QV->Expr->(D->Option α)->Option α):Prop:=
 ∀ {α:Type} {A:Around} {env:Env} {q:QV} {e:Expr} {k:D->Option α} {r:α} {F:FH} {s:Shared} {Q:Value->Shared->Prop} {E:Value->Shared->Prop},
  Ok C A n env q F s->ev env.scope q e k=some r->(∀ d,k d=some r->Cont C F s d Q)->wpAny (model C.prog C.w) A (eval e env) Q E s
noncomputable def SoundTr (C:Fr) (n:Nat) (tr:{α:Type}->Scope->QV->Expr->(Bool->Option α)->Option α):Prop:=
 ∀ {α:Type} {A:Around} {env:Env} {q:QV} {e:Expr} {k:Bool->Option α} {r:α} {F:FH} {s:Shared} {Q:Bool->Shared->Prop} {E:Value->Shared->Prop},
  Ok C A n env q F s->tr env.scope q e k=some r->(∀ b,k b=some r->∀ s' F',Ext F s F' s'->Q b s')->wpAny (model C.prog C.w) A (isTrue e env (eval e env)) Q E s
section
variable {C:Fr} {F F':FH} {A:Around} {E:Value->Shared->Prop} {s:Shared} {Q:Value->Shared->Prop} {d:D} {env:Env} {q:QV} {n:Nat} {K:KJ} {α:Type} {r:α} {CF:Str->List D->Option D} {CM:Str->Str->List D->Option D}
theorem wpEq {α:Type} {M:Model} {Q:α->Shared->Prop} {m m':Sem α} (e:m=m') (h:wpAny M A m' Q E s):wpAny M A m Q E s:=e ▸ h
theorem pkE {P:Prop} {T:Tab} {sc:Scope} {e:Expr} {k:D->Option α} (h:pkQ T K sc q e k=some r) (f:∀ x p,e=.Name x p->rdQ T sc q x k=some r->P) (g:K.ev sc q e k=some r->P):P:=by
 cases e<;>first | exact f _ _ rfl h | exact g h
noncomputable def AllFz (q:QV):Prop:=∀ x sl,lookq x q=some sl->(∃ d,sl=.fz d)\/∃ c fs,sl=.own (.obj c fs)
noncomputable def isObjD:D->Bool
 | .obj _ _=>true
 | _=>false
theorem wbp (S:SoundEv C n K.ev) {e:Expr} {k:D->Option α} (X:Ok C A n env q F s) (h:pkQ C.T K env.scope q e k=some r)
  (kk:∀ d,k d=some r->∀ v s' F',Ext F s F' s'->View C s'.heap F' v d->(AllFz q->isObjD d=false->∀ b,v=.ref b->F' b≠none)->Q v s'):wpAny (model C.prog C.w) A (eval e env) Q E s:=
 pkE h (fun x p e h=>by
  subst e
  exact iteE h (fun hv h=>optE h fun sl hl h=>by
   obtain ⟨v,h1,h2⟩:=X.r.vars hl hv
   refine wgg X.r hv h1 (kk _ h v s F X.here (h2.view X.r.inn) fun z o=>?_)
   rcases z _ _ hl with ⟨d,q⟩ | ⟨c,fs,q⟩
   ·subst q;exact Rep.fz h2
   ·subst q;exact ffE o.symm) fun _ h=>ifE h fun hg h=>optE h fun d hd h=>by
   obtain ⟨v,h1,h2⟩:=X.g.gl _ _ hd
   exact wfc X hg h1 (kk _ h v s F X.here (h2.view X.r.inn) fun _ _=>Rep.fz h2))
  fun h=>S X h fun d h v s' F' x rp=>kk d h v s' F' x (rp.view x.inn) fun _ _=>Rep.fz rp
theorem wuP {x:Str} {pos:Pos} {k:D->Option α} (X:Ok C A n env q F s) (h:(if isVar env.scope x then fzK (lookq x q) k else if isGlob env.scope x then optK (C.T.gl.lookup x) k else none)=some r)
  (kk:∀ d,k d=some r->Cont C F s d Q):wpAny (model C.prog C.w) A (eval (.Name x pos) env) Q E s:=
 iteE h (fun hv h=>fzE h fun d hl h=>by
  obtain ⟨v,h1,h2⟩:=X.r.vars hl hv
  exact wgg X.r hv h1 (kk _ h v s F X.here h2)) fun _ h=>ifE h fun hg h=>optE h fun d hd h=>by
  obtain ⟨v,h1,h2⟩:=X.g.gl _ _ hd
  exact wfc X hg h1 (kk _ h v s F X.here h2)
theorem wtN {c:Const} {kk:Nat} {pos:Pos} {f:D->Option α} (hF:F.In s.heap) (h:constQ c f=some r) (k:∀ d,f d=some r->Cont C F s d Q):wpAny (model C.prog C.w) A (eval (.Constant c kk pos) env) Q E s:=by
 refine wpEq (arm_eval_Constant ..) ?_
 cases c<;>first | exact noneE h | skip
 ·exact wpAny_pure ((k _ h).here hF rfl rfl)
 ·exact wpAny_pure ((k _ h).here hF rfl rfl)
 ·exact wpAny_mkInt ((k _ h).here hF rfl (.mk _))
 ·exact wpAny_mkText ((k _ h).here hF rfl (by have:=VS.mk (x:=(‹Str›:Str).cps.toList) s.toks;rwa [wkw]at this))
theorem wwT (S:SoundEv C n K.ev) {l r':Expr} {op:Operator} {pos:Pos} {k:D->Option α} (X:Ok C A n env q F s)
  (h:(pkQ C.T K env.scope q l fun a=>pkQ C.T K env.scope q r' fun b=>(binop op a b).bind k)=some r) (kk:∀ d,k d=some r->Cont C F s d Q):wpAny (model C.prog C.w) A (eval (.BinOp l op r' pos) env) Q E s:=
 wpEq (arm_eval_BinOp ..) (wpAny_bind (wbp S X h fun a h va sa F1 xa vc _=>wpAny_bind (wpAny_holding (wbp S (X.ext xa) h fun b h vb s₂ F2 xb vf _=>wpAny_bind (wpAny_standAt
  (bindE h fun d e h=>wpAny_operating (wtS e (vc.ext xb) vf xb.inn ((kk d h).ext (xa.trans xb)))))))))
theorem wxm (S:SoundEv C n K.ev) {x:Expr} {op:UnaryOp} {pos:Pos} {k:D->Option α} (X:Ok C A n env q F s)
  (h:(pkQ C.T K env.scope q x fun a=>(unop op a).bind k)=some r) (kk:∀ d,k d=some r->Cont C F s d Q):wpAny (model C.prog C.w) A (eval (.UnaryOp op x pos) env) Q E s:=
 wpEq (arm_eval_UnaryOp ..) (wpAny_bind (wbp S X h fun a h va sa F1 xa vc _=>wpAny_bind (wpAny_standAt (wpAny_holding (bindE h fun d e h=>wui e vc xa.inn ((kk d h).ext xa))))))
theorem wmA {op:CmpOp} {r':Expr} {m:Sem Value} (h:behindInMarks op r'=false):markedBehindIn op r' m=m:=by unfold markedBehindIn;rw [h]
theorem wvq (S:SoundEv C n K.ev) {l r':Expr} {op:CmpOp} {pos:Pos} {k:Bool->Option α} (X:Ok C A n env q F s) (hm:behindInMarks op r'=false)
  (h:(pkQ C.T K env.scope q l fun a=>pkQ C.T K env.scope q r' fun b=>(cmpD op a b).bind k)=some r) (kk:∀ b,k b=some r->Cont C F s (.bool b) Q) :
  wpAny (model C.prog C.w) A (eval (.Compare l [op] [r'] pos) env) Q E s:=by
 refine wpEq (arm_eval_Compare ..) (wpAny_bind (wbp S X h fun a h va sa F1 xa vc _=>?_))
 show wpAny _ _ (compareChain pos va [op] [markedBehindIn op r' (eval r' env)]) _ _ _
 rw [wmA hm]
 show wpAny _ _ (holding [va] (eval r' env) >>= _) _ _ _
 exact wpAny_bind (wpAny_holding (wbp S (X.ext xa) h fun b h vb s₂ F2 xb vf _=>bindE h fun d e h=>wpAny_bind (wpAny_standAt (wpAny_operating (wsd e (vc.ext xb) vf xb.inn (by have:=X.R.units;omega) fun s' hs hc=>
  kk d h _ s' F2 ((xa.trans xb).trans (Ext.same xb.inn (by rw [hs];exact Keep.refl _) hc)) rfl)))))
theorem wvp (S:SoundEv C n K.ev) {l r':Expr} {op:CmpOp} {pos:Pos} {k:Bool->Option α} {Q:Bool->Shared->Prop} {t:Sem Value} (X:Ok C A n env q F s) (hm:behindInMarks op r'=false)
  (h:(pkQ C.T K env.scope q l fun a=>pkQ C.T K env.scope q r' fun b=>(cmpD op a b).bind k)=some r) (kk:∀ b,k b=some r->∀ s' F',Ext F s F' s'->Q b s') :
  wpAny (model C.prog C.w) A (isTrue (.Compare l [op] [r'] pos) env t) Q E s:=by
 refine wpEq (arm_isTrue_Compare ..) (wpAny_bind (wbp S X h fun a h va sa F1 xa vc _=>?_))
 show wpAny _ _ (testChain pos va [op] [markedBehindIn op r' (eval r' env)]) _ _ _
 rw [wmA hm]
 show wpAny _ _ (holding [va] (eval r' env) >>= _) _ _ _
 exact wpAny_bind (wpAny_holding (wbp S (X.ext xa) h fun b h vb s₂ F2 xb vf _=>bindE h fun d e h=>wpAny_bind (wpAny_standAt (wpAny_bind (wpAny_operating (wsd e (vc.ext xb) vf xb.inn (by have:=X.R.units;omega) fun s' hs hc=>
  wpAny_holding (wpAny_truthy_bool (kk d h s' F2 ((xa.trans xb).trans (Ext.same xb.inn (by rw [hs];exact Keep.refl _) hc))))))))))
theorem wxO (S:SoundEv C n K.ev) (St:SoundTr C n K.tr) {t a b:Expr} {pos:Pos} {k:D->Option α} (X:Ok C A n env q F s)
  (h:(K.tr env.scope q t fun c=>if c then K.ev env.scope q a some else K.ev env.scope q b some).bind k=some r) (kk:∀ d,k d=some r->Cont C F s d Q):wpAny (model C.prog C.w) A (eval (.IfExp t a b pos) env) Q E s:=
 bindE h fun d h1 h2=>wpEq (arm_eval_IfExp ..) (wpAny_bind (St X h1 fun c h sa F1 xa=>by
  have k':∀ d',some d'=some d->Cont C F1 sa d' Q:=fun d' e=>((kk d h2).ext xa).of e
  cases c with
  | true=>exact S (X.ext xa) h k'
  | false=>exact S (X.ext xa) h k'))
theorem wal {e:Expr} {es:List Expr} (h:¬ isStarE e=true):starEach (e::es) env=(false,eval e env)::starEach es env:=by
 cases e<;>first | rfl | exact absurd rfl h
theorem wgS (S:SoundEv C n K.ev) {pos:Pos} (es:List Expr):∀ {F:FH} {s:Shared} {Q:List Value->Shared->Prop} {k:List D->Option α},Ok C A n env q F s ->
  evLQ K env.scope q es k=some r->(∀ ds,k ds=some r->∀ vs s' F',Ext F s F' s'->RepAll C F' ds vs->ds.length=es.length->Q vs s')->wpAny (model C.prog C.w) A (spliced (backTo pos (starEach es env))) Q E s:=by
 induction es with
 | nil=>intro F s Q k X h kk;exact spliced_nil (kk [] h [] s F X.here rfl rfl)
 | cons e es ih=>
  intro F s Q k X h kk
  exact nifE h fun hs h=>by
   rw [wal hs]
   exact spliced_cons (S X h fun d h v sa F1 xa re=>ih (X.ext xa) h fun ds h vs s₂ F2 xb rc hl=>kk _ h _ s₂ F2 (xa.trans xb) (.mk (re.ext xb) rc) (congrArg Nat.succ hl))
noncomputable def FzAll (q:QV) (F:FH) (ds:List D) (vs:List Value):Prop:=AllFz q->(∀ d∈ds,isObjD d=false)->∀ b,.ref b∈vs->F b≠none
theorem Views.ext {s s':Shared} (x:Ext F s F' s') {ds:List D}:∀ {vs:List Value},Views C F s.heap.get? ds vs->Views C F' s'.heap.get? ds vs:=by
 induction ds with
 | nil=>intro vs v;exact v
 | cons d ds ih=>intro vs v;cases v with | mk a b=>exact .mk (View.ext a x) (ih b)
theorem whE (S:SoundEv C n K.ev) {pos:Pos} (es:List Expr):∀ {F:FH} {s:Shared} {Q:List Value->Shared->Prop} {k:List D->Option α},Ok C A n env q F s ->
  pkLQ C.T K env.scope q es k=some r->(∀ ds,k ds=some r->∀ vs s' F',Ext F s F' s'->Views C F' s'.heap.get? ds vs->FzAll q F' ds vs->Q vs s')->wpAny (model C.prog C.w) A (spliced (backTo pos (starEach es env))) Q E s:=by
 induction es with
 | nil=>intro F s Q k X h kk;exact spliced_nil (kk [] h [] s F X.here rfl fun _ _ b hb=>memE hb)
 | cons e es ih=>
  intro F s Q k X h kk
  exact nifE h fun hs h=>by
   rw [wal hs]
   refine spliced_cons (wbp S X h fun d h v sa F1 xa re za=>ih (X.ext xa) h fun ds h vs s₂ F2 xb rc zb=>kk _ h _ s₂ F2 (xa.trans xb) (.mk (View.ext re xb) rc) fun hz ho b hb=>?_)
   rcases List.mem_cons.mp hb with q | hb
   ·cases q2:F1 b with
    | none=>exact absurd q2 (za hz (ho _ List.mem_cons_self) b q.symm)
    | some o=>rw [xb.le b o q2];exact wav
   ·exact zb hz (fun d hd=>ho d (List.mem_cons_of_mem _ hd)) b hb
end
section
variable {C:Fr} {F F':FH} {A:Around} {E:Value->Shared->Prop} {s:Shared} {Q:Value->Shared->Prop} {d:D} {env:Env} {q:QV} {n:Nat} {K:KJ} {α:Type} {r:α}
theorem wtj (S:SoundEv C n K.ev) {es:List Expr} {pos:Pos} {k:D->Option α} (X:Ok C A n env q F s) (h:(if es.length<=cap then evLQ K env.scope q es fun ds=>k (.list ds) else none)=some r) (kk:∀ d,k d=some r->Cont C F s d Q) :
  wpAny (model C.prog C.w) A (eval (.List es pos) env) Q E s:=
 ifE h fun hz h=>wpEq (arm_eval_List ..) (wpAny_bind (wpAny_standAt (wpAny_bind (wgS S es X h fun ds h vs sa F1 xa re hl=>
  wpAny_newObj_type (((kk _ h).ext xa).push xa.inn rfl rfl (RepAll.new (vs:=vs.toArray) re (wbB xa.inn))) (waA (by show vs.length<=cap;rw [re.length,hl];exact hz))))))
theorem wq8 (S:SoundEv C n K.ev) {es:List Expr} {m:Nat} {pos:Pos} {k:D->Option α} (X:Ok C A n env q F s) (h:(if es.length<=cap then evLQ K env.scope q es fun ds=>k (.tuple ds) else none)=some r) (kk:∀ d,k d=some r->Cont C F s d Q) :
  wpAny (model C.prog C.w) A (eval (.Tuple es m pos) env) Q E s:=
 ifE h fun hz h=>wpEq (arm_eval_Tuple ..) (wpAny_bind (wpAny_standAt (wpAny_bind (wgS S es X h fun ds h vs sa F1 xa re hl=>
  wpAny_newObj_type (((kk _ h).ext xa).push xa.inn rfl rfl (RepAll.new (vs:=vs.toArray) re (wbB xa.inn))) (waA (by show vs.length<=cap;rw [re.length,hl];exact hz))))))
theorem ww0 (S:SoundEv C n K.ev) {pos:Pos} (es:List Expr):∀ {d:D} {F:FH} {s:Shared},Ok C A n env q F s->evAndQ K env.scope q es=some d->Cont C F s d Q->wpAny (model C.prog C.w) A (boolOp pos .And (evalEach es env)) Q E s:=by
 induction es with
 | nil=>intro d F s X h k;exact noneE h
 | cons e es ih=>
  intro d F s X h k
  cases es with
  | nil=>exact S X h fun d' e=>k.of e
  | cons e' es=>
   show wpAny _ _ (do
    let v <- eval e env
    standAt pos
    let t <- holding [v] (truthy v)
    match BoolOp.And,t with
    | .And,false | .Or,true=>pure v
    | _,_=>boolOp pos .And (evalEach (e'::es) env)) _ _ _
   refine wpAny_bind (S X h fun d' h v sa F1 xa re=>wpAny_bind (wpAny_standAt (wpAny_bind (wpAny_holding (boolE h fun b q h=>?_)))))
   subst q
   cases re
   refine wpAny_truthy_bool ?_
   cases b with
   | true=>exact ih (X.ext xa) h (k.ext xa)
   | false=>exact wpAny_pure (k.of h _ sa F1 xa rfl)
theorem wxp (S:SoundEv C n K.ev) {pos:Pos} (es:List Expr):∀ {d:D} {F:FH} {s:Shared},Ok C A n env q F s->evOrQ K env.scope q es=some d->Cont C F s d Q->wpAny (model C.prog C.w) A (boolOp pos .Or (evalEach es env)) Q E s:=by
 induction es with
 | nil=>intro d F s X h k;exact noneE h
 | cons e es ih=>
  intro d F s X h k
  cases es with
  | nil=>exact S X h fun d' e=>k.of e
  | cons e' es=>
   show wpAny _ _ (do
    let v <- eval e env
    standAt pos
    let t <- holding [v] (truthy v)
    match BoolOp.Or,t with
    | .And,false | .Or,true=>pure v
    | _,_=>boolOp pos .Or (evalEach (e'::es) env)) _ _ _
   refine wpAny_bind (S X h fun d' h v sa F1 xa re=>wpAny_bind (wpAny_standAt (wpAny_bind (wpAny_holding (boolE h fun b q h=>?_)))))
   subst q
   cases re
   refine wpAny_truthy_bool ?_
   cases b with
   | false=>exact ih (X.ext xa) h (k.ext xa)
   | true=>exact wpAny_pure (k.of h _ sa F1 xa rfl)
theorem wtZ (S:SoundTr C n K.tr) {Q:Bool->Shared->Prop} (es:List Expr):∀ {b:Bool} {F:FH} {s:Shared},Ok C A n env q F s->trAllQ K env.scope q es=some b->(∀ s' F',Ext F s F' s'->Q b s')->wpAny (model C.prog C.w) A (allTrue .And es env) Q E s:=by
 induction es with
 | nil=>intro b F s X h k;cases h;exact wpAny_pure (k s F X.here)
 | cons e es ih=>
  intro b F s X h k
  refine wpEq (arm_allTrue_cons ..) (wpAny_bind (S X h fun x h sa F1 xa=>?_))
  cases x with
  | true=>exact ih (X.ext xa) h fun s' F' y=>k s' F' (xa.trans y)
  | false=>cases h;exact wpAny_pure (k sa F1 xa)
theorem wtY (S:SoundTr C n K.tr) {Q:Bool->Shared->Prop} (es:List Expr):∀ {b:Bool} {F:FH} {s:Shared},Ok C A n env q F s->trAnyQ K env.scope q es=some b->(∀ s' F',Ext F s F' s'->Q b s')->wpAny (model C.prog C.w) A (allTrue .Or es env) Q E s:=by
 induction es with
 | nil=>intro b F s X h k;cases h;exact wpAny_pure (k s F X.here)
 | cons e es ih=>
  intro b F s X h k
  refine wpEq (arm_allTrue_cons ..) (wpAny_bind (S X h fun x h sa F1 xa=>?_))
  cases x with
  | false=>exact ih (X.ext xa) h fun s' F' y=>k s' F' (xa.trans y)
  | true=>cases h;exact wpAny_pure (k sa F1 xa)
theorem wur (S:SoundEv C n K.ev) {o i:Expr} {pos:Pos} {k:D->Option α} (X:Ok C A n env q F s) (hs:isSliceE i=false)
  (h:(pkQ C.T K env.scope q o fun d=>K.ev env.scope q i fun kd=>(sub d kd).bind k)=some r) (kk:∀ d,k d=some r->Cont C F s d Q):wpAny (model C.prog C.w) A (eval (.Subscript o i pos) env) Q E s:=
 Subscript_ (wbp S X h fun x h vo sa F1 xa vc _=>S (X.ext xa) h fun y h vi s₂ F2 xb rc=>bindE h fun d e h=>sub_ok hs e (vc.ext xb) rc xb.inn ((kk d h).ext (xa.trans xb)))
theorem woX (S:SoundEv C n K.ev) {o:Option Expr} {k:Option Int->Option α} (X:Ok C A n env q F s) (h:evOptQ K env.scope q o k=some r)
  (kk:∀ p,k p=some r->∀ v s' F',Ext F s F' s'->IsPart v p->Q v s'):wpAny (model C.prog C.w) A (evalPart o env) Q E s:=by
 cases o with
 | none=>exact wpAny_pure (kk _ h _ s F X.here .none)
 | some e=>exact S X h fun d h v s' F' x r=>intE h fun i q h=>kk _ h v s' F' x (by subst q;cases r;exact .int _ _)
theorem wre (S:SoundEv C n K.ev) {o i:Expr} {pos:Pos} {k:D->Option α} (X:Ok C A n env q F s)
  (h:(sliceK i fun lo hi=>pkQ C.T K env.scope q o fun d=>evOptQ K env.scope q lo fun a=>evOptQ K env.scope q hi fun b=>if boundOk a&&boundOk b then (cutD a b d).bind k else none)=some r) (kk:∀ d,k d=some r->Cont C F s d Q) :
  wpAny (model C.prog C.w) A (eval (.Subscript o i pos) env) Q E s:=by
 obtain ⟨lo,hi,st,p,rfl,h⟩:=sliceE h
 refine ifE h fun hst h=>?_
 cases st with
 | some=>exact ffE hst
 | none=>
  refine Subscript_ (wbp S X h fun x h vo sa F1 xa vc _=>wpAny_Slice (woX S (X.ext xa) h fun a h vl s₂ F2 xb pa=>woX S (X.ext (xa.trans xb)) h fun b h vu sd F3 xc pb=>ifE h fun _ h=>bindE h fun d e h=>?_))
  rw [evalPart_none]
  have x4:Ext F3 sd F3 { sd with heap:=sd.heap.push (slc vl vu) }:=Ext.same xc.inn (Keep.push _ _)
  exact wpAny_pure (wwQ pa pb e (vc.ext (xb.trans (xc.trans x4))) x4.inn (Heap.get?_push_size _ rfl) ((kk d h).ext (xa.trans (xb.trans (xc.trans x4)))))
theorem Ext.seal {s sa s₂:Shared} {a:Addr} {o:Obj} (x:Ext F s F' sa) (hn:s.heap.get? a=none) (hf:F' a=none) (k:∀ b ob,b≠a->sa.heap.get? b=some ob->s₂.heap.get? b=some ob) (ho:s₂.heap.get? a=some o) (c:Calm sa s₂:=by first | exact ⟨rfl,fun x=>x⟩ | assumption):Ext F s (F'.put a o) s₂:=by
 refine ⟨x.le.trans (FH.le_put hf),fun b ob e=>?_,x.keep.but (P:=fun b=>b=a) (fun b q=>by rw [q];exact hn) k,fun b ob e=>?_,x.calm.trans c⟩
 ·unfold FH.put at e
  exact iteE e (fun q e=>by cases e;rw [q];exact ho) fun q e=>k b ob q (x.inn b ob e)
 ·unfold FH.put at e
  exact iteE e (fun q e=>.inr (by rw [q];exact hn)) fun q e=>x.new b ob e
theorem Ext.own {s sa s₂:Shared} {a:Addr} (x:Ext F s F' sa) (hn:s.heap.get? a=none) (hf:F' a=none) (k:∀ b ob,b≠a->sa.heap.get? b=some ob->s₂.heap.get? b=some ob) (c:Calm sa s₂:=by first | exact ⟨rfl,fun x=>x⟩ | assumption):Ext F s F' s₂:=
 ⟨x.le,fun b ob e=>k b ob (fun q=>by rw [q,hf]at e;exact noneE e) (x.inn b ob e),x.keep.but (P:=fun b=>b=a) (fun b q=>by rw [q];exact hn) k,x.new,x.calm.trans c⟩
theorem Ext.still {s sa:Shared} {a:Addr} (x:Ext F s F' sa) (hf:F a=none) (hs:s.heap.get? a≠none):F' a=none:=by
 cases q:F' a with
 | none=>rfl
 | some o=>
  rcases x.new _ _ q with e | e
  ·exact noneE (hf.symm.trans e)
  ·exact absurd e hs
theorem wto {es:List (Key×Value)} {kvs:List (Key×D)} (r:RepKV C F kvs es) (k:Key):(es.any fun kv=>decide (kv.1=k))=khas k kvs:=by
 induction kvs generalizing es with
 | nil=>cases r;rfl
 | cons x l ih=>
  obtain ⟨k',d'⟩:=x
  cases r with | @mk p vs a b=>
  rw [List.any_cons,ih b,a.1]
  unfold khas
  simp only [kget]
  by_cases q:k'=k
  ·rw [if_pos q,decide_eq_true q];rfl
  ·rw [if_neg q,decide_eq_false q];rfl
theorem wtm {es:List (Key×Value)} {kvs:List (Key×D)} {v:Value} (r:RepKV C F kvs es) (k:Key) (rv:Rep C F v d) :
  RepKV C F (kput k d kvs) (es.map fun kv=>if kv.1=k then (kv.1,v) else kv):=by
 induction kvs generalizing es with
 | nil=>cases r;exact rfl
 | cons x l ih=>
  obtain ⟨k',d'⟩:=x
  cases r with | @mk p vs a b=>
  rw [List.map_cons]
  simp only [kput]
  by_cases q:k'=k
  ·rw [if_pos q,if_pos (a.1.trans q)];exact .mk ⟨a.1,rv⟩ (ih b)
  ·rw [if_neg q,if_neg fun e=>q (a.1.symm.trans e)];exact .mk a (ih b)
theorem RepKV.append {es es':List (Key×Value)} {kvs kvs':List (Key×D)} (r:RepKV C F kvs es) (r':RepKV C F kvs' es'):RepKV C F (kvs++kvs') (es++es'):=by
 induction kvs generalizing es with
 | nil=>cases r;exact r'
 | cons x l ih=>obtain ⟨k',d'⟩:=x;cases r with | mk a b=>exact .mk a (ih b)
theorem RepKV.stored {es:List (Key×Value)} {kvs:List (Key×D)} {v:Value} (r:RepKV C F kvs es) (k:Key) (rv:Rep C F v d):RepKV C F (kset k d kvs) (PySem.stored es k v):=by
 unfold PySem.stored kset
 have e:=wto r k
 by_cases q:khas k kvs=true
 ·rw [if_pos q,if_pos (e.trans q)];exact wtm r k rv
 ·rw [if_neg q,if_neg fun h=>q (e.symm.trans h)];exact r.append (.mk ⟨rfl,rv⟩ rfl)
theorem RepKV.merged {kvs2:List (Key×D)}:∀ {es2:List (Key×Value)} {es:List (Key×Value)} {kvs:List (Key×D)},RepKV C F kvs es->RepKV C F kvs2 es2 ->
  RepKV C F (kvs2.foldl (fun acc p=>kset p.1 p.2 acc) kvs) (PySem.merged es es2):=by
 induction kvs2 with
 | nil=>intro es2 es kvs r r2;cases r2;exact r
 | cons x l ih=>intro es2 es kvs r r2;obtain ⟨k',d'⟩:=x;cases r2 with | @mk p vs a b=>
  obtain ⟨pk,pv⟩:=p
  obtain ⟨e0,a⟩:=a
  have e0:pk=k':=e0
  subst e0
  exact ih (es:=PySem.stored es pk pv) (r.stored pk a) b
noncomputable def pairsT (env:Env) (pos:Pos):List (Option Expr)->List Expr->List (Sem Value×Sem Value)
 | some k::ks,v::vs=>(eval k env,do let x <- eval v env;standAt pos;pure x)::pairsT env pos ks vs
 | _,_=>[]
theorem kvE {P:Prop} {sc:Scope} {ks:List (Option Expr)} {vs:List Expr} {k:List (Key×D)->Option α} (h:evKVsQ K sc q ks vs k=some r) (f:ks=[]->vs=[]->k []=some r->P)
  (g:∀ e ks' v vs',ks=some e::ks'->vs=v::vs'->(K.ev sc q e fun kd=>(toKey kd).bind fun kk=>K.ev sc q v fun vd=>evKVsQ K sc q ks' vs' fun r=>k ((kk,vd)::r))=some r->P):P:=by
 cases ks with
 | nil=>cases vs with
  | nil=>exact f rfl rfl h
  | cons=>exact noneE h
 | cons o ks=>cases vs with
  | nil=>exact noneE h
  | cons v vs=>exact optE h fun e q h=>g e ks v vs (by rw [q]) rfl h
theorem wny {pos:Pos} (ks:List (Option Expr)):∀ {vs:List Expr},somes ks vs=true ->
  (evalEachOpt ks env).zip ((evalEach vs env).map fun v=>do let x <- v;standAt pos;pure x)=(pairsT env pos ks vs).map (fun p=>(some p.1,p.2))/\(pairsT env pos ks vs).length=ks.length:=by
 induction ks with
 | nil=>intro vs h;cases vs with
  | nil=>exact ⟨rfl,rfl⟩
  | cons=>exact ffE h
 | cons o ks ih=>intro vs h;cases o with
  | none=>exact ffE h
  | some k=>cases vs with
   | nil=>exact ffE h
   | cons v vs=>
    obtain ⟨h1,h2⟩:=ih h
    exact ⟨by rw [arm_evalEachOpt_cons,arm_evalEach_cons,arm_evalOpt_some,List.map_cons,List.zip_cons_cons,h1];rfl,congrArg Nat.succ h2⟩
theorem ws5 (S:SoundEv C n K.ev) {pos:Pos} (ks:List (Option Expr)):∀ {vs:List Expr} {F:FH} {s:Shared} {Q:List (Value×Value)->Shared->Prop} {k:List (Key×D)->Option α},Ok C A n env q F s->evKVsQ K env.scope q ks vs k=some r ->
  (∀ kvs,k kvs=some r->∀ pv es s' F',Ext F s F' s'->Carries (anyKind C.prog C.w) pv es->RepKV C F' kvs es->Q pv s')->wpAny (model C.prog C.w) A (evalPairs (pairsT env pos ks vs)) Q E s:=by
 induction ks with
 | nil=>
  intro vs F s Q k X h kk
  exact kvE h (fun _ q h=>by subst q;exact evalPairs_nil (kk _ h [] [] s F X.here trivial rfl)) fun _ _ _ _ q=>consE q
 | cons o ks ih=>
  intro vs F s Q k X h kk
  refine kvE h (fun q=>consE q.symm) fun ke ks' ve vs' q1 q2 h=>?_
  cases q1;subst q2
  show wpAny _ _ (evalPairs (_::_)) _ _ _
  unfold evalPairs
  exact wpAny_bind (S X h fun kd h kv sa F1 xa re=>wpAny_bind (wpAny_holding (wpAny_bind (bindE h fun key e h=>S (X.ext xa) h fun vd h vv s₂ F2 xb rc=>wpAny_bind (wpAny_standAt (wpAny_pure (wpAny_bind (wpAny_holding (ih (X.ext (xa.trans xb)) h fun kvs h pv es sd F3 xc ca r3=>
   wpAny_pure (kk _ h _ ((key,vv)::es) sd F3 (xa.trans (xb.trans xc)) ⟨wcD e re,rfl,ca⟩ (.mk ⟨rfl,rc.ext xc⟩ r3)))))))))))
theorem wth (S:SoundEv C n K.ev) {pos:Pos} {F₀:FH} {s₀:Shared} {D1:Addr} (hD:s₀.heap.get? D1=none) (X:Ok C A n env q F₀ s₀) (ks:List (Option Expr)) :
  ∀ {vs:List Expr} {acc:List (Key×D)} {es:List (Key×Value)} {F:FH} {s:Shared} {Q:PUnit->Shared->Prop} {k:List (Key×D)->Option α},
  Ext F₀ s₀ F s->F D1=none->s.heap.DictOf (anyKind C.prog C.w) D1 es->RepKV C F acc es->acc.length+ks.length<=100->evKVsQ K env.scope q ks vs k=some r ->
  (∀ kvs,k kvs=some r->∀ es' s' F',Ext F₀ s₀ F' s'->F' D1=none->s'.heap.DictOf (anyKind C.prog C.w) D1 es'->RepKV C F' (kvs.foldl (fun acc p=>kset p.1 p.2 acc) acc) es'->Q PUnit.unit s') ->
  wpAny (model C.prog C.w) A (forIn (pairsT env pos ks vs) PUnit.unit fun (x:Sem Value×Sem Value) (_:PUnit)=>(do
   let kv <- x.1
   let vv <- holding [kv] x.2
   holding [kv,vv] (dictSet D1 kv vv)
   pure (ForInStep.yield PUnit.unit):Sem (ForInStep PUnit))) Q E s:=by
 induction ks with
 | nil=>
  intro vs acc es F s Q k x hf hd ra hz h kk
  refine kvE h (fun _ q h=>?_) fun _ _ _ _ q=>consE q
  subst q
  show wpAny _ _ (forIn [] _ _) _ _ _
  rw [List.forIn_nil]
  exact wpAny_pure (kk _ h es s F x hf hd ra)
 | cons o ks ih=>
  intro vs acc es F s Q k x hf hd ra hz h kk
  refine kvE h (fun q=>consE q.symm) fun ke ks' ve vs' q1 q2 h=>?_
  cases q1;subst q2
  show wpAny _ _ (forIn (_::_) _ _) _ _ _
  rw [List.forIn_cons]
  have hDs:s.heap.get? D1≠none:=by obtain ⟨o,_,_,ho,_⟩:=hd;rw [ho];exact wav
  refine wpAny_bind (wpAny_bind (S (X.ext x) h fun kd h kv sa F1 xa re=>wpAny_bind (wpAny_holding (wpAny_bind (bindE h fun key e h=>S (X.ext (x.trans xa)) h fun vd h vv s₂ F2 xb rc=>wpAny_bind (wpAny_standAt (wpAny_pure ?_)))))))
  have x':=x.trans (xa.trans xb)
  have hf':F2 D1=none:=(xa.trans xb).still hf hDs
  have ra':=RepKV.mono (xa.trans xb).le _ ra
  have hl:=ra.length
  refine wpAny_bind (wpAny_holding (wpAny_dictSet_pairs (wcD e (re.ext xb)) (wce hd (xa.trans xb).keep) (fun h' hm hs=>wpAny_pure ?_) (by simp [sizeLine];omega)))
  have hk:(kset key vd acc).length<=acc.length+1:=by
   have e1:=(ra'.stored key rc).length
   have e2:=stored_length_le es key vv
   omega
  exact ih (acc:=kset key vd acc) (k:=fun kvs=>k ((key,vd)::kvs)) (x'.own hD hf' fun b ob hb e=>hs.extBut b ob hb e) hf' hm (ra'.stored key rc) (by rw [List.length_cons]at hz;omega) h fun kvs h=>kk _ h
theorem wtK (S:SoundEv C n K.ev) {ks:List (Option Expr)} {vs:List Expr} {pos:Pos} {k:D->Option α} (X:Ok C A n env q F s)
  (h:(if ks.length<=16/\somes ks vs=true then evKVsQ K env.scope q ks vs fun kvs=>k (.dict (kvs.foldl (fun acc p=>kset p.1 p.2 acc) [])) else none)=some r) (kk:∀ d,k d=some r->Cont C F s d Q):wpAny (model C.prog C.w) A (eval (.Dict ks vs pos) env) Q E s:=by
 refine ifE h fun hz h=>?_
 obtain ⟨hs,hl⟩:=wny (env:=env) (pos:=pos) ks hz.2
 have hI:=get?_size s.heap
 have xj:Ext F s F { s with heap:=s.heap.push { cls:=.type "dict",data:=.dict #[] } }:=Ext.same X.r.inn (Keep.push _ _)
 have hF0:F s.heap.objs.size=none:=noneF X.r.inn hI
 have hD0:(s.heap.push { cls:=.type "dict",data:=.dict #[] }).DictOf (anyKind C.prog C.w) s.heap.objs.size []:=Heap.DictOf.new _
 have hDs:(s.heap.push { cls:=.type "dict",data:=.dict #[] }).get? s.heap.objs.size≠none:=by obtain ⟨o,_,_,ho,_⟩:=hD0;rw [ho];exact wav
 have fin:∀ kvs,k (.dict kvs)=some r->∀ {F':FH} {es:List (Key×Value)} {s':Shared},Ext F s F' s'->F' s.heap.objs.size=none->s'.heap.DictOf (anyKind C.prog C.w) s.heap.objs.size es->RepKV C F' kvs es->Q (.ref s.heap.objs.size) s':=by
  intro kvs h F' es s' x hf hd ra
  obtain ⟨o,ho,hd⟩:=Heap.dictOf_iff.mp hd
  exact kk _ h _ s' _ (x.seal (o:=o) hI hf (fun b ob _ e=>e) ho) (.mk (FH.put_self _ _ _) (X.g.noSys X.r.inn) hd (RepKV.mono (FH.le_put hf) _ ra))
 refine wpEq (arm_eval_Dict ..) (wpAny_bind (wpAny_standAt ?_))
 cases ks with
 | nil=>
  exact kvE h (fun _ q h=>by subst q;exact wpAny_newObj_type (T:="dict") (data:=.dict #[]) (fin _ h xj hF0 hD0 rfl) (Nat.zero_le _)) fun _ _ _ _ q=>consE q
 | cons o ks=>
  rw [hs,dictDisplay_pairs _ (by intro q;rw [q]at hl;exact succE hl) (by omega)]
  by_cases hz':(o::ks).length<=15
  ·refine wpAny_bind (wpAny_subDict (knd:=anyKind C.prog C.w) (by omega) (ws5 S _ (X.ext xj) h fun kvs h pv es sa F1 xa cf re=>⟨es,cf,wce hD0 xa.keep,fun h' hd hsb=>wpAny_pure ?_⟩))
   have hf:=xa.still hF0 hDs
   exact fin _ h ((xj.trans xa).own hI hf fun b ob hb e=>hsb.extBut b ob hb e) hf hd (RepKV.merged rfl re)
  ·unfold subDict
   refine wpAny_bind (wpAny_bind (wpAny_alloc (wpAny_bind (wpAny_holding ?_))))
   rw [if_neg (by omega)]
   refine wpAny_bind (wpAny_rule ?_)
   refine wpAny_bind (wth (F₀:=F) (s₀:=s) (pos:=pos) S hI X _ (acc:=[]) xj hF0 hD0 rfl (by show 0+_<=_;omega) h fun kvs h es' s' F' x hf hd ra=>?_)
   exact wpAny_pure (wpAny_pure (wpAny_pure (fin _ h x hf hd ra)))
end
noncomputable def isTupE (e:Expr):Bool:=e.ctorIdx==25
noncomputable def ItemRep (C:Fr) (F:FH) (tgt:Expr) (h:Heap) (v:Value) (d:D):Prop:=
 Rep C F v d\/isTupE tgt=true/\∃ t vals xs,v=.ref t/\d=.tuple xs/\h.IsTuple t vals/\RepAll C F xs vals.toList
theorem ItemRep.mono {C:Fr} {F F':FH} {tgt:Expr} {h:Heap} {v:Value} {d:D} (r:ItemRep C F tgt h v d) (le:F.le F'):ItemRep C F' tgt h v d:=by
 rcases r with r | ⟨q,t,vals,xs,e1,e2,e3,e4⟩
 ·exact .inl (r.mono le)
 ·exact .inr ⟨q,t,vals,xs,e1,e2,e3,RepAll.mono le _ e4⟩
structure Turns (C:Fr) (Src:Addr->Prop) (F:FH) (hH:Heap) (tgt:Expr) (I:Addr) (ds:List D) (h:Heap) (fp wr:List Addr) (P Md:Nat->Value->Heap->Prop) (St:Nat->Heap->Prop):Prop where
 kt:∀ A:Around,A.handled=none->KTurns C.prog C.w A tgt I fp wr ds.length P Md St
 st:St 0 h
 self:∀ (A:Around) (s:Shared) (Q:Value->Shared->Prop) (E:Value->Shared->Prop),A.handled=none->St 0 s.heap->Q (.ref I) s->wpAny (model C.prog C.w) A (pyIter (.ref I)) Q E s
 alive:∀ i h',St i h'->∀ b∈fp,∃ o,h'.get? b=some o/\¬ Tab0 o
 new:∀ b∈wr,hH.get? b=none
 rep:∀ i v h',P i v h'->∃ d,ds[i]?=some d/\ItemRep C F tgt h' v d
 src:∀ b∈fp,hH.get? b=none\/Src b
noncomputable def ItQ (C:Fr) (Src:Addr->Prop) (F:FH) (s:Shared) (tgt:Expr) (ds:List D) (Q:Value->Shared->Prop):Prop:=
 ∀ I s' fp wr P Md St,Ext F s F s'->Turns C Src F s.heap tgt I ds s'.heap fp wr P Md St->Q (.ref I) s'
section
variable {C:Fr} {F F':FH} {A:Around} {E:Value->Shared->Prop} {s:Shared} {Q:Value->Shared->Prop} {d:D} {tgt:Expr} {Src:Addr->Prop}
theorem ws4 {I:Addr} {v:Value} {Q:Unit->Shared->Prop} {M:Model} {o:Obj} {T:String} (ho:s.heap.get? I=some o) (hc:o.cls=.type T)
  (hn:["enumerate","zip","dict_itemiterator","dict_reverseitemiterator","odict_iterator","itertools.zip_longest","itertools.pairwise"].contains T=false) (h:Q () s) :
  wpAny M A (letOwnedTupleGo tgt (.ref I) v) Q E s:=by
 have main:∀ a,wpAny M A (load I >>= fun o=>match o.cls,o.data with
   | .type n,.fields vs=>if (["enumerate","zip","dict_itemiterator","dict_reverseitemiterator","odict_iterator","itertools.zip_longest","itertools.pairwise"].contains n&&vs[0]?==some (rawInt a))=true then (do rule "for.unpacks-the-owned-tuple";updateField I 0 .none) else pure ()
   | _,_=>pure ()) Q E s:=fun a=>by
  refine wpAny_bind (wpAny_load ho ?_)
  obtain ⟨c,dd,dt,sl⟩:=o
  cases hc
  cases dt<;>first | exact wpAny_pure h | skip
  show wpAny M A (if _ then _ else _) _ _ _
  rw [hn,Bool.false_and,if_neg Bool.false_ne_true];exact wpAny_pure h
 unfold letOwnedTupleGo
 cases tgt<;>first
  | exact wpAny_pure h
  | (cases v<;>first | exact wpAny_pure h | exact main _)
theorem nameTgt (ht:tgtOk .plain tgt=true):∃ x p,tgt=.Name x p:=by
 cases tgt<;>first | exact ⟨_,_,rfl⟩ | exact ffE ht
theorem tupTgt (ht:tgtOk .pairs tgt=true):∃ ts n p,tgt=.Tuple ts n p:=by
 cases tgt<;>first | exact ⟨_,_,_,rfl⟩ | exact ffE ht
theorem wgN {h:Heap} {a b:Addr} {o o':Obj} (e:h.get? a=some o) (n:¬ Tab0 o) (e':h.get? b=some o') (n':¬ Tab0 o'):∀ c∈[a,b],∃ o,h.get? c=some o/\¬ Tab0 o:=fun c hc=>by
 rcases List.mem_cons.mp hc with rfl | hc
 ·exact ⟨o,e,n⟩
 ·exact ⟨o',List.mem_singleton.mp hc ▸ e',n'⟩
theorem wfI {h:Heap} {a b:Addr} (e:h.get? a=none) (hs:Src b):∀ c∈[a,b],h.get? c=none\/Src c:=fun c hc=>by
 rcases List.mem_cons.mp hc with rfl | hc
 ·exact .inl e
 ·exact .inr (List.mem_singleton.mp hc ▸ hs)
theorem wcC {I:Addr} {fp:List Addr} {P:Nat->Value->Prop} {St:Nat->Heap->Prop} {ds:List D} {hH h:Heap} {nn:Nat} (W:∀ A:Around,A.handled=none->Walks C.prog C.w A I fp [I] nn P St) (hnn:nn=ds.length)
  (hgo:∀ (A:Around) i v (s:Shared) (Q:Unit->Shared->Prop) (E:Value->Shared->Prop),St i s.heap->Q () s->wpAny (model C.prog C.w) A (letOwnedTupleGo tgt (.ref I) v) Q E s)
  (hst:St 0 h) (hfp:∀ i h',St i h'->∀ b∈fp,∃ o,h'.get? b=some o/\¬ Tab0 o) (hI:hH.get? I=none) (hP:∀ i v,P i v->∃ d,ds[i]?=some d/\Rep C F v d) (hS:∀ b∈fp,hH.get? b=none\/Src b) :
  Turns C Src F hH tgt I ds h fp [I] (fun i v _=>P i v) (fun i v h=>P i v/\St (i+1) h) St where
 kt A hA:=hnn ▸ KTurns.ofWalks (W A hA) (hgo A)
 st:=hst
 self A s Q E hA st hQ:=(W A hA).self 0 s Q E st hQ
 alive:=hfp
 new b hb:=by rw [List.mem_singleton.mp hb];exact hI
 rep i v h' hv:=by obtain ⟨d,e,r⟩:=hP i v hv;exact ⟨d,e,.inl r⟩
 src:=hS
end
section
variable {C:Fr} {F F':FH} {A:Around} {E:Value->Shared->Prop} {s:Shared} {Q:Value->Shared->Prop} {d:D} {tgt:Expr} {Src:Addr->Prop}
theorem wnz {h:Heap} {a:Addr} {o:Obj} (e:h.get? a=some o) (n:¬ Tab0 o):∀ c∈[a],∃ o,h.get? c=some o/\¬ Tab0 o:=fun c hc=>⟨o,List.mem_singleton.mp hc ▸ e,n⟩
theorem wk3 {h:Heap} {a:Addr} (e:h.get? a=none):∀ c∈[a],h.get? c=none\/Src c:=fun c hc=>.inl (List.mem_singleton.mp hc ▸ e)
theorem whf {h:Heap} {a:Addr} {es:List (Key×Value)} {ep:Nat} (x:h.DictAt (anyKind C.prog C.w) a es ep):∃ o,h.get? a=some o/\¬ Tab0 o:=by
 obtain ⟨o,e,hd⟩:=Heap.dictOf_iff.mp x.dictOf
 obtain ⟨_,_,y,_⟩:=hd
 exact ⟨o,e,wab y.1⟩
theorem wmp {v:Value} {ds:List D} {d0:D} (e:seqOf d0=some ds) (ht:tgtOk (itKind d0) tgt=true) (vd:View C s.heap F v d0) (hF:F.In s.heap) (hS:∀ b,v=.ref b->Src b) (k:ItQ C Src F s tgt ds Q):wpAny (model C.prog C.w) A (pyIter v) Q E s:=by
 have hI:=get?_size s.heap
 cases d0<;>first | exact noneE e | skip
 ·cases vd
  rename_i x t
  cases e
  obtain ⟨n,p,rfl⟩:=nameTgt ht
  have hl:(mk x).cps.size=(chars x).length:=(wb4 x).trans (List.length_map ..).symm
  cases ha:(mk x).cps.all (·<128)
  ·exact wpAny_pyIter_wide ha (k _ _ _ _ _ _ _ (Ext.same hF (Keep.push _ _)) (wcC (fp:=[s.heap.objs.size]) (P:=SignAt (mk x)) (fun A' hA=>Walks.strWide hA _ (mk x) t) hl (fun A i v s Q E st hQ=>wpAny_pure hQ) ⟨_,Heap.get?_push_size _ rfl,rfl,rfl⟩
    (fun i h' st=>let ⟨_,e1,c1,_⟩:=st;wnz e1 (wab c1)) hI wiX (wk3 hI)))
  ·exact wpAny_pyIter_ascii ha (k _ _ _ _ _ _ _ (Ext.same hF (Keep.push _ _)) (wcC (fp:=[s.heap.objs.size]) (P:=SignAt (mk x)) (fun A' hA=>Walks.strAscii hA _ (mk x) t) hl (fun A i v s Q E st hQ=>wpAny_pure hQ) ⟨_,Heap.get?_push_size _ rfl,rfl,rfl⟩
    (fun i h' st=>let ⟨_,e1,c1,_⟩:=st;wnz e1 (wab c1)) hI wiX (wk3 hI)))
 ·cases vd with | mk hl r=>
  cases e
  exact wpAny_pyIter_list (waD hl).isList (k _ _ _ _ _ _ _ (Ext.same hF (Keep.push _ _)) (wcC (fun A' hA=>Walks.list hA s.heap.objs.size _ (Nat.ne_of_lt (Heap.lt_size hl)) _) r.size
   (fun A i v s Q E st hQ=>let ⟨⟨o,ho,hc,_⟩,_⟩:=st;ws4 ho hc (by decide) hQ) ⟨⟨_,Heap.get?_push_size _ rfl,rfl,rfl⟩,(waD hl).isList.push _⟩
   (fun i h' st=>let ⟨⟨_,e1,c1,_⟩,⟨_,e2,c2,_⟩⟩:=st;wgN e1 (wab c1) e2 (wab c2)) hI (wdr r) (wfI hI (hS _ rfl))))
 ·cases vd with | mk hl r=>
  cases e
  obtain ⟨n,p,rfl⟩:=nameTgt ht
  exact wpAny_pyIter_tuple (weB hl) (k _ _ _ _ _ _ _ (Ext.same hF (Keep.push _ _)) (wcC (fun A' hA=>Walks.tuple hA s.heap.objs.size _ (Nat.ne_of_lt (Heap.lt_size hl)) _) r.size (fun A i v s Q E st hQ=>wpAny_pure hQ) ⟨⟨_,Heap.get?_push_size _ rfl,rfl,rfl⟩,(weB hl).push _⟩
   (fun i h' st=>let ⟨⟨_,e1,c1,_⟩,⟨_,e2,c2,_⟩⟩:=st;wgN e1 (wab c1) e2 (wab c2)) hI (wdr r) (wfI hI (hS _ rfl))))
theorem RepKV.idx {es:List (Key×Value)} {kvs:List (Key×D)} (r:RepKV C F kvs es):∀ {i:Nat} {k:Key} {v:Value},es[i]?=some (k,v)->∃ d,kvs[i]?=some (k,d)/\Rep C F v d:=by
 induction kvs generalizing es with
 | nil=>intro i k v e;cases r;exact noneE e
 | cons x l ih=>
  intro i k v e
  obtain ⟨k',d'⟩:=x
  cases r with | mk a b=>
  cases i with
  | zero=>cases e;exact ⟨d',by rw [show k=k' from a.1];rfl,a.2⟩
  | succ i=>exact ih b e
theorem woU {k:Key} {v:Value} (h:(anyKind C.prog C.w).is k v=true):Rep C F v (ofKey k):=by
 rcases wbC h with ⟨n,t,rfl,rfl⟩ | ⟨x,t,rfl,rfl⟩<;>exact .mk _
theorem wg3 {α β:Type} {l:List α} {f:α->β} {i:Nat} {a:α} (e:l[i]?=some a):(l.map f)[i]?=some (f a):=by rw [List.getElem?_map,e];rfl
theorem wqk {v:Value} {kvs:List (Key×D)} (ht:tgtOk .plain tgt=true) (vd:View C s.heap F v (.dict kvs)) (hF:F.In s.heap) (hS:∀ b,v=.ref b->Src b) (k:ItQ C Src F s tgt (kvs.map fun p=>ofKey p.1) Q):wpAny (model C.prog C.w) A (pyIter v) Q E s:=by
 cases vd with | mk ho hy dy ry=>
 obtain ⟨ep,da⟩:=(Heap.dictOf_iff.mpr ⟨_,ho,dy⟩).dictAt
 obtain ⟨n,p,rfl⟩:=nameTgt ht
 exact wpAny_pyIter_dict hy da (k _ _ _ _ _ _ _ (Ext.same hF (Keep.push _ _)) (wcC (fun A' hA=>Walks.dictKeys (knd:=anyKind C.prog C.w) hA s.heap.objs.size _ (Nat.ne_of_lt da.lt_size) _ ep) (ry.length.trans (List.length_map ..).symm) (fun A i v s Q E st hQ=>wpAny_pure hQ)
  ⟨⟨_,Heap.get?_push_size _ rfl,rfl,rfl⟩,da.push _⟩ (fun i h' st=>let ⟨⟨_,e1,c1,_⟩,e2⟩:=st;let ⟨o,e3,n⟩:=whf e2;wgN e1 (wab c1) e3 n) (get?_size _)
  (fun i v ⟨k,x,hx,hk⟩=>let ⟨d,e1,_⟩:=ry.idx hx;⟨ofKey k,wg3 e1,woU hk⟩) (wfI (get?_size _) (hS _ rfl))))
theorem won {a b:Int} {t u v:Tok} {r:Addr} (ht:tgtOk .plain tgt=true) (hr:IsRange s.heap r a b 1 t u v) (hF:F.In s.heap) (ha:-100000<a) (ha':a<200000) (hb:b<200000) (hb':-100000<b) (k:ItQ C Src F s tgt (wct a b) Q):wpAny (model C.prog C.w) A (pyIter (.ref r)) Q E s:=by
 obtain ⟨n,p,rfl⟩:=nameTgt ht
 have hl:(b - a).toNat=(wct a b).length:=by unfold wct;rw [List.length_map,List.length_range]
 refine wpAny_pyIter_range hr (small_one (by omega) (by omega) (by omega) (by omega)) (k _ _ _ _ _ _ _ (Ext.same hF (Keep.push _ _)) (wcC (fp:=[s.heap.objs.size])
  (fun A' hA=>(Walks.range hA s.heap.objs.size a 1 (b - a).toNat).bound) hl (fun A i v s Q E st hQ=>wpAny_pure hQ) ?_ (fun i h' st=>wnz st (wab rfl)) (get?_size _) (fun i v ⟨hi,t,e⟩=>⟨.int (a+(i:Int)),wg3 (List.getElem?_range hi),by rw [e,Int.mul_one];exact .mk _⟩) (wk3 (get?_size _))))
 have e1:Builtin.Range.rangeSize a b 1=(((b - a).toNat:Int) - ((0:Nat):Int)):=by rw [rangeSize_one];split<;>omega
 have e2:a+((0:Nat):Int) * 1=a:=by omega
 show IsRangeIter _ _ _ _ _
 rw [e1,e2]
 exact Heap.get?_push_size _ rfl
theorem wqj {vw a:Addr} {es:List (Key×Value)} {ep:Nat} {kvs:List (Key×D)} (ht:tgtOk .plain tgt=true) (hv:s.heap.IsValuesView vw a) (da:s.heap.DictAt (anyKind C.prog C.w) a es ep) (ry:RepKV C F kvs es) (hF:F.In s.heap)
  (hS:Src a) (k:ItQ C Src F s tgt (kvs.map fun p=>p.2) Q):wpAny (model C.prog C.w) A (pyIter (.ref vw)) Q E s:=by
 obtain ⟨n,p,rfl⟩:=nameTgt ht
 exact wpAny_pyIter_values hv da (k _ _ _ _ _ _ _ (Ext.same hF (Keep.push _ _)) (wcC (fun A' hA=>Walks.dictValues (knd:=anyKind C.prog C.w) hA s.heap.objs.size a (Nat.ne_of_lt da.lt_size) es ep) (ry.length.trans (List.length_map ..).symm) (fun A i v s Q E st hQ=>wpAny_pure hQ)
  ⟨⟨_,Heap.get?_push_size _ rfl,rfl,rfl⟩,da.push _⟩ (fun i h' st=>let ⟨⟨_,e1,c1,_⟩,e2⟩:=st;let ⟨o,e3,n⟩:=whf e2;wgN e1 (wab c1) e3 n) (get?_size _)
  (fun i v ⟨k,hx⟩=>let ⟨d,e1,r⟩:=ry.idx hx;⟨d,wg3 e1,r⟩) (wfI (get?_size _) hS)))
theorem woo {vw a:Addr} {es:List (Key×Value)} {ep:Nat} {kvs:List (Key×D)} (ht:tgtOk .pairs tgt=true) (hv:s.heap.IsItemsView vw a) (da:s.heap.DictAt (anyKind C.prog C.w) a es ep) (ry:RepKV C F kvs es) (hF:F.In s.heap)
  (hS:Src a) (k:ItQ C Src F s tgt (kvs.map fun p=>.tuple [ofKey p.1,p.2]) Q):wpAny (model C.prog C.w) A (pyIter (.ref vw)) Q E s:=by
 obtain ⟨elts,kk,pos,rfl⟩:=tupTgt ht
 have hl:es.length=(kvs.map fun p=>D.tuple [ofKey p.1,p.2]).length:=ry.length.trans (List.length_map ..).symm
 refine wpAny_pyIter_items hv da (k _ _ _ _ _ _ _ (Ext.same hF (Keep.push _ _)) ⟨fun A' hA=>hl ▸ kti_itemsTurns (prog:=C.prog) (w:=C.w) (knd:=anyKind C.prog C.w) (elts:=elts) (kk:=kk) (pos:=pos) hA s.heap.objs.size a (Nat.ne_of_lt da.lt_size) es ep,
  ⟨⟨.none,.none,by rw [<- hl];exact Heap.get?_push_size _ rfl⟩,da.push _⟩,fun A' s Q E hA st hQ=>let ⟨⟨_,_,hz⟩,_⟩:=st;kcp_self hz hQ,fun i h' st=>let ⟨⟨_,_,e1⟩,e2⟩:=st;let ⟨o,e3,n⟩:=whf e2;wgN e1 (wab rfl) e3 n,
  fun b hb=>List.mem_singleton.mp hb ▸ get?_size _,fun i v h'' hp=>?_,wfI (get?_size _) hS⟩)
 obtain ⟨t,key,k,x,rfl,hx,hk,ht'⟩:=hp
 obtain ⟨d,e1,r⟩:=ry.idx hx
 exact ⟨.tuple [ofKey k,d],wg3 e1,.inr ⟨rfl,t,_,_,rfl,rfl,ht',.mk (woU hk) (.mk r rfl)⟩⟩
theorem wq7 {vs:List Value} {xs ys:List D} (ht:tgtOk .pairs tgt=true) (vv:Views C F s.heap.get? [.list xs,.list ys] vs) (hF:F.In s.heap) (hS:∀ b,.ref b∈vs->Src b) (k:ItQ C Src F s tgt ((xs.zip ys).map fun p=>.tuple [p.1,p.2]) Q) :
  wpAny (model C.prog C.w) A (call (.type "zip") vs) (fun v s'=>wpAny (model C.prog C.w) A (pyIter v) Q E s') E s:=by
 obtain ⟨elts,kk,pos,rfl⟩:=tupTgt ht
 cases vv with | mk v1 v2=>cases v2 with | mk v2 v3=>
 cases v3
 cases v1 with | @mk l1 as m1 hl1 r1=>cases v2 with | @mk l2 bs m2 hl2 r2=>
 have n1:=r1.size;have n2:=r2.size
 have b1:@LT.lt Nat _ l1 s.heap.objs.size:=Heap.lt_size hl1
 have b2:@LT.lt Nat _ l2 s.heap.objs.size:=Heap.lt_size hl2
 refine call_zip_2 (waD hl1).isList (waD hl2).isList fun h' hz hTI hTO hi1 hi2 hsz hk=>wpAny_pyIter_zip hz ?_
 have fr:∀ j,s.heap.get? (s.heap.objs.size+j)=none:=fun j=>Heap.get?_none_of_le (Nat.le_add_right _ _)
 have Z:ZipApart (s.heap.objs.size+4) (s.heap.objs.size+2) (s.heap.objs.size+3) s.heap.objs.size (s.heap.objs.size+1) l1 l2:=by
  constructor<;>(show ¬ ((_:Nat)=_))<;>omega
 have hl:min as.size bs.size=((xs.zip ys).map fun p=>D.tuple [p.1,p.2]).length:=by rw [List.length_map,List.length_zip,n1,n2]
 refine k _ _ _ _ _ _ _ (Ext.same hF hk) ⟨fun A' hA=>hl ▸ KTurns.ofWalksU (elts:=elts) (k:=kk) (pos:=pos) (WalksT.zip2 (prog:=C.prog) (w:=C.w) hA _ _ _ _ _ _ _ Z as bs).toU,
  ⟨hz,hTI,⟨_,_,hTO⟩,hi1,hi2,(waD hl1).isList.at fun o e=>hk _ o e,(waD hl2).isList.at fun o e=>hk _ o e⟩,fun A s Q E _ st hQ=>wpAny_pyIter_zip st.1 hQ,fun i h' st b hb=>?_,fun b hb=>?_,fun i v h'' hp=>?_,fun b hb=>?_⟩
 ·obtain ⟨hz,hTI,⟨_,_,hTO⟩,⟨_,e3,c3,_⟩,⟨_,e4,c4,_⟩,⟨_,e5,c5,_⟩,⟨_,e6,c6,_⟩⟩:=st
  simp only [List.mem_cons,List.not_mem_nil,or_false]at hb
  rcases hb with rfl | rfl | rfl | rfl | rfl | rfl | rfl
  ·exact ⟨_,hz,wab rfl⟩
  ·exact ⟨_,hTI,wab rfl⟩
  ·exact ⟨_,hTO,wab rfl⟩
  ·exact ⟨_,e3,wab c3⟩
  ·exact ⟨_,e4,wab c4⟩
  ·exact ⟨_,e5,wab c5⟩
  ·exact ⟨_,e6,wab c6⟩
 ·simp only [List.mem_cons,List.not_mem_nil,or_false]at hb
  rcases hb with rfl | rfl | rfl | rfl
  ·exact fr 4
  ·exact fr 3
  ·exact fr 0
  ·exact fr 1
 ·obtain ⟨t,vals,rfl,⟨x,y,ex,ey,rfl⟩,ht'⟩:=hp
  obtain ⟨dx,e1,q1⟩:=wdr r1 i x ex
  obtain ⟨dy,e2,q2⟩:=wdr r2 i y ey
  exact ⟨.tuple [dx,dy],wg3 (a:=(dx,dy)) (List.getElem?_zip_eq_some.mpr ⟨e1,e2⟩),.inr ⟨rfl,t,_,[dx,dy],rfl,rfl,ht',.mk q1 (.mk q2 rfl)⟩⟩
 ·simp only [List.mem_cons,List.not_mem_nil,or_false]at hb
  rcases hb with rfl | rfl | rfl | rfl | rfl | rfl | rfl
  ·exact .inl (fr 4)
  ·exact .inl (fr 2)
  ·exact .inl (fr 3)
  ·exact .inl (fr 0)
  ·exact .inl (fr 1)
  ·exact .inr (hS _ List.mem_cons_self)
  ·exact .inr (hS _ (List.mem_cons_of_mem _ List.mem_cons_self))
theorem wql {vs:List Value} {xs:List D} (ht:tgtOk .pairs tgt=true) (vv:Views C F s.heap.get? [.list xs] vs) (hF:F.In s.heap) (hS:∀ b,.ref b∈vs->Src b) (k:ItQ C Src F s tgt (enumD xs) Q) :
  wpAny (model C.prog C.w) A (call (.type "enumerate") vs) (fun v s'=>wpAny (model C.prog C.w) A (pyIter v) Q E s') E s:=by
 obtain ⟨elts,kk,pos,rfl⟩:=tupTgt ht
 cases vv with | mk v1 v2=>
 cases v2
 cases v1 with | @mk l as m1 hl r=>
 have n1:=r.size
 have b1:@LT.lt Nat _ l s.heap.objs.size:=Heap.lt_size hl
 refine call_enumerate_list (waD hl).isList fun h' he hi hsz hk=>wpAny_pyIter_enum he ?_
 have fr:∀ j,s.heap.get? (s.heap.objs.size+j)=none:=fun j=>Heap.get?_none_of_le (Nat.le_add_right _ _)
 have hlen:as.size=(enumD xs).length:=by unfold enumD;rw [List.length_zipWith,List.length_range,Nat.min_self,n1]
 have W:=fun (A':Around) (hA:A'.handled=none)=>WalksT.enumerate (prog:=C.prog) (w:=C.w) hA (s.heap.objs.size+1) s.heap.objs.size l (by show ¬ ((_:Nat)=_);omega) (by show ¬ ((_:Nat)=_);omega) (by show ¬ ((_:Nat)=_);omega) as
 refine k _ _ _ _ _ _ _ (Ext.same hF hk) ⟨fun A' hA=>hlen ▸ KTurns.ofWalksU (elts:=elts) (k:=kk) (pos:=pos) (W A' hA).toU,⟨⟨_,he⟩,hi,(waD hl).isList.at fun o e=>hk _ o e⟩,fun A' s Q E hA st hQ=>(W A' hA).self 0 s Q E st hQ,fun i h' st b hb=>?_,fun b hb=>?_,fun i v h'' hp=>?_,fun b hb=>?_⟩
 ·obtain ⟨⟨_,he⟩,⟨_,e2,c2,_⟩,⟨_,e3,c3,_⟩⟩:=st
  simp only [List.mem_cons,List.not_mem_nil,or_false]at hb
  rcases hb with rfl | rfl | rfl
  ·exact ⟨_,he,wab rfl⟩
  ·exact ⟨_,e2,wab c2⟩
  ·exact ⟨_,e3,wab c3⟩
 ·simp only [List.mem_cons,List.not_mem_nil,or_false]at hb
  rcases hb with rfl | rfl
  ·exact fr 1
  ·exact fr 0
 ·obtain ⟨t,vals,rfl,⟨u,x,ex,rfl⟩,ht'⟩:=hp
  obtain ⟨dx,e1,q1⟩:=wdr r i x ex
  refine ⟨.tuple [.int i,dx],?_,.inr ⟨rfl,t,_,[.int i,dx],rfl,rfl,ht',.mk (.mk _) (.mk q1 rfl)⟩⟩
  unfold enumD
  rw [List.getElem?_zipWith,List.getElem?_range (List.getElem?_eq_some_iff.mp e1).1,e1]
 ·simp only [List.mem_cons,List.not_mem_nil,or_false]at hb
  rcases hb with rfl | rfl | rfl
  ·exact .inl (fr 1)
  ·exact .inl (fr 0)
  ·exact .inr (hS _ List.mem_cons_self)
end
section
variable {C:Fr} {F F':FH} {A:Around} {E:Value->Shared->Prop} {s:Shared} {Q:Value->Shared->Prop} {d:D} {env:Env} {q:QV} {n:Nat} {K:KJ} {α:Type} {r:α}
theorem waM {e:Expr} {es:List Expr} (h:noStar (e::es)=true):¬ isStarE e=true:=by
 have h:(!isStarE e&&noStar es)=true:=h
 exact andE h fun h1 _ q=>by rw [q]at h1;exact ffE h1
theorem wiL {e:Expr} {es:List Expr} (h:noStar (e::es)=true):noStar es=true:=
 andE (show (!isStarE e&&noStar es)=true from h) fun _ h=>h
theorem wcu {pos:Pos} {es:List Expr} (h:noStar es=true):(backTo pos (starEach es env)).any (·.1)=false/\(backTo pos (starEach es env)).all (fun x=>!x.1)=true:=by
 induction es with
 | nil=>exact ⟨rfl,rfl⟩
 | cons e es ih=>
  rw [wal (waM h)]
  exact ih (wiL h)
theorem wii {f:Value} {pos:Pos} {es:List Expr} {Q:Args->Shared->Prop} (hn:noStar es=true) (h:wpAny (model C.prog C.w) A (spliced (backTo pos (starEach es env))) (fun vs s'=>Q ⟨vs,[]⟩ s') E s) :
  wpAny (model C.prog C.w) A (evalArgs f true (backTo pos (starEach es env)) []) Q E s:=by
 cases es with
 | nil=>
  unfold evalArgs
  show wpAny (model C.prog C.w) A (spliced [] >>= _) Q E s
  refine wpAny_bind (wpAny_mono h (fun vs s' h'=>?_) fun _ _ x=>x)
  exact wpAny_bind (wpAny_pure (wpAny_holding (wpAny_bind (wpAny_pure (wpAny_bind (wpAny_pure (wpAny_pure h')))))))
 | cons e es=>
  rw [wal (waM hn)]at h ⊢
  exact evalArgs_plain h
structure BiOk (f:Str) (v:Value):Prop where
 ne:f≠("__name__":Str)
 nb:f∈biNames
 bt:bootBuiltins f=some v
 kd:(∃ id,v=.builtin id)\/∃ T,v=.type T
theorem callBi {f:Str} {fp pos:Pos} {args:List Expr} {v:Value} (X:Ok C A n env q F s) (hg:isGlob env.scope f=true) (b:BiOk f v) (hs:noStar args=true)
  (h:wpAny (model C.prog C.w) A (spliced (backTo pos (starEach args env))) (fun vs s'=>wpAny (model C.prog C.w) A (call v vs) Q E s') E s):wpAny (model C.prog C.w) A (eval (.Call (.Name f fp) args [] pos) env) Q E s:=by
 show wpAny _ _ (eval (.Name f fp) env >>= fun fv=>callWith pos fv [] (backTo pos (starEach args env)) []) _ _ _
 refine wpAny_bind (wkV X hg b.ne (X.g.nob _ b.nb) b.bt ?_)
 rcases b.kd with ⟨id,rfl⟩ | ⟨T',rfl⟩
 ·exact callWith_builtin (wcu hs).1 (wii hs h)
 ·exact PyProof.Rows.callWith_type (wcu hs).1 (wii hs h)
theorem bnameE {P:Prop} {f:Str} {b:B} (h:bname f=some b) (g:∀ m,f=m->m∈biNames->bootBuiltins m=some (bval b)->m≠("__name__":Str)->P):P:=by
 have key:∀ (m:Str) (c:B),(m∈biNames/\bootBuiltins m=some (bval c)/\m≠("__name__":Str))->(f==m)=true->some c=some b->P:=fun m c ⟨h1,h2,h3⟩ h4 h5=>by
  cases h5;exact g m (eq_of_beq h4) h1 h2 h3
 unfold bname at h
 refine iteE h (key _ _ (by decide +kernel)) fun _ h=>iteE h (key _ _ (by decide +kernel)) fun _ h=>iteE h (key _ _ (by decide +kernel)) fun _ h=>iteE h (key _ _ (by decide +kernel)) fun _ h=>iteE h (key _ _ (by decide +kernel)) fun _ h=>
  iteE h (key _ _ (by decide +kernel)) fun _ h=>iteE h (key _ _ (by decide +kernel)) fun _ h=>iteE h (key _ _ (by decide +kernel)) fun _ h=>iteE h (key _ _ (by decide +kernel)) fun _ h=>noneE h
theorem wx5 {f:Str} {b:B} (h:bname f=some b):BiOk f (bval b):=bnameE h fun m e h1 h2 h3=>by subst e;exact ⟨h3,h1,h2,by cases b<;>first | exact .inl ⟨_,rfl⟩ | exact .inr ⟨_,rfl⟩⟩
theorem wtW:BiOk (Str.ofString "range") (.type "range"):=⟨by decide,by decide +kernel,by decide +kernel,.inr ⟨_,rfl⟩⟩
theorem wso:BiOk (Str.ofString "zip") (.type "zip"):=⟨by decide,by decide +kernel,by decide +kernel,.inr ⟨_,rfl⟩⟩
theorem wvy:BiOk (Str.ofString "enumerate") (.type "enumerate"):=⟨by decide,by decide +kernel,by decide +kernel,.inr ⟨_,rfl⟩⟩
theorem wvx:BiOk (Str.ofString "list") (.type "list"):=⟨by decide,by decide +kernel,by decide +kernel,.inr ⟨_,rfl⟩⟩
theorem wwU:BiOk (Str.ofString "isinstance") (.builtin "isinstance"):=⟨by decide,by decide +kernel,by decide +kernel,.inl ⟨_,rfl⟩⟩
theorem wgw:BiOk (Str.ofString "tuple") (.type "tuple"):=⟨by decide,by decide +kernel,by decide +kernel,.inr ⟨_,rfl⟩⟩
theorem wvz (S:SoundEv C n K.ev) {f:Str} {b:B} {fp pos:Pos} {args:List Expr} {k:D->Option α} (X:Ok C A n env q F s) (hg:isGlob env.scope f=true) (hs:noStar args=true) (hb:bname f=some b)
  (h:(pkLQ C.T K env.scope q args fun ds=>(bfn b ds).bind k)=some r) (kk:∀ d,k d=some r->Cont C F s d Q):wpAny (model C.prog C.w) A (eval (.Call (.Name f fp) args [] pos) env) Q E s:=
 callBi X hg (wx5 hb) hs (whE S args X h fun ds h vs s' F' x vv _=>bindE h fun d e h=>wwV X.R.handled (by have:=X.R.units;omega) e vv x.inn ((kk d h).ext x))
theorem wu5 (S:SoundEv C n K.ev) {args:List Expr} {fp pos:Pos} {k:D->Option α} (X:Ok C A n env q F s) (hg:isGlob env.scope (Str.ofString "isinstance")=true)
  (h:isiQ C.T K env.scope q args k=some r) (kk:∀ d,k d=some r->Cont C F s d Q):wpAny (model C.prog C.w) A (eval (.Call (.Name (Str.ofString "isinstance") fp) args [] pos) env) Q E s:=by
 refine twoE h fun e c qa h2=>?_
 clear h;subst qa
 obtain ⟨c,cp,rfl,h3⟩:=nameE h2
 clear h2
 refine ifE h3 fun hc h=>andE hc fun hc1 he=>andE hc1 fun hc2 hgc=>?_
 clear h3 hc hc1
 have hc:=eq_of_beq hc2
 clear hc2
 subst hc
 have hs:noStar [e,.Name (Str.ofString "tuple") cp]=true:=by show (!isStarE e&&true)=true;rw [he];rfl
 refine callBi X hg wwU hs ?_
 rw [wal (waM hs)]
 refine spliced_cons (wbp S X h fun d h v sa F1 xa vc _=>spliced_cons (wkV (X.ext xa) hgc wgw.ne (X.g.nob _ wgw.nb) wgw.bt (spliced_nil ?_)))
 refine bindE h fun b e h=>?_
 have k':=(kk _ h).ext xa
 cases d<;>first | exact noneE e | skip
 ·cases e;cases vc;exact IsiPair.int_tuple (k'.here xa.inn rfl rfl)
 ·cases e;cases vc with | mk e1 _=>exact IsiPair.tuple_tuple e1 rfl (k'.here xa.inn rfl rfl)
theorem wmw (S:SoundEv C n K.ev) {fp pos:Pos} {args:List Expr} {k:List D->Option α} (X:Ok C A n env q F s) (hg:isGlob env.scope (Str.ofString "range")=true) (hs:noStar args=true)
  (h:(pkLQ C.T K env.scope q args fun ds=>(rangeD ds).bind k)=some r)
  (kk:∀ a b,k (wct a b)=some r->-100000<a->a<200000->b<200000->-100000<b->b - a<20000->∀ z s' F' t u v,Ext F s F' s'->IsRange s'.heap z a b 1 t u v->Q (.ref z) s'):wpAny (model C.prog C.w) A (eval (.Call (.Name (Str.ofString "range") fp) args [] pos) env) Q E s:=by
 refine callBi X hg wtW hs (whE S args X h fun ds h vs sa F1 xa vv _=>bindE h fun l e h=>?_)
 rcases ds with _ | ⟨a,_ | ⟨b,_ | _⟩⟩
 ·exact noneE e
 ·cases vv with | mk v1 v2=>
  cases v2
  apply intV e v1;intro b t e
  refine ifE e fun hb e2=>?_
  cases e2
  exact call_range_1 (kk _ _ h (by omega) (by omega) (by omega) (by omega) (by omega) _ _ F1 _ _ _ (xa.trans (Ext.same xa.inn (Keep.push _ _))) (IsRange.new _ _ _ _ _ _ _))
 ·cases vv with | mk v1 v2=>cases v2 with | mk v2 v3=>
  cases v3
  refine wd2 (M:=fun a b=>wpAny (model C.prog C.w) A (call (.type "range") [a,b]) Q E sa) e v1 v2 fun x t y u e=>ifE e fun hb e2=>?_
  cases e2
  exact call_range_2 (kk _ _ h (by omega) (by omega) (by omega) (by omega) (by omega) _ _ F1 _ _ _ (xa.trans (Ext.same xa.inn (Keep.push _ _))) (IsRange.new _ _ _ _ _ _ _))
 ·exact noneE e
theorem wrl {a:Int} {m:Nat}:∀ {l:List Value} {o:Nat},l.length=m->(∀ (j:Nat) v,l[j]?=some v->∃ t,v=.int (a+((o+j:Nat):Int)) t)->RepAll C F ((List.range' o m).map fun (i:Nat)=>D.int (a+(i:Int))) l:=by
 induction m with
 | zero=>intro l o hl _;exact List.eq_nil_of_length_eq_zero hl
 | succ m ih=>
  intro l o hl hv
  cases l with
  | nil=>exact succE hl
  | cons v l=>
   obtain ⟨t,rfl⟩:=hv 0 v rfl
   exact .mk (.mk t) (ih (Nat.succ.inj hl) fun j v e=>by
    obtain ⟨t,e'⟩:=hv (j+1) v e
    exact ⟨t,by rw [e',Nat.succ_add,Nat.add_succ]⟩)
theorem wnG (S:SoundEv C n K.ev) {args:List Expr} {fp pos:Pos} {k:D->Option α} (X:Ok C A n env q F s) (hg:isGlob env.scope (Str.ofString "list")=true)
  (h:lrQ C.T K env.scope q args k=some r) (kk:∀ d,k d=some r->Cont C F s d Q):wpAny (model C.prog C.w) A (eval (.Call (.Name (Str.ofString "list") fp) args [] pos) env) Q E s:=by
 refine oneE h fun e qa h2=>?_
 clear h;subst qa
 obtain ⟨g,as,ks,p,rfl,h3⟩:=callE h2
 clear h2
 refine ifE h3 fun hk h4=>?_
 clear h3
 have hk:=wax hk
 subst hk
 obtain ⟨f,fp',rfl,h5⟩:=nameE h4
 clear h4
 refine ifE h5 fun hc h=>andE hc fun hc1 hs=>andE hc1 fun hc2 hgr=>?_
 clear h5 hc hc1
 have hc:=eq_of_beq hc2
 clear hc2
 subst hc
 have hs':noStar [Expr.Call (.Name (Str.ofString "range") fp') as [] p]=true:=rfl
 refine callBi X hg wvx hs' ?_
 rw [wal (waM hs')]
 refine spliced_cons (wmw S X hgr hs h fun a b h ha ha' hb hb' hab z sa F1 t u v xa hr=>spliced_nil ?_)
 refine call_list_range (n:=(b - a).toNat) X.R.handled hr (small_one (by omega) (by omega) (by omega) (by omega)) (by rw [rangeSize_one];split<;>omega) (by omega) fun h' tk acc' c' hk hS' hacc=>?_
 have y:=Ext.put (s':={ sa with heap:=h',toks:=tk }) (a:=sa.heap.objs.size) xa.inn hk (get?_size _) hS'
 have rr:RepAll C (F1.put sa.heap.objs.size { cls:=.type "list",data:=.seq acc' c' }) (wct a b) acc'.toList:=by
  unfold wct
  rw [List.range_eq_range']
  exact wrl hacc.1 fun j v e=>by
   obtain ⟨t,e'⟩:=hacc.2 j v (by rw [<- Array.getElem?_toList];exact e)
   exact ⟨t,by rw [e',Nat.zero_add,Int.mul_one]⟩
 exact kk _ h _ _ _ (xa.trans y) (.mk (FH.put_self _ _ _) rr)
end
structure HeapOk (C:Fr) (F:FH) (h:Heap):Prop where
 inn:F.In h
 tab:TabIn C h
 ftab:F (tabAt C)=none
theorem HeapOk.ext {C:Fr} {F F':FH} {s s':Shared} (r:HeapOk C F s.heap) (x:Ext F s F' s'):HeapOk C F' s'.heap:=⟨x.inn,x.tab r.tab,x.ftab r.ftab r.tab⟩
theorem RelR.hok {C:Fr} {F:FH} {env:Env} {h:Heap} {q:QV} (r:RelR C env F h q):HeapOk C F h:=⟨r.inn,r.tab,r.ftab⟩
structure ClsOk (C:Fr) (c:Addr):Prop where
 hga:findIn C.K (.ref c) "__getattribute__"=some (some (.builtin "object.__getattribute__"))
 hk:findIn C.K (.ref c) "__getattr__"=some none
 hs:findIn C.K (.ref c) "__setattr__"=some (some (.builtin "object.__setattr__"))
 cd:∃ cd,clsIn C.K c=some cd/\cd.hasDict=true
 over:plainOver C.K c=true
 ats:∀ a∈C.T.ats,findIn C.K (.ref c) a=some none
noncomputable def FnSem (C:Fr) (n:Nat) (v:Value) (ds:List D) (d:D):Prop:=
 ∀ {A:Around} {F:FH} {s:Shared} {vs:List Value} {Q:Value->Shared->Prop} {E:Value->Shared->Prop},
  Room A n->Gd C F->HeapOk C F s.heap->RepAll C F ds vs->Cont C F s d Q->wpAny (model C.prog C.w) A (call v vs) Q E s
noncomputable def SoundFn (C:Fr) (n:Nat) (fn:Str->List D->Option D):Prop:=∀ {f ds d v},fn f ds=some d->C.mg f=some v->FnSem C n v ds d
noncomputable def SoundMeth (C:Fr) (n:Nat) (meth:Str->Str->List D->Option D):Prop:=∀ {c m ds d f},meth c m ds=some d->findIn C.K (.ref (C.cad c)) m=some (some (.ref f))->FnSem C n (.ref f) ds d
structure Known (C:Fr):Prop where
 fn:∀ {f},hasF C.T f=true->∃ v,C.mg f=some v/\keepIn C.K v=true
 me:∀ {c m},hasM C.T c m=true->ClsOk C (C.cad c)/\∃ f,findIn C.K (.ref (C.cad c)) m=some (some (.ref f))/\typeIn C.K (.ref f)=some (.type "function")/\keepIn C.K (.ref f)=true
structure StOk (C:Fr) (mcs:Addr->Value):Prop where
 con:∀ c l,C.T.con.lookup c=some l->C.mg c=some (.ref (C.cad c))/\readsIn C.K (C.cad c) (mcs (C.cad c))=true/\∀ a d,l.lookup a=some d->∃ v,findCls C.K (.ref (C.cad c)) (mcs (C.cad c)) a=some (.val v)/\handedIn v=true/\∀ F,Rep C F v d
 cls:∀ c,(C.T.cls.lookup c).isSome=true->ClsOk C (C.cad c)
section
variable {C:Fr} {F F':FH} {A:Around} {E:Value->Shared->Prop} {s:Shared} {Q:Value->Shared->Prop} {d:D} {env:Env} {q:QV} {n:Nat} {K:KJ} {α:Type} {r:α} {CF:Str->List D->Option D} {CM:Str->Str->List D->Option D}
theorem wsh (S:SoundEv C n K.ev) (Sf:SoundFn C n CF) (kn:Known C) {f:Str} {fp pos:Pos} {args:List Expr} {k:D->Option α} (X:Ok C A n env q F s) (hg:isGlob env.scope f=true) (hs:noStar args=true)
  (h:(if hasF C.T f then evLQ K env.scope q args fun ds=>(CF f ds).bind k else none)=some r) (kk:∀ d,k d=some r->Cont C F s d Q) :
  wpAny (model C.prog C.w) A (eval (.Call (.Name f fp) args [] pos) env) Q E s:=by
 refine ifE h fun hf h=>?_
 obtain ⟨v,e1,e2⟩:=kn.fn hf
 show wpAny _ _ (eval (.Name f fp) env >>= fun fv=>callWith pos fv [] (backTo pos (starEach args env)) []) _ _ _
 exact wpAny_bind (wfc X hg e1 (callWith_of (P:=fun h=>C.K.In h) (by rw [(wcu hs).1];rfl) (keeps_K e2) (wii hs (wgS S args X h fun ds h vs s' F' x rv _=>
  ⟨X.g.kIn (fun b o e=>x.inn _ _ (x.le _ _ e)),bindE h fun d e h=>Sf e e1 X.R (X.g.mono x.le) (X.r.ext x).hok rv ((kk d h).ext x)⟩))))
theorem wgY {es:Array DictEntry} (hk:StrKeys es):es.any (·.refKey)=false:=by
 rw [Array.any_eq_false'];intro e he;obtain ⟨n,t,h⟩:=hk e he;simp [DictEntry.refKey,h]
theorem wgA {o:Obj} {m:Str->Option Value} {x:Str} (h:NsO o m):lookIn x o=some (m x):=by
 obtain ⟨es,ep,hd,hk,hf⟩:=h
 rw [<- hf x]
 unfold lookIn nsFind findBy
 rw [hd]
 dsimp only
 rw [<- Array.find?_toList]
 cases q:es.toList.find? (·.key.isStr x) with
 | some e=>rfl
 | none=>
  dsimp only
  rw [Array.any_toList,wgY hk,if_neg Bool.false_ne_true];rfl
theorem InstAt.own {h:Heap} {a dd:Addr} {C:Addr} {od:Obj} (e:h.get? a=some (instObj C dd)) (e':h.get? dd=some od):InstAt h a (instObj C dd) C (some od):=
 ⟨e,rfl,rfl,e'⟩
theorem woC {c:Addr} {od:Obj} {name:Str} {v:Value} {es:List (Str×Value)} (ok:ClsOk C c) (ha:name∈C.T.ats) (hn:NsD od es) (hv:es.lookup name=some v):findObj C.K c (some od) name=some (.value v):=by
 obtain ⟨cd,h1,h2⟩:=ok.cd
 unfold findObj
 rw [h1]
 show ((findIn C.K (.ref c) name).bind _)=_
 rw [ok.ats name ha]
 show (PySem.W.ownOf cd (some od) name).bind _=_
 unfold PySem.W.ownOf
 rw [h2,if_pos rfl]
 dsimp only
 rw [wgA hn.ns,hv]
 rfl
theorem RepFs.get {fs:List (Str×D)}:∀ {es:List (Str×Value)} {a:Str} {d:D},RepFs C F fs es->fs.lookup a=some d->∃ v,es.lookup a=some v/\Rep C F v d:=by
 induction fs with
 | nil=>intro es a d r h;exact noneE h
 | cons p fs ih=>
  intro es a d r h
  obtain ⟨k,d'⟩:=p
  cases r with | @mk p vs x y=>
  obtain ⟨pk,pv⟩:=p
  obtain ⟨e0,x⟩:=x
  have e0:pk=k:=e0
  subst e0
  rw [List.lookup_cons]at h ⊢
  cases q:a==pk with
  | true=>rw [q]at h;cases h;exact ⟨_,rfl,x⟩
  | false=>rw [q]at h;exact ih y h
theorem RepFs.keys {fs:List (Str×D)}:∀ {es:List (Str×Value)},RepFs C F fs es->es.map (·.1)=fs.map (·.1):=by
 induction fs with
 | nil=>intro es r;cases r;rfl
 | cons x l ih=>intro es r;cases r with | mk a b=>rw [List.map_cons,List.map_cons,a.1,ih b]
theorem wiO {β:Type} {a:Str} {l:List (Str×β)}:l.lookup a=none ↔ a ∉ l.map (·.1):=by
 induction l with
 | nil=>exact ⟨fun _=>List.not_mem_nil,fun _=>rfl⟩
 | cons p l ih=>
  rw [List.lookup_cons,List.map_cons,List.mem_cons,not_or,<- ih]
  cases q:a==p.1 with
  | true=>exact ⟨fun h=>noneE h.symm,fun h=>absurd (eq_of_beq q) h.1⟩
  | false=>exact ⟨fun h=>⟨fun e=>(by rw [e,beq_self_eq_true]at q;exact ffE q.symm),h⟩,fun h=>h.2⟩
theorem RepFs.gone {es:List (Str×Value)} {fs:List (Str×D)} (r:RepFs C F fs es) {a:Str} (h:fs.lookup a=none):es.lookup a=none:=wiO.mpr (r.keys ▸ wiO.mp h)
theorem RepFs.length {es:List (Str×Value)} {fs:List (Str×D)} (r:RepFs C F fs es):es.length=fs.length:=by
 have:=congrArg List.length r.keys;rwa [List.length_map,List.length_map]at this
theorem wqF {G:FH} {v:Value} (r:Vw C F d G v):handedIn v=true:=by cases d<;>cases r<;>rfl
theorem wqI {v:Value} {c a:Str} {fs:List (Str×D)} {expr:Bool} (ok:ClsOk C (C.cad c)) (g:Gd C F) (hF:F.In s.heap) (vv:View C s.heap F v (.obj c fs)) (ha:a∈C.T.ats) (h:fs.lookup a=some d)
  (k:Cont C F s d Q):wpAny (model C.prog C.w) A (getAttr v a expr) Q E s:=by
 cases vv with | mk e1 e2 hn rf=>
 obtain ⟨v,hv,rv⟩:=rf.get h
 exact get_value (g.kIn hF) (InstAt.own e1 e2) ok.hga (woC ok ha hn hv) (wqF rv) (k.here hF rfl rv)
theorem wrw {M:Model} {a:Addr} {o:Obj} {es:List (Str×Value)} {name:Str} {v:Value} {Q:Unit->Shared->Prop} (ho:s.heap.get? a=some o) (hn:NsD o es) (hnone:es.lookup name=none)
  (h:∀ h' o',h'.get? a=some o'->NsD o' (es++[(name,v)])->Heap.SameBut a s.heap h'->Q () { s with heap:=h',toks:=s.toks+1 }):wpAny M A (nsSet a name v) Q E s:=by
 obtain ⟨⟨des,ep,hd,hk,hf⟩,hsz⟩:=hn
 have hsz:=hsz _ _ hd
 unfold nsSet
 refine wpAny_bind (wpAny_bind (wpAny_askSetting (wpAny_pure (wpAny_bind (wpAny_mkText (wpAny_bind (wpAny_loadPart ho ?_)))))))
 rw [hd]
 dsimp only
 have hany:=wgY hk
 rw [aRefKeyMayBeTheName_at,hany,Bool.and_false]
 refine wpAny_updatePart ho ?_
 have hi:des.findIdx? (·.key.isStr name)=none:=by
  have:=hf name
  dsimp only at this
  rw [hnone]at this
  unfold nsFind at this
  rw [findBy_of_findIdx?]at this
  cases q:des.findIdx? (·.key.isStr name) with
  | none=>rfl
  | some i=>
   rw [q]at this
   have hlt:i<des.size:=by
    obtain ⟨h1,_⟩:=Array.findIdx?_eq_some_iff_getElem.mp q
    exact h1
   simp [hlt]at this
 obtain ⟨c,dd,dt,sl⟩:=o
 dsimp only at hd
 subst hd
 refine h _ _ (Heap.get?_update_self _ ho (by simp only [Obj.putName_eq,Obj.putNameByArray,hi];rfl)) ?_ (Heap.SameBut.update ..)
 simp only [Obj.putName_eq,Obj.putNameByArray,hi]
 refine ⟨⟨_,_,rfl,hk.push _ _ _ _,fun x=>?_⟩,fun des' ep' q=>?_⟩
 ·have hpush:=findBy_push (fun n v=>v.isStr n) des name x (PyData.keyHash M.w.params name) (.str name s.toks) v (fun y=>by
   show (name==y)=decide (y=name)
   by_cases h:y=name
   ·subst h;simp
   ·have:¬ name=y:=fun e=>h e.symm
    simp [h,this]) hi
  refine hpush.trans ?_
  show (if x=name then some v else nsFind des x)=_
  rw [hf x]
  have app:∀ l:List (Str×Value),(l++[(name,v)]).lookup x=(l.lookup x).or ([(name,v)].lookup x):=by
   intro l
   induction l with
   | nil=>rfl
   | cons p l ih=>
    rw [List.cons_append,List.lookup_cons,List.lookup_cons]
    cases x==p.1<;>simp [ih]
  dsimp only
  rw [app]
  by_cases q:x=name
  ·subst q;rw [hnone];simp
  ·have q':(x==name)=false:=by simpa using q
   rw [if_neg q]
   simp [q',List.lookup_cons]
 ·cases q
  simp;omega
theorem wqt {x dd:Addr} {od:Obj} {c:Addr} {name:Str} {v:Value} {es:List (Str×Value)} {Q:Unit->Shared->Prop} (ok:ClsOk C c) (X:C.K.In s.heap) (ha:name∈C.T.ats) (e1:s.heap.get? x=some (instObj c dd)) (e2:s.heap.get? dd=some od)
  (hn:NsD od es) (hnone:es.lookup name=none) (hz:es.length<=1000)
  (h:∀ h' o' tk,h'.get? dd=some o'->NsD o' (es++[(name,v)])->Heap.SameBut dd s.heap h'->Q () { s with heap:=h',toks:=tk }):wpAny (model C.prog C.w) A (setAttr (.ref x) name v) Q E s:=by
 have I:=InstAt.own e1 e2
 refine set_plain X I ok.hs ?_
 have ht:takerIn C.K c name=some none:=by unfold takerIn;rw [ok.ats name ha];rfl
 refine osa_open (s:={ s with toks:=s.toks+1 }) X I ok.over ht fun b=>?_
 obtain ⟨cd,hc,hd'⟩:=ok.cd
 refine wpAny_bind (wpAny_pure (wpAny_bind (wpAny_bind (wpAny_loadPart e1 (wpAny_bind (Looks.here (s:={ s with toks:=s.toks+1 }) (looks_clsIn X hc) ?_))))))
 rw [hd']
 refine wpAny_pure (a:=some dd) (wpAny_bind (wpAny_pure (wpAny_bind ?_)))
 refine wrw (s:={ s with toks:=s.toks+1 }) e2 hn hnone fun h' o' q1 q2 q3=>?_
 obtain ⟨⟨des,ep,q4,q5⟩,q6⟩:=id q2
 have q7:=q6 _ _ q4
 refine wpAny_bind (wpAny_lookBehind q1 (by rw [q4];exact pastItsLine_dict (by simp [sizeLine]at q7 ⊢;omega)) ?_)
 exact wpAny_pure (h h' o' _ q1 q2 q3)
theorem wbV {o:Expr} {ap p:Pos} {m:Str} (h:callOk o ap p=true):attributeBase o m env (eval o env)=eval o env/\(ap.endLine==p.line)=true:=by
 refine andE h fun h1 h2=>⟨?_,h1⟩
 clear h h1
 have go:(o.ctorIdx != 16)=true->attributeBase o m env (eval o env)=eval o env:=fun q=>by
  cases o<;>first | rfl | exact ffE q
 rcases Bool.or_eq_true_iff.mp h2 with q | q
 ·exact go q
 ·clear h2 go
  obtain ⟨u,hu⟩:=Option.isSome_iff_exists.mp q
  obtain ⟨f,as,ks,cp,rfl,h3⟩:=callE hu
  clear hu q
  refine ifE h3 fun hk h4=>?_
  have hk:=wax hk
  subst hk
  obtain ⟨id,ip,rfl,h5⟩:=nameE h4
  clear h3 h4
  refine nifE h5 fun hid _=>?_
  cases as with
  | cons a as=>rfl
  | nil=>
   unfold attributeBase
   dsimp only
   rw [if_pos]
   simp only [bne_iff_ne,Bool.or_eq_true,ne_eq,beq_iff_eq]at hid ⊢
   exact .inl (.inl (.inl hid))
theorem wr4 (S:SoundEv C n K.ev) {mcs:Addr->Value} (co:StOk C mcs) {o:Expr} {a:Str} {pos:Pos} {k:D->Option α} (X:Ok C A n env q F s)
  (h:evAttrQ C.T env.scope q o a k=some r) (kk:∀ d,k d=some r->Cont C F s d Q):wpAny (model C.prog C.w) A (eval (.Attribute o a pos) env) Q E s:=by
 obtain ⟨c,cp,rfl,h2⟩:=nameE h
 clear h
 refine iteE h2 (fun hg h=>optE h fun l h1 h=>optE h fun d hd h=>?_) fun _ h=>ifE h fun ha h=>Attribute_name (wbp S X (e:=.Name c cp) h fun d h v s' F' x vv _=>bindE h fun d e h=>objE e fun c fs q e=>ifE e fun hc e=>
  wqI (co.cls _ hc) (X.g.mono x.le) x.inn (q ▸ vv) (List.contains_iff_mem.mp ha) e ((kk d h).ext x))
 obtain ⟨e1,e2,e3⟩:=co.con c l h1
 obtain ⟨v,e4,e5,e6⟩:=e3 a d hd
 exact Attribute_name (wfc X hg e1 (cls_value (X.g.kIn X.r.inn) e2 e4 e5 ((kk d h).here X.r.inn rfl (e6 F))))
theorem fewArgs {pos:Pos} {args:List Expr} (hs:noStar args=true) (hl:args.length<20):((backTo pos (starEach args env)).all (fun x=>!x.1)&&(backToKw pos (keywordEach [] env)).all (fun x=>x.1.isSome)
  &&decide (args.length+([]:List Keyword).length+(if ([]:List Keyword).isEmpty then 0 else 1)<30))=true:=by
 rw [(wcu hs).2]
 show (true&&true&&decide (args.length+0+0<30))=true
 rw [decide_eq_true (by omega)];rfl
theorem ownCall {o:Expr} {m:Str} {ap pos:Pos} {args:List Expr} (hbase:attributeBase o m env (eval o env)=eval o env) (hs:noStar args=true) (hl:args.length<20) (hline:(ap.endLine==pos.line)=true)
  (h:wpAny (model C.prog C.w) A (eval o env) (fun ov sa=>∀ pl:Sem Bool,wpAny (model C.prog C.w) A (getMethod ov m pl) (fun fx s₂=>wpAny (model C.prog C.w) A (callWith pos fx.1 fx.2 (backTo pos (starEach args env)) []) Q E s₂) E sa) E s) :
  wpAny (model C.prog C.w) A (eval (.Call (.Attribute o m ap) args [] pos) env) Q E s:=by
 rw [arm_eval_Call,hbase]
 refine wpAny_bind (wpAny_mono h (fun ov sa hX=>wpAny_bind (wpAny_standAt ?_)) fun _ _ e=>e)
 have hform:methodCallForm (args.length+([]:List Keyword).length) (backTo pos (starEach args env)) (backToKw pos (keywordEach [] env))=true:=fewArgs hs hl
 unfold methodCall
 rw [hform]
 exact wpAny_bind (wpAny_holding (wpAny_mono (hX _) (fun fx s₂ hJ=>wpAny_bind (wpAny_of_eq (show methodCallPos true o env ap pos=pure pos by unfold methodCallPos;simp [hline]) hJ)) fun _ _ e=>e))
theorem woF (S:SoundEv C n K.ev) (Sm:SoundMeth C n CM) (kn:Known C) {o:Expr} {m:Str} {ap pos:Pos} {args:List Expr} {k:D->Option α} (X:Ok C A n env q F s)
  (ok:callOk o ap pos=true) (hl:args.length<20) (hs:noStar args=true)
  (h:(K.ev env.scope q o fun d=>objK d fun c fs=>if mOk C.T c fs m then evLQ K env.scope q args fun ds=>(CM c m (.obj c fs::ds)).bind k else none)=some r) (kk:∀ d,k d=some r->Cont C F s d Q) :
  wpAny (model C.prog C.w) A (eval (.Call (.Attribute o m ap) args [] pos) env) Q E s:=by
 obtain ⟨hb,hline⟩:=wbV (env:=env) (m:=m) ok
 refine ownCall hb hs hl hline (S X h fun d h v sa F1 xa rv pl=>objE h fun c fs q h2=>ifE h2 fun hm h3=>andE hm fun hf hm=>?_)
 clear h
 subst q
 obtain ⟨cok,f,e1,e2,e3⟩:=kn.me hm
 have X1:=X.ext xa
 have rv':=rv
 cases rv with | mk e5 e6 hn rf=>
 refine method_fn (X1.g.kIn xa.inn) (InstAt.own (xa.inn _ _ e5) (xa.inn _ _ e6)) cok.hga cok.hk e1 e2 ?_ ?_
 ·unfold shadowIn
  dsimp only
  rw [wgA hn.ns,rf.gone (Option.isNone_iff_eq_none.mp hf)];rfl
 ·exact callWith_of (P:=fun h=>C.K.In h) (by rw [(wcu hs).1];rfl) (keeps_K e3) (wii hs (wgS S args X1 h3 fun ds h vs s₂ F2 xb rv2 _=>
   ⟨X1.g.kIn (fun b o e=>xb.inn _ _ (xb.le _ _ e)),bindE h fun d e h=>Sm e e1 X.R (X1.g.mono xb.le) (X1.r.ext xb).hok (.mk (rv'.ext xb) rv2) ((kk d h).ext (xa.trans xb))⟩))
theorem wqi {ds:List D}:∀ {l:List Tx} {vs:List Value},txtsOf ds=some l->RepAll C F ds vs->∃ ps:List (Str×Tok),PySem.strValues ps=vs/\ps.map (·.1)=l.map mk:=by
 induction ds with
 | nil=>intro l vs e r;cases e;cases r;exact ⟨[],rfl,rfl⟩
 | cons d ds ih=>
  intro l vs e r
  cases r with | mk x y=>
  refine strE (show strK d _=some l from e) fun a q e2=>mapE e2 fun l' e1 e3=>?_
  clear e e2
  subst q;subst e3
  cases x with | mk t=>
  obtain ⟨ps,h1,h2⟩:=ih e1 y
  exact ⟨(mk a,t)::ps,congrArg (Value.str (mk a) t::·) h1,congrArg (mk a::·) h2⟩
theorem wnJ (sep:Tx):∀ l:List Tx,mk (joinT sep l)=Str.join (mk sep) (l.map mk)
 | []=>rfl
 | [x]=>rfl
 | x::y::r=>by
  have:=wnJ sep (y::r)
  show mk (x++sep++joinT sep (y::r))=mk x++mk sep++Str.join (mk sep) ((y::r).map mk)
  rw [<- this]
  have app:∀ a b:Tx,mk (a++b)=mk a++mk b:=fun a b=>by
   show (⟨_⟩:Str)=⟨_⟩;simp
  rw [app,app]
theorem mnameE {P:Prop} {m:Str} {mt:Mt} (h:mname m=some mt) (a:m=Str.ofString "join"->mt=.join->P) (b:m=Str.ofString "get"->mt=.get->P) (c:m=Str.ofString "lower"->mt=.lower->P):P:=by
 unfold mname at h
 exact iteE h (fun q e=>a (eq_of_beq q) (Option.some.inj e).symm) fun _ h=>iteE h (fun q e=>b (eq_of_beq q) (Option.some.inj e).symm) fun _ h=>iteE h (fun q e=>c (eq_of_beq q) (Option.some.inj e).symm) fun _=>noneE
theorem wp1 {kvs:List (Key×D)} {es:List (Key×Value)} {kd dd:D} {kv dv:Value} (e:(toKey kd).map (fun k=>(kget k kvs).getD dd)=some d) (ry:RepKV C F kvs es) (rk:Rep C F kv kd) (rd:Rep C F dv dd) :
  ∃ kk,(anyKind C.prog C.w).is kk kv=true/\Rep C F ((valueAt es kk).getD dv) d:=mapE e fun kk h1 e=>⟨kk,wcD h1 rk,by
 rw [<- e]
 rcases ry.get kk with ⟨q1,q2⟩ | ⟨d',v',q1,q2,q3⟩
 ·rw [q1,q2];exact rd
 ·rw [q1,q2];exact q3⟩
theorem wtq {sep:Tx} {xs:List D} (e:((txtsOf xs).bind fun l=>if (l.map List.length).sum+l.length * sep.length<=cap then some (D.str (joinT sep l)) else none)=some d) {vs:List Value} (r:RepAll C F xs vs) :
  ∃ ps ss,PySem.strValues ps=vs/\ps.map (·.1)=ss/\JoinOk (mk sep) ss/\∃ y,d=.str y/\PySem.Txt.join (mk sep) ss=mk y:=
 bindE e fun l h1 e=>ifE e fun hz e=>by
  obtain ⟨ps,e2,e3⟩:=wqi h1 r
  refine ⟨ps,l.map mk,e2,e3,?_,_,(Option.some.inj e).symm,by rw [wnJ];exact StrLaws.glued_eq_join _ _⟩
  unfold JoinOk
  rw [StrLaws.joinTotal]
  have hsum:((l.map mk).map (·.length)).sum=(l.map List.length).sum:=by
   rw [List.map_map];exact congrArg List.sum (List.map_congr_left fun x _=>wb4 x)
  rw [hsum,wb4,List.length_map]
  have hcap:cap<=sizeLine:=by decide
  show (!decide (_ > sizeLine))=true
  rw [decide_eq_false (by omega)];rfl
theorem wv7 (S:SoundEv C n K.ev) {o:Expr} {m:Str} {mt:Mt} {ap pos:Pos} {args:List Expr} {k:D->Option α} (X:Ok C A n env q F s)
  (ok:callOk o ap pos=true) (hl:args.length<20) (hs:noStar args=true) (hm:mname m=some mt) (h:bmQ C.T K env.scope q o mt args k=some r) (kk:∀ d,k d=some r->Cont C F s d Q) :
  wpAny (model C.prog C.w) A (eval (.Call (.Attribute o m ap) args [] pos) env) Q E s:=by
 obtain ⟨hb,hline⟩:=wbV (env:=env) (m:=m) ok
 refine wpAny_Call_method_lateS hb (fewArgs hs hl) hline (wbp S X h fun d h2 v sa F1 xa vv _=>?_)
 have X1:=X.ext xa
 clear h
 refine mnameE hm (fun em et=>?_) (fun em et=>?_) fun em et=>?_<;>subst em<;>subst et<;>clear hm
 ·
  apply strV h2 vv;intro sep t h3
  refine oneE h3 fun e qa h4=>?_
  clear h2 h3;subst qa
  rw [wal (waM hs)]
  refine SB.join (S X1 h4 fun x h vf s₂ F2 xb rv=>bindE h fun d e h=>?_)
  apply listV (show listK x _=some d from e) (rv.view xb.inn);intro xs a vs nn hg hr e
  obtain ⟨ps,ss,e2,e3,e4,y,ey,e5⟩:=wtq e hr
  refine ⟨_,ps,rfl,by rw [e2];exact (waD hg).isList,ss,e3,e4,fun t' tk=>?_⟩
  rw [e5]
  exact (kk d h).ext xa _ _ F2 xb.tok (by rw [ey];exact .mk _)
 ·
  apply dictV h2 vv;intro kvs a o es ho hy hd ry h3
  clear h2
  have dy:sa.heap.DictOf (anyKind C.prog C.w) a es:=Heap.dictOf_iff.mpr ⟨_,ho,hd⟩
  have pre:∀ {P:Prop},P->P:=id
  rcases args with _ | ⟨e,_ | ⟨e',_ | _⟩⟩
  ·exact noneE h3
  ·rw [wal (waM hs)]
   refine ⟨"dict","dict.get",PySem.F.plainAttrs_dict,PySem.F.slot_dict_get,PySem.F.type_dict_get,dy.typeIs,dy.mapOf.noDict,wpAny_dict_get1 (knd:=anyKind C.prog C.w) hy (S X1 h3 fun x h vf s₂ F2 xb rv=>bindE h fun d e h=>?_)⟩
   obtain ⟨kk',h1,rr⟩:=wp1 (C:=C) (F:=F2) (dv:=.none) e (RepKV.mono xb.le _ ry) rv rfl
   exact ⟨kk',_,h1,(wce dy xb.keep).mapOf,(kk d h).ext xa _ _ F2 xb.tok rr⟩
  ·rw [wal (waM hs),wal (waM (wiL hs))]
   refine ⟨"dict","dict.get",PySem.F.plainAttrs_dict,PySem.F.slot_dict_get,PySem.F.type_dict_get,dy.typeIs,dy.mapOf.noDict,wpAny_dict_get2 (knd:=anyKind C.prog C.w) hy (S X1 h3 fun x h vf s₂ F2 xb rv=>S (X1.ext xb) h fun y h vk sd F3 xc rv3=>bindE h fun d e h=>?_)⟩
   have xk:=xb.trans xc
   obtain ⟨kk',h1,rr⟩:=wp1 (C:=C) (F:=F3) e (RepKV.mono xk.le _ ry) (rv.ext xc) rv3
   exact ⟨kk',_,h1,(wce dy xk.keep).mapOf,(kk d h).ext xa _ _ F3 xk.tok rr⟩
  ·exact noneE h3
 ·
  apply strV h2 vv;intro x t h3
  refine ifE h3 fun ha h4=>bindE h4 fun d e h=>ifE (show (if _ then some (D.str (lowerT x)) else none)=some d from e) fun hz e=>?_
  have ha:=wax ha
  subst ha
  refine SB.lower ?_ ?_
  ·show decide (_ > sizeLine)=false
   exact decide_eq_false (Nat.not_lt.mpr (waA hz.2))
  ·have e3:Rep C F1 (.str (PySem.Txt.lower (mk x)) sa.toks) (.str (lowerT x)):=by have:=VS.mk (x:=lowerT x) sa.toks;rwa [show mk (lowerT x)=PySem.Txt.lower (mk x) from wkw _]at this
   exact Cont.here (((kk d h).ext xa).of e) xa.inn rfl e3
end
section
variable {prog:Program} {w:World} {A:Around} {E:Value->Shared->Prop} {s:Shared}
theorem nextTup {it t:Addr} {i:Nat} {items:Array Value} {Q:Value->Shared->Prop} (hh:A.handled=none) (hit:s.heap.IsTupleIter it t i) (ht:s.heap.IsTuple t items)
  (hQ:∀ x,items[i]?=some x->∀ h',h'.IsTupleIter it t (i+1)->Heap.SameBut it s.heap h'->Q x { s with heap:=h' })
  (hE:items[i]?=none->∀ h' e,Heap.ExtBut it s.heap h'->(∃ o,h'.get? e=some o/\o.cls=.type "StopIteration")->E (.ref e) { s with heap:=h' }):wpAny (model prog w) A (Builtin.SmallTypes.nextOf (.ref it)) Q E s:=by
 obtain ⟨o,ho,hc,hd⟩:=id hit
 obtain ⟨ol,hol,_,nl,hdl⟩:=ht
 unfold Builtin.SmallTypes.nextOf
 refine wpAny_bind (wpAny_callSpecial?_slot (name:=Str.ofString "__next__") hit.typeIs PySem.F.slot_tuple_iterator_next
  (wpAny_call_entry PySem.F.slot_tuple_iterator_next hit.typeIs PySem.F.entry_tuple_iterator_next ?_ (PySem.F.args_tuple_iterator_next_1 _)))
 show wpAny _ _ (field (.ref it) 0 >>= _) _ _ s
 refine wpAny_bind (wpAny_field ho hd (x:=.ref t) rfl ?_)
 show wpAny _ _ (if (Value.ref t==Value.none)=true then _ else _) _ _ s
 rw [if_neg (show ¬ ((Value.ref t==Value.none)=true) from Bool.false_ne_true)]
 show wpAny _ _ (field (.ref it) 1 >>= _) _ _ s
 refine wpAny_bind (wpAny_field ho hd (x:=.int i 0) rfl ?_)
 show wpAny _ _ (seqItems? (.ref t) >>= _) _ _ s
 refine wpAny_bind (wpAny_seqItems hol hdl ?_)
 cases hx:items[i]? with
 | some x=>
  simp only [Int.toNat_natCast,hx]
  exact wpAny_bind (wpAny_setField ho hd (by simp) (wpAny_pure ⟨x,rfl,wpAny_pure (hQ x hx _ ⟨_,Heap.get?_update_self _ ho (Obj.isFreed_of_fields (Obj.data_mapFields hd _)),(Obj.cls_mapFields ..).trans hc,by rw [Obj.data_mapFields hd];simp [rawInt]⟩ (Heap.SameBut.update ..))⟩))
 | none=>
  simp only [Int.toNat_natCast,hx]
  refine wpAny_bind (wpAny_rule (wpAny_bind (wpAny_setField ho hd (by simp) ?_)))
  show wpAny _ _ (newExc (.type "StopIteration") [] >>= _) _ _ _
  refine wpAny_bind ?_
  simp only [newExc,newTuple]
  refine wpAny_bind (wpAny_newObj_type ?_ (by size_fits))
  refine wpAny_bind (m:=firstArgMember _ _) (wpAny_of_eq (a:=Value.none) (by first | rfl | (simp only [firstArgMember];rfl)) ?_)
  refine wpAny_newObj_type ?_ (by size_fits)
  simp only [raiseNew]
  refine wpAny_bind (wpAny_handled ?_)
  first | rw [show A.in1.handled=none from hh] | rw [hh]
  exact wpAny_bind (wpAny_pure (wpAny_throw (hE hx _ _ (((Heap.SameBut.update ..).extBut.push _).push _) ⟨_,Heap.get?_push_size _ rfl,rfl⟩)))
structure ZipAt (z TI TO i1 i2 l1 l2:Addr) (xs ys:Array Value) (f0:Value) (i:Nat) (h:Heap):Prop where
 z:IsZip h z TI TO f0
 src:IsPair h TI (.ref i1) (.ref i2)
 out:∃ a b,IsPair h TO a b
 it1:h.IsTupleIter i1 l1 i
 it2:h.IsTupleIter i2 l2 i
 t1:h.IsTuple l1 xs
 t2:h.IsTuple l2 ys
noncomputable def zOwn (z TO i1 i2:Addr) (h h':Heap):Prop:=∀ c o,c≠z->c≠TO->c≠i1->c≠i2->h.get? c=some o->h'.get? c=some o
theorem wiK {z TI TO i1 i2 l1 l2:Addr} {k:Nat} {xs ys:Array Value} {Q:Fin->Shared->Prop} (hh:A.handled=none) (D:ZipApart z TI TO i1 i2 l1 l2) (st:ZipAt z TI TO i1 i2 l1 l2 xs ys .none k s.heap)
  (hQ:∀ x y,xs[k]?=some x->ys[k]?=some y->∀ h',ZipAt z TI TO i1 i2 l1 l2 xs ys (rawInt s.heap.objs.size) (k+1) h'->IsPair h' s.heap.objs.size x y->zOwn z TO i1 i2 s.heap h'->Q (.done (.ret (.ref s.heap.objs.size))) { s with heap:=h' })
  (hE:xs[k]?=none\/ys[k]?=none->∀ h' e,zOwn z TO i1 i2 s.heap h'->(∃ o,h'.get? e=some o/\o.cls=.type "StopIteration")->E (.ref e) { s with heap:=h' }) :
  wpAny (model prog w) A (Builtin.«zip.__next__» ⟨[.ref z],[]⟩) Q E s:=by
 obtain ⟨hz,hTI,⟨a,b,hTO⟩,h1,h2,hl1,hl2⟩:=st
 show wpAny _ _ (field (.ref z) 2 >>= _) _ _ _
 refine wpAny_bind (wpAny_field hz rfl (x:=.bool false) rfl ?_)
 show wpAny _ _ (field (.ref z) 3 >>= _) _ _ _
 refine wpAny_bind (wpAny_field hz rfl (x:=.ref TI) rfl ?_)
 refine wpAny_bind (wpAny_seqItems hTI rfl ?_)
 show wpAny _ _ (Builtin.SmallTypes.ownedTupleIsFree (.ref z) >>= _) _ _ _
 refine wpAny_bind ?_
 unfold Builtin.SmallTypes.ownedTupleIsFree
 refine wpAny_bind (wpAny_field hz rfl (x:=.none) rfl (wpAny_pure ?_))
 simp only [if_true]
 refine wpAny_bind (wpAny_rule ?_)
 refine wpAny_bind (wpAny_field hz rfl (x:=.ref TO) rfl ?_)
 refine wpAny_bind (wpAny_setField_rec hz (by simp) fun hX hza hs1=>?_)
 replace hza:IsZip hX z TI TO .ellipsis:=hza
 refine wpAny_bind ?_
 simp only [List.zipIdx_cons,List.zipIdx_nil,List.forIn_cons,List.forIn_nil]
 refine wpAny_bind (wpAny_bind (wpAny_onRaise ?_))
 show wpAny _ _ (Builtin.SmallTypes.nextOf (.ref i1) >>= _) _ _ _
 have stop:∀ {h:Heap} {e:Addr} {Q:Unit->Shared->Prop} {Y:Value->Shared->Prop},(xs[k]?=none\/ys[k]?=none)->IsZip h z TI TO .ellipsis->zOwn z TO i1 i2 s.heap h->(∃ o,h.get? e=some o/\o.cls=.type "StopIteration") ->
   (∀ h',E (.ref e) { s with heap:=h' }->Q () { s with heap:=h' })->wpAny (model prog w) A (setField (.ref z) 0 .none) Q Y { s with heap:=h }:=fun {h e Q Y} hend hzb hk ⟨oe,hoe,hce⟩ q=>by
  have hez:e≠z:=fun x=>by subst x;rw [hzb]at hoe;cases hoe;simp at hce
  exact wpAny_setField_rec hzb (by simp) fun hU _ hs3=>q _ (hE hend hU e (fun c o c1 c2 c3 c4 x=>hs3.extBut _ _ c1 (hk c o c1 c2 c3 c4 x)) ⟨oe,hs3.extBut _ _ hez hoe,hce⟩)
 refine wpAny_bind (nextTup hh (h1.extBut hs1.extBut D.i1z) (hl1.extBut hs1.extBut D.l1z) (fun x hx hJ h1₂ hs2=>wpAny_pure ?_) fun hx hJ e hs2 he=>?_)
 case refine_2=>
  exact stop (.inl hx) (hs2 _ _ D.i1z.symm hza) (fun c o c1 _ c3 _ x=>hs2 _ _ c3 (hs1.extBut _ _ c1 x)) he fun h' q=>q
 have hTO₂:IsPair hJ TO a b:=hs2.extBut _ _ D.TOi1 (hs1.extBut _ _ D.TOz hTO)
 refine wpAny_bind (wpAny_seqItems hTO₂ rfl ?_)
 refine wpAny_bind (wpAny_updateSeq_pair hTO₂ fun hU hTO3 hs3=>?_)
 replace hTO3:IsPair hU TO x b:=hTO3
 refine wpAny_bind (wpAny_letGo (wpAny_pure ?_))
 refine wpAny_bind (wpAny_bind (wpAny_onRaise ?_))
 show wpAny _ _ (Builtin.SmallTypes.nextOf (.ref i2) >>= _) _ _ _
 refine wpAny_bind (nextTup hh (((h2.extBut hs1.extBut D.i2z).extBut hs2.extBut D.i12.symm).extBut hs3.extBut D.TOi2.symm)
  (((hl2.extBut hs1.extBut D.l2z).extBut hs2.extBut D.l2i1).extBut hs3.extBut D.l2TO) (fun y hy h₄ h2₄ hs4=>wpAny_pure ?_) fun hy h₄ e hs4 he=>?_)
 case refine_2=>
  exact stop (.inr hy) (hs4 _ _ D.i2z.symm (hs3.extBut _ _ D.TOz.symm (hs2.extBut _ _ D.i1z.symm hza))) (fun c o c1 c2 c3 c4 x=>hs4 _ _ c4 (hs3.extBut _ _ c2 (hs2.extBut _ _ c3 (hs1.extBut _ _ c1 x)))) he fun h' q=>q
 have hTO4:IsPair h₄ TO x b:=hs4.extBut _ _ D.TOi2 hTO3
 refine wpAny_bind (wpAny_seqItems hTO4 rfl ?_)
 refine wpAny_bind (wpAny_updateSeq_pair hTO4 fun hK hTO5 hs5=>?_)
 replace hTO5:IsPair hK TO x y:=hTO5
 refine wpAny_bind (wpAny_letGo (wpAny_pure (wpAny_pure ?_)))
 refine wpAny_bind (wpAny_seqItems hTO5 rfl ?_)
 refine wpAny_bind (wpAny_newTuple ?_)
 have hsz:hK.objs.size=s.heap.objs.size:=by rw [hs5.1,hs4.1,hs3.1,hs2.1,hs1.1]
 have hz5:IsZip hK z TI TO .ellipsis:=hs5.extBut _ _ D.TOz.symm (hs4.extBut _ _ D.i2z.symm (hs3.extBut _ _ D.TOz.symm (hs2.extBut _ _ D.i1z.symm hza)))
 have hkb:zOwn z TO i1 i2 s.heap hK:=fun c o c1 c2 c3 c4 e=>
  hs5.extBut _ _ c2 (hs4.extBut _ _ c4 (hs3.extBut _ _ c2 (hs2.extBut _ _ c3 (hs1.extBut _ _ c1 e))))
 have h1₅:hK.IsTupleIter i1 l1 (k+1):=((h1₂.extBut hs3.extBut D.TOi1.symm).extBut hs4.extBut D.i12).extBut hs5.extBut D.TOi1.symm
 have h2₅:hK.IsTupleIter i2 l2 (k+1):=h2₄.extBut hs5.extBut D.TOi2.symm
 have l1₅:hK.IsTuple l1 xs:=hl1.at fun o e=>hkb _ o D.l1z D.l1TO D.l1i1 D.l1i2 e
 have l2₅:hK.IsTuple l2 ys:=hl2.at fun o e=>hkb _ o D.l2z D.l2TO D.l2i1 D.l2i2 e
 have tc:IsPair hK TI (.ref i1) (.ref i2):=hkb _ _ D.TIz D.TITO D.TIi1 D.TIi2 hTI
 clear stop hE h1₂ h2₄ hTO₂ hTO3 hTO4 hs1 hs2 hs3 hs4 hs5 hza
 show wpAny _ _ (Builtin.SmallTypes.ownedTupleHandOut (.ref z) (.ref hK.objs.size) >>= _) _ _ _
 refine wpAny_bind ?_
 unfold Builtin.SmallTypes.ownedTupleHandOut
 have hzlt:z<hK.objs.size:=Heap.lt_size hz5
 have hz6:IsZip (hK.push { cls:=.type "tuple",data:=.seq #[x,y] }) z TI TO .ellipsis:=Heap.get?_push_of_some _ hz5
 refine wpAny_bind (wpAny_setField_rec hz6 (by simp) fun h₇ hz7 hs7=>?_)
 replace hz7:IsZip h₇ z TI TO (rawInt hK.objs.size):=hz7
 refine wpAny_setField_rec hz7 (by simp) fun hY hz8 hs8=>?_
 replace hz8:IsZip hY z TI TO (rawInt hK.objs.size):=hz8
 have up:∀ c o,c≠z->hK.get? c=some o->hY.get? c=some o:=fun c o c1 e=>hs8.extBut _ _ c1 (hs7.extBut _ _ c1 (Heap.get?_push_of_some _ e))
 have hT8:IsPair hY hK.objs.size x y:=hs8.extBut _ _ (Nat.ne_of_gt hzlt) (hs7.extBut _ _ (Nat.ne_of_gt hzlt) (Heap.get?_push_size _ rfl))
 refine wpAny_pure ?_
 show Q (.done (.ret (.ref hK.objs.size))) _
 rw [hsz]at hz8 hT8 ⊢
 exact hQ x y hx hy hY ⟨hz8,up _ _ D.TIz tc,⟨_,_,up _ _ D.TOz hTO5⟩,h1₅.at fun o e=>up _ o D.i1z e,h2₅.at fun o e=>up _ o D.i2z e,l1₅.at fun o e=>up _ o D.l1z e,l2₅.at fun o e=>up _ o D.l2z e⟩ hT8
  fun c o c1 c2 c3 c4 e=>up c o c1 (hkb c o c1 c2 c3 c4 e)
theorem ZipAt.free {z TI TO i1 i2 l1 l2:Addr} {xs ys:Array Value} {f0:Value} {i:Nat} {h:Heap} (st:ZipAt z TI TO i1 i2 l1 l2 xs ys f0 i h) {h':Heap} {f1:Value} (D:ZipApart z TI TO i1 i2 l1 l2) (hz:IsZip h' z TI TO f1) (hs:Heap.SameBut z h h'):ZipAt z TI TO i1 i2 l1 l2 xs ys f1 i h':=
 ⟨hz,hs.extBut _ _ D.TIz st.src,let ⟨a,b,e⟩:=st.out;⟨a,b,hs.extBut _ _ D.TOz e⟩,st.it1.extBut hs.extBut D.i1z,st.it2.extBut hs.extBut D.i2z,st.t1.extBut hs.extBut D.l1z,st.t2.extBut hs.extBut D.l2z⟩
theorem wm7 (hh:A.handled=none) (z TI TO i1 i2 l1 l2:Addr) (D:ZipApart z TI TO i1 i2 l1 l2) (xs ys:Array Value) :
  WalksU prog w A z [z,TI,TO,i1,i2,l1,l2] [z,TO,i1,i2] (min xs.size ys.size) (fun i vals=>∃ x y,xs[i]?=some x/\ys[i]?=some y/\vals=#[x,y])
   (fun i h=>ZipAt z TI TO i1 i2 l1 l2 xs ys .none i h) (fun i T h=>ZipAt z TI TO i1 i2 l1 l2 xs ys (rawInt T) (i+1) h/\T≠z/\T≠TO/\T≠i1/\T≠i2) where
 sub:=fun c hc=>by simp at hc ⊢;rcases hc with rfl | rfl | rfl | rfl<;>simp
 frame:=fun i h h' st hk=>⟨hk z (by simp) _ st.z,hk TI (by simp) _ st.src,let ⟨a,b,e⟩:=st.out;⟨a,b,hk TO (by simp) _ e⟩,st.it1.at fun o e=>hk i1 (by simp) o e,st.it2.at fun o e=>hk i2 (by simp) o e,
   st.t1.at fun o e=>hk l1 (by simp) o e,st.t2.at fun o e=>hk l2 (by simp) o e⟩
 item:=fun i s Q E hi st hQ=>by
  have hix:i<xs.size:=Nat.lt_of_lt_of_le hi (Nat.min_le_left ..)
  have hiy:i<ys.size:=Nat.lt_of_lt_of_le hi (Nat.min_le_right ..)
  have hT:s.TypeIs (.ref z) "zip":=⟨_,st.z,rfl⟩
  have lt:∀ {c o},s.heap.get? c=some o->s.heap.objs.size≠c:=fun e=>Nat.ne_of_gt (Heap.lt_size e)
  unfold pyNext
  refine wpAny_bind (wpAny_attempt (wpAny_callSpecial?_slot (name:=Str.ofString "__next__") hT PySem.F.slot_zip_next
   (wpAny_call_entry PySem.F.slot_zip_next hT PySem.F.entry_zip_next (wiK hh D st (fun x y ex ey h' a1 a2 hk=>⟨_,rfl,wpAny_pure ?_⟩) fun he=>by
    rcases he with he | he
    ·rw [Array.getElem?_eq_getElem hix]at he;exact noneE he.symm
    ·rw [Array.getElem?_eq_getElem hiy]at he;exact noneE he.symm) (PySem.F.args_zip_next_1 _))))
  exact hQ s.heap.objs.size #[x,y] h' s.toks ⟨x,y,ex,ey,rfl⟩ ⟨_,a2,rfl,_,rfl⟩
   ⟨a1,lt st.z,(by obtain ⟨_,_,e⟩:=st.out;exact lt e),(by obtain ⟨_,e,_⟩:=st.it1;exact lt e),(by obtain ⟨_,e,_⟩:=st.it2;exact lt e)⟩
   fun c o hc e=>hk c o (fun x=>hc (by simp [x])) (fun x=>hc (by simp [x])) (fun x=>hc (by simp [x])) (fun x=>hc (by simp [x])) e
 go:=fun elts k pos i T s Q E hm hQ=>by
  refine wpAny_letOwnedTupleGo_zip hm.1.z fun h' hz' hs'=>hQ h' (hm.1.free D hz' hs') fun c o hc e=>hs'.extBut _ _ (fun x=>hc (by simp [x])) e
 apart:=fun i T h hm hT=>by
  obtain ⟨_,t1,t2,t3,t4⟩:=hm
  simp at hT
  rcases hT with rfl | rfl | rfl | rfl
  ·exact t1 rfl
  ·exact t2 rfl
  ·exact t3 rfl
  ·exact t4 rfl
 done:=fun s Q E st hQ=>by
  have hend:xs[min xs.size ys.size]?=none\/ys[min xs.size ys.size]?=none:=by
   rcases Nat.le_total xs.size ys.size with h | h
   ·exact .inl (by rw [Nat.min_eq_left h];exact Array.getElem?_eq_none (Nat.le_refl _))
   ·exact .inr (by rw [Nat.min_eq_right h];exact Array.getElem?_eq_none (Nat.le_refl _))
  have hT:s.TypeIs (.ref z) "zip":=⟨_,st.z,rfl⟩
  unfold pyNext
  refine wpAny_bind (wpAny_attempt (wpAny_callSpecial?_slot (name:=Str.ofString "__next__") hT PySem.F.slot_zip_next
   (wpAny_call_entry PySem.F.slot_zip_next hT PySem.F.entry_zip_next (wiK hh D st (fun x y ex ey=>by
    rcases hend with h | h
    ·rw [h]at ex;exact noneE ex
    ·rw [h]at ey;exact noneE ey) fun _ h' e hk he=>?_) (PySem.F.args_zip_next_1 _))))
  obtain ⟨o,ho,hc⟩:=he
  refine wpAny_bind (wpAny_isInstance (T:="StopIteration") (b:=true) ⟨o,ho,hc⟩ isSubtype_stop ?_)
  exact wpAny_pure (hQ _ s.toks fun c o hc e=>hk c o (fun x=>hc (by simp [x])) (fun x=>hc (by simp [x])) (fun x=>hc (by simp [x])) (fun x=>hc (by simp [x])) e)
 self:=fun i s Q E st hQ=>wpAny_pyIter_zip st.z hQ
noncomputable abbrev ziP1 (h:Heap) (l1:Addr):Heap:=h.push { cls:=.type "tuple_iterator",data:=.fields #[.ref l1,.int 0 0] }
noncomputable abbrev ziP2 (h:Heap) (l1 l2:Addr):Heap:=(ziP1 h l1).push { cls:=.type "tuple_iterator",data:=.fields #[.ref l2,.int 0 0] }
noncomputable abbrev ziP3 (h:Heap) (l1 l2:Addr):Heap:=(ziP2 h l1 l2).push { cls:=.type "tuple",data:=.seq #[.ref h.objs.size,.ref (ziP1 h l1).objs.size] }
noncomputable abbrev ziP4 (h:Heap) (l1 l2:Addr):Heap:=(ziP3 h l1 l2).push { cls:=.type "tuple",data:=.seq #[.none,.none] }
noncomputable abbrev ziP5 (h:Heap) (l1 l2:Addr):Heap:=(ziP4 h l1 l2).push { cls:=.type "zip",data:=.fields #[.none,.bool false,.bool false,.ref (ziP2 h l1 l2).objs.size,.ref (ziP3 h l1 l2).objs.size] }
theorem wm8 (l1 l2:Addr) (xs ys:Array Value) :
  Meets (Builtin.«zip.__new__» ⟨[.type "zip",.ref l1,.ref l2],[]⟩) (fun _ R s=>s.heap.IsTuple l1 xs/\s.heap.IsTuple l2 ys /\
   R (.ok (.ret (.ref (ziP4 s.heap l1 l2).objs.size))) { s with heap:=ziP5 s.heap l1 l2 }):=
 .of_wp fun prog w A R s h=>by
  obtain ⟨hp,g,d,tk,os⟩:=s;obtain ⟨hl1,hl2,h⟩:=h
  have hsub:=sub_zip
  have hL1:Heap.IsTuple (Shared.heap ⟨hp,g,d,tk,os⟩) l1 xs:=hl1
  have hL2:Heap.IsTuple (Shared.heap ⟨hp.push { cls:=.type "tuple_iterator",data:=.fields #[.ref l1,.int 0 0] },g,d,tk,os⟩) l2 ys:=Heap.IsTuple.push hl2 _
  wp_walk using wpAny_pyIter_tuple hL1,wpAny_pyIter_tuple hL2
  exact ⟨_,rfl,h⟩
theorem wom {l1 l2:Addr} {xs ys:Array Value} {Q:Value->Shared->Prop} (hl1:s.heap.IsTuple l1 xs) (hl2:s.heap.IsTuple l2 ys)
  (h:∀ h' z TI TO i1 i2,ZipApart z TI TO i1 i2 l1 l2->ZipAt z TI TO i1 i2 l1 l2 xs ys .none 0 h'->s.heap.objs.size<=z->s.heap.objs.size<=TO->s.heap.objs.size<=i1->s.heap.objs.size<=i2 ->
   (∀ c o,s.heap.get? c=some o->h'.get? c=some o)->Q (.ref z) { s with heap:=h' }):wpAny (model prog w) A (call (.type "zip") [.ref l1,.ref l2]) Q E s:=by
 refine callType_new PySem.F.called_zip (by decide) (PySem.F.typeCall_zip_2 _ _) (PySem.F.newCall_zip_2 _ _) (fun obj=>PySem.F.args_object_init_3 obj _ _) PySem.F.entry_zip_new
  (wm8 l1 l2 xs ys) ⟨hl1,hl2,?_⟩
 have a1:l1<s.heap.objs.size:=by obtain ⟨_,e,_⟩:=hl1;exact Heap.lt_size e
 have a2:l2<s.heap.objs.size:=by obtain ⟨_,e,_⟩:=hl2;exact Heap.lt_size e
 have z1:(ziP1 s.heap l1).objs.size=s.heap.objs.size+1:=Heap.size_push ..
 have z2:(ziP2 s.heap l1 l2).objs.size=s.heap.objs.size+2:=by rw [Heap.size_push,z1]
 have z3:(ziP3 s.heap l1 l2).objs.size=s.heap.objs.size+3:=by rw [Heap.size_push,z2]
 have z4:(ziP4 s.heap l1 l2).objs.size=s.heap.objs.size+4:=by rw [Heap.size_push,z3]
 have g5:(ziP5 s.heap l1 l2).get? (ziP4 s.heap l1 l2).objs.size=some _:=Heap.get?_push_size _ rfl
 have g4:(ziP5 s.heap l1 l2).get? (ziP3 s.heap l1 l2).objs.size=some _:=Heap.get?_push_of_some _ (Heap.get?_push_size _ rfl)
 have g3:(ziP5 s.heap l1 l2).get? (ziP2 s.heap l1 l2).objs.size=some _:=Heap.get?_push_of_some _ (Heap.get?_push_of_some _ (Heap.get?_push_size _ rfl))
 have g2:(ziP5 s.heap l1 l2).get? (ziP1 s.heap l1).objs.size=some _:=Heap.get?_push_of_some _ (Heap.get?_push_of_some _ (Heap.get?_push_of_some _ (Heap.get?_push_size _ rfl)))
 have g1:(ziP5 s.heap l1 l2).get? s.heap.objs.size=some _:=Heap.get?_push_of_some _ (Heap.get?_push_of_some _ (Heap.get?_push_of_some _ (Heap.get?_push_of_some _ (Heap.get?_push_size _ rfl))))
 have up:∀ c o,s.heap.get? c=some o->(ziP5 s.heap l1 l2).get? c=some o:=fun c o x=>
  Heap.get?_push_of_some _ (Heap.get?_push_of_some _ (Heap.get?_push_of_some _ (Heap.get?_push_of_some _ (Heap.get?_push_of_some _ x))))
 show _/\_
 rw [z2,z3,z4]at g5
 rw [z1,z2]at g3
 rw [z3]at g4
 rw [z1]at g2
 rw [z4]
 exact ⟨⟨_,g5,rfl⟩,h _ _ _ _ _ _ (zipApart_new a1 a2) ⟨g5,g3,⟨_,_,g4⟩,⟨_,g1,rfl,rfl⟩,⟨_,g2,rfl,rfl⟩,hl1.at fun o e=>up _ o e,hl2.at fun o e=>up _ o e⟩
  (Nat.le_add_right _ 4) (Nat.le_add_right _ 3) (Nat.le_refl _) (Nat.le_add_right _ 1) up⟩
end
structure StRel (C:Fr) (env:Env) (F:FH) (W B:Addr->Prop) (h:Heap) (ss:Scope) (q:QV):Prop where
 rel:RelR C env F h q
 wF:∀ b,W b->F b=none
 wIn:∀ b,W b->h.get? b≠none
 wL:W env.locals
 ns:∃ m,h.Ns env.locals m
 set:∀ x,canSet ss x=true->env.scope.names.lookup x=some .local\/(env.scope.names.lookup x=some .cell/\∃ c v,env.cells.lookup x=some c/\W c/\h.IsCell c v)
 cL:∀ x c,env.cells.lookup x=some c->c≠env.locals
 cB:∀ x c,env.cells.lookup x=some c->B c\/W c
 oB:Owns env h q B
 tW:¬ W (tabAt C)
 tB:B (tabAt C)
noncomputable def KeepBut (W:Addr->Prop) (h h':Heap):Prop:=∀ b o,¬ W b->h.get? b=some o->h'.get? b=some o
noncomputable def Place (env:Env) (a:Addr):Prop:=a=env.locals\/∃ x,env.cells.lookup x=some a
structure Chg (env:Env) (a₀:Addr) (h h':Heap):Prop where
 but:Heap.SameBut a₀ h h'
 ha:h'.get? a₀≠none
 pl:Place env a₀
 ns:∃ m,h'.Ns env.locals m
 cell:∀ y c u,env.cells.lookup y=some c->h.IsCell c u->∃ u',h'.IsCell c u'
section
variable {C:Fr} {F F':FH} {A:Around} {E:Value->Shared->Prop} {s:Shared} {d:D} {env:Env} {ss:Scope} {q:QV} {n:Nat} {W B:Addr->Prop} {h h':Heap} {a₀:Addr} {x:Str} {v:Value} {sl:Slot}
theorem Apart.ne {a:Addr} (p:Apart env a) (pl:Place env a₀):a≠a₀:=fun q=>by
 subst q
 rcases pl with e | ⟨y,e⟩
 ·exact p.1 e
 ·exact p.2 y _ e rfl
theorem StRel.ext {s s':Shared} (st:StRel C env F W B s.heap ss q) (x:Ext F s F' s'):StRel C env F' W B s'.heap ss q where
 rel:=st.rel.ext x
 wF b hb:=x.still (st.wF b hb) (st.wIn b hb)
 wIn b hb:=x.keep.alive (st.wIn b hb)
 wL:=st.wL
 ns:=by obtain ⟨m,e⟩:=st.ns;exact ⟨m,wrv e x.keep⟩
 set y hy:=(st.set y hy).imp_right fun ⟨a,c,v,e,hw,hc⟩=>⟨a,c,v,e,hw,wod hc x.keep⟩
 cL:=st.cL
 cB:=st.cB
 oB:=st.oB.mv (st.rel.stillX x) fun _=>id
 tW:=st.tW
 tB:=st.tB
theorem wgd {b:Addr} (hs:Heap.SameBut a₀ h h') (ha:h'.get? a₀≠none) (e:h.get? b≠none):h'.get? b≠none:=by
 by_cases q:b=a₀
 ·rw [q];exact ha
 ·rw [hs.2 b q];exact e
theorem wuw {G:FH} (hs:Heap.SameBut a₀ h h') (i:G.In h) (f:G a₀=none):G.In h':=fun b o e=>by
 rw [hs.2 b fun q=>by rw [q,f]at e;exact noneE e];exact i b o e
theorem Chg.own (g:Chg env a₀ h h') (r:View C h F v d) (ap:∀ a∈tops h.get? v,Apart env a):View C h' F v d/\tops h'.get? v=tops h.get? v:=by
 have hk:∀ a∈tops h.get? v,∀ o,h.get? a=some o->h'.get? a=some o:=fun a hta o e=>by
  rw [g.but.2 a ((ap a hta).ne g.pl)];exact e
 exact ⟨Vw.gen (FH.le.refl F) d (fun b hb o e _=>hk b hb o e) r,wcR r hk⟩
structure Bnd (C:Fr) (env:Env) (F:FH) (a₀:Addr) (h h':Heap) (x:Str) (v:Value) (sl:Slot):Prop where
 g:Chg env a₀ h h'
 hx:Holds env h' x v
 ho:∀ y u,y≠x->Holds env h y u->Holds env h' y u
 ok:SlotOk C h F v sl
 ap:∀ d,sl=.own d->∀ a∈tops h.get? v,Apart env a
theorem Bnd.el {P:Prop} (b:Bnd C env F a₀ h h' x v sl) (r:RelR C env F h q) {y:Str} {d:D} {u:Value} (hl:lookq y (setq x sl q)=some (.own d)) (hv:isVar env.scope y=true) (hh:Holds env h' y u)
  (f:y=x->sl=.own d->u=v->tops h'.get? u=tops h.get? u->P) (f':y≠x->lookq y q=some (.own d)->Holds env h y u->tops h'.get? u=tops h.get? u->P):P:=
 setqE hl (fun e e'=>by
  subst e;subst e'
  have e:=hh.fn b.hx;subst e
  exact f rfl rfl rfl (b.g.own b.ok (b.ap d rfl)).2) fun hn hl=>by
  obtain ⟨u',h1,h2⟩:=r.vars hl hv
  have e:=hh.fn (b.ho y u' hn h1);subst e
  exact f' hn hl h1 (b.g.own h2 (r.own hl hv h1)).2
theorem StRel.step {q':QV} (st:StRel C env F W B h ss q) (hw:W a₀) (hs:Heap.SameBut a₀ h h') (ha:h'.get? a₀≠none) (ns:∃ m,h'.Ns env.locals m) (cell:∀ y c u,env.cells.lookup y=some c->h.IsCell c u->∃ u',h'.IsCell c u')
  (vars:∀ {y sl},lookq y q'=some sl->isVar env.scope y=true->∃ u,Holds env h' y u/\SlotOk C h' F u sl) (own:Owns env h' q' (Apart env)) (ow:Owns env h' q' B):StRel C env F W B h' ss q' where
 rel:={
  eo:=st.rel.eo
  inn:=wuw hs st.rel.inn (st.wF _ hw)
  vars:=vars
  cin:=fun e=>wgd hs ha (st.rel.cin e)
  own:=own
  tab:=by
   obtain ⟨o,e,t⟩:=st.rel.tab
   exact ⟨o,by rw [hs.2 _ fun q=>st.tW (by rw [q];exact hw)];exact e,t⟩
  ftab:=st.rel.ftab
  code:=st.rel.code }
 wF:=st.wF
 wIn b' hb:=wgd hs ha (st.wIn b' hb)
 wL:=st.wL
 ns:=ns
 set y hy:=(st.set y hy).imp_right fun ⟨a,c,u,e,hw,hc⟩=>by obtain ⟨u',hc'⟩:=cell y c u e hc;exact ⟨a,c,u',e,hw,hc'⟩
 cL:=st.cL
 cB:=st.cB
 oB:=ow
 tW:=st.tW
 tB:=st.tB
theorem StRel.bound (st:StRel C env F W B h ss q) (hw:W a₀) (b:Bnd C env F a₀ h h' x v sl) (ow:∀ d,sl=.own d->∀ a∈tops h.get? v,B a):StRel C env F W B h' ss (setq x sl q):=
 st.step hw b.g.but b.g.ha b.g.ns b.g.cell (fun {y sl'} hl hv=>setqE hl (fun e e'=>by
   subst e;subst e'
   refine ⟨v,b.hx,?_⟩
   cases sl with
   | fz d=>exact b.ok
   | own d=>exact (b.g.own b.ok (b.ap d rfl)).1) fun hn hl=>by
   obtain ⟨u,h1,h2⟩:=st.rel.vars hl hv
   refine ⟨u,b.ho y u hn h1,?_⟩
   cases sl' with
   | fz d=>exact h2
   | own d=>exact (b.g.own h2 (st.rel.own hl hv h1)).1) (fun y d u hl hv hh a ha=>b.el st.rel hl hv hh (fun _ e e2 e3=>b.ap d e a (e2 ▸ e3 ▸ ha)) fun _ hl hh e3=>st.rel.own hl hv hh a (e3 ▸ ha))
  fun y d u hl hv hh a ha=>b.el st.rel hl hv hh (fun _ e e2 e3=>ow d e a (e2 ▸ e3 ▸ ha)) fun _ hl hh e3=>st.oB hl hv hh a (e3 ▸ ha)
theorem wiU {Q:Unit->Shared->Prop} (st:StRel C env F W B s.heap ss q) (hx:canSet ss x=true)
  (k:∀ a₀ h' tk,W a₀->Chg env a₀ s.heap h'->Holds env h' x v->(∀ y u,y≠x->Holds env s.heap y u->Holds env h' y u)->Q () { s with heap:=h',toks:=tk }):wpAny (model C.prog C.w) A (bindName env x v) Q E s:=by
 have hk:=st.rel.eo.kind
 unfold bindName
 refine wpAny_bind (wpAny_holding (wpAny_point (wpAny_bind ?_)))
 obtain ⟨m,hn⟩:=st.ns
 rcases st.set x hx with hl | ⟨hl,c,vg,hc,hwc,hcell⟩
 ·refine wpAny_storeName_local hl hn (fun h' hn' hs=>wpAny_point (k env.locals h' _ st.wL ⟨hs,?_,.inl rfl,⟨_,hn'⟩,fun y c u e hc=>⟨u,hc.sameBut hs (st.cL y c e)⟩⟩ (.inl ⟨hl,_,hn',if_pos rfl⟩) fun y u hy hu=>?_)) (by rw [hk];rfl)
  ·obtain ⟨o,_,_,e,_⟩:=hn';rw [e];exact wav
  ·rcases hu with ⟨a,m2,n2,e2⟩ | ⟨a,c,e,hcc⟩
   ·exact .inl ⟨a,_,hn',(if_neg hy).trans ((wt6 hn n2 y).trans e2)⟩
   ·exact .inr ⟨a,c,e,hcc.sameBut hs (st.cL y c e)⟩
 ·refine wpAny_storeName_cell hk hl hc hcell fun h' hc' hs=>wpAny_point (k c h' s.toks hwc ⟨hs,?_,.inr ⟨x,hc⟩,⟨m,hn.sameBut hs (Ne.symm (st.cL x c hc))⟩,fun y c2 u e hcc=>?_⟩ (.inr ⟨.inl hl,c,hc,hc'⟩) fun y u hy hu=>?_)
  ·obtain ⟨o,e,_⟩:=hc';rw [e];exact wav
  ·by_cases q:c2=c
   ·subst q;exact ⟨_,hc'⟩
   ·exact ⟨u,hcc.sameBut hs q⟩
  ·rcases hu with ⟨a,m2,n2,e2⟩ | ⟨a,c2,e,hcc⟩
   ·exact .inl ⟨a,m2,n2.sameBut hs (Ne.symm (st.cL x c hc)),e2⟩
   ·exact .inr ⟨a,c2,e,hcc.sameBut hs (fun q=>hy (st.rel.eo.inj y x c2 e (q ▸ hc)))⟩
theorem wmt {W:Addr->Prop} (hw:W a₀) (hs:Heap.SameBut a₀ h h'):KeepBut W h h':=fun b o hb e=>hs.extBut b o (fun q=>hb (q ▸ hw)) e
theorem wvw {Q:Unit->Shared->Prop} (st:StRel C env F W B s.heap ss q) (hx:canSet ss x=true) (rv:Rep C F v d)
  (k:∀ s',KeepBut W s.heap s'.heap->Calm s s'->StRel C env F W B s'.heap ss (setq x (.fz d) q)->Q () s'):wpAny (model C.prog C.w) A (bindName env x v) Q E s:=
 wiU st hx fun a₀ h' tk hw g h1 h2=>k _ (wmt hw g.but) ⟨rfl,fun x=>x⟩ (st.bound (sl:=.fz d) hw ⟨g,h1,h2,rv,fun d e=>Slot.noConfusion e⟩ fun d e=>Slot.noConfusion e)
theorem bindNsE {P:Prop} {sc:Scope} {ts:List Expr} {ds:List D} {q q':QV} (h:bindNs sc ts ds q=some q') (f:ts=[]->ds=[]->q=q'->P)
  (g:∀ x p ts' d ds',ts=.Name x p::ts'->ds=d::ds'->canSet sc x=true->bindNs sc ts' ds' (setq x (.fz d) q)=some q'->P):P:=by
 cases ts with
 | nil=>cases ds with
  | nil=>exact f rfl rfl (Option.some.inj h)
  | cons=>exact noneE h
 | cons t ts=>cases ds with
  | nil=>exact noneE h
  | cons d ds=>
   obtain ⟨x,p,rfl,h⟩:=nameE h
   exact ifE h fun hx h=>g x p ts d ds rfl rfl hx h
theorem wjo {sc:Scope} {ts:List Expr}:∀ {ds:List D} {q q':QV},bindNs sc ts ds q=some q'->(assignEach ts env).length=ds.length/\(assignEach ts env).findIdx? (·.1)=none:=by
 induction ts with
 | nil=>intro ds q q' h;exact bindNsE h (fun _ e _=>by subst e;exact ⟨rfl,rfl⟩) fun _ _ _ _ _ e=>consE e
 | cons t ts ih=>
  intro ds q q' h
  refine bindNsE h (fun e=>consE e.symm) fun x p ts' d ds' e1 e2 _ h2=>?_
  clear h
  cases e1;subst e2
  obtain ⟨h1,h2⟩:=ih h2
  have e:assignEach (.Name x p::ts) env=(false,assign (.Name x p) env)::assignEach ts env:=rfl
  rw [e]
  exact ⟨congrArg Nat.succ h1,by rw [List.findIdx?_cons,h2];rfl⟩
structure Bindr (C:Fr) (A:Around) (env:Env) (ss:Scope) (F:FH) (P:QV->Shared->Prop):Prop where
 one:∀ {x v d q s} {Q:Unit->Shared->Prop} {E:Value->Shared->Prop},P q s->canSet ss x=true->Rep C F v d->(∀ s',P (setq x (.fz d) q) s'->Q () s')->wpAny (model C.prog C.w) A (bindName env x v) Q E s
 ext:∀ {q s h'},P q s->Keep s.heap h'->P q { s with heap:=h' }
 inn:∀ {q s},P q s->F.In s.heap
theorem wtT (s₀:Shared):Bindr C A env ss F fun q s=>KeepBut W s₀.heap s.heap/\Calm s₀ s/\StRel C env F W B s.heap ss q where
 one p hx rv k:=wvw p.2.2 hx rv fun s' k' c' st'=>k s' ⟨fun b o hb e=>k' b o hb (p.1 b o hb e),p.2.1.trans c',st'⟩
 ext {q s h'} p kp:=⟨fun b o hb e=>kp b o (p.1 b o hb e),⟨p.2.1.os,p.2.1.gens⟩,p.2.2.ext (s':={ s with heap:=h' }) (Ext.same p.2.2.rel.inn kp)⟩
 inn p:=p.2.2.rel.inn
variable {P:QV->Shared->Prop}
theorem wsm (bi:Bindr C A env ss F P) {Q:Unit->Shared->Prop} (ts:List Expr):∀ {ds:List D} {vs:List Value} {q q':QV} {s:Shared},P q s->bindNs ss ts ds q=some q'->RepAll C F ds vs ->
  (∀ s',P q' s'->Q () s')->wpAny (model C.prog C.w) A (assignInOrder ((assignEach ts env).map (·.2)) vs) Q E s:=by
 induction ts with
 | nil=>
  intro ds vs q q' s st h r k
  exact bindNsE h (fun _ e e'=>by subst e;subst e';cases r;exact wpAny_pure (k s st)) fun _ _ _ _ _ e=>consE e
 | cons t ts ih=>
  intro ds vs q q' s st h r k
  refine bindNsE h (fun e=>consE e.symm) fun x p ts' d ds' e1 e2 hx h2=>?_
  clear h
  cases e1;subst e2
  cases r with | mk r1 r2=>
  show wpAny _ _ (holding _ (assign (.Name x p) env _) >>= fun _=>assignInOrder ((assignEach ts env).map (·.2)) _) _ _ _
  exact wpAny_bind (wpAny_holding (wpEq (arm_assign_Name ..) (wpAny_bind (wpAny_standAt (bi.one st hx r1 fun sa stb=>ih stb h2 r2 k)))))
theorem bindTE {P:Prop} {α:Type} {r:α} {ss:Scope} {t:Expr} {d:D} {q:QV} {k:QV->Option α} (h:bindTQ ss t d q k=some r) (f:∀ x p,t=.Name x p->canSet ss x=true->k (setq x (.fz d) q)=some r->P)
  (g:∀ ts n p ds q',t=.Tuple ts n p->d=.tuple ds->bindNs ss ts ds q=some q'->k q'=some r->P):P:=by
 cases t<;>first | exact noneE h | skip
 ·exact ifE h fun hx h=>f _ _ rfl hx h
 ·exact tupE h fun l e h=>bindE (wt3 _ h) fun q' h1 h2=>g _ _ _ l q' rfl e h1 h2
theorem ItemRep.tup {ts:List Expr} {m:Nat} {p:Pos} {ds:List D} (r:ItemRep C F (.Tuple ts m p) h v (.tuple ds)) (i:F.In h):∃ T vals,v=.ref T/\h.IsTuple T vals/\RepAll C F ds vals.toList:=by
 rcases r with r | ⟨_,T,vals,xs,e1,e2,e3,e4⟩
 ·cases r with | mk e r=>exact ⟨_,_,rfl,weB (i _ _ e),r⟩
 ·cases e2;exact ⟨T,vals,e1,e3,e4⟩
noncomputable def Binds (ss:Scope) (t:Expr) (d:D) (q q':QV):Prop:=∀ ⦃α:Type⦄ ⦃k:QV->Option α⦄ ⦃r:α⦄,bindTQ ss t d q k=some r->k q'=some r
theorem wjl (bi:Bindr C A env ss F P) {α:Type} {r:α} {t:Expr} {k:QV->Option α} {Q:Unit->Shared->Prop} (hh:A.handled=none) (st:P q s) (h:bindTQ ss t d q k=some r) (ri:ItemRep C F t s.heap v d)
  (kk:∀ q',Binds ss t d q q'->(∃ ts ds,bindNs ss ts ds q=some q')->∀ s',P q' s'->Q () s'):wpAny (model C.prog C.w) A (assign t env v) Q E s:=
 bindTE h (fun x p e hx h2=>by
  clear h
  subst e
  rcases ri with ri | ⟨z,_⟩
  ·exact wpEq (arm_assign_Name ..) (wpAny_bind (wpAny_standAt (bi.one st hx ri (kk _ (fun _ _ _ h=>ifE h fun _ h=>h) ⟨[.Name x p],[d],if_pos hx⟩))))
  ·exact ffE z) fun ts m p ds q' e1 e2 h1 h2=>by
  clear h
  subst e1;subst e2
  obtain ⟨T,vals,rfl,hT,hr⟩:=ri.tup (bi.inn st)
  obtain ⟨g1,g2⟩:=wjo (env:=env) h1
  exact wpAny_assign_Tuple hh hT (by rw [g1,hr.size]) g2 fun h' hx=>
   wsm bi ts (s:={ s with heap:=h' }) (bi.ext st fun b o e=>hx b o (Nat.ne_of_lt (Heap.lt_size e)) e) h1 hr (kk _ (fun α k r h=>by have:=wt3 _ h;rw [h1]at this;exact this) ⟨ts,ds,h1⟩)
noncomputable def QLe (q q':QV):Prop:=∀ ⦃x sl⦄,lookq x q=some sl->lookq x q'=some sl
theorem StRel.less {q':QV} (st:StRel C env F W B h ss q') (le:QLe q q'):StRel C env F W B h ss q:=
 { st with rel:={ st.rel with vars:=fun hl=>st.rel.vars (le hl),own:=fun _ _ _ hl=>st.rel.own (le hl) },oB:=fun _ _ _ hl=>st.oB (le hl) }
noncomputable def Blind (ss:Scope) (q:QV):Prop:=∀ ⦃x⦄,canSet ss x=true->lookq x q=none
theorem wsl (ss:Scope) (q:QV):Blind ss (visq ss q):=fun x hx=>by
 cases e:lookq x (visq ss q) with
 | none=>rfl
 | some sl=>exact wmC e fun h _=>by unfold canSet at hx;rw [h]at hx;exact ffE hx
theorem wsn {q₀:QV} (bl:Blind ss q₀) (ts:List Expr):∀ {ds:List D} {q q':QV},QLe q₀ q->bindNs ss ts ds q=some q'->QLe q₀ q':=by
 induction ts with
 | nil=>intro ds q q' le h;exact bindNsE h (fun _ _ e=>e ▸ le) fun _ _ _ _ _ e=>consE e
 | cons t ts ih=>
  intro ds q q' le h
  refine bindNsE h (fun e=>consE e.symm) fun x p ts' d ds' e1 e2 hx h2=>?_
  cases e1
  refine ih (fun y sl hl=>?_) h2
  rw [wmB]
  rw [if_neg fun e=>by rw [<- eq_of_beq e,bl hx]at hl;exact noneE hl]
  exact le hl
theorem StRel.touch {P:Addr->Prop} (st:StRel C env F W B h ss q) (hk:∀ b o,¬ P b->h.get? b=some o->h'.get? b=some o)
  (h1:∀ b,P b->F b=none) (h2:∀ b,P b->¬ W b) (h3:∀ b,P b->¬ B b):StRel C env F W B h' ss q/\(∀ x v,Holds env h x v->Holds env h' x v)/\Still env h h' q q:=by
 have kW:∀ b o,W b->h.get? b=some o->h'.get? b=some o:=fun b o hw e=>hk b o (fun q=>h2 b q hw) e
 have kB:∀ b o,B b->h.get? b=some o->h'.get? b=some o:=fun b o hb e=>hk b o (fun q=>h3 b q hb) e
 have kC:∀ x c o,env.cells.lookup x=some c->h.get? c=some o->h'.get? c=some o:=fun x c o hc e=>(st.cB x c hc).elim (fun q=>kB c o q e) fun q=>kW c o q e
 have hold:∀ x v,Holds env h x v->Holds env h' x v:=by
  intro x v hh
  rcases hh with ⟨a,m,n,e⟩ | ⟨a,c,e,o,ho,hd⟩
  ·exact .inl ⟨a,m,n.at' fun o e=>kW _ o st.wL e,e⟩
  ·exact .inr ⟨a,c,e,o,kC x c o e ho,hd⟩
 have kt:∀ {x d v},lookq x q=some (.own d)->isVar env.scope x=true->Holds env h x v->∀ a∈tops h.get? v,∀ o,h.get? a=some o->¬ Tab0 o->h'.get? a=some o:=fun hl hv hh a ha o e _=>kB a o (st.oB hl hv hh a ha) e
 have z:=st.rel.still hold kt
 have al:∀ {b},(∀ o,h.get? b=some o->h'.get? b=some o)->h.get? b≠none->h'.get? b≠none:=fun {b} f e=>by
  cases q:h.get? b with
  | none=>exact absurd q e
  | some o=>rw [f o q];exact wav
 refine ⟨{
  rel:={
   eo:=st.rel.eo
   inn:=fun b o e=>hk b o (fun q=>by rw [h1 b q]at e;exact noneE e) (st.rel.inn b o e)
   vars:=fun {x sl} hl hv=>by
    obtain ⟨v,q1,q2⟩:=st.rel.vars hl hv
    refine ⟨v,hold x v q1,?_⟩
    cases sl with
    | fz d=>exact q2
    | own d=>exact Vw.gen (FH.le.refl F) d (kt hl hv q1) q2
   cin:=fun {x c} e=>al (fun o=>kC x c o e) (st.rel.cin e)
   own:=st.rel.own.mv z fun _=>id
   tab:=by obtain ⟨o,e,t⟩:=st.rel.tab;exact ⟨o,kB _ o st.tB e,t⟩
   ftab:=st.rel.ftab
   code:=st.rel.code }
  wF:=st.wF
  wIn:=fun b hb=>al (fun o=>kW b o hb) (st.wIn b hb)
  wL:=st.wL
  ns:=by obtain ⟨m,n⟩:=st.ns;exact ⟨m,n.at' fun o e=>kW _ o st.wL e⟩
  set:=fun y hy=>(st.set y hy).imp_right fun ⟨a,c,v,e,hw,o,ho,hd⟩=>⟨a,c,v,e,hw,o,kW c o hw ho,hd⟩
  cL:=st.cL
  cB:=st.cB
  oB:=st.oB.mv z fun _=>id
  tW:=st.tW
  tB:=st.tB },hold,z⟩
end
section
variable {C:Fr} {F F':FH} {A:Around} {E:Value->Shared->Prop} {s:Shared} {d:D} {env:Env} {q:QV} {n:Nat} {W B:Addr->Prop}
noncomputable def closL (env:Env):List (Str×NameKind)->List (Str×Addr)->List (Str×Addr)
 | [],acc=>acc
 | (x,k)::r,acc=>if k==.free then closL env r ((x,(env.cells.lookup x).getD 0)::acc) else closL env r acc
theorem whi:∀ (names:List (Str×NameKind)) (acc:List (Str×Addr)),(∀ x k,(x,k)∈names->k=.free->∃ c,env.cells.lookup x=some c) ->
  (forIn names acc fun (p:Str×NameKind) (cs:List (Str×Addr))=>(if (p.2==.free)=true then (do let c <- cellOf env p.1;pure (ForInStep.yield ((p.1,c)::cs))) else pure (ForInStep.yield cs):Sem (ForInStep (List (Str×Addr)))))=pure (closL env names acc)
 | [],acc,_=>by rw [List.forIn_nil];rfl
 | (x,k)::r,acc,h=>by
  have hr:∀ y k',(y,k')∈r->k'=.free->∃ c,env.cells.lookup y=some c:=fun y k' hm hk=>h y k' (List.mem_cons_of_mem _ hm) hk
  rw [List.forIn_cons]
  by_cases q:(k==NameKind.free)=true
  ·obtain ⟨c,hc⟩:=h x k List.mem_cons_self (by simpa using q)
   rw [if_pos q]
   have e:cellOf env x=pure c:=by unfold cellOf;rw [hc]
   rw [e,pure_bind,pure_bind]
   show forIn r ((x,c)::acc) _=_
   rw [whi r _ hr]
   simp only [closL,if_pos q,hc,Option.getD_some]
  ·rw [if_neg q,pure_bind]
   show forIn r acc _=_
   rw [whi r _ hr]
   simp only [closL,if_neg q]
theorem wgu {scope:Scope} (h:∀ x k,(x,k)∈scope.names->k=.free->∃ c,env.cells.lookup x=some c):closureFor scope env=pure (closL env scope.names []):=by
 unfold closureFor
 have:=whi scope.names [] h
 simp only [bind_pure]
 first | exact this | (simp only []at this ⊢;exact this)
theorem whj:∀ (names:List (Str×NameKind)) (acc:List (Str×Addr)),(∀ x k,(x,k)∈names->k=.free->∃ c,env.cells.lookup x=some c) ->
  (∀ p∈closL env names acc,p∈acc\/(env.cells.lookup p.1=some p.2/\(p.1,NameKind.free)∈names))/\(∀ p∈acc,p∈closL env names acc)/\(∀ x,(x,NameKind.free)∈names->∃ c,(x,c)∈closL env names acc/\env.cells.lookup x=some c)
 | [],acc,_=>⟨fun p hp=>.inl hp,fun p hp=>hp,fun x hx=>by simp at hx⟩
 | (x,k)::r,acc,h=>by
  have hr:∀ y k',(y,k')∈r->k'=.free->∃ c,env.cells.lookup y=some c:=fun y k' hm hk=>h y k' (List.mem_cons_of_mem _ hm) hk
  by_cases q:(k==NameKind.free)=true
  ·obtain ⟨c,hc⟩:=h x k List.mem_cons_self (by simpa using q)
   have qk:k=.free:=by simpa using q
   subst qk
   obtain ⟨h1,h2,h3⟩:=whj r ((x,c)::acc) hr
   have e:closL env ((x,NameKind.free)::r) acc=closL env r ((x,c)::acc):=by simp only [closL,if_pos q,hc,Option.getD_some]
   rw [e]
   refine ⟨fun p hp=>?_,fun p hp=>h2 p (List.mem_cons_of_mem _ hp),fun y hy=>?_⟩
   ·rcases h1 p hp with h1 | h1
    ·rcases List.mem_cons.mp h1 with rfl | h1
     ·exact .inr ⟨hc,List.mem_cons_self⟩
     ·exact .inl h1
    ·exact .inr ⟨h1.1,List.mem_cons_of_mem _ h1.2⟩
   ·rcases List.mem_cons.mp hy with e | hy
    ·cases e;exact ⟨c,h2 _ List.mem_cons_self,hc⟩
    ·exact h3 y hy
  ·obtain ⟨h1,h2,h3⟩:=whj r acc hr
   have e:closL env ((x,k)::r) acc=closL env r acc:=by simp only [closL,if_neg q]
   rw [e]
   refine ⟨fun p hp=>(h1 p hp).elim .inl fun h=>.inr ⟨h.1,List.mem_cons_of_mem _ h.2⟩,h2,fun y hy=>?_⟩
   rcases List.mem_cons.mp hy with e | hy
   ·cases e;simp at q
   ·exact h3 y hy
theorem wdR:∀ (names:List (Str×NameKind)) (acc:List (Str×Addr)),(closL env names acc).map (·.1)=((names.filter fun p=>p.2==.free).map (·.1)).reverse++acc.map (·.1)
 | [],acc=>by simp [closL]
 | (x,k)::r,acc=>by
  by_cases q:(k==NameKind.free)=true
  ·simp only [closL,if_pos q,wdR r,List.filter_cons,List.map_cons,List.reverse_cons]
   simp
  ·simp only [closL,if_neg q,wdR r,List.filter_cons,if_false]
theorem wca:∀ (names:List (Str×NameKind)) (nn:Nat) (acc:List (Str×Addr)),(cellsFrom nn names acc).map (·.1)=((names.filter fun p=>p.2==.cell).map (·.1)).reverse++acc.map (·.1)
 | [],nn,acc=>by simp [cellsFrom]
 | (x,k)::r,nn,acc=>by
  by_cases q:(k==NameKind.cell)=true
  ·simp only [cellsFrom,if_pos q,wca r,List.filter_cons,List.map_cons,List.reverse_cons]
   simp
  ·simp only [cellsFrom,if_neg q,wca r,List.filter_cons,if_false]
structure CellsF (h h':Heap) (names:List (Str×NameKind)) (acc cs:List (Str×Addr)):Prop where
 apart:cs.Pairwise fun x y=>x.2≠y.2
 inn:∀ p∈cs,h'.get? p.2≠none
 from':∀ p∈cs,p∈acc\/(h.objs.size<=p.2/\h'.IsCell p.2 none/\(p.1,NameKind.cell)∈names)
 all:∀ p∈acc,p∈cs
 own:∀ x,(x,NameKind.cell)∈names->∃ c,(x,c)∈cs/\h.objs.size<=c/\h'.IsCell c none
theorem wfB:∀ (names:List (Str×NameKind)) (h:Heap) (acc:List (Str×Addr)),(acc.Pairwise fun x y=>x.2≠y.2)->(∀ p∈acc,h.get? p.2≠none) ->
  CellsF h (pushCells h names) names acc (cellsFrom h.objs.size names acc)
 | [],h,acc,ha,hi=>⟨ha,hi,fun p hp=>.inl hp,fun p hp=>hp,fun x hx=>by simp at hx⟩
 | (x,k)::r,h,acc,ha,hi=>by
  by_cases q:(k==NameKind.cell)=true
  ·have qk:k=.cell:=by simpa using q
   subst qk
   have lt:∀ p∈acc,p.2<h.objs.size:=fun p hp=>by
    cases e:h.get? p.2 with
    | none=>exact absurd e (hi p hp)
    | some o=>exact Heap.lt_size e
   have hk:Keep h (h.push { cls:=.type "cell",data:=.cell none }):=Keep.push _ _
   have ih:=wfB r (h.push { cls:=.type "cell",data:=.cell none }) ((x,h.objs.size)::acc)
    (List.pairwise_cons.mpr ⟨fun y hy=>Ne.symm (Nat.ne_of_lt (lt y hy)),ha⟩) (fun p hp=>by
     rcases List.mem_cons.mp hp with rfl | hp
     ·rw [Heap.get?_push_size _ rfl];simp
     ·cases e:h.get? p.2 with
      | none=>exact absurd e (hi p hp)
      | some o=>rw [hk _ _ e];simp)
   rw [Heap.size_push]at ih
   have e1:pushCells h ((x,NameKind.cell)::r)=pushCells (h.push { cls:=.type "cell",data:=.cell none }) r:=by simp [pushCells]
   have e2:cellsFrom h.objs.size ((x,NameKind.cell)::r) acc=cellsFrom (h.objs.size+1) r ((x,h.objs.size)::acc):=by simp [cellsFrom]
   rw [e1,e2]
   have hc:(pushCells (h.push { cls:=.type "cell",data:=.cell none }) r).IsCell h.objs.size none:=⟨_,pushCells_keeps r _ _ _ (Heap.get?_push_size _ rfl),rfl⟩
   refine ⟨ih.apart,ih.inn,fun p hp=>?_,fun p hp=>ih.all p (List.mem_cons_of_mem _ hp),fun y hy=>?_⟩
   ·rcases ih.from' p hp with h1 | ⟨h1,h2,h3⟩
    ·rcases List.mem_cons.mp h1 with rfl | h1
     ·exact .inr ⟨Nat.le_refl _,hc,List.mem_cons_self⟩
     ·exact .inl h1
    ·rw [Heap.size_push]at h1
     exact .inr ⟨Nat.le_of_succ_le h1,h2,List.mem_cons_of_mem _ h3⟩
   ·rcases List.mem_cons.mp hy with e | hy
    ·cases e;exact ⟨_,ih.all _ List.mem_cons_self,Nat.le_refl _,hc⟩
    ·obtain ⟨c,c1,c2,c3⟩:=ih.own y hy
     rw [Heap.size_push]at c2
     exact ⟨c,c1,Nat.le_of_succ_le c2,c3⟩
  ·have ih:=wfB r h acc ha hi
   have e1:pushCells h ((x,k)::r)=pushCells h r:=by simp only [pushCells,if_neg q]
   have e2:cellsFrom h.objs.size ((x,k)::r) acc=cellsFrom h.objs.size r acc:=by simp only [cellsFrom,if_neg q]
   rw [e1,e2]
   refine ⟨ih.apart,ih.inn,fun p hp=>(ih.from' p hp).elim .inl fun h=>.inr ⟨h.1,h.2.1,List.mem_cons_of_mem _ h.2.2⟩,ih.all,fun y hy=>?_⟩
   rcases List.mem_cons.mp hy with e | hy
   ·cases e;simp at q
   ·exact ih.own y hy
theorem wbu {β:Type}:∀ {l:List (Str×β)} {x:Str} {b:β},(l.map (·.1)).Nodup->(x,b)∈l->l.lookup x=some b
 | (y,c)::r,x,b,hn,hm=>by
  rw [List.map_cons,List.nodup_cons]at hn
  rcases List.mem_cons.mp hm with e | hm
  ·cases e;simp
  ·have:x≠y:=fun q=>hn.1 (List.mem_map.mpr ⟨_,hm,q⟩)
   rw [List.lookup_cons,show (x==y)=false by simpa using this]
   exact wbu hn.2 hm
theorem mem_lookup {β:Type}:∀ {l:List (Str×β)} {x:Str} {b:β},l.lookup x=some b->(x,b)∈l
 | (y,c)::r,x,b,h=>by
  rw [List.lookup_cons]at h
  by_cases q:(x==y)=true
  ·simp only [q,Option.some.injEq]at h;rw [<- h,eq_of_beq q];exact List.mem_cons_self
  ·simp only [q]at h;exact List.mem_cons_of_mem _ (mem_lookup h)
theorem woB {β:Type} {l:List (Str×β)} (hn:(l.map (·.1)).Nodup) {x:Str} {b c:β} (h1:(x,b)∈l) (h2:(x,c)∈l):b=c:=by
 have:=wbu hn h1;rw [wbu hn h2]at this;exact (Option.some.inj this).symm
theorem wtL {names:List (Str×NameKind)} (hn:(names.map (·.1)).Nodup) (nn:Nat):((cellsFrom nn names (closL env names [])).map (·.1)).Nodup:=by
 rw [wca,wdR]
 have sub:∀ p:Str×NameKind->Bool,((names.filter p).map (·.1)).Nodup:=fun p=>hn.sublist (List.filter_sublist.map _)
 rw [List.map_nil,List.append_nil]
 have rev:∀ l:List Str,l.Nodup->l.reverse.Nodup:=fun l h=>(List.reverse_perm l).symm.nodup_iff.mp h
 refine List.nodup_append.mpr ⟨rev _ (sub _),rev _ (sub _),fun a ha b hb q=>?_⟩
 subst q
 rw [List.mem_reverse,List.mem_map]at ha hb
 obtain ⟨⟨x,k⟩,h1,rfl⟩:=ha
 obtain ⟨⟨y,k'⟩,h2,e⟩:=hb
 dsimp only at e;subst e
 rw [List.mem_filter]at h1 h2
 have:=woB hn h1.1 h2.1
 subst this
 have e1:k=.cell:=by simpa using h1.2
 have e2:k=.free:=by simpa using h2.2
 rw [e1]at e2;cases e2
theorem wc4 {scope sc:Scope} {x:Str}:(relab scope sc).names.lookup x=(scope.names.lookup x).map fun k=>if (k==.free&&sc.kind==.function&&sc.names.lookup x==some .cell) then .cell else k:=by
 have key:∀ l:List (Str×NameKind),(l.map fun p=>if (p.2==NameKind.free&&sc.kind==ScopeKind.function&&sc.names.lookup p.1==some NameKind.cell) then (p.1,NameKind.cell) else (p.1,p.2)).lookup x =
   (l.lookup x).map fun k=>if (k==NameKind.free&&sc.kind==ScopeKind.function&&sc.names.lookup x==some NameKind.cell) then NameKind.cell else k:=by
  intro l
  induction l with
  | nil=>rfl
  | cons p l ih=>
   obtain ⟨y,k⟩:=p
   rw [List.map_cons]
   by_cases q:(x==y)=true
   ·have e:x=y:=eq_of_beq q
    subst e
    by_cases h:(k==NameKind.free&&sc.kind==ScopeKind.function&&sc.names.lookup x==some NameKind.cell)=true
    ·rw [if_pos h,List.lookup_cons,List.lookup_cons,q]
     show some NameKind.cell=some (if _ then _ else _)
     rw [if_pos h]
    ·rw [if_neg h,List.lookup_cons,List.lookup_cons,q]
     show some k=some (if _ then _ else _)
     rw [if_neg h]
   ·have hq:(x==y)=false:=by simpa using q
    by_cases h:(k==NameKind.free&&sc.kind==ScopeKind.function&&sc.names.lookup y==some NameKind.cell)=true
    ·rw [if_pos h,List.lookup_cons,List.lookup_cons,hq];exact ih
    ·rw [if_neg h,List.lookup_cons,List.lookup_cons,hq];exact ih
 exact key scope.names
structure ScOk (scope sc:Scope):Prop where
 kind:scope.kind=.function
 nodup:(scope.names.map (·.1)).Nodup
 free:∀ x,(x,NameKind.free)∈scope.names->sc.names.lookup x=some .cell\/sc.names.lookup x=some .free
 gk:scope.names.lookup gk≠some .local
theorem we9:∀ {xs:List Str},nodupB xs=true->xs.Nodup
 | [],_=>List.nodup_nil
 | x::xs,h=>by
  simp only [nodupB,Bool.and_eq_true,Bool.not_eq_true']at h
  refine List.nodup_cons.mpr ⟨fun q=>?_,we9 h.2⟩
  have:=List.contains_iff_mem.mpr q
  rw [h.1]at this;cases this
theorem woR {scope sc:Scope} (h:scOk scope sc=true):ScOk scope sc where
 kind:=by
  simp only [scOk,Bool.and_eq_true]at h
  exact eq_of_beq h.1.1.1
 nodup:=by
  simp only [scOk,Bool.and_eq_true]at h
  exact we9 h.1.1.2
 free:=fun x hx=>by
  simp only [scOk,Bool.and_eq_true,List.all_eq_true]at h
  have:=h.1.2 _ hx
  simp only [bne_self_eq_false,Bool.false_or,Bool.or_eq_true]at this
  exact this.imp eq_of_beq eq_of_beq
 gk:=by
  simp only [scOk,Bool.and_eq_true]at h
  intro q
  rw [q]at h
  exact absurd h.2 (by decide)
theorem ScOk.hnm {scope sc:Scope} (ok:ScOk scope sc):∀ x∈scope.names,x.2=.local->scope.names.lookup x.1=some .local:=fun x hx hl=>by
 have:=wbu (x:=x.1) (b:=x.2) ok.nodup hx
 rw [this,hl]
end
section
variable {C:Fr} {F F':FH} {A:Around} {E:Value->Shared->Prop} {s:Shared} {d:D} {env:Env} {q:QV} {n:Nat} {W B:Addr->Prop}
theorem relabE {P:Prop} {scope sc:Scope} {x:Str} (h:(relab scope sc).names.lookup x=some .cell\/(relab scope sc).names.lookup x=some .free) (f:scope.names.lookup x=some .cell->P) (g:scope.names.lookup x=some .free->P):P:=by
 rw [wc4]at h
 cases q:scope.names.lookup x with
 | none=>rw [q]at h;exact h.elim noneE noneE
 | some k=>
  rw [q]at h
  cases k with
  | cell=>exact f q
  | free=>exact g q
  | _=>exact h.elim (fun e=>absurd (Option.some.inj e) (by intro e;cases e)) fun e=>absurd (Option.some.inj e) (by intro e;cases e)
theorem wos {scope sc:Scope} {x:Str} (h:(relab scope sc).names.lookup x=some .local):scope.names.lookup x=some .local:=by
 rw [wc4]at h
 cases q:scope.names.lookup x with
 | none=>rw [q]at h;exact noneE h
 | some k=>
  rw [q]at h
  have h:(if (k==.free&&sc.kind==.function&&sc.names.lookup x==some .cell)=true then NameKind.cell else k)=.local:=Option.some.inj h
  split at h
  ·cases h
  ·rw [h]
structure BlkC (scope:Scope) (env:Env) (h h':Heap) (L:Addr) (cs:List (Str×Addr)):Prop where
 inj:∀ x y c,cs.lookup x=some c->cs.lookup y=some c->x=y
 cin:∀ {x c},cs.lookup x=some c->h'.get? c≠none
 from':∀ {x c},cs.lookup x=some c->env.cells.lookup x=some c\/(h.get? c=none/\c≠L)
 own:∀ x,scope.names.lookup x=some .cell->∃ c,cs.lookup x=some c/\(h.get? c=none/\c≠L)/\h'.IsCell c none
 free:∀ x,scope.names.lookup x=some .free->∃ c,cs.lookup x=some c/\env.cells.lookup x=some c
theorem wvv {scope:Scope} (ok:ScOk scope env.scope) (rl:RelR C env F s.heap q) {F₀:FH} {hH h':Heap} (rl0:RelR C env F₀ hH q) (k₀:KeepT hH s.heap) {cenv:Env} (kk:Keep s.heap h') (hC:s.heap.get? cenv.locals=none) (inC:h'.get? cenv.locals≠none) (nsC:∃ m,h'.Ns cenv.locals m)
  (b:BlkC scope env s.heap h' cenv.locals cenv.cells) (hsc:cenv.scope=relab scope env.scope) (hg:cenv.globals=env.globals) (hb:cenv.builtins=env.builtins):StRel C cenv F (fun b=>s.heap.get? b=none/\h'.get? b≠none) (fun b=>hH.get? b≠none) h' scope (visq scope q):=by
 have cfree:∀ x,scope.names.lookup x=some .free->cenv.scope.names.lookup x=some .cell\/cenv.scope.names.lookup x=some .free:=fun x hx=>by
  rw [hsc,wc4,hx]
  by_cases q:(NameKind.free==.free&&env.scope.kind==.function&&env.scope.names.lookup x==some .cell)=true
  ·exact .inl (congrArg some (if_pos q))
  ·exact .inr (congrArg some (if_neg q))
 have holds:∀ x v,scope.names.lookup x=some .free->Holds env s.heap x v->Holds cenv h' x v:=fun x v hx hh=>by
  obtain ⟨c,h1,h2⟩:=b.free x hx
  rcases hh with ⟨a,_⟩ | ⟨_,c',e,o,ho,hd⟩
  ·exact (wi5 a (ok.free x (mem_lookup hx))).elim
  ·have e:=Option.some.inj (h2.symm.trans e);subst e
   exact .inr ⟨cfree x hx,c,h1,o,kk _ _ ho,hd⟩
 have outer:∀ {P:Prop} {x sl},lookq x (visq scope q)=some sl->isVar cenv.scope x=true->(∀ v,Holds env s.heap x v->SlotOk C s.heap F v sl->scope.names.lookup x=some .free->lookq x q=some sl->isVar env.scope x=true->P)->P:=fun hl hv f=>wmC hl fun h1 h2=>by
  have hv':=wqC (wdO hv).1 (wdO hv).2 (ok.free _ (mem_lookup h1))
  obtain ⟨v,h3,h4⟩:=rl.vars h2 hv'
  exact f v h3 h4 h1 h2 hv'
 have inner:∀ {P:Prop} {x d v},lookq x (visq scope q)=some (.own d)->isVar cenv.scope x=true->Holds cenv h' x v->(Holds env s.heap x v->View C s.heap F v d->lookq x q=some (.own d)->isVar env.scope x=true->tops h'.get? v=tops s.heap.get? v->P)->P:=fun hl hv hh f=>outer hl hv fun v' h1 h2 h3 h4 h5=>by
  have e:=hh.fn (holds _ v' h3 h1);subst e
  exact f h1 h2 h4 h5 (wcR h2 fun a _ o e=>kk a o e)
 exact {
  rel:={
   eo:=⟨by rw [hsc];exact ok.kind,hg.trans rl.eo.glob,hb.trans rl.eo.bi,fun x hx=>by
    rw [hsc]at hx
    exact relabE hx (fun h=>let ⟨c,h1,_⟩:=b.own x h;⟨c,h1⟩) fun h=>let ⟨c,h1,_⟩:=b.free x h;⟨c,h1⟩,b.inj⟩
   inn:=fun b o e=>kk b o (rl.inn b o e)
   vars:=fun {x sl} hl hv=>outer hl hv fun v h1 h2 h3 _ _=>⟨v,holds x v h3 h1,by
    cases sl with
    | fz d=>exact h2
    | own d=>exact Vw.mono h2 kk (FH.le.refl F)⟩
   cin:=b.cin
   own:=fun x d v hl hv hh a ha=>inner hl hv hh fun h1 h2 h3 h4 h5=>by
    have hex:=Vw.alive h2 (h5 ▸ ha)
    refine ⟨fun q=>hex (q ▸ hC),fun y c hy=>?_⟩
    rcases b.from' hy with h | h
    ·exact (rl.own h3 h4 h1 a (h5 ▸ ha)).2 y c h
    ·intro q;exact hex (q ▸ h.1)
   tab:=by obtain ⟨o,e,t⟩:=rl.tab;exact ⟨o,kk _ _ e,t⟩
   ftab:=rl.ftab
   code:=fun z=>absurd (wos (hsc ▸ z)) ok.gk }
  wF:=fun b hb=>noneF rl.inn hb.1
  wIn:=fun b hb=>hb.2
  wL:=⟨hC,inC⟩
  ns:=nsC
  set:=fun x hx=>by
   unfold canSet at hx
   rw [hsc,wc4]
   cases q:scope.names.lookup x with
   | none=>rw [q]at hx;exact ffE hx
   | some kx=>
    rw [q]at hx
    cases kx with
    | «local»=>exact .inl rfl
    | cell=>obtain ⟨c,h1,h2,h3⟩:=b.own x q;exact .inr ⟨rfl,c,none,h1,⟨h2.1,b.cin h1⟩,h3⟩
    | _=>exact ffE hx
  cL:=fun x c hx=>(b.from' hx).elim (fun h q=>rl.cin h (q ▸ hC)) fun h=>h.2
  cB:=fun x c hx=>(b.from' hx).elim (fun h=>.inl (rl0.cin h)) fun h=>.inr ⟨h.1,b.cin hx⟩
  oB:=fun x d v hl hv hh a ha=>inner hl hv hh fun h1 h2 h3 h4 h5=>by
   obtain ⟨vg,g1,g2⟩:=rl0.vars h3 h4
   have e:=h1.fn (g1.keep k₀);subst e
   have g2':View C hH F₀ v d:=g2
   rw [h5,wgc g2' fun a _ o e n=>k₀.at_ a o e n]at ha
   exact Vw.alive g2' ha
  tW:=fun q=>by obtain ⟨o,e,_⟩:=rl.tab;exact noneE (q.1.symm.trans e)
  tB:=by obtain ⟨o,e,_⟩:=rl0.tab;rw [e];exact wav }
theorem woD {scope:Scope} {Q:Env->Shared->Prop} (ok:ScOk scope env.scope) (rl:RelR C env F s.heap q) {F₀:FH} {hH:Heap} (rl0:RelR C env F₀ hH q) (k₀:KeepT hH s.heap)
  (k:∀ cenv s',Keep s.heap s'.heap->Calm s s'->s.heap.get? cenv.locals=none->StRel C { cenv with scope:=relab scope env.scope } F (fun b=>s.heap.get? b=none/\s'.heap.get? b≠none) (fun b=>hH.get? b≠none) s'.heap scope (visq scope q)->Q cenv s') :
  wpAny (model C.prog C.w) A (newFunctionEnv scope env.globals (closL env scope.names []) [] env.qual none .none (some env)) Q E s:=by
 have hfree:∀ x k,(x,k)∈scope.names->k=.free->∃ c,env.cells.lookup x=some c:=fun x k hm hk=>rl.eo.cells x (ok.free x (hk ▸ hm))
 obtain ⟨c1,c2,c3⟩:=whj (env:=env) scope.names [] hfree
 have c1':∀ p∈closL env scope.names [],env.cells.lookup p.1=some p.2:=fun p hp=>(c1 p hp).elim (fun h=>memE h) fun h=>h.1
 simp only [newFunctionEnv,Option.isSome_some,if_true]
 refine wpAny_bind (wpAny_alloc (wpAny_bind (wpAny_layCells _ (fun name kind cells=>by cases hkc:kind==NameKind.cell<;>simp [hkc]) _ _ _ _ ?_)))
 simp only [List.forIn_nil]
 refine wpAny_bind (wpAny_pure (wpAny_pure ?_))
 have kp:Keep s.heap (s.heap.push { cls:=.type "dict",data:=.dict #[] }):=Keep.push _ _
 have kp2:Keep (s.heap.push { cls:=.type "dict",data:=.dict #[] }) (pushCells (s.heap.push { cls:=.type "dict",data:=.dict #[] }) scope.names):=fun b o e=>pushCells_keeps _ _ b o e
 refine k _ _ (kp.trans kp2) ⟨rfl,fun x=>x⟩ (get?_size _) (wvv ok rl rl0 k₀ (kp.trans kp2) (get?_size _) (by show Heap.get? _ s.heap.objs.size≠none;rw [kp2 _ _ (Heap.get?_push_size _ rfl)];exact wav) ⟨_,(Heap.Ns.new s.heap (.type "dict")).keeps (pushCells_keeps _ _)⟩ ?_ rfl rfl rfl)
 have hapart:(closL env scope.names []).Pairwise fun x y=>x.2≠y.2:=by
  have hnd:((closL env scope.names []).map (·.1)).Nodup:=by
   rw [wdR,List.map_nil,List.append_nil]
   exact (List.reverse_perm _).symm.nodup_iff.mp (ok.nodup.sublist (List.filter_sublist.map _))
  revert hnd c1'
  generalize closL env scope.names []=l
  intro c1' hnd
  clear c1 c2 c3 k k₀ rl0 kp kp2
  induction l with
  | nil=>exact .nil
  | cons p l ih=>
   rw [List.map_cons,List.nodup_cons]at hnd
   exact .cons (fun q hq e=>hnd.1 (List.mem_map.mpr ⟨q,hq,(rl.eo.inj _ _ _ (c1' p List.mem_cons_self) (e ▸ c1' q (List.mem_cons_of_mem _ hq))).symm⟩)) (ih (fun q hq=>c1' q (List.mem_cons_of_mem _ hq)) hnd.2)
 have CF:=wfB scope.names (s.heap.push { cls:=.type "dict",data:=.dict #[] }) (closL env scope.names []) hapart (fun p hp=>by
  cases e:s.heap.get? p.2 with
  | none=>exact absurd e (rl.cin (c1' p hp))
  | some o=>rw [kp _ _ e];exact wav)
 have hcsn:=wtL (env:=env) ok.nodup (s.heap.push { cls:=.type "dict",data:=.dict #[] }).objs.size
 have fresh:∀ c,(s.heap.push { cls:=.type "dict",data:=.dict #[] }).objs.size<=c->s.heap.get? c=none/\c≠s.heap.objs.size:=fun c hc=>by
  rw [Heap.size_push]at hc
  exact ⟨Heap.get?_none_of_le (Nat.le_of_succ_le hc),Nat.ne_of_gt hc⟩
 exact ⟨fun x y c h1 h2=>name_of_addr CF.apart (mem_lookup h1) (mem_lookup h2),fun h1=>CF.inn _ (mem_lookup h1),fun h1=>(CF.from' _ (mem_lookup h1)).imp (fun h=>c1' _ h) fun h=>fresh _ h.1,
  fun x hx=>let ⟨c,h1,h2,h3⟩:=CF.own x (mem_lookup hx);⟨c,wbu hcsn h1,fresh c h2,h3⟩,fun x hx=>let ⟨c,h1,h2⟩:=c3 x (mem_lookup hx);⟨c,wbu hcsn (CF.all _ h1),h2⟩⟩
end
section
variable {C:Fr} {F F':FH} {A:Around} {E:Value->Shared->Prop} {s:Shared} {d:D} {env:Env} {ss:Scope} {q:QV} {n:Nat} {W B:Addr->Prop} {K:KJ}
theorem wop {Q:Bool->Shared->Prop} (ifs:List Expr) (h:Q false s) :
  wpAny (model C.prog C.w) A (forIn ifs false fun c r=>if r=true then do let ok <- isTrue c env (eval c env);pure (ForInStep.yield ok) else pure (ForInStep.yield r)) Q E s:=by
 induction ifs with
 | nil=>rw [List.forIn_nil];exact wpAny_pure h
 | cons c cs ih=>
  rw [List.forIn_cons]
  exact wpAny_bind (wpAny_pure ih)
theorem wsD (S:SoundTr C n K.tr) {Q:Bool->Shared->Prop} (ifs:List Expr):∀ {b:Bool} {F:FH} {s:Shared},Ok C A n env q F s->trAllQ K env.scope q ifs=some b->(∀ s' F',Ext F s F' s'->Q b s') ->
  wpAny (model C.prog C.w) A (forIn ifs true fun c r=>if r=true then do let ok <- isTrue c env (eval c env);pure (ForInStep.yield ok) else pure (ForInStep.yield r)) Q E s:=by
 induction ifs with
 | nil=>intro b F s X h k;cases h;rw [List.forIn_nil];exact wpAny_pure (k s F X.here)
 | cons c cs ih=>
  intro b F s X h k
  rw [List.forIn_cons]
  refine wpAny_bind (wpAny_bind (S X h fun x h sa F1 xa=>wpAny_pure ?_))
  cases x with
  | true=>exact ih (X.ext xa) h fun s' F' y=>k s' F' (xa.trans y)
  | false=>cases h;exact wop cs (k sa F1 xa)
structure Gather (C:Fr) (D1:Addr) {β:Type} (Acc:FH->Heap->β->Prop):Prop where
 ext:∀ {F F' s s' a},Acc F s.heap a->Ext F s F' s'->Acc F' s'.heap a
 at_:∀ {F h h' a},Acc F h a->(∀ o,h.get? D1=some o->h'.get? D1=some o)->Acc F h' a
 inn:∀ {F h a},Acc F h a->h.get? D1≠none
structure Grd (C:Fr) (env:Env) (W B:Addr->Prop) (F₀ Fb:FH) (s₀:Shared) (wr:List Addr) (D1:Addr) (F:FH) (s:Shared):Prop where
 le:F₀.le F
 x:Ext Fb s₀ F s
 wF:∀ b∈wr,F b=none
 dF:F D1=none
noncomputable def StepOk (C:Fr) (A:Around) (env:Env) (W B:Addr->Prop) (ss:Scope) (t:Expr) (q₀:QV) (D1:Addr) (Fb:FH) (s₀:Shared) {β:Type} (Acc:FH->Heap->β->Prop) (step:Sem Unit) (d:D) (a a':β):Prop:=
 ∀ ⦃q':QV⦄ ⦃F:FH⦄ ⦃s:Shared⦄ ⦃Q:Unit->Shared->Prop⦄ ⦃E:Value->Shared->Prop⦄,Binds ss t d q₀ q'->StRel C env F W B s.heap ss q'->Ext Fb s₀ F s->F D1=none->Acc F s.heap a ->
  (∀ sa F1 h tk,Ext F s F1 sa->F1 D1=none->Heap.SameBut D1 sa.heap h->Acc F1 h a'->Q () { sa with heap:=h,toks:=tk })->wpAny (model C.prog C.w) A step Q E s
theorem wsa {ce tgt iter:Expr} {ifs:List Expr} {I D1:Addr} {fp wr:List Addr} {P Md:Nat->Value->Heap->Prop} {St:Nat->Heap->Prop} {ds:List D} {F₀ Fb:FH} {s₀:Shared} {Src:Addr->Prop} {R:Result->Shared->Prop} {hJ:Heap} {q₀:QV} {β:Type} {Acc:FH->Heap->β->Prop} {step:Sem Unit}
  (hT:compTurn ce 0 (.ref I) (.ref D1) env=(do
   standAt iter.pos
   match <- pyNext (.ref I) with
   | none=>pure (.done .next)
   | some v=>
    letOwnedTupleGo tgt (.ref I) v
    assign tgt env v
    let mut ok:=true
    for c in ifs do
     if ok then ok <- isTrue c env (eval c env)
    if ok then step
    again (.compLoop ce 0 (.ref I) (.ref D1) env)))
  (hC:∀ s,wpAny (model C.prog C.w) A ((compTurn ce 0 (.ref I) (.ref D1) env).onRaise (fun x=>do noteFrame x env;theTreesLotGoes x)) (fun fin s'=>match fin with | .done f=>R (.ok f) s' | .again c'=>c'.quiet=true/\codeAny (model C.prog C.w) A c' R s') (fun e s'=>R (.error e) s') s ->
   codeAny (model C.prog C.w) A (.compLoop ce 0 (.ref I) (.ref D1) env) R s)
  (Str:SoundTr C n K.tr) (Rm:Room A n) (g:Gd C Fb) (G:Gather C D1 Acc) (T:Turns C Src F₀ s₀.heap tgt I ds hJ fp wr P Md St)
  (hfW:∀ b∈fp,¬ W b) (hDf:D1 ∉ fp) (hD0:s₀.heap.get? D1=none) (hDW:¬ W D1) (hB:∀ b,B b->s₀.heap.get? b≠none) (hW0:∀ b,W b->s₀.heap.get? b=none) (bl:Blind ss q₀)
  {run:List D->β->Option β} (r0:∀ {a a'},run [] a=some a'->a=a')
  (rs:∀ {d ds a res},run (d::ds) a=some res->∃ b,(bindTQ ss tgt d q₀ fun q'=>trAllQ K env.scope q' ifs)=some b/\(b=false/\run ds a=some res\/b=true/\∃ a',StepOk C A env W B ss tgt q₀ D1 Fb s₀ Acc step d a a'/\run ds a'=some res)) {res:β}
  (hR:∀ s' F',Ext Fb s₀ F' s'->F' D1=none->Acc F' s'.heap res->(∃ m,s'.heap.Ns env.locals m)->F' env.locals=none->R (.ok .next) s') :
  ∀ (k i:Nat) {s:Shared} {F:FH} {a:β},ds.length - i=k->i<=ds.length->St i s.heap->Grd C env W B F₀ Fb s₀ wr D1 F s->StRel C env F W B s.heap ss q₀->Acc F s.heap a->run (ds.drop i) a=some res ->
   codeAny (model C.prog C.w) A (.compLoop ce 0 (.ref I) (.ref D1) env) R s:=by
 have KT:=T.kt A Rm.handled
 have hwW:∀ b∈wr,¬ W b:=fun b hb=>hfW b (KT.sub b hb)
 have hDw:D1 ∉ wr:=fun q=>hDf (KT.sub _ q)
 have wB:∀ b∈wr,¬ B b:=fun b hb q=>hB b q (T.new b hb)
 have live:∀ {i:Nat} {h:Heap},St i h->∀ b∈fp,h.get? b≠none:=fun {i h} st b hb=>by obtain ⟨o,e,_⟩:=T.alive _ _ st b hb;rw [e];exact wav
 have fr:∀ {i:Nat} {h h':Heap},St i h->KeepT h h'->St i h':=fun {i h h'} st k=>KT.frame _ _ _ st fun b hb o e=>k.at_ b o e (by
  obtain ⟨o',e',n⟩:=T.alive _ _ st b hb
  have e:=Option.some.inj (e.symm.trans e');subst e;exact n)
 intro k
 induction k with
 | zero=>
  intro i s F a hk hi hst gr st ac hc
  have hin:i=ds.length:=Nat.le_antisymm hi (leSub hk)
  subst hin
  rw [List.drop_of_length_le (Nat.le_refl _)]at hc
  have e:=r0 hc;subst e
  refine hC _ (wpAny_noted ?_)
  rw [hT]
  refine wpAny_bind (wpAny_standAt (wpAny_bind (KT.done s _ _ hst fun h' tk hk'=>wpAny_pure ?_)))
  have st':=(st.touch (P:=fun b=>b∈wr) hk' gr.wF hwW wB).1
  exact hR _ F ⟨gr.x.le,st'.rel.inn,gr.x.keep.but (P:=fun b=>b∈wr) T.new hk',gr.x.new,⟨gr.x.calm.os,gr.x.calm.gens⟩⟩ gr.dF (G.at_ ac fun o e=>hk' _ o hDw e) st'.ns (st'.wF _ st'.wL)
 | succ k ih=>
  intro i s F a hk hi hst gr st ac hc
  have hlt:i<ds.length:=ltSub hk
  rw [List.drop_eq_getElem_cons hlt]at hc
  obtain ⟨b,c1,c2⟩:=rs hc
  clear hc rs r0 hR
  refine hC _ (wpAny_noted ?_)
  rw [hT]
  refine wpAny_bind (wpAny_standAt (wpAny_bind (KT.item i s _ _ hlt hst fun v hX tk1 hMd hkd=>wpAny_bind (KT.go i v _ _ _ hMd fun hJ hPv hst2 hka=>?_))))
  have hka:∀ b o,¬ b∈wr->s.heap.get? b=some o->hJ.get? b=some o:=fun b o q e=>hka b o q (hkd b o q e)
  have sta:=(st.touch (P:=fun b=>b∈wr) hka gr.wF hwW wB).1
  have xb:Ext Fb s₀ F { s with heap:=hJ,toks:=tk1 }:=⟨gr.x.le,sta.rel.inn,gr.x.keep.but (P:=fun b=>b∈wr) T.new hka,gr.x.new,⟨gr.x.calm.os,gr.x.calm.gens⟩⟩
  have ac2:Acc F hJ a:=G.at_ ac fun o e=>hka _ o hDw e
  obtain ⟨d',hd',hit⟩:=T.rep i v _ hPv
  rw [List.getElem?_eq_getElem hlt]at hd'
  cases hd'
  refine wpAny_bind (wjl (wtT { s with heap:=hJ,toks:=tk1 }) (s:={ s with heap:=hJ,toks:=tk1 }) Rm.handled ⟨fun _ _ _ e=>e,.refl _,sta⟩ c1 (hit.mono gr.le) fun q' bd ⟨ts,ds',hbn⟩ sd ⟨kc,ca,st3⟩=>?_)
  have xc:Ext Fb s₀ F sd:=⟨xb.le,st3.rel.inn,xb.keep.but hW0 kc,xb.new,xb.calm.trans ca⟩
  have ac3:Acc F sd.heap a:=G.at_ ac2 fun o e=>kc _ o hDW e
  have s₃t:=KT.frame _ _ _ hst2 fun b hb o e=>kc b o (hfW b hb) e
  have le:=wsn bl ts (fun _ _ h=>h) hbn
  refine wpAny_bind (wsD Str ifs ⟨Rm,g.mono xc.le,st3.rel⟩ (bd c1) fun se F4 xf=>?_)
  have gr4:Grd C env W B F₀ Fb s₀ wr D1 F4 se:=⟨gr.le.trans xf.le,xc.trans xf,fun b hb=>xf.still (gr.wF b hb) (live s₃t b (KT.sub b hb)),xf.still gr.dF (G.inn ac3)⟩
  have st4:=st3.ext xf
  have s₄t:=fr s₃t xf.keep
  have ac4:=G.ext ac3 xf
  rcases c2 with ⟨rfl,c3⟩ | ⟨rfl,a',sk,c3⟩
  ·exact wpAny_bind (wpAny_pure (wpAny_pure ⟨rfl,ih (i+1) (sub1 hk) hlt s₄t gr4 (st4.less le) ac4 c3⟩))
  ·refine wpAny_bind (sk bd st4 gr4.x gr4.dF ac4 fun sj F5 hZ tk6 xe dc sb ac6=>wpAny_pure ?_)
   have kb:∀ b o,¬ b=D1->sj.heap.get? b=some o->hZ.get? b=some o:=fun b o q e=>sb.extBut b o q e
   have st6:=((st4.ext xe).touch (P:=fun b=>b=D1) kb (fun b q=>by rw [q];exact dc) (fun b q=>by rw [q];exact hDW) (fun b q u=>hB b u (by rw [q];exact hD0))).1
   have xg:=gr4.x.trans xe
   exact ⟨rfl,ih (i+1) (s:={ sj with heap:=hZ,toks:=tk6 }) (sub1 hk) hlt (KT.frame _ _ _ (fr s₄t xe.keep) fun b hb o e=>kb b o (fun q=>hDf (q ▸ hb)) e) ⟨gr4.le.trans xe.le,⟨xg.le,st6.rel.inn,xg.keep.but (P:=fun b=>b=D1) (fun b q=>by rw [q];exact hD0) kb,xg.new,⟨xg.calm.os,xg.calm.gens⟩⟩,
    fun b hb=>xe.still (gr4.wF b hb) (live s₄t b (KT.sub b hb)),dc⟩ (st6.less le) ac6 c3⟩
end
noncomputable def SoundIt (C:Fr) (n:Nat) (it:{α:Type}->Scope->QV->Expr->Expr->(List D->Option α)->Option α):Prop:=
 ∀ {α:Type} {A:Around} {env:Env} {q:QV} {e t:Expr} {k:List D->Option α} {r:α} {F:FH} {s:Shared} {Q:Value->Shared->Prop} {E:Value->Shared->Prop},
  Ok C A n env q F s->it env.scope q e t k=some r->(∀ ds,k ds=some r->∀ F1 hH,Ext F s F1 hH->ItQ C (fun b=>AllFz q->F1 b≠none) F1 hH t ds Q)->wpAny (model C.prog C.w) A (eval e env) (fun x sa=>wpAny (model C.prog C.w) A (pyIter x) Q E sa) E s
noncomputable def NoSet (it:{α:Type}->Scope->QV->Expr->Expr->(List D->Option α)->Option α):Prop:=∀ {α:Type} {sc q es n p t} {k:List D->Option α} {r:α},it sc q (.Set es n p) t k=some r->False
section
variable {C:Fr} {F F':FH} {A:Around} {E:Value->Shared->Prop} {s:Shared} {d:D} {env:Env} {q:QV} {n:Nat} {K:KJ} {α:Type} {r:α}
theorem wfy {iter t:Expr} {k:List D->Option α} (S:NoSet K.it) (h:K.it env.scope q iter t k=some r) (x:Value):foldedSetIterable iter env x=pure x:=by
 cases iter<;>first | rfl | exact (S h).elim
noncomputable def CompQ (C:Fr) (A:Around) (E:Value->Shared->Prop) (F:FH) (s:Shared) (d:D) (use:Option (Value->Sem Unit)) (Q:Value->Shared->Prop):Prop:=
 ∀ D1 L s' F' m,s.heap.get? D1=none->s.heap.get? L=none->L≠D1->Ext F s F' s'->F' D1=none->F' L=none->View C s'.heap F' (.ref D1) d->s'.heap.Ns L m->compPost (model C.prog C.w) A E use Q (.ref D1) L (.ok .next) s'
theorem CompQ.ext {F1:FH} {hH:Shared} {use:Option (Value->Sem Unit)} {Q:Value->Shared->Prop} (xa:Ext F s F1 hH) (hQ:CompQ C A E F s d use Q):CompQ C A E F1 hH d use Q:=
 fun D1 L s' F' m a1 a2 a3 a4 a5 a6 a7 a8=>hQ D1 L s' F' m (xa.keep.gone a1) (xa.keep.gone a2) a3 (xa.trans a4) a5 a6 a7 a8
structure CKind (C:Fr) (A:Around) (ce tgt iter:Expr) (ifs:List Expr) (mkAcc:Sem Value) (o:Obj) {β:Type} (Acc:Addr->FH->Heap->β->Prop) (step:Addr->Env->Sem Unit):Prop where
 turn:∀ I D1 env,compTurn ce 0 (.ref I) (.ref D1) env=(do
   standAt iter.pos
   match <- pyNext (.ref I) with
   | none=>pure (.done .next)
   | some v=>
    letOwnedTupleGo tgt (.ref I) v
    assign tgt env v
    let mut ok:=true
    for c in ifs do
     if ok then ok <- isTrue c env (eval c env)
    if ok then step D1 env
    again (.compLoop ce 0 (.ref I) (.ref D1) env))
 loop:∀ I D1 env R s,wpAny (model C.prog C.w) A ((compTurn ce 0 (.ref I) (.ref D1) env).onRaise (fun x=>do noteFrame x env;theTreesLotGoes x)) (fun fin s'=>match fin with | .done f=>R (.ok f) s' | .again c'=>c'.quiet=true/\codeAny (model C.prog C.w) A c' R s') (fun e s'=>R (.error e) s') s ->
   codeAny (model C.prog C.w) A (.compLoop ce 0 (.ref I) (.ref D1) env) R s
 start:∀ I D1 env R s,codeAny (model C.prog C.w) A (.compLoop ce 0 (.ref I) (.ref D1) env) R s->wpAny (model C.prog C.w) A (pyIter (.ref I)) (fun it' s'=>codeAny (model C.prog C.w) A (.compLoop ce 0 it' (.ref D1) env) R s') (notedBy (model C.prog C.w) A env fun x s'=>R (.error x) s') s ->
   codeAny (model C.prog C.w) A (.compStart ce 0 (.ref I) (.ref D1) env) R s
 make:∀ Q E s,Q (.ref s.heap.objs.size) { s with heap:=s.heap.push o }->wpAny (model C.prog C.w) A mkAcc Q E s
 live:o.isFreed=false
 G:∀ D1,Gather C D1 (Acc D1)
theorem wkP {ce tgt iter:Expr} {ifs:List Expr} {mkAcc:Sem Value} {o:Obj} {β:Type} {Acc:Addr->FH->Heap->β->Prop} {step:Addr->Env->Sem Unit} (CK:CKind C A ce tgt iter ifs mkAcc o Acc step)
  {scope:Scope} {I:Addr} {ds:List D} {a0 res:β} {s₀:Shared} {Q:Value->Shared->Prop} {use:Option (Value->Sem Unit)} {fp wr:List Addr} {P Md:Nat->Value->Heap->Prop} {St:Nat->Heap->Prop} {Src:Addr->Prop}
  (Str:SoundTr C n K.tr) (ok:ScOk scope env.scope) (X:Ok C A n env q F s₀) (xb:Ext F s₀ F s) (T:Turns C Src F s₀.heap tgt I ds s.heap fp wr P Md St)
  {run:List D->β->Option β} (r0:∀ {a a'},run [] a=some a'->a=a')
  (rs:∀ {d ds a res},run (d::ds) a=some res->∃ b,(bindTQ scope tgt d (visq scope q) fun q'=>trAllQ K (relab scope env.scope) q' ifs)=some b /\
   (b=false/\run ds a=some res\/b=true/\∃ a',(∀ D1 env' W B Fb s₀,env'.scope=relab scope env.scope->Gd C Fb->Room A n->StepOk C A env' W B scope tgt (visq scope q) D1 Fb s₀ (Acc D1) (step D1 env') d a a')/\run ds a'=some res))
  (hrun:run ds a0=some res) (hA0:∀ h:Heap,Acc h.objs.size F (h.push o) a0) (hv:∀ {D1 F h},Acc D1 F h res->(D1==sysModules)=false->View C h F (.ref D1) d) (hQ:CompQ C A E F s₀ d use Q) :
  wpAny (model C.prog C.w) A mkAcc (fun acc sd=>wpAny (model C.prog C.w) A (newFunctionEnv scope env.globals (closL env scope.names []) [] env.qual none .none (some env)) (fun cenv se=>
    codeAny (model C.prog C.w) A (.compStart ce 0 (.ref I) acc { cenv with scope:=relabel scope env }) (compPost (model C.prog C.w) A E use Q acc cenv.locals) se) E sd) E s:=by
 refine CK.make _ _ _ ?_
 have k1:Keep s.heap (s.heap.push o):=Keep.push _ _
 have hD:s.heap.get? s.heap.objs.size=none:=get?_size s.heap
 have back:∀ b,s.heap.get? b=none->s₀.heap.get? b=none:=fun b e=>xb.keep.gone e
 have hF0:∀ b,s₀.heap.get? b=none->F b=none:=fun b e=>noneF X.r.inn e
 have hnew:(s.heap.push o).get? s.heap.objs.size=some o:=Heap.get?_push_size _ CK.live
 have xc:Ext F s₀ F { s with heap:=s.heap.push o }:=xb.trans (Ext.same xb.inn k1)
 have hA:=hA0 s.heap
 have hsys:(s.heap.objs.size==sysModules)=false:=X.g.noSys (fun b o e=>xb.inn b o e)
 generalize s.heap.objs.size=D1 at hD hnew hA hsys
 generalize s.heap.push o=hU at k1 hnew xc hA
 refine woD ok (X.r.ext xc) X.r xc.keep fun cenv se kf cb hC st=>?_
 have kk:∀ b o,s.heap.get? b=some o->se.heap.get? b=some o:=fun b o e=>kf b o (k1 b o e)
 have xf:Ext F s₀ F se:=xc.trans (s':={ s with heap:=hU }) (Ext.same (s:={ s with heap:=hU }) xc.inn kf ⟨cb.os,cb.gens⟩)
 have hCD:D1≠cenv.locals:=fun q=>by rw [<- q,hnew]at hC;exact noneE hC.symm
 have hC0:s₀.heap.get? cenv.locals=none:=xc.keep.gone hC
 have KT:=T.kt A X.R.handled
 have stS:St 0 se.heap:=KT.frame 0 s.heap se.heap T.st fun b _ o e=>kk b o e
 have lv:∀ {b},b∈fp->s.heap.get? b≠none:=fun {b} hb=>by obtain ⟨o,e,_⟩:=T.alive 0 _ T.st b hb;rw [e];exact wav
 have loop:=wsa (K:=K) (env:={ cenv with scope:=relab scope env.scope }) (ss:=scope) (q₀:=visq scope q) (F₀:=F) (Fb:=F) (Acc:=Acc D1) (R:=compPost (model C.prog C.w) A E use Q (.ref D1) cenv.locals) (CK.turn I D1 _) (CK.loop I D1 _ _) Str X.R X.g (CK.G D1) T
  (fun b hb q=>lv hb (by cases z:s.heap.get? b with | none=>rfl | some o=>exact noneE (q.1.symm.trans (k1 b o z)))) (fun q=>lv q hD) (back _ hD) (fun hb=>noneE (hb.1.symm.trans hnew)) (fun b hb=>hb) (fun b hb=>xc.keep.gone hb.1) (wsl scope q) (run:=run) r0
  (fun h=>let ⟨b,h1,h2⟩:=rs h;⟨b,h1,h2.imp_right fun ⟨h3,a',h4,h5⟩=>⟨h3,a',h4 _ _ _ _ _ _ rfl X.g X.R,h5⟩⟩)
  (res:=res) (fun s' F' a1 a2 a3 ⟨m,a4⟩ a5=>hQ _ _ _ F' m (back _ hD) hC0 (Ne.symm hCD) a1 a2 a5 (hv a3 hsys) a4) ds.length 0 (s:=se) (F:=F) (a:=a0) rfl (Nat.zero_le _) stS ⟨FH.le.refl F,xf,fun b hb=>hF0 b (T.new b hb),hF0 _ (back _ hD)⟩ st ((CK.G D1).at_ hA fun o e=>kf _ o e) (by rw [List.drop_zero];exact hrun)
 exact CK.start I D1 _ _ _ loop (T.self A se _ _ X.R.handled stS loop)
theorem wrM {elt tgt iter:Expr} {ifs:List Expr} {scope:Scope} {pos:Pos}:CKind C A (.ListComp elt [⟨tgt,iter,ifs,0⟩] scope pos) tgt iter ifs (newList []) { cls:=.type "list",data:=.seq #[] }
  (fun D1 F h (a:List D)=>∃ vs,h.PlainList D1 vs/\RepAll C F a vs.toList) (fun D1 env=>do let _ <- call (.builtin "list.append") [.ref D1,<- eval elt env]) where
 turn I D1 env:=compTurn_list ..
 loop I D1 env R s h:=codeAny_of_tree h
 start I D1 env R s h h':=codeAny_compStart_list h h'
 make Q E s h:=wpAny_newList h
 live:=rfl
 G D1:=⟨fun ⟨vs,hl,r⟩ x=>⟨vs,wbR hl x.keep,RepAll.mono x.le _ r⟩,fun ⟨vs,hl,r⟩ k=>⟨vs,hl.at k,r⟩,fun ⟨vs,⟨m,e⟩,_⟩=>by rw [e];exact wav⟩
theorem wr8 {kx vx tgt iter:Expr} {ifs:List Expr} {scope:Scope} {pos:Pos}:CKind C A (.DictComp kx vx [⟨tgt,iter,ifs,0⟩] scope pos) tgt iter ifs newDict { cls:=.type "dict",data:=.dict #[] }
  (fun D1 F h (a:List (Key×D))=>∃ es,h.DictOf (anyKind C.prog C.w) D1 es/\RepKV C F a es) (fun D1 env=>do
      let kv <- eval kx env
      let vv <- holding [kv] (eval vx env)
      standAt { kx.pos with endLine:=vx.pos.endLine,endCol:=vx.pos.endCol }
      holding [kv,vv] (dictSet D1 kv vv)) where
 turn I D1 env:=compTurn_dict ..
 loop I D1 env R s h:=codeAny_of_tree h
 start I D1 env R s h h':=codeAny_compStart_dict h h'
 make Q E s h:=wpAny_newObj_type h (Nat.zero_le _)
 live:=rfl
 G D1:=⟨fun ⟨vs,hl,r⟩ x=>⟨vs,wce hl x.keep,RepKV.mono x.le _ r⟩,fun ⟨vs,hl,r⟩ k=>⟨vs,hl.at k,r⟩,fun ⟨vs,hl,_⟩=>by obtain ⟨o,_,_,e,_⟩:=hl;rw [e];exact wav⟩
theorem wqd {P:Prop} {α:Type} {r:α} {b:Bool} {x y:Option α} (h:(if b then x else y)=some r) (f:b=true->x=some r->P) (g:b=false->y=some r->P):P:=by
 cases b with
 | true=>exact f rfl h
 | false=>exact g rfl h
theorem wg5 {elt:Expr} {gens:List Comprehension} {scope:Scope} {pos pos':Pos} {k:D->Option α} {Q:Value->Shared->Prop} {use:Option (Value->Sem Unit)}
  (S:SoundEv C n K.ev) (Str:SoundTr C n K.tr) (Sit:SoundIt C n K.it) (hset:NoSet K.it) (X:Ok C A n env q F s) (h:listCompQ K env.scope q elt gens scope k=some r) (hQ:∀ l,k (.list l)=some r->CompQ C A E F s (.list l) use Q) {iter:Expr} (hi:gens.head?.map (·.iter)=some iter) :
  wpAny (model C.prog C.w) A (comprehension (.ListComp elt gens scope pos) scope env pos' (newList []) false (eval iter env) use) Q E s:=by
 refine compE h fun t it ifs qg h2=>ifE h2 fun hsc h3=>?_
 clear h h2
 subst qg
 cases hi
 have ok:=woR hsc
 refine wpAny_comprehension_free rfl (wfy hset h3) (wgu fun x k hm hk=>X.r.eo.cells x (ok.free x (hk ▸ hm))) ok.kind ok.hnm ?_
 refine Sit X h3 fun ds h F1 hH xa I s₂ fp wr P Md St xb T=>ifE h fun hz h=>bindE h fun l e h=>?_
 have X1:=X.ext xa
 refine wkP wrM (d:=.list l) (K:=K) Str ok X1 xb T (a0:=[]) (res:=l) (run:=fun ds a=>if a.length+ds.length<=cap then (compQ (fun d=>bindTQ scope t d (visq scope q) fun q'=>trAllQ K (relab scope env.scope) q' ifs) (fun d=>bindTQ scope t d (visq scope q) fun q'=>K.ev (relab scope env.scope) q' elt some) ds).map (a++·) else none)
  (fun h=>ifE h fun _ h=>by rw [<- Option.some.inj h];exact (List.append_nil _).symm) (fun {d ds a res} h=>ifE h fun hz h=>mapE h fun l e h=>bindE e fun b e1 e=>⟨b,e1,wqd e (fun hb e=>.inr ⟨hb,bindE e fun v e2 e=>mapE e fun l' e3 e=>⟨a++[v],fun D1 env' W B Fb s₀ hsc' g Rm q' F s Q E bd st x df ac kq=>?_,?_⟩⟩) fun hb e=>.inl ⟨hb,?_⟩⟩)
  (by show (if _ then _ else _)=_;rw [if_pos (by rw [List.length_nil,Nat.zero_add];exact hz),e];rfl) (fun h=>⟨#[],⟨_,Heap.get?_push_size _ rfl⟩,rfl⟩) (fun ⟨vs,⟨m,e⟩,r⟩ _=>VL.mk e r) ((hQ l h).ext xa)
 ·obtain ⟨vs,hl,hr⟩:=ac
  have hz':vs.size<=sizeLine:=waA (by rw [hr.size];rw [List.length_cons]at hz;omega)
  exact wpAny_bind (S ⟨Rm,g.mono x.le,st.rel⟩ (by rw [hsc'];exact bd e2) fun v' ev vj sj F5 xe r5=>by
   cases ev
   have lf:=wbR hl xe.keep
   exact wpAny_bind (wpAny_list_append_plain lf (fun hZ lg sb=>wpAny_pure (kq sj F5 hZ _ xe (xe.still df (by obtain ⟨m,e⟩:=hl;rw [e];exact wav)) sb ⟨_,lg,by rw [Array.toList_push];exact (RepAll.mono xe.le _ hr).append (RepAll.one r5)⟩)) hz'))
 ·show (if _ then _ else _)=_
  rw [List.length_cons]at hz
  rw [if_pos (by rw [List.length_append,List.length_singleton];omega),e3,<- h,<- e]
  exact congrArg some (List.append_assoc a [v] l')
 ·show (if _ then _ else _)=_
  rw [List.length_cons]at hz
  rw [if_pos (by omega),e,<- h];rfl
theorem whe {kx vx:Expr} {gens:List Comprehension} {scope:Scope} {pos pos':Pos} {k:D->Option α} {Q:Value->Shared->Prop} {use:Option (Value->Sem Unit)}
  (S:SoundEv C n K.ev) (Str:SoundTr C n K.tr) (Sit:SoundIt C n K.it) (hset:NoSet K.it) (X:Ok C A n env q F s) (h:dictCompQ K env.scope q kx vx gens scope k=some r) (hQ:∀ l,k (.dict l)=some r->CompQ C A E F s (.dict l) use Q) {iter:Expr} (hi:gens.head?.map (·.iter)=some iter) :
  wpAny (model C.prog C.w) A (comprehension (.DictComp kx vx gens scope pos) scope env pos' newDict false (eval iter env) use) Q E s:=by
 refine compE h fun t it ifs qg h2=>ifE h2 fun hsc h3=>?_
 clear h h2
 subst qg
 cases hi
 have ok:=woR hsc
 refine wpAny_comprehension_free rfl (wfy hset h3) (wgu fun x k hm hk=>X.r.eo.cells x (ok.free x (hk ▸ hm))) ok.kind ok.hnm ?_
 refine Sit X h3 fun ds h F1 hH xa I s₂ fp wr P Md St xb T=>ifE h fun hz h=>bindE h fun l e h=>?_
 have X1:=X.ext xa
 refine wkP wr8 (d:=.dict l) (K:=K) Str ok X1 xb T (a0:=[]) (res:=l) (run:=fun ds a=>if a.length+ds.length<=cap then compDQ (fun d=>bindTQ scope t d (visq scope q) fun q'=>trAllQ K (relab scope env.scope) q' ifs) (fun d=>bindTQ scope t d (visq scope q) fun q'=>K.ev (relab scope env.scope) q' kx fun a=>(toKey a).bind fun kk=>K.ev (relab scope env.scope) q' vx fun b=>some (kk,b)) ds a else none)
  (fun h=>ifE h fun _ h=>Option.some.inj h) (fun {d ds a res} h=>ifE h fun hz e=>bindE e fun b e1 e=>⟨b,e1,wqd e (fun hb e=>.inr ⟨hb,bindE e fun v e2 e=>⟨kset v.1 v.2 a,fun D1 env' W B Fb s₀ hsc' g Rm q' F s Q E bd st x df ac kq=>?_,?_⟩⟩) fun hb e=>.inl ⟨hb,?_⟩⟩)
  (by show (if _ then _ else _)=_;rw [if_pos (by rw [List.length_nil,Nat.zero_add];exact hz),e]) (fun h=>⟨[],Heap.DictOf.new _,rfl⟩) (fun ⟨es,hd,r⟩ hy=>by obtain ⟨o,ho,hd⟩:=Heap.dictOf_iff.mp hd;exact VD.mk ho hy hd r) ((hQ l h).ext xa)
 ·obtain ⟨es,hl,hr⟩:=ac
  have hz':=hr.length
  have nD:s.heap.get? D1≠none:=by obtain ⟨o,_,_,e,_⟩:=hl;rw [e];exact wav
  have X2:Ok C A n env' q' F s:=⟨Rm,g.mono x.le,st.rel⟩
  refine wpAny_bind (S X2 (by rw [hsc'];exact bd e2) fun a ev vj sj F5 xe r5=>bindE ev fun kk h1 ev=>wpAny_bind (wpAny_holding (S (X2.ext xe) (by rw [hsc'];exact ev) fun b ev vm sq F6 xg r6=>wpAny_bind (wpAny_standAt ?_))))
  cases ev
  have y:=xe.trans xg
  have hr6:=RepKV.mono y.le _ hr
  exact wpAny_holding (wpAny_dictSet_pairs (wcD h1 (r5.ext xg)) (wce hl y.keep) (fun h₇ hm hs=>kq sq F6 h₇ _ y (y.still df nD) hs ⟨_,hm,hr6.stored kk r6⟩) (by rw [List.length_cons]at hz;simp [sizeLine];unfold cap at hz;omega))
 ·show (if _ then _ else _)=_
  rw [List.length_cons]at hz
  have:(kset v.1 v.2 a).length<=a.length+1:=by
   unfold kset
   split
   ·have:∀ l:List (Key×D),(kput v.1 v.2 l).length=l.length:=fun l=>by
     induction l with
     | nil=>rfl
     | cons p l ih=>obtain ⟨k,x⟩:=p;simp only [kput];split<;>exact congrArg Nat.succ ih
    rw [this];omega
   ·rw [List.length_append,List.length_singleton];omega
  rw [if_pos (by omega)];exact e
 ·show (if _ then _ else _)=_
  rw [List.length_cons]at hz
  rw [if_pos (by omega)];exact e
theorem freeze {s₀ s:Shared} {F₀:FH} {a:Addr} (x:Ext F₀ s₀ F s) (hn:s₀.heap.get? a=none) (hf:F a=none) (v:View C s.heap F (.ref a) d) (hd:isListD d=true):∃ o,Ext F₀ s₀ (F.put a o) s/\Rep C (F.put a o) (.ref a) d:=by
 have le:∀ o,F.le (F.put a o):=fun o=>FH.le_put hf
 cases d<;>first | exact ffE hd | skip
 ·cases v with | mk e r=>exact ⟨_,x.seal hn hf (fun _ _ _ e=>e) e,.mk (FH.put_self _ _ _) (RepAll.mono (le _) _ r)⟩
 ·cases v with | mk e y z r=>exact ⟨_,x.seal hn hf (fun _ _ _ e=>e) e,.mk (FH.put_self _ _ _) y z (RepKV.mono (le _) _ r)⟩
theorem wmO {Q:Value->Shared->Prop} (hd:isListD d=true) (k:Cont C F s d Q):CompQ C A E F s d none Q:=by
 intro D1 L s' F' m a1 a2 a3 a4 a5 a6 a7 a8
 refine ⟨m,a8,fun h' sb=>?_⟩
 have x:Ext F s F' { s' with heap:=h' }:=a4.own a2 a6 fun b o hb e=>sb.extBut b o hb e
 have v':View C h' F' (.ref D1) d:=by
  have hk:∀ o,s'.heap.get? D1=some o->h'.get? D1=some o:=fun o e=>sb.extBut _ o (Ne.symm a3) e
  cases d<;>first | exact ffE hd | skip
  ·cases a7 with | mk e r=>exact .mk (hk _ e) r
  ·cases a7 with | mk e y z r=>exact .mk (hk _ e) y z r
 obtain ⟨o,y,r⟩:=freeze x a1 a5 v' hd
 exact k _ _ _ y r
end
section
variable {C:Fr} {F F':FH} {A:Around} {E:Value->Shared->Prop} {s:Shared} {Q:Value->Shared->Prop} {d:D} {env:Env} {q:QV} {n:Nat} {K:KJ} {α:Type} {r:α}
theorem wqJ {M:Model} {c P:Addr} {ps:Array Value} {op:Obj} {pos:Pos} {qualname:Str} {scope:Scope} (hc:env.code=.ref c) (hok:s.heap.IsCode c P ps) (hop0:s.heap.get? P=some op) (hcls:op.cls=.none)
  (hQ:∀ code h' tk,Heap.ExtBut P s.heap h'->(∃ o,h'.get? P=some o/\Grown op o)->s.heap.objs.size<=h'.objs.size->Q code { s with heap:=h',toks:=tk }) :
  wpAny M A (genexprCode env pos qualname scope) Q E s:=by
 obtain ⟨o,vs,file,tf,flags,tg,inF,text,tt,op',ho,hd,h11,h2,h7,h9,h10,hop,hpd,htr,hne⟩:=id hok
 rw [hop0]at hop;cases hop
 unfold genexprCode codeAt
 rw [hc,if_neg (show ¬ ((Value.ref c==Value.none)=true) from Bool.false_ne_true)]
 refine wpAny_bind (wpAny_fieldsOf ho hd ?_)
 rw [h11]
 refine wpAny_bind (wpAny_fieldsOf hop0 hpd ?_)
 cases hnf:codeAmong pos ps.toList with
 | some cv=>exact wpAny_pure (hQ cv s.heap s.toks (Heap.ExtBut.refl _ _) ⟨_,hop0,.refl ⟨hcls,_,hpd,htr⟩⟩ (Nat.le_refl _))
 | none=>
  rw [h2,h7,h9,h10]
  refine wpAny_bind (wpAny_newCode fun c' P' h' tk hk hc' hP' hcode' hrec'=>?_)
  have hop':=hk _ _ hop0
  refine wpAny_bind (wpAny_updateFieldsOfTheText hop' hpd ?_)
  have hnew:(Obj.mapFields (fun vs=>if (codeAmong pos vs.toList).isSome=true then vs else vs++#[rawInt pos.line,rawInt pos.col,.ref c']) op).data=.fields (ps++#[rawInt pos.line,rawInt pos.col,.ref c']):=by
   rw [Obj.data_mapFields hpd,hnf];rfl
  have hget:=Heap.get?_update_self (h:=h') (fun o=>Obj.mapFields (fun vs=>if (codeAmong pos vs.toList).isSome=true then vs else vs++#[rawInt pos.line,rawInt pos.col,.ref c']) o) hop' (Obj.isFreed_of_fields hnew)
  refine wpAny_bind (wpAny_fieldsOf hget hnew ?_)
  have hl:(ps++#[rawInt pos.line,rawInt pos.col,Value.ref c']).toList=ps.toList++[rawInt pos.line,rawInt pos.col,.ref c']:=by simp
  rw [hl,codeAmong_snoc _ htr hnf]
  refine wpAny_pure (hQ _ _ _ (fun b o' hb e=>((Heap.SameBut.update ..).extBut b o' hb (hk b o' e))) ⟨_,hget,⟨(Obj.cls_mapFields ..).trans hcls,_,hnew,by rw [hl];exact TriplesOk_snoc _ _ _ _ htr⟩,fun ps' e=>⟨#[rawInt pos.line,rawInt pos.col,.ref c'],by
   rw [hpd]at e;cases e
   obtain ⟨oc,od,odt,os⟩:=op
   cases (show odt=.fields ps from hpd)
   exact congrArg (fun z=>(⟨oc,od,.fields z,os⟩:Obj)) (by dsimp only;rw [hnf];rfl)⟩⟩ ?_)
  rw [Heap.size_after_update]
  exact Nat.le_trans hc' (Nat.le_of_lt hcode'.lt.1)
theorem wou (n:Nat):passing (fun _=>true) n 0=List.range n:=by simp [passing]
theorem wsG {acc:List Value}:∀ {xs ys:List Int},acc.length=min xs.length ys.length->(∀ (j:Nat) v,acc[j]?=some v->∃ t,v=.int (xs.getD j 0+ys.getD j 0) t) ->
  RepAll C F (List.zipWith (fun u v=>D.int (u+v)) xs ys) acc:=by
 induction acc with
 | nil=>
  intro xs ys hl _
  rw [List.eq_nil_of_length_eq_zero (show (List.zipWith (fun u v=>D.int (u+v)) xs ys).length=0 by rw [List.length_zipWith];exact hl.symm)];exact rfl
 | cons v acc ih=>
  intro xs ys hl h
  cases xs with
  | nil=>rw [List.length_nil,Nat.zero_min]at hl;exact succE hl.symm
  | cons x xs=>
   cases ys with
   | nil=>rw [List.length_nil,Nat.min_zero]at hl;exact succE hl.symm
   | cons y ys=>
    obtain ⟨t,rfl⟩:=h 0 v rfl
    refine .mk (.mk t) (ih (by simp only [List.length_cons]at hl;omega) fun j v e=>h (j+1) v e)
theorem pk2 {T:Tab} {sc:Scope} {a b:Expr} {k:List D->Option α} (ha:isStarE a=false) (hb:isStarE b=false):pkLQ T K sc q [a,b] k=pkQ T K sc q a fun da=>pkQ T K sc q b fun db=>k [da,db]:=by
 unfold pkLQ pkLQ pkLQ
 rw [ha,hb];rfl
theorem wsS {m:Nat} {a b c d e f g:Addr} (h1:a<m) (h2:b<m) (h3:c<m) (h4:d<m) (h5:e<m) (h6:f<m) (h7:g<m):∀ x∈[a,b,c,d,e,f,g],x<m:=fun x hx=>by
 simp only [List.mem_cons,List.not_mem_nil,or_false]at hx
 rcases hx with rfl | rfl | rfl | rfl | rfl | rfl | rfl<;>assumption
theorem wvd {m x:Nat} {a b c d:Addr} (hx:x<m) (h1:m<=a) (h2:m<=b) (h3:m<=c) (h4:m<=d):x ∉ [a,b,c,d]:=fun h=>by
 simp only [List.mem_cons,List.not_mem_nil,or_false]at h
 rcases h with rfl | rfl | rfl | rfl<;>exact absurd hx (Nat.not_lt.mpr ‹_›)
theorem ZipAt.keep {z TI TO i1 i2 l1 l2:Addr} {xs ys:Array Value} {i:Nat} {h h':Heap} (st:ZipAt z TI TO i1 i2 l1 l2 xs ys .none i h) (k:KeepT h h'):ZipAt z TI TO i1 i2 l1 l2 xs ys .none i h':=by
 obtain ⟨u,v,e⟩:=st.out
 obtain ⟨o1,e1,c1,d1⟩:=st.it1
 obtain ⟨o2,e2,c2,d2⟩:=st.it2
 obtain ⟨o3,e3,c3,d3⟩:=st.t1
 obtain ⟨o4,e4,c4,d4⟩:=st.t2
 exact ⟨k.at_ _ _ st.z (wab rfl),k.at_ _ _ st.src (wab rfl),⟨u,v,k.at_ _ _ e (wab rfl)⟩,⟨o1,k.at_ _ _ e1 (wab c1),c1,d1⟩,⟨o2,k.at_ _ _ e2 (wab c2),c2,d2⟩,⟨o3,k.at_ _ _ e3 (wab c3),c3,d3⟩,⟨o4,k.at_ _ _ e4 (wab c4),c4,d4⟩⟩
theorem ZipAt.lt {z TI TO i1 i2 l1 l2:Addr} {xs ys:Array Value} {i:Nat} {h:Heap} (st:ZipAt z TI TO i1 i2 l1 l2 xs ys .none i h):∀ x∈[z,TI,TO,i1,i2,l1,l2],x<h.objs.size:=by
 obtain ⟨u,v,e⟩:=st.out
 obtain ⟨o1,e1,_⟩:=st.it1
 obtain ⟨o2,e2,_⟩:=st.it2
 obtain ⟨o3,e3,_⟩:=st.t1
 obtain ⟨o4,e4,_⟩:=st.t2
 exact wsS (Heap.lt_size st.z) (Heap.lt_size st.src) (Heap.lt_size e) (Heap.lt_size e1) (Heap.lt_size e2) (Heap.lt_size e3) (Heap.lt_size e4)
structure GenOk (sc scope:Scope) (x y:Str):Prop where
 kind:scope.kind=.function
 cor:scope.isCoroutine=false
 lx:scope.names.lookup x=some .local
 ly:scope.names.lookup y=some .local
 ne:x≠y
 it:scope.names.lookup (".0":Str)=some .local
 names:∀ p∈scope.names,p.2≠.cell/\p.2≠.free
 xd:(x==("__debug__":Str))=false
 yd:(y==("__debug__":Str))=false
 xi:x≠(".0":Str)
 yi:y≠(".0":Str)
 gk:sc.names.lookup gk=some .local
theorem wty {sc scope:Scope} {x y:Str} (ok:genOk sc scope x y=true):GenOk sc scope x y:=by
 unfold genOk at ok
 simp only [Bool.and_eq_true,Bool.not_eq_true',beq_iff_eq,beq_eq_false_iff_ne,List.all_eq_true,bne_iff_ne,ne_eq]at ok
 obtain ⟨⟨⟨⟨⟨⟨⟨⟨⟨⟨⟨o1,o2⟩,o3⟩,o4⟩,o5⟩,o6⟩,o7⟩,o8⟩,o9⟩,o10⟩,o11⟩,o12⟩:=ok
 exact ⟨o1,o2,o3,o4,o5,o6,o7,beq_eq_false_iff_ne.mpr o8,beq_eq_false_iff_ne.mpr o9,o10,o11,o12⟩
theorem wrW (S:SoundEv C n K.ev) {x y:Str} {xp yp zp xp' yp' bp tp cp gp fp pos:Pos} {kt:Nat} {a b:Expr} {scope:Scope} {k:D->Option α} (X:Ok C A n env q F s)
  (hg:isGlob env.scope (Str.ofString "tuple")=true) (hgz:isGlob env.scope (Str.ofString "zip")=true) (ok:GenOk env.scope scope x y) (ha:isStarE a=false) (hb:isStarE b=false)
  (h:(pkQ C.T K env.scope q a fun da=>pkQ C.T K env.scope q b fun db=>(zipSumQ da db).bind k)=some r) (kk:∀ d,k d=some r->Cont C F s d Q) :
  wpAny (model C.prog C.w) A (eval (.Call (.Name (Str.ofString "tuple") fp) [.GeneratorExp (.BinOp (.Name x xp) .Add (.Name y yp) bp) [⟨.Tuple [.Name x xp',.Name y yp'] kt tp,.Call (.Name (Str.ofString "zip") zp) [a,b] [] cp,[],0⟩] scope gp] [] pos) env) Q E s:=by
 have hs:noStar [Expr.GeneratorExp (.BinOp (.Name x xp) .Add (.Name y yp) bp) [⟨.Tuple [.Name x xp',.Name y yp'] kt tp,.Call (.Name (Str.ofString "zip") zp) [a,b] [] cp,[],0⟩] scope gp]=true:=rfl
 refine callBi X hg wgw hs ?_
 rw [wal (waM hs)]
 obtain ⟨c,hc,hcode⟩:=X.r.code ok.gk
 refine spliced_cons ?_
 have lim:∀ {h:Heap} {F':FH},F.le F'->F'.In h->h.NoLimit:=fun le i=>(X.g.mono le).limit i
 refine wpAny_GeneratorExp_walksQT X.R.handled ok.cor (wgu fun y k hm hk=>absurd hk (ok.names _ hm).2) (fun y hy=>(ok.names y hy).1) ok.it ok.lx ok.ly ok.ne ok.kind (by have:=X.R.depth;omega) ?_ (fun _=>rfl)
 refine callBi X hgz wso (by show (!isStarE a&&(!isStarE b&&true))=true;rw [ha,hb];rfl) (whE S [a,b] X (k:=fun ds=>twoK ds fun da db=>(zipSumQ da db).bind k) ((pk2 ha hb).trans h) fun ds h vs sa F1 xa vv _=>twoE h fun da db qd h=>?_)
 subst qd
 cases vv with | mk v1 v2=>cases v2 with | mk v2 v3=>
 cases v3
 refine viaG fun G hG=>?_
 refine bindE h fun d e h=>?_
 have k:=kk d h
 clear kk h hs
 refine tupE e fun la ea e=>tupE e fun lb eb e=>ifE e fun hz e=>bindE e fun xs i1 e=>mapE e fun ys i2 ed=>?_
 subst ea eb ed
 cases v1 with | @mk a1 vs1 n1 e1 r1=>cases v2 with | @mk a2 vs2 n2 e2 r2=>
 have t1:sa.heap.IsTuple a1 vs1:=⟨_,e1,rfl,_,rfl⟩
 have t2:sa.heap.IsTuple a2 vs2:=⟨_,e2,rfl,_,rfl⟩
 obtain ⟨il1,iv1⟩:=wi8 (C:=C) (F:=F1) i1
 obtain ⟨il2,iv2⟩:=wi8 (C:=C) (F:=F1) i2
 have ll1:=r1.size
 have ll2:=r2.size
 refine hG ?_
 refine wom t1 t2 fun hJ zz TI TO j1 j2 Dz st hz2 hTO2 hj1 hj2 hka=>wpAny_pyIter_zip st.z ?_
 have xb:Ext F s F1 { sa with heap:=hJ }:=xa.trans (Ext.same xa.inn hka)
 have rc:=X.r.ext xb
 refine ⟨lim xb.le xb.inn,?_⟩
 refine viaG fun G hG=>?_
 obtain ⟨op,ep,hcl,pst,hpd,htr⟩:=rc.tab
 obtain ⟨co,q1,cvs,file,tf,flags,tg,inF,text,tt,q2,q3,q4,q5,q6,q7,q8⟩:=hcode.mono xb.le
 have hIs:hJ.IsCode c (tabAt C) pst:=⟨co,cvs,file,tf,flags,tg,inF,text,tt,op,xb.inn _ _ q1,q2,q3,q4,q5,q6,q7,ep,hpd,htr,q8⟩
 refine hG ?_
 refine wqJ (s:={ sa with heap:=hJ }) hc hIs ep hcl fun code hU tk hxa htab hge=>?_
 clear q2 q3 q4 q5 q6 q7 q8
 have kc:KeepT hJ hU:=⟨fun b o e n=>hxa b o (fun q=>by rw [q,ep]at e;cases e;exact n ⟨hcl,_,hpd,htr⟩) e,fun b o e t=>by
  by_cases q:b=tabAt C
  ·rw [q,ep]at e;cases e;rw [q];exact htab
  ·exact ⟨o,hxa b o q e,.refl t⟩⟩
 have in3:F1.In hU:=fun b o e=>hxa b o (fun q=>by rw [q,rc.ftab]at e;exact noneE e) (xb.inn b o e)
 have st3:=st.keep kc
 refine viaG fun G hG=>?_
 obtain ⟨bm,ob,b1,b2,b3,b4,b5,b6⟩:=X.g.bf
 obtain ⟨og,g1,g2⟩:=X.g.glob
 obtain ⟨ol,mc,g3,_⟩:=X.g.lim
 refine hG ?_
 refine wpAny_builtinsFor (s:={ sa with heap:=hU,toks:=tk }) (by rw [X.r.eo.glob];exact g2.ns (in3 _ _ (xb.le _ _ g1))) b1 b2 (in3 _ _ (xb.le _ _ b3)) b4 b5 b6 ?_
 have hmin:min vs1.size vs2.size=min xs.length ys.length:=by rw [il1,il2,ll1,ll2]
 have hsz2:sa.heap.objs.size<=hU.objs.size:=Nat.le_trans (Nat.le_of_lt (Nat.lt_of_le_of_lt hz2 (Heap.lt_size st.z))) hge
 have hsz1:min vs1.size vs2.size<=sizeLine:=waA (Nat.le_trans (Nat.min_le_left ..) (ll1 ▸ hz.1))
 have wn:∀ {b o},sa.heap.get? b=some o->b ∉ [zz,TO,j1,j2]:=fun {b o} e=>wvd (Heap.lt_size e) hz2 hTO2 hj1 hj2
 refine ⟨zz,_,_,min vs1.size vs2.size,_,_,_,fun _=>true,fun i v=>∃ t,v=.int (xs.getD i 0+ys.getD i 0) t,rfl,fun A' hA=>wm7 hA zz TI TO j1 j2 a1 a2 Dz vs1 vs2,fun i vals ⟨u,v,_,_,e⟩=>⟨u,v,e⟩,st3,st3.lt,lim xb.le in3,wn (xa.inn _ _ (xa.le _ _ g3)),?_,?_⟩
 ·clear k st3 st hka wn lim xb rc kc
  intro href hh
  refine ⟨fun A' E' i va vb s₂ ma hA _ _ _ _ _=>?_,fun A' E' i va vb s₂ ma hA hP _ hN m1 m2 _=>?_⟩
  ·rw [List.forIn_nil]
   exact wpAny_pure ⟨rfl,_,_,rfl,fun _ _ e=>e⟩
  ·obtain ⟨u,v,eu,ev,euv⟩:=hP
   have euv:=congrArg Array.toList euv
   injection euv with e3 e4
   injection e4 with e4 _
   subst e3 e4
   obtain ⟨du,hu⟩:=r1.get' (by rw [Array.getElem?_toList];exact eu)
   obtain ⟨dv,hv⟩:=r2.get' (by rw [Array.getElem?_toList];exact ev)
   obtain ⟨tu,rfl⟩:=iv1 ⟨du,hu⟩
   obtain ⟨tv,rfl⟩:=iv2 ⟨dv,hv⟩
   have nm:∀ {q:Str} {p:Pos} {v:Value} {Q:Value->Shared->Prop},scope.names.lookup q=some .local->(q==("__debug__":Str))=false->ma q=some v->Q v s₂ ->
     wpAny (model C.prog C.w) A' (eval (.Name q p) (genEnv scope (closL env scope.names []) hU.objs.size code builtinsNs env)) Q E' s₂:=fun {q p v Q} hl hd hv hq=>
    wpAny_Name (wpAny_loadName_local (env:=genEnv scope (closL env scope.names []) hU.objs.size code builtinsNs env) ok.kind hl hN hv hq) hd
   exact wpAny_BinOp (nm ok.lx ok.xd m1 (nm ok.ly ok.yd m2 (wpAny_add_int ⟨⟨_,rfl⟩,_,_,rfl,fun _ _ e=>e⟩)))
 ·intro aa hK tk5 gs hgs hlt hsz5 hkb W st5
  refine spliced_nil ?_
  rw [wou,List.length_range]at W
  refine call_tuple_gen (hsz:=hsz1) W.in4_3 (fun i s' q=>q.1.typeIs) st5 ?_ List.mem_cons_self fun s' acc hm hacc=>?_
  ·intro b hb
   show b<hK.objs.size
   rw [hsz5]
   rcases List.mem_cons.mp hb with rfl | hb
   ·exact Nat.lt_succ_self _
   ·rcases List.mem_cons.mp hb with rfl | hb
    ·exact Nat.lt_succ_of_lt hlt
    ·exact Nat.lt_succ_of_lt (Nat.lt_trans (List.mem_range.mp hb) hlt)
  ·have kg:KeepT sa.heap s'.heap:=by
    refine ((KeepT.of hka).trans (kc.trans (KeepT.of hkb))).but (P:=fun b=>b∈hU.objs.size::[zz,TO,j1,j2]) (fun b hb=>?_) (fun b o hb e=>hm.heap b o hb e)
    rcases List.mem_cons.mp hb with rfl | hb
    ·exact Heap.get?_none_of_le hsz2
    ·cases q:sa.heap.get? b with
     | none=>rfl
     | some o=>exact absurd hb (wn q)
   have in6:F1.In s'.heap:=fun b o e=>by
    have h1:=xa.inn _ _ e
    refine hm.heap b o (fun hb=>?_) (hkb b o (in3 b o e))
    rcases List.mem_cons.mp hb with rfl | hb
    ·exact absurd (Nat.lt_of_lt_of_le (Heap.lt_size h1) hsz2) (Nat.lt_irrefl _)
    ·exact wn h1 hb
   have xg:Ext F1 sa F1 s':=⟨FH.le.refl _,in6,kg,fun _ _ e=>.inl e,hm.os,fun q=>AllBare.movedS (s:={ sa with gens:=sa.gens.push gs,toks:=tk5,heap:=hK }) (q.push hgs) hm⟩
   have xq:=Ext.put (s:=s') (s':={ s' with heap:=s'.heap.push { cls:=.type "tuple",data:=.seq acc } }) (o:={ cls:=.type "tuple",data:=.seq acc }) (a:=s'.heap.objs.size) in6 (Keep.push s'.heap _) (get?_size _) (Heap.get?_push_size _ rfl)
   refine k _ _ _ (xa.trans (xg.trans xq)) (.mk (FH.put_self _ _ _) (wsG (by rw [Array.length_toList,hacc.1,hmin]) fun j v hv=>?_))
   obtain ⟨i,hi,t,e⟩:=hacc.2 j v (by rw [Array.getElem?_toList]at hv;exact hv)
   obtain ⟨hlt',e'⟩:=List.getElem?_eq_some_iff.mp hi
   rw [List.getElem_range]at e'
   subst e'
   exact ⟨t,e⟩
theorem wwl (S:SoundEv C n K.ev) {args:List Expr} {fp pos:Pos} {k:D->Option α} (X:Ok C A n env q F s) (hg:isGlob env.scope (Str.ofString "tuple")=true)
  (h:gsQ C.T K env.scope q args k=some r) (kk:∀ d,k d=some r->Cont C F s d Q):wpAny (model C.prog C.w) A (eval (.Call (.Name (Str.ofString "tuple") fp) args [] pos) env) Q E s:=by
 apply oneM h;clear h;intro g h
 apply genM h;clear h;intro elt gens scope gp h
 apply addM h;clear h;intro l op r' bp h
 refine ifE h fun eop h2=>?_
 clear h;subst eop
 apply nameM h2;clear h2;intro x xp h
 apply nameM h;clear h;intro y yp h
 apply compM h;clear h;intro t it ifs h
 apply tupleM h;clear h;intro ts kt tp h
 apply twoM h;clear h;intro t1 t2 h
 apply nameM h;clear h;intro x' xp' h
 apply nameM h;clear h;intro y' yp' h
 apply callM h;clear h;intro f as ks cp h
 refine ifE h fun ek h2=>?_
 clear h
 have ek:=wax ek
 subst ek
 apply nameM h2;clear h2;intro z zp h
 apply twoM h;clear h;intro a b h
 refine viaG fun G hG=>?_
 refine ifE h fun c h=>andE c fun c c8=>andE c fun c c7=>andE c fun c c6=>andE c fun c c5=>andE c fun c c4=>andE c fun c c3=>andE c fun c1 c2=>?_
 refine hG ?_
 clear hG
 have e2:=eq_of_beq c2
 have e4:=eq_of_beq c4
 have e5:=eq_of_beq c5
 have e1:=wax c1
 have hh:=h
 clear c4 c5 c2 c1 h
 subst e4 e5 e2 e1
 exact wrW S X hg c3 (wty c6) (by simpa using c7) (by simpa using c8) hh kk
end
structure SoundX (C:Fr) (n:Nat) (K:KJ) (CF:Str->List D->Option D) (CM:Str->Str->List D->Option D):Prop where
 ev:SoundEv C n K.ev
 tr:SoundTr C n K.tr
 it:SoundIt C n K.it
 fn:SoundFn C n CF
 meth:SoundMeth C n CM
 kn:Known C
 st:∃ mcs,StOk C mcs
 set:NoSet K.it
section
variable {C:Fr} {F F':FH} {A:Around} {E:Value->Shared->Prop} {s:Shared} {Q:Value->Shared->Prop} {d:D} {env:Env} {q:QV} {n:Nat} {K:KJ} {α:Type} {r:α} {CF:Str->List D->Option D} {CM:Str->Str->List D->Option D}
theorem woh (S:SoundX C n K CF CM) {f:Str} {fp pos:Pos} {args:List Expr} {k:D->Option α} (X:Ok C A n env q F s) (hs:noStar args=true) (h:woi C.T CF K env.scope q f args k=some r) (kk:∀ d,k d=some r->Cont C F s d Q) :
  wpAny (model C.prog C.w) A (eval (.Call (.Name f fp) args [] pos) env) Q E s:=
 ifE h fun hg h=>iteE h (fun c h=>by
  have e:=eq_of_beq c
  clear c
  subst e
  exact wu5 S.ev X hg h kk) fun _ h=>iteE h (fun c h=>by
  have e:=eq_of_beq c
  clear c
  subst e
  exact wnG S.ev X hg h kk) fun _ h=>by
  revert h
  generalize hb:bname f=o
  intro h
  cases o with
  | none=>exact wsh S.ev S.fn S.kn X hg hs h kk
  | some b=>
   refine iteE h (fun c h2=>andE c fun c2 _=>?_) fun _ h=>wvz S.ev X hg hs hb h kk
   have e:=eq_of_beq c2
   clear c c2 h hb
   subst e
   exact wwl S.ev X hg h2 kk
theorem wuS (S:SoundX C n K CF CM) {o:Expr} {m:Str} {ap pos:Pos} {args:List Expr} {k:D->Option α} (X:Ok C A n env q F s) (hs:noStar args=true) (h:methQ C.T CM K env.scope q o m ap args pos k=some r) (kk:∀ d,k d=some r->Cont C F s d Q) :
  wpAny (model C.prog C.w) A (eval (.Call (.Attribute o m ap) args [] pos) env) Q E s:=
 nifE h fun c h=>by
  rw [Bool.not_eq_true,Bool.not_eq_false']at c
  refine andE c fun ok hl=>?_
  have hl:=of_decide_eq_true hl
  clear c
  revert h
  generalize hm:mname m=mt
  intro h
  cases mt with
  | none=>exact woF S.ev S.meth S.kn X ok hl hs h kk
  | some mt=>exact wv7 S.ev X ok hl hs hm h kk
theorem wqL (S:SoundX C n K CF CM):SoundEv C n (fun sc q e k=>evSQ C.T CF CM K sc q e k):=by
 intro α A env q e k r F s Q E X h kk
 cases e<;>first | exact noneE h | skip
 case Constant=>exact wtN X.r.inn h kk
 case Name=>exact wuP X h kk
 case BinOp=>exact wwT S.ev X h kk
 case UnaryOp=>exact wxm S.ev X h kk
 case BoolOp op es pos=>
  refine wpEq (arm_eval_BoolOp ..) (bindE h fun d h1 h2=>?_)
  cases op with
  | And=>exact ww0 S.ev es X h1 (kk d h2)
  | Or=>exact wxp S.ev es X h1 (kk d h2)
 case IfExp=>exact wxO S.ev S.tr X h kk
 case Compare=>
  apply oneM h;clear h;intro op h
  apply oneM h;clear h;intro r' h
  exact nifE h fun hm h=>wvq S.ev X (Bool.not_eq_true _ ▸ hm) h fun b=>kk _
 case List=>exact wtj S.ev X h kk
 case Tuple=>exact wq8 S.ev X h kk
 case Dict=>exact wtK S.ev X h kk
 case ListComp elt gens scope pos=>
  have h2:listCompQ K env.scope q elt gens scope k=some r:=h
  clear h
  refine compE h2 fun t it ifs e _=>?_
  subst e
  exact wpEq (eval_ListComp ..) (wg5 S.ev S.tr S.it S.set X h2 (fun l h=>wmO rfl (kk _ h)) rfl)
 case DictComp kx vx gens scope pos=>
  have h2:dictCompQ K env.scope q kx vx gens scope k=some r:=h
  clear h
  refine compE h2 fun t it ifs e _=>?_
  subst e
  exact whe S.ev S.tr S.it S.set X h2 (fun l h=>wmO rfl (kk _ h)) rfl
 case Subscript=>exact iteE h (fun _ h=>wre S.ev X h kk) fun hs h=>wur S.ev X (Bool.not_eq_true _ ▸ hs) h kk
 case Attribute=>
  obtain ⟨mcs,co⟩:=S.st
  exact wr4 S.ev co X h kk
 case Call f args ks p=>
  refine ifE h fun c h2=>andE c fun ek hs=>?_
  have ek:=wax ek
  clear h c
  subst ek
  cases f<;>first | exact noneE h2 | skip
  case Name=>exact woh S X hs h2 kk
  case Attribute=>exact wuS S X hs h2 kk
theorem wxn (S:SoundX C n K CF CM):SoundTr C n (fun sc q e k=>trSQ C.T K sc q e k):=by
 intro α A env q e k r F s Q E X h kk
 have gen:K.ev env.scope q e (fun d=>boolK d k)=some r->wpAny (model C.prog C.w) A (do let v <- eval e env;standAt e.pos;holding [v] (truthy v)) Q E s:=fun h=>
  wpAny_bind (S.ev X h fun d h v sa F1 xa rv=>wpAny_bind (wpAny_standAt (wpAny_holding (by
   apply boolV (M:=fun v=>wpAny (model C.prog C.w) A (truthy v) Q E sa) h rv;intro b h
   exact wpAny_truthy_bool (kk b h sa F1 xa)))))
 cases e<;>first | exact noneE h | exact gen h | skip
 case UnaryOp op x p=>
  refine iteE h (fun c h2=>?_) fun c h2=>?_
  ·clear h gen
   subst c
   exact wpEq (arm_isTrue_UnaryOp ..) (wpAny_bind (S.tr X h2 fun b h sa F1 xa=>wpAny_pure (kk _ h sa F1 xa)))
  ·have g:=gen h2
   cases op<;>first | exact g | exact absurd rfl c
 case BoolOp op es p=>
  refine wpEq (arm_isTrue_BoolOp ..) (bindE h fun b h1 h2=>?_)
  cases op with
  | And=>exact wtZ S.tr es X h1 (kk b h2)
  | Or=>exact wtY S.tr es X h1 (kk b h2)
 case Compare=>
  apply oneM h;clear h;intro op h
  apply oneM h;clear h;intro r' h
  exact nifE h fun hm h=>wvp S.ev X (Bool.not_eq_true _ ▸ hm) h kk
end
section
variable {C:Fr} {F F':FH} {A:Around} {E:Value->Shared->Prop} {s:Shared} {Q:Value->Shared->Prop} {d:D} {env:Env} {q:QV} {n:Nat} {K:KJ} {α:Type} {r:α} {CF:Str->List D->Option D} {CM:Str->Str->List D->Option D}
theorem wgi {t:Expr} (h:isNameE t=true):tgtOk .plain t=true/\tgtOk .lst t=true:=by
 cases t<;>first | exact ⟨rfl,rfl⟩ | exact ffE h
theorem wor {l:List D} (h:seqOf d=some l):isObjD d=false:=by
 cases d<;>first | rfl | exact noneE h
theorem wul {t:Expr} (h:isNameE t=true) (d:D):tgtOk (itKind d) t=true:=by
 cases d<;>first | exact (wgi h).1 | exact (wgi h).2
theorem woQ {t:Expr} {v:Value} {k:List D->Option α} {Z:Prop} (hF:F.In s.heap) (vv:View C s.heap F v d) (z:Z->isObjD d=false->∀ b,v=.ref b->F b≠none)
  (h:callSeqT t d k=some r) (kk:∀ ds,k ds=some r->ItQ C (fun b=>Z->F b≠none) F s t ds Q):wpAny (model C.prog C.w) A (pyIter v) Q E s:=
 iteE h (fun hn h=>bindE h fun l e h=>wmp e (wul hn d) vv hF (fun b e' hz=>z hz (wor e) b e') (kk l h)) fun _ h=>ifE h fun ht h=>listE h fun l e h=>by
  subst e
  exact wmp (d0:=.list l) rfl ht vv hF (fun b e' hz=>z hz rfl b e') (kk l h)
theorem wtp {t:Expr} {v:Value} {k:List D->Option α} {Z:Prop} (hF:F.In s.heap) (vv:View C s.heap F v d) (z:Z->isObjD d=false->∀ b,v=.ref b->F b≠none)
  (h:seqT t d k=some r) (kk:∀ ds,k ds=some r->ItQ C (fun b=>Z->F b≠none) F s t ds Q):wpAny (model C.prog C.w) A (pyIter v) Q E s:=by
 cases d with
 | dict kvs=>exact iteE h (fun hn h=>wqk (wgi hn).1 vv hF (fun b e' hz=>z hz rfl b e') (kk _ h)) fun _ h=>ifE h fun _ h=>noneE h
 | _=>exact woQ hF vv z h kk
theorem woY {P:D->Prop} {a:D} (h:P a):∀ d∈[a],P d:=fun d hd=>List.mem_singleton.mp hd ▸ h
theorem wuj {P:D->Prop} {a b:D} (h:P a) (h':P b):∀ d∈[a,b],P d:=fun d hd=>(List.mem_cons.mp hd).elim (fun e=>e ▸ h) fun hd=>woY h' d hd
theorem wog (S:SoundEv C n K.ev) {f:Str} {fp pos:Pos} {args:List Expr} {v:Value} {k:List D->Option α} (X:Ok C A n env q F s) (hg:isGlob env.scope f=true) (b:BiOk f v) (hs:noStar args=true) (h:pkLQ C.T K env.scope q args k=some r)
  (kk:∀ ds,k ds=some r->∀ vs s' F',Ext F s F' s'->Views C F' s'.heap.get? ds vs->FzAll q F' ds vs->wpAny (model C.prog C.w) A (call v vs) Q E s') :
  wpAny (model C.prog C.w) A (eval (.Call (.Name f fp) args [] pos) env) Q E s:=
 callBi X hg b hs (whE S args X h kk)
theorem wwe (S:SoundX C n K CF CM) {f:Str} {fp pos:Pos} {args:List Expr} {t:Expr} {k:List D->Option α} (X:Ok C A n env q F s) (hs:noStar args=true) (h:itNQ C.T CF K env.scope q f args t k=some r)
  (kk:∀ ds,k ds=some r->∀ F1 hH,Ext F s F1 hH->ItQ C (fun b=>AllFz q->F1 b≠none) F1 hH t ds Q) :
  wpAny (model C.prog C.w) A (eval (.Call (.Name f fp) args [] pos) env) (fun x sa=>wpAny (model C.prog C.w) A (pyIter x) Q E sa) E s:=
 iteE h (fun c h2=>andE c fun hg c2=>by
  have e:=eq_of_beq c2
  clear c c2 h
  subst e
  exact ifE h2 fun ht h=>wmw S.ev X hg hs h fun a b h ha ha' hb hb' hab z sa F1 t u v xa hr=>won ht hr xa.inn ha ha' hb hb' (kk _ h F1 sa xa)) fun _ h=>iteE h (fun c h2=>andE c fun hg c2=>by
  have e:=eq_of_beq c2
  clear c c2 h
  subst e
  exact ifE h2 fun ht h=>wog S.ev X hg wso hs h fun ds h vs sa F1 xa vv z=>bindE h fun l e h=>by
   clear h2
   refine twoE (show twoK ds _=some l from e) fun a b qd e2=>listE e2 fun la ea e3=>listE e3 fun lb eb e4=>?_
   clear e e2 e3
   subst ea eb qd
   have e:=Option.some.inj e4
   clear e4
   subst e
   exact wq7 ht vv xa.inn (fun b hb hz=>z hz (wuj rfl rfl) b hb) (kk _ h F1 sa xa)) fun _ h=>iteE h (fun c h2=>andE c fun hg c2=>by
  have e:=eq_of_beq c2
  clear c c2 h
  subst e
  exact ifE h2 fun ht h=>wog S.ev X hg wvy hs h fun ds h vs sa F1 xa vv z=>bindE h fun l e h=>by
   clear h2
   refine oneE (show oneK ds _=some l from e) fun a qd e2=>listE e2 fun la ea e4=>?_
   clear e e2
   subst ea qd
   have e:=Option.some.inj e4
   clear e4
   subst e
   exact wql ht vv xa.inn (fun b hb hz=>z hz (woY rfl) b hb) (kk _ h F1 sa xa)) fun _ h=>woh S X hs h fun d h v sa F1 xa rv=>woQ xa.inn (rv.view xa.inn) (fun _ _=>Rep.fz rv) h fun ds h=>kk ds h F1 sa xa
theorem wtr (S:SoundX C n K CF CM) {o:Expr} {ap pos:Pos} {t:Expr} {k:List D->Option α} (X:Ok C A n env q F s) (ok:callOk o ap pos=true) (ht:tgtOk .pairs t=true) (h:(pkQ C.T K env.scope q o fun d=>(itemsQ d).bind k)=some r)
  (kk:∀ ds,k ds=some r->∀ F1 hH,Ext F s F1 hH->ItQ C (fun b=>AllFz q->F1 b≠none) F1 hH t ds Q) :
  wpAny (model C.prog C.w) A (eval (.Call (.Attribute o (Str.ofString "items") ap) [] [] pos) env) (fun x sa=>wpAny (model C.prog C.w) A (pyIter x) Q E sa) E s:=by
 obtain ⟨hb,hline⟩:=wbV (env:=env) (m:=(Str.ofString "items")) ok
 refine wpAny_Call_method_lateS hb rfl hline (wbp S.ev X h fun d h v sa F1 xa vv z=>bindE h fun l e h=>dictE (show dictK d _=some l from e) fun kvs ed e2=>?_)
 clear e
 have e:=Option.some.inj e2
 clear e2
 subst ed
 subst e
 cases vv with | @mk a o es ho hy hd ry=>
 have dy:sa.heap.DictOf (anyKind C.prog C.w) a es:=Heap.dictOf_iff.mpr ⟨_,ho,hd⟩
 obtain ⟨ep,da⟩:=dy.dictAt
 have xb:=Ext.same (s':={ sa with heap:=sa.heap.push { cls:=.type "dict_items",data:=.fields #[.ref a] } }) xa.inn (Keep.push sa.heap { cls:=.type "dict_items",data:=.fields #[.ref a] })
 exact ⟨"dict","dict.items",PySem.F.plainAttrs_dict,PySem.F.slot_dict_items,PySem.F.type_dict_items,dy.typeIs,dy.mapOf.noDict,callWith_method0 (call_meetsIn PySem.F.slot_dict_items dy.typeIs PySem.F.entry_dict_items (PySem.F.args_dict_items_1 _) (meets_dict_items (anyKind C.prog C.w) a hy)
  ⟨⟨es,dy⟩,woo (s:={ sa with heap:=sa.heap.push { cls:=.type "dict_items",data:=.fields #[.ref a] } }) ht ⟨_,Heap.get?_push_size _ rfl,rfl,rfl⟩ (da.push _) ry xb.inn (fun hz=>z hz rfl a rfl) (kk _ h F1 _ (xa.trans xb))⟩)⟩
theorem wuh (S:SoundX C n K CF CM) {o:Expr} {ap pos:Pos} {t:Expr} {k:List D->Option α} (X:Ok C A n env q F s) (ok:callOk o ap pos=true) (ht:tgtOk .plain t=true) (h:(pkQ C.T K env.scope q o fun d=>(valsQ d).bind k)=some r)
  (kk:∀ ds,k ds=some r->∀ F1 hH,Ext F s F1 hH->ItQ C (fun b=>AllFz q->F1 b≠none) F1 hH t ds Q) :
  wpAny (model C.prog C.w) A (eval (.Call (.Attribute o (Str.ofString "values") ap) [] [] pos) env) (fun x sa=>wpAny (model C.prog C.w) A (pyIter x) Q E sa) E s:=by
 obtain ⟨hb,hline⟩:=wbV (env:=env) (m:=(Str.ofString "values")) ok
 refine wpAny_Call_method_lateS hb rfl hline (wbp S.ev X h fun d h v sa F1 xa vv z=>bindE h fun l e h=>dictE (show dictK d _=some l from e) fun kvs ed e2=>?_)
 clear e
 have e:=Option.some.inj e2
 clear e2
 subst ed
 subst e
 cases vv with | @mk a o es ho hy hd ry=>
 have dy:sa.heap.DictOf (anyKind C.prog C.w) a es:=Heap.dictOf_iff.mpr ⟨_,ho,hd⟩
 obtain ⟨ep,da⟩:=dy.dictAt
 have xb:=Ext.same (s':={ sa with heap:=sa.heap.push { cls:=.type "dict_values",data:=.fields #[.ref a] } }) xa.inn (Keep.push sa.heap { cls:=.type "dict_values",data:=.fields #[.ref a] })
 exact ⟨"dict","dict.values",PySem.F.plainAttrs_dict,PySem.F.slot_dict_values,PySem.F.type_dict_values,dy.typeIs,dy.mapOf.noDict,callWith_method0 (call_meetsIn PySem.F.slot_dict_values dy.typeIs PySem.F.entry_dict_values (PySem.F.args_dict_values_1 _) (meets_dict_values (anyKind C.prog C.w) a hy)
  ⟨⟨es,dy⟩,wqj (s:={ sa with heap:=sa.heap.push { cls:=.type "dict_values",data:=.fields #[.ref a] } }) ht ⟨_,Heap.get?_push_size _ rfl,rfl,rfl⟩ (da.push _) ry xb.inn (fun hz=>z hz rfl a rfl) (kk _ h F1 _ (xa.trans xb))⟩)⟩
theorem wwf (S:SoundX C n K CF CM) {o:Expr} {m:Str} {ap pos:Pos} {args:List Expr} {t:Expr} {k:List D->Option α} (X:Ok C A n env q F s) (h:itAQ C.T K env.scope q o m ap args pos t k=some r)
  (kk:∀ ds,k ds=some r->∀ F1 hH,Ext F s F1 hH->ItQ C (fun b=>AllFz q->F1 b≠none) F1 hH t ds Q) :
  wpAny (model C.prog C.w) A (eval (.Call (.Attribute o m ap) args [] pos) env) (fun x sa=>wpAny (model C.prog C.w) A (pyIter x) Q E sa) E s:=by
 refine nifE h fun ok h2=>nifE h2 fun ea h3=>?_
 clear h h2
 rw [Bool.not_eq_true,Bool.not_eq_false']at ok ea
 have ea:=wax ea
 subst ea
 refine iteE h3 (fun c h4=>?_) fun _ h5=>ifE h5 fun c h4=>?_
 ·have e:=eq_of_beq c
  clear c h3
  subst e
  exact ifE h4 fun ht h=>wtr S X ok ht h kk
 ·have e:=eq_of_beq c
  clear c h3 h5
  subst e
  exact ifE h4 fun ht h=>wuh S X ok ht h kk
theorem wxI (S:SoundX C n K CF CM):SoundIt C n (fun sc q e t k=>itSQ C.T CF K sc q e t k):=by
 intro α A env q e t k r F s Q E X h kk
 have gen:(pkQ C.T K env.scope q e fun d=>seqT t d k)=some r->wpAny (model C.prog C.w) A (eval e env) (fun x sa=>wpAny (model C.prog C.w) A (pyIter x) Q E sa) E s:=fun h=>
  wbp S.ev X h fun d h v sa F1 xa vv z=>wtp xa.inn vv z h fun ds h=>kk ds h F1 sa xa
 cases e<;>first | exact noneE h | exact gen h | skip
 case Call f args ks p=>
  clear gen
  refine ifE h fun c h2=>andE c fun ek hs=>?_
  have ek:=wax ek
  clear h c
  subst ek
  cases f<;>first | exact noneE h2 | skip
  case Name=>exact wwe S X hs h2 kk
  case Attribute=>exact wwf S X h2 kk
end
structure Stp (F:FH) (W:Addr->Prop) (s:Shared) (F':FH) (W':Addr->Prop) (s':Shared):Prop where
 le:F.le F'
 keep:∀ b o,¬ W b->¬ Tab0 o->s.heap.get? b=some o->s'.heap.get? b=some o
 tab:∀ b o,¬ W b->Tab0 o->s.heap.get? b=some o->∃ o',s'.heap.get? b=some o'/\Grown o o'
 alive:∀ b,s.heap.get? b≠none->s'.heap.get? b≠none
 w:∀ b,W' b->W b\/s.heap.get? b=none
 f:∀ b o,F' b=some o->F b=some o\/W b\/s.heap.get? b=none
 calm:Calm s s'
noncomputable abbrev orTab (C:Fr) (W:Addr->Prop):Addr->Prop:=fun b=>W b\/b=tabAt C
structure FnRel (C:Fr) (env:Env) (F:FH) (W:Addr->Prop) (h:Heap) (q:QV):Prop where
 st:StRel C env F W (orTab C W) h env.scope q
 cW:∀ x c,env.cells.lookup x=some c->W c
 oW:Owns env h q W
 oo:∀ ⦃x y d d' v v'⦄,x≠y->lookq x q=some (.own d)->lookq y q=some (.own d')->isVar env.scope x=true->isVar env.scope y=true->Holds env h x v->Holds env h y v'->∀ a∈tops h.get? v,a ∉ tops h.get? v'
 sf:∀ ⦃x c fs v⦄,lookq x q=some (.own (.obj c fs))->isVar env.scope x=true->Holds env h x v->v=.ref (env.locals - 1)
section
variable {C:Fr} {F F':FH} {A:Around} {E:Value->Shared->Prop} {s s':Shared} {d d':D} {env:Env} {q q':QV} {n:Nat} {W W':Addr->Prop} {h h':Heap} {a₀:Addr} {x:Str} {v:Value} {sl:Slot}
theorem Stp.refl:Stp F W s F W s:=⟨FH.le.refl F,fun _ _ _ _ e=>e,fun b o _ t e=>⟨o,e,.refl t⟩,fun _ e=>e,fun _ e=>.inl e,fun _ _ e=>.inl e,.refl s⟩
theorem noAt {b:Addr} {o:Obj} (e:h.get? b=some o) (e':h.get? b=none) {P:Prop}:P:=noneE (e'.symm.trans e)
theorem Stp.trans {F1 F2:FH} {W1 W2:Addr->Prop} {sa s₂:Shared} (x:Stp F W s F1 W1 sa) (y:Stp F1 W1 sa F2 W2 s₂):Stp F W s F2 W2 s₂:=by
 have nw:∀ {b o},¬ W b->s.heap.get? b=some o->¬ W1 b:=fun {b o} hb e q=>(x.w b q).elim hb fun q=>noAt e q
 have dead:∀ b,sa.heap.get? b=none->s.heap.get? b=none:=fun b e=>by
  cases q:s.heap.get? b with
  | none=>rfl
  | some o=>exact absurd e (x.alive b (by rw [q];exact wav))
 exact ⟨x.le.trans y.le,fun b o hb n e=>y.keep b o (nw hb e) n (x.keep b o hb n e),
  fun b o hb t e=>by obtain ⟨o',e',t'⟩:=x.tab b o hb t e;obtain ⟨o'',e'',t''⟩:=y.tab b o' (nw hb e) t'.tab e';exact ⟨o'',e'',t'.trans t''⟩,fun b e=>y.alive b (x.alive b e),
  fun b q=>(y.w b q).elim (x.w b) fun q=>.inr (dead b q),
  fun b o q=>(y.f b o q).elim (x.f b o) fun q=>q.elim (fun q=>.inr (x.w b q)) fun q=>.inr (.inr (dead b q)),x.calm.trans y.calm⟩
theorem Stp.of (x:Ext F s F' s'):Stp F W s F' W s':=
 ⟨x.le,fun b o _ n e=>x.keep.at_ b o e n,fun b o _ t e=>x.keep.tab b o e t,fun b e=>x.keep.alive e,fun _ q=>.inl q,fun b o q=>(x.new b o q).imp_right .inr,x.calm⟩
theorem Stp.sameBut {a:Addr} (hw:W a) (hs:Heap.SameBut a s.heap s'.heap) (ha:s'.heap.get? a≠none) (c:Calm s s':=by first | exact ⟨rfl,fun x=>x⟩ | assumption):Stp F W s F W s':=
 have k:=wmt hw hs
 ⟨FH.le.refl F,fun b o hb _ e=>k b o hb e,fun b o hb t e=>⟨o,k b o hb e,.refl t⟩,fun b e=>wgd hs ha e,fun _ q=>.inl q,fun _ _ q=>.inl q,c⟩
theorem Stp.widen (x:Stp F W s F' W s') (hw:∀ b,W' b->W b\/s.heap.get? b=none):Stp F W s F' W' s':=⟨x.le,x.keep,x.tab,x.alive,hw,x.f,x.calm⟩
theorem Stp.mono (x:Stp F W s F W s') (hle:∀ b,W b->W' b):Stp F W' s F W' s':=
 ⟨x.le,fun b o hb n e=>x.keep b o (fun q=>hb (hle b q)) n e,fun b o hb t e=>x.tab b o (fun q=>hb (hle b q)) t e,x.alive,fun b q=>.inl q,fun b o q=>(x.f b o q).imp_right fun q=>q.imp_left (hle b),x.calm⟩
theorem Stp.but {sa s₂:Shared} {P:Addr->Prop} (x:Stp F W s F' W' sa) (hP:∀ b,P b->s.heap.get? b=none) (k:∀ b o,¬ P b->sa.heap.get? b=some o->s₂.heap.get? b=some o) (c:Calm sa s₂:=by first | exact ⟨rfl,fun x=>x⟩ | assumption):Stp F W s F' W' s₂:=by
 have np:∀ b o,s.heap.get? b=some o->¬ P b:=fun b o e q=>noAt e (hP b q)
 refine ⟨x.le,fun b o hb n e=>k b o (np b o e) (x.keep b o hb n e),fun b o hb t e=>by obtain ⟨o',e',t'⟩:=x.tab b o hb t e;exact ⟨o',k b o' (np b o e) e',t'⟩,fun b e=>?_,x.w,x.f,x.calm.trans c⟩
 cases q:s.heap.get? b with
 | none=>exact absurd q e
 | some o=>
  cases q1:sa.heap.get? b with
  | none=>exact absurd q1 (x.alive b e)
  | some o1=>rw [k b o1 (np b o q) q1];exact wav
theorem Stp.ext {s₀:Shared} (x:Stp F W s F' W' s') (k:KeepT s₀.heap s.heap) (c:Calm s₀ s) (hw:∀ b,W b->s₀.heap.get? b=none) (i:F'.In s'.heap):Ext F s₀ F' s':=by
 have nw:∀ b o,s₀.heap.get? b=some o->¬ W b:=fun b o e q=>noAt e (hw b q)
 refine ⟨x.le,i,⟨fun b o e n=>x.keep b o (nw b o e) n (k.at_ b o e n),fun b o e t=>?_⟩,fun b o q=>(x.f b o q).imp_right fun q=>q.elim (hw b) fun q=>k.gone q,c.trans x.calm⟩
 obtain ⟨o',e',t'⟩:=k.tab b o e t
 obtain ⟨o'',e'',t''⟩:=x.tab b o' (nw b o e) t'.tab e'
 exact ⟨o'',e'',t'.trans t''⟩
theorem FnRel.mv (r:FnRel C env F W h q) (st:StRel C env F' W (orTab C W) h' env.scope q') (z:Still env h h' q q'):FnRel C env F' W h' q':=
 ⟨st,r.cW,r.oW.mv z fun _=>id,fun x y d d' v v' hn hl hl' hv hv' hh hh' a ha=>by
  obtain ⟨h1,h2,h3⟩:=z hl hv hh
  obtain ⟨g1,g2,g3⟩:=z hl' hv' hh'
  rw [h3]at ha;rw [g3]
  exact r.oo hn h1 g1 hv hv' h2 g2 a ha,fun x c fs v hl hv hh=>by obtain ⟨h1,h2,_⟩:=z hl hv hh;exact r.sf h1 hv h2⟩
theorem FnRel.ext (r:FnRel C env F W s.heap q) (x:Ext F s F' s'):FnRel C env F' W s'.heap q:=r.mv (r.st.ext x) (r.st.rel.stillX x)
theorem FnRel.less (r:FnRel C env F W h q) (le:QLe q' q):FnRel C env F W h q':=r.mv (r.st.less le) fun _ _ _ hl _ hh=>⟨le hl,hh,rfl⟩
theorem FnRel.touch {P:Addr->Prop} (r:FnRel C env F W h q) (hk:∀ b o,¬ P b->h.get? b=some o->h'.get? b=some o) (h1:∀ b,P b->F b=none) (h2:∀ b,P b->¬ W b) (h3:¬ P (tabAt C)):FnRel C env F W h' q:=by
 obtain ⟨a,_,c⟩:=r.st.touch hk h1 h2 fun b q q2=>q2.elim (h2 b q) fun e=>h3 (e ▸ q)
 exact r.mv a c
theorem FnRel.grow (r:FnRel C env F W h q) (hle:∀ b,W b->W' b) (hw:∀ b,W' b->F b=none/\h.get? b≠none/\b≠tabAt C):FnRel C env F W' h q:=
 ⟨{ r.st with
   wF:=fun b q=>(hw b q).1,wIn:=fun b q=>(hw b q).2.1,wL:=hle _ r.st.wL
   set:=fun y hy=>(r.st.set y hy).imp_right fun ⟨a,c,v,e,q,hc⟩=>⟨a,c,v,e,hle _ q,hc⟩
   cB:=fun x c e=>.inr (hle _ (r.cW x c e)),oB:=fun x d v hl hv hh a ha=>.inl (hle _ (r.oW hl hv hh a ha)),tW:=fun q=>(hw _ q).2.2 rfl,tB:=.inr rfl },
  fun x c e=>hle _ (r.cW x c e),fun x d v hl hv hh a ha=>hle _ (r.oW hl hv hh a ha),r.oo,r.sf⟩
theorem FnRel.bound (r:FnRel C env F W h q) (hw:W a₀) (b:Bnd C env F a₀ h h' x v sl)
  (ow:∀ d,sl=.own d->(∀ a∈tops h.get? v,W a/\∀ y d' u,y≠x->lookq y q=some (.own d')->isVar env.scope y=true->Holds env h y u->a ∉ tops h.get? u)/\isObjD d=false):FnRel C env F W h' (setq x sl q) where
 st:=r.st.bound hw b fun d e a ha=>.inl ((ow d e).1 a ha).1
 cW:=r.cW
 oW y d u hl hv hh a ha:=b.el r.st.rel hl hv hh (fun _ e e2 e3=>((ow d e).1 a (e2 ▸ e3 ▸ ha)).1) fun _ hl hh e3=>r.oW hl hv hh a (e3 ▸ ha)
 oo y z d d' u u' hn hl hl' hv hv' hh hh' a ha hb:=
  b.el r.st.rel hl hv hh (fun e0 e e2 e3=>b.el r.st.rel hl' hv' hh' (fun g0 _ _ _=>hn (e0.trans g0.symm)) fun g0 gl gh g3=>((ow d e).1 a (e2 ▸ e3 ▸ ha)).2 z d' u' g0 gl hv' gh (g3 ▸ hb)) fun e0 el eh e3=>
   b.el r.st.rel hl' hv' hh' (fun g0 g g2 g3=>((ow d' g).1 a (g2 ▸ g3 ▸ hb)).2 y d u e0 el hv eh (e3 ▸ ha)) fun _ gl gh g3=>r.oo hn el gl hv hv' eh gh a (e3 ▸ ha) (g3 ▸ hb)
 sf y c fs u hl hv hh:=b.el r.st.rel hl hv hh (fun _ e _ _=>ffE (ow _ e).2.symm) fun _ hl hh _=>r.sf hl hv hh
structure Upd (C:Fr) (env:Env) (F:FH) (q:QV) (a₀:Addr) (h h':Heap) (x:Str) (v:Value) (d d':D):Prop where
 hl:lookq x q=some (.own d)
 hv:isVar env.scope x=true
 hh:Holds env h x v
 but:Heap.SameBut a₀ h h'
 mem:a₀∈tops h.get? v
 view:View C h' F v d'
 tops:tops h'.get? v=tops h.get? v
 obj:isObjD d'=isObjD d
theorem Holds.same {y:Str} {u:Value} (hs:Heap.SameBut a₀ h h') (ap:Apart env a₀) (hu:Holds env h y u):Holds env h' y u:=by
 rcases hu with ⟨a,m,n,e⟩ | ⟨a,c,e,o,ho,hd⟩
 ·exact .inl ⟨a,m,n.sameBut hs (Ne.symm ap.1),e⟩
 ·exact .inr ⟨a,c,e,o,by rw [hs.2 c (ap.2 y c e)];exact ho,hd⟩
theorem Upd.el {P:Prop} (u:Upd C env F q a₀ h h' x v d d') (r:FnRel C env F W h q) {y:Str} {e:D} {w:Value} (hl:lookq y (setq x (.own d') q)=some (.own e)) (hv:isVar env.scope y=true) (hh:Holds env h' y w)
  (f:y=x->e=d'->w=v->P) (g:y≠x->lookq y q=some (.own e)->Holds env h y w->Mine.Py.tops h'.get? w=Mine.Py.tops h.get? w->View C h' F w e->P):P:=by
 have ap:=r.st.rel.own u.hl u.hv u.hh a₀ u.mem
 exact setqE hl (fun e1 e2=>by
  subst e1
  exact f rfl (Slot.own.inj e2).symm (hh.fn (u.hh.same u.but ap))) fun hn hl=>by
  obtain ⟨w',h1,h2⟩:=r.st.rel.vars hl hv
  have e:=hh.fn (h1.same u.but ap);subst e
  have hk:∀ a∈Mine.Py.tops h.get? w,∀ o,h.get? a=some o->h'.get? a=some o:=fun a hta o e=>by
   rw [u.but.2 a fun q=>r.oo (Ne.symm hn) u.hl hl u.hv hv u.hh h1 a₀ u.mem (q ▸ hta)];exact e
  exact g hn hl h1 (wcR h2 hk) (Vw.gen (FH.le.refl F) e (fun b hb o e _=>hk b hb o e) h2)
theorem FnRel.upd0 (r:FnRel C env F W h q) (u:Upd C env F q a₀ h h' x v d d'):W a₀/\h'.get? a₀≠none/\FnRel C env F W h' (setq x (.own d') q):=by
 have ap:=r.st.rel.own u.hl u.hv u.hh a₀ u.mem
 have hw:=r.oW u.hl u.hv u.hh a₀ u.mem
 have ha:h'.get? a₀≠none:=Vw.alive u.view (u.tops ▸ u.mem)
 have oB:∀ {P:Addr->Prop},Owns env h q P->Owns env h' (setq x (.own d') q) P:=fun o y e w hl hv hh a ha=>u.el r hl hv hh (fun _ _ e2=>o u.hl u.hv u.hh a (u.tops ▸ e2 ▸ ha)) fun _ hl hh e3 _=>o hl hv hh a (e3 ▸ ha)
 refine ⟨hw,ha,r.st.step hw u.but ha (by obtain ⟨m,n⟩:=r.st.ns;exact ⟨m,n.sameBut u.but (Ne.symm ap.1)⟩) (fun y c w e hc=>⟨w,by obtain ⟨o,ho,hd⟩:=hc;exact ⟨o,by rw [u.but.2 c (ap.2 y c e)];exact ho,hd⟩⟩)
  (fun {y sl} hl hv=>setqE hl (fun e e'=>by subst e;subst e';exact ⟨v,u.hh.same u.but ap,u.view⟩) fun hn hl'=>by
   obtain ⟨w,h1,h2⟩:=r.st.rel.vars hl' hv
   refine ⟨w,h1.same u.but ap,?_⟩
   cases sl with
   | fz d=>exact h2
   | own d=>exact u.el r hl hv (h1.same u.but ap) (fun e=>absurd e hn) fun _ _ _ _ g=>g) (oB r.st.rel.own) (oB r.st.oB),r.cW,oB r.oW,fun y z e e' w w' hn hl hl' hv hv' hh hh' a ha hb=>?_,fun y c fs w hl hv hh=>?_⟩
 ·exact u.el r hl hv hh (fun e0 _ e2=>u.el r hl' hv' hh' (fun g0 _ _=>hn (e0.trans g0.symm)) fun g0 gl gh g3 _=>r.oo (Ne.symm g0) u.hl gl u.hv hv' u.hh gh a (u.tops ▸ e2 ▸ ha) (g3 ▸ hb)) fun e0 el eh e3 _=>
   u.el r hl' hv' hh' (fun _ _ g2=>r.oo e0 el u.hl hv u.hv eh u.hh a (e3 ▸ ha) (u.tops ▸ g2 ▸ hb)) fun _ gl gh g3 _=>r.oo hn el gl hv hv' eh gh a (e3 ▸ ha) (g3 ▸ hb)
 ·exact u.el r hl hv hh (fun _ e e2=>by
   have:=u.obj
   have hl:=u.hl
   rw [<- e]at this
   cases d<;>first | exact ffE this.symm | exact e2 ▸ r.sf hl u.hv u.hh) fun _ hl hh _ _=>r.sf hl hv hh
theorem FnRel.upd (r:FnRel C env F W s.heap q) (u:Upd C env F q a₀ s.heap s'.heap x v d d') (c:Calm s s':=by first | exact ⟨rfl,fun x=>x⟩ | assumption):FnRel C env F W s'.heap (setq x (.own d') q)/\Stp F W s F W s':=by
 obtain ⟨hw,ha,r'⟩:=r.upd0 u
 exact ⟨r',Stp.sameBut hw u.but ha c⟩
theorem wuf (view:View C h F v d) (hd:isListD d=true):∃ a o,v=.ref a/\h.get? a=some o/\tops h.get? v=[a]/\∀ F',F.le F'->F' a=some o->Rep C F' v d:=by
 cases d<;>first | exact ffE hd | skip
 ·cases view with | mk e r=>exact ⟨_,_,rfl,e,waU e rfl,fun F' le ef=>.mk ef (RepAll.mono le _ r)⟩
 ·cases view with | mk e y z r=>exact ⟨_,_,rfl,e,waU e (by obtain ⟨_,_,x,_⟩:=z;exact x.2.1),fun F' le ef=>.mk ef y z (RepKV.mono le _ r)⟩
theorem FnRel.frz1 (r:FnRel C env F W h q):∃ F' W',FnRel C env F' W' h (wqK env.scope x q)/\∀ s:Shared,s.heap=h->Stp F W s F' W' s:=by
 have stay:∃ F' W',FnRel C env F' W' h q/\∀ s:Shared,s.heap=h->Stp F W s F' W' s:=⟨F,W,r,fun _ _=>Stp.refl⟩
 unfold wqK
 by_cases hv:isVar env.scope x=true
 ·rw [if_pos hv]
  generalize hl:lookq x q=o
  rcases o with _ | d | d
  ·exact stay
  ·exact stay
  ·show ∃ F' W',FnRel C env F' W' h (if isListD d then setq x (.fz d) q else q)/\_
   by_cases hd:isListD d=true
   ·rw [if_pos hd]
    obtain ⟨v,hh,view⟩:=r.st.rel.vars hl hv
    obtain ⟨a,o,rfl,ea,ht,rep⟩:=wuf view hd
    have hat:a∈tops h.get? (.ref a):=waJ a
    have hw:=r.oW hl hv hh a hat
    have hfa:=r.st.wF a hw
    obtain ⟨n1,n2⟩:=r.st.rel.own hl hv hh a hat
    have le:F.le (F.put a o):=FH.le_put hfa
    have other:∀ {y e},lookq y (setq x (.fz d) q)=some (.own e)->y≠x/\lookq y q=some (.own e):=fun hl=>setqE hl (fun _ e=>Slot.noConfusion e) fun a b=>⟨a,b⟩
    have al:∀ {y e u},lookq y (setq x (.fz d) q)=some (.own e)->isVar env.scope y=true->Holds env h y u->∀ b∈tops h.get? u,W b/\b≠a:=fun hly hvy hhy b hb=>
     ⟨r.oW (other hly).2 hvy hhy b hb,fun e=>r.oo (Ne.symm (other hly).1) hl (other hly).2 hv hvy hh hhy a hat (e ▸ hb)⟩
    refine ⟨F.put a o,fun b=>W b/\b≠a,⟨{ r.st with
     rel:={ r.st.rel with
      inn:=fun b ob e=>by
       unfold FH.put at e
       by_cases c:b=a
       ·rw [if_pos c]at e;rw [c,<- e];exact ea
       ·rw [if_neg c]at e;exact r.st.rel.inn b ob e
      vars:=fun {y sl} hly hvy=>setqE hly (fun e e'=>by subst e;subst e';exact ⟨_,hh,rep _ le (FH.put_self _ _ _)⟩) fun _ hly=>by
       obtain ⟨u,h1,h2⟩:=r.st.rel.vars hly hvy
       refine ⟨u,h1,?_⟩
       cases sl with
       | fz d=>exact Rep.mono h2 le
       | own d=>exact Vw.mono h2 (FH.le.refl _) le
      own:=fun y e u hly=>r.st.rel.own (other hly).2
      ftab:=by unfold FH.put;rw [if_neg fun q:tabAt C=a=>r.st.tW (q ▸ hw)];exact r.st.rel.ftab
      code:=fun q=>by obtain ⟨c,e,z⟩:=r.st.rel.code q;exact ⟨c,e,z.mono le⟩ }
     wF:=fun b q=>by unfold FH.put;rw [if_neg q.2];exact r.st.wF b q.1
     wIn:=fun b q=>r.st.wIn b q.1
     wL:=⟨r.st.wL,Ne.symm n1⟩
     set:=fun y hy=>(r.st.set y hy).imp_right fun ⟨z,c,u,e,q,hc⟩=>⟨z,c,u,e,⟨q,n2 y c e⟩,hc⟩
     cB:=fun y c e=>.inr ⟨r.cW y c e,n2 y c e⟩
     oB:=fun y e u hly hvy hhy b hb=>.inl (al hly hvy hhy b hb)
     tW:=fun q=>r.st.tW q.1
     tB:=.inr rfl },fun y c e=>⟨r.cW y c e,n2 y c e⟩,fun y e u hly hvy hhy b hb=>al hly hvy hhy b hb,
     fun y z e e' u u' hn hly hlz=>r.oo hn (other hly).2 (other hlz).2,fun y c fs u hly=>r.sf (other hly).2⟩,fun s hs=>?_⟩
    subst hs
    refine ⟨le,fun b o _ _ e=>e,fun b o _ t e=>⟨o,e,.refl t⟩,fun _ e=>e,fun b q=>.inl q.1,fun b ob q=>?_,.refl _⟩
    unfold FH.put at q
    by_cases c:b=a
    ·exact .inr (.inl (c ▸ hw))
    ·rw [if_neg c]at q;exact .inl q
   ·rw [if_neg hd];exact stay
 ·rw [if_neg hv];exact stay
theorem FnRel.frz (xs:List Str):∀ {F:FH} {W:Addr->Prop} {q:QV},FnRel C env F W h q->∃ F' W',FnRel C env F' W' h (frzq env.scope xs q)/\∀ s:Shared,s.heap=h->Stp F W s F' W' s:=by
 induction xs with
 | nil=>intro F W q r;exact ⟨F,W,r,fun _ _=>Stp.refl⟩
 | cons x xs ih=>
  intro F W q r
  obtain ⟨F1,W1,re,sa⟩:=r.frz1 (x:=x)
  obtain ⟨F2,W2,rc,s₂⟩:=ih re
  exact ⟨F2,W2,rc,fun s hs=>(sa s hs).trans (s₂ s hs)⟩
end
noncomputable def FlQ (C:Fr) (next brk cont:QV->Option D) (ret:D->Option D) (r:D) (F:FH) (q:QV):Flow->Prop
 | .next=>next q=some r
 | .brk=>brk q=some r
 | .cont=>cont q=some r
 | .ret v=>∃ d,ret d=some r/\Rep C F v d
noncomputable def ExQ (C:Fr) (env:Env) (F:FH) (W:Addr->Prop) (s:Shared) (next brk cont:QV->Option D) (ret:D->Option D) (r:D) (Q:Flow->Shared->Prop):Prop:=
 ∀ ⦃s' F' W' q' f⦄,Stp F W s F' W' s'->FnRel C env F' W' s'.heap q'->FlQ C next brk cont ret r F' q' f->Q f s'
noncomputable def NxQ (C:Fr) (env:Env) (F:FH) (W:Addr->Prop) (s:Shared) (next:QV->Option D) (r:D) (Q:Flow->Shared->Prop):Prop:=
 ∀ ⦃s' F' W' q'⦄,Stp F W s F' W' s'->FnRel C env F' W' s'.heap q'->next q'=some r->Q .next s'
structure Fk (C:Fr) (A:Around) (n:Nat) (env:Env) (q:QV) (F:FH) (W:Addr->Prop) (s:Shared):Prop where
 R:Room A n
 g:Gd C F
 r:FnRel C env F W s.heap q
noncomputable def SoundEx (C:Fr) (n:Nat) (exs:Cx->Scope->QV->List Stmt->(QV->Option D)->(QV->Option D)->(QV->Option D)->(D->Option D)->Option D):Prop:=
 ∀ {A:Around} {env:Env} {c:Cx} {q:QV} {l:List Stmt} {next brk cont:QV->Option D} {ret:D->Option D} {r:D} {F:FH} {W:Addr->Prop} {s:Shared} {Q:Flow->Shared->Prop} {E:Value->Shared->Prop},
  Fk C A n env q F W s->exs c env.scope q l next brk cont ret=some r->ExQ C env F W s next brk cont ret r Q->wpAny (model C.prog C.w) A (execs l env) Q E s
structure OwnV (C:Fr) (F:FH) (h:Heap) (a:Addr) (d:D):Prop where
 view:View C h F (.ref a) d
 top:tops h.get? (.ref a)=[a]
 fr:F a=none
 ld:isListD d=true
noncomputable def OwnQ (C:Fr) (F:FH) (s:Shared) (d:D) (Q:Value->Shared->Prop):Prop:=∀ ⦃a s' F'⦄,s.heap.get? a=none->Ext F s F' s'->OwnV C F' s'.heap a d->Q (.ref a) s'
section
variable {C:Fr} {F F':FH} {A:Around} {E:Value->Shared->Prop} {s s':Shared} {d d':D} {env:Env} {q q':QV} {n:Nat} {W W':Addr->Prop} {h h':Heap} {a₀ a:Addr} {x:Str} {v:Value} {sl:Slot} {K:KJ} {r:D}
 {CF:Str->List D->Option D} {CM:Str->Str->List D->Option D} {next brk cont:QV->Option D} {ret:D->Option D}
theorem Fk.ok (X:Fk C A n env q F W s):Ok C A n env q F s:=⟨X.R,X.g,X.r.st.rel⟩
theorem Fk.ext (X:Fk C A n env q F W s) (x:Ext F s F' s'):Fk C A n env q F' W s':=⟨X.R,X.g.mono x.le,X.r.ext x⟩
theorem Fk.to (X:Fk C A n env q F W s) (y:Stp F W s F' W' s') (r:FnRel C env F' W' s'.heap q'):Fk C A n env q' F' W' s':=⟨X.R,X.g.mono y.le,r⟩
theorem ExQ.after {Q:Flow->Shared->Prop} (k:ExQ C env F W s next brk cont ret r Q) (x:Stp F W s F' W' s'):ExQ C env F' W' s' next brk cont ret r Q:=fun _ _ _ _ _ y r i=>k (x.trans y) r i
theorem ExQ.nx {Q:Flow->Shared->Prop} (k:ExQ C env F W s next brk cont ret r Q):NxQ C env F W s next r Q:=fun _ _ _ _ y r i=>k (f:=.next) y r i
theorem NxQ.after {Q:Flow->Shared->Prop} (k:NxQ C env F W s next r Q) (x:Stp F W s F' W' s'):NxQ C env F' W' s' next r Q:=fun _ _ _ _ y r i=>k (x.trans y) r i
theorem OwnV.alive (o:OwnV C F h a d):h.get? a≠none:=Vw.alive o.view (waJ a)
theorem OwnV.ext (o:OwnV C F s.heap a d) (x:Ext F s F' s'):OwnV C F' s'.heap a d:=
 ⟨o.view.ext x,(wgc o.view fun b _ ob e nt=>x.keep.at_ b ob e nt).trans o.top,x.still o.fr o.alive,o.ld⟩
theorem OwnV.at' (o:OwnV C F h a d) (e:h'.get? a=h.get? a):OwnV C F h' a d:=
 have hk:∀ b∈tops h.get? (.ref a),∀ ob,h.get? b=some ob->h'.get? b=some ob:=fun b hb ob eb=>by
  rw [o.top]at hb
  have q:=List.mem_singleton.mp hb;subst q
  rw [e];exact eb
 ⟨Vw.gen (FH.le.refl F) d (fun b hb ob eb _=>hk b hb ob eb) o.view,(wcR o.view hk).trans o.top,o.fr,o.ld⟩
theorem wmT {Q:Unit->Shared->Prop} (r:FnRel C env F W s.heap q) (hx:canSet env.scope x=true) (ok:SlotOk C s.heap F v sl)
  (ow:∀ d,sl=.own d->(∀ a∈tops s.heap.get? v,W a/\Apart env a/\∀ y d' u,y≠x->lookq y q=some (.own d')->isVar env.scope y=true->Holds env s.heap y u->a ∉ tops s.heap.get? u)/\isObjD d=false)
  (k:∀ a₀ s',W a₀->(∀ d,sl=.own d->a₀ ∉ tops s.heap.get? v)->Heap.SameBut a₀ s.heap s'.heap->FnRel C env F W s'.heap (setq x sl q)->Stp F W s F W s'->Q () s'):wpAny (model C.prog C.w) A (bindName env x v) Q E s:=
 wiU r.st hx fun a₀ h' tk hw g h1 h2=>k a₀ { s with heap:=h',toks:=tk } hw (fun d e q=>((ow d e).1 a₀ q).2.1.ne g.pl rfl) g.but
  (r.bound hw ⟨g,h1,h2,ok,fun d e a ha=>((ow d e).1 a ha).2.1⟩ fun d e=>⟨fun a ha=>⟨((ow d e).1 a ha).1,((ow d e).1 a ha).2.2⟩,(ow d e).2⟩) (Stp.sameBut hw g.but g.ha)
theorem wcW {Q:Unit->Shared->Prop} (r:FnRel C env F W s.heap q) (hx:canSet env.scope x=true) (rv:Rep C F v d)
  (k:∀ a₀ s',W a₀->Heap.SameBut a₀ s.heap s'.heap->FnRel C env F W s'.heap (setq x (.fz d) q)->Stp F W s F W s'->Q () s'):wpAny (model C.prog C.w) A (bindName env x v) Q E s:=
 wmT (sl:=.fz d) r hx rv (fun _ e=>Slot.noConfusion e) fun a₀ s' h1 _=>k a₀ s' h1
theorem wqw (h:isListD d=true):isObjD d=false:=by cases d<;>first | rfl | exact ffE h
theorem wkX {Q:Unit->Shared->Prop} (r:FnRel C env F W s.heap q) (hx:canSet env.scope x=true) (o:OwnV C F s.heap a d) (hw:¬ W a)
  (k:∀ a₀ s',W a₀->Heap.SameBut a₀ s.heap s'.heap->FnRel C env F (fun b=>W b\/b=a) s'.heap (setq x (.own d) q)->Stp F W s F W s'->Q () s'):wpAny (model C.prog C.w) A (bindName env x (.ref a)) Q E s:=by
 have hta:=waJ (G:=s.heap.get?) a
 have hnt:a≠tabAt C:=fun q=>by
  obtain ⟨ob,e,t⟩:=r.st.rel.tab
  obtain ⟨o',e',n⟩:=Vw.top o.view hta
  rw [q,e]at e'
  exact n (Option.some.inj e' ▸ t)
 have r':FnRel C env F (fun b=>W b\/b=a) s.heap q:=r.grow (fun b q=>.inl q) fun b q=>q.elim (fun q=>⟨r.st.wF b q,r.st.wIn b q,fun e=>r.st.tW (e ▸ q)⟩) fun q=>q ▸ ⟨o.fr,o.alive,hnt⟩
 refine wmT (sl:=.own d) r' hx o.view (fun d' e=>⟨fun b hb=>?_,Slot.own.inj e ▸ wqw o.ld⟩) fun a₀ s' hwa hnt0 hs0 h1 h2=>?_
 ·rw [o.top]at hb
  have q:=List.mem_singleton.mp hb;subst q
  exact ⟨.inr rfl,⟨fun q=>hw (q ▸ r.st.wL),fun y c e q=>hw (q ▸ r.cW y c e)⟩,fun y d' u hn hl hv hh q=>hw (r.oW hl hv hh _ q)⟩
 ·have q:W a₀:=hwa.elim id fun q=>absurd (q ▸ hta) (hnt0 d rfl)
  exact k a₀ s' q hs0 h1 (Stp.sameBut q hs0 (h2.alive a₀ (r.st.wIn a₀ q)) h2.calm)
theorem evOwnM {M:Expr->Prop} {T:Tab} {sc:Scope} {q:QV} {e:Expr} {k:D->Option D} (h:evOwnQ T K sc q e k=some r) (f1:∀ es p,evOwnQ T K sc q (.List es p) k=some r->M (.List es p)) (f2:∀ ks vs p,evOwnQ T K sc q (.Dict ks vs p) k=some r->M (.Dict ks vs p)) (f3:∀ l op r' p,evOwnQ T K sc q (.BinOp l op r' p) k=some r->M (.BinOp l op r' p)):M e:=by
 cases e<;>first | exact noneE h | exact f1 _ _ h | exact f2 _ _ _ h | exact f3 _ _ _ _ h
theorem compXM {M:Expr->Prop} {sc:Scope} {q:QV} {e:Expr} {k:D->Option D} (h:compExpQ K sc q e k=some r) (f1:∀ elt gens scope p,listCompQ K sc q elt gens scope k=some r->M (.ListComp elt gens scope p)) (f2:∀ kx vx gens scope p,dictCompQ K sc q kx vx gens scope k=some r->M (.DictComp kx vx gens scope p)):M e:=by
 cases e<;>first | exact noneE h | exact f1 _ _ _ _ h | exact f2 _ _ _ _ _ h
theorem wn2 (S:SoundEv C n K.ev) {e:Expr} {k:D->Option D} {Q:Value->Shared->Prop} (X:Ok C A n env q F s) (h:evOwnQ C.T K env.scope q e k=some r) (kk:∀ d,k d=some r->OwnQ C F s d Q) :
  wpAny (model C.prog C.w) A (eval e env) Q E s:=by
 apply evOwnM h<;>clear h
 case f1=>
  intro es pos h
  refine ifE h fun hz h=>wpEq (arm_eval_List ..) (wpAny_bind (wpAny_standAt (wpAny_bind (wgS S es X h fun ds h vs sa F1 xa re hl=>?_))))
  have hg:(sa.heap.push { cls:=.type "list",dict:=none,data:=.seq vs.toArray }).get? sa.heap.objs.size=some { cls:=.type "list",dict:=none,data:=.seq vs.toArray }:=Heap.get?_push_size _ rfl
  exact wpAny_newObj_type (kk _ h (s':={ sa with heap:=_ }) (xa.keep.gone (get?_size _)) (xa.trans (Ext.same xa.inn (Keep.push _ _))) ⟨VL.mk hg (vs:=vs.toArray) re,waU hg rfl,noneF xa.inn (get?_size _),rfl⟩) (waA (by show vs.length<=cap;rw [re.length,hl];exact hz))
 case f2=>
  intro ks vs pos h
  refine ifE h fun c h2=>andE c fun c1 c2=>?_
  have e1:=wax c1
  have e2:=wax c2
  clear h c c1 c2
  subst e1 e2
  obtain ⟨o,ho,hd⟩:=Heap.dictOf_iff.mp (Heap.DictOf.new (knd:=anyKind C.prog C.w) s.heap)
  exact wpAny_Dict_empty (kk _ h2 (s':={ s with heap:=_ }) (get?_size _) (Ext.same X.r.inn (Keep.push _ _)) ⟨VD.mk ho (X.g.noSys X.r.inn) hd rfl,waU ho (by obtain ⟨_,_,x,_⟩:=hd;exact x.2.1),noneF X.r.inn (get?_size _),rfl⟩)
 case f3=>
  intro l op r' pos h
  refine ifE h fun eop h2=>?_
  clear h
  subst eop
  refine wpEq (arm_eval_BinOp ..) (wpAny_bind (wbp S X h2 fun da h va sa F1 xa vc _=>wpAny_bind (wpAny_holding (wbp S (X.ext xa) h fun db h vb s₂ F2 xb vf _=>wpAny_bind (wpAny_standAt (wpAny_operating (bindE h fun l e h=>?_)))))))
  refine listE (show listK da _=some l from e) fun xs ea e=>listE e fun ys eb e=>ifE e fun hz e=>?_
  have el:=Option.some.inj e
  have vc:=vc.ext xb
  have x:=xa.trans xb
  have kd:=kk _ h
  clear kk h2
  subst ea eb el
  cases vc with | @mk a1 vs1 n1 e1 r1=>cases vf with | @mk a2 vs2 n2 e2 r2=>
  have hg:(s₂.heap.push { cls:=.type "list",data:=.seq (vs1++vs2) }).get? s₂.heap.objs.size=some { cls:=.type "list",data:=.seq (vs1++vs2) }:=Heap.get?_push_size _ rfl
  exact P.add_list e1 e2 (kd (s':={ s₂ with heap:=_ }) (x.keep.gone (get?_size _)) (x.trans (Ext.same x.inn (Keep.push _ _))) ⟨VL.mk hg (wih r1 r2),waU hg rfl,noneF x.inn (get?_size _),rfl⟩) (waA (by rw [r1.size,r2.size];exact hz))
theorem wex {value t:Expr} {line:Nat} (h:isComp value=false):swapsWith value (some t) line env=pure false:=by
 cases value<;>first | rfl | exact ffE h.symm
theorem wqq {value:Expr} {x:Str} {p:Pos} {line:Nat}:∃ b,swapsWith value (some (.Name x p)) line env=pure b:=by
 cases value<;>exact ⟨_,rfl⟩
theorem wnT {e:Expr} (h:fresh e=true):isComp e=false:=by
 unfold fresh at h
 unfold isComp
 revert h
 generalize e.ctorIdx=i
 intro h
 by_cases c:i=24
 ·subst c;rfl
 by_cases c':i=6
 ·subst c';rfl
 by_cases c'':i=2
 ·subst c'';rfl
 rw [beq_eq_false_iff_ne.mpr c,beq_eq_false_iff_ne.mpr c',beq_eq_false_iff_ne.mpr c'']at h
 exact ffE h
theorem wiT {x:Str} {xp:Pos} {Q:Flow->Shared->Prop} (X:FnRel C env F W s.heap q) (hx:canSet env.scope x=true) (hd:isListD d=true) (hn:next (setq x (.fz d) q)=some r) (k:NxQ C env F W s next r Q) :
  CompQ C A E F s d (some (assign (.Name x xp) env)) (fun _ s'=>Q .next s'):=by
 intro D1 L s' F' m a1 a2 a3 a4 a5 a6 a7 a8
 obtain ⟨o,xa,rv⟩:=freeze a4 a1 a5 a7 hd
 have hCF:(F'.put D1 o) L=none:=by unfold FH.put;rw [if_neg a3];exact a6
 have hCW:¬ W L:=fun q=>X.st.wIn L q a2
 refine wpEq (arm_assign_Name ..) (wpAny_bind (wpAny_standAt (wcW (X.ext xa) hx rv fun a₀ s'' hwa hs0 rc y2=>?_)))
 refine ⟨m,a8.sameBut hs0 (fun q=>hCW (q ▸ hwa)),fun h' sb=>?_⟩
 exact k (s':={ s'' with heap:=h' }) (((Stp.of xa).trans y2).but (P:=fun b=>b=L) (fun b q=>by rw [q];exact a2) fun b o hb e=>sb.extBut b o hb e)
  (rc.touch (P:=fun b=>b=L) (fun b o hb e=>sb.extBut b o hb e) (fun b q=>by rw [q];exact hCF) (fun b q=>by rw [q];exact hCW) (fun q:tabAt C=L=>by obtain ⟨o,e,_⟩:=X.st.rel.tab;rw [q]at e;exact noAt e a2)) hn
theorem wtO (S:SoundX C n K CF CM) {e:Expr} {k:D->Option D} {Q:Value->Shared->Prop} (X:Ok C A n env q F s) (h:compExpQ K env.scope q e k=some r) (kk:∀ d,k d=some r->Cont C F s d Q):wpAny (model C.prog C.w) A (eval e env) Q E s:=by
 apply compXM h<;>clear h
 ·intro elt gens scope p h;exact wqL S X h kk
 ·intro kx vx gens scope p h;exact wqL S X h kk
theorem wqY (S:SoundX C n K CF CM) {c:Cx} {xp pos:Pos} {e:Expr} {Q:Flow->Shared->Prop} (X:Fk C A n env q F W s) (h:asgNameQ C.T K c env.scope q x e next=some r) (k:NxQ C env F W s next r Q) :
  wpAny (model C.prog C.w) A (exec (.Assign [.Name x xp] e pos) env) Q E s:=by
 refine ifE h fun hx h2=>?_
 have plain:∀ (j:(D->Option D)->Prop),swapsWith e (some (.Name x xp)) pos.line env=pure false->(∀ {f:D->Option D} {Q},j f->(∀ d,f d=some r->Cont C F s d Q)->wpAny (model C.prog C.w) A (eval e env) Q E s)->j (fun d=>next (setq x (.fz d) q))->wpAny (model C.prog C.w) A (exec (.Assign [.Name x xp] e pos) env) Q E s:=fun j hs hev hj=>
  wpEq (exec_Assign_Name _ _ _ _ _ hs) (wpAny_bind (wpAny_standAt (wpAny_bind (hev hj fun d h v sa F1 xa rv=>wpAny_bind (wpAny_standAt (wpAny_bind (wcW (X.r.ext xa) hx rv fun a₀ s₂ _ _ rc y2=>wpAny_pure (k ((Stp.of xa).trans y2) rc h))))))))
 refine iteE h2 (fun c h3=>andE c fun _ c2=>?_) fun hz h3=>iteE h3 (fun hc h4=>?_) fun hc h4=>?_
 ·refine wpEq (exec_Assign_Name _ _ _ _ _ (wex (wnT c2))) (wpAny_bind (wpAny_standAt (wpAny_bind (wn2 S.ev X.ok h3 fun d hn a sa F1 ha xa o=>wpAny_bind (wpAny_standAt (wpAny_bind ?_))))))
  exact wkX (X.r.ext xa) hx o (fun q=>X.r.st.wIn a q ha) fun a₀ s₂ _ _ rc y2=>wpAny_pure (k (((Stp.of xa).trans y2).widen fun b (q:W b\/b=a)=>q.imp_right fun q=>by rw [q];exact ha) rc hn)
 ·obtain ⟨b,hsw⟩:=wqq (env:=env) (value:=e) (x:=x) (p:=xp) (line:=pos.line)
  cases b with
  | false=>exact plain (fun f=>compExpQ K env.scope q e f=some r) hsw (fun h kk=>wtO S X.ok h kk) h4
  | true=>
   clear plain h h2 h3 hz hc
   refine wpEq (exec_Assign_Name_used _ _ _ _ hsw) (wpAny_bind (wpAny_standAt (wpAny_bind ?_)))
   have fin:∀ {m:Sem Value},wpAny (model C.prog C.w) A m (fun _ s'=>Q .next s') E s->wpAny (model C.prog C.w) A (do let _ <- m) (fun _ s'=>wpAny (model C.prog C.w) A (pure Flow.next) Q E s') E s:=fun h=>wpAny_bind (wpAny_mono h (fun _ s' hq=>wpAny_pure (wpAny_pure hq)) fun _ _ e=>e)
   clear hsw
   apply compXM h4<;>clear h4
   ·intro elt gens scope p h5
    refine compE h5 fun t it ifs eg _=>?_
    subst eg
    exact fin (wg5 (Q:=fun _ s'=>Q .next s') S.ev S.tr S.it S.set X.ok h5 (fun l hn=>wiT X.r hx rfl hn k) rfl)
   ·intro kx vx gens scope p h5
    refine compE h5 fun t it ifs eg _=>?_
    subst eg
    exact fin (whe (Q:=fun _ s'=>Q .next s') S.ev S.tr S.it S.set X.ok h5 (fun l hn=>wiT X.r hx rfl hn k) rfl)
 ·exact plain (fun f=>K.ev env.scope q e f=some r) (wex (Bool.not_eq_true _ ▸ hc)) (fun h kk=>S.ev X.ok h kk) h4
end
noncomputable def Slots (C:Fr) (F:FH) (h:Heap):List Slot->List Value->List Addr->Prop
 | [],vs,as=>vs=[]/\as=[]
 | .fz d::ss,vs,as=>∃ v vs',vs=v::vs'/\Rep C F v d/\Slots C F h ss vs' as
 | .own d::ss,vs,as=>∃ a vs' as',vs=.ref a::vs'/\as=a::as'/\a ∉ as'/\OwnV C F h a d/\Slots C F h ss vs' as'
section
variable {C:Fr} {F F':FH} {A:Around} {E:Value->Shared->Prop} {s s':Shared} {d d':D} {env:Env} {q q':QV} {n:Nat} {W W':Addr->Prop} {h h':Heap} {a₀ a:Addr} {x:Str} {v:Value} {sl:Slot} {K:KJ} {r:D}
 {CF:Str->List D->Option D} {CM:Str->Str->List D->Option D} {next brk cont:QV->Option D} {ret:D->Option D}
theorem Slots.mv {ss:List Slot}:∀ {vs:List Value} {as:List Addr},Slots C F h ss vs as->(∀ {v d},Rep C F v d->Rep C F' v d)->(∀ {a d},a∈as->OwnV C F h a d->OwnV C F' h' a d)->Slots C F' h' ss vs as:=by
 induction ss with
 | nil=>intro vs as x _ _;exact x
 | cons sl ss ih=>
  intro vs as x f g
  cases sl with
  | fz d=>
   obtain ⟨v,vs',e1,r,x⟩:=x
   exact ⟨v,vs',e1,f r,ih x f g⟩
  | own d=>
   obtain ⟨a,vs',as',e1,e2,n,o,x⟩:=x
   subst e2
   exact ⟨a,vs',as',e1,rfl,n,g List.mem_cons_self o,ih x f fun ha=>g (List.mem_cons_of_mem _ ha)⟩
theorem Slots.ext {ss:List Slot} {vs:List Value} {as:List Addr} (x:Slots C F s.heap ss vs as) (y:Ext F s F' s'):Slots C F' s'.heap ss vs as:=x.mv (fun r=>Rep.ext r y) fun _ o=>o.ext y
theorem Slots.still {ss:List Slot} {vs:List Value} {as:List Addr} (x:Slots C F h ss vs as) (hk:∀ a∈as,h'.get? a=h.get? a):Slots C F h' ss vs as:=x.mv id fun ha o=>o.at' (hk _ ha)
theorem Slots.len {ss:List Slot}:∀ {vs:List Value} {as:List Addr},Slots C F h ss vs as->vs.length=ss.length:=by
 induction ss with
 | nil=>intro vs as x;exact congrArg List.length x.1
 | cons sl ss ih=>
  intro vs as x
  cases sl with
  | fz d=>obtain ⟨v,vs',e1,_,x⟩:=x;rw [e1];exact congrArg Nat.succ (ih x)
  | own d=>obtain ⟨a,vs',as',e1,_,_,_,x⟩:=x;rw [e1];exact congrArg Nat.succ (ih x)
theorem Slots.snoc {ss:List Slot} {s2:Slot} {v2:Value} {as2:List Addr}:∀ {vs:List Value} {as:List Addr},Slots C F h ss vs as->Slots C F h [s2] [v2] as2->(∀ a∈as,a ∉ as2)->Slots C F h (ss++[s2]) (vs++[v2]) (as++as2):=by
 induction ss with
 | nil=>intro vs as x y _;rw [x.1,x.2];exact y
 | cons sl ss ih=>
  intro vs as x y hn
  cases sl with
  | fz d=>obtain ⟨v,vs',e1,r,x⟩:=x;rw [e1];exact ⟨v,_,rfl,r,ih x y hn⟩
  | own d=>
   obtain ⟨a,vs',as',e1,e2,n,o,x⟩:=x
   rw [e1,e2]
   rw [e2]at hn
   exact ⟨a,_,_,rfl,rfl,fun q=>(List.mem_append.mp q).elim n (hn a List.mem_cons_self),o,ih x y fun b hb=>hn b (List.mem_cons_of_mem _ hb)⟩
theorem Slots.rev {ss:List Slot}:∀ {vs:List Value} {as:List Addr},Slots C F h ss vs as->Slots C F h ss.reverse vs.reverse as.reverse:=by
 induction ss with
 | nil=>intro vs as x;rw [x.1,x.2];exact ⟨rfl,rfl⟩
 | cons sl ss ih=>
  intro vs as x
  rw [List.reverse_cons]
  cases sl with
  | fz d=>
   obtain ⟨v,vs',e1,r,x⟩:=x
   rw [e1,List.reverse_cons]
   have:=(ih x).snoc (s2:=.fz d) (v2:=v) (as2:=[]) ⟨v,[],rfl,r,rfl,rfl⟩ fun _ _=>List.not_mem_nil
   rwa [List.append_nil]at this
  | own d=>
   obtain ⟨a,vs',as',e1,e2,n,o,x⟩:=x
   rw [e1,e2,List.reverse_cons,List.reverse_cons]
   exact (ih x).snoc (s2:=.own d) ⟨a,[],[],rfl,rfl,List.not_mem_nil,o,rfl,rfl⟩ fun b hb hc=>n (List.mem_reverse.mp (List.mem_singleton.mp hc ▸ hb))
theorem slotsE {P:Prop} {T:Tab} {c:Cx} {sc:Scope} {ts es:List Expr} {k:List Slot->Option D} (h:evSlotsQ T K c sc q ts es k=some r) (f:ts=[]->es=[]->k []=some r->P)
  (g:∀ x p ts' e es',ts=.Name x p::ts'->es=e::es'->¬ isStarE e=true->(if c.muts.contains x&&fresh e then evOwnQ T K sc q e fun d=>evSlotsQ T K c sc q ts' es' fun r=>k (.own d::r) else K.ev sc q e fun d=>evSlotsQ T K c sc q ts' es' fun r=>k (.fz d::r))=some r->P):P:=by
 cases ts with
 | nil=>cases es with
  | nil=>exact f rfl rfl h
  | cons=>exact noneE h
 | cons t ts=>cases es with
  | nil=>exact noneE h
  | cons e es=>
   obtain ⟨x,p,e1,h⟩:=nameE h
   exact nifE h fun hs h=>g x p ts e es (by rw [e1]) rfl hs h
theorem wsO (S:SoundEv C n K.ev) {c:Cx} {pos:Pos} (ts:List Expr):∀ {es:List Expr} {F:FH} {s:Shared} {k:List Slot->Option D} {Q:List Value->Shared->Prop},Ok C A n env q F s->evSlotsQ C.T K c env.scope q ts es k=some r ->
  (∀ ss (l:List (Str×Pos)),k ss=some r->(ts=l.map fun p=>.Name p.1 p.2)->ss.length=es.length->ts.length=es.length->∀ vs as s' F',Ext F s F' s'->Slots C F' s'.heap ss vs as->(∀ a∈as,s.heap.get? a=none)->Q vs s')->wpAny (model C.prog C.w) A (spliced (backTo pos (starEach es env))) Q E s:=by
 induction ts with
 | nil=>intro es F s k Q X h kk;exact slotsE h (fun _ e h=>by subst e;exact spliced_nil (kk [] [] h rfl rfl rfl [] [] s F X.here ⟨rfl,rfl⟩ fun a ha=>memE ha)) fun _ _ _ _ _ e=>consE e
 | cons t ts ih=>
  intro es F s k Q X h kk
  refine slotsE h (fun e=>consE e.symm) fun x p ts' e es' e1 e2 hs h2=>?_
  clear h
  have e3:=List.tail_eq_of_cons_eq e1
  have e4:=List.head_eq_of_cons_eq e1
  clear e1
  subst e3 e4 e2
  rw [wal hs]
  refine iteE h2 (fun _ h=>?_) fun _ h=>?_
  ·exact spliced_cons (wn2 S X h fun d h a sa F1 hn xa o=>ih (X.ext xa) h fun ss l h el e1 e2 vs as s₂ F2 xb sl hna=>kk (.own d::ss) ((x,p)::l) h (by rw [el];rfl) (congrArg Nat.succ e1) (congrArg Nat.succ e2) _ (a::as) s₂ F2 (xa.trans xb)
    ⟨a,vs,as,rfl,rfl,fun q=>o.alive (hna a q),o.ext xb,sl⟩ fun b hb=>(List.mem_cons.mp hb).elim (fun e=>e ▸ hn) fun hb=>xa.keep.gone (hna b hb))
  ·exact spliced_cons (S X h fun d h v sa F1 xa rv=>ih (X.ext xa) h fun ss l h el e1 e2 vs as s₂ F2 xb sl hna=>kk (.fz d::ss) ((x,p)::l) h (by rw [el];rfl) (congrArg Nat.succ e1) (congrArg Nat.succ e2) _ as s₂ F2 (xa.trans xb)
    ⟨v,vs,rfl,Rep.ext rv xb,sl⟩ fun b hb=>xa.keep.gone (hna b hb))
theorem setSlotsE {P:Prop} {sc:Scope} {x:Str} {xs:List Str} {ss:List Slot} (h:setSlotsQ sc (x::xs) ss q next=some r) (f:∀ sl ss',ss=sl::ss'->canSet sc x=true->setSlotsQ sc xs ss' (setq x sl q) next=some r->P):P:=by
 cases ss with
 | nil=>exact noneE h
 | cons sl ss=>exact ifE h fun hx h=>f sl ss rfl hx h
theorem whm {Q:Unit->Shared->Prop} {g:Str×Pos->Value->Sem Unit} (hg:∀ p {v:Value} {s:Shared} {Q:Unit->Shared->Prop},wpAny (model C.prog C.w) A (bindName env p.1 v) Q E s->wpAny (model C.prog C.w) A (g p v) Q E s) (l:List (Str×Pos)) :
  ∀ {ss:List Slot} {vs:List Value} {as:List Addr} {W:Addr->Prop} {q:QV} {s:Shared},FnRel C env F W s.heap q->(∀ a∈as,¬ W a)->Slots C F s.heap ss vs as->setSlotsQ env.scope (l.map (·.1)) ss q next=some r ->
  (∀ s' W' q',Stp F (fun b=>W b\/b∈as) s F W' s'->FnRel C env F W' s'.heap q'->next q'=some r->Q () s')->wpAny (model C.prog C.w) A (assignInOrder (l.map g) vs) Q E s:=by
 induction l with
 | nil=>
  intro ss vs as W q s R hW x h k
  cases ss with
  | nil=>
   obtain ⟨rfl,rfl⟩:=x
   exact wpAny_pure (k s W q ((Stp.refl.mono fun b q=>.inl q).widen fun b q=>.inl (.inl q)) R h)
  | cons=>exact noneE h
 | cons p l ih=>
  intro ss vs as W q s R hW x h k
  refine setSlotsE h fun sl ss' e hx h2=>?_
  clear h
  subst e
  cases sl with
  | fz d=>
   obtain ⟨v,vs',rfl,rv,x⟩:=x
   show wpAny _ _ (holding vs' (g p v) >>= fun _=>assignInOrder (l.map g) vs') _ _ _
   exact wpAny_bind (wpAny_holding (hg p (wcW R hx rv fun a₀ sa hwa hs0 re y1=>ih re hW (x.still fun a ha=>hs0.2 a fun q=>hW a ha (q ▸ hwa)) h2 fun s' W' q' y'=>k s' W' q' ((y1.mono fun b q=>.inl q).trans y'))))
  | own d=>
   obtain ⟨a,vs',as',rfl,rfl,nn,o,x⟩:=x
   show wpAny _ _ (holding vs' (g p (.ref a)) >>= fun _=>assignInOrder (l.map g) vs') _ _ _
   refine wpAny_bind (wpAny_holding (hg p (wkX R hx o (hW a List.mem_cons_self) fun a₀ sa hwa hs0 re y1=>ih re (fun b hb q=>q.elim (hW b (List.mem_cons_of_mem _ hb)) fun e=>nn (e ▸ hb)) (x.still fun b hb=>hs0.2 b fun q=>hW b (List.mem_cons_of_mem _ hb) (q ▸ hwa)) h2 fun s' W' q' y'=>
    k s' W' q' ((y1.mono fun b q=>.inl q).trans ?_))))
   have e:(fun b=>(W b\/b=a)\/b∈as')=fun b=>W b\/b∈a::as':=funext fun b=>propext ⟨fun q=>q.elim (fun q=>q.imp_right fun e=>by rw [e];exact List.mem_cons_self) fun q=>.inr (List.mem_cons_of_mem _ q),fun q=>q.elim (fun q=>.inl (.inl q)) fun q=>(List.mem_cons.mp q).elim (fun e=>.inl (.inr e)) .inr⟩
   rw [e]at y'
   exact y'
end
section
variable {C:Fr} {F F':FH} {A:Around} {E:Value->Shared->Prop} {s s':Shared} {d d':D} {env:Env} {q q':QV} {n:Nat} {W W':Addr->Prop} {h h':Heap} {a₀ a:Addr} {x:Str} {v:Value} {sl:Slot} {K:KJ} {r:D}
 {CF:Str->List D->Option D} {CM:Str->Str->List D->Option D} {next brk cont:QV->Option D} {ret:D->Option D}
theorem wok (s₀:Shared):Bindr C A env env.scope F fun q s=>Stp F W s₀ F W s/\FnRel C env F W s.heap q where
 one p hx rv k:=wcW p.2 hx rv fun a₀ s' _ _ r' y'=>k s' ⟨p.1.trans y',r'⟩
 ext {q s h'} p kp:=have x:Ext F s F { s with heap:=h' }:=Ext.same p.2.st.rel.inn kp
  ⟨p.1.trans (Stp.of x),p.2.ext x⟩
 inn p:=p.2.st.rel.inn
theorem wqD:(fun e:Expr=>match e with | .Starred ..=>true | _=>false)=isStarE:=funext fun e=>by cases e<;>rfl
theorem wv3 (ts:List Expr):ts.filterMap (fun e:Expr=>match e with | .Name id pos=>if env.kindOf id==some .local&&pos.line==(ts.head?.map (·.pos.line)).getD 0 then some id else none | _=>none)=nmF env.scope ts:=
 congrArg (fun f=>List.filterMap f ts) (funext fun e=>by cases e<;>rfl)
theorem wrx {ts:List (Str×Pos)} {c:Str×Pos->Bool} (h:(ts.filterMap fun p=>if c p then some p.1 else none).length=ts.length):(ts.filterMap fun p=>if c p then some p.1 else none)=ts.map (·.1):=by
 induction ts with
 | nil=>rfl
 | cons p ts ih=>
  have hle:=List.length_filterMap_le (fun p:Str×Pos=>if c p then some p.1 else none) ts
  by_cases e:c p=true
  ·rw [List.filterMap_cons_some (by rw [if_pos e])]at h ⊢
   rw [List.map_cons,ih (Nat.succ.inj h)]
  ·rw [List.filterMap_cons_none (by rw [if_neg e])]at h
   rw [List.length_cons]at h
   omega
theorem wv2 {sc:Scope} {l:List (Str×Pos)} (h:(nmF sc (l.map fun p=>.Name p.1 p.2)).length=l.length):nmF sc (l.map fun p=>.Name p.1 p.2)=l.map (·.1):=by
 have e:∃ k:Nat,nmF sc (l.map fun p=>.Name p.1 p.2)=l.filterMap fun p=>if sc.names.lookup p.1==some .local&&p.2.line==k then some p.1 else none:=⟨_,by
  unfold nmF
  rw [List.filterMap_map];rfl⟩
 obtain ⟨k,e⟩:=e
 rw [e]at h ⊢
 exact wrx h
theorem ws9 (l:List (Str×Pos)):names (l.map fun p=>.Name p.1 p.2)=l.map (·.1):=by
 induction l with
 | nil=>rfl
 | cons p l ih=>exact congrArg (p.1::·) ih
theorem wrc (l:List (Str×Pos)):(assignEach (l.map fun p=>.Name p.1 p.2) env).map (·.2)=l.map (fun p=>assign (.Name p.1 p.2) env)/\(assignEach (l.map fun p=>.Name p.1 p.2) env).findIdx? (·.1)=none:=by
 induction l with
 | nil=>exact ⟨rfl,rfl⟩
 | cons p l ih=>
  have e:assignEach ((p::l).map fun p=>.Name p.1 p.2) env=(false,assign (.Name p.1 p.2) env)::assignEach (l.map fun p=>.Name p.1 p.2) env:=rfl
  rw [e]
  exact ⟨congrArg (_::·) ih.1,by rw [List.findIdx?_cons,ih.2];rfl⟩
theorem wqs {ts es:List Expr} {kk:Nat} {p:Pos} {k2:Nat} {p2:Pos}:swappedStores [.Tuple ts kk p] (.Tuple es k2 p2) env =
  (if (!(ts.length==2||ts.length==3)||es.length != ts.length||env.blockKind != .function)=true then pure none
   else if es.any isStarE=true then pure none
   else if ((nmF env.scope ts).length != ts.length||(nmF env.scope ts).eraseDups.length != (nmF env.scope ts).length)=true then pure none
   else if es.all (foldedForSure 8)=true then pure none
   else if es.all (constantsAlone 8)=true then (do let _ <- (unsupported "assign.tuple-of-constant-expressions:order-of-the-stores":Sem PUnit);pure (some (nmF env.scope ts)))
   else pure (some (nmF env.scope ts))):=by
 rw [<- wqD,<- wv3];first | rfl | (unfold swappedStores;rfl)
theorem iteBE {P:Prop} {α:Type} {r:α} {c:Prop} [i:Decidable c] {x y:Option α} {a b:Sem (Option (List Str))} {m:Sem (Option (List Str))} (em:m=if c then a else b) (h:(if c then x else y)=some r) (f:m=a->x=some r->P) (g:m=b->¬ c->y=some r->P):P:=by
 cases i with
 | isTrue q=>exact f em h
 | isFalse q=>exact g em q h
theorem wqr {ts es:List Expr} {kk:Nat} {p:Pos} {k2:Nat} {p2:Pos} {b:Bool} (hk:env.scope.kind=.function) (h:swapRoad env.scope ts es=some b) :
  (b=false/\swappedStores [.Tuple ts kk p] (.Tuple es k2 p2) env=pure none)\/(b=true/\swappedStores [.Tuple ts kk p] (.Tuple es k2 p2) env=pure (some (nmF env.scope ts))/\(nmF env.scope ts).length=ts.length):=by
 have hbk:(env.blockKind != ScopeKind.function)=false:=by unfold Env.blockKind;rw [hk];rfl
 have em:=wqs (ts:=ts) (es:=es) (kk:=kk) (p:=p) (k2:=k2) (p2:=p2) (env:=env)
 rw [hbk,Bool.or_false]at em
 have no:∀ {m:Sem (Option (List Str))},m=pure none->some false=some b->(b=false/\m=pure none)\/(b=true/\m=pure (some (nmF env.scope ts))/\(nmF env.scope ts).length=ts.length):=fun e h=>.inl ⟨(Option.some.inj h).symm,e⟩
 refine iteBE em h no fun em _ h=>iteBE em h no fun em _ h=>iteBE em h no fun em c h=>iteBE em h no fun em _ h=>iteBE em h (fun _ h=>noneE h) fun em _ h=>?_
 refine .inr ⟨(Option.some.inj h).symm,em,?_⟩
 rw [Bool.or_eq_true,not_or]at c
 simpa using c.1
theorem wsq (S:SoundX C n K CF CM) {c:Cx} {ts es:List Expr} {kk k2:Nat} {tp p2 pos:Pos} {Q:Flow->Shared->Prop} (X:Fk C A n env q F W s) (hz:es.length<=cap)
  (h:(evSlotsQ C.T K c env.scope q ts es fun ss=>optK (swapRoad env.scope ts es) fun b=>if b then setSlotsQ env.scope (names ts).reverse ss.reverse q next else setSlotsQ env.scope (names ts) ss q next)=some r)
  (k:NxQ C env F W s next r Q):wpAny (model C.prog C.w) A (exec (.Assign [.Tuple ts kk tp] (.Tuple es k2 p2) pos) env) Q E s:=by
 refine wpEq (arm_exec_Assign ..) (wpAny_bind (wpAny_standAt ?_))
 show wpAny _ _ (swapsWith (.Tuple es k2 p2) (some (.Tuple ts kk tp)) pos.line env >>= _) _ _ _
 rw [wex rfl]
 refine wpAny_bind (wpAny_pure ?_)
 rw [if_neg (by decide)]
 rw [arm_eval_Tuple]
 refine wpAny_bind (wpAny_bind (wpAny_standAt (wpAny_bind (wsO S.ev ts X.ok h fun ss l h el l1 l2 vs as sa F1 xa sl hn=>?_))))
 have hlv:=sl.len
 refine optE h fun b hb h3=>?_
 clear h
 have hg:(sa.heap.push { cls:=.type "tuple",dict:=none,data:=.seq vs.toArray }).get? sa.heap.objs.size=some { cls:=.type "tuple",dict:=none,data:=.seq vs.toArray }:=Heap.get?_push_size _ rfl
 refine wpAny_newObj_type ?_ (waA (by show vs.length<=cap;rw [hlv,l1];exact hz))
 have hT:=weB hg
 have kpa:Keep sa.heap (sa.heap.push { cls:=.type "tuple",dict:=none,data:=.seq vs.toArray }):=Keep.push _ _
 generalize sa.heap.objs.size=T at hT
 generalize sa.heap.push { cls:=.type "tuple",dict:=none,data:=.seq vs.toArray }=hJ at hT kpa
 clear hg
 have hnW:∀ a∈as,¬ W a:=fun a ha q=>X.r.st.wIn a q (hn a ha)
 have x':∀ {h'},Keep hJ h'->Ext F1 sa F1 { sa with heap:=h' }:=fun kp=>Ext.same xa.inn fun b o e=>kp b o (kpa b o e)
 have fin:∀ {h'},Keep hJ h'->∀ s' W' q',Stp F1 (fun b=>W b\/b∈as) { sa with heap:=h' } F1 W' s'->FnRel C env F1 W' s'.heap q'->next q'=some r->Q .next s':=
  fun kp s' W' q' y r' h=>k (((Stp.of (W:=W) (xa.trans (x' kp))).widen (W':=fun b=>W b\/b∈as) fun b q=>q.imp_right fun q=>hn b q).trans y) r' h
 obtain ⟨st1,st2⟩:=wrc (env:=env) l
 have ns:=ws9 l
 have nf:=fun h=>wv2 (sc:=env.scope) (l:=l) h
 have ll:ts.length=l.length:=by rw [el,List.length_map]
 rw [<- el]at st1 st2 ns nf
 clear el
 have l5:(assignEach ts env).length=l.length:=by have:=congrArg List.length st1;rwa [List.length_map,List.length_map]at this
 rcases wqr (kk:=kk) (p:=tp) (k2:=k2) (p2:=p2) X.r.st.rel.eo.kind hb with ⟨rfl,e⟩ | ⟨rfl,e,el⟩
 ·rw [e]
  refine wpAny_bind (wpAny_pure ?_)
  show wpAny _ _ (do assign (.Tuple ts kk tp) env (.ref T);pure Flow.next) _ _ _
  rw [ns]at h3
  refine wpAny_bind (wpAny_assign_Tuple X.R.handled hT (by rw [l5,<- ll,l2];show es.length=vs.length;rw [hlv,l1]) st2 fun h' hx=>?_)
  have kp:Keep hJ h':=fun b o e=>hx b o (Nat.ne_of_lt (Heap.lt_size e)) e
  rw [st1]
  exact whm (g:=fun p=>assign (.Name p.1 p.2) env) (fun p {v s Q} hb=>wpEq (arm_assign_Name ..) (wpAny_bind (wpAny_standAt hb))) l (s:={ sa with heap:=h' }) ((X.ext xa).r.ext (x' kp)) hnW (sl.ext (x' kp)) h3 fun s' W' q' y r' h=>wpAny_pure (fin kp s' W' q' y r' h)
 ·rw [e]
  refine wpAny_bind (wpAny_pure ?_)
  rw [ns]at h3
  have en:=nf (el.trans ll)
  generalize nmF env.scope ts=nm at en
  show wpAny _ _ (do rule "assign.swapped-stores";let items <- unpackItems (.ref T) nm.length none;assignInOrder (nm.reverse.map fun n=>bindName env n) items.reverse;pure Flow.next) _ _ _
  rw [en]
  refine wpAny_bind (wpAny_rule (wpAny_bind ?_))
  rw [List.length_map,show l.length=vs.toArray.size by rw [<- ll,l2];show es.length=vs.length;rw [hlv,l1]]
  refine wpAny_unpackItems_tuple X.R.handled hT fun h' hx=>?_
  have kp:Keep hJ h':=fun b o e=>hx b o (Nat.ne_of_lt (Heap.lt_size e)) e
  have e:(fun b=>W b\/b∈as.reverse)=fun b=>W b\/b∈as:=funext fun b=>by rw [List.mem_reverse]
  have es:(l.map (·.1)).reverse.map (fun n=>bindName env n)=l.reverse.map fun p=>bindName env p.1:=by rw [<- List.map_reverse,List.map_map];rfl
  rw [es]
  rw [<- List.map_reverse]at h3
  exact wpAny_bind (whm (g:=fun p=>bindName env p.1) (fun p {v s Q} hb=>hb) l.reverse (s:={ sa with heap:=h' }) ((X.ext xa).r.ext (x' kp)) (fun a ha=>hnW a (List.mem_reverse.mp ha)) (sl.ext (x' kp)).rev h3 fun s' W' q' y r' h=>wpAny_pure (fin kp s' W' q' (by rw [e]at y;exact y) r' h))
theorem wvA (S:SoundX C n K CF CM) {c:Cx} {ts:List Expr} {kk:Nat} {tp pos:Pos} {e:Expr} {Q:Flow->Shared->Prop} (X:Fk C A n env q F W s) (h:asgTupQ C.T K c env.scope q ts (.Tuple ts kk tp) e next=some r) (k:NxQ C env F W s next r Q) :
  wpAny (model C.prog C.w) A (exec (.Assign [.Tuple ts kk tp] e pos) env) Q E s:=
 iteE h (fun _ h2=>by
  obtain ⟨es,k2,p2,e1,h3⟩:=tupleE h2
  clear h h2
  subst e1
  exact ifE h3 fun c h=>andE c fun _ hz=>wsq S X (of_decide_eq_true hz) h k) fun hc h2=>by
  have hsw:swapsWithSole [.Tuple ts kk tp] e pos.line env=pure false:=by
   show swapsWith e (some (.Tuple ts kk tp)) pos.line env=pure false
   cases e<;>rfl
  have hst:swappedStores [.Tuple ts kk tp] e env=pure none:=by
   cases e<;>first | rfl | exact absurd rfl hc
  refine wpAny_Assign_stores (S.ev X.ok h2 fun d h v sa F1 xa rv=>?_) hsw hst
  show wpAny _ _ (assign (.Tuple ts kk tp) env v) _ _ _
  exact wjl (wok sa) X.R.handled ⟨Stp.refl,X.r.ext xa⟩ h (.inl rv) fun q' bd _ s₂ ⟨y2,rc⟩=>k ((Stp.of xa).trans y2) rc (bd h)
end
section
variable {C:Fr} {F F':FH} {A:Around} {E:Value->Shared->Prop} {s s':Shared} {d d':D} {env:Env} {q q':QV} {n:Nat} {W W':Addr->Prop} {h h':Heap} {a₀ a:Addr} {x:Str} {v:Value} {sl:Slot} {K:KJ} {r:D}
 {CF:Str->List D->Option D} {CM:Str->Str->List D->Option D} {next brk cont:QV->Option D} {ret:D->Option D}
theorem wg2 {x:Str} {xp:Pos} {Q:Unit->Shared->Prop} (r:FnRel C env F W s.heap q) (hx:canSet env.scope x=true) (rv:Rep C F v d) (k:∀ s',Stp F W s F W s'->FnRel C env F W s'.heap (setq x (.fz d) q)->Q () s'):wpAny (model C.prog C.w) A (assign (.Name x xp) env v) Q E s:=
 wpEq (arm_assign_Name ..) (wpAny_bind (wpAny_standAt (wcW r hx rv fun _ s' _ _ r' y'=>k s' y' r')))
theorem wvB (S:SoundX C n K CF CM) {x y z e:Expr} {pos:Pos} {Q:Flow->Shared->Prop} (X:Fk C A n env q F W s) (h:wub K env.scope q x y z e next=some r) (k:NxQ C env F W s next r Q) :
  wpAny (model C.prog C.w) A (exec (.Assign [x,y,z] e pos) env) Q E s:=by
 apply nameM h;clear h;intro x xp h
 apply nameM h;clear h;intro y yp h
 apply nameM h;clear h;intro z zp h
 refine wpAny_Assign_three (S.ev X.ok h fun d h1 v sa F1 xa rv=>intE h1 fun i e h2=>ifE h2 fun c h3=>andE c fun c hz=>andE c fun hx hy=>?_)
 clear h1 h2 h
 subst e
 exact wg2 (X.r.ext xa) hx rv fun s₂ y2 rc=>wg2 rc hy rv fun sd y3 r3=>wg2 r3 hz rv fun se y4 r4=>k ((Stp.of xa).trans (y2.trans (y3.trans y4))) r4 h3
theorem wc5 {xp:Pos} {α:Type} {r:α} {f:D->Option α} {Q:Value->Shared->Prop} (X:RelR C env F s.heap q) (hv:isVar env.scope x=true) (h:ownK (lookq x q) f=some r)
  (k:∀ d v,f d=some r->lookq x q=some (.own d)->Holds env s.heap x v->View C s.heap F v d->Q v s) :
  wpAny (model C.prog C.w) A (eval (.Name x xp) env) Q E s:=
 ownE h fun d hl h=>by
  obtain ⟨v,h1,h2⟩:=X.vars hl hv
  exact wgg X hv h1 (k d v h hl h1 h2)
theorem RepFs.snoc {x:Str} (rv:Rep C F v d) {fs:List (Str×D)}:∀ {es:List (Str×Value)},RepFs C F fs es->RepFs C F (fs++[(x,d)]) (es++[(x,v)]):=by
 induction fs with
 | nil=>intro es rf;cases rf;exact VC.mk ⟨rfl,rv⟩ rfl
 | cons p fs ih=>intro es rf;cases rf with | mk y z=>exact VC.mk y (ih z)
theorem wqZ (S:SoundX C n K CF CM) {o e:Expr} {a:Str} {ap pos:Pos} {Q:Flow->Shared->Prop} (X:Fk C A n env q F W s) (h:asgAttrQ C.T K env.scope q o a e next=some r) (k:NxQ C env F W s next r Q) :
  wpAny (model C.prog C.w) A (exec (.Assign [.Attribute o a ap] e pos) env) Q E s:=by
 apply nameM h;clear h;intro x xp h
 refine nifE h fun c h=>?_
 rw [Bool.or_eq_true,not_or,Bool.not_eq_true,Bool.not_eq_true,Bool.not_eq_false']at c
 refine wpEq (arm_exec_Assign ..) (wpAny_bind (wpAny_standAt ?_))
 show wpAny _ _ (swapsWith e (some (.Attribute (.Name x xp) a ap)) pos.line env >>= _) _ _ _
 rw [wex c.1]
 refine wpAny_bind (wpAny_pure ?_)
 rw [if_neg (by decide)]
 refine wpAny_bind (S.ev X.ok h fun d h v sa F1 xa rv=>?_)
 have e2:swappedStores [.Attribute (.Name x xp) a ap] e env=pure none:=by
  unfold swappedStores
  rfl
 rw [e2]
 refine wpAny_bind (wpAny_pure ?_)
 have re:=X.r.ext xa
 show wpAny _ _ (do assign (.Attribute (.Name x xp) a ap) env v;pure Flow.next) _ _ _
 refine wpAny_bind (wpEq (arm_assign_Attribute ..) (wpAny_bind (wpAny_holding (ifE h fun hv h=>wc5 re.st.rel hv h fun ob u h hl hh view=>objE h fun cl fs eo h2=>ifE h2 fun c2 h3=>andE c2 fun c2 hz=>andE c2 fun hfs hcl=>?_))))
 clear h h2
 subst eo
 obtain ⟨mcs,co⟩:=S.st
 cases view with | @mk oa od ood es e1 e2 hn rf=>
 have hz:=of_decide_eq_true hz
 refine wpAny_bind (wpAny_standAt (wpAny_bind (wpAny_holding (wqt (co.cls _ hcl) ((X.g.mono xa.le).kIn re.st.rel.inn) (List.contains_iff_mem.mp c.2) e1 e2 hn (rf.gone (Option.isNone_iff_eq_none.mp hfs)) (by rw [rf.length];exact Nat.le_trans hz (by decide)) fun h' o' tk q1 q2 q3=>?_))))
 have hne:oa≠od:=fun q=>by
  rw [q,e2]at e1
  obtain ⟨_,_,z,_⟩:=hn.ns
  rw [Option.some.inj e1]at z
  exact absurd z (by intro z;cases z)
 have e1':h'.get? oa=some (instObj (C.cad cl) od):=by rw [q3.2 oa hne];exact e1
 obtain ⟨rc,y2⟩:=re.upd (s':={ sa with heap:=h',toks:=tk }) (a₀:=od) (d':=.obj cl (fs++[(a,d)])) ⟨hl,hv,hh,q3,by rw [wbk e1];exact List.mem_cons_of_mem _ List.mem_cons_self,VO.mk e1' q1 q2 (rf.snoc rv),(wbk e1').trans (wbk e1).symm,rfl⟩
 exact wpAny_release (wpAny_pure (k ((Stp.of xa).trans y2) rc h3))
theorem setItemL {l:Addr} {vs:Array Value} {k:Int} {t:Tok} {v:Value} {Q:Unit->Shared->Prop} (hl:s.heap.PlainList l vs) (h0:0<=k) (hfit:k<2 ^ 63) (hn:k<vs.size)
  (hQ:∀ h',h'.PlainList l (vs.setIfInBounds k.toNat v)->Heap.SameBut l s.heap h'->Q () { s with heap:=h' }):wpAny (model C.prog C.w) A (setItem (.ref l) (.int k t) v) Q E s:=by
 obtain ⟨ne,ho⟩:=id hl
 unfold setItem
 try with_reducible refine wpAny_holding ?_
 refine wpAny_bind (wpAny_sequenceKey hl.isList.typeIs (by decide) ?_)
 refine wpAny_bind (wpAny_callSpecial?_slot (name:=Str.ofString "__setitem__") hl.isList.typeIs slot_list_setitem
  (wpAny_call_entry slot_list_setitem hl.isList.typeIs entry_list_setitem ?_ (args_list_setitem _ _ _)))
 show wpAny _ _ (Builtin.List.listSubscript? (.int k t) >>= _) _ _ s
 refine wpAny_bind (wpAny_listSubscript_int (fitsIndex_of h0 hfit) ?_)
 clear hfit
 obtain ⟨j,rfl⟩:=Int.eq_ofNat_of_zero_le h0
 have hj:j<vs.size:=by omega
 have hx':vs[j]?=some vs[j]:=Array.getElem?_eq_getElem hj
 show wpAny _ _ ((seqItemAt l j >>= fun r=>pure (r.map (j,·))) >>= _) _ _ s
 refine wpAny_bind (wpAny_bind (wpAny_seqItemAt ho rfl (wpAny_pure ?_)))
 rw [hx']
 show wpAny _ _ (setSeqItemAt l j v >>= _) _ _ s
 refine wpAny_bind (wpAny_setSeqItemAt ho rfl ?_)
 have hfin:(s.heap.update l (Obj.mapSeq (·.setIfInBounds j v))).PlainList l (vs.setIfInBounds j v):=by
  refine ⟨ne,?_⟩
  rw [Heap.get?_update_self _ ho (by simp [Obj.mapSeq,Obj.isFreed])]
  simp [Obj.mapSeq]
 first
  | exact wpAny_bind (wpAny_pure (wpAny_pure ⟨.none,rfl,wpAny_pure (hQ _ hfin (Heap.SameBut.update ..))⟩))
  | exact wpAny_pure ⟨.none,rfl,wpAny_pure (hQ _ hfin (Heap.SameBut.update ..))⟩
theorem putLE {P:Prop} {α:Type} {r:α} {xs:List D} {k v:D} {f:List D->Option α} (h:(putL xs k v).bind f=some r) (g:∀ i,k=.int i->0<=i->i<xs.length->xs.length<=cap->f (xs.set i.toNat v)=some r->P):P:=
 bindE h fun ys e h=>intE (show intK k _=some ys from e) fun i ei e=>ifE e fun hb e=>g i ei hb.1 hb.2.1 hb.2.2 (by rw [Option.some.inj e];exact h)
theorem putME {P:Prop} {α:Type} {r:α} {xs:List (Key×D)} {k v:D} {f:List (Key×D)->Option α} (h:(putM xs k v).bind f=some r) (g:∀ kk,toKey k=some kk->xs.length<=cap->f (kset kk v xs)=some r->P):P:=
 bindE h fun ys e h=>bindE (show (toKey k).bind _=some ys from e) fun kk ek e=>ifE e fun hb e=>g kk ek hb (by rw [Option.some.inj e];exact h)
theorem wrm {u kv v:Value} {dk dv:D} {f:D->Option D} {Q:Unit->Shared->Prop} (R:FnRel C env F W s.heap q) (hv:isVar env.scope x=true) (hl:lookq x q=some (.own d)) (hh:Holds env s.heap x u) (view:View C s.heap F u d)
  (rk:Rep C F kv dk) (rv:Rep C F v dv) (h:putQ d dk dv f=some r) (k:∀ d' s',f d'=some r->Stp F W s F W s'->FnRel C env F W s'.heap (setq x (.own d') q)->Q () s') :
  wpAny (model C.prog C.w) A (setItem u kv v) Q E s:=by
 cases d<;>first | exact noneE h | skip
 ·refine putLE h fun i ei h0 h1 h2 h3=>?_
  clear h
  subst ei
  cases rk
  cases view with | @mk l vs nn e1 rl=>
  have hz:=rl.size
  have cap63:(cap:Int)<2 ^ 63:=by decide
  refine setItemL ⟨nn,e1⟩ h0 (Int.lt_trans h1 (Int.lt_of_le_of_lt (Int.ofNat_le.mpr h2) cap63)) (by rw [hz];exact h1) fun h' ⟨n2,e2⟩ q2=>?_
  obtain ⟨rc,y2⟩:=R.upd (s':={ s with heap:=h' }) (a₀:=l) (d':=.list (‹List D›.set i.toNat dv)) ⟨hl,hv,hh,q2,waJ l,VL.mk e2 (by rw [Array.toList_setIfInBounds];exact RepAll.set rl rv _),(waU e2 rfl).trans (waU e1 rfl).symm,rfl⟩
  exact k _ _ h3 y2 rc
 ·refine putME h fun kk ek h2 h3=>?_
  clear h
  cases view with | @mk l o es e1 hy hd ry=>
  refine wpAny_setItem_pairs (wcD ek rk) (Heap.dictOf_iff.mpr ⟨o,e1,hd⟩) (fun h' q1 q2=>?_) (waA (by rw [ry.length];exact h2))
  obtain ⟨o2,e2,hd2⟩:=Heap.dictOf_iff.mp q1
  obtain ⟨rc,y2⟩:=R.upd (s':={ s with heap:=h',toks:=s.toks+1 }) (a₀:=l) (d':=.dict (kset kk dv ‹List (Key×D)›)) ⟨hl,hv,hh,q2,waJ l,VD.mk e2 hy hd2 (ry.stored kk rv),(waU e2 (by obtain ⟨_,_,x,_⟩:=hd2;exact x.2.1)).trans (waU e1 (by obtain ⟨_,_,x,_⟩:=hd;exact x.2.1)).symm,rfl⟩
  exact k _ _ h3 y2 rc
theorem wsr (S:SoundX C n K CF CM) {o i e:Expr} {ip pos:Pos} {Q:Flow->Shared->Prop} (X:Fk C A n env q F W s) (h:asgSubQ K env.scope q o i e next=some r) (k:NxQ C env F W s next r Q) :
  wpAny (model C.prog C.w) A (exec (.Assign [.Subscript o i ip] e pos) env) Q E s:=by
 apply nameM h;clear h;intro x xp h
 refine nifE h fun c h=>wpAny_Assign_Subscript ?_ (wex (Bool.not_eq_true _ ▸ c))
 exact S.ev X.ok h fun d h v sa F1 xa rv=>ifE h fun hv h=>wc5 (X.r.ext xa).st.rel hv h fun ob u h hl hh view=>S.ev (X.ext xa).ok h fun dk h kv s₂ F2 xb rk=>
  wrm ((X.r.ext xa).ext xb) hv hl (hh.keep xb.keep) (view.ext xb) rk (Rep.ext rv xb) h fun d' sd h y3 r3=>k ((Stp.of (xa.trans xb)).trans y3) r3 h
theorem wqX (S:SoundX C n K CF CM) {xp pos:Pos} {e:Expr} {Q:Flow->Shared->Prop} (X:Fk C A n env q F W s) (h:augNameQ K env.scope q x e next=some r) (k:NxQ C env F W s next r Q) :
  wpAny (model C.prog C.w) A (exec (.AugAssign (.Name x xp) .Add e pos) env) Q E s:=
 ifE h fun c h=>andE c fun hv hx=>fzE h fun old hl h=>by
  obtain ⟨u,hh,ru⟩:=X.r.st.rel.vars hl hv
  have ru:Rep C F u old:=ru
  exact wpEq (arm_exec_AugAssign ..) (wpAny_bind (wpAny_standAt (wpAny_bind (wkx X.r.st.rel hv hh (wpAny_bind (wpAny_holding (S.ev X.ok h fun dv h v sa F1 xa rv=>wpAny_bind (wpAny_standAt (wpAny_bind (wpAny_operating (bindE h fun dn e h=>wqf e (Rep.ext ru xa) rv xa.inn fun nv s₂ F2 xb rn=>
   wpAny_bind (wpAny_standAt (wpAny_bind (wcW ((X.r.ext xa).ext xb) hx rn fun _ sd _ _ r3 y3=>wpAny_pure (k ((Stp.of (xa.trans xb)).trans y3) r3 h)))))))))))))))
end
section
variable {C:Fr} {F F':FH} {A:Around} {E:Value->Shared->Prop} {s s':Shared} {d d':D} {env:Env} {q q':QV} {n:Nat} {W W':Addr->Prop} {h h':Heap} {a₀ a:Addr} {x:Str} {v:Value} {sl:Slot} {K:KJ} {r:D}
 {CF:Str->List D->Option D} {CM:Str->Str->List D->Option D} {next brk cont:QV->Option D} {ret:D->Option D}
theorem wsp (S:SoundX C n K CF CM) {o i e:Expr} {ip pos:Pos} {Q:Flow->Shared->Prop} (X:Fk C A n env q F W s) (h:augSubQ K env.scope q o i e next=some r) (k:NxQ C env F W s next r Q) :
  wpAny (model C.prog C.w) A (exec (.AugAssign (.Subscript o i ip) .Add e pos) env) Q E s:=by
 apply nameM h;clear h;intro x xp h
 refine ifE h fun c h2=>andE c fun hv hsl=>?_
 clear h c
 rw [Bool.not_eq_true']at hsl
 refine wpAny_AugAssign_SubscriptAny ?_ (fun ov iv new=>by cases i<;>first | rfl | exact ffE hsl.symm)
 refine wc5 X.r.st.rel hv h2 fun ob u h hl hh view=>?_
 refine S.ev X.ok h fun dk h kv sa F1 xa rk=>bindE h fun old eo h=>wpY eo (view.ext xa) rk xa.inn fun ov s₂ F2 xb ro=>?_
 have xm:=xa.trans xb
 refine S.ev (X.ext xm).ok h fun dv h v sd F3 xc rv=>bindE h fun dn en h=>wqf en (Rep.ext ro xc) rv xc.inn fun nv se F4 xf rn=>?_
 have xx:=xm.trans (xc.trans xf)
 have y:=xb.trans (xc.trans xf)
 exact wrm (X.r.ext xx) hv hl (hh.keep xx.keep) ((view.ext xa).ext y) (Rep.ext rk y) rn h fun d' sj h y5 r5=>k ((Stp.of xx).trans y5) r5 h
theorem Fk.list {l:Addr} {vs us:Array Value} {nn:Nat} {xs ys:List D} {sa:Shared} {F1:FH} {h':Heap} {Q:Flow->Shared->Prop} (X:Fk C A n env q F W s) (k:NxQ C env F W s next r Q) (hv:isVar env.scope x=true) (hl:lookq x q=some (.own (.list xs))) (hh:Holds env s.heap x (.ref l))
  (e1:s.heap.get? l=some { cls:=.type "list",data:=.seq vs nn }) (xa:Ext F s F1 sa) (q2:Heap.SameBut l sa.heap h') (q1:h'.PlainList l us) (ry:RepAll C F1 ys us.toList) (hn:next (setq x (.own (.list ys)) q)=some r):Q .next { sa with heap:=h' }:=by
 obtain ⟨n2,e2⟩:=q1
 obtain ⟨n1,e1⟩:=wbR ⟨nn,e1⟩ xa.keep
 obtain ⟨rc,y2⟩:=(X.r.ext xa).upd (s':={ sa with heap:=h' }) (a₀:=l) (d':=.list ys) ⟨hl,hv,hh.keep xa.keep,q2,waJ l,VL.mk e2 ry,(waU e2 rfl).trans (waU e1 rfl).symm,rfl⟩
 exact k ((Stp.of xa).trans y2) rc hn
theorem wtF (S:SoundX C n K CF CM) {f:Expr} {pos:Pos} {Q:Flow->Shared->Prop} (X:Fk C A n env q F W s) (h:exprQ K env.scope q f next=some r) (k:NxQ C env F W s next r Q) :
  wpAny (model C.prog C.w) A (exec (.Expr f pos) env) Q E s:=by
 apply callM h;clear h;intro f as ks cp h
 refine ifE h fun ek h2=>?_
 clear h
 have ek:=wax ek
 subst ek
 apply attrM h2;clear h2;intro o m ap h
 obtain ⟨x,xp,eo,h1⟩:=nameE h
 clear h
 subst eo
 apply oneM h1;clear h1;intro e h
 refine ifE h fun c h2=>andE c fun c c3=>andE c fun hv ok=>?_
 clear h c
 rw [Bool.not_eq_true']at c3
 have hi:interactive env=false:=by
  unfold interactive
  rw [X.r.st.rel.eo.kind];rfl
 refine wpAny_Expr ?_ hi rfl
 have hs:noStar [e]=true:=by
  show (!isStarE e&&true)=true
  rw [c3];rfl
 have one:(1:Nat)<20:=by decide
 refine iteE h2 (fun em h=>?_) fun _ h3=>ifE h3 fun em h=>?_
 ·have em:=eq_of_beq em
  clear h2
  subst em
  obtain ⟨hb,hline⟩:=wbV (env:=env) (m:=Str.ofString "append") ok
  refine wpAny_Call_method_lateS hb (fewArgs hs one) hline (wc5 X.r.st.rel hv h fun ob u h hl hh view=>listE h fun xs eo h2=>?_)
  clear h
  subst eo
  cases view with | @mk l vs nn e1 rl=>
  rw [wal (waM hs)]
  exact ⟨"list","list.append",PySem.F.plainAttrs_list,PySem.F.slot_list_append,PySem.F.type_list_append,⟨_,e1,rfl⟩,fun a q=>⟨_,Value.ref.inj q ▸ e1,rfl⟩,
   callWith_builtin rfl (evalArgs_plain (spliced_cons (S.ev X.ok h2 fun d h v sa F1 xa rv=>spliced_nil (ifE h fun hc h=>wpAny_list_append_plain (wbR ⟨nn,e1⟩ xa.keep)
    (fun h' q1 q2=>X.list k hv hl hh e1 xa q2 q1 (by rw [Array.toList_push];exact (RepAll.mono xa.le _ rl).append (RepAll.one rv)) h) (waA (by rw [rl.size];exact hc))))))⟩
 ·have em:=eq_of_beq em
  clear h2 h3
  subst em
  obtain ⟨hb,hline⟩:=wbV (env:=env) (m:=Str.ofString "extend") ok
  refine wpAny_Call_method_lateS hb (fewArgs hs one) hline (wc5 X.r.st.rel hv h fun ob u h hl hh view=>listE h fun xs eo h2=>?_)
  clear h
  subst eo
  cases view with | @mk l vs nn e1 rl=>
  rw [wal (waM hs)]
  refine ⟨"list","list.extend",PySem.F.plainAttrs_list,PySem.F.slot_list_extend,PySem.F.type_list_extend,⟨_,e1,rfl⟩,fun a q=>⟨_,Value.ref.inj q ▸ e1,rfl⟩,?_⟩
  refine callWith_builtin rfl (evalArgs_plain (spliced_cons (S.ev X.ok h2 fun d h v sa F1 xa rv=>spliced_nil ?_)))
  obtain ⟨n1,e1'⟩:=wbR ⟨nn,e1⟩ xa.keep
  apply listV (M:=fun v=>wpAny (model C.prog C.w) A (call _ [_,v]) _ E sa) h (Rep.view rv xa.inn);intro ys b us n2 eb ru h
  refine ifE h fun hc h=>?_
  have hsum:vs.size+us.size<=sizeLine:=waA (by rw [rl.size,ru.size];exact hc)
  refine call_meets PySem.F.slot_list_extend ⟨_,e1',rfl⟩ PySem.F.entry_list_extend (PySem.F.args_list_extend_2 _ _)
   (AutoSeq1.list_extend_list_list_0 l vs n1 b us n2 (extend_door hsum) (Nat.le_trans (Nat.le_add_right _ _) hsum) (Nat.le_succ_of_le hsum)) ⟨e1',eb,?_⟩
  have hg:=Heap.get?_update_self (h:=sa.heap) (Obj.mapSeq fun x=>x++us) e1' (by rw [mapSeq_app];rfl)
  rw [mapSeq_app]at hg
  exact X.list (us:=vs++us) k hv hl hh e1 xa (Heap.SameBut.update ..) ⟨_,hg⟩ (wih (RepAll.mono xa.le _ rl) ru) h
theorem wx6 {M:Expr->Prop} {T:Tab} {c:Cx} {sc:Scope} {q:QV} {t e:Expr} (h:wgx T K c sc q t e next=some r) (f1:∀ o a p,wgx T K c sc q (.Attribute o a p) e next=some r->M (.Attribute o a p)) (f2:∀ o i p,wgx T K c sc q (.Subscript o i p) e next=some r->M (.Subscript o i p)) (f3:∀ x p,wgx T K c sc q (.Name x p) e next=some r->M (.Name x p)) (f4:∀ ts k p,wgx T K c sc q (.Tuple ts k p) e next=some r->M (.Tuple ts k p)):M t:=by
 cases t<;>first | exact noneE h | exact f1 _ _ _ h | exact f2 _ _ _ h | exact f3 _ _ h | exact f4 _ _ _ h
theorem augTM {M:Expr->Prop} {sc:Scope} {q:QV} {t e:Expr} (h:augTQ K sc q t e next=some r) (f2:∀ o i p,augSubQ K sc q o i e next=some r->M (.Subscript o i p)) (f3:∀ x p,augNameQ K sc q x e next=some r->M (.Name x p)):M t:=by
 cases t<;>first | exact noneE h | exact f2 _ _ _ h | exact f3 _ _ h
theorem wwX (S:SoundX C n K CF CM) {c:Cx} {ts:List Expr} {e:Expr} {pos:Pos} {Q:Flow->Shared->Prop} (X:Fk C A n env q F W s) (h:asgQ C.T K c env.scope q ts e next=some r) (k:NxQ C env F W s next r Q) :
  wpAny (model C.prog C.w) A (exec (.Assign ts e pos) env) Q E s:=by
 rcases ts with _ | ⟨t,_ | ⟨t2,_ | ⟨t3,_ | _⟩⟩⟩
 ·exact noneE h
 ·apply wx6 (show wgx C.T K c env.scope q t e next=some r from h)<;>clear h
  ·intro o a p h;exact wqZ S X h k
  ·intro o i p h;exact wsr S X h k
  ·intro x p h;exact wqY S X h k
  ·intro ts kk p h;exact wvA S X h k
 ·exact noneE h
 ·exact wvB S X h k
 ·exact noneE h
theorem wwW (S:SoundX C n K CF CM) {t:Expr} {op:Operator} {e:Expr} {pos:Pos} {Q:Flow->Shared->Prop} (X:Fk C A n env q F W s) (h:augQ K env.scope q t op e next=some r) (k:NxQ C env F W s next r Q) :
  wpAny (model C.prog C.w) A (exec (.AugAssign t op e pos) env) Q E s:=
 ifE h fun eo h2=>by
  clear h
  subst eo
  apply augTM h2<;>clear h2
  ·intro o i p h2;exact wsp S X h2 k
  ·intro x p h2;exact wqX S X h2 k
theorem wt4 (S:SoundX C n K CF CM) (Sx:SoundEx C n K.exs) {c:Cx} {st:Stmt} {Q:Flow->Shared->Prop} (X:Fk C A n env q F W s) (h:execSQ C.T K c env.scope q st next brk cont ret=some r) (k:ExQ C env F W s next brk cont ret r Q) :
  wpAny (model C.prog C.w) A (exec st env) Q E s:=by
 cases st<;>first | exact noneE h | skip
 case Return=>
  refine optE h fun e eo h2=>?_
  clear h
  subst eo
  exact wpAny_Return_some (S.ev X.ok h2 fun d h v sa F1 xa rv=>k (f:=.ret v) (Stp.of xa) (X.r.ext xa) ⟨d,h,rv⟩)
 case Break=>exact wpEq (arm_exec_Break ..) (wpAny_bind (wpAny_standAt (wpAny_pure (k (f:=.brk) Stp.refl X.r h))))
 case Continue=>exact wpEq (arm_exec_Continue ..) (wpAny_bind (wpAny_standAt (wpAny_pure (k (f:=.cont) Stp.refl X.r h))))
 case If=>
  exact wpAny_If (S.tr X.ok h fun b h sa F1 xa=>by
   cases b with
   | true=>exact Sx (X.ext xa) h (k.after (Stp.of xa))
   | false=>exact Sx (X.ext xa) h (k.after (Stp.of xa)))
 case Assign=>exact wwX S X h k.nx
 case AugAssign=>exact wwW S X h k.nx
 case Expr=>exact wtF S X h k.nx
end
noncomputable def HdOk (C:Fr) (n:Nat) (sc:Scope) (st:Stmt) (G:Hd):Prop:=
 ∀ ⦃A:Around⦄ ⦃env:Env⦄ ⦃q:QV⦄ ⦃next:QV->Option D⦄ ⦃ret:D->Option D⦄ ⦃r:D⦄ ⦃F:FH⦄ ⦃W:Addr->Prop⦄ ⦃s:Shared⦄ ⦃Q:Flow->Shared->Prop⦄ ⦃E:Value->Shared->Prop⦄,
  env.scope=sc->Fk C A n env q F W s->G q next ret=some r->ExQ C env F W s next (fun _=>none) (fun _=>none) ret r Q->wpAny (model C.prog C.w) A (exec st env) Q E s
noncomputable def HsK (C:Fr) (n:Nat) (sc:Scope):List Stmt->List (Option Hd)->Prop
 | [],_=>True
 | st::r,hs=>(∀ G,hs.headD none=some G->HdOk C n sc st G)/\HsK C n sc r hs.tail
noncomputable def restr (q0 q:QV):QV:=q.map fun p=>(p.1,if (lookq p.1 q0).isSome then p.2 else none)
noncomputable def forS {S:Type} (B:S->D->(S->Option D)->(S->Option D)->(D->Option D)->Option D):List D->S->(S->Option D)->(D->Option D)->Option D
 | [],s,next,ret=>next s
 | d::ds,s,next,ret=>B s d (fun s'=>forS B ds s' next ret) next ret
section
variable (T:Tab) (CF:Str->List D->Option D) (CM:Str->Str->List D->Option D)
noncomputable def turnQ (n:Nat) (c:Cx) (sc:Scope) (t:Expr) (body:List Stmt) (hs:List (Option Hd)) (q:QV) (d:D) (next brk:QV->Option D) (ret:D->Option D):Option D:=
 bindTQ sc t d q fun q1=>execT T (kI T CF CM n) c sc body hs q1 (fun q2=>next (restr q q2)) (fun q2=>brk (restr q q2)) (fun q2=>next (restr q q2)) ret
noncomputable def forQ (n:Nat) (c:Cx) (sc:Scope) (t:Expr) (body:List Stmt) (hs:List (Option Hd)):List D->QV->(QV->Option D)->(D->Option D)->Option D
 | [],q,next,ret=>next q
 | d::ds,q,next,ret=>turnQ T CF CM n c sc t body hs q d (fun q'=>forQ n c sc t body hs ds q' next ret) next ret
noncomputable def forK (st:Stmt) (k:Expr->Expr->Option D):Option D:=(@PySem.Stmt.casesOn (fun _=>_) st (fun _ _ _ _ _ _ _ _ _ _=>none) (fun _ _ _ _ _ _ _ _ _ _=>none) (fun _ _ _ _ _ _ _ _ _ _ _=>none) (fun _ _=>none) (fun _ _=>none) (fun _ _ _=>none) (fun _ _ _ _ _ _ _=>none) (fun _ _ _ _=>none) (fun _ _ _ _ _=>none) (fun t iter _ l _=>if l.isEmpty then k t iter else none) (fun _ _ _ _ _=>none) (fun _ _ _ _=>none) (fun _ _ _ _=>none) (fun _ _ _=>none) (fun _ _ _=>none) (fun _ _ _=>none) (fun _ _ _=>none) (fun _ _ _ _ _=>none) (fun _ _ _ _ _=>none) (fun _ _ _=>none) (fun _ _=>none) (fun _ _ _ _=>none) (fun _ _=>none) (fun _ _=>none) (fun _ _=>none) (fun _=>none) (fun _=>none) (fun _=>none))
noncomputable def mkF {C S:Type} (n:Nat) (sc:Scope) (st:Stmt) (dec:QV->Option (C×S)) (enc:C->S->QV) (B:C->S->D->(S->Option D)->(S->Option D)->(D->Option D)->Option D):Hd:=fun q next ret=>
 forK st fun t iter=>(kI T CF CM n).it sc (staysq q) iter t fun ds=>if ds.length<=cap then optK (dec q) fun x=>forS (B x.1) ds x.2 (fun s'=>next (enc x.1 s')) ret else none
end
noncomputable def forT:Stmt->Expr
 | .For t _ _ _ _=>t
 | _=>.Constant .none 0 default
noncomputable def forB:Stmt->List Stmt
 | .For _ _ b _ _=>b
 | _=>[]
section
variable {C:Fr} {F F':FH} {A:Around} {E:Value->Shared->Prop} {s s':Shared} {d d':D} {env:Env} {q q':QV} {n:Nat} {W W':Addr->Prop} {h h':Heap} {a₀ a:Addr} {x:Str} {v:Value} {sl:Slot} {K:KJ} {r:D}
 {CF:Str->List D->Option D} {CM:Str->Str->List D->Option D} {next brk cont:QV->Option D} {ret:D->Option D}
theorem wnX {st:Stmt} {l:List Stmt} {xs:List Str} {nx:QV->Option D} {Q:Flow->Shared->Prop} (X:Fk C A n env q F W s) (k:ExQ C env F W s next brk cont ret r Q)
  (ih:∀ {F W s q},Fk C A n env q F W s->nx q=some r->ExQ C env F W s next brk cont ret r Q->wpAny (model C.prog C.w) A (execs l env) Q E s)
  (h:∀ {F₀ W0 Q},Fk C A n env (frzq env.scope xs q) F₀ W0 s->ExQ C env F₀ W0 s nx brk cont ret r Q->wpAny (model C.prog C.w) A (exec st env) Q E s):wpAny (model C.prog C.w) A (execs (st::l) env) Q E s:=by
 obtain ⟨F₀,W0,rg,ya⟩:=X.r.frz xs
 have ya:=ya s rfl
 have k₀:=k.after ya
 refine wpAny_execs_cons (h (X.to ya rg) fun s' F' W' q' f y r' hf=>?_)
 cases f with
 | next=>exact ih (X.to (ya.trans y) r') hf (k₀.after y)
 | brk=>exact k₀ (f:=.brk) y r' hf
 | cont=>exact k₀ (f:=.cont) y r' hf
 | ret v=>exact k₀ (f:=.ret v) y r' hf
theorem wwK (S:SoundX C n K CF CM) (Sx:SoundEx C n K.exs):SoundEx C n fun c sc q l next brk cont ret=>execLQ C.T K c sc l q next brk cont ret:=by
 intro A env c q l
 induction l generalizing q with
 | nil=>intro next brk cont ret r F W s Q E X h k;exact wpAny_execs_nil (k (f:=.next) Stp.refl X.r h)
 | cons st l ih=>intro next brk cont ret r F W s Q E X h k;exact wnX (xs:=hintsAt c st) X k (fun X h k=>ih X h k) fun X' k'=>wt4 S Sx X' h k'
theorem wr0 (S:SoundX C n K CF CM) (Sx:SoundEx C n K.exs) {c:Cx} (l:List Stmt):∀ {hs:List (Option Hd)} {q:QV} {F:FH} {W:Addr->Prop} {s:Shared} {Q:Flow->Shared->Prop},HsK C n env.scope l hs->Fk C A n env q F W s->execT C.T K c env.scope l hs q next brk cont ret=some r ->
  ExQ C env F W s next brk cont ret r Q->wpAny (model C.prog C.w) A (execs l env) Q E s:=by
 induction l with
 | nil=>intro hs q F W s Q H X h k;exact wpAny_execs_nil (k (f:=.next) Stp.refl X.r h)
 | cons st l ih=>
  intro hs q F W s Q H X h k
  refine wnX (xs:=hintsAt c st) X k (fun X h k=>ih H.2 X h k) fun {F₀ W0 Q'} X' k'=>?_
  have h1:=H.1
  have h:stmtQ C.T K c env.scope (frzq env.scope (hintsAt c st) q) st (hs.headD none) (fun q'=>execT C.T K c env.scope l hs.tail q' next brk cont ret) brk cont ret=some r:=h
  clear H
  generalize hs.headD none=o at h1 h
  cases o with
  | none=>exact wt4 S Sx X' h k'
  | some G=>
   refine h1 G rfl rfl X' h fun s' F' W' q' f y r' hf=>?_
   cases f with
   | next=>exact k' (f:=.next) y r' hf
   | brk=>exact noneE hf
   | cont=>exact noneE hf
   | ret v=>exact k' (f:=.ret v) y r' hf
theorem wxH (kn:Known C) (st:∃ mcs,StOk C mcs) (Sf:SoundFn C n CF) (Sm:SoundMeth C n CM) (m:Nat):SoundX C n (kI C.T CF CM m) CF CM/\SoundEx C n (kI C.T CF CM m).exs:=by
 induction m with
 | zero=>exact ⟨⟨fun _ h=>noneE h,fun _ h=>noneE h,fun _ h=>noneE h,Sf,Sm,kn,st,fun h=>noneE h⟩,fun _ h=>noneE h⟩
 | succ m ih=>exact ⟨⟨wqL ih.1,wxn ih.1,wxI ih.1,Sf,Sm,kn,st,fun h=>noneE h⟩,wwK ih.1 ih.2⟩
theorem wsY (q0 q:QV):QLe (restr q0 q) q:=fun x sl h=>by
 unfold restr at h
 rw [wg4 (fun x o=>if (lookq x q0).isSome then o else none) x (fun x=>ite_self _)]at h
 exact ifE h fun _ h=>h
theorem wsM (q:QV):QLe (staysq q) q:=fun x sl h=>wiP h fun h _=>h
theorem wsN (q:QV):AllFz (staysq q):=fun x sl h=>wiP h fun _ h=>by
 cases sl with
 | fz d=>exact .inl ⟨d,rfl⟩
 | own d=>cases d<;>first | exact .inr ⟨_,_,rfl⟩ | exact ffE h
theorem forE {st:Stmt} {k:Expr->Expr->Option D} (h:forK st k=some r):∃ t iter body l p,st=.For t iter body l p/\(if l.isEmpty then k t iter else none)=some r:=by
 cases st<;>first | exact ⟨_,_,_,_,_,rfl,h⟩ | exact noneE h
structure FInv (C:Fr) (env:Env) (F1:FH) (F:FH) (W:Addr->Prop) (s:Shared) (fp wr:List Addr) (St:Nat->Heap->Prop) (run:List D->QV->Option D) (ds:List D) (r:D) (i:Nat) (F3:FH) (W3:Addr->Prop) (q:QV) (s':Shared):Prop where
 le:i<=ds.length
 st:St i s'.heap
 y:Stp F W s F3 W3 s'
 le₁:F1.le F3
 fr:FnRel C env F3 W3 s'.heap q
 run:run (ds.drop i) q=some r
 fp:∀ b∈fp,¬ W3 b
 wr:∀ b∈wr,F3 b=none
theorem wwp (S:SoundX C n K CF CM) {t iter:Expr} {body:List Stmt} {pos:Pos} {run:List D->QV->Option D} {Q:Flow->Shared->Prop} (X:Fk C A n env q F W s) (k:ExQ C env F W s next (fun _=>none) (fun _=>none) ret r Q)
  {kx:List D->Option D} (hrun:K.it env.scope (staysq q) iter t kx=some r) (hk:∀ ds,kx ds=some r->run ds q=some r) (r0:∀ {q},run [] q=some r->next q=some r)
  (rs:∀ {d ds q},run (d::ds) q=some r->∃ nx:QV->Option D,(∀ q2,nx (restr q q2)=some r->run ds (restr q q2)=some r)/\∃ kb:QV->Option D,bindTQ env.scope t d q kb=some r /\
   ∀ {F W s Q q1} {E:Value->Shared->Prop},kb q1=some r->Fk C A n env q1 F W s->ExQ C env F W s (fun q2=>nx (restr q q2)) (fun q2=>next (restr q q2)) (fun q2=>nx (restr q q2)) ret r Q->wpAny (model C.prog C.w) A (execs body env) Q E s) :
  wpAny (model C.prog C.w) A (exec (.For t iter body [] pos) env) Q E s:=by
 have R:=X.R
 refine wpAny_For ?_ (wfy S.set hrun)
 refine S.it ⟨R,X.g,(X.r.less (wsM q)).st.rel⟩ hrun fun ds hd F1 hH xa I s₂ fp wr P Md St xb tn=>?_
 have hf:=hk ds hd
 clear hrun hd hk
 have KT:=tn.kt A R.handled
 have hwr0:∀ b∈wr,s.heap.get? b=none:=fun b hb=>xa.keep.gone (tn.new b hb)
 have live:∀ {i:Nat} {h:Heap},St i h->∀ b∈fp,h.get? b≠none:=fun {i h} st b hb=>by
  obtain ⟨o,e,_⟩:=tn.alive _ _ st b hb
  rw [e];exact wav
 have rc:=(X.r.ext xa).ext xb
 have hwt:tabAt C ∉ wr:=fun q=>by
  obtain ⟨o,e,_⟩:=X.r.st.rel.tab
  exact noAt e (hwr0 _ q)
 refine codeAny_forLoop_any (fun m s'=>∃ i F3 W3 qb,m=ds.length+1 - i/\FInv C env F1 F W s fp wr St run ds r i F3 W3 qb s') ?_ (ds.length+1)
  ⟨0,F1,W,q,rfl,Nat.zero_le _,tn.st,Stp.of (xa.trans xb),FH.le.refl _,rc,by rw [List.drop_zero];exact hf,fun b hb q=>(tn.src b hb).elim (fun e=>X.r.st.wIn b q (xa.keep.gone e)) fun e=>e (wsN _) ((X.r.ext xa).st.wF b q),fun b hb=>noneF xa.inn (tn.new b hb)⟩
 rintro m s' ⟨i,F3,W3,qb,rfl,V⟩
 have wW:∀ b∈wr,¬ W3 b:=fun b hb=>V.fp b (KT.sub b hb)
 by_cases hlt:i<ds.length
 ·refine KT.item i s' _ _ hlt V.st fun v hX tk1 hMd hkd=>KT.go i v _ _ _ hMd fun hJ hPv sta hka=>?_
  have hka:∀ b o,¬ b∈wr->s'.heap.get? b=some o->hJ.get? b=some o:=fun b o q e=>hka b o q (hkd b o q e)
  have y2:=V.y.but (s₂:={ s' with heap:=hJ,toks:=tk1 }) (P:=fun b=>b∈wr) hwr0 hka
  have r5:=V.fr.touch (h':=hJ) (P:=fun b=>b∈wr) hka V.wr wW hwt
  have hf:=V.run
  rw [List.drop_eq_getElem_cons hlt]at hf
  obtain ⟨nx,hnx,kb,c1,c2⟩:=rs hf
  obtain ⟨d',hd',hit⟩:=tn.rep i v _ hPv
  rw [List.getElem?_eq_getElem hlt]at hd'
  have e:=Option.some.inj hd';subst e
  have frm:∀ {i:Nat} {h h':Shared} {F4 F5:FH} {W4 W5:Addr->Prop},St i h.heap->Stp F4 W4 h F5 W5 h'->(∀ b∈fp,¬ W4 b)->St i h'.heap:=fun {i h h' F4 F5 W4 W5} st z nw=>KT.frame _ _ _ st fun b hb o e=>z.keep b o (nw b hb) (by
   obtain ⟨o',e',nt⟩:=tn.alive _ _ st b hb
   rw [e]at e';rw [Option.some.inj e'];exact nt) e
  refine wjl (wok { s' with heap:=hJ,toks:=tk1 }) (s:={ s' with heap:=hJ,toks:=tk1 }) R.handled ⟨Stp.refl,r5⟩ c1 (hit.mono V.le₁) fun qe bd _ sd ⟨y3,r6⟩=>?_
  have st3:=frm sta y3 V.fp
  refine c2 (bd c1) ⟨R,X.g.mono V.y.le,r6⟩ fun se F4 W4 qc f z r7 hfl=>?_
  have yy:=(y2.trans y3).trans z
  have hwF4:∀ b∈wr,F4 b=none:=fun b hb=>by
   cases q:F4 b with
   | none=>rfl
   | some o=>
    rcases z.f b o q with e | e | e
    ·exact noneE ((V.wr b hb).symm.trans e)
    ·exact absurd e (wW b hb)
    ·exact absurd e (live st3 b (KT.sub b hb))
  have r8:=r7.less (wsY qb qc)
  have again:nx (restr qb qc)=some r->∃ m,m<ds.length+1 - i/\∃ i F3 W3 qb,m=ds.length+1 - i/\FInv C env F1 F W s fp wr St run ds r i F3 W3 qb se:=
   fun c3=>⟨ds.length+1 - (i+1),subLt hlt,i+1,F4,W4,_,rfl,hlt,frm st3 z V.fp,yy,V.le₁.trans z.le,r8,hnx _ c3,fun b hb q=>(z.w b q).elim (V.fp b hb) fun e=>live st3 b hb e,hwF4⟩
  cases f with
  | next=>exact again hfl
  | cont=>exact again hfl
  | brk=>exact k (f:=.next) yy r8 hfl
  | ret v=>exact k (f:=.ret v) yy r8 hfl
 ·have hin:i=ds.length:=Nat.le_antisymm V.le (Nat.not_lt.mp hlt)
  have hf:=V.run
  rw [hin,List.drop_of_length_le (Nat.le_refl _)]at hf
  refine KT.done s' _ _ (hin ▸ V.st) fun h' tk hk'=>wpAny_execs_nil (k (f:=.next) (V.y.but (s₂:={ s' with heap:=h',toks:=tk }) (P:=fun b=>b∈wr) hwr0 hk') (V.fr.touch (h':=h') (P:=fun b=>b∈wr) hk' V.wr wW hwt) (r0 hf))
end
structure FdOk (C:Fr) (a:Addr) (d:Def) (o:Obj) (fd:FuncData):Prop where
 look:C.K.lookup a=some o
 data:o.data=.func fd
 code:codeIn C.K fd.code fd.qualname=true
 body:fd.body=.stmts d.body
 clos:fd.closure=[]
 scope:fd.scope=d.scope
 glob:fd.globals=mainGlobals
 bi:fd.builtins=builtinsNs
 bind:∀ vals:List Value,vals.length=d.params.length->bindArgs fd ⟨vals,[]⟩=pure (d.params.zip vals)
 kind:d.scope.kind=.function
 cor:d.scope.isCoroutine=false
 gen:d.scope.isGenerator=false
 nodup:(d.scope.names.map (·.1)).Nodup
 pars:∀ x∈d.params,d.scope.names.lookup x=some .local\/d.scope.names.lookup x=some .cell
 pnodup:d.params.Nodup
 free:∀ p∈d.scope.names,p.2≠.free
 tab:d.scope.names.lookup gk=some .local->∃ c,fd.code=.ref c/\∃ o,C.K.lookup c=some o/\CodeO o c (tabAt C)
 keep:keepIn C.K (.ref a)=true
section
variable {C:Fr} {F F':FH} {A:Around} {E:Value->Shared->Prop} {s s':Shared} {d d':D} {env:Env} {q q':QV} {n:Nat} {W W':Addr->Prop} {h h':Heap} {a:Addr} {x:Str} {v:Value} {sl:Slot}
theorem wqV {kindOf:Str->Option NameKind} {ps:List Str}:∀ {vs:List Value} {m:Str->Option Value},x ∉ ps->bindL kindOf (ps.zip vs) m x=m x:=by
 induction ps with
 | nil=>intro vs m _;rfl
 | cons p ps ih=>
  intro vs m hx
  cases vs with
  | nil=>rfl
  | cons u vs=>
   rw [List.mem_cons,not_or]at hx
   refine (ih (vs:=vs) hx.2).trans ?_
   by_cases c:kindOf p=some .local
   ·rw [if_pos c];exact if_neg hx.1
   ·rw [if_neg c]
theorem wqW {kindOf:Str->Option NameKind} {ps:List Str}:∀ {vs:List Value} {m:Str->Option Value},x ∉ ps->bindC kindOf (ps.zip vs) m x=m x:=by
 induction ps with
 | nil=>intro vs m _;rfl
 | cons p ps ih=>
  intro vs m hx
  cases vs with
  | nil=>rfl
  | cons u vs=>
   rw [List.mem_cons,not_or]at hx
   refine (ih (vs:=vs) hx.2).trans ?_
   by_cases c:kindOf p=some .local
   ·rw [if_pos c]
   ·rw [if_neg c];exact if_neg hx.1
theorem wtU {kindOf:Str->Option NameKind} (hk:kindOf x=some .local) {ps:List Str}:∀ {vs:List Value} {m:Str->Option Value},ps.Nodup->(x,v)∈ps.zip vs->bindL kindOf (ps.zip vs) m x=some v:=by
 induction ps with
 | nil=>intro vs m _ h;exact memE h
 | cons p ps ih=>
  intro vs m hn h
  cases vs with
  | nil=>exact memE h
  | cons u vs=>
   rw [List.nodup_cons]at hn
   rcases List.mem_cons.mp h with e | h
   ·injection e with e1 e2
    subst e1 e2
    refine (wqV (vs:=vs) hn.1).trans ?_
    rw [if_pos hk];exact if_pos rfl
   ·exact ih (vs:=vs) hn.2 h
theorem wtV {kindOf:Str->Option NameKind} (hk:kindOf x≠some .local) {ps:List Str}:∀ {vs:List Value} {m:Str->Option Value},ps.Nodup->(x,v)∈ps.zip vs->bindC kindOf (ps.zip vs) m x=some v:=by
 induction ps with
 | nil=>intro vs m _ h;exact memE h
 | cons p ps ih=>
  intro vs m hn h
  cases vs with
  | nil=>exact memE h
  | cons u vs=>
   rw [List.nodup_cons]at hn
   rcases List.mem_cons.mp h with e | h
   ·injection e with e1 e2
    subst e1 e2
    refine (wqW (vs:=vs) hn.1).trans ?_
    rw [if_neg hk];exact if_pos rfl
   ·exact ih (vs:=vs) hn.2 h
theorem wff {names:List (Str×NameKind)} (hn:(names.map (·.1)).Nodup) (nn:Nat):((cellsFrom nn names []).map (·.1)).Nodup:=by
 rw [wca,List.map_nil,List.append_nil]
 exact (List.reverse_perm _).symm.nodup_iff.mp (hn.sublist (List.filter_sublist.map _))
theorem wmR {names:List (Str×NameKind)} {nn:Nat}:(∃ c,(x,c)∈cellsFrom nn names []) ↔ (x,NameKind.cell)∈names:=by
 have e:x∈(cellsFrom nn names []).map (·.1) ↔ x∈((names.filter fun p=>p.2==.cell).map (·.1)):=by
  rw [wca,List.map_nil,List.append_nil,List.mem_reverse]
 rw [List.mem_map,List.mem_map]at e
 refine ⟨fun ⟨c,h⟩=>?_,fun h=>?_⟩
 ·obtain ⟨⟨y,k⟩,hp,hy⟩:=e.mp ⟨_,h,rfl⟩
  obtain ⟨h1,h2⟩:=List.mem_filter.mp hp
  have h2:=eq_of_beq h2
  subst hy
  exact h2 ▸ h1
 ·obtain ⟨⟨y,c⟩,hp,hy⟩:=e.mpr ⟨(x,.cell),List.mem_filter.mpr ⟨h,rfl⟩,rfl⟩
  exact ⟨c,hy ▸ hp⟩
theorem wmK {df:Def} {o:Obj} {fd:FuncData} {vals:List Value} {sa:Shared} {L:Addr} {O:Addr->Prop} (ok:FdOk C a df o fd) (g:Gd C F) (hk:HeapOk C F s.heap)
  (hL:s.heap.get? L=none) (hsz:s.heap.objs.size<=L)
  (x:InCallC s (callEnvC fd L a).locals (bindL (callEnvC fd L a).kindOf (df.params.zip vals) fun _=>none) (callEnvC fd L a).cells (bindC (callEnvC fd L a).kindOf (df.params.zip vals) fun _=>none) sa)
  (hO:∀ b,O b->F b=none/\s.heap.get? b≠none/\b≠tabAt C)
  (hq:∀ {y sl},lookq y q=some sl->∃ v,(y,v)∈df.params.zip vals/\SlotOk C s.heap F v sl/\(∀ d,sl=.own d->∀ b∈tops s.heap.get? v,O b))
  (hone:∀ {y z d d'},lookq y q=some (.own d)->lookq z q=some (.own d')->y=z)
  (hsf:∀ {y c fs v},lookq y q=some (.own (.obj c fs))->(y,v)∈df.params.zip vals->v=.ref (L - 1)) :
  FnRel C (callEnvC fd L a) F (fun b=>O b\/(s.heap.get? b=none/\sa.heap.get? b≠none)) sa.heap q:=by
 have hcs:(callEnvC fd L a).cells=cellsFrom (L+1) df.scope.names []:=by show cellsFrom (L+1) fd.scope.names []=_;rw [ok.scope]
 have hsc:(callEnvC fd L a).scope=df.scope:=ok.scope
 have hkind:∀ y,(callEnvC fd L a).kindOf y=df.scope.names.lookup y:=fun y=>by show fd.scope.names.lookup y=_;rw [ok.scope]
 have keep:∀ b o,s.heap.get? b=some o->sa.heap.get? b=some o:=x.toInCall.keep
 have cell:∀ {y},df.scope.names.lookup y=some .cell->∃ c,(callEnvC fd L a).cells.lookup y=some c:=fun {y} hy=>by
  rw [hcs]
  obtain ⟨c,hc⟩:=wmR (nn:=L+1).mpr (mem_lookup hy)
  exact ⟨c,wbu (wff ok.nodup _) hc⟩
 have above:∀ {y c},(callEnvC fd L a).cells.lookup y=some c->L<c:=fun {y c} hc=>x.above y c (mem_of_lookup hc)
 have cnew:∀ {y c},(callEnvC fd L a).cells.lookup y=some c->s.heap.get? c=none:=fun hc=>Heap.get?_none_of_le (Nat.le_trans hsz (Nat.le_of_lt (above hc)))
 have cin:∀ {y c},(callEnvC fd L a).cells.lookup y=some c->sa.heap.get? c≠none:=fun {y c} hc=>by obtain ⟨o,e,_⟩:=x.cell y c hc;rw [e];exact wav
 have nsL:sa.heap.Ns L (bindL (callEnvC fd L a).kindOf (df.params.zip vals) fun _=>none):=x.toInCall.ns
 have inL:sa.heap.get? L≠none:=by obtain ⟨o,_,_,e,_⟩:=nsL;rw [e];exact wav
 have holds:∀ {y v},(y,v)∈df.params.zip vals->Holds (callEnvC fd L a) sa.heap y v:=fun {y v} hm=>by
  rcases ok.pars y (List.of_mem_zip hm).1 with h | h
  ·exact .inl ⟨by rw [hsc];exact h,_,nsL,wtU (by rw [hkind,h]) ok.pnodup hm⟩
  ·obtain ⟨c,hc⟩:=cell h
   have:=x.cell y c hc
   rw [wtV (by rw [hkind,h];decide) ok.pnodup hm]at this
   exact .inr ⟨.inl (by rw [hsc];exact h),c,hc,this⟩
 have own:∀ {y d v},lookq y q=some (.own d)->Holds (callEnvC fd L a) sa.heap y v->(y,v)∈df.params.zip vals/\∀ b∈tops sa.heap.get? v,O b:=fun {y d v} hl hh=>by
  obtain ⟨u,h1,h2,h3⟩:=hq hl
  have e:=hh.fn (holds h1);subst e
  exact ⟨h1,fun b hb=>h3 d rfl b (by rwa [wcR h2 (fun b _ o e=>keep b o e)]at hb)⟩
 exact ⟨{
  rel:={
   eo:=⟨by rw [hsc];exact ok.kind,ok.glob,ok.bi,fun y hy=>by
    rw [hsc]at hy
    exact hy.elim cell fun h=>absurd rfl (ok.free _ (mem_lookup h)),fun y z c h1 h2=>name_of_addr x.apart (mem_of_lookup h1) (mem_of_lookup h2)⟩
   inn:=fun b o e=>keep b o (hk.inn b o e)
   vars:=fun {y sl} hl hv=>by
    obtain ⟨u,h1,h2,h3⟩:=hq hl
    refine ⟨u,holds h1,?_⟩
    cases sl with
    | fz d=>exact h2
    | own d=>exact Vw.mono h2 keep (FH.le.refl F)
   cin:=cin
   own:=fun y d v hl hv hh b hb=>by
    have hb:=(hO b ((own hl hh).2 b hb)).2.1
    exact ⟨fun q=>hb (by rw [q];exact hL),fun z c hc q=>hb (by rw [<- q];exact cnew hc)⟩
   tab:=by obtain ⟨o,e,t⟩:=hk.tab;exact ⟨o,keep _ o e,t⟩
   ftab:=hk.ftab
   code:=fun q=>by
    obtain ⟨c,e,o,e1,r⟩:=ok.tab (hsc ▸ q)
    exact ⟨c,e,o,g.kin _ _ e1,r⟩ }
  wF:=fun b hb=>hb.elim (fun hb=>(hO b hb).1) fun hb=>noneF hk.inn hb.1
  wIn:=fun b hb=>hb.elim (fun hb=>by
   cases q:s.heap.get? b with
   | none=>exact absurd q (hO b hb).2.1
   | some o=>rw [keep b o q];exact wav) fun hb=>hb.2
  wL:=.inr ⟨hL,inL⟩
  ns:=⟨_,nsL⟩
  set:=fun y hy=>by
   rw [hsc]at hy ⊢
   unfold canSet at hy
   cases q:df.scope.names.lookup y with
   | none=>rw [q]at hy;exact ffE hy
   | some k=>
    rw [q]at hy
    cases k with
    | «local»=>exact .inl rfl
    | cell=>obtain ⟨c,hc⟩:=cell q;exact .inr ⟨rfl,c,_,hc,.inr ⟨cnew hc,cin hc⟩,x.cell y c hc⟩
    | _=>exact ffE hy
  cL:=fun y c hc=>Nat.ne_of_gt (above hc)
  cB:=fun y c hc=>.inr (.inr ⟨cnew hc,cin hc⟩)
  oB:=fun y d v hl hv hh b hb=>.inl (.inl ((own hl hh).2 b hb))
  tW:=fun q=>q.elim (fun q=>(hO _ q).2.2 rfl) fun q=>by obtain ⟨o,e,_⟩:=hk.tab;exact noAt e q.1
  tB:=.inr rfl },fun y c hc=>.inr ⟨cnew hc,cin hc⟩,fun y d v hl hv hh b hb=>.inl ((own hl hh).2 b hb),
  fun y z d d' v v' hn hl hl' _ _ _ _=>absurd (hone hl hl') hn,fun y c fs v hl hv hh=>hsf hl (own hl hh).1⟩
end
noncomputable def initQ (ps:List Str) (args:List D) (ls:List Str):QV:=(ps.zip args).map (fun p=>(p.1,some (.fz p.2)))++ls.map (fun x=>(x,none))
noncomputable def selfQ (self:Str) (q:QV):Option D:=ownK (lookq self q) fun d=>objK d fun c fs=>some (.obj c fs)
noncomputable def BodyOk (C:Fr) (n:Nat) (df:Def) (q:QV) (next:QV->Option D) (ret:D->Option D) (d:D):Prop:=
 ∀ ⦃A:Around⦄ ⦃env:Env⦄ ⦃F:FH⦄ ⦃W:Addr->Prop⦄ ⦃s:Shared⦄ ⦃Q:Flow->Shared->Prop⦄ ⦃E:Value->Shared->Prop⦄,env.scope=df.scope->Fk C A n env q F W s->ExQ C env F W s next (fun _=>none) (fun _=>none) ret d Q->wpAny (model C.prog C.w) A (execs df.body env) Q E s
section
variable {C:Fr} {F F':FH} {A:Around} {E:Value->Shared->Prop} {s s':Shared} {d d':D} {env:Env} {q q':QV} {n:Nat} {W W':Addr->Prop} {h h':Heap} {a:Addr} {x:Str} {v:Value} {sl:Slot}
theorem wfb {P:Prop} {ls:List Str} {ps:List Str}:∀ {vs:List Value} {ds:List D},RepAll C F ds vs->lookq x (initQ ps ds ls)=some sl->(∀ v d,(x,v)∈ps.zip vs->sl=.fz d->Rep C F v d->P)->P:=by
 have no:∀ {P:Prop} (l:List Str),lookq x (l.map fun y=>(y,none))=some sl->P:=fun l=>by
  induction l with
  | nil=>exact fun h=>noneE h
  | cons y l ih=>
   intro h
   by_cases c:(y==x)=true
   ·exact noneE ((if_pos c).symm.trans h)
   ·exact ih ((if_neg c).symm.trans h)
 induction ps with
 | nil=>intro vs ds _ h _;exact no ls h
 | cons p ps ih=>
  intro vs ds r h f
  cases ds with
  | nil=>exact no ls h
  | cons d ds=>
   cases r with | mk r1 r2=>
   by_cases c:(p==x)=true
   ·have h:=(if_pos c).symm.trans h
    rw [eq_of_beq c]at f
    exact f _ d List.mem_cons_self (Option.some.inj h).symm r1
   ·exact ih r2 ((if_neg c).symm.trans h) fun v d hm=>f v d (List.mem_cons_of_mem _ hm)
theorem FdOk.kinds {df:Def} {o:Obj} {fd:FuncData} (ok:FdOk C a df o fd) {vals:List Value} (nn:Nat):∀ x∈df.params.zip vals,fd.scope.names.lookup x.1=some .local\/(fd.scope.names.lookup x.1=some .cell/\((cellsFrom nn fd.scope.names []).lookup x.1).isSome=true):=fun x hm=>by
 rw [ok.scope]
 refine (ok.pars x.1 (List.of_mem_zip hm).1).imp_right fun h=>?_
 obtain ⟨c,hc⟩:=wmR (nn:=nn).mpr (mem_lookup h)
 exact ⟨h,by rw [wbu (wff ok.nodup nn) hc];rfl⟩
theorem Room.deeper {A:Around} (R:Room A (n+1)) (env:Env):Room (A.deeper env) n:=⟨R.handled,by have:=R.depth;show A.depth+1+2 * n+10<_;omega,by have:=R.units;show A.units+3+16 * n+200<_;omega⟩
theorem wkU {df:Def} {o:Obj} {fd:FuncData} {ds:List D} {ls:List Str} (ok:FdOk C a df o fd) (hb:BodyOk C n df (initQ df.params ds ls) (fun _=>some .none) some d) (hlen:df.params.length=ds.length):FnSem C (n+1) (.ref a) ds d:=by
 intro A F s vs Q E R g hk rv k
 have X:=g.kIn hk.inn
 refine wpAny_call (codeAny_call_cells (by have:=R.depth;omega) (X _ _ ok.look) ok.data (g.limit hk.inn) (codeRec_of X ok.code) ok.body (ok.bind vs (rv.length.trans hlen.symm)) ok.clos (ok.kinds _) ?_ (by rw [ok.scope];exact ok.cor) (by rw [ok.scope];exact ok.gen) (by rw [ok.scope];exact ok.kind))
 intro sa inC
 have fr:=wmK (s:=s) (q:=initQ df.params ds ls) (O:=fun _=>False) ok g hk (get?_size _) (Nat.le_refl _) inC (fun b q=>q.elim)
  (fun {y sl} hl=>wfb rv hl fun v d' q1 e q2=>by subst e;exact ⟨v,q1,q2,fun d e=>Slot.noConfusion e⟩)
  (fun {y z d' d''} hl _=>wfb rv hl fun _ _ _ e _=>Slot.noConfusion e) fun {y c fs v} hl _=>wfb rv hl fun _ _ _ e _=>Slot.noConfusion e
 refine hb (A:=A.deeper _) ok.scope ⟨R.deeper _,g,fr⟩ fun s' F' W' q' f y r' hf=>?_
 have x:=y.ext (KeepT.of inC.toInCall.keep) (.call inC.toInCall) (fun b q=>q.elim False.elim fun q=>q.1) r'.st.rel.inn
 cases f with
 | next=>exact k _ s' F' x (Option.some.inj hf ▸ rfl)
 | ret v=>
  obtain ⟨d',e,rv'⟩:=hf
  exact k _ s' F' x (Option.some.inj e ▸ rv')
 | brk=>exact noneE hf
 | cont=>exact noneE hf
theorem woG {c:Str} {df:Def} {o:Obj} {fd:FuncData} {ds:List D} {ls ps:List Str} {self:Str} (ok:FdOk C a df o fd) (hm:makesIn C.K (C.cad c)=true) (hi:findIn C.K (.ref (C.cad c)) "__init__"=some (some (.ref a))) (ht:typeIn C.K (.ref a)=some (.type "function"))
  (hps:df.params=self::ps) (hlen:ps.length=ds.length) (hsv:isVar df.scope self=true) (hb:BodyOk C n df ((self,some (.own (.obj c [])))::initQ ps ds ls) (selfQ self) (fun _=>none) d):FnSem C (n+1) (.ref (C.cad c)) ds d:=by
 intro A F s vs Q E R g hk rv k
 obtain ⟨hp,gg,dr,tk,os⟩:=s
 have X:=g.kIn hk.inn
 have hlv:=rv.length
 refine wpAny_call (make_core (makes_of X hm) (looks_findIn X hi) (fun self=>bind_fn X self ht) (.inl (by simp)) ?_)
 have dead0:hp.get? hp.objs.size=none:=get?_size _
 have dead1:hp.get? (hp.objs.size+1)=none:=Heap.get?_none_of_le (Nat.le_succ _)
 have kp:∀ b ob,hp.get? b=some ob->((hp.push emptyDict).push (instObj (C.cad c) hp.objs.size)).get? b=some ob:=fun b ob e=>Heap.get?_push_of_some _ (Heap.get?_push_of_some _ e)
 have hz:((hp.push emptyDict).push (instObj (C.cad c) hp.objs.size)).objs.size=hp.objs.size+2:=by rw [Heap.size_push,Heap.size_push]
 have ed:((hp.push emptyDict).push (instObj (C.cad c) hp.objs.size)).get? hp.objs.size=some emptyDict:=Heap.get?_push_of_some _ (Heap.get?_push_size _ rfl)
 have ex:((hp.push emptyDict).push (instObj (C.cad c) hp.objs.size)).get? (hp.objs.size+1)=some (instObj (C.cad c) hp.objs.size):=by
  have:(hp.push emptyDict).objs.size=hp.objs.size+1:=Heap.size_push ..
  rw [<- this];exact Heap.get?_push_size _ rfl
 generalize ((hp.push emptyDict).push (instObj (C.cad c) hp.objs.size))=H at *
 generalize hp.objs.size=z at *
 have hka:HeapOk C F H:=hk.ext (s:=⟨hp,gg,dr,tk,os⟩) (s':=⟨H,gg,dr,tk,os⟩) (Ext.same (s:=⟨hp,gg,dr,tk,os⟩) (s':=⟨H,gg,dr,tk,os⟩) hk.inn kp)
 have X2:=g.kIn hka.inn
 have htops:tops H.get? (.ref (z+1))=[z+1,z]:=wbk ex
 have hview:View C H F (.ref (z+1)) (.obj c []):=VO.mk ex ed ⟨⟨#[],_,rfl,fun e he=>absurd he (Array.not_mem_empty e),fun nm=>rfl⟩,fun des ep q=>by injection q with q1 q2;rw [<- q1];exact Nat.le_refl _⟩ rfl
 have hsnd:=ok.pnodup
 rw [hps,List.nodup_cons]at hsnd
 have hdep:(A.under (.builtin "type.__call__" ⟨.ref (C.cad c)::vs,[]⟩)).depth=A.depth+1:=rfl
 have hun:(A.under (.builtin "type.__call__" ⟨.ref (C.cad c)::vs,[]⟩)).units<=A.units+4:=Nat.add_le_add_left (show Code.cUnits (.builtin "type.__call__" ⟨.ref (C.cad c)::vs,[]⟩)<=4 from by show (_:Nat)<=4;exact Nat.le_of_ble_eq_true rfl) _
 have Rd:=R.depth
 have Ru:=R.units
 refine codeAny_call_cells (s:=⟨H,gg,dr,tk,os⟩) (by rw [hdep];omega) (X2 _ _ ok.look) ok.data (g.limit hka.inn) (codeRec_of X2 ok.code) ok.body (ok.bind _ (by rw [hps];exact congrArg Nat.succ (hlv.trans hlen.symm))) ok.clos (ok.kinds _) ?_ (by rw [ok.scope];exact ok.cor) (by rw [ok.scope];exact ok.gen) (by rw [ok.scope];exact ok.kind)
 intro sa inC
 have lk:∀ {P:Prop} {y sl},lookq y ((self,some (.own (.obj c [])))::initQ ps ds ls)=some sl->(y=self->sl=.own (.obj c [])->P)->(∀ v d,(y,v)∈ps.zip vs->sl=.fz d->Rep C F v d->P)->P:=fun {P y sl} hl f f'=>by
  by_cases q:(self==y)=true
  ·exact f (eq_of_beq q).symm (Option.some.inj ((if_pos q).symm.trans hl)).symm
  ·exact wfb rv ((if_neg q).symm.trans hl) f'
 have hft:∀ b,hp.get? b=none->F b=none/\b≠tabAt C:=fun b e=>⟨noneF hk.inn e,fun q=>by obtain ⟨ob,e',_⟩:=hk.tab;rw [<- q]at e';exact noAt e' e⟩
 have fr:=wmK (s:=⟨H,gg,dr,tk,os⟩) (L:=H.objs.size) (q:=(self,some (.own (.obj c [])))::initQ ps ds ls) (O:=fun b=>b=z\/b=z+1) ok g hka (get?_size _) (Nat.le_refl _) inC
  (fun b q=>q.elim (fun q=>q ▸ ⟨(hft _ dead0).1,by show H.get? _≠none;rw [ed];exact wav,(hft _ dead0).2⟩) fun q=>q ▸ ⟨(hft _ dead1).1,by show H.get? _≠none;rw [ex];exact wav,(hft _ dead1).2⟩)
  (fun {y sl} hl=>lk hl (fun e1 e2=>by
   subst e1 e2
   refine ⟨.ref (z+1),by rw [hps];exact List.mem_cons_self,hview,fun d e b hb=>?_⟩
   have hb:b∈tops H.get? (.ref (z+1)):=hb
   rw [htops]at hb
   exact (List.mem_cons.mp hb).elim .inr fun hb=>.inl (List.mem_singleton.mp hb)) fun v d' q1 e q2=>by subst e;exact ⟨v,by rw [hps];exact List.mem_cons_of_mem _ q1,q2,fun d e=>Slot.noConfusion e⟩)
  (fun {y y' d' d''} hl hl'=>lk hl (fun e1 _=>lk hl' (fun e2 _=>e1.trans e2.symm) fun _ _ _ e _=>Slot.noConfusion e) fun _ _ _ e _=>Slot.noConfusion e)
  fun {y c' fs v} hl hm'=>lk hl (fun e1 _=>by
   subst e1
   rw [hps,List.zip_cons_cons]at hm'
   rcases List.mem_cons.mp hm' with e | hm'
   ·injection e with _ e;rw [e,hz];rfl
   ·exact absurd (List.of_mem_zip hm').1 hsnd.1) fun _ _ _ e _=>Slot.noConfusion e
 refine hb (A:=(A.under (.builtin "type.__call__" ⟨.ref (C.cad c)::vs,[]⟩)).deeper _) ok.scope ⟨⟨R.handled,?_,?_⟩,g,fr⟩ fun s' F' W' q' f y r' hf=>?_
 ·show A.depth+1+1+2 * n+10<_;omega
 ·show (A.under _).units+3+16 * n+200<_;omega
 cases f with
 | next=>
  refine ⟨rfl,?_⟩
  refine ownE (show selfQ self q'=some d from hf) fun od hl' e=>objE e fun c' fs' eo e=>?_
  have ed':=Option.some.inj e
  clear e hf
  subst eo ed'
  have hsv':isVar (callEnvC fd H.objs.size a).scope self=true:=by rw [show (callEnvC fd H.objs.size a).scope=df.scope from ok.scope];exact hsv
  obtain ⟨v,hh,view⟩:=r'.st.rel.vars hl' hsv'
  have hv:v=.ref (z+1):=(r'.sf hl' hsv' hh).trans (by show Value.ref (H.objs.size - 1)=_;rw [hz];rfl)
  subst hv
  have kx:Keep hp sa.heap:=Keep.trans kp inC.toInCall.keep
  have dead:∀ b,((b=z\/b=z+1)\/H.get? b=none/\sa.heap.get? b≠none)->hp.get? b=none:=fun b q=>
   q.elim (fun q=>q.elim (fun q=>q ▸ dead0) fun q=>q ▸ dead1) fun q=>weN kp q.1
  have x:=y.ext (s₀:=⟨hp,gg,dr,tk,os⟩) (KeepT.of kx) ⟨(Calm.call inC.toInCall).os,(Calm.call inC.toInCall).gens⟩ dead r'.st.rel.inn
  have htW:∀ b∈tops s'.heap.get? (.ref (z+1)),W' b:=fun b hb=>r'.oW hl' hsv' hh b hb
  have hdead:∀ b,W' b->hp.get? b=none:=fun b q=>(y.w b q).elim (dead b) fun e=>weN kx e
  cases view with | @mk b' d₁ od es e1 e2 hn rf=>
  have ht:=wbk (G:=s'.heap.get?) e1
  have w1:=htW (z+1) (ht ▸ List.mem_cons_self)
  have w2:=htW d₁ (ht ▸ List.mem_cons_of_mem _ List.mem_cons_self)
  have hne:d₁≠z+1:=fun q=>by
   rw [q,e1]at e2
   obtain ⟨_,_,y,_⟩:=hn.ns
   rw [<- Option.some.inj e2]at y
   exact absurd y (by intro y;cases y)
  have xa:=x.seal (hdead _ w1) (r'.st.wF _ w1) (fun _ _ _ e=>e) e1
  have f2:(F'.put (z+1) (instObj (C.cad c') d₁)) d₁=none:=by unfold FH.put;rw [if_neg hne];exact r'.st.wF _ w2
  have xb:=xa.seal (hdead _ w2) f2 (fun _ _ _ e=>e) e2
  have f1':((F'.put (z+1) (instObj (C.cad c') d₁)).put d₁ od) (z+1)=some (instObj (C.cad c') d₁):=by
   unfold FH.put;rw [if_neg (Ne.symm hne),if_pos rfl]
  exact k _ s' _ xb (VO.mk f1' (FH.put_self _ _ _) hn (RepFs.mono ((FH.le_put (r'.st.wF _ w1)).trans (FH.le_put f2)) _ rf))
 | ret v=>obtain ⟨_,e,_⟩:=hf;exact noneE e
 | brk=>exact noneE hf
 | cont=>exact noneE hf
end
structure FnsOk (C:Fr):Prop where
 fns:∀ f d,C.T.fns.lookup f=some d->∃ a o fd,C.mg f=some (.ref a)/\FdOk C a d o fd
 cls:∀ c ms,C.T.cls.lookup c=some ms->C.mg c=some (.ref (C.cad c))/\makesIn C.K (C.cad c)=true/\keepIn C.K (.ref (C.cad c))=true /\
  ∀ m d,ms.lookup m=some d->∃ a o fd,findIn C.K (.ref (C.cad c)) m=some (some (.ref a))/\typeIn C.K (.ref a)=some (.type "function")/\FdOk C a d o fd
structure Wd (T:Tab) (C:Fr):Prop where
 t:C.T=T
 fns:FnsOk C
 st:∃ mcs,StOk C mcs
noncomputable def CGood (T:Tab) (CF:Str->List D->Option D) (CM:Str->Str->List D->Option D) (N:Nat):Prop:=∀ C,Wd T C->SoundFn C N CF/\SoundMeth C N CM
noncomputable def FOk (T:Tab) (N:Nat) (sc:Scope) (st:Stmt) (G:Hd):Prop:=∀ C,Wd T C->HdOk C N sc st G
noncomputable def stD:Stmt:=.Pass default
noncomputable def HsI (T:Tab) (N:Nat) (sc:Scope) (l:List Stmt):Nat->List (Option Hd)->Prop
 | _,[]=>True
 | i,some F::hs=>FOk T N sc (l.getD i stD) F/\HsI T N sc l (i+1) hs
 | i,none::hs=>HsI T N sc l (i+1) hs
noncomputable abbrev HsOk (T:Tab) (N:Nat) (sc:Scope) (l:List Stmt) (hs:List (Option Hd)):Prop:=HsI T N sc l 0 hs
noncomputable def runQ (T:Tab) (CF:Str->List D->Option D) (CM:Str->Str->List D->Option D) (n:Nat) (d:Def) (hs:List (Option Hd)) (ls:List Str) (args:List D):Option D:=
 execT T (kI T CF CM n) d.cx d.scope d.body hs (initQ d.params args ls) (fun _=>some .none) (fun _=>none) (fun _=>none) some
noncomputable def newQ (T:Tab) (CF:Str->List D->Option D) (CM:Str->Str->List D->Option D) (n:Nat) (c:Str) (d:Def) (hs:List (Option Hd)) (ls:List Str) (self:Str) (ps:List Str) (args:List D):Option D:=
 execT T (kI T CF CM n) d.cx d.scope d.body hs ((self,some (.own (.obj c [])))::initQ ps args ls) (selfQ self) (fun _=>none) (fun _=>none) (fun _=>none)
theorem wva {T:Tab} {c m:Str} {P:Prop} (h:hasM T c m=true) (f:∀ ms d,T.cls.lookup c=some ms->ms.lookup m=some d->P):P:=by
 unfold hasM at h
 cases e:T.cls.lookup c with
 | none=>rw [e]at h;exact ffE h
 | some ms=>
  rw [e]at h
  cases e2:ms.lookup m with
  | none=>exact ffE ((congrArg Option.isSome e2).symm.trans h)
  | some d=>exact f ms d e e2
theorem Wd.known {T:Tab} {C:Fr} (W:Wd T C):Known C where
 fn {f} h:=by
  unfold hasF at h
  cases e:C.T.fns.lookup f with
  | some d=>obtain ⟨a,o,fd,e1,ok⟩:=W.fns.fns f d e;exact ⟨_,e1,ok.keep⟩
  | none=>
   cases e2:C.T.cls.lookup f with
   | none=>rw [e,e2]at h;exact ffE h
   | some ms=>obtain ⟨e1,_,e3,_⟩:=W.fns.cls f ms e2;exact ⟨_,e1,e3⟩
 me {c m} h:=wva h fun ms d e1 e2=>by
  obtain ⟨mcs,co⟩:=W.st
  obtain ⟨_,_,_,e4⟩:=W.fns.cls c ms e1
  obtain ⟨a,o,fd,e5,e6,ok⟩:=e4 m d e2
  exact ⟨co.cls c (by rw [e1];rfl),a,e5,e6,ok.keep⟩
theorem FnSem.mono {C:Fr} {n m:Nat} {v:Value} {ds:List D} {d:D} (x:FnSem C n v ds d) (h:n<=m):FnSem C m v ds d:=fun R=>x (R.mono h)
section
variable {T:Tab} {CF:Str->List D->Option D} {CM:Str->Str->List D->Option D} {N:Nat} {sc:Scope} {r:D}
theorem HsI.k {C:Fr} (W:Wd T C) {l:List Stmt}:∀ {k i:Nat} {hs:List (Option Hd)},l.length - i=k->HsI T N sc l i hs->HsK C N sc (l.drop i) hs:=by
 intro k
 induction k with
 | zero=>intro i hs hk _;rw [List.drop_of_length_le (leSub hk)];trivial
 | succ k ih=>
  intro i hs hk h
  have hi:i<l.length:=ltSub hk
  rw [List.drop_eq_getElem_cons hi]
  cases hs with
  | nil=>exact ⟨fun G e=>noneE e,ih (hs:=[]) (sub1 hk) trivial⟩
  | cons o hs=>
   cases o with
   | none=>exact ⟨fun G e=>noneE e,ih (sub1 hk) h⟩
   | some G=>exact ⟨fun G' e=>by
     have:=h.1 C W
     rw [List.getD_eq_getElem?_getD,List.getElem?_eq_getElem hi]at this
     exact Option.some.inj e ▸ this,ih (sub1 hk) h.2⟩
theorem HsOk.k {C:Fr} (W:Wd T C) {l:List Stmt} {hs:List (Option Hd)} (h:HsOk T N sc l hs):HsK C N sc l hs:=by
 have:=HsI.k W rfl h
 rwa [List.drop_zero]at this
theorem CGood.k (G:CGood T CF CM N) {C:Fr} (W:Wd T C) (m:Nat):SoundX C N (kI C.T CF CM m) CF CM/\SoundEx C N (kI C.T CF CM m).exs:=by
 obtain ⟨h1,h2⟩:=G C W
 exact wxH W.known W.st h1 h2 m
theorem wa2 (G:CGood T CF CM N) {P S:Type} {n n':Nat} {c:Cx} {st:Stmt} {hs:List (Option Hd)}
  {dec:QV->Option (P×S)} {enc:P->S->QV} {B:P->S->D->(S->Option D)->(S->Option D)->(D->Option D)->Option D}
  (hdec:∀ q x,dec q=some x->q=enc x.1 x.2)
  (hB:∀ cc s d next brk ret,turnQ T CF CM n' c sc (forT st) (forB st) hs (enc cc s) d next brk ret=B cc s d (fun s'=>next (enc cc s')) (fun s'=>brk (enc cc s')) ret)
  (H:HsOk T N sc (forB st) hs):FOk T N sc st (mkF T CF CM n sc st dec enc B):=by
 intro C W A env q next ret r F Wa s Q E hsc X h k
 obtain ⟨t,iter,body,l,p,e1,h2⟩:=forE h
 clear h
 refine ifE h2 fun e2 h3=>?_
 clear h2
 have e2:=wax e2
 subst e1 e2 hsc
 have et:=W.t
 subst et
 obtain ⟨S1,_⟩:=G.k W n
 obtain ⟨S2,Sx2⟩:=G.k W n'
 have conv:∀ (cc:P) (ds:List D) (s:S),forQ C.T CF CM n' c env.scope t body hs ds (enc cc s) next ret=forS (B cc) ds s (fun s'=>next (enc cc s')) ret:=by
  intro cc ds
  induction ds with
  | nil=>intro s;rfl
  | cons d ds ih=>
   intro s
   have e:=hB cc s d (fun q'=>forQ C.T CF CM n' c env.scope t body hs ds q' next ret) next ret
   rw [show (fun s'=>forQ C.T CF CM n' c env.scope t body hs ds (enc cc s') next ret)=fun s'=>forS (B cc) ds s' (fun s'=>next (enc cc s')) ret from funext fun s'=>ih s']at e
   exact e
 refine wwp (run:=fun ds q=>forQ C.T CF CM n' c env.scope t body hs ds q next ret) S1 X k h3 (fun ds h=>ifE h fun _ h=>optE h fun x e h=>?_) (fun h=>h) fun {d ds q} h=>⟨fun q'=>forQ C.T CF CM n' c env.scope t body hs ds q' next ret,fun _ h=>h,fun q1=>execT C.T (kI C.T CF CM n') c env.scope body hs q1 (fun q2=>forQ C.T CF CM n' c env.scope t body hs ds (restr q q2) next ret) (fun q2=>next (restr q q2)) (fun q2=>forQ C.T CF CM n' c env.scope t body hs ds (restr q q2) next ret) ret,h,fun h X' k'=>wr0 S2 Sx2 body (HsOk.k W H) X' h k'⟩
 rw [hdec _ _ e]
 exact (conv ..).trans h
theorem wnq (G:CGood T CF CM N) {C:Fr} (W:Wd T C) {n:Nat} {d:Def} {hs:List (Option Hd)} {q:QV} {next:QV->Option D} {ret:D->Option D} (H:HsOk T N d.scope d.body hs)
  (h:execT T (kI T CF CM n) d.cx d.scope d.body hs q next (fun _=>none) (fun _=>none) ret=some r):BodyOk C N d q next ret r:=fun A env F Wa s Q E hsc X k=>by
 have et:=W.t
 subst et
 obtain ⟨S,Sx⟩:=G.k W n
 rw [<- hsc]at h H
 exact wr0 S Sx _ (HsOk.k W H) X h k
end
noncomputable abbrev TF:=List (Str×(List D->Option D))
noncomputable abbrev TM:=List ((Str×Str)×(List D->Option D))
noncomputable def lookF (f:Str):TF->Option (List D->Option D)
 | []=>none
 | (g,s)::r=>if g==f then some s else lookF f r
noncomputable def lookM (c m:Str):TM->Option (List D->Option D)
 | []=>none
 | (g,s)::r=>if g.1==c&&g.2==m then some s else lookM c m r
noncomputable def cfOf (t:TF):Str->List D->Option D:=fun f ds=>optK (lookF f t) fun s=>s ds
noncomputable def cmOf (t:TM):Str->Str->List D->Option D:=fun c m ds=>optK (lookM c m t) fun s=>s ds
noncomputable def FnGood (T:Tab) (f:Str) (s:List D->Option D) (N:Nat):Prop:=∀ C,Wd T C->∀ ⦃ds d v⦄,s ds=some d->C.mg f=some v->FnSem C N v ds d
noncomputable def MeGood (T:Tab) (c f:Str) (s:List D->Option D) (N:Nat):Prop:=∀ C,Wd T C->∀ ⦃ds d a⦄,s ds=some d->findIn C.K (.ref (C.cad c)) f=some (some (.ref a))->FnSem C N (.ref a) ds d
noncomputable def AllF (T:Tab) (N:Nat):TF->Prop
 | []=>True
 | (f,s)::r=>FnGood T f s N/\AllF T N r
noncomputable def AllM (T:Tab) (N:Nat):TM->Prop
 | []=>True
 | (f,s)::r=>MeGood T f.1 f.2 s N/\AllM T N r
section
variable {T:Tab} {CF:Str->List D->Option D} {CM:Str->Str->List D->Option D} {N M:Nat}
theorem FnGood.mono {f:Str} {s:List D->Option D} (h:FnGood T f s N) (l:N<=M):FnGood T f s M:=fun C W _ _ _ e e'=>FnSem.mono (h C W e e') l
theorem MeGood.mono {c f:Str} {s:List D->Option D} (h:MeGood T c f s N) (l:N<=M):MeGood T c f s M:=fun C W _ _ _ e e'=>FnSem.mono (h C W e e') l
theorem AllF.mono (l:N<=M) {t:TF} (h:AllF T N t):AllF T M t:=by
 induction t with
 | nil=>trivial
 | cons p t ih=>exact ⟨h.1.mono l,ih h.2⟩
theorem AllM.mono (l:N<=M) {t:TM} (h:AllM T N t):AllM T M t:=by
 induction t with
 | nil=>trivial
 | cons p t ih=>exact ⟨h.1.mono l,ih h.2⟩
theorem wtg {t:TF} {f:Str} {s:List D->Option D} (h:AllF T N t) (e:lookF f t=some s):FnGood T f s N:=by
 induction t with
 | nil=>exact noneE e
 | cons p t ih=>exact iteE e (fun q e=>by rw [<- Option.some.inj e,<- eq_of_beq q];exact h.1) fun _ e=>ih h.2 e
theorem wtf {t:TM} {c f:Str} {s:List D->Option D} (h:AllM T N t) (e:lookM c f t=some s):MeGood T c f s N:=by
 induction t with
 | nil=>exact noneE e
 | cons p t ih=>exact iteE e (fun q e=>andE q fun q1 q2=>by rw [<- Option.some.inj e,<- eq_of_beq q1,<- eq_of_beq q2];exact h.1) fun _ e=>ih h.2 e
theorem wif {tf:TF} {tm:TM} (hf:AllF T N tf) (hm:AllM T N tm):CGood T (cfOf tf) (cmOf tm) N:=fun C W=>
 ⟨fun h e=>optE h fun _ e1 h=>wtg hf e1 C W h e,fun h e=>optE h fun _ e1 h=>wtf hm e1 C W h e⟩
theorem wbh {n:Nat} (G:CGood T CF CM N) {f:Str} {d:Def} {hs:List (Option Hd)} {ls:List Str} {s:List D->Option D} (hf:T.fns.lookup f=some d)
  (H:HsOk T N d.scope d.body hs) (h:∀ args r,s args=some r->d.params.length=args.length/\runQ T CF CM n d hs ls args=some r):FnGood T f s (N+n+8):=fun C W ds r v e ev=>by
 obtain ⟨a,o,fd,e1,ok⟩:=W.fns.fns f d (W.t ▸ hf)
 obtain ⟨h1,h2⟩:=h ds r e
 rw [Option.some.inj (ev.symm.trans e1)]
 exact FnSem.mono (wkU ok (wnq G W H h2) h1) (Nat.le_trans (Nat.add_le_add_right (Nat.le_add_right N n) 1) (Nat.le_add_right _ 7))
theorem wnB {n:Nat} (G:CGood T CF CM N) {c:Str} {ms:List (Str×Def)} {d:Def} {hs:List (Option Hd)} {ls:List Str} {self:Str} {ps:List Str} {s:List D->Option D} (hc:T.cls.lookup c=some ms) (hi:ms.lookup ("__init__":Str)=some d)
  (hp:d.params=self::ps) (hv:isVar d.scope self=true)
  (H:HsOk T N d.scope d.body hs) (h:∀ args r,s args=some r->ps.length=args.length/\newQ T CF CM n c d hs ls self ps args=some r):FnGood T c s (N+n+8):=fun C W ds r v e ev=>by
 obtain ⟨e1,e2,e3,e4⟩:=W.fns.cls c ms (W.t ▸ hc)
 obtain ⟨a,o,fd,e5,e6,ok⟩:=e4 _ d hi
 obtain ⟨h1,h2⟩:=h ds r e
 rw [Option.some.inj (ev.symm.trans e1)]
 exact FnSem.mono (woG ok e2 e5 e6 hp h1 hv (wnq G W H h2)) (Nat.le_trans (Nat.add_le_add_right (Nat.le_add_right N n) 1) (Nat.le_add_right _ 7))
theorem wev {n:Nat} (G:CGood T CF CM N) {c f:Str} {ms:List (Str×Def)} {d:Def} {hs:List (Option Hd)} {ls:List Str} {s:List D->Option D} (hc:T.cls.lookup c=some ms) (hi:ms.lookup f=some d)
  (H:HsOk T N d.scope d.body hs) (h:∀ args r,s args=some r->d.params.length=args.length/\runQ T CF CM n d hs ls args=some r):MeGood T c f s (N+n+8):=fun C W ds r v e ev=>by
 obtain ⟨_,_,_,e4⟩:=W.fns.cls c ms (W.t ▸ hc)
 obtain ⟨a,o,fd,e5,e6,ok⟩:=e4 _ d hi
 obtain ⟨h1,h2⟩:=h ds r e
 rw [Option.some.inj (Option.some.inj (ev.symm.trans e5))]
 exact FnSem.mono (wkU ok (wnq G W H h2) h1) (Nat.le_trans (Nat.add_le_add_right (Nat.le_add_right N n) 1) (Nat.le_add_right _ 7))
end
noncomputable abbrev a1 (f:D->Option D) (ds:List D):Option D:=oneK ds f
noncomputable abbrev a2 (f:D->D->Option D) (ds:List D):Option D:=unK ds fun a ds=>oneK ds fun b=>f a b
noncomputable abbrev a3 (f:D->D->D->Option D) (ds:List D):Option D:=unK ds fun a ds=>a2 (f a) ds
noncomputable abbrev a4 (f:D->D->D->D->Option D) (ds:List D):Option D:=unK ds fun a ds=>a3 (f a) ds
noncomputable abbrev a5 (f:D->D->D->D->D->Option D) (ds:List D):Option D:=unK ds fun a ds=>a4 (f a) ds
section
variable {M:List D->Prop} {ds:List D} {r:D}
theorem a1M {f:D->Option D} (h:a1 f ds=some r) (g:∀ a,f a=some r->M [a]):M ds:=oneM h g
theorem unKM {k:D->List D->Option D} (h:unK ds k=some r) (g:∀ a ds,k a ds=some r->M (a::ds)):M ds:=by
 cases ds with
 | nil=>exact noneE h
 | cons a ds=>exact g a ds h
theorem a2M {f:D->D->Option D} (h:a2 f ds=some r) (g:∀ a b,f a b=some r->M [a,b]):M ds:=unKM h fun a ds h=>oneM (M:=fun ds=>M (a::ds)) h fun b h=>g a b h
theorem a3M {f:D->D->D->Option D} (h:a3 f ds=some r) (g:∀ a b c,f a b c=some r->M [a,b,c]):M ds:=unKM h fun a ds h=>a2M (M:=fun ds=>M (a::ds)) h fun b c h=>g a b c h
end
noncomputable def zq:List Str->List (Option Slot)->QV
 | a::r,b::q=>(a,b)::zq r q
 | _,_=>[]
noncomputable def sl (q:QV):List (Option Slot):=q.map (·.2)
noncomputable def nq (q:QV):List Str:=q.map (·.1)
noncomputable def nqK {X:Type} (ns:List Str) (q:QV) (k:List (Option Slot)->Option X):Option X:=if nq q=ns then k (sl q) else none
noncomputable def hdK {X:Type} (l:List (Option Slot)) (k:Option Slot->List (Option Slot)->Option X):Option X:=match l with
 | o::r=>k o r
 | []=>none
noncomputable def uF {X:Type} (l:List (Option Slot)) (k:D->List (Option Slot)->Option X):Option X:=hdK l fun o r=>fzK o fun d=>k d r
noncomputable def uL {X:Type} (l:List (Option Slot)) (k:List D->List (Option Slot)->Option X):Option X:=hdK l fun o r=>ownK o fun d=>listK d fun xs=>k xs r
noncomputable def uM {X:Type} (l:List (Option Slot)) (k:List (Key×D)->List (Option Slot)->Option X):Option X:=hdK l fun o r=>ownK o fun d=>dictK d fun xs=>k xs r
noncomputable def uO {X:Type} (c m:Str) (l:List (Option Slot)) (k:D->List (Option Slot)->Option X):Option X:=hdK l fun o r=>ownK o fun d=>objK d fun c' fs=>oneK fs fun f=>if c'=c/\f.1=m then k f.2 r else none
noncomputable def uN {X:Type} (l:List (Option Slot)) (k:List (Option Slot)->Option X):Option X:=hdK l fun o r=>if o.isNone then k r else none
noncomputable def uE {X:Type} (l:List (Option Slot)) (x:X):Option X:=if l.isEmpty then some x else none
section
variable {X:Type} {M:List (Option Slot)->Prop} {l:List (Option Slot)} {x:X}
theorem nqE {ns:List Str} {q:QV} {k:List (Option Slot)->Option X} {L:List (Option Slot)} (h:nqK ns q k=some x) (f:∀ l,k l=some x->l=L):q=zq ns L:=ifE h fun e h2=>by
 rw [<- f _ h2,<- e]
 clear h h2 f e
 induction q with
 | nil=>rfl
 | cons p q ih=>exact congrArg (p::·) ih
theorem hdM {k:Option Slot->List (Option Slot)->Option X} (h:hdK l k=some x) (f:∀ o r,k o r=some x->M (o::r)):M l:=by
 cases l with
 | nil=>exact noneE h
 | cons o r=>exact f o r h
theorem uFM {k:D->List (Option Slot)->Option X} (h:uF l k=some x) (f:∀ d r,k d r=some x->M (some (.fz d)::r)):M l:=hdM h fun o r h=>fzE h fun d e h=>e ▸ f d r h
theorem uLM {k:List D->List (Option Slot)->Option X} (h:uL l k=some x) (f:∀ d r,k d r=some x->M (some (.own (.list d))::r)):M l:=hdM h fun o r h=>ownE h fun d e h=>listE h fun xs e' h=>by rw [e,e'];exact f xs r h
theorem uMM {k:List (Key×D)->List (Option Slot)->Option X} (h:uM l k=some x) (f:∀ d r,k d r=some x->M (some (.own (.dict d))::r)):M l:=hdM h fun o r h=>ownE h fun d e h=>dictE h fun xs e' h=>by rw [e,e'];exact f xs r h
theorem uOM {c m:Str} {k:D->List (Option Slot)->Option X} (h:uO c m l k=some x) (f:∀ d r,k d r=some x->M (some (.own (.obj c [(m,d)]))::r)):M l:=hdM h fun o r h=>ownE h fun d e h=>objE h fun c' fs e' h=>oneE h fun p ef h=>ifE h fun z h=>by
 obtain ⟨a,b⟩:=p
 have z1:c'=c:=z.1
 have z2:a=m:=z.2
 rw [e,e',ef,z1,z2];exact f _ r h
theorem uNM {k:List (Option Slot)->Option X} (h:uN l k=some x) (f:∀ r,k r=some x->M (none::r)):M l:=hdM h fun o r h=>ifE h fun e h=>by rw [Option.isNone_iff_eq_none.mp e];exact f r h
theorem uEM {y:X} (h:uE l y=some x) (f:y=x->M []):M l:=ifE h fun e h=>by rw [wax e];exact f (Option.some.inj h)
end
noncomputable def setChk (xs:List Int) (es:List (Int×Value)):Bool:=
 (es.all fun e=>match e.2 with | .int i _=>e.1==hashInt i&&xs.contains i | _=>false)&&xs.all fun x=>es.any fun e=>match e.2 with | .int i _=>i==x | _=>false
theorem wvK {prog:Program} {w:World} {o:Obj} {es:Array (Int×Value)} {ep:Nat} {t:SetTable} {xs:List Int} (hx:o.ExactSet) (hd:o.data=.set es ep t) (hf:t.fits es.size=true) (h:setChk xs es.toList=true) :
  o.SetObjOf (intKind prog w) (fun k=>xs.contains k) es.size:=by
 unfold setChk at h
 rw [Bool.and_eq_true,List.all_eq_true,List.all_eq_true]at h
 obtain ⟨h1,h2⟩:=h
 refine ⟨hx,es,ep,t,hd,fun e he=>?_,fun k=>⟨fun hk=>?_,fun ⟨e,he,hk⟩=>?_⟩,rfl,hf⟩
 ·have:=h1 e he
  split at this
  ·rename_i i tk q
   rw [Bool.and_eq_true]at this
   refine ⟨⟨i,by rw [q];exact intKind_is prog w i tk,eq_of_beq this.1⟩,by rw [q];rfl⟩
  ·cases this
 ·have:=h2 k (by simpa using hk)
  obtain ⟨e,he,q⟩:=List.any_eq_true.mp this
  refine ⟨e,he,?_⟩
  split at q
  ·rename_i i tk q'
   rw [q',eq_of_beq q];exact intKind_is prog w k tk
  ·cases q
 ·have:=h1 e he
  split at this
  ·rename_i i tk q
   rw [Bool.and_eq_true]at this
   rw [q]at hk
   obtain ⟨t',e'⟩:=Value.isInt_shape (show Value.isInt k (.int i tk)=true from hk)
   cases e'
   exact this.2
  ·cases this
noncomputable def iK (k:Key) (f:Int->Bool):Bool:=match k with
 | .i n=>f n
 | .s _=>false
noncomputable def sDK (d:D) (f:List Nat->Bool):Bool:=match d with
 | .str x=>f x
 | _=>false
noncomputable def sVK (v:Value) (f:Str->Bool):Bool:=match v with
 | .str s _=>f s
 | _=>false
noncomputable def entOk (e:DictEntry) (p:Key×D):Bool:=iK p.1 fun n=>sDK p.2 fun x=>e.key.isInt n&&(sVK e.val fun s=>s.cps.toList==x)&&e.hash==hashInt n
noncomputable def dictChk:List DictEntry->List (Key×D)->Bool
 | [],[]=>true
 | e::es,p::l=>entOk e p&&dictChk es l
 | [],_::_=>false
 | _::_,[]=>false
noncomputable def risesK:Int->List (Key×D)->Bool
 | _,[]=>true
 | a,(.i n,_)::l=>decide (a<n)&&risesK n l
 | _,_=>false
theorem wmu:∀ {l:List (Key×D)} {a:Int},risesK a l=true->∀ k∈l.map (·.1),∃ n,k=.i n/\a<n
 | [],_,_,k,hk=>by simp at hk
 | (.i n,d)::l,a,h,k,hk=>by
  simp only [risesK,Bool.and_eq_true,decide_eq_true_eq]at h
  rw [List.map_cons]at hk
  rcases List.mem_cons.mp hk with rfl | hk
  ·exact ⟨n,rfl,h.1⟩
  ·obtain ⟨m,e,q⟩:=wmu h.2 k hk
   exact ⟨m,e,by omega⟩
 | (.s _,d)::l,a,h,k,hk=>by simp [risesK]at h
theorem wgX:∀ {l:List (Key×D)} {a:Int},risesK a l=true->(l.map (·.1)).Nodup
 | [],_,_=>.nil
 | (.i n,d)::l,a,h=>by
  simp only [risesK,Bool.and_eq_true,decide_eq_true_eq]at h
  rw [List.map_cons,List.nodup_cons]
  refine ⟨fun hm=>?_,wgX h.2⟩
  obtain ⟨m,e,q⟩:=wmu h.2 _ hm
  cases e;omega
 | (.s _,d)::l,a,h=>by simp [risesK]at h
theorem iKE {P:Prop} {k:Key} {f:Int->Bool} (h:iK k f=true) (g:∀ n,k=.i n->f n=true->P):P:=by
 cases k with
 | i n=>exact g n rfl h
 | s _=>exact ffE h
theorem sDE {P:Prop} {d:D} {f:List Nat->Bool} (h:sDK d f=true) (g:∀ x,d=.str x->f x=true->P):P:=by
 cases d<;>first | exact g _ rfl h | exact ffE h
theorem sVE {P:Prop} {v:Value} {f:Str->Bool} (h:sVK v f=true) (g:∀ s u,v=.str s u->f s=true->P):P:=by
 cases v<;>first | exact g _ _ rfl h | exact ffE h
theorem wwP {P:Prop} {e:DictEntry} {es:List DictEntry} {l:List (Key×D)} (h:dictChk (e::es) l=true) (f:∀ n x l',l=(.i n,.str x)::l'->e.hash=hashInt n->(∃ t,e.key=.int n t)->(∃ u,e.val=.str (mk x) u)->dictChk es l'=true->P):P:=by
 cases l with
 | nil=>exact ffE h
 | cons p l=>
  refine andE (show (entOk e p&&dictChk es l)=true from h) fun h1 h2=>iKE h1 fun n e1 h1=>sDE h1 fun x e2 h1=>andE h1 fun h1 h4=>andE h1 fun h1 h3=>sVE h3 fun s u e3 h3=>?_
  exact f n x l (by rw [<- e1,<- e2]) (eq_of_beq h4) (Value.isInt_shape h1) ⟨u,by rw [e3,<- show s.cps.toList=x from eq_of_beq h3,wkw]⟩ h2
theorem wqQ {C:Fr} {F:FH} {es:List DictEntry}:∀ {l:List (Key×D)},dictChk es l=true ->
  ∃ kvs:List (Key×Value),(∀ e∈es,∃ k,(anyKind C.prog C.w).is k e.key=true/\e.hash=(anyKind C.prog C.w).hash k)/\Pairs (anyKind C.prog C.w) es kvs/\kvs.map (·.1)=l.map (·.1)/\RepKV C F l kvs:=by
 induction es with
 | nil=>intro l h;cases l with
  | nil=>exact ⟨[],fun e he=>memE he,.nil,rfl,rfl⟩
  | cons p l=>exact ffE h
 | cons e es ih=>
  intro l h
  refine wwP h fun n x l' el h1 ⟨t,ek⟩ ⟨u,ev⟩ h2=>?_
  clear h
  subst el
  obtain ⟨kvs,q1,q2,q3,q4⟩:=ih h2
  have hk:(anyKind C.prog C.w).is (.i n) e.key=true:=by rw [ek];simp [anyKind,keyIs,Value.isInt]
  refine ⟨(.i n,.str (mk x) u)::kvs,fun e' he=>?_,.cons hk ev q2,by rw [List.map_cons,q3];rfl,VC.mk ⟨rfl,VS.mk u⟩ q4⟩
  rcases List.mem_cons.mp he with rfl | he
  ·exact ⟨.i n,hk,h1⟩
  ·exact q1 e' he
theorem wvl {C:Fr} {F:FH} {a:Addr} {o:Obj} {es:Array DictEntry} {ep:Nat} {l:List (Key×D)} (ho:F a=some o) (ha:(a==sysModules)=false) (hx:o.ExactDict) (hd:o.data=.dict es ep) (h:dictChk es.toList l=true) (hr:risesK (-1) l=true) :
  Rep C F (.ref a) (.dict l):=by
 obtain ⟨kvs,q1,q2,q3,q4⟩:=wqQ (C:=C) (F:=F) h
 exact VD.mk ho ha ⟨es,ep,hx,hd,fun e he=>q1 e (Array.mem_toList_iff.mpr he),q2,by rw [q3];exact wgX hr⟩ q4
theorem wd7 {α:Type} {p:Addr->Bool} {a:Addr} {o:α}:∀ {l:List (Addr×α)},(l.filter fun x=>p x.1).lookup a=some o->l.lookup a=some o/\p a=true
 | [],h=>by simp at h
 | (b,x)::l,h=>by
  rw [List.filter_cons]at h
  by_cases q:p b=true
  ·rw [if_pos q]at h
   simp only [List.lookup]at h ⊢
   split at h
   ·rename_i e;rw [eq_of_beq e];exact ⟨h,q⟩
   ·exact wd7 h
  ·rw [if_neg q]at h
   obtain ⟨h1,h2⟩:=wd7 h
   refine ⟨?_,h2⟩
   simp only [List.lookup]
   have:(a==b)=false:=by
    rw [beq_eq_false_iff_ne];intro e;rw [e]at h2;exact q h2
   rw [this];exact h1
noncomputable def butTab (PT:Addr) (K:Frag):Frag:=K.filter fun x=>x.1 != PT
noncomputable def frozen (PT:Addr) (h:Heap):FH:=fun b=>if b=PT then none else h.get? b
theorem wrX {PT:Addr} {h:Heap}:(frozen PT h).In h:=fun b o e=>by unfold frozen at e;split at e<;>first | cases e | exact e
theorem wkG {PT:Addr} {h:Heap} {K:Frag} (x:K.In h):∀ b o,(butTab PT K).lookup b=some o->frozen PT h b=some o:=fun b o e=>by
 obtain ⟨h1,h2⟩:=wd7 (p:=fun z=>z != PT) e
 unfold frozen
 rw [if_neg (by simpa using h2)]
 exact x b o h1
theorem wuL {PT c:Addr} {K:Frag} {oc:Obj} {vs:Array Value} {F':FH} {s s':Shared} (x:K.In s.heap) (hc:K.lookup c=some oc) (h1:oc.cls=.type "code") (h2:oc.data=.fields vs) (h3:vs[11]?=some (.ref PT))
  (ht:K.lookup PT=some { cls:=.none,data:=.fields #[] }) (y:Ext (frozen PT s.heap) s F' s'):OldK s.heap s'.heap:=by
 have key:∀ b o,s.heap.get? b=some o->b≠PT->s'.heap.get? b=some o:=fun b o e q=>y.inn b o (y.le b o (by unfold frozen;rw [if_neg q];exact e))
 have tab:=y.keep.tab PT _ (x _ _ ht) ⟨rfl,#[],rfl,by first | trivial | exact TriplesOk.nil | simp [TriplesOk]⟩
 obtain ⟨o',e',gr⟩:=tab
 obtain ⟨more,rfl⟩:=gr.more #[] rfl
 refine ⟨fun b o e=>?_,fun b o e=>?_⟩
 ·by_cases q:b=PT
  ·subst q
   rw [x _ _ ht]at e;cases e
   exact .inr (.inl ⟨⟨c,oc,vs,x _ _ hc,h1,h2,h3⟩,rfl,#[],more,rfl,e'⟩)
  ·exact .inl (key b o e q)
 ·by_cases q:b=PT
  ·subst q;exact ⟨_,e'⟩
  ·exact ⟨o,key b o e q⟩
theorem wq3 {P:Params} {h:Heap} {C:Fr} {F:FH} {ws:List Int}:∀ {vs:List Value},WellAll P h vs (ofPys (ws.map .int))->RepAll C F (ws.map .int) vs:=by
 induction ws with
 | nil=>intro vs x;cases x;exact rfl
 | cons i ws ih=>
  intro vs x
  rw [List.map_cons]at x
  unfold ofPys at x
  cases x with | cons x1 x2=>
  unfold ofPy at x1
  cases x1
  exact VC.mk (VI.mk _) (ih x2)
theorem law_walk {l:OpenLaw} {q:Program} {loose:List Str} {XP:(Str->Option Value)->Heap->Prop} {T:Tab} {KL:Params->Frag} {PT:Addr} {cad:Str->Addr} {d:DefRec} {kwd:List (Str×Expr)} {sv:List D->Option D}
  (hm:l.most=some 63) (hb:l.bound=none) (hd:d.name=l.name) (hT:cad (Str.ofString "<tab>")=PT)
  (site:∀ (w:World) (s₀:Shared) (mg mb:Str->Option Value) (h:Heap),Ground q loose l.row.toRowW.records XP w s₀ mg mb h->(KL w.params).In h->∀ C:Fr,C=⟨T,l.prog,w,cad,butTab PT (KL w.params),mg⟩ ->
   Gd C (frozen PT h)/\Wd T C)
  (tab:∀ P,(KL P).lookup PT=some { cls:=.none,data:=.fields #[] }/\∃ c oc vs,(KL P).lookup c=some oc/\oc.cls=.type "code"/\oc.data=.fields vs/\vs[11]?=some (.ref PT))
  (good:FnGood T l.name sv 112) (value:∀ xs:List Int,xs.length<=63->sv [.list (xs.map .int)]=some (.bool true)) :
  WalkO q loose XP (fun w h=>(KL w.params).In h) l.row.toRowW d kwd fun f vs=>PySem.call f vs:=by
 intro w s₀ sa mg mb G Y fa o pm cd doc dV kV ho hdd hcd hD hmg hg args vals as hpre hlay hrd hwl hlo
 have hsh:=(pre_splitW hpre).1
 have hcond:=(pre_splitW hpre).2
 have hsh:WShape.hasAll [] args [.list .int]=true:=hsh
 unfold OpenLaw.row OpenLaw.pre at hcond
 dsimp only at hcond
 rw [hm,hb]at hcond
 dsimp only at hcond
 wrow_hasAll hsh hlay
 rename_i ws _ _ _ _ _
 have h1:=(holds_andW hcond).1
 have hlen:=condW_of h1 (by wtm_val)
 have hlen:ws.length<=63:=by
  simp only [Bool.not_eq_true',decide_eq_false_iff_not]at hlen
  omega
 obtain ⟨gd,wd⟩:=site w s₀ mg mb sa.heap G Y _ rfl
 obtain ⟨t1,c,oc,cvs,t2,t3,t4,t5⟩:=tab w.params
 have run:FnSem _ 112 (.ref fa) _ _:=good _ wd (value ws hlen) (hd ▸ hmg)
 cases hwl with | cons x1 x2=>
 cases x2
 have x1:Well w.params sa.heap _ (.list (ofPys (ws.map .int))):=x1
 cases x1 with | list e r=>
 rename_i a vs
 have hpt:sa.heap.get? PT=some { cls:=.none,data:=.fields #[] }:=Y _ _ t1
 have hne:a≠PT:=fun q=>by rw [q,hpt]at e;cases e
 refine run (A:=callerA) (F:=frozen PT sa.heap) (s:=sa) ⟨by decide,by decide,by decide⟩ gd ⟨wrX,⟨_,by show sa.heap.get? (cad _)=_;rw [hT];exact hpt,rfl,#[],rfl,trivial⟩,by show frozen PT sa.heap (cad _)=_;rw [hT];unfold frozen;rw [if_pos rfl]⟩ (VC.mk (VL.mk (by unfold frozen;rw [if_neg hne];exact e) (wq3 r)) rfl) fun v s' F' y rv=>?_
 have rv:v=.bool true:=rv
 subst rv
 refine ⟨.inl ⟨_,.bool true,[],rfl,fun _=>rfl,.bool true,?_,fun _=>⟨List.nodup_nil,fun a ha=>memE ha⟩⟩,wuL Y t2 t3 t4 t5 t1 y,y.calm.os,y.calm.gens (.of_eq hg)⟩
 refine postW_of (r:=l.row.toRowW) (by show WShape.has [] (.bool true) .bool=true;wrow_shape) (by show WTm.value [] (WTm.eq .res (.lit (.bool true))) _=_;wtm_val) (by w_fin)
theorem NsO.of {h:Heap} {C:Addr} {m:Str->Option Value} (x:h.Ns C m):∃ o,h.get? C=some o/\NsO o m:=by obtain ⟨o,es,ep,e,hd,r⟩:=x;exact ⟨o,e,es,ep,hd,r⟩
noncomputable def oAt (K:Frag) (a:Addr):Obj:=(K.lookup a).getD { cls:=.none,data:=.plain }
noncomputable def fdAt (K:Frag) (a:Addr):FuncData:=match (oAt K a).data with
 | .func fd=>fd
 | _=>default
noncomputable def fL (K:Frag) (p:Addr×Def):=(K.lookup p.1,(oAt K p.1).data,codeIn K (fdAt K p.1).code (fdAt K p.1).qualname,(fdAt K p.1).body,(fdAt K p.1).closure,(fdAt K p.1).scope,(fdAt K p.1).globals,(fdAt K p.1).builtins,keepIn K (.ref p.1),typeIn K (.ref p.1))
noncomputable def fR (K:Frag) (p:Addr×Def):=(some (oAt K p.1),Data.func (fdAt K p.1),true,FuncBody.stmts p.2.body,([]:List (Str×Addr)),p.2.scope,mainGlobals,builtinsNs,true,some (Value.type "function"))
noncomputable def scChk (d:Def):Bool:=d.scope.kind==.function&&!d.scope.isCoroutine&&!d.scope.isGenerator&&nodupB (d.scope.names.map (·.1))&&nodupB d.params&&(d.params.all fun x=>canSet d.scope x)&&(d.scope.names.all fun p=>p.2 != .free)
noncomputable def BindOk (K:Frag) (p:Addr×Def):Prop:=∀ vals:List Value,vals.length=p.2.params.length->bindArgs (fdAt K p.1) ⟨vals,[]⟩=pure (p.2.params.zip vals)
theorem wie {α β:Type} {f g:α->β} {l:List α} (h:l.map f=l.map g):∀ p∈l,f p=g p:=by
 induction l with
 | nil=>exact fun p hp=>memE hp
 | cons a l ih=>
  intro p hp
  injection h with h1 h2
  rcases List.mem_cons.mp hp with rfl | hp
  ·exact h1
  ·exact ih h2 p hp
theorem wsg {sc:Scope} {x:Str} (h:canSet sc x=true):sc.names.lookup x=some .local\/sc.names.lookup x=some .cell:=by
 unfold canSet at h
 revert h
 generalize sc.names.lookup x=o
 intro h
 cases o with
 | none=>exact ffE h
 | some k=>cases k<;>first | exact .inl rfl | exact .inr rfl | exact ffE h
theorem wxT {C:Fr} {p:Addr×Def} (h:fL C.K p=fR C.K p) (hs:scChk p.2=true) (hb:BindOk C.K p) (ht:p.2.scope.names.lookup gk=some .local->∃ c,(fdAt C.K p.1).code=.ref c/\∃ o,C.K.lookup c=some o/\CodeO o c (tabAt C)) :
  typeIn C.K (.ref p.1)=some (.type "function")/\FdOk C p.1 p.2 (oAt C.K p.1) (fdAt C.K p.1):=by
 unfold fL fR at h
 injection h with h1 h;injection h with h2 h;injection h with h3 h;injection h with h4 h;injection h with h5 h;injection h with h6 h;injection h with h7 h;injection h with h8 h;injection h with h9 h10
 exact andE hs fun hs s7=>andE hs fun hs s6=>andE hs fun hs s5=>andE hs fun hs s4=>andE hs fun hs s3=>andE hs fun s1 s2=>
  ⟨h10,h1,h2,h3,h4,h5,h6,h7,h8,hb,eq_of_beq s1,by simpa using s2,by simpa using s3,we9 s4,fun x hx=>wsg (List.all_eq_true.mp s6 x hx),we9 s5,fun q hq=>by simpa using List.all_eq_true.mp s7 q hq,ht,h9⟩
theorem len1 {l:List Value} (h:l.length=1):∃ a,l=[a]:=List.length_eq_one_iff.mp h
theorem lenS {l:List Value} {n:Nat} (h:l.length=n+1):∃ a r,l=a::r/\r.length=n:=by
 cases l with
 | nil=>exact succE h
 | cons a r=>exact ⟨a,r,rfl,Nat.succ.inj h⟩
theorem len2 {l:List Value} (h:l.length=2):∃ a b,l=[a,b]:=by obtain ⟨a,r,rfl,h2⟩:=lenS h;obtain ⟨b,rfl⟩:=len1 h2;exact ⟨a,b,rfl⟩
theorem len3 {l:List Value} (h:l.length=3):∃ a b c,l=[a,b,c]:=by obtain ⟨a,r,rfl,h2⟩:=lenS h;obtain ⟨b,c,rfl⟩:=len2 h2;exact ⟨a,b,c,rfl⟩
noncomputable def noneFound (x:Option (Option Value)):Bool:=match x with
 | some none=>true
 | _=>false
theorem wnA {x:Option (Option Value)} (h:noneFound x=true):x=some none:=by
 rcases x with _ | _ | _<;>first | rfl | exact ffE h
noncomputable def cL (C:Fr) (g:Str->Option Value) (p:Str×List (Str×Def)):=(g p.1,makesIn C.K (C.cad p.1),keepIn C.K (.ref (C.cad p.1)),p.2.map fun q=>(findIn C.K (.ref (C.cad p.1)) q.1,q.2))
noncomputable def cR (C:Fr) (fdM:Str->List (Addr×Def)) (p:Str×List (Str×Def)):=(some (Value.ref (C.cad p.1)),true,true,(fdM p.1).map fun q=>(some (some (Value.ref q.1)),q.2))
theorem wtz {C:Fr} {g:Str->Option Value} (hm:∀ x,g x=C.mg x) {fdT:List (Addr×Def)} {fdM:Str->List (Addr×Def)} (h1:(C.T.fns.map fun p=>(g p.1,p.2))=fdT.map fun p=>(some (Value.ref p.1),p.2)) (h2:C.T.cls.map (cL C g)=C.T.cls.map (cR C fdM))
  (ok:∀ p,(p∈fdT\/∃ c,p∈fdM c)->typeIn C.K (.ref p.1)=some (.type "function")/\FdOk C p.1 p.2 (oAt C.K p.1) (fdAt C.K p.1)):FnsOk C where
 fns f d h:=by
  have:=List.mem_map_of_mem (f:=fun p:Str×Def=>(g p.1,p.2)) (mem_lookup h)
  rw [h1]at this
  obtain ⟨p,hp,e⟩:=List.mem_map.mp this
  injection e with e1 e2
  have:=(ok p (.inl hp)).2
  rw [e2]at this
  exact ⟨p.1,_,_,(hm f).symm.trans e1.symm,this⟩
 cls c ms h:=by
  have e:=wie h2 _ (mem_lookup h)
  unfold cL cR at e
  injection e with e1 e;injection e with e2 e;injection e with e3 e4
  refine ⟨(hm c).symm.trans e1,e2,e3,fun m d hd=>?_⟩
  have:=List.mem_map_of_mem (f:=fun q:Str×Def=>(findIn C.K (.ref (C.cad c)) q.1,q.2)) (mem_lookup hd)
  rw [e4]at this
  obtain ⟨p,hp,e⟩:=List.mem_map.mp this
  injection e with e5 e6
  have:=ok p (.inr ⟨c,hp⟩)
  rw [e6]at this
  exact ⟨p.1,_,_,e5.symm,this⟩
noncomputable def kL (C:Fr) (a:Addr):=(findIn C.K (.ref a) "__getattribute__",findIn C.K (.ref a) "__getattr__",findIn C.K (.ref a) "__setattr__",(clsIn C.K a).map (·.hasDict),plainOver C.K a,C.T.ats.all fun x=>noneFound (findIn C.K (.ref a) x))
noncomputable def kR:=(some (some (Value.builtin "object.__getattribute__")),some (none:Option Value),some (some (Value.builtin "object.__setattr__")),some true,true,true)
theorem wtQ {C:Fr} {a:Addr} (h:kL C a=kR):ClsOk C a:=by
 unfold kL kR at h
 injection h with h1 h;injection h with h2 h;injection h with h3 h;injection h with h4 h;injection h with h5 h6
 exact ⟨h1,h2,h3,by
  cases e:clsIn C.K a with
  | none=>rw [e]at h4;exact noneE h4
  | some cd=>rw [e]at h4;exact ⟨cd,rfl,Option.some.inj h4⟩,h5,fun x hx=>wnA (List.all_eq_true.mp h6 x hx)⟩
noncomputable def rL (C:Fr) (g:Str->Option Value) (mcs:Addr->Value) (p:Str×List (Str×D)):=(g p.1,readsIn C.K (C.cad p.1) (mcs (C.cad p.1)),p.2.map fun q=>(findCls C.K (.ref (C.cad p.1)) (mcs (C.cad p.1)) q.1,q.2))
noncomputable def rR (C:Fr) (cv:Str->List (Tx×Tok)) (p:Str×List (Str×D)):=(some (Value.ref (C.cad p.1)),true,(cv p.1).map fun q=>(some (CFound.val (.str (mk q.1) q.2)),D.str q.1))
theorem wuu {C:Fr} {g:Str->Option Value} {mcs:Addr->Value} (hm:∀ x,g x=C.mg x) {cv:Str->List (Tx×Tok)} (h1:C.T.con.map (rL C g mcs)=C.T.con.map (rR C cv)) (h2:C.T.cls.map (fun p=>kL C (C.cad p.1))=C.T.cls.map fun _=>kR):StOk C mcs where
 con c l h:=by
  have e:=wie h1 _ (mem_lookup h)
  unfold rL rR at e
  injection e with e1 e;injection e with e2 e3
  refine ⟨(hm c).symm.trans e1,e2,fun a d hd=>?_⟩
  have:=List.mem_map_of_mem (f:=fun q:Str×D=>(findCls C.K (.ref (C.cad c)) (mcs (C.cad c)) q.1,q.2)) (mem_lookup hd)
  rw [e3]at this
  obtain ⟨p,hp,e⟩:=List.mem_map.mp this
  injection e with e4 e5
  have e5:D.str p.1=d:=e5
  subst e5
  exact ⟨_,e4.symm,rfl,fun F=>VS.mk _⟩
 cls c h:=by
  cases e:C.T.cls.lookup c with
  | none=>rw [e]at h;exact ffE h
  | some ms=>exact wtQ (wie h2 _ (mem_lookup e))
end Mine.Py
end
section
namespace Mine.Py
open PySem
section
variable {α β:Type} {r:Option β}
theorem bnS {o:Option α} {f:α->Option β} {a:α} (h:o=some a) (k:f a=r):o.bind f=r:=h ▸ k
theorem ifP {c:Prop} [i:Decidable c] {a b:Option β} (h:c) (k:a=r):(if c then a else b)=r:=(if_pos h).trans k
theorem bn2 {γ:Type} {o:Option α} {p:α->Option γ} {f:α->γ->Option β} {a:α} {b:γ} (h:o=some a) (h1:p a=some b) (k:f a b=r):(o.bind fun x=>(p x).bind fun y=>f x y)=r:=bnS h (bnS h1 k)
theorem bn3 {γ δ:Type} {o:Option α} {p:α->Option γ} {q:α->γ->Option δ} {f:α->γ->δ->Option β} {a:α} {b:γ} {c:δ} (h:o=some a) (h1:p a=some b) (h2:q a b=some c) (k:f a b c=r):(o.bind fun x=>(p x).bind fun y=>(q x y).bind fun z=>f x y z)=r:=bnS h (bnS h1 (bnS h2 k))
theorem bn4 {γ δ ε:Type} {o:Option α} {p:α->Option γ} {q:α->γ->Option δ} {s:α->γ->δ->Option ε} {f:α->γ->δ->ε->Option β} {a:α} {b:γ} {c:δ} {d:ε} (h:o=some a) (h1:p a=some b) (h2:q a b=some c) (h3:s a b c=some d) (k:f a b c d=r):(o.bind fun x=>(p x).bind fun y=>(q x y).bind fun z=>(s x y z).bind fun w=>f x y z w)=r:=bnS h (bnS h1 (bnS h2 (bnS h3 k)))
theorem bnP {o:Option α} {c:α->Prop} [i:∀ x,Decidable (c x)] {f g:α->Option β} {a:α} (h:o=some a) (h1:c a) (k:f a=r):(o.bind fun x=>if c x then f x else g x)=r:=bnS h (ifP h1 k)
theorem inS {i:Int} {f:Int->Option β} (k:f i=r):intK (.int i) f=r:=k
theorem ifN {c:Prop} [i:Decidable c] {a b:Option β} (h:¬ c) (k:b=r):(if c then a else b)=r:=(if_neg h).trans k
theorem ifF {a b:Option β} (k:b=r):(if false=true then a else b)=r:=k
theorem ifT {a b:Option β} (k:a=r):(if true=true then a else b)=r:=k
end
inductive Pln:Nat->D->Prop
 | int (n:Nat) (i:Int):Pln n (.int i)
 | str (n:Nat) (x:Tx):PyData.strOk (mk x)=true->Pln n (.str x)
 | list (n:Nat) (xs:List D):(∀ x∈xs,Pln n x)->Pln (n+1) (.list xs)
 | tuple (n:Nat) (xs:List D):(∀ x∈xs,Pln n x)->Pln (n+1) (.tuple xs)
theorem wiV {n:Nat}:∀ {xs:List D},(∀ x∈xs,∃ p,toPy x=some p/\p.canLay0=true/\p.depth<=n)->∃ ps,toPys xs=some ps/\PyData.canLayAll0 ps=true/\PyData.depthAll ps<=n
 | [],_=>⟨[],by simp [toPys],by simp [PyData.canLayAll0],by simp [PyData.depthAll]⟩
 | x::xs,h=>by
  obtain ⟨p,h1,h2,h3⟩:=h x (by simp)
  obtain ⟨ps,h4,h5,h6⟩:=wiV (xs:=xs) fun y hy=>h y (by simp [hy])
  exact ⟨p::ps,by simp [toPys,h1,h4],by simp [PyData.canLayAll0,h2,h5],by simp only [PyData.depthAll];omega⟩
theorem Pln.py {n:Nat} {d:D} (h:Pln n d):∃ p,toPy d=some p/\p.canLay0=true/\p.depth<=n:=by
 induction h with
 | int n i=>exact ⟨.int i,by simp [toPy],by simp [PyData.canLay0],by simp [PyData.depth]⟩
 | str n x h=>exact ⟨.str (mk x),by simp [toPy],by simpa [PyData.canLay0] using h,by simp [PyData.depth]⟩
 | list n xs _ ih=>
  obtain ⟨ps,h1,h2,h3⟩:=wiV ih
  exact ⟨.list ps,by simp [toPy,h1],by simpa [PyData.canLay0] using h2,by simp only [PyData.depth];omega⟩
 | tuple n xs _ ih=>
  obtain ⟨ps,h1,h2,h3⟩:=wiV ih
  exact ⟨.tuple ps,by simp [toPy,h1],by simpa [PyData.canLay0] using h2,by simp only [PyData.depth];omega⟩
theorem wgm {m:Nat}:∀ {xs ys:List D} {ps qs:List PyData},(∀ x∈xs,∀ y p q,Pln m y->toPy x=some p->toPy y=some q->(PyData.eqv p q=true ↔ x=y))->(∀ y∈ys,Pln m y) ->
  toPys xs=some ps->toPys ys=some qs->(PyData.eqvAll ps qs=true ↔ xs=ys)
 | [],[],ps,qs,_,_,h1,h2=>by
  simp [toPys]at h1 h2;subst h1;subst h2;simp [PyData.eqvAll]
 | [],y::ys,ps,qs,_,_,h1,h2=>by
  simp only [toPys,Option.bind_eq_some_iff,Option.map_eq_some_iff]at h1 h2
  obtain ⟨q,_,qs',_,rfl⟩:=h2
  simp at h1;subst h1;simp [PyData.eqvAll]
 | x::xs,[],ps,qs,_,_,h1,h2=>by
  simp only [toPys,Option.bind_eq_some_iff,Option.map_eq_some_iff]at h1 h2
  obtain ⟨q,_,qs',_,rfl⟩:=h1
  simp at h2;subst h2;simp [PyData.eqvAll]
 | x::xs,y::ys,ps,qs,hx,hy,h1,h2=>by
  simp only [toPys,Option.bind_eq_some_iff,Option.map_eq_some_iff]at h1 h2
  obtain ⟨p,a1,ps',a2,rfl⟩:=h1
  obtain ⟨q,b1,qs',b2,rfl⟩:=h2
  simp only [PyData.eqvAll,Bool.and_eq_true,List.cons.injEq]
  rw [hx x (by simp) y p q (hy y (by simp)) a1 b1,wgm (fun z hz=>hx z (by simp [hz])) (fun z hz=>hy z (by simp [hz])) a2 b2]
theorem wv4 {x y:Tx}:mk x=mk y ↔ x=y:=⟨fun h=>wkv h,fun h=>by rw [h]⟩
theorem wvh {n:Nat} {a:D} (ha:Pln n a):∀ {m:Nat} {b:D} {p q:PyData},Pln m b->toPy a=some p->toPy b=some q->(PyData.eqv p q=true ↔ a=b):=by
 induction ha with
 | int n i=>
  intro m b p q hb h1 h2
  simp only [toPy,Option.some.injEq]at h1;subst h1
  cases hb with
  | int _ j=>simp only [toPy,Option.some.injEq]at h2;subst h2;simp [PyData.eqv]
  | str _ x hx=>simp only [toPy,Option.some.injEq]at h2;subst h2;simp [PyData.eqv]
  | list _ xs hx=>simp only [toPy,Option.map_eq_some_iff]at h2;obtain ⟨ps,_,rfl⟩:=h2;simp [PyData.eqv]
  | tuple _ xs hx=>simp only [toPy,Option.map_eq_some_iff]at h2;obtain ⟨ps,_,rfl⟩:=h2;simp [PyData.eqv]
 | str n x hx=>
  intro m b p q hb h1 h2
  simp only [toPy,Option.some.injEq]at h1;subst h1
  cases hb with
  | int _ j=>simp only [toPy,Option.some.injEq]at h2;subst h2;simp [PyData.eqv]
  | str _ y hy=>simp only [toPy,Option.some.injEq]at h2;subst h2;simp only [PyData.eqv,beq_iff_eq,D.str.injEq];exact wv4
  | list _ xs hx=>simp only [toPy,Option.map_eq_some_iff]at h2;obtain ⟨ps,_,rfl⟩:=h2;simp [PyData.eqv]
  | tuple _ xs hx=>simp only [toPy,Option.map_eq_some_iff]at h2;obtain ⟨ps,_,rfl⟩:=h2;simp [PyData.eqv]
 | list n xs hx ih=>
  intro m b p q hb h1 h2
  simp only [toPy,Option.map_eq_some_iff]at h1;obtain ⟨ps,h1,rfl⟩:=h1
  cases hb with
  | int _ j=>simp only [toPy,Option.some.injEq]at h2;subst h2;simp [PyData.eqv]
  | str _ y hy=>simp only [toPy,Option.some.injEq]at h2;subst h2;simp [PyData.eqv]
  | list _ ys hy=>
   simp only [toPy,Option.map_eq_some_iff]at h2;obtain ⟨qs,h2,rfl⟩:=h2
   simp only [PyData.eqv,D.list.injEq]
   exact wgm (fun x hx' y p q hp e1 e2=>ih x hx' hp e1 e2) hy h1 h2
  | tuple _ ys hy=>simp only [toPy,Option.map_eq_some_iff]at h2;obtain ⟨ps,_,rfl⟩:=h2;simp [PyData.eqv]
 | tuple n xs hx ih=>
  intro m b p q hb h1 h2
  simp only [toPy,Option.map_eq_some_iff]at h1;obtain ⟨ps,h1,rfl⟩:=h1
  cases hb with
  | int _ j=>simp only [toPy,Option.some.injEq]at h2;subst h2;simp [PyData.eqv]
  | str _ y hy=>simp only [toPy,Option.some.injEq]at h2;subst h2;simp [PyData.eqv]
  | tuple _ ys hy=>
   simp only [toPy,Option.map_eq_some_iff]at h2;obtain ⟨qs,h2,rfl⟩:=h2
   simp only [PyData.eqv,D.tuple.injEq]
   exact wgm (fun x hx' y p q hp e1 e2=>ih x hx' hp e1 e2) hy h1 h2
  | list _ ys hy=>simp only [toPy,Option.map_eq_some_iff]at h2;obtain ⟨ps,_,rfl⟩:=h2;simp [PyData.eqv]
theorem wmg {n m:Nat} {a b:D} (ha:Pln n a) (hb:Pln m b) (hn:n<=64) (hm:m<=64) {p:Prop} [Decidable p] (h:a=b ↔ p):eqP a b=some (decide p):=by
 obtain ⟨x,h1,h2,h3⟩:=ha.py
 obtain ⟨y,h4,h5,h6⟩:=hb.py
 unfold eqP
 rw [h1,Option.bind_some,h4,Option.bind_some,if_pos (by simp only [SeqAt.shaped,Bool.and_eq_true,decide_eq_true_eq];exact ⟨⟨h2,by omega⟩,h5,by omega⟩)]
 have e:=(wvh ha hb h1 h4).trans h
 congr 1
 rw [Bool.eq_iff_iff,e];simp
theorem wp7 {n:Nat} {a b:D} (ha:Pln n a):eqD a b=eqP a b:=by
 cases ha<;>rfl
theorem cmpEq {n m:Nat} {a b:D} (ha:Pln n a) (hb:Pln m b) (hn:n<=64) (hm:m<=64) {p:Prop} [Decidable p] (h:a=b ↔ p):cmpD .Eq a b=some (decide p):=by
 show eqD a b=_
 rw [wp7 ha,wmg ha hb hn hm h]
theorem cmpNe {n m:Nat} {a b:D} (ha:Pln n a) (hb:Pln m b) (hn:n<=64) (hm:m<=64) {p:Prop} [Decidable p] (h:a=b ↔ p):cmpD .NotEq a b=some (!decide p):=by
 show (eqD a b).map _=_
 rw [wp7 ha,wmg ha hb hn hm h];rfl
theorem waQ {n:Nat} {a:D} (ha:Pln n a) (hn:n<=64):cmpD .NotEq a a=some false:=by
 rw [cmpNe ha ha hn hn (p:=True) (by simp)];rfl
theorem add_int (a b:Int):binop .Add (.int a) (.int b)=some (.int (a+b)):=rfl
theorem sub_int (a b:Int):binop .Sub (.int a) (.int b)=some (.int (a - b)):=rfl
theorem mul_int {a:Int} (b:Int) (h:a.natAbs<2 ^ 60):binop .Mult (.int a) (.int b)=some (.int (a * b)):=if_pos h
theorem wtE (a:Int) {b:Int} (h:b≠0/\b.natAbs<2 ^ 30):binop .FloorDiv (.int a) (.int b)=some (.int (a.fdiv b)):=if_pos h
theorem wpP (a:Int) {b:Int} (h:b≠0):binop .Mod (.int a) (.int b)=some (.int (a.fmod b)):=if_pos h
theorem lt_int (a b:Int):cmpD .Lt (.int a) (.int b)=some (decide (a<b)):=rfl
theorem gt_int (a b:Int):cmpD .Gt (.int a) (.int b)=some (decide (b<a)):=rfl
theorem le_int (a b:Int):cmpD .LtE (.int a) (.int b)=some (decide (a<=b)):=rfl
theorem ge_int (a b:Int):cmpD .GtE (.int a) (.int b)=some (decide (a>=b)):=rfl
theorem neg_int (a:Int):unop .USub (.int a)=some (.int (-a)):=rfl
theorem is_bool (a b:Bool):cmpD .Is (.bool a) (.bool b)=some (a==b):=rfl
theorem isnot_bool (a b:Bool):cmpD .IsNot (.bool a) (.bool b)=some (!(a==b)):=rfl
theorem wi6 {xs:List D} (h:xs.length<=cap):bfn .len [.list xs]=some (.int xs.length):=if_pos h
theorem len_tuple {xs:List D} (h:xs.length<=cap):bfn .len [.tuple xs]=some (.int xs.length):=if_pos h
theorem len_str {xs:Tx} (h:xs.length<=cap):bfn .len [.str xs]=some (.int xs.length):=if_pos h
theorem wid (a b:Int):bfn .max [.int a,.int b]=some (.int (max a b)):=by
 show some (D.int (if b > a then b else a))=_
 congr 2;omega
theorem wtD (a b:Nat):Int.fdiv (a:Int) (b:Int)=((a / b:Nat):Int):=by
 rw [Int.fdiv_eq_ediv_of_nonneg _ (by omega)];rfl
theorem wtA (a b:Nat):Int.fmod (a:Int) (b:Int)=((a % b:Nat):Int):=by
 rw [Int.fmod_eq_emod_of_nonneg _ (by omega)];rfl
theorem fdivN (a:Nat) {b:Nat} (h:0<b) (h2:b<2 ^ 30):binop .FloorDiv (.int a) (.int b)=some (.int ((a / b:Nat):Int)):=by
 rw [wtE _ ⟨by omega,by omega⟩,wtD]
theorem modN (a:Nat) {b:Nat} (h:0<b):binop .Mod (.int a) (.int b)=some (.int ((a % b:Nat):Int)):=by
 rw [wpP _ (by omega),wtA]
theorem mulN {a:Nat} (b:Nat) (h:a<2 ^ 60):binop .Mult (.int a) (.int b)=some (.int ((a * b:Nat):Int)):=by
 rw [mul_int _ (by omega)];simp
theorem addN (a b:Nat):binop .Add (.int a) (.int b)=some (.int ((a+b:Nat):Int)):=rfl
theorem waf:cap=10000:=rfl
noncomputable abbrev nD (n:Nat):D:=.int n
theorem rangeN {a b:Nat} (h:b<10000) (ha:a<10000):rangeD [.int a,.int b]=some ((List.range' a (b - a)).map nD):=by
 unfold rangeD wdQ intK
 dsimp only
 rw [if_pos (by omega)]
 unfold wct
 have:((b:Int) - a).toNat=b - a:=by omega
 rw [this,List.range'_eq_map_range,List.map_map]
 have e:(fun (i:Nat)=>D.int ((a:Int)+(i:Int)))=nD∘fun x=>a+x:=by funext i;simp [nD]
 rw [e]
theorem wvM {b:Nat} (h:b<10000):rangeD [.int b]=some ((List.range b).map nD):=by
 unfold rangeD intK
 dsimp only
 rw [if_pos (by omega)]
 unfold wct
 have:((b:Int) - 0).toNat=b:=by omega
 rw [this]
 have e:(fun (i:Nat)=>D.int ((0:Int)+(i:Int)))=nD:=by funext i;simp [nD]
 rw [e]
theorem wsK {xs:List D} {i:Int}:sub (.list xs) (.int i)=nth xs i:=by unfold sub intK;rfl
theorem wsJ {xs:Tx} {i:Int}:sub (.str xs) (.int i)=(nth xs i).map fun c=>.str [c]:=by unfold sub intK;rfl
theorem castMin (a b:Nat):((min a b:Nat):Int)=min (a:Int) b:=by
 rcases Nat.le_total a b with h | h
 ·rw [Nat.min_eq_left h,Int.min_eq_left (Int.ofNat_le.mpr h)]
 ·rw [Nat.min_eq_right h,Int.min_eq_right (Int.ofNat_le.mpr h)]
theorem castMax (a b:Nat):((max a b:Nat):Int)=max (a:Int) b:=by
 rcases Nat.le_total a b with h | h
 ·rw [Nat.max_eq_right h,Int.max_eq_right (Int.ofNat_le.mpr h)]
 ·rw [Nat.max_eq_left h,Int.max_eq_left (Int.ofNat_le.mpr h)]
theorem we0 (n a:Nat):clipAt n (a:Int)=min a n:=by
 unfold clipAt
 rw [if_neg (Int.not_lt.mpr (Int.natCast_nonneg a)),<- castMin,Int.max_eq_right (Int.natCast_nonneg _)]
 rfl
theorem wey {xs:List D} {i:Nat} {v:D} (h:i<100000) (e:xs[i]?=some v):sub (.list xs) (.int i)=some v:=by
 rw [wsK]
 unfold nth
 rw [if_pos (by omega),if_pos (by omega)]
 simpa using e
theorem wmr {xs:List D} {i:Nat} {v:D} (h:i<100000) (e:xs[i]?=some v):sub (.tuple xs) (.int i)=some v:=by
 unfold sub intK
 dsimp only
 unfold nth
 rw [if_pos (by omega),if_pos (by omega)]
 simpa using e
theorem woV {xs:List D} {i:Nat} (v:D) (h:i<xs.length) (hc:xs.length<=cap):putL xs (.int i) v=some (xs.set i v):=by
 show (if _ then _ else _)=_
 rw [if_pos ⟨by omega,by omega,hc⟩];simp
theorem waC {α:Type} (em:α->D) (p:α->Bool) (g:α->D) {c:D->Option Bool} {f:D->Option D}:∀ (xs:List α),(∀ x∈xs,c (em x)=some (p x))->(∀ x∈xs,p x=true->f (em x)=some (g x))->compQ c f (xs.map em)=some ((xs.filter p).map g)
 | [],_,_=>rfl
 | x::xs,hc,hf=>by
  have ih:=waC em p g xs (fun y hy=>hc y (by simp [hy])) (fun y hy=>hf y (by simp [hy]))
  simp only [List.map_cons,compQ]
  rw [hc x (by simp),Option.bind_some]
  cases hp:p x with
  | true=>rw [if_pos rfl,hf x (by simp) hp,Option.bind_some,ih,List.filter_cons_of_pos hp];rfl
  | false=>rw [if_neg (by simp),ih,List.filter_cons_of_neg (by simp [hp])]
theorem waY {α:Type} (em:α->D) (g:α->D) {f:D->Option D} (xs:List α) (hf:∀ x∈xs,f (em x)=some (g x)):compQ (fun _=>some true) f (xs.map em)=some (xs.map g):=by
 rw [waC em (fun _=>true) g xs (fun _ _=>rfl) (fun x hx _=>hf x hx),List.filter_eq_self.mpr (fun _ _=>rfl)]
theorem wg8 {S σ α:Type} {B:S->D->(S->Option D)->(S->Option D)->(D->Option D)->Option D} (em:α->D) (emS:σ->S) (step:σ->α->σ) (Inv:List α->σ->Prop) {next:S->Option D} {ret:D->Option D}:∀ (xs:List α) (s:σ),
  (∀ x xs s,Inv (x::xs) s->Inv xs (step s x)/\∀ n b r,B (emS s) (em x) n b r=n (emS (step s x)))->Inv xs s ->
  forS B (xs.map em) (emS s) next ret=next (emS (xs.foldl step s))
 | [],s,_,_=>rfl
 | x::xs,s,h,hi=>by
  obtain ⟨h1,h2⟩:=h x xs s hi
  show B (emS s) (em x) _ _ _=_
  rw [h2]
  exact wg8 em emS step Inv xs (step s x) h h1
section
variable {α:Type}
theorem un2 {a b:D} {k:D->D->Option α} {r:Option α} (h:k a b=r):wau (.tuple [a,b]) k=r:=h
theorem wdS (a b:D) (k:D->D->Option α):wau (.tuple [a,b]) k=k a b:=rfl
theorem wq4 (a b c d e:D) (k:D->D->D->D->D->Option α):wq5 (.tuple [a,b,c,d,e]) k=k a b c d e:=rfl
theorem wk0 (x:Tx) (k:Tx->Option α):strK (.str x) k=k x:=rfl
theorem wn7 (x:List (Key×D)) (k:List (Key×D)->Option α):dictK (.dict x) k=k x:=rfl
end
theorem waB (l:List D):keysOf (.list l)=some l:=rfl
theorem wqB (l:List D):keysOf (.tuple l)=some l:=rfl
noncomputable def cxOf (f:Str):Cx:=
 if f==("_law_ring":Str) then ⟨[(114,[("cells":Str)]),(130,[("ring":Str)])],[("cells":Str),("typed":Str),("ring":Str),("veils":Str)]⟩
 else if f==("add_callers":Str) then ⟨[(41,[("new_callers":Str)])],[("new_callers":Str)]⟩
 else if f==("__init__":Str) then ⟨[],[("count":Str)]⟩
 else if f==("not_equal_witness":Str) then ⟨[(94,[("a":Str)])],[("a":Str)]⟩
 else if f==("_law_nanny":Str) then ⟨[(168,[("kinds":Str)])],[("kinds":Str)]⟩
 else ⟨[],[]⟩
noncomputable def defOf (st:Stmt):Option (Str×Def):=@PySem.Stmt.casesOn (fun _=>_) st (fun n a b _ _ _ s _ _ _=>some (n,⟨n,a.args.map (·.arg),b,s,cxOf n⟩)) (fun _ _ _ _ _ _ _ _ _ _=>none) (fun _ _ _ _ _ _ _ _ _ _ _=>none) (fun _ _=>none) (fun _ _=>none) (fun _ _ _=>none) (fun _ _ _ _ _ _ _=>none) (fun _ _ _ _=>none) (fun _ _ _ _ _=>none) (fun _ _ _ _ _=>none) (fun _ _ _ _ _=>none) (fun _ _ _ _=>none) (fun _ _ _ _=>none) (fun _ _ _=>none) (fun _ _ _=>none) (fun _ _ _=>none) (fun _ _ _=>none) (fun _ _ _ _ _=>none) (fun _ _ _ _ _=>none) (fun _ _ _=>none) (fun _ _=>none) (fun _ _ _ _=>none) (fun _ _=>none) (fun _ _=>none) (fun _ _=>none) (fun _=>none) (fun _=>none) (fun _=>none)
noncomputable def clsOf (st:Stmt):Option (Str×List (Str×Def)):=@PySem.Stmt.casesOn (fun _=>_) st (fun _ _ _ _ _ _ _ _ _ _=>none) (fun _ _ _ _ _ _ _ _ _ _=>none) (fun n _ _ b _ _ _ _ _ _ _=>some (n,b.filterMap defOf)) (fun _ _=>none) (fun _ _=>none) (fun _ _ _=>none) (fun _ _ _ _ _ _ _=>none) (fun _ _ _ _=>none) (fun _ _ _ _ _=>none) (fun _ _ _ _ _=>none) (fun _ _ _ _ _=>none) (fun _ _ _ _=>none) (fun _ _ _ _=>none) (fun _ _ _=>none) (fun _ _ _=>none) (fun _ _ _=>none) (fun _ _ _=>none) (fun _ _ _ _ _=>none) (fun _ _ _ _ _=>none) (fun _ _ _=>none) (fun _ _=>none) (fun _ _ _ _=>none) (fun _ _=>none) (fun _ _=>none) (fun _ _=>none) (fun _=>none) (fun _=>none) (fun _=>none)
noncomputable def b1L:List Int:=[173,847,6150,6155,6156,6157,8203,8204,8205,8288,65279]++(List.range 16).map fun (i:Nat)=>65024+(i:Int)
noncomputable def dictOfE (e:Expr):List (Key×D):=((Mine.exD e).1.zip (Mine.exD e).2.1).filterMap fun p=>(Mine.pairOf p.1 p.2).map fun q=>(.i q.1,.str q.2.cps.toList)
noncomputable def b3L (l:List Stmt):List (Key×D):=l.flatMap fun s=>(oneK (Mine.stA s).1 fun t=>nmV t none fun x _=>if x==("b3_exceptions":Str) then some (dictOfE (Mine.stA s).2.1) else none).getD []
noncomputable def T01:Tab where
 fns:=prog.main.body.filterMap defOf
 cls:=prog.main.body.filterMap clsOf
 con:=[(("Whitespace":Str),[(("S":Str),.str [32]),(("T":Str),.str [9])])]
 gl:=[(("b1_set":Str),.set b1L),(("b3_exceptions":Str),.dict (b3L prog.main.body))]
 ats:=[("raw":Str),("n":Str),("nt":Str),("norm":Str),("is_simple":Str),("comp_select_list":Str)]
end Mine.Py
end
section
namespace Mine
open PySem PySem.W PyProof.Rows PySem.Calls Mine.Py
set_option genInjectivity false
set_option genSizeOf false
noncomputable def KB (P:Params):Frag:=butTab 115 (fragL P)
noncomputable def cadL (s:Str):Addr:=if s==Str.ofString "Whitespace" then 189 else if s==Str.ofString "TupleComp" then 109 else if s==Str.ofString "<tab>" then 115 else 0
noncomputable def mkD (s:Stmt):Def:=((Mine.Py.defOf s).getD (Str.ofString "",⟨Str.ofString "",[],[],default,⟨[],[]⟩⟩)).2
noncomputable def glEs (P:Params):Array DictEntry:=match (wmZ P).data with | .dict es _=>es | _=>#[]
theorem tab_is:cadL (Str.ofString "<tab>")=115:=by decide +kernel
noncomputable abbrev frL (w:World) (mg:Str->Option Value):Fr:=⟨T01,prog,w,cadL,KB w.params,mg⟩
noncomputable def fdL:List (Addr×Def):=[(21,mkD (st 0)),(39,mkD (st 3)),(85,mkD (st 5)),(120,mkD (st 8)),(127,mkD (st 9)),(198,mkD (st 13)),(205,mkD (st 14)),(210,mkD (st 15)),(215,mkD (st 16)),(220,mkD (st 17)),(225,mkD (st 18)),(230,mkD (st 19)),(235,mkD (st 20)),(240,mkD (st 21)),(99,mkD (sub (st 7) 0)),(106,mkD (sub (st 7) 1)),(144,mkD (sub (st 11) 1)),(151,mkD (sub (st 11) 2)),(158,mkD (sub (st 11) 3)),(165,mkD (sub (st 11) 4)),(172,mkD (sub (st 11) 5)),(179,mkD (sub (st 11) 6)),(186,mkD (sub (st 11) 7))]
theorem wxZ (P:Params):BindOk (KB P) (21,mkD (st 0)):=fun vals h=>by
 obtain ⟨a,rfl⟩:=len1 (h.trans (by kernel_rfl!))
 kernel_rfl!
theorem wxY (P:Params):BindOk (KB P) (39,mkD (st 3)):=fun vals h=>by
 obtain ⟨a,rfl⟩:=len1 (h.trans (by kernel_rfl!))
 kernel_rfl!
theorem wxX (P:Params):BindOk (KB P) (85,mkD (st 5)):=fun vals h=>by
 obtain ⟨a,rfl⟩:=len1 (h.trans (by kernel_rfl!))
 kernel_rfl!
theorem wwI (P:Params):BindOk (KB P) (120,mkD (st 8)):=fun vals h=>by
 obtain ⟨a,b,rfl⟩:=len2 (h.trans (by kernel_rfl!))
 kernel_rfl!
theorem wwH (P:Params):BindOk (KB P) (127,mkD (st 9)):=fun vals h=>by
 obtain ⟨a,rfl⟩:=len1 (h.trans (by kernel_rfl!))
 kernel_rfl!
theorem wwz (P:Params):BindOk (KB P) (198,mkD (st 13)):=fun vals h=>by
 obtain ⟨a,rfl⟩:=len1 (h.trans (by kernel_rfl!))
 kernel_rfl!
theorem wwy (P:Params):BindOk (KB P) (205,mkD (st 14)):=fun vals h=>by
 obtain ⟨a,b,rfl⟩:=len2 (h.trans (by kernel_rfl!))
 kernel_rfl!
theorem wwx (P:Params):BindOk (KB P) (210,mkD (st 15)):=fun vals h=>by
 obtain ⟨a,b,rfl⟩:=len2 (h.trans (by kernel_rfl!))
 kernel_rfl!
theorem www (P:Params):BindOk (KB P) (215,mkD (st 16)):=fun vals h=>by
 obtain ⟨a,b,rfl⟩:=len2 (h.trans (by kernel_rfl!))
 kernel_rfl!
theorem wwv (P:Params):BindOk (KB P) (220,mkD (st 17)):=fun vals h=>by
 obtain ⟨a,b,rfl⟩:=len2 (h.trans (by kernel_rfl!))
 kernel_rfl!
theorem wwu (P:Params):BindOk (KB P) (225,mkD (st 18)):=fun vals h=>by
 obtain ⟨a,b,rfl⟩:=len2 (h.trans (by kernel_rfl!))
 kernel_rfl!
theorem wwt (P:Params):BindOk (KB P) (230,mkD (st 19)):=fun vals h=>by
 obtain ⟨a,rfl⟩:=len1 (h.trans (by kernel_rfl!))
 kernel_rfl!
theorem wws (P:Params):BindOk (KB P) (235,mkD (st 20)):=fun vals h=>by
 obtain ⟨a,rfl⟩:=len1 (h.trans (by kernel_rfl!))
 kernel_rfl!
theorem wwr (P:Params):BindOk (KB P) (240,mkD (st 21)):=fun vals h=>by
 obtain ⟨a,rfl⟩:=len1 (h.trans (by kernel_rfl!))
 kernel_rfl!
theorem wxW (P:Params):BindOk (KB P) (99,mkD (sub (st 7) 0)):=fun vals h=>by
 obtain ⟨a,b,rfl⟩:=len2 (h.trans (by kernel_rfl!))
 kernel_rfl!
theorem wwJ (P:Params):BindOk (KB P) (106,mkD (sub (st 7) 1)):=fun vals h=>by
 obtain ⟨a,b,c,rfl⟩:=len3 (h.trans (by kernel_rfl!))
 kernel_rfl!
theorem wwG (P:Params):BindOk (KB P) (144,mkD (sub (st 11) 1)):=fun vals h=>by
 obtain ⟨a,b,rfl⟩:=len2 (h.trans (by kernel_rfl!))
 kernel_rfl!
theorem wwF (P:Params):BindOk (KB P) (151,mkD (sub (st 11) 2)):=fun vals h=>by
 obtain ⟨a,rfl⟩:=len1 (h.trans (by kernel_rfl!))
 kernel_rfl!
theorem wwE (P:Params):BindOk (KB P) (158,mkD (sub (st 11) 3)):=fun vals h=>by
 obtain ⟨a,b,rfl⟩:=len2 (h.trans (by kernel_rfl!))
 kernel_rfl!
theorem wwD (P:Params):BindOk (KB P) (165,mkD (sub (st 11) 4)):=fun vals h=>by
 obtain ⟨a,b,rfl⟩:=len2 (h.trans (by kernel_rfl!))
 kernel_rfl!
theorem wwC (P:Params):BindOk (KB P) (172,mkD (sub (st 11) 5)):=fun vals h=>by
 obtain ⟨a,b,rfl⟩:=len2 (h.trans (by kernel_rfl!))
 kernel_rfl!
theorem wwB (P:Params):BindOk (KB P) (179,mkD (sub (st 11) 6)):=fun vals h=>by
 obtain ⟨a,b,rfl⟩:=len2 (h.trans (by kernel_rfl!))
 kernel_rfl!
theorem wwA (P:Params):BindOk (KB P) (186,mkD (sub (st 11) 7)):=fun vals h=>by
 obtain ⟨a,b,rfl⟩:=len2 (h.trans (by kernel_rfl!))
 kernel_rfl!
theorem wxV (P:Params):fdL.map (fL (KB P))=fdL.map (fR (KB P)):=by kernel_rfl!
theorem wxR:(fdL.all fun p=>scChk p.2)=true:=by kernel_rfl!
theorem wvf (P:Params):∀ p∈fdL,BindOk (KB P) p:=by
 unfold fdL
 simp only [List.forall_mem_cons]
 exact ⟨wxZ P,wxY P,wxX P,wwI P,wwH P,wwz P,wwy P,wwx P,www P,wwv P,wwu P,wwt P,wws P,wwr P,wxW P,wwJ P,wwG P,wwF P,wwE P,wwD P,wwC P,wwB P,wwA P,fun p hp=>memE hp⟩
theorem wxU:(fdL.all fun p=>p.1==120||p.2.scope.names.lookup gk != some .local)=true:=by kernel_rfl!
theorem wxS (w:World) (mg:Str->Option Value):∀ p∈fdL,typeIn (KB w.params) (.ref p.1)=some (.type "function")/\FdOk (frL w mg) p.1 p.2 (oAt (KB w.params) p.1) (fdAt (KB w.params) p.1):=fun p hp=>
 wxT (C:=frL w mg) (wie (wxV w.params) p hp) (List.all_eq_true.mp wxR p hp) (wvf w.params p hp) fun h=>by
  have:=List.all_eq_true.mp wxU p hp
  rw [h]at this
  have e:p.1=120:=by simpa using this
  rw [e]
  exact ⟨119,by kernel_rfl!,weu w.params,by kernel_rfl!,_,_,_,_,_,_,_,_,rfl,rfl,rfl,rfl,rfl,rfl,by rw [show tabAt (frL w mg)=115 from tab_is];decide⟩
noncomputable def fdT:List (Addr×Def):=[(21,mkD (st 0)),(39,mkD (st 3)),(85,mkD (st 5)),(120,mkD (st 8)),(127,mkD (st 9)),(198,mkD (st 13)),(205,mkD (st 14)),(210,mkD (st 15)),(215,mkD (st 16)),(220,mkD (st 17)),(225,mkD (st 18)),(230,mkD (st 19)),(235,mkD (st 20)),(240,mkD (st 21))]
noncomputable def fdM (c:Str):List (Addr×Def):=if c==Str.ofString "TupleComp" then [(99,mkD (sub (st 7) 0)),(106,mkD (sub (st 7) 1))] else if c==Str.ofString "Whitespace" then [(144,mkD (sub (st 11) 1)),(151,mkD (sub (st 11) 2)),(158,mkD (sub (st 11) 3)),(165,mkD (sub (st 11) 4)),(172,mkD (sub (st 11) 5)),(179,mkD (sub (st 11) 6)),(186,mkD (sub (st 11) 7))] else []
theorem wwq (w:World) {mg:Str->Option Value} (hm:∀ x,nsFind (glEs w.params) x=mg x):FnsOk (frL w mg):=
 wtz (C:=frL w mg) hm (fdT:=fdT) (fdM:=fdM) (by show (T01.fns.map fun p=>(nsFind (glEs w.params) p.1,p.2))=_;kernel_rfl!) (by show T01.cls.map (cL (frL w mg) (nsFind (glEs w.params)))=T01.cls.map (cR (frL w mg) fdM);kernel_rfl!) fun p hp=>wxS w mg p (hp.elim (fun h=>by
  have:fdT++fdM (Str.ofString "TupleComp")++fdM (Str.ofString "Whitespace")=fdL:=by kernel_rfl!
  exact this ▸ List.mem_append_left _ (List.mem_append_left _ h)) fun ⟨c,h⟩=>by
  have:fdT++fdM (Str.ofString "TupleComp")++fdM (Str.ofString "Whitespace")=fdL:=by kernel_rfl!
  rw [<- this]
  by_cases e:(c==Str.ofString "TupleComp")=true
  ·rw [eq_of_beq e]at h;exact List.mem_append_left _ (List.mem_append_right _ h)
  ·by_cases e':(c==Str.ofString "Whitespace")=true
   ·rw [eq_of_beq e']at h;exact List.mem_append_right _ h
   ·unfold fdM at h;rw [if_neg e,if_neg e']at h;exact memE h)
noncomputable def mcsL (_:Addr):Value:=.type "type"
theorem wwk (w:World) {mg:Str->Option Value} (hm:∀ x,nsFind (glEs w.params) x=mg x):StOk (frL w mg) mcsL:=
 wuu (C:=frL w mg) hm (cv:=fun _=>[([32],2301),([9],2302)]) (by show T01.con.map (rL (frL w mg) (nsFind (glEs w.params)) mcsL)=T01.con.map (rR (frL w mg) _);kernel_rfl!) (by show (T01.cls.map fun p=>kL (frL w mg) (cadL p.1))=T01.cls.map fun _=>kR;kernel_rfl!)
noncomputable def setEs (P:Params):Array (Int×Value):=match (wc6 P).data with | .set es _ _=>es | _=>#[]
noncomputable def dictEs (P:Params):Array DictEntry:=match (wge P).data with | .dict es _=>es | _=>#[]
theorem wvJ (P:Params):setChk b1L (setEs P).toList=true:=by kernel_rfl!
theorem wvk (P:Params):dictChk (dictEs P).toList (b3L prog.main.body)=true:=by kernel_rfl!
theorem wqP:risesK (-1) (b3L prog.main.body)=true:=by kernel_rfl!
theorem wxQ (w:World) {mg:Str->Option Value} {h:Heap} (Y:Frag.In (fragL w.params) h) (hm:∀ x,nsFind (glEs w.params) x=mg x):∀ x d,T01.gl.lookup x=some d->∃ v,mg x=some v/\Rep (frL w mg) (frozen 115 h) v d:=by
 intro x d hx
 have hx:=Mine.Py.mem_lookup hx
 have hx:(x,d)∈[(Str.ofString "b1_set",D.set b1L),(Str.ofString "b3_exceptions",D.dict (b3L prog.main.body))]:=hx
 have K:=wkG (PT:=115) Y
 rcases List.mem_cons.mp hx with e | hx
 ·injection e with e1 e2
  rw [e1,e2]
  exact ⟨.ref 29,(hm _).symm.trans (by kernel_rfl!),VT.mk (K 29 (wc6 w.params) (by kernel_rfl!)) (Nat.le_of_ble_eq_true (by kernel_rfl!:Nat.ble ((setEs w.params).size+1) scanBound=true)) (wvK (es:=setEs w.params) ⟨rfl,rfl,rfl⟩ rfl (by kernel_rfl!) (wvJ w.params))⟩
 ·injection List.mem_singleton.mp hx with e1 e2
  rw [e1,e2]
  exact ⟨.ref 40,(hm _).symm.trans (by kernel_rfl!),wvl (C:=frL w mg) (es:=dictEs w.params) (K 40 (wge w.params) (by kernel_rfl!)) (by decide) ⟨rfl,rfl,rfl⟩ rfl (wvk w.params) wqP⟩
theorem wv1 (P:Params) {mg:Str->Option Value} (hm:∀ x,nsFind (glEs P) x=mg x):∀ x∈biNames,mg x=none:=by
 have:(biNames.all fun x=>(nsFind (glEs P) x).isNone)=true:=by kernel_rfl!
 intro x hx
 have:=List.all_eq_true.mp this x hx
 rw [<- hm]
 exact Option.isNone_iff_eq_none.mp this
theorem site {q:Program} {loose:List Str} {XP:(Str->Option Value)->Heap->Prop} {R:WRecords} (w:World) (s₀:Shared) (mg mb:Str->Option Value) (h:Heap) (G:Ground q loose R XP w s₀ mg mb h) (Y:Frag.In (fragL w.params) h) :
  Gd (frL w mg) (frozen 115 h)/\Wd T01 (frL w mg):=by
 have hm:∀ x,nsFind (glEs w.params) x=mg x:=by
  obtain ⟨o,es,ep,e1,e2,e3,e4⟩:=G.T.g
  have:=Y 3 (wmZ w.params) (by kernel_rfl!)
  rw [show mainGlobals=3 from rfl,this]at e1
  cases e1
  have:es=glEs w.params:=by unfold glEs;rw [e2]
  rw [<- this];exact e4
 have fz:∀ b o,b≠115->h.get? b=some o->frozen 115 h b=some o:=fun b o q e=>by unfold frozen;rw [if_neg q];exact e
 refine ⟨⟨wkG Y,?_,?_,?_,wxQ w Y hm,wv1 w.params hm,?_⟩,rfl,wwq w hm,_,wwk w hm⟩
 ·obtain ⟨o,e,r⟩:=NsO.of G.T.g
  exact ⟨o,fz _ _ (by decide) e,r⟩
 ·obtain ⟨o,e,r⟩:=NsO.of G.T.b
  exact ⟨o,mb,fz _ _ (by decide) e,r,fun x v hx hv=>by rw [G.T.builtins x hx];exact hv⟩
 ·obtain ⟨mc,n,hn⟩:=G.T.nolimit
  obtain ⟨o,e,r⟩:=NsO.of n
  exact ⟨o,mc,fz _ _ (by decide) e,r,hn⟩
 ·obtain ⟨bm,ob,e1,e2,e3,e4,e5,e6⟩:=G.T.bmain
  refine ⟨bm,ob,e1,e2,fz _ _ (fun q=>?_) e3,e4,e5,e6⟩
  have:=Y 115 (wfL w.params) (by kernel_rfl!)
  rw [q,this]at e3;cases e3;cases e4
theorem tab_ok (P:Params):(fragL P).lookup 115=some { cls:=.none,data:=.fields #[] }/\∃ c oc vs,(fragL P).lookup c=some oc/\oc.cls=.type "code"/\oc.data=.fields vs/\vs[11]?=some (.ref 115):=
 ⟨by kernel_rfl!,119,weu P,_,by kernel_rfl!,rfl,rfl,rfl⟩
end Mine
end
section
namespace Mine.Py
open PySem
set_option genInjectivity false
set_option genSizeOf false
noncomputable abbrev Z (s:String):Str:=Str.ofString s
noncomputable def dumD:Def:=⟨Str.ofString "",[],[],default,⟨[],[]⟩⟩
noncomputable def gB1:D:=.set b1L
noncomputable def gB3:D:=.dict (b3L prog.main.body)
noncomputable def clD (c:Str):List (Str×Def):=(T01.cls.lookup c).getD []
noncomputable def LEq {C S:Type} (tf:TF) (tm:TM) (d:Def) (st:Stmt) (hs:List (Option Hd)) (enc:C->S->QV) (B:C->S->D->(S->Option D)->(S->Option D)->(D->Option D)->Option D):Prop:=
 ∀ cc s x next brk ret,turnQ T01 (cfOf tf) (cmOf tm) 20 d.cx d.scope (forT st) (forB st) hs (enc cc s) x next brk ret=B cc s x (fun s'=>next (enc cc s')) (fun s'=>brk (enc cc s')) ret
noncomputable def tf_0:TF:=[]
noncomputable def tm_0:TM:=[]
theorem waG:CGood T01 (cfOf tf_0) (cmOf tm_0) 0:=wif (tf:=tf_0) (tm:=tm_0) trivial trivial
theorem ww4:AllF T01 0 tf_0:=trivial
theorem ww2:AllM T01 0 tm_0:=trivial
noncomputable def wbU:Def:=(T01.fns.lookup (Z "in_table_b1")).getD dumD
noncomputable def wbf (code:D):Option D:=
(bfn .ord [code]).bind fun x1=>
(cmpD .In x1 gB1).bind fun b2=>
some (D.bool b2)
noncomputable def wed (ds:List D):Option D:=a1 wbf ds
noncomputable def wds:List Str:=[]
noncomputable def wdy:List (Option Hd):=[]
theorem wim (code:D):runQ T01 (cfOf tf_0) (cmOf tm_0) 20 wbU wdy wds [code]=wbf code:=by
 kernel_rfl!
theorem wi9:FnGood T01 (Z "in_table_b1") wed 28:=
 wbh (f:=(Z "in_table_b1")) (s:=wed) (n:=20) (hs:=wdy) (ls:=wds) (d:=wbU) waG (by kernel_rfl!) (trivial) (fun args r e=>a1M (M:=fun ds=>wbU.params.length=ds.length/\runQ T01 (cfOf tf_0) (cmOf tm_0) 20 wbU wdy wds ds=some r) e fun a e=>⟨(by kernel_rfl!:wbU.params.length=1),(wim a).trans e⟩)
noncomputable def wbG:Def:=(T01.fns.lookup (Z "map_table_b3")).getD dumD
noncomputable def wa8 (code:D):Option D:=
dictK gB3 fun t1=>
(bfn .ord [code]).bind fun x2=>
(mfn (D.dict t1) .get [x2]).bind fun x3=>
(cmpD .IsNot x3 D.none).bind fun b4=>
if b4 then (some x3) else (strK code fun t5=>
(mfn (D.str t5) .lower []).bind fun x6=>
some x6)
noncomputable def wdF (ds:List D):Option D:=a1 wa8 ds
noncomputable def wc9:List Str:=[(Z "r")]
noncomputable def wda:List (Option Hd):=[]
theorem wgT (code:D):runQ T01 (cfOf tf_0) (cmOf tm_0) 20 wbG wda wc9 [code]=wa8 code:=by
 kernel_rfl!
theorem wis:FnGood T01 (Z "map_table_b3") wdF 28:=
 wbh (f:=(Z "map_table_b3")) (s:=wdF) (n:=20) (hs:=wda) (ls:=wc9) (d:=wbG) waG (by kernel_rfl!) (trivial) (fun args r e=>a1M (M:=fun ds=>wbG.params.length=ds.length/\runQ T01 (cfOf tf_0) (cmOf tm_0) 20 wbG wda wc9 ds=some r) e fun a e=>⟨(by kernel_rfl!:wbG.params.length=1),(wgT a).trans e⟩)
noncomputable def waq:Def:=(T01.fns.lookup (Z "add_callers")).getD dumD
noncomputable def wcc:List Str:=[(Z "target"),(Z "source"),(Z "new_callers"),(Z "func"),(Z "caller")]
noncomputable def wbw (target:D) (source:D) (s:(List (Key×D))) (d:D) (next brk:(List (Key×D))->Option D) (ret:D->Option D):Option D:=
wau d fun func_1 caller_2=>
(putM s func_1 caller_2).bind fun m3=>
next m3
noncomputable def wiv (c:D×D) (s:(List (Key×D))):List (Option Slot):=[some (.fz c.1),some (.fz c.2),some (.own (.dict s)),none,none]
noncomputable def wcn (c:D×D) (s:(List (Key×D))):QV:=zq wcc (wiv c s)
noncomputable def wem (q:QV):Option ((D×D)×((List (Key×D)))):=nqK wcc q fun l=>uF l fun v0 l=>uF l fun v1 l=>uM l fun v2 l=>uN l fun l=>uN l fun l=>uE l ((v0,v1),v2)
theorem wgp (q:QV) (x:((D×D)×((List (Key×D))))) (h:wem q=some x):q=wcn x.1 x.2:=nqE h fun l h=>by
 apply uFM h;clear h;intro v0 l h;apply uFM h;clear h;intro v1 l h;apply uMM h;clear h;intro v2 l h;apply uNM h;clear h;intro l h;apply uNM h;clear h;intro l h;apply uEM h;clear h;intro h;rw [<- h];rfl
noncomputable def wcG:Stmt:=(waq.body.getD 1 stD)
noncomputable def wfj (c:D×D):=wbw c.1 c.2
noncomputable def wfq:Hd:=mkF T01 (cfOf tf_0) (cmOf tm_0) 20 waq.scope wcG wem wcn wfj
theorem whr:LEq tf_0 tm_0 waq wcG [] wcn wfj:=by
 intro c s x next brk ret
 kernel_rfl!
theorem why:FOk T01 0 waq.scope wcG wfq:=wa2 waG wgp whr trivial
noncomputable def wb0 (target:D) (source:D) (s:(List (Key×D))) (d:D) (next brk:(List (Key×D))->Option D) (ret:D->Option D):Option D:=
wau d fun func_6 caller_7=>
(cmpD .In func_6 (D.dict s)).bind fun b8=>
if b8 then ((isTupQ caller_7).bind fun b9=>
if b9 then ((sub (D.dict s) func_6).bind fun x10=>
(zipSumQ caller_7 x10).bind fun x11=>
(putM s func_6 x11).bind fun m12=>
next m12) else ((sub (D.dict s) func_6).bind fun x13=>
(addI x13 caller_7).bind fun x14=>
(putM s func_6 x14).bind fun m15=>
next m15)) else ((putM s func_6 caller_7).bind fun m16=>
next m16)
noncomputable def wiu (c:D×D) (s:(List (Key×D))):List (Option Slot):=[some (.fz c.1),some (.fz c.2),some (.own (.dict s)),none,none]
noncomputable def wcm (c:D×D) (s:(List (Key×D))):QV:=zq wcc (wiu c s)
noncomputable def wel (q:QV):Option ((D×D)×((List (Key×D)))):=nqK wcc q fun l=>uF l fun v0 l=>uF l fun v1 l=>uM l fun v2 l=>uN l fun l=>uN l fun l=>uE l ((v0,v1),v2)
theorem wgo (q:QV) (x:((D×D)×((List (Key×D))))) (h:wel q=some x):q=wcm x.1 x.2:=nqE h fun l h=>by
 apply uFM h;clear h;intro v0 l h;apply uFM h;clear h;intro v1 l h;apply uMM h;clear h;intro v2 l h;apply uNM h;clear h;intro l h;apply uNM h;clear h;intro l h;apply uEM h;clear h;intro h;rw [<- h];rfl
noncomputable def wcF:Stmt:=(waq.body.getD 2 stD)
noncomputable def wfi (c:D×D):=wb0 c.1 c.2
noncomputable def wfp:Hd:=mkF T01 (cfOf tf_0) (cmOf tm_0) 20 waq.scope wcF wel wcm wfi
theorem whq:LEq tf_0 tm_0 waq wcF [] wcm wfi:=by
 intro c s x next brk ret
 kernel_rfl!
theorem whx:FOk T01 0 waq.scope wcF wfp:=wa2 waG wgo whq trivial
noncomputable def waR (target:D) (source:D):Option D:=
(itemsQ target).bind fun l4=>
if l4.length<=cap then forS (wbw target source) l4 [] (fun s5=>
(itemsQ source).bind fun l17=>
if l17.length<=cap then forS (wb0 target source) l17 s5 (fun s18=>
some (D.dict s18)) some else none) some else none
noncomputable def wef (ds:List D):Option D:=a2 waR ds
noncomputable def wdu:List Str:=[(Z "new_callers"),(Z "func"),(Z "caller")]
noncomputable def wdA:List (Option Hd):=[none,some wfq,some wfp,none]
theorem wio (target source:D):runQ T01 (cfOf tf_0) (cmOf tm_0) 20 waq wdA wdu [target,source]=waR target source:=by
 kernel_rfl!
theorem wjb:FnGood T01 (Z "add_callers") wef 28:=
 wbh (f:=(Z "add_callers")) (s:=wef) (n:=20) (hs:=wdA) (ls:=wdu) (d:=waq) waG (by kernel_rfl!) (⟨why,whx,trivial⟩) (fun args r e=>a2M (M:=fun ds=>waq.params.length=ds.length/\runQ T01 (cfOf tf_0) (cmOf tm_0) 20 waq wdA wdu ds=some r) e fun a b e=>⟨(by kernel_rfl!:waq.params.length=2),(wio a b).trans e⟩)
noncomputable def waN:Def:=(T01.fns.lookup (Z "count_calls")).getD dumD
noncomputable def wfV:List Str:=[(Z "callers"),(Z "nc"),(Z "calls")]
noncomputable def wbv (callers:D) (s:D) (d:D) (next brk:D->Option D) (ret:D->Option D):Option D:=
(addI s d).bind fun x1=>
next x1
noncomputable def wit (c:D) (s:D):List (Option Slot):=[some (.fz c),some (.fz s),none]
noncomputable def wcl (c:D) (s:D):QV:=zq wfV (wit c s)
noncomputable def wek (q:QV):Option ((D)×(D)):=nqK wfV q fun l=>uF l fun v0 l=>uF l fun v1 l=>uN l fun l=>uE l (v0,v1)
theorem wgn (q:QV) (x:((D)×(D))) (h:wek q=some x):q=wcl x.1 x.2:=nqE h fun l h=>by
 apply uFM h;clear h;intro v0 l h;apply uFM h;clear h;intro v1 l h;apply uNM h;clear h;intro l h;apply uEM h;clear h;intro h;rw [<- h];rfl
noncomputable def wcE:Stmt:=(waN.body.getD 1 stD)
noncomputable def wfh (c:D):=wbv c
noncomputable def wfo:Hd:=mkF T01 (cfOf tf_0) (cmOf tm_0) 20 waN.scope wcE wek wcl wfh
theorem whp:LEq tf_0 tm_0 waN wcE [] wcl wfh:=by
 intro c s x next brk ret
 kernel_rfl!
theorem whw:FOk T01 0 waN.scope wcE wfo:=wa2 waG wgn whp trivial
noncomputable def wa4 (callers:D):Option D:=
(valsQ callers).bind fun l2=>
if l2.length<=cap then forS (wbv callers) l2 (D.int 0) (fun s3=>
some s3) some else none
noncomputable def wee (ds:List D):Option D:=a1 wa4 ds
noncomputable def wdt:List Str:=[(Z "nc"),(Z "calls")]
noncomputable def wdz:List (Option Hd):=[none,some wfo,none]
theorem win (callers:D):runQ T01 (cfOf tf_0) (cmOf tm_0) 20 waN wdz wdt [callers]=wa4 callers:=by
 kernel_rfl!
theorem wja:FnGood T01 (Z "count_calls") wee 28:=
 wbh (f:=(Z "count_calls")) (s:=wee) (n:=20) (hs:=wdz) (ls:=wdt) (d:=waN) waG (by kernel_rfl!) (⟨whw,trivial⟩) (fun args r e=>a1M (M:=fun ds=>waN.params.length=ds.length/\runQ T01 (cfOf tf_0) (cmOf tm_0) 20 waN wdz wdt ds=some r) e fun a e=>⟨(by kernel_rfl!:waN.params.length=1),(win a).trans e⟩)
noncomputable def waz:Def:=(T01.fns.lookup (Z "_law_ring")).getD dumD
noncomputable def wc7:List Str:=[(Z "script"),(Z "cells"),(Z "place"),(Z "number"),(Z "kind"),(Z "low"),(Z "high"),(Z "wide"),(Z "unseen"),(Z "beside"),(Z "firsts"),(Z "ring"),(Z "typed"),(Z "veils"),(Z "k"),(Z "meant"),(Z "veil"),(Z "mark")]
noncomputable def wbt (script:D) (s:List D) (d:D) (next brk:List D->Option D) (ret:D->Option D):Option D:=
wau d fun place_1 number_2=>
(binop .Mod place_1 (D.int 4)).bind fun x3=>
(sub (D.list s) x3).bind fun x4=>
(binop .Pow (D.int 10) (D.int 9)).bind fun x5=>
(binop .Mod number_2 x5).bind fun x6=>
(addI x4 x6).bind fun x7=>
(putL s x3 x7).bind fun l8=>
next l8
noncomputable def wkK (c:D) (s:List D):List (Option Slot):=[some (.fz c),some (.own (.list s)),none,none,none,none,none,none,none,none,none,none,none,none,none,none,none,none]
noncomputable def wdc (c:D) (s:List D):QV:=zq wc7 (wkK c s)
noncomputable def wfe (q:QV):Option ((D)×(List D)):=nqK wc7 q fun l=>uF l fun v0 l=>uL l fun v1 l=>uN l fun l=>uN l fun l=>uN l fun l=>uN l fun l=>uN l fun l=>uN l fun l=>uN l fun l=>uN l fun l=>uN l fun l=>uN l fun l=>uN l fun l=>uN l fun l=>uN l fun l=>uN l fun l=>uN l fun l=>uN l fun l=>uE l (v0,v1)
theorem whh (q:QV) (x:((D)×(List D))) (h:wfe q=some x):q=wdc x.1 x.2:=nqE h fun l h=>by
 apply uFM h;clear h;intro v0 l h;apply uLM h;clear h;intro v1 l h;apply uNM h;clear h;intro l h;apply uNM h;clear h;intro l h;apply uNM h;clear h;intro l h;apply uNM h;clear h;intro l h;apply uNM h;clear h;intro l h;apply uNM h;clear h;intro l h;apply uNM h;clear h;intro l h;apply uNM h;clear h;intro l h;apply uNM h;clear h;intro l h;apply uNM h;clear h;intro l h;apply uNM h;clear h;intro l h;apply uNM h;clear h;intro l h;apply uNM h;clear h;intro l h;apply uNM h;clear h;intro l h;apply uNM h;clear h;intro l h;apply uNM h;clear h;intro l h;apply uEM h;clear h;intro h;rw [<- h];rfl
noncomputable def wdq:Stmt:=(waz.body.getD 1 stD)
noncomputable def wgD (c:D):=wbt c
noncomputable def wgF:Hd:=mkF T01 (cfOf tf_0) (cmOf tm_0) 20 waz.scope wdq wfe wdc wgD
theorem wjq:LEq tf_0 tm_0 waz wdq [] wdc wgD:=by
 intro c s x next brk ret
 kernel_rfl!
theorem wjs:FOk T01 0 waz.scope wdq wgF:=wa2 waG whh wjq trivial
noncomputable def wmW (x29:D) (wide:D) (cells:D) (d:D) (firsts:D) (s:List D×List D×List D) (x37:D) (next:List D×List D×List D->Option D):Option D:=
((cmpD .In x29 wide).bind fun b38=>
if b38 then ((sub wide x29).bind fun x39=>
some x39) else ((sub cells (D.int 2)).bind fun x40=>
(binop .Pow (D.int 12) d).bind fun x41=>
(binop .FloorDiv x40 x41).bind fun x42=>
(binop .Mod x42 (D.int 12)).bind fun x43=>
(sub firsts x43).bind fun x44=>
(bfn .ord [x29]).bind fun x45=>
(binop .Add x44 x45).bind fun x46=>
(binop .Sub x46 (D.int 97)).bind fun x47=>
(bfn .chr [x47]).bind fun x48=>
some x48)).bind fun x49=>
if (s.2.1++[x37]).length<=cap then if (s.2.2++[(D.bool true)]).length<=cap then if s.1.length<=cap then next ((s.1++[x29]),((s.2.1++[x37])++[x49]),((s.2.2++[(D.bool true)])++[(D.bool false)])) else none else none else none
noncomputable def wmk (x29:D) (wide:D) (cells:D) (d:D) (firsts:D) (s:List D×List D×List D) (next:List D×List D×List D->Option D):Option D:=
((cmpD .In x29 wide).bind fun b50=>
if b50 then ((sub wide x29).bind fun x51=>
some x51) else ((sub cells (D.int 2)).bind fun x52=>
(binop .Pow (D.int 12) d).bind fun x53=>
(binop .FloorDiv x52 x53).bind fun x54=>
(binop .Mod x54 (D.int 12)).bind fun x55=>
(sub firsts x55).bind fun x56=>
(bfn .ord [x29]).bind fun x57=>
(binop .Add x56 x57).bind fun x58=>
(binop .Sub x58 (D.int 97)).bind fun x59=>
(bfn .chr [x59]).bind fun x60=>
some x60)).bind fun x61=>
if s.2.1.length<=cap then if s.2.2.length<=cap then if s.1.length<=cap then next ((s.1++[x29]),(s.2.1++[x61]),(s.2.2++[(D.bool false)])) else none else none else none
noncomputable def wbc (script:D) (cells:D) (kind:D) (low:D) (high:D) (wide:D) (unseen:D) (beside:D) (firsts:D) (s:List D×List D×List D) (d:D) (next brk:List D×List D×List D->Option D) (ret:D->Option D):Option D:=
(sub cells (D.int 1)).bind fun x25=>
(binop .Pow (D.int 2) d).bind fun x26=>
(binop .FloorDiv x25 x26).bind fun x27=>
(binop .Mod x27 (D.int 2)).bind fun x28=>
(sub (D.list [low,high]) x28).bind fun x29=>
(sub cells (D.int 3)).bind fun x30=>
(binop .Pow (D.int 28) d).bind fun x31=>
(binop .FloorDiv x30 x31).bind fun x32=>
(binop .Mod x32 (D.int 28)).bind fun x33=>
(cmpD .Gt x33 (D.int 0)).bind fun b34=>
if b34 then ((binop .Sub x33 (D.int 1)).bind fun x35=>
(sub unseen x35).bind fun x36=>
(bfn .chr [x36]).bind fun x37=>
if s.2.1.length<=cap then if s.2.2.length<=cap then wmW x29 wide cells d firsts s x37 next else none else none) else (wmk x29 wide cells d firsts s next)
noncomputable def wkJ (c:D×D×D×D×D×D×D×D×D) (s:List D×List D×List D):List (Option Slot):=[some (.fz c.1),some (.fz c.2.1),none,none,some (.fz c.2.2.1),some (.fz c.2.2.2.1),some (.fz c.2.2.2.2.1),some (.fz c.2.2.2.2.2.1),some (.fz c.2.2.2.2.2.2.1),some (.fz c.2.2.2.2.2.2.2.1),some (.fz c.2.2.2.2.2.2.2.2),some (.own (.list s.1)),some (.own (.list s.2.1)),some (.own (.list s.2.2)),none,none,none,none]
noncomputable def wdb (c:D×D×D×D×D×D×D×D×D) (s:List D×List D×List D):QV:=zq wc7 (wkJ c s)
noncomputable def wfd (q:QV):Option ((D×D×D×D×D×D×D×D×D)×(List D×List D×List D)):=nqK wc7 q fun l=>uF l fun v0 l=>uF l fun v1 l=>uN l fun l=>uN l fun l=>uF l fun v4 l=>uF l fun v5 l=>uF l fun v6 l=>uF l fun v7 l=>uF l fun v8 l=>uF l fun v9 l=>uF l fun v10 l=>uL l fun v11 l=>uL l fun v12 l=>uL l fun v13 l=>uN l fun l=>uN l fun l=>uN l fun l=>uN l fun l=>uE l ((v0,v1,v4,v5,v6,v7,v8,v9,v10),(v11,v12,v13))
theorem whg (q:QV) (x:((D×D×D×D×D×D×D×D×D)×(List D×List D×List D))) (h:wfd q=some x):q=wdb x.1 x.2:=nqE h fun l h=>by
 apply uFM h;clear h;intro v0 l h;apply uFM h;clear h;intro v1 l h;apply uNM h;clear h;intro l h;apply uNM h;clear h;intro l h;apply uFM h;clear h;intro v4 l h;apply uFM h;clear h;intro v5 l h;apply uFM h;clear h;intro v6 l h;apply uFM h;clear h;intro v7 l h;apply uFM h;clear h;intro v8 l h;apply uFM h;clear h;intro v9 l h;apply uFM h;clear h;intro v10 l h;apply uLM h;clear h;intro v11 l h;apply uLM h;clear h;intro v12 l h;apply uLM h;clear h;intro v13 l h;apply uNM h;clear h;intro l h;apply uNM h;clear h;intro l h;apply uNM h;clear h;intro l h;apply uNM h;clear h;intro l h;apply uEM h;clear h;intro h;rw [<- h];rfl
noncomputable def wdp:Stmt:=(waz.body.getD 9 stD)
noncomputable def wgC (c:D×D×D×D×D×D×D×D×D):=wbc c.1 c.2.1 c.2.2.1 c.2.2.2.1 c.2.2.2.2.1 c.2.2.2.2.2.1 c.2.2.2.2.2.2.1 c.2.2.2.2.2.2.2.1 c.2.2.2.2.2.2.2.2
noncomputable def wgE:Hd:=mkF T01 (cfOf tf_0) (cmOf tm_0) 20 waz.scope wdp wfd wdb wgC
theorem wjp:LEq tf_0 tm_0 waz wdp [] wdb wgC:=by
 intro c s x next brk ret
 kernel_rfl!
theorem wjr:FOk T01 0 waz.scope wdp wgE:=wa2 waG whg wjp trivial
noncomputable def wcA (s11:List D) (s69:List D×List D×List D) (low_15:D):Option D:=
(sub (D.list s11) (D.int 0)).bind fun x70=>
(binop .FloorDiv x70 (D.int 128)).bind fun x71=>
(binop .Mod x71 (D.int 16)).bind fun x72=>
(sub (D.list [(D.int 172),(D.int 174),(D.int 846),(D.int 848),(D.int 6149),(D.int 6151),(D.int 6154),(D.int 6158),(D.int 8202),(D.int 8206),(D.int 8287),(D.int 8289),(D.int 65023),(D.int 65040),(D.int 65278),(D.int 65280)]) x72).bind fun x73=>
(bfn .chr [x73]).bind fun x74=>
(binop .Add (D.list s69.2.1) (D.list [x74])).bind fun x75=>
(binop .Add (D.list s69.2.2) (D.list [(D.bool false)])).bind fun x76=>
(bfn .len [low_15]).bind fun x77=>
(unop .USub (D.int 1)).bind fun x78=>
(unop .USub (D.int 3)).bind fun x79=>
(sub (D.list s11) (D.int 0)).bind fun x80=>
(binop .FloorDiv x80 (D.int 32)).bind fun x81=>
(binop .Mod x81 (D.int 4)).bind fun x82=>
(sub (D.list [(D.int 1),x78,(D.int 2),x79]) x82).bind fun x83=>
some (D.tuple [(D.list s69.1),x75,x76,x77,x83])
noncomputable def wcB (s11:List D) (x13:D) (script:D) (low_15:D) (high_16:D) (x18:D) (x24:D):Option D:=
(sub (D.list s11) (D.int 0)).bind fun x62=>
(binop .FloorDiv x62 (D.int 8)).bind fun x63=>
((cmpD .In x13 (D.tuple [(D.int 2),(D.int 3)])).bind fun b64=>
if b64 then (some (D.int 2)) else (some (D.int 4))).bind fun x65=>
(binop .Mod x63 x65).bind fun x66=>
(binop .Add (D.int 4) x66).bind fun x67=>
(rangeD [x67]).bind fun l68=>
if l68.length<=cap then forS (wbc script (D.list s11) x13 low_15 high_16 (D.dict [((Key.s [102,105]),(D.str [64257])),((Key.s [102,108]),(D.str [64258])),((Key.s [102,102,105]),(D.str [64259])),((Key.s [115,116]),(D.str [64262])),((Key.s [104,112]),(D.str [13259])),((Key.s [112,104]),(D.str [13271]))]) x18 (D.list [(D.int 172),(D.int 174),(D.int 846),(D.int 848),(D.int 6149),(D.int 6151),(D.int 6154),(D.int 6158),(D.int 8202),(D.int 8206),(D.int 8287),(D.int 8289),(D.int 65023),(D.int 65040),(D.int 65278),(D.int 65280)]) x24) l68 ([],[],[]) (fun s69=>
wcA s11 s69 low_15) some else none
noncomputable def wmX (s11:List D) (x13:D) (script:D) (low_15:D) (high_16:D) (x18:D) (x24:D):Option D:=
wcB s11 x13 script low_15 high_16 x18 x24
noncomputable def wgG (s11:List D) (x13:D) (script:D) (low_15:D) (high_16:D):Option D:=
(rangeD [(D.int 65024),(D.int 65040)]).bind fun l17=>
(binop .Add (D.list [(D.int 173),(D.int 847),(D.int 6150),(D.int 6155),(D.int 6156),(D.int 6157),(D.int 8203),(D.int 8204),(D.int 8205),(D.int 8288),(D.int 65279)]) (D.list l17)).bind fun x18=>
(keysOf (D.tuple [(D.int 0),(D.int 1),(D.int 2),(D.int 4),(D.int 7),(D.int 8),(D.int 9),(D.int 10),(D.int 11),(D.int 12)])).bind fun l19=>
if l19.length<=cap then (compQ (fun d20=>some true) (fun d20=>(binop .Mult (D.int 52) d20).bind fun x21=>
(binop .Add (D.int 119808) x21).bind fun x22=>
some x22) l19).bind fun l23=>
(binop .Add (D.list [(D.int 97),(D.int 65)]) (D.list l23)).bind fun x24=>
wmX s11 x13 script low_15 high_16 x18 x24 else none
noncomputable def wej (s11:List D) (script:D):Option D:=
(sub (D.list s11) (D.int 0)).bind fun x12=>
(binop .Mod x12 (D.int 8)).bind fun x13=>
(sub (D.list [(D.tuple [(D.str [102]),(D.str [102,105])]),(D.tuple [(D.str [102]),(D.str [102,108])]),(D.tuple [(D.str [102]),(D.str [102,102,105])]),(D.tuple [(D.str [102,105]),(D.str [102,102,105])]),(D.tuple [(D.str [115]),(D.str [115,116])]),(D.tuple [(D.str [116]),(D.str [115,116])]),(D.tuple [(D.str [104]),(D.str [104,112])]),(D.tuple [(D.str [112]),(D.str [112,104])])]) x13).bind fun x14=>
wau x14 fun low_15 high_16=>
wgG s11 x13 script low_15 high_16
noncomputable def wb3 (script:D):Option D:=
if boundOk none&&boundOk (some 60) then (cutD none (some 60) script).bind fun x9=>
(enumQ [x9]).bind fun l10=>
if l10.length<=cap then forS (wbt script) l10 [(D.int 424),(D.int 10),(D.int 12345),(D.int 3666292)] (fun s11=>
wej s11 script) some else none else none
noncomputable def wfD (ds:List D):Option D:=a1 wb3 ds
noncomputable def weO:List Str:=[(Z "cells"),(Z "place"),(Z "number"),(Z "kind"),(Z "low"),(Z "high"),(Z "wide"),(Z "unseen"),(Z "beside"),(Z "firsts"),(Z "ring"),(Z "typed"),(Z "veils"),(Z "k"),(Z "meant"),(Z "veil"),(Z "mark")]
noncomputable def weR:List (Option Hd):=[none,some wgF,none,none,none,none,none,none,none,some wgE,none,none]
theorem wjv (script:D):runQ T01 (cfOf tf_0) (cmOf tm_0) 20 waz weR weO [script]=wb3 script:=by
 kernel_rfl!
theorem wma:FnGood T01 (Z "_law_ring") wfD 28:=
 wbh (f:=(Z "_law_ring")) (s:=wfD) (n:=20) (hs:=weR) (ls:=weO) (d:=waz) waG (by kernel_rfl!) (⟨wjs,wjr,trivial⟩) (fun args r e=>a1M (M:=fun ds=>waz.params.length=ds.length/\runQ T01 (cfOf tf_0) (cmOf tm_0) 20 waz weR weO ds=some r) e fun a e=>⟨(by kernel_rfl!:waz.params.length=1),(wjv a).trans e⟩)
noncomputable def waP:Def:=(T01.fns.lookup (Z "_law_column")).getD dumD
noncomputable def wfX:List Str:=[(Z "runs"),(Z "size"),(Z "column"),(Z "run")]
noncomputable def wbz (runs:D) (size:D) (s:D) (d:D) (next brk:D->Option D) (ret:D->Option D):Option D:=
(binop .Add s d).bind fun x1=>
(binop .FloorDiv x1 size).bind fun x2=>
(binop .Mult x2 size).bind fun x3=>
(binop .Add x3 size).bind fun x4=>
next x4
noncomputable def wiz (c:D×D) (s:D):List (Option Slot):=[some (.fz c.1),some (.fz c.2),some (.fz s),none]
noncomputable def wcr (c:D×D) (s:D):QV:=zq wfX (wiz c s)
noncomputable def weq (q:QV):Option ((D×D)×(D)):=nqK wfX q fun l=>uF l fun v0 l=>uF l fun v1 l=>uF l fun v2 l=>uN l fun l=>uE l ((v0,v1),v2)
theorem wgt (q:QV) (x:((D×D)×(D))) (h:weq q=some x):q=wcr x.1 x.2:=nqE h fun l h=>by
 apply uFM h;clear h;intro v0 l h;apply uFM h;clear h;intro v1 l h;apply uFM h;clear h;intro v2 l h;apply uNM h;clear h;intro l h;apply uEM h;clear h;intro h;rw [<- h];rfl
noncomputable def wcK:Stmt:=(waP.body.getD 1 stD)
noncomputable def wfn (c:D×D):=wbz c.1 c.2
noncomputable def wfu:Hd:=mkF T01 (cfOf tf_0) (cmOf tm_0) 20 waP.scope wcK weq wcr wfn
theorem whv:LEq tf_0 tm_0 waP wcK [] wcr wfn:=by
 intro c s x next brk ret
 kernel_rfl!
theorem whC:FOk T01 0 waP.scope wcK wfu:=wa2 waG wgt whv trivial
noncomputable def wa5 (runs:D) (size:D):Option D:=
(keysOf runs).bind fun l5=>
if l5.length<=cap then forS (wbz runs size) l5 (D.int 0) (fun s6=>
some s6) some else none
noncomputable def wei (ds:List D):Option D:=a2 wa5 ds
noncomputable def wdx:List Str:=[(Z "column"),(Z "run")]
noncomputable def wdD:List (Option Hd):=[none,some wfu,none]
theorem wir (runs size:D):runQ T01 (cfOf tf_0) (cmOf tm_0) 20 waP wdD wdx [runs,size]=wa5 runs size:=by
 kernel_rfl!
theorem wje:FnGood T01 (Z "_law_column") wei 28:=
 wbh (f:=(Z "_law_column")) (s:=wei) (n:=20) (hs:=wdD) (ls:=wdx) (d:=waP) waG (by kernel_rfl!) (⟨whC,trivial⟩) (fun args r e=>a2M (M:=fun ds=>waP.params.length=ds.length/\runQ T01 (cfOf tf_0) (cmOf tm_0) 20 waP wdD wdx ds=some r) e fun a b e=>⟨(by kernel_rfl!:waP.params.length=2),(wir a b).trans e⟩)
noncomputable def wb8:Def:=(T01.fns.lookup (Z "_law_drawn")).getD dumD
noncomputable def wbP (bits:D):Option D:=
(bfn .len [bits]).bind fun x1=>
(bfn .sum [bits]).bind fun x2=>
(rangeD [x1]).bind fun l3=>
if l3.length<=cap then (compQ (fun d4=>some true) (fun d4=>(binop .Add d4 (D.int 1)).bind fun x5=>
(binop .Mult x5 x2).bind fun x6=>
(binop .FloorDiv x6 x1).bind fun x7=>
(binop .Mult d4 x2).bind fun x8=>
(binop .FloorDiv x8 x1).bind fun x9=>
(binop .Sub x7 x9).bind fun x10=>
some x10) l3).bind fun l11=>
(rangeD [x1]).bind fun l12=>
if l12.length<=cap then (compQ (fun d13=>intK d13 fun i14=>
if boundOk (some i14)&&boundOk none then (cutD (some i14) none (D.list l11)).bind fun x15=>
intK d13 fun i16=>
if boundOk none&&boundOk (some i16) then (cutD none (some i16) (D.list l11)).bind fun x17=>
(binop .Add x15 x17).bind fun x18=>
(cmpD .Eq x18 bits).bind fun b19=>
if b19 then (some true) else some false else none else none) (fun d13=>some (D.int 1)) l12).bind fun l20=>
(cmpD .NotEq (D.list l20) (D.list [])).bind fun b21=>
some (D.bool b21) else none else none
noncomputable def we2 (ds:List D):Option D:=a1 wbP ds
noncomputable def wd4:List Str:=[(Z "size"),(Z "some"),(Z "due")]
noncomputable def wd9:List (Option Hd):=[]
theorem wiZ (bits:D):runQ T01 (cfOf tf_0) (cmOf tm_0) 20 wb8 wd9 wd4 [bits]=wbP bits:=by
 kernel_rfl!
theorem wkC:FnGood T01 (Z "_law_drawn") we2 28:=
 wbh (f:=(Z "_law_drawn")) (s:=we2) (n:=20) (hs:=wd9) (ls:=wd4) (d:=wb8) waG (by kernel_rfl!) (trivial) (fun args r e=>a1M (M:=fun ds=>wb8.params.length=ds.length/\runQ T01 (cfOf tf_0) (cmOf tm_0) 20 wb8 wd9 wd4 ds=some r) e fun a e=>⟨(by kernel_rfl!:wb8.params.length=1),(wiZ a).trans e⟩)
noncomputable def wfA:Def:=((clD (Z "TupleComp")).lookup (Z "__init__")).getD dumD
noncomputable def wez (comp_select_list:D):Option D:=
some (D.obj (Z "TupleComp") [((Z "comp_select_list"),comp_select_list)])
noncomputable def wfF (ds:List D):Option D:=a1 wez ds
noncomputable def weQ:List Str:=[]
noncomputable def weT:List (Option Hd):=[]
theorem wjx (comp_select_list:D):newQ T01 (cfOf tf_0) (cmOf tm_0) 20 (Z "TupleComp") wfA weT weQ (Z "self") [(Z "comp_select_list")] [comp_select_list]=wez comp_select_list:=by
 kernel_rfl!
theorem wmc:FnGood T01 (Z "TupleComp") wfF 28:=
 wnB (c:=(Z "TupleComp")) (s:=wfF) (n:=20) (hs:=weT) (ls:=weQ) (d:=wfA) (ms:=clD (Z "TupleComp")) (self:=(Z "self")) (ps:=[(Z "comp_select_list")]) waG (by kernel_rfl!) (by kernel_rfl!) (by kernel_rfl!) (by kernel_rfl!) (trivial) (fun args r e=>a1M (M:=fun ds=>[(Z "comp_select_list")].length=ds.length/\newQ T01 (cfOf tf_0) (cmOf tm_0) 20 (Z "TupleComp") wfA weT weQ (Z "self") [(Z "comp_select_list")] ds=some r) e fun a e=>⟨rfl,(wjx a).trans e⟩)
noncomputable def wan:Def:=((clD (Z "TupleComp")).lookup (Z "compare")).getD dumD
noncomputable def wc8:List Str:=[(Z "self"),(Z "left"),(Z "right"),(Z "index"),(Z "direction"),(Z "l"),(Z "r")]
noncomputable def wap (self:D) (left:D) (right:D) (s:Unit) (d:D) (next brk:Unit->Option D) (ret:D->Option D):Option D:=
wau d fun index_1 direction_2=>
(sub left index_1).bind fun x3=>
(sub right index_1).bind fun x4=>
(cmpD .Lt x3 x4).bind fun b5=>
if b5 then ((unop .USub direction_2).bind fun x6=>
ret x6) else ((cmpD .Gt x3 x4).bind fun b7=>
if b7 then (ret direction_2) else (next ()))
noncomputable def we8 (c:D×D×D) (s:Unit):List (Option Slot):=[some (.fz c.1),some (.fz c.2.1),some (.fz c.2.2),none,none,none,none]
noncomputable def wbr (c:D×D×D) (s:Unit):QV:=zq wc8 (we8 c s)
noncomputable def wch (q:QV):Option ((D×D×D)×(Unit)):=nqK wc8 q fun l=>uF l fun v0 l=>uF l fun v1 l=>uF l fun v2 l=>uN l fun l=>uN l fun l=>uN l fun l=>uN l fun l=>uE l ((v0,v1,v2),())
theorem wec (q:QV) (x:((D×D×D)×(Unit))) (h:wch q=some x):q=wbr x.1 x.2:=nqE h fun l h=>by
 apply uFM h;clear h;intro v0 l h;apply uFM h;clear h;intro v1 l h;apply uFM h;clear h;intro v2 l h;apply uNM h;clear h;intro l h;apply uNM h;clear h;intro l h;apply uNM h;clear h;intro l h;apply uNM h;clear h;intro l h;apply uEM h;clear h;intro h;rw [<- h];rfl
noncomputable def wbA:Stmt:=(wan.body.getD 0 stD)
noncomputable def wcX (c:D×D×D):=wap c.1 c.2.1 c.2.2
noncomputable def wcY:Hd:=mkF T01 (cfOf tf_0) (cmOf tm_0) 20 wan.scope wbA wch wbr wcX
theorem we5:LEq tf_0 tm_0 wan wbA [] wbr wcX:=by
 intro c s x next brk ret
 kernel_rfl!
theorem we6:FOk T01 0 wan.scope wbA wcY:=wa2 waG wec we5 trivial
noncomputable def waV (self:D) (left:D) (right:D):Option D:=
(attrQ T01 self (Z "comp_select_list")).bind fun x8=>
listK x8 fun l9=>
if l9.length<=cap then forS (wap self left right) l9 () (fun s10=>
some (D.int 0)) some else none
noncomputable def wbZ (ds:List D):Option D:=a3 waV ds
noncomputable def wbM:List Str:=[(Z "index"),(Z "direction"),(Z "l"),(Z "r")]
noncomputable def wbN:List (Option Hd):=[some wcY,none]
theorem we7 (self left right:D):runQ T01 (cfOf tf_0) (cmOf tm_0) 20 wan wbN wbM [self,left,right]=waV self left right:=by
 kernel_rfl!
theorem wfx:MeGood T01 (Z "TupleComp") (Z "compare") wbZ 28:=
 wev (c:=(Z "TupleComp")) (f:=(Z "compare")) (s:=wbZ) (n:=20) (hs:=wbN) (ls:=wbM) (d:=wan) (ms:=clD (Z "TupleComp")) waG (by kernel_rfl!) (by kernel_rfl!) (⟨we6,trivial⟩) (fun args r e=>a3M (M:=fun ds=>wan.params.length=ds.length/\runQ T01 (cfOf tf_0) (cmOf tm_0) 20 wan wbN wbM ds=some r) e fun a b c e=>⟨(by kernel_rfl!:wan.params.length=3),(we7 a b c).trans e⟩)
noncomputable def wbl:Def:=((clD (Z "Whitespace")).lookup (Z "__init__")).getD dumD
noncomputable def wgz:List Str:=[(Z "self"),(Z "ws"),(Z "S"),(Z "T"),(Z "count"),(Z "b"),(Z "n"),(Z "nt"),(Z "ch")]
noncomputable def was (ws:D) (S:D) (T:D) (self_raw:D) (s:List D×D×D×D) (d:D) (next brk:List D×D×D×D->Option D) (ret:D->Option D):Option D:=
(cmpD .Eq d S).bind fun b1=>
if b1 then ((binop .Add s.2.2.1 (D.int 1)).bind fun x2=>
(binop .Add s.2.1 (D.int 1)).bind fun x3=>
next (s.1,x3,x2,s.2.2.2)) else ((cmpD .Eq d T).bind fun b4=>
if b4 then ((binop .Add s.2.2.1 (D.int 1)).bind fun x5=>
(binop .Add s.2.2.2 (D.int 1)).bind fun x6=>
(bfn .len [(D.list s.1)]).bind fun x7=>
(cmpD .GtE s.2.1 x7).bind fun b8=>
if b8 then ((bfn .len [(D.list s.1)]).bind fun x9=>
(binop .Sub s.2.1 x9).bind fun x10=>
(binop .Add x10 (D.int 1)).bind fun x11=>
(binop .Mult (D.list [(D.int 0)]) x11).bind fun x12=>
(catQ (D.list s.1) x12).bind fun l13=>
(sub (D.list l13) s.2.1).bind fun x14=>
(binop .Add x14 (D.int 1)).bind fun x15=>
(putL l13 s.2.1 x15).bind fun l16=>
next (l16,(D.int 0),x5,x6)) else ((sub (D.list s.1) s.2.1).bind fun x17=>
(binop .Add x17 (D.int 1)).bind fun x18=>
(putL s.1 s.2.1 x18).bind fun l19=>
next (l19,(D.int 0),x5,x6))) else (brk (s.1,s.2.1,s.2.2.1,s.2.2.2)))
noncomputable def wjk (c:D×D×D×D) (s:List D×D×D×D):List (Option Slot):=[some (.own (.obj (Z "Whitespace") [((Z "raw"),c.2.2.2)])),some (.fz c.1),some (.fz c.2.1),some (.fz c.2.2.1),some (.own (.list s.1)),some (.fz s.2.1),some (.fz s.2.2.1),some (.fz s.2.2.2),none]
noncomputable def wcP (c:D×D×D×D) (s:List D×D×D×D):QV:=zq wgz (wjk c s)
noncomputable def weZ (q:QV):Option ((D×D×D×D)×(List D×D×D×D)):=nqK wgz q fun l=>uO (Z "Whitespace") (Z "raw") l fun self_raw l=>uF l fun v1 l=>uF l fun v2 l=>uF l fun v3 l=>uL l fun v4 l=>uF l fun v5 l=>uF l fun v6 l=>uF l fun v7 l=>uN l fun l=>uE l ((v1,v2,v3,self_raw),(v4,v5,v6,v7))
theorem wgL (q:QV) (x:((D×D×D×D)×(List D×D×D×D))) (h:weZ q=some x):q=wcP x.1 x.2:=nqE h fun l h=>by
 apply uOM h;clear h;intro self_raw l h;apply uFM h;clear h;intro v1 l h;apply uFM h;clear h;intro v2 l h;apply uFM h;clear h;intro v3 l h;apply uLM h;clear h;intro v4 l h;apply uFM h;clear h;intro v5 l h;apply uFM h;clear h;intro v6 l h;apply uFM h;clear h;intro v7 l h;apply uNM h;clear h;intro l h;apply uEM h;clear h;intro h;rw [<- h];rfl
noncomputable def wc3:Stmt:=(wbl.body.getD 4 stD)
noncomputable def wf5 (c:D×D×D×D):=was c.1 c.2.1 c.2.2.1 c.2.2.2
noncomputable def wga:Hd:=mkF T01 (cfOf tf_0) (cmOf tm_0) 20 wbl.scope wc3 weZ wcP wf5
theorem wiE:LEq tf_0 tm_0 wbl wc3 [] wcP wf5:=by
 intro c s x next brk ret
 kernel_rfl!
theorem wiJ:FOk T01 0 wbl.scope wc3 wga:=wa2 waG wgL wiE trivial
noncomputable def wbQ (ws:D):Option D:=
(keysOf ws).bind fun l20=>
if l20.length<=cap then forS (was ws (D.str [32]) (D.str [9]) ws) l20 ([],(D.int 0),(D.int 0),(D.int 0)) (fun s21=>
(bfn .tuple [(D.list s21.1)]).bind fun x22=>
(bfn .len [(D.list s21.1)]).bind fun x23=>
(cmpD .LtE x23 (D.int 1)).bind fun b24=>
some (D.obj (Z "Whitespace") [((Z "raw"),ws),((Z "n"),s21.2.2.1),((Z "nt"),s21.2.2.2),((Z "norm"),(D.tuple [x22,s21.2.1])),((Z "is_simple"),(D.bool b24))])) (fun v_=>none) else none
noncomputable def we4 (ds:List D):Option D:=a1 wbQ ds
noncomputable def wd6:List Str:=[(Z "S"),(Z "T"),(Z "count"),(Z "b"),(Z "n"),(Z "nt"),(Z "ch")]
noncomputable def web:List (Option Hd):=[none,none,none,none,some wga,none,none,none,none]
theorem wi1 (ws:D):newQ T01 (cfOf tf_0) (cmOf tm_0) 20 (Z "Whitespace") wbl web wd6 (Z "self") [(Z "ws")] [ws]=wbQ ws:=by
 kernel_rfl!
theorem wkE:FnGood T01 (Z "Whitespace") we4 28:=
 wnB (c:=(Z "Whitespace")) (s:=we4) (n:=20) (hs:=web) (ls:=wd6) (d:=wbl) (ms:=clD (Z "Whitespace")) (self:=(Z "self")) (ps:=[(Z "ws")]) waG (by kernel_rfl!) (by kernel_rfl!) (by kernel_rfl!) (by kernel_rfl!) (⟨wiJ,trivial⟩) (fun args r e=>a1M (M:=fun ds=>[(Z "ws")].length=ds.length/\newQ T01 (cfOf tf_0) (cmOf tm_0) 20 (Z "Whitespace") wbl web wd6 (Z "self") [(Z "ws")] ds=some r) e fun a e=>⟨rfl,(wi1 a).trans e⟩)
noncomputable def wak:Def:=((clD (Z "Whitespace")).lookup (Z "longest_run_of_spaces")).getD dumD
noncomputable def wai (self:D):Option D:=
(attrQ T01 self (Z "norm")).bind fun x1=>
wau x1 fun count_2 trailing_3=>
(bfn .len [count_2]).bind fun x4=>
(binop .Sub x4 (D.int 1)).bind fun x5=>
(bfn .max [x5,trailing_3]).bind fun x6=>
some x6
noncomputable def waI (ds:List D):Option D:=a1 wai ds
noncomputable def waE:List Str:=[(Z "count"),(Z "trailing")]
noncomputable def waF:List (Option Hd):=[]
theorem wbW (self:D):runQ T01 (cfOf tf_0) (cmOf tm_0) 20 wak waF waE [self]=wai self:=by
 kernel_rfl!
theorem wb1:MeGood T01 (Z "Whitespace") (Z "longest_run_of_spaces") waI 28:=
 wev (c:=(Z "Whitespace")) (f:=(Z "longest_run_of_spaces")) (s:=waI) (n:=20) (hs:=waF) (ls:=waE) (d:=wak) (ms:=clD (Z "Whitespace")) waG (by kernel_rfl!) (by kernel_rfl!) (trivial) (fun args r e=>a1M (M:=fun ds=>wak.params.length=ds.length/\runQ T01 (cfOf tf_0) (cmOf tm_0) 20 wak waF waE ds=some r) e fun a e=>⟨(by kernel_rfl!:wak.params.length=1),(wbW a).trans e⟩)
noncomputable def wae:Def:=((clD (Z "Whitespace")).lookup (Z "indent_level")).getD dumD
noncomputable def wbS:List Str:=[(Z "self"),(Z "tabsize"),(Z "count"),(Z "trailing"),(Z "il"),(Z "i")]
noncomputable def wao (self:D) (tabsize:D) (count:D) (trailing:D) (s:D) (d:D) (next brk:D->Option D) (ret:D->Option D):Option D:=
(binop .FloorDiv d tabsize).bind fun x4=>
(sub count d).bind fun x5=>
(binop .Mult x4 x5).bind fun x6=>
(binop .Add s x6).bind fun x7=>
next x7
noncomputable def wdm (c:D×D×D×D) (s:D):List (Option Slot):=[some (.fz c.1),some (.fz c.2.1),some (.fz c.2.2.1),some (.fz c.2.2.2),some (.fz s),none]
noncomputable def wa0 (c:D×D×D×D) (s:D):QV:=zq wbS (wdm c s)
noncomputable def wbD (q:QV):Option ((D×D×D×D)×(D)):=nqK wbS q fun l=>uF l fun v0 l=>uF l fun v1 l=>uF l fun v2 l=>uF l fun v3 l=>uF l fun v4 l=>uN l fun l=>uE l ((v0,v1,v2,v3),v4)
theorem wcQ (q:QV) (x:((D×D×D×D)×(D))) (h:wbD q=some x):q=wa0 x.1 x.2:=nqE h fun l h=>by
 apply uFM h;clear h;intro v0 l h;apply uFM h;clear h;intro v1 l h;apply uFM h;clear h;intro v2 l h;apply uFM h;clear h;intro v3 l h;apply uFM h;clear h;intro v4 l h;apply uNM h;clear h;intro l h;apply uEM h;clear h;intro h;rw [<- h];rfl
noncomputable def wa3:Stmt:=(wae.body.getD 2 stD)
noncomputable def wbJ (c:D×D×D×D):=wao c.1 c.2.1 c.2.2.1 c.2.2.2
noncomputable def wbK:Hd:=mkF T01 (cfOf tf_0) (cmOf tm_0) 20 wae.scope wa3 wbD wa0 wbJ
theorem wde:LEq tf_0 tm_0 wae wa3 [] wa0 wbJ:=by
 intro c s x next brk ret
 kernel_rfl!
theorem wdf:FOk T01 0 wae.scope wa3 wbK:=wa2 waG wcQ wde trivial
noncomputable def waw (self:D) (tabsize:D):Option D:=
(attrQ T01 self (Z "norm")).bind fun x1=>
wau x1 fun count_2 trailing_3=>
(bfn .len [count_2]).bind fun x8=>
(rangeD [tabsize,x8]).bind fun l9=>
if l9.length<=cap then forS (wao self tabsize count_2 trailing_3) l9 (D.int 0) (fun s10=>
(attrQ T01 self (Z "nt")).bind fun x11=>
(binop .Add s10 x11).bind fun x12=>
(binop .Mult tabsize x12).bind fun x13=>
(binop .Add trailing_3 x13).bind fun x14=>
some x14) some else none
noncomputable def wbe (ds:List D):Option D:=a2 waw ds
noncomputable def wba:List Str:=[(Z "count"),(Z "trailing"),(Z "il"),(Z "i")]
noncomputable def wbb:List (Option Hd):=[none,none,some wbK,none]
theorem wdl (self tabsize:D):runQ T01 (cfOf tf_0) (cmOf tm_0) 20 wae wbb wba [self,tabsize]=waw self tabsize:=by
 kernel_rfl!
theorem wdE:MeGood T01 (Z "Whitespace") (Z "indent_level") wbe 28:=
 wev (c:=(Z "Whitespace")) (f:=(Z "indent_level")) (s:=wbe) (n:=20) (hs:=wbb) (ls:=wba) (d:=wae) (ms:=clD (Z "Whitespace")) waG (by kernel_rfl!) (by kernel_rfl!) (⟨wdf,trivial⟩) (fun args r e=>a2M (M:=fun ds=>wae.params.length=ds.length/\runQ T01 (cfOf tf_0) (cmOf tm_0) 20 wae wbb wba ds=some r) e fun a b e=>⟨(by kernel_rfl!:wae.params.length=2),(wdl a b).trans e⟩)
noncomputable def wa7:Def:=((clD (Z "Whitespace")).lookup (Z "equal")).getD dumD
noncomputable def wa1 (self:D) (other:D):Option D:=
(attrQ T01 self (Z "norm")).bind fun x1=>
(attrQ T01 other (Z "norm")).bind fun x2=>
(cmpD .Eq x1 x2).bind fun b3=>
some (D.bool b3)
noncomputable def wcb (ds:List D):Option D:=a2 wa1 ds
noncomputable def wbX:List Str:=[]
noncomputable def wbY:List (Option Hd):=[]
theorem wfv (self other:D):runQ T01 (cfOf tf_0) (cmOf tm_0) 20 wa7 wbY wbX [self,other]=wa1 self other:=by
 kernel_rfl!
theorem wfZ:MeGood T01 (Z "Whitespace") (Z "equal") wcb 28:=
 wev (c:=(Z "Whitespace")) (f:=(Z "equal")) (s:=wcb) (n:=20) (hs:=wbY) (ls:=wbX) (d:=wa7) (ms:=clD (Z "Whitespace")) waG (by kernel_rfl!) (by kernel_rfl!) (trivial) (fun args r e=>a2M (M:=fun ds=>wa7.params.length=ds.length/\runQ T01 (cfOf tf_0) (cmOf tm_0) 20 wa7 wbY wbX ds=some r) e fun a b e=>⟨(by kernel_rfl!:wa7.params.length=2),(wfv a b).trans e⟩)
noncomputable def tf_1:TF:=[((Z "in_table_b1"),wed),((Z "map_table_b3"),wdF),((Z "add_callers"),wef),((Z "count_calls"),wee),((Z "_law_ring"),wfD),((Z "_law_column"),wei),((Z "_law_drawn"),we2),((Z "TupleComp"),wfF),((Z "Whitespace"),we4)]++tf_0
noncomputable def tm_1:TM:=[(((Z "TupleComp"),(Z "compare")),wbZ),(((Z "Whitespace"),(Z "longest_run_of_spaces")),waI),(((Z "Whitespace"),(Z "indent_level")),wbe),(((Z "Whitespace"),(Z "equal")),wcb)]++tm_0
theorem wsv:AllF T01 28 tf_1:=⟨wi9,wis,wjb,wja,wma,wje,wkC,wmc,wkE,ww4.mono (by decide)⟩
theorem wst:AllM T01 28 tm_1:=⟨wfx,wb1,wdE,wfZ,ww2.mono (by decide)⟩
theorem wb7:CGood T01 (cfOf tf_1) (cmOf tm_1) 28:=wif wsv wst
noncomputable def wcz:Def:=(T01.fns.lookup (Z "_law_lead")).getD dumD
noncomputable def waj (runs:D) (behind:D):Option D:=
strK (D.str []) fun t1=>
(keysOf runs).bind fun l2=>
if l2.length<=cap then (compQ (fun d3=>some true) (fun d3=>(binop .Mult (D.str [32]) d3).bind fun x4=>
(binop .Add x4 (D.str [9])).bind fun x5=>
some x5) l2).bind fun l6=>
(mfn (D.str t1) .join [(D.list l6)]).bind fun x7=>
(binop .Add x7 behind).bind fun x8=>
(binop .Add x8 (D.str [120,32,9])).bind fun x9=>
(wbQ x9).bind fun x10=>
some x10 else none
noncomputable def wfE (ds:List D):Option D:=a2 waj ds
noncomputable def weP:List Str:=[]
noncomputable def weS:List (Option Hd):=[]
theorem wjw (runs behind:D):runQ T01 (cfOf tf_1) (cmOf tm_1) 20 wcz weS weP [runs,behind]=waj runs behind:=by
 kernel_rfl!
theorem wmb:FnGood T01 (Z "_law_lead") wfE 56:=
 wbh (f:=(Z "_law_lead")) (s:=wfE) (n:=20) (hs:=weS) (ls:=weP) (d:=wcz) wb7 (by kernel_rfl!) (trivial) (fun args r e=>a2M (M:=fun ds=>wcz.params.length=ds.length/\runQ T01 (cfOf tf_1) (cmOf tm_1) 20 wcz weS weP ds=some r) e fun a b e=>⟨(by kernel_rfl!:wcz.params.length=2),(wjw a b).trans e⟩)
noncomputable def wb9:Def:=(T01.fns.lookup (Z "_law_apart")).getD dumD
noncomputable def wbs (past:D) (part:D):Option D:=
(binop .Add past part).bind fun x1=>
(bfn .max [x1]).bind fun x2=>
(binop .Add x2 (D.int 2)).bind fun x3=>
(rangeD [(D.int 1),x3]).bind fun l4=>
if l4.length<=cap then (compQ (fun d5=>some true) (fun d5=>(wa5 past d5).bind fun x6=>
(wa5 part d5).bind fun x7=>
some (D.tuple [d5,x6,x7])) l4).bind fun l8=>
(keysOf (D.list l8)).bind fun l9=>
if l9.length<=cap then (compQ (fun d10=>(sub d10 (D.int 1)).bind fun x11=>
(sub d10 (D.int 2)).bind fun x12=>
(cmpD .NotEq x11 x12).bind fun b13=>
if b13 then (some true) else some false) (fun d10=>some d10) l9).bind fun l14=>
some (D.list l14) else none else none
noncomputable def we3 (ds:List D):Option D:=a2 wbs ds
noncomputable def wd5:List Str:=[(Z "rows")]
noncomputable def wea:List (Option Hd):=[]
theorem wi0 (past part:D):runQ T01 (cfOf tf_1) (cmOf tm_1) 20 wb9 wea wd5 [past,part]=wbs past part:=by
 kernel_rfl!
theorem wkD:FnGood T01 (Z "_law_apart") we3 56:=
 wbh (f:=(Z "_law_apart")) (s:=we3) (n:=20) (hs:=wea) (ls:=wd5) (d:=wb9) wb7 (by kernel_rfl!) (trivial) (fun args r e=>a2M (M:=fun ds=>wb9.params.length=ds.length/\runQ T01 (cfOf tf_1) (cmOf tm_1) 20 wb9 wea wd5 ds=some r) e fun a b e=>⟨(by kernel_rfl!:wb9.params.length=2),(wi0 a b).trans e⟩)
noncomputable def war:Def:=(T01.fns.lookup (Z "_law_turned")).getD dumD
noncomputable def wcd:List Str:=[(Z "ring"),(Z "way"),(Z "order"),(Z "line"),(Z "row"),(Z "ahead"),(Z "one"),(Z "two"),(Z "due"),(Z "turns")]
noncomputable def wa9 (ring:D) (way:D) (order:D) (s:D) (d:D) (next brk:D->Option D) (ret:D->Option D):Option D:=
(keysOf s).bind fun l10=>
if l10.length<=cap then (compQ (fun d11=>objK order fun c12 fs13=>
if mOk T01 c12 fs13 (Z "compare") then (cmOf tm_1 c12 (Z "compare") [D.obj c12 fs13,d11,d]).bind fun x14=>
(cmpD .Lt x14 (D.int 0)).bind fun b15=>
if b15 then (some true) else some false else none) (fun d11=>some (D.int 1)) l10).bind fun l16=>
(bfn .len [(D.list l16)]).bind fun x17=>
intK x17 fun i18=>
if boundOk none&&boundOk (some i18) then (cutD none (some i18) s).bind fun x19=>
(binop .Add x19 (D.list [d])).bind fun x20=>
intK x17 fun i21=>
if boundOk (some i21)&&boundOk none then (cutD (some i21) none s).bind fun x22=>
(binop .Add x20 x22).bind fun x23=>
next x23 else none else none else none
noncomputable def wix (c:D×D×D) (s:D):List (Option Slot):=[some (.fz c.1),some (.fz c.2.1),some (.fz c.2.2),some (.fz s),none,none,none,none,none,none]
noncomputable def wcp (c:D×D×D) (s:D):QV:=zq wcd (wix c s)
noncomputable def weo (q:QV):Option ((D×D×D)×(D)):=nqK wcd q fun l=>uF l fun v0 l=>uF l fun v1 l=>uF l fun v2 l=>uF l fun v3 l=>uN l fun l=>uN l fun l=>uN l fun l=>uN l fun l=>uN l fun l=>uN l fun l=>uE l ((v0,v1,v2),v3)
theorem wgr (q:QV) (x:((D×D×D)×(D))) (h:weo q=some x):q=wcp x.1 x.2:=nqE h fun l h=>by
 apply uFM h;clear h;intro v0 l h;apply uFM h;clear h;intro v1 l h;apply uFM h;clear h;intro v2 l h;apply uFM h;clear h;intro v3 l h;apply uNM h;clear h;intro l h;apply uNM h;clear h;intro l h;apply uNM h;clear h;intro l h;apply uNM h;clear h;intro l h;apply uNM h;clear h;intro l h;apply uNM h;clear h;intro l h;apply uEM h;clear h;intro h;rw [<- h];rfl
noncomputable def wcI:Stmt:=(war.body.getD 1 stD)
noncomputable def wfl (c:D×D×D):=wa9 c.1 c.2.1 c.2.2
noncomputable def wfs:Hd:=mkF T01 (cfOf tf_1) (cmOf tm_1) 20 war.scope wcI weo wcp wfl
theorem wht:LEq tf_1 tm_1 war wcI [] wcp wfl:=by
 intro c s x next brk ret
 kernel_rfl!
theorem whA:FOk T01 28 war.scope wcI wfs:=wa2 wb7 wgr wht trivial
noncomputable def wbx (ring:D) (way:D) (order:D) (line:D) (s:Unit) (d:D) (next brk:Unit->Option D) (ret:D->Option D):Option D:=
wau d fun one_37 two_38=>
(if boundOk (some 1)&&boundOk none then (cutD (some 1) none one_37).bind fun x39=>
if boundOk (some 1)&&boundOk none then (cutD (some 1) none two_38).bind fun x40=>
(cmpD .Eq x39 x40).bind fun b41=>
if b41 then ((bfn .abs [way]).bind fun x42=>
(binop .Mult (D.int 2) x42).bind fun x43=>
some x43) else ((bfn .abs [way]).bind fun x44=>
some x44) else none else none).bind fun x45=>
objK order fun c46 fs47=>
if mOk T01 c46 fs47 (Z "compare") then (cmOf tm_1 c46 (Z "compare") [D.obj c46 fs47,one_37,two_38]).bind fun x48=>
(bfn .str [x48]).bind fun x49=>
objK order fun c50 fs51=>
if mOk T01 c50 fs51 (Z "compare") then (cmOf tm_1 c50 (Z "compare") [D.obj c50 fs51,two_38,one_37]).bind fun x52=>
(bfn .str [x52]).bind fun x53=>
objK order fun c54 fs55=>
if mOk T01 c54 fs55 (Z "compare") then (cmOf tm_1 c54 (Z "compare") [D.obj c54 fs55,one_37,one_37]).bind fun x56=>
(bfn .str [x56]).bind fun x57=>
(unop .USub x45).bind fun x58=>
(bfn .str [x58]).bind fun x59=>
(bfn .str [x45]).bind fun x60=>
(cmpD .NotEq (D.list [x49,x53,x57]) (D.list [x59,x60,(D.str [48])])).bind fun b61=>
if b61 then ((unop .USub (D.int 1)).bind fun x62=>
ret x62) else (next ()) else none else none else none
noncomputable def wiw (c:D×D×D×D) (s:Unit):List (Option Slot):=[some (.fz c.1),some (.fz c.2.1),some (.fz c.2.2.1),some (.fz c.2.2.2),none,none,none,none,none,none]
noncomputable def wco (c:D×D×D×D) (s:Unit):QV:=zq wcd (wiw c s)
noncomputable def wen (q:QV):Option ((D×D×D×D)×(Unit)):=nqK wcd q fun l=>uF l fun v0 l=>uF l fun v1 l=>uF l fun v2 l=>uF l fun v3 l=>uN l fun l=>uN l fun l=>uN l fun l=>uN l fun l=>uN l fun l=>uN l fun l=>uE l ((v0,v1,v2,v3),())
theorem wgq (q:QV) (x:((D×D×D×D)×(Unit))) (h:wen q=some x):q=wco x.1 x.2:=nqE h fun l h=>by
 apply uFM h;clear h;intro v0 l h;apply uFM h;clear h;intro v1 l h;apply uFM h;clear h;intro v2 l h;apply uFM h;clear h;intro v3 l h;apply uNM h;clear h;intro l h;apply uNM h;clear h;intro l h;apply uNM h;clear h;intro l h;apply uNM h;clear h;intro l h;apply uNM h;clear h;intro l h;apply uNM h;clear h;intro l h;apply uEM h;clear h;intro h;rw [<- h];rfl
noncomputable def wcH:Stmt:=(war.body.getD 2 stD)
noncomputable def wfk (c:D×D×D×D):=wbx c.1 c.2.1 c.2.2.1 c.2.2.2
noncomputable def wfr:Hd:=mkF T01 (cfOf tf_1) (cmOf tm_1) 20 war.scope wcH wen wco wfk
theorem whs:LEq tf_1 tm_1 war wcH [] wco wfk:=by
 intro c s x next brk ret
 kernel_rfl!
theorem whz:FOk T01 28 war.scope wcH wfr:=wa2 wb7 wgq whs trivial
noncomputable def wdg (l69:List D):Option D:=
if boundOk (some 1)&&boundOk none then (cutD (some 1) none (D.list l69)).bind fun x77=>
(zipQ [(D.list l69),x77]).bind fun l78=>
if l78.length<=cap then (compQ (fun d79=>wau d79 fun one_80 two_81=>
(unop .USub (D.int 1)).bind fun x82=>
(sub one_80 x82).bind fun x83=>
(unop .USub (D.int 1)).bind fun x84=>
(sub two_81 x84).bind fun x85=>
(cmpD .NotEq x83 x85).bind fun b86=>
if b86 then (some true) else some false) (fun d79=>wau d79 fun one_87 two_88=>
some (D.int 1)) l78).bind fun l89=>
(bfn .len [(D.list l89)]).bind fun x90=>
some x90 else none else none
noncomputable def wdh (s36:D) (way:D):Option D:=
(keysOf s36).bind fun l66=>
if l66.length<=cap then (compQ (fun d67=>some true) (fun d67=>if boundOk (some 1)&&boundOk none then (cutD (some 1) none d67).bind fun x68=>
some x68 else none) l66).bind fun l69=>
(sub (D.list l69) (D.int 0)).bind fun x70=>
((cmpD .Gt way (D.int 0)).bind fun b71=>
if b71 then ((bfn .min [(D.list l69)]).bind fun x72=>
some x72) else ((bfn .max [(D.list l69)]).bind fun x73=>
some x73)).bind fun x74=>
(cmpD .NotEq x70 x74).bind fun b75=>
if b75 then ((unop .USub (D.int 1)).bind fun x76=>
some x76) else (wdg l69) else none
noncomputable def wdi (s36:D) (ring:D) (way:D) (x9:D):Option D:=
if boundOk (some 1)&&boundOk none then (cutD (some 1) none s36).bind fun x63=>
(zipQ [s36,x63]).bind fun l64=>
if l64.length<=cap then forS (wbx ring way x9 s36) l64 () (fun s65=>
wdh s36 way) some else none else none
noncomputable def wbg (ring:D) (way:D):Option D:=
(bfn .len [ring]).bind fun x1=>
(rangeD [x1]).bind fun l2=>
if l2.length<=cap then (compQ (fun d3=>some true) (fun d3=>(binop .Add d3 (D.int 1)).bind fun x4=>
some (D.tuple [x4,way])) l2).bind fun l5=>
(unop .USub (D.int 2)).bind fun x6=>
(binop .Mult x6 way).bind fun x7=>
(binop .Add (D.list l5) (D.list [(D.tuple [(D.int 0),x7])])).bind fun x8=>
(wez x8).bind fun x9=>
(bfn .len [ring]).bind fun x24=>
(rangeD [x24]).bind fun l25=>
if l25.length<=cap then (compQ (fun d26=>some true) (fun d26=>intK d26 fun i27=>
if boundOk (some i27)&&boundOk none then (cutD (some i27) none ring).bind fun x28=>
intK d26 fun i29=>
if boundOk none&&boundOk (some i29) then (cutD none (some i29) ring).bind fun x30=>
(binop .Add x28 x30).bind fun x31=>
(bfn .tuple [x31]).bind fun x32=>
(binop .Add (D.tuple [d26]) x32).bind fun x33=>
some x33 else none else none) l25).bind fun l34=>
(keysOf (D.list l34)).bind fun l35=>
if l35.length<=cap then forS (wa9 ring way x9) l35 (D.list []) (fun s36=>
wdi s36 ring way x9) some else none else none else none
noncomputable def weg (ds:List D):Option D:=a2 wbg ds
noncomputable def wdv:List Str:=[(Z "order"),(Z "line"),(Z "row"),(Z "ahead"),(Z "one"),(Z "two"),(Z "due"),(Z "turns")]
noncomputable def wdB:List (Option Hd):=[none,some wfs,some wfr,none,none,none]
theorem wip (ring way:D):runQ T01 (cfOf tf_1) (cmOf tm_1) 20 war wdB wdv [ring,way]=wbg ring way:=by
 kernel_rfl!
theorem wjc:FnGood T01 (Z "_law_turned") weg 56:=
 wbh (f:=(Z "_law_turned")) (s:=weg) (n:=20) (hs:=wdB) (ls:=wdv) (d:=war) wb7 (by kernel_rfl!) (⟨whA,whz,trivial⟩) (fun args r e=>a2M (M:=fun ds=>war.params.length=ds.length/\runQ T01 (cfOf tf_1) (cmOf tm_1) 20 war wdB wdv ds=some r) e fun a b e=>⟨(by kernel_rfl!:war.params.length=2),(wip a b).trans e⟩)
noncomputable def waO:Def:=(T01.fns.lookup (Z "_law_tables")).getD dumD
noncomputable def wfW:List Str:=[(Z "text"),(Z "mark"),(Z "spread"),(Z "tables"),(Z "width"),(Z "past"),(Z "counts")]
noncomputable def wdj (l18:List D) (mark:D) (s:D×D) (next:D×D->Option D):Option D:=
(keysOf (D.list l18)).bind fun l33=>
if l33.length<=cap then (compQ (fun d34=>some true) (fun d34=>dictK d34 fun t35=>
(mfn (D.dict t35) .get [mark,(D.int 0)]).bind fun x36=>
some x36) l33).bind fun l37=>
(bfn .max [(D.list l37)]).bind fun x38=>
(bfn .min [(D.list l37)]).bind fun x39=>
(binop .Sub x38 x39).bind fun x40=>
(bfn .max [s.1,x40]).bind fun x41=>
next (x41,(D.list l18)) else none
noncomputable def wdk (s:D×D) (l18:List D) (d:D) (text:D) (ret:D->Option D) (mark:D) (next:D×D->Option D):Option D:=
(zipQ [s.2,(D.list l18)]).bind fun l19=>
if l19.length<=cap then (compQ (fun d20=>wau d20 fun one_21 two_22=>
some true) (fun d20=>wau d20 fun one_23 two_24=>
(wa4 one_23).bind fun x25=>
(wa4 two_24).bind fun x26=>
some (D.tuple [x25,x26])) l19).bind fun l27=>
(binop .Sub d (D.int 1)).bind fun x28=>
(bfn .len [text]).bind fun x29=>
(binop .Mult (D.list [(D.tuple [x28,d])]) x29).bind fun x30=>
(cmpD .NotEq (D.list l27) x30).bind fun b31=>
if b31 then ((unop .USub (D.int 1)).bind fun x32=>
ret x32) else (wdj l18 mark s next) else none
noncomputable def wby (text:D) (mark:D) (s:D×D) (d:D) (next brk:D×D->Option D) (ret:D->Option D):Option D:=
(enumQ [s.2]).bind fun l5=>
if l5.length<=cap then (compQ (fun d6=>wau d6 fun k_7 table_8=>
some true) (fun d6=>wau d6 fun k_9 table_10=>
(binop .Add k_9 d).bind fun x11=>
(binop .Sub x11 (D.int 1)).bind fun x12=>
(bfn .len [text]).bind fun x13=>
(binop .Mod x12 x13).bind fun x14=>
(sub text x14).bind fun x15=>
(toKey x15).bind fun k16=>
(waR table_10 (D.dict [(k16,(D.int 1))])).bind fun x17=>
some x17) l5).bind fun l18=>
wdk s l18 d text ret mark next else none
noncomputable def wiy (c:D×D) (s:D×D):List (Option Slot):=[some (.fz c.1),some (.fz c.2),some (.fz s.1),some (.fz s.2),none,none,none]
noncomputable def wcq (c:D×D) (s:D×D):QV:=zq wfW (wiy c s)
noncomputable def wep (q:QV):Option ((D×D)×(D×D)):=nqK wfW q fun l=>uF l fun v0 l=>uF l fun v1 l=>uF l fun v2 l=>uF l fun v3 l=>uN l fun l=>uN l fun l=>uN l fun l=>uE l ((v0,v1),(v2,v3))
theorem wgs (q:QV) (x:((D×D)×(D×D))) (h:wep q=some x):q=wcq x.1 x.2:=nqE h fun l h=>by
 apply uFM h;clear h;intro v0 l h;apply uFM h;clear h;intro v1 l h;apply uFM h;clear h;intro v2 l h;apply uFM h;clear h;intro v3 l h;apply uNM h;clear h;intro l h;apply uNM h;clear h;intro l h;apply uNM h;clear h;intro l h;apply uEM h;clear h;intro h;rw [<- h];rfl
noncomputable def wcJ:Stmt:=(waO.body.getD 1 stD)
noncomputable def wfm (c:D×D):=wby c.1 c.2
noncomputable def wft:Hd:=mkF T01 (cfOf tf_1) (cmOf tm_1) 20 waO.scope wcJ wep wcq wfm
theorem whu:LEq tf_1 tm_1 waO wcJ [] wcq wfm:=by
 intro c s x next brk ret
 kernel_rfl!
theorem whB:FOk T01 28 waO.scope wcJ wft:=wa2 wb7 wgs whu trivial
noncomputable def wbE (text:D):Option D:=
(bfn .max [text]).bind fun x1=>
(keysOf text).bind fun l2=>
if l2.length<=cap then (compQ (fun d3=>some true) (fun d3=>some (D.dict [])) l2).bind fun l4=>
(bfn .len [text]).bind fun x42=>
(binop .FloorDiv x42 (D.int 2)).bind fun x43=>
(binop .Add x43 (D.int 1)).bind fun x44=>
(rangeD [(D.int 1),x44]).bind fun l45=>
if l45.length<=cap then forS (wby text x1) l45 ((D.int 0),(D.list l4)) (fun s46=>
some s46.1) some else none else none
noncomputable def weh (ds:List D):Option D:=a1 wbE ds
noncomputable def wdw:List Str:=[(Z "mark"),(Z "spread"),(Z "tables"),(Z "width"),(Z "past"),(Z "counts")]
noncomputable def wdC:List (Option Hd):=[none,some wft,none]
theorem wiq (text:D):runQ T01 (cfOf tf_1) (cmOf tm_1) 20 waO wdC wdw [text]=wbE text:=by
 kernel_rfl!
theorem wjd:FnGood T01 (Z "_law_tables") weh 56:=
 wbh (f:=(Z "_law_tables")) (s:=weh) (n:=20) (hs:=wdC) (ls:=wdw) (d:=waO) wb7 (by kernel_rfl!) (⟨whB,trivial⟩) (fun args r e=>a1M (M:=fun ds=>waO.params.length=ds.length/\runQ T01 (cfOf tf_1) (cmOf tm_1) 20 waO wdC wdw ds=some r) e fun a e=>⟨(by kernel_rfl!:waO.params.length=1),(wiq a).trans e⟩)
noncomputable def wac:Def:=((clD (Z "Whitespace")).lookup (Z "not_equal_witness")).getD dumD
noncomputable def wbq:List Str:=[(Z "self"),(Z "other"),(Z "n"),(Z "a"),(Z "ts")]
noncomputable def wam (self:D) (other:D) (n:D) (s:List D) (d:D) (next brk:List D->Option D) (ret:D->Option D):Option D:=
objK self fun c9 fs10=>
if mOk T01 c9 fs10 (Z "indent_level") then (cmOf tm_1 c9 (Z "indent_level") [D.obj c9 fs10,d]).bind fun x11=>
objK other fun c12 fs13=>
if mOk T01 c12 fs13 (Z "indent_level") then (cmOf tm_1 c12 (Z "indent_level") [D.obj c12 fs13,d]).bind fun x14=>
(cmpD .NotEq x11 x14).bind fun b15=>
if b15 then (objK self fun c16 fs17=>
if mOk T01 c16 fs17 (Z "indent_level") then (cmOf tm_1 c16 (Z "indent_level") [D.obj c16 fs17,d]).bind fun x18=>
objK other fun c19 fs20=>
if mOk T01 c19 fs20 (Z "indent_level") then (cmOf tm_1 c19 (Z "indent_level") [D.obj c19 fs20,d]).bind fun x21=>
if s.length<=cap then next (s++[(D.tuple [d,x18,x21])]) else none else none else none) else (next s) else none else none
noncomputable def wck (c:D×D×D) (s:List D):List (Option Slot):=[some (.fz c.1),some (.fz c.2.1),some (.fz c.2.2),some (.own (.list s)),none]
noncomputable def waH (c:D×D×D) (s:List D):QV:=zq wbq (wck c s)
noncomputable def wbd (q:QV):Option ((D×D×D)×(List D)):=nqK wbq q fun l=>uF l fun v0 l=>uF l fun v1 l=>uF l fun v2 l=>uL l fun v3 l=>uN l fun l=>uE l ((v0,v1,v2),v3)
theorem wb2 (q:QV) (x:((D×D×D)×(List D))) (h:wbd q=some x):q=waH x.1 x.2:=nqE h fun l h=>by
 apply uFM h;clear h;intro v0 l h;apply uFM h;clear h;intro v1 l h;apply uFM h;clear h;intro v2 l h;apply uLM h;clear h;intro v3 l h;apply uNM h;clear h;intro l h;apply uEM h;clear h;intro h;rw [<- h];rfl
noncomputable def waL:Stmt:=(wac.body.getD 2 stD)
noncomputable def wbn (c:D×D×D):=wam c.1 c.2.1 c.2.2
noncomputable def wbo:Hd:=mkF T01 (cfOf tf_1) (cmOf tm_1) 20 wac.scope waL wbd waH wbn
theorem wcf:LEq tf_1 tm_1 wac waL [] waH wbn:=by
 intro c s x next brk ret
 kernel_rfl!
theorem wcg:FOk T01 28 wac.scope waL wbo:=wa2 wb7 wb2 wcf trivial
noncomputable def wah (self:D) (other:D):Option D:=
objK self fun c1 fs2=>
if mOk T01 c1 fs2 (Z "longest_run_of_spaces") then (cmOf tm_1 c1 (Z "longest_run_of_spaces") [D.obj c1 fs2]).bind fun x3=>
objK other fun c4 fs5=>
if mOk T01 c4 fs5 (Z "longest_run_of_spaces") then (cmOf tm_1 c4 (Z "longest_run_of_spaces") [D.obj c4 fs5]).bind fun x6=>
(bfn .max [x3,x6]).bind fun x7=>
(binop .Add x7 (D.int 1)).bind fun x8=>
(binop .Add x8 (D.int 1)).bind fun x22=>
(rangeD [(D.int 1),x22]).bind fun l23=>
if l23.length<=cap then forS (wam self other x8) l23 [] (fun s24=>
some (D.list s24)) some else none else none else none
noncomputable def waW (ds:List D):Option D:=a2 wah ds
noncomputable def waS:List Str:=[(Z "n"),(Z "a"),(Z "ts")]
noncomputable def waT:List (Option Hd):=[none,none,some wbo,none]
theorem wcj (self other:D):runQ T01 (cfOf tf_1) (cmOf tm_1) 20 wac waT waS [self,other]=wah self other:=by
 kernel_rfl!
theorem wcy:MeGood T01 (Z "Whitespace") (Z "not_equal_witness") waW 56:=
 wev (c:=(Z "Whitespace")) (f:=(Z "not_equal_witness")) (s:=waW) (n:=20) (hs:=waT) (ls:=waS) (d:=wac) (ms:=clD (Z "Whitespace")) wb7 (by kernel_rfl!) (by kernel_rfl!) (⟨wcg,trivial⟩) (fun args r e=>a2M (M:=fun ds=>wac.params.length=ds.length/\runQ T01 (cfOf tf_1) (cmOf tm_1) 20 wac waT waS ds=some r) e fun a b e=>⟨(by kernel_rfl!:wac.params.length=2),(wcj a b).trans e⟩)
noncomputable def wat:Def:=((clD (Z "Whitespace")).lookup (Z "less")).getD dumD
noncomputable def wd1:List Str:=[(Z "self"),(Z "other"),(Z "n"),(Z "ts")]
noncomputable def waK (self:D) (other:D) (n:D) (s:Unit) (d:D) (next brk:Unit->Option D) (ret:D->Option D):Option D:=
objK self fun c20 fs21=>
if mOk T01 c20 fs21 (Z "indent_level") then (cmOf tm_1 c20 (Z "indent_level") [D.obj c20 fs21,d]).bind fun x22=>
objK other fun c23 fs24=>
if mOk T01 c23 fs24 (Z "indent_level") then (cmOf tm_1 c23 (Z "indent_level") [D.obj c23 fs24,d]).bind fun x25=>
(cmpD .GtE x22 x25).bind fun b26=>
if b26 then (ret (D.bool false)) else (next ()) else none else none
noncomputable def wf0 (c:D×D×D) (s:Unit):List (Option Slot):=[some (.fz c.1),some (.fz c.2.1),some (.fz c.2.2),none]
noncomputable def wbF (c:D×D×D) (s:Unit):QV:=zq wd1 (wf0 c s)
noncomputable def wcU (q:QV):Option ((D×D×D)×(Unit)):=nqK wd1 q fun l=>uF l fun v0 l=>uF l fun v1 l=>uF l fun v2 l=>uN l fun l=>uE l ((v0,v1,v2),())
theorem weY (q:QV) (x:((D×D×D)×(Unit))) (h:wcU q=some x):q=wbF x.1 x.2:=nqE h fun l h=>by
 apply uFM h;clear h;intro v0 l h;apply uFM h;clear h;intro v1 l h;apply uFM h;clear h;intro v2 l h;apply uNM h;clear h;intro l h;apply uEM h;clear h;intro h;rw [<- h];rfl
noncomputable def wbL:Stmt:=(wat.body.getD 3 stD)
noncomputable def wdn (c:D×D×D):=waK c.1 c.2.1 c.2.2
noncomputable def wdo:Hd:=mkF T01 (cfOf tf_1) (cmOf tm_1) 20 wat.scope wbL wcU wbF wdn
theorem wfG:LEq tf_1 tm_1 wat wbL [] wbF wdn:=by
 intro c s x next brk ret
 kernel_rfl!
theorem wfH:FOk T01 28 wat.scope wbL wdo:=wa2 wb7 weY wfG trivial
noncomputable def wa6 (self:D) (other:D):Option D:=
(attrQ T01 self (Z "n")).bind fun x1=>
(attrQ T01 other (Z "n")).bind fun x2=>
(cmpD .GtE x1 x2).bind fun b3=>
if b3 then (some (D.bool false)) else (((attrQ T01 self (Z "is_simple")).bind fun x4=>
boolK x4 fun b5=>
if b5 then ((attrQ T01 other (Z "is_simple")).bind fun x6=>
boolK x6 fun b7=>
if b7 then (some true) else some false) else some false).bind fun b8=>
if b8 then ((attrQ T01 self (Z "nt")).bind fun x9=>
(attrQ T01 other (Z "nt")).bind fun x10=>
(cmpD .LtE x9 x10).bind fun b11=>
some (D.bool b11)) else (objK self fun c12 fs13=>
if mOk T01 c12 fs13 (Z "longest_run_of_spaces") then (cmOf tm_1 c12 (Z "longest_run_of_spaces") [D.obj c12 fs13]).bind fun x14=>
objK other fun c15 fs16=>
if mOk T01 c15 fs16 (Z "longest_run_of_spaces") then (cmOf tm_1 c15 (Z "longest_run_of_spaces") [D.obj c15 fs16]).bind fun x17=>
(bfn .max [x14,x17]).bind fun x18=>
(binop .Add x18 (D.int 1)).bind fun x19=>
(binop .Add x19 (D.int 1)).bind fun x27=>
(rangeD [(D.int 2),x27]).bind fun l28=>
if l28.length<=cap then forS (waK self other x19) l28 () (fun s29=>
some (D.bool true)) some else none else none else none))
noncomputable def wcs (ds:List D):Option D:=a2 wa6 ds
noncomputable def wb5:List Str:=[(Z "n"),(Z "ts")]
noncomputable def wb6:List (Option Hd):=[none,none,none,some wdo,none]
theorem wfJ (self other:D):runQ T01 (cfOf tf_1) (cmOf tm_1) 20 wat wb6 wb5 [self,other]=wa6 self other:=by
 kernel_rfl!
theorem wgk:MeGood T01 (Z "Whitespace") (Z "less") wcs 56:=
 wev (c:=(Z "Whitespace")) (f:=(Z "less")) (s:=wcs) (n:=20) (hs:=wb6) (ls:=wb5) (d:=wat) (ms:=clD (Z "Whitespace")) wb7 (by kernel_rfl!) (by kernel_rfl!) (⟨wfH,trivial⟩) (fun args r e=>a2M (M:=fun ds=>wat.params.length=ds.length/\runQ T01 (cfOf tf_1) (cmOf tm_1) 20 wat wb6 wb5 ds=some r) e fun a b e=>⟨(by kernel_rfl!:wat.params.length=2),(wfJ a b).trans e⟩)
noncomputable def tf_2:TF:=[((Z "_law_lead"),wfE),((Z "_law_apart"),we3),((Z "_law_turned"),weg),((Z "_law_tables"),weh)]++tf_1
noncomputable def tm_2:TM:=[(((Z "Whitespace"),(Z "not_equal_witness")),waW),(((Z "Whitespace"),(Z "less")),wcs)]++tm_1
theorem wsu:AllF T01 56 tf_2:=⟨wmb,wkD,wjc,wjd,wsv.mono (by decide)⟩
theorem wss:AllM T01 56 tm_2:=⟨wcy,wgk,wst.mono (by decide)⟩
theorem wg7:CGood T01 (cfOf tf_2) (cmOf tm_2) 56:=wif wsu wss
noncomputable def wad:Def:=(T01.fns.lookup (Z "_law_nanny")).getD dumD
noncomputable def waX:List Str:=[(Z "runs"),(Z "short"),(Z "most"),(Z "before"),(Z "width"),(Z "kinds"),(Z "some"),(Z "pairs"),(Z "start"),(Z "part"),(Z "lead"),(Z "alike"),(Z "past"),(Z "other"),(Z "fewer"),(Z "book"),(Z "run"),(Z "due"),(Z "norm")]
noncomputable def wbj (runs:D) (short:D) (most:D) (before:D) (width:D) (kinds:List D) (some':D) (pairs:D) (start:D) (part:D) (lead:D) (alike:D) (s:Unit) (d:D) (next brk:Unit->Option D) (ret:D->Option D):Option D:=
wau d fun past_78 other_79=>
(bfn .sum [past_78]).bind fun x80=>
(bfn .len [past_78]).bind fun x81=>
(binop .Mult x81 short).bind fun x82=>
(binop .Sub x80 x82).bind fun x83=>
(bfn .sum [part]).bind fun x84=>
(binop .Mult width short).bind fun x85=>
(binop .Sub x84 x85).bind fun x86=>
(cmpD .LtE x83 x86).bind fun b87=>
(objK other_79 fun c88 fs89=>
if mOk T01 c88 fs89 (Z "less") then (cmOf tm_2 c88 (Z "less") [D.obj c88 fs89,lead]).bind fun x90=>
(cmpD .IsNot x90 (D.bool b87)).bind fun b91=>
if b91 then some true else (objK lead fun c92 fs93=>
if mOk T01 c92 fs93 (Z "less") then (cmOf tm_2 c92 (Z "less") [D.obj c92 fs93,other_79]).bind fun x94=>
(cmpD .IsNot x94 (D.bool false)).bind fun b95=>
if b95 then some true else (objK other_79 fun c96 fs97=>
if mOk T01 c96 fs97 (Z "not_equal_witness") then (cmOf tm_2 c96 (Z "not_equal_witness") [D.obj c96 fs97,lead]).bind fun x98=>
(wbs past_78 part).bind fun x99=>
(cmpD .NotEq x98 x99).bind fun b100=>
if b100 then some true else (some false) else none) else none) else none).bind fun b101=>
if b101 then ((unop .USub (D.int 1)).bind fun x102=>
ret x102) else (next ())
noncomputable def wjh (c:D×D×D×D×D×List D×D×D×D×D×D×D) (s:Unit):List (Option Slot):=[some (.fz c.1),some (.fz c.2.1),some (.fz c.2.2.1),some (.fz c.2.2.2.1),some (.fz c.2.2.2.2.1),some (.own (.list c.2.2.2.2.2.1)),some (.fz c.2.2.2.2.2.2.1),some (.fz c.2.2.2.2.2.2.2.1),some (.fz c.2.2.2.2.2.2.2.2.1),some (.fz c.2.2.2.2.2.2.2.2.2.1),some (.fz c.2.2.2.2.2.2.2.2.2.2.1),some (.fz c.2.2.2.2.2.2.2.2.2.2.2),none,none,none,none,none,none,none]
noncomputable def wcM (c:D×D×D×D×D×List D×D×D×D×D×D×D) (s:Unit):QV:=zq waX (wjh c s)
noncomputable def weV (q:QV):Option ((D×D×D×D×D×List D×D×D×D×D×D×D)×(Unit)):=nqK waX q fun l=>uF l fun v0 l=>uF l fun v1 l=>uF l fun v2 l=>uF l fun v3 l=>uF l fun v4 l=>uL l fun v5 l=>uF l fun v6 l=>uF l fun v7 l=>uF l fun v8 l=>uF l fun v9 l=>uF l fun v10 l=>uF l fun v11 l=>uN l fun l=>uN l fun l=>uN l fun l=>uN l fun l=>uN l fun l=>uN l fun l=>uN l fun l=>uE l ((v0,v1,v2,v3,v4,v5,v6,v7,v8,v9,v10,v11),())
theorem wgI (q:QV) (x:((D×D×D×D×D×List D×D×D×D×D×D×D)×(Unit))) (h:weV q=some x):q=wcM x.1 x.2:=nqE h fun l h=>by
 apply uFM h;clear h;intro v0 l h;apply uFM h;clear h;intro v1 l h;apply uFM h;clear h;intro v2 l h;apply uFM h;clear h;intro v3 l h;apply uFM h;clear h;intro v4 l h;apply uLM h;clear h;intro v5 l h;apply uFM h;clear h;intro v6 l h;apply uFM h;clear h;intro v7 l h;apply uFM h;clear h;intro v8 l h;apply uFM h;clear h;intro v9 l h;apply uFM h;clear h;intro v10 l h;apply uFM h;clear h;intro v11 l h;apply uNM h;clear h;intro l h;apply uNM h;clear h;intro l h;apply uNM h;clear h;intro l h;apply uNM h;clear h;intro l h;apply uNM h;clear h;intro l h;apply uNM h;clear h;intro l h;apply uNM h;clear h;intro l h;apply uEM h;clear h;intro h;rw [<- h];rfl
noncomputable def wc0:Stmt:=((forB ((forB (wad.body.getD 1 stD)).getD 3 stD)).getD 5 stD)
noncomputable def wf2 (c:D×D×D×D×D×List D×D×D×D×D×D×D):=wbj c.1 c.2.1 c.2.2.1 c.2.2.2.1 c.2.2.2.2.1 c.2.2.2.2.2.1 c.2.2.2.2.2.2.1 c.2.2.2.2.2.2.2.1 c.2.2.2.2.2.2.2.2.1 c.2.2.2.2.2.2.2.2.2.1 c.2.2.2.2.2.2.2.2.2.2.1 c.2.2.2.2.2.2.2.2.2.2.2
noncomputable def wf7:Hd:=mkF T01 (cfOf tf_2) (cmOf tm_2) 20 wad.scope wc0 weV wcM wf2
theorem wiB:LEq tf_2 tm_2 wad wc0 [] wcM wf2:=by
 intro c s x next brk ret
 kernel_rfl!
theorem wiG:FOk T01 56 wad.scope wc0 wf7:=wa2 wg7 wgI wiB trivial
noncomputable def wbi (runs:D) (short:D) (most:D) (before:D) (width:D) (kinds:List D) (some':D) (pairs:D) (start:D) (part:D) (lead:D) (alike:D) (s:D) (d:D) (next brk:D->Option D) (ret:D->Option D):Option D:=
(toKey d).bind fun k105=>
(waR s (D.dict [(k105,(D.tuple [(D.int 1),d]))])).bind fun x106=>
next x106
noncomputable def wjg (c:D×D×D×D×D×List D×D×D×D×D×D×D) (s:D):List (Option Slot):=[some (.fz c.1),some (.fz c.2.1),some (.fz c.2.2.1),some (.fz c.2.2.2.1),some (.fz c.2.2.2.2.1),some (.own (.list c.2.2.2.2.2.1)),some (.fz c.2.2.2.2.2.2.1),some (.fz c.2.2.2.2.2.2.2.1),some (.fz c.2.2.2.2.2.2.2.2.1),some (.fz c.2.2.2.2.2.2.2.2.2.1),some (.fz c.2.2.2.2.2.2.2.2.2.2.1),some (.fz c.2.2.2.2.2.2.2.2.2.2.2),none,none,none,some (.fz s),none,none,none]
noncomputable def wcL (c:D×D×D×D×D×List D×D×D×D×D×D×D) (s:D):QV:=zq waX (wjg c s)
noncomputable def weU (q:QV):Option ((D×D×D×D×D×List D×D×D×D×D×D×D)×(D)):=nqK waX q fun l=>uF l fun v0 l=>uF l fun v1 l=>uF l fun v2 l=>uF l fun v3 l=>uF l fun v4 l=>uL l fun v5 l=>uF l fun v6 l=>uF l fun v7 l=>uF l fun v8 l=>uF l fun v9 l=>uF l fun v10 l=>uF l fun v11 l=>uN l fun l=>uN l fun l=>uN l fun l=>uF l fun v15 l=>uN l fun l=>uN l fun l=>uN l fun l=>uE l ((v0,v1,v2,v3,v4,v5,v6,v7,v8,v9,v10,v11),v15)
theorem wgH (q:QV) (x:((D×D×D×D×D×List D×D×D×D×D×D×D)×(D))) (h:weU q=some x):q=wcL x.1 x.2:=nqE h fun l h=>by
 apply uFM h;clear h;intro v0 l h;apply uFM h;clear h;intro v1 l h;apply uFM h;clear h;intro v2 l h;apply uFM h;clear h;intro v3 l h;apply uFM h;clear h;intro v4 l h;apply uLM h;clear h;intro v5 l h;apply uFM h;clear h;intro v6 l h;apply uFM h;clear h;intro v7 l h;apply uFM h;clear h;intro v8 l h;apply uFM h;clear h;intro v9 l h;apply uFM h;clear h;intro v10 l h;apply uFM h;clear h;intro v11 l h;apply uNM h;clear h;intro l h;apply uNM h;clear h;intro l h;apply uNM h;clear h;intro l h;apply uFM h;clear h;intro v15 l h;apply uNM h;clear h;intro l h;apply uNM h;clear h;intro l h;apply uNM h;clear h;intro l h;apply uEM h;clear h;intro h;rw [<- h];rfl
noncomputable def wcZ:Stmt:=((forB ((forB (wad.body.getD 1 stD)).getD 3 stD)).getD 7 stD)
noncomputable def wf1 (c:D×D×D×D×D×List D×D×D×D×D×D×D):=wbi c.1 c.2.1 c.2.2.1 c.2.2.2.1 c.2.2.2.2.1 c.2.2.2.2.2.1 c.2.2.2.2.2.2.1 c.2.2.2.2.2.2.2.1 c.2.2.2.2.2.2.2.2.1 c.2.2.2.2.2.2.2.2.2.1 c.2.2.2.2.2.2.2.2.2.2.1 c.2.2.2.2.2.2.2.2.2.2.2
noncomputable def wf6:Hd:=mkF T01 (cfOf tf_2) (cmOf tm_2) 20 wad.scope wcZ weU wcL wf1
theorem wiA:LEq tf_2 tm_2 wad wcZ [] wcL wf1:=by
 intro c s x next brk ret
 kernel_rfl!
theorem wiF:FOk T01 56 wad.scope wcZ wf6:=wa2 wg7 wgH wiA trivial
noncomputable def wdG (x39:D) (m122:List (Key×D)) (s108:D) (x40:D) (width:D) (ret:D->Option D) (s:List D) (next:List D->Option D):Option D:=
(bfn .max [x39]).bind fun x123=>
(binop .Add x123 (D.int 1)).bind fun x124=>
(rangeD [x124]).bind fun l125=>
if l125.length<=cap then (compQ (fun d126=>some true) (fun d126=>dictK (D.dict m122) fun t127=>
(mfn (D.dict t127) .get [d126,(D.tuple [(D.int 0),(D.int 0)])]).bind fun x128=>
(sub x128 (D.int 0)).bind fun x129=>
some x129) l125).bind fun l130=>
(bfn .tuple [(D.list l130)]).bind fun x131=>
((cmpD .NotEq s108 (D.dict m122)).bind fun b132=>
if b132 then some true else ((attrQ T01 x40 (Z "norm")).bind fun x133=>
(cmpD .NotEq x133 (D.tuple [x131,(D.int 0)])).bind fun b134=>
if b134 then some true else ((attrQ T01 x40 (Z "n")).bind fun x135=>
(attrQ T01 x40 (Z "nt")).bind fun x136=>
(bfn .sum [x39]).bind fun x137=>
(binop .Add x137 width).bind fun x138=>
(cmpD .NotEq (D.tuple [x135,x136]) (D.tuple [x138,width])).bind fun b139=>
if b139 then some true else (some false)))).bind fun b140=>
if b140 then ((unop .USub (D.int 1)).bind fun x141=>
ret x141) else (if s.length<=cap then next (s++[(D.tuple [x39,x40])]) else none) else none
noncomputable def wdH (x39:D) (s108:D) (x40:D) (width:D) (ret:D->Option D) (s:List D) (next:List D->Option D):Option D:=
(keysOf x39).bind fun l109=>
if l109.length<=cap then (compDQ (fun d110=>some true) (fun d110=>(toKey d110).bind fun k111=>
(keysOf x39).bind fun l112=>
if l112.length<=cap then (compQ (fun d113=>(cmpD .Eq d113 d110).bind fun b114=>
if b114 then (some true) else some false) (fun d113=>some (D.int 1)) l112).bind fun l115=>
(bfn .len [(D.list l115)]).bind fun x116=>
(keysOf x39).bind fun l117=>
if l117.length<=cap then (compQ (fun d118=>(cmpD .Eq d118 d110).bind fun b119=>
if b119 then (some true) else some false) (fun d118=>some d118) l117).bind fun l120=>
(bfn .sum [(D.list l120)]).bind fun x121=>
some (k111,(D.tuple [x116,x121])) else none else none) l109 []).bind fun m122=>
wdG x39 m122 s108 x40 width ret s next else none
noncomputable def wdI (x39:D) (runs:D) (short:D) (most:D) (before:D) (width:D) (s:List D) (some':D) (pairs:D) (d:D) (x40:D) (l49:List D) (ret:D->Option D) (next:List D->Option D):Option D:=
(keysOf x39).bind fun l107=>
if l107.length<=cap then forS (wbi runs short most before width s some' pairs d x39 x40 (D.list l49)) l107 (D.dict []) (fun s108=>
wdH x39 s108 x40 width ret s next) ret else none
noncomputable def wdJ (before:D) (runs:D) (short:D) (most:D) (width:D) (s:List D) (some':D) (pairs:D) (d:D) (x39:D) (x40:D) (l49:List D) (ret:D->Option D) (next:List D->Option D):Option D:=
listK before fun l103=>
if l103.length<=cap then forS (wbj runs short most before width s some' pairs d x39 x40 (D.list l49)) l103 () (fun s104=>
wdI x39 runs short most before width s some' pairs d x40 l49 ret next) ret else none
noncomputable def wdK (l49:List D) (next:List D->Option D) (s:List D) (before:D) (runs:D) (short:D) (most:D) (width:D) (some':D) (pairs:D) (d:D) (x39:D) (x40:D) (ret:D->Option D):Option D:=
(keysOf (D.list l49)).bind fun l73=>
if l73.length<=cap then (compQ (fun d74=>(cmpD .Is d74 (D.bool true)).bind fun b75=>
if b75 then (some true) else some false) (fun d74=>some (D.int 1)) l73).bind fun l76=>
(cmpD .NotEq (D.list l76) (D.list [])).bind fun b77=>
if b77 then (next s) else (wdJ before runs short most width s some' pairs d x39 x40 l49 ret next) else none
noncomputable def wbH (runs:D) (short:D) (most:D) (before:D) (width:D) (some':D) (pairs:D) (s:List D) (d:D) (next brk:List D->Option D) (ret:D->Option D):Option D:=
(binop .Add runs runs).bind fun x35=>
intK d fun i36=>
(binop .Add d width).bind fun x37=>
intK x37 fun i38=>
if boundOk (some i36)&&boundOk (some i38) then (cutD (some i36) (some i38) x35).bind fun x39=>
(waj x39 (D.str [])).bind fun x40=>
if s.length<=cap then (compQ (fun d41=>wau d41 fun past_42 other_43=>
some true) (fun d41=>wau d41 fun past_44 other_45=>
objK other_45 fun c46 fs47=>
if mOk T01 c46 fs47 (Z "equal") then (cmOf tm_2 c46 (Z "equal") [D.obj c46 fs47,x40]).bind fun x48=>
some x48 else none) s).bind fun l49=>
((keysOf (D.list l49)).bind fun l50=>
if l50.length<=cap then (compQ (fun d51=>((cmpD .IsNot d51 (D.bool true)).bind fun b52=>
if b52 then ((cmpD .IsNot d51 (D.bool false)).bind fun b53=>
if b53 then (some true) else some false) else some false).bind fun b54=>
if b54 then (some true) else some false) (fun d51=>some (D.int 1)) l50).bind fun l55=>
(cmpD .NotEq (D.list l55) (D.list [])).bind fun b56=>
if b56 then some true else (if boundOk none&&boundOk (some 1) then (cutD none (some 1) (D.list s)).bind fun x57=>
listK x57 fun l58=>
if l58.length<=cap then (compQ (fun d59=>wau d59 fun past_60 other_61=>
objK other_61 fun c62 fs63=>
if mOk T01 c62 fs63 (Z "not_equal_witness") then (cmOf tm_2 c62 (Z "not_equal_witness") [D.obj c62 fs63,x40]).bind fun x64=>
(wbs past_60 x39).bind fun x65=>
(cmpD .NotEq x64 x65).bind fun b66=>
if b66 then (some true) else some false else none) (fun d59=>wau d59 fun past_67 other_68=>
some (D.int 1)) l58).bind fun l69=>
(cmpD .NotEq (D.list l69) (D.list [])).bind fun b70=>
if b70 then some true else (some false) else none else none) else none).bind fun b71=>
if b71 then ((unop .USub (D.int 1)).bind fun x72=>
ret x72) else (wdK l49 next s before runs short most width some' pairs d x39 x40 ret) else none else none
noncomputable def wji (c:D×D×D×D×D×D×D) (s:List D):List (Option Slot):=[some (.fz c.1),some (.fz c.2.1),some (.fz c.2.2.1),some (.fz c.2.2.2.1),some (.fz c.2.2.2.2.1),some (.own (.list s)),some (.fz c.2.2.2.2.2.1),some (.fz c.2.2.2.2.2.2),none,none,none,none,none,none,none,none,none,none,none]
noncomputable def wcN (c:D×D×D×D×D×D×D) (s:List D):QV:=zq waX (wji c s)
noncomputable def weW (q:QV):Option ((D×D×D×D×D×D×D)×(List D)):=nqK waX q fun l=>uF l fun v0 l=>uF l fun v1 l=>uF l fun v2 l=>uF l fun v3 l=>uF l fun v4 l=>uL l fun v5 l=>uF l fun v6 l=>uF l fun v7 l=>uN l fun l=>uN l fun l=>uN l fun l=>uN l fun l=>uN l fun l=>uN l fun l=>uN l fun l=>uN l fun l=>uN l fun l=>uN l fun l=>uN l fun l=>uE l ((v0,v1,v2,v3,v4,v6,v7),v5)
theorem wgJ (q:QV) (x:((D×D×D×D×D×D×D)×(List D))) (h:weW q=some x):q=wcN x.1 x.2:=nqE h fun l h=>by
 apply uFM h;clear h;intro v0 l h;apply uFM h;clear h;intro v1 l h;apply uFM h;clear h;intro v2 l h;apply uFM h;clear h;intro v3 l h;apply uFM h;clear h;intro v4 l h;apply uLM h;clear h;intro v5 l h;apply uFM h;clear h;intro v6 l h;apply uFM h;clear h;intro v7 l h;apply uNM h;clear h;intro l h;apply uNM h;clear h;intro l h;apply uNM h;clear h;intro l h;apply uNM h;clear h;intro l h;apply uNM h;clear h;intro l h;apply uNM h;clear h;intro l h;apply uNM h;clear h;intro l h;apply uNM h;clear h;intro l h;apply uNM h;clear h;intro l h;apply uNM h;clear h;intro l h;apply uNM h;clear h;intro l h;apply uEM h;clear h;intro h;rw [<- h];rfl
noncomputable def wc1:Stmt:=((forB (wad.body.getD 1 stD)).getD 3 stD)
noncomputable def wf3 (c:D×D×D×D×D×D×D):=wbH c.1 c.2.1 c.2.2.1 c.2.2.2.1 c.2.2.2.2.1 c.2.2.2.2.2.1 c.2.2.2.2.2.2
noncomputable def wf8:Hd:=mkF T01 (cfOf tf_2) (cmOf tm_2) 20 wad.scope wc1 weW wcN wf3
theorem wiC:LEq tf_2 tm_2 wad wc1 [none,none,none,none,none,some wf7,none,some wf6,none,none,none,none] wcN wf3:=by
 intro c s x next brk ret
 kernel_rfl!
theorem wiH:FOk T01 56 wad.scope wc1 wf8:=wa2 wg7 wgJ wiC ⟨wiG,wiF,trivial⟩
noncomputable def wgb (runs:D) (short:D) (s:D×D) (d:D) (x2:D) (x3:D) (x5:D) (x7:D) (x10:D) (x12:D) (x15:D) (next:D×D->Option D) (ret:D->Option D):Option D:=
(bfn .len [runs]).bind fun x142=>
(rangeD [x142]).bind fun l143=>
if l143.length<=cap then forS (wbH runs short s.1 s.2 d x2 (D.list [(D.tuple [x3,x5,(D.bool false)]),(D.tuple [x7,x10,(D.bool false)]),(D.tuple [x12,x15,(D.bool true)])])) l143 [] (fun s144=>
(bfn .len [(D.list s144)]).bind fun x145=>
(bfn .max [s.1,x145]).bind fun x146=>
next (x146,(D.list s144))) ret else none
noncomputable def wbI (runs:D) (short:D) (s:D×D) (d:D) (next brk:D×D->Option D) (ret:D->Option D):Option D:=
intK d fun i1=>
if boundOk none&&boundOk (some i1) then (cutD none (some i1) runs).bind fun x2=>
(waj x2 (D.str [32])).bind fun x3=>
(binop .Add x2 (D.list [(D.int 0)])).bind fun x4=>
(waj x4 (D.str [])).bind fun x5=>
(binop .Mult (D.list [(D.int 0)]) d).bind fun x6=>
(waj x6 (D.str [])).bind fun x7=>
(binop .Add d (D.int 1)).bind fun x8=>
(binop .Mult (D.str [32]) x8).bind fun x9=>
(waj (D.list []) x9).bind fun x10=>
(binop .Mult (D.str [32]) d).bind fun x11=>
(waj (D.list []) x11).bind fun x12=>
(binop .Add d (D.int 1)).bind fun x13=>
(binop .Mult (D.list [(D.int 0)]) x13).bind fun x14=>
(waj x14 (D.str [])).bind fun x15=>
if [(D.tuple [x3,x5,(D.bool false)]),(D.tuple [x7,x10,(D.bool false)]),(D.tuple [x12,x15,(D.bool true)])].length<=cap then (compQ (fun d16=>wnd d16 fun one_17 two_18 less_19=>
(objK one_17 fun c20 fs21=>
if mOk T01 c20 fs21 (Z "less") then (cmOf tm_2 c20 (Z "less") [D.obj c20 fs21,two_18]).bind fun x22=>
(cmpD .IsNot x22 less_19).bind fun b23=>
if b23 then some true else (objK one_17 fun c24 fs25=>
if mOk T01 c24 fs25 (Z "equal") then (cmOf tm_2 c24 (Z "equal") [D.obj c24 fs25,two_18]).bind fun x26=>
(cmpD .IsNot x26 (D.bool false)).bind fun b27=>
if b27 then some true else (some false) else none) else none).bind fun b28=>
if b28 then (some true) else some false) (fun d16=>wnd d16 fun one_29 two_30 less_31=>
some (D.int 1)) [(D.tuple [x3,x5,(D.bool false)]),(D.tuple [x7,x10,(D.bool false)]),(D.tuple [x12,x15,(D.bool true)])]).bind fun l32=>
(cmpD .NotEq (D.list l32) (D.list [])).bind fun b33=>
if b33 then ((unop .USub (D.int 1)).bind fun x34=>
ret x34) else (wgb runs short s d x2 x3 x5 x7 x10 x12 x15 next ret) else none else none
noncomputable def wjj (c:D×D) (s:D×D):List (Option Slot):=[some (.fz c.1),some (.fz c.2),some (.fz s.1),some (.fz s.2),none,none,none,none,none,none,none,none,none,none,none,none,none,none,none]
noncomputable def wcO (c:D×D) (s:D×D):QV:=zq waX (wjj c s)
noncomputable def weX (q:QV):Option ((D×D)×(D×D)):=nqK waX q fun l=>uF l fun v0 l=>uF l fun v1 l=>uF l fun v2 l=>uF l fun v3 l=>uN l fun l=>uN l fun l=>uN l fun l=>uN l fun l=>uN l fun l=>uN l fun l=>uN l fun l=>uN l fun l=>uN l fun l=>uN l fun l=>uN l fun l=>uN l fun l=>uN l fun l=>uN l fun l=>uN l fun l=>uE l ((v0,v1),(v2,v3))
theorem wgK (q:QV) (x:((D×D)×(D×D))) (h:weX q=some x):q=wcO x.1 x.2:=nqE h fun l h=>by
 apply uFM h;clear h;intro v0 l h;apply uFM h;clear h;intro v1 l h;apply uFM h;clear h;intro v2 l h;apply uFM h;clear h;intro v3 l h;apply uNM h;clear h;intro l h;apply uNM h;clear h;intro l h;apply uNM h;clear h;intro l h;apply uNM h;clear h;intro l h;apply uNM h;clear h;intro l h;apply uNM h;clear h;intro l h;apply uNM h;clear h;intro l h;apply uNM h;clear h;intro l h;apply uNM h;clear h;intro l h;apply uNM h;clear h;intro l h;apply uNM h;clear h;intro l h;apply uNM h;clear h;intro l h;apply uNM h;clear h;intro l h;apply uNM h;clear h;intro l h;apply uNM h;clear h;intro l h;apply uEM h;clear h;intro h;rw [<- h];rfl
noncomputable def wc2:Stmt:=(wad.body.getD 1 stD)
noncomputable def wf4 (c:D×D):=wbI c.1 c.2
noncomputable def wf9:Hd:=mkF T01 (cfOf tf_2) (cmOf tm_2) 20 wad.scope wc2 weX wcO wf4
theorem wiD:LEq tf_2 tm_2 wad wc2 [none,none,none,some wf8,none] wcO wf4:=by
 intro c s x next brk ret
 kernel_rfl!
theorem wiI:FOk T01 56 wad.scope wc2 wf9:=wa2 wg7 wgK wiD ⟨wiH,trivial⟩
noncomputable def wbO (runs:D) (short:D):Option D:=
(bfn .len [runs]).bind fun x147=>
(binop .FloorDiv x147 (D.int 2)).bind fun x148=>
(binop .Add x148 (D.int 1)).bind fun x149=>
(rangeD [(D.int 1),x149]).bind fun l150=>
if l150.length<=cap then forS (wbI runs short) l150 ((D.int 0),(D.list [])) (fun s151=>
some s151.1) some else none
noncomputable def we1 (ds:List D):Option D:=a2 wbO ds
noncomputable def wd3:List Str:=[(Z "most"),(Z "before"),(Z "width"),(Z "kinds"),(Z "some"),(Z "pairs"),(Z "start"),(Z "part"),(Z "lead"),(Z "alike"),(Z "past"),(Z "other"),(Z "fewer"),(Z "book"),(Z "run"),(Z "due"),(Z "norm")]
noncomputable def wd8:List (Option Hd):=[none,some wf9,none]
theorem wiY (runs short:D):runQ T01 (cfOf tf_2) (cmOf tm_2) 20 wad wd8 wd3 [runs,short]=wbO runs short:=by
 kernel_rfl!
theorem wkB:FnGood T01 (Z "_law_nanny") we1 84:=
 wbh (f:=(Z "_law_nanny")) (s:=we1) (n:=20) (hs:=wd8) (ls:=wd3) (d:=wad) wg7 (by kernel_rfl!) (⟨wiI,trivial⟩) (fun args r e=>a2M (M:=fun ds=>wad.params.length=ds.length/\runQ T01 (cfOf tf_2) (cmOf tm_2) 20 wad wd8 wd3 ds=some r) e fun a b e=>⟨(by kernel_rfl!:wad.params.length=2),(wiY a b).trans e⟩)
noncomputable def tf_3:TF:=[((Z "_law_nanny"),we1)]++tf_2
noncomputable def tm_3:TM:=[]++tm_2
theorem ww3:AllF T01 84 tf_3:=⟨wkB,wsu.mono (by decide)⟩
theorem ww1:AllM T01 84 tm_3:=wss.mono (by decide)
theorem wwo:CGood T01 (cfOf tf_3) (cmOf tm_3) 84:=wif ww3 ww1
noncomputable def wkM:Def:=(T01.fns.lookup (Z "law")).getD dumD
noncomputable def wij (x33:D) (short_5:D) (way_6:D) (x38:D) (x45:D):Option D:=
(keysOf x33).bind fun l46=>
if l46.length<=cap then (compQ (fun d47=>some true) (fun d47=>(bfn .len [d47]).bind fun x48=>
some x48) l46).bind fun l49=>
(wbO (D.list l49) short_5).bind fun x50=>
(wbg x33 way_6).bind fun x51=>
(wbg x38 way_6).bind fun x52=>
(wbE x38).bind fun x53=>
((unop .USub (D.int 1)).bind fun x54=>
(cmpD .NotIn x54 (D.list [x50,x51,x52,x53])).bind fun b55=>
if b55 then ((zipQ [(D.list [x50,x51,x52,x53]),(D.list [(D.int 3),(D.int 2),(D.int 2),(D.int 2)])]).bind fun l56=>
if l56.length<=cap then (compQ (fun d57=>wau d57 fun answer_58 due_59=>
some true) (fun d57=>wau d57 fun answer_60 due_61=>
(cmpD .Lt answer_60 due_61).bind fun b62=>
some (D.bool b62)) l56).bind fun l63=>
(binop .Mult (D.list [x45]) (D.int 4)).bind fun x64=>
(cmpD .Eq (D.list l63) x64).bind fun b65=>
some (D.bool b65) else none) else some (D.bool false)).bind fun x66=>
some x66 else none
noncomputable def wik (ring_2:D) (short_5:D) (x33:D) (way_6:D) (x38:D):Option D:=
(keysOf ring_2).bind fun l39=>
if l39.length<=cap then (compQ (fun d40=>some true) (fun d40=>((bfn .len [d40]).bind fun x41=>
(cmpD .Gt x41 short_5).bind fun b42=>
if b42 then (some (D.int 1)) else (some (D.int 0))).bind fun x43=>
some x43) l39).bind fun l44=>
(wbP (D.list l44)).bind fun x45=>
wij x33 short_5 way_6 x38 x45 else none
noncomputable def wil (l25:List D) (ring_2:D) (short_5:D) (way_6:D):Option D:=
(unop .USub (D.int 1)).bind fun x31=>
intK x31 fun i32=>
if boundOk none&&boundOk (some i32) then (cutD none (some i32) (D.list l25)).bind fun x33=>
strK (D.str []) fun t34=>
(unop .USub (D.int 1)).bind fun x35=>
intK x35 fun i36=>
if boundOk none&&boundOk (some i36) then (cutD none (some i36) (D.list l25)).bind fun x37=>
(mfn (D.str t34) .join [x37]).bind fun x38=>
wik ring_2 short_5 x33 way_6 x38 else none else none
noncomputable def wmj (typed_3:D) (veils_4:D) (ring_2:D) (short_5:D) (way_6:D):Option D:=
(zipQ [typed_3,veils_4]).bind fun l17=>
if l17.length<=cap then (compQ (fun d18=>wau d18 fun sign_19 veil_20=>
boolK veil_20 fun b21=>
if (!b21) then (some true) else some false) (fun d18=>wau d18 fun sign_22 veil_23=>
(wa8 sign_22).bind fun x24=>
some x24) l17).bind fun l25=>
(unop .USub (D.int 1)).bind fun x26=>
intK x26 fun i27=>
if boundOk (some i27)&&boundOk none then (cutD (some i27) none typed_3).bind fun x28=>
(binop .Add ring_2 x28).bind fun x29=>
(cmpD .NotEq (D.list l25) x29).bind fun b30=>
if b30 then (some (D.bool false)) else (wil l25 ring_2 short_5 way_6) else none else none
noncomputable def wju (script:D):Option D:=
(wb3 script).bind fun x1=>
wq5 x1 fun ring_2 typed_3 veils_4 short_5 way_6=>
(zipQ [typed_3,veils_4]).bind fun l7=>
if l7.length<=cap then (compQ (fun d8=>wau d8 fun sign_9 veil_10=>
(wbf sign_9).bind fun x11=>
(cmpD .IsNot x11 veil_10).bind fun b12=>
if b12 then (some true) else some false) (fun d8=>wau d8 fun sign_13 veil_14=>
some (D.int 1)) l7).bind fun l15=>
(cmpD .NotEq (D.list l15) (D.list [])).bind fun b16=>
if b16 then (some (D.bool false)) else (wmj typed_3 veils_4 ring_2 short_5 way_6) else none
noncomputable def a_law (ds:List D):Option D:=a1 wju ds
noncomputable def wnF:List Str:=[(Z "ring"),(Z "typed"),(Z "veils"),(Z "short"),(Z "way"),(Z "folds"),(Z "told"),(Z "text"),(Z "even"),(Z "answers")]
noncomputable def wnQ:List (Option Hd):=[]
theorem wrg (script:D):runQ T01 (cfOf tf_3) (cmOf tm_3) 20 wkM wnQ wnF [script]=wju script:=by
 kernel_rfl!
theorem good_law:FnGood T01 (Z "law") a_law 112:=
 wbh (f:=(Z "law")) (s:=a_law) (n:=20) (hs:=wnQ) (ls:=wnF) (d:=wkM) wwo (by kernel_rfl!) (trivial) (fun args r e=>a1M (M:=fun ds=>wkM.params.length=ds.length/\runQ T01 (cfOf tf_3) (cmOf tm_3) 20 wkM wnQ wnF ds=some r) e fun a e=>⟨(by kernel_rfl!:wkM.params.length=1),(wrg a).trans e⟩)
end Mine.Py
end
section
open PySem PySem.W PyProof.Rows PySem.Calls
theorem Mine.join01 (value:∀ xs:List Int,xs.length<=63->Mine.Py.a_law [.list (xs.map .int)]=some (.bool true)):PySem.Challenge.rw_xb0039_01.Holds:=by
 w_on
 refine holds_law (by decide +kernel) fun said=>?_
 refine holds_open (q:=Mine.lawQ) (loose:=Mine.looseQ) (Xt:=fun _=>true) (XP:=fun _ _=>True) (Yf:=Hook.obs Mine.hookK) (Ya:=Hook.val Mine.hookK) (YP:=Hook.says Mine.hookK) (N:=60000) Mine.left_top (Hook.of Mine.hookK) (Hook.keeps Mine.hookK) (fun _ _=>trivial) (fun _ _ _ _ _=>trivial)
  (by rfl) (by rfl) (by rfl) (fun s e=>recFacts_of (R:=[]) rfl) rfl (by first | assumption | decide +kernel) (by decide +kernel) ⟨rfl,rfl,rfl,rfl,rfl,by decide +kernel⟩ ?hw ?hc
 case hw=>w_witness2
 case hc=>
  exact Mine.Py.law_walk (PT:=115) (cad:=Mine.cadL) (T:=Mine.Py.T01) (KL:=Mine.fragL) rfl rfl rfl Mine.tab_is (fun w s₀ mg mb h G Y C e=>e ▸ Mine.site w s₀ mg mb h G Y) Mine.tab_ok Mine.Py.good_law value
end
section
namespace Mine.Py
open PySem
noncomputable def bump:Nat->List Nat->List Nat
 | b,[]=>List.replicate b 0++[1]
 | 0,c::r=>(c+1)::r
 | b+1,c::r=>c::bump b r
theorem wgv:∀ (b:Nat) (l:List Nat),(bump b l).length=max l.length (b+1)
 | b,[]=>by simp [bump]
 | 0,c::r=>by simp [bump]
 | b+1,c::r=>by simp only [bump,List.length_cons,wgv b r];omega
theorem wqc:∀ (b:Nat) (l:List Nat) (h:b<l.length),bump b l=l.set b (l[b]+1)
 | b,[],h=>by simp at h
 | 0,c::r,h=>by simp [bump]
 | b+1,c::r,h=>by
  simp only [bump,List.set_cons_succ,List.getElem_cons_succ]
  rw [wqc b r (by simpa using h)]
theorem woj:∀ (b:Nat) (l:List Nat),l.length<=b->bump b l=l++List.replicate (b - l.length) 0++[1]
 | b,[],h=>by simp [bump]
 | 0,c::r,h=>by simp at h
 | b+1,c::r,h=>by
  simp only [bump]
  rw [woj b r (by simpa using h)]
  simp
noncomputable abbrev WS:=List Nat×Nat×Nat×Nat
noncomputable def wemb (s:WS):List D×D×D×D:=(s.1.map nD,nD s.2.1,nD s.2.2.1,nD s.2.2.2)
noncomputable def wstep (s:WS) (c:Nat):WS:=if c=32 then (s.1,s.2.1+1,s.2.2.1+1,s.2.2.2) else (bump s.2.1 s.1,0,s.2.2.1+1,s.2.2.2+1)
theorem wgy (k:Nat):List.replicate k (D.int 0)=(List.replicate k 0).map nD:=by simp [nD]
theorem wsx (ws raw:D) (s:WS) (n b:List D×D×D×D->Option D) (r:D->Option D) :
  was ws (.str [32]) (.str [9]) raw (wemb s) (.str [32]) n b r=n (wemb (wstep s 32)):=by
 unfold was
 rw [show cmpD .Eq (.str [32]) (.str [32])=some true from by decide +kernel]
 rfl
theorem wvE (ws raw:D) (s:WS) (n b:List D×D×D×D->Option D) (r:D->Option D) (h:s.2.1<5000) (hl:s.1.length<=5000) :
  was ws (.str [32]) (.str [9]) raw (wemb s) (.str [9]) n b r=n (wemb (wstep s 9)):=by
 obtain ⟨cnt,k,m,t⟩:=s
 have h:k<5000:=h
 have hl:cnt.length<=5000:=hl
 have hlen:bfn .len [.list (cnt.map nD)]=some (nD cnt.length):=(wi6 (by rw [List.length_map];exact Nat.le_trans hl (by decide))).trans (by rw [List.length_map])
 have e3:cmpD .GtE (nD k) (nD cnt.length)=some (decide (cnt.length<=k)):=(ge_int _ _).trans (congrArg some (decide_eq_decide.mpr Int.ofNat_le))
 have hk1:k<100000:=Nat.lt_trans h (by decide)
 show was ws _ _ raw (cnt.map nD,nD k,nD m,nD t) _ n b r=n ((bump k cnt).map nD,nD 0,nD (m+1),nD (t+1))
 unfold was
 refine bnS (a:=false) (by decide +kernel) (ifF (bnS (a:=true) (by decide +kernel) (ifT (bnS (a:=nD (m+1)) rfl (bnS (a:=nD (t+1)) rfl (bnS hlen (bnS e3 ?_)))))))
 by_cases hk:cnt.length<=k
 ·have hn:(cnt++List.replicate (k - cnt.length+1) 0).length=k+1:=by rw [List.length_append,List.length_replicate,<- Nat.add_assoc,Nat.add_sub_cancel' hk]
  have e4:binop .Sub (nD k) (nD cnt.length)=some (nD (k - cnt.length)):=(sub_int _ _).trans (congrArg (fun z=>some (D.int z)) (Int.ofNat_sub hk).symm)
  have e6:binop .Mult (.list [.int 0]) (nD (k - cnt.length+1))=some (.list ((List.replicate (k - cnt.length+1) 0).map nD)):=by
   show (if _ then _ else _)=_
   rw [if_pos ⟨rfl,by omega,by omega⟩,<- wgy];rfl
  have e7:catQ (.list (cnt.map nD)) (.list ((List.replicate (k - cnt.length+1) 0).map nD))=some ((cnt++List.replicate (k - cnt.length+1) 0).map nD):=by
   refine (if_pos ?_).trans (by rw [List.map_append])
   rw [List.length_map,List.length_map,<- List.length_append,hn];exact Nat.le_trans (Nat.succ_le_of_lt h) (by decide)
  have e8:((cnt++List.replicate (k - cnt.length+1) 0).map nD)[k]?=some (nD 0):=by
   rw [List.getElem?_map,List.getElem?_append_right hk,List.getElem?_replicate,if_pos (Nat.lt_succ_self _)];rfl
  have e10:((cnt++List.replicate (k - cnt.length+1) 0).map nD).set k (nD 1)=(bump k cnt).map nD:=by
   rw [<- List.map_set,woj _ _ hk]
   congr 1
   rw [List.set_append_right _ _ hk,List.append_assoc]
   congr 1
   rw [List.replicate_succ',List.set_append_right _ _ (by simp)]
   simp
  rw [<- e10]
  exact ifP (decide_eq_true hk) (bnS hlen (bnS e4 (bnS (a:=nD (k - cnt.length+1)) rfl (bnS e6 (bnS e7 (bnS (wey hk1 e8) (bnS (a:=nD 1) rfl (bnS (woV _ (by rw [List.length_map,hn];exact Nat.lt_succ_self k) (by rw [List.length_map,hn];exact Nat.le_trans (Nat.succ_le_of_lt h) (by decide))) rfl))))))))
 ·have hk':k<cnt.length:=Nat.not_le.mp hk
  have e8:(cnt.map nD)[k]?=some (nD cnt[k]):=by rw [List.getElem?_map,List.getElem?_eq_getElem hk'];rfl
  rw [wqc _ _ hk',List.map_set]
  exact ifN (fun e=>hk (of_decide_eq_true e)) (bnS (wey hk1 e8) (bnS (a:=nD (cnt[k]+1)) rfl (bnS (woV _ (by rw [List.length_map];exact hk') (by rw [List.length_map];exact Nat.le_trans hl (by decide))) rfl)))
theorem wuc (ws raw:D) (s:WS) (n b:List D×D×D×D->Option D) (r:D->Option D) :
  was ws (.str [32]) (.str [9]) raw (wemb s) (.str [120]) n b r=b (wemb s):=by
 unfold was
 rw [show cmpD .Eq (.str [120]) (.str [32])=some false from by decide +kernel,show cmpD .Eq (.str [120]) (.str [9])=some false from by decide +kernel]
 rfl
theorem wkZ (ws raw:D) (rest:Tx) {next:List D×D×D×D->Option D} {ret:D->Option D}:∀ (l:Tx) (s:WS),(∀ c∈l,c=32\/c=9)->s.2.1+l.length<5000->s.1.length<=5000 ->
  forS (was ws (.str [32]) (.str [9]) raw) (chars (l++120::rest)) (wemb s) next ret=next (wemb (l.foldl wstep s))
 | [],s,_,_,_=>by
  show was ws (.str [32]) (.str [9]) raw (wemb s) (.str [120]) _ _ _=_
  rw [wuc];rfl
 | c::l,s,hc,hb,hl=>by
  show was ws (.str [32]) (.str [9]) raw (wemb s) (.str [c]) (fun s'=>forS _ (chars (l++120::rest)) s' next ret) _ _=_
  simp only [List.length_cons]at hb
  rcases hc c (by simp) with rfl | rfl
  ·rw [wsx,wkZ ws raw rest l _ (fun c h=>hc c (by simp [h])) (by simp only [wstep,if_true];omega) (by simpa [wstep] using hl)]
   rfl
  ·rw [wvE _ _ _ _ _ _ (by omega) hl,wkZ ws raw rest l _ (fun c h=>hc c (by simp [h])) (by simp [wstep];omega) (by simp [wstep,wgv];omega)]
   rfl
noncomputable def wD (raw:Tx) (s:WS):D:=.obj (Str.ofString "Whitespace") [((Str.ofString "raw"),.str raw),((Str.ofString "n"),nD s.2.2.1),((Str.ofString "nt"),nD s.2.2.2),((Str.ofString "norm"),.tuple [.tuple (s.1.map nD),nD s.2.1]),((Str.ofString "is_simple"),.bool (decide (s.1.length<=1)))]
theorem wnU:∀ (l:Tx) (s:WS),s.2.1+l.length<5000->s.1.length<=5000->(l.foldl wstep s).1.length<=5000
 | [],s,_,h=>h
 | c::l,s,hb,hl=>by
  simp only [List.length_cons]at hb
  simp only [List.foldl_cons]
  refine wnU l _ ?_ ?_
  ·unfold wstep;split<;>simp<;>omega
  ·unfold wstep;split
   ·exact hl
   ·simp only [wgv];omega
theorem wxo (l rest:Tx) (hc:∀ c∈l,c=32\/c=9) (hl:l.length<5000) (hr:rest.length<4000) :
  wbQ (.str (l++120::rest))=some (wD (l++120::rest) (l.foldl wstep ([],0,0,0))):=by
 unfold wbQ
 show (some (chars (l++120::rest))).bind _=_
 simp only [Option.bind_some]
 rw [if_pos (by simp only [chars,List.length_map,List.length_append,List.length_cons,waf];omega)]
 have e:=fun next ret=>wkZ (.str (l++120::rest)) (.str (l++120::rest)) rest (next:=next) (ret:=ret) l ([],0,0,0) hc (by simpa using hl) (by simp)
 have fl:=wnU l ([],0,0,0) (by simpa using hl) (by simp)
 rw [show (([],.int 0,.int 0,.int 0):List D×D×D×D)=wemb ([],0,0,0) from rfl,e]
 generalize l.foldl wstep ([],0,0,0)=s at fl
 simp only [wemb]
 have e1:bfn .tuple [.list (s.1.map nD)]=some (.tuple (s.1.map nD)):=by
  show (if _ then _ else _)=_
  rw [if_pos (by simp only [List.length_map,waf];omega)]
 have e2:bfn .len [.list (s.1.map nD)]=some (nD s.1.length):=by rw [wi6 (by simp only [List.length_map,waf];omega)];simp [nD]
 have e3:cmpD .LtE (nD s.1.length) (.int 1)=some (decide (s.1.length<=1)):=by
  rw [le_int];congr 1;simp;omega
 rw [e1,e2]
 simp only [Option.bind_some]
 rw [e3]
 rfl
noncomputable abbrev wN:Str:=Str.ofString "Whitespace"
noncomputable def wF (raw:Tx) (s:WS):List (Str×D):=[((Str.ofString "raw"),.str raw),((Str.ofString "n"),nD s.2.2.1),((Str.ofString "nt"),nD s.2.2.2),((Str.ofString "norm"),.tuple [.tuple (s.1.map nD),nD s.2.1]),((Str.ofString "is_simple"),.bool (decide (s.1.length<=1)))]
theorem obW {α:Type} {raw:Tx} {s:WS} {f:Str->List (Str×D)->Option α} {r:Option α} (k:f wN (wF raw s)=r):objK (wD raw s) f=r:=k
theorem wgM (raw:Tx) (s:WS):attrQ T01 (wD raw s) (Str.ofString "norm")=some (.tuple [.tuple (s.1.map nD),nD s.2.1]):=by kernel_rfl!
theorem w_n (raw:Tx) (s:WS):attrQ T01 (wD raw s) (Str.ofString "n")=some (nD s.2.2.1):=by kernel_rfl!
theorem w_nt (raw:Tx) (s:WS):attrQ T01 (wD raw s) (Str.ofString "nt")=some (nD s.2.2.2):=by kernel_rfl!
theorem wm9 (raw:Tx) (s:WS):attrQ T01 (wD raw s) (Str.ofString "is_simple")=some (.bool (decide (s.1.length<=1))):=by kernel_rfl!
theorem wxl (raw:Tx) (s:WS):mOk T01 wN (wF raw s) (Str.ofString "longest_run_of_spaces")=true:=by kernel_rfl!
theorem wxk (raw:Tx) (s:WS):mOk T01 wN (wF raw s) (Str.ofString "indent_level")=true:=by kernel_rfl!
theorem wt2 (raw:Tx) (s:WS):mOk T01 wN (wF raw s) (Str.ofString "equal")=true:=by kernel_rfl!
theorem wqh (raw:Tx) (s:WS):mOk T01 wN (wF raw s) (Str.ofString "less")=true:=by kernel_rfl!
theorem wt1 (raw:Tx) (s:WS):mOk T01 wN (wF raw s) (Str.ofString "not_equal_witness")=true:=by kernel_rfl!
theorem wvs (raw:Tx) (s:WS):cmOf tm_1 wN (Str.ofString "longest_run_of_spaces") [D.obj wN (wF raw s)]=wai (wD raw s):=by kernel_rfl!
theorem wwR (raw:Tx) (s:WS) (d:D):cmOf tm_1 wN (Str.ofString "indent_level") [D.obj wN (wF raw s),d]=waw (wD raw s) d:=by kernel_rfl!
theorem wua (raw:Tx) (s:WS) (d:D):cmOf tm_2 wN (Str.ofString "equal") [D.obj wN (wF raw s),d]=wa1 (wD raw s) d:=by kernel_rfl!
theorem wmi (raw:Tx) (s:WS) (d:D):cmOf tm_2 wN (Str.ofString "less") [D.obj wN (wF raw s),d]=wa6 (wD raw s) d:=by kernel_rfl!
theorem wsi (raw:Tx) (s:WS) (d:D):cmOf tm_2 wN (Str.ofString "not_equal_witness") [D.obj wN (wF raw s),d]=wah (wD raw s) d:=by kernel_rfl!
noncomputable def longI (s:WS):Int:=max ((s.1.length:Int) - 1) s.2.1
theorem wuW (raw:Tx) (s:WS) (h:s.1.length<=cap):wai (wD raw s)=some (.int (longI s)):=by
 unfold wai
 rw [wgM]
 simp only [Option.bind_some,wdS]
 rw [len_tuple (by simpa using h)]
 simp only [Option.bind_some,List.length_map]
 rw [sub_int,Option.bind_some,wid]
 rfl
noncomputable def vs (ts:Nat):Nat->List Nat->Nat
 | _,[]=>0
 | i,c::r=>i / ts * c+vs ts (i+1) r
theorem wna (ts:Nat):∀ (k i:Nat) (r:List Nat),vs ts i (List.replicate k 0++r)=vs ts (i+k) r
 | 0,i,r=>by simp
 | k+1,i,r=>by
  rw [List.replicate_succ,List.cons_append]
  simp only [vs,Nat.mul_zero,Nat.zero_add]
  rw [wna ts k (i+1) r]
  congr 1;omega
theorem woL (ts:Nat):∀ (b i:Nat) (l:List Nat),vs ts i (bump b l)=vs ts i l+(i+b) / ts
 | b,i,[]=>by simp only [bump];rw [wna];simp [vs]
 | 0,i,c::r=>by simp only [bump,vs,Nat.mul_add,Nat.mul_one,Nat.add_zero];omega
 | b+1,i,c::r=>by
  simp only [bump,vs]
  rw [woL ts b (i+1) r,show i+1+b=i+(b+1) by omega]
  omega
theorem wnb (ts:Nat) (l:List Nat):∀ (k i:Nat),i+k<=ts->vs ts i l=vs ts (i+k) (l.drop k)
 | 0,i,_=>by simp
 | k+1,i,h=>by
  cases l with
  | nil=>simp [vs]
  | cons c r=>
   simp only [vs,List.drop_succ_cons]
   rw [Nat.div_eq_of_lt (by omega),wnb ts r k (i+1) (by omega),show i+1+k=i+(k+1) by omega]
   omega
noncomputable def indN (s:WS) (ts:Nat):Nat:=s.2.1+ts * (vs ts 0 s.1+s.2.2.2)
theorem wtu (self:D) (ts:Nat) (hts:0<ts) (hts2:ts<10000) (cnt:List Nat) (hl:cnt.length<10000) (tr:D) (a il:Nat) (ha:a<cnt.length) (n b:D->Option D) (r:D->Option D) :
  wao self (nD ts) (.tuple (cnt.map nD)) tr (nD il) (nD a) n b r=n (nD (il+a / ts * cnt[a])):=by
 unfold wao
 rw [show nD a=D.int a from rfl,show nD ts=D.int ts from rfl,fdivN a hts (by omega)]
 simp only [Option.bind_some]
 rw [wmr (v:=nD cnt[a]) (by omega) (by rw [List.getElem?_map,List.getElem?_eq_getElem ha];rfl)]
 simp only [Option.bind_some]
 rw [mulN _ (by have:=Nat.div_le_self a ts;omega)]
 simp only [Option.bind_some]
 rw [show nD il=D.int il from rfl,addN]
 simp only [Option.bind_some]
theorem wnO (self:D) (ts:Nat) (hts:0<ts) (hts2:ts<10000) (cnt:List Nat) (hl:cnt.length<10000) (tr:D) {next:D->Option D} {ret:D->Option D}:∀ (k a il:Nat),a+k=cnt.length ->
  forS (wao self (nD ts) (.tuple (cnt.map nD)) tr) ((List.range' a k).map nD) (nD il) next ret=next (nD (il+vs ts a (cnt.drop a)))
 | 0,a,il,h=>by
  have:cnt.drop a=[]:=List.drop_eq_nil_of_le (by omega)
  rw [this];rfl
 | k+1,a,il,h=>by
  have ha:a<cnt.length:=by omega
  show wao self (nD ts) (.tuple (cnt.map nD)) tr (nD il) (nD a) (fun s'=>forS _ ((List.range' (a+1) k).map nD) s' next ret) next ret=_
  rw [wtu self ts hts hts2 cnt hl tr a il ha,wnO self ts hts hts2 cnt hl tr (next:=next) (ret:=ret) k (a+1) (il+a / ts * cnt[a]) (by omega)]
  have e:il+a / ts * cnt[a]+vs ts (a+1) (cnt.drop (a+1))=il+vs ts a (cnt.drop a):=by
   rw [List.drop_eq_getElem_cons ha]
   simp only [vs]
   omega
  rw [e]
theorem wwg (raw:Tx) (s:WS) (ts:Nat) (hl:s.1.length<10000) (hts:0<ts) (hts2:ts<10000):waw (wD raw s) (nD ts)=some (nD (indN s ts)):=by
 unfold waw
 rw [wgM]
 simp only [Option.bind_some,wdS]
 rw [len_tuple (by simp only [List.length_map,waf];omega)]
 simp only [Option.bind_some,List.length_map]
 rw [show nD ts=D.int ts from rfl,rangeN hl hts2]
 simp only [Option.bind_some]
 rw [if_pos (by simp only [List.length_map,List.length_range',waf];omega)]
 by_cases hc:ts<=s.1.length
 ·rw [show D.int (ts:Int)=nD ts from rfl,show D.int 0=nD 0 from rfl,wnO _ ts hts hts2 s.1 hl _ _ _ _ (by omega),w_nt]
  simp only [Option.bind_some]
  rw [show nD (0+vs ts ts (s.1.drop ts))=D.int ((0+vs ts ts (s.1.drop ts):Nat):Int) from rfl,show nD s.2.2.2=D.int (s.2.2.2:Int) from rfl,addN]
  simp only [Option.bind_some]
  rw [show nD ts=D.int ts from rfl,mulN _ (by omega)]
  simp only [Option.bind_some]
  rw [show nD s.2.1=D.int (s.2.1:Int) from rfl,addN]
  have e:=wnb ts s.1 ts 0 (by omega)
  rw [Nat.zero_add]at e
  unfold indN
  rw [e,Nat.zero_add];rfl
 ·rw [show s.1.length - ts=0 by omega]
  simp only [List.range'_zero,List.map_nil,forS]
  rw [w_nt]
  simp only [Option.bind_some]
  rw [show D.int 0=D.int ((0:Nat):Int) from rfl,show nD s.2.2.2=D.int (s.2.2.2:Int) from rfl,addN]
  simp only [Option.bind_some]
  rw [mulN _ (by omega)]
  simp only [Option.bind_some]
  rw [show nD s.2.1=D.int (s.2.1:Int) from rfl,addN]
  have e:=wnb ts s.1 s.1.length 0 (by omega)
  rw [List.drop_length]at e
  unfold indN
  rw [e];rfl
noncomputable def cntOf (gaps:List Nat):List Nat:=gaps.foldl (fun c g=>bump g c) []
noncomputable def ldS (gaps:List Nat) (beh:Nat):WS:=(cntOf gaps,beh,gaps.sum+gaps.length+beh,gaps.length)
noncomputable def gapT (g:Nat):Tx:=List.replicate g 32++[9]
noncomputable def ldT (gaps:List Nat) (beh:Nat):Tx:=(gaps.map gapT).flatten++List.replicate beh 32
theorem wfC:∀ (k:Nat) (s:WS),(List.replicate k 32).foldl wstep s=(s.1,s.2.1+k,s.2.2.1+k,s.2.2.2)
 | 0,s=>rfl
 | k+1,s=>by
  rw [List.replicate_succ,List.foldl_cons,wfC k]
  simp only [wstep,if_true]
  congr 2
  ·omega
  ·congr 1;omega
theorem wmJ:∀ (gaps:List Nat) (c:List Nat) (n t:Nat),((gaps.map gapT).flatten).foldl wstep (c,0,n,t)=(gaps.foldl (fun c g=>bump g c) c,0,n+gaps.sum+gaps.length,t+gaps.length)
 | [],c,n,t=>rfl
 | g::gaps,c,n,t=>by
  simp only [List.map_cons,List.flatten_cons,List.foldl_append]
  rw [gapT,List.foldl_append,wfC]
  have:List.foldl wstep (c,0+g,n+g,t) [9]=(bump g c,0,n+g+1,t+1):=by
   simp only [List.foldl_cons,List.foldl_nil,wstep]
   rw [if_neg (by decide),Nat.zero_add]
  rw [show ((c,0,n,t):WS).1=c from rfl,show ((c,0,n,t):WS).2.1=0 from rfl,show ((c,0,n,t):WS).2.2.1=n from rfl,show ((c,0,n,t):WS).2.2.2=t from rfl,this,wmJ gaps]
  simp only [List.foldl_cons,List.sum_cons,List.length_cons]
  congr 2
  congr 1
  ·omega
  ·omega
theorem wuY (gaps:List Nat) (beh:Nat):(ldT gaps beh).foldl wstep ([],0,0,0)=ldS gaps beh:=by
 unfold ldT
 rw [List.foldl_append,wmJ,wfC]
 simp only [ldS,cntOf]
 simp
theorem wwc (gaps:List Nat) (beh:Nat):∀ c∈ldT gaps beh,c=32\/c=9:=by
 intro c h
 unfold ldT at h
 simp only [List.mem_append,List.mem_flatten,List.mem_map,List.mem_replicate]at h
 rcases h with ⟨l,⟨g,hg,rfl⟩,h⟩ | h
 ·simp only [gapT,List.mem_append,List.mem_replicate,List.mem_singleton]at h
  rcases h with h | h
  ·exact .inl h.2
  ·exact .inr h
 ·exact .inl h.2
theorem wuZ (gaps:List Nat) (beh:Nat):(ldT gaps beh).length=gaps.sum+gaps.length+beh:=by
 unfold ldT
 simp only [List.length_append,List.length_replicate]
 have:∀ gaps:List Nat,((gaps.map gapT).flatten).length=gaps.sum+gaps.length:=by
  intro gaps
  induction gaps with
  | nil=>rfl
  | cons g gaps ih=>simp only [List.map_cons,List.flatten_cons,List.length_append,ih,List.sum_cons,List.length_cons,gapT,List.length_replicate,List.length_nil];omega
 rw [this]
theorem wkz:∀ l:List Tx,joinT [] l=l.flatten
 | []=>rfl
 | [x]=>by simp [joinT]
 | x::y::r=>by
  simp only [joinT]
  rw [wkz (y::r)];simp
theorem wne {α:Type} (f:α->Tx):∀ l:List α,txtsOf (l.map fun x=>.str (f x))=some (l.map f)
 | []=>rfl
 | x::r=>by simp only [List.map_cons,txtsOf,wk0,wne f r,Option.map_some]
theorem wtB {α:Type} (f:α->Tx):∀ l:List α,((l.map f).map List.length).sum=(l.map f).flatten.length
 | []=>rfl
 | x::r=>by simp
theorem wpX {α:Type} (f:α->Tx) (l:List α) (h:(l.map f).flatten.length<=cap):mfn (.str []) .join [.list (l.map fun x=>.str (f x))]=some (.str (l.map f).flatten):=by
 show (txtsOf _).bind _=_
 rw [wne]
 simp only [Option.bind_some,List.length_nil,Nat.mul_zero,Nat.add_zero]
 rw [wtB,if_pos h,wkz]
theorem wbT {g:Nat}:∀ {l:List Nat},g∈l->g<=l.sum
 | x::r,h=>by
  simp only [List.mem_cons]at h
  simp only [List.sum_cons]
  rcases h with rfl | h
  ·omega
  ·have:=wbT h;omega
noncomputable def restT:Tx:=[32,9]
noncomputable def ldW (gaps:List Nat) (beh:Nat):D:=wD (ldT gaps beh++120::restT) (ldS gaps beh)
theorem wl7 (gaps:List Nat) (beh:Nat) (h:gaps.sum+gaps.length+beh<4000):waj (.list (gaps.map nD)) (.str (List.replicate beh 32))=some (ldW gaps beh):=by
 have hl:=wuZ gaps beh
 have hg:∀ g∈gaps,g<10000:=fun g hg=>by
  have:=wbT hg
  omega
 unfold waj
 rw [wk0,waB,Option.bind_some,if_pos (by simp only [List.length_map,waf];omega)]
 rw [waY nD (fun g=>.str (gapT g)) gaps (by
  intro g hgm
  have:=hg g hgm
  have e:binop .Mult (.str [32]) (nD g)=some (.str (List.replicate g 32)):=by
   show (if _ then _ else _)=_
   rw [if_pos ⟨rfl,by omega,by omega⟩];simp
  rw [e]
  simp only [Option.bind_some]
  have e2:binop .Add (.str (List.replicate g 32)) (.str [9])=some (.str (gapT g)):=by
   show (if _ then _ else _)=_
   rw [if_pos (by simp only [List.length_replicate,List.length_cons,List.length_nil,waf];have:=wbT hgm;omega)];rfl
  rw [e2];rfl)]
 simp only [Option.bind_some]
 have hf:((gaps.map gapT).flatten).length<=(ldT gaps beh).length:=by unfold ldT;simp
 rw [wpX gapT gaps (by rw [waf];omega)]
 simp only [Option.bind_some]
 have e3:binop .Add (.str (gaps.map gapT).flatten) (.str (List.replicate beh 32))=some (.str (ldT gaps beh)):=by
  show (if _ then _ else _)=_
  rw [if_pos (by simp only [List.length_replicate,waf];omega)];rfl
 rw [e3]
 simp only [Option.bind_some]
 have e4:binop .Add (.str (ldT gaps beh)) (.str (120::restT))=some (.str (ldT gaps beh++120::restT)):=by
  show (if _ then _ else _)=_
  rw [if_pos (by simp only [restT,List.length_cons,List.length_nil,waf];omega)]
 rw [show D.str (120::[32,9])=D.str (120::restT) from rfl,e4]
 simp only [Option.bind_some]
 rw [wxo _ _ (wwc gaps beh) (by omega) (by decide),wuY]
 rfl
noncomputable def mx (gaps:List Nat):Nat:=gaps.foldl max 0
theorem whc:∀ (gaps c:List Nat),(gaps.foldl (fun c g=>bump g c) c).length=gaps.foldl (fun m g=>max m (g+1)) c.length
 | [],c=>rfl
 | g::gaps,c=>by
  rw [List.foldl_cons,whc gaps,wgv];rfl
theorem wp2:∀ (gaps:List Nat) (m:Nat),gaps.foldl (fun m g=>max m (g+1)) (m+1)=gaps.foldl max m+1
 | [],m=>rfl
 | g::gaps,m=>by
  rw [List.foldl_cons,List.foldl_cons,show max (m+1) (g+1)=max m g+1 by omega,wp2 gaps]
theorem wqb {gaps:List Nat} (h:gaps≠[]):(cntOf gaps).length=mx gaps+1:=by
 cases gaps with
 | nil=>exact absurd rfl h
 | cons g r=>
  unfold cntOf mx
  rw [whc,List.foldl_cons,List.foldl_cons,List.length_nil,show max 0 (g+1)=max 0 g+1 by omega,wp2]
theorem wkR (gaps:List Nat):(cntOf gaps).length<=mx gaps+1:=by
 by_cases h:gaps=[]
 ·subst h;simp [cntOf]
 ·rw [wqb h];omega
theorem wiR {m:Nat}:∀ (gaps:List Nat) (a:Nat),a<=m->(∀ g∈gaps,g<=m)->gaps.foldl max a<=m
 | [],a,h,_=>h
 | g::r,a,h,hg=>by
  rw [List.foldl_cons]
  exact wiR r _ (by have:=hg g (by simp);omega) fun g h=>hg g (by simp [h])
theorem wkt {gaps:List Nat} {m:Nat} (h:∀ g∈gaps,g<=m):mx gaps<=m:=wiR gaps 0 (by omega) h
theorem wfw:∀ (gaps:List Nat) (a:Nat),a<=gaps.foldl max a
 | [],a=>Nat.le_refl _
 | g::r,a=>by
  rw [List.foldl_cons]
  have:=wfw r (max a g);omega
theorem wfa {g:Nat}:∀ (gaps:List Nat) (a:Nat),g∈gaps->g<=gaps.foldl max a
 | x::r,a,h=>by
  rw [List.foldl_cons]
  simp only [List.mem_cons]at h
  rcases h with rfl | h
  ·have:=wfw r (max a g);omega
  ·exact wfa r _ h
theorem wm3 {gaps:List Nat} {g:Nat} (h:g∈gaps):g<=mx gaps:=wfa gaps 0 h
noncomputable def colN (gaps:List Nat) (ts:Nat):Nat:=(gaps.map fun g=>g / ts * ts+ts).sum
theorem woK (ts:Nat):∀ (gaps c:List Nat),vs ts 0 (gaps.foldl (fun c g=>bump g c) c)=vs ts 0 c+(gaps.map (· / ts)).sum
 | [],c=>by simp
 | g::gaps,c=>by
  rw [List.foldl_cons,woK ts gaps,woL]
  simp only [List.map_cons,List.sum_cons,Nat.zero_add];omega
theorem wsc (ts:Nat):∀ gaps:List Nat,colN gaps ts=ts * ((gaps.map (· / ts)).sum+gaps.length)
 | []=>by simp [colN]
 | g::r=>by
  have ih:=wsc ts r
  unfold colN at ih ⊢
  simp only [List.map_cons,List.sum_cons,List.length_cons,ih,Nat.mul_add,Nat.mul_one]
  rw [Nat.mul_comm (g / ts) ts];omega
theorem wgj (gaps:List Nat) (beh ts:Nat):indN (ldS gaps beh) ts=beh+colN gaps ts:=by
 unfold indN ldS
 rw [wsc]
 dsimp only
 unfold cntOf
 rw [woK]
 simp [vs]
theorem woE (gaps:D) (ts:Nat) (h:0<ts) (h2:ts<10000) (c g:Nat) (hc:ts ∣ c) (hs:c+g<100000) (n b:D->Option D) (r:D->Option D) :
  wbz gaps (nD ts) (nD c) (nD g) n b r=n (nD (c+(g / ts * ts+ts))):=by
 unfold wbz
 rw [show nD c=D.int c from rfl,show nD g=D.int g from rfl,addN]
 simp only [Option.bind_some]
 rw [show nD ts=D.int ts from rfl,fdivN _ h (by omega)]
 simp only [Option.bind_some]
 rw [mulN _ (by have:=Nat.div_le_self (c+g) ts;omega)]
 simp only [Option.bind_some]
 rw [addN]
 simp only [Option.bind_some]
 obtain ⟨k,rfl⟩:=hc
 have e:(ts * k+g) / ts * ts+ts=ts * k+(g / ts * ts+ts):=by
  rw [Nat.mul_add_div h,Nat.add_mul,Nat.mul_comm k ts];omega
 rw [e]
theorem wsb (gaps:List Nat) (ts:Nat) (h:0<ts) (h2:ts<10000) (hg:gaps.length<200) (hs:gaps.sum<1000) (hp:gaps.sum+gaps.length * ts<100000):wa5 (.list (gaps.map nD)) (nD ts)=some (nD (colN gaps ts)):=by
 unfold wa5
 rw [waB,Option.bind_some,if_pos (by simp only [List.length_map,waf];omega)]
 have key:=wg8 (B:=wbz (.list (gaps.map nD)) (nD ts)) nD nD (fun c g=>c+(g / ts * ts+ts)) (fun xs c=>ts ∣ c/\c+xs.sum+xs.length * ts<100000) (next:=fun s=>some s) (ret:=some) gaps 0
  (fun x xs c hi=>by
   obtain ⟨h3,h4⟩:=hi
   simp only [List.sum_cons,List.length_cons,Nat.add_mul]at h4
   have hx:x / ts * ts<=x:=Nat.div_mul_le_self x ts
   refine ⟨⟨?_,by omega⟩,fun n b r=>woE _ ts h h2 c x h3 (by omega) n b r⟩
   exact Nat.dvd_add h3 (Nat.dvd_add (Nat.dvd_mul_left ..) (Nat.dvd_refl _)))
  ⟨Nat.dvd_zero _,by omega⟩
 rw [show D.int 0=nD 0 from rfl,key]
 have e:∀ (l:List Nat) (c:Nat),l.foldl (fun c g=>c+(g / ts * ts+ts)) c=c+colN l ts:=by
  intro l
  induction l with
  | nil=>intro c;simp [colN]
  | cons g r ih=>
   intro c
   rw [List.foldl_cons,ih]
   unfold colN
   simp only [List.map_cons,List.sum_cons];omega
 rw [e,Nat.zero_add]
theorem wks {a b:Nat}:nD a=nD b ↔ a=b:=by
 show D.int a=D.int b ↔ _
 rw [D.int.injEq];omega
theorem wmP (a b:Nat):cmpD .NotEq (nD a) (nD b)=some (!decide (a=b)):=cmpNe (.int 0 a) (.int 0 b) (by decide) (by decide) wks
theorem wse (a b:Nat):cmpD .Eq (nD a) (nD b)=some (decide (a=b)):=cmpEq (.int 0 a) (.int 0 b) (by decide) (by decide) wks
theorem wl4:∀ {a b:List Nat},a.map nD=b.map nD ↔ a=b
 | [],[]=>by simp
 | [],_::_=>by simp
 | _::_,[]=>by simp
 | x::a,y::b=>by simp only [List.map_cons,List.cons.injEq,wks,wl4]
theorem woW (n:Nat) (l:List Nat):∀ x∈l.map nD,Pln n x:=by
 intro x h;simp only [List.mem_map]at h;obtain ⟨i,_,rfl⟩:=h;exact .int n i
theorem wi3 (l:List Nat) (b:Nat):Pln 2 (.tuple [.tuple (l.map nD),nD b]):=by
 refine .tuple 1 _ fun x hx=>?_
 simp only [List.mem_cons,List.not_mem_nil,or_false]at hx
 rcases hx with rfl | rfl
 ·exact .tuple 0 _ (woW 0 l)
 ·exact .int 1 _
theorem wn3 (r1 r2:Tx) (s1 s2:WS):wa1 (wD r1 s1) (wD r2 s2)=some (.bool (decide (s1.1=s2.1/\s1.2.1=s2.2.1))):=by
 unfold wa1
 rw [wgM,Option.bind_some,wgM,Option.bind_some,cmpEq (wi3 _ _) (wi3 _ _) (by decide) (by decide) (p:=s1.1=s2.1/\s1.2.1=s2.2.1) (by simp only [D.tuple.injEq,List.cons.injEq,wl4,wks,and_true])]
 rfl
noncomputable def longN (s:WS):Nat:=max (s.1.length - 1) s.2.1
theorem wti (s:WS):longI s=longN s:=by
 unfold longI longN
 cases s.1.length with
 | zero=>exact (Int.max_eq_right (Int.le_trans (by decide) (Int.natCast_nonneg _))).trans (congrArg Nat.cast (Nat.max_eq_right (Nat.zero_le _)).symm)
 | succ n=>rw [Nat.add_sub_cancel,castMax,show ((n+1:Nat):Int) - 1=n from Int.add_sub_cancel (n:Int) 1]
noncomputable def upTo (s1 s2:WS):Nat:=max (longN s1) (longN s2)+1
theorem wmM {α:Type} (p:α->Bool) (g:α->D):∀ (xs:List α) (acc:List D),xs.foldl (fun acc x=>if p x then acc++[g x] else acc) acc=acc++(xs.filter p).map g
 | [],acc=>by simp
 | x::xs,acc=>by
  rw [List.foldl_cons,wmM p g xs]
  by_cases h:p x=true
  ·rw [if_pos h,List.filter_cons_of_pos h];simp
  ·rw [if_neg h,List.filter_cons_of_neg h]
noncomputable def okW (s:WS):Prop:=s.1.length<5000/\s.2.1<5000
noncomputable def rowD (s1 s2:WS) (ts:Nat):D:=.tuple [nD ts,nD (indN s1 ts),nD (indN s2 ts)]
theorem ldcapW {α:Type} {f:α->D} {l:List α} (h:l.length<=cap):(l.map f).length<=cap:=by rw [List.length_map];exact h
theorem askI {α:Type} {raw:Tx} {s:WS} {ts:Nat} (h:okW s) (ht:0<ts) (ht2:ts<10000) {K:D->Option α} {r:Option α} (k:K (nD (indN s ts))=r) :
  (objK (wD raw s) fun c fs=>if mOk T01 c fs (Str.ofString "indent_level")=true then (cmOf tm_1 c (Str.ofString "indent_level") [D.obj c fs,nD ts]).bind K else none)=r:=
 obW (ifP (wxk raw s) (bnS ((wwR raw s _).trans (wwg raw s ts (Nat.lt_trans h.1 (by decide)) ht ht2)) k))
theorem askL {α:Type} {raw:Tx} {s:WS} (h:okW s) {K:D->Option α} {r:Option α} (k:K (nD (longN s))=r) :
  (objK (wD raw s) fun c fs=>if mOk T01 c fs (Str.ofString "longest_run_of_spaces")=true then (cmOf tm_1 c (Str.ofString "longest_run_of_spaces") [D.obj c fs]).bind K else none)=r:=
 obW (ifP (wxl raw s) (bnS ((wvs raw s).trans ((wuW raw s (Nat.le_trans (Nat.le_of_lt h.1) (by decide))).trans (by rw [wti]))) k))
theorem wrH (a b:Nat):bfn .max [nD a,nD b]=some (nD (max a b)):=(wid _ _).trans (congrArg (fun z=>some (D.int z)) (castMax a b).symm)
theorem ws7 (r1 r2:Tx) (s1 s2:WS) (h1:okW s1) (h2:okW s2) (m:D) (acc:List D) (ha:acc.length<=cap) (ts:Nat) (ht:0<ts) (ht2:ts<10000) (n b:List D->Option D) (r:D->Option D) :
  wam (wD r1 s1) (wD r2 s2) m acc (nD ts) n b r=n (if (!decide (indN s1 ts=indN s2 ts)) then acc++[rowD s1 s2 ts] else acc):=by
 unfold wam
 refine askI h1 ht ht2 (askI h2 ht ht2 (bnS (wmP _ _) ?_))
 cases decide (indN s1 ts=indN s2 ts) with
 | true=>exact ifF rfl
 | false=>exact ifT (askI h1 ht ht2 (askI h2 ht ht2 (ifP ha rfl)))
theorem woM {s1 s2:WS} (h1:okW s1) (h2:okW s2):upTo s1 s2<5001:=by
 have a:=h1.1;have b:=h1.2;have c:=h2.1;have d:=h2.2
 exact Nat.succ_lt_succ (Nat.max_lt.mpr ⟨Nat.max_lt.mpr ⟨Nat.lt_of_le_of_lt (Nat.sub_le _ _) a,b⟩,Nat.max_lt.mpr ⟨Nat.lt_of_le_of_lt (Nat.sub_le _ _) c,d⟩⟩)
theorem rngU {a u:Nat} (h:u<5001) (ha:a<10000):rangeD [nD a,nD (u+1)]=some ((List.range' a (u+1 - a)).map nD):=rangeN (Nat.lt_trans (Nat.succ_lt_succ h) (by decide)) ha
theorem wuN (r1 r2:Tx) (s1 s2:WS) (h1:okW s1) (h2:okW s2):wah (wD r1 s1) (wD r2 s2)=some (.list (((List.range' 1 (upTo s1 s2)).filter fun ts=>!decide (indN s1 ts=indN s2 ts)).map (rowD s1 s2))):=by
 have hu:=woM h1 h2
 have hc:(List.range' 1 (upTo s1 s2)).length<=cap:=by rw [List.length_range'];exact Nat.le_trans (Nat.le_of_lt hu) (by decide)
 unfold wah
 refine askL h1 (askL h2 (bnS (wrH _ _) (bnS (a:=nD (upTo s1 s2)) rfl (bnS (a:=nD (upTo s1 s2+1)) rfl (bnS (a:=(List.range' 1 (upTo s1 s2)).map nD) (rngU (a:=1) hu (by decide)) (ifP (by rw [List.length_map];exact hc) ?_))))))
 have key:=wg8 (B:=wam (wD r1 s1) (wD r2 s2) (nD (upTo s1 s2))) nD (fun acc:List D=>acc) (fun acc ts=>if (!decide (indN s1 ts=indN s2 ts)) then acc++[rowD s1 s2 ts] else acc)
  (fun xs acc=>(∀ x∈xs,0<x/\x<10000)/\acc.length+xs.length<=cap) (next:=fun s=>some (.list s)) (ret:=some) (List.range' 1 (upTo s1 s2)) []
  (fun x xs acc hi=>by
   obtain ⟨h3,h4⟩:=hi
   have h4:acc.length+xs.length+1<=cap:=h4
   have hx:=h3 x List.mem_cons_self
   refine ⟨⟨fun y hy=>h3 y (List.mem_cons_of_mem _ hy),?_⟩,fun n b r=>ws7 r1 r2 s1 s2 h1 h2 _ acc (Nat.le_trans (Nat.le_add_right _ _) (Nat.le_of_succ_le h4)) x hx.1 hx.2 n b r⟩
   split
   ·rw [List.length_append,Nat.add_right_comm];exact h4
   ·exact Nat.le_of_succ_le h4)
  ⟨fun x hx=>by have:=List.mem_range'_1.mp hx;omega,by rw [List.length_nil,Nat.zero_add];exact hc⟩
 exact key.trans (by rw [wmM,List.nil_append])
noncomputable def lessB (s1 s2:WS):Bool:=
 if s1.2.2.1>=s2.2.2.1 then false
 else if s1.1.length<=1/\s2.1.length<=1 then decide (s1.2.2.2<=s2.2.2.2)
 else (List.range' 2 (upTo s1 s2 - 1)).all fun ts=>decide (indN s1 ts<indN s2 ts)
theorem wrN (r1 r2:Tx) (s1 s2:WS) (h1:okW s1) (h2:okW s2) (m:D) (ts:Nat) (ht:0<ts) (ht2:ts<10000) (n b:Unit->Option D) (r:D->Option D) :
  waK (wD r1 s1) (wD r2 s2) m () (nD ts) n b r=if indN s1 ts<indN s2 ts then n () else r (.bool false):=by
 unfold waK
 refine askI h1 ht ht2 (askI h2 ht ht2 (bnS (ge_int _ _) ?_))
 by_cases h:indN s1 ts<indN s2 ts
 ·rw [if_pos h];exact ifN (fun e=>Nat.not_le.mpr h (Int.ofNat_le.mp (of_decide_eq_true e))) rfl
 ·rw [if_neg h];exact ifP (decide_eq_true (Int.ofNat_le.mpr (Nat.not_lt.mp h))) rfl
theorem wmD (r1 r2:Tx) (s1 s2:WS) (h1:okW s1) (h2:okW s2) (m:D):∀ l:List Nat,(∀ x∈l,0<x/\x<10000) ->
  forS (waK (wD r1 s1) (wD r2 s2) m) (l.map nD) () (fun _=>some (.bool true)) some=some (.bool (l.all fun ts=>decide (indN s1 ts<indN s2 ts)))
 | [],_=>rfl
 | x::l,h=>by
  show waK (wD r1 s1) (wD r2 s2) m () (nD x) _ _ _=_
  rw [wrN r1 r2 s1 s2 h1 h2 m x (h x (by simp)).1 (h x (by simp)).2]
  split
  ·rename_i hx
   rw [wmD r1 r2 s1 s2 h1 h2 m l fun y hy=>h y (by simp [hy])]
   simp [hx]
  ·rename_i hx
   simp [hx]
theorem wl6 (r1 r2:Tx) (s1 s2:WS) (h1:okW s1) (h2:okW s2):wa6 (wD r1 s1) (wD r2 s2)=some (.bool (lessB s1 s2)):=by
 have hu:=woM h1 h2
 unfold wa6 lessB
 refine bnS (w_n _ _) (bnS (w_n _ _) (bnS (ge_int _ _) ?_))
 by_cases hn:s1.2.2.1>=s2.2.2.1
 ·rw [if_pos hn];exact ifP (decide_eq_true (Int.ofNat_le.mpr hn)) rfl
 ·rw [if_neg hn]
  refine ifN (fun e=>hn (Int.ofNat_le.mp (of_decide_eq_true e))) (bnS (a:=decide (s1.1.length<=1/\s2.1.length<=1)) (bnS (wm9 _ _) ?_) ?_)
  ·show (if _ then _ else _)=_
   by_cases a:s1.1.length<=1
   ·refine ifP (decide_eq_true a) (bnS (wm9 _ _) ?_)
    by_cases b:s2.1.length<=1
    ·exact ifP (decide_eq_true b) (congrArg some (decide_eq_true ⟨a,b⟩).symm)
    ·exact ifN (fun e=>b (of_decide_eq_true e)) (congrArg some (decide_eq_false fun q=>b q.2).symm)
   ·exact ifN (fun e=>a (of_decide_eq_true e)) (congrArg some (decide_eq_false fun q=>a q.1).symm)
  ·by_cases hs:s1.1.length<=1/\s2.1.length<=1
   ·rw [if_pos hs]
    exact ifP (decide_eq_true hs) (bnS (w_nt _ _) (bnS (w_nt _ _) (bnS (le_int _ _) (congrArg (fun b=>some (D.bool b)) (decide_eq_decide.mpr Int.ofNat_le)))))
   ·rw [if_neg hs]
    refine ifN (fun e=>hs (of_decide_eq_true e)) (askL h1 (askL h2 (bnS (wrH _ _) (bnS (a:=nD (upTo s1 s2)) rfl (bnS (a:=nD (upTo s1 s2+1)) rfl (bnS (a:=(List.range' 2 (upTo s1 s2 - 1)).map nD) (rngU (a:=2) hu (by decide)) (ifP (ldcapW ?_) (wmD r1 r2 s1 s2 h1 h2 _ _ fun x hx=>?_))))))))
    ·rw [List.length_range'];exact Nat.le_trans (Nat.sub_le _ _) (Nat.le_trans (Nat.le_of_lt hu) (by decide))
    ·have:=List.mem_range'_1.mp hx;omega
theorem wdL (k:Key):toKey (ofKey k)=some k:=by cases k<;>rfl
theorem wmG {k:Key}:∀ {l:List (Key×D)},k ∉ l.map (·.1)->kget k l=none
 | [],_=>rfl
 | (a,v)::r,h=>by
  simp only [List.map_cons,List.mem_cons,not_or]at h
  unfold kget
  rw [if_neg (fun e=>h.1 e.symm)]
  exact wmG h.2
theorem wtl {k:Key} {v:D} {l:List (Key×D)} (h:k ∉ l.map (·.1)):kset k v l=l++[(k,v)]:=by
 unfold kset khas
 rw [wmG h];rfl
theorem ws1 {k:Key} {v:D} {l:List (Key×D)} (h:k ∉ l.map (·.1)) (hl:l.length<=cap):putM l (ofKey k) v=some (l++[(k,v)]):=by
 unfold putM
 rw [wdL,Option.bind_some,if_pos hl,wtl h]
theorem wuC {k:Key} {v:D} {l:List (Key×D)} (hl:l.length<=cap):putM l (ofKey k) v=some (kset k v l):=by
 unfold putM
 rw [wdL,Option.bind_some,if_pos hl]
theorem wmN (a b:D) (next:List (Key×D)->Option D) (ret:D->Option D):∀ (t acc:List (Key×D)),((acc++t).map (·.1)).Nodup->(acc++t).length<=cap ->
  forS (wbw a b) (t.map fun p=>.tuple [ofKey p.1,p.2]) acc next ret=next (acc++t)
 | [],acc,_,_=>by simp [forS]
 | (k,v)::t,acc,h,hl=>by
  show wbw a b acc (.tuple [ofKey k,v]) _ _ _=_
  unfold wbw
  rw [wdS,ws1 ?h1 (by simp only [List.length_append]at hl;omega),Option.bind_some]
  case h1=>
   simp only [List.map_append,List.map_cons]at h
   rw [List.nodup_append]at h
   intro hm
   exact h.2.2 k hm k (by simp) rfl
  have ih:=wmN a b next ret t (acc++[(k,v)]) (by simpa using h) (by simpa using hl)
  rw [show (acc++[(k,v)])++t=acc++(k,v)::t by simp]at ih
  exact ih
noncomputable def upK (old v:D):Option D:=match v with
 | .tuple _=>zipSumQ v old
 | .int _=>addI old v
 | _=>none
theorem wt0 {a b:D} {t:List (Key×D)} {k:Key} {v w:D} (hl:t.length<=cap) (h:match kget k t with | none=>w=v | some old=>upK old v=some w) {n br:List (Key×D)->Option D} {r:D->Option D}:wb0 a b t (.tuple [ofKey k,v]) n br r=n (kset k w t):=by
 have e:cmpD .In (ofKey k) (.dict t)=some (khas k t):=by
  show (toKey (ofKey k)).map _=_
  rw [wdL];rfl
 have es:sub (.dict t) (ofKey k)=kget k t:=by
  show (toKey (ofKey k)).bind _=_
  rw [wdL];rfl
 have hp:putM t (ofKey k) w=some (kset k w t):=wuC hl
 unfold wb0
 refine un2 (bnS e ?_)
 unfold khas
 cases hk:kget k t with
 | none=>
  rw [hk]at h
  have h:w=v:=h
  subst h
  exact ifN (fun e=>nomatch e) (bnS hp rfl)
 | some old=>
  rw [hk]at h
  have h:upK old v=some w:=h
  refine ifP rfl ?_
  unfold upK at h
  split at h
  ·exact bnS (a:=true) rfl (ifT (bnS (es.trans hk) (bnS h (bnS hp rfl))))
  ·exact bnS (a:=false) rfl (ifF (bnS (es.trans hk) (bnS h (bnS hp rfl))))
  ·cases h
theorem wqe (t:List (Key×D)) (k:Key) (v w:D) (hn:(t.map (·.1)).Nodup) (hl:t.length<5000) (h:match kget k t with | none=>w=v | some old=>upK old v=some w) :
  waR (.dict t) (.dict [(k,v)])=some (.dict (kset k w t)):=by
 have hc:t.length<=cap:=Nat.le_trans (Nat.le_of_lt hl) (by decide)
 unfold waR
 refine bnS (a:=t.map fun p=>.tuple [ofKey p.1,p.2]) rfl (ifP (by rw [List.length_map];exact hc) ?_)
 rw [wmN _ _ _ _ t [] (by simpa using hn) (by rw [List.nil_append];exact hc),List.nil_append]
 exact bnS (a:=[.tuple [ofKey k,v]]) rfl (ifP (by show 1<=10000;decide) (wt0 hc h))
theorem wqT (a:D) (x n:Int) (k b:D->Option D) (r:D->Option D):wbv a (.int n) (.int x) k b r=k (.int (n+x)):=rfl
theorem wkN (a:D) (next:D->Option D) (ret:D->Option D):∀ (l:List Int) (n:Int),forS (wbv a) (l.map D.int) (.int n) next ret=next (.int (n+l.sum))
 | [],n=>by simp [forS]
 | x::l,n=>by
  show wbv a (.int n) (.int x) _ _ _=_
  rw [wqT,wkN a next ret l (n+x),List.sum_cons,Int.add_assoc]
theorem wtM (t:List (Key×Int)) (hl:t.length<5000):wa4 (.dict (t.map fun p=>(p.1,.int p.2)))=some (.int (t.map (·.2)).sum):=by
 unfold wa4
 have e:valsQ (.dict (t.map fun p=>(p.1,D.int p.2)))=some ((t.map (·.2)).map D.int):=by
  show some _=_
  simp only [List.map_map];rfl
 rw [e,Option.bind_some,if_pos (by simp only [List.length_map,waf];omega),wkN]
 simp
section
variable {V:Type}
noncomputable def getV (k:Key):List (Key×V)->Option V
 | []=>none
 | (a,v)::r=>if a=k then some v else getV k r
noncomputable def putV (k:Key) (v:V):List (Key×V)->List (Key×V)
 | []=>[]
 | (a,x)::r=>if a=k then (a,v)::putV k v r else (a,x)::putV k v r
noncomputable def setV (k:Key) (v:V) (l:List (Key×V)):List (Key×V):=if (getV k l).isSome then putV k v l else l++[(k,v)]
noncomputable def dV (g:V->D) (l:List (Key×V)):List (Key×D):=l.map fun p=>(p.1,g p.2)
theorem wew (g:V->D) (k:Key):∀ l:List (Key×V),kget k (dV g l)=(getV k l).map g
 | []=>rfl
 | (a,v)::r=>by
  show (if a=k then some (g v) else kget k (dV g r))=_
  unfold getV
  split
  ·rfl
  ·exact wew g k r
theorem wpW (g:V->D) (k:Key) (v:V):∀ l:List (Key×V),kput k (g v) (dV g l)=dV g (putV k v l)
 | []=>rfl
 | (a,x)::r=>by
  show (if a=k then (a,g v)::kput k (g v) (dV g r) else (a,g x)::kput k (g v) (dV g r))=_
  unfold putV
  rw [wpW g k v r]
  split<;>rfl
theorem wl8 (g:V->D) (k:Key) (v:V) (l:List (Key×V)):kset k (g v) (dV g l)=dV g (setV k v l):=by
 unfold kset khas setV
 rw [wew]
 cases getV k l with
 | none=>simp [dV]
 | some y=>simp only [Option.map_some,Option.isSome_some,if_true];exact wpW g k v l
theorem wmh (g:V->D) (l:List (Key×V)):(dV g l).map (·.1)=l.map (·.1):=by unfold dV;rw [List.map_map];rfl
theorem wg0 (k:Key) (v:V):∀ l:List (Key×V),(putV k v l).map (·.1)=l.map (·.1)
 | []=>rfl
 | (a,x)::r=>by
  unfold putV
  split<;>simp [wg0 k v r]
theorem wmI {k:Key}:∀ {l:List (Key×V)},getV k l=none->k ∉ l.map (·.1)
 | [],_=>by simp
 | (a,x)::r,h=>by
  unfold getV at h
  split at h
  ·cases h
  ·rename_i hne
   simp only [List.map_cons,List.mem_cons,not_or]
   exact ⟨fun e=>hne e.symm,wmI h⟩
theorem wer {k:Key} {v:V} {l:List (Key×V)} (h:(l.map (·.1)).Nodup):((setV k v l).map (·.1)).Nodup:=by
 unfold setV
 cases e:getV k l with
 | none=>
  simp only [Option.isSome_none,Bool.false_eq_true,if_false,List.map_append,List.map_cons,List.map_nil]
  rw [List.nodup_append]
  refine ⟨h,by simp,?_⟩
  intro a ha b hb
  simp only [List.mem_cons,List.not_mem_nil,or_false]at hb
  subst hb
  intro q;subst q
  exact wmI e ha
 | some y=>simp only [Option.isSome_some,if_true];rw [wg0];exact h
theorem wnn (k:Key) (v:V) (l:List (Key×V)):(setV k v l).length<=l.length+1:=by
 unfold setV
 split
 ·have:=congrArg List.length (wg0 k v l)
  simp only [List.length_map]at this
  omega
 ·simp
end
noncomputable def incV (k:Key) (n:Int) (l:List (Key×Int)):List (Key×Int):=setV k ((getV k l).getD 0+n) l
theorem wwh (t:List (Key×Int)) (k:Key) (n:Int) (hn:(t.map (·.1)).Nodup) (hl:t.length<5000):waR (.dict (dV D.int t)) (.dict [(k,.int n)])=some (.dict (dV D.int (incV k n t))):=by
 rw [wqe (dV D.int t) k (.int n) (.int ((getV k t).getD 0+n)) (by rw [wmh];exact hn) (by unfold dV;simpa using hl) ?_]
 ·rw [show D.int ((getV k t).getD 0+n)=D.int ((getV k t).getD 0+n) from rfl,wl8];rfl
 ·rw [wew]
  cases getV k t with
  | none=>simp
  | some old=>rfl
noncomputable def tD (p:Int×Int):D:=.tuple [.int p.1,.int p.2]
noncomputable def wkA (k:Key) (p:Int×Int) (l:List (Key×(Int×Int))):List (Key×(Int×Int)):=setV k (p.1+((getV k l).getD (0,0)).1,p.2+((getV k l).getD (0,0)).2) l
theorem wu6 (t:List (Key×(Int×Int))) (k:Key) (p:Int×Int) (hn:(t.map (·.1)).Nodup) (hl:t.length<5000):waR (.dict (dV tD t)) (.dict [(k,tD p)])=some (.dict (dV tD (wkA k p t))):=by
 rw [wqe (dV tD t) k (tD p) (tD (p.1+((getV k t).getD (0,0)).1,p.2+((getV k t).getD (0,0)).2)) (by rw [wmh];exact hn) (by unfold dV;simpa using hl) ?_]
 ·rw [wl8];rfl
 ·rw [wew]
  cases getV k t with
  | none=>simp
  | some old=>rfl
theorem wn9 (t:List (Key×Int)) (hl:t.length<5000):wa4 (.dict (dV D.int t))=some (.int (t.map (·.2)).sum):=wtM t hl
theorem neg1:unop .USub (.int 1)=some (.int (-1)):=rfl
theorem bo1:(boundOk none&&boundOk (some (-1)))=true:=by decide
theorem wn8 (xs:List D) (x:D) (h:xs.length<9000):cutD none (some (-1)) (.list (xs++[x]))=some (.list xs):=by
 show (if _ then _ else _)=_
 rw [if_pos (by simp only [List.length_append,List.length_cons,List.length_nil,waf];omega)]
 have e:clipAt (xs.length+1) (-1)=xs.length:=by unfold clipAt;rw [if_pos (by decide)];omega
 unfold cut
 simp only [Option.elim_none,Option.elim_some,List.length_append,List.length_cons,List.length_nil,List.drop_zero,Nat.sub_zero,Nat.zero_add,e]
 simp
theorem wbm {xs ys:List D} (h:xs.length+ys.length<=cap):binop .Add (.list xs) (.list ys)=some (.list (xs++ys)):=if_pos h
theorem wjm:∀ (r:List Nat) (x:Nat),bestBy (fun a b=>ltD b a) (nD x) (r.map nD)=some (nD (r.foldl max x))
 | [],x=>rfl
 | y::r,x=>by
  simp only [List.map_cons,bestBy,List.foldl_cons]
  have e:ltD (nD x) (nD y)=some (decide (x<y)):=by
   show ltS (.int x) (.int y)=_
   show some (decide ((x:Int)<y))=_
   congr 2;simp
  rw [e,Option.bind_some]
  by_cases h:x<y
  ·rw [if_pos (by simpa using h),wjm r y,show max x y=y by omega]
  ·rw [if_neg (by simpa using h),wjm r x,show max x y=x by omega]
theorem wnD {l:List Nat} (h:l≠[]):bfn .max [.list (l.map nD)]=some (nD (mx l)):=by
 cases l with
 | nil=>exact absurd rfl h
 | cons x r=>
  show bestBy _ (nD x) (r.map nD)=_
  rw [wjm];unfold mx;rw [List.foldl_cons,Nat.max_eq_right (Nat.zero_le _)]
theorem wpR {gaps:List Nat} (h:gaps≠[]):longN (ldS gaps 0)=mx gaps:=by
 unfold longN ldS;simp only [wqb h];omega
theorem weC {gaps:List Nat} {beh:Nat} (h1:gaps.sum<1000) (h2:beh<1000):okW (ldS gaps beh):=by
 refine ⟨?_,by simpa [ldS] using (by omega)⟩
 show (cntOf gaps).length<5000
 have a:=wkR gaps
 have b:mx gaps<=gaps.sum:=wkt fun g hg=>wbT hg
 omega
theorem wmV {l:List Nat} (h:l≠[]):∃ i g,l=i++[g]:=⟨l.dropLast,l.getLast h,(List.dropLast_concat_getLast h).symm⟩
theorem wuE (n:Nat) (a b c:Nat):Pln (n+1) (.tuple [nD a,nD b,nD c]):=by
 refine .tuple n _ fun x hx=>?_
 simp only [List.mem_cons,List.not_mem_nil,or_false]at hx
 rcases hx with rfl | rfl | rfl<;>exact .int _ _
theorem ws3 {l:List Nat} {f:Nat->D} (h:∀ x∈l,Pln 1 (f x)):Pln 2 (.list (l.map f)):=.list 1 _ fun x hx=>by
 simp only [List.mem_map]at hx;obtain ⟨y,hy,rfl⟩:=hx;exact h y hy
theorem wxG (gaps:List Nat) (h:gaps.sum+gaps.length<4000):waj (.list (gaps.map nD)) (.str [])=some (ldW gaps 0):=wl7 gaps 0 (by omega)
theorem wxF (gaps:List Nat) (h:gaps.sum+gaps.length+1<4000):waj (.list (gaps.map nD)) (.str [32])=some (ldW gaps 1):=wl7 gaps 1 h
theorem wku (n:Nat) (h:n<10000):binop .Mult (.str [32]) (nD n)=some (.str (List.replicate n 32)):=by
 show (if _ then _ else _)=_
 rw [if_pos ⟨rfl,by omega,by omega⟩];simp
noncomputable def rawT (gaps:List Nat) (beh:Nat):Tx:=ldT gaps beh++120::restT
noncomputable abbrev ldD (gaps:List Nat) (beh:Nat):D:=wD (rawT gaps beh) (ldS gaps beh)
theorem wky (gaps:List Nat) (h:gaps.sum+gaps.length<4000):waj (.list (gaps.map nD)) (.str [])=some (ldD gaps 0):=wxG gaps h
theorem wwb (gaps:List Nat) (h:gaps.sum+gaps.length+1<4000):waj (.list (gaps.map nD)) (.str [32])=some (ldD gaps 1):=wxF gaps h
theorem leadwb (gaps:List Nat) (beh:Nat) (h:gaps.sum+gaps.length+beh<4000):waj (.list (gaps.map nD)) (.str (List.replicate beh 32))=some (ldD gaps beh):=wl7 gaps beh h
theorem add1 (n:Nat):binop .Add (nD n) (.int 1)=some (nD (n+1)):=rfl
theorem add2 (n:Nat):binop .Add (nD n) (.int 2)=some (nD (n+2)):=rfl
theorem addnn (n m:Nat):binop .Add (nD n) (nD m)=some (nD (n+m)):=rfl
theorem modnn (n:Nat) {m:Nat} (h:0<m):binop .Mod (nD n) (nD m)=some (nD (n % m)):=modN n h
theorem rng0 {b:Nat} (h:b<10000):rangeD [nD b]=some ((List.range b).map nD):=wvM h
theorem rng1 {b:Nat} (h:b+1<10000):rangeD [.int 1,nD (b+1)]=some ((List.range' 1 b).map nD):=by
 have:=rangeN (a:=1) h (by omega)
 rw [Nat.add_sub_cancel]at this;exact this
theorem wjt {xs:List D} (h:xs.length<=cap):bfn .tuple [.list xs]=some (.tuple xs):=if_pos h
theorem wt9 (n m:Nat):cmpD .Eq (nD n) (nD m)=some (decide (n=m)):=wse n m
theorem lenD {α:Type} (f:α->D) (l:List α) (h:l.length<=cap):bfn .len [.list (l.map f)]=some (nD l.length):=by
 rw [wi6 (by simpa using h)];simp [nD]
theorem ldcap {α:Type} (f:α->D) {l:List α} (h:l.length<=cap):(l.map f).length<=cap:=by simpa using h
theorem wp0 {α:Type} (i:Nat) (k:Int->Option α):intK (nD i) k=k (i:Int):=rfl
theorem tt {α:Sort _} (a b:α):(if true=true then a else b)=a:=rfl
theorem wfY (b:Bool):(if b then some true else some false)=some b:=by cases b<;>rfl
theorem wgh {α:Type} (l:List D) (k:List D->Option α):listK (.list l) k=k l:=rfl
theorem wkW {a:Nat} (h:a<100000):(boundOk none&&boundOk (some (a:Int)))=true:=by
 unfold boundOk
 simp;omega
theorem wm4 {a:Nat} (h:a<100000):(boundOk (some (a:Int))&&boundOk none)=true:=by
 unfold boundOk
 simp;omega
theorem wvu {a b:Nat} (h:a<100000) (h2:b<100000):(boundOk (some (a:Int))&&boundOk (some (b:Int)))=true:=by
 unfold boundOk
 simp;omega
theorem whl:(boundOk (some 1)&&boundOk none)=true:=by decide
theorem wwS:(boundOk none&&boundOk (some 1))=true:=by decide
theorem wni {α:Type} (a:Nat) (xs:List α):xs.take (min a xs.length)=xs.take a:=by
 by_cases q:a<=xs.length
 ·rw [Nat.min_eq_left q]
 ·rw [Nat.min_eq_right (by omega),List.take_of_length_le (Nat.le_refl _),List.take_of_length_le (by omega)]
theorem takeN {xs:List D} (a:Nat) (h:xs.length<=cap):cutD none (some (a:Int)) (.list xs)=some (.list (xs.take a)):=by
 show (if _ then _ else _)=_
 rw [if_pos h]
 unfold cut
 simp only [Option.elim_none,Option.elim_some,we0,List.drop_zero,Nat.sub_zero,wni]
theorem dropN {xs:List D} (a:Nat) (h:xs.length<=cap) (ha:a<=xs.length):cutD (some (a:Int)) none (.list xs)=some (.list (xs.drop a)):=by
 show (if _ then _ else _)=_
 rw [if_pos h]
 unfold cut
 simp only [Option.elim_none,Option.elim_some,we0,Nat.min_eq_left ha]
 rw [List.take_of_length_le (by simp)]
theorem sliceN {xs:List D} (a b:Nat) (h:xs.length<=cap) (ha:a<=b) (hb:b<=xs.length):cutD (some (a:Int)) (some (b:Int)) (.list xs)=some (.list ((xs.drop a).take (b - a))):=by
 show (if _ then _ else _)=_
 rw [if_pos h]
 unfold cut
 simp only [Option.elim_some,we0,Nat.min_eq_left hb,Nat.min_eq_left (Nat.le_trans ha hb)]
theorem wet (n:Nat):Pln (n+1) (.list []):=.list n _ fun x hx=>by simp at hx
theorem wrD (a b:List Nat):mx (a++b)=max (mx a) (mx b):=by
 apply Nat.le_antisymm
 ·refine wkt fun g hg=>?_
  rw [List.mem_append]at hg
  rcases hg with h | h
  ·have:=wm3 h;omega
  ·have:=wm3 h;omega
 ·have h1:mx a<=mx (a++b):=wkt fun g hg=>wm3 (by simp [hg])
  have h2:mx b<=mx (a++b):=wkt fun g hg=>wm3 (by simp [hg])
  omega
noncomputable def okG (g:List Nat):Prop:=g≠[]/\g.sum<200/\g.length<50
theorem okG.mx {g:List Nat} (h:okG g):mx g<=g.sum:=wkt fun x hx=>wbT hx
theorem okG.w {g:List Nat} (h:okG g) (b:Nat) (hb:b<1000):okW (ldS g b):=weC (by have:=h.2.1;omega) hb
theorem okG.col {g:List Nat} (h:okG g) (d:Nat) (h1:0<d) (h2:d<1000):wa5 (.list (g.map nD)) (nD d)=some (nD (colN g d)):=by
 have a:=h.2.1;have b:=h.2.2
 refine wsb _ d h1 (by omega) (by omega) (by omega) ?_
 have:=Nat.mul_le_mul_right d (show g.length<=49 by omega)
 omega
noncomputable def apartL (a b:List Nat):List D:=((List.range' 1 (mx (a++b)+1)).filter fun d=>!decide (colN a d=colN b d)).map fun d=>.tuple [nD d,nD (colN a d),nD (colN b d)]
theorem wol {a b:List Nat} (ha:okG a) (hb:okG b):wbs (.list (a.map nD)) (.list (b.map nD))=some (.list (apartL a b)):=by
 have h1:=ha.2.1;have h2:=ha.2.2;have h3:=hb.2.1;have h4:=hb.2.2
 have m1:=ha.mx;have m2:=hb.mx
 have hm:mx (a++b)<900:=by rw [wrD];omega
 unfold wbs
 rw [wbm (by simp only [List.length_map,waf];omega),Option.bind_some,<- List.map_append,wnD (by simp [ha.1]),Option.bind_some,add2,Option.bind_some,rng1 (b:=mx (a++b)+1) (by omega),Option.bind_some]
 rw [if_pos (ldcap _ (by simp only [List.length_range',waf];omega))]
 rw [waY nD (fun d=>.tuple [nD d,nD (colN a d),nD (colN b d)]) (List.range' 1 (mx (a++b)+1)) (fun d hd=>by
  rw [List.mem_range'_1]at hd
  rw [ha.col d (by omega) (by omega),Option.bind_some,hb.col d (by omega) (by omega),Option.bind_some])]
 rw [Option.bind_some,waB,Option.bind_some,if_pos (ldcap _ (by simp only [List.length_range',waf];omega))]
 rw [waC (fun d=>.tuple [nD d,nD (colN a d),nD (colN b d)]) (fun d=>!decide (colN a d=colN b d)) (fun d=>.tuple [nD d,nD (colN a d),nD (colN b d)]) (List.range' 1 (mx (a++b)+1)) (fun d _=>by
  rw [show sub (.tuple [nD d,nD (colN a d),nD (colN b d)]) (.int 1)=some (nD (colN a d)) from rfl,Option.bind_some,show sub (.tuple [nD d,nD (colN a d),nD (colN b d)]) (.int 2)=some (nD (colN b d)) from rfl,Option.bind_some,wmP,Option.bind_some,wfY]) (fun _ _ _=>rfl)]
 rw [Option.bind_some];rfl
theorem wmn {a b:List Nat} (ha:okG a) (hb:okG b):wah (ldD a 0) (ldD b 0)=some (.list (apartL a b)):=by
 rw [wuN _ _ _ _ (ha.w 0 (by omega)) (hb.w 0 (by omega))]
 have hu:upTo (ldS a 0) (ldS b 0)=mx (a++b)+1:=by
  unfold upTo;rw [wpR ha.1,wpR hb.1,wrD]
 rw [hu]
 unfold apartL
 congr 2
 have e:(List.range' 1 (mx (a++b)+1)).filter (fun ts=>!decide (indN (ldS a 0) ts=indN (ldS b 0) ts))=(List.range' 1 (mx (a++b)+1)).filter fun d=>!decide (colN a d=colN b d):=by
  apply List.filter_congr
  intro d _
  rw [wgj,wgj,Nat.zero_add,Nat.zero_add]
 rw [e]
 apply List.map_congr_left
 intro d _
 unfold rowD
 rw [wgj,wgj,Nat.zero_add,Nat.zero_add]
theorem wmx (a b:List Nat):Pln 2 (.list (apartL a b)):=ws3 fun x _=>wuE 0 _ _ _
noncomputable def pairD (g:List Nat):D:=.tuple [.list (g.map nD),ldD g 0]
theorem wpZ:∀ l:List Nat,intsOf (l.map nD)=some (l.map fun (n:Nat)=>(n:Int))
 | []=>rfl
 | x::r=>by
  simp only [List.map_cons,intsOf,wpZ r,Option.map_some];rfl
theorem wnk:∀ l:List Nat,(l.map fun (n:Nat)=>(n:Int)).sum=((l.sum:Nat):Int)
 | []=>rfl
 | x::r=>by simp only [List.map_cons,List.sum_cons,wnk r];omega
theorem wgQ (l:List Nat):bfn .sum [.list (l.map nD)]=some (nD l.sum):=by
 show (intsOf _).map _=_
 rw [wpZ,Option.map_some,wnk]
theorem mulnn {a:Nat} (b:Nat) (h:a<10000):binop .Mult (nD a) (nD b)=some (nD (a * b)):=mulN b (by omega)
noncomputable def okB (sh w:Nat) (part past:List Nat):Bool:=
 (lessB (ldS past 0) (ldS part 0)==decide ((past.sum:Int) - ((past.length * sh:Nat):Int)<=(part.sum:Int) - ((w * sh:Nat):Int)))&&(lessB (ldS part 0) (ldS past 0)==false)
theorem wow (runs most before kinds sm pairs start alike:D) (kl:List D) (sh w:Nat) (hw:w<50) (part past:List Nat) (hp:okG part) (hq:okG past) (h:okB sh w part past=true) (n b:Unit->Option D) (r:D->Option D) :
  wbj runs (nD sh) most before (nD w) kl sm pairs start (.list (part.map nD)) (ldD part 0) alike () (pairD past) n b r=n ():=by
 unfold okB at h
 rw [Bool.and_eq_true]at h
 obtain ⟨h1,h2⟩:=h
 have k1:=hp.w 0 (by omega);have k2:=hq.w 0 (by omega)
 have l1:=hq.2.2
 unfold wbj pairD
 refine un2 ?_
 refine bn4 (wgQ _) (lenD nD past (by rw [waf];omega)) (mulnn _ (by omega)) (sub_int _ _) ?_
 refine bn4 (wgQ _) (mulnn _ (by omega)) (sub_int _ _) (le_int _ _) ?_
 refine bnS (a:=false) ?_ rfl
 refine obW ?_
 refine ifP (wqh _ _) ?_
 refine bn2 ((wmi _ _ _).trans (wl6 _ _ _ _ k2 k1)) (isnot_bool _ _) ?_
 rw [h1]
 refine ifF ?_
 refine obW ?_
 refine ifP (wqh _ _) ?_
 refine bn2 ((wmi _ _ _).trans (wl6 _ _ _ _ k1 k2)) (isnot_bool _ _) ?_
 rw [h2]
 refine ifF ?_
 refine obW ?_
 refine ifP (wt1 _ _) ?_
 refine bn3 ((wsi _ _ _).trans (wmn hq hp)) (wol hq hp) (waQ (wmx _ _) (by decide)) ?_
 rfl
theorem wiN (runs most before kinds sm pairs start alike:D) (kl:List D) (sh w:Nat) (hw:w<50) (part:List Nat) (hp:okG part) (next:Unit->Option D) (ret:D->Option D):∀ (l:List (List Nat)),(∀ g∈l,okG g/\okB sh w part g=true) ->
  forS (wbj runs (nD sh) most before (nD w) kl sm pairs start (.list (part.map nD)) (ldD part 0) alike) (l.map pairD) () next ret=next ()
 | [],_=>rfl
 | g::l,h=>by
  show wbj _ _ _ _ _ _ _ _ _ _ _ _ () (pairD g) _ _ _=_
  rw [wow runs most before kinds sm pairs start alike kl sh w hw part g hp (h g (by simp)).1 (h g (by simp)).2]
  exact wiN runs most before kinds sm pairs start alike kl sh w hw part hp next ret l fun x hx=>h x (by simp [hx])
noncomputable def bookT (part:List Nat):List (Key×(Int×Int)):=part.foldl (fun t (g:Nat)=>wkA (.i g) (1,(g:Int)) t) []
theorem wov (runs short most before width sm pairs start part lead alike:D) (kl:List D) (t:List (Key×(Int×Int))) (g:Nat) (hn:(t.map (·.1)).Nodup) (hl:t.length<5000) (n b:D->Option D) (r:D->Option D) :
  wbi runs short most before width kl sm pairs start part lead alike (.dict (dV tD t)) (nD g) n b r=n (.dict (dV tD (wkA (.i g) (1,(g:Int)) t))):=by
 unfold wbi
 rw [show toKey (nD g)=some (.i g) from rfl,Option.bind_some,show (D.tuple [D.int 1,nD g])=tD (1,(g:Int)) from rfl,wu6 _ _ _ hn hl,Option.bind_some]
theorem wiM (runs short most before width sm pairs start part lead alike:D) (kl:List D) (next:D->Option D) (ret:D->Option D):∀ (l:List Nat) (t:List (Key×(Int×Int))),(t.map (·.1)).Nodup->t.length+l.length<5000 ->
  forS (wbi runs short most before width kl sm pairs start part lead alike) (l.map nD) (.dict (dV tD t)) next ret=next (.dict (dV tD (l.foldl (fun t (g:Nat)=>wkA (.i g) (1,(g:Int)) t) t)))
 | [],t,_,_=>rfl
 | g::l,t,hn,hl=>by
  simp only [List.length_cons]at hl
  show wbi _ _ _ _ _ _ _ _ _ _ _ _ _ (nD g) _ _ _=_
  rw [wov runs short most before width sm pairs start part lead alike kl t g hn (by omega)]
  have hlen:(wkA (.i g) (1,(g:Int)) t).length<=t.length+1:=wnn _ _ _
  exact wiM runs short most before width sm pairs start part lead alike kl next ret l _ (wer hn) (by omega)
theorem wkQ {α:Type} (em:α->D) (key:α->Key) (val:α->D) {f:D->Option (Key×D)}:∀ (xs:List α) (acc:List (Key×D)),(∀ x∈xs,f (em x)=some (key x,val x))->compDQ (fun _=>some true) f (xs.map em) acc=some (xs.foldl (fun acc x=>kset (key x) (val x) acc) acc)
 | [],acc,_=>rfl
 | x::xs,acc,h=>by
  simp only [List.map_cons,compDQ,Option.bind_some]
  rw [if_pos trivial,h x (by simp),Option.bind_some]
  exact wkQ em key val xs _ fun y hy=>h y (by simp [hy])
noncomputable def dueT (part:List Nat):List (Key×(Int×Int)):=part.foldl (fun t (g:Nat)=>setV (.i g) ((((part.filter fun x=>decide (x=g)).length:Nat):Int),(((part.filter fun x=>decide (x=g)).sum:Nat):Int)) t) []
theorem wp3 (part:List Nat) (v:Nat->Int×Int):∀ (l:List Nat) (t:List (Key×(Int×Int))),l.foldl (fun (acc:List (Key×D)) (x:Nat)=>kset (.i x) (tD (v x)) acc) (dV tD t)=dV tD (l.foldl (fun t (g:Nat)=>setV (.i g) (v g) t) t)
 | [],t=>rfl
 | x::l,t=>by
  rw [List.foldl_cons,List.foldl_cons,wl8,wp3 part v l]
theorem wkH (v:Nat->List (Key×(Int×Int))->Int×Int):∀ (l:List Nat) (t:List (Key×(Int×Int))),(t.map (·.1)).Nodup->((l.foldl (fun t (g:Nat)=>setV (.i g) (v g t) t) t).map (·.1)).Nodup
 | [],t,h=>h
 | x::l,t,h=>by
  rw [List.foldl_cons]
  exact wkH v l _ (wer h)
theorem wqO (part:List Nat):((dueT part).map (·.1)).Nodup:=wkH (fun g _=>((((part.filter fun x=>decide (x=g)).length:Nat):Int),(((part.filter fun x=>decide (x=g)).sum:Nat):Int))) part [] (by simp)
theorem wmH (kb:List (Key×D)):∀ (l:List (Key×D)),(∀ p∈l,kget p.1 kb=some p.2)->(∀ p∈l,eqP p.2 p.2=some true)->hits kb l=some true
 | [],_,_=>rfl
 | (k,v)::r,h1,h2=>by
  unfold hits
  rw [h1 (k,v) (by simp)]
  dsimp only
  rw [h2 (k,v) (by simp),Option.bind_some,wmH kb r (fun p hp=>h1 p (by simp [hp])) (fun p hp=>h2 p (by simp [hp]))]
  rfl
theorem wnI:∀ {l:List (Key×D)} {p:Key×D},(l.map (·.1)).Nodup->p∈l->kget p.1 l=some p.2
 | (a,v)::r,p,hn,hp=>by
  simp only [List.map_cons,List.nodup_cons]at hn
  simp only [List.mem_cons]at hp
  unfold kget
  rcases hp with rfl | hp
  ·rw [if_pos rfl]
  ·rw [if_neg (fun e=>hn.1 (by rw [e];exact List.mem_map_of_mem hp)),wnI hn.2 hp]
theorem wvO (p:Int×Int):Pln 1 (tD p):=by
 refine .tuple 0 _ fun x hx=>?_
 simp only [List.mem_cons,List.not_mem_nil,or_false]at hx
 rcases hx with rfl | rfl<;>exact .int _ _
theorem wtI {n:Nat} {a:D} (h:Pln n a) (hn:n<=64):eqP a a=some true:=by
 rw [wmg h h hn hn (p:=True) (by simp)];rfl
theorem wr7 (t:List (Key×(Int×Int))) (hn:(t.map (·.1)).Nodup):cmpD .NotEq (.dict (dV tD t)) (.dict (dV tD t))=some false:=by
 show (eqD _ _).map _=_
 have e:eqD (.dict (dV tD t)) (.dict (dV tD t))=some true:=by
  show (if _ then _ else _)=_
  rw [if_pos rfl]
  refine wmH _ _ (fun p hp=>wnI (by rw [wmh];exact hn) hp) fun p hp=>?_
  unfold dV at hp
  rw [List.mem_map]at hp
  obtain ⟨q,_,rfl⟩:=hp
  exact wtI (wvO _) (by decide)
 rw [e];rfl
noncomputable def bookOk (part:List Nat):Bool:=decide (bookT part=dueT part)
noncomputable def normOk (part:List Nat):Bool:=decide ((List.range (mx part+1)).map (fun (sz:Nat)=>((getV (.i sz) (dueT part)).getD (0,0)).1)=(cntOf part).map fun (n:Nat)=>(n:Int))
noncomputable def eqB (g part:List Nat):Bool:=decide ((ldS g 0).1=(ldS part 0).1/\(ldS g 0).2.1=(ldS part 0).2.1)
noncomputable def smallOk (w:Nat) (part:List Nat):Bool:=decide (part≠[])&&decide (part.sum<200)&&decide (part.length=w)&&decide (w<50)
noncomputable def stepN (sh w:Nat) (before kinds:List (List Nat)) (part:List Nat):Option (List (List Nat)):=
 if smallOk w part then
  if kinds.any fun g=>eqB g part then some kinds
  else if before.all (okB sh w part)&&bookOk part&&normOk part then some (kinds++[part]) else none
 else none
theorem wrd {w:Nat} {part:List Nat} (h:smallOk w part=true):okG part/\part.length=w/\w<50:=by
 unfold smallOk at h
 simp only [Bool.and_eq_true,decide_eq_true_eq]at h
 exact ⟨⟨h.1.1.1,h.1.1.2,by omega⟩,h.1.2,h.2⟩
theorem wfz {α:Type} (l:List α):(l.filter fun _=>false)=[]:=by simp
theorem wkI {α:Type} (l:List α):(l.filter fun _=>true)=l:=by simp
theorem wwi {part:List Nat} (h:normOk part=true):((List.range (mx part+1)).map fun (sz:Nat)=>D.int (((getV (.i sz) (dueT part)).getD (0,0)).1))=(cntOf part).map nD:=by
 have:=congrArg (fun l=>l.map D.int) (of_decide_eq_true h)
 simp only [List.map_map]at this
 exact this
theorem wvc (part:List Nat) (sz:Nat):mfn (.dict (dV tD (dueT part))) .get [nD sz,.tuple [.int 0,.int 0]]=some (tD ((getV (.i sz) (dueT part)).getD (0,0))):=by
 refine Eq.trans (show _=some ((kget (.i sz) (dV tD (dueT part))).getD (.tuple [.int 0,.int 0])) from rfl) ?_
 rw [wew]
 cases getV (.i (sz:Int)) (dueT part)<;>rfl
theorem wxv {part:List Nat} {w:Nat} (h:part.length=w):cmpD .NotEq (D.tuple [nD (ldS part 0).2.2.1,nD (ldS part 0).2.2.2]) (D.tuple [nD (part.sum+w),nD w])=some false:=by
 subst h
 exact waQ (n:=1) (.tuple 0 _ fun x hx=>by
  rcases List.mem_cons.mp hx with rfl | hx
  ·exact .int _ _
  ·rw [List.mem_singleton.mp hx];exact .int _ _) (by decide)
section
variable {runs most sm pairs d:D} {kl:List D} {sh w:Nat} {part:List Nat} {before:List (List Nat)} {ret:D->Option D} {s:List D} {next:List D->Option D}
theorem wry (hp:okG part) (hpl:part.length=w) (hb:bookOk part=true) (hn:normOk part=true) (hs:s.length<=cap) :
  wdG (.list (part.map nD)) (dV tD (dueT part)) (.dict (dV tD (bookT part))) (ldD part 0) (nD w) ret s next=next (s++[pairD part]):=by
 have hps:=hp.2.1
 have hm:=hp.mx
 have hr:mx part+1<=cap:=by rw [waf];omega
 unfold wdG
 refine bn3 (wnD hp.1) (add1 _) (rng0 (by omega)) ?_
 refine ifP (ldcap _ (by rw [List.length_range];exact hr)) ?_
 refine bnS (a:=(cntOf part).map nD) ((waY nD (fun (sz:Nat)=>.int (((getV (.i sz) (dueT part)).getD (0,0)).1)) (List.range (mx part+1)) fun sz _=>(wn7 _ _).trans (bnS (wvc part sz) rfl)).trans (congrArg some (wwi hn))) ?_
 refine bnS (wjt (ldcap _ (Nat.le_trans (wkR part) hr))) ?_
 refine bnS (a:=false) ?_ (ifF (ifP hs rfl))
 rw [of_decide_eq_true hb]
 refine bnS (wr7 _ (wqO part)) ?_
 refine ifF ?_
 refine bnS (wgM _ _) ?_
 refine bnS ((show cmpD .NotEq (D.tuple [D.tuple ((ldS part 0).1.map nD),nD (ldS part 0).2.1]) (D.tuple [D.tuple ((cntOf part).map nD),D.int 0])=some false from waQ (wi3 _ 0) (by decide))) ?_
 refine ifF ?_
 refine bn4 (w_n _ _) (w_nt _ _) (wgQ _) (addnn _ _) ?_
 refine bnS (wxv hpl) ?_
 rfl
theorem wrz (hp:okG part) (hpl:part.length=w) (hb:bookOk part=true) (hn:normOk part=true) (hs:s.length<=cap) :
  wdH (.list (part.map nD)) (.dict (dV tD (bookT part))) (ldD part 0) (nD w) ret s next=next (s++[pairD part]):=by
 have hc:part.length<=cap:=Nat.le_trans (Nat.le_of_lt hp.2.2) (by decide)
 unfold wdH
 refine bnP (waB _) (ldcap _ hc) ?_
 refine bnS (a:=dV tD (dueT part)) ((wkQ nD (fun g=>.i g) (fun g=>tD ((((part.filter fun x=>decide (x=g)).length:Nat):Int),(((part.filter fun x=>decide (x=g)).sum:Nat):Int))) part [] ?c1).trans (congrArg some (wp3 part (fun g=>((((part.filter fun x=>decide (x=g)).length:Nat):Int),(((part.filter fun x=>decide (x=g)).sum:Nat):Int))) part []))) (wry hp hpl hb hn hs)
 intro g _
 have hf:(part.filter fun x=>decide (x=g)).length<=cap:=Nat.le_trans (List.length_filter_le (fun x=>decide (x=g)) part) hc
 refine bnS ((show toKey (nD g)=some (.i g) from rfl)) ?_
 refine bnP (waB _) (ldcap _ hc) ?_
 refine bn3 (waC nD (fun x=>decide (x=g)) (fun _=>.int 1) part (fun x _=>bnS (wt9 _ _) (wfY _)) (fun _ _ _=>rfl)) (lenD _ _ hf) (waB _) ?_
 refine ifP (ldcap _ hc) ?_
 refine bn2 (waC nD (fun x=>decide (x=g)) nD part (fun x _=>bnS (wt9 _ _) (wfY _)) (fun _ _ _=>rfl)) (wgQ _) ?_
 rfl
theorem wrA {alike:List D} (hp:okG part) (hpl:part.length=w) (hb:bookOk part=true) (hn:normOk part=true) (hs:s.length<=cap) :
  wdI (.list (part.map nD)) runs (nD sh) most (.list (before.map pairD)) (nD w) s sm pairs d (ldD part 0) alike ret next=next (s++[pairD part]):=by
 have h1:=hp.2.2
 unfold wdI
 refine bnP (waB _) (ldcap _ (Nat.le_trans (Nat.le_of_lt h1) (by decide))) ?_
 exact (wiM _ _ _ _ _ _ _ _ _ _ _ _ _ _ part [] List.nodup_nil (by rw [List.length_nil,Nat.zero_add];exact Nat.lt_trans h1 (by decide))).trans (wrz hp hpl hb hn hs)
theorem wrB {alike:List D} (hw:w<50) (hbl:before.length<1000) (hg:∀ g∈before,okG g) (hok:∀ g∈before,okB sh w part g=true) (hp:okG part) (hpl:part.length=w) (hb:bookOk part=true) (hn:normOk part=true) (hs:s.length<=cap) :
  wdJ (.list (before.map pairD)) runs (nD sh) most (nD w) s sm pairs d (.list (part.map nD)) (ldD part 0) alike ret next=next (s++[pairD part]):=
 (wgh _ _).trans (ifP (ldcap _ (Nat.le_trans (Nat.le_of_lt hbl) (by decide))) ((wiN _ _ _ (.none) _ _ _ _ _ sh w hw part hp _ _ before fun g h=>⟨hg g h,hok g h⟩).trans (wrA hp hpl hb hn hs)))
theorem wwY (kinds:List (List Nat)) (part:List Nat):cmpD .NotEq (.list ((kinds.filter fun g=>eqB g part).map fun _=>D.int 1)) (.list [])=some (kinds.any fun g=>eqB g part):=by
 rw [cmpNe (n:=1) (.list 0 _ fun x hx=>by obtain ⟨_,_,rfl⟩:=List.mem_map.mp hx;exact .int 0 1) (wet 0) (by decide) (by decide) (p:=(kinds.any fun g=>eqB g part)=false) ?_]
 ·cases kinds.any fun g=>eqB g part<;>rfl
 ·simp only [D.list.injEq,List.map_eq_nil_iff,List.filter_eq_nil_iff,List.any_eq_false]
theorem wrC {kinds:List (List Nat)} (hkl:kinds.length<1000) :
  wdK (kinds.map fun g=>.bool (eqB g part)) next s (.list (before.map pairD)) runs (nD sh) most (nD w) sm pairs d (.list (part.map nD)) (ldD part 0) ret =
  if (kinds.any fun g=>eqB g part)=true then next s else wdJ (.list (before.map pairD)) runs (nD sh) most (nD w) s sm pairs d (.list (part.map nD)) (ldD part 0) (kinds.map fun g=>.bool (eqB g part)) ret next:=by
 unfold wdK
 refine bnP (waB _) (ldcap _ (Nat.le_trans (Nat.le_of_lt hkl) (by decide))) ?_
 refine bn2 (waC (fun g=>D.bool (eqB g part)) (fun g=>eqB g part) (fun _=>.int 1) kinds (fun g _=>bnS (is_bool _ _) (by cases eqB g part<;>rfl)) (fun _ _ _=>rfl)) (wwY kinds part) ?_
 rfl
end
theorem wsL {sh w:Nat} {before kinds kinds':List (List Nat)} {part:List Nat} (h:stepN sh w before kinds part=some kinds'):okG part/\part.length=w/\w<50/\(((kinds.any fun g=>eqB g part)=true/\kinds'=kinds) \/
  ((kinds.any fun g=>eqB g part)=false/\kinds'=kinds++[part]/\(∀ g∈before,okB sh w part g=true)/\bookOk part=true/\normOk part=true)):=by
 unfold stepN at h
 by_cases hsm:smallOk w part=true
 ·obtain ⟨hp,hpl,hw⟩:=wrd hsm
  rw [if_pos hsm]at h
  refine ⟨hp,hpl,hw,?_⟩
  cases hany:kinds.any fun g=>eqB g part with
  | true=>rw [hany,if_pos rfl]at h;exact .inl ⟨rfl,(Option.some.inj h).symm⟩
  | false=>
   rw [hany,if_neg Bool.false_ne_true]at h
   by_cases q:(before.all (okB sh w part)&&bookOk part&&normOk part)=true
   ·rw [if_pos q]at h
    simp only [Bool.and_eq_true,List.all_eq_true]at q
    exact .inr ⟨rfl,(Option.some.inj h).symm,q.1.1,q.1.2,q.2⟩
   ·rw [if_neg q]at h;exact nomatch h
 ·rw [if_neg hsm]at h;exact nomatch h
theorem wox (most sm pairs:D) (R:List Nat) (sh w a:Nat) (before kinds kinds':List (List Nat)) (hR:R.length<100) (ha:a<R.length) (hw:w<=R.length) (hb:∀ g∈before,okG g) (hk:∀ g∈kinds,okG g) (hkl:kinds.length<1000) (hbl:before.length<1000)
  (h:stepN sh w before kinds (((R++R).drop a).take w)=some kinds') (n bk:List D->Option D) (r:D->Option D) :
  wbH (.list (R.map nD)) (nD sh) most (.list (before.map pairD)) (nD w) sm pairs (kinds.map pairD) (nD a) n bk r=n (kinds'.map pairD)/\(∀ g∈kinds',okG g)/\kinds'.length<=kinds.length+1:=by
 obtain ⟨hp,hpl,hw50,hs⟩:=wsL h
 clear h
 have hdef:(((R.map nD)++(R.map nD)).drop a).take w=(((R++R).drop a).take w).map nD:=by
  rw [<- List.map_append,<- List.map_drop,<- List.map_take]
 generalize ((R++R).drop a).take w=part at *
 have hps:=hp.2.1
 have hkc:kinds.length<=cap:=Nat.le_trans (Nat.le_of_lt hkl) (by decide)
 have hsl:cutD (some (a:Int)) (some ((a+w:Nat):Int)) (.list (R.map nD++R.map nD))=some (.list (part.map nD)):=by
  rw [<- hdef,sliceN a (a+w) (by simp only [List.length_append,List.length_map,waf];omega) (by omega) (by simp only [List.length_append,List.length_map];omega),Nat.add_sub_cancel_left]
 refine ⟨?_,?_⟩
 ·unfold wbH
  refine bnS (wbm (by simp only [List.length_map,waf];omega)) ?_
  refine inS ?_
  refine bnS (addnn _ _) ?_
  refine inS ?_
  refine ifP (wvu (by omega) (by omega)) ?_
  refine bnS (hsl) ?_
  refine bnP (wky part (by omega)) (ldcap _ hkc) ?_
  refine bnS (a:=kinds.map fun g=>.bool (eqB g part)) ((waC pairD (fun _=>true) (fun g=>.bool (eqB g part)) kinds (fun _ _=>rfl) (fun g hg _=>?c1)).trans (by rw [wkI])) ?_
  case c1=>
   unfold pairD
   refine un2 ?_
   refine obW ?_
   refine ifP (wt2 _ _) ?_
   refine bnS ((wua _ _ _).trans (wn3 _ _ _ _)) ?_
   rfl
  refine bnS (a:=false) ?_ (ifF (wrC hkl |>.trans ?_))
  ·skip
   refine bnP (waB _) (ldcap _ hkc) ?_
   refine bnS (a:=[]) ((waC (fun g=>D.bool (eqB g part)) (fun _=>false) (fun _=>.int 1) kinds (fun g _=>by cases eqB g part<;>rfl) (fun _ _ h=>by cases h)).trans (by rw [wfz];rfl)) ?_
   refine bnS (waQ (wet 0) (by decide)) ?_
   refine ifF ?_
   refine ifP (wwS) ?_
   refine bnS (takeN 1 (ldcap _ hkc)) ?_
   rw [wgh,<- List.map_take]
   refine ifP (ldcap _ (Nat.le_trans (List.length_take_le' 1 _) hkc)) ?_
   refine bnS (a:=[]) ((waC pairD (fun _=>false) (fun _=>.int 1) (kinds.take 1) (fun g hg=>?c2) (fun _ _ h=>by cases h)).trans (by rw [wfz];rfl)) ?_
   case c2=>
    have hg:=hk g (List.mem_of_mem_take hg)
    unfold pairD
    refine un2 ?_
    refine obW ?_
    refine ifP (wt1 _ _) ?_
    refine bn3 ((wsi _ _ _).trans (wmn hg hp)) (wol hg hp) (waQ (wmx _ _) (by decide)) ?_
    rfl
   refine bnS (waQ (wet 0) (by decide)) ?_
   rfl
  ·rcases hs with ⟨hany,e⟩ | ⟨hany,e,h1,h2,h3⟩
   ·rw [hany,e];rfl
   ·rw [hany,e,List.map_append]
    exact wrB hw50 hbl hb h1 hp hpl h2 h3 (ldcap _ hkc)
 ·rcases hs with ⟨_,e⟩ | ⟨_,e,_⟩
  ·rw [e];exact ⟨hk,Nat.le_succ _⟩
  ·rw [e]
   refine ⟨fun g hg=>(List.mem_append.mp hg).elim (hk g) fun hg=>by rw [List.mem_singleton.mp hg];exact hp,by rw [List.length_append];exact Nat.le_refl _⟩
noncomputable def runO {σ α:Type} (stp:σ->α->Option σ):List α->σ->Option σ
 | [],s=>some s
 | x::xs,s=>match stp s x with
  | some s'=>runO stp xs s'
  | none=>none
theorem wgl {S σ α:Type} {B:S->D->(S->Option D)->(S->Option D)->(D->Option D)->Option D} (em:α->D) (emS:σ->S) (stp:σ->α->Option σ) (Inv:List α->σ->Prop) {next:S->Option D} {ret:D->Option D}:∀ (xs:List α) (s s':σ),
  (∀ x xs s s',Inv (x::xs) s->stp s x=some s'->Inv xs s'/\∀ n b r,B (emS s) (em x) n b r=n (emS s'))->Inv xs s->runO stp xs s=some s' ->
  forS B (xs.map em) (emS s) next ret=next (emS s')
 | [],s,s',_,_,h=>by cases h;rfl
 | x::xs,s,s',hs,hi,h=>by
  unfold runO at h
  split at h
  ·rename_i s1 e
   obtain ⟨h1,h2⟩:=hs x xs s s1 hi e
   show B (emS s) (em x) _ _ _=_
   rw [h2]
   exact wgl em emS stp Inv xs s1 s' hs h1 h
  ·cases h
theorem wnr {σ α:Type} (stp:σ->α->Option σ) (Inv:List α->σ->Prop):∀ (xs:List α) (s s':σ),(∀ x xs s s',Inv (x::xs) s->stp s x=some s'->Inv xs s')->Inv xs s->runO stp xs s=some s'->Inv [] s'
 | [],s,s',_,hi,h=>by cases h;exact hi
 | x::xs,s,s',hs,hi,h=>by
  unfold runO at h
  split at h
  ·rename_i s1 e
   exact wnr stp Inv xs s1 s' hs (hs x xs s s1 hi e) h
  ·cases h
theorem mul0 (w:Nat) (h:w<10000):binop .Mult (.list [.int 0]) (nD w)=some (.list ((List.replicate w 0).map nD)):=by
 show (if _ then _ else _)=_
 rw [if_pos ⟨rfl,by omega,by omega⟩,<- wgy];simp
theorem wvn {c:D->Option Bool} {f:D->Option D} {a b d:D} (h1:c a=some false) (h2:c b=some false) (h3:c d=some false):compQ c f [a,b,d]=some []:=by
 simp only [compQ,h1,h2,h3,Option.bind_some,Bool.false_eq_true,if_false]
noncomputable def eqS' (a b:WS):Bool:=decide (a.1=b.1/\a.2.1=b.2.1)
theorem wg1 (r1 r2:Tx) (s1 s2:WS) (h1:okW s1) (h2:okW s2) (l:Bool) (hl:lessB s1 s2=l) (he:eqS' s1 s2=false) :
  (wnd (.tuple [wD r1 s1,wD r2 s2,.bool l]) fun one_17 two_18 less_19=>
   (objK one_17 fun c20 fs21=>if mOk T01 c20 fs21 (Z "less") then (cmOf tm_2 c20 (Z "less") [D.obj c20 fs21,two_18]).bind fun x22=>
    (cmpD .IsNot x22 less_19).bind fun b23=>if b23 then some true else (objK one_17 fun c24 fs25=>
     if mOk T01 c24 fs25 (Z "equal") then (cmOf tm_2 c24 (Z "equal") [D.obj c24 fs25,two_18]).bind fun x26=>
      (cmpD .IsNot x26 (D.bool false)).bind fun b27=>if b27 then some true else (some false) else none) else none).bind fun b28=>if b28 then (some true) else some false)=some false:=by
 show (objK (wD r1 s1) _).bind _=_
 refine bnS (a:=false) ?_ rfl
 refine obW ?_
 refine ifP (wqh _ _) ?_
 refine bn2 ((wmi _ _ _).trans (wl6 _ _ _ _ h1 h2)) (isnot_bool _ _) ?_
 rw [hl,show (!(l==l))=false by cases l<;>rfl]
 refine ifF ?_
 refine obW ?_
 refine ifP (wt2 _ _) ?_
 refine bn2 ((wua _ _ _).trans (wn3 _ _ _ _)) (isnot_bool _ _) ?_
 rw [show decide (s1.1=s2.1/\s1.2.1=s2.2.1)=false from he]
 rfl
noncomputable def pairsOk (sm:List Nat) (w:Nat):Bool:=
 (lessB (ldS sm 1) (ldS (sm++[0]) 0)==false)&&(eqS' (ldS sm 1) (ldS (sm++[0]) 0)==false) &&
 (lessB (ldS (List.replicate w 0) 0) (ldS [] (w+1))==false)&&(eqS' (ldS (List.replicate w 0) 0) (ldS [] (w+1))==false) &&
 (lessB (ldS [] w) (ldS (List.replicate (w+1) 0) 0)==true)&&(eqS' (ldS [] w) (ldS (List.replicate (w+1) 0) 0)==false)
noncomputable def stepO (sh:Nat) (R:List Nat) (s:Nat×List (List Nat)) (w:Nat):Option (Nat×List (List Nat)):=
 if pairsOk (R.take w) w&&decide (w<=R.length)&&decide (w<50)&&decide (R.length<100)&&decide (R.sum<200) then
  (runO (fun kinds a=>stepN sh w s.2 kinds (((R++R).drop a).take w)) (List.range R.length) []).map fun kinds=>(max s.1 kinds.length,kinds)
 else none
noncomputable def emN (s:Nat×List (List Nat)):D×D:=(nD s.1,.list (s.2.map pairD))
theorem wsH (l:List Nat) (n:Nat):(l.take n).sum<=l.sum:=by
 have:=congrArg List.sum (List.take_append_drop n l)
 rw [List.sum_append]at this;omega
theorem whD (n:Nat):(List.replicate n 0).sum=0:=by simp
theorem woy (R:List Nat) (sh w:Nat) (s s':Nat×List (List Nat)) (hb:∀ g∈s.2,okG g) (hbl:s.2.length<1000) (h:stepO sh R s w=some s') (n bk:D×D->Option D) (r:D->Option D) :
  wbI (.list (R.map nD)) (nD sh) (emN s) (nD w) n bk r=n (emN s')/\(∀ g∈s'.2,okG g)/\s'.2.length<1000:=by
 unfold stepO at h
 split at h
 case isFalse=>cases h
 rename_i hc
 simp only [Bool.and_eq_true,decide_eq_true_eq]at hc
 obtain ⟨⟨⟨⟨hpairs,hw⟩,hw50⟩,hRl⟩,hRs⟩:=hc
 simp only [Option.map_eq_some_iff]at h
 obtain ⟨kinds,hrun,rfl⟩:=h
 unfold pairsOk at hpairs
 simp only [Bool.and_eq_true,beq_iff_eq]at hpairs
 obtain ⟨⟨⟨⟨⟨p1,p2⟩,p3⟩,p4⟩,p5⟩,p6⟩:=hpairs
 have hst:=wsH R w
 have hsl:(R.take w).length=w:=by rw [List.length_take];omega
 have e1:(R.take w++[0]).sum=(R.take w).sum:=by simp
 have e2:(R.take w++[0]).length=w+1:=by simp [hsl]
 have k1:=weC (gaps:=R.take w) (beh:=1) (by omega) (by omega)
 have k2:=weC (gaps:=R.take w++[0]) (beh:=0) (by omega) (by omega)
 have k3:=weC (gaps:=List.replicate w 0) (beh:=0) (by rw [whD];omega) (by omega)
 have k4:=weC (gaps:=[]) (beh:=w+1) (by simp) (by omega)
 have k5:=weC (gaps:=[]) (beh:=w) (by simp) (by omega)
 have k6:=weC (gaps:=List.replicate (w+1) 0) (beh:=0) (by rw [whD];omega) (by omega)
 have hinv:∀ x xs (ks ks':List (List Nat)),((∀ a∈x::xs,a<R.length)/\(∀ g∈ks,okG g)/\ks.length+(x::xs).length<1000)->stepN sh w s.2 ks (((R++R).drop x).take w)=some ks' ->
   ((∀ a∈xs,a<R.length)/\(∀ g∈ks',okG g)/\ks'.length+xs.length<1000)/\∀ (most sm pairs:D) n b r,wbH (.list (R.map nD)) (nD sh) most (.list (s.2.map pairD)) (nD w) sm pairs (ks.map pairD) (nD x) n b r=n (ks'.map pairD):=by
  intro x xs ks ks' hi e
  obtain ⟨i1,i2,i3⟩:=hi
  simp only [List.length_cons]at i3
  have q:=fun (most sm pairs:D) n b r=>wox most sm pairs R sh w x s.2 ks ks' hRl (i1 x (by simp)) hw hb i2 (by omega) hbl e n b r
  have q0:=q .none .none .none (fun _=>none) (fun _=>none) (fun _=>none)
  exact ⟨⟨fun a ha=>i1 a (by simp [ha]),q0.2.1,by have:=q0.2.2;omega⟩,fun most sm pairs n b r=>(q most sm pairs n b r).1⟩
 have h0:(∀ a∈List.range R.length,a<R.length)/\(∀ g∈([]:List (List Nat)),okG g)/\([]:List (List Nat)).length+(List.range R.length).length<1000:=⟨fun a ha=>List.mem_range.mp ha,by simp,by simp;omega⟩
 have hend:=wnr (fun kinds a=>stepN sh w s.2 kinds (((R++R).drop a).take w)) (fun xs ks=>(∀ a∈xs,a<R.length)/\(∀ g∈ks,okG g)/\ks.length+xs.length<1000) (List.range R.length) [] kinds (fun x xs ks ks' hi e=>(hinv x xs ks ks' hi e).1) h0 hrun
 refine ⟨?_,hend.2.1,by have:=hend.2.2;simpa using this⟩
 have hz1:binop .Add (.list ((R.take w).map nD)) (.list [.int 0])=some (.list ((R.take w++[0]).map nD)):=by
  rw [List.map_append];exact wbm (by simp only [List.length_map,hsl,List.length_cons,List.length_nil,waf];omega)
 have hkl:=hend.2.2
 have hmx:bfn .max [(emN s).1,nD kinds.length]=some (nD (max s.1 kinds.length)):=by
  show bfn .max [.int s.1,.int kinds.length]=_
  rw [wid];exact congrArg (fun z=>some (D.int z)) (castMax _ _).symm
 have hrl:R.length<=cap:=Nat.le_trans (Nat.le_of_lt hRl) (by decide)
 unfold wbI
 refine inS ?_
 refine ifP (wkW (by omega)) ?_
 refine bnS (takeN w (ldcap _ hrl)) ?_
 rw [<- List.map_take]
 refine bn4 (wwb _ (by omega)) (hz1) (wky _ (by omega)) (mul0 w (by omega)) ?_
 refine bn4 (wky _ (by rw [whD,List.length_replicate];omega)) (add1 _) (wku _ (by omega)) (leadwb [] (w+1) (by simp;omega)) ?_
 refine bn4 (wku _ (by omega)) (leadwb [] w (by simp;omega)) (add1 _) (mul0 (w+1) (by omega)) ?_
 refine bnP (wky _ (by rw [whD,List.length_replicate];omega)) ((by show 3<=10000;decide)) ?_
 refine bn2 (wvn (wg1 _ _ _ _ k1 k2 false p1 p2) (wg1 _ _ _ _ k3 k4 false p3 p4) (wg1 _ _ _ _ k5 k6 true p5 p6)) ((show cmpD .NotEq (.list []) (.list [])=some false from waQ (wet 0) (by decide))) ?_
 refine ifF ?_
 unfold wgb
 refine bnS (lenD nD R hrl) ?_
 refine bnP (rng0 (by omega)) (ldcap _ (by rw [List.length_range];exact hrl)) ?_
 refine Eq.trans (wgl nD (fun ks:List (List Nat)=>ks.map pairD) (fun kinds a=>stepN sh w s.2 kinds (((R++R).drop a).take w)) (fun xs ks=>(∀ a∈xs,a<R.length)/\(∀ g∈ks,okG g)/\ks.length+xs.length<1000) (List.range R.length) [] kinds
  (fun x xs ks ks' hi e=>⟨(hinv x xs ks ks' hi e).1,fun n b r=>(hinv x xs ks ks' hi e).2 _ _ _ n b r⟩) h0 hrun) ?_
 refine bn2 (lenD pairD kinds (by rw [waf];exact Nat.le_trans (Nat.le_of_lt hkl) (by decide))) (hmx) ?_
 rfl
noncomputable def nannyT (sh:Nat) (R:List Nat):Option Nat:=(runO (stepO sh R) (List.range' 1 (R.length / 2)) (0,[])).map (·.1)
theorem ws8 (sh:Nat) (R:List Nat) (m:Nat) (hl:R.length<100) (h:nannyT sh R=some m):wbO (.list (R.map nD)) (nD sh)=some (nD m):=by
 unfold nannyT at h
 simp only [Option.map_eq_some_iff]at h
 obtain ⟨s,hrun,rfl⟩:=h
 unfold wbO
 refine bn4 (lenD nD R (by rw [waf];omega)) ((show binop .FloorDiv (nD R.length) (.int 2)=some (nD (R.length / 2)) from fdivN _ (by decide) (by decide))) (add1 _) (rng1 (by omega)) ?_
 refine ifP (ldcap _ (by rw [List.length_range',waf];omega)) ?_
 refine Eq.trans (wgl (B:=wbI (.list (R.map nD)) (nD sh)) nD emN (stepO sh R) (fun xs s=>(∀ g∈s.2,okG g)/\s.2.length<1000) (List.range' 1 (R.length / 2)) (0,[]) s
  (fun x xs s s' hi e=>by
   have q:=fun n b r=>woy R sh x s s' hi.1 hi.2 e n b r
   have q0:=q (fun _=>none) (fun _=>none) (fun _=>none)
   exact ⟨q0.2,fun n b r=>(q n b r).1⟩) ⟨by simp,by simp⟩ hrun) ?_
 rfl
structure EmOk (em:Nat->D):Prop where
 lt:∀ i j,i<3->j<3->ltS (em i) (em j)=some (decide (i<j))
 eq:∀ i j,i<3->j<3->eqS (em i) (em j)=some (decide (i=j))
 pln:∀ i,i<3->Pln 0 (em i)
 inj:∀ i j,i<3->j<3->em i=em j->i=j
 ltD:∀ i j,i<3->j<3->ltD (em i) (em j)=ltS (em i) (em j)
noncomputable abbrev Row:=Nat×List Nat
noncomputable def rowE (em:Nat->D) (r:Row):D:=.tuple (nD r.1::r.2.map em)
noncomputable def lexC:List Nat->List Nat->Int
 | a::x,b::y=>if a<b then -1 else if b<a then 1 else lexC x y
 | _,_=>0
noncomputable def cmpV (way:Int) (i j:Nat) (c:Int):Int:=if c<0 then -way else if 0<c then way else if i<j then -(-2 * way) else if j<i then -2 * way else 0
noncomputable def cmpT (way:Int) (a b:Row):Int:=cmpV way a.1 b.1 (lexC a.2 b.2)
theorem wpT {a b:Nat} {x y:List Nat} (h:a<b):lexC (a::x) (b::y)=-1:=by simp only [lexC];rw [if_pos h]
theorem wpU {a b:Nat} {x y:List Nat} (h:b<a):lexC (a::x) (b::y)=1:=by simp only [lexC];rw [if_neg (by omega),if_pos h]
theorem wpV {a b:Nat} {x y:List Nat} (h:¬ a<b) (h2:¬ b<a):lexC (a::x) (b::y)=lexC x y:=by simp only [lexC];rw [if_neg h,if_neg h2]
noncomputable def selL (way:Int) (n:Nat):List D:=(List.range' 0 n).map (fun (k:Nat)=>D.tuple [nD (k+1),.int way])++[.tuple [.int 0,.int (-2 * way)]]
noncomputable def ordD (way:Int) (n:Nat):D:=.obj (Str.ofString "TupleComp") [((Str.ofString "comp_select_list"),.list (selL way n))]
noncomputable abbrev tN:Str:=Str.ofString "TupleComp"
noncomputable def tF (way:Int) (n:Nat):List (Str×D):=[((Str.ofString "comp_select_list"),.list (selL way n))]
theorem wmY {α:Type} (way:Int) (n:Nat) (k:Str->List (Str×D)->Option α):objK (ordD way n) k=k tN (tF way n):=rfl
theorem t_no (way:Int) (n:Nat):mOk T01 tN (tF way n) (Str.ofString "compare")=true:=by kernel_rfl!
theorem wvH (way:Int) (n:Nat):attrQ T01 (ordD way n) (Str.ofString "comp_select_list")=some (.list (selL way n)):=by kernel_rfl!
theorem wsj (way:Int) (n:Nat) (a b:D):cmOf tm_1 tN (Str.ofString "compare") [D.obj tN (tF way n),a,b]=waV (ordD way n) a b:=by kernel_rfl!
theorem wri (em:Nat->D) (r:Row) (i:Nat) (h:i<r.2.length) (hl:r.2.length<1000):sub (rowE em r) (nD (i+1))=some (em r.2[i]):=by
 refine wmr (by omega) ?_
 rw [List.getElem?_cons_succ,List.getElem?_map,List.getElem?_eq_getElem h];rfl
theorem woT (em:Nat->D) (r:Row):sub (rowE em r) (.int 0)=some (nD r.1):=rfl
theorem wvo (em:Nat->D) (E:EmOk em) (self:D) (way:Int) (a b:Row) (i:Nat) (ha:i<a.2.length) (hb:i<b.2.length) (hl:a.2.length<1000) (hl2:b.2.length<1000) (h3:∀ x∈a.2,x<3) (h4:∀ x∈b.2,x<3) (n k:Unit->Option D) (r:D->Option D) :
  wap self (rowE em a) (rowE em b) () (.tuple [nD (i+1),.int way]) n k r=if a.2[i]<b.2[i] then r (.int (-way)) else if b.2[i]<a.2[i] then r (.int way) else n ():=by
 have q1:=h3 a.2[i] (List.getElem_mem ha)
 have q2:=h4 b.2[i] (List.getElem_mem hb)
 unfold wap
 rw [wdS,wri em a i ha hl,Option.bind_some,wri em b i hb hl2,Option.bind_some]
 rw [show cmpD .Lt (em a.2[i]) (em b.2[i])=some (decide (a.2[i]<b.2[i])) from E.lt _ _ q1 q2,Option.bind_some]
 by_cases c:a.2[i]<b.2[i]
 ·rw [if_pos (by simpa using c),if_pos c,neg_int,Option.bind_some]
 ·rw [if_neg (by simpa using c),if_neg c,show cmpD .Gt (em a.2[i]) (em b.2[i])=some (decide (b.2[i]<a.2[i])) from E.lt _ _ q2 q1,Option.bind_some]
  by_cases c2:b.2[i]<a.2[i]
  ·rw [if_pos (by simpa using c2),if_pos c2]
  ·rw [if_neg (by simpa using c2),if_neg c2]
theorem wtP (em:Nat->D) (self:D) (way:Int) (a b:Row) :
  forS (wap self (rowE em a) (rowE em b)) [.tuple [.int 0,.int (-2 * way)]] () (fun _=>some (.int 0)) some=some (.int (if a.1<b.1 then -(-2 * way) else if b.1<a.1 then -2 * way else 0)):=by
 show wap self (rowE em a) (rowE em b) () (.tuple [.int 0,.int (-2 * way)]) _ _ _=_
 unfold wap
 rw [wdS,woT,Option.bind_some,woT,Option.bind_some]
 rw [lt_int,Option.bind_some]
 by_cases c:a.1<b.1
 ·rw [if_pos (by simpa using c),if_pos c,neg_int,Option.bind_some]
 ·rw [if_neg (by simpa using c),if_neg c,gt_int,Option.bind_some]
  by_cases c2:b.1<a.1
  ·rw [if_pos (by simpa using c2),if_pos c2]
  ·rw [if_neg (by simpa using c2),if_neg c2];rfl
theorem wmL {S:Type} (B:S->D->(S->Option D)->(S->Option D)->(D->Option D)->Option D) (d:D) (ds:List D) (s:S) (n:S->Option D) (r:D->Option D) :
  forS B (d::ds) s n r=B s d (fun s'=>forS B ds s' n r) n r:=rfl
theorem wob (em:Nat->D) (E:EmOk em) (self:D) (way:Int) (a b:Row) (n:Nat) (ha:a.2.length=n) (hb:b.2.length=n) (hl:n<1000) (h3:∀ x∈a.2,x<3) (h4:∀ x∈b.2,x<3):∀ (j i:Nat),i+j=n ->
  forS (wap self (rowE em a) (rowE em b)) ((List.range' i j).map (fun (k:Nat)=>D.tuple [nD (k+1),.int way])++[.tuple [.int 0,.int (-2 * way)]]) () (fun _=>some (.int 0)) some =
   some (.int (cmpV way a.1 b.1 (lexC (a.2.drop i) (b.2.drop i))))
 | 0,i,h=>by
  have e1:a.2.drop i=[]:=List.drop_eq_nil_of_le (by omega)
  rw [e1]
  have e2:lexC [] (b.2.drop i)=0:=rfl
  rw [e2]
  exact wtP em self way a b
 | j+1,i,h=>by
  have hi:i<a.2.length:=by omega
  have hi2:i<b.2.length:=by omega
  rw [show List.range' i (j+1)=i::List.range' (i+1) j from rfl,List.map_cons,List.cons_append,wmL]
  rw [wvo em E self way a b i hi hi2 (by omega) (by omega) h3 h4,wob em E self way a b n ha hb hl h3 h4 j (i+1) (by omega)]
  rw [List.drop_eq_getElem_cons hi,List.drop_eq_getElem_cons hi2]
  by_cases c:a.2[i]<b.2[i]
  ·rw [if_pos c,wpT c];rfl
  ·rw [if_neg c]
   by_cases c2:b.2[i]<a.2[i]
   ·rw [if_pos c2,wpU c2];rfl
   ·rw [if_neg c2,wpV c c2]
noncomputable def okR (n:Nat) (r:Row):Prop:=r.2.length=n/\∀ x∈r.2,x<3
theorem wkO (em:Nat->D) (E:EmOk em) (way:Int) (n:Nat) (hl:n<1000) (a b:Row) (ha:okR n a) (hb:okR n b):waV (ordD way n) (rowE em a) (rowE em b)=some (.int (cmpT way a b)):=by
 unfold waV
 rw [wvH,Option.bind_some,wgh,if_pos (by unfold selL;simp only [List.length_append,List.length_map,List.length_range',List.length_cons,List.length_nil,waf];omega)]
 exact wob em E (ordD way n) way a b n ha.1 hb.1 hl ha.2 hb.2 n 0 (by omega)
noncomputable def aheadT (way:Int) (L:List Row) (r:Row):Nat:=(L.filter fun o=>decide (cmpT way o r<0)).length
noncomputable def insT (way:Int) (L:List Row) (r:Row):List Row:=L.take (aheadT way L r)++[r]++L.drop (aheadT way L r)
theorem wnM {way:Int} {L:List Row} {r o:Row} (h:o∈insT way L r):o∈L\/o=r:=by
 unfold insT at h
 simp only [List.mem_append,List.mem_singleton]at h
 rcases h with (h | h) | h
 ·exact .inl (List.mem_of_mem_take h)
 ·exact .inr h
 ·exact .inl (List.mem_of_mem_drop h)
theorem wnN (way:Int) (L:List Row) (r:Row):(insT way L r).length=L.length+1:=by
 unfold insT
 have:aheadT way L r<=L.length:=List.length_filter_le _ _
 simp only [List.length_append,List.length_take,List.length_drop,List.length_cons,List.length_nil];omega
theorem wng (em:Nat->D) (E:EmOk em) (ring wayD:D) (way:Int) (n:Nat) (hn:n<1000) (L:List Row) (r:Row) (hr:okR n r) (hL:∀ o∈L,okR n o) (hl:L.length<1000) (next b:D->Option D) (ret:D->Option D) :
  wa9 ring wayD (ordD way n) (.list (L.map (rowE em))) (rowE em r) next b ret=next (.list ((insT way L r).map (rowE em))):=by
 have hle:aheadT way L r<=L.length:=List.length_filter_le _ _
 unfold wa9
 rw [waB,Option.bind_some,if_pos (ldcap _ (by rw [waf];omega))]
 rw [waC (rowE em) (fun o=>decide (cmpT way o r<0)) (fun _=>.int 1) L (fun o ho=>by
  rw [wmY,if_pos (t_no way n),wsj,wkO em E way n hn o r (hL o ho) hr,Option.bind_some,lt_int,Option.bind_some,wfY]) (fun _ _ _=>rfl)]
 rw [Option.bind_some,lenD _ _ (by show aheadT way L r<=cap;rw [waf];omega),Option.bind_some]
 rw [show (L.filter fun o=>decide (cmpT way o r<0)).length=aheadT way L r from rfl,wp0,if_pos (wkW (by omega)),takeN _ (ldcap _ (by rw [waf];omega)),Option.bind_some]
 rw [wbm (by simp only [List.length_take,List.length_map,List.length_cons,List.length_nil,waf];omega),Option.bind_some,wp0,if_pos (wm4 (by omega)),dropN _ (ldcap _ (by rw [waf];omega)) (by simpa using hle),Option.bind_some]
 rw [wbm (by simp only [List.length_append,List.length_take,List.length_drop,List.length_map,List.length_cons,List.length_nil,waf];omega),Option.bind_some]
 unfold insT
 simp only [List.map_append,List.map_take,List.map_drop,List.map_cons,List.map_nil]
theorem wgP (em:Nat->D) (E:EmOk em) (ring wayD:D) (way:Int) (n:Nat) (hn:n<1000) (next:D->Option D) (ret:D->Option D):∀ (rows L:List Row),(∀ o∈rows,okR n o)->(∀ o∈L,okR n o)->L.length+rows.length<1000 ->
  forS (wa9 ring wayD (ordD way n)) (rows.map (rowE em)) (.list (L.map (rowE em))) next ret=next (.list ((rows.foldl (insT way) L).map (rowE em)))
 | [],L,_,_,_=>rfl
 | r::rows,L,hr,hL,hl=>by
  simp only [List.length_cons]at hl
  show wa9 ring wayD (ordD way n) _ (rowE em r) _ _ _=_
  rw [wng em E ring wayD way n hn L r (hr r (by simp)) hL (by omega)]
  exact wgP em E ring wayD way n hn next ret rows (insT way L r) (fun o ho=>hr o (by simp [ho])) (fun o ho=>by
   rcases wnM ho with h | h
   ·exact hL o h
   ·rw [h];exact hr r (by simp)) (by rw [wnN];omega)
noncomputable def okWay (way:Int):Prop:=way=1\/way=-1\/way=2\/way=-3
noncomputable def turnE (em:Nat->D) (t:List Nat):D:=.tuple (t.map em)
theorem neg2:unop .USub (.int 2)=some (.int (-2)):=rfl
theorem wk2 (em:Nat->D) (r:Row) (h:r.2.length<1000):cutD (some 1) none (rowE em r)=some (turnE em r.2):=by
 show (if _ then _ else _)=_
 rw [if_pos ⟨by decide,by simp only [List.length_cons,List.length_map];omega,by simp only [List.length_cons,List.length_map,waf];omega⟩]
 rfl
theorem wp9 (em:Nat->D) (E:EmOk em):∀ {a b:List Nat},(∀ x∈a,x<3)->(∀ x∈b,x<3)->(a.map em=b.map em ↔ a=b)
 | [],[],_,_=>by simp
 | [],_::_,_,_=>by simp
 | _::_,[],_,_=>by simp
 | x::a,y::b,ha,hb=>by
  simp only [List.map_cons,List.cons.injEq]
  rw [wp9 em E (fun z hz=>ha z (by simp [hz])) (fun z hz=>hb z (by simp [hz]))]
  constructor
  ·exact fun h=>⟨E.inj _ _ (ha x (by simp)) (hb y (by simp)) h.1,h.2⟩
  ·exact fun h=>⟨by rw [h.1],h.2⟩
theorem wi2 (em:Nat->D) (E:EmOk em) {t:List Nat} (h:∀ x∈t,x<3):Pln 1 (turnE em t):=.tuple 0 _ fun x hx=>by
 rw [List.mem_map]at hx;obtain ⟨y,hy,rfl⟩:=hx;exact E.pln y (h y hy)
theorem wuk (em:Nat->D) (E:EmOk em) {a b:List Nat} (ha:∀ x∈a,x<3) (hb:∀ x∈b,x<3):cmpD .Eq (turnE em a) (turnE em b)=some (decide (a=b)):=
 cmpEq (wi2 em E ha) (wi2 em E hb) (by decide) (by decide) (by unfold turnE;rw [D.tuple.injEq];exact wp9 em E ha hb)
noncomputable def dueW (way:Int) (a b:Row):Int:=if a.2=b.2 then 2 * (way.natAbs:Int) else (way.natAbs:Int)
noncomputable def okPair (way:Int) (p:Row×Row):Bool:=decide (cmpT way p.1 p.2=-dueW way p.1 p.2)&&decide (cmpT way p.2 p.1=dueW way p.1 p.2)&&decide (cmpT way p.1 p.1=0)
theorem wgR {i:Int} (h:i.natAbs<10 ^ 9):bfn .str [.int i]=some (.str (intText i)):=if_pos h
noncomputable def dueS:List Int:=[1,2,3,4,6]
theorem wr6 {way:Int} (h:okWay way) (a b:Row):dueW way a b∈dueS:=by
 have q:2 * (way.natAbs:Int)∈dueS/\(way.natAbs:Int)∈dueS:=by rcases h with rfl | rfl | rfl | rfl<;>decide
 unfold dueW
 split
 ·exact q.1
 ·exact q.2
theorem wvG:∀ i∈dueS,(PyData.strOk (mk (intText i))=true/\PyData.strOk (mk (intText (-i)))=true)/\i.natAbs<10 ^ 9/\(-i).natAbs<10 ^ 9:=by decide +kernel
theorem wsw:D.str (intText 0)=D.str [48]:=by kernel_rfl!
noncomputable def pairE (em:Nat->D) (p:Row×Row):D:=.tuple [rowE em p.1,rowE em p.2]
theorem wnf (em:Nat->D) (E:EmOk em) (ring line:D) (way:Int) (hw:okWay way) (n:Nat) (hn:n<900) (p:Row×Row) (h1:okR n p.1) (h2:okR n p.2) (h:okPair way p=true) (next b:Unit->Option D) (ret:D->Option D) :
  wbx ring (.int way) (ordD way n) line () (pairE em p) next b ret=next ():=by
 unfold okPair at h
 simp only [Bool.and_eq_true,decide_eq_true_eq]at h
 obtain ⟨⟨c1,c2⟩,c3⟩:=h
 have hs:=wvG _ (wr6 hw p.1 p.2)
 have hn':n<1000:=Nat.lt_trans hn (by decide)
 unfold wbx pairE
 refine un2 (bnS (a:=.int (dueW way p.1 p.2)) ?_ ?_)
 ·refine ifP whl (bnS (wk2 em p.1 (by rw [h1.1];exact hn')) (ifP whl (bnS (wk2 em p.2 (by rw [h2.1];exact hn')) (bnS (wuk em E h1.2 h2.2) ?_))))
  unfold dueW
  by_cases q:p.1.2=p.2.2
  ·rw [if_pos q]
   exact ifP (decide_eq_true q) (bnS (a:=.int way.natAbs) rfl (bnS (mul_int _ (by decide)) rfl))
  ·rw [if_neg q]
   exact ifN (fun e=>q (of_decide_eq_true e)) (bnS (a:=.int way.natAbs) rfl rfl)
 ·generalize dueW way p.1 p.2=du at *
  have cmp:∀ {a b:Row} {i:Int},okR n a->okR n b->cmpT way a b=i->cmOf tm_1 tN (Str.ofString "compare") [D.obj tN (tF way n),rowE em a,rowE em b]=some (.int i):=fun ha hb e=>e ▸ (wsj ..).trans (wkO em E way n hn' _ _ ha hb)
  refine (wmY ..).trans (ifP (t_no way n) (bnS (cmp h1 h2 c1) (bnS (wgR hs.2.2) ?_)))
  refine (wmY ..).trans (ifP (t_no way n) (bnS (cmp h2 h1 c2) (bnS (wgR hs.2.1) ?_)))
  refine (wmY ..).trans (ifP (t_no way n) (bnS (cmp h1 h1 c3) (bnS (wgR (by decide)) ?_)))
  refine bnS (neg_int du) (bnS (wgR hs.2.2) (bnS (wgR hs.2.1) ?_))
  rw [<- wsw]
  refine bnS (waQ (n:=1) (.list 0 _ fun x hx=>?_) (by decide)) rfl
  simp only [List.mem_cons,List.not_mem_nil,or_false]at hx
  rcases hx with rfl | rfl | rfl
  ·exact .str 0 _ hs.1.2
  ·exact .str 0 _ hs.1.1
  ·exact .str 0 _ (by decide +kernel)
theorem wgO (em:Nat->D) (E:EmOk em) (ring line:D) (way:Int) (hw:okWay way) (n:Nat) (hn:n<900) (next:Unit->Option D) (ret:D->Option D):∀ l:List (Row×Row),(∀ p∈l,okR n p.1/\okR n p.2/\okPair way p=true) ->
  forS (wbx ring (.int way) (ordD way n) line) (l.map (pairE em)) () next ret=next ()
 | [],_=>rfl
 | p::l,h=>by
  obtain ⟨h1,h2,h3⟩:=h p (by simp)
  rw [List.map_cons,wmL,wnf em E ring line way hw n hn p h1 h2 h3]
  exact wgO em E ring line way hw n hn next ret l fun q hq=>h q (by simp [hq])
theorem wl5 (em:Nat->D) (E:EmOk em):∀ {a b:List Nat},a.length=b.length->(∀ x∈a,x<3)->(∀ x∈b,x<3)->ltTup (a.map em) (b.map em)=some (decide (lexC a b<0))
 | [],[],_,_,_=>rfl
 | x::a,y::b,hl,ha,hb=>by
  have q1:=ha x (by simp);have q2:=hb y (by simp)
  simp only [List.map_cons,ltTup]
  rw [E.eq _ _ q1 q2,Option.bind_some]
  by_cases c:x=y
  ·rw [if_pos (by simpa using c),wl5 em E (by simpa using hl) (fun z hz=>ha z (by simp [hz])) (fun z hz=>hb z (by simp [hz])),wpV (by omega) (by omega)]
  ·rw [if_neg (by simpa using c),E.lt _ _ q1 q2]
   by_cases c2:x<y
   ·rw [wpT c2];simp [c2]
   ·rw [wpU (by omega)];simp;omega
noncomputable def bestL (pos:Bool):List (List Nat)->List Nat
 | []=>[]
 | x::r=>r.foldl (fun best y=>if (if pos then decide (lexC y best<0) else decide (lexC best y<0)) then y else best) x
theorem wfg (em:Nat->D) (E:EmOk em) (pos:Bool) (n:Nat):∀ (r:List (List Nat)) (x:List Nat),(∀ t∈x::r,t.length=n/\∀ y∈t,y<3) ->
  bestBy (fun a b=>if pos then ltD a b else ltD b a) (turnE em x) (r.map (turnE em))=some (turnE em (r.foldl (fun best y=>if (if pos then decide (lexC y best<0) else decide (lexC best y<0)) then y else best) x))
 | [],x,_=>rfl
 | y::r,x,h=>by
  obtain ⟨hx,hx3⟩:=h x (by simp)
  obtain ⟨hy,hy3⟩:=h y (by simp)
  simp only [List.map_cons,bestBy,List.foldl_cons]
  have e:(if pos then ltD (turnE em y) (turnE em x) else ltD (turnE em x) (turnE em y))=some (if pos then decide (lexC y x<0) else decide (lexC x y<0)):=by
   cases pos
   ·exact wl5 em E (by omega) hx3 hy3
   ·exact wl5 em E (by omega) hy3 hx3
  rw [e,Option.bind_some]
  generalize (if pos then decide (lexC y x<0) else decide (lexC x y<0))=bb
  cases bb
  ·exact wfg em E pos n r x fun t ht=>h t (by simp only [List.mem_cons]at ht ⊢;rcases ht with rfl | ht<;>simp [*])
  ·exact wfg em E pos n r y fun t ht=>h t (by simp only [List.mem_cons]at ht ⊢;rcases ht with rfl | ht<;>simp [*])
theorem wta (em:Nat->D) (E:EmOk em) (n:Nat) {l:List (List Nat)} (hne:l≠[]) (h:∀ t∈l,t.length=n/\∀ y∈t,y<3):bfn .min [.list (l.map (turnE em))]=some (turnE em (bestL true l)):=by
 cases l with
 | nil=>exact absurd rfl hne
 | cons x r=>exact wfg em E true n r x h
theorem wtc (em:Nat->D) (E:EmOk em) (n:Nat) {l:List (List Nat)} (hne:l≠[]) (h:∀ t∈l,t.length=n/\∀ y∈t,y<3):bfn .max [.list (l.map (turnE em))]=some (turnE em (bestL false l)):=by
 cases l with
 | nil=>exact absurd rfl hne
 | cons x r=>exact wfg em E false n r x h
theorem wsI {xs:List D} {i:Int}:sub (.tuple xs) (.int i)=nth xs i:=by unfold sub intK;rfl
theorem wmF (em:Nat->D) {t:List Nat} (h:t≠[]) (hl:t.length<9000):sub (turnE em t) (.int (-1))=some (em (t.getLastD 0)):=by
 obtain ⟨i,g,rfl⟩:=wmV h
 refine wsI.trans ?_
 unfold nth
 simp only [List.length_append,List.length_cons,List.length_nil]at hl
 rw [if_neg (by decide),if_pos (by simp only [List.length_map,List.length_append,List.length_cons,List.length_nil];omega)]
 have:((-1:Int)+(((i++[g]).map em).length:Int)).toNat=i.length:=by simp only [List.length_map,List.length_append,List.length_cons,List.length_nil];omega
 rw [this];simp
noncomputable def rowsOf (l:List Nat):List Row:=(List.range l.length).map fun k=>(k,l.drop k++l.take k)
noncomputable def lineT (way:Int) (l:List Nat):List Row:=(rowsOf l).foldl (insT way) []
noncomputable def lastsT (L:List (List Nat)):Nat:=((L.zip (L.drop 1)).filter fun p=>!decide (p.1.getLastD 0=p.2.getLastD 0)).length
noncomputable def turnedT (way:Int) (l:List Nat):Option Nat:=
 if ((lineT way l).zip ((lineT way l).drop 1)).all (okPair way)&&decide (((lineT way l).map (·.2)).head?=some (bestL (decide (0<way)) ((lineT way l).map (·.2)))) then some (lastsT ((lineT way l).map (·.2))) else none
theorem whb (way:Int):∀ (rows L:List Row),(rows.foldl (insT way) L).length=L.length+rows.length
 | [],L=>rfl
 | r::rows,L=>by rw [List.foldl_cons,whb way rows,wnN,List.length_cons];omega
theorem wha (way:Int) {o:Row}:∀ (rows L:List Row),o∈rows.foldl (insT way) L->o∈L\/o∈rows
 | [],L,h=>.inl h
 | r::rows,L,h=>by
  rw [List.foldl_cons]at h
  rcases wha way rows _ h with h | h
  ·rcases wnM h with h | h
   ·exact .inl h
   ·exact .inr (by simp [h])
  ·exact .inr (by simp [h])
theorem woS {l:List Nat} (h3:∀ x∈l,x<3):∀ o∈rowsOf l,okR l.length o:=by
 intro o ho
 unfold rowsOf at ho
 rw [List.mem_map]at ho
 obtain ⟨k,hk,rfl⟩:=ho
 rw [List.mem_range]at hk
 refine ⟨by simp only [List.length_append,List.length_drop,List.length_take];omega,?_⟩
 intro x hx
 rw [List.mem_append]at hx
 rcases hx with hx | hx
 ·exact h3 x (List.mem_of_mem_drop hx)
 ·exact h3 x (List.mem_of_mem_take hx)
theorem wx3 {xs:List D} (h:xs.length<=cap) (ha:1<=xs.length):cutD (some 1) none (.list xs)=some (.list (xs.drop 1)):=dropN 1 h ha
theorem zipE (a b:List D):zipQ [.list a,.list b]=some ((a.zip b).map fun p=>.tuple [p.1,p.2]):=rfl
theorem wm6 {α:Type} (f:α->D) (a b:List α):((a.map f).zip (b.map f)).map (fun p=>D.tuple [p.1,p.2])=(a.zip b).map fun p=>D.tuple [f p.1,f p.2]:=by
 rw [List.zip_map,List.map_map];rfl
structure RingOk (em:Nat->D) (ring:D) (l:List Nat):Prop where
 len:bfn .len [ring]=some (nD l.length)
 row:∀ k,k<l.length->(intK (nD k) fun i27=>
  if boundOk (some i27)&&boundOk none then (cutD (some i27) none ring).bind fun x28=>
  intK (nD k) fun i29=>
  if boundOk none&&boundOk (some i29) then (cutD none (some i29) ring).bind fun x30=>
  (binop .Add x28 x30).bind fun x31=>
  (bfn .tuple [x31]).bind fun x32=>
  (binop .Add (D.tuple [nD k]) x32).bind fun x33=>
  some x33 else none else none)=some (rowE em (k,l.drop k++l.take k))
theorem wnj {α:Type} (f:α->D) {L:List α} (h:L.length<=cap) (h1:1<=L.length):cutD (some 1) none (.list (L.map f))=some (.list ((L.drop 1).map f)):=
 (wx3 (ldcap f h) (by rw [List.length_map];exact h1)).trans (by rw [List.map_drop])
theorem woH {α:Type} (f:α->D) (a b:List α):zipQ [.list (a.map f),.list (b.map f)]=some ((a.zip b).map fun p=>D.tuple [f p.1,f p.2]):=(zipE _ _).trans (congrArg some (wm6 f a b))
theorem woI {α:Type} {L:List α} (h:L.length<=cap):(L.zip (L.drop 1)).length<=cap:=by rw [List.length_zip];exact Nat.le_trans (Nat.min_le_left _ _) h
theorem wrO {t:List Nat} {n:Nat} (hn:0<n) (h:t.length=n/\∀ y∈t,y<3):t≠[]/\t.getLastD 0<3:=by
 have n1:t≠[]:=fun e=>by rw [e]at h;exact absurd h.1 (Nat.ne_of_lt hn)
 refine ⟨n1,?_⟩
 rw [List.getLastD_eq_getLast?,List.getLast?_eq_some_getLast n1];exact h.2 _ (List.getLast_mem n1)
theorem wqm (em:Nat->D) (E:EmOk em) {n:Nat} (hn:0<n) (hn2:n<400) {L:List (List Nat)} (hL:L.length<=cap) (h1:1<=L.length) (h:∀ t∈L,t.length=n/\∀ y∈t,y<3):wdg (L.map (turnE em))=some (nD (lastsT L)):=by
 have hz:=woI hL
 unfold wdg
 refine ifP (whl) ?_
 refine bnS (wnj (turnE em) hL h1) ?_
 refine bnP (woH (turnE em) _ _) (ldcap _ hz) ?_
 refine bnS (waC (fun p:List Nat×List Nat=>D.tuple [turnE em p.1,turnE em p.2]) (fun p=>!decide (p.1.getLastD 0=p.2.getLastD 0)) (fun _=>.int 1) (L.zip (L.drop 1)) (fun p hp=>?c1) (fun _ _ _=>rfl)) (bnS (lenD _ _ (Nat.le_trans (List.length_filter_le _ _) hz)) rfl)
 have hz:=List.of_mem_zip (a:=p.1) (b:=p.2) hp
 have q1:=h p.1 hz.1
 have q2:=h p.2 (List.mem_of_mem_drop hz.2)
 have m1:=wrO hn q1
 have m2:=wrO hn q2
 refine un2 ?_
 refine bn4 (neg1) (wmF em m1.1 (by rw [q1.1];exact Nat.lt_trans hn2 (by decide))) (neg1) (wmF em m2.1 (by rw [q2.1];exact Nat.lt_trans hn2 (by decide))) ?_
 refine bnS (cmpNe (E.pln _ m1.2) (E.pln _ m2.2) (by decide) (by decide) (p:=p.1.getLastD 0=p.2.getLastD 0) ⟨fun h=>E.inj _ _ m1.2 m2.2 h,fun h=>by rw [h]⟩) ?_
 exact wfY _
theorem wqn (em:Nat->D) (E:EmOk em) {n:Nat} {way:Int} (hn:0<n) (hn2:n<400) {L:List Row} (hL:L.length<=cap) (h1:1<=L.length) (h:∀ o∈L,okR n o) (hb:(L.map (·.2)).head?=some (bestL (decide (0<way)) (L.map (·.2)))) :
  wdh (.list (L.map (rowE em))) (.int way)=some (nD (lastsT (L.map (·.2)))):=by
 have hts:∀ t∈L.map (·.2),t.length=n/\∀ y∈t,y<3:=fun t ht=>by
  obtain ⟨r,hr,rfl⟩:=List.mem_map.mp ht
  exact h r hr
 have htl:(L.map (·.2)).length=L.length:=List.length_map ..
 unfold wdh
 refine bnP (waB _) (ldcap _ hL) ?_
 refine bnS (a:=(L.map (·.2)).map (turnE em)) ((waY (rowE em) (fun r=>turnE em r.2) L fun r hr=>ifP whl (bnS (wk2 em r (by rw [(h r hr).1];exact Nat.lt_trans hn2 (by decide))) rfl)).trans (congrArg some (by rw [List.map_map];rfl))) ?_
 generalize L.map (·.2)=TT at *
 cases TT with
 | nil=>rw [<- htl]at h1;exact absurd h1 (by decide)
 | cons t0 tr=>
  have hb:=Option.some.inj hb
  refine bnS (a:=turnE em t0) rfl ?_
  refine bnS (a:=turnE em t0) (bnS (gt_int _ _) ?_) ?_
  ·by_cases q:0<way
   ·rw [decide_eq_true q]at hb
    exact ifP (decide_eq_true q) (bnS (wta em E n (List.cons_ne_nil _ _) hts) (by rw [<- hb]))
   ·rw [decide_eq_false q]at hb
    exact ifN (fun e=>q (of_decide_eq_true e)) (bnS (wtc em E n (List.cons_ne_nil _ _) hts) (by rw [<- hb]))
  ·exact bnS (waQ (wi2 em E (hts t0 List.mem_cons_self).2) (by decide)) (ifF (wqm em E hn hn2 (by rw [htl];exact hL) (by rw [htl];exact h1) hts))
theorem wmq (em:Nat->D) (E:EmOk em) (ring:D) (l:List Nat) (way:Int) (m:Nat) (hw:okWay way) (R:RingOk em ring l) (h3:∀ x∈l,x<3) (hl:0<l.length) (hl2:l.length<400) (h:turnedT way l=some m) :
  wbg ring (.int way)=some (nD m):=by
 have hrows:(rowsOf l).length=l.length:=by unfold rowsOf;rw [List.length_map,List.length_range]
 have hlen:(lineT way l).length=l.length:=by unfold lineT;rw [whb,hrows];exact Nat.zero_add _
 have hmem:∀ o∈lineT way l,okR l.length o:=fun o ho=>by
  rcases wha way _ _ ho with h | h
  ·exact nomatch h
  ·exact woS h3 o h
 have hcl:l.length<=cap:=Nat.le_trans (Nat.le_of_lt hl2) (by decide)
 have hcL:(lineT way l).length<=cap:=by rw [hlen];exact hcl
 have h1L:1<=(lineT way l).length:=by rw [hlen];exact hl
 unfold turnedT at h
 split at h
 case isFalse=>exact nomatch h
 rename_i hc
 cases h
 rw [Bool.and_eq_true,List.all_eq_true,decide_eq_true_eq]at hc
 have hadd:binop .Add (.list ((List.range l.length).map fun (k:Nat)=>D.tuple [nD (k+1),.int way])) (.list [.tuple [.int 0,.int (-2 * way)]])=some (.list (selL way l.length)):=by
  unfold selL
  rw [List.range_eq_range']
  exact wbm (by simp only [List.length_map,List.length_range',List.length_cons,List.length_nil,waf];omega)
 have hrg:(List.range l.length).length<=cap:=by rw [List.length_range];exact hcl
 unfold wbg
 refine bnS (R.len) ?_
 refine bnP (rng0 (by omega)) (ldcap _ hrg) ?_
 refine bnS (waY nD (fun (k:Nat)=>D.tuple [nD (k+1),.int way]) (List.range l.length) fun k _=>bnS (add1 k) rfl) ?_
 refine bn2 (neg2) (mul_int _ (by decide)) ?_
 refine bnS (hadd) ?_
 refine bnS (a:=ordD way l.length) rfl ?_
 refine bnS (R.len) ?_
 refine bnP (rng0 (by omega)) (ldcap _ hrg) ?_
 refine bnS (a:=(rowsOf l).map (rowE em)) ((waY nD (fun k=>rowE em (k,l.drop k++l.take k)) (List.range l.length) ?c1).trans (congrArg some (by unfold rowsOf;rw [List.map_map];rfl))) ?_
 case c1=>
  intro k hk
  exact R.row k (List.mem_range.mp hk)
 refine bnP (waB _) (ldcap _ (by rw [hrows];exact hcl)) ?_
 refine Eq.trans (wgP em E ring (.int way) way l.length (Nat.lt_trans hl2 (by decide)) _ _ (rowsOf l) [] (woS h3) (fun _ h=>nomatch h) (by rw [hrows,List.length_nil,Nat.zero_add];exact Nat.lt_trans hl2 (by decide))) ?_
 show wdi (.list ((lineT way l).map (rowE em))) ring (.int way) (ordD way l.length)=_
 unfold wdi
 refine ifP (whl) ?_
 refine bnS (wnj (rowE em) hcL h1L) ?_
 refine bnP (woH (rowE em) _ _) (ldcap _ (woI hcL)) ?_
 exact (wgO em E ring _ way hw l.length (Nat.lt_trans hl2 (by decide)) _ _ ((lineT way l).zip ((lineT way l).drop 1)) fun p hp=>by
  have hz:=List.of_mem_zip (a:=p.1) (b:=p.2) hp
  exact ⟨hmem _ hz.1,hmem _ (List.mem_of_mem_drop hz.2),hc.1 p hp⟩).trans (wqn em E hl hl2 hcL h1L hmem hc.2)
noncomputable def cD (c:Nat):D:=.str [c]
noncomputable abbrev Tb:=List (Key×Int)
noncomputable def tabD (t:Tb):D:=.dict (dV D.int t)
theorem strlen {w:Tx} (h:w.length<=cap):bfn .len [.str w]=some (nD w.length):=len_str h
theorem wpQ (a b:Nat):ltD (cD a) (cD b)=some (decide (a<b)):=by
 show some (decide (([a]:List Nat)<[b]))=_
 congr 1
 apply decide_eq_decide.mpr
 constructor
 ·intro h
  cases h with
  | rel h=>exact h
  | cons h=>cases h
 ·exact fun h=>List.Lex.rel h
theorem wjn:∀ (r:List Nat) (x:Nat),bestBy (fun a b=>ltD b a) (cD x) (r.map cD)=some (cD (r.foldl max x))
 | [],x=>rfl
 | y::r,x=>by
  simp only [List.map_cons,bestBy,List.foldl_cons]
  rw [wpQ,Option.bind_some]
  by_cases h:x<y
  ·rw [if_pos (by simpa using h),wjn r y,show max x y=y by omega]
  ·rw [if_neg (by simpa using h),wjn r x,show max x y=x by omega]
theorem wuU {l:List Nat} (h:l≠[]):bfn .max [.str l]=some (cD (mx l)):=by
 cases l with
 | nil=>exact absurd rfl h
 | cons x r=>
  show bestBy _ (cD x) (r.map cD)=_
  rw [wjn];unfold mx;rw [List.foldl_cons,Nat.max_eq_right (Nat.zero_le _)]
theorem who:∀ (r:List Int) (x:Int),bestBy (fun a b=>ltD b a) (.int x) (r.map D.int)=some (.int (r.foldl max x))
 | [],x=>rfl
 | y::r,x=>by
  simp only [List.map_cons,bestBy,List.foldl_cons]
  rw [show ltD (.int x) (.int y)=some (decide (x<y)) from rfl,Option.bind_some]
  by_cases h:x<y
  ·rw [if_pos (by simpa using h),who r y,show max x y=y by omega]
  ·rw [if_neg (by simpa using h),who r x,show max x y=x by omega]
theorem whn:∀ (r:List Int) (x:Int),bestBy ltD (.int x) (r.map D.int)=some (.int (r.foldl min x))
 | [],x=>rfl
 | y::r,x=>by
  simp only [List.map_cons,bestBy,List.foldl_cons]
  rw [show ltD (.int y) (.int x)=some (decide (y<x)) from rfl,Option.bind_some]
  by_cases h:y<x
  ·rw [if_pos (by simpa using h),whn r y,show min x y=y by omega]
  ·rw [if_neg (by simpa using h),whn r x,show min x y=x by omega]
noncomputable def maxI:List Int->Int
 | []=>0
 | x::r=>r.foldl max x
noncomputable def minI:List Int->Int
 | []=>0
 | x::r=>r.foldl min x
theorem wu8 {l:List Int} (h:l≠[]):bfn .max [.list (l.map D.int)]=some (.int (maxI l)):=by
 cases l with
 | nil=>exact absurd rfl h
 | cons x r=>exact who r x
theorem wu7 {l:List Int} (h:l≠[]):bfn .min [.list (l.map D.int)]=some (.int (minI l)):=by
 cases l with
 | nil=>exact absurd rfl h
 | cons x r=>exact whn r x
theorem wn5 {α:Type} (f:α->D):∀ (A:List Nat) (l:List α),List.zipWith (fun (i:Nat) (x:D)=>D.tuple [.int (i:Int),x]) A (l.map f)=(A.zip l).map fun p=>D.tuple [nD p.1,f p.2]
 | [],l=>rfl
 | a::A,[]=>rfl
 | a::A,x::l=>by
  simp only [List.map_cons,List.zipWith_cons_cons,List.zip_cons_cons,wn5 f A l]
theorem wp8 {α:Type} (f:α->D) (l:List α):enumQ [.list (l.map f)]=some (((List.range l.length).zip l).map fun p=>D.tuple [nD p.1,f p.2]):=by
 show some (enumD (l.map f))=_
 unfold enumD
 rw [List.length_map,wn5]
theorem wuq {xs:Tx} {i:Nat} (h:i<xs.length) (h2:i<100000):sub (.str xs) (nD i)=some (cD (xs.getD i 0)):=by
 refine wsJ.trans ?_
 unfold nth
 rw [if_pos (by omega),if_pos (by omega)]
 rw [show ((i:Int)).toNat=i by omega,List.getElem?_eq_getElem h,List.getD_eq_getElem?_getD,List.getElem?_eq_getElem h];rfl
noncomputable def newTabs (cs:List Nat) (w:Nat) (tabs:List Tb):List Tb:=((List.range tabs.length).zip tabs).map fun p=>incV (.s [cs.getD ((p.1+w - 1) % cs.length) 0]) 1 p.2
noncomputable def cnts (mark:Nat) (tabs:List Tb):List Int:=tabs.map fun t=>(getV (.s [mark]) t).getD 0
noncomputable def tabStep (cs:List Nat) (s:Int×List Tb) (w:Nat):Option (Int×List Tb):=
 if ((s.2.zip (newTabs cs w s.2)).all fun p=>decide ((p.1.map (·.2)).sum=(w:Int) - 1)&&decide ((p.2.map (·.2)).sum=(w:Int)))&&decide (0<w)&&decide (w<100) then
  some (max s.1 (maxI (cnts (mx cs) (newTabs cs w s.2)) - minI (cnts (mx cs) (newTabs cs w s.2))),newTabs cs w s.2)
 else none
noncomputable def okT (k:Nat) (t:Tb):Prop:=(t.map (·.1)).Nodup/\t.length<=k
theorem wdN (cs:List Nat) (w:Nat) (tabs:List Tb):(newTabs cs w tabs).length=tabs.length:=by
 unfold newTabs;simp
theorem wqx {cs:List Nat} {w k:Nat} {tabs:List Tb} (h:∀ t∈tabs,okT k t):∀ t∈newTabs cs w tabs,okT (k+1) t:=by
 intro t ht
 unfold newTabs at ht
 rw [List.mem_map]at ht
 obtain ⟨p,hp,rfl⟩:=ht
 have hz:=List.of_mem_zip (a:=p.1) (b:=p.2) hp
 have q:=h p.2 hz.2
 refine ⟨wer q.1,?_⟩
 have:=wnn (.s [cs.getD ((p.1+w - 1) % cs.length) 0]) ((getV (.s [cs.getD ((p.1+w - 1) % cs.length) 0]) p.2).getD 0+1) p.2
 unfold incV
 have:=q.2;omega
theorem wuV {α:Type} (f:α->D) (v:D) (l:List α) (h:∀ x∈l,f x=v):l.map f=List.replicate l.length v:=by
 induction l with
 | nil=>rfl
 | cons x l ih=>
  rw [List.map_cons,h x (by simp),ih fun y hy=>h y (by simp [hy])];rfl
theorem woa {α:Type} (em:α->D) (g:α->D) {c:D->Option Bool} {f:D->Option D} (xs:List α) (hc:∀ x∈xs,c (em x)=some true) (hf:∀ x∈xs,f (em x)=some (g x)):compQ c f (xs.map em)=some (xs.map g):=
 (waC em (fun _=>true) g xs hc fun x h _=>hf x h).trans (by rw [wkI])
theorem wvb (m:Nat) (t:Tb):mfn (.dict (dV D.int t)) .get [cD m,.int 0]=some (.int ((getV (.s [m]) t).getD 0)):=by
 refine Eq.trans (show _=some ((kget (.s [m]) (dV D.int t)).getD (.int 0)) from rfl) ?_
 rw [wew]
 cases getV (.s [m]) t<;>rfl
theorem wum {N:List Tb} {m:Nat} {a:Int} {x:D} {n:D×D->Option D} (h:N.length<=cap) (h0:N≠[]):wdj (N.map tabD) (cD m) (.int a,x) n=n (.int (max a (maxI (cnts m N) - minI (cnts m N))),.list (N.map tabD)):=by
 have hcn:cnts m N≠[]:=fun e=>h0 (List.map_eq_nil_iff.mp e)
 unfold wdj
 refine bnP (waB _) (ldcap _ h) ?_
 refine bnS (a:=(cnts m N).map D.int) ((waY tabD (fun t=>.int ((getV (.s [m]) t).getD 0)) N fun t _=>(wn7 _ _).trans (bnS (wvb m t) rfl)).trans (congrArg some (by unfold cnts;rw [List.map_map];rfl))) ?_
 refine bn4 (wu8 hcn) (wu7 hcn) (sub_int _ _) (wid _ _) ?_
 rfl
theorem wun {N M:List Tb} {cs:List Nat} {m w k:Nat} {a:Int} {ret:D->Option D} {n:D×D->Option D} (hn:0<cs.length) (hn2:cs.length<1000) (hk:k<1000) (hl:M.length=cs.length) (hl2:N.length=cs.length) (hM:∀ t∈M,okT k t) (hN:∀ t∈N,okT (k+1) t)
  (hs:∀ p∈M.zip N,(p.1.map (·.2)).sum=(w:Int) - 1/\(p.2.map (·.2)).sum=(w:Int)) :
  wdk (.int a,.list (M.map tabD)) (N.map tabD) (nD w) (.str cs) ret (cD m) n=n (.int (max a (maxI (cnts m N) - minI (cnts m N))),.list (N.map tabD)):=by
 have hc:cs.length<=cap:=Nat.le_trans (Nat.le_of_lt hn2) (by decide)
 have hz:(M.zip N).length=cs.length:=by rw [List.length_zip,hl,hl2];exact Nat.min_self _
 have hrep:binop .Mult (.list [.tuple [.int ((w:Int) - 1),nD w]]) (nD cs.length)=some (.list (List.replicate cs.length (.tuple [.int ((w:Int) - 1),nD w]))):=by
  show (if _ then _ else _)=_
  rw [if_pos ⟨rfl,by omega,by omega⟩];simp
 have hmr:=wuV (fun p:Tb×Tb=>D.tuple [.int (p.1.map (·.2)).sum,.int (p.2.map (·.2)).sum]) (.tuple [.int ((w:Int) - 1),nD w]) (M.zip N) fun p hp=>by
  have:=hs p hp
  rw [this.1,this.2]
 rw [hz]at hmr
 unfold wdk
 refine bnP ((zipE _ _).trans (congrArg some (wm6 tabD M N))) ((by rw [List.length_map,hz];exact hc)) ?_
 refine bnS (a:=List.replicate cs.length (.tuple [.int ((w:Int) - 1),nD w])) ((woa (fun p:Tb×Tb=>D.tuple [tabD p.1,tabD p.2]) (fun p=>.tuple [.int (p.1.map (·.2)).sum,.int (p.2.map (·.2)).sum]) (M.zip N) (fun _ _=>rfl) ?c1).trans (congrArg some hmr)) ?_
 case c1=>
  intro p hp
  have hz:=List.of_mem_zip (a:=p.1) (b:=p.2) hp
  exact un2 (bnS (wn9 _ (Nat.lt_of_le_of_lt (hM p.1 hz.1).2 (Nat.lt_trans hk (by decide)))) (bnS (wn9 _ (Nat.lt_of_le_of_lt (hN p.2 hz.2).2 (Nat.lt_trans (Nat.succ_lt_succ hk) (by decide)))) rfl))
 refine bn3 ((show binop .Sub (nD w) (.int 1)=some (.int ((w:Int) - 1)) from rfl)) (strlen hc) (hrep) ?_
 refine bnS (waQ (n:=2) (.list 1 _ fun x hx=>by rw [(List.mem_replicate.mp hx).2];exact .tuple 0 _ fun y hy=>by rcases List.mem_cons.mp hy with rfl | hy;exact .int _ _;rw [List.mem_singleton.mp hy];exact .int _ _) (by decide)) ?_
 refine ifF ?_
 exact wum (by rw [hl2];exact hc) fun e=>by rw [e]at hl2;exact Nat.ne_of_lt hn hl2
theorem wsF (cs:List Nat) (hn:0<cs.length) (hn2:cs.length<1000) (s s':Int×List Tb) (w k:Nat) (hk:k<1000) (hl:s.2.length=cs.length) (ht:∀ t∈s.2,okT k t) (h:tabStep cs s w=some s') (n b:D×D->Option D) (r:D->Option D) :
  wby (.str cs) (cD (mx cs)) (.int s.1,.list (s.2.map tabD)) (nD w) n b r=n (.int s'.1,.list (s'.2.map tabD))/\s'.2.length=cs.length/\∀ t∈s'.2,okT (k+1) t:=by
 unfold tabStep at h
 split at h
 case isFalse=>exact nomatch h
 rename_i hc
 simp only [Bool.and_eq_true,List.all_eq_true,decide_eq_true_eq]at hc
 obtain ⟨⟨hsum,hw0⟩,hw1⟩:=hc
 cases h
 have hnl:=(wdN cs w s.2).trans hl
 have hno:=wqx (cs:=cs) (w:=w) ht
 refine ⟨?_,hnl,hno⟩
 have hcs:cs.length<=cap:=Nat.le_trans (Nat.le_of_lt hn2) (by decide)
 have hc:((List.range s.2.length).zip s.2).length<=cap:=by rw [List.length_zip,hl];exact Nat.le_trans (Nat.min_le_right _ _) (hl ▸ hcs)
 unfold wby
 refine bnP (wp8 tabD s.2) (ldcap _ hc) ?_
 refine bnS (a:=(newTabs cs w s.2).map tabD) ((woa (fun p:Nat×Tb=>D.tuple [nD p.1,tabD p.2]) (fun p=>tabD (incV (.s [cs.getD ((p.1+w - 1) % cs.length) 0]) 1 p.2)) ((List.range s.2.length).zip s.2) (fun _ _=>rfl) ?c1).trans (congrArg some (by unfold newTabs;rw [List.map_map];rfl))) ?_
 case c1=>
  intro p hp
  have hz:=List.of_mem_zip (a:=p.1) (b:=p.2) hp
  have q:=ht p.2 hz.2
  have hm:=Nat.mod_lt (p.1+w - 1) hn
  have e1:binop .Sub (nD (p.1+w)) (.int 1)=some (nD (p.1+w - 1)):=by rw [sub_int];exact congrArg (fun z=>some (D.int z)) (by omega)
  refine un2 ?_
  refine bn4 (addnn _ _) (e1) (strlen hcs) (modnn _ hn) ?_
  refine bnS (wuq hm (Nat.lt_trans hm (Nat.lt_trans hn2 (by decide)))) ?_
  refine bn2 ((show toKey (cD (cs.getD ((p.1+w - 1) % cs.length) 0))=some (.s [cs.getD ((p.1+w - 1) % cs.length) 0]) from rfl)) (wwh _ _ _ q.1 (Nat.lt_of_le_of_lt q.2 (Nat.lt_trans hk (by decide)))) ?_
  rfl
 exact wun hn hn2 hk hl hnl ht hno hsum
noncomputable def tablesT (cs:List Nat):Option Int:=(runO (tabStep cs) (List.range' 1 (cs.length / 2)) (0,cs.map fun _=>[])).map (·.1)
theorem wrb (cs:List Nat) (m:Int) (hn:0<cs.length) (hn2:cs.length<100) (h:tablesT cs=some m):wbE (.str cs)=some (.int m):=by
 unfold tablesT at h
 simp only [Option.map_eq_some_iff]at h
 obtain ⟨s,hrun,rfl⟩:=h
 unfold wbE
 have hcs:cs.length<=cap:=Nat.le_trans (Nat.le_of_lt hn2) (by decide)
 refine bnS (wuU (fun e=>by rw [e]at hn;exact Nat.lt_irrefl 0 hn)) ?_
 refine bnP ((show keysOf (.str cs)=some (cs.map cD) from rfl)) (ldcap _ hcs) ?_
 refine bn4 (waY cD (fun _=>.dict []) cs (fun _ _=>rfl)) (strlen hcs) ((show binop .FloorDiv (nD cs.length) (.int 2)=some (nD (cs.length / 2)) from fdivN _ (by decide) (by decide))) (add1 _) ?_
 refine bnP (rng1 (by omega)) (ldcap _ (by rw [List.length_range',waf];omega)) ?_
 rw [show ((D.int 0,D.list (cs.map fun _=>D.dict [])):D×D)=(.int 0,.list ((cs.map fun _=>([]:Tb)).map tabD)) by rw [List.map_map];rfl]
 refine Eq.trans (wgl (B:=wby (.str cs) (cD (mx cs))) nD (fun s:Int×List Tb=>(.int s.1,.list (s.2.map tabD))) (tabStep cs) (fun xs s=>s.2.length=cs.length/\∃ k,k+xs.length<900/\∀ t∈s.2,okT k t) (List.range' 1 (cs.length / 2)) (0,cs.map fun _=>[]) s
  (fun x xs s s' hi e=>by
   obtain ⟨h1,k,h2,h3⟩:=hi
   simp only [List.length_cons]at h2
   have q:=fun n b r=>wsF cs hn (by omega) s s' x k (by omega) h1 h3 e n b r
   have q0:=q (fun _=>none) (fun _=>none) (fun _=>none)
   exact ⟨⟨q0.2.1,k+1,by omega,q0.2.2⟩,fun n b r=>(q n b r).1⟩) ⟨by simp,0,by rw [List.length_range'];omega,fun t ht=>by
   rw [List.mem_map]at ht
   obtain ⟨_,_,rfl⟩:=ht
   exact ⟨by simp,by simp⟩⟩ hrun) ?_
 rfl
theorem wjf (k:Key) (v:Int):∀ (l:Tb) (k':Key),getV k' (putV k v l)=if k'=k then (getV k l).map (fun _=>v) else getV k' l
 | [],k'=>by simp [putV,getV]
 | (a,x)::r,k'=>by
  unfold putV
  have e1:∀ (y:Int) (q:Tb) (m:Key),getV m ((a,y)::q)=if a=m then some y else getV m q:=fun _ _ _=>rfl
  by_cases h:a=k
  ·rw [if_pos h,e1,e1,if_pos h,wjf k v r k',e1]
   by_cases h2:k'=k
   ·have hk:a=k':=by rw [h,h2]
    simp [h2,hk]
   ·rw [if_neg h2,if_neg h2,if_neg (fun q=>h2 (by rw [<- q,h])),if_neg (fun q=>h2 (by rw [<- q,h]))]
  ·rw [if_neg h,e1,e1,if_neg h,wjf k v r k',e1]
   by_cases h2:k'=k
   ·rw [if_pos h2,if_pos h2,if_neg (fun q=>h (by rw [q,h2]))]
   ·rw [if_neg h2,if_neg h2]
theorem wnS (k:Key) (p:Key×Int):∀ l:Tb,getV k (l++[p])=match getV k l with | some v=>some v | none=>if p.1=k then some p.2 else none
 | []=>rfl
 | (a,x)::r=>by
  rw [List.cons_append]
  simp only [getV]
  by_cases h:a=k
  ·rw [if_pos h,if_pos h]
  ·rw [if_neg h,if_neg h,wnS k p r]
theorem wtx (k m:Key) (l:Tb):(getV m (incV k 1 l)).getD 0=(getV m l).getD 0+if k=m then 1 else 0:=by
 unfold incV setV
 cases h:getV k l with
 | none=>
  simp only [Option.isSome_none,Bool.false_eq_true,if_false,Option.getD_none]
  rw [wnS]
  by_cases e:k=m
  ·subst e;rw [h];simp
  ·cases getV m l<;>simp [e]
 | some old=>
  simp only [Option.isSome_some,if_true,Option.getD_some]
  rw [wjf,h]
  by_cases e:m=k
  ·subst e;rw [if_pos rfl,if_pos rfl,h];rfl
  ·rw [if_neg e,if_neg (Ne.symm e)];simp
theorem wnw {k:Key} {v:Int}:∀ {l:Tb},k ∉ l.map (·.1)->putV k v l=l
 | [],_=>rfl
 | (a,x)::r,h=>by
  simp only [List.map_cons,List.mem_cons,not_or]at h
  unfold putV
  rw [if_neg (Ne.symm h.1),wnw h.2]
theorem woO (k:Key) (v old:Int):∀ (l:Tb),(l.map (·.1)).Nodup->getV k l=some old->((putV k v l).map (·.2)).sum=(l.map (·.2)).sum+(v - old)
 | [],_,h=>by cases h
 | (a,x)::r,h,g=>by
  simp only [List.map_cons,List.nodup_cons]at h
  unfold getV at g
  unfold putV
  by_cases e:a=k
  ·rw [if_pos e]at g ⊢
   cases g
   rw [wnw (by rw [<- e];exact h.1)]
   simp only [List.map_cons,List.sum_cons]
   omega
  ·rw [if_neg e]at g ⊢
   simp only [List.map_cons,List.sum_cons]
   rw [woO k v old r h.2 g]
   omega
theorem wuo (k:Key) (l:Tb) (h:(l.map (·.1)).Nodup):((incV k 1 l).map (·.2)).sum=(l.map (·.2)).sum+1:=by
 unfold incV setV
 cases e:getV k l with
 | none=>simp
 | some old=>
  simp only [Option.isSome_some,if_true,Option.getD_some]
  rw [woO k _ old l h e]
  omega
theorem wuO (cs:List Nat) (w:Nat) (tabs:List Tb) (k:Nat) (h:k<tabs.length):(newTabs cs w tabs)[k]?=some (incV (.s [cs.getD ((k+w - 1) % cs.length) 0]) 1 tabs[k]):=by
 unfold newTabs
 rw [List.getElem?_map,List.getElem?_eq_getElem (by simpa using h)]
 simp
noncomputable def rot (j:Nat) (l:List Nat):List Nat:=l.drop j++l.take j
noncomputable def maxN:List Nat->Nat
 | []=>0
 | x::r=>r.foldl max x
noncomputable def minN:List Nat->Nat
 | []=>0
 | x::r=>r.foldl min x
noncomputable def fastT (ind:List Nat):List Nat->Nat×List Nat->Nat×List Nat
 | [],s=>s
 | j::js,s=>
  let c:=List.zipWith (·+·) s.2 (rot j ind)
  fastT ind js (max s.1 (maxN c - minN c),c)
noncomputable def tablesF (cs:List Nat):Nat:=(fastT (cs.map fun c=>if c=mx cs then 1 else 0) (List.range (cs.length / 2)) (0,cs.map fun _=>0)).1
theorem wof:∀ (l:List Nat) (x:Nat),(l.map fun (n:Nat)=>(n:Int)).foldl max (x:Int)=((l.foldl max x:Nat):Int)
 | [],x=>rfl
 | y::l,x=>by
  rw [List.map_cons,List.foldl_cons,List.foldl_cons,show max (x:Int) (y:Int)=((max x y:Nat):Int) from (castMax x y).symm,wof l]
theorem woe:∀ (l:List Nat) (x:Nat),(l.map fun (n:Nat)=>(n:Int)).foldl min (x:Int)=((l.foldl min x:Nat):Int)
 | [],x=>rfl
 | y::l,x=>by
  rw [List.map_cons,List.foldl_cons,List.foldl_cons,show min (x:Int) (y:Int)=((min x y:Nat):Int) from (castMin x y).symm,woe l]
theorem wrI (l:List Nat):maxI (l.map fun (n:Nat)=>(n:Int))=((maxN l:Nat):Int):=by
 cases l with
 | nil=>rfl
 | cons x r=>exact wof r x
theorem wrG (l:List Nat):minI (l.map fun (n:Nat)=>(n:Int))=((minN l:Nat):Int):=by
 cases l with
 | nil=>rfl
 | cons x r=>exact woe r x
theorem wiQ:∀ (l:List Nat) (x:Nat),l.foldl min x<=x
 | [],x=>Nat.le_refl _
 | y::l,x=>by
  rw [List.foldl_cons]
  have:=wiQ l (min x y);omega
theorem wqy (l:List Nat):minN l<=maxN l:=by
 cases l with
 | nil=>exact Nat.le_refl _
 | cons x r=>
  have a:=wiQ r x
  have b:=wfw r x
  unfold minN maxN;dsimp only;omega
structure TInv (cs:List Nat) (w:Nat) (tabs:List Tb) (c:List Nat):Prop where
 len:tabs.length=cs.length
 clen:c.length=cs.length
 nd:∀ t∈tabs,(t.map (·.1)).Nodup
 sum:∀ t∈tabs,(t.map (·.2)).sum=(w:Int)
 cnt:cnts (mx cs) tabs=c.map fun (n:Nat)=>(n:Int)
theorem wuy {l:List Nat} {j:Nat} (hj:j<=l.length):(rot j l).length=l.length:=by
 unfold rot;rw [List.length_append,List.length_drop,List.length_take,Nat.min_eq_left hj,Nat.sub_add_cancel hj]
theorem wuz (l:List Nat) (j k:Nat) (hj:j<l.length) (hk:k<l.length):(rot j l)[k]?=l[(k+j) % l.length]?:=by
 unfold rot
 by_cases h:k+j<l.length
 ·rw [List.getElem?_append_left (by rw [List.length_drop];exact Nat.lt_sub_of_add_lt h),List.getElem?_drop,Nat.mod_eq_of_lt h,Nat.add_comm]
 ·have h:l.length<=k+j:=Nat.not_lt.mp h
  have h2:k+j - l.length<j:=Nat.sub_lt_left_of_lt_add h (Nat.add_lt_add_right hk j)
  rw [List.getElem?_append_right (by rw [List.length_drop];exact Nat.sub_le_of_le_add h),List.length_drop,Nat.sub_sub_right k (Nat.le_of_lt hj),List.getElem?_take,if_pos h2,Nat.mod_eq_sub_mod h,Nat.mod_eq_of_lt (Nat.lt_trans h2 hj)]
theorem wq9 {cs:List Nat} {w:Nat} {tabs:List Tb} {c:List Nat} (hn:0<cs.length) (hw:w<cs.length) (iv:TInv cs w tabs c) :
  TInv cs (w+1) (newTabs cs (w+1) tabs) (List.zipWith (·+·) c (rot w (cs.map fun x=>if x=mx cs then 1 else 0))):=by
 have hrl:(rot w (cs.map fun x=>if x=mx cs then 1 else 0)).length=cs.length:=by
  rw [wuy (by rw [List.length_map];exact Nat.le_of_lt hw),List.length_map]
 have hmem:∀ t∈newTabs cs (w+1) tabs,∃ t0∈tabs,∃ x,t=incV (.s [x]) 1 t0:=by
  intro t ht
  unfold newTabs at ht
  rw [List.mem_map]at ht
  obtain ⟨p,hp,rfl⟩:=ht
  exact ⟨p.2,(List.of_mem_zip (a:=p.1) (b:=p.2) hp).2,_,rfl⟩
 refine ⟨by rw [wdN,iv.len],by rw [List.length_zipWith,iv.clen,hrl];exact Nat.min_self _,?_,?_,?_⟩
 ·intro t ht
  obtain ⟨t0,h0,x,rfl⟩:=hmem t ht
  exact wer (iv.nd t0 h0)
 ·intro t ht
  obtain ⟨t0,h0,x,rfl⟩:=hmem t ht
  rw [wuo _ _ (iv.nd t0 h0),iv.sum t0 h0];rfl
 ·apply List.ext_getElem
  ·unfold cnts
   rw [List.length_map,wdN,List.length_map,List.length_zipWith,iv.clen,hrl,iv.len];exact (Nat.min_self _).symm
  ·intro k h1 h2
   have hk:k<cs.length:=by
    unfold cnts at h1
    rw [List.length_map,wdN,iv.len]at h1;exact h1
   have hkt:k<tabs.length:=by rw [iv.len];exact hk
   have hkc:k<c.length:=by rw [iv.clen];exact hk
   have hold:=congrArg (fun l=>l[k]?) iv.cnt
   unfold cnts at hold
   simp only [List.getElem?_map,List.getElem?_eq_getElem hkt,List.getElem?_eq_getElem hkc,Option.map_some,Option.some.injEq]at hold
   have hnew:(cnts (mx cs) (newTabs cs (w+1) tabs))[k]=(getV (.s [mx cs]) (incV (.s [cs.getD ((k+(w+1) - 1) % cs.length) 0]) 1 tabs[k])).getD 0:=by
    have q:(cnts (mx cs) (newTabs cs (w+1) tabs))[k]?=some ((getV (.s [mx cs]) (incV (.s [cs.getD ((k+(w+1) - 1) % cs.length) 0]) 1 tabs[k])).getD 0):=by
     unfold cnts
     rw [List.getElem?_map,wuO cs (w+1) tabs k hkt];rfl
    rw [List.getElem?_eq_getElem h1]at q
    exact Option.some.inj q
   rw [hnew,wtx,hold]
   simp only [List.getElem_map,List.getElem_zipWith]
   have hr:=wuz (cs.map fun x=>if x=mx cs then 1 else 0) w k (by rw [List.length_map];exact hw) (by rw [List.length_map];exact hk)
   have hm:(k+w) % cs.length<cs.length:=Nat.mod_lt _ hn
   rw [List.getElem?_eq_getElem (by rw [hrl];exact hk),List.length_map,List.getElem?_map,List.getElem?_eq_getElem hm,Option.map_some,Option.some.injEq]at hr
   rw [hr,show k+(w+1) - 1=k+w from rfl,List.getD_eq_getElem?_getD,List.getElem?_eq_getElem hm,Option.getD_some]
   by_cases q:cs[(k+w) % cs.length]=mx cs
   ·rw [if_pos (by rw [q]),if_pos q];rfl
   ·rw [if_neg (by simpa using q),if_neg q];rfl
theorem wnW {cs:List Nat} (hn:0<cs.length) (hn2:cs.length<100):∀ (j w:Nat) (sp:Nat) (tabs:List Tb) (c:List Nat),w+j<=cs.length->TInv cs w tabs c ->
  (runO (tabStep cs) (List.range' (w+1) j) ((sp:Int),tabs)).map (·.1)=some (((fastT (cs.map fun x=>if x=mx cs then 1 else 0) (List.range' w j) (sp,c)).1:Nat):Int)
 | 0,w,sp,tabs,c,_,_=>rfl
 | j+1,w,sp,tabs,c,hj,iv=>by
  have iv':=wq9 hn (by omega) iv
  rw [show List.range' (w+1) (j+1)=(w+1)::List.range' (w+1+1) j from rfl,show List.range' w (j+1)=w::List.range' (w+1) j from rfl]
  unfold runO
  have hst:tabStep cs ((sp:Int),tabs) (w+1)=some (((max sp (maxN (List.zipWith (·+·) c (rot w (cs.map fun x=>if x=mx cs then 1 else 0))) - minN (List.zipWith (·+·) c (rot w (cs.map fun x=>if x=mx cs then 1 else 0)))):Nat):Int),newTabs cs (w+1) tabs):=by
   unfold tabStep
   rw [if_pos ?_]
   ·rw [iv'.cnt,wrI,wrG]
    have:=wqy (List.zipWith (·+·) c (rot w (cs.map fun x=>if x=mx cs then 1 else 0)))
    refine congrArg (fun z=>some (z,_)) ?_
    rw [castMax,Int.ofNat_sub this]
   ·simp only [Bool.and_eq_true,List.all_eq_true,decide_eq_true_eq]
    refine ⟨⟨fun p hp=>?_,Nat.succ_pos w⟩,by omega⟩
    have hz:=List.of_mem_zip (a:=p.1) (b:=p.2) hp
    exact ⟨by rw [iv.sum _ hz.1];exact (Int.add_sub_cancel (w:Int) 1).symm,iv'.sum _ hz.2⟩
  rw [hst]
  exact wnW hn hn2 j (w+1) _ _ _ (by omega) iv'
theorem woq (cs:List Nat) (hn:0<cs.length) (hn2:cs.length<100):tablesT cs=some ((tablesF cs:Nat):Int):=by
 unfold tablesT tablesF
 have iv0:TInv cs 0 (cs.map fun _=>[]) (cs.map fun _=>0):=by
  refine ⟨by simp,by simp,?_,?_,?_⟩
  ·intro t ht;rw [List.mem_map]at ht;obtain ⟨_,_,rfl⟩:=ht;simp
  ·intro t ht;rw [List.mem_map]at ht;obtain ⟨_,_,rfl⟩:=ht;simp
  ·unfold cnts;rw [List.map_map,List.map_map];rfl
 have:=wnW hn hn2 (cs.length / 2) 0 0 _ _ (by omega) iv0
 rw [List.range_eq_range']
 exact this
noncomputable def dueL (n sm:Nat):List Nat:=(List.range n).map fun k=>(k+1) * sm / n - k * sm / n
noncomputable def drawnT (bits:List Nat):Bool:=(List.range bits.length).any fun k=>decide ((dueL bits.length bits.sum).drop k++(dueL bits.length bits.sum).take k=bits)
theorem wrn (L:List Nat):Pln 1 (.list (L.map nD)):=.list 0 _ (woW 0 L)
theorem wtX {α:Type} (p:α->Bool) (l:List α):cmpD .NotEq (.list ((l.filter p).map fun _=>D.int 1)) (.list [])=some (l.any p):=by
 rw [cmpNe (n:=1) (.list 0 _ fun x hx=>by rw [List.mem_map]at hx;obtain ⟨_,_,rfl⟩:=hx;exact .int 0 1) (wet 0) (by decide) (by decide) (p:=(l.any p)=false) ?_]
 ·cases l.any p<;>rfl
 ·simp only [D.list.injEq,List.map_eq_nil_iff,List.filter_eq_nil_iff,List.any_eq_false]
theorem whH {α:Type} (xs:List α) (k:Nat):(xs.drop k).length+(xs.take k).length=xs.length:=by rw [Nat.add_comm,<- List.length_append,List.take_append_drop]
theorem whI {α:Type} (xs:List α) (k:Nat):(xs.drop k++xs.take k).length=xs.length:=List.length_append.trans (whH xs k)
theorem wvI {a b:Nat} (h:b<=a):binop .Sub (nD a) (nD b)=some (nD (a - b)):=(sub_int _ _).trans (congrArg (fun z=>some (D.int z)) (Int.ofNat_sub h).symm)
theorem wtJ (bits:List Nat) (h0:0<bits.length) (hl:bits.length<100) (hs:bits.sum<100):wbP (.list (bits.map nD))=some (.bool (drawnT bits)):=by
 have hdl:(dueL bits.length bits.sum).length=bits.length:=by unfold dueL;rw [List.length_map,List.length_range]
 have hc:bits.length<=cap:=Nat.le_trans (Nat.le_of_lt hl) (by decide)
 have hr:((List.range bits.length).map nD).length<=cap:=ldcap _ (by rw [List.length_range];exact hc)
 have hdc:((dueL bits.length bits.sum).map nD).length<=cap:=ldcap _ (by rw [hdl];exact hc)
 unfold wbP
 refine bn3 (lenD nD bits hc) (wgQ _) (rng0 (by omega)) ?_
 refine ifP (hr) ?_
 refine bnS (a:=(dueL bits.length bits.sum).map nD) ((waY nD (fun k=>nD ((k+1) * bits.sum / bits.length - k * bits.sum / bits.length)) (List.range bits.length) ?c1).trans (congrArg some (by unfold dueL;rw [List.map_map];rfl))) ?_
 case c1=>
  intro k hk
  have hk:=List.mem_range.mp hk
  have hk2:k+1<10000:=by omega
  have hn:bits.length<2 ^ 30:=Nat.lt_trans hl (by decide)
  exact bnS (add1 k) (bnS (mulnn _ hk2) (bnS (fdivN _ h0 hn) (bnS (mulnn _ (Nat.lt_of_succ_lt hk2)) (bnS (fdivN _ h0 hn) (bnS (wvI (Nat.div_le_div_right (Nat.mul_le_mul_right _ (Nat.le_succ k)))) rfl)))))
 refine bnP (rng0 (by omega)) (hr) ?_
 refine bnS (waC nD (fun k=>decide ((dueL bits.length bits.sum).drop k++(dueL bits.length bits.sum).take k=bits)) (fun _=>.int 1) (List.range bits.length) ?c2 (fun _ _ _=>rfl)) ?_
 case c2=>
  intro k hk
  have hk:=List.mem_range.mp hk
  have hk5:k<100000:=by omega
  refine inS ?_
  refine ifP (wm4 hk5) ?_
  refine bnS (dropN k hdc (by rw [List.length_map,hdl];exact Nat.le_of_lt hk)) ?_
  refine inS ?_
  refine ifP (wkW hk5) ?_
  refine bn2 (takeN k hdc) (wbm (by rw [whH];exact hdc)) ?_
  rw [<- List.map_drop,<- List.map_take,<- List.map_append]
  exact bnS (cmpEq (wrn _) (wrn _) (by decide) (by decide) (p:=(dueL bits.length bits.sum).drop k++(dueL bits.length bits.sum).take k=bits) (by rw [D.list.injEq];exact wl4)) (wfY _)
 refine bnS (wtX _ _) ?_
 rfl
theorem woN {a b:List D} (h:a.length+b.length<=cap/\a.length≠0/\b.length≠0):binop .Add (.tuple a) (.tuple b)=some (.tuple (a++b)):=if_pos h
theorem wsU {xs:List D} {k:Nat} (hl:xs.length<1000) (h0:0<xs.length):([nD k]:List D).length+(xs.drop k++xs.take k).length<=cap/\([nD k]:List D).length≠0/\(xs.drop k++xs.take k).length≠0:=by
 rw [whI]
 exact ⟨Nat.le_trans (Nat.add_le_add_left (Nat.le_of_lt hl) 1) (by decide),Nat.succ_ne_zero 0,Nat.ne_of_gt h0⟩
theorem wrk (em:Nat->D) (l:List Nat) (h0:0<l.length) (hl:l.length<1000):RingOk em (.list (l.map em)) l:=by
 have hm:(l.map em).length=l.length:=List.length_map ..
 have hc:(l.map em).length<=cap:=by rw [hm];exact Nat.le_trans (Nat.le_of_lt hl) (by decide)
 refine ⟨lenD em l (hm ▸ hc),fun k hk=>?_⟩
 have hk5:k<100000:=Nat.lt_trans hk (Nat.lt_trans hl (by decide))
 refine inS ?_
 refine ifP (wm4 hk5) ?_
 refine bnS (dropN k hc (by rw [hm];exact Nat.le_of_lt hk)) ?_
 refine inS ?_
 refine ifP (wkW hk5) ?_
 refine bn4 (takeN k hc) (wbm (by rw [whH];exact hc)) (wjt (by rw [whI];exact hc)) (woN (wsU (by rw [hm];exact hl) (by rw [hm];exact h0))) ?_
 unfold rowE
 rw [<- List.map_drop,<- List.map_take,<- List.map_append]
 rfl
theorem wqR {xs:Tx} (a:Nat) (h:xs.length<=cap) (ha:a<=xs.length):cutD (some (a:Int)) none (.str xs)=some (.str (xs.drop a)):=by
 rw [show cutD (some (a:Int)) none (.str xs)=if xs.length<=cap then some (.str (cut (some (a:Int)) none xs)) else none from rfl,if_pos h]
 unfold cut
 simp only [Option.elim_none,Option.elim_some,we0,Nat.min_eq_left ha]
 rw [List.take_of_length_le (by simp)]
theorem wqS {xs:Tx} (a:Nat) (h:xs.length<=cap):cutD none (some (a:Int)) (.str xs)=some (.str (xs.take a)):=by
 rw [show cutD none (some (a:Int)) (.str xs)=if xs.length<=cap then some (.str (cut none (some (a:Int)) xs)) else none from rfl,if_pos h]
 unfold cut
 simp only [Option.elim_none,Option.elim_some,we0,List.drop_zero,Nat.sub_zero,wni]
theorem wsT (ch:Nat->Nat) (l:List Nat) (h0:0<l.length) (hl:l.length<1000):RingOk (fun i=>cD (ch i)) (.str (l.map ch)) l:=by
 have hm:(l.map ch).length=l.length:=List.length_map ..
 have hc:(l.map ch).length<=cap:=by rw [hm];exact Nat.le_trans (Nat.le_of_lt hl) (by decide)
 refine ⟨(strlen hc).trans (by rw [hm]),fun k hk=>?_⟩
 have hk5:k<100000:=Nat.lt_trans hk (Nat.lt_trans hl (by decide))
 have e1:binop .Add (.str ((l.map ch).drop k)) (.str ((l.map ch).take k))=some (.str ((l.map ch).drop k++(l.map ch).take k)):=if_pos (by rw [whH];exact hc)
 have e2:bfn .tuple [.str ((l.map ch).drop k++(l.map ch).take k)]=some (.tuple (chars ((l.map ch).drop k++(l.map ch).take k))):=if_pos (by rw [whI];exact hc)
 have hl2:(chars ((l.map ch).drop k++(l.map ch).take k)).length=l.length:=by unfold chars;rw [List.length_map,whI,hm]
 refine inS ?_
 refine ifP (wm4 hk5) ?_
 refine bnS (wqR k hc (by rw [hm];exact Nat.le_of_lt hk)) ?_
 refine inS ?_
 refine ifP (wkW hk5) ?_
 refine bn4 (wqS k hc) (e1) (e2) (woN ⟨by rw [hl2];exact Nat.le_trans (Nat.add_le_add_left (Nat.le_of_lt hl) 1) (by decide),Nat.succ_ne_zero 0,by rw [hl2];exact Nat.ne_of_gt h0⟩) ?_
 unfold rowE chars
 rw [<- List.map_drop,<- List.map_take,<- List.map_append,List.map_map];rfl
noncomputable def inB (c:Nat):Bool:=match wbf (cD c) with
 | some (.bool b)=>b
 | _=>false
noncomputable def mean (c:Nat):Tx:=match wa8 (cD c) with
 | some (.str m)=>m
 | _=>[]
noncomputable def isBO:Option D->Bool
 | some (.bool _)=>true
 | _=>false
noncomputable def isSO:Option D->Bool
 | some (.str _)=>true
 | _=>false
noncomputable def good (c:Nat):Bool:=isBO (wbf (cD c))&&(inB c||isSO (wa8 (cD c)))
theorem wwn {c:Nat} (h:good c=true):wbf (cD c)=some (.bool (inB c)):=by
 unfold good at h
 rw [Bool.and_eq_true]at h
 have h:=h.1
 unfold isBO at h
 split at h
 ·rename_i b e
  rw [e];unfold inB;rw [e]
 ·cases h
theorem wwm {c:Nat} (h:good c=true) (h2:inB c=false):wa8 (cD c)=some (.str (mean c)):=by
 unfold good at h
 rw [Bool.and_eq_true,h2,Bool.false_or]at h
 have h:=h.2
 unfold isSO at h
 split at h
 ·rename_i b e
  rw [e];unfold mean;rw [e]
 ·cases h
noncomputable def unseenL:List Nat:=[173,847,6150,6155,6156,6157,8203,8204,8205,8288,65279]++List.range' 65024 16
noncomputable def firstsL:List Nat:=[97,65]++[0,1,2,4,7,8,9,10,11,12].map fun k=>119808+52 * k
noncomputable def besideL:List Nat:=[172,174,846,848,6149,6151,6154,6158,8202,8206,8287,8289,65023,65040,65278,65280]
noncomputable def wideL:List (Tx×Nat):=[([102,105],64257),([102,108],64258),([102,102,105],64259),([115,116],64262),([104,112],13259),([112,104],13271)]
noncomputable def wideK:List (Key×D):=wideL.map fun p=>(Key.s p.1,D.str [p.2])
noncomputable def kindL:List (Tx×Tx):=[([102],[102,105]),([102],[102,108]),([102],[102,102,105]),([102,105],[102,102,105]),([115],[115,116]),([116],[115,116]),([104],[104,112]),([112],[112,104])]
noncomputable def getW (w:Tx):Option Nat:=wideL.lookup w
theorem wg6 (w:Tx):∀ l:List (Tx×Nat),kget (.s w) (l.map fun p=>(Key.s p.1,D.str [p.2]))=(l.lookup w).map fun c=>D.str [c]
 | []=>rfl
 | (a,v)::r=>by
  show (if Key.s a=Key.s w then some (D.str [v]) else kget (.s w) (r.map _))=_
  rw [List.lookup_cons,wg6 w r]
  by_cases h:a=w
  ·subst h;simp
  ·rw [if_neg (by simpa using h),show (w==a)=false from beq_eq_false_iff_ne.mpr (Ne.symm h)]
noncomputable def signOf (w:Tx) (j:Nat):Nat:=match getW w with
 | some c=>c
 | none=>firstsL.getD j 0+w.headD 0 - 97
noncomputable def wordAt (κ b:Nat):Tx:=if b=0 then (kindL.getD κ ([],[])).1 else (kindL.getD κ ([],[])).2
noncomputable def signOk (κ b j:Nat):Bool:=
 let w:=wordAt κ b
 let t:=signOf w j
 good t&&!inB t&&decide (mean t=w)&&(w.all fun x=>decide (x<1114112))&&((getW w).isSome||(decide (w.length=1)&&decide (97<=w.headD 0)&&decide (firstsL.getD j 0+w.headD 0 - 97<1114112)))
theorem wsQ:((List.range 8).all fun κ=>(List.range 2).all fun b=>(List.range 12).all fun j=>signOk κ b j)=true:=by decide +kernel
theorem wsz:(unseenL.all fun v=>good v&&inB v&&decide (v<1114112))=true:=by decide +kernel
theorem wnE:(besideL.all fun v=>good v&&!inB v&&decide (mean v=[v])&&decide (v<1114112))=true:=by decide +kernel
theorem wue (w:Tx):cmpD .In (.str w) (.dict wideK)=some (getW w).isSome:=by
 rw [show cmpD .In (.str w) (.dict wideK)=some (khas (.s w) wideK) from rfl]
 unfold khas wideK
 rw [wg6]
 unfold getW
 cases wideL.lookup w<;>rfl
theorem wsy {w:Tx} {c:Nat} (h:getW w=some c):sub (.dict wideK) (.str w)=some (cD c):=by
 rw [show sub (.dict wideK) (.str w)=kget (.s w) wideK from rfl]
 unfold wideK
 rw [wg6]
 unfold getW at h
 rw [h];rfl
theorem chrQ (i:Int):bfn .chr [.int i]=if 0<=i/\i<1114112 then some (.str [i.toNat]) else none:=rfl
theorem woc {n:Nat} (h:n<1114112):bfn .chr [nD n]=some (cD n):=by
 rw [chrQ,if_pos ⟨by omega,by omega⟩];rfl
theorem wvN {a k:Nat} (h:k<=64) (ha:a<2 ^ 32):binop .Pow (.int a) (nD k)=some (nD (a ^ k)):=by
 have:binop .Pow (.int a) (nD k)=some (.int ((a:Int) ^ k)):=by
  show (if _ then _ else _)=_
  rw [if_pos (by omega)];rfl
 rw [this];simp [nD]
theorem wtC {i:Nat} (h:i<12):sub (.list (firstsL.map nD)) (nD i)=some (nD (firstsL.getD i 0)):=by
 have hl:i<firstsL.length:=by simpa [firstsL] using h
 refine wey (by omega) ?_
 rw [List.getElem?_map,List.getElem?_eq_getElem hl,List.getD_eq_getElem?_getD,List.getElem?_eq_getElem hl];rfl
theorem wmo {i:Nat} (h:i<27):sub (.list (unseenL.map nD)) (nD i)=some (nD (unseenL.getD i 0))/\unseenL.getD i 0∈unseenL:=by
 have hl:i<unseenL.length:=by simpa [unseenL] using h
 rw [List.getD_eq_getElem?_getD,List.getElem?_eq_getElem hl]
 refine ⟨wey (by omega) ?_,List.getElem_mem hl⟩
 rw [List.getElem?_map,List.getElem?_eq_getElem hl];rfl
theorem wmU {i:Nat} (h:i<16):sub (.list (besideL.map nD)) (nD i)=some (nD (besideL.getD i 0))/\besideL.getD i 0∈besideL:=by
 have hl:i<besideL.length:=by simpa [besideL] using h
 rw [List.getD_eq_getElem?_getD,List.getElem?_eq_getElem hl]
 refine ⟨wey (by omega) ?_,List.getElem_mem hl⟩
 rw [List.getElem?_map,List.getElem?_eq_getElem hl];rfl
noncomputable abbrev RS:=List Nat×List (Nat×Bool)
noncomputable def ringD (κ:Nat) (s:RS):List D×List D×List D:=(s.1.map fun b=>D.str (wordAt κ b),s.2.map fun p=>cD p.1,s.2.map fun p=>D.bool p.2)
noncomputable def stepR (κ c1 c2 c3:Nat) (s:RS) (k:Nat):RS:=
 (s.1++[c1 / 2 ^ k % 2],(if 0<c3 / 28 ^ k % 28 then s.2++[(unseenL.getD (c3 / 28 ^ k % 28 - 1) 0,true)] else s.2)++[(signOf (wordAt κ (c1 / 2 ^ k % 2)) (c2 / 12 ^ k % 12),false)])
structure RInv (κ k:Nat) (s:RS):Prop where
 good:∀ p∈s.2,good p.1=true/\inB p.1=p.2
 told:((s.2.filter fun p=>!p.2).map fun p=>mean p.1)=s.1.map fun b=>wordAt κ b
 len:s.1.length=k
 bits:∀ b∈s.1,b<2
 small:s.2.length<=2 * k
theorem wsR {κ b j:Nat} (hκ:κ<8) (hb:b<2) (hj:j<12):signOk κ b j=true:=
 (List.all_eq_true.mp ((List.all_eq_true.mp ((List.all_eq_true.mp wsQ) κ (List.mem_range.mpr hκ))) b (List.mem_range.mpr hb))) j (List.mem_range.mpr hj)
theorem wte (κ b:Nat) (hb:b<2):sub (.list [.str (wordAt κ 0),.str (wordAt κ 1)]) (nD b)=some (.str (wordAt κ b)):=by
 have:b=0\/b=1:=by omega
 rcases this with rfl | rfl<;>rfl
theorem wnx {a k m b:Nat} (ha:0<a) (hk:k<=m) (h:a ^ m<b):0<a ^ k/\a ^ k<b:=⟨Nat.pow_pos ha,Nat.lt_of_le_of_lt (Nat.pow_le_pow_right ha hk) h⟩
theorem wgZ {α:Type} {K:D->Option α} (a:Nat) {c k:Nat} (ha:0<a) (ha2:a<2 ^ 32) (hk:k<=64) (h:0<a ^ k/\a ^ k<2 ^ 30) {r:Option α} {q:Nat} (hq:c / a ^ k % a=q) (e:K (nD q)=r) :
  ((binop .Pow (.int a) (nD k)).bind fun x=>(binop .FloorDiv (nD c) x).bind fun y=>(binop .Mod y (.int a)).bind K)=r:=
 bnS (wvN hk ha2) (bnS (fdivN c h.1 h.2) (bnS (modN _ ha) (hq ▸ e)))
theorem wuv {w:Tx} {k c0 c1 c2 c3 j:Nat} (hk:k<=6) (hj:c2 / 12 ^ k % 12=j) (g5:((getW w).isSome||(decide (w.length=1)&&decide (97<=w.headD 0)&&decide (firstsL.getD j 0+w.headD 0 - 97<1114112)))=true) :
  ((cmpD .In (.str w) (.dict wideK)).bind fun b38=>if b38=true then (sub (.dict wideK) (.str w)).bind fun x39=>some x39 else
    (sub (.list [nD c0,nD c1,nD c2,nD c3]) (.int 2)).bind fun x40=>(binop .Pow (.int 12) (nD k)).bind fun x41=>(binop .FloorDiv x40 x41).bind fun x42=>(binop .Mod x42 (.int 12)).bind fun x43=>
    (sub (.list (firstsL.map nD)) x43).bind fun x44=>(bfn .ord [.str w]).bind fun x45=>(binop .Add x44 x45).bind fun x46=>(binop .Sub x46 (.int 97)).bind fun x47=>(bfn .chr [x47]).bind fun x48=>some x48)=some (cD (signOf w j)):=by
 have fi:=wtC (i:=j) (hj ▸ Nat.mod_lt _ (by decide))
 refine bnS (wue w) ?_
 unfold signOf
 cases hw:getW w with
 | some c=>exact ifP rfl (bnS (wsy hw) rfl)
 | none=>
  rw [hw]at g5
  simp only [Option.isSome_none,Bool.false_or,Bool.and_eq_true,decide_eq_true_eq]at g5
  obtain ⟨⟨q1,q2⟩,q3⟩:=g5
  obtain ⟨ch,rfl⟩:=List.length_eq_one_iff.mp q1
  have e:binop .Sub (nD (firstsL.getD j 0+ch)) (.int 97)=some (nD (firstsL.getD j 0+ch - 97)):=by rw [sub_int];exact congrArg (fun z=>some (D.int z)) (by have:97<=ch:=q2;omega)
  refine ifN (fun h=>nomatch h) (bnS (a:=nD c2) rfl (wgZ 12 (by decide) (by decide) (Nat.le_trans hk (by decide)) (wnx (by decide) hk (by decide)) hj ?_))
  exact bnS fi (bnS (a:=nD ch) rfl (bnS (addnn _ _) (bnS e (bnS (woc q3) rfl))))
theorem wnh {P Q:List (Nat×Bool)}:((P++Q).filter fun p=>!p.2).map (fun p=>mean p.1)=((P.filter fun p=>!p.2).map fun p=>mean p.1)++((Q.filter fun p=>!p.2).map fun p=>mean p.1):=by rw [List.filter_append,List.map_append]
theorem wnR {P Q:List (Nat×Bool)} (h1:∀ p∈P,good p.1=true/\inB p.1=p.2) (h2:∀ p∈Q,good p.1=true/\inB p.1=p.2):∀ p∈P++Q,good p.1=true/\inB p.1=p.2:=fun p hp=>(List.mem_append.mp hp).elim (h1 p) (h2 p)
theorem goodS {c:Nat} {b:Bool} (h:good c=true/\inB c=b):∀ p∈[(c,b)],good p.1=true/\inB p.1=p.2:=fun p hp=>by rw [List.mem_singleton.mp hp];exact h
theorem wug {v:Nat} (h0:0<v) (h:v<28):(good (unseenL.getD (v - 1) 0)=true/\inB (unseenL.getD (v - 1) 0)=true)/\unseenL.getD (v - 1) 0<1114112:=by
 have:=(List.all_eq_true.mp wsz) _ (wmo (i:=v - 1) (by omega)).2
 simp only [Bool.and_eq_true,decide_eq_true_eq]at this
 exact this
theorem wnL {κ k b t:Nat} {s:RS} {V:List (Nat×Bool)} (iv:RInv κ k s) (hb:b<2) (ht:good t=true/\inB t=false) (hm:mean t=wordAt κ b) (hV:V.length<=1) (hg:∀ p∈V,good p.1=true/\inB p.1=p.2) (hV2:(V.filter fun p=>!p.2)=[]):RInv κ (k+1) (s.1++[b],s.2++V++[(t,false)]) where
 good:=wnR (wnR iv.good hg) (goodS ht)
 told:=by
  rw [wnh,wnh,hV2,iv.told,List.map_append]
  show _++[]++[mean t]=_
  rw [hm,List.append_nil];rfl
 len:=by rw [List.length_append,iv.len];rfl
 bits:=fun x hx=>(List.mem_append.mp hx).elim (iv.bits x) fun hx=>by rw [List.mem_singleton.mp hx];exact hb
 small:=by
  have:=iv.small
  show (s.2++V++[(t,false)]).length<=_
  rw [List.length_append,List.length_append,List.length_singleton];omega
theorem wrj (script kindD:D) (κ c0 c1 c2 c3:Nat) (hκ:κ<8) (s:RS) (k:Nat) (hk:k<7) (iv:RInv κ k s):RInv κ (k+1) (stepR κ c1 c2 c3 s k)/\∀ (n bk:List D×List D×List D->Option D) (r:D->Option D),
  wbc script (.list [nD c0,nD c1,nD c2,nD c3]) kindD (.str (wordAt κ 0)) (.str (wordAt κ 1)) (.dict wideK) (.list (unseenL.map nD)) (.list (besideL.map nD)) (.list (firstsL.map nD)) (ringD κ s) (nD k) n bk r=n (ringD κ (stepR κ c1 c2 c3 s k)):=by
 have hk6:k<=6:=Nat.le_of_lt_succ hk
 have hk64:k<=64:=Nat.le_trans hk6 (by decide)
 have hb:c1 / 2 ^ k % 2<2:=Nat.mod_lt _ (by decide)
 have hv:c3 / 28 ^ k % 28<28:=Nat.mod_lt _ (by decide)
 have sg:=wsR hκ hb (Nat.mod_lt (c2 / 12 ^ k) (show 0<12 by decide))
 unfold signOk at sg
 dsimp only at sg
 rw [Bool.and_eq_true,Bool.and_eq_true,Bool.and_eq_true,Bool.and_eq_true,Bool.not_eq_true',decide_eq_true_eq]at sg
 obtain ⟨⟨⟨⟨g1,g2⟩,g3⟩,_⟩,g5⟩:=sg
 have lh:=wte κ _ hb
 have q1:=wnx (a:=2) (b:=2 ^ 30) (by decide) hk6 (by decide)
 have q3:=wnx (a:=28) (b:=2 ^ 30) (by decide) hk6 (by decide)
 have hsg:=wuv (c0:=c0) (c1:=c1) (c3:=c3) hk6 rfl g5
 have hsl:=iv.small
 have hrl:=iv.len
 have z0:s.2.length<=100:=by omega
 have z1:(ringD κ s).2.1.length<=100:=by unfold ringD;rw [List.length_map];exact z0
 have z2:(ringD κ s).2.2.length<=100:=by unfold ringD;rw [List.length_map];exact z0
 have z3:(ringD κ s).1.length<=100:=by unfold ringD;rw [List.length_map,hrl];omega
 have up:∀ {l:List D} {x:D},l.length<=100->(l++[x]).length<=cap:=fun h=>by rw [List.length_append];exact Nat.le_trans (Nat.succ_le_succ h) (by decide)
 have lc:∀ {l:List D},l.length<=100->l.length<=cap:=fun h=>Nat.le_trans h (by decide)
 unfold stepR
 generalize hbb:c1 / 2 ^ k % 2=b at *
 generalize c2 / 12 ^ k % 12=j at *
 by_cases h0:0<c3 / 28 ^ k % 28
 ·have v:=wug h0 hv
  have e1:binop .Sub (nD (c3 / 28 ^ k % 28)) (.int 1)=some (nD (c3 / 28 ^ k % 28 - 1)):=by rw [sub_int];exact congrArg (fun z=>some (D.int z)) (by omega)
  have e2:=(wmo (i:=c3 / 28 ^ k % 28 - 1) (by omega)).1
  rw [if_pos h0]
  refine ⟨wnL iv hb ⟨g1,g2⟩ g3 (Nat.le_refl _) (goodS v.1) rfl,fun n bk r=>?_⟩
  unfold wbc
  refine bnS (a:=nD c1) rfl (wgZ 2 (by decide) (by decide) hk64 q1 hbb (bnS lh (bnS (a:=nD c3) rfl (wgZ 28 (by decide) (by decide) hk64 q3 rfl (bnS (gt_int _ _) (ifP (decide_eq_true (Int.ofNat_lt.mpr h0)) (bnS e1 (bnS e2 (bnS (woc v.2) (ifP (lc z1) (ifP (lc z2) ?_)))))))))))
  refine bnS hsg (ifP (up z1) (ifP (up z2) (ifP (lc z3) ?_)))
  unfold ringD
  simp only [List.map_append,List.map_cons,List.map_nil]
 ·rw [if_neg h0,<- List.append_nil s.2]
  refine ⟨wnL iv hb ⟨g1,g2⟩ g3 (Nat.zero_le _) (fun _ h=>nomatch h) rfl,fun n bk r=>?_⟩
  rw [List.append_nil]
  unfold wbc
  refine bnS (a:=nD c1) rfl (wgZ 2 (by decide) (by decide) hk64 q1 hbb (bnS lh (bnS (a:=nD c3) rfl (wgZ 28 (by decide) (by decide) hk64 q3 rfl (bnS (gt_int _ _) (ifN (fun e=>h0 (Int.ofNat_lt.mp (of_decide_eq_true e))) ?_))))))
  refine bnS hsg (ifP (lc z1) (ifP (lc z2) (ifP (lc z3) ?_)))
  unfold ringD
  simp only [List.map_append,List.map_cons,List.map_nil]
noncomputable def enD (p:Nat×Int):D:=.tuple [nD p.1,.int p.2]
theorem wig {script:D} {cells cells':List D} {i:Nat} {x:Int} {y:Nat} {n k:List D->Option D} {r:D->Option D} (hy:x.fmod (10 ^ 9)=y) {q:Nat} (hq:i % 4=q) (v v':D) (h1:sub (.list cells) (nD q)=some v) (h2:addI v (nD y)=some v') (h3:putL cells (nD q) v'=some cells'):wbt script cells (enD (i,x)) n k r=n cells':=by
 unfold wbt enD
 have md:binop .Mod (nD i) (.int 4)=some (nD q):=hq ▸ modN i (by decide)
 have mx:binop .Mod (.int x) (.int (10 ^ 9))=some (nD y):=by rw [wpP _ (by decide),hy]
 refine un2 ?_
 refine bn2 (md) (h1) ?_
 exact bnS (a:=.int (10 ^ 9)) rfl (bnS mx (bnS h2 (bnS h3 rfl)))
theorem wsf (script:D) (a b c e:Nat) (p:Nat×Int):∃ a' b' c' e':Nat,∀ (n k:List D->Option D) (r:D->Option D),
  wbt script [nD a,nD b,nD c,nD e] (enD p) n k r=n [nD a',nD b',nD c',nD e']:=by
 obtain ⟨i,x⟩:=p
 have hy:x.fmod (10 ^ 9)=((x.fmod (10 ^ 9)).toNat:Int):=(Int.toNat_of_nonneg (Int.fmod_nonneg_of_pos x (by decide))).symm
 generalize (x.fmod (10 ^ 9)).toNat=y at hy
 have h:i % 4<4:=Nat.mod_lt _ (by decide)
 match q:i % 4,h with
 | 0,_=>exact ⟨a+y,b,c,e,fun n k r=>wig hy q (nD a) (nD (a+y)) rfl rfl rfl⟩
 | 1,_=>exact ⟨a,b+y,c,e,fun n k r=>wig hy q (nD b) (nD (b+y)) rfl rfl rfl⟩
 | 2,_=>exact ⟨a,b,c+y,e,fun n k r=>wig hy q (nD c) (nD (c+y)) rfl rfl rfl⟩
 | 3,_=>exact ⟨a,b,c,e+y,fun n k r=>wig hy q (nD e) (nD (e+y)) rfl rfl rfl⟩
 | n+4,h=>exact absurd h (Nat.not_lt.mpr (Nat.le_add_left 4 n))
theorem wmS (script:D):∀ (l:List (Nat×Int)) (a b c e:Nat),∃ a' b' c' e':Nat,∀ (n:List D->Option D) (r:D->Option D),
  forS (wbt script) (l.map enD) [nD a,nD b,nD c,nD e] n r=n [nD a',nD b',nD c',nD e']
 | [],a,b,c,e=>⟨a,b,c,e,fun n r=>rfl⟩
 | p::l,a,b,c,e=>by
  obtain ⟨a1,b1,c1,e1,h1⟩:=wsf script a b c e p
  obtain ⟨a2,b2,c2,e2,h2⟩:=wmS script l a1 b1 c1 e1
  exact ⟨a2,b2,c2,e2,fun n r=>(h1 _ _ _).trans (h2 n r)⟩
theorem wmv (script kindD:D) (κ c0 c1 c2 c3:Nat) (hκ:κ<8):∀ (j k:Nat) (s:RS),k+j<=7->RInv κ k s->∃ s':RS,RInv κ (k+j) s'/\∀ (next:List D×List D×List D->Option D) (ret:D->Option D),
  forS (wbc script (.list [nD c0,nD c1,nD c2,nD c3]) kindD (.str (wordAt κ 0)) (.str (wordAt κ 1)) (.dict wideK) (.list (unseenL.map nD)) (.list (besideL.map nD)) (.list (firstsL.map nD))) ((List.range' k j).map nD) (ringD κ s) next ret=next (ringD κ s')
 | 0,k,s,_,iv=>⟨s,iv,fun _ _=>rfl⟩
 | j+1,k,s,hk,iv=>by
  obtain ⟨i1,h1⟩:=wrj script kindD κ c0 c1 c2 c3 hκ s k (by omega) iv
  obtain ⟨s',i2,h2⟩:=wmv script kindD κ c0 c1 c2 c3 hκ j (k+1) (stepR κ c1 c2 c3 s k) (by omega) i1
  refine ⟨s',by rw [show k+(j+1)=k+1+j by omega];exact i2,fun next ret=>?_⟩
  exact (h1 _ _ _).trans (h2 next ret)
theorem wvL:rangeD [.int 65024,.int 65040]=some ((List.range' 65024 16).map nD):=by kernel_rfl!
theorem ww5:binop .Add (D.list [(D.int 173),(D.int 847),(D.int 6150),(D.int 6155),(D.int 6156),(D.int 6157),(D.int 8203),(D.int 8204),(D.int 8205),(D.int 8288),(D.int 65279)]) (.list ((List.range' 65024 16).map nD))=some (.list (unseenL.map nD)):=by kernel_rfl!
theorem wuX:[(D.int 0),(D.int 1),(D.int 2),(D.int 4),(D.int 7),(D.int 8),(D.int 9),(D.int 10),(D.int 11),(D.int 12)]=([0,1,2,4,7,8,9,10,11,12]:List Nat).map nD:=rfl
theorem ww6:binop .Add (D.list [(D.int 97),(D.int 65)]) (.list (([0,1,2,4,7,8,9,10,11,12]:List Nat).map fun k=>nD (119808+52 * k)))=some (.list (firstsL.map nD)):=by kernel_rfl!
theorem wvj:(D.dict [((Key.s [102,105]),(D.str [64257])),((Key.s [102,108]),(D.str [64258])),((Key.s [102,102,105]),(D.str [64259])),((Key.s [115,116]),(D.str [64262])),((Key.s [104,112]),(D.str [13259])),((Key.s [112,104]),(D.str [13271]))])=D.dict wideK:=by kernel_rfl!
theorem wpS:(D.list [(D.int 172),(D.int 174),(D.int 846),(D.int 848),(D.int 6149),(D.int 6151),(D.int 6154),(D.int 6158),(D.int 8202),(D.int 8206),(D.int 8287),(D.int 8289),(D.int 65023),(D.int 65040),(D.int 65278),(D.int 65280)])=D.list (besideL.map nD):=by kernel_rfl!
theorem wu4 (κ:Nat) (h:κ<8):sub (D.list [(D.tuple [(D.str [102]),(D.str [102,105])]),(D.tuple [(D.str [102]),(D.str [102,108])]),(D.tuple [(D.str [102]),(D.str [102,102,105])]),(D.tuple [(D.str [102,105]),(D.str [102,102,105])]),(D.tuple [(D.str [115]),(D.str [115,116])]),(D.tuple [(D.str [116]),(D.str [115,116])]),(D.tuple [(D.str [104]),(D.str [104,112])]),(D.tuple [(D.str [112]),(D.str [112,104])])]) (nD κ)=some (.tuple [.str (wordAt κ 0),.str (wordAt κ 1)]):=by
 have:κ=0\/κ=1\/κ=2\/κ=3\/κ=4\/κ=5\/κ=6\/κ=7:=by omega
 rcases this with rfl | rfl | rfl | rfl | rfl | rfl | rfl | rfl<;>rfl
theorem wvF (a:Nat):∃ way:Int,okWay way/\sub (.list [.int 1,.int (-1),.int 2,.int (-3)]) (nD (a % 4))=some (.int way):=by
 have h:a % 4<4:=Nat.mod_lt _ (by decide)
 generalize a % 4=i at h
 have:i=0\/i=1\/i=2\/i=3:=by omega
 rcases this with rfl | rfl | rfl | rfl
 ·exact ⟨1,by simp [okWay],rfl⟩
 ·exact ⟨-1,by simp [okWay],rfl⟩
 ·exact ⟨2,by simp [okWay],rfl⟩
 ·exact ⟨-3,by simp [okWay],rfl⟩
theorem wxN (κ:Nat):((cmpD .In (nD κ) (.tuple [.int 2,.int 3])).bind fun b64=>if b64=true then some (D.int 2) else some (D.int 4))=some (nD (if κ=2\/κ=3 then 2 else 4)):=by
 have e:cmpD .In (nD κ) (.tuple [.int 2,.int 3])=some (decide (κ=2)||decide (κ=3)):=by
  show memP (nD κ) [nD 2,nD 3]=_
  simp only [memP]
  have q:∀ a b:Nat,eqS (nD a) (nD b)=some (decide (a=b)):=fun a b=>congrArg some (decide_eq_decide.mpr (by omega))
  rw [q,q]
  simp only [Option.bind_some,Option.map_some,Bool.or_false]
  congr 2<;>exact decide_eq_decide.mpr ⟨fun h=>h.symm,fun h=>h.symm⟩
 rw [e,Option.bind_some]
 by_cases h:κ=2\/κ=3
 ·rw [if_pos (by simpa using h),if_pos h];rfl
 ·rw [if_neg (by simpa using h),if_neg h];rfl
theorem wud:∀ κ,κ<8->(wordAt κ 0).length<=10:=by decide
theorem wsV {κ k c0 c1 c2 c3:Nat} {s:RS} {way:Int} (hκ:κ<8) (iv:RInv κ k s) (hk:k<=7) (hwe:sub (.list [.int 1,.int (-1),.int 2,.int (-3)]) (nD (c0 / 32 % 4))=some (.int way)) :
  wcA [nD c0,nD c1,nD c2,nD c3] (ringD κ s) (.str (wordAt κ 0))=some (.tuple [.list (s.1.map fun b=>D.str (wordAt κ b)),.list ((s.2++[(besideL.getD (c0 / 128 % 16) 0,false)]).map fun p=>cD p.1),.list ((s.2++[(besideL.getD (c0 / 128 % 16) 0,false)]).map fun p=>D.bool p.2),nD (wordAt κ 0).length,.int way]):=by
 have hmk:=wmU (i:=c0 / 128 % 16) (Nat.mod_lt _ (by decide))
 have hmv:=(List.all_eq_true.mp wnE) _ hmk.2
 simp only [Bool.and_eq_true,decide_eq_true_eq]at hmv
 have hsm:s.2.length+1<=cap:=Nat.le_trans (Nat.succ_le_succ (Nat.le_trans iv.small (Nat.mul_le_mul_left 2 hk))) (by decide)
 have a1:binop .Add (.list (ringD κ s).2.1) (.list [cD (besideL.getD (c0 / 128 % 16) 0)])=some (.list ((s.2++[(besideL.getD (c0 / 128 % 16) 0,false)]).map fun p=>cD p.1)):=by
  rw [List.map_append];exact wbm (by unfold ringD;rw [List.length_map];exact hsm)
 have a2:binop .Add (.list (ringD κ s).2.2) (.list [.bool false])=some (.list ((s.2++[(besideL.getD (c0 / 128 % 16) 0,false)]).map fun p=>D.bool p.2)):=by
  rw [List.map_append];exact wbm (by unfold ringD;rw [List.length_map];exact hsm)
 unfold wcA
 rw [wpS]
 refine bnS (a:=nD c0) rfl (bnS (fdivN (b:=128) c0 (by decide) (by decide)) (bnS (modN (b:=16) _ (by decide)) ?_))
 refine bn4 (hmk.1) (woc hmv.2) (a1) (a2) ?_
 refine bnS (strlen (Nat.le_trans (wud κ hκ) (by decide))) ?_
 refine bnS (a:=.int (-1)) rfl (bnS (a:=.int (-3)) rfl (bnS (a:=nD c0) rfl (bnS (fdivN (b:=32) c0 (by decide) (by decide)) (bnS (modN (b:=4) _ (by decide)) (bnS hwe rfl)))))
theorem wsW {script:D} {κ c0 c1 c2 c3 m:Nat} {s:RS} (hm:c0 / 8 % (if κ=2\/κ=3 then 2 else 4)=m) (hm4:m<4)
  (hs:∀ (next:List D×List D×List D->Option D) (ret:D->Option D),forS (wbc script (.list [nD c0,nD c1,nD c2,nD c3]) (nD κ) (.str (wordAt κ 0)) (.str (wordAt κ 1)) (.dict wideK) (.list (unseenL.map nD)) (.list (besideL.map nD)) (.list (firstsL.map nD))) ((List.range' 0 (4+m)).map nD) (ringD κ ([],[])) next ret=next (ringD κ s)) :
  wcB [nD c0,nD c1,nD c2,nD c3] (nD κ) script (.str (wordAt κ 0)) (.str (wordAt κ 1)) (.list (unseenL.map nD)) (.list (firstsL.map nD))=wcA [nD c0,nD c1,nD c2,nD c3] (ringD κ s) (.str (wordAt κ 0)):=by
 have md:binop .Mod (nD (c0 / 8)) (nD (if κ=2\/κ=3 then 2 else 4))=some (nD m):=by rw [modnn _ (by split<;>decide),hm]
 have hr:rangeD [nD (4+m)]=some ((List.range' 0 (4+m)).map nD):=by rw [<- List.range_eq_range'];exact rng0 (by omega)
 unfold wcB
 rw [wvj,wpS]
 refine bnS (a:=nD c0) rfl (bnS (fdivN (b:=8) c0 (by decide) (by decide)) (bnS (wxN κ) (bnS md (bnS (a:=nD (4+m)) rfl (bnS hr (ifP (ldcap _ ?_) (hs _ _)))))))
 rw [List.length_range',waf];omega
theorem wsX {script:D} {c0 c1 c2 c3:Nat}:wej [nD c0,nD c1,nD c2,nD c3] script=wcB [nD c0,nD c1,nD c2,nD c3] (nD (c0 % 8)) script (.str (wordAt (c0 % 8) 0)) (.str (wordAt (c0 % 8) 1)) (.list (unseenL.map nD)) (.list (firstsL.map nD)):=by
 unfold wej
 refine bnS (a:=nD c0) rfl (bnS (modN (b:=8) c0 (by decide)) (bnS (wu4 (c0 % 8) (Nat.mod_lt _ (by decide))) (un2 ?_)))
 unfold wgG
 refine bn3 (wvL) (ww5) (wqB _) ?_
 refine ifP ((by show 10<=10000;decide)) ?_
 rw [wuX]
 refine bn2 (waY nD (fun k=>nD (119808+52 * k)) _ (fun k _=>bnS (mulN (a:=52) k (by decide)) rfl)) (ww6) ?_
 rfl
theorem wuA (xs:List Int) (h:xs.length<=63):∃ (κ k:Nat) (s:RS) (mark:Nat) (way:Int),
  wb3 (.list (xs.map .int))=some (.tuple [.list (s.1.map fun b=>D.str (wordAt κ b)),.list ((s.2++[(mark,false)]).map fun p=>cD p.1),.list ((s.2++[(mark,false)]).map fun p=>D.bool p.2),nD (wordAt κ 0).length,.int way]) /\
  κ<8/\RInv κ k s/\4<=k/\k<=7/\(κ=2\/κ=3->k<=5)/\mark∈besideL/\okWay way:=by
 have hcut:cutD none (some 60) (.list (xs.map D.int))=some (.list ((xs.take 60).map D.int)):=by rw [List.map_take];exact takeN 60 (by rw [List.length_map];exact Nat.le_trans h (by decide))
 have hen:enumQ [.list ((xs.take 60).map D.int)]=some (((List.range (xs.take 60).length).zip (xs.take 60)).map enD):=wp8 D.int _
 have hLl:((List.range (xs.take 60).length).zip (xs.take 60)).length<=cap:=by rw [List.length_zip];exact Nat.le_trans (Nat.min_le_right _ _) (Nat.le_trans (List.length_take_le _ _) (by decide))
 generalize (List.range (xs.take 60).length).zip (xs.take 60)=L at hen hLl
 obtain ⟨c0,c1,c2,c3,hc⟩:=wmS (.list (xs.map .int)) L 424 10 12345 3666292
 obtain ⟨way,hw,hwe⟩:=wvF (c0 / 32)
 have hκ:c0 % 8<8:=Nat.mod_lt _ (by decide)
 have hmk:=wmU (i:=c0 / 128 % 16) (Nat.mod_lt _ (by decide))
 have iv0:RInv (c0 % 8) 0 ([],[]):=⟨fun _ h=>(nomatch h),rfl,rfl,fun _ h=>(nomatch h),Nat.le_refl _⟩
 generalize hn:(c0 / 8) % (if c0 % 8=2\/c0 % 8=3 then 2 else 4)=m
 have hm4:m<4/\(c0 % 8=2\/c0 % 8=3->m<2):=by
  rw [<- hn]
  split
  ·exact ⟨Nat.lt_trans (Nat.mod_lt _ (by decide)) (by decide),fun _=>Nat.mod_lt _ (by decide)⟩
  ·rename_i hq;exact ⟨Nat.mod_lt _ (by decide),fun q=>absurd q hq⟩
 have hm7:4+m<=7:=Nat.add_le_add_left (Nat.le_of_lt_succ hm4.1) 4
 obtain ⟨s,iv,hs⟩:=wmv (.list (xs.map .int)) (nD (c0 % 8)) (c0 % 8) c0 c1 c2 c3 hκ (4+m) 0 ([],[]) (by rw [Nat.zero_add];exact hm7) iv0
 rw [Nat.zero_add]at iv
 refine ⟨c0 % 8,4+m,s,besideL.getD (c0 / 128 % 16) 0,way,?_,hκ,iv,Nat.le_add_right 4 m,hm7,fun q=>Nat.add_le_add_left (Nat.le_of_lt_succ (hm4.2 q)) 4,hmk.2,hw⟩
 unfold wb3
 refine ifP ((by decide)) ?_
 refine bnS (hcut) ?_
 refine bnP (hen) (ldcap _ hLl) ?_
 exact (hc _ _).trans (wsX.trans ((wsW hn hm4.1 hs).trans (wsV hκ iv hm7 hwe)))
theorem wkT (a b:Row):cmpT 2 a b=2 * cmpT 1 a b:=by
 unfold cmpT cmpV
 split
 ·rfl
 ·split
  ·rfl
  ·split
   ·rfl
   ·split<;>rfl
theorem wkS (a b:Row):cmpT (-3) a b=3 * cmpT (-1) a b:=by
 unfold cmpT cmpV
 split
 ·rfl
 ·split
  ·rfl
  ·split
   ·rfl
   ·split<;>rfl
theorem wxL:insT 2=insT 1:=by
 funext L r
 have:aheadT 2 L r=aheadT 1 L r:=by
  unfold aheadT
  congr 1
  apply List.filter_congr
  intro o _
  rw [wkT]
  exact decide_eq_decide.mpr (by omega)
 unfold insT
 rw [this]
theorem wxK:insT (-3)=insT (-1):=by
 funext L r
 have:aheadT (-3) L r=aheadT (-1) L r:=by
  unfold aheadT
  congr 1
  apply List.filter_congr
  intro o _
  rw [wkS]
  exact decide_eq_decide.mpr (by omega)
 unfold insT
 rw [this]
theorem wx2 (a b:Row):dueW 2 a b=2 * dueW 1 a b:=by unfold dueW;split<;>rfl
theorem wx1 (a b:Row):dueW (-3) a b=3 * dueW (-1) a b:=by unfold dueW;split<;>rfl
theorem wvX:okPair 2=okPair 1:=by
 funext p
 unfold okPair
 rw [wkT,wkT,wkT,wx2]
 congr 1
 ·congr 1
  ·exact decide_eq_decide.mpr (by omega)
  ·exact decide_eq_decide.mpr (by omega)
 ·exact decide_eq_decide.mpr (by omega)
theorem wvW:okPair (-3)=okPair (-1):=by
 funext p
 unfold okPair
 rw [wkS,wkS,wkS,wx1]
 congr 1
 ·congr 1
  ·exact decide_eq_decide.mpr (by omega)
  ·exact decide_eq_decide.mpr (by omega)
 ·exact decide_eq_decide.mpr (by omega)
theorem wsB (l:List Nat):turnedT 2 l=turnedT 1 l:=by
 have:lineT 2 l=lineT 1 l:=by unfold lineT;rw [wxL]
 unfold turnedT
 rw [this,wvX];rfl
theorem wsA (l:List Nat):turnedT (-3) l=turnedT (-1) l:=by
 have:lineT (-3) l=lineT (-1) l:=by unfold lineT;rw [wxK]
 unfold turnedT
 rw [this,wvW];rfl
noncomputable def rankB (κ b:Nat):Nat:=if κ=3\/κ=5 then 1 - b else b
noncomputable def rankW (κ i:Nat):Tx:=if i<2 then wordAt κ (rankB κ i) else [1114111]
noncomputable def lettersL:List (Nat×Nat×Nat):=[(102,105,0),(102,108,0),(102,105,1),(102,105,2),(115,116,0),(115,116,3),(104,112,0),(104,112,4)]
noncomputable def chK (κ i:Nat):Nat:=if i=0 then (lettersL.getD κ (0,0,0)).1 else if i=1 then (lettersL.getD κ (0,0,0)).2.1 else 1114111
noncomputable def clsW (c b:Nat):List Nat:=
 if c=0 then (if b=0 then [0] else [0,1]) else if c=1 then (if b=0 then [0] else [0,0,1]) else if c=2 then (if b=0 then [0,1] else [0,0,1])
 else if c=3 then (if b=0 then [1] else [0,1]) else (if b=0 then [1] else [1,0])
noncomputable def clsK (κ:Nat):Nat:=(lettersL.getD κ (0,0,0)).2.2
noncomputable def kindOk (κ:Nat):Bool:=
 ((List.range 2).all fun b=>decide ((clsW (clsK κ) b).map (chK κ)=wordAt κ b)&&decide (rankW κ (rankB κ b)=wordAt κ b)&&decide (rankB κ b<3)&&((clsW (clsK κ) b).all fun x=>decide (x<3)) &&
  decide ((if (wordAt κ 0).length<(wordAt κ b).length then 1 else 0)=b)&&decide ((clsW (clsK κ) b).length=(wordAt κ b).length)&&decide (1<=(wordAt κ b).length)&&decide ((wordAt κ b).length<=3)&&PyData.strOk (mk (wordAt κ b))) &&
 ((List.range 3).all fun i=>(List.range 3).all fun j=>(decide (rankW κ i<rankW κ j)==decide (i<j))&&(decide (rankW κ i=rankW κ j)==decide (i=j))&&(decide (chK κ i<chK κ j)==decide (i<j))) &&
 ((List.range 3).all fun i=>PyData.strOk (mk (rankW κ i))&&decide (chK κ i<1114112))
theorem wtn:((List.range 8).all kindOk)=true:=by decide +kernel
theorem wl9 {κ:Nat} (h:κ<8):kindOk κ=true:=(List.all_eq_true.mp wtn) κ (List.mem_range.mpr h)
theorem wms {c:Nat} (h:c<1114112):PyData.strOk (mk [c])=true:=by
 unfold PyData.strOk
 rw [Array.all_eq_true_iff_forall_mem]
 intro x hx
 have:x=c:=by simpa using hx
 subst this
 simpa using h
theorem wvi {κ:Nat} (h:κ<8):EmOk (fun i=>D.str (rankW κ i)):=by
 have k:=wl9 h
 unfold kindOk at k
 simp only [Bool.and_eq_true,List.all_eq_true,decide_eq_true_eq,beq_iff_eq,List.mem_range]at k
 obtain ⟨⟨_,k2⟩,k3⟩:=k
 constructor
 ·intro i j hi hj
  exact congrArg some ((k2 i hi j hj).1.1)
 ·intro i j hi hj
  exact congrArg some ((k2 i hi j hj).1.2)
 ·intro i hi
  exact .str 0 _ (k3 i hi).1
 ·intro i j hi hj e
  have e:rankW κ i=rankW κ j:=by injection e
  have:=(k2 i hi j hj).1.2
  rw [decide_eq_true e]at this
  exact of_decide_eq_true this.symm
 ·intro i j _ _;rfl
theorem wwO {κ:Nat} (h:κ<8):EmOk (fun i=>cD (chK κ i)):=by
 have k:=wl9 h
 unfold kindOk at k
 simp only [Bool.and_eq_true,List.all_eq_true,decide_eq_true_eq,beq_iff_eq,List.mem_range]at k
 obtain ⟨⟨_,k2⟩,k3⟩:=k
 have hinj:∀ i j,i<3->j<3->chK κ i=chK κ j->i=j:=by
  intro i j hi hj e
  have a:=(k2 i hi j hj).2
  have b:=(k2 j hj i hi).2
  rw [e]at a b
  simp only [Nat.lt_irrefl,decide_false]at a b
  have a:=of_decide_eq_false a.symm
  have b:=of_decide_eq_false b.symm
  omega
 constructor
 ·intro i j hi hj
  have:=wpQ (chK κ i) (chK κ j)
  rw [(k2 i hi j hj).2]at this
  exact this
 ·intro i j hi hj
  show some (decide ([chK κ i]=[chK κ j]))=_
  refine congrArg some (decide_eq_decide.mpr ⟨fun e=>hinj i j hi hj (by simpa using e),fun e=>by rw [e]⟩)
 ·intro i hi
  exact .str 0 _ (wms (k3 i hi).2)
 ·intro i j hi hj e
  have e:[chK κ i]=[chK κ j]:=by injection e
  exact hinj i j hi hj (by simpa using e)
 ·intro i j _ _;rfl
noncomputable def allBits:Nat->List (List Nat)
 | 0=>[[]]
 | n+1=>(allBits n).flatMap fun l=>[0::l,1::l]
theorem wnC:∀ (n:Nat) (l:List Nat),l.length=n->(∀ b∈l,b<2)->l∈allBits n
 | 0,[],_,_=>by simp [allBits]
 | n+1,b::l,h,h2=>by
  unfold allBits
  rw [List.mem_flatMap]
  refine ⟨l,wnC n l (by simpa using h) (fun x hx=>h2 x (by simp [hx])),?_⟩
  have:=h2 b (by simp)
  have:b=0\/b=1:=by omega
  rcases this with rfl | rfl<;>simp
noncomputable def okN (e:Bool):Option Nat->Nat->Bool
 | some a,d=>decide (a<d)==e
 | none,_=>false
noncomputable def testN (sh up:Nat) (bs:List Nat):Bool:=okN (drawnT bs) (nannyT sh (bs.map fun b=>if b=0 then sh else up)) 3
noncomputable def testR (fl:Bool) (bs:List Nat):Bool:=okN (drawnT bs) (turnedT 1 (bs.map fun b=>if fl then 1 - b else b)) 2&&okN (drawnT bs) (turnedT (-1) (bs.map fun b=>if fl then 1 - b else b)) 2
noncomputable def testX (c:Nat) (bs:List Nat):Bool:=okN (drawnT bs) (turnedT 1 (bs.flatMap (clsW c))) 2&&okN (drawnT bs) (turnedT (-1) (bs.flatMap (clsW c))) 2
noncomputable def testT (κ:Nat) (bs:List Nat):Bool:=decide (tablesF (bs.flatMap (wordAt κ))<2)==drawnT bs
theorem waZ {α:Type} {l:List α} {p:α->Bool} (n:Nat) (h1:(l.take n).all p=true) (h2:(l.drop n).all p=true):l.all p=true:=by
 rw [<- List.take_append_drop n l,List.all_append,h1,h2];rfl
theorem wic:(allBits 4).all (testN 1 2)=true:=by decide +kernel
theorem wcT:(allBits 4).all (testR false)=true:=by decide +kernel
theorem wnv:(allBits 4).all (testR true)=true:=by decide +kernel
theorem x0_4:(allBits 4).all (testX 0)=true:=by decide +kernel
theorem x3_4:(allBits 4).all (testX 3)=true:=by decide +kernel
theorem x4_4:(allBits 4).all (testX 4)=true:=by decide +kernel
theorem t0_4:(allBits 4).all (testT 0)=true:=by decide +kernel
theorem t1_4:(allBits 4).all (testT 1)=true:=by decide +kernel
theorem t4_4:(allBits 4).all (testT 4)=true:=by decide +kernel
theorem t5_4:(allBits 4).all (testT 5)=true:=by decide +kernel
theorem t6_4:(allBits 4).all (testT 6)=true:=by decide +kernel
theorem t7_4:(allBits 4).all (testT 7)=true:=by decide +kernel
theorem wib:(allBits 5).all (testN 1 2)=true:=by decide +kernel
theorem wcS:(allBits 5).all (testR false)=true:=by decide +kernel
theorem wnu:(allBits 5).all (testR true)=true:=by decide +kernel
theorem x0_5:(allBits 5).all (testX 0)=true:=by decide +kernel
theorem x3_5:(allBits 5).all (testX 3)=true:=by decide +kernel
theorem x4_5:(allBits 5).all (testX 4)=true:=by decide +kernel
theorem t0_5:(allBits 5).all (testT 0)=true:=by decide +kernel
theorem t1_5:(allBits 5).all (testT 1)=true:=by decide +kernel
theorem t4_5:(allBits 5).all (testT 4)=true:=by decide +kernel
theorem t5_5:(allBits 5).all (testT 5)=true:=by decide +kernel
theorem t6_5:(allBits 5).all (testT 6)=true:=by decide +kernel
theorem t7_5:(allBits 5).all (testT 7)=true:=by decide +kernel
theorem wia:(allBits 6).all (testN 1 2)=true:=by decide +kernel
theorem wdU:(allBits 6).all (testR false)=true:=by decide +kernel
theorem ws0:(allBits 6).all (testR true)=true:=by decide +kernel
theorem x0_6:(allBits 6).all (testX 0)=true:=by decide +kernel
theorem x3_6:(allBits 6).all (testX 3)=true:=by decide +kernel
theorem x4_6:(allBits 6).all (testX 4)=true:=by decide +kernel
theorem t0_6:(allBits 6).all (testT 0)=true:=by decide +kernel
theorem t1_6:(allBits 6).all (testT 1)=true:=by decide +kernel
theorem t4_6:(allBits 6).all (testT 4)=true:=by decide +kernel
theorem t5_6:(allBits 6).all (testT 5)=true:=by decide +kernel
theorem t6_6:(allBits 6).all (testT 6)=true:=by decide +kernel
theorem t7_6:(allBits 6).all (testT 7)=true:=by decide +kernel
theorem wh9:(allBits 7).all (testN 1 2)=true:=by decide +kernel
theorem wdT:(allBits 7).all (testR false)=true:=by decide +kernel
theorem wsZ:(allBits 7).all (testR true)=true:=by decide +kernel
theorem wxi:((allBits 7).take 32).all (testX 0)=true:=by decide +kernel
theorem wxh:(((allBits 7).drop 32).take 32).all (testX 0)=true:=by decide +kernel
theorem wxg:((((allBits 7).drop 32).drop 32).take 32).all (testX 0)=true:=by decide +kernel
theorem wxf:(((((allBits 7).drop 32).drop 32).drop 32).take 32).all (testX 0)=true:=by decide +kernel
theorem x0_7:(allBits 7).all (testX 0)=true:=waZ 32 wxi (waZ 32 wxh (waZ 32 wxg (waZ 32 wxf (by decide +kernel))))
theorem wxe:((allBits 7).take 32).all (testX 3)=true:=by decide +kernel
theorem wxd:(((allBits 7).drop 32).take 32).all (testX 3)=true:=by decide +kernel
theorem wxc:((((allBits 7).drop 32).drop 32).take 32).all (testX 3)=true:=by decide +kernel
theorem wxb:(((((allBits 7).drop 32).drop 32).drop 32).take 32).all (testX 3)=true:=by decide +kernel
theorem x3_7:(allBits 7).all (testX 3)=true:=waZ 32 wxe (waZ 32 wxd (waZ 32 wxc (waZ 32 wxb (by decide +kernel))))
theorem wxa:((allBits 7).take 32).all (testX 4)=true:=by decide +kernel
theorem ww9:(((allBits 7).drop 32).take 32).all (testX 4)=true:=by decide +kernel
theorem ww8:((((allBits 7).drop 32).drop 32).take 32).all (testX 4)=true:=by decide +kernel
theorem ww7:(((((allBits 7).drop 32).drop 32).drop 32).take 32).all (testX 4)=true:=by decide +kernel
theorem x4_7:(allBits 7).all (testX 4)=true:=waZ 32 wxa (waZ 32 ww9 (waZ 32 ww8 (waZ 32 ww7 (by decide +kernel))))
theorem t0_7:(allBits 7).all (testT 0)=true:=by decide +kernel
theorem t1_7:(allBits 7).all (testT 1)=true:=by decide +kernel
theorem t4_7:(allBits 7).all (testT 4)=true:=by decide +kernel
theorem t5_7:(allBits 7).all (testT 5)=true:=by decide +kernel
theorem t6_7:(allBits 7).all (testT 6)=true:=by decide +kernel
theorem t7_7:(allBits 7).all (testT 7)=true:=by decide +kernel
theorem wxA:(allBits 4).all (testN 1 3)=true:=by decide +kernel
theorem wxy:(allBits 4).all (testN 2 3)=true:=by decide +kernel
theorem x1_4:(allBits 4).all (testX 1)=true:=by decide +kernel
theorem x2_4:(allBits 4).all (testX 2)=true:=by decide +kernel
theorem t2_4:(allBits 4).all (testT 2)=true:=by decide +kernel
theorem t3_4:(allBits 4).all (testT 3)=true:=by decide +kernel
theorem wxz:(allBits 5).all (testN 1 3)=true:=by decide +kernel
theorem wxx:(allBits 5).all (testN 2 3)=true:=by decide +kernel
theorem x1_5:(allBits 5).all (testX 1)=true:=by decide +kernel
theorem x2_5:(allBits 5).all (testX 2)=true:=by decide +kernel
theorem t2_5:(allBits 5).all (testT 2)=true:=by decide +kernel
theorem t3_5:(allBits 5).all (testT 3)=true:=by decide +kernel
noncomputable def allT (κ:Nat) (bs:List Nat):Bool:=testN (wordAt κ 0).length (wordAt κ 1).length bs&&testR (decide (κ=3\/κ=5)) bs&&testX (clsK κ) bs&&testT κ bs
theorem all4 {a b c d:Bool} (h1:a=true) (h2:b=true) (h3:c=true) (h4:d=true):(a&&b&&c&&d)=true:=by rw [h1,h2,h3,h4];rfl
theorem waa {n:Nat} {p:List Nat->Bool} (h:(allBits n).all p=true) {bs:List Nat} (hl:bs.length=n) (hb:∀ b∈bs,b<2):p bs=true:=(List.all_eq_true.mp h) bs (wnC n bs hl hb)
theorem wvC (κ:Nat) (bs:List Nat) (hκ:κ<8) (h4:4<=bs.length) (h7:bs.length<=7) (h5:κ=2\/κ=3->bs.length<=5) (hb:∀ b∈bs,b<2):allT κ bs=true:=by
 have hk:κ=0\/κ=1\/κ=2\/κ=3\/κ=4\/κ=5\/κ=6\/κ=7:=by omega
 have hn:bs.length=4\/bs.length=5\/bs.length=6\/bs.length=7:=by omega
 rcases hk with rfl | rfl | rfl | rfl | rfl | rfl | rfl | rfl
 ·show (testN 1 2 bs&&testR false bs&&testX 0 bs&&testT 0 bs)=true
  rcases hn with hn | hn | hn | hn
  ·exact all4 (waa wic hn hb) (waa wcT hn hb) (waa x0_4 hn hb) (waa t0_4 hn hb)
  ·exact all4 (waa wib hn hb) (waa wcS hn hb) (waa x0_5 hn hb) (waa t0_5 hn hb)
  ·exact all4 (waa wia hn hb) (waa wdU hn hb) (waa x0_6 hn hb) (waa t0_6 hn hb)
  ·exact all4 (waa wh9 hn hb) (waa wdT hn hb) (waa x0_7 hn hb) (waa t0_7 hn hb)
 ·show (testN 1 2 bs&&testR false bs&&testX 0 bs&&testT 1 bs)=true
  rcases hn with hn | hn | hn | hn
  ·exact all4 (waa wic hn hb) (waa wcT hn hb) (waa x0_4 hn hb) (waa t1_4 hn hb)
  ·exact all4 (waa wib hn hb) (waa wcS hn hb) (waa x0_5 hn hb) (waa t1_5 hn hb)
  ·exact all4 (waa wia hn hb) (waa wdU hn hb) (waa x0_6 hn hb) (waa t1_6 hn hb)
  ·exact all4 (waa wh9 hn hb) (waa wdT hn hb) (waa x0_7 hn hb) (waa t1_7 hn hb)
 ·show (testN 1 3 bs&&testR false bs&&testX 1 bs&&testT 2 bs)=true
  have hn:bs.length=4\/bs.length=5:=by have:=h5 (by simp);omega
  rcases hn with hn | hn
  ·exact all4 (waa wxA hn hb) (waa wcT hn hb) (waa x1_4 hn hb) (waa t2_4 hn hb)
  ·exact all4 (waa wxz hn hb) (waa wcS hn hb) (waa x1_5 hn hb) (waa t2_5 hn hb)
 ·show (testN 2 3 bs&&testR true bs&&testX 2 bs&&testT 3 bs)=true
  have hn:bs.length=4\/bs.length=5:=by have:=h5 (by simp);omega
  rcases hn with hn | hn
  ·exact all4 (waa wxy hn hb) (waa wnv hn hb) (waa x2_4 hn hb) (waa t3_4 hn hb)
  ·exact all4 (waa wxx hn hb) (waa wnu hn hb) (waa x2_5 hn hb) (waa t3_5 hn hb)
 ·show (testN 1 2 bs&&testR false bs&&testX 0 bs&&testT 4 bs)=true
  rcases hn with hn | hn | hn | hn
  ·exact all4 (waa wic hn hb) (waa wcT hn hb) (waa x0_4 hn hb) (waa t4_4 hn hb)
  ·exact all4 (waa wib hn hb) (waa wcS hn hb) (waa x0_5 hn hb) (waa t4_5 hn hb)
  ·exact all4 (waa wia hn hb) (waa wdU hn hb) (waa x0_6 hn hb) (waa t4_6 hn hb)
  ·exact all4 (waa wh9 hn hb) (waa wdT hn hb) (waa x0_7 hn hb) (waa t4_7 hn hb)
 ·show (testN 1 2 bs&&testR true bs&&testX 3 bs&&testT 5 bs)=true
  rcases hn with hn | hn | hn | hn
  ·exact all4 (waa wic hn hb) (waa wnv hn hb) (waa x3_4 hn hb) (waa t5_4 hn hb)
  ·exact all4 (waa wib hn hb) (waa wnu hn hb) (waa x3_5 hn hb) (waa t5_5 hn hb)
  ·exact all4 (waa wia hn hb) (waa ws0 hn hb) (waa x3_6 hn hb) (waa t5_6 hn hb)
  ·exact all4 (waa wh9 hn hb) (waa wsZ hn hb) (waa x3_7 hn hb) (waa t5_7 hn hb)
 ·show (testN 1 2 bs&&testR false bs&&testX 0 bs&&testT 6 bs)=true
  rcases hn with hn | hn | hn | hn
  ·exact all4 (waa wic hn hb) (waa wcT hn hb) (waa x0_4 hn hb) (waa t6_4 hn hb)
  ·exact all4 (waa wib hn hb) (waa wcS hn hb) (waa x0_5 hn hb) (waa t6_5 hn hb)
  ·exact all4 (waa wia hn hb) (waa wdU hn hb) (waa x0_6 hn hb) (waa t6_6 hn hb)
  ·exact all4 (waa wh9 hn hb) (waa wdT hn hb) (waa x0_7 hn hb) (waa t6_7 hn hb)
 ·show (testN 1 2 bs&&testR false bs&&testX 4 bs&&testT 7 bs)=true
  rcases hn with hn | hn | hn | hn
  ·exact all4 (waa wic hn hb) (waa wcT hn hb) (waa x4_4 hn hb) (waa t7_4 hn hb)
  ·exact all4 (waa wib hn hb) (waa wcS hn hb) (waa x4_5 hn hb) (waa t7_5 hn hb)
  ·exact all4 (waa wia hn hb) (waa wdU hn hb) (waa x4_6 hn hb) (waa t7_6 hn hb)
  ·exact all4 (waa wh9 hn hb) (waa wdT hn hb) (waa x4_7 hn hb) (waa t7_7 hn hb)
theorem weD {e:Bool} {o:Option Nat} {d:Nat} (h:okN e o d=true):∃ a,o=some a/\decide (a<d)=e:=by
 cases o with
 | none=>cases h
 | some a=>exact ⟨a,rfl,by simpa [okN] using h⟩
theorem wtk (κ b:Nat):(wordAt κ b).length=if b=0 then (wordAt κ 0).length else (wordAt κ 1).length:=by
 by_cases h:b=0
 ·subst h;rfl
 ·rw [if_neg h]
  unfold wordAt
  rw [if_neg h,if_neg (by decide)]
theorem wuB (κ b:Nat):rankB κ b=if decide (κ=3\/κ=5)=true then 1 - b else b:=by
 unfold rankB
 by_cases h:κ=3\/κ=5
 ·rw [if_pos h,if_pos (by simpa using h)]
 ·rw [if_neg h,if_neg (by simpa using h)]
theorem woJ {way:Int} (hw:okWay way) {l:List Nat} {e:Bool} (h1:okN e (turnedT 1 l) 2=true) (h2:okN e (turnedT (-1) l) 2=true):∃ a,turnedT way l=some a/\decide (a<2)=e:=by
 rcases hw with rfl | rfl | rfl | rfl
 ·exact weD h1
 ·exact weD h2
 ·rw [wsB];exact weD h1
 ·rw [wsA];exact weD h2
theorem wm5 {α:Type} (f g:α->D) (l:List α):zipQ [.list (l.map f),.list (l.map g)]=some (l.map fun p=>D.tuple [f p,g p]):=by
 show some _=_
 congr 1
 induction l with
 | nil=>rfl
 | cons x l ih=>simp only [List.map_cons,List.zip_cons_cons,ih]
theorem wrY (xs:List D) (x:D) (h:xs.length<9000):cutD (some (-1)) none (.list (xs++[x]))=some (.list [x]):=by
 show (if _ then _ else _)=_
 rw [if_pos (by simp only [List.length_append,List.length_cons,List.length_nil,waf];omega)]
 have e:clipAt (xs.length+1) (-1)=xs.length:=by unfold clipAt;rw [if_pos (by decide)];omega
 unfold cut
 simp only [Option.elim_none,Option.elim_some,List.length_append,List.length_cons,List.length_nil,Nat.zero_add,e]
 simp
theorem wx4:(boundOk (some (-1))&&boundOk none)=true:=by decide
theorem wv0 (a b c:Nat) (t:Int) (h:0<=t):cmpD .NotIn (.int (-1)) (.list [nD a,nD b,nD c,.int t])=some true:=by
 show (memP (.int (-1)) [nD a,nD b,nD c,.int t]).map _=_
 simp only [memP]
 have q:∀ x:Int,0<=x->eqS (.int x) (.int (-1))=some false:=fun x hx=>congrArg some (decide_eq_false (by omega))
 rw [q t h,q (a:Int) (by omega),q (b:Int) (by omega),q (c:Int) (by omega)]
 rfl
theorem four (e:Bool):cmpD .Eq (.list [.bool e,.bool e,.bool e,.bool e]) (.list (List.replicate 4 (.bool e)))=some true:=by
 cases e<;>kernel_rfl!
theorem wvm {c:D->Option Bool} {f:D->Option D} {a b d g a' b' d' g':D} (h1:c a=some true) (h2:c b=some true) (h3:c d=some true) (h4:c g=some true) (e1:f a=some a') (e2:f b=some b') (e3:f d=some d') (e4:f g=some g'):compQ c f [a,b,d,g]=some [a',b',d',g']:=by
 simp only [compQ,h1,h2,h3,h4,e1,e2,e3,e4,Option.bind_some,if_true,Option.map_some]
theorem wnV {α β:Type} (f:α->List β) (l:List α):(l.map f).flatten=l.flatMap f:=by rw [List.flatMap_def]
structure WFact (κ x:Nat):Prop where
 cls:(clsW (clsK κ) x).map (chK κ)=wordAt κ x
 rank:rankW κ (rankB κ x)=wordAt κ x
 rank3:rankB κ x<3
 cls3:∀ y∈clsW (clsK κ) x,y<3
 long:(if (wordAt κ 0).length<(wordAt κ x).length then 1 else 0)=x
 pos:1<=(wordAt κ x).length
 le:(wordAt κ x).length<=3
 txt:PyData.strOk (mk (wordAt κ x))=true
theorem wxj {κ x:Nat} (hκ:κ<8) (hx:x<2):WFact κ x:=by
 have kd:=wl9 hκ
 unfold kindOk at kd
 simp only [Bool.and_eq_true,List.all_eq_true,decide_eq_true_eq,List.mem_range]at kd
 have q:=kd.1.1 x hx
 exact ⟨q.1.1.1.1.1.1.1.1,q.1.1.1.1.1.1.1.2,q.1.1.1.1.1.1.2,q.1.1.1.1.1.2,q.1.1.1.1.2,q.1.1.2,q.1.2,q.2⟩
section
variable {κ:Nat} {bs:List Nat}
theorem wq2 (w:∀ x∈bs,WFact κ x):(bs.flatMap (clsW (clsK κ))).map (chK κ)=bs.flatMap (wordAt κ):=by
 rw [List.map_flatMap,List.flatMap_def,List.flatMap_def,List.map_congr_left fun x hx=>(w x hx).cls]
theorem wml:∀ {bs:List Nat},(∀ x∈bs,WFact κ x)->bs.length<=(bs.flatMap (wordAt κ)).length/\(bs.flatMap (wordAt κ)).length<=3 * bs.length:=by
 intro bs
 induction bs with
 | nil=>intro _;exact ⟨Nat.le_refl _,Nat.le_refl _⟩
 | cons x l ih=>
  intro w
  obtain ⟨q1,q2⟩:=ih fun y hy=>w y (List.mem_cons_of_mem _ hy)
  have w1:=(w x List.mem_cons_self).pos
  have w2:=(w x List.mem_cons_self).le
  rw [List.flatMap_cons,List.length_append,List.length_cons]
  exact ⟨by omega,by omega⟩
theorem wq1 (w:∀ x∈bs,WFact κ x):(bs.map fun b=>D.str (wordAt κ b))=(bs.map (rankB κ)).map fun i=>D.str (rankW κ i):=by
 rw [List.map_map]
 exact List.map_congr_left fun x hx=>congrArg D.str (w x hx).rank.symm
theorem wmm (w:∀ x∈bs,WFact κ x):∀ x∈bs,bfn .len [D.str (wordAt κ x)]=some (nD (wordAt κ x).length):=fun x hx=>strlen (Nat.le_trans (w x hx).le (by decide))
theorem wqz (x d:Nat):cmpD .Lt (nD x) (.int d)=some (decide (x<d)):=congrArg some (decide_eq_decide.mpr Int.ofNat_lt)
theorem wu0 {way:Int} (hκ:κ<8) (hw:okWay way) (w:∀ x∈bs,WFact κ x) (h4:4<=bs.length) (h7:bs.length<=7) (hT:allT κ bs=true) :
  wij (.list (bs.map fun b=>D.str (wordAt κ b))) (nD (wordAt κ 0).length) (.int way) (.str (bs.flatMap (wordAt κ))) (.bool (drawnT bs))=some (.bool true):=by
 unfold allT at hT
 simp only [Bool.and_eq_true]at hT
 obtain ⟨⟨⟨tN,tR⟩,tX⟩,tT⟩:=hT
 unfold testN at tN
 unfold testR at tR
 unfold testX at tX
 unfold testT at tT
 rw [Bool.and_eq_true]at tR tX
 rw [show (fun b=>if b=0 then (wordAt κ 0).length else (wordAt κ 1).length)=fun b=>(wordAt κ b).length from funext fun b=>(wtk κ b).symm]at tN
 rw [show (fun b=>if decide (κ=3\/κ=5)=true then 1 - b else b)=rankB κ from funext fun b=>(wuB κ b).symm]at tR
 obtain ⟨a,ha,hae⟩:=weD tN
 obtain ⟨b,hb,hbe⟩:=woJ hw tR.1 tR.2
 obtain ⟨c,hc,hce⟩:=woJ hw tX.1 tX.2
 have hte:decide (((tablesF (bs.flatMap (wordAt κ)):Nat):Int)<2)=drawnT bs:=by
  rw [<- beq_iff_eq.mp tT];exact decide_eq_decide.mpr Int.ofNat_lt
 obtain ⟨l1,l2⟩:=wml w
 have hflat:=wq2 w
 have hXc:(bs.flatMap (clsW (clsK κ))).length=(bs.flatMap (wordAt κ)).length:=by rw [<- hflat,List.length_map]
 have hX3:∀ x∈bs.flatMap (clsW (clsK κ)),x<3:=fun x hx=>by
  obtain ⟨y,hy,hx⟩:=List.mem_flatMap.mp hx
  exact (w y hy).cls3 x hx
 have hR3:∀ x∈bs.map (rankB κ),x<3:=fun x hx=>by
  obtain ⟨y,hy,rfl⟩:=List.mem_map.mp hx
  exact (w y hy).rank3
 have ht:=woq (bs.flatMap (wordAt κ)) (by omega) (by omega)
 have ht0:(0:Int)<=((tablesF (bs.flatMap (wordAt κ)):Nat):Int):=Int.natCast_nonneg _
 have hrs:=wsT (chK κ) (bs.flatMap (clsW (clsK κ))) (by omega) (by omega)
 rw [hflat]at hrs
 have hrl:(bs.map (rankB κ)).length=bs.length:=List.length_map ..
 have t1:=wmq _ (wvi hκ) _ (bs.map (rankB κ)) way b hw (wrk _ _ (by rw [hrl];omega) (by rw [hrl];omega)) hR3 (by rw [hrl];omega) (by rw [hrl];omega) hb
 rw [<- wq1 w]at t1
 have t2:=wmq _ (wwO hκ) _ (bs.flatMap (clsW (clsK κ))) way c hw hrs hX3 (by omega) (by omega) hc
 have t3:=wrb _ _ (by omega) (by omega) ht
 have t0:=ws8 _ _ a (by rw [List.length_map];omega) ha
 generalize ((tablesF (bs.flatMap (wordAt κ)):Nat):Int)=t at *
 generalize drawnT bs=e at *
 clear hrs tN tR tX tT ha hb hc ht hX3 hR3 hXc hflat
 unfold wij
 refine bnP (waB _) (ldcap _ (Nat.le_trans h7 (by decide))) ?_
 refine bnS (a:=(bs.map fun b=>(wordAt κ b).length).map nD) ((waY (fun b=>D.str (wordAt κ b)) (fun b=>nD (wordAt κ b).length) bs fun x hx=>bnS (wmm w x hx) rfl).trans (congrArg some (by rw [List.map_map];rfl))) ?_
 refine bn4 (t0) (t1) (t2) (t3) ?_
 refine bnS (a:=.bool true) ?_ rfl
 refine bn2 (neg1) (wv0 a b c t ht0) ?_
 refine ifT ?_
 refine bnS (a:=[.tuple [nD a,.int 3],.tuple [nD b,.int 2],.tuple [nD c,.int 2],.tuple [.int t,.int 2]]) rfl (ifP (by show 4<=10000;decide) ?_)
 refine bnS (wvm (a':=.bool e) (b':=.bool e) (d':=.bool e) (g':=.bool e) rfl rfl rfl rfl ?c1 ?c2 ?c3 ?c4) ?_
 case c1=>exact un2 (bnS (wqz a 3) (by rw [hae]))
 case c2=>exact un2 (bnS (wqz b 2) (by rw [hbe]))
 case c3=>exact un2 (bnS (wqz c 2) (by rw [hce]))
 case c4=>exact un2 (bnS (lt_int t 2) (by rw [hte]))
 exact bnS (a:=.list (List.replicate 4 (.bool e))) rfl (bnS (four e) rfl)
theorem wu1 {way x33 x38:D} (w:∀ x∈bs,WFact κ x) (hb:∀ x∈bs,x<2) (h4:4<=bs.length) (h7:bs.length<=7) :
  wik (.list (bs.map fun b=>D.str (wordAt κ b))) (nD (wordAt κ 0).length) x33 way x38=wij x33 (nD (wordAt κ 0).length) way x38 (.bool (drawnT bs)):=by
 have hbsum:bs.sum<=bs.length:=by
  clear h4 h7 w
  induction bs with
  | nil=>exact Nat.le_refl _
  | cons x l ih=>
   have h1:=ih fun y hy=>hb y (List.mem_cons_of_mem _ hy)
   have h2:=hb x List.mem_cons_self
   rw [List.sum_cons,List.length_cons];omega
 unfold wik
 refine bnP (waB _) (ldcap _ (Nat.le_trans h7 (by decide))) ?_
 refine bnS (waY (fun b=>D.str (wordAt κ b)) nD bs fun x hx=>?c1) (bnS (wtJ bs (by omega) (by omega) (by omega)) rfl)
 have q:=(w x hx).long
 refine bnS (a:=nD x) (bnS (wmm w x hx) (bnS (gt_int _ _) ?_)) rfl
 by_cases z:(wordAt κ 0).length<(wordAt κ x).length
 ·rw [if_pos z]at q
  exact (ifP (decide_eq_true (Int.ofNat_lt.mpr z)) rfl).trans (by rw [<- q];rfl)
 ·rw [if_neg z]at q
  exact (ifN (fun e=>z (Int.ofNat_lt.mp (of_decide_eq_true e))) rfl).trans (by rw [<- q];rfl)
theorem wu2 {way ring short:D} {mark:Nat} (w:∀ x∈bs,WFact κ x) (h7:bs.length<=7) :
  wil ((bs.map fun b=>D.str (wordAt κ b))++[cD mark]) ring short way=wik ring short (.list (bs.map fun b=>D.str (wordAt κ b))) way (.str (bs.flatMap (wordAt κ))):=by
 have hl:(bs.map fun b=>D.str (wordAt κ b)).length<9000:=by rw [List.length_map];omega
 have hj:mfn (.str []) .join [.list (bs.map fun b=>D.str (wordAt κ b))]=some (.str (bs.flatMap (wordAt κ))):=by
  have:=(wml w).2
  rw [<- wnV]
  exact wpX (wordAt κ) bs (by rw [wnV,waf];omega)
 unfold wil
 refine bnS (neg1) ?_
 refine inS ?_
 refine ifP (bo1) ?_
 refine bnS (wn8 _ _ hl) ?_
 refine Eq.trans (wk0 _ _) ?_
 refine bnS (neg1) ?_
 refine inS ?_
 refine ifP (bo1) ?_
 refine bn2 (wn8 _ _ hl) (hj) ?_
 rfl
theorem wu3 {way short:D} {mark:Nat} {P:List (Nat×Bool)} (w:∀ x∈bs,WFact κ x) (h7:bs.length<=7) (hP:∀ p∈P++[(mark,false)],good p.1=true/\inB p.1=p.2) (hPl:P.length<=14) (htold:((P.filter fun p=>!p.2).map fun p=>mean p.1)=bs.map fun b=>wordAt κ b) (m3:mean mark=[mark]) (m4:mark<1114112) :
  wmj (.list ((P++[(mark,false)]).map fun p=>cD p.1)) (.list ((P++[(mark,false)]).map fun p=>D.bool p.2)) (.list (bs.map fun b=>D.str (wordAt κ b))) short way=wil ((bs.map fun b=>D.str (wordAt κ b))++[cD mark]) (.list (bs.map fun b=>D.str (wordAt κ b))) short way:=by
 have hc:(P++[(mark,false)]).length<=cap:=by rw [List.length_append];exact Nat.le_trans (Nat.succ_le_succ hPl) (by decide)
 have hfolds:((P++[(mark,false)]).filter fun p=>!p.2).map (fun p=>D.str (mean p.1))=(bs.map fun b=>D.str (wordAt κ b))++[cD mark]:=by
  rw [List.filter_append,List.map_append]
  have:=congrArg (fun l=>l.map D.str) htold
  simp only [List.map_map]at this
  exact congr (congrArg _ this) (by show [D.str (mean mark)]=[cD mark];rw [m3];rfl)
 have hfl:cutD (some (-1)) none (.list ((P++[(mark,false)]).map fun p=>cD p.1))=some (.list [cD mark]):=by
  rw [List.map_append];exact wrY _ _ (by rw [List.length_map];omega)
 unfold wmj
 refine bnP (wm5 _ _ _) (ldcap _ hc) ?_
 refine bnS (a:=(bs.map fun b=>D.str (wordAt κ b))++[cD mark]) ((waC (fun p:Nat×Bool=>D.tuple [cD p.1,D.bool p.2]) (fun p=>!p.2) (fun p=>.str (mean p.1)) (P++[(mark,false)]) ?c1 ?c2).trans (congrArg some hfolds)) ?_
 case c1=>
  intro p hp
  show (if (!p.2)=true then some true else some false)=_
  cases p.2<;>rfl
 case c2=>
  intro p hp hv
  have e:inB p.1=false:=by
   rw [(hP p hp).2]
   cases q:p.2 with
   | false=>rfl
   | true=>rw [q]at hv;exact nomatch hv
  exact un2 (bnS (wwm (hP p hp).1 e) rfl)
 refine bnS (neg1) ?_
 refine inS ?_
 refine ifP (wx4) ?_
 refine bn2 (hfl) (wbm (by rw [List.length_map];exact Nat.le_trans (Nat.succ_le_succ h7) (by decide))) ?_
 refine bnS (waQ (n:=1) (.list 0 _ fun x hx=>by rcases List.mem_append.mp hx with hx | hx;obtain ⟨y,hy,rfl⟩:=List.mem_map.mp hx;exact .str 0 _ (w y hy).txt;rw [List.mem_singleton.mp hx];exact .str 0 _ (wms m4)) (by decide)) ?_
 refine ifF ?_
 rfl
end
theorem wwd (xs:List Int) (h:xs.length<=63):wju (.list (xs.map .int))=some (.bool true):=by
 obtain ⟨κ,k,s,mark,way,hring,hκ,iv,hk4,hk7,hk5,hmark,hw⟩:=wuA xs h
 obtain ⟨bs,P⟩:=s
 have hlen:=iv.len
 have hbits:=iv.bits
 have hsm:=iv.small
 dsimp only at hring hlen hbits hsm
 subst hlen
 have w:∀ x∈bs,WFact κ x:=fun x hx=>wxj hκ (hbits x hx)
 have hmk:=(List.all_eq_true.mp wnE) mark hmark
 simp only [Bool.and_eq_true,Bool.not_eq_true',decide_eq_true_eq]at hmk
 obtain ⟨⟨⟨m1,m2⟩,m3⟩,m4⟩:=hmk
 have hP:∀ p∈P++[(mark,false)],good p.1=true/\inB p.1=p.2:=fun p hp=>by
  rcases List.mem_append.mp hp with hp | hp
  ·exact iv.good p hp
  ·rw [List.mem_singleton.mp hp];exact ⟨m1,m2⟩
 have hPl:P.length<=14:=Nat.le_trans hsm (Nat.mul_le_mul_left 2 hk7)
 have hc:(P++[(mark,false)]).length<=cap:=by rw [List.length_append];exact Nat.le_trans (Nat.succ_le_succ hPl) (by decide)
 unfold wju
 refine bnS (hring) ?_
 refine (wq4 _ _ _ _ _ _).trans ?_
 refine bnP (wm5 _ _ _) (ldcap _ hc) ?_
 refine bnS (a:=[]) ((waC (fun p:Nat×Bool=>D.tuple [cD p.1,D.bool p.2]) (fun _=>false) (fun _=>.int 1) (P++[(mark,false)]) ?c1 (fun _ _ h=>by cases h)).trans (by rw [wfz];rfl)) ?_
 case c1=>
  intro p hp
  refine un2 (bnS (wwn (hP p hp).1) (bnS (isnot_bool _ _) ?_))
  rw [(hP p hp).2];cases p.2<;>rfl
 refine bnS (waQ (wet 0) (by decide)) ?_
 refine ifF ?_
 exact (wu3 w hk7 hP hPl iv.told m3 m4).trans ((wu2 w hk7).trans ((wu1 w hbits hk4 hk7).trans (wu0 hκ hw w hk4 hk7 (wvC κ bs hκ hk4 hk7 hk5 hbits))))
theorem value01 (xs:List Int) (h:xs.length<=63):a_law [.list (xs.map .int)]=some (.bool true):=wwd xs h
end Mine.Py
end
set_option maxRecDepth 100000 in
set_option maxHeartbeats 8000000 in
theorem PySem.Challenge.cw_xb0039_01_holds : PySem.Challenge.rw_xb0039_01.Holds := by
  exact Mine.join01 Mine.Py.value01
