import PyProof.Rows.All
import Wide.All
import OpenK.AllK
import Wide.FinOn
import Lean
import PySem.Challenge.RW_xb0039_02
set_option Elab.async false
set_option maxRecDepth 100000
set_option linter.unusedVariables false
set_option maxHeartbeats 0
local macro_rules | `(tactic| omega)=>`(tactic| lia)
section
namespace Mine
open PySem PySem.W PyProof.Rows PySem.Calls
section
variable (p:Program) (w:World) (na:Nat) (ann:Option Value)
noncomputable abbrev seg (n:Nat) (S:SharedT) (t:Thread):Option (SharedT×Thread):=segGoT treeTable p w na ann 1 n S t
noncomputable def EvT {α:Type} (m:Sem α) (S:SharedT) (a:α) (S':SharedT) (k:Nat):Prop:=
 ∀ (K:α->Sem Fin) (H:Value->Sem Fin) (gd:Bool->Bool) (lv:List Value->List Value) (code:Code) (pos:Pos) (B:List Frame),1<=B.length ->
  ∃ pos' n,n<=k/\seg p w na ann n S ⟨m.wrap K H gd lv,code,pos,B⟩=some (S',⟨K a,code,pos',B⟩)
end
section
variable {p:Program} {w:World} {na:Nat} {ann:Option Value}
theorem whQ:∀ {n m:Nat} {S S':SharedT} {t t':Thread} {r:SharedT×Thread},seg p w na ann n S t=some (S',t')->seg p w na ann m S' t'=some r ->
  seg p w na ann (n+m) S t=some r
 | 0,m,S,S',t,t',r,h,k=>by
  have:some (S,t)=some (S',t'):=h
  cases this
  rw [Nat.zero_add];exact k
 | n+1,m,S,S',t,t',r,h,k=>by
  rw [show n+1+m=(n+m)+1 by omega]
  unfold seg segGoT at h ⊢
  cases he:endAt 1 t with
  | some f=>rw [he]at h;cases h
  | none=>
   rw [he]at h
   cases hk:stepOk na ann t with
   | false=>rw [hk]at h;cases h
   | true=>
    rw [hk]at h
    cases hs:stepT (denote treeTable) p w S t with
    | none=>rw [hs]at h;cases h
    | some rc=>obtain ⟨s₂,ta⟩:=rc;rw [hs]at h;exact whQ (n:=n) h k
theorem whP {n:Nat} {S S':SharedT} {t t':Thread} {r:SharedT×Thread} (he:endAt 1 t=none) (hk:stepOk na ann t=true)
  (hs:stepT (denote treeTable) p w S t=some (S',t')) (h:seg p w na ann n S' t'=some r):seg p w na ann (n+1) S t=some r:=by
 unfold seg segGoT
 rw [he,hk,hs]
 exact h
theorem wl7 {t:Thread} (h:∀ f,t.cur≠.pure (.done f)):endAt 1 t=none:=by
 unfold endAt
 split
 ·rename_i f _ e;exact absurd e (h f)
 ·rfl
theorem wjO {t:Thread} (h:2<=t.stack.length):endAt 1 t=none:=by
 unfold endAt
 have:(t.stack.length==1)=false:=beq_eq_false_iff_ne.mpr (by omega)
 rw [this]
namespace EvT
variable {α β:Type} {S S' S'':SharedT} {k k':Nat}
theorem mono {m:Sem α} {a:α} (h:EvT p w na ann m S a S' k) (hk:k<=k'):EvT p w na ann m S a S' k':=
 fun K H gd lv code pos B hB=>let ⟨pos',n,hn,e⟩:=h K H gd lv code pos B hB;⟨pos',n,Nat.le_trans hn hk,e⟩
theorem pure' (a:α):EvT p w na ann (Sem.pure a) S a S 0:=fun _ _ _ _ _ pos _ _=>⟨pos,0,Nat.le_refl _,rfl⟩
theorem pure (a:α):EvT p w na ann (Pure.pure a:Sem α) S a S 0:=pure' a
theorem wrapped {m:Sem α} {a:α} {f:α->Sem β} {b:β} {H:Value->Sem β} {gd:Bool->Bool} {lv:List Value->List Value} (h:EvT p w na ann m S a S' k) (h':EvT p w na ann (f a) S' b S'' k') :
  EvT p w na ann (m.wrap f H gd lv) S b S'' (k+k'):=by
 intro K H' gd' lv' code pos B hB
 obtain ⟨p1,n1,l1,e1⟩:=h (fun a=>(f a).wrap K H' gd' lv') (fun e=>(H e).wrap K H' gd' lv') (fun g=>gd' (gd g)) (fun l=>lv' (lv l)) code pos B hB
 obtain ⟨p2,n2,l2,e2⟩:=h' K H' gd' lv' code p1 B hB
 refine ⟨p2,n1+n2,by omega,?_⟩
 rw [Sem.wrap_wrap]
 exact whQ e1 e2
theorem bind {m:Sem α} {a:α} {f:α->Sem β} {b:β} (h:EvT p w na ann m S a S' k) (h':EvT p w na ann (f a) S' b S'' k'):EvT p w na ann (m >>= f) S b S'' (k+k'):=by
 rw [Sem.bind_eq_wrap'];exact wrapped h h'
theorem tryCatch {m:Sem α} {a:α} {h':Value->Sem α} (h:EvT p w na ann m S a S' k):EvT p w na ann (m.tryCatch h') S a S' k:=by
 rw [Sem.tryCatch_eq_wrap];exact wrapped h (pure' a)
theorem onRaise {m:Sem α} {a:α} {h':Value->Sem Unit} (h:EvT p w na ann m S a S' k):EvT p w na ann (m.onRaise h') S a S' k:=by
 rw [Sem.onRaise_eq_wrap];exact wrapped h (pure' a)
theorem keep {m:Sem α} {a:α} {vs:List Value} (h:EvT p w na ann m S a S' k):EvT p w na ann (m.keep vs) S a S' k:=by
 rw [Sem.keep_eq_wrap];exact wrapped h (pure' a)
theorem holding {m:Sem α} {a:α} {vs:List Value} (h:EvT p w na ann m S a S' k):EvT p w na ann (PySem.holding vs m) S a S' k:=by
 unfold PySem.holding
 split
 ·exact h
 ·exact keep h
theorem wdA {m:Sem α} {m':Sem α} {a:α} (h':EvT p w na ann m' S' a S'' k)
  (hs:∀ (K:α->Sem Fin) (H:Value->Sem Fin) (gd:Bool->Bool) (lv:List Value->List Value) (code:Code) (pos:Pos) (B:List Frame),
   (∀ f,m.wrap K H gd lv≠.pure (.done f))/\stepOk na ann ⟨m.wrap K H gd lv,code,pos,B⟩=true /\
   ∃ pos',stepT (denote treeTable) p w S ⟨m.wrap K H gd lv,code,pos,B⟩=some (S',⟨m'.wrap K H gd lv,code,pos',B⟩)):EvT p w na ann m S a S'' (k+1):=by
 intro K H gd lv code pos B hB
 obtain ⟨h1,h2,pos',h3⟩:=hs K H gd lv code pos B
 obtain ⟨p2,n2,l2,e2⟩:=h' K H gd lv code pos' B hB
 exact ⟨p2,n2+1,by omega,whP (wl7 h1) h2 h3 e2⟩
theorem rule (t:String):EvT p w na ann (PySem.rule t) S () S 1:=
 wdA (pure' ()) fun K H gd lv code pos B=>⟨(fun f e=>by cases e),rfl,pos,rfl⟩
theorem standAt (q:Pos):EvT p w na ann (PySem.standAt q) S () S 1:=
 wdA (pure' ()) fun K H gd lv code pos B=>⟨(fun f e=>by cases e),rfl,q,rfl⟩
theorem point:EvT p w na ann PySem.point S () S 1:=
 wdA (pure' ()) fun K H gd lv code pos B=>⟨(fun f e=>by cases e),rfl,pos,rfl⟩
theorem ask:EvT p w na ann PySem.ask S ⟨p,w.params⟩ S 1:=
 wdA (pure' _) fun K H gd lv code pos B=>⟨(fun f e=>by cases e),rfl,pos,rfl⟩
theorem fresh:EvT p w na ann PySem.fresh S S.toks { S with toks:=S.toks+1 } 1:=
 wdA (pure' _) fun K H gd lv code pos B=>⟨(fun f e=>by cases e),rfl,pos,rfl⟩
theorem loadPart {a:Addr} {q:Option Value} {o:Obj} (hn:Nat.blt a S.n=true) (hg:S.tree.get a=some o) (ha:alive o=some o):EvT p w na ann (PySem.loadPart a q) S o S 1:=
 wdA (pure' o) fun K H gd lv code pos B=>⟨(fun f e=>by cases e),rfl,pos,by
  show (match Nat.blt a S.n with
   | true=>match S.tree.get a with
    | some o=>match alive o with
     | some o'=>some (S,(⟨K o',code,pos,B⟩:Thread))
     | none=>none
    | none=>none
   | false=>none)=some (S,⟨K o,code,pos,B⟩)
  rw [hn,hg]
  dsimp only
  rw [ha]⟩
theorem load {a:Addr} {o:Obj} (hn:Nat.blt a S.n=true) (hg:S.tree.get a=some o) (ha:alive o=some o):EvT p w na ann (PySem.load a) S o S 1:=loadPart hn hg ha
theorem updatePart {a:Addr} {q:Option Value} {f:Obj->Obj} {o:Obj} (hn:Nat.blt a S.n=true) (hg:S.tree.get a=some o) (ha:alive o=some o) (hle:Nat.ble na a=true) :
  EvT p w na ann (PySem.updatePart a q f) S () { S with tree:=S.tree.set a f } 1:=
 wdA (pure' ()) fun K H gd lv code pos B=>⟨(fun f e=>by cases e),by
  show (true&&((Nat.ble na a||a==mainNs||a==cStatics||ann==some (.ref a))))=true
  rw [hle];rfl,pos,by
  show (match Nat.blt a S.n with
   | true=>match S.tree.get a with
    | some o=>match alive o with
     | some _=>some ({ S with tree:=S.tree.set a f },(⟨K (),code,pos,B⟩:Thread))
     | none=>none
    | none=>none
   | false=>none)=some ({ S with tree:=S.tree.set a f },⟨K (),code,pos,B⟩)
  rw [hn,hg]
  dsimp only
  rw [ha]⟩
theorem alloc {o:Obj} (hg:((S.tree.ins S.n o).get S.n).isSome=true):EvT p w na ann (PySem.alloc o) S S.n { S with tree:=S.tree.ins S.n o,n:=S.n+1 } 1:=
 wdA (pure' _) fun K H gd lv code pos B=>⟨(fun f e=>by cases e),rfl,pos,by
  show (match ((S.tree.ins S.n o).get S.n).isSome with
   | true=>some ({ S with tree:=S.tree.ins S.n o,n:=S.n+1 },(⟨K S.n,code,pos,B⟩:Thread))
   | false=>none)=_
  rw [hg];rfl⟩
theorem mkInt (i:Int):EvT p w na ann (PySem.mkInt i) S (.int i S.toks) { S with toks:=S.toks+1 } 1:=bind (f:=fun t=>Pure.pure (Value.int i t)) fresh (pure _)
theorem mkText (x:Str):EvT p w na ann (PySem.mkText x) S (.str x S.toks) { S with toks:=S.toks+1 } 1:=bind (f:=fun t=>Pure.pure (Value.str x t)) fresh (pure _)
theorem woC (m:Sem α):m.wrap .pure .raise id id=m:=by
 induction m<;>simp only [Sem.wrap,id, *]
theorem callB {id:String} {b:Builtin} {args:List Value} {v:Value} (hid:id.startsWith "lifetime."=false) (hb:entryFor treeTable id=some b)
  (hc:EvT p w na ann (checkBuiltinCall id ⟨args,[]⟩) S () S k) (hr:EvT p w na ann (b ⟨args,[]⟩) S (.done (.ret v)) S' k') :
  EvT p w na ann (PySem.call (.builtin id) args) S v S' (k+k'+3):=by
 intro K H gd lv code pos B hB
 have e1:∀ kk lvv kept,∃ p1 n1,n1<=k/\seg p w na ann n1 S ⟨denote treeTable (.call (.builtin id) ⟨args,[]⟩),.call (.builtin id) ⟨args,[]⟩,pos,.ret kk none (gd false) lvv code pos kept::B⟩ =
   some (S,⟨.pure (.again (.builtin id ⟨args,[]⟩)),.call (.builtin id) ⟨args,[]⟩,p1,.ret kk none (gd false) lvv code pos kept::B⟩):=by
  intro kk lvv kept
  obtain ⟨p1,n1,l1,e1⟩:=hc (fun _=>.pure (.again (.builtin id ⟨args,[]⟩))) .raise (fun g=>g) (fun l=>l) (.call (.builtin id) ⟨args,[]⟩) pos (.ret kk none (gd false) lvv code pos kept::B) (by simp)
  refine ⟨p1,n1,l1,?_⟩
  have:denote treeTable (.call (.builtin id) ⟨args,[]⟩)=(checkBuiltinCall id ⟨args,[]⟩).wrap (fun _=>.pure (.again (.builtin id ⟨args,[]⟩))) .raise (fun g=>g) (fun l=>l):=by
   show (checkBuiltinCall id ⟨args,[]⟩ >>= fun _=>again (.builtin id ⟨args,[]⟩))=_
   rw [Sem.bind_eq_wrap']
   rfl
  rw [this]
  exact e1
 have e2:∀ kk lvv kept q,∃ p2 n2,n2<=k'/\seg p w na ann n2 S ⟨denote treeTable (.builtin id ⟨args,[]⟩),.builtin id ⟨args,[]⟩,q,.ret kk none (gd false) lvv code pos kept::B⟩ =
   some (S',⟨.pure (.done (.ret v)),.builtin id ⟨args,[]⟩,p2,.ret kk none (gd false) lvv code pos kept::B⟩):=by
  intro kk lvv kept q
  obtain ⟨p2,n2,l2,e2⟩:=hr .pure .raise (fun g=>g) (fun l=>l) (.builtin id ⟨args,[]⟩) q (.ret kk none (gd false) lvv code pos kept::B) (by simp)
  refine ⟨p2,n2,l2,?_⟩
  have:denote treeTable (.builtin id ⟨args,[]⟩)=(b ⟨args,[]⟩).wrap .pure .raise (fun g=>g) (fun l=>l):=by
   have e:=woC (b ⟨args,[]⟩)
   refine Eq.trans ?_ e.symm
   show (match entryFor treeTable id with | some b=>b ⟨args,[]⟩ | none=>unsupported ((withoutEnding? id "#data").getD id))=b ⟨args,[]⟩
   rw [hb]
  rw [this]
  exact e2
 have key:∀ kk kept,∃ n,n<=k+k'+2/\seg p w na ann n S ⟨denote treeTable (.call (.builtin id) ⟨args,[]⟩),.call (.builtin id) ⟨args,[]⟩,pos,.ret kk none (gd false) (lv []) code pos kept::B⟩ =
   some (S',⟨kk (.ok (.ret v)),code,pos,B⟩):=by
  intro kk kept
  obtain ⟨p1,n1,l1,s1⟩:=e1 kk (lv []) kept
  obtain ⟨p2,n2,l2,s2⟩:=e2 kk (lv []) (keptBy (.call (.builtin id) ⟨args,[]⟩) (.builtin id ⟨args,[]⟩) (lv []) kept) p1
  refine ⟨n1+((n2+(0+1))+1),by omega,whQ s1 ?_⟩
  refine whP (wjO (by show 2<=B.length+1;omega)) ?_ (S':=S) (t':=⟨denote treeTable (.builtin id ⟨args,[]⟩),.builtin id ⟨args,[]⟩,p1,.ret kk none (gd false) (lv []) code pos _::B⟩) ?_ (whQ s2 ?_)
  ·show ((!(id.startsWith "lifetime.")||_)&&!false&&true&&true)=true
   rw [hid];rfl
  ·show (match step (denote treeTable) p w ⟨{},S.gens,S.drawn,S.toks,S.os⟩ ⟨.pure (.again (.builtin id ⟨args,[]⟩)),.call (.builtin id) ⟨args,[]⟩,p1,.ret kk none (gd false) (lv []) code pos kept::B⟩ with
    | .go s' t'=>some ((⟨S.tree,S.n,S.life,s'.gens,s'.drawn,s'.toks,s'.os⟩:SharedT),t')
    | .halt _ _=>none)=_
   rw [PySem.W.step_again]
  ·exact whP (wjO (by show 2<=B.length+1;omega)) rfl (S':=S') (t':=⟨kk (.ok (.ret v)),code,pos,B⟩) rfl rfl
 have hstep:∃ kk kept,stepT (denote treeTable) p w S ⟨(PySem.call (.builtin id) args).wrap K H gd lv,code,pos,B⟩ =
   some (S,⟨denote treeTable (.call (.builtin id) ⟨args,[]⟩),.call (.builtin id) ⟨args,[]⟩,pos,.ret kk none (gd false) (lv []) code pos kept::B⟩)/\kk (.ok (.ret v))=K v:=⟨_,_,rfl,rfl⟩
 obtain ⟨kk,kept,h1,h2⟩:=hstep
 obtain ⟨n,ln,hn⟩:=key kk kept
 refine ⟨pos,n+1,by omega,whP (wl7 (fun f e=>by cases e)) rfl h1 ?_⟩
 rw [<- h2]
 exact hn
end EvT
end
noncomputable def put (T:BT) (d:Nat) (o:Obj):BT:=T.set d fun _=>o
theorem wjZ (f:Obj->Obj) (o:Obj):∀ (T:BT) (d:Nat),T.get d=some o->T.set d f=put T d (f o)
 | .nil,d,h=>rfl
 | .node v l r,d,h=>by
  unfold put
  rw [BT.set_node,BT.set_node]
  rw [BT.get_node]at h
  by_cases h0:d=0
  ·rw [if_pos h0]at h;cases h;simp [h0]
  ·rw [if_neg h0]at h
   by_cases h1:d % 2=1
   ·rw [if_pos h1]at h;simp only [h0,h1,if_true,if_false];rw [wjZ f o l _ h];rfl
   ·rw [if_neg h1]at h;simp only [h0,h1,if_false];rw [wjZ f o r _ h];rfl
theorem we3 (x y:Obj):∀ (T:BT) (d:Nat),put (put T d x) d y=put T d y
 | .nil,d=>rfl
 | .node v l r,d=>by
  unfold put
  rw [BT.set_node v l r d (fun _=>x),BT.set_node v l r d (fun _=>y)]
  by_cases h0:d=0
  ·simp only [h0,if_true];rw [BT.set_node];simp
  ·by_cases h1:d % 2=1
   ·simp only [h0,h1,if_true,if_false];rw [BT.set_node];simp only [h0,h1,if_true,if_false];exact congrArg (BT.node v · r) (we3 x y l _)
   ·simp only [h0,h1,if_false];rw [BT.set_node];simp only [h0,h1,if_false];exact congrArg (BT.node v l ·) (we3 x y r _)
theorem wj8 {T:BT} {d:Nat} {o x:Obj} (h:T.get d=some o):(put T d x).get d=some x:=by
 unfold put;rw [BT.get_set,if_pos rfl,h];rfl
theorem woh {T:BT} {d i:Nat} {x:Obj} (h:i≠d):(put T d x).get i=T.get i:=by
 unfold put;rw [BT.get_set,if_neg h]
theorem whR (x y:Obj):∀ (T:BT) (n:Nat),((T.ins n x).get n).isSome=true->put (T.ins n x) n y=T.ins n y
 | .nil,n,h=>by
  have e:∀ o,(BT.nil.ins n o)=.node o .nil .nil:=fun _=>rfl
  rw [e,e]at *
  unfold put
  rw [BT.get_node]at h
  have h0:n=0:=by
   by_cases q:n=0
   ·exact q
   ·exfalso;revert h;by_cases p:n % 2=1<;>simp [q,p,BT.get]
  rw [BT.set_node];simp [h0]
 | .node v l r,n,h=>by
  rw [BT.ins_node]at h ⊢
  rw [BT.ins_node]
  unfold put
  by_cases h0:n=0
  ·simp only [h0,if_true];rw [BT.set_node];simp
  ·by_cases h1:n % 2=1
   ·simp only [h0,h1,if_true,if_false]at h ⊢
    rw [BT.get_node]at h
    simp only [h0,h1,if_true,if_false]at h
    rw [BT.set_node];simp only [h0,h1,if_true,if_false]
    exact congrArg (BT.node v · r) (whR x y l _ h)
   ·simp only [h0,h1,if_false]at h ⊢
    rw [BT.get_node]at h
    simp only [h0,h1,if_false]at h
    rw [BT.set_node];simp only [h0,h1,if_false]
    exact congrArg (BT.node v l ·) (whR x y r _ h)
theorem get_ins {T:BT} {n:Nat} {x:Obj} (h:((T.ins n x).get n).isSome=true):(T.ins n x).get n=some x:=by
 rw [BT.get_ins x T n h,if_pos rfl]
theorem woi {T:BT} {n i:Nat} {x:Obj} (h:((T.ins n x).get n).isSome=true) (hi:i≠n):(T.ins n x).get i=T.get i:=by
 rw [BT.get_ins x T n h,if_neg hi]
noncomputable def dObj (es:List DictEntry):Obj:=⟨.type "dict",none,.dict es.toArray es.length,#[]⟩
theorem wc8 (es:List DictEntry):alive (dObj es)=some (dObj es):=rfl
section
variable {p:Program} {w:World} {na:Nat} {ann:Option Value} {S:SharedT}
theorem wq9 (k:Int) (t:Tok):checkBuiltinCall "int.__hash__" ⟨[.int k t],[]⟩=pure ():=by kernel_rfl
theorem woo:entryFor treeTable "int.__hash__"=some Builtin.«int.__hash__»:=by rw [<- table_eq_tree];exact entry_int_hash
theorem wsh (k:Int) (t:Tok):EvT p w na ann (pyHash (.int k t)) S (hashInt k) { S with toks:=S.toks+1 } 12:=by
 have hr:=rawHash_range k
 have hs:specialOf (.int k t) "__hash__"=pure (some (.builtin "int.__hash__")):=by
  show (typeLookup (.type "int") "__hash__")=_
  exact slot_int_hash.lookup
 have hv:[Value.int k t].any Value.onHeap=false:=rfl
 have hcall:EvT p w na ann (call (.builtin "int.__hash__") [.int k t]) S (.int (rawHash k) S.toks) { S with toks:=S.toks+1 } 4:=by
  refine EvT.callB (k:=0) (k':=1) (b:=Builtin.«int.__hash__») (by decide +kernel) woo ?_ ?_
  ·rw [wq9];exact EvT.pure ()
  ·show EvT p w na ann (mkInt (rawHash k) >>= fun v=>ret v) S _ _ _
   exact EvT.bind (k:=1) (k':=0) (EvT.mkInt _) (EvT.pure _)
 have hb:∀ r:Sem Value,EvT p w na ann (callSpecialIfBoundUnlessNone? (.int k t) "__hash__" r) S (some (.int (rawHash k) S.toks)) { S with toks:=S.toks+1 } 6:=by
  intro r
  unfold callSpecialIfBoundUnlessNone? bindSpecialIfBound?
  rw [hs]
  refine EvT.holding ?_
  have hbs:bindSpecial (.builtin "int.__hash__") (.int k t)=pure (.builtin "int.__hash__",[.int k t]):=slot_int_hash.bind _
  have wdA:EvT p w na ann (do
    let bind:Sem (Option (Value×List Value)):=do return some (<- bindSpecial (.builtin "int.__hash__") (.int k t))
    if (<- ask).params.followText "special-get-raises" then bind
    else bind.tryCatch fun _=>do rule "special.get-raises-dropped";pure none) S (some (Value.builtin "int.__hash__",[Value.int k t])) S 1:=by
   rw [hbs]
   refine EvT.bind (k:=1) (k':=0) EvT.ask ?_
   show EvT p w na ann (if w.params.followText "special-get-raises"=true then _ else _) S _ S 0
   split
   ·exact EvT.pure _
   ·exact EvT.tryCatch (EvT.pure _)
  refine EvT.mono (EvT.bind (k:=1) (k':=4+0) wdA ?_) (by decide)
  exact EvT.bind (k:=4) (k':=0) hcall (EvT.pure _)
 unfold pyHash pyHashByItsType
 refine EvT.mono (EvT.bind (k:=0) (k':=6) (a:=()) (S':=S) (by rw [cRoomFor,if_neg (by rw [hv];exact Bool.false_ne_true)];exact EvT.pure ()) ?_) (by decide)
 rw [hs]
 refine EvT.bind (k:=0) (k':=6) (EvT.pure _) ?_
 show EvT p w na ann (if (some (Value.builtin "int.__hash__")==some Value.none)=true then _ else _) S _ _ _
 rw [if_neg (by rw [beq_builtin_none];exact Bool.false_ne_true)]
 refine EvT.bind (k:=0) (k':=6) (EvT.pure _) ?_
 refine EvT.bind (k:=6) (k':=0) (hb _) ?_
 show EvT p w na ann (if (decide (-(2:Int) ^ 63<=rawHash k)&&decide (rawHash k<2 ^ 63))=true then _ else _) _ _ _ _
 rw [if_pos (by rw [decide_eq_true hr.1,decide_eq_true hr.2];rfl)]
 exact EvT.pure _
noncomputable def NoHash (h:Int) (es:List DictEntry):Prop:=∀ e∈es,e.hash≠h
theorem wmo {es:List DictEntry} {h:Int} (hn:NoHash h es):placesWithHash es.toArray.size (fun i=>es.toArray[i]?.map (·.hash)) h=[]:=by
 unfold placesWithHash
 rw [List.filter_eq_nil_iff]
 intro i _ e
 simp only [List.getElem?_toArray]at e
 cases hi:es[i]? with
 | none=>rw [hi]at e;simp at e
 | some x=>
  rw [hi]at e
  have:x.hash=h:=by simpa using e
  exact hn x (List.mem_of_getElem? hi) this
structure DAt (na:Nat) (S:SharedT) (d:Nat) (es:List DictEntry):Prop where
 get:S.tree.get d=some (dObj es)
 lt:Nat.blt d S.n=true
 new:Nat.ble na d=true
theorem DAt.toks {d:Nat} {es:List DictEntry} {k:Nat} (h:DAt na S d es):DAt na { S with toks:=k } d es:=⟨h.get,h.lt,h.new⟩
theorem wdY {d:Nat} {es:List DictEntry} {q:Option Value} (h:DAt na S d es):EvT p w na ann (dictEntries d q) S es.toArray S 1:=
 EvT.bind (k:=1) (k':=0) (EvT.loadPart h.lt h.get (wc8 es)) (EvT.pure _)
theorem wl4 {d:Nat} {es:List DictEntry} {q:Option Value} (h:DAt na S d es):EvT p w na ann (dictEpoch d q) S es.length S 1:=
 EvT.bind (k:=1) (k':=0) (EvT.loadPart h.lt h.get (wc8 es)) (EvT.pure _)
theorem wnH {d:Nat} {es:List DictEntry} {k h:Int} {t:Tok} (hd:DAt na S d es) (hn:NoHash h es):EvT p w na ann (dictFind d (.int k t) h) S none S 1:=by
 unfold dictFind
 refine EvT.holding (EvT.bind (k:=1) (k':=0) (wdY hd) ?_)
 dsimp only
 rw [wmo hn]
 show EvT p w na ann (if ([Value.int k t].all carriedByValue)=true then _ else _) S _ S 0
 rw [if_pos (by rfl)]
 unfold dictWalkPlain
 exact EvT.pure _
noncomputable def grown (es:List DictEntry) (e:DictEntry):List DictEntry:=es++[e]
theorem wiV (es:List DictEntry) (e:DictEntry):Obj.mapDictKeys (·.push e) (dObj es)=dObj (es++[e]):=by
 simp [Obj.mapDictKeys,dObj]
theorem wnF {d:Nat} {es:List DictEntry} {e:DictEntry} {q:Option Value} (hd:DAt na S d es) (hz:es.length<=5000) :
  EvT p w na ann (updateDictKeys d (·.push e) q) S () { S with tree:=put S.tree d (dObj (es++[e])) } 3:=by
 unfold updateDictKeys
 refine EvT.bind (k:=1) (k':=2) (EvT.loadPart hd.lt hd.get (wc8 es)) ?_
 show EvT p w na ann (do updatePart d q (Obj.mapDictKeys (·.push e));lookBehind d q) S _ _ 2
 have e1:S.tree.set d (Obj.mapDictKeys (·.push e))=put S.tree d (dObj (es++[e])):=by rw [wjZ _ _ _ _ hd.get,wiV]
 refine EvT.bind (k:=1) (k':=1) (S':={ S with tree:=put S.tree d (dObj (es++[e])) }) (e1 ▸ EvT.updatePart hd.lt hd.get (wc8 es) hd.new) ?_
 unfold lookBehind
 refine EvT.bind (k:=1) (k':=0) (EvT.loadPart (o:=dObj (es++[e])) hd.lt (wj8 hd.get) rfl) ?_
 have:(dObj (es++[e])).data.pastItsLine=none:=by
  show (if (es++[e]).toArray.size > sizeLine+1 then some "dict:memory" else none)=none
  rw [if_neg]
  simp only [List.size_toArray,List.length_append,List.length_singleton,sizeLine]
  omega
 rw [this]
 exact EvT.pure _
theorem wpv {d:Nat} {es:List DictEntry} {k:Int} {t:Tok} {v:Value} (hd:DAt na S d es) (hn:NoHash (hashInt k) es) (hz:es.length<=5000) :
  EvT p w na ann (dictSet d (.int k t) v) S () { S with tree:=put S.tree d (dObj (es++[⟨hashInt k,.int k t,v⟩])),toks:=S.toks+1 } 17:=by
 unfold dictSet
 refine EvT.holding (EvT.bind (k:=12) (k':=5) (wsh k t) ?_)
 unfold dictSetHashed
 refine EvT.holding (EvT.bind (k:=1) (k':=4) (wnH hd.toks hn) ?_)
 exact EvT.bind (k:=1) (k':=3) (EvT.rule _) (wnF hd.toks hz)
theorem wtB {d:Nat} {es:List DictEntry} {k h:Int} {t:Tok} {v:Value} (hd:DAt na S d es) (hn:NoHash h es) (hz:es.length<=5000) :
  EvT p w na ann (dictPut d h (.int k t) v) S () { S with tree:=put S.tree d (dObj (es++[⟨h,.int k t,v⟩])) } 4:=by
 unfold dictPut
 exact EvT.bind (k:=1) (k':=3) (wnH hd hn) (wnF hd hz)
noncomputable def braunB:BT->Nat->Bool
 | .nil,n=>n==0
 | .node _ l r,n=>n != 0&&(braunB l (n / 2)&&braunB r ((n - 1) / 2))
theorem woY {n:Nat} (h:n % 2=1):∃ k,n=2 * k+1/\n / 2=k:=⟨n / 2,(h ▸ Nat.div_add_mod n 2).symm,rfl⟩
theorem wj9 {n:Nat} (h0:¬ n=0) (h:¬ n % 2=1):∃ k,n=2 * k+2/\n / 2=k+1:=by
 have e:=Nat.div_add_mod n 2
 rw [(Nat.mod_two_eq_zero_or_one n).resolve_right h]at e
 cases q:n / 2 with
 | zero=>rw [q]at e;exact absurd e.symm h0
 | succ k=>rw [q]at e;exact ⟨k,e.symm,rfl⟩
theorem wqP {n:Nat} (h:n % 2=1):(n+1) / 2=n / 2+1:=by
 obtain ⟨k,e,q⟩:=woY h
 rw [q,e];exact Nat.mul_div_cancel_left (k+1) Nat.two_pos
theorem wpk {n:Nat} (h:n % 2=1):n / 2=(n - 1) / 2:=by
 obtain ⟨k,e,q⟩:=woY h
 rw [q,e];exact (Nat.mul_div_cancel_left k Nat.two_pos).symm
theorem wpj {n:Nat} (h0:¬ n=0) (h:¬ n % 2=1):(n+1) / 2=n / 2:=by
 obtain ⟨k,e,q⟩:=wj9 h0 h
 rw [q,e];exact Nat.mul_add_div Nat.two_pos (k+1) 1
theorem wqO {n:Nat} (h0:¬ n=0) (h:¬ n % 2=1):n / 2=n / 2 - 1+1:=by
 obtain ⟨k,e,q⟩:=wj9 h0 h
 rw [q];rfl
theorem wpl {n:Nat} (h0:¬ n=0) (h:¬ n % 2=1):(n - 1) / 2=n / 2 - 1:=by
 obtain ⟨k,e,q⟩:=wj9 h0 h
 rw [q,e];exact Nat.mul_add_div Nat.two_pos k 1
theorem wcN (o:Obj):∀ (T:BT) (n:Nat),braunB T n=true->braunB (T.ins n o) (n+1)=true/\((T.ins n o).get n).isSome=true
 | .nil,n,h=>by
  have h0:n=0:=by simpa [braunB] using h
  subst h0
  exact ⟨rfl,rfl⟩
 | .node v l r,n,h=>by
  simp only [braunB,Bool.and_eq_true,bne_iff_ne,ne_eq]at h
  obtain ⟨h0,hl,hr⟩:=h
  rw [BT.ins_node,if_neg h0]
  by_cases h1:n % 2=1
  ·rw [if_pos h1]
   obtain ⟨a,b⟩:=wcN o l (n / 2) hl
   refine ⟨?_,?_⟩
   ·simp only [braunB,Bool.and_eq_true,bne_iff_ne,ne_eq]
    refine ⟨Nat.succ_ne_zero n,?_,?_⟩
    ·rw [wqP h1];exact a
    ·rw [Nat.add_sub_cancel,wpk h1];exact hr
   ·rw [BT.get_node,if_neg h0,if_pos h1];exact b
  ·rw [if_neg h1]
   have e:(n - 1) / 2=n / 2 - 1:=wpl h0 h1
   rw [e]at hr
   obtain ⟨a,b⟩:=wcN o r (n / 2 - 1) hr
   refine ⟨?_,?_⟩
   ·simp only [braunB,Bool.and_eq_true,bne_iff_ne,ne_eq]
    refine ⟨Nat.succ_ne_zero n,?_,?_⟩
    ·rw [wpj h0 h1];exact hl
    ·rw [Nat.add_sub_cancel];exact (wqO h0 h1).symm ▸ a
   ·rw [BT.get_node,if_neg h0,if_neg h1];exact b
theorem whB (o:Obj):∀ (T:BT) (d n:Nat),braunB T n=true->braunB (put T d o) n=true
 | .nil,d,n,h=>h
 | .node v l r,d,n,h=>by
  simp only [braunB,Bool.and_eq_true]at h
  unfold put
  rw [BT.set_node]
  split
  ·simp only [braunB,Bool.and_eq_true];exact h
  ·split
   ·simp only [braunB,Bool.and_eq_true];exact ⟨h.1,whB o l _ _ h.2.1,h.2.2⟩
   ·simp only [braunB,Bool.and_eq_true];exact ⟨h.1,h.2.1,whB o r _ _ h.2.2⟩
theorem put_self {o:Obj}:∀ (T:BT) (d:Nat),T.get d=some o->put T d o=T
 | .nil,d,h=>rfl
 | .node v l r,d,h=>by
  rw [BT.get_node]at h
  unfold put
  rw [BT.set_node]
  by_cases h0:d=0
  ·rw [if_pos h0]at h;cases h;simp [h0]
  ·rw [if_neg h0]at h
   by_cases h1:d % 2=1
   ·rw [if_pos h1]at h;simp only [h0,h1,if_true,if_false];exact congrArg (BT.node v · r) (put_self l _ h)
   ·rw [if_neg h1]at h;simp only [h0,h1,if_false];exact congrArg (BT.node v l ·) (put_self r _ h)
noncomputable abbrev mkPair (q:Pos) (kv:Int×Str):Sem Value×Sem Value:=(mkInt kv.1,do let x <- mkText kv.2;standAt q;pure x)
noncomputable def chunkL:Nat->List (Int×Str)->List DictEntry
 | _,[]=>[]
 | t,(k,v)::r=>⟨hashInt k,.int k t,.str v (t+1)⟩::chunkL (t+3) r
noncomputable def chunkS:Nat->List (Int×Str)->List DictEntry
 | _,[]=>[]
 | t,(k,v)::r=>⟨hashInt k,.int k t,.str v (t+1)⟩::chunkS (t+2) r
noncomputable def rises:Int->List (Int×Str)->Bool
 | _,[]=>true
 | b,(k,_)::r=>decide (b<hashInt k)&&rises (hashInt k) r
noncomputable def lastH:Int->List (Int×Str)->Int
 | b,[]=>b
 | _,(k,_)::r=>lastH (hashInt k) r
noncomputable def UpTo (b:Int) (es:List DictEntry):Prop:=∀ e∈es,e.hash<=b
theorem UpTo.none {b h:Int} {es:List DictEntry} (u:UpTo b es) (hb:b<h):NoHash h es:=fun e he q=>by have:=u e he;omega
theorem UpTo.snoc {b h:Int} {es:List DictEntry} {e:DictEntry} (u:UpTo b es) (hb:b<h) (he:e.hash=h):UpTo h (es++[e]):=fun x hx=>by
 rcases List.mem_append.mp hx with q | q
 ·have:=u x q;omega
 ·rw [List.mem_singleton.mp q,he];exact Int.le_refl _
theorem wgK:∀ {b:Int} {L M:List (Int×Str)},rises b (L++M)=true->rises b L=true/\rises (lastH b L) M=true
 | b,[],M,h=>⟨rfl,h⟩
 | b,(k,v)::L,M,h=>by
  simp only [List.cons_append,rises,Bool.and_eq_true]at h ⊢
  obtain ⟨a,c⟩:=wgK h.2
  exact ⟨⟨h.1,a⟩,c⟩
noncomputable def IntE (c:List DictEntry):Prop:=∀ e∈c,∃ k t,e.key=.int k t
theorem wpi:∀ (t:Nat) (L:List (Int×Str)),IntE (chunkL t L)
 | _,[]=>fun e he=>by cases he
 | t,(k,v)::r=>fun e he=>by
  rcases List.mem_cons.mp he with q | q
  ·exact ⟨k,t,by rw [q]⟩
  ·exact wpi _ r e q
theorem wph:∀ (t:Nat) (L:List (Int×Str)),IntE (chunkS t L)
 | _,[]=>fun e he=>by cases he
 | t,(k,v)::r=>fun e he=>by
  rcases List.mem_cons.mp he with q | q
  ·exact ⟨k,t,by rw [q]⟩
  ·exact wph _ r e q
theorem wrq:∀ (t:Nat) (L:List (Int×Str)),(chunkL t L).length=L.length
 | _,[]=>rfl
 | t,(k,v)::r=>by simp only [chunkL,List.length_cons,wrq _ r]
theorem wrp:∀ (t:Nat) (L:List (Int×Str)),(chunkS t L).length=L.length
 | _,[]=>rfl
 | t,(k,v)::r=>by simp only [chunkS,List.length_cons,wrp _ r]
noncomputable def RisesE:Int->List DictEntry->Int->Prop
 | b,[],b'=>b'=b
 | b,e::r,b'=>b<e.hash/\RisesE e.hash r b'
theorem wk6:∀ {b:Int} {L:List (Int×Str)} (t:Nat),rises b L=true->RisesE b (chunkL t L) (lastH b L)
 | b,[],t,_=>rfl
 | b,(k,v)::r,t,h=>by
  simp only [rises,Bool.and_eq_true,decide_eq_true_eq]at h
  exact ⟨h.1,wk6 _ h.2⟩
theorem wk5:∀ {b:Int} {L:List (Int×Str)} (t:Nat),rises b L=true->RisesE b (chunkS t L) (lastH b L)
 | b,[],t,_=>rfl
 | b,(k,v)::r,t,h=>by
  simp only [rises,Bool.and_eq_true,decide_eq_true_eq]at h
  exact ⟨h.1,wk5 _ h.2⟩
theorem UpTo.app:∀ {b b':Int} {es c:List DictEntry},UpTo b es->RisesE b c b'->UpTo b' (es++c)
 | b,b',es,[],u,h=>by cases h;rw [List.append_nil];exact u
 | b,b',es,e::c,u,h=>by
  have:=UpTo.app (es:=es++[e]) (u.snoc h.1 rfl) h.2
  rwa [List.append_assoc]at this
theorem wpu (v:Str) (q:Pos):EvT p w na ann (do let x <- mkText v;standAt q;pure x:Sem Value) S (.str v S.toks) { S with toks:=S.toks+1 } 2:=
 EvT.bind (k:=1) (k':=1) (EvT.mkText v) (EvT.bind (k:=1) (k':=0) (EvT.standAt q) (EvT.pure _))
theorem DAt.putSelf {d:Nat} {es es':List DictEntry} {k:Nat} (h:DAt na S d es):DAt na { S with tree:=put S.tree d (dObj es'),toks:=k } d es':=⟨wj8 h.get,h.lt,h.new⟩
theorem DAt.putOther {d a:Nat} {es:List DictEntry} {o:Obj} {k:Nat} (h:DAt na S d es) (hne:d≠a):DAt na { S with tree:=put S.tree a o,toks:=k } d es:=⟨(woh hne).trans h.get,h.lt,h.new⟩
theorem wnG {d:Nat} {q:Pos}:∀ (L:List (Int×Str)) {b:Int} {es:List DictEntry} {S:SharedT},DAt na S d es->UpTo b es->rises b L=true->es.length+L.length<=5000 ->
  EvT p w na ann (forIn (L.map (mkPair q)) PUnit.unit fun x _=>match x with
   | (k,v)=>do
    let kv <- k
    let vv <- holding [kv] v
    holding [kv,vv] (dictSet d kv vv)
    pure (ForInStep.yield PUnit.unit)) S PUnit.unit { S with tree:=put S.tree d (dObj (es++chunkL S.toks L)),toks:=S.toks+3 * L.length } (20 * L.length)
 | [],b,es,S,hd,hu,hr,hz=>by
  have e:{ S with tree:=put S.tree d (dObj (es++chunkL S.toks [])),toks:=S.toks+3 * ([]:List (Int×Str)).length }=S:=by
   have:put S.tree d (dObj (es++[]))=S.tree:=by rw [List.append_nil];exact put_self _ _ hd.get
   show { S with tree:=put S.tree d (dObj (es++[])),toks:=S.toks }=S
   rw [this]
  rw [e]
  exact EvT.pure _
 | (k,v)::L,b,es,S,hd,hu,hr,hz=>by
  simp only [rises,Bool.and_eq_true,decide_eq_true_eq]at hr
  simp only [List.length_cons]at hz
  simp only [List.map_cons,List.forIn_cons]
  refine EvT.mono (EvT.bind (k:=20) (k':=20 * L.length) (S':={ S with tree:=put S.tree d (dObj (es++[⟨hashInt k,.int k S.toks,.str v (S.toks+1)⟩])),toks:=S.toks+3 }) (a:=ForInStep.yield PUnit.unit) ?_ ?_) (by rw [List.length_cons];omega)
  ·refine EvT.bind (k:=1) (k':=19) (EvT.mkInt k) ?_
   refine EvT.bind (k:=2) (k':=17) (EvT.holding (wpu v q)) ?_
   refine EvT.bind (k:=17) (k':=0) (EvT.holding (wpv (S:={ S with toks:=S.toks+1+1 }) hd.toks (hu.none hr.1) (by omega))) (EvT.pure _)
  ·have:=wnG (q:=q) L (b:=hashInt k) (es:=es++[⟨hashInt k,.int k S.toks,.str v (S.toks+1)⟩]) (S:={ S with tree:=put S.tree d (dObj (es++[⟨hashInt k,.int k S.toks,.str v (S.toks+1)⟩])),toks:=S.toks+3 })
    hd.putSelf (hu.snoc hr.1 rfl) hr.2 (by rw [List.length_append,List.length_singleton];omega)
   dsimp only at this
   rw [we3,List.append_assoc]at this
   have e:S.toks+3+3 * L.length=S.toks+3 * ((k,v)::L).length:=by rw [List.length_cons];omega
   rw [e]at this
   exact this
noncomputable def valsS:Nat->List (Int×Str)->List (Value×Value)
 | _,[]=>[]
 | t,(k,v)::r=>(.int k t,.str v (t+1))::valsS (t+2) r
theorem wl2 {q:Pos}:∀ (L:List (Int×Str)) {S:SharedT},EvT p w na ann (evalPairs (L.map (mkPair q))) S (valsS S.toks L) { S with toks:=S.toks+2 * L.length } (3 * L.length)
 | [],S=>EvT.pure _
 | (k,v)::L,S=>by
  simp only [List.map_cons,evalPairs]
  refine EvT.mono (EvT.bind (k:=1) (k':=2+3 * L.length) (EvT.mkInt k) ?_) (by rw [List.length_cons];omega)
  refine EvT.bind (k:=2) (k':=3 * L.length) (EvT.holding (wpu v q)) ?_
  refine EvT.bind (k:=3 * L.length) (k':=0) (EvT.holding (wl2 (q:=q) L (S:={ S with toks:=S.toks+1+1 }))) ?_
  have e:S.toks+1+1+2 * L.length=S.toks+2 * ((k,v)::L).length:=by rw [List.length_cons];omega
  dsimp only
  rw [e]
  exact EvT.pure _
theorem wl1 {d:Nat}:∀ (L:List (Int×Str)) {b:Int} {es:List DictEntry} {t:Nat} {S:SharedT},DAt na S d es->UpTo b es->rises b L=true->es.length+L.length<=5000 ->
  EvT p w na ann (forIn (valsS t L) PUnit.unit fun x _=>match x with
   | (k,v)=>do
    dictSet d k v
    pure (ForInStep.yield PUnit.unit)) S PUnit.unit { S with tree:=put S.tree d (dObj (es++chunkS t L)),toks:=S.toks+L.length } (17 * L.length)
 | [],b,es,t,S,hd,hu,hr,hz=>by
  have e:{ S with tree:=put S.tree d (dObj (es++chunkS t [])),toks:=S.toks+([]:List (Int×Str)).length }=S:=by
   have:put S.tree d (dObj (es++[]))=S.tree:=by rw [List.append_nil];exact put_self _ _ hd.get
   show { S with tree:=put S.tree d (dObj (es++[])),toks:=S.toks }=S
   rw [this]
  rw [e]
  exact EvT.pure _
 | (k,v)::L,b,es,t,S,hd,hu,hr,hz=>by
  simp only [rises,Bool.and_eq_true,decide_eq_true_eq]at hr
  simp only [List.length_cons]at hz
  simp only [valsS,List.forIn_cons]
  refine EvT.mono (EvT.bind (k:=17) (k':=17 * L.length) (S':={ S with tree:=put S.tree d (dObj (es++[⟨hashInt k,.int k t,.str v (t+1)⟩])),toks:=S.toks+1 }) (a:=ForInStep.yield PUnit.unit) ?_ ?_) (by rw [List.length_cons];omega)
  ·exact EvT.bind (k:=17) (k':=0) (wpv hd (hu.none hr.1) (by omega)) (EvT.pure _)
  ·have:=wl1 L (b:=hashInt k) (es:=es++[⟨hashInt k,.int k t,.str v (t+1)⟩]) (t:=t+2) (S:={ S with tree:=put S.tree d (dObj (es++[⟨hashInt k,.int k t,.str v (t+1)⟩])),toks:=S.toks+1 })
    hd.putSelf (hu.snoc hr.1 rfl) hr.2 (by rw [List.length_append,List.length_singleton];omega)
   dsimp only at this
   rw [we3,List.append_assoc]at this
   have e:S.toks+1+L.length=S.toks+((k,v)::L).length:=by rw [List.length_cons];omega
   rw [e]at this
   exact this
noncomputable def chunk (t:Nat) (R:List (Int×Str)):List DictEntry:=if R.length<=15 then chunkS t R else chunkL t R
theorem wkt (t:Nat) (R:List (Int×Str)):(chunk t R).length=R.length:=by unfold chunk;split;exact wrp _ _;exact wrq _ _
theorem woe (t:Nat) (R:List (Int×Str)):IntE (chunk t R):=by unfold chunk;split;exact wph _ _;exact wpi _ _
theorem wd8 {b:Int} {R:List (Int×Str)} (t:Nat) (h:rises b R=true):RisesE b (chunk t R) (lastH b R):=by unfold chunk;split;exact wk5 _ h;exact wk6 _ h
noncomputable def subS (R:List (Int×Str)) (S:SharedT):SharedT:={ S with tree:=S.tree.ins S.n (dObj (chunk S.toks R)),n:=S.n+1,toks:=S.toks+3 * R.length }
theorem wtA {q:Pos} {R:List (Int×Str)} {b:Int} (hb:braunB S.tree S.n=true) (hn:na<=S.n) (hr:rises b R=true) (hz:R.length<=5000) :
  EvT p w na ann (subDict (R.map (mkPair q))) S S.n (subS R S) (20 * R.length+2):=by
 have hi:=(wcN (dObj []) S.tree S.n hb).2
 have hd:DAt na { S with tree:=S.tree.ins S.n (dObj []),n:=S.n+1 } S.n []:=
  ⟨get_ins hi,Nat.ble_eq_true_of_le (Nat.le_refl _),Nat.ble_eq_true_of_le hn⟩
 unfold subDict
 refine EvT.mono (EvT.bind (k:=1) (k':=20 * R.length+1) (EvT.alloc (o:=dObj []) hi) ?_) (by omega)
 refine EvT.bind (k:=20 * R.length+1) (k':=0) (a:=()) (EvT.holding ?_) (EvT.pure _)
 rw [List.length_map]
 by_cases hl:R.length<=15
 ·rw [if_pos hl]
  refine EvT.mono (EvT.bind (k:=3 * R.length) (k':=17 * R.length) (wl2 R) (EvT.holding ?_)) (by omega)
  refine EvT.bind (k:=17 * R.length) (k':=0) (a:=PUnit.unit) (S':=subS R S) ?_ (EvT.pure _)
  have:=wl1 (p:=p) (w:=w) (ann:=ann) R (b:=b) (es:=[]) (t:=S.toks) (S:={ S with tree:=S.tree.ins S.n (dObj []),n:=S.n+1,toks:=S.toks+2 * R.length }) hd.toks (fun _ h=>by cases h) hr (by simpa using hz)
  dsimp only at this
  rw [whR _ _ _ _ hi,List.nil_append]at this
  have e:{ S with tree:=S.tree.ins S.n (dObj (chunkS S.toks R)),n:=S.n+1,toks:=S.toks+2 * R.length+R.length }=subS R S:=by
   unfold subS chunk
   rw [if_pos hl]
   have:S.toks+2 * R.length+R.length=S.toks+3 * R.length:=by omega
   rw [this]
  rw [e]at this
  exact this
 ·rw [if_neg hl]
  refine EvT.mono (EvT.bind (k:=1) (k':=20 * R.length) (EvT.rule _) ?_) (by omega)
  refine EvT.bind (k:=20 * R.length) (k':=0) (a:=PUnit.unit) (S':=subS R S) ?_ (EvT.pure _)
  have:=wnG (p:=p) (w:=w) (ann:=ann) (q:=q) R (b:=b) (es:=[]) (S:={ S with tree:=S.tree.ins S.n (dObj []),n:=S.n+1 }) hd (fun _ h=>by cases h) hr (by simpa using hz)
  dsimp only at this
  rw [whR _ _ _ _ hi,List.nil_append]at this
  have e:{ S with tree:=S.tree.ins S.n (dObj (chunkL S.toks R)),n:=S.n+1,toks:=S.toks+3 * R.length }=subS R S:=by
   unfold subS chunk
   rw [if_neg hl]
  rw [e]at this
  exact this
theorem whp {d a:Nat} {c:List DictEntry} {ep:Nat} (hne:a≠d) (hep:ep=c.length):∀ (m i:Nat) {b b':Int} {es:List DictEntry} {S:SharedT},i+m=c.length->DAt na S d es->DAt na S a c->IntE c->UpTo b es ->
  RisesE b (c.drop i) b'->es.length+m<=5000 ->
  EvT p w na ann (forIn (List.range' i m) PUnit.unit fun i _=>do
    let es <- dictEntries a
    match es[i]? with
    | some e=>do
     holding [e.key,e.val] (if false=true then (do
       let f <- dictFind d e.key e.hash
       if f.isSome=true then do
        rule "dict.merge.duplicate-key"
        let x <- newExc (Value.type "KeyError") [e.key]
        let _ <- (raiseNew x:Sem PUnit)
        dictPut d e.hash e.key e.val
       else dictPut d e.hash e.key e.val) else dictPut d e.hash e.key e.val)
     let n <- dictEpoch a
     if (n != ep)=true then do
      unsupported "dict.changed-during-merge"
      pure (ForInStep.yield PUnit.unit)
     else pure (ForInStep.yield PUnit.unit)
    | _=>do
     unsupported "dict.changed-during-merge"
     pure (ForInStep.yield PUnit.unit)) S PUnit.unit { S with tree:=put S.tree d (dObj (es++c.drop i)) } (6 * m)
 | 0,i,b,b',es,S,him,hd,ha,hi,hu,hr,hz=>by
  have e:c.drop i=[]:=List.drop_eq_nil_of_le (by omega)
  have:put S.tree d (dObj (es++c.drop i))=S.tree:=by rw [e,List.append_nil];exact put_self _ _ hd.get
  rw [this]
  exact EvT.pure _
 | m+1,i,b,b',es,S,him,hd,ha,hi,hu,hr,hz=>by
  have hlt:i<c.length:=by omega
  rw [List.drop_eq_getElem_cons hlt]at hr ⊢
  obtain ⟨k,t,hk⟩:=hi c[i] (List.getElem_mem hlt)
  rw [List.range'_succ,List.forIn_cons]
  refine EvT.mono (EvT.bind (k:=6) (k':=6 * m) (S':={ S with tree:=put S.tree d (dObj (es++[c[i]])) }) (a:=ForInStep.yield PUnit.unit) ?_ ?_) (by omega)
  ·refine EvT.bind (k:=1) (k':=5) (wdY ha) ?_
   rw [List.getElem?_toArray,List.getElem?_eq_getElem hlt]
   dsimp only
   refine EvT.bind (k:=4) (k':=1) (S':={ S with tree:=put S.tree d (dObj (es++[c[i]])) }) (a:=()) (EvT.holding ?_) ?_
   ·rw [if_neg Bool.false_ne_true,hk]
    have:=wtB (p:=p) (w:=w) (ann:=ann) (k:=k) (h:=c[i].hash) (t:=t) (v:=c[i].val) hd (hu.none hr.1) (by omega)
    have e:(⟨c[i].hash,.int k t,c[i].val⟩:DictEntry)=c[i]:=by rw [<- hk]
    rw [e]at this
    exact this
   ·refine EvT.bind (k:=1) (k':=0) (wl4 (S:={ S with tree:=put S.tree d (dObj (es++[c[i]])) }) (ha.putOther hne)) ?_
    rw [if_neg (by rw [hep];simp)]
    exact EvT.pure _
  ·have:=whp hne hep m (i+1) (b:=c[i].hash) (b':=b') (es:=es++[c[i]]) (S:={ S with tree:=put S.tree d (dObj (es++[c[i]])) }) (by omega)
    hd.putSelf (ha.putOther hne) hi (hu.snoc hr.1 rfl) hr.2 (by rw [List.length_append,List.length_singleton];omega)
   dsimp only at this
   rw [we3,List.append_assoc]at this
   exact this
theorem wqZ {d a:Nat} {c es:List DictEntry} {b b':Int} (hne:a≠d) (hs:(a==sysModules)=false) (hd:DAt na S d es) (ha:DAt na S a c) (hi:IntE c) (hu:UpTo b es) (hr:RisesE b c b') (hes:es≠[])
  (hz:es.length+c.length<=5000):EvT p w na ann (mergeMapping d (.ref a) false) S () { S with tree:=put S.tree d (dObj (es++c)) } (6 * c.length+5):=by
 have h1:EvT p w na ann (typeOf (.ref a)) S (.type "dict") S 1:=EvT.bind (k:=1) (k':=0) (EvT.loadPart ha.lt ha.get (wc8 c)) (EvT.pure _)
 have h2:EvT p w na ann (isInstance (.ref a) (.type "dict")) S true S 1:=by
  unfold isInstance
  exact EvT.bind (k:=1) (k':=0) h1 (by rw [PySem.F.sub_dict_dict];exact EvT.pure _)
 have h3:EvT p w na ann (specialOf (.ref a) "__iter__") S (some (.builtin "dict.__iter__")) S 1:=by
  unfold specialOf
  exact EvT.bind (k:=1) (k':=0) h1 (by rw [PySem.F.slot_dict_iter.lookup];exact EvT.pure _)
 unfold mergeMapping
 refine EvT.mono (EvT.bind (k:=1) (k':=1+(1+(1+(1+6 * c.length)))) h2 ?_) (by omega)
 rw [if_pos rfl]
 refine EvT.bind (k:=1) (k':=1+(1+(1+6 * c.length))) h3 ?_
 refine EvT.bind (k:=0) (k':=1+(1+(1+6 * c.length))) (EvT.pure _) ?_ |> fun h=>EvT.mono h (by omega)
 rw [show (some (Value.builtin "dict.__iter__")==some (Value.builtin "dict.__iter__"))=true from by decide +kernel]
 dsimp only
 rw [if_neg (by rw [hs];exact Bool.false_ne_true)]
 refine EvT.bind (k:=1) (k':=1+(1+6 * c.length)) (wdY hd) ?_
 rw [if_neg (by
  intro e
  have:es.toArray=#[]:=by simpa using e
  exact hes (by simpa using this))]
 refine EvT.bind (k:=1) (k':=1+6 * c.length) (wdY ha) ?_
 refine EvT.bind (k:=1) (k':=6 * c.length) (wl4 ha) ?_
 refine EvT.bind (k:=6 * c.length) (k':=0) (a:=PUnit.unit) (S':={ S with tree:=put S.tree d (dObj (es++c)) }) ?_ (EvT.pure _)
 rw [List.range_eq_range',List.size_toArray]
 have:=whp (p:=p) (w:=w) (ann:=ann) hne (ep:=c.length) rfl c.length 0 (b:=b) (b':=b') (es:=es) (by omega) hd ha hi hu (by simpa using hr) hz
 rw [List.drop_zero]at this
 exact this
noncomputable abbrev Main:=Option (Nat×List DictEntry)
noncomputable def flushS (R:List (Int×Str)) (m:Main) (S:SharedT):Main×SharedT:=match R,m with
 | [],m=>(m,S)
 | kv::R,none=>(some (S.n,chunk S.toks (kv::R)),subS (kv::R) S)
 | kv::R,some (d,es)=>(some (d,es++chunk S.toks (kv::R)),{ subS (kv::R) S with tree:=put (subS (kv::R) S).tree d (dObj (es++chunk S.toks (kv::R))) })
noncomputable def loopS:List (Int×Str)->List (Int×Str)->Main->SharedT->Main×SharedT
 | [],R,m,S=>flushS R m S
 | kv::L,R,m,S=>match (R++[kv]).length==17 with
  | true=>loopS L [] (flushS (R++[kv]) m S).1 (flushS (R++[kv]) m S).2
  | false=>loopS L (R++[kv]) m S
structure MainOk (na:Nat) (S:SharedT) (b:Int) (m:Main) (z:Nat):Prop where
 braun:braunB S.tree S.n=true
 ge:na<=S.n
 small:sysModules<S.n
 at_:∀ d es,m=some (d,es)->DAt na S d es/\UpTo b es/\es≠[]/\es.length<=z
theorem sub_ok {d:Nat} {es:List DictEntry} {R:List (Int×Str)} (hb:braunB S.tree S.n=true) (h:DAt na S d es):DAt na (subS R S) d es/\d≠S.n:=by
 have hlt:d<S.n:=Nat.le_of_ble_eq_true h.lt
 have hi:=(wcN (dObj (chunk S.toks R)) S.tree S.n hb).2
 refine ⟨⟨?_,?_,h.new⟩,Nat.ne_of_lt hlt⟩
 ·show (S.tree.ins S.n _).get d=_
  rw [woi hi (Nat.ne_of_lt hlt)];exact h.get
 ·exact Nat.ble_eq_true_of_le (Nat.le_succ_of_le hlt)
theorem wmD {R:List (Int×Str)} (hb:braunB S.tree S.n=true) (hn:na<=S.n):DAt na (subS R S) S.n (chunk S.toks R):=
 ⟨get_ins (wcN (dObj (chunk S.toks R)) S.tree S.n hb).2,Nat.ble_eq_true_of_le (Nat.le_refl _),Nat.ble_eq_true_of_le hn⟩
noncomputable abbrev flushM (run:List (Sem Value×Sem Value)) (main:Option Addr):Sem (Option Addr):=
 if run.isEmpty=true then pure main
 else match main with
  | none=>do
   let x <- subDict run
   pure (some x)
  | some d=>do
   let sub <- holding [Value.ref d] (subDict run)
   (holding [Value.ref d,Value.ref sub] (mergeMapping d (Value.ref sub) false)).onRaise fun (x:Value)=>do
     let _ <- holding [Value.ref d,x] (runValue (Code.builtin "proto.let_go" { }))
     pure ()
   pure (some d)
theorem wl3 {q:Pos} {R:List (Int×Str)} {m:Main} {b:Int} {z:Nat} (h:MainOk na S b m z) (hr:rises b R=true) (hz:z+R.length<=5000) :
  EvT p w na ann (flushM (R.map (mkPair q)) (m.map (·.1))) S ((flushS R m S).1.map (·.1)) (flushS R m S).2 (40 * R.length)/\MainOk na (flushS R m S).2 (lastH b R) (flushS R m S).1 (z+R.length):=by
 cases R with
 | nil=>exact ⟨EvT.pure _,h⟩
 | cons kv R=>
  have hsub:=wtA (p:=p) (w:=w) (ann:=ann) (q:=q) h.braun h.ge hr (by omega)
  have hbr:braunB (subS (kv::R) S).tree (subS (kv::R) S).n=true:=(wcN (dObj (chunk S.toks (kv::R))) S.tree S.n h.braun).1
  have hne:(chunk S.toks (kv::R))≠[]:=fun e=>by have:=congrArg List.length e;rw [wkt]at this;simp at this
  have hl:(chunk S.toks (kv::R)).length=R.length+1:=by rw [wkt];rfl
  cases m with
  | none=>
   refine ⟨?_,⟨hbr,Nat.le_succ_of_le h.ge,Nat.lt_succ_of_lt h.small,fun d es e=>?_⟩⟩
   ·exact EvT.mono (EvT.bind (k':=0) hsub (EvT.pure _)) (by simp only [List.length_cons];omega)
   ·simp only [flushS,Option.some.injEq,Prod.mk.injEq]at e
    obtain ⟨rfl,rfl⟩:=e
    refine ⟨wmD h.braun h.ge,?_,hne,by rw [hl,List.length_cons];omega⟩
    have:=UpTo.app (es:=[]) (fun _ x=>by cases x) (wd8 S.toks hr)
    rwa [List.nil_append]at this
  | some x=>
   obtain ⟨d,es⟩:=x
   obtain ⟨hd,hu,hes,hez⟩:=h.at_ d es rfl
   obtain ⟨hd',hne'⟩:=sub_ok (R:=kv::R) h.braun hd
   have hmerge:=wqZ (p:=p) (w:=w) (ann:=ann) (S:=subS (kv::R) S) (Ne.symm hne') (beq_eq_false_iff_ne.mpr (Nat.ne_of_gt h.small)) hd' (wmD h.braun h.ge) (woe _ _) hu (wd8 S.toks hr) hes
    (by rw [hl];simp only [List.length_cons]at hz;omega)
   refine ⟨?_,⟨whB _ _ _ _ hbr,Nat.le_succ_of_le h.ge,Nat.lt_succ_of_lt h.small,fun d' es' e=>?_⟩⟩
   ·refine EvT.mono (EvT.bind (k:=20 * (kv::R).length+2) (k':=6 * (R.length+1)+5) (EvT.holding hsub) ?_) (by simp only [List.length_cons];omega)
    refine EvT.bind (k:=6 * (R.length+1)+5) (k':=0) (a:=()) (EvT.onRaise (EvT.holding ?_)) (EvT.pure _)
    rw [<- hl]
    exact hmerge
   ·simp only [flushS,Option.some.injEq,Prod.mk.injEq]at e
    obtain ⟨rfl,rfl⟩:=e
    refine ⟨⟨wj8 hd'.get,hd'.lt,hd'.new⟩,UpTo.app hu (wd8 S.toks hr),fun e=>hes (List.append_eq_nil_iff.mp e).1,?_⟩
    rw [List.length_append,hl,List.length_cons];omega
noncomputable abbrev mkItem (q:Pos) (kv:Int×Str):Option (Sem Value)×Sem Value:=(some (mkPair q kv).1,(mkPair q kv).2)
noncomputable abbrev bodyM (x:Option (Sem Value)×Sem Value) (s:Option Addr×List (Sem Value×Sem Value)):Sem (ForInStep (Option Addr×List (Sem Value×Sem Value))):=
 match x with
 | (some k,v)=>
  if ((s.2++[(k,v)]).length==17)=true then do
   let main <- flushM (s.2++[(k,v)]) s.1
   pure (ForInStep.yield (main,[]))
  else pure (ForInStep.yield (s.1,s.2++[(k,v)]))
 | (none,_)=>unsupported ""
theorem wka {q:Pos} {body:Option (Sem Value)×Sem Value->Option Addr×List (Sem Value×Sem Value)->Sem (ForInStep (Option Addr×List (Sem Value×Sem Value)))} (hb:∀ kv s,body (mkItem q kv) s=bodyM (mkItem q kv) s) :
  ∀ (L R:List (Int×Str)) {m:Main} {b:Int} {z:Nat} {S:SharedT},MainOk na S b m z->rises b (R++L)=true->z+R.length+L.length<=5000 ->
  EvT p w na ann (do
   let s <- forIn (L.map (mkItem q)) (m.map (·.1),R.map (mkPair q)) body
   flushM s.2 s.1) S ((loopS L R m S).1.map (·.1)) (loopS L R m S).2 (40 * (L.length+R.length))
 | [],R,m,b,z,S,h,hr,hz=>by
  rw [List.append_nil]at hr
  refine EvT.mono (EvT.bind (k:=0) (k':=40 * R.length) (EvT.pure _) (wl3 h hr (by simpa using hz)).1) (by simp)
 | kv::L,R,m,b,z,S,h,hr,hz=>by
  simp only [List.length_cons]at hz
  have hmap:R.map (mkPair q)++[((mkPair q kv).1,(mkPair q kv).2)]=(R++[kv]).map (mkPair q):=by rw [List.map_append];rfl
  have hr':rises b ((R++[kv])++L)=true:=by rw [List.append_assoc];exact hr
  rw [List.map_cons,List.forIn_cons]
  show EvT p w na ann ((body (mkItem q kv) (m.map (·.1),R.map (mkPair q)) >>= _) >>= _) S _ _ _
  rw [hb]
  show EvT p w na ann (((if ((R.map (mkPair q)++[((mkPair q kv).1,(mkPair q kv).2)]).length==17)=true then _ else _) >>= _) >>= _) S _ _ _
  rw [hmap,List.length_map]
  unfold loopS
  cases h17:((R++[kv]).length==17) with
  | true=>
   rw [if_pos rfl]
   obtain ⟨r1,r2⟩:=wgK hr'
   obtain ⟨f1,f2⟩:=wl3 (p:=p) (w:=w) (ann:=ann) (q:=q) h r1 (by rw [List.length_append,List.length_singleton];omega)
   have ih:=wka hb L [] f2 r2 (by rw [List.length_append,List.length_singleton];simp only [List.length_nil];omega)
   dsimp only
   have e:∀ {α β γ δ:Type} (x:Sem α) (f:α->Sem β) (g:β->Sem γ) (k:γ->Sem δ),(((x >>= f) >>= g) >>= k)=x >>= fun a=>((f a >>= g) >>= k):=by
    intro α β γ δ x f g k
    simp only [Sem.bind_eq_wrap',Sem.wrap_wrap]
    rfl
   rw [e]
   refine EvT.mono (EvT.bind (k:=40 * (R++[kv]).length) (k':=40 * (L.length+0)) f1 ?_) (by rw [List.length_append,List.length_singleton];simp only [List.length_cons];omega)
   exact ih
  | false=>
   rw [if_neg Bool.false_ne_true]
   have ih:=wka hb L (R++[kv]) h hr' (by rw [List.length_append,List.length_singleton];omega)
   refine EvT.mono ?_ (k:=40 * (L.length+(R++[kv]).length)) (by rw [List.length_append,List.length_singleton];simp only [List.length_cons];omega)
   exact ih
theorem won {q:Pos} {L:List (Int×Str)} {b:Int} {d:Nat} {es:List DictEntry} {S':SharedT} (hb:braunB S.tree S.n=true) (hn:na<=S.n) (hs:sysModules<S.n) (hr:rises b L=true) (hz:L.length<=5000)
  (e:loopS L [] none S=(some (d,es),S')):EvT p w na ann (dictDisplay (L.map (mkItem q))) S (.ref d) S' (40 * L.length):=by
 have h:MainOk na S b none 0:=⟨hb,hn,hs,fun _ _ x=>by cases x⟩
 have assoc:∀ {α β γ:Type} (x:Sem α) (f:α->Sem β) (g:β->Sem γ),(x >>= fun a=>f a >>= g)=((x >>= f) >>= g):=by
  intro α β γ x f g
  simp only [Sem.bind_eq_wrap',Sem.wrap_wrap]
  rfl
 unfold dictDisplay
 show EvT p w na ann (forIn (L.map (mkItem q)) ((none:Option Addr),([]:List (Sem Value×Sem Value))) _ >>= fun s=>flushM s.2 s.1 >>= fun r=>match r with
  | some d=>(pure (Value.ref d):Sem Value)
  | none=>newDict) S _ _ _
 rw [assoc]
 refine EvT.mono (EvT.bind (k:=40 * (L.length+0)) (k':=0) (a:=some d) (S':=S') ?_ (EvT.pure _)) (by simp)
 have:=wka (p:=p) (w:=w) (ann:=ann) (q:=q) (body:=?_) ?_ L [] h hr (by simpa using hz)
 rw [e]at this
 exact this
 exact fun _ _=>rfl
end
set_option genInjectivity false
set_option genSizeOf false
noncomputable def stF (s:Stmt):Arguments×List Stmt×Scope:=@PySem.Stmt.casesOn (fun _=>_) s (fun _ a b _ _ _ sc _ _ _=>(a,b,sc)) (fun _ _ _ _ _ _ _ _ _ _=>(default,[],default)) (fun _ _ _ _ _ _ _ _ _ _ _=>(default,[],default)) (fun _ _=>(default,[],default)) (fun _ _=>(default,[],default)) (fun _ _ _=>(default,[],default)) (fun _ _ _ _ _ _ _=>(default,[],default)) (fun _ _ _ _=>(default,[],default)) (fun _ _ _ _ _=>(default,[],default)) (fun _ _ _ _ _=>(default,[],default)) (fun _ _ _ _ _=>(default,[],default)) (fun _ _ _ _=>(default,[],default)) (fun _ _ _ _=>(default,[],default)) (fun _ _ _=>(default,[],default)) (fun _ _ _=>(default,[],default)) (fun _ _ _=>(default,[],default)) (fun _ _ _=>(default,[],default)) (fun _ _ _ _ _=>(default,[],default)) (fun _ _ _ _ _=>(default,[],default)) (fun _ _ _=>(default,[],default)) (fun _ _=>(default,[],default)) (fun _ _ _ _=>(default,[],default)) (fun _ _=>(default,[],default)) (fun _ _=>(default,[],default)) (fun _ _=>(default,[],default)) (fun _=>(default,[],default)) (fun _=>(default,[],default)) (fun _=>(default,[],default))
noncomputable def fnPar (s:Stmt):Arguments:=(stF s).1
noncomputable def fnBody (s:Stmt):List Stmt:=(stF s).2.1
noncomputable def fnScope (s:Stmt):Scope:=(stF s).2.2
noncomputable def clBody (s:Stmt):List Stmt:=@PySem.Stmt.casesOn (fun _=>_) s (fun _ _ _ _ _ _ _ _ _ _=>[]) (fun _ _ _ _ _ _ _ _ _ _=>[]) (fun _ _ _ b _ _ _ _ _ _ _=>b) (fun _ _=>[]) (fun _ _=>[]) (fun _ _ _=>[]) (fun _ _ _ _ _ _ _=>[]) (fun _ _ _ _=>[]) (fun _ _ _ _ _=>[]) (fun _ _ _ _ _=>[]) (fun _ _ _ _ _=>[]) (fun _ _ _ _=>[]) (fun _ _ _ _=>[]) (fun _ _ _=>[]) (fun _ _ _=>[]) (fun _ _ _=>[]) (fun _ _ _=>[]) (fun _ _ _ _ _=>[]) (fun _ _ _ _ _=>[]) (fun _ _ _=>[]) (fun _ _=>[]) (fun _ _ _ _=>[]) (fun _ _=>[]) (fun _ _=>[]) (fun _ _=>[]) (fun _=>[]) (fun _=>[]) (fun _=>[])
noncomputable def stA (s:Stmt):List Expr×Expr×Pos:=@PySem.Stmt.casesOn (fun _=>_) s (fun _ _ _ _ _ _ _ _ _ _=>([],.Constant .none 0 default,default)) (fun _ _ _ _ _ _ _ _ _ _=>([],.Constant .none 0 default,default)) (fun _ _ _ _ _ _ _ _ _ _ _=>([],.Constant .none 0 default,default)) (fun _ _=>([],.Constant .none 0 default,default)) (fun _ _=>([],.Constant .none 0 default,default)) (fun ts e q=>(ts,e,q)) (fun _ _ _ _ _ _ _=>([],.Constant .none 0 default,default)) (fun _ _ _ _=>([],.Constant .none 0 default,default)) (fun _ _ _ _ _=>([],.Constant .none 0 default,default)) (fun _ _ _ _ _=>([],.Constant .none 0 default,default)) (fun _ _ _ _ _=>([],.Constant .none 0 default,default)) (fun _ _ _ _=>([],.Constant .none 0 default,default)) (fun _ _ _ _=>([],.Constant .none 0 default,default)) (fun _ _ _=>([],.Constant .none 0 default,default)) (fun _ _ _=>([],.Constant .none 0 default,default)) (fun _ _ _=>([],.Constant .none 0 default,default)) (fun _ _ _=>([],.Constant .none 0 default,default)) (fun _ _ _ _ _=>([],.Constant .none 0 default,default)) (fun _ _ _ _ _=>([],.Constant .none 0 default,default)) (fun _ _ _=>([],.Constant .none 0 default,default)) (fun _ _=>([],.Constant .none 0 default,default)) (fun _ _ _ _=>([],.Constant .none 0 default,default)) (fun _ _=>([],.Constant .none 0 default,default)) (fun _ _=>([],.Constant .none 0 default,default)) (fun _ _=>([],.Constant .none 0 default,default)) (fun _=>([],.Constant .none 0 default,default)) (fun _=>([],.Constant .none 0 default,default)) (fun _=>([],.Constant .none 0 default,default))
noncomputable def exD (e:Expr):List (Option Expr)×List Expr×Pos:=@PySem.Expr.casesOn (fun _=>_) e (fun _ _ _=>([],[],default)) (fun _ _ _=>([],[],default)) (fun _ _ _ _=>([],[],default)) (fun _ _ _=>([],[],default)) (fun _ _ _ _=>([],[],default)) (fun _ _ _ _=>([],[],default)) (fun ks vs q=>(ks,vs,q)) (fun _ _ _=>([],[],default)) (fun _ _ _ _=>([],[],default)) (fun _ _ _ _=>([],[],default)) (fun _ _ _ _ _=>([],[],default)) (fun _ _ _ _=>([],[],default)) (fun _ _=>([],[],default)) (fun _ _=>([],[],default)) (fun _ _=>([],[],default)) (fun _ _ _ _=>([],[],default)) (fun _ _ _ _=>([],[],default)) (fun _ _ _ _=>([],[],default)) (fun _ _=>([],[],default)) (fun _ _ _=>([],[],default)) (fun _ _ _=>([],[],default)) (fun _ _ _=>([],[],default)) (fun _ _=>([],[],default)) (fun _ _=>([],[],default)) (fun _ _=>([],[],default)) (fun _ _ _=>([],[],default)) (fun _ _ _ _=>([],[],default))
noncomputable def exN (e:Expr):Pos:=@PySem.Expr.casesOn (fun _=>_) e (fun _ _ _=>default) (fun _ _ _=>default) (fun _ _ _ _=>default) (fun _ _ _=>default) (fun _ _ _ _=>default) (fun _ _ _ _=>default) (fun _ _ _=>default) (fun _ _ _=>default) (fun _ _ _ _=>default) (fun _ _ _ _=>default) (fun _ _ _ _ _=>default) (fun _ _ _ _=>default) (fun _ _=>default) (fun _ _=>default) (fun _ _=>default) (fun _ _ _ _=>default) (fun _ _ _ _=>default) (fun _ _ _ _=>default) (fun _ _=>default) (fun _ _ _=>default) (fun _ _ _=>default) (fun _ _ _=>default) (fun _ _=>default) (fun _ p=>p) (fun _ _=>default) (fun _ _ _=>default) (fun _ _ _ _=>default)
noncomputable def conE (e:Expr):Option Const:=@PySem.Expr.casesOn (fun _=>_) e (fun _ _ _=>none) (fun _ _ _=>none) (fun _ _ _ _=>none) (fun _ _ _=>none) (fun _ _ _ _=>none) (fun _ _ _ _=>none) (fun _ _ _=>none) (fun _ _ _=>none) (fun _ _ _ _=>none) (fun _ _ _ _=>none) (fun _ _ _ _ _=>none) (fun _ _ _ _=>none) (fun _ _=>none) (fun _ _=>none) (fun _ _=>none) (fun _ _ _ _=>none) (fun _ _ _ _=>none) (fun _ _ _ _=>none) (fun _ _=>none) (fun c _ _=>some c) (fun _ _ _=>none) (fun _ _ _=>none) (fun _ _=>none) (fun _ _=>none) (fun _ _=>none) (fun _ _ _=>none) (fun _ _ _ _=>none)
noncomputable def dictKeys (s:Stmt):List (Option Expr):=(exD (stA s).2.1).1
noncomputable def dictVals (s:Stmt):List Expr:=(exD (stA s).2.1).2.1
noncomputable def dPos (s:Stmt):Pos:=(exD (stA s).2.1).2.2
noncomputable def dTgts (s:Stmt):List Expr:=(stA s).1
noncomputable def sPos (s:Stmt):Pos:=(stA s).2.2
noncomputable def nPos (l:List Expr):Pos:=exN (l.headD (.Constant .none 0 default))
noncomputable def coI (c:Const):Option Int:=match c with
 | .int i=>some i
 | _=>none
noncomputable def coS (c:Const):Option Str:=match c with
 | .str s=>some s
 | _=>none
noncomputable def pairOf (o:Option Expr) (v:Expr):Option (Int×Str):=o.bind fun k=>(conE k).bind fun a=>(conE v).bind fun b=>(coI a).bind fun i=>(coS b).map fun s=>(i,s)
theorem wnL {e:Expr} {c:Const} (h:conE e=some c):∃ k p,e=.Constant c k p:=by
 cases e<;>first | exact ⟨_,_,congrArg (fun c=>Expr.Constant c _ _) (Option.some.inj h)⟩ | exact nomatch (show (none:Option Const)=some c from h)
theorem woW {o:Option Expr} {v:Expr} {p:Int×Str} (h:pairOf o v=some p):∃ k q k' q',o=some (.Constant (.int p.1) k q)/\v=.Constant (.str p.2) k' q':=by
 unfold pairOf at h
 obtain ⟨e,he,h1⟩:=Option.bind_eq_some_iff.mp h
 obtain ⟨a,ha,h2⟩:=Option.bind_eq_some_iff.mp h1
 obtain ⟨b,hb,h3⟩:=Option.bind_eq_some_iff.mp h2
 obtain ⟨i,hi,h4⟩:=Option.bind_eq_some_iff.mp h3
 obtain ⟨s,hs,h5⟩:=Option.map_eq_some_iff.mp h4
 clear h h1 h2 h3 h4
 subst he h5
 obtain ⟨k,q,rfl⟩:=wnL ha
 obtain ⟨k',q',rfl⟩:=wnL hb
 have e1:a=.int i:=by cases a<;>first | exact congrArg Const.int (Option.some.inj hi) | exact nomatch (show (none:Option Int)=some i from hi)
 have e2:b=.str s:=by cases b<;>first | exact congrArg Const.str (Option.some.inj hs) | exact nomatch (show (none:Option Str)=some s from hs)
 subst e1 e2
 exact ⟨k,q,k',q',rfl,rfl⟩
noncomputable def dictPairs:List (Option Expr)->List Expr->List (Int×Str)
 | [],_=>[]
 | _::_,[]=>[]
 | k::ks,v::vs=>(pairOf k v).elim [] fun p=>p::dictPairs ks vs
noncomputable def okPairs:List (Option Expr)->List Expr->Bool
 | [],vs=>vs.isEmpty
 | _::_,[]=>false
 | k::ks,v::vs=>(pairOf k v).isSome&&okPairs ks vs
theorem wqL {env:Env} {q:Pos} (ks:List (Option Expr)):∀ (vs:List Expr),okPairs ks vs=true ->
  (evalEachOpt ks env).zip ((evalEach vs env).map fun v=>do let x <- v;standAt q;pure x)=(dictPairs ks vs).map (mkItem q):=by
 induction ks with
 | nil=>intro vs h;rfl
 | cons k ks ih=>
  intro vs h
  cases vs with
  | nil=>exact absurd h Bool.false_ne_true
  | cons v vs=>
   obtain ⟨h1,h2⟩:=Bool.and_eq_true_iff.mp (show ((pairOf k v).isSome&&okPairs ks vs)=true from h)
   obtain ⟨p,hp⟩:=Option.isSome_iff_exists.mp h1
   obtain ⟨k1,q1,k2,q2,rfl,rfl⟩:=woW hp
   exact congrArg (List.cons (mkItem q p)) (ih vs h2)
theorem wgJ {tb:String->Option Builtin} {p:Program} {w:World} {na:Nat} {ann:Option Value} {b:Nat} (k:Nat):∀ (n:Nat) (s:SharedT) (t:Thread) (r:Flow×SharedT×Code×Pos),segRunT tb p w na ann b n s t=some r->segRunT tb p w na ann b (n+k) s t=some r
 | 0,_,_,_,h=>by cases h
 | n+1,s,t,r,h=>by
  rw [show n+1+k=n+k+1 by omega]
  unfold segRunT at h ⊢
  cases he:endAt b t with
  | some f=>rw [he]at h;exact h
  | none=>
   rw [he]at h
   cases hk:stepOk na ann t with
   | false=>rw [hk]at h;cases h
   | true=>
    rw [hk]at h
    cases hs:stepT (denote tb) p w s t with
    | none=>rw [hs]at h;cases h
    | some x=>obtain ⟨s',t'⟩:=x;rw [hs]at h;exact wgJ k n s' t' r h
theorem wgI {p:Program} {w:World} {na:Nat} {ann:Option Value}:∀ {n m:Nat} {S S':SharedT} {t t':Thread} {r:Flow×SharedT×Code×Pos},seg p w na ann n S t=some (S',t')->segRunT treeTable p w na ann 1 m S' t'=some r ->
  segRunT treeTable p w na ann 1 (n+m) S t=some r
 | 0,m,S,S',t,t',r,h,k=>by
  have:some (S,t)=some (S',t'):=h
  cases this
  rw [Nat.zero_add];exact k
 | n+1,m,S,S',t,t',r,h,k=>by
  rw [show n+1+m=(n+m)+1 by omega]
  unfold seg segGoT at h
  unfold segRunT
  cases he:endAt 1 t with
  | some f=>rw [he]at h;cases h
  | none=>
   rw [he]at h
   cases hk:stepOk na ann t with
   | false=>rw [hk]at h;cases h
   | true=>
    rw [hk]at h
    cases hs:stepT (denote treeTable) p w S t with
    | none=>rw [hs]at h;cases h
    | some rc=>obtain ⟨s₂,ta⟩:=rc;rw [hs]at h;exact wgI (n:=n) h k
theorem woR {α β γ:Type} (x:Sem α) (f:α->Sem β) (g:β->Sem γ):((x >>= f) >>= g)=(x >>= fun a=>f a >>= g):=by
 simp only [Sem.bind_eq_wrap',Sem.wrap_wrap]
 rfl
noncomputable abbrev flowOn (env:Env) (f:Flow):Sem Flow:=match f with
 | Flow.next=>execs [] env
 | f=>pure f
noncomputable abbrev dictTail (x:Str) (pn:Pos) (env:Env) (v:Value):Sem Flow:=(assignAll v [assign (.Name x pn) env] >>= fun _=>(pure Flow.next:Sem Flow)) >>= flowOn env
theorem wpt {x:Str} {pn q p3:Pos} {ks:List (Option Expr)} {vs:List Expr} {env:Env}:execs [.Assign [.Name x pn] (.Dict ks vs q) p3] env =
  (standAt p3 >>= fun _=>standAt q >>= fun _=>dictDisplay ((evalEachOpt ks env).zip ((evalEach vs env).map fun v=>do let x <- v;standAt q;pure x))) >>= fun v=>dictTail x pn env v:=by
 have h:exec (.Assign [.Name x pn] (.Dict ks vs q) p3) env=(standAt p3 >>= fun _=>standAt q >>= fun _=>dictDisplay ((evalEachOpt ks env).zip ((evalEach vs env).map fun v=>do let x <- v;standAt q;pure x))) >>= fun v=>(assignAll v [assign (.Name x pn) env] >>= fun _=>(pure Flow.next:Sem Flow)):=by
  rfl
 have h2:execs [.Assign [.Name x pn] (.Dict ks vs q) p3] env=exec (.Assign [.Name x pn] (.Dict ks vs q) p3) env >>= flowOn env:=rfl
 rw [h2,h,woR]
end Mine
end
section
noncomputable section
namespace Mine
open PySem PySem.W PyProof.Rows PySem.Calls
noncomputable abbrev uL (o:Obj):BT:=.node o .nil .nil
noncomputable abbrev sV (x:String) (n:Nat):Value:=.str (Str.ofString x) n
noncomputable abbrev eV (P:Params) (x:String) (n:Nat) (v:Value):DictEntry:=⟨PyData.keyHash P (Str.ofString x),.str (Str.ofString x) n,v⟩
noncomputable abbrev i0:Value:=.int 0 0
noncomputable abbrev oE:Obj:=⟨(.type "tuple"),none,(.seq #[] 0),#[]⟩
noncomputable abbrev prog:Program:=PySem.Challenge.pw_xb0039_02
noncomputable def st (i:Nat):Stmt:=prog.main.body.getD i (.Pass default)
noncomputable def sub (s:Stmt) (j:Nat):Stmt:=(clBody s).getD j (.Pass default)
noncomputable abbrev ann0:Option Value:=some (.ref 6)
noncomputable def env0:Env:={ scope:=prog.main.scope,locals:=mainNs,globals:=mainNs,cells:=[],code:=.ref 13,frame:=some 14 }
noncomputable def wag:Code:=.body (behindTheImports prog) env0
noncomputable abbrev SAt (T:Params->BT) (n tk:Nat) (w:World) (os:OsState):SharedT:=⟨T w.params,n,{},Array.mk [],boot_drawn,tk,os⟩
noncomputable def wcw (P:Params):Obj:=oE
noncomputable def woZ (P:Params):Obj:=⟨.none,none,(.fields #[]),#[]⟩
noncomputable def wdF (P:Params):Obj:=⟨(.type "code"),none,(.fields #[(sV "<module>" 182),(sV "<module>" 183),(sV "/claim/cut.py" 184),(.int 1 0),i0,i0,i0,i0,(.ref 11),(.bool false),(.int 181 0),(.ref 12),.none,.none,.none,.none,(.int 185 0),(.int 1 0),(sV "/claim/cut.py" 186)]),#[]⟩
noncomputable def wcW (P:Params):Obj:=⟨(.type "frame"),none,.plain,#[(some (.ref 13)),(some (.ref 3)),(some (.ref 3)),none,(some (sV "__main__" 164)),none,(some (.ref 0))]⟩
noncomputable def wnR (P:Params):List Obj:=[boot_o_0 P,boot_o_1 P,boot_o_2 P,boot_o_3 P,boot_o_4 P,boot_o_5 P,boot_o_6 P,boot_o_7 P,boot_o_8 P,boot_o_9 P,boot_o_10 P,wcw P,woZ P,wdF P,wcW P]
noncomputable def tokA:Nat:=187
noncomputable def posA:Pos:=⟨0,0,0,0⟩
noncomputable def posQ:Pos:=⟨0,0,0,0⟩
noncomputable def u0 (P:Params):BT:=(.node (boot_o_5 P) (uL (boot_o_9 P)) (uL (wdF P)))
noncomputable def u1 (P:Params):BT:=(.node (boot_o_2 P) (.node (boot_o_4 P) (uL (boot_o_8 P)) (uL (woZ P))) (.node (boot_o_6 P) (uL (boot_o_10 P)) (uL (wcW P))))
noncomputable def T0 (P:Params):BT:=(.node (boot_o_0 P) (.node (boot_o_1 P) (.node (boot_o_3 P) (uL (boot_o_7 P)) (uL (wcw P))) (u0 P)) (u1 P))
noncomputable def n0:Nat:=15
noncomputable def pos0:Pos:=⟨0,0,0,0⟩
noncomputable def wue (P:Params):Obj:=⟨(.type "dict"),none,(.dict #[eV P "__name__" 165 (sV "cpy313.tabnanny" 187),eV P "__doc__" 166 .none,eV P "__package__" 167 .none,eV P "__loader__" 168 (.builtin "__main__.__loader__#opaque"),eV P "__spec__" 169 .none,eV P "__annotations__" 170 (.ref 6),eV P "__builtins__" 171 (.ref 4),eV P "__file__" 173 (sV "/claim/cut.py" 172),eV P "__cached__" 174 .none] 9),#[]⟩
noncomputable def T1 (P:Params):BT:=(.node (boot_o_0 P) (.node (boot_o_1 P) (.node (wue P) (uL (boot_o_7 P)) (uL (wcw P))) (u0 P)) (u1 P))
noncomputable def n1:Nat:=15
noncomputable def tok1:Nat:=189
noncomputable def pos1:Pos:=⟨1,0,1,8⟩
noncomputable def wud (P:Params):Obj:=⟨(.type "dict"),none,(.dict #[eV P "__name__" 165 (sV "cpy313.tabnanny" 187),eV P "__doc__" 166 .none,eV P "__package__" 167 .none,eV P "__loader__" 168 (.builtin "__main__.__loader__#opaque"),eV P "__spec__" 169 .none,eV P "__annotations__" 170 (.ref 6),eV P "__builtins__" 171 (.ref 4),eV P "__file__" 173 (sV "/claim/cut.py" 172),eV P "__cached__" 174 .none,eV P "Whitespace" 294 (.ref 76)] 10),#[]⟩
noncomputable def wsW (P:Params):Obj:=⟨.none,none,(.fields #[(.int 2 0),i0,(.ref 20)]),#[]⟩
noncomputable def wfY (P:Params):Obj:=oE
noncomputable def wfX (P:Params):Obj:=⟨(.type "builtin_function_or_method"),none,(.fields #[(.builtin "type.__prepare__"),(.type "type")]),#[]⟩
noncomputable def wfW (P:Params):Obj:=⟨(.type "dict"),none,(.dict #[eV P "__module__" 196 (sV "cpy313.tabnanny" 187),eV P "__qualname__" 198 (sV "Whitespace" 197),eV P "__firstlineno__" 200 (.int 2 199),eV P "S" 204 (sV " " 202),eV P "T" 205 (sV "\t" 203),eV P "__init__" 220 (.ref 31),eV P "longest_run_of_spaces" 229 (.ref 38),eV P "indent_level" 241 (.ref 45),eV P "equal" 249 (.ref 52),eV P "not_equal_witness" 260 (.ref 59),eV P "less" 270 (.ref 66),eV P "not_less_witness" 281 (.ref 73),eV P "__static_attributes__" 287 (.ref 74)] 13),#[]⟩
noncomputable def wfV (P:Params):Obj:=oE
noncomputable def wfU (P:Params):Obj:=⟨.none,none,(.fields #[(.int 5 0),(.int 4 0),(.ref 30),(.int 28 0),(.int 4 0),(.ref 37),(.int 32 0),(.int 4 0),(.ref 44),(.int 39 0),(.int 4 0),(.ref 51),(.int 42 0),(.int 4 0),(.ref 58),(.int 50 0),(.int 4 0),(.ref 65),(.int 61 0),(.int 4 0),(.ref 72)]),#[]⟩
noncomputable def wfT (P:Params):Obj:=⟨(.type "code"),none,(.fields #[(sV "Whitespace" 191),(sV "Whitespace" 192),(sV "/claim/cut.py" 193),(.int 2 0),i0,i0,i0,i0,(.ref 18),(.bool false),(.int 181 0),(.ref 19),.none,.none,.none,.none,(.int 194 0),(.int 2 0),(sV "/claim/cut.py" 195)]),#[]⟩
noncomputable def wfS (P:Params):Obj:=⟨(.type "frame"),none,.plain,#[(some (.ref 20)),(some (.ref 3)),(some (.ref 17)),none,(some (sV "cpy313.tabnanny" 187)),none,(some (.ref 0))]⟩
noncomputable def wfR (P:Params):Obj:=⟨(.type "str_ascii_iterator"),none,(.fields #[.none,(.int 2 0)]),#[]⟩
noncomputable def wfQ (P:Params):Obj:=oE
noncomputable def wfP (P:Params):Obj:=⟨(.type "StopIteration"),none,(.fields #[(.ref 23),.none,.none,.none,(.bool false),.none]),#[]⟩
noncomputable def wfO (P:Params):Obj:=oE
noncomputable def wfN (P:Params):Obj:=⟨.none,none,(.fields #[]),#[]⟩
noncomputable def web (P:Params):Obj:=⟨(.type "tuple"),none,(.seq #[(sV "self" 209),(sV "ws" 210),(sV "S" 211),(sV "T" 212),(sV "count" 213),(sV "b" 214),(sV "n" 215),(sV "nt" 216),(sV "ch" 217)] 0),#[]⟩
noncomputable def wea (P:Params):Obj:=oE
noncomputable def wfM (P:Params):Obj:=⟨.none,none,(.func { name:=(Str.ofString "__init__"),qualname:=(Str.ofString "Whitespace.__init__"),params:=fnPar (sub (st 1) 1),body:=.stmts (fnBody (sub (st 1) 1)),scope:=fnScope (sub (st 1) 1),globals:=0,closure:=[],defaults:=.none,kwdefaults:=.none,doc:=.none,pyModule:=.none,annotations:=none,code:=.none,closureTuple:=.none,builtins:=0 }),#[]⟩
noncomputable def wfL (P:Params):Obj:=⟨(.type "code"),none,(.fields #[(sV "__init__" 206),(sV "Whitespace.__init__" 207),(sV "/claim/cut.py" 208),(.int 5 0),(.int 2 0),i0,i0,(.int 3 0),(.ref 25),(.bool true),(.int 181 0),(.ref 26),.none,(.ref 27),(.ref 28),(.ref 29),(.int 218 0),(.int 5 0),(sV "/claim/cut.py" 219)]),#[]⟩
noncomputable def wfK (P:Params):Obj:=⟨(.type "function"),none,(.func { name:=(Str.ofString "__init__"),qualname:=(Str.ofString "Whitespace.__init__"),params:=fnPar (sub (st 1) 1),body:=.stmts (fnBody (sub (st 1) 1)),scope:=fnScope (sub (st 1) 1),globals:=3,closure:=[],defaults:=.none,kwdefaults:=.none,doc:=.none,pyModule:=(sV "cpy313.tabnanny" 187),annotations:=none,code:=(.ref 30),closureTuple:=.none,builtins:=0 }),#[]⟩
noncomputable def wfJ (P:Params):Obj:=oE
noncomputable def wfI (P:Params):Obj:=⟨.none,none,(.fields #[]),#[]⟩
noncomputable def wfH (P:Params):Obj:=⟨(.type "tuple"),none,(.seq #[(sV "self" 224),(sV "count" 225),(sV "trailing" 226)] 0),#[]⟩
noncomputable def wfG (P:Params):Obj:=oE
noncomputable def wfF (P:Params):Obj:=⟨.none,none,(.func { name:=(Str.ofString "longest_run_of_spaces"),qualname:=(Str.ofString "Whitespace.longest_run_of_spaces"),params:=fnPar (sub (st 1) 2),body:=.stmts (fnBody (sub (st 1) 2)),scope:=fnScope (sub (st 1) 2),globals:=0,closure:=[],defaults:=.none,kwdefaults:=.none,doc:=.none,pyModule:=.none,annotations:=none,code:=.none,closureTuple:=.none,builtins:=0 }),#[]⟩
noncomputable def wfE (P:Params):Obj:=⟨(.type "code"),none,(.fields #[(sV "longest_run_of_spaces" 221),(sV "Whitespace.longest_run_of_spaces" 222),(sV "/claim/cut.py" 223),(.int 28 0),(.int 1 0),i0,i0,(.int 3 0),(.ref 32),(.bool true),(.int 181 0),(.ref 33),.none,(.ref 34),(.ref 35),(.ref 36),(.int 227 0),(.int 28 0),(sV "/claim/cut.py" 228)]),#[]⟩
noncomputable def wfD (P:Params):Obj:=⟨(.type "function"),none,(.func { name:=(Str.ofString "longest_run_of_spaces"),qualname:=(Str.ofString "Whitespace.longest_run_of_spaces"),params:=fnPar (sub (st 1) 2),body:=.stmts (fnBody (sub (st 1) 2)),scope:=fnScope (sub (st 1) 2),globals:=3,closure:=[],defaults:=.none,kwdefaults:=.none,doc:=.none,pyModule:=(sV "cpy313.tabnanny" 187),annotations:=none,code:=(.ref 37),closureTuple:=.none,builtins:=0 }),#[]⟩
noncomputable def wfC (P:Params):Obj:=oE
noncomputable def wfB (P:Params):Obj:=⟨.none,none,(.fields #[]),#[]⟩
noncomputable def wfA (P:Params):Obj:=⟨(.type "tuple"),none,(.seq #[(sV "self" 233),(sV "tabsize" 234),(sV "count" 235),(sV "trailing" 236),(sV "il" 237),(sV "i" 238)] 0),#[]⟩
noncomputable def wfz (P:Params):Obj:=oE
noncomputable def wfy (P:Params):Obj:=⟨.none,none,(.func { name:=(Str.ofString "indent_level"),qualname:=(Str.ofString "Whitespace.indent_level"),params:=fnPar (sub (st 1) 3),body:=.stmts (fnBody (sub (st 1) 3)),scope:=fnScope (sub (st 1) 3),globals:=0,closure:=[],defaults:=.none,kwdefaults:=.none,doc:=.none,pyModule:=.none,annotations:=none,code:=.none,closureTuple:=.none,builtins:=0 }),#[]⟩
noncomputable def wfx (P:Params):Obj:=⟨(.type "code"),none,(.fields #[(sV "indent_level" 230),(sV "Whitespace.indent_level" 231),(sV "/claim/cut.py" 232),(.int 32 0),(.int 2 0),i0,i0,(.int 3 0),(.ref 39),(.bool true),(.int 181 0),(.ref 40),.none,(.ref 41),(.ref 42),(.ref 43),(.int 239 0),(.int 32 0),(sV "/claim/cut.py" 240)]),#[]⟩
noncomputable def whf (P:Params):Obj:=⟨(.type "function"),none,(.func { name:=(Str.ofString "indent_level"),qualname:=(Str.ofString "Whitespace.indent_level"),params:=fnPar (sub (st 1) 3),body:=.stmts (fnBody (sub (st 1) 3)),scope:=fnScope (sub (st 1) 3),globals:=3,closure:=[],defaults:=.none,kwdefaults:=.none,doc:=.none,pyModule:=(sV "cpy313.tabnanny" 187),annotations:=none,code:=(.ref 44),closureTuple:=.none,builtins:=0 }),#[]⟩
noncomputable def whe (P:Params):Obj:=oE
noncomputable def whd (P:Params):Obj:=⟨.none,none,(.fields #[]),#[]⟩
noncomputable def whc (P:Params):Obj:=⟨(.type "tuple"),none,(.seq #[(sV "self" 245),(sV "other" 246)] 0),#[]⟩
noncomputable def whb (P:Params):Obj:=oE
noncomputable def wha (P:Params):Obj:=⟨.none,none,(.func { name:=(Str.ofString "equal"),qualname:=(Str.ofString "Whitespace.equal"),params:=fnPar (sub (st 1) 4),body:=.stmts (fnBody (sub (st 1) 4)),scope:=fnScope (sub (st 1) 4),globals:=0,closure:=[],defaults:=.none,kwdefaults:=.none,doc:=.none,pyModule:=.none,annotations:=none,code:=.none,closureTuple:=.none,builtins:=0 }),#[]⟩
noncomputable def wg9 (P:Params):Obj:=⟨(.type "code"),none,(.fields #[(sV "equal" 242),(sV "Whitespace.equal" 243),(sV "/claim/cut.py" 244),(.int 39 0),(.int 2 0),i0,i0,(.int 3 0),(.ref 46),(.bool true),(.int 181 0),(.ref 47),.none,(.ref 48),(.ref 49),(.ref 50),(.int 247 0),(.int 39 0),(sV "/claim/cut.py" 248)]),#[]⟩
noncomputable def wg8 (P:Params):Obj:=⟨(.type "function"),none,(.func { name:=(Str.ofString "equal"),qualname:=(Str.ofString "Whitespace.equal"),params:=fnPar (sub (st 1) 4),body:=.stmts (fnBody (sub (st 1) 4)),scope:=fnScope (sub (st 1) 4),globals:=3,closure:=[],defaults:=.none,kwdefaults:=.none,doc:=.none,pyModule:=(sV "cpy313.tabnanny" 187),annotations:=none,code:=(.ref 51),closureTuple:=.none,builtins:=0 }),#[]⟩
noncomputable def wg7 (P:Params):Obj:=oE
noncomputable def wg6 (P:Params):Obj:=⟨.none,none,(.fields #[]),#[]⟩
noncomputable def wg5 (P:Params):Obj:=⟨(.type "tuple"),none,(.seq #[(sV "self" 253),(sV "other" 254),(sV "n" 255),(sV "a" 256),(sV "ts" 257)] 0),#[]⟩
noncomputable def wg4 (P:Params):Obj:=oE
noncomputable def wg3 (P:Params):Obj:=⟨.none,none,(.func { name:=(Str.ofString "not_equal_witness"),qualname:=(Str.ofString "Whitespace.not_equal_witness"),params:=fnPar (sub (st 1) 5),body:=.stmts (fnBody (sub (st 1) 5)),scope:=fnScope (sub (st 1) 5),globals:=0,closure:=[],defaults:=.none,kwdefaults:=.none,doc:=.none,pyModule:=.none,annotations:=none,code:=.none,closureTuple:=.none,builtins:=0 }),#[]⟩
noncomputable def wg2 (P:Params):Obj:=⟨(.type "code"),none,(.fields #[(sV "not_equal_witness" 250),(sV "Whitespace.not_equal_witness" 251),(sV "/claim/cut.py" 252),(.int 42 0),(.int 2 0),i0,i0,(.int 3 0),(.ref 53),(.bool true),(.int 181 0),(.ref 54),.none,(.ref 55),(.ref 56),(.ref 57),(.int 258 0),(.int 42 0),(sV "/claim/cut.py" 259)]),#[]⟩
noncomputable def wfw (P:Params):Obj:=⟨(.type "function"),none,(.func { name:=(Str.ofString "not_equal_witness"),qualname:=(Str.ofString "Whitespace.not_equal_witness"),params:=fnPar (sub (st 1) 5),body:=.stmts (fnBody (sub (st 1) 5)),scope:=fnScope (sub (st 1) 5),globals:=3,closure:=[],defaults:=.none,kwdefaults:=.none,doc:=.none,pyModule:=(sV "cpy313.tabnanny" 187),annotations:=none,code:=(.ref 58),closureTuple:=.none,builtins:=0 }),#[]⟩
noncomputable def wfv (P:Params):Obj:=oE
noncomputable def wfu (P:Params):Obj:=⟨.none,none,(.fields #[]),#[]⟩
noncomputable def wft (P:Params):Obj:=⟨(.type "tuple"),none,(.seq #[(sV "self" 264),(sV "other" 265),(sV "n" 266),(sV "ts" 267)] 0),#[]⟩
noncomputable def wfs (P:Params):Obj:=oE
noncomputable def wfr (P:Params):Obj:=⟨.none,none,(.func { name:=(Str.ofString "less"),qualname:=(Str.ofString "Whitespace.less"),params:=fnPar (sub (st 1) 6),body:=.stmts (fnBody (sub (st 1) 6)),scope:=fnScope (sub (st 1) 6),globals:=0,closure:=[],defaults:=.none,kwdefaults:=.none,doc:=.none,pyModule:=.none,annotations:=none,code:=.none,closureTuple:=.none,builtins:=0 }),#[]⟩
noncomputable def wfq (P:Params):Obj:=⟨(.type "code"),none,(.fields #[(sV "less" 261),(sV "Whitespace.less" 262),(sV "/claim/cut.py" 263),(.int 50 0),(.int 2 0),i0,i0,(.int 3 0),(.ref 60),(.bool true),(.int 181 0),(.ref 61),.none,(.ref 62),(.ref 63),(.ref 64),(.int 268 0),(.int 50 0),(sV "/claim/cut.py" 269)]),#[]⟩
noncomputable def wfp (P:Params):Obj:=⟨(.type "function"),none,(.func { name:=(Str.ofString "less"),qualname:=(Str.ofString "Whitespace.less"),params:=fnPar (sub (st 1) 6),body:=.stmts (fnBody (sub (st 1) 6)),scope:=fnScope (sub (st 1) 6),globals:=3,closure:=[],defaults:=.none,kwdefaults:=.none,doc:=.none,pyModule:=(sV "cpy313.tabnanny" 187),annotations:=none,code:=(.ref 65),closureTuple:=.none,builtins:=0 }),#[]⟩
noncomputable def wfo (P:Params):Obj:=oE
noncomputable def wfn (P:Params):Obj:=⟨.none,none,(.fields #[]),#[]⟩
noncomputable def wfm (P:Params):Obj:=⟨(.type "tuple"),none,(.seq #[(sV "self" 274),(sV "other" 275),(sV "n" 276),(sV "a" 277),(sV "ts" 278)] 0),#[]⟩
noncomputable def wfl (P:Params):Obj:=oE
noncomputable def wfk (P:Params):Obj:=⟨.none,none,(.func { name:=(Str.ofString "not_less_witness"),qualname:=(Str.ofString "Whitespace.not_less_witness"),params:=fnPar (sub (st 1) 7),body:=.stmts (fnBody (sub (st 1) 7)),scope:=fnScope (sub (st 1) 7),globals:=0,closure:=[],defaults:=.none,kwdefaults:=.none,doc:=.none,pyModule:=.none,annotations:=none,code:=.none,closureTuple:=.none,builtins:=0 }),#[]⟩
noncomputable def wfj (P:Params):Obj:=⟨(.type "code"),none,(.fields #[(sV "not_less_witness" 271),(sV "Whitespace.not_less_witness" 272),(sV "/claim/cut.py" 273),(.int 61 0),(.int 2 0),i0,i0,(.int 3 0),(.ref 67),(.bool true),(.int 181 0),(.ref 68),.none,(.ref 69),(.ref 70),(.ref 71),(.int 279 0),(.int 61 0),(sV "/claim/cut.py" 280)]),#[]⟩
noncomputable def wfi (P:Params):Obj:=⟨(.type "function"),none,(.func { name:=(Str.ofString "not_less_witness"),qualname:=(Str.ofString "Whitespace.not_less_witness"),params:=fnPar (sub (st 1) 7),body:=.stmts (fnBody (sub (st 1) 7)),scope:=fnScope (sub (st 1) 7),globals:=3,closure:=[],defaults:=.none,kwdefaults:=.none,doc:=.none,pyModule:=(sV "cpy313.tabnanny" 187),annotations:=none,code:=(.ref 72),closureTuple:=.none,builtins:=0 }),#[]⟩
noncomputable def wfh (P:Params):Obj:=⟨(.type "tuple"),none,(.seq #[(sV "is_simple" 282),(sV "n" 283),(sV "norm" 284),(sV "nt" 285),(sV "raw" 286)] 0),#[]⟩
noncomputable def wfg (P:Params):Obj:=⟨(.type "dict"),none,(.dict #[eV P "__module__" 196 (sV "cpy313.tabnanny" 187),eV P "__firstlineno__" 200 (.int 2 199),eV P "S" 204 (sV " " 202),eV P "T" 205 (sV "\t" 203),eV P "__init__" 220 (.ref 31),eV P "longest_run_of_spaces" 229 (.ref 38),eV P "indent_level" 241 (.ref 45),eV P "equal" 249 (.ref 52),eV P "not_equal_witness" 260 (.ref 59),eV P "less" 270 (.ref 66),eV P "not_less_witness" 281 (.ref 73),eV P "__static_attributes__" 287 (.ref 74),eV P "__dict__" 289 (.ref 77),eV P "__weakref__" 291 (.ref 78),eV P "__doc__" 292 .none] 4),#[]⟩
noncomputable def wff (P:Params):Obj:=⟨(.type "type"),none,(.cls { name:=(Str.ofString "Whitespace"),bases:=[(.type "object")],mro:=[(.ref 76),(.type "object")],ns:=75,qualname:=(Str.ofString "Whitespace"),hasDict:=true,slotNames:=[],subclasses:=[],abstract:=false,collection:=none,hasDel:=false }),#[none,none,(some (sV "Whitespace" 189)),(some (sV "Whitespace" 197)),(some (.builtin "object.__new__")),(some (.bool true))]⟩
noncomputable def wg1 (P:Params):Obj:=⟨(.type "getset_descriptor"),none,(.fields #[(sV "__dict__" 288),(.ref 76),(.builtin "function.__dict__"),(.builtin "function.__dict__#set")]),#[]⟩
noncomputable def wg0 (P:Params):Obj:=⟨(.type "getset_descriptor"),none,(.fields #[(sV "__weakref__" 290),(.ref 76),(.builtin "ExceptionGroup.__weakref__"),.none]),#[]⟩
noncomputable def wgZ (P:Params):Obj:=⟨(.type "super"),none,(.fields #[(.ref 76),(.ref 76),(.ref 76)]),#[]⟩
noncomputable def wgY (P:Params):Obj:=⟨(.type "builtin_function_or_method"),none,(.fields #[(.builtin "object.__init_subclass__"),(.ref 76)]),#[]⟩
noncomputable def u2 (P:Params):BT:=(.node (boot_o_7 P) (.node (wfY P) (.node (wfK P) (uL (wfs P)) .nil) (.node (whd P) (uL (wgZ P)) .nil)) (.node (wfQ P) (.node (wfC P) (uL (wfk P)) .nil) (uL (wg5 P))))
noncomputable def u3 (P:Params):BT:=(.node (wcw P) (.node (wfU P) (.node (wfG P) (uL (wfo P)) .nil) (uL (wg9 P))) (.node (web P) (.node (wfy P) (uL (wfg P)) .nil) (uL (wfw P))))
noncomputable def u4 (P:Params):BT:=(.node (boot_o_5 P) (.node (boot_o_9 P) (.node (wfW P) (.node (wfI P) (uL (wfq P)) .nil) (uL (whb P))) (.node (wfO P) (.node (wfA P) (uL (wfi P)) .nil) (uL (wg3 P)))) (.node (wdF P) (.node (wfS P) (.node (wfE P) (uL (wfm P)) .nil) (uL (wg7 P))) (.node (wfM P) (.node (whf P) (uL (wg1 P)) .nil) (uL (wfu P)))))
noncomputable def u5 (P:Params):BT:=(.node (boot_o_2 P) (.node (boot_o_4 P) (.node (boot_o_8 P) (.node (wfX P) (.node (wfJ P) (uL (wfr P)) .nil) (.node (whc P) (uL (wgY P)) .nil)) (.node (wfP P) (.node (wfB P) (uL (wfj P)) .nil) (uL (wg4 P)))) (.node (wsW P) (.node (wfT P) (.node (wfF P) (uL (wfn P)) .nil) (uL (wg8 P))) (.node (wea P) (.node (wfx P) (uL (wff P)) .nil) (uL (wfv P))))) (.node (boot_o_6 P) (.node (boot_o_10 P) (.node (wfV P) (.node (wfH P) (uL (wfp P)) .nil) (uL (wha P))) (.node (wfN P) (.node (wfz P) (uL (wfh P)) .nil) (uL (wg2 P)))) (.node (wcW P) (.node (wfR P) (.node (wfD P) (uL (wfl P)) .nil) (uL (wg6 P))) (.node (wfL P) (.node (whe P) (uL (wg0 P)) .nil) (uL (wft P))))))
noncomputable def T2 (P:Params):BT:=(.node (boot_o_0 P) (.node (boot_o_1 P) (.node (wud P) (u2 P) (u3 P)) (u4 P)) (u5 P))
noncomputable def n2:Nat:=81
noncomputable def tok2:Nat:=295
noncomputable def pos2:Pos:=⟨2,0,67,16⟩
noncomputable def wuc (P:Params):Obj:=⟨(.type "dict"),none,(.dict #[eV P "__name__" 165 (sV "cpy313.pstats" 295),eV P "__doc__" 166 .none,eV P "__package__" 167 .none,eV P "__loader__" 168 (.builtin "__main__.__loader__#opaque"),eV P "__spec__" 169 .none,eV P "__annotations__" 170 (.ref 6),eV P "__builtins__" 171 (.ref 4),eV P "__file__" 173 (sV "/claim/cut.py" 172),eV P "__cached__" 174 .none,eV P "Whitespace" 294 (.ref 76)] 10),#[]⟩
noncomputable def T3 (P:Params):BT:=(.node (boot_o_0 P) (.node (boot_o_1 P) (.node (wuc P) (u2 P) (u3 P)) (u4 P)) (u5 P))
noncomputable def n3:Nat:=81
noncomputable def tok3:Nat:=297
noncomputable def pos3:Pos:=⟨68,0,68,8⟩
noncomputable def wub (P:Params):Obj:=⟨(.type "dict"),none,(.dict #[eV P "__name__" 165 (sV "cpy313.stringprep" 359),eV P "__doc__" 166 .none,eV P "__package__" 167 .none,eV P "__loader__" 168 (.builtin "__main__.__loader__#opaque"),eV P "__spec__" 169 .none,eV P "__annotations__" 170 (.ref 6),eV P "__builtins__" 171 (.ref 4),eV P "__file__" 173 (sV "/claim/cut.py" 172),eV P "__cached__" 174 .none,eV P "Whitespace" 294 (.ref 76),eV P "TupleComp" 338 (.ref 104),eV P "add_callers" 349 (.ref 115),eV P "count_calls" 358 (.ref 122)] 13),#[]⟩
noncomputable def wo2 (P:Params):Obj:=⟨.none,none,(.fields #[(.int 2 0),i0,(.ref 20),(.int 69 0),i0,(.ref 86),(.int 83 0),i0,(.ref 114),(.int 96 0),i0,(.ref 121)]),#[]⟩
noncomputable def wjz (P:Params):Obj:=oE
noncomputable def wjy (P:Params):Obj:=⟨(.type "builtin_function_or_method"),none,(.fields #[(.builtin "type.__prepare__"),(.type "type")]),#[]⟩
noncomputable def wjx (P:Params):Obj:=⟨(.type "dict"),none,(.dict #[eV P "__module__" 304 (sV "cpy313.pstats" 295),eV P "__qualname__" 306 (sV "TupleComp" 305),eV P "__firstlineno__" 308 (.int 69 307),eV P "__init__" 316 (.ref 94),eV P "compare" 329 (.ref 101),eV P "__static_attributes__" 331 (.ref 102)] 6),#[]⟩
noncomputable def wjw (P:Params):Obj:=oE
noncomputable def wjv (P:Params):Obj:=⟨.none,none,(.fields #[(.int 71 0),(.int 4 0),(.ref 93),(.int 74 0),(.int 4 0),(.ref 100)]),#[]⟩
noncomputable def wju (P:Params):Obj:=⟨(.type "code"),none,(.fields #[(sV "TupleComp" 299),(sV "TupleComp" 300),(sV "/claim/cut.py" 301),(.int 69 0),i0,i0,i0,i0,(.ref 84),(.bool false),(.int 181 0),(.ref 85),.none,.none,.none,.none,(.int 302 0),(.int 69 0),(sV "/claim/cut.py" 303)]),#[]⟩
noncomputable def wjt (P:Params):Obj:=⟨(.type "frame"),none,.plain,#[(some (.ref 86)),(some (.ref 3)),(some (.ref 83)),none,(some (sV "cpy313.pstats" 295)),none,(some (.ref 0))]⟩
noncomputable def wjs (P:Params):Obj:=oE
noncomputable def wjr (P:Params):Obj:=⟨.none,none,(.fields #[]),#[]⟩
noncomputable def wjq (P:Params):Obj:=⟨(.type "tuple"),none,(.seq #[(sV "self" 312),(sV "comp_select_list" 313)] 0),#[]⟩
noncomputable def wgX (P:Params):Obj:=oE
noncomputable def wgW (P:Params):Obj:=⟨.none,none,(.func { name:=(Str.ofString "__init__"),qualname:=(Str.ofString "TupleComp.__init__"),params:=fnPar (sub (st 3) 0),body:=.stmts (fnBody (sub (st 3) 0)),scope:=fnScope (sub (st 3) 0),globals:=0,closure:=[],defaults:=.none,kwdefaults:=.none,doc:=.none,pyModule:=.none,annotations:=none,code:=.none,closureTuple:=.none,builtins:=0 }),#[]⟩
noncomputable def wgV (P:Params):Obj:=⟨(.type "code"),none,(.fields #[(sV "__init__" 309),(sV "TupleComp.__init__" 310),(sV "/claim/cut.py" 311),(.int 71 0),(.int 2 0),i0,i0,(.int 3 0),(.ref 88),(.bool true),(.int 181 0),(.ref 89),.none,(.ref 90),(.ref 91),(.ref 92),(.int 314 0),(.int 71 0),(sV "/claim/cut.py" 315)]),#[]⟩
noncomputable def wgU (P:Params):Obj:=⟨(.type "function"),none,(.func { name:=(Str.ofString "__init__"),qualname:=(Str.ofString "TupleComp.__init__"),params:=fnPar (sub (st 3) 0),body:=.stmts (fnBody (sub (st 3) 0)),scope:=fnScope (sub (st 3) 0),globals:=3,closure:=[],defaults:=.none,kwdefaults:=.none,doc:=.none,pyModule:=(sV "cpy313.pstats" 295),annotations:=none,code:=(.ref 93),closureTuple:=.none,builtins:=0 }),#[]⟩
noncomputable def wgT (P:Params):Obj:=oE
noncomputable def wgS (P:Params):Obj:=⟨.none,none,(.fields #[]),#[]⟩
noncomputable def wgR (P:Params):Obj:=⟨(.type "tuple"),none,(.seq #[(sV "self" 320),(sV "left" 321),(sV "right" 322),(sV "index" 323),(sV "direction" 324),(sV "l" 325),(sV "r" 326)] 0),#[]⟩
noncomputable def wgQ (P:Params):Obj:=oE
noncomputable def wgP (P:Params):Obj:=⟨.none,none,(.func { name:=(Str.ofString "compare"),qualname:=(Str.ofString "TupleComp.compare"),params:=fnPar (sub (st 3) 1),body:=.stmts (fnBody (sub (st 3) 1)),scope:=fnScope (sub (st 3) 1),globals:=0,closure:=[],defaults:=.none,kwdefaults:=.none,doc:=.none,pyModule:=.none,annotations:=none,code:=.none,closureTuple:=.none,builtins:=0 }),#[]⟩
noncomputable def wfe (P:Params):Obj:=⟨(.type "code"),none,(.fields #[(sV "compare" 317),(sV "TupleComp.compare" 318),(sV "/claim/cut.py" 319),(.int 74 0),(.int 3 0),i0,i0,(.int 3 0),(.ref 95),(.bool true),(.int 181 0),(.ref 96),.none,(.ref 97),(.ref 98),(.ref 99),(.int 327 0),(.int 74 0),(sV "/claim/cut.py" 328)]),#[]⟩
noncomputable def wfd (P:Params):Obj:=⟨(.type "function"),none,(.func { name:=(Str.ofString "compare"),qualname:=(Str.ofString "TupleComp.compare"),params:=fnPar (sub (st 3) 1),body:=.stmts (fnBody (sub (st 3) 1)),scope:=fnScope (sub (st 3) 1),globals:=3,closure:=[],defaults:=.none,kwdefaults:=.none,doc:=.none,pyModule:=(sV "cpy313.pstats" 295),annotations:=none,code:=(.ref 100),closureTuple:=.none,builtins:=0 }),#[]⟩
noncomputable def wfc (P:Params):Obj:=⟨(.type "tuple"),none,(.seq #[(sV "comp_select_list" 330)] 0),#[]⟩
noncomputable def wfb (P:Params):Obj:=⟨(.type "dict"),none,(.dict #[eV P "__module__" 304 (sV "cpy313.pstats" 295),eV P "__firstlineno__" 308 (.int 69 307),eV P "__init__" 316 (.ref 94),eV P "compare" 329 (.ref 101),eV P "__static_attributes__" 331 (.ref 102),eV P "__dict__" 333 (.ref 105),eV P "__weakref__" 335 (.ref 106),eV P "__doc__" 336 .none] 4),#[]⟩
noncomputable def wfa (P:Params):Obj:=⟨(.type "type"),none,(.cls { name:=(Str.ofString "TupleComp"),bases:=[(.type "object")],mro:=[(.ref 104),(.type "object")],ns:=103,qualname:=(Str.ofString "TupleComp"),hasDict:=true,slotNames:=[],subclasses:=[],abstract:=false,collection:=none,hasDel:=false }),#[none,none,(some (sV "TupleComp" 297)),(some (sV "TupleComp" 305)),(some (.builtin "object.__new__")),(some (.bool true))]⟩
noncomputable def we9 (P:Params):Obj:=⟨(.type "getset_descriptor"),none,(.fields #[(sV "__dict__" 332),(.ref 104),(.builtin "function.__dict__"),(.builtin "function.__dict__#set")]),#[]⟩
noncomputable def we8 (P:Params):Obj:=⟨(.type "getset_descriptor"),none,(.fields #[(sV "__weakref__" 334),(.ref 104),(.builtin "ExceptionGroup.__weakref__"),.none]),#[]⟩
noncomputable def we7 (P:Params):Obj:=⟨(.type "super"),none,(.fields #[(.ref 104),(.ref 104),(.ref 104)]),#[]⟩
noncomputable def we6 (P:Params):Obj:=⟨(.type "builtin_function_or_method"),none,(.fields #[(.builtin "object.__init_subclass__"),(.ref 104)]),#[]⟩
noncomputable def wik (P:Params):Obj:=oE
noncomputable def we5 (P:Params):Obj:=⟨.none,none,(.fields #[]),#[]⟩
noncomputable def wij (P:Params):Obj:=⟨(.type "tuple"),none,(.seq #[(sV "target" 342),(sV "source" 343),(sV "new_callers" 344),(sV "func" 345),(sV "caller" 346)] 0),#[]⟩
noncomputable def wii (P:Params):Obj:=oE
noncomputable def wih (P:Params):Obj:=⟨.none,none,(.func { name:=(Str.ofString "add_callers"),qualname:=(Str.ofString "add_callers"),params:=fnPar (st 4),body:=.stmts (fnBody (st 4)),scope:=fnScope (st 4),globals:=0,closure:=[],defaults:=.none,kwdefaults:=.none,doc:=.none,pyModule:=.none,annotations:=none,code:=.none,closureTuple:=.none,builtins:=0 }),#[]⟩
noncomputable def wd1 (P:Params):Obj:=⟨(.type "code"),none,(.fields #[(sV "add_callers" 339),(sV "add_callers" 340),(sV "/claim/cut.py" 341),(.int 83 0),(.int 2 0),i0,i0,(.int 3 0),(.ref 109),(.bool true),(.int 181 0),(.ref 110),.none,(.ref 111),(.ref 112),(.ref 113),(.int 347 0),(.int 83 0),(sV "/claim/cut.py" 348)]),#[]⟩
noncomputable def wig (P:Params):Obj:=⟨(.type "function"),none,(.func { name:=(Str.ofString "add_callers"),qualname:=(Str.ofString "add_callers"),params:=fnPar (st 4),body:=.stmts (fnBody (st 4)),scope:=fnScope (st 4),globals:=3,closure:=[],defaults:=.none,kwdefaults:=.none,doc:=.none,pyModule:=(sV "cpy313.pstats" 295),annotations:=none,code:=(.ref 114),closureTuple:=.none,builtins:=0 }),#[]⟩
noncomputable def wif (P:Params):Obj:=oE
noncomputable def wie (P:Params):Obj:=⟨.none,none,(.fields #[]),#[]⟩
noncomputable def wid (P:Params):Obj:=⟨(.type "tuple"),none,(.seq #[(sV "callers" 353),(sV "nc" 354),(sV "calls" 355)] 0),#[]⟩
noncomputable def wic (P:Params):Obj:=oE
noncomputable def wib (P:Params):Obj:=⟨.none,none,(.func { name:=(Str.ofString "count_calls"),qualname:=(Str.ofString "count_calls"),params:=fnPar (st 5),body:=.stmts (fnBody (st 5)),scope:=fnScope (st 5),globals:=0,closure:=[],defaults:=.none,kwdefaults:=.none,doc:=.none,pyModule:=.none,annotations:=none,code:=.none,closureTuple:=.none,builtins:=0 }),#[]⟩
noncomputable def wia (P:Params):Obj:=⟨(.type "code"),none,(.fields #[(sV "count_calls" 350),(sV "count_calls" 351),(sV "/claim/cut.py" 352),(.int 96 0),(.int 1 0),i0,i0,(.int 3 0),(.ref 116),(.bool true),(.int 181 0),(.ref 117),.none,(.ref 118),(.ref 119),(.ref 120),(.int 356 0),(.int 96 0),(sV "/claim/cut.py" 357)]),#[]⟩
noncomputable def wh9 (P:Params):Obj:=⟨(.type "function"),none,(.func { name:=(Str.ofString "count_calls"),qualname:=(Str.ofString "count_calls"),params:=fnPar (st 5),body:=.stmts (fnBody (st 5)),scope:=fnScope (st 5),globals:=3,closure:=[],defaults:=.none,kwdefaults:=.none,doc:=.none,pyModule:=(sV "cpy313.pstats" 295),annotations:=none,code:=(.ref 121),closureTuple:=.none,builtins:=0 }),#[]⟩
noncomputable def u6 (P:Params):BT:=(.node (whd P) (uL (wgZ P)) (uL (wij P)))
noncomputable def u7 (P:Params):BT:=(.node (wg5 P) (uL (wjt P)) (uL (wic P)))
noncomputable def u8 (P:Params):BT:=(.node (wfQ P) (.node (wfC P) (uL (wfk P)) (uL (wfb P))) (u7 P))
noncomputable def u9 (P:Params):BT:=(.node (wg9 P) (uL (wjx P)) (uL (wig P)))
noncomputable def u10 (P:Params):BT:=(.node (wfy P) (uL (wfg P)) (uL (we7 P)))
noncomputable def u11 (P:Params):BT:=(.node (whb P) (uL (wjz P)) (uL (wih P)))
noncomputable def u12 (P:Params):BT:=(.node (wg3 P) (uL (wjr P)) (uL (wia P)))
noncomputable def u13 (P:Params):BT:=(.node (wfO P) (.node (wfA P) (uL (wfi P)) (uL (we9 P))) (u12 P))
noncomputable def u14 (P:Params):BT:=(.node (wg7 P) (uL (wjv P)) (uL (wie P)))
noncomputable def u15 (P:Params):BT:=(.node (whf P) (uL (wg1 P)) (uL (wik P)))
noncomputable def u16 (P:Params):BT:=(.node (whc P) (uL (wgY P)) (uL (wii P)))
noncomputable def u17 (P:Params):BT:=(.node (wg4 P) (uL (wjs P)) (uL (wib P)))
noncomputable def u18 (P:Params):BT:=(.node (wfP P) (.node (wfB P) (uL (wfj P)) (uL (wfa P))) (u17 P))
noncomputable def u19 (P:Params):BT:=(.node (wg8 P) (uL (wjw P)) (uL (wif P)))
noncomputable def u20 (P:Params):BT:=(.node (wfx P) (uL (wff P)) (uL (we6 P)))
noncomputable def u21 (P:Params):BT:=(.node (wha P) (uL (wjy P)) (uL (wd1 P)))
noncomputable def u22 (P:Params):BT:=(.node (wg2 P) (uL (wjq P)) (uL (wh9 P)))
noncomputable def u23 (P:Params):BT:=(.node (wfN P) (.node (wfz P) (uL (wfh P)) (uL (we8 P))) (u22 P))
noncomputable def u24 (P:Params):BT:=(.node (wg6 P) (uL (wju P)) (uL (wid P)))
noncomputable def u25 (P:Params):BT:=(.node (wfR P) (.node (wfD P) (uL (wfl P)) (uL (wfc P))) (u24 P))
noncomputable def u26 (P:Params):BT:=(.node (whe P) (uL (wg0 P)) (uL (we5 P)))
noncomputable def T4 (P:Params):BT:=(.node (boot_o_0 P) (.node (boot_o_1 P) (.node (wub P) (.node (boot_o_7 P) (.node (wfY P) (.node (wfK P) (uL (wfs P)) (uL (wgT P))) (u6 P)) (u8 P)) (.node (wcw P) (.node (wfU P) (.node (wfG P) (uL (wfo P)) (uL (wgP P))) (u9 P)) (.node (web P) (u10 P) (.node (wfw P) (uL (wgX P)) .nil)))) (.node (boot_o_5 P) (.node (boot_o_9 P) (.node (wfW P) (.node (wfI P) (uL (wfq P)) (uL (wgR P))) (u11 P)) (u13 P)) (.node (wdF P) (.node (wfS P) (.node (wfE P) (uL (wfm P)) (uL (wfd P))) (u14 P)) (.node (wfM P) (u15 P) (.node (wfu P) (uL (wgV P)) .nil))))) (.node (boot_o_2 P) (.node (boot_o_4 P) (.node (boot_o_8 P) (.node (wfX P) (.node (wfJ P) (uL (wfr P)) (uL (wgS P))) (u16 P)) (u18 P)) (.node (wo2 P) (.node (wfT P) (.node (wfF P) (uL (wfn P)) (uL (wfe P))) (u19 P)) (.node (wea P) (u20 P) (.node (wfv P) (uL (wgW P)) .nil)))) (.node (boot_o_6 P) (.node (boot_o_10 P) (.node (wfV P) (.node (wfH P) (uL (wfp P)) (uL (wgQ P))) (u21 P)) (u23 P)) (.node (wcW P) (u25 P) (.node (wfL P) (u26 P) (.node (wft P) (uL (wgU P)) .nil))))))
noncomputable def n4:Nat:=123
noncomputable def tok4:Nat:=361
noncomputable def pos4:Pos:=⟨101,0,101,8⟩
noncomputable def wua (P:Params):Obj:=⟨(.type "dict"),none,(.dict #[eV P "__name__" 165 (sV "cpy313.stringprep" 359),eV P "__doc__" 166 .none,eV P "__package__" 167 .none,eV P "__loader__" 168 (.builtin "__main__.__loader__#opaque"),eV P "__spec__" 169 .none,eV P "__annotations__" 170 (.ref 6),eV P "__builtins__" 171 (.ref 4),eV P "__file__" 173 (sV "/claim/cut.py" 172),eV P "__cached__" 174 .none,eV P "Whitespace" 294 (.ref 76),eV P "TupleComp" 338 (.ref 104),eV P "add_callers" 349 (.ref 115),eV P "count_calls" 358 (.ref 122),eV P "b1_set" 420 (.ref 130)] 14),#[]⟩
noncomputable def wh8 (P:Params):Obj:=⟨(.type "list"),none,(.seq #[(.int 173 361),(.int 847 362),(.int 6150 363),(.int 6155 364),(.int 6156 365),(.int 6157 366),(.int 8203 367),(.int 8204 368),(.int 8205 369),(.int 8288 370),(.int 65279 371)] 0),#[]⟩
noncomputable def wh7 (P:Params):Obj:=⟨(.type "range"),none,(.fields #[(.int 65024 372),(.int 65040 373),(.int 1 374)]),#[]⟩
noncomputable def wh6 (P:Params):Obj:=⟨(.type "list"),none,(.seq #[(.int 65024 377),(.int 65025 378),(.int 65026 379),(.int 65027 380),(.int 65028 381),(.int 65029 382),(.int 65030 383),(.int 65031 384),(.int 65032 385),(.int 65033 386),(.int 65034 387),(.int 65035 388),(.int 65036 389),(.int 65037 390),(.int 65038 391),(.int 65039 392)] 18),#[]⟩
noncomputable def wh5 (P:Params):Obj:=⟨(.type "range_iterator"),none,(.fields #[(.int 65040 0),i0,(.int 1 0)]),#[]⟩
noncomputable def wh4 (P:Params):Obj:=oE
noncomputable def wh3 (P:Params):Obj:=⟨(.type "StopIteration"),none,(.fields #[(.ref 127),.none,.none,.none,(.bool false),.none]),#[]⟩
noncomputable def wh2 (P:Params):Obj:=⟨(.type "list"),none,(.seq #[(.int 173 361),(.int 847 362),(.int 6150 363),(.int 6155 364),(.int 6156 365),(.int 6157 366),(.int 8203 367),(.int 8204 368),(.int 8205 369),(.int 8288 370),(.int 65279 371),(.int 65024 377),(.int 65025 378),(.int 65026 379),(.int 65027 380),(.int 65028 381),(.int 65029 382),(.int 65030 383),(.int 65031 384),(.int 65032 385),(.int 65033 386),(.int 65034 387),(.int 65035 388),(.int 65036 389),(.int 65037 390),(.int 65038 391),(.int 65039 392)] 0),#[]⟩
noncomputable def wd0 (P:Params):Obj:=⟨(.type "set"),none,(.set #[(65024,(.int 65024 377)),(65025,(.int 65025 378)),(65026,(.int 65026 379)),(65027,(.int 65027 380)),(65028,(.int 65028 381)),(65029,(.int 65029 382)),(6150,(.int 6150 363)),(65030,(.int 65030 383)),(65031,(.int 65031 384)),(65032,(.int 65032 385)),(65033,(.int 65033 386)),(6155,(.int 6155 364)),(6156,(.int 6156 365)),(6157,(.int 6157 366)),(8203,(.int 8203 367)),(8204,(.int 8204 368)),(8205,(.int 8205 369)),(65034,(.int 65034 387)),(65035,(.int 65035 388)),(65036,(.int 65036 389)),(65037,(.int 65037 390)),(65038,(.int 65038 391)),(65039,(.int 65039 392)),(173,(.int 173 361)),(847,(.int 847 362)),(8288,(.int 8288 370)),(65279,(.int 65279 371))] 29 { mask:=127,place:=#[0,1,2,3,4,5,6,7,8,9,10,11,12,13,14,15,16,17,18,19,20,21,22,45,79,96,127],dummies:=#[],finger:=0,led:=!P.followText "set-order",moves:=2,plain:=true }),#[]⟩
noncomputable def wh1 (P:Params):Obj:=⟨(.type "list_iterator"),none,(.fields #[.none,(.int 27 0)]),#[]⟩
noncomputable def wh0 (P:Params):Obj:=oE
noncomputable def whZ (P:Params):Obj:=⟨(.type "StopIteration"),none,(.fields #[(.ref 132),.none,.none,.none,(.bool false),.none]),#[]⟩
noncomputable def u27 (P:Params):BT:=(.node (wfY P) (.node (wfK P) (.node (wfs P) (uL (wh4 P)) .nil) (uL (wgT P))) (u6 P))
noncomputable def u28 (P:Params):BT:=(.node (wfU P) (.node (wfG P) (.node (wfo P) (uL (wh1 P)) .nil) (uL (wgP P))) (u9 P))
noncomputable def u29 (P:Params):BT:=(.node (wfw P) (uL (wgX P)) (uL (wh8 P)))
noncomputable def u30 (P:Params):BT:=(.node (wfW P) (.node (wfI P) (.node (wfq P) (uL (wh2 P)) .nil) (uL (wgR P))) (u11 P))
noncomputable def u31 (P:Params):BT:=(.node (wdF P) (.node (wfS P) (.node (wfE P) (.node (wfm P) (uL (whZ P)) .nil) (uL (wfd P))) (u14 P)) (.node (wfM P) (u15 P) (.node (wfu P) (uL (wgV P)) (uL (wh6 P)))))
noncomputable def u32 (P:Params):BT:=(.node (wfX P) (.node (wfJ P) (.node (wfr P) (uL (wh3 P)) .nil) (uL (wgS P))) (u16 P))
noncomputable def u33 (P:Params):BT:=(.node (wfT P) (.node (wfF P) (.node (wfn P) (uL (wh0 P)) .nil) (uL (wfe P))) (u19 P))
noncomputable def u34 (P:Params):BT:=(.node (wfv P) (uL (wgW P)) (uL (wh7 P)))
noncomputable def u35 (P:Params):BT:=(.node (wfV P) (.node (wfH P) (.node (wfp P) (uL (wd0 P)) .nil) (uL (wgQ P))) (u21 P))
noncomputable def u36 (P:Params):BT:=(.node (wfL P) (u26 P) (.node (wft P) (uL (wgU P)) (uL (wh5 P))))
noncomputable def T5 (P:Params):BT:=(.node (boot_o_0 P) (.node (boot_o_1 P) (.node (wua P) (.node (boot_o_7 P) (u27 P) (u8 P)) (.node (wcw P) (u28 P) (.node (web P) (u10 P) (u29 P)))) (.node (boot_o_5 P) (.node (boot_o_9 P) (u30 P) (u13 P)) (u31 P))) (.node (boot_o_2 P) (.node (boot_o_4 P) (.node (boot_o_8 P) (u32 P) (u18 P)) (.node (wo2 P) (u33 P) (.node (wea P) (u20 P) (u34 P)))) (.node (boot_o_6 P) (.node (boot_o_10 P) (u35 P) (u23 P)) (.node (wcW P) (u25 P) (u36 P)))))
noncomputable def n5:Nat:=134
noncomputable def tok5:Nat:=421
noncomputable def pos5:Pos:=⟨102,0,102,6⟩
noncomputable def wrn (P:Params):Obj:=⟨(.type "dict"),none,(.dict #[eV P "__name__" 165 (sV "cpy313.stringprep" 359),eV P "__doc__" 166 .none,eV P "__package__" 167 .none,eV P "__loader__" 168 (.builtin "__main__.__loader__#opaque"),eV P "__spec__" 169 .none,eV P "__annotations__" 170 (.ref 6),eV P "__builtins__" 171 (.ref 4),eV P "__file__" 173 (sV "/claim/cut.py" 172),eV P "__cached__" 174 .none,eV P "Whitespace" 294 (.ref 76),eV P "TupleComp" 338 (.ref 104),eV P "add_callers" 349 (.ref 115),eV P "count_calls" 358 (.ref 122),eV P "b1_set" 420 (.ref 130),eV P "in_table_b1" 427 (.ref 140)] 15),#[]⟩
noncomputable def wo1 (P:Params):Obj:=⟨.none,none,(.fields #[(.int 2 0),i0,(.ref 20),(.int 69 0),i0,(.ref 86),(.int 83 0),i0,(.ref 114),(.int 96 0),i0,(.ref 121),(.int 103 0),i0,(.ref 139)]),#[]⟩
noncomputable def whY (P:Params):Obj:=oE
noncomputable def whX (P:Params):Obj:=⟨.none,none,(.fields #[]),#[]⟩
noncomputable def whW (P:Params):Obj:=⟨(.type "tuple"),none,(.seq #[(sV "code" 424)] 0),#[]⟩
noncomputable def whV (P:Params):Obj:=oE
noncomputable def whU (P:Params):Obj:=⟨.none,none,(.func { name:=(Str.ofString "in_table_b1"),qualname:=(Str.ofString "in_table_b1"),params:=fnPar (st 8),body:=.stmts (fnBody (st 8)),scope:=fnScope (st 8),globals:=0,closure:=[],defaults:=.none,kwdefaults:=.none,doc:=.none,pyModule:=.none,annotations:=none,code:=.none,closureTuple:=.none,builtins:=0 }),#[]⟩
noncomputable def whT (P:Params):Obj:=⟨(.type "code"),none,(.fields #[(sV "in_table_b1" 421),(sV "in_table_b1" 422),(sV "/claim/cut.py" 423),(.int 103 0),(.int 1 0),i0,i0,(.int 3 0),(.ref 134),(.bool true),(.int 181 0),(.ref 135),.none,(.ref 136),(.ref 137),(.ref 138),(.int 425 0),(.int 103 0),(sV "/claim/cut.py" 426)]),#[]⟩
noncomputable def whS (P:Params):Obj:=⟨(.type "function"),none,(.func { name:=(Str.ofString "in_table_b1"),qualname:=(Str.ofString "in_table_b1"),params:=fnPar (st 8),body:=.stmts (fnBody (st 8)),scope:=fnScope (st 8),globals:=3,closure:=[],defaults:=.none,kwdefaults:=.none,doc:=.none,pyModule:=(sV "cpy313.stringprep" 359),annotations:=none,code:=(.ref 139),closureTuple:=.none,builtins:=0 }),#[]⟩
noncomputable def T6 (P:Params):BT:=(.node (boot_o_0 P) (.node (boot_o_1 P) (.node (wrn P) (.node (boot_o_7 P) (u27 P) (.node (wfQ P) (.node (wfC P) (.node (wfk P) (uL (whX P)) .nil) (uL (wfb P))) (u7 P))) (.node (wcw P) (u28 P) (.node (web P) (.node (wfy P) (.node (wfg P) (uL (whT P)) .nil) (uL (we7 P))) (u29 P)))) (.node (boot_o_5 P) (.node (boot_o_9 P) (u30 P) (.node (wfO P) (.node (wfA P) (.node (wfi P) (uL (whV P)) .nil) (uL (we9 P))) (u12 P))) (u31 P))) (.node (boot_o_2 P) (.node (boot_o_4 P) (.node (boot_o_8 P) (u32 P) (.node (wfP P) (.node (wfB P) (.node (wfj P) (uL (whW P)) .nil) (uL (wfa P))) (u17 P))) (.node (wo1 P) (u33 P) (.node (wea P) (.node (wfx P) (.node (wff P) (uL (whS P)) .nil) (uL (we6 P))) (u34 P)))) (.node (boot_o_6 P) (.node (boot_o_10 P) (u35 P) (.node (wfN P) (.node (wfz P) (.node (wfh P) (uL (whU P)) .nil) (uL (we8 P))) (u22 P))) (.node (wcW P) (.node (wfR P) (.node (wfD P) (.node (wfl P) (uL (whY P)) .nil) (uL (wfc P))) (u24 P)) (u36 P)))))
noncomputable def n6:Nat:=141
noncomputable def tok6:Nat:=428
noncomputable def pos6:Pos:=⟨103,0,104,30⟩
noncomputable def dictL:List (Int×Str):=dictPairs (dictKeys (st 9)) (dictVals (st 9))
noncomputable def chunkAt (i:Nat):List DictEntry:=chunk (tok6+51 * i) ((dictL.drop (17 * i)).take 17)
noncomputable def allTo:Nat->List DictEntry
 | 0=>chunkAt 0
 | i+1=>allTo i++chunkAt (i+1)
noncomputable def whg (_:Params):Obj:=dObj (allTo 38)
noncomputable def wlK (_:Params):Obj:=dObj (chunkAt 1)
noncomputable def wlJ (_:Params):Obj:=dObj (chunkAt 2)
noncomputable def wlI (_:Params):Obj:=dObj (chunkAt 3)
noncomputable def wlH (_:Params):Obj:=dObj (chunkAt 4)
noncomputable def wlG (_:Params):Obj:=dObj (chunkAt 5)
noncomputable def wlF (_:Params):Obj:=dObj (chunkAt 6)
noncomputable def wlE (_:Params):Obj:=dObj (chunkAt 7)
noncomputable def wlD (_:Params):Obj:=dObj (chunkAt 8)
noncomputable def wlC (_:Params):Obj:=dObj (chunkAt 9)
noncomputable def wlB (_:Params):Obj:=dObj (chunkAt 10)
noncomputable def wlA (_:Params):Obj:=dObj (chunkAt 11)
noncomputable def wlz (_:Params):Obj:=dObj (chunkAt 12)
noncomputable def wly (_:Params):Obj:=dObj (chunkAt 13)
noncomputable def wlx (_:Params):Obj:=dObj (chunkAt 14)
noncomputable def wlw (_:Params):Obj:=dObj (chunkAt 15)
noncomputable def wlv (_:Params):Obj:=dObj (chunkAt 16)
noncomputable def wlu (_:Params):Obj:=dObj (chunkAt 17)
noncomputable def wlt (_:Params):Obj:=dObj (chunkAt 18)
noncomputable def wls (_:Params):Obj:=dObj (chunkAt 19)
noncomputable def wlr (_:Params):Obj:=dObj (chunkAt 20)
noncomputable def wlq (_:Params):Obj:=dObj (chunkAt 21)
noncomputable def wlp (_:Params):Obj:=dObj (chunkAt 22)
noncomputable def wlo (_:Params):Obj:=dObj (chunkAt 23)
noncomputable def wln (_:Params):Obj:=dObj (chunkAt 24)
noncomputable def wlm (_:Params):Obj:=dObj (chunkAt 25)
noncomputable def wll (_:Params):Obj:=dObj (chunkAt 26)
noncomputable def wlk (_:Params):Obj:=dObj (chunkAt 27)
noncomputable def wlj (_:Params):Obj:=dObj (chunkAt 28)
noncomputable def wli (_:Params):Obj:=dObj (chunkAt 29)
noncomputable def wlh (_:Params):Obj:=dObj (chunkAt 30)
noncomputable def wlg (_:Params):Obj:=dObj (chunkAt 31)
noncomputable def wlf (_:Params):Obj:=dObj (chunkAt 32)
noncomputable def wle (_:Params):Obj:=dObj (chunkAt 33)
noncomputable def wld (_:Params):Obj:=dObj (chunkAt 34)
noncomputable def wlc (_:Params):Obj:=dObj (chunkAt 35)
noncomputable def wlb (_:Params):Obj:=dObj (chunkAt 36)
noncomputable def wla (_:Params):Obj:=dObj (chunkAt 37)
noncomputable def wk9 (_:Params):Obj:=dObj (chunkAt 38)
noncomputable def wt9 (P:Params):Obj:=⟨(.type "dict"),none,(.dict #[eV P "__name__" 165 (sV "cpy313.stringprep" 359),eV P "__doc__" 166 .none,eV P "__package__" 167 .none,eV P "__loader__" 168 (.builtin "__main__.__loader__#opaque"),eV P "__spec__" 169 .none,eV P "__annotations__" 170 (.ref 6),eV P "__builtins__" 171 (.ref 4),eV P "__file__" 173 (sV "/claim/cut.py" 172),eV P "__cached__" 174 .none,eV P "Whitespace" 294 (.ref 76),eV P "TupleComp" 338 (.ref 104),eV P "add_callers" 349 (.ref 115),eV P "count_calls" 358 (.ref 122),eV P "b1_set" 420 (.ref 130),eV P "in_table_b1" 427 (.ref 140),eV P "b3_exceptions" 2378 (.ref 141)] 16),#[]⟩
noncomputable def u37 (P:Params):BT:=(.node (boot_o_7 P) (.node (wfY P) (.node (wfK P) (.node (wfs P) (uL (wh4 P)) .nil) (.node (wgT P) (uL (wlt P)) .nil)) (.node (whd P) (.node (wgZ P) (uL (wlJ P)) .nil) (.node (wij P) (uL (wld P)) .nil))) (.node (wfQ P) (.node (wfC P) (.node (wfk P) (uL (whX P)) .nil) (.node (wfb P) (uL (wll P)) .nil)) (.node (wg5 P) (.node (wjt P) (uL (wlB P)) .nil) (uL (wic P)))))
noncomputable def u38 (P:Params):BT:=(.node (wcw P) (.node (wfU P) (.node (wfG P) (.node (wfo P) (uL (wh1 P)) .nil) (.node (wgP P) (uL (wlp P)) .nil)) (.node (wg9 P) (.node (wjx P) (uL (wlF P)) .nil) (.node (wig P) (uL (wk9 P)) .nil))) (.node (web P) (.node (wfy P) (.node (wfg P) (uL (whT P)) .nil) (.node (we7 P) (uL (wlh P)) .nil)) (.node (wfw P) (.node (wgX P) (uL (wlx P)) .nil) (uL (wh8 P)))))
noncomputable def u39 (P:Params):BT:=(.node (boot_o_5 P) (.node (boot_o_9 P) (.node (wfW P) (.node (wfI P) (.node (wfq P) (uL (wh2 P)) .nil) (.node (wgR P) (uL (wlr P)) .nil)) (.node (whb P) (.node (wjz P) (uL (wlH P)) .nil) (.node (wih P) (uL (wlb P)) .nil))) (.node (wfO P) (.node (wfA P) (.node (wfi P) (uL (whV P)) .nil) (.node (we9 P) (uL (wlj P)) .nil)) (.node (wg3 P) (.node (wjr P) (uL (wlz P)) .nil) (uL (wia P))))) (.node (wdF P) (.node (wfS P) (.node (wfE P) (.node (wfm P) (uL (whZ P)) .nil) (.node (wfd P) (uL (wln P)) .nil)) (.node (wg7 P) (.node (wjv P) (uL (wlD P)) .nil) (uL (wie P)))) (.node (wfM P) (.node (whf P) (.node (wg1 P) (uL (whg P)) .nil) (.node (wik P) (uL (wlf P)) .nil)) (.node (wfu P) (.node (wgV P) (uL (wlv P)) .nil) (uL (wh6 P))))))
noncomputable def u40 (P:Params):BT:=(.node (boot_o_2 P) (.node (boot_o_4 P) (.node (boot_o_8 P) (.node (wfX P) (.node (wfJ P) (.node (wfr P) (uL (wh3 P)) .nil) (.node (wgS P) (uL (wls P)) .nil)) (.node (whc P) (.node (wgY P) (uL (wlI P)) .nil) (.node (wii P) (uL (wlc P)) .nil))) (.node (wfP P) (.node (wfB P) (.node (wfj P) (uL (whW P)) .nil) (.node (wfa P) (uL (wlk P)) .nil)) (.node (wg4 P) (.node (wjs P) (uL (wlA P)) .nil) (uL (wib P))))) (.node (wo1 P) (.node (wfT P) (.node (wfF P) (.node (wfn P) (uL (wh0 P)) .nil) (.node (wfe P) (uL (wlo P)) .nil)) (.node (wg8 P) (.node (wjw P) (uL (wlE P)) .nil) (uL (wif P)))) (.node (wea P) (.node (wfx P) (.node (wff P) (uL (whS P)) .nil) (.node (we6 P) (uL (wlg P)) .nil)) (.node (wfv P) (.node (wgW P) (uL (wlw P)) .nil) (uL (wh7 P)))))) (.node (boot_o_6 P) (.node (boot_o_10 P) (.node (wfV P) (.node (wfH P) (.node (wfp P) (uL (wd0 P)) .nil) (.node (wgQ P) (uL (wlq P)) .nil)) (.node (wha P) (.node (wjy P) (uL (wlG P)) .nil) (.node (wd1 P) (uL (wla P)) .nil))) (.node (wfN P) (.node (wfz P) (.node (wfh P) (uL (whU P)) .nil) (.node (we8 P) (uL (wli P)) .nil)) (.node (wg2 P) (.node (wjq P) (uL (wly P)) .nil) (uL (wh9 P))))) (.node (wcW P) (.node (wfR P) (.node (wfD P) (.node (wfl P) (uL (whY P)) .nil) (.node (wfc P) (uL (wlm P)) .nil)) (.node (wg6 P) (.node (wju P) (uL (wlC P)) .nil) (uL (wid P)))) (.node (wfL P) (.node (whe P) (.node (wg0 P) (uL (wlK P)) .nil) (.node (we5 P) (uL (wle P)) .nil)) (.node (wft P) (.node (wgU P) (uL (wlu P)) .nil) (uL (wh5 P)))))))
noncomputable def T7 (P:Params):BT:=(.node (boot_o_0 P) (.node (boot_o_1 P) (.node (wt9 P) (u37 P) (u38 P)) (u39 P)) (u40 P))
noncomputable def n7:Nat:=180
noncomputable def tok7:Nat:=2379
noncomputable def pos7:Pos:=⟨105,0,105,13⟩
noncomputable def wkN (P:Params):Obj:=⟨(.type "dict"),none,(.dict #[eV P "__name__" 165 (sV "law_xb0039_02" 2387),eV P "__doc__" 166 .none,eV P "__package__" 167 .none,eV P "__loader__" 168 (.builtin "__main__.__loader__#opaque"),eV P "__spec__" 169 .none,eV P "__annotations__" 170 (.ref 6),eV P "__builtins__" 171 (.ref 4),eV P "__file__" 173 (sV "/claim/cut.py" 172),eV P "__cached__" 174 .none,eV P "Whitespace" 294 (.ref 76),eV P "TupleComp" 338 (.ref 104),eV P "add_callers" 349 (.ref 115),eV P "count_calls" 358 (.ref 122),eV P "b1_set" 420 (.ref 130),eV P "in_table_b1" 427 (.ref 140),eV P "b3_exceptions" 2378 (.ref 141),eV P "map_table_b3" 2386 (.ref 186),eV P "_law_word" 2394 (.ref 191),eV P "_law_laid" 2400 (.ref 196),eV P "_law_gaps" 2406 (.ref 201),eV P "_law_lead" 2412 (.ref 206),eV P "_law_column" 2422 (.ref 213),eV P "_law_written" 2428 (.ref 218),eV P "law" 2434 (.ref 223)] 24),#[]⟩
noncomputable def wo0 (P:Params):Obj:=⟨.none,none,(.fields #[(.int 2 0),i0,(.ref 20),(.int 69 0),i0,(.ref 86),(.int 83 0),i0,(.ref 114),(.int 96 0),i0,(.ref 121),(.int 103 0),i0,(.ref 139),(.int 106 0),i0,(.ref 185),(.int 112 0),i0,(.ref 190),(.int 127 0),i0,(.ref 195),(.int 133 0),i0,(.ref 200),(.int 153 0),i0,(.ref 205),(.int 155 0),i0,(.ref 212),(.int 160 0),i0,(.ref 217),(.int 175 0),i0,(.ref 222)]),#[]⟩
noncomputable def wns (P:Params):Obj:=oE
noncomputable def wnr (P:Params):Obj:=⟨.none,none,(.fields #[]),#[]⟩
noncomputable def wnq (P:Params):Obj:=⟨(.type "tuple"),none,(.seq #[(sV "code" 2382),(sV "r" 2383)] 0),#[]⟩
noncomputable def wnp (P:Params):Obj:=oE
noncomputable def wno (P:Params):Obj:=⟨.none,none,(.func { name:=(Str.ofString "map_table_b3"),qualname:=(Str.ofString "map_table_b3"),params:=fnPar (st 10),body:=.stmts (fnBody (st 10)),scope:=fnScope (st 10),globals:=0,closure:=[],defaults:=.none,kwdefaults:=.none,doc:=.none,pyModule:=.none,annotations:=none,code:=.none,closureTuple:=.none,builtins:=0 }),#[]⟩
noncomputable def wnn (P:Params):Obj:=⟨(.type "code"),none,(.fields #[(sV "map_table_b3" 2379),(sV "map_table_b3" 2380),(sV "/claim/cut.py" 2381),(.int 106 0),(.int 1 0),i0,i0,(.int 3 0),(.ref 180),(.bool true),(.int 181 0),(.ref 181),.none,(.ref 182),(.ref 183),(.ref 184),(.int 2384 0),(.int 106 0),(sV "/claim/cut.py" 2385)]),#[]⟩
noncomputable def wnm (P:Params):Obj:=⟨(.type "function"),none,(.func { name:=(Str.ofString "map_table_b3"),qualname:=(Str.ofString "map_table_b3"),params:=fnPar (st 10),body:=.stmts (fnBody (st 10)),scope:=fnScope (st 10),globals:=3,closure:=[],defaults:=.none,kwdefaults:=.none,doc:=.none,pyModule:=(sV "cpy313.stringprep" 359),annotations:=none,code:=(.ref 185),closureTuple:=.none,builtins:=0 }),#[]⟩
noncomputable def wnl (P:Params):Obj:=oE
noncomputable def wnk (P:Params):Obj:=⟨.none,none,(.fields #[]),#[]⟩
noncomputable def wnj (P:Params):Obj:=⟨.none,none,(.func { name:=(Str.ofString "_law_word"),qualname:=(Str.ofString "_law_word"),params:=fnPar (st 12),body:=.stmts (fnBody (st 12)),scope:=fnScope (st 12),globals:=0,closure:=[],defaults:=.none,kwdefaults:=.none,doc:=.none,pyModule:=.none,annotations:=none,code:=.none,closureTuple:=.none,builtins:=0 }),#[]⟩
noncomputable def wni (P:Params):Obj:=⟨(.type "code"),none,(.fields #[(sV "_law_word" 2389),(sV "_law_word" 2390),(sV "/claim/cut.py" 2391),(.int 112 0),(.int 1 0),i0,i0,(.int 3 0),(.ref 187),(.bool true),(.int 181 0),(.ref 188),.none,.none,.none,(.ref 189),(.int 2392 0),(.int 112 0),(sV "/claim/cut.py" 2393)]),#[]⟩
noncomputable def wnh (P:Params):Obj:=⟨(.type "function"),none,(.func { name:=(Str.ofString "_law_word"),qualname:=(Str.ofString "_law_word"),params:=fnPar (st 12),body:=.stmts (fnBody (st 12)),scope:=fnScope (st 12),globals:=3,closure:=[],defaults:=.none,kwdefaults:=.none,doc:=.none,pyModule:=(sV "law_xb0039_02" 2387),annotations:=none,code:=(.ref 190),closureTuple:=.none,builtins:=0 }),#[]⟩
noncomputable def wng (P:Params):Obj:=oE
noncomputable def wnf (P:Params):Obj:=⟨.none,none,(.fields #[]),#[]⟩
noncomputable def wne (P:Params):Obj:=⟨.none,none,(.func { name:=(Str.ofString "_law_laid"),qualname:=(Str.ofString "_law_laid"),params:=fnPar (st 13),body:=.stmts (fnBody (st 13)),scope:=fnScope (st 13),globals:=0,closure:=[],defaults:=.none,kwdefaults:=.none,doc:=.none,pyModule:=.none,annotations:=none,code:=.none,closureTuple:=.none,builtins:=0 }),#[]⟩
noncomputable def wnd (P:Params):Obj:=⟨(.type "code"),none,(.fields #[(sV "_law_laid" 2395),(sV "_law_laid" 2396),(sV "/claim/cut.py" 2397),(.int 127 0),(.int 3 0),i0,i0,(.int 3 0),(.ref 192),(.bool true),(.int 181 0),(.ref 193),.none,.none,.none,(.ref 194),(.int 2398 0),(.int 127 0),(sV "/claim/cut.py" 2399)]),#[]⟩
noncomputable def wnc (P:Params):Obj:=⟨(.type "function"),none,(.func { name:=(Str.ofString "_law_laid"),qualname:=(Str.ofString "_law_laid"),params:=fnPar (st 13),body:=.stmts (fnBody (st 13)),scope:=fnScope (st 13),globals:=3,closure:=[],defaults:=.none,kwdefaults:=.none,doc:=.none,pyModule:=(sV "law_xb0039_02" 2387),annotations:=none,code:=(.ref 195),closureTuple:=.none,builtins:=0 }),#[]⟩
noncomputable def wnb (P:Params):Obj:=oE
noncomputable def wna (P:Params):Obj:=⟨.none,none,(.fields #[]),#[]⟩
noncomputable def wm9 (P:Params):Obj:=⟨.none,none,(.func { name:=(Str.ofString "_law_gaps"),qualname:=(Str.ofString "_law_gaps"),params:=fnPar (st 14),body:=.stmts (fnBody (st 14)),scope:=fnScope (st 14),globals:=0,closure:=[],defaults:=.none,kwdefaults:=.none,doc:=.none,pyModule:=.none,annotations:=none,code:=.none,closureTuple:=.none,builtins:=0 }),#[]⟩
noncomputable def wm8 (P:Params):Obj:=⟨(.type "code"),none,(.fields #[(sV "_law_gaps" 2401),(sV "_law_gaps" 2402),(sV "/claim/cut.py" 2403),(.int 133 0),(.int 4 0),i0,i0,(.int 3 0),(.ref 197),(.bool true),(.int 181 0),(.ref 198),.none,.none,.none,(.ref 199),(.int 2404 0),(.int 133 0),(sV "/claim/cut.py" 2405)]),#[]⟩
noncomputable def wm7 (P:Params):Obj:=⟨(.type "function"),none,(.func { name:=(Str.ofString "_law_gaps"),qualname:=(Str.ofString "_law_gaps"),params:=fnPar (st 14),body:=.stmts (fnBody (st 14)),scope:=fnScope (st 14),globals:=3,closure:=[],defaults:=.none,kwdefaults:=.none,doc:=.none,pyModule:=(sV "law_xb0039_02" 2387),annotations:=none,code:=(.ref 200),closureTuple:=.none,builtins:=0 }),#[]⟩
noncomputable def wm6 (P:Params):Obj:=oE
noncomputable def wm5 (P:Params):Obj:=⟨.none,none,(.fields #[]),#[]⟩
noncomputable def wm4 (P:Params):Obj:=⟨.none,none,(.func { name:=(Str.ofString "_law_lead"),qualname:=(Str.ofString "_law_lead"),params:=fnPar (st 15),body:=.stmts (fnBody (st 15)),scope:=fnScope (st 15),globals:=0,closure:=[],defaults:=.none,kwdefaults:=.none,doc:=.none,pyModule:=.none,annotations:=none,code:=.none,closureTuple:=.none,builtins:=0 }),#[]⟩
noncomputable def wm3 (P:Params):Obj:=⟨(.type "code"),none,(.fields #[(sV "_law_lead" 2407),(sV "_law_lead" 2408),(sV "/claim/cut.py" 2409),(.int 153 0),(.int 2 0),i0,i0,(.int 3 0),(.ref 202),(.bool true),(.int 181 0),(.ref 203),.none,.none,.none,(.ref 204),(.int 2410 0),(.int 153 0),(sV "/claim/cut.py" 2411)]),#[]⟩
noncomputable def wm2 (P:Params):Obj:=⟨(.type "function"),none,(.func { name:=(Str.ofString "_law_lead"),qualname:=(Str.ofString "_law_lead"),params:=fnPar (st 15),body:=.stmts (fnBody (st 15)),scope:=fnScope (st 15),globals:=3,closure:=[],defaults:=.none,kwdefaults:=.none,doc:=.none,pyModule:=(sV "law_xb0039_02" 2387),annotations:=none,code:=(.ref 205),closureTuple:=.none,builtins:=0 }),#[]⟩
noncomputable def wm1 (P:Params):Obj:=oE
noncomputable def wm0 (P:Params):Obj:=⟨.none,none,(.fields #[]),#[]⟩
noncomputable def wmZ (P:Params):Obj:=⟨(.type "tuple"),none,(.seq #[(sV "gaps" 2416),(sV "size" 2417),(sV "column" 2418),(sV "gap" 2419)] 0),#[]⟩
noncomputable def wmY (P:Params):Obj:=oE
noncomputable def wmX (P:Params):Obj:=⟨.none,none,(.func { name:=(Str.ofString "_law_column"),qualname:=(Str.ofString "_law_column"),params:=fnPar (st 16),body:=.stmts (fnBody (st 16)),scope:=fnScope (st 16),globals:=0,closure:=[],defaults:=.none,kwdefaults:=.none,doc:=.none,pyModule:=.none,annotations:=none,code:=.none,closureTuple:=.none,builtins:=0 }),#[]⟩
noncomputable def wmW (P:Params):Obj:=⟨(.type "code"),none,(.fields #[(sV "_law_column" 2413),(sV "_law_column" 2414),(sV "/claim/cut.py" 2415),(.int 155 0),(.int 2 0),i0,i0,(.int 3 0),(.ref 207),(.bool true),(.int 181 0),(.ref 208),.none,(.ref 209),(.ref 210),(.ref 211),(.int 2420 0),(.int 155 0),(sV "/claim/cut.py" 2421)]),#[]⟩
noncomputable def wmV (P:Params):Obj:=⟨(.type "function"),none,(.func { name:=(Str.ofString "_law_column"),qualname:=(Str.ofString "_law_column"),params:=fnPar (st 16),body:=.stmts (fnBody (st 16)),scope:=fnScope (st 16),globals:=3,closure:=[],defaults:=.none,kwdefaults:=.none,doc:=.none,pyModule:=(sV "law_xb0039_02" 2387),annotations:=none,code:=(.ref 212),closureTuple:=.none,builtins:=0 }),#[]⟩
noncomputable def wmU (P:Params):Obj:=oE
noncomputable def wmT (P:Params):Obj:=⟨.none,none,(.fields #[]),#[]⟩
noncomputable def wmS (P:Params):Obj:=⟨.none,none,(.func { name:=(Str.ofString "_law_written"),qualname:=(Str.ofString "_law_written"),params:=fnPar (st 17),body:=.stmts (fnBody (st 17)),scope:=fnScope (st 17),globals:=0,closure:=[],defaults:=.none,kwdefaults:=.none,doc:=.none,pyModule:=.none,annotations:=none,code:=.none,closureTuple:=.none,builtins:=0 }),#[]⟩
noncomputable def wmR (P:Params):Obj:=⟨(.type "code"),none,(.fields #[(sV "_law_written" 2423),(sV "_law_written" 2424),(sV "/claim/cut.py" 2425),(.int 160 0),(.int 1 0),i0,i0,(.int 3 0),(.ref 214),(.bool true),(.int 181 0),(.ref 215),.none,.none,.none,(.ref 216),(.int 2426 0),(.int 160 0),(sV "/claim/cut.py" 2427)]),#[]⟩
noncomputable def wmQ (P:Params):Obj:=⟨(.type "function"),none,(.func { name:=(Str.ofString "_law_written"),qualname:=(Str.ofString "_law_written"),params:=fnPar (st 17),body:=.stmts (fnBody (st 17)),scope:=fnScope (st 17),globals:=3,closure:=[],defaults:=.none,kwdefaults:=.none,doc:=.none,pyModule:=(sV "law_xb0039_02" 2387),annotations:=none,code:=(.ref 217),closureTuple:=.none,builtins:=0 }),#[]⟩
noncomputable def wmP (P:Params):Obj:=oE
noncomputable def wmO (P:Params):Obj:=⟨.none,none,(.fields #[]),#[]⟩
noncomputable def wmN (P:Params):Obj:=⟨.none,none,(.func { name:=(Str.ofString "law"),qualname:=(Str.ofString "law"),params:=fnPar (st 18),body:=.stmts (fnBody (st 18)),scope:=fnScope (st 18),globals:=0,closure:=[],defaults:=.none,kwdefaults:=.none,doc:=.none,pyModule:=.none,annotations:=none,code:=.none,closureTuple:=.none,builtins:=0 }),#[]⟩
noncomputable def wmM (P:Params):Obj:=⟨(.type "code"),none,(.fields #[(sV "law" 2429),(sV "law" 2430),(sV "/claim/cut.py" 2431),(.int 175 0),(.int 1 0),i0,i0,(.int 3 0),(.ref 219),(.bool true),(.int 181 0),(.ref 220),.none,.none,.none,(.ref 221),(.int 2432 0),(.int 175 0),(sV "/claim/cut.py" 2433)]),#[]⟩
noncomputable def wmL (P:Params):Obj:=⟨(.type "function"),none,(.func { name:=(Str.ofString "law"),qualname:=(Str.ofString "law"),params:=fnPar (st 18),body:=.stmts (fnBody (st 18)),scope:=fnScope (st 18),globals:=3,closure:=[],defaults:=.none,kwdefaults:=.none,doc:=.none,pyModule:=(sV "law_xb0039_02" 2387),annotations:=none,code:=(.ref 222),closureTuple:=.none,builtins:=0 }),#[]⟩
noncomputable def T8 (P:Params):BT:=(.node (boot_o_0 P) (.node (boot_o_1 P) (.node (wkN P) (.node (boot_o_7 P) (.node (wfY P) (.node (wfK P) (.node (wfs P) (uL (wh4 P)) (uL (wnh P))) (.node (wgT P) (uL (wlt P)) (uL (wmL P)))) (.node (whd P) (.node (wgZ P) (uL (wlJ P)) (uL (wm1 P))) (.node (wij P) (uL (wld P)) .nil))) (.node (wfQ P) (.node (wfC P) (.node (wfk P) (uL (whX P)) (uL (wm9 P))) (.node (wfb P) (uL (wll P)) .nil)) (.node (wg5 P) (.node (wjt P) (uL (wlB P)) (uL (wmT P))) (.node (wic P) (uL (wnp P)) .nil)))) (.node (wcw P) (.node (wfU P) (.node (wfG P) (.node (wfo P) (uL (wh1 P)) (uL (wnd P))) (.node (wgP P) (uL (wlp P)) .nil)) (.node (wg9 P) (.node (wjx P) (uL (wlF P)) (uL (wmX P))) (.node (wig P) (uL (wk9 P)) .nil))) (.node (web P) (.node (wfy P) (.node (wfg P) (uL (whT P)) (uL (wm5 P))) (.node (we7 P) (uL (wlh P)) .nil)) (.node (wfw P) (.node (wgX P) (uL (wlx P)) (uL (wmP P))) (.node (wh8 P) (uL (wnl P)) .nil))))) (.node (boot_o_5 P) (.node (boot_o_9 P) (.node (wfW P) (.node (wfI P) (.node (wfq P) (uL (wh2 P)) (uL (wnf P))) (.node (wgR P) (uL (wlr P)) .nil)) (.node (whb P) (.node (wjz P) (uL (wlH P)) (uL (wmZ P))) (.node (wih P) (uL (wlb P)) .nil))) (.node (wfO P) (.node (wfA P) (.node (wfi P) (uL (whV P)) (uL (wm7 P))) (.node (we9 P) (uL (wlj P)) .nil)) (.node (wg3 P) (.node (wjr P) (uL (wlz P)) (uL (wmR P))) (.node (wia P) (uL (wnn P)) .nil)))) (.node (wdF P) (.node (wfS P) (.node (wfE P) (.node (wfm P) (uL (whZ P)) (uL (wnb P))) (.node (wfd P) (uL (wln P)) .nil)) (.node (wg7 P) (.node (wjv P) (uL (wlD P)) (uL (wmV P))) (.node (wie P) (uL (wnr P)) .nil))) (.node (wfM P) (.node (whf P) (.node (wg1 P) (uL (whg P)) (uL (wm3 P))) (.node (wik P) (uL (wlf P)) .nil)) (.node (wfu P) (.node (wgV P) (uL (wlv P)) (uL (wmN P))) (.node (wh6 P) (uL (wnj P)) .nil)))))) (.node (boot_o_2 P) (.node (boot_o_4 P) (.node (boot_o_8 P) (.node (wfX P) (.node (wfJ P) (.node (wfr P) (uL (wh3 P)) (uL (wng P))) (.node (wgS P) (uL (wls P)) .nil)) (.node (whc P) (.node (wgY P) (uL (wlI P)) (uL (wm0 P))) (.node (wii P) (uL (wlc P)) .nil))) (.node (wfP P) (.node (wfB P) (.node (wfj P) (uL (whW P)) (uL (wm8 P))) (.node (wfa P) (uL (wlk P)) .nil)) (.node (wg4 P) (.node (wjs P) (uL (wlA P)) (uL (wmS P))) (.node (wib P) (uL (wno P)) .nil)))) (.node (wo0 P) (.node (wfT P) (.node (wfF P) (.node (wfn P) (uL (wh0 P)) (uL (wnc P))) (.node (wfe P) (uL (wlo P)) .nil)) (.node (wg8 P) (.node (wjw P) (uL (wlE P)) (uL (wmW P))) (.node (wif P) (uL (wns P)) .nil))) (.node (wea P) (.node (wfx P) (.node (wff P) (uL (whS P)) (uL (wm4 P))) (.node (we6 P) (uL (wlg P)) .nil)) (.node (wfv P) (.node (wgW P) (uL (wlw P)) (uL (wmO P))) (.node (wh7 P) (uL (wnk P)) .nil))))) (.node (boot_o_6 P) (.node (boot_o_10 P) (.node (wfV P) (.node (wfH P) (.node (wfp P) (uL (wd0 P)) (uL (wne P))) (.node (wgQ P) (uL (wlq P)) .nil)) (.node (wha P) (.node (wjy P) (uL (wlG P)) (uL (wmY P))) (.node (wd1 P) (uL (wla P)) .nil))) (.node (wfN P) (.node (wfz P) (.node (wfh P) (uL (whU P)) (uL (wm6 P))) (.node (we8 P) (uL (wli P)) .nil)) (.node (wg2 P) (.node (wjq P) (uL (wly P)) (uL (wmQ P))) (.node (wh9 P) (uL (wnm P)) .nil)))) (.node (wcW P) (.node (wfR P) (.node (wfD P) (.node (wfl P) (uL (whY P)) (uL (wna P))) (.node (wfc P) (uL (wlm P)) .nil)) (.node (wg6 P) (.node (wju P) (uL (wlC P)) (uL (wmU P))) (.node (wid P) (uL (wnq P)) .nil))) (.node (wfL P) (.node (whe P) (.node (wg0 P) (uL (wlK P)) (uL (wm2 P))) (.node (we5 P) (uL (wle P)) .nil)) (.node (wft P) (.node (wgU P) (uL (wlu P)) (uL (wmM P))) (.node (wh5 P) (uL (wni P)) .nil)))))))
noncomputable def n8:Nat:=224
noncomputable def tok8:Nat:=2435
noncomputable def pos8:Pos:=⟨175,0,189,29⟩
noncomputable def fragL (P:Params):List (Nat×Obj):=[(0,boot_o_0 P),(1,boot_o_1 P),(2,boot_o_2 P),(3,wkN P),(4,boot_o_4 P),(5,boot_o_5 P),(6,boot_o_6 P),(7,boot_o_7 P),(8,boot_o_8 P),(9,boot_o_9 P),(10,boot_o_10 P),(11,wcw P),(12,wo0 P),(13,wdF P),(14,wcW P),(15,wfY P),(16,wfX P),(17,wfW P),(18,wfV P),(19,wfU P),(20,wfT P),(21,wfS P),(22,wfR P),(23,wfQ P),(24,wfP P),(25,wfO P),(26,wfN P),(27,web P),(28,wea P),(29,wfM P),(30,wfL P),(31,wfK P),(32,wfJ P),(33,wfI P),(34,wfH P),(35,wfG P),(36,wfF P),(37,wfE P),(38,wfD P),(39,wfC P),(40,wfB P),(41,wfA P),(42,wfz P),(43,wfy P),(44,wfx P),(45,whf P),(46,whe P),(47,whd P),(48,whc P),(49,whb P),(50,wha P),(51,wg9 P),(52,wg8 P),(53,wg7 P),(54,wg6 P),(55,wg5 P),(56,wg4 P),(57,wg3 P),(58,wg2 P),(59,wfw P),(60,wfv P),(61,wfu P),(62,wft P),(63,wfs P),(64,wfr P),(65,wfq P),(66,wfp P),(67,wfo P),(68,wfn P),(69,wfm P),(70,wfl P),(71,wfk P),(72,wfj P),(73,wfi P),(74,wfh P),(75,wfg P),(76,wff P),(77,wg1 P),(78,wg0 P),(79,wgZ P),(80,wgY P),(81,wjz P),(82,wjy P),(83,wjx P),(84,wjw P),(85,wjv P),(86,wju P),(87,wjt P),(88,wjs P),(89,wjr P),(90,wjq P),(91,wgX P),(92,wgW P),(93,wgV P),(94,wgU P),(95,wgT P),(96,wgS P),(97,wgR P),(98,wgQ P),(99,wgP P),(100,wfe P),(101,wfd P),(102,wfc P),(103,wfb P),(104,wfa P),(105,we9 P),(106,we8 P),(107,we7 P),(108,we6 P),(109,wik P),(110,we5 P),(111,wij P),(112,wii P),(113,wih P),(114,wd1 P),(115,wig P),(116,wif P),(117,wie P),(118,wid P),(119,wic P),(120,wib P),(121,wia P),(122,wh9 P),(123,wh8 P),(124,wh7 P),(125,wh6 P),(126,wh5 P),(127,wh4 P),(128,wh3 P),(129,wh2 P),(130,wd0 P),(131,wh1 P),(132,wh0 P),(133,whZ P),(134,whY P),(135,whX P),(136,whW P),(137,whV P),(138,whU P),(139,whT P),(140,whS P),(141,whg P),(142,wlK P),(143,wlJ P),(144,wlI P),(145,wlH P),(146,wlG P),(147,wlF P),(148,wlE P),(149,wlD P),(150,wlC P),(151,wlB P),(152,wlA P),(153,wlz P),(154,wly P),(155,wlx P),(156,wlw P),(157,wlv P),(158,wlu P),(159,wlt P),(160,wls P),(161,wlr P),(162,wlq P),(163,wlp P),(164,wlo P),(165,wln P),(166,wlm P),(167,wll P),(168,wlk P),(169,wlj P),(170,wli P),(171,wlh P),(172,wlg P),(173,wlf P),(174,wle P),(175,wld P),(176,wlc P),(177,wlb P),(178,wla P),(179,wk9 P),(180,wns P),(181,wnr P),(182,wnq P),(183,wnp P),(184,wno P),(185,wnn P),(186,wnm P),(187,wnl P),(188,wnk P),(189,wnj P),(190,wni P),(191,wnh P),(192,wng P),(193,wnf P),(194,wne P),(195,wnd P),(196,wnc P),(197,wnb P),(198,wna P),(199,wm9 P),(200,wm8 P),(201,wm7 P),(202,wm6 P),(203,wm5 P),(204,wm4 P),(205,wm3 P),(206,wm2 P),(207,wm1 P),(208,wm0 P),(209,wmZ P),(210,wmY P),(211,wmX P),(212,wmW P),(213,wmV P),(214,wmU P),(215,wmT P),(216,wmS P),(217,wmR P),(218,wmQ P),(219,wmP P),(220,wmO P),(221,wmN P),(222,wmM P),(223,wmL P)]
theorem wrK (w:World):(fun os=>topGo treeTable prog w 11 ann0 12 ⟨boot_heap w.params,Array.mk [],boot_drawn,boot_toks,os⟩ (topStub prog)) =
  fun os=>some (⟨⟨Array.mk (wnR w.params),{}⟩,Array.mk [],boot_drawn,tokA,os⟩,(⟨denote treeTable wag,wag,posA,[topFrame posQ]⟩:Thread)):=by
 kernel_rfl!
theorem wpN (w:World):(fun os=>segRun treeTable prog w 11 ann0 1 1 ⟨⟨Array.mk (wnR w.params),{}⟩,Array.mk [],boot_drawn,tokA,os⟩ (blockOf (behindTheImports prog) env0 wag posA [topFrame posQ])) =
  fun os=>some (.next,(SAt T0 n0 tokA w os).abs,wag,pos0):=by
 kernel_rfl!
noncomputable def sts1:List Stmt:=[st 0]
theorem wrT (w:World):∀ os:OsState,Option.map (fun r=>r) (PySem.W.Fast.tw10110043849684766642 PySem.W.Fast.tw14364793385576792824 prog w 11 ann0 1 10 (SAt T0 n0 tokA w os) (piecesOf sts1 env0 wag pos0 [topFrame posQ]))=some (Flow.next,SAt T1 n1 tok1 w os,wag,pos1):=by
 intro os;kernel_rfl!
theorem wsV (w:World):(fun os=>segRunT treeTable prog w 11 ann0 1 10 (SAt T0 n0 tokA w os) (piecesOf sts1 env0 wag pos0 [topFrame posQ])) =
  fun os=>some (.next,SAt T1 n1 tok1 w os,wag,pos1):=by
 rw [PySem.W.Fast.te10110043849684766642,PySem.W.Fast.te14364793385576792824]
 funext os
 have h:=wrT w os
 rwa [Option.map_id']at h
noncomputable def sts2:List Stmt:=[st 1]
theorem wrS (w:World):∀ os:OsState,Option.map (fun r=>r) (PySem.W.Fast.tw10110043849684766642 PySem.W.Fast.tw14364793385576792824 prog w 11 ann0 1 499 (SAt T1 n1 tok1 w os) (piecesOf sts2 env0 wag pos1 [topFrame posQ]))=some (Flow.next,SAt T2 n2 tok2 w os,wag,pos2):=by
 refine byRow2 "special-get-raises" (P:=fun w=>∀ os:OsState,Option.map (fun r=>r) (PySem.W.Fast.tw10110043849684766642 PySem.W.Fast.tw14364793385576792824 prog w 11 ann0 1 499 (SAt T1 n1 tok1 w os) (piecesOf sts2 env0 wag pos1 [topFrame posQ]))=some (Flow.next,SAt T2 n2 tok2 w os,wag,pos2)) (fun w=>?_) (fun w=>?_) w
 ·intro os;kernel_rfl!
 ·intro os;kernel_rfl!
theorem wsU (w:World):(fun os=>segRunT treeTable prog w 11 ann0 1 499 (SAt T1 n1 tok1 w os) (piecesOf sts2 env0 wag pos1 [topFrame posQ])) =
  fun os=>some (.next,SAt T2 n2 tok2 w os,wag,pos2):=by
 rw [PySem.W.Fast.te10110043849684766642,PySem.W.Fast.te14364793385576792824]
 funext os
 have h:=wrS w os
 rwa [Option.map_id']at h
noncomputable def sts3:List Stmt:=[st 2]
theorem wrR (w:World):∀ os:OsState,Option.map (fun r=>r) (PySem.W.Fast.tw10110043849684766642 PySem.W.Fast.tw14364793385576792824 prog w 11 ann0 1 10 (SAt T2 n2 tok2 w os) (piecesOf sts3 env0 wag pos2 [topFrame posQ]))=some (Flow.next,SAt T3 n3 tok3 w os,wag,pos3):=by
 intro os;kernel_rfl!
theorem wsT (w:World):(fun os=>segRunT treeTable prog w 11 ann0 1 10 (SAt T2 n2 tok2 w os) (piecesOf sts3 env0 wag pos2 [topFrame posQ])) =
  fun os=>some (.next,SAt T3 n3 tok3 w os,wag,pos3):=by
 rw [PySem.W.Fast.te10110043849684766642,PySem.W.Fast.te14364793385576792824]
 funext os
 have h:=wrR w os
 rwa [Option.map_id']at h
noncomputable def sts4:List Stmt:=[st 3,st 4,st 5,st 6]
theorem wrQ (w:World):∀ os:OsState,Option.map (fun r=>r) (PySem.W.Fast.tw10110043849684766642 PySem.W.Fast.tw14364793385576792824 prog w 11 ann0 1 333 (SAt T3 n3 tok3 w os) (piecesOf sts4 env0 wag pos3 [topFrame posQ]))=some (Flow.next,SAt T4 n4 tok4 w os,wag,pos4):=by
 intro os;kernel_rfl!
theorem wsS (w:World):(fun os=>segRunT treeTable prog w 11 ann0 1 333 (SAt T3 n3 tok3 w os) (piecesOf sts4 env0 wag pos3 [topFrame posQ])) =
  fun os=>some (.next,SAt T4 n4 tok4 w os,wag,pos4):=by
 rw [PySem.W.Fast.te10110043849684766642,PySem.W.Fast.te14364793385576792824]
 funext os
 have h:=wrQ w os
 rwa [Option.map_id']at h
noncomputable def sts5:List Stmt:=[st 7]
theorem wrP (w:World):∀ os:OsState,Option.map (fun r=>r) (PySem.W.Fast.tw10110043849684766642 PySem.W.Fast.tw14364793385576792824 prog w 11 ann0 1 999 (SAt T4 n4 tok4 w os) (piecesOf sts5 env0 wag pos4 [topFrame posQ]))=some (Flow.next,SAt T5 n5 tok5 w os,wag,pos5):=by
 refine byRow2 "set-order" (P:=fun w=>∀ os:OsState,Option.map (fun r=>r) (PySem.W.Fast.tw10110043849684766642 PySem.W.Fast.tw14364793385576792824 prog w 11 ann0 1 999 (SAt T4 n4 tok4 w os) (piecesOf sts5 env0 wag pos4 [topFrame posQ]))=some (Flow.next,SAt T5 n5 tok5 w os,wag,pos5)) (fun w=>?_) (fun w=>?_) w
 ·refine byRow2 "special-get-raises" (P:=fun w=>∀ os:OsState,Option.map (fun r=>r) (PySem.W.Fast.tw10110043849684766642 PySem.W.Fast.tw14364793385576792824 prog (w.withFollow "set-order" false) 11 ann0 1 999 (SAt T4 n4 tok4 (w.withFollow "set-order" false) os) (piecesOf sts5 env0 wag pos4 [topFrame posQ]))=some (Flow.next,SAt T5 n5 tok5 (w.withFollow "set-order" false) os,wag,pos5)) (fun w=>?_) (fun w=>?_) w
  ·intro os;kernel_rfl!
  ·intro os;kernel_rfl!
 ·refine byRow2 "special-get-raises" (P:=fun w=>∀ os:OsState,Option.map (fun r=>r) (PySem.W.Fast.tw10110043849684766642 PySem.W.Fast.tw14364793385576792824 prog (w.withFollow "set-order" true) 11 ann0 1 999 (SAt T4 n4 tok4 (w.withFollow "set-order" true) os) (piecesOf sts5 env0 wag pos4 [topFrame posQ]))=some (Flow.next,SAt T5 n5 tok5 (w.withFollow "set-order" true) os,wag,pos5)) (fun w=>?_) (fun w=>?_) w
  ·intro os;kernel_rfl!
  ·intro os;kernel_rfl!
theorem wsR (w:World):(fun os=>segRunT treeTable prog w 11 ann0 1 999 (SAt T4 n4 tok4 w os) (piecesOf sts5 env0 wag pos4 [topFrame posQ])) =
  fun os=>some (.next,SAt T5 n5 tok5 w os,wag,pos5):=by
 rw [PySem.W.Fast.te10110043849684766642,PySem.W.Fast.te14364793385576792824]
 funext os
 have h:=wrP w os
 rwa [Option.map_id']at h
noncomputable def sts6:List Stmt:=[st 8]
theorem wrO (w:World):∀ os:OsState,Option.map (fun r=>r) (PySem.W.Fast.tw10110043849684766642 PySem.W.Fast.tw14364793385576792824 prog w 11 ann0 1 30 (SAt T5 n5 tok5 w os) (piecesOf sts6 env0 wag pos5 [topFrame posQ]))=some (Flow.next,SAt T6 n6 tok6 w os,wag,pos6):=by
 intro os;kernel_rfl!
theorem wsQ (w:World):(fun os=>segRunT treeTable prog w 11 ann0 1 30 (SAt T5 n5 tok5 w os) (piecesOf sts6 env0 wag pos5 [topFrame posQ])) =
  fun os=>some (.next,SAt T6 n6 tok6 w os,wag,pos6):=by
 rw [PySem.W.Fast.te10110043849684766642,PySem.W.Fast.te14364793385576792824]
 funext os
 have h:=wrO w os
 rwa [Option.map_id']at h
noncomputable def sts8:List Stmt:=[st 10,st 11,st 12,st 13,st 14,st 15,st 16,st 17,st 18]
theorem wrN (w:World):∀ os:OsState,Option.map (fun r=>r) (PySem.W.Fast.tw10110043849684766642 PySem.W.Fast.tw14364793385576792824 prog w 11 ann0 1 228 (SAt T7 n7 tok7 w os) (piecesOf sts8 env0 wag pos7 [topFrame posQ]))=some (Flow.next,SAt T8 n8 tok8 w os,wag,pos8):=by
 intro os;kernel_rfl!
theorem wsO (w:World):(fun os=>segRunT treeTable prog w 11 ann0 1 228 (SAt T7 n7 tok7 w os) (piecesOf sts8 env0 wag pos7 [topFrame posQ])) =
  fun os=>some (.next,SAt T8 n8 tok8 w os,wag,pos8):=by
 rw [PySem.W.Fast.te10110043849684766642,PySem.W.Fast.te14364793385576792824]
 funext os
 have h:=wrN w os
 rwa [Option.map_id']at h
noncomputable def TD (P:Params):BT:=(.node (boot_o_0 P) (.node (boot_o_1 P) (.node (wrn P) (u37 P) (u38 P)) (u39 P)) (u40 P))
noncomputable def tokD:Nat:=tok7 - 1
theorem wrF:st 9=.Assign (dTgts (st 9)) (.Dict (dictKeys (st 9)) (dictVals (st 9)) (dPos (st 9))) (sPos (st 9)):=by kernel_rfl!
theorem wrV:okPairs (dictKeys (st 9)) (dictVals (st 9))=true:=by kernel_rfl!
theorem wn6:rises (-1) dictL=true:=by decide +kernel
theorem wlQ:dictL.length=650:=by kernel_rfl!
theorem wpd (w:World) (os:OsState):loopS dictL [] none (SAt T6 n6 tok6 w os)=(some (141,allTo 38),SAt TD n7 tokD w os):=by kernel_rfl!
theorem wou (P:Params):braunB (T6 P) n6=true:=by kernel_rfl!
theorem woJ:dTgts (st 9)=[.Name (Str.ofString "b3_exceptions") (nPos (dTgts (st 9)))]:=by kernel_rfl!
theorem wp6 (w:World):(fun (q:Pos) (os:OsState)=>segRunT treeTable prog w 11 ann0 1 30 (SAt TD n7 tokD w os) ⟨(dictTail (Str.ofString "b3_exceptions") (nPos (dTgts (st 9))) env0 (.ref 141)).wrap doneF deadEnd id id,wag,q,[topFrame posQ]⟩) =
  fun q os=>some (Flow.next,SAt T7 n7 tok7 w os,wag,pos7):=by
 rw [PySem.W.Fast.te10110043849684766642,PySem.W.Fast.te14364793385576792824]
 kernel_rfl!
noncomputable def sts7:List Stmt:=[st 9]
theorem wsP (w:World):(fun os=>segRunT treeTable prog w 11 ann0 1 26100 (SAt T6 n6 tok6 w os) (piecesOf sts7 env0 wag pos6 [topFrame posQ])) =
  fun os=>some (.next,SAt T7 n7 tok7 w os,wag,pos7):=by
 funext os
 have h1:EvT prog w 11 ann0 (standAt (sPos (st 9)) >>= fun _=>standAt (dPos (st 9)) >>= fun _=>dictDisplay (dictL.map (mkItem (dPos (st 9))))) (SAt T6 n6 tok6 w os) (.ref 141) (SAt TD n7 tokD w os) (1+(1+40 * dictL.length)):=by
  refine EvT.bind (EvT.standAt _) (EvT.bind (EvT.standAt _) ?_)
  exact won (b:=-1) (wou w.params) (show 11<=n6 by decide) (show sysModules<n6 by decide) wn6 (by rw [wlQ];decide) (wpd w os)
 obtain ⟨q,n,hn,e⟩:=h1 (fun v=>(dictTail (Str.ofString "b3_exceptions") (nPos (dTgts (st 9))) env0 v).wrap doneF deadEnd id id) deadEnd id id wag pos6 [topFrame posQ] (by simp)
 have e':=wgI e (congrFun (congrFun (wp6 w) q) os)
 have hl:1+(1+40 * dictL.length)=26002:=by rw [wlQ]
 rw [hl]at hn
 have e2:=wgJ (26100 - (n+30)) _ _ _ _ e'
 rw [show n+30+(26100 - (n+30))=26100 by omega]at e2
 rw [<- e2]
 have:execs sts7 env0=(standAt (sPos (st 9)) >>= fun _=>standAt (dPos (st 9)) >>= fun _=>dictDisplay (dictL.map (mkItem (dPos (st 9))))) >>= fun v=>dictTail (Str.ofString "b3_exceptions") (nPos (dTgts (st 9))) env0 v:=by
  show execs [st 9] env0=_
  rw [wrF,woJ,wpt]
  have hi:=wqL (env:=env0) (q:=dPos (st 9)) _ _ wrV
  rw [hi]
  rfl
 show segRunT treeTable prog w 11 ann0 1 26100 _ ⟨(execs sts7 env0).wrap doneF deadEnd id id,wag,pos6,[topFrame posQ]⟩=_
 rw [this,Sem.bind_eq_wrap',Sem.wrap_wrap]
 rfl
noncomputable def bodyL:List Stmt:=sts1++(sts2++(sts3++(sts4++(sts5++(sts6++(sts7++(sts8++[])))))))
theorem wss:behindTheImports prog=bodyL:=by kernel_rfl!
theorem wsf (w:World):(fun os=>topRun treeTable prog w 11 ann0 2 (SAt T8 n8 tok8 w os).abs ⟨doneF .next,wag,pos8,[topFrame posQ]⟩)=fun os=>some (SAt T8 n8 tok8 w os).abs:=by
 kernel_rfl!
noncomputable def fuelM:Nat:=12+(1+(10+(499+(10+(333+(999+(30+(26100+(228+2)))))))))
theorem wrI (w:World) (os:OsState):topRun treeTable prog w 11 ann0 fuelM ⟨boot_heap w.params,Array.mk [],boot_drawn,boot_toks,os⟩ (topStub prog)=some (SAt T8 n8 tok8 w os).abs:=by
 refine go_top (congrFun (wrK w) os) ?_
 show topRun treeTable prog w 11 ann0 _ _ ⟨denote treeTable (.body (behindTheImports prog) env0),wag,posA,[topFrame posQ]⟩=_
 refine piece_block (congrFun (wpN w) os) ?_
 rw [wss]
 refine piece_app (segRun_of (congrFun (wsV w) os)) ?_
 refine piece_app (segRun_of (congrFun (wsU w) os)) ?_
 refine piece_app (segRun_of (congrFun (wsT w) os)) ?_
 refine piece_app (segRun_of (congrFun (wsS w) os)) ?_
 refine piece_app (segRun_of (congrFun (wsR w) os)) ?_
 refine piece_app (segRun_of (congrFun (wsQ w) os)) ?_
 refine piece_app (segRun_of (congrFun (wsP w) os)) ?_
 refine piece_app (segRun_of (congrFun (wsO w) os)) ?_
 exact piece_nil (congrFun (wsf w) os)
noncomputable def lawQ:Program:={ prog with main:={ prog.main with body:=[st 18] } }
noncomputable def looseQ:List Str:=[Str.ofString "Whitespace",Str.ofString "TupleComp",Str.ofString "add_callers",Str.ofString "count_calls",Str.ofString "b1_set",Str.ofString "in_table_b1",Str.ofString "b3_exceptions",Str.ofString "map_table_b3",Str.ofString "_law_word",Str.ofString "_law_laid",Str.ofString "_law_gaps",Str.ofString "_law_lead",Str.ofString "_law_column",Str.ofString "_law_written"]
noncomputable def asL:List Addr:=List.range n8
theorem wpr (P:Params):asL=(fragL P).map (·.1):=by kernel_rfl!
noncomputable def hookK:Hook:=kHook fragL asL wpr
theorem wuj (w:World):(fun os:OsState=>(staticsOk (importedModules prog.main.body) (boot_heap w.params) (absHeap (T8 w.params) n8 {})&&namesBound prog (absHeap (T8 w.params) n8 {})&&gensDone ⟨absHeap (T8 w.params) n8 {},Array.mk [],boot_drawn,tok8,os⟩&&laidKept (boot_heap w.params) (absHeap (T8 w.params) n8 {})))=fun _=>true:=by
 kernel_rfl!
theorem wui (w:World):(fun os:OsState=>openSeen lawQ looseQ (importedModules prog.main.body) (fun _=>true) true ⟨absHeap (T8 w.params) n8 {},Array.mk [],boot_drawn,tok8,os⟩)=fun _=>openGood lawQ looseQ:=by
 kernel_rfl!
theorem wuh (w:World):(fun os:OsState=>hookK.obs ⟨absHeap (T8 w.params) n8 {},Array.mk [],boot_drawn,tok8,os⟩)=fun _=>hookK.val w:=by
 kernel_rfl!
theorem wqd (w:World):((boot_heap w.params).isNs mainGlobals&&(Array.mk ([]:List GenState)).size==0,(boot_heap w.params).objs.size,(boot_heap w.params).nsMap mainGlobals "__annotations__")=(true,11,ann0):=by
 kernel_rfl!
theorem woX:∀ w:World,(fencedOpening treeTable prog w 60000).map (fun s=>(s.heap,s.gens,s.drawn,s.toks))=some (boot_heap w.params,Array.mk [],boot_drawn,boot_toks):=
 boot_open (by kernel_rfl!) (by decide) (fun s=>rfl)
theorem left_top:LeftO prog lawQ looseQ (fun _=>true) hookK.obs hookK.val 60000:=
 LeftO.of_pieces (H₀:=boot_heap) (H₁:=fun P=>absHeap (T8 P) n8 {}) (gs₀:=Array.mk []) (gs₁:=Array.mk []) (d₀:=boot_drawn) (d₁:=boot_drawn) (k₀:=boot_toks) (k₁:=tok8) (m₀:=11) (ann:=ann0) (M:=fuelM)
  woX wqd wrI (by decide) (fun w=>by
   funext os
   exact Prod.ext (congrFun (wuj w) os) (Prod.ext (congrFun (wui w) os) (congrFun (wuh w) os)))
end Mine
end
end
section
namespace Mine.Py
open PySem
theorem viaG {P:Prop} (h:∀ G:Prop,(P->G)->G):P:=h P id
theorem sub1 {n j k:Nat} (h:n - j=k+1):n - (j+1)=k:=congrArg Nat.pred h
theorem ltSub {n j k:Nat} (h:n - j=k+1):j<n:=Nat.lt_of_sub_pos (h ▸ Nat.succ_pos k)
theorem leSub {n j:Nat} (h:n - j=0):n<=j:=Nat.le_of_sub_eq_zero h
theorem subLt {n i:Nat} (h:i<n):n+1 - (i+1)<n+1 - i:=Nat.sub_lt_sub_left (Nat.lt_succ_of_lt h) (Nat.lt_succ_self i)
noncomputable abbrev Tx:=List Nat
noncomputable abbrev mk (x:Tx):Str:=⟨x.toArray⟩
inductive Key where
 | i (n:Int) | s (x:Tx)
 deriving DecidableEq
inductive D where
 | none | bool (b:Bool) | int (i:Int) | str (x:Tx) | list (xs:List D) | tuple (xs:List D)
 | dict (kvs:List (Key×D)) | obj (c:Str) (fs:List (Str×D)) | set (xs:List Int)
section
variable {α β:Type}
noncomputable def optK (o:Option β) (k:β->Option α):Option α:=match o with
 | some b=>k b
 | none=>none
noncomputable def boolK (d:D) (k:Bool->Option α):Option α:=match d with
 | .bool b=>k b
 | _=>none
noncomputable def intK (d:D) (k:Int->Option α):Option α:=match d with
 | .int b=>k b
 | _=>none
noncomputable def strK (d:D) (k:Tx->Option α):Option α:=match d with
 | .str b=>k b
 | _=>none
noncomputable def listK (d:D) (k:List D->Option α):Option α:=match d with
 | .list b=>k b
 | _=>none
noncomputable def tupK (d:D) (k:List D->Option α):Option α:=match d with
 | .tuple b=>k b
 | _=>none
noncomputable def dictK (d:D) (k:List (Key×D)->Option α):Option α:=match d with
 | .dict b=>k b
 | _=>none
noncomputable def objK (d:D) (k:Str->List (Str×D)->Option α):Option α:=match d with
 | .obj c fs=>k c fs
 | _=>none
noncomputable def nilK (l:List D) (x:Option α):Option α:=match l with
 | []=>x
 | _=>none
noncomputable def unK (l:List D) (k:D->List D->Option α):Option α:=match l with
 | a::r=>k a r
 | []=>none
noncomputable def unN:Nat->List D->(List D->Option α)->Option α
 | 0,l,k=>nilK l (k [])
 | n+1,l,k=>unK l fun a l=>unN n l fun ds=>k (a::ds)
noncomputable def wbR (d:D) (k:D->D->Option α):Option α:=tupK d fun l=>unK l fun a l=>unK l fun b l=>nilK l (k a b)
noncomputable def wgD (d:D) (k:D->D->D->Option α):Option α:=tupK d fun l=>unK l fun a l=>unK l fun b l=>unK l fun c l=>nilK l (k a b c)
noncomputable def woF (d:D) (k:D->D->D->D->Option α):Option α:=tupK d fun l=>unK l fun a l=>unK l fun b l=>unK l fun c l=>unK l fun e l=>nilK l (k a b c e)
variable {P:Prop} {r:α}
theorem noneE (h:none=some r):P:=nomatch h
theorem ffE (h:false=true):P:=nomatch h
theorem consE {a:α} {l:List α} (h:[]=a::l):P:=nomatch h
theorem memE {a:α} (h:a∈[]):P:=nomatch h
theorem succE {n:Nat} (h:0=n+1):P:=nomatch h
theorem wav {a:α}:some a≠none:=fun h=>noneE h.symm
theorem someE {a b:α} (h:some a=some b) (f:a=b->P):P:=f (Option.some.inj h)
theorem bindE {o:Option β} {k:β->Option α} (h:o.bind k=some r) (f:∀ b,o=some b->k b=some r->P):P:=by
 cases o with
 | none=>exact noneE h
 | some b=>exact f b rfl h
theorem mapE {o:Option β} {k:β->α} (h:o.map k=some r) (f:∀ b,o=some b->k b=r->P):P:=by
 cases o with
 | none=>exact noneE h
 | some b=>exact f b rfl (Option.some.inj h)
theorem optE {o:Option β} {k:β->Option α} (h:optK o k=some r) (f:∀ b,o=some b->k b=some r->P):P:=by
 cases o with
 | none=>exact noneE h
 | some b=>exact f b rfl h
theorem iteE {c:Prop} [i:Decidable c] {x y:Option α} (h:(if c then x else y)=some r) (f:c->x=some r->P) (g:¬ c->y=some r->P):P:=by
 cases i with
 | isTrue q=>exact f q h
 | isFalse q=>exact g q h
theorem ifE {c:Prop} [Decidable c] {x:Option α} (h:(if c then x else none)=some r) (f:c->x=some r->P):P:=iteE h f fun _=>noneE
theorem nifE {c:Prop} [Decidable c] {x:Option α} (h:(if c then none else x)=some r) (f:¬ c->x=some r->P):P:=iteE h (fun _=>noneE) f
theorem andE {a b:Bool} (h:(a&&b)=true) (f:a=true->b=true->P):P:=by
 cases a with
 | true=>exact f rfl h
 | false=>exact Bool.noConfusion h
theorem boolE {d:D} {k:Bool->Option α} (h:boolK d k=some r) (f:∀ b,d=.bool b->k b=some r->P):P:=by
 cases d<;>first | exact f _ rfl h | exact noneE h
theorem intE {d:D} {k:Int->Option α} (h:intK d k=some r) (f:∀ b,d=.int b->k b=some r->P):P:=by
 cases d<;>first | exact f _ rfl h | exact noneE h
theorem strE {d:D} {k:Tx->Option α} (h:strK d k=some r) (f:∀ b,d=.str b->k b=some r->P):P:=by
 cases d<;>first | exact f _ rfl h | exact noneE h
theorem listE {d:D} {k:List D->Option α} (h:listK d k=some r) (f:∀ b,d=.list b->k b=some r->P):P:=by
 cases d<;>first | exact f _ rfl h | exact noneE h
theorem tupE {d:D} {k:List D->Option α} (h:tupK d k=some r) (f:∀ b,d=.tuple b->k b=some r->P):P:=by
 cases d<;>first | exact f _ rfl h | exact noneE h
theorem dictE {d:D} {k:List (Key×D)->Option α} (h:dictK d k=some r) (f:∀ b,d=.dict b->k b=some r->P):P:=by
 cases d<;>first | exact f _ rfl h | exact noneE h
theorem objE {d:D} {k:Str->List (Str×D)->Option α} (h:objK d k=some r) (f:∀ c fs,d=.obj c fs->k c fs=some r->P):P:=by
 cases d<;>first | exact f _ _ rfl h | exact noneE h
theorem wrk (n:Nat):∀ {l:List D} {k:List D->Option α},unN n l k=some r->k l=some r:=by
 induction n with
 | zero=>intro l k h;cases l with
  | nil=>exact h
  | cons=>exact noneE h
 | succ n ih=>intro l k h;cases l with
  | nil=>exact noneE h
  | cons a l=>exact ih (k:=fun ds=>k (a::ds)) h
end
mutual
noncomputable def toPy:D->Option PyData
 | .none=>some .none
 | .bool b=>some (.bool b)
 | .int i=>some (.int i)
 | .str x=>some (.str (mk x))
 | .list xs=>(toPys xs).map .list
 | .tuple xs=>(toPys xs).map .tuple
 | .dict _=>Option.none
 | .obj _ _=>Option.none
 | .set _=>Option.none
noncomputable def toPys:List D->Option (List PyData)
 | []=>some []
 | x::xs=>(toPy x).bind fun p=>(toPys xs).map fun ps=>p::ps
end
noncomputable def kget (k:Key):List (Key×D)->Option D
 | []=>Option.none
 | (a,v)::r=>if a=k then some v else kget k r
noncomputable def khas (k:Key) (l:List (Key×D)):Bool:=(kget k l).isSome
noncomputable def kput (k:Key) (v:D):List (Key×D)->List (Key×D)
 | []=>[]
 | (a,x)::r=>if a=k then (a,v)::kput k v r else (a,x)::kput k v r
noncomputable def kset (k:Key) (v:D) (l:List (Key×D)):List (Key×D):=if khas k l then kput k v l else l++[(k,v)]
noncomputable def toKey:D->Option Key
 | .int i=>some (.i i)
 | .str x=>some (.s x)
 | _=>Option.none
noncomputable def ofKey:Key->D
 | .i n=>.int n
 | .s x=>.str x
noncomputable def eqP (a b:D):Option Bool:=(toPy a).bind fun p=>(toPy b).bind fun q=>if SeqAt.shaped p&&SeqAt.shaped q then some (PyData.eqv p q) else Option.none
noncomputable def hits (kb:List (Key×D)):List (Key×D)->Option Bool
 | []=>some true
 | (k,v)::r=>match kget k kb with
  | Option.none=>some false
  | some y=>(eqP v y).bind fun e=>(hits kb r).map fun b=>e&&b
noncomputable def eqD (a b:D):Option Bool:=match a with
 | .dict ka=>dictK b fun kb=>if ka.length=kb.length then hits kb ka else some false
 | a=>eqP a b
noncomputable def ltS (a b:D):Option Bool:=match a with
 | .int x=>intK b fun y=>some (decide (x<y))
 | .str x=>strK b fun y=>some (decide (x<y))
 | _=>none
noncomputable def eqS (a b:D):Option Bool:=match a with
 | .int x=>intK b fun y=>some (decide (x=y))
 | .str x=>strK b fun y=>some (decide (x=y))
 | _=>none
noncomputable def ltTup:List D->List D->Option Bool
 | [],[]=>some false
 | [],_::_=>some true
 | _::_,[]=>some false
 | x::xs,y::ys=>(eqS x y).bind fun e=>if e then ltTup xs ys else ltS x y
noncomputable def ltD (a b:D):Option Bool:=match a with
 | .tuple x=>tupK b fun y=>ltTup x y
 | a=>ltS a b
noncomputable def cap:Nat:=10000
noncomputable def wdD {α:Type} (a b:D) (k:Int->Int->Option α):Option α:=intK a fun x=>intK b fun y=>k x y
noncomputable def addD (a b:D):Option D:=match a with
 | .int x=>intK b fun y=>some (.int (x+y))
 | .str x=>strK b fun y=>if x.length+y.length<=cap then some (.str (x++y)) else none
 | .list x=>listK b fun y=>if x.length+y.length<=cap then some (.list (x++y)) else none
 | .tuple x=>tupK b fun y=>if x.length+y.length<=cap/\x.length≠0/\y.length≠0 then some (.tuple (x++y)) else none
 | _=>none
noncomputable def mulD (a b:D):Option D:=match a with
 | .int x=>intK b fun y=>if x.natAbs<2 ^ 60 then some (.int (x * y)) else none
 | .str x=>intK b fun y=>if x.length=1/\0<=y/\y<10000 then some (.str (List.replicate y.toNat (x.headD 0))) else none
 | .list x=>intK b fun y=>if x.length=1/\0<=y/\y<10000 then some (.list (List.replicate y.toNat (x.headD .none))) else none
 | _=>none
noncomputable def binop (op:Operator) (a b:D):Option D:=match op with
 | .Add=>addD a b
 | .Sub=>wdD a b fun x y=>some (.int (x - y))
 | .Mult=>mulD a b
 | .FloorDiv=>wdD a b fun x y=>if y≠0/\y.natAbs<2 ^ 30 then some (.int (x.fdiv y)) else none
 | .Mod=>wdD a b fun x y=>if y≠0 then some (.int (x.fmod y)) else none
 | .Pow=>wdD a b fun x y=>if 0<=y/\y<=64/\x.natAbs<2 ^ 32 then some (.int (x ^ y.toNat)) else none
 | _=>none
noncomputable def addI (a b:D):Option D:=match a with
 | .int x=>intK b fun y=>some (.int (x+y))
 | .str x=>strK b fun y=>if x.length+y.length<=cap then some (.str (x++y)) else none
 | _=>none
noncomputable def isD (a b:D):Option Bool:=match a with
 | .none=>(match b with | .none=>some true | .bool _=>some false | _=>none)
 | .bool x=>(match b with | .none=>some false | .bool y=>some (x==y) | _=>none)
 | .str _=>(match b with | .none=>some false | _=>none)
 | _=>none
noncomputable def memP (x:D):List D->Option Bool
 | []=>some false
 | y::ys=>(eqS y x).bind fun e=>(memP x ys).map fun b=>e||b
noncomputable def inD (x:D) (c:D):Option Bool:=match c with
 | .dict kvs=>(toKey x).map fun k=>khas k kvs
 | .set ys=>intK x fun i=>some (ys.contains i)
 | .list ys=>memP x ys
 | .tuple ys=>memP x ys
 | _=>none
noncomputable def cmpD (op:CmpOp) (a b:D):Option Bool:=match op with
 | .Eq=>eqD a b
 | .NotEq=>(eqD a b).map (!·)
 | .Lt=>ltS a b
 | .Gt=>ltS b a
 | .LtE=>wdD a b fun x y=>some (decide (x<=y))
 | .GtE=>wdD a b fun x y=>some (decide (x>=y))
 | .Is=>isD a b
 | .IsNot=>(isD a b).map (!·)
 | .In=>inD a b
 | .NotIn=>(inD a b).map (!·)
noncomputable def unop (op:UnaryOp) (a:D):Option D:=match op with
 | .USub=>intK a fun x=>some (.int (-x))
 | .Not=>boolK a fun b=>some (.bool (!b))
 | _=>none
noncomputable def nth {α:Type} (xs:List α) (i:Int):Option α:=
 if 0<=i then (if i<100000 then xs[i.toNat]? else Option.none) else if -(xs.length:Int)<=i/\-100000<i then xs[(i+xs.length).toNat]? else Option.none
noncomputable def cut {α:Type} (lo hi:Option Int) (xs:List α):List α:=
 let a:=lo.elim 0 (clipAt xs.length)
 let b:=hi.elim xs.length (clipAt xs.length)
 (xs.drop a).take (b - a)
noncomputable def sub (a k:D):Option D:=match a with
 | .list xs=>intK k fun i=>nth xs i
 | .tuple xs=>intK k fun i=>nth xs i
 | .str xs=>intK k fun i=>(nth xs i).map fun c=>.str [c]
 | .dict kvs=>(toKey k).bind fun k=>kget k kvs
 | _=>none
noncomputable def cutT (lo hi:Option Int) (xs:List D):Option D:=match lo with
 | some i=>(match hi with
  | none=>if 1<=i/\i<=xs.length/\xs.length<=cap then some (.tuple (xs.drop i.toNat)) else none
  | some _=>none)
 | none=>none
noncomputable def cutD (lo hi:Option Int) (a:D):Option D:=match a with
 | .list xs=>if xs.length<=cap then some (.list (cut lo hi xs)) else none
 | .tuple xs=>cutT lo hi xs
 | .str xs=>if xs.length<=cap then some (.str (cut lo hi xs)) else none
 | _=>none
noncomputable def boundOk:Option Int->Bool
 | some i=>decide (-100000<i)&&decide (i<100000)
 | Option.none=>true
noncomputable def intsOf:List D->Option (List Int)
 | []=>some []
 | d::r=>intK d fun i=>(intsOf r).map fun l=>i::l
noncomputable def txtsOf:List D->Option (List Tx)
 | []=>some []
 | d::r=>strK d fun i=>(txtsOf r).map fun l=>i::l
noncomputable def bestBy (lt:D->D->Option Bool) (best:D):List D->Option D
 | []=>some best
 | x::r=>(lt x best).bind fun b=>bestBy lt (if b then x else best) r
noncomputable def chars (x:Tx):List D:=x.map fun c=>.str [c]
noncomputable def seqOf:D->Option (List D)
 | .list xs=>some xs
 | .tuple xs=>some xs
 | .str x=>some (chars x)
 | _=>Option.none
noncomputable def intText (i:Int):Tx:=(Str.ofString (toString i)).cps.toList
inductive B where
 | len | max | min | sum | tuple | ord | chr | str | abs
 deriving DecidableEq
noncomputable def bname (f:Str):Option B:=
 if f==("len":Str) then some .len else if f==("max":Str) then some .max else if f==("min":Str) then some .min
 else if f==("sum":Str) then some .sum else if f==("tuple":Str) then some .tuple else if f==("ord":Str) then some .ord
 else if f==("chr":Str) then some .chr else if f==("str":Str) then some .str else if f==("abs":Str) then some .abs else none
noncomputable def oneK {α β:Type} (l:List β) (k:β->Option α):Option α:=match l with
 | [d]=>k d
 | _=>none
theorem oneE {α β:Type} {P:Prop} {r:α} {l:List β} {k:β->Option α} (h:oneK l k=some r) (f:∀ d,l=[d]->k d=some r->P):P:=by
 rcases l with _ | ⟨d,_ | _⟩<;>first | exact f _ rfl h | cases h
noncomputable def bestOf (lt:D->D->Option Bool) (l:List D):Option D:=match l with
 | x::r=>bestBy lt x r
 | []=>none
noncomputable def maxB (lt:D->D->Option Bool) (f:Int->Int->Int) (ds:List D):Option D:=match ds with
 | [a]=>(seqOf a).bind (bestOf lt)
 | [a,b]=>wdD a b fun x y=>some (.int (f x y))
 | _=>none
noncomputable def lenOf (d:D):Option D:=match d with
 | .list xs=>if xs.length<=cap then some (.int xs.length) else none
 | .tuple xs=>if xs.length<=cap then some (.int xs.length) else none
 | .str xs=>if xs.length<=cap then some (.int xs.length) else none
 | _=>none
noncomputable def tupleD (d:D):Option D:=match d with
 | .list xs=>if xs.length<=cap then some (.tuple xs) else none
 | .str xs=>if xs.length<=cap then some (.tuple (chars xs)) else none
 | _=>none
noncomputable def bfn (b:B) (ds:List D):Option D:=match b with
 | .len=>oneK ds lenOf
 | .max=>maxB (fun a b=>ltS b a) (fun a b=>if b > a then b else a) ds
 | .min=>maxB ltD (fun a b=>if b<a then b else a) ds
 | .sum=>oneK ds fun d=>listK d fun xs=>(intsOf xs).map fun l=>.int l.sum
 | .tuple=>oneK ds tupleD
 | .ord=>oneK ds fun d=>strK d fun x=>oneK x fun c=>some (.int (c:Nat))
 | .chr=>oneK ds fun d=>intK d fun i=>if 0<=i/\i<1114112 then some (.str [i.toNat]) else none
 | .str=>oneK ds fun d=>intK d fun i=>if i.natAbs<10 ^ 9 then some (.str (intText i)) else none
 | .abs=>oneK ds fun d=>intK d fun i=>some (.int i.natAbs)
noncomputable def joinT (sep:Tx):List Tx->Tx
 | []=>[]
 | [x]=>x
 | x::r=>x++sep++joinT sep r
inductive Mt where
 | join | get | lower
 deriving DecidableEq
noncomputable def mname (m:Str):Option Mt:=
 if m==("join":Str) then some .join else if m==("get":Str) then some .get else if m==("lower":Str) then some .lower else none
noncomputable def lowerT (x:Tx):Tx:=(PySem.Txt.lower (mk x)).cps.toList
noncomputable def getD (kvs:List (Key×D)) (ds:List D):Option D:=match ds with
 | [k]=>(toKey k).map fun k=>(kget k kvs).getD .none
 | [k,d]=>(toKey k).map fun k=>(kget k kvs).getD d
 | _=>none
noncomputable def mfn (a:D) (m:Mt) (ds:List D):Option D:=match m with
 | .join=>strK a fun sep=>oneK ds fun d=>listK d fun xs=>(txtsOf xs).bind fun l=>if (l.map List.length).sum+l.length * sep.length<=cap then some (.str (joinT sep l)) else none
 | .lower=>strK a fun x=>if ds.isEmpty=true/\(lowerT x).length<=cap then some (.str (lowerT x)) else none
 | .get=>dictK a fun kvs=>getD kvs ds
inductive Slot where
 | fz (d:D) | own (d:D)
structure Cx where
 hints:List (Nat×List Str)
 muts:List Str
structure Def where
 name:Str
 params:List Str
 body:List Stmt
 scope:Scope
 cx:Cx
structure Tab where
 fns:List (Str×Def)
 cls:List (Str×List (Str×Def))
 con:List (Str×List (Str×D))
 gl:List (Str×D)
 ats:List Str
inductive ItK where
 | plain | pairs | lst
 deriving DecidableEq
noncomputable def isGlob (sc:Scope) (x:Str):Bool:=sc.names.lookup x==some .globalImplicit&&!(x==("__debug__":Str))
noncomputable def isVar (sc:Scope) (x:Str):Bool:=match sc.names.lookup x with
 | some .local | some .cell | some .free=>!(x==("__debug__":Str))&&!(x==("__classdict__":Str))
 | _=>false
noncomputable def canSet (sc:Scope) (x:Str):Bool:=match sc.names.lookup x with
 | some .local | some .cell=>true
 | _=>false
noncomputable def isListD:D->Bool
 | .list _=>true
 | .dict _=>true
 | _=>false
noncomputable def nodupB:List Str->Bool
 | []=>true
 | x::xs=>!xs.contains x&&nodupB xs
noncomputable abbrev gk:Str:=Str.ofString "new_callers"
noncomputable def scOk (scope sc:Scope):Bool:=
 scope.kind==.function&&nodupB (scope.names.map (·.1))&&(scope.names.all fun p=>p.2 != .free||sc.names.lookup p.1==some .cell||sc.names.lookup p.1==some .free)&&scope.names.lookup gk != some .local
noncomputable def relab (scope sc:Scope):Scope:=
 { scope with names:=scope.names.map fun (n,k)=>if (k==.free&&sc.kind==.function&&sc.names.lookup n==some .cell) then (n,.cell) else (n,k) }
noncomputable def tgtOk (k:ItK) (t:Expr):Bool:=@PySem.Expr.casesOn (fun _=>_) t (fun _ _ _=>false) (fun _ _ _=>false) (fun _ _ _ _=>false) (fun _ _ _=>false) (fun _ _ _ _=>false) (fun _ _ _ _=>false) (fun _ _ _=>false) (fun _ _ _=>false) (fun _ _ _ _=>false) (fun _ _ _ _=>false) (fun _ _ _ _ _=>false) (fun _ _ _ _=>false) (fun _ _=>false) (fun _ _=>false) (fun _ _=>false) (fun _ _ _ _=>false) (fun _ _ _ _=>false) (fun _ _ _ _=>false) (fun _ _=>false) (fun _ _ _=>false) (fun _ _ _=>false) (fun _ _ _=>false) (fun _ _=>false) (fun _ _=>k != .pairs) (fun _ _=>false) (fun ts _ _=>k != .plain&&ts.all fun t=>t.ctorIdx==23) (fun _ _ _ _=>false)
noncomputable def itKind:D->ItK
 | .list _=>.lst
 | _=>.plain
noncomputable def wcu (a b:Int):List D:=(List.range (b - a).toNat).map fun (i:Nat)=>.int (a+(i:Int))
noncomputable def rangeD (ds:List D):Option (List D):=match ds with
 | [b]=>intK b fun b=>if -10000<b/\b<10000 then some (wcu 0 b) else none
 | [a,b]=>wdD a b fun a b=>if (-100000<a/\a<100000)/\-100000<b/\b<100000/\b - a<10000 then some (wcu a b) else none
 | _=>none
noncomputable def isStarE (e:Expr):Bool:=e.ctorIdx==22
noncomputable def genOk (sc scope:Scope) (x y:Str):Bool:=
 scope.kind==.function&&!scope.isCoroutine&&scope.names.lookup x==some .local&&scope.names.lookup y==some .local&&!(x==y)&&scope.names.lookup (".0":Str)==some .local &&
 (scope.names.all fun p=>p.2 != .cell&&p.2 != .free)&&!(x==("__debug__":Str))&&!(y==("__debug__":Str))&&!(x==(".0":Str))&&!(y==(".0":Str))&&sc.names.lookup gk==some .local
noncomputable def enumD (xs:List D):List D:=List.zipWith (fun (i:Nat) x=>.tuple [.int (i:Int),x]) (List.range xs.length) xs
noncomputable def fresh (e:Expr):Bool:=e.ctorIdx==24||e.ctorIdx==6||e.ctorIdx==2
noncomputable def isComp (e:Expr):Bool:=e.ctorIdx==8||e.ctorIdx==9||e.ctorIdx==10
noncomputable def nmV {β:Type} (e:Expr) (z:β) (f:Str->Pos->β):β:=@PySem.Expr.casesOn (fun _=>_) e (fun _ _ _=>z) (fun _ _ _=>z) (fun _ _ _ _=>z) (fun _ _ _=>z) (fun _ _ _ _=>z) (fun _ _ _ _=>z) (fun _ _ _=>z) (fun _ _ _=>z) (fun _ _ _ _=>z) (fun _ _ _ _=>z) (fun _ _ _ _ _=>z) (fun _ _ _ _=>z) (fun _ _=>z) (fun _ _=>z) (fun _ _=>z) (fun _ _ _ _=>z) (fun _ _ _ _=>z) (fun _ _ _ _=>z) (fun _ _=>z) (fun _ _ _=>z) (fun _ _ _=>z) (fun _ _ _=>z) (fun _ _=>z) (fun x p=>f x p) (fun _ _=>z) (fun _ _ _=>z) (fun _ _ _ _=>z)
noncomputable def names (ts:List Expr):List Str:=ts.filterMap fun e=>nmV e none fun x _=>some x
noncomputable def nmF (sc:Scope) (ts:List Expr):List Str:=ts.filterMap fun e=>nmV e none fun id pos=>if sc.names.lookup id==some .local&&pos.line==(ts.head?.map (·.pos.line)).getD 0 then some id else none
noncomputable def swapRoad (sc:Scope) (ts vs:List Expr):Option Bool:=
 if !(ts.length==2||ts.length==3)||vs.length != ts.length then some false
 else if vs.any isStarE then some false
 else if (nmF sc ts).length != ts.length||(nmF sc ts).eraseDups.length != (nmF sc ts).length then some false
 else if vs.all (foldedForSure 8) then some false
 else if vs.all (constantsAlone 8) then none
 else some true
noncomputable def isSliceE (e:Expr):Bool:=e.ctorIdx==26
noncomputable def hintsAt (c:Cx) (st:Stmt):List Str:=((c.hints.lookup st.pos.line).getD [])
noncomputable def okSlot:Slot->Bool
 | .fz _=>true
 | .own (.obj _ _)=>true
 | .own _=>false
end Mine.Py
end
section
namespace Mine.Py
open PySem PySem.W PyProof.Rows PySem.Calls
set_option genInjectivity false
set_option genSizeOf false
noncomputable def keyIs:Key->Value->Bool
 | .i n,v=>Value.isInt n v
 | .s x,v=>Value.isStrOf (mk x) v
theorem wjC {x y:Tx} (h:mk x=mk y):x=y:=by
 have:=congrArg (fun s:Str=>s.cps.toList) h;simpa using this
theorem wjD (s:Str):mk s.cps.toList=s:=by cases s;simp
theorem wbD {k:Key} {v:Value} (h:keyIs k v=true):(∃ n t,k=.i n/\v=.int n t)\/(∃ x t,k=.s x/\v=.str (mk x) t):=by
 cases k with
 | i n=>obtain ⟨t,rfl⟩:=Value.isInt_shape (show Value.isInt n v=true from h);exact .inl ⟨n,t,rfl,rfl⟩
 | s x=>obtain ⟨t,rfl⟩:=Value.isStrOf_shape (show Value.isStrOf (mk x) v=true from h);exact .inr ⟨x,t,rfl,rfl⟩
noncomputable def keyHash (w:World):Key->Int
 | .i n=>hashInt n
 | .s x=>hashStr w (mk x)
theorem keyIsE {P:Key->Value->Prop} {k:Key} {v:Value} (h:keyIs k v=true) (f:∀ n t,P (.i n) (.int n t)) (g:∀ x t,P (.s x) (.str (mk x) t)):P k v:=by
 rcases wbD h with ⟨n,t,rfl,rfl⟩ | ⟨x,t,rfl,rfl⟩
 ·exact f n t
 ·exact g x t
theorem wtU {prog:Program} {w:World} {A:Around} {E:Value->Shared->Prop} {s:Shared} {a b:Key} {u v:Value} {Q:Bool->Shared->Prop} (hu:keyIs a u=true) (hv:keyIs b v=true) (h:Q (decide (a=b)) s):wpAny (model prog w) A (eqBool u v) Q E s:=by
 refine keyIsE (P:=fun a u=>Q (decide (a=b)) s->wpAny (model prog w) A (eqBool u v) Q E s) hu (fun n t=>?_) (fun x t=>?_) h
 ·refine keyIsE (P:=fun b v=>Q (decide (Key.i n=b)) s->wpAny (model prog w) A (eqBool (.int n t) v) Q E s) hv (fun n' t' h=>wpAny_eqBool_int ?_) (fun x t' h=>?_)
  ·have e:(n==n')=decide ((Key.i n)=.i n'):=decide_eq_decide.mpr ⟨fun q=>q ▸ rfl,fun q=>Key.i.inj q⟩
   rw [e];exact h
  ·unfold eqBool
   rw [if_neg (by simp)]
   exact wpAny_holding (wpAny_bind (SeqAt.RcAt.int_str n t (mk x) t' _ _ _ _ (wpAny_truthy_bool h)))
 ·refine keyIsE (P:=fun b v=>Q (decide (Key.s x=b)) s->wpAny (model prog w) A (eqBool (.str (mk x) t) v) Q E s) hv (fun n' t' h=>?_) (fun x' t' h=>wpAny_eqBool_str ?_)
  ·unfold eqBool
   rw [if_neg (by simp)]
   exact wpAny_holding (wpAny_bind (SeqAt.RcAt.str_int (mk x) t n' t' _ _ _ _ (wpAny_truthy_bool h)))
  ·have e:decide (mk x=mk x')=decide ((Key.s x)=.s x'):=decide_eq_decide.mpr ⟨fun q=>congrArg Key.s (wjC q),fun q=>congrArg mk (Key.s.inj q)⟩
   rw [e];exact h
noncomputable def anyKind (prog:Program) (w:World):KeyKind prog w Key where
 is:=keyIs
 hash:=keyHash w
 inj:=fun v a b ha hb=>keyIsE (P:=fun a v=>keyIs b v=true->a=b) ha (fun n t hb=>by
   rcases wbD hb with ⟨n',t',rfl,e⟩ | ⟨x,t',rfl,e⟩
   ·injection e with e;rw [e]
   ·exact Value.noConfusion e) (fun x t hb=>by
   rcases wbD hb with ⟨n',t',rfl,e⟩ | ⟨x',t',rfl,e⟩
   ·exact Value.noConfusion e
   ·injection e with e;rw [wjC e]) hb
 byValue:=fun k v h=>by
  rcases wbD h with ⟨n,t,rfl,rfl⟩ | ⟨x,t,rfl,rfl⟩<;>rfl
 pyHash:=fun hv h=>by
  rcases wbD hv with ⟨n,t,rfl,rfl⟩ | ⟨x,t,rfl,rfl⟩
  ·exact wpAny_pyHash_int h
  ·exact wpAny_pyHash_str h
 eqBool:=wtU
 «strs»:=fun k x t v h=>by
  rcases wbD h with ⟨n,t',rfl,e⟩ | ⟨x',t',rfl,e⟩
  ·exact Value.noConfusion e
  ·injection e with e1 e2
   subst e1
   cases v<;>rfl
noncomputable abbrev FH:=Addr->Option Obj
noncomputable def FH.le (F G:FH):Prop:=∀ b o,F b=some o->G b=some o
noncomputable def FH.In (F:FH) (h:Heap):Prop:=∀ b o,F b=some o->h.get? b=some o
noncomputable def FH.put (F:FH) (a:Addr) (o:Obj):FH:=fun b=>if b=a then some o else F b
theorem FH.le.refl (F:FH):F.le F:=fun _ _ e=>e
theorem FH.le.trans {F G H:FH} (x:F.le G) (y:G.le H):F.le H:=fun b o e=>y b o (x b o e)
theorem FH.le.inn {F G:FH} {h:Heap} (x:F.le G) (y:G.In h):F.In h:=fun b o e=>y b o (x b o e)
theorem FH.put_self (F:FH) (a:Addr) (o:Obj):F.put a o a=some o:=by simp [FH.put]
theorem FH.le_put {F:FH} {a:Addr} {o:Obj} (h:F a=none):F.le (F.put a o):=fun b ob e=>by
 unfold FH.put;split
 ·rename_i q;rw [q,h]at e;cases e
 ·exact e
noncomputable def Keep (h h':Heap):Prop:=∀ b o,h.get? b=some o->h'.get? b=some o
theorem Keep.refl (h:Heap):Keep h h:=fun _ _ e=>e
theorem Keep.trans {h h' h'':Heap} (x:Keep h h') (y:Keep h' h''):Keep h h'':=fun b o e=>y b o (x b o e)
noncomputable def Tab0 (o:Obj):Prop:=o.cls=.none/\∃ ps,o.data=.fields ps/\TriplesOk ps.toList
theorem wab {o:Obj} {T:String} (h:o.cls=.type T):¬ Tab0 o:=fun ⟨q,_⟩=>by rw [h]at q;cases q
theorem wkm {o:Obj} {T:Addr} (h:o.cls=.ref T):¬ Tab0 o:=fun ⟨q,_⟩=>by rw [h]at q;cases q
theorem wga {o:Obj} {es:Array DictEntry} {n:Nat} (h:o.data=.dict es n):¬ Tab0 o:=fun ⟨_,_,q,_⟩=>by rw [h]at q;cases q
theorem wn7 {o:Obj} {v:Option Value} (h:o.data=.cell v):¬ Tab0 o:=fun ⟨_,_,q,_⟩=>by rw [h]at q;cases q
structure Grown (o o':Obj):Prop where
 tab:Tab0 o'
 more:∀ ps,o.data=.fields ps->∃ more,o'={ o with data:=.fields (ps++more) }
theorem Grown.refl {o:Obj} (t:Tab0 o):Grown o o:=⟨t,fun ps e=>⟨#[],by cases o;cases e;simp⟩⟩
theorem Grown.trans {o o' o'':Obj} (x:Grown o o') (y:Grown o' o''):Grown o o'':=⟨y.tab,fun ps e=>by
 obtain ⟨m,rfl⟩:=x.more ps e
 obtain ⟨m',rfl⟩:=y.more _ rfl
 exact ⟨m++m',by rw [Array.append_assoc]⟩⟩
structure KeepT (h h':Heap):Prop where
 at_:∀ b o,h.get? b=some o->¬ Tab0 o->h'.get? b=some o
 tab:∀ b o,h.get? b=some o->Tab0 o->∃ o',h'.get? b=some o'/\Grown o o'
theorem KeepT.of {h h':Heap} (k:Keep h h'):KeepT h h':=⟨fun b o e _=>k b o e,fun b o e t=>⟨o,k b o e,.refl t⟩⟩
theorem KeepT.trans {h h' h'':Heap} (x:KeepT h h') (y:KeepT h' h''):KeepT h h'':=
 ⟨fun b o e n=>y.at_ b o (x.at_ b o e n) n,fun b o e t=>let ⟨o',e',t'⟩:=x.tab b o e t;let ⟨o'',e'',t''⟩:=y.tab b o' e' t'.tab;⟨o'',e'',t'.trans t''⟩⟩
theorem KeepT.alive {h h':Heap} (k:KeepT h h') {b:Addr} (e:h.get? b≠none):h'.get? b≠none:=by
 cases q:h.get? b with
 | none=>exact absurd q e
 | some o=>
  by_cases t:Tab0 o
  ·obtain ⟨o',e',_⟩:=k.tab b o q t;rw [e'];simp
  ·rw [k.at_ b o q t];simp
theorem wec {h h':Heap} (k:Keep h h') {b:Addr} (e:h'.get? b=none):h.get? b=none:=by
 cases q:h.get? b with
 | none=>rfl
 | some o=>rw [k b o q]at e;cases e
theorem KeepT.gone {h h':Heap} (k:KeepT h h') {b:Addr} (e:h'.get? b=none):h.get? b=none:=by
 cases q:h.get? b with
 | none=>rfl
 | some o=>exact absurd e (k.alive (by rw [q];simp))
theorem KeepT.but {h hU hJ:Heap} (x:KeepT h hU) {P:Addr->Prop} (hP:∀ b,P b->h.get? b=none) (k:∀ b o,¬ P b->hU.get? b=some o->hJ.get? b=some o):KeepT h hJ:=by
 have np:∀ b o,h.get? b=some o->¬ P b:=fun b o e q=>by rw [hP b q]at e;cases e
 exact ⟨fun b o e n=>k b o (np b o e) (x.at_ b o e n),fun b o e t=>let ⟨o',e',t'⟩:=x.tab b o e t;⟨o',k b o' (np b o e) e',t'⟩⟩
structure Calm (s s':Shared):Prop where
 os:s'.os=s.os
 gens:AllBare s.gens->AllBare s'.gens
theorem Calm.refl (s:Shared):Calm s s:=⟨rfl,id⟩
theorem Calm.trans {s s' s'':Shared} (x:Calm s s') (y:Calm s' s''):Calm s s'':=⟨y.os.trans x.os,fun q=>y.gens (x.gens q)⟩
theorem Calm.of {s s':Shared} (h:∃ h tk,s'={ s with heap:=h,toks:=tk }):Calm s s':=by obtain ⟨h,t,rfl⟩:=h;exact ⟨rfl,id⟩
theorem Calm.call {s₀ s:Shared} {L:Addr} {m:Str->Option Value} (x:InCall s₀ L m s):Calm s₀ s:=by obtain ⟨h,t,rfl⟩:=x.same;exact ⟨rfl,id⟩
structure Ext (F:FH) (s:Shared) (F':FH) (s':Shared):Prop where
 le:F.le F'
 inn:F'.In s'.heap
 keep:KeepT s.heap s'.heap
 new:∀ b o,F' b=some o->F b=some o\/s.heap.get? b=none
 calm:Calm s s'
theorem Ext.refl {F:FH} {s:Shared} (x:F.In s.heap):Ext F s F s:=⟨FH.le.refl F,x,KeepT.of (Keep.refl s.heap),fun _ _ e=>.inl e,.refl s⟩
theorem Ext.trans {F F' F'':FH} {s s' s'':Shared} (x:Ext F s F' s') (y:Ext F' s' F'' s''):Ext F s F'' s'':=
 ⟨x.le.trans y.le,y.inn,x.keep.trans y.keep,fun b o e=>(y.new b o e).elim (fun q=>x.new b o q) fun q=>.inr (x.keep.gone q),x.calm.trans y.calm⟩
theorem Ext.tok {F F':FH} {s s':Shared} (x:Ext F s F' s') {t:Nat}:Ext F s F' { s' with toks:=t }:=⟨x.le,x.inn,x.keep,x.new,x.calm.os,x.calm.gens⟩
theorem Ext.same {F:FH} {s s':Shared} (x:F.In s.heap) (k:Keep s.heap s'.heap) (c:Calm s s':=by first | exact ⟨rfl,fun x=>x⟩ | assumption):Ext F s F s':=⟨FH.le.refl F,fun b o e=>k b o (x b o e),KeepT.of k,fun _ _ e=>.inl e,c⟩
theorem Ext.put {F:FH} {s s':Shared} {a:Addr} {o:Obj} (x:F.In s.heap) (k:Keep s.heap s'.heap) (hn:s.heap.get? a=none) (ho:s'.heap.get? a=some o) (c:Calm s s':=by first | exact ⟨rfl,fun x=>x⟩ | assumption):Ext F s (F.put a o) s':=by
 have hf:F a=none:=by
  cases q:F a with
  | none=>rfl
  | some o=>rw [x a o q]at hn;cases hn
 refine ⟨FH.le_put hf,fun b ob e=>?_,KeepT.of k,fun b ob e=>?_,c⟩
 ·unfold FH.put at e;split at e
  ·rename_i q;cases e;rw [q];exact ho
  ·exact k b ob (x b ob e)
 ·unfold FH.put at e;split at e
  ·rename_i q;right;rw [q];exact hn
  ·exact .inl e
theorem get?_size (h:Heap):h.get? h.objs.size=none:=by
 cases q:h.get? h.objs.size with
 | none=>rfl
 | some o=>exact absurd (Heap.lt_size q) (Nat.lt_irrefl _)
theorem wbC {F:FH} {h:Heap} {o:Obj} (x:F.In h):F.le (F.put h.objs.size o):=FH.le_put (by
 cases q:F h.objs.size with
 | none=>rfl
 | some o=>exact absurd (x _ _ q) (by rw [get?_size];simp))
theorem Keep.push (h:Heap) (o:Obj):Keep h (h.push o):=fun _ _ e=>Heap.get?_push_of_some _ e
noncomputable def NsO (o:Obj) (m:Str->Option Value):Prop:=∃ es ep,o.data=.dict es ep/\StrKeys es/\∀ name,nsFind es name=m name
theorem NsO.ns {h:Heap} {C:Addr} {o:Obj} {m:Str->Option Value} (x:NsO o m) (e:h.get? C=some o):h.Ns C m:=let ⟨es,ep,hd,r⟩:=x;⟨o,es,ep,e,hd,r⟩
structure NsD (o:Obj) (es:List (Str×Value)):Prop where
 ns:NsO o fun x=>es.lookup x
 size:∀ des ep,o.data=.dict des ep->des.size<=es.length
structure Fr where
 T:Tab
 prog:Program
 w:World
 cad:Str->Addr
 K:Frag
 mg:Str->Option Value
inductive VI (i:Int):Value->Prop | mk (t):VI i (.int i t)
inductive VS (x:Tx):Value->Prop | mk (t):VS x (.str (mk x) t)
inductive VL (ty:String) (R:List Value->Prop) (G:FH):Value->Prop | mk {a vs n}:G a=some { cls:=.type ty,data:=.seq vs n }->R vs.toList->VL ty R G (.ref a)
inductive VD (C:Fr) (R:List (Key×Value)->Prop) (G:FH):Value->Prop | mk {a o es}:G a=some o->(a==sysModules)=false->o.IsDictOf (anyKind C.prog C.w) es->R es->VD C R G (.ref a)
inductive VO (a:Addr) (R:List (Str×Value)->Prop) (G:FH):Value->Prop | mk {b d od es}:G b=some (instObj a d)->G d=some od->NsD od es->R es->VO a R G (.ref b)
inductive VT (C:Fr) (xs:List Int) (G:FH):Value->Prop | mk {a o n}:G a=some o->n<scanBound->o.SetObjOf (intKind C.prog C.w) (fun k=>xs.contains k) n->VT C xs G (.ref a)
inductive VC {α:Type} (P:α->Prop) (R:List α->Prop):List α->Prop | mk {v vs}:P v->R vs->VC P R (v::vs)
mutual
noncomputable def Vw (C:Fr) (F:FH):D->FH->Value->Prop
 | .none,_,v=>v=.none
 | .bool b,_,v=>v=.bool b
 | .int i,_,v=>VI i v
 | .str x,_,v=>VS x v
 | .list xs,G,v=>VL "list" (RepAll C F xs) G v
 | .tuple xs,G,v=>VL "tuple" (RepAll C F xs) G v
 | .dict kvs,G,v=>VD C (RepKV C F kvs) G v
 | .obj c fs,G,v=>VO (C.cad c) (RepFs C F fs) G v
 | .set xs,G,v=>VT C xs G v
noncomputable def RepAll (C:Fr) (F:FH):List D->List Value->Prop
 | [],vs=>vs=[]
 | d::ds,vs=>VC (Vw C F d F) (RepAll C F ds) vs
noncomputable def RepKV (C:Fr) (F:FH):List (Key×D)->List (Key×Value)->Prop
 | [],vs=>vs=[]
 | (k,d)::ds,vs=>VC (fun p=>p.1=k/\Vw C F d F p.2) (RepKV C F ds) vs
noncomputable def RepFs (C:Fr) (F:FH):List (Str×D)->List (Str×Value)->Prop
 | [],vs=>vs=[]
 | (k,d)::ds,vs=>VC (fun p=>p.1=k/\Vw C F d F p.2) (RepFs C F ds) vs
end
noncomputable abbrev Rep (C:Fr) (F:FH) (v:Value) (d:D):Prop:=Vw C F d F v
noncomputable abbrev View (C:Fr) (h:Heap) (F:FH) (v:Value) (d:D):Prop:=Vw C F d h.get? v
noncomputable def tops (G:FH):Value->List Addr
 | .ref a=>a::(match G a with | some o=>o.dict.toList | none=>[])
 | _=>[]
section
variable {C:Fr} {F F' G G':FH} {h h':Heap} {v:Value} {d:D}
theorem wbk {a:Addr} {o:Obj} (e:G a=some o):tops G (.ref a)=a::o.dict.toList:=by show a::_=_;rw [e]
theorem waI (a:Addr):a∈tops G (.ref a):=List.mem_cons_self
mutual
theorem Vw.gen (le:F.le F'):∀ (d:D) {G G':FH} {v:Value},(∀ b∈tops G v,∀ o,G b=some o->¬ Tab0 o->G' b=some o)->Vw C F d G v->Vw C F' d G' v
 | .none,_,_,_,_,r=>r
 | .bool _,_,_,_,_,r=>r
 | .int _,_,_,_,_,r=>r
 | .str _,_,_,_,_,r=>r
 | .list xs,_,_,_,k,.mk e r=>.mk (k _ (waI _) _ e (wab rfl)) (RepAll.mono le xs r)
 | .tuple xs,_,_,_,k,.mk e r=>.mk (k _ (waI _) _ e (wab rfl)) (RepAll.mono le xs r)
 | .dict xs,_,_,_,k,.mk e a b r=>.mk (k _ (waI _) _ e (let ⟨_,_,x,_⟩:=b;wab x.1)) a b (RepKV.mono le xs r)
 | .obj _ fs,_,_,_,k,.mk e e' b r=>.mk (k _ (waI _) _ e (wkm rfl)) (k _ (by rw [wbk e];exact List.mem_cons_of_mem _ List.mem_cons_self) _ e' (let ⟨_,_,x,_⟩:=b.ns;wga x)) b (RepFs.mono le fs r)
 | .set _,_,_,_,k,.mk e a b=>.mk (k _ (waI _) _ e (wab b.1.1)) a b
theorem RepAll.mono (le:F.le F'):∀ (ds:List D) {vs:List Value},RepAll C F ds vs->RepAll C F' ds vs
 | [],_,r=>r
 | d::ds,_,.mk a b=>.mk (Vw.gen le d (fun b _ o e _=>le b o e) a) (RepAll.mono le ds b)
theorem RepKV.mono (le:F.le F'):∀ (ds:List (Key×D)) {vs:List (Key×Value)},RepKV C F ds vs->RepKV C F' ds vs
 | [],_,r=>r
 | (_,d)::ds,_,.mk a b=>.mk ⟨a.1,Vw.gen le d (fun b _ o e _=>le b o e) a.2⟩ (RepKV.mono le ds b)
theorem RepFs.mono (le:F.le F'):∀ (ds:List (Str×D)) {vs:List (Str×Value)},RepFs C F ds vs->RepFs C F' ds vs
 | [],_,r=>r
 | (_,d)::ds,_,.mk a b=>.mk ⟨a.1,Vw.gen le d (fun b _ o e _=>le b o e) a.2⟩ (RepFs.mono le ds b)
end
theorem Vw.mono (r:Vw C F d G v) (k:G.le G') (le:F.le F'):Vw C F' d G' v:=Vw.gen le d (fun b _ o e _=>k b o e) r
theorem Rep.mono (r:Rep C F v d) (le:F.le F'):Rep C F' v d:=Vw.mono r le le
theorem Rep.view (r:Rep C F v d) (i:F.In h):View C h F v d:=Vw.mono r i (FH.le.refl F)
theorem View.ext {s s':Shared} (r:View C s.heap F v d) (x:Ext F s F' s'):View C s'.heap F' v d:=Vw.gen x.le d (fun b _ o e n=>x.keep.at_ b o e n) r
theorem Rep.ext {s s':Shared} (r:Rep C F v d) (x:Ext F s F' s'):Rep C F' v d:=r.mono x.le
theorem Vw.top (r:Vw C F d G v) {a:Addr} (ha:a∈tops G v):∃ o,G a=some o/\¬ Tab0 o:=by
 have key:∀ {b o},G b=some o->¬ Tab0 o->o.dict=none->a∈tops G (.ref b)->∃ o,G a=some o/\¬ Tab0 o:=fun {b o} e n ed ha=>by
  rw [wbk e,ed]at ha
  exact ⟨o,List.mem_singleton.mp ha ▸ e,n⟩
 cases d with
 | none=>cases r;exact memE ha
 | bool=>cases r;exact memE ha
 | int=>cases r;exact memE ha
 | str=>cases r;exact memE ha
 | list=>cases r with | mk e r=>exact key e (wab rfl) rfl ha
 | tuple=>cases r with | mk e r=>exact key e (wab rfl) rfl ha
 | dict=>cases r with | mk e x b r=>exact let ⟨_,_,x,_⟩:=b;key e (wab x.1) x.2.1 ha
 | set=>cases r with | mk e x b=>exact key e (wab b.1.1) b.1.2.1 ha
 | obj=>cases r with | mk e e' b r=>
  rw [wbk e]at ha
  rcases List.mem_cons.mp ha with rfl | ha
  ·exact ⟨_,e,wkm rfl⟩
  ·exact ⟨_,List.mem_singleton.mp ha ▸ e',let ⟨_,_,x,_⟩:=b.ns;wga x⟩
theorem Vw.alive (r:Vw C F d G v) {a:Addr} (ha:a∈tops G v):G a≠none:=fun q=>by obtain ⟨o,e,_⟩:=r.top ha;rw [q]at e;exact noneE e
theorem Rep.fz (r:Rep C F v d):∀ b,v=.ref b->F b≠none:=fun b e=>Vw.alive r (e ▸ waI b)
theorem wcL (r:Vw C F d G v) (k:∀ a∈tops G v,∀ o,G a=some o->G' a=some o):tops G' v=tops G v:=by
 cases v<;>try rfl
 rename_i a
 obtain ⟨o,e,_⟩:=r.top (waI a)
 rw [wbk e,wbk (k a (waI a) o e)]
theorem wf6 (r:Vw C F d G v) (k:∀ a∈tops G v,∀ o,G a=some o->¬ Tab0 o->G' a=some o):tops G' v=tops G v:=
 wcL r fun a ha o e=>k a ha o e fun t=>by obtain ⟨o',e',n⟩:=r.top ha;rw [e]at e';exact n (Option.some.inj e' ▸ t)
theorem waX {a:Addr} {o:Obj} (e:G a=some o) (hd:o.dict=none):tops G (.ref a)=[a]:=by rw [wbk e,hd];rfl
section
variable {α:Type} {r:α} {M:Value->Prop}
theorem boolV {k:Bool->Option α} (h:boolK d k=some r) (v':Vw C F d G v) (f:∀ i,k i=some r->M (.bool i)):M v:=by
 revert v';revert h;cases d<;>intro h v<;>first | exact noneE h | (cases v;exact f _ h)
theorem intV {k:Int->Option α} (h:intK d k=some r) (v':Vw C F d G v) (f:∀ i t,k i=some r->M (.int i t)):M v:=by
 revert v';revert h;cases d<;>intro h v<;>first | exact noneE h | (cases v;exact f _ _ h)
theorem strV {k:Tx->Option α} (h:strK d k=some r) (v':Vw C F d G v) (f:∀ x t,k x=some r->M (.str (mk x) t)):M v:=by
 revert v';revert h;cases d<;>intro h v<;>first | exact noneE h | (cases v;exact f _ _ h)
theorem listV {k:List D->Option α} (h:listK d k=some r) (v':Vw C F d G v) (f:∀ xs a vs n,G a=some { cls:=.type "list",data:=.seq vs n }->RepAll C F xs vs.toList->k xs=some r->M (.ref a)):M v:=by
 revert v';revert h;cases d<;>intro h v<;>first | exact noneE h | (cases v with | mk e q=>exact f _ _ _ _ e q h)
theorem tupV {k:List D->Option α} (h:tupK d k=some r) (v':Vw C F d G v) (f:∀ xs a vs n,G a=some { cls:=.type "tuple",data:=.seq vs n }->RepAll C F xs vs.toList->k xs=some r->M (.ref a)):M v:=by
 revert v';revert h;cases d<;>intro h v<;>first | exact noneE h | (cases v with | mk e q=>exact f _ _ _ _ e q h)
theorem dictV {k:List (Key×D)->Option α} (h:dictK d k=some r) (v':Vw C F d G v) (f:∀ kvs a o es,G a=some o->(a==sysModules)=false->o.IsDictOf (anyKind C.prog C.w) es->RepKV C F kvs es->k kvs=some r->M (.ref a)):M v:=by
 revert v';revert h;cases d<;>intro h v<;>first | exact noneE h | (cases v with | mk e x y q=>exact f _ _ _ _ e x y q h)
end
theorem RepAll.length:∀ {ds:List D} {vs:List Value},RepAll C F ds vs->vs.length=ds.length:=by
 intro ds
 induction ds with
 | nil=>intro vs r;exact congrArg List.length r
 | cons d ds ih=>intro vs r;cases r with | mk a b=>exact congrArg Nat.succ (ih b)
theorem RepAll.size {ds:List D} {vs:Array Value} (r:RepAll C F ds vs.toList):vs.size=ds.length:=r.length
theorem RepAll.get {ds:List D} {vs:List Value} (r:RepAll C F ds vs) {i:Nat} {d:D} (e:ds[i]?=some d):∃ v,vs[i]?=some v/\Rep C F v d:=by
 induction ds generalizing vs i with
 | nil=>exact noneE e
 | cons x ds ih=>cases r with | mk a b=>
  cases i with
  | zero=>exact ⟨_,rfl,Option.some.inj e ▸ a⟩
  | succ i=>exact ih b e
theorem RepAll.get' {ds:List D} {vs:List Value} (r:RepAll C F ds vs) {i:Nat} {v:Value} (e:vs[i]?=some v):∃ d,ds[i]?=some d/\Rep C F v d:=by
 induction ds generalizing vs i with
 | nil=>cases r;exact noneE e
 | cons x ds ih=>cases r with | mk a b=>
  cases i with
  | zero=>exact ⟨_,rfl,Option.some.inj e ▸ a⟩
  | succ i=>exact ih b e
theorem RepAll.append {vs us:List Value} {ds es:List D} (r:RepAll C F ds vs) (r':RepAll C F es us):RepAll C F (ds++es) (vs++us):=by
 induction ds generalizing vs with
 | nil=>cases r;exact r'
 | cons d ds ih=>cases r with | mk a b=>exact .mk a (ih b)
theorem RepAll.take {vs:List Value} {ds:List D} (r:RepAll C F ds vs) (n:Nat):RepAll C F (ds.take n) (vs.take n):=by
 induction ds generalizing vs n with
 | nil=>cases r;cases n<;>exact rfl
 | cons d ds ih=>cases r with | mk a b=>cases n with
  | zero=>exact rfl
  | succ n=>exact .mk a (ih b n)
theorem RepAll.drop {vs:List Value} {ds:List D} (r:RepAll C F ds vs) (n:Nat):RepAll C F (ds.drop n) (vs.drop n):=by
 induction ds generalizing vs n with
 | nil=>cases r;cases n<;>exact rfl
 | cons d ds ih=>cases r with | mk a b=>cases n with
  | zero=>exact .mk a b
  | succ n=>exact ih b n
theorem RepAll.set {vs:List Value} {ds:List D} {v:Value} {d:D} (r:RepAll C F ds vs) (x:Rep C F v d) (n:Nat):RepAll C F (ds.set n d) (vs.set n v):=by
 induction ds generalizing vs n with
 | nil=>cases r;exact rfl
 | cons d ds ih=>cases r with | mk a b=>cases n with
  | zero=>exact .mk x b
  | succ n=>exact .mk a (ih b n)
theorem RepAll.one (x:Rep C F v d):RepAll C F [d] [v]:=.mk x rfl
theorem RepAll.replicate (x:Rep C F v d) (n:Nat):RepAll C F (List.replicate n d) (List.replicate n v):=by
 induction n with
 | zero=>exact rfl
 | succ n ih=>exact .mk x ih
theorem wbS {a:Addr} {vs:Array Value} (x:h.PlainList a vs) (k:KeepT h h'):h'.PlainList a vs:=let ⟨n,e⟩:=x;⟨n,k.at_ _ _ e (wab rfl)⟩
theorem wo4 {a:Addr} {m:Str->Option Value} (x:h.Ns a m) (k:KeepT h h'):h'.Ns a m:=let ⟨o,es,ep,e,hd,r⟩:=x;⟨o,es,ep,k.at_ _ _ e (wga hd),hd,r⟩
theorem wmc {a:Addr} {m:Option Value} (x:h.IsCell a m) (k:KeepT h h'):h'.IsCell a m:=let ⟨o,e,hd⟩:=x;⟨o,k.at_ _ _ e (wn7 hd),hd⟩
theorem wcf {a:Addr} {es:List (Key×Value)} (x:h.DictOf (anyKind C.prog C.w) a es) (k:KeepT h h'):h'.DictOf (anyKind C.prog C.w) a es:=
 let ⟨o,e,hd⟩:=Heap.dictOf_iff.mp x
 Heap.dictOf_iff.mpr ⟨o,k.at_ _ _ e (let ⟨_,_,x,_⟩:=hd;wab x.1),hd⟩
end
structure Room (A:Around) (n:Nat):Prop where
 handled:A.handled=none
 depth:A.depth+2 * n+10<recursionLimit
 units:A.units+16 * n+200<cLine
theorem Room.mono {A:Around} {n m:Nat} (x:Room A n) (h:m<=n):Room A m:=⟨x.handled,by have:=x.depth;omega,by have:=x.units;omega⟩
section
variable {C:Fr} {F:FH} {A:Around} {E:Value->Shared->Prop} {s:Shared} {Q:Value->Shared->Prop} {d:D}
noncomputable abbrev Cont (C:Fr) (F:FH) (s:Shared) (d:D) (Q:Value->Shared->Prop):Prop:=
 ∀ v s' F',Ext F s F' s'->Rep C F' v d->Q v s'
theorem Cont.of {d':D} (k:Cont C F s d Q) (e:some d'=some d):Cont C F s d' Q:=Option.some.inj e ▸ k
theorem Cont.ext {s:Shared} {F':FH} {s':Shared} (k:Cont C F s d Q) (x:Ext F s F' s'):Cont C F' s' d Q:=fun v s' F'' y r=>k v s' F'' (x.trans y) r
theorem Cont.here (k:Cont C F s d Q) (hF:F.In s.heap) {v:Value} {s':Shared} (e:s'.heap=s.heap) (r:Rep C F v d) (c:Calm s s':=by first | exact ⟨rfl,fun x=>x⟩ | assumption):Q v s':=
 k v s' F (Ext.same hF (by rw [e];exact Keep.refl _) c) r
theorem Cont.push (k:Cont C F s d Q) (hF:F.In s.heap) {o:Obj} {s':Shared} (e:s'.heap=s.heap.push o) (hfr:o.isFreed=false) (r:Rep C (F.put s.heap.objs.size o) (.ref s.heap.objs.size) d) (c:Calm s s':=by first | exact ⟨rfl,fun x=>x⟩ | assumption):Q (.ref s.heap.objs.size) s':=by
 refine k _ s' _ ?_ r
 refine Ext.put hF (by rw [e];exact Keep.push _ _) (get?_size _) (by rw [e];exact Heap.get?_push_size _ hfr) c
theorem RepAll.new {ty:String} {ds:List D} {vs:Array Value} {n:Nat} {a:Addr} (r:RepAll C F ds vs.toList) (le:F.le (F.put a { cls:=.type ty,data:=.seq vs n })):VL ty (RepAll C (F.put a { cls:=.type ty,data:=.seq vs n }) ds) (F.put a { cls:=.type ty,data:=.seq vs n }) (.ref a):=.mk (FH.put_self _ _ _) (RepAll.mono le ds r)
theorem wis {a b:Array Value} {xs ys:List D} (r:RepAll C F xs a.toList) (r':RepAll C F ys b.toList):RepAll C F (xs++ys) (a++b).toList:=by rw [Array.toList_append];exact r.append r'
theorem wgt {a:Int} (h:a.natAbs<2 ^ 60):Builtin.Int.intBits a<=64:=PySem.intBits_le_64 (by omega) (by omega)
theorem wqk {a b:Int} (h0:0<=b) (h1:b<=64) (h:a.natAbs<2 ^ 32):(Builtin.Int.intBits a:Int) * b<=2 ^ 27:=by
 have h':Builtin.Int.intBits a<=64:=wgt (by omega)
 have:(Builtin.Int.intBits a:Int) * b<=64 * 64:=Int.mul_le_mul (by omega) h1 h0 (by omega)
 omega
theorem wiM {α:Type} (d:α):∀ n,(List.replicate n [d]).flatten=List.replicate n d
 | 0=>rfl
 | n+1=>by rw [List.replicate_succ,List.flatten_cons,wiM d n,List.replicate_succ];rfl
theorem whm {α:Type} (x:Array α):∀ (n:Nat) (acc:Array α),List.foldl (fun a b=>a++b) acc (List.replicate n x)=(acc.toList++(List.replicate n x.toList).flatten).toArray
 | 0,acc=>by simp
 | n+1,acc=>by rw [List.replicate_succ,List.foldl_cons,whm x n,List.replicate_succ];simp
theorem wb6 (x:Tx):(mk x).length=x.length:=by show x.toArray.size=_;rw [List.size_toArray]
theorem wrZ {c:Nat} {n:Int}:PySem.Txt.mul (mk [c]) n=mk (List.replicate n.toNat c):=by
 unfold PySem.Txt.mul
 by_cases h:n<1
 ·rw [if_pos h,show n.toNat=0 by omega];rfl
 ·rw [if_neg h]
  by_cases h1:n=1
  ·subst h1;rfl
  ·rw [if_neg (by simp [h1,Str.length])]
   rw [whm];simp
theorem wmr {c:Nat} {n:Int} (h0:0<=n) (h:n<10000):MulOk (mk [c]) n:=by
 have hl:(mk [c]).length=1:=rfl
 refine ⟨by simp;omega,fun h1 _=>?_,fun _ _=>?_⟩
 ·rw [hl]
  have:(1:Int)<=(2 ^ 63 - 1) / n:=Int.le_ediv_of_mul_le (by omega) (by omega)
  omega
 ·rw [hl];simp [Builtin.Str.tooLong,sizeLine];omega
theorem postIf {c:Prop} [i:Decidable c] {x y:Made} (h:c->x.post Q s) (h':¬ c->y.post Q s):(if c then x else y).post Q s:=by
 cases i with
 | isTrue q=>exact h q
 | isFalse q=>exact h' q
theorem wo7 {x:Tx} (h:((mk x).length==0)=true):x=[]:=List.eq_nil_of_length_eq_zero (wb6 x ▸ eq_of_beq h)
theorem ws2 (x y:Tx):mk x++mk y=mk (x++y):=by show Str.append _ _=_;simp [Str.append]
theorem waA {n:Nat} (h:n<=cap):n<=sizeLine:=Nat.le_trans h (by decide)
theorem wjV {x y:Tx} {t u:Tok} (hz:x.length+y.length<=cap) (hF:F.In s.heap) (k:Cont C F s (.str (x++y)) Q) :
  (if (mk x).length==0 then Made.val (.str (mk y) u) else if (mk y).length==0 then Made.val (.str (mk x) t) else Made.str (mk x++mk y)).post Q s:=
 postIf (fun q=>k.here hF rfl (by rw [wo7 q];exact .mk _)) fun _=>postIf (fun q=>k.here hF rfl (by rw [wo7 q,List.append_nil];exact .mk _)) fun _=>by
  rw [ws2]
  exact ⟨by rw [wb6,List.length_append];exact waA hz,k.here hF rfl (.mk _)⟩
theorem wmq {l:Addr} {items:Array Value} {n:Nat} {x:Int} {u:Tok} (hl:s.heap.get? l=some { cls:=.type "list",data:=.seq items n })
  (hlo:-(2 ^ 63:Int)<=x) (hhi:x<2 ^ 63) (hsz:items.size * x.toNat<=2 ^ 24)
  (h:Q (.ref s.heap.objs.size) { s with heap:=s.heap.push { cls:=.type "list",data:=.seq (List.foldl (fun x1 x2=>x1++x2) #[] (List.replicate (if items.isEmpty=true then 0 else x.toNat) items)) } }) :
  wpAny (model C.prog C.w) A (binaryOp .Mult (.ref l) (.int x u)) Q E s:=
 wpAny_binaryOp_repeat_ref (T:="list") (U:="int") (by decide) ⟨_,hl,rfl⟩ (fun s'=>typeIs_int s' x u) noFill_list_mul F.fills_int_mul F.slot_int_rmul repeat_list F.slot_int_index.lookup
  (call_meets F.slot_int_rmul (typeIs_int s x u) F.entry_int_rmul (F.args_int_rmul_2 _ _) (int___rmul___int_list x u l items n)
   ⟨hl,rfl,⟨_,hl,rfl⟩,call_meets F.slot_list_mul ⟨_,hl,rfl⟩ F.entry_list_mul (F.args_list_mul_2 _ _)
    (AutoListH.list___mul___list_int_3 l items n x u (by simp [Builtin.List.listFitsIndex];omega) (by omega) (by simp [Builtin.List.listTooLong,sizeLine];omega))
    ⟨hl,h⟩⟩)
theorem wk0 {vs:Array Value} {n:Nat} (e:vs.size=n) (h:n≠0):¬ vs.isEmpty=true:=fun q=>h (by rw [<- e];simpa using q)
theorem wkZ {vs us:Array Value} {n m:Nat} (e:vs.size=n) (e':us.size=m) (h:n+m<=cap):vs.size+us.size<=sizeLine:=by rw [e,e'];exact waA h
theorem wsA {a b:Value} {da db:D} (e:addD da db=some d) (va:View C s.heap F a da) (vb:View C s.heap F b db) (hF:F.In s.heap)
  (k:Cont C F s d Q):wpAny (model C.prog C.w) A (binaryOp .Add a b) Q E s:=by
 cases da with
 | int x=>cases va;apply intV e vb;intro y t e;exact P.add_int ((k.of e).here hF rfl (.mk _))
 | str x=>cases va;apply strV e vb;intro y t e;exact ifE e fun hz e=>P.add_str (wjV hz hF (k.of e))
 | list x=>cases va with | mk hl r=>
  apply listV e vb;intro y a' vs n hl' r' e;exact ifE e fun hz e=>P.add_list hl hl' ((k.of e).push hF rfl rfl ((wis r r').new (wbC hF))) (wkZ r.size r'.size hz)
 | tuple x=>cases va with | mk hl r=>
  apply tupV e vb;intro y a' vs n hl' r' e;exact ifE e fun hz e=>P.add_tuple hl hl' (wk0 r.size hz.2.1) (wk0 r'.size hz.2.2) ((k.of e).push hF rfl rfl ((wis r r').new (wbC hF))) (wkZ r.size r'.size hz.1)
 | none=>exact noneE e
 | bool=>exact noneE e
 | dict=>exact noneE e
 | obj=>exact noneE e
 | set=>exact noneE e
theorem wr0 {a b:Value} {da db:D} (e:mulD da db=some d) (va:View C s.heap F a da) (vb:View C s.heap F b db) (hF:F.In s.heap)
  (k:Cont C F s d Q):wpAny (model C.prog C.w) A (binaryOp .Mult a b) Q E s:=by
 cases da with
 | int x=>cases va;apply intV e vb;intro y t e;exact ifE e fun hz e=>P.mul_int ((k.of e).here hF rfl (.mk _)) (IntMulOk.of_left (wgt hz))
 | str x=>cases va;apply intV e vb;intro y t e;refine ifE e fun hz e=>?_;obtain ⟨h1,h2,h3⟩:=hz;obtain ⟨c,rfl⟩:=List.length_eq_one_iff.mp h1;exact SB.mul (wmr h2 h3) fun t' tk=>by rw [wrZ];exact (k.of e).here hF rfl (.mk _)
 | list x=>cases va with | @mk l vs n hl r=>
  apply intV e vb;intro y t e;refine ifE e fun hz e=>?_
  obtain ⟨h1,h2,h3⟩:=hz
  obtain ⟨c,rfl⟩:=List.length_eq_one_iff.mp h1
  obtain ⟨vs⟩:=vs
  cases r with | mk r r0=>
  cases r0
  refine wmq hl (by omega) (by omega) (by show 1 * _<=_;omega) ((k.of e).push hF rfl rfl (.mk (FH.put_self _ _ _) ?_))
  rw [if_neg (by simp),whm]
  simp only [List.nil_append,wiM]
  exact RepAll.mono (wbC hF) _ (RepAll.replicate r _)
 | none=>exact noneE e
 | bool=>exact noneE e
 | dict=>exact noneE e
 | obj=>exact noneE e
 | set=>exact noneE e
 | tuple=>exact noneE e
theorem wdJ {α:Type} {M:Value->Value->Prop} {G:FH} {r:α} {da db:D} {a b:Value} {k:Int->Int->Option α} (h:wdD da db k=some r) (va:Vw C F da G a) (vb:Vw C F db G b) (f:∀ x t y u,k x y=some r->M (.int x t) (.int y u)):M a b:=
 intV (M:=fun a=>M a b) h va fun x t h=>intV h vb fun y u h=>f x t y u h
theorem wra {op:Operator} {a b:Value} {da db:D} (e:binop op da db=some d) (va:View C s.heap F a da) (vb:View C s.heap F b db) (hF:F.In s.heap)
  (k:Cont C F s d Q):wpAny (model C.prog C.w) A (binaryOp op a b) Q E s:=by
 cases op<;>first | exact noneE e | skip
 ·exact wsA e va vb hF k
 ·apply wdJ e va vb;intro x t y u e;exact P.sub_int ((k.of e).here hF rfl (.mk _))
 ·exact wr0 e va vb hF k
 ·apply wdJ e va vb;intro x t y u e;exact ifE e fun hz e=>PyProof.Rows.mod_int' hz ((k.of e).here hF rfl (.mk _))
 ·apply wdJ e va vb;intro x t y u e;exact ifE e fun hz e=>PyProof.Rows.pow_int hz.1 (wqk hz.1 hz.2.1 hz.2.2) ((k.of e).here hF rfl (.mk _))
 ·apply wdJ e va vb;intro x t y u e;exact ifE e fun hz e=>PyProof.Rows.floordiv_int hz.1 ((k.of e).here hF rfl (.mk _)) (.inl (PyProof.noPylong_small (by omega)))
theorem wnP {a b:Value} {da db:D} (e:addI da db=some d) (ra:Rep C F a da) (rb:Rep C F b db) (hF:F.In s.heap)
  (k:Cont C F s d Q):wpAny (model C.prog C.w) A (inplaceOp .Add a b) Q E s:=by
 cases da<;>first | exact noneE e | skip
 ·cases ra;apply intV e rb;intro y t e;exact P.iadd_int ((k.of e).here hF rfl (.mk _))
 ·cases ra;apply strV e rb;intro y t e;exact ifE e fun hz e=>P.iadd_str (wjV hz hF (k.of e))
theorem wrz {op:UnaryOp} {a:Value} {da:D} (e:unop op da=some d) (va:View C s.heap F a da) (hF:F.In s.heap)
  (k:Cont C F s d Q):wpAny (model C.prog C.w) A (unaryOp op a) Q E s:=by
 cases op<;>first | exact noneE e | skip
 ·apply boolV e va;intro x e;exact PyProof.Rows.not_of (wpAny_truthy_bool ((k.of e).here hF rfl rfl))
 ·apply intV e va;intro x t e;exact P.neg_int ((k.of e).here hF rfl (.mk _))
end
section
variable {C:Fr} {F G:FH} {h:Heap}
mutual
theorem Vw.reads (hF:F.In h):∀ (d:D) {G:FH} {v:Value} {p:PyData},G.In h->toPy d=some p->Vw C F d G v->∃ as,Reads h v p as
 | .none,_,_,_,_,e,.refl _=>someE e fun e=>e ▸ ⟨_,.none⟩
 | .bool b,_,_,_,_,e,.refl _=>someE e fun e=>e ▸ ⟨_,.bool _⟩
 | .int b,_,_,_,_,e,.mk _=>someE e fun e=>e ▸ ⟨_,.int _ _⟩
 | .str b,_,_,_,_,e,.mk _=>someE e fun e=>e ▸ ⟨_,.str _ _⟩
 | .list xs,_,_,_,hG,e,.mk ho r=>mapE e fun ps e1 e=>let ⟨as,q⟩:=RepAll.reads hF xs e1 r;e ▸ ⟨_,.list (hG _ _ ho) rfl rfl q⟩
 | .tuple xs,_,_,_,hG,e,.mk ho r=>mapE e fun ps e1 e=>let ⟨as,q⟩:=RepAll.reads hF xs e1 r;e ▸ ⟨_,.tuple (hG _ _ ho) rfl rfl q⟩
 | .dict _,_,_,_,_,e,_=>noneE e
 | .obj _ _,_,_,_,_,e,_=>noneE e
 | .set _,_,_,_,_,e,_=>noneE e
theorem RepAll.reads (hF:F.In h):∀ (ds:List D) {vs:List Value} {ps:List PyData},toPys ds=some ps->RepAll C F ds vs->∃ as,ReadsAll h vs ps as
 | [],_,_,e,.refl _=>someE e fun e=>e ▸ ⟨_,.nil⟩
 | d::ds,_,_,e,.mk r1 r2=>bindE e fun p e1 e=>mapE e fun ps e2 e=>let ⟨as,q1⟩:=Vw.reads hF d hF e1 r1;let ⟨bs,q2⟩:=RepAll.reads hF ds e2 r2;e ▸ ⟨_,.cons q1 q2⟩
end
theorem RepKV.keys:∀ {kvs:List (Key×D)} {es:List (Key×Value)},RepKV C F kvs es->es.map (·.1)=kvs.map (·.1):=by
 intro kvs
 induction kvs with
 | nil=>intro es r;cases r;rfl
 | cons x l ih=>intro es r;cases r with | mk a b=>rw [List.map_cons,List.map_cons,a.1,ih b]
theorem RepKV.length {es:List (Key×Value)} {kvs:List (Key×D)} (r:RepKV C F kvs es):es.length=kvs.length:=by
 have:=congrArg List.length r.keys;rwa [List.length_map,List.length_map]at this
theorem wkW {k a:Key} {v:Value} {l:List (Key×Value)}:valueAt ((a,v)::l) k=if a=k then some v else valueAt l k:=by
 unfold valueAt
 by_cases q:a=k<;>simp [q]
theorem RepKV.get {es:List (Key×Value)} {kvs:List (Key×D)} (r:RepKV C F kvs es) (k:Key) :
  (kget k kvs=none/\valueAt es k=none)\/∃ d v,kget k kvs=some d/\valueAt es k=some v/\Rep C F v d:=by
 induction kvs generalizing es with
 | nil=>cases r;exact .inl ⟨rfl,rfl⟩
 | cons x l ih=>
  obtain ⟨k',d'⟩:=x
  cases r with | @mk p vs a b=>
  obtain ⟨pk,pv⟩:=p
  obtain ⟨e0,a⟩:=a
  have e0:pk=k':=e0
  rw [wkW]
  simp only [kget]
  rw [<- e0]
  by_cases q:pk=k
  ·rw [if_pos q,if_pos q];exact .inr ⟨_,_,rfl,rfl,a⟩
  ·rw [if_neg q,if_neg q];exact ih b
theorem toKeyE {P:Prop} {d:D} {k:Key} (e:toKey d=some k) (f:∀ i,d=.int i->k=.i i->P) (g:∀ x,d=.str x->k=.s x->P):P:=by
 cases d with
 | int i=>exact f i rfl (Option.some.inj e).symm
 | str x=>exact g x rfl (Option.some.inj e).symm
 | none=>exact noneE e
 | bool=>exact noneE e
 | list=>exact noneE e
 | tuple=>exact noneE e
 | dict=>exact noneE e
 | obj=>exact noneE e
 | set=>exact noneE e
theorem wcD {d:D} {k:Key} {v:Value} (e:toKey d=some k) (r:Vw C F d G v):(anyKind C.prog C.w).is k v=true:=by
 refine toKeyE e (fun i a b=>?_) fun x a b=>?_<;>subst a<;>subst b<;>cases r
 ·exact beq_self_eq_true i
 ·exact beq_self_eq_true (mk x)
end
section
variable {C:Fr} {F G:FH} {A:Around} {E:Value->Shared->Prop} {s:Shared} {Q:Value->Shared->Prop} {d:D}
theorem wtC {da db:D} {a b:Value} {r:Bool} (e:eqP da db=some r) (ra:Rep C F a da) (rb:Rep C F b db) (hF:F.In s.heap) (hu:A.in1.units+64<cLine) :
  SeqAt.EqAt A.in1 s a b r:=bindE e fun p e1 e=>bindE e fun q e2 e=>ifE e fun hs e=>by
 obtain ⟨as,x1⟩:=ra.reads hF _ hF e1
 obtain ⟨bs,x2⟩:=rb.reads hF _ hF e2
 rw [Bool.and_eq_true]at hs
 exact Option.some.inj e ▸ keq_at x1 x2 hs.1 hs.2 hu
theorem wsb {eb:List (Key×Value)} {kb:List (Key×D)} (rb:RepKV C F kb eb) (hF:F.In s.heap) (hu:A.in1.units+64<cLine)
  (ka:List (Key×D)) {ea:List (Key×Value)} {r:Bool} (e:hits kb ka=some r) (ra:RepKV C F ka ea):KeqHits A.in1 s eb ea r:=by
 induction ka generalizing ea r with
 | nil=>cases ra;cases e;exact .nil
 | cons x l ih=>
  obtain ⟨k',d'⟩:=x
  cases ra with | @mk p vs a r2=>
  obtain ⟨k,v⟩:=p
  obtain ⟨e0,r1⟩:=a
  have e0:k=k':=e0
  subst e0
  simp only [hits]at e
  rcases rb.get k with ⟨e1,e2⟩ | ⟨y,v,e1,e2,e3⟩
  ·rw [e1]at e;cases e;exact .miss e2
  ·rw [e1]at e
   exact bindE e fun x h1 e=>mapE e fun b h2 e=>e ▸ .hit e2 (wtC h1 r1 e3 hF hu) (ih h2 r2)
theorem wpy {P:Prop} {a b:Value} {da db:D} {r:Bool} (e:eqD da db=some r) (va:View C s.heap F a da) (vb:View C s.heap F b db) (hF:F.In s.heap) (hu:A.units+100<cLine)
  (dct:∀ x y es es',a=.ref x->b=.ref y->(x==sysModules)=false->(y==sysModules)=false->s.heap.DictOf (anyKind C.prog C.w) x es->s.heap.DictOf (anyKind C.prog C.w) y es'->(∃ r',(es.length=es'.length->KeqHits A.in1 s es' es r')/\(es.length==es'.length&&r')=r)->es.length+es'.length<2 ^ 60\/True->P)
  (red:∀ p q as bs,Reads s.heap a p as->Reads s.heap b q bs->SeqAt.shaped p=true->SeqAt.shaped q=true->PyData.eqv p q=r->P):P:=by
 have gen:eqP da db=some r->P:=fun e=>bindE e fun p e1 e=>bindE e fun q e2 e=>ifE e fun hs e=>by
  obtain ⟨as,x1⟩:=va.reads hF _ (fun _ _ e=>e) e1
  obtain ⟨bs,x2⟩:=vb.reads hF _ (fun _ _ e=>e) e2
  rw [Bool.and_eq_true]at hs
  exact red p q as bs x1 x2 hs.1 hs.2 (Option.some.inj e)
 cases da<;>first | exact gen e | skip
 rename_i ka
 cases va with | mk ex hx dx rx=>
 refine dictE e fun kb eb e=>?_
 subst eb
 cases vb with | mk ey hy dy ry=>
 have h1:=rx.length;have h2:=ry.length
 refine dct _ _ _ _ rfl rfl hx hy (Heap.dictOf_iff.mpr ⟨_,ex,dx⟩) (Heap.dictOf_iff.mpr ⟨_,ey,dy⟩) ?_ (.inr trivial)
 refine iteE e (fun hl e=>⟨r,fun _=>wsb ry hF (by simp;omega) _ e rx,by rw [h1,h2,hl,beq_self_eq_true,Bool.true_and]⟩) fun hl e=>⟨false,fun q=>absurd (by omega) hl,?_⟩
 rw [Bool.and_false];exact Option.some.inj e
theorem wuG {a b:Value} {da db:D} {r:Bool} (e:eqD da db=some r) (va:View C s.heap F a da) (vb:View C s.heap F b db) (hF:F.In s.heap)
  (hu:A.units+100<cLine) (k:Q (.bool r) s):wpAny (model C.prog C.w) A (compareOp .Eq a b) Q E s:=
 wpy e va vb hF hu (fun x y es es' ea eb hx hy dx dy ⟨r',hh,er⟩ _=>by subst ea;subst eb;subst er;exact keq_eq hx hy dx dy (by omega) hh k)
  fun p q as bs x1 x2 h1 h2 er=>by subst er;exact SeqAt.compareEq_shaped x1 x2 h1 h2 (by omega) k
theorem wuf {a b:Value} {da db:D} {r:Bool} (e:eqD da db=some r) (va:View C s.heap F a da) (vb:View C s.heap F b db) (hF:F.In s.heap)
  (hu:A.units+100<cLine) (k:Q (.bool (!r)) s):wpAny (model C.prog C.w) A (compareOp .NotEq a b) Q E s:=
 wpy e va vb hF hu (fun x y es es' ea eb hx hy dx dy ⟨r',hh,er⟩ _=>by subst ea;subst eb;subst er;exact keq_ne hx hy dx dy (by omega) hh k)
  fun p q as bs x1 x2 h1 h2 er=>by subst er;exact SeqAt.compareNe_shaped x1 x2 h1 h2 (by omega) k
noncomputable def valEq:Value->Value->Bool
 | .int a _,.int b _=>a==b
 | .str a _,.str b _=>a==b
 | _,_=>false
theorem wo8 (a b:Tx):(mk a==mk b)=decide (a=b):=by
 by_cases h:a=b
 ·subst h;rw [beq_self_eq_true,decide_eq_true rfl]
 ·rw [decide_eq_false h,beq_eq_false_iff_ne];exact fun e=>h (wjC e)
theorem eqSV {M:Value->Value->Prop} {y x:D} {vy vx:Value} {r:Bool} {G':FH} (e:eqS y x=some r) (ry:Vw C F y G vy) (rx:Vw C F x G' vx) (f:∀ i t j u,decide (i=j)=r->M (.int i t) (.int j u)) (g:∀ i t j u,decide (i=j)=r->M (.str (mk i) t) (.str (mk j) u)):M vy vx:=by
 cases y<;>first | exact noneE e | skip
 ·cases ry;apply intV e rx;intro j u e;exact f _ _ j u (Option.some.inj e)
 ·cases ry;apply strV e rx;intro j u e;exact g _ _ j u (Option.some.inj e)
theorem wpx {y x:D} {vy vx:Value} {r:Bool} (e:eqS y x=some r) (ry:Rep C F vy y) (rx:Rep C F vx x):valEq vy vx=r/\SeqAt.EqAt A s vy vx r:=by
 apply eqSV e ry rx
 ·intro i t j u q;exact ⟨q,fun prog w E Q hq=>wpAny_eqBool_int (by rw [show (i==j)=r from q];exact hq)⟩
 ·intro i t j u q;exact ⟨(wo8 i j).trans q,fun prog w E Q hq=>wpAny_eqBool_str (by rw [show decide (mk i=mk j)=r from (wo8 i j).trans q];exact hq)⟩
end
section
variable {C:Fr} {F G:FH} {A:Around} {E:Value->Shared->Prop} {s:Shared} {Q:Value->Shared->Prop} {d:D}
theorem wr3 {x:D} {vx:Value} (rx:Rep C F vx x) (ys:List D) {vs:List Value} {r:Bool} (e:memP x ys=some r) (rs:RepAll C F ys vs) :
  (vs.any fun v=>valEq v vx)=r/\∀ v∈vs,SeqAt.EqAt A s v vx (valEq v vx):=by
 induction ys generalizing vs r with
 | nil=>cases rs;cases e;exact ⟨rfl,fun v h=>memE h⟩
 | cons y ys ih=>cases rs with | mk r1 r2=>
  refine bindE e fun b e1 e=>mapE e fun c e2 e=>?_
  subst e
  have h1:=wpx (A:=A) (s:=s) e1 r1 rx
  have h2:=ih e2 r2
  refine ⟨by rw [List.any_cons,h1.1,h2.1],fun v hv=>?_⟩
  rcases List.mem_cons.mp hv with rfl | hv
  ·rw [h1.1];exact h1.2
  ·exact h2.2 v hv
inductive InF (C:Fr) (A:Around) (s:Shared) (a b:Value) (r:Bool):Prop
 | dict {k:Key} {d:Addr} {f:Key->Option Value}:b=.ref d->(anyKind C.prog C.w).is k a=true->(d==sysModules)=false->s.heap.MapOf (anyKind C.prog C.w) d f->(f k).isSome=r->InF C A s a b r
 | set {i:Int} {d:Addr} {S:Int->Bool} {n:Nat}:b=.ref d->(intKind C.prog C.w).is i a=true->a.scannable=true->s.heap.SetOf (intKind C.prog C.w) d S n->S i=r->InF C A s a b r
 | list {d:Addr} {vs:Array Value}:b=.ref d->s.heap.IsList d vs->(∀ y,y∈vs->SeqAt.EqAt A.in1 s y a (valEq y a))->(vs.any fun v=>valEq v a)=r->InF C A s a b r
 | tuple {d:Addr} {vs:Array Value}:b=.ref d->s.heap.IsTuple d vs->(∀ y,y∈vs->SeqAt.EqAt A.in1 s y a (valEq y a))->(vs.any fun v=>valEq v a)=r->InF C A s a b r
theorem wko {x:D} {ys:List D} {a:Value} {r:Bool} {vs:Array Value} (e:memP x ys=some r) (va:View C s.heap F a x) (rl:RepAll C F ys vs.toList) :
  (∀ y,y∈vs->SeqAt.EqAt A.in1 s y a (valEq y a))/\(vs.any fun v=>valEq v a)=r:=by
 obtain ⟨vs⟩:=vs
 cases ys with
 | nil=>cases rl;cases e;exact ⟨fun y hy=>by simp at hy,by simp⟩
 | cons y ys=>
  have rx:Rep C F a x:=bindE (show (eqS y x).bind _=some r from e) fun b e1 _=>by
   cases y<;>first | exact noneE e1 | skip
   ·exact intE e1 fun i q _=>by subst q;exact va
   ·exact strE e1 fun i q _=>by subst q;exact va
  have h:=wr3 (A:=A.in1) (s:=s) rx _ e rl
  exact ⟨fun y hy=>h.2 y (Array.mem_toList_iff.mpr hy),by rw [<- Array.any_toList];exact h.1⟩
theorem waC {h:Heap} {a:Addr} {vs:Array Value} {n:Nat} (e:h.get? a=some { cls:=.type "list",data:=.seq vs n }):h.PlainList a vs:=⟨n,e⟩
theorem wd9 {h:Heap} {a:Addr} {vs:Array Value} {n:Nat} (e:h.get? a=some { cls:=.type "tuple",data:=.seq vs n }):h.IsTuple a vs:=⟨_,e,rfl,_,rfl⟩
theorem wlV {a b:Value} {da db:D} {r:Bool} (e:inD da db=some r) (va:View C s.heap F a da) (vb:View C s.heap F b db):InF C A s a b r:=by
 cases db<;>first | exact noneE e | skip
 ·cases vb with | mk e2 q=>exact let h:=wko (A:=A) e va q;.list rfl (waC e2).isList h.1 h.2
 ·cases vb with | mk e2 q=>exact let h:=wko (A:=A) e va q;.tuple rfl (wd9 e2) h.1 h.2
 ·cases vb with | mk e2 hy dy ry=>
  refine mapE e fun kk e1 e=>.dict rfl (wcD e1 va) hy (Heap.dictOf_iff.mpr ⟨_,e2,dy⟩).mapOf (e ▸ ?_)
  unfold khas
  rcases ry.get kk with ⟨h1,h2⟩ | ⟨_,_,h1,h2,_⟩<;>rw [h1,h2]<;>rfl
 ·cases vb with | mk h1 h2 h3=>
  apply intV e va;intro i t e
  exact .set rfl (intKind_is C.prog C.w _ _) rfl (h3.setOf h1 h2) (Option.some.inj e)
theorem wup {a b:Value} {da db:D} {r:Bool} (e:inD da db=some r) (va:View C s.heap F a da) (vb:View C s.heap F b db)
  (k:∀ s':Shared,s'.heap=s.heap->Calm s s'->Q (.bool r) s'):wpAny (model C.prog C.w) A (compareOp .In a b) Q E s:=by
 cases wlV (A:=A) e va vb with
 | dict e1 h1 h2 h3 h4=>subst e1;exact wpAny_in_of h1 h2 h3 (h4 ▸ k _ rfl ⟨rfl,fun x=>x⟩)
 | set e1 h1 h2 h3 h4=>subst e1;exact wpAny_inSet_of h1 h2 h3 (h4 ▸ k _ rfl ⟨rfl,fun x=>x⟩)
 | list e1 h1 h2 h3=>subst e1;exact SeqAt.in_listAt (fun v=>valEq v a) h1 h2 (h3 ▸ k _ rfl ⟨rfl,fun x=>x⟩)
 | tuple e1 h1 h2 h3=>subst e1;exact SeqAt.in_tupleAt (fun v=>valEq v a) h1 h2 (h3 ▸ k _ rfl ⟨rfl,fun x=>x⟩)
theorem wqs {a b:Value} {da db:D} {r:Bool} (e:inD da db=some r) (va:View C s.heap F a da) (vb:View C s.heap F b db)
  (k:∀ s':Shared,s'.heap=s.heap->Calm s s'->Q (.bool (!r)) s'):wpAny (model C.prog C.w) A (compareOp .NotIn a b) Q E s:=by
 cases wlV (A:=A) e va vb with
 | dict e1 h1 h2 h3 h4=>subst e1;exact wpAny_notIn_of h1 h2 h3 (h4 ▸ k _ rfl ⟨rfl,fun x=>x⟩)
 | set e1 h1 h2 h3 h4=>subst e1;exact wpAny_notInSet_of h1 h2 h3 (h4 ▸ k _ rfl ⟨rfl,fun x=>x⟩)
 | list e1 h1 h2 h3=>subst e1;exact SeqAt.notIn_listAt (fun v=>valEq v a) h1 h2 (h3 ▸ k _ rfl ⟨rfl,fun x=>x⟩)
 | tuple e1 h1 h2 h3=>subst e1;exact SeqAt.notIn_tupleAt (fun v=>valEq v a) h1 h2 (h3 ▸ k _ rfl ⟨rfl,fun x=>x⟩)
inductive IsF:Value->Value->Bool->Prop
 | nn:IsF .none .none true
 | nb (b):IsF .none (.bool b) false
 | bn (b):IsF (.bool b) .none false
 | bb (a b):IsF (.bool a) (.bool b) (a==b)
 | sn (x t):IsF (.str x t) .none false
theorem wlS {a b:Value} {da db:D} {r:Bool} (e:isD da db=some r) (va:Vw C F da G a) (vb:Vw C F db G b):IsF a b r:=by
 cases da<;>first | exact noneE e | skip
 ·cases va;cases db<;>first | exact noneE e | skip
  ·cases vb;cases e;exact .nn
  ·cases vb;cases e;exact .nb _
 ·cases va;cases db<;>first | exact noneE e | skip
  ·cases vb;cases e;exact .bn _
  ·cases vb;cases e;exact .bb _ _
 ·cases va;cases db<;>first | exact noneE e | skip
  ·cases vb;cases e;exact .sn _ _
theorem wuo {a b:Value} {r:Bool} (e:IsF a b r) (k:Q (.bool r) s):wpAny (model C.prog C.w) A (compareOp .Is a b) Q E s:=by
 cases e
 ·exact is_none_none k
 ·exact wpAny_pure k
 ·exact is_bool_none k
 ·exact is_bool k
 ·exact is_str_none k
theorem wqM {a b:Value} {r:Bool} (e:IsF a b r) (k:Q (.bool (!r)) s):wpAny (model C.prog C.w) A (compareOp .IsNot a b) Q E s:=by
 cases e
 ·exact isnot_none_none k
 ·exact wpAny_pure k
 ·exact isnot_bool_none k
 ·exact isnot_bool k
 ·exact isnot_str_none k
theorem ltSV {M:Value->Value->Prop} {x y:D} {vx vy:Value} {r:Bool} {G':FH} (e:ltS x y=some r) (rx:Vw C F x G vx) (ry:Vw C F y G' vy) (f:∀ i t j u,decide (i<j)=r->M (.int i t) (.int j u)) (g:∀ i t j u,decide (i<j)=r->M (.str (mk i) t) (.str (mk j) u)):M vx vy:=by
 cases x<;>first | exact noneE e | skip
 ·cases rx;apply intV e ry;intro j u e;exact f _ _ j u (Option.some.inj e)
 ·cases rx;apply strV e ry;intro j u e;exact g _ _ j u (Option.some.inj e)
theorem wug {a b:Value} {da db:D} {r:Bool} (e:ltS da db=some r) (va:Vw C F da G a) (vb:Vw C F db G b)
  (k:Q (.bool r) s):wpAny (model C.prog C.w) A (compareOp .Lt a b) Q E s:=by
 apply ltSV e va vb
 ·intro i t j u q;exact P.lt_int (q ▸ k)
 ·intro i t j u q;exact P.lt_str (q ▸ k)
theorem wur {a b:Value} {da db:D} {r:Bool} (e:ltS db da=some r) (va:Vw C F da G a) (vb:Vw C F db G b)
  (k:Q (.bool r) s):wpAny (model C.prog C.w) A (compareOp .Gt a b) Q E s:=by
 apply ltSV (M:=fun b a=>wpAny (model C.prog C.w) A (compareOp .Gt a b) Q E s) e vb va
 ·intro i t j u q;exact P.gt_int (q ▸ k)
 ·intro i t j u q;exact P.gt_str (q ▸ k)
theorem wpF {op:CmpOp} {a b:Value} {da db:D} {r:Bool} (e:cmpD op da db=some r) (va:View C s.heap F a da) (vb:View C s.heap F b db) (hF:F.In s.heap)
  (hu:A.units+100<cLine) (k:∀ s':Shared,s'.heap=s.heap->Calm s s'->Q (.bool r) s'):wpAny (model C.prog C.w) A (compareOp op a b) Q E s:=by
 have k₀:=k s rfl (.refl s)
 cases op with
 | Eq=>exact wuG e va vb hF hu k₀
 | NotEq=>exact mapE e fun x e1 e=>wuf e1 va vb hF hu (e ▸ k₀)
 | Lt=>exact wug e va vb k₀
 | Gt=>exact wur e va vb k₀
 | LtE=>apply wdJ e va vb;intro x t y u e;exact P.le_int (Option.some.inj e ▸ k₀)
 | GtE=>apply wdJ e va vb;intro x t y u e;exact P.ge_int (Option.some.inj e ▸ k₀)
 | Is=>exact wuo (wlS e va vb) k₀
 | IsNot=>exact mapE e fun x e1 e=>wqM (wlS e1 va vb) (e ▸ k₀)
 | In=>exact wup e va vb k
 | NotIn=>exact mapE e fun x e1 e=>wqs e1 va vb (e ▸ k)
theorem nthE {α:Type} {P:Prop} {xs:List α} {i:Int} {x:α} (e:nth xs i=some x) (f:0<=i->i<xs.length->i<100000->xs[i.toNat]?=some x->P)
  (g:i<0->-(xs.length:Int)<=i->-100000<i->xs[(i+xs.length).toNat]?=some x->P):P:=
 iteE e (fun h e=>ifE e fun h2 e=>f h (by have:=(List.getElem?_eq_some_iff.mp e).1;omega) h2 e) fun h e=>ifE e fun h2 e=>g (by omega) h2.1 h2.2 e
theorem wk2 {i:Int} {n:Nat} (h0:0<=i) (h1:i<n):seqIndex? i n=some i.toNat:=by
 unfold seqIndex?
 dsimp only
 rw [if_neg (Int.not_lt.mpr h0)]
 exact if_pos (by rw [decide_eq_true h0,decide_eq_true h1];rfl)
theorem wk3 {i:Int} {n:Nat} (h0:i<0) (h1:-(n:Int)<=i):seqIndex? i n=some (i+n).toNat:=by
 unfold seqIndex?
 dsimp only
 rw [if_pos h0]
 exact if_pos (by rw [decide_eq_true (show 0<=i+n by omega),decide_eq_true (show i+n<n by omega)];rfl)
theorem nthI {α:Type} {P:Prop} {xs:List α} {i:Int} {x:α} (e:nth xs i=some x) (f:∀ j,seqIndex? i xs.length=some j->xs[j]?=some x->-(2 ^ 63:Int)<=i->i<2 ^ 63->P):P:=
 nthE e (fun h0 h1 h2 e=>f _ (wk2 h0 h1) e (by omega) (by omega)) fun h0 h1 h2 e=>f _ (wk3 h0 h1) e (by omega) (by omega)
theorem wiQ {slice:Expr} {o i:Value} (h:isSliceE slice=false):subscripted slice false o i=operate [o,i] (getItem o i):=by
 cases slice<;>first | rfl | exact ffE h.symm
theorem wjI {l:Addr} {vs:Array Value} {n:Nat} {xs:List D} {i:Int} {t:Tok} (hl:s.heap.get? l=some { cls:=.type "list",data:=.seq vs n }) (r:RepAll C F xs vs.toList) (e:nth xs i=some d) (hF:F.In s.heap) (k:Cont C F s d Q) :
  wpAny (model C.prog C.w) A (getItem (.ref l) (.int i t)) Q E s:=by
 have hz:=r.size
 refine nthE e (fun h0 h1 h2 e=>?_) fun h0 h1 h2 e=>?_<;>obtain ⟨v,e1,r⟩:=r.get e<;>rw [Array.getElem?_toList]at e1
 ·exact wpAny_getItem_list (waC hl).isList h0 (by omega) e1 (k.here hF rfl r)
 ·exact wpAny_getItem_list_neg (waC hl).isList h0 (by omega) (by omega) (by rw [hz];exact e1) (k.here hF rfl r)
theorem wnC {o i:Value} {do' di:D} (e:Py.sub do' di=some d) (vo:View C s.heap F o do') (ri:Rep C F i di) (hF:F.In s.heap) (k:Cont C F s d Q):wpAny (model C.prog C.w) A (getItem o i) Q E s:=by
 cases do'<;>first | exact noneE e | skip
 ·cases vo;apply intV e ri;intro i t e
  refine mapE e fun c e1 e2=>?_
  refine nthI e1 fun j hj ej b1 b2=>P.getItem_str (by simp;omega) (by rw [wb6,hj];exact (List.getElem?_toArray).trans ej) ((k.of (congrArg some e2)).here hF rfl (.mk (x:=[c]) _))
 ·cases vo with | mk hl r=>apply intV e ri;intro i t e;exact wjI hl r e hF k
 ·cases vo with | mk hl r=>
  apply intV e ri;intro i t e
  have hz:=r.size
  refine nthI e fun j hj ej b1 b2=>?_
  obtain ⟨v,e1,r⟩:=r.get ej
  exact P.getItem_tuple hl (by omega) (by omega) (hz ▸ hj) (by rw [<- Array.getElem?_toList];exact e1) (k.here hF rfl r)
 ·cases vo with | mk ho hy dy ry=>
  refine bindE e fun kk e1 e2=>?_
  rcases ry.get kk with ⟨h1,_⟩ | ⟨d',v,h1,h2,r⟩
  ·rw [h1]at e2;exact noneE e2
  ·rw [h1]at e2
   exact wpAny_getItem_of (wcD e1 ri) (Heap.dictOf_iff.mpr ⟨_,ho,dy⟩).mapOf h2 ((k.of e2).here hF rfl r)
theorem sub_ok {o i:Value} {do' di:D} {value slice:Expr} (hs:isSliceE slice=false) (e:Py.sub do' di=some d) (vo:View C s.heap F o do') (ri:Rep C F i di) (hF:F.In s.heap)
  (k:Cont C F s d Q):wpAny (model C.prog C.w) A (subscriptTail value slice o i) Q E s:=by
 have hs':=fun {o i:Value}=>wiQ (o:=o) (i:=i) hs
 have it:=wnC (A:=A) (E:=E) e vo ri hF k
 cases do'<;>first | exact noneE e | skip
 ·cases vo;exact tail_any (typeIs_str _ _ _) PySem.F.slot_str_getitem.lookup it hs'
 ·cases vo with | mk hl r=>exact tail_any (waC hl).isList.typeIs slot_list_getitem.lookup it hs'
 ·cases vo with | mk hl r=>exact tail_any ⟨_,hl,rfl⟩ slot_tuple_getitem.lookup it hs'
 ·cases vo with | mk ho hy dy ry=>exact tail_any (Heap.dictOf_iff.mpr ⟨_,ho,dy⟩).typeIs slot_dict_getitem.lookup it hs'
end
section
variable {C:Fr} {F:FH} {A:Around} {E:Value->Shared->Prop} {s:Shared} {Q:Value->Shared->Prop} {d:D}
theorem wcj {a b:Option Expr} {p:Pos} {o i:Value}:subscripted (.Slice a b none p) false o i=operate [i,o] (getItem o i):=rfl
theorem wkE (n:Nat) (i:Int):clipAt n i<=n:=Int.ofNat_le.mp (by rw [clipAt_cast];exact Int.max_le.mpr ⟨Int.natCast_nonneg n,Int.min_le_right _ _⟩)
theorem wrE (lo hi:Option Int) (n:Nat):Builtin.Str.strSliceIndices lo hi 1 n=(List.range (hi.elim n (clipAt n) - lo.elim 0 (clipAt n))).map (lo.elim 0 (clipAt n)+·):=by
 rw [<- sliceRange_one]
 unfold Builtin.Str.strSliceIndices
 cases lo<;>cases hi<;>simp [clipAt_cast]
theorem partVal {v:Value} {o:Option Int} (p:IsPart v o):∃ l:Option (Int×Tok),v=partValue l/\l.map (·.1)=o:=by
 cases p with
 | none=>exact ⟨none,rfl,rfl⟩
 | int i t=>exact ⟨some (i,t),rfl,rfl⟩
noncomputable abbrev slc (vl vu:Value):Obj:={ cls:=.type "slice",data:=.fields #[vl,vu,.none] }
theorem wpB {x:Tx} {t:Tok} {vl vu:Value} {lo hi:Option Int} (pl:IsPart vl lo) (pu:IsPart vu hi) (hz:x.length<=cap) {o:Addr} (ho:s.heap.get? o=some (slc vl vu))
  (k:∀ tk,Q (.str (mk (cut lo hi x)) tk) s/\Q (.str (mk (cut lo hi x)) tk) { s with toks:=s.toks+1 }):wpAny (model C.prog C.w) A (getItem (.str (mk x) t) (.ref o)) Q E s:=by
 obtain ⟨l,rfl,hl⟩:=partVal pl
 obtain ⟨u,rfl,hu⟩:=partVal pu
 have hp:slicePicked (mk x) l u none=(List.range (hi.elim x.length (clipAt x.length) - lo.elim 0 (clipAt x.length))).map (lo.elim 0 (clipAt x.length)+·):=by
  unfold slicePicked
  rw [hl,hu,wb6];exact wrE lo hi x.length
 refine wpAny_getItem_str_slice (l:=l) (u:=u) (st:=none) ⟨_,ho,rfl,rfl⟩ rfl ?_
 unfold sliceMade
 rw [hp]
 have ha:lo.elim 0 (clipAt x.length)<=x.length:=by cases lo<;>simp [wkE]
 have hb:hi.elim x.length (clipAt x.length)<=x.length:=by cases hi<;>simp [wkE]
 refine postIf (fun hc=>?_) fun _=>?_
 ·have:cut lo hi x=x:=by
   unfold cut
   simp [Str.length]at hc
   rw [show lo.elim 0 (clipAt x.length)=0 by omega,show hi.elim x.length (clipAt x.length)=x.length by omega];exact List.take_length
  rw [this]at k;exact (k t).1
 ·refine ⟨?_,?_⟩
  ·show (List.filterMap _ _).toArray.size<=sizeLine
   rw [pick_run,List.size_toArray,List.length_take,List.length_drop];exact waA (by omega)
  ·rw [pick_run];exact (k _).2
theorem wtF {o vl vu:Value} {do':D} {lo hi:Option Int} {value:Expr} {a b:Option Expr} {p:Pos} {q:Addr} (pl:IsPart vl lo) (pu:IsPart vu hi) (e:cutD lo hi do'=some d)
  (vo:View C s.heap F o do') (hF:F.In s.heap) (hq:s.heap.get? q=some (slc vl vu)) (k:Cont C F s d Q):wpAny (model C.prog C.w) A (subscriptTail value (.Slice a b none p) o (.ref q)) Q E s:=by
 cases do'<;>first | exact noneE e | skip
 ·cases vo
  exact ifE e fun hz e=>tail_any (typeIs_str _ _ _) PySem.F.slot_str_getitem.lookup (wpB pl pu hz hq fun tk=>⟨(k.of e).here hF rfl (.mk _),(k.of e).here hF rfl (.mk _)⟩) wcj
 ·cases vo with | mk hl rl=>
  refine ifE e fun hz e=>tail_any (waC hl).isList.typeIs slot_list_getitem.lookup ?_ wcj
  have hz':=rl.size
  refine wpAny_getItem_list_slice (waC hl).isList ⟨_,hq,rfl,rfl⟩ pl pu .none (by simp) ((k.of e).push hF rfl rfl (.mk (FH.put_self _ _ _) ?_)) (waA (by omega))
  rw [slicePick_plain,hz']
  exact RepAll.mono (wbC hF) _ ((rl.drop _).take _)
 ·cases vo with | mk hl rl=>
  cases lo with
  | none=>exact noneE e
  | some i=>cases hi with
  | some=>exact noneE e
  | none=>
  refine ifE e fun hz e=>tail_any ⟨_,hl,rfl⟩ slot_tuple_getitem.lookup ?_ wcj
  cases pl;cases pu
  have hz':=rl.size
  obtain ⟨j,rfl⟩:=Int.eq_ofNat_of_zero_le (show 0<=i by omega)
  exact getItem_tuple_from ⟨_,hl,rfl,_,rfl⟩ ⟨_,hq,rfl,rfl⟩ (a:=j) (by omega) (by omega) ((k.of e).push hF rfl rfl (.mk (FH.put_self _ _ _) (RepAll.mono (wbC hF) _ (rl.drop _)))) (waA (by omega))
end
open AutoSeq1 (wpAny_loadPart')
open MeetsSeq MeetsSeq2 MeetsSeq3 SeqRoads2 SeqAt
noncomputable def RcOp (op:CmpOp) (A:Around) (s:Shared) (x y:Value) (b:Bool):Prop:=
 ∀ (prog:Program) (w:World) (E:Value->Shared->Prop) (Q:Value->Shared->Prop),Q (.bool b) s->wpAny (model prog w) A (richCompare op x y) Q E s
inductive OrdAt (op:CmpOp) (A:Around) (s:Shared):List Value->List Value->Bool->Prop
 | ends {xs ys r}:xs=[]\/ys=[]->(∀ i,Builtin.Tuple.tupleCompareSizes op (i+xs.length) (i+ys.length)=.bool r)->OrdAt op A s xs ys r
 | eq {x y xs ys r}:EqAt A s x y true->OrdAt op A s xs ys r->OrdAt op A s (x::xs) (y::ys) r
 | ne {x y xs ys r}:EqAt A s x y false->RcOp op A s x y r->OrdAt op A s (x::xs) (y::ys) r
theorem wn1 (l b:Addr) (items items2:Array Value) (n n2:Nat) (r:Bool) :
  Meets (Builtin.«tuple.__lt__» ⟨[.ref l,.ref b],[]⟩)
   (fun A R s=>s.heap.get? l=some { cls:=.type "tuple",data:=.seq items n }/\s.heap.get? b=some { cls:=.type "tuple",data:=.seq items2 n2 } /\
    OrdAt .Lt A.in1 s items.toList items2.toList r/\R (.ok (.ret (.bool r))) s):=
 .of_wp fun prog w A R s h=>by
  obtain ⟨hp,g,d,tk,os⟩:=s;obtain ⟨hl,hb,he,h⟩:=h
  have f2:=AutoSeq1.sub_tuple_tuple
  wp_walk using wpAny_loadPart' hl,wpAny_loadPart' hb,wpAny_forIn_list _ (fun rest b s'=>b.1=none/\s'=⟨hp,g,d,tk,os⟩/\∃ i xs ys,rest=xs.zip ys/\items.size=i+xs.length/\items2.size=i+ys.length /\
   OrdAt .Lt A.in1 ⟨hp,g,d,tk,os⟩ xs ys r) _
  case turn=>
   rintro ⟨y,x⟩ rest b s' ⟨hb',rfl,i,xs,ys,hz,h1,h2,hO⟩
   cases xs with
   | nil=>cases hz
   | cons x0 xs=>
   cases ys with
   | nil=>cases hz
   | cons y0 ys=>
   simp only [List.zip_cons_cons,List.cons.injEq,Prod.mk.injEq]at hz
   obtain ⟨⟨rfl,rfl⟩,rfl⟩:=hz
   cases hO with
   | ends q=>simp at q
   | eq e1 e2=>
    refine wpAny_bind (e1 prog w _ _ ?_)
    wp_walk
    exact ⟨rfl,rfl,i+1,xs,ys,rfl,by simp at h1;omega,by simp at h2;omega,e2⟩
   | ne e1 e2=>
    refine wpAny_bind (e1 prog w _ _ ?_)
    simp only [Bool.not_false,if_true]
    refine wpAny_bind (wpAny_rule ?_)
    refine wpAny_bind (e2 prog w _ _ ?_)
    wp_walk
    exact ⟨_,rfl,h⟩
  case fin=>
   rintro ⟨b1,b2⟩ s' ⟨hb',rfl,i,xs,ys,hz,h1,h2,hO⟩
   simp only at hb'
   subst hb'
   cases hO with
   | ends q q2=>
    wp_walk
    rw [h1,h2,q2]
    exact ⟨_,rfl,h⟩
   | eq=>cases hz
   | ne=>cases hz
  case h=>
   exact ⟨rfl,rfl,0,_,_,rfl,by simp,by simp,he⟩
section
variable {A:Around} {s:Shared} {a b:Addr} {items items2:Array Value} {n n2:Nat} {r:Bool}
theorem RcOp.tup_lt (ha:s.heap.get? a=some { cls:=.type "tuple",data:=.seq items n }) (hb:s.heap.get? b=some { cls:=.type "tuple",data:=.seq items2 n2 }) (hu:A.units<cLine)
  (o:OrdAt .Lt A.in1 s items.toList items2.toList r):RcOp .Lt A s (.ref a) (.ref b) r:=fun prog w E Q h=>
 richCompare_meets_room (op:=.Lt) ⟨_,ha,rfl⟩ ⟨_,hb,rfl⟩ F.slot_tuple_lt F.entry_tuple_lt (F.args_tuple_lt_2 _ _) (wn1 a b items items2 n n2 r)
  ⟨ha,hb,o,show Value.bool r≠Value.notImplemented/\Q (.bool r) s from ⟨(fun x=>nomatch x),h⟩⟩ hu
end
section
variable {C:Fr} {F:FH} {A:Around} {s:Shared}
theorem wpc {x y:D} {vx vy:Value} {r:Bool} (e:ltS x y=some r) (rx:Rep C F vx x) (ry:Rep C F vy y):RcOp .Lt A s vx vy r:=by
 apply ltSV e rx ry
 ·intro i t j u q prog w E Q h;exact P.lt_int (q ▸ h)
 ·intro i t j u q prog w E Q h;exact P.lt_str (q ▸ h)
theorem wte {x y:D} {vx vy:Value} {r:Bool} (e:ltS y x=some r) (rx:Rep C F vx x) (ry:Rep C F vy y):RcOp .Gt A s vx vy r:=by
 apply ltSV (M:=fun b a=>RcOp .Gt A s a b r) e ry rx
 ·intro i t j u q prog w E Q h;exact P.gt_int (q ▸ h)
 ·intro i t j u q prog w E Q h;exact P.gt_str (q ▸ h)
theorem wpb (xs:List D):∀ (ys:List D) {vx vy:List Value} {r:Bool},ltTup xs ys=some r->RepAll C F xs vx->RepAll C F ys vy->OrdAt .Lt A s vx vy r:=by
 induction xs with
 | nil=>intro ys vx vy r e rx ry;cases ys with
  | nil=>cases rx;cases ry;cases e;exact .ends (.inl rfl) (by simp [Builtin.Tuple.tupleCompareSizes])
  | cons=>cases rx;cases ry;cases e;exact .ends (.inl rfl) (by simp [Builtin.Tuple.tupleCompareSizes])
 | cons x xs ih=>intro ys vx vy r e rx ry;cases rx with | mk r1 r2=>cases ys with
  | nil=>cases ry;cases e;exact .ends (.inr rfl) (by simp [Builtin.Tuple.tupleCompareSizes])
  | cons y ys=>cases ry with | mk q1 q2=>
   refine bindE e fun b e1 e2=>?_
   have h:=(wpx (A:=A) (s:=s) e1 r1 q1).2
   cases b with
   | true=>exact .eq h (ih ys e2 r2 q2)
   | false=>exact .ne h (wpc e2 r1 q1)
theorem ltDE {P:Prop} {x y:D} {r:Bool} (e:ltD x y=some r) (f:∀ xs ys,x=.tuple xs->y=.tuple ys->ltTup xs ys=some r->P) (g:ltS x y=some r->P):P:=by
 cases x<;>first | exact g e | exact tupE e fun ys q e=>f _ ys rfl q e
theorem ws7 {x y:D} {vx vy:Value} {r:Bool} (e:ltD x y=some r) (rx:Rep C F vx x) (ry:Rep C F vy y) (hF:F.In s.heap) (hu:A.units<cLine):RcOp .Lt A s vx vy r:=
 ltDE e (fun xs ys ex ey e=>by
  subst ex;subst ey
  cases rx with | mk h1 r1=>cases ry with | mk h2 r2=>
  exact RcOp.tup_lt (hF _ _ h1) (hF _ _ h2) hu (wpb _ _ e r1 r2)) fun e=>wpc e rx ry
end
section
variable {C:Fr} {F:FH} {A:Around} {E:Value->Shared->Prop} {s:Shared} {Q:Value->Shared->Prop} {d:D}
structure SeqIt (C:Fr) (A:Around) (F:FH) (s:Shared) (I:Addr) (ds:List D) (s':Shared) (fp:List Addr) (P:Nat->Value->Prop) (St:Nat->Heap->Prop):Prop where
 W:Walks C.prog C.w A I fp [I] ds.length P St
 st:St 0 s'.heap
 fp:∀ b∈fp,b<s'.heap.objs.size
 rep:∀ i v,P i v->∃ d,ds[i]?=some d/\Rep C F v d
 keep:Keep s.heap s'.heap
 new:s.heap.get? I=none
 calm:Calm s s'
theorem woG {a b n:Nat} (h:b<n) (h':n<a):∀ x∈[n,b],x<a:=fun x hx=>(List.mem_cons.mp hx).elim (fun e=>e ▸ h') fun hx=>List.mem_singleton.mp hx ▸ Nat.lt_trans h h'
theorem wiT {x:Tx} (i:Nat) (v:Value) (h:SignAt (mk x) i v):∃ d,(chars x)[i]?=some d/\Rep C F v d:=by
 obtain ⟨c,u,hc,rfl⟩:=h
 refine ⟨.str [c],?_,.mk (x:=[c]) u⟩
 have hc':x[i]?=some c:=List.getElem?_toArray ▸ hc
 unfold chars
 rw [List.getElem?_map,hc'];rfl
theorem wdj {ds:List D} {vs:Array Value} (r:RepAll C F ds vs.toList) (i:Nat) (v:Value) (h:vs[i]?=some v):∃ d,ds[i]?=some d/\Rep C F v d:=r.get' (by rw [Array.getElem?_toList];exact h)
theorem wiX {v:Value} {ds:List D} (hh:A.handled=none) (e:seqOf d=some ds) (vd:View C s.heap F v d)
  (k:∀ I s' fp P St,SeqIt C A F s I ds s' fp P St->Q (.ref I) s'):wpAny (model C.prog C.w) A (pyIter v) Q E s:=by
 have hI:=get?_size s.heap
 have sz:∀ o:Obj,s.heap.objs.size<(s.heap.push o).objs.size:=fun o=>by rw [Heap.size_push];exact Nat.lt_succ_self _
 cases d<;>first | exact noneE e | skip
 ·cases vd
  cases e
  rename_i x t
  refine wpAny_pyIter_str fun o St W st=>k _ _ [s.heap.objs.size] _ _ ⟨?_,st,fun b hb=>List.mem_singleton.mp hb ▸ sz _,wiT,Keep.push _ _,hI,⟨rfl,fun x=>x⟩⟩
  have:=W A hh
  rwa [show (mk x).cps.size=(chars x).length from (wb6 x).trans (List.length_map ..).symm]at this
 ·cases vd with | mk hl r=>
  cases e
  have hlt:=Heap.lt_size hl
  exact wpAny_pyIter_list (waC hl).isList (k _ _ [s.heap.objs.size,_] _ _ ⟨r.size ▸ Walks.list hh s.heap.objs.size _ (Nat.ne_of_lt hlt) _,⟨⟨_,Heap.get?_push_size _ rfl,rfl,rfl⟩,(waC hl).isList.push _⟩,woG hlt (sz _),wdj r,Keep.push _ _,hI,⟨rfl,fun x=>x⟩⟩)
 ·cases vd with | mk hl r=>
  cases e
  have hlt:=Heap.lt_size hl
  exact wpAny_pyIter_tuple (wd9 hl) (k _ _ [s.heap.objs.size,_] _ _ ⟨r.size ▸ Walks.tuple hh s.heap.objs.size _ (Nat.ne_of_lt hlt) _,⟨⟨_,Heap.get?_push_size _ rfl,rfl,rfl⟩,(wd9 hl).push _⟩,woG hlt (sz _),wdj r,Keep.push _ _,hI,⟨rfl,fun x=>x⟩⟩)
theorem noneF {h:Heap} {I:Addr} (hF:F.In h) (hI:h.get? I=none):F I=none:=by
 cases q:F I with
 | none=>rfl
 | some o=>rw [hF _ _ q]at hI;cases hI
theorem wqA {I:Addr} {fp:List Addr} {n:Nat} {P:Nat->Value->Prop} {St:Nat->Heap->Prop} {ds:List D} {R:Result->Shared->Prop} (W:Walks C.prog C.w A.in1 I fp [I] n P St) (hn:n=ds.length)
  (hP:∀ i v,P i v->∃ d,ds[i]?=some d/\Rep C F v d) (hu:A.units+10<cLine) (hI:F I=none) (S:Addr) (hSf:S ∉ fp) (hS0:F S=none) :
  ∀ (k j:Nat) (s:Shared) (vb:Value) (db:D) (c:Nat),n - j=k->j<=n->St j s.heap->F.In s.heap->Rep C F vb db->bestBy (fun a b=>ltS b a) db (ds.drop j)=some d ->
  s.heap.get? S=some { cls:=.type "list",data:=.seq #[vb,vb] c } ->
  (∀ v h' tk,Rep C F v d->F.In h'->(∀ b o,b≠I->b≠S->s.heap.get? b=some o->h'.get? b=some o)->R (.ok (.ret v)) { s with heap:=h',toks:=tk }) ->
  codeAny (model C.prog C.w) A (.builtin "max.loop" ⟨[.ref I,.none,.ref S],[]⟩) R s:=by
 have hSI:S≠I:=fun h=>hSf (h ▸ W.sub I (by simp))
 have hname:(toString "max"++toString ".loop":String)="max.loop":=by decide
 have keepF:∀ {h h':Heap},F.In h->(∀ b o,b ∉ [I]->h.get? b=some o->h'.get? b=some o)->F.In h':=fun hF hk b o e=>hk b o (fun q=>by rw [List.mem_singleton.mp q,hI]at e;cases e) (hF b o e)
 intro k
 induction k with
 | zero=>
  intro j s vb db c hk hj hst hF hb he hS hR
  have hin:j=n:=Nat.le_antisymm hj (leSub hk)
  subst hin
  rw [List.drop_of_length_le (Nat.le_of_eq hn.symm)]at he
  cases he
  refine codeAny_builtin PySem.F.entry_max_loop ?_
  rw [Around.under_plainId PySem.F.plain_max_loop _]
  show wpAny _ A.in1 (seqItems? (.ref S) >>= _) _ _ s
  refine wpAny_bind (wpAny_seqItems hS rfl ?_)
  show wpAny _ A.in1 (tryCatch (pyNext (.ref I)) _ >>= _) _ _ s
  refine wpAny_bind (wpAny_tryCatch (W.done s _ _ hst fun h' tk hk'=>?_))
  have hS':=hk' S _ (by simpa using hSI) hS
  have hF':=keepF hF hk'
  show wpAny _ A.in1 (updateSeq S (fun _=>#[]) >>= _) _ _ _
  refine wpAny_bind ?_
  refine wpAny_updateSeq hS' rfl (wpAny_bind (wpAny_letGo (wpAny_pure ?_)))
  refine hR vb _ tk hb (fun b o e=>?_) fun b o hbw hbS e=>(Heap.get?_update_other _ _ (Ne.symm hbS)).trans (hk' b o (by simpa using hbw) e)
  exact (Heap.get?_update_other _ _ (fun h:S=b=>by rw [<- h,hS0]at e;cases e)).trans (hF' b o e)
 | succ k ih=>
  intro j s vb db c hk hj hst hF hb he hS hR
  have hlt:j<n:=ltSub hk
  have hjd:j<ds.length:=hn ▸ hlt
  rw [List.drop_eq_getElem_cons hjd]at he
  refine bindE he fun r e1 e2=>?_
  refine codeAny_builtin PySem.F.entry_max_loop ?_
  rw [Around.under_plainId PySem.F.plain_max_loop _]
  show wpAny _ A.in1 (seqItems? (.ref S) >>= _) _ _ s
  refine wpAny_bind (wpAny_seqItems hS rfl ?_)
  show wpAny _ A.in1 (tryCatch (pyNext (.ref I)) _ >>= _) _ _ s
  refine wpAny_bind (wpAny_tryCatch (W.item j s _ _ hlt hst fun v h' tk hPv hst' hk'=>?_))
  have hS':=hk' S _ (by simpa using hSI) hS
  have hF':=keepF hF hk'
  obtain ⟨dv,hd1,hd2⟩:=hP _ _ hPv
  rw [List.getElem?_eq_getElem hjd]at hd1
  cases hd1
  show wpAny _ A.in1 (tryCatch (holding [v,v] (richCompare .Gt v vb >>= _)) _ >>= _) _ _ _
  refine wpAny_bind (wpAny_tryCatch (wpAny_holding (wpAny_bind (wte (A:=A.in1) (s:=⟨h',s.gens,s.drawn,tk,s.os⟩) e1 hd2 hb _ _ _ _ ?_))))
  refine wpAny_bind (wpAny_holding (wpAny_truthy_bool ?_))
  refine wpAny_bind (wpAny_letGo (wpAny_pure ?_))
  cases r with
  | true=>
   simp only [if_true]at e2 ⊢
   refine wpAny_bind ?_
   refine wpAny_updateSeq hS' rfl (wpAny_bind (wpAny_letGo ?_))
   rw [hname]
   refine wpAny_pure ⟨plainId_quiet PySem.F.plain_max_loop _,ih (j+1) _ v _ _ (sub1 hk) hlt (W.frame _ _ _ hst' fun b hbf o e=>?_) (fun b o e=>?_) hd2 e2 (Heap.get?_update_self _ hS' rfl)
    fun v' h'' tk'' hP' hF'' hk''=>?_⟩
   ·exact (Heap.get?_update_other _ _ (fun h:S=b=>hSf (by rw [h];exact hbf))).trans e
   ·exact (Heap.get?_update_other _ _ (fun h:S=b=>by rw [<- h,hS0]at e;cases e)).trans (hF' b o e)
   ·exact hR v' h'' tk'' hP' hF'' fun b o hbw hbS e=>hk'' b o hbw hbS ((Heap.get?_update_other _ _ (Ne.symm hbS)).trans (hk' b o (by simpa using hbw) e))
  | false=>
   simp only [Bool.false_eq_true,if_false]at e2 ⊢
   refine wpAny_bind (wpAny_letGo ?_)
   rw [hname]
   refine wpAny_pure ⟨plainId_quiet PySem.F.plain_max_loop _,ih (j+1) _ vb _ c (sub1 hk) hlt hst' hF' hb e2 hS' fun v' h'' tk'' hP' hF'' hk''=>?_⟩
   exact hR v' h'' tk'' hP' hF'' fun b o hbw hbS e=>hk'' b o hbw hbS (hk' b o (by simpa using hbw) e)
theorem ws5 {v:Value} {x:D} {r:List D} {d0:D} (hh:A.handled=none) (hu:A.units+10<cLine) (es:seqOf d0=some (x::r)) (e:bestBy (fun a b=>ltS b a) x r=some d) (vd:View C s.heap F v d0) (hF:F.In s.heap)
  (k:Cont C F s d Q):wpAny (model C.prog C.w) A (call (.builtin "max") [v]) Q E s:=by
 have hname:(toString "max"++toString ".loop":String)="max.loop":=by decide
 refine call_function_tree PySem.F.kind_max PySem.F.plain_max PySem.F.entry_max (PySem.F.args_max1 _) ?_
 show wpAny _ A.in1 (Builtin.Builtins.bindParams "max" ["key","default"] 0 ⟨[],[]⟩ >>= _) _ _ s
 refine wpAny_bind (wpAny_of_eq (show Builtin.Builtins.bindParams "max" ["key","default"] 0 ⟨[],[]⟩=pure [none,none] from rfl) ?_)
 refine wpAny_bind (wpAny_pure ?_)
 refine wpAny_bind (wiX (A:=A.in1) hh es vd fun I s₂ fp P St ⟨W,hst,hfp,hP,hk0,hI0,hcm⟩=>?_)
 refine wpAny_bind (wpAny_newObj_type ?_)
 have hSf:s₂.heap.objs.size ∉ fp:=fun hm=>Nat.lt_irrefl _ (hfp _ hm)
 have hFI:F I=none:=noneF hF hI0
 have hF2:F.In s₂.heap:=fun b o e=>hk0 b o (hF b o e)
 have hFS:F s₂.heap.objs.size=none:=noneF hF2 (get?_size _)
 have hSI:s₂.heap.objs.size≠I:=fun h=>hSf (h ▸ W.sub I (by simp))
 rw [hname]
 refine wpAny_pure ⟨plainId_quiet PySem.F.plain_max_loop _,?_⟩
 refine codeAny_builtin PySem.F.entry_max_loop ?_
 rw [Around.under_plainId PySem.F.plain_max_loop _]
 show wpAny _ A.in1 (seqItems? (.ref s₂.heap.objs.size) >>= _) _ _ _
 have hS:=Heap.get?_push_size s₂.heap (o:={ cls:=.type "list",data:=.seq ([]:List Value).toArray }) rfl
 refine wpAny_bind (wpAny_seqItems hS rfl ?_)
 show wpAny _ A.in1 (tryCatch (pyNext (.ref I)) _ >>= _) _ _ _
 refine wpAny_bind (wpAny_tryCatch (W.item 0 _ _ _ (by simp) (W.frame _ _ _ hst fun b _ o e=>Heap.get?_push_of_some _ e) fun v h' tk hPv hst' hk'=>?_))
 have hS':=hk' _ _ (by simpa using hSI) hS
 have hF':F.In h':=fun b o e=>hk' b o (fun q=>by rw [List.mem_singleton.mp q,hFI]at e;cases e) (Heap.get?_push_of_some _ (hF2 b o e))
 obtain ⟨dv,hd1,hd2⟩:=hP _ _ hPv
 simp at hd1;subst hd1
 show wpAny _ A.in1 (updateSeq s₂.heap.objs.size (fun _=>#[v,v]) >>= _) _ _ _
 refine wpAny_bind ?_
 refine wpAny_updateSeq hS' rfl ?_
 rw [hname]
 refine wpAny_pure ⟨plainId_quiet PySem.F.plain_max_loop _,wqA (d:=d) W rfl hP hu hFI _ hSf hFS _ 1 _ v _ _ rfl (by simp) (W.frame _ _ _ hst' fun b hbf o e=>?_) (fun b o e=>?_) hd2 (by simpa using e) (Heap.get?_update_self _ hS' rfl) fun v' h'' tk'' hP' hF'' hk''=>?_⟩
 ·exact (Heap.get?_update_other _ _ (fun h:_=b=>hSf (by rw [h];exact hbf))).trans e
 ·exact (Heap.get?_update_other _ _ (fun h:_=b=>by rw [<- h,hFS]at e;cases e)).trans (hF' b o e)
 ·refine k v' _ F ⟨FH.le.refl F,hF'',KeepT.of fun b o e=>?_,fun _ _ e=>.inl e,⟨hcm.os,hcm.gens⟩⟩ hP'
  have hbI:b≠I:=fun q=>by rw [q,hI0]at e;cases e
  have hbS:b≠s₂.heap.objs.size:=fun q=>by have h1:=Heap.lt_size (hk0 b o e);rw [q]at h1;exact absurd h1 (Nat.lt_irrefl _)
  refine hk'' b o hbI hbS ((Heap.get?_update_other _ _ (Ne.symm hbS)).trans (hk' b o (by simpa using hbI) (Heap.get?_push_of_some _ (hk0 b o e))))
theorem wqz {I:Addr} {fp:List Addr} {n:Nat} {P:Nat->Value->Prop} {St:Nat->Heap->Prop} {ds:List D} {R:Result->Shared->Prop} (W:Walks C.prog C.w A.in1 I fp [I] n P St) (hn:n=ds.length)
  (hP:∀ i v,P i v->∃ d,ds[i]?=some d/\Rep C F v d) (hu:A.units+10<cLine) (hI:F I=none) (S:Addr) (hSf:S ∉ fp) (hS0:F S=none) :
  ∀ (k j:Nat) (s:Shared) (vb:Value) (db:D) (c:Nat),n - j=k->j<=n->St j s.heap->F.In s.heap->Rep C F vb db->bestBy ltD db (ds.drop j)=some d ->
  s.heap.get? S=some { cls:=.type "list",data:=.seq #[vb,vb] c } ->
  (∀ v h' tk,Rep C F v d->F.In h'->(∀ b o,b≠I->b≠S->s.heap.get? b=some o->h'.get? b=some o)->R (.ok (.ret v)) { s with heap:=h',toks:=tk }) ->
  codeAny (model C.prog C.w) A (.builtin "min.loop" ⟨[.ref I,.none,.ref S],[]⟩) R s:=by
 have hSI:S≠I:=fun h=>hSf (h ▸ W.sub I (by simp))
 have hname:(toString "min"++toString ".loop":String)="min.loop":=by decide
 have keepF:∀ {h h':Heap},F.In h->(∀ b o,b ∉ [I]->h.get? b=some o->h'.get? b=some o)->F.In h':=fun hF hk b o e=>hk b o (fun q=>by rw [List.mem_singleton.mp q,hI]at e;cases e) (hF b o e)
 intro k
 induction k with
 | zero=>
  intro j s vb db c hk hj hst hF hb he hS hR
  have hin:j=n:=Nat.le_antisymm hj (leSub hk)
  subst hin
  rw [List.drop_of_length_le (Nat.le_of_eq hn.symm)]at he
  cases he
  refine codeAny_builtin PySem.F.entry_min_loop ?_
  rw [Around.under_plainId PySem.F.plain_min_loop _]
  show wpAny _ A.in1 (seqItems? (.ref S) >>= _) _ _ s
  refine wpAny_bind (wpAny_seqItems hS rfl ?_)
  show wpAny _ A.in1 (tryCatch (pyNext (.ref I)) _ >>= _) _ _ s
  refine wpAny_bind (wpAny_tryCatch (W.done s _ _ hst fun h' tk hk'=>?_))
  have hS':=hk' S _ (by simpa using hSI) hS
  have hF':=keepF hF hk'
  show wpAny _ A.in1 (updateSeq S (fun _=>#[]) >>= _) _ _ _
  refine wpAny_bind ?_
  refine wpAny_updateSeq hS' rfl (wpAny_bind (wpAny_letGo (wpAny_pure ?_)))
  refine hR vb _ tk hb (fun b o e=>?_) fun b o hbw hbS e=>(Heap.get?_update_other _ _ (Ne.symm hbS)).trans (hk' b o (by simpa using hbw) e)
  exact (Heap.get?_update_other _ _ (fun h:S=b=>by rw [<- h,hS0]at e;cases e)).trans (hF' b o e)
 | succ k ih=>
  intro j s vb db c hk hj hst hF hb he hS hR
  have hlt:j<n:=ltSub hk
  have hjd:j<ds.length:=hn ▸ hlt
  rw [List.drop_eq_getElem_cons hjd]at he
  refine bindE he fun r e1 e2=>?_
  refine codeAny_builtin PySem.F.entry_min_loop ?_
  rw [Around.under_plainId PySem.F.plain_min_loop _]
  show wpAny _ A.in1 (seqItems? (.ref S) >>= _) _ _ s
  refine wpAny_bind (wpAny_seqItems hS rfl ?_)
  show wpAny _ A.in1 (tryCatch (pyNext (.ref I)) _ >>= _) _ _ s
  refine wpAny_bind (wpAny_tryCatch (W.item j s _ _ hlt hst fun v h' tk hPv hst' hk'=>?_))
  have hS':=hk' S _ (by simpa using hSI) hS
  have hF':=keepF hF hk'
  obtain ⟨dv,hd1,hd2⟩:=hP _ _ hPv
  rw [List.getElem?_eq_getElem hjd]at hd1
  cases hd1
  show wpAny _ A.in1 (tryCatch (holding [v,v] (richCompare .Lt v vb >>= _)) _ >>= _) _ _ _
  refine wpAny_bind (wpAny_tryCatch (wpAny_holding (wpAny_bind (ws7 (A:=A.in1) (s:=⟨h',s.gens,s.drawn,tk,s.os⟩) e1 hd2 hb hF' (by simp;omega) _ _ _ _ ?_))))
  refine wpAny_bind (wpAny_holding (wpAny_truthy_bool ?_))
  refine wpAny_bind (wpAny_letGo (wpAny_pure ?_))
  cases r with
  | true=>
   simp only [if_true]at e2 ⊢
   refine wpAny_bind ?_
   refine wpAny_updateSeq hS' rfl (wpAny_bind (wpAny_letGo ?_))
   rw [hname]
   refine wpAny_pure ⟨plainId_quiet PySem.F.plain_min_loop _,ih (j+1) _ v _ _ (sub1 hk) hlt (W.frame _ _ _ hst' fun b hbf o e=>?_) (fun b o e=>?_) hd2 e2 (Heap.get?_update_self _ hS' rfl)
    fun v' h'' tk'' hP' hF'' hk''=>?_⟩
   ·exact (Heap.get?_update_other _ _ (fun h:S=b=>hSf (by rw [h];exact hbf))).trans e
   ·exact (Heap.get?_update_other _ _ (fun h:S=b=>by rw [<- h,hS0]at e;cases e)).trans (hF' b o e)
   ·exact hR v' h'' tk'' hP' hF'' fun b o hbw hbS e=>hk'' b o hbw hbS ((Heap.get?_update_other _ _ (Ne.symm hbS)).trans (hk' b o (by simpa using hbw) e))
  | false=>
   simp only [Bool.false_eq_true,if_false]at e2 ⊢
   refine wpAny_bind (wpAny_letGo ?_)
   rw [hname]
   refine wpAny_pure ⟨plainId_quiet PySem.F.plain_min_loop _,ih (j+1) _ vb _ c (sub1 hk) hlt hst' hF' hb e2 hS' fun v' h'' tk'' hP' hF'' hk''=>?_⟩
   exact hR v' h'' tk'' hP' hF'' fun b o hbw hbS e=>hk'' b o hbw hbS (hk' b o (by simpa using hbw) e)
theorem ws3 {v:Value} {x:D} {r:List D} {d0:D} (hh:A.handled=none) (hu:A.units+10<cLine) (es:seqOf d0=some (x::r)) (e:bestBy ltD x r=some d) (vd:View C s.heap F v d0) (hF:F.In s.heap)
  (k:Cont C F s d Q):wpAny (model C.prog C.w) A (call (.builtin "min") [v]) Q E s:=by
 have hname:(toString "min"++toString ".loop":String)="min.loop":=by decide
 refine call_function_tree PySem.F.kind_min PySem.F.plain_min PySem.F.entry_min (PySem.F.args_min1 _) ?_
 show wpAny _ A.in1 (Builtin.Builtins.bindParams "min" ["key","default"] 0 ⟨[],[]⟩ >>= _) _ _ s
 refine wpAny_bind (wpAny_of_eq (show Builtin.Builtins.bindParams "min" ["key","default"] 0 ⟨[],[]⟩=pure [none,none] from rfl) ?_)
 refine wpAny_bind (wpAny_pure ?_)
 refine wpAny_bind (wiX (A:=A.in1) hh es vd fun I s₂ fp P St ⟨W,hst,hfp,hP,hk0,hI0,hcm⟩=>?_)
 refine wpAny_bind (wpAny_newObj_type ?_)
 have hSf:s₂.heap.objs.size ∉ fp:=fun hm=>Nat.lt_irrefl _ (hfp _ hm)
 have hFI:F I=none:=noneF hF hI0
 have hF2:F.In s₂.heap:=fun b o e=>hk0 b o (hF b o e)
 have hFS:F s₂.heap.objs.size=none:=noneF hF2 (get?_size _)
 have hSI:s₂.heap.objs.size≠I:=fun h=>hSf (h ▸ W.sub I (by simp))
 rw [hname]
 refine wpAny_pure ⟨plainId_quiet PySem.F.plain_min_loop _,?_⟩
 refine codeAny_builtin PySem.F.entry_min_loop ?_
 rw [Around.under_plainId PySem.F.plain_min_loop _]
 show wpAny _ A.in1 (seqItems? (.ref s₂.heap.objs.size) >>= _) _ _ _
 have hS:=Heap.get?_push_size s₂.heap (o:={ cls:=.type "list",data:=.seq ([]:List Value).toArray }) rfl
 refine wpAny_bind (wpAny_seqItems hS rfl ?_)
 show wpAny _ A.in1 (tryCatch (pyNext (.ref I)) _ >>= _) _ _ _
 refine wpAny_bind (wpAny_tryCatch (W.item 0 _ _ _ (by simp) (W.frame _ _ _ hst fun b _ o e=>Heap.get?_push_of_some _ e) fun v h' tk hPv hst' hk'=>?_))
 have hS':=hk' _ _ (by simpa using hSI) hS
 have hF':F.In h':=fun b o e=>hk' b o (fun q=>by rw [List.mem_singleton.mp q,hFI]at e;cases e) (Heap.get?_push_of_some _ (hF2 b o e))
 obtain ⟨dv,hd1,hd2⟩:=hP _ _ hPv
 simp at hd1;subst hd1
 show wpAny _ A.in1 (updateSeq s₂.heap.objs.size (fun _=>#[v,v]) >>= _) _ _ _
 refine wpAny_bind ?_
 refine wpAny_updateSeq hS' rfl ?_
 rw [hname]
 refine wpAny_pure ⟨plainId_quiet PySem.F.plain_min_loop _,wqz (d:=d) W rfl hP hu hFI _ hSf hFS _ 1 _ v _ _ rfl (by simp) (W.frame _ _ _ hst' fun b hbf o e=>?_) (fun b o e=>?_) hd2 (by simpa using e) (Heap.get?_update_self _ hS' rfl) fun v' h'' tk'' hP' hF'' hk''=>?_⟩
 ·exact (Heap.get?_update_other _ _ (fun h:_=b=>hSf (by rw [h];exact hbf))).trans e
 ·exact (Heap.get?_update_other _ _ (fun h:_=b=>by rw [<- h,hFS]at e;cases e)).trans (hF' b o e)
 ·refine k v' _ F ⟨FH.le.refl F,hF'',KeepT.of fun b o e=>?_,fun _ _ e=>.inl e,⟨hcm.os,hcm.gens⟩⟩ hP'
  have hbI:b≠I:=fun q=>by rw [q,hI0]at e;cases e
  have hbS:b≠s₂.heap.objs.size:=fun q=>by have h1:=Heap.lt_size (hk0 b o e);rw [q]at h1;exact absurd h1 (Nat.lt_irrefl _)
  refine hk'' b o hbI hbS ((Heap.get?_update_other _ _ (Ne.symm hbS)).trans (hk' b o (by simpa using hbI) (Heap.get?_push_of_some _ (hk0 b o e))))
end
noncomputable def Views (C:Fr) (F G:FH):List D->List Value->Prop
 | [],vs=>vs=[]
 | d::ds,vs=>VC (Vw C F d G) (Views C F G ds) vs
noncomputable def bval:B->Value
 | .len=>.builtin "len" | .max=>.builtin "max" | .min=>.builtin "min" | .sum=>.builtin "sum" | .tuple=>.type "tuple"
 | .ord=>.builtin "ord" | .chr=>.builtin "chr" | .str=>.type "str" | .abs=>.builtin "abs"
section
variable {C:Fr} {F:FH} {A:Around} {E:Value->Shared->Prop} {s:Shared} {Q:Value->Shared->Prop} {d:D}
theorem oneV {α:Type} {r:α} {M:List Value->Prop} {G:FH} {ds:List D} {vs:List Value} {k:D->Option α} (h:oneK ds k=some r) (vv:Views C F G ds vs) (f:∀ d v,Vw C F d G v->k d=some r->M [v]):M vs:=by
 rcases ds with _ | ⟨d,_ | _⟩
 ·exact noneE h
 ·cases vv with | mk v1 v2=>cases v2;exact f _ _ v1 h
 ·exact noneE h
theorem intsE {P:Prop} {d:D} {ds:List D} {l:List Int} (h:intsOf (d::ds)=some l) (f:∀ i l',d=.int i->intsOf ds=some l'->l=i::l'->P):P:=
 intE (show intK d _=some l from h) fun i e h=>mapE h fun l' e' h=>f i l' e e' h.symm
theorem wiY {ds:List D} {l:List Int} (h:intsOf ds=some l):l.length=ds.length/\∀ {i:Nat} {v:Value},(∃ d,ds[i]?=some d/\Rep C F v d)->∃ t,v=.int (l.getD i 0) t:=by
 induction ds generalizing l with
 | nil=>cases h;exact ⟨rfl,fun ⟨d,e,_⟩=>noneE e⟩
 | cons x ds ih=>
   refine intsE h fun n l' e e' q=>?_
   subst e;subst q
   refine ⟨congrArg Nat.succ (ih e').1,fun {i v} ⟨d,e,r⟩=>?_⟩
   cases i with
   | zero=>cases e;cases r;exact ⟨_,rfl⟩
   | succ i=>exact (ih e').2 ⟨d,e,r⟩
theorem woP {x:Tx} {acc:Array Value} (h:ItemsOf (SignAt (mk x)) acc (mk x).cps.size):RepAll C F (chars x) acc.toList:=by
 obtain ⟨acc⟩:=acc
 obtain ⟨g1,g2⟩:=h
 have h1:acc.length=x.length:=g1.trans (List.size_toArray ..)
 have h2:∀ (j:Nat) v,acc[j]?=some v->∃ c u,x[j]?=some c/\v=.str ⟨#[c]⟩ u:=fun j v e=>let ⟨c,u,e1,e2⟩:=g2 j v (List.getElem?_toArray.trans e);⟨c,u,List.getElem?_toArray ▸ e1,e2⟩
 clear g1 g2
 induction acc generalizing x with
 | nil=>cases x with
  | nil=>exact rfl
  | cons=>exact succE h1
 | cons v l ih=>cases x with
  | nil=>exact succE h1.symm
  | cons c y=>
   obtain ⟨c',u,e1,rfl⟩:=h2 0 v rfl
   cases e1
   exact .mk (.mk (x:=[c]) u) (ih (Nat.succ.inj h1) fun j v e=>h2 (j+1) v e)
theorem wn9 {a:Nat} (h:a<10 ^ 9):a.log2<1920:=by
 by_cases h0:a=0
 ·subst h0;decide +kernel
 ·exact Nat.lt_of_lt_of_le ((Nat.log2_lt h0).mpr (show a<2 ^ 30 by omega)) (by omega)
theorem ws8 {v:Value} {a:D} (e:lenOf a=some d) (vd:View C s.heap F v a) (hF:F.In s.heap) (k:Cont C F s d Q):wpAny (model C.prog C.w) A (call (.builtin "len") [v]) Q E s:=by
 have cap62:∀ {n:Nat},n<=cap->n<2 ^ 62:=fun h=>Nat.lt_of_le_of_lt h (by decide)
 cases a<;>first | exact noneE e | skip
 ·cases vd
  exact ifE e fun hz e=>P.len_str (by rw [wb6];unfold cap at hz;omega) ((k.of e).here hF rfl (by rw [wb6];exact .mk _))
 ·cases vd with | mk hl r=>
  exact ifE e fun hz e=>call_len_list (waC hl).isList (by rw [r.size];unfold cap at hz;omega) ((k.of e).here hF rfl (by rw [r.size];exact .mk _))
 ·cases vd with | mk hl r=>
  exact ifE e fun hz e=>P.len_tuple hl (by rw [r.size];unfold cap at hz;omega) ((k.of e).here hF rfl (by rw [r.size];exact .mk _))
theorem wp4 {v:Value} {a:D} (hh:A.handled=none) (e:tupleD a=some d) (vd:View C s.heap F v a) (hF:F.In s.heap) (k:Cont C F s d Q):wpAny (model C.prog C.w) A (call (.type "tuple") [v]) Q E s:=by
 have fin:∀ {h':Heap} {tk:Nat} {vs:Array Value} {ds:List D},Keep s.heap h'->RepAll C F ds vs.toList->Cont C F s (.tuple ds) Q->Q (.ref h'.objs.size) { s with heap:=h'.push { cls:=.type "tuple",data:=.seq vs },toks:=tk }:=fun {h' tk vs ds} hk r k=>
  have y:=Ext.put (s:=s) (s':={ s with heap:=h'.push { cls:=.type "tuple",data:=.seq vs },toks:=tk }) (o:={ cls:=.type "tuple",data:=.seq vs }) (a:=h'.objs.size) hF (Keep.trans hk (Keep.push h' _)) (wec hk (get?_size _)) (Heap.get?_push_size _ rfl)
  k _ _ _ y (r.new y.le)
 cases a<;>first | exact noneE e | skip
 ·cases vd
  exact ifE e fun hz e=>call_tuple_str hh _ _ (fun h' tk acc hk hacc=>fin hk (woP hacc) (k.of e)) (waA (by rw [<- wb6]at hz;exact hz))
 ·cases vd with | mk hl r=>
  exact ifE e fun hz e=>call_tuple_list (waC hl).isList (fun h' hk=>fin (tk:=s.toks) hk r (k.of e)) (waA (by rw [r.size];exact hz))
theorem wrC {v:Value} {a:D} {xs:List D} {l:List Int} (hh:A.handled=none) (hu:A.units+100<cLine) (e:intsOf xs=some l) (vd:View C s.heap F v (.list xs)) (hF:F.In s.heap) (k:Cont C F s (.int l.sum) Q):wpAny (model C.prog C.w) A (call (.builtin "sum") [v]) Q E s:=by
 refine call_sum_walkG (wiX (A:=A.in1) hh rfl vd fun I s₂ fp P St ⟨W,hst,hfp,hP,hk0,hI0,hcm⟩=>?_)
 have q:=wiY (C:=C) (F:=F) e
 refine ⟨I,fp,[I],_,P,St,fun i=>l.getD i 0,rfl,W,hst,hfp,fun i v hv=>q.2 (hP i v hv),fun h' tk t' hk=>?_⟩
 rw [preSum_getD,List.take_of_length_le (Nat.le_of_eq q.1)]
 refine k _ _ F (Ext.same hF (fun b o e=>hk b o (fun q=>?_) (hk0 b o e)) ⟨hcm.os,hcm.gens⟩) (.mk _)
 rw [List.mem_singleton.mp q,hI0]at e;exact noneE e
theorem bestOfE {P:Prop} {lt:D->D->Option Bool} {l:List D} (h:bestOf lt l=some d) (f:∀ x r,l=x::r->bestBy lt x r=some d->P):P:=by
 cases l with
 | nil=>exact noneE h
 | cons x r=>exact f x r rfl h
theorem maxBV {M:List Value->Prop} {G:FH} {lt:D->D->Option Bool} {f:Int->Int->Int} {ds:List D} {vs:List Value} (e:maxB lt f ds=some d) (vv:Views C F G ds vs)
  (h1:∀ a v x r,Vw C F a G v->seqOf a=some (x::r)->bestBy lt x r=some d->M [v]) (h2:∀ x t y u,some (.int (f x y))=some d->M [.int x t,.int y u]):M vs:=by
 rcases ds with _ | ⟨a,_ | ⟨b,_ | _⟩⟩
 ·exact noneE e
 ·cases vv with | mk v1 v2=>cases v2;exact bindE e fun l el e=>bestOfE e fun x r q e=>h1 _ _ x r v1 (q ▸ el) e
 ·cases vv with | mk v1 v2=>cases v2 with | mk v2 v3=>cases v3;exact wdJ (M:=fun a b=>M [a,b]) e v1 v2 fun x t y u e=>h2 x t y u e
 ·exact noneE e
theorem wtR {b:B} {vs:List Value} {ds:List D} (hh:A.handled=none) (hu:A.units+100<cLine) (e:bfn b ds=some d) (vv:Views C F s.heap.get? ds vs) (hF:F.In s.heap)
  (k:Cont C F s d Q):wpAny (model C.prog C.w) A (call (bval b) vs) Q E s:=by
 cases b with
 | len=>apply oneV e vv;intro a v va e;exact ws8 e va hF k
 | tuple=>apply oneV e vv;intro a v va e;exact wp4 hh e va hF k
 | max=>
  apply maxBV e vv
  ·intro a v x r va h1 h2;exact ws5 hh (by omega) h1 h2 va hF k
  ·intro x t y u e;exact max_two_ints hh fun h' tk hk=>k.of e _ _ F (Ext.same hF hk) (by by_cases c:y > x<;>simp only [c,if_true,if_false]<;>exact .mk _)
 | min=>
  apply maxBV e vv
  ·intro a v x r va h1 h2;exact ws3 hh (by omega) h1 h2 va hF k
  ·intro x t y u e;exact min_two_ints hh fun h' tk hk=>k.of e _ _ F (Ext.same hF hk) (by by_cases c:y<x<;>simp only [c,if_true,if_false]<;>exact .mk _)
 | sum=>apply oneV e vv;intro a v va e;refine listE e fun xs q e=>mapE e fun l e1 e2=>?_;subst q;exact wrC (a:=.none) hh hu e1 va hF (k.of (congrArg some e2))
 | ord=>apply oneV e vv;intro a v va e;apply strV e va;intro x t e;exact oneE e fun c q e=>by subst q;exact P.ord_of_char ((k.of e).here hF rfl (.mk _))
 | chr=>apply oneV e vv;intro a v va e;apply intV e va;intro i t e;exact ifE e fun hz e=>P.chr_of_int (by simp;omega) ((k.of e).here hF rfl (.mk (x:=[i.toNat]) _))
 | str=>apply oneV e vv;intro a v va e;apply intV e va;intro i t e;exact ifE e fun hz e=>P.str_of_int (wn9 hz) ((k.of e).here hF rfl (wjD (Str.ofString (toString i)) ▸ .mk (x:=intText i) _))
 | abs=>apply oneV e vv;intro a v va e;apply intV e va;intro i t e;exact PyProof.Rows.call_abs_int fun u tk=>(k.of e).here hF rfl (by rw [show (if i<0 then -i else i)=(i.natAbs:Int) by split<;>omega];exact .mk _)
end
noncomputable abbrev QV:=List (Str×Option Slot)
noncomputable def lookq (x:Str):QV->Option Slot
 | []=>none
 | (y,s)::r=>if y==x then s else lookq x r
noncomputable def setq (x:Str) (s:Slot):QV->QV
 | []=>[(x,some s)]
 | (y,t)::r=>if y==x then (y,some s)::r else (y,t)::setq x s r
noncomputable def visq (scope:Scope) (q:QV):QV:=q.map fun p=>(p.1,if scope.names.lookup p.1==some .free then p.2 else none)
noncomputable def onlyOk:Option Slot->Option Slot
 | some s=>if okSlot s then some s else none
 | none=>none
noncomputable def staysq (q:QV):QV:=q.map fun p=>(p.1,onlyOk p.2)
theorem wkq (x y:Str) (s:Slot) (q:QV):lookq y (setq x s q)=if x==y then some s else lookq y q:=by
 induction q with
 | nil=>rfl
 | cons p r ih=>
  unfold setq
  by_cases h:(p.1==x)=true
  ·rw [if_pos h]
   simp only [lookq]
   rw [eq_of_beq h]
   by_cases h2:(x==y)=true
   ·rw [if_pos h2,if_pos h2]
   ·rw [if_neg h2,if_neg h2,if_neg h2]
  ·rw [if_neg h]
   simp only [lookq]
   rw [ih]
   by_cases h2:(p.1==y)=true
   ·rw [if_pos h2,if_pos h2,if_neg fun e=>h (by rw [eq_of_beq h2,eq_of_beq e];exact beq_self_eq_true y)]
   ·rw [if_neg h2,if_neg h2]
theorem setqE {P:Prop} {x y:Str} {s t:Slot} {q:QV} (h:lookq y (setq x s q)=some t) (f:y=x->s=t->P) (g:y≠x->lookq y q=some t->P):P:=by
 rw [wkq]at h
 exact iteE h (fun e h=>f (eq_of_beq e).symm (Option.some.inj h)) fun e h=>g (fun q=>e (by rw [q];exact beq_self_eq_true x)) h
theorem whj (f:Str->Option Slot->Option Slot) (y:Str) (hf:∀ x,f x none=none) (q:QV):lookq y (q.map fun p=>(p.1,f p.1 p.2))=f y (lookq y q):=by
 induction q with
 | nil=>exact (hf y).symm
 | cons p r ih=>
  simp only [List.map_cons,lookq]
  by_cases h:(p.1==y)=true
  ·rw [if_pos h,if_pos h,eq_of_beq h]
  ·rw [if_neg h,if_neg h];exact ih
theorem wkr {P:Prop} {scope:Scope} {q:QV} {x:Str} {sl:Slot} (h:lookq x (visq scope q)=some sl) (f:scope.names.lookup x=some .free->lookq x q=some sl->P):P:=by
 unfold visq at h
 rw [whj (fun x o=>if scope.names.lookup x==some .free then o else none) x (fun x=>ite_self _)]at h
 exact ifE h fun e h=>f (eq_of_beq e) h
theorem wiJ {P:Prop} {q:QV} {x:Str} {sl:Slot} (h:lookq x (staysq q)=some sl) (f:lookq x q=some sl->okSlot sl=true->P):P:=by
 unfold staysq at h
 rw [whj (fun _ o=>onlyOk o) x (fun x=>rfl)]at h
 cases e:lookq x q with
 | none=>rw [e]at h;exact noneE h
 | some t=>rw [e]at h;exact ifE h fun hs h=>f (e.trans h) (Option.some.inj h ▸ hs)
noncomputable def Holds (env:Env) (h:Heap) (x:Str) (v:Value):Prop:=
 (env.scope.names.lookup x=some .local/\∃ m,h.Ns env.locals m/\m x=some v) \/
 ((env.scope.names.lookup x=some .cell\/env.scope.names.lookup x=some .free)/\∃ c,env.cells.lookup x=some c/\h.IsCell c (some v))
theorem Holds.keep {env:Env} {h h':Heap} {x:Str} {v:Value} (k:KeepT h h') (x:Holds env h x v):Holds env h' ‹Str› v:=by
 rcases x with ⟨a,m,n,e⟩ | ⟨a,c,e,hc⟩
 ·exact .inl ⟨a,m,wo4 n k,e⟩
 ·exact .inr ⟨a,c,e,wmc hc k⟩
theorem wro {h:Heap} {L:Addr} {m m':Str->Option Value} (a:h.Ns L m) (b:h.Ns L m') (y:Str):m y=m' y:=by
 obtain ⟨o,es,ep,g1,g2,g3,g4⟩:=a
 obtain ⟨o',es',ep',g1',g2',g3',g4'⟩:=b
 have e:=Option.some.inj (g1.symm.trans g1');subst e
 have e:=g2.symm.trans g2'
 injection e with e1 e2
 subst e1
 exact (g4 y).symm.trans (g4' y)
theorem wsr {h:Heap} {c:Addr} {v v':Option Value} (a:h.IsCell c v) (b:h.IsCell c v'):v=v':=by
 obtain ⟨o,g1,g2⟩:=a
 obtain ⟨o',g1',g2'⟩:=b
 have e:=Option.some.inj (g1.symm.trans g1');subst e
 have e:=g2.symm.trans g2'
 injection e
theorem wiW {k:Option NameKind} (a:k=some .local) (b:k=some .cell\/k=some .free):False:=by subst a;exact b.elim (fun e=>nomatch e) fun e=>nomatch e
theorem Holds.fn {env:Env} {h:Heap} {y:Str} {v v':Value} (hh:Holds env h y v) (h':Holds env h y v'):v=v':=by
 rcases hh with ⟨a,m,n,e⟩ | ⟨a,c,e,hc⟩
 ·rcases h' with ⟨_,m2,n2,e2⟩ | ⟨b,_⟩
  ·exact Option.some.inj (e.symm.trans ((wro n n2 y).trans e2))
  ·exact (wiW a b).elim
 ·rcases h' with ⟨b,_⟩ | ⟨_,c2,e2,hc2⟩
  ·exact (wiW b a).elim
  ·have q:=Option.some.inj (e.symm.trans e2);subst q
   exact Option.some.inj (wsr hc hc2)
noncomputable def biNames:List Str:=[Str.ofString "range",Str.ofString "zip",Str.ofString "enumerate",Str.ofString "len",Str.ofString "max",Str.ofString "min",Str.ofString "sum",Str.ofString "tuple",Str.ofString "ord",Str.ofString "chr",Str.ofString "str",Str.ofString "abs",Str.ofString "isinstance",Str.ofString "list"]
noncomputable def CodeO (o:Obj) (c P:Addr):Prop:=∃ vs file tf flags tg inF text tt,o.data=.fields vs/\vs.getD 11 .none=.ref P/\vs.getD 18 .none=.str file tf /\
  vs.getD 7 .none=.int flags tg/\vs.getD 9 .none=.bool inF/\vs.getD 10 .none=.int text tt/\c≠P
noncomputable def CodeF (F:FH) (c P:Addr):Prop:=∃ o,F c=some o/\CodeO o c P
theorem CodeF.mono {F F':FH} {c P:Addr} (x:CodeF F c P) (le:F.le F'):CodeF F' c P:=by
 obtain ⟨o,e,r⟩:=x
 exact ⟨o,le _ _ e,r⟩
structure Gd (C:Fr) (F:FH):Prop where
 kin:∀ b o,C.K.lookup b=some o->F b=some o
 glob:∃ o,F mainGlobals=some o/\NsO o C.mg
 bi:∃ o mb,F builtinsNs=some o/\NsO o mb/\∀ (x:Str) v,x≠"__name__"->bootBuiltins x=some v->mb x=some v
 lim:∃ o mc,F cStatics=some o/\NsO o mc/\mc "sys.recursionlimit"=none
 gl:∀ x d,C.T.gl.lookup x=some d->∃ v,C.mg x=some v/\Rep C F v d
 nob:∀ x∈biNames,C.mg x=none
 bf:∃ bm ob,C.mg "__builtins__"=some (.ref bm)/\bm≠builtinsNs/\F bm=some ob/\ob.cls=.type "module"/\ob.dict=some builtinsNs/\ob.data=.plain
theorem Gd.mono {C:Fr} {F F':FH} (g:Gd C F) (le:F.le F'):Gd C F' where
 kin b o e:=le _ _ (g.kin b o e)
 glob:=by obtain ⟨o,e,r⟩:=g.glob;exact ⟨o,le _ _ e,r⟩
 bi:=by obtain ⟨o,mb,e,r⟩:=g.bi;exact ⟨o,mb,le _ _ e,r⟩
 lim:=by obtain ⟨o,mb,e,r⟩:=g.lim;exact ⟨o,mb,le _ _ e,r⟩
 gl x d e:=by obtain ⟨v,h1,h2⟩:=g.gl x d e;exact ⟨v,h1,h2.mono le⟩
 nob:=g.nob
 bf:=by obtain ⟨bm,ob,e1,e2,e3,r⟩:=g.bf;exact ⟨bm,ob,e1,e2,le _ _ e3,r⟩
theorem Gd.noSys {C:Fr} {F:FH} (g:Gd C F) {h:Heap} (i:F.In h):(h.objs.size==sysModules)=false:=by
 obtain ⟨o,h1,_⟩:=g.glob
 have:=Heap.lt_size (i _ _ h1)
 rw [beq_eq_false_iff_ne]
 intro q
 rw [q]at this
 exact absurd this (by decide)
theorem Gd.limit {C:Fr} {F:FH} (g:Gd C F) {h:Heap} (i:F.In h):h.NoLimit:=by
 obtain ⟨ol,mc,e1,e2,e3⟩:=g.lim
 exact ⟨mc,e2.ns (i _ _ e1),e3⟩
theorem Gd.kIn {C:Fr} {F:FH} (g:Gd C F) {h:Heap} (i:F.In h):C.K.In h:=fun a o e=>i _ _ (g.kin _ _ e)
noncomputable def slotG (h:Heap) (F:FH):Slot->FH
 | .fz _=>F
 | .own _=>h.get?
noncomputable def slotD:Slot->D
 | .fz d=>d
 | .own d=>d
noncomputable abbrev SlotOk (C:Fr) (h:Heap) (F:FH) (v:Value) (sl:Slot):Prop:=Vw C F (slotD sl) (slotG h F sl) v
theorem SlotOk.view {C:Fr} {h:Heap} {F:FH} {v:Value} {sl:Slot} (i:F.In h) (r:SlotOk C h F v sl):View C h F v (slotD sl):=by
 cases sl with
 | fz d=>exact Rep.view r i
 | own d=>exact r
theorem SlotOk.ext {C:Fr} {s s':Shared} {F F':FH} {v:Value} {sl:Slot} (r:SlotOk C s.heap F v sl) (x:Ext F s F' s'):SlotOk C s'.heap F' v sl:=by
 cases sl with
 | fz d=>exact Rep.ext r x
 | own d=>exact View.ext r x
noncomputable abbrev tabAt (C:Fr):Addr:=C.cad (Str.ofString "<tab>")
noncomputable def Apart (env:Env) (a:Addr):Prop:=a≠env.locals/\∀ y c,env.cells.lookup y=some c->c≠a
noncomputable def Owns (env:Env) (h:Heap) (q:QV) (P:Addr->Prop):Prop:=∀ ⦃x d v⦄,lookq x q=some (.own d)->isVar env.scope x=true->Holds env h x v->∀ a∈tops h.get? v,P a
structure EnvOk (env:Env):Prop where
 kind:env.scope.kind=.function
 glob:env.globals=mainGlobals
 bi:env.builtins=builtinsNs
 cells:∀ x,(env.scope.names.lookup x=some .cell\/env.scope.names.lookup x=some .free)->∃ c,env.cells.lookup x=some c
 inj:∀ x y c,env.cells.lookup x=some c->env.cells.lookup y=some c->x=y
noncomputable def TabIn (C:Fr) (h:Heap):Prop:=∃ o,h.get? (tabAt C)=some o/\Tab0 o
structure RelR (C:Fr) (env:Env) (F:FH) (h:Heap) (q:QV):Prop where
 eo:EnvOk env
 inn:F.In h
 vars:∀ {x sl},lookq x q=some sl->isVar env.scope x=true->∃ v,Holds env h x v/\SlotOk C h F v sl
 cin:∀ {x c},env.cells.lookup x=some c->h.get? c≠none
 own:Owns env h q (Apart env)
 tab:TabIn C h
 ftab:F (tabAt C)=none
 code:env.scope.names.lookup gk=some .local->∃ c,env.code=.ref c/\CodeF F c (tabAt C)
section
variable {C:Fr} {F F':FH} {A:Around} {E:Value->Shared->Prop} {s:Shared} {Q:Value->Shared->Prop} {d:D} {env:Env} {q q':QV} {n:Nat} {h h':Heap} {P P':Addr->Prop}
theorem Ext.ftab {s s':Shared} {p:Addr} (x:Ext F s F' s') (hf:F p=none) (ht:∃ o,s.heap.get? p=some o/\Tab0 o):F' p=none:=by
 cases q:F' p with
 | none=>rfl
 | some o=>
  rcases x.new _ _ q with e | e
  ·exact noneE (hf.symm.trans e)
  ·obtain ⟨o',e',_⟩:=ht;exact noneE (e.symm.trans e')
theorem Ext.tab {s s':Shared} (x:Ext F s F' s') (ht:TabIn C s.heap):TabIn C s'.heap:=by
 obtain ⟨o,e,t⟩:=ht
 obtain ⟨o',e',t'⟩:=x.keep.tab _ o e t
 exact ⟨o',e',t'.tab⟩
noncomputable def Still (env:Env) (h h':Heap) (q q':QV):Prop:=∀ ⦃x d v⦄,lookq x q'=some (.own d)->isVar env.scope x=true->Holds env h' x v->lookq x q=some (.own d)/\Holds env h x v/\tops h'.get? v=tops h.get? v
theorem Owns.mv (o:Owns env h q P) (z:Still env h h' q q') (f:∀ a,P a->P' a):Owns env h' q' P':=fun x d v hl hv hh a ha=>by
 obtain ⟨h1,h2,h3⟩:=z hl hv hh
 exact f a (o h1 hv h2 a (h3 ▸ ha))
theorem RelR.still (r:RelR C env F h q) (hold:∀ x v,Holds env h x v->Holds env h' x v)
  (kt:∀ {x d v},lookq x q=some (.own d)->isVar env.scope x=true->Holds env h x v->∀ a∈tops h.get? v,∀ o,h.get? a=some o->¬ Tab0 o->h'.get? a=some o):Still env h h' q q:=fun x d v hl hv hh=>by
 obtain ⟨v',h1,h2⟩:=r.vars hl hv
 have e:=hh.fn (hold x v' h1);subst e
 exact ⟨hl,h1,wf6 h2 (kt hl hv h1)⟩
theorem RelR.stillX {s':Shared} (r:RelR C env F s.heap q) (x:Ext F s F' s'):Still env s.heap s'.heap q q:=
 r.still (fun y v hh=>hh.keep x.keep) fun hl hv hh a ha o e n=>x.keep.at_ a o e n
theorem RelR.ext {s s':Shared} (r:RelR C env F s.heap q) (x:Ext F s F' s'):RelR C env F' s'.heap q where
 eo:=r.eo
 inn:=x.inn
 vars e hv:=by obtain ⟨v,h1,h2⟩:=r.vars e hv;exact ⟨v,h1.keep x.keep,h2.ext x⟩
 cin e:=x.keep.alive (r.cin e)
 own:=r.own.mv (r.stillX x) fun _=>id
 tab:=x.tab r.tab
 ftab:=x.ftab r.ftab r.tab
 code z:=by obtain ⟨c,e,y⟩:=r.code z;exact ⟨c,e,y.mono x.le⟩
structure Ok (C:Fr) (A:Around) (n:Nat) (env:Env) (q:QV) (F:FH) (s:Shared):Prop where
 R:Room A n
 g:Gd C F
 r:RelR C env F s.heap q
theorem Ok.ext {s':Shared} (X:Ok C A n env q F s) (x:Ext F s F' s'):Ok C A n env q F' s':=⟨X.R,X.g.mono x.le,X.r.ext x⟩
theorem Ok.here (X:Ok C A n env q F s):Ext F s F s:=Ext.refl X.r.inn
theorem wdB {sc:Scope} {x:Str} (h:isVar sc x=true):(x==("__debug__":Str))=false/\(x==("__classdict__":Str))=false:=by
 unfold isVar at h
 split at h<;>simp_all
theorem woc {sc:Scope} {x:Str} (h1:(x==("__debug__":Str))=false) (h2:(x==("__classdict__":Str))=false) (h:sc.names.lookup x=some .cell\/sc.names.lookup x=some .free):isVar sc x=true:=by
 unfold isVar
 rcases h with q | q<;>(rw [q];simp only [h1,h2];rfl)
theorem wjE {x:Str} {v:Value} (r:RelR C env F s.heap q) (hv:isVar env.scope x=true) (h:Holds env s.heap x v) (k:Q v s):wpAny (model C.prog C.w) A (loadName env x) Q E s:=by
 rcases h with ⟨a,m,n,e⟩ | ⟨a | a,c,e,hc⟩
 ·exact wpAny_loadName_local r.eo.kind a n e k
 ·exact wpAny_loadName_cell r.eo.kind a e hc k
 ·exact wpAny_loadName_free r.eo.kind a e hc k (wdB hv).2
theorem wgb {x:Str} {pos:Pos} {v:Value} (r:RelR C env F s.heap q) (hv:isVar env.scope x=true) (h:Holds env s.heap x v) (k:Q v s):wpAny (model C.prog C.w) A (eval (.Name x pos) env) Q E s:=
 wpAny_Name (wjE r hv h k) (wdB hv).1
theorem wdC {sc:Scope} {x:Str} (h:isGlob sc x=true):sc.names.lookup x=some .globalImplicit/\(x==("__debug__":Str))=false:=
 andE h fun h1 h2=>⟨eq_of_beq h1,by simpa using h2⟩
theorem wez {x:Str} {pos:Pos} {v:Value} (X:Ok C A n env q F s) (hg:isGlob env.scope x=true) (e:C.mg x=some v) (k:Q v s) :
  wpAny (model C.prog C.w) A (eval (.Name x pos) env) Q E s:=by
 obtain ⟨o,h1,h2⟩:=X.g.glob
 exact Name_function_global X.r.eo.kind (wdC hg).1 (loadGlobal_global (mg:=C.mg) (by rw [X.r.eo.glob];exact h2.ns (X.r.inn _ _ h1)) e k) (wdC hg).2
theorem wjT {x:Str} {pos:Pos} {v:Value} (X:Ok C A n env q F s) (hg:isGlob env.scope x=true) (hn:x≠("__name__":Str)) (e:C.mg x=none) (hb:bootBuiltins x=some v) (k:Q v s) :
  wpAny (model C.prog C.w) A (eval (.Name x pos) env) Q E s:=by
 obtain ⟨o,h1,h2⟩:=X.g.glob
 obtain ⟨ob,mb,h3,h4,h5⟩:=X.g.bi
 exact Name_function_global X.r.eo.kind (wdC hg).1 (loadGlobal_builtin (mg:=C.mg) (mb:=mb) (by rw [X.r.eo.glob];exact h2.ns (X.r.inn _ _ h1)) e (by rw [X.r.eo.bi];exact h4.ns (X.r.inn _ _ h3)) (h5 _ _ hn hb) k) (wdC hg).2
end
end Mine.Py
end
section
namespace Mine.Py
open PySem
set_option genInjectivity false
set_option genSizeOf false
structure KJ where
 ev:{α:Type}->Scope->QV->Expr->(D->Option α)->Option α
 tr:{α:Type}->Scope->QV->Expr->(Bool->Option α)->Option α
 it:{α:Type}->Scope->QV->Expr->Expr->(List D->Option α)->Option α
 exs:Cx->Scope->QV->List Stmt->(QV->Option D)->(QV->Option D)->(QV->Option D)->(D->Option D)->Option D
section
variable {α:Type}
noncomputable def fzK (s:Option Slot) (k:D->Option α):Option α:=match s with
 | some (.fz d)=>k d
 | _=>none
noncomputable def ownK (s:Option Slot) (k:D->Option α):Option α:=match s with
 | some (.own d)=>k d
 | _=>none
noncomputable def nameK (e:Expr) (k:Str->Option α):Option α:=nmV e none fun x _=>k x
noncomputable def tupleK (e:Expr) (k:List Expr->Option α):Option α:=(PySem.Expr.casesOn (motive_1:=fun _=>_) e (fun _ _ _=>none) (fun _ _ _=>none) (fun _ _ _ _=>none) (fun _ _ _=>none) (fun _ _ _ _=>none) (fun _ _ _ _=>none) (fun _ _ _=>none) (fun _ _ _=>none) (fun _ _ _ _=>none) (fun _ _ _ _=>none) (fun _ _ _ _ _=>none) (fun _ _ _ _=>none) (fun _ _=>none) (fun _ _=>none) (fun _ _=>none) (fun _ _ _ _=>none) (fun _ _ _ _=>none) (fun _ _ _ _=>none) (fun _ _=>none) (fun _ _ _=>none) (fun _ _ _=>none) (fun _ _ _=>none) (fun _ _=>none) (fun _ _=>none) (fun _ _=>none) (fun ts _ _=>k ts) (fun _ _ _ _=>none))
noncomputable def sliceK (e:Expr) (k:Option Expr->Option Expr->Option α):Option α:=(PySem.Expr.casesOn (motive_1:=fun _=>_) e (fun _ _ _=>none) (fun _ _ _=>none) (fun _ _ _ _=>none) (fun _ _ _=>none) (fun _ _ _ _=>none) (fun _ _ _ _=>none) (fun _ _ _=>none) (fun _ _ _=>none) (fun _ _ _ _=>none) (fun _ _ _ _=>none) (fun _ _ _ _ _=>none) (fun _ _ _ _=>none) (fun _ _=>none) (fun _ _=>none) (fun _ _=>none) (fun _ _ _ _=>none) (fun _ _ _ _=>none) (fun _ _ _ _=>none) (fun _ _=>none) (fun _ _ _=>none) (fun _ _ _=>none) (fun _ _ _=>none) (fun _ _=>none) (fun _ _=>none) (fun _ _=>none) (fun _ _ _=>none) (fun lo hi st _=>if st.isNone then k lo hi else none))
noncomputable def callK (e:Expr) (k:Expr->List Expr->Pos->Option α):Option α:=(PySem.Expr.casesOn (motive_1:=fun _=>_) e (fun _ _ _=>none) (fun _ _ _=>none) (fun _ _ _ _=>none) (fun _ _ _=>none) (fun _ _ _ _=>none) (fun _ _ _ _=>none) (fun _ _ _=>none) (fun _ _ _=>none) (fun _ _ _ _=>none) (fun _ _ _ _=>none) (fun _ _ _ _ _=>none) (fun _ _ _ _=>none) (fun _ _=>none) (fun _ _=>none) (fun _ _=>none) (fun _ _ _ _=>none) (fun f as ks p=>if ks.isEmpty then k f as p else none) (fun _ _ _ _=>none) (fun _ _=>none) (fun _ _ _=>none) (fun _ _ _=>none) (fun _ _ _=>none) (fun _ _=>none) (fun _ _=>none) (fun _ _=>none) (fun _ _ _=>none) (fun _ _ _ _=>none))
noncomputable def attrK (e:Expr) (k:Expr->Str->Pos->Option α):Option α:=(PySem.Expr.casesOn (motive_1:=fun _=>_) e (fun _ _ _=>none) (fun _ _ _=>none) (fun _ _ _ _=>none) (fun _ _ _=>none) (fun _ _ _ _=>none) (fun _ _ _ _=>none) (fun _ _ _=>none) (fun _ _ _=>none) (fun _ _ _ _=>none) (fun _ _ _ _=>none) (fun _ _ _ _ _=>none) (fun _ _ _ _=>none) (fun _ _=>none) (fun _ _=>none) (fun _ _=>none) (fun _ _ _ _=>none) (fun _ _ _ _=>none) (fun _ _ _ _=>none) (fun _ _=>none) (fun _ _ _=>none) (fun o a p=>k o a p) (fun _ _ _=>none) (fun _ _=>none) (fun _ _=>none) (fun _ _=>none) (fun _ _ _=>none) (fun _ _ _ _=>none))
noncomputable def addK (e:Expr) (k:Expr->Expr->Option α):Option α:=(PySem.Expr.casesOn (motive_1:=fun _=>_) e (fun _ _ _=>none) (fun _ _ _=>none) (fun l op r _=>if op=.Add then k l r else none) (fun _ _ _=>none) (fun _ _ _ _=>none) (fun _ _ _ _=>none) (fun _ _ _=>none) (fun _ _ _=>none) (fun _ _ _ _=>none) (fun _ _ _ _=>none) (fun _ _ _ _ _=>none) (fun _ _ _ _=>none) (fun _ _=>none) (fun _ _=>none) (fun _ _=>none) (fun _ _ _ _=>none) (fun _ _ _ _=>none) (fun _ _ _ _=>none) (fun _ _=>none) (fun _ _ _=>none) (fun _ _ _=>none) (fun _ _ _=>none) (fun _ _=>none) (fun _ _=>none) (fun _ _=>none) (fun _ _ _=>none) (fun _ _ _ _=>none))
noncomputable def genK (e:Expr) (k:Expr->List Comprehension->Scope->Option α):Option α:=(PySem.Expr.casesOn (motive_1:=fun _=>_) e (fun _ _ _=>none) (fun _ _ _=>none) (fun _ _ _ _=>none) (fun _ _ _=>none) (fun _ _ _ _=>none) (fun _ _ _ _=>none) (fun _ _ _=>none) (fun _ _ _=>none) (fun _ _ _ _=>none) (fun _ _ _ _=>none) (fun _ _ _ _ _=>none) (fun elt gens scope _=>k elt gens scope) (fun _ _=>none) (fun _ _=>none) (fun _ _=>none) (fun _ _ _ _=>none) (fun _ _ _ _=>none) (fun _ _ _ _=>none) (fun _ _=>none) (fun _ _ _=>none) (fun _ _ _=>none) (fun _ _ _=>none) (fun _ _=>none) (fun _ _=>none) (fun _ _=>none) (fun _ _ _=>none) (fun _ _ _ _=>none))
noncomputable def twoK {β:Type} (l:List β) (k:β->β->Option α):Option α:=match l with
 | [a,b]=>k a b
 | _=>none
noncomputable def compK (l:List Comprehension) (k:Expr->Expr->List Expr->Option α):Option α:=oneK l fun c=>if c.is_async=0 then k c.target c.iter c.ifs else none
variable {P:Prop} {r:α}
theorem fzE {s:Option Slot} {k:D->Option α} (h:fzK s k=some r) (f:∀ d,s=some (.fz d)->k d=some r->P):P:=by
 rcases s with _ | ⟨_⟩ | ⟨_⟩<;>first | exact f _ rfl h | exact noneE h
theorem ownE {s:Option Slot} {k:D->Option α} (h:ownK s k=some r) (f:∀ d,s=some (.own d)->k d=some r->P):P:=by
 rcases s with _ | ⟨_⟩ | ⟨_⟩<;>first | exact f _ rfl h | exact noneE h
theorem nameM {M:Expr->Prop} {e:Expr} {k:Str->Option α} (h:nameK e k=some r) (f:∀ x p,k x=some r->M (.Name x p)):M e:=by
 cases e<;>first | exact f _ _ h | exact noneE h
theorem nameE {e:Expr} {k:Str->Option α} (h:nameK e k=some r):∃ x p,e=.Name x p/\k x=some r:=nameM (M:=fun e=>∃ x p,e=.Name x p/\k x=some r) h fun x p h=>⟨x,p,rfl,h⟩
theorem tupleM {M:Expr->Prop} {e:Expr} {k:List Expr->Option α} (h:tupleK e k=some r) (f:∀ x n p,k x=some r->M (.Tuple x n p)):M e:=by
 cases e<;>first | exact f _ _ _ h | exact noneE h
theorem tupleE {e:Expr} {k:List Expr->Option α} (h:tupleK e k=some r):∃ x n p,e=.Tuple x n p/\k x=some r:=tupleM (M:=fun e=>∃ x n p,e=.Tuple x n p/\k x=some r) h fun x n p h=>⟨x,n,p,rfl,h⟩
theorem sliceM {M:Expr->Prop} {e:Expr} {k:Option Expr->Option Expr->Option α} (h:sliceK e k=some r) (f:∀ lo hi st p,(if st.isNone then k lo hi else none)=some r->M (.Slice lo hi st p)):M e:=by
 cases e<;>first | exact f _ _ _ _ h | exact noneE h
theorem sliceE {e:Expr} {k:Option Expr->Option Expr->Option α} (h:sliceK e k=some r):∃ lo hi st p,e=.Slice lo hi st p/\(if st.isNone then k lo hi else none)=some r:=sliceM (M:=fun e=>∃ lo hi st p,e=.Slice lo hi st p/\(if st.isNone then k lo hi else none)=some r) h fun lo hi st p h=>⟨lo,hi,st,p,rfl,h⟩
theorem callM {M:Expr->Prop} {e:Expr} {k:Expr->List Expr->Pos->Option α} (h:callK e k=some r) (f:∀ g as ks p,(if ks.isEmpty then k g as p else none)=some r->M (.Call g as ks p)):M e:=by
 cases e<;>first | exact f _ _ _ _ h | exact noneE h
theorem callE {e:Expr} {k:Expr->List Expr->Pos->Option α} (h:callK e k=some r):∃ g as ks p,e=.Call g as ks p/\(if ks.isEmpty then k g as p else none)=some r:=callM (M:=fun e=>∃ g as ks p,e=.Call g as ks p/\(if ks.isEmpty then k g as p else none)=some r) h fun g as ks p h=>⟨g,as,ks,p,rfl,h⟩
theorem attrM {M:Expr->Prop} {e:Expr} {k:Expr->Str->Pos->Option α} (h:attrK e k=some r) (f:∀ o a p,k o a p=some r->M (.Attribute o a p)):M e:=by
 cases e<;>first | exact f _ _ _ h | exact noneE h
theorem addM {M:Expr->Prop} {e:Expr} {k:Expr->Expr->Option α} (h:addK e k=some r) (f:∀ a op b p,(if op=.Add then k a b else none)=some r->M (.BinOp a op b p)):M e:=by
 cases e<;>first | exact f _ _ _ _ h | exact noneE h
theorem genM {M:Expr->Prop} {e:Expr} {k:Expr->List Comprehension->Scope->Option α} (h:genK e k=some r) (f:∀ a b c p,k a b c=some r->M (.GeneratorExp a b c p)):M e:=by
 cases e<;>first | exact f _ _ _ _ h | exact noneE h
theorem twoE {β:Type} {l:List β} {k:β->β->Option α} (h:twoK l k=some r) (f:∀ a b,l=[a,b]->k a b=some r->P):P:=by
 rcases l with _ | ⟨a,_ | ⟨b,_ | _⟩⟩<;>first | exact f _ _ rfl h | exact noneE h
theorem compE {l:List Comprehension} {k:Expr->Expr->List Expr->Option α} (h:compK l k=some r) (f:∀ t it ifs,l=[⟨t,it,ifs,0⟩]->k t it ifs=some r->P):P:=
 oneE h fun c e h=>by
  obtain ⟨t,it,ifs,a⟩:=c
  exact ifE h fun z h=>f t it ifs (by rw [e];exact congrArg (fun a=>[(⟨t,it,ifs,a⟩:Comprehension)]) z) h
theorem twoM {β:Type} {M:List β->Prop} {l:List β} {k:β->β->Option α} (h:twoK l k=some r) (f:∀ a b,k a b=some r->M [a,b]):M l:=twoE h fun a b e h=>e ▸ f a b h
theorem oneM {β:Type} {M:List β->Prop} {l:List β} {k:β->Option α} (h:oneK l k=some r) (f:∀ a,k a=some r->M [a]):M l:=oneE h fun a e h=>e ▸ f a h
theorem compM {M:List Comprehension->Prop} {l:List Comprehension} {k:Expr->Expr->List Expr->Option α} (h:compK l k=some r) (f:∀ t it ifs,k t it ifs=some r->M [⟨t,it,ifs,0⟩]):M l:=compE h fun t it ifs e h=>e ▸ f t it ifs h
theorem waw {β:Type} {l:List β} (h:l.isEmpty=true):l=[]:=List.isEmpty_iff.mp h
end
section
variable (T:Tab) (CF:Str->List D->Option D) (CM:Str->Str->List D->Option D) (K:KJ)
noncomputable def callOk (o:Expr) (ap p:Pos):Bool:=ap.endLine==p.line&&(o.ctorIdx != 16||(callK o fun f _ _=>nameK f fun id=>if id==("super":Str) then none else some ()).isSome)
noncomputable def somes:List (Option Expr)->List Expr->Bool
 | [],[]=>true
 | some _::ks,_::vs=>somes ks vs
 | _,_=>false
noncomputable def noStar (args:List Expr):Bool:=args.all fun e=>!isStarE e
noncomputable def rdQ {α:Type} (sc:Scope) (q:QV) (x:Str) (k:D->Option α):Option α:=
 if isVar sc x then optK (lookq x q) fun s=>k (slotD s) else if isGlob sc x then optK (T.gl.lookup x) k else none
noncomputable def pkQ {α:Type} (sc:Scope) (q:QV) (e:Expr) (k:D->Option α):Option α:=(PySem.Expr.casesOn (motive_1:=fun _=>_) e (fun x0 x1 x2=>K.ev sc q (.BoolOp x0 x1 x2) k) (fun x0 x1 x2=>K.ev sc q (.NamedExpr x0 x1 x2) k) (fun x0 x1 x2 x3=>K.ev sc q (.BinOp x0 x1 x2 x3) k) (fun x0 x1 x2=>K.ev sc q (.UnaryOp x0 x1 x2) k) (fun x0 x1 x2 x3=>K.ev sc q (.Lambda x0 x1 x2 x3) k) (fun x0 x1 x2 x3=>K.ev sc q (.IfExp x0 x1 x2 x3) k) (fun x0 x1 x2=>K.ev sc q (.Dict x0 x1 x2) k) (fun x0 x1 x2=>K.ev sc q (.Set x0 x1 x2) k) (fun x0 x1 x2 x3=>K.ev sc q (.ListComp x0 x1 x2 x3) k) (fun x0 x1 x2 x3=>K.ev sc q (.SetComp x0 x1 x2 x3) k) (fun x0 x1 x2 x3 x4=>K.ev sc q (.DictComp x0 x1 x2 x3 x4) k) (fun x0 x1 x2 x3=>K.ev sc q (.GeneratorExp x0 x1 x2 x3) k) (fun x0 x1=>K.ev sc q (.Await x0 x1) k) (fun x0 x1=>K.ev sc q (.Yield x0 x1) k) (fun x0 x1=>K.ev sc q (.YieldFrom x0 x1) k) (fun x0 x1 x2 x3=>K.ev sc q (.Compare x0 x1 x2 x3) k) (fun x0 x1 x2 x3=>K.ev sc q (.Call x0 x1 x2 x3) k) (fun x0 x1 x2 x3=>K.ev sc q (.FormattedValue x0 x1 x2 x3) k) (fun x0 x1=>K.ev sc q (.JoinedStr x0 x1) k) (fun x0 x1 x2=>K.ev sc q (.Constant x0 x1 x2) k) (fun x0 x1 x2=>K.ev sc q (.Attribute x0 x1 x2) k) (fun x0 x1 x2=>K.ev sc q (.Subscript x0 x1 x2) k) (fun x0 x1=>K.ev sc q (.Starred x0 x1) k) (fun x _=>rdQ T sc q x k) (fun x0 x1=>K.ev sc q (.List x0 x1) k) (fun x0 x1 x2=>K.ev sc q (.Tuple x0 x1 x2) k) (fun x0 x1 x2 x3=>K.ev sc q (.Slice x0 x1 x2 x3) k))
noncomputable def evLQ {α:Type} (sc:Scope) (q:QV):List Expr->(List D->Option α)->Option α
 | [],k=>k []
 | e::r,k=>if isStarE e then none else K.ev sc q e fun d=>evLQ sc q r fun ds=>k (d::ds)
noncomputable def pkLQ {α:Type} (sc:Scope) (q:QV):List Expr->(List D->Option α)->Option α
 | [],k=>k []
 | e::r,k=>if isStarE e then none else pkQ T K sc q e fun d=>pkLQ sc q r fun ds=>k (d::ds)
noncomputable def evOptQ {α:Type} (sc:Scope) (q:QV) (o:Option Expr) (k:Option Int->Option α):Option α:=match o with
 | none=>k none
 | some e=>K.ev sc q e fun d=>intK d fun i=>k (some i)
noncomputable def evKVsQ {α:Type} (sc:Scope) (q:QV):List (Option Expr)->List Expr->(List (Key×D)->Option α)->Option α
 | [],[],k=>k []
 | o::ks,v::vs,k=>optK o fun e=>K.ev sc q e fun kd=>(toKey kd).bind fun kk=>K.ev sc q v fun vd=>evKVsQ sc q ks vs fun r=>k ((kk,vd)::r)
 | [],_::_,_=>none
 | _::_,[],_=>none
noncomputable def trAllQ (sc:Scope) (q:QV):List Expr->Option Bool
 | []=>some true
 | e::r=>K.tr sc q e fun b=>if b then trAllQ sc q r else some false
noncomputable def trAnyQ (sc:Scope) (q:QV):List Expr->Option Bool
 | []=>some false
 | e::r=>K.tr sc q e fun b=>if b then some true else trAnyQ sc q r
noncomputable def evAndQ (sc:Scope) (q:QV):List Expr->Option D
 | []=>none
 | [e]=>K.ev sc q e some
 | e::r=>K.ev sc q e fun d=>boolK d fun b=>if b then evAndQ sc q r else some (.bool false)
noncomputable def evOrQ (sc:Scope) (q:QV):List Expr->Option D
 | []=>none
 | [e]=>K.ev sc q e some
 | e::r=>K.ev sc q e fun d=>boolK d fun b=>if b then some (.bool true) else evOrQ sc q r
noncomputable def bindNs (sc:Scope):List Expr->List D->QV->Option QV
 | [],[],q=>some q
 | t::ts,d::ds,q=>nameK t fun x=>if canSet sc x then bindNs sc ts ds (setq x (.fz d) q) else none
 | [],_::_,_=>none
 | _::_,[],_=>none
noncomputable def bindTQ {α:Type} (ss:Scope) (t:Expr) (d:D) (q:QV) (k:QV->Option α):Option α:=(PySem.Expr.casesOn (motive_1:=fun _=>_) t (fun _ _ _=>none) (fun _ _ _=>none) (fun _ _ _ _=>none) (fun _ _ _=>none) (fun _ _ _ _=>none) (fun _ _ _ _=>none) (fun _ _ _=>none) (fun _ _ _=>none) (fun _ _ _ _=>none) (fun _ _ _ _=>none) (fun _ _ _ _ _=>none) (fun _ _ _ _=>none) (fun _ _=>none) (fun _ _=>none) (fun _ _=>none) (fun _ _ _ _=>none) (fun _ _ _ _=>none) (fun _ _ _ _=>none) (fun _ _=>none) (fun _ _ _=>none) (fun _ _ _=>none) (fun _ _ _=>none) (fun _ _=>none) (fun x _=>if canSet ss x then k (setq x (.fz d) q) else none) (fun _ _=>none) (fun ts _ _=>tupK d fun l=>unN ts.length l fun ds=>(bindNs ss ts ds q).bind k) (fun _ _ _ _=>none))
noncomputable def zipSumQ (da db:D):Option D:=tupK da fun la=>tupK db fun lb=>if la.length<=cap/\lb.length<=cap then (intsOf la).bind fun xs=>(intsOf lb).map fun ys=>.tuple (List.zipWith (fun u v=>.int (u+v)) xs ys) else none
noncomputable def isTupQ (d:D):Option Bool:=match d with
 | .tuple _=>some true
 | .int _=>some false
 | _=>none
noncomputable def isiQ {α:Type} (sc:Scope) (q:QV) (args:List Expr) (k:D->Option α):Option α:=
 twoK args fun e c=>nameK c fun c=>if c==("tuple":Str)&&isGlob sc c&&!isStarE e then pkQ T K sc q e fun d=>(isTupQ d).bind fun b=>k (.bool b) else none
noncomputable def lrQ {α:Type} (sc:Scope) (q:QV) (args:List Expr) (k:D->Option α):Option α:=
 oneK args fun e=>callK e fun g as _=>nameK g fun g=>if g==("range":Str)&&isGlob sc g&&noStar as then pkLQ T K sc q as fun ds=>(rangeD ds).bind fun l=>k (.list l) else none
noncomputable def gs3Q {α:Type} (sc:Scope) (q:QV) (scope:Scope) (x y x' y':Str) (it:Expr) (ifs:List Expr) (k:D->Option α):Option α:=
 callK it fun z as _=>nameK z fun z=>twoK as fun a b=>if ifs.isEmpty&&z==("zip":Str)&&isGlob sc z&&x==x'&&y==y'&&genOk sc scope x y&&!isStarE a&&!isStarE b then
   pkQ T K sc q a fun da=>pkQ T K sc q b fun db=>(zipSumQ da db).bind k else none
noncomputable def gs2Q {α:Type} (sc:Scope) (q:QV) (scope:Scope) (x y:Str) (gens:List Comprehension) (k:D->Option α):Option α:=
 compK gens fun t it ifs=>tupleK t fun ts=>twoK ts fun t1 t2=>nameK t1 fun x'=>nameK t2 fun y'=>gs3Q T K sc q scope x y x' y' it ifs k
noncomputable def gsQ {α:Type} (sc:Scope) (q:QV) (args:List Expr) (k:D->Option α):Option α:=
 oneK args fun g=>genK g fun elt gens scope=>addK elt fun l r=>nameK l fun x=>nameK r fun y=>gs2Q T K sc q scope x y gens k
noncomputable def hasF (T:Tab) (f:Str):Bool:=(T.fns.lookup f).isSome||(T.cls.lookup f).isSome
noncomputable def isGen (args:List Expr):Bool:=args.any fun e=>e.ctorIdx==11
noncomputable def wmf {α:Type} (sc:Scope) (q:QV) (f:Str) (args:List Expr) (k:D->Option α):Option α:=
 if isGlob sc f then
  if f==("isinstance":Str) then isiQ T K sc q args k
  else if f==("list":Str) then lrQ T K sc q args k
  else match bname f with
   | some b=>if f==("tuple":Str)&&isGen args then gsQ T K sc q args k else pkLQ T K sc q args fun ds=>(bfn b ds).bind k
   | none=>if hasF T f then evLQ K sc q args fun ds=>(CF f ds).bind k else none
 else none
noncomputable def attrQ (d:D) (a:Str):Option D:=objK d fun c fs=>if (T.cls.lookup c).isSome then fs.lookup a else none
noncomputable def evAttrQ {α:Type} (sc:Scope) (q:QV) (o:Expr) (a:Str) (k:D->Option α):Option α:=
 nameK o fun c=>if isGlob sc c then optK (T.con.lookup c) fun l=>optK (l.lookup a) k else if T.ats.contains a then rdQ T sc q c fun d=>(attrQ T d a).bind k else none
noncomputable def constQ {α:Type} (c:Const) (k:D->Option α):Option α:=match c with
 | .none=>k .none
 | .bool b=>k (.bool b)
 | .int i=>k (.int i)
 | .str x=>k (.str x.cps.toList)
 | _=>none
noncomputable def boolQ (sc:Scope) (q:QV) (op:BoolOp) (es:List Expr):Option D:=match op with
 | .And=>evAndQ K sc q es
 | .Or=>evOrQ K sc q es
noncomputable def allQ (sc:Scope) (q:QV) (op:BoolOp) (es:List Expr):Option Bool:=match op with
 | .And=>trAllQ K sc q es
 | .Or=>trAnyQ K sc q es
noncomputable def compQ (c:D->Option Bool) (f:D->Option D):List D->Option (List D)
 | []=>some []
 | d::ds=>(c d).bind fun b=>if b then (f d).bind fun v=>(compQ c f ds).map fun r=>v::r else compQ c f ds
noncomputable def compDQ (c:D->Option Bool) (f:D->Option (Key×D)):List D->List (Key×D)->Option (List (Key×D))
 | [],acc=>some acc
 | d::ds,acc=>(c d).bind fun b=>if b then (f d).bind fun v=>compDQ c f ds (kset v.1 v.2 acc) else compDQ c f ds acc
noncomputable def listCompQ {α:Type} (sc:Scope) (q:QV) (elt:Expr) (gens:List Comprehension) (scope:Scope) (k:D->Option α):Option α:=
 compK gens fun t iter ifs=>if scOk scope sc then K.it sc q iter t fun ds=>if ds.length<=cap then
   (compQ (fun d=>bindTQ scope t d (visq scope q) fun q'=>trAllQ K (relab scope sc) q' ifs) (fun d=>bindTQ scope t d (visq scope q) fun q'=>K.ev (relab scope sc) q' elt some) ds).bind fun l=>k (.list l) else none else none
noncomputable def dictCompQ {α:Type} (sc:Scope) (q:QV) (kx vx:Expr) (gens:List Comprehension) (scope:Scope) (k:D->Option α):Option α:=
 compK gens fun t iter ifs=>if scOk scope sc then K.it sc q iter t fun ds=>if ds.length<=cap then
   (compDQ (fun d=>bindTQ scope t d (visq scope q) fun q'=>trAllQ K (relab scope sc) q' ifs) (fun d=>bindTQ scope t d (visq scope q) fun q'=>K.ev (relab scope sc) q' kx fun a=>(toKey a).bind fun kk=>K.ev (relab scope sc) q' vx fun b=>some (kk,b)) ds []).bind fun l=>k (.dict l) else none else none
noncomputable def compExpQ {α:Type} (sc:Scope) (q:QV) (e:Expr) (k:D->Option α):Option α:=(PySem.Expr.casesOn (motive_1:=fun _=>_) e (fun _ _ _=>none) (fun _ _ _=>none) (fun _ _ _ _=>none) (fun _ _ _=>none) (fun _ _ _ _=>none) (fun _ _ _ _=>none) (fun _ _ _=>none) (fun _ _ _=>none) (fun elt gens scope _=>listCompQ K sc q elt gens scope k) (fun _ _ _ _=>none) (fun kx vx gens scope _=>dictCompQ K sc q kx vx gens scope k) (fun _ _ _ _=>none) (fun _ _=>none) (fun _ _=>none) (fun _ _=>none) (fun _ _ _ _=>none) (fun _ _ _ _=>none) (fun _ _ _ _=>none) (fun _ _=>none) (fun _ _ _=>none) (fun _ _ _=>none) (fun _ _ _=>none) (fun _ _=>none) (fun _ _=>none) (fun _ _=>none) (fun _ _ _=>none) (fun _ _ _ _=>none))
noncomputable def hasM (T:Tab) (c m:Str):Bool:=((T.cls.lookup c).bind fun ms=>ms.lookup m).isSome
noncomputable def mOk (T:Tab) (c:Str) (fs:List (Str×D)) (m:Str):Bool:=(fs.lookup m).isNone&&hasM T c m
noncomputable def bmQ {α:Type} (sc:Scope) (q:QV) (o:Expr) (mt:Mt) (args:List Expr) (k:D->Option α):Option α:=pkQ T K sc q o fun d=>match mt with
 | .join=>strK d fun t=>oneK args fun e=>K.ev sc q e fun x=>(mfn (.str t) .join [x]).bind k
 | .lower=>strK d fun t=>if args.isEmpty then (mfn (.str t) .lower []).bind k else none
 | .get=>dictK d fun kvs=>match args with
  | [e]=>K.ev sc q e fun x=>(mfn (.dict kvs) .get [x]).bind k
  | [e,e']=>K.ev sc q e fun x=>K.ev sc q e' fun y=>(mfn (.dict kvs) .get [x,y]).bind k
  | _=>none
noncomputable def methQ {α:Type} (sc:Scope) (q:QV) (o:Expr) (m:Str) (ap:Pos) (args:List Expr) (p:Pos) (k:D->Option α):Option α:=
 if !(callOk o ap p&&decide (args.length<20)) then none else match mname m with
   | some mt=>bmQ T K sc q o mt args k
   | none=>K.ev sc q o fun d=>objK d fun c fs=>if mOk T c fs m then evLQ K sc q args fun ds=>(CM c m (.obj c fs::ds)).bind k else none
noncomputable def callQ {α:Type} (sc:Scope) (q:QV) (f:Expr) (args:List Expr) (p:Pos) (k:D->Option α):Option α:=(PySem.Expr.casesOn (motive_1:=fun _=>_) f (fun _ _ _=>none) (fun _ _ _=>none) (fun _ _ _ _=>none) (fun _ _ _=>none) (fun _ _ _ _=>none) (fun _ _ _ _=>none) (fun _ _ _=>none) (fun _ _ _=>none) (fun _ _ _ _=>none) (fun _ _ _ _=>none) (fun _ _ _ _ _=>none) (fun _ _ _ _=>none) (fun _ _=>none) (fun _ _=>none) (fun _ _=>none) (fun _ _ _ _=>none) (fun _ _ _ _=>none) (fun _ _ _ _=>none) (fun _ _=>none) (fun _ _ _=>none) (fun o m ap=>methQ T CM K sc q o m ap args p k) (fun _ _ _=>none) (fun _ _=>none) (fun f _=>wmf T CF K sc q f args k) (fun _ _=>none) (fun _ _ _=>none) (fun _ _ _ _=>none))
noncomputable def evSQ {α:Type} (sc:Scope) (q:QV) (e:Expr) (k:D->Option α):Option α:=(PySem.Expr.casesOn (motive_1:=fun _=>_) e (fun op es _=>(boolQ K sc q op es).bind k) (fun _ _ _=>none) (fun l op r _=>pkQ T K sc q l fun a=>pkQ T K sc q r fun b=>(binop op a b).bind k) (fun op x _=>pkQ T K sc q x fun a=>(unop op a).bind k) (fun _ _ _ _=>none) (fun t a b _=>(K.tr sc q t fun c=>if c then K.ev sc q a some else K.ev sc q b some).bind k) (fun ks vs _=>if ks.length<=16/\somes ks vs=true then evKVsQ K sc q ks vs fun kvs=>k (.dict (kvs.foldl (fun acc p=>kset p.1 p.2 acc) [])) else none) (fun _ _ _=>none) (fun elt gens scope _=>listCompQ K sc q elt gens scope k) (fun _ _ _ _=>none) (fun kx vx gens scope _=>dictCompQ K sc q kx vx gens scope k) (fun _ _ _ _=>none) (fun _ _=>none) (fun _ _=>none) (fun _ _=>none) (fun l ops rs _=>oneK ops fun op=>oneK rs fun r=>if behindInMarks op r then none else pkQ T K sc q l fun a=>pkQ T K sc q r fun b=>(cmpD op a b).bind fun c=>k (.bool c)) (fun f args ks p=>if ks.isEmpty&&noStar args then callQ T CF CM K sc q f args p k else none) (fun _ _ _ _=>none) (fun _ _=>none) (fun c _ _=>constQ c k) (fun o a _=>evAttrQ T sc q o a k) (fun o i _=>if isSliceE i then sliceK i fun lo hi=>pkQ T K sc q o fun d=>evOptQ K sc q lo fun a=>evOptQ K sc q hi fun b=>if boundOk a&&boundOk b then (cutD a b d).bind k else none
   else pkQ T K sc q o fun d=>K.ev sc q i fun kd=>(sub d kd).bind k) (fun _ _=>none) (fun x _=>if isVar sc x then fzK (lookq x q) k else if isGlob sc x then optK (T.gl.lookup x) k else none) (fun es _=>if es.length<=cap then evLQ K sc q es fun ds=>k (.list ds) else none) (fun es _ _=>if es.length<=cap then evLQ K sc q es fun ds=>k (.tuple ds) else none) (fun _ _ _ _=>none))
noncomputable def trSQ {α:Type} (sc:Scope) (q:QV) (e:Expr) (k:Bool->Option α):Option α:=(PySem.Expr.casesOn (motive_1:=fun _=>_) e (fun op es _=>(allQ K sc q op es).bind k) (fun x0 x1 x2=>K.ev sc q (.NamedExpr x0 x1 x2) fun d=>boolK d k) (fun x0 x1 x2 x3=>K.ev sc q (.BinOp x0 x1 x2 x3) fun d=>boolK d k) (fun op x p=>if op=.Not then K.tr sc q x fun b=>k (!b) else K.ev sc q (.UnaryOp op x p) fun d=>boolK d k) (fun x0 x1 x2 x3=>K.ev sc q (.Lambda x0 x1 x2 x3) fun d=>boolK d k) (fun _ _ _ _=>none) (fun x0 x1 x2=>K.ev sc q (.Dict x0 x1 x2) fun d=>boolK d k) (fun x0 x1 x2=>K.ev sc q (.Set x0 x1 x2) fun d=>boolK d k) (fun x0 x1 x2 x3=>K.ev sc q (.ListComp x0 x1 x2 x3) fun d=>boolK d k) (fun x0 x1 x2 x3=>K.ev sc q (.SetComp x0 x1 x2 x3) fun d=>boolK d k) (fun x0 x1 x2 x3 x4=>K.ev sc q (.DictComp x0 x1 x2 x3 x4) fun d=>boolK d k) (fun x0 x1 x2 x3=>K.ev sc q (.GeneratorExp x0 x1 x2 x3) fun d=>boolK d k) (fun x0 x1=>K.ev sc q (.Await x0 x1) fun d=>boolK d k) (fun x0 x1=>K.ev sc q (.Yield x0 x1) fun d=>boolK d k) (fun x0 x1=>K.ev sc q (.YieldFrom x0 x1) fun d=>boolK d k) (fun l ops rs _=>oneK ops fun op=>oneK rs fun r=>if behindInMarks op r then none else pkQ T K sc q l fun a=>pkQ T K sc q r fun b=>(cmpD op a b).bind k) (fun x0 x1 x2 x3=>K.ev sc q (.Call x0 x1 x2 x3) fun d=>boolK d k) (fun x0 x1 x2 x3=>K.ev sc q (.FormattedValue x0 x1 x2 x3) fun d=>boolK d k) (fun x0 x1=>K.ev sc q (.JoinedStr x0 x1) fun d=>boolK d k) (fun x0 x1 x2=>K.ev sc q (.Constant x0 x1 x2) fun d=>boolK d k) (fun x0 x1 x2=>K.ev sc q (.Attribute x0 x1 x2) fun d=>boolK d k) (fun x0 x1 x2=>K.ev sc q (.Subscript x0 x1 x2) fun d=>boolK d k) (fun x0 x1=>K.ev sc q (.Starred x0 x1) fun d=>boolK d k) (fun x0 x1=>K.ev sc q (.Name x0 x1) fun d=>boolK d k) (fun x0 x1=>K.ev sc q (.List x0 x1) fun d=>boolK d k) (fun x0 x1 x2=>K.ev sc q (.Tuple x0 x1 x2) fun d=>boolK d k) (fun x0 x1 x2 x3=>K.ev sc q (.Slice x0 x1 x2 x3) fun d=>boolK d k))
noncomputable def keysOf (d:D):Option (List D):=match d with
 | .dict kvs=>some (kvs.map fun p=>ofKey p.1)
 | d=>seqOf d
noncomputable def isNameE (e:Expr):Bool:=e.ctorIdx==23
noncomputable def seqT {α:Type} (t:Expr) (d:D) (k:List D->Option α):Option α:=if isNameE t then (keysOf d).bind k else if tgtOk .lst t then listK d k else none
noncomputable def callSeqT {α:Type} (t:Expr) (d:D) (k:List D->Option α):Option α:=if isNameE t then (seqOf d).bind k else if tgtOk .lst t then listK d k else none
noncomputable def zipQ (ds:List D):Option (List D):=twoK ds fun a b=>listK a fun la=>listK b fun lb=>some ((la.zip lb).map fun p=>.tuple [p.1,p.2])
noncomputable def enumQ (ds:List D):Option (List D):=oneK ds fun a=>listK a fun la=>some (enumD la)
noncomputable def itemsQ (d:D):Option (List D):=dictK d fun kvs=>some (kvs.map fun p=>.tuple [ofKey p.1,p.2])
noncomputable def valsQ (d:D):Option (List D):=dictK d fun kvs=>some (kvs.map fun p=>p.2)
noncomputable def itNQ {α:Type} (sc:Scope) (q:QV) (f:Str) (args:List Expr) (t:Expr) (k:List D->Option α):Option α:=
  if isGlob sc f&&f==("range":Str) then (if tgtOk .plain t then pkLQ T K sc q args fun ds=>(rangeD ds).bind k else none)
  else if isGlob sc f&&f==("zip":Str) then (if tgtOk .pairs t then pkLQ T K sc q args fun ds=>(zipQ ds).bind k else none)
  else if isGlob sc f&&f==("enumerate":Str) then (if tgtOk .pairs t then pkLQ T K sc q args fun ds=>(enumQ ds).bind k else none)
  else wmf T CF K sc q f args fun d=>callSeqT t d k
noncomputable def itAQ {α:Type} (sc:Scope) (q:QV) (o:Expr) (m:Str) (ap:Pos) (args:List Expr) (p:Pos) (t:Expr) (k:List D->Option α):Option α:=
  if !callOk o ap p then none else if !args.isEmpty then none else
  if m==("items":Str) then (if tgtOk .pairs t then pkQ T K sc q o fun d=>(itemsQ d).bind k else none)
  else if m==("values":Str) then (if tgtOk .plain t then pkQ T K sc q o fun d=>(valsQ d).bind k else none)
  else none
noncomputable def itCQ {α:Type} (sc:Scope) (q:QV) (f:Expr) (args:List Expr) (p:Pos) (t:Expr) (k:List D->Option α):Option α:=(PySem.Expr.casesOn (motive_1:=fun _=>_) f (fun _ _ _=>none) (fun _ _ _=>none) (fun _ _ _ _=>none) (fun _ _ _=>none) (fun _ _ _ _=>none) (fun _ _ _ _=>none) (fun _ _ _=>none) (fun _ _ _=>none) (fun _ _ _ _=>none) (fun _ _ _ _=>none) (fun _ _ _ _ _=>none) (fun _ _ _ _=>none) (fun _ _=>none) (fun _ _=>none) (fun _ _=>none) (fun _ _ _ _=>none) (fun _ _ _ _=>none) (fun _ _ _ _=>none) (fun _ _=>none) (fun _ _ _=>none) (fun o m ap=>itAQ T K sc q o m ap args p t k) (fun _ _ _=>none) (fun _ _=>none) (fun f _=>itNQ T CF K sc q f args t k) (fun _ _=>none) (fun _ _ _=>none) (fun _ _ _ _=>none))
noncomputable def itSQ {α:Type} (sc:Scope) (q:QV) (e t:Expr) (k:List D->Option α):Option α:=(PySem.Expr.casesOn (motive_1:=fun _=>_) e (fun x0 x1 x2=>pkQ T K sc q (.BoolOp x0 x1 x2) fun d=>seqT t d k) (fun x0 x1 x2=>pkQ T K sc q (.NamedExpr x0 x1 x2) fun d=>seqT t d k) (fun x0 x1 x2 x3=>pkQ T K sc q (.BinOp x0 x1 x2 x3) fun d=>seqT t d k) (fun x0 x1 x2=>pkQ T K sc q (.UnaryOp x0 x1 x2) fun d=>seqT t d k) (fun x0 x1 x2 x3=>pkQ T K sc q (.Lambda x0 x1 x2 x3) fun d=>seqT t d k) (fun x0 x1 x2 x3=>pkQ T K sc q (.IfExp x0 x1 x2 x3) fun d=>seqT t d k) (fun x0 x1 x2=>pkQ T K sc q (.Dict x0 x1 x2) fun d=>seqT t d k) (fun _ _ _=>none) (fun x0 x1 x2 x3=>pkQ T K sc q (.ListComp x0 x1 x2 x3) fun d=>seqT t d k) (fun x0 x1 x2 x3=>pkQ T K sc q (.SetComp x0 x1 x2 x3) fun d=>seqT t d k) (fun x0 x1 x2 x3 x4=>pkQ T K sc q (.DictComp x0 x1 x2 x3 x4) fun d=>seqT t d k) (fun x0 x1 x2 x3=>pkQ T K sc q (.GeneratorExp x0 x1 x2 x3) fun d=>seqT t d k) (fun x0 x1=>pkQ T K sc q (.Await x0 x1) fun d=>seqT t d k) (fun x0 x1=>pkQ T K sc q (.Yield x0 x1) fun d=>seqT t d k) (fun x0 x1=>pkQ T K sc q (.YieldFrom x0 x1) fun d=>seqT t d k) (fun x0 x1 x2 x3=>pkQ T K sc q (.Compare x0 x1 x2 x3) fun d=>seqT t d k) (fun f args ks p=>if ks.isEmpty&&noStar args then itCQ T CF K sc q f args p t k else none) (fun x0 x1 x2 x3=>pkQ T K sc q (.FormattedValue x0 x1 x2 x3) fun d=>seqT t d k) (fun x0 x1=>pkQ T K sc q (.JoinedStr x0 x1) fun d=>seqT t d k) (fun x0 x1 x2=>pkQ T K sc q (.Constant x0 x1 x2) fun d=>seqT t d k) (fun x0 x1 x2=>pkQ T K sc q (.Attribute x0 x1 x2) fun d=>seqT t d k) (fun x0 x1 x2=>pkQ T K sc q (.Subscript x0 x1 x2) fun d=>seqT t d k) (fun x0 x1=>pkQ T K sc q (.Starred x0 x1) fun d=>seqT t d k) (fun x0 x1=>pkQ T K sc q (.Name x0 x1) fun d=>seqT t d k) (fun x0 x1=>pkQ T K sc q (.List x0 x1) fun d=>seqT t d k) (fun x0 x1 x2=>pkQ T K sc q (.Tuple x0 x1 x2) fun d=>seqT t d k) (fun x0 x1 x2 x3=>pkQ T K sc q (.Slice x0 x1 x2 x3) fun d=>seqT t d k))
noncomputable def catQ (a b:D):Option (List D):=listK a fun x=>listK b fun y=>if x.length+y.length<=cap then some (x++y) else none
noncomputable def evOwnQ (sc:Scope) (q:QV) (e:Expr) (k:D->Option D):Option D:=(PySem.Expr.casesOn (motive_1:=fun _=>_) e (fun _ _ _=>none) (fun _ _ _=>none) (fun l op r _=>if op=.Add then pkQ T K sc q l fun a=>pkQ T K sc q r fun b=>(catQ a b).bind fun x=>k (.list x) else none) (fun _ _ _=>none) (fun _ _ _ _=>none) (fun _ _ _ _=>none) (fun ks vs _=>if ks.isEmpty&&vs.isEmpty then k (.dict []) else none) (fun _ _ _=>none) (fun _ _ _ _=>none) (fun _ _ _ _=>none) (fun _ _ _ _ _=>none) (fun _ _ _ _=>none) (fun _ _=>none) (fun _ _=>none) (fun _ _=>none) (fun _ _ _ _=>none) (fun _ _ _ _=>none) (fun _ _ _ _=>none) (fun _ _=>none) (fun _ _ _=>none) (fun _ _ _=>none) (fun _ _ _=>none) (fun _ _=>none) (fun _ _=>none) (fun es _=>if es.length<=cap then evLQ K sc q es fun ds=>k (.list ds) else none) (fun _ _ _=>none) (fun _ _ _ _=>none))
noncomputable def evSlotQ (c:Cx) (sc:Scope) (q:QV) (x:Str) (e:Expr) (k:Slot->Option D):Option D:=
 if c.muts.contains x&&fresh e then evOwnQ T K sc q e fun d=>k (.own d)
 else if isComp e then compExpQ K sc q e fun d=>k (.fz d)
 else K.ev sc q e fun d=>k (.fz d)
noncomputable def evSlotsQ (c:Cx) (sc:Scope) (q:QV):List Expr->List Expr->(List Slot->Option D)->Option D
 | [],[],k=>k []
 | t::ts,e::es,k=>nameK t fun x=>if isStarE e then none else
   if c.muts.contains x&&fresh e then evOwnQ T K sc q e fun d=>evSlotsQ c sc q ts es fun r=>k (.own d::r)
   else K.ev sc q e fun d=>evSlotsQ c sc q ts es fun r=>k (.fz d::r)
 | [],_::_,_=>none
 | _::_,[],_=>none
noncomputable def setSlotsQ (sc:Scope):List Str->List Slot->QV->(QV->Option D)->Option D
 | [],[],q,k=>k q
 | x::xs,s::ss,q,k=>if canSet sc x then setSlotsQ sc xs ss (setq x s q) k else none
 | [],_::_,_,_=>none
 | _::_,[],_,_=>none
noncomputable def putL (xs:List D) (k v:D):Option (List D):=intK k fun i=>if 0<=i/\i<xs.length/\xs.length<=cap then some (xs.set i.toNat v) else none
noncomputable def putM (kvs:List (Key×D)) (k v:D):Option (List (Key×D)):=(toKey k).bind fun k=>if kvs.length<=cap then some (kset k v kvs) else none
noncomputable def putQ (d k v:D) (f:D->Option D):Option D:=match d with
 | .list xs=>(putL xs k v).bind fun ys=>f (.list ys)
 | .dict kvs=>(putM kvs k v).bind fun m=>f (.dict m)
 | _=>none
noncomputable def wol (sc:Scope) (x:Str) (q:QV):QV:=if isVar sc x then match lookq x q with
 | some (.own d)=>if isListD d then setq x (.fz d) q else q
 | _=>q else q
noncomputable def frzq (sc:Scope) (xs:List Str) (q:QV):QV:=xs.foldl (fun q x=>wol sc x q) q
noncomputable def asgNameQ (c:Cx) (sc:Scope) (q:QV) (x:Str) (e:Expr) (next:QV->Option D):Option D:=if canSet sc x then evSlotQ T K c sc q x e fun s=>next (setq x s q) else none
noncomputable def asgTupQ (c:Cx) (sc:Scope) (q:QV) (ts:List Expr) (t e:Expr) (next:QV->Option D):Option D:=
 if e.ctorIdx==25 then tupleK e fun es=>if nodupB (names ts)&&es.length<=cap then evSlotsQ T K c sc q ts es fun ss=>optK (swapRoad sc ts es) fun b=>
   if b then setSlotsQ sc (names ts).reverse ss.reverse q next else setSlotsQ sc (names ts) ss q next
  else none
 else K.ev sc q e fun d=>bindTQ sc t d q next
noncomputable def asgAttrQ (sc:Scope) (q:QV) (o:Expr) (a:Str) (e:Expr) (next:QV->Option D):Option D:=nameK o fun x=>
 if isComp e||!T.ats.contains a then none else K.ev sc q e fun d=>if isVar sc x then ownK (lookq x q) fun ob=>objK ob fun cl fs=>
  if (fs.lookup a).isNone&&(T.cls.lookup cl).isSome&&fs.length<=100 then next (setq x (.own (.obj cl (fs++[(a,d)]))) q) else none else none
noncomputable def asgSubQ (sc:Scope) (q:QV) (o i e:Expr) (next:QV->Option D):Option D:=nameK o fun x=>
 if isComp e then none else K.ev sc q e fun v=>if isVar sc x then ownK (lookq x q) fun d=>K.ev sc q i fun k=>putQ d k v fun d=>next (setq x (.own d) q) else none
noncomputable def wgq (c:Cx) (sc:Scope) (q:QV) (t e:Expr) (next:QV->Option D):Option D:=(PySem.Expr.casesOn (motive_1:=fun _=>_) t (fun _ _ _=>none) (fun _ _ _=>none) (fun _ _ _ _=>none) (fun _ _ _=>none) (fun _ _ _ _=>none) (fun _ _ _ _=>none) (fun _ _ _=>none) (fun _ _ _=>none) (fun _ _ _ _=>none) (fun _ _ _ _=>none) (fun _ _ _ _ _=>none) (fun _ _ _ _=>none) (fun _ _=>none) (fun _ _=>none) (fun _ _=>none) (fun _ _ _ _=>none) (fun _ _ _ _=>none) (fun _ _ _ _=>none) (fun _ _=>none) (fun _ _ _=>none) (fun o a _=>asgAttrQ T K sc q o a e next) (fun o i _=>asgSubQ K sc q o i e next) (fun _ _=>none) (fun x _=>asgNameQ T K c sc q x e next) (fun _ _=>none) (fun ts n p=>asgTupQ T K c sc q ts (.Tuple ts n p) e next) (fun _ _ _ _=>none))
noncomputable def wrs (sc:Scope) (q:QV) (x y z e:Expr) (next:QV->Option D):Option D:=nameK x fun x=>nameK y fun y=>nameK z fun z=>K.ev sc q e fun d=>intK d fun i=>
 if canSet sc x&&canSet sc y&&canSet sc z then next (setq z (.fz (.int i)) (setq y (.fz (.int i)) (setq x (.fz (.int i)) q))) else none
noncomputable def asgQ (c:Cx) (sc:Scope) (q:QV) (ts:List Expr) (e:Expr) (next:QV->Option D):Option D:=match ts with
 | [t]=>wgq T K c sc q t e next
 | [x,y,z]=>wrs K sc q x y z e next
 | _=>none
noncomputable def augNameQ (sc:Scope) (q:QV) (x:Str) (e:Expr) (next:QV->Option D):Option D:=
 if isVar sc x&&canSet sc x then fzK (lookq x q) fun old=>K.ev sc q e fun v=>(addI old v).bind fun d=>next (setq x (.fz d) q) else none
noncomputable def augSubQ (sc:Scope) (q:QV) (o i e:Expr) (next:QV->Option D):Option D:=nameK o fun x=>
 if isVar sc x&&!isSliceE i then ownK (lookq x q) fun d=>K.ev sc q i fun k=>(sub d k).bind fun old=>K.ev sc q e fun v=>(addI old v).bind fun n=>putQ d k n fun d=>next (setq x (.own d) q) else none
noncomputable def augTQ (sc:Scope) (q:QV) (t e:Expr) (next:QV->Option D):Option D:=(PySem.Expr.casesOn (motive_1:=fun _=>_) t (fun _ _ _=>none) (fun _ _ _=>none) (fun _ _ _ _=>none) (fun _ _ _=>none) (fun _ _ _ _=>none) (fun _ _ _ _=>none) (fun _ _ _=>none) (fun _ _ _=>none) (fun _ _ _ _=>none) (fun _ _ _ _=>none) (fun _ _ _ _ _=>none) (fun _ _ _ _=>none) (fun _ _=>none) (fun _ _=>none) (fun _ _=>none) (fun _ _ _ _=>none) (fun _ _ _ _=>none) (fun _ _ _ _=>none) (fun _ _=>none) (fun _ _ _=>none) (fun _ _ _=>none) (fun o i _=>augSubQ K sc q o i e next) (fun _ _=>none) (fun x _=>augNameQ K sc q x e next) (fun _ _=>none) (fun _ _ _=>none) (fun _ _ _ _=>none))
noncomputable def augQ (sc:Scope) (q:QV) (t:Expr) (op:Operator) (e:Expr) (next:QV->Option D):Option D:=if op=.Add then augTQ K sc q t e next else none
noncomputable def appQ (sc:Scope) (q:QV) (x:Str) (e:Expr) (next:QV->Option D):Option D:=ownK (lookq x q) fun d=>listK d fun xs=>K.ev sc q e fun v=>if xs.length<=cap then next (setq x (.own (.list (xs++[v]))) q) else none
noncomputable def extQ (sc:Scope) (q:QV) (x:Str) (e:Expr) (next:QV->Option D):Option D:=ownK (lookq x q) fun d=>listK d fun xs=>K.ev sc q e fun v=>listK v fun ys=>if xs.length+ys.length<=cap then next (setq x (.own (.list (xs++ys))) q) else none
noncomputable def exprXQ (sc:Scope) (q:QV) (o:Expr) (m:Str) (ap:Pos) (as:List Expr) (p:Pos) (next:QV->Option D):Option D:=nameK o fun x=>oneK as fun e=>
 if isVar sc x&&callOk o ap p&&!isStarE e then (if m==("append":Str) then appQ K sc q x e next else if m==("extend":Str) then extQ K sc q x e next else none) else none
noncomputable def exprQ (sc:Scope) (q:QV) (e:Expr) (next:QV->Option D):Option D:=callK e fun f as p=>attrK f fun o m ap=>exprXQ K sc q o m ap as p next
noncomputable def execSQ (c:Cx) (sc:Scope) (q:QV) (st:Stmt) (next brk cont:QV->Option D) (ret:D->Option D):Option D:=(@PySem.Stmt.casesOn (fun _=>_) st (fun _ _ _ _ _ _ _ _ _ _=>none) (fun _ _ _ _ _ _ _ _ _ _=>none) (fun _ _ _ _ _ _ _ _ _ _ _=>none) (fun e _=>optK e fun e=>K.ev sc q e ret) (fun _ _=>none) (fun ts e _=>asgQ T K c sc q ts e next) (fun _ _ _ _ _ _ _=>none) (fun t op e _=>augQ K sc q t op e next) (fun _ _ _ _ _=>none) (fun _ _ _ _ _=>none) (fun _ _ _ _ _=>none) (fun _ _ _ _=>none) (fun t a b _=>K.tr sc q t fun x=>if x then K.exs c sc q a next brk cont ret else K.exs c sc q b next brk cont ret) (fun _ _ _=>none) (fun _ _ _=>none) (fun _ _ _=>none) (fun _ _ _=>none) (fun _ _ _ _ _=>none) (fun _ _ _ _ _=>none) (fun _ _ _=>none) (fun _ _=>none) (fun _ _ _ _=>none) (fun _ _=>none) (fun _ _=>none) (fun e _=>exprQ K sc q e next) (fun _=>none) (fun _=>brk q) (fun _=>cont q))
noncomputable def execLQ (c:Cx) (sc:Scope):List Stmt->QV->(QV->Option D)->(QV->Option D)->(QV->Option D)->(D->Option D)->Option D
 | [],q,next,_,_,_=>next q
 | st::r,q,next,brk,cont,ret=>execSQ T K c sc (frzq sc (hintsAt c st) q) st (fun q'=>execLQ c sc r q' next brk cont ret) brk cont ret
noncomputable abbrev Hd:=QV->(QV->Option D)->(D->Option D)->Option D
noncomputable def stmtQ (c:Cx) (sc:Scope) (q:QV) (st:Stmt) (h:Option Hd) (next brk cont:QV->Option D) (ret:D->Option D):Option D:=match h with
 | some F=>F q next ret
 | none=>execSQ T K c sc q st next brk cont ret
noncomputable def execT (c:Cx) (sc:Scope):List Stmt->List (Option Hd)->QV->(QV->Option D)->(QV->Option D)->(QV->Option D)->(D->Option D)->Option D
 | [],_,q,next,_,_,_=>next q
 | st::r,hs,q,next,brk,cont,ret=>stmtQ T K c sc (frzq sc (hintsAt c st) q) st (hs.headD none) (fun q'=>execT c sc r hs.tail q' next brk cont ret) brk cont ret
end
noncomputable def stepK (T:Tab) (CF:Str->List D->Option D) (CM:Str->Str->List D->Option D) (K:KJ):KJ where
 ev:=fun sc q e k=>evSQ T CF CM K sc q e k
 tr:=fun sc q e k=>trSQ T K sc q e k
 it:=fun sc q e t k=>itSQ T CF K sc q e t k
 exs:=fun c sc q l next brk cont ret=>execLQ T K c sc l q next brk cont ret
noncomputable def botK:KJ where
 ev:=fun _ _ _ _=>none
 tr:=fun _ _ _ _=>none
 it:=fun _ _ _ _ _=>none
 exs:=fun _ _ _ _ _ _ _ _=>none
noncomputable def kI (T:Tab) (CF:Str->List D->Option D) (CM:Str->Str->List D->Option D):Nat->KJ
 | 0=>botK
 | n+1=>stepK T CF CM (kI T CF CM n)
end Mine.Py
end
section
namespace Mine.Py
open PySem PySem.W PyProof.Rows PySem.Calls
set_option genInjectivity false
set_option genSizeOf false
noncomputable def SoundEv (C:Fr) (n:Nat) (ev:{α:Type}->Scope->QV->Expr->(D->Option α)->Option α):Prop:=
 ∀ {α:Type} {A:Around} {env:Env} {q:QV} {e:Expr} {k:D->Option α} {r:α} {F:FH} {s:Shared} {Q:Value->Shared->Prop} {E:Value->Shared->Prop},
  Ok C A n env q F s->ev env.scope q e k=some r->(∀ d,k d=some r->Cont C F s d Q)->wpAny (model C.prog C.w) A (eval e env) Q E s
noncomputable def SoundTr (C:Fr) (n:Nat) (tr:{α:Type}->Scope->QV->Expr->(Bool->Option α)->Option α):Prop:=
 ∀ {α:Type} {A:Around} {env:Env} {q:QV} {e:Expr} {k:Bool->Option α} {r:α} {F:FH} {s:Shared} {Q:Bool->Shared->Prop} {E:Value->Shared->Prop},
  Ok C A n env q F s->tr env.scope q e k=some r->(∀ b,k b=some r->∀ s' F',Ext F s F' s'->Q b s')->wpAny (model C.prog C.w) A (isTrue e env (eval e env)) Q E s
section
variable {C:Fr} {F F':FH} {A:Around} {E:Value->Shared->Prop} {s:Shared} {Q:Value->Shared->Prop} {d:D} {env:Env} {q:QV} {n:Nat} {K:KJ} {α:Type} {r:α} {CF:Str->List D->Option D} {CM:Str->Str->List D->Option D}
theorem wpEq {α:Type} {M:Model} {Q:α->Shared->Prop} {m m':Sem α} (e:m=m') (h:wpAny M A m' Q E s):wpAny M A m Q E s:=e ▸ h
theorem pkE {P:Prop} {T:Tab} {sc:Scope} {e:Expr} {k:D->Option α} (h:pkQ T K sc q e k=some r) (f:∀ x p,e=.Name x p->rdQ T sc q x k=some r->P) (g:K.ev sc q e k=some r->P):P:=by
 cases e<;>first | exact f _ _ rfl h | exact g h
noncomputable def AllFz (q:QV):Prop:=∀ x sl,lookq x q=some sl->(∃ d,sl=.fz d)\/∃ c fs,sl=.own (.obj c fs)
noncomputable def isObjD:D->Bool
 | .obj _ _=>true
 | _=>false
theorem wbp (S:SoundEv C n K.ev) {e:Expr} {k:D->Option α} (X:Ok C A n env q F s) (h:pkQ C.T K env.scope q e k=some r)
  (kk:∀ d,k d=some r->∀ v s' F',Ext F s F' s'->View C s'.heap F' v d->(AllFz q->isObjD d=false->∀ b,v=.ref b->F' b≠none)->Q v s'):wpAny (model C.prog C.w) A (eval e env) Q E s:=
 pkE h (fun x p e h=>by
  subst e
  exact iteE h (fun hv h=>optE h fun sl hl h=>by
   obtain ⟨v,h1,h2⟩:=X.r.vars hl hv
   refine wgb X.r hv h1 (kk _ h v s F X.here (h2.view X.r.inn) fun z o=>?_)
   rcases z _ _ hl with ⟨d,q⟩ | ⟨c,fs,q⟩
   ·subst q;exact Rep.fz h2
   ·subst q;exact ffE o.symm) fun _ h=>ifE h fun hg h=>optE h fun d hd h=>by
   obtain ⟨v,h1,h2⟩:=X.g.gl _ _ hd
   exact wez X hg h1 (kk _ h v s F X.here (h2.view X.r.inn) fun _ _=>Rep.fz h2))
  fun h=>S X h fun d h v s' F' x rp=>kk d h v s' F' x (rp.view x.inn) fun _ _=>Rep.fz rp
theorem wrX {x:Str} {pos:Pos} {k:D->Option α} (X:Ok C A n env q F s) (h:(if isVar env.scope x then fzK (lookq x q) k else if isGlob env.scope x then optK (C.T.gl.lookup x) k else none)=some r)
  (kk:∀ d,k d=some r->Cont C F s d Q):wpAny (model C.prog C.w) A (eval (.Name x pos) env) Q E s:=
 iteE h (fun hv h=>fzE h fun d hl h=>by
  obtain ⟨v,h1,h2⟩:=X.r.vars hl hv
  exact wgb X.r hv h1 (kk _ h v s F X.here h2)) fun _ h=>ifE h fun hg h=>optE h fun d hd h=>by
  obtain ⟨v,h1,h2⟩:=X.g.gl _ _ hd
  exact wez X hg h1 (kk _ h v s F X.here h2)
theorem wq5 {c:Const} {kk:Nat} {pos:Pos} {f:D->Option α} (hF:F.In s.heap) (h:constQ c f=some r) (k:∀ d,f d=some r->Cont C F s d Q):wpAny (model C.prog C.w) A (eval (.Constant c kk pos) env) Q E s:=by
 refine wpEq (arm_eval_Constant ..) ?_
 cases c<;>first | exact noneE h | skip
 ·exact wpAny_pure ((k _ h).here hF rfl rfl)
 ·exact wpAny_pure ((k _ h).here hF rfl rfl)
 ·exact wpAny_mkInt ((k _ h).here hF rfl (.mk _))
 ·exact wpAny_mkText ((k _ h).here hF rfl (by have:=VS.mk (x:=(‹Str›:Str).cps.toList) s.toks;rwa [wjD]at this))
theorem wtP (S:SoundEv C n K.ev) {l r':Expr} {op:Operator} {pos:Pos} {k:D->Option α} (X:Ok C A n env q F s)
  (h:(pkQ C.T K env.scope q l fun a=>pkQ C.T K env.scope q r' fun b=>(binop op a b).bind k)=some r) (kk:∀ d,k d=some r->Cont C F s d Q):wpAny (model C.prog C.w) A (eval (.BinOp l op r' pos) env) Q E s:=
 wpEq (arm_eval_BinOp ..) (wpAny_bind (wbp S X h fun a h va sa F1 xa vc _=>wpAny_bind (wpAny_holding (wbp S (X.ext xa) h fun b h vb s₂ F2 xb vf _=>wpAny_bind (wpAny_standAt
  (bindE h fun d e h=>wpAny_operating (wra e (vc.ext xb) vf xb.inn ((kk d h).ext (xa.trans xb)))))))))
theorem wt4 (S:SoundEv C n K.ev) {x:Expr} {op:UnaryOp} {pos:Pos} {k:D->Option α} (X:Ok C A n env q F s)
  (h:(pkQ C.T K env.scope q x fun a=>(unop op a).bind k)=some r) (kk:∀ d,k d=some r->Cont C F s d Q):wpAny (model C.prog C.w) A (eval (.UnaryOp op x pos) env) Q E s:=
 wpEq (arm_eval_UnaryOp ..) (wpAny_bind (wbp S X h fun a h va sa F1 xa vc _=>wpAny_bind (wpAny_standAt (wpAny_holding (bindE h fun d e h=>wrz e vc xa.inn ((kk d h).ext xa))))))
theorem wkp {op:CmpOp} {r':Expr} {m:Sem Value} (h:behindInMarks op r'=false):markedBehindIn op r' m=m:=by unfold markedBehindIn;rw [h]
theorem wsq (S:SoundEv C n K.ev) {l r':Expr} {op:CmpOp} {pos:Pos} {k:Bool->Option α} (X:Ok C A n env q F s) (hm:behindInMarks op r'=false)
  (h:(pkQ C.T K env.scope q l fun a=>pkQ C.T K env.scope q r' fun b=>(cmpD op a b).bind k)=some r) (kk:∀ b,k b=some r->Cont C F s (.bool b) Q) :
  wpAny (model C.prog C.w) A (eval (.Compare l [op] [r'] pos) env) Q E s:=by
 refine wpEq (arm_eval_Compare ..) (wpAny_bind (wbp S X h fun a h va sa F1 xa vc _=>?_))
 show wpAny _ _ (compareChain pos va [op] [markedBehindIn op r' (eval r' env)]) _ _ _
 rw [wkp hm]
 show wpAny _ _ (holding [va] (eval r' env) >>= _) _ _ _
 exact wpAny_bind (wpAny_holding (wbp S (X.ext xa) h fun b h vb s₂ F2 xb vf _=>bindE h fun d e h=>wpAny_bind (wpAny_standAt (wpAny_operating (wpF e (vc.ext xb) vf xb.inn (by have:=X.R.units;omega) fun s' hs hc=>
  kk d h _ s' F2 ((xa.trans xb).trans (Ext.same xb.inn (by rw [hs];exact Keep.refl _) hc)) rfl)))))
theorem wsp (S:SoundEv C n K.ev) {l r':Expr} {op:CmpOp} {pos:Pos} {k:Bool->Option α} {Q:Bool->Shared->Prop} {t:Sem Value} (X:Ok C A n env q F s) (hm:behindInMarks op r'=false)
  (h:(pkQ C.T K env.scope q l fun a=>pkQ C.T K env.scope q r' fun b=>(cmpD op a b).bind k)=some r) (kk:∀ b,k b=some r->∀ s' F',Ext F s F' s'->Q b s') :
  wpAny (model C.prog C.w) A (isTrue (.Compare l [op] [r'] pos) env t) Q E s:=by
 refine wpEq (arm_isTrue_Compare ..) (wpAny_bind (wbp S X h fun a h va sa F1 xa vc _=>?_))
 show wpAny _ _ (testChain pos va [op] [markedBehindIn op r' (eval r' env)]) _ _ _
 rw [wkp hm]
 show wpAny _ _ (holding [va] (eval r' env) >>= _) _ _ _
 exact wpAny_bind (wpAny_holding (wbp S (X.ext xa) h fun b h vb s₂ F2 xb vf _=>bindE h fun d e h=>wpAny_bind (wpAny_standAt (wpAny_bind (wpAny_operating (wpF e (vc.ext xb) vf xb.inn (by have:=X.R.units;omega) fun s' hs hc=>
  wpAny_holding (wpAny_truthy_bool (kk d h s' F2 ((xa.trans xb).trans (Ext.same xb.inn (by rw [hs];exact Keep.refl _) hc))))))))))
theorem wuq (S:SoundEv C n K.ev) (St:SoundTr C n K.tr) {t a b:Expr} {pos:Pos} {k:D->Option α} (X:Ok C A n env q F s)
  (h:(K.tr env.scope q t fun c=>if c then K.ev env.scope q a some else K.ev env.scope q b some).bind k=some r) (kk:∀ d,k d=some r->Cont C F s d Q):wpAny (model C.prog C.w) A (eval (.IfExp t a b pos) env) Q E s:=
 bindE h fun d h1 h2=>wpEq (arm_eval_IfExp ..) (wpAny_bind (St X h1 fun c h sa F1 xa=>by
  have k':∀ d',some d'=some d->Cont C F1 sa d' Q:=fun d' e=>((kk d h2).ext xa).of e
  cases c with
  | true=>exact S (X.ext xa) h k'
  | false=>exact S (X.ext xa) h k'))
theorem wak {e:Expr} {es:List Expr} (h:¬ isStarE e=true):starEach (e::es) env=(false,eval e env)::starEach es env:=by
 cases e<;>first | rfl | exact absurd rfl h
theorem wgF (S:SoundEv C n K.ev) {pos:Pos} (es:List Expr):∀ {F:FH} {s:Shared} {Q:List Value->Shared->Prop} {k:List D->Option α},Ok C A n env q F s ->
  evLQ K env.scope q es k=some r->(∀ ds,k ds=some r->∀ vs s' F',Ext F s F' s'->RepAll C F' ds vs->ds.length=es.length->Q vs s')->wpAny (model C.prog C.w) A (spliced (backTo pos (starEach es env))) Q E s:=by
 induction es with
 | nil=>intro F s Q k X h kk;exact spliced_nil (kk [] h [] s F X.here rfl rfl)
 | cons e es ih=>
  intro F s Q k X h kk
  exact nifE h fun hs h=>by
   rw [wak hs]
   exact spliced_cons (S X h fun d h v sa F1 xa rg=>ih (X.ext xa) h fun ds h vs s₂ F2 xb rc hl=>kk _ h _ s₂ F2 (xa.trans xb) (.mk (rg.ext xb) rc) (congrArg Nat.succ hl))
noncomputable def FzAll (q:QV) (F:FH) (ds:List D) (vs:List Value):Prop:=AllFz q->(∀ d∈ds,isObjD d=false)->∀ b,.ref b∈vs->F b≠none
theorem Views.ext {s s':Shared} (x:Ext F s F' s') {ds:List D}:∀ {vs:List Value},Views C F s.heap.get? ds vs->Views C F' s'.heap.get? ds vs:=by
 induction ds with
 | nil=>intro vs v;exact v
 | cons d ds ih=>intro vs v;cases v with | mk a b=>exact .mk (View.ext a x) (ih b)
theorem whO (S:SoundEv C n K.ev) {pos:Pos} (es:List Expr):∀ {F:FH} {s:Shared} {Q:List Value->Shared->Prop} {k:List D->Option α},Ok C A n env q F s ->
  pkLQ C.T K env.scope q es k=some r->(∀ ds,k ds=some r->∀ vs s' F',Ext F s F' s'->Views C F' s'.heap.get? ds vs->FzAll q F' ds vs->Q vs s')->wpAny (model C.prog C.w) A (spliced (backTo pos (starEach es env))) Q E s:=by
 induction es with
 | nil=>intro F s Q k X h kk;exact spliced_nil (kk [] h [] s F X.here rfl fun _ _ b hb=>memE hb)
 | cons e es ih=>
  intro F s Q k X h kk
  exact nifE h fun hs h=>by
   rw [wak hs]
   refine spliced_cons (wbp S X h fun d h v sa F1 xa rg za=>ih (X.ext xa) h fun ds h vs s₂ F2 xb rc zb=>kk _ h _ s₂ F2 (xa.trans xb) (.mk (View.ext rg xb) rc) fun hz ho b hb=>?_)
   rcases List.mem_cons.mp hb with q | hb
   ·cases q2:F1 b with
    | none=>exact absurd q2 (za hz (ho _ List.mem_cons_self) b q.symm)
    | some o=>rw [xb.le b o q2];exact wav
   ·exact zb hz (fun d hd=>ho d (List.mem_cons_of_mem _ hd)) b hb
end
section
variable {C:Fr} {F F':FH} {A:Around} {E:Value->Shared->Prop} {s:Shared} {Q:Value->Shared->Prop} {d:D} {env:Env} {q:QV} {n:Nat} {K:KJ} {α:Type} {r:α}
theorem wqE (S:SoundEv C n K.ev) {es:List Expr} {pos:Pos} {k:D->Option α} (X:Ok C A n env q F s) (h:(if es.length<=cap then evLQ K env.scope q es fun ds=>k (.list ds) else none)=some r) (kk:∀ d,k d=some r->Cont C F s d Q) :
  wpAny (model C.prog C.w) A (eval (.List es pos) env) Q E s:=
 ifE h fun hz h=>wpEq (arm_eval_List ..) (wpAny_bind (wpAny_standAt (wpAny_bind (wgF S es X h fun ds h vs sa F1 xa rg hl=>
  wpAny_newObj_type (((kk _ h).ext xa).push xa.inn rfl rfl (RepAll.new (vs:=vs.toArray) rg (wbC xa.inn))) (waA (by show vs.length<=cap;rw [rg.length,hl];exact hz))))))
theorem woI (S:SoundEv C n K.ev) {es:List Expr} {m:Nat} {pos:Pos} {k:D->Option α} (X:Ok C A n env q F s) (h:(if es.length<=cap then evLQ K env.scope q es fun ds=>k (.tuple ds) else none)=some r) (kk:∀ d,k d=some r->Cont C F s d Q) :
  wpAny (model C.prog C.w) A (eval (.Tuple es m pos) env) Q E s:=
 ifE h fun hz h=>wpEq (arm_eval_Tuple ..) (wpAny_bind (wpAny_standAt (wpAny_bind (wgF S es X h fun ds h vs sa F1 xa rg hl=>
  wpAny_newObj_type (((kk _ h).ext xa).push xa.inn rfl rfl (RepAll.new (vs:=vs.toArray) rg (wbC xa.inn))) (waA (by show vs.length<=cap;rw [rg.length,hl];exact hz))))))
theorem wtV (S:SoundEv C n K.ev) {pos:Pos} (es:List Expr):∀ {d:D} {F:FH} {s:Shared},Ok C A n env q F s->evAndQ K env.scope q es=some d->Cont C F s d Q->wpAny (model C.prog C.w) A (boolOp pos .And (evalEach es env)) Q E s:=by
 induction es with
 | nil=>intro d F s X h k;exact noneE h
 | cons e es ih=>
  intro d F s X h k
  cases es with
  | nil=>exact S X h fun d' e=>k.of e
  | cons e' es=>
   show wpAny _ _ (do
    let v <- eval e env
    standAt pos
    let t <- holding [v] (truthy v)
    match BoolOp.And,t with
    | .And,false | .Or,true=>pure v
    | _,_=>boolOp pos .And (evalEach (e'::es) env)) _ _ _
   refine wpAny_bind (S X h fun d' h v sa F1 xa rg=>wpAny_bind (wpAny_standAt (wpAny_bind (wpAny_holding (boolE h fun b q h=>?_)))))
   subst q
   cases rg
   refine wpAny_truthy_bool ?_
   cases b with
   | true=>exact ih (X.ext xa) h (k.ext xa)
   | false=>exact wpAny_pure (k.of h _ sa F1 xa rfl)
theorem wt8 (S:SoundEv C n K.ev) {pos:Pos} (es:List Expr):∀ {d:D} {F:FH} {s:Shared},Ok C A n env q F s->evOrQ K env.scope q es=some d->Cont C F s d Q->wpAny (model C.prog C.w) A (boolOp pos .Or (evalEach es env)) Q E s:=by
 induction es with
 | nil=>intro d F s X h k;exact noneE h
 | cons e es ih=>
  intro d F s X h k
  cases es with
  | nil=>exact S X h fun d' e=>k.of e
  | cons e' es=>
   show wpAny _ _ (do
    let v <- eval e env
    standAt pos
    let t <- holding [v] (truthy v)
    match BoolOp.Or,t with
    | .And,false | .Or,true=>pure v
    | _,_=>boolOp pos .Or (evalEach (e'::es) env)) _ _ _
   refine wpAny_bind (S X h fun d' h v sa F1 xa rg=>wpAny_bind (wpAny_standAt (wpAny_bind (wpAny_holding (boolE h fun b q h=>?_)))))
   subst q
   cases rg
   refine wpAny_truthy_bool ?_
   cases b with
   | false=>exact ih (X.ext xa) h (k.ext xa)
   | true=>exact wpAny_pure (k.of h _ sa F1 xa rfl)
theorem wrg (S:SoundTr C n K.tr) {Q:Bool->Shared->Prop} (es:List Expr):∀ {b:Bool} {F:FH} {s:Shared},Ok C A n env q F s->trAllQ K env.scope q es=some b->(∀ s' F',Ext F s F' s'->Q b s')->wpAny (model C.prog C.w) A (allTrue .And es env) Q E s:=by
 induction es with
 | nil=>intro b F s X h k;cases h;exact wpAny_pure (k s F X.here)
 | cons e es ih=>
  intro b F s X h k
  refine wpEq (arm_allTrue_cons ..) (wpAny_bind (S X h fun x h sa F1 xa=>?_))
  cases x with
  | true=>exact ih (X.ext xa) h fun s' F' y=>k s' F' (xa.trans y)
  | false=>cases h;exact wpAny_pure (k sa F1 xa)
theorem wrf (S:SoundTr C n K.tr) {Q:Bool->Shared->Prop} (es:List Expr):∀ {b:Bool} {F:FH} {s:Shared},Ok C A n env q F s->trAnyQ K env.scope q es=some b->(∀ s' F',Ext F s F' s'->Q b s')->wpAny (model C.prog C.w) A (allTrue .Or es env) Q E s:=by
 induction es with
 | nil=>intro b F s X h k;cases h;exact wpAny_pure (k s F X.here)
 | cons e es ih=>
  intro b F s X h k
  refine wpEq (arm_allTrue_cons ..) (wpAny_bind (S X h fun x h sa F1 xa=>?_))
  cases x with
  | false=>exact ih (X.ext xa) h fun s' F' y=>k s' F' (xa.trans y)
  | true=>cases h;exact wpAny_pure (k sa F1 xa)
theorem wrD (S:SoundEv C n K.ev) {o i:Expr} {pos:Pos} {k:D->Option α} (X:Ok C A n env q F s) (hs:isSliceE i=false)
  (h:(pkQ C.T K env.scope q o fun d=>K.ev env.scope q i fun kd=>(sub d kd).bind k)=some r) (kk:∀ d,k d=some r->Cont C F s d Q):wpAny (model C.prog C.w) A (eval (.Subscript o i pos) env) Q E s:=
 Subscript_ (wbp S X h fun x h vo sa F1 xa vc _=>S (X.ext xa) h fun y h vi s₂ F2 xb rc=>bindE h fun d e h=>sub_ok hs e (vc.ext xb) rc xb.inn ((kk d h).ext (xa.trans xb)))
theorem wmJ (S:SoundEv C n K.ev) {o:Option Expr} {k:Option Int->Option α} (X:Ok C A n env q F s) (h:evOptQ K env.scope q o k=some r)
  (kk:∀ p,k p=some r->∀ v s' F',Ext F s F' s'->IsPart v p->Q v s'):wpAny (model C.prog C.w) A (evalPart o env) Q E s:=by
 cases o with
 | none=>exact wpAny_pure (kk _ h _ s F X.here .none)
 | some e=>exact S X h fun d h v s' F' x r=>intE h fun i q h=>kk _ h v s' F' x (by subst q;cases r;exact .int _ _)
theorem woO (S:SoundEv C n K.ev) {o i:Expr} {pos:Pos} {k:D->Option α} (X:Ok C A n env q F s)
  (h:(sliceK i fun lo hi=>pkQ C.T K env.scope q o fun d=>evOptQ K env.scope q lo fun a=>evOptQ K env.scope q hi fun b=>if boundOk a&&boundOk b then (cutD a b d).bind k else none)=some r) (kk:∀ d,k d=some r->Cont C F s d Q) :
  wpAny (model C.prog C.w) A (eval (.Subscript o i pos) env) Q E s:=by
 obtain ⟨lo,hi,st,p,rfl,h⟩:=sliceE h
 refine ifE h fun hst h=>?_
 cases st with
 | some=>exact ffE hst
 | none=>
  refine Subscript_ (wbp S X h fun x h vo sa F1 xa vc _=>wpAny_Slice (wmJ S (X.ext xa) h fun a h vl s₂ F2 xb pa=>wmJ S (X.ext (xa.trans xb)) h fun b h vu sd F3 xc pb=>ifE h fun _ h=>bindE h fun d e h=>?_))
  rw [evalPart_none]
  have x4:Ext F3 sd F3 { sd with heap:=sd.heap.push (slc vl vu) }:=Ext.same xc.inn (Keep.push _ _)
  exact wpAny_pure (wtF pa pb e (vc.ext (xb.trans (xc.trans x4))) x4.inn (Heap.get?_push_size _ rfl) ((kk d h).ext (xa.trans (xb.trans (xc.trans x4)))))
theorem Ext.seal {s sa s₂:Shared} {a:Addr} {o:Obj} (x:Ext F s F' sa) (hn:s.heap.get? a=none) (hf:F' a=none) (k:∀ b ob,b≠a->sa.heap.get? b=some ob->s₂.heap.get? b=some ob) (ho:s₂.heap.get? a=some o) (c:Calm sa s₂:=by first | exact ⟨rfl,fun x=>x⟩ | assumption):Ext F s (F'.put a o) s₂:=by
 refine ⟨x.le.trans (FH.le_put hf),fun b ob e=>?_,x.keep.but (P:=fun b=>b=a) (fun b q=>by rw [q];exact hn) k,fun b ob e=>?_,x.calm.trans c⟩
 ·unfold FH.put at e
  exact iteE e (fun q e=>by cases e;rw [q];exact ho) fun q e=>k b ob q (x.inn b ob e)
 ·unfold FH.put at e
  exact iteE e (fun q e=>.inr (by rw [q];exact hn)) fun q e=>x.new b ob e
theorem Ext.own {s sa s₂:Shared} {a:Addr} (x:Ext F s F' sa) (hn:s.heap.get? a=none) (hf:F' a=none) (k:∀ b ob,b≠a->sa.heap.get? b=some ob->s₂.heap.get? b=some ob) (c:Calm sa s₂:=by first | exact ⟨rfl,fun x=>x⟩ | assumption):Ext F s F' s₂:=
 ⟨x.le,fun b ob e=>k b ob (fun q=>by rw [q,hf]at e;exact noneE e) (x.inn b ob e),x.keep.but (P:=fun b=>b=a) (fun b q=>by rw [q];exact hn) k,x.new,x.calm.trans c⟩
theorem Ext.still {s sa:Shared} {a:Addr} (x:Ext F s F' sa) (hf:F a=none) (hs:s.heap.get? a≠none):F' a=none:=by
 cases q:F' a with
 | none=>rfl
 | some o=>
  rcases x.new _ _ q with e | e
  ·exact noneE (hf.symm.trans e)
  ·exact absurd e hs
theorem wqH {es:List (Key×Value)} {kvs:List (Key×D)} (r:RepKV C F kvs es) (k:Key):(es.any fun kv=>decide (kv.1=k))=khas k kvs:=by
 induction kvs generalizing es with
 | nil=>cases r;rfl
 | cons x l ih=>
  obtain ⟨k',d'⟩:=x
  cases r with | @mk p vs a b=>
  rw [List.any_cons,ih b,a.1]
  unfold khas
  simp only [kget]
  by_cases q:k'=k
  ·rw [if_pos q,decide_eq_true q];rfl
  ·rw [if_neg q,decide_eq_false q];rfl
theorem wqG {es:List (Key×Value)} {kvs:List (Key×D)} {v:Value} (r:RepKV C F kvs es) (k:Key) (rv:Rep C F v d) :
  RepKV C F (kput k d kvs) (es.map fun kv=>if kv.1=k then (kv.1,v) else kv):=by
 induction kvs generalizing es with
 | nil=>cases r;exact rfl
 | cons x l ih=>
  obtain ⟨k',d'⟩:=x
  cases r with | @mk p vs a b=>
  rw [List.map_cons]
  simp only [kput]
  by_cases q:k'=k
  ·rw [if_pos q,if_pos (a.1.trans q)];exact .mk ⟨a.1,rv⟩ (ih b)
  ·rw [if_neg q,if_neg fun e=>q (a.1.symm.trans e)];exact .mk a (ih b)
theorem RepKV.append {es es':List (Key×Value)} {kvs kvs':List (Key×D)} (r:RepKV C F kvs es) (r':RepKV C F kvs' es'):RepKV C F (kvs++kvs') (es++es'):=by
 induction kvs generalizing es with
 | nil=>cases r;exact r'
 | cons x l ih=>obtain ⟨k',d'⟩:=x;cases r with | mk a b=>exact .mk a (ih b)
theorem RepKV.stored {es:List (Key×Value)} {kvs:List (Key×D)} {v:Value} (r:RepKV C F kvs es) (k:Key) (rv:Rep C F v d):RepKV C F (kset k d kvs) (PySem.stored es k v):=by
 unfold PySem.stored kset
 have e:=wqH r k
 by_cases q:khas k kvs=true
 ·rw [if_pos q,if_pos (e.trans q)];exact wqG r k rv
 ·rw [if_neg q,if_neg fun h=>q (e.symm.trans h)];exact r.append (.mk ⟨rfl,rv⟩ rfl)
theorem RepKV.merged {kvs2:List (Key×D)}:∀ {es2:List (Key×Value)} {es:List (Key×Value)} {kvs:List (Key×D)},RepKV C F kvs es->RepKV C F kvs2 es2 ->
  RepKV C F (kvs2.foldl (fun acc p=>kset p.1 p.2 acc) kvs) (PySem.merged es es2):=by
 induction kvs2 with
 | nil=>intro es2 es kvs r r2;cases r2;exact r
 | cons x l ih=>intro es2 es kvs r r2;obtain ⟨k',d'⟩:=x;cases r2 with | @mk p vs a b=>
  obtain ⟨pk,pv⟩:=p
  obtain ⟨e0,a⟩:=a
  have e0:pk=k':=e0
  subst e0
  exact ih (es:=PySem.stored es pk pv) (r.stored pk a) b
noncomputable def pairsT (env:Env) (pos:Pos):List (Option Expr)->List Expr->List (Sem Value×Sem Value)
 | some k::ks,v::vs=>(eval k env,do let x <- eval v env;standAt pos;pure x)::pairsT env pos ks vs
 | _,_=>[]
theorem kvE {P:Prop} {sc:Scope} {ks:List (Option Expr)} {vs:List Expr} {k:List (Key×D)->Option α} (h:evKVsQ K sc q ks vs k=some r) (f:ks=[]->vs=[]->k []=some r->P)
  (g:∀ e ks' v vs',ks=some e::ks'->vs=v::vs'->(K.ev sc q e fun kd=>(toKey kd).bind fun kk=>K.ev sc q v fun vd=>evKVsQ K sc q ks' vs' fun r=>k ((kk,vd)::r))=some r->P):P:=by
 cases ks with
 | nil=>cases vs with
  | nil=>exact f rfl rfl h
  | cons=>exact noneE h
 | cons o ks=>cases vs with
  | nil=>exact noneE h
  | cons v vs=>exact optE h fun e q h=>g e ks v vs (by rw [q]) rfl h
theorem wk7 {pos:Pos} (ks:List (Option Expr)):∀ {vs:List Expr},somes ks vs=true ->
  (evalEachOpt ks env).zip ((evalEach vs env).map fun v=>do let x <- v;standAt pos;pure x)=(pairsT env pos ks vs).map (fun p=>(some p.1,p.2))/\(pairsT env pos ks vs).length=ks.length:=by
 induction ks with
 | nil=>intro vs h;cases vs with
  | nil=>exact ⟨rfl,rfl⟩
  | cons=>exact ffE h
 | cons o ks ih=>intro vs h;cases o with
  | none=>exact ffE h
  | some k=>cases vs with
   | nil=>exact ffE h
   | cons v vs=>
    obtain ⟨h1,h2⟩:=ih h
    exact ⟨by rw [arm_evalEachOpt_cons,arm_evalEach_cons,arm_evalOpt_some,List.map_cons,List.zip_cons_cons,h1];rfl,congrArg Nat.succ h2⟩
theorem wqq (S:SoundEv C n K.ev) {pos:Pos} (ks:List (Option Expr)):∀ {vs:List Expr} {F:FH} {s:Shared} {Q:List (Value×Value)->Shared->Prop} {k:List (Key×D)->Option α},Ok C A n env q F s->evKVsQ K env.scope q ks vs k=some r ->
  (∀ kvs,k kvs=some r->∀ pv es s' F',Ext F s F' s'->Carries (anyKind C.prog C.w) pv es->RepKV C F' kvs es->Q pv s')->wpAny (model C.prog C.w) A (evalPairs (pairsT env pos ks vs)) Q E s:=by
 induction ks with
 | nil=>
  intro vs F s Q k X h kk
  exact kvE h (fun _ q h=>by subst q;exact evalPairs_nil (kk _ h [] [] s F X.here trivial rfl)) fun _ _ _ _ q=>consE q
 | cons o ks ih=>
  intro vs F s Q k X h kk
  refine kvE h (fun q=>consE q.symm) fun ke ks' ve vs' q1 q2 h=>?_
  cases q1;subst q2
  show wpAny _ _ (evalPairs (_::_)) _ _ _
  unfold evalPairs
  exact wpAny_bind (S X h fun kd h kv sa F1 xa rg=>wpAny_bind (wpAny_holding (wpAny_bind (bindE h fun key e h=>S (X.ext xa) h fun vd h vv s₂ F2 xb rc=>wpAny_bind (wpAny_standAt (wpAny_pure (wpAny_bind (wpAny_holding (ih (X.ext (xa.trans xb)) h fun kvs h pv es sd F3 xc ca r3=>
   wpAny_pure (kk _ h _ ((key,vv)::es) sd F3 (xa.trans (xb.trans xc)) ⟨wcD e rg,rfl,ca⟩ (.mk ⟨rfl,rc.ext xc⟩ r3)))))))))))
theorem wqD (S:SoundEv C n K.ev) {pos:Pos} {F₀:FH} {s₀:Shared} {D1:Addr} (hD:s₀.heap.get? D1=none) (X:Ok C A n env q F₀ s₀) (ks:List (Option Expr)) :
  ∀ {vs:List Expr} {acc:List (Key×D)} {es:List (Key×Value)} {F:FH} {s:Shared} {Q:PUnit->Shared->Prop} {k:List (Key×D)->Option α},
  Ext F₀ s₀ F s->F D1=none->s.heap.DictOf (anyKind C.prog C.w) D1 es->RepKV C F acc es->acc.length+ks.length<=100->evKVsQ K env.scope q ks vs k=some r ->
  (∀ kvs,k kvs=some r->∀ es' s' F',Ext F₀ s₀ F' s'->F' D1=none->s'.heap.DictOf (anyKind C.prog C.w) D1 es'->RepKV C F' (kvs.foldl (fun acc p=>kset p.1 p.2 acc) acc) es'->Q PUnit.unit s') ->
  wpAny (model C.prog C.w) A (forIn (pairsT env pos ks vs) PUnit.unit fun (x:Sem Value×Sem Value) (_:PUnit)=>(do
   let kv <- x.1
   let vv <- holding [kv] x.2
   holding [kv,vv] (dictSet D1 kv vv)
   pure (ForInStep.yield PUnit.unit):Sem (ForInStep PUnit))) Q E s:=by
 induction ks with
 | nil=>
  intro vs acc es F s Q k x hf hd ra hz h kk
  refine kvE h (fun _ q h=>?_) fun _ _ _ _ q=>consE q
  subst q
  show wpAny _ _ (forIn [] _ _) _ _ _
  rw [List.forIn_nil]
  exact wpAny_pure (kk _ h es s F x hf hd ra)
 | cons o ks ih=>
  intro vs acc es F s Q k x hf hd ra hz h kk
  refine kvE h (fun q=>consE q.symm) fun ke ks' ve vs' q1 q2 h=>?_
  cases q1;subst q2
  show wpAny _ _ (forIn (_::_) _ _) _ _ _
  rw [List.forIn_cons]
  have hDs:s.heap.get? D1≠none:=by obtain ⟨o,_,_,ho,_⟩:=hd;rw [ho];exact wav
  refine wpAny_bind (wpAny_bind (S (X.ext x) h fun kd h kv sa F1 xa rg=>wpAny_bind (wpAny_holding (wpAny_bind (bindE h fun key e h=>S (X.ext (x.trans xa)) h fun vd h vv s₂ F2 xb rc=>wpAny_bind (wpAny_standAt (wpAny_pure ?_)))))))
  have x':=x.trans (xa.trans xb)
  have hf':F2 D1=none:=(xa.trans xb).still hf hDs
  have ra':=RepKV.mono (xa.trans xb).le _ ra
  have hl:=ra.length
  refine wpAny_bind (wpAny_holding (wpAny_dictSet_pairs (wcD e (rg.ext xb)) (wcf hd (xa.trans xb).keep) (fun h' hm hs=>wpAny_pure ?_) (by simp [sizeLine];omega)))
  have hk:(kset key vd acc).length<=acc.length+1:=by
   have e1:=(ra'.stored key rc).length
   have e2:=stored_length_le es key vv
   omega
  exact ih (acc:=kset key vd acc) (k:=fun kvs=>k ((key,vd)::kvs)) (x'.own hD hf' fun b ob hb e=>hs.extBut b ob hb e) hf' hm (ra'.stored key rc) (by rw [List.length_cons]at hz;omega) h fun kvs h=>kk _ h
theorem wq0 (S:SoundEv C n K.ev) {ks:List (Option Expr)} {vs:List Expr} {pos:Pos} {k:D->Option α} (X:Ok C A n env q F s)
  (h:(if ks.length<=16/\somes ks vs=true then evKVsQ K env.scope q ks vs fun kvs=>k (.dict (kvs.foldl (fun acc p=>kset p.1 p.2 acc) [])) else none)=some r) (kk:∀ d,k d=some r->Cont C F s d Q):wpAny (model C.prog C.w) A (eval (.Dict ks vs pos) env) Q E s:=by
 refine ifE h fun hz h=>?_
 obtain ⟨hs,hl⟩:=wk7 (env:=env) (pos:=pos) ks hz.2
 have hI:=get?_size s.heap
 have xj:Ext F s F { s with heap:=s.heap.push { cls:=.type "dict",data:=.dict #[] } }:=Ext.same X.r.inn (Keep.push _ _)
 have hF0:F s.heap.objs.size=none:=noneF X.r.inn hI
 have hD0:(s.heap.push { cls:=.type "dict",data:=.dict #[] }).DictOf (anyKind C.prog C.w) s.heap.objs.size []:=Heap.DictOf.new _
 have hDs:(s.heap.push { cls:=.type "dict",data:=.dict #[] }).get? s.heap.objs.size≠none:=by obtain ⟨o,_,_,ho,_⟩:=hD0;rw [ho];exact wav
 have fin:∀ kvs,k (.dict kvs)=some r->∀ {F':FH} {es:List (Key×Value)} {s':Shared},Ext F s F' s'->F' s.heap.objs.size=none->s'.heap.DictOf (anyKind C.prog C.w) s.heap.objs.size es->RepKV C F' kvs es->Q (.ref s.heap.objs.size) s':=by
  intro kvs h F' es s' x hf hd ra
  obtain ⟨o,ho,hd⟩:=Heap.dictOf_iff.mp hd
  exact kk _ h _ s' _ (x.seal (o:=o) hI hf (fun b ob _ e=>e) ho) (.mk (FH.put_self _ _ _) (X.g.noSys X.r.inn) hd (RepKV.mono (FH.le_put hf) _ ra))
 refine wpEq (arm_eval_Dict ..) (wpAny_bind (wpAny_standAt ?_))
 cases ks with
 | nil=>
  exact kvE h (fun _ q h=>by subst q;exact wpAny_newObj_type (T:="dict") (data:=.dict #[]) (fin _ h xj hF0 hD0 rfl) (Nat.zero_le _)) fun _ _ _ _ q=>consE q
 | cons o ks=>
  rw [hs,dictDisplay_pairs _ (by intro q;rw [q]at hl;exact succE hl) (by omega)]
  by_cases hz':(o::ks).length<=15
  ·refine wpAny_bind (wpAny_subDict (knd:=anyKind C.prog C.w) (by omega) (wqq S _ (X.ext xj) h fun kvs h pv es sa F1 xa cf rg=>⟨es,cf,wcf hD0 xa.keep,fun h' hd hsb=>wpAny_pure ?_⟩))
   have hf:=xa.still hF0 hDs
   exact fin _ h ((xj.trans xa).own hI hf fun b ob hb e=>hsb.extBut b ob hb e) hf hd (RepKV.merged rfl rg)
  ·unfold subDict
   refine wpAny_bind (wpAny_bind (wpAny_alloc (wpAny_bind (wpAny_holding ?_))))
   rw [if_neg (by omega)]
   refine wpAny_bind (wpAny_rule ?_)
   refine wpAny_bind (wqD (F₀:=F) (s₀:=s) (pos:=pos) S hI X _ (acc:=[]) xj hF0 hD0 rfl (by show 0+_<=_;omega) h fun kvs h es' s' F' x hf hd ra=>?_)
   exact wpAny_pure (wpAny_pure (wpAny_pure (fin _ h x hf hd ra)))
end
noncomputable def isTupE (e:Expr):Bool:=e.ctorIdx==25
noncomputable def ItemRep (C:Fr) (F:FH) (tgt:Expr) (h:Heap) (v:Value) (d:D):Prop:=
 Rep C F v d\/isTupE tgt=true/\∃ t vals xs,v=.ref t/\d=.tuple xs/\h.IsTuple t vals/\RepAll C F xs vals.toList
theorem ItemRep.mono {C:Fr} {F F':FH} {tgt:Expr} {h:Heap} {v:Value} {d:D} (r:ItemRep C F tgt h v d) (le:F.le F'):ItemRep C F' tgt h v d:=by
 rcases r with r | ⟨q,t,vals,xs,e1,e2,e3,e4⟩
 ·exact .inl (r.mono le)
 ·exact .inr ⟨q,t,vals,xs,e1,e2,e3,RepAll.mono le _ e4⟩
structure Turns (C:Fr) (Src:Addr->Prop) (F:FH) (hH:Heap) (tgt:Expr) (I:Addr) (ds:List D) (h:Heap) (fp wr:List Addr) (P Md:Nat->Value->Heap->Prop) (St:Nat->Heap->Prop):Prop where
 kt:∀ A:Around,A.handled=none->KTurns C.prog C.w A tgt I fp wr ds.length P Md St
 st:St 0 h
 self:∀ (A:Around) (s:Shared) (Q:Value->Shared->Prop) (E:Value->Shared->Prop),A.handled=none->St 0 s.heap->Q (.ref I) s->wpAny (model C.prog C.w) A (pyIter (.ref I)) Q E s
 alive:∀ i h',St i h'->∀ b∈fp,∃ o,h'.get? b=some o/\¬ Tab0 o
 new:∀ b∈wr,hH.get? b=none
 rep:∀ i v h',P i v h'->∃ d,ds[i]?=some d/\ItemRep C F tgt h' v d
 src:∀ b∈fp,hH.get? b=none\/Src b
noncomputable def ItQ (C:Fr) (Src:Addr->Prop) (F:FH) (s:Shared) (tgt:Expr) (ds:List D) (Q:Value->Shared->Prop):Prop:=
 ∀ I s' fp wr P Md St,Ext F s F s'->Turns C Src F s.heap tgt I ds s'.heap fp wr P Md St->Q (.ref I) s'
section
variable {C:Fr} {F F':FH} {A:Around} {E:Value->Shared->Prop} {s:Shared} {Q:Value->Shared->Prop} {d:D} {tgt:Expr} {Src:Addr->Prop}
theorem wqn {I:Addr} {v:Value} {Q:Unit->Shared->Prop} {M:Model} {o:Obj} {T:String} (ho:s.heap.get? I=some o) (hc:o.cls=.type T)
  (hn:["enumerate","zip","dict_itemiterator","dict_reverseitemiterator","odict_iterator","itertools.zip_longest","itertools.pairwise"].contains T=false) (h:Q () s) :
  wpAny M A (letOwnedTupleGo tgt (.ref I) v) Q E s:=by
 have main:∀ a,wpAny M A (load I >>= fun o=>match o.cls,o.data with
   | .type n,.fields vs=>if (["enumerate","zip","dict_itemiterator","dict_reverseitemiterator","odict_iterator","itertools.zip_longest","itertools.pairwise"].contains n&&vs[0]?==some (rawInt a))=true then (do rule "for.unpacks-the-owned-tuple";updateField I 0 .none) else pure ()
   | _,_=>pure ()) Q E s:=fun a=>by
  refine wpAny_bind (wpAny_load ho ?_)
  obtain ⟨c,dd,dt,sl⟩:=o
  cases hc
  cases dt<;>first | exact wpAny_pure h | skip
  show wpAny M A (if _ then _ else _) _ _ _
  rw [hn,Bool.false_and,if_neg Bool.false_ne_true];exact wpAny_pure h
 unfold letOwnedTupleGo
 cases tgt<;>first
  | exact wpAny_pure h
  | (cases v<;>first | exact wpAny_pure h | exact main _)
theorem nameTgt (ht:tgtOk .plain tgt=true):∃ x p,tgt=.Name x p:=by
 cases tgt<;>first | exact ⟨_,_,rfl⟩ | exact ffE ht
theorem tupTgt (ht:tgtOk .pairs tgt=true):∃ ts n p,tgt=.Tuple ts n p:=by
 cases tgt<;>first | exact ⟨_,_,_,rfl⟩ | exact ffE ht
theorem wgE {h:Heap} {a b:Addr} {o o':Obj} (e:h.get? a=some o) (n:¬ Tab0 o) (e':h.get? b=some o') (n':¬ Tab0 o'):∀ c∈[a,b],∃ o,h.get? c=some o/\¬ Tab0 o:=fun c hc=>by
 rcases List.mem_cons.mp hc with rfl | hc
 ·exact ⟨o,e,n⟩
 ·exact ⟨o',List.mem_singleton.mp hc ▸ e',n'⟩
theorem we1 {h:Heap} {a b:Addr} (e:h.get? a=none) (hs:Src b):∀ c∈[a,b],h.get? c=none\/Src c:=fun c hc=>by
 rcases List.mem_cons.mp hc with rfl | hc
 ·exact .inl e
 ·exact .inr (List.mem_singleton.mp hc ▸ hs)
theorem wcC {I:Addr} {fp:List Addr} {P:Nat->Value->Prop} {St:Nat->Heap->Prop} {ds:List D} {hH h:Heap} {nn:Nat} (W:∀ A:Around,A.handled=none->Walks C.prog C.w A I fp [I] nn P St) (hnn:nn=ds.length)
  (hgo:∀ (A:Around) i v (s:Shared) (Q:Unit->Shared->Prop) (E:Value->Shared->Prop),St i s.heap->Q () s->wpAny (model C.prog C.w) A (letOwnedTupleGo tgt (.ref I) v) Q E s)
  (hst:St 0 h) (hfp:∀ i h',St i h'->∀ b∈fp,∃ o,h'.get? b=some o/\¬ Tab0 o) (hI:hH.get? I=none) (hP:∀ i v,P i v->∃ d,ds[i]?=some d/\Rep C F v d) (hS:∀ b∈fp,hH.get? b=none\/Src b) :
  Turns C Src F hH tgt I ds h fp [I] (fun i v _=>P i v) (fun i v h=>P i v/\St (i+1) h) St where
 kt A hA:=hnn ▸ KTurns.ofWalks (W A hA) (hgo A)
 st:=hst
 self A s Q E hA st hQ:=(W A hA).self 0 s Q E st hQ
 alive:=hfp
 new b hb:=by rw [List.mem_singleton.mp hb];exact hI
 rep i v h' hv:=by obtain ⟨d,e,r⟩:=hP i v hv;exact ⟨d,e,.inl r⟩
 src:=hS
end
section
variable {C:Fr} {F F':FH} {A:Around} {E:Value->Shared->Prop} {s:Shared} {Q:Value->Shared->Prop} {d:D} {tgt:Expr} {Src:Addr->Prop}
theorem wk8 {h:Heap} {a:Addr} {o:Obj} (e:h.get? a=some o) (n:¬ Tab0 o):∀ c∈[a],∃ o,h.get? c=some o/\¬ Tab0 o:=fun c hc=>⟨o,List.mem_singleton.mp hc ▸ e,n⟩
theorem wj0 {h:Heap} {a:Addr} (e:h.get? a=none):∀ c∈[a],h.get? c=none\/Src c:=fun c hc=>.inl (List.mem_singleton.mp hc ▸ e)
theorem whs {h:Heap} {a:Addr} {es:List (Key×Value)} {ep:Nat} (x:h.DictAt (anyKind C.prog C.w) a es ep):∃ o,h.get? a=some o/\¬ Tab0 o:=by
 obtain ⟨o,e,hd⟩:=Heap.dictOf_iff.mp x.dictOf
 obtain ⟨_,_,y,_⟩:=hd
 exact ⟨o,e,wab y.1⟩
theorem wkg {v:Value} {ds:List D} {d0:D} (e:seqOf d0=some ds) (ht:tgtOk (itKind d0) tgt=true) (vd:View C s.heap F v d0) (hF:F.In s.heap) (hS:∀ b,v=.ref b->Src b) (k:ItQ C Src F s tgt ds Q):wpAny (model C.prog C.w) A (pyIter v) Q E s:=by
 have hI:=get?_size s.heap
 cases d0<;>first | exact noneE e | skip
 ·cases vd
  rename_i x t
  cases e
  obtain ⟨n,p,rfl⟩:=nameTgt ht
  have hl:(mk x).cps.size=(chars x).length:=(wb6 x).trans (List.length_map ..).symm
  cases ha:(mk x).cps.all (·<128)
  ·exact wpAny_pyIter_wide ha (k _ _ _ _ _ _ _ (Ext.same hF (Keep.push _ _)) (wcC (fp:=[s.heap.objs.size]) (P:=SignAt (mk x)) (fun A' hA=>Walks.strWide hA _ (mk x) t) hl (fun A i v s Q E st hQ=>wpAny_pure hQ) ⟨_,Heap.get?_push_size _ rfl,rfl,rfl⟩
    (fun i h' st=>let ⟨_,e1,c1,_⟩:=st;wk8 e1 (wab c1)) hI wiT (wj0 hI)))
  ·exact wpAny_pyIter_ascii ha (k _ _ _ _ _ _ _ (Ext.same hF (Keep.push _ _)) (wcC (fp:=[s.heap.objs.size]) (P:=SignAt (mk x)) (fun A' hA=>Walks.strAscii hA _ (mk x) t) hl (fun A i v s Q E st hQ=>wpAny_pure hQ) ⟨_,Heap.get?_push_size _ rfl,rfl,rfl⟩
    (fun i h' st=>let ⟨_,e1,c1,_⟩:=st;wk8 e1 (wab c1)) hI wiT (wj0 hI)))
 ·cases vd with | mk hl r=>
  cases e
  exact wpAny_pyIter_list (waC hl).isList (k _ _ _ _ _ _ _ (Ext.same hF (Keep.push _ _)) (wcC (fun A' hA=>Walks.list hA s.heap.objs.size _ (Nat.ne_of_lt (Heap.lt_size hl)) _) r.size
   (fun A i v s Q E st hQ=>let ⟨⟨o,ho,hc,_⟩,_⟩:=st;wqn ho hc (by decide) hQ) ⟨⟨_,Heap.get?_push_size _ rfl,rfl,rfl⟩,(waC hl).isList.push _⟩
   (fun i h' st=>let ⟨⟨_,e1,c1,_⟩,⟨_,e2,c2,_⟩⟩:=st;wgE e1 (wab c1) e2 (wab c2)) hI (wdj r) (we1 hI (hS _ rfl))))
 ·cases vd with | mk hl r=>
  cases e
  obtain ⟨n,p,rfl⟩:=nameTgt ht
  exact wpAny_pyIter_tuple (wd9 hl) (k _ _ _ _ _ _ _ (Ext.same hF (Keep.push _ _)) (wcC (fun A' hA=>Walks.tuple hA s.heap.objs.size _ (Nat.ne_of_lt (Heap.lt_size hl)) _) r.size (fun A i v s Q E st hQ=>wpAny_pure hQ) ⟨⟨_,Heap.get?_push_size _ rfl,rfl,rfl⟩,(wd9 hl).push _⟩
   (fun i h' st=>let ⟨⟨_,e1,c1,_⟩,⟨_,e2,c2,_⟩⟩:=st;wgE e1 (wab c1) e2 (wab c2)) hI (wdj r) (we1 hI (hS _ rfl))))
theorem RepKV.idx {es:List (Key×Value)} {kvs:List (Key×D)} (r:RepKV C F kvs es):∀ {i:Nat} {k:Key} {v:Value},es[i]?=some (k,v)->∃ d,kvs[i]?=some (k,d)/\Rep C F v d:=by
 induction kvs generalizing es with
 | nil=>intro i k v e;cases r;exact noneE e
 | cons x l ih=>
  intro i k v e
  obtain ⟨k',d'⟩:=x
  cases r with | mk a b=>
  cases i with
  | zero=>cases e;exact ⟨d',by rw [show k=k' from a.1];rfl,a.2⟩
  | succ i=>exact ih b e
theorem wmG {k:Key} {v:Value} (h:(anyKind C.prog C.w).is k v=true):Rep C F v (ofKey k):=by
 rcases wbD h with ⟨n,t,rfl,rfl⟩ | ⟨x,t,rfl,rfl⟩<;>exact .mk _
theorem whi {α β:Type} {l:List α} {f:α->β} {i:Nat} {a:α} (e:l[i]?=some a):(l.map f)[i]?=some (f a):=by rw [List.getElem?_map,e];rfl
theorem wnZ {v:Value} {kvs:List (Key×D)} (ht:tgtOk .plain tgt=true) (vd:View C s.heap F v (.dict kvs)) (hF:F.In s.heap) (hS:∀ b,v=.ref b->Src b) (k:ItQ C Src F s tgt (kvs.map fun p=>ofKey p.1) Q):wpAny (model C.prog C.w) A (pyIter v) Q E s:=by
 cases vd with | mk ho hy dy ry=>
 obtain ⟨ep,da⟩:=(Heap.dictOf_iff.mpr ⟨_,ho,dy⟩).dictAt
 obtain ⟨n,p,rfl⟩:=nameTgt ht
 exact wpAny_pyIter_dict hy da (k _ _ _ _ _ _ _ (Ext.same hF (Keep.push _ _)) (wcC (fun A' hA=>Walks.dictKeys (knd:=anyKind C.prog C.w) hA s.heap.objs.size _ (Nat.ne_of_lt da.lt_size) _ ep) (ry.length.trans (List.length_map ..).symm) (fun A i v s Q E st hQ=>wpAny_pure hQ)
  ⟨⟨_,Heap.get?_push_size _ rfl,rfl,rfl⟩,da.push _⟩ (fun i h' st=>let ⟨⟨_,e1,c1,_⟩,e2⟩:=st;let ⟨o,e3,n⟩:=whs e2;wgE e1 (wab c1) e3 n) (get?_size _)
  (fun i v ⟨k,x,hx,hk⟩=>let ⟨d,e1,_⟩:=ry.idx hx;⟨ofKey k,whi e1,wmG hk⟩) (we1 (get?_size _) (hS _ rfl))))
theorem wmj {a b:Int} {t u v:Tok} {r:Addr} (ht:tgtOk .plain tgt=true) (hr:IsRange s.heap r a b 1 t u v) (hF:F.In s.heap) (ha:-100000<a) (ha':a<200000) (hb:b<200000) (hb':-100000<b) (k:ItQ C Src F s tgt (wcu a b) Q):wpAny (model C.prog C.w) A (pyIter (.ref r)) Q E s:=by
 obtain ⟨n,p,rfl⟩:=nameTgt ht
 have hl:(b - a).toNat=(wcu a b).length:=by unfold wcu;rw [List.length_map,List.length_range]
 refine wpAny_pyIter_range hr (small_one (by omega) (by omega) (by omega) (by omega)) (k _ _ _ _ _ _ _ (Ext.same hF (Keep.push _ _)) (wcC (fp:=[s.heap.objs.size])
  (fun A' hA=>(Walks.range hA s.heap.objs.size a 1 (b - a).toNat).bound) hl (fun A i v s Q E st hQ=>wpAny_pure hQ) ?_ (fun i h' st=>wk8 st (wab rfl)) (get?_size _) (fun i v ⟨hi,t,e⟩=>⟨.int (a+(i:Int)),whi (List.getElem?_range hi),by rw [e,Int.mul_one];exact .mk _⟩) (wj0 (get?_size _))))
 have e1:Builtin.Range.rangeSize a b 1=(((b - a).toNat:Int) - ((0:Nat):Int)):=by rw [rangeSize_one];split<;>omega
 have e2:a+((0:Nat):Int) * 1=a:=by omega
 show IsRangeIter _ _ _ _ _
 rw [e1,e2]
 exact Heap.get?_push_size _ rfl
theorem wnY {vw a:Addr} {es:List (Key×Value)} {ep:Nat} {kvs:List (Key×D)} (ht:tgtOk .plain tgt=true) (hv:s.heap.IsValuesView vw a) (da:s.heap.DictAt (anyKind C.prog C.w) a es ep) (ry:RepKV C F kvs es) (hF:F.In s.heap)
  (hS:Src a) (k:ItQ C Src F s tgt (kvs.map fun p=>p.2) Q):wpAny (model C.prog C.w) A (pyIter (.ref vw)) Q E s:=by
 obtain ⟨n,p,rfl⟩:=nameTgt ht
 exact wpAny_pyIter_values hv da (k _ _ _ _ _ _ _ (Ext.same hF (Keep.push _ _)) (wcC (fun A' hA=>Walks.dictValues (knd:=anyKind C.prog C.w) hA s.heap.objs.size a (Nat.ne_of_lt da.lt_size) es ep) (ry.length.trans (List.length_map ..).symm) (fun A i v s Q E st hQ=>wpAny_pure hQ)
  ⟨⟨_,Heap.get?_push_size _ rfl,rfl,rfl⟩,da.push _⟩ (fun i h' st=>let ⟨⟨_,e1,c1,_⟩,e2⟩:=st;let ⟨o,e3,n⟩:=whs e2;wgE e1 (wab c1) e3 n) (get?_size _)
  (fun i v ⟨k,hx⟩=>let ⟨d,e1,r⟩:=ry.idx hx;⟨d,whi e1,r⟩) (we1 (get?_size _) hS)))
theorem wmk {vw a:Addr} {es:List (Key×Value)} {ep:Nat} {kvs:List (Key×D)} (ht:tgtOk .pairs tgt=true) (hv:s.heap.IsItemsView vw a) (da:s.heap.DictAt (anyKind C.prog C.w) a es ep) (ry:RepKV C F kvs es) (hF:F.In s.heap)
  (hS:Src a) (k:ItQ C Src F s tgt (kvs.map fun p=>.tuple [ofKey p.1,p.2]) Q):wpAny (model C.prog C.w) A (pyIter (.ref vw)) Q E s:=by
 obtain ⟨elts,kk,pos,rfl⟩:=tupTgt ht
 have hl:es.length=(kvs.map fun p=>D.tuple [ofKey p.1,p.2]).length:=ry.length.trans (List.length_map ..).symm
 refine wpAny_pyIter_items hv da (k _ _ _ _ _ _ _ (Ext.same hF (Keep.push _ _)) ⟨fun A' hA=>hl ▸ kti_itemsTurns (prog:=C.prog) (w:=C.w) (knd:=anyKind C.prog C.w) (elts:=elts) (kk:=kk) (pos:=pos) hA s.heap.objs.size a (Nat.ne_of_lt da.lt_size) es ep,
  ⟨⟨.none,.none,by rw [<- hl];exact Heap.get?_push_size _ rfl⟩,da.push _⟩,fun A' s Q E hA st hQ=>let ⟨⟨_,_,hz⟩,_⟩:=st;kcp_self hz hQ,fun i h' st=>let ⟨⟨_,_,e1⟩,e2⟩:=st;let ⟨o,e3,n⟩:=whs e2;wgE e1 (wab rfl) e3 n,
  fun b hb=>List.mem_singleton.mp hb ▸ get?_size _,fun i v h'' hp=>?_,we1 (get?_size _) hS⟩)
 obtain ⟨t,key,k,x,rfl,hx,hk,ht'⟩:=hp
 obtain ⟨d,e1,r⟩:=ry.idx hx
 exact ⟨.tuple [ofKey k,d],whi e1,.inr ⟨rfl,t,_,_,rfl,rfl,ht',.mk (wmG hk) (.mk r rfl)⟩⟩
theorem woH {vs:List Value} {xs ys:List D} (ht:tgtOk .pairs tgt=true) (vv:Views C F s.heap.get? [.list xs,.list ys] vs) (hF:F.In s.heap) (hS:∀ b,.ref b∈vs->Src b) (k:ItQ C Src F s tgt ((xs.zip ys).map fun p=>.tuple [p.1,p.2]) Q) :
  wpAny (model C.prog C.w) A (call (.type "zip") vs) (fun v s'=>wpAny (model C.prog C.w) A (pyIter v) Q E s') E s:=by
 obtain ⟨elts,kk,pos,rfl⟩:=tupTgt ht
 cases vv with | mk v1 v2=>cases v2 with | mk v2 v3=>
 cases v3
 cases v1 with | @mk l1 as m1 hl1 r1=>cases v2 with | @mk l2 bs m2 hl2 r2=>
 have n1:=r1.size;have n2:=r2.size
 have b1:@LT.lt Nat _ l1 s.heap.objs.size:=Heap.lt_size hl1
 have b2:@LT.lt Nat _ l2 s.heap.objs.size:=Heap.lt_size hl2
 refine call_zip_2 (waC hl1).isList (waC hl2).isList fun h' hz hTI hTO hi1 hi2 hsz hk=>wpAny_pyIter_zip hz ?_
 have fr:∀ j,s.heap.get? (s.heap.objs.size+j)=none:=fun j=>Heap.get?_none_of_le (Nat.le_add_right _ _)
 have Z:ZipApart (s.heap.objs.size+4) (s.heap.objs.size+2) (s.heap.objs.size+3) s.heap.objs.size (s.heap.objs.size+1) l1 l2:=by
  constructor<;>(show ¬ ((_:Nat)=_))<;>omega
 have hl:min as.size bs.size=((xs.zip ys).map fun p=>D.tuple [p.1,p.2]).length:=by rw [List.length_map,List.length_zip,n1,n2]
 refine k _ _ _ _ _ _ _ (Ext.same hF hk) ⟨fun A' hA=>hl ▸ KTurns.ofWalksU (elts:=elts) (k:=kk) (pos:=pos) (WalksT.zip2 (prog:=C.prog) (w:=C.w) hA _ _ _ _ _ _ _ Z as bs).toU,
  ⟨hz,hTI,⟨_,_,hTO⟩,hi1,hi2,(waC hl1).isList.at fun o e=>hk _ o e,(waC hl2).isList.at fun o e=>hk _ o e⟩,fun A s Q E _ st hQ=>wpAny_pyIter_zip st.1 hQ,fun i h' st b hb=>?_,fun b hb=>?_,fun i v h'' hp=>?_,fun b hb=>?_⟩
 ·obtain ⟨hz,hTI,⟨_,_,hTO⟩,⟨_,e3,c3,_⟩,⟨_,e4,c4,_⟩,⟨_,e5,c5,_⟩,⟨_,e6,c6,_⟩⟩:=st
  simp only [List.mem_cons,List.not_mem_nil,or_false]at hb
  rcases hb with rfl | rfl | rfl | rfl | rfl | rfl | rfl
  ·exact ⟨_,hz,wab rfl⟩
  ·exact ⟨_,hTI,wab rfl⟩
  ·exact ⟨_,hTO,wab rfl⟩
  ·exact ⟨_,e3,wab c3⟩
  ·exact ⟨_,e4,wab c4⟩
  ·exact ⟨_,e5,wab c5⟩
  ·exact ⟨_,e6,wab c6⟩
 ·simp only [List.mem_cons,List.not_mem_nil,or_false]at hb
  rcases hb with rfl | rfl | rfl | rfl
  ·exact fr 4
  ·exact fr 3
  ·exact fr 0
  ·exact fr 1
 ·obtain ⟨t,vals,rfl,⟨x,y,ex,ey,rfl⟩,ht'⟩:=hp
  obtain ⟨dx,e1,q1⟩:=wdj r1 i x ex
  obtain ⟨dy,e2,q2⟩:=wdj r2 i y ey
  exact ⟨.tuple [dx,dy],whi (a:=(dx,dy)) (List.getElem?_zip_eq_some.mpr ⟨e1,e2⟩),.inr ⟨rfl,t,_,[dx,dy],rfl,rfl,ht',.mk q1 (.mk q2 rfl)⟩⟩
 ·simp only [List.mem_cons,List.not_mem_nil,or_false]at hb
  rcases hb with rfl | rfl | rfl | rfl | rfl | rfl | rfl
  ·exact .inl (fr 4)
  ·exact .inl (fr 2)
  ·exact .inl (fr 3)
  ·exact .inl (fr 0)
  ·exact .inl (fr 1)
  ·exact .inr (hS _ List.mem_cons_self)
  ·exact .inr (hS _ (List.mem_cons_of_mem _ List.mem_cons_self))
theorem wn0 {vs:List Value} {xs:List D} (ht:tgtOk .pairs tgt=true) (vv:Views C F s.heap.get? [.list xs] vs) (hF:F.In s.heap) (hS:∀ b,.ref b∈vs->Src b) (k:ItQ C Src F s tgt (enumD xs) Q) :
  wpAny (model C.prog C.w) A (call (.type "enumerate") vs) (fun v s'=>wpAny (model C.prog C.w) A (pyIter v) Q E s') E s:=by
 obtain ⟨elts,kk,pos,rfl⟩:=tupTgt ht
 cases vv with | mk v1 v2=>
 cases v2
 cases v1 with | @mk l as m1 hl r=>
 have n1:=r.size
 have b1:@LT.lt Nat _ l s.heap.objs.size:=Heap.lt_size hl
 refine call_enumerate_list (waC hl).isList fun h' he hi hsz hk=>wpAny_pyIter_enum he ?_
 have fr:∀ j,s.heap.get? (s.heap.objs.size+j)=none:=fun j=>Heap.get?_none_of_le (Nat.le_add_right _ _)
 have hlen:as.size=(enumD xs).length:=by unfold enumD;rw [List.length_zipWith,List.length_range,Nat.min_self,n1]
 have W:=fun (A':Around) (hA:A'.handled=none)=>WalksT.enumerate (prog:=C.prog) (w:=C.w) hA (s.heap.objs.size+1) s.heap.objs.size l (by show ¬ ((_:Nat)=_);omega) (by show ¬ ((_:Nat)=_);omega) (by show ¬ ((_:Nat)=_);omega) as
 refine k _ _ _ _ _ _ _ (Ext.same hF hk) ⟨fun A' hA=>hlen ▸ KTurns.ofWalksU (elts:=elts) (k:=kk) (pos:=pos) (W A' hA).toU,⟨⟨_,he⟩,hi,(waC hl).isList.at fun o e=>hk _ o e⟩,fun A' s Q E hA st hQ=>(W A' hA).self 0 s Q E st hQ,fun i h' st b hb=>?_,fun b hb=>?_,fun i v h'' hp=>?_,fun b hb=>?_⟩
 ·obtain ⟨⟨_,he⟩,⟨_,e2,c2,_⟩,⟨_,e3,c3,_⟩⟩:=st
  simp only [List.mem_cons,List.not_mem_nil,or_false]at hb
  rcases hb with rfl | rfl | rfl
  ·exact ⟨_,he,wab rfl⟩
  ·exact ⟨_,e2,wab c2⟩
  ·exact ⟨_,e3,wab c3⟩
 ·simp only [List.mem_cons,List.not_mem_nil,or_false]at hb
  rcases hb with rfl | rfl
  ·exact fr 1
  ·exact fr 0
 ·obtain ⟨t,vals,rfl,⟨u,x,ex,rfl⟩,ht'⟩:=hp
  obtain ⟨dx,e1,q1⟩:=wdj r i x ex
  refine ⟨.tuple [.int i,dx],?_,.inr ⟨rfl,t,_,[.int i,dx],rfl,rfl,ht',.mk (.mk _) (.mk q1 rfl)⟩⟩
  unfold enumD
  rw [List.getElem?_zipWith,List.getElem?_range (List.getElem?_eq_some_iff.mp e1).1,e1]
 ·simp only [List.mem_cons,List.not_mem_nil,or_false]at hb
  rcases hb with rfl | rfl | rfl
  ·exact .inl (fr 1)
  ·exact .inl (fr 0)
  ·exact .inr (hS _ List.mem_cons_self)
end
section
variable {C:Fr} {F F':FH} {A:Around} {E:Value->Shared->Prop} {s:Shared} {Q:Value->Shared->Prop} {d:D} {env:Env} {q:QV} {n:Nat} {K:KJ} {α:Type} {r:α}
theorem waM {e:Expr} {es:List Expr} (h:noStar (e::es)=true):¬ isStarE e=true:=by
 have h:(!isStarE e&&noStar es)=true:=h
 exact andE h fun h1 _ q=>by rw [q]at h1;exact ffE h1
theorem wiH {e:Expr} {es:List Expr} (h:noStar (e::es)=true):noStar es=true:=
 andE (show (!isStarE e&&noStar es)=true from h) fun _ h=>h
theorem wcv {pos:Pos} {es:List Expr} (h:noStar es=true):(backTo pos (starEach es env)).any (·.1)=false/\(backTo pos (starEach es env)).all (fun x=>!x.1)=true:=by
 induction es with
 | nil=>exact ⟨rfl,rfl⟩
 | cons e es ih=>
  rw [wak (waM h)]
  exact ih (wiH h)
theorem wit {f:Value} {pos:Pos} {es:List Expr} {Q:Args->Shared->Prop} (hn:noStar es=true) (h:wpAny (model C.prog C.w) A (spliced (backTo pos (starEach es env))) (fun vs s'=>Q ⟨vs,[]⟩ s') E s) :
  wpAny (model C.prog C.w) A (evalArgs f true (backTo pos (starEach es env)) []) Q E s:=by
 cases es with
 | nil=>
  unfold evalArgs
  show wpAny (model C.prog C.w) A (spliced [] >>= _) Q E s
  refine wpAny_bind (wpAny_mono h (fun vs s' h'=>?_) fun _ _ x=>x)
  exact wpAny_bind (wpAny_pure (wpAny_holding (wpAny_bind (wpAny_pure (wpAny_bind (wpAny_pure (wpAny_pure h')))))))
 | cons e es=>
  rw [wak (waM hn)]at h ⊢
  exact evalArgs_plain h
structure BiOk (f:Str) (v:Value):Prop where
 ne:f≠("__name__":Str)
 nb:f∈biNames
 bt:bootBuiltins f=some v
 kd:(∃ id,v=.builtin id)\/∃ T,v=.type T
theorem callBi {f:Str} {fp pos:Pos} {args:List Expr} {v:Value} (X:Ok C A n env q F s) (hg:isGlob env.scope f=true) (b:BiOk f v) (hs:noStar args=true)
  (h:wpAny (model C.prog C.w) A (spliced (backTo pos (starEach args env))) (fun vs s'=>wpAny (model C.prog C.w) A (call v vs) Q E s') E s):wpAny (model C.prog C.w) A (eval (.Call (.Name f fp) args [] pos) env) Q E s:=by
 show wpAny _ _ (eval (.Name f fp) env >>= fun fv=>callWith pos fv [] (backTo pos (starEach args env)) []) _ _ _
 refine wpAny_bind (wjT X hg b.ne (X.g.nob _ b.nb) b.bt ?_)
 rcases b.kd with ⟨id,rfl⟩ | ⟨T',rfl⟩
 ·exact callWith_builtin (wcv hs).1 (wit hs h)
 ·exact PyProof.Rows.callWith_type (wcv hs).1 (wit hs h)
theorem bnameE {P:Prop} {f:Str} {b:B} (h:bname f=some b) (g:∀ m,f=m->m∈biNames->bootBuiltins m=some (bval b)->m≠("__name__":Str)->P):P:=by
 have key:∀ (m:Str) (c:B),(m∈biNames/\bootBuiltins m=some (bval c)/\m≠("__name__":Str))->(f==m)=true->some c=some b->P:=fun m c ⟨h1,h2,h3⟩ h4 h5=>by
  cases h5;exact g m (eq_of_beq h4) h1 h2 h3
 unfold bname at h
 refine iteE h (key _ _ (by decide +kernel)) fun _ h=>iteE h (key _ _ (by decide +kernel)) fun _ h=>iteE h (key _ _ (by decide +kernel)) fun _ h=>iteE h (key _ _ (by decide +kernel)) fun _ h=>iteE h (key _ _ (by decide +kernel)) fun _ h=>
  iteE h (key _ _ (by decide +kernel)) fun _ h=>iteE h (key _ _ (by decide +kernel)) fun _ h=>iteE h (key _ _ (by decide +kernel)) fun _ h=>iteE h (key _ _ (by decide +kernel)) fun _ h=>noneE h
theorem wuI {f:Str} {b:B} (h:bname f=some b):BiOk f (bval b):=bnameE h fun m e h1 h2 h3=>by subst e;exact ⟨h3,h1,h2,by cases b<;>first | exact .inl ⟨_,rfl⟩ | exact .inr ⟨_,rfl⟩⟩
theorem wre:BiOk (Str.ofString "range") (.type "range"):=⟨by decide,by decide +kernel,by decide +kernel,.inr ⟨_,rfl⟩⟩
theorem wpR:BiOk (Str.ofString "zip") (.type "zip"):=⟨by decide,by decide +kernel,by decide +kernel,.inr ⟨_,rfl⟩⟩
theorem wsw:BiOk (Str.ofString "enumerate") (.type "enumerate"):=⟨by decide,by decide +kernel,by decide +kernel,.inr ⟨_,rfl⟩⟩
theorem wsv:BiOk (Str.ofString "list") (.type "list"):=⟨by decide,by decide +kernel,by decide +kernel,.inr ⟨_,rfl⟩⟩
theorem wtQ:BiOk (Str.ofString "isinstance") (.builtin "isinstance"):=⟨by decide,by decide +kernel,by decide +kernel,.inl ⟨_,rfl⟩⟩
theorem wgp:BiOk (Str.ofString "tuple") (.type "tuple"):=⟨by decide,by decide +kernel,by decide +kernel,.inr ⟨_,rfl⟩⟩
theorem wsx (S:SoundEv C n K.ev) {f:Str} {b:B} {fp pos:Pos} {args:List Expr} {k:D->Option α} (X:Ok C A n env q F s) (hg:isGlob env.scope f=true) (hs:noStar args=true) (hb:bname f=some b)
  (h:(pkLQ C.T K env.scope q args fun ds=>(bfn b ds).bind k)=some r) (kk:∀ d,k d=some r->Cont C F s d Q):wpAny (model C.prog C.w) A (eval (.Call (.Name f fp) args [] pos) env) Q E s:=
 callBi X hg (wuI hb) hs (whO S args X h fun ds h vs s' F' x vv _=>bindE h fun d e h=>wtR X.R.handled (by have:=X.R.units;omega) e vv x.inn ((kk d h).ext x))
theorem wr8 (S:SoundEv C n K.ev) {args:List Expr} {fp pos:Pos} {k:D->Option α} (X:Ok C A n env q F s) (hg:isGlob env.scope (Str.ofString "isinstance")=true)
  (h:isiQ C.T K env.scope q args k=some r) (kk:∀ d,k d=some r->Cont C F s d Q):wpAny (model C.prog C.w) A (eval (.Call (.Name (Str.ofString "isinstance") fp) args [] pos) env) Q E s:=by
 refine twoE h fun e c qa h2=>?_
 clear h;subst qa
 obtain ⟨c,cp,rfl,h3⟩:=nameE h2
 clear h2
 refine ifE h3 fun hc h=>andE hc fun hc1 he=>andE hc1 fun hc2 hgc=>?_
 clear h3 hc hc1
 have hc:=eq_of_beq hc2
 clear hc2
 subst hc
 have hs:noStar [e,.Name (Str.ofString "tuple") cp]=true:=by show (!isStarE e&&true)=true;rw [he];rfl
 refine callBi X hg wtQ hs ?_
 rw [wak (waM hs)]
 refine spliced_cons (wbp S X h fun d h v sa F1 xa vc _=>spliced_cons (wjT (X.ext xa) hgc wgp.ne (X.g.nob _ wgp.nb) wgp.bt (spliced_nil ?_)))
 refine bindE h fun b e h=>?_
 have k':=(kk _ h).ext xa
 cases d<;>first | exact noneE e | skip
 ·cases e;cases vc;exact IsiPair.int_tuple (k'.here xa.inn rfl rfl)
 ·cases e;cases vc with | mk e1 _=>exact IsiPair.tuple_tuple e1 rfl (k'.here xa.inn rfl rfl)
theorem wkk (S:SoundEv C n K.ev) {fp pos:Pos} {args:List Expr} {k:List D->Option α} (X:Ok C A n env q F s) (hg:isGlob env.scope (Str.ofString "range")=true) (hs:noStar args=true)
  (h:(pkLQ C.T K env.scope q args fun ds=>(rangeD ds).bind k)=some r)
  (kk:∀ a b,k (wcu a b)=some r->-100000<a->a<200000->b<200000->-100000<b->b - a<20000->∀ z s' F' t u v,Ext F s F' s'->IsRange s'.heap z a b 1 t u v->Q (.ref z) s'):wpAny (model C.prog C.w) A (eval (.Call (.Name (Str.ofString "range") fp) args [] pos) env) Q E s:=by
 refine callBi X hg wre hs (whO S args X h fun ds h vs sa F1 xa vv _=>bindE h fun l e h=>?_)
 rcases ds with _ | ⟨a,_ | ⟨b,_ | _⟩⟩
 ·exact noneE e
 ·cases vv with | mk v1 v2=>
  cases v2
  apply intV e v1;intro b t e
  refine ifE e fun hb e2=>?_
  cases e2
  exact call_range_1 (kk _ _ h (by omega) (by omega) (by omega) (by omega) (by omega) _ _ F1 _ _ _ (xa.trans (Ext.same xa.inn (Keep.push _ _))) (IsRange.new _ _ _ _ _ _ _))
 ·cases vv with | mk v1 v2=>cases v2 with | mk v2 v3=>
  cases v3
  refine wdJ (M:=fun a b=>wpAny (model C.prog C.w) A (call (.type "range") [a,b]) Q E sa) e v1 v2 fun x t y u e=>ifE e fun hb e2=>?_
  cases e2
  exact call_range_2 (kk _ _ h (by omega) (by omega) (by omega) (by omega) (by omega) _ _ F1 _ _ _ (xa.trans (Ext.same xa.inn (Keep.push _ _))) (IsRange.new _ _ _ _ _ _ _))
 ·exact noneE e
theorem woS {a:Int} {m:Nat}:∀ {l:List Value} {o:Nat},l.length=m->(∀ (j:Nat) v,l[j]?=some v->∃ t,v=.int (a+((o+j:Nat):Int)) t)->RepAll C F ((List.range' o m).map fun (i:Nat)=>D.int (a+(i:Int))) l:=by
 induction m with
 | zero=>intro l o hl _;exact List.eq_nil_of_length_eq_zero hl
 | succ m ih=>
  intro l o hl hv
  cases l with
  | nil=>exact succE hl
  | cons v l=>
   obtain ⟨t,rfl⟩:=hv 0 v rfl
   exact .mk (.mk t) (ih (Nat.succ.inj hl) fun j v e=>by
    obtain ⟨t,e'⟩:=hv (j+1) v e
    exact ⟨t,by rw [e',Nat.succ_add,Nat.add_succ]⟩)
theorem wlP (S:SoundEv C n K.ev) {args:List Expr} {fp pos:Pos} {k:D->Option α} (X:Ok C A n env q F s) (hg:isGlob env.scope (Str.ofString "list")=true)
  (h:lrQ C.T K env.scope q args k=some r) (kk:∀ d,k d=some r->Cont C F s d Q):wpAny (model C.prog C.w) A (eval (.Call (.Name (Str.ofString "list") fp) args [] pos) env) Q E s:=by
 refine oneE h fun e qa h2=>?_
 clear h;subst qa
 obtain ⟨g,as,ks,p,rfl,h3⟩:=callE h2
 clear h2
 refine ifE h3 fun hk h4=>?_
 clear h3
 have hk:=waw hk
 subst hk
 obtain ⟨f,fp',rfl,h5⟩:=nameE h4
 clear h4
 refine ifE h5 fun hc h=>andE hc fun hc1 hs=>andE hc1 fun hc2 hgr=>?_
 clear h5 hc hc1
 have hc:=eq_of_beq hc2
 clear hc2
 subst hc
 have hs':noStar [Expr.Call (.Name (Str.ofString "range") fp') as [] p]=true:=rfl
 refine callBi X hg wsv hs' ?_
 rw [wak (waM hs')]
 refine spliced_cons (wkk S X hgr hs h fun a b h ha ha' hb hb' hab z sa F1 t u v xa hr=>spliced_nil ?_)
 refine call_list_range (n:=(b - a).toNat) X.R.handled hr (small_one (by omega) (by omega) (by omega) (by omega)) (by rw [rangeSize_one];split<;>omega) (by omega) fun h' tk acc' c' hk hS' hacc=>?_
 have y:=Ext.put (s':={ sa with heap:=h',toks:=tk }) (a:=sa.heap.objs.size) xa.inn hk (get?_size _) hS'
 have rr:RepAll C (F1.put sa.heap.objs.size { cls:=.type "list",data:=.seq acc' c' }) (wcu a b) acc'.toList:=by
  unfold wcu
  rw [List.range_eq_range']
  exact woS hacc.1 fun j v e=>by
   obtain ⟨t,e'⟩:=hacc.2 j v (by rw [<- Array.getElem?_toList];exact e)
   exact ⟨t,by rw [e',Nat.zero_add,Int.mul_one]⟩
 exact kk _ h _ _ _ (xa.trans y) (.mk (FH.put_self _ _ _) rr)
end
structure HeapOk (C:Fr) (F:FH) (h:Heap):Prop where
 inn:F.In h
 tab:TabIn C h
 ftab:F (tabAt C)=none
theorem HeapOk.ext {C:Fr} {F F':FH} {s s':Shared} (r:HeapOk C F s.heap) (x:Ext F s F' s'):HeapOk C F' s'.heap:=⟨x.inn,x.tab r.tab,x.ftab r.ftab r.tab⟩
theorem RelR.hok {C:Fr} {F:FH} {env:Env} {h:Heap} {q:QV} (r:RelR C env F h q):HeapOk C F h:=⟨r.inn,r.tab,r.ftab⟩
structure ClsOk (C:Fr) (c:Addr):Prop where
 hga:findIn C.K (.ref c) "__getattribute__"=some (some (.builtin "object.__getattribute__"))
 hk:findIn C.K (.ref c) "__getattr__"=some none
 hs:findIn C.K (.ref c) "__setattr__"=some (some (.builtin "object.__setattr__"))
 cd:∃ cd,clsIn C.K c=some cd/\cd.hasDict=true
 over:plainOver C.K c=true
 ats:∀ a∈C.T.ats,findIn C.K (.ref c) a=some none
noncomputable def FnSem (C:Fr) (n:Nat) (v:Value) (ds:List D) (d:D):Prop:=
 ∀ {A:Around} {F:FH} {s:Shared} {vs:List Value} {Q:Value->Shared->Prop} {E:Value->Shared->Prop},
  Room A n->Gd C F->HeapOk C F s.heap->RepAll C F ds vs->Cont C F s d Q->wpAny (model C.prog C.w) A (call v vs) Q E s
noncomputable def SoundFn (C:Fr) (n:Nat) (fn:Str->List D->Option D):Prop:=∀ {f ds d v},fn f ds=some d->C.mg f=some v->FnSem C n v ds d
noncomputable def SoundMeth (C:Fr) (n:Nat) (meth:Str->Str->List D->Option D):Prop:=∀ {c m ds d f},meth c m ds=some d->findIn C.K (.ref (C.cad c)) m=some (some (.ref f))->FnSem C n (.ref f) ds d
structure Known (C:Fr):Prop where
 fn:∀ {f},hasF C.T f=true->∃ v,C.mg f=some v/\keepIn C.K v=true
 me:∀ {c m},hasM C.T c m=true->ClsOk C (C.cad c)/\∃ f,findIn C.K (.ref (C.cad c)) m=some (some (.ref f))/\typeIn C.K (.ref f)=some (.type "function")/\keepIn C.K (.ref f)=true
structure StOk (C:Fr) (mcs:Addr->Value):Prop where
 con:∀ c l,C.T.con.lookup c=some l->C.mg c=some (.ref (C.cad c))/\readsIn C.K (C.cad c) (mcs (C.cad c))=true/\∀ a d,l.lookup a=some d->∃ v,findCls C.K (.ref (C.cad c)) (mcs (C.cad c)) a=some (.val v)/\handedIn v=true/\∀ F,Rep C F v d
 cls:∀ c,(C.T.cls.lookup c).isSome=true->ClsOk C (C.cad c)
section
variable {C:Fr} {F F':FH} {A:Around} {E:Value->Shared->Prop} {s:Shared} {Q:Value->Shared->Prop} {d:D} {env:Env} {q:QV} {n:Nat} {K:KJ} {α:Type} {r:α} {CF:Str->List D->Option D} {CM:Str->Str->List D->Option D}
theorem wpK (S:SoundEv C n K.ev) (Sf:SoundFn C n CF) (kn:Known C) {f:Str} {fp pos:Pos} {args:List Expr} {k:D->Option α} (X:Ok C A n env q F s) (hg:isGlob env.scope f=true) (hs:noStar args=true)
  (h:(if hasF C.T f then evLQ K env.scope q args fun ds=>(CF f ds).bind k else none)=some r) (kk:∀ d,k d=some r->Cont C F s d Q) :
  wpAny (model C.prog C.w) A (eval (.Call (.Name f fp) args [] pos) env) Q E s:=by
 refine ifE h fun hf h=>?_
 obtain ⟨v,e1,e2⟩:=kn.fn hf
 show wpAny _ _ (eval (.Name f fp) env >>= fun fv=>callWith pos fv [] (backTo pos (starEach args env)) []) _ _ _
 exact wpAny_bind (wez X hg e1 (callWith_of (P:=fun h=>C.K.In h) (by rw [(wcv hs).1];rfl) (keeps_K e2) (wit hs (wgF S args X h fun ds h vs s' F' x rv _=>
  ⟨X.g.kIn (fun b o e=>x.inn _ _ (x.le _ _ e)),bindE h fun d e h=>Sf e e1 X.R (X.g.mono x.le) (X.r.ext x).hok rv ((kk d h).ext x)⟩))))
theorem wgM {es:Array DictEntry} (hk:StrKeys es):es.any (·.refKey)=false:=by
 rw [Array.any_eq_false'];intro e he;obtain ⟨n,t,h⟩:=hk e he;simp [DictEntry.refKey,h]
theorem wgs {o:Obj} {m:Str->Option Value} {x:Str} (h:NsO o m):lookIn x o=some (m x):=by
 obtain ⟨es,ep,hd,hk,hf⟩:=h
 rw [<- hf x]
 unfold lookIn nsFind findBy
 rw [hd]
 dsimp only
 rw [<- Array.find?_toList]
 cases q:es.toList.find? (·.key.isStr x) with
 | some e=>rfl
 | none=>
  dsimp only
  rw [Array.any_toList,wgM hk,if_neg Bool.false_ne_true];rfl
theorem InstAt.own {h:Heap} {a dd:Addr} {C:Addr} {od:Obj} (e:h.get? a=some (instObj C dd)) (e':h.get? dd=some od):InstAt h a (instObj C dd) C (some od):=
 ⟨e,rfl,rfl,e'⟩
theorem wmu {c:Addr} {od:Obj} {name:Str} {v:Value} {es:List (Str×Value)} (ok:ClsOk C c) (ha:name∈C.T.ats) (hn:NsD od es) (hv:es.lookup name=some v):findObj C.K c (some od) name=some (.value v):=by
 obtain ⟨cd,h1,h2⟩:=ok.cd
 unfold findObj
 rw [h1]
 show ((findIn C.K (.ref c) name).bind _)=_
 rw [ok.ats name ha]
 show (PySem.W.ownOf cd (some od) name).bind _=_
 unfold PySem.W.ownOf
 rw [h2,if_pos rfl]
 dsimp only
 rw [wgs hn.ns,hv]
 rfl
theorem RepFs.get {fs:List (Str×D)}:∀ {es:List (Str×Value)} {a:Str} {d:D},RepFs C F fs es->fs.lookup a=some d->∃ v,es.lookup a=some v/\Rep C F v d:=by
 induction fs with
 | nil=>intro es a d r h;exact noneE h
 | cons p fs ih=>
  intro es a d r h
  obtain ⟨k,d'⟩:=p
  cases r with | @mk p vs x y=>
  obtain ⟨pk,pv⟩:=p
  obtain ⟨e0,x⟩:=x
  have e0:pk=k:=e0
  subst e0
  rw [List.lookup_cons]at h ⊢
  cases q:a==pk with
  | true=>rw [q]at h;cases h;exact ⟨_,rfl,x⟩
  | false=>rw [q]at h;exact ih y h
theorem RepFs.keys {fs:List (Str×D)}:∀ {es:List (Str×Value)},RepFs C F fs es->es.map (·.1)=fs.map (·.1):=by
 induction fs with
 | nil=>intro es r;cases r;rfl
 | cons x l ih=>intro es r;cases r with | mk a b=>rw [List.map_cons,List.map_cons,a.1,ih b]
theorem wiI {β:Type} {a:Str} {l:List (Str×β)}:l.lookup a=none ↔ a ∉ l.map (·.1):=by
 induction l with
 | nil=>exact ⟨fun _=>List.not_mem_nil,fun _=>rfl⟩
 | cons p l ih=>
  rw [List.lookup_cons,List.map_cons,List.mem_cons,not_or,<- ih]
  cases q:a==p.1 with
  | true=>exact ⟨fun h=>noneE h.symm,fun h=>absurd (eq_of_beq q) h.1⟩
  | false=>exact ⟨fun h=>⟨fun e=>(by rw [e,beq_self_eq_true]at q;exact ffE q.symm),h⟩,fun h=>h.2⟩
theorem RepFs.gone {es:List (Str×Value)} {fs:List (Str×D)} (r:RepFs C F fs es) {a:Str} (h:fs.lookup a=none):es.lookup a=none:=wiI.mpr (r.keys ▸ wiI.mp h)
theorem RepFs.length {es:List (Str×Value)} {fs:List (Str×D)} (r:RepFs C F fs es):es.length=fs.length:=by
 have:=congrArg List.length r.keys;rwa [List.length_map,List.length_map]at this
theorem wog {G:FH} {v:Value} (r:Vw C F d G v):handedIn v=true:=by cases d<;>cases r<;>rfl
theorem woj {v:Value} {c a:Str} {fs:List (Str×D)} {expr:Bool} (ok:ClsOk C (C.cad c)) (g:Gd C F) (hF:F.In s.heap) (vv:View C s.heap F v (.obj c fs)) (ha:a∈C.T.ats) (h:fs.lookup a=some d)
  (k:Cont C F s d Q):wpAny (model C.prog C.w) A (getAttr v a expr) Q E s:=by
 cases vv with | mk e1 e2 hn rf=>
 obtain ⟨v,hv,rv⟩:=rf.get h
 exact get_value (g.kIn hF) (InstAt.own e1 e2) ok.hga (wmu ok ha hn hv) (wog rv) (k.here hF rfl rv)
theorem wo5 {M:Model} {a:Addr} {o:Obj} {es:List (Str×Value)} {name:Str} {v:Value} {Q:Unit->Shared->Prop} (ho:s.heap.get? a=some o) (hn:NsD o es) (hnone:es.lookup name=none)
  (h:∀ h' o',h'.get? a=some o'->NsD o' (es++[(name,v)])->Heap.SameBut a s.heap h'->Q () { s with heap:=h',toks:=s.toks+1 }):wpAny M A (nsSet a name v) Q E s:=by
 obtain ⟨⟨des,ep,hd,hk,hf⟩,hsz⟩:=hn
 have hsz:=hsz _ _ hd
 unfold nsSet
 refine wpAny_bind (wpAny_bind (wpAny_askSetting (wpAny_pure (wpAny_bind (wpAny_mkText (wpAny_bind (wpAny_loadPart ho ?_)))))))
 rw [hd]
 dsimp only
 have hany:=wgM hk
 rw [aRefKeyMayBeTheName_at,hany,Bool.and_false]
 refine wpAny_updatePart ho ?_
 have hi:des.findIdx? (·.key.isStr name)=none:=by
  have:=hf name
  dsimp only at this
  rw [hnone]at this
  unfold nsFind at this
  rw [findBy_of_findIdx?]at this
  cases q:des.findIdx? (·.key.isStr name) with
  | none=>rfl
  | some i=>
   rw [q]at this
   have hlt:i<des.size:=by
    obtain ⟨h1,_⟩:=Array.findIdx?_eq_some_iff_getElem.mp q
    exact h1
   simp [hlt]at this
 obtain ⟨c,dd,dt,sl⟩:=o
 dsimp only at hd
 subst hd
 refine h _ _ (Heap.get?_update_self _ ho (by simp only [Obj.putName_eq,Obj.putNameByArray,hi];rfl)) ?_ (Heap.SameBut.update ..)
 simp only [Obj.putName_eq,Obj.putNameByArray,hi]
 refine ⟨⟨_,_,rfl,hk.push _ _ _ _,fun x=>?_⟩,fun des' ep' q=>?_⟩
 ·have hpush:=findBy_push (fun n v=>v.isStr n) des name x (PyData.keyHash M.w.params name) (.str name s.toks) v (fun y=>by
   show (name==y)=decide (y=name)
   by_cases h:y=name
   ·subst h;simp
   ·have:¬ name=y:=fun e=>h e.symm
    simp [h,this]) hi
  refine hpush.trans ?_
  show (if x=name then some v else nsFind des x)=_
  rw [hf x]
  have app:∀ l:List (Str×Value),(l++[(name,v)]).lookup x=(l.lookup x).or ([(name,v)].lookup x):=by
   intro l
   induction l with
   | nil=>rfl
   | cons p l ih=>
    rw [List.cons_append,List.lookup_cons,List.lookup_cons]
    cases x==p.1<;>simp [ih]
  dsimp only
  rw [app]
  by_cases q:x=name
  ·subst q;rw [hnone];simp
  ·have q':(x==name)=false:=by simpa using q
   rw [if_neg q]
   simp [q',List.lookup_cons]
 ·cases q
  simp;omega
theorem wn5 {x dd:Addr} {od:Obj} {c:Addr} {name:Str} {v:Value} {es:List (Str×Value)} {Q:Unit->Shared->Prop} (ok:ClsOk C c) (X:C.K.In s.heap) (ha:name∈C.T.ats) (e1:s.heap.get? x=some (instObj c dd)) (e2:s.heap.get? dd=some od)
  (hn:NsD od es) (hnone:es.lookup name=none) (hz:es.length<=1000)
  (h:∀ h' o' tk,h'.get? dd=some o'->NsD o' (es++[(name,v)])->Heap.SameBut dd s.heap h'->Q () { s with heap:=h',toks:=tk }):wpAny (model C.prog C.w) A (setAttr (.ref x) name v) Q E s:=by
 have I:=InstAt.own e1 e2
 refine set_plain X I ok.hs ?_
 have ht:takerIn C.K c name=some none:=by unfold takerIn;rw [ok.ats name ha];rfl
 refine osa_open (s:={ s with toks:=s.toks+1 }) X I ok.over ht fun b=>?_
 obtain ⟨cd,hc,hd'⟩:=ok.cd
 refine wpAny_bind (wpAny_pure (wpAny_bind (wpAny_bind (wpAny_loadPart e1 (wpAny_bind (Looks.here (s:={ s with toks:=s.toks+1 }) (looks_clsIn X hc) ?_))))))
 rw [hd']
 refine wpAny_pure (a:=some dd) (wpAny_bind (wpAny_pure (wpAny_bind ?_)))
 refine wo5 (s:={ s with toks:=s.toks+1 }) e2 hn hnone fun h' o' q1 q2 q3=>?_
 obtain ⟨⟨des,ep,q4,q5⟩,q6⟩:=id q2
 have q7:=q6 _ _ q4
 refine wpAny_bind (wpAny_lookBehind q1 (by rw [q4];exact pastItsLine_dict (by simp [sizeLine]at q7 ⊢;omega)) ?_)
 exact wpAny_pure (h h' o' _ q1 q2 q3)
theorem wbW {o:Expr} {ap p:Pos} {m:Str} (h:callOk o ap p=true):attributeBase o m env (eval o env)=eval o env/\(ap.endLine==p.line)=true:=by
 refine andE h fun h1 h2=>⟨?_,h1⟩
 clear h h1
 have go:(o.ctorIdx != 16)=true->attributeBase o m env (eval o env)=eval o env:=fun q=>by
  cases o<;>first | rfl | exact ffE q
 rcases Bool.or_eq_true_iff.mp h2 with q | q
 ·exact go q
 ·clear h2 go
  obtain ⟨u,hu⟩:=Option.isSome_iff_exists.mp q
  obtain ⟨f,as,ks,cp,rfl,h3⟩:=callE hu
  clear hu q
  refine ifE h3 fun hk h4=>?_
  have hk:=waw hk
  subst hk
  obtain ⟨id,ip,rfl,h5⟩:=nameE h4
  clear h3 h4
  refine nifE h5 fun hid _=>?_
  cases as with
  | cons a as=>rfl
  | nil=>
   unfold attributeBase
   dsimp only
   rw [if_pos]
   simp only [bne_iff_ne,Bool.or_eq_true,ne_eq,beq_iff_eq]at hid ⊢
   exact .inl (.inl (.inl hid))
theorem wpw (S:SoundEv C n K.ev) {mcs:Addr->Value} (co:StOk C mcs) {o:Expr} {a:Str} {pos:Pos} {k:D->Option α} (X:Ok C A n env q F s)
  (h:evAttrQ C.T env.scope q o a k=some r) (kk:∀ d,k d=some r->Cont C F s d Q):wpAny (model C.prog C.w) A (eval (.Attribute o a pos) env) Q E s:=by
 obtain ⟨c,cp,rfl,h2⟩:=nameE h
 clear h
 refine iteE h2 (fun hg h=>optE h fun l h1 h=>optE h fun d hd h=>?_) fun _ h=>ifE h fun ha h=>Attribute_name (wbp S X (e:=.Name c cp) h fun d h v s' F' x vv _=>bindE h fun d e h=>objE e fun c fs q e=>ifE e fun hc e=>
  woj (co.cls _ hc) (X.g.mono x.le) x.inn (q ▸ vv) (List.contains_iff_mem.mp ha) e ((kk d h).ext x))
 obtain ⟨e1,e2,e3⟩:=co.con c l h1
 obtain ⟨v,e4,e5,e6⟩:=e3 a d hd
 exact Attribute_name (wez X hg e1 (cls_value (X.g.kIn X.r.inn) e2 e4 e5 ((kk d h).here X.r.inn rfl (e6 F))))
theorem fewArgs {pos:Pos} {args:List Expr} (hs:noStar args=true) (hl:args.length<20):((backTo pos (starEach args env)).all (fun x=>!x.1)&&(backToKw pos (keywordEach [] env)).all (fun x=>x.1.isSome)
  &&decide (args.length+([]:List Keyword).length+(if ([]:List Keyword).isEmpty then 0 else 1)<30))=true:=by
 rw [(wcv hs).2]
 show (true&&true&&decide (args.length+0+0<30))=true
 rw [decide_eq_true (by omega)];rfl
theorem ownCall {o:Expr} {m:Str} {ap pos:Pos} {args:List Expr} (hbase:attributeBase o m env (eval o env)=eval o env) (hs:noStar args=true) (hl:args.length<20) (hline:(ap.endLine==pos.line)=true)
  (h:wpAny (model C.prog C.w) A (eval o env) (fun ov sa=>∀ pl:Sem Bool,wpAny (model C.prog C.w) A (getMethod ov m pl) (fun fx s₂=>wpAny (model C.prog C.w) A (callWith pos fx.1 fx.2 (backTo pos (starEach args env)) []) Q E s₂) E sa) E s) :
  wpAny (model C.prog C.w) A (eval (.Call (.Attribute o m ap) args [] pos) env) Q E s:=by
 rw [arm_eval_Call,hbase]
 refine wpAny_bind (wpAny_mono h (fun ov sa hU=>wpAny_bind (wpAny_standAt ?_)) fun _ _ e=>e)
 have hform:methodCallForm (args.length+([]:List Keyword).length) (backTo pos (starEach args env)) (backToKw pos (keywordEach [] env))=true:=fewArgs hs hl
 unfold methodCall
 rw [hform]
 exact wpAny_bind (wpAny_holding (wpAny_mono (hU _) (fun fx s₂ hJ=>wpAny_bind (wpAny_of_eq (show methodCallPos true o env ap pos=pure pos by unfold methodCallPos;simp [hline]) hJ)) fun _ _ e=>e))
theorem wmy (S:SoundEv C n K.ev) (Sm:SoundMeth C n CM) (kn:Known C) {o:Expr} {m:Str} {ap pos:Pos} {args:List Expr} {k:D->Option α} (X:Ok C A n env q F s)
  (ok:callOk o ap pos=true) (hl:args.length<20) (hs:noStar args=true)
  (h:(K.ev env.scope q o fun d=>objK d fun c fs=>if mOk C.T c fs m then evLQ K env.scope q args fun ds=>(CM c m (.obj c fs::ds)).bind k else none)=some r) (kk:∀ d,k d=some r->Cont C F s d Q) :
  wpAny (model C.prog C.w) A (eval (.Call (.Attribute o m ap) args [] pos) env) Q E s:=by
 obtain ⟨hb,hline⟩:=wbW (env:=env) (m:=m) ok
 refine ownCall hb hs hl hline (S X h fun d h v sa F1 xa rv pl=>objE h fun c fs q h2=>ifE h2 fun hm h3=>andE hm fun hf hm=>?_)
 clear h
 subst q
 obtain ⟨cok,f,e1,e2,e3⟩:=kn.me hm
 have X1:=X.ext xa
 have rv':=rv
 cases rv with | mk e5 e6 hn rf=>
 refine method_fn (X1.g.kIn xa.inn) (InstAt.own (xa.inn _ _ e5) (xa.inn _ _ e6)) cok.hga cok.hk e1 e2 ?_ ?_
 ·unfold shadowIn
  dsimp only
  rw [wgs hn.ns,rf.gone (Option.isNone_iff_eq_none.mp hf)];rfl
 ·exact callWith_of (P:=fun h=>C.K.In h) (by rw [(wcv hs).1];rfl) (keeps_K e3) (wit hs (wgF S args X1 h3 fun ds h vs s₂ F2 xb rv2 _=>
   ⟨X1.g.kIn (fun b o e=>xb.inn _ _ (xb.le _ _ e)),bindE h fun d e h=>Sm e e1 X.R (X1.g.mono xb.le) (X1.r.ext xb).hok (.mk (rv'.ext xb) rv2) ((kk d h).ext (xa.trans xb))⟩))
theorem wnX {ds:List D}:∀ {l:List Tx} {vs:List Value},txtsOf ds=some l->RepAll C F ds vs->∃ ps:List (Str×Tok),PySem.strValues ps=vs/\ps.map (·.1)=l.map mk:=by
 induction ds with
 | nil=>intro l vs e r;cases e;cases r;exact ⟨[],rfl,rfl⟩
 | cons d ds ih=>
  intro l vs e r
  cases r with | mk x y=>
  refine strE (show strK d _=some l from e) fun a q e2=>mapE e2 fun l' e1 e3=>?_
  clear e e2
  subst q;subst e3
  cases x with | mk t=>
  obtain ⟨ps,h1,h2⟩:=ih e1 y
  exact ⟨(mk a,t)::ps,congrArg (Value.str (mk a) t::·) h1,congrArg (mk a::·) h2⟩
theorem wlR (sep:Tx):∀ l:List Tx,mk (joinT sep l)=Str.join (mk sep) (l.map mk)
 | []=>rfl
 | [x]=>rfl
 | x::y::r=>by
  have:=wlR sep (y::r)
  show mk (x++sep++joinT sep (y::r))=mk x++mk sep++Str.join (mk sep) ((y::r).map mk)
  rw [<- this]
  have app:∀ a b:Tx,mk (a++b)=mk a++mk b:=fun a b=>by
   show (⟨_⟩:Str)=⟨_⟩;simp
  rw [app,app]
theorem mnameE {P:Prop} {m:Str} {mt:Mt} (h:mname m=some mt) (a:m=Str.ofString "join"->mt=.join->P) (b:m=Str.ofString "get"->mt=.get->P) (c:m=Str.ofString "lower"->mt=.lower->P):P:=by
 unfold mname at h
 exact iteE h (fun q e=>a (eq_of_beq q) (Option.some.inj e).symm) fun _ h=>iteE h (fun q e=>b (eq_of_beq q) (Option.some.inj e).symm) fun _ h=>iteE h (fun q e=>c (eq_of_beq q) (Option.some.inj e).symm) fun _=>noneE
theorem wnD {kvs:List (Key×D)} {es:List (Key×Value)} {kd dd:D} {kv dv:Value} (e:(toKey kd).map (fun k=>(kget k kvs).getD dd)=some d) (ry:RepKV C F kvs es) (rk:Rep C F kv kd) (rd:Rep C F dv dd) :
  ∃ kk,(anyKind C.prog C.w).is kk kv=true/\Rep C F ((valueAt es kk).getD dv) d:=mapE e fun kk h1 e=>⟨kk,wcD h1 rk,by
 rw [<- e]
 rcases ry.get kk with ⟨q1,q2⟩ | ⟨d',v',q1,q2,q3⟩
 ·rw [q1,q2];exact rd
 ·rw [q1,q2];exact q3⟩
theorem wqJ {sep:Tx} {xs:List D} (e:((txtsOf xs).bind fun l=>if (l.map List.length).sum+l.length * sep.length<=cap then some (D.str (joinT sep l)) else none)=some d) {vs:List Value} (r:RepAll C F xs vs) :
  ∃ ps ss,PySem.strValues ps=vs/\ps.map (·.1)=ss/\JoinOk (mk sep) ss/\∃ y,d=.str y/\PySem.Txt.join (mk sep) ss=mk y:=
 bindE e fun l h1 e=>ifE e fun hz e=>by
  obtain ⟨ps,e2,e3⟩:=wnX h1 r
  refine ⟨ps,l.map mk,e2,e3,?_,_,(Option.some.inj e).symm,by rw [wlR];exact StrLaws.glued_eq_join _ _⟩
  unfold JoinOk
  rw [StrLaws.joinTotal]
  have hsum:((l.map mk).map (·.length)).sum=(l.map List.length).sum:=by
   rw [List.map_map];exact congrArg List.sum (List.map_congr_left fun x _=>wb6 x)
  rw [hsum,wb6,List.length_map]
  have hcap:cap<=sizeLine:=by decide
  show (!decide (_ > sizeLine))=true
  rw [decide_eq_false (by omega)];rfl
theorem ws4 (S:SoundEv C n K.ev) {o:Expr} {m:Str} {mt:Mt} {ap pos:Pos} {args:List Expr} {k:D->Option α} (X:Ok C A n env q F s)
  (ok:callOk o ap pos=true) (hl:args.length<20) (hs:noStar args=true) (hm:mname m=some mt) (h:bmQ C.T K env.scope q o mt args k=some r) (kk:∀ d,k d=some r->Cont C F s d Q) :
  wpAny (model C.prog C.w) A (eval (.Call (.Attribute o m ap) args [] pos) env) Q E s:=by
 obtain ⟨hb,hline⟩:=wbW (env:=env) (m:=m) ok
 refine wpAny_Call_method_lateS hb (fewArgs hs hl) hline (wbp S X h fun d h2 v sa F1 xa vv _=>?_)
 have X1:=X.ext xa
 clear h
 refine mnameE hm (fun em et=>?_) (fun em et=>?_) fun em et=>?_<;>subst em<;>subst et<;>clear hm
 ·
  apply strV h2 vv;intro sep t h3
  refine oneE h3 fun e qa h4=>?_
  clear h2 h3;subst qa
  rw [wak (waM hs)]
  refine SB.join (S X1 h4 fun x h vf s₂ F2 xb rv=>bindE h fun d e h=>?_)
  apply listV (show listK x _=some d from e) (rv.view xb.inn);intro xs a vs nn hg hr e
  obtain ⟨ps,ss,e2,e3,e4,y,ey,e5⟩:=wqJ e hr
  refine ⟨_,ps,rfl,by rw [e2];exact (waC hg).isList,ss,e3,e4,fun t' tk=>?_⟩
  rw [e5]
  exact (kk d h).ext xa _ _ F2 xb.tok (by rw [ey];exact .mk _)
 ·
  apply dictV h2 vv;intro kvs a o es ho hy hd ry h3
  clear h2
  have dy:sa.heap.DictOf (anyKind C.prog C.w) a es:=Heap.dictOf_iff.mpr ⟨_,ho,hd⟩
  have pre:∀ {P:Prop},P->P:=id
  rcases args with _ | ⟨e,_ | ⟨e',_ | _⟩⟩
  ·exact noneE h3
  ·rw [wak (waM hs)]
   refine ⟨"dict","dict.get",PySem.F.plainAttrs_dict,PySem.F.slot_dict_get,PySem.F.type_dict_get,dy.typeIs,dy.mapOf.noDict,wpAny_dict_get1 (knd:=anyKind C.prog C.w) hy (S X1 h3 fun x h vf s₂ F2 xb rv=>bindE h fun d e h=>?_)⟩
   obtain ⟨kk',h1,rr⟩:=wnD (C:=C) (F:=F2) (dv:=.none) e (RepKV.mono xb.le _ ry) rv rfl
   exact ⟨kk',_,h1,(wcf dy xb.keep).mapOf,(kk d h).ext xa _ _ F2 xb.tok rr⟩
  ·rw [wak (waM hs),wak (waM (wiH hs))]
   refine ⟨"dict","dict.get",PySem.F.plainAttrs_dict,PySem.F.slot_dict_get,PySem.F.type_dict_get,dy.typeIs,dy.mapOf.noDict,wpAny_dict_get2 (knd:=anyKind C.prog C.w) hy (S X1 h3 fun x h vf s₂ F2 xb rv=>S (X1.ext xb) h fun y h vk sd F3 xc rv3=>bindE h fun d e h=>?_)⟩
   have xk:=xb.trans xc
   obtain ⟨kk',h1,rr⟩:=wnD (C:=C) (F:=F3) e (RepKV.mono xk.le _ ry) (rv.ext xc) rv3
   exact ⟨kk',_,h1,(wcf dy xk.keep).mapOf,(kk d h).ext xa _ _ F3 xk.tok rr⟩
  ·exact noneE h3
 ·
  apply strV h2 vv;intro x t h3
  refine ifE h3 fun ha h4=>bindE h4 fun d e h=>ifE (show (if _ then some (D.str (lowerT x)) else none)=some d from e) fun hz e=>?_
  have ha:=waw ha
  subst ha
  refine SB.lower ?_ ?_
  ·show decide (_ > sizeLine)=false
   exact decide_eq_false (Nat.not_lt.mpr (waA hz.2))
  ·have e3:Rep C F1 (.str (PySem.Txt.lower (mk x)) sa.toks) (.str (lowerT x)):=by have:=VS.mk (x:=lowerT x) sa.toks;rwa [show mk (lowerT x)=PySem.Txt.lower (mk x) from wjD _]at this
   exact Cont.here (((kk d h).ext xa).of e) xa.inn rfl e3
end
section
variable {prog:Program} {w:World} {A:Around} {E:Value->Shared->Prop} {s:Shared}
theorem nextTup {it t:Addr} {i:Nat} {items:Array Value} {Q:Value->Shared->Prop} (hh:A.handled=none) (hit:s.heap.IsTupleIter it t i) (ht:s.heap.IsTuple t items)
  (hQ:∀ x,items[i]?=some x->∀ h',h'.IsTupleIter it t (i+1)->Heap.SameBut it s.heap h'->Q x { s with heap:=h' })
  (hE:items[i]?=none->∀ h' e,Heap.ExtBut it s.heap h'->(∃ o,h'.get? e=some o/\o.cls=.type "StopIteration")->E (.ref e) { s with heap:=h' }):wpAny (model prog w) A (Builtin.SmallTypes.nextOf (.ref it)) Q E s:=by
 obtain ⟨o,ho,hc,hd⟩:=id hit
 obtain ⟨ol,hol,_,nl,hdl⟩:=ht
 unfold Builtin.SmallTypes.nextOf
 refine wpAny_bind (wpAny_callSpecial?_slot (name:=Str.ofString "__next__") hit.typeIs PySem.F.slot_tuple_iterator_next
  (wpAny_call_entry PySem.F.slot_tuple_iterator_next hit.typeIs PySem.F.entry_tuple_iterator_next ?_ (PySem.F.args_tuple_iterator_next_1 _)))
 show wpAny _ _ (field (.ref it) 0 >>= _) _ _ s
 refine wpAny_bind (wpAny_field ho hd (x:=.ref t) rfl ?_)
 show wpAny _ _ (if (Value.ref t==Value.none)=true then _ else _) _ _ s
 rw [if_neg (show ¬ ((Value.ref t==Value.none)=true) from Bool.false_ne_true)]
 show wpAny _ _ (field (.ref it) 1 >>= _) _ _ s
 refine wpAny_bind (wpAny_field ho hd (x:=.int i 0) rfl ?_)
 show wpAny _ _ (seqItems? (.ref t) >>= _) _ _ s
 refine wpAny_bind (wpAny_seqItems hol hdl ?_)
 cases hx:items[i]? with
 | some x=>
  simp only [Int.toNat_natCast,hx]
  exact wpAny_bind (wpAny_setField ho hd (by simp) (wpAny_pure ⟨x,rfl,wpAny_pure (hQ x hx _ ⟨_,Heap.get?_update_self _ ho (Obj.isFreed_of_fields (Obj.data_mapFields hd _)),(Obj.cls_mapFields ..).trans hc,by rw [Obj.data_mapFields hd];simp [rawInt]⟩ (Heap.SameBut.update ..))⟩))
 | none=>
  simp only [Int.toNat_natCast,hx]
  refine wpAny_bind (wpAny_rule (wpAny_bind (wpAny_setField ho hd (by simp) ?_)))
  show wpAny _ _ (newExc (.type "StopIteration") [] >>= _) _ _ _
  refine wpAny_bind ?_
  simp only [newExc,newTuple]
  refine wpAny_bind (wpAny_newObj_type ?_ (by size_fits))
  refine wpAny_bind (m:=firstArgMember _ _) (wpAny_of_eq (a:=Value.none) (by first | rfl | (simp only [firstArgMember];rfl)) ?_)
  refine wpAny_newObj_type ?_ (by size_fits)
  simp only [raiseNew]
  refine wpAny_bind (wpAny_handled ?_)
  first | rw [show A.in1.handled=none from hh] | rw [hh]
  exact wpAny_bind (wpAny_pure (wpAny_throw (hE hx _ _ (((Heap.SameBut.update ..).extBut.push _).push _) ⟨_,Heap.get?_push_size _ rfl,rfl⟩)))
structure ZipAt (z TI TO i1 i2 l1 l2:Addr) (xs ys:Array Value) (f0:Value) (i:Nat) (h:Heap):Prop where
 z:IsZip h z TI TO f0
 src:IsPair h TI (.ref i1) (.ref i2)
 out:∃ a b,IsPair h TO a b
 it1:h.IsTupleIter i1 l1 i
 it2:h.IsTupleIter i2 l2 i
 t1:h.IsTuple l1 xs
 t2:h.IsTuple l2 ys
noncomputable def zOwn (z TO i1 i2:Addr) (h h':Heap):Prop:=∀ c o,c≠z->c≠TO->c≠i1->c≠i2->h.get? c=some o->h'.get? c=some o
theorem wiG {z TI TO i1 i2 l1 l2:Addr} {k:Nat} {xs ys:Array Value} {Q:Fin->Shared->Prop} (hh:A.handled=none) (D:ZipApart z TI TO i1 i2 l1 l2) (st:ZipAt z TI TO i1 i2 l1 l2 xs ys .none k s.heap)
  (hQ:∀ x y,xs[k]?=some x->ys[k]?=some y->∀ h',ZipAt z TI TO i1 i2 l1 l2 xs ys (rawInt s.heap.objs.size) (k+1) h'->IsPair h' s.heap.objs.size x y->zOwn z TO i1 i2 s.heap h'->Q (.done (.ret (.ref s.heap.objs.size))) { s with heap:=h' })
  (hE:xs[k]?=none\/ys[k]?=none->∀ h' e,zOwn z TO i1 i2 s.heap h'->(∃ o,h'.get? e=some o/\o.cls=.type "StopIteration")->E (.ref e) { s with heap:=h' }) :
  wpAny (model prog w) A (Builtin.«zip.__next__» ⟨[.ref z],[]⟩) Q E s:=by
 obtain ⟨hz,hTI,⟨a,b,hTO⟩,h1,h2,hl1,hl2⟩:=st
 show wpAny _ _ (field (.ref z) 2 >>= _) _ _ _
 refine wpAny_bind (wpAny_field hz rfl (x:=.bool false) rfl ?_)
 show wpAny _ _ (field (.ref z) 3 >>= _) _ _ _
 refine wpAny_bind (wpAny_field hz rfl (x:=.ref TI) rfl ?_)
 refine wpAny_bind (wpAny_seqItems hTI rfl ?_)
 show wpAny _ _ (Builtin.SmallTypes.ownedTupleIsFree (.ref z) >>= _) _ _ _
 refine wpAny_bind ?_
 unfold Builtin.SmallTypes.ownedTupleIsFree
 refine wpAny_bind (wpAny_field hz rfl (x:=.none) rfl (wpAny_pure ?_))
 simp only [if_true]
 refine wpAny_bind (wpAny_rule ?_)
 refine wpAny_bind (wpAny_field hz rfl (x:=.ref TO) rfl ?_)
 refine wpAny_bind (wpAny_setField_rec hz (by simp) fun hU hz1 hs1=>?_)
 replace hz1:IsZip hU z TI TO .ellipsis:=hz1
 refine wpAny_bind ?_
 simp only [List.zipIdx_cons,List.zipIdx_nil,List.forIn_cons,List.forIn_nil]
 refine wpAny_bind (wpAny_bind (wpAny_onRaise ?_))
 show wpAny _ _ (Builtin.SmallTypes.nextOf (.ref i1) >>= _) _ _ _
 have stop:∀ {h:Heap} {e:Addr} {Q:Unit->Shared->Prop} {Y:Value->Shared->Prop},(xs[k]?=none\/ys[k]?=none)->IsZip h z TI TO .ellipsis->zOwn z TO i1 i2 s.heap h->(∃ o,h.get? e=some o/\o.cls=.type "StopIteration") ->
   (∀ h',E (.ref e) { s with heap:=h' }->Q () { s with heap:=h' })->wpAny (model prog w) A (setField (.ref z) 0 .none) Q Y { s with heap:=h }:=fun {h e Q Y} hend hza hk ⟨oe,hoe,hce⟩ q=>by
  have hez:e≠z:=fun x=>by subst x;rw [hza]at hoe;cases hoe;simp at hce
  exact wpAny_setField_rec hza (by simp) fun hM _ hs3=>q _ (hE hend hM e (fun c o c1 c2 c3 c4 x=>hs3.extBut _ _ c1 (hk c o c1 c2 c3 c4 x)) ⟨oe,hs3.extBut _ _ hez hoe,hce⟩)
 refine wpAny_bind (nextTup hh (h1.extBut hs1.extBut D.i1z) (hl1.extBut hs1.extBut D.l1z) (fun x hx hJ h1₂ hs2=>wpAny_pure ?_) fun hx hJ e hs2 he=>?_)
 case refine_2=>
  exact stop (.inl hx) (hs2 _ _ D.i1z.symm hz1) (fun c o c1 _ c3 _ x=>hs2 _ _ c3 (hs1.extBut _ _ c1 x)) he fun h' q=>q
 have hTO₂:IsPair hJ TO a b:=hs2.extBut _ _ D.TOi1 (hs1.extBut _ _ D.TOz hTO)
 refine wpAny_bind (wpAny_seqItems hTO₂ rfl ?_)
 refine wpAny_bind (wpAny_updateSeq_pair hTO₂ fun hM hTO3 hs3=>?_)
 replace hTO3:IsPair hM TO x b:=hTO3
 refine wpAny_bind (wpAny_letGo (wpAny_pure ?_))
 refine wpAny_bind (wpAny_bind (wpAny_onRaise ?_))
 show wpAny _ _ (Builtin.SmallTypes.nextOf (.ref i2) >>= _) _ _ _
 refine wpAny_bind (nextTup hh (((h2.extBut hs1.extBut D.i2z).extBut hs2.extBut D.i12.symm).extBut hs3.extBut D.TOi2.symm)
  (((hl2.extBut hs1.extBut D.l2z).extBut hs2.extBut D.l2i1).extBut hs3.extBut D.l2TO) (fun y hy hZ h2₄ hs4=>wpAny_pure ?_) fun hy hZ e hs4 he=>?_)
 case refine_2=>
  exact stop (.inr hy) (hs4 _ _ D.i2z.symm (hs3.extBut _ _ D.TOz.symm (hs2.extBut _ _ D.i1z.symm hz1))) (fun c o c1 c2 c3 c4 x=>hs4 _ _ c4 (hs3.extBut _ _ c2 (hs2.extBut _ _ c3 (hs1.extBut _ _ c1 x)))) he fun h' q=>q
 have hTO4:IsPair hZ TO x b:=hs4.extBut _ _ D.TOi2 hTO3
 refine wpAny_bind (wpAny_seqItems hTO4 rfl ?_)
 refine wpAny_bind (wpAny_updateSeq_pair hTO4 fun hK hTO5 hs5=>?_)
 replace hTO5:IsPair hK TO x y:=hTO5
 refine wpAny_bind (wpAny_letGo (wpAny_pure (wpAny_pure ?_)))
 refine wpAny_bind (wpAny_seqItems hTO5 rfl ?_)
 refine wpAny_bind (wpAny_newTuple ?_)
 have hsz:hK.objs.size=s.heap.objs.size:=by rw [hs5.1,hs4.1,hs3.1,hs2.1,hs1.1]
 have hz5:IsZip hK z TI TO .ellipsis:=hs5.extBut _ _ D.TOz.symm (hs4.extBut _ _ D.i2z.symm (hs3.extBut _ _ D.TOz.symm (hs2.extBut _ _ D.i1z.symm hz1)))
 have hk5:zOwn z TO i1 i2 s.heap hK:=fun c o c1 c2 c3 c4 e=>
  hs5.extBut _ _ c2 (hs4.extBut _ _ c4 (hs3.extBut _ _ c2 (hs2.extBut _ _ c3 (hs1.extBut _ _ c1 e))))
 have h1₅:hK.IsTupleIter i1 l1 (k+1):=((h1₂.extBut hs3.extBut D.TOi1.symm).extBut hs4.extBut D.i12).extBut hs5.extBut D.TOi1.symm
 have h2₅:hK.IsTupleIter i2 l2 (k+1):=h2₄.extBut hs5.extBut D.TOi2.symm
 have l1₅:hK.IsTuple l1 xs:=hl1.at fun o e=>hk5 _ o D.l1z D.l1TO D.l1i1 D.l1i2 e
 have l2₅:hK.IsTuple l2 ys:=hl2.at fun o e=>hk5 _ o D.l2z D.l2TO D.l2i1 D.l2i2 e
 have tc:IsPair hK TI (.ref i1) (.ref i2):=hk5 _ _ D.TIz D.TITO D.TIi1 D.TIi2 hTI
 clear stop hE h1₂ h2₄ hTO₂ hTO3 hTO4 hs1 hs2 hs3 hs4 hs5 hz1
 show wpAny _ _ (Builtin.SmallTypes.ownedTupleHandOut (.ref z) (.ref hK.objs.size) >>= _) _ _ _
 refine wpAny_bind ?_
 unfold Builtin.SmallTypes.ownedTupleHandOut
 have hzlt:z<hK.objs.size:=Heap.lt_size hz5
 have hz6:IsZip (hK.push { cls:=.type "tuple",data:=.seq #[x,y] }) z TI TO .ellipsis:=Heap.get?_push_of_some _ hz5
 refine wpAny_bind (wpAny_setField_rec hz6 (by simp) fun hY hz7 hs7=>?_)
 replace hz7:IsZip hY z TI TO (rawInt hK.objs.size):=hz7
 refine wpAny_setField_rec hz7 (by simp) fun hV hz8 hs8=>?_
 replace hz8:IsZip hV z TI TO (rawInt hK.objs.size):=hz8
 have up:∀ c o,c≠z->hK.get? c=some o->hV.get? c=some o:=fun c o c1 e=>hs8.extBut _ _ c1 (hs7.extBut _ _ c1 (Heap.get?_push_of_some _ e))
 have hT8:IsPair hV hK.objs.size x y:=hs8.extBut _ _ (Nat.ne_of_gt hzlt) (hs7.extBut _ _ (Nat.ne_of_gt hzlt) (Heap.get?_push_size _ rfl))
 refine wpAny_pure ?_
 show Q (.done (.ret (.ref hK.objs.size))) _
 rw [hsz]at hz8 hT8 ⊢
 exact hQ x y hx hy hV ⟨hz8,up _ _ D.TIz tc,⟨_,_,up _ _ D.TOz hTO5⟩,h1₅.at fun o e=>up _ o D.i1z e,h2₅.at fun o e=>up _ o D.i2z e,l1₅.at fun o e=>up _ o D.l1z e,l2₅.at fun o e=>up _ o D.l2z e⟩ hT8
  fun c o c1 c2 c3 c4 e=>up c o c1 (hk5 c o c1 c2 c3 c4 e)
theorem ZipAt.free {z TI TO i1 i2 l1 l2:Addr} {xs ys:Array Value} {f0:Value} {i:Nat} {h:Heap} (st:ZipAt z TI TO i1 i2 l1 l2 xs ys f0 i h) {h':Heap} {f1:Value} (D:ZipApart z TI TO i1 i2 l1 l2) (hz:IsZip h' z TI TO f1) (hs:Heap.SameBut z h h'):ZipAt z TI TO i1 i2 l1 l2 xs ys f1 i h':=
 ⟨hz,hs.extBut _ _ D.TIz st.src,let ⟨a,b,e⟩:=st.out;⟨a,b,hs.extBut _ _ D.TOz e⟩,st.it1.extBut hs.extBut D.i1z,st.it2.extBut hs.extBut D.i2z,st.t1.extBut hs.extBut D.l1z,st.t2.extBut hs.extBut D.l2z⟩
theorem wkQ (hh:A.handled=none) (z TI TO i1 i2 l1 l2:Addr) (D:ZipApart z TI TO i1 i2 l1 l2) (xs ys:Array Value) :
  WalksU prog w A z [z,TI,TO,i1,i2,l1,l2] [z,TO,i1,i2] (min xs.size ys.size) (fun i vals=>∃ x y,xs[i]?=some x/\ys[i]?=some y/\vals=#[x,y])
   (fun i h=>ZipAt z TI TO i1 i2 l1 l2 xs ys .none i h) (fun i T h=>ZipAt z TI TO i1 i2 l1 l2 xs ys (rawInt T) (i+1) h/\T≠z/\T≠TO/\T≠i1/\T≠i2) where
 sub:=fun c hc=>by simp at hc ⊢;rcases hc with rfl | rfl | rfl | rfl<;>simp
 frame:=fun i h h' st hk=>⟨hk z (by simp) _ st.z,hk TI (by simp) _ st.src,let ⟨a,b,e⟩:=st.out;⟨a,b,hk TO (by simp) _ e⟩,st.it1.at fun o e=>hk i1 (by simp) o e,st.it2.at fun o e=>hk i2 (by simp) o e,
   st.t1.at fun o e=>hk l1 (by simp) o e,st.t2.at fun o e=>hk l2 (by simp) o e⟩
 item:=fun i s Q E hi st hQ=>by
  have hix:i<xs.size:=Nat.lt_of_lt_of_le hi (Nat.min_le_left ..)
  have hiy:i<ys.size:=Nat.lt_of_lt_of_le hi (Nat.min_le_right ..)
  have hT:s.TypeIs (.ref z) "zip":=⟨_,st.z,rfl⟩
  have lt:∀ {c o},s.heap.get? c=some o->s.heap.objs.size≠c:=fun e=>Nat.ne_of_gt (Heap.lt_size e)
  unfold pyNext
  refine wpAny_bind (wpAny_attempt (wpAny_callSpecial?_slot (name:=Str.ofString "__next__") hT PySem.F.slot_zip_next
   (wpAny_call_entry PySem.F.slot_zip_next hT PySem.F.entry_zip_next (wiG hh D st (fun x y ex ey h' a1 a2 hk=>⟨_,rfl,wpAny_pure ?_⟩) fun he=>by
    rcases he with he | he
    ·rw [Array.getElem?_eq_getElem hix]at he;exact noneE he.symm
    ·rw [Array.getElem?_eq_getElem hiy]at he;exact noneE he.symm) (PySem.F.args_zip_next_1 _))))
  exact hQ s.heap.objs.size #[x,y] h' s.toks ⟨x,y,ex,ey,rfl⟩ ⟨_,a2,rfl,_,rfl⟩
   ⟨a1,lt st.z,(by obtain ⟨_,_,e⟩:=st.out;exact lt e),(by obtain ⟨_,e,_⟩:=st.it1;exact lt e),(by obtain ⟨_,e,_⟩:=st.it2;exact lt e)⟩
   fun c o hc e=>hk c o (fun x=>hc (by simp [x])) (fun x=>hc (by simp [x])) (fun x=>hc (by simp [x])) (fun x=>hc (by simp [x])) e
 go:=fun elts k pos i T s Q E hm hQ=>by
  refine wpAny_letOwnedTupleGo_zip hm.1.z fun h' hz' hs'=>hQ h' (hm.1.free D hz' hs') fun c o hc e=>hs'.extBut _ _ (fun x=>hc (by simp [x])) e
 apart:=fun i T h hm hT=>by
  obtain ⟨_,t1,t2,t3,t4⟩:=hm
  simp at hT
  rcases hT with rfl | rfl | rfl | rfl
  ·exact t1 rfl
  ·exact t2 rfl
  ·exact t3 rfl
  ·exact t4 rfl
 done:=fun s Q E st hQ=>by
  have hend:xs[min xs.size ys.size]?=none\/ys[min xs.size ys.size]?=none:=by
   rcases Nat.le_total xs.size ys.size with h | h
   ·exact .inl (by rw [Nat.min_eq_left h];exact Array.getElem?_eq_none (Nat.le_refl _))
   ·exact .inr (by rw [Nat.min_eq_right h];exact Array.getElem?_eq_none (Nat.le_refl _))
  have hT:s.TypeIs (.ref z) "zip":=⟨_,st.z,rfl⟩
  unfold pyNext
  refine wpAny_bind (wpAny_attempt (wpAny_callSpecial?_slot (name:=Str.ofString "__next__") hT PySem.F.slot_zip_next
   (wpAny_call_entry PySem.F.slot_zip_next hT PySem.F.entry_zip_next (wiG hh D st (fun x y ex ey=>by
    rcases hend with h | h
    ·rw [h]at ex;exact noneE ex
    ·rw [h]at ey;exact noneE ey) fun _ h' e hk he=>?_) (PySem.F.args_zip_next_1 _))))
  obtain ⟨o,ho,hc⟩:=he
  refine wpAny_bind (wpAny_isInstance (T:="StopIteration") (b:=true) ⟨o,ho,hc⟩ isSubtype_stop ?_)
  exact wpAny_pure (hQ _ s.toks fun c o hc e=>hk c o (fun x=>hc (by simp [x])) (fun x=>hc (by simp [x])) (fun x=>hc (by simp [x])) (fun x=>hc (by simp [x])) e)
 self:=fun i s Q E st hQ=>wpAny_pyIter_zip st.z hQ
noncomputable abbrev ziP1 (h:Heap) (l1:Addr):Heap:=h.push { cls:=.type "tuple_iterator",data:=.fields #[.ref l1,.int 0 0] }
noncomputable abbrev ziP2 (h:Heap) (l1 l2:Addr):Heap:=(ziP1 h l1).push { cls:=.type "tuple_iterator",data:=.fields #[.ref l2,.int 0 0] }
noncomputable abbrev ziP3 (h:Heap) (l1 l2:Addr):Heap:=(ziP2 h l1 l2).push { cls:=.type "tuple",data:=.seq #[.ref h.objs.size,.ref (ziP1 h l1).objs.size] }
noncomputable abbrev ziP4 (h:Heap) (l1 l2:Addr):Heap:=(ziP3 h l1 l2).push { cls:=.type "tuple",data:=.seq #[.none,.none] }
noncomputable abbrev ziP5 (h:Heap) (l1 l2:Addr):Heap:=(ziP4 h l1 l2).push { cls:=.type "zip",data:=.fields #[.none,.bool false,.bool false,.ref (ziP2 h l1 l2).objs.size,.ref (ziP3 h l1 l2).objs.size] }
theorem wkR (l1 l2:Addr) (xs ys:Array Value) :
  Meets (Builtin.«zip.__new__» ⟨[.type "zip",.ref l1,.ref l2],[]⟩) (fun _ R s=>s.heap.IsTuple l1 xs/\s.heap.IsTuple l2 ys /\
   R (.ok (.ret (.ref (ziP4 s.heap l1 l2).objs.size))) { s with heap:=ziP5 s.heap l1 l2 }):=
 .of_wp fun prog w A R s h=>by
  obtain ⟨hp,g,d,tk,os⟩:=s;obtain ⟨hl1,hl2,h⟩:=h
  have hsub:=sub_zip
  have hL1:Heap.IsTuple (Shared.heap ⟨hp,g,d,tk,os⟩) l1 xs:=hl1
  have hL2:Heap.IsTuple (Shared.heap ⟨hp.push { cls:=.type "tuple_iterator",data:=.fields #[.ref l1,.int 0 0] },g,d,tk,os⟩) l2 ys:=Heap.IsTuple.push hl2 _
  wp_walk using wpAny_pyIter_tuple hL1,wpAny_pyIter_tuple hL2
  exact ⟨_,rfl,h⟩
theorem wmi {l1 l2:Addr} {xs ys:Array Value} {Q:Value->Shared->Prop} (hl1:s.heap.IsTuple l1 xs) (hl2:s.heap.IsTuple l2 ys)
  (h:∀ h' z TI TO i1 i2,ZipApart z TI TO i1 i2 l1 l2->ZipAt z TI TO i1 i2 l1 l2 xs ys .none 0 h'->s.heap.objs.size<=z->s.heap.objs.size<=TO->s.heap.objs.size<=i1->s.heap.objs.size<=i2 ->
   (∀ c o,s.heap.get? c=some o->h'.get? c=some o)->Q (.ref z) { s with heap:=h' }):wpAny (model prog w) A (call (.type "zip") [.ref l1,.ref l2]) Q E s:=by
 refine callType_new PySem.F.called_zip (by decide) (PySem.F.typeCall_zip_2 _ _) (PySem.F.newCall_zip_2 _ _) (fun obj=>PySem.F.args_object_init_3 obj _ _) PySem.F.entry_zip_new
  (wkR l1 l2 xs ys) ⟨hl1,hl2,?_⟩
 have a1:l1<s.heap.objs.size:=by obtain ⟨_,e,_⟩:=hl1;exact Heap.lt_size e
 have a2:l2<s.heap.objs.size:=by obtain ⟨_,e,_⟩:=hl2;exact Heap.lt_size e
 have z1:(ziP1 s.heap l1).objs.size=s.heap.objs.size+1:=Heap.size_push ..
 have z2:(ziP2 s.heap l1 l2).objs.size=s.heap.objs.size+2:=by rw [Heap.size_push,z1]
 have z3:(ziP3 s.heap l1 l2).objs.size=s.heap.objs.size+3:=by rw [Heap.size_push,z2]
 have z4:(ziP4 s.heap l1 l2).objs.size=s.heap.objs.size+4:=by rw [Heap.size_push,z3]
 have g5:(ziP5 s.heap l1 l2).get? (ziP4 s.heap l1 l2).objs.size=some _:=Heap.get?_push_size _ rfl
 have g4:(ziP5 s.heap l1 l2).get? (ziP3 s.heap l1 l2).objs.size=some _:=Heap.get?_push_of_some _ (Heap.get?_push_size _ rfl)
 have g3:(ziP5 s.heap l1 l2).get? (ziP2 s.heap l1 l2).objs.size=some _:=Heap.get?_push_of_some _ (Heap.get?_push_of_some _ (Heap.get?_push_size _ rfl))
 have g2:(ziP5 s.heap l1 l2).get? (ziP1 s.heap l1).objs.size=some _:=Heap.get?_push_of_some _ (Heap.get?_push_of_some _ (Heap.get?_push_of_some _ (Heap.get?_push_size _ rfl)))
 have g1:(ziP5 s.heap l1 l2).get? s.heap.objs.size=some _:=Heap.get?_push_of_some _ (Heap.get?_push_of_some _ (Heap.get?_push_of_some _ (Heap.get?_push_of_some _ (Heap.get?_push_size _ rfl))))
 have up:∀ c o,s.heap.get? c=some o->(ziP5 s.heap l1 l2).get? c=some o:=fun c o x=>
  Heap.get?_push_of_some _ (Heap.get?_push_of_some _ (Heap.get?_push_of_some _ (Heap.get?_push_of_some _ (Heap.get?_push_of_some _ x))))
 show _/\_
 rw [z2,z3,z4]at g5
 rw [z1,z2]at g3
 rw [z3]at g4
 rw [z1]at g2
 rw [z4]
 exact ⟨⟨_,g5,rfl⟩,h _ _ _ _ _ _ (zipApart_new a1 a2) ⟨g5,g3,⟨_,_,g4⟩,⟨_,g1,rfl,rfl⟩,⟨_,g2,rfl,rfl⟩,hl1.at fun o e=>up _ o e,hl2.at fun o e=>up _ o e⟩
  (Nat.le_add_right _ 4) (Nat.le_add_right _ 3) (Nat.le_refl _) (Nat.le_add_right _ 1) up⟩
end
structure StRel (C:Fr) (env:Env) (F:FH) (W B:Addr->Prop) (h:Heap) (ss:Scope) (q:QV):Prop where
 rel:RelR C env F h q
 wF:∀ b,W b->F b=none
 wIn:∀ b,W b->h.get? b≠none
 wL:W env.locals
 ns:∃ m,h.Ns env.locals m
 set:∀ x,canSet ss x=true->env.scope.names.lookup x=some .local\/(env.scope.names.lookup x=some .cell/\∃ c v,env.cells.lookup x=some c/\W c/\h.IsCell c v)
 cL:∀ x c,env.cells.lookup x=some c->c≠env.locals
 cB:∀ x c,env.cells.lookup x=some c->B c\/W c
 oB:Owns env h q B
 tW:¬ W (tabAt C)
 tB:B (tabAt C)
noncomputable def KeepBut (W:Addr->Prop) (h h':Heap):Prop:=∀ b o,¬ W b->h.get? b=some o->h'.get? b=some o
noncomputable def Place (env:Env) (a:Addr):Prop:=a=env.locals\/∃ x,env.cells.lookup x=some a
structure Chg (env:Env) (a₀:Addr) (h h':Heap):Prop where
 but:Heap.SameBut a₀ h h'
 ha:h'.get? a₀≠none
 pl:Place env a₀
 ns:∃ m,h'.Ns env.locals m
 cell:∀ y c u,env.cells.lookup y=some c->h.IsCell c u->∃ u',h'.IsCell c u'
section
variable {C:Fr} {F F':FH} {A:Around} {E:Value->Shared->Prop} {s:Shared} {d:D} {env:Env} {ss:Scope} {q:QV} {n:Nat} {W B:Addr->Prop} {h h':Heap} {a₀:Addr} {x:Str} {v:Value} {sl:Slot}
theorem Apart.ne {a:Addr} (p:Apart env a) (pl:Place env a₀):a≠a₀:=fun q=>by
 subst q
 rcases pl with e | ⟨y,e⟩
 ·exact p.1 e
 ·exact p.2 y _ e rfl
theorem StRel.ext {s s':Shared} (st:StRel C env F W B s.heap ss q) (x:Ext F s F' s'):StRel C env F' W B s'.heap ss q where
 rel:=st.rel.ext x
 wF b hb:=x.still (st.wF b hb) (st.wIn b hb)
 wIn b hb:=x.keep.alive (st.wIn b hb)
 wL:=st.wL
 ns:=by obtain ⟨m,e⟩:=st.ns;exact ⟨m,wo4 e x.keep⟩
 set y hy:=(st.set y hy).imp_right fun ⟨a,c,v,e,hw,hc⟩=>⟨a,c,v,e,hw,wmc hc x.keep⟩
 cL:=st.cL
 cB:=st.cB
 oB:=st.oB.mv (st.rel.stillX x) fun _=>id
 tW:=st.tW
 tB:=st.tB
theorem wf8 {b:Addr} (hs:Heap.SameBut a₀ h h') (ha:h'.get? a₀≠none) (e:h.get? b≠none):h'.get? b≠none:=by
 by_cases q:b=a₀
 ·rw [q];exact ha
 ·rw [hs.2 b q];exact e
theorem wrH {G:FH} (hs:Heap.SameBut a₀ h h') (i:G.In h) (f:G a₀=none):G.In h':=fun b o e=>by
 rw [hs.2 b fun q=>by rw [q,f]at e;exact noneE e];exact i b o e
theorem Chg.own (g:Chg env a₀ h h') (r:View C h F v d) (ap:∀ a∈tops h.get? v,Apart env a):View C h' F v d/\tops h'.get? v=tops h.get? v:=by
 have hk:∀ a∈tops h.get? v,∀ o,h.get? a=some o->h'.get? a=some o:=fun a hta o e=>by
  rw [g.but.2 a ((ap a hta).ne g.pl)];exact e
 exact ⟨Vw.gen (FH.le.refl F) d (fun b hb o e _=>hk b hb o e) r,wcL r hk⟩
structure Bnd (C:Fr) (env:Env) (F:FH) (a₀:Addr) (h h':Heap) (x:Str) (v:Value) (sl:Slot):Prop where
 g:Chg env a₀ h h'
 hx:Holds env h' x v
 ho:∀ y u,y≠x->Holds env h y u->Holds env h' y u
 ok:SlotOk C h F v sl
 ap:∀ d,sl=.own d->∀ a∈tops h.get? v,Apart env a
theorem Bnd.el {P:Prop} (b:Bnd C env F a₀ h h' x v sl) (r:RelR C env F h q) {y:Str} {d:D} {u:Value} (hl:lookq y (setq x sl q)=some (.own d)) (hv:isVar env.scope y=true) (hh:Holds env h' y u)
  (f:y=x->sl=.own d->u=v->tops h'.get? u=tops h.get? u->P) (f':y≠x->lookq y q=some (.own d)->Holds env h y u->tops h'.get? u=tops h.get? u->P):P:=
 setqE hl (fun e e'=>by
  subst e;subst e'
  have e:=hh.fn b.hx;subst e
  exact f rfl rfl rfl (b.g.own b.ok (b.ap d rfl)).2) fun hn hl=>by
  obtain ⟨u',h1,h2⟩:=r.vars hl hv
  have e:=hh.fn (b.ho y u' hn h1);subst e
  exact f' hn hl h1 (b.g.own h2 (r.own hl hv h1)).2
theorem StRel.step {q':QV} (st:StRel C env F W B h ss q) (hw:W a₀) (hs:Heap.SameBut a₀ h h') (ha:h'.get? a₀≠none) (ns:∃ m,h'.Ns env.locals m) (cell:∀ y c u,env.cells.lookup y=some c->h.IsCell c u->∃ u',h'.IsCell c u')
  (vars:∀ {y sl},lookq y q'=some sl->isVar env.scope y=true->∃ u,Holds env h' y u/\SlotOk C h' F u sl) (own:Owns env h' q' (Apart env)) (ow:Owns env h' q' B):StRel C env F W B h' ss q' where
 rel:={
  eo:=st.rel.eo
  inn:=wrH hs st.rel.inn (st.wF _ hw)
  vars:=vars
  cin:=fun e=>wf8 hs ha (st.rel.cin e)
  own:=own
  tab:=by
   obtain ⟨o,e,t⟩:=st.rel.tab
   exact ⟨o,by rw [hs.2 _ fun q=>st.tW (by rw [q];exact hw)];exact e,t⟩
  ftab:=st.rel.ftab
  code:=st.rel.code }
 wF:=st.wF
 wIn b' hb:=wf8 hs ha (st.wIn b' hb)
 wL:=st.wL
 ns:=ns
 set y hy:=(st.set y hy).imp_right fun ⟨a,c,u,e,hw,hc⟩=>by obtain ⟨u',hc'⟩:=cell y c u e hc;exact ⟨a,c,u',e,hw,hc'⟩
 cL:=st.cL
 cB:=st.cB
 oB:=ow
 tW:=st.tW
 tB:=st.tB
theorem StRel.bound (st:StRel C env F W B h ss q) (hw:W a₀) (b:Bnd C env F a₀ h h' x v sl) (ow:∀ d,sl=.own d->∀ a∈tops h.get? v,B a):StRel C env F W B h' ss (setq x sl q):=
 st.step hw b.g.but b.g.ha b.g.ns b.g.cell (fun {y sl'} hl hv=>setqE hl (fun e e'=>by
   subst e;subst e'
   refine ⟨v,b.hx,?_⟩
   cases sl with
   | fz d=>exact b.ok
   | own d=>exact (b.g.own b.ok (b.ap d rfl)).1) fun hn hl=>by
   obtain ⟨u,h1,h2⟩:=st.rel.vars hl hv
   refine ⟨u,b.ho y u hn h1,?_⟩
   cases sl' with
   | fz d=>exact h2
   | own d=>exact (b.g.own h2 (st.rel.own hl hv h1)).1) (fun y d u hl hv hh a ha=>b.el st.rel hl hv hh (fun _ e e2 e3=>b.ap d e a (e2 ▸ e3 ▸ ha)) fun _ hl hh e3=>st.rel.own hl hv hh a (e3 ▸ ha))
  fun y d u hl hv hh a ha=>b.el st.rel hl hv hh (fun _ e e2 e3=>ow d e a (e2 ▸ e3 ▸ ha)) fun _ hl hh e3=>st.oB hl hv hh a (e3 ▸ ha)
theorem wiO {Q:Unit->Shared->Prop} (st:StRel C env F W B s.heap ss q) (hx:canSet ss x=true)
  (k:∀ a₀ h' tk,W a₀->Chg env a₀ s.heap h'->Holds env h' x v->(∀ y u,y≠x->Holds env s.heap y u->Holds env h' y u)->Q () { s with heap:=h',toks:=tk }):wpAny (model C.prog C.w) A (bindName env x v) Q E s:=by
 have hk:=st.rel.eo.kind
 unfold bindName
 refine wpAny_bind (wpAny_holding (wpAny_point (wpAny_bind ?_)))
 obtain ⟨m,hn⟩:=st.ns
 rcases st.set x hx with hl | ⟨hl,c,vg,hc,hwc,hcell⟩
 ·refine wpAny_storeName_local hl hn (fun h' hn' hs=>wpAny_point (k env.locals h' _ st.wL ⟨hs,?_,.inl rfl,⟨_,hn'⟩,fun y c u e hc=>⟨u,hc.sameBut hs (st.cL y c e)⟩⟩ (.inl ⟨hl,_,hn',if_pos rfl⟩) fun y u hy hu=>?_)) (by rw [hk];rfl)
  ·obtain ⟨o,_,_,e,_⟩:=hn';rw [e];exact wav
  ·rcases hu with ⟨a,m2,n2,e2⟩ | ⟨a,c,e,hcc⟩
   ·exact .inl ⟨a,_,hn',(if_neg hy).trans ((wro hn n2 y).trans e2)⟩
   ·exact .inr ⟨a,c,e,hcc.sameBut hs (st.cL y c e)⟩
 ·refine wpAny_storeName_cell hk hl hc hcell fun h' hc' hs=>wpAny_point (k c h' s.toks hwc ⟨hs,?_,.inr ⟨x,hc⟩,⟨m,hn.sameBut hs (Ne.symm (st.cL x c hc))⟩,fun y c2 u e hcc=>?_⟩ (.inr ⟨.inl hl,c,hc,hc'⟩) fun y u hy hu=>?_)
  ·obtain ⟨o,e,_⟩:=hc';rw [e];exact wav
  ·by_cases q:c2=c
   ·subst q;exact ⟨_,hc'⟩
   ·exact ⟨u,hcc.sameBut hs q⟩
  ·rcases hu with ⟨a,m2,n2,e2⟩ | ⟨a,c2,e,hcc⟩
   ·exact .inl ⟨a,m2,n2.sameBut hs (Ne.symm (st.cL x c hc)),e2⟩
   ·exact .inr ⟨a,c2,e,hcc.sameBut hs (fun q=>hy (st.rel.eo.inj y x c2 e (q ▸ hc)))⟩
theorem wkh {W:Addr->Prop} (hw:W a₀) (hs:Heap.SameBut a₀ h h'):KeepBut W h h':=fun b o hb e=>hs.extBut b o (fun q=>hb (q ▸ hw)) e
theorem wsu {Q:Unit->Shared->Prop} (st:StRel C env F W B s.heap ss q) (hx:canSet ss x=true) (rv:Rep C F v d)
  (k:∀ s',KeepBut W s.heap s'.heap->Calm s s'->StRel C env F W B s'.heap ss (setq x (.fz d) q)->Q () s'):wpAny (model C.prog C.w) A (bindName env x v) Q E s:=
 wiO st hx fun a₀ h' tk hw g h1 h2=>k _ (wkh hw g.but) ⟨rfl,fun x=>x⟩ (st.bound (sl:=.fz d) hw ⟨g,h1,h2,rv,fun d e=>Slot.noConfusion e⟩ fun d e=>Slot.noConfusion e)
theorem bindNsE {P:Prop} {sc:Scope} {ts:List Expr} {ds:List D} {q q':QV} (h:bindNs sc ts ds q=some q') (f:ts=[]->ds=[]->q=q'->P)
  (g:∀ x p ts' d ds',ts=.Name x p::ts'->ds=d::ds'->canSet sc x=true->bindNs sc ts' ds' (setq x (.fz d) q)=some q'->P):P:=by
 cases ts with
 | nil=>cases ds with
  | nil=>exact f rfl rfl (Option.some.inj h)
  | cons=>exact noneE h
 | cons t ts=>cases ds with
  | nil=>exact noneE h
  | cons d ds=>
   obtain ⟨x,p,rfl,h⟩:=nameE h
   exact ifE h fun hx h=>g x p ts d ds rfl rfl hx h
theorem wi8 {sc:Scope} {ts:List Expr}:∀ {ds:List D} {q q':QV},bindNs sc ts ds q=some q'->(assignEach ts env).length=ds.length/\(assignEach ts env).findIdx? (·.1)=none:=by
 induction ts with
 | nil=>intro ds q q' h;exact bindNsE h (fun _ e _=>by subst e;exact ⟨rfl,rfl⟩) fun _ _ _ _ _ e=>consE e
 | cons t ts ih=>
  intro ds q q' h
  refine bindNsE h (fun e=>consE e.symm) fun x p ts' d ds' e1 e2 _ h2=>?_
  clear h
  cases e1;subst e2
  obtain ⟨h1,h2⟩:=ih h2
  have e:assignEach (.Name x p::ts) env=(false,assign (.Name x p) env)::assignEach ts env:=rfl
  rw [e]
  exact ⟨congrArg Nat.succ h1,by rw [List.findIdx?_cons,h2];rfl⟩
structure Bindr (C:Fr) (A:Around) (env:Env) (ss:Scope) (F:FH) (P:QV->Shared->Prop):Prop where
 one:∀ {x v d q s} {Q:Unit->Shared->Prop} {E:Value->Shared->Prop},P q s->canSet ss x=true->Rep C F v d->(∀ s',P (setq x (.fz d) q) s'->Q () s')->wpAny (model C.prog C.w) A (bindName env x v) Q E s
 ext:∀ {q s h'},P q s->Keep s.heap h'->P q { s with heap:=h' }
 inn:∀ {q s},P q s->F.In s.heap
theorem wrb (s₀:Shared):Bindr C A env ss F fun q s=>KeepBut W s₀.heap s.heap/\Calm s₀ s/\StRel C env F W B s.heap ss q where
 one p hx rv k:=wsu p.2.2 hx rv fun s' k' c' st'=>k s' ⟨fun b o hb e=>k' b o hb (p.1 b o hb e),p.2.1.trans c',st'⟩
 ext {q s h'} p kp:=⟨fun b o hb e=>kp b o (p.1 b o hb e),⟨p.2.1.os,p.2.1.gens⟩,p.2.2.ext (s':={ s with heap:=h' }) (Ext.same p.2.2.rel.inn kp)⟩
 inn p:=p.2.2.rel.inn
variable {P:QV->Shared->Prop}
theorem wpP (bi:Bindr C A env ss F P) {Q:Unit->Shared->Prop} (ts:List Expr):∀ {ds:List D} {vs:List Value} {q q':QV} {s:Shared},P q s->bindNs ss ts ds q=some q'->RepAll C F ds vs ->
  (∀ s',P q' s'->Q () s')->wpAny (model C.prog C.w) A (assignInOrder ((assignEach ts env).map (·.2)) vs) Q E s:=by
 induction ts with
 | nil=>
  intro ds vs q q' s st h r k
  exact bindNsE h (fun _ e e'=>by subst e;subst e';cases r;exact wpAny_pure (k s st)) fun _ _ _ _ _ e=>consE e
 | cons t ts ih=>
  intro ds vs q q' s st h r k
  refine bindNsE h (fun e=>consE e.symm) fun x p ts' d ds' e1 e2 hx h2=>?_
  clear h
  cases e1;subst e2
  cases r with | mk r1 r2=>
  show wpAny _ _ (holding _ (assign (.Name x p) env _) >>= fun _=>assignInOrder ((assignEach ts env).map (·.2)) _) _ _ _
  exact wpAny_bind (wpAny_holding (wpEq (arm_assign_Name ..) (wpAny_bind (wpAny_standAt (bi.one st hx r1 fun sa stb=>ih stb h2 r2 k)))))
theorem bindTE {P:Prop} {α:Type} {r:α} {ss:Scope} {t:Expr} {d:D} {q:QV} {k:QV->Option α} (h:bindTQ ss t d q k=some r) (f:∀ x p,t=.Name x p->canSet ss x=true->k (setq x (.fz d) q)=some r->P)
  (g:∀ ts n p ds q',t=.Tuple ts n p->d=.tuple ds->bindNs ss ts ds q=some q'->k q'=some r->P):P:=by
 cases t<;>first | exact noneE h | skip
 ·exact ifE h fun hx h=>f _ _ rfl hx h
 ·exact tupE h fun l e h=>bindE (wrk _ h) fun q' h1 h2=>g _ _ _ l q' rfl e h1 h2
theorem ItemRep.tup {ts:List Expr} {m:Nat} {p:Pos} {ds:List D} (r:ItemRep C F (.Tuple ts m p) h v (.tuple ds)) (i:F.In h):∃ T vals,v=.ref T/\h.IsTuple T vals/\RepAll C F ds vals.toList:=by
 rcases r with r | ⟨_,T,vals,xs,e1,e2,e3,e4⟩
 ·cases r with | mk e r=>exact ⟨_,_,rfl,wd9 (i _ _ e),r⟩
 ·cases e2;exact ⟨T,vals,e1,e3,e4⟩
noncomputable def Binds (ss:Scope) (t:Expr) (d:D) (q q':QV):Prop:=∀ ⦃α:Type⦄ ⦃k:QV->Option α⦄ ⦃r:α⦄,bindTQ ss t d q k=some r->k q'=some r
theorem wi6 (bi:Bindr C A env ss F P) {α:Type} {r:α} {t:Expr} {k:QV->Option α} {Q:Unit->Shared->Prop} (hh:A.handled=none) (st:P q s) (h:bindTQ ss t d q k=some r) (ri:ItemRep C F t s.heap v d)
  (kk:∀ q',Binds ss t d q q'->(∃ ts ds,bindNs ss ts ds q=some q')->∀ s',P q' s'->Q () s'):wpAny (model C.prog C.w) A (assign t env v) Q E s:=
 bindTE h (fun x p e hx h2=>by
  clear h
  subst e
  rcases ri with ri | ⟨z,_⟩
  ·exact wpEq (arm_assign_Name ..) (wpAny_bind (wpAny_standAt (bi.one st hx ri (kk _ (fun _ _ _ h=>ifE h fun _ h=>h) ⟨[.Name x p],[d],if_pos hx⟩))))
  ·exact ffE z) fun ts m p ds q' e1 e2 h1 h2=>by
  clear h
  subst e1;subst e2
  obtain ⟨T,vals,rfl,hT,hr⟩:=ri.tup (bi.inn st)
  obtain ⟨g1,g2⟩:=wi8 (env:=env) h1
  exact wpAny_assign_Tuple hh hT (by rw [g1,hr.size]) g2 fun h' hx=>
   wpP bi ts (s:={ s with heap:=h' }) (bi.ext st fun b o e=>hx b o (Nat.ne_of_lt (Heap.lt_size e)) e) h1 hr (kk _ (fun α k r h=>by have:=wrk _ h;rw [h1]at this;exact this) ⟨ts,ds,h1⟩)
noncomputable def QLe (q q':QV):Prop:=∀ ⦃x sl⦄,lookq x q=some sl->lookq x q'=some sl
theorem StRel.less {q':QV} (st:StRel C env F W B h ss q') (le:QLe q q'):StRel C env F W B h ss q:=
 { st with rel:={ st.rel with vars:=fun hl=>st.rel.vars (le hl),own:=fun _ _ _ hl=>st.rel.own (le hl) },oB:=fun _ _ _ hl=>st.oB (le hl) }
noncomputable def Blind (ss:Scope) (q:QV):Prop:=∀ ⦃x⦄,canSet ss x=true->lookq x q=none
theorem wpO (ss:Scope) (q:QV):Blind ss (visq ss q):=fun x hx=>by
 cases e:lookq x (visq ss q) with
 | none=>rfl
 | some sl=>exact wkr e fun h _=>by unfold canSet at hx;rw [h]at hx;exact ffE hx
theorem wpQ {q₀:QV} (bl:Blind ss q₀) (ts:List Expr):∀ {ds:List D} {q q':QV},QLe q₀ q->bindNs ss ts ds q=some q'->QLe q₀ q':=by
 induction ts with
 | nil=>intro ds q q' le h;exact bindNsE h (fun _ _ e=>e ▸ le) fun _ _ _ _ _ e=>consE e
 | cons t ts ih=>
  intro ds q q' le h
  refine bindNsE h (fun e=>consE e.symm) fun x p ts' d ds' e1 e2 hx h2=>?_
  cases e1
  refine ih (fun y sl hl=>?_) h2
  rw [wkq]
  rw [if_neg fun e=>by rw [<- eq_of_beq e,bl hx]at hl;exact noneE hl]
  exact le hl
theorem StRel.touch {P:Addr->Prop} (st:StRel C env F W B h ss q) (hk:∀ b o,¬ P b->h.get? b=some o->h'.get? b=some o)
  (h1:∀ b,P b->F b=none) (h2:∀ b,P b->¬ W b) (h3:∀ b,P b->¬ B b):StRel C env F W B h' ss q/\(∀ x v,Holds env h x v->Holds env h' x v)/\Still env h h' q q:=by
 have kW:∀ b o,W b->h.get? b=some o->h'.get? b=some o:=fun b o hw e=>hk b o (fun q=>h2 b q hw) e
 have kB:∀ b o,B b->h.get? b=some o->h'.get? b=some o:=fun b o hb e=>hk b o (fun q=>h3 b q hb) e
 have kC:∀ x c o,env.cells.lookup x=some c->h.get? c=some o->h'.get? c=some o:=fun x c o hc e=>(st.cB x c hc).elim (fun q=>kB c o q e) fun q=>kW c o q e
 have hold:∀ x v,Holds env h x v->Holds env h' x v:=by
  intro x v hh
  rcases hh with ⟨a,m,n,e⟩ | ⟨a,c,e,o,ho,hd⟩
  ·exact .inl ⟨a,m,n.at' fun o e=>kW _ o st.wL e,e⟩
  ·exact .inr ⟨a,c,e,o,kC x c o e ho,hd⟩
 have kt:∀ {x d v},lookq x q=some (.own d)->isVar env.scope x=true->Holds env h x v->∀ a∈tops h.get? v,∀ o,h.get? a=some o->¬ Tab0 o->h'.get? a=some o:=fun hl hv hh a ha o e _=>kB a o (st.oB hl hv hh a ha) e
 have z:=st.rel.still hold kt
 have al:∀ {b},(∀ o,h.get? b=some o->h'.get? b=some o)->h.get? b≠none->h'.get? b≠none:=fun {b} f e=>by
  cases q:h.get? b with
  | none=>exact absurd q e
  | some o=>rw [f o q];exact wav
 refine ⟨{
  rel:={
   eo:=st.rel.eo
   inn:=fun b o e=>hk b o (fun q=>by rw [h1 b q]at e;exact noneE e) (st.rel.inn b o e)
   vars:=fun {x sl} hl hv=>by
    obtain ⟨v,q1,q2⟩:=st.rel.vars hl hv
    refine ⟨v,hold x v q1,?_⟩
    cases sl with
    | fz d=>exact q2
    | own d=>exact Vw.gen (FH.le.refl F) d (kt hl hv q1) q2
   cin:=fun {x c} e=>al (fun o=>kC x c o e) (st.rel.cin e)
   own:=st.rel.own.mv z fun _=>id
   tab:=by obtain ⟨o,e,t⟩:=st.rel.tab;exact ⟨o,kB _ o st.tB e,t⟩
   ftab:=st.rel.ftab
   code:=st.rel.code }
  wF:=st.wF
  wIn:=fun b hb=>al (fun o=>kW b o hb) (st.wIn b hb)
  wL:=st.wL
  ns:=by obtain ⟨m,n⟩:=st.ns;exact ⟨m,n.at' fun o e=>kW _ o st.wL e⟩
  set:=fun y hy=>(st.set y hy).imp_right fun ⟨a,c,v,e,hw,o,ho,hd⟩=>⟨a,c,v,e,hw,o,kW c o hw ho,hd⟩
  cL:=st.cL
  cB:=st.cB
  oB:=st.oB.mv z fun _=>id
  tW:=st.tW
  tB:=st.tB },hold,z⟩
end
section
variable {C:Fr} {F F':FH} {A:Around} {E:Value->Shared->Prop} {s:Shared} {d:D} {env:Env} {q:QV} {n:Nat} {W B:Addr->Prop}
noncomputable def closL (env:Env):List (Str×NameKind)->List (Str×Addr)->List (Str×Addr)
 | [],acc=>acc
 | (x,k)::r,acc=>if k==.free then closL env r ((x,(env.cells.lookup x).getD 0)::acc) else closL env r acc
theorem why:∀ (names:List (Str×NameKind)) (acc:List (Str×Addr)),(∀ x k,(x,k)∈names->k=.free->∃ c,env.cells.lookup x=some c) ->
  (forIn names acc fun (p:Str×NameKind) (cs:List (Str×Addr))=>(if (p.2==.free)=true then (do let c <- cellOf env p.1;pure (ForInStep.yield ((p.1,c)::cs))) else pure (ForInStep.yield cs):Sem (ForInStep (List (Str×Addr)))))=pure (closL env names acc)
 | [],acc,_=>by rw [List.forIn_nil];rfl
 | (x,k)::r,acc,h=>by
  have hr:∀ y k',(y,k')∈r->k'=.free->∃ c,env.cells.lookup y=some c:=fun y k' hm hk=>h y k' (List.mem_cons_of_mem _ hm) hk
  rw [List.forIn_cons]
  by_cases q:(k==NameKind.free)=true
  ·obtain ⟨c,hc⟩:=h x k List.mem_cons_self (by simpa using q)
   rw [if_pos q]
   have e:cellOf env x=pure c:=by unfold cellOf;rw [hc]
   rw [e,pure_bind,pure_bind]
   show forIn r ((x,c)::acc) _=_
   rw [why r _ hr]
   simp only [closL,if_pos q,hc,Option.getD_some]
  ·rw [if_neg q,pure_bind]
   show forIn r acc _=_
   rw [why r _ hr]
   simp only [closL,if_neg q]
theorem wgn {scope:Scope} (h:∀ x k,(x,k)∈scope.names->k=.free->∃ c,env.cells.lookup x=some c):closureFor scope env=pure (closL env scope.names []):=by
 unfold closureFor
 have:=why scope.names [] h
 simp only [bind_pure]
 first | exact this | (simp only []at this ⊢;exact this)
theorem whz:∀ (names:List (Str×NameKind)) (acc:List (Str×Addr)),(∀ x k,(x,k)∈names->k=.free->∃ c,env.cells.lookup x=some c) ->
  (∀ p∈closL env names acc,p∈acc\/(env.cells.lookup p.1=some p.2/\(p.1,NameKind.free)∈names))/\(∀ p∈acc,p∈closL env names acc)/\(∀ x,(x,NameKind.free)∈names->∃ c,(x,c)∈closL env names acc/\env.cells.lookup x=some c)
 | [],acc,_=>⟨fun p hp=>.inl hp,fun p hp=>hp,fun x hx=>by simp at hx⟩
 | (x,k)::r,acc,h=>by
  have hr:∀ y k',(y,k')∈r->k'=.free->∃ c,env.cells.lookup y=some c:=fun y k' hm hk=>h y k' (List.mem_cons_of_mem _ hm) hk
  by_cases q:(k==NameKind.free)=true
  ·obtain ⟨c,hc⟩:=h x k List.mem_cons_self (by simpa using q)
   have qk:k=.free:=by simpa using q
   subst qk
   obtain ⟨h1,h2,h3⟩:=whz r ((x,c)::acc) hr
   have e:closL env ((x,NameKind.free)::r) acc=closL env r ((x,c)::acc):=by simp only [closL,if_pos q,hc,Option.getD_some]
   rw [e]
   refine ⟨fun p hp=>?_,fun p hp=>h2 p (List.mem_cons_of_mem _ hp),fun y hy=>?_⟩
   ·rcases h1 p hp with h1 | h1
    ·rcases List.mem_cons.mp h1 with rfl | h1
     ·exact .inr ⟨hc,List.mem_cons_self⟩
     ·exact .inl h1
    ·exact .inr ⟨h1.1,List.mem_cons_of_mem _ h1.2⟩
   ·rcases List.mem_cons.mp hy with e | hy
    ·cases e;exact ⟨c,h2 _ List.mem_cons_self,hc⟩
    ·exact h3 y hy
  ·obtain ⟨h1,h2,h3⟩:=whz r acc hr
   have e:closL env ((x,k)::r) acc=closL env r acc:=by simp only [closL,if_neg q]
   rw [e]
   refine ⟨fun p hp=>(h1 p hp).elim .inl fun h=>.inr ⟨h.1,List.mem_cons_of_mem _ h.2⟩,h2,fun y hy=>?_⟩
   rcases List.mem_cons.mp hy with e | hy
   ·cases e;simp at q
   ·exact h3 y hy
theorem wdE:∀ (names:List (Str×NameKind)) (acc:List (Str×Addr)),(closL env names acc).map (·.1)=((names.filter fun p=>p.2==.free).map (·.1)).reverse++acc.map (·.1)
 | [],acc=>by simp [closL]
 | (x,k)::r,acc=>by
  by_cases q:(k==NameKind.free)=true
  ·simp only [closL,if_pos q,wdE r,List.filter_cons,List.map_cons,List.reverse_cons]
   simp
  ·simp only [closL,if_neg q,wdE r,List.filter_cons,if_false]
theorem wcb:∀ (names:List (Str×NameKind)) (nn:Nat) (acc:List (Str×Addr)),(cellsFrom nn names acc).map (·.1)=((names.filter fun p=>p.2==.cell).map (·.1)).reverse++acc.map (·.1)
 | [],nn,acc=>by simp [cellsFrom]
 | (x,k)::r,nn,acc=>by
  by_cases q:(k==NameKind.cell)=true
  ·simp only [cellsFrom,if_pos q,wcb r,List.filter_cons,List.map_cons,List.reverse_cons]
   simp
  ·simp only [cellsFrom,if_neg q,wcb r,List.filter_cons,if_false]
structure CellsF (h h':Heap) (names:List (Str×NameKind)) (acc cs:List (Str×Addr)):Prop where
 apart:cs.Pairwise fun x y=>x.2≠y.2
 inn:∀ p∈cs,h'.get? p.2≠none
 from':∀ p∈cs,p∈acc\/(h.objs.size<=p.2/\h'.IsCell p.2 none/\(p.1,NameKind.cell)∈names)
 all:∀ p∈acc,p∈cs
 own:∀ x,(x,NameKind.cell)∈names->∃ c,(x,c)∈cs/\h.objs.size<=c/\h'.IsCell c none
theorem weS:∀ (names:List (Str×NameKind)) (h:Heap) (acc:List (Str×Addr)),(acc.Pairwise fun x y=>x.2≠y.2)->(∀ p∈acc,h.get? p.2≠none) ->
  CellsF h (pushCells h names) names acc (cellsFrom h.objs.size names acc)
 | [],h,acc,ha,hi=>⟨ha,hi,fun p hp=>.inl hp,fun p hp=>hp,fun x hx=>by simp at hx⟩
 | (x,k)::r,h,acc,ha,hi=>by
  by_cases q:(k==NameKind.cell)=true
  ·have qk:k=.cell:=by simpa using q
   subst qk
   have lt:∀ p∈acc,p.2<h.objs.size:=fun p hp=>by
    cases e:h.get? p.2 with
    | none=>exact absurd e (hi p hp)
    | some o=>exact Heap.lt_size e
   have hk:Keep h (h.push { cls:=.type "cell",data:=.cell none }):=Keep.push _ _
   have ih:=weS r (h.push { cls:=.type "cell",data:=.cell none }) ((x,h.objs.size)::acc)
    (List.pairwise_cons.mpr ⟨fun y hy=>Ne.symm (Nat.ne_of_lt (lt y hy)),ha⟩) (fun p hp=>by
     rcases List.mem_cons.mp hp with rfl | hp
     ·rw [Heap.get?_push_size _ rfl];simp
     ·cases e:h.get? p.2 with
      | none=>exact absurd e (hi p hp)
      | some o=>rw [hk _ _ e];simp)
   rw [Heap.size_push]at ih
   have e1:pushCells h ((x,NameKind.cell)::r)=pushCells (h.push { cls:=.type "cell",data:=.cell none }) r:=by simp [pushCells]
   have e2:cellsFrom h.objs.size ((x,NameKind.cell)::r) acc=cellsFrom (h.objs.size+1) r ((x,h.objs.size)::acc):=by simp [cellsFrom]
   rw [e1,e2]
   have hc:(pushCells (h.push { cls:=.type "cell",data:=.cell none }) r).IsCell h.objs.size none:=⟨_,pushCells_keeps r _ _ _ (Heap.get?_push_size _ rfl),rfl⟩
   refine ⟨ih.apart,ih.inn,fun p hp=>?_,fun p hp=>ih.all p (List.mem_cons_of_mem _ hp),fun y hy=>?_⟩
   ·rcases ih.from' p hp with h1 | ⟨h1,h2,h3⟩
    ·rcases List.mem_cons.mp h1 with rfl | h1
     ·exact .inr ⟨Nat.le_refl _,hc,List.mem_cons_self⟩
     ·exact .inl h1
    ·rw [Heap.size_push]at h1
     exact .inr ⟨Nat.le_of_succ_le h1,h2,List.mem_cons_of_mem _ h3⟩
   ·rcases List.mem_cons.mp hy with e | hy
    ·cases e;exact ⟨_,ih.all _ List.mem_cons_self,Nat.le_refl _,hc⟩
    ·obtain ⟨c,c1,c2,c3⟩:=ih.own y hy
     rw [Heap.size_push]at c2
     exact ⟨c,c1,Nat.le_of_succ_le c2,c3⟩
  ·have ih:=weS r h acc ha hi
   have e1:pushCells h ((x,k)::r)=pushCells h r:=by simp only [pushCells,if_neg q]
   have e2:cellsFrom h.objs.size ((x,k)::r) acc=cellsFrom h.objs.size r acc:=by simp only [cellsFrom,if_neg q]
   rw [e1,e2]
   refine ⟨ih.apart,ih.inn,fun p hp=>(ih.from' p hp).elim .inl fun h=>.inr ⟨h.1,h.2.1,List.mem_cons_of_mem _ h.2.2⟩,ih.all,fun y hy=>?_⟩
   rcases List.mem_cons.mp hy with e | hy
   ·cases e;simp at q
   ·exact ih.own y hy
theorem wbx {β:Type}:∀ {l:List (Str×β)} {x:Str} {b:β},(l.map (·.1)).Nodup->(x,b)∈l->l.lookup x=some b
 | (y,c)::r,x,b,hn,hm=>by
  rw [List.map_cons,List.nodup_cons]at hn
  rcases List.mem_cons.mp hm with e | hm
  ·cases e;simp
  ·have:x≠y:=fun q=>hn.1 (List.mem_map.mpr ⟨_,hm,q⟩)
   rw [List.lookup_cons,show (x==y)=false by simpa using this]
   exact wbx hn.2 hm
theorem mem_lookup {β:Type}:∀ {l:List (Str×β)} {x:Str} {b:β},l.lookup x=some b->(x,b)∈l
 | (y,c)::r,x,b,h=>by
  rw [List.lookup_cons]at h
  by_cases q:(x==y)=true
  ·simp only [q,Option.some.injEq]at h;rw [<- h,eq_of_beq q];exact List.mem_cons_self
  ·simp only [q]at h;exact List.mem_cons_of_mem _ (mem_lookup h)
theorem wms {β:Type} {l:List (Str×β)} (hn:(l.map (·.1)).Nodup) {x:Str} {b c:β} (h1:(x,b)∈l) (h2:(x,c)∈l):b=c:=by
 have:=wbx hn h1;rw [wbx hn h2]at this;exact (Option.some.inj this).symm
theorem wq2 {names:List (Str×NameKind)} (hn:(names.map (·.1)).Nodup) (nn:Nat):((cellsFrom nn names (closL env names [])).map (·.1)).Nodup:=by
 rw [wcb,wdE]
 have sub:∀ p:Str×NameKind->Bool,((names.filter p).map (·.1)).Nodup:=fun p=>hn.sublist (List.filter_sublist.map _)
 rw [List.map_nil,List.append_nil]
 have rev:∀ l:List Str,l.Nodup->l.reverse.Nodup:=fun l h=>(List.reverse_perm l).symm.nodup_iff.mp h
 refine List.nodup_append.mpr ⟨rev _ (sub _),rev _ (sub _),fun a ha b hb q=>?_⟩
 subst q
 rw [List.mem_reverse,List.mem_map]at ha hb
 obtain ⟨⟨x,k⟩,h1,rfl⟩:=ha
 obtain ⟨⟨y,k'⟩,h2,e⟩:=hb
 dsimp only at e;subst e
 rw [List.mem_filter]at h1 h2
 have:=wms hn h1.1 h2.1
 subst this
 have e1:k=.cell:=by simpa using h1.2
 have e2:k=.free:=by simpa using h2.2
 rw [e1]at e2;cases e2
theorem wcU {scope sc:Scope} {x:Str}:(relab scope sc).names.lookup x=(scope.names.lookup x).map fun k=>if (k==.free&&sc.kind==.function&&sc.names.lookup x==some .cell) then .cell else k:=by
 have key:∀ l:List (Str×NameKind),(l.map fun p=>if (p.2==NameKind.free&&sc.kind==ScopeKind.function&&sc.names.lookup p.1==some NameKind.cell) then (p.1,NameKind.cell) else (p.1,p.2)).lookup x =
   (l.lookup x).map fun k=>if (k==NameKind.free&&sc.kind==ScopeKind.function&&sc.names.lookup x==some NameKind.cell) then NameKind.cell else k:=by
  intro l
  induction l with
  | nil=>rfl
  | cons p l ih=>
   obtain ⟨y,k⟩:=p
   rw [List.map_cons]
   by_cases q:(x==y)=true
   ·have e:x=y:=eq_of_beq q
    subst e
    by_cases h:(k==NameKind.free&&sc.kind==ScopeKind.function&&sc.names.lookup x==some NameKind.cell)=true
    ·rw [if_pos h,List.lookup_cons,List.lookup_cons,q]
     show some NameKind.cell=some (if _ then _ else _)
     rw [if_pos h]
    ·rw [if_neg h,List.lookup_cons,List.lookup_cons,q]
     show some k=some (if _ then _ else _)
     rw [if_neg h]
   ·have hq:(x==y)=false:=by simpa using q
    by_cases h:(k==NameKind.free&&sc.kind==ScopeKind.function&&sc.names.lookup y==some NameKind.cell)=true
    ·rw [if_pos h,List.lookup_cons,List.lookup_cons,hq];exact ih
    ·rw [if_neg h,List.lookup_cons,List.lookup_cons,hq];exact ih
 exact key scope.names
structure ScOk (scope sc:Scope):Prop where
 kind:scope.kind=.function
 nodup:(scope.names.map (·.1)).Nodup
 free:∀ x,(x,NameKind.free)∈scope.names->sc.names.lookup x=some .cell\/sc.names.lookup x=some .free
 gk:scope.names.lookup gk≠some .local
theorem wew:∀ {xs:List Str},nodupB xs=true->xs.Nodup
 | [],_=>List.nodup_nil
 | x::xs,h=>by
  simp only [nodupB,Bool.and_eq_true,Bool.not_eq_true']at h
  refine List.nodup_cons.mpr ⟨fun q=>?_,wew h.2⟩
  have:=List.contains_iff_mem.mpr q
  rw [h.1]at this;cases this
theorem wmF {scope sc:Scope} (h:scOk scope sc=true):ScOk scope sc where
 kind:=by
  simp only [scOk,Bool.and_eq_true]at h
  exact eq_of_beq h.1.1.1
 nodup:=by
  simp only [scOk,Bool.and_eq_true]at h
  exact wew h.1.1.2
 free:=fun x hx=>by
  simp only [scOk,Bool.and_eq_true,List.all_eq_true]at h
  have:=h.1.2 _ hx
  simp only [bne_self_eq_false,Bool.false_or,Bool.or_eq_true]at this
  exact this.imp eq_of_beq eq_of_beq
 gk:=by
  simp only [scOk,Bool.and_eq_true]at h
  intro q
  rw [q]at h
  exact absurd h.2 (by decide)
theorem ScOk.hnm {scope sc:Scope} (ok:ScOk scope sc):∀ x∈scope.names,x.2=.local->scope.names.lookup x.1=some .local:=fun x hx hl=>by
 have:=wbx (x:=x.1) (b:=x.2) ok.nodup hx
 rw [this,hl]
end
section
variable {C:Fr} {F F':FH} {A:Around} {E:Value->Shared->Prop} {s:Shared} {d:D} {env:Env} {q:QV} {n:Nat} {W B:Addr->Prop}
theorem relabE {P:Prop} {scope sc:Scope} {x:Str} (h:(relab scope sc).names.lookup x=some .cell\/(relab scope sc).names.lookup x=some .free) (f:scope.names.lookup x=some .cell->P) (g:scope.names.lookup x=some .free->P):P:=by
 rw [wcU]at h
 cases q:scope.names.lookup x with
 | none=>rw [q]at h;exact h.elim noneE noneE
 | some k=>
  rw [q]at h
  cases k with
  | cell=>exact f q
  | free=>exact g q
  | _=>exact h.elim (fun e=>absurd (Option.some.inj e) (by intro e;cases e)) fun e=>absurd (Option.some.inj e) (by intro e;cases e)
theorem wmn {scope sc:Scope} {x:Str} (h:(relab scope sc).names.lookup x=some .local):scope.names.lookup x=some .local:=by
 rw [wcU]at h
 cases q:scope.names.lookup x with
 | none=>rw [q]at h;exact noneE h
 | some k=>
  rw [q]at h
  have h:(if (k==.free&&sc.kind==.function&&sc.names.lookup x==some .cell)=true then NameKind.cell else k)=.local:=Option.some.inj h
  split at h
  ·cases h
  ·rw [h]
structure BlkC (scope:Scope) (env:Env) (h h':Heap) (L:Addr) (cs:List (Str×Addr)):Prop where
 inj:∀ x y c,cs.lookup x=some c->cs.lookup y=some c->x=y
 cin:∀ {x c},cs.lookup x=some c->h'.get? c≠none
 from':∀ {x c},cs.lookup x=some c->env.cells.lookup x=some c\/(h.get? c=none/\c≠L)
 own:∀ x,scope.names.lookup x=some .cell->∃ c,cs.lookup x=some c/\(h.get? c=none/\c≠L)/\h'.IsCell c none
 free:∀ x,scope.names.lookup x=some .free->∃ c,cs.lookup x=some c/\env.cells.lookup x=some c
theorem wst {scope:Scope} (ok:ScOk scope env.scope) (rl:RelR C env F s.heap q) {F₀:FH} {hH h':Heap} (rl0:RelR C env F₀ hH q) (k₀:KeepT hH s.heap) {cenv:Env} (kk:Keep s.heap h') (hC:s.heap.get? cenv.locals=none) (inC:h'.get? cenv.locals≠none) (nsC:∃ m,h'.Ns cenv.locals m)
  (b:BlkC scope env s.heap h' cenv.locals cenv.cells) (hsc:cenv.scope=relab scope env.scope) (hg:cenv.globals=env.globals) (hb:cenv.builtins=env.builtins):StRel C cenv F (fun b=>s.heap.get? b=none/\h'.get? b≠none) (fun b=>hH.get? b≠none) h' scope (visq scope q):=by
 have cfree:∀ x,scope.names.lookup x=some .free->cenv.scope.names.lookup x=some .cell\/cenv.scope.names.lookup x=some .free:=fun x hx=>by
  rw [hsc,wcU,hx]
  by_cases q:(NameKind.free==.free&&env.scope.kind==.function&&env.scope.names.lookup x==some .cell)=true
  ·exact .inl (congrArg some (if_pos q))
  ·exact .inr (congrArg some (if_neg q))
 have holds:∀ x v,scope.names.lookup x=some .free->Holds env s.heap x v->Holds cenv h' x v:=fun x v hx hh=>by
  obtain ⟨c,h1,h2⟩:=b.free x hx
  rcases hh with ⟨a,_⟩ | ⟨_,c',e,o,ho,hd⟩
  ·exact (wiW a (ok.free x (mem_lookup hx))).elim
  ·have e:=Option.some.inj (h2.symm.trans e);subst e
   exact .inr ⟨cfree x hx,c,h1,o,kk _ _ ho,hd⟩
 have outer:∀ {P:Prop} {x sl},lookq x (visq scope q)=some sl->isVar cenv.scope x=true->(∀ v,Holds env s.heap x v->SlotOk C s.heap F v sl->scope.names.lookup x=some .free->lookq x q=some sl->isVar env.scope x=true->P)->P:=fun hl hv f=>wkr hl fun h1 h2=>by
  have hv':=woc (wdB hv).1 (wdB hv).2 (ok.free _ (mem_lookup h1))
  obtain ⟨v,h3,h4⟩:=rl.vars h2 hv'
  exact f v h3 h4 h1 h2 hv'
 have inner:∀ {P:Prop} {x d v},lookq x (visq scope q)=some (.own d)->isVar cenv.scope x=true->Holds cenv h' x v->(Holds env s.heap x v->View C s.heap F v d->lookq x q=some (.own d)->isVar env.scope x=true->tops h'.get? v=tops s.heap.get? v->P)->P:=fun hl hv hh f=>outer hl hv fun v' h1 h2 h3 h4 h5=>by
  have e:=hh.fn (holds _ v' h3 h1);subst e
  exact f h1 h2 h4 h5 (wcL h2 fun a _ o e=>kk a o e)
 exact {
  rel:={
   eo:=⟨by rw [hsc];exact ok.kind,hg.trans rl.eo.glob,hb.trans rl.eo.bi,fun x hx=>by
    rw [hsc]at hx
    exact relabE hx (fun h=>let ⟨c,h1,_⟩:=b.own x h;⟨c,h1⟩) fun h=>let ⟨c,h1,_⟩:=b.free x h;⟨c,h1⟩,b.inj⟩
   inn:=fun b o e=>kk b o (rl.inn b o e)
   vars:=fun {x sl} hl hv=>outer hl hv fun v h1 h2 h3 _ _=>⟨v,holds x v h3 h1,by
    cases sl with
    | fz d=>exact h2
    | own d=>exact Vw.mono h2 kk (FH.le.refl F)⟩
   cin:=b.cin
   own:=fun x d v hl hv hh a ha=>inner hl hv hh fun h1 h2 h3 h4 h5=>by
    have hex:=Vw.alive h2 (h5 ▸ ha)
    refine ⟨fun q=>hex (q ▸ hC),fun y c hy=>?_⟩
    rcases b.from' hy with h | h
    ·exact (rl.own h3 h4 h1 a (h5 ▸ ha)).2 y c h
    ·intro q;exact hex (q ▸ h.1)
   tab:=by obtain ⟨o,e,t⟩:=rl.tab;exact ⟨o,kk _ _ e,t⟩
   ftab:=rl.ftab
   code:=fun z=>absurd (wmn (hsc ▸ z)) ok.gk }
  wF:=fun b hb=>noneF rl.inn hb.1
  wIn:=fun b hb=>hb.2
  wL:=⟨hC,inC⟩
  ns:=nsC
  set:=fun x hx=>by
   unfold canSet at hx
   rw [hsc,wcU]
   cases q:scope.names.lookup x with
   | none=>rw [q]at hx;exact ffE hx
   | some kx=>
    rw [q]at hx
    cases kx with
    | «local»=>exact .inl rfl
    | cell=>obtain ⟨c,h1,h2,h3⟩:=b.own x q;exact .inr ⟨rfl,c,none,h1,⟨h2.1,b.cin h1⟩,h3⟩
    | _=>exact ffE hx
  cL:=fun x c hx=>(b.from' hx).elim (fun h q=>rl.cin h (q ▸ hC)) fun h=>h.2
  cB:=fun x c hx=>(b.from' hx).elim (fun h=>.inl (rl0.cin h)) fun h=>.inr ⟨h.1,b.cin hx⟩
  oB:=fun x d v hl hv hh a ha=>inner hl hv hh fun h1 h2 h3 h4 h5=>by
   obtain ⟨vg,g1,g2⟩:=rl0.vars h3 h4
   have e:=h1.fn (g1.keep k₀);subst e
   have g2':View C hH F₀ v d:=g2
   rw [h5,wf6 g2' fun a _ o e n=>k₀.at_ a o e n]at ha
   exact Vw.alive g2' ha
  tW:=fun q=>by obtain ⟨o,e,_⟩:=rl.tab;exact noneE (q.1.symm.trans e)
  tB:=by obtain ⟨o,e,_⟩:=rl0.tab;rw [e];exact wav }
theorem wmv {scope:Scope} {Q:Env->Shared->Prop} (ok:ScOk scope env.scope) (rl:RelR C env F s.heap q) {F₀:FH} {hH:Heap} (rl0:RelR C env F₀ hH q) (k₀:KeepT hH s.heap)
  (k:∀ cenv s',Keep s.heap s'.heap->Calm s s'->s.heap.get? cenv.locals=none->StRel C { cenv with scope:=relab scope env.scope } F (fun b=>s.heap.get? b=none/\s'.heap.get? b≠none) (fun b=>hH.get? b≠none) s'.heap scope (visq scope q)->Q cenv s') :
  wpAny (model C.prog C.w) A (newFunctionEnv scope env.globals (closL env scope.names []) [] env.qual none .none (some env)) Q E s:=by
 have hfree:∀ x k,(x,k)∈scope.names->k=.free->∃ c,env.cells.lookup x=some c:=fun x k hm hk=>rl.eo.cells x (ok.free x (hk ▸ hm))
 obtain ⟨c1,c2,c3⟩:=whz (env:=env) scope.names [] hfree
 have c1':∀ p∈closL env scope.names [],env.cells.lookup p.1=some p.2:=fun p hp=>(c1 p hp).elim (fun h=>memE h) fun h=>h.1
 simp only [newFunctionEnv,Option.isSome_some,if_true]
 refine wpAny_bind (wpAny_alloc (wpAny_bind (wpAny_layCells _ (fun name kind cells=>by cases hkc:kind==NameKind.cell<;>simp [hkc]) _ _ _ _ ?_)))
 simp only [List.forIn_nil]
 refine wpAny_bind (wpAny_pure (wpAny_pure ?_))
 have kp:Keep s.heap (s.heap.push { cls:=.type "dict",data:=.dict #[] }):=Keep.push _ _
 have kp2:Keep (s.heap.push { cls:=.type "dict",data:=.dict #[] }) (pushCells (s.heap.push { cls:=.type "dict",data:=.dict #[] }) scope.names):=fun b o e=>pushCells_keeps _ _ b o e
 refine k _ _ (kp.trans kp2) ⟨rfl,fun x=>x⟩ (get?_size _) (wst ok rl rl0 k₀ (kp.trans kp2) (get?_size _) (by show Heap.get? _ s.heap.objs.size≠none;rw [kp2 _ _ (Heap.get?_push_size _ rfl)];exact wav) ⟨_,(Heap.Ns.new s.heap (.type "dict")).keeps (pushCells_keeps _ _)⟩ ?_ rfl rfl rfl)
 have hapart:(closL env scope.names []).Pairwise fun x y=>x.2≠y.2:=by
  have hnd:((closL env scope.names []).map (·.1)).Nodup:=by
   rw [wdE,List.map_nil,List.append_nil]
   exact (List.reverse_perm _).symm.nodup_iff.mp (ok.nodup.sublist (List.filter_sublist.map _))
  revert hnd c1'
  generalize closL env scope.names []=l
  intro c1' hnd
  clear c1 c2 c3 k k₀ rl0 kp kp2
  induction l with
  | nil=>exact .nil
  | cons p l ih=>
   rw [List.map_cons,List.nodup_cons]at hnd
   exact .cons (fun q hq e=>hnd.1 (List.mem_map.mpr ⟨q,hq,(rl.eo.inj _ _ _ (c1' p List.mem_cons_self) (e ▸ c1' q (List.mem_cons_of_mem _ hq))).symm⟩)) (ih (fun q hq=>c1' q (List.mem_cons_of_mem _ hq)) hnd.2)
 have CF:=weS scope.names (s.heap.push { cls:=.type "dict",data:=.dict #[] }) (closL env scope.names []) hapart (fun p hp=>by
  cases e:s.heap.get? p.2 with
  | none=>exact absurd e (rl.cin (c1' p hp))
  | some o=>rw [kp _ _ e];exact wav)
 have hcsn:=wq2 (env:=env) ok.nodup (s.heap.push { cls:=.type "dict",data:=.dict #[] }).objs.size
 have fresh:∀ c,(s.heap.push { cls:=.type "dict",data:=.dict #[] }).objs.size<=c->s.heap.get? c=none/\c≠s.heap.objs.size:=fun c hc=>by
  rw [Heap.size_push]at hc
  exact ⟨Heap.get?_none_of_le (Nat.le_of_succ_le hc),Nat.ne_of_gt hc⟩
 exact ⟨fun x y c h1 h2=>name_of_addr CF.apart (mem_lookup h1) (mem_lookup h2),fun h1=>CF.inn _ (mem_lookup h1),fun h1=>(CF.from' _ (mem_lookup h1)).imp (fun h=>c1' _ h) fun h=>fresh _ h.1,
  fun x hx=>let ⟨c,h1,h2,h3⟩:=CF.own x (mem_lookup hx);⟨c,wbx hcsn h1,fresh c h2,h3⟩,fun x hx=>let ⟨c,h1,h2⟩:=c3 x (mem_lookup hx);⟨c,wbx hcsn (CF.all _ h1),h2⟩⟩
end
section
variable {C:Fr} {F F':FH} {A:Around} {E:Value->Shared->Prop} {s:Shared} {d:D} {env:Env} {ss:Scope} {q:QV} {n:Nat} {W B:Addr->Prop} {K:KJ}
theorem wml {Q:Bool->Shared->Prop} (ifs:List Expr) (h:Q false s) :
  wpAny (model C.prog C.w) A (forIn ifs false fun c r=>if r=true then do let ok <- isTrue c env (eval c env);pure (ForInStep.yield ok) else pure (ForInStep.yield r)) Q E s:=by
 induction ifs with
 | nil=>rw [List.forIn_nil];exact wpAny_pure h
 | cons c cs ih=>
  rw [List.forIn_cons]
  exact wpAny_bind (wpAny_pure ih)
theorem wp5 (S:SoundTr C n K.tr) {Q:Bool->Shared->Prop} (ifs:List Expr):∀ {b:Bool} {F:FH} {s:Shared},Ok C A n env q F s->trAllQ K env.scope q ifs=some b->(∀ s' F',Ext F s F' s'->Q b s') ->
  wpAny (model C.prog C.w) A (forIn ifs true fun c r=>if r=true then do let ok <- isTrue c env (eval c env);pure (ForInStep.yield ok) else pure (ForInStep.yield r)) Q E s:=by
 induction ifs with
 | nil=>intro b F s X h k;cases h;rw [List.forIn_nil];exact wpAny_pure (k s F X.here)
 | cons c cs ih=>
  intro b F s X h k
  rw [List.forIn_cons]
  refine wpAny_bind (wpAny_bind (S X h fun x h sa F1 xa=>wpAny_pure ?_))
  cases x with
  | true=>exact ih (X.ext xa) h fun s' F' y=>k s' F' (xa.trans y)
  | false=>cases h;exact wml cs (k sa F1 xa)
structure Gather (C:Fr) (D1:Addr) {β:Type} (Acc:FH->Heap->β->Prop):Prop where
 ext:∀ {F F' s s' a},Acc F s.heap a->Ext F s F' s'->Acc F' s'.heap a
 at_:∀ {F h h' a},Acc F h a->(∀ o,h.get? D1=some o->h'.get? D1=some o)->Acc F h' a
 inn:∀ {F h a},Acc F h a->h.get? D1≠none
structure Grd (C:Fr) (env:Env) (W B:Addr->Prop) (F₀ Fb:FH) (s₀:Shared) (wr:List Addr) (D1:Addr) (F:FH) (s:Shared):Prop where
 le:F₀.le F
 x:Ext Fb s₀ F s
 wF:∀ b∈wr,F b=none
 dF:F D1=none
noncomputable def StepOk (C:Fr) (A:Around) (env:Env) (W B:Addr->Prop) (ss:Scope) (t:Expr) (q₀:QV) (D1:Addr) (Fb:FH) (s₀:Shared) {β:Type} (Acc:FH->Heap->β->Prop) (step:Sem Unit) (d:D) (a a':β):Prop:=
 ∀ ⦃q':QV⦄ ⦃F:FH⦄ ⦃s:Shared⦄ ⦃Q:Unit->Shared->Prop⦄ ⦃E:Value->Shared->Prop⦄,Binds ss t d q₀ q'->StRel C env F W B s.heap ss q'->Ext Fb s₀ F s->F D1=none->Acc F s.heap a ->
  (∀ sa F1 h tk,Ext F s F1 sa->F1 D1=none->Heap.SameBut D1 sa.heap h->Acc F1 h a'->Q () { sa with heap:=h,toks:=tk })->wpAny (model C.prog C.w) A step Q E s
theorem wpC {ce tgt iter:Expr} {ifs:List Expr} {I D1:Addr} {fp wr:List Addr} {P Md:Nat->Value->Heap->Prop} {St:Nat->Heap->Prop} {ds:List D} {F₀ Fb:FH} {s₀:Shared} {Src:Addr->Prop} {R:Result->Shared->Prop} {hJ:Heap} {q₀:QV} {β:Type} {Acc:FH->Heap->β->Prop} {step:Sem Unit}
  (hT:compTurn ce 0 (.ref I) (.ref D1) env=(do
   standAt iter.pos
   match <- pyNext (.ref I) with
   | none=>pure (.done .next)
   | some v=>
    letOwnedTupleGo tgt (.ref I) v
    assign tgt env v
    let mut ok:=true
    for c in ifs do
     if ok then ok <- isTrue c env (eval c env)
    if ok then step
    again (.compLoop ce 0 (.ref I) (.ref D1) env)))
  (hC:∀ s,wpAny (model C.prog C.w) A ((compTurn ce 0 (.ref I) (.ref D1) env).onRaise (fun x=>do noteFrame x env;theTreesLotGoes x)) (fun fin s'=>match fin with | .done f=>R (.ok f) s' | .again c'=>c'.quiet=true/\codeAny (model C.prog C.w) A c' R s') (fun e s'=>R (.error e) s') s ->
   codeAny (model C.prog C.w) A (.compLoop ce 0 (.ref I) (.ref D1) env) R s)
  (Str:SoundTr C n K.tr) (Rm:Room A n) (g:Gd C Fb) (G:Gather C D1 Acc) (T:Turns C Src F₀ s₀.heap tgt I ds hJ fp wr P Md St)
  (hfW:∀ b∈fp,¬ W b) (hDf:D1 ∉ fp) (hD0:s₀.heap.get? D1=none) (hDW:¬ W D1) (hB:∀ b,B b->s₀.heap.get? b≠none) (hW0:∀ b,W b->s₀.heap.get? b=none) (bl:Blind ss q₀)
  {run:List D->β->Option β} (r0:∀ {a a'},run [] a=some a'->a=a')
  (rs:∀ {d ds a res},run (d::ds) a=some res->∃ b,(bindTQ ss tgt d q₀ fun q'=>trAllQ K env.scope q' ifs)=some b/\(b=false/\run ds a=some res\/b=true/\∃ a',StepOk C A env W B ss tgt q₀ D1 Fb s₀ Acc step d a a'/\run ds a'=some res)) {res:β}
  (hR:∀ s' F',Ext Fb s₀ F' s'->F' D1=none->Acc F' s'.heap res->(∃ m,s'.heap.Ns env.locals m)->F' env.locals=none->R (.ok .next) s') :
  ∀ (k i:Nat) {s:Shared} {F:FH} {a:β},ds.length - i=k->i<=ds.length->St i s.heap->Grd C env W B F₀ Fb s₀ wr D1 F s->StRel C env F W B s.heap ss q₀->Acc F s.heap a->run (ds.drop i) a=some res ->
   codeAny (model C.prog C.w) A (.compLoop ce 0 (.ref I) (.ref D1) env) R s:=by
 have KT:=T.kt A Rm.handled
 have hwW:∀ b∈wr,¬ W b:=fun b hb=>hfW b (KT.sub b hb)
 have hDw:D1 ∉ wr:=fun q=>hDf (KT.sub _ q)
 have wB:∀ b∈wr,¬ B b:=fun b hb q=>hB b q (T.new b hb)
 have live:∀ {i:Nat} {h:Heap},St i h->∀ b∈fp,h.get? b≠none:=fun {i h} st b hb=>by obtain ⟨o,e,_⟩:=T.alive _ _ st b hb;rw [e];exact wav
 have fr:∀ {i:Nat} {h h':Heap},St i h->KeepT h h'->St i h':=fun {i h h'} st k=>KT.frame _ _ _ st fun b hb o e=>k.at_ b o e (by
  obtain ⟨o',e',n⟩:=T.alive _ _ st b hb
  have e:=Option.some.inj (e.symm.trans e');subst e;exact n)
 intro k
 induction k with
 | zero=>
  intro i s F a hk hi hst gr st ac hc
  have hin:i=ds.length:=Nat.le_antisymm hi (leSub hk)
  subst hin
  rw [List.drop_of_length_le (Nat.le_refl _)]at hc
  have e:=r0 hc;subst e
  refine hC _ (wpAny_noted ?_)
  rw [hT]
  refine wpAny_bind (wpAny_standAt (wpAny_bind (KT.done s _ _ hst fun h' tk hk'=>wpAny_pure ?_)))
  have st':=(st.touch (P:=fun b=>b∈wr) hk' gr.wF hwW wB).1
  exact hR _ F ⟨gr.x.le,st'.rel.inn,gr.x.keep.but (P:=fun b=>b∈wr) T.new hk',gr.x.new,⟨gr.x.calm.os,gr.x.calm.gens⟩⟩ gr.dF (G.at_ ac fun o e=>hk' _ o hDw e) st'.ns (st'.wF _ st'.wL)
 | succ k ih=>
  intro i s F a hk hi hst gr st ac hc
  have hlt:i<ds.length:=ltSub hk
  rw [List.drop_eq_getElem_cons hlt]at hc
  obtain ⟨b,c1,c2⟩:=rs hc
  clear hc rs r0 hR
  refine hC _ (wpAny_noted ?_)
  rw [hT]
  refine wpAny_bind (wpAny_standAt (wpAny_bind (KT.item i s _ _ hlt hst fun v hU tk1 hMd hka=>wpAny_bind (KT.go i v _ _ _ hMd fun hJ hPv hst2 hk2=>?_))))
  have hk2:∀ b o,¬ b∈wr->s.heap.get? b=some o->hJ.get? b=some o:=fun b o q e=>hk2 b o q (hka b o q e)
  have sta:=(st.touch (P:=fun b=>b∈wr) hk2 gr.wF hwW wB).1
  have xb:Ext Fb s₀ F { s with heap:=hJ,toks:=tk1 }:=⟨gr.x.le,sta.rel.inn,gr.x.keep.but (P:=fun b=>b∈wr) T.new hk2,gr.x.new,⟨gr.x.calm.os,gr.x.calm.gens⟩⟩
  have ac2:Acc F hJ a:=G.at_ ac fun o e=>hk2 _ o hDw e
  obtain ⟨d',hd',hit⟩:=T.rep i v _ hPv
  rw [List.getElem?_eq_getElem hlt]at hd'
  cases hd'
  refine wpAny_bind (wi6 (wrb { s with heap:=hJ,toks:=tk1 }) (s:={ s with heap:=hJ,toks:=tk1 }) Rm.handled ⟨fun _ _ _ e=>e,.refl _,sta⟩ c1 (hit.mono gr.le) fun q' bd ⟨ts,ds',hbn⟩ sd ⟨k3,ca,st3⟩=>?_)
  have xc:Ext Fb s₀ F sd:=⟨xb.le,st3.rel.inn,xb.keep.but hW0 k3,xb.new,xb.calm.trans ca⟩
  have ac3:Acc F sd.heap a:=G.at_ ac2 fun o e=>k3 _ o hDW e
  have s₃t:=KT.frame _ _ _ hst2 fun b hb o e=>k3 b o (hfW b hb) e
  have le:=wpQ bl ts (fun _ _ h=>h) hbn
  refine wpAny_bind (wp5 Str ifs ⟨Rm,g.mono xc.le,st3.rel⟩ (bd c1) fun se F4 xf=>?_)
  have gr4:Grd C env W B F₀ Fb s₀ wr D1 F4 se:=⟨gr.le.trans xf.le,xc.trans xf,fun b hb=>xf.still (gr.wF b hb) (live s₃t b (KT.sub b hb)),xf.still gr.dF (G.inn ac3)⟩
  have st4:=st3.ext xf
  have s₄t:=fr s₃t xf.keep
  have ac4:=G.ext ac3 xf
  rcases c2 with ⟨rfl,c3⟩ | ⟨rfl,a',sk,c3⟩
  ·exact wpAny_bind (wpAny_pure (wpAny_pure ⟨rfl,ih (i+1) (sub1 hk) hlt s₄t gr4 (st4.less le) ac4 c3⟩))
  ·refine wpAny_bind (sk bd st4 gr4.x gr4.dF ac4 fun sj F5 hX tk6 xe d5 sb ac6=>wpAny_pure ?_)
   have kb:∀ b o,¬ b=D1->sj.heap.get? b=some o->hX.get? b=some o:=fun b o q e=>sb.extBut b o q e
   have st6:=((st4.ext xe).touch (P:=fun b=>b=D1) kb (fun b q=>by rw [q];exact d5) (fun b q=>by rw [q];exact hDW) (fun b q u=>hB b u (by rw [q];exact hD0))).1
   have xg:=gr4.x.trans xe
   exact ⟨rfl,ih (i+1) (s:={ sj with heap:=hX,toks:=tk6 }) (sub1 hk) hlt (KT.frame _ _ _ (fr s₄t xe.keep) fun b hb o e=>kb b o (fun q=>hDf (q ▸ hb)) e) ⟨gr4.le.trans xe.le,⟨xg.le,st6.rel.inn,xg.keep.but (P:=fun b=>b=D1) (fun b q=>by rw [q];exact hD0) kb,xg.new,⟨xg.calm.os,xg.calm.gens⟩⟩,
    fun b hb=>xe.still (gr4.wF b hb) (live s₄t b (KT.sub b hb)),d5⟩ (st6.less le) ac6 c3⟩
end
noncomputable def SoundIt (C:Fr) (n:Nat) (it:{α:Type}->Scope->QV->Expr->Expr->(List D->Option α)->Option α):Prop:=
 ∀ {α:Type} {A:Around} {env:Env} {q:QV} {e t:Expr} {k:List D->Option α} {r:α} {F:FH} {s:Shared} {Q:Value->Shared->Prop} {E:Value->Shared->Prop},
  Ok C A n env q F s->it env.scope q e t k=some r->(∀ ds,k ds=some r->∀ F1 hH,Ext F s F1 hH->ItQ C (fun b=>AllFz q->F1 b≠none) F1 hH t ds Q)->wpAny (model C.prog C.w) A (eval e env) (fun x sa=>wpAny (model C.prog C.w) A (pyIter x) Q E sa) E s
noncomputable def NoSet (it:{α:Type}->Scope->QV->Expr->Expr->(List D->Option α)->Option α):Prop:=∀ {α:Type} {sc q es n p t} {k:List D->Option α} {r:α},it sc q (.Set es n p) t k=some r->False
section
variable {C:Fr} {F F':FH} {A:Around} {E:Value->Shared->Prop} {s:Shared} {d:D} {env:Env} {q:QV} {n:Nat} {K:KJ} {α:Type} {r:α}
theorem weQ {iter t:Expr} {k:List D->Option α} (S:NoSet K.it) (h:K.it env.scope q iter t k=some r) (x:Value):foldedSetIterable iter env x=pure x:=by
 cases iter<;>first | rfl | exact (S h).elim
noncomputable def CompQ (C:Fr) (A:Around) (E:Value->Shared->Prop) (F:FH) (s:Shared) (d:D) (use:Option (Value->Sem Unit)) (Q:Value->Shared->Prop):Prop:=
 ∀ D1 L s' F' m,s.heap.get? D1=none->s.heap.get? L=none->L≠D1->Ext F s F' s'->F' D1=none->F' L=none->View C s'.heap F' (.ref D1) d->s'.heap.Ns L m->compPost (model C.prog C.w) A E use Q (.ref D1) L (.ok .next) s'
theorem CompQ.ext {F1:FH} {hH:Shared} {use:Option (Value->Sem Unit)} {Q:Value->Shared->Prop} (xa:Ext F s F1 hH) (hQ:CompQ C A E F s d use Q):CompQ C A E F1 hH d use Q:=
 fun D1 L s' F' m a1 a2 a3 a4 a5 a6 a7 a8=>hQ D1 L s' F' m (xa.keep.gone a1) (xa.keep.gone a2) a3 (xa.trans a4) a5 a6 a7 a8
structure CKind (C:Fr) (A:Around) (ce tgt iter:Expr) (ifs:List Expr) (mkAcc:Sem Value) (o:Obj) {β:Type} (Acc:Addr->FH->Heap->β->Prop) (step:Addr->Env->Sem Unit):Prop where
 turn:∀ I D1 env,compTurn ce 0 (.ref I) (.ref D1) env=(do
   standAt iter.pos
   match <- pyNext (.ref I) with
   | none=>pure (.done .next)
   | some v=>
    letOwnedTupleGo tgt (.ref I) v
    assign tgt env v
    let mut ok:=true
    for c in ifs do
     if ok then ok <- isTrue c env (eval c env)
    if ok then step D1 env
    again (.compLoop ce 0 (.ref I) (.ref D1) env))
 loop:∀ I D1 env R s,wpAny (model C.prog C.w) A ((compTurn ce 0 (.ref I) (.ref D1) env).onRaise (fun x=>do noteFrame x env;theTreesLotGoes x)) (fun fin s'=>match fin with | .done f=>R (.ok f) s' | .again c'=>c'.quiet=true/\codeAny (model C.prog C.w) A c' R s') (fun e s'=>R (.error e) s') s ->
   codeAny (model C.prog C.w) A (.compLoop ce 0 (.ref I) (.ref D1) env) R s
 start:∀ I D1 env R s,codeAny (model C.prog C.w) A (.compLoop ce 0 (.ref I) (.ref D1) env) R s->wpAny (model C.prog C.w) A (pyIter (.ref I)) (fun it' s'=>codeAny (model C.prog C.w) A (.compLoop ce 0 it' (.ref D1) env) R s') (notedBy (model C.prog C.w) A env fun x s'=>R (.error x) s') s ->
   codeAny (model C.prog C.w) A (.compStart ce 0 (.ref I) (.ref D1) env) R s
 make:∀ Q E s,Q (.ref s.heap.objs.size) { s with heap:=s.heap.push o }->wpAny (model C.prog C.w) A mkAcc Q E s
 live:o.isFreed=false
 G:∀ D1,Gather C D1 (Acc D1)
theorem wjQ {ce tgt iter:Expr} {ifs:List Expr} {mkAcc:Sem Value} {o:Obj} {β:Type} {Acc:Addr->FH->Heap->β->Prop} {step:Addr->Env->Sem Unit} (CK:CKind C A ce tgt iter ifs mkAcc o Acc step)
  {scope:Scope} {I:Addr} {ds:List D} {a0 res:β} {s₀:Shared} {Q:Value->Shared->Prop} {use:Option (Value->Sem Unit)} {fp wr:List Addr} {P Md:Nat->Value->Heap->Prop} {St:Nat->Heap->Prop} {Src:Addr->Prop}
  (Str:SoundTr C n K.tr) (ok:ScOk scope env.scope) (X:Ok C A n env q F s₀) (xb:Ext F s₀ F s) (T:Turns C Src F s₀.heap tgt I ds s.heap fp wr P Md St)
  {run:List D->β->Option β} (r0:∀ {a a'},run [] a=some a'->a=a')
  (rs:∀ {d ds a res},run (d::ds) a=some res->∃ b,(bindTQ scope tgt d (visq scope q) fun q'=>trAllQ K (relab scope env.scope) q' ifs)=some b /\
   (b=false/\run ds a=some res\/b=true/\∃ a',(∀ D1 env' W B Fb s₀,env'.scope=relab scope env.scope->Gd C Fb->Room A n->StepOk C A env' W B scope tgt (visq scope q) D1 Fb s₀ (Acc D1) (step D1 env') d a a')/\run ds a'=some res))
  (hrun:run ds a0=some res) (hA0:∀ h:Heap,Acc h.objs.size F (h.push o) a0) (hv:∀ {D1 F h},Acc D1 F h res->(D1==sysModules)=false->View C h F (.ref D1) d) (hQ:CompQ C A E F s₀ d use Q) :
  wpAny (model C.prog C.w) A mkAcc (fun acc sd=>wpAny (model C.prog C.w) A (newFunctionEnv scope env.globals (closL env scope.names []) [] env.qual none .none (some env)) (fun cenv se=>
    codeAny (model C.prog C.w) A (.compStart ce 0 (.ref I) acc { cenv with scope:=relabel scope env }) (compPost (model C.prog C.w) A E use Q acc cenv.locals) se) E sd) E s:=by
 refine CK.make _ _ _ ?_
 have k1:Keep s.heap (s.heap.push o):=Keep.push _ _
 have hD:s.heap.get? s.heap.objs.size=none:=get?_size s.heap
 have back:∀ b,s.heap.get? b=none->s₀.heap.get? b=none:=fun b e=>xb.keep.gone e
 have hF0:∀ b,s₀.heap.get? b=none->F b=none:=fun b e=>noneF X.r.inn e
 have hnew:(s.heap.push o).get? s.heap.objs.size=some o:=Heap.get?_push_size _ CK.live
 have xc:Ext F s₀ F { s with heap:=s.heap.push o }:=xb.trans (Ext.same xb.inn k1)
 have hA:=hA0 s.heap
 have hsys:(s.heap.objs.size==sysModules)=false:=X.g.noSys (fun b o e=>xb.inn b o e)
 generalize s.heap.objs.size=D1 at hD hnew hA hsys
 generalize s.heap.push o=hM at k1 hnew xc hA
 refine wmv ok (X.r.ext xc) X.r xc.keep fun cenv se k4 cb hC st=>?_
 have kk:∀ b o,s.heap.get? b=some o->se.heap.get? b=some o:=fun b o e=>k4 b o (k1 b o e)
 have xf:Ext F s₀ F se:=xc.trans (s':={ s with heap:=hM }) (Ext.same (s:={ s with heap:=hM }) xc.inn k4 ⟨cb.os,cb.gens⟩)
 have hCD:D1≠cenv.locals:=fun q=>by rw [<- q,hnew]at hC;exact noneE hC.symm
 have hC0:s₀.heap.get? cenv.locals=none:=xc.keep.gone hC
 have KT:=T.kt A X.R.handled
 have stS:St 0 se.heap:=KT.frame 0 s.heap se.heap T.st fun b _ o e=>kk b o e
 have lv:∀ {b},b∈fp->s.heap.get? b≠none:=fun {b} hb=>by obtain ⟨o,e,_⟩:=T.alive 0 _ T.st b hb;rw [e];exact wav
 have loop:=wpC (K:=K) (env:={ cenv with scope:=relab scope env.scope }) (ss:=scope) (q₀:=visq scope q) (F₀:=F) (Fb:=F) (Acc:=Acc D1) (R:=compPost (model C.prog C.w) A E use Q (.ref D1) cenv.locals) (CK.turn I D1 _) (CK.loop I D1 _ _) Str X.R X.g (CK.G D1) T
  (fun b hb q=>lv hb (by cases z:s.heap.get? b with | none=>rfl | some o=>exact noneE (q.1.symm.trans (k1 b o z)))) (fun q=>lv q hD) (back _ hD) (fun hb=>noneE (hb.1.symm.trans hnew)) (fun b hb=>hb) (fun b hb=>xc.keep.gone hb.1) (wpO scope q) (run:=run) r0
  (fun h=>let ⟨b,h1,h2⟩:=rs h;⟨b,h1,h2.imp_right fun ⟨h3,a',h4,h5⟩=>⟨h3,a',h4 _ _ _ _ _ _ rfl X.g X.R,h5⟩⟩)
  (res:=res) (fun s' F' a1 a2 a3 ⟨m,a4⟩ a5=>hQ _ _ _ F' m (back _ hD) hC0 (Ne.symm hCD) a1 a2 a5 (hv a3 hsys) a4) ds.length 0 (s:=se) (F:=F) (a:=a0) rfl (Nat.zero_le _) stS ⟨FH.le.refl F,xf,fun b hb=>hF0 b (T.new b hb),hF0 _ (back _ hD)⟩ st ((CK.G D1).at_ hA fun o e=>k4 _ o e) (by rw [List.drop_zero];exact hrun)
 exact CK.start I D1 _ _ _ loop (T.self A se _ _ X.R.handled stS loop)
theorem wpe {elt tgt iter:Expr} {ifs:List Expr} {scope:Scope} {pos:Pos}:CKind C A (.ListComp elt [⟨tgt,iter,ifs,0⟩] scope pos) tgt iter ifs (newList []) { cls:=.type "list",data:=.seq #[] }
  (fun D1 F h (a:List D)=>∃ vs,h.PlainList D1 vs/\RepAll C F a vs.toList) (fun D1 env=>do let _ <- call (.builtin "list.append") [.ref D1,<- eval elt env]) where
 turn I D1 env:=compTurn_list ..
 loop I D1 env R s h:=codeAny_of_tree h
 start I D1 env R s h h':=codeAny_compStart_list h h'
 make Q E s h:=wpAny_newList h
 live:=rfl
 G D1:=⟨fun ⟨vs,hl,r⟩ x=>⟨vs,wbS hl x.keep,RepAll.mono x.le _ r⟩,fun ⟨vs,hl,r⟩ k=>⟨vs,hl.at k,r⟩,fun ⟨vs,⟨m,e⟩,_⟩=>by rw [e];exact wav⟩
theorem wpA {kx vx tgt iter:Expr} {ifs:List Expr} {scope:Scope} {pos:Pos}:CKind C A (.DictComp kx vx [⟨tgt,iter,ifs,0⟩] scope pos) tgt iter ifs newDict { cls:=.type "dict",data:=.dict #[] }
  (fun D1 F h (a:List (Key×D))=>∃ es,h.DictOf (anyKind C.prog C.w) D1 es/\RepKV C F a es) (fun D1 env=>do
      let kv <- eval kx env
      let vv <- holding [kv] (eval vx env)
      standAt { kx.pos with endLine:=vx.pos.endLine,endCol:=vx.pos.endCol }
      holding [kv,vv] (dictSet D1 kv vv)) where
 turn I D1 env:=compTurn_dict ..
 loop I D1 env R s h:=codeAny_of_tree h
 start I D1 env R s h h':=codeAny_compStart_dict h h'
 make Q E s h:=wpAny_newObj_type h (Nat.zero_le _)
 live:=rfl
 G D1:=⟨fun ⟨vs,hl,r⟩ x=>⟨vs,wcf hl x.keep,RepKV.mono x.le _ r⟩,fun ⟨vs,hl,r⟩ k=>⟨vs,hl.at k,r⟩,fun ⟨vs,hl,_⟩=>by obtain ⟨o,_,_,e,_⟩:=hl;rw [e];exact wav⟩
theorem wnN {P:Prop} {α:Type} {r:α} {b:Bool} {x y:Option α} (h:(if b then x else y)=some r) (f:b=true->x=some r->P) (g:b=false->y=some r->P):P:=by
 cases b with
 | true=>exact f rfl h
 | false=>exact g rfl h
theorem whk {elt:Expr} {gens:List Comprehension} {scope:Scope} {pos pos':Pos} {k:D->Option α} {Q:Value->Shared->Prop} {use:Option (Value->Sem Unit)}
  (S:SoundEv C n K.ev) (Str:SoundTr C n K.tr) (Sit:SoundIt C n K.it) (hset:NoSet K.it) (X:Ok C A n env q F s) (h:listCompQ K env.scope q elt gens scope k=some r) (hQ:∀ l,k (.list l)=some r->CompQ C A E F s (.list l) use Q) {iter:Expr} (hi:gens.head?.map (·.iter)=some iter) :
  wpAny (model C.prog C.w) A (comprehension (.ListComp elt gens scope pos) scope env pos' (newList []) false (eval iter env) use) Q E s:=by
 refine compE h fun t it ifs qg h2=>ifE h2 fun hsc h3=>?_
 clear h h2
 subst qg
 cases hi
 have ok:=wmF hsc
 refine wpAny_comprehension_free rfl (weQ hset h3) (wgn fun x k hm hk=>X.r.eo.cells x (ok.free x (hk ▸ hm))) ok.kind ok.hnm ?_
 refine Sit X h3 fun ds h F1 hH xa I s₂ fp wr P Md St xb T=>ifE h fun hz h=>bindE h fun l e h=>?_
 have X1:=X.ext xa
 refine wjQ wpe (d:=.list l) (K:=K) Str ok X1 xb T (a0:=[]) (res:=l) (run:=fun ds a=>if a.length+ds.length<=cap then (compQ (fun d=>bindTQ scope t d (visq scope q) fun q'=>trAllQ K (relab scope env.scope) q' ifs) (fun d=>bindTQ scope t d (visq scope q) fun q'=>K.ev (relab scope env.scope) q' elt some) ds).map (a++·) else none)
  (fun h=>ifE h fun _ h=>by rw [<- Option.some.inj h];exact (List.append_nil _).symm) (fun {d ds a res} h=>ifE h fun hz h=>mapE h fun l e h=>bindE e fun b e1 e=>⟨b,e1,wnN e (fun hb e=>.inr ⟨hb,bindE e fun v e2 e=>mapE e fun l' e3 e=>⟨a++[v],fun D1 env' W B Fb s₀ hsc' g Rm q' F s Q E bd st x df ac kq=>?_,?_⟩⟩) fun hb e=>.inl ⟨hb,?_⟩⟩)
  (by show (if _ then _ else _)=_;rw [if_pos (by rw [List.length_nil,Nat.zero_add];exact hz),e];rfl) (fun h=>⟨#[],⟨_,Heap.get?_push_size _ rfl⟩,rfl⟩) (fun ⟨vs,⟨m,e⟩,r⟩ _=>VL.mk e r) ((hQ l h).ext xa)
 ·obtain ⟨vs,hl,hr⟩:=ac
  have hz':vs.size<=sizeLine:=waA (by rw [hr.size];rw [List.length_cons]at hz;omega)
  exact wpAny_bind (S ⟨Rm,g.mono x.le,st.rel⟩ (by rw [hsc'];exact bd e2) fun v' ev vj sj F5 xe r5=>by
   cases ev
   have lc:=wbS hl xe.keep
   exact wpAny_bind (wpAny_list_append_plain lc (fun hX lf sb=>wpAny_pure (kq sj F5 hX _ xe (xe.still df (by obtain ⟨m,e⟩:=hl;rw [e];exact wav)) sb ⟨_,lf,by rw [Array.toList_push];exact (RepAll.mono xe.le _ hr).append (RepAll.one r5)⟩)) hz'))
 ·show (if _ then _ else _)=_
  rw [List.length_cons]at hz
  rw [if_pos (by rw [List.length_append,List.length_singleton];omega),e3,<- h,<- e]
  exact congrArg some (List.append_assoc a [v] l')
 ·show (if _ then _ else _)=_
  rw [List.length_cons]at hz
  rw [if_pos (by omega),e,<- h];rfl
theorem whr {kx vx:Expr} {gens:List Comprehension} {scope:Scope} {pos pos':Pos} {k:D->Option α} {Q:Value->Shared->Prop} {use:Option (Value->Sem Unit)}
  (S:SoundEv C n K.ev) (Str:SoundTr C n K.tr) (Sit:SoundIt C n K.it) (hset:NoSet K.it) (X:Ok C A n env q F s) (h:dictCompQ K env.scope q kx vx gens scope k=some r) (hQ:∀ l,k (.dict l)=some r->CompQ C A E F s (.dict l) use Q) {iter:Expr} (hi:gens.head?.map (·.iter)=some iter) :
  wpAny (model C.prog C.w) A (comprehension (.DictComp kx vx gens scope pos) scope env pos' newDict false (eval iter env) use) Q E s:=by
 refine compE h fun t it ifs qg h2=>ifE h2 fun hsc h3=>?_
 clear h h2
 subst qg
 cases hi
 have ok:=wmF hsc
 refine wpAny_comprehension_free rfl (weQ hset h3) (wgn fun x k hm hk=>X.r.eo.cells x (ok.free x (hk ▸ hm))) ok.kind ok.hnm ?_
 refine Sit X h3 fun ds h F1 hH xa I s₂ fp wr P Md St xb T=>ifE h fun hz h=>bindE h fun l e h=>?_
 have X1:=X.ext xa
 refine wjQ wpA (d:=.dict l) (K:=K) Str ok X1 xb T (a0:=[]) (res:=l) (run:=fun ds a=>if a.length+ds.length<=cap then compDQ (fun d=>bindTQ scope t d (visq scope q) fun q'=>trAllQ K (relab scope env.scope) q' ifs) (fun d=>bindTQ scope t d (visq scope q) fun q'=>K.ev (relab scope env.scope) q' kx fun a=>(toKey a).bind fun kk=>K.ev (relab scope env.scope) q' vx fun b=>some (kk,b)) ds a else none)
  (fun h=>ifE h fun _ h=>Option.some.inj h) (fun {d ds a res} h=>ifE h fun hz e=>bindE e fun b e1 e=>⟨b,e1,wnN e (fun hb e=>.inr ⟨hb,bindE e fun v e2 e=>⟨kset v.1 v.2 a,fun D1 env' W B Fb s₀ hsc' g Rm q' F s Q E bd st x df ac kq=>?_,?_⟩⟩) fun hb e=>.inl ⟨hb,?_⟩⟩)
  (by show (if _ then _ else _)=_;rw [if_pos (by rw [List.length_nil,Nat.zero_add];exact hz),e]) (fun h=>⟨[],Heap.DictOf.new _,rfl⟩) (fun ⟨es,hd,r⟩ hy=>by obtain ⟨o,ho,hd⟩:=Heap.dictOf_iff.mp hd;exact VD.mk ho hy hd r) ((hQ l h).ext xa)
 ·obtain ⟨es,hl,hr⟩:=ac
  have hz':=hr.length
  have nD:s.heap.get? D1≠none:=by obtain ⟨o,_,_,e,_⟩:=hl;rw [e];exact wav
  have X2:Ok C A n env' q' F s:=⟨Rm,g.mono x.le,st.rel⟩
  refine wpAny_bind (S X2 (by rw [hsc'];exact bd e2) fun a ev vj sj F5 xe r5=>bindE ev fun kk h1 ev=>wpAny_bind (wpAny_holding (S (X2.ext xe) (by rw [hsc'];exact ev) fun b ev vm sm F6 xg r6=>wpAny_bind (wpAny_standAt ?_))))
  cases ev
  have y:=xe.trans xg
  have hr6:=RepKV.mono y.le _ hr
  exact wpAny_holding (wpAny_dictSet_pairs (wcD h1 (r5.ext xg)) (wcf hl y.keep) (fun hY hm hs=>kq sm F6 hY _ y (y.still df nD) hs ⟨_,hm,hr6.stored kk r6⟩) (by rw [List.length_cons]at hz;simp [sizeLine];unfold cap at hz;omega))
 ·show (if _ then _ else _)=_
  rw [List.length_cons]at hz
  have:(kset v.1 v.2 a).length<=a.length+1:=by
   unfold kset
   split
   ·have:∀ l:List (Key×D),(kput v.1 v.2 l).length=l.length:=fun l=>by
     induction l with
     | nil=>rfl
     | cons p l ih=>obtain ⟨k,x⟩:=p;simp only [kput];split<;>exact congrArg Nat.succ ih
    rw [this];omega
   ·rw [List.length_append,List.length_singleton];omega
  rw [if_pos (by omega)];exact e
 ·show (if _ then _ else _)=_
  rw [List.length_cons]at hz
  rw [if_pos (by omega)];exact e
theorem freeze {s₀ s:Shared} {F₀:FH} {a:Addr} (x:Ext F₀ s₀ F s) (hn:s₀.heap.get? a=none) (hf:F a=none) (v:View C s.heap F (.ref a) d) (hd:isListD d=true):∃ o,Ext F₀ s₀ (F.put a o) s/\Rep C (F.put a o) (.ref a) d:=by
 have le:∀ o,F.le (F.put a o):=fun o=>FH.le_put hf
 cases d<;>first | exact ffE hd | skip
 ·cases v with | mk e r=>exact ⟨_,x.seal hn hf (fun _ _ _ e=>e) e,.mk (FH.put_self _ _ _) (RepAll.mono (le _) _ r)⟩
 ·cases v with | mk e y z r=>exact ⟨_,x.seal hn hf (fun _ _ _ e=>e) e,.mk (FH.put_self _ _ _) y z (RepKV.mono (le _) _ r)⟩
theorem wkB {Q:Value->Shared->Prop} (hd:isListD d=true) (k:Cont C F s d Q):CompQ C A E F s d none Q:=by
 intro D1 L s' F' m a1 a2 a3 a4 a5 a6 a7 a8
 refine ⟨m,a8,fun h' sb=>?_⟩
 have x:Ext F s F' { s' with heap:=h' }:=a4.own a2 a6 fun b o hb e=>sb.extBut b o hb e
 have v':View C h' F' (.ref D1) d:=by
  have hk:∀ o,s'.heap.get? D1=some o->h'.get? D1=some o:=fun o e=>sb.extBut _ o (Ne.symm a3) e
  cases d<;>first | exact ffE hd | skip
  ·cases a7 with | mk e r=>exact .mk (hk _ e) r
  ·cases a7 with | mk e y z r=>exact .mk (hk _ e) y z r
 obtain ⟨o,y,r⟩:=freeze x a1 a5 v' hd
 exact k _ _ _ y r
end
section
variable {C:Fr} {F F':FH} {A:Around} {E:Value->Shared->Prop} {s:Shared} {Q:Value->Shared->Prop} {d:D} {env:Env} {q:QV} {n:Nat} {K:KJ} {α:Type} {r:α}
theorem wok {M:Model} {c P:Addr} {ps:Array Value} {op:Obj} {pos:Pos} {qualname:Str} {scope:Scope} (hc:env.code=.ref c) (hok:s.heap.IsCode c P ps) (hop0:s.heap.get? P=some op) (hcls:op.cls=.none)
  (hQ:∀ code h' tk,Heap.ExtBut P s.heap h'->(∃ o,h'.get? P=some o/\Grown op o)->s.heap.objs.size<=h'.objs.size->Q code { s with heap:=h',toks:=tk }) :
  wpAny M A (genexprCode env pos qualname scope) Q E s:=by
 obtain ⟨o,vs,file,tf,flags,tg,inF,text,tt,op',ho,hd,h11,h2,h7,h9,h10,hop,hpd,htr,hne⟩:=id hok
 rw [hop0]at hop;cases hop
 unfold genexprCode codeAt
 rw [hc,if_neg (show ¬ ((Value.ref c==Value.none)=true) from Bool.false_ne_true)]
 refine wpAny_bind (wpAny_fieldsOf ho hd ?_)
 rw [h11]
 refine wpAny_bind (wpAny_fieldsOf hop0 hpd ?_)
 cases hnf:codeAmong pos ps.toList with
 | some cv=>exact wpAny_pure (hQ cv s.heap s.toks (Heap.ExtBut.refl _ _) ⟨_,hop0,.refl ⟨hcls,_,hpd,htr⟩⟩ (Nat.le_refl _))
 | none=>
  rw [h2,h7,h9,h10]
  refine wpAny_bind (wpAny_newCode fun c' P' h' tk hk hc' hP' hcode' hrec'=>?_)
  have hop':=hk _ _ hop0
  refine wpAny_bind (wpAny_updateFieldsOfTheText hop' hpd ?_)
  have hnew:(Obj.mapFields (fun vs=>if (codeAmong pos vs.toList).isSome=true then vs else vs++#[rawInt pos.line,rawInt pos.col,.ref c']) op).data=.fields (ps++#[rawInt pos.line,rawInt pos.col,.ref c']):=by
   rw [Obj.data_mapFields hpd,hnf];rfl
  have hget:=Heap.get?_update_self (h:=h') (fun o=>Obj.mapFields (fun vs=>if (codeAmong pos vs.toList).isSome=true then vs else vs++#[rawInt pos.line,rawInt pos.col,.ref c']) o) hop' (Obj.isFreed_of_fields hnew)
  refine wpAny_bind (wpAny_fieldsOf hget hnew ?_)
  have hl:(ps++#[rawInt pos.line,rawInt pos.col,Value.ref c']).toList=ps.toList++[rawInt pos.line,rawInt pos.col,.ref c']:=by simp
  rw [hl,codeAmong_snoc _ htr hnf]
  refine wpAny_pure (hQ _ _ _ (fun b o' hb e=>((Heap.SameBut.update ..).extBut b o' hb (hk b o' e))) ⟨_,hget,⟨(Obj.cls_mapFields ..).trans hcls,_,hnew,by rw [hl];exact TriplesOk_snoc _ _ _ _ htr⟩,fun ps' e=>⟨#[rawInt pos.line,rawInt pos.col,.ref c'],by
   rw [hpd]at e;cases e
   obtain ⟨oc,od,odt,os⟩:=op
   cases (show odt=.fields ps from hpd)
   exact congrArg (fun z=>(⟨oc,od,.fields z,os⟩:Obj)) (by dsimp only;rw [hnf];rfl)⟩⟩ ?_)
  rw [Heap.size_after_update]
  exact Nat.le_trans hc' (Nat.le_of_lt hcode'.lt.1)
theorem wmp (n:Nat):passing (fun _=>true) n 0=List.range n:=by simp [passing]
theorem wp8 {acc:List Value}:∀ {xs ys:List Int},acc.length=min xs.length ys.length->(∀ (j:Nat) v,acc[j]?=some v->∃ t,v=.int (xs.getD j 0+ys.getD j 0) t) ->
  RepAll C F (List.zipWith (fun u v=>D.int (u+v)) xs ys) acc:=by
 induction acc with
 | nil=>
  intro xs ys hl _
  rw [List.eq_nil_of_length_eq_zero (show (List.zipWith (fun u v=>D.int (u+v)) xs ys).length=0 by rw [List.length_zipWith];exact hl.symm)];exact rfl
 | cons v acc ih=>
  intro xs ys hl h
  cases xs with
  | nil=>rw [List.length_nil,Nat.zero_min]at hl;exact succE hl.symm
  | cons x xs=>
   cases ys with
   | nil=>rw [List.length_nil,Nat.min_zero]at hl;exact succE hl.symm
   | cons y ys=>
    obtain ⟨t,rfl⟩:=h 0 v rfl
    refine .mk (.mk t) (ih (by simp only [List.length_cons]at hl;omega) fun j v e=>h (j+1) v e)
theorem pk2 {T:Tab} {sc:Scope} {a b:Expr} {k:List D->Option α} (ha:isStarE a=false) (hb:isStarE b=false):pkLQ T K sc q [a,b] k=pkQ T K sc q a fun da=>pkQ T K sc q b fun db=>k [da,db]:=by
 unfold pkLQ pkLQ pkLQ
 rw [ha,hb];rfl
theorem wqg {m:Nat} {a b c d e f g:Addr} (h1:a<m) (h2:b<m) (h3:c<m) (h4:d<m) (h5:e<m) (h6:f<m) (h7:g<m):∀ x∈[a,b,c,d,e,f,g],x<m:=fun x hx=>by
 simp only [List.mem_cons,List.not_mem_nil,or_false]at hx
 rcases hx with rfl | rfl | rfl | rfl | rfl | rfl | rfl<;>assumption
theorem wse {m x:Nat} {a b c d:Addr} (hx:x<m) (h1:m<=a) (h2:m<=b) (h3:m<=c) (h4:m<=d):x ∉ [a,b,c,d]:=fun h=>by
 simp only [List.mem_cons,List.not_mem_nil,or_false]at h
 rcases h with rfl | rfl | rfl | rfl<;>exact absurd hx (Nat.not_lt.mpr ‹_›)
theorem ZipAt.keep {z TI TO i1 i2 l1 l2:Addr} {xs ys:Array Value} {i:Nat} {h h':Heap} (st:ZipAt z TI TO i1 i2 l1 l2 xs ys .none i h) (k:KeepT h h'):ZipAt z TI TO i1 i2 l1 l2 xs ys .none i h':=by
 obtain ⟨u,v,e⟩:=st.out
 obtain ⟨o1,e1,c1,d1⟩:=st.it1
 obtain ⟨o2,e2,c2,d2⟩:=st.it2
 obtain ⟨o3,e3,c3,d3⟩:=st.t1
 obtain ⟨o4,e4,c4,d4⟩:=st.t2
 exact ⟨k.at_ _ _ st.z (wab rfl),k.at_ _ _ st.src (wab rfl),⟨u,v,k.at_ _ _ e (wab rfl)⟩,⟨o1,k.at_ _ _ e1 (wab c1),c1,d1⟩,⟨o2,k.at_ _ _ e2 (wab c2),c2,d2⟩,⟨o3,k.at_ _ _ e3 (wab c3),c3,d3⟩,⟨o4,k.at_ _ _ e4 (wab c4),c4,d4⟩⟩
theorem ZipAt.lt {z TI TO i1 i2 l1 l2:Addr} {xs ys:Array Value} {i:Nat} {h:Heap} (st:ZipAt z TI TO i1 i2 l1 l2 xs ys .none i h):∀ x∈[z,TI,TO,i1,i2,l1,l2],x<h.objs.size:=by
 obtain ⟨u,v,e⟩:=st.out
 obtain ⟨o1,e1,_⟩:=st.it1
 obtain ⟨o2,e2,_⟩:=st.it2
 obtain ⟨o3,e3,_⟩:=st.t1
 obtain ⟨o4,e4,_⟩:=st.t2
 exact wqg (Heap.lt_size st.z) (Heap.lt_size st.src) (Heap.lt_size e) (Heap.lt_size e1) (Heap.lt_size e2) (Heap.lt_size e3) (Heap.lt_size e4)
structure GenOk (sc scope:Scope) (x y:Str):Prop where
 kind:scope.kind=.function
 cor:scope.isCoroutine=false
 lx:scope.names.lookup x=some .local
 ly:scope.names.lookup y=some .local
 ne:x≠y
 it:scope.names.lookup (".0":Str)=some .local
 names:∀ p∈scope.names,p.2≠.cell/\p.2≠.free
 xd:(x==("__debug__":Str))=false
 yd:(y==("__debug__":Str))=false
 xi:x≠(".0":Str)
 yi:y≠(".0":Str)
 gk:sc.names.lookup gk=some .local
theorem wqR {sc scope:Scope} {x y:Str} (ok:genOk sc scope x y=true):GenOk sc scope x y:=by
 unfold genOk at ok
 simp only [Bool.and_eq_true,Bool.not_eq_true',beq_iff_eq,beq_eq_false_iff_ne,List.all_eq_true,bne_iff_ne,ne_eq]at ok
 obtain ⟨⟨⟨⟨⟨⟨⟨⟨⟨⟨⟨o1,o2⟩,o3⟩,o4⟩,o5⟩,o6⟩,o7⟩,o8⟩,o9⟩,o10⟩,o11⟩,o12⟩:=ok
 exact ⟨o1,o2,o3,o4,o5,o6,o7,beq_eq_false_iff_ne.mpr o8,beq_eq_false_iff_ne.mpr o9,o10,o11,o12⟩
theorem wpo (S:SoundEv C n K.ev) {x y:Str} {xp yp zp xp' yp' bp tp cp gp fp pos:Pos} {kt:Nat} {a b:Expr} {scope:Scope} {k:D->Option α} (X:Ok C A n env q F s)
  (hg:isGlob env.scope (Str.ofString "tuple")=true) (hgz:isGlob env.scope (Str.ofString "zip")=true) (ok:GenOk env.scope scope x y) (ha:isStarE a=false) (hb:isStarE b=false)
  (h:(pkQ C.T K env.scope q a fun da=>pkQ C.T K env.scope q b fun db=>(zipSumQ da db).bind k)=some r) (kk:∀ d,k d=some r->Cont C F s d Q) :
  wpAny (model C.prog C.w) A (eval (.Call (.Name (Str.ofString "tuple") fp) [.GeneratorExp (.BinOp (.Name x xp) .Add (.Name y yp) bp) [⟨.Tuple [.Name x xp',.Name y yp'] kt tp,.Call (.Name (Str.ofString "zip") zp) [a,b] [] cp,[],0⟩] scope gp] [] pos) env) Q E s:=by
 have hs:noStar [Expr.GeneratorExp (.BinOp (.Name x xp) .Add (.Name y yp) bp) [⟨.Tuple [.Name x xp',.Name y yp'] kt tp,.Call (.Name (Str.ofString "zip") zp) [a,b] [] cp,[],0⟩] scope gp]=true:=rfl
 refine callBi X hg wgp hs ?_
 rw [wak (waM hs)]
 obtain ⟨c,hc,hcode⟩:=X.r.code ok.gk
 refine spliced_cons ?_
 have lim:∀ {h:Heap} {F':FH},F.le F'->F'.In h->h.NoLimit:=fun le i=>(X.g.mono le).limit i
 refine wpAny_GeneratorExp_walksQT X.R.handled ok.cor (wgn fun y k hm hk=>absurd hk (ok.names _ hm).2) (fun y hy=>(ok.names y hy).1) ok.it ok.lx ok.ly ok.ne ok.kind (by have:=X.R.depth;omega) ?_ (fun _=>rfl)
 refine callBi X hgz wpR (by show (!isStarE a&&(!isStarE b&&true))=true;rw [ha,hb];rfl) (whO S [a,b] X (k:=fun ds=>twoK ds fun da db=>(zipSumQ da db).bind k) ((pk2 ha hb).trans h) fun ds h vs sa F1 xa vv _=>twoE h fun da db qd h=>?_)
 subst qd
 cases vv with | mk v1 v2=>cases v2 with | mk v2 v3=>
 cases v3
 refine viaG fun G hG=>?_
 refine bindE h fun d e h=>?_
 have k:=kk d h
 clear kk h hs
 refine tupE e fun la ea e=>tupE e fun lb eb e=>ifE e fun hz e=>bindE e fun xs i1 e=>mapE e fun ys i2 ed=>?_
 subst ea eb ed
 cases v1 with | @mk a1 vs1 n1 e1 r1=>cases v2 with | @mk a2 vs2 n2 e2 r2=>
 have t1:sa.heap.IsTuple a1 vs1:=⟨_,e1,rfl,_,rfl⟩
 have t2:sa.heap.IsTuple a2 vs2:=⟨_,e2,rfl,_,rfl⟩
 obtain ⟨il1,iv1⟩:=wiY (C:=C) (F:=F1) i1
 obtain ⟨il2,iv2⟩:=wiY (C:=C) (F:=F1) i2
 have ll1:=r1.size
 have ll2:=r2.size
 refine hG ?_
 refine wmi t1 t2 fun hJ zz TI TO j1 j2 Dz st hz2 hTO2 hj1 hj2 hk2=>wpAny_pyIter_zip st.z ?_
 have xb:Ext F s F1 { sa with heap:=hJ }:=xa.trans (Ext.same xa.inn hk2)
 have rc:=X.r.ext xb
 refine ⟨lim xb.le xb.inn,?_⟩
 refine viaG fun G hG=>?_
 obtain ⟨op,ep,hcl,pst,hpd,htr⟩:=rc.tab
 obtain ⟨co,q1,cvs,file,tf,flags,tg,inF,text,tt,q2,q3,q4,q5,q6,q7,q8⟩:=hcode.mono xb.le
 have hIs:hJ.IsCode c (tabAt C) pst:=⟨co,cvs,file,tf,flags,tg,inF,text,tt,op,xb.inn _ _ q1,q2,q3,q4,q5,q6,q7,ep,hpd,htr,q8⟩
 refine hG ?_
 refine wok (s:={ sa with heap:=hJ }) hc hIs ep hcl fun code hM tk hx3 htab hge=>?_
 clear q2 q3 q4 q5 q6 q7 q8
 have k3:KeepT hJ hM:=⟨fun b o e n=>hx3 b o (fun q=>by rw [q,ep]at e;cases e;exact n ⟨hcl,_,hpd,htr⟩) e,fun b o e t=>by
  by_cases q:b=tabAt C
  ·rw [q,ep]at e;cases e;rw [q];exact htab
  ·exact ⟨o,hx3 b o q e,.refl t⟩⟩
 have in3:F1.In hM:=fun b o e=>hx3 b o (fun q=>by rw [q,rc.ftab]at e;exact noneE e) (xb.inn b o e)
 have st3:=st.keep k3
 refine viaG fun G hG=>?_
 obtain ⟨bm,ob,b1,b2,b3,b4,b5,b6⟩:=X.g.bf
 obtain ⟨og,g1,g2⟩:=X.g.glob
 obtain ⟨ol,mc,g3,_⟩:=X.g.lim
 refine hG ?_
 refine wpAny_builtinsFor (s:={ sa with heap:=hM,toks:=tk }) (by rw [X.r.eo.glob];exact g2.ns (in3 _ _ (xb.le _ _ g1))) b1 b2 (in3 _ _ (xb.le _ _ b3)) b4 b5 b6 ?_
 have hmin:min vs1.size vs2.size=min xs.length ys.length:=by rw [il1,il2,ll1,ll2]
 have hsz₂:sa.heap.objs.size<=hM.objs.size:=Nat.le_trans (Nat.le_of_lt (Nat.lt_of_le_of_lt hz2 (Heap.lt_size st.z))) hge
 have hsz1:min vs1.size vs2.size<=sizeLine:=waA (Nat.le_trans (Nat.min_le_left ..) (ll1 ▸ hz.1))
 have wn:∀ {b o},sa.heap.get? b=some o->b ∉ [zz,TO,j1,j2]:=fun {b o} e=>wse (Heap.lt_size e) hz2 hTO2 hj1 hj2
 refine ⟨zz,_,_,min vs1.size vs2.size,_,_,_,fun _=>true,fun i v=>∃ t,v=.int (xs.getD i 0+ys.getD i 0) t,rfl,fun A' hA=>wkQ hA zz TI TO j1 j2 a1 a2 Dz vs1 vs2,fun i vals ⟨u,v,_,_,e⟩=>⟨u,v,e⟩,st3,st3.lt,lim xb.le in3,wn (xa.inn _ _ (xa.le _ _ g3)),?_,?_⟩
 ·clear k st3 st hk2 wn lim xb rc k3
  intro href hh
  refine ⟨fun A' E' i va vb s₂ ma hA _ _ _ _ _=>?_,fun A' E' i va vb s₂ ma hA hP _ hN m1 m2 _=>?_⟩
  ·rw [List.forIn_nil]
   exact wpAny_pure ⟨rfl,_,_,rfl,fun _ _ e=>e⟩
  ·obtain ⟨u,v,eu,ev,euv⟩:=hP
   have euv:=congrArg Array.toList euv
   injection euv with e3 e4
   injection e4 with e4 _
   subst e3 e4
   obtain ⟨du,hu⟩:=r1.get' (by rw [Array.getElem?_toList];exact eu)
   obtain ⟨dv,hv⟩:=r2.get' (by rw [Array.getElem?_toList];exact ev)
   obtain ⟨tu,rfl⟩:=iv1 ⟨du,hu⟩
   obtain ⟨tv,rfl⟩:=iv2 ⟨dv,hv⟩
   have nm:∀ {q:Str} {p:Pos} {v:Value} {Q:Value->Shared->Prop},scope.names.lookup q=some .local->(q==("__debug__":Str))=false->ma q=some v->Q v s₂ ->
     wpAny (model C.prog C.w) A' (eval (.Name q p) (genEnv scope (closL env scope.names []) hM.objs.size code builtinsNs env)) Q E' s₂:=fun {q p v Q} hl hd hv hq=>
    wpAny_Name (wpAny_loadName_local (env:=genEnv scope (closL env scope.names []) hM.objs.size code builtinsNs env) ok.kind hl hN hv hq) hd
   exact wpAny_BinOp (nm ok.lx ok.xd m1 (nm ok.ly ok.yd m2 (wpAny_add_int ⟨⟨_,rfl⟩,_,_,rfl,fun _ _ e=>e⟩)))
 ·intro aa hK tk5 gs hgs hlt hsz5 hk5 W st5
  refine spliced_nil ?_
  rw [wmp,List.length_range]at W
  refine call_tuple_gen (hsz:=hsz1) W.in4_3 (fun i s' q=>q.1.typeIs) st5 ?_ List.mem_cons_self fun s' acc hm hacc=>?_
  ·intro b hb
   show b<hK.objs.size
   rw [hsz5]
   rcases List.mem_cons.mp hb with rfl | hb
   ·exact Nat.lt_succ_self _
   ·rcases List.mem_cons.mp hb with rfl | hb
    ·exact Nat.lt_succ_of_lt hlt
    ·exact Nat.lt_succ_of_lt (Nat.lt_trans (List.mem_range.mp hb) hlt)
  ·have k6:KeepT sa.heap s'.heap:=by
    refine ((KeepT.of hk2).trans (k3.trans (KeepT.of hk5))).but (P:=fun b=>b∈hM.objs.size::[zz,TO,j1,j2]) (fun b hb=>?_) (fun b o hb e=>hm.heap b o hb e)
    rcases List.mem_cons.mp hb with rfl | hb
    ·exact Heap.get?_none_of_le hsz₂
    ·cases q:sa.heap.get? b with
     | none=>rfl
     | some o=>exact absurd hb (wn q)
   have in6:F1.In s'.heap:=fun b o e=>by
    have h1:=xa.inn _ _ e
    refine hm.heap b o (fun hb=>?_) (hk5 b o (in3 b o e))
    rcases List.mem_cons.mp hb with rfl | hb
    ·exact absurd (Nat.lt_of_lt_of_le (Heap.lt_size h1) hsz₂) (Nat.lt_irrefl _)
    ·exact wn h1 hb
   have xg:Ext F1 sa F1 s':=⟨FH.le.refl _,in6,k6,fun _ _ e=>.inl e,hm.os,fun q=>AllBare.movedS (s:={ sa with gens:=sa.gens.push gs,toks:=tk5,heap:=hK }) (q.push hgs) hm⟩
   have xq:=Ext.put (s:=s') (s':={ s' with heap:=s'.heap.push { cls:=.type "tuple",data:=.seq acc } }) (o:={ cls:=.type "tuple",data:=.seq acc }) (a:=s'.heap.objs.size) in6 (Keep.push s'.heap _) (get?_size _) (Heap.get?_push_size _ rfl)
   refine k _ _ _ (xa.trans (xg.trans xq)) (.mk (FH.put_self _ _ _) (wp8 (by rw [Array.length_toList,hacc.1,hmin]) fun j v hv=>?_))
   obtain ⟨i,hi,t,e⟩:=hacc.2 j v (by rw [Array.getElem?_toList]at hv;exact hv)
   obtain ⟨hlt',e'⟩:=List.getElem?_eq_some_iff.mp hi
   rw [List.getElem_range]at e'
   subst e'
   exact ⟨t,e⟩
theorem wtg (S:SoundEv C n K.ev) {args:List Expr} {fp pos:Pos} {k:D->Option α} (X:Ok C A n env q F s) (hg:isGlob env.scope (Str.ofString "tuple")=true)
  (h:gsQ C.T K env.scope q args k=some r) (kk:∀ d,k d=some r->Cont C F s d Q):wpAny (model C.prog C.w) A (eval (.Call (.Name (Str.ofString "tuple") fp) args [] pos) env) Q E s:=by
 apply oneM h;clear h;intro g h
 apply genM h;clear h;intro elt gens scope gp h
 apply addM h;clear h;intro l op r' bp h
 refine ifE h fun eop h2=>?_
 clear h;subst eop
 apply nameM h2;clear h2;intro x xp h
 apply nameM h;clear h;intro y yp h
 apply compM h;clear h;intro t it ifs h
 apply tupleM h;clear h;intro ts kt tp h
 apply twoM h;clear h;intro t1 t2 h
 apply nameM h;clear h;intro x' xp' h
 apply nameM h;clear h;intro y' yp' h
 apply callM h;clear h;intro f as ks cp h
 refine ifE h fun ek h2=>?_
 clear h
 have ek:=waw ek
 subst ek
 apply nameM h2;clear h2;intro z zp h
 apply twoM h;clear h;intro a b h
 refine viaG fun G hG=>?_
 refine ifE h fun c h=>andE c fun c c8=>andE c fun c c7=>andE c fun c c6=>andE c fun c c5=>andE c fun c c4=>andE c fun c c3=>andE c fun c1 c2=>?_
 refine hG ?_
 clear hG
 have e2:=eq_of_beq c2
 have e4:=eq_of_beq c4
 have e5:=eq_of_beq c5
 have e1:=waw c1
 have hh:=h
 clear c4 c5 c2 c1 h
 subst e4 e5 e2 e1
 exact wpo S X hg c3 (wqR c6) (by simpa using c7) (by simpa using c8) hh kk
end
structure SoundX (C:Fr) (n:Nat) (K:KJ) (CF:Str->List D->Option D) (CM:Str->Str->List D->Option D):Prop where
 ev:SoundEv C n K.ev
 tr:SoundTr C n K.tr
 it:SoundIt C n K.it
 fn:SoundFn C n CF
 meth:SoundMeth C n CM
 kn:Known C
 st:∃ mcs,StOk C mcs
 set:NoSet K.it
section
variable {C:Fr} {F F':FH} {A:Around} {E:Value->Shared->Prop} {s:Shared} {Q:Value->Shared->Prop} {d:D} {env:Env} {q:QV} {n:Nat} {K:KJ} {α:Type} {r:α} {CF:Str->List D->Option D} {CM:Str->Str->List D->Option D}
theorem wme (S:SoundX C n K CF CM) {f:Str} {fp pos:Pos} {args:List Expr} {k:D->Option α} (X:Ok C A n env q F s) (hs:noStar args=true) (h:wmf C.T CF K env.scope q f args k=some r) (kk:∀ d,k d=some r->Cont C F s d Q) :
  wpAny (model C.prog C.w) A (eval (.Call (.Name f fp) args [] pos) env) Q E s:=
 ifE h fun hg h=>iteE h (fun c h=>by
  have e:=eq_of_beq c
  clear c
  subst e
  exact wr8 S.ev X hg h kk) fun _ h=>iteE h (fun c h=>by
  have e:=eq_of_beq c
  clear c
  subst e
  exact wlP S.ev X hg h kk) fun _ h=>by
  revert h
  generalize hb:bname f=o
  intro h
  cases o with
  | none=>exact wpK S.ev S.fn S.kn X hg hs h kk
  | some b=>
   refine iteE h (fun c h2=>andE c fun c2 _=>?_) fun _ h=>wsx S.ev X hg hs hb h kk
   have e:=eq_of_beq c2
   clear c c2 h hb
   subst e
   exact wtg S.ev X hg h2 kk
theorem wr2 (S:SoundX C n K CF CM) {o:Expr} {m:Str} {ap pos:Pos} {args:List Expr} {k:D->Option α} (X:Ok C A n env q F s) (hs:noStar args=true) (h:methQ C.T CM K env.scope q o m ap args pos k=some r) (kk:∀ d,k d=some r->Cont C F s d Q) :
  wpAny (model C.prog C.w) A (eval (.Call (.Attribute o m ap) args [] pos) env) Q E s:=
 nifE h fun c h=>by
  rw [Bool.not_eq_true,Bool.not_eq_false']at c
  refine andE c fun ok hl=>?_
  have hl:=of_decide_eq_true hl
  clear c
  revert h
  generalize hm:mname m=mt
  intro h
  cases mt with
  | none=>exact wmy S.ev S.meth S.kn X ok hl hs h kk
  | some mt=>exact ws4 S.ev X ok hl hs hm h kk
theorem wom (S:SoundX C n K CF CM):SoundEv C n (fun sc q e k=>evSQ C.T CF CM K sc q e k):=by
 intro α A env q e k r F s Q E X h kk
 cases e<;>first | exact noneE h | skip
 case Constant=>exact wq5 X.r.inn h kk
 case Name=>exact wrX X h kk
 case BinOp=>exact wtP S.ev X h kk
 case UnaryOp=>exact wt4 S.ev X h kk
 case BoolOp op es pos=>
  refine wpEq (arm_eval_BoolOp ..) (bindE h fun d h1 h2=>?_)
  cases op with
  | And=>exact wtV S.ev es X h1 (kk d h2)
  | Or=>exact wt8 S.ev es X h1 (kk d h2)
 case IfExp=>exact wuq S.ev S.tr X h kk
 case Compare=>
  apply oneM h;clear h;intro op h
  apply oneM h;clear h;intro r' h
  exact nifE h fun hm h=>wsq S.ev X (Bool.not_eq_true _ ▸ hm) h fun b=>kk _
 case List=>exact wqE S.ev X h kk
 case Tuple=>exact woI S.ev X h kk
 case Dict=>exact wq0 S.ev X h kk
 case ListComp elt gens scope pos=>
  have h2:listCompQ K env.scope q elt gens scope k=some r:=h
  clear h
  refine compE h2 fun t it ifs e _=>?_
  subst e
  exact wpEq (eval_ListComp ..) (whk S.ev S.tr S.it S.set X h2 (fun l h=>wkB rfl (kk _ h)) rfl)
 case DictComp kx vx gens scope pos=>
  have h2:dictCompQ K env.scope q kx vx gens scope k=some r:=h
  clear h
  refine compE h2 fun t it ifs e _=>?_
  subst e
  exact whr S.ev S.tr S.it S.set X h2 (fun l h=>wkB rfl (kk _ h)) rfl
 case Subscript=>exact iteE h (fun _ h=>woO S.ev X h kk) fun hs h=>wrD S.ev X (Bool.not_eq_true _ ▸ hs) h kk
 case Attribute=>
  obtain ⟨mcs,co⟩:=S.st
  exact wpw S.ev co X h kk
 case Call f args ks p=>
  refine ifE h fun c h2=>andE c fun ek hs=>?_
  have ek:=waw ek
  clear h c
  subst ek
  cases f<;>first | exact noneE h2 | skip
  case Name=>exact wme S X hs h2 kk
  case Attribute=>exact wr2 S X hs h2 kk
theorem wt5 (S:SoundX C n K CF CM):SoundTr C n (fun sc q e k=>trSQ C.T K sc q e k):=by
 intro α A env q e k r F s Q E X h kk
 have gen:K.ev env.scope q e (fun d=>boolK d k)=some r->wpAny (model C.prog C.w) A (do let v <- eval e env;standAt e.pos;holding [v] (truthy v)) Q E s:=fun h=>
  wpAny_bind (S.ev X h fun d h v sa F1 xa rv=>wpAny_bind (wpAny_standAt (wpAny_holding (by
   apply boolV (M:=fun v=>wpAny (model C.prog C.w) A (truthy v) Q E sa) h rv;intro b h
   exact wpAny_truthy_bool (kk b h sa F1 xa)))))
 cases e<;>first | exact noneE h | exact gen h | skip
 case UnaryOp op x p=>
  refine iteE h (fun c h2=>?_) fun c h2=>?_
  ·clear h gen
   subst c
   exact wpEq (arm_isTrue_UnaryOp ..) (wpAny_bind (S.tr X h2 fun b h sa F1 xa=>wpAny_pure (kk _ h sa F1 xa)))
  ·have g:=gen h2
   cases op<;>first | exact g | exact absurd rfl c
 case BoolOp op es p=>
  refine wpEq (arm_isTrue_BoolOp ..) (bindE h fun b h1 h2=>?_)
  cases op with
  | And=>exact wrg S.tr es X h1 (kk b h2)
  | Or=>exact wrf S.tr es X h1 (kk b h2)
 case Compare=>
  apply oneM h;clear h;intro op h
  apply oneM h;clear h;intro r' h
  exact nifE h fun hm h=>wsp S.ev X (Bool.not_eq_true _ ▸ hm) h kk
end
section
variable {C:Fr} {F F':FH} {A:Around} {E:Value->Shared->Prop} {s:Shared} {Q:Value->Shared->Prop} {d:D} {env:Env} {q:QV} {n:Nat} {K:KJ} {α:Type} {r:α} {CF:Str->List D->Option D} {CM:Str->Str->List D->Option D}
theorem wge {t:Expr} (h:isNameE t=true):tgtOk .plain t=true/\tgtOk .lst t=true:=by
 cases t<;>first | exact ⟨rfl,rfl⟩ | exact ffE h
theorem wmm {l:List D} (h:seqOf d=some l):isObjD d=false:=by
 cases d<;>first | rfl | exact noneE h
theorem wrB {t:Expr} (h:isNameE t=true) (d:D):tgtOk (itKind d) t=true:=by
 cases d<;>first | exact (wge h).1 | exact (wge h).2
theorem wmE {t:Expr} {v:Value} {k:List D->Option α} {Z:Prop} (hF:F.In s.heap) (vv:View C s.heap F v d) (z:Z->isObjD d=false->∀ b,v=.ref b->F b≠none)
  (h:callSeqT t d k=some r) (kk:∀ ds,k ds=some r->ItQ C (fun b=>Z->F b≠none) F s t ds Q):wpAny (model C.prog C.w) A (pyIter v) Q E s:=
 iteE h (fun hn h=>bindE h fun l e h=>wkg e (wrB hn d) vv hF (fun b e' hz=>z hz (wmm e) b e') (kk l h)) fun _ h=>ifE h fun ht h=>listE h fun l e h=>by
  subst e
  exact wkg (d0:=.list l) rfl ht vv hF (fun b e' hz=>z hz rfl b e') (kk l h)
theorem wqI {t:Expr} {v:Value} {k:List D->Option α} {Z:Prop} (hF:F.In s.heap) (vv:View C s.heap F v d) (z:Z->isObjD d=false->∀ b,v=.ref b->F b≠none)
  (h:seqT t d k=some r) (kk:∀ ds,k ds=some r->ItQ C (fun b=>Z->F b≠none) F s t ds Q):wpAny (model C.prog C.w) A (pyIter v) Q E s:=by
 cases d with
 | dict kvs=>exact iteE h (fun hn h=>wnZ (wge hn).1 vv hF (fun b e' hz=>z hz rfl b e') (kk _ h)) fun _ h=>ifE h fun _ h=>noneE h
 | _=>exact wmE hF vv z h kk
theorem wmK {P:D->Prop} {a:D} (h:P a):∀ d∈[a],P d:=fun d hd=>List.mem_singleton.mp hd ▸ h
theorem wrA {P:D->Prop} {a b:D} (h:P a) (h':P b):∀ d∈[a,b],P d:=fun d hd=>(List.mem_cons.mp hd).elim (fun e=>e ▸ h) fun hd=>wmK h' d hd
theorem wmd (S:SoundEv C n K.ev) {f:Str} {fp pos:Pos} {args:List Expr} {v:Value} {k:List D->Option α} (X:Ok C A n env q F s) (hg:isGlob env.scope f=true) (b:BiOk f v) (hs:noStar args=true) (h:pkLQ C.T K env.scope q args k=some r)
  (kk:∀ ds,k ds=some r->∀ vs s' F',Ext F s F' s'->Views C F' s'.heap.get? ds vs->FzAll q F' ds vs->wpAny (model C.prog C.w) A (call v vs) Q E s') :
  wpAny (model C.prog C.w) A (eval (.Call (.Name f fp) args [] pos) env) Q E s:=
 callBi X hg b hs (whO S args X h kk)
theorem wtb (S:SoundX C n K CF CM) {f:Str} {fp pos:Pos} {args:List Expr} {t:Expr} {k:List D->Option α} (X:Ok C A n env q F s) (hs:noStar args=true) (h:itNQ C.T CF K env.scope q f args t k=some r)
  (kk:∀ ds,k ds=some r->∀ F1 hH,Ext F s F1 hH->ItQ C (fun b=>AllFz q->F1 b≠none) F1 hH t ds Q) :
  wpAny (model C.prog C.w) A (eval (.Call (.Name f fp) args [] pos) env) (fun x sa=>wpAny (model C.prog C.w) A (pyIter x) Q E sa) E s:=
 iteE h (fun c h2=>andE c fun hg c2=>by
  have e:=eq_of_beq c2
  clear c c2 h
  subst e
  exact ifE h2 fun ht h=>wkk S.ev X hg hs h fun a b h ha ha' hb hb' hab z sa F1 t u v xa hr=>wmj ht hr xa.inn ha ha' hb hb' (kk _ h F1 sa xa)) fun _ h=>iteE h (fun c h2=>andE c fun hg c2=>by
  have e:=eq_of_beq c2
  clear c c2 h
  subst e
  exact ifE h2 fun ht h=>wmd S.ev X hg wpR hs h fun ds h vs sa F1 xa vv z=>bindE h fun l e h=>by
   clear h2
   refine twoE (show twoK ds _=some l from e) fun a b qd e2=>listE e2 fun la ea e3=>listE e3 fun lb eb e4=>?_
   clear e e2 e3
   subst ea eb qd
   have e:=Option.some.inj e4
   clear e4
   subst e
   exact woH ht vv xa.inn (fun b hb hz=>z hz (wrA rfl rfl) b hb) (kk _ h F1 sa xa)) fun _ h=>iteE h (fun c h2=>andE c fun hg c2=>by
  have e:=eq_of_beq c2
  clear c c2 h
  subst e
  exact ifE h2 fun ht h=>wmd S.ev X hg wsw hs h fun ds h vs sa F1 xa vv z=>bindE h fun l e h=>by
   clear h2
   refine oneE (show oneK ds _=some l from e) fun a qd e2=>listE e2 fun la ea e4=>?_
   clear e e2
   subst ea qd
   have e:=Option.some.inj e4
   clear e4
   subst e
   exact wn0 ht vv xa.inn (fun b hb hz=>z hz (wmK rfl) b hb) (kk _ h F1 sa xa)) fun _ h=>wme S X hs h fun d h v sa F1 xa rv=>wmE xa.inn (rv.view xa.inn) (fun _ _=>Rep.fz rv) h fun ds h=>kk ds h F1 sa xa
theorem wqK (S:SoundX C n K CF CM) {o:Expr} {ap pos:Pos} {t:Expr} {k:List D->Option α} (X:Ok C A n env q F s) (ok:callOk o ap pos=true) (ht:tgtOk .pairs t=true) (h:(pkQ C.T K env.scope q o fun d=>(itemsQ d).bind k)=some r)
  (kk:∀ ds,k ds=some r->∀ F1 hH,Ext F s F1 hH->ItQ C (fun b=>AllFz q->F1 b≠none) F1 hH t ds Q) :
  wpAny (model C.prog C.w) A (eval (.Call (.Attribute o (Str.ofString "items") ap) [] [] pos) env) (fun x sa=>wpAny (model C.prog C.w) A (pyIter x) Q E sa) E s:=by
 obtain ⟨hb,hline⟩:=wbW (env:=env) (m:=(Str.ofString "items")) ok
 refine wpAny_Call_method_lateS hb rfl hline (wbp S.ev X h fun d h v sa F1 xa vv z=>bindE h fun l e h=>dictE (show dictK d _=some l from e) fun kvs ed e2=>?_)
 clear e
 have e:=Option.some.inj e2
 clear e2
 subst ed
 subst e
 cases vv with | @mk a o es ho hy hd ry=>
 have dy:sa.heap.DictOf (anyKind C.prog C.w) a es:=Heap.dictOf_iff.mpr ⟨_,ho,hd⟩
 obtain ⟨ep,da⟩:=dy.dictAt
 have xb:=Ext.same (s':={ sa with heap:=sa.heap.push { cls:=.type "dict_items",data:=.fields #[.ref a] } }) xa.inn (Keep.push sa.heap { cls:=.type "dict_items",data:=.fields #[.ref a] })
 exact ⟨"dict","dict.items",PySem.F.plainAttrs_dict,PySem.F.slot_dict_items,PySem.F.type_dict_items,dy.typeIs,dy.mapOf.noDict,callWith_method0 (call_meetsIn PySem.F.slot_dict_items dy.typeIs PySem.F.entry_dict_items (PySem.F.args_dict_items_1 _) (meets_dict_items (anyKind C.prog C.w) a hy)
  ⟨⟨es,dy⟩,wmk (s:={ sa with heap:=sa.heap.push { cls:=.type "dict_items",data:=.fields #[.ref a] } }) ht ⟨_,Heap.get?_push_size _ rfl,rfl,rfl⟩ (da.push _) ry xb.inn (fun hz=>z hz rfl a rfl) (kk _ h F1 _ (xa.trans xb))⟩)⟩
theorem wry (S:SoundX C n K CF CM) {o:Expr} {ap pos:Pos} {t:Expr} {k:List D->Option α} (X:Ok C A n env q F s) (ok:callOk o ap pos=true) (ht:tgtOk .plain t=true) (h:(pkQ C.T K env.scope q o fun d=>(valsQ d).bind k)=some r)
  (kk:∀ ds,k ds=some r->∀ F1 hH,Ext F s F1 hH->ItQ C (fun b=>AllFz q->F1 b≠none) F1 hH t ds Q) :
  wpAny (model C.prog C.w) A (eval (.Call (.Attribute o (Str.ofString "values") ap) [] [] pos) env) (fun x sa=>wpAny (model C.prog C.w) A (pyIter x) Q E sa) E s:=by
 obtain ⟨hb,hline⟩:=wbW (env:=env) (m:=(Str.ofString "values")) ok
 refine wpAny_Call_method_lateS hb rfl hline (wbp S.ev X h fun d h v sa F1 xa vv z=>bindE h fun l e h=>dictE (show dictK d _=some l from e) fun kvs ed e2=>?_)
 clear e
 have e:=Option.some.inj e2
 clear e2
 subst ed
 subst e
 cases vv with | @mk a o es ho hy hd ry=>
 have dy:sa.heap.DictOf (anyKind C.prog C.w) a es:=Heap.dictOf_iff.mpr ⟨_,ho,hd⟩
 obtain ⟨ep,da⟩:=dy.dictAt
 have xb:=Ext.same (s':={ sa with heap:=sa.heap.push { cls:=.type "dict_values",data:=.fields #[.ref a] } }) xa.inn (Keep.push sa.heap { cls:=.type "dict_values",data:=.fields #[.ref a] })
 exact ⟨"dict","dict.values",PySem.F.plainAttrs_dict,PySem.F.slot_dict_values,PySem.F.type_dict_values,dy.typeIs,dy.mapOf.noDict,callWith_method0 (call_meetsIn PySem.F.slot_dict_values dy.typeIs PySem.F.entry_dict_values (PySem.F.args_dict_values_1 _) (meets_dict_values (anyKind C.prog C.w) a hy)
  ⟨⟨es,dy⟩,wnY (s:={ sa with heap:=sa.heap.push { cls:=.type "dict_values",data:=.fields #[.ref a] } }) ht ⟨_,Heap.get?_push_size _ rfl,rfl,rfl⟩ (da.push _) ry xb.inn (fun hz=>z hz rfl a rfl) (kk _ h F1 _ (xa.trans xb))⟩)⟩
theorem wtc (S:SoundX C n K CF CM) {o:Expr} {m:Str} {ap pos:Pos} {args:List Expr} {t:Expr} {k:List D->Option α} (X:Ok C A n env q F s) (h:itAQ C.T K env.scope q o m ap args pos t k=some r)
  (kk:∀ ds,k ds=some r->∀ F1 hH,Ext F s F1 hH->ItQ C (fun b=>AllFz q->F1 b≠none) F1 hH t ds Q) :
  wpAny (model C.prog C.w) A (eval (.Call (.Attribute o m ap) args [] pos) env) (fun x sa=>wpAny (model C.prog C.w) A (pyIter x) Q E sa) E s:=by
 refine nifE h fun ok h2=>nifE h2 fun ea h3=>?_
 clear h h2
 rw [Bool.not_eq_true,Bool.not_eq_false']at ok ea
 have ea:=waw ea
 subst ea
 refine iteE h3 (fun c h4=>?_) fun _ h5=>ifE h5 fun c h4=>?_
 ·have e:=eq_of_beq c
  clear c h3
  subst e
  exact ifE h4 fun ht h=>wqK S X ok ht h kk
 ·have e:=eq_of_beq c
  clear c h3 h5
  subst e
  exact ifE h4 fun ht h=>wry S X ok ht h kk
theorem wun (S:SoundX C n K CF CM):SoundIt C n (fun sc q e t k=>itSQ C.T CF K sc q e t k):=by
 intro α A env q e t k r F s Q E X h kk
 have gen:(pkQ C.T K env.scope q e fun d=>seqT t d k)=some r->wpAny (model C.prog C.w) A (eval e env) (fun x sa=>wpAny (model C.prog C.w) A (pyIter x) Q E sa) E s:=fun h=>
  wbp S.ev X h fun d h v sa F1 xa vv z=>wqI xa.inn vv z h fun ds h=>kk ds h F1 sa xa
 cases e<;>first | exact noneE h | exact gen h | skip
 case Call f args ks p=>
  clear gen
  refine ifE h fun c h2=>andE c fun ek hs=>?_
  have ek:=waw ek
  clear h c
  subst ek
  cases f<;>first | exact noneE h2 | skip
  case Name=>exact wtb S X hs h2 kk
  case Attribute=>exact wtc S X h2 kk
end
structure Stp (F:FH) (W:Addr->Prop) (s:Shared) (F':FH) (W':Addr->Prop) (s':Shared):Prop where
 le:F.le F'
 keep:∀ b o,¬ W b->¬ Tab0 o->s.heap.get? b=some o->s'.heap.get? b=some o
 tab:∀ b o,¬ W b->Tab0 o->s.heap.get? b=some o->∃ o',s'.heap.get? b=some o'/\Grown o o'
 alive:∀ b,s.heap.get? b≠none->s'.heap.get? b≠none
 w:∀ b,W' b->W b\/s.heap.get? b=none
 f:∀ b o,F' b=some o->F b=some o\/W b\/s.heap.get? b=none
 calm:Calm s s'
noncomputable abbrev orTab (C:Fr) (W:Addr->Prop):Addr->Prop:=fun b=>W b\/b=tabAt C
structure FnRel (C:Fr) (env:Env) (F:FH) (W:Addr->Prop) (h:Heap) (q:QV):Prop where
 st:StRel C env F W (orTab C W) h env.scope q
 cW:∀ x c,env.cells.lookup x=some c->W c
 oW:Owns env h q W
 oo:∀ ⦃x y d d' v v'⦄,x≠y->lookq x q=some (.own d)->lookq y q=some (.own d')->isVar env.scope x=true->isVar env.scope y=true->Holds env h x v->Holds env h y v'->∀ a∈tops h.get? v,a ∉ tops h.get? v'
 sf:∀ ⦃x c fs v⦄,lookq x q=some (.own (.obj c fs))->isVar env.scope x=true->Holds env h x v->v=.ref (env.locals - 1)
section
variable {C:Fr} {F F':FH} {A:Around} {E:Value->Shared->Prop} {s s':Shared} {d d':D} {env:Env} {q q':QV} {n:Nat} {W W':Addr->Prop} {h h':Heap} {a₀:Addr} {x:Str} {v:Value} {sl:Slot}
theorem Stp.refl:Stp F W s F W s:=⟨FH.le.refl F,fun _ _ _ _ e=>e,fun b o _ t e=>⟨o,e,.refl t⟩,fun _ e=>e,fun _ e=>.inl e,fun _ _ e=>.inl e,.refl s⟩
theorem noAt {b:Addr} {o:Obj} (e:h.get? b=some o) (e':h.get? b=none) {P:Prop}:P:=noneE (e'.symm.trans e)
theorem Stp.trans {F1 F2:FH} {W1 W2:Addr->Prop} {sa s₂:Shared} (x:Stp F W s F1 W1 sa) (y:Stp F1 W1 sa F2 W2 s₂):Stp F W s F2 W2 s₂:=by
 have nw:∀ {b o},¬ W b->s.heap.get? b=some o->¬ W1 b:=fun {b o} hb e q=>(x.w b q).elim hb fun q=>noAt e q
 have dead:∀ b,sa.heap.get? b=none->s.heap.get? b=none:=fun b e=>by
  cases q:s.heap.get? b with
  | none=>rfl
  | some o=>exact absurd e (x.alive b (by rw [q];exact wav))
 exact ⟨x.le.trans y.le,fun b o hb n e=>y.keep b o (nw hb e) n (x.keep b o hb n e),
  fun b o hb t e=>by obtain ⟨o',e',t'⟩:=x.tab b o hb t e;obtain ⟨o'',e'',t''⟩:=y.tab b o' (nw hb e) t'.tab e';exact ⟨o'',e'',t'.trans t''⟩,fun b e=>y.alive b (x.alive b e),
  fun b q=>(y.w b q).elim (x.w b) fun q=>.inr (dead b q),
  fun b o q=>(y.f b o q).elim (x.f b o) fun q=>q.elim (fun q=>.inr (x.w b q)) fun q=>.inr (.inr (dead b q)),x.calm.trans y.calm⟩
theorem Stp.of (x:Ext F s F' s'):Stp F W s F' W s':=
 ⟨x.le,fun b o _ n e=>x.keep.at_ b o e n,fun b o _ t e=>x.keep.tab b o e t,fun b e=>x.keep.alive e,fun _ q=>.inl q,fun b o q=>(x.new b o q).imp_right .inr,x.calm⟩
theorem Stp.sameBut {a:Addr} (hw:W a) (hs:Heap.SameBut a s.heap s'.heap) (ha:s'.heap.get? a≠none) (c:Calm s s':=by first | exact ⟨rfl,fun x=>x⟩ | assumption):Stp F W s F W s':=
 have k:=wkh hw hs
 ⟨FH.le.refl F,fun b o hb _ e=>k b o hb e,fun b o hb t e=>⟨o,k b o hb e,.refl t⟩,fun b e=>wf8 hs ha e,fun _ q=>.inl q,fun _ _ q=>.inl q,c⟩
theorem Stp.widen (x:Stp F W s F' W s') (hw:∀ b,W' b->W b\/s.heap.get? b=none):Stp F W s F' W' s':=⟨x.le,x.keep,x.tab,x.alive,hw,x.f,x.calm⟩
theorem Stp.mono (x:Stp F W s F W s') (hle:∀ b,W b->W' b):Stp F W' s F W' s':=
 ⟨x.le,fun b o hb n e=>x.keep b o (fun q=>hb (hle b q)) n e,fun b o hb t e=>x.tab b o (fun q=>hb (hle b q)) t e,x.alive,fun b q=>.inl q,fun b o q=>(x.f b o q).imp_right fun q=>q.imp_left (hle b),x.calm⟩
theorem Stp.but {sa s₂:Shared} {P:Addr->Prop} (x:Stp F W s F' W' sa) (hP:∀ b,P b->s.heap.get? b=none) (k:∀ b o,¬ P b->sa.heap.get? b=some o->s₂.heap.get? b=some o) (c:Calm sa s₂:=by first | exact ⟨rfl,fun x=>x⟩ | assumption):Stp F W s F' W' s₂:=by
 have np:∀ b o,s.heap.get? b=some o->¬ P b:=fun b o e q=>noAt e (hP b q)
 refine ⟨x.le,fun b o hb n e=>k b o (np b o e) (x.keep b o hb n e),fun b o hb t e=>by obtain ⟨o',e',t'⟩:=x.tab b o hb t e;exact ⟨o',k b o' (np b o e) e',t'⟩,fun b e=>?_,x.w,x.f,x.calm.trans c⟩
 cases q:s.heap.get? b with
 | none=>exact absurd q e
 | some o=>
  cases q1:sa.heap.get? b with
  | none=>exact absurd q1 (x.alive b e)
  | some o1=>rw [k b o1 (np b o q) q1];exact wav
theorem Stp.ext {s₀:Shared} (x:Stp F W s F' W' s') (k:KeepT s₀.heap s.heap) (c:Calm s₀ s) (hw:∀ b,W b->s₀.heap.get? b=none) (i:F'.In s'.heap):Ext F s₀ F' s':=by
 have nw:∀ b o,s₀.heap.get? b=some o->¬ W b:=fun b o e q=>noAt e (hw b q)
 refine ⟨x.le,i,⟨fun b o e n=>x.keep b o (nw b o e) n (k.at_ b o e n),fun b o e t=>?_⟩,fun b o q=>(x.f b o q).imp_right fun q=>q.elim (hw b) fun q=>k.gone q,c.trans x.calm⟩
 obtain ⟨o',e',t'⟩:=k.tab b o e t
 obtain ⟨o'',e'',t''⟩:=x.tab b o' (nw b o e) t'.tab e'
 exact ⟨o'',e'',t'.trans t''⟩
theorem FnRel.mv (r:FnRel C env F W h q) (st:StRel C env F' W (orTab C W) h' env.scope q') (z:Still env h h' q q'):FnRel C env F' W h' q':=
 ⟨st,r.cW,r.oW.mv z fun _=>id,fun x y d d' v v' hn hl hl' hv hv' hh hh' a ha=>by
  obtain ⟨h1,h2,h3⟩:=z hl hv hh
  obtain ⟨g1,g2,g3⟩:=z hl' hv' hh'
  rw [h3]at ha;rw [g3]
  exact r.oo hn h1 g1 hv hv' h2 g2 a ha,fun x c fs v hl hv hh=>by obtain ⟨h1,h2,_⟩:=z hl hv hh;exact r.sf h1 hv h2⟩
theorem FnRel.ext (r:FnRel C env F W s.heap q) (x:Ext F s F' s'):FnRel C env F' W s'.heap q:=r.mv (r.st.ext x) (r.st.rel.stillX x)
theorem FnRel.less (r:FnRel C env F W h q) (le:QLe q' q):FnRel C env F W h q':=r.mv (r.st.less le) fun _ _ _ hl _ hh=>⟨le hl,hh,rfl⟩
theorem FnRel.touch {P:Addr->Prop} (r:FnRel C env F W h q) (hk:∀ b o,¬ P b->h.get? b=some o->h'.get? b=some o) (h1:∀ b,P b->F b=none) (h2:∀ b,P b->¬ W b) (h3:¬ P (tabAt C)):FnRel C env F W h' q:=by
 obtain ⟨a,_,c⟩:=r.st.touch hk h1 h2 fun b q q2=>q2.elim (h2 b q) fun e=>h3 (e ▸ q)
 exact r.mv a c
theorem FnRel.grow (r:FnRel C env F W h q) (hle:∀ b,W b->W' b) (hw:∀ b,W' b->F b=none/\h.get? b≠none/\b≠tabAt C):FnRel C env F W' h q:=
 ⟨{ r.st with
   wF:=fun b q=>(hw b q).1,wIn:=fun b q=>(hw b q).2.1,wL:=hle _ r.st.wL
   set:=fun y hy=>(r.st.set y hy).imp_right fun ⟨a,c,v,e,q,hc⟩=>⟨a,c,v,e,hle _ q,hc⟩
   cB:=fun x c e=>.inr (hle _ (r.cW x c e)),oB:=fun x d v hl hv hh a ha=>.inl (hle _ (r.oW hl hv hh a ha)),tW:=fun q=>(hw _ q).2.2 rfl,tB:=.inr rfl },
  fun x c e=>hle _ (r.cW x c e),fun x d v hl hv hh a ha=>hle _ (r.oW hl hv hh a ha),r.oo,r.sf⟩
theorem FnRel.bound (r:FnRel C env F W h q) (hw:W a₀) (b:Bnd C env F a₀ h h' x v sl)
  (ow:∀ d,sl=.own d->(∀ a∈tops h.get? v,W a/\∀ y d' u,y≠x->lookq y q=some (.own d')->isVar env.scope y=true->Holds env h y u->a ∉ tops h.get? u)/\isObjD d=false):FnRel C env F W h' (setq x sl q) where
 st:=r.st.bound hw b fun d e a ha=>.inl ((ow d e).1 a ha).1
 cW:=r.cW
 oW y d u hl hv hh a ha:=b.el r.st.rel hl hv hh (fun _ e e2 e3=>((ow d e).1 a (e2 ▸ e3 ▸ ha)).1) fun _ hl hh e3=>r.oW hl hv hh a (e3 ▸ ha)
 oo y z d d' u u' hn hl hl' hv hv' hh hh' a ha hb:=
  b.el r.st.rel hl hv hh (fun e0 e e2 e3=>b.el r.st.rel hl' hv' hh' (fun g0 _ _ _=>hn (e0.trans g0.symm)) fun g0 gl gh g3=>((ow d e).1 a (e2 ▸ e3 ▸ ha)).2 z d' u' g0 gl hv' gh (g3 ▸ hb)) fun e0 el eh e3=>
   b.el r.st.rel hl' hv' hh' (fun g0 g g2 g3=>((ow d' g).1 a (g2 ▸ g3 ▸ hb)).2 y d u e0 el hv eh (e3 ▸ ha)) fun _ gl gh g3=>r.oo hn el gl hv hv' eh gh a (e3 ▸ ha) (g3 ▸ hb)
 sf y c fs u hl hv hh:=b.el r.st.rel hl hv hh (fun _ e _ _=>ffE (ow _ e).2.symm) fun _ hl hh _=>r.sf hl hv hh
structure Upd (C:Fr) (env:Env) (F:FH) (q:QV) (a₀:Addr) (h h':Heap) (x:Str) (v:Value) (d d':D):Prop where
 hl:lookq x q=some (.own d)
 hv:isVar env.scope x=true
 hh:Holds env h x v
 but:Heap.SameBut a₀ h h'
 mem:a₀∈tops h.get? v
 view:View C h' F v d'
 tops:tops h'.get? v=tops h.get? v
 obj:isObjD d'=isObjD d
theorem Holds.same {y:Str} {u:Value} (hs:Heap.SameBut a₀ h h') (ap:Apart env a₀) (hu:Holds env h y u):Holds env h' y u:=by
 rcases hu with ⟨a,m,n,e⟩ | ⟨a,c,e,o,ho,hd⟩
 ·exact .inl ⟨a,m,n.sameBut hs (Ne.symm ap.1),e⟩
 ·exact .inr ⟨a,c,e,o,by rw [hs.2 c (ap.2 y c e)];exact ho,hd⟩
theorem Upd.el {P:Prop} (u:Upd C env F q a₀ h h' x v d d') (r:FnRel C env F W h q) {y:Str} {e:D} {w:Value} (hl:lookq y (setq x (.own d') q)=some (.own e)) (hv:isVar env.scope y=true) (hh:Holds env h' y w)
  (f:y=x->e=d'->w=v->P) (g:y≠x->lookq y q=some (.own e)->Holds env h y w->Mine.Py.tops h'.get? w=Mine.Py.tops h.get? w->View C h' F w e->P):P:=by
 have ap:=r.st.rel.own u.hl u.hv u.hh a₀ u.mem
 exact setqE hl (fun e1 e2=>by
  subst e1
  exact f rfl (Slot.own.inj e2).symm (hh.fn (u.hh.same u.but ap))) fun hn hl=>by
  obtain ⟨w',h1,h2⟩:=r.st.rel.vars hl hv
  have e:=hh.fn (h1.same u.but ap);subst e
  have hk:∀ a∈Mine.Py.tops h.get? w,∀ o,h.get? a=some o->h'.get? a=some o:=fun a hta o e=>by
   rw [u.but.2 a fun q=>r.oo (Ne.symm hn) u.hl hl u.hv hv u.hh h1 a₀ u.mem (q ▸ hta)];exact e
  exact g hn hl h1 (wcL h2 hk) (Vw.gen (FH.le.refl F) e (fun b hb o e _=>hk b hb o e) h2)
theorem FnRel.upd0 (r:FnRel C env F W h q) (u:Upd C env F q a₀ h h' x v d d'):W a₀/\h'.get? a₀≠none/\FnRel C env F W h' (setq x (.own d') q):=by
 have ap:=r.st.rel.own u.hl u.hv u.hh a₀ u.mem
 have hw:=r.oW u.hl u.hv u.hh a₀ u.mem
 have ha:h'.get? a₀≠none:=Vw.alive u.view (u.tops ▸ u.mem)
 have oB:∀ {P:Addr->Prop},Owns env h q P->Owns env h' (setq x (.own d') q) P:=fun o y e w hl hv hh a ha=>u.el r hl hv hh (fun _ _ e2=>o u.hl u.hv u.hh a (u.tops ▸ e2 ▸ ha)) fun _ hl hh e3 _=>o hl hv hh a (e3 ▸ ha)
 refine ⟨hw,ha,r.st.step hw u.but ha (by obtain ⟨m,n⟩:=r.st.ns;exact ⟨m,n.sameBut u.but (Ne.symm ap.1)⟩) (fun y c w e hc=>⟨w,by obtain ⟨o,ho,hd⟩:=hc;exact ⟨o,by rw [u.but.2 c (ap.2 y c e)];exact ho,hd⟩⟩)
  (fun {y sl} hl hv=>setqE hl (fun e e'=>by subst e;subst e';exact ⟨v,u.hh.same u.but ap,u.view⟩) fun hn hl'=>by
   obtain ⟨w,h1,h2⟩:=r.st.rel.vars hl' hv
   refine ⟨w,h1.same u.but ap,?_⟩
   cases sl with
   | fz d=>exact h2
   | own d=>exact u.el r hl hv (h1.same u.but ap) (fun e=>absurd e hn) fun _ _ _ _ g=>g) (oB r.st.rel.own) (oB r.st.oB),r.cW,oB r.oW,fun y z e e' w w' hn hl hl' hv hv' hh hh' a ha hb=>?_,fun y c fs w hl hv hh=>?_⟩
 ·exact u.el r hl hv hh (fun e0 _ e2=>u.el r hl' hv' hh' (fun g0 _ _=>hn (e0.trans g0.symm)) fun g0 gl gh g3 _=>r.oo (Ne.symm g0) u.hl gl u.hv hv' u.hh gh a (u.tops ▸ e2 ▸ ha) (g3 ▸ hb)) fun e0 el eh e3 _=>
   u.el r hl' hv' hh' (fun _ _ g2=>r.oo e0 el u.hl hv u.hv eh u.hh a (e3 ▸ ha) (u.tops ▸ g2 ▸ hb)) fun _ gl gh g3 _=>r.oo hn el gl hv hv' eh gh a (e3 ▸ ha) (g3 ▸ hb)
 ·exact u.el r hl hv hh (fun _ e e2=>by
   have:=u.obj
   have hl:=u.hl
   rw [<- e]at this
   cases d<;>first | exact ffE this.symm | exact e2 ▸ r.sf hl u.hv u.hh) fun _ hl hh _ _=>r.sf hl hv hh
theorem FnRel.upd (r:FnRel C env F W s.heap q) (u:Upd C env F q a₀ s.heap s'.heap x v d d') (c:Calm s s':=by first | exact ⟨rfl,fun x=>x⟩ | assumption):FnRel C env F W s'.heap (setq x (.own d') q)/\Stp F W s F W s':=by
 obtain ⟨hw,ha,r'⟩:=r.upd0 u
 exact ⟨r',Stp.sameBut hw u.but ha c⟩
theorem wrx (view:View C h F v d) (hd:isListD d=true):∃ a o,v=.ref a/\h.get? a=some o/\tops h.get? v=[a]/\∀ F',F.le F'->F' a=some o->Rep C F' v d:=by
 cases d<;>first | exact ffE hd | skip
 ·cases view with | mk e r=>exact ⟨_,_,rfl,e,waX e rfl,fun F' le ef=>.mk ef (RepAll.mono le _ r)⟩
 ·cases view with | mk e y z r=>exact ⟨_,_,rfl,e,waX e (by obtain ⟨_,_,x,_⟩:=z;exact x.2.1),fun F' le ef=>.mk ef y z (RepKV.mono le _ r)⟩
theorem FnRel.frz1 (r:FnRel C env F W h q):∃ F' W',FnRel C env F' W' h (wol env.scope x q)/\∀ s:Shared,s.heap=h->Stp F W s F' W' s:=by
 have stay:∃ F' W',FnRel C env F' W' h q/\∀ s:Shared,s.heap=h->Stp F W s F' W' s:=⟨F,W,r,fun _ _=>Stp.refl⟩
 unfold wol
 by_cases hv:isVar env.scope x=true
 ·rw [if_pos hv]
  generalize hl:lookq x q=o
  rcases o with _ | d | d
  ·exact stay
  ·exact stay
  ·show ∃ F' W',FnRel C env F' W' h (if isListD d then setq x (.fz d) q else q)/\_
   by_cases hd:isListD d=true
   ·rw [if_pos hd]
    obtain ⟨v,hh,view⟩:=r.st.rel.vars hl hv
    obtain ⟨a,o,rfl,ea,ht,rep⟩:=wrx view hd
    have hat:a∈tops h.get? (.ref a):=waI a
    have hw:=r.oW hl hv hh a hat
    have hfa:=r.st.wF a hw
    obtain ⟨n1,n2⟩:=r.st.rel.own hl hv hh a hat
    have le:F.le (F.put a o):=FH.le_put hfa
    have other:∀ {y e},lookq y (setq x (.fz d) q)=some (.own e)->y≠x/\lookq y q=some (.own e):=fun hl=>setqE hl (fun _ e=>Slot.noConfusion e) fun a b=>⟨a,b⟩
    have al:∀ {y e u},lookq y (setq x (.fz d) q)=some (.own e)->isVar env.scope y=true->Holds env h y u->∀ b∈tops h.get? u,W b/\b≠a:=fun hly hvy hhy b hb=>
     ⟨r.oW (other hly).2 hvy hhy b hb,fun e=>r.oo (Ne.symm (other hly).1) hl (other hly).2 hv hvy hh hhy a hat (e ▸ hb)⟩
    refine ⟨F.put a o,fun b=>W b/\b≠a,⟨{ r.st with
     rel:={ r.st.rel with
      inn:=fun b ob e=>by
       unfold FH.put at e
       by_cases c:b=a
       ·rw [if_pos c]at e;rw [c,<- e];exact ea
       ·rw [if_neg c]at e;exact r.st.rel.inn b ob e
      vars:=fun {y sl} hly hvy=>setqE hly (fun e e'=>by subst e;subst e';exact ⟨_,hh,rep _ le (FH.put_self _ _ _)⟩) fun _ hly=>by
       obtain ⟨u,h1,h2⟩:=r.st.rel.vars hly hvy
       refine ⟨u,h1,?_⟩
       cases sl with
       | fz d=>exact Rep.mono h2 le
       | own d=>exact Vw.mono h2 (FH.le.refl _) le
      own:=fun y e u hly=>r.st.rel.own (other hly).2
      ftab:=by unfold FH.put;rw [if_neg fun q:tabAt C=a=>r.st.tW (q ▸ hw)];exact r.st.rel.ftab
      code:=fun q=>by obtain ⟨c,e,z⟩:=r.st.rel.code q;exact ⟨c,e,z.mono le⟩ }
     wF:=fun b q=>by unfold FH.put;rw [if_neg q.2];exact r.st.wF b q.1
     wIn:=fun b q=>r.st.wIn b q.1
     wL:=⟨r.st.wL,Ne.symm n1⟩
     set:=fun y hy=>(r.st.set y hy).imp_right fun ⟨z,c,u,e,q,hc⟩=>⟨z,c,u,e,⟨q,n2 y c e⟩,hc⟩
     cB:=fun y c e=>.inr ⟨r.cW y c e,n2 y c e⟩
     oB:=fun y e u hly hvy hhy b hb=>.inl (al hly hvy hhy b hb)
     tW:=fun q=>r.st.tW q.1
     tB:=.inr rfl },fun y c e=>⟨r.cW y c e,n2 y c e⟩,fun y e u hly hvy hhy b hb=>al hly hvy hhy b hb,
     fun y z e e' u u' hn hly hlz=>r.oo hn (other hly).2 (other hlz).2,fun y c fs u hly=>r.sf (other hly).2⟩,fun s hs=>?_⟩
    subst hs
    refine ⟨le,fun b o _ _ e=>e,fun b o _ t e=>⟨o,e,.refl t⟩,fun _ e=>e,fun b q=>.inl q.1,fun b ob q=>?_,.refl _⟩
    unfold FH.put at q
    by_cases c:b=a
    ·exact .inr (.inl (c ▸ hw))
    ·rw [if_neg c]at q;exact .inl q
   ·rw [if_neg hd];exact stay
 ·rw [if_neg hv];exact stay
theorem FnRel.frz (xs:List Str):∀ {F:FH} {W:Addr->Prop} {q:QV},FnRel C env F W h q->∃ F' W',FnRel C env F' W' h (frzq env.scope xs q)/\∀ s:Shared,s.heap=h->Stp F W s F' W' s:=by
 induction xs with
 | nil=>intro F W q r;exact ⟨F,W,r,fun _ _=>Stp.refl⟩
 | cons x xs ih=>
  intro F W q r
  obtain ⟨F1,W1,rg,sa⟩:=r.frz1 (x:=x)
  obtain ⟨F2,W2,rc,s₂⟩:=ih rg
  exact ⟨F2,W2,rc,fun s hs=>(sa s hs).trans (s₂ s hs)⟩
end
noncomputable def FlQ (C:Fr) (next brk cont:QV->Option D) (ret:D->Option D) (r:D) (F:FH) (q:QV):Flow->Prop
 | .next=>next q=some r
 | .brk=>brk q=some r
 | .cont=>cont q=some r
 | .ret v=>∃ d,ret d=some r/\Rep C F v d
noncomputable def ExQ (C:Fr) (env:Env) (F:FH) (W:Addr->Prop) (s:Shared) (next brk cont:QV->Option D) (ret:D->Option D) (r:D) (Q:Flow->Shared->Prop):Prop:=
 ∀ ⦃s' F' W' q' f⦄,Stp F W s F' W' s'->FnRel C env F' W' s'.heap q'->FlQ C next brk cont ret r F' q' f->Q f s'
noncomputable def NxQ (C:Fr) (env:Env) (F:FH) (W:Addr->Prop) (s:Shared) (next:QV->Option D) (r:D) (Q:Flow->Shared->Prop):Prop:=
 ∀ ⦃s' F' W' q'⦄,Stp F W s F' W' s'->FnRel C env F' W' s'.heap q'->next q'=some r->Q .next s'
structure Fk (C:Fr) (A:Around) (n:Nat) (env:Env) (q:QV) (F:FH) (W:Addr->Prop) (s:Shared):Prop where
 R:Room A n
 g:Gd C F
 r:FnRel C env F W s.heap q
noncomputable def SoundEx (C:Fr) (n:Nat) (exs:Cx->Scope->QV->List Stmt->(QV->Option D)->(QV->Option D)->(QV->Option D)->(D->Option D)->Option D):Prop:=
 ∀ {A:Around} {env:Env} {c:Cx} {q:QV} {l:List Stmt} {next brk cont:QV->Option D} {ret:D->Option D} {r:D} {F:FH} {W:Addr->Prop} {s:Shared} {Q:Flow->Shared->Prop} {E:Value->Shared->Prop},
  Fk C A n env q F W s->exs c env.scope q l next brk cont ret=some r->ExQ C env F W s next brk cont ret r Q->wpAny (model C.prog C.w) A (execs l env) Q E s
structure OwnV (C:Fr) (F:FH) (h:Heap) (a:Addr) (d:D):Prop where
 view:View C h F (.ref a) d
 top:tops h.get? (.ref a)=[a]
 fr:F a=none
 ld:isListD d=true
noncomputable def OwnQ (C:Fr) (F:FH) (s:Shared) (d:D) (Q:Value->Shared->Prop):Prop:=∀ ⦃a s' F'⦄,s.heap.get? a=none->Ext F s F' s'->OwnV C F' s'.heap a d->Q (.ref a) s'
section
variable {C:Fr} {F F':FH} {A:Around} {E:Value->Shared->Prop} {s s':Shared} {d d':D} {env:Env} {q q':QV} {n:Nat} {W W':Addr->Prop} {h h':Heap} {a₀ a:Addr} {x:Str} {v:Value} {sl:Slot} {K:KJ} {r:D}
 {CF:Str->List D->Option D} {CM:Str->Str->List D->Option D} {next brk cont:QV->Option D} {ret:D->Option D}
theorem Fk.ok (X:Fk C A n env q F W s):Ok C A n env q F s:=⟨X.R,X.g,X.r.st.rel⟩
theorem Fk.ext (X:Fk C A n env q F W s) (x:Ext F s F' s'):Fk C A n env q F' W s':=⟨X.R,X.g.mono x.le,X.r.ext x⟩
theorem Fk.to (X:Fk C A n env q F W s) (y:Stp F W s F' W' s') (r:FnRel C env F' W' s'.heap q'):Fk C A n env q' F' W' s':=⟨X.R,X.g.mono y.le,r⟩
theorem ExQ.after {Q:Flow->Shared->Prop} (k:ExQ C env F W s next brk cont ret r Q) (x:Stp F W s F' W' s'):ExQ C env F' W' s' next brk cont ret r Q:=fun _ _ _ _ _ y r i=>k (x.trans y) r i
theorem ExQ.nx {Q:Flow->Shared->Prop} (k:ExQ C env F W s next brk cont ret r Q):NxQ C env F W s next r Q:=fun _ _ _ _ y r i=>k (f:=.next) y r i
theorem NxQ.after {Q:Flow->Shared->Prop} (k:NxQ C env F W s next r Q) (x:Stp F W s F' W' s'):NxQ C env F' W' s' next r Q:=fun _ _ _ _ y r i=>k (x.trans y) r i
theorem OwnV.alive (o:OwnV C F h a d):h.get? a≠none:=Vw.alive o.view (waI a)
theorem OwnV.ext (o:OwnV C F s.heap a d) (x:Ext F s F' s'):OwnV C F' s'.heap a d:=
 ⟨o.view.ext x,(wf6 o.view fun b _ ob e nt=>x.keep.at_ b ob e nt).trans o.top,x.still o.fr o.alive,o.ld⟩
theorem OwnV.at' (o:OwnV C F h a d) (e:h'.get? a=h.get? a):OwnV C F h' a d:=
 have hk:∀ b∈tops h.get? (.ref a),∀ ob,h.get? b=some ob->h'.get? b=some ob:=fun b hb ob eb=>by
  rw [o.top]at hb
  have q:=List.mem_singleton.mp hb;subst q
  rw [e];exact eb
 ⟨Vw.gen (FH.le.refl F) d (fun b hb ob eb _=>hk b hb ob eb) o.view,(wcL o.view hk).trans o.top,o.fr,o.ld⟩
theorem wkI {Q:Unit->Shared->Prop} (r:FnRel C env F W s.heap q) (hx:canSet env.scope x=true) (ok:SlotOk C s.heap F v sl)
  (ow:∀ d,sl=.own d->(∀ a∈tops s.heap.get? v,W a/\Apart env a/\∀ y d' u,y≠x->lookq y q=some (.own d')->isVar env.scope y=true->Holds env s.heap y u->a ∉ tops s.heap.get? u)/\isObjD d=false)
  (k:∀ a₀ s',W a₀->(∀ d,sl=.own d->a₀ ∉ tops s.heap.get? v)->Heap.SameBut a₀ s.heap s'.heap->FnRel C env F W s'.heap (setq x sl q)->Stp F W s F W s'->Q () s'):wpAny (model C.prog C.w) A (bindName env x v) Q E s:=
 wiO r.st hx fun a₀ h' tk hw g h1 h2=>k a₀ { s with heap:=h',toks:=tk } hw (fun d e q=>((ow d e).1 a₀ q).2.1.ne g.pl rfl) g.but
  (r.bound hw ⟨g,h1,h2,ok,fun d e a ha=>((ow d e).1 a ha).2.1⟩ fun d e=>⟨fun a ha=>⟨((ow d e).1 a ha).1,((ow d e).1 a ha).2.2⟩,(ow d e).2⟩) (Stp.sameBut hw g.but g.ha)
theorem wcO {Q:Unit->Shared->Prop} (r:FnRel C env F W s.heap q) (hx:canSet env.scope x=true) (rv:Rep C F v d)
  (k:∀ a₀ s',W a₀->Heap.SameBut a₀ s.heap s'.heap->FnRel C env F W s'.heap (setq x (.fz d) q)->Stp F W s F W s'->Q () s'):wpAny (model C.prog C.w) A (bindName env x v) Q E s:=
 wkI (sl:=.fz d) r hx rv (fun _ e=>Slot.noConfusion e) fun a₀ s' h1 _=>k a₀ s' h1
theorem wn8 (h:isListD d=true):isObjD d=false:=by cases d<;>first | rfl | exact ffE h
theorem wjU {Q:Unit->Shared->Prop} (r:FnRel C env F W s.heap q) (hx:canSet env.scope x=true) (o:OwnV C F s.heap a d) (hw:¬ W a)
  (k:∀ a₀ s',W a₀->Heap.SameBut a₀ s.heap s'.heap->FnRel C env F (fun b=>W b\/b=a) s'.heap (setq x (.own d) q)->Stp F W s F W s'->Q () s'):wpAny (model C.prog C.w) A (bindName env x (.ref a)) Q E s:=by
 have hta:=waI (G:=s.heap.get?) a
 have hnt:a≠tabAt C:=fun q=>by
  obtain ⟨ob,e,t⟩:=r.st.rel.tab
  obtain ⟨o',e',n⟩:=Vw.top o.view hta
  rw [q,e]at e'
  exact n (Option.some.inj e' ▸ t)
 have r':FnRel C env F (fun b=>W b\/b=a) s.heap q:=r.grow (fun b q=>.inl q) fun b q=>q.elim (fun q=>⟨r.st.wF b q,r.st.wIn b q,fun e=>r.st.tW (e ▸ q)⟩) fun q=>q ▸ ⟨o.fr,o.alive,hnt⟩
 refine wkI (sl:=.own d) r' hx o.view (fun d' e=>⟨fun b hb=>?_,Slot.own.inj e ▸ wn8 o.ld⟩) fun a₀ s' hw0 hnt0 hs0 h1 h2=>?_
 ·rw [o.top]at hb
  have q:=List.mem_singleton.mp hb;subst q
  exact ⟨.inr rfl,⟨fun q=>hw (q ▸ r.st.wL),fun y c e q=>hw (q ▸ r.cW y c e)⟩,fun y d' u hn hl hv hh q=>hw (r.oW hl hv hh _ q)⟩
 ·have q:W a₀:=hw0.elim id fun q=>absurd (q ▸ hta) (hnt0 d rfl)
  exact k a₀ s' q hs0 h1 (Stp.sameBut q hs0 (h2.alive a₀ (r.st.wIn a₀ q)) h2.calm)
theorem evOwnM {M:Expr->Prop} {T:Tab} {sc:Scope} {q:QV} {e:Expr} {k:D->Option D} (h:evOwnQ T K sc q e k=some r) (f1:∀ es p,evOwnQ T K sc q (.List es p) k=some r->M (.List es p)) (f2:∀ ks vs p,evOwnQ T K sc q (.Dict ks vs p) k=some r->M (.Dict ks vs p)) (f3:∀ l op r' p,evOwnQ T K sc q (.BinOp l op r' p) k=some r->M (.BinOp l op r' p)):M e:=by
 cases e<;>first | exact noneE h | exact f1 _ _ h | exact f2 _ _ _ h | exact f3 _ _ _ _ h
theorem compXM {M:Expr->Prop} {sc:Scope} {q:QV} {e:Expr} {k:D->Option D} (h:compExpQ K sc q e k=some r) (f1:∀ elt gens scope p,listCompQ K sc q elt gens scope k=some r->M (.ListComp elt gens scope p)) (f2:∀ kx vx gens scope p,dictCompQ K sc q kx vx gens scope k=some r->M (.DictComp kx vx gens scope p)):M e:=by
 cases e<;>first | exact noneE h | exact f1 _ _ _ _ h | exact f2 _ _ _ _ _ h
theorem wl5 (S:SoundEv C n K.ev) {e:Expr} {k:D->Option D} {Q:Value->Shared->Prop} (X:Ok C A n env q F s) (h:evOwnQ C.T K env.scope q e k=some r) (kk:∀ d,k d=some r->OwnQ C F s d Q) :
  wpAny (model C.prog C.w) A (eval e env) Q E s:=by
 apply evOwnM h<;>clear h
 case f1=>
  intro es pos h
  refine ifE h fun hz h=>wpEq (arm_eval_List ..) (wpAny_bind (wpAny_standAt (wpAny_bind (wgF S es X h fun ds h vs sa F1 xa rg hl=>?_))))
  have hg:(sa.heap.push { cls:=.type "list",dict:=none,data:=.seq vs.toArray }).get? sa.heap.objs.size=some { cls:=.type "list",dict:=none,data:=.seq vs.toArray }:=Heap.get?_push_size _ rfl
  exact wpAny_newObj_type (kk _ h (s':={ sa with heap:=_ }) (xa.keep.gone (get?_size _)) (xa.trans (Ext.same xa.inn (Keep.push _ _))) ⟨VL.mk hg (vs:=vs.toArray) rg,waX hg rfl,noneF xa.inn (get?_size _),rfl⟩) (waA (by show vs.length<=cap;rw [rg.length,hl];exact hz))
 case f2=>
  intro ks vs pos h
  refine ifE h fun c h2=>andE c fun c1 c2=>?_
  have e1:=waw c1
  have e2:=waw c2
  clear h c c1 c2
  subst e1 e2
  obtain ⟨o,ho,hd⟩:=Heap.dictOf_iff.mp (Heap.DictOf.new (knd:=anyKind C.prog C.w) s.heap)
  exact wpAny_Dict_empty (kk _ h2 (s':={ s with heap:=_ }) (get?_size _) (Ext.same X.r.inn (Keep.push _ _)) ⟨VD.mk ho (X.g.noSys X.r.inn) hd rfl,waX ho (by obtain ⟨_,_,x,_⟩:=hd;exact x.2.1),noneF X.r.inn (get?_size _),rfl⟩)
 case f3=>
  intro l op r' pos h
  refine ifE h fun eop h2=>?_
  clear h
  subst eop
  refine wpEq (arm_eval_BinOp ..) (wpAny_bind (wbp S X h2 fun da h va sa F1 xa vc _=>wpAny_bind (wpAny_holding (wbp S (X.ext xa) h fun db h vb s₂ F2 xb vf _=>wpAny_bind (wpAny_standAt (wpAny_operating (bindE h fun l e h=>?_)))))))
  refine listE (show listK da _=some l from e) fun xs ea e=>listE e fun ys eb e=>ifE e fun hz e=>?_
  have el:=Option.some.inj e
  have vc:=vc.ext xb
  have x:=xa.trans xb
  have kd:=kk _ h
  clear kk h2
  subst ea eb el
  cases vc with | @mk a1 vs1 n1 e1 r1=>cases vf with | @mk a2 vs2 n2 e2 r2=>
  have hg:(s₂.heap.push { cls:=.type "list",data:=.seq (vs1++vs2) }).get? s₂.heap.objs.size=some { cls:=.type "list",data:=.seq (vs1++vs2) }:=Heap.get?_push_size _ rfl
  exact P.add_list e1 e2 (kd (s':={ s₂ with heap:=_ }) (x.keep.gone (get?_size _)) (x.trans (Ext.same x.inn (Keep.push _ _))) ⟨VL.mk hg (wis r1 r2),waX hg rfl,noneF x.inn (get?_size _),rfl⟩) (waA (by rw [r1.size,r2.size];exact hz))
theorem wd7 {value t:Expr} {line:Nat} (h:isComp value=false):swapsWith value (some t) line env=pure false:=by
 cases value<;>first | rfl | exact ffE h.symm
theorem wn2 {value:Expr} {x:Str} {p:Pos} {line:Nat}:∃ b,swapsWith value (some (.Name x p)) line env=pure b:=by
 cases value<;>exact ⟨_,rfl⟩
theorem wlX {e:Expr} (h:fresh e=true):isComp e=false:=by
 unfold fresh at h
 unfold isComp
 revert h
 generalize e.ctorIdx=i
 intro h
 by_cases c:i=24
 ·subst c;rfl
 by_cases c':i=6
 ·subst c';rfl
 by_cases c'':i=2
 ·subst c'';rfl
 rw [beq_eq_false_iff_ne.mpr c,beq_eq_false_iff_ne.mpr c',beq_eq_false_iff_ne.mpr c'']at h
 exact ffE h
theorem wiN {x:Str} {xp:Pos} {Q:Flow->Shared->Prop} (X:FnRel C env F W s.heap q) (hx:canSet env.scope x=true) (hd:isListD d=true) (hn:next (setq x (.fz d) q)=some r) (k:NxQ C env F W s next r Q) :
  CompQ C A E F s d (some (assign (.Name x xp) env)) (fun _ s'=>Q .next s'):=by
 intro D1 L s' F' m a1 a2 a3 a4 a5 a6 a7 a8
 obtain ⟨o,xa,rv⟩:=freeze a4 a1 a5 a7 hd
 have hCF:(F'.put D1 o) L=none:=by unfold FH.put;rw [if_neg a3];exact a6
 have hCW:¬ W L:=fun q=>X.st.wIn L q a2
 refine wpEq (arm_assign_Name ..) (wpAny_bind (wpAny_standAt (wcO (X.ext xa) hx rv fun a₀ s'' hw0 hs0 rc y2=>?_)))
 refine ⟨m,a8.sameBut hs0 (fun q=>hCW (q ▸ hw0)),fun h' sb=>?_⟩
 exact k (s':={ s'' with heap:=h' }) (((Stp.of xa).trans y2).but (P:=fun b=>b=L) (fun b q=>by rw [q];exact a2) fun b o hb e=>sb.extBut b o hb e)
  (rc.touch (P:=fun b=>b=L) (fun b o hb e=>sb.extBut b o hb e) (fun b q=>by rw [q];exact hCF) (fun b q=>by rw [q];exact hCW) (fun q:tabAt C=L=>by obtain ⟨o,e,_⟩:=X.st.rel.tab;rw [q]at e;exact noAt e a2)) hn
theorem wq6 (S:SoundX C n K CF CM) {e:Expr} {k:D->Option D} {Q:Value->Shared->Prop} (X:Ok C A n env q F s) (h:compExpQ K env.scope q e k=some r) (kk:∀ d,k d=some r->Cont C F s d Q):wpAny (model C.prog C.w) A (eval e env) Q E s:=by
 apply compXM h<;>clear h
 ·intro elt gens scope p h;exact wom S X h kk
 ·intro kx vx gens scope p h;exact wom S X h kk
theorem woy (S:SoundX C n K CF CM) {c:Cx} {xp pos:Pos} {e:Expr} {Q:Flow->Shared->Prop} (X:Fk C A n env q F W s) (h:asgNameQ C.T K c env.scope q x e next=some r) (k:NxQ C env F W s next r Q) :
  wpAny (model C.prog C.w) A (exec (.Assign [.Name x xp] e pos) env) Q E s:=by
 refine ifE h fun hx h2=>?_
 have plain:∀ (j:(D->Option D)->Prop),swapsWith e (some (.Name x xp)) pos.line env=pure false->(∀ {f:D->Option D} {Q},j f->(∀ d,f d=some r->Cont C F s d Q)->wpAny (model C.prog C.w) A (eval e env) Q E s)->j (fun d=>next (setq x (.fz d) q))->wpAny (model C.prog C.w) A (exec (.Assign [.Name x xp] e pos) env) Q E s:=fun j hs hev hj=>
  wpEq (exec_Assign_Name _ _ _ _ _ hs) (wpAny_bind (wpAny_standAt (wpAny_bind (hev hj fun d h v sa F1 xa rv=>wpAny_bind (wpAny_standAt (wpAny_bind (wcO (X.r.ext xa) hx rv fun a₀ s₂ _ _ rc y2=>wpAny_pure (k ((Stp.of xa).trans y2) rc h))))))))
 refine iteE h2 (fun c h3=>andE c fun _ c2=>?_) fun hz h3=>iteE h3 (fun hc h4=>?_) fun hc h4=>?_
 ·refine wpEq (exec_Assign_Name _ _ _ _ _ (wd7 (wlX c2))) (wpAny_bind (wpAny_standAt (wpAny_bind (wl5 S.ev X.ok h3 fun d hn a sa F1 ha xa o=>wpAny_bind (wpAny_standAt (wpAny_bind ?_))))))
  exact wjU (X.r.ext xa) hx o (fun q=>X.r.st.wIn a q ha) fun a₀ s₂ _ _ rc y2=>wpAny_pure (k (((Stp.of xa).trans y2).widen fun b (q:W b\/b=a)=>q.imp_right fun q=>by rw [q];exact ha) rc hn)
 ·obtain ⟨b,hsw⟩:=wn2 (env:=env) (value:=e) (x:=x) (p:=xp) (line:=pos.line)
  cases b with
  | false=>exact plain (fun f=>compExpQ K env.scope q e f=some r) hsw (fun h kk=>wq6 S X.ok h kk) h4
  | true=>
   clear plain h h2 h3 hz hc
   refine wpEq (exec_Assign_Name_used _ _ _ _ hsw) (wpAny_bind (wpAny_standAt (wpAny_bind ?_)))
   have fin:∀ {m:Sem Value},wpAny (model C.prog C.w) A m (fun _ s'=>Q .next s') E s->wpAny (model C.prog C.w) A (do let _ <- m) (fun _ s'=>wpAny (model C.prog C.w) A (pure Flow.next) Q E s') E s:=fun h=>wpAny_bind (wpAny_mono h (fun _ s' hq=>wpAny_pure (wpAny_pure hq)) fun _ _ e=>e)
   clear hsw
   apply compXM h4<;>clear h4
   ·intro elt gens scope p h5
    refine compE h5 fun t it ifs eg _=>?_
    subst eg
    exact fin (whk (Q:=fun _ s'=>Q .next s') S.ev S.tr S.it S.set X.ok h5 (fun l hn=>wiN X.r hx rfl hn k) rfl)
   ·intro kx vx gens scope p h5
    refine compE h5 fun t it ifs eg _=>?_
    subst eg
    exact fin (whr (Q:=fun _ s'=>Q .next s') S.ev S.tr S.it S.set X.ok h5 (fun l hn=>wiN X.r hx rfl hn k) rfl)
 ·exact plain (fun f=>K.ev env.scope q e f=some r) (wd7 (Bool.not_eq_true _ ▸ hc)) (fun h kk=>S.ev X.ok h kk) h4
end
noncomputable def Slots (C:Fr) (F:FH) (h:Heap):List Slot->List Value->List Addr->Prop
 | [],vs,as=>vs=[]/\as=[]
 | .fz d::ss,vs,as=>∃ v vs',vs=v::vs'/\Rep C F v d/\Slots C F h ss vs' as
 | .own d::ss,vs,as=>∃ a vs' as',vs=.ref a::vs'/\as=a::as'/\a ∉ as'/\OwnV C F h a d/\Slots C F h ss vs' as'
section
variable {C:Fr} {F F':FH} {A:Around} {E:Value->Shared->Prop} {s s':Shared} {d d':D} {env:Env} {q q':QV} {n:Nat} {W W':Addr->Prop} {h h':Heap} {a₀ a:Addr} {x:Str} {v:Value} {sl:Slot} {K:KJ} {r:D}
 {CF:Str->List D->Option D} {CM:Str->Str->List D->Option D} {next brk cont:QV->Option D} {ret:D->Option D}
theorem Slots.mv {ss:List Slot}:∀ {vs:List Value} {as:List Addr},Slots C F h ss vs as->(∀ {v d},Rep C F v d->Rep C F' v d)->(∀ {a d},a∈as->OwnV C F h a d->OwnV C F' h' a d)->Slots C F' h' ss vs as:=by
 induction ss with
 | nil=>intro vs as x _ _;exact x
 | cons sl ss ih=>
  intro vs as x f g
  cases sl with
  | fz d=>
   obtain ⟨v,vs',e1,r,x⟩:=x
   exact ⟨v,vs',e1,f r,ih x f g⟩
  | own d=>
   obtain ⟨a,vs',as',e1,e2,n,o,x⟩:=x
   subst e2
   exact ⟨a,vs',as',e1,rfl,n,g List.mem_cons_self o,ih x f fun ha=>g (List.mem_cons_of_mem _ ha)⟩
theorem Slots.ext {ss:List Slot} {vs:List Value} {as:List Addr} (x:Slots C F s.heap ss vs as) (y:Ext F s F' s'):Slots C F' s'.heap ss vs as:=x.mv (fun r=>Rep.ext r y) fun _ o=>o.ext y
theorem Slots.still {ss:List Slot} {vs:List Value} {as:List Addr} (x:Slots C F h ss vs as) (hk:∀ a∈as,h'.get? a=h.get? a):Slots C F h' ss vs as:=x.mv id fun ha o=>o.at' (hk _ ha)
theorem Slots.len {ss:List Slot}:∀ {vs:List Value} {as:List Addr},Slots C F h ss vs as->vs.length=ss.length:=by
 induction ss with
 | nil=>intro vs as x;exact congrArg List.length x.1
 | cons sl ss ih=>
  intro vs as x
  cases sl with
  | fz d=>obtain ⟨v,vs',e1,_,x⟩:=x;rw [e1];exact congrArg Nat.succ (ih x)
  | own d=>obtain ⟨a,vs',as',e1,_,_,_,x⟩:=x;rw [e1];exact congrArg Nat.succ (ih x)
theorem Slots.snoc {ss:List Slot} {s2:Slot} {v2:Value} {as2:List Addr}:∀ {vs:List Value} {as:List Addr},Slots C F h ss vs as->Slots C F h [s2] [v2] as2->(∀ a∈as,a ∉ as2)->Slots C F h (ss++[s2]) (vs++[v2]) (as++as2):=by
 induction ss with
 | nil=>intro vs as x y _;rw [x.1,x.2];exact y
 | cons sl ss ih=>
  intro vs as x y hn
  cases sl with
  | fz d=>obtain ⟨v,vs',e1,r,x⟩:=x;rw [e1];exact ⟨v,_,rfl,r,ih x y hn⟩
  | own d=>
   obtain ⟨a,vs',as',e1,e2,n,o,x⟩:=x
   rw [e1,e2]
   rw [e2]at hn
   exact ⟨a,_,_,rfl,rfl,fun q=>(List.mem_append.mp q).elim n (hn a List.mem_cons_self),o,ih x y fun b hb=>hn b (List.mem_cons_of_mem _ hb)⟩
theorem Slots.rev {ss:List Slot}:∀ {vs:List Value} {as:List Addr},Slots C F h ss vs as->Slots C F h ss.reverse vs.reverse as.reverse:=by
 induction ss with
 | nil=>intro vs as x;rw [x.1,x.2];exact ⟨rfl,rfl⟩
 | cons sl ss ih=>
  intro vs as x
  rw [List.reverse_cons]
  cases sl with
  | fz d=>
   obtain ⟨v,vs',e1,r,x⟩:=x
   rw [e1,List.reverse_cons]
   have:=(ih x).snoc (s2:=.fz d) (v2:=v) (as2:=[]) ⟨v,[],rfl,r,rfl,rfl⟩ fun _ _=>List.not_mem_nil
   rwa [List.append_nil]at this
  | own d=>
   obtain ⟨a,vs',as',e1,e2,n,o,x⟩:=x
   rw [e1,e2,List.reverse_cons,List.reverse_cons]
   exact (ih x).snoc (s2:=.own d) ⟨a,[],[],rfl,rfl,List.not_mem_nil,o,rfl,rfl⟩ fun b hb hc=>n (List.mem_reverse.mp (List.mem_singleton.mp hc ▸ hb))
theorem slotsE {P:Prop} {T:Tab} {c:Cx} {sc:Scope} {ts es:List Expr} {k:List Slot->Option D} (h:evSlotsQ T K c sc q ts es k=some r) (f:ts=[]->es=[]->k []=some r->P)
  (g:∀ x p ts' e es',ts=.Name x p::ts'->es=e::es'->¬ isStarE e=true->(if c.muts.contains x&&fresh e then evOwnQ T K sc q e fun d=>evSlotsQ T K c sc q ts' es' fun r=>k (.own d::r) else K.ev sc q e fun d=>evSlotsQ T K c sc q ts' es' fun r=>k (.fz d::r))=some r->P):P:=by
 cases ts with
 | nil=>cases es with
  | nil=>exact f rfl rfl h
  | cons=>exact noneE h
 | cons t ts=>cases es with
  | nil=>exact noneE h
  | cons e es=>
   obtain ⟨x,p,e1,h⟩:=nameE h
   exact nifE h fun hs h=>g x p ts e es (by rw [e1]) rfl hs h
theorem wqc (S:SoundEv C n K.ev) {c:Cx} {pos:Pos} (ts:List Expr):∀ {es:List Expr} {F:FH} {s:Shared} {k:List Slot->Option D} {Q:List Value->Shared->Prop},Ok C A n env q F s->evSlotsQ C.T K c env.scope q ts es k=some r ->
  (∀ ss (l:List (Str×Pos)),k ss=some r->(ts=l.map fun p=>.Name p.1 p.2)->ss.length=es.length->ts.length=es.length->∀ vs as s' F',Ext F s F' s'->Slots C F' s'.heap ss vs as->(∀ a∈as,s.heap.get? a=none)->Q vs s')->wpAny (model C.prog C.w) A (spliced (backTo pos (starEach es env))) Q E s:=by
 induction ts with
 | nil=>intro es F s k Q X h kk;exact slotsE h (fun _ e h=>by subst e;exact spliced_nil (kk [] [] h rfl rfl rfl [] [] s F X.here ⟨rfl,rfl⟩ fun a ha=>memE ha)) fun _ _ _ _ _ e=>consE e
 | cons t ts ih=>
  intro es F s k Q X h kk
  refine slotsE h (fun e=>consE e.symm) fun x p ts' e es' e1 e2 hs h2=>?_
  clear h
  have e3:=List.tail_eq_of_cons_eq e1
  have e4:=List.head_eq_of_cons_eq e1
  clear e1
  subst e3 e4 e2
  rw [wak hs]
  refine iteE h2 (fun _ h=>?_) fun _ h=>?_
  ·exact spliced_cons (wl5 S X h fun d h a sa F1 hn xa o=>ih (X.ext xa) h fun ss l h el e1 e2 vs as s₂ F2 xb sl hn2=>kk (.own d::ss) ((x,p)::l) h (by rw [el];rfl) (congrArg Nat.succ e1) (congrArg Nat.succ e2) _ (a::as) s₂ F2 (xa.trans xb)
    ⟨a,vs,as,rfl,rfl,fun q=>o.alive (hn2 a q),o.ext xb,sl⟩ fun b hb=>(List.mem_cons.mp hb).elim (fun e=>e ▸ hn) fun hb=>xa.keep.gone (hn2 b hb))
  ·exact spliced_cons (S X h fun d h v sa F1 xa rv=>ih (X.ext xa) h fun ss l h el e1 e2 vs as s₂ F2 xb sl hn2=>kk (.fz d::ss) ((x,p)::l) h (by rw [el];rfl) (congrArg Nat.succ e1) (congrArg Nat.succ e2) _ as s₂ F2 (xa.trans xb)
    ⟨v,vs,rfl,Rep.ext rv xb,sl⟩ fun b hb=>xa.keep.gone (hn2 b hb))
theorem setSlotsE {P:Prop} {sc:Scope} {x:Str} {xs:List Str} {ss:List Slot} (h:setSlotsQ sc (x::xs) ss q next=some r) (f:∀ sl ss',ss=sl::ss'->canSet sc x=true->setSlotsQ sc xs ss' (setq x sl q) next=some r->P):P:=by
 cases ss with
 | nil=>exact noneE h
 | cons sl ss=>exact ifE h fun hx h=>f sl ss rfl hx h
theorem whC {Q:Unit->Shared->Prop} {g:Str×Pos->Value->Sem Unit} (hg:∀ p {v:Value} {s:Shared} {Q:Unit->Shared->Prop},wpAny (model C.prog C.w) A (bindName env p.1 v) Q E s->wpAny (model C.prog C.w) A (g p v) Q E s) (l:List (Str×Pos)) :
  ∀ {ss:List Slot} {vs:List Value} {as:List Addr} {W:Addr->Prop} {q:QV} {s:Shared},FnRel C env F W s.heap q->(∀ a∈as,¬ W a)->Slots C F s.heap ss vs as->setSlotsQ env.scope (l.map (·.1)) ss q next=some r ->
  (∀ s' W' q',Stp F (fun b=>W b\/b∈as) s F W' s'->FnRel C env F W' s'.heap q'->next q'=some r->Q () s')->wpAny (model C.prog C.w) A (assignInOrder (l.map g) vs) Q E s:=by
 induction l with
 | nil=>
  intro ss vs as W q s R hW x h k
  cases ss with
  | nil=>
   obtain ⟨rfl,rfl⟩:=x
   exact wpAny_pure (k s W q ((Stp.refl.mono fun b q=>.inl q).widen fun b q=>.inl (.inl q)) R h)
  | cons=>exact noneE h
 | cons p l ih=>
  intro ss vs as W q s R hW x h k
  refine setSlotsE h fun sl ss' e hx h2=>?_
  clear h
  subst e
  cases sl with
  | fz d=>
   obtain ⟨v,vs',rfl,rv,x⟩:=x
   show wpAny _ _ (holding vs' (g p v) >>= fun _=>assignInOrder (l.map g) vs') _ _ _
   exact wpAny_bind (wpAny_holding (hg p (wcO R hx rv fun a₀ sa hw0 hs0 rg y1=>ih rg hW (x.still fun a ha=>hs0.2 a fun q=>hW a ha (q ▸ hw0)) h2 fun s' W' q' y'=>k s' W' q' ((y1.mono fun b q=>.inl q).trans y'))))
  | own d=>
   obtain ⟨a,vs',as',rfl,rfl,nn,o,x⟩:=x
   show wpAny _ _ (holding vs' (g p (.ref a)) >>= fun _=>assignInOrder (l.map g) vs') _ _ _
   refine wpAny_bind (wpAny_holding (hg p (wjU R hx o (hW a List.mem_cons_self) fun a₀ sa hw0 hs0 rg y1=>ih rg (fun b hb q=>q.elim (hW b (List.mem_cons_of_mem _ hb)) fun e=>nn (e ▸ hb)) (x.still fun b hb=>hs0.2 b fun q=>hW b (List.mem_cons_of_mem _ hb) (q ▸ hw0)) h2 fun s' W' q' y'=>
    k s' W' q' ((y1.mono fun b q=>.inl q).trans ?_))))
   have e:(fun b=>(W b\/b=a)\/b∈as')=fun b=>W b\/b∈a::as':=funext fun b=>propext ⟨fun q=>q.elim (fun q=>q.imp_right fun e=>by rw [e];exact List.mem_cons_self) fun q=>.inr (List.mem_cons_of_mem _ q),fun q=>q.elim (fun q=>.inl (.inl q)) fun q=>(List.mem_cons.mp q).elim (fun e=>.inl (.inr e)) .inr⟩
   rw [e]at y'
   exact y'
end
section
variable {C:Fr} {F F':FH} {A:Around} {E:Value->Shared->Prop} {s s':Shared} {d d':D} {env:Env} {q q':QV} {n:Nat} {W W':Addr->Prop} {h h':Heap} {a₀ a:Addr} {x:Str} {v:Value} {sl:Slot} {K:KJ} {r:D}
 {CF:Str->List D->Option D} {CM:Str->Str->List D->Option D} {next brk cont:QV->Option D} {ret:D->Option D}
theorem wmh (s₀:Shared):Bindr C A env env.scope F fun q s=>Stp F W s₀ F W s/\FnRel C env F W s.heap q where
 one p hx rv k:=wcO p.2 hx rv fun a₀ s' _ _ r' y'=>k s' ⟨p.1.trans y',r'⟩
 ext {q s h'} p kp:=have x:Ext F s F { s with heap:=h' }:=Ext.same p.2.st.rel.inn kp
  ⟨p.1.trans (Stp.of x),p.2.ext x⟩
 inn p:=p.2.st.rel.inn
theorem wod:(fun e:Expr=>match e with | .Starred ..=>true | _=>false)=isStarE:=funext fun e=>by cases e<;>rfl
theorem wsZ (ts:List Expr):ts.filterMap (fun e:Expr=>match e with | .Name id pos=>if env.kindOf id==some .local&&pos.line==(ts.head?.map (·.pos.line)).getD 0 then some id else none | _=>none)=nmF env.scope ts:=
 congrArg (fun f=>List.filterMap f ts) (funext fun e=>by cases e<;>rfl)
theorem wo6 {ts:List (Str×Pos)} {c:Str×Pos->Bool} (h:(ts.filterMap fun p=>if c p then some p.1 else none).length=ts.length):(ts.filterMap fun p=>if c p then some p.1 else none)=ts.map (·.1):=by
 induction ts with
 | nil=>rfl
 | cons p ts ih=>
  have hle:=List.length_filterMap_le (fun p:Str×Pos=>if c p then some p.1 else none) ts
  by_cases e:c p=true
  ·rw [List.filterMap_cons_some (by rw [if_pos e])]at h ⊢
   rw [List.map_cons,ih (Nat.succ.inj h)]
  ·rw [List.filterMap_cons_none (by rw [if_neg e])]at h
   rw [List.length_cons]at h
   omega
theorem wsY {sc:Scope} {l:List (Str×Pos)} (h:(nmF sc (l.map fun p=>.Name p.1 p.2)).length=l.length):nmF sc (l.map fun p=>.Name p.1 p.2)=l.map (·.1):=by
 have e:∃ k:Nat,nmF sc (l.map fun p=>.Name p.1 p.2)=l.filterMap fun p=>if sc.names.lookup p.1==some .local&&p.2.line==k then some p.1 else none:=⟨_,by
  unfold nmF
  rw [List.filterMap_map];rfl⟩
 obtain ⟨k,e⟩:=e
 rw [e]at h ⊢
 exact wo6 h
theorem wqx (l:List (Str×Pos)):names (l.map fun p=>.Name p.1 p.2)=l.map (·.1):=by
 induction l with
 | nil=>rfl
 | cons p l ih=>exact congrArg (p.1::·) ih
theorem woN (l:List (Str×Pos)):(assignEach (l.map fun p=>.Name p.1 p.2) env).map (·.2)=l.map (fun p=>assign (.Name p.1 p.2) env)/\(assignEach (l.map fun p=>.Name p.1 p.2) env).findIdx? (·.1)=none:=by
 induction l with
 | nil=>exact ⟨rfl,rfl⟩
 | cons p l ih=>
  have e:assignEach ((p::l).map fun p=>.Name p.1 p.2) env=(false,assign (.Name p.1 p.2) env)::assignEach (l.map fun p=>.Name p.1 p.2) env:=rfl
  rw [e]
  exact ⟨congrArg (_::·) ih.1,by rw [List.findIdx?_cons,ih.2];rfl⟩
theorem wn4 {ts es:List Expr} {kk:Nat} {p:Pos} {k2:Nat} {p2:Pos}:swappedStores [.Tuple ts kk p] (.Tuple es k2 p2) env =
  (if (!(ts.length==2||ts.length==3)||es.length != ts.length||env.blockKind != .function)=true then pure none
   else if es.any isStarE=true then pure none
   else if ((nmF env.scope ts).length != ts.length||(nmF env.scope ts).eraseDups.length != (nmF env.scope ts).length)=true then pure none
   else if es.all (foldedForSure 8)=true then pure none
   else if es.all (constantsAlone 8)=true then (do let _ <- (unsupported "assign.tuple-of-constant-expressions:order-of-the-stores":Sem PUnit);pure (some (nmF env.scope ts)))
   else pure (some (nmF env.scope ts))):=by
 rw [<- wod,<- wsZ];first | rfl | (unfold swappedStores;rfl)
theorem iteBE {P:Prop} {α:Type} {r:α} {c:Prop} [i:Decidable c] {x y:Option α} {a b:Sem (Option (List Str))} {m:Sem (Option (List Str))} (em:m=if c then a else b) (h:(if c then x else y)=some r) (f:m=a->x=some r->P) (g:m=b->¬ c->y=some r->P):P:=by
 cases i with
 | isTrue q=>exact f em h
 | isFalse q=>exact g em q h
theorem wn3 {ts es:List Expr} {kk:Nat} {p:Pos} {k2:Nat} {p2:Pos} {b:Bool} (hk:env.scope.kind=.function) (h:swapRoad env.scope ts es=some b) :
  (b=false/\swappedStores [.Tuple ts kk p] (.Tuple es k2 p2) env=pure none)\/(b=true/\swappedStores [.Tuple ts kk p] (.Tuple es k2 p2) env=pure (some (nmF env.scope ts))/\(nmF env.scope ts).length=ts.length):=by
 have hbk:(env.blockKind != ScopeKind.function)=false:=by unfold Env.blockKind;rw [hk];rfl
 have em:=wn4 (ts:=ts) (es:=es) (kk:=kk) (p:=p) (k2:=k2) (p2:=p2) (env:=env)
 rw [hbk,Bool.or_false]at em
 have no:∀ {m:Sem (Option (List Str))},m=pure none->some false=some b->(b=false/\m=pure none)\/(b=true/\m=pure (some (nmF env.scope ts))/\(nmF env.scope ts).length=ts.length):=fun e h=>.inl ⟨(Option.some.inj h).symm,e⟩
 refine iteBE em h no fun em _ h=>iteBE em h no fun em _ h=>iteBE em h no fun em c h=>iteBE em h no fun em _ h=>iteBE em h (fun _ h=>noneE h) fun em _ h=>?_
 refine .inr ⟨(Option.some.inj h).symm,em,?_⟩
 rw [Bool.or_eq_true,not_or]at c
 simpa using c.1
theorem wpT (S:SoundX C n K CF CM) {c:Cx} {ts es:List Expr} {kk k2:Nat} {tp p2 pos:Pos} {Q:Flow->Shared->Prop} (X:Fk C A n env q F W s) (hz:es.length<=cap)
  (h:(evSlotsQ C.T K c env.scope q ts es fun ss=>optK (swapRoad env.scope ts es) fun b=>if b then setSlotsQ env.scope (names ts).reverse ss.reverse q next else setSlotsQ env.scope (names ts) ss q next)=some r)
  (k:NxQ C env F W s next r Q):wpAny (model C.prog C.w) A (exec (.Assign [.Tuple ts kk tp] (.Tuple es k2 p2) pos) env) Q E s:=by
 refine wpEq (arm_exec_Assign ..) (wpAny_bind (wpAny_standAt ?_))
 show wpAny _ _ (swapsWith (.Tuple es k2 p2) (some (.Tuple ts kk tp)) pos.line env >>= _) _ _ _
 rw [wd7 rfl]
 refine wpAny_bind (wpAny_pure ?_)
 rw [if_neg (by decide)]
 rw [arm_eval_Tuple]
 refine wpAny_bind (wpAny_bind (wpAny_standAt (wpAny_bind (wqc S.ev ts X.ok h fun ss l h el l1 l2 vs as sa F1 xa sl hn=>?_))))
 have hlv:=sl.len
 refine optE h fun b hb h3=>?_
 clear h
 have hg:(sa.heap.push { cls:=.type "tuple",dict:=none,data:=.seq vs.toArray }).get? sa.heap.objs.size=some { cls:=.type "tuple",dict:=none,data:=.seq vs.toArray }:=Heap.get?_push_size _ rfl
 refine wpAny_newObj_type ?_ (waA (by show vs.length<=cap;rw [hlv,l1];exact hz))
 have hT:=wd9 hg
 have kpa:Keep sa.heap (sa.heap.push { cls:=.type "tuple",dict:=none,data:=.seq vs.toArray }):=Keep.push _ _
 generalize sa.heap.objs.size=T at hT
 generalize sa.heap.push { cls:=.type "tuple",dict:=none,data:=.seq vs.toArray }=hJ at hT kpa
 clear hg
 have hnW:∀ a∈as,¬ W a:=fun a ha q=>X.r.st.wIn a q (hn a ha)
 have x':∀ {h'},Keep hJ h'->Ext F1 sa F1 { sa with heap:=h' }:=fun kp=>Ext.same xa.inn fun b o e=>kp b o (kpa b o e)
 have fin:∀ {h'},Keep hJ h'->∀ s' W' q',Stp F1 (fun b=>W b\/b∈as) { sa with heap:=h' } F1 W' s'->FnRel C env F1 W' s'.heap q'->next q'=some r->Q .next s':=
  fun kp s' W' q' y r' h=>k (((Stp.of (W:=W) (xa.trans (x' kp))).widen (W':=fun b=>W b\/b∈as) fun b q=>q.imp_right fun q=>hn b q).trans y) r' h
 obtain ⟨st1,st2⟩:=woN (env:=env) l
 have ns:=wqx l
 have nf:=fun h=>wsY (sc:=env.scope) (l:=l) h
 have ll:ts.length=l.length:=by rw [el,List.length_map]
 rw [<- el]at st1 st2 ns nf
 clear el
 have l5:(assignEach ts env).length=l.length:=by have:=congrArg List.length st1;rwa [List.length_map,List.length_map]at this
 rcases wn3 (kk:=kk) (p:=tp) (k2:=k2) (p2:=p2) X.r.st.rel.eo.kind hb with ⟨rfl,e⟩ | ⟨rfl,e,el⟩
 ·rw [e]
  refine wpAny_bind (wpAny_pure ?_)
  show wpAny _ _ (do assign (.Tuple ts kk tp) env (.ref T);pure Flow.next) _ _ _
  rw [ns]at h3
  refine wpAny_bind (wpAny_assign_Tuple X.R.handled hT (by rw [l5,<- ll,l2];show es.length=vs.length;rw [hlv,l1]) st2 fun h' hx=>?_)
  have kp:Keep hJ h':=fun b o e=>hx b o (Nat.ne_of_lt (Heap.lt_size e)) e
  rw [st1]
  exact whC (g:=fun p=>assign (.Name p.1 p.2) env) (fun p {v s Q} hb=>wpEq (arm_assign_Name ..) (wpAny_bind (wpAny_standAt hb))) l (s:={ sa with heap:=h' }) ((X.ext xa).r.ext (x' kp)) hnW (sl.ext (x' kp)) h3 fun s' W' q' y r' h=>wpAny_pure (fin kp s' W' q' y r' h)
 ·rw [e]
  refine wpAny_bind (wpAny_pure ?_)
  rw [ns]at h3
  have en:=nf (el.trans ll)
  generalize nmF env.scope ts=nm at en
  show wpAny _ _ (do rule "assign.swapped-stores";let items <- unpackItems (.ref T) nm.length none;assignInOrder (nm.reverse.map fun n=>bindName env n) items.reverse;pure Flow.next) _ _ _
  rw [en]
  refine wpAny_bind (wpAny_rule (wpAny_bind ?_))
  rw [List.length_map,show l.length=vs.toArray.size by rw [<- ll,l2];show es.length=vs.length;rw [hlv,l1]]
  refine wpAny_unpackItems_tuple X.R.handled hT fun h' hx=>?_
  have kp:Keep hJ h':=fun b o e=>hx b o (Nat.ne_of_lt (Heap.lt_size e)) e
  have e:(fun b=>W b\/b∈as.reverse)=fun b=>W b\/b∈as:=funext fun b=>by rw [List.mem_reverse]
  have es:(l.map (·.1)).reverse.map (fun n=>bindName env n)=l.reverse.map fun p=>bindName env p.1:=by rw [<- List.map_reverse,List.map_map];rfl
  rw [es]
  rw [<- List.map_reverse]at h3
  exact wpAny_bind (whC (g:=fun p=>bindName env p.1) (fun p {v s Q} hb=>hb) l.reverse (s:={ sa with heap:=h' }) ((X.ext xa).r.ext (x' kp)) (fun a ha=>hnW a (List.mem_reverse.mp ha)) (sl.ext (x' kp)).rev h3 fun s' W' q' y r' h=>wpAny_pure (fin kp s' W' q' (by rw [e]at y;exact y) r' h))
theorem wsy (S:SoundX C n K CF CM) {c:Cx} {ts:List Expr} {kk:Nat} {tp pos:Pos} {e:Expr} {Q:Flow->Shared->Prop} (X:Fk C A n env q F W s) (h:asgTupQ C.T K c env.scope q ts (.Tuple ts kk tp) e next=some r) (k:NxQ C env F W s next r Q) :
  wpAny (model C.prog C.w) A (exec (.Assign [.Tuple ts kk tp] e pos) env) Q E s:=
 iteE h (fun _ h2=>by
  obtain ⟨es,k2,p2,e1,h3⟩:=tupleE h2
  clear h h2
  subst e1
  exact ifE h3 fun c h=>andE c fun _ hz=>wpT S X (of_decide_eq_true hz) h k) fun hc h2=>by
  have hsw:swapsWithSole [.Tuple ts kk tp] e pos.line env=pure false:=by
   show swapsWith e (some (.Tuple ts kk tp)) pos.line env=pure false
   cases e<;>rfl
  have hst:swappedStores [.Tuple ts kk tp] e env=pure none:=by
   cases e<;>first | rfl | exact absurd rfl hc
  refine wpAny_Assign_stores (S.ev X.ok h2 fun d h v sa F1 xa rv=>?_) hsw hst
  show wpAny _ _ (assign (.Tuple ts kk tp) env v) _ _ _
  exact wi6 (wmh sa) X.R.handled ⟨Stp.refl,X.r.ext xa⟩ h (.inl rv) fun q' bd _ s₂ ⟨y2,rc⟩=>k ((Stp.of xa).trans y2) rc (bd h)
end
section
variable {C:Fr} {F F':FH} {A:Around} {E:Value->Shared->Prop} {s s':Shared} {d d':D} {env:Env} {q q':QV} {n:Nat} {W W':Addr->Prop} {h h':Heap} {a₀ a:Addr} {x:Str} {v:Value} {sl:Slot} {K:KJ} {r:D}
 {CF:Str->List D->Option D} {CM:Str->Str->List D->Option D} {next brk cont:QV->Option D} {ret:D->Option D}
theorem whh {x:Str} {xp:Pos} {Q:Unit->Shared->Prop} (r:FnRel C env F W s.heap q) (hx:canSet env.scope x=true) (rv:Rep C F v d) (k:∀ s',Stp F W s F W s'->FnRel C env F W s'.heap (setq x (.fz d) q)->Q () s'):wpAny (model C.prog C.w) A (assign (.Name x xp) env v) Q E s:=
 wpEq (arm_assign_Name ..) (wpAny_bind (wpAny_standAt (wcO r hx rv fun _ s' _ _ r' y'=>k s' y' r')))
theorem wsz (S:SoundX C n K CF CM) {x y z e:Expr} {pos:Pos} {Q:Flow->Shared->Prop} (X:Fk C A n env q F W s) (h:wrs K env.scope q x y z e next=some r) (k:NxQ C env F W s next r Q) :
  wpAny (model C.prog C.w) A (exec (.Assign [x,y,z] e pos) env) Q E s:=by
 apply nameM h;clear h;intro x xp h
 apply nameM h;clear h;intro y yp h
 apply nameM h;clear h;intro z zp h
 refine wpAny_Assign_three (S.ev X.ok h fun d h1 v sa F1 xa rv=>intE h1 fun i e h2=>ifE h2 fun c h3=>andE c fun c hz=>andE c fun hx hy=>?_)
 clear h1 h2 h
 subst e
 exact whh (X.r.ext xa) hx rv fun s₂ y2 rc=>whh rc hy rv fun sd y3 r3=>whh r3 hz rv fun se y4 r4=>k ((Stp.of xa).trans (y2.trans (y3.trans y4))) r4 h3
theorem wcV {xp:Pos} {α:Type} {r:α} {f:D->Option α} {Q:Value->Shared->Prop} (X:RelR C env F s.heap q) (hv:isVar env.scope x=true) (h:ownK (lookq x q) f=some r)
  (k:∀ d v,f d=some r->lookq x q=some (.own d)->Holds env s.heap x v->View C s.heap F v d->Q v s) :
  wpAny (model C.prog C.w) A (eval (.Name x xp) env) Q E s:=
 ownE h fun d hl h=>by
  obtain ⟨v,h1,h2⟩:=X.vars hl hv
  exact wgb X hv h1 (k d v h hl h1 h2)
theorem RepFs.snoc {x:Str} (rv:Rep C F v d) {fs:List (Str×D)}:∀ {es:List (Str×Value)},RepFs C F fs es->RepFs C F (fs++[(x,d)]) (es++[(x,v)]):=by
 induction fs with
 | nil=>intro es rf;cases rf;exact VC.mk ⟨rfl,rv⟩ rfl
 | cons p fs ih=>intro es rf;cases rf with | mk y z=>exact VC.mk y (ih z)
theorem woz (S:SoundX C n K CF CM) {o e:Expr} {a:Str} {ap pos:Pos} {Q:Flow->Shared->Prop} (X:Fk C A n env q F W s) (h:asgAttrQ C.T K env.scope q o a e next=some r) (k:NxQ C env F W s next r Q) :
  wpAny (model C.prog C.w) A (exec (.Assign [.Attribute o a ap] e pos) env) Q E s:=by
 apply nameM h;clear h;intro x xp h
 refine nifE h fun c h=>?_
 rw [Bool.or_eq_true,not_or,Bool.not_eq_true,Bool.not_eq_true,Bool.not_eq_false']at c
 refine wpEq (arm_exec_Assign ..) (wpAny_bind (wpAny_standAt ?_))
 show wpAny _ _ (swapsWith e (some (.Attribute (.Name x xp) a ap)) pos.line env >>= _) _ _ _
 rw [wd7 c.1]
 refine wpAny_bind (wpAny_pure ?_)
 rw [if_neg (by decide)]
 refine wpAny_bind (S.ev X.ok h fun d h v sa F1 xa rv=>?_)
 have e2:swappedStores [.Attribute (.Name x xp) a ap] e env=pure none:=by
  unfold swappedStores
  rfl
 rw [e2]
 refine wpAny_bind (wpAny_pure ?_)
 have rg:=X.r.ext xa
 show wpAny _ _ (do assign (.Attribute (.Name x xp) a ap) env v;pure Flow.next) _ _ _
 refine wpAny_bind (wpEq (arm_assign_Attribute ..) (wpAny_bind (wpAny_holding (ifE h fun hv h=>wcV rg.st.rel hv h fun ob u h hl hh view=>objE h fun cl fs eo h2=>ifE h2 fun c2 h3=>andE c2 fun c2 hz=>andE c2 fun hfs hcl=>?_))))
 clear h h2
 subst eo
 obtain ⟨mcs,co⟩:=S.st
 cases view with | @mk oa od ood es e1 e2 hn rf=>
 have hz:=of_decide_eq_true hz
 refine wpAny_bind (wpAny_standAt (wpAny_bind (wpAny_holding (wn5 (co.cls _ hcl) ((X.g.mono xa.le).kIn rg.st.rel.inn) (List.contains_iff_mem.mp c.2) e1 e2 hn (rf.gone (Option.isNone_iff_eq_none.mp hfs)) (by rw [rf.length];exact Nat.le_trans hz (by decide)) fun h' o' tk q1 q2 q3=>?_))))
 have hne:oa≠od:=fun q=>by
  rw [q,e2]at e1
  obtain ⟨_,_,z,_⟩:=hn.ns
  rw [Option.some.inj e1]at z
  exact absurd z (by intro z;cases z)
 have e1':h'.get? oa=some (instObj (C.cad cl) od):=by rw [q3.2 oa hne];exact e1
 obtain ⟨rc,y2⟩:=rg.upd (s':={ sa with heap:=h',toks:=tk }) (a₀:=od) (d':=.obj cl (fs++[(a,d)])) ⟨hl,hv,hh,q3,by rw [wbk e1];exact List.mem_cons_of_mem _ List.mem_cons_self,VO.mk e1' q1 q2 (rf.snoc rv),(wbk e1').trans (wbk e1).symm,rfl⟩
 exact wpAny_release (wpAny_pure (k ((Stp.of xa).trans y2) rc h3))
theorem setItemL {l:Addr} {vs:Array Value} {k:Int} {t:Tok} {v:Value} {Q:Unit->Shared->Prop} (hl:s.heap.PlainList l vs) (h0:0<=k) (hfit:k<2 ^ 63) (hn:k<vs.size)
  (hQ:∀ h',h'.PlainList l (vs.setIfInBounds k.toNat v)->Heap.SameBut l s.heap h'->Q () { s with heap:=h' }):wpAny (model C.prog C.w) A (setItem (.ref l) (.int k t) v) Q E s:=by
 obtain ⟨ne,ho⟩:=id hl
 unfold setItem
 try with_reducible refine wpAny_holding ?_
 refine wpAny_bind (wpAny_sequenceKey hl.isList.typeIs (by decide) ?_)
 refine wpAny_bind (wpAny_callSpecial?_slot (name:=Str.ofString "__setitem__") hl.isList.typeIs slot_list_setitem
  (wpAny_call_entry slot_list_setitem hl.isList.typeIs entry_list_setitem ?_ (args_list_setitem _ _ _)))
 show wpAny _ _ (Builtin.List.listSubscript? (.int k t) >>= _) _ _ s
 refine wpAny_bind (wpAny_listSubscript_int (fitsIndex_of h0 hfit) ?_)
 clear hfit
 obtain ⟨j,rfl⟩:=Int.eq_ofNat_of_zero_le h0
 have hj:j<vs.size:=by omega
 have hx':vs[j]?=some vs[j]:=Array.getElem?_eq_getElem hj
 show wpAny _ _ ((seqItemAt l j >>= fun r=>pure (r.map (j,·))) >>= _) _ _ s
 refine wpAny_bind (wpAny_bind (wpAny_seqItemAt ho rfl (wpAny_pure ?_)))
 rw [hx']
 show wpAny _ _ (setSeqItemAt l j v >>= _) _ _ s
 refine wpAny_bind (wpAny_setSeqItemAt ho rfl ?_)
 have hfin:(s.heap.update l (Obj.mapSeq (·.setIfInBounds j v))).PlainList l (vs.setIfInBounds j v):=by
  refine ⟨ne,?_⟩
  rw [Heap.get?_update_self _ ho (by simp [Obj.mapSeq,Obj.isFreed])]
  simp [Obj.mapSeq]
 first
  | exact wpAny_bind (wpAny_pure (wpAny_pure ⟨.none,rfl,wpAny_pure (hQ _ hfin (Heap.SameBut.update ..))⟩))
  | exact wpAny_pure ⟨.none,rfl,wpAny_pure (hQ _ hfin (Heap.SameBut.update ..))⟩
theorem putLE {P:Prop} {α:Type} {r:α} {xs:List D} {k v:D} {f:List D->Option α} (h:(putL xs k v).bind f=some r) (g:∀ i,k=.int i->0<=i->i<xs.length->xs.length<=cap->f (xs.set i.toNat v)=some r->P):P:=
 bindE h fun ys e h=>intE (show intK k _=some ys from e) fun i ei e=>ifE e fun hb e=>g i ei hb.1 hb.2.1 hb.2.2 (by rw [Option.some.inj e];exact h)
theorem putME {P:Prop} {α:Type} {r:α} {xs:List (Key×D)} {k v:D} {f:List (Key×D)->Option α} (h:(putM xs k v).bind f=some r) (g:∀ kk,toKey k=some kk->xs.length<=cap->f (kset kk v xs)=some r->P):P:=
 bindE h fun ys e h=>bindE (show (toKey k).bind _=some ys from e) fun kk ek e=>ifE e fun hb e=>g kk ek hb (by rw [Option.some.inj e];exact h)
theorem woT {u kv v:Value} {dk dv:D} {f:D->Option D} {Q:Unit->Shared->Prop} (R:FnRel C env F W s.heap q) (hv:isVar env.scope x=true) (hl:lookq x q=some (.own d)) (hh:Holds env s.heap x u) (view:View C s.heap F u d)
  (rk:Rep C F kv dk) (rv:Rep C F v dv) (h:putQ d dk dv f=some r) (k:∀ d' s',f d'=some r->Stp F W s F W s'->FnRel C env F W s'.heap (setq x (.own d') q)->Q () s') :
  wpAny (model C.prog C.w) A (setItem u kv v) Q E s:=by
 cases d<;>first | exact noneE h | skip
 ·refine putLE h fun i ei h0 h1 h2 h3=>?_
  clear h
  subst ei
  cases rk
  cases view with | @mk l vs nn e1 rl=>
  have hz:=rl.size
  have cap63:(cap:Int)<2 ^ 63:=by decide
  refine setItemL ⟨nn,e1⟩ h0 (Int.lt_trans h1 (Int.lt_of_le_of_lt (Int.ofNat_le.mpr h2) cap63)) (by rw [hz];exact h1) fun h' ⟨n2,e2⟩ q2=>?_
  obtain ⟨rc,y2⟩:=R.upd (s':={ s with heap:=h' }) (a₀:=l) (d':=.list (‹List D›.set i.toNat dv)) ⟨hl,hv,hh,q2,waI l,VL.mk e2 (by rw [Array.toList_setIfInBounds];exact RepAll.set rl rv _),(waX e2 rfl).trans (waX e1 rfl).symm,rfl⟩
  exact k _ _ h3 y2 rc
 ·refine putME h fun kk ek h2 h3=>?_
  clear h
  cases view with | @mk l o es e1 hy hd ry=>
  refine wpAny_setItem_pairs (wcD ek rk) (Heap.dictOf_iff.mpr ⟨o,e1,hd⟩) (fun h' q1 q2=>?_) (waA (by rw [ry.length];exact h2))
  obtain ⟨o2,e2,hd2⟩:=Heap.dictOf_iff.mp q1
  obtain ⟨rc,y2⟩:=R.upd (s':={ s with heap:=h',toks:=s.toks+1 }) (a₀:=l) (d':=.dict (kset kk dv ‹List (Key×D)›)) ⟨hl,hv,hh,q2,waI l,VD.mk e2 hy hd2 (ry.stored kk rv),(waX e2 (by obtain ⟨_,_,x,_⟩:=hd2;exact x.2.1)).trans (waX e1 (by obtain ⟨_,_,x,_⟩:=hd;exact x.2.1)).symm,rfl⟩
  exact k _ _ h3 y2 rc
theorem wpU (S:SoundX C n K CF CM) {o i e:Expr} {ip pos:Pos} {Q:Flow->Shared->Prop} (X:Fk C A n env q F W s) (h:asgSubQ K env.scope q o i e next=some r) (k:NxQ C env F W s next r Q) :
  wpAny (model C.prog C.w) A (exec (.Assign [.Subscript o i ip] e pos) env) Q E s:=by
 apply nameM h;clear h;intro x xp h
 refine nifE h fun c h=>wpAny_Assign_Subscript ?_ (wd7 (Bool.not_eq_true _ ▸ c))
 exact S.ev X.ok h fun d h v sa F1 xa rv=>ifE h fun hv h=>wcV (X.r.ext xa).st.rel hv h fun ob u h hl hh view=>S.ev (X.ext xa).ok h fun dk h kv s₂ F2 xb rk=>
  woT ((X.r.ext xa).ext xb) hv hl (hh.keep xb.keep) (view.ext xb) rk (Rep.ext rv xb) h fun d' sd h y3 r3=>k ((Stp.of (xa.trans xb)).trans y3) r3 h
theorem wox (S:SoundX C n K CF CM) {xp pos:Pos} {e:Expr} {Q:Flow->Shared->Prop} (X:Fk C A n env q F W s) (h:augNameQ K env.scope q x e next=some r) (k:NxQ C env F W s next r Q) :
  wpAny (model C.prog C.w) A (exec (.AugAssign (.Name x xp) .Add e pos) env) Q E s:=
 ifE h fun c h=>andE c fun hv hx=>fzE h fun old hl h=>by
  obtain ⟨u,hh,ru⟩:=X.r.st.rel.vars hl hv
  have ru:Rep C F u old:=ru
  exact wpEq (arm_exec_AugAssign ..) (wpAny_bind (wpAny_standAt (wpAny_bind (wjE X.r.st.rel hv hh (wpAny_bind (wpAny_holding (S.ev X.ok h fun dv h v sa F1 xa rv=>wpAny_bind (wpAny_standAt (wpAny_bind (wpAny_operating (bindE h fun dn e h=>wnP e (Rep.ext ru xa) rv xa.inn fun nv s₂ F2 xb rn=>
   wpAny_bind (wpAny_standAt (wpAny_bind (wcO ((X.r.ext xa).ext xb) hx rn fun _ sd _ _ r3 y3=>wpAny_pure (k ((Stp.of (xa.trans xb)).trans y3) r3 h)))))))))))))))
end
section
variable {C:Fr} {F F':FH} {A:Around} {E:Value->Shared->Prop} {s s':Shared} {d d':D} {env:Env} {q q':QV} {n:Nat} {W W':Addr->Prop} {h h':Heap} {a₀ a:Addr} {x:Str} {v:Value} {sl:Slot} {K:KJ} {r:D}
 {CF:Str->List D->Option D} {CM:Str->Str->List D->Option D} {next brk cont:QV->Option D} {ret:D->Option D}
theorem wpS (S:SoundX C n K CF CM) {o i e:Expr} {ip pos:Pos} {Q:Flow->Shared->Prop} (X:Fk C A n env q F W s) (h:augSubQ K env.scope q o i e next=some r) (k:NxQ C env F W s next r Q) :
  wpAny (model C.prog C.w) A (exec (.AugAssign (.Subscript o i ip) .Add e pos) env) Q E s:=by
 apply nameM h;clear h;intro x xp h
 refine ifE h fun c h2=>andE c fun hv hsl=>?_
 clear h c
 rw [Bool.not_eq_true']at hsl
 refine wpAny_AugAssign_SubscriptAny ?_ (fun ov iv new=>by cases i<;>first | rfl | exact ffE hsl.symm)
 refine wcV X.r.st.rel hv h2 fun ob u h hl hh view=>?_
 refine S.ev X.ok h fun dk h kv sa F1 xa rk=>bindE h fun old eo h=>wnC eo (view.ext xa) rk xa.inn fun ov s₂ F2 xb ro=>?_
 have xm:=xa.trans xb
 refine S.ev (X.ext xm).ok h fun dv h v sd F3 xc rv=>bindE h fun dn en h=>wnP en (Rep.ext ro xc) rv xc.inn fun nv se F4 xf rn=>?_
 have xx:=xm.trans (xc.trans xf)
 have y:=xb.trans (xc.trans xf)
 exact woT (X.r.ext xx) hv hl (hh.keep xx.keep) ((view.ext xa).ext y) (Rep.ext rk y) rn h fun d' sj h y5 r5=>k ((Stp.of xx).trans y5) r5 h
theorem Fk.list {l:Addr} {vs us:Array Value} {nn:Nat} {xs ys:List D} {sa:Shared} {F1:FH} {h':Heap} {Q:Flow->Shared->Prop} (X:Fk C A n env q F W s) (k:NxQ C env F W s next r Q) (hv:isVar env.scope x=true) (hl:lookq x q=some (.own (.list xs))) (hh:Holds env s.heap x (.ref l))
  (e1:s.heap.get? l=some { cls:=.type "list",data:=.seq vs nn }) (xa:Ext F s F1 sa) (q2:Heap.SameBut l sa.heap h') (q1:h'.PlainList l us) (ry:RepAll C F1 ys us.toList) (hn:next (setq x (.own (.list ys)) q)=some r):Q .next { sa with heap:=h' }:=by
 obtain ⟨n2,e2⟩:=q1
 obtain ⟨n1,e1⟩:=wbS ⟨nn,e1⟩ xa.keep
 obtain ⟨rc,y2⟩:=(X.r.ext xa).upd (s':={ sa with heap:=h' }) (a₀:=l) (d':=.list ys) ⟨hl,hv,hh.keep xa.keep,q2,waI l,VL.mk e2 ry,(waX e2 rfl).trans (waX e1 rfl).symm,rfl⟩
 exact k ((Stp.of xa).trans y2) rc hn
theorem wqY (S:SoundX C n K CF CM) {f:Expr} {pos:Pos} {Q:Flow->Shared->Prop} (X:Fk C A n env q F W s) (h:exprQ K env.scope q f next=some r) (k:NxQ C env F W s next r Q) :
  wpAny (model C.prog C.w) A (exec (.Expr f pos) env) Q E s:=by
 apply callM h;clear h;intro f as ks cp h
 refine ifE h fun ek h2=>?_
 clear h
 have ek:=waw ek
 subst ek
 apply attrM h2;clear h2;intro o m ap h
 obtain ⟨x,xp,eo,h1⟩:=nameE h
 clear h
 subst eo
 apply oneM h1;clear h1;intro e h
 refine ifE h fun c h2=>andE c fun c c3=>andE c fun hv ok=>?_
 clear h c
 rw [Bool.not_eq_true']at c3
 have hi:interactive env=false:=by
  unfold interactive
  rw [X.r.st.rel.eo.kind];rfl
 refine wpAny_Expr ?_ hi rfl
 have hs:noStar [e]=true:=by
  show (!isStarE e&&true)=true
  rw [c3];rfl
 have one:(1:Nat)<20:=by decide
 refine iteE h2 (fun em h=>?_) fun _ h3=>ifE h3 fun em h=>?_
 ·have em:=eq_of_beq em
  clear h2
  subst em
  obtain ⟨hb,hline⟩:=wbW (env:=env) (m:=Str.ofString "append") ok
  refine wpAny_Call_method_lateS hb (fewArgs hs one) hline (wcV X.r.st.rel hv h fun ob u h hl hh view=>listE h fun xs eo h2=>?_)
  clear h
  subst eo
  cases view with | @mk l vs nn e1 rl=>
  rw [wak (waM hs)]
  exact ⟨"list","list.append",PySem.F.plainAttrs_list,PySem.F.slot_list_append,PySem.F.type_list_append,⟨_,e1,rfl⟩,fun a q=>⟨_,Value.ref.inj q ▸ e1,rfl⟩,
   callWith_builtin rfl (evalArgs_plain (spliced_cons (S.ev X.ok h2 fun d h v sa F1 xa rv=>spliced_nil (ifE h fun hc h=>wpAny_list_append_plain (wbS ⟨nn,e1⟩ xa.keep)
    (fun h' q1 q2=>X.list k hv hl hh e1 xa q2 q1 (by rw [Array.toList_push];exact (RepAll.mono xa.le _ rl).append (RepAll.one rv)) h) (waA (by rw [rl.size];exact hc))))))⟩
 ·have em:=eq_of_beq em
  clear h2 h3
  subst em
  obtain ⟨hb,hline⟩:=wbW (env:=env) (m:=Str.ofString "extend") ok
  refine wpAny_Call_method_lateS hb (fewArgs hs one) hline (wcV X.r.st.rel hv h fun ob u h hl hh view=>listE h fun xs eo h2=>?_)
  clear h
  subst eo
  cases view with | @mk l vs nn e1 rl=>
  rw [wak (waM hs)]
  refine ⟨"list","list.extend",PySem.F.plainAttrs_list,PySem.F.slot_list_extend,PySem.F.type_list_extend,⟨_,e1,rfl⟩,fun a q=>⟨_,Value.ref.inj q ▸ e1,rfl⟩,?_⟩
  refine callWith_builtin rfl (evalArgs_plain (spliced_cons (S.ev X.ok h2 fun d h v sa F1 xa rv=>spliced_nil ?_)))
  obtain ⟨n1,e1'⟩:=wbS ⟨nn,e1⟩ xa.keep
  apply listV (M:=fun v=>wpAny (model C.prog C.w) A (call _ [_,v]) _ E sa) h (Rep.view rv xa.inn);intro ys b us n2 eb ru h
  refine ifE h fun hc h=>?_
  have hsum:vs.size+us.size<=sizeLine:=waA (by rw [rl.size,ru.size];exact hc)
  refine call_meets PySem.F.slot_list_extend ⟨_,e1',rfl⟩ PySem.F.entry_list_extend (PySem.F.args_list_extend_2 _ _)
   (AutoSeq1.list_extend_list_list_0 l vs n1 b us n2 (extend_door hsum) (Nat.le_trans (Nat.le_add_right _ _) hsum) (Nat.le_succ_of_le hsum)) ⟨e1',eb,?_⟩
  have hg:=Heap.get?_update_self (h:=sa.heap) (Obj.mapSeq fun x=>x++us) e1' (by rw [mapSeq_app];rfl)
  rw [mapSeq_app]at hg
  exact X.list (us:=vs++us) k hv hl hh e1 xa (Heap.SameBut.update ..) ⟨_,hg⟩ (wis (RepAll.mono xa.le _ rl) ru) h
theorem wuJ {M:Expr->Prop} {T:Tab} {c:Cx} {sc:Scope} {q:QV} {t e:Expr} (h:wgq T K c sc q t e next=some r) (f1:∀ o a p,wgq T K c sc q (.Attribute o a p) e next=some r->M (.Attribute o a p)) (f2:∀ o i p,wgq T K c sc q (.Subscript o i p) e next=some r->M (.Subscript o i p)) (f3:∀ x p,wgq T K c sc q (.Name x p) e next=some r->M (.Name x p)) (f4:∀ ts k p,wgq T K c sc q (.Tuple ts k p) e next=some r->M (.Tuple ts k p)):M t:=by
 cases t<;>first | exact noneE h | exact f1 _ _ _ h | exact f2 _ _ _ h | exact f3 _ _ h | exact f4 _ _ _ h
theorem augTM {M:Expr->Prop} {sc:Scope} {q:QV} {t e:Expr} (h:augTQ K sc q t e next=some r) (f2:∀ o i p,augSubQ K sc q o i e next=some r->M (.Subscript o i p)) (f3:∀ x p,augNameQ K sc q x e next=some r->M (.Name x p)):M t:=by
 cases t<;>first | exact noneE h | exact f2 _ _ _ h | exact f3 _ _ h
theorem wtT (S:SoundX C n K CF CM) {c:Cx} {ts:List Expr} {e:Expr} {pos:Pos} {Q:Flow->Shared->Prop} (X:Fk C A n env q F W s) (h:asgQ C.T K c env.scope q ts e next=some r) (k:NxQ C env F W s next r Q) :
  wpAny (model C.prog C.w) A (exec (.Assign ts e pos) env) Q E s:=by
 rcases ts with _ | ⟨t,_ | ⟨t2,_ | ⟨t3,_ | _⟩⟩⟩
 ·exact noneE h
 ·apply wuJ (show wgq C.T K c env.scope q t e next=some r from h)<;>clear h
  ·intro o a p h;exact woz S X h k
  ·intro o i p h;exact wpU S X h k
  ·intro x p h;exact woy S X h k
  ·intro ts kk p h;exact wsy S X h k
 ·exact noneE h
 ·exact wsz S X h k
 ·exact noneE h
theorem wtS (S:SoundX C n K CF CM) {t:Expr} {op:Operator} {e:Expr} {pos:Pos} {Q:Flow->Shared->Prop} (X:Fk C A n env q F W s) (h:augQ K env.scope q t op e next=some r) (k:NxQ C env F W s next r Q) :
  wpAny (model C.prog C.w) A (exec (.AugAssign t op e pos) env) Q E s:=
 ifE h fun eo h2=>by
  clear h
  subst eo
  apply augTM h2<;>clear h2
  ·intro o i p h2;exact wpS S X h2 k
  ·intro x p h2;exact wox S X h2 k
theorem wrl (S:SoundX C n K CF CM) (Sx:SoundEx C n K.exs) {c:Cx} {st:Stmt} {Q:Flow->Shared->Prop} (X:Fk C A n env q F W s) (h:execSQ C.T K c env.scope q st next brk cont ret=some r) (k:ExQ C env F W s next brk cont ret r Q) :
  wpAny (model C.prog C.w) A (exec st env) Q E s:=by
 cases st<;>first | exact noneE h | skip
 case Return=>
  refine optE h fun e eo h2=>?_
  clear h
  subst eo
  exact wpAny_Return_some (S.ev X.ok h2 fun d h v sa F1 xa rv=>k (f:=.ret v) (Stp.of xa) (X.r.ext xa) ⟨d,h,rv⟩)
 case Break=>exact wpEq (arm_exec_Break ..) (wpAny_bind (wpAny_standAt (wpAny_pure (k (f:=.brk) Stp.refl X.r h))))
 case Continue=>exact wpEq (arm_exec_Continue ..) (wpAny_bind (wpAny_standAt (wpAny_pure (k (f:=.cont) Stp.refl X.r h))))
 case If=>
  exact wpAny_If (S.tr X.ok h fun b h sa F1 xa=>by
   cases b with
   | true=>exact Sx (X.ext xa) h (k.after (Stp.of xa))
   | false=>exact Sx (X.ext xa) h (k.after (Stp.of xa)))
 case Assign=>exact wtT S X h k.nx
 case AugAssign=>exact wtS S X h k.nx
 case Expr=>exact wqY S X h k.nx
end
noncomputable def HdOk (C:Fr) (n:Nat) (sc:Scope) (st:Stmt) (G:Hd):Prop:=
 ∀ ⦃A:Around⦄ ⦃env:Env⦄ ⦃q:QV⦄ ⦃next:QV->Option D⦄ ⦃ret:D->Option D⦄ ⦃r:D⦄ ⦃F:FH⦄ ⦃W:Addr->Prop⦄ ⦃s:Shared⦄ ⦃Q:Flow->Shared->Prop⦄ ⦃E:Value->Shared->Prop⦄,
  env.scope=sc->Fk C A n env q F W s->G q next ret=some r->ExQ C env F W s next (fun _=>none) (fun _=>none) ret r Q->wpAny (model C.prog C.w) A (exec st env) Q E s
noncomputable def HsK (C:Fr) (n:Nat) (sc:Scope):List Stmt->List (Option Hd)->Prop
 | [],_=>True
 | st::r,hs=>(∀ G,hs.headD none=some G->HdOk C n sc st G)/\HsK C n sc r hs.tail
noncomputable def restr (q0 q:QV):QV:=q.map fun p=>(p.1,if (lookq p.1 q0).isSome then p.2 else none)
noncomputable def forS {S:Type} (B:S->D->(S->Option D)->(S->Option D)->(D->Option D)->Option D):List D->S->(S->Option D)->(D->Option D)->Option D
 | [],s,next,ret=>next s
 | d::ds,s,next,ret=>B s d (fun s'=>forS B ds s' next ret) next ret
section
variable (T:Tab) (CF:Str->List D->Option D) (CM:Str->Str->List D->Option D)
noncomputable def turnQ (n:Nat) (c:Cx) (sc:Scope) (t:Expr) (body:List Stmt) (hs:List (Option Hd)) (q:QV) (d:D) (next brk:QV->Option D) (ret:D->Option D):Option D:=
 bindTQ sc t d q fun q1=>execT T (kI T CF CM n) c sc body hs q1 (fun q2=>next (restr q q2)) (fun q2=>brk (restr q q2)) (fun q2=>next (restr q q2)) ret
noncomputable def forQ (n:Nat) (c:Cx) (sc:Scope) (t:Expr) (body:List Stmt) (hs:List (Option Hd)):List D->QV->(QV->Option D)->(D->Option D)->Option D
 | [],q,next,ret=>next q
 | d::ds,q,next,ret=>turnQ T CF CM n c sc t body hs q d (fun q'=>forQ n c sc t body hs ds q' next ret) next ret
noncomputable def forK (st:Stmt) (k:Expr->Expr->Option D):Option D:=(@PySem.Stmt.casesOn (fun _=>_) st (fun _ _ _ _ _ _ _ _ _ _=>none) (fun _ _ _ _ _ _ _ _ _ _=>none) (fun _ _ _ _ _ _ _ _ _ _ _=>none) (fun _ _=>none) (fun _ _=>none) (fun _ _ _=>none) (fun _ _ _ _ _ _ _=>none) (fun _ _ _ _=>none) (fun _ _ _ _ _=>none) (fun t iter _ l _=>if l.isEmpty then k t iter else none) (fun _ _ _ _ _=>none) (fun _ _ _ _=>none) (fun _ _ _ _=>none) (fun _ _ _=>none) (fun _ _ _=>none) (fun _ _ _=>none) (fun _ _ _=>none) (fun _ _ _ _ _=>none) (fun _ _ _ _ _=>none) (fun _ _ _=>none) (fun _ _=>none) (fun _ _ _ _=>none) (fun _ _=>none) (fun _ _=>none) (fun _ _=>none) (fun _=>none) (fun _=>none) (fun _=>none))
noncomputable def mkF {C S:Type} (n:Nat) (sc:Scope) (st:Stmt) (dec:QV->Option (C×S)) (enc:C->S->QV) (B:C->S->D->(S->Option D)->(S->Option D)->(D->Option D)->Option D):Hd:=fun q next ret=>
 forK st fun t iter=>(kI T CF CM n).it sc (staysq q) iter t fun ds=>if ds.length<=cap then optK (dec q) fun x=>forS (B x.1) ds x.2 (fun s'=>next (enc x.1 s')) ret else none
end
noncomputable def forT:Stmt->Expr
 | .For t _ _ _ _=>t
 | _=>.Constant .none 0 default
noncomputable def forB:Stmt->List Stmt
 | .For _ _ b _ _=>b
 | _=>[]
section
variable {C:Fr} {F F':FH} {A:Around} {E:Value->Shared->Prop} {s s':Shared} {d d':D} {env:Env} {q q':QV} {n:Nat} {W W':Addr->Prop} {h h':Heap} {a₀ a:Addr} {x:Str} {v:Value} {sl:Slot} {K:KJ} {r:D}
 {CF:Str->List D->Option D} {CM:Str->Str->List D->Option D} {next brk cont:QV->Option D} {ret:D->Option D}
theorem wl0 {st:Stmt} {l:List Stmt} {xs:List Str} {nx:QV->Option D} {Q:Flow->Shared->Prop} (X:Fk C A n env q F W s) (k:ExQ C env F W s next brk cont ret r Q)
  (ih:∀ {F W s q},Fk C A n env q F W s->nx q=some r->ExQ C env F W s next brk cont ret r Q->wpAny (model C.prog C.w) A (execs l env) Q E s)
  (h:∀ {F₀ W0 Q},Fk C A n env (frzq env.scope xs q) F₀ W0 s->ExQ C env F₀ W0 s nx brk cont ret r Q->wpAny (model C.prog C.w) A (exec st env) Q E s):wpAny (model C.prog C.w) A (execs (st::l) env) Q E s:=by
 obtain ⟨F₀,W0,rj,ya⟩:=X.r.frz xs
 have ya:=ya s rfl
 have k₀:=k.after ya
 refine wpAny_execs_cons (h (X.to ya rj) fun s' F' W' q' f y r' hf=>?_)
 cases f with
 | next=>exact ih (X.to (ya.trans y) r') hf (k₀.after y)
 | brk=>exact k₀ (f:=.brk) y r' hf
 | cont=>exact k₀ (f:=.cont) y r' hf
 | ret v=>exact k₀ (f:=.ret v) y r' hf
theorem wtz (S:SoundX C n K CF CM) (Sx:SoundEx C n K.exs):SoundEx C n fun c sc q l next brk cont ret=>execLQ C.T K c sc l q next brk cont ret:=by
 intro A env c q l
 induction l generalizing q with
 | nil=>intro next brk cont ret r F W s Q E X h k;exact wpAny_execs_nil (k (f:=.next) Stp.refl X.r h)
 | cons st l ih=>intro next brk cont ret r F W s Q E X h k;exact wl0 (xs:=hintsAt c st) X k (fun X h k=>ih X h k) fun X' k'=>wrl S Sx X' h k'
theorem wps (S:SoundX C n K CF CM) (Sx:SoundEx C n K.exs) {c:Cx} (l:List Stmt):∀ {hs:List (Option Hd)} {q:QV} {F:FH} {W:Addr->Prop} {s:Shared} {Q:Flow->Shared->Prop},HsK C n env.scope l hs->Fk C A n env q F W s->execT C.T K c env.scope l hs q next brk cont ret=some r ->
  ExQ C env F W s next brk cont ret r Q->wpAny (model C.prog C.w) A (execs l env) Q E s:=by
 induction l with
 | nil=>intro hs q F W s Q H X h k;exact wpAny_execs_nil (k (f:=.next) Stp.refl X.r h)
 | cons st l ih=>
  intro hs q F W s Q H X h k
  refine wl0 (xs:=hintsAt c st) X k (fun X h k=>ih H.2 X h k) fun {F₀ W0 Q'} X' k'=>?_
  have h1:=H.1
  have h:stmtQ C.T K c env.scope (frzq env.scope (hintsAt c st) q) st (hs.headD none) (fun q'=>execT C.T K c env.scope l hs.tail q' next brk cont ret) brk cont ret=some r:=h
  clear H
  generalize hs.headD none=o at h1 h
  cases o with
  | none=>exact wrl S Sx X' h k'
  | some G=>
   refine h1 G rfl rfl X' h fun s' F' W' q' f y r' hf=>?_
   cases f with
   | next=>exact k' (f:=.next) y r' hf
   | brk=>exact noneE hf
   | cont=>exact noneE hf
   | ret v=>exact k' (f:=.ret v) y r' hf
theorem wum (kn:Known C) (st:∃ mcs,StOk C mcs) (Sf:SoundFn C n CF) (Sm:SoundMeth C n CM) (m:Nat):SoundX C n (kI C.T CF CM m) CF CM/\SoundEx C n (kI C.T CF CM m).exs:=by
 induction m with
 | zero=>exact ⟨⟨fun _ h=>noneE h,fun _ h=>noneE h,fun _ h=>noneE h,Sf,Sm,kn,st,fun h=>noneE h⟩,fun _ h=>noneE h⟩
 | succ m ih=>exact ⟨⟨wom ih.1,wt5 ih.1,wun ih.1,Sf,Sm,kn,st,fun h=>noneE h⟩,wtz ih.1 ih.2⟩
theorem wqh (q0 q:QV):QLe (restr q0 q) q:=fun x sl h=>by
 unfold restr at h
 rw [whj (fun x o=>if (lookq x q0).isSome then o else none) x (fun x=>ite_self _)]at h
 exact ifE h fun _ h=>h
theorem wqa (q:QV):QLe (staysq q) q:=fun x sl h=>wiJ h fun h _=>h
theorem wqb (q:QV):AllFz (staysq q):=fun x sl h=>wiJ h fun _ h=>by
 cases sl with
 | fz d=>exact .inl ⟨d,rfl⟩
 | own d=>cases d<;>first | exact .inr ⟨_,_,rfl⟩ | exact ffE h
theorem forE {st:Stmt} {k:Expr->Expr->Option D} (h:forK st k=some r):∃ t iter body l p,st=.For t iter body l p/\(if l.isEmpty then k t iter else none)=some r:=by
 cases st<;>first | exact ⟨_,_,_,_,_,rfl,h⟩ | exact noneE h
structure FInv (C:Fr) (env:Env) (F1:FH) (F:FH) (W:Addr->Prop) (s:Shared) (fp wr:List Addr) (St:Nat->Heap->Prop) (run:List D->QV->Option D) (ds:List D) (r:D) (i:Nat) (F3:FH) (W3:Addr->Prop) (q:QV) (s':Shared):Prop where
 le:i<=ds.length
 st:St i s'.heap
 y:Stp F W s F3 W3 s'
 le₁:F1.le F3
 fr:FnRel C env F3 W3 s'.heap q
 run:run (ds.drop i) q=some r
 fp:∀ b∈fp,¬ W3 b
 wr:∀ b∈wr,F3 b=none
theorem wtj (S:SoundX C n K CF CM) {t iter:Expr} {body:List Stmt} {pos:Pos} {run:List D->QV->Option D} {Q:Flow->Shared->Prop} (X:Fk C A n env q F W s) (k:ExQ C env F W s next (fun _=>none) (fun _=>none) ret r Q)
  {kx:List D->Option D} (hrun:K.it env.scope (staysq q) iter t kx=some r) (hk:∀ ds,kx ds=some r->run ds q=some r) (r0:∀ {q},run [] q=some r->next q=some r)
  (rs:∀ {d ds q},run (d::ds) q=some r->∃ nx:QV->Option D,(∀ q2,nx (restr q q2)=some r->run ds (restr q q2)=some r)/\∃ kb:QV->Option D,bindTQ env.scope t d q kb=some r /\
   ∀ {F W s Q q1} {E:Value->Shared->Prop},kb q1=some r->Fk C A n env q1 F W s->ExQ C env F W s (fun q2=>nx (restr q q2)) (fun q2=>next (restr q q2)) (fun q2=>nx (restr q q2)) ret r Q->wpAny (model C.prog C.w) A (execs body env) Q E s) :
  wpAny (model C.prog C.w) A (exec (.For t iter body [] pos) env) Q E s:=by
 have R:=X.R
 refine wpAny_For ?_ (weQ S.set hrun)
 refine S.it ⟨R,X.g,(X.r.less (wqa q)).st.rel⟩ hrun fun ds hd F1 hH xa I s₂ fp wr P Md St xb tn=>?_
 have hf:=hk ds hd
 clear hrun hd hk
 have KT:=tn.kt A R.handled
 have hwr0:∀ b∈wr,s.heap.get? b=none:=fun b hb=>xa.keep.gone (tn.new b hb)
 have live:∀ {i:Nat} {h:Heap},St i h->∀ b∈fp,h.get? b≠none:=fun {i h} st b hb=>by
  obtain ⟨o,e,_⟩:=tn.alive _ _ st b hb
  rw [e];exact wav
 have rc:=(X.r.ext xa).ext xb
 have hwt:tabAt C ∉ wr:=fun q=>by
  obtain ⟨o,e,_⟩:=X.r.st.rel.tab
  exact noAt e (hwr0 _ q)
 refine codeAny_forLoop_any (fun m s'=>∃ i F3 W3 qb,m=ds.length+1 - i/\FInv C env F1 F W s fp wr St run ds r i F3 W3 qb s') ?_ (ds.length+1)
  ⟨0,F1,W,q,rfl,Nat.zero_le _,tn.st,Stp.of (xa.trans xb),FH.le.refl _,rc,by rw [List.drop_zero];exact hf,fun b hb q=>(tn.src b hb).elim (fun e=>X.r.st.wIn b q (xa.keep.gone e)) fun e=>e (wqb _) ((X.r.ext xa).st.wF b q),fun b hb=>noneF xa.inn (tn.new b hb)⟩
 rintro m s' ⟨i,F3,W3,qb,rfl,V⟩
 have wW:∀ b∈wr,¬ W3 b:=fun b hb=>V.fp b (KT.sub b hb)
 by_cases hlt:i<ds.length
 ·refine KT.item i s' _ _ hlt V.st fun v hU tk1 hMd hka=>KT.go i v _ _ _ hMd fun hJ hPv sta hk2=>?_
  have hk2:∀ b o,¬ b∈wr->s'.heap.get? b=some o->hJ.get? b=some o:=fun b o q e=>hk2 b o q (hka b o q e)
  have y2:=V.y.but (s₂:={ s' with heap:=hJ,toks:=tk1 }) (P:=fun b=>b∈wr) hwr0 hk2
  have r5:=V.fr.touch (h':=hJ) (P:=fun b=>b∈wr) hk2 V.wr wW hwt
  have hf:=V.run
  rw [List.drop_eq_getElem_cons hlt]at hf
  obtain ⟨nx,hnx,kb,c1,c2⟩:=rs hf
  obtain ⟨d',hd',hit⟩:=tn.rep i v _ hPv
  rw [List.getElem?_eq_getElem hlt]at hd'
  have e:=Option.some.inj hd';subst e
  have frm:∀ {i:Nat} {h h':Shared} {F4 F5:FH} {W4 W5:Addr->Prop},St i h.heap->Stp F4 W4 h F5 W5 h'->(∀ b∈fp,¬ W4 b)->St i h'.heap:=fun {i h h' F4 F5 W4 W5} st z nw=>KT.frame _ _ _ st fun b hb o e=>z.keep b o (nw b hb) (by
   obtain ⟨o',e',nt⟩:=tn.alive _ _ st b hb
   rw [e]at e';rw [Option.some.inj e'];exact nt) e
  refine wi6 (wmh { s' with heap:=hJ,toks:=tk1 }) (s:={ s' with heap:=hJ,toks:=tk1 }) R.handled ⟨Stp.refl,r5⟩ c1 (hit.mono V.le₁) fun qe bd _ sd ⟨y3,r6⟩=>?_
  have st3:=frm sta y3 V.fp
  refine c2 (bd c1) ⟨R,X.g.mono V.y.le,r6⟩ fun se F4 W4 qc f z r7 hfl=>?_
  have yy:=(y2.trans y3).trans z
  have hwF4:∀ b∈wr,F4 b=none:=fun b hb=>by
   cases q:F4 b with
   | none=>rfl
   | some o=>
    rcases z.f b o q with e | e | e
    ·exact noneE ((V.wr b hb).symm.trans e)
    ·exact absurd e (wW b hb)
    ·exact absurd e (live st3 b (KT.sub b hb))
  have r8:=r7.less (wqh qb qc)
  have again:nx (restr qb qc)=some r->∃ m,m<ds.length+1 - i/\∃ i F3 W3 qb,m=ds.length+1 - i/\FInv C env F1 F W s fp wr St run ds r i F3 W3 qb se:=
   fun c3=>⟨ds.length+1 - (i+1),subLt hlt,i+1,F4,W4,_,rfl,hlt,frm st3 z V.fp,yy,V.le₁.trans z.le,r8,hnx _ c3,fun b hb q=>(z.w b q).elim (V.fp b hb) fun e=>live st3 b hb e,hwF4⟩
  cases f with
  | next=>exact again hfl
  | cont=>exact again hfl
  | brk=>exact k (f:=.next) yy r8 hfl
  | ret v=>exact k (f:=.ret v) yy r8 hfl
 ·have hin:i=ds.length:=Nat.le_antisymm V.le (Nat.not_lt.mp hlt)
  have hf:=V.run
  rw [hin,List.drop_of_length_le (Nat.le_refl _)]at hf
  refine KT.done s' _ _ (hin ▸ V.st) fun h' tk hk'=>wpAny_execs_nil (k (f:=.next) (V.y.but (s₂:={ s' with heap:=h',toks:=tk }) (P:=fun b=>b∈wr) hwr0 hk') (V.fr.touch (h':=h') (P:=fun b=>b∈wr) hk' V.wr wW hwt) (r0 hf))
end
structure FdOk (C:Fr) (a:Addr) (d:Def) (o:Obj) (fd:FuncData):Prop where
 look:C.K.lookup a=some o
 data:o.data=.func fd
 code:codeIn C.K fd.code fd.qualname=true
 body:fd.body=.stmts d.body
 clos:fd.closure=[]
 scope:fd.scope=d.scope
 glob:fd.globals=mainGlobals
 bi:fd.builtins=builtinsNs
 bind:∀ vals:List Value,vals.length=d.params.length->bindArgs fd ⟨vals,[]⟩=pure (d.params.zip vals)
 kind:d.scope.kind=.function
 cor:d.scope.isCoroutine=false
 gen:d.scope.isGenerator=false
 nodup:(d.scope.names.map (·.1)).Nodup
 pars:∀ x∈d.params,d.scope.names.lookup x=some .local\/d.scope.names.lookup x=some .cell
 pnodup:d.params.Nodup
 free:∀ p∈d.scope.names,p.2≠.free
 tab:d.scope.names.lookup gk=some .local->∃ c,fd.code=.ref c/\∃ o,C.K.lookup c=some o/\CodeO o c (tabAt C)
 keep:keepIn C.K (.ref a)=true
section
variable {C:Fr} {F F':FH} {A:Around} {E:Value->Shared->Prop} {s s':Shared} {d d':D} {env:Env} {q q':QV} {n:Nat} {W W':Addr->Prop} {h h':Heap} {a:Addr} {x:Str} {v:Value} {sl:Slot}
theorem wov {kindOf:Str->Option NameKind} {ps:List Str}:∀ {vs:List Value} {m:Str->Option Value},x ∉ ps->bindL kindOf (ps.zip vs) m x=m x:=by
 induction ps with
 | nil=>intro vs m _;rfl
 | cons p ps ih=>
  intro vs m hx
  cases vs with
  | nil=>rfl
  | cons u vs=>
   rw [List.mem_cons,not_or]at hx
   refine (ih (vs:=vs) hx.2).trans ?_
   by_cases c:kindOf p=some .local
   ·rw [if_pos c];exact if_neg hx.1
   ·rw [if_neg c]
theorem wow {kindOf:Str->Option NameKind} {ps:List Str}:∀ {vs:List Value} {m:Str->Option Value},x ∉ ps->bindC kindOf (ps.zip vs) m x=m x:=by
 induction ps with
 | nil=>intro vs m _;rfl
 | cons p ps ih=>
  intro vs m hx
  cases vs with
  | nil=>rfl
  | cons u vs=>
   rw [List.mem_cons,not_or]at hx
   refine (ih (vs:=vs) hx.2).trans ?_
   by_cases c:kindOf p=some .local
   ·rw [if_pos c]
   ·rw [if_neg c];exact if_neg hx.1
theorem wrc {kindOf:Str->Option NameKind} (hk:kindOf x=some .local) {ps:List Str}:∀ {vs:List Value} {m:Str->Option Value},ps.Nodup->(x,v)∈ps.zip vs->bindL kindOf (ps.zip vs) m x=some v:=by
 induction ps with
 | nil=>intro vs m _ h;exact memE h
 | cons p ps ih=>
  intro vs m hn h
  cases vs with
  | nil=>exact memE h
  | cons u vs=>
   rw [List.nodup_cons]at hn
   rcases List.mem_cons.mp h with e | h
   ·injection e with e1 e2
    subst e1 e2
    refine (wov (vs:=vs) hn.1).trans ?_
    rw [if_pos hk];exact if_pos rfl
   ·exact ih (vs:=vs) hn.2 h
theorem wrd {kindOf:Str->Option NameKind} (hk:kindOf x≠some .local) {ps:List Str}:∀ {vs:List Value} {m:Str->Option Value},ps.Nodup->(x,v)∈ps.zip vs->bindC kindOf (ps.zip vs) m x=some v:=by
 induction ps with
 | nil=>intro vs m _ h;exact memE h
 | cons p ps ih=>
  intro vs m hn h
  cases vs with
  | nil=>exact memE h
  | cons u vs=>
   rw [List.nodup_cons]at hn
   rcases List.mem_cons.mp h with e | h
   ·injection e with e1 e2
    subst e1 e2
    refine (wow (vs:=vs) hn.1).trans ?_
    rw [if_neg hk];exact if_pos rfl
   ·exact ih (vs:=vs) hn.2 h
theorem weF {names:List (Str×NameKind)} (hn:(names.map (·.1)).Nodup) (nn:Nat):((cellsFrom nn names []).map (·.1)).Nodup:=by
 rw [wcb,List.map_nil,List.append_nil]
 exact (List.reverse_perm _).symm.nodup_iff.mp (hn.sublist (List.filter_sublist.map _))
theorem wkF {names:List (Str×NameKind)} {nn:Nat}:(∃ c,(x,c)∈cellsFrom nn names []) ↔ (x,NameKind.cell)∈names:=by
 have e:x∈(cellsFrom nn names []).map (·.1) ↔ x∈((names.filter fun p=>p.2==.cell).map (·.1)):=by
  rw [wcb,List.map_nil,List.append_nil,List.mem_reverse]
 rw [List.mem_map,List.mem_map]at e
 refine ⟨fun ⟨c,h⟩=>?_,fun h=>?_⟩
 ·obtain ⟨⟨y,k⟩,hp,hy⟩:=e.mp ⟨_,h,rfl⟩
  obtain ⟨h1,h2⟩:=List.mem_filter.mp hp
  have h2:=eq_of_beq h2
  subst hy
  exact h2 ▸ h1
 ·obtain ⟨⟨y,c⟩,hp,hy⟩:=e.mpr ⟨(x,.cell),List.mem_filter.mpr ⟨h,rfl⟩,rfl⟩
  exact ⟨c,hy ▸ hp⟩
theorem wkx {df:Def} {o:Obj} {fd:FuncData} {vals:List Value} {sa:Shared} {L:Addr} {O:Addr->Prop} (ok:FdOk C a df o fd) (g:Gd C F) (hk:HeapOk C F s.heap)
  (hL:s.heap.get? L=none) (hsz:s.heap.objs.size<=L)
  (x:InCallC s (callEnvC fd L a).locals (bindL (callEnvC fd L a).kindOf (df.params.zip vals) fun _=>none) (callEnvC fd L a).cells (bindC (callEnvC fd L a).kindOf (df.params.zip vals) fun _=>none) sa)
  (hO:∀ b,O b->F b=none/\s.heap.get? b≠none/\b≠tabAt C)
  (hq:∀ {y sl},lookq y q=some sl->∃ v,(y,v)∈df.params.zip vals/\SlotOk C s.heap F v sl/\(∀ d,sl=.own d->∀ b∈tops s.heap.get? v,O b))
  (hone:∀ {y z d d'},lookq y q=some (.own d)->lookq z q=some (.own d')->y=z)
  (hsf:∀ {y c fs v},lookq y q=some (.own (.obj c fs))->(y,v)∈df.params.zip vals->v=.ref (L - 1)) :
  FnRel C (callEnvC fd L a) F (fun b=>O b\/(s.heap.get? b=none/\sa.heap.get? b≠none)) sa.heap q:=by
 have hcs:(callEnvC fd L a).cells=cellsFrom (L+1) df.scope.names []:=by show cellsFrom (L+1) fd.scope.names []=_;rw [ok.scope]
 have hsc:(callEnvC fd L a).scope=df.scope:=ok.scope
 have hkind:∀ y,(callEnvC fd L a).kindOf y=df.scope.names.lookup y:=fun y=>by show fd.scope.names.lookup y=_;rw [ok.scope]
 have keep:∀ b o,s.heap.get? b=some o->sa.heap.get? b=some o:=x.toInCall.keep
 have cell:∀ {y},df.scope.names.lookup y=some .cell->∃ c,(callEnvC fd L a).cells.lookup y=some c:=fun {y} hy=>by
  rw [hcs]
  obtain ⟨c,hc⟩:=wkF (nn:=L+1).mpr (mem_lookup hy)
  exact ⟨c,wbx (weF ok.nodup _) hc⟩
 have above:∀ {y c},(callEnvC fd L a).cells.lookup y=some c->L<c:=fun {y c} hc=>x.above y c (mem_of_lookup hc)
 have cnew:∀ {y c},(callEnvC fd L a).cells.lookup y=some c->s.heap.get? c=none:=fun hc=>Heap.get?_none_of_le (Nat.le_trans hsz (Nat.le_of_lt (above hc)))
 have cin:∀ {y c},(callEnvC fd L a).cells.lookup y=some c->sa.heap.get? c≠none:=fun {y c} hc=>by obtain ⟨o,e,_⟩:=x.cell y c hc;rw [e];exact wav
 have nsL:sa.heap.Ns L (bindL (callEnvC fd L a).kindOf (df.params.zip vals) fun _=>none):=x.toInCall.ns
 have inL:sa.heap.get? L≠none:=by obtain ⟨o,_,_,e,_⟩:=nsL;rw [e];exact wav
 have holds:∀ {y v},(y,v)∈df.params.zip vals->Holds (callEnvC fd L a) sa.heap y v:=fun {y v} hm=>by
  rcases ok.pars y (List.of_mem_zip hm).1 with h | h
  ·exact .inl ⟨by rw [hsc];exact h,_,nsL,wrc (by rw [hkind,h]) ok.pnodup hm⟩
  ·obtain ⟨c,hc⟩:=cell h
   have:=x.cell y c hc
   rw [wrd (by rw [hkind,h];decide) ok.pnodup hm]at this
   exact .inr ⟨.inl (by rw [hsc];exact h),c,hc,this⟩
 have own:∀ {y d v},lookq y q=some (.own d)->Holds (callEnvC fd L a) sa.heap y v->(y,v)∈df.params.zip vals/\∀ b∈tops sa.heap.get? v,O b:=fun {y d v} hl hh=>by
  obtain ⟨u,h1,h2,h3⟩:=hq hl
  have e:=hh.fn (holds h1);subst e
  exact ⟨h1,fun b hb=>h3 d rfl b (by rwa [wcL h2 (fun b _ o e=>keep b o e)]at hb)⟩
 exact ⟨{
  rel:={
   eo:=⟨by rw [hsc];exact ok.kind,ok.glob,ok.bi,fun y hy=>by
    rw [hsc]at hy
    exact hy.elim cell fun h=>absurd rfl (ok.free _ (mem_lookup h)),fun y z c h1 h2=>name_of_addr x.apart (mem_of_lookup h1) (mem_of_lookup h2)⟩
   inn:=fun b o e=>keep b o (hk.inn b o e)
   vars:=fun {y sl} hl hv=>by
    obtain ⟨u,h1,h2,h3⟩:=hq hl
    refine ⟨u,holds h1,?_⟩
    cases sl with
    | fz d=>exact h2
    | own d=>exact Vw.mono h2 keep (FH.le.refl F)
   cin:=cin
   own:=fun y d v hl hv hh b hb=>by
    have hb:=(hO b ((own hl hh).2 b hb)).2.1
    exact ⟨fun q=>hb (by rw [q];exact hL),fun z c hc q=>hb (by rw [<- q];exact cnew hc)⟩
   tab:=by obtain ⟨o,e,t⟩:=hk.tab;exact ⟨o,keep _ o e,t⟩
   ftab:=hk.ftab
   code:=fun q=>by
    obtain ⟨c,e,o,e1,r⟩:=ok.tab (hsc ▸ q)
    exact ⟨c,e,o,g.kin _ _ e1,r⟩ }
  wF:=fun b hb=>hb.elim (fun hb=>(hO b hb).1) fun hb=>noneF hk.inn hb.1
  wIn:=fun b hb=>hb.elim (fun hb=>by
   cases q:s.heap.get? b with
   | none=>exact absurd q (hO b hb).2.1
   | some o=>rw [keep b o q];exact wav) fun hb=>hb.2
  wL:=.inr ⟨hL,inL⟩
  ns:=⟨_,nsL⟩
  set:=fun y hy=>by
   rw [hsc]at hy ⊢
   unfold canSet at hy
   cases q:df.scope.names.lookup y with
   | none=>rw [q]at hy;exact ffE hy
   | some k=>
    rw [q]at hy
    cases k with
    | «local»=>exact .inl rfl
    | cell=>obtain ⟨c,hc⟩:=cell q;exact .inr ⟨rfl,c,_,hc,.inr ⟨cnew hc,cin hc⟩,x.cell y c hc⟩
    | _=>exact ffE hy
  cL:=fun y c hc=>Nat.ne_of_gt (above hc)
  cB:=fun y c hc=>.inr (.inr ⟨cnew hc,cin hc⟩)
  oB:=fun y d v hl hv hh b hb=>.inl (.inl ((own hl hh).2 b hb))
  tW:=fun q=>q.elim (fun q=>(hO _ q).2.2 rfl) fun q=>by obtain ⟨o,e,_⟩:=hk.tab;exact noAt e q.1
  tB:=.inr rfl },fun y c hc=>.inr ⟨cnew hc,cin hc⟩,fun y d v hl hv hh b hb=>.inl ((own hl hh).2 b hb),
  fun y z d d' v v' hn hl hl' _ _ _ _=>absurd (hone hl hl') hn,fun y c fs v hl hv hh=>hsf hl (own hl hh).1⟩
end
noncomputable def initQ (ps:List Str) (args:List D) (ls:List Str):QV:=(ps.zip args).map (fun p=>(p.1,some (.fz p.2)))++ls.map (fun x=>(x,none))
noncomputable def selfQ (self:Str) (q:QV):Option D:=ownK (lookq self q) fun d=>objK d fun c fs=>some (.obj c fs)
noncomputable def BodyOk (C:Fr) (n:Nat) (df:Def) (q:QV) (next:QV->Option D) (ret:D->Option D) (d:D):Prop:=
 ∀ ⦃A:Around⦄ ⦃env:Env⦄ ⦃F:FH⦄ ⦃W:Addr->Prop⦄ ⦃s:Shared⦄ ⦃Q:Flow->Shared->Prop⦄ ⦃E:Value->Shared->Prop⦄,env.scope=df.scope->Fk C A n env q F W s->ExQ C env F W s next (fun _=>none) (fun _=>none) ret d Q->wpAny (model C.prog C.w) A (execs df.body env) Q E s
section
variable {C:Fr} {F F':FH} {A:Around} {E:Value->Shared->Prop} {s s':Shared} {d d':D} {env:Env} {q q':QV} {n:Nat} {W W':Addr->Prop} {h h':Heap} {a:Addr} {x:Str} {v:Value} {sl:Slot}
theorem wey {P:Prop} {ls:List Str} {ps:List Str}:∀ {vs:List Value} {ds:List D},RepAll C F ds vs->lookq x (initQ ps ds ls)=some sl->(∀ v d,(x,v)∈ps.zip vs->sl=.fz d->Rep C F v d->P)->P:=by
 have no:∀ {P:Prop} (l:List Str),lookq x (l.map fun y=>(y,none))=some sl->P:=fun l=>by
  induction l with
  | nil=>exact fun h=>noneE h
  | cons y l ih=>
   intro h
   by_cases c:(y==x)=true
   ·exact noneE ((if_pos c).symm.trans h)
   ·exact ih ((if_neg c).symm.trans h)
 induction ps with
 | nil=>intro vs ds _ h _;exact no ls h
 | cons p ps ih=>
  intro vs ds r h f
  cases ds with
  | nil=>exact no ls h
  | cons d ds=>
   cases r with | mk r1 r2=>
   by_cases c:(p==x)=true
   ·have h:=(if_pos c).symm.trans h
    rw [eq_of_beq c]at f
    exact f _ d List.mem_cons_self (Option.some.inj h).symm r1
   ·exact ih r2 ((if_neg c).symm.trans h) fun v d hm=>f v d (List.mem_cons_of_mem _ hm)
theorem FdOk.kinds {df:Def} {o:Obj} {fd:FuncData} (ok:FdOk C a df o fd) {vals:List Value} (nn:Nat):∀ x∈df.params.zip vals,fd.scope.names.lookup x.1=some .local\/(fd.scope.names.lookup x.1=some .cell/\((cellsFrom nn fd.scope.names []).lookup x.1).isSome=true):=fun x hm=>by
 rw [ok.scope]
 refine (ok.pars x.1 (List.of_mem_zip hm).1).imp_right fun h=>?_
 obtain ⟨c,hc⟩:=wkF (nn:=nn).mpr (mem_lookup h)
 exact ⟨h,by rw [wbx (weF ok.nodup nn) hc];rfl⟩
theorem Room.deeper {A:Around} (R:Room A (n+1)) (env:Env):Room (A.deeper env) n:=⟨R.handled,by have:=R.depth;show A.depth+1+2 * n+10<_;omega,by have:=R.units;show A.units+3+16 * n+200<_;omega⟩
theorem wjS {df:Def} {o:Obj} {fd:FuncData} {ds:List D} {ls:List Str} (ok:FdOk C a df o fd) (hb:BodyOk C n df (initQ df.params ds ls) (fun _=>some .none) some d) (hlen:df.params.length=ds.length):FnSem C (n+1) (.ref a) ds d:=by
 intro A F s vs Q E R g hk rv k
 have X:=g.kIn hk.inn
 refine wpAny_call (codeAny_call_cells (by have:=R.depth;omega) (X _ _ ok.look) ok.data (g.limit hk.inn) (codeRec_of X ok.code) ok.body (ok.bind vs (rv.length.trans hlen.symm)) ok.clos (ok.kinds _) ?_ (by rw [ok.scope];exact ok.cor) (by rw [ok.scope];exact ok.gen) (by rw [ok.scope];exact ok.kind))
 intro sa inC
 have fr:=wkx (s:=s) (q:=initQ df.params ds ls) (O:=fun _=>False) ok g hk (get?_size _) (Nat.le_refl _) inC (fun b q=>q.elim)
  (fun {y sl} hl=>wey rv hl fun v d' q1 e q2=>by subst e;exact ⟨v,q1,q2,fun d e=>Slot.noConfusion e⟩)
  (fun {y z d' d''} hl _=>wey rv hl fun _ _ _ e _=>Slot.noConfusion e) fun {y c fs v} hl _=>wey rv hl fun _ _ _ e _=>Slot.noConfusion e
 refine hb (A:=A.deeper _) ok.scope ⟨R.deeper _,g,fr⟩ fun s' F' W' q' f y r' hf=>?_
 have x:=y.ext (KeepT.of inC.toInCall.keep) (.call inC.toInCall) (fun b q=>q.elim False.elim fun q=>q.1) r'.st.rel.inn
 cases f with
 | next=>exact k _ s' F' x (Option.some.inj hf ▸ rfl)
 | ret v=>
  obtain ⟨d',e,rv'⟩:=hf
  exact k _ s' F' x (Option.some.inj e ▸ rv')
 | brk=>exact noneE hf
 | cont=>exact noneE hf
theorem wmz {c:Str} {df:Def} {o:Obj} {fd:FuncData} {ds:List D} {ls ps:List Str} {self:Str} (ok:FdOk C a df o fd) (hm:makesIn C.K (C.cad c)=true) (hi:findIn C.K (.ref (C.cad c)) "__init__"=some (some (.ref a))) (ht:typeIn C.K (.ref a)=some (.type "function"))
  (hps:df.params=self::ps) (hlen:ps.length=ds.length) (hsv:isVar df.scope self=true) (hb:BodyOk C n df ((self,some (.own (.obj c [])))::initQ ps ds ls) (selfQ self) (fun _=>none) d):FnSem C (n+1) (.ref (C.cad c)) ds d:=by
 intro A F s vs Q E R g hk rv k
 obtain ⟨hp,gg,dr,tk,os⟩:=s
 have X:=g.kIn hk.inn
 have hlv:=rv.length
 refine wpAny_call (make_core (makes_of X hm) (looks_findIn X hi) (fun self=>bind_fn X self ht) (.inl (by simp)) ?_)
 have dead0:hp.get? hp.objs.size=none:=get?_size _
 have dead1:hp.get? (hp.objs.size+1)=none:=Heap.get?_none_of_le (Nat.le_succ _)
 have kp:∀ b ob,hp.get? b=some ob->((hp.push emptyDict).push (instObj (C.cad c) hp.objs.size)).get? b=some ob:=fun b ob e=>Heap.get?_push_of_some _ (Heap.get?_push_of_some _ e)
 have hz:((hp.push emptyDict).push (instObj (C.cad c) hp.objs.size)).objs.size=hp.objs.size+2:=by rw [Heap.size_push,Heap.size_push]
 have ed:((hp.push emptyDict).push (instObj (C.cad c) hp.objs.size)).get? hp.objs.size=some emptyDict:=Heap.get?_push_of_some _ (Heap.get?_push_size _ rfl)
 have ex:((hp.push emptyDict).push (instObj (C.cad c) hp.objs.size)).get? (hp.objs.size+1)=some (instObj (C.cad c) hp.objs.size):=by
  have:(hp.push emptyDict).objs.size=hp.objs.size+1:=Heap.size_push ..
  rw [<- this];exact Heap.get?_push_size _ rfl
 generalize ((hp.push emptyDict).push (instObj (C.cad c) hp.objs.size))=H at *
 generalize hp.objs.size=z at *
 have hk2:HeapOk C F H:=hk.ext (s:=⟨hp,gg,dr,tk,os⟩) (s':=⟨H,gg,dr,tk,os⟩) (Ext.same (s:=⟨hp,gg,dr,tk,os⟩) (s':=⟨H,gg,dr,tk,os⟩) hk.inn kp)
 have X2:=g.kIn hk2.inn
 have htops:tops H.get? (.ref (z+1))=[z+1,z]:=wbk ex
 have hview:View C H F (.ref (z+1)) (.obj c []):=VO.mk ex ed ⟨⟨#[],_,rfl,fun e he=>absurd he (Array.not_mem_empty e),fun nm=>rfl⟩,fun des ep q=>by injection q with q1 q2;rw [<- q1];exact Nat.le_refl _⟩ rfl
 have hsnd:=ok.pnodup
 rw [hps,List.nodup_cons]at hsnd
 have hdep:(A.under (.builtin "type.__call__" ⟨.ref (C.cad c)::vs,[]⟩)).depth=A.depth+1:=rfl
 have hun:(A.under (.builtin "type.__call__" ⟨.ref (C.cad c)::vs,[]⟩)).units<=A.units+4:=Nat.add_le_add_left (show Code.cUnits (.builtin "type.__call__" ⟨.ref (C.cad c)::vs,[]⟩)<=4 from by show (_:Nat)<=4;exact Nat.le_of_ble_eq_true rfl) _
 have Rd:=R.depth
 have Ru:=R.units
 refine codeAny_call_cells (s:=⟨H,gg,dr,tk,os⟩) (by rw [hdep];omega) (X2 _ _ ok.look) ok.data (g.limit hk2.inn) (codeRec_of X2 ok.code) ok.body (ok.bind _ (by rw [hps];exact congrArg Nat.succ (hlv.trans hlen.symm))) ok.clos (ok.kinds _) ?_ (by rw [ok.scope];exact ok.cor) (by rw [ok.scope];exact ok.gen) (by rw [ok.scope];exact ok.kind)
 intro sa inC
 have lk:∀ {P:Prop} {y sl},lookq y ((self,some (.own (.obj c [])))::initQ ps ds ls)=some sl->(y=self->sl=.own (.obj c [])->P)->(∀ v d,(y,v)∈ps.zip vs->sl=.fz d->Rep C F v d->P)->P:=fun {P y sl} hl f f'=>by
  by_cases q:(self==y)=true
  ·exact f (eq_of_beq q).symm (Option.some.inj ((if_pos q).symm.trans hl)).symm
  ·exact wey rv ((if_neg q).symm.trans hl) f'
 have hft:∀ b,hp.get? b=none->F b=none/\b≠tabAt C:=fun b e=>⟨noneF hk.inn e,fun q=>by obtain ⟨ob,e',_⟩:=hk.tab;rw [<- q]at e';exact noAt e' e⟩
 have fr:=wkx (s:=⟨H,gg,dr,tk,os⟩) (L:=H.objs.size) (q:=(self,some (.own (.obj c [])))::initQ ps ds ls) (O:=fun b=>b=z\/b=z+1) ok g hk2 (get?_size _) (Nat.le_refl _) inC
  (fun b q=>q.elim (fun q=>q ▸ ⟨(hft _ dead0).1,by show H.get? _≠none;rw [ed];exact wav,(hft _ dead0).2⟩) fun q=>q ▸ ⟨(hft _ dead1).1,by show H.get? _≠none;rw [ex];exact wav,(hft _ dead1).2⟩)
  (fun {y sl} hl=>lk hl (fun e1 e2=>by
   subst e1 e2
   refine ⟨.ref (z+1),by rw [hps];exact List.mem_cons_self,hview,fun d e b hb=>?_⟩
   have hb:b∈tops H.get? (.ref (z+1)):=hb
   rw [htops]at hb
   exact (List.mem_cons.mp hb).elim .inr fun hb=>.inl (List.mem_singleton.mp hb)) fun v d' q1 e q2=>by subst e;exact ⟨v,by rw [hps];exact List.mem_cons_of_mem _ q1,q2,fun d e=>Slot.noConfusion e⟩)
  (fun {y y' d' d''} hl hl'=>lk hl (fun e1 _=>lk hl' (fun e2 _=>e1.trans e2.symm) fun _ _ _ e _=>Slot.noConfusion e) fun _ _ _ e _=>Slot.noConfusion e)
  fun {y c' fs v} hl hm'=>lk hl (fun e1 _=>by
   subst e1
   rw [hps,List.zip_cons_cons]at hm'
   rcases List.mem_cons.mp hm' with e | hm'
   ·injection e with _ e;rw [e,hz];rfl
   ·exact absurd (List.of_mem_zip hm').1 hsnd.1) fun _ _ _ e _=>Slot.noConfusion e
 refine hb (A:=(A.under (.builtin "type.__call__" ⟨.ref (C.cad c)::vs,[]⟩)).deeper _) ok.scope ⟨⟨R.handled,?_,?_⟩,g,fr⟩ fun s' F' W' q' f y r' hf=>?_
 ·show A.depth+1+1+2 * n+10<_;omega
 ·show (A.under _).units+3+16 * n+200<_;omega
 cases f with
 | next=>
  refine ⟨rfl,?_⟩
  refine ownE (show selfQ self q'=some d from hf) fun od hl' e=>objE e fun c' fs' eo e=>?_
  have ed':=Option.some.inj e
  clear e hf
  subst eo ed'
  have hsv':isVar (callEnvC fd H.objs.size a).scope self=true:=by rw [show (callEnvC fd H.objs.size a).scope=df.scope from ok.scope];exact hsv
  obtain ⟨v,hh,view⟩:=r'.st.rel.vars hl' hsv'
  have hv:v=.ref (z+1):=(r'.sf hl' hsv' hh).trans (by show Value.ref (H.objs.size - 1)=_;rw [hz];rfl)
  subst hv
  have kx:Keep hp sa.heap:=Keep.trans kp inC.toInCall.keep
  have dead:∀ b,((b=z\/b=z+1)\/H.get? b=none/\sa.heap.get? b≠none)->hp.get? b=none:=fun b q=>
   q.elim (fun q=>q.elim (fun q=>q ▸ dead0) fun q=>q ▸ dead1) fun q=>wec kp q.1
  have x:=y.ext (s₀:=⟨hp,gg,dr,tk,os⟩) (KeepT.of kx) ⟨(Calm.call inC.toInCall).os,(Calm.call inC.toInCall).gens⟩ dead r'.st.rel.inn
  have htW:∀ b∈tops s'.heap.get? (.ref (z+1)),W' b:=fun b hb=>r'.oW hl' hsv' hh b hb
  have hdead:∀ b,W' b->hp.get? b=none:=fun b q=>(y.w b q).elim (dead b) fun e=>wec kx e
  cases view with | @mk b' d₁ od es e1 e2 hn rf=>
  have ht:=wbk (G:=s'.heap.get?) e1
  have w1:=htW (z+1) (ht ▸ List.mem_cons_self)
  have w2:=htW d₁ (ht ▸ List.mem_cons_of_mem _ List.mem_cons_self)
  have hne:d₁≠z+1:=fun q=>by
   rw [q,e1]at e2
   obtain ⟨_,_,y,_⟩:=hn.ns
   rw [<- Option.some.inj e2]at y
   exact absurd y (by intro y;cases y)
  have xa:=x.seal (hdead _ w1) (r'.st.wF _ w1) (fun _ _ _ e=>e) e1
  have f2:(F'.put (z+1) (instObj (C.cad c') d₁)) d₁=none:=by unfold FH.put;rw [if_neg hne];exact r'.st.wF _ w2
  have xb:=xa.seal (hdead _ w2) f2 (fun _ _ _ e=>e) e2
  have f1':((F'.put (z+1) (instObj (C.cad c') d₁)).put d₁ od) (z+1)=some (instObj (C.cad c') d₁):=by
   unfold FH.put;rw [if_neg (Ne.symm hne),if_pos rfl]
  exact k _ s' _ xb (VO.mk f1' (FH.put_self _ _ _) hn (RepFs.mono ((FH.le_put (r'.st.wF _ w1)).trans (FH.le_put f2)) _ rf))
 | ret v=>obtain ⟨_,e,_⟩:=hf;exact noneE e
 | brk=>exact noneE hf
 | cont=>exact noneE hf
end
structure FnsOk (C:Fr):Prop where
 fns:∀ f d,C.T.fns.lookup f=some d->∃ a o fd,C.mg f=some (.ref a)/\FdOk C a d o fd
 cls:∀ c ms,C.T.cls.lookup c=some ms->C.mg c=some (.ref (C.cad c))/\makesIn C.K (C.cad c)=true/\keepIn C.K (.ref (C.cad c))=true /\
  ∀ m d,ms.lookup m=some d->∃ a o fd,findIn C.K (.ref (C.cad c)) m=some (some (.ref a))/\typeIn C.K (.ref a)=some (.type "function")/\FdOk C a d o fd
structure Wd (T:Tab) (C:Fr):Prop where
 t:C.T=T
 fns:FnsOk C
 st:∃ mcs,StOk C mcs
noncomputable def CGood (T:Tab) (CF:Str->List D->Option D) (CM:Str->Str->List D->Option D) (N:Nat):Prop:=∀ C,Wd T C->SoundFn C N CF/\SoundMeth C N CM
noncomputable def FOk (T:Tab) (N:Nat) (sc:Scope) (st:Stmt) (G:Hd):Prop:=∀ C,Wd T C->HdOk C N sc st G
noncomputable def stD:Stmt:=.Pass default
noncomputable def HsI (T:Tab) (N:Nat) (sc:Scope) (l:List Stmt):Nat->List (Option Hd)->Prop
 | _,[]=>True
 | i,some F::hs=>FOk T N sc (l.getD i stD) F/\HsI T N sc l (i+1) hs
 | i,none::hs=>HsI T N sc l (i+1) hs
noncomputable abbrev HsOk (T:Tab) (N:Nat) (sc:Scope) (l:List Stmt) (hs:List (Option Hd)):Prop:=HsI T N sc l 0 hs
noncomputable def runQ (T:Tab) (CF:Str->List D->Option D) (CM:Str->Str->List D->Option D) (n:Nat) (d:Def) (hs:List (Option Hd)) (ls:List Str) (args:List D):Option D:=
 execT T (kI T CF CM n) d.cx d.scope d.body hs (initQ d.params args ls) (fun _=>some .none) (fun _=>none) (fun _=>none) some
noncomputable def newQ (T:Tab) (CF:Str->List D->Option D) (CM:Str->Str->List D->Option D) (n:Nat) (c:Str) (d:Def) (hs:List (Option Hd)) (ls:List Str) (self:Str) (ps:List Str) (args:List D):Option D:=
 execT T (kI T CF CM n) d.cx d.scope d.body hs ((self,some (.own (.obj c [])))::initQ ps args ls) (selfQ self) (fun _=>none) (fun _=>none) (fun _=>none)
theorem wsc {T:Tab} {c m:Str} {P:Prop} (h:hasM T c m=true) (f:∀ ms d,T.cls.lookup c=some ms->ms.lookup m=some d->P):P:=by
 unfold hasM at h
 cases e:T.cls.lookup c with
 | none=>rw [e]at h;exact ffE h
 | some ms=>
  rw [e]at h
  cases e2:ms.lookup m with
  | none=>exact ffE ((congrArg Option.isSome e2).symm.trans h)
  | some d=>exact f ms d e e2
theorem Wd.known {T:Tab} {C:Fr} (W:Wd T C):Known C where
 fn {f} h:=by
  unfold hasF at h
  cases e:C.T.fns.lookup f with
  | some d=>obtain ⟨a,o,fd,e1,ok⟩:=W.fns.fns f d e;exact ⟨_,e1,ok.keep⟩
  | none=>
   cases e2:C.T.cls.lookup f with
   | none=>rw [e,e2]at h;exact ffE h
   | some ms=>obtain ⟨e1,_,e3,_⟩:=W.fns.cls f ms e2;exact ⟨_,e1,e3⟩
 me {c m} h:=wsc h fun ms d e1 e2=>by
  obtain ⟨mcs,co⟩:=W.st
  obtain ⟨_,_,_,e4⟩:=W.fns.cls c ms e1
  obtain ⟨a,o,fd,e5,e6,ok⟩:=e4 m d e2
  exact ⟨co.cls c (by rw [e1];rfl),a,e5,e6,ok.keep⟩
theorem FnSem.mono {C:Fr} {n m:Nat} {v:Value} {ds:List D} {d:D} (x:FnSem C n v ds d) (h:n<=m):FnSem C m v ds d:=fun R=>x (R.mono h)
section
variable {T:Tab} {CF:Str->List D->Option D} {CM:Str->Str->List D->Option D} {N:Nat} {sc:Scope} {r:D}
theorem HsI.k {C:Fr} (W:Wd T C) {l:List Stmt}:∀ {k i:Nat} {hs:List (Option Hd)},l.length - i=k->HsI T N sc l i hs->HsK C N sc (l.drop i) hs:=by
 intro k
 induction k with
 | zero=>intro i hs hk _;rw [List.drop_of_length_le (leSub hk)];trivial
 | succ k ih=>
  intro i hs hk h
  have hi:i<l.length:=ltSub hk
  rw [List.drop_eq_getElem_cons hi]
  cases hs with
  | nil=>exact ⟨fun G e=>noneE e,ih (hs:=[]) (sub1 hk) trivial⟩
  | cons o hs=>
   cases o with
   | none=>exact ⟨fun G e=>noneE e,ih (sub1 hk) h⟩
   | some G=>exact ⟨fun G' e=>by
     have:=h.1 C W
     rw [List.getD_eq_getElem?_getD,List.getElem?_eq_getElem hi]at this
     exact Option.some.inj e ▸ this,ih (sub1 hk) h.2⟩
theorem HsOk.k {C:Fr} (W:Wd T C) {l:List Stmt} {hs:List (Option Hd)} (h:HsOk T N sc l hs):HsK C N sc l hs:=by
 have:=HsI.k W rfl h
 rwa [List.drop_zero]at this
theorem CGood.k (G:CGood T CF CM N) {C:Fr} (W:Wd T C) (m:Nat):SoundX C N (kI C.T CF CM m) CF CM/\SoundEx C N (kI C.T CF CM m).exs:=by
 obtain ⟨h1,h2⟩:=G C W
 exact wum W.known W.st h1 h2 m
theorem wbl (G:CGood T CF CM N) {P S:Type} {n n':Nat} {c:Cx} {st:Stmt} {hs:List (Option Hd)}
  {dec:QV->Option (P×S)} {enc:P->S->QV} {B:P->S->D->(S->Option D)->(S->Option D)->(D->Option D)->Option D}
  (hdec:∀ q x,dec q=some x->q=enc x.1 x.2)
  (hB:∀ cc s d next brk ret,turnQ T CF CM n' c sc (forT st) (forB st) hs (enc cc s) d next brk ret=B cc s d (fun s'=>next (enc cc s')) (fun s'=>brk (enc cc s')) ret)
  (H:HsOk T N sc (forB st) hs):FOk T N sc st (mkF T CF CM n sc st dec enc B):=by
 intro C W A env q next ret r F Wa s Q E hsc X h k
 obtain ⟨t,iter,body,l,p,e1,h2⟩:=forE h
 clear h
 refine ifE h2 fun e2 h3=>?_
 clear h2
 have e2:=waw e2
 subst e1 e2 hsc
 have et:=W.t
 subst et
 obtain ⟨S1,_⟩:=G.k W n
 obtain ⟨S2,Sx2⟩:=G.k W n'
 have conv:∀ (cc:P) (ds:List D) (s:S),forQ C.T CF CM n' c env.scope t body hs ds (enc cc s) next ret=forS (B cc) ds s (fun s'=>next (enc cc s')) ret:=by
  intro cc ds
  induction ds with
  | nil=>intro s;rfl
  | cons d ds ih=>
   intro s
   have e:=hB cc s d (fun q'=>forQ C.T CF CM n' c env.scope t body hs ds q' next ret) next ret
   rw [show (fun s'=>forQ C.T CF CM n' c env.scope t body hs ds (enc cc s') next ret)=fun s'=>forS (B cc) ds s' (fun s'=>next (enc cc s')) ret from funext fun s'=>ih s']at e
   exact e
 refine wtj (run:=fun ds q=>forQ C.T CF CM n' c env.scope t body hs ds q next ret) S1 X k h3 (fun ds h=>ifE h fun _ h=>optE h fun x e h=>?_) (fun h=>h) fun {d ds q} h=>⟨fun q'=>forQ C.T CF CM n' c env.scope t body hs ds q' next ret,fun _ h=>h,fun q1=>execT C.T (kI C.T CF CM n') c env.scope body hs q1 (fun q2=>forQ C.T CF CM n' c env.scope t body hs ds (restr q q2) next ret) (fun q2=>next (restr q q2)) (fun q2=>forQ C.T CF CM n' c env.scope t body hs ds (restr q q2) next ret) ret,h,fun h X' k'=>wps S2 Sx2 body (HsOk.k W H) X' h k'⟩
 rw [hdec _ _ e]
 exact (conv ..).trans h
theorem wk4 (G:CGood T CF CM N) {C:Fr} (W:Wd T C) {n:Nat} {d:Def} {hs:List (Option Hd)} {q:QV} {next:QV->Option D} {ret:D->Option D} (H:HsOk T N d.scope d.body hs)
  (h:execT T (kI T CF CM n) d.cx d.scope d.body hs q next (fun _=>none) (fun _=>none) ret=some r):BodyOk C N d q next ret r:=fun A env F Wa s Q E hsc X k=>by
 have et:=W.t
 subst et
 obtain ⟨S,Sx⟩:=G.k W n
 rw [<- hsc]at h H
 exact wps S Sx _ (HsOk.k W H) X h k
end
noncomputable abbrev TF:=List (Str×(List D->Option D))
noncomputable abbrev TM:=List ((Str×Str)×(List D->Option D))
noncomputable def lookF (f:Str):TF->Option (List D->Option D)
 | []=>none
 | (g,s)::r=>if g==f then some s else lookF f r
noncomputable def lookM (c m:Str):TM->Option (List D->Option D)
 | []=>none
 | (g,s)::r=>if g.1==c&&g.2==m then some s else lookM c m r
noncomputable def cfOf (t:TF):Str->List D->Option D:=fun f ds=>optK (lookF f t) fun s=>s ds
noncomputable def cmOf (t:TM):Str->Str->List D->Option D:=fun c m ds=>optK (lookM c m t) fun s=>s ds
noncomputable def FnGood (T:Tab) (f:Str) (s:List D->Option D) (N:Nat):Prop:=∀ C,Wd T C->∀ ⦃ds d v⦄,s ds=some d->C.mg f=some v->FnSem C N v ds d
noncomputable def MeGood (T:Tab) (c f:Str) (s:List D->Option D) (N:Nat):Prop:=∀ C,Wd T C->∀ ⦃ds d a⦄,s ds=some d->findIn C.K (.ref (C.cad c)) f=some (some (.ref a))->FnSem C N (.ref a) ds d
noncomputable def AllF (T:Tab) (N:Nat):TF->Prop
 | []=>True
 | (f,s)::r=>FnGood T f s N/\AllF T N r
noncomputable def AllM (T:Tab) (N:Nat):TM->Prop
 | []=>True
 | (f,s)::r=>MeGood T f.1 f.2 s N/\AllM T N r
section
variable {T:Tab} {CF:Str->List D->Option D} {CM:Str->Str->List D->Option D} {N M:Nat}
theorem FnGood.mono {f:Str} {s:List D->Option D} (h:FnGood T f s N) (l:N<=M):FnGood T f s M:=fun C W _ _ _ e e'=>FnSem.mono (h C W e e') l
theorem MeGood.mono {c f:Str} {s:List D->Option D} (h:MeGood T c f s N) (l:N<=M):MeGood T c f s M:=fun C W _ _ _ e e'=>FnSem.mono (h C W e e') l
theorem AllF.mono (l:N<=M) {t:TF} (h:AllF T N t):AllF T M t:=by
 induction t with
 | nil=>trivial
 | cons p t ih=>exact ⟨h.1.mono l,ih h.2⟩
theorem AllM.mono (l:N<=M) {t:TM} (h:AllM T N t):AllM T M t:=by
 induction t with
 | nil=>trivial
 | cons p t ih=>exact ⟨h.1.mono l,ih h.2⟩
theorem wqC {t:TF} {f:Str} {s:List D->Option D} (h:AllF T N t) (e:lookF f t=some s):FnGood T f s N:=by
 induction t with
 | nil=>exact noneE e
 | cons p t ih=>exact iteE e (fun q e=>by rw [<- Option.some.inj e,<- eq_of_beq q];exact h.1) fun _ e=>ih h.2 e
theorem wqB {t:TM} {c f:Str} {s:List D->Option D} (h:AllM T N t) (e:lookM c f t=some s):MeGood T c f s N:=by
 induction t with
 | nil=>exact noneE e
 | cons p t ih=>exact iteE e (fun q e=>andE q fun q1 q2=>by rw [<- Option.some.inj e,<- eq_of_beq q1,<- eq_of_beq q2];exact h.1) fun _ e=>ih h.2 e
theorem wiq {tf:TF} {tm:TM} (hf:AllF T N tf) (hm:AllM T N tm):CGood T (cfOf tf) (cmOf tm) N:=fun C W=>
 ⟨fun h e=>optE h fun _ e1 h=>wqC hf e1 C W h e,fun h e=>optE h fun _ e1 h=>wqB hm e1 C W h e⟩
theorem wbH {n:Nat} (G:CGood T CF CM N) {f:Str} {d:Def} {hs:List (Option Hd)} {ls:List Str} {s:List D->Option D} (hf:T.fns.lookup f=some d)
  (H:HsOk T N d.scope d.body hs) (h:∀ args r,s args=some r->d.params.length=args.length/\runQ T CF CM n d hs ls args=some r):FnGood T f s (N+n+8):=fun C W ds r v e ev=>by
 obtain ⟨a,o,fd,e1,ok⟩:=W.fns.fns f d (W.t ▸ hf)
 obtain ⟨h1,h2⟩:=h ds r e
 rw [Option.some.inj (ev.symm.trans e1)]
 exact FnSem.mono (wjS ok (wk4 G W H h2) h1) (Nat.le_trans (Nat.add_le_add_right (Nat.le_add_right N n) 1) (Nat.le_add_right _ 7))
theorem wlM {n:Nat} (G:CGood T CF CM N) {c:Str} {ms:List (Str×Def)} {d:Def} {hs:List (Option Hd)} {ls:List Str} {self:Str} {ps:List Str} {s:List D->Option D} (hc:T.cls.lookup c=some ms) (hi:ms.lookup ("__init__":Str)=some d)
  (hp:d.params=self::ps) (hv:isVar d.scope self=true)
  (H:HsOk T N d.scope d.body hs) (h:∀ args r,s args=some r->ps.length=args.length/\newQ T CF CM n c d hs ls self ps args=some r):FnGood T c s (N+n+8):=fun C W ds r v e ev=>by
 obtain ⟨e1,e2,e3,e4⟩:=W.fns.cls c ms (W.t ▸ hc)
 obtain ⟨a,o,fd,e5,e6,ok⟩:=e4 _ d hi
 obtain ⟨h1,h2⟩:=h ds r e
 rw [Option.some.inj (ev.symm.trans e1)]
 exact FnSem.mono (wmz ok e2 e5 e6 hp h1 hv (wk4 G W H h2)) (Nat.le_trans (Nat.add_le_add_right (Nat.le_add_right N n) 1) (Nat.le_add_right _ 7))
theorem wdk {n:Nat} (G:CGood T CF CM N) {c f:Str} {ms:List (Str×Def)} {d:Def} {hs:List (Option Hd)} {ls:List Str} {s:List D->Option D} (hc:T.cls.lookup c=some ms) (hi:ms.lookup f=some d)
  (H:HsOk T N d.scope d.body hs) (h:∀ args r,s args=some r->d.params.length=args.length/\runQ T CF CM n d hs ls args=some r):MeGood T c f s (N+n+8):=fun C W ds r v e ev=>by
 obtain ⟨_,_,_,e4⟩:=W.fns.cls c ms (W.t ▸ hc)
 obtain ⟨a,o,fd,e5,e6,ok⟩:=e4 _ d hi
 obtain ⟨h1,h2⟩:=h ds r e
 rw [Option.some.inj (Option.some.inj (ev.symm.trans e5))]
 exact FnSem.mono (wjS ok (wk4 G W H h2) h1) (Nat.le_trans (Nat.add_le_add_right (Nat.le_add_right N n) 1) (Nat.le_add_right _ 7))
end
noncomputable abbrev a1 (f:D->Option D) (ds:List D):Option D:=oneK ds f
noncomputable abbrev a2 (f:D->D->Option D) (ds:List D):Option D:=unK ds fun a ds=>oneK ds fun b=>f a b
noncomputable abbrev a3 (f:D->D->D->Option D) (ds:List D):Option D:=unK ds fun a ds=>a2 (f a) ds
noncomputable abbrev a4 (f:D->D->D->D->Option D) (ds:List D):Option D:=unK ds fun a ds=>a3 (f a) ds
noncomputable abbrev a5 (f:D->D->D->D->D->Option D) (ds:List D):Option D:=unK ds fun a ds=>a4 (f a) ds
section
variable {M:List D->Prop} {ds:List D} {r:D}
theorem a1M {f:D->Option D} (h:a1 f ds=some r) (g:∀ a,f a=some r->M [a]):M ds:=oneM h g
theorem unKM {k:D->List D->Option D} (h:unK ds k=some r) (g:∀ a ds,k a ds=some r->M (a::ds)):M ds:=by
 cases ds with
 | nil=>exact noneE h
 | cons a ds=>exact g a ds h
theorem a2M {f:D->D->Option D} (h:a2 f ds=some r) (g:∀ a b,f a b=some r->M [a,b]):M ds:=unKM h fun a ds h=>oneM (M:=fun ds=>M (a::ds)) h fun b h=>g a b h
theorem a3M {f:D->D->D->Option D} (h:a3 f ds=some r) (g:∀ a b c,f a b c=some r->M [a,b,c]):M ds:=unKM h fun a ds h=>a2M (M:=fun ds=>M (a::ds)) h fun b c h=>g a b c h
theorem a4M {f:D->D->D->D->Option D} (h:a4 f ds=some r) (g:∀ a b c d,f a b c d=some r->M [a,b,c,d]):M ds:=unKM h fun a ds h=>a3M (M:=fun ds=>M (a::ds)) h fun b c d h=>g a b c d h
end
noncomputable def zq:List Str->List (Option Slot)->QV
 | a::r,b::q=>(a,b)::zq r q
 | _,_=>[]
noncomputable def sl (q:QV):List (Option Slot):=q.map (·.2)
noncomputable def nq (q:QV):List Str:=q.map (·.1)
noncomputable def nqK {X:Type} (ns:List Str) (q:QV) (k:List (Option Slot)->Option X):Option X:=if nq q=ns then k (sl q) else none
noncomputable def hdK {X:Type} (l:List (Option Slot)) (k:Option Slot->List (Option Slot)->Option X):Option X:=match l with
 | o::r=>k o r
 | []=>none
noncomputable def uF {X:Type} (l:List (Option Slot)) (k:D->List (Option Slot)->Option X):Option X:=hdK l fun o r=>fzK o fun d=>k d r
noncomputable def uL {X:Type} (l:List (Option Slot)) (k:List D->List (Option Slot)->Option X):Option X:=hdK l fun o r=>ownK o fun d=>listK d fun xs=>k xs r
noncomputable def uM {X:Type} (l:List (Option Slot)) (k:List (Key×D)->List (Option Slot)->Option X):Option X:=hdK l fun o r=>ownK o fun d=>dictK d fun xs=>k xs r
noncomputable def uO {X:Type} (c m:Str) (l:List (Option Slot)) (k:D->List (Option Slot)->Option X):Option X:=hdK l fun o r=>ownK o fun d=>objK d fun c' fs=>oneK fs fun f=>if c'=c/\f.1=m then k f.2 r else none
noncomputable def uN {X:Type} (l:List (Option Slot)) (k:List (Option Slot)->Option X):Option X:=hdK l fun o r=>if o.isNone then k r else none
noncomputable def uE {X:Type} (l:List (Option Slot)) (x:X):Option X:=if l.isEmpty then some x else none
section
variable {X:Type} {M:List (Option Slot)->Prop} {l:List (Option Slot)} {x:X}
theorem nqE {ns:List Str} {q:QV} {k:List (Option Slot)->Option X} {L:List (Option Slot)} (h:nqK ns q k=some x) (f:∀ l,k l=some x->l=L):q=zq ns L:=ifE h fun e h2=>by
 rw [<- f _ h2,<- e]
 clear h h2 f e
 induction q with
 | nil=>rfl
 | cons p q ih=>exact congrArg (p::·) ih
theorem hdM {k:Option Slot->List (Option Slot)->Option X} (h:hdK l k=some x) (f:∀ o r,k o r=some x->M (o::r)):M l:=by
 cases l with
 | nil=>exact noneE h
 | cons o r=>exact f o r h
theorem uFM {k:D->List (Option Slot)->Option X} (h:uF l k=some x) (f:∀ d r,k d r=some x->M (some (.fz d)::r)):M l:=hdM h fun o r h=>fzE h fun d e h=>e ▸ f d r h
theorem uLM {k:List D->List (Option Slot)->Option X} (h:uL l k=some x) (f:∀ d r,k d r=some x->M (some (.own (.list d))::r)):M l:=hdM h fun o r h=>ownE h fun d e h=>listE h fun xs e' h=>by rw [e,e'];exact f xs r h
theorem uMM {k:List (Key×D)->List (Option Slot)->Option X} (h:uM l k=some x) (f:∀ d r,k d r=some x->M (some (.own (.dict d))::r)):M l:=hdM h fun o r h=>ownE h fun d e h=>dictE h fun xs e' h=>by rw [e,e'];exact f xs r h
theorem uOM {c m:Str} {k:D->List (Option Slot)->Option X} (h:uO c m l k=some x) (f:∀ d r,k d r=some x->M (some (.own (.obj c [(m,d)]))::r)):M l:=hdM h fun o r h=>ownE h fun d e h=>objE h fun c' fs e' h=>oneE h fun p ef h=>ifE h fun z h=>by
 obtain ⟨a,b⟩:=p
 have z1:c'=c:=z.1
 have z2:a=m:=z.2
 rw [e,e',ef,z1,z2];exact f _ r h
theorem uNM {k:List (Option Slot)->Option X} (h:uN l k=some x) (f:∀ r,k r=some x->M (none::r)):M l:=hdM h fun o r h=>ifE h fun e h=>by rw [Option.isNone_iff_eq_none.mp e];exact f r h
theorem uEM {y:X} (h:uE l y=some x) (f:y=x->M []):M l:=ifE h fun e h=>by rw [waw e];exact f (Option.some.inj h)
end
noncomputable def setChk (xs:List Int) (es:List (Int×Value)):Bool:=
 (es.all fun e=>match e.2 with | .int i _=>e.1==hashInt i&&xs.contains i | _=>false)&&xs.all fun x=>es.any fun e=>match e.2 with | .int i _=>i==x | _=>false
theorem wsJ {prog:Program} {w:World} {o:Obj} {es:Array (Int×Value)} {ep:Nat} {t:SetTable} {xs:List Int} (hx:o.ExactSet) (hd:o.data=.set es ep t) (hf:t.fits es.size=true) (h:setChk xs es.toList=true) :
  o.SetObjOf (intKind prog w) (fun k=>xs.contains k) es.size:=by
 unfold setChk at h
 rw [Bool.and_eq_true,List.all_eq_true,List.all_eq_true]at h
 obtain ⟨h1,h2⟩:=h
 refine ⟨hx,es,ep,t,hd,fun e he=>?_,fun k=>⟨fun hk=>?_,fun ⟨e,he,hk⟩=>?_⟩,rfl,hf⟩
 ·have:=h1 e he
  split at this
  ·rename_i i tk q
   rw [Bool.and_eq_true]at this
   refine ⟨⟨i,by rw [q];exact intKind_is prog w i tk,eq_of_beq this.1⟩,by rw [q];rfl⟩
  ·cases this
 ·have:=h2 k (by simpa using hk)
  obtain ⟨e,he,q⟩:=List.any_eq_true.mp this
  refine ⟨e,he,?_⟩
  split at q
  ·rename_i i tk q'
   rw [q',eq_of_beq q];exact intKind_is prog w k tk
  ·cases q
 ·have:=h1 e he
  split at this
  ·rename_i i tk q
   rw [Bool.and_eq_true]at this
   rw [q]at hk
   obtain ⟨t',e'⟩:=Value.isInt_shape (show Value.isInt k (.int i tk)=true from hk)
   cases e'
   exact this.2
  ·cases this
noncomputable def iK (k:Key) (f:Int->Bool):Bool:=match k with
 | .i n=>f n
 | .s _=>false
noncomputable def sDK (d:D) (f:List Nat->Bool):Bool:=match d with
 | .str x=>f x
 | _=>false
noncomputable def sVK (v:Value) (f:Str->Bool):Bool:=match v with
 | .str s _=>f s
 | _=>false
noncomputable def entOk (e:DictEntry) (p:Key×D):Bool:=iK p.1 fun n=>sDK p.2 fun x=>e.key.isInt n&&(sVK e.val fun s=>s.cps.toList==x)&&e.hash==hashInt n
noncomputable def dictChk:List DictEntry->List (Key×D)->Bool
 | [],[]=>true
 | e::es,p::l=>entOk e p&&dictChk es l
 | [],_::_=>false
 | _::_,[]=>false
noncomputable def risesK:Int->List (Key×D)->Bool
 | _,[]=>true
 | a,(.i n,_)::l=>decide (a<n)&&risesK n l
 | _,_=>false
theorem wki:∀ {l:List (Key×D)} {a:Int},risesK a l=true->∀ k∈l.map (·.1),∃ n,k=.i n/\a<n
 | [],_,_,k,hk=>by simp at hk
 | (.i n,d)::l,a,h,k,hk=>by
  simp only [risesK,Bool.and_eq_true,decide_eq_true_eq]at h
  rw [List.map_cons]at hk
  rcases List.mem_cons.mp hk with rfl | hk
  ·exact ⟨n,rfl,h.1⟩
  ·obtain ⟨m,e,q⟩:=wki h.2 k hk
   exact ⟨m,e,by omega⟩
 | (.s _,d)::l,a,h,k,hk=>by simp [risesK]at h
theorem wgL:∀ {l:List (Key×D)} {a:Int},risesK a l=true->(l.map (·.1)).Nodup
 | [],_,_=>.nil
 | (.i n,d)::l,a,h=>by
  simp only [risesK,Bool.and_eq_true,decide_eq_true_eq]at h
  rw [List.map_cons,List.nodup_cons]
  refine ⟨fun hm=>?_,wgL h.2⟩
  obtain ⟨m,e,q⟩:=wki h.2 _ hm
  cases e;omega
 | (.s _,d)::l,a,h=>by simp [risesK]at h
theorem iKE {P:Prop} {k:Key} {f:Int->Bool} (h:iK k f=true) (g:∀ n,k=.i n->f n=true->P):P:=by
 cases k with
 | i n=>exact g n rfl h
 | s _=>exact ffE h
theorem sDE {P:Prop} {d:D} {f:List Nat->Bool} (h:sDK d f=true) (g:∀ x,d=.str x->f x=true->P):P:=by
 cases d<;>first | exact g _ rfl h | exact ffE h
theorem sVE {P:Prop} {v:Value} {f:Str->Bool} (h:sVK v f=true) (g:∀ s u,v=.str s u->f s=true->P):P:=by
 cases v<;>first | exact g _ _ rfl h | exact ffE h
theorem wtE {P:Prop} {e:DictEntry} {es:List DictEntry} {l:List (Key×D)} (h:dictChk (e::es) l=true) (f:∀ n x l',l=(.i n,.str x)::l'->e.hash=hashInt n->(∃ t,e.key=.int n t)->(∃ u,e.val=.str (mk x) u)->dictChk es l'=true->P):P:=by
 cases l with
 | nil=>exact ffE h
 | cons p l=>
  refine andE (show (entOk e p&&dictChk es l)=true from h) fun h1 h2=>iKE h1 fun n e1 h1=>sDE h1 fun x e2 h1=>andE h1 fun h1 h4=>andE h1 fun h1 h3=>sVE h3 fun s u e3 h3=>?_
  exact f n x l (by rw [<- e1,<- e2]) (eq_of_beq h4) (Value.isInt_shape h1) ⟨u,by rw [e3,<- show s.cps.toList=x from eq_of_beq h3,wjD]⟩ h2
theorem woq {C:Fr} {F:FH} {es:List DictEntry}:∀ {l:List (Key×D)},dictChk es l=true ->
  ∃ kvs:List (Key×Value),(∀ e∈es,∃ k,(anyKind C.prog C.w).is k e.key=true/\e.hash=(anyKind C.prog C.w).hash k)/\Pairs (anyKind C.prog C.w) es kvs/\kvs.map (·.1)=l.map (·.1)/\RepKV C F l kvs:=by
 induction es with
 | nil=>intro l h;cases l with
  | nil=>exact ⟨[],fun e he=>memE he,.nil,rfl,rfl⟩
  | cons p l=>exact ffE h
 | cons e es ih=>
  intro l h
  refine wtE h fun n x l' el h1 ⟨t,ek⟩ ⟨u,ev⟩ h2=>?_
  clear h
  subst el
  obtain ⟨kvs,q1,q2,q3,q4⟩:=ih h2
  have hk:(anyKind C.prog C.w).is (.i n) e.key=true:=by rw [ek];simp [anyKind,keyIs,Value.isInt]
  refine ⟨(.i n,.str (mk x) u)::kvs,fun e' he=>?_,.cons hk ev q2,by rw [List.map_cons,q3];rfl,VC.mk ⟨rfl,VS.mk u⟩ q4⟩
  rcases List.mem_cons.mp he with rfl | he
  ·exact ⟨.i n,hk,h1⟩
  ·exact q1 e' he
theorem wsm {C:Fr} {F:FH} {a:Addr} {o:Obj} {es:Array DictEntry} {ep:Nat} {l:List (Key×D)} (ho:F a=some o) (ha:(a==sysModules)=false) (hx:o.ExactDict) (hd:o.data=.dict es ep) (h:dictChk es.toList l=true) (hr:risesK (-1) l=true) :
  Rep C F (.ref a) (.dict l):=by
 obtain ⟨kvs,q1,q2,q3,q4⟩:=woq (C:=C) (F:=F) h
 exact VD.mk ho ha ⟨es,ep,hx,hd,fun e he=>q1 e (Array.mem_toList_iff.mpr he),q2,by rw [q3];exact wgL hr⟩ q4
theorem wdL {α:Type} {p:Addr->Bool} {a:Addr} {o:α}:∀ {l:List (Addr×α)},(l.filter fun x=>p x.1).lookup a=some o->l.lookup a=some o/\p a=true
 | [],h=>by simp at h
 | (b,x)::l,h=>by
  rw [List.filter_cons]at h
  by_cases q:p b=true
  ·rw [if_pos q]at h
   simp only [List.lookup]at h ⊢
   split at h
   ·rename_i e;rw [eq_of_beq e];exact ⟨h,q⟩
   ·exact wdL h
  ·rw [if_neg q]at h
   obtain ⟨h1,h2⟩:=wdL h
   refine ⟨?_,h2⟩
   simp only [List.lookup]
   have:(a==b)=false:=by
    rw [beq_eq_false_iff_ne];intro e;rw [e]at h2;exact q h2
   rw [this];exact h1
noncomputable def butTab (PT:Addr) (K:Frag):Frag:=K.filter fun x=>x.1 != PT
noncomputable def frozen (PT:Addr) (h:Heap):FH:=fun b=>if b=PT then none else h.get? b
theorem wpq {PT:Addr} {h:Heap}:(frozen PT h).In h:=fun b o e=>by unfold frozen at e;split at e<;>first | cases e | exact e
theorem wjJ {PT:Addr} {h:Heap} {K:Frag} (x:K.In h):∀ b o,(butTab PT K).lookup b=some o->frozen PT h b=some o:=fun b o e=>by
 obtain ⟨h1,h2⟩:=wdL (p:=fun z=>z != PT) e
 unfold frozen
 rw [if_neg (by simpa using h2)]
 exact x b o h1
theorem wrU {PT c:Addr} {K:Frag} {oc:Obj} {vs:Array Value} {F':FH} {s s':Shared} (x:K.In s.heap) (hc:K.lookup c=some oc) (h1:oc.cls=.type "code") (h2:oc.data=.fields vs) (h3:vs[11]?=some (.ref PT))
  (ht:K.lookup PT=some { cls:=.none,data:=.fields #[] }) (y:Ext (frozen PT s.heap) s F' s'):OldK s.heap s'.heap:=by
 have key:∀ b o,s.heap.get? b=some o->b≠PT->s'.heap.get? b=some o:=fun b o e q=>y.inn b o (y.le b o (by unfold frozen;rw [if_neg q];exact e))
 have tab:=y.keep.tab PT _ (x _ _ ht) ⟨rfl,#[],rfl,by first | trivial | exact TriplesOk.nil | simp [TriplesOk]⟩
 obtain ⟨o',e',gr⟩:=tab
 obtain ⟨more,rfl⟩:=gr.more #[] rfl
 refine ⟨fun b o e=>?_,fun b o e=>?_⟩
 ·by_cases q:b=PT
  ·subst q
   rw [x _ _ ht]at e;cases e
   exact .inr (.inl ⟨⟨c,oc,vs,x _ _ hc,h1,h2,h3⟩,rfl,#[],more,rfl,e'⟩)
  ·exact .inl (key b o e q)
 ·by_cases q:b=PT
  ·subst q;exact ⟨_,e'⟩
  ·exact ⟨o,key b o e q⟩
theorem woD {P:Params} {h:Heap} {C:Fr} {F:FH} {ws:List Int}:∀ {vs:List Value},WellAll P h vs (ofPys (ws.map .int))->RepAll C F (ws.map .int) vs:=by
 induction ws with
 | nil=>intro vs x;cases x;exact rfl
 | cons i ws ih=>
  intro vs x
  rw [List.map_cons]at x
  unfold ofPys at x
  cases x with | cons x1 x2=>
  unfold ofPy at x1
  cases x1
  exact VC.mk (VI.mk _) (ih x2)
theorem law_walk {l:OpenLaw} {q:Program} {loose:List Str} {XP:(Str->Option Value)->Heap->Prop} {T:Tab} {KL:Params->Frag} {PT:Addr} {cad:Str->Addr} {d:DefRec} {kwd:List (Str×Expr)} {sv:List D->Option D}
  (hm:l.most=some 63) (hb:l.bound=none) (hd:d.name=l.name) (hT:cad (Str.ofString "<tab>")=PT)
  (site:∀ (w:World) (s₀:Shared) (mg mb:Str->Option Value) (h:Heap),Ground q loose l.row.toRowW.records XP w s₀ mg mb h->(KL w.params).In h->∀ C:Fr,C=⟨T,l.prog,w,cad,butTab PT (KL w.params),mg⟩ ->
   Gd C (frozen PT h)/\Wd T C)
  (tab:∀ P,(KL P).lookup PT=some { cls:=.none,data:=.fields #[] }/\∃ c oc vs,(KL P).lookup c=some oc/\oc.cls=.type "code"/\oc.data=.fields vs/\vs[11]?=some (.ref PT))
  (good:FnGood T l.name sv 112) (value:∀ xs:List Int,xs.length<=63->sv [.list (xs.map .int)]=some (.bool true)) :
  WalkO q loose XP (fun w h=>(KL w.params).In h) l.row.toRowW d kwd fun f vs=>PySem.call f vs:=by
 intro w s₀ sa mg mb G Y fa o pm cd doc dV kV ho hdd hcd hD hmg hg args vals as hpre hlay hrd hwl hlo
 have hsh:=(pre_splitW hpre).1
 have hcond:=(pre_splitW hpre).2
 have hsh:WShape.hasAll [] args [.list .int]=true:=hsh
 unfold OpenLaw.row OpenLaw.pre at hcond
 dsimp only at hcond
 rw [hm,hb]at hcond
 dsimp only at hcond
 wrow_hasAll hsh hlay
 rename_i ws _ _ _ _ _
 have h1:=(holds_andW hcond).1
 have hlen:=condW_of h1 (by wtm_val)
 have hlen:ws.length<=63:=by
  simp only [Bool.not_eq_true',decide_eq_false_iff_not]at hlen
  omega
 obtain ⟨gd,wd⟩:=site w s₀ mg mb sa.heap G Y _ rfl
 obtain ⟨t1,c,oc,cvs,t2,t3,t4,t5⟩:=tab w.params
 have run:FnSem _ 112 (.ref fa) _ _:=good _ wd (value ws hlen) (hd ▸ hmg)
 cases hwl with | cons x1 x2=>
 cases x2
 have x1:Well w.params sa.heap _ (.list (ofPys (ws.map .int))):=x1
 cases x1 with | list e r=>
 rename_i a vs
 have hpt:sa.heap.get? PT=some { cls:=.none,data:=.fields #[] }:=Y _ _ t1
 have hne:a≠PT:=fun q=>by rw [q,hpt]at e;cases e
 refine run (A:=callerA) (F:=frozen PT sa.heap) (s:=sa) ⟨by decide,by decide,by decide⟩ gd ⟨wpq,⟨_,by show sa.heap.get? (cad _)=_;rw [hT];exact hpt,rfl,#[],rfl,trivial⟩,by show frozen PT sa.heap (cad _)=_;rw [hT];unfold frozen;rw [if_pos rfl]⟩ (VC.mk (VL.mk (by unfold frozen;rw [if_neg hne];exact e) (woD r)) rfl) fun v s' F' y rv=>?_
 have rv:v=.bool true:=rv
 subst rv
 refine ⟨.inl ⟨_,.bool true,[],rfl,fun _=>rfl,.bool true,?_,fun _=>⟨List.nodup_nil,fun a ha=>memE ha⟩⟩,wrU Y t2 t3 t4 t5 t1 y,y.calm.os,y.calm.gens (.of_eq hg)⟩
 refine postW_of (r:=l.row.toRowW) (by show WShape.has [] (.bool true) .bool=true;wrow_shape) (by show WTm.value [] (WTm.eq .res (.lit (.bool true))) _=_;wtm_val) (by w_fin)
theorem NsO.of {h:Heap} {C:Addr} {m:Str->Option Value} (x:h.Ns C m):∃ o,h.get? C=some o/\NsO o m:=by obtain ⟨o,es,ep,e,hd,r⟩:=x;exact ⟨o,e,es,ep,hd,r⟩
noncomputable def oAt (K:Frag) (a:Addr):Obj:=(K.lookup a).getD { cls:=.none,data:=.plain }
noncomputable def fdAt (K:Frag) (a:Addr):FuncData:=match (oAt K a).data with
 | .func fd=>fd
 | _=>default
noncomputable def fL (K:Frag) (p:Addr×Def):=(K.lookup p.1,(oAt K p.1).data,codeIn K (fdAt K p.1).code (fdAt K p.1).qualname,(fdAt K p.1).body,(fdAt K p.1).closure,(fdAt K p.1).scope,(fdAt K p.1).globals,(fdAt K p.1).builtins,keepIn K (.ref p.1),typeIn K (.ref p.1))
noncomputable def fR (K:Frag) (p:Addr×Def):=(some (oAt K p.1),Data.func (fdAt K p.1),true,FuncBody.stmts p.2.body,([]:List (Str×Addr)),p.2.scope,mainGlobals,builtinsNs,true,some (Value.type "function"))
noncomputable def scChk (d:Def):Bool:=d.scope.kind==.function&&!d.scope.isCoroutine&&!d.scope.isGenerator&&nodupB (d.scope.names.map (·.1))&&nodupB d.params&&(d.params.all fun x=>canSet d.scope x)&&(d.scope.names.all fun p=>p.2 != .free)
noncomputable def BindOk (K:Frag) (p:Addr×Def):Prop:=∀ vals:List Value,vals.length=p.2.params.length->bindArgs (fdAt K p.1) ⟨vals,[]⟩=pure (p.2.params.zip vals)
theorem win {α β:Type} {f g:α->β} {l:List α} (h:l.map f=l.map g):∀ p∈l,f p=g p:=by
 induction l with
 | nil=>exact fun p hp=>memE hp
 | cons a l ih=>
  intro p hp
  injection h with h1 h2
  rcases List.mem_cons.mp hp with rfl | hp
  ·exact h1
  ·exact ih h2 p hp
theorem wpJ {sc:Scope} {x:Str} (h:canSet sc x=true):sc.names.lookup x=some .local\/sc.names.lookup x=some .cell:=by
 unfold canSet at h
 revert h
 generalize sc.names.lookup x=o
 intro h
 cases o with
 | none=>exact ffE h
 | some k=>cases k<;>first | exact .inl rfl | exact .inr rfl | exact ffE h
theorem wuv {C:Fr} {p:Addr×Def} (h:fL C.K p=fR C.K p) (hs:scChk p.2=true) (hb:BindOk C.K p) (ht:p.2.scope.names.lookup gk=some .local->∃ c,(fdAt C.K p.1).code=.ref c/\∃ o,C.K.lookup c=some o/\CodeO o c (tabAt C)) :
  typeIn C.K (.ref p.1)=some (.type "function")/\FdOk C p.1 p.2 (oAt C.K p.1) (fdAt C.K p.1):=by
 unfold fL fR at h
 injection h with h1 h;injection h with h2 h;injection h with h3 h;injection h with h4 h;injection h with h5 h;injection h with h6 h;injection h with h7 h;injection h with h8 h;injection h with h9 h10
 exact andE hs fun hs s7=>andE hs fun hs s6=>andE hs fun hs s5=>andE hs fun hs s4=>andE hs fun hs s3=>andE hs fun s1 s2=>
  ⟨h10,h1,h2,h3,h4,h5,h6,h7,h8,hb,eq_of_beq s1,by simpa using s2,by simpa using s3,wew s4,fun x hx=>wpJ (List.all_eq_true.mp s6 x hx),wew s5,fun q hq=>by simpa using List.all_eq_true.mp s7 q hq,ht,h9⟩
theorem len1 {l:List Value} (h:l.length=1):∃ a,l=[a]:=List.length_eq_one_iff.mp h
theorem lenS {l:List Value} {n:Nat} (h:l.length=n+1):∃ a r,l=a::r/\r.length=n:=by
 cases l with
 | nil=>exact succE h
 | cons a r=>exact ⟨a,r,rfl,Nat.succ.inj h⟩
theorem len2 {l:List Value} (h:l.length=2):∃ a b,l=[a,b]:=by obtain ⟨a,r,rfl,h2⟩:=lenS h;obtain ⟨b,rfl⟩:=len1 h2;exact ⟨a,b,rfl⟩
theorem len3 {l:List Value} (h:l.length=3):∃ a b c,l=[a,b,c]:=by obtain ⟨a,r,rfl,h2⟩:=lenS h;obtain ⟨b,c,rfl⟩:=len2 h2;exact ⟨a,b,c,rfl⟩
theorem len4 {l:List Value} (h:l.length=4):∃ a b c d,l=[a,b,c,d]:=by obtain ⟨a,r,rfl,h2⟩:=lenS h;obtain ⟨b,c,d,rfl⟩:=len3 h2;exact ⟨a,b,c,d,rfl⟩
noncomputable def noneFound (x:Option (Option Value)):Bool:=match x with
 | some none=>true
 | _=>false
theorem wlL {x:Option (Option Value)} (h:noneFound x=true):x=some none:=by
 rcases x with _ | _ | _<;>first | rfl | exact ffE h
noncomputable def cL (C:Fr) (g:Str->Option Value) (p:Str×List (Str×Def)):=(g p.1,makesIn C.K (C.cad p.1),keepIn C.K (.ref (C.cad p.1)),p.2.map fun q=>(findIn C.K (.ref (C.cad p.1)) q.1,q.2))
noncomputable def cR (C:Fr) (fdM:Str->List (Addr×Def)) (p:Str×List (Str×Def)):=(some (Value.ref (C.cad p.1)),true,true,(fdM p.1).map fun q=>(some (some (Value.ref q.1)),q.2))
theorem wqS {C:Fr} {g:Str->Option Value} (hm:∀ x,g x=C.mg x) {fdT:List (Addr×Def)} {fdM:Str->List (Addr×Def)} (h1:(C.T.fns.map fun p=>(g p.1,p.2))=fdT.map fun p=>(some (Value.ref p.1),p.2)) (h2:C.T.cls.map (cL C g)=C.T.cls.map (cR C fdM))
  (ok:∀ p,(p∈fdT\/∃ c,p∈fdM c)->typeIn C.K (.ref p.1)=some (.type "function")/\FdOk C p.1 p.2 (oAt C.K p.1) (fdAt C.K p.1)):FnsOk C where
 fns f d h:=by
  have:=List.mem_map_of_mem (f:=fun p:Str×Def=>(g p.1,p.2)) (mem_lookup h)
  rw [h1]at this
  obtain ⟨p,hp,e⟩:=List.mem_map.mp this
  injection e with e1 e2
  have:=(ok p (.inl hp)).2
  rw [e2]at this
  exact ⟨p.1,_,_,(hm f).symm.trans e1.symm,this⟩
 cls c ms h:=by
  have e:=win h2 _ (mem_lookup h)
  unfold cL cR at e
  injection e with e1 e;injection e with e2 e;injection e with e3 e4
  refine ⟨(hm c).symm.trans e1,e2,e3,fun m d hd=>?_⟩
  have:=List.mem_map_of_mem (f:=fun q:Str×Def=>(findIn C.K (.ref (C.cad c)) q.1,q.2)) (mem_lookup hd)
  rw [e4]at this
  obtain ⟨p,hp,e⟩:=List.mem_map.mp this
  injection e with e5 e6
  have:=ok p (.inr ⟨c,hp⟩)
  rw [e6]at this
  exact ⟨p.1,_,_,e5.symm,this⟩
noncomputable def kL (C:Fr) (a:Addr):=(findIn C.K (.ref a) "__getattribute__",findIn C.K (.ref a) "__getattr__",findIn C.K (.ref a) "__setattr__",(clsIn C.K a).map (·.hasDict),plainOver C.K a,C.T.ats.all fun x=>noneFound (findIn C.K (.ref a) x))
noncomputable def kR:=(some (some (Value.builtin "object.__getattribute__")),some (none:Option Value),some (some (Value.builtin "object.__setattr__")),some true,true,true)
theorem wq8 {C:Fr} {a:Addr} (h:kL C a=kR):ClsOk C a:=by
 unfold kL kR at h
 injection h with h1 h;injection h with h2 h;injection h with h3 h;injection h with h4 h;injection h with h5 h6
 exact ⟨h1,h2,h3,by
  cases e:clsIn C.K a with
  | none=>rw [e]at h4;exact noneE h4
  | some cd=>rw [e]at h4;exact ⟨cd,rfl,Option.some.inj h4⟩,h5,fun x hx=>wlL (List.all_eq_true.mp h6 x hx)⟩
noncomputable def rL (C:Fr) (g:Str->Option Value) (mcs:Addr->Value) (p:Str×List (Str×D)):=(g p.1,readsIn C.K (C.cad p.1) (mcs (C.cad p.1)),p.2.map fun q=>(findCls C.K (.ref (C.cad p.1)) (mcs (C.cad p.1)) q.1,q.2))
noncomputable def rR (C:Fr) (cv:Str->List (Tx×Tok)) (p:Str×List (Str×D)):=(some (Value.ref (C.cad p.1)),true,(cv p.1).map fun q=>(some (CFound.val (.str (mk q.1) q.2)),D.str q.1))
theorem wrG {C:Fr} {g:Str->Option Value} {mcs:Addr->Value} (hm:∀ x,g x=C.mg x) {cv:Str->List (Tx×Tok)} (h1:C.T.con.map (rL C g mcs)=C.T.con.map (rR C cv)) (h2:C.T.cls.map (fun p=>kL C (C.cad p.1))=C.T.cls.map fun _=>kR):StOk C mcs where
 con c l h:=by
  have e:=win h1 _ (mem_lookup h)
  unfold rL rR at e
  injection e with e1 e;injection e with e2 e3
  refine ⟨(hm c).symm.trans e1,e2,fun a d hd=>?_⟩
  have:=List.mem_map_of_mem (f:=fun q:Str×D=>(findCls C.K (.ref (C.cad c)) (mcs (C.cad c)) q.1,q.2)) (mem_lookup hd)
  rw [e3]at this
  obtain ⟨p,hp,e⟩:=List.mem_map.mp this
  injection e with e4 e5
  have e5:D.str p.1=d:=e5
  subst e5
  exact ⟨_,e4.symm,rfl,fun F=>VS.mk _⟩
 cls c h:=by
  cases e:C.T.cls.lookup c with
  | none=>rw [e]at h;exact ffE h
  | some ms=>exact wq8 (win h2 _ (mem_lookup e))
end Mine.Py
end
section
namespace Mine.Py
open PySem
section
variable {α β:Type} {r:Option β}
theorem bnS {o:Option α} {f:α->Option β} {a:α} (h:o=some a) (k:f a=r):o.bind f=r:=h ▸ k
theorem ifP {c:Prop} [i:Decidable c] {a b:Option β} (h:c) (k:a=r):(if c then a else b)=r:=(if_pos h).trans k
theorem bn2 {γ:Type} {o:Option α} {p:α->Option γ} {f:α->γ->Option β} {a:α} {b:γ} (h:o=some a) (h1:p a=some b) (k:f a b=r):(o.bind fun x=>(p x).bind fun y=>f x y)=r:=bnS h (bnS h1 k)
theorem bn3 {γ δ:Type} {o:Option α} {p:α->Option γ} {q:α->γ->Option δ} {f:α->γ->δ->Option β} {a:α} {b:γ} {c:δ} (h:o=some a) (h1:p a=some b) (h2:q a b=some c) (k:f a b c=r):(o.bind fun x=>(p x).bind fun y=>(q x y).bind fun z=>f x y z)=r:=bnS h (bnS h1 (bnS h2 k))
theorem bn4 {γ δ ε:Type} {o:Option α} {p:α->Option γ} {q:α->γ->Option δ} {s:α->γ->δ->Option ε} {f:α->γ->δ->ε->Option β} {a:α} {b:γ} {c:δ} {d:ε} (h:o=some a) (h1:p a=some b) (h2:q a b=some c) (h3:s a b c=some d) (k:f a b c d=r):(o.bind fun x=>(p x).bind fun y=>(q x y).bind fun z=>(s x y z).bind fun w=>f x y z w)=r:=bnS h (bnS h1 (bnS h2 (bnS h3 k)))
theorem bnP {o:Option α} {c:α->Prop} [i:∀ x,Decidable (c x)] {f g:α->Option β} {a:α} (h:o=some a) (h1:c a) (k:f a=r):(o.bind fun x=>if c x then f x else g x)=r:=bnS h (ifP h1 k)
theorem bnV {f:α->Option β} {a:α} (k:f a=r):(some a).bind f=r:=k
theorem inS {i:Int} {f:Int->Option β} (k:f i=r):intK (.int i) f=r:=k
theorem ifN {c:Prop} [i:Decidable c] {a b:Option β} (h:¬ c) (k:b=r):(if c then a else b)=r:=(if_neg h).trans k
theorem ifF {a b:Option β} (k:b=r):(if false=true then a else b)=r:=k
theorem ifT {a b:Option β} (k:a=r):(if true=true then a else b)=r:=k
end
inductive Pln:Nat->D->Prop
 | int (n:Nat) (i:Int):Pln n (.int i)
 | str (n:Nat) (x:Tx):PyData.strOk (mk x)=true->Pln n (.str x)
 | list (n:Nat) (xs:List D):(∀ x∈xs,Pln n x)->Pln (n+1) (.list xs)
 | tuple (n:Nat) (xs:List D):(∀ x∈xs,Pln n x)->Pln (n+1) (.tuple xs)
theorem wiP {n:Nat}:∀ {xs:List D},(∀ x∈xs,∃ p,toPy x=some p/\p.canLay0=true/\p.depth<=n)->∃ ps,toPys xs=some ps/\PyData.canLayAll0 ps=true/\PyData.depthAll ps<=n
 | [],_=>⟨[],by simp [toPys],by simp [PyData.canLayAll0],by simp [PyData.depthAll]⟩
 | x::xs,h=>by
  obtain ⟨p,h1,h2,h3⟩:=h x (by simp)
  obtain ⟨ps,h4,h5,h6⟩:=wiP (xs:=xs) fun y hy=>h y (by simp [hy])
  exact ⟨p::ps,by simp [toPys,h1,h4],by simp [PyData.canLayAll0,h2,h5],by simp only [PyData.depthAll];omega⟩
theorem Pln.py {n:Nat} {d:D} (h:Pln n d):∃ p,toPy d=some p/\p.canLay0=true/\p.depth<=n:=by
 induction h with
 | int n i=>exact ⟨.int i,by simp [toPy],by simp [PyData.canLay0],by simp [PyData.depth]⟩
 | str n x h=>exact ⟨.str (mk x),by simp [toPy],by simpa [PyData.canLay0] using h,by simp [PyData.depth]⟩
 | list n xs _ ih=>
  obtain ⟨ps,h1,h2,h3⟩:=wiP ih
  exact ⟨.list ps,by simp [toPy,h1],by simpa [PyData.canLay0] using h2,by simp only [PyData.depth];omega⟩
 | tuple n xs _ ih=>
  obtain ⟨ps,h1,h2,h3⟩:=wiP ih
  exact ⟨.tuple ps,by simp [toPy,h1],by simpa [PyData.canLay0] using h2,by simp only [PyData.depth];omega⟩
theorem wgg {m:Nat}:∀ {xs ys:List D} {ps qs:List PyData},(∀ x∈xs,∀ y p q,Pln m y->toPy x=some p->toPy y=some q->(PyData.eqv p q=true ↔ x=y))->(∀ y∈ys,Pln m y) ->
  toPys xs=some ps->toPys ys=some qs->(PyData.eqvAll ps qs=true ↔ xs=ys)
 | [],[],ps,qs,_,_,h1,h2=>by
  simp [toPys]at h1 h2;subst h1;subst h2;simp [PyData.eqvAll]
 | [],y::ys,ps,qs,_,_,h1,h2=>by
  simp only [toPys,Option.bind_eq_some_iff,Option.map_eq_some_iff]at h1 h2
  obtain ⟨q,_,qs',_,rfl⟩:=h2
  simp at h1;subst h1;simp [PyData.eqvAll]
 | x::xs,[],ps,qs,_,_,h1,h2=>by
  simp only [toPys,Option.bind_eq_some_iff,Option.map_eq_some_iff]at h1 h2
  obtain ⟨q,_,qs',_,rfl⟩:=h1
  simp at h2;subst h2;simp [PyData.eqvAll]
 | x::xs,y::ys,ps,qs,hx,hy,h1,h2=>by
  simp only [toPys,Option.bind_eq_some_iff,Option.map_eq_some_iff]at h1 h2
  obtain ⟨p,a1,ps',a2,rfl⟩:=h1
  obtain ⟨q,b1,qs',b2,rfl⟩:=h2
  simp only [PyData.eqvAll,Bool.and_eq_true,List.cons.injEq]
  rw [hx x (by simp) y p q (hy y (by simp)) a1 b1,wgg (fun z hz=>hx z (by simp [hz])) (fun z hz=>hy z (by simp [hz])) a2 b2]
theorem ws1 {x y:Tx}:mk x=mk y ↔ x=y:=⟨fun h=>wjC h,fun h=>by rw [h]⟩
theorem wsi {n:Nat} {a:D} (ha:Pln n a):∀ {m:Nat} {b:D} {p q:PyData},Pln m b->toPy a=some p->toPy b=some q->(PyData.eqv p q=true ↔ a=b):=by
 induction ha with
 | int n i=>
  intro m b p q hb h1 h2
  simp only [toPy,Option.some.injEq]at h1;subst h1
  cases hb with
  | int _ j=>simp only [toPy,Option.some.injEq]at h2;subst h2;simp [PyData.eqv]
  | str _ x hx=>simp only [toPy,Option.some.injEq]at h2;subst h2;simp [PyData.eqv]
  | list _ xs hx=>simp only [toPy,Option.map_eq_some_iff]at h2;obtain ⟨ps,_,rfl⟩:=h2;simp [PyData.eqv]
  | tuple _ xs hx=>simp only [toPy,Option.map_eq_some_iff]at h2;obtain ⟨ps,_,rfl⟩:=h2;simp [PyData.eqv]
 | str n x hx=>
  intro m b p q hb h1 h2
  simp only [toPy,Option.some.injEq]at h1;subst h1
  cases hb with
  | int _ j=>simp only [toPy,Option.some.injEq]at h2;subst h2;simp [PyData.eqv]
  | str _ y hy=>simp only [toPy,Option.some.injEq]at h2;subst h2;simp only [PyData.eqv,beq_iff_eq,D.str.injEq];exact ws1
  | list _ xs hx=>simp only [toPy,Option.map_eq_some_iff]at h2;obtain ⟨ps,_,rfl⟩:=h2;simp [PyData.eqv]
  | tuple _ xs hx=>simp only [toPy,Option.map_eq_some_iff]at h2;obtain ⟨ps,_,rfl⟩:=h2;simp [PyData.eqv]
 | list n xs hx ih=>
  intro m b p q hb h1 h2
  simp only [toPy,Option.map_eq_some_iff]at h1;obtain ⟨ps,h1,rfl⟩:=h1
  cases hb with
  | int _ j=>simp only [toPy,Option.some.injEq]at h2;subst h2;simp [PyData.eqv]
  | str _ y hy=>simp only [toPy,Option.some.injEq]at h2;subst h2;simp [PyData.eqv]
  | list _ ys hy=>
   simp only [toPy,Option.map_eq_some_iff]at h2;obtain ⟨qs,h2,rfl⟩:=h2
   simp only [PyData.eqv,D.list.injEq]
   exact wgg (fun x hx' y p q hp e1 e2=>ih x hx' hp e1 e2) hy h1 h2
  | tuple _ ys hy=>simp only [toPy,Option.map_eq_some_iff]at h2;obtain ⟨ps,_,rfl⟩:=h2;simp [PyData.eqv]
 | tuple n xs hx ih=>
  intro m b p q hb h1 h2
  simp only [toPy,Option.map_eq_some_iff]at h1;obtain ⟨ps,h1,rfl⟩:=h1
  cases hb with
  | int _ j=>simp only [toPy,Option.some.injEq]at h2;subst h2;simp [PyData.eqv]
  | str _ y hy=>simp only [toPy,Option.some.injEq]at h2;subst h2;simp [PyData.eqv]
  | tuple _ ys hy=>
   simp only [toPy,Option.map_eq_some_iff]at h2;obtain ⟨qs,h2,rfl⟩:=h2
   simp only [PyData.eqv,D.tuple.injEq]
   exact wgg (fun x hx' y p q hp e1 e2=>ih x hx' hp e1 e2) hy h1 h2
  | list _ ys hy=>simp only [toPy,Option.map_eq_some_iff]at h2;obtain ⟨ps,_,rfl⟩:=h2;simp [PyData.eqv]
theorem wnI {n m:Nat} {a b:D} (ha:Pln n a) (hb:Pln m b) (hn:n<=64) (hm:m<=64) {p:Prop} [Decidable p] (h:a=b ↔ p):eqP a b=some (decide p):=by
 obtain ⟨x,h1,h2,h3⟩:=ha.py
 obtain ⟨y,h4,h5,h6⟩:=hb.py
 unfold eqP
 rw [h1,Option.bind_some,h4,Option.bind_some,if_pos (by simp only [SeqAt.shaped,Bool.and_eq_true,decide_eq_true_eq];exact ⟨⟨h2,by omega⟩,h5,by omega⟩)]
 have e:=(wsi ha hb h1 h4).trans h
 congr 1
 rw [Bool.eq_iff_iff,e];simp
theorem wnJ {n:Nat} {a b:D} (ha:Pln n a):eqD a b=eqP a b:=by
 cases ha<;>rfl
theorem cmpEq {n m:Nat} {a b:D} (ha:Pln n a) (hb:Pln m b) (hn:n<=64) (hm:m<=64) {p:Prop} [Decidable p] (h:a=b ↔ p):cmpD .Eq a b=some (decide p):=by
 show eqD a b=_
 rw [wnJ ha,wnI ha hb hn hm h]
theorem cmpNe {n m:Nat} {a b:D} (ha:Pln n a) (hb:Pln m b) (hn:n<=64) (hm:m<=64) {p:Prop} [Decidable p] (h:a=b ↔ p):cmpD .NotEq a b=some (!decide p):=by
 show (eqD a b).map _=_
 rw [wnJ ha,wnI ha hb hn hm h];rfl
theorem wgm {n:Nat} {a:D} (ha:Pln n a) (hn:n<=64):cmpD .Eq a a=some true:=by
 rw [cmpEq ha ha hn hn (p:=True) (by simp)];rfl
theorem wa8 {n:Nat} {a:D} (ha:Pln n a) (hn:n<=64):cmpD .NotEq a a=some false:=by
 rw [cmpNe ha ha hn hn (p:=True) (by simp)];rfl
theorem wpG (a b:Int):cmpD .NotEq (.int a) (.int b)=some (!decide (a=b)):=cmpNe (.int 0 a) (.int 0 b) (by decide) (by decide) (by simp)
theorem add_int (a b:Int):binop .Add (.int a) (.int b)=some (.int (a+b)):=rfl
theorem sub_int (a b:Int):binop .Sub (.int a) (.int b)=some (.int (a - b)):=rfl
theorem mul_int {a:Int} (b:Int) (h:a.natAbs<2 ^ 60):binop .Mult (.int a) (.int b)=some (.int (a * b)):=if_pos h
theorem wqX (a:Int) {b:Int} (h:b≠0/\b.natAbs<2 ^ 30):binop .FloorDiv (.int a) (.int b)=some (.int (a.fdiv b)):=if_pos h
theorem wim (a:Int) {b:Int} (h:b≠0):binop .Mod (.int a) (.int b)=some (.int (a.fmod b)):=if_pos h
theorem lt_int (a b:Int):cmpD .Lt (.int a) (.int b)=some (decide (a<b)):=rfl
theorem gt_int (a b:Int):cmpD .Gt (.int a) (.int b)=some (decide (b<a)):=rfl
theorem le_int (a b:Int):cmpD .LtE (.int a) (.int b)=some (decide (a<=b)):=rfl
theorem ge_int (a b:Int):cmpD .GtE (.int a) (.int b)=some (decide (a>=b)):=rfl
theorem neg_int (a:Int):unop .USub (.int a)=some (.int (-a)):=rfl
theorem wi9 (a b:Int):addI (.int a) (.int b)=some (.int (a+b)):=rfl
theorem is_bool (a b:Bool):cmpD .Is (.bool a) (.bool b)=some (a==b):=rfl
theorem isnot_bool (a b:Bool):cmpD .IsNot (.bool a) (.bool b)=some (!(a==b)):=rfl
theorem wgd {xs:List D} (h:xs.length<=cap):bfn .len [.list xs]=some (.int xs.length):=if_pos h
theorem len_tuple {xs:List D} (h:xs.length<=cap):bfn .len [.tuple xs]=some (.int xs.length):=if_pos h
theorem len_str {xs:Tx} (h:xs.length<=cap):bfn .len [.str xs]=some (.int xs.length):=if_pos h
theorem wj1 (a b:Int):bfn .max [.int a,.int b]=some (.int (max a b)):=by
 show some (D.int (if b > a then b else a))=_
 congr 2;omega
theorem wr1 (a b:Int):bfn .min [.int a,.int b]=some (.int (min a b)):=by
 show some (D.int (if b<a then b else a))=_
 congr 2;omega
theorem wqW (a b:Nat):Int.fdiv (a:Int) (b:Int)=((a / b:Nat):Int):=by
 rw [Int.fdiv_eq_ediv_of_nonneg _ (by omega)];rfl
theorem wqT (a b:Nat):Int.fmod (a:Int) (b:Int)=((a % b:Nat):Int):=by
 rw [Int.fmod_eq_emod_of_nonneg _ (by omega)];rfl
theorem fdivN (a:Nat) {b:Nat} (h:0<b) (h2:b<2 ^ 30):binop .FloorDiv (.int a) (.int b)=some (.int ((a / b:Nat):Int)):=by
 rw [wqX _ ⟨by omega,by omega⟩,wqW]
theorem modN (a:Nat) {b:Nat} (h:0<b):binop .Mod (.int a) (.int b)=some (.int ((a % b:Nat):Int)):=by
 rw [wim _ (by omega),wqT]
theorem mulN {a:Nat} (b:Nat) (h:a<2 ^ 60):binop .Mult (.int a) (.int b)=some (.int ((a * b:Nat):Int)):=by
 rw [mul_int _ (by omega)];simp
theorem addN (a b:Nat):binop .Add (.int a) (.int b)=some (.int ((a+b:Nat):Int)):=rfl
theorem waa:cap=10000:=rfl
noncomputable abbrev nD (n:Nat):D:=.int n
theorem rangeN {a b:Nat} (h:b<10000) (ha:a<10000):rangeD [.int a,.int b]=some ((List.range' a (b - a)).map nD):=by
 unfold rangeD wdD intK
 dsimp only
 rw [if_pos (by omega)]
 unfold wcu
 have:((b:Int) - a).toNat=b - a:=by omega
 rw [this,List.range'_eq_map_range,List.map_map]
 have e:(fun (i:Nat)=>D.int ((a:Int)+(i:Int)))=nD∘fun x=>a+x:=by funext i;simp [nD]
 rw [e]
theorem wsL {b:Nat} (h:b<10000):rangeD [.int b]=some ((List.range b).map nD):=by
 unfold rangeD intK
 dsimp only
 rw [if_pos (by omega)]
 unfold wcu
 have:((b:Int) - 0).toNat=b:=by omega
 rw [this]
 have e:(fun (i:Nat)=>D.int ((0:Int)+(i:Int)))=nD:=by funext i;simp [nD]
 rw [e]
theorem wiR {xs:List D} {i:Int}:sub (.list xs) (.int i)=nth xs i:=by unfold sub intK;rfl
theorem castMin (a b:Nat):((min a b:Nat):Int)=min (a:Int) b:=by
 rcases Nat.le_total a b with h | h
 ·rw [Nat.min_eq_left h,Int.min_eq_left (Int.ofNat_le.mpr h)]
 ·rw [Nat.min_eq_right h,Int.min_eq_right (Int.ofNat_le.mpr h)]
theorem castMax (a b:Nat):((max a b:Nat):Int)=max (a:Int) b:=by
 rcases Nat.le_total a b with h | h
 ·rw [Nat.max_eq_right h,Int.max_eq_right (Int.ofNat_le.mpr h)]
 ·rw [Nat.max_eq_left h,Int.max_eq_left (Int.ofNat_le.mpr h)]
theorem wi5 (n a:Nat):clipAt n (a:Int)=min a n:=by
 unfold clipAt
 rw [if_neg (Int.not_lt.mpr (Int.natCast_nonneg a)),<- castMin,Int.max_eq_right (Int.natCast_nonneg _)]
 rfl
theorem lt60 {a:Int} {n:Nat} (h:a.natAbs=n) (h2:n<10000):a.natAbs<2 ^ 60:=h ▸ Nat.lt_trans h2 (by decide)
theorem wf7 {xs:List D} {i:Nat} {v:D} (h:i<100000) (e:xs[i]?=some v):sub (.list xs) (.int i)=some v:=by
 rw [wiR]
 unfold nth
 rw [if_pos (by omega),if_pos (by omega)]
 simpa using e
theorem woM {xs:List D} {i:Nat} {v:D} (h:i<100000) (e:xs[i]?=some v):sub (.tuple xs) (.int i)=some v:=by
 unfold sub intK
 dsimp only
 unfold nth
 rw [if_pos (by omega),if_pos (by omega)]
 simpa using e
theorem wmH {xs:List D} {i:Nat} (v:D) (h:i<xs.length) (hc:xs.length<=cap):putL xs (.int i) v=some (xs.set i v):=by
 show (if _ then _ else _)=_
 rw [if_pos ⟨by omega,by omega,hc⟩];simp
theorem wbj {α:Type} (em:α->D) (p:α->Bool) (g:α->D) {c:D->Option Bool} {f:D->Option D}:∀ (xs:List α),(∀ x∈xs,c (em x)=some (p x))->(∀ x∈xs,p x=true->f (em x)=some (g x))->compQ c f (xs.map em)=some ((xs.filter p).map g)
 | [],_,_=>rfl
 | x::xs,hc,hf=>by
  have ih:=wbj em p g xs (fun y hy=>hc y (by simp [hy])) (fun y hy=>hf y (by simp [hy]))
  simp only [List.map_cons,compQ]
  rw [hc x (by simp),Option.bind_some]
  cases hp:p x with
  | true=>rw [if_pos rfl,hf x (by simp) hp,Option.bind_some,ih,List.filter_cons_of_pos hp];rfl
  | false=>rw [if_neg (by simp),ih,List.filter_cons_of_neg (by simp [hp])]
theorem waJ {α:Type} (em:α->D) (g:α->D) {f:D->Option D} (xs:List α) (hf:∀ x∈xs,f (em x)=some (g x)):compQ (fun _=>some true) f (xs.map em)=some (xs.map g):=by
 rw [wbj em (fun _=>true) g xs (fun _ _=>rfl) (fun x hx _=>hf x hx),List.filter_eq_self.mpr (fun _ _=>rfl)]
theorem wot (g:D->D) {f:D->Option D} (xs:List D) (hf:∀ x∈xs,f x=some (g x)):compQ (fun _=>some true) f xs=some (xs.map g):=by
 have:=waJ (fun d:D=>d) g xs hf
 simpa using this
theorem weA {S σ α:Type} {B:S->D->(S->Option D)->(S->Option D)->(D->Option D)->Option D} (em:α->D) (emS:σ->S) (step:σ->α->σ) (Inv:List α->σ->Prop) {next:S->Option D} {ret:D->Option D}:∀ (xs:List α) (s:σ),
  (∀ x xs s,Inv (x::xs) s->Inv xs (step s x)/\∀ n b r,B (emS s) (em x) n b r=n (emS (step s x)))->Inv xs s ->
  forS B (xs.map em) (emS s) next ret=next (emS (xs.foldl step s))
 | [],s,_,_=>rfl
 | x::xs,s,h,hi=>by
  obtain ⟨h1,h2⟩:=h x xs s hi
  show B (emS s) (em x) _ _ _=_
  rw [h2]
  exact weA em emS step Inv xs (step s x) h h1
noncomputable def runR {σ α:Type} (stp:σ->α->D ⊕ σ):List α->σ->D ⊕ σ
 | [],s=>.inr s
 | x::xs,s=>match stp s x with
  | .inl v=>.inl v
  | .inr s'=>runR stp xs s'
theorem wlY {S σ α:Type} {B:S->D->(S->Option D)->(S->Option D)->(D->Option D)->Option D} (em:α->D) (emS:σ->S) (stp:σ->α->D ⊕ σ) (Inv:List α->σ->Prop) {next:S->Option D} {ret:D->Option D}:∀ (xs:List α) (s:σ),
  (∀ x xs s,Inv (x::xs) s->(∀ s',stp s x=.inr s'->Inv xs s')/\∀ n b r,B (emS s) (em x) n b r=match stp s x with | .inl v=>r v | .inr s'=>n (emS s'))->Inv xs s ->
  forS B (xs.map em) (emS s) next ret=match runR stp xs s with | .inl v=>ret v | .inr s'=>next (emS s')
 | [],s,_,_=>rfl
 | x::xs,s,h,hi=>by
  obtain ⟨h1,h2⟩:=h x xs s hi
  show B (emS s) (em x) _ _ _=_
  rw [h2]
  simp only [runR]
  cases e:stp s x with
  | inl v=>rfl
  | inr s'=>exact wlY em emS stp Inv xs s' h (h1 s' e)
section
variable {α:Type}
theorem un2 {a b:D} {k:D->D->Option α} {r:Option α} (h:k a b=r):wbR (.tuple [a,b]) k=r:=h
theorem wb4 (a b:D) (k:D->D->Option α):wbR (.tuple [a,b]) k=k a b:=rfl
theorem wjY (x:Tx) (k:Tx->Option α):strK (.str x) k=k x:=rfl
theorem wr9 (x:Int) (k:Int->Option α):intK (.int x) k=k x:=rfl
theorem wl8 (x:List (Key×D)) (k:List (Key×D)->Option α):dictK (.dict x) k=k x:=rfl
end
theorem waU (l:List D):keysOf (.list l)=some l:=rfl
theorem wob (l:List D):keysOf (.tuple l)=some l:=rfl
noncomputable def cxOf (f:Str):Cx:=
 if f==("_law_word":Str) then ⟨[(116,[("cells":Str)]),(126,[("typed":Str)])],[("cells":Str),("typed":Str)]⟩
 else if f==("add_callers":Str) then ⟨[(95,[("new_callers":Str)])],[("new_callers":Str)]⟩
 else if f==("__init__":Str) then ⟨[],[("count":Str)]⟩
 else if f==("not_equal_witness":Str) then ⟨[(48,[("a":Str)])],[("a":Str)]⟩
 else if f==("not_less_witness":Str) then ⟨[(67,[("a":Str)])],[("a":Str)]⟩
 else if f==("_law_gaps":Str) then ⟨[(150,[("due":Str)])],[("due":Str)]⟩
 else ⟨[],[]⟩
noncomputable def defOf (st:Stmt):Option (Str×Def):=@PySem.Stmt.casesOn (fun _=>_) st (fun n a b _ _ _ s _ _ _=>some (n,⟨n,a.args.map (·.arg),b,s,cxOf n⟩)) (fun _ _ _ _ _ _ _ _ _ _=>none) (fun _ _ _ _ _ _ _ _ _ _ _=>none) (fun _ _=>none) (fun _ _=>none) (fun _ _ _=>none) (fun _ _ _ _ _ _ _=>none) (fun _ _ _ _=>none) (fun _ _ _ _ _=>none) (fun _ _ _ _ _=>none) (fun _ _ _ _ _=>none) (fun _ _ _ _=>none) (fun _ _ _ _=>none) (fun _ _ _=>none) (fun _ _ _=>none) (fun _ _ _=>none) (fun _ _ _=>none) (fun _ _ _ _ _=>none) (fun _ _ _ _ _=>none) (fun _ _ _=>none) (fun _ _=>none) (fun _ _ _ _=>none) (fun _ _=>none) (fun _ _=>none) (fun _ _=>none) (fun _=>none) (fun _=>none) (fun _=>none)
noncomputable def clsOf (st:Stmt):Option (Str×List (Str×Def)):=@PySem.Stmt.casesOn (fun _=>_) st (fun _ _ _ _ _ _ _ _ _ _=>none) (fun _ _ _ _ _ _ _ _ _ _=>none) (fun n _ _ b _ _ _ _ _ _ _=>some (n,b.filterMap defOf)) (fun _ _=>none) (fun _ _=>none) (fun _ _ _=>none) (fun _ _ _ _ _ _ _=>none) (fun _ _ _ _=>none) (fun _ _ _ _ _=>none) (fun _ _ _ _ _=>none) (fun _ _ _ _ _=>none) (fun _ _ _ _=>none) (fun _ _ _ _=>none) (fun _ _ _=>none) (fun _ _ _=>none) (fun _ _ _=>none) (fun _ _ _=>none) (fun _ _ _ _ _=>none) (fun _ _ _ _ _=>none) (fun _ _ _=>none) (fun _ _=>none) (fun _ _ _ _=>none) (fun _ _=>none) (fun _ _=>none) (fun _ _=>none) (fun _=>none) (fun _=>none) (fun _=>none)
noncomputable def b1L:List Int:=[173,847,6150,6155,6156,6157,8203,8204,8205,8288,65279]++(List.range 16).map fun (i:Nat)=>65024+(i:Int)
noncomputable def dictOfE (e:Expr):List (Key×D):=((Mine.exD e).1.zip (Mine.exD e).2.1).filterMap fun p=>(Mine.pairOf p.1 p.2).map fun q=>(.i q.1,.str q.2.cps.toList)
noncomputable def b3L (l:List Stmt):List (Key×D):=l.flatMap fun s=>(oneK (Mine.stA s).1 fun t=>nmV t none fun x _=>if x==("b3_exceptions":Str) then some (dictOfE (Mine.stA s).2.1) else none).getD []
noncomputable def T02:Tab where
 fns:=prog.main.body.filterMap defOf
 cls:=prog.main.body.filterMap clsOf
 con:=[(("Whitespace":Str),[(("S":Str),.str [32]),(("T":Str),.str [9])])]
 gl:=[(("b1_set":Str),.set b1L),(("b3_exceptions":Str),.dict (b3L prog.main.body))]
 ats:=[("raw":Str),("n":Str),("nt":Str),("norm":Str),("is_simple":Str),("comp_select_list":Str)]
end Mine.Py
end
section
namespace Mine
open PySem PySem.W PyProof.Rows PySem.Calls Mine.Py
set_option genInjectivity false
set_option genSizeOf false
noncomputable def KB (P:Params):Frag:=butTab 110 (fragL P)
noncomputable def cadL (s:Str):Addr:=if s==Str.ofString "Whitespace" then 76 else if s==Str.ofString "TupleComp" then 104 else if s==Str.ofString "<tab>" then 110 else 0
noncomputable def mkD (s:Stmt):Def:=((Mine.Py.defOf s).getD (Str.ofString "",⟨Str.ofString "",[],[],default,⟨[],[]⟩⟩)).2
noncomputable def glEs (P:Params):Array DictEntry:=match (wkN P).data with | .dict es _=>es | _=>#[]
theorem tab_is:cadL (Str.ofString "<tab>")=110:=by decide +kernel
noncomputable abbrev frL (w:World) (mg:Str->Option Value):Fr:=⟨T02,prog,w,cadL,KB w.params,mg⟩
noncomputable def fdL:List (Addr×Def):=[(115,mkD (st 4)),(122,mkD (st 5)),(140,mkD (st 8)),(186,mkD (st 10)),(191,mkD (st 12)),(196,mkD (st 13)),(201,mkD (st 14)),(206,mkD (st 15)),(213,mkD (st 16)),(218,mkD (st 17)),(223,mkD (st 18)),(31,mkD (sub (st 1) 1)),(38,mkD (sub (st 1) 2)),(45,mkD (sub (st 1) 3)),(52,mkD (sub (st 1) 4)),(59,mkD (sub (st 1) 5)),(66,mkD (sub (st 1) 6)),(73,mkD (sub (st 1) 7)),(94,mkD (sub (st 3) 0)),(101,mkD (sub (st 3) 1))]
theorem wtx (P:Params):BindOk (KB P) (115,mkD (st 4)):=fun vals h=>by
 obtain ⟨a,b,rfl⟩:=len2 (h.trans (by kernel_rfl!))
 kernel_rfl!
theorem wtw (P:Params):BindOk (KB P) (122,mkD (st 5)):=fun vals h=>by
 obtain ⟨a,rfl⟩:=len1 (h.trans (by kernel_rfl!))
 kernel_rfl!
theorem wtv (P:Params):BindOk (KB P) (140,mkD (st 8)):=fun vals h=>by
 obtain ⟨a,rfl⟩:=len1 (h.trans (by kernel_rfl!))
 kernel_rfl!
theorem wtu (P:Params):BindOk (KB P) (186,mkD (st 10)):=fun vals h=>by
 obtain ⟨a,rfl⟩:=len1 (h.trans (by kernel_rfl!))
 kernel_rfl!
theorem wtt (P:Params):BindOk (KB P) (191,mkD (st 12)):=fun vals h=>by
 obtain ⟨a,rfl⟩:=len1 (h.trans (by kernel_rfl!))
 kernel_rfl!
theorem wts (P:Params):BindOk (KB P) (196,mkD (st 13)):=fun vals h=>by
 obtain ⟨a,b,c,rfl⟩:=len3 (h.trans (by kernel_rfl!))
 kernel_rfl!
theorem wtr (P:Params):BindOk (KB P) (201,mkD (st 14)):=fun vals h=>by
 obtain ⟨a,b,c,d,rfl⟩:=len4 (h.trans (by kernel_rfl!))
 kernel_rfl!
theorem wtq (P:Params):BindOk (KB P) (206,mkD (st 15)):=fun vals h=>by
 obtain ⟨a,b,rfl⟩:=len2 (h.trans (by kernel_rfl!))
 kernel_rfl!
theorem wtp (P:Params):BindOk (KB P) (213,mkD (st 16)):=fun vals h=>by
 obtain ⟨a,b,rfl⟩:=len2 (h.trans (by kernel_rfl!))
 kernel_rfl!
theorem wto (P:Params):BindOk (KB P) (218,mkD (st 17)):=fun vals h=>by
 obtain ⟨a,rfl⟩:=len1 (h.trans (by kernel_rfl!))
 kernel_rfl!
theorem wtn (P:Params):BindOk (KB P) (223,mkD (st 18)):=fun vals h=>by
 obtain ⟨a,rfl⟩:=len1 (h.trans (by kernel_rfl!))
 kernel_rfl!
theorem wuF (P:Params):BindOk (KB P) (31,mkD (sub (st 1) 1)):=fun vals h=>by
 obtain ⟨a,b,rfl⟩:=len2 (h.trans (by kernel_rfl!))
 kernel_rfl!
theorem wuE (P:Params):BindOk (KB P) (38,mkD (sub (st 1) 2)):=fun vals h=>by
 obtain ⟨a,rfl⟩:=len1 (h.trans (by kernel_rfl!))
 kernel_rfl!
theorem wuD (P:Params):BindOk (KB P) (45,mkD (sub (st 1) 3)):=fun vals h=>by
 obtain ⟨a,b,rfl⟩:=len2 (h.trans (by kernel_rfl!))
 kernel_rfl!
theorem wuC (P:Params):BindOk (KB P) (52,mkD (sub (st 1) 4)):=fun vals h=>by
 obtain ⟨a,b,rfl⟩:=len2 (h.trans (by kernel_rfl!))
 kernel_rfl!
theorem wuB (P:Params):BindOk (KB P) (59,mkD (sub (st 1) 5)):=fun vals h=>by
 obtain ⟨a,b,rfl⟩:=len2 (h.trans (by kernel_rfl!))
 kernel_rfl!
theorem wuA (P:Params):BindOk (KB P) (66,mkD (sub (st 1) 6)):=fun vals h=>by
 obtain ⟨a,b,rfl⟩:=len2 (h.trans (by kernel_rfl!))
 kernel_rfl!
theorem wuz (P:Params):BindOk (KB P) (73,mkD (sub (st 1) 7)):=fun vals h=>by
 obtain ⟨a,b,rfl⟩:=len2 (h.trans (by kernel_rfl!))
 kernel_rfl!
theorem wuy (P:Params):BindOk (KB P) (94,mkD (sub (st 3) 0)):=fun vals h=>by
 obtain ⟨a,b,rfl⟩:=len2 (h.trans (by kernel_rfl!))
 kernel_rfl!
theorem wty (P:Params):BindOk (KB P) (101,mkD (sub (st 3) 1)):=fun vals h=>by
 obtain ⟨a,b,c,rfl⟩:=len3 (h.trans (by kernel_rfl!))
 kernel_rfl!
theorem wux (P:Params):fdL.map (fL (KB P))=fdL.map (fR (KB P)):=by kernel_rfl!
theorem wut:(fdL.all fun p=>scChk p.2)=true:=by kernel_rfl!
theorem wsg (P:Params):∀ p∈fdL,BindOk (KB P) p:=by
 unfold fdL
 simp only [List.forall_mem_cons]
 exact ⟨wtx P,wtw P,wtv P,wtu P,wtt P,wts P,wtr P,wtq P,wtp P,wto P,wtn P,wuF P,wuE P,wuD P,wuC P,wuB P,wuA P,wuz P,wuy P,wty P,fun p hp=>memE hp⟩
theorem wuw:(fdL.all fun p=>p.1==115||p.2.scope.names.lookup gk != some .local)=true:=by kernel_rfl!
theorem wuu (w:World) (mg:Str->Option Value):∀ p∈fdL,typeIn (KB w.params) (.ref p.1)=some (.type "function")/\FdOk (frL w mg) p.1 p.2 (oAt (KB w.params) p.1) (fdAt (KB w.params) p.1):=fun p hp=>
 wuv (C:=frL w mg) (win (wux w.params) p hp) (List.all_eq_true.mp wut p hp) (wsg w.params p hp) fun h=>by
  have:=List.all_eq_true.mp wuw p hp
  rw [h]at this
  have e:p.1=115:=by simpa using this
  rw [e]
  exact ⟨114,by kernel_rfl!,wd1 w.params,by kernel_rfl!,_,_,_,_,_,_,_,_,rfl,rfl,rfl,rfl,rfl,rfl,by rw [show tabAt (frL w mg)=110 from tab_is];decide⟩
noncomputable def fdT:List (Addr×Def):=[(115,mkD (st 4)),(122,mkD (st 5)),(140,mkD (st 8)),(186,mkD (st 10)),(191,mkD (st 12)),(196,mkD (st 13)),(201,mkD (st 14)),(206,mkD (st 15)),(213,mkD (st 16)),(218,mkD (st 17)),(223,mkD (st 18))]
noncomputable def fdM (c:Str):List (Addr×Def):=if c==Str.ofString "Whitespace" then [(31,mkD (sub (st 1) 1)),(38,mkD (sub (st 1) 2)),(45,mkD (sub (st 1) 3)),(52,mkD (sub (st 1) 4)),(59,mkD (sub (st 1) 5)),(66,mkD (sub (st 1) 6)),(73,mkD (sub (st 1) 7))] else if c==Str.ofString "TupleComp" then [(94,mkD (sub (st 3) 0)),(101,mkD (sub (st 3) 1))] else []
theorem wtl (w:World) {mg:Str->Option Value} (hm:∀ x,nsFind (glEs w.params) x=mg x):FnsOk (frL w mg):=
 wqS (C:=frL w mg) hm (fdT:=fdT) (fdM:=fdM) (by show (T02.fns.map fun p=>(nsFind (glEs w.params) p.1,p.2))=_;kernel_rfl!) (by show T02.cls.map (cL (frL w mg) (nsFind (glEs w.params)))=T02.cls.map (cR (frL w mg) fdM);kernel_rfl!) fun p hp=>wuu w mg p (hp.elim (fun h=>by
  have:fdT++fdM (Str.ofString "Whitespace")++fdM (Str.ofString "TupleComp")=fdL:=by kernel_rfl!
  exact this ▸ List.mem_append_left _ (List.mem_append_left _ h)) fun ⟨c,h⟩=>by
  have:fdT++fdM (Str.ofString "Whitespace")++fdM (Str.ofString "TupleComp")=fdL:=by kernel_rfl!
  rw [<- this]
  by_cases e:(c==Str.ofString "Whitespace")=true
  ·rw [eq_of_beq e]at h;exact List.mem_append_left _ (List.mem_append_right _ h)
  ·by_cases e':(c==Str.ofString "TupleComp")=true
   ·rw [eq_of_beq e']at h;exact List.mem_append_right _ h
   ·unfold fdM at h;rw [if_neg e,if_neg e']at h;exact memE h)
noncomputable def mcsL (_:Addr):Value:=.type "type"
theorem wtf (w:World) {mg:Str->Option Value} (hm:∀ x,nsFind (glEs w.params) x=mg x):StOk (frL w mg) mcsL:=
 wrG (C:=frL w mg) hm (cv:=fun _=>[([32],202),([9],203)]) (by show T02.con.map (rL (frL w mg) (nsFind (glEs w.params)) mcsL)=T02.con.map (rR (frL w mg) _);kernel_rfl!) (by show (T02.cls.map fun p=>kL (frL w mg) (cadL p.1))=T02.cls.map fun _=>kR;kernel_rfl!)
noncomputable def setEs (P:Params):Array (Int×Value):=match (wd0 P).data with | .set es _ _=>es | _=>#[]
noncomputable def dictEs (P:Params):Array DictEntry:=match (whg P).data with | .dict es _=>es | _=>#[]
theorem wsI (P:Params):setChk b1L (setEs P).toList=true:=by kernel_rfl!
theorem wsl (P:Params):dictChk (dictEs P).toList (b3L prog.main.body)=true:=by kernel_rfl!
theorem wop:risesK (-1) (b3L prog.main.body)=true:=by kernel_rfl!
theorem wus (w:World) {mg:Str->Option Value} {h:Heap} (Y:Frag.In (fragL w.params) h) (hm:∀ x,nsFind (glEs w.params) x=mg x):∀ x d,T02.gl.lookup x=some d->∃ v,mg x=some v/\Rep (frL w mg) (frozen 110 h) v d:=by
 intro x d hx
 have hx:=Mine.Py.mem_lookup hx
 have hx:(x,d)∈[(Str.ofString "b1_set",D.set b1L),(Str.ofString "b3_exceptions",D.dict (b3L prog.main.body))]:=hx
 have K:=wjJ (PT:=110) Y
 rcases List.mem_cons.mp hx with e | hx
 ·injection e with e1 e2
  rw [e1,e2]
  exact ⟨.ref 130,(hm _).symm.trans (by kernel_rfl!),VT.mk (K 130 (wd0 w.params) (by kernel_rfl!)) (Nat.le_of_ble_eq_true (by kernel_rfl!:Nat.ble ((setEs w.params).size+1) scanBound=true)) (wsJ (es:=setEs w.params) ⟨rfl,rfl,rfl⟩ rfl (by kernel_rfl!) (wsI w.params))⟩
 ·injection List.mem_singleton.mp hx with e1 e2
  rw [e1,e2]
  exact ⟨.ref 141,(hm _).symm.trans (by kernel_rfl!),wsm (C:=frL w mg) (es:=dictEs w.params) (K 141 (whg w.params) (by kernel_rfl!)) (by decide) ⟨rfl,rfl,rfl⟩ rfl (wsl w.params) wop⟩
theorem wsX (P:Params) {mg:Str->Option Value} (hm:∀ x,nsFind (glEs P) x=mg x):∀ x∈biNames,mg x=none:=by
 have:(biNames.all fun x=>(nsFind (glEs P) x).isNone)=true:=by kernel_rfl!
 intro x hx
 have:=List.all_eq_true.mp this x hx
 rw [<- hm]
 exact Option.isNone_iff_eq_none.mp this
theorem site {q:Program} {loose:List Str} {XP:(Str->Option Value)->Heap->Prop} {R:WRecords} (w:World) (s₀:Shared) (mg mb:Str->Option Value) (h:Heap) (G:Ground q loose R XP w s₀ mg mb h) (Y:Frag.In (fragL w.params) h) :
  Gd (frL w mg) (frozen 110 h)/\Wd T02 (frL w mg):=by
 have hm:∀ x,nsFind (glEs w.params) x=mg x:=by
  obtain ⟨o,es,ep,e1,e2,e3,e4⟩:=G.T.g
  have:=Y 3 (wkN w.params) (by kernel_rfl!)
  rw [show mainGlobals=3 from rfl,this]at e1
  cases e1
  have:es=glEs w.params:=by unfold glEs;rw [e2]
  rw [<- this];exact e4
 have fz:∀ b o,b≠110->h.get? b=some o->frozen 110 h b=some o:=fun b o q e=>by unfold frozen;rw [if_neg q];exact e
 refine ⟨⟨wjJ Y,?_,?_,?_,wus w Y hm,wsX w.params hm,?_⟩,rfl,wtl w hm,_,wtf w hm⟩
 ·obtain ⟨o,e,r⟩:=NsO.of G.T.g
  exact ⟨o,fz _ _ (by decide) e,r⟩
 ·obtain ⟨o,e,r⟩:=NsO.of G.T.b
  exact ⟨o,mb,fz _ _ (by decide) e,r,fun x v hx hv=>by rw [G.T.builtins x hx];exact hv⟩
 ·obtain ⟨mc,n,hn⟩:=G.T.nolimit
  obtain ⟨o,e,r⟩:=NsO.of n
  exact ⟨o,mc,fz _ _ (by decide) e,r,hn⟩
 ·obtain ⟨bm,ob,e1,e2,e3,e4,e5,e6⟩:=G.T.bmain
  refine ⟨bm,ob,e1,e2,fz _ _ (fun q=>?_) e3,e4,e5,e6⟩
  have:=Y 110 (we5 w.params) (by kernel_rfl!)
  rw [q,this]at e3;cases e3;cases e4
theorem tab_ok (P:Params):(fragL P).lookup 110=some { cls:=.none,data:=.fields #[] }/\∃ c oc vs,(fragL P).lookup c=some oc/\oc.cls=.type "code"/\oc.data=.fields vs/\vs[11]?=some (.ref 110):=
 ⟨by kernel_rfl!,114,wd1 P,_,by kernel_rfl!,rfl,rfl,rfl⟩
end Mine
end
section
namespace Mine.Py
open PySem
set_option genInjectivity false
set_option genSizeOf false
noncomputable abbrev Z (s:String):Str:=Str.ofString s
noncomputable def dumD:Def:=⟨Str.ofString "",[],[],default,⟨[],[]⟩⟩
noncomputable def gB1:D:=.set b1L
noncomputable def gB3:D:=.dict (b3L prog.main.body)
noncomputable def clD (c:Str):List (Str×Def):=(T02.cls.lookup c).getD []
noncomputable def LEq {C S:Type} (tf:TF) (tm:TM) (d:Def) (st:Stmt) (hs:List (Option Hd)) (enc:C->S->QV) (B:C->S->D->(S->Option D)->(S->Option D)->(D->Option D)->Option D):Prop:=
 ∀ cc s x next brk ret,turnQ T02 (cfOf tf) (cmOf tm) 20 d.cx d.scope (forT st) (forB st) hs (enc cc s) x next brk ret=B cc s x (fun s'=>next (enc cc s')) (fun s'=>brk (enc cc s')) ret
noncomputable def tf_0:TF:=[]
noncomputable def tm_0:TM:=[]
theorem waN:CGood T02 (cfOf tf_0) (cmOf tm_0) 0:=wiq (tf:=tf_0) (tm:=tm_0) trivial trivial
theorem wtZ:AllF T02 0 tf_0:=trivial
theorem wtX:AllM T02 0 tm_0:=trivial
noncomputable def war:Def:=(T02.fns.lookup (Z "add_callers")).getD dumD
noncomputable def wce:List Str:=[(Z "target"),(Z "source"),(Z "new_callers"),(Z "func"),(Z "caller")]
noncomputable def wbz (target:D) (source:D) (s:(List (Key×D))) (d:D) (next brk:(List (Key×D))->Option D) (ret:D->Option D):Option D:=
wbR d fun func_1 caller_2=>
(putM s func_1 caller_2).bind fun m3=>
next m3
noncomputable def wiC (c:D×D) (s:(List (Key×D))):List (Option Slot):=[some (.fz c.1),some (.fz c.2),some (.own (.dict s)),none,none]
noncomputable def wco (c:D×D) (s:(List (Key×D))):QV:=zq wce (wiC c s)
noncomputable def wdV (q:QV):Option ((D×D)×((List (Key×D)))):=nqK wce q fun l=>uF l fun v0 l=>uF l fun v1 l=>uM l fun v2 l=>uN l fun l=>uN l fun l=>uE l ((v0,v1),v2)
theorem wgj (q:QV) (x:((D×D)×((List (Key×D))))) (h:wdV q=some x):q=wco x.1 x.2:=nqE h fun l h=>by
 apply uFM h;clear h;intro v0 l h;apply uFM h;clear h;intro v1 l h;apply uMM h;clear h;intro v2 l h;apply uNM h;clear h;intro l h;apply uNM h;clear h;intro l h;apply uEM h;clear h;intro h;rw [<- h];rfl
noncomputable def wcG:Stmt:=(war.body.getD 1 stD)
noncomputable def weI (c:D×D):=wbz c.1 c.2
noncomputable def weM:Hd:=mkF T02 (cfOf tf_0) (cmOf tm_0) 20 war.scope wcG wdV wco weI
theorem whF:LEq tf_0 tm_0 war wcG [] wco weI:=by
 intro c s x next brk ret
 kernel_rfl!
theorem whJ:FOk T02 0 war.scope wcG weM:=wbl waN wgj whF trivial
noncomputable def wb1 (target:D) (source:D) (s:(List (Key×D))) (d:D) (next brk:(List (Key×D))->Option D) (ret:D->Option D):Option D:=
wbR d fun func_6 caller_7=>
(cmpD .In func_6 (D.dict s)).bind fun b8=>
if b8 then ((isTupQ caller_7).bind fun b9=>
if b9 then ((sub (D.dict s) func_6).bind fun x10=>
(zipSumQ caller_7 x10).bind fun x11=>
(putM s func_6 x11).bind fun m12=>
next m12) else ((sub (D.dict s) func_6).bind fun x13=>
(addI x13 caller_7).bind fun x14=>
(putM s func_6 x14).bind fun m15=>
next m15)) else ((putM s func_6 caller_7).bind fun m16=>
next m16)
noncomputable def wiB (c:D×D) (s:(List (Key×D))):List (Option Slot):=[some (.fz c.1),some (.fz c.2),some (.own (.dict s)),none,none]
noncomputable def wcn (c:D×D) (s:(List (Key×D))):QV:=zq wce (wiB c s)
noncomputable def wdU (q:QV):Option ((D×D)×((List (Key×D)))):=nqK wce q fun l=>uF l fun v0 l=>uF l fun v1 l=>uM l fun v2 l=>uN l fun l=>uN l fun l=>uE l ((v0,v1),v2)
theorem wgi (q:QV) (x:((D×D)×((List (Key×D))))) (h:wdU q=some x):q=wcn x.1 x.2:=nqE h fun l h=>by
 apply uFM h;clear h;intro v0 l h;apply uFM h;clear h;intro v1 l h;apply uMM h;clear h;intro v2 l h;apply uNM h;clear h;intro l h;apply uNM h;clear h;intro l h;apply uEM h;clear h;intro h;rw [<- h];rfl
noncomputable def wcF:Stmt:=(war.body.getD 2 stD)
noncomputable def weH (c:D×D):=wb1 c.1 c.2
noncomputable def weL:Hd:=mkF T02 (cfOf tf_0) (cmOf tm_0) 20 war.scope wcF wdU wcn weH
theorem whE:LEq tf_0 tm_0 war wcF [] wcn weH:=by
 intro c s x next brk ret
 kernel_rfl!
theorem whI:FOk T02 0 war.scope wcF weL:=wbl waN wgi whE trivial
noncomputable def waT (target:D) (source:D):Option D:=
(itemsQ target).bind fun l4=>
if l4.length<=cap then forS (wbz target source) l4 [] (fun s5=>
(itemsQ source).bind fun l17=>
if l17.length<=cap then forS (wb1 target source) l17 s5 (fun s18=>
some (D.dict s18)) some else none) some else none
noncomputable def wdQ (ds:List D):Option D:=a2 waT ds
noncomputable def wdn:List Str:=[(Z "new_callers"),(Z "func"),(Z "caller")]
noncomputable def wds:List (Option Hd):=[none,some weM,some weL,none]
theorem wiw (target source:D):runQ T02 (cfOf tf_0) (cmOf tm_0) 20 war wds wdn [target,source]=waT target source:=by
 kernel_rfl!
theorem wi2:FnGood T02 (Z "add_callers") wdQ 28:=
 wbH (f:=(Z "add_callers")) (s:=wdQ) (n:=20) (hs:=wds) (ls:=wdn) (d:=war) waN (by kernel_rfl!) (⟨whJ,whI,trivial⟩) (fun args r e=>a2M (M:=fun ds=>war.params.length=ds.length/\runQ T02 (cfOf tf_0) (cmOf tm_0) 20 war wds wdn ds=some r) e fun a b e=>⟨(by kernel_rfl!:war.params.length=2),(wiw a b).trans e⟩)
noncomputable def waP:Def:=(T02.fns.lookup (Z "count_calls")).getD dumD
noncomputable def wfZ:List Str:=[(Z "callers"),(Z "nc"),(Z "calls")]
noncomputable def wby (callers:D) (s:D) (d:D) (next brk:D->Option D) (ret:D->Option D):Option D:=
(addI s d).bind fun x1=>
next x1
noncomputable def wiA (c:D) (s:D):List (Option Slot):=[some (.fz c),some (.fz s),none]
noncomputable def wcm (c:D) (s:D):QV:=zq wfZ (wiA c s)
noncomputable def wdT (q:QV):Option ((D)×(D)):=nqK wfZ q fun l=>uF l fun v0 l=>uF l fun v1 l=>uN l fun l=>uE l (v0,v1)
theorem wgh (q:QV) (x:((D)×(D))) (h:wdT q=some x):q=wcm x.1 x.2:=nqE h fun l h=>by
 apply uFM h;clear h;intro v0 l h;apply uFM h;clear h;intro v1 l h;apply uNM h;clear h;intro l h;apply uEM h;clear h;intro h;rw [<- h];rfl
noncomputable def wcE:Stmt:=(waP.body.getD 1 stD)
noncomputable def weG (c:D):=wby c
noncomputable def weK:Hd:=mkF T02 (cfOf tf_0) (cmOf tm_0) 20 waP.scope wcE wdT wcm weG
theorem whD:LEq tf_0 tm_0 waP wcE [] wcm weG:=by
 intro c s x next brk ret
 kernel_rfl!
theorem whH:FOk T02 0 waP.scope wcE weK:=wbl waN wgh whD trivial
noncomputable def waS (callers:D):Option D:=
(valsQ callers).bind fun l2=>
if l2.length<=cap then forS (wby callers) l2 (D.int 0) (fun s3=>
some s3) some else none
noncomputable def wdP (ds:List D):Option D:=a1 waS ds
noncomputable def wdm:List Str:=[(Z "nc"),(Z "calls")]
noncomputable def wdr:List (Option Hd):=[none,some weK,none]
theorem wiv (callers:D):runQ T02 (cfOf tf_0) (cmOf tm_0) 20 waP wdr wdm [callers]=waS callers:=by
 kernel_rfl!
theorem wi1:FnGood T02 (Z "count_calls") wdP 28:=
 wbH (f:=(Z "count_calls")) (s:=wdP) (n:=20) (hs:=wdr) (ls:=wdm) (d:=waP) waN (by kernel_rfl!) (⟨whH,trivial⟩) (fun args r e=>a1M (M:=fun ds=>waP.params.length=ds.length/\runQ T02 (cfOf tf_0) (cmOf tm_0) 20 waP wdr wdm ds=some r) e fun a e=>⟨(by kernel_rfl!:waP.params.length=1),(wiv a).trans e⟩)
noncomputable def wbV:Def:=(T02.fns.lookup (Z "in_table_b1")).getD dumD
noncomputable def wa7 (code:D):Option D:=
(bfn .ord [code]).bind fun x1=>
(cmpD .In x1 gB1).bind fun b2=>
some (D.bool b2)
noncomputable def wdO (ds:List D):Option D:=a1 wa7 ds
noncomputable def wdl:List Str:=[]
noncomputable def wdq:List (Option Hd):=[]
theorem wiu (code:D):runQ T02 (cfOf tf_0) (cmOf tm_0) 20 wbV wdq wdl [code]=wa7 code:=by
 kernel_rfl!
theorem wi0:FnGood T02 (Z "in_table_b1") wdO 28:=
 wbH (f:=(Z "in_table_b1")) (s:=wdO) (n:=20) (hs:=wdq) (ls:=wdl) (d:=wbV) waN (by kernel_rfl!) (trivial) (fun args r e=>a1M (M:=fun ds=>wbV.params.length=ds.length/\runQ T02 (cfOf tf_0) (cmOf tm_0) 20 wbV wdq wdl ds=some r) e fun a e=>⟨(by kernel_rfl!:wbV.params.length=1),(wiu a).trans e⟩)
noncomputable def wbJ:Def:=(T02.fns.lookup (Z "map_table_b3")).getD dumD
noncomputable def wbb (code:D):Option D:=
dictK gB3 fun t1=>
(bfn .ord [code]).bind fun x2=>
(mfn (D.dict t1) .get [x2]).bind fun x3=>
(cmpD .IsNot x3 D.none).bind fun b4=>
if b4 then (some x3) else (strK code fun t5=>
(mfn (D.str t5) .lower []).bind fun x6=>
some x6)
noncomputable def wdx (ds:List D):Option D:=a1 wbb ds
noncomputable def wc0:List Str:=[(Z "r")]
noncomputable def wc2:List (Option Hd):=[]
theorem wgG (code:D):runQ T02 (cfOf tf_0) (cmOf tm_0) 20 wbJ wc2 wc0 [code]=wbb code:=by
 kernel_rfl!
theorem wiy:FnGood T02 (Z "map_table_b3") wdx 28:=
 wbH (f:=(Z "map_table_b3")) (s:=wdx) (n:=20) (hs:=wc2) (ls:=wc0) (d:=wbJ) waN (by kernel_rfl!) (trivial) (fun args r e=>a1M (M:=fun ds=>wbJ.params.length=ds.length/\runQ T02 (cfOf tf_0) (cmOf tm_0) 20 wbJ wc2 wc0 ds=some r) e fun a e=>⟨(by kernel_rfl!:wbJ.params.length=1),(wgG a).trans e⟩)
noncomputable def wax:Def:=(T02.fns.lookup (Z "_law_word")).getD dumD
noncomputable def wcX:List Str:=[(Z "script"),(Z "cells"),(Z "place"),(Z "number"),(Z "wide"),(Z "unseen"),(Z "firsts"),(Z "typed"),(Z "word"),(Z "stock"),(Z "k"),(Z "sign"),(Z "seed")]
noncomputable def wa2 (script:D) (s:List D) (d:D) (next brk:List D->Option D) (ret:D->Option D):Option D:=
wbR d fun place_1 number_2=>
(binop .Mod place_1 (D.int 3)).bind fun x3=>
(sub (D.list s) x3).bind fun x4=>
(binop .Pow (D.int 10) (D.int 12)).bind fun x5=>
(binop .Mod number_2 x5).bind fun x6=>
(addI x4 x6).bind fun x7=>
(putL s x3 x7).bind fun l8=>
next l8
noncomputable def wjL (c:D) (s:List D):List (Option Slot):=[some (.fz c),some (.own (.list s)),none,none,none,none,none,none,none,none,none,none,none]
noncomputable def wc5 (c:D) (s:List D):QV:=zq wcX (wjL c s)
noncomputable def weC (q:QV):Option ((D)×(List D)):=nqK wcX q fun l=>uF l fun v0 l=>uL l fun v1 l=>uN l fun l=>uN l fun l=>uN l fun l=>uN l fun l=>uN l fun l=>uN l fun l=>uN l fun l=>uN l fun l=>uN l fun l=>uN l fun l=>uN l fun l=>uE l (v0,v1)
theorem whu (q:QV) (x:((D)×(List D))) (h:weC q=some x):q=wc5 x.1 x.2:=nqE h fun l h=>by
 apply uFM h;clear h;intro v0 l h;apply uLM h;clear h;intro v1 l h;apply uNM h;clear h;intro l h;apply uNM h;clear h;intro l h;apply uNM h;clear h;intro l h;apply uNM h;clear h;intro l h;apply uNM h;clear h;intro l h;apply uNM h;clear h;intro l h;apply uNM h;clear h;intro l h;apply uNM h;clear h;intro l h;apply uNM h;clear h;intro l h;apply uNM h;clear h;intro l h;apply uNM h;clear h;intro l h;apply uEM h;clear h;intro h;rw [<- h];rfl
noncomputable def wdg:Stmt:=(wax.body.getD 1 stD)
noncomputable def wgv (c:D):=wa2 c
noncomputable def wgz:Hd:=mkF T02 (cfOf tf_0) (cmOf tm_0) 20 wax.scope wdg weC wc5 wgv
theorem wjb:LEq tf_0 tm_0 wax wdg [] wc5 wgv:=by
 intro c s x next brk ret
 kernel_rfl!
theorem wjf:FOk T02 0 wax.scope wdg wgz:=wbl waN whu wjb trivial
noncomputable def wcB (script:D) (cells:D) (wide:D) (unseen:D) (firsts:D) (stock:D) (s:List D×D) (d:D) (next brk:List D×D->Option D) (ret:D->Option D):Option D:=
(sub cells (D.int 1)).bind fun x24=>
(binop .Pow (D.int 24) d).bind fun x25=>
(binop .FloorDiv x24 x25).bind fun x26=>
(binop .Mod x26 (D.int 24)).bind fun x27=>
(sub stock x27).bind fun x28=>
(sub cells (D.int 2)).bind fun x29=>
(binop .Pow (D.int 336) d).bind fun x30=>
(binop .FloorDiv x29 x30).bind fun x31=>
(bfn .len [s.2]).bind fun x32=>
dictK wide fun t33=>
(mfn (D.dict t33) .get [x28,x28]).bind fun x34=>
(bfn .len [x34]).bind fun x35=>
(binop .Add x32 x35).bind fun x36=>
(cmpD .LtE x36 (D.int 8)).bind fun b37=>
if b37 then ((binop .FloorDiv x31 (D.int 12)).bind fun x38=>
(binop .Mod x38 (D.int 28)).bind fun x39=>
intK x39 fun i40=>
if boundOk (some i40)&&boundOk none then (cutD (some i40) none unseen).bind fun x41=>
if boundOk none&&boundOk (some 1) then (cutD none (some 1) x41).bind fun x42=>
(keysOf x42).bind fun l43=>
if l43.length<=cap then (compQ (fun d44=>some true) (fun d44=>(bfn .chr [d44]).bind fun x45=>
some x45) l43).bind fun l46=>
if s.1.length+l46.length<=cap then ((cmpD .In x28 wide).bind fun b47=>
if b47 then (some x28) else ((binop .Mod x31 (D.int 12)).bind fun x48=>
(sub firsts x48).bind fun x49=>
(bfn .ord [x28]).bind fun x50=>
(binop .Add x49 x50).bind fun x51=>
(binop .Sub x51 (D.int 97)).bind fun x52=>
(bfn .chr [x52]).bind fun x53=>
some x53)).bind fun x54=>
if (s.1++l46).length<=cap then dictK wide fun t55=>
(mfn (D.dict t55) .get [x28,x28]).bind fun x56=>
(addI s.2 x56).bind fun x57=>
next (((s.1++l46)++[x54]),x57) else none else none else none else none else none) else (next (s.1,s.2))
noncomputable def wjK (c:D×D×D×D×D×D) (s:List D×D):List (Option Slot):=[some (.fz c.1),some (.fz c.2.1),none,none,some (.fz c.2.2.1),some (.fz c.2.2.2.1),some (.fz c.2.2.2.2.1),some (.own (.list s.1)),some (.fz s.2),some (.fz c.2.2.2.2.2),none,none,none]
noncomputable def wc4 (c:D×D×D×D×D×D) (s:List D×D):QV:=zq wcX (wjK c s)
noncomputable def weB (q:QV):Option ((D×D×D×D×D×D)×(List D×D)):=nqK wcX q fun l=>uF l fun v0 l=>uF l fun v1 l=>uN l fun l=>uN l fun l=>uF l fun v4 l=>uF l fun v5 l=>uF l fun v6 l=>uL l fun v7 l=>uF l fun v8 l=>uF l fun v9 l=>uN l fun l=>uN l fun l=>uN l fun l=>uE l ((v0,v1,v4,v5,v6,v9),(v7,v8))
theorem wht (q:QV) (x:((D×D×D×D×D×D)×(List D×D))) (h:weB q=some x):q=wc4 x.1 x.2:=nqE h fun l h=>by
 apply uFM h;clear h;intro v0 l h;apply uFM h;clear h;intro v1 l h;apply uNM h;clear h;intro l h;apply uNM h;clear h;intro l h;apply uFM h;clear h;intro v4 l h;apply uFM h;clear h;intro v5 l h;apply uFM h;clear h;intro v6 l h;apply uLM h;clear h;intro v7 l h;apply uFM h;clear h;intro v8 l h;apply uFM h;clear h;intro v9 l h;apply uNM h;clear h;intro l h;apply uNM h;clear h;intro l h;apply uNM h;clear h;intro l h;apply uEM h;clear h;intro h;rw [<- h];rfl
noncomputable def wdf:Stmt:=(wax.body.getD 6 stD)
noncomputable def wgu (c:D×D×D×D×D×D):=wcB c.1 c.2.1 c.2.2.1 c.2.2.2.1 c.2.2.2.2.1 c.2.2.2.2.2
noncomputable def wgy:Hd:=mkF T02 (cfOf tf_0) (cmOf tm_0) 20 wax.scope wdf weB wc4 wgu
theorem wja:LEq tf_0 tm_0 wax wdf [] wc4 wgu:=by
 intro c s x next brk ret
 kernel_rfl!
theorem wje:FOk T02 0 wax.scope wdf wgy:=wbl waN wht wja trivial
noncomputable def wb5 (script:D):Option D:=
if boundOk none&&boundOk (some 60) then (cutD none (some 60) script).bind fun x9=>
(enumQ [x9]).bind fun l10=>
if l10.length<=cap then forS (wa2 script) l10 [(D.int 130),(D.int 288323),(D.int 8675309123)] (fun s11=>
(rangeD [(D.int 65024),(D.int 65040)]).bind fun l12=>
(binop .Add (D.list [(D.int 173),(D.int 847),(D.int 6150),(D.int 6155),(D.int 6156),(D.int 6157),(D.int 8203),(D.int 8204),(D.int 8205),(D.int 8288),(D.int 65279)]) (D.list l12)).bind fun x13=>
(keysOf (D.tuple [(D.int 0),(D.int 1),(D.int 2),(D.int 4),(D.int 7),(D.int 8),(D.int 9),(D.int 10),(D.int 11),(D.int 12)])).bind fun l14=>
if l14.length<=cap then (compQ (fun d15=>some true) (fun d15=>(binop .Mult (D.int 52) d15).bind fun x16=>
(binop .Add (D.int 119808) x16).bind fun x17=>
some x17) l14).bind fun l18=>
(binop .Add (D.list [(D.int 97),(D.int 65)]) (D.list l18)).bind fun x19=>
(keysOf (D.dict [((Key.s [64256]),(D.str [102,102])),((Key.s [64257]),(D.str [102,105])),((Key.s [64258]),(D.str [102,108])),((Key.s [64259]),(D.str [102,102,105])),((Key.s [64260]),(D.str [102,102,108])),((Key.s [64262]),(D.str [115,116])),((Key.s [223]),(D.str [115,115])),((Key.s [8470]),(D.str [110,111])),((Key.s [8481]),(D.str [116,101,108])),((Key.s [8482]),(D.str [116,109])),((Key.s [13169]),(D.str [104,112,97])),((Key.s [13201]),(D.str [107,104,122])),((Key.s [13254]),(D.str [99,8725,107,103])),((Key.s [13255]),(D.str [99,111,46])),((Key.s [13259]),(D.str [104,112])),((Key.s [13273]),(D.str [112,112,109]))])).bind fun l20=>
if l20.length<=cap then (compQ (fun d21=>some true) (fun d21=>some d21) l20).bind fun l22=>
(binop .Add (D.list [(D.str [97]),(D.str [98]),(D.str [101]),(D.str [103]),(D.str [107]),(D.str [114]),(D.str [118]),(D.str [122])]) (D.list l22)).bind fun x23=>
(rangeD [(D.int 4)]).bind fun l58=>
if l58.length<=cap then forS (wcB script (D.list s11) (D.dict [((Key.s [64256]),(D.str [102,102])),((Key.s [64257]),(D.str [102,105])),((Key.s [64258]),(D.str [102,108])),((Key.s [64259]),(D.str [102,102,105])),((Key.s [64260]),(D.str [102,102,108])),((Key.s [64262]),(D.str [115,116])),((Key.s [223]),(D.str [115,115])),((Key.s [8470]),(D.str [110,111])),((Key.s [8481]),(D.str [116,101,108])),((Key.s [8482]),(D.str [116,109])),((Key.s [13169]),(D.str [104,112,97])),((Key.s [13201]),(D.str [107,104,122])),((Key.s [13254]),(D.str [99,8725,107,103])),((Key.s [13255]),(D.str [99,111,46])),((Key.s [13259]),(D.str [104,112])),((Key.s [13273]),(D.str [112,112,109]))]) x13 x19 x23) l58 ([],(D.str [])) (fun s59=>
(sub (D.list s11) (D.int 0)).bind fun x60=>
(binop .Mod x60 (D.int 15)).bind fun x61=>
(binop .Add (D.int 9) x61).bind fun x62=>
(unop .USub (D.int 1)).bind fun x63=>
(unop .USub (D.int 3)).bind fun x64=>
(sub (D.list s11) (D.int 0)).bind fun x65=>
(binop .FloorDiv x65 (D.int 15)).bind fun x66=>
(binop .Mod x66 (D.int 4)).bind fun x67=>
(sub (D.list [(D.int 1),x63,(D.int 2),x64]) x67).bind fun x68=>
some (D.tuple [(D.list s59.1),s59.2,x62,x68])) some else none else none else none) some else none else none
noncomputable def weU (ds:List D):Option D:=a1 wb5 ds
noncomputable def wee:List Str:=[(Z "cells"),(Z "place"),(Z "number"),(Z "wide"),(Z "unseen"),(Z "firsts"),(Z "typed"),(Z "word"),(Z "stock"),(Z "k"),(Z "sign"),(Z "seed")]
noncomputable def wej:List (Option Hd):=[none,some wgz,none,none,none,none,some wgy,none]
theorem wjk (script:D):runQ T02 (cfOf tf_0) (cmOf tm_0) 20 wax wej wee [script]=wb5 script:=by
 kernel_rfl!
theorem wj3:FnGood T02 (Z "_law_word") weU 28:=
 wbH (f:=(Z "_law_word")) (s:=weU) (n:=20) (hs:=wej) (ls:=wee) (d:=wax) waN (by kernel_rfl!) (⟨wjf,wje,trivial⟩) (fun args r e=>a1M (M:=fun ds=>wax.params.length=ds.length/\runQ T02 (cfOf tf_0) (cmOf tm_0) 20 wax wej wee ds=some r) e fun a e=>⟨(by kernel_rfl!:wax.params.length=1),(wjk a).trans e⟩)
noncomputable def waQ:Def:=(T02.fns.lookup (Z "_law_column")).getD dumD
noncomputable def wf0:List Str:=[(Z "gaps"),(Z "size"),(Z "column"),(Z "gap")]
noncomputable def wbA (gaps:D) (size:D) (s:D) (d:D) (next brk:D->Option D) (ret:D->Option D):Option D:=
(binop .Add s d).bind fun x1=>
(binop .FloorDiv x1 size).bind fun x2=>
(binop .Mult x2 size).bind fun x3=>
(binop .Add x3 size).bind fun x4=>
next x4
noncomputable def wiD (c:D×D) (s:D):List (Option Slot):=[some (.fz c.1),some (.fz c.2),some (.fz s),none]
noncomputable def wcp (c:D×D) (s:D):QV:=zq wf0 (wiD c s)
noncomputable def wdW (q:QV):Option ((D×D)×(D)):=nqK wf0 q fun l=>uF l fun v0 l=>uF l fun v1 l=>uF l fun v2 l=>uN l fun l=>uE l ((v0,v1),v2)
theorem wgk (q:QV) (x:((D×D)×(D))) (h:wdW q=some x):q=wcp x.1 x.2:=nqE h fun l h=>by
 apply uFM h;clear h;intro v0 l h;apply uFM h;clear h;intro v1 l h;apply uFM h;clear h;intro v2 l h;apply uNM h;clear h;intro l h;apply uEM h;clear h;intro h;rw [<- h];rfl
noncomputable def wcH:Stmt:=(waQ.body.getD 1 stD)
noncomputable def weJ (c:D×D):=wbA c.1 c.2
noncomputable def weN:Hd:=mkF T02 (cfOf tf_0) (cmOf tm_0) 20 waQ.scope wcH wdW wcp weJ
theorem whG:LEq tf_0 tm_0 waQ wcH [] wcp weJ:=by
 intro c s x next brk ret
 kernel_rfl!
theorem whK:FOk T02 0 waQ.scope wcH weN:=wbl waN wgk whG trivial
noncomputable def waj (gaps:D) (size:D):Option D:=
(keysOf gaps).bind fun l5=>
if l5.length<=cap then forS (wbA gaps size) l5 (D.int 0) (fun s6=>
some s6) some else none
noncomputable def wdR (ds:List D):Option D:=a2 waj ds
noncomputable def wdo:List Str:=[(Z "column"),(Z "gap")]
noncomputable def wdt:List (Option Hd):=[none,some weN,none]
theorem wix (gaps size:D):runQ T02 (cfOf tf_0) (cmOf tm_0) 20 waQ wdt wdo [gaps,size]=waj gaps size:=by
 kernel_rfl!
theorem wi3:FnGood T02 (Z "_law_column") wdR 28:=
 wbH (f:=(Z "_law_column")) (s:=wdR) (n:=20) (hs:=wdt) (ls:=wdo) (d:=waQ) waN (by kernel_rfl!) (⟨whK,trivial⟩) (fun args r e=>a2M (M:=fun ds=>waQ.params.length=ds.length/\runQ T02 (cfOf tf_0) (cmOf tm_0) 20 waQ wdt wdo ds=some r) e fun a b e=>⟨(by kernel_rfl!:waQ.params.length=2),(wix a b).trans e⟩)
noncomputable def wbm:Def:=((clD (Z "Whitespace")).lookup (Z "__init__")).getD dumD
noncomputable def wgr:List Str:=[(Z "self"),(Z "ws"),(Z "S"),(Z "T"),(Z "count"),(Z "b"),(Z "n"),(Z "nt"),(Z "ch")]
noncomputable def was (ws:D) (S:D) (T:D) (self_raw:D) (s:List D×D×D×D) (d:D) (next brk:List D×D×D×D->Option D) (ret:D->Option D):Option D:=
(cmpD .Eq d S).bind fun b1=>
if b1 then ((binop .Add s.2.2.1 (D.int 1)).bind fun x2=>
(binop .Add s.2.1 (D.int 1)).bind fun x3=>
next (s.1,x3,x2,s.2.2.2)) else ((cmpD .Eq d T).bind fun b4=>
if b4 then ((binop .Add s.2.2.1 (D.int 1)).bind fun x5=>
(binop .Add s.2.2.2 (D.int 1)).bind fun x6=>
(bfn .len [(D.list s.1)]).bind fun x7=>
(cmpD .GtE s.2.1 x7).bind fun b8=>
if b8 then ((bfn .len [(D.list s.1)]).bind fun x9=>
(binop .Sub s.2.1 x9).bind fun x10=>
(binop .Add x10 (D.int 1)).bind fun x11=>
(binop .Mult (D.list [(D.int 0)]) x11).bind fun x12=>
(catQ (D.list s.1) x12).bind fun l13=>
(sub (D.list l13) s.2.1).bind fun x14=>
(binop .Add x14 (D.int 1)).bind fun x15=>
(putL l13 s.2.1 x15).bind fun l16=>
next (l16,(D.int 0),x5,x6)) else ((sub (D.list s.1) s.2.1).bind fun x17=>
(binop .Add x17 (D.int 1)).bind fun x18=>
(putL s.1 s.2.1 x18).bind fun l19=>
next (l19,(D.int 0),x5,x6))) else (brk (s.1,s.2.1,s.2.2.1,s.2.2.2)))
noncomputable def wi4 (c:D×D×D×D) (s:List D×D×D×D):List (Option Slot):=[some (.own (.obj (Z "Whitespace") [((Z "raw"),c.2.2.2)])),some (.fz c.1),some (.fz c.2.1),some (.fz c.2.2.1),some (.own (.list s.1)),some (.fz s.2.1),some (.fz s.2.2.1),some (.fz s.2.2.2),none]
noncomputable def wcJ (c:D×D×D×D) (s:List D×D×D×D):QV:=zq wgr (wi4 c s)
noncomputable def wep (q:QV):Option ((D×D×D×D)×(List D×D×D×D)):=nqK wgr q fun l=>uO (Z "Whitespace") (Z "raw") l fun self_raw l=>uF l fun v1 l=>uF l fun v2 l=>uF l fun v3 l=>uL l fun v4 l=>uF l fun v5 l=>uF l fun v6 l=>uF l fun v7 l=>uN l fun l=>uE l ((v1,v2,v3,self_raw),(v4,v5,v6,v7))
theorem wgC (q:QV) (x:((D×D×D×D)×(List D×D×D×D))) (h:wep q=some x):q=wcJ x.1 x.2:=nqE h fun l h=>by
 apply uOM h;clear h;intro self_raw l h;apply uFM h;clear h;intro v1 l h;apply uFM h;clear h;intro v2 l h;apply uFM h;clear h;intro v3 l h;apply uLM h;clear h;intro v4 l h;apply uFM h;clear h;intro v5 l h;apply uFM h;clear h;intro v6 l h;apply uFM h;clear h;intro v7 l h;apply uNM h;clear h;intro l h;apply uEM h;clear h;intro h;rw [<- h];rfl
noncomputable def wcS:Stmt:=(wbm.body.getD 4 stD)
noncomputable def wf4 (c:D×D×D×D):=was c.1 c.2.1 c.2.2.1 c.2.2.2
noncomputable def wf5:Hd:=mkF T02 (cfOf tf_0) (cmOf tm_0) 20 wbm.scope wcS wep wcJ wf4
theorem wiE:LEq tf_0 tm_0 wbm wcS [] wcJ wf4:=by
 intro c s x next brk ret
 kernel_rfl!
theorem wiF:FOk T02 0 wbm.scope wcS wf5:=wbl waN wgC wiE trivial
noncomputable def wbd (ws:D):Option D:=
(keysOf ws).bind fun l20=>
if l20.length<=cap then forS (was ws (D.str [32]) (D.str [9]) ws) l20 ([],(D.int 0),(D.int 0),(D.int 0)) (fun s21=>
(bfn .tuple [(D.list s21.1)]).bind fun x22=>
(bfn .len [(D.list s21.1)]).bind fun x23=>
(cmpD .LtE x23 (D.int 1)).bind fun b24=>
some (D.obj (Z "Whitespace") [((Z "raw"),ws),((Z "n"),s21.2.2.1),((Z "nt"),s21.2.2.2),((Z "norm"),(D.tuple [x22,s21.2.1])),((Z "is_simple"),(D.bool b24))])) (fun v_=>none) else none
noncomputable def weq (ds:List D):Option D:=a1 wbd ds
noncomputable def wdK:List Str:=[(Z "S"),(Z "T"),(Z "count"),(Z "b"),(Z "n"),(Z "nt"),(Z "ch")]
noncomputable def wdM:List (Option Hd):=[none,none,none,none,some wf5,none,none,none,none]
theorem wiU (ws:D):newQ T02 (cfOf tf_0) (cmOf tm_0) 20 (Z "Whitespace") wbm wdM wdK (Z "self") [(Z "ws")] [ws]=wbd ws:=by
 kernel_rfl!
theorem wjH:FnGood T02 (Z "Whitespace") weq 28:=
 wlM (c:=(Z "Whitespace")) (s:=weq) (n:=20) (hs:=wdM) (ls:=wdK) (d:=wbm) (ms:=clD (Z "Whitespace")) (self:=(Z "self")) (ps:=[(Z "ws")]) waN (by kernel_rfl!) (by kernel_rfl!) (by kernel_rfl!) (by kernel_rfl!) (⟨wiF,trivial⟩) (fun args r e=>a1M (M:=fun ds=>[(Z "ws")].length=ds.length/\newQ T02 (cfOf tf_0) (cmOf tm_0) 20 (Z "Whitespace") wbm wdM wdK (Z "self") [(Z "ws")] ds=some r) e fun a e=>⟨rfl,(wiU a).trans e⟩)
noncomputable def wai:Def:=((clD (Z "Whitespace")).lookup (Z "longest_run_of_spaces")).getD dumD
noncomputable def waf (self:D):Option D:=
(attrQ T02 self (Z "norm")).bind fun x1=>
wbR x1 fun count_2 trailing_3=>
(bfn .len [count_2]).bind fun x4=>
(binop .Sub x4 (D.int 1)).bind fun x5=>
(bfn .max [x5,trailing_3]).bind fun x6=>
some x6
noncomputable def waH (ds:List D):Option D:=a1 waf ds
noncomputable def waD:List Str:=[(Z "count"),(Z "trailing")]
noncomputable def waE:List (Option Hd):=[]
theorem wbX (self:D):runQ T02 (cfOf tf_0) (cmOf tm_0) 20 wai waE waD [self]=waf self:=by
 kernel_rfl!
theorem wb2:MeGood T02 (Z "Whitespace") (Z "longest_run_of_spaces") waH 28:=
 wdk (c:=(Z "Whitespace")) (f:=(Z "longest_run_of_spaces")) (s:=waH) (n:=20) (hs:=waE) (ls:=waD) (d:=wai) (ms:=clD (Z "Whitespace")) waN (by kernel_rfl!) (by kernel_rfl!) (trivial) (fun args r e=>a1M (M:=fun ds=>wai.params.length=ds.length/\runQ T02 (cfOf tf_0) (cmOf tm_0) 20 wai waE waD ds=some r) e fun a e=>⟨(by kernel_rfl!:wai.params.length=1),(wbX a).trans e⟩)
noncomputable def wae:Def:=((clD (Z "Whitespace")).lookup (Z "indent_level")).getD dumD
noncomputable def wbT:List Str:=[(Z "self"),(Z "tabsize"),(Z "count"),(Z "trailing"),(Z "il"),(Z "i")]
noncomputable def wan (self:D) (tabsize:D) (count:D) (trailing:D) (s:D) (d:D) (next brk:D->Option D) (ret:D->Option D):Option D:=
(binop .FloorDiv d tabsize).bind fun x4=>
(sub count d).bind fun x5=>
(binop .Mult x4 x5).bind fun x6=>
(binop .Add s x6).bind fun x7=>
next x7
noncomputable def wdc (c:D×D×D×D) (s:D):List (Option Slot):=[some (.fz c.1),some (.fz c.2.1),some (.fz c.2.2.1),some (.fz c.2.2.2),some (.fz s),none]
noncomputable def wa3 (c:D×D×D×D) (s:D):QV:=zq wbT (wdc c s)
noncomputable def wbE (q:QV):Option ((D×D×D×D)×(D)):=nqK wbT q fun l=>uF l fun v0 l=>uF l fun v1 l=>uF l fun v2 l=>uF l fun v3 l=>uF l fun v4 l=>uN l fun l=>uE l ((v0,v1,v2,v3),v4)
theorem wcK (q:QV) (x:((D×D×D×D)×(D))) (h:wbE q=some x):q=wa3 x.1 x.2:=nqE h fun l h=>by
 apply uFM h;clear h;intro v0 l h;apply uFM h;clear h;intro v1 l h;apply uFM h;clear h;intro v2 l h;apply uFM h;clear h;intro v3 l h;apply uFM h;clear h;intro v4 l h;apply uNM h;clear h;intro l h;apply uEM h;clear h;intro h;rw [<- h];rfl
noncomputable def wa6:Stmt:=(wae.body.getD 2 stD)
noncomputable def wbM (c:D×D×D×D):=wan c.1 c.2.1 c.2.2.1 c.2.2.2
noncomputable def wbN:Hd:=mkF T02 (cfOf tf_0) (cmOf tm_0) 20 wae.scope wa6 wbE wa3 wbM
theorem wc9:LEq tf_0 tm_0 wae wa6 [] wa3 wbM:=by
 intro c s x next brk ret
 kernel_rfl!
theorem wda:FOk T02 0 wae.scope wa6 wbN:=wbl waN wcK wc9 trivial
noncomputable def waq (self:D) (tabsize:D):Option D:=
(attrQ T02 self (Z "norm")).bind fun x1=>
wbR x1 fun count_2 trailing_3=>
(bfn .len [count_2]).bind fun x8=>
(rangeD [tabsize,x8]).bind fun l9=>
if l9.length<=cap then forS (wan self tabsize count_2 trailing_3) l9 (D.int 0) (fun s10=>
(attrQ T02 self (Z "nt")).bind fun x11=>
(binop .Add s10 x11).bind fun x12=>
(binop .Mult tabsize x12).bind fun x13=>
(binop .Add trailing_3 x13).bind fun x14=>
some x14) some else none
noncomputable def wbh (ds:List D):Option D:=a2 waq ds
noncomputable def wbe:List Str:=[(Z "count"),(Z "trailing"),(Z "il"),(Z "i")]
noncomputable def wbf:List (Option Hd):=[none,none,some wbN,none]
theorem wdb (self tabsize:D):runQ T02 (cfOf tf_0) (cmOf tm_0) 20 wae wbf wbe [self,tabsize]=waq self tabsize:=by
 kernel_rfl!
theorem wdu:MeGood T02 (Z "Whitespace") (Z "indent_level") wbh 28:=
 wdk (c:=(Z "Whitespace")) (f:=(Z "indent_level")) (s:=wbh) (n:=20) (hs:=wbf) (ls:=wbe) (d:=wae) (ms:=clD (Z "Whitespace")) waN (by kernel_rfl!) (by kernel_rfl!) (⟨wda,trivial⟩) (fun args r e=>a2M (M:=fun ds=>wae.params.length=ds.length/\runQ T02 (cfOf tf_0) (cmOf tm_0) 20 wae wbf wbe ds=some r) e fun a b e=>⟨(by kernel_rfl!:wae.params.length=2),(wdb a b).trans e⟩)
noncomputable def wba:Def:=((clD (Z "Whitespace")).lookup (Z "equal")).getD dumD
noncomputable def wa5 (self:D) (other:D):Option D:=
(attrQ T02 self (Z "norm")).bind fun x1=>
(attrQ T02 other (Z "norm")).bind fun x2=>
(cmpD .Eq x1 x2).bind fun b3=>
some (D.bool b3)
noncomputable def wcd (ds:List D):Option D:=a2 wa5 ds
noncomputable def wbY:List Str:=[]
noncomputable def wbZ:List (Option Hd):=[]
theorem weO (self other:D):runQ T02 (cfOf tf_0) (cmOf tm_0) 20 wba wbZ wbY [self,other]=wa5 self other:=by
 kernel_rfl!
theorem wf1:MeGood T02 (Z "Whitespace") (Z "equal") wcd 28:=
 wdk (c:=(Z "Whitespace")) (f:=(Z "equal")) (s:=wcd) (n:=20) (hs:=wbZ) (ls:=wbY) (d:=wba) (ms:=clD (Z "Whitespace")) waN (by kernel_rfl!) (by kernel_rfl!) (trivial) (fun args r e=>a2M (M:=fun ds=>wba.params.length=ds.length/\runQ T02 (cfOf tf_0) (cmOf tm_0) 20 wba wbZ wbY ds=some r) e fun a b e=>⟨(by kernel_rfl!:wba.params.length=2),(weO a b).trans e⟩)
noncomputable def weR:Def:=((clD (Z "TupleComp")).lookup (Z "__init__")).getD dumD
noncomputable def wcT (comp_select_list:D):Option D:=
some (D.obj (Z "TupleComp") [((Z "comp_select_list"),comp_select_list)])
noncomputable def weY (ds:List D):Option D:=a1 wcT ds
noncomputable def wei:List Str:=[]
noncomputable def wen:List (Option Hd):=[]
theorem wjo (comp_select_list:D):newQ T02 (cfOf tf_0) (cmOf tm_0) 20 (Z "TupleComp") weR wen wei (Z "self") [(Z "comp_select_list")] [comp_select_list]=wcT comp_select_list:=by
 kernel_rfl!
theorem wj7:FnGood T02 (Z "TupleComp") weY 28:=
 wlM (c:=(Z "TupleComp")) (s:=weY) (n:=20) (hs:=wen) (ls:=wei) (d:=weR) (ms:=clD (Z "TupleComp")) (self:=(Z "self")) (ps:=[(Z "comp_select_list")]) waN (by kernel_rfl!) (by kernel_rfl!) (by kernel_rfl!) (by kernel_rfl!) (trivial) (fun args r e=>a1M (M:=fun ds=>[(Z "comp_select_list")].length=ds.length/\newQ T02 (cfOf tf_0) (cmOf tm_0) 20 (Z "TupleComp") weR wen wei (Z "self") [(Z "comp_select_list")] ds=some r) e fun a e=>⟨rfl,(wjo a).trans e⟩)
noncomputable def wam:Def:=((clD (Z "TupleComp")).lookup (Z "compare")).getD dumD
noncomputable def wcZ:List Str:=[(Z "self"),(Z "left"),(Z "right"),(Z "index"),(Z "direction"),(Z "l"),(Z "r")]
noncomputable def wbL (self:D) (left:D) (right:D) (s:Unit) (d:D) (next brk:Unit->Option D) (ret:D->Option D):Option D:=
wbR d fun index_1 direction_2=>
(sub left index_1).bind fun x3=>
(sub right index_1).bind fun x4=>
(cmpD .Lt x3 x4).bind fun b5=>
if b5 then ((unop .USub direction_2).bind fun x6=>
ret x6) else ((cmpD .Gt x3 x4).bind fun b7=>
if b7 then (ret direction_2) else (next ()))
noncomputable def weu (c:D×D×D) (s:Unit):List (Option Slot):=[some (.fz c.1),some (.fz c.2.1),some (.fz c.2.2),none,none,none,none]
noncomputable def wbt (c:D×D×D) (s:Unit):QV:=zq wcZ (weu c s)
noncomputable def wci (q:QV):Option ((D×D×D)×(Unit)):=nqK wcZ q fun l=>uF l fun v0 l=>uF l fun v1 l=>uF l fun v2 l=>uN l fun l=>uN l fun l=>uN l fun l=>uN l fun l=>uE l ((v0,v1,v2),())
theorem wdN (q:QV) (x:((D×D×D)×(Unit))) (h:wci q=some x):q=wbt x.1 x.2:=nqE h fun l h=>by
 apply uFM h;clear h;intro v0 l h;apply uFM h;clear h;intro v1 l h;apply uFM h;clear h;intro v2 l h;apply uNM h;clear h;intro l h;apply uNM h;clear h;intro l h;apply uNM h;clear h;intro l h;apply uNM h;clear h;intro l h;apply uEM h;clear h;intro h;rw [<- h];rfl
noncomputable def wbB:Stmt:=(wam.body.getD 0 stD)
noncomputable def wcP (c:D×D×D):=wbL c.1 c.2.1 c.2.2
noncomputable def wcQ:Hd:=mkF T02 (cfOf tf_0) (cmOf tm_0) 20 wam.scope wbB wci wbt wcP
theorem wer:LEq tf_0 tm_0 wam wbB [] wbt wcP:=by
 intro c s x next brk ret
 kernel_rfl!
theorem wes:FOk T02 0 wam.scope wbB wcQ:=wbl waN wdN wer trivial
noncomputable def waY (self:D) (left:D) (right:D):Option D:=
(attrQ T02 self (Z "comp_select_list")).bind fun x8=>
listK x8 fun l9=>
if l9.length<=cap then forS (wbL self left right) l9 () (fun s10=>
some (D.int 0)) some else none
noncomputable def wb0 (ds:List D):Option D:=a3 waY ds
noncomputable def wbP:List Str:=[(Z "index"),(Z "direction"),(Z "l"),(Z "r")]
noncomputable def wbQ:List (Option Hd):=[some wcQ,none]
theorem wet (self left right:D):runQ T02 (cfOf tf_0) (cmOf tm_0) 20 wam wbQ wbP [self,left,right]=waY self left right:=by
 kernel_rfl!
theorem weP:MeGood T02 (Z "TupleComp") (Z "compare") wb0 28:=
 wdk (c:=(Z "TupleComp")) (f:=(Z "compare")) (s:=wb0) (n:=20) (hs:=wbQ) (ls:=wbP) (d:=wam) (ms:=clD (Z "TupleComp")) waN (by kernel_rfl!) (by kernel_rfl!) (⟨wes,trivial⟩) (fun args r e=>a3M (M:=fun ds=>wam.params.length=ds.length/\runQ T02 (cfOf tf_0) (cmOf tm_0) 20 wam wbQ wbP ds=some r) e fun a b c e=>⟨(by kernel_rfl!:wam.params.length=3),(wet a b c).trans e⟩)
noncomputable def tf_1:TF:=[((Z "add_callers"),wdQ),((Z "count_calls"),wdP),((Z "in_table_b1"),wdO),((Z "map_table_b3"),wdx),((Z "_law_word"),weU),((Z "_law_column"),wdR),((Z "Whitespace"),weq),((Z "TupleComp"),weY)]++tf_0
noncomputable def tm_1:TM:=[(((Z "Whitespace"),(Z "longest_run_of_spaces")),waH),(((Z "Whitespace"),(Z "indent_level")),wbh),(((Z "Whitespace"),(Z "equal")),wcd),(((Z "TupleComp"),(Z "compare")),wb0)]++tm_0
theorem wpY:AllF T02 28 tf_1:=⟨wi2,wi1,wi0,wiy,wj3,wi3,wjH,wj7,wtZ.mono (by decide)⟩
theorem wpW:AllM T02 28 tm_1:=⟨wb2,wdu,wf1,weP,wtX.mono (by decide)⟩
theorem wb9:CGood T02 (cfOf tf_1) (cmOf tm_1) 28:=wiq wpY wpW
noncomputable def wcA:Def:=(T02.fns.lookup (Z "_law_laid")).getD dumD
noncomputable def wbF (line:D) (row:D) (way:D):Option D:=
(wcT (D.list [(D.tuple [(D.int 1),way])])).bind fun x1=>
(unop .USub (D.int 1)).bind fun x2=>
(sub row (D.int 1)).bind fun x3=>
(binop .Add line (D.list [(D.tuple [x2,x3])])).bind fun x4=>
(keysOf x4).bind fun l5=>
if l5.length<=cap then (compQ (fun d6=>some true) (fun d6=>objK x1 fun c7 fs8=>
if mOk T02 c7 fs8 (Z "compare") then (cmOf tm_1 c7 (Z "compare") [D.obj c7 fs8,d6,row]).bind fun x9=>
some x9 else none) l5).bind fun l10=>
(keysOf line).bind fun l11=>
if l11.length<=cap then (compQ (fun d12=>some true) (fun d12=>((sub d12 (D.int 1)).bind fun x13=>
(sub row (D.int 1)).bind fun x14=>
(cmpD .Lt x13 x14).bind fun b15=>
(cmpD .Gt way (D.int 0)).bind fun b16=>
(cmpD .Is (D.bool b15) (D.bool b16)).bind fun b17=>
if b17 then ((bfn .abs [way]).bind fun x18=>
(unop .USub x18).bind fun x19=>
some x19) else ((bfn .abs [way]).bind fun x20=>
some x20)).bind fun x21=>
some x21) l11).bind fun l22=>
(binop .Add (D.list l22) (D.list [(D.int 0)])).bind fun x23=>
(keysOf (D.list l10)).bind fun l24=>
if l24.length<=cap then (compQ (fun d25=>(cmpD .Lt d25 (D.int 0)).bind fun b26=>
if b26 then (some true) else some false) (fun d25=>some (D.int 1)) l24).bind fun l27=>
(bfn .len [(D.list l27)]).bind fun x28=>
((keysOf (D.list l10)).bind fun l29=>
if l29.length<=cap then (compQ (fun d30=>some true) (fun d30=>(bfn .str [d30]).bind fun x31=>
some x31) l29).bind fun l32=>
(keysOf x23).bind fun l33=>
if l33.length<=cap then (compQ (fun d34=>some true) (fun d34=>(bfn .str [d34]).bind fun x35=>
some x35) l33).bind fun l36=>
(cmpD .Eq (D.list l32) (D.list l36)).bind fun b37=>
if b37 then (intK x28 fun i38=>
if boundOk none&&boundOk (some i38) then (cutD none (some i38) line).bind fun x39=>
(binop .Add x39 (D.list [row])).bind fun x40=>
intK x28 fun i41=>
if boundOk (some i41)&&boundOk none then (cutD (some i41) none line).bind fun x42=>
(binop .Add x40 x42).bind fun x43=>
some x43 else none else none) else (some (D.list [])) else none else none).bind fun x44=>
some x44 else none else none else none
noncomputable def weW (ds:List D):Option D:=a3 wbF ds
noncomputable def weg:List Str:=[(Z "order"),(Z "told"),(Z "due"),(Z "ahead")]
noncomputable def wel:List (Option Hd):=[]
theorem wjm (line row way:D):runQ T02 (cfOf tf_1) (cmOf tm_1) 20 wcA wel weg [line,row,way]=wbF line row way:=by
 kernel_rfl!
theorem wj5:FnGood T02 (Z "_law_laid") weW 56:=
 wbH (f:=(Z "_law_laid")) (s:=weW) (n:=20) (hs:=wel) (ls:=weg) (d:=wcA) wb9 (by kernel_rfl!) (trivial) (fun args r e=>a3M (M:=fun ds=>wcA.params.length=ds.length/\runQ T02 (cfOf tf_1) (cmOf tm_1) 20 wcA wel weg ds=some r) e fun a b c e=>⟨(by kernel_rfl!:wcA.params.length=3),(wjm a b c).trans e⟩)
noncomputable def waz:Def:=(T02.fns.lookup (Z "_law_gaps")).getD dumD
noncomputable def wcY:List Str:=[(Z "line"),(Z "length"),(Z "size"),(Z "way"),(Z "many"),(Z "a"),(Z "ka"),(Z "b"),(Z "kb"),(Z "row"),(Z "steps"),(Z "table"),(Z "told"),(Z "one"),(Z "two"),(Z "gap"),(Z "k"),(Z "past"),(Z "due"),(Z "rows"),(Z "step"),(Z "often")]
noncomputable def wbv (line:D) (length:D) (size:D) (way:D) (many:D) (a:D) (ka:D) (b:D) (kb:D) (row:D) (s:D×D×D) (d:D) (next brk:D×D×D->Option D) (ret:D->Option D):Option D:=
wbR d fun one_27 two_28=>
(sub two_28 (D.int 1)).bind fun x29=>
(sub one_27 (D.int 1)).bind fun x30=>
(binop .Sub x29 x30).bind fun x31=>
(binop .Mod x31 size).bind fun x32=>
(sub one_27 (D.int 0)).bind fun x33=>
(sub two_28 (D.int 0)).bind fun x34=>
(binop .Sub x34 x33).bind fun x35=>
((binop .Sub many ka).bind fun x36=>
(cmpD .Lt x33 x36).bind fun b37=>
if b37 then (some (D.tuple [ka,a])) else (((cmpD .GtE x33 kb).bind fun b38=>
if b38 then ((unop .USub kb).bind fun x39=>
some (D.tuple [x39,b])) else ((binop .Sub ka kb).bind fun x40=>
(binop .Add a b).bind fun x41=>
some (D.tuple [x40,x41]))).bind fun x42=>
some x42)).bind fun x43=>
(cmpD .NotEq (D.tuple [x35,x32]) x43).bind fun b44=>
if b44 then (ret (D.list [])) else ((sub two_28 (D.int 0)).bind fun x45=>
(binop .Sub x45 x33).bind fun x46=>
(toKey x46).bind fun k47=>
(waT s.1 (D.dict [(k47,(D.int 1))])).bind fun x48=>
(toKey x32).bind fun k49=>
(waT s.2.1 (D.dict [(k49,(D.tuple [(D.int 1),x32]))])).bind fun x50=>
(waS s.1).bind fun x51=>
(bfn .len [s.2.2]).bind fun x52=>
(cmpD .NotEq x51 x52).bind fun b53=>
if b53 then (ret (D.list [])) else ((binop .Add s.2.2 (D.list [x32])).bind fun x54=>
next (x48,x50,x54)))
noncomputable def wjN (c:D×D×D×D×D×D×D×D×D×D) (s:D×D×D):List (Option Slot):=[some (.fz c.1),some (.fz c.2.1),some (.fz c.2.2.1),some (.fz c.2.2.2.1),some (.fz c.2.2.2.2.1),some (.fz c.2.2.2.2.2.1),some (.fz c.2.2.2.2.2.2.1),some (.fz c.2.2.2.2.2.2.2.1),some (.fz c.2.2.2.2.2.2.2.2.1),some (.fz c.2.2.2.2.2.2.2.2.2),some (.fz s.1),some (.fz s.2.1),some (.fz s.2.2),none,none,none,none,none,none,none,none,none]
noncomputable def wc7 (c:D×D×D×D×D×D×D×D×D×D) (s:D×D×D):QV:=zq wcY (wjN c s)
noncomputable def weE (q:QV):Option ((D×D×D×D×D×D×D×D×D×D)×(D×D×D)):=nqK wcY q fun l=>uF l fun v0 l=>uF l fun v1 l=>uF l fun v2 l=>uF l fun v3 l=>uF l fun v4 l=>uF l fun v5 l=>uF l fun v6 l=>uF l fun v7 l=>uF l fun v8 l=>uF l fun v9 l=>uF l fun v10 l=>uF l fun v11 l=>uF l fun v12 l=>uN l fun l=>uN l fun l=>uN l fun l=>uN l fun l=>uN l fun l=>uN l fun l=>uN l fun l=>uN l fun l=>uN l fun l=>uE l ((v0,v1,v2,v3,v4,v5,v6,v7,v8,v9),(v10,v11,v12))
theorem whw (q:QV) (x:((D×D×D×D×D×D×D×D×D×D)×(D×D×D))) (h:weE q=some x):q=wc7 x.1 x.2:=nqE h fun l h=>by
 apply uFM h;clear h;intro v0 l h;apply uFM h;clear h;intro v1 l h;apply uFM h;clear h;intro v2 l h;apply uFM h;clear h;intro v3 l h;apply uFM h;clear h;intro v4 l h;apply uFM h;clear h;intro v5 l h;apply uFM h;clear h;intro v6 l h;apply uFM h;clear h;intro v7 l h;apply uFM h;clear h;intro v8 l h;apply uFM h;clear h;intro v9 l h;apply uFM h;clear h;intro v10 l h;apply uFM h;clear h;intro v11 l h;apply uFM h;clear h;intro v12 l h;apply uNM h;clear h;intro l h;apply uNM h;clear h;intro l h;apply uNM h;clear h;intro l h;apply uNM h;clear h;intro l h;apply uNM h;clear h;intro l h;apply uNM h;clear h;intro l h;apply uNM h;clear h;intro l h;apply uNM h;clear h;intro l h;apply uNM h;clear h;intro l h;apply uEM h;clear h;intro h;rw [<- h];rfl
noncomputable def wdi:Stmt:=(waz.body.getD 5 stD)
noncomputable def wgx (c:D×D×D×D×D×D×D×D×D×D):=wbv c.1 c.2.1 c.2.2.1 c.2.2.2.1 c.2.2.2.2.1 c.2.2.2.2.2.1 c.2.2.2.2.2.2.1 c.2.2.2.2.2.2.2.1 c.2.2.2.2.2.2.2.2.1 c.2.2.2.2.2.2.2.2.2
noncomputable def wgB:Hd:=mkF T02 (cfOf tf_1) (cmOf tm_1) 20 waz.scope wdi weE wc7 wgx
theorem wjd:LEq tf_1 tm_1 waz wdi [] wc7 wgx:=by
 intro c s x next brk ret
 kernel_rfl!
theorem wjh:FOk T02 28 waz.scope wdi wgB:=wbl wb9 whw wjd trivial
noncomputable def wdS (line:D) (length:D) (size:D) (way:D) (many:D) (a:D) (ka:D) (b:D) (kb:D) (row:D) (steps:D) (table:D) (told:D) (rows:D) (s:(List (Key×D))) (d:D) (next brk:(List (Key×D))->Option D) (ret:D->Option D):Option D:=
wgD d fun step_67 gap_68 often_69=>
dictK (D.dict s) fun t70=>
(mfn (D.dict t70) .get [gap_68,(D.int 0)]).bind fun x71=>
(binop .Add x71 often_69).bind fun x72=>
(putM s gap_68 x72).bind fun m73=>
next m73
noncomputable def wjM (c:D×D×D×D×D×D×D×D×D×D×D×D×D×D) (s:(List (Key×D))):List (Option Slot):=[some (.fz c.1),some (.fz c.2.1),some (.fz c.2.2.1),some (.fz c.2.2.2.1),some (.fz c.2.2.2.2.1),some (.fz c.2.2.2.2.2.1),some (.fz c.2.2.2.2.2.2.1),some (.fz c.2.2.2.2.2.2.2.1),some (.fz c.2.2.2.2.2.2.2.2.1),some (.fz c.2.2.2.2.2.2.2.2.2.1),some (.fz c.2.2.2.2.2.2.2.2.2.2.1),some (.fz c.2.2.2.2.2.2.2.2.2.2.2.1),some (.fz c.2.2.2.2.2.2.2.2.2.2.2.2.1),none,none,none,none,none,some (.own (.dict s)),some (.fz c.2.2.2.2.2.2.2.2.2.2.2.2.2),none,none]
noncomputable def wc6 (c:D×D×D×D×D×D×D×D×D×D×D×D×D×D) (s:(List (Key×D))):QV:=zq wcY (wjM c s)
noncomputable def weD (q:QV):Option ((D×D×D×D×D×D×D×D×D×D×D×D×D×D)×((List (Key×D)))):=nqK wcY q fun l=>uF l fun v0 l=>uF l fun v1 l=>uF l fun v2 l=>uF l fun v3 l=>uF l fun v4 l=>uF l fun v5 l=>uF l fun v6 l=>uF l fun v7 l=>uF l fun v8 l=>uF l fun v9 l=>uF l fun v10 l=>uF l fun v11 l=>uF l fun v12 l=>uN l fun l=>uN l fun l=>uN l fun l=>uN l fun l=>uN l fun l=>uM l fun v18 l=>uF l fun v19 l=>uN l fun l=>uN l fun l=>uE l ((v0,v1,v2,v3,v4,v5,v6,v7,v8,v9,v10,v11,v12,v19),v18)
theorem whv (q:QV) (x:((D×D×D×D×D×D×D×D×D×D×D×D×D×D)×((List (Key×D))))) (h:weD q=some x):q=wc6 x.1 x.2:=nqE h fun l h=>by
 apply uFM h;clear h;intro v0 l h;apply uFM h;clear h;intro v1 l h;apply uFM h;clear h;intro v2 l h;apply uFM h;clear h;intro v3 l h;apply uFM h;clear h;intro v4 l h;apply uFM h;clear h;intro v5 l h;apply uFM h;clear h;intro v6 l h;apply uFM h;clear h;intro v7 l h;apply uFM h;clear h;intro v8 l h;apply uFM h;clear h;intro v9 l h;apply uFM h;clear h;intro v10 l h;apply uFM h;clear h;intro v11 l h;apply uFM h;clear h;intro v12 l h;apply uNM h;clear h;intro l h;apply uNM h;clear h;intro l h;apply uNM h;clear h;intro l h;apply uNM h;clear h;intro l h;apply uNM h;clear h;intro l h;apply uMM h;clear h;intro v18 l h;apply uFM h;clear h;intro v19 l h;apply uNM h;clear h;intro l h;apply uNM h;clear h;intro l h;apply uEM h;clear h;intro h;rw [<- h];rfl
noncomputable def wdh:Stmt:=(waz.body.getD 7 stD)
noncomputable def wgw (c:D×D×D×D×D×D×D×D×D×D×D×D×D×D):=wdS c.1 c.2.1 c.2.2.1 c.2.2.2.1 c.2.2.2.2.1 c.2.2.2.2.2.1 c.2.2.2.2.2.2.1 c.2.2.2.2.2.2.2.1 c.2.2.2.2.2.2.2.2.1 c.2.2.2.2.2.2.2.2.2.1 c.2.2.2.2.2.2.2.2.2.2.1 c.2.2.2.2.2.2.2.2.2.2.2.1 c.2.2.2.2.2.2.2.2.2.2.2.2.1 c.2.2.2.2.2.2.2.2.2.2.2.2.2
noncomputable def wgA:Hd:=mkF T02 (cfOf tf_1) (cmOf tm_1) 20 waz.scope wdh weD wc6 wgw
theorem wjc:LEq tf_1 tm_1 waz wdh [] wc6 wgw:=by
 intro c s x next brk ret
 kernel_rfl!
theorem wjg:FOk T02 28 waz.scope wdh wgA:=wbl wb9 whv wjc trivial
noncomputable def wbG (line:D) (length:D) (size:D) (way:D):Option D:=
(bfn .len [line]).bind fun x1=>
(rangeD [(D.int 1),x1]).bind fun l2=>
if l2.length<=cap then (compQ (fun d3=>some true) (fun d3=>(binop .Mult d3 length).bind fun x4=>
(binop .Mod x4 size).bind fun x5=>
some (D.tuple [x5,d3])) l2).bind fun l6=>
(bfn .min [(D.list l6)]).bind fun x7=>
wbR x7 fun a_8 ka_9=>
(rangeD [(D.int 1),x1]).bind fun l10=>
if l10.length<=cap then (compQ (fun d11=>some true) (fun d11=>(unop .USub d11).bind fun x12=>
(binop .Mult x12 length).bind fun x13=>
(binop .Mod x13 size).bind fun x14=>
some (D.tuple [x14,d11])) l10).bind fun l15=>
(bfn .min [(D.list l15)]).bind fun x16=>
wbR x16 fun b_17 kb_18=>
((cmpD .Gt way (D.int 0)).bind fun b19=>
if b19 then (some line) else ((binop .Add x1 (D.int 1)).bind fun x20=>
(rangeD [(D.int 1),x20]).bind fun l21=>
if l21.length<=cap then (compQ (fun d22=>some true) (fun d22=>(unop .USub d22).bind fun x23=>
(sub line x23).bind fun x24=>
some x24) l21).bind fun l25=>
some (D.list l25) else none)).bind fun x26=>
if boundOk (some 1)&&boundOk none then (cutD (some 1) none x26).bind fun x55=>
if boundOk none&&boundOk (some 1) then (cutD none (some 1) x26).bind fun x56=>
(binop .Add x55 x56).bind fun x57=>
(zipQ [x26,x57]).bind fun l58=>
if l58.length<=cap then forS (wbv line length size way x1 a_8 ka_9 b_17 kb_18 x26) l58 ((D.dict []),(D.dict []),(D.list [])) (fun s59=>
(binop .Sub x1 ka_9).bind fun x60=>
(unop .USub kb_18).bind fun x61=>
(binop .Sub x1 kb_18).bind fun x62=>
(binop .Sub ka_9 kb_18).bind fun x63=>
(binop .Add a_8 b_17).bind fun x64=>
(binop .Add ka_9 kb_18).bind fun x65=>
(binop .Sub x65 x1).bind fun x66=>
if [(D.tuple [ka_9,a_8,x60]),(D.tuple [x61,b_17,x62]),(D.tuple [x63,x64,x66])].length<=cap then forS (wdS line length size way x1 a_8 ka_9 b_17 kb_18 x26 s59.1 s59.2.1 s59.2.2 (D.list [(D.tuple [ka_9,a_8,x60]),(D.tuple [x61,b_17,x62]),(D.tuple [x63,x64,x66])])) [(D.tuple [ka_9,a_8,x60]),(D.tuple [x61,b_17,x62]),(D.tuple [x63,x64,x66])] [] (fun s74=>
(if [(D.tuple [ka_9,a_8,x60]),(D.tuple [x61,b_17,x62]),(D.tuple [x63,x64,x66])].length<=cap then (compDQ (fun d75=>wgD d75 fun step_76 gap_77 often_78=>
(cmpD .Gt often_78 (D.int 0)).bind fun b79=>
if b79 then (some true) else some false) (fun d75=>wgD d75 fun step_80 gap_81 often_82=>
(toKey step_80).bind fun k83=>
some (k83,often_82)) [(D.tuple [ka_9,a_8,x60]),(D.tuple [x61,b_17,x62]),(D.tuple [x63,x64,x66])] []).bind fun l84=>
(cmpD .NotEq s59.1 (D.dict l84)).bind fun b85=>
if b85 then some true else ((waS s59.1).bind fun x86=>
(cmpD .NotEq x86 x1).bind fun b87=>
if b87 then some true else (some false)) else none).bind fun b88=>
if b88 then (some (D.list [])) else (((keysOf (D.dict s74)).bind fun l89=>
if l89.length<=cap then (compDQ (fun d90=>(sub (D.dict s74) d90).bind fun x91=>
(cmpD .Gt x91 (D.int 0)).bind fun b92=>
if b92 then (some true) else some false) (fun d90=>(toKey d90).bind fun k93=>
(sub (D.dict s74) d90).bind fun x94=>
(sub (D.dict s74) d90).bind fun x95=>
(binop .Mult x95 d90).bind fun x96=>
some (k93,(D.tuple [x94,x96]))) l89 []).bind fun l97=>
(cmpD .Eq s59.2.1 (D.dict l97)).bind fun b98=>
if b98 then (some s59.2.2) else (some (D.list [])) else none).bind fun x99=>
some x99)) some else none) some else none else none else none else none else none
noncomputable def weX (ds:List D):Option D:=a4 wbG ds
noncomputable def weh:List Str:=[(Z "many"),(Z "a"),(Z "ka"),(Z "b"),(Z "kb"),(Z "row"),(Z "steps"),(Z "table"),(Z "told"),(Z "one"),(Z "two"),(Z "gap"),(Z "k"),(Z "past"),(Z "due"),(Z "rows"),(Z "step"),(Z "often")]
noncomputable def wem:List (Option Hd):=[none,none,none,none,none,some wgB,none,some wgA,none,none]
theorem wjn (line length size way:D):runQ T02 (cfOf tf_1) (cmOf tm_1) 20 waz wem weh [line,length,size,way]=wbG line length size way:=by
 kernel_rfl!
theorem wj6:FnGood T02 (Z "_law_gaps") weX 56:=
 wbH (f:=(Z "_law_gaps")) (s:=weX) (n:=20) (hs:=wem) (ls:=weh) (d:=waz) wb9 (by kernel_rfl!) (⟨wjh,wjg,trivial⟩) (fun args r e=>a4M (M:=fun ds=>waz.params.length=ds.length/\runQ T02 (cfOf tf_1) (cmOf tm_1) 20 waz wem weh ds=some r) e fun a b c d e=>⟨(by kernel_rfl!:waz.params.length=4),(wjn a b c d).trans e⟩)
noncomputable def wcz:Def:=(T02.fns.lookup (Z "_law_lead")).getD dumD
noncomputable def wah (gaps:D) (behind:D):Option D:=
strK (D.str []) fun t1=>
(keysOf gaps).bind fun l2=>
if l2.length<=cap then (compQ (fun d3=>some true) (fun d3=>(binop .Mult (D.str [32]) d3).bind fun x4=>
(binop .Add x4 (D.str [9])).bind fun x5=>
some x5) l2).bind fun l6=>
(mfn (D.str t1) .join [(D.list l6)]).bind fun x7=>
(binop .Add x7 behind).bind fun x8=>
(binop .Add x8 (D.str [120,9,32])).bind fun x9=>
(wbd x9).bind fun x10=>
some x10 else none
noncomputable def weV (ds:List D):Option D:=a2 wah ds
noncomputable def wef:List Str:=[]
noncomputable def wek:List (Option Hd):=[]
theorem wjl (gaps behind:D):runQ T02 (cfOf tf_1) (cmOf tm_1) 20 wcz wek wef [gaps,behind]=wah gaps behind:=by
 kernel_rfl!
theorem wj4:FnGood T02 (Z "_law_lead") weV 56:=
 wbH (f:=(Z "_law_lead")) (s:=weV) (n:=20) (hs:=wek) (ls:=wef) (d:=wcz) wb9 (by kernel_rfl!) (trivial) (fun args r e=>a2M (M:=fun ds=>wcz.params.length=ds.length/\runQ T02 (cfOf tf_1) (cmOf tm_1) 20 wcz wek wef ds=some r) e fun a b e=>⟨(by kernel_rfl!:wcz.params.length=2),(wjl a b).trans e⟩)
noncomputable def wac:Def:=((clD (Z "Whitespace")).lookup (Z "not_equal_witness")).getD dumD
noncomputable def wbq:List Str:=[(Z "self"),(Z "other"),(Z "n"),(Z "a"),(Z "ts")]
noncomputable def wal (self:D) (other:D) (n:D) (s:List D) (d:D) (next brk:List D->Option D) (ret:D->Option D):Option D:=
objK self fun c9 fs10=>
if mOk T02 c9 fs10 (Z "indent_level") then (cmOf tm_1 c9 (Z "indent_level") [D.obj c9 fs10,d]).bind fun x11=>
objK other fun c12 fs13=>
if mOk T02 c12 fs13 (Z "indent_level") then (cmOf tm_1 c12 (Z "indent_level") [D.obj c12 fs13,d]).bind fun x14=>
(cmpD .NotEq x11 x14).bind fun b15=>
if b15 then (objK self fun c16 fs17=>
if mOk T02 c16 fs17 (Z "indent_level") then (cmOf tm_1 c16 (Z "indent_level") [D.obj c16 fs17,d]).bind fun x18=>
objK other fun c19 fs20=>
if mOk T02 c19 fs20 (Z "indent_level") then (cmOf tm_1 c19 (Z "indent_level") [D.obj c19 fs20,d]).bind fun x21=>
if s.length<=cap then next (s++[(D.tuple [d,x18,x21])]) else none else none else none) else (next s) else none else none
noncomputable def wcl (c:D×D×D) (s:List D):List (Option Slot):=[some (.fz c.1),some (.fz c.2.1),some (.fz c.2.2),some (.own (.list s)),none]
noncomputable def waG (c:D×D×D) (s:List D):QV:=zq wbq (wcl c s)
noncomputable def wbg (q:QV):Option ((D×D×D)×(List D)):=nqK wbq q fun l=>uF l fun v0 l=>uF l fun v1 l=>uF l fun v2 l=>uL l fun v3 l=>uN l fun l=>uE l ((v0,v1,v2),v3)
theorem wb3 (q:QV) (x:((D×D×D)×(List D))) (h:wbg q=some x):q=waG x.1 x.2:=nqE h fun l h=>by
 apply uFM h;clear h;intro v0 l h;apply uFM h;clear h;intro v1 l h;apply uFM h;clear h;intro v2 l h;apply uLM h;clear h;intro v3 l h;apply uNM h;clear h;intro l h;apply uEM h;clear h;intro h;rw [<- h];rfl
noncomputable def waL:Stmt:=(wac.body.getD 2 stD)
noncomputable def wbn (c:D×D×D):=wal c.1 c.2.1 c.2.2
noncomputable def wbo:Hd:=mkF T02 (cfOf tf_1) (cmOf tm_1) 20 wac.scope waL wbg waG wbn
theorem wcg:LEq tf_1 tm_1 wac waL [] waG wbn:=by
 intro c s x next brk ret
 kernel_rfl!
theorem wch:FOk T02 28 wac.scope waL wbo:=wbl wb9 wb3 wcg trivial
noncomputable def wao (self:D) (other:D):Option D:=
objK self fun c1 fs2=>
if mOk T02 c1 fs2 (Z "longest_run_of_spaces") then (cmOf tm_1 c1 (Z "longest_run_of_spaces") [D.obj c1 fs2]).bind fun x3=>
objK other fun c4 fs5=>
if mOk T02 c4 fs5 (Z "longest_run_of_spaces") then (cmOf tm_1 c4 (Z "longest_run_of_spaces") [D.obj c4 fs5]).bind fun x6=>
(bfn .max [x3,x6]).bind fun x7=>
(binop .Add x7 (D.int 1)).bind fun x8=>
(binop .Add x8 (D.int 1)).bind fun x22=>
(rangeD [(D.int 1),x22]).bind fun l23=>
if l23.length<=cap then forS (wal self other x8) l23 [] (fun s24=>
some (D.list s24)) some else none else none else none
noncomputable def wa1 (ds:List D):Option D:=a2 wao ds
noncomputable def waV:List Str:=[(Z "n"),(Z "a"),(Z "ts")]
noncomputable def waW:List (Option Hd):=[none,none,some wbo,none]
theorem wck (self other:D):runQ T02 (cfOf tf_1) (cmOf tm_1) 20 wac waW waV [self,other]=wao self other:=by
 kernel_rfl!
theorem wcx:MeGood T02 (Z "Whitespace") (Z "not_equal_witness") wa1 56:=
 wdk (c:=(Z "Whitespace")) (f:=(Z "not_equal_witness")) (s:=wa1) (n:=20) (hs:=waW) (ls:=waV) (d:=wac) (ms:=clD (Z "Whitespace")) wb9 (by kernel_rfl!) (by kernel_rfl!) (⟨wch,trivial⟩) (fun args r e=>a2M (M:=fun ds=>wac.params.length=ds.length/\runQ T02 (cfOf tf_1) (cmOf tm_1) 20 wac waW waV ds=some r) e fun a b e=>⟨(by kernel_rfl!:wac.params.length=2),(wck a b).trans e⟩)
noncomputable def wau:Def:=((clD (Z "Whitespace")).lookup (Z "less")).getD dumD
noncomputable def wdG:List Str:=[(Z "self"),(Z "other"),(Z "n"),(Z "ts")]
noncomputable def waK (self:D) (other:D) (n:D) (s:Unit) (d:D) (next brk:Unit->Option D) (ret:D->Option D):Option D:=
objK self fun c20 fs21=>
if mOk T02 c20 fs21 (Z "indent_level") then (cmOf tm_1 c20 (Z "indent_level") [D.obj c20 fs21,d]).bind fun x22=>
objK other fun c23 fs24=>
if mOk T02 c23 fs24 (Z "indent_level") then (cmOf tm_1 c23 (Z "indent_level") [D.obj c23 fs24,d]).bind fun x25=>
(cmpD .GtE x22 x25).bind fun b26=>
if b26 then (ret (D.bool false)) else (next ()) else none else none
noncomputable def wf2 (c:D×D×D) (s:Unit):List (Option Slot):=[some (.fz c.1),some (.fz c.2.1),some (.fz c.2.2),none]
noncomputable def wbI (c:D×D×D) (s:Unit):QV:=zq wdG (wf2 c s)
noncomputable def wcM (q:QV):Option ((D×D×D)×(Unit)):=nqK wdG q fun l=>uF l fun v0 l=>uF l fun v1 l=>uF l fun v2 l=>uN l fun l=>uE l ((v0,v1,v2),())
theorem weo (q:QV) (x:((D×D×D)×(Unit))) (h:wcM q=some x):q=wbI x.1 x.2:=nqE h fun l h=>by
 apply uFM h;clear h;intro v0 l h;apply uFM h;clear h;intro v1 l h;apply uFM h;clear h;intro v2 l h;apply uNM h;clear h;intro l h;apply uEM h;clear h;intro h;rw [<- h];rfl
noncomputable def wbO:Stmt:=(wau.body.getD 3 stD)
noncomputable def wdd (c:D×D×D):=waK c.1 c.2.1 c.2.2
noncomputable def wde:Hd:=mkF T02 (cfOf tf_1) (cmOf tm_1) 20 wau.scope wbO wcM wbI wdd
theorem weZ:LEq tf_1 tm_1 wau wbO [] wbI wdd:=by
 intro c s x next brk ret
 kernel_rfl!
theorem we0:FOk T02 28 wau.scope wbO wde:=wbl wb9 weo weZ trivial
noncomputable def wa9 (self:D) (other:D):Option D:=
(attrQ T02 self (Z "n")).bind fun x1=>
(attrQ T02 other (Z "n")).bind fun x2=>
(cmpD .GtE x1 x2).bind fun b3=>
if b3 then (some (D.bool false)) else (((attrQ T02 self (Z "is_simple")).bind fun x4=>
boolK x4 fun b5=>
if b5 then ((attrQ T02 other (Z "is_simple")).bind fun x6=>
boolK x6 fun b7=>
if b7 then (some true) else some false) else some false).bind fun b8=>
if b8 then ((attrQ T02 self (Z "nt")).bind fun x9=>
(attrQ T02 other (Z "nt")).bind fun x10=>
(cmpD .LtE x9 x10).bind fun b11=>
some (D.bool b11)) else (objK self fun c12 fs13=>
if mOk T02 c12 fs13 (Z "longest_run_of_spaces") then (cmOf tm_1 c12 (Z "longest_run_of_spaces") [D.obj c12 fs13]).bind fun x14=>
objK other fun c15 fs16=>
if mOk T02 c15 fs16 (Z "longest_run_of_spaces") then (cmOf tm_1 c15 (Z "longest_run_of_spaces") [D.obj c15 fs16]).bind fun x17=>
(bfn .max [x14,x17]).bind fun x18=>
(binop .Add x18 (D.int 1)).bind fun x19=>
(binop .Add x19 (D.int 1)).bind fun x27=>
(rangeD [(D.int 2),x27]).bind fun l28=>
if l28.length<=cap then forS (waK self other x19) l28 () (fun s29=>
some (D.bool true)) some else none else none else none))
noncomputable def wcq (ds:List D):Option D:=a2 wa9 ds
noncomputable def wb7:List Str:=[(Z "n"),(Z "ts")]
noncomputable def wb8:List (Option Hd):=[none,none,none,some wde,none]
theorem we2 (self other:D):runQ T02 (cfOf tf_1) (cmOf tm_1) 20 wau wb8 wb7 [self,other]=wa9 self other:=by
 kernel_rfl!
theorem wgf:MeGood T02 (Z "Whitespace") (Z "less") wcq 56:=
 wdk (c:=(Z "Whitespace")) (f:=(Z "less")) (s:=wcq) (n:=20) (hs:=wb8) (ls:=wb7) (d:=wau) (ms:=clD (Z "Whitespace")) wb9 (by kernel_rfl!) (by kernel_rfl!) (⟨we0,trivial⟩) (fun args r e=>a2M (M:=fun ds=>wau.params.length=ds.length/\runQ T02 (cfOf tf_1) (cmOf tm_1) 20 wau wb8 wb7 ds=some r) e fun a b e=>⟨(by kernel_rfl!:wau.params.length=2),(we2 a b).trans e⟩)
noncomputable def wad:Def:=((clD (Z "Whitespace")).lookup (Z "not_less_witness")).getD dumD
noncomputable def wbw:List Str:=[(Z "self"),(Z "other"),(Z "n"),(Z "a"),(Z "ts")]
noncomputable def wap (self:D) (other:D) (n:D) (s:List D) (d:D) (next brk:List D->Option D) (ret:D->Option D):Option D:=
objK self fun c9 fs10=>
if mOk T02 c9 fs10 (Z "indent_level") then (cmOf tm_1 c9 (Z "indent_level") [D.obj c9 fs10,d]).bind fun x11=>
objK other fun c12 fs13=>
if mOk T02 c12 fs13 (Z "indent_level") then (cmOf tm_1 c12 (Z "indent_level") [D.obj c12 fs13,d]).bind fun x14=>
(cmpD .GtE x11 x14).bind fun b15=>
if b15 then (objK self fun c16 fs17=>
if mOk T02 c16 fs17 (Z "indent_level") then (cmOf tm_1 c16 (Z "indent_level") [D.obj c16 fs17,d]).bind fun x18=>
objK other fun c19 fs20=>
if mOk T02 c19 fs20 (Z "indent_level") then (cmOf tm_1 c19 (Z "indent_level") [D.obj c19 fs20,d]).bind fun x21=>
if s.length<=cap then next (s++[(D.tuple [d,x18,x21])]) else none else none else none) else (next s) else none else none
noncomputable def wcy (c:D×D×D) (s:List D):List (Option Slot):=[some (.fz c.1),some (.fz c.2.1),some (.fz c.2.2),some (.own (.list s)),none]
noncomputable def waO (c:D×D×D) (s:List D):QV:=zq wbw (wcy c s)
noncomputable def wbi (q:QV):Option ((D×D×D)×(List D)):=nqK wbw q fun l=>uF l fun v0 l=>uF l fun v1 l=>uF l fun v2 l=>uL l fun v3 l=>uN l fun l=>uE l ((v0,v1,v2),v3)
theorem wca (q:QV) (x:((D×D×D)×(List D))) (h:wbi q=some x):q=waO x.1 x.2:=nqE h fun l h=>by
 apply uFM h;clear h;intro v0 l h;apply uFM h;clear h;intro v1 l h;apply uFM h;clear h;intro v2 l h;apply uLM h;clear h;intro v3 l h;apply uNM h;clear h;intro l h;apply uEM h;clear h;intro h;rw [<- h];rfl
noncomputable def waR:Stmt:=(wad.body.getD 2 stD)
noncomputable def wbr (c:D×D×D):=wap c.1 c.2.1 c.2.2
noncomputable def wbs:Hd:=mkF T02 (cfOf tf_1) (cmOf tm_1) 20 wad.scope waR wbi waO wbr
theorem wcr:LEq tf_1 tm_1 wad waR [] waO wbr:=by
 intro c s x next brk ret
 kernel_rfl!
theorem wcs:FOk T02 28 wad.scope waR wbs:=wbl wb9 wca wcr trivial
noncomputable def wat (self:D) (other:D):Option D:=
objK self fun c1 fs2=>
if mOk T02 c1 fs2 (Z "longest_run_of_spaces") then (cmOf tm_1 c1 (Z "longest_run_of_spaces") [D.obj c1 fs2]).bind fun x3=>
objK other fun c4 fs5=>
if mOk T02 c4 fs5 (Z "longest_run_of_spaces") then (cmOf tm_1 c4 (Z "longest_run_of_spaces") [D.obj c4 fs5]).bind fun x6=>
(bfn .max [x3,x6]).bind fun x7=>
(binop .Add x7 (D.int 1)).bind fun x8=>
(binop .Add x8 (D.int 1)).bind fun x22=>
(rangeD [(D.int 1),x22]).bind fun l23=>
if l23.length<=cap then forS (wap self other x8) l23 [] (fun s24=>
some (D.list s24)) some else none else none else none
noncomputable def wa4 (ds:List D):Option D:=a2 wat ds
noncomputable def waZ:List Str:=[(Z "n"),(Z "a"),(Z "ts")]
noncomputable def wa0:List (Option Hd):=[none,none,some wbs,none]
theorem wct (self other:D):runQ T02 (cfOf tf_1) (cmOf tm_1) 20 wad wa0 waZ [self,other]=wat self other:=by
 kernel_rfl!
theorem wcI:MeGood T02 (Z "Whitespace") (Z "not_less_witness") wa4 56:=
 wdk (c:=(Z "Whitespace")) (f:=(Z "not_less_witness")) (s:=wa4) (n:=20) (hs:=wa0) (ls:=waZ) (d:=wad) (ms:=clD (Z "Whitespace")) wb9 (by kernel_rfl!) (by kernel_rfl!) (⟨wcs,trivial⟩) (fun args r e=>a2M (M:=fun ds=>wad.params.length=ds.length/\runQ T02 (cfOf tf_1) (cmOf tm_1) 20 wad wa0 waZ ds=some r) e fun a b e=>⟨(by kernel_rfl!:wad.params.length=2),(wct a b).trans e⟩)
noncomputable def tf_2:TF:=[((Z "_law_laid"),weW),((Z "_law_gaps"),weX),((Z "_law_lead"),weV)]++tf_1
noncomputable def tm_2:TM:=[(((Z "Whitespace"),(Z "not_equal_witness")),wa1),(((Z "Whitespace"),(Z "less")),wcq),(((Z "Whitespace"),(Z "not_less_witness")),wa4)]++tm_1
theorem wpX:AllF T02 56 tf_2:=⟨wj5,wj6,wj4,wpY.mono (by decide)⟩
theorem wpV:AllM T02 56 tm_2:=⟨wcx,wgf,wcI,wpW.mono (by decide)⟩
theorem wti:CGood T02 (cfOf tf_2) (cmOf tm_2) 56:=wiq wpX wpV
noncomputable def wbK:Def:=(T02.fns.lookup (Z "_law_written")).getD dumD
noncomputable def wbc (gaps:D):Option D:=
(wah gaps (D.str [])).bind fun x1=>
(unop .USub (D.int 1)).bind fun x2=>
intK x2 fun i3=>
if boundOk none&&boundOk (some i3) then (cutD none (some i3) gaps).bind fun x4=>
(unop .USub (D.int 1)).bind fun x5=>
(sub gaps x5).bind fun x6=>
(binop .Add x6 (D.int 1)).bind fun x7=>
(binop .Add x4 (D.list [x7])).bind fun x8=>
(unop .USub (D.int 1)).bind fun x9=>
(sub gaps x9).bind fun x10=>
((attrQ T02 x1 (Z "norm")).bind fun x11=>
(bfn .max [gaps]).bind fun x12=>
(binop .Add x12 (D.int 1)).bind fun x13=>
(rangeD [x13]).bind fun l14=>
if l14.length<=cap then (compQ (fun d15=>some true) (fun d15=>(keysOf gaps).bind fun l16=>
if l16.length<=cap then (compQ (fun d17=>(cmpD .Eq d17 d15).bind fun b18=>
if b18 then (some true) else some false) (fun d17=>some (D.int 1)) l16).bind fun l19=>
(bfn .len [(D.list l19)]).bind fun x20=>
some x20 else none) l14).bind fun l21=>
(bfn .tuple [(D.list l21)]).bind fun x22=>
(cmpD .NotEq x11 (D.tuple [x22,(D.int 0)])).bind fun b23=>
if b23 then some true else (objK x1 fun c24 fs25=>
if mOk T02 c24 fs25 (Z "longest_run_of_spaces") then (cmOf tm_2 c24 (Z "longest_run_of_spaces") [D.obj c24 fs25]).bind fun x26=>
(bfn .max [gaps]).bind fun x27=>
(cmpD .NotEq x26 x27).bind fun b28=>
if b28 then some true else (some false) else none) else none).bind fun b29=>
if b29 then (some (D.bool false)) else ((objK x1 fun c30 fs31=>
if mOk T02 c30 fs31 (Z "equal") then (bfn .len [gaps]).bind fun x32=>
(binop .Add x32 (D.int 1)).bind fun x33=>
(rangeD [(D.int 1),x33]).bind fun l34=>
if l34.length<=cap then (compQ (fun d35=>some true) (fun d35=>(unop .USub d35).bind fun x36=>
(sub gaps x36).bind fun x37=>
some x37) l34).bind fun l38=>
(wah (D.list l38) (D.str [])).bind fun x39=>
(cmOf tm_2 c30 (Z "equal") [D.obj c30 fs31,x39]).bind fun x40=>
(cmpD .IsNot x40 (D.bool true)).bind fun b41=>
if b41 then some true else (objK x1 fun c42 fs43=>
if mOk T02 c42 fs43 (Z "equal") then (wah x8 (D.str [])).bind fun x44=>
(cmOf tm_2 c42 (Z "equal") [D.obj c42 fs43,x44]).bind fun x45=>
(cmpD .IsNot x45 (D.bool false)).bind fun b46=>
if b46 then some true else (some false) else none) else none else none).bind fun b47=>
if b47 then (some (D.bool false)) else ((bfn .max [x8]).bind fun x48=>
(binop .Add x48 (D.int 2)).bind fun x49=>
(rangeD [(D.int 1),x49]).bind fun l50=>
if l50.length<=cap then (compQ (fun d51=>(unop .USub (D.int 1)).bind fun x52=>
(sub x8 x52).bind fun x53=>
(binop .Mod x53 d51).bind fun x54=>
(cmpD .Eq x54 (D.int 0)).bind fun b55=>
if b55 then (some true) else some false) (fun d51=>(waj gaps d51).bind fun x56=>
(waj x8 d51).bind fun x57=>
some (D.tuple [d51,x56,x57])) l50).bind fun l58=>
objK x1 fun c59 fs60=>
if mOk T02 c59 fs60 (Z "not_equal_witness") then (wah x8 (D.str [])).bind fun x61=>
(cmOf tm_2 c59 (Z "not_equal_witness") [D.obj c59 fs60,x61]).bind fun x62=>
(cmpD .NotEq x62 (D.list l58)).bind fun b63=>
if b63 then (some (D.bool false)) else ((bfn .max [gaps]).bind fun x64=>
(binop .Add x64 (D.int 2)).bind fun x65=>
(rangeD [(D.int 1),x65]).bind fun l66=>
if l66.length<=cap then (compQ (fun d67=>some true) (fun d67=>(waj gaps d67).bind fun x68=>
(waj gaps d67).bind fun x69=>
(binop .Add x69 (D.int 1)).bind fun x70=>
some (D.tuple [d67,x68,x70])) l66).bind fun l71=>
(objK x1 fun c72 fs73=>
if mOk T02 c72 fs73 (Z "not_equal_witness") then (wah gaps (D.str [32])).bind fun x74=>
(cmOf tm_2 c72 (Z "not_equal_witness") [D.obj c72 fs73,x74]).bind fun x75=>
(cmpD .NotEq x75 (D.list l71)).bind fun b76=>
if b76 then some true else (objK x1 fun c77 fs78=>
if mOk T02 c77 fs78 (Z "less") then (wah gaps (D.str [32])).bind fun x79=>
(cmOf tm_2 c77 (Z "less") [D.obj c77 fs78,x79]).bind fun x80=>
(cmpD .IsNot x80 (D.bool true)).bind fun b81=>
if b81 then some true else ((wah gaps (D.str [32])).bind fun x82=>
objK x82 fun c83 fs84=>
if mOk T02 c83 fs84 (Z "less") then (cmOf tm_2 c83 (Z "less") [D.obj c83 fs84,x1]).bind fun x85=>
(cmpD .IsNot x85 (D.bool false)).bind fun b86=>
if b86 then some true else (some false) else none) else none) else none).bind fun b87=>
if b87 then (some (D.bool false)) else ((unop .USub (D.int 1)).bind fun x88=>
intK x88 fun i89=>
if boundOk none&&boundOk (some i89) then (cutD none (some i89) gaps).bind fun x90=>
(binop .Add x10 (D.int 2)).bind fun x91=>
(binop .Mult (D.str [32]) x91).bind fun x92=>
(wah x90 x92).bind fun x93=>
(binop .Add x10 (D.int 2)).bind fun x94=>
(binop .Add gaps (D.list [x94])).bind fun x95=>
(bfn .max [x95]).bind fun x96=>
(binop .Add x96 (D.int 2)).bind fun x97=>
(rangeD [(D.int 1),x97]).bind fun l98=>
if l98.length<=cap then (compQ (fun d99=>(binop .Add x10 (D.int 1)).bind fun x100=>
(binop .Mod x100 d99).bind fun x101=>
(cmpD .NotEq x101 (D.int 0)).bind fun b102=>
if b102 then (some true) else some false) (fun d99=>(waj gaps d99).bind fun x103=>
(unop .USub (D.int 1)).bind fun x104=>
intK x104 fun i105=>
if boundOk none&&boundOk (some i105) then (cutD none (some i105) gaps).bind fun x106=>
(waj x106 d99).bind fun x107=>
(binop .Add x107 x10).bind fun x108=>
(binop .Add x108 (D.int 2)).bind fun x109=>
some (D.tuple [d99,x103,x109]) else none) l98).bind fun l110=>
(objK x1 fun c111 fs112=>
if mOk T02 c111 fs112 (Z "not_less_witness") then (cmOf tm_2 c111 (Z "not_less_witness") [D.obj c111 fs112,x93]).bind fun x113=>
(cmpD .Eq x113 (D.list l110)).bind fun b114=>
if b114 then (objK x1 fun c115 fs116=>
if mOk T02 c115 fs116 (Z "less") then (cmOf tm_2 c115 (Z "less") [D.obj c115 fs116,x93]).bind fun x117=>
(cmpD .Is x117 (D.bool false)).bind fun b118=>
some (D.bool b118) else none) else some (D.bool false) else none).bind fun x119=>
some x119 else none else none) else none) else none else none)) else none
noncomputable def wdy (ds:List D):Option D:=a1 wbc ds
noncomputable def wc1:List Str:=[(Z "lead"),(Z "more"),(Z "last"),(Z "due"),(Z "behind"),(Z "other"),(Z "over")]
noncomputable def wc3:List (Option Hd):=[]
theorem wgH (gaps:D):runQ T02 (cfOf tf_2) (cmOf tm_2) 20 wbK wc3 wc1 [gaps]=wbc gaps:=by
 kernel_rfl!
theorem wiz:FnGood T02 (Z "_law_written") wdy 84:=
 wbH (f:=(Z "_law_written")) (s:=wdy) (n:=20) (hs:=wc3) (ls:=wc1) (d:=wbK) wti (by kernel_rfl!) (trivial) (fun args r e=>a1M (M:=fun ds=>wbK.params.length=ds.length/\runQ T02 (cfOf tf_2) (cmOf tm_2) 20 wbK wc3 wc1 ds=some r) e fun a e=>⟨(by kernel_rfl!:wbK.params.length=1),(wgH a).trans e⟩)
noncomputable def tf_3:TF:=[((Z "_law_written"),wdy)]++tf_2
noncomputable def tm_3:TM:=[]++tm_2
theorem wtY:AllF T02 84 tf_3:=⟨wiz,wpX.mono (by decide)⟩
theorem wtW:AllM T02 84 tm_3:=wpV.mono (by decide)
theorem wpn:CGood T02 (cfOf tf_3) (cmOf tm_3) 84:=wiq wtY wtW
noncomputable def wdZ:Def:=(T02.fns.lookup (Z "law")).getD dumD
noncomputable def wo3:List Str:=[(Z "script"),(Z "typed"),(Z "word"),(Z "size"),(Z "way"),(Z "shown"),(Z "hidden"),(Z "told"),(Z "line"),(Z "gaps"),(Z "column"),(Z "length"),(Z "k"),(Z "reached")]
noncomputable def wcR (script:D) (typed:D) (word:D) (size:D) (way:D) (shown:D) (hidden:D) (told:D) (length:D) (s:D×D×D) (d:D) (next brk:D×D×D->Option D) (ret:D->Option D):Option D:=
((cmpD .Gt d (D.int 0)).bind fun b30=>
if b30 then ((binop .Add s.2.2 length).bind fun x31=>
some x31) else (some (D.int 0))).bind fun x32=>
(binop .Add x32 size).bind fun x33=>
(binop .Mult (D.str [32]) x32).bind fun x34=>
(binop .Add x34 (D.str [9,120])).bind fun x35=>
(wbd x35).bind fun x36=>
objK x36 fun c37 fs38=>
if mOk T02 c37 fs38 (Z "indent_level") then (cmOf tm_3 c37 (Z "indent_level") [D.obj c37 fs38,size]).bind fun x39=>
(binop .Sub x33 x39).bind fun x40=>
(wbF s.1 (D.tuple [d,x40]) way).bind fun x41=>
((bfn .len [x41]).bind fun x42=>
(cmpD .Gt x42 (D.int 1)).bind fun b43=>
if b43 then ((wbG x41 length size way).bind fun x44=>
some x44) else (some s.2.1)).bind fun x45=>
((cmpD .Eq x41 (D.list [])).bind fun b46=>
if b46 then some true else (((cmpD .Eq d (D.int 0)).bind fun b47=>
if b47 then ((cmpD .NotEq x40 (D.int 0)).bind fun b48=>
if b48 then (some true) else some false) else some false).bind fun b49=>
if b49 then some true else (((cmpD .Gt d (D.int 0)).bind fun b50=>
if b50 then ((cmpD .Eq x45 (D.list [])).bind fun b51=>
if b51 then (some true) else some false) else some false).bind fun b52=>
if b52 then some true else (some false)))).bind fun b53=>
if b53 then (ret (D.bool false)) else (next (x41,x45,x40)) else none
noncomputable def wpz (c:D×D×D×D×D×D×D×D×D) (s:D×D×D):List (Option Slot):=[some (.fz c.1),some (.fz c.2.1),some (.fz c.2.2.1),some (.fz c.2.2.2.1),some (.fz c.2.2.2.2.1),some (.fz c.2.2.2.2.2.1),some (.fz c.2.2.2.2.2.2.1),some (.fz c.2.2.2.2.2.2.2.1),some (.fz s.1),some (.fz s.2.1),some (.fz s.2.2),some (.fz c.2.2.2.2.2.2.2.2),none,none]
noncomputable def whq (c:D×D×D×D×D×D×D×D×D) (s:D×D×D):QV:=zq wo3 (wpz c s)
noncomputable def wkz (q:QV):Option ((D×D×D×D×D×D×D×D×D)×(D×D×D)):=nqK wo3 q fun l=>uF l fun v0 l=>uF l fun v1 l=>uF l fun v2 l=>uF l fun v3 l=>uF l fun v4 l=>uF l fun v5 l=>uF l fun v6 l=>uF l fun v7 l=>uF l fun v8 l=>uF l fun v9 l=>uF l fun v10 l=>uF l fun v11 l=>uN l fun l=>uN l fun l=>uE l ((v0,v1,v2,v3,v4,v5,v6,v7,v11),(v8,v9,v10))
theorem wl9 (q:QV) (x:((D×D×D×D×D×D×D×D×D)×(D×D×D))) (h:wkz q=some x):q=whq x.1 x.2:=nqE h fun l h=>by
 apply uFM h;clear h;intro v0 l h;apply uFM h;clear h;intro v1 l h;apply uFM h;clear h;intro v2 l h;apply uFM h;clear h;intro v3 l h;apply uFM h;clear h;intro v4 l h;apply uFM h;clear h;intro v5 l h;apply uFM h;clear h;intro v6 l h;apply uFM h;clear h;intro v7 l h;apply uFM h;clear h;intro v8 l h;apply uFM h;clear h;intro v9 l h;apply uFM h;clear h;intro v10 l h;apply uFM h;clear h;intro v11 l h;apply uNM h;clear h;intro l h;apply uNM h;clear h;intro l h;apply uEM h;clear h;intro h;rw [<- h];rfl
noncomputable def wiS:Stmt:=(wdZ.body.getD 5 stD)
noncomputable def wnQ (c:D×D×D×D×D×D×D×D×D):=wcR c.1 c.2.1 c.2.2.1 c.2.2.2.1 c.2.2.2.2.1 c.2.2.2.2.2.1 c.2.2.2.2.2.2.1 c.2.2.2.2.2.2.2.1 c.2.2.2.2.2.2.2.2
noncomputable def wnS:Hd:=mkF T02 (cfOf tf_3) (cmOf tm_3) 20 wdZ.scope wiS wkz whq wnQ
theorem woA:LEq tf_3 tm_3 wdZ wiS [] whq wnQ:=by
 intro c s x next brk ret
 kernel_rfl!
theorem woB:FOk T02 84 wdZ.scope wiS wnS:=wbl wpn wl9 woA trivial
noncomputable def wjj (script:D):Option D:=
(wb5 script).bind fun x1=>
woF x1 fun typed_2 word_3 size_4 way_5=>
(keysOf typed_2).bind fun l6=>
if l6.length<=cap then (compQ (fun d7=>(wa7 d7).bind fun x8=>
(cmpD .Is x8 (D.bool false)).bind fun b9=>
if b9 then (some true) else some false) (fun d7=>some d7) l6).bind fun l10=>
(keysOf typed_2).bind fun l11=>
if l11.length<=cap then (compQ (fun d12=>(wa7 d12).bind fun x13=>
(cmpD .Is x13 (D.bool true)).bind fun b14=>
if b14 then (some true) else some false) (fun d12=>some d12) l11).bind fun l15=>
strK (D.str []) fun t16=>
(keysOf (D.list l10)).bind fun l17=>
if l17.length<=cap then (compQ (fun d18=>some true) (fun d18=>(wbb d18).bind fun x19=>
some x19) l17).bind fun l20=>
(mfn (D.str t16) .join [(D.list l20)]).bind fun x21=>
(bfn .len [x21]).bind fun x22=>
((cmpD .NotEq x21 word_3).bind fun b23=>
if b23 then some true else ((bfn .len [(D.list l10)]).bind fun x24=>
(bfn .len [(D.list l15)]).bind fun x25=>
(binop .Add x24 x25).bind fun x26=>
(bfn .len [typed_2]).bind fun x27=>
(cmpD .NotEq x26 x27).bind fun b28=>
if b28 then some true else (some false))).bind fun b29=>
if b29 then (some (D.bool false)) else ((binop .Add x22 (D.int 1)).bind fun x54=>
(rangeD [(D.int 1),x54]).bind fun l55=>
if l55.length<=cap then (compQ (fun d56=>((binop .Mod x22 d56).bind fun x57=>
(cmpD .Eq x57 (D.int 0)).bind fun b58=>
if b58 then ((binop .Mod size_4 d56).bind fun x59=>
(cmpD .Eq x59 (D.int 0)).bind fun b60=>
if b60 then (some true) else some false) else some false).bind fun b61=>
if b61 then (some true) else some false) (fun d56=>some d56) l55).bind fun l62=>
(bfn .max [(D.list l62)]).bind fun x63=>
(binop .FloorDiv size_4 x63).bind fun x64=>
(bfn .min [(D.int 9),x64]).bind fun x65=>
(rangeD [x65]).bind fun l66=>
if l66.length<=cap then forS (wcR script typed_2 word_3 size_4 way_5 (D.list l10) (D.list l15) x21 x22) l66 ((D.list []),(D.list []),(D.int 0)) (fun s67=>
(wbc s67.2.1).bind fun x68=>
some x68) some else none else none) else none else none else none
noncomputable def a_law (ds:List D):Option D:=a1 wjj ds
noncomputable def wlN:List Str:=[(Z "typed"),(Z "word"),(Z "size"),(Z "way"),(Z "shown"),(Z "hidden"),(Z "told"),(Z "line"),(Z "gaps"),(Z "column"),(Z "length"),(Z "k"),(Z "reached")]
noncomputable def wlW:List (Option Hd):=[none,none,none,none,none,some wnS,none]
theorem woQ (script:D):runQ T02 (cfOf tf_3) (cmOf tm_3) 20 wdZ wlW wlN [script]=wjj script:=by
 kernel_rfl!
theorem good_law:FnGood T02 (Z "law") a_law 112:=
 wbH (f:=(Z "law")) (s:=a_law) (n:=20) (hs:=wlW) (ls:=wlN) (d:=wdZ) wpn (by kernel_rfl!) (⟨woB,trivial⟩) (fun args r e=>a1M (M:=fun ds=>wdZ.params.length=ds.length/\runQ T02 (cfOf tf_3) (cmOf tm_3) 20 wdZ wlW wlN ds=some r) e fun a e=>⟨(by kernel_rfl!:wdZ.params.length=1),(woQ a).trans e⟩)
end Mine.Py
end
section
open PySem PySem.W PyProof.Rows PySem.Calls
theorem Mine.join02 (value:∀ xs:List Int,xs.length<=63->Mine.Py.a_law [.list (xs.map .int)]=some (.bool true)):PySem.Challenge.rw_xb0039_02.Holds:=by
 w_on
 refine holds_law (by decide +kernel) fun said=>?_
 refine holds_open (q:=Mine.lawQ) (loose:=Mine.looseQ) (Xt:=fun _=>true) (XP:=fun _ _=>True) (Yf:=Hook.obs Mine.hookK) (Ya:=Hook.val Mine.hookK) (YP:=Hook.says Mine.hookK) (N:=60000) Mine.left_top (Hook.of Mine.hookK) (Hook.keeps Mine.hookK) (fun _ _=>trivial) (fun _ _ _ _ _=>trivial)
  (by rfl) (by rfl) (by rfl) (fun s e=>recFacts_of (R:=[]) rfl) rfl (by first | assumption | decide +kernel) (by decide +kernel) ⟨rfl,rfl,rfl,rfl,rfl,by decide +kernel⟩ ?hw ?hc
 case hw=>w_witness2
 case hc=>
  exact Mine.Py.law_walk (PT:=110) (cad:=Mine.cadL) (T:=Mine.Py.T02) (KL:=Mine.fragL) rfl rfl rfl Mine.tab_is (fun w s₀ mg mb h G Y C e=>e ▸ Mine.site w s₀ mg mb h G Y) Mine.tab_ok Mine.Py.good_law value
end
section
namespace Mine.Py
open PySem
noncomputable def bump:Nat->List Nat->List Nat
 | b,[]=>List.replicate b 0++[1]
 | 0,c::r=>(c+1)::r
 | b+1,c::r=>c::bump b r
theorem wgo:∀ (b:Nat) (l:List Nat),(bump b l).length=max l.length (b+1)
 | b,[]=>by simp [bump]
 | 0,c::r=>by simp [bump]
 | b+1,c::r=>by simp only [bump,List.length_cons,wgo b r];omega
theorem wnM:∀ (b:Nat) (l:List Nat) (h:b<l.length),bump b l=l.set b (l[b]+1)
 | b,[],h=>by simp at h
 | 0,c::r,h=>by simp [bump]
 | b+1,c::r,h=>by
  simp only [bump,List.set_cons_succ,List.getElem_cons_succ]
  rw [wnM b r (by simpa using h)]
theorem wmg:∀ (b:Nat) (l:List Nat),l.length<=b->bump b l=l++List.replicate (b - l.length) 0++[1]
 | b,[],h=>by simp [bump]
 | 0,c::r,h=>by simp at h
 | b+1,c::r,h=>by
  simp only [bump]
  rw [wmg b r (by simpa using h)]
  simp
noncomputable abbrev WS:=List Nat×Nat×Nat×Nat
noncomputable def wemb (s:WS):List D×D×D×D:=(s.1.map nD,nD s.2.1,nD s.2.2.1,nD s.2.2.2)
noncomputable def wstep (s:WS) (c:Nat):WS:=if c=32 then (s.1,s.2.1+1,s.2.2.1+1,s.2.2.2) else (bump s.2.1 s.1,0,s.2.2.1+1,s.2.2.2+1)
theorem wkJ (k:Nat):List.replicate k (D.int 0)=(List.replicate k 0).map nD:=by simp [nD]
theorem wp0 (ws raw:D) (s:WS) (n b:List D×D×D×D->Option D) (r:D->Option D) :
  was ws (.str [32]) (.str [9]) raw (wemb s) (.str [32]) n b r=n (wemb (wstep s 32)):=by
 unfold was
 rw [show cmpD .Eq (.str [32]) (.str [32])=some true from by decide +kernel]
 rfl
theorem wsC (ws raw:D) (s:WS) (n b:List D×D×D×D->Option D) (r:D->Option D) (h:s.2.1<5000) (hl:s.1.length<=5000) :
  was ws (.str [32]) (.str [9]) raw (wemb s) (.str [9]) n b r=n (wemb (wstep s 9)):=by
 obtain ⟨cnt,k,m,t⟩:=s
 have h:k<5000:=h
 have hl:cnt.length<=5000:=hl
 have hlen:bfn .len [.list (cnt.map nD)]=some (nD cnt.length):=(wgd (by rw [List.length_map];exact Nat.le_trans hl (by decide))).trans (by rw [List.length_map])
 have e3:cmpD .GtE (nD k) (nD cnt.length)=some (decide (cnt.length<=k)):=(ge_int _ _).trans (congrArg some (decide_eq_decide.mpr Int.ofNat_le))
 have hk1:k<100000:=Nat.lt_trans h (by decide)
 show was ws _ _ raw (cnt.map nD,nD k,nD m,nD t) _ n b r=n ((bump k cnt).map nD,nD 0,nD (m+1),nD (t+1))
 unfold was
 refine bnS (a:=false) (by decide +kernel) (ifF (bnS (a:=true) (by decide +kernel) (ifT (bnS (a:=nD (m+1)) rfl (bnS (a:=nD (t+1)) rfl (bnS hlen (bnS e3 ?_)))))))
 by_cases hk:cnt.length<=k
 ·have hn:(cnt++List.replicate (k - cnt.length+1) 0).length=k+1:=by rw [List.length_append,List.length_replicate,<- Nat.add_assoc,Nat.add_sub_cancel' hk]
  have e4:binop .Sub (nD k) (nD cnt.length)=some (nD (k - cnt.length)):=(sub_int _ _).trans (congrArg (fun z=>some (D.int z)) (Int.ofNat_sub hk).symm)
  have e6:binop .Mult (.list [.int 0]) (nD (k - cnt.length+1))=some (.list ((List.replicate (k - cnt.length+1) 0).map nD)):=by
   show (if _ then _ else _)=_
   rw [if_pos ⟨rfl,by omega,by omega⟩,<- wkJ];rfl
  have e7:catQ (.list (cnt.map nD)) (.list ((List.replicate (k - cnt.length+1) 0).map nD))=some ((cnt++List.replicate (k - cnt.length+1) 0).map nD):=by
   refine (if_pos ?_).trans (by rw [List.map_append])
   rw [List.length_map,List.length_map,<- List.length_append,hn];exact Nat.le_trans (Nat.succ_le_of_lt h) (by decide)
  have e8:((cnt++List.replicate (k - cnt.length+1) 0).map nD)[k]?=some (nD 0):=by
   rw [List.getElem?_map,List.getElem?_append_right hk,List.getElem?_replicate,if_pos (Nat.lt_succ_self _)];rfl
  have e10:((cnt++List.replicate (k - cnt.length+1) 0).map nD).set k (nD 1)=(bump k cnt).map nD:=by
   rw [<- List.map_set,wmg _ _ hk]
   congr 1
   rw [List.set_append_right _ _ hk,List.append_assoc]
   congr 1
   rw [List.replicate_succ',List.set_append_right _ _ (by simp)]
   simp
  rw [<- e10]
  exact ifP (decide_eq_true hk) (bnS hlen (bnS e4 (bnS (a:=nD (k - cnt.length+1)) rfl (bnS e6 (bnS e7 (bnS (wf7 hk1 e8) (bnS (a:=nD 1) rfl (bnS (wmH _ (by rw [List.length_map,hn];exact Nat.lt_succ_self k) (by rw [List.length_map,hn];exact Nat.le_trans (Nat.succ_le_of_lt h) (by decide))) rfl))))))))
 ·have hk':k<cnt.length:=Nat.not_le.mp hk
  have e8:(cnt.map nD)[k]?=some (nD cnt[k]):=by rw [List.getElem?_map,List.getElem?_eq_getElem hk'];rfl
  rw [wnM _ _ hk',List.map_set]
  exact ifN (fun e=>hk (of_decide_eq_true e)) (bnS (wf7 hk1 e8) (bnS (a:=nD (cnt[k]+1)) rfl (bnS (wmH _ (by rw [List.length_map];exact hk') (by rw [List.length_map];exact Nat.le_trans hl (by decide))) rfl)))
theorem wrt (ws raw:D) (s:WS) (n b:List D×D×D×D->Option D) (r:D->Option D) :
  was ws (.str [32]) (.str [9]) raw (wemb s) (.str [120]) n b r=b (wemb s):=by
 unfold was
 rw [show cmpD .Eq (.str [120]) (.str [32])=some false from by decide +kernel,show cmpD .Eq (.str [120]) (.str [9])=some false from by decide +kernel]
 rfl
theorem wjW (ws raw:D) (rest:Tx) {next:List D×D×D×D->Option D} {ret:D->Option D}:∀ (l:Tx) (s:WS),(∀ c∈l,c=32\/c=9)->s.2.1+l.length<5000->s.1.length<=5000 ->
  forS (was ws (.str [32]) (.str [9]) raw) (chars (l++120::rest)) (wemb s) next ret=next (wemb (l.foldl wstep s))
 | [],s,_,_,_=>by
  show was ws (.str [32]) (.str [9]) raw (wemb s) (.str [120]) _ _ _=_
  rw [wrt];rfl
 | c::l,s,hc,hb,hl=>by
  show was ws (.str [32]) (.str [9]) raw (wemb s) (.str [c]) (fun s'=>forS _ (chars (l++120::rest)) s' next ret) _ _=_
  simp only [List.length_cons]at hb
  rcases hc c (by simp) with rfl | rfl
  ·rw [wp0,wjW ws raw rest l _ (fun c h=>hc c (by simp [h])) (by simp only [wstep,if_true];omega) (by simpa [wstep] using hl)]
   rfl
  ·rw [wsC _ _ _ _ _ _ (by omega) hl,wjW ws raw rest l _ (fun c h=>hc c (by simp [h])) (by simp [wstep];omega) (by simp [wstep,wgo];omega)]
   rfl
noncomputable def wD (raw:Tx) (s:WS):D:=.obj (Str.ofString "Whitespace") [((Str.ofString "raw"),.str raw),((Str.ofString "n"),nD s.2.2.1),((Str.ofString "nt"),nD s.2.2.2),((Str.ofString "norm"),.tuple [.tuple (s.1.map nD),nD s.2.1]),((Str.ofString "is_simple"),.bool (decide (s.1.length<=1)))]
theorem wlZ:∀ (l:Tx) (s:WS),s.2.1+l.length<5000->s.1.length<=5000->(l.foldl wstep s).1.length<=5000
 | [],s,_,h=>h
 | c::l,s,hb,hl=>by
  simp only [List.length_cons]at hb
  simp only [List.foldl_cons]
  refine wlZ l _ ?_ ?_
  ·unfold wstep;split<;>simp<;>omega
  ·unfold wstep;split
   ·exact hl
   ·simp only [wgo];omega
theorem wrm (l rest:Tx) (hc:∀ c∈l,c=32\/c=9) (hl:l.length<5000) (hr:rest.length<4000) :
  wbd (.str (l++120::rest))=some (wD (l++120::rest) (l.foldl wstep ([],0,0,0))):=by
 unfold wbd
 show (some (chars (l++120::rest))).bind _=_
 simp only [Option.bind_some]
 rw [if_pos (by simp only [chars,List.length_map,List.length_append,List.length_cons,waa];omega)]
 have e:=fun next ret=>wjW (.str (l++120::rest)) (.str (l++120::rest)) rest (next:=next) (ret:=ret) l ([],0,0,0) hc (by simpa using hl) (by simp)
 have fl:=wlZ l ([],0,0,0) (by simpa using hl) (by simp)
 rw [show (([],.int 0,.int 0,.int 0):List D×D×D×D)=wemb ([],0,0,0) from rfl,e]
 generalize l.foldl wstep ([],0,0,0)=s at fl
 simp only [wemb]
 have e1:bfn .tuple [.list (s.1.map nD)]=some (.tuple (s.1.map nD)):=by
  show (if _ then _ else _)=_
  rw [if_pos (by simp only [List.length_map,waa];omega)]
 have e2:bfn .len [.list (s.1.map nD)]=some (nD s.1.length):=by rw [wgd (by simp only [List.length_map,waa];omega)];simp [nD]
 have e3:cmpD .LtE (nD s.1.length) (.int 1)=some (decide (s.1.length<=1)):=by
  rw [le_int];congr 1;simp;omega
 rw [e1,e2]
 simp only [Option.bind_some]
 rw [e3]
 rfl
noncomputable abbrev wN:Str:=Str.ofString "Whitespace"
noncomputable def wF (raw:Tx) (s:WS):List (Str×D):=[((Str.ofString "raw"),.str raw),((Str.ofString "n"),nD s.2.2.1),((Str.ofString "nt"),nD s.2.2.2),((Str.ofString "norm"),.tuple [.tuple (s.1.map nD),nD s.2.1]),((Str.ofString "is_simple"),.bool (decide (s.1.length<=1)))]
theorem whM {α:Type} (raw:Tx) (s:WS) (k:Str->List (Str×D)->Option α):objK (wD raw s) k=k wN (wF raw s):=rfl
theorem obW {α:Type} {raw:Tx} {s:WS} {f:Str->List (Str×D)->Option α} {r:Option α} (k:f wN (wF raw s)=r):objK (wD raw s) f=r:=k
theorem wd6 (raw:Tx) (s:WS):attrQ T02 (wD raw s) (Str.ofString "norm")=some (.tuple [.tuple (s.1.map nD),nD s.2.1]):=by kernel_rfl!
theorem w_n (raw:Tx) (s:WS):attrQ T02 (wD raw s) (Str.ofString "n")=some (nD s.2.2.1):=by kernel_rfl!
theorem w_nt (raw:Tx) (s:WS):attrQ T02 (wD raw s) (Str.ofString "nt")=some (nD s.2.2.2):=by kernel_rfl!
theorem wkT (raw:Tx) (s:WS):attrQ T02 (wD raw s) (Str.ofString "is_simple")=some (.bool (decide (s.1.length<=1))):=by kernel_rfl!
theorem wkM (raw:Tx) (s:WS):mOk T02 wN (wF raw s) (Str.ofString "longest_run_of_spaces")=true:=by kernel_rfl!
theorem whN (raw:Tx) (s:WS):mOk T02 wN (wF raw s) (Str.ofString "indent_level")=true:=by kernel_rfl!
theorem wrj (raw:Tx) (s:WS):mOk T02 wN (wF raw s) (Str.ofString "equal")=true:=by kernel_rfl!
theorem wnV (raw:Tx) (s:WS):mOk T02 wN (wF raw s) (Str.ofString "less")=true:=by kernel_rfl!
theorem wri (raw:Tx) (s:WS):mOk T02 wN (wF raw s) (Str.ofString "not_equal_witness")=true:=by kernel_rfl!
theorem wt3 (raw:Tx) (s:WS):mOk T02 wN (wF raw s) (Str.ofString "not_less_witness")=true:=by kernel_rfl!
theorem wkd (raw:Tx) (s:WS):cmOf tm_1 wN (Str.ofString "longest_run_of_spaces") [D.obj wN (wF raw s)]=waf (wD raw s):=by kernel_rfl!
theorem wkc (raw:Tx) (s:WS):cmOf tm_2 wN (Str.ofString "longest_run_of_spaces") [D.obj wN (wF raw s)]=waf (wD raw s):=by kernel_rfl!
theorem whA (raw:Tx) (s:WS) (d:D):cmOf tm_1 wN (Str.ofString "indent_level") [D.obj wN (wF raw s),d]=waq (wD raw s) d:=by kernel_rfl!
theorem wtM (raw:Tx) (s:WS) (d:D):cmOf tm_3 wN (Str.ofString "indent_level") [D.obj wN (wF raw s),d]=waq (wD raw s) d:=by kernel_rfl!
theorem wir (raw:Tx) (s:WS) (d:D):cmOf tm_2 wN (Str.ofString "equal") [D.obj wN (wF raw s),d]=wa5 (wD raw s) d:=by kernel_rfl!
theorem wdw (raw:Tx) (s:WS) (d:D):cmOf tm_2 wN (Str.ofString "less") [D.obj wN (wF raw s),d]=wa9 (wD raw s) d:=by kernel_rfl!
theorem wf3 (raw:Tx) (s:WS) (d:D):cmOf tm_2 wN (Str.ofString "not_equal_witness") [D.obj wN (wF raw s),d]=wao (wD raw s) d:=by kernel_rfl!
theorem wpL (raw:Tx) (s:WS) (d:D):cmOf tm_2 wN (Str.ofString "not_less_witness") [D.obj wN (wF raw s),d]=wat (wD raw s) d:=by kernel_rfl!
noncomputable def longI (s:WS):Int:=max ((s.1.length:Int) - 1) s.2.1
theorem wd4 (raw:Tx) (s:WS) (h:s.1.length<=cap):waf (wD raw s)=some (.int (longI s)):=by
 unfold waf
 rw [wd6]
 simp only [Option.bind_some,wb4]
 rw [len_tuple (by simpa using h)]
 simp only [Option.bind_some,List.length_map]
 rw [sub_int,Option.bind_some,wj1]
 rfl
noncomputable def vs (ts:Nat):Nat->List Nat->Nat
 | _,[]=>0
 | i,c::r=>i / ts * c+vs ts (i+1) r
theorem wkU (ts:Nat):∀ (k i:Nat) (r:List Nat),vs ts i (List.replicate k 0++r)=vs ts (i+k) r
 | 0,i,r=>by simp
 | k+1,i,r=>by
  rw [List.replicate_succ,List.cons_append]
  simp only [vs,Nat.mul_zero,Nat.zero_add]
  rw [wkU ts k (i+1) r]
  congr 1;omega
theorem wmB (ts:Nat):∀ (b i:Nat) (l:List Nat),vs ts i (bump b l)=vs ts i l+(i+b) / ts
 | b,i,[]=>by simp only [bump];rw [wkU];simp [vs]
 | 0,i,c::r=>by simp only [bump,vs,Nat.mul_add,Nat.mul_one,Nat.add_zero];omega
 | b+1,i,c::r=>by
  simp only [bump,vs]
  rw [wmB ts b (i+1) r,show i+1+b=i+(b+1) by omega]
  omega
theorem wkV (ts:Nat) (l:List Nat):∀ (k i:Nat),i+k<=ts->vs ts i l=vs ts (i+k) (l.drop k)
 | 0,i,_=>by simp
 | k+1,i,h=>by
  cases l with
  | nil=>simp [vs]
  | cons c r=>
   simp only [vs,List.drop_succ_cons]
   rw [Nat.div_eq_of_lt (by omega),wkV ts r k (i+1) (by omega),show i+1+k=i+(k+1) by omega]
   omega
noncomputable def indN (s:WS) (ts:Nat):Nat:=s.2.1+ts * (vs ts 0 s.1+s.2.2.2)
theorem wqN (self:D) (ts:Nat) (hts:0<ts) (hts2:ts<10000) (cnt:List Nat) (hl:cnt.length<10000) (tr:D) (a il:Nat) (ha:a<cnt.length) (n b:D->Option D) (r:D->Option D) :
  wan self (nD ts) (.tuple (cnt.map nD)) tr (nD il) (nD a) n b r=n (nD (il+a / ts * cnt[a])):=by
 unfold wan
 rw [show nD a=D.int a from rfl,show nD ts=D.int ts from rfl,fdivN a hts (by omega)]
 simp only [Option.bind_some]
 rw [woM (v:=nD cnt[a]) (by omega) (by rw [List.getElem?_map,List.getElem?_eq_getElem ha];rfl)]
 simp only [Option.bind_some]
 rw [mulN _ (by have:=Nat.div_le_self a ts;omega)]
 simp only [Option.bind_some]
 rw [show nD il=D.int il from rfl,addN]
 simp only [Option.bind_some]
theorem wlU (self:D) (ts:Nat) (hts:0<ts) (hts2:ts<10000) (cnt:List Nat) (hl:cnt.length<10000) (tr:D) {next:D->Option D} {ret:D->Option D}:∀ (k a il:Nat),a+k=cnt.length ->
  forS (wan self (nD ts) (.tuple (cnt.map nD)) tr) ((List.range' a k).map nD) (nD il) next ret=next (nD (il+vs ts a (cnt.drop a)))
 | 0,a,il,h=>by
  have:cnt.drop a=[]:=List.drop_eq_nil_of_le (by omega)
  rw [this];rfl
 | k+1,a,il,h=>by
  have ha:a<cnt.length:=by omega
  show wan self (nD ts) (.tuple (cnt.map nD)) tr (nD il) (nD a) (fun s'=>forS _ ((List.range' (a+1) k).map nD) s' next ret) next ret=_
  rw [wqN self ts hts hts2 cnt hl tr a il ha,wlU self ts hts hts2 cnt hl tr (next:=next) (ret:=ret) k (a+1) (il+a / ts * cnt[a]) (by omega)]
  have e:il+a / ts * cnt[a]+vs ts (a+1) (cnt.drop (a+1))=il+vs ts a (cnt.drop a):=by
   rw [List.drop_eq_getElem_cons ha]
   simp only [vs]
   omega
  rw [e]
theorem wjG (raw:Tx) (s:WS) (ts:Nat) (hl:s.1.length<10000) (hts:0<ts) (hts2:ts<10000):waq (wD raw s) (nD ts)=some (nD (indN s ts)):=by
 unfold waq
 rw [wd6]
 simp only [Option.bind_some,wb4]
 rw [len_tuple (by simp only [List.length_map,waa];omega)]
 simp only [Option.bind_some,List.length_map]
 rw [show nD ts=D.int ts from rfl,rangeN hl hts2]
 simp only [Option.bind_some]
 rw [if_pos (by simp only [List.length_map,List.length_range',waa];omega)]
 by_cases hc:ts<=s.1.length
 ·rw [show D.int (ts:Int)=nD ts from rfl,show D.int 0=nD 0 from rfl,wlU _ ts hts hts2 s.1 hl _ _ _ _ (by omega),w_nt]
  simp only [Option.bind_some]
  rw [show nD (0+vs ts ts (s.1.drop ts))=D.int ((0+vs ts ts (s.1.drop ts):Nat):Int) from rfl,show nD s.2.2.2=D.int (s.2.2.2:Int) from rfl,addN]
  simp only [Option.bind_some]
  rw [show nD ts=D.int ts from rfl,mulN _ (by omega)]
  simp only [Option.bind_some]
  rw [show nD s.2.1=D.int (s.2.1:Int) from rfl,addN]
  have e:=wkV ts s.1 ts 0 (by omega)
  rw [Nat.zero_add]at e
  unfold indN
  rw [e,Nat.zero_add];rfl
 ·rw [show s.1.length - ts=0 by omega]
  simp only [List.range'_zero,List.map_nil,forS]
  rw [w_nt]
  simp only [Option.bind_some]
  rw [show D.int 0=D.int ((0:Nat):Int) from rfl,show nD s.2.2.2=D.int (s.2.2.2:Int) from rfl,addN]
  simp only [Option.bind_some]
  rw [mulN _ (by omega)]
  simp only [Option.bind_some]
  rw [show nD s.2.1=D.int (s.2.1:Int) from rfl,addN]
  have e:=wkV ts s.1 s.1.length 0 (by omega)
  rw [List.drop_length]at e
  unfold indN
  rw [e];rfl
noncomputable def cntOf (gaps:List Nat):List Nat:=gaps.foldl (fun c g=>bump g c) []
noncomputable def ldS (gaps:List Nat) (beh:Nat):WS:=(cntOf gaps,beh,gaps.sum+gaps.length+beh,gaps.length)
noncomputable def gapT (g:Nat):Tx:=List.replicate g 32++[9]
noncomputable def ldT (gaps:List Nat) (beh:Nat):Tx:=(gaps.map gapT).flatten++List.replicate beh 32
theorem weT:∀ (k:Nat) (s:WS),(List.replicate k 32).foldl wstep s=(s.1,s.2.1+k,s.2.2.1+k,s.2.2.2)
 | 0,s=>rfl
 | k+1,s=>by
  rw [List.replicate_succ,List.foldl_cons,weT k]
  simp only [wstep,if_true]
  congr 2
  ·omega
  ·congr 1;omega
theorem wkw:∀ (gaps:List Nat) (c:List Nat) (n t:Nat),((gaps.map gapT).flatten).foldl wstep (c,0,n,t)=(gaps.foldl (fun c g=>bump g c) c,0,n+gaps.sum+gaps.length,t+gaps.length)
 | [],c,n,t=>rfl
 | g::gaps,c,n,t=>by
  simp only [List.map_cons,List.flatten_cons,List.foldl_append]
  rw [gapT,List.foldl_append,weT]
  have:List.foldl wstep (c,0+g,n+g,t) [9]=(bump g c,0,n+g+1,t+1):=by
   simp only [List.foldl_cons,List.foldl_nil,wstep]
   rw [if_neg (by decide),Nat.zero_add]
  rw [show ((c,0,n,t):WS).1=c from rfl,show ((c,0,n,t):WS).2.1=0 from rfl,show ((c,0,n,t):WS).2.2.1=n from rfl,show ((c,0,n,t):WS).2.2.2=t from rfl,this,wkw gaps]
  simp only [List.foldl_cons,List.sum_cons,List.length_cons]
  congr 2
  congr 1
  ·omega
  ·omega
theorem wny (gaps:List Nat) (beh:Nat):(ldT gaps beh).foldl wstep ([],0,0,0)=ldS gaps beh:=by
 unfold ldT
 rw [List.foldl_append,wkw,weT]
 simp only [ldS,cntOf]
 simp
theorem ws9 (gaps:List Nat) (beh:Nat):∀ c∈ldT gaps beh,c=32\/c=9:=by
 intro c h
 unfold ldT at h
 simp only [List.mem_append,List.mem_flatten,List.mem_map,List.mem_replicate]at h
 rcases h with ⟨l,⟨g,hg,rfl⟩,h⟩ | h
 ·simp only [gapT,List.mem_append,List.mem_replicate,List.mem_singleton]at h
  rcases h with h | h
  ·exact .inl h.2
  ·exact .inr h
 ·exact .inl h.2
theorem wr5 (gaps:List Nat) (beh:Nat):(ldT gaps beh).length=gaps.sum+gaps.length+beh:=by
 unfold ldT
 simp only [List.length_append,List.length_replicate]
 have:∀ gaps:List Nat,((gaps.map gapT).flatten).length=gaps.sum+gaps.length:=by
  intro gaps
  induction gaps with
  | nil=>rfl
  | cons g gaps ih=>simp only [List.map_cons,List.flatten_cons,List.length_append,ih,List.sum_cons,List.length_cons,gapT,List.length_replicate,List.length_nil];omega
 rw [this]
theorem wjF:∀ l:List Tx,joinT [] l=l.flatten
 | []=>rfl
 | [x]=>by simp [joinT]
 | x::y::r=>by
  simp only [joinT]
  rw [wjF (y::r)];simp
theorem wkX {α:Type} (f:α->Tx):∀ l:List α,txtsOf (l.map fun x=>.str (f x))=some (l.map f)
 | []=>rfl
 | x::r=>by simp only [List.map_cons,txtsOf,wjY,wkX f r,Option.map_some]
theorem wqU {α:Type} (f:α->Tx):∀ l:List α,((l.map f).map List.length).sum=(l.map f).flatten.length
 | []=>rfl
 | x::r=>by simp
theorem wnB {α:Type} (f:α->Tx) (l:List α) (h:(l.map f).flatten.length<=cap):mfn (.str []) .join [.list (l.map fun x=>.str (f x))]=some (.str (l.map f).flatten):=by
 show (txtsOf _).bind _=_
 rw [wkX]
 simp only [Option.bind_some,List.length_nil,Nat.mul_zero,Nat.add_zero]
 rw [wqU,if_pos h,wjF]
theorem wbu {g:Nat}:∀ {l:List Nat},g∈l->g<=l.sum
 | x::r,h=>by
  simp only [List.mem_cons]at h
  simp only [List.sum_cons]
  rcases h with rfl | h
  ·omega
  ·have:=wbu h;omega
noncomputable def restT:Tx:=[9,32]
noncomputable def ldW (gaps:List Nat) (beh:Nat):D:=wD (ldT gaps beh++120::restT) (ldS gaps beh)
theorem wj2 (gaps:List Nat) (beh:Nat) (h:gaps.sum+gaps.length+beh<4000):wah (.list (gaps.map nD)) (.str (List.replicate beh 32))=some (ldW gaps beh):=by
 have hl:=wr5 gaps beh
 have hg:∀ g∈gaps,g<10000:=fun g hg=>by
  have:=wbu hg
  omega
 unfold wah
 rw [wjY,waU,Option.bind_some,if_pos (by simp only [List.length_map,waa];omega)]
 rw [waJ nD (fun g=>.str (gapT g)) gaps (by
  intro g hgm
  have:=hg g hgm
  have e:binop .Mult (.str [32]) (nD g)=some (.str (List.replicate g 32)):=by
   show (if _ then _ else _)=_
   rw [if_pos ⟨rfl,by omega,by omega⟩];simp
  rw [e]
  simp only [Option.bind_some]
  have e2:binop .Add (.str (List.replicate g 32)) (.str [9])=some (.str (gapT g)):=by
   show (if _ then _ else _)=_
   rw [if_pos (by simp only [List.length_replicate,List.length_cons,List.length_nil,waa];have:=wbu hgm;omega)];rfl
  rw [e2];rfl)]
 simp only [Option.bind_some]
 have hf:((gaps.map gapT).flatten).length<=(ldT gaps beh).length:=by unfold ldT;simp
 rw [wnB gapT gaps (by rw [waa];omega)]
 simp only [Option.bind_some]
 have e3:binop .Add (.str (gaps.map gapT).flatten) (.str (List.replicate beh 32))=some (.str (ldT gaps beh)):=by
  show (if _ then _ else _)=_
  rw [if_pos (by simp only [List.length_replicate,waa];omega)];rfl
 rw [e3]
 simp only [Option.bind_some]
 have e4:binop .Add (.str (ldT gaps beh)) (.str (120::restT))=some (.str (ldT gaps beh++120::restT)):=by
  show (if _ then _ else _)=_
  rw [if_pos (by simp only [restT,List.length_cons,List.length_nil,waa];omega)]
 rw [show D.str (120::[9,32])=D.str (120::restT) from rfl,e4]
 simp only [Option.bind_some]
 rw [wrm _ _ (ws9 gaps beh) (by omega) (by decide),wny]
 rfl
theorem wkH:∀ (b i:Nat) (l:List Nat),(bump b l).getD i 0=l.getD i 0+if i=b then 1 else 0
 | b,i,[]=>by
  simp only [bump,List.getD_eq_getElem?_getD,List.getElem?_nil,Option.getD_none,Nat.zero_add]
  by_cases h:i<b
  ·rw [List.getElem?_append_left (by simpa using h),List.getElem?_replicate,if_pos h,if_neg (by omega)];rfl
  ·rw [List.getElem?_append_right (by simpa using h),List.length_replicate]
   by_cases e:i=b
   ·subst e;simp
   ·rw [if_neg e]
    have:0<i - b:=by omega
    rw [List.getElem?_eq_none (by simp;omega)];rfl
 | 0,i,c::r=>by
  cases i with
  | zero=>simp [bump]
  | succ i=>simp [bump]
 | b+1,i,c::r=>by
  cases i with
  | zero=>simp [bump]
  | succ i=>
   simp only [bump,List.getD_cons_succ]
   rw [wkH b i r]
   simp
theorem wky (i:Nat):∀ (gaps c:List Nat),(gaps.foldl (fun c g=>bump g c) c).getD i 0=c.getD i 0+gaps.count i
 | [],c=>by simp
 | g::gaps,c=>by
  rw [List.foldl_cons,wky i gaps,wkH,List.count_cons]
  by_cases h:i=g
  ·subst h;simp;omega
  ·rw [if_neg h,if_neg (by simpa using Ne.symm h)];omega
theorem wma (i:Nat) (gaps:List Nat):(cntOf gaps).getD i 0=gaps.count i:=by
 unfold cntOf;rw [wky];simp
noncomputable def mx (gaps:List Nat):Nat:=gaps.foldl max 0
theorem who:∀ (gaps c:List Nat),(gaps.foldl (fun c g=>bump g c) c).length=gaps.foldl (fun m g=>max m (g+1)) c.length
 | [],c=>rfl
 | g::gaps,c=>by
  rw [List.foldl_cons,who gaps,wgo];rfl
theorem wnE:∀ (gaps:List Nat) (m:Nat),gaps.foldl (fun m g=>max m (g+1)) (m+1)=gaps.foldl max m+1
 | [],m=>rfl
 | g::gaps,m=>by
  rw [List.foldl_cons,List.foldl_cons,show max (m+1) (g+1)=max m g+1 by omega,wnE gaps]
theorem wd5 {gaps:List Nat} (h:gaps≠[]):(cntOf gaps).length=mx gaps+1:=by
 cases gaps with
 | nil=>exact absurd rfl h
 | cons g r=>
  unfold cntOf mx
  rw [who,List.foldl_cons,List.foldl_cons,List.length_nil,show max 0 (g+1)=max 0 g+1 by omega,wnE]
theorem wjR (gaps:List Nat):(cntOf gaps).length<=mx gaps+1:=by
 by_cases h:gaps=[]
 ·subst h;simp [cntOf]
 ·rw [wd5 h];omega
theorem wmb {gaps:List Nat} (h:gaps≠[]):cntOf gaps=(List.range (mx gaps+1)).map fun i=>gaps.count i:=by
 apply List.ext_getElem
 ·rw [wd5 h];simp
 ·intro i h1 h2
  simp only [List.getElem_map,List.getElem_range]
  rw [<- wma]
  rw [List.getD_eq_getElem?_getD,List.getElem?_eq_getElem h1];rfl
theorem wiL {m:Nat}:∀ (gaps:List Nat) (a:Nat),a<=m->(∀ g∈gaps,g<=m)->gaps.foldl max a<=m
 | [],a,h,_=>h
 | g::r,a,h,hg=>by
  rw [List.foldl_cons]
  exact wiL r _ (by have:=hg g (by simp);omega) fun g h=>hg g (by simp [h])
theorem wil {gaps:List Nat} {m:Nat} (h:∀ g∈gaps,g<=m):mx gaps<=m:=wiL gaps 0 (by omega) h
theorem wiK:∀ (gaps:List Nat) (a:Nat),a<=gaps.foldl max a
 | [],a=>Nat.le_refl _
 | g::r,a=>by
  rw [List.foldl_cons]
  have:=wiK r (max a g);omega
theorem wex {g:Nat}:∀ (gaps:List Nat) (a:Nat),g∈gaps->g<=gaps.foldl max a
 | x::r,a,h=>by
  rw [List.foldl_cons]
  simp only [List.mem_cons]at h
  rcases h with rfl | h
  ·have:=wiK r (max a g);omega
  ·exact wex r _ h
theorem wkO {gaps:List Nat} {g:Nat} (h:g∈gaps):g<=mx gaps:=wex gaps 0 h
noncomputable def colN (gaps:List Nat) (ts:Nat):Nat:=(gaps.map fun g=>g / ts * ts+ts).sum
theorem wmA (ts:Nat):∀ (gaps c:List Nat),vs ts 0 (gaps.foldl (fun c g=>bump g c) c)=vs ts 0 c+(gaps.map (· / ts)).sum
 | [],c=>by simp
 | g::gaps,c=>by
  rw [List.foldl_cons,wmA ts gaps,wmB]
  simp only [List.map_cons,List.sum_cons,Nat.zero_add];omega
theorem wpD (ts:Nat):∀ gaps:List Nat,colN gaps ts=ts * ((gaps.map (· / ts)).sum+gaps.length)
 | []=>by simp [colN]
 | g::r=>by
  have ih:=wpD ts r
  unfold colN at ih ⊢
  simp only [List.map_cons,List.sum_cons,List.length_cons,ih,Nat.mul_add,Nat.mul_one]
  rw [Nat.mul_comm (g / ts) ts];omega
theorem waB (gaps:List Nat) (beh ts:Nat):indN (ldS gaps beh) ts=beh+colN gaps ts:=by
 unfold indN ldS
 rw [wpD]
 dsimp only
 unfold cntOf
 rw [wmA]
 simp [vs]
theorem wmw (gaps:D) (ts:Nat) (h:0<ts) (h2:ts<10000) (c g:Nat) (hc:ts ∣ c) (hs:c+g<100000) (n b:D->Option D) (r:D->Option D) :
  wbA gaps (nD ts) (nD c) (nD g) n b r=n (nD (c+(g / ts * ts+ts))):=by
 unfold wbA
 rw [show nD c=D.int c from rfl,show nD g=D.int g from rfl,addN]
 simp only [Option.bind_some]
 rw [show nD ts=D.int ts from rfl,fdivN _ h (by omega)]
 simp only [Option.bind_some]
 rw [mulN _ (by have:=Nat.div_le_self (c+g) ts;omega)]
 simp only [Option.bind_some]
 rw [addN]
 simp only [Option.bind_some]
 obtain ⟨k,rfl⟩:=hc
 have e:(ts * k+g) / ts * ts+ts=ts * k+(g / ts * ts+ts):=by
  rw [Nat.mul_add_div h,Nat.add_mul,Nat.mul_comm k ts];omega
 rw [e]
theorem whx (gaps:List Nat) (ts:Nat) (h:0<ts) (h2:ts<10000) (hg:gaps.length<200) (hs:gaps.sum<1000) (hp:gaps.sum+gaps.length * ts<100000):waj (.list (gaps.map nD)) (nD ts)=some (nD (colN gaps ts)):=by
 unfold waj
 rw [waU,Option.bind_some,if_pos (by simp only [List.length_map,waa];omega)]
 have key:=weA (B:=wbA (.list (gaps.map nD)) (nD ts)) nD nD (fun c g=>c+(g / ts * ts+ts)) (fun xs c=>ts ∣ c/\c+xs.sum+xs.length * ts<100000) (next:=fun s=>some s) (ret:=some) gaps 0
  (fun x xs c hi=>by
   obtain ⟨h3,h4⟩:=hi
   simp only [List.sum_cons,List.length_cons,Nat.add_mul]at h4
   have hx:x / ts * ts<=x:=Nat.div_mul_le_self x ts
   refine ⟨⟨?_,by omega⟩,fun n b r=>wmw _ ts h h2 c x h3 (by omega) n b r⟩
   exact Nat.dvd_add h3 (Nat.dvd_add (Nat.dvd_mul_left ..) (Nat.dvd_refl _)))
  ⟨Nat.dvd_zero _,by omega⟩
 rw [show D.int 0=nD 0 from rfl,key]
 have e:∀ (l:List Nat) (c:Nat),l.foldl (fun c g=>c+(g / ts * ts+ts)) c=c+colN l ts:=by
  intro l
  induction l with
  | nil=>intro c;simp [colN]
  | cons g r ih=>
   intro c
   rw [List.foldl_cons,ih]
   unfold colN
   simp only [List.map_cons,List.sum_cons];omega
 rw [e,Nat.zero_add]
theorem wjB {a b:Nat}:nD a=nD b ↔ a=b:=by
 show D.int a=D.int b ↔ _
 rw [D.int.injEq];omega
theorem wkC (a b:Nat):cmpD .NotEq (nD a) (nD b)=some (!decide (a=b)):=cmpNe (.int 0 a) (.int 0 b) (by decide) (by decide) wjB
theorem wkD (a b:Nat):cmpD .Eq (nD a) (nD b)=some (decide (a=b)):=cmpEq (.int 0 a) (.int 0 b) (by decide) (by decide) wjB
theorem wnv:∀ {a b:List Nat},a.map nD=b.map nD ↔ a=b
 | [],[]=>by simp
 | [],_::_=>by simp
 | _::_,[]=>by simp
 | x::a,y::b=>by simp only [List.map_cons,List.cons.injEq,wjB,wnv]
theorem wmI (n:Nat) (l:List Nat):∀ x∈l.map nD,Pln n x:=by
 intro x h;simp only [List.mem_map]at h;obtain ⟨i,_,rfl⟩:=h;exact .int n i
theorem wf9 (l:List Nat) (b:Nat):Pln 2 (.tuple [.tuple (l.map nD),nD b]):=by
 refine .tuple 1 _ fun x hx=>?_
 simp only [List.mem_cons,List.not_mem_nil,or_false]at hx
 rcases hx with rfl | rfl
 ·exact .tuple 0 _ (wmI 0 l)
 ·exact .int 1 _
theorem wdv (r1 r2:Tx) (s1 s2:WS):wa5 (wD r1 s1) (wD r2 s2)=some (.bool (decide (s1.1=s2.1/\s1.2.1=s2.2.1))):=by
 unfold wa5
 rw [wd6,Option.bind_some,wd6,Option.bind_some,cmpEq (wf9 _ _) (wf9 _ _) (by decide) (by decide) (p:=s1.1=s2.1/\s1.2.1=s2.2.1) (by simp only [D.tuple.injEq,List.cons.injEq,wnv,wjB,and_true])]
 rfl
noncomputable def longN (s:WS):Nat:=max (s.1.length - 1) s.2.1
theorem wgc (s:WS):longI s=longN s:=by
 unfold longI longN
 cases s.1.length with
 | zero=>exact (Int.max_eq_right (Int.le_trans (by decide) (Int.natCast_nonneg _))).trans (congrArg Nat.cast (Nat.max_eq_right (Nat.zero_le _)).symm)
 | succ n=>rw [Nat.add_sub_cancel,castMax,show ((n+1:Nat):Int) - 1=n from Int.add_sub_cancel (n:Int) 1]
noncomputable def upTo (s1 s2:WS):Nat:=max (longN s1) (longN s2)+1
theorem whn {α:Type} (p:α->Bool) (g:α->D):∀ (xs:List α) (acc:List D),xs.foldl (fun acc x=>if p x then acc++[g x] else acc) acc=acc++(xs.filter p).map g
 | [],acc=>by simp
 | x::xs,acc=>by
  rw [List.foldl_cons,whn p g xs]
  by_cases h:p x=true
  ·rw [if_pos h,List.filter_cons_of_pos h];simp
  ·rw [if_neg h,List.filter_cons_of_neg h]
noncomputable def okW (s:WS):Prop:=s.1.length<5000/\s.2.1<5000
noncomputable def rowD (s1 s2:WS) (ts:Nat):D:=.tuple [nD ts,nD (indN s1 ts),nD (indN s2 ts)]
theorem ldcapW {α:Type} {f:α->D} {l:List α} (h:l.length<=cap):(l.map f).length<=cap:=by rw [List.length_map];exact h
theorem askI {α:Type} {raw:Tx} {s:WS} {ts:Nat} (h:okW s) (ht:0<ts) (ht2:ts<10000) {K:D->Option α} {r:Option α} (k:K (nD (indN s ts))=r) :
  (objK (wD raw s) fun c fs=>if mOk T02 c fs (Str.ofString "indent_level")=true then (cmOf tm_1 c (Str.ofString "indent_level") [D.obj c fs,nD ts]).bind K else none)=r:=
 obW (ifP (whN raw s) (bnS ((whA raw s _).trans (wjG raw s ts (Nat.lt_trans h.1 (by decide)) ht ht2)) k))
theorem askL {α:Type} {raw:Tx} {s:WS} (h:okW s) {K:D->Option α} {r:Option α} (k:K (nD (longN s))=r) :
  (objK (wD raw s) fun c fs=>if mOk T02 c fs (Str.ofString "longest_run_of_spaces")=true then (cmOf tm_1 c (Str.ofString "longest_run_of_spaces") [D.obj c fs]).bind K else none)=r:=
 obW (ifP (wkM raw s) (bnS ((wkd raw s).trans ((wd4 raw s (Nat.le_trans (Nat.le_of_lt h.1) (by decide))).trans (by rw [wgc]))) k))
theorem wpa (a b:Nat):bfn .max [nD a,nD b]=some (nD (max a b)):=(wj1 _ _).trans (congrArg (fun z=>some (D.int z)) (castMax a b).symm)
theorem wqv (r1 r2:Tx) (s1 s2:WS) (h1:okW s1) (h2:okW s2) (m:D) (acc:List D) (ha:acc.length<=cap) (ts:Nat) (ht:0<ts) (ht2:ts<10000) (n b:List D->Option D) (r:D->Option D) :
  wal (wD r1 s1) (wD r2 s2) m acc (nD ts) n b r=n (if (!decide (indN s1 ts=indN s2 ts)) then acc++[rowD s1 s2 ts] else acc):=by
 unfold wal
 refine askI h1 ht ht2 (askI h2 ht ht2 (bnS (wkC _ _) ?_))
 cases decide (indN s1 ts=indN s2 ts) with
 | true=>exact ifF rfl
 | false=>exact ifT (askI h1 ht ht2 (askI h2 ht ht2 (ifP ha rfl)))
theorem wjX {s1 s2:WS} (h1:okW s1) (h2:okW s2):upTo s1 s2<5001:=by
 have a:=h1.1;have b:=h1.2;have c:=h2.1;have d:=h2.2
 exact Nat.succ_lt_succ (Nat.max_lt.mpr ⟨Nat.max_lt.mpr ⟨Nat.lt_of_le_of_lt (Nat.sub_le _ _) a,b⟩,Nat.max_lt.mpr ⟨Nat.lt_of_le_of_lt (Nat.sub_le _ _) c,d⟩⟩)
theorem rngU {a u:Nat} (h:u<5001) (ha:a<10000):rangeD [nD a,nD (u+1)]=some ((List.range' a (u+1 - a)).map nD):=rangeN (Nat.lt_trans (Nat.succ_lt_succ h) (by decide)) ha
theorem wd2 (r1 r2:Tx) (s1 s2:WS) (h1:okW s1) (h2:okW s2):wao (wD r1 s1) (wD r2 s2)=some (.list (((List.range' 1 (upTo s1 s2)).filter fun ts=>!decide (indN s1 ts=indN s2 ts)).map (rowD s1 s2))):=by
 have hu:=wjX h1 h2
 have hc:(List.range' 1 (upTo s1 s2)).length<=cap:=by rw [List.length_range'];exact Nat.le_trans (Nat.le_of_lt hu) (by decide)
 unfold wao
 refine askL h1 (askL h2 (bnS (wpa _ _) (bnS (a:=nD (upTo s1 s2)) rfl (bnS (a:=nD (upTo s1 s2+1)) rfl (bnS (a:=(List.range' 1 (upTo s1 s2)).map nD) (rngU (a:=1) hu (by decide)) (ifP (by rw [List.length_map];exact hc) ?_))))))
 have key:=weA (B:=wal (wD r1 s1) (wD r2 s2) (nD (upTo s1 s2))) nD (fun acc:List D=>acc) (fun acc ts=>if (!decide (indN s1 ts=indN s2 ts)) then acc++[rowD s1 s2 ts] else acc)
  (fun xs acc=>(∀ x∈xs,0<x/\x<10000)/\acc.length+xs.length<=cap) (next:=fun s=>some (.list s)) (ret:=some) (List.range' 1 (upTo s1 s2)) []
  (fun x xs acc hi=>by
   obtain ⟨h3,h4⟩:=hi
   have h4:acc.length+xs.length+1<=cap:=h4
   have hx:=h3 x List.mem_cons_self
   refine ⟨⟨fun y hy=>h3 y (List.mem_cons_of_mem _ hy),?_⟩,fun n b r=>wqv r1 r2 s1 s2 h1 h2 _ acc (Nat.le_trans (Nat.le_add_right _ _) (Nat.le_of_succ_le h4)) x hx.1 hx.2 n b r⟩
   split
   ·rw [List.length_append,Nat.add_right_comm];exact h4
   ·exact Nat.le_of_succ_le h4)
  ⟨fun x hx=>by have:=List.mem_range'_1.mp hx;omega,by rw [List.length_nil,Nat.zero_add];exact hc⟩
 exact key.trans (by rw [whn,List.nil_append])
noncomputable def lessB (s1 s2:WS):Bool:=
 if s1.2.2.1>=s2.2.2.1 then false
 else if s1.1.length<=1/\s2.1.length<=1 then decide (s1.2.2.2<=s2.2.2.2)
 else (List.range' 2 (upTo s1 s2 - 1)).all fun ts=>decide (indN s1 ts<indN s2 ts)
theorem wpf (r1 r2:Tx) (s1 s2:WS) (h1:okW s1) (h2:okW s2) (m:D) (ts:Nat) (ht:0<ts) (ht2:ts<10000) (n b:Unit->Option D) (r:D->Option D) :
  waK (wD r1 s1) (wD r2 s2) m () (nD ts) n b r=if indN s1 ts<indN s2 ts then n () else r (.bool false):=by
 unfold waK
 refine askI h1 ht ht2 (askI h2 ht ht2 (bnS (ge_int _ _) ?_))
 by_cases h:indN s1 ts<indN s2 ts
 ·rw [if_pos h];exact ifN (fun e=>Nat.not_le.mpr h (Int.ofNat_le.mp (of_decide_eq_true e))) rfl
 ·rw [if_neg h];exact ifP (decide_eq_true (Int.ofNat_le.mpr (Nat.not_lt.mp h))) rfl
theorem wks (r1 r2:Tx) (s1 s2:WS) (h1:okW s1) (h2:okW s2) (m:D):∀ l:List Nat,(∀ x∈l,0<x/\x<10000) ->
  forS (waK (wD r1 s1) (wD r2 s2) m) (l.map nD) () (fun _=>some (.bool true)) some=some (.bool (l.all fun ts=>decide (indN s1 ts<indN s2 ts)))
 | [],_=>rfl
 | x::l,h=>by
  show waK (wD r1 s1) (wD r2 s2) m () (nD x) _ _ _=_
  rw [wpf r1 r2 s1 s2 h1 h2 m x (h x (by simp)).1 (h x (by simp)).2]
  split
  ·rename_i hx
   rw [wks r1 r2 s1 s2 h1 h2 m l fun y hy=>h y (by simp [hy])]
   simp [hx]
  ·rename_i hx
   simp [hx]
theorem wdp (r1 r2:Tx) (s1 s2:WS) (h1:okW s1) (h2:okW s2):wa9 (wD r1 s1) (wD r2 s2)=some (.bool (lessB s1 s2)):=by
 have hu:=wjX h1 h2
 unfold wa9 lessB
 refine bnS (w_n _ _) (bnS (w_n _ _) (bnS (ge_int _ _) ?_))
 by_cases hn:s1.2.2.1>=s2.2.2.1
 ·rw [if_pos hn];exact ifP (decide_eq_true (Int.ofNat_le.mpr hn)) rfl
 ·rw [if_neg hn]
  refine ifN (fun e=>hn (Int.ofNat_le.mp (of_decide_eq_true e))) (bnS (a:=decide (s1.1.length<=1/\s2.1.length<=1)) (bnS (wkT _ _) ?_) ?_)
  ·show (if _ then _ else _)=_
   by_cases a:s1.1.length<=1
   ·refine ifP (decide_eq_true a) (bnS (wkT _ _) ?_)
    by_cases b:s2.1.length<=1
    ·exact ifP (decide_eq_true b) (congrArg some (decide_eq_true ⟨a,b⟩).symm)
    ·exact ifN (fun e=>b (of_decide_eq_true e)) (congrArg some (decide_eq_false fun q=>b q.2).symm)
   ·exact ifN (fun e=>a (of_decide_eq_true e)) (congrArg some (decide_eq_false fun q=>a q.1).symm)
  ·by_cases hs:s1.1.length<=1/\s2.1.length<=1
   ·rw [if_pos hs]
    exact ifP (decide_eq_true hs) (bnS (w_nt _ _) (bnS (w_nt _ _) (bnS (le_int _ _) (congrArg (fun b=>some (D.bool b)) (decide_eq_decide.mpr Int.ofNat_le)))))
   ·rw [if_neg hs]
    refine ifN (fun e=>hs (of_decide_eq_true e)) (askL h1 (askL h2 (bnS (wpa _ _) (bnS (a:=nD (upTo s1 s2)) rfl (bnS (a:=nD (upTo s1 s2+1)) rfl (bnS (a:=(List.range' 2 (upTo s1 s2 - 1)).map nD) (rngU (a:=2) hu (by decide)) (ifP (ldcapW ?_) (wks r1 r2 s1 s2 h1 h2 _ _ fun x hx=>?_))))))))
    ·rw [List.length_range'];exact Nat.le_trans (Nat.sub_le _ _) (Nat.le_trans (Nat.le_of_lt hu) (by decide))
    ·have:=List.mem_range'_1.mp hx;omega
theorem neg1:unop .USub (.int 1)=some (.int (-1)):=rfl
theorem bo1:(boundOk none&&boundOk (some (-1)))=true:=by decide
theorem wq1 (xs:List D) (x:D) (h:xs.length<9000):cutD none (some (-1)) (.list (xs++[x]))=some (.list xs):=by
 show (if _ then _ else _)=_
 rw [if_pos (by simp only [List.length_append,List.length_cons,List.length_nil,waa];omega)]
 have e:clipAt (xs.length+1) (-1)=xs.length:=by unfold clipAt;rw [if_pos (by decide)];omega
 unfold cut
 simp only [Option.elim_none,Option.elim_some,List.length_append,List.length_cons,List.length_nil,List.drop_zero,Nat.sub_zero,Nat.zero_add,e]
 simp
theorem wkY (xs:List D) (x:D) (h:xs.length<9000):sub (.list (xs++[x])) (.int (-1))=some x:=by
 rw [wiR]
 unfold nth
 rw [if_neg (by decide),if_pos (by simp only [List.length_append,List.length_cons,List.length_nil];omega)]
 have:((-1:Int)+((xs++[x]).length:Int)).toNat=xs.length:=by simp only [List.length_append,List.length_cons,List.length_nil];omega
 rw [this];simp
theorem wcc {xs ys:List D} (h:xs.length+ys.length<=cap):binop .Add (.list xs) (.list ys)=some (.list (xs++ys)):=if_pos h
theorem wi7:∀ (r:List Nat) (x:Nat),bestBy (fun a b=>ltS b a) (nD x) (r.map nD)=some (nD (r.foldl max x))
 | [],x=>rfl
 | y::r,x=>by
  simp only [List.map_cons,bestBy,List.foldl_cons]
  have e:ltS (nD x) (nD y)=some (decide (x<y)):=by
   show ltS (.int x) (.int y)=_
   show some (decide ((x:Int)<y))=_
   congr 2;simp
  rw [e,Option.bind_some]
  by_cases h:x<y
  ·rw [if_pos (by simpa using h),wi7 r y,show max x y=y by omega]
  ·rw [if_neg (by simpa using h),wi7 r x,show max x y=x by omega]
theorem waF {l:List Nat} (h:l≠[]):bfn .max [.list (l.map nD)]=some (nD (mx l)):=by
 cases l with
 | nil=>exact absurd rfl h
 | cons x r=>
  show bestBy _ (nD x) (r.map nD)=_
  rw [wi7];unfold mx;rw [List.foldl_cons,Nat.max_eq_right (Nat.zero_le _)]
theorem wd3 (i:List Nat) (g:Nat):mx (i++[g])=max (mx i) g:=by unfold mx;rw [List.foldl_append];rfl
theorem wio {gaps:List Nat} (h:gaps≠[]):longN (ldS gaps 0)=mx gaps:=by
 unfold longN ldS;simp only [wd5 h];omega
theorem wgO {gaps:List Nat} {beh:Nat} (h1:gaps.sum<1000) (h2:beh<1000):okW (ldS gaps beh):=by
 refine ⟨?_,by simpa [ldS] using (by omega)⟩
 show (cntOf gaps).length<5000
 have a:=wjR gaps
 have b:mx gaps<=gaps.sum:=wil fun g hg=>wbu hg
 omega
theorem ws0 (l:List Nat):mx l.reverse=mx l:=by
 apply Nat.le_antisymm
 ·exact wil fun g hg=>wkO (by simpa using hg)
 ·exact wil fun g hg=>wkO (by simpa using hg)
theorem wso {l:List Nat} (h:l≠[]):cntOf l.reverse=cntOf l:=by
 rw [wmb h,wmb (by simpa using h),ws0]
 congr 1;funext i;simp
theorem wq7 (i:List Nat) (g:Nat):cntOf (i++[g])≠cntOf (i++[g+1]):=by
 intro h
 have:=congrArg (fun l:List Nat=>l.getD g 0) h
 simp only [wma,List.count_append]at this
 simp at this
theorem wgl (i:List Nat) (g ts:Nat):colN (i++[g]) ts=colN i ts+(g / ts * ts+ts):=by unfold colN;simp
theorem wqy (i:List Nat) (g ts:Nat) (h:0<ts):colN (i++[g]) ts=colN (i++[g+1]) ts ↔ ¬ (g+1) % ts=0:=by
 rw [wgl,wgl,Nat.succ_div,<- Nat.dvd_iff_mod_eq_zero]
 by_cases hd:ts ∣ g+1
 ·rw [if_pos hd,Nat.add_mul];simp [hd];omega
 ·rw [if_neg hd];simp [hd]
theorem wkL {l:List Nat} (h:l≠[]):∃ i g,l=i++[g]:=⟨l.dropLast,l.getLast h,(List.dropLast_concat_getLast h).symm⟩
theorem wed (i:List Nat) (g:Nat):(i++[g]).map nD=i.map nD++[nD g]:=by simp
theorem wrL (n:Nat) (a b c:Nat):Pln (n+1) (.tuple [nD a,nD b,nD c]):=by
 refine .tuple n _ fun x hx=>?_
 simp only [List.mem_cons,List.not_mem_nil,or_false]at hx
 rcases hx with rfl | rfl | rfl<;>exact .int _ _
theorem wql {l:List Nat} {f:Nat->D} (h:∀ x∈l,Pln 1 (f x)):Pln 2 (.list (l.map f)):=.list 1 _ fun x hx=>by
 simp only [List.mem_map]at hx;obtain ⟨y,hy,rfl⟩:=hx;exact h y hy
theorem wul (gaps:List Nat) (h:gaps.sum+gaps.length<4000):wah (.list (gaps.map nD)) (.str [])=some (ldW gaps 0):=wj2 gaps 0 (by omega)
theorem wuk (gaps:List Nat) (h:gaps.sum+gaps.length+1<4000):wah (.list (gaps.map nD)) (.str [32])=some (ldW gaps 1):=wj2 gaps 1 h
theorem wnw (l:List D) (h:l.length<9000):∀ k∈List.range' 1 l.length,(unop .USub (nD k)).bind (fun x=>(sub (.list l) x).bind fun y=>some y)=some (l.reverse[k - 1]?.getD .none):=by
 intro k hk
 obtain ⟨h1,h2⟩:=List.mem_range'_1.mp hk
 cases k with
 | zero=>exact absurd h1 (by decide)
 | succ j=>
  have h2:j+1<l.length+1:=Nat.add_comm 1 l.length ▸ h2
  have hj:j<l.length:=Nat.lt_of_succ_lt_succ h2
  have hs:l.length - (j+1)<l.length:=Nat.sub_lt_of_pos_le (Nat.succ_pos j) hj
  have e:sub (.list l) (.int (-((j+1:Nat):Int)))=l[l.length - (j+1)]?:=by
   rw [wiR]
   unfold nth
   rw [if_neg (by omega),if_pos (by omega)]
   rw [show (-((j+1:Nat):Int)+(l.length:Int)).toNat=l.length - (j+1) by omega]
  refine bnS (neg_int _) (bnS (e.trans (List.getElem?_eq_getElem hs)) ?_)
  rw [Nat.add_sub_cancel,List.getElem?_reverse hj,Nat.sub_sub,Nat.add_comm 1 j,List.getElem?_eq_getElem hs];rfl
theorem wkj (l:List D):(List.range' 1 l.length).map (fun k=>l.reverse[k - 1]?.getD .none)=l.reverse:=by
 apply List.ext_getElem
 ·simp
 ·intro i h1 h2
  simp only [List.getElem_map,List.getElem_range']
  rw [show 1+1 * i - 1=i by omega,List.getElem?_eq_getElem h2];rfl
theorem wdX (n:Nat) (h:n<10000):binop .Mult (.str [32]) (nD n)=some (.str (List.replicate n 32)):=by
 show (if _ then _ else _)=_
 rw [if_pos ⟨rfl,by omega,by omega⟩];simp
theorem wqt (r1 r2:Tx) (s1 s2:WS) (h1:okW s1) (h2:okW s2) (m:D) (acc:List D) (ha:acc.length<=cap) (ts:Nat) (ht:0<ts) (ht2:ts<10000) (n b:List D->Option D) (r:D->Option D) :
  wap (wD r1 s1) (wD r2 s2) m acc (nD ts) n b r=n (if decide (indN s2 ts<=indN s1 ts) then acc++[rowD s1 s2 ts] else acc):=by
 have e1:=wjG r1 s1 ts (by have:=h1.1;omega) ht ht2
 have e2:=wjG r2 s2 ts (by have:=h2.1;omega) ht ht2
 unfold wap
 rw [whM,if_pos (whN r1 s1),whA,e1,Option.bind_some,whM,if_pos (whN r2 s2),whA,e2,Option.bind_some]
 rw [ge_int,Option.bind_some]
 by_cases h:indN s2 ts<=indN s1 ts
 ·rw [if_pos (by simp;omega),if_pos (by simpa using h)]
  rw [whM,if_pos (whN r1 s1),whA,e1,Option.bind_some,whM,if_pos (whN r2 s2),whA,e2,Option.bind_some,if_pos ha]
  rfl
 ·rw [if_neg (by simp;omega),if_neg (by simpa using h)]
theorem wnt (r1 r2:Tx) (s1 s2:WS) (h1:okW s1) (h2:okW s2):wat (wD r1 s1) (wD r2 s2)=some (.list (((List.range' 1 (upTo s1 s2)).filter fun ts=>decide (indN s2 ts<=indN s1 ts)).map (rowD s1 s2))):=by
 have hu:=wjX h1 h2
 unfold wat
 rw [whM,if_pos (wkM r1 s1),wkd,wd4 _ _ (by have:=h1.1;rw [waa];omega),Option.bind_some,whM,if_pos (wkM r2 s2),wkd,wd4 _ _ (by have:=h2.1;rw [waa];omega),Option.bind_some]
 rw [wj1,Option.bind_some,wgc,wgc,add_int,Option.bind_some,add_int,Option.bind_some]
 have eN:(max (longN s1:Int) (longN s2:Int)+1+1)=((upTo s1 s2+1:Nat):Int):=by unfold upTo;omega
 rw [eN,show D.int 1=D.int ((1:Nat):Int) from rfl,rangeN (by omega) (by omega),Option.bind_some,Nat.add_sub_cancel]
 rw [if_pos (by simp only [List.length_map,List.length_range',waa];omega)]
 have key:=weA (B:=wap (wD r1 s1) (wD r2 s2) (.int (max (longN s1:Int) (longN s2:Int)+1))) nD (fun acc:List D=>acc) (fun acc ts=>if decide (indN s2 ts<=indN s1 ts) then acc++[rowD s1 s2 ts] else acc)
  (fun xs acc=>(∀ x∈xs,0<x/\x<10000)/\acc.length+xs.length<=cap) (next:=fun s=>some (.list s)) (ret:=some) (List.range' 1 (upTo s1 s2)) []
  (fun x xs acc hi=>by
   obtain ⟨h3,h4⟩:=hi
   simp only [List.length_cons]at h4
   refine ⟨⟨fun y hy=>h3 y (by simp [hy]),?_⟩,fun n b r=>wqt r1 r2 s1 s2 h1 h2 _ acc (by omega) x (h3 x (by simp)).1 (h3 x (by simp)).2 n b r⟩
   split
   ·simp only [List.length_append,List.length_cons,List.length_nil];omega
   ·omega)
  ⟨fun x hx=>by rw [List.mem_range'_1]at hx;omega,by simp only [List.length_nil,List.length_range',waa];omega⟩
 rw [key,whn,List.nil_append]
noncomputable def rawT (gaps:List Nat) (beh:Nat):Tx:=ldT gaps beh++120::restT
theorem wbU (gaps:List Nat) (h:gaps.sum+gaps.length<4000):wah (.list (gaps.map nD)) (.str [])=some (wD (rawT gaps 0) (ldS gaps 0)):=wul gaps h
theorem wdH (gaps:List Nat) (h:gaps.sum+gaps.length+1<4000):wah (.list (gaps.map nD)) (.str [32])=some (wD (rawT gaps 1) (ldS gaps 1)):=wuk gaps h
theorem leadwb (gaps:List Nat) (beh:Nat) (h:gaps.sum+gaps.length+beh<4000):wah (.list (gaps.map nD)) (.str (List.replicate beh 32))=some (wD (rawT gaps beh) (ldS gaps beh)):=wj2 gaps beh h
theorem add1 (n:Nat):binop .Add (nD n) (.int 1)=some (nD (n+1)):=rfl
theorem add2 (n:Nat):binop .Add (nD n) (.int 2)=some (nD (n+2)):=rfl
theorem addnn (n m:Nat):binop .Add (nD n) (nD m)=some (nD (n+m)):=rfl
theorem modnn (n:Nat) {m:Nat} (h:0<m):binop .Mod (nD n) (nD m)=some (nD (n % m)):=modN n h
theorem rng0 {b:Nat} (h:b<10000):rangeD [nD b]=some ((List.range b).map nD):=wsL h
theorem rng1 {b:Nat} (h:b+1<10000):rangeD [.int 1,nD (b+1)]=some ((List.range' 1 b).map nD):=by
 have:=rangeN (a:=1) h (by omega)
 rw [Nat.add_sub_cancel]at this;exact this
theorem wji {xs:List D} (h:xs.length<=cap):bfn .tuple [.list xs]=some (.tuple xs):=if_pos h
theorem wkP (n m:Nat):cmpD .Eq (nD n) (nD m)=some (decide (n=m)):=wkD n m
theorem lenD {α:Type} (f:α->D) (l:List α) (h:l.length<=cap):bfn .len [.list (l.map f)]=some (nD l.length):=by
 rw [wgd (by simpa using h)];simp [nD]
theorem ldcap {α:Type} (f:α->D) {l:List α} (h:l.length<=cap):(l.map f).length<=cap:=by simpa using h
theorem wlT {α:Type} (i:Int) (k:Int->Option α):intK (.int i) k=k i:=rfl
theorem ff {α:Sort _} (a b:α):(if false=true then a else b)=b:=rfl
theorem tt {α:Sort _} (a b:α):(if true=true then a else b)=a:=rfl
theorem wdI (b:Bool):(if b then some true else some false)=some b:=by cases b<;>rfl
theorem wrY (i:List Nat) (g:Nat):mx (i++[g])<=mx (i++[g+1]):=by rw [wd3,wd3];omega
theorem woE (i:List Nat) (g:Nat):upTo (ldS (i++[g]) 0) (ldS (i++[g+1]) 0)=mx (i++[g+1])+1:=by
 unfold upTo
 rw [wio (by simp),wio (by simp)]
 have:=wrY i g;omega
theorem wrv (i:List Nat) (g:Nat):((List.range' 1 (upTo (ldS (i++[g]) 0) (ldS (i++[g+1]) 0))).filter fun ts=>!decide (indN (ldS (i++[g]) 0) ts=indN (ldS (i++[g+1]) 0) ts)).map (rowD (ldS (i++[g]) 0) (ldS (i++[g+1]) 0)) =
  ((List.range' 1 (mx (i++[g+1])+1)).filter fun d=>decide ((g+1) % d=0)).map fun d=>.tuple [nD d,nD (colN (i++[g]) d),nD (colN (i++[g+1]) d)]:=by
 rw [woE]
 have e:(List.range' 1 (mx (i++[g+1])+1)).filter (fun ts=>!decide (indN (ldS (i++[g]) 0) ts=indN (ldS (i++[g+1]) 0) ts))=(List.range' 1 (mx (i++[g+1])+1)).filter fun d=>decide ((g+1) % d=0):=by
  apply List.filter_congr
  intro d hd
  rw [List.mem_range'_1]at hd
  rw [waB,waB]
  have:=wqy i g d (by omega)
  by_cases h:(g+1) % d=0<;>simp_all
 rw [e]
 apply List.map_congr_left
 intro d _
 unfold rowD
 rw [waB,waB,Nat.zero_add,Nat.zero_add]
theorem wkl {l:List Nat} {g:Nat} (h:g∈l) (hg:0<g):1<=mx l:=by have:=wkO h;omega
theorem wlO {gaps:List Nat} (h:gaps≠[]) (b:Nat):longN (ldS gaps b)=max (mx gaps) b:=by
 unfold longN ldS;simp only [wd5 h,Nat.add_sub_cancel]
theorem wnU {gaps:List Nat} (h:gaps≠[]) (h1:1<=mx gaps):((List.range' 1 (upTo (ldS gaps 0) (ldS gaps 1))).filter fun ts=>!decide (indN (ldS gaps 0) ts=indN (ldS gaps 1) ts)).map (rowD (ldS gaps 0) (ldS gaps 1)) =
  (List.range' 1 (mx gaps+1)).map fun d=>.tuple [nD d,nD (colN gaps d),nD (colN gaps d+1)]:=by
 have e1:upTo (ldS gaps 0) (ldS gaps 1)=mx gaps+1:=by
  unfold upTo;rw [wlO h,wlO h];omega
 rw [e1,List.filter_eq_self.mpr]
 ·apply List.map_congr_left
  intro d _
  unfold rowD
  rw [waB,waB,Nat.zero_add,Nat.add_comm]
 ·intro d _
  rw [waB,waB]
  simp
theorem wmt {gaps:List Nat} (h:gaps≠[]) (h1:1<=mx gaps):lessB (ldS gaps 0) (ldS gaps 1)=true:=by
 unfold lessB
 rw [if_neg (by simp only [ldS];omega),if_neg (by simp only [ldS,wd5 h];omega)]
 rw [List.all_eq_true]
 intro d _
 rw [waB,waB];simp
theorem wjA (gaps:List Nat):lessB (ldS gaps 1) (ldS gaps 0)=false:=by
 unfold lessB
 rw [if_pos (by simp only [ldS];omega)]
theorem wqr (g ts:Nat) (h:0<ts):g+2<=g / ts * ts+ts ↔ ¬ (g+1) % ts=0:=by
 have e:=Nat.div_add_mod g ts
 have l:=Nat.mod_lt g h
 rw [Nat.mul_comm]at e
 have e2:(g+1) % ts=if g % ts+1=ts then 0 else g % ts+1:=by
  split
  ·rename_i q
   have:g+1=(g / ts+1) * ts:=by rw [Nat.add_mul];omega
   rw [this,Nat.mul_mod_left]
  ·rename_i q
   have:g+1=ts * (g / ts)+(g % ts+1):=by rw [Nat.mul_comm];omega
   rw [this,Nat.mul_add_mod,Nat.mod_eq_of_lt (by omega)]
 rw [e2]
 split<;>omega
theorem wmx (i:List Nat):(cntOf i).length - 1<=mx i:=Nat.sub_le_of_le_add (wjR i)
theorem wkf (i:List Nat) (g:Nat):upTo (ldS (i++[g]) 0) (ldS i (g+2))=mx ((i++[g])++[g+2])+1:=by
 unfold upTo
 rw [wio (by simp),wd3 (i++[g]),wd3 i]
 have:longN (ldS i (g+2))=max ((cntOf i).length - 1) (g+2):=rfl
 rw [this,<- Nat.max_assoc,Nat.max_eq_left (Nat.le_trans (wmx i) (Nat.le_max_left _ _))]
theorem wp2 (i:List Nat) (g:Nat):((List.range' 1 (upTo (ldS (i++[g]) 0) (ldS i (g+2)))).filter fun ts=>decide (indN (ldS i (g+2)) ts<=indN (ldS (i++[g]) 0) ts)).map (rowD (ldS (i++[g]) 0) (ldS i (g+2))) =
  ((List.range' 1 (mx ((i++[g])++[g+2])+1)).filter fun d=>!decide ((g+1) % d=0)).map fun d=>.tuple [nD d,nD (colN (i++[g]) d),nD (colN i d+g+2)]:=by
 rw [wkf]
 have e:(List.range' 1 (mx ((i++[g])++[g+2])+1)).filter (fun ts=>decide (indN (ldS i (g+2)) ts<=indN (ldS (i++[g]) 0) ts))=(List.range' 1 (mx ((i++[g])++[g+2])+1)).filter fun d=>!decide ((g+1) % d=0):=by
  apply List.filter_congr
  intro d hd
  rw [List.mem_range'_1]at hd
  rw [waB,waB,wgl]
  have:=wqr g d (by omega)
  have h5:decide (g+2+colN i d<=0+(colN i d+(g / d * d+d)))=decide (g+2<=g / d * d+d):=by
   congr 1;exact propext ⟨fun h=>by omega,fun h=>by omega⟩
  rw [h5]
  by_cases h:(g+1) % d=0<;>simp_all
 rw [e]
 apply List.map_congr_left
 intro d _
 unfold rowD
 rw [waB,waB,Nat.zero_add,show g+2+colN i d=colN i d+g+2 by omega]
theorem wkK (i:List Nat) (g:Nat) (hg:0<g):lessB (ldS (i++[g]) 0) (ldS i (g+2))=false:=by
 unfold lessB
 rw [if_neg (by simp only [ldS,List.sum_append,List.length_append,List.sum_cons,List.sum_nil,List.length_cons,List.length_nil];omega)]
 rw [if_neg (by
  have:1<=mx (i++[g]):=wkl (g:=g) (by simp) hg
  simp only [ldS,wd5 (gaps:=i++[g]) (by simp)];omega)]
 rw [List.all_eq_false]
 refine ⟨g+2,?_,?_⟩
 ·rw [List.mem_range'_1,wkf,wd3];omega
 ·rw [waB,waB,wgl,Nat.div_eq_of_lt (show g<g+2 by omega)]
  simp;omega
theorem we4 {l:List Nat} (a b c:Nat->Nat):Pln 2 (.list (l.map fun d=>.tuple [nD (a d),nD (b d),nD (c d)])):=wql fun x _=>wrL 0 _ _ _
theorem wnT (i:List Nat) (g:Nat) (hs:(i++[g]).sum<400) (hl:(i++[g]).length<100) (hp:∀ x∈i++[g],0<x):wbc (.list ((i++[g]).map nD))=some (.bool true):=by
 have hsum:(i++[g]).sum=i.sum+g:=by simp
 have hlen:(i++[g]).length=i.length+1:=by simp
 have hsum':(i++[g+1]).sum=i.sum+g+1:=by simp;omega
 have hlen':(i++[g+1]).length=i.length+1:=by simp
 have hne:i++[g]≠[]:=by simp
 have hne':i++[g+1]≠[]:=by simp
 have hmx:mx (i++[g])<=(i++[g]).sum:=wil fun g hg=>wbu hg
 have hmx':mx (i++[g+1])<=(i++[g+1]).sum:=wil fun g hg=>wbu hg
 have hg1:0<g:=hp g (by simp)
 have hcut:cutD none (some (-1)) (.list ((i++[g]).map nD))=some (.list (i.map nD)):=by
  rw [wed];exact wq1 _ _ (by simp;omega)
 have hsub:sub (.list ((i++[g]).map nD)) (.int (-1))=some (nD g):=by
  rw [wed];exact wkY _ _ (by simp;omega)
 have hsub':sub (.list ((i++[g+1]).map nD)) (.int (-1))=some (nD (g+1)):=by
  rw [wed];exact wkY _ _ (by simp;omega)
 have hcat:binop .Add (.list (i.map nD)) (.list [nD (g+1)])=some (.list ((i++[g+1]).map nD)):=by
  rw [wed];exact wcc (by simp only [List.length_map,List.length_cons,List.length_nil,waa];omega)
 have k0:=wgO (gaps:=i++[g]) (beh:=0) (by omega) (by omega)
 have k1:=wgO (gaps:=i++[g]) (beh:=1) (by omega) (by omega)
 have km:=wgO (gaps:=i++[g+1]) (beh:=0) (by omega) (by omega)
 have ko:=wgO (gaps:=i) (beh:=g+2) (by omega) (by omega)
 have hcol:∀ d,0<d->d<1000->waj (.list ((i++[g]).map nD)) (nD d)=some (nD (colN (i++[g]) d)):=fun d h h2=>
  whx _ d h (by omega) (by omega) (by omega) (by have:=Nat.mul_le_mul_left (i++[g]).length (Nat.le_of_lt h2);have:=Nat.mul_le_mul_right d (Nat.le_of_lt hl);omega)
 have hcol':∀ d,0<d->d<1000->waj (.list ((i++[g+1]).map nD)) (nD d)=some (nD (colN (i++[g+1]) d)):=fun d h h2=>
  whx _ d h (by omega) (by omega) (by omega) (by have:=Nat.mul_le_mul_right d (show (i++[g+1]).length<=99 by omega);omega)
 have hcoli:∀ d,0<d->d<1000->waj (.list (i.map nD)) (nD d)=some (nD (colN i d)):=fun d h h2=>
  whx _ d h (by omega) (by omega) (by omega) (by have:=Nat.mul_le_mul_right d (show i.length<=99 by omega);omega)
 unfold wbc
 first | refine bn2 (wbU _ (by omega)) (neg1) ?_ | ((first | refine bnS (wbU _ (by omega)) ?_ | rw [wbU _ (by omega)]);(repeat (with_reducible refine bnV ?_));(first | refine bnS (neg1) ?_ | rw [neg1]);(repeat (with_reducible refine bnV ?_)))
 repeat (with_reducible refine bnV ?_)
 refine inS ?_
 repeat (with_reducible refine bnV ?_)
 refine ifP (bo1) ?_
 repeat (with_reducible refine bnV ?_)
 first | refine bn4 (hcut) (neg1) (hsub) (add1 _) ?_ | ((first | refine bnS (hcut) ?_ | rw [hcut]);(repeat (with_reducible refine bnV ?_));(first | refine bnS (neg1) ?_ | rw [neg1]);(repeat (with_reducible refine bnV ?_));(first | refine bnS (hsub) ?_ | rw [hsub]);(repeat (with_reducible refine bnV ?_));(first | refine bnS (add1 _) ?_ | rw [add1 _]);(repeat (with_reducible refine bnV ?_)))
 repeat (with_reducible refine bnV ?_)
 first | refine bn3 (hcat) (neg1) (hsub) ?_ | ((first | refine bnS (hcat) ?_ | rw [hcat]);(repeat (with_reducible refine bnV ?_));(first | refine bnS (neg1) ?_ | rw [neg1]);(repeat (with_reducible refine bnV ?_));(first | refine bnS (hsub) ?_ | rw [hsub]);(repeat (with_reducible refine bnV ?_)))
 repeat (with_reducible refine bnV ?_)
 refine bnS (a:=false) ?_ (ifF ?_)
 ·skip
  first | refine bn4 (wd6 _ _) (waF hne) (add1 _) (rng0 (by omega)) ?_ | ((first | refine bnS (wd6 _ _) ?_ | rw [wd6 _ _]);(repeat (with_reducible refine bnV ?_));(first | refine bnS (waF hne) ?_ | rw [waF hne]);(repeat (with_reducible refine bnV ?_));(first | refine bnS (add1 _) ?_ | rw [add1 _]);(repeat (with_reducible refine bnV ?_));(first | refine bnS (rng0 (by omega)) ?_ | rw [rng0 (by omega)]);(repeat (with_reducible refine bnV ?_)))
  repeat (with_reducible refine bnV ?_)
  refine ifP (ldcap _ (by simp only [List.length_range,waa];omega)) ?_
  repeat (with_reducible refine bnV ?_)
  refine bnS (waJ nD (fun w=>nD ((i++[g]).count w)) (List.range (mx (i++[g])+1)) ?c1) ?_
  case c1=>
   intro w _
   first | refine bnP (waU _) (ldcap _ (by rw [waa];omega)) ?_ | ((first | refine bnS (waU _) ?_ | rw [waU _]);(repeat (with_reducible refine bnV ?_));(refine ifP (ldcap _ (by rw [waa];omega)) ?_);(repeat (with_reducible refine bnV ?_)))
   repeat (with_reducible refine bnV ?_)
   first | refine bnS (wbj nD (fun x=>decide (x=w)) (fun _=>.int 1) _ (fun x _=>by rw [wkP,Option.bind_some,wdI]) (fun _ _ _=>rfl)) ?_ | rw [wbj nD (fun x=>decide (x=w)) (fun _=>.int 1) _ (fun x _=>by rw [wkP,Option.bind_some,wdI]) (fun _ _ _=>rfl)]
   repeat (with_reducible refine bnV ?_)
   first | refine bnS (lenD _ _ (by have:=List.length_filter_le (fun x=>decide (x=w)) (i++[g]);rw [waa];omega)) ?_ | rw [lenD _ _ (by have:=List.length_filter_le (fun x=>decide (x=w)) (i++[g]);rw [waa];omega)]
   repeat (with_reducible refine bnV ?_)
   congr 2
   rw [List.count_eq_countP,List.countP_eq_length_filter]
   congr 2
  first | refine bnS (wji (ldcap _ (by simp only [List.length_range,waa];omega))) ?_ | rw [wji (ldcap _ (by simp only [List.length_range,waa];omega))]
  repeat (with_reducible refine bnV ?_)
  rw [show (List.range (mx (i++[g])+1)).map (fun w=>nD ((i++[g]).count w))=(cntOf (i++[g])).map nD by rw [wmb hne,List.map_map];rfl]
  first | refine bnS ((show cmpD .NotEq (D.tuple [D.tuple ((ldS (i++[g]) 0).1.map nD),nD (ldS (i++[g]) 0).2.1]) (D.tuple [D.tuple ((cntOf (i++[g])).map nD),D.int 0])=some false from wa8 (wf9 _ 0) (by decide))) ?_ | rw [(show cmpD .NotEq (D.tuple [D.tuple ((ldS (i++[g]) 0).1.map nD),nD (ldS (i++[g]) 0).2.1]) (D.tuple [D.tuple ((cntOf (i++[g])).map nD),D.int 0])=some false from wa8 (wf9 _ 0) (by decide))]
  repeat (with_reducible refine bnV ?_)
  refine ifF ?_
  repeat (with_reducible refine bnV ?_)
  refine obW ?_
  repeat (with_reducible refine bnV ?_)
  refine ifP (wkM _ _) ?_
  repeat (with_reducible refine bnV ?_)
  first | refine bn2 (((wkc _ _).trans (wd4 _ _ (by have:=k0.1;rw [waa];omega)))) (waF hne) ?_ | ((first | refine bnS (((wkc _ _).trans (wd4 _ _ (by have:=k0.1;rw [waa];omega)))) ?_ | rw [((wkc _ _).trans (wd4 _ _ (by have:=k0.1;rw [waa];omega)))]);(repeat (with_reducible refine bnV ?_));(first | refine bnS (waF hne) ?_ | rw [waF hne]);(repeat (with_reducible refine bnV ?_)))
  repeat (with_reducible refine bnV ?_)
  rw [wgc,wio hne]
  first | refine bnS ((show cmpD .NotEq (D.int ((mx (i++[g]):Nat):Int)) (nD (mx (i++[g])))=some false from wa8 (.int 0 _) (by decide))) ?_ | rw [(show cmpD .NotEq (D.int ((mx (i++[g]):Nat):Int)) (nD (mx (i++[g])))=some false from wa8 (.int 0 _) (by decide))]
  repeat (with_reducible refine bnV ?_)
  rfl
 have he1:decide ((ldS (i++[g]) 0).1=(ldS (i++[g]).reverse 0).1/\(ldS (i++[g]) 0).2.1=(ldS (i++[g]).reverse 0).2.1)=true:=decide_eq_true ⟨(wso hne).symm,rfl⟩
 have he2:decide ((ldS (i++[g]) 0).1=(ldS (i++[g+1]) 0).1/\(ldS (i++[g]) 0).2.1=(ldS (i++[g+1]) 0).2.1)=false:=decide_eq_false fun h=>wq7 i g h.1
 refine bnS (a:=false) ?_ (ifF ?_)
 ·skip
  refine obW ?_
  repeat (with_reducible refine bnV ?_)
  refine ifP (wrj _ _) ?_
  repeat (with_reducible refine bnV ?_)
  first | refine bn3 (lenD nD _ (by rw [waa];omega)) (add1 _) (rng1 (b:=(i++[g]).length) (by omega)) ?_ | ((first | refine bnS (lenD nD _ (by rw [waa];omega)) ?_ | rw [lenD nD _ (by rw [waa];omega)]);(repeat (with_reducible refine bnV ?_));(first | refine bnS (add1 _) ?_ | rw [add1 _]);(repeat (with_reducible refine bnV ?_));(first | refine bnS (rng1 (b:=(i++[g]).length) (by omega)) ?_ | rw [rng1 (b:=(i++[g]).length) (by omega)]);(repeat (with_reducible refine bnV ?_)))
  repeat (with_reducible refine bnV ?_)
  refine ifP (ldcap _ (by simp only [List.length_range',waa];omega)) ?_
  repeat (with_reducible refine bnV ?_)
  refine bnS (waJ nD (fun k=>((i++[g]).map nD).reverse[k - 1]?.getD .none) (List.range' 1 (i++[g]).length) ?c2) ?_
  case c2=>
   intro k hk
   exact wnw ((i++[g]).map nD) (by simp;omega) k (by simpa using hk)
  rw [show (List.range' 1 (i++[g]).length).map (fun k=>((i++[g]).map nD).reverse[k - 1]?.getD .none)=(i++[g]).reverse.map nD by
   have:=wkj ((i++[g]).map nD)
   rw [List.length_map]at this
   rw [this,List.map_reverse]]
  first | refine bn2 (wbU (i++[g]).reverse (by rw [List.sum_reverse,List.length_reverse];omega)) ((wir _ _ _).trans (wdv _ _ _ _)) ?_ | ((first | refine bnS (wbU (i++[g]).reverse (by rw [List.sum_reverse,List.length_reverse];omega)) ?_ | rw [wbU (i++[g]).reverse (by rw [List.sum_reverse,List.length_reverse];omega)]);(repeat (with_reducible refine bnV ?_));(first | refine bnS ((wir _ _ _).trans (wdv _ _ _ _)) ?_ | rw [(wir _ _ _).trans (wdv _ _ _ _)]);(repeat (with_reducible refine bnV ?_)))
  repeat (with_reducible refine bnV ?_)
  rw [he1]
  first | refine bnS (isnot_bool _ _) ?_ | rw [isnot_bool _ _]
  repeat (with_reducible refine bnV ?_)
  refine ifF ?_
  repeat (with_reducible refine bnV ?_)
  refine obW ?_
  repeat (with_reducible refine bnV ?_)
  refine ifP (wrj _ _) ?_
  repeat (with_reducible refine bnV ?_)
  first | refine bn2 (wbU (i++[g+1]) (by omega)) ((wir _ _ _).trans (wdv _ _ _ _)) ?_ | ((first | refine bnS (wbU (i++[g+1]) (by omega)) ?_ | rw [wbU (i++[g+1]) (by omega)]);(repeat (with_reducible refine bnV ?_));(first | refine bnS ((wir _ _ _).trans (wdv _ _ _ _)) ?_ | rw [(wir _ _ _).trans (wdv _ _ _ _)]);(repeat (with_reducible refine bnV ?_)))
  repeat (with_reducible refine bnV ?_)
  rw [he2]
  first | refine bnS (isnot_bool _ _) ?_ | rw [isnot_bool _ _]
  repeat (with_reducible refine bnV ?_)
  rfl
 first | refine bn3 (waF hne') (add2 _) (rng1 (b:=mx (i++[g+1])+1) (by omega)) ?_ | ((first | refine bnS (waF hne') ?_ | rw [waF hne']);(repeat (with_reducible refine bnV ?_));(first | refine bnS (add2 _) ?_ | rw [add2 _]);(repeat (with_reducible refine bnV ?_));(first | refine bnS (rng1 (b:=mx (i++[g+1])+1) (by omega)) ?_ | rw [rng1 (b:=mx (i++[g+1])+1) (by omega)]);(repeat (with_reducible refine bnV ?_)))
 repeat (with_reducible refine bnV ?_)
 refine ifP (ldcap _ (by simp only [List.length_range',waa];omega)) ?_
 repeat (with_reducible refine bnV ?_)
 refine bnS (wbj nD (fun d=>decide ((g+1) % d=0)) (fun d=>.tuple [nD d,nD (colN (i++[g]) d),nD (colN (i++[g+1]) d)]) (List.range' 1 (mx (i++[g+1])+1)) ?c3 ?f3) ?_
 case c3=>
  intro d hd
  rw [List.mem_range'_1]at hd
  rw [neg1,Option.bind_some,hsub',Option.bind_some,modnn _ (by omega),Option.bind_some,show cmpD .Eq (nD ((g+1) % d)) (.int 0)=some (decide ((g+1) % d=0)) from wkP _ 0,Option.bind_some,wdI]
 case f3=>
  intro d hd _
  rw [List.mem_range'_1]at hd
  rw [hcol d (by omega) (by omega),Option.bind_some,hcol' d (by omega) (by omega),Option.bind_some]
 refine obW ?_
 repeat (with_reducible refine bnV ?_)
 refine ifP (wri _ _) ?_
 repeat (with_reducible refine bnV ?_)
 first | refine bn2 (wbU (i++[g+1]) (by omega)) ((wf3 _ _ _).trans (wd2 _ _ _ _ k0 km)) ?_ | ((first | refine bnS (wbU (i++[g+1]) (by omega)) ?_ | rw [wbU (i++[g+1]) (by omega)]);(repeat (with_reducible refine bnV ?_));(first | refine bnS ((wf3 _ _ _).trans (wd2 _ _ _ _ k0 km)) ?_ | rw [(wf3 _ _ _).trans (wd2 _ _ _ _ k0 km)]);(repeat (with_reducible refine bnV ?_)))
 repeat (with_reducible refine bnV ?_)
 rw [wrv]
 first | refine bnS (wa8 (we4 _ _ _) (by decide)) ?_ | rw [wa8 (we4 _ _ _) (by decide)]
 repeat (with_reducible refine bnV ?_)
 refine ifF ?_
 repeat (with_reducible refine bnV ?_)
 first | refine bn3 (waF hne) (add2 _) (rng1 (b:=mx (i++[g])+1) (by omega)) ?_ | ((first | refine bnS (waF hne) ?_ | rw [waF hne]);(repeat (with_reducible refine bnV ?_));(first | refine bnS (add2 _) ?_ | rw [add2 _]);(repeat (with_reducible refine bnV ?_));(first | refine bnS (rng1 (b:=mx (i++[g])+1) (by omega)) ?_ | rw [rng1 (b:=mx (i++[g])+1) (by omega)]);(repeat (with_reducible refine bnV ?_)))
 repeat (with_reducible refine bnV ?_)
 refine ifP (ldcap _ (by simp only [List.length_range',waa];omega)) ?_
 repeat (with_reducible refine bnV ?_)
 refine bnS (waJ nD (fun d=>.tuple [nD d,nD (colN (i++[g]) d),nD (colN (i++[g]) d+1)]) (List.range' 1 (mx (i++[g])+1)) ?f4) ?_
 case f4=>
  intro d hd
  rw [List.mem_range'_1]at hd
  rw [hcol d (by omega) (by omega),Option.bind_some,Option.bind_some,add1,Option.bind_some]
 have hm1:1<=mx (i++[g]):=wkl (g:=g) (by simp) hg1
 refine bnS (a:=false) ?_ (ifF ?_)
 ·skip
  refine obW ?_
  repeat (with_reducible refine bnV ?_)
  refine ifP (wri _ _) ?_
  repeat (with_reducible refine bnV ?_)
  first | refine bn2 (wdH (i++[g]) (by omega)) ((wf3 _ _ _).trans (wd2 _ _ _ _ k0 k1)) ?_ | ((first | refine bnS (wdH (i++[g]) (by omega)) ?_ | rw [wdH (i++[g]) (by omega)]);(repeat (with_reducible refine bnV ?_));(first | refine bnS ((wf3 _ _ _).trans (wd2 _ _ _ _ k0 k1)) ?_ | rw [(wf3 _ _ _).trans (wd2 _ _ _ _ k0 k1)]);(repeat (with_reducible refine bnV ?_)))
  repeat (with_reducible refine bnV ?_)
  rw [wnU hne hm1]
  first | refine bnS (wa8 (we4 _ _ _) (by decide)) ?_ | rw [wa8 (we4 _ _ _) (by decide)]
  repeat (with_reducible refine bnV ?_)
  refine ifF ?_
  repeat (with_reducible refine bnV ?_)
  refine obW ?_
  repeat (with_reducible refine bnV ?_)
  refine ifP (wnV _ _) ?_
  repeat (with_reducible refine bnV ?_)
  first | refine bn2 (wdH (i++[g]) (by omega)) ((wdw _ _ _).trans (wdp _ _ _ _ k0 k1)) ?_ | ((first | refine bnS (wdH (i++[g]) (by omega)) ?_ | rw [wdH (i++[g]) (by omega)]);(repeat (with_reducible refine bnV ?_));(first | refine bnS ((wdw _ _ _).trans (wdp _ _ _ _ k0 k1)) ?_ | rw [(wdw _ _ _).trans (wdp _ _ _ _ k0 k1)]);(repeat (with_reducible refine bnV ?_)))
  repeat (with_reducible refine bnV ?_)
  rw [wmt hne hm1]
  first | refine bnS (isnot_bool _ _) ?_ | rw [isnot_bool _ _]
  repeat (with_reducible refine bnV ?_)
  refine ifF ?_
  repeat (with_reducible refine bnV ?_)
  first | refine bnS (wdH (i++[g]) (by omega)) ?_ | rw [wdH (i++[g]) (by omega)]
  repeat (with_reducible refine bnV ?_)
  refine obW ?_
  repeat (with_reducible refine bnV ?_)
  refine ifP (wnV _ _) ?_
  repeat (with_reducible refine bnV ?_)
  first | refine bnS ((wdw _ _ _).trans (wdp _ _ _ _ k1 k0)) ?_ | rw [(wdw _ _ _).trans (wdp _ _ _ _ k1 k0)]
  repeat (with_reducible refine bnV ?_)
  rw [wjA]
  first | refine bnS (isnot_bool _ _) ?_ | rw [isnot_bool _ _]
  repeat (with_reducible refine bnV ?_)
  rfl
 first | refine bnS (neg1) ?_ | rw [neg1]
 repeat (with_reducible refine bnV ?_)
 refine inS ?_
 repeat (with_reducible refine bnV ?_)
 refine ifP (bo1) ?_
 repeat (with_reducible refine bnV ?_)
 first | refine bn4 (hcut) (add2 _) (wdX _ (by omega)) (leadwb i (g+2) (by omega)) ?_ | ((first | refine bnS (hcut) ?_ | rw [hcut]);(repeat (with_reducible refine bnV ?_));(first | refine bnS (add2 _) ?_ | rw [add2 _]);(repeat (with_reducible refine bnV ?_));(first | refine bnS (wdX _ (by omega)) ?_ | rw [wdX _ (by omega)]);(repeat (with_reducible refine bnV ?_));(first | refine bnS (leadwb i (g+2) (by omega)) ?_ | rw [leadwb i (g+2) (by omega)]);(repeat (with_reducible refine bnV ?_)))
 repeat (with_reducible refine bnV ?_)
 first | refine bnS (add2 _) ?_ | rw [add2 _]
 repeat (with_reducible refine bnV ?_)
 have hcat2:binop .Add (.list ((i++[g]).map nD)) (.list [nD (g+2)])=some (.list (((i++[g])++[g+2]).map nD)):=by
  rw [wed (i++[g])];exact wcc (by simp only [List.length_map,List.length_cons,List.length_nil,waa];omega)
 first | refine bnS (hcat2) ?_ | rw [hcat2]
 repeat (with_reducible refine bnV ?_)
 have hm2:mx ((i++[g])++[g+2])<900:=by rw [wd3];omega
 first | refine bn3 (waF (by simp)) (add2 _) (rng1 (b:=mx ((i++[g])++[g+2])+1) (by omega)) ?_ | ((first | refine bnS (waF (by simp)) ?_ | rw [waF (by simp)]);(repeat (with_reducible refine bnV ?_));(first | refine bnS (add2 _) ?_ | rw [add2 _]);(repeat (with_reducible refine bnV ?_));(first | refine bnS (rng1 (b:=mx ((i++[g])++[g+2])+1) (by omega)) ?_ | rw [rng1 (b:=mx ((i++[g])++[g+2])+1) (by omega)]);(repeat (with_reducible refine bnV ?_)))
 repeat (with_reducible refine bnV ?_)
 refine ifP (ldcap _ (by simp only [List.length_range',waa];omega)) ?_
 repeat (with_reducible refine bnV ?_)
 refine bnS (wbj nD (fun d=>!decide ((g+1) % d=0)) (fun d=>.tuple [nD d,nD (colN (i++[g]) d),nD (colN i d+g+2)]) (List.range' 1 (mx ((i++[g])++[g+2])+1)) ?c5 ?f5) ?_
 case c5=>
  intro d hd
  rw [List.mem_range'_1]at hd
  rw [add1,Option.bind_some,modnn _ (by omega),Option.bind_some,show cmpD .NotEq (nD ((g+1) % d)) (.int 0)=some (!decide ((g+1) % d=0)) from wkC _ 0,Option.bind_some,wdI]
 case f5=>
  intro d hd _
  rw [List.mem_range'_1]at hd
  rw [hcol d (by omega) (by omega),Option.bind_some,neg1,Option.bind_some,wlT,if_pos bo1,hcut,Option.bind_some,hcoli d (by omega) (by omega),Option.bind_some,addnn,Option.bind_some,add2,Option.bind_some]
 refine bnS (a:=.bool true) ?_ rfl
 refine obW ?_
 repeat (with_reducible refine bnV ?_)
 refine ifP (wt3 _ _) ?_
 repeat (with_reducible refine bnV ?_)
 first | refine bnS ((wpL _ _ _).trans (wnt _ _ _ _ k0 ko)) ?_ | rw [(wpL _ _ _).trans (wnt _ _ _ _ k0 ko)]
 repeat (with_reducible refine bnV ?_)
 rw [wp2]
 first | refine bnS (wgm (we4 _ _ _) (by decide)) ?_ | rw [wgm (we4 _ _ _) (by decide)]
 repeat (with_reducible refine bnV ?_)
 refine ifT ?_
 repeat (with_reducible refine bnV ?_)
 refine obW ?_
 repeat (with_reducible refine bnV ?_)
 refine ifP (wnV _ _) ?_
 repeat (with_reducible refine bnV ?_)
 first | refine bnS ((wdw _ _ _).trans (wdp _ _ _ _ k0 ko)) ?_ | rw [(wdw _ _ _).trans (wdp _ _ _ _ k0 ko)]
 repeat (with_reducible refine bnV ?_)
 rw [wkK i g hg1]
 first | refine bnS (is_bool _ _) ?_ | rw [is_bool _ _]
 repeat (with_reducible refine bnV ?_)
 rfl
noncomputable abbrev PI:=Int×Nat
noncomputable def pI (p:PI):D:=.tuple [.int p.1,nD p.2]
noncomputable def tcD (way:Int):D:=.obj (Str.ofString "TupleComp") [((Str.ofString "comp_select_list"),.list [.tuple [.int 1,.int way]])]
noncomputable abbrev tN:Str:=Str.ofString "TupleComp"
noncomputable def tF (way:Int):List (Str×D):=[((Str.ofString "comp_select_list"),.list [.tuple [.int 1,.int way]])]
theorem wt6 {α:Type} (way:Int) (k:Str->List (Str×D)->Option α):objK (tcD way) k=k tN (tF way):=rfl
theorem t_no (way:Int):mOk T02 tN (tF way) (Str.ofString "compare")=true:=by kernel_rfl!
theorem wsF (way:Int):attrQ T02 (tcD way) (Str.ofString "comp_select_list")=some (.list [.tuple [.int 1,.int way]]):=by kernel_rfl!
theorem wtN (way:Int) (a b:D):cmOf tm_1 tN (Str.ofString "compare") [D.obj tN (tF way),a,b]=waY (tcD way) a b:=by kernel_rfl!
noncomputable def cmpW (way:Int) (a b:Nat):Int:=if a<b then -way else if b<a then way else 0
theorem woa {α:Type} (l:List D) (k:List D->Option α):listK (.list l) k=k l:=rfl
theorem wnW {α:Type} (a b:D) (k:D->D->Option α):wbR (.tuple [a,b]) k=k a b:=rfl
theorem wos (way:Int) (o r:PI):waY (tcD way) (pI o) (pI r)=some (.int (cmpW way o.2 r.2)):=by
 unfold waY
 rw [wsF,Option.bind_some]
 rw [woa,if_pos (by show 1<=10000;decide)]
 simp only [forS]
 unfold wbL
 rw [wnW]
 rw [show sub (pI o) (.int 1)=some (nD o.2) from rfl,Option.bind_some,show sub (pI r) (.int 1)=some (nD r.2) from rfl,Option.bind_some,lt_int,Option.bind_some]
 unfold cmpW
 by_cases h:o.2<r.2
 ·rw [if_pos (by simpa using h),if_pos h,neg_int];rfl
 ·rw [if_neg (by simpa using h),if_neg h,gt_int,Option.bind_some]
  by_cases h2:r.2<o.2
  ·rw [if_pos (by simpa using h2),if_pos h2]
  ·rw [if_neg (by simpa using h2),if_neg h2]
noncomputable def okWay (way:Int):Prop:=way=1\/way=-1\/way=2\/way=-3
noncomputable def insW (pos:Bool) (line:List PI) (row:PI):List PI:=
 line.take (line.filter fun o=>if pos then decide (o.2<row.2) else decide (row.2<o.2)).length++[row]++line.drop (line.filter fun o=>if pos then decide (o.2<row.2) else decide (row.2<o.2)).length
theorem wsH {i:Int} (h:i.natAbs<10 ^ 9):bfn .str [.int i]=some (.str (intText i)):=if_pos h
noncomputable def S7:List Int:=[-3,-2,-1,0,1,2,3]
theorem wsE:∀ i∈S7,PyData.strOk (mk (intText i))=true:=by decide +kernel
theorem S7_9:∀ i∈S7,i.natAbs<10 ^ 9:=by decide +kernel
theorem wmC {xs:List D} {a:Nat} (h:xs.length<=cap) (ha:a<=xs.length):cutD none (some (a:Int)) (.list xs)=some (.list (xs.take a)):=by
 show (if _ then _ else _)=_
 rw [if_pos h]
 have e:clipAt xs.length (a:Int)=a:=(wi5 _ _).trans (Nat.min_eq_left ha)
 unfold cut
 simp only [Option.elim_none,Option.elim_some,e,List.drop_zero,Nat.sub_zero]
theorem wkb {xs:List D} {a:Nat} (h:xs.length<=cap) (ha:a<=xs.length):cutD (some (a:Int)) none (.list xs)=some (.list (xs.drop a)):=by
 show (if _ then _ else _)=_
 rw [if_pos h]
 have e:clipAt xs.length (a:Int)=a:=(wi5 _ _).trans (Nat.min_eq_left ha)
 unfold cut
 simp only [Option.elim_none,Option.elim_some,e]
 rw [List.take_of_length_le (by simp)]
theorem wuH {a:Nat} (h:a<100000):(boundOk none&&boundOk (some (a:Int)))=true:=by
 unfold boundOk
 simp;omega
theorem wrr {a:Nat} (h:a<100000):(boundOk (some (a:Int))&&boundOk none)=true:=by
 unfold boundOk
 simp;omega
theorem wpE {way:Int} (h:okWay way) (a b:Nat):cmpW way a b∈S7:=by
 have hw:-way∈S7/\way∈S7:=by rcases h with rfl | rfl | rfl | rfl<;>decide
 unfold cmpW
 split
 ·exact hw.1
 ·split
  ·exact hw.2
  ·decide
theorem whL {way:Int} (h:okWay way):(0<way/\(way.natAbs:Int)=way)\/(¬ 0<way/\(way.natAbs:Int)=-way/\0 < -way):=by
 rcases h with rfl | rfl | rfl | rfl<;>decide
theorem wtD {way:Int} (hw:okWay way) {a b:Nat} (hne:a≠b):(if (decide ((a:Int)<b)==decide (0<way))=true then some (D.int (-(way.natAbs:Int))) else some (D.int way.natAbs))=some (.int (cmpW way a b)):=by
 unfold cmpW
 by_cases h:a<b
 ·rw [decide_eq_true (Int.ofNat_lt.mpr h),if_pos h]
  rcases whL hw with ⟨p,e⟩ | ⟨p,e,_⟩
  ·rw [decide_eq_true p,e];rfl
  ·rw [decide_eq_false p,e];rfl
 ·have h':b<a:=Nat.lt_of_le_of_ne (Nat.not_lt.mp h) hne.symm
  rw [decide_eq_false (fun q=>h (Int.ofNat_lt.mp q)),if_neg h,if_pos h']
  rcases whL hw with ⟨p,e⟩ | ⟨p,e,_⟩
  ·rw [decide_eq_true p,e];rfl
  ·rw [decide_eq_false p,e,Int.neg_neg];rfl
theorem wrW {way:Int} (hw:okWay way) {a b:Nat} (hne:a≠b):decide (cmpW way a b<0)=if decide (0<way) then decide (a<b) else decide (b<a):=by
 unfold cmpW
 by_cases h:a<b
 ·have h':¬ b<a:=Nat.not_lt.mpr (Nat.le_of_lt h)
  rw [if_pos h,decide_eq_true h,decide_eq_false h']
  rcases whL hw with ⟨p,_⟩ | ⟨p,_,q⟩
  ·rw [decide_eq_true p];exact decide_eq_true (Int.neg_neg_of_pos p)
  ·rw [decide_eq_false p];exact decide_eq_false (Int.not_lt.mpr (Int.le_of_lt q))
 ·have h':b<a:=Nat.lt_of_le_of_ne (Nat.not_lt.mp h) hne.symm
  rw [if_neg h,if_pos h',decide_eq_false h,decide_eq_true h']
  rcases whL hw with ⟨p,_⟩ | ⟨p,_,q⟩
  ·rw [decide_eq_true p];exact decide_eq_false (Int.not_lt.mpr (Int.le_of_lt p))
  ·rw [decide_eq_false p];exact decide_eq_true (Int.neg_pos.mp q)
noncomputable abbrev cmpL (way:Int) (line:List PI) (n:Nat):List Int:=line.map fun o=>cmpW way o.2 n
noncomputable abbrev cntL (pos:Bool) (line:List PI) (n:Nat):Nat:=(line.filter fun o=>if pos then decide (o.2<n) else decide (n<o.2)).length
theorem hcount {way:Int} (hw:okWay way) {line:List PI} {n:Nat} (hd:∀ o∈line,o.2≠n):((cmpL way (line++[(-1,n)]) n).filter fun i=>decide (i<0)).length=cntL (decide (0<way)) line n:=by
 unfold cmpL
 rw [List.filter_map,List.length_map,List.filter_append,List.length_append]
 have z:(List.filter ((fun i=>decide (i<0))∘fun o:PI=>cmpW way o.2 n) [(-1,n)])=[]:=by
  simp [cmpW]
 rw [z,List.length_nil,Nat.add_zero]
 exact congrArg List.length (List.filter_congr fun o ho=>wrW hw (hd o ho))
theorem woK (l:List D) (x:D) (a:Nat) (h:l.length<1000):binop .Add (.list (l.take a++[x])) (.list (l.drop a))=some (.list (l.take a++[x]++l.drop a)):=wcc (by
 have:=congrArg List.length (List.take_append_drop a l)
 simp only [List.length_append,List.length_cons,List.length_nil,waa]at this ⊢
 omega)
theorem wr6 (line:List PI) (row:PI) (way:Int) (hw:okWay way) (hl:line.length<1000) (hd:∀ o∈line,o.2≠row.2) :
  wbF (.list (line.map pI)) (pI row) (.int way)=some (.list ((insW (decide (0<way)) line row).map pI)):=by
 have e1:binop .Add (.list (line.map pI)) (.list [.tuple [.int (-1),nD row.2]])=some (.list ((line++[(-1,row.2)]).map pI)):=by
  rw [List.map_append];exact wcc (by simp only [List.length_map,List.length_cons,List.length_nil,waa];omega)
 have e2:binop .Add (.list (line.map fun o:PI=>D.int (cmpW way o.2 row.2))) (.list [.int 0])=some (.list ((cmpL way (line++[(-1,row.2)]) row.2).map D.int)):=by
  rw [List.map_map,List.map_append]
  have z:cmpW way row.2 row.2=0:=by unfold cmpW;rw [if_neg (Nat.lt_irrefl _),if_neg (Nat.lt_irrefl _)]
  refine (wcc (by simp only [List.length_map,List.length_cons,List.length_nil,waa];omega)).trans ?_
  rw [List.map_cons,List.map_nil,Function.comp_apply,z]
  rfl
 have hsz:(line++[((-1:Int),row.2)]).length<=cap:=by simp only [List.length_append,List.length_cons,List.length_nil,waa];omega
 have hsz2:((cmpL way (line++[(-1,row.2)]) row.2).map D.int).length<=cap:=by rw [List.length_map,List.length_map];exact hsz
 have hc:=hcount hw hd
 have hsm:∀ i∈cmpL way (line++[(-1,row.2)]) row.2,i∈S7:=fun i hi=>by
  obtain ⟨o,_,rfl⟩:=List.mem_map.mp hi
  exact wpE hw _ _
 have hstr:compQ (fun _=>some true) (fun d=>(bfn .str [d]).bind fun x=>some x) ((cmpL way (line++[(-1,row.2)]) row.2).map D.int)=some ((cmpL way (line++[(-1,row.2)]) row.2).map fun i=>.str (intText i)):=
  waJ D.int (fun i=>.str (intText i)) _ fun i hi=>bnS (wsH (S7_9 i (hsm i hi))) rfl
 have hle:cntL (decide (0<way)) line row.2<=line.length:=List.length_filter_le _ _
 have hle':cntL (decide (0<way)) line row.2<=(line.map pI).length:=by rw [List.length_map];exact hle
 have hlm:(line.map pI).length<=cap:=ldcap _ (Nat.le_of_lt (Nat.lt_trans hl (by decide)))
 have hl9:cntL (decide (0<way)) line row.2<100000:=Nat.lt_of_le_of_lt hle (Nat.lt_trans hl (by decide))
 have hcn:((cmpL way (line++[(-1,row.2)]) row.2).filter fun i=>decide (i<0)).length<=cap:=by rw [hc];exact Nat.le_trans hle (Nat.le_of_lt (Nat.lt_trans hl (by decide)))
 have e3:∀ a,binop .Add (.list ((line.map pI).take a)) (.list [pI row])=some (.list ((line.map pI).take a++[pI row])):=fun a=>
  wcc (Nat.succ_le_of_lt (Nat.lt_of_le_of_lt (List.length_take_le' a _) (by rw [List.length_map];exact Nat.lt_trans hl (by decide))))
 unfold wbF
 refine bn4 ((show wcT (D.list [D.tuple [D.int 1,D.int way]])=some (tcD way) from rfl)) (neg1) ((show sub (pI row) (.int 1)=some (nD row.2) from rfl)) (e1) ?_
 refine bnP (waU _) (ldcap _ hsz) ?_
 refine bnS (a:=(cmpL way (line++[(-1,row.2)]) row.2).map D.int) ((waJ pI (fun o=>.int (cmpW way o.2 row.2)) (line++[(-1,row.2)]) ?c1).trans (congrArg some (by rw [List.map_map];rfl))) ?_
 case c1=>
  intro o _
  rw [wt6,if_pos (t_no way),wtN,wos,Option.bind_some]
 refine bnP (waU _) (ldcap _ (Nat.le_trans (Nat.le_of_lt hl) (by decide))) ?_
 refine bnS (waJ pI (fun o=>.int (cmpW way o.2 row.2)) line ?c2) ?_
 case c2=>
  intro o ho
  refine bnS (a:=.int (cmpW way o.2 row.2)) ?_ rfl
  refine bn4 ((show sub (pI o) (.int 1)=some (nD o.2) from rfl)) ((show sub (pI row) (.int 1)=some (nD row.2) from rfl)) (lt_int _ _) (gt_int _ _) ?_
  refine bnS (is_bool _ _) ?_
  exact wtD hw (hd o ho)
 refine bnS (e2) ?_
 refine bnP (waU _) (hsz2) ?_
 refine bn2 (wbj D.int (fun i=>decide (i<0)) (fun _=>.int 1) _ (fun i _=>by rw [lt_int,Option.bind_some,wdI]) (fun _ _ _=>rfl)) ((lenD _ _ hcn).trans (congrArg (fun n=>some (nD n)) hc)) ?_
 refine bnS (a:=.list ((insW (decide (0<way)) line row).map pI)) ?_ rfl
 refine bnP (waU _) (hsz2) ?_
 refine bnS (hstr) ?_
 refine bnP (waU _) (hsz2) ?_
 refine bnS (hstr) ?_
 refine bnS (wgm (n:=1) (.list 0 _ fun x hx=>by obtain ⟨i,hi,rfl⟩:=List.mem_map.mp hx;exact .str 0 _ (wsE _ (hsm i hi))) (by decide)) ?_
 refine ifT ?_
 refine inS ?_
 refine ifP (wuH hl9) ?_
 refine bn2 (wmC hlm hle') (e3 _) ?_
 refine inS ?_
 refine ifP (wrr hl9) ?_
 refine bn2 (wkb hlm hle') (woK _ _ _ (by rw [List.length_map];exact hl)) ?_
 unfold insW
 simp only [List.map_append,List.map_take,List.map_drop,List.map_cons,List.map_nil]
theorem wdz (k:Key):toKey (ofKey k)=some k:=by cases k<;>rfl
theorem wku {k:Key}:∀ {l:List (Key×D)},k ∉ l.map (·.1)->kget k l=none
 | [],_=>rfl
 | (a,v)::r,h=>by
  simp only [List.map_cons,List.mem_cons,not_or]at h
  unfold kget
  rw [if_neg (fun e=>h.1 e.symm)]
  exact wku h.2
theorem wqF {k:Key} {v:D} {l:List (Key×D)} (h:k ∉ l.map (·.1)):kset k v l=l++[(k,v)]:=by
 unfold kset khas
 rw [wku h];rfl
theorem wqj {k:Key} {v:D} {l:List (Key×D)} (h:k ∉ l.map (·.1)) (hl:l.length<=cap):putM l (ofKey k) v=some (l++[(k,v)]):=by
 unfold putM
 rw [wdz,Option.bind_some,if_pos hl,wqF h]
theorem wrJ {k:Key} {v:D} {l:List (Key×D)} (hl:l.length<=cap):putM l (ofKey k) v=some (kset k v l):=by
 unfold putM
 rw [wdz,Option.bind_some,if_pos hl]
theorem wkA (a b:D) (next:List (Key×D)->Option D) (ret:D->Option D):∀ (t acc:List (Key×D)),((acc++t).map (·.1)).Nodup->(acc++t).length<=cap ->
  forS (wbz a b) (t.map fun p=>.tuple [ofKey p.1,p.2]) acc next ret=next (acc++t)
 | [],acc,_,_=>by simp [forS]
 | (k,v)::t,acc,h,hl=>by
  show wbz a b acc (.tuple [ofKey k,v]) _ _ _=_
  unfold wbz
  rw [wb4,wqj ?h1 (by simp only [List.length_append]at hl;omega),Option.bind_some]
  case h1=>
   simp only [List.map_append,List.map_cons]at h
   rw [List.nodup_append]at h
   intro hm
   exact h.2.2 k hm k (by simp) rfl
  have ih:=wkA a b next ret t (acc++[(k,v)]) (by simpa using h) (by simpa using hl)
  rw [show (acc++[(k,v)])++t=acc++(k,v)::t by simp]at ih
  exact ih
noncomputable def upK (old v:D):Option D:=match v with
 | .tuple _=>zipSumQ v old
 | .int _=>addI old v
 | _=>none
theorem wrh {a b:D} {t:List (Key×D)} {k:Key} {v w:D} (hl:t.length<=cap) (h:match kget k t with | none=>w=v | some old=>upK old v=some w) {n br:List (Key×D)->Option D} {r:D->Option D}:wb1 a b t (.tuple [ofKey k,v]) n br r=n (kset k w t):=by
 have e:cmpD .In (ofKey k) (.dict t)=some (khas k t):=by
  show (toKey (ofKey k)).map _=_
  rw [wdz];rfl
 have es:sub (.dict t) (ofKey k)=kget k t:=by
  show (toKey (ofKey k)).bind _=_
  rw [wdz];rfl
 have hp:putM t (ofKey k) w=some (kset k w t):=wrJ hl
 unfold wb1
 refine un2 (bnS e ?_)
 unfold khas
 cases hk:kget k t with
 | none=>
  rw [hk]at h
  have h:w=v:=h
  subst h
  exact ifN (fun e=>nomatch e) (bnS hp rfl)
 | some old=>
  rw [hk]at h
  have h:upK old v=some w:=h
  refine ifP rfl ?_
  unfold upK at h
  split at h
  ·exact bnS (a:=true) rfl (ifT (bnS (es.trans hk) (bnS h (bnS hp rfl))))
  ·exact bnS (a:=false) rfl (ifF (bnS (es.trans hk) (bnS h (bnS hp rfl))))
  ·cases h
theorem wnO (t:List (Key×D)) (k:Key) (v w:D) (hn:(t.map (·.1)).Nodup) (hl:t.length<5000) (h:match kget k t with | none=>w=v | some old=>upK old v=some w) :
  waT (.dict t) (.dict [(k,v)])=some (.dict (kset k w t)):=by
 have hc:t.length<=cap:=Nat.le_trans (Nat.le_of_lt hl) (by decide)
 unfold waT
 refine bnS (a:=t.map fun p=>.tuple [ofKey p.1,p.2]) rfl (ifP (by rw [List.length_map];exact hc) ?_)
 rw [wkA _ _ _ _ t [] (by simpa using hn) (by rw [List.nil_append];exact hc),List.nil_append]
 exact bnS (a:=[.tuple [ofKey k,v]]) rfl (ifP (by show 1<=10000;decide) (wrh hc h))
theorem wor (a:D) (x n:Int) (k b:D->Option D) (r:D->Option D):wby a (.int n) (.int x) k b r=k (.int (n+x)):=rfl
theorem wjP (a:D) (next:D->Option D) (ret:D->Option D):∀ (l:List Int) (n:Int),forS (wby a) (l.map D.int) (.int n) next ret=next (.int (n+l.sum))
 | [],n=>by simp [forS]
 | x::l,n=>by
  show wby a (.int n) (.int x) _ _ _=_
  rw [wor,wjP a next ret l (n+x),List.sum_cons,Int.add_assoc]
theorem wq3 (t:List (Key×Int)) (hl:t.length<5000):waS (.dict (t.map fun p=>(p.1,.int p.2)))=some (.int (t.map (·.2)).sum):=by
 unfold waS
 have e:valsQ (.dict (t.map fun p=>(p.1,D.int p.2)))=some ((t.map (·.2)).map D.int):=by
  show some _=_
  simp only [List.map_map];rfl
 rw [e,Option.bind_some,if_pos (by simp only [List.length_map,waa];omega),wjP]
 simp
section
variable {V:Type}
noncomputable def getV (k:Key):List (Key×V)->Option V
 | []=>none
 | (a,v)::r=>if a=k then some v else getV k r
noncomputable def putV (k:Key) (v:V):List (Key×V)->List (Key×V)
 | []=>[]
 | (a,x)::r=>if a=k then (a,v)::putV k v r else (a,x)::putV k v r
noncomputable def setV (k:Key) (v:V) (l:List (Key×V)):List (Key×V):=if (getV k l).isSome then putV k v l else l++[(k,v)]
noncomputable def dV (g:V->D) (l:List (Key×V)):List (Key×D):=l.map fun p=>(p.1,g p.2)
theorem wip (g:V->D) (k:Key):∀ l:List (Key×V),kget k (dV g l)=(getV k l).map g
 | []=>rfl
 | (a,v)::r=>by
  show (if a=k then some (g v) else kget k (dV g r))=_
  unfold getV
  split
  ·rfl
  ·exact wip g k r
theorem wnA (g:V->D) (k:Key) (v:V):∀ l:List (Key×V),kput k (g v) (dV g l)=dV g (putV k v l)
 | []=>rfl
 | (a,x)::r=>by
  show (if a=k then (a,g v)::kput k (g v) (dV g r) else (a,g x)::kput k (g v) (dV g r))=_
  unfold putV
  rw [wnA g k v r]
  split<;>rfl
theorem wnz (g:V->D) (k:Key) (v:V) (l:List (Key×V)):kset k (g v) (dV g l)=dV g (setV k v l):=by
 unfold kset khas setV
 rw [wip]
 cases getV k l with
 | none=>simp [dV]
 | some y=>simp only [Option.map_some,Option.isSome_some,if_true];exact wnA g k v l
theorem wnK (g:V->D) (l:List (Key×V)):(dV g l).map (·.1)=l.map (·.1):=by unfold dV;rw [List.map_map];rfl
theorem wgN (k:Key) (v:V):∀ l:List (Key×V),(putV k v l).map (·.1)=l.map (·.1)
 | []=>rfl
 | (a,x)::r=>by
  unfold putV
  split<;>simp [wgN k v r]
theorem wkv {k:Key}:∀ {l:List (Key×V)},getV k l=none->k ∉ l.map (·.1)
 | [],_=>by simp
 | (a,x)::r,h=>by
  unfold getV at h
  split at h
  ·cases h
  ·rename_i hne
   simp only [List.map_cons,List.mem_cons,not_or]
   exact ⟨fun e=>hne e.symm,wkv h⟩
theorem wjp {k:Key} {v:V} {l:List (Key×V)} (h:(l.map (·.1)).Nodup):((setV k v l).map (·.1)).Nodup:=by
 unfold setV
 cases e:getV k l with
 | none=>
  simp only [Option.isSome_none,Bool.false_eq_true,if_false,List.map_append,List.map_cons,List.map_nil]
  rw [List.nodup_append]
  refine ⟨h,by simp,?_⟩
  intro a ha b hb
  simp only [List.mem_cons,List.not_mem_nil,or_false]at hb
  subst hb
  intro q;subst q
  exact wkv e ha
 | some y=>simp only [Option.isSome_some,if_true];rw [wgN];exact h
theorem wk1 (k:Key) (v:V) (l:List (Key×V)):(setV k v l).length<=l.length+1:=by
 unfold setV
 split
 ·have:=congrArg List.length (wgN k v l)
  simp only [List.length_map]at this
  omega
 ·simp
end
noncomputable def incV (k:Key) (n:Int) (l:List (Key×Int)):List (Key×Int):=setV k ((getV k l).getD 0+n) l
theorem wtd (t:List (Key×Int)) (k:Key) (n:Int) (hn:(t.map (·.1)).Nodup) (hl:t.length<5000):waT (.dict (dV D.int t)) (.dict [(k,.int n)])=some (.dict (dV D.int (incV k n t))):=by
 rw [wnO (dV D.int t) k (.int n) (.int ((getV k t).getD 0+n)) (by rw [wnK];exact hn) (by unfold dV;simpa using hl) ?_]
 ·rw [show D.int ((getV k t).getD 0+n)=D.int ((getV k t).getD 0+n) from rfl,wnz];rfl
 ·rw [wip]
  cases getV k t with
  | none=>simp
  | some old=>rfl
noncomputable def tD (p:Int×Int):D:=.tuple [.int p.1,.int p.2]
noncomputable def wof (k:Key) (p:Int×Int) (l:List (Key×(Int×Int))):List (Key×(Int×Int)):=setV k (p.1+((getV k l).getD (0,0)).1,p.2+((getV k l).getD (0,0)).2) l
theorem wsa (t:List (Key×(Int×Int))) (k:Key) (p:Int×Int) (hn:(t.map (·.1)).Nodup) (hl:t.length<5000):waT (.dict (dV tD t)) (.dict [(k,tD p)])=some (.dict (dV tD (wof k p t))):=by
 rw [wnO (dV tD t) k (tD p) (tD (p.1+((getV k t).getD (0,0)).1,p.2+((getV k t).getD (0,0)).2)) (by rw [wnK];exact hn) (by unfold dV;simpa using hl) ?_]
 ·rw [wnz];rfl
 ·rw [wip]
  cases getV k t with
  | none=>simp
  | some old=>rfl
theorem wq4 (t:List (Key×Int)) (hl:t.length<5000):waS (.dict (dV D.int t))=some (.int (t.map (·.2)).sum):=wq3 t hl
noncomputable def tailG (line length size way x1 a_8 ka_9 b_17 kb_18 x26:D) (s59:D×D×D):Option D:=
(binop .Sub x1 ka_9).bind fun x60=>
(unop .USub kb_18).bind fun x61=>
(binop .Sub x1 kb_18).bind fun x62=>
(binop .Sub ka_9 kb_18).bind fun x63=>
(binop .Add a_8 b_17).bind fun x64=>
(binop .Add ka_9 kb_18).bind fun x65=>
(binop .Sub x65 x1).bind fun x66=>
if [(D.tuple [ka_9,a_8,x60]),(D.tuple [x61,b_17,x62]),(D.tuple [x63,x64,x66])].length<=cap then forS (wdS line length size way x1 a_8 ka_9 b_17 kb_18 x26 s59.1 s59.2.1 s59.2.2 (D.list [(D.tuple [ka_9,a_8,x60]),(D.tuple [x61,b_17,x62]),(D.tuple [x63,x64,x66])])) [(D.tuple [ka_9,a_8,x60]),(D.tuple [x61,b_17,x62]),(D.tuple [x63,x64,x66])] [] (fun s74=>
(if [(D.tuple [ka_9,a_8,x60]),(D.tuple [x61,b_17,x62]),(D.tuple [x63,x64,x66])].length<=cap then (compDQ (fun d75=>wgD d75 fun step_76 gap_77 often_78=>
(cmpD .Gt often_78 (D.int 0)).bind fun b79=>
if b79 then (some true) else some false) (fun d75=>wgD d75 fun step_80 gap_81 often_82=>
(toKey step_80).bind fun k83=>
some (k83,often_82)) [(D.tuple [ka_9,a_8,x60]),(D.tuple [x61,b_17,x62]),(D.tuple [x63,x64,x66])] []).bind fun l84=>
(cmpD .NotEq s59.1 (D.dict l84)).bind fun b85=>
if b85 then some true else ((waS s59.1).bind fun x86=>
(cmpD .NotEq x86 x1).bind fun b87=>
if b87 then some true else (some false)) else none).bind fun b88=>
if b88 then (some (D.list [])) else (((keysOf (D.dict s74)).bind fun l89=>
if l89.length<=cap then (compDQ (fun d90=>(sub (D.dict s74) d90).bind fun x91=>
(cmpD .Gt x91 (D.int 0)).bind fun b92=>
if b92 then (some true) else some false) (fun d90=>(toKey d90).bind fun k93=>
(sub (D.dict s74) d90).bind fun x94=>
(sub (D.dict s74) d90).bind fun x95=>
(binop .Mult x95 d90).bind fun x96=>
some (k93,(D.tuple [x94,x96]))) l89 []).bind fun l97=>
(cmpD .Eq s59.2.1 (D.dict l97)).bind fun b98=>
if b98 then (some s59.2.2) else (some (D.list [])) else none).bind fun x99=>
some x99)) some else none
noncomputable def minI (best x:Int×Int):Int×Int:=if x.1<best.1\/(x.1=best.1/\x.2<best.2) then x else best
noncomputable def bestI:List (Int×Int)->Int×Int
 | []=>(0,0)
 | x::r=>r.foldl minI x
theorem ws6 (x y:Int×Int):ltD (tD x) (tD y)=some (decide (x.1<y.1\/(x.1=y.1/\x.2<y.2))):=by
 show ltTup [.int x.1,.int x.2] [.int y.1,.int y.2]=_
 simp only [ltTup,eqS,ltS,wr9,Option.bind_some,decide_eq_true_eq]
 by_cases h:x.1=y.1
 ·rw [if_pos h]
  by_cases h2:x.2=y.2
  ·rw [if_pos h2]
   congr 1;symm;rw [decide_eq_false_iff_not];omega
  ·rw [if_neg h2]
   congr 1;apply decide_eq_decide.mpr;omega
 ·rw [if_neg h]
  congr 1;apply decide_eq_decide.mpr;omega
theorem wke:∀ (r:List (Int×Int)) (x:Int×Int),bestBy ltD (tD x) (r.map tD)=some (tD (r.foldl minI x))
 | [],x=>rfl
 | y::r,x=>by
  simp only [List.map_cons,bestBy,List.foldl_cons]
  rw [ws6,Option.bind_some]
  unfold minI
  by_cases h:y.1<x.1\/(y.1=x.1/\y.2<x.2)
  ·rw [if_pos (by simpa using h),if_pos h];exact wke r y
  ·rw [if_neg (by simpa using h),if_neg h];exact wke r x
theorem wo9 {l:List (Int×Int)} (h:l≠[]):bfn .min [.list (l.map tD)]=some (tD (bestI l)):=by
 cases l with
 | nil=>exact absurd rfl h
 | cons x r=>exact wke r x
noncomputable abbrev GS:=List (Key×Int)×List (Key×(Int×Int))×List Int
noncomputable def gD (s:GS):D×D×D:=(.dict (dV D.int s.1),.dict (dV tD s.2.1),.list (s.2.2.map D.int))
noncomputable def gExp (m ka a kb b k:Int):Int×Int:=if k<m - ka then (ka,a) else if k>=kb then (-kb,b) else (ka - kb,a+b)
noncomputable def gStep (sz m ka a kb b:Int) (s:GS) (p:PI×PI):D ⊕ GS:=
 if (p.2.1 - p.1.1,((p.2.2:Int) - p.1.2).fmod sz)=gExp m ka a kb b p.1.1 then
  (if (s.1.map (·.2)).sum=s.2.2.length then .inr (incV (.i (p.2.1 - p.1.1)) 1 s.1,wof (.i (((p.2.2:Int) - p.1.2).fmod sz)) (1,((p.2.2:Int) - p.1.2).fmod sz) s.2.1,s.2.2++[((p.2.2:Int) - p.1.2).fmod sz])
  else .inl (.list []))
 else .inl (.list [])
theorem woV (p:Int×Int):Pln 1 (tD p):=by
 refine .tuple 0 _ fun x hx=>?_
 simp only [List.mem_cons,List.not_mem_nil,or_false]at hx
 rcases hx with rfl | rfl<;>exact .int _ _
theorem wsG {p q:Int×Int}:tD p=tD q ↔ p=q:=by
 unfold tD
 simp only [D.tuple.injEq,List.cons.injEq,D.int.injEq,and_true]
 exact Prod.ext_iff.symm
theorem wqQ (line length way row:D) (sz m ka a kb b:Int) (hz:sz≠0) (s:GS) (h1:(s.1.map (·.1)).Nodup) (h2:(s.2.1.map (·.1)).Nodup) (h3:s.1.length<5000) (h4:s.2.1.length<5000) (h5:s.2.2.length<5000) (p:PI×PI) (n bk:D×D×D->Option D) (r:D->Option D) :
  wbv line length (.int sz) way (.int m) (.int a) (.int ka) (.int b) (.int kb) row (gD s) (.tuple [pI p.1,pI p.2]) n bk r=match gStep sz m ka a kb b s p with | .inl v=>r v | .inr s'=>n (gD s'):=by
 obtain ⟨o,t⟩:=p
 unfold wbv
 rw [wb4,show sub (pI t) (.int 1)=some (nD t.2) from rfl]
 repeat rw [Option.bind_some]
 rw [show sub (pI o) (.int 1)=some (nD o.2) from rfl]
 repeat rw [Option.bind_some]
 rw [sub_int,Option.bind_some,wim _ hz,Option.bind_some,show sub (pI o) (.int 0)=some (.int o.1) from rfl,Option.bind_some,show sub (pI t) (.int 0)=some (.int t.1) from rfl]
 repeat rw [Option.bind_some]
 rw [sub_int]
 repeat rw [Option.bind_some]
 rw [sub_int]
 repeat rw [Option.bind_some]
 rw [lt_int]
 repeat rw [Option.bind_some]
 have hexp:(if decide (o.1<m - ka)=true then some (D.tuple [D.int ka,D.int a]) else
   ((cmpD .GtE (.int o.1) (.int kb)).bind fun b238=>if b238=true then (unop .USub (.int kb)).bind fun x239=>some (D.tuple [x239,D.int b]) else
    (binop .Sub (.int ka) (.int kb)).bind fun x240=>(binop .Add (.int a) (.int b)).bind fun x241=>some (D.tuple [x240,x241])).bind fun x242=>some x242)=some (tD (gExp m ka a kb b o.1)):=by
  unfold gExp
  by_cases c1:o.1<m - ka
  ·rw [if_pos (by simpa using c1),if_pos c1];rfl
  ·rw [if_neg (by simpa using c1),if_neg c1,ge_int,Option.bind_some]
   by_cases c2:o.1>=kb
   ·rw [if_pos (by simpa using c2),if_pos c2];rfl
   ·rw [if_neg (by simpa using c2),if_neg c2];rfl
 rw [hexp,Option.bind_some]
 rw [show (D.tuple [D.int (t.1 - o.1),D.int (((t.2:Int) - o.2).fmod sz)])=tD (t.1 - o.1,((t.2:Int) - o.2).fmod sz) from rfl]
 rw [cmpNe (woV _) (woV _) (by decide) (by decide) wsG,Option.bind_some]
 unfold gStep
 dsimp only
 by_cases c:(t.1 - o.1,((t.2:Int) - o.2).fmod sz)=gExp m ka a kb b o.1
 ·rw [if_neg (by simp [c]),if_pos c]
  rw [show toKey (.int (t.1 - o.1))=some (.i (t.1 - o.1)) from rfl,Option.bind_some]
  rw [show (gD s).1=.dict (dV D.int s.1) from rfl,wtd _ _ _ h1 h3,Option.bind_some]
  rw [show toKey (.int (((t.2:Int) - o.2).fmod sz))=some (.i (((t.2:Int) - o.2).fmod sz)) from rfl,Option.bind_some]
  rw [show (gD s).2.1=.dict (dV tD s.2.1) from rfl,show (D.tuple [D.int 1,D.int (((t.2:Int) - o.2).fmod sz)])=tD (1,((t.2:Int) - o.2).fmod sz) from rfl,wsa _ _ _ h2 h4,Option.bind_some]
  rw [wq4 _ h3,Option.bind_some,show (gD s).2.2=.list (s.2.2.map D.int) from rfl,wgd (by simp only [List.length_map,waa];omega),Option.bind_some,wpG,Option.bind_some]
  rw [List.length_map]
  by_cases c3:(s.1.map (·.2)).sum=s.2.2.length
  ·rw [if_neg (by simp [c3]),if_pos c3,wcc (by simp only [List.length_map,List.length_cons,List.length_nil,waa];omega),Option.bind_some]
   simp only [gD,List.map_append,List.map_cons,List.map_nil]
  ·rw [if_pos (by simp [c3]),if_neg c3]
 ·rw [if_pos (by simp [c]),if_neg c]
noncomputable def fwdL (m len sz:Nat):List (Int×Int):=(List.range' 1 (m - 1)).map fun (k:Nat)=>(((k * len % sz:Nat):Int),(k:Int))
noncomputable def bwdL (m len sz:Nat):List (Int×Int):=(List.range' 1 (m - 1)).map fun (k:Nat)=>((-(k:Int) * (len:Int)).fmod (sz:Int),(k:Int))
noncomputable def turnL (R:List PI):List (PI×PI):=R.zip (R.drop 1++R.take 1)
noncomputable def pp (p:PI×PI):D:=.tuple [pI p.1,pI p.2]
noncomputable def gapsRun (len sz:Nat) (R:List PI):D ⊕ GS:=
 runR (gStep sz R.length (bestI (fwdL R.length len sz)).2 (bestI (fwdL R.length len sz)).1 (bestI (bwdL R.length len sz)).2 (bestI (bwdL R.length len sz)).1) (turnL R) ([],[],[])
noncomputable def gapsEnd (len sz:Nat) (R:List PI) (s:GS):Option D:=
 tailG .none .none .none .none (nD R.length) (.int (bestI (fwdL R.length len sz)).1) (.int (bestI (fwdL R.length len sz)).2) (.int (bestI (bwdL R.length len sz)).1) (.int (bestI (bwdL R.length len sz)).2) .none (gD s)
theorem wp7 (l1 l2 l3 l4 m a ka b kb r:D) (s:D×D×D):tailG l1 l2 l3 l4 m a ka b kb r s=tailG .none .none .none .none m a ka b kb .none s:=by kernel_rfl!
noncomputable def gapsR (len sz:Nat) (R:List PI):Option D:=match gapsRun len sz R with
 | .inl v=>some v
 | .inr s=>gapsEnd len sz R s
theorem wsB (a b:List PI):zipQ [.list (a.map pI),.list (b.map pI)]=some ((a.zip b).map pp):=by
 show some ((List.zip (a.map pI) (b.map pI)).map _)=_
 rw [List.zip_map,List.map_map];rfl
theorem wpp (line length way row:D) (sz m ka a kb b:Int) (hz:sz≠0) (l:List (PI×PI)) (hl:l.length<4000) (next:D×D×D->Option D) :
  forS (wbv line length (.int sz) way (.int m) (.int a) (.int ka) (.int b) (.int kb) row) (l.map pp) (.dict [],.dict [],.list []) next some=match runR (gStep sz m ka a kb b) l ([],[],[]) with | .inl v=>some v | .inr s=>next (gD s):=by
 rw [show ((.dict [],.dict [],.list []):D×D×D)=gD ([],[],[]) from rfl]
 refine Eq.trans (wlY (B:=wbv line length (.int sz) way (.int m) (.int a) (.int ka) (.int b) (.int kb) row) pp gD (gStep sz m ka a kb b)
  (fun xs s=>(s.1.map (·.1)).Nodup/\(s.2.1.map (·.1)).Nodup/\s.1.length+xs.length<5000/\s.2.1.length+xs.length<5000/\s.2.2.length+xs.length<5000) (next:=next) (ret:=some) l ([],[],[]) ?_ ⟨by simp,by simp,by simp;omega,by simp;omega,by simp;omega⟩) (by cases runR (gStep sz m ka a kb b) l ([],[],[])<;>rfl)
 intro x xs s hi
 obtain ⟨h1,h2,h3,h4,h5⟩:=hi
 simp only [List.length_cons]at h3 h4 h5
 refine ⟨?_,fun n bk r=>Eq.trans (wqQ line length way row sz m ka a kb b hz s h1 h2 (by omega) (by omega) (by omega) x n bk r) (by cases gStep sz m ka a kb b s x<;>rfl)⟩
 intro s' e
 unfold gStep at e
 split at e
 ·split at e
  ·cases e
   refine ⟨wjp h1,wjp h2,?_,?_,?_⟩
   ·have:=wk1 (.i (x.2.1 - x.1.1)) ((getV (.i (x.2.1 - x.1.1)) s.1).getD 0+1) s.1
    dsimp only [incV];omega
   ·dsimp only [wof]
    have:=wk1 (V:=Int×Int) (.i (((x.2.2:Int) - x.1.2).fmod sz)) (1+((getV (.i (((x.2.2:Int) - x.1.2).fmod sz)) s.2.1).getD (0,0)).1,((x.2.2:Int) - x.1.2).fmod sz+((getV (.i (((x.2.2:Int) - x.1.2).fmod sz)) s.2.1).getD (0,0)).2) s.2.1
    omega
   ·simp only [List.length_append,List.length_cons,List.length_nil];omega
  ·cases e
 ·cases e
theorem wtO:(boundOk (some 1)&&boundOk none)=true:=by decide
theorem wpM:(boundOk none&&boundOk (some 1))=true:=by decide
theorem wsd (L:List PI) (len sz:Nat) (way:Int) (hl:2<=L.length) (hl2:L.length<1000) (hlen:len<10000) (hz:0<sz) (hz2:sz<10000) :
  wbG (.list (L.map pI)) (nD len) (nD sz) (.int way)=gapsR len sz (if 0<way then L else L.reverse):=by
 have hne1:fwdL L.length len sz≠[]:=by
  unfold fwdL
  intro h
  have:=congrArg List.length h
  simp at this;omega
 have hne2:bwdL L.length len sz≠[]:=by
  unfold bwdL
  intro h
  have:=congrArg List.length h
  simp at this;omega
 have hrng:rangeD [.int 1,nD L.length]=some ((List.range' 1 (L.length - 1)).map nD):=by
  have:=rng1 (b:=L.length - 1) (by omega)
  rw [show L.length - 1+1=L.length by omega]at this;exact this
 have hcp:(List.range' 1 (L.length - 1)).length<=cap:=by rw [List.length_range',waa];omega
 have f1:(List.range' 1 (L.length - 1)).map (fun (k:Nat)=>tD (((k * len % sz:Nat):Int),(k:Int)))=(fwdL L.length len sz).map tD:=by unfold fwdL;rw [List.map_map];rfl
 have f2:(List.range' 1 (L.length - 1)).map (fun (k:Nat)=>tD ((-(k:Int) * (len:Int)).fmod (sz:Int),(k:Int)))=(bwdL L.length len sz).map tD:=by unfold bwdL;rw [List.map_map];rfl
 have hR:(if 0<way then L else L.reverse).length=L.length:=by split<;>simp
 have row1:¬ 0<way->compQ (fun d222=>some true) (fun d222=>(unop .USub d222).bind fun x223=>(sub (.list (L.map pI)) x223).bind fun x224=>some x224) ((List.range' 1 L.length).map nD)=some ((if 0<way then L else L.reverse).map pI):=fun hw=>by
  rw [if_neg hw]
  refine (waJ nD (fun k=>(L.map pI).reverse[k - 1]?.getD .none) (List.range' 1 L.length) (fun k hk=>wnw (L.map pI) (by rw [List.length_map];exact Nat.lt_trans hl2 (by decide)) k (by rw [List.length_map];exact hk))).trans ?_
  have:=wkj (L.map pI)
  rw [List.length_map]at this
  rw [this,List.map_reverse]
 have row2:0<way->(if 0<way then L else L.reverse)=L:=fun hw=>if_pos hw
 have hca:(List.range' 1 L.length).length<=cap:=by rw [List.length_range',waa];omega
 unfold wbG
 refine bnS (lenD pI L (by rw [waa];omega)) ?_
 refine bnP (hrng) (ldcap _ hcp) ?_
 refine bnS (a:=(fwdL L.length len sz).map tD) ((waJ nD (fun (k:Nat)=>tD (((k * len % sz:Nat):Int),(k:Int))) (List.range' 1 (L.length - 1)) ?c1).trans (congrArg some f1)) ?_
 case c1=>
  intro k hk
  have hk:=(List.mem_range'_1.mp hk).2
  exact bnS (mulN (a:=k) len (by omega)) (bnS (modN (k * len) hz) rfl)
 refine bnS (wo9 hne1) ?_
 refine un2 ?_
 refine bnP (hrng) (ldcap _ hcp) ?_
 refine bnS (a:=(bwdL L.length len sz).map tD) ((waJ nD (fun (k:Nat)=>tD ((-(k:Int) * (len:Int)).fmod (sz:Int),(k:Int))) (List.range' 1 (L.length - 1)) ?c2).trans (congrArg some f2)) ?_
 case c2=>
  intro k hk
  have hk:=(List.mem_range'_1.mp hk).2
  exact bnS (neg_int k) (bnS (mul_int (a:=-(k:Int)) len (lt60 (Int.natAbs_neg k) (by rw [Int.natAbs_natCast];omega))) (bnS (wim _ (fun q=>Nat.ne_of_gt hz (Int.ofNat.inj q))) rfl))
 refine bnS (wo9 hne2) ?_
 refine un2 ?_
 refine bnS (a:=.list ((if 0<way then L else L.reverse).map pI)) ?_ ?_
 ·refine bnS (gt_int _ _) ?_
  by_cases hw:0<way
  ·refine ifP (decide_eq_true hw) ?_
   rw [if_pos hw]
  ·refine ifN (fun q=>hw (of_decide_eq_true q)) ?_
   refine bnS (add1 L.length) ?_
   refine bnP (rng1 (by omega)) (ldcap _ hca) ?_
   refine bnS (row1 hw) ?_
   rfl
 rw [<- hR]
 generalize (if 0<way then L else L.reverse)=R at hR
 have hd:cutD (some 1) none (.list (R.map pI))=some (.list ((R.drop 1).map pI)):=by
  rw [List.map_drop];exact wkb (xs:=R.map pI) (a:=1) (by rw [List.length_map,waa];omega) (by rw [List.length_map];omega)
 have ht:cutD none (some 1) (.list (R.map pI))=some (.list ((R.take 1).map pI)):=by
  rw [List.map_take];exact wmC (xs:=R.map pI) (a:=1) (by rw [List.length_map,waa];omega) (by rw [List.length_map];omega)
 have hdt:(R.drop 1).length+(R.take 1).length<=1000:=by rw [List.length_drop,List.length_take,Nat.min_eq_left (by omega)];omega
 have hc:binop .Add (.list ((R.drop 1).map pI)) (.list ((R.take 1).map pI))=some (.list ((R.drop 1++R.take 1).map pI)):=by
  rw [List.map_append];exact wcc (by rw [List.length_map,List.length_map,waa];exact Nat.le_trans hdt (by decide))
 have hz3:(turnL R).length<=1000:=by unfold turnL;rw [List.length_zip];exact Nat.le_trans (Nat.min_le_left _ _) (by omega)
 refine ifP (wtO) ?_
 refine bnP (hd) (wpM) ?_
 refine bn3 (ht) (hc) (wsB _ _) ?_
 refine ifP (ldcap pp (l:=turnL R) (Nat.le_trans hz3 (by decide))) ?_
 refine Eq.trans (wpp (.list (L.map pI)) (nD len) (.int way) (.list (R.map pI)) sz R.length (bestI (fwdL R.length len sz)).2 (bestI (fwdL R.length len sz)).1 (bestI (bwdL R.length len sz)).2 (bestI (bwdL R.length len sz)).1 (fun q=>Nat.ne_of_gt hz (Int.ofNat.inj q)) (turnL R) (Nat.lt_of_le_of_lt hz3 (by decide)) _) ?_
 unfold gapsR gapsRun
 split
 ·rfl
 ·exact wp7 ..
noncomputable def natsOf:List D->Option (List Nat)
 | []=>some []
 | .int (.ofNat n)::r=>(natsOf r).map (n::·)
 | _=>none
theorem wkn:∀ {l:List D} {g:List Nat},natsOf l=some g->l=g.map nD
 | [],g,h=>by simp only [natsOf,Option.some.injEq]at h;subst h;rfl
 | d::r,g,h=>by
  unfold natsOf at h
  split at h
  ·rename_i e;cases e
  ·rename_i n r' e
   cases e
   simp only [Option.map_eq_some_iff]at h
   obtain ⟨g',h1,rfl⟩:=h
   rw [wkn h1];rfl
  ·cases h
noncomputable def natsD:Option D->Option (List Nat)
 | some (.list l)=>natsOf l
 | _=>none
theorem wqw {o:Option D} {g:List Nat} (h:natsD o=some g):o=some (.list (g.map nD)):=by
 unfold natsD at h
 split at h
 ·rw [wkn h]
 ·cases h
noncomputable abbrev LS:=List PI×List PI×List Nat×Nat
noncomputable def lsD (pos:Bool) (s:LS):D×D×D:=(.list ((if pos then s.1 else s.2.1).map pI),.list (s.2.2.1.map nD),nD s.2.2.2)
noncomputable def nextCol (len sz k col:Nat):Nat:=(if k=0 then 0 else col+len) % sz
noncomputable def nextL (len sz:Nat) (s:LS) (k:Nat):Option LS:=
 let col:=nextCol len sz k s.2.2.2
 let Lp:=insW true s.1 ((k:Int),col)
 let Ln:=insW false s.2.1 ((k:Int),col)
 if (s.1.all fun o=>!(o.2==col))&&(s.2.1.all fun o=>!(o.2==col))&&decide (Ln.reverse=Lp)&&(k==0||decide (1<Lp.length))&&decide (Lp.length<100) then
  if k=0 then (if col=0/\Lp.length=1 then some (Lp,Ln,s.2.2.1,col) else none)
  else match natsD (gapsR len sz Lp) with
   | some []=>none
   | some g=>some (Lp,Ln,g,col)
   | none=>none
 else none
theorem wsM (n:Nat) (p:PI):Pln (n+1) (pI p):=by
 refine .tuple n _ fun x hx=>?_
 simp only [List.mem_cons,List.not_mem_nil,or_false]at hx
 rcases hx with rfl | rfl<;>exact .int _ _
theorem wqm (L:List PI):Pln 2 (.list (L.map pI)):=.list 1 _ fun x hx=>by
 rw [List.mem_map]at hx;obtain ⟨p,_,rfl⟩:=hx;exact wsM 0 p
theorem wsN (L:List Nat):Pln 1 (.list (L.map nD)):=.list 0 _ (wmI 0 L)
theorem wrM (n:Nat):Pln (n+1) (.list []):=.list n _ fun x hx=>by simp at hx
theorem wiZ (pos:Bool) (L:List PI) (r:PI):(insW pos L r).length=L.length+1:=by
 unfold insW
 simp only [List.length_append,List.length_take,List.length_drop,List.length_cons,List.length_nil]
 have:=List.length_filter_le (fun o:PI=>if pos then decide (o.2<r.2) else decide (r.2<o.2)) L
 omega
theorem wnu {L:List D} {n:Nat} (hp:Pln (n+1) (.list L)) (hn:n+1<=64) (h:L≠[]):cmpD .Eq (.list L) (.list [])=some false:=by
 rw [cmpEq hp (wrM 0) hn (by decide) (p:=False) (by simp [h])];rfl
theorem wqi (k c len:Nat):((cmpD .Gt (nD k) (.int 0)).bind fun b=>if b=true then ((binop .Add (nD c) (nD len)).bind fun x=>some x) else some (.int 0))=some (nD (if k=0 then 0 else c+len)):=by
 refine bnS (gt_int _ _) ?_
 by_cases q:k=0
 ·subst q;rfl
 ·rw [if_neg q];exact ifP (decide_eq_true (Int.ofNat_lt.mpr (Nat.pos_of_ne_zero q))) rfl
theorem wtG {α:Type} (K:D->Option α) {re sz:Nat} (hre:re<900) (hz:0<sz) (hz2:sz<800) :
  ((binop .Add (nD re) (nD sz)).bind fun x33=>(binop .Mult (D.str [32]) (nD re)).bind fun x34=>(binop .Add x34 (D.str [9,120])).bind fun x35=>(wbd x35).bind fun x36=>objK x36 fun c37 fs38=>
   if mOk T02 c37 fs38 (Z "indent_level")=true then (cmOf tm_3 c37 (Z "indent_level") [D.obj c37 fs38,nD sz]).bind fun x39=>(binop .Sub x33 x39).bind K else none)=K (nD (re % sz)):=by
 have e1:binop .Add (.str (List.replicate re 32)) (.str [9,120])=some (.str (gapT re++120::[])):=by
  show (if _ then _ else _)=_
  rw [if_pos (by simp only [List.length_replicate,List.length_cons,List.length_nil,waa];omega)]
  unfold gapT;simp
 have hg:∀ c∈gapT re,c=32\/c=9:=by
  intro c hc
  rcases List.mem_append.mp hc with h | h
  ·exact .inl (List.mem_replicate.mp h).2
  ·exact .inr (List.mem_singleton.mp h)
 have hgl:(gapT re).length=re+1:=by unfold gapT;rw [List.length_append,List.length_replicate];rfl
 have hfold:(gapT re).foldl wstep ([],0,0,0)=ldS [re] 0:=by
  have:=wny [re] 0
  unfold ldT at this
  simpa using this
 have hws:=wrm (gapT re) [] hg (by omega) (by decide)
 rw [hfold]at hws
 have e2:binop .Sub (nD (re+sz)) (nD (0+colN [re] sz))=some (nD (re % sz)):=by
  rw [sub_int]
  have:colN [re] sz=re / sz * sz+sz:=by unfold colN;simp
  rw [this]
  have hm:=Nat.div_add_mod re sz
  rw [Nat.mul_comm]at hm
  congr 2
  omega
 refine bn4 (addnn _ _) (wdX _ (by omega)) (e1) (hws) ?_
 refine obW ?_
 refine ifP (whN _ _) ?_
 refine bnS (((wtM _ _ _).trans (wjG _ _ _ (by have:=(wgO (gaps:=[re]) (beh:=0) (by simp;omega) (by simp)).1;omega) hz (by omega))).trans (by rw [waB])) ?_
 exact congrArg (fun o=>Option.bind o K) e2
theorem wtm {L:List PI} {k col:Nat} {gv:D} {next:D×D×D->Option D} {ret:D->Option D} (hL:L≠[]) (h0:k=0->col=0) (hg:k≠0->cmpD .Eq gv (.list [])=some false) :
  (((cmpD .Eq (.list (L.map pI)) (D.list [])).bind fun b46=>if b46=true then some true else (((cmpD .Eq (nD k) (D.int 0)).bind fun b47=>if b47=true then ((cmpD .NotEq (nD col) (D.int 0)).bind fun b48=>if b48=true then (some true) else some false) else some false).bind fun b49=>
   if b49=true then some true else (((cmpD .Gt (nD k) (D.int 0)).bind fun b50=>if b50=true then ((cmpD .Eq gv (D.list [])).bind fun b51=>if b51=true then (some true) else some false) else some false).bind fun b52=>if b52=true then some true else (some false)))).bind fun b53=>
   if b53=true then ret (D.bool false) else next (.list (L.map pI),gv,nD col))=next (.list (L.map pI),gv,nD col):=by
 refine bnS (a:=false) ?_ rfl
 refine bnS (wnu (wqm L) (by decide) (fun e=>hL (List.map_eq_nil_iff.mp e))) (ifF ?_)
 by_cases q:k=0
 ·cases h0 q;cases q;rfl
 ·refine bnS (a:=false) (bnS (wkD k 0) ?_) (ifF (bnS (a:=false) (bnS (gt_int _ _) ?_) rfl))
  ·rw [decide_eq_false q];rfl
  ·refine ifP (decide_eq_true (Int.ofNat_lt.mpr (Nat.pos_of_ne_zero q))) (bnS (hg q) rfl)
theorem wqu {len sz:Nat} {s s':LS} {k:Nat} (h:nextL len sz s k=some s'):∃ col Lp Ln,nextCol len sz k s.2.2.2=col/\insW true s.1 ((k:Int),col)=Lp/\insW false s.2.1 ((k:Int),col)=Ln /\
  (∀ o∈s.1,o.2≠col)/\(∀ o∈s.2.1,o.2≠col)/\Ln.reverse=Lp/\Lp.length<100/\∃ g,s'=(Lp,Ln,g,col)/\((k=0/\col=0/\Lp.length=1/\g=s.2.2.1)\/(k≠0/\1<Lp.length/\natsD (gapsR len sz Lp)=some g/\g≠[])):=by
 refine ⟨_,_,_,rfl,rfl,rfl,?_⟩
 unfold nextL at h
 dsimp only at h
 generalize nextCol len sz k s.2.2.2=col at *
 generalize insW true s.1 ((k:Int),col)=Lp at *
 generalize insW false s.2.1 ((k:Int),col)=Ln at *
 by_cases hc:((s.1.all fun o=>!(o.2==col))&&(s.2.1.all fun o=>!(o.2==col))&&decide (Ln.reverse=Lp)&&(k==0||decide (1<Lp.length))&&decide (Lp.length<100))=true
 ·rw [if_pos hc]at h
  simp only [Bool.and_eq_true,decide_eq_true_eq,Bool.or_eq_true,List.all_eq_true,Bool.not_eq_true',beq_eq_false_iff_ne,beq_iff_eq]at hc
  obtain ⟨⟨⟨⟨hd1,hd2⟩,hrev⟩,hk1⟩,hlt⟩:=hc
  refine ⟨hd1,hd2,hrev,hlt,?_⟩
  by_cases q:k=0
  ·rw [if_pos q]at h
   by_cases c:col=0/\Lp.length=1
   ·rw [if_pos c]at h
    exact ⟨_,(Option.some.inj h).symm,.inl ⟨q,c.1,c.2,rfl⟩⟩
   ·rw [if_neg c]at h;cases h
  ·rw [if_neg q]at h
   cases hg:natsD (gapsR len sz Lp) with
   | none=>rw [hg]at h;cases h
   | some g=>
    rw [hg]at h
    cases g with
    | nil=>cases h
    | cons a r=>exact ⟨_,(Option.some.inj h).symm,.inr ⟨q,hk1.resolve_left q,rfl,List.cons_ne_nil _ _⟩⟩
 ·rw [if_neg hc]at h;cases h
theorem wpg {way:Int} (hw:okWay way) {s:LS} {k col:Nat} (h1:s.1.length<1000) (h2:s.2.1.length<1000) (hd1:∀ o∈s.1,o.2≠col) (hd2:∀ o∈s.2.1,o.2≠col) :
  wbF (lsD (decide (0<way)) s).1 (D.tuple [nD k,nD col]) (.int way)=some (.list ((if decide (0<way) then insW true s.1 ((k:Int),col) else insW false s.2.1 ((k:Int),col)).map pI)):=by
 refine (wr6 (if decide (0<way) then s.1 else s.2.1) ((k:Int),col) way hw ?_ ?_).trans ?_
 ·cases decide (0<way)
  ·exact h2
  ·exact h1
 ·cases decide (0<way)
  ·exact hd2
  ·exact hd1
 ·cases decide (0<way)<;>rfl
theorem wqo {way:Int} {Lp Ln:List PI} (hrev:Ln.reverse=Lp):(if 0<way then (if decide (0<way) then Lp else Ln) else (if decide (0<way) then Lp else Ln).reverse)=Lp:=by
 by_cases q:0<way
 ·rw [if_pos q,if_pos (decide_eq_true q)]
 ·rw [if_neg q,if_neg (fun e=>q (of_decide_eq_true e))];exact hrev
theorem wqp {b:Bool} {Lp Ln:List PI} (hrev:Ln.reverse=Lp):(if b then Lp else Ln).length=Lp.length:=by
 cases b
 ·exact (List.length_reverse).symm.trans (congrArg List.length hrev)
 ·rfl
theorem lawStep (a1 a2 a3 a4 a5 a6:D) (len sz:Nat) (way:Int) (hw:okWay way) (hlen:len<100) (hz:0<sz) (hz2:sz<800) (s s':LS) (k:Nat) (hk:k<100) (hc:s.2.2.2<800)
  (h:nextL len sz s k=some s') (n b:D×D×D->Option D) (r:D->Option D) :
  wcR a1 a2 a3 (nD sz) (.int way) a4 a5 a6 (nD len) (lsD (decide (0<way)) s) (nD k) n b r=n (lsD (decide (0<way)) s')/\s'.2.2.2<800:=by
 obtain ⟨col,Lp,Ln,hcol,eP,eN,hd1,hd2,hrev,hlt,g,rfl,hs⟩:=wqu h
 have hcl:col<sz:=hcol ▸ Nat.mod_lt _ hz
 refine ⟨?_,Nat.lt_trans hcl hz2⟩
 have l1:s.1.length<1000:=by have:=wiZ true s.1 ((k:Int),col);rw [eP]at this;omega
 have l2:s.2.1.length<1000:=by have:=wiZ false s.2.1 ((k:Int),col);have:=congrArg List.length hrev;rw [List.length_reverse]at this;omega
 have hlaid:=wpg hw (k:=k) l1 l2 hd1 hd2
 have hre:(if k=0 then 0 else s.2.2.2+len)<900:=by split<;>omega
 have hlen':=wqp (b:=decide (0<way)) hrev
 have hne:(if decide (0<way) then Lp else Ln)≠[]:=fun q=>by
  have e:=wiZ true s.1 ((k:Int),col)
  rw [eP,<- hlen',q]at e
  exact Nat.noConfusion e
 have hgp:k≠0->wbG (.list ((if decide (0<way) then Lp else Ln).map pI)) (nD len) (nD sz) (.int way)=some (.list (g.map nD)):=fun q=>by
  rcases hs with ⟨q',_⟩ | ⟨_,h1,h2,_⟩
  ·exact absurd q' q
  ·refine (wsd _ len sz way (by rw [hlen'];exact h1) (by rw [hlen'];exact Nat.lt_trans hlt (by decide)) (Nat.lt_trans hlen (by decide)) hz (Nat.lt_trans hz2 (by decide))).trans ?_
   rw [wqo hrev];exact wqw h2
 unfold wcR
 refine bnS (wqi k s.2.2.2 len) ((wtG _ hre hz hz2).trans ?_)
 rw [show (if k=0 then 0 else s.2.2.2+len) % sz=col from hcol]
 refine bnS hlaid ?_
 rw [eP,eN]
 refine bnS (a:=.list (g.map nD)) ?_ (wtm hne (fun q=>?_) fun q=>?_)
 ·refine bnS (lenD pI _ (by rw [hlen',waa];omega)) (bnS (gt_int _ _) ?_)
  rcases hs with ⟨_,_,e1,e2⟩ | ⟨q,e1,_,_⟩
  ·rw [hlen',e1,e2];rfl
  ·refine ifP (decide_eq_true (Int.ofNat_lt.mpr (by rw [hlen'];exact e1))) (bnS (hgp q) rfl)
 ·rcases hs with ⟨_,e,_⟩ | ⟨q',_⟩
  ·exact e
  ·exact absurd q q'
 ·rcases hs with ⟨q',_⟩ | ⟨_,_,_,e⟩
  ·exact absurd q' q
  ·exact wnu (wsN g) (by decide) fun q=>e (List.map_eq_nil_iff.mp q)
noncomputable def tailL (script typed_2 word_3 size_4 way_5:D) (l10 l15:List D) (x21 x22:D):Option D:=
(binop .Add x22 (D.int 1)).bind fun x54=>
(rangeD [(D.int 1),x54]).bind fun l55=>
if l55.length<=cap then (compQ (fun d56=>((binop .Mod x22 d56).bind fun x57=>
(cmpD .Eq x57 (D.int 0)).bind fun b58=>
if b58 then ((binop .Mod size_4 d56).bind fun x59=>
(cmpD .Eq x59 (D.int 0)).bind fun b60=>
if b60 then (some true) else some false) else some false).bind fun b61=>
if b61 then (some true) else some false) (fun d56=>some d56) l55).bind fun l62=>
(bfn .max [(D.list l62)]).bind fun x63=>
(binop .FloorDiv size_4 x63).bind fun x64=>
(bfn .min [(D.int 9),x64]).bind fun x65=>
(rangeD [x65]).bind fun l66=>
if l66.length<=cap then forS (wcR script typed_2 word_3 size_4 way_5 (D.list l10) (D.list l15) x21 x22) l66 ((D.list []),(D.list []),(D.int 0)) (fun s67=>
(wbc s67.2.1).bind fun x68=>
some x68) some else none else none
noncomputable def runL (len sz:Nat):List Nat->LS->Option LS
 | [],s=>some s
 | k::ks,s=>match nextL len sz s k with
  | some s'=>runL len sz ks s'
  | none=>none
theorem wnx (a1 a2 a3 a4 a5 a6:D) (len sz:Nat) (way:Int) (hw:okWay way) (hlen:len<100) (hz:0<sz) (hz2:sz<800) (next:D×D×D->Option D) (ret:D->Option D):∀ (ks:List Nat) (s s':LS),(∀ k∈ks,k<100)->s.2.2.2<800->runL len sz ks s=some s' ->
  forS (wcR a1 a2 a3 (nD sz) (.int way) a4 a5 a6 (nD len)) (ks.map nD) (lsD (decide (0<way)) s) next ret=next (lsD (decide (0<way)) s')
 | [],s,s',_,_,h=>by cases h;rfl
 | k::ks,s,s',hk,hc,h=>by
  unfold runL at h
  split at h
  ·rename_i s1 e
   obtain ⟨h1,h2⟩:=lawStep a1 a2 a3 a4 a5 a6 len sz way hw hlen hz hz2 s s1 k (hk k (by simp)) hc e (fun s'=>forS (wcR a1 a2 a3 (nD sz) (.int way) a4 a5 a6 (nD len)) (ks.map nD) s' next ret) next ret
   show wcR a1 a2 a3 (nD sz) (.int way) a4 a5 a6 (nD len) _ (nD k) _ _ _=_
   rw [h1]
   exact wnx a1 a2 a3 a4 a5 a6 len sz way hw hlen hz hz2 next ret ks s1 s' (fun j hj=>hk j (by simp [hj])) h2 h
  ·cases h
noncomputable def comL (len sz:Nat):List Nat:=(List.range' 1 len).filter fun d=>decide (len % d=0)&&decide (sz % d=0)
noncomputable def copies (len sz:Nat):Nat:=min 9 (sz / mx (comL len sz))
noncomputable def okCase (len sz:Nat):Bool:=match runL len sz (List.range (copies len sz)) ([],[],[],0) with
 | some s=>(!s.2.2.1.isEmpty)&&(s.2.2.1.all fun g=>decide (0<g))&&decide (s.2.2.1.sum<400)&&decide (s.2.2.1.length<100)
 | none=>false
theorem minnn (a b:Nat):bfn .min [.int a,nD b]=some (nD (min a b)):=by
 rw [wr1];congr 2;omega
theorem woL (a1 a2 a3:D) (l1 l2:List D) (a6:D) (len sz:Nat) (way:Int) (hw:okWay way) (hl1:0<len) (hlen:len<100) (hz:0<sz) (hz2:sz<800) (h:okCase len sz=true) :
  tailL a1 a2 a3 (nD sz) (.int way) l1 l2 a6 (nD len)=some (.bool true):=by
 have hmem:1∈comL len sz:=by
  unfold comL
  rw [List.mem_filter,List.mem_range'_1]
  simp [Nat.mod_one];omega
 have hne:comL len sz≠[]:=fun e=>by rw [e]at hmem;simp at hmem
 have hm1:1<=mx (comL len sz):=wkO hmem
 have hm2:mx (comL len sz)<=len:=wil fun g hg=>by
  unfold comL at hg
  rw [List.mem_filter,List.mem_range'_1]at hg;omega
 unfold okCase at h
 split at h
 case h_2=>cases h
 rename_i s hs
 simp only [Bool.and_eq_true,Bool.not_eq_true',List.all_eq_true,decide_eq_true_eq]at h
 obtain ⟨⟨⟨h1,h2⟩,h3⟩,h4⟩:=h
 unfold tailL
 rw [add1,Option.bind_some,rng1 (by omega),Option.bind_some,if_pos (ldcap _ (by simp only [List.length_range',waa];omega))]
 rw [wbj nD (fun d=>decide (len % d=0)&&decide (sz % d=0)) nD (List.range' 1 len) ?c1 (fun _ _ _=>rfl)]
 case c1=>
  intro d hd
  rw [List.mem_range'_1]at hd
  have ee:∀ n:Nat,cmpD .Eq (nD n) (.int 0)=some (decide (n=0)):=fun n=>wkP n 0
  rw [modnn _ (by omega),Option.bind_some,ee,Option.bind_some,modnn _ (by omega),Option.bind_some,ee,Option.bind_some,wdI]
  cases decide (len % d=0)<;>cases decide (sz % d=0)<;>rfl
 rw [show (List.range' 1 len).filter (fun d=>decide (len % d=0)&&decide (sz % d=0))=comL len sz from rfl,Option.bind_some,waF hne,Option.bind_some]
 rw [show nD sz=D.int (sz:Int) from rfl,show nD (mx (comL len sz))=D.int ((mx (comL len sz):Nat):Int) from rfl,fdivN _ (by omega) (by omega),Option.bind_some]
 rw [show bfn .min [.int 9,.int ((sz / mx (comL len sz):Nat):Int)]=some (nD (copies len sz)) from minnn 9 _,Option.bind_some]
 have hcp:copies len sz<=9:=by unfold copies;omega
 rw [rng0 (by omega),Option.bind_some,if_pos (ldcap _ (by simp only [List.length_range,waa];omega))]
 have key:=fun next ret=>wnx a1 a2 a3 (.list l1) (.list l2) a6 len sz way hw hlen hz hz2 next ret (List.range (copies len sz)) ([],[],[],0) s (fun k hk=>by rw [List.mem_range]at hk;omega) (by show (0:Nat)<800;omega) hs
 rw [show ((.list [],.list [],.int 0):D×D×D)=lsD (decide (0<way)) ([],[],[],0) by cases decide (0<way)<;>rfl]
 refine Eq.trans (key _ _) ?_
 have hgne:s.2.2.1≠[]:=by simpa using h1
 obtain ⟨i,g,hi⟩:=wkL hgne
 rw [show (lsD (decide (0<way)) s).2.1=.list (s.2.2.1.map nD) from rfl,hi]
 rw [hi]at h2 h3 h4
 rw [wnT i g h3 h4 h2];rfl
theorem wtL:((List.range' 9 15).all fun sz=>okCase 4 sz)=true:=by decide +kernel
theorem wtK:((List.range' 9 15).all fun sz=>okCase 5 sz)=true:=by decide +kernel
theorem wtJ:((List.range' 9 15).all fun sz=>okCase 6 sz)=true:=by decide +kernel
theorem wtI:((List.range' 9 15).all fun sz=>okCase 7 sz)=true:=by decide +kernel
theorem wtH:((List.range' 9 15).all fun sz=>okCase 8 sz)=true:=by decide +kernel
theorem wpZ {len sz:Nat} (h1:4<=len) (h2:len<=8) (h3:9<=sz) (h4:sz<=23):okCase len sz=true:=by
 have hs:sz∈List.range' 9 15:=by rw [List.mem_range'_1];omega
 have:len=4\/len=5\/len=6\/len=7\/len=8:=by omega
 rcases this with rfl | rfl | rfl | rfl | rfl
 ·exact (List.all_eq_true.mp wtL) sz hs
 ·exact (List.all_eq_true.mp wtK) sz hs
 ·exact (List.all_eq_true.mp wtJ) sz hs
 ·exact (List.all_eq_true.mp wtI) sz hs
 ·exact (List.all_eq_true.mp wtH) sz hs
noncomputable def chD (c:Nat):D:=.str [c]
noncomputable def inB (c:Nat):Bool:=match wa7 (chD c) with
 | some (.bool b)=>b
 | _=>false
noncomputable def mean (c:Nat):Tx:=match wbb (chD c) with
 | some (.str m)=>m
 | _=>[]
noncomputable def isBO:Option D->Bool
 | some (.bool _)=>true
 | _=>false
noncomputable def isSO:Option D->Bool
 | some (.str _)=>true
 | _=>false
noncomputable def good (c:Nat):Bool:=isBO (wa7 (chD c))&&(inB c||isSO (wbb (chD c)))
theorem wpm {c:Nat} (h:good c=true):wa7 (chD c)=some (.bool (inB c)):=by
 unfold good at h
 rw [Bool.and_eq_true]at h
 have h:=h.1
 unfold isBO at h
 split at h
 ·rename_i b e
  rw [e];unfold inB;rw [e]
 ·cases h
theorem wth {c:Nat} (h:good c=true) (h2:inB c=false):wbb (chD c)=some (.str (mean c)):=by
 unfold good at h
 rw [Bool.and_eq_true,h2,Bool.false_or]at h
 have h:=h.2
 unfold isSO at h
 split at h
 ·rename_i b e
  rw [e];unfold mean;rw [e]
 ·cases h
noncomputable def unseenL:List Nat:=[173,847,6150,6155,6156,6157,8203,8204,8205,8288,65279]++List.range' 65024 16
noncomputable def firstsL:List Nat:=[97,65]++[0,1,2,4,7,8,9,10,11,12].map fun k=>119808+52 * k
noncomputable def wideL:List (Nat×Tx):=[(64256,[102,102]),(64257,[102,105]),(64258,[102,108]),(64259,[102,102,105]),(64260,[102,102,108]),(64262,[115,116]),(223,[115,115]),(8470,[110,111]),(8481,[116,101,108]),(8482,[116,109]),(13169,[104,112,97]),(13201,[107,104,122]),(13254,[99,8725,107,103]),(13255,[99,111,46]),(13259,[104,112]),(13273,[112,112,109])]
noncomputable def stockL:List Nat:=[97,98,101,103,107,114,118,122]++wideL.map (·.1)
noncomputable def wideK:List (Key×D):=wideL.map fun p=>(Key.s [p.1],D.str p.2)
noncomputable def getW (c:Nat):Option Tx:=wideL.lookup c
theorem whl (c:Nat):∀ l:List (Nat×Tx),kget (.s [c]) (l.map fun p=>(Key.s [p.1],D.str p.2))=(l.lookup c).map D.str
 | []=>rfl
 | (a,v)::r=>by
  show (if Key.s [a]=Key.s [c] then some (D.str v) else kget (.s [c]) (r.map _))=_
  rw [List.lookup_cons,whl c r]
  by_cases h:a=c
  ·subst h;simp
  ·rw [if_neg (by simpa using h),show (c==a)=false from beq_eq_false_iff_ne.mpr (Ne.symm h)]
noncomputable def wordOf (c:Nat):Tx:=(getW c).getD [c]
noncomputable def typedAs (c j:Nat):Nat:=if (getW c).isSome then c else firstsL.getD j 0+c - 97
noncomputable def signOk (i j:Nat):Bool:=
 let c:=stockL.getD i 0
 let t:=typedAs c j
 good t&&!inB t&&decide (mean t=wordOf c)&&decide (1<=(wordOf c).length)&&decide ((wordOf c).length<=4)&&((wordOf c).all fun x=>decide (x<1114112))&&decide (97<=c)&&decide (firstsL.getD j 0+c - 97<1114112)
theorem wqe:((List.range 24).all fun i=>(List.range 12).all fun j=>signOk i j)=true:=by decide +kernel
theorem wp3:(unseenL.all fun v=>good v&&inB v&&decide (v<1114112))=true:=by decide +kernel
theorem takeN {xs:List D} (a:Nat) (h:xs.length<=cap):cutD none (some (a:Int)) (.list xs)=some (.list (xs.take a)):=by
 show (if _ then _ else _)=_
 rw [if_pos h]
 have e:clipAt xs.length (a:Int)=min a xs.length:=wi5 _ _
 unfold cut
 simp only [Option.elim_none,Option.elim_some,e,List.drop_zero,Nat.sub_zero]
 congr 2
 by_cases q:a<=xs.length
 ·rw [Nat.min_eq_left q]
 ·rw [Nat.min_eq_right (by omega),List.take_of_length_le (Nat.le_refl _),List.take_of_length_le (by omega)]
noncomputable def enD (p:Nat×Int):D:=.tuple [nD p.1,.int p.2]
theorem wl6:∀ (A:List Nat) (l:List Int),List.zipWith (fun (i:Nat) (x:D)=>D.tuple [.int (i:Int),x]) A (l.map D.int)=(A.zip l).map enD
 | [],l=>rfl
 | a::A,[]=>rfl
 | a::A,x::l=>by
  simp only [List.map_cons,List.zipWith_cons_cons,List.zip_cons_cons,wl6 A l];rfl
theorem wsj (l:List Int):enumQ [.list (l.map D.int)]=some (((List.range l.length).zip l).map enD):=by
 show some (enumD (l.map D.int))=_
 unfold enumD
 rw [List.length_map,wl6]
theorem wpI (script:D) (a b c:Nat) (p:Nat×Int) (hp:p.1<1000):∃ a' b' c':Nat,∀ (n k:List D->Option D) (r:D->Option D),
  wa2 script [nD a,nD b,nD c] (enD p) n k r=n [nD a',nD b',nD c']:=by
 obtain ⟨i,x⟩:=p
 have hx:∃ y:Nat,x.fmod (10 ^ 12)=y:=⟨(x.fmod (10 ^ 12)).toNat,by have:=Int.fmod_nonneg_of_pos x (show (0:Int)<10 ^ 12 by decide);omega⟩
 obtain ⟨y,hy⟩:=hx
 have pw:binop .Pow (.int 10) (.int 12)=some (.int (10 ^ 12)):=by decide +kernel |> fun (_:True)=>rfl
 have h3:i % 3=0\/i % 3=1\/i % 3=2:=by omega
 have md:binop .Mod (nD i) (.int 3)=some (nD (i % 3)):=modN i (by decide)
 have mx:binop .Mod (.int x) (.int (10 ^ 12))=some (nD y):=by rw [wim _ (by decide),hy]
 rcases h3 with h3 | h3 | h3
 ·refine ⟨a+y,b,c,fun n k r=>?_⟩
  unfold wa2 enD
  rw [wb4,md,Option.bind_some,h3,show sub (.list [nD a,nD b,nD c]) (nD 0)=some (nD a) from rfl,Option.bind_some,pw,Option.bind_some,mx,Option.bind_some,wi9,Option.bind_some]
  rw [show putL [nD a,nD b,nD c] (nD 0) (.int ((a:Int)+y))=some [nD (a+y),nD b,nD c] from rfl,Option.bind_some]
 ·refine ⟨a,b+y,c,fun n k r=>?_⟩
  unfold wa2 enD
  rw [wb4,md,Option.bind_some,h3,show sub (.list [nD a,nD b,nD c]) (nD 1)=some (nD b) from rfl,Option.bind_some,pw,Option.bind_some,mx,Option.bind_some,wi9,Option.bind_some]
  rw [show putL [nD a,nD b,nD c] (nD 1) (.int ((b:Int)+y))=some [nD a,nD (b+y),nD c] from rfl,Option.bind_some]
 ·refine ⟨a,b,c+y,fun n k r=>?_⟩
  unfold wa2 enD
  rw [wb4,md,Option.bind_some,h3,show sub (.list [nD a,nD b,nD c]) (nD 2)=some (nD c) from rfl,Option.bind_some,pw,Option.bind_some,mx,Option.bind_some,wi9,Option.bind_some]
  rw [show putL [nD a,nD b,nD c] (nD 2) (.int ((c:Int)+y))=some [nD a,nD b,nD (c+y)] from rfl,Option.bind_some]
theorem wkG (script:D):∀ (l:List (Nat×Int)) (a b c:Nat),(∀ p∈l,p.1<1000)->∃ a' b' c':Nat,∀ (n:List D->Option D) (r:D->Option D),
  forS (wa2 script) (l.map enD) [nD a,nD b,nD c] n r=n [nD a',nD b',nD c']
 | [],a,b,c,_=>⟨a,b,c,fun n r=>rfl⟩
 | p::l,a,b,c,h=>by
  obtain ⟨a1,b1,c1,h1⟩:=wpI script a b c p (h p (by simp))
  obtain ⟨a2,b2,c2,h2⟩:=wkG script l a1 b1 c1 fun q hq=>h q (by simp [hq])
  refine ⟨a2,b2,c2,fun n r=>?_⟩
  show wa2 script [nD a,nD b,nD c] (enD p) _ _ _=_
  rw [h1,h2]
noncomputable def stepW (b c:Nat) (s:List Nat×Tx) (k:Nat):List Nat×Tx:=
 if s.2.length+(wordOf (stockL.getD (b / 24 ^ k % 24) 0)).length<=8 then
  (s.1++(unseenL.drop (c / 336 ^ k / 12 % 28)).take 1++[typedAs (stockL.getD (b / 24 ^ k % 24) 0) (c / 336 ^ k % 12)],s.2++wordOf (stockL.getD (b / 24 ^ k % 24) 0))
 else s
noncomputable def wordD (s:List Nat×Tx):List D×D:=(s.1.map chD,.str s.2)
theorem wp9 {i:Nat} (h:i<24):sub (.list (stockL.map chD)) (nD i)=some (chD (stockL.getD i 0)):=by
 have hl:i<stockL.length:=by simpa [stockL,wideL] using h
 refine wf7 (by omega) ?_
 rw [List.getElem?_map,List.getElem?_eq_getElem hl,List.getD_eq_getElem?_getD,List.getElem?_eq_getElem hl];rfl
theorem wqV {i:Nat} (h:i<12):sub (.list (firstsL.map nD)) (nD i)=some (nD (firstsL.getD i 0)):=by
 have hl:i<firstsL.length:=by simpa [firstsL] using h
 refine wf7 (by omega) ?_
 rw [List.getElem?_map,List.getElem?_eq_getElem hl,List.getD_eq_getElem?_getD,List.getElem?_eq_getElem hl];rfl
theorem wkS (c:Nat):mfn (.dict wideK) .get [chD c,chD c]=some (.str (wordOf c)):=by
 rw [show mfn (.dict wideK) .get [chD c,chD c]=some ((kget (.s [c]) wideK).getD (chD c)) from rfl]
 unfold wideK
 rw [whl]
 unfold wordOf getW
 cases wideL.lookup c<;>rfl
theorem wrw (c:Nat):cmpD .In (chD c) (.dict wideK)=some (getW c).isSome:=by
 rw [show cmpD .In (chD c) (.dict wideK)=some (khas (.s [c]) wideK) from rfl]
 unfold khas wideK
 rw [whl]
 unfold getW
 cases wideL.lookup c<;>rfl
theorem chrQ (i:Int):bfn .chr [.int i]=if 0<=i/\i<1114112 then some (.str [i.toNat]) else none:=rfl
theorem wpH {n:Nat} (h:n<1114112):bfn .chr [nD n]=some (chD n):=by
 rw [chrQ,if_pos ⟨by omega,by omega⟩];rfl
theorem woU {a k:Nat} (h:k<=64) (ha:a<2 ^ 32):binop .Pow (.int a) (nD k)=some (.int ((a:Int) ^ k)):=by
 show (if _ then _ else _)=_
 rw [if_pos (by omega)];rfl
theorem strlen {w:Tx} (h:w.length<=cap):bfn .len [.str w]=some (nD w.length):=len_str h
theorem wqf {i j:Nat} (hi:i<24) (hj:j<12):signOk i j=true:=
 (List.all_eq_true.mp ((List.all_eq_true.mp wqe) i (List.mem_range.mpr hi))) j (List.mem_range.mpr hj)
structure WInv (k:Nat) (s:List Nat×Tx):Prop where
 good:∀ c∈s.1,good c=true
 told:((s.1.filter fun c=>!inB c).map mean).flatten=s.2
 le:s.2.length<=8
 ge:k<=s.2.length\/5<=s.2.length
 len:s.1.length<=2 * k
 chars:∀ x∈s.2,x<1114112
theorem wev (script:D) (a b c:Nat) (s:List Nat×Tx) (k:Nat) (hk:k<4) (iv:WInv k s):WInv (k+1) (stepW b c s k)/\∀ (n bk:List D×D->Option D) (r:D->Option D),
  wcB script (.list [nD a,nD b,nD c]) (.dict wideK) (.list (unseenL.map nD)) (.list (firstsL.map nD)) (.list (stockL.map chD)) (wordD s) (nD k) n bk r=n (wordD (stepW b c s k)):=by
 have hi:b / 24 ^ k % 24<24:=Nat.mod_lt _ (by decide)
 have hv:c / 336 ^ k / 12 % 28<28:=Nat.mod_lt _ (by decide)
 have hj:c / 336 ^ k % 12<12:=Nat.mod_lt _ (by decide)
 have h24:0<24 ^ k/\24 ^ k<2 ^ 30:=by
  have:k=0\/k=1\/k=2\/k=3:=by omega
  rcases this with rfl | rfl | rfl | rfl<;>decide
 have h336:0<336 ^ k/\336 ^ k<2 ^ 30:=by
  have:k=0\/k=1\/k=2\/k=3:=by omega
  rcases this with rfl | rfl | rfl | rfl<;>decide
 have sg:=wqf hi hj
 have p1:binop .Pow (.int 24) (nD k)=some (nD (24 ^ k)):=by
  have:=woU (a:=24) (k:=k) (by omega) (by decide)
  rw [show (D.int ((24:Nat):Int))=D.int 24 from rfl]at this
  rw [this];simp [nD]
 have p2:binop .Pow (.int 336) (nD k)=some (nD (336 ^ k)):=by
  have:=woU (a:=336) (k:=k) (by omega) (by decide)
  rw [show (D.int ((336:Nat):Int))=D.int 336 from rfl]at this
  rw [this];simp [nD]
 have d1:binop .FloorDiv (nD b) (nD (24 ^ k))=some (nD (b / 24 ^ k)):=fdivN b h24.1 h24.2
 have d2:binop .FloorDiv (nD c) (nD (336 ^ k))=some (nD (c / 336 ^ k)):=fdivN c h336.1 h336.2
 have m1:binop .Mod (nD (b / 24 ^ k)) (.int 24)=some (nD (b / 24 ^ k % 24)):=modN _ (by decide)
 have d3:binop .FloorDiv (nD (c / 336 ^ k)) (.int 12)=some (nD (c / 336 ^ k / 12)):=fdivN _ (by decide) (by decide)
 have m2:binop .Mod (nD (c / 336 ^ k / 12)) (.int 28)=some (nD (c / 336 ^ k / 12 % 28)):=modN _ (by decide)
 have m3:binop .Mod (nD (c / 336 ^ k)) (.int 12)=some (nD (c / 336 ^ k % 12)):=modN _ (by decide)
 have st:=wp9 hi
 have fi:=wqV hj
 have hul:unseenL.length=27:=by decide
 unfold stepW
 generalize b / 24 ^ k % 24=i at *
 generalize c / 336 ^ k / 12 % 28=v at *
 generalize hjj:c / 336 ^ k % 12=j at *
 generalize hcc:stockL.getD i 0=ch at *
 unfold signOk at sg
 dsimp only at sg
 rw [hcc]at sg
 simp only [Bool.and_eq_true,Bool.not_eq_true',decide_eq_true_eq,List.all_eq_true]at sg
 obtain ⟨⟨⟨⟨⟨⟨⟨g1,g2⟩,g3⟩,g4⟩,g5⟩,g6⟩,g7⟩,g8⟩:=sg
 have hveil:∀ x∈(unseenL.drop v).take 1,good x=true/\inB x=true/\x<1114112:=by
  intro x hx
  have hm:x∈unseenL:=List.mem_of_mem_drop (List.mem_of_mem_take hx)
  have:=(List.all_eq_true.mp wp3) x hm
  simp only [Bool.and_eq_true,decide_eq_true_eq]at this
  exact ⟨this.1.1,this.1.2,this.2⟩
 constructor
 ·split
  ·rename_i h8
   refine ⟨?_,?_,?_,?_,?_,?_⟩
   ·intro x hx
    simp only [List.mem_append,List.mem_singleton]at hx
    rcases hx with (hx | hx) | hx
    ·exact iv.good x hx
    ·exact (hveil x hx).1
    ·rw [hx];exact g1
   ·rw [List.filter_append,List.filter_append]
    have e1:((unseenL.drop v).take 1).filter (fun c=>!inB c)=[]:=by
     rw [List.filter_eq_nil_iff]
     intro x hx
     rw [(hveil x hx).2.1];decide
    have e2:[typedAs ch j].filter (fun c=>!inB c)=[typedAs ch j]:=by
     rw [List.filter_cons_of_pos (by rw [g2];rfl)];rfl
    rw [e1,e2,List.append_nil,List.map_append,List.flatten_append,iv.told]
    simp [g3]
   ·dsimp only;rw [List.length_append];exact h8
   ·dsimp only;rw [List.length_append]
    rcases iv.ge with h | h
    ·left;omega
    ·right;omega
   ·have:=iv.len
    have h1:((unseenL.drop v).take 1).length<=1:=by rw [List.length_take];omega
    simp only [List.length_append,List.length_cons,List.length_nil];omega
   ·intro x hx
    rw [List.mem_append]at hx
    rcases hx with hx | hx
    ·exact iv.chars x hx
    ·exact g6 x hx
  ·rename_i h8
   refine ⟨iv.good,iv.told,iv.le,?_,?_,iv.chars⟩
   ·right;omega
   ·have:=iv.len;omega
 ·intro n bk r
  unfold wcB
  rw [show sub (.list [nD a,nD b,nD c]) (.int 1)=some (nD b) from rfl,Option.bind_some,p1,Option.bind_some,d1,Option.bind_some,m1,Option.bind_some,st,Option.bind_some]
  rw [show sub (.list [nD a,nD b,nD c]) (.int 2)=some (nD c) from rfl,Option.bind_some,p2,Option.bind_some,d2,Option.bind_some]
  rw [show (wordD s).2=.str s.2 from rfl,strlen (by have:=iv.le;rw [waa];omega),Option.bind_some,wl8,wkS,Option.bind_some,strlen (by rw [waa];omega),Option.bind_some,addnn,Option.bind_some]
  have hle:cmpD .LtE (nD (s.2.length+(wordOf ch).length)) (.int 8)=some (decide (s.2.length+(wordOf ch).length<=8)):=by
   rw [le_int];exact congrArg some (decide_eq_decide.mpr (by omega))
  rw [hle,Option.bind_some]
  by_cases h8:s.2.length+(wordOf ch).length<=8
  ·rw [if_pos (by simpa using h8),if_pos h8]
   rw [d3,Option.bind_some,m2,Option.bind_some,show nD v=D.int (v:Int) from rfl,wlT,if_pos (wrr (by omega)),wkb (by simp only [List.length_map,hul,waa];omega) (by simp only [List.length_map,hul];omega),Option.bind_some]
   rw [if_pos wpM,show (some (1:Int))=some ((1:Nat):Int) from rfl,takeN 1 (by simp only [List.length_drop,List.length_map,hul,waa];omega),Option.bind_some,waU,Option.bind_some]
   rw [if_pos (by simp only [List.length_take,List.length_drop,List.length_map,hul,waa];omega)]
   rw [<- List.map_drop,<- List.map_take]
   rw [waJ nD chD ((unseenL.drop v).take 1) (fun x hx=>by rw [wpH (hveil x hx).2.2,Option.bind_some]),Option.bind_some]
   have hl1:=iv.len
   rw [show (wordD s).1=s.1.map chD from rfl,if_pos (by simp only [List.length_take,List.length_drop,List.length_map,hul,waa];omega)]
   have ht:((cmpD .In (chD ch) (.dict wideK)).bind fun b73=>if b73=true then some (chD ch) else
     (binop .Mod (nD (c / 336 ^ k)) (.int 12)).bind fun x74=>(sub (.list (firstsL.map nD)) x74).bind fun x75=>(bfn .ord [chD ch]).bind fun x76=>(binop .Add x75 x76).bind fun x77=>(binop .Sub x77 (.int 97)).bind fun x78=>(bfn .chr [x78]).bind fun x79=>some x79)=some (chD (typedAs ch j)):=by
    rw [wrw,Option.bind_some]
    unfold typedAs
    by_cases q:(getW ch).isSome=true
    ·rw [if_pos q,if_pos q]
    ·rw [if_neg q,if_neg q,m3,Option.bind_some,fi,Option.bind_some,show bfn .ord [chD ch]=some (nD ch) from rfl,Option.bind_some,addnn,Option.bind_some]
     rw [show binop .Sub (nD (firstsL.getD j 0+ch)) (.int 97)=some (nD (firstsL.getD j 0+ch - 97)) by rw [sub_int];exact congrArg (fun z=>some (D.int z)) (by omega),Option.bind_some,wpH g8,Option.bind_some]
   rw [ht,Option.bind_some,if_pos (by simp only [List.length_append,List.length_take,List.length_drop,List.length_map,hul,waa];omega)]
   rw [wl8,wkS,Option.bind_some,show addI (.str s.2) (.str (wordOf ch))=some (.str (s.2++wordOf ch)) from if_pos (by rw [waa];omega),Option.bind_some]
   unfold wordD
   simp only [List.map_append,List.map_cons,List.map_nil]
  ·rw [if_neg (by simpa using h8),if_neg h8];rfl
theorem wsK:rangeD [.int 65024,.int 65040]=some ((List.range' 65024 16).map nD):=by kernel_rfl!
theorem wt0:binop .Add (D.list [(D.int 173),(D.int 847),(D.int 6150),(D.int 6155),(D.int 6156),(D.int 6157),(D.int 8203),(D.int 8204),(D.int 8205),(D.int 8288),(D.int 65279)]) (.list ((List.range' 65024 16).map nD))=some (.list (unseenL.map nD)):=by kernel_rfl!
theorem wr4:[(D.int 0),(D.int 1),(D.int 2),(D.int 4),(D.int 7),(D.int 8),(D.int 9),(D.int 10),(D.int 11),(D.int 12)]=([0,1,2,4,7,8,9,10,11,12]:List Nat).map nD:=rfl
theorem wt2:binop .Add (D.list [(D.int 97),(D.int 65)]) (.list (([0,1,2,4,7,8,9,10,11,12]:List Nat).map fun k=>nD (119808+52 * k)))=some (.list (firstsL.map nD)):=by kernel_rfl!
theorem wr7:keysOf ((D.dict [((Key.s [64256]),(D.str [102,102])),((Key.s [64257]),(D.str [102,105])),((Key.s [64258]),(D.str [102,108])),((Key.s [64259]),(D.str [102,102,105])),((Key.s [64260]),(D.str [102,102,108])),((Key.s [64262]),(D.str [115,116])),((Key.s [223]),(D.str [115,115])),((Key.s [8470]),(D.str [110,111])),((Key.s [8481]),(D.str [116,101,108])),((Key.s [8482]),(D.str [116,109])),((Key.s [13169]),(D.str [104,112,97])),((Key.s [13201]),(D.str [107,104,122])),((Key.s [13254]),(D.str [99,8725,107,103])),((Key.s [13255]),(D.str [99,111,46])),((Key.s [13259]),(D.str [104,112])),((Key.s [13273]),(D.str [112,112,109]))]))=some ((wideL.map (·.1)).map chD):=by kernel_rfl!
theorem wsn (l:List D):compQ (fun _=>some true) (fun d=>some d) l=some l:=by
 have:=wot (fun d=>d) (f:=fun d=>some d) l (fun _ _=>rfl)
 simpa using this
theorem wt1:binop .Add (D.list [(D.str [97]),(D.str [98]),(D.str [101]),(D.str [103]),(D.str [107]),(D.str [114]),(D.str [118]),(D.str [122])]) (.list ((wideL.map (·.1)).map chD))=some (.list (stockL.map chD)):=by kernel_rfl!
theorem wsk:(D.dict [((Key.s [64256]),(D.str [102,102])),((Key.s [64257]),(D.str [102,105])),((Key.s [64258]),(D.str [102,108])),((Key.s [64259]),(D.str [102,102,105])),((Key.s [64260]),(D.str [102,102,108])),((Key.s [64262]),(D.str [115,116])),((Key.s [223]),(D.str [115,115])),((Key.s [8470]),(D.str [110,111])),((Key.s [8481]),(D.str [116,101,108])),((Key.s [8482]),(D.str [116,109])),((Key.s [13169]),(D.str [104,112,97])),((Key.s [13201]),(D.str [107,104,122])),((Key.s [13254]),(D.str [99,8725,107,103])),((Key.s [13255]),(D.str [99,111,46])),((Key.s [13259]),(D.str [104,112])),((Key.s [13273]),(D.str [112,112,109]))])=D.dict wideK:=by kernel_rfl!
theorem wp1:(([]:List D),D.str [])=wordD ([],[]):=rfl
theorem wtk {S:Type} (B:S->D->(S->Option D)->(S->Option D)->(D->Option D)->Option D) (a b c d:D) (s:S) (n:S->Option D) (r:D->Option D) :
  forS B [a,b,c,d] s n r=B s a (fun s=>B s b (fun s=>B s c (fun s=>B s d n n r) n r) n r) n r:=rfl
theorem wt7:rangeD [.int 4]=some [nD 0,nD 1,nD 2,nD 3]:=by kernel_rfl!
theorem inv0:WInv 0 ([],[]):=⟨by simp,by simp,by simp,by simp,by simp,by simp⟩
theorem wsD (a:Nat):∃ way:Int,okWay way/\sub (.list [.int 1,.int (-1),.int 2,.int (-3)]) (nD (a / 15 % 4))=some (.int way):=by
 have h:a / 15 % 4<4:=Nat.mod_lt _ (by decide)
 generalize a / 15 % 4=i at h
 have:i=0\/i=1\/i=2\/i=3:=by omega
 rcases this with rfl | rfl | rfl | rfl
 ·exact ⟨1,by simp [okWay],rfl⟩
 ·exact ⟨-1,by simp [okWay],rfl⟩
 ·exact ⟨2,by simp [okWay],rfl⟩
 ·exact ⟨-3,by simp [okWay],rfl⟩
theorem wru (xs:List Int) (h:xs.length<=63):∃ (s:List Nat×Tx) (sz:Nat) (way:Int),wb5 (.list (xs.map .int))=some (.tuple [.list (s.1.map chD),.str s.2,nD sz,.int way])/\WInv 4 s/\9<=sz/\sz<=23/\okWay way:=by
 unfold wb5
 rw [if_pos (by decide),show (some (60:Int))=some ((60:Nat):Int) from rfl,takeN 60 (by simp only [List.length_map,waa];omega),Option.bind_some,<- List.map_take,wsj,Option.bind_some]
 generalize hL:(List.range (xs.take 60).length).zip (xs.take 60)=L
 have hLl:L.length<=60:=by rw [<- hL,List.length_zip,List.length_range,List.length_take];omega
 have hLp:∀ p∈L,p.1<1000:=by
  intro p hp
  rw [<- hL]at hp
  have:=(List.of_mem_zip (a:=p.1) (b:=p.2) hp).1
  rw [List.mem_range,List.length_take]at this;omega
 rw [if_pos (ldcap _ (by rw [waa];omega))]
 obtain ⟨a,b,c,hc⟩:=wkG (.list (xs.map .int)) L 130 288323 8675309123 hLp
 have i1:=wev (.list (xs.map .int)) a b c ([],[]) 0 (by decide) inv0
 have i2:=wev (.list (xs.map .int)) a b c _ 1 (by decide) i1.1
 have i3:=wev (.list (xs.map .int)) a b c _ 2 (by decide) i2.1
 have i4:=wev (.list (xs.map .int)) a b c _ 3 (by decide) i3.1
 obtain ⟨way,hw,hwe⟩:=wsD a
 refine ⟨_,9+a % 15,way,?_,i4.1,by omega,by omega,hw⟩
 refine Eq.trans (hc _ _) ?_
 rw [wsK,Option.bind_some,wt0,Option.bind_some,wob,Option.bind_some,if_pos (by show 10<=10000;decide),wr4]
 rw [waJ nD (fun k=>nD (119808+52 * k)) _ (fun k _=>by rw [show binop .Mult (.int 52) (nD k)=some (nD (52 * k)) from mulN (a:=52) k (by decide),Option.bind_some];rfl)]
 rw [Option.bind_some,wt2,Option.bind_some,wr7,Option.bind_some,if_pos (by show 16<=10000;decide),wsn,Option.bind_some,wt1,Option.bind_some,wt7,Option.bind_some,if_pos (by show 4<=10000;decide)]
 rw [wsk,wtk,wp1,i1.2,i2.2,i3.2,i4.2]
 rw [show sub (.list [nD a,nD b,nD c]) (.int 0)=some (nD a) from rfl,Option.bind_some,show binop .Mod (nD a) (.int 15)=some (nD (a % 15)) from modN a (by decide),Option.bind_some]
 rw [show binop .Add (.int 9) (nD (a % 15))=some (nD (9+a % 15)) from rfl,Option.bind_some,neg1,Option.bind_some,show unop .USub (.int 3)=some (.int (-3)) from rfl,Option.bind_some,Option.bind_some]
 rw [show binop .FloorDiv (nD a) (.int 15)=some (nD (a / 15)) from fdivN a (by decide) (by decide),Option.bind_some,show binop .Mod (nD (a / 15)) (.int 4)=some (nD (a / 15 % 4)) from modN _ (by decide),Option.bind_some,hwe,Option.bind_some]
 rfl
theorem wta (xs:List Int) (h:xs.length<=63):wjj (.list (xs.map .int))=some (.bool true):=by
 obtain ⟨s,sz,way,hword,iv,h9,h23,hw⟩:=wru xs h
 obtain ⟨cs,w⟩:=s
 dsimp only at hword
 have hcl:cs.length<=8:=by have:=iv.len;simpa using this
 have hwl:=iv.le
 dsimp only at hwl
 have hgood:=iv.good
 have htold:=iv.told
 dsimp only at hgood htold
 unfold wjj
 rw [hword,Option.bind_some]
 rw [show ∀ (a b c d:D) (k:D->D->D->D->Option D),woF (.tuple [a,b,c,d]) k=k a b c d from fun _ _ _ _ _=>rfl]
 rw [waU,Option.bind_some,if_pos (ldcap _ (by rw [waa];omega))]
 rw [wbj chD (fun c=>!inB c) chD cs (fun c hc=>by
  rw [wpm (hgood c hc),Option.bind_some,is_bool,Option.bind_some,wdI];cases inB c<;>rfl) (fun _ _ _=>rfl)]
 rw [Option.bind_some,Option.bind_some,if_pos (ldcap _ (by rw [waa];omega))]
 rw [wbj chD (fun c=>inB c) chD cs (fun c hc=>by
  rw [wpm (hgood c hc),Option.bind_some,is_bool,Option.bind_some,wdI];cases inB c<;>rfl) (fun _ _ _=>rfl)]
 have hf1:=List.length_filter_le (fun c=>!inB c) cs
 have hf2:=List.length_filter_le (fun c=>inB c) cs
 rw [Option.bind_some,wjY,waU,Option.bind_some,if_pos (ldcap _ (by rw [waa];omega))]
 rw [waJ chD (fun c=>.str (mean c)) (cs.filter fun c=>!inB c) (fun c hc=>by
  rw [List.mem_filter]at hc
  rw [wth (hgood c hc.1) (by simpa using hc.2),Option.bind_some])]
 rw [Option.bind_some,wnB mean _ (by rw [htold,waa];omega),htold,Option.bind_some,strlen (by rw [waa];omega),Option.bind_some]
 have hok:PyData.strOk (mk w)=true:=by
  unfold PyData.strOk
  rw [Array.all_eq_true_iff_forall_mem]
  intro x hx
  have:=iv.chars x (by simpa using hx)
  simpa using this
 rw [wa8 (.str 0 w hok) (by decide),Option.bind_some,ff]
 rw [lenD chD _ (by rw [waa];omega),Option.bind_some,lenD chD _ (by rw [waa];omega),Option.bind_some,addnn,Option.bind_some,lenD chD cs (by rw [waa];omega),Option.bind_some]
 have hsum:(cs.filter fun c=>!inB c).length+(cs.filter fun c=>inB c).length=cs.length:=by
  have:∀ l:List Nat,(l.filter fun c=>!inB c).length+(l.filter fun c=>inB c).length=l.length:=by
   intro l
   induction l with
   | nil=>rfl
   | cons x l ih=>
    rw [List.filter_cons,List.filter_cons]
    cases inB x<;>simp<;>omega
  exact this cs
 rw [hsum,wa8 (.int 0 _) (by decide),Option.bind_some,ff,Option.bind_some,ff]
 have hlen4:4<=w.length:=by
  have:=iv.ge
  dsimp only at this
  omega
 exact woL _ _ _ _ _ _ w.length sz way hw (by omega) (by omega) (by omega) (by omega) (wpZ hlen4 hwl h9 h23)
theorem value02 (xs:List Int) (h:xs.length<=63):a_law [.list (xs.map .int)]=some (.bool true):=wta xs h
end Mine.Py
end
set_option maxRecDepth 100000 in
set_option maxHeartbeats 8000000 in
theorem PySem.Challenge.cw_xb0039_02_holds : PySem.Challenge.rw_xb0039_02.Holds := by
  exact Mine.join02 Mine.Py.value02
