import PyProof.Rows.All
import OpenK.AllK
import PyProof.EnumIter
import PyProof.EnumMake
import PyProof.EnumStmt
import PyProof.FactsAll.bool_1
import PyProof.GenQ
import PyProof.JoinWalk
import PyProof.Rows.CatchTuple
import PyProof.SetRoads
import PyProof.StrLawsLast
import PyProof.StrLawsReplace
import PyProof.TupleOfGen
import PySem.Sre
import Wide.All
import Wide.FinOn
import Wide.Txt
import Lean
import PySem.Challenge.RW_ik0093_01
set_option Elab.async false
set_option autoImplicit false
set_option linter.unusedVariables false
set_option maxRecDepth 100000
set_option compiler.extract_closed false
set_option genInjectivity false
set_option genSizeOf false
noncomputable section
section
open PySem PySem.W PyProof.Rows
set_option maxHeartbeats 8000000
namespace Mine.Internal
noncomputable abbrev pw:Program:=PySem.Challenge.pw_ik0093_01
noncomputable def build:BT→Nat→List Obj→BT
 | t,_,[]=>t
 | t,n,o :: r=>build (t.ins n o) (n+1) r
def Full (t:BT) (n:Nat):Prop:=∀ i,i<n→(t.get i).isSome=true
theorem odd_half (j:Nat):(2 * j+1) % 2=1∧(2 * j+1) / 2=j:=by lia
theorem even_half (j:Nat):¬ (2 * j+2) % 2=1∧(2 * j+2) / 2 - 1=j:=by lia
theorem get_odd (v:Obj) (l r:BT) (j:Nat):(BT.node v l r).get (2 * j+1)=l.get j:=by
 rw[BT.get_node,if_neg (Nat.succ_ne_zero _),if_pos (odd_half j).1,(odd_half j).2]
theorem get_even (v:Obj) (l r:BT) (j:Nat):(BT.node v l r).get (2 * j+2)=r.get j:=by
 rw[BT.get_node,if_neg (Nat.succ_ne_zero _),if_neg (even_half j).1,(even_half j).2]
theorem ins_full (o:Obj):∀ (t:BT) (n:Nat),Full t n→(t.ins n o).get n=some o
 | .nil,0,_=>rfl
 | .nil,n+1,h=>by cases (h 0 (Nat.succ_pos n):false=true)
 | .node v l r,n,h=>by
  rw[BT.ins_node]
  by_cases h0:n=0
  ·subst h0;rfl
  ·rw[if_neg h0]
   by_cases p:n % 2=1
   ·obtain ⟨m,rfl⟩:∃ m,n=2 * m+1:=⟨n / 2,by lia⟩
    rw[if_pos p,get_odd,(odd_half m).2]
    exact ins_full o l m fun j hj=>get_odd v l r j▸h (2 * j+1) (Nat.succ_lt_succ (Nat.mul_lt_mul_of_pos_left hj (by decide)))
   ·obtain ⟨m,rfl⟩:∃ m,n=2 * m+2:=⟨n / 2 - 1,by lia⟩
    rw[if_neg p,get_even,(even_half m).2]
    exact ins_full o r m fun j hj=>get_even v l r j▸h (2 * j+2) (Nat.succ_lt_succ (Nat.succ_lt_succ (Nat.mul_lt_mul_of_pos_left hj (by decide))))
theorem build_get:∀ (l:List Obj) (t:BT) (n:Nat) (pre:List Obj),pre.length=n→(∀ i,i<n→t.get i=pre[i]?)→∀ i,i<n+l.length→(build t n l).get i=(pre++l)[i]?
 | [],t,n,pre,hn,h,i,hi=>by
  rw[List.append_nil]
  exact h i (by simpa using hi)
 | o :: l,t,n,pre,hn,h,i,hi=>by
  have hf:Full t n:=fun j hj=>by rw[h j hj,List.getElem?_eq_getElem (by lia)];rfl
  have hg:=ins_full o t n hf
  have:=build_get l (t.ins n o) (n+1) (pre++[o]) (by simp [hn]) (fun j hj=>by
   rw[BT.get_ins o t n (by rw[hg];rfl)]
   by_cases e:j=n
   ·subst e;rw[if_pos rfl,← hn];simp
   ·rw[if_neg e,h j (by lia),List.getElem?_append_left (by lia)]) i (by simp only [List.length_cons] at hi;lia)
  rw[List.append_assoc] at this
  exact this
noncomputable def conv (s:Shared):SharedT:=⟨build .nil 0 s.heap.objs.toList,s.heap.objs.size,s.heap.life,s.gens,s.drawn,s.toks,s.os⟩
theorem conv_abs (s:Shared):(conv s).abs=s:=by
 obtain ⟨⟨objs,life⟩,gens,drawn,toks,os⟩:=s
 have e:absHeap (build .nil 0 objs.toList) objs.size life=⟨objs,life⟩:=by
  unfold absHeap BT.list
  congr 1
  apply Array.ext'
  rw[List.toList_toArray]
  apply List.ext_getElem?
  intro i
  rw[List.getElem?_map]
  by_cases hi:i<objs.size
  ·rw[List.getElem?_range hi,Option.map_some,build_get objs.toList .nil 0 [] rfl (fun _ h=>absurd h (Nat.not_lt_zero _)) i (by simpa using hi),List.nil_append,
    List.getElem?_eq_getElem (by simpa using hi)]
   rfl
  ·rw[List.getElem?_eq_none (by rw[List.length_range];lia),Option.map_none,List.getElem?_eq_none (by simpa using hi)]
 show (⟨absHeap (build .nil 0 objs.toList) objs.size life,gens,drawn,toks,os⟩:Shared)=_
 rw[e]
noncomputable def qv:Program:={pw with main:={pw.main with body:=pw.main.body.take 2++pw.main.body.drop 66}}
noncomputable def loose:List Str:=(["_wall", "sep", "_plain_name", "ABCMeta", "_ABCLike", "_abc_plain_meta", "fspath", "_check_arg_types", "check_arg_types_genericpath", "_get_sep", "splitroot", "dirname",
 "dirname_posixpath", "normpath", "normpath_posixpath", "commonpath", "_twin_re_1", "_whence", "_index", "UnsupportedOperation", "IOBase", "BufferedIOBase", "TextIOBase", "BytesIO", "StringIO",
 "_kind", "_fspath", "check_arg_types_path", "isabs", "join", "join_path", "splitext", "_c_path", "_shelf_fresh", "_splitroot", "basename", "dirname_path", "_normpath", "normpath_path", "shlex",
 "split", "join_shlex", "_find_unsafe", "quote", "_Ignore", "_modname", "_law_file", "_law_told", "_law_due"]:List String).map Str.ofString
end Mine.Internal
end
section
open PySem PySem.W PyProof.Rows
namespace Mine.Internal
theorem holds_mine {r:OpenRow} {q:Program} {loose:List Str} {α:Type} {Yf:Shared→α} {Ya:World→α} {d:DefRec} {kwd:List (Str×Expr)} {N:Nat} (left:LeftO r.prog q loose (fun _=>true) Yf Ya N)
  (hrec:r.records=[]) (hdef:defOf q r.name=some (d,kwd)) (hp:r.prog.theDef r.name=some (d.params,d.body,d.scope)) (hk:kwWritten? d.params.kwonlyargs d.params.kw_defaults=some kwd) (hwr:(!r.writes || r.records.isEmpty)=true)
  (k1:r.wellSaid=true) (ok:(chainsOk q && opensWell r.prog && (frees r.toRowW && r.within.isEmpty))=true) (hb:r.prog.bare) (hw:r.toRowW.promised)
  (call:∀ (w:World) (s₀ s₁:Shared) (args:List WData) (vs:List Value) (as:List Addr),Yf s₀=Ya w→r.toRowW.claim.pre args=true→Laid r.records w s₀ s₁ args vs as→∃ f,(∀ mg,s₀.heap.Ns mainGlobals mg→mg r.name=some f) ∧
   wpAny (model r.prog w) callerA (PySem.call f vs) (fun v s'=>GoodWG r.toRowW.claim (classAt s₀.heap) (ExcName.means s₀.heap) args s₁ (.ok (.ret v)) s') (fun e s'=>GoodWG r.toRowW.claim (classAt s₀.heap) (ExcName.means s₀.heap) args s₁ (.error e) s') s₁):r.Holds:=by
 obtain ⟨ok,k5⟩:=Bool.and_eq_true_iff.mp ok
 obtain ⟨hch,o1⟩:=Bool.and_eq_true_iff.mp ok
 obtain ⟨k5,k6⟩:=Bool.and_eq_true_iff.mp k5
 obtain ⟨hsame,hu,ha,hap,hm⟩:=frees_parts k5
 have hid:=ident_freeW hu ha hap
 have hwi:r.toRowW.claim.within=[]:=List.isEmpty_iff.mp k6
 refine ⟨k1,hw,⟨hb,o1,by show r.makers.map _=[];rw[hm];rfl⟩,hw.witness,fun w=>?_⟩
 have beh:=left.behind (XP:=fun _ _=>True) (fun _ _=>trivial) hch w
 refine ⟨beh.1,fun s' hs'=>?_⟩
 obtain ⟨s₀,hf,hg0,s,hT,hz,hgens,hg,G0,y⟩:=beh.2 s' hs'
 have RF:RecFacts r.records s.heap:=recFacts_nil hrec
 have G:=RF.ground G0
 have hgens:s.gens=#[]:=Array.eq_empty_of_size_eq_zero (beq_iff_eq.mp hgens)
 refine ⟨s₀,hf,hg0,s,hT,fun n hn=>?_,RF.1,RF.2.1,ClaimW.callFrom_of_specG (c:=r.toRowW.claim) hz hgens fun args hpre hlay ord hord=>?_⟩
 ·obtain rfl:n=r.name:=by split at hn <;> simp_all
  exact pinned_of_view hg G0 hdef hp hk
 obtain ⟨⟨vs,s₁⟩,hlaid⟩:=Option.isSome_iff_exists.mp (layAllW_isSome (P:=w.params) (ord:=ord) G.has args r.args s (pre_splitW hpre).1)
 have keeps:=layAllW_keeps _ _ _ hlaid
 have hal:=layAllW_rest _ _ _ hlaid
 obtain ⟨as,hrd,hin,hold⟩:=reads_layAllW hord _ _ _ hlaid hlay s₁.heap (fun _ _ e=>e)
 have L:Laid r.records w s s₁ args vs as:=⟨⟨ord,hord,hlaid⟩,hrd,hin,hold,keeps,hal.1.trans hgens,hal.2.2.1⟩
 obtain ⟨f,hfn,h⟩:=call w s s₁ args vs as y hpre L
 have hns:=G.T.g.keeps keeps
 have fin:∀ (x:Result) (s₂:Shared),GoodWG r.toRowW.claim (classAt s.heap) (ExcName.means s.heap) args s₁ x s₂→r.toRowW.claim.Ends s args vs s₁ x s₂∧s₂.os=s.os∧AllBare s₂.gens∧((r.writes=true→namesKept r.prog r.keeps s.heap s₂.heap∧∀ x∈r.records,∀ a,classAt s.heap x.1=some a→recordClass s₂.heap a x.1 (x.2.map (·.1))=true)):=fun x s₂ g =>
  have z:=g.laid (c:=r.toRowW.claim) hsame hwi hid L
  ⟨z.1,z.2.1,z.2.2,fun q=>⟨namesKept_of hT hg r.keeps keeps g.2.1.old,noTable hwr q⟩⟩
 refine ⟨vs,s₁,hlaid,?_⟩
 refine wpAny_bind (wpAny_nsGet hns ?_)
 rw[hfn _ G.T.g]
 exact wpAny_bind (wpAny_mono h (fun v s₂ g=>wpAny_pure ⟨_,rfl,fin _ _ g⟩) fun e s₂ g=>fin _ _ g)
theorem runs_size {M:Model} {Γ:Ctx} {p:Pos} {t:Sem PySem.Fin} {fs:List Frame} {s s':Shared} {e:End} (h:Runs M Γ p t fs s e s'):s.heap.objs.size≤s'.heap.objs.size:=by
 induction h <;> (try simp only [Shared.setGen,Heap.size_push,Heap.size_update] at *) <;> lia
theorem returns_size {M:Model} {Γ:Ctx} {p:Pos} {s s':Shared} {r:Result} (h:Returns M Γ p s r s'):s.heap.objs.size≤s'.heap.objs.size:=runs_size h
theorem wakes_size {M:Model} {Γ:Ctx} {p:Pos} {g:Nat} {r:Resume} {s s':Shared} {res:GenResult} (h:Wakes M Γ p g r s res s'):s.heap.objs.size≤s'.heap.objs.size:=by
 unfold Wakes at h
 split at h
 ·exact h.elim
 ·split at h
  ·obtain ⟨e₁,s₁,hr,_,_,rfl⟩:=h;exact (runs_size hr:(s.setGen g .running).heap.objs.size≤s₁.heap.objs.size)
  ·rw[h.2];exact Nat.le_refl _
  ·rw[h.2];exact Nat.le_refl _
 ·obtain ⟨e₁,s₁,hr,_,_,rfl⟩:=h;exact (runs_size hr:(s.setGen g .running).heap.objs.size≤s₁.heap.objs.size)
 ·rw[h.2];exact Nat.le_refl _
 ·rw[h.2];exact Nat.le_refl _
theorem wp_size {α:Type} (M:Model) (Γ:Ctx) (n:Nat) (t:Sem α):∀ (Q:α→Pos→Shared→Prop) (E:Value→Pos→Shared→Prop) (p:Pos) (s:Shared),n≤s.heap.objs.size→Sem.wp M Γ t Q E p s →
  Sem.wp M Γ t (fun a p' s'=>n≤s'.heap.objs.size∧Q a p' s') (fun e p' s'=>n≤s'.heap.objs.size∧E e p' s') p s:=by
 induction t with
 | pure a=>intro Q E p s hn h;exact ⟨hn,h⟩
 | raise e=>intro Q E p s hn h;exact ⟨hn,h⟩
 | unsupported _=>intro Q E p s _ h;exact h
 | finish _=>intro Q E p s _ h;exact h
 | rule _ k ih=>intro Q E p s hn h;exact ih () Q E p s hn h
 | «at» p' k ih=>intro Q E p s hn h;exact ih () Q E p' s hn h
 | load a _ k ih=>intro Q E p s hn h;obtain ⟨o,ho,h⟩:=h;exact ⟨o,ho,ih o Q E p s hn h⟩
 | update a _ f k ih=>intro Q E p s hn h;exact ⟨h.1,ih () Q E p _ (by show n≤(s.heap.update a f).objs.size;rw[Heap.size_update];exact hn) h.2⟩
 | loadIfAlive a k ih=>intro Q E p s hn h;exact ih _ Q E p s hn h
 | point _ k ih=>intro Q E p s hn h;exact ih () Q E p s hn h
 | register _ _=>intro Q E p s _ h;exact h
 | alloc o k ih=>intro Q E p s hn h;exact ih _ Q E p _ (by show n≤(s.heap.push o).objs.size;rw[Heap.size_push];exact Nat.le_succ_of_le hn) h
 | fresh k ih=>intro Q E p s hn h;exact ih _ Q E p _ hn h
 | ask k ih=>intro Q E p s hn h;exact ih _ Q E p s hn h
 | choose src m k ih=>intro Q E p s hn h;exact ⟨h.1,ih _ Q E p _ hn h.2⟩
 | os q _ k ih=>intro Q E p s hn h;exact ih _ Q E p _ hn h
 | call c hd _ _ k ih=>intro Q E p s hn h;obtain ⟨r,s',hr,h⟩:=h;exact ⟨r,s',hr,ih r Q E p s' (Nat.le_trans hn (returns_size hr)) h⟩
 | handled own k ih=>intro Q E p s hn h;exact ih _ Q E p s hn h
 | genState g k ih=>intro Q E p s hn h;obtain ⟨st,hs,h⟩:=h;exact ⟨st,hs,ih _ Q E p s hn h⟩
 | newGen c k ih=>intro Q E p s hn h;exact ih _ Q E p _ hn h
 | resume g r _ k ih=>intro Q E p s hn h;obtain ⟨res,s',hw,h⟩:=h;exact ⟨res,s',hw,ih res Q E p s' (Nat.le_trans hn (wakes_size hw)) h⟩
 | yield _ _ _ _=>intro Q E p s _ h;exact h
 | stack k ih=>intro Q E p s hn h;exact ih _ Q E p s hn h
 | fork _ _=>intro Q E p s _ h;exact h
 | thread k ih=>intro Q E p s hn h;exact ih _ Q E p s hn h
 | await _ _ _ _ _=>intro Q E p s _ h;exact h
theorem wpAny_size_of {α:Type} {M:Model} {A:Around} {s:Shared} {t:Sem α} {Q:α→Shared→Prop} {E:Value→Shared→Prop} {n:Nat} (hn:n≤s.heap.objs.size) (h:wpAny M A t Q E s) :
  wpAny M A t (fun a s'=>n≤s'.heap.objs.size∧Q a s') (fun e s'=>n≤s'.heap.objs.size∧E e s') s :=
 fun Γ p hΓ=>wp_size M Γ n t _ _ p s hn (h Γ p hΓ)
theorem wpAny_up {α:Type} {M:Model} {A:Around} {s:Shared} {t:Sem α} {Q:α→Shared→Prop} (h:wpAny M A t (fun a s'=>s.toks≤s'.toks→s.heap.objs.size≤s'.heap.objs.size→Q a s') (fun _ _=>False) s) :
  wpAny M A t Q (fun _ _=>False) s :=
 wpAny_mono (wpAny_toks_of (Nat.le_refl _) (wpAny_size_of (Nat.le_refl _) h)) (fun _ _ h=>h.2.2 h.1 h.2.1) fun _ _ h=>h.2.2
inductive D where
 | none
 | bool (b:Bool)
 | int (i:Int)
 | str (s:Str)
 | val (v:Value)
 | list (l:List D)
 | tup (l:List D)
 | emp (c:String)
 | obj (k:Nat)
inductive AO where
 | lst (l:List D)
 | inst (c:Addr) (at_:List (Str×D))
 | dct (es:List (Str×D))
 | tab (b:Bool)
structure Kt where
 k:List (Addr×List Addr)
 hid:List Addr
noncomputable def adrs (K:Kt):List Addr:=K.k.flatMap fun p=>p.1 :: p.2
noncomputable def offs (K:Kt):List Addr:=adrs K++K.hid
theorem offs_adrs {K:Kt} {a:Addr} (h:a∉offs K):a∉adrs K:=fun q=>h (List.mem_append_left _ q)
noncomputable def listO (xs:List Value) (n:Nat):Obj:={cls:=.type "list",data:=.seq xs.toArray n}
noncomputable def tupO (xs:List Value) (n:Nat):Obj:={cls:=.type "tuple",data:=.seq xs.toArray n}
structure EmpIs (c:String) (o:Obj):Prop where
 cls:o.cls=.type c
 dict:o.dict=none
 emp:(c = "set"∧∃ led,o.data=.set #[] 0 (.fresh 0 0 led)∧o.slots=#[])∨(c = "collections.deque"∧∃ vs,o.data=.fields vs∧vs.size=2)
mutual
inductive VR (K:Kt) (h:Heap):D→Value→Prop
 | none:VR K h .none .none
 | bool (b:Bool):VR K h (.bool b) (.bool b)
 | int (i:Int) (t:Tok) (ht:t≠0):VR K h (.int i) (.int i t)
 | str (s:Str) (t:Tok) (hs:s.length≤sizeLine) (ht:t≠0):VR K h (.str s) (.str s t)
 | val (v:Value):VR K h (.val v) v
 | list {a:Addr} {l:List D} {xs:List Value} {n:Nat} (ha:h.get? a=some (listO xs n)) (hk:a∉offs K) (hn:l.length≤100000) (hl:VRs K h l xs):VR K h (.list l) (.ref a)
 | tup {a:Addr} {l:List D} {xs:List Value} {n:Nat} (ha:h.get? a=some (tupO xs n)) (hk:a∉offs K) (hn:l.length≤100000) (hl:VRs K h l xs):VR K h (.tup l) (.ref a)
 | emp {a:Addr} {c:String} {o:Obj} (ha:h.get? a=some o) (hc:EmpIs c o) (hk:a∉offs K):VR K h (.emp c) (.ref a)
 | obj {k:Nat} {a:Addr} {m:List Addr} (hk:K.k[k]?=some (a,m)):VR K h (.obj k) (.ref a)
inductive VRs (K:Kt) (h:Heap):List D→List Value→Prop
 | nil:VRs K h [] []
 | cons {d:D} {v:Value} {ds:List D} {vs:List Value} (x:VR K h d v) (r:VRs K h ds vs):VRs K h (d :: ds) (v :: vs)
end
inductive InvStr (s:Str) (v:Value):Prop
 | mk (t:Tok) (e:v=.str s t) (hs:s.length≤sizeLine) (ht:t≠0)
inductive InvInt (i:Int) (v:Value):Prop
 | mk (t:Tok) (e:v=.int i t) (ht:t≠0)
inductive InvSeq (K:Kt) (h:Heap) (O:List Value→Nat→Obj) (l:List D) (v:Value):Prop
 | mk (a:Addr) (xs:List Value) (n:Nat) (e:v=.ref a) (ha:h.get? a=some (O xs n)) (hk:a∉offs K) (hn:l.length≤100000) (hl:VRs K h l xs)
inductive InvSeq' (K:Kt) (h:Heap) (O:List Value→Nat→Obj) (l:List D) (v:Value):Prop
 | mk (a:Addr) (xs:List Value) (n:Nat) (e:v=.ref a) (ha:h.get? a=some (O xs n)) (hl:VRs K h l xs) (hn:l.length≤100000)
inductive InvEmp (K:Kt) (h:Heap) (c:String) (v:Value):Prop
 | mk (a:Addr) (o:Obj) (e:v=.ref a) (ha:h.get? a=some o) (hc:EmpIs c o) (hk:a∉offs K)
inductive InvObj (K:Kt) (k:Nat) (v:Value):Prop
 | mk (a:Addr) (m:List Addr) (e:v=.ref a) (hk:K.k[k]?=some (a,m))
def VRI (K:Kt) (h:Heap) (d:D) (v:Value):Prop:=match d with
 | .none=>v=.none
 | .bool b=>v=.bool b
 | .int i=>InvInt i v
 | .str s=>InvStr s v
 | .val u=>v=u
 | .list l=>InvSeq K h listO l v
 | .tup l=>InvSeq K h tupO l v
 | .emp c=>InvEmp K h c v
 | .obj k=>InvObj K k v
theorem VR.inv {K:Kt} {h:Heap} {d:D} {v:Value} (x:VR K h d v):VRI K h d v:=by
 cases x with
 | none=>exact rfl
 | bool=>exact rfl
 | int _ t ht=>exact ⟨t,rfl,ht⟩
 | str _ t hs ht=>exact ⟨t,rfl,hs,ht⟩
 | val=>exact rfl
 | list ha hk hn hl=>exact ⟨_,_,_,rfl,ha,hk,hn,hl⟩
 | tup ha hk hn hl=>exact ⟨_,_,_,rfl,ha,hk,hn,hl⟩
 | emp ha hc hk=>exact ⟨_,_,rfl,ha,hc,hk⟩
 | obj hk=>exact ⟨_,_,rfl,hk⟩
inductive InvC (K:Kt) (h:Heap) (d:D) (ds:List D) (vs:List Value):Prop
 | mk (v:Value) (r:List Value) (e:vs=v :: r) (x:VR K h d v) (y:VRs K h ds r)
def VRsI (K:Kt) (h:Heap) (ds:List D) (vs:List Value):Prop:=match ds with
 | []=>vs=[]
 | d :: ds=>InvC K h d ds vs
theorem VRs.inv {K:Kt} {h:Heap} {ds:List D} {vs:List Value} (x:VRs K h ds vs):VRsI K h ds vs:=by
 cases x with
 | nil=>exact rfl
 | cons x r=>exact ⟨_,_,rfl,x,r⟩
inductive Args1 (K:Kt) (h:Heap) (a:D) (vs ks:List Value):Prop
 | mk (u:Value) (e:vs=[u]) (e':ks=[]) (r:VR K h a u)
inductive Args2 (K:Kt) (h:Heap) (a b:D) (vs ks:List Value):Prop
 | mk (u v:Value) (e:vs=[u,v]) (e':ks=[]) (r:VR K h a u) (r':VR K h b v)
inductive Args3 (K:Kt) (h:Heap) (a b c:D) (vs ks:List Value):Prop
 | mk (u v w:Value) (e:vs=[u,v,w]) (e':ks=[]) (r:VR K h a u) (r':VR K h b v) (r'':VR K h c w)
theorem args1 {K:Kt} {h:Heap} {a:D} {vs ks:List Value} (r:VRs K h [a] vs) (rk:VRs K h [] ks):Args1 K h a vs ks:=by
 cases rk;rcases r with _ | ⟨r1,_ | _⟩
 exact ⟨_,rfl,rfl,r1⟩
theorem args2 {K:Kt} {h:Heap} {a b:D} {vs ks:List Value} (r:VRs K h [a,b] vs) (rk:VRs K h [] ks):Args2 K h a b vs ks:=by
 cases rk;rcases r with _ | ⟨r1,_ | ⟨r2,_ | _⟩⟩
 exact ⟨_,_,rfl,rfl,r1,r2⟩
theorem args3 {K:Kt} {h:Heap} {a b c:D} {vs ks:List Value} (r:VRs K h [a,b,c] vs) (rk:VRs K h [] ks):Args3 K h a b c vs ks:=by
 cases rk;rcases r with _ | ⟨r1,_ | ⟨r2,_ | ⟨r3,_ | _⟩⟩⟩
 exact ⟨_,_,_,rfl,rfl,r1,r2,r3⟩
def GB (m:Nat) (g:Array GenState):Prop:=AllBare g∧m≤g.size
noncomputable def topN:Nat:=976
def hard (b:Addr) (o:Obj):Prop:=b<topN∨∀ es n,o.data≠.dict es n
inductive Kept (h:Heap) (b:Addr) (o:Obj):Prop
 | mk (o':Obj) (h1:h.get? b=some o') (h2:o'.data=o.data) (h3:hard b o→o'=o)
structure PreS (W:List Addr) (s s':Shared):Prop where
 kp:∀ b o,s.heap.get? b=some o→b∉W→Kept s'.heap b o
 size:s.heap.objs.size≤s'.heap.objs.size
 os:s'.os=s.os
 gens:∀ {m:Nat},GB m s.gens→GB m s'.gens
theorem PreS.of {W:List Addr} {s s':Shared} (keep:∀ b o,s.heap.get? b=some o→b∉W→s'.heap.get? b=some o) (size:s.heap.objs.size≤s'.heap.objs.size) (os:s'.os=s.os) (gens:∀ {m:Nat},GB m s.gens→GB m s'.gens):PreS W s s' :=
 ⟨fun b o e hb=>⟨o,keep b o e hb,rfl,fun _=>rfl⟩,size,os,gens⟩
theorem PreS.keep {W:List Addr} {s s':Shared} (p:PreS W s s') (b:Addr) (o:Obj) (e:s.heap.get? b=some o) (hb:b∉W) (hd:hard b o):s'.heap.get? b=some o:=by
 obtain ⟨o',h1,_,h3⟩:=p.kp b o e hb
 rw[h1,h3 hd]
theorem PreS.dat {W:List Addr} {s s':Shared} (p:PreS W s s') (b:Addr) (o:Obj) (e:s.heap.get? b=some o) (hb:b∉W):∃ o',s'.heap.get? b=some o'∧o'.data=o.data :=
 let ⟨o',h1,h2,_⟩:=p.kp b o e hb;⟨o',h1,h2⟩
structure Pres (W:List Addr) (s s':Shared):Prop where
 keep:∀ b o,s.heap.get? b=some o→b∉W→s'.heap.get? b=some o
 size:s.heap.objs.size≤s'.heap.objs.size
 os:s'.os=s.os
 gens:∀ {m:Nat},GB m s.gens→GB m s'.gens
theorem Pres.soft {W:List Addr} {s s':Shared} (p:Pres W s s'):PreS W s s':=.of p.keep p.size p.os p.gens
theorem Pres.refl (W:List Addr) (s:Shared):Pres W s s:=⟨fun _ _ e _=>e,Nat.le_refl _,rfl,id⟩
theorem Pres.trans {W W':List Addr} {s s' s'':Shared} (x:Pres W s s') (y:Pres W' s' s'') (hw:∀ a∈W',a∈W∨s.heap.objs.size≤a):Pres W s s'' :=
 ⟨fun b o e hb=>y.keep b o (x.keep b o e hb) fun hb'=>by
   rcases hw b hb' with h | h
   ·exact hb h
   ·exact absurd (Heap.lt_size e) (Nat.not_lt.mpr h),
  Nat.le_trans x.size y.size,y.os.trans x.os,fun g=>y.gens (x.gens g)⟩
theorem Pres.wider {W W':List Addr} {s s':Shared} (p:Pres W s s') (h:∀ a∈W,a∈W'):Pres W' s s':=⟨fun b o e hb=>p.keep b o e fun q=>hb (h b q),p.size,p.os,p.gens⟩
theorem Ns_dat {h h':Heap} {a:Addr} {m:Str→Option Value} (x:h.Ns a m) (k:∀ o,h.get? a=some o→∃ o',h'.get? a=some o'∧o'.data=o.data):h'.Ns a m:=by
 obtain ⟨o,es,ep,ho,hd,r⟩:=x
 obtain ⟨o',h1,h2⟩:=k o ho
 exact ⟨o',es,ep,h1,h2.trans hd,r⟩
theorem Cell_dat {h h':Heap} {a:Addr} {v:Option Value} (x:h.IsCell a v) (k:∀ o,h.get? a=some o→∃ o',h'.get? a=some o'∧o'.data=o.data):h'.IsCell a v:=by
 obtain ⟨o,ho,hd⟩:=x
 obtain ⟨o',h1,h2⟩:=k o ho
 exact ⟨o',h1,h2.trans hd⟩
inductive Dk (h:Heap) (L:Addr):Prop
 | mk (o:Obj) (es:Array DictEntry) (n:Nat) (h1:h.get? L=some o) (h2:o.data=.dict es n)
theorem Dk.dat {h h':Heap} {L:Addr} (x:Dk h L) (k:∀ o,h.get? L=some o→∃ o',h'.get? L=some o'∧o'.data=o.data):Dk h' L:=by
 obtain ⟨o,es,n,h1,h2⟩:=x
 obtain ⟨o',h3,h4⟩:=k o h1
 exact ⟨o',es,n,h3,h4.trans h2⟩
theorem Dk.ns {h:Heap} {L:Addr} {m:Str→Option Value} (x:h.Ns L m):Dk h L:=let ⟨o,es,ep,h1,h2,_⟩:=x;⟨o,es,ep,h1,h2⟩
theorem PreS.refl (W:List Addr) (s:Shared):PreS W s s:=.of (fun _ _ e _=>e) (Nat.le_refl _) rfl id
theorem PreS.tok {W:List Addr} {s:Shared} (t:Nat):PreS W s {s with toks:=t}:=.of (fun _ _ e _=>e) (Nat.le_refl _) rfl id
structure Grows (s:Shared) (K K':Kt):Prop where
 ext:∃ K₂,K'.k=K.k++K₂
 fresh:∀ a∈adrs K',a∈adrs K∨s.heap.objs.size≤a
 hid:K'.hid=K.hid
theorem Grows.offs {s:Shared} {K K':Kt} (x:Grows s K K'):∀ a∈offs K',a∈offs K∨s.heap.objs.size≤a:=fun a h=>by
 rcases List.mem_append.mp h with h | h
 ·exact (x.fresh a h).imp (List.mem_append_left _) id
 ·rw[x.hid] at h;exact .inl (List.mem_append_right _ h)
theorem Grows.refl (s:Shared) (K:Kt):Grows s K K:=⟨⟨[],(List.append_nil K.k).symm⟩,fun _ h=>.inl h,rfl⟩
theorem Grows.trans {s s':Shared} {K K' K'':Kt} (x:Grows s K K') (y:Grows s' K' K'') (hz:s.heap.objs.size≤s'.heap.objs.size):Grows s K K'':=by
 obtain ⟨⟨a,ea⟩,fa,ha⟩:=x
 obtain ⟨⟨b,eb⟩,fb,hb⟩:=y
 refine ⟨⟨a++b,by rw[eb,ea,List.append_assoc]⟩,fun c hc=>?_,hb.trans ha⟩
 rcases fb c hc with h | h
 ·exact fa c h
 ·exact .inr (Nat.le_trans hz h)
theorem Grows.get {s:Shared} {K K':Kt} (x:Grows s K K') {k:Nat} {p:Addr×List Addr} (h:K.k[k]?=some p):K'.k[k]?=some p:=by
 obtain ⟨⟨K₂,e⟩,_⟩:=x
 rw[e,List.getElem?_append_left (List.getElem?_eq_some_iff.mp h).1];exact h
theorem PreS.trans {W W':List Addr} {s s' s'':Shared} (x:PreS W s s') (y:PreS W' s' s'') (hw:∀ a∈W',a∈W∨s.heap.objs.size≤a):PreS W s s'' :=
 ⟨fun b o e hb=>by
   obtain ⟨o₁,h1,h2,h3⟩:=x.kp b o e hb
   obtain ⟨o₂,h4,h5,h6⟩:=y.kp b o₁ h1 fun hb'=>(hw b hb').elim hb fun h=>absurd (Heap.lt_size e) (Nat.not_lt.mpr h)
   exact ⟨o₂,h4,h5.trans h2,fun hd=>by rw[h6 (by rw[h3 hd];exact hd),h3 hd]⟩,
  Nat.le_trans x.size y.size,y.os.trans x.os,fun g=>y.gens (x.gens g)⟩
noncomputable def icy:Data→Bool
 | .seq .. | .set .. | .fields ..=>true
 | _=>false
theorem icy_hard {b:Addr} {o:Obj} (h:icy o.data=true):hard b o:=.inr fun es n e=>by rw[e] at h;cases h
def Still (K:Kt) (h h':Heap):Prop:=∀ b o,h.get? b=some o→b∉offs K→icy o.data=true→h'.get? b=some o
theorem PreS.still {K:Kt} {s s':Shared} (p:PreS (adrs K) s s'):Still K s.heap s'.heap:=fun b o e h hi=>p.keep b o e (offs_adrs h) (icy_hard hi)
theorem EmpIs.icy {c:String} {o:Obj} (x:EmpIs c o):icy o.data=true:=by
 rcases x.emp with ⟨_,led,h,_⟩ | ⟨_,vs,h,_⟩ <;> rw[h] <;> rfl
structure Mv (K K':Kt) (h h':Heap):Prop where
 ice:∀ b o,h.get? b=some o→b∉offs K→icy o.data=true→h'.get? b=some o∧b∉offs K'
 obs:∀ (k:Nat) (p:Addr×List Addr),K.k[k]?=some p→K'.k[k]?=some p
mutual
theorem VR.map {K K':Kt} {h h':Heap} {d:D} {v:Value} (x:VR K h d v) (m:Mv K K' h h'):VR K' h' d v:=by
 cases x with
 | none=>exact .none
 | bool=>exact .bool _
 | int _ _ ht=>exact .int _ _ ht
 | str _ _ hs ht=>exact .str _ _ hs ht
 | val=>exact .val _
 | list ha hk hn hl=>exact .list (m.ice _ _ ha hk rfl).1 (m.ice _ _ ha hk rfl).2 hn (VRs.map hl m)
 | tup ha hk hn hl=>exact .tup (m.ice _ _ ha hk rfl).1 (m.ice _ _ ha hk rfl).2 hn (VRs.map hl m)
 | emp ha hc hk=>exact .emp (m.ice _ _ ha hk hc.icy).1 hc (m.ice _ _ ha hk hc.icy).2
 | obj hk=>exact .obj (m.obs _ _ hk)
theorem VRs.map {K K':Kt} {h h':Heap} {ds:List D} {vs:List Value} (x:VRs K h ds vs) (m:Mv K K' h h'):VRs K' h' ds vs:=by
 cases x with
 | nil=>exact .nil
 | cons x r=>exact .cons (VR.map x m) (VRs.map r m)
end
theorem Mv.of {K K':Kt} {s s':Shared} (p:Still K s.heap s'.heap) (g:Grows s K K'):Mv K K' s.heap s'.heap :=
 ⟨fun b o e hk hi=>⟨p b o e hk hi,fun h=>(g.offs _ h).elim hk fun q=>absurd (Heap.lt_size e) (Nat.not_lt.mpr q)⟩,fun _ _ h=>g.get h⟩
theorem VR.mono0 {K K':Kt} {s s':Shared} {d:D} {v:Value} (x:VR K s.heap d v) (p:Still K s.heap s'.heap) (g:Grows s K K'):VR K' s'.heap d v:=x.map (.of p g)
theorem VRs.mono0 {K K':Kt} {s s':Shared} {d:List D} {v:List Value} (x:VRs K s.heap d v) (p:Still K s.heap s'.heap) (g:Grows s K K'):VRs K' s'.heap d v:=x.map (.of p g)
theorem VR.mono {K K':Kt} {s s':Shared} {d:D} {v:Value} (x:VR K s.heap d v) (p:PreS (adrs K) s s') (g:Grows s K K'):VR K' s'.heap d v:=x.mono0 p.still g
theorem VRs.mono {K K':Kt} {s s':Shared} {d:List D} {v:List Value} (x:VRs K s.heap d v) (p:PreS (adrs K) s s') (g:Grows s K K'):VRs K' s'.heap d v:=x.mono0 p.still g
theorem VRs.length {K:Kt} {h:Heap}:∀ {ds:List D} {vs:List Value},VRs K h ds vs→ds.length=vs.length
 | _,_,.nil=>rfl
 | _,_,.cons _ r=>congrArg (·+1) r.length
noncomputable def lkV:List (Str×Value)→Str→Option Value
 | [],_=>none
 | p :: r,x=>match Fast.sEq p.1 x with
  | true=>some p.2
  | false=>lkV r x
noncomputable def lk:List (Str×D)→Str→Option D
 | [],_=>none
 | p :: r,x=>match Fast.sEq p.1 x with
  | true=>some p.2
  | false=>lk r x
structure TopT where
 P:Params
 pj:Addr
 N:Nat
 globs:List (Str×Value)
 bts:List (Str×Value)
 objs:List (Addr×Obj)
 tab:Bool→Obj→Prop
 fs:List Env:=[]
@[reducible] noncomputable def TopT.withFs (T:TopT) (fs:List Env):TopT:={T with fs:=fs}
inductive TopNs (globs bts:List (Str×Value)) (h:Heap):Prop
 | mk (mg mb:Str→Option Value) (h1:h.Ns mainGlobals mg) (h2:h.Ns builtinsNs mb) (h3:∀ x v,lkV globs x=some v→mg x=some v) (h4:∀ x v,lkV bts x=some v→mg x=none∧mb x=some v)
structure TopOK (T:TopT) (h:Heap):Prop where
 nolimit:h.NoLimit
 ns:TopNs T.globs T.bts h
 objs:∀ p∈T.objs,h.get? p.1=some p.2
 size:T.N≤h.objs.size
structure TopT.Well (T:TopT):Prop where
 pj:T.pj≠mainGlobals∧T.pj≠builtinsNs∧T.pj≠cStatics
 low:mainGlobals<T.N∧builtinsNs<T.N∧cStatics<T.N
 pjlow:T.pj<T.N
 N:T.N=topN
 objs:∀ p∈T.objs,p.1<T.N∧p.1≠T.pj
inductive EntR (P:Params) (K:Kt) (h:Heap):List (Str×D)→List DictEntry→Prop
 | nil:EntR P K h [] []
 | cons {x:Str} {d:D} {v:Value} {t:Tok} {r:List (Str×D)} {es:List DictEntry} (hv:VR K h d v) (hr:EntR P K h r es):EntR P K h ((x,d) :: r) (⟨PyData.keyHash P x,.str x t,v⟩ :: es)
theorem EntR.map {P:Params} {K K':Kt} {h h':Heap} {r:List (Str×D)} {es:List DictEntry} (x:EntR P K h r es) (m:Mv K K' h h'):EntR P K' h' r es:=by
 induction x with
 | nil=>exact .nil
 | cons hv _ ih=>exact .cons (hv.map m) ih
theorem EntR.mono {P:Params} {K K':Kt} {s s':Shared} {r:List (Str×D)} {es:List DictEntry} (x:EntR P K s.heap r es) (p:Still K s.heap s'.heap) (g:Grows s K K'):EntR P K' s'.heap r es:=by
 induction x with
 | nil=>exact .nil
 | cons hv _ ih=>exact .cons (hv.mono0 p g) ih
inductive ARl (K:Kt) (h:Heap) (p:Addr×List Addr) (l:List D):Prop
 | mk (xs:List Value) (n:Nat) (e:p.2=[]) (g:h.get? p.1=some (listO xs n)) (r:VRs K h l xs) (z:l.length≤100000)
inductive ARi (P:Params) (K:Kt) (h:Heap) (p:Addr×List Addr) (c:Addr) (at_:List (Str×D)):Prop
 | mk (dx:Addr) (sl:Array (Option Value)) (es:List DictEntry) (n:Nat) (e:p.2=[dx]) (g:h.get? p.1=some ⟨.ref c,some dx,.plain,sl⟩) (g':h.get? dx=some (dictOf es n)) (r:EntR P K h at_ es) (z:at_.length≤500)
inductive ARd (P:Params) (K:Kt) (h:Heap) (p:Addr×List Addr) (l:List (Str×D)):Prop
 | mk (es:List DictEntry) (n:Nat) (e:p.2=[]) (g:h.get? p.1=some (dictOf es n)) (r:EntR P K h l es) (z:l.length≤500)
noncomputable def AR (T:TopT) (K:Kt) (h:Heap) (p:Addr×List Addr):AO→Prop
 | .lst l=>ARl K h p l
 | .inst c at_=>ARi T.P K h p c at_
 | .dct r=>ARd T.P K h p r
 | .tab b=>p=(T.pj,[])∧∃ o,h.get? p.1=some o∧T.tab b o
structure Tr (T:TopT) (K:Kt) (objs:List AO) (s:Shared):Prop where
 well:T.Well
 top:TopOK T s.heap
 len:K.k.length=objs.length
 nd:K.k.Pairwise (fun p q=>∀ a∈p.1 :: p.2,a∉q.1 :: q.2)∧∀ q∈K.k,(q.1 :: q.2).Nodup
 low:∀ a∈adrs K,T.N≤a∨a=T.pj
 live:∀ a∈offs K,a<s.heap.objs.size
 ob:∀ (k:Nat) (p:Addr×List Addr) (ao:AO),K.k[k]?=some p→objs[k]?=some ao→AR T K s.heap p ao
 gens:GB 0 s.gens
 toks:0<s.toks
 hd:∀ a∈K.hid,a∉adrs K
 fs:∀ e∈T.fs,e.scope.kind≠.module∧∃ L,e.frame=some L∧Dk s.heap L∧L∉adrs K∧T.N≤L
def OnFs (T:TopT) (L:Addr):Prop:=∃ e,e∈T.fs∧e.frame=some L
theorem Dk.lt {h:Heap} {L:Addr} (x:Dk h L):L<h.objs.size:=let ⟨_,_,_,h1,_⟩:=x;Heap.lt_size h1
theorem Tr.fs_at {T:TopT} {K:Kt} {objs:List AO} {s:Shared} (X:Tr T K objs s) {L:Addr} (h:OnFs T L):Dk s.heap L∧L∉adrs K∧T.N≤L:=by
 obtain ⟨e,h2,h3⟩:=h
 obtain ⟨_,L',h4,h5⟩:=X.fs e h2
 rw[h3] at h4;cases h4;exact h5
theorem TopOK.keeps {T:TopT} {K:Kt} {s s':Shared} (x:TopOK T s.heap) (w:T.Well) (low:∀ a∈adrs K,T.N≤a∨a=T.pj) (p:PreS (adrs K) s s'):TopOK T s'.heap:=by
 have na:∀ a,a<T.N→a≠T.pj→a∉adrs K:=fun a h1 h2 h3=>(low a h3).elim (fun q=>absurd h1 (Nat.not_lt.mpr q)) h2
 obtain ⟨mg,mb,h1,h2,h3,h4⟩:=x.ns
 have lo:∀ {a o},a<T.N→hard a o:=fun h=>.inl (w.N▸h)
 have kn:∀ {a m},s.heap.Ns a m→a<T.N→a≠T.pj→s'.heap.Ns a m:=fun ⟨o,es,ep,ho,r⟩ q1 q2=>⟨o,es,ep,p.keep _ _ ho (na _ q1 q2) (lo q1),r⟩
 obtain ⟨mc,c1,c2⟩:=x.nolimit
 exact ⟨⟨mc,kn c1 w.low.2.2 w.pj.2.2.symm,c2⟩,⟨mg,mb,kn h1 w.low.1 w.pj.1.symm,kn h2 w.low.2.1 w.pj.2.1.symm,h3,h4⟩,
  fun q hq=>p.keep _ _ (x.objs q hq) (na _ (w.objs q hq).1 (w.objs q hq).2) (lo (w.objs q hq).1),Nat.le_trans x.size p.size⟩
theorem AR.map {T:TopT} {K K':Kt} {h h':Heap} {q:Addr×List Addr} {ao:AO} (x:AR T K h q ao) (m:Mv K K' h h') (hs:∀ a∈q.1 :: q.2,∀ o,h.get? a=some o→h'.get? a=some o):AR T K' h' q ao:=by
 cases ao with
 | lst l=>obtain ⟨xs,n,h1,h2,h3,h4⟩:=x;exact ⟨xs,n,h1,hs _ (.head _) _ h2,h3.map m,h4⟩
 | inst c at_=>obtain ⟨dx,sl,es,n,h1,h2,h3,h4,h5⟩:=x;exact ⟨dx,sl,es,n,h1,hs _ (.head _) _ h2,hs _ (.tail _ (by rw[h1];exact .head _)) _ h3,h4.map m,h5⟩
 | dct r=>obtain ⟨es,n,h1,h2,h3,h4⟩:=x;exact ⟨es,n,h1,hs _ (.head _) _ h2,h3.map m,h4⟩
 | tab b=>obtain ⟨h1,o,h2,h3⟩:=x;exact ⟨h1,o,hs _ (.head _) _ h2,h3⟩
theorem AR.mono {T:TopT} {K K':Kt} {s s':Shared} {q:Addr×List Addr} {ao:AO} (x:AR T K s.heap q ao) (p:Still K s.heap s'.heap) (g:Grows s K K') (hs:∀ a∈q.1 :: q.2,∀ o,s.heap.get? a=some o→s'.heap.get? a=some o):AR T K' s'.heap q ao:=x.map (.of p g) hs
theorem mem_adrs {K:Kt} {k:Nat} {p:Addr×List Addr} (h:K.k[k]?=some p) {a:Addr} (ha:a∈p.1 :: p.2):a∈adrs K:=List.mem_flatMap.mpr ⟨p,List.mem_of_getElem? h,ha⟩
theorem Tr.map {T:TopT} {K K':Kt} {objs:List AO} {s s':Shared} (x:Tr T K objs s) (hk:K'.k=K.k) (m:Mv K K' s.heap s'.heap)
  (keep:∀ b o,s.heap.get? b=some o→(b∈adrs K∨b<T.N)→s'.heap.get? b=some o) (hl:∀ a∈K'.hid,a<s'.heap.objs.size) (hz:s.heap.objs.size≤s'.heap.objs.size) (hg:GB 0 s'.gens) (ht:0<s'.toks) (hh:∀ a∈K'.hid,a∉adrs K) (hf:∀ L,OnFs T L→Dk s.heap L→Dk s'.heap L):Tr T K' objs s':=by
 have ea:adrs K'=adrs K:=by unfold adrs;rw[hk]
 obtain ⟨mg,mb,h1,h2,h3,h4⟩:=x.top.ns
 obtain ⟨mc,c1,c2⟩:=x.top.nolimit
 have kn:∀ {a m},s.heap.Ns a m→a<T.N→s'.heap.Ns a m:=fun ⟨o,es,ep,ho,r⟩ q=>⟨o,es,ep,keep _ _ ho (.inr q),r⟩
 refine ⟨x.well,⟨⟨mc,kn c1 x.well.low.2.2,c2⟩,⟨mg,mb,kn h1 x.well.low.1,kn h2 x.well.low.2.1,h3,h4⟩,fun q hq=>keep _ _ (x.top.objs q hq) (.inr (x.well.objs q hq).1),Nat.le_trans x.top.size hz⟩,
  by rw[hk];exact x.len,by rw[hk];exact x.nd,by rw[ea];exact x.low,fun a ha=>?_,fun k p ao e1 e2=>?_,hg,ht,by rw[ea];exact hh,fun e he=>let ⟨q0,L,q1,q2,q3,q4⟩:=x.fs e he;⟨q0,L,q1,hf L ⟨e,he,q1⟩ q2,by rw[ea];exact q3,q4⟩⟩
 ·rcases List.mem_append.mp ha with ha | ha
  ·rw[ea] at ha;exact Nat.lt_of_lt_of_le (x.live a (List.mem_append_left _ ha)) hz
  ·exact hl a ha
 ·rw[hk] at e1
  exact (x.ob k p ao e1 e2).map m fun a ha o e=>keep a o e (.inl (mem_adrs e1 ha))
theorem Tr.keeps {T:TopT} {K:Kt} {objs:List AO} {s s':Shared} (x:Tr T K objs s) (hk:∀ b o,s.heap.get? b=some o→s'.heap.get? b=some o) (hz:s.heap.objs.size≤s'.heap.objs.size) (hg:∀ {m:Nat},GB m s.gens→GB m s'.gens) (hos:s'.os=s.os) (ht:0<s'.toks) :
  Tr T K objs s' :=
 have p:PreS (adrs K) s s':=.of (fun b o e _=>hk b o e) hz hos hg
 ⟨x.well,x.top.keeps x.well x.low p,x.len,x.nd,x.low,fun a h=>Nat.lt_of_lt_of_le (x.live a h) hz,fun k q ao h1 h2=>(x.ob k q ao h1 h2).mono p.still (.refl s K) fun a _ o e=>hk a o e,hg x.gens,ht,x.hd,fun e he=>let ⟨q0,L,q1,q2,q3,q4⟩:=x.fs e he;⟨q0,L,q1,q2.dat fun o ho=>⟨o,hk _ _ ho,rfl⟩,q3,q4⟩⟩
structure Post (T:TopT) (K:Kt) (s:Shared) (K':Kt) (objs':List AO) (s':Shared):Prop where
 tr:Tr T K' objs' s'
 pres:PreS (adrs K) s s'
 grows:Grows s K K'
theorem Post.refl {T:TopT} {K:Kt} {objs:List AO} {s:Shared} (x:Tr T K objs s):Post T K s K objs s:=⟨x,.refl _ _,.refl _ _⟩
theorem Post.trans {T:TopT} {K K' K'':Kt} {objs' objs'':List AO} {s s' s'':Shared} (x:Post T K s K' objs' s') (y:Post T K' s' K'' objs'' s''):Post T K s K'' objs'' s'' :=
 ⟨y.tr,x.pres.trans y.pres fun a h=>x.grows.fresh a h,x.grows.trans y.grows x.pres.size⟩
theorem Post.vr {T:TopT} {K K':Kt} {objs':List AO} {s s':Shared} {d:D} {v:Value} (x:Post T K s K' objs' s') (h:VR K s.heap d v):VR K' s'.heap d v:=h.mono x.pres x.grows
theorem Post.vrs {T:TopT} {K K':Kt} {objs':List AO} {s s':Shared} {d:List D} {v:List Value} (x:Post T K s K' objs' s') (h:VRs K s.heap d v):VRs K' s'.heap d v:=h.mono x.pres x.grows
theorem Post.keeps {T:TopT} {K:Kt} {objs:List AO} {s s':Shared} (x:Tr T K objs s) (hk:∀ b o,s.heap.get? b=some o→s'.heap.get? b=some o) (hz:s.heap.objs.size≤s'.heap.objs.size) (hg:∀ {m:Nat},GB m s.gens→GB m s'.gens) (hos:s'.os=s.os) (ht:0<s'.toks):Post T K s K objs s' :=
 ⟨x.keeps hk hz hg hos ht,.of (fun b o e _=>hk b o e) hz hos hg,.refl _ _⟩
theorem Post.tok {T:TopT} {K:Kt} {objs:List AO} {s:Shared} (x:Tr T K objs s) (t:Nat) (ht:0<t):Post T K s K objs {s with toks:=t}:=.keeps x (fun _ _ e=>e) (Nat.le_refl _) id rfl ht
theorem Post.push {T:TopT} {K:Kt} {objs:List AO} {s:Shared} (x:Tr T K objs s) (o:Obj):Post T K s K objs {s with heap:=s.heap.push o} :=
 .keeps x (fun _ _ e=>Heap.get?_push_of_some o e) (by show _≤(s.heap.push o).objs.size;rw[Heap.size_push];exact Nat.le_succ _) id rfl x.toks
theorem Tr.tk {T:TopT} {K:Kt} {objs:List AO} {s:Shared} (x:Tr T K objs s):s.toks≠0:=Nat.ne_of_gt x.toks
theorem leaf {α:Type} {w:World} {T:TopT} {K:Kt} {objs:List AO} {A:Around} {s:Shared} {t:Sem α} {P:α→Shared→Prop} (X:Tr T K objs s)
  (h:wpAny (model pw w) A t (fun a s'=>0<s'.toks→P a s') (fun _ _=>False) s):wpAny (model pw w) A t P (fun _ _=>False) s :=
 wpAny_mono (wpAny_toks_of X.toks h) (fun _ _ h=>h.2 h.1) fun _ _ h=>h.2
noncomputable def own (env:Env):List Addr:=env.locals :: env.cells.map (·.2)
theorem own_cell {env:Env} {x:Str} {c:Addr} (h:env.cells.lookup x=some c):c∈own env:=.tail _ (List.mem_map.mpr ⟨(x,c),mem_of_lookup h,rfl⟩)
inductive Mute (h:Heap) (a:Addr):Prop
 | mk (o:Obj) (h1:h.get? a=some o) (h2:icy o.data=false)
inductive HasCell (env:Env) (h:Heap) (x:Str):Prop
 | mk (c:Addr) (v:Option Value) (h1:env.cells.lookup x=some c) (h2:h.IsCell c v)
inductive LocV (K:Kt) (h:Heap) (m:Str→Option Value) (x:Str) (d:D):Prop
 | mk (v:Value) (h1:m x=some v) (r:VR K h d v)
inductive CelV (K:Kt) (h:Heap) (env:Env) (x:Str) (d:D):Prop
 | mk (c:Addr) (v:Value) (h1:env.cells.lookup x=some c) (h2:h.IsCell c (some v)) (r:VR K h d v)
structure NameV (K:Kt) (h:Heap) (env:Env) (m:Str→Option Value) (x:Str) (d:D):Prop where
 loc:env.scope.names.lookup x=some .local→LocV K h m x d
 cel:env.scope.names.lookup x=some .cell∨env.scope.names.lookup x=some .free→CelV K h env x d
inductive FrmNs (K:Kt) (env:Env) (loc:List (Str×D)) (s:Shared):Prop
 | mk (m:Str→Option Value) (h1:s.heap.Ns env.locals m) (h2:∀ x d,lk loc x=some d→NameV K s.heap env m x d)
structure Frm (T:TopT) (K:Kt) (env:Env) (loc:List (Str×D)) (s:Shared):Prop where
 kind:env.scope.kind=.function
 glob:env.globals=mainGlobals
 bi:env.builtins=builtinsNs
 out:∀ a∈own env,a∉adrs K
 hi:∀ a∈own env,T.N≤a
 apart:env.cells.Pairwise fun x y=>x.2≠y.2
 apart':∀ x c,env.cells.lookup x=some c→c≠env.locals
 live:∀ a∈own env,a<s.heap.objs.size
 mute:∀ a∈own env,Mute s.heap a
 cel:∀ x,env.scope.names.lookup x=some .cell→HasCell env s.heap x
 fr:∃ e₀ r,T.fs=e₀ :: r∧e₀.frame=env.frame
 ns:FrmNs K env loc s
theorem Frm.post {T:TopT} {K K':Kt} {env:Env} {loc:List (Str×D)} {objs':List AO} {s s':Shared} (x:Frm T K env loc s) (p:Post T K s K' objs' s'):Frm T K' env loc s':=by
 obtain ⟨m,⟨o,es,ep,ho,r⟩,h2⟩:=x.ns
 have kc:∀ {c v},c∈own env→s.heap.IsCell c v→s'.heap.IsCell c v:=fun hc hd=>Cell_dat hd fun o ho=>p.pres.dat _ _ ho (x.out _ hc)
 refine ⟨x.kind,x.glob,x.bi,fun a ha h=>?_,x.hi,x.apart,x.apart',fun a ha=>Nat.lt_of_lt_of_le (x.live a ha) p.pres.size,fun a ha=>let ⟨o,h1,h2⟩:=x.mute a ha;let ⟨o',h3,h4⟩:=p.pres.dat _ _ h1 (x.out a ha);⟨o',h3,by rw[h4];exact h2⟩,fun y hy=>?_,x.fr,m,Ns_dat ⟨o,es,ep,ho,r⟩ fun o ho=>p.pres.dat _ _ ho (x.out _ (.head _)),fun y d hd=>⟨fun hl=>?_,fun hl=>?_⟩⟩
 ·rcases p.grows.fresh _ h with q | q
  ·exact x.out a ha q
  ·exact absurd (x.live a ha) (Nat.not_lt.mpr q)
 ·obtain ⟨c,v,h3,h4⟩:=x.cel y hy
  exact ⟨c,v,h3,kc (own_cell h3) h4⟩
 ·obtain ⟨v,h4,h5⟩:=(h2 y d hd).1 hl
  exact ⟨v,h4,p.vr h5⟩
 ·obtain ⟨c,v,h3,h4,h5⟩:=(h2 y d hd).2 hl
  exact ⟨c,v,h3,kc (own_cell h3) h4,p.vr h5⟩
structure Room (T:TopT) (A:Around) (n:Nat):Prop where
 depth:A.depth+n≤900
 units:A.units+8 * n≤4000
 hnd:A.handled=none
 frs:A.frames=some T.fs
theorem Room.depth0 {T:TopT} {A:Around} {n:Nat} (x:Room T A n):A.depth<1000:=Nat.lt_of_le_of_lt (Nat.le_trans (Nat.le_add_right _ _) x.depth) (by decide)
theorem Room.depth1 {T:TopT} {A:Around} {n:Nat} (x:Room T A (n+1)):A.depth+1+n≤900:=by have:=x.depth;lia
theorem Room.units3 {T:TopT} {A:Around} {n:Nat} (x:Room T A (n+1)):A.units+3+8 * n≤4000:=by have:=x.units;lia
section
variable (T:TopT) (w:World)
inductive OutE (K:Kt) (s:Shared) (Q:D→List AO→Prop) (v:Value) (s':Shared):Prop
 | mk (K':Kt) (d:D) (objs':List AO) (p:Post T K s K' objs' s') (r:VR K' s'.heap d v) (q:Q d objs')
inductive OutB (K:Kt) (s:Shared) (Q:Bool→List AO→Prop) (b:Bool) (s':Shared):Prop
 | mk (K':Kt) (objs':List AO) (p:Post T K s K' objs' s') (q:Q b objs')
inductive OutEs (K:Kt) (s:Shared) (Q:List D→List AO→Prop) (vs:List Value) (s':Shared):Prop
 | mk (K':Kt) (ds:List D) (objs':List AO) (p:Post T K s K' objs' s') (r:VRs K' s'.heap ds vs) (q:Q ds objs')
noncomputable abbrev noE:Value→Shared→Prop:=fun _ _=>False
def EvE (n:Nat) (env:Env) (e:PySem.Expr) (loc:List (Str×D)) (objs:List AO) (Q:D→List AO→Prop):Prop :=
 ∀ (A:Around) (s:Shared) (K:Kt),Room T A n→Tr T K objs s→Frm T K env loc s→wpAny (model pw w) A (eval e env) (OutE T K s Q) noE s
def EvEs (n:Nat) (env:Env) (pos:Pos) (es:List PySem.Expr) (loc:List (Str×D)) (objs:List AO) (Q:List D→List AO→Prop):Prop :=
 ∀ (A:Around) (s:Shared) (K:Kt),Room T A n→Tr T K objs s→Frm T K env loc s→wpAny (model pw w) A (spliced (backTo pos (starEach es env))) (OutEs T K s Q) noE s
def EvB (n:Nat) (env:Env) (e:PySem.Expr) (loc:List (Str×D)) (objs:List AO) (Q:Bool→List AO→Prop):Prop :=
 ∀ (A:Around) (s:Shared) (K:Kt),Room T A n→Tr T K objs s→Frm T K env loc s→wpAny (model pw w) A (isTrue e env (eval e env)) (OutB T K s Q) noE s
def Op2 (n:Nat) (op:Value→Value→Sem Value) (a b:D) (objs:List AO) (Q:D→List AO→Prop):Prop :=
 ∀ (A:Around) (s:Shared) (K:Kt) (u v:Value),Room T A n→Tr T K objs s→VR K s.heap a u→VR K s.heap b v→wpAny (model pw w) A (op u v) (OutE T K s Q) noE s
def Op1 (n:Nat) (op:Value→Sem Value) (a:D) (objs:List AO) (Q:D→List AO→Prop):Prop :=
 ∀ (A:Around) (s:Shared) (K:Kt) (u:Value),Room T A n→Tr T K objs s→VR K s.heap a u→wpAny (model pw w) A (op u) (OutE T K s Q) noE s
def TruD (n:Nat) (a:D) (objs:List AO) (Q:Bool→List AO→Prop):Prop :=
 ∀ (A:Around) (s:Shared) (K:Kt) (u:Value),Room T A n→Tr T K objs s→VR K s.heap a u→wpAny (model pw w) A (truthy u) (OutB T K s Q) noE s
def XCall (n:Nat) (f:Value) (ds:List D) (names:List Str) (kds:List D) (objs:List AO) (Q:D→List AO→Prop):Prop :=
 ∀ (A:Around) (s:Shared) (K:Kt) (vs ks:List Value),Room T A n→Tr T K objs s→VRs K s.heap ds vs→VRs K s.heap kds ks→wpAny (model pw w) A (call f vs (names.zip ks)) (OutE T K s Q) noE s
end
section
variable {T:TopT} {w:World}
theorem OutE.behind {K K₁:Kt} {s s₁ s₂:Shared} {objs₁:List AO} {Q:D→List AO→Prop} {v:Value} (p:Post T K s K₁ objs₁ s₁) (o:OutE T K₁ s₁ Q v s₂):OutE T K s Q v s₂:=by
 obtain ⟨K',d,ob,p',r,q⟩:=o
 exact ⟨K',d,ob,p.trans p',r,q⟩
theorem OutB.behind {K K₁:Kt} {s s₁ s₂:Shared} {objs₁:List AO} {Q:Bool→List AO→Prop} {b:Bool} (p:Post T K s K₁ objs₁ s₁) (o:OutB T K₁ s₁ Q b s₂):OutB T K s Q b s₂:=by
 obtain ⟨K',ob,p',q⟩:=o
 exact ⟨K',ob,p.trans p',q⟩
theorem OutEs.behind {K K₁:Kt} {s s₁ s₂:Shared} {objs₁:List AO} {Q:List D→List AO→Prop} {v:List Value} (p:Post T K s K₁ objs₁ s₁) (o:OutEs T K₁ s₁ Q v s₂):OutEs T K s Q v s₂:=by
 obtain ⟨K',d,ob,p',r,q⟩:=o
 exact ⟨K',d,ob,p.trans p',r,q⟩
theorem wE {α:Type} {A:Around} {t:Sem α} {P Q:α→Shared→Prop} {s:Shared} (h:wpAny (model pw w) A t P noE s) (k:∀ a s',P a s'→Q a s'):wpAny (model pw w) A t Q noE s :=
 wpAny_mono h k fun _ _ x=>x
variable {n:Nat} {env:Env} {loc:List (Str×D)} {objs:List AO} {Q:D→List AO→Prop}
theorem EvE.mono {e:PySem.Expr} {Q':D→List AO→Prop} (h:EvE T w n env e loc objs Q) (k:∀ d o,Q d o→Q' d o):EvE T w n env e loc objs Q' :=
 fun A s K R X F=>wE (h A s K R X F) fun _ _ ⟨K',d,ob,p,r,q⟩=>⟨K',d,ob,p,r,k _ _ q⟩
theorem EvE.is {e:PySem.Expr} {X:D} (h:EvE T w n env e loc objs fun d o=>d=X∧o=objs) {A:Around} {s:Shared} {K:Kt} (R:Room T A n) (Xt:Tr T K objs s) (F:Frm T K env loc s) {P:Value→Shared→Prop}
  (k:∀ v s' K',Post T K s K' objs s'→VR K' s'.heap X v→P v s'):wpAny (model pw w) A (eval e env) P noE s :=
 wE (h A s K R Xt F) fun v s' ⟨K',d,o,p,r,e1,e2⟩=>k v s' K' (e2▸p) (e1▸r)
theorem EvE.isV {e:PySem.Expr} {V:Value} (h:EvE T w n env e loc objs fun d o=>d=.val V∧o=objs) {A:Around} {s:Shared} {K:Kt} (R:Room T A n) (Xt:Tr T K objs s) (F:Frm T K env loc s) {P:Value→Shared→Prop}
  (k:∀ s' K',Post T K s K' objs s'→P V s'):wpAny (model pw w) A (eval e env) P noE s :=
 h.is R Xt F fun v s' K' p r=>r.inv▸k s' K' p
theorem EvE.isL {e:PySem.Expr} {ld:List D} (h:EvE T w n env e loc objs fun d o=>d=.list ld∧o=objs) {A:Around} {s:Shared} {K:Kt} (R:Room T A n) (Xt:Tr T K objs s) (F:Frm T K env loc s) {P:Value→Shared→Prop}
  (k:∀ s' K' l xs nn,Post T K s K' objs s'→s'.heap.get? l=some (listO xs nn)→l∉offs K'→VRs K' s'.heap ld xs→P (.ref l) s'):wpAny (model pw w) A (eval e env) P noE s :=
 h.is R Xt F fun v s' K' p r=>by obtain ⟨l,xs,nn,e,ha,hk,hn,hl⟩:=r.inv;exact e▸k s' K' l xs nn p ha hk hl
theorem EvE.to {e:PySem.Expr} (X:D) (Y:List AO) (h:EvE T w n env e loc objs fun d o=>d=X∧o=Y) (k:Q X Y):EvE T w n env e loc objs Q:=h.mono fun d o ⟨a,b⟩=>by subst a b;exact k
theorem ev_int {i:Int} {k:Nat} {pos:Pos} (h:Q (.int i) objs):EvE T w n env (.Constant (.int i) k pos) loc objs Q :=
 fun _ s K _ X _=>wpAny_Constant_int ⟨K,_,objs,.tok X _ (Nat.succ_pos _),.int _ _ X.tk,h⟩
theorem ev_str {x:Str} {k:Nat} {pos:Pos} (h:Q (.str x) objs) (hx:Nat.ble x.length 1000=true):EvE T w n env (.Constant (.str x) k pos) loc objs Q :=
 fun _ s K _ X _=>Calls.Constant_str ⟨K,_,objs,.tok X _ (Nat.succ_pos _),.str _ _ (Nat.le_trans (Nat.le_of_ble_eq_true hx) (by decide)) X.tk,h⟩
theorem ev_none {k:Nat} {pos:Pos} (h:Q .none objs):EvE T w n env (.Constant .none k pos) loc objs Q :=
 fun _ s K _ X _=>wpAny_Constant_none ⟨K,_,objs,.refl X,.none,h⟩
theorem ev_bool {b:Bool} {k:Nat} {pos:Pos} (h:Q (.bool b) objs):EvE T w n env (.Constant (.bool b) k pos) loc objs Q :=
 fun _ s K _ X _=>wpAny_Constant_bool ⟨K,_,objs,.refl X,.bool _,h⟩
theorem ev_local {x:Str} {pos:Pos} {d:D} (hl:env.scope.names.lookup x=some .local) (hd:lk loc x=some d) (h:Q d objs) (hx:(x==("__debug__":Str))=false):EvE T w n env (.Name x pos) loc objs Q :=
 fun A s K _ X F=>by
  obtain ⟨m,hm,h1⟩:=F.ns
  obtain ⟨v,hv,r⟩:=(h1 x d hd).1 hl
  exact wpAny_Name (wpAny_loadName_local F.kind hl hm hv ⟨K,d,objs,.refl X,r,h⟩) hx
theorem ev_cell {x:Str} {pos:Pos} {d:D} (hl:env.scope.names.lookup x=some .cell) (hd:lk loc x=some d) (h:Q d objs) (hx:(x==("__debug__":Str))=false):EvE T w n env (.Name x pos) loc objs Q :=
 fun A s K _ X F=>by
  obtain ⟨m,hm,h1⟩:=F.ns
  obtain ⟨c,v,hc,hv,r⟩:=(h1 x d hd).2 (.inl hl)
  exact wpAny_Name (wpAny_loadName_cell F.kind hl hc hv ⟨K,d,objs,.refl X,r,h⟩) hx
noncomputable def isLoc (env:Env) (x:Str):Bool:=(match env.scope.names.lookup x with | some .local=>true | _=>false) && !(x==("__debug__":Str))
theorem ev_loc {x:Str} {pos:Pos} {d:D} (hb:isLoc env x=true) (hd:lk loc x=some d) (h:Q d objs):EvE T w n env (.Name x pos) loc objs Q:=by
 obtain ⟨h1,h2⟩:=Bool.and_eq_true_iff.mp hb
 refine ev_local ?_ hd h (by simpa using h2)
 split at h1
 ·assumption
 ·cases h1
noncomputable def isCell (env:Env) (x:Str):Bool:=(match env.scope.names.lookup x with | some .cell=>true | _=>false) && !(x==("__debug__":Str))
theorem ev_cel {x:Str} {pos:Pos} {d:D} (hb:isCell env x=true) (hd:lk loc x=some d) (h:Q d objs):EvE T w n env (.Name x pos) loc objs Q:=by
 obtain ⟨h1,h2⟩:=Bool.and_eq_true_iff.mp hb
 refine ev_cell ?_ hd h (by simpa using h2)
 split at h1
 ·assumption
 ·cases h1
noncomputable def isGl (env:Env) (x:Str):Bool:=(match env.scope.names.lookup x with | some .globalImplicit=>true | _=>false) && !(x==("__debug__":Str))
noncomputable def vD:Value→D
 | .none=>.none
 | .bool b=>.bool b
 | .int i _=>.int i
 | .str s _=>.str s
 | v=>.val v
noncomputable def okV:Value→Bool
 | .str s t=>Nat.ble s.length 1000 && Nat.blt 0 t
 | .int _ t=>Nat.blt 0 t
 | _=>true
theorem vD_rel {K:Kt} {h:Heap}:∀ (v:Value),okV v=true→VR K h (vD v) v
 | .none,_=>.none
 | .bool _,_=>.bool _
 | .int _ _,h=>.int _ _ (Nat.ne_of_gt (Nat.le_of_ble_eq_true h))
 | .str _ _,h=>.str _ _ (Nat.le_trans (Nat.le_of_ble_eq_true (Bool.and_eq_true _ _▸h).1) (by decide)) (Nat.ne_of_gt (Nat.le_of_ble_eq_true (Bool.and_eq_true _ _▸h).2))
 | .ellipsis,_=>.val _
 | .notImplemented,_=>.val _
 | .float _ _,_=>.val _
 | .bytes _ _,_=>.val _
 | .type _,_=>.val _
 | .builtin _,_=>.val _
 | .ref _,_=>.val _
theorem ev_glob {x:Str} {pos:Pos} {v:Value} (hl:env.scope.names.lookup x=some .globalImplicit) (hd:lkV T.globs x=some v) (hv:okV v=true) (h:Q (vD v) objs) (hx:(x==("__debug__":Str))=false):EvE T w n env (.Name x pos) loc objs Q :=
 fun A s K _ X F=>by
  obtain ⟨mg,mb,h1,h2,h3,h4⟩:=X.top.ns
  exact Calls.Name_function_global F.kind hl (Calls.loadGlobal_global (F.glob▸h1) (h3 x v hd) ⟨K,_,objs,.refl X,vD_rel v hv,h⟩) hx
theorem ev_bi {x:Str} {pos:Pos} {v:Value} (hl:env.scope.names.lookup x=some .globalImplicit) (hd:lkV T.bts x=some v) (hv:okV v=true) (h:Q (vD v) objs) (hx:(x==("__debug__":Str))=false):EvE T w n env (.Name x pos) loc objs Q :=
 fun A s K _ X F=>by
  obtain ⟨mg,mb,h1,h2,h3,h4⟩:=X.top.ns
  obtain ⟨q1,q2⟩:=h4 x v hd
  exact Calls.Name_function_global F.kind hl (Calls.loadGlobal_builtin (F.glob▸h1) q1 (F.bi▸h2) q2 ⟨K,_,objs,.refl X,vD_rel v hv,h⟩) hx
theorem ev_gl {x:Str} {pos:Pos} {v:Value} (hb:isGl env x=true) (hd:lkV T.globs x=some v) (hv:okV v=true) (h:Q (vD v) objs):EvE T w n env (.Name x pos) loc objs Q:=by
 obtain ⟨h1,h2⟩:=Bool.and_eq_true_iff.mp hb
 refine ev_glob ?_ hd hv h (by simpa using h2)
 split at h1
 ·assumption
 ·cases h1
theorem ev_b {x:Str} {pos:Pos} {v:Value} (hb:isGl env x=true) (hd:lkV T.bts x=some v) (hv:okV v=true) (h:Q (vD v) objs):EvE T w n env (.Name x pos) loc objs Q:=by
 obtain ⟨h1,h2⟩:=Bool.and_eq_true_iff.mp hb
 refine ev_bi ?_ hd hv h (by simpa using h2)
 split at h1
 ·assumption
 ·cases h1
section
variable (T:TopT) (w:World) (n:Nat) (env:Env)
@[reducible] def kOp2 (f:Value→Value→Sem Value) (a:D) (Q:D→List AO→Prop) (b:D) (o:List AO):Prop:=Op2 T w n f a b o Q
@[reducible] def kOp1 (f:Value→Sem Value) (Q:D→List AO→Prop) (a:D) (o:List AO):Prop:=Op1 T w n f a o Q
@[reducible] def kTru (Q:Bool→List AO→Prop) (a:D) (o:List AO):Prop:=TruD T w n a o Q
@[reducible] def kBin (r:PySem.Expr) (f:Value→Value→Sem Value) (loc:List (Str×D)) (Q:D→List AO→Prop) (a:D) (o:List AO):Prop:=EvE T w n env r loc o (kOp2 T w n f a Q)
@[reducible] def kIfx (x y:PySem.Expr) (loc:List (Str×D)) (Q:D→List AO→Prop) (c:Bool) (o:List AO):Prop:=match c with | true=>EvE T w n env x loc o Q | false=>EvE T w n env y loc o Q
end
def kNot (Q:Bool→List AO→Prop) (b:Bool) (o:List AO):Prop:=Q (!b) o
theorem k_notT {Q:Bool→List AO→Prop} {o:List AO} (h:Q false o):kNot Q true o:=h
theorem k_notF {Q:Bool→List AO→Prop} {o:List AO} (h:Q true o):kNot Q false o:=h
theorem k_not {Q:Bool→List AO→Prop} {b:Bool} {o:List AO} (h:Q (!b) o):kNot Q b o:=h
@[reducible] def kCons (d:D) (Q:List D→List AO→Prop) (ds:List D) (o:List AO):Prop:=Q (d :: ds) o
@[reducible] def kLst (Q:D→List AO→Prop) (ds:List D) (o:List AO):Prop:=ds.length≤100000∧Q (.list ds) o
@[reducible] def kTup (Q:D→List AO→Prop) (ds:List D) (o:List AO):Prop:=ds.length≤100000∧Q (.tup ds) o
theorem ev_binop {l r:PySem.Expr} {op:Operator} {pos:Pos} (h:EvE T w n env l loc objs (kBin T w n env r (binaryOp op) loc Q)):EvE T w n env (.BinOp l op r pos) loc objs Q :=
 fun A s K R X F=>wpAny_BinOp (wE (h A s K R X F) fun u s₁ ⟨K₁,a,o₁,p₁,r₁,q₁⟩=>wE (q₁ A s₁ K₁ R p₁.tr (F.post p₁)) fun v s₂ ⟨K₂,b,o₂,p₂,r₂,q₂⟩ =>
  wE (q₂ A s₂ K₂ u v R p₂.tr (p₂.vr r₁) r₂) fun _ _ x=>(x.behind p₂).behind p₁)
theorem ev_unop {x:PySem.Expr} {op:UnaryOp} {pos:Pos} (h:EvE T w n env x loc objs (kOp1 T w n (unaryOp op) Q)):EvE T w n env (.UnaryOp op x pos) loc objs Q :=
 fun A s K R X F=>wpAny_UnaryOp (wE (h A s K R X F) fun u s₁ ⟨K₁,a,o₁,p₁,r₁,q₁⟩=>wE (q₁ A s₁ K₁ u R p₁.tr r₁) fun _ _ x=>x.behind p₁)
theorem ev_compare {l r:PySem.Expr} {op:CmpOp} {pos:Pos} (h:EvE T w n env l loc objs (kBin T w n env r (compareOp op) loc Q)) (hm:behindInMarks op r=false) :
  EvE T w n env (.Compare l [op] [r] pos) loc objs Q :=
 fun A s K R X F=>wpAny_Compare1 (wE (h A s K R X F) fun u s₁ ⟨K₁,a,o₁,p₁,r₁,q₁⟩=>wE (q₁ A s₁ K₁ R p₁.tr (F.post p₁)) fun v s₂ ⟨K₂,b,o₂,p₂,r₂,q₂⟩ =>
  wE (q₂ A s₂ K₂ u v R p₂.tr (p₂.vr r₁) r₂) fun _ _ x=>(x.behind p₂).behind p₁) hm
theorem ev_ifexp {t b o:PySem.Expr} {pos:Pos} (h:EvB T w n env t loc objs (kIfx T w n env b o loc Q)):EvE T w n env (.IfExp t b o pos) loc objs Q :=
 fun A s K R X F=>wpAny_IfExp (wE (h A s K R X F) fun c s₁ ⟨K₁,o₁,p₁,q₁⟩=>by
  cases c with
  | true=>exact wE (q₁ A s₁ K₁ R p₁.tr (F.post p₁)) fun _ _ x=>x.behind p₁
  | false=>exact wE (q₁ A s₁ K₁ R p₁.tr (F.post p₁)) fun _ _ x=>x.behind p₁)
theorem eb_value {e:PySem.Expr} {Q:Bool→List AO→Prop} (h:EvE T w n env e loc objs (kTru T w n Q))
  (he:∀ whole,isTrue e env whole=(do let v ← whole;standAt e.pos;holding [v] (truthy v))):EvB T w n env e loc objs Q :=
 fun A s K R X F=>wpAny_isTrue_value (wE (h A s K R X F) fun u s₁ ⟨K₁,a,o₁,p₁,r₁,q₁⟩=>wE (q₁ A s₁ K₁ u R p₁.tr r₁) fun _ _ x=>x.behind p₁) (he _)
theorem eb_not {x:PySem.Expr} {pos:Pos} {Q:Bool→List AO→Prop} (h:EvB T w n env x loc objs (kNot Q)):EvB T w n env (.UnaryOp .Not x pos) loc objs Q :=
 fun A s K R X F=>wpAny_isTrue_Not (wE (h A s K R X F) fun b s₁ ⟨K₁,o₁,p₁,q₁⟩=>⟨K₁,o₁,p₁,q₁⟩)
theorem eb_compare {l r:PySem.Expr} {op:CmpOp} {pos:Pos} {Q:Bool→List AO→Prop}
  (h:EvE T w n env l loc objs (kBin T w n env r (compareOp op) loc (kTru T w n Q))) (hm:behindInMarks op r=false) :
  EvB T w n env (.Compare l [op] [r] pos) loc objs Q :=
 fun A s K R X F=>wpAny_isTrue_Compare1 (wE (h A s K R X F) fun u s₁ ⟨K₁,a,o₁,p₁,r₁,q₁⟩=>wE (q₁ A s₁ K₁ R p₁.tr (F.post p₁)) fun v s₂ ⟨K₂,b,o₂,p₂,r₂,q₂⟩ =>
  wE (q₂ A s₂ K₂ u v R p₂.tr (p₂.vr r₁) r₂) fun c s₃ ⟨K₃,d,o₃,p₃,r₃,q₃⟩=>wE (q₃ A s₃ K₃ c R p₃.tr r₃) fun _ _ x=>((x.behind p₃).behind p₂).behind p₁) hm
def EvAll (T:TopT) (w:World) (n:Nat) (env:Env) (op:BoolOp) (es:List PySem.Expr) (loc:List (Str×D)) (objs:List AO) (Q:Bool→List AO→Prop):Prop :=
 ∀ (A:Around) (s:Shared) (K:Kt),Room T A n→Tr T K objs s→Frm T K env loc s→wpAny (model pw w) A (allTrue op es env) (OutB T K s Q) noE s
section
variable (T:TopT) (w:World) (n:Nat) (env:Env)
@[reducible] def kAnd (rest:List PySem.Expr) (loc:List (Str×D)) (Q:Bool→List AO→Prop) (b:Bool) (o:List AO):Prop:=match b with | true=>EvAll T w n env .And rest loc o Q | false=>Q false o
@[reducible] def kOr (rest:List PySem.Expr) (loc:List (Str×D)) (Q:Bool→List AO→Prop) (b:Bool) (o:List AO):Prop:=match b with | false=>EvAll T w n env .Or rest loc o Q | true=>Q true o
@[reducible] def kEs (pos:Pos) (r:List PySem.Expr) (loc:List (Str×D)) (Q:List D→List AO→Prop) (d:D) (o:List AO):Prop:=EvEs T w n env pos r loc o (kCons d Q)
end
theorem k_or {rest:List PySem.Expr} {Q:Bool→List AO→Prop} {b:Bool} {o:List AO} (h1:b=false→EvAll T w n env .Or rest loc o Q) (h2:b=true→Q true o):kOr T w n env rest loc Q b o:=by
 cases b
 ·exact h1 rfl
 ·exact h2 rfl
theorem k_and {rest:List PySem.Expr} {Q:Bool→List AO→Prop} {b:Bool} {o:List AO} (h1:b=true→EvAll T w n env .And rest loc o Q) (h2:b=false→Q false o):kAnd T w n env rest loc Q b o:=by
 cases b
 ·exact h2 rfl
 ·exact h1 rfl
theorem eb_boolop {op:BoolOp} {es:List PySem.Expr} {pos:Pos} {Q:Bool→List AO→Prop} (h:EvAll T w n env op es loc objs Q):EvB T w n env (.BoolOp op es pos) loc objs Q :=
 fun A s K R X F=>wpAny_isTrue_BoolOp (h A s K R X F)
theorem all_and_nil {Q:Bool→List AO→Prop} (h:Q true objs):EvAll T w n env .And [] loc objs Q:=fun A s K R X F=>wpAny_allTrue_And_nil ⟨K,objs,.refl X,h⟩
theorem all_or_nil {Q:Bool→List AO→Prop} (h:Q false objs):EvAll T w n env .Or [] loc objs Q:=fun A s K R X F=>wpAny_allTrue_Or_nil ⟨K,objs,.refl X,h⟩
theorem all_and_cons {x:PySem.Expr} {rest:List PySem.Expr} {Q:Bool→List AO→Prop} (h:EvB T w n env x loc objs (kAnd T w n env rest loc Q)) :
  EvAll T w n env .And (x :: rest) loc objs Q :=
 fun A s K R X F=>wpAny_allTrue_And_cons (wE (h A s K R X F) fun b s₁ ⟨K₁,o₁,p₁,q₁⟩=>by
  cases b with
  | true=>exact wE (q₁ A s₁ K₁ R p₁.tr (F.post p₁)) fun _ _ x=>x.behind p₁
  | false=>exact ⟨K₁,o₁,p₁,q₁⟩)
theorem all_or_cons {x:PySem.Expr} {rest:List PySem.Expr} {Q:Bool→List AO→Prop} (h:EvB T w n env x loc objs (kOr T w n env rest loc Q)) :
  EvAll T w n env .Or (x :: rest) loc objs Q :=
 fun A s K R X F=>wpAny_allTrue_Or_cons (wE (h A s K R X F) fun b s₁ ⟨K₁,o₁,p₁,q₁⟩=>by
  cases b with
  | false=>exact wE (q₁ A s₁ K₁ R p₁.tr (F.post p₁)) fun _ _ x=>x.behind p₁
  | true=>exact ⟨K₁,o₁,p₁,q₁⟩)
noncomputable def notStar:PySem.Expr→Bool
 | .Starred ..=>false
 | _=>true
theorem starEach_cons {e:PySem.Expr} {r:List PySem.Expr} {env:Env} (h:notStar e=true):starEach (e :: r) env=(false,eval e env) :: starEach r env:=by
 cases e <;> first | rfl | cases h
theorem es_nil {pos:Pos} {Q:List D→List AO→Prop} (h:Q [] objs):EvEs T w n env pos [] loc objs Q:=fun A s K R X F=>Calls.spliced_nil ⟨K,[],objs,.refl X,.nil,h⟩
theorem es_cons {pos:Pos} {e:PySem.Expr} {r:List PySem.Expr} {Q:List D→List AO→Prop} (hs:notStar e=true)
  (h:EvE T w n env e loc objs (kEs T w n env pos r loc Q)):EvEs T w n env pos (e :: r) loc objs Q:=fun A s K R X F=>by
 rw[starEach_cons hs]
 show wpAny _ _ (spliced ((false,eval e env) :: backTo pos (starEach r env))) _ _ _
 exact Calls.spliced_cons (wE (h A s K R X F) fun v s₁ ⟨K₁,d,o₁,p₁,r₁,q₁⟩=>wE (q₁ A s₁ K₁ R p₁.tr (F.post p₁)) fun vs s₂ ⟨K₂,ds,o₂,p₂,r₂,q₂⟩ =>
  ⟨K₂,d :: ds,o₂,p₁.trans p₂,.cons (p₂.vr r₁) r₂,q₂⟩)
theorem fresh_not {K:Kt} {s:Shared} (X:Tr T K objs s):s.heap.objs.size∉offs K:=fun h=>absurd (X.live _ h) (Nat.lt_irrefl _)
theorem ev_list {es:List PySem.Expr} {pos:Pos} (h:EvEs T w n env pos es loc objs (kLst Q)):EvE T w n env (.List es pos) loc objs Q:=fun A s K R X F=>by
 refine wpAny_List_spliced (wE (h A s K R X F) fun vs s₁ ⟨K₁,ds,o₁,p₁,r₁,q₀,q₁⟩=>⟨by rw[← r₁.length];exact Nat.le_trans q₀ (by decide),?_⟩)
 have P:=Post.push p₁.tr (listO vs 0)
 exact ⟨K₁,_,o₁,p₁.trans P,.list (Heap.get?_push_size _ rfl) (fresh_not p₁.tr) q₀ (P.vrs r₁),q₁⟩
theorem ev_tuple {es:List PySem.Expr} {k:Nat} {pos:Pos} (h:EvEs T w n env pos es loc objs (kTup Q)):EvE T w n env (.Tuple es k pos) loc objs Q:=fun A s K R X F=>by
 refine wpAny_Tuple_spliced (wE (h A s K R X F) fun vs s₁ ⟨K₁,ds,o₁,p₁,r₁,q₀,q₁⟩=>⟨by rw[← r₁.length];exact Nat.le_trans q₀ (by decide),?_⟩)
 have P:=Post.push p₁.tr (tupO vs 0)
 exact ⟨K₁,_,o₁,p₁.trans P,.tup (Heap.get?_push_size _ rfl) (fresh_not p₁.tr) q₀ (P.vrs r₁),q₁⟩
end
section
variable {M:Model} {A:Around} {E:Value→Shared→Prop} {s:Shared}
theorem callWith_gen {pos:Pos} {f:Value} {first:List Value} {args:List (Bool×Sem Value)} {kws:List (Option Str×Sem Value)} {Q:Value→Shared→Prop}
  (ha:args.all (!·.1)=true) (hk:kws.all (·.1.isSome)=true)
  (h:wpAny M A (spliced args) (fun vs s₁=>wpAny M A (evalAll (kws.map (·.2))) (fun ks s₂=>(∀ Q':Keeper→Shared→Prop,(∀ k,Q' k s₂)→wpAny M A (keeperOf f) Q' E s₂) ∧
   wpAny M A (call f (first++vs) ((kws.filterMap (·.1)).zip ks)) Q E s₂) E s₁) E s):wpAny M A (callWith pos f first args kws) Q E s:=by
 have h1:wpAny M A (evalArgs f true args kws) (fun x s₁=>(∀ Q':Keeper→Shared→Prop,(∀ k,Q' k s₁)→wpAny M A (keeperOf f) Q' E s₁)∧wpAny M A (call f (first++x.pos) x.kw) Q E s₁) E s:=by
  cases args with
  | nil =>
   refine evalArgs_kw_nil hk ?_
   rw[spliced] at h
   intro Γ p hΓ
   have q:=h Γ p hΓ
   rw[Sem.wp_pure'] at q
   exact q Γ p hΓ
  | cons p r =>
   obtain ⟨b,x⟩:=p
   have hb:b=false:=by simp only [List.all_cons,Bool.and_eq_true,Bool.not_eq_true'] at ha;exact ha.1
   subst hb
   exact evalArgs_kw hk h
 unfold callWith
 refine wpAny_bind (wpAny_holding (wpAny_mono h1 (fun x s₁ ⟨hkeep,hcall⟩=>wpAny_bind (wpAny_standAt ?_)) fun _ _ e=>e))
 have tail:∀ {t:Sem Value},wpAny M A t Q E s₁→wpAny M A (t >>= fun r=>holding [r] point >>= fun _=>pure r) Q E s₁ :=
  fun ht=>wpAny_bind (wpAny_mono ht (fun r s₂ hr=>wpAny_bind (wpAny_holding (wpAny_point (wpAny_pure hr)))) fun _ _ x=>x)
 refine wpAny_bind (hkeep _ fun k=>?_)
 have hm:∀ m,wpAny M A (callMarked m f (first++x.pos) x.kw) Q E s₁:=fun m=>by unfold callMarked;exact Calls.wpAny_keep hcall
 have ho:∀ vs,wpAny M A (operate vs (call f (first++x.pos) x.kw)) Q E s₁:=fun vs Γ p hΓ=>by rw[Sem.wp_operate];exact hcall Γ p hΓ
 cases k <;> cases (args.any (·.1) || kws.any (·.1.isNone)) <;> dsimp only <;> first
  | exact tail hcall
  | exact tail (hm _)
  | exact tail (ho _)
  | (split <;> first | exact tail hcall | exact tail (hm _))
end
section
variable (T:TopT) (w:World)
def KeepF (f:Value):Prop:=∀ (A:Around) (K:Kt) (objs:List AO) (s:Shared) (Q:Keeper→Shared→Prop),Tr T K objs s→(∀ k,Q k s)→wpAny (model pw w) A (keeperOf f) Q noE s
def GetM (n:Nat) (d:D) (name:Str) (f:Value) (first:List D) (objs:List AO):Prop :=
 ∀ (A:Around) (s:Shared) (K:Kt) (v:Value) (pl:Sem Bool) (Q:Value×List Value→Shared→Prop),Room T A n→Tr T K objs s→VR K s.heap d v→(∀ fv,VRs K s.heap first fv→Q (f,fv) s) →
  wpAny (model pw w) A (getMethod v name pl) Q noE s
def XC (n:Nat) (f:Value) (ds:List D) (names:List Str) (kds:List D) (objs:List AO) (Q:D→List AO→Prop):Prop:=KeepF T w f∧XCall T w n f ds names kds objs Q
def EvKs (n:Nat) (env:Env) (pos:Pos) (ks:List Keyword) (loc:List (Str×D)) (objs:List AO) (Q:List D→List AO→Prop):Prop :=
 ∀ (A:Around) (s:Shared) (K:Kt),Room T A n→Tr T K objs s→Frm T K env loc s→wpAny (model pw w) A (evalAll ((backToKw pos (keywordEach ks env)).map (·.2))) (OutEs T K s Q) noE s
end
section
variable {T:TopT} {w:World} {n:Nat} {env:Env} {loc:List (Str×D)} {objs:List AO} {Q:D→List AO→Prop}
theorem keep_builtin {id:String}:KeepF T w (.builtin id):=fun _ _ _ _ _ _ h=>wpAny_pure (h _)
theorem keep_type {c:String}:KeepF T w (.type c):=fun _ _ _ _ _ _ h=>wpAny_pure (h _)
theorem keep_func {a:Addr} {o:Obj} {fd:FuncData} (hm:(a,o)∈T.objs) (hd:o.data=.func fd):KeepF T w (.ref a):=fun A K objs s Q X h=>by
 unfold keeperOf
 refine wpAny_bind (wpAny_load (X.top.objs _ hm) ?_)
 dsimp only
 rw[hd]
 exact wpAny_pure (h _)
theorem ks_nil {pos:Pos} {Q:List D→List AO→Prop} (h:Q [] objs):EvKs T w n env pos [] loc objs Q:=fun A s K R X F=>wpAny_evalAll_nil ⟨K,[],objs,.refl X,.nil,h⟩
section
variable (T:TopT) (w:World) (n:Nat) (env:Env)
@[reducible] def kKs (pos:Pos) (r:List Keyword) (loc:List (Str×D)) (Q:List D→List AO→Prop) (d:D) (o:List AO):Prop:=EvKs T w n env pos r loc o (kCons d Q)
@[reducible] def kXC (names:List Str) (f:Value) (ds:List D) (Q:D→List AO→Prop) (kds:List D) (o:List AO):Prop:=XC T w n f ds names kds o Q
@[reducible] def kArgs (pos:Pos) (kws:List Keyword) (first:List D) (f:Value) (loc:List (Str×D)) (Q:D→List AO→Prop) (ds:List D) (o:List AO):Prop:=EvKs T w n env pos kws loc o (kXC T w n (kws.filterMap (·.arg)) f (first++ds) Q)
@[reducible] def kCall (pos:Pos) (args:List PySem.Expr) (kws:List Keyword) (loc:List (Str×D)) (Q:D→List AO→Prop) (d:D) (o:List AO):Prop:=match d with | .val f=>EvEs T w n env pos args loc o (kArgs T w n env pos kws [] f loc Q) | _=>False
inductive KMeth (name:Str) (pos:Pos) (args:List PySem.Expr) (kws:List Keyword) (loc:List (Str×D)) (Q:D→List AO→Prop) (d:D) (o:List AO):Prop
 | mk (f:Value) (first:List D) (g:GetM T w n d name f first o) (q:EvEs T w n env pos args loc o (kArgs T w n env pos kws first f loc Q))
end
theorem ks_cons {pos:Pos} {k:Keyword} {r:List Keyword} {Q:List D→List AO→Prop}
  (h:EvE T w n env k.value loc objs (kKs T w n env pos r loc Q)):EvKs T w n env pos (k :: r) loc objs Q:=fun A s K R X F=>by
 obtain ⟨name,value,p⟩:=k
 show wpAny _ _ (evalAll ((do let v ← eval value env;standAt pos;pure v) :: (backToKw pos (keywordEach r env)).map (·.2))) _ _ _
 refine wpAny_evalAll_cons (wpAny_bind (wE (h A s K R X F) fun v s₁ ⟨K₁,d,o₁,p₁,r₁,q₁⟩=>wpAny_bind (wpAny_standAt (wpAny_pure ?_))))
 exact wE (q₁ A s₁ K₁ R p₁.tr (F.post p₁)) fun vs s₂ ⟨K₂,ds,o₂,p₂,r₂,q₂⟩=>⟨K₂,d :: ds,o₂,p₁.trans p₂,.cons (p₂.vr r₁) r₂,q₂⟩
theorem args_plain {pos:Pos} {env:Env}:∀ {es:List PySem.Expr},es.all notStar=true→(backTo pos (starEach es env)).all (!·.1)=true
 | [],_=>rfl
 | e :: r,h=>by
  rw[List.all_cons,Bool.and_eq_true] at h
  rw[starEach_cons h.1]
  show (!false && (backTo pos (starEach r env)).all (!·.1))=true
  rw[args_plain h.2];rfl
theorem kws_names {pos:Pos} {env:Env}:∀ {ks:List Keyword},ks.all (·.arg.isSome)=true→(backToKw pos (keywordEach ks env)).all (·.1.isSome)=true∧(backToKw pos (keywordEach ks env)).filterMap (·.1)=ks.filterMap (·.arg)
 | [],_=>⟨rfl,rfl⟩
 | ⟨a,v,p⟩ :: r,h=>by
  rw[List.all_cons,Bool.and_eq_true] at h
  have ih:=kws_names (pos:=pos) (env:=env) h.2
  refine ⟨?_,?_⟩
  ·show (a.isSome && (backToKw pos (keywordEach r env)).all (·.1.isSome))=true
   rw[ih.1,Bool.and_true];exact h.1
  ·show ((a,_) :: backToKw pos (keywordEach r env)).filterMap (·.1)=_
   rw[List.filterMap_cons,List.filterMap_cons,ih.2]
theorem call_tail {pos cpos:Pos} {f:Value} {first:List D} {args:List PySem.Expr} {kws:List Keyword} (ha:args.all notStar=true) (hk:kws.all (·.arg.isSome)=true)
  {K:Kt} {s:Shared} {fv:List Value} {A:Around} (R:Room T A n) (X:Tr T K objs s) (F:Frm T K env loc s) (r:VRs K s.heap first fv)
  (h:EvEs T w n env pos args loc objs (kArgs T w n env pos kws first f loc Q)) :
  wpAny (model pw w) A (callWith cpos f fv (backTo pos (starEach args env)) (backToKw pos (keywordEach kws env))) (OutE T K s Q) noE s:=by
 have hn:=kws_names (pos:=pos) (env:=env) hk
 refine callWith_gen (args_plain ha) hn.1 (wE (h A s K R X F) fun vs s₁ ⟨K₁,ds,o₁,p₁,r₁,q₁⟩=>wE (q₁ A s₁ K₁ R p₁.tr (F.post p₁)) fun ks s₂ ⟨K₂,kds,o₂,p₂,r₂,q₂⟩=>⟨fun Q' hQ=>q₂.1 A K₂ o₂ s₂ Q' p₂.tr hQ,?_⟩)
 rw[hn.2]
 have app:∀ {a b:List D} {x y:List Value},VRs K₂ s₂.heap a x→VRs K₂ s₂.heap b y→VRs K₂ s₂.heap (a++b) (x++y):=by
  intro a
  induction a with
  | nil=>intro b x y h1 h2;cases h1;exact h2
  | cons d a ih=>intro b x y h1 h2;cases h1 with | cons h3 h4=>exact .cons h3 (ih h4 h2)
 exact wE (q₂.2 A s₂ K₂ _ ks R p₂.tr (app (p₂.vrs (p₁.vrs r)) (p₂.vrs r₁)) r₂) fun _ _ x=>(x.behind p₂).behind p₁
theorem ev_call {id:Str} {p pos:Pos} {args:List PySem.Expr} {kws:List Keyword} (ha:args.all notStar=true) (hk:kws.all (·.arg.isSome)=true)
  (h:EvE T w n env (.Name id p) loc objs (kCall T w n env pos args kws loc Q)) :
  EvE T w n env (.Call (.Name id p) args kws pos) loc objs Q:=fun A s K R X F =>
 wpAny_Call_Name_kw (wE (h A s K R X F) fun fv s₁ ⟨K₁,d,o₁,p₁,r₁,q₁⟩=>by
  cases r₁ <;> try exact q₁.elim
  exact wE (call_tail (first:=[]) ha hk R p₁.tr (F.post p₁) .nil q₁) fun _ _ x=>x.behind p₁)
theorem arm_mcall (o:PySem.Expr) (name:Str) (apos:Pos) (args:List PySem.Expr) (kws:List Keyword) (pos:Pos) (env:Env):eval (.Call (.Attribute o name apos) args kws pos) env=(do
  let ov ← attributeBase o name env (eval o env)
  standAt apos.atName
  methodCall o name apos pos env ov (args.length+kws.length) (backTo pos (starEach args env)) (backToKw pos (keywordEach kws env))):=rfl
theorem ev_mcall {o:PySem.Expr} {name:Str} {apos pos:Pos} {args:List PySem.Expr} {kws:List Keyword} (ha:args.all notStar=true) (hk:kws.all (·.arg.isSome)=true)
  (hb:∀ whole,attributeBase o name env whole=whole) (hfew:Nat.blt (args.length+kws.length+1) 30=true) (hline:(apos.endLine==pos.line)=true)
  (h:EvE T w n env o loc objs (KMeth T w n env name pos args kws loc Q)) :
  EvE T w n env (.Call (.Attribute o name apos) args kws pos) loc objs Q:=fun A s K R X F=>by
 rw[arm_mcall,hb]
 refine wpAny_bind (wE (h A s K R X F) fun ov s₁ ⟨K₁,d,o₁,p₁,r₁,f,first,g,q₁⟩=>wpAny_bind (wpAny_standAt ?_))
 have few:methodCallForm (args.length+kws.length) (backTo pos (starEach args env)) (backToKw pos (keywordEach kws env))=true:=by
  unfold methodCallForm
  rw[args_plain ha,(kws_names (pos:=pos) (env:=env) hk).1,Bool.true_and,Bool.true_and,decide_eq_true_eq]
  have:=Nat.le_of_ble_eq_true hfew
  split <;> lia
 unfold methodCall
 rw[few]
 refine wpAny_bind (wpAny_holding ?_)
 show wpAny _ _ (getMethod ov name _) _ _ _
 refine g A s₁ K₁ ov _ _ R p₁.tr r₁ fun fv rf=>?_
 dsimp only
 have hp:methodCallPos true o env apos pos=pure pos:=by unfold methodCallPos;rw[hline];rfl
 rw[hp]
 refine wpAny_bind (wpAny_pure ?_)
 exact wE (call_tail ha hk R p₁.tr (F.post p₁) rf q₁) fun _ _ x=>x.behind p₁
end
inductive Fl where
 | next | brk | cont
 | ret (d:D)
inductive FlR (K:Kt) (h:Heap):Fl→Flow→Prop
 | next:FlR K h .next .next
 | brk:FlR K h .brk .brk
 | cont:FlR K h .cont .cont
 | ret {d:D} {v:Value} (r:VR K h d v):FlR K h (.ret d) (.ret v)
structure PostL (T:TopT) (W:List Addr) (K:Kt) (s:Shared) (K':Kt) (objs':List AO) (s':Shared):Prop where
 tr:Tr T K' objs' s'
 pres:PreS (W++adrs K) s s'
 grows:Grows s K K'
theorem PreS.wider {W W':List Addr} {s s':Shared} (p:PreS W s s') (h:∀ a∈W,a∈W'):PreS W' s s':=⟨fun b o e hb=>p.kp b o e fun q=>hb (h b q),p.size,p.os,p.gens⟩
theorem Post.toL {T:TopT} {W:List Addr} {K K':Kt} {objs':List AO} {s s':Shared} (p:Post T K s K' objs' s'):PostL T W K s K' objs' s':=⟨p.tr,p.pres.wider fun _ h=>List.mem_append_right _ h,p.grows⟩
theorem PostL.trans {T:TopT} {W:List Addr} {K K' K'':Kt} {objs' objs'':List AO} {s s' s'':Shared} (x:PostL T W K s K' objs' s') (y:PostL T W K' s' K'' objs'' s''):PostL T W K s K'' objs'' s'' :=
 ⟨y.tr,x.pres.trans y.pres fun a h=>by
  rcases List.mem_append.mp h with h | h
  ·exact .inl (List.mem_append_left _ h)
  ·exact (x.grows.fresh a h).imp (List.mem_append_right _) id,x.grows.trans y.grows x.pres.size⟩
theorem Frm.unicy {T:TopT} {K:Kt} {env:Env} {loc:List (Str×D)} {s:Shared} (F:Frm T K env loc s):∀ a∈own env,∀ o,s.heap.get? a=some o→icy o.data=false:=fun a ha o ho=>by
 obtain ⟨o',h1,h2⟩:=F.mute a ha
 rw[ho] at h1;cases h1;exact h2
theorem PostL.still {T:TopT} {W:List Addr} {K K':Kt} {objs':List AO} {s s':Shared} (p:PostL T W K s K' objs' s') (F:∀ a∈W,∀ o,s.heap.get? a=some o→icy o.data=false):Still K s.heap s'.heap:=fun b o e hb hd=>by
 refine p.pres.keep b o e (fun h=>?_) (icy_hard hd)
 rcases List.mem_append.mp h with h | h
 ·rw[F b h o e] at hd;cases hd
 ·exact offs_adrs hb h
theorem PostL.vr {T:TopT} {W:List Addr} {K K':Kt} {objs':List AO} {s s':Shared} {d:D} {v:Value} (p:PostL T W K s K' objs' s') (F:∀ a∈W,∀ o,s.heap.get? a=some o→icy o.data=false) (r:VR K s.heap d v):VR K' s'.heap d v :=
 r.mono0 (p.still F) p.grows
section
variable (T:TopT) (w:World)
inductive OutS (K:Kt) (env:Env) (s:Shared) (Q:Fl→List (Str×D)→List AO→Prop) (fl:Flow) (s':Shared):Prop
 | mk (K':Kt) (f:Fl) (loc':List (Str×D)) (objs':List AO) (p:PostL T (own env) K s K' objs' s') (F:Frm T K' env loc' s') (r:FlR K' s'.heap f fl) (q:Q f loc' objs')
def EvS (n:Nat) (env:Env) (st:Stmt) (loc:List (Str×D)) (objs:List AO) (Q:Fl→List (Str×D)→List AO→Prop):Prop :=
 ∀ (A:Around) (s:Shared) (K:Kt),Room T A n→Tr T K objs s→Frm T K env loc s→wpAny (model pw w) A (exec st env) (OutS T K env s Q) noE s
def EvSs (n:Nat) (env:Env) (sts:List Stmt) (loc:List (Str×D)) (objs:List AO) (Q:Fl→List (Str×D)→List AO→Prop):Prop :=
 ∀ (A:Around) (s:Shared) (K:Kt),Room T A n→Tr T K objs s→Frm T K env loc s→wpAny (model pw w) A (execs sts env) (OutS T K env s Q) noE s
end
section
variable {T:TopT} {w:World} {n:Nat} {env:Env} {loc:List (Str×D)} {objs:List AO} {Q:Fl→List (Str×D)→List AO→Prop}
theorem OutS.behind {K K₁:Kt} {s s₁ s₂:Shared} {objs₁:List AO} {fl:Flow} (p:PostL T (own env) K s K₁ objs₁ s₁) (o:OutS T K₁ env s₁ Q fl s₂):OutS T K env s Q fl s₂:=by
 obtain ⟨K',f,l,ob,p',F,r,q⟩:=o
 exact ⟨K',f,l,ob,p.trans p',F,r,q⟩
theorem EvSs.mono {sts:List Stmt} {Q':Fl→List (Str×D)→List AO→Prop} (h:EvSs T w n env sts loc objs Q) (k:∀ f l o,Q f l o→Q' f l o):EvSs T w n env sts loc objs Q' :=
 fun A s K R X F=>wE (h A s K R X F) fun _ _ ⟨K',f,l,ob,p,F',r,q⟩=>⟨K',f,l,ob,p,F',r,k _ _ _ q⟩
theorem ss_nil (h:Q .next loc objs):EvSs T w n env [] loc objs Q:=fun A s K R X F=>wpAny_execs_nil ⟨K,.next,loc,objs,(Post.refl X).toL,F,.next,h⟩
section
variable (T:TopT) (w:World) (n:Nat) (env:Env)
@[reducible] def kSeq (rest:List Stmt) (Q:Fl→List (Str×D)→List AO→Prop) (f:Fl) (l:List (Str×D)) (o:List AO):Prop:=match f with | .next=>EvSs T w n env rest l o Q | f=>Q f l o
@[reducible] def kIf (x y:List Stmt) (loc:List (Str×D)) (Q:Fl→List (Str×D)→List AO→Prop) (c:Bool) (o:List AO):Prop:=match c with | true=>EvSs T w n env x loc o Q | false=>EvSs T w n env y loc o Q
end
@[reducible] def kAsg (x:Str) (loc:List (Str×D)) (Q:Fl→List (Str×D)→List AO→Prop) (d:D) (o:List AO):Prop:=Q .next ((x,d) :: loc) o
@[reducible] def kExp (loc:List (Str×D)) (Q:Fl→List (Str×D)→List AO→Prop) (_:D) (o:List AO):Prop:=Q .next loc o
@[reducible] def kRet (loc:List (Str×D)) (Q:Fl→List (Str×D)→List AO→Prop) (d:D) (o:List AO):Prop:=Q (.ret d) loc o
@[reducible] def kLoop (N:List (Str×D)→List AO→Prop) (Q:Fl→List (Str×D)→List AO→Prop) (f:Fl) (l:List (Str×D)) (o:List AO):Prop:=match f with
 | .next=>N l o
 | .cont=>N l o
 | .brk=>Q .next l o
 | .ret d=>Q (.ret d) l o
@[reducible] def kBody (Q:D→List AO→Prop) (f:Fl) (_:List (Str×D)) (o:List AO):Prop:=match f with | .ret d=>Q d o | _=>Q .none o
theorem k_if {x y:List Stmt} {c:Bool} {o:List AO} (h1:c=true→EvSs T w n env x loc o Q) (h2:c=false→EvSs T w n env y loc o Q):kIf T w n env x y loc Q c o:=by
 cases c
 ·exact h2 rfl
 ·exact h1 rfl
theorem ss_cons {st:Stmt} {rest:List Stmt} (h:EvS T w n env st loc objs (kSeq T w n env rest Q)):EvSs T w n env (st :: rest) loc objs Q :=
 fun A s K R X F=>wpAny_execs_cons (wE (h A s K R X F) fun fl s₁ ⟨K₁,f,l,o,p,F₁,r,q⟩=>by
  cases r with
  | next=>exact wE (q A s₁ K₁ R p.tr F₁) fun _ _ x=>x.behind p
  | brk=>exact ⟨K₁,_,l,o,p,F₁,.brk,q⟩
  | cont=>exact ⟨K₁,_,l,o,p,F₁,.cont,q⟩
  | ret r=>exact ⟨K₁,_,l,o,p,F₁,.ret r,q⟩)
theorem Tr.same {K:Kt} {s:Shared} {L:Addr} {h':Heap} (X:Tr T K objs s) (hL:L∉adrs K) (hi:T.N≤L) (hd:∃ o,s.heap.get? L=some o∧icy o.data=false) (hs:Heap.SameBut L s.heap h') (t:Nat) (ht:0<t) (hn:OnFs T L→Dk s.heap L→Dk h' L) :
  PostL T [L] K s K objs {s with heap:=h',toks:=t}:=by
 obtain ⟨oL,hoL,hdL⟩:=hd
 have st:Still K s.heap h':=fun b o e hb hnd=>(hs.2 b fun q=>by subst q;rw[hoL] at e;cases e;rw[hdL] at hnd;cases hnd).trans e
 refine ⟨X.map (s':={s with heap:=h',toks:=t}) rfl (.of (s:=s) (s':={s with heap:=h',toks:=t}) st (.refl _ _)) (fun b o e hb=>(hs.2 b fun q=>?_).trans e) (fun a ha=>by show a<h'.objs.size;rw[hs.1];exact X.live a (List.mem_append_right _ ha)) (by show _≤h'.objs.size;rw[hs.1];exact Nat.le_refl _) X.gens ht X.hd fun L' h1 h3=>by
   by_cases q:L'=L
   ·rw[q] at h1 h3 ⊢;exact hn h1 h3
   ·exact h3.dat fun o ho=>⟨o,(hs.2 L' q).trans ho,rfl⟩,
  .of (fun b o e hb=>(hs.2 b fun q=>hb (q▸.head _)).trans e) (by show _≤h'.objs.size;rw[hs.1];exact Nat.le_refl _) rfl id,.refl _ _⟩
 subst q
 rcases hb with hb | hb
 ·exact hL hb
 ·exact absurd hb (Nat.not_lt.mpr hi)
theorem PostL.wider {W W':List Addr} {K K':Kt} {objs':List AO} {s s':Shared} (p:PostL T W K s K' objs' s') (h:∀ a∈W,a∈W'):PostL T W' K s K' objs' s' :=
 ⟨p.tr,p.pres.wider fun a ha=>(List.mem_append.mp ha).elim (fun q=>List.mem_append_left _ (h a q)) (List.mem_append_right _),p.grows⟩
theorem lk_cons {x y:Str} {d:D} {l:List (Str×D)}:lk ((x,d) :: l) y=if y=x then some d else lk l y:=by
 show (match Fast.sEq x y with | true=>some d | false=>lk l y)=_
 cases h:Fast.sEq x y with
 | true=>rw[if_pos (Fast.sEq_iff.mp h).symm]
 | false=>rw[if_neg fun e=>by rw[Fast.sEq_iff.mpr e.symm] at h;cases h]
theorem lk_mem {y:Str} {d:D}:∀ {l:List (Str×D)},lk l y=some d→∃ p∈l,p.1=y
 | (x,d') :: l,h=>by
  rw[lk_cons] at h
  by_cases e:y=x
  ·exact ⟨_,.head _,e.symm⟩
  ·rw[if_neg e] at h
   obtain ⟨p,hp,q⟩:=lk_mem h
   exact ⟨p,.tail _ hp,q⟩
theorem store_rule {A:Around} {K:Kt} {s:Shared} {x:Str} {d:D} {v:Value} (X:Tr T K objs s) (F:Frm T K env loc s) (r:VR K s.heap d v) (hl:env.scope.names.lookup x=some .local) :
  wpAny (model pw w) A (storeName env x v) (fun _ s'=>PostL T [env.locals] K s K objs s'∧Frm T K env ((x,d) :: loc) s') noE s:=by
 obtain ⟨m,hm,h1⟩:=F.ns
 refine wpAny_storeName_local hl hm (fun h' hn hs=>?_) (by rw[F.kind];rfl)
 obtain ⟨oL,es,ep,hoL,hdL,_⟩:=hm
 have hic:icy oL.data=false:=by rw[hdL];rfl
 have P:=X.same (F.out _ (.head _)) (F.hi _ (.head _)) ⟨oL,hoL,hic⟩ hs (s.toks+1) (Nat.succ_pos _) fun _ _=>Dk.ns hn
 have un:∀ a∈[env.locals],∀ o,s.heap.get? a=some o→icy o.data=false:=fun a ha o ho=>by
  rw[List.mem_singleton.mp ha,hoL] at ho;cases ho;exact hic
 have kc:∀ {y c v},env.cells.lookup y=some c→s.heap.IsCell c v→h'.IsCell c v:=fun hy hc=>hc.sameBut hs (F.apart' _ _ hy)
 refine ⟨P,F.kind,F.glob,F.bi,F.out,F.hi,F.apart,F.apart',fun a ha=>Nat.lt_of_lt_of_le (F.live a ha) P.pres.size,fun a ha=>?_,fun y hy=>?_,F.fr,_,hn,fun y d' hd=>⟨fun hk=>?_,fun hk=>?_⟩⟩
 ·by_cases e:a=env.locals
  ·subst e
   obtain ⟨o',es',ep',h1,h2,_⟩:=hn
   exact ⟨o',h1,by rw[h2];rfl⟩
  ·obtain ⟨o',h1,h2⟩:=F.mute a ha
   exact ⟨o',(hs.2 a e).trans h1,h2⟩
 ·obtain ⟨c,v,q1,q2⟩:=F.cel y hy
  exact ⟨c,v,q1,kc q1 q2⟩
 ·rw[lk_cons] at hd
  by_cases e:y=x
  ·rw[if_pos e] at hd
   cases hd
   exact ⟨v,if_pos e,P.vr un r⟩
  ·rw[if_neg e] at hd
   obtain ⟨u,q1,q2⟩:=(h1 y d' hd).1 hk
   exact ⟨u,(if_neg e).trans q1,P.vr un q2⟩
 ·have e:y≠x:=fun e=>by subst e;rw[hl] at hk;rcases hk with q | q <;> cases q
  rw[lk_cons,if_neg e] at hd
  obtain ⟨c,u,q1,q2,q3⟩:=(h1 y d' hd).2 hk
  exact ⟨c,u,q1,kc q1 q2,P.vr un q3⟩
theorem store_cell {A:Around} {K:Kt} {s:Shared} {x:Str} {d:D} {v:Value} (X:Tr T K objs s) (F:Frm T K env loc s) (r:VR K s.heap d v) (hl:env.scope.names.lookup x=some .cell) :
  wpAny (model pw w) A (storeName env x v) (fun _ s'=>PostL T (own env) K s K objs s'∧Frm T K env ((x,d) :: loc) s') noE s:=by
 obtain ⟨m,hm,h1⟩:=F.ns
 obtain ⟨c,v₀,hc,hv⟩:=F.cel x hl
 refine wpAny_storeName_cell F.kind hl hc hv (fun h' hn hs=>?_)
 obtain ⟨oL,hoL,hdL⟩:=hv
 have hic:icy oL.data=false:=by rw[hdL];rfl
 have P:=X.same (F.out _ (own_cell hc)) (F.hi _ (own_cell hc)) ⟨oL,hoL,hic⟩ hs s.toks X.toks fun _ q=>by obtain ⟨o,es,n,q1,q2⟩:=q;rw[hoL] at q1;cases q1;rw[hdL] at q2;cases q2
 have un:∀ a∈[c],∀ o,s.heap.get? a=some o→icy o.data=false:=fun a ha o ho=>by
  rw[List.mem_singleton.mp ha,hoL] at ho;cases ho;exact hic
 have kc:∀ {y c' v},y≠x→env.cells.lookup y=some c'→s.heap.IsCell c' v→h'.IsCell c' v:=fun hne hy hc'=>hc'.sameBut hs fun e=>hne (by
  subst e;exact name_of_addr F.apart (mem_of_lookup hy) (mem_of_lookup hc))
 have hm':h'.Ns env.locals m:=hm.sameBut hs (F.apart' _ _ hc).symm
 refine ⟨P.wider fun a ha=>by rw[List.mem_singleton.mp ha];exact own_cell hc,F.kind,F.glob,F.bi,F.out,F.hi,F.apart,F.apart',fun a ha=>Nat.lt_of_lt_of_le (F.live a ha) P.pres.size,fun a ha=>?_,fun y hy=>?_,F.fr,_,hm',fun y d' hd=>⟨fun hk=>?_,fun hk=>?_⟩⟩
 ·by_cases e:a=c
  ·subst e
   obtain ⟨o',h1,h2⟩:=hn
   exact ⟨o',h1,by rw[h2];rfl⟩
  ·obtain ⟨o',h1,h2⟩:=F.mute a ha
   exact ⟨o',(hs.2 a e).trans h1,h2⟩
 ·by_cases e:y=x
  ·subst e;exact ⟨c,_,hc,hn⟩
  ·obtain ⟨c',v,q1,q2⟩:=F.cel y hy
   exact ⟨c',v,q1,kc e q1 q2⟩
 ·have e:y≠x:=fun e=>by subst e;rw[hl] at hk;cases hk
  rw[lk_cons,if_neg e] at hd
  obtain ⟨u,q1,q2⟩:=(h1 y d' hd).1 hk
  exact ⟨u,q1,P.vr un q2⟩
 ·rw[lk_cons] at hd
  by_cases e:y=x
  ·rw[if_pos e] at hd;cases hd
   subst e
   exact ⟨c,v,hc,hn,P.vr un r⟩
  ·rw[if_neg e] at hd
   obtain ⟨c',u,q1,q2,q3⟩:=(h1 y d' hd).2 hk
   exact ⟨c',u,q1,kc e q1 q2,P.vr un q3⟩
theorem store_any {A:Around} {K:Kt} {s:Shared} {x:Str} {d:D} {v:Value} (X:Tr T K objs s) (F:Frm T K env loc s) (r:VR K s.heap d v) (hl:env.scope.names.lookup x=some .local∨env.scope.names.lookup x=some .cell) :
  wpAny (model pw w) A (storeName env x v) (fun _ s'=>PostL T (own env) K s K objs s'∧Frm T K env ((x,d) :: loc) s') noE s:=by
 rcases hl with hl | hl
 ·exact wE (store_rule X F r hl) fun _ _ ⟨P,F'⟩=>⟨P.wider fun a ha=>by rw[List.mem_singleton.mp ha];exact .head _,F'⟩
 ·exact store_cell X F r hl
theorem s_assign {x:Str} {p' pos:Pos} {e:PySem.Expr} (hl:env.scope.names.lookup x=some .local∨env.scope.names.lookup x=some .cell) (hs:swapsWith e (some (.Name x p')) pos.line env=pure false)
  (h:EvE T w n env e loc objs (kAsg x loc Q)):EvS T w n env (.Assign [.Name x p'] e pos) loc objs Q:=fun A s K R X F =>
 wpAny_Assign_Name (wE (h A s K R X F) fun v s₁ ⟨K₁,d,o₁,p₁,r₁,q₁⟩=>wE (store_any p₁.tr (F.post p₁) r₁ hl) fun _ s₂ ⟨P,F₂⟩=>⟨K₁,.next,_,o₁,p₁.toL.trans P,F₂,.next,q₁⟩) hs
noncomputable def isLC (env:Env) (x:Str):Bool:=match env.scope.names.lookup x with | some .local=>true | some .cell=>true | _=>false
theorem isLC_or {x:Str} (hb:isLC env x=true):env.scope.names.lookup x=some .local∨env.scope.names.lookup x=some .cell:=by
 unfold isLC at hb
 split at hb
 ·exact .inl (by assumption)
 ·exact .inr (by assumption)
 ·cases hb
theorem s_asg {x:Str} {p' pos:Pos} {e:PySem.Expr} (hb:isLC env x=true) (hs:swapsWith e (some (.Name x p')) pos.line env=pure false)
  (h:EvE T w n env e loc objs (kAsg x loc Q)):EvS T w n env (.Assign [.Name x p'] e pos) loc objs Q:=s_assign (isLC_or hb) hs h
theorem s_expr {e:PySem.Expr} {pos:Pos} (hi:interactive env=false) (hs:swapsWith e none pos.line env=pure false) (h:EvE T w n env e loc objs (kExp loc Q)):EvS T w n env (.Expr e pos) loc objs Q:=fun A s K R X F =>
 wpAny_Expr_any (wE (h A s K R X F) fun v s₁ ⟨K₁,d,o₁,p₁,r₁,q₁⟩=>⟨K₁,.next,loc,o₁,p₁.toL,F.post p₁,.next,q₁⟩) hi hs
theorem s_if {t:PySem.Expr} {b o:List Stmt} {pos:Pos} (h:EvB T w n env t loc objs (kIf T w n env b o loc Q)):EvS T w n env (.If t b o pos) loc objs Q:=fun A s K R X F =>
 wpAny_If (wE (h A s K R X F) fun c s₁ ⟨K₁,o₁,p₁,q₁⟩=>by
  cases c with
  | true=>exact wE (q₁ A s₁ K₁ R p₁.tr (F.post p₁)) fun _ _ x=>x.behind p₁.toL
  | false=>exact wE (q₁ A s₁ K₁ R p₁.tr (F.post p₁)) fun _ _ x=>x.behind p₁.toL)
theorem s_return {e:PySem.Expr} {pos:Pos} (h:EvE T w n env e loc objs (kRet loc Q)):EvS T w n env (.Return (some e) pos) loc objs Q:=fun A s K R X F =>
 wpAny_Return_some (wE (h A s K R X F) fun v s₁ ⟨K₁,d,o₁,p₁,r₁,q₁⟩=>⟨K₁,_,loc,o₁,p₁.toL,F.post p₁,.ret r₁,q₁⟩)
theorem s_break {pos:Pos} (h:Q .brk loc objs):EvS T w n env (.Break pos) loc objs Q:=fun A s K R X F=>wpAny_Break ⟨K,_,loc,objs,(Post.refl X).toL,F,.brk,h⟩
theorem s_continue {pos:Pos} (h:Q .cont loc objs):EvS T w n env (.Continue pos) loc objs Q:=fun A s K R X F=>wpAny_Continue ⟨K,_,loc,objs,(Post.refl X).toL,F,.cont,h⟩
inductive BindR (K:Kt) (h:Heap):List (Str×Value)→List (Str×D)→Prop
 | nil:BindR K h [] []
 | cons {x:Str} {v:Value} {d:D} {b:List (Str×Value)} {l:List (Str×D)} (r:VR K h d v) (t:BindR K h b l):BindR K h ((x,v) :: b) ((x,d) :: l)
theorem lookup_rev {α:Type}:∀ {b:List (Str×α)},(b.map (·.1)).Nodup→∀ x,b.reverse.lookup x=b.lookup x
 | [],_,_=>rfl
 | (y,v) :: b,hn,x=>by
  rw[List.map_cons,List.nodup_cons] at hn
  rw[List.reverse_cons,List.lookup_append,lookup_rev hn.2 x,List.lookup_cons]
  by_cases e:x=y
  ·subst e
   have:b.lookup x=none:=by
    rw[List.lookup_eq_none_iff]
    intro p hp
    have:p.1≠x:=fun q=>hn.1 (by have z:=List.mem_map_of_mem (f:=(·.1)) hp;rw[← q];exact z)
    exact bne_iff_ne.mpr (Ne.symm this)
   rw[this];simp
  ·have:(x==y)=false:=beq_eq_false_iff_ne.mpr e
   simp only [this,List.lookup_cons,List.lookup_nil]
   cases b.lookup x <;> rfl
theorem BindR.lk {K:Kt} {h:Heap} {b:List (Str×Value)} {l:List (Str×D)} (x:BindR K h b l):(∀ y d,lk l y=some d→∃ v,b.lookup y=some v∧VR K h d v)∧∀ y,lk l y=none→b.lookup y=none:=by
 induction x with
 | nil=>exact ⟨fun y d hd=>(by cases hd),fun _ _=>rfl⟩
 | cons r t ih =>
  rename_i x v d b l
  refine ⟨fun y d' hd=>?_,fun y hy=>?_⟩
  ·rw[lk_cons] at hd
   rw[List.lookup_cons]
   by_cases e:y=x
   ·rw[if_pos e] at hd;cases hd
    have:(y==x)=true:=beq_iff_eq.mpr e
    rw[this];exact ⟨v,rfl,r⟩
   ·rw[if_neg e] at hd
    have:(y==x)=false:=beq_eq_false_iff_ne.mpr e
    rw[this];exact ih.1 y d' hd
  ·rw[lk_cons] at hy
   rw[List.lookup_cons]
   by_cases e:y=x
   ·rw[if_pos e] at hy;cases hy
   ·rw[if_neg e] at hy
    have:(y==x)=false:=beq_eq_false_iff_ne.mpr e
    rw[this];exact ih.2 y hy
theorem BindR.names {K:Kt} {h:Heap} {b:List (Str×Value)} {l:List (Str×D)} (x:BindR K h b l):b.map (·.1)=l.map (·.1):=by
 induction x with
 | nil=>rfl
 | cons r t ih=>rw[List.map_cons,List.map_cons,ih]
theorem BindR.mono {K K':Kt} {s s':Shared} {b:List (Str×Value)} {l:List (Str×D)} (x:BindR K s.heap b l) (p:Still K s.heap s'.heap) (g:Grows s K K'):BindR K' s'.heap b l:=by
 induction x with
 | nil=>exact .nil
 | cons r t ih=>exact .cons (r.mono0 p g) ih
def Binds (T:TopT) (fd:FuncData) (ds:List D) (names:List Str) (kds:List D) (objs:List AO) (loc:List (Str×D)):Prop :=
 ∀ (K:Kt) (s:Shared) (vs ks:List Value),Tr T K objs s→VRs K s.heap ds vs→VRs K s.heap kds ks→∃ binds,BindsTo s fd ⟨vs,names.zip ks⟩ binds∧BindR K s.heap binds loc
structure DefOK (T:TopT) (a:Addr) (fd:FuncData) (body:List Stmt):Prop where
 at_:∃ o,(a,o)∈T.objs∧o.data=.func fd
 code:∀ h,TopOK T h→h.CodeRec fd.code fd.qualname
 body:fd.body=.stmts body
 co:fd.scope.isCoroutine=false
 gen:fd.scope.isGenerator=false
 kind:fd.scope.kind=.function
 cell:∀ x∈fd.scope.names,x.2≠.cell
 glob:fd.globals=mainGlobals
 bi:fd.builtins=builtinsNs
 clo:fd.closure=[]
noncomputable def locOk (names:List (Str×NameKind)):List (Str×D)→Bool
 | []=>true
 | p :: r=>(match names.lookup p.1 with | some .local=>true | _=>false) && !(r.any fun q=>Fast.sEq p.1 q.1) && locOk names r
theorem locOk_ok {names:List (Str×NameKind)}:∀ {l:List (Str×D)},locOk names l=true→(l.map (·.1)).Nodup∧∀ x∈l,names.lookup x.1=some .local
 | [],_=>⟨List.nodup_nil,fun _ h=>by cases h⟩
 | p :: r,h=>by
  unfold locOk at h
  rw[Bool.and_eq_true,Bool.and_eq_true] at h
  obtain ⟨⟨h1,h2⟩,h3⟩:=h
  obtain ⟨i1,i2⟩:=locOk_ok h3
  refine ⟨List.nodup_cons.mpr ⟨fun hm=>?_,i1⟩,fun x hx=>?_⟩
  ·obtain ⟨q,hq,e⟩:=List.mem_map.mp hm
   have:(r.any fun q=>Fast.sEq p.1 q.1)=true:=List.any_eq_true.mpr ⟨q,hq,Fast.sEq_iff.mpr e.symm⟩
   rw[this] at h2;cases h2
  ·rcases List.mem_cons.mp hx with rfl | hx
   ·split at h1
    ·assumption
    ·cases h1
   ·exact i2 x hx
def OutR (T:TopT) (K:Kt) (s:Shared) (Q:D→List AO→Prop) (r:Result) (s':Shared):Prop:=match r with
 | .ok (.ret v)=>OutE T K s Q v s'
 | .ok _=>False
 | .error e=>noE e s'
def XCode (T:TopT) (w:World) (n:Nat) (f:Value) (ds:List D) (names:List Str) (kds:List D) (objs:List AO) (Q:D→List AO→Prop):Prop :=
 ∀ (A:Around) (s:Shared) (K:Kt) (vs ks:List Value),Room T A n→Tr T K objs s→VRs K s.heap ds vs→VRs K s.heap kds ks→codeAny (model pw w) A (.call f ⟨vs,names.zip ks⟩) (OutR T K s Q) s
theorem XCode.call {f:Value} {ds:List D} {names:List Str} {kds:List D} {Q:D→List AO→Prop} (x:XCode T w n f ds names kds objs Q):XCall T w n f ds names kds objs Q:=fun A s K vs ks R X r rk =>
 wpAny_call (codeAny_mono (x A s K vs ks R X r rk) fun r s' z=>by rcases r with e | (v | _ | _ | _) <;> exact z)
theorem Tr.inn {K:Kt} {s:Shared} (e₀:Env) (X:Tr T K objs s) (h:e₀.scope.kind≠.module∧∃ L,e₀.frame=some L∧Dk s.heap L∧L∉adrs K∧T.N≤L):Tr (T.withFs (e₀ :: T.fs)) K objs s :=
 ⟨⟨X.well.pj,X.well.low,X.well.pjlow,X.well.N,X.well.objs⟩,⟨X.top.nolimit,X.top.ns,X.top.objs,X.top.size⟩,X.len,X.nd,X.low,X.live,X.ob,X.gens,X.toks,X.hd,fun e he=>by
  rcases List.mem_cons.mp he with rfl | he
  ·exact h
  ·exact X.fs e he⟩
theorem Tr.off {K:Kt} {s:Shared} {e₀:Env} (X:Tr (T.withFs (e₀ :: T.fs)) K objs s):Tr T K objs s :=
 ⟨⟨X.well.pj,X.well.low,X.well.pjlow,X.well.N,X.well.objs⟩,⟨X.top.nolimit,X.top.ns,X.top.objs,X.top.size⟩,X.len,X.nd,X.low,X.live,X.ob,X.gens,X.toks,X.hd,fun e he=>X.fs e (.tail _ he)⟩
structure DefOKC (T:TopT) (a:Addr) (fd:FuncData) (body:List Stmt):Prop where
 at_:∃ o,(a,o)∈T.objs∧o.data=.func fd
 code:∀ h,TopOK T h→h.CodeRec fd.code fd.qualname
 body:fd.body=.stmts body
 co:fd.scope.isCoroutine=false
 gen:fd.scope.isGenerator=false
 kind:fd.scope.kind=.function
 nd:(fd.scope.names.map (·.1)).Nodup
 glob:fd.globals=mainGlobals
 bi:fd.builtins=builtinsNs
 clo:fd.closure=[]
theorem cells_has (x:Str):∀ {names:List (Str×NameKind)} {k:Nat} {acc:List (Str×Addr)},((acc.lookup x).isSome=true∨names.lookup x=some .cell)→∃ c,(cellsFrom k names acc).lookup x=some c
 | [],k,acc,h=>by
  rcases h with h | h
  ·exact Option.isSome_iff_exists.mp h
  ·cases h
 | (y,kd) :: r,k,acc,h=>by
  unfold cellsFrom
  rw[List.lookup_cons] at h
  split
  ·refine cells_has x ?_
   by_cases e:(x==y)=true
   ·left;rw[List.lookup_cons,e];rfl
   ·have e:(x==y)=false:=by simpa using e
    rw[e] at h
    rcases h with h | h
    ·left;rw[List.lookup_cons,e];exact h
    ·exact .inr h
  ·rename_i hk
   refine cells_has x ?_
   by_cases e:(x==y)=true
   ·rw[e] at h
    rcases h with h | h
    ·exact .inl h
    ·exfalso;apply hk;cases h;rfl
   ·have e:(x==y)=false:=by simpa using e
    rw[e] at h;exact h
theorem bindL_all {kd:Str→Option NameKind}:∀ {b:List (Str×Value)} {m:Str→Option Value} {x:Str},(∀ p∈b,kd p.1=some .local)→bindL kd b m x=(b.reverse.lookup x).or (m x)
 | [],_,_,_=>rfl
 | (y,v) :: b,m,x,h=>by
  rw[bindL,if_pos (h _ (.head _)),bindL_all fun p hp=>h p (.tail _ hp),List.reverse_cons,List.lookup_append]
  cases b.reverse.lookup x with
  | some u=>rfl
  | none =>
   by_cases e:x=y
   ·subst e;simp
   ·have:(x==y)=false:=by simpa using e
    simp [List.lookup_cons,this,e]
theorem cells_nodup:∀ {names:List (Str×NameKind)} {k:Nat} {acc:List (Str×Addr)},(names.map (·.1)++acc.map (·.1)).Nodup→((cellsFrom k names acc).map (·.1)).Nodup
 | [],k,acc,h=>by simpa [cellsFrom] using h
 | (y,kd) :: r,k,acc,h=>by
  unfold cellsFrom
  rw[List.map_cons,List.cons_append] at h
  split
  ·refine cells_nodup ?_
   rw[List.map_cons]
   exact (List.Perm.nodup_iff (List.perm_middle)).mpr h
  ·exact cells_nodup (List.nodup_cons.mp h).2
theorem lookup_mem_nodup {α:Type}:∀ {l:List (Str×α)} {x:Str} {c:α},(l.map (·.1)).Nodup→(x,c)∈l→l.lookup x=some c
 | (y,d) :: l,x,c,h,hm=>by
  rw[List.map_cons,List.nodup_cons] at h
  rcases List.mem_cons.mp hm with e | hm
  ·cases e;simp
  ·have hne:(x==y)=false:=beq_eq_false_iff_ne.mpr fun e=>h.1 (by rw[← e];exact List.mem_map_of_mem (f:=(·.1)) hm)
   rw[List.lookup_cons,hne]
   exact lookup_mem_nodup h.2 hm
end
noncomputable def en (P:Params) (x:Str) (t:Tok) (v:Value):DictEntry:=⟨PyData.keyHash P x,.str x t,v⟩
noncomputable def noS:Stmt:=.Pass ⟨0,0,0,0⟩
noncomputable def st (i:Nat):Stmt:=pw.main.body.getD i noS
noncomputable def clsB:Stmt→List Stmt
 | .ClassDef _ _ _ b _ _ _ _ _ _ _=>b
 | _=>[]
noncomputable def sc (i j:Nat):Stmt:=(clsB (st i)).getD j noS
noncomputable def fnP:Stmt→Arguments
 | .FunctionDef _ a _ _ _ _ _ _ _ _=>a
 | _=>default
noncomputable def fnB:Stmt→List Stmt
 | .FunctionDef _ _ b _ _ _ _ _ _ _=>b
 | _=>[]
noncomputable def fnS:Stmt→Scope
 | .FunctionDef _ _ _ _ _ _ s _ _ _=>s
 | _=>default
noncomputable def fd_117:FuncData:={name := "fspath",qualname := "fspath",params:=fnP (st 12),body:=.stmts (fnB (st 12)),scope:=fnS (st 12),globals:=3,closure:=[],defaults:=.none,kwdefaults:=.none,doc:=.none,pyModule:=.str "os" 420,annotations:=none,code:=.ref 116,closureTuple:=.none,builtins:=0}
noncomputable def fd_131:FuncData:={name := "_get_sep",qualname := "_get_sep",params:=fnP (st 17),body:=.stmts (fnB (st 17)),scope:=fnS (st 17),globals:=3,closure:=[],defaults:=.none,kwdefaults:=.none,doc:=.none,pyModule:=.str "cpy313.posixpath" 446,annotations:=none,code:=.ref 130,closureTuple:=.none,builtins:=0}
noncomputable def fd_138:FuncData:={name := "splitroot",qualname := "splitroot",params:=fnP (st 18),body:=.stmts (fnB (st 18)),scope:=fnS (st 18),globals:=3,closure:=[],defaults:=.none,kwdefaults:=.none,doc:=.none,pyModule:=.str "cpy313.posixpath" 446,annotations:=none,code:=.ref 137,closureTuple:=.none,builtins:=0}
noncomputable def fd_145:FuncData:={name := "dirname",qualname := "dirname",params:=fnP (st 19),body:=.stmts (fnB (st 19)),scope:=fnS (st 19),globals:=3,closure:=[],defaults:=.none,kwdefaults:=.none,doc:=.none,pyModule:=.str "cpy313.posixpath" 446,annotations:=none,code:=.ref 144,closureTuple:=.none,builtins:=0}
noncomputable def fd_152:FuncData:={name := "normpath",qualname := "normpath",params:=fnP (st 21),body:=.stmts (fnB (st 21)),scope:=fnS (st 21),globals:=3,closure:=[],defaults:=.none,kwdefaults:=.none,doc:=.none,pyModule:=.str "cpy313.posixpath" 446,annotations:=none,code:=.ref 151,closureTuple:=.none,builtins:=0}
noncomputable def fd_157:FuncData:={name := "commonpath",qualname := "commonpath",params:=fnP (st 23),body:=.stmts (fnB (st 23)),scope:=fnS (st 23),globals:=3,closure:=[],defaults:=.none,kwdefaults:=.none,doc:=.none,pyModule:=.str "cpy313.posixpath" 446,annotations:=none,code:=.ref 156,closureTuple:=.none,builtins:=0}
noncomputable def fd_176:FuncData:={name := "_index",qualname := "_index",params:=fnP (st 27),body:=.stmts (fnB (st 27)),scope:=fnS (st 27),globals:=3,closure:=[],defaults:=.none,kwdefaults:=.none,doc:=.none,pyModule:=.str "io" 537,annotations:=none,code:=.ref 175,closureTuple:=.none,builtins:=0}
noncomputable def fd_203:FuncData:={name := "__new__",qualname := "IOBase.__new__",params:=fnP (sc 29 1),body:=.stmts (fnB (sc 29 1)),scope:=fnS (sc 29 1),globals:=3,closure:=[],defaults:=.none,kwdefaults:=.none,doc:=.none,pyModule:=.str "io" 537,annotations:=none,code:=.ref 202,closureTuple:=.none,builtins:=0}
noncomputable def fd_480:FuncData:={name := "__init__",qualname := "StringIO.__init__",params:=fnP (sc 33 1),body:=.stmts (fnB (sc 33 1)),scope:=fnS (sc 33 1),globals:=3,closure:=[],defaults:=.ref 473,kwdefaults:=.none,doc:=.none,pyModule:=.str "io" 537,annotations:=none,code:=.ref 479,closureTuple:=.none,builtins:=0}
noncomputable def fd_487:FuncData:={name := "__translated",qualname := "StringIO.__translated",params:=fnP (sc 33 2),body:=.stmts (fnB (sc 33 2)),scope:=fnS (sc 33 2),globals:=3,closure:=[],defaults:=.none,kwdefaults:=.none,doc:=.none,pyModule:=.str "io" 537,annotations:=none,code:=.ref 486,closureTuple:=.none,builtins:=0}
noncomputable def fd_494:FuncData:={name := "__check",qualname := "StringIO.__check",params:=fnP (sc 33 3),body:=.stmts (fnB (sc 33 3)),scope:=fnS (sc 33 3),globals:=3,closure:=[],defaults:=.none,kwdefaults:=.none,doc:=.none,pyModule:=.str "io" 537,annotations:=none,code:=.ref 493,closureTuple:=.none,builtins:=0}
noncomputable def fd_656:FuncData:={name := "read",qualname := "StringIO.read",params:=fnP (sc 33 25),body:=.stmts (fnB (sc 33 25)),scope:=fnS (sc 33 25),globals:=3,closure:=[],defaults:=.ref 649,kwdefaults:=.none,doc:=.none,pyModule:=.str "io" 537,annotations:=none,code:=.ref 655,closureTuple:=.none,builtins:=0}
noncomputable def fd_719:FuncData:={name := "_kind",qualname := "_kind",params:=fnP (st 35),body:=.stmts (fnB (st 35)),scope:=fnS (st 35),globals:=3,closure:=[],defaults:=.none,kwdefaults:=.none,doc:=.none,pyModule:=.str "os.path" 1194,annotations:=none,code:=.ref 718,closureTuple:=.none,builtins:=0}
noncomputable def fd_726:FuncData:={name := "_fspath",qualname := "_fspath",params:=fnP (st 36),body:=.stmts (fnB (st 36)),scope:=fnS (st 36),globals:=3,closure:=[],defaults:=.none,kwdefaults:=.none,doc:=.none,pyModule:=.str "os.path" 1194,annotations:=none,code:=.ref 725,closureTuple:=.none,builtins:=0}
noncomputable def fd_754:FuncData:={name := "splitext",qualname := "splitext",params:=fnP (st 42),body:=.stmts (fnB (st 42)),scope:=fnS (st 42),globals:=3,closure:=[],defaults:=.none,kwdefaults:=.none,doc:=.none,pyModule:=.str "os.path" 1194,annotations:=none,code:=.ref 753,closureTuple:=.none,builtins:=0}
noncomputable def fd_761:FuncData:={name := "_c_path",qualname := "_c_path",params:=fnP (st 43),body:=.stmts (fnB (st 43)),scope:=fnS (st 43),globals:=3,closure:=[],defaults:=.none,kwdefaults:=.none,doc:=.none,pyModule:=.str "os.path" 1194,annotations:=none,code:=.ref 760,closureTuple:=.none,builtins:=0}
noncomputable def fd_768:FuncData:={name := "_shelf_fresh",qualname := "_shelf_fresh",params:=fnP (st 44),body:=.stmts (fnB (st 44)),scope:=fnS (st 44),globals:=3,closure:=[],defaults:=.none,kwdefaults:=.none,doc:=.none,pyModule:=.str "os.path" 1194,annotations:=none,code:=.ref 767,closureTuple:=.none,builtins:=0}
noncomputable def fd_775:FuncData:={name := "_splitroot",qualname := "_splitroot",params:=fnP (st 45),body:=.stmts (fnB (st 45)),scope:=fnS (st 45),globals:=3,closure:=[],defaults:=.none,kwdefaults:=.none,doc:=.none,pyModule:=.str "os.path" 1194,annotations:=none,code:=.ref 774,closureTuple:=.none,builtins:=0}
noncomputable def fd_782:FuncData:={name := "basename",qualname := "basename",params:=fnP (st 46),body:=.stmts (fnB (st 46)),scope:=fnS (st 46),globals:=3,closure:=[],defaults:=.none,kwdefaults:=.none,doc:=.none,pyModule:=.str "os.path" 1194,annotations:=none,code:=.ref 781,closureTuple:=.none,builtins:=0}
noncomputable def fd_796:FuncData:={name := "_normpath",qualname := "_normpath",params:=fnP (st 49),body:=.stmts (fnB (st 49)),scope:=fnS (st 49),globals:=3,closure:=[],defaults:=.none,kwdefaults:=.none,doc:=.none,pyModule:=.str "os.path" 1194,annotations:=none,code:=.ref 795,closureTuple:=.none,builtins:=0}
noncomputable def fd_803:FuncData:={name := "normpath",qualname := "normpath",params:=fnP (st 50),body:=.stmts (fnB (st 50)),scope:=fnS (st 50),globals:=3,closure:=[],defaults:=.none,kwdefaults:=.none,doc:=.none,pyModule:=.str "os.path" 1194,annotations:=none,code:=.ref 802,closureTuple:=.none,builtins:=0}
noncomputable def fd_818:FuncData:={name := "__init__",qualname := "shlex.__init__",params:=fnP (sc 53 0),body:=.stmts (fnB (sc 53 0)),scope:=fnS (sc 53 0),globals:=3,closure:=[],defaults:=.ref 811,kwdefaults:=.none,doc:=.none,pyModule:=.str "cpy313.shlex" 1328,annotations:=none,code:=.ref 817,closureTuple:=.none,builtins:=0}
noncomputable def fd_825:FuncData:={name := "punctuation_chars",qualname := "shlex.punctuation_chars",params:=fnP (sc 53 1),body:=.stmts (fnB (sc 53 1)),scope:=fnS (sc 53 1),globals:=3,closure:=[],defaults:=.none,kwdefaults:=.none,doc:=.none,pyModule:=.str "cpy313.shlex" 1328,annotations:=none,code:=.ref 824,closureTuple:=.none,builtins:=0}
noncomputable def fd_855:FuncData:={name := "get_token",qualname := "shlex.get_token",params:=fnP (sc 53 5),body:=.stmts (fnB (sc 53 5)),scope:=fnS (sc 53 5),globals:=3,closure:=[],defaults:=.none,kwdefaults:=.none,doc:=.none,pyModule:=.str "cpy313.shlex" 1328,annotations:=none,code:=.ref 854,closureTuple:=.none,builtins:=0}
noncomputable def fd_862:FuncData:={name := "read_token",qualname := "shlex.read_token",params:=fnP (sc 53 6),body:=.stmts (fnB (sc 53 6)),scope:=fnS (sc 53 6),globals:=3,closure:=[],defaults:=.none,kwdefaults:=.none,doc:=.none,pyModule:=.str "cpy313.shlex" 1328,annotations:=none,code:=.ref 861,closureTuple:=.none,builtins:=0}
noncomputable def fd_884:FuncData:={name := "__iter__",qualname := "shlex.__iter__",params:=fnP (sc 53 9),body:=.stmts (fnB (sc 53 9)),scope:=fnS (sc 53 9),globals:=3,closure:=[],defaults:=.none,kwdefaults:=.none,doc:=.none,pyModule:=.str "cpy313.shlex" 1328,annotations:=none,code:=.ref 883,closureTuple:=.none,builtins:=0}
noncomputable def fd_891:FuncData:={name := "__next__",qualname := "shlex.__next__",params:=fnP (sc 53 10),body:=.stmts (fnB (sc 53 10)),scope:=fnS (sc 53 10),globals:=3,closure:=[],defaults:=.none,kwdefaults:=.none,doc:=.none,pyModule:=.str "cpy313.shlex" 1328,annotations:=none,code:=.ref 890,closureTuple:=.none,builtins:=0}
noncomputable def fd_906:FuncData:={name := "split",qualname := "split",params:=fnP (st 54),body:=.stmts (fnB (st 54)),scope:=fnS (st 54),globals:=3,closure:=[],defaults:=.ref 899,kwdefaults:=.none,doc:=.none,pyModule:=.str "cpy313.shlex" 1328,annotations:=none,code:=.ref 905,closureTuple:=.none,builtins:=0}
noncomputable def fd_913:FuncData:={name := "join",qualname := "join",params:=fnP (st 55),body:=.stmts (fnB (st 55)),scope:=fnS (st 55),globals:=3,closure:=[],defaults:=.none,kwdefaults:=.none,doc:=.none,pyModule:=.str "cpy313.shlex" 1328,annotations:=none,code:=.ref 912,closureTuple:=.none,builtins:=0}
noncomputable def fd_921:FuncData:={name := "quote",qualname := "quote",params:=fnP (st 58),body:=.stmts (fnB (st 58)),scope:=fnS (st 58),globals:=3,closure:=[],defaults:=.none,kwdefaults:=.none,doc:=.none,pyModule:=.str "cpy313.shlex" 1328,annotations:=none,code:=.ref 920,closureTuple:=.none,builtins:=0}
noncomputable def fd_934:FuncData:={name := "__init__",qualname := "_Ignore.__init__",params:=fnP (sc 60 0),body:=.stmts (fnB (sc 60 0)),scope:=fnS (sc 60 0),globals:=3,closure:=[],defaults:=.ref 929,kwdefaults:=.none,doc:=.none,pyModule:=.str "cpy313.trace" 1496,annotations:=none,code:=.ref 933,closureTuple:=.none,builtins:=0}
noncomputable def fd_941:FuncData:={name := "names",qualname := "_Ignore.names",params:=fnP (sc 60 1),body:=.stmts (fnB (sc 60 1)),scope:=fnS (sc 60 1),globals:=3,closure:=[],defaults:=.none,kwdefaults:=.none,doc:=.none,pyModule:=.str "cpy313.trace" 1496,annotations:=none,code:=.ref 940,closureTuple:=.none,builtins:=0}
noncomputable def fd_955:FuncData:={name := "_modname",qualname := "_modname",params:=fnP (st 61),body:=.stmts (fnB (st 61)),scope:=fnS (st 61),globals:=3,closure:=[],defaults:=.none,kwdefaults:=.none,doc:=.none,pyModule:=.str "cpy313.trace" 1496,annotations:=none,code:=.ref 954,closureTuple:=.none,builtins:=0}
noncomputable def fd_960:FuncData:={name := "_law_file",qualname := "_law_file",params:=fnP (st 63),body:=.stmts (fnB (st 63)),scope:=fnS (st 63),globals:=3,closure:=[],defaults:=.none,kwdefaults:=.none,doc:=.none,pyModule:=.str "law_ik0093_01" 1548,annotations:=none,code:=.ref 959,closureTuple:=.none,builtins:=0}
noncomputable def fd_965:FuncData:={name := "_law_told",qualname := "_law_told",params:=fnP (st 64),body:=.stmts (fnB (st 64)),scope:=fnS (st 64),globals:=3,closure:=[],defaults:=.none,kwdefaults:=.none,doc:=.none,pyModule:=.str "law_ik0093_01" 1548,annotations:=none,code:=.ref 964,closureTuple:=.none,builtins:=0}
noncomputable def fd_970:FuncData:={name := "_law_due",qualname := "_law_due",params:=fnP (st 65),body:=.stmts (fnB (st 65)),scope:=fnS (st 65),globals:=3,closure:=[],defaults:=.none,kwdefaults:=.none,doc:=.none,pyModule:=.str "law_ik0093_01" 1548,annotations:=none,code:=.ref 969,closureTuple:=.none,builtins:=0}
noncomputable def fd_975:FuncData:={name := "law",qualname := "law",params:=fnP (st 66),body:=.stmts (fnB (st 66)),scope:=fnS (st 66),globals:=3,closure:=[],defaults:=.none,kwdefaults:=.none,doc:=.none,pyModule:=.str "law_ik0093_01" 1548,annotations:=none,code:=.ref 974,closureTuple:=.none,builtins:=0}
noncomputable def o_2 (P:Params):Obj:=⟨.none,none,.dict ([en P "\x69mport.loaded._sre" 183 (.bool true),en P "class._frozen_importlib.BuiltinImporter" 185 (.ref 14),en P "watched.\x69mport" 206 (.ref 18),en P "class._frozen_importlib.ModuleSpec" 216 (.ref 22),en P "sys.modules.booked-epoch" 245 (.int (4) 0),en P "\x69mport.later-laid._sre" 270 (.bool true),en P "watched.library" 272 (.ref 27),en P "watched.library-objects" 0 (.str "\x0c\x1e" 0),en P "watched.library-deep._sre" 273 (.str "\x04\x00\x00\x0b\x04\x00\x00\x0b\x04\x00\x00\x03\x04\x00\x00\x0b\x08\x04dict\x02" 0),en P "\x69mport.loaded._collections" 280 (.bool true),en P "sys.modules.landed._collections" 294 (.bool true),en P "\x69mport.later-laid._collections" 309 (.bool true),en P "watched.library-deep._collections" 311 (.str "\x04\x00\x00\x1d\x04\x00\x00\x1d\x04\x00\x00\x03\x04\x00\x00\x1d\x08\x04dict\x02" 0),en P "type.__subclasses__.OSError.0" 573 (.int (186) 0),en P "type.__subclasses__.OSError.n" 574 (.int (1) 0)]).toArray 15,#[]⟩
noncomputable def o_3 (P:Params):Obj:=⟨.type "dict",none,.dict ([en P "__name__" 165 (.str "law_ik0093_01" 1548),en P "__doc__" 166 (.none),en P "__package__" 167 (.none),en P "__loader__" 168 (.builtin "__main__.__loader__#opaque"),en P "__spec__" 169 (.none),en P "__annotations__" 170 (.ref 6),en P "__builtins__" 171 (.ref 4),en P "__file__" 173 (.str "/claim/cut.py" 172),en P "__cached__" 174 (.none),en P "_sre" 275 (.ref 12),en P "deque" 317 (.type "collections.deque"),en P "_wall" 330 (.ref 44),en P "sep" 334 (.str "/" 333),en P "_plain_name" 343 (.ref 51),en P "ABCMeta" 369 (.ref 68),en P "_ABCLike" 412 (.ref 101),en P "_abc_plain_meta" 419 (.ref 110),en P "fspath" 431 (.ref 117),en P "_check_arg_types" 444 (.ref 733),en P "check_arg_types_genericpath" 445 (.ref 124),en P "_get_sep" 454 (.ref 131),en P "splitroot" 463 (.ref 138),en P "dirname" 473 (.ref 789),en P "dirname_posixpath" 474 (.ref 145),en P "normpath" 489 (.ref 803),en P "normpath_posixpath" 490 (.ref 152),en P "commonpath" 496 (.ref 157),en P "_twin_re_1" 536 (.ref 162),en P "_whence" 546 (.ref 169),en P "_index" 554 (.ref 176),en P "UnsupportedOperation" 576 (.ref 186),en P "IOBase" 608 (.ref 206),en P "BufferedIOBase" 626 (.ref 221),en P "TextIOBase" 644 (.ref 233),en P "BytesIO" 906 (.ref 463),en P "StringIO" 1193 (.ref 710),en P "_kind" 1204 (.ref 719),en P "_fspath" 1213 (.ref 726),en P "check_arg_types_path" 1224 (.ref 733),en P "isabs" 1231 (.ref 740),en P "join" 1242 (.ref 913),en P "join_path" 1243 (.ref 747),en P "splitext" 1255 (.ref 754),en P "_c_path" 1268 (.ref 761),en P "_shelf_fresh" 1275 (.ref 768),en P "_splitroot" 1284 (.ref 775),en P "basename" 1292 (.ref 782),en P "dirname_path" 1303 (.ref 789),en P "_normpath" 1318 (.ref 796),en P "normpath_path" 1327 (.ref 803),en P "shlex" 1468 (.ref 894),en P "split" 1478 (.ref 906),en P "join_shlex" 1486 (.ref 913),en P "_find_unsafe" 1488 (.ref 914),en P "quote" 1495 (.ref 921),en P "_Ignore" 1537 (.ref 944),en P "_modname" 1547 (.ref 955),en P "_law_file" 1555 (.ref 960),en P "_law_told" 1561 (.ref 965),en P "_law_due" 1567 (.ref 970),en P "law" 1573 (.ref 975)]).toArray 61,#[]⟩
noncomputable def o_4 (P:Params):Obj:=⟨.type "module",some (0),.plain,#[]⟩
noncomputable def o_116 (P:Params):Obj:=⟨.type "code",none,.fields #[.str "fspath" 422,.str "fspath" 423,.str "/claim/cut.py" 424,.int (38) 0,.int (1) 0,.int (0) 0,.int (0) 0,.int (3) 0,.ref 111,.bool true,.int (318) 0,.ref 112,.none,.ref 113,.ref 114,.ref 115,.int (429) 0,.int (38) 0,.str "/claim/cut.py" 430],#[]⟩
noncomputable def o_117 (P:Params):Obj:=⟨.type "function",none,.func fd_117,#[]⟩
noncomputable def o_130 (P:Params):Obj:=⟨.type "code",none,.fields #[.str "_get_sep" 448,.str "_get_sep" 449,.str "/claim/cut.py" 450,.int (68) 0,.int (1) 0,.int (0) 0,.int (0) 0,.int (3) 0,.ref 125,.bool true,.int (318) 0,.ref 126,.none,.ref 127,.ref 128,.ref 129,.int (452) 0,.int (68) 0,.str "/claim/cut.py" 453],#[]⟩
noncomputable def o_131 (P:Params):Obj:=⟨.type "function",none,.func fd_131,#[]⟩
noncomputable def o_137 (P:Params):Obj:=⟨.type "code",none,.fields #[.str "splitroot" 455,.str "splitroot" 456,.str "/claim/cut.py" 457,.int (73) 0,.int (1) 0,.int (0) 0,.int (0) 0,.int (3) 0,.ref 132,.bool true,.int (318) 0,.ref 133,.none,.ref 134,.ref 135,.ref 136,.int (461) 0,.int (73) 0,.str "/claim/cut.py" 462],#[]⟩
noncomputable def o_138 (P:Params):Obj:=⟨.type "function",none,.func fd_138,#[]⟩
noncomputable def o_144 (P:Params):Obj:=⟨.type "code",none,.fields #[.str "dirname" 464,.str "dirname" 465,.str "/claim/cut.py" 466,.int (87) 0,.int (1) 0,.int (0) 0,.int (0) 0,.int (3) 0,.ref 139,.bool true,.int (318) 0,.ref 140,.none,.ref 141,.ref 142,.ref 143,.int (471) 0,.int (87) 0,.str "/claim/cut.py" 472],#[]⟩
noncomputable def o_145 (P:Params):Obj:=⟨.type "function",none,.func fd_145,#[]⟩
noncomputable def o_151 (P:Params):Obj:=⟨.type "code",none,.fields #[.str "normpath" 475,.str "normpath" 476,.str "/claim/cut.py" 477,.int (96) 0,.int (1) 0,.int (0) 0,.int (0) 0,.int (3) 0,.ref 146,.bool true,.int (318) 0,.ref 147,.none,.ref 148,.ref 149,.ref 150,.int (487) 0,.int (96) 0,.str "/claim/cut.py" 488],#[]⟩
noncomputable def o_152 (P:Params):Obj:=⟨.type "function",none,.func fd_152,#[]⟩
noncomputable def o_156 (P:Params):Obj:=⟨.type "code",none,.fields #[.str "commonpath" 491,.str "commonpath" 492,.str "/claim/cut.py" 493,.int (122) 0,.int (1) 0,.int (0) 0,.int (0) 0,.int (3) 0,.ref 153,.bool true,.int (318) 0,.ref 154,.none,.none,.none,.ref 155,.int (494) 0,.int (122) 0,.str "/claim/cut.py" 495],#[]⟩
noncomputable def o_157 (P:Params):Obj:=⟨.type "function",none,.func fd_157,#[]⟩
noncomputable def o_161 (P:Params):Obj:=⟨.type "tuple",none,.seq #[.int (14) 0,.int (17) 0,.int (4) 0,.int (1) 0,.int (1) 0,.int (21) 0,.int (9) 0,.int (0) 0,.int (604043296) 0,.int (1) 0,.int (0) 0,.int (0) 0,.int (0) 0,.int (0) 0,.int (0) 0,.int (8) 0,.int (4) 0,.int (0) 0,.int (13) 0,.int (14) 0,.int (21) 0,.int (9) 0,.int (0) 0,.int (604043296) 0,.int (1) 0,.int (0) 0,.int (0) 0,.int (0) 0,.int (0) 0,.int (0) 0,.int (8) 0,.int (4) 0,.int (0) 0,.int (1) 0] 0,#[]⟩
noncomputable def o_162 (P:Params):Obj:=⟨.type "re.Pattern",none,.fields #[.str "[^\\w@%+=:,./-]" 498,.int (256) 535,.int (0) 0,.none,.none,.ref 161,.int (0) 0],#[]⟩
noncomputable def o_175 (P:Params):Obj:=⟨.type "code",none,.fields #[.str "_index" 547,.str "_index" 548,.str "/claim/cut.py" 549,.int (158) 0,.int (2) 0,.int (0) 0,.int (0) 0,.int (3) 0,.ref 170,.bool true,.int (318) 0,.ref 171,.none,.ref 172,.ref 173,.ref 174,.int (552) 0,.int (158) 0,.str "/claim/cut.py" 553],#[]⟩
noncomputable def o_176 (P:Params):Obj:=⟨.type "function",none,.func fd_176,#[]⟩
noncomputable def o_202 (P:Params):Obj:=⟨.type "code",none,.fields #[.str "__new__" 591,.str "IOBase.__new__" 592,.str "/claim/cut.py" 593,.int (170) 0,.int (1) 0,.int (1) 0,.int (0) 0,.int (15) 0,.ref 197,.bool true,.int (318) 0,.ref 198,.none,.ref 199,.ref 200,.ref 201,.int (597) 0,.int (170) 0,.str "/claim/cut.py" 598],#[]⟩
noncomputable def o_203 (P:Params):Obj:=⟨.type "function",none,.func fd_203,#[]⟩
noncomputable def o_205 (P:Params):Obj:=⟨.type "dict",none,.dict ([en P "__module__" 584 (.str "io" 589),en P "__firstlineno__" 588 (.int (167) 587),en P "__new__" 599 (.ref 207),en P "__static_attributes__" 600 (.ref 204),en P "__dict__" 603 (.ref 208),en P "__weakref__" 605 (.ref 209),en P "__doc__" 606 (.none)]).toArray 4,#[]⟩
noncomputable def o_206 (P:Params):Obj:=⟨.type "type",none,.cls ⟨"IOBase",[.type "object"],[.ref 206,.type "object"],205, "IOBase",true,[],[.ref 221,.ref 233],false,none,false⟩,#[none,none,some (.str "IOBase" 577),some (.str "IOBase" 585),some (.none),some (.bool true)]⟩
noncomputable def o_207 (P:Params):Obj:=⟨.type "staticmethod",none,.fields #[.ref 203],#[]⟩
noncomputable def o_208 (P:Params):Obj:=⟨.type "getset_descriptor",none,.fields #[.str "__dict__" 602,.ref 206,.builtin "function.__dict__",.builtin "function.__dict__#set"],#[]⟩
noncomputable def o_209 (P:Params):Obj:=⟨.type "getset_descriptor",none,.fields #[.str "__weakref__" 604,.ref 206,.builtin "ExceptionGroup.__weakref__",.none],#[]⟩
noncomputable def o_232 (P:Params):Obj:=⟨.type "dict",none,.dict ([en P "__module__" 634 (.str "io" 639),en P "__firstlineno__" 638 (.int (176) 637),en P "__static_attributes__" 641 (.ref 231),en P "__doc__" 642 (.none)]).toArray 2,#[]⟩
noncomputable def o_233 (P:Params):Obj:=⟨.type "type",none,.cls ⟨"TextIOBase",[.ref 206],[.ref 233,.ref 206,.type "object"],232, "TextIOBase",true,[],[.ref 710],false,none,false⟩,#[some (.ref 224),none,some (.str "TextIOBase" 627),some (.str "TextIOBase" 635),some (.none),some (.bool true)]⟩
noncomputable def o_463 (P:Params):Obj:=⟨.type "type",none,.cls ⟨"BytesIO",[.ref 221],[.ref 463,.ref 221,.ref 206,.type "object"],462, "BytesIO",true,[],[],false,none,false⟩,#[some (.ref 236),none,some (.str "BytesIO" 645),some (.str "BytesIO" 653),some (.none),some (.bool true)]⟩
noncomputable def o_473 (P:Params):Obj:=⟨.type "tuple",none,.seq #[.str "" 921,.str "\n" 922] 0,#[]⟩
noncomputable def o_479 (P:Params):Obj:=⟨.type "code",none,.fields #[.str "__init__" 923,.str "StringIO.__init__" 924,.str "/claim/cut.py" 925,.int (351) 0,.int (3) 0,.int (0) 0,.int (0) 0,.int (3) 0,.ref 474,.bool true,.int (318) 0,.ref 475,.none,.ref 476,.ref 477,.ref 478,.int (929) 0,.int (351) 0,.str "/claim/cut.py" 930],#[]⟩
noncomputable def o_480 (P:Params):Obj:=⟨.type "function",none,.func fd_480,#[]⟩
noncomputable def o_486 (P:Params):Obj:=⟨.type "code",none,.fields #[.str "__translated" 932,.str "StringIO.__translated" 933,.str "/claim/cut.py" 934,.int (364) 0,.int (2) 0,.int (0) 0,.int (0) 0,.int (3) 0,.ref 481,.bool true,.int (318) 0,.ref 482,.none,.ref 483,.ref 484,.ref 485,.int (938) 0,.int (364) 0,.str "/claim/cut.py" 939],#[]⟩
noncomputable def o_487 (P:Params):Obj:=⟨.type "function",none,.func fd_487,#[]⟩
noncomputable def o_493 (P:Params):Obj:=⟨.type "code",none,.fields #[.str "__check" 941,.str "StringIO.__check" 942,.str "/claim/cut.py" 943,.int (372) 0,.int (1) 0,.int (0) 0,.int (0) 0,.int (3) 0,.ref 488,.bool true,.int (318) 0,.ref 489,.none,.ref 490,.ref 491,.ref 492,.int (945) 0,.int (372) 0,.str "/claim/cut.py" 946],#[]⟩
noncomputable def o_494 (P:Params):Obj:=⟨.type "function",none,.func fd_494,#[]⟩
noncomputable def o_516 (P:Params):Obj:=⟨.type "property",none,.fields #[.ref 515,.none,.none,.none,.str "closed" 977,.bool false],#[]⟩
noncomputable def o_524 (P:Params):Obj:=⟨.type "property",none,.fields #[.ref 523,.none,.none,.none,.str "line_buffering" 985,.bool false],#[]⟩
noncomputable def o_532 (P:Params):Obj:=⟨.type "property",none,.fields #[.ref 531,.none,.none,.none,.str "newlines" 993,.bool false],#[]⟩
noncomputable def o_540 (P:Params):Obj:=⟨.type "property",none,.fields #[.ref 539,.none,.none,.none,.str "encoding" 1001,.bool false],#[]⟩
noncomputable def o_548 (P:Params):Obj:=⟨.type "property",none,.fields #[.ref 547,.none,.none,.none,.str "errors" 1009,.bool false],#[]⟩
noncomputable def o_649 (P:Params):Obj:=⟨.type "tuple",none,.seq #[.int (-1) 1114] 0,#[]⟩
noncomputable def o_655 (P:Params):Obj:=⟨.type "code",none,.fields #[.str "read" 1115,.str "StringIO.read" 1116,.str "/claim/cut.py" 1117,.int (494) 0,.int (2) 0,.int (2) 0,.int (0) 0,.int (3) 0,.ref 650,.bool true,.int (318) 0,.ref 651,.none,.ref 652,.ref 653,.ref 654,.int (1122) 0,.int (494) 0,.str "/claim/cut.py" 1123],#[]⟩
noncomputable def o_656 (P:Params):Obj:=⟨.type "function",none,.func fd_656,#[]⟩
noncomputable def o_709 (P:Params):Obj:=⟨.type "dict",none,.dict ([en P "__module__" 914 (.str "_io" 919),en P "__firstlineno__" 918 (.int (348) 917),en P "__init__" 931 (.ref 480),en P "_StringIO__translated" 940 (.ref 487),en P "_StringIO__check" 947 (.ref 494),en P "_StringIO__check_dot" 954 (.ref 501),en P "_StringIO__line" 969 (.ref 508),en P "closed" 977 (.ref 516),en P "line_buffering" 985 (.ref 524),en P "newlines" 993 (.ref 532),en P "encoding" 1001 (.ref 540),en P "errors" 1009 (.ref 548),en P "close" 1016 (.ref 555),en P "__enter__" 1023 (.ref 562),en P "__exit__" 1031 (.ref 569),en P "readable" 1038 (.ref 576),en P "writable" 1045 (.ref 583),en P "seekable" 1052 (.ref 590),en P "isatty" 1059 (.ref 597),en P "flush" 1066 (.ref 604),en P "fileno" 1073 (.ref 611),en P "detach" 1080 (.ref 618),en P "getvalue" 1087 (.ref 625),en P "tell" 1094 (.ref 632),en P "seek" 1104 (.ref 640),en P "truncate" 1112 (.ref 648),en P "read" 1124 (.ref 656),en P "readline" 1134 (.ref 664),en P "readlines" 1144 (.ref 672),en P "__iter__" 1151 (.ref 679),en P "__next__" 1159 (.ref 686),en P "write" 1171 (.ref 693),en P "writelines" 1179 (.ref 700),en P "__repr__" 1186 (.ref 707),en P "__static_attributes__" 1190 (.ref 708),en P "__doc__" 1191 (.none)]).toArray 2,#[]⟩
noncomputable def o_710 (P:Params):Obj:=⟨.type "type",none,.cls ⟨"StringIO",[.ref 233],[.ref 710,.ref 233,.ref 206,.type "object"],709, "StringIO",true,[],[],false,none,false⟩,#[some (.ref 466),none,some (.str "StringIO" 907),some (.str "StringIO" 915),some (.none),some (.bool true)]⟩
noncomputable def o_718 (P:Params):Obj:=⟨.type "code",none,.fields #[.str "_kind" 1196,.str "_kind" 1197,.str "/claim/cut.py" 1198,.int (554) 0,.int (2) 0,.int (0) 0,.int (0) 0,.int (3) 0,.ref 713,.bool true,.int (318) 0,.ref 714,.none,.ref 715,.ref 716,.ref 717,.int (1202) 0,.int (554) 0,.str "/claim/cut.py" 1203],#[]⟩
noncomputable def o_719 (P:Params):Obj:=⟨.type "function",none,.func fd_719,#[]⟩
noncomputable def o_725 (P:Params):Obj:=⟨.type "code",none,.fields #[.str "_fspath" 1205,.str "_fspath" 1206,.str "/claim/cut.py" 1207,.int (575) 0,.int (2) 0,.int (0) 0,.int (0) 0,.int (3) 0,.ref 720,.bool true,.int (318) 0,.ref 721,.none,.ref 722,.ref 723,.ref 724,.int (1211) 0,.int (575) 0,.str "/claim/cut.py" 1212],#[]⟩
noncomputable def o_726 (P:Params):Obj:=⟨.type "function",none,.func fd_726,#[]⟩
noncomputable def o_753 (P:Params):Obj:=⟨.type "code",none,.fields #[.str "splitext" 1244,.str "splitext" 1245,.str "/claim/cut.py" 1246,.int (610) 0,.int (1) 0,.int (0) 0,.int (0) 0,.int (3) 0,.ref 748,.bool true,.int (318) 0,.ref 749,.none,.ref 750,.ref 751,.ref 752,.int (1253) 0,.int (610) 0,.str "/claim/cut.py" 1254],#[]⟩
noncomputable def o_754 (P:Params):Obj:=⟨.type "function",none,.func fd_754,#[]⟩
noncomputable def o_760 (P:Params):Obj:=⟨.type "code",none,.fields #[.str "_c_path" 1256,.str "_c_path" 1257,.str "/claim/cut.py" 1258,.int (623) 0,.int (5) 0,.int (0) 0,.int (0) 0,.int (3) 0,.ref 755,.bool true,.int (318) 0,.ref 756,.none,.ref 757,.ref 758,.ref 759,.int (1266) 0,.int (623) 0,.str "/claim/cut.py" 1267],#[]⟩
noncomputable def o_761 (P:Params):Obj:=⟨.type "function",none,.func fd_761,#[]⟩
noncomputable def o_767 (P:Params):Obj:=⟨.type "code",none,.fields #[.str "_shelf_fresh" 1269,.str "_shelf_fresh" 1270,.str "/claim/cut.py" 1271,.int (634) 0,.int (1) 0,.int (0) 0,.int (0) 0,.int (3) 0,.ref 762,.bool true,.int (318) 0,.ref 763,.none,.ref 764,.ref 765,.ref 766,.int (1273) 0,.int (634) 0,.str "/claim/cut.py" 1274],#[]⟩
noncomputable def o_768 (P:Params):Obj:=⟨.type "function",none,.func fd_768,#[]⟩
noncomputable def o_774 (P:Params):Obj:=⟨.type "code",none,.fields #[.str "_splitroot" 1276,.str "_splitroot" 1277,.str "/claim/cut.py" 1278,.int (636) 0,.int (1) 0,.int (0) 0,.int (0) 0,.int (3) 0,.ref 769,.bool true,.int (318) 0,.ref 770,.none,.ref 771,.ref 772,.ref 773,.int (1282) 0,.int (636) 0,.str "/claim/cut.py" 1283],#[]⟩
noncomputable def o_775 (P:Params):Obj:=⟨.type "function",none,.func fd_775,#[]⟩
noncomputable def o_781 (P:Params):Obj:=⟨.type "code",none,.fields #[.str "basename" 1285,.str "basename" 1286,.str "/claim/cut.py" 1287,.int (645) 0,.int (1) 0,.int (0) 0,.int (0) 0,.int (3) 0,.ref 776,.bool true,.int (318) 0,.ref 777,.none,.ref 778,.ref 779,.ref 780,.int (1290) 0,.int (645) 0,.str "/claim/cut.py" 1291],#[]⟩
noncomputable def o_782 (P:Params):Obj:=⟨.type "function",none,.func fd_782,#[]⟩
noncomputable def o_795 (P:Params):Obj:=⟨.type "code",none,.fields #[.str "_normpath" 1304,.str "_normpath" 1305,.str "/claim/cut.py" 1306,.int (658) 0,.int (1) 0,.int (0) 0,.int (0) 0,.int (3) 0,.ref 790,.bool true,.int (318) 0,.ref 791,.none,.ref 792,.ref 793,.ref 794,.int (1316) 0,.int (658) 0,.str "/claim/cut.py" 1317],#[]⟩
noncomputable def o_796 (P:Params):Obj:=⟨.type "function",none,.func fd_796,#[]⟩
noncomputable def o_802 (P:Params):Obj:=⟨.type "code",none,.fields #[.str "normpath" 1319,.str "normpath" 1320,.str "/claim/cut.py" 1321,.int (679) 0,.int (0) 0,.int (0) 0,.int (0) 0,.int (15) 0,.ref 797,.bool true,.int (318) 0,.ref 798,.none,.ref 799,.ref 800,.ref 801,.int (1324) 0,.int (679) 0,.str "/claim/cut.py" 1325],#[]⟩
noncomputable def o_803 (P:Params):Obj:=⟨.type "function",none,.func fd_803,#[]⟩
noncomputable def o_811 (P:Params):Obj:=⟨.type "tuple",none,.seq #[.none,.none,.bool false,.bool false] 0,#[]⟩
noncomputable def o_817 (P:Params):Obj:=⟨.type "code",none,.fields #[.str "__init__" 1342,.str "shlex.__init__" 1343,.str "/claim/cut.py" 1344,.int (685) 0,.int (5) 0,.int (0) 0,.int (0) 0,.int (3) 0,.ref 812,.bool true,.int (318) 0,.ref 813,.none,.ref 814,.ref 815,.ref 816,.int (1351) 0,.int (685) 0,.str "/claim/cut.py" 1352],#[]⟩
noncomputable def o_818 (P:Params):Obj:=⟨.type "function",none,.func fd_818,#[]⟩
noncomputable def o_824 (P:Params):Obj:=⟨.type "code",none,.fields #[.str "punctuation_chars" 1354,.str "shlex.punctuation_chars" 1355,.str "/claim/cut.py" 1356,.int (726) 0,.int (1) 0,.int (0) 0,.int (0) 0,.int (3) 0,.ref 819,.bool true,.int (318) 0,.ref 820,.none,.ref 821,.ref 822,.ref 823,.int (1358) 0,.int (726) 0,.str "/claim/cut.py" 1359],#[]⟩
noncomputable def o_825 (P:Params):Obj:=⟨.type "function",none,.func fd_825,#[]⟩
noncomputable def o_826 (P:Params):Obj:=⟨.type "property",none,.fields #[.ref 825,.none,.none,.none,.str "punctuation_chars" 1361,.bool false],#[]⟩
noncomputable def o_854 (P:Params):Obj:=⟨.type "code",none,.fields #[.str "get_token" 1386,.str "shlex.get_token" 1387,.str "/claim/cut.py" 1388,.int (753) 0,.int (1) 0,.int (0) 0,.int (0) 0,.int (3) 0,.ref 849,.bool true,.int (318) 0,.ref 850,.none,.ref 851,.ref 852,.ref 853,.int (1395) 0,.int (753) 0,.str "/claim/cut.py" 1396],#[]⟩
noncomputable def o_855 (P:Params):Obj:=⟨.type "function",none,.func fd_855,#[]⟩
noncomputable def o_861 (P:Params):Obj:=⟨.type "code",none,.fields #[.str "read_token" 1398,.str "shlex.read_token" 1399,.str "/claim/cut.py" 1400,.int (780) 0,.int (1) 0,.int (0) 0,.int (0) 0,.int (3) 0,.ref 856,.bool true,.int (318) 0,.ref 857,.none,.ref 858,.ref 859,.ref 860,.int (1406) 0,.int (780) 0,.str "/claim/cut.py" 1407],#[]⟩
noncomputable def o_862 (P:Params):Obj:=⟨.type "function",none,.func fd_862,#[]⟩
noncomputable def o_883 (P:Params):Obj:=⟨.type "code",none,.fields #[.str "__iter__" 1426,.str "shlex.__iter__" 1427,.str "/claim/cut.py" 1428,.int (927) 0,.int (1) 0,.int (0) 0,.int (0) 0,.int (3) 0,.ref 878,.bool true,.int (318) 0,.ref 879,.none,.ref 880,.ref 881,.ref 882,.int (1430) 0,.int (927) 0,.str "/claim/cut.py" 1431],#[]⟩
noncomputable def o_884 (P:Params):Obj:=⟨.type "function",none,.func fd_884,#[]⟩
noncomputable def o_890 (P:Params):Obj:=⟨.type "code",none,.fields #[.str "__next__" 1433,.str "shlex.__next__" 1434,.str "/claim/cut.py" 1435,.int (930) 0,.int (1) 0,.int (0) 0,.int (0) 0,.int (3) 0,.ref 885,.bool true,.int (318) 0,.ref 886,.none,.ref 887,.ref 888,.ref 889,.int (1438) 0,.int (930) 0,.str "/claim/cut.py" 1439],#[]⟩
noncomputable def o_891 (P:Params):Obj:=⟨.type "function",none,.func fd_891,#[]⟩
noncomputable def o_893 (P:Params):Obj:=⟨.type "dict",none,.dict ([en P "__module__" 1337 (.str "cpy313.shlex" 1328),en P "__firstlineno__" 1341 (.int (683) 1340),en P "__init__" 1353 (.ref 818),en P "punctuation_chars" 1361 (.ref 826),en P "push_token" 1369 (.ref 833),en P "push_source" 1378 (.ref 841),en P "pop_source" 1385 (.ref 848),en P "get_token" 1397 (.ref 855),en P "read_token" 1408 (.ref 862),en P "sourcehook" 1416 (.ref 869),en P "error_leader" 1425 (.ref 877),en P "__iter__" 1432 (.ref 884),en P "__next__" 1440 (.ref 891),en P "__static_attributes__" 1461 (.ref 892),en P "__dict__" 1463 (.ref 895),en P "__weakref__" 1465 (.ref 896),en P "__doc__" 1466 (.none)]).toArray 4,#[]⟩
noncomputable def o_894 (P:Params):Obj:=⟨.type "type",none,.cls ⟨"shlex",[.type "object"],[.ref 894,.type "object"],893, "shlex",true,[],[],false,none,false⟩,#[none,none,some (.str "shlex" 1330),some (.str "shlex" 1338),some (.builtin "object.__new__"),some (.bool true)]⟩
noncomputable def o_895 (P:Params):Obj:=⟨.type "getset_descriptor",none,.fields #[.str "__dict__" 1462,.ref 894,.builtin "function.__dict__",.builtin "function.__dict__#set"],#[]⟩
noncomputable def o_896 (P:Params):Obj:=⟨.type "getset_descriptor",none,.fields #[.str "__weakref__" 1464,.ref 894,.builtin "ExceptionGroup.__weakref__",.none],#[]⟩
noncomputable def o_899 (P:Params):Obj:=⟨.type "tuple",none,.seq #[.bool false,.bool true] 0,#[]⟩
noncomputable def o_905 (P:Params):Obj:=⟨.type "code",none,.fields #[.str "split" 1469,.str "split" 1470,.str "/claim/cut.py" 1471,.int (935) 0,.int (3) 0,.int (0) 0,.int (0) 0,.int (3) 0,.ref 900,.bool true,.int (318) 0,.ref 901,.none,.ref 902,.ref 903,.ref 904,.int (1476) 0,.int (935) 0,.str "/claim/cut.py" 1477],#[]⟩
noncomputable def o_906 (P:Params):Obj:=⟨.type "function",none,.func fd_906,#[]⟩
noncomputable def o_912 (P:Params):Obj:=⟨.type "code",none,.fields #[.str "join" 1479,.str "join" 1480,.str "/claim/cut.py" 1481,.int (943) 0,.int (1) 0,.int (0) 0,.int (0) 0,.int (3) 0,.ref 907,.bool true,.int (318) 0,.ref 908,.none,.ref 909,.ref 910,.ref 911,.int (1483) 0,.int (943) 0,.str "/claim/cut.py" 1484],#[]⟩
noncomputable def o_913 (P:Params):Obj:=⟨.type "function",none,.func fd_913,#[]⟩
noncomputable def o_914 (P:Params):Obj:=⟨.type "builtin_function_or_method",none,.fields #[.builtin "re.Pattern.search",.ref 162],#[]⟩
noncomputable def o_920 (P:Params):Obj:=⟨.type "code",none,.fields #[.str "quote" 1489,.str "quote" 1490,.str "/claim/cut.py" 1491,.int (947) 0,.int (1) 0,.int (0) 0,.int (0) 0,.int (3) 0,.ref 915,.bool true,.int (318) 0,.ref 916,.none,.ref 917,.ref 918,.ref 919,.int (1493) 0,.int (947) 0,.str "/claim/cut.py" 1494],#[]⟩
noncomputable def o_921 (P:Params):Obj:=⟨.type "function",none,.func fd_921,#[]⟩
noncomputable def o_929 (P:Params):Obj:=⟨.type "tuple",none,.seq #[.none,.none] 0,#[]⟩
noncomputable def o_933 (P:Params):Obj:=⟨.type "code",none,.fields #[.str "__init__" 1510,.str "_Ignore.__init__" 1511,.str "/claim/cut.py" 1512,.int (956) 0,.int (3) 0,.int (0) 0,.int (0) 0,.int (3) 0,.ref 930,.bool true,.int (318) 0,.ref 931,.none,.none,.none,.ref 932,.int (1513) 0,.int (956) 0,.str "/claim/cut.py" 1514],#[]⟩
noncomputable def o_934 (P:Params):Obj:=⟨.type "function",none,.func fd_934,#[]⟩
noncomputable def o_940 (P:Params):Obj:=⟨.type "code",none,.fields #[.str "names" 1516,.str "_Ignore.names" 1517,.str "/claim/cut.py" 1518,.int (961) 0,.int (3) 0,.int (0) 0,.int (0) 0,.int (3) 0,.ref 935,.bool true,.int (318) 0,.ref 936,.none,.ref 937,.ref 938,.ref 939,.int (1524) 0,.int (961) 0,.str "/claim/cut.py" 1525],#[]⟩
noncomputable def o_941 (P:Params):Obj:=⟨.type "function",none,.func fd_941,#[]⟩
noncomputable def o_943 (P:Params):Obj:=⟨.type "dict",none,.dict ([en P "__module__" 1505 (.str "cpy313.trace" 1496),en P "__firstlineno__" 1509 (.int (954) 1508),en P "__init__" 1515 (.ref 934),en P "names" 1526 (.ref 941),en P "__static_attributes__" 1530 (.ref 942),en P "__dict__" 1532 (.ref 945),en P "__weakref__" 1534 (.ref 946),en P "__doc__" 1535 (.none)]).toArray 4,#[]⟩
noncomputable def o_944 (P:Params):Obj:=⟨.type "type",none,.cls ⟨"_Ignore",[.type "object"],[.ref 944,.type "object"],943, "_Ignore",true,[],[],false,none,false⟩,#[none,none,some (.str "_Ignore" 1498),some (.str "_Ignore" 1506),some (.builtin "object.__new__"),some (.bool true)]⟩
noncomputable def o_945 (P:Params):Obj:=⟨.type "getset_descriptor",none,.fields #[.str "__dict__" 1531,.ref 944,.builtin "function.__dict__",.builtin "function.__dict__#set"],#[]⟩
noncomputable def o_946 (P:Params):Obj:=⟨.type "getset_descriptor",none,.fields #[.str "__weakref__" 1533,.ref 944,.builtin "ExceptionGroup.__weakref__",.none],#[]⟩
noncomputable def o_954 (P:Params):Obj:=⟨.type "code",none,.fields #[.str "_modname" 1538,.str "_modname" 1539,.str "/claim/cut.py" 1540,.int (980) 0,.int (1) 0,.int (0) 0,.int (0) 0,.int (3) 0,.ref 949,.bool true,.int (318) 0,.ref 950,.none,.ref 951,.ref 952,.ref 953,.int (1545) 0,.int (980) 0,.str "/claim/cut.py" 1546],#[]⟩
noncomputable def o_955 (P:Params):Obj:=⟨.type "function",none,.func fd_955,#[]⟩
noncomputable def o_959 (P:Params):Obj:=⟨.type "code",none,.fields #[.str "_law_file" 1550,.str "_law_file" 1551,.str "/claim/cut.py" 1552,.int (985) 0,.int (2) 0,.int (0) 0,.int (0) 0,.int (3) 0,.ref 956,.bool true,.int (318) 0,.ref 957,.none,.none,.none,.ref 958,.int (1553) 0,.int (985) 0,.str "/claim/cut.py" 1554],#[]⟩
noncomputable def o_960 (P:Params):Obj:=⟨.type "function",none,.func fd_960,#[]⟩
noncomputable def o_964 (P:Params):Obj:=⟨.type "code",none,.fields #[.str "_law_told" 1556,.str "_law_told" 1557,.str "/claim/cut.py" 1558,.int (996) 0,.int (2) 0,.int (0) 0,.int (0) 0,.int (3) 0,.ref 961,.bool true,.int (318) 0,.ref 962,.none,.none,.none,.ref 963,.int (1559) 0,.int (996) 0,.str "/claim/cut.py" 1560],#[]⟩
noncomputable def o_965 (P:Params):Obj:=⟨.type "function",none,.func fd_965,#[]⟩
noncomputable def o_969 (P:Params):Obj:=⟨.type "code",none,.fields #[.str "_law_due" 1562,.str "_law_due" 1563,.str "/claim/cut.py" 1564,.int (1003) 0,.int (2) 0,.int (0) 0,.int (0) 0,.int (3) 0,.ref 966,.bool true,.int (318) 0,.ref 967,.none,.none,.none,.ref 968,.int (1565) 0,.int (1003) 0,.str "/claim/cut.py" 1566],#[]⟩
noncomputable def o_970 (P:Params):Obj:=⟨.type "function",none,.func fd_970,#[]⟩
noncomputable def o_974 (P:Params):Obj:=⟨.type "code",none,.fields #[.str "law" 1568,.str "law" 1569,.str "/claim/cut.py" 1570,.int (1020) 0,.int (1) 0,.int (0) 0,.int (0) 0,.int (3) 0,.ref 971,.bool true,.int (318) 0,.ref 972,.none,.none,.none,.ref 973,.int (1571) 0,.int (1020) 0,.str "/claim/cut.py" 1572],#[]⟩
noncomputable def o_975 (P:Params):Obj:=⟨.type "function",none,.func fd_975,#[]⟩
noncomputable def topObjs (P:Params):List (Addr×Obj):=[(2,o_2 P),(3,o_3 P),(4,o_4 P),(116,o_116 P),(117,o_117 P),(130,o_130 P),(131,o_131 P),(137,o_137 P),(138,o_138 P),(144,o_144 P),(145,o_145 P),(151,o_151 P),(152,o_152 P),(156,o_156 P),(157,o_157 P),(161,o_161 P),(162,o_162 P),(175,o_175 P),(176,o_176 P),(202,o_202 P),(203,o_203 P),(205,o_205 P),(206,o_206 P),(207,o_207 P),(208,o_208 P),(209,o_209 P),(232,o_232 P),(233,o_233 P),(463,o_463 P),(473,o_473 P),(479,o_479 P),(480,o_480 P),(486,o_486 P),(487,o_487 P),(493,o_493 P),(494,o_494 P),(516,o_516 P),(524,o_524 P),(532,o_532 P),(540,o_540 P),(548,o_548 P),(649,o_649 P),(655,o_655 P),(656,o_656 P),(709,o_709 P),(710,o_710 P),(718,o_718 P),(719,o_719 P),(725,o_725 P),(726,o_726 P),(753,o_753 P),(754,o_754 P),(760,o_760 P),(761,o_761 P),(767,o_767 P),(768,o_768 P),(774,o_774 P),(775,o_775 P),(781,o_781 P),(782,o_782 P),(795,o_795 P),(796,o_796 P),(802,o_802 P),(803,o_803 P),(811,o_811 P),(817,o_817 P),(818,o_818 P),(824,o_824 P),(825,o_825 P),(826,o_826 P),(854,o_854 P),(855,o_855 P),(861,o_861 P),(862,o_862 P),(883,o_883 P),(884,o_884 P),(890,o_890 P),(891,o_891 P),(893,o_893 P),(894,o_894 P),(895,o_895 P),(896,o_896 P),(899,o_899 P),(905,o_905 P),(906,o_906 P),(912,o_912 P),(913,o_913 P),(914,o_914 P),(920,o_920 P),(921,o_921 P),(929,o_929 P),(933,o_933 P),(934,o_934 P),(940,o_940 P),(941,o_941 P),(943,o_943 P),(944,o_944 P),(945,o_945 P),(946,o_946 P),(954,o_954 P),(955,o_955 P),(959,o_959 P),(960,o_960 P),(964,o_964 P),(965,o_965 P),(969,o_969 P),(970,o_970 P),(974,o_974 P),(975,o_975 P)]
theorem mO {P:Params} {a:Addr} {o:Obj} (i:Nat) (h:(topObjs P)[i]? = some (a,o)):(a,o) ∈ topObjs P:=List.mem_of_getElem? h
theorem mem_4 (P:Params):((4:Addr),o_4 P)∈topObjs P:=mO 2 rfl
theorem mem_116 (P:Params):((116:Addr),o_116 P)∈topObjs P:=mO 3 rfl
theorem mem_117 (P:Params):((117:Addr),o_117 P)∈topObjs P:=mO 4 rfl
theorem mem_130 (P:Params):((130:Addr),o_130 P)∈topObjs P:=mO 5 rfl
theorem mem_131 (P:Params):((131:Addr),o_131 P)∈topObjs P:=mO 6 rfl
theorem mem_137 (P:Params):((137:Addr),o_137 P)∈topObjs P:=mO 7 rfl
theorem mem_138 (P:Params):((138:Addr),o_138 P)∈topObjs P:=mO 8 rfl
theorem mem_144 (P:Params):((144:Addr),o_144 P)∈topObjs P:=mO 9 rfl
theorem mem_145 (P:Params):((145:Addr),o_145 P)∈topObjs P:=mO 10 rfl
theorem mem_151 (P:Params):((151:Addr),o_151 P)∈topObjs P:=mO 11 rfl
theorem mem_152 (P:Params):((152:Addr),o_152 P)∈topObjs P:=mO 12 rfl
theorem mem_156 (P:Params):((156:Addr),o_156 P)∈topObjs P:=mO 13 rfl
theorem mem_157 (P:Params):((157:Addr),o_157 P)∈topObjs P:=mO 14 rfl
theorem mem_175 (P:Params):((175:Addr),o_175 P)∈topObjs P:=mO 17 rfl
theorem mem_176 (P:Params):((176:Addr),o_176 P)∈topObjs P:=mO 18 rfl
theorem mem_202 (P:Params):((202:Addr),o_202 P)∈topObjs P:=mO 19 rfl
theorem mem_203 (P:Params):((203:Addr),o_203 P)∈topObjs P:=mO 20 rfl
theorem mem_479 (P:Params):((479:Addr),o_479 P)∈topObjs P:=mO 30 rfl
theorem mem_480 (P:Params):((480:Addr),o_480 P)∈topObjs P:=mO 31 rfl
theorem mem_486 (P:Params):((486:Addr),o_486 P)∈topObjs P:=mO 32 rfl
theorem mem_487 (P:Params):((487:Addr),o_487 P)∈topObjs P:=mO 33 rfl
theorem mem_493 (P:Params):((493:Addr),o_493 P)∈topObjs P:=mO 34 rfl
theorem mem_494 (P:Params):((494:Addr),o_494 P)∈topObjs P:=mO 35 rfl
theorem mem_655 (P:Params):((655:Addr),o_655 P)∈topObjs P:=mO 42 rfl
theorem mem_656 (P:Params):((656:Addr),o_656 P)∈topObjs P:=mO 43 rfl
theorem mem_718 (P:Params):((718:Addr),o_718 P)∈topObjs P:=mO 46 rfl
theorem mem_719 (P:Params):((719:Addr),o_719 P)∈topObjs P:=mO 47 rfl
theorem mem_725 (P:Params):((725:Addr),o_725 P)∈topObjs P:=mO 48 rfl
theorem mem_726 (P:Params):((726:Addr),o_726 P)∈topObjs P:=mO 49 rfl
theorem mem_753 (P:Params):((753:Addr),o_753 P)∈topObjs P:=mO 50 rfl
theorem mem_754 (P:Params):((754:Addr),o_754 P)∈topObjs P:=mO 51 rfl
theorem mem_760 (P:Params):((760:Addr),o_760 P)∈topObjs P:=mO 52 rfl
theorem mem_761 (P:Params):((761:Addr),o_761 P)∈topObjs P:=mO 53 rfl
theorem mem_767 (P:Params):((767:Addr),o_767 P)∈topObjs P:=mO 54 rfl
theorem mem_768 (P:Params):((768:Addr),o_768 P)∈topObjs P:=mO 55 rfl
theorem mem_774 (P:Params):((774:Addr),o_774 P)∈topObjs P:=mO 56 rfl
theorem mem_775 (P:Params):((775:Addr),o_775 P)∈topObjs P:=mO 57 rfl
theorem mem_781 (P:Params):((781:Addr),o_781 P)∈topObjs P:=mO 58 rfl
theorem mem_782 (P:Params):((782:Addr),o_782 P)∈topObjs P:=mO 59 rfl
theorem mem_795 (P:Params):((795:Addr),o_795 P)∈topObjs P:=mO 60 rfl
theorem mem_796 (P:Params):((796:Addr),o_796 P)∈topObjs P:=mO 61 rfl
theorem mem_802 (P:Params):((802:Addr),o_802 P)∈topObjs P:=mO 62 rfl
theorem mem_803 (P:Params):((803:Addr),o_803 P)∈topObjs P:=mO 63 rfl
theorem mem_817 (P:Params):((817:Addr),o_817 P)∈topObjs P:=mO 65 rfl
theorem mem_818 (P:Params):((818:Addr),o_818 P)∈topObjs P:=mO 66 rfl
theorem mem_824 (P:Params):((824:Addr),o_824 P)∈topObjs P:=mO 67 rfl
theorem mem_825 (P:Params):((825:Addr),o_825 P)∈topObjs P:=mO 68 rfl
theorem mem_854 (P:Params):((854:Addr),o_854 P)∈topObjs P:=mO 70 rfl
theorem mem_855 (P:Params):((855:Addr),o_855 P)∈topObjs P:=mO 71 rfl
theorem mem_861 (P:Params):((861:Addr),o_861 P)∈topObjs P:=mO 72 rfl
theorem mem_862 (P:Params):((862:Addr),o_862 P)∈topObjs P:=mO 73 rfl
theorem mem_883 (P:Params):((883:Addr),o_883 P)∈topObjs P:=mO 74 rfl
theorem mem_884 (P:Params):((884:Addr),o_884 P)∈topObjs P:=mO 75 rfl
theorem mem_890 (P:Params):((890:Addr),o_890 P)∈topObjs P:=mO 76 rfl
theorem mem_891 (P:Params):((891:Addr),o_891 P)∈topObjs P:=mO 77 rfl
theorem mem_905 (P:Params):((905:Addr),o_905 P)∈topObjs P:=mO 83 rfl
theorem mem_906 (P:Params):((906:Addr),o_906 P)∈topObjs P:=mO 84 rfl
theorem mem_912 (P:Params):((912:Addr),o_912 P)∈topObjs P:=mO 85 rfl
theorem mem_913 (P:Params):((913:Addr),o_913 P)∈topObjs P:=mO 86 rfl
theorem mem_914 (P:Params):((914:Addr),o_914 P)∈topObjs P:=mO 87 rfl
theorem mem_920 (P:Params):((920:Addr),o_920 P)∈topObjs P:=mO 88 rfl
theorem mem_921 (P:Params):((921:Addr),o_921 P)∈topObjs P:=mO 89 rfl
theorem mem_933 (P:Params):((933:Addr),o_933 P)∈topObjs P:=mO 91 rfl
theorem mem_934 (P:Params):((934:Addr),o_934 P)∈topObjs P:=mO 92 rfl
theorem mem_940 (P:Params):((940:Addr),o_940 P)∈topObjs P:=mO 93 rfl
theorem mem_941 (P:Params):((941:Addr),o_941 P)∈topObjs P:=mO 94 rfl
theorem mem_954 (P:Params):((954:Addr),o_954 P)∈topObjs P:=mO 99 rfl
theorem mem_955 (P:Params):((955:Addr),o_955 P)∈topObjs P:=mO 100 rfl
theorem mem_959 (P:Params):((959:Addr),o_959 P)∈topObjs P:=mO 101 rfl
theorem mem_960 (P:Params):((960:Addr),o_960 P)∈topObjs P:=mO 102 rfl
theorem mem_964 (P:Params):((964:Addr),o_964 P)∈topObjs P:=mO 103 rfl
theorem mem_965 (P:Params):((965:Addr),o_965 P)∈topObjs P:=mO 104 rfl
theorem mem_969 (P:Params):((969:Addr),o_969 P)∈topObjs P:=mO 105 rfl
theorem mem_970 (P:Params):((970:Addr),o_970 P)∈topObjs P:=mO 106 rfl
theorem mem_974 (P:Params):((974:Addr),o_974 P)∈topObjs P:=mO 107 rfl
theorem mem_975 (P:Params):((975:Addr),o_975 P)∈topObjs P:=mO 108 rfl
noncomputable def g1 (x:Str) (v:Value):Str×Value:=(x,v)
noncomputable def topGlobs:List (Str×Value):=[g1 "__name__" (.str "law_ik0093_01" 1548),g1 "__doc__" (.none),g1 "__package__" (.none),g1 "__loader__" (.builtin "__main__.__loader__#opaque"),g1 "__spec__" (.none),g1 "__annotations__" (.ref 6),g1 "__builtins__" (.ref 4),g1 "__file__" (.str "/claim/cut.py" 172),g1 "__cached__" (.none),g1 "_sre" (.ref 12),g1 "deque" (.type "collections.deque"),g1 "_wall" (.ref 44),g1 "sep" (.str "/" 333),g1 "_plain_name" (.ref 51),g1 "ABCMeta" (.ref 68),g1 "_ABCLike" (.ref 101),g1 "_abc_plain_meta" (.ref 110),g1 "fspath" (.ref 117),g1 "_check_arg_types" (.ref 733),g1 "check_arg_types_genericpath" (.ref 124),g1 "_get_sep" (.ref 131),g1 "splitroot" (.ref 138),g1 "dirname" (.ref 789),g1 "dirname_posixpath" (.ref 145),g1 "normpath" (.ref 803),g1 "normpath_posixpath" (.ref 152),g1 "commonpath" (.ref 157),g1 "_twin_re_1" (.ref 162),g1 "_whence" (.ref 169),g1 "_index" (.ref 176),g1 "UnsupportedOperation" (.ref 186),g1 "IOBase" (.ref 206),g1 "BufferedIOBase" (.ref 221),g1 "TextIOBase" (.ref 233),g1 "BytesIO" (.ref 463),g1 "StringIO" (.ref 710),g1 "_kind" (.ref 719),g1 "_fspath" (.ref 726),g1 "check_arg_types_path" (.ref 733),g1 "isabs" (.ref 740),g1 "join" (.ref 913),g1 "join_path" (.ref 747),g1 "splitext" (.ref 754),g1 "_c_path" (.ref 761),g1 "_shelf_fresh" (.ref 768),g1 "_splitroot" (.ref 775),g1 "basename" (.ref 782),g1 "dirname_path" (.ref 789),g1 "_normpath" (.ref 796),g1 "normpath_path" (.ref 803),g1 "shlex" (.ref 894),g1 "split" (.ref 906),g1 "join_shlex" (.ref 913),g1 "_find_unsafe" (.ref 914),g1 "quote" (.ref 921),g1 "_Ignore" (.ref 944),g1 "_modname" (.ref 955),g1 "_law_file" (.ref 960),g1 "_law_told" (.ref 965),g1 "_law_due" (.ref 970),g1 "law" (.ref 975)]
noncomputable def topBts:List (Str×Value):=[g1 "chr" (.builtin "chr"),g1 "getattr" (.builtin "getattr"),g1 "isinstance" (.builtin "isinstance"),g1 "issubclass" (.builtin "issubclass"),g1 "len" (.builtin "len"),g1 "max" (.builtin "max"),g1 "min" (.builtin "min"),g1 "print" (.builtin "print"),g1 "repr" (.builtin "repr"),g1 "bool" (.type "bool"),g1 "bytearray" (.type "bytearray"),g1 "bytes" (.type "bytes"),g1 "complex" (.type "complex"),g1 "dict" (.type "dict"),g1 "enumerate" (.type "enumerate"),g1 "float" (.type "float"),g1 "frozenset" (.type "frozenset"),g1 "property" (.type "property"),g1 "int" (.type "int"),g1 "list" (.type "list"),g1 "map" (.type "map"),g1 "object" (.type "object"),g1 "range" (.type "range"),g1 "set" (.type "set"),g1 "str" (.type "str"),g1 "super" (.type "super"),g1 "tuple" (.type "tuple"),g1 "type" (.type "type"),g1 "AttributeError" (.type "AttributeError"),g1 "StopIteration" (.type "StopIteration"),g1 "TypeError" (.type "TypeError"),g1 "ValueError" (.type "ValueError"),g1 "BytesWarning" (.type "BytesWarning")]
noncomputable def tabG (b:Bool) (o:Obj):Prop:=∃ ps,o={cls:=.none,data:=.fields ps}∧TriplesOk ps.toList∧(b=false→ps=#[])
noncomputable def topT (P:Params) (fs:List Env):TopT:={P:=P,pj:=908,N:=976,globs:=topGlobs,bts:=topBts,objs:=topObjs P,tab:=tabG,fs:=fs}
theorem dk_of {P:Params} {fs:List Env} {a c:Addr} {fd:FuncData} {body:List Stmt} {oa oc:Obj} {vs:Array Value} {q:Str} {t:Tok} (m:(a,oa)∈topObjs P) (d:oa.data=.func fd) (mc:(c,oc)∈topObjs P) (dc:oc.data=.fields vs)
  (hc:fd.code=.ref c) (hv:vs[1]?=some (.str q t)) (hq:fd.qualname=q) (hb:fd.body=.stmts body) (h1:fd.scope.isCoroutine=false) (h2:fd.scope.isGenerator=false)
  (h3:fd.scope.kind=.function) (h4:(fd.scope.names.all fun x=>match x.2 with | .cell=>false | _=>true)=true) (h5:fd.globals=mainGlobals) (h6:fd.builtins=builtinsNs) (h7:fd.closure=[]):DefOK (topT P fs) a fd body :=
 ⟨⟨oa,m,d⟩,fun h x=>⟨c,oc,vs,t,hc,x.objs _ mc,dc,hq▸hv⟩,hb,h1,h2,h3,fun x hx=>by
  have:=List.all_eq_true.mp h4 x hx
  intro e;simp [e] at this,h5,h6,h7⟩
theorem dkc_of {P:Params} {fs:List Env} {a c:Addr} {fd:FuncData} {body:List Stmt} {oa oc:Obj} {vs:Array Value} {q:Str} {t:Tok} (m:(a,oa)∈topObjs P) (d:oa.data=.func fd) (mc:(c,oc)∈topObjs P) (dc:oc.data=.fields vs)
  (hc:fd.code=.ref c) (hv:vs[1]?=some (.str q t)) (hq:fd.qualname=q) (hb:fd.body=.stmts body) (h1:fd.scope.isCoroutine=false) (h2:fd.scope.isGenerator=false)
  (h3:fd.scope.kind=.function) (h4:(fd.scope.names.map (·.1)).Nodup) (h5:fd.globals=mainGlobals) (h6:fd.builtins=builtinsNs) (h7:fd.closure=[]):DefOKC (topT P fs) a fd body :=
 ⟨⟨oa,m,d⟩,fun h x=>⟨c,oc,vs,t,hc,x.objs _ mc,dc,hq▸hv⟩,hb,h1,h2,h3,h4,h5,h6,h7⟩
theorem dk_117 (P:Params) {fs:List Env}:DefOK (topT P fs) 117 fd_117 (fnB (st 12)):=dk_of (mem_117 P) rfl (mem_116 P) rfl rfl rfl rfl rfl rfl rfl rfl rfl rfl rfl rfl
theorem dk_131 (P:Params) {fs:List Env}:DefOK (topT P fs) 131 fd_131 (fnB (st 17)):=dk_of (mem_131 P) rfl (mem_130 P) rfl rfl rfl rfl rfl rfl rfl rfl rfl rfl rfl rfl
theorem dk_138 (P:Params) {fs:List Env}:DefOK (topT P fs) 138 fd_138 (fnB (st 18)):=dk_of (mem_138 P) rfl (mem_137 P) rfl rfl rfl rfl rfl rfl rfl rfl rfl rfl rfl rfl
theorem dk_145 (P:Params) {fs:List Env}:DefOK (topT P fs) 145 fd_145 (fnB (st 19)):=dk_of (mem_145 P) rfl (mem_144 P) rfl rfl rfl rfl rfl rfl rfl rfl rfl rfl rfl rfl
theorem dk_152 (P:Params) {fs:List Env}:DefOK (topT P fs) 152 fd_152 (fnB (st 21)):=dk_of (mem_152 P) rfl (mem_151 P) rfl rfl rfl rfl rfl rfl rfl rfl rfl rfl rfl rfl
theorem dk_176 (P:Params) {fs:List Env}:DefOK (topT P fs) 176 fd_176 (fnB (st 27)):=dk_of (mem_176 P) rfl (mem_175 P) rfl rfl rfl rfl rfl rfl rfl rfl rfl rfl rfl rfl
theorem dk_203 (P:Params) {fs:List Env}:DefOK (topT P fs) 203 fd_203 (fnB (sc 29 1)):=dk_of (mem_203 P) rfl (mem_202 P) rfl rfl rfl rfl rfl rfl rfl rfl rfl rfl rfl rfl
theorem dk_480 (P:Params) {fs:List Env}:DefOK (topT P fs) 480 fd_480 (fnB (sc 33 1)):=dk_of (mem_480 P) rfl (mem_479 P) rfl rfl rfl rfl rfl rfl rfl rfl rfl rfl rfl rfl
theorem dk_487 (P:Params) {fs:List Env}:DefOK (topT P fs) 487 fd_487 (fnB (sc 33 2)):=dk_of (mem_487 P) rfl (mem_486 P) rfl rfl rfl rfl rfl rfl rfl rfl rfl rfl rfl rfl
theorem dk_494 (P:Params) {fs:List Env}:DefOK (topT P fs) 494 fd_494 (fnB (sc 33 3)):=dk_of (mem_494 P) rfl (mem_493 P) rfl rfl rfl rfl rfl rfl rfl rfl rfl rfl rfl rfl
theorem dk_656 (P:Params) {fs:List Env}:DefOK (topT P fs) 656 fd_656 (fnB (sc 33 25)):=dk_of (mem_656 P) rfl (mem_655 P) rfl rfl rfl rfl rfl rfl rfl rfl rfl rfl rfl rfl
theorem dk_719 (P:Params) {fs:List Env}:DefOK (topT P fs) 719 fd_719 (fnB (st 35)):=dk_of (mem_719 P) rfl (mem_718 P) rfl rfl rfl rfl rfl rfl rfl rfl rfl rfl rfl rfl
theorem dk_726 (P:Params) {fs:List Env}:DefOK (topT P fs) 726 fd_726 (fnB (st 36)):=dk_of (mem_726 P) rfl (mem_725 P) rfl rfl rfl rfl rfl rfl rfl rfl rfl rfl rfl rfl
theorem dk_754 (P:Params) {fs:List Env}:DefOK (topT P fs) 754 fd_754 (fnB (st 42)):=dk_of (mem_754 P) rfl (mem_753 P) rfl rfl rfl rfl rfl rfl rfl rfl rfl rfl rfl rfl
theorem dk_761 (P:Params) {fs:List Env}:DefOK (topT P fs) 761 fd_761 (fnB (st 43)):=dk_of (mem_761 P) rfl (mem_760 P) rfl rfl rfl rfl rfl rfl rfl rfl rfl rfl rfl rfl
theorem dk_768 (P:Params) {fs:List Env}:DefOK (topT P fs) 768 fd_768 (fnB (st 44)):=dk_of (mem_768 P) rfl (mem_767 P) rfl rfl rfl rfl rfl rfl rfl rfl rfl rfl rfl rfl
theorem dk_775 (P:Params) {fs:List Env}:DefOK (topT P fs) 775 fd_775 (fnB (st 45)):=dk_of (mem_775 P) rfl (mem_774 P) rfl rfl rfl rfl rfl rfl rfl rfl rfl rfl rfl rfl
theorem dk_782 (P:Params) {fs:List Env}:DefOK (topT P fs) 782 fd_782 (fnB (st 46)):=dk_of (mem_782 P) rfl (mem_781 P) rfl rfl rfl rfl rfl rfl rfl rfl rfl rfl rfl rfl
theorem dk_796 (P:Params) {fs:List Env}:DefOK (topT P fs) 796 fd_796 (fnB (st 49)):=dk_of (mem_796 P) rfl (mem_795 P) rfl rfl rfl rfl rfl rfl rfl rfl rfl rfl rfl rfl
theorem dk_803 (P:Params) {fs:List Env}:DefOK (topT P fs) 803 fd_803 (fnB (st 50)):=dk_of (mem_803 P) rfl (mem_802 P) rfl rfl rfl rfl rfl rfl rfl rfl rfl rfl rfl rfl
theorem dk_818 (P:Params) {fs:List Env}:DefOK (topT P fs) 818 fd_818 (fnB (sc 53 0)):=dk_of (mem_818 P) rfl (mem_817 P) rfl rfl rfl rfl rfl rfl rfl rfl rfl rfl rfl rfl
theorem dk_825 (P:Params) {fs:List Env}:DefOK (topT P fs) 825 fd_825 (fnB (sc 53 1)):=dk_of (mem_825 P) rfl (mem_824 P) rfl rfl rfl rfl rfl rfl rfl rfl rfl rfl rfl rfl
theorem dk_855 (P:Params) {fs:List Env}:DefOK (topT P fs) 855 fd_855 (fnB (sc 53 5)):=dk_of (mem_855 P) rfl (mem_854 P) rfl rfl rfl rfl rfl rfl rfl rfl rfl rfl rfl rfl
theorem dk_862 (P:Params) {fs:List Env}:DefOK (topT P fs) 862 fd_862 (fnB (sc 53 6)):=dk_of (mem_862 P) rfl (mem_861 P) rfl rfl rfl rfl rfl rfl rfl rfl rfl rfl rfl rfl
theorem dk_884 (P:Params) {fs:List Env}:DefOK (topT P fs) 884 fd_884 (fnB (sc 53 9)):=dk_of (mem_884 P) rfl (mem_883 P) rfl rfl rfl rfl rfl rfl rfl rfl rfl rfl rfl rfl
theorem dk_891 (P:Params) {fs:List Env}:DefOK (topT P fs) 891 fd_891 (fnB (sc 53 10)):=dk_of (mem_891 P) rfl (mem_890 P) rfl rfl rfl rfl rfl rfl rfl rfl rfl rfl rfl rfl
theorem dk_906 (P:Params) {fs:List Env}:DefOK (topT P fs) 906 fd_906 (fnB (st 54)):=dk_of (mem_906 P) rfl (mem_905 P) rfl rfl rfl rfl rfl rfl rfl rfl rfl rfl rfl rfl
theorem dk_913 (P:Params) {fs:List Env}:DefOK (topT P fs) 913 fd_913 (fnB (st 55)):=dk_of (mem_913 P) rfl (mem_912 P) rfl rfl rfl rfl rfl rfl rfl rfl rfl rfl rfl rfl
theorem dk_921 (P:Params) {fs:List Env}:DefOK (topT P fs) 921 fd_921 (fnB (st 58)):=dk_of (mem_921 P) rfl (mem_920 P) rfl rfl rfl rfl rfl rfl rfl rfl rfl rfl rfl rfl
theorem dk_934 (P:Params) {fs:List Env}:DefOK (topT P fs) 934 fd_934 (fnB (sc 60 0)):=dk_of (mem_934 P) rfl (mem_933 P) rfl rfl rfl rfl rfl rfl rfl rfl rfl rfl rfl rfl
theorem dk_941 (P:Params) {fs:List Env}:DefOK (topT P fs) 941 fd_941 (fnB (sc 60 1)):=dk_of (mem_941 P) rfl (mem_940 P) rfl rfl rfl rfl rfl rfl rfl rfl rfl rfl rfl rfl
theorem dk_955 (P:Params) {fs:List Env}:DefOK (topT P fs) 955 fd_955 (fnB (st 61)):=dk_of (mem_955 P) rfl (mem_954 P) rfl rfl rfl rfl rfl rfl rfl rfl rfl rfl rfl rfl
theorem dk_960 (P:Params) {fs:List Env}:DefOK (topT P fs) 960 fd_960 (fnB (st 63)):=dk_of (mem_960 P) rfl (mem_959 P) rfl rfl rfl rfl rfl rfl rfl rfl rfl rfl rfl rfl
theorem dk_970 (P:Params) {fs:List Env}:DefOK (topT P fs) 970 fd_970 (fnB (st 65)):=dk_of (mem_970 P) rfl (mem_969 P) rfl rfl rfl rfl rfl rfl rfl rfl rfl rfl rfl rfl
theorem dk_157 (P:Params) {fs:List Env}:DefOKC (topT P fs) 157 fd_157 (fnB (st 23)):=dkc_of (mem_157 P) rfl (mem_156 P) rfl rfl rfl rfl rfl rfl rfl rfl (by decide +kernel) rfl rfl rfl
theorem dk_965 (P:Params) {fs:List Env}:DefOKC (topT P fs) 965 fd_965 (fnB (st 64)):=dkc_of (mem_965 P) rfl (mem_964 P) rfl rfl rfl rfl rfl rfl rfl rfl (by decide +kernel) rfl rfl rfl
theorem dk_975 (P:Params) {fs:List Env}:DefOKC (topT P fs) 975 fd_975 (fnB (st 66)):=dkc_of (mem_975 P) rfl (mem_974 P) rfl rfl rfl rfl rfl rfl rfl rfl (by decide +kernel) rfl rfl rfl
noncomputable def topAddrs:List Addr:=[2,3,4,116,117,130,131,137,138,144,145,151,152,156,157,161,162,175,176,202,203,205,206,207,208,209,232,233,463,473,479,480,486,487,493,494,516,524,532,540,548,649,655,656,709,710,718,719,725,726,753,754,760,761,767,768,774,775,781,782,795,796,802,803,811,817,818,824,825,826,854,855,861,862,883,884,890,891,893,894,895,896,899,905,906,912,913,914,920,921,929,933,934,940,941,943,944,945,946,954,955,959,960,964,965,969,970,974,975]
noncomputable abbrev Obs:=(List (Option Obj)×Option Obj×Nat×Bool)×Bool×List (Option Value×Option Value)×List (Option Value)×Option Value
noncomputable def obsF (s:Shared):Obs:=((topAddrs.map s.heap.get?,s.heap.get? 908,s.heap.objs.size,decide (0<s.toks)),s.heap.isNs builtinsNs && s.heap.isNs mainGlobals && s.heap.isNs cStatics,
 topBts.map (fun p=>(s.heap.nsMap builtinsNs p.1,s.heap.nsMap mainGlobals p.1)),topGlobs.map (fun p=>s.heap.nsMap mainGlobals p.1),s.heap.nsMap cStatics "sys.recursionlimit")
noncomputable def obsV (w:World):Obs:=(((topObjs w.params).map fun p=>some p.2,some {cls:=.none,data:=.fields #[]},976,true),true,topBts.map (fun p=>(some p.2,none)),topGlobs.map (fun p=>some p.2),none)
theorem lkV_mem {x:Str} {v:Value}:∀ {l:List (Str×Value)},lkV l x=some v→∃ p∈l,p.1=x∧p.2=v
 | [],h=>by cases h
 | p :: r,h=>by
  unfold lkV at h
  cases e:Fast.sEq p.1 x with
  | true =>
   rw[e] at h
   exact ⟨p,.head _,Fast.sEq_iff.mp e,Option.some.inj h⟩
  | false =>
   rw[e] at h
   obtain ⟨q,hq,h1,h2⟩:=lkV_mem h
   exact ⟨q,.tail _ hq,h1,h2⟩
theorem top_ok {w:World} {s₀:Shared} {h₁:Heap} (y:obsF s₀=obsV w) (hk:∀ b o,s₀.heap.get? b=some o→h₁.get? b=some o) (hz:s₀.heap.objs.size≤h₁.objs.size):TopOK (topT w.params []) h₁∧h₁.get? 908=some {cls:=.none,data:=.fields #[]}∧s₀.heap.objs.size=976∧0<s₀.toks:=by
 have y1:=congrArg (fun o=>o.1.1) y
 have y2:=congrArg (fun o=>o.1.2.1) y
 have y3:=congrArg (fun o=>o.1.2.2.1) y
 have y4:=congrArg (fun o=>o.1.2.2.2) y
 have y5:=congrArg (fun o=>o.2.1) y
 have y6:=congrArg (fun o=>o.2.2.1) y
 have y7:=congrArg (fun o=>o.2.2.2.1) y
 have y8:=congrArg (fun o=>o.2.2.2.2) y
 dsimp only [obsF,obsV] at y1 y2 y3 y4 y5 y6 y7 y8
 rw[show topAddrs=(topObjs w.params).map (·.1) from rfl,List.map_map] at y1
 have z1:∀ p∈topObjs w.params,s₀.heap.get? p.1=some p.2:=List.map_inj_left.mp y1
 simp only [Bool.and_eq_true] at y5
 obtain ⟨⟨n0,n3⟩,n2⟩:=y5
 have z6:=List.map_inj_left.mp y6
 have z7:=List.map_inj_left.mp y7
 refine ⟨⟨⟨_,(Heap.Ns.of_isNs n2).keeps hk,y8⟩,⟨_,_,(Heap.Ns.of_isNs n3).keeps hk,(Heap.Ns.of_isNs n0).keeps hk,fun x v h=>?_,fun x v h=>?_⟩,fun p hp=>hk _ _ (z1 p hp),by show 976≤_;rw[← y3];exact hz⟩,hk _ _ y2,y3,of_decide_eq_true y4⟩
 ·obtain ⟨p,hp,rfl,rfl⟩:=lkV_mem h
  exact z7 p hp
 ·obtain ⟨p,hp,rfl,rfl⟩:=lkV_mem h
  have:=z6 p hp
  exact ⟨congrArg Prod.snd this,congrArg Prod.fst this⟩
noncomputable abbrev rowL:OpenRow:=PySem.Challenge.rw_ik0093_01.row
noncomputable def laidI:List Int→Nat→List Value
 | [],_=>[]
 | x :: r,t=>.int x t :: laidI r (t+1)
theorem lay_ints {R:WRecords} {cl:Str→Option Addr} {P:Params} {ord:List DictEntry→List DictEntry}:∀ (sc:List Int) (s:Shared),layAllW R cl P ord (sc.map .int) s=some (laidI sc s.toks,{s with toks:=s.toks+sc.length})
 | [],s=>by rw[List.map_nil,layAllW];rfl
 | x :: r,s=>by
  rw[List.map_cons,layAllW,layW]
  dsimp only
  rw[lay_ints r]
  dsimp only
  rw[laidI,List.length_cons,Nat.add_right_comm,Nat.add_assoc]
theorem ints_vrs {K:Kt} {h:Heap}:∀ (sc:List Int) (t:Nat),0<t→VRs K h (sc.map .int) (laidI sc t)
 | [],_,_=>.nil
 | x :: r,t,ht=>.cons (.int _ _ (Nat.ne_of_gt ht)) (ints_vrs r _ (Nat.succ_pos _))
theorem args_ints {args:List WData} (h:rowL.toRowW.claim.pre args=true):∃ sc:List Int,args=[.list (sc.map .int)]∧sc.length≤63:=by
 obtain ⟨h1,h2⟩:=pre_splitW h
 obtain ⟨d,r,rfl,hd,hr⟩:=hasAllW_cons (show WShape.hasAll rowL.records args [.list .int]=true from h1)
 have hr:r=[]:=by
  cases r with
  | nil=>rfl
  | cons a b=>cases (show false=true from hr)
 subst hr
 obtain ⟨sc,rfl⟩:∃ sc:List Int,d=.list (sc.map .int):=by
  cases d with
  | list xs =>
   have hd:WShape.hasItems rowL.records xs .int=true:=(Bool.or_false _).symm.trans hd
   clear h1 h2 h
   have key:∀ xs:List WData,WShape.hasItems rowL.records xs .int=true→∃ sc:List Int,xs=sc.map .int:=by
    intro xs
    induction xs with
    | nil=>exact fun _=>⟨[],rfl⟩
    | cons x r ih =>
     intro hx
     rw[WShape.hasItems,Bool.and_eq_true] at hx
     obtain ⟨sc,rfl⟩:=ih hx.2
     cases x with
     | int i=>exact ⟨i :: sc,rfl⟩
     | _=>cases (show false=true from hx.1)
   obtain ⟨sc,rfl⟩:=key xs hd
   exact ⟨sc,rfl⟩
  | _=>cases (show false=true from hd)
 refine ⟨sc,rfl,?_⟩
 have e:WTm.holds rowL.records rowL.pre {args:=[WData.list (sc.map .int)]}=!decide ((63:Int)<((sc.map WData.int).length:Int)):=by
  simp [WTm.holds,WTm.value,OpenLaw.pre,PySem.Challenge.rw_ik0093_01,OpenLaw.row]
  rw[show less? (WData.int 63) (WData.int (sc.length:Int))=some (decide ((63:Int)<(sc.length:Int))) from rfl]
  cases decide ((63:Int)<(sc.length:Int)) <;> rfl
 rw[e,List.length_map] at h2
 simp at h2
 lia
theorem tri_nil:TriplesOk (#[]:Array Value).toList:=by constructor
theorem addrs_low:topAddrs.all (fun a=>decide (a<976∧a≠908))=true:=by decide +kernel
theorem kt_well (P:Params):(topT P []).Well:=⟨show (908:Nat)≠3∧(908:Nat)≠0∧(908:Nat)≠2 by decide,show (3:Nat)<976∧(0:Nat)<976∧(2:Nat)<976 by decide,show (908:Nat)<976 by decide,rfl,fun p hp =>
 of_decide_eq_true (List.all_eq_true.mp addrs_low p.1 (show p.1∈(topObjs P).map (·.1) from List.mem_map_of_mem hp))⟩
noncomputable def K0:Kt:=⟨[(908,[])],[]⟩
theorem law_call {w:World} {s₀ s₁:Shared} {args:List WData} {vs:List Value} {as:List Addr} (y:obsF s₀=obsV w) (hpre:rowL.toRowW.claim.pre args=true) (L:Laid rowL.records w s₀ s₁ args vs as)
  (walk:∀ {sc:List Int} {Q:D→List AO→Prop},(∀ o,o[0]?=some (.tab true)→Q (.bool true) o)→XC (topT w.params []) w 14 (.ref 975) [.list (sc.map .int)] [] [] [.tab false] Q) :
  wpAny (model pw w) callerA (PySem.call (.ref 975) vs) (fun v s'=>GoodWG rowL.toRowW.claim (classAt s₀.heap) (ExcName.means s₀.heap) args s₁ (.ok (.ret v)) s') (fun e s'=>GoodWG rowL.toRowW.claim (classAt s₀.heap) (ExcName.means s₀.heap) args s₁ (.error e) s') s₁:=by
 obtain ⟨sc,rfl,hsc⟩:=args_ints hpre
 obtain ⟨ord,_,hlaid⟩:=L.laid
 rw[layAllW,layW,lay_ints] at hlaid
 dsimp only at hlaid
 rw[layAllW] at hlaid
 dsimp only at hlaid
 injection hlaid with hlaid
 obtain ⟨e1,e2⟩:=Prod.mk.inj hlaid
 have hz₁:s₁.heap.objs.size=s₀.heap.objs.size+1:=by rw[← e2];exact Heap.size_push _ _
 obtain ⟨top,h908,hz,htk⟩:=top_ok y L.keeps (by rw[hz₁];exact Nat.le_succ _)
 have hlist:s₁.heap.get? 976=some (listO (laidI sc s₀.toks) 0):=by
  rw[← e2,← hz]
  exact Heap.get?_push_size _ rfl
 have htok:0<s₁.toks:=by rw[← e2];exact Nat.lt_of_lt_of_le htk (Nat.le_add_right _ _)
 rw[hz] at hz₁
 have X:Tr (topT w.params []) K0 [.tab false] s₁:=by
  refine ⟨kt_well _,top,rfl,⟨List.pairwise_singleton _ _,fun q hq=>?_⟩,fun a ha=>.inr (List.mem_singleton.mp ha),fun a ha=>?_,fun k p ao h1 h2=>?_,?_,htok,fun a ha=>(by cases ha),fun e he=>(by cases he)⟩
  ·rw[List.mem_singleton.mp hq];exact List.nodup_cons.mpr ⟨fun q=>(by cases q),List.nodup_nil⟩
  ·have:a=908:=List.mem_singleton.mp ha
   rw[this,hz₁];decide
  ·cases k with
   | succ k=>cases h1
   | zero =>
    cases h1;cases h2
    exact ⟨rfl,_,h908,#[],rfl,tri_nil,fun _=>rfl⟩
  ·rw[L.gens];exact ⟨by intro i;simp,Nat.zero_le _⟩
 have R:Room (topT w.params []) callerA 14:=⟨by decide,by decide,rfl,rfl⟩
 have hv:VRs K0 s₁.heap [.list (sc.map .int)] vs:=by
  rw[← e1]
  refine .cons (.list (n:=0) (xs:=laidI sc s₀.toks) ?_ ?_ (by rw[List.length_map];lia) (ints_vrs sc _ htk)) .nil
  ·show s₁.heap.get? s₀.heap.objs.size=_
   rw[hz];exact hlist
  ·intro q
   have:s₀.heap.objs.size=908:=List.mem_singleton.mp q
   lia
 refine wpAny_mono ((walk (Q:=fun d o=>d=.bool true∧o[0]?=some (.tab true)) fun o h=>⟨rfl,h⟩).2 callerA s₁ K0 vs [] R X hv .nil) (fun v s' hh=>?_) fun _ _ h=>h.elim
 obtain ⟨K',d,o,P,r,rfl,ht⟩:=hh
 cases r
 obtain ⟨K₂,hK⟩:=P.grows.ext
 have hk0:K'.k[0]?=some (908,[]):=by rw[hK];rfl
 obtain ⟨_,ot,hot,ps,rfl,tri,_⟩:=P.tr.ob 0 _ _ hk0 ht
 have old:∀ b o,s₁.heap.get? b=some o→(s'.heap.get? b=some o∧b≠908)∨(b=908∧o={cls:=.none,data:=.fields #[]}):=fun b o e=>by
  by_cases hb:b=908
  ·subst hb
   rw[h908] at e
   exact .inr ⟨rfl,(Option.some.inj e).symm⟩
  ·obtain ⟨o',q1,q2,q3⟩:=P.pres.kp b o e fun q=>hb (List.mem_singleton.mp q)
   have hh:hard b o:=by
    by_cases hl:b<976
    ·exact .inl hl
    ·have:=Heap.lt_size e
     rw[hz₁] at this
     have:b=976:=Nat.le_antisymm (Nat.le_of_lt_succ this) (Nat.not_lt.mp hl)
     subst this
     rw[hlist] at e
     cases e
     exact .inr fun es n q=>by cases q
   exact .inl ⟨by rw[q1,q3 hh],hb⟩
 refine ⟨.inl ⟨.bool true,.bool true,[],rfl,fun _=>rfl,.bool true,?_,fun _=>⟨List.nodup_nil,fun a ha=>(by cases ha)⟩⟩,⟨fun b o e=>?_,fun b o e=>?_⟩,P.pres.os,P.tr.gens.1⟩
 ·show (WShape.has rowL.records (.bool true) .bool && WTm.holds rowL.records (.eq .res (.lit (.bool true))) {args:=[.list (sc.map .int)],res:=some (.bool true),after:=[.list (sc.map .int)]})=true
  kernel_rfl
 ·rcases old b o e with ⟨h,_⟩ | ⟨rfl,rfl⟩
  ·exact .inl h
  ·refine .inr (.inl ⟨⟨912,o_912 w.params,_,top.objs _ (mem_912 _),rfl,rfl,rfl⟩,rfl,#[],ps,rfl,?_⟩)
   rw[hot];simp
 ·rcases old b o e with ⟨h,_⟩ | ⟨rfl,rfl⟩
  ·exact ⟨_,h⟩
  ·exact ⟨_,hot⟩
noncomputable def mkT (g:Nat→Obj) (n:Nat):Nat→Nat→Nat→BT
 | 0,_,_=>.nil
 | k+1,a,b=>match Nat.blt b n with
  | true=>.node (g b) (mkT g n k (2 * a) (a+b)) (mkT g n k (2 * a) (2 * a+b))
  | false=>.nil
theorem two_mul_at (a j:Nat):2 * a * j=2 * (a * j):=Nat.mul_assoc 2 a j
theorem mul_odd (a j b:Nat):2 * a * j+(a+b)=a * (2 * j+1)+b:=by
 rw[Nat.mul_add,Nat.mul_one,two_mul_at,Nat.mul_left_comm a 2 j,Nat.add_assoc]
theorem mul_even (a j b:Nat):2 * a * j+(2 * a+b)=a * (2 * j+2)+b:=by
 rw[Nat.mul_add,two_mul_at,Nat.mul_left_comm a 2 j,Nat.mul_comm a 2,Nat.add_assoc]
theorem pow_half {j k c:Nat} (h:2 * j+c<2 ^ (k+1)) (hc:2≤c):j+1<2 ^ k:=by
 rw[Nat.pow_succ] at h
 lia
theorem mkT_get {g:Nat→Obj} {n:Nat}:∀ (k a b i:Nat),i+1<2 ^ k→a * i+b<n→(mkT g n k a b).get i=some (g (a * i+b))
 | 0,_,_,i,h,_=>absurd h (Nat.not_lt.mpr (Nat.succ_le_succ (Nat.zero_le i)))
 | k+1,a,b,i,h,hn=>by
  have hb:Nat.blt b n=true:=Nat.ble_eq_true_of_le (Nat.lt_of_le_of_lt (Nat.le_add_left b (a * i)) hn)
  unfold mkT
  rw[hb]
  dsimp only
  rw[BT.get_node]
  by_cases h0:i=0
  ·subst h0
   rw[if_pos rfl,Nat.mul_zero,Nat.zero_add]
  ·rw[if_neg h0]
   by_cases p:i % 2=1
   ·obtain ⟨j,rfl⟩:∃ j,i=2 * j+1:=⟨i / 2,by lia⟩
    rw[if_pos p,(odd_half j).2,← mul_odd] at *
    exact mkT_get k (2 * a) (a+b) j (pow_half (c:=2) h (Nat.le_refl _)) hn
   ·obtain ⟨j,rfl⟩:∃ j,i=2 * j+2:=⟨i / 2 - 1,by lia⟩
    rw[if_neg p,(even_half j).2,← mul_even] at *
    exact mkT_get k (2 * a) (2 * a+b) j (pow_half (c:=3) h (by decide)) hn
noncomputable def lkO:List (Addr×Obj)→Addr→Option Obj
 | [],_=>none
 | p :: r,a=>match Nat.beq p.1 a with
  | true=>some p.2
  | false=>lkO r a
theorem lkO_mem {a:Addr} {o:Obj}:∀ {l:List (Addr×Obj)},lkO l a=some o→∃ p∈l,p.1=a
 | [],h=>by cases h
 | p :: r,h=>by
  unfold lkO at h
  cases e:Nat.beq p.1 a with
  | true=>exact ⟨p,.head _,Nat.eq_of_beq_eq_true e⟩
  | false =>
   rw[e] at h
   obtain ⟨q,hq,hh⟩:=lkO_mem h
   exact ⟨q,.tail _ hq,hh⟩
noncomputable def ovr (l:List (Addr×Obj)) (f:Nat→Obj) (a:Nat):Obj:=match lkO l a with
 | some o=>o
 | none=>f a
noncomputable def SK (l:List (Addr×Obj)) (n t:Nat) (f:Nat→Obj) (os:OsState):SharedT:=⟨mkT (ovr l f) n 10 1 0,n,{},#[],{},t,os⟩
noncomputable def seeT (s:SharedT) (a:Addr):Option Obj:=match s.tree.get a with
 | some o=>alive o
 | none=>none
noncomputable def seeK (s:SharedT):List (Addr×Obj)→List (Option Obj)
 | []=>[]
 | p :: r=>match Nat.blt p.1 s.n with
  | true=>seeT s p.1 :: seeK s r
  | false=>seeK s r
noncomputable def valK (l:List (Addr×Obj)) (n:Nat):List (Addr×Obj)→List (Option Obj)
 | []=>[]
 | p :: r=>match Nat.blt p.1 n with
  | true=>lkO l p.1 :: valK l n r
  | false=>valK l n r
theorem see_get {s:SharedT} {a:Addr} {o:Obj} (h:a<s.n) (e:seeT s a=some o):s.abs.heap.get? a=some o:=by
 unfold seeT at e
 cases g:s.tree.get a with
 | none=>rw[g] at e;cases e
 | some o'=>rw[g] at e;exact (abs_get h g).trans e
theorem known_of {s:SharedT} {l:List (Addr×Obj)}:∀ {m:List (Addr×Obj)},seeK s m=valK l s.n m→∀ p∈m,p.1<s.n→∀ o,lkO l p.1=some o→s.abs.heap.get? p.1=some o
 | [],_,p,hp,_,_,_=>by cases hp
 | q :: r,h,p,hp,hn,o,ho=>by
  unfold seeK valK at h
  cases e:Nat.blt q.1 s.n with
  | true =>
   rw[e] at h
   injection h with h1 h2
   cases hp with
   | head=>exact see_get hn (h1.trans ho)
   | tail _ hp=>exact known_of h2 p hp hn o ho
  | false =>
   rw[e] at h
   cases hp with
   | head=>rw[show Nat.blt q.1 s.n=true from Nat.ble_eq_true_of_le hn] at e;cases e
   | tail _ hp=>exact known_of h p hp hn o ho
structure Kn (l:List (Addr×Obj)) (n t:Nat) (s:Shared):Prop where
 size:s.heap.objs.size=n
 life:s.heap.life={}
 gens:s.gens=#[]
 drawn:s.drawn={}
 toks:s.toks=t
 known:∀ a o,a<n→lkO l a=some o→s.heap.get? a=some o
theorem get_objs {h:Heap} {a:Addr} {o:Obj} (e:h.get? a=some o):h.objs[a]?=some o:=by
 unfold Heap.get? at e
 cases g:h.objs[a]? with
 | none=>rw[g] at e;cases e
 | some x =>
  rw[g] at e
  obtain ⟨_,_,d,_⟩:=x
  cases d <;> first | exact e | cases e
theorem known_abs {l:List (Addr×Obj)} {n t:Nat} {s:Shared} (k:Kn l n t s) (hn:n<1023):s=(SK l n t (fun a=>(s.heap.objs[a]?).getD default) s.os).abs:=by
 obtain ⟨⟨objs,life⟩,gens,drawn,toks,os⟩:=s
 obtain ⟨k1,k2,k3,k4,k5,k6⟩:=k
 dsimp only at k1 k2 k3 k4 k5
 subst k1 k2 k3 k4 k5
 have e:absHeap (mkT (ovr l fun a=>(objs[a]?).getD default) objs.size 10 1 0) objs.size {}=⟨objs,{}⟩:=by
  have:(absHeap (mkT (ovr l fun a=>(objs[a]?).getD default) objs.size 10 1 0) objs.size {}).objs=objs:=by
   apply Array.ext_getElem?
   intro i
   rw[absHeap_at]
   by_cases hi:i<objs.size
   ·rw[if_pos hi,mkT_get 10 1 0 i (by lia) (by lia),Nat.one_mul,Nat.add_zero,Option.getD_some]
    unfold ovr
    cases q:lkO l i with
    | none =>
     dsimp only
     rw[Array.getElem?_eq_getElem hi]
     rfl
    | some o=>exact (get_objs (k6 i o hi q)).symm
   ·rw[if_neg hi,Array.getElem?_eq_none (Nat.not_lt.mp hi)]
  exact congrArg (fun x=>(⟨x,{}⟩:Heap)) this
 show _=(⟨absHeap (mkT (ovr l fun a=>(objs[a]?).getD default) objs.size 10 1 0) objs.size {},#[],{},toks,os⟩:Shared)
 rw[e]
noncomputable abbrev ObK:=List (Option Obj)×Nat×Nat×Life×Array GenState×Drawn
noncomputable def obK (l:List (Addr×Obj)) (s:SharedT):ObK:=(seeK s l,s.n,s.toks,s.life,s.gens,s.drawn)
noncomputable def vaK (l:List (Addr×Obj)) (n t:Nat):ObK:=(valK l n l,n,t,{},#[],{})
theorem kn_of {l:List (Addr×Obj)} {n t:Nat} {s:SharedT} (h:obK l s=vaK l n t):Kn l n t s.abs:=by
 have e:s.n=n:=congrArg (fun x:ObK=>x.2.1) h
 refine ⟨(absHeap_size _ _ _).trans e,congrArg (fun x:ObK=>x.2.2.2.1) h,congrArg (fun x:ObK=>x.2.2.2.2.1) h,congrArg (fun x:ObK=>x.2.2.2.2.2) h,congrArg (fun x:ObK=>x.2.2.1) h,fun a o ha ho=>?_⟩
 obtain ⟨p,hp,rfl⟩:=lkO_mem ho
 refine known_of (l:=l) (m:=l) ?_ p hp (e▸ha) o ho
 rw[e]
 exact congrArg (fun x:ObK=>x.1) h
noncomputable def envL:Env:={scope:=pw.main.scope,locals:=mainNs,globals:=mainNs,cells:=[],code:=.ref 36,frame:=some 37}
noncomputable def codL:Code:=.body (behindTheImports pw) envL
noncomputable def p0:Pos:=⟨0,0,0,0⟩
noncomputable abbrev obR (l:List (Addr×Obj)) (r:Flow×SharedT×Code×Pos):Flow×ObK×Code×Pos:=(r.1,obK l r.2.1,r.2.2)
abbrev PieceOk (l:Params→List (Addr×Obj)) (n t:Nat) (l':Params→List (Addr×Obj)) (n' t' N:Nat) (sts:List Stmt) (p p':Pos):Prop :=
 ∀ (w:World) (f:Nat→Obj) (os:OsState),(segRunT treeTable pw w 34 (some (.ref 6)) 1 N (SK (l w.params) n t f os) (piecesOf sts envL codL p [topFrame p0])).map (obR (l' w.params))=some (.next,vaK (l' w.params) n' t',codL,p')
theorem ran_of {l:List (Addr×Obj)} {x:Flow×SharedT×Code×Pos} {f:Flow} {v:ObK} {c:Code} {p:Pos} (h:obR l x=(f,v,c,p)):x=(f,x.2.1,c,p)∧obK l x.2.1=v:=by
 obtain ⟨_,_,_,_⟩:=x
 cases h
 exact ⟨rfl,rfl⟩
theorem trip_of {x:Flow×SharedT×Code×Pos} {f:Flow} {c:Code} {p:Pos} (h:(x.1,x.2.2)=(f,c,p)):x=(f,x.2.1,c,p):=by
 obtain ⟨_,_,_,_⟩:=x
 cases h
 rfl
theorem pair_of {x:Shared×Thread} {t:Thread} (h:x.2=t):x=(x.1,t):=by
 cases h
 rfl
theorem piece_step {l l':Params→List (Addr×Obj)} {n t n' t' N:Nat} {sts:List Stmt} {p p':Pos} (H:PieceOk l n t l' n' t' N sts p p') (hn:n<1023) {w:World} {s:Shared} (k:Kn (l w.params) n t s) :
  ∃ s',segRun treeTable pw w 34 (some (.ref 6)) 1 N s (piecesOf sts envL codL p [topFrame p0])=some (.next,s',codL,p')∧Kn (l' w.params) n' t' s':=by
 obtain ⟨x,h1,h2⟩:=Option.map_eq_some_iff.mp (H w (fun a=>(s.heap.objs[a]?).getD default) s.os)
 have h:=segRun_of (h1.trans (congrArg some (ran_of h2).1))
 rw[← known_abs k hn] at h
 exact ⟨_,h,kn_of (ran_of h2).2⟩
end Mine.Internal
end
section
open PySem PySem.W PyProof.Rows
set_option maxHeartbeats 8000000
namespace Mine.Internal
noncomputable def esOf (o:Obj):List DictEntry:=match o.data with
 | .dict es _=>es.toList
 | _=>[]
noncomputable def updE (ov:List (Str×Value)) (e:DictEntry):DictEntry:=match e.key with
 | .str x _=>(match lkV ov x with
  | some v=>{e with val:=v}
  | none=>e)
 | _=>e
noncomputable def cutD (o:Obj) (ov:List (Str×Value)) (k:Nat):Obj:={o with data:=.dict (((esOf o).take k).map (updE ov)).toArray k}
noncomputable def noSub (o:Obj):Obj:=match o.data with
 | .cls c=>{o with data:=.cls {c with subclasses:=[]}}
 | _=>o
noncomputable def prs:List (Int×Addr):=[(3,43),(8,50),(14,57),(19,76),(34,109),(38,116),(55,123),(68,130),(73,137),(87,144),(96,151),(122,156),(153,168),(158,175),(165,182),(167,195),(174,217),(176,229),(178,241),(348,471)]
noncomputable def o35 (k:Nat):Obj:=⟨.none,none,.fields ((prs.take k).flatMap fun p=>[.int p.1 0,.int 0 0,.ref p.2]).toArray,#[]⟩
noncomputable def o_36:Obj:=⟨.type "code",none,.fields #[.str "<module>" 319,.str "<module>" 320,.str "/claim/cut.py" 321,.int (1) 0,.int (0) 0,.int (0) 0,.int (0) 0,.int (0) 0,.ref 34,.bool false,.int (318) 0,.ref 35,.none,.none,.none,.none,.int (322) 0,.int (1) 0,.str "/claim/cut.py" 323],#[]⟩
noncomputable def o_220 (P:Params):Obj:=⟨.type "dict",none,.dict ([en P "__module__" 616 (.str "io" 621),en P "__firstlineno__" 620 (.int (174) 619),en P "__static_attributes__" 623 (.ref 219),en P "__doc__" 624 (.none)]).toArray 2,#[]⟩
noncomputable def o_221:Obj:=⟨.type "type",none,.cls ⟨"BufferedIOBase",[.ref 206],[.ref 221,.ref 206,.type "object"],220, "BufferedIOBase",true,[],[],false,none,false⟩,#[some (.ref 212),none,some (.str "BufferedIOBase" 609),some (.str "BufferedIOBase" 617),some (.none),some (.bool true)]⟩
noncomputable def ovM:List (Str×Value):=[g1 "__name__" (.str "io" 537),g1 "_check_arg_types" (.ref 124),g1 "dirname" (.ref 145),g1 "normpath" (.ref 152)]
noncomputable def o_1 (P:Params):Obj:=⟨.type "dict",none,.dict ([en P "builtins" 162 (.ref 4),en P "__main__" 163 (.ref 5),en P "_sre" 244 (.ref 12),en P "_collections" 292 (.ref 30)]).toArray 4,#[]⟩
noncomputable def midK (k j:Nat) (r:List (Addr×Obj)) (P:Params):List (Addr×Obj):=(0,boot_o_0 P) :: (1,o_1 P) :: (3,cutD (o_3 P) ovM k) :: (35,o35 j) :: (36,o_36) :: r++topObjs P
noncomputable def l0 (P:Params):List (Addr×Obj):=[(2,cutD (o_2 P) [] 13),(3,cutD (o_3 P) [g1 "__name__" (.str "__main__" 164)] 11)]
noncomputable def l1 (P:Params):List (Addr×Obj):=midK 34 18 [(233,noSub (o_233 P)),(220,o_220 P),(221,o_221)] P
noncomputable def l2 (P:Params):List (Addr×Obj):=midK 35 19 [(233,noSub (o_233 P))] P
noncomputable def l3 (P:Params):List (Addr×Obj):=midK 36 20 [] P
noncomputable def oTab:Obj:={cls:=.none,data:=.fields #[]}
noncomputable def l4 (P:Params):List (Addr×Obj):=(0,boot_o_0 P) :: (1,o_1 P) :: (908,oTab) :: (972,oTab) :: topObjs P
noncomputable def r1:List Stmt:=(behindTheImports pw).drop 30
noncomputable def r2:List Stmt:=r1.drop 1
noncomputable def r3:List Stmt:=r2.drop 1
noncomputable def p1:Pos:=⟨176,0,177,21⟩
noncomputable def p2:Pos:=⟨178,0,347,17⟩
noncomputable def p3:Pos:=⟨348,0,552,17⟩
noncomputable def p4:Pos:=⟨1020,0,1033,63⟩
noncomputable def S0 (P:Params) (f:Nat→Obj) (os:OsState):Shared:=(SK (l0 P) 34 318 f os).abs
noncomputable def S4 (P:Params) (f:Nat→Obj) (os:OsState):Shared:=(SK (l4 P) 976 1574 f os).abs
end Mine.Internal
end
section
open PySem PySem.W PyProof.Rows
set_option maxHeartbeats 8000000
namespace Mine.Internal
theorem runKA (w:World):(((importEnds treeTable (opening pw) w 7000 (start (opening pw)).1 (start (opening pw)).2).bind (fenceModules? pw)).bind fun s₀=>(topGo treeTable pw w 34 (some (.ref 6)) 12 s₀ (topStub pw)).bind fun r =>
  (segRunT treeTable pw w 34 (some (.ref 6)) 1 5 (conv r.1) (blockOf (behindTheImports pw) envL codL p0 [topFrame p0])).bind fun b =>
  (segRunT treeTable pw w 34 (some (.ref 6)) 1 2050 b.2.1 (piecesOf ((behindTheImports pw).take 30) envL codL p0 [topFrame p0])).map fun e =>
   (((s₀.heap.isNs mainGlobals && s₀.gens.size==0,s₀.heap.objs.size,s₀.heap.nsMap mainGlobals "__annotations__"),obK (l0 w.params) (conv s₀)),r.2,(b.1,b.2.2),obR (l1 w.params) e)) =
  some (((true,34,some (.ref 6)),vaK (l0 w.params) 34 318),⟨denote treeTable codL,codL,p0,[topFrame p0]⟩,(.next,codL,p0),.next,vaK (l1 w.params) 236 645,codL,p1):=by
 unfold blockOf piecesOf
 rw[PySem.W.Fast.te10274390034422433532,PySem.W.Fast.te1435165496053646825,PySem.W.Fast.te14289696077712309145,PySem.W.Fast.te15667345088766844465,PySem.W.Fast.te10110043849684766642,PySem.W.Fast.te14364793385576792824,PySem.W.Fast.te12563942051412417395,
  PySem.W.Fast.te1066825118222455980,PySem.W.Fast.te11892475500146522536,PySem.W.Fast.te8920871248978507458]
 kernel_rfl
end Mine.Internal
end
section
open PySem PySem.W PyProof.Rows
set_option maxHeartbeats 8000000
namespace Mine.Internal
theorem runKB:PieceOk l1 236 645 l2 466 907 1350 (r1.take 1) p1 p2:=by
 intro w f os
 unfold piecesOf
 rw[PySem.W.Fast.te10110043849684766642,PySem.W.Fast.te14364793385576792824,PySem.W.Fast.te12563942051412417395]
 kernel_rfl
end Mine.Internal
end
section
open PySem PySem.W PyProof.Rows
set_option maxHeartbeats 8000000
namespace Mine.Internal
theorem runKC:PieceOk l2 466 907 l3 713 1194 1650 (r2.take 1) p2 p3:=by
 intro w f os
 unfold piecesOf
 rw[PySem.W.Fast.te10110043849684766642,PySem.W.Fast.te14364793385576792824,PySem.W.Fast.te12563942051412417395]
 kernel_rfl
end Mine.Internal
end
section
open PySem PySem.W PyProof.Rows
set_option maxHeartbeats 8000000
namespace Mine.Internal
theorem runKD:PieceOk l3 713 1194 l4 976 1574 1750 r3 p3 p4:=by
 intro w f os
 unfold piecesOf
 rw[PySem.W.Fast.te10110043849684766642,PySem.W.Fast.te14364793385576792824,PySem.W.Fast.te12563942051412417395]
 kernel_rfl
end Mine.Internal
end
section
open PySem PySem.W PyProof.Rows
set_option maxHeartbeats 8000000
namespace Mine.Internal
theorem chk1 (w:World) (f g:Nat→Obj) (os os':OsState):(staticsOk (importedModules pw.main.body) (S0 w.params f os).heap (S4 w.params g os').heap && namesBound pw (S4 w.params g os').heap && gensDone (S4 w.params g os') && laidKept (S0 w.params f os).heap (S4 w.params g os').heap)=true:=by
 rw[PySem.W.Fast.te5923862056798008813]
 kernel_rfl
end Mine.Internal
end
section
open PySem PySem.W PyProof.Rows
set_option maxHeartbeats 8000000
namespace Mine.Internal
theorem chk2 (w:World) (g:Nat→Obj) (os:OsState):openSeen qv loose (importedModules pw.main.body) (fun _=>true) true (S4 w.params g os)=openGood qv loose:=by
 rw[PySem.W.Fast.te5923862056798008813,PySem.W.Fast.te4187177175401517315]
 kernel_rfl
end Mine.Internal
end
section
open PySem PySem.W PyProof.Rows
set_option maxHeartbeats 8000000
namespace Mine.Internal
theorem chk3 (w:World) (g:Nat→Obj) (os:OsState):obsF (S4 w.params g os)=obsV w:=by
 unfold obsF
 rw[PySem.W.Fast.te8920871248978507458]
 kernel_rfl
end Mine.Internal
end
section
open PySem PySem.W PyProof.Rows
namespace Mine.Internal
theorem fin_run (w:World) (s:Shared):topRun treeTable pw w 34 (some (.ref 6)) 2 s ⟨doneF .next,codL,p4,[topFrame p0]⟩=some s:=by
 obtain ⟨heap,gens,drawn,toks,os⟩:=s
 rfl
structure TopRuns (w:World) (s₀ s₁:Shared):Prop where
 fenced:fencedOpening treeTable pw w 7000=some s₀
 ns:(s₀.heap.isNs mainGlobals && s₀.gens.size==0,s₀.heap.objs.size,s₀.heap.nsMap mainGlobals "__annotations__")=(true,34,some (.ref 6))
 before:Kn (l0 w.params) 34 318 s₀
 run:topRun treeTable pw w 34 (some (.ref 6)) (12+(5+(2050+(1350+(1650+(1750+2)))))) s₀ (topStub pw)=some s₁
 behind:Kn (l4 w.params) 976 1574 s₁
theorem top_rest {w:World} {s:Shared} (k1:Kn (l1 w.params) 236 645 s):∃ s₁,topRun treeTable pw w 34 (some (.ref 6)) (1350+(1650+(1750+2))) s (restOf r1 envL codL p1 [topFrame p0])=some s₁∧Kn (l4 w.params) 976 1574 s₁:=by
 obtain ⟨s',g4,k2⟩:=piece_step runKB (by decide) k1
 obtain ⟨s'',g5,k3⟩:=piece_step runKC (by decide) k2
 obtain ⟨s₁,g6,k4⟩:=piece_step runKD (by decide) k3
 refine ⟨s₁,?_,k4⟩
 have h:=piece_app g6 (rest:=[]) (piece_nil (fin_run w s₁))
 rw[List.append_nil] at h
 have h:=piece_app g5 (rest:=r3) h
 rw[show r2.take 1++r3=r2 from List.take_append_drop 1 r2] at h
 have h:=piece_app g4 (rest:=r2) h
 rwa [show r1.take 1++r2=r1 from List.take_append_drop 1 r1] at h
theorem top_runs (w:World):∃ s₀ s₁,TopRuns w s₀ s₁:=by
 obtain ⟨s₀,e0,h⟩:=Option.bind_eq_some_iff.mp (runKA w)
 obtain ⟨r,e1,h⟩:=Option.bind_eq_some_iff.mp h
 obtain ⟨b,e2,h⟩:=Option.bind_eq_some_iff.mp h
 obtain ⟨e,e3,h⟩:=Option.map_eq_some_iff.mp h
 obtain ⟨ha,h⟩:=Prod.mk.inj h
 obtain ⟨hb,h⟩:=Prod.mk.inj h
 obtain ⟨hc,h⟩:=Prod.mk.inj h
 obtain ⟨ha,hk⟩:=Prod.mk.inj ha
 have k0:=kn_of hk
 rw[conv_abs] at k0
 have g2:=segRun_of (e2.trans (congrArg some (trip_of hc)))
 rw[conv_abs] at g2
 obtain ⟨s₁,g,k4⟩:=top_rest (kn_of (ran_of h).2)
 have g:=piece_app (segRun_of (e3.trans (congrArg some (ran_of h).1))) g
 rw[show (behindTheImports pw).take 30++r1=behindTheImports pw from List.take_append_drop 30 _] at g
 exact ⟨s₀,s₁,e0,ha,k0,go_top (e1.trans (congrArg some (pair_of hb))) (piece_block g2 g),k4⟩
theorem left_law:LeftO pw qv loose (fun _=>true) obsF obsV 7000:=fun w=>by
 obtain ⟨s₀,s₁,T⟩:=top_runs w
 have x4:=known_abs T.behind (by decide)
 have y1:=chk1 w (fun a=>(s₀.heap.objs[a]?).getD default) (fun a=>(s₁.heap.objs[a]?).getD default) s₀.os s₁.os
 have y2:=chk2 w (fun a=>(s₁.heap.objs[a]?).getD default) s₁.os
 have y3:=chk3 w (fun a=>(s₁.heap.objs[a]?).getD default) s₁.os
 rw[show S4 w.params (fun a=>(s₁.heap.objs[a]?).getD default) s₁.os=s₁ from x4.symm] at y1 y2 y3
 rw[show S0 w.params (fun a=>(s₀.heap.objs[a]?).getD default) s₀.os=s₀ from (known_abs T.before (by decide)).symm] at y1
 obtain ⟨a1,a2⟩:=Prod.mk.inj T.ns
 obtain ⟨a2,a3⟩:=Prod.mk.inj a2
 have t:topFrom treeTable pw w 7000 s₀=some s₁:=by
  unfold topFrom
  rw[a1,a2,a3,topRun_mono 181 _ _ _ _ T.run]
  show (match staticsOk (importedModules pw.main.body) s₀.heap s₁.heap && namesBound pw s₁.heap && gensDone s₁ && laidKept s₀.heap s₁.heap with | true=>_ | false=>_)=_
  rw[y1]
 unfold openEnds
 rw[T.fenced]
 show (topFrom treeTable pw w 7000 s₀).map _=_
 rw[t]
 exact congrArg some (Prod.ext y2 y3)
end Mine.Internal
end
section
open PySem PySem.W PyProof.Rows
set_option maxHeartbeats 4000000
namespace Mine.Internal
noncomputable abbrev lw:OpenLaw:=PySem.Challenge.rw_ik0093_01
theorem sd1:sreFenced pw.main=true:=by rw[PySem.W.Fast.te11788848310118352699];kernel_rfl
theorem sd2:((moduleNames pw.main.body).isEmpty || lookedIntoSs (moduleNames pw.main.body) pw.main.body)=true:=by rw[PySem.W.Fast.te9807087744658564304,PySem.W.Fast.te12862048085361865435];kernel_rfl
theorem sd3:namesResolve pw=true:=by rw[PySem.W.Fast.te8377067652309620493];kernel_rfl
theorem sd4:(pw.boundNames.all fun n=>!worldNames.contains n)=true:=by rw[PySem.W.Fast.te18344453789297297638,PySem.W.Fast.te14412699480532031325];kernel_rfl
theorem road_cut {lk:Look}:∀ (n:Nat) (l:List Stmt),noRoadLSs lk (l.take n)=true→noRoadLSs lk (l.drop n)=true→noRoadLSs lk l=true
 | 0,_,_,b=>b
 | _+1,[],_,b=>b
 | n+1,s :: r,a,b=>by
  unfold noRoadLSs
  have a:noRoadLSs lk (s :: r.take n)=true:=a
  unfold noRoadLSs at a
  obtain ⟨a1,a2⟩:=Bool.and_eq_true_iff.mp a
  exact look_both a1 (road_cut n r a2 b)
theorem filter3 {α:Type} {p:α→Bool} {a b c:α} (ha:p a=false) (hb:p b=false) (hc:p c=false):[a,b,c].filter p=[]:=by simp [ha,hb,hc]
theorem rd1:readsOut pw pw.main.body "vars"=false:=by rw[PySem.W.Fast.te13343964577679436407];kernel_rfl
theorem rd2:readsOut pw pw.main.body "dir"=false:=by rw[PySem.W.Fast.te13343964577679436407];kernel_rfl
theorem rd3:readsOut pw pw.main.body "locals"=false:=by rw[PySem.W.Fast.te13343964577679436407];kernel_rfl
theorem rd4:(!(importedModules pw.main.body).all cThrough.contains)=false:=by rw[PySem.W.Fast.te5923862056798008813,PySem.W.Fast.te17691160309236699985];kernel_rfl
theorem rd5:noRoadLSs {strict:=false,foot:=none,bare:=[]} (pw.main.body.take 26)=true:=by rw[PySem.W.Fast.te8326940854005059898];kernel_rfl
theorem rd6:noRoadLSs {strict:=false,foot:=none,bare:=[]} (pw.main.body.drop 26)=true:=by rw[PySem.W.Fast.te8326940854005059898];kernel_rfl
theorem sd5:noRoadLSs {strict:=!(importedModules pw.main.body).all cThrough.contains,foot:=none,bare:=(["vars", "dir", "locals"]:List Str).filter (readsOut pw pw.main.body)} pw.main.body=true:=by
 rw[rd4,filter3 rd1 rd2 rd3]
 exact road_cut 26 _ rd5 rd6
theorem sd6:(namesMeet pw pw.main.body fun _ n=>attrL n)=true:=by rw[PySem.W.Fast.te17119622794617984870,PySem.W.Fast.te17868728402115742887];kernel_rfl
theorem sd_look:looksOpen pw=true:=by
 unfold looksOpen
 exact look_both (look_both (look_both (look_both (look_both sd1 sd2) sd3) sd4) sd5) sd6
theorem sd_part:OpenRow.partSaid lw.row=true:=by
 unfold OpenRow.partSaid
 exact look_both (look_both (look_both (look_both (look_both (look_both (look_both (look_both (look_both (look_both (look_both (look_both (look_both sd_look (by kernel_rfl)) (by kernel_rfl)) (by kernel_rfl)) (by kernel_rfl)) (by kernel_rfl)) (by kernel_rfl)) (by kernel_rfl)) (by kernel_rfl)) (by kernel_rfl)) (by kernel_rfl)) (by kernel_rfl)) (by kernel_rfl)) (by kernel_rfl)
theorem sd7:pw.boundNames.contains lw.name=true:=by rw[PySem.W.Fast.te18344453789297297638];kernel_rfl
theorem sd8:(!startupNames.contains lw.name)=true:=by rw[PySem.W.Fast.te12749700546528644094];kernel_rfl
theorem sd_row:OpenRow.wellSaid lw.row=true:=by
 unfold OpenRow.wellSaid
 exact look_both (look_both sd_part sd7) sd8
end Mine.Internal
end
section
open PySem PySem.W PyProof.Rows
set_option maxHeartbeats 4000000
namespace Mine.Internal
theorem law_said:OpenLaw.wellSaid lw=true:=by
 unfold OpenLaw.wellSaid
 refine look_both (look_both (look_both (look_both (look_both (look_both (look_both (look_both (look_both (look_both (look_both (look_both (look_both (look_both (look_both (look_both (look_both (look_both sd_row ?_) ?_) ?_) ?_) ?_) ?_) ?_) ?_) ?_) ?_) ?_) ?_) ?_) ?_) ?_) ?_) ?_) ?_
 ·kernel_rfl
 ·rw[PySem.W.Fast.te10501279942588096481];kernel_rfl
 ·rw[PySem.W.Fast.te8179353310426384613];kernel_rfl
 ·kernel_rfl
 ·kernel_rfl
 ·rw[PySem.W.Fast.te8326940854005059898,PySem.W.Fast.te797321630700447069,PySem.W.Fast.te9572597257264208301];kernel_rfl
 ·rw[PySem.W.Fast.te9558739934217749035];kernel_rfl
 ·rw[PySem.W.Fast.te16286561074155671207];kernel_rfl
 ·kernel_rfl
 ·rw[PySem.W.Fast.te797321630700447069,PySem.W.Fast.te6984425678791042302];kernel_rfl
 ·rw[PySem.W.Fast.te12879404354523853263,PySem.W.Fast.te6984425678791042302];kernel_rfl
 ·rw[PySem.W.Fast.te12879404354523853263,PySem.W.Fast.te6984425678791042302,PySem.W.Fast.te482687673346738481];kernel_rfl
 ·rw[PySem.W.Fast.te17119622794617984870,PySem.W.Fast.te9572597257264208301];kernel_rfl
 ·rw[PySem.W.Fast.te10792542408131684335];kernel_rfl
 ·rw[PySem.W.Fast.te10792542408131684335,PySem.W.Fast.te7723801398212525404];kernel_rfl
 ·rw[PySem.W.Fast.te10792542408131684335];kernel_rfl
 ·rw[PySem.W.Fast.te17119622794617984870,PySem.W.Fast.te10792542408131684335];kernel_rfl
 ·rw[PySem.W.Fast.te17119622794617984870];kernel_rfl
end Mine.Internal
end
section
open PySem PySem.W PyProof.Rows
namespace Mine.Internal
theorem gl_law {P:Params}:lkV (topT P []).globs rowL.name=some (.ref 975):=by kernel_rfl
theorem whole_of {p:Program} (h1:TablesWhole.wSs TablesWhole.gather p.main.scope ⟨p.main.scope,[],[],[],none⟩ p.main.scope p.main.body=[])
  (h2:TablesWhole.wSs TablesWhole.holds p.main.scope ⟨p.main.scope,[],[],[],none⟩ p.main.scope p.main.body=true) (h3:TablesWhole.noTwice p.main.scope=true)
  (h4:p.modules=[]) (h5:p.parses=[]) (h6:p.harvested=[]):p.tablesWhole=true:=by
 unfold Program.tablesWhole TablesWhole.wProgram TablesWhole.wModule
 dsimp only
 rw[h1,h2,h3,h4,h5,h6]
 rfl
theorem tl1:TablesWhole.wSs TablesWhole.gather pw.main.scope ⟨pw.main.scope,[],[],[],none⟩ pw.main.scope pw.main.body=[]:=by kernel_rfl
theorem tl2:TablesWhole.wSs TablesWhole.holds pw.main.scope ⟨pw.main.scope,[],[],[],none⟩ pw.main.scope pw.main.body=true:=by kernel_rfl
theorem tl3:TablesWhole.noTwice pw.main.scope=true:=by kernel_rfl
theorem tl4:pw.tablesWhole=true:=whole_of tl1 tl2 tl3 rfl rfl rfl
theorem lh1:chainsOk qv=true:=by decide +kernel
theorem lh2:opensWell pw=true:=by decide +kernel
theorem lh3:(frees rowL.toRowW && rowL.within.isEmpty)=true:=by decide +kernel
set_option maxHeartbeats 4000000 in
theorem law_holds (walk:∀ {w:World} {sc:List Int} {Q:D→List AO→Prop},(∀ o,o[0]?=some (.tab true)→Q (.bool true) o)→XC (topT w.params []) w 14 (.ref 975) [.list (sc.map .int)] [] [] [.tab false] Q):PySem.Challenge.rw_ik0093_01.Holds:=by
 refine holds_law law_said fun said=>?_
 refine holds_mine (r:=rowL) (q:=qv) (loose:=loose) (Yf:=obsF) (Ya:=obsV) (N:=7000) left_law rfl (by rfl) (by rfl) (by rfl) rfl (by assumption) (look_both (look_both lh1 lh2) lh3) ⟨rfl,rfl,rfl,rfl,rfl,tl4⟩ ?_ fun w s₀ s₁ args vs as y hpre L=>⟨.ref 975,fun mg hg=>?_,law_call y hpre L walk⟩
 ·exact ⟨[.list []],by decide +kernel,by decide +kernel⟩
 ·obtain ⟨top,_⟩:=top_ok y (fun _ _ e=>e) (Nat.le_refl _)
  obtain ⟨mg',mb',n1,_,n3,_⟩:=top.ns
  obtain ⟨o,es,ep,g1,g2,_,g3⟩:=hg
  obtain ⟨o',es',ep',k1,k2,_,k3⟩:=n1
  rw[g1] at k1;cases k1
  rw[g2] at k2;cases k2
  exact ((g3 _).symm.trans (k3 _)).trans (n3 _ _ gl_law)
section
variable {P:Params} {fs:List Env}
theorem gl1:lkV (topT P fs).globs ("deque":Str)=some (.type "collections.deque"):=by kernel_rfl!
theorem gl3:lkV (topT P fs).globs ("sep":Str)=some (.str "/" 333):=by kernel_rfl!
theorem gl8:lkV (topT P fs).globs ("fspath":Str)=some (.ref 117):=by kernel_rfl!
theorem gl11:lkV (topT P fs).globs ("_get_sep":Str)=some (.ref 131):=by kernel_rfl!
theorem gl12:lkV (topT P fs).globs ("splitroot":Str)=some (.ref 138):=by kernel_rfl!
theorem gl14:lkV (topT P fs).globs ("dirname_posixpath":Str)=some (.ref 145):=by kernel_rfl!
theorem gl16:lkV (topT P fs).globs ("normpath_posixpath":Str)=some (.ref 152):=by kernel_rfl!
theorem gl17:lkV (topT P fs).globs ("commonpath":Str)=some (.ref 157):=by kernel_rfl!
theorem gl20:lkV (topT P fs).globs ("_index":Str)=some (.ref 176):=by kernel_rfl!
theorem gl25:lkV (topT P fs).globs ("BytesIO":Str)=some (.ref 463):=by kernel_rfl!
theorem gl26:lkV (topT P fs).globs ("StringIO":Str)=some (.ref 710):=by kernel_rfl!
theorem gl27:lkV (topT P fs).globs ("_kind":Str)=some (.ref 719):=by kernel_rfl!
theorem gl28:lkV (topT P fs).globs ("_fspath":Str)=some (.ref 726):=by kernel_rfl!
theorem gl33:lkV (topT P fs).globs ("splitext":Str)=some (.ref 754):=by kernel_rfl!
theorem gl34:lkV (topT P fs).globs ("_c_path":Str)=some (.ref 761):=by kernel_rfl!
theorem gl35:lkV (topT P fs).globs ("_shelf_fresh":Str)=some (.ref 768):=by kernel_rfl!
theorem gl36:lkV (topT P fs).globs ("_splitroot":Str)=some (.ref 775):=by kernel_rfl!
theorem gl37:lkV (topT P fs).globs ("basename":Str)=some (.ref 782):=by kernel_rfl!
theorem gl39:lkV (topT P fs).globs ("_normpath":Str)=some (.ref 796):=by kernel_rfl!
theorem gl40:lkV (topT P fs).globs ("normpath_path":Str)=some (.ref 803):=by kernel_rfl!
theorem gl41:lkV (topT P fs).globs ("shlex":Str)=some (.ref 894):=by kernel_rfl!
theorem gl42:lkV (topT P fs).globs ("split":Str)=some (.ref 906):=by kernel_rfl!
theorem gl43:lkV (topT P fs).globs ("join_shlex":Str)=some (.ref 913):=by kernel_rfl!
theorem gl44:lkV (topT P fs).globs ("_find_unsafe":Str)=some (.ref 914):=by kernel_rfl!
theorem gl45:lkV (topT P fs).globs ("quote":Str)=some (.ref 921):=by kernel_rfl!
theorem gl46:lkV (topT P fs).globs ("_Ignore":Str)=some (.ref 944):=by kernel_rfl!
theorem gl47:lkV (topT P fs).globs ("_modname":Str)=some (.ref 955):=by kernel_rfl!
theorem gl48:lkV (topT P fs).globs ("_law_file":Str)=some (.ref 960):=by kernel_rfl!
theorem gl49:lkV (topT P fs).globs ("_law_told":Str)=some (.ref 965):=by kernel_rfl!
theorem gl50:lkV (topT P fs).globs ("_law_due":Str)=some (.ref 970):=by kernel_rfl!
theorem gl52:lkV (topT P fs).bts ("chr":Str)=some (.builtin "chr"):=by kernel_rfl!
theorem gl54:lkV (topT P fs).bts ("isinstance":Str)=some (.builtin "isinstance"):=by kernel_rfl!
theorem gl55:lkV (topT P fs).bts ("issubclass":Str)=some (.builtin "issubclass"):=by kernel_rfl!
theorem gl56:lkV (topT P fs).bts ("len":Str)=some (.builtin "len"):=by kernel_rfl!
theorem gl57:lkV (topT P fs).bts ("max":Str)=some (.builtin "max"):=by kernel_rfl!
theorem gl58:lkV (topT P fs).bts ("min":Str)=some (.builtin "min"):=by kernel_rfl!
theorem gl63:lkV (topT P fs).bts ("bytes":Str)=some (.type "bytes"):=by kernel_rfl!
theorem gl66:lkV (topT P fs).bts ("enumerate":Str)=some (.type "enumerate"):=by kernel_rfl!
theorem gl70:lkV (topT P fs).bts ("int":Str)=some (.type "int"):=by kernel_rfl!
theorem gl71:lkV (topT P fs).bts ("list":Str)=some (.type "list"):=by kernel_rfl!
theorem gl72:lkV (topT P fs).bts ("map":Str)=some (.type "map"):=by kernel_rfl!
theorem gl73:lkV (topT P fs).bts ("object":Str)=some (.type "object"):=by kernel_rfl!
theorem gl74:lkV (topT P fs).bts ("range":Str)=some (.type "range"):=by kernel_rfl!
theorem gl75:lkV (topT P fs).bts ("set":Str)=some (.type "set"):=by kernel_rfl!
theorem gl76:lkV (topT P fs).bts ("str":Str)=some (.type "str"):=by kernel_rfl!
theorem gl78:lkV (topT P fs).bts ("tuple":Str)=some (.type "tuple"):=by kernel_rfl!
theorem gl79:lkV (topT P fs).bts ("type":Str)=some (.type "type"):=by kernel_rfl!
end
section
variable {T:TopT} {w:World} {n:Nat} {objs:List AO} {Q:D→List AO→Prop}
theorem out_tok {K:Kt} {s:Shared} {d:D} {v:Value} (X:Tr T K objs s) (k:Nat) (r:VR K s.heap d v) (q:Q d objs):0<({s with toks:=k}:Shared).toks→OutE T K s Q v {s with toks:=k}:=fun ht=>⟨K,d,objs,.tok X k ht,r,q⟩
theorem outB_tok {K:Kt} {s:Shared} {b:Bool} {Q:Bool→List AO→Prop} (X:Tr T K objs s) (k:Nat) (q:Q b objs):0<({s with toks:=k}:Shared).toks→OutB T K s Q b {s with toks:=k}:=fun ht=>⟨K,objs,.tok X k ht,q⟩
theorem o_add_int {a b:Int} (h:Q (.int (a+b)) objs):Op2 T w n (binaryOp .Add) (.int a) (.int b) objs Q:=fun A s K u v R X ru rv=>by
 obtain ⟨_,rfl,_⟩:=ru.inv;obtain ⟨_,rfl,_⟩:=rv.inv;exact leaf X (P.add_int (out_tok X _ (.int _ _ X.tk) h))
theorem o_eq_int {a b:Int} (h:Q (.bool (a==b)) objs):Op2 T w n (compareOp .Eq) (.int a) (.int b) objs Q:=fun A s K u v R X ru rv=>by
 obtain ⟨_,rfl,_⟩:=ru.inv;obtain ⟨_,rfl,_⟩:=rv.inv;exact P.eq_int ⟨K,_,objs,.refl X,.bool _,h⟩
theorem o_lt_int {a b:Int} (h:Q (.bool (decide (a<b))) objs):Op2 T w n (compareOp .Lt) (.int a) (.int b) objs Q:=fun A s K u v R X ru rv=>by
 obtain ⟨_,rfl,_⟩:=ru.inv;obtain ⟨_,rfl,_⟩:=rv.inv;exact P.lt_int ⟨K,_,objs,.refl X,.bool _,h⟩
theorem o_gt_int {a b:Int} (h:Q (.bool (decide (a>b))) objs):Op2 T w n (compareOp .Gt) (.int a) (.int b) objs Q:=fun A s K u v R X ru rv=>by
 obtain ⟨_,rfl,_⟩:=ru.inv;obtain ⟨_,rfl,_⟩:=rv.inv;exact P.gt_int ⟨K,_,objs,.refl X,.bool _,h⟩
theorem o_ge_int {a b:Int} (h:Q (.bool (decide (a≥b))) objs):Op2 T w n (compareOp .GtE) (.int a) (.int b) objs Q:=fun A s K u v R X ru rv=>by
 obtain ⟨_,rfl,_⟩:=ru.inv;obtain ⟨_,rfl,_⟩:=rv.inv;exact P.ge_int ⟨K,_,objs,.refl X,.bool _,h⟩
theorem t_none {Q:Bool→List AO→Prop} (h:Q false objs):TruD T w n .none objs Q:=fun A s K u R X r=>by
 obtain rfl:=r.inv;exact truthy_none ⟨K,objs,.refl X,h⟩
theorem t_bool {b:Bool} {Q:Bool→List AO→Prop} (h:Q b objs):TruD T w n (.bool b) objs Q:=fun A s K u R X r=>by
 obtain rfl:=r.inv;exact wpAny_truthy_bool ⟨K,objs,.refl X,h⟩
theorem t_str {x:Str} {Q:Bool→List AO→Prop} (h:Q ((x.length:Int) != 0) objs):TruD T w n (.str x) objs Q:=fun A s K u R X r=>by
 obtain ⟨_,rfl,hs,_⟩:=r.inv
 exact leaf X (P.truthy_str (by have h1:sizeLine≤2 ^ 62:=(by decide);lia) (outB_tok X _ h))
theorem o_eq_str {x y:Str} (h:Q (.bool (x.cps.toList==y.cps.toList)) objs):Op2 T w n (compareOp .Eq) (.str x) (.str y) objs Q:=fun A s K u v R X ru rv=>by
 obtain ⟨_,rfl,_⟩:=ru.inv;obtain ⟨_,rfl,_⟩:=rv.inv;exact P.eq_str ⟨K,_,objs,.refl X,.bool _,h⟩
theorem o_ne_str {x y:Str} (h:Q (.bool (x.cps.toList != y.cps.toList)) objs):Op2 T w n (compareOp .NotEq) (.str x) (.str y) objs Q:=fun A s K u v R X ru rv=>by
 obtain ⟨_,rfl,_⟩:=ru.inv;obtain ⟨_,rfl,_⟩:=rv.inv;exact P.ne_str ⟨K,_,objs,.refl X,.bool _,h⟩
theorem o_in_str {x y:Str} (h:Q (.bool (Txt.contains y x)) objs):Op2 T w n (compareOp .In) (.str x) (.str y) objs Q:=fun A s K u v R X ru rv=>by
 obtain ⟨_,rfl,_⟩:=ru.inv;obtain ⟨_,rfl,_⟩:=rv.inv;exact SB.contains ⟨K,_,objs,.refl X,.bool _,h⟩
theorem o_nin_str {x y:Str} (h:Q (.bool (!Txt.contains y x)) objs):Op2 T w n (compareOp .NotIn) (.str x) (.str y) objs Q:=fun A s K u v R X ru rv=>by
 obtain ⟨_,rfl,_⟩:=ru.inv;obtain ⟨_,rfl,_⟩:=rv.inv;exact SB.notContains ⟨K,_,objs,.refl X,.bool _,h⟩
theorem pv_made {s:Shared} {c:Prop} [Decidable c] {y z:Str} {t:Tok} {Q:Value→Shared→Prop} (hz:¬ c→z.length≤sizeLine) (ht:t≠0) (hs:s.toks≠0)
  (h:∀ t' k,t'≠0→Q (.str (if c then y else z) t') {s with toks:=k}):(if c then Made.val (.str y t) else Made.str z).post Q s:=by
 by_cases hc:c
 ·rw[if_pos hc];have h':=h t s.toks ht;rw[if_pos hc] at h';exact h'
 ·rw[if_neg hc];have h':=h s.toks (s.toks+1) hs;rw[if_neg hc] at h';exact ⟨hz hc,h'⟩
theorem pv_add {s:Shared} {x y:Str} {t u:Tok} {Q:Value→Shared→Prop} (hsz:x.length+y.length≤sizeLine) (ht:t≠0) (hu:u≠0) (hs:s.toks≠0) (h:∀ t' k,t'≠0→Q (.str (x++y) t') {s with toks:=k}) :
  (if x.length==0 then Made.val (.str y u) else if y.length==0 then Made.val (.str x t) else Made.str (x++y)).post Q s:=by
 by_cases hx:(x.length==0)=true
 ·rw[if_pos hx];have h':=h u s.toks hu;rw[Str.append_left_empty hx] at h';exact h'
 ·rw[if_neg hx]
  by_cases hy:(y.length==0)=true
  ·rw[if_pos hy];have h':=h t s.toks ht;rw[Str.append_right_empty hy] at h';exact h'
  ·rw[if_neg hy];exact ⟨by rw[size_cat];exact hsz,h _ _ hs⟩
theorem o_add_str {x y:Str} (h:Q (.str (x++y)) objs) (hz:x.length+y.length≤sizeLine):Op2 T w n (binaryOp .Add) (.str x) (.str y) objs Q:=fun A s K u v R X ru rv=>by
 obtain ⟨_,rfl,_,ht⟩:=ru.inv
 obtain ⟨_,rfl,_,hu⟩:=rv.inv
 exact leaf X (P.add_str (pv_add hz ht hu X.tk fun t' k h'=>out_tok X _ (.str _ _ (by rw[size_cat];exact hz) h') h))
theorem o_iadd_str {x y:Str} (h:Q (.str (x++y)) objs) (hz:x.length+y.length≤sizeLine):Op2 T w n (inplaceOp .Add) (.str x) (.str y) objs Q:=fun A s K u v R X ru rv=>by
 obtain ⟨_,rfl,_,ht⟩:=ru.inv
 obtain ⟨_,rfl,_,hu⟩:=rv.inv
 exact leaf X (P.iadd_str (pv_add hz ht hu X.tk fun t' k h'=>out_tok X _ (.str _ _ (by rw[size_cat];exact hz) h') h))
theorem o_mul_str {x:Str} {i:Int} (h:Q (.str (Txt.mul x i)) objs) (hok:MulOk x i) (hz:(Txt.mul x i).length≤sizeLine):Op2 T w n (binaryOp .Mult) (.str x) (.int i) objs Q:=fun A s K u v R X ru rv=>by
 obtain ⟨_,rfl,_⟩:=rv.inv
 obtain ⟨t,rfl,_,ht⟩:=ru.inv
 refine leaf X (P.mul_str hok.1 hok.2.1 hok.2.2 ?_)
 have h':∀ t' k,t'≠0→0<({s with toks:=k}:Shared).toks→OutE T K s Q (.str (Txt.mul x i) t') {s with toks:=k}:=fun t' k h'=>out_tok X _ (.str _ _ hz h') h
 unfold Txt.mul at h'
 by_cases h1:i<1
 ·rw[if_pos h1];have h':=h' s.toks (s.toks+1) X.tk;rw[if_pos h1] at h';exact ⟨by decide,h'⟩
 ·rw[if_neg h1];refine pv_made (fun hc=>fits_reps (hok.2.2 h1 (by simpa using hc))) ht X.tk fun t' k ht'=>?_
  have h':=h' t' k ht';rw[if_neg h1] at h';exact h'
noncomputable def dV:D→Option Value
 | .none=>some .none
 | .bool b=>some (.bool b)
 | .val v=>some v
 | _=>none
theorem dV_eq {K:Kt} {h:Heap} {d:D} {v u:Value} (r:VR K h d v) (e:dV d=some u):v=u:=by
 cases r <;> first | (cases e;rfl) | cases e
theorem o_is {a b:D} {u v:Value} (ha:dV a=some u) (hb:dV b=some v) (hp:plainIs u v=true) (h:Q (.bool (u==v)) objs):Op2 T w n (compareOp .Is) a b objs Q:=fun A s K u' v' R X ru rv=>by
 rw[dV_eq ru ha,dV_eq rv hb];exact wpAny_is_plain hp ⟨K,_,objs,.refl X,.bool _,h⟩
theorem o_isnot {a b:D} {u v:Value} (ha:dV a=some u) (hb:dV b=some v) (hp:plainIs u v=true) (h:Q (.bool (!(u==v))) objs):Op2 T w n (compareOp .IsNot) a b objs Q:=fun A s K u' v' R X ru rv=>by
 rw[dV_eq ru ha,dV_eq rv hb];exact wpAny_isNot_plain hp ⟨K,_,objs,.refl X,.bool _,h⟩
noncomputable def notNone:D→Bool
 | .none=>false
 | .val .none=>false
 | .val (.builtin _)=>false
 | _=>true
theorem plain_none {K:Kt} {h:Heap} {d:D} {v:Value} (r:VR K h d v) (e:notNone d=true):plainIs v .none=true∧(v==Value.none)=false:=by
 cases r with
 | val v=>cases v <;> first | exact ⟨rfl,rfl⟩ | cases e
 | none=>cases e
 | _=>exact ⟨rfl,rfl⟩
theorem o_is_none {a:D} (ha:notNone a=true) (h:Q (.bool false) objs):Op2 T w n (compareOp .Is) a .none objs Q:=fun A s K u v R X ru rv=>by
 obtain rfl:=rv.inv;obtain ⟨h1,h2⟩:=plain_none ru ha
 exact wpAny_is_plain h1 ⟨K,_,objs,.refl X,.bool _,by rw[h2];exact h⟩
theorem o_isnot_none {a:D} (ha:notNone a=true) (h:Q (.bool true) objs):Op2 T w n (compareOp .IsNot) a .none objs Q:=fun A s K u v R X ru rv=>by
 obtain rfl:=rv.inv;obtain ⟨h1,h2⟩:=plain_none ru ha
 exact wpAny_isNot_plain h1 ⟨K,_,objs,.refl X,.bool _,by rw[h2];exact h⟩
end
noncomputable def asL (objs:List AO):D→Option (List D)
 | .list l=>some l
 | .obj k=>match objs[k]? with
  | some (.lst l)=>some l
  | _=>none
 | _=>none
section
variable {T:TopT} {w:World} {n:Nat} {env:Env} {loc:List (Str×D)} {objs:List AO} {Q:D→List AO→Prop}
theorem asL_at {K:Kt} {s:Shared} {d:D} {v:Value} {l:List D} (X:Tr T K objs s) (r:VR K s.heap d v) (h:asL objs d=some l) :
  InvSeq' K s.heap listO l v:=by
 cases r with
 | list ha hk hn hl=>cases h;exact ⟨_,_,_,rfl,ha,hl,hn⟩
 | obj hk =>
  rename_i k a m
  simp only [asL] at h
  cases e:objs[k]? with
  | none=>rw[e] at h;cases h
  | some ao =>
   rw[e] at h
   cases ao with
   | lst l' =>
    cases h
    obtain ⟨xs,n,h1,h2,h3,h4⟩:=X.ob k (a,m) _ hk e
    exact ⟨a,xs,n,rfl,h2,h3,h4⟩
   | _=>cases h
 | _=>cases h
theorem listO_is {h:Heap} {a:Addr} {xs:List Value} {n:Nat} (e:h.get? a=some (listO xs n)):h.IsList a xs.toArray:=⟨_,e,rfl,n,rfl⟩
theorem tupO_is {h:Heap} {a:Addr} {xs:List Value} {n:Nat} (e:h.get? a=some (tupO xs n)):IsTup h a xs.toArray:=⟨_,e,rfl,n,rfl⟩
theorem VRs.get {K:Kt} {h:Heap}:∀ {ds:List D} {vs:List Value} {i:Nat} {d:D},VRs K h ds vs→ds[i]?=some d→∃ v,vs[i]?=some v∧VR K h d v
 | _ :: _,_ :: _,0,_,.cons x r,e=>by cases e;exact ⟨_,rfl,x⟩
 | _ :: _,_ :: _,i+1,_,.cons x r,e=>by
  obtain ⟨v,h1,h2⟩:=VRs.get (i:=i) r (by simpa using e)
  exact ⟨v,by simpa using h1,h2⟩
theorem VRs.take {K:Kt} {h:Heap}:∀ {ds:List D} {vs:List Value} (i:Nat),VRs K h ds vs→VRs K h (ds.take i) (vs.take i)
 | _,_,0,_=>by rw[List.take_zero,List.take_zero];exact .nil
 | _,_,_+1,.nil=>.nil
 | _,_,i+1,.cons x r=>.cons x (VRs.take i r)
theorem VRs.drop {K:Kt} {h:Heap}:∀ {ds:List D} {vs:List Value} (i:Nat),VRs K h ds vs→VRs K h (ds.drop i) (vs.drop i)
 | _,_,0,r=>r
 | _,_,_+1,.nil=>.nil
 | _,_,i+1,.cons x r=>VRs.drop i r
theorem VRs.app {K:Kt} {h:Heap}:∀ {a b:List D} {x y:List Value},VRs K h a x→VRs K h b y→VRs K h (a++b) (x++y)
 | _,_,_,_,.nil,r=>r
 | _,_,_,_,.cons x r,r'=>.cons x (r.app r')
def ItemD (T:TopT) (w:World) (n:Nat) (a b:D) (objs:List AO) (Q:D→List AO→Prop):Prop :=
 ∀ (A:Around) (s:Shared) (K:Kt) (u v:Value),Room T A n→Tr T K objs s→VR K s.heap a u→VR K s.heap b v →
  ∃ Ty id,typeLookup (.type Ty) "__getitem__"=pure (some (.builtin id))∧s.TypeIs u Ty∧wpAny (model pw w) A (getItem u v) (OutE T K s Q) noE s
theorem sub_eq (slice:PySem.Expr) (o i:Value):∃ l,subscripted slice false o i=operate l (getItem o i):=by
 cases slice with
 | Slice _ _ st _=>cases st <;> exact ⟨_,rfl⟩
 | _=>exact ⟨_,rfl⟩
theorem sub_tail {value slice:PySem.Expr} {o i:Value} {Ty id:String} {A:Around} {E:Value→Shared→Prop} {s:Shared} {Q:Value→Shared→Prop} (hT:s.TypeIs o Ty)
  (hl:typeLookup (.type Ty) "__getitem__"=pure (some (.builtin id))) (h:wpAny (model pw w) A (getItem o i) Q E s):wpAny (model pw w) A (subscriptTail value slice o i) Q E s:=by
 unfold subscriptTail
 refine wpAny_bind ?_
 rw[getitemInPython_of_ne hT.not_modules]
 refine wpAny_bind (wpAny_specialOf hT hl ?_)
 have fin:wpAny (model pw w) A (subscripted slice false o i) (fun r s₃=>wpAny (model pw w) A (letTemporaryGo value o r >>= fun _=>pure r) Q E s₃) E s:=by
  obtain ⟨l,e⟩:=sub_eq slice o i
  rw[e]
  exact wpAny_operating (wpAny_mono h (fun r s₃ h₃=>wpAny_bind (wpAny_letTemporaryGo (wpAny_pure h₃))) fun _ _ x=>x)
 first
  | exact wpAny_pure (wpAny_bind fin)
  | exact wpAny_bind (wpAny_pure (wpAny_bind fin))
  | exact wpAny_bind fin
section
variable (T:TopT) (w:World) (n:Nat) (env:Env)
@[reducible] def kIt2 (a:D) (Q:D→List AO→Prop) (b:D) (o:List AO):Prop:=ItemD T w n a b o Q
@[reducible] def kItem (i:PySem.Expr) (loc:List (Str×D)) (Q:D→List AO→Prop) (a:D) (o:List AO):Prop:=EvE T w n env i loc o (kIt2 T w n a Q)
end
theorem ev_item {value slice:PySem.Expr} {pos:Pos} (h:EvE T w n env value loc objs (kItem T w n env slice loc Q)):EvE T w n env (.Subscript value slice pos) loc objs Q :=
 fun A s K R X F=>Subscript_ (wE (h A s K R X F) fun u s₁ ⟨K₁,a,o₁,p₁,r₁,q₁⟩=>wE (q₁ A s₁ K₁ R p₁.tr (F.post p₁)) fun v s₂ ⟨K₂,b,o₂,p₂,r₂,q₂⟩=>by
  obtain ⟨Ty,id,hl,hT,hg⟩:=q₂ A s₂ K₂ u v R p₂.tr (p₂.vr r₁) r₂
  exact sub_tail hT hl (wE hg fun _ _ x=>(x.behind p₂).behind p₁))
theorem i_list {a:D} {l:List D} {i:Int} {d:D} (ha:asL objs a=some l) (h0:0≤i) (hd:l[i.toNat]?=some d) (h:Q d objs):ItemD T w n a (.int i) objs Q:=fun A s K u v R X ru rv=>by
 obtain ⟨_,rfl,_⟩:=rv.inv
 obtain ⟨b,xs,m,rfl,hb,hxs,hn⟩:=asL_at X ru ha
 obtain ⟨x,hx,rx⟩:=hxs.get hd
 have hlt:i.toNat<l.length:=(List.getElem?_eq_some_iff.mp hd).1
 exact ⟨"list",_,slot_list_getitem.lookup,(listO_is hb).typeIs,wpAny_getItem_list (listO_is hb) h0 (by lia) (by simpa using hx) ⟨K,d,objs,.refl X,rx,h⟩⟩
theorem i_tup {l:List D} {i:Nat} {d:D} (hd:l[i]?=some d) (h:Q d objs):ItemD T w n (.tup l) (.int (i:Int)) objs Q:=fun A s K u v R X ru rv=>by
 obtain ⟨_,rfl,_⟩:=rv.inv
 obtain ⟨_,_,_,rfl,ha,hk,hn,hl⟩:=ru.inv
 obtain ⟨x,hx,rx⟩:=hl.get hd
 have hlt:i<l.length:=(List.getElem?_eq_some_iff.mp hd).1
 have hz:=hl.length
 exact ⟨"tuple",_,slot_tuple_getitem.lookup,(tupO_is ha).typeIs,getItem_tuple (j:=i) (tupO_is ha) (by lia) (by lia) (by
  unfold seqIndex?
  rw[List.size_toArray]
  have h1:¬ ((i:Int)<0):=by lia
  simp only [h1,if_false]
  rw[if_pos (by simp;lia)]
  simp) (by simpa using hx) ⟨K,d,objs,.refl X,rx,h⟩⟩
@[reducible] def kInt (Q:Option Int→List AO→Prop) (d:D) (o:List AO):Prop:=match d with | .int i=>Q (some i) o | _=>False
def EvP (T:TopT) (w:World) (n:Nat) (env:Env) (e:Option PySem.Expr) (loc:List (Str×D)) (objs:List AO) (Q:Option Int→List AO→Prop):Prop :=
 match e with
 | none=>Q none objs
 | some e=>EvE T w n env e loc objs (kInt Q)
theorem ep_none {Q:Option Int→List AO→Prop} (h:Q none objs):EvP T w n env none loc objs Q:=h
theorem ep_some {e:PySem.Expr} {Q:Option Int→List AO→Prop} (h:EvE T w n env e loc objs (kInt Q)):EvP T w n env (some e) loc objs Q:=h
noncomputable def partO:Option (Int×Tok)→Option Int:=Option.map (·.1)
inductive OutP (T:TopT) (K:Kt) (s:Shared) (Q:Option Int→List AO→Prop) (v:Value) (s':Shared):Prop
 | mk (K':Kt) (q:Option (Int×Tok)) (objs':List AO) (p:Post T K s K' objs' s') (e:v=partValue q) (h:Q (partO q) objs')
theorem ep_run {e:Option PySem.Expr} {Q:Option Int→List AO→Prop} (h:EvP T w n env e loc objs Q):∀ (A:Around) (s:Shared) (K:Kt),Room T A n→Tr T K objs s→Frm T K env loc s →
  wpAny (model pw w) A (evalPart e env) (OutP T K s Q) noE s:=fun A s K R X F=>by
 cases e with
 | none=>exact wpAny_pure ⟨K,none,objs,.refl X,rfl,h⟩
 | some e =>
  refine wE (h A s K R X F) fun v s' ⟨K',d,o,p,r,q⟩=>?_
  cases r with
  | int i t _=>exact ⟨K',some (i,t),o,p,rfl,q⟩
  | _=>exact q.elim
def SliD (T:TopT) (w:World) (n:Nat) (a:D) (lo hi:Option Int) (objs:List AO) (Q:D→List AO→Prop):Prop :=
 ∀ (A:Around) (s:Shared) (K:Kt) (u:Value) (sl:Addr) (x y:Option (Int×Tok)),Room T A n→Tr T K objs s→VR K s.heap a u→s.heap.IsSlice sl x y none→partO x=lo→partO y=hi →
  ∃ Ty id,typeLookup (.type Ty) "__getitem__"=pure (some (.builtin id))∧s.TypeIs u Ty∧wpAny (model pw w) A (getItem u (.ref sl)) (OutE T K s Q) noE s
section
variable (T:TopT) (w:World) (n:Nat) (env:Env)
@[reducible] def kSl2 (a:D) (x:Option Int) (Q:D→List AO→Prop) (y:Option Int) (o:List AO):Prop:=SliD T w n a x y o Q
@[reducible] def kSl1 (hi:Option PySem.Expr) (loc:List (Str×D)) (a:D) (Q:D→List AO→Prop) (x:Option Int) (o:List AO):Prop:=EvP T w n env hi loc o (kSl2 T w n a x Q)
@[reducible] def kSl (lo hi:Option PySem.Expr) (loc:List (Str×D)) (Q:D→List AO→Prop) (a:D) (o:List AO):Prop:=EvP T w n env lo loc o (kSl1 T w n env hi loc a Q)
end
theorem ev_slice {value:PySem.Expr} {lo hi:Option PySem.Expr} {p' pos:Pos}
  (h:EvE T w n env value loc objs (kSl T w n env lo hi loc Q)):EvE T w n env (.Subscript value (.Slice lo hi none p') pos) loc objs Q :=
 fun A s K R X F=>Subscript_ (wE (h A s K R X F) fun u s₁ ⟨K₁,a,o₁,p₁,r₁,q₁⟩=>by
  refine wpAny_Slice (wE (ep_run q₁ A s₁ K₁ R p₁.tr (F.post p₁)) fun vx s₂ ⟨K₂,x,o₂,p₂,ex,q₂⟩=>wE (ep_run q₂ A s₂ K₂ R p₂.tr ((F.post p₁).post p₂)) fun vy s₃ ⟨K₃,y,o₃,p₃,ey,q₃⟩=>?_)
  subst ex;subst ey
  rw[evalPart_none]
  refine wpAny_pure ?_
  have P:=Post.push p₃.tr {cls:=.type "slice",data:=.fields #[partValue x,partValue y,.none]}
  obtain ⟨Ty,id,hl,hT,hg⟩:=q₃ A _ K₃ u s₃.heap.objs.size x y R P.tr (P.vr (p₃.vr (p₂.vr r₁))) ⟨_,Heap.get?_push_size _ rfl,rfl,rfl⟩ rfl rfl
  exact sub_tail hT hl (wE hg fun _ _ x=>(((x.behind P).behind p₃).behind p₂).behind p₁))
theorem sl_str {x:Str} {lo hi:Option Int} (h:Q (.str (Txt.slice x lo hi)) objs):SliD T w n (.str x) lo hi objs Q:=fun A s K u sl a b R X r hs ea eb=>by
 subst ea;subst eb
 obtain ⟨_,rfl,hz,ht⟩:=r.inv
 exact ⟨"str",_,F.slot_str_getitem.lookup,typeIs_str _ _ _,leaf X (wpAny_getItem_str_slice hs rfl (pv_made (fun hc=>by
   show (List.filterMap _ (Builtin.Str.strSliceIndices (partO a) (partO b) 1 x.length)).toArray.size≤_
   rw[List.size_toArray]
   exact Nat.le_trans (List.length_filterMap_le _ _) (Nat.le_trans (sliceIndices_le _ _ _) hz)) ht X.tk fun t' k h'=>out_tok X _ (.str _ _ (Nat.le_trans (Txt.slice_le x _ _) hz) h') h))⟩
noncomputable def slcD (l:List D):Option Int→Option Int→Option (List D)
 | none,none=>some l
 | none,some y=>if 0≤y then some (l.take y.toNat) else if y=-1 then some l.dropLast else none
 | some x,none=>if 0≤x then some (l.drop x.toNat) else none
 | some _,some _=>none
theorem clip_to (m:Nat) (y:Int) (h:(m:Int)≤y):sliceBounds none (some y) none m=sliceBounds none (some (m:Int)) none m:=by
 unfold sliceBounds
 simp only [Option.getD_none,show (1:Int)>0 by decide,if_true,if_neg (Int.not_lt.mpr (Int.le_trans (Int.natCast_nonneg m) h)),if_neg (Int.not_lt.mpr (Int.natCast_nonneg m))]
 rw[Int.min_eq_right h,Int.min_self]
theorem clip_from (m:Nat) (x:Int) (h:(m:Int)≤x):sliceBounds (some x) none none m=sliceBounds (some (m:Int)) none none m:=by
 unfold sliceBounds
 simp only [Option.getD_none,show (1:Int)>0 by decide,if_true,if_neg (Int.not_lt.mpr (Int.le_trans (Int.natCast_nonneg m) h)),if_neg (Int.not_lt.mpr (Int.natCast_nonneg m))]
 rw[Int.min_eq_right h,Int.min_self]
theorem clip_m1 (m:Nat):sliceBounds none (some (-1)) none m=sliceBounds none (some ((m - 1:Nat):Int)) none m:=by
 unfold sliceBounds
 simp only [Option.getD_none,show (1:Int)>0 by decide,if_true,if_pos (show (-1:Int)<0 by decide),if_neg (Int.not_lt.mpr (Int.natCast_nonneg (m - 1)))]
 rw[show max 0 (min (-1+(m:Int)) m)=max 0 (min (((m - 1:Nat):Int)) m) by lia]
theorem pk_to (xs:List Value) (j:Nat):(slicePick xs.toArray none (some (j:Int)) none).toList=xs.take j:=by
 by_cases hb:j≤xs.length
 ·rw[slicePick_upto xs.toArray j hb]
 ·have hb:=Nat.le_of_lt (Nat.not_le.mp hb)
  have e:slicePick xs.toArray none (some (j:Int)) none=slicePick xs.toArray none (some (xs.length:Int)) none:=by
   unfold slicePick
   rw[show sliceBounds none (some (j:Int)) none xs.toArray.size=_ from clip_to _ _ (Int.ofNat_le.mpr hb)];rfl
  rw[e,slicePick_upto xs.toArray xs.length (Nat.le_refl _),List.take_of_length_le hb]
  exact List.take_length
theorem pk_from (xs:List Value) (j:Nat):(slicePick xs.toArray (some (j:Int)) none none).toList=xs.drop j:=by
 by_cases hb:j≤xs.length
 ·rw[slicePick_from xs.toArray j hb]
 ·have hb:=Nat.le_of_lt (Nat.not_le.mp hb)
  have e:slicePick xs.toArray (some (j:Int)) none none=slicePick xs.toArray (some (xs.length:Int)) none none:=by
   unfold slicePick
   rw[show sliceBounds (some (j:Int)) none none xs.toArray.size=_ from clip_from _ _ (Int.ofNat_le.mpr hb)];rfl
  rw[e,slicePick_from xs.toArray xs.length (Nat.le_refl _),List.drop_of_length_le hb]
  exact List.drop_length
theorem slcD_pick {K:Kt} {h:Heap} {l l':List D} {xs:List Value} {lo hi:Option Int} (r:VRs K h l xs) (e:slcD l lo hi=some l'):VRs K h l' (slicePick xs.toArray lo hi none).toList:=by
 cases lo with
 | none =>
  cases hi with
  | none=>cases e;rw[slicePick_all];exact r
  | some y =>
   have e:(if 0≤y then some (l.take y.toNat) else if y=-1 then some l.dropLast else none)=some l':=e
   by_cases h0:0≤y
   ·rw[if_pos h0] at e;cases e
    obtain ⟨j,rfl⟩:=Int.eq_ofNat_of_zero_le h0
    rw[pk_to];exact r.take _
   ·rw[if_neg h0] at e
    by_cases h1:y=-1
    ·rw[if_pos h1] at e;cases e
     subst h1
     have e1:slicePick xs.toArray none (some (-1)) none=slicePick xs.toArray none (some ((xs.length - 1:Nat):Int)) none:=by
      unfold slicePick
      rw[show sliceBounds none (some (-1)) none xs.toArray.size=_ from clip_m1 _];rfl
     rw[e1,pk_to,List.dropLast_eq_take,r.length]
     exact r.take _
    ·rw[if_neg h1] at e;cases e
 | some x =>
  cases hi with
  | none =>
   have e:(if 0≤x then some (l.drop x.toNat) else none)=some l':=e
   by_cases h0:0≤x
   ·rw[if_pos h0] at e;cases e
    obtain ⟨j,rfl⟩:=Int.eq_ofNat_of_zero_le h0
    rw[pk_from];exact r.drop _
   ·rw[if_neg h0] at e;cases e
  | some y=>cases e
theorem sl_list {a:D} {l l':List D} {lo hi:Option Int} (ha:asL objs a=some l) (e:slcD l lo hi=some l') (h:Q (.list l') objs):SliD T w n a lo hi objs Q:=fun A s K u sl x y R X r hs ea eb=>by
 subst ea;subst eb
 obtain ⟨b,xs,m,rfl,hb,hxs,hn⟩:=asL_at X r ha
 obtain ⟨os,h1,h2,h3⟩:=hs
 have ip:∀ q:Option (Int×Tok),IsPart (partValue q) (partO q):=fun q=>by
  cases q with
  | none=>exact .none
  | some p=>exact .int _ _
 have hp:=slcD_pick hxs e
 have hle:=slicePick_size_le xs.toArray (partO x) (partO y) none
 have hlen:=hxs.length
 have hl':=hp.length
 have hle':(slicePick xs.toArray (partO x) (partO y) none).size≤xs.length:=by simpa using hle
 refine ⟨"list",_,slot_list_getitem.lookup,(listO_is hb).typeIs,wpAny_getItem_list_slice (listO_is hb) ⟨os,h1,h2,h3⟩ (ip x) (ip y) .none (by simp) ?_ (by rw[List.size_toArray,← hlen];exact Nat.le_trans hn (by decide))⟩
 have P:=Post.push X (listO (slicePick xs.toArray (partO x) (partO y) none).toList 0)
 exact ⟨K,_,objs,P,.list (Heap.get?_push_size _ rfl) (fresh_not X) (by rw[hl'];have:(slicePick xs.toArray (partO x) (partO y) none).toList.length=(slicePick xs.toArray (partO x) (partO y) none).size:=Array.length_toList;lia) (P.vrs hp),h⟩
end
section
variable {T:TopT} {w:World} {n:Nat} {env:Env} {loc:List (Str×D)} {objs:List AO} {Q:D→List AO→Prop}
theorem gm_str {x:Str} {name:Str} {id:String} (h:∀ (M:Model) (A:Around) (E:Value→Shared→Prop) (s:Shared) (t:Tok) (pl:Sem Bool) (Q:Value×List Value→Shared→Prop),Q (.builtin id,[.str x t]) s→wpAny M A (getMethod (.str x t) name pl) Q E s) :
  GetM T w n (.str x) name (.builtin id) [.str x] objs:=fun A s K v pl Q R X r hq=>by
 obtain ⟨t,rfl,hz,ht⟩:=r.inv
 with_reducible exact h _ _ _ _ _ _ _ (hq _ (.cons (.str _ _ hz ht) .nil))
theorem g_startswith {x:Str}:GetM T w n (.str x) ("startswith":Str) (.builtin "str.startswith") [.str x] objs:=gm_str fun _ _ _ _ _ _ _ h=>by with_reducible exact GM.startswith h
theorem g_rfind {x:Str}:GetM T w n (.str x) ("rfind":Str) (.builtin "str.rfind") [.str x] objs:=gm_str fun _ _ _ _ _ _ _ h=>by with_reducible exact GM.rfind h
theorem g_rstrip {x:Str}:GetM T w n (.str x) ("rstrip":Str) (.builtin "str.rstrip") [.str x] objs:=gm_str fun _ _ _ _ _ _ _ h=>by with_reducible exact GM.rstrip h
theorem g_split {x:Str}:GetM T w n (.str x) ("split":Str) (.builtin "str.split") [.str x] objs:=gm_str fun _ _ _ _ _ _ _ h=>by with_reducible exact GM.split h
theorem g_join {x:Str}:GetM T w n (.str x) ("join":Str) (.builtin "str.join") [.str x] objs:=gm_str fun _ _ _ _ _ _ _ h=>by with_reducible exact GM.join h
theorem g_replace {x:Str}:GetM T w n (.str x) ("replace":Str) (.builtin "str.replace") [.str x] objs:=gm_str fun _ _ _ _ _ _ _ h=>by
 with_reducible exact GM.of _ (typeIs_str _ _ _) F.slot_str_replace F.type_str_replace (fun _ e=>nomatch e) h
theorem km (name:Str) {f:Value} {x:Str} {pos:Pos} {args:List PySem.Expr} {kws:List Keyword} (g:GetM T w n (.str x) name f [.str x] objs) (q:EvEs T w n env pos args loc objs (kArgs T w n env pos kws [.str x] f loc Q)) :
  KMeth T w n env name pos args kws loc Q (.str x) objs:=⟨_,_,g,q⟩
theorem c_startswith {x y:Str} (h:Q (.bool (Txt.startswith x y)) objs):XCall T w n (.builtin "str.startswith") [.str x,.str y] [] [] objs Q:=fun A s K vs ks R X r rk=>by
 obtain ⟨_,_,rfl,rfl,r1,r2⟩:=args2 r rk;obtain ⟨_,rfl,_⟩:=r1.inv;obtain ⟨_,rfl,_⟩:=r2.inv
 exact SC.startswith ⟨K,_,objs,.refl X,.bool _,h⟩
theorem c_rfind {x y:Str} (h:Q (.int (Txt.rfind x y)) objs):XCall T w n (.builtin "str.rfind") [.str x,.str y] [] [] objs Q:=fun A s K vs ks R X r rk=>by
 obtain ⟨_,_,rfl,rfl,r1,r2⟩:=args2 r rk;obtain ⟨_,rfl,_⟩:=r1.inv;obtain ⟨_,rfl,_⟩:=r2.inv
 exact leaf X (SC.rfind (out_tok X _ (.int _ _ X.tk) h))
theorem rstrip_le (x y:Str) (hz:x.length≤sizeLine):(Txt.rstripChars x y).length≤sizeLine:=by
 unfold Txt.rstripChars Txt.stripBy
 split
 ·exact hz
 ·exact fits_stripped _ _ _ hz
theorem c_rstrip {x y:Str} (h:Q (.str (Txt.rstripChars x y)) objs):XCall T w n (.builtin "str.rstrip") [.str x,.str y] [] [] objs Q:=fun A s K vs ks R X r rk=>by
 obtain ⟨_,_,rfl,rfl,r1,r2⟩:=args2 r rk;obtain ⟨_,rfl,_⟩:=r2.inv
 obtain ⟨t,rfl,hz,ht⟩:=r1.inv
 exact leaf X (call_gives F.slot_str_rstrip (typeIs_str _ _ _) F.entry_str_rstrip (F.args_str_rstrip_2 _ _) (gives_str_rstrip_chars x y t _) (pv_made (fun _=>fits_stripped _ _ _ hz) ht X.tk fun t' k h' =>
   out_tok X _ (.str _ _ (rstrip_le x y hz) h') h))
noncomputable def strD (l:List Str):List D:=l.map .str
theorem strs_numbered {K:Kt} {h:Heap}:∀ (xs:List Str) (tk:Nat),tk≠0→(∀ x∈xs,x.length≤sizeLine)→VRs K h (strD xs) (strsFrom tk xs)
 | [],_,_,_=>.nil
 | x :: r,tk,h0,hz=>.cons (.str _ _ (hz x (.head _)) h0) (strs_numbered r (tk+1) (Nat.succ_ne_zero _) fun y hy=>hz y (.tail _ hy))
theorem strs_vals {K:Kt} {h:Heap}:∀ {xs:List Str} {vs:List Value},VRs K h (strD xs) vs→∃ l:List (Str×Tok),vs=strValues l∧l.map (·.1)=xs∧∀ p∈l,p.2≠0
 | [],_,.nil=>⟨[],rfl,rfl,fun _ h=>by cases h⟩
 | x :: r,_,.cons hx hr=>by
  obtain ⟨l,e1,e2,e3⟩:=strs_vals hr
  obtain ⟨t,rfl,_,ht⟩:=hx.inv
  exact ⟨(x,t) :: l,by rw[e1];rfl,by rw[List.map_cons,e2],fun p hp=>by
    rcases List.mem_cons.mp hp with rfl | hp
    ·exact ht
    ·exact e3 p hp⟩
theorem c_split {x y:Str} (h:Q (.list (strD (Txt.split x y))) objs) (hy:(y.length==0)=false) (hl:∀ p∈Txt.split x y,p.length≤sizeLine) (hn:(Txt.split x y).length≤100000) :
  XCall T w n (.builtin "str.split") [.str x,.str y] [] [] objs Q:=fun A s K vs ks R X r rk=>by
 obtain ⟨_,_,rfl,rfl,r1,r2⟩:=args2 r rk;obtain ⟨_,rfl,_⟩:=r2.inv
 obtain ⟨t,rfl,hz,ht⟩:=r1.inv
 have self:∀ k,0<k→Txt.split x y=[x]→OutE T K s Q (.ref s.heap.objs.size) {s with toks:=k,heap:=s.heap.push {cls:=.type "list",data:=.seq ([Value.str x t]:List Value).toArray}}:=fun k hk e=>by
  have P:=(Post.push X (listO [.str x t] 0))
  have P2:=P.trans (Post.tok P.tr k hk)
  refine ⟨K,_,objs,P2,.list (Heap.get?_push_size _ rfl) (fresh_not X) ?_ ?_,h⟩
  ·unfold strD;rw[List.length_map];exact hn
  ·rw[e];exact .cons (.str _ _ hz ht) .nil
 refine leaf X ?_
 cases h1:(decide (x.length<y.length) || decide (Builtin.Str.strKind x<Builtin.Str.strKind y))
 ·cases hf:(Builtin.Str.occurrences x y 0 x.length (x.length+1)).isEmpty
  ·have e:Txt.split x y=Builtin.Str.partsBetween x (Builtin.Str.occurrences x y 0 x.length (x.length+1)) y.length:=by
    unfold Txt.split;rw[if_neg (ne_true_of_eq_false h1),if_neg (ne_true_of_eq_false hf)]
   rw[e] at hl hn h
   refine call_meets F.slot_str_split (typeIs_str _ _ _) F.entry_str_split (F.args_str_split_2 _ _) (meets_str_split_sep x y t _ h1 hy hf hz (Nat.le_trans hn (by decide))) ?_
   show wants (fun a s'=>0<s'.toks→OutE T K s Q a s') _ _ {s with toks:=_,heap:=s.heap.push {cls:=.type "list",data:=.seq (strsFrom s.toks (Builtin.Str.partsBetween x (Builtin.Str.occurrences x y 0 x.length (x.length+1)) y.length)).toArray}}
   intro hk
   have P:=(Post.push X (listO (strsFrom s.toks (Builtin.Str.partsBetween x (Builtin.Str.occurrences x y 0 x.length (x.length+1)) y.length)) 0))
   have P2:=P.trans (Post.tok P.tr _ hk)
   exact ⟨K,_,objs,P2,.list (Heap.get?_push_size _ rfl) (fresh_not X) (by unfold strD;rw[List.length_map];exact hn) (strs_numbered _ _ X.tk hl),h⟩
  ·exact call_meets F.slot_str_split (typeIs_str _ _ _) F.entry_str_split (F.args_str_split_2 _ _) (meets_str_split_not_found x y t _ h1 hy hf)
    (fun hk=>self _ hk (by unfold Txt.split;rw[if_neg (ne_true_of_eq_false h1),if_pos hf]))
 ·exact call_meets F.slot_str_split (typeIs_str _ _ _) F.entry_str_split (F.args_str_split_2 _ _) (meets_str_split_cannot_occur x y t _ h1)
   (fun hk=>self _ hk (by unfold Txt.split;rw[if_pos h1]))
theorem pv_join {s:Shared} {sep:Str} {Q:Value→Shared→Prop} (hs:s.toks≠0):∀ (l:List (Str×Tok)),(∀ p∈l,p.2≠0)→((Txt.join sep (l.map (·.1))).length≤sizeLine∧∀ t' k,t'≠0→Q (.str (Txt.join sep (l.map (·.1))) t') {s with toks:=k})→(joinMade sep l).post Q s
 | [],_,h=>⟨h.1,h.2 _ _ hs⟩
 | [p],hp,h=>h.2 p.2 s.toks (hp p (.head _))
 | _ :: _ :: _,_,h=>⟨h.1,h.2 _ _ hs⟩
theorem c_join {x:Str} {a:D} {texts:List Str} (ha:asL objs a=some (strD texts)) (hok:JoinOk x texts=true) (h:Q (.str (Txt.join x texts)) objs) :
  XCall T w n (.builtin "str.join") [.str x,a] [] [] objs Q:=fun A s K vs ks R X r rk=>by
 obtain ⟨_,_,rfl,rfl,r1,r2⟩:=args2 r rk;obtain ⟨_,rfl,_⟩:=r1.inv
 obtain ⟨b,xs,m,rfl,hb,hxs,hn⟩:=asL_at X r2 ha
 obtain ⟨l,rfl,rfl,hl⟩:=strs_vals hxs
 unfold JoinOk at hok
 rw[Bool.not_eq_true'] at hok
 exact leaf X (call_meets F.slot_str_join (typeIs_str _ _ _) F.entry_str_join (F.args_str_join_2 _ _) (meets_str_join_list x _ b l hok) ⟨listO_is hb,pv_join X.tk l hl ⟨joinFit_length hok,fun t' k h' =>
  out_tok X _ (.str _ _ (joinFit_length hok) h') h⟩⟩)
theorem c_len_str {x:Str} (h:Q (.int x.length) objs):XCall T w n (.builtin "len") [.str x] [] [] objs Q:=fun A s K vs ks R X r rk=>by
 obtain ⟨_,rfl,rfl,r1⟩:=args1 r rk
 obtain ⟨_,rfl,hs,_⟩:=r1.inv
 exact leaf X (P.len_str (by have h1:sizeLine≤2 ^ 62:=(by decide);lia) (out_tok X _ (.int _ _ (Nat.succ_ne_zero _)) h))
theorem c_chr {i:Int} (hi:(decide (i<0) || decide (i>0x10FFFF))=false) (h:Q (.str ⟨#[i.toNat]⟩) objs):XCall T w n (.builtin "chr") [.int i] [] [] objs Q:=fun A s K vs ks R X r rk=>by
 obtain ⟨_,rfl,rfl,r1⟩:=args1 r rk
 obtain ⟨_,rfl,_⟩:=r1.inv
 exact leaf X (P.chr_of_int hi (out_tok X _ (.str _ _ (by show 1≤sizeLine;decide) X.tk) h))
theorem c_isi_str_bytes {x:Str} (h:Q (.bool false) objs):XCall T w n (.builtin "isinstance") [.str x,.val (.type "bytes")] [] [] objs Q:=fun A s K vs ks R X r rk=>by
 obtain ⟨_,_,rfl,rfl,r1,r2⟩:=args2 r rk;obtain ⟨_,rfl,_⟩:=r1.inv;obtain rfl:=r2.inv
 exact leaf X (IsiPair.str_bytes (out_tok X _ (.bool _) h))
theorem c_isi_str_str {x:Str} (h:Q (.bool true) objs):XCall T w n (.builtin "isinstance") [.str x,.val (.type "str")] [] [] objs Q:=fun A s K vs ks R X r rk=>by
 obtain ⟨_,_,rfl,rfl,r1,r2⟩:=args2 r rk;obtain ⟨_,rfl,_⟩:=r1.inv;obtain rfl:=r2.inv
 exact IsiPair.str_str ⟨K,_,objs,.refl X,.bool _,h⟩
theorem c_type_str {x:Str} (h:Q (.val (.type "str")) objs):XCall T w n (.type "type") [.str x] [] [] objs Q:=fun A s K vs ks R X r rk=>by
 obtain ⟨_,rfl,rfl,r1⟩:=args1 r rk
 obtain ⟨_,rfl,_⟩:=r1.inv
 exact call_type_of (typeIs_str _ _ _) rfl ⟨K,_,objs,.refl X,.val _,h⟩
theorem c_type_int {x:Int} (h:Q (.val (.type "int")) objs):XCall T w n (.type "type") [.int x] [] [] objs Q:=fun A s K vs ks R X r rk=>by
 obtain ⟨_,rfl,rfl,r1⟩:=args1 r rk
 obtain ⟨_,rfl,_⟩:=r1.inv
 exact call_type_of (typeIs_int _ _ _) rfl ⟨K,_,objs,.refl X,.val _,h⟩
theorem c_int_int {x:Int} (h:Q (.int x) objs):XCall T w n (.type "int") [.int x] [] [] objs Q:=fun A s K vs ks R X r rk=>by
 obtain ⟨_,rfl,rfl,r1⟩:=args1 r rk
 obtain ⟨t,rfl,ht⟩:=r1.inv
 exact PySem.call_int_int ⟨K,_,objs,.refl X,.int _ _ ht,h⟩
theorem c_str_int {x:Int} (ha:x.natAbs.log2<1920) (h:Q (.str (toString x)) objs) (hz:(Str.ofString (toString x)).length≤sizeLine):XCall T w n (.type "str") [.int x] [] [] objs Q:=fun A s K vs ks R X r rk=>by
 obtain ⟨_,rfl,rfl,r1⟩:=args1 r rk
 obtain ⟨_,rfl,_⟩:=r1.inv
 exact leaf X (P.str_of_int ha (out_tok X _ (.str _ _ hz X.tk) h))
end
section
variable {T:TopT} {w:World} {n:Nat} {objs:List AO} {Q:D→List AO→Prop}
theorem bind1 {fd:FuncData} {x:Str} {d:D} (h:∀ v,bindArgs fd ⟨[v],[]⟩=pure [(x,v)]):Binds T fd [d] [] [] objs [(x,d)]:=fun K s vs ks X r rk=>by
 obtain ⟨_,rfl,rfl,r1⟩:=args1 r rk
 exact ⟨_,.of_eq (h _),.cons r1 .nil⟩
theorem bind2 {fd:FuncData} {x y:Str} {d e:D} (h:∀ v u,bindArgs fd ⟨[v,u],[]⟩=pure [(x,v),(y,u)]):Binds T fd [d,e] [] [] objs [(x,d),(y,e)]:=fun K s vs ks X r rk=>by
 obtain ⟨_,_,rfl,rfl,r1,r2⟩:=args2 r rk
 exact ⟨_,.of_eq (h _ _),.cons r1 (.cons r2 .nil)⟩
theorem bind3 {fd:FuncData} {x y z:Str} {d e f:D} (h:∀ v u t,bindArgs fd ⟨[v,u,t],[]⟩=pure [(x,v),(y,u),(z,t)]):Binds T fd [d,e,f] [] [] objs [(x,d),(y,e),(z,f)]:=fun K s vs ks X r rk=>by
 obtain ⟨_,_,_,rfl,rfl,r1,r2,r3⟩:=args3 r rk
 exact ⟨_,.of_eq (h _ _ _),.cons r1 (.cons r2 (.cons r3 .nil))⟩
end
theorem nest_self {prog:Program} {w:World} {A:Around} {E:Value→Shared→Prop} {s:Shared} {Q:Fin→Shared→Prop} {k:Int} (hq:Q (.done (.ret (.bool true))) s) :
  wpAny (model prog w) A (Builtin.«issubclass.nested» ⟨[.type "str",.type "str",rawInt k],[]⟩) Q E s:=by
 have hself:isSubtype (.type "str") (.type "str")=pure true:=by rfl
 repeat (any_goals (first | assumption | (rw[hself]) | wp_step))
theorem nest_tup {prog:Program} {w:World} {A:Around} {E:Value→Shared→Prop} {s:Shared} {Q:Fin→Shared→Prop} {a:Addr} {vs:List Value} {n:Nat} (ha:s.heap.get? a=some (tupO (.type "str" :: vs) n))
  (hq:Q (.done (.ret (.bool true))) s) :
  wpAny (model prog w) A (Builtin.«issubclass.nested» ⟨[.type "str",.ref a,rawInt 0],[]⟩) Q E s:=by
 have hT:s.TypeIs (.ref a) "tuple":=⟨_,ha,rfl⟩
 have hself:isSubtype (.type "tuple") (.type "tuple")=pure true:=by rfl
 repeat (any_goals (first | assumption | (rw[hself]) | wp_step))
 have e0:∀ hh,((some (Value.type "str" :: vs).toArray).getD #[])[((some (Value.type "str" :: vs).toArray).getD #[]).size - 1 - vs.length]'hh=Value.type "str":=fun hh=>by
  simp
 rw[e0]
 refine codeAny_call_builtin (show plainId "issubclass.nested"=true by decide +kernel) F.entry_issubclass_nested ?_
 have hsig:Manifest.signature? "issubclass.nested"=none:=by kernel_rfl
 unfold checkBuiltinCall
 rw[show builtinKind "issubclass.nested"=none by decide +kernel,hsig]
 refine wpAny_pure (nest_self ?_)
 dsimp only
 repeat (any_goals (first | assumption | wp_step))
section
variable {T:TopT} {w:World} {n:Nat} {objs:List AO} {Q:D→List AO→Prop}
theorem meets_issub (a:Addr) (vs:List Value) (n:Nat):Meets (Builtin.«issubclass» ⟨[.type "str",.ref a],[]⟩) (fun _ R s=>s.heap.get? a=some (tupO (.type "str" :: vs) n)∧R (.ok (.ret (.bool true))) s) :=
 fun _ _ _ _ _ hs=>issubclass_outer (nest_tup hs.1 hs.2)
theorem c_issub {l:List D} (h:Q (.bool true) objs):XCall T w n (.builtin "issubclass") [.val (.type "str"),.tup (.val (.type "str") :: l)] [] [] objs Q:=fun A s K vs ks R X r rk=>by
 obtain ⟨_,_,rfl,rfl,r1,r2⟩:=args2 r rk;obtain rfl:=r1.inv
 obtain ⟨_,_,_,rfl,ha,hk,hn,hl⟩:=r2.inv
 cases hl with
 | cons h1 h2 =>
 cases h1
 exact call_issubclass (meets_issub _ _ _) ⟨ha,⟨K,_,objs,.refl X,.bool _,h⟩⟩
end
section
variable {T:TopT} {w:World} {n:Nat} {objs:List AO} {Q:D→List AO→Prop} {loc:List (Str×D)}
theorem lk_here {x:Str} {d:D}:lk ((x,d) :: loc) x=some d:=by rw[lk_cons,if_pos rfl]
theorem lk_next {x y:Str} {d d':D} (h:Fast.sEq y x=false) (k:lk loc x=some d):lk ((y,d') :: loc) x=some d:=by
 show (match Fast.sEq y x with | true=>some d' | false=>lk loc x)=some d
 rw[h];exact k
noncomputable def nn (p:Str×D) (x:Str):Bool:=!Fast.sEq p.1 x
noncomputable def nn2 (p q:Str×D) (x:Str):Bool:=nn p x && nn q x
noncomputable def nn3 (p q r:Str×D) (x:Str):Bool:=nn p x && nn2 q r x
noncomputable def nn4 (p q r s:Str×D) (x:Str):Bool:=nn p x && nn3 q r s x
noncomputable def nn6 (p q r s t u:Str×D) (x:Str):Bool:=nn2 p q x && nn4 r s t u x
theorem lk_nn {p:Str×D} {r:List (Str×D)} {x:Str} (h:nn p x=true):lk (p :: r) x=lk r x:=by
 show (match Fast.sEq p.1 x with | true=>some p.2 | false=>lk r x)=lk r x
 unfold nn at h
 rw[show Fast.sEq p.1 x=false by simpa using h]
theorem lk_1 {p:Str×D} {x:Str} {d:D} {r:List (Str×D)} (h:nn p x=true):lk (p :: (x,d) :: r) x=some d:=by rw[lk_nn h];exact lk_here
theorem lk_s2 {p q:Str×D} {x:Str} {r:List (Str×D)} (h:nn2 p q x=true):lk (p :: q :: r) x=lk r x:=by
 obtain ⟨h1,h2⟩:=Bool.and_eq_true_iff.mp h
 rw[lk_nn h1,lk_nn h2]
theorem lk_2 {p q:Str×D} {x:Str} {d:D} {r:List (Str×D)} (h:nn2 p q x=true):lk (p :: q :: (x,d) :: r) x=some d:=by rw[lk_s2 h];exact lk_here
theorem lk_3 {p q s:Str×D} {x:Str} {d:D} {r:List (Str×D)} (h:nn3 p q s x=true):lk (p :: q :: s :: (x,d) :: r) x=some d:=by
 obtain ⟨h1,h2⟩:=Bool.and_eq_true_iff.mp h
 rw[lk_nn h1,lk_s2 h2];exact lk_here
theorem lk_s4 {p q s t:Str×D} {x:Str} {r:List (Str×D)} (h:nn4 p q s t x=true):lk (p :: q :: s :: t :: r) x=lk r x:=by
 obtain ⟨h1,h2⟩:=Bool.and_eq_true_iff.mp h
 obtain ⟨h2,h3⟩:=Bool.and_eq_true_iff.mp h2
 rw[lk_nn h1,lk_nn h2,lk_s2 h3]
theorem lk_4 {p q s t:Str×D} {x:Str} {d:D} {r:List (Str×D)} (h:nn4 p q s t x=true):lk (p :: q :: s :: t :: (x,d) :: r) x=some d:=by rw[lk_s4 h];exact lk_here
theorem lk_6 {p q s t u v:Str×D} {x:Str} {d:D} {r:List (Str×D)} (h:nn6 p q s t u v x=true) (k:lk r x=some d):lk (p :: q :: s :: t :: u :: v :: r) x=some d:=by
 obtain ⟨h1,h2⟩:=Bool.and_eq_true_iff.mp h
 rw[lk_s2 h1,lk_s4 h2];exact k
theorem o_is_t {a b:D} {u v:Value} (ha:dV a=some u) (hb:dV b=some v) (hp:plainIs u v=true) (e:(u==v)=true) (h:Q (.bool true) objs):Op2 T w n (compareOp .Is) a b objs Q:=o_is ha hb hp (by rw[e];exact h)
theorem o_isnot_f {a b:D} {u v:Value} (ha:dV a=some u) (hb:dV b=some v) (hp:plainIs u v=true) (e:(u==v)=true) (h:Q (.bool false) objs):Op2 T w n (compareOp .IsNot) a b objs Q:=o_isnot ha hb hp (by rw[e];exact h)
theorem t_str_t {x:Str} {Q:Bool→List AO→Prop} (e:Nat.ble x.length 0=false) (h:Q true objs):TruD T w n (.str x) objs Q:=t_str (by
 have hx:¬ x.length≤0:=fun q=>by rw[Nat.ble_eq_true_of_le q] at e;exact absurd e (by decide)
 have:((x.length:Int) != 0)=true:=bne_iff_ne.mpr (by lia)
 rw[this];exact h)
theorem t_str_f {x:Str} {Q:Bool→List AO→Prop} (e:Nat.ble x.length 0=true) (h:Q false objs):TruD T w n (.str x) objs Q:=t_str (by
 have:((x.length:Int) != 0)=false:=by have:=Nat.le_of_ble_eq_true e;simp;lia
 rw[this];exact h)
theorem len_ok {l:List D} {p:Prop} (h:Nat.ble l.length 100000=true) (k:p):l.length≤100000∧p:=⟨Nat.le_of_ble_eq_true h,k⟩
theorem xb {id:String} {ds kds:List D} {names:List Str} (h:XCall T w n (.builtin id) ds names kds objs Q):XC T w n (.builtin id) ds names kds objs Q:=⟨keep_builtin,h⟩
theorem xt {id:String} {ds kds:List D} {names:List Str} (h:XCall T w n (.type id) ds names kds objs Q):XC T w n (.type id) ds names kds objs Q:=⟨keep_type,h⟩
end
noncomputable def Kt.hide (K:Kt) (H:List Addr):Kt:=⟨K.k,H++K.hid⟩
noncomputable def Kt.bare (K:Kt) (hid:List Addr):Kt:=⟨K.k,hid⟩
theorem offs_hide {K:Kt} {H:List Addr} {a:Addr} (h:a∈offs (K.hide H)):a∈offs K∨a∈H:=by
 rcases List.mem_append.mp h with h | h
 ·exact .inl (List.mem_append_left _ h)
 ·rcases List.mem_append.mp h with h | h
  ·exact .inr h
  ·exact .inl (List.mem_append_right _ h)
section
variable {T:TopT} {w:World} {n:Nat} {env:Env} {loc:List (Str×D)} {objs:List AO}
theorem Mv.hide {K:Kt} {H:List Addr} {s s':Shared} (p:Pres [] s s') (hf:∀ a∈H,s.heap.objs.size≤a):Mv K (K.hide H) s.heap s'.heap :=
 ⟨fun b o e hk hi=>⟨p.keep b o e (fun h=>by cases h),fun h=>(offs_hide h).elim hk fun q=>absurd (Heap.lt_size e) (Nat.not_lt.mpr (hf b q))⟩,fun _ _ h=>h⟩
theorem Mv.bare {K:Kt} {hid:List Addr} {h:Heap} (hs:∀ a∈hid,a∈K.hid):Mv K (K.bare hid) h h :=
 ⟨fun b o e hk hi=>⟨e,fun q=>hk (by
  rcases List.mem_append.mp q with q | q
  ·exact List.mem_append_left _ q
  ·exact List.mem_append_right _ (hs b q))⟩,fun _ _ h=>h⟩
theorem Tr.hide {K:Kt} {H:List Addr} {s s':Shared} (X:Tr T K objs s) (p:Pres [] s s') (hf:∀ a∈H,s.heap.objs.size≤a∧a<s'.heap.objs.size) (ht:0<s'.toks):Tr T (K.hide H) objs s' :=
 X.map rfl (.hide p fun a h=>(hf a h).1) (fun b o e _=>p.keep b o e (fun h=>by cases h)) (fun a ha=>by
  rcases List.mem_append.mp ha with ha | ha
  ·exact (hf a ha).2
  ·exact Nat.lt_of_lt_of_le (X.live a (List.mem_append_right _ ha)) p.size) p.size (p.gens X.gens) ht (fun a ha=>by
  rcases List.mem_append.mp ha with ha | ha
  ·exact fun q=>absurd (X.live a (List.mem_append_left _ q)) (Nat.not_lt.mpr (hf a ha).1)
  ·exact X.hd a ha) fun L _ d=>d.dat fun o ho=>⟨o,p.keep L o ho (fun h=>by cases h),rfl⟩
theorem Tr.bare {K:Kt} {hid:List Addr} {s:Shared} (X:Tr T K objs s) (hs:∀ a∈hid,a∈K.hid):Tr T (K.bare hid) objs s :=
 X.map rfl (.bare hs) (fun b o e _=>e) (fun a ha=>X.live a (List.mem_append_right _ (hs a ha))) (Nat.le_refl _) X.gens X.toks (fun a ha=>X.hd a (hs a ha)) fun _ _ d=>d
theorem Frm.map {K K':Kt} {s s':Shared} (F:Frm T K env loc s) (m:Mv K K' s.heap s'.heap) (hk:∀ b o,s.heap.get? b=some o→b∈own env→∃ o',s'.heap.get? b=some o'∧o'.data=o.data) (ho:∀ a∈own env,a∉adrs K') (hz:s.heap.objs.size≤s'.heap.objs.size):Frm T K' env loc s':=by
 obtain ⟨m',⟨o,es,ep,ho',r⟩,h2⟩:=F.ns
 have kc:∀ {c v},c∈own env→s.heap.IsCell c v→s'.heap.IsCell c v:=fun hc hd=>Cell_dat hd fun o ho=>hk _ _ ho hc
 refine ⟨F.kind,F.glob,F.bi,ho,F.hi,F.apart,F.apart',fun a ha=>Nat.lt_of_lt_of_le (F.live a ha) hz,fun a ha=>let ⟨o,h1,h2⟩:=F.mute a ha;let ⟨o',h3,h4⟩:=hk _ _ h1 ha;⟨o',h3,by rw[h4];exact h2⟩,fun y hy=>?_,F.fr,m',Ns_dat ⟨o,es,ep,ho',r⟩ fun o ho=>hk _ _ ho (.head _),fun y d hd=>⟨fun hl=>?_,fun hl=>?_⟩⟩
 ·obtain ⟨c,v,h3,h4⟩:=F.cel y hy
  exact ⟨c,v,h3,kc (own_cell h3) h4⟩
 ·obtain ⟨v,h4,h5⟩:=(h2 y d hd).1 hl
  exact ⟨v,h4,h5.map m⟩
 ·obtain ⟨c,v,h3,h4,h5⟩:=(h2 y d hd).2 hl
  exact ⟨c,v,h3,kc (own_cell h3) h4,h5.map m⟩
theorem FlR.map {K K':Kt} {h h':Heap} {f:Fl} {fl:Flow} (x:FlR K h f fl) (m:Mv K K' h h'):FlR K' h' f fl:=by
 cases x with
 | next=>exact .next
 | brk=>exact .brk
 | cont=>exact .cont
 | ret r=>exact .ret (r.map m)
structure AccIn (T:TopT) (K:Kt) (env:Env) (a:Addr):Prop where
 hid:a∈K.hid
 low:T.N≤a
 own:a∉own env
 fs:¬ OnFs T a
theorem AccIn.mono {K K':Kt} {a:Addr} (x:AccIn T K env a) (h:K'.hid=K.hid):AccIn T K' env a:=⟨by rw[h];exact x.hid,x.low,x.own,x.fs⟩
theorem Pres.push (s:Shared) (o:Obj):Pres [] s {s with heap:=s.heap.push o}:=⟨fun b o e _=>Heap.get?_push_of_some _ e,by show _≤(s.heap.push o).objs.size;rw[Heap.size_push];exact Nat.le_succ _,rfl,id⟩
theorem Pres.same {s:Shared} {I:Addr} {h:Heap} (hs:Heap.SameBut I s.heap h):Pres [I] s {s with heap:=h}:=⟨fun b o e hb=>(hs.2 b fun q=>hb (by rw[q];exact .head _)).trans e,by show _≤h.objs.size;rw[hs.1];exact Nat.le_refl _,rfl,id⟩
theorem Pres.ends {s:Shared} {I:Addr} {h:Heap} (he:∀ b o,b≠I→s.heap.get? b=some o→h.get? b=some o) (hz:s.heap.objs.size≤h.objs.size):Pres [I] s {s with heap:=h}:=⟨fun b o e hb=>he b o (fun q=>hb (by rw[q];exact .head _)) e,hz,rfl,id⟩
theorem Mv.behind {K:Kt} {s s₃:Shared} {H:List Addr} (hH:∀ a∈H,a∈K.hid) (P:Pres H s s₃):Mv K K s.heap s₃.heap:=⟨fun b o e hk _=>⟨P.keep b o e fun q=>hk (List.mem_append_right _ (hH b q)),hk⟩,fun _ _ h=>h⟩
theorem Tr.behindH {K:Kt} {s s₃:Shared} {H:List Addr} (X:Tr T K objs s) (hH:∀ a∈H,a∈K.hid) (hl:∀ a∈H,T.N≤a) (hf:∀ L,OnFs T L→L∉H) (P:Pres H s s₃) (ht:0<s₃.toks):Tr T K objs s₃ :=
 X.map rfl (.behind hH P) (fun b o e hb=>P.keep b o e fun q=>hb.elim (X.hd b (hH b q)) fun z=>absurd z (Nat.not_lt.mpr (hl b q)))
  (fun a ha=>Nat.lt_of_lt_of_le (X.live a (List.mem_append_right _ ha)) P.size) P.size (P.gens X.gens) ht X.hd fun L hL d=>d.dat fun o ho=>⟨o,P.keep L o ho (hf L hL),rfl⟩
theorem Tr.behind {K:Kt} {s s₃:Shared} {H:List Addr} (X:Tr T K objs s) (hH:∀ a∈H,AccIn T K env a) (P:Pres H s s₃) (ht:0<s₃.toks):Tr T K objs s₃:=X.behindH (fun a h=>(hH a h).hid) (fun a h=>(hH a h).low) (fun L h q=>(hH L q).fs h) P ht
theorem Frm.behind {K:Kt} {s s₃:Shared} {H:List Addr} (F:Frm T K env loc s) (hH:∀ a∈H,AccIn T K env a) (P:Pres H s s₃):Frm T K env loc s₃ :=
 F.map (.behind (fun a h=>(hH a h).hid) P) (fun b o e hb=>⟨o,P.keep b o e fun q=>(hH b q).own hb,rfl⟩) F.out P.size
theorem Frm.hide {K:Kt} {s s₂:Shared} {H:List Addr} (F:Frm T K env loc s) (P:Pres [] s s₂) (hH:∀ a∈H,s.heap.objs.size≤a):Frm T (K.hide H) env loc s₂:=F.map (.hide P hH) (fun b o e _=>⟨o,P.keep b o e (fun h=>by cases h),rfl⟩) F.out P.size
theorem acc_new {K:Kt} {s:Shared} {H:List Addr} (X:Tr T K objs s) (F:Frm T K env loc s) (hH:∀ a∈H,s.heap.objs.size≤a):∀ a∈H,AccIn T (K.hide H) env a:=fun a ha =>
 ⟨List.mem_append_left _ ha,Nat.le_trans X.top.size (hH a ha),fun q=>absurd (F.live a q) (Nat.not_lt.mpr (hH a ha)),fun q=>absurd (X.fs_at q).1.lt (Nat.not_lt.mpr (hH a ha))⟩
inductive NextO (H:List Addr) (ds:List D) (St:Nat→Kt→List AO→Shared→Prop) (i:Nat) (K:Kt) (objs:List AO) (s:Shared) (r:Option Value) (s':Shared):Prop
 | item (v:Value) (d:D) (e:r=some v) (p:Pres H s s') (hd:ds[i]?=some d) (rv:VR K s'.heap d v) (st:St (i+1) K objs s')
 | stop (e:r=none) (p:Pres H s s') (he:i=ds.length)
structure Src (T:TopT) (w:World) (I:Addr) (H:List Addr) (ok:List AO→Prop) (ds:List D) (St:Nat→Kt→List AO→Shared→Prop):Prop where
 next:∀ {A:Around} {s:Shared} {K:Kt} {objs:List AO} {i:Nat},A.handled=none→Tr T K objs s→(∀ a∈H,a∈K.hid)→ok objs→St i K objs s →
  wpAny (model pw w) A (pyNext (.ref I)) (NextO H ds St i K objs s) noE s
 stay:∀ {i:Nat} {K K':Kt} {objs objs':List AO} {s s':Shared},St i K objs s→Tr T K objs s→Tr T K' objs' s'→Mv K K' s.heap s'.heap→(∀ a∈H,∀ o,s.heap.get? a=some o→hard a o→s'.heap.get? a=some o)→ok objs'→St i K' objs' s'
 self:∀ {A:Around} {s:Shared} {K:Kt} {objs:List AO} {i:Nat},St i K objs s→wpAny (model pw w) A (pyIter (.ref I)) (fun v s'=>v=.ref I∧s'=s) noE s
inductive IterO (T:TopT) (w:World) (K:Kt) (objs:List AO) (ok:List AO→Prop) (ds:List D) (s:Shared) (it:Value) (s':Shared):Prop
 | mk (I:Addr) (H:List Addr) (St:Nat→Kt→List AO→Shared→Prop) (e:it=.ref I) (src:Src T w I H ok ds St) (p:Pres [] s s') (ht:0<s'.toks) (hH:∀ a∈H,s.heap.objs.size≤a∧a<s'.heap.objs.size) (hst:ok objs→Tr T (K.hide H) objs s'→St 0 (K.hide H) objs s')
def IterD (T:TopT) (w:World) (n:Nat) (d:D) (objs:List AO) (ok:List AO→Prop) (ds:List D):Prop :=
 ∀ (A:Around) (s:Shared) (K:Kt) (v:Value),Room T A n→Tr T K objs s→VR K s.heap d v→wpAny (model pw w) A (pyIter v) (IterO T w K objs ok ds s) noE s
def LetGo (w:World) (I:Addr) (target:PySem.Expr) (St:Nat→Kt→List AO→Shared→Prop):Prop :=
 ∀ (A:Around) (s:Shared) (K:Kt) (o:List AO) (i:Nat) (v:Value),St i K o s→wpAny (model pw w) A (letOwnedTupleGo target (.ref I) v) (fun _ s'=>s'=s) noE s
inductive IterGO (T:TopT) (w:World) (target:PySem.Expr) (K:Kt) (objs:List AO) (ok:List AO→Prop) (ds:List D) (s:Shared) (it:Value) (s':Shared):Prop
 | mk (I:Addr) (H:List Addr) (St:Nat→Kt→List AO→Shared→Prop) (e:it=.ref I) (src:Src T w I H ok ds St) (lg:LetGo w I target St) (p:Pres [] s s') (ht:0<s'.toks) (hH:∀ a∈H,s.heap.objs.size≤a∧a<s'.heap.objs.size) (hst:ok objs→Tr T (K.hide H) objs s'→St 0 (K.hide H) objs s')
def IterG (T:TopT) (w:World) (n:Nat) (target:PySem.Expr) (d:D) (objs:List AO) (ok:List AO→Prop) (ds:List D):Prop :=
 ∀ (A:Around) (s:Shared) (K:Kt) (v:Value),Room T A n→Tr T K objs s→VR K s.heap d v→wpAny (model pw w) A (pyIter v) (IterGO T w target K objs ok ds s) noE s
theorem itg_any {target:PySem.Expr} {d:D} {ok:List AO→Prop} {ds:List D} (ht:∀ it v,letOwnedTupleGo target it v=pure ()) (it:IterD T w n d objs ok ds):IterG T w n target d objs ok ds:=fun A s K v R X r =>
 wE (it A s K v R X r) fun itv s' ⟨I,H,St,h1,h2,h3,h4,h5,h6⟩=>⟨I,H,St,h1,h2,fun A s K o i v st=>by rw[ht];exact wpAny_pure rfl,h3,h4,h5,h6⟩
theorem itg_d {target:PySem.Expr} {d:D} {ok:List AO→Prop} {ds:List D} (it:IterG T w n target d objs ok ds):IterD T w n d objs ok ds:=fun A s K v R X r =>
 wE (it A s K v R X r) fun itv s' ⟨I,H,St,h1,h2,_,h3,h4,h5,h6⟩=>⟨I,H,St,h1,h2,h3,h4,h5,h6⟩
theorem IterGO.new {target:PySem.Expr} {K:Kt} {s:Shared} {o:Obj} {ok:List AO→Prop} {ds:List D} (X:Tr T K objs s) (St:Nat→Kt→List AO→Shared→Prop) (src:Src T w s.heap.objs.size [s.heap.objs.size] ok ds St) (lg:LetGo w s.heap.objs.size target St)
  (hst:ok objs→St 0 (K.hide [s.heap.objs.size]) objs {s with heap:=s.heap.push o}):IterGO T w target K objs ok ds s (.ref s.heap.objs.size) {s with heap:=s.heap.push o} :=
 ⟨_,_,St,rfl,src,lg,.push s o,X.toks,fun b hb=>by rw[List.mem_singleton.mp hb];exact ⟨Nat.le_refl _,by show _<(s.heap.push o).objs.size;rw[Heap.size_push];exact Nat.lt_succ_self _⟩,fun h _=>hst h⟩
theorem mv_push {K:Kt} {s:Shared} (o:Obj):Mv K (K.hide [s.heap.objs.size]) s.heap (s.heap.push o):=.hide (s:=s) (s':={s with heap:=s.heap.push o}) (.push s o) fun b hb=>by rw[List.mem_singleton.mp hb];exact Nat.le_refl _
theorem nth_rel {K:Kt} {h:Heap} {l:List D} {xs:List Value} (hl:VRs K h l xs) {i:Nat} (hi:i<xs.length):∃ d,l[i]?=some d∧VR K h d xs[i]:=by
 have hz:=hl.length
 have hi':i<l.length:=by rw[hz];exact hi
 obtain ⟨u,hu,ru⟩:=hl.get (List.getElem?_eq_getElem hi')
 rw[List.getElem?_eq_getElem hi] at hu;cases hu
 exact ⟨_,List.getElem?_eq_getElem hi',ru⟩
theorem lg_list {A:Around} {E:Value→Shared→Prop} {s:Shared} {I l:Addr} {i:Nat} {target:PySem.Expr} {v:Value} (h:s.heap.IsListIter I l i):wpAny (model pw w) A (letOwnedTupleGo target (.ref I) v) (fun _ s'=>s'=s) E s:=by
 obtain ⟨o,ho,hc,hd⟩:=h
 have tup:wpAny (model pw w) A (letOwnedTupleGo (.Tuple [] 0 default) (.ref I) v) (fun _ s'=>s'=s) E s:=by
  cases v with
  | ref a =>
   show wpAny _ A (load I >>= _) _ _ s
   refine wpAny_bind (wpAny_load ho ?_)
   rw[hc,hd]
   exact wpAny_pure rfl
  | _=>exact wpAny_pure rfl
 cases target <;> first | exact tup | exact wpAny_pure rfl
inductive LstSt (d:D) (l:List D) (I a i:Nat) (K:Kt) (s:Shared):Prop
 | mk (hv:VR K s.heap d (.ref a)) (hit:s.heap.IsListIter I a i) (hle:i≤l.length)
theorem lst_next {d:D} {l:List D} {I a i:Nat} {K:Kt} {s:Shared} {A:Around} (hh:A.handled=none) (X:Tr T K objs s) (hH:∀ x∈[I],x∈K.hid) (hok:asL objs d=some l) (st:LstSt d l I a i K s) :
  wpAny (model pw w) A (pyNext (.ref I)) (NextO [I] l (fun i K _ s=>LstSt d l I a i K s) i K objs s) noE s:=by
 obtain ⟨hv,hit,hle⟩:=st
 obtain ⟨a',xs',m',e,ha',hl',_⟩:=asL_at X hv hok
 cases e
 by_cases hi:i<xs'.length
 ·obtain ⟨d',hd',rd⟩:=nth_rel hl' hi
  refine wpAny_pyNext_list_item hit (listO_is ha') (x:=xs'[i]) (by simp [hi]) fun h' hit' hs'=>?_
  have P:=Pres.same (s:=s) hs'
  have mv:=Mv.behind hH P
  exact .item _ d' rfl P hd' (rd.map mv) ⟨hv.map mv,hit',by rw[hl'.length];exact hi⟩
 ·have hii:=Nat.not_lt.mp hi
  refine wpAny_up (wpAny_pyNext_list_end hh hit (listO_is ha') (by simp [hii]) fun h' he' _ hz'=>.stop rfl (.ends he' hz') ?_)
  rw[← hl'.length] at hii;exact Nat.le_antisymm hle hii
theorem itg_list {target:PySem.Expr} {d:D} {l:List D} (h:asL objs d=some l):IterG T w n target d objs (fun o=>asL o d=some l) l:=fun A s K v R X r=>by
 obtain ⟨a,xs,m,rfl,ha,hl,hn⟩:=asL_at X r h
 refine wpAny_pyIter_list (listO_is ha) (.new X (fun i K _ s'=>LstSt d l s.heap.objs.size a i K s') ⟨fun hh X' hH hok st=>lst_next hh X' hH hok st,?_,fun ⟨_,hit,_⟩=>wpAny_pyIter_listiter hit ⟨rfl,rfl⟩⟩ (fun A s K o i v ⟨_,hit,_⟩=>lg_list hit) fun ok=>⟨r.map (mv_push _),⟨_,Heap.get?_push_size _ rfl,rfl,rfl⟩,Nat.zero_le _⟩)
 intro i K₁ K₂ o₁ o₂ s₁ s₂ st X₁ X₂ mv keep hok
 obtain ⟨hv,⟨o,h1,h2,h3⟩,hle⟩:=st
 exact ⟨hv.map mv,⟨o,keep _ (.head _) o h1 (.inr fun es n q=>by rw[h3] at q;cases q),h2,h3⟩,hle⟩
theorem it_list {d:D} {l:List D} (h:asL objs d=some l):IterD T w n d objs (fun o=>asL o d=some l) l:=itg_d (itg_list (target:=.Name "" default) h)
inductive AsgO (T:TopT) (K:Kt) (env:Env) (s:Shared) (objs:List AO) (loc':List (Str×D)) (s':Shared):Prop
 | mk (K':Kt) (P:PostL T (own env) K s K' objs s') (F:Frm T K' env loc' s')
def AsgD (T:TopT) (w:World) (n:Nat) (env:Env) (target:PySem.Expr) (d:D) (loc:List (Str×D)) (objs:List AO) (loc':List (Str×D)):Prop :=
 ∀ (A:Around) (s:Shared) (K:Kt) (v:Value),Room T A n→Tr T K objs s→Frm T K env loc s→VR K s.heap d v →
  wpAny (model pw w) A (assign target env v) (fun _ s'=>AsgO T K env s objs loc' s') noE s
theorem a_name {x:Str} {p:Pos} {d:D} (hl:env.scope.names.lookup x=some .local∨env.scope.names.lookup x=some .cell):AsgD T w n env (.Name x p) d loc objs ((x,d) :: loc):=fun A s K v R X F r =>
 wpAny_assign_Name (wE (store_any X F r hl) fun _ _ ⟨P,F'⟩=>⟨K,P,F'⟩)
theorem pres_dropX {W H:List Addr} {s s':Shared} (p:Pres (H++W) s s') (hf:∀ a∈H,s.heap.objs.size≤a):Pres W s s' :=
 ⟨fun b o e hb=>p.keep b o e fun h=>(List.mem_append.mp h).elim (fun q=>absurd (Heap.lt_size e) (Nat.not_lt.mpr (hf b q))) hb,p.size,p.os,p.gens⟩
theorem pres_drop {W H:List Addr} {s s':Shared} (p:PreS (H++W) s s') (hf:∀ a∈H,s.heap.objs.size≤a):PreS W s s' :=
 ⟨fun b o e hb=>p.kp b o e fun h=>(List.mem_append.mp h).elim (fun q=>absurd (Heap.lt_size e) (Nat.not_lt.mpr (hf b q))) hb,p.size,p.os,p.gens⟩
theorem pres_wid {V H:List Addr} {K K₁:Kt} {s s₂ s₃:Shared} (P:PreS (H++(V++adrs K₁)) s₂ s) (G:Grows s₂ (K₁.hide H) K) (P':PreS (V++adrs K) s s₃):PreS (H++(V++adrs K₁)) s₂ s₃:=P.trans P' fun a ha=>by
 rcases List.mem_append.mp ha with ha | ha
 ·exact .inl (List.mem_append_right _ (List.mem_append_left _ ha))
 ·exact (G.fresh a ha).imp (fun q=>List.mem_append_right _ (List.mem_append_right _ q)) id
theorem pres_hid {H:List Addr} {K:Kt} {s s':Shared} (X:Tr T K objs s) (hH:∀ a∈H,AccIn T K env a) (P:PreS (own env++adrs K) s s'):∀ a∈H,∀ o,s.heap.get? a=some o→hard a o→s'.heap.get? a=some o:=fun a ha o e hd =>
 P.keep a o e (fun q=>(List.mem_append.mp q).elim (hH a ha).own (X.hd a (hH a ha).hid)) hd
inductive ForT (T:TopT) (w:World) (n:Nat) (env:Env) (target:PySem.Expr) (body:List Stmt) (d:D) (l:List (Str×D)) (o:List AO) (N:List (Str×D)→List AO→Prop) (Q:Fl→List (Str×D)→List AO→Prop):Prop
 | mk (l':List (Str×D)) (a:AsgD T w n env target d l o l') (b:EvSs T w n env body l' o (kLoop N Q))
structure OkInv (ok:List AO→Prop) (Inv:Nat→List (Str×D)→List AO→Prop) (i:Nat) (l:List (Str×D)) (o:List AO):Prop where
 ok:ok o
 inv:Inv i l o
structure ForOk (T:TopT) (w:World) (n:Nat) (env:Env) (target:PySem.Expr) (body orelse:List Stmt) (ds:List D) (ok:List AO→Prop) (Inv:Nat→List (Str×D)→List AO→Prop)
  (Q:Fl→List (Str×D)→List AO→Prop):Prop where
 turn:∀ i l o d,ds[i]?=some d→ok o→Inv i l o→ForT T w n env target body d l o (OkInv ok Inv (i+1)) Q
 fin:∀ l o,Inv ds.length l o→EvSs T w n env orelse l o Q
inductive StepO (H:List Addr) (ds:List D) (St:Nat→Kt→List AO→Shared→Prop) (i:Nat) (K:Kt) (objs:List AO) (s:Shared) (v:Value) (s':Shared):Prop
 | mk (d:D) (p:Pres H s s') (ht:0<s'.toks) (hd:ds[i]?=some d) (rv:VR K s'.heap d v) (st:St (i+1) K objs s')
def StepR (w:World) (A:Around) (target:PySem.Expr) (I:Addr) (H:List Addr) (ds:List D) (St:Nat→Kt→List AO→Shared→Prop) (i:Nat) (K:Kt) (objs:List AO) (s:Shared) (r:Option Value) (s':Shared):Prop:=match r with
 | some v=>wpAny (model pw w) A (letOwnedTupleGo target (.ref I) v) (fun _ s₂=>StepO H ds St i K objs s v s₂) noE s'
 | none=>Pres H s s'∧0<s'.toks∧i=ds.length
inductive ForSrc (T:TopT) (w:World) (n:Nat) (env:Env) (target:PySem.Expr) (body orelse:List Stmt) (loc:List (Str×D)) (Q:Fl→List (Str×D)→List AO→Prop) (K:Kt) (s:Shared) (itv:Value) (s₂:Shared):Prop
 | mk (s₁:Shared) (K₁:Kt) (o₁:List AO) (ds:List D) (ok:List AO→Prop) (Inv:Nat→List (Str×D)→List AO→Prop) (I:Addr) (H:List Addr) (St:Nat→Kt→List AO→Shared→Prop) (e:itv=.ref I) (p:Post T K s K₁ o₁ s₁)
  (next:∀ {A:Around} {s:Shared} {K:Kt} {objs:List AO} {i:Nat},A.handled=none→Tr T K objs s→(∀ a∈H,a∈K.hid)→ok objs→St i K objs s→wpAny (model pw w) A (pyNext (.ref I)) (StepR w A target I H ds St i K objs s) noE s)
  (stay:∀ {i:Nat} {K K':Kt} {objs objs':List AO} {s s':Shared},St i K objs s→Tr T K objs s→Tr T K' objs' s'→Mv K K' s.heap s'.heap→(∀ a∈H,∀ o,s.heap.get? a=some o→hard a o→s'.heap.get? a=some o)→ok objs'→St i K' objs' s')
  (p₂:Pres [] s₁ s₂) (ht:0<s₂.toks) (hH:∀ a∈H,s₁.heap.objs.size≤a∧a<s₂.heap.objs.size) (hst:ok o₁→Tr T (K₁.hide H) o₁ s₂→St 0 (K₁.hide H) o₁ s₂) (hok:ok o₁) (h0:Inv 0 loc o₁) (F:ForOk T w n env target body orelse ds ok Inv Q)
inductive LoopSt (T:TopT) (env:Env) (H:List Addr) (K₁:Kt) (s₂:Shared) (ds:List D) (ok:List AO→Prop) (St:Nat→Kt→List AO→Shared→Prop) (Inv:Nat→List (Str×D)→List AO→Prop) (m:Nat) (s:Shared):Prop
 | mk (i:Nat) (K:Kt) (l:List (Str×D)) (o:List AO) (em:m=ds.length - i) (X:Tr T K o s) (P:PreS (H++(own env++adrs K₁)) s₂ s) (G:Grows s₂ (K₁.hide H) K) (F:Frm T K env l s) (ok':ok o) (st:St i K o s) (inv:Inv i l o)
theorem wU {α:Type} {A:Around} {t:Sem α} {P Q:α→Shared→Prop} {E:Value→Shared→Prop} {s:Shared} (h:wpAny (model pw w) A t P noE s) (k:∀ a s',P a s'→Q a s'):wpAny (model pw w) A t Q E s:=wpAny_mono h k fun _ _ x=>x.elim
theorem loop_out {K K₁ K':Kt} {H:List Addr} {s s₁ s₂ s':Shared} {o₁ o:List AO} {l:List (Str×D)} {f:Fl} {fl:Flow} {Q:Fl→List (Str×D)→List AO→Prop} (p₁:Post T K s K₁ o₁ s₁) (p₂:Pres [] s₁ s₂) (hH:∀ a∈H,s₁.heap.objs.size≤a)
  (X:Tr T K' o s') (P:PreS (H++(own env++adrs K₁)) s₂ s') (G:Grows s₂ (K₁.hide H) K') (F:Frm T K' env l s') (r:FlR K' s'.heap f fl) (q:Q f l o):OutS T K env s Q fl s':=by
 have sub:∀ a∈K₁.hid,a∈K'.hid:=fun a ha=>by rw[G.hid];exact List.mem_append_right _ ha
 have mb:Mv K' (K'.bare K₁.hid) s'.heap s'.heap:=.bare sub
 exact ⟨K'.bare K₁.hid,f,l,o,p₁.toL.trans ⟨X.bare sub,pres_drop (H:=H) ((p₂.wider (W':=H++(own env++adrs K₁)) fun _ h=>by cases h).soft.trans P fun a ha=>.inl ha) hH,⟨G.ext,fun a ha=>(G.fresh a ha).imp id fun q=>Nat.le_trans p₂.size q,rfl⟩⟩,
  F.map mb (fun b o e _=>⟨o,e,rfl⟩) F.out (Nat.le_refl _),r.map mb,q⟩
theorem s_forI {target iter:PySem.Expr} {body orelse:List Stmt} {pos:Pos} {Q:Fl→List (Str×D)→List AO→Prop} (hs:∀ x,foldedSetIterable iter env x=pure x)
  (h:∀ (A:Around) (s:Shared) (K:Kt),Room T A n→Tr T K objs s→Frm T K env loc s→wpAny (model pw w) A (eval iter env) (fun v s'=>wpAny (model pw w) A (pyIter v) (ForSrc T w n env target body orelse loc Q K s) noE s') noE s):EvS T w n env (.For target iter body orelse pos) loc objs Q:=fun A s K R X F=>by
 refine wpAny_For (wE (h A s K R X F) fun v s' hv=>wE hv fun itv s₂ hh=>?_) hs
 obtain ⟨s₁,K₁,o₁,ds,ok,Inv,I,H,St,rfl,p₁,next,stay,p₂,ht₂,hH,hst,hok,h0,hF⟩:=hh
 have F₁:=F.post p₁
 have X₂:Tr T (K₁.hide H) o₁ s₂:=p₁.tr.hide p₂ hH ht₂
 have hH₁:∀ a∈H,s₁.heap.objs.size≤a:=fun a h=>(hH a h).1
 have F₂:=F₁.hide p₂ hH₁
 have hin:=acc_new p₁.tr F₁ hH₁
 refine codeAny_forLoop_any (LoopSt T env H K₁ s₂ ds ok St Inv) (fun m s' hI=>?_) ds.length ⟨0,_,loc,o₁,rfl,X₂,.refl _ _,.refl _ _,F₂,hok,hst hok X₂,h0⟩
 obtain ⟨i,K',l,o,rfl,X',P',G',F',ok',st',inv'⟩:=hI
 have hin':∀ a∈H,AccIn T K' env a:=fun a h=>(hin a h).mono G'.hid
 refine wU (next R.hnd X' (fun a h=>(hin' a h).hid) ok' st') fun r s₃ hr=>?_
 cases r with
 | some v =>
  refine wU hr fun _ s₄ hh=>?_
  obtain ⟨d',P₃,ht₃,hd',rv,st₃⟩:=hh
  have X₃:=X'.behind hin' P₃ ht₃
  have F₃:=F'.behind hin' P₃
  have P₃':PreS (H++(own env++adrs K₁)) s₂ s₄:=P'.trans P₃.soft fun a ha=>.inl (List.mem_append_left _ ha)
  obtain ⟨l',ha,hb⟩:=hF.turn i l o d' hd' ok' inv'
  refine wU (ha A s₄ K' v R X₃ F₃ rv) fun _ s₅ hh=>?_
  obtain ⟨K₄,P₄,F₄⟩:=hh
  refine wU (hb A s₅ K₄ R P₄.tr F₄) fun fl s₆ hh=>?_
  obtain ⟨K₅,f,l₅,o₅,P₅,F₅,r₅,q₅⟩:=hh
  have P45:=P₄.trans P₅
  have P6:=pres_wid P₃' G' P45.pres
  have G6:=G'.trans P45.grows P₃'.size
  have go:OkInv ok Inv (i+1) l₅ o₅→∃ m',m'<ds.length - i∧LoopSt T env H K₁ s₂ ds ok St Inv m' s₆:=fun q=>⟨ds.length - (i+1),Nat.sub_succ_lt_self _ _ (List.getElem?_eq_some_iff.mp hd').1,
   ⟨i+1,K₅,l₅,o₅,rfl,P45.tr,P6,G6,F₅,q.1,stay st₃ X₃ P45.tr (.of (P45.still F₃.unicy) P45.grows) (pres_hid X₃ hin' P45.pres) q.1,q.2⟩⟩
  cases r₅ with
  | next=>exact go q₅
  | cont=>exact go q₅
  | brk=>exact loop_out p₁ p₂ hH₁ P45.tr P6 G6 F₅ .next q₅
  | ret r=>exact loop_out p₁ p₂ hH₁ P45.tr P6 G6 F₅ (.ret r) q₅
 | none =>
  obtain ⟨P₃,ht₃,rfl⟩:=hr
  have P₃':PreS (H++(own env++adrs K₁)) s₂ s₃:=P'.trans P₃.soft fun a ha=>.inl (List.mem_append_left _ ha)
  refine wU (hF.fin l o inv' A s₃ K' R (X'.behind hin' P₃ ht₃) (F'.behind hin' P₃)) fun fl s₅ hh=>?_
  obtain ⟨K₅,f,l₅,o₅,P₅,F₅,r₅,q₅⟩:=hh
  exact loop_out p₁ p₂ hH₁ P₅.tr (pres_wid P₃' G' P₅.pres) (G'.trans P₅.grows P₃'.size) F₅ r₅ q₅
theorem Src.step {target:PySem.Expr} {I:Addr} {H:List Addr} {ok:List AO→Prop} {ds:List D} {St:Nat→Kt→List AO→Shared→Prop} (src:Src T w I H ok ds St) (ht:∀ it v,letOwnedTupleGo target it v=pure ()) {A:Around} {s:Shared} {K:Kt} {objs:List AO} {i:Nat} (hh:A.handled=none) (X:Tr T K objs s) (hH:∀ a∈H,a∈K.hid) (hok:ok objs) (st:St i K objs s) :
  wpAny (model pw w) A (pyNext (.ref I)) (StepR w A target I H ds St i K objs s) noE s:=by
 refine leaf X (wE (src.next hh X hH hok st) fun r s' hr ht'=>?_)
 cases hr with
 | item v d e p hd rv st=>subst e;show wpAny _ _ _ _ _ _;rw[ht];exact wpAny_pure ⟨d,p,ht',hd,rv,st⟩
 | stop e p he=>subst e;exact ⟨p,ht',he⟩
inductive ForQ (T:TopT) (w:World) (n:Nat) (env:Env) (target:PySem.Expr) (body orelse:List Stmt) (loc:List (Str×D)) (Q:Fl→List (Str×D)→List AO→Prop) (d:D) (o:List AO):Prop
 | mk (ds:List D) (ok:List AO→Prop) (Inv:Nat→List (Str×D)→List AO→Prop) (it:IterD T w n d o ok ds) (hok:ok o) (h0:Inv 0 loc o) (F:ForOk T w n env target body orelse ds ok Inv Q)
theorem s_for {target iter:PySem.Expr} {body orelse:List Stmt} {pos:Pos} {Q:Fl→List (Str×D)→List AO→Prop}
  (hs:∀ x,foldedSetIterable iter env x=pure x) (ht:∀ it v,letOwnedTupleGo target it v=pure ())
  (h:EvE T w n env iter loc objs (ForQ T w n env target body orelse loc Q)):EvS T w n env (.For target iter body orelse pos) loc objs Q:=s_forI hs fun A s K R X F=>by
 refine wE (h A s K R X F) fun v s₁ hh=>?_
 obtain ⟨K₁,d,o₁,p₁,r₁,ds,ok,Inv,it,hok,h0,hF⟩:=hh
 refine wE (it A s₁ K₁ v R p₁.tr r₁) fun itv s₂ hh=>?_
 obtain ⟨I,H,St,e,src,p₂,ht₂,hH,hst⟩:=hh
 exact ⟨s₁,K₁,o₁,ds,ok,Inv,I,H,St,e,p₁,src.step ht,src.stay,p₂,ht₂,hH,hst,hok,h0,hF⟩
end
section
variable {T:TopT} {w:World} {n:Nat} {env:Env} {loc:List (Str×D)} {objs:List AO}
theorem adrs_apart {K:Kt} (h:K.k.Pairwise (fun p q=>∀ a∈p.1 :: p.2,a∉q.1 :: q.2)) {i j:Nat} {p q:Addr×List Addr} (hi:K.k[i]?=some p) (hj:K.k[j]?=some q) (hne:i≠j):∀ a∈p.1 :: p.2,a∉q.1 :: q.2:=by
 obtain ⟨hi',ei⟩:=List.getElem?_eq_some_iff.mp hi
 obtain ⟨hj',ej⟩:=List.getElem?_eq_some_iff.mp hj
 rcases Nat.lt_or_gt_of_ne hne with hlt | hlt
 ·have:=List.pairwise_iff_getElem.mp h i j hi' hj' hlt
  rw[ei,ej] at this;exact this
 ·have:=List.pairwise_iff_getElem.mp h j i hj' hi' hlt
  rw[ei,ej] at this
  exact fun a ha hb=>this a hb ha
noncomputable def Kt.add (K:Kt) (p:Addr×List Addr):Kt:=⟨K.k++[p],K.hid⟩
theorem adrs_add {K:Kt} {p:Addr×List Addr}:adrs (K.add p)=adrs K++(p.1 :: p.2):=by simp [adrs,Kt.add]
theorem Post.track {K:Kt} {s s':Shared} {p:Addr×List Addr} {ao:AO} (X:Tr T K objs s) (P:Pres [] s s') (ht:0<s'.toks) (hf:∀ a∈p.1 :: p.2,s.heap.objs.size≤a∧a<s'.heap.objs.size) (hn:(p.1 :: p.2).Nodup)
  (ha:Mv K (K.add p) s.heap s'.heap→AR T (K.add p) s'.heap p ao):Post T K s (K.add p) (objs++[ao]) s':=by
 have g:Grows s K (K.add p):=⟨⟨[p],rfl⟩,fun a h=>by
  rw[adrs_add] at h
  rcases List.mem_append.mp h with h | h
  ·exact .inl h
  ·exact .inr (hf a h).1,rfl⟩
 have mv:Mv K (K.add p) s.heap s'.heap:=⟨fun b o e hk hi=>⟨P.keep b o e (fun h=>by cases h),fun h=>(g.offs _ h).elim hk fun q=>absurd (Heap.lt_size e) (Nat.not_lt.mpr q)⟩,fun k q h=>by
  show (K.k++[p])[k]?=some q
  rw[List.getElem?_append_left (List.getElem?_eq_some_iff.mp h).1];exact h⟩
 have top:TopOK T s'.heap:=X.top.keeps X.well X.low (P.wider fun a h=>by cases h).soft
 refine ⟨⟨X.well,top,?_,⟨?_,?_⟩,fun a h=>?_,fun a h=>?_,fun k q ao' h1 h2=>?_,P.gens X.gens,ht,fun a h=>?_,fun e he=>?_⟩,(P.wider fun a h=>(by cases h)).soft,g⟩
 ·show (K.k++[p]).length=_
  rw[List.length_append,List.length_append,X.len];rfl
 ·show (K.k++[p]).Pairwise _
  refine List.pairwise_append.mpr ⟨X.nd.1,List.pairwise_singleton _ _,fun q hq r hr a h1 h2=>?_⟩
  rw[List.mem_singleton.mp hr] at h2
  have:a∈adrs K:=List.mem_flatMap.mpr ⟨q,hq,h1⟩
  exact absurd (X.live a (List.mem_append_left _ this)) (Nat.not_lt.mpr (hf a h2).1)
 ·intro q hq
  rcases List.mem_append.mp hq with hq | hq
  ·exact X.nd.2 q hq
  ·rw[List.mem_singleton.mp hq];exact hn
 ·rw[adrs_add] at h
  rcases List.mem_append.mp h with h | h
  ·exact X.low a h
  ·exact .inl (Nat.le_trans X.top.size (hf a h).1)
 ·rcases g.offs a h with q | q
  ·exact Nat.lt_of_lt_of_le (X.live a q) P.size
  ·rcases List.mem_append.mp h with h | h
   ·rw[adrs_add] at h
    rcases List.mem_append.mp h with h | h
    ·exact absurd (X.live a (List.mem_append_left _ h)) (Nat.not_lt.mpr q)
    ·exact (hf a h).2
   ·exact absurd (X.live a (List.mem_append_right _ h)) (Nat.not_lt.mpr q)
 ·have h1:(K.k++[p])[k]?=some q:=h1
  by_cases hk:k<K.k.length
  ·rw[List.getElem?_append_left hk] at h1
   rw[List.getElem?_append_left (by rw[← X.len];exact hk)] at h2
   exact (X.ob k q ao' h1 h2).map mv fun a _ o e=>P.keep a o e (fun h=>by cases h)
  ·rw[List.getElem?_append_right (Nat.not_lt.mp hk)] at h1
   rw[List.getElem?_append_right (by rw[← X.len];exact Nat.not_lt.mp hk),← X.len] at h2
   cases e:k - K.k.length with
   | zero=>rw[e] at h1 h2;cases h1;cases h2;exact ha mv
   | succ m=>rw[e] at h1;cases h1
 ·rw[adrs_add]
  intro q
  rcases List.mem_append.mp q with q | q
  ·exact X.hd a h q
  ·exact absurd (X.live a (List.mem_append_right _ h)) (Nat.not_lt.mpr (hf a q).1)
 ·obtain ⟨q0,L,q1,q2,q3,q4⟩:=X.fs e he
  refine ⟨q0,L,q1,q2.dat fun o ho=>⟨o,P.keep _ _ ho (fun h=>by cases h),rfl⟩,fun q=>?_,q4⟩
  rw[adrs_add] at q
  rcases List.mem_append.mp q with q | q
  ·exact q3 q
  ·exact absurd q2.lt (Nat.not_lt.mpr (hf L q).1)
theorem Post.upd {K:Kt} {s s':Shared} {k:Nat} {p:Addr×List Addr} {ao:AO} (X:Tr T K objs s) (hk:K.k[k]?=some p) (P:Pres (p.1 :: p.2) s s') (ht:0<s'.toks)
  (ha:Mv K K s.heap s'.heap→AR T K s'.heap p ao):Post T K s K (objs.set k ao) s':=by
 have mv:Mv K K s.heap s'.heap:=⟨fun b o e hb hi=>⟨P.keep b o e fun h=>hb (List.mem_append_left _ (mem_adrs hk h)),hb⟩,fun _ _ h=>h⟩
 have top:TopOK T s'.heap:=X.top.keeps X.well X.low (P.wider fun a h=>mem_adrs hk h).soft
 refine ⟨⟨X.well,top,by rw[List.length_set];exact X.len,X.nd,X.low,fun a h=>Nat.lt_of_lt_of_le (X.live a h) P.size,fun j q ao' h1 h2=>?_,P.gens X.gens,ht,X.hd,fun e he=>(let ⟨q0,L,q1,q2,q3,q4⟩:=X.fs e he;⟨q0,L,q1,q2.dat fun o ho=>⟨o,P.keep _ _ ho fun h=>q3 (mem_adrs hk h),rfl⟩,q3,q4⟩)⟩,(P.wider fun a h=>mem_adrs hk h).soft,.refl _ _⟩
 by_cases e:k=j
 ·subst e
  rw[hk] at h1;cases h1
  rw[List.getElem?_set_self (by rw[← X.len];exact (List.getElem?_eq_some_iff.mp hk).1)] at h2
  cases h2;exact ha mv
 ·rw[List.getElem?_set_ne e] at h2
  exact (X.ob j q ao' h1 h2).map mv fun a h o e'=>P.keep a o e' (adrs_apart X.nd.1 h1 hk (Ne.symm e) a h)
@[reducible] def kNew (Q:D→List AO→Prop) (ds:List D) (o:List AO):Prop:=ds.length≤100000∧Q (.obj o.length) (o++[.lst ds])
theorem ev_newlist {es:List PySem.Expr} {pos:Pos} {Q:D→List AO→Prop} (h:EvEs T w n env pos es loc objs (kNew Q)):EvE T w n env (.List es pos) loc objs Q:=fun A s K R X F=>by
 refine wpAny_List_spliced (wE (h A s K R X F) fun vs s₁ ⟨K₁,ds,o₁,p₁,r₁,q₀,q₁⟩=>⟨by rw[← r₁.length];exact Nat.le_trans q₀ (by decide),?_⟩)
 have P:=Post.push p₁.tr (listO vs 0)
 have hx:(s₁.heap.push (listO vs 0)).objs.size=s₁.heap.objs.size+1:=Heap.size_push _ _
 have Q1:Post T K₁ s₁ (K₁.add (s₁.heap.objs.size,[])) (o₁++[.lst ds]) {s₁ with heap:=s₁.heap.push (listO vs 0)}:=Post.track (p:=(s₁.heap.objs.size,[])) p₁.tr ⟨fun b o e _=>Heap.get?_push_of_some _ e,P.pres.size,rfl,P.pres.gens⟩ p₁.tr.toks (fun a h=>by
  rw[List.mem_singleton.mp h];exact ⟨Nat.le_refl _,by show _<(s₁.heap.push _).objs.size;rw[hx];exact Nat.lt_succ_self _⟩) (List.nodup_cons.mpr ⟨fun h=>(by cases h),List.nodup_nil⟩) fun mv=>⟨vs,0,rfl,Heap.get?_push_size _ rfl,r₁.map mv,q₀⟩
 refine ⟨_,_,_,p₁.trans Q1,.obj (k:=o₁.length) (a:=s₁.heap.objs.size) (m:=[]) ?_,q₁⟩
 show (K₁.k++[_])[o₁.length]?=_
 rw[← p₁.tr.len,List.getElem?_append_right (Nat.le_refl _),Nat.sub_self];rfl
theorem c_append {k:Nat} {l:List D} {d:D} {Q:D→List AO→Prop} (hk:objs[k]?=some (.lst l)) (hn:l.length+1≤100000) (h:Q .none (objs.set k (.lst (l++[d])))):XCall T w n (.builtin "list.append") [.obj k,d] [] [] objs Q:=fun A s K vs ks R X r rk=>by
 obtain ⟨_,_,rfl,rfl,r1,r2⟩:=args2 r rk
 obtain ⟨_,_,rfl,hK⟩:=r1.inv
 rename_i a m
 obtain ⟨xs,m',h1,h2,h3,h4⟩:=X.ob k (a,m) _ hK hk
 have h1:m=[]:=h1
 subst h1
 have hz:xs.length=l.length:=h3.length.symm
 refine leaf X (wpAny_list_append_plain (items:=xs.toArray) ⟨m',h2⟩ (fun h' hp hs=>?_) (by rw[List.size_toArray];exact Nat.le_trans (by lia) (show 100000≤sizeLine by decide)))
 intro ht
 obtain ⟨m₂,hp⟩:=hp
 have P:Pres [a] s {s with heap:=h'}:=⟨fun b o e hb=>(hs.2 b fun q=>hb (by rw[q];exact .head _)).trans e,by show _≤h'.objs.size;rw[hs.1];exact Nat.le_refl _,rfl,id⟩
 refine ⟨K,.none,_,Post.upd (p:=(a,[])) (ao:=.lst (l++[d])) X hK P ht fun mv=>⟨xs++[_],m₂,rfl,?_,(h3.map mv).app (.cons (r2.map mv) .nil),?_⟩,.none,h⟩
 ·rw[hp];simp [listO]
 ·rw[List.length_append];exact hn
theorem gm_list {d:D} {l:List D} (h:asL objs d=some l):GetM T w n d ("append":Str) (.builtin "list.append") [d] objs:=fun A s K v pl Q R X r hq=>by
 obtain ⟨a,xs,m,rfl,ha,hl,hn⟩:=asL_at X r h
 exact getMethod_builtin (listO_is ha).typeIs F.plainAttrs_list slot_list_append type_list_append (fun b e=>by cases e;exact ⟨_,ha,rfl⟩) (hq _ (.cons r .nil))
theorem o_neg_int {a:Int} {Q:D→List AO→Prop} (h:Q (.int (-a)) objs):Op1 T w n (unaryOp .USub) (.int a) objs Q:=fun A s K u R X ru=>by
 obtain ⟨_,rfl,_⟩:=ru.inv;exact leaf X (P.neg_int (out_tok X _ (.int _ _ X.tk) h))
inductive Less (Inv:Nat→List (Str×D)→List AO→Prop) (m:Nat) (l:List (Str×D)) (o:List AO):Prop
 | mk (m':Nat) (hm:m'<m) (i:Inv m' l o)
@[reducible] def kWh (T:TopT) (w:World) (n:Nat) (env:Env) (body orelse:List Stmt) (Inv:Nat→List (Str×D)→List AO→Prop) (Q:Fl→List (Str×D)→List AO→Prop) (m:Nat) (l:List (Str×D)) (b:Bool) (o:List AO):Prop:=match b with
 | true=>EvSs T w n env body l o (kLoop (Less Inv m) Q)
 | false=>EvSs T w n env orelse l o Q
theorem s_while {test:PySem.Expr} {body orelse:List Stmt} {pos:Pos} {Q:Fl→List (Str×D)→List AO→Prop} (Inv:Nat→List (Str×D)→List AO→Prop) (n₀:Nat) (h0:Inv n₀ loc objs)
  (turn:∀ m l o,Inv m l o→EvB T w n env test l o (kWh T w n env body orelse Inv Q m l)):EvS T w n env (.While test body orelse pos) loc objs Q:=fun A s K R X F=>by
 refine wpAny_While (codeAny_whileLoop (I:=fun m s'=>∃ K' l o,PostL T (own env) K s K' o s'∧Frm T K' env l s'∧Inv m l o) (fun m s' ⟨K',l,o,P',F',inv'⟩=>?_) n₀ ⟨K,loc,objs,(Post.refl X).toL,F,h0⟩)
 have up:∀ {α:Type} {t:Sem α} {R:α→Shared→Prop} {E:Value→Shared→Prop} {s:Shared},wpAny (model pw w) A t R noE s→wpAny (model pw w) A t R E s:=fun h=>wpAny_mono h (fun _ _ x=>x) fun _ _ x=>x.elim
 refine up (wE (turn m l o inv' A s' K' R P'.tr F') fun b s₂ ⟨K₂,o₂,p₂,q₂⟩=>?_)
 cases b with
 | true =>
  refine up (wE (q₂ A s₂ K₂ R p₂.tr (F'.post p₂)) fun fl s₃ ⟨K₃,f,l₃,o₃,p₃,F₃,r₃,q₃⟩=>?_)
  have P3:=(P'.trans p₂.toL).trans p₃
  cases r₃ with
  | next=>obtain ⟨m',hm,i'⟩:=q₃;exact ⟨m',hm,K₃,l₃,o₃,P3,F₃,i'⟩
  | cont=>obtain ⟨m',hm,i'⟩:=q₃;exact ⟨m',hm,K₃,l₃,o₃,P3,F₃,i'⟩
  | brk=>exact ⟨K₃,_,l₃,o₃,P3,F₃,.next,q₃⟩
  | ret r=>exact ⟨K₃,_,l₃,o₃,P3,F₃,.ret r,q₃⟩
 | false =>
  refine up (wE (q₂ A s₂ K₂ R p₂.tr (F'.post p₂)) fun fl s₃ ⟨K₃,f,l₃,o₃,p₃,F₃,r₃,q₃⟩=>?_)
  exact ⟨K₃,f,l₃,o₃,(P'.trans p₂.toL).trans p₃,F₃,r₃,q₃⟩
end
section
variable {T:TopT} {w:World} {n:Nat} {env:Env} {loc:List (Str×D)} {objs:List AO}
inductive TupSt (l:List D) (I a i:Nat) (K:Kt) (s:Shared):Prop
 | mk (hv:VR K s.heap (.tup l) (.ref a)) (hit:IsTupIter s.heap I a i) (hle:i≤l.length)
theorem tup_next {l:List D} {I a i:Nat} {K:Kt} {s:Shared} {A:Around} (hh:A.handled=none) (hH:∀ x∈[I],x∈K.hid) (st:TupSt l I a i K s) :
  wpAny (model pw w) A (pyNext (.ref I)) (NextO [I] l (fun i K _ s=>TupSt l I a i K s) i K objs s) noE s:=by
 obtain ⟨hv,hit,hle⟩:=st
 obtain ⟨_,xs',_,e0,ha',hk',hn',hl'⟩:=hv.inv;cases e0
 by_cases hi:i<xs'.length
 ·obtain ⟨d',hd',rd⟩:=nth_rel hl' hi
  refine next_tuple_item hit (tupO_is ha') (x:=xs'[i]) (by simp [hi]) fun h' hit' hs'=>?_
  have P:=Pres.same (s:=s) hs'
  have mv:=Mv.behind hH P
  exact .item _ d' rfl P hd' (rd.map mv) ⟨hv.map mv,hit',by rw[hl'.length];exact hi⟩
 ·have hii:=Nat.not_lt.mp hi
  refine wpAny_up (next_tuple_end hh hit (tupO_is ha') (by simp [hii]) fun h' he' _ hz'=>.stop rfl (.ends he' hz') ?_)
  rw[← hl'.length] at hii;exact Nat.le_antisymm hle hii
theorem it_tup {l:List D}:IterD T w n (.tup l) objs (fun _=>True) l:=itg_d (target:=.Name "" default) fun A s K v R X r=>by
 obtain ⟨a,xs,m,rfl,ha,hk,hn,hl⟩:=r.inv
 refine iter_tuple (tupO_is ha) (.new X (fun i K _ s'=>TupSt l s.heap.objs.size a i K s') ⟨fun hh _ hH _ st=>tup_next hh hH st,?_,fun ⟨_,hit,_⟩=>wpAny_pyIter_tupleiter hit ⟨rfl,rfl⟩⟩ (fun A s K o i v _=>wpAny_pure rfl) fun _=>⟨r.map (mv_push _),⟨_,Heap.get?_push_size _ rfl,rfl,rfl⟩,Nat.zero_le _⟩)
 intro i K₁ K₂ o₁ o₂ s₁ s₂ st X₁ X₂ mv keep hok
 obtain ⟨hv,⟨o,h1,h2,h3⟩,hle⟩:=st
 exact ⟨hv.map mv,⟨o,keep _ (.head _) o h1 (.inr fun es n q=>by rw[h3] at q;cases q),h2,h3⟩,hle⟩
def HasIt (T:TopT) (d:D) (objs:List AO):Prop:=∀ (s:Shared) (K:Kt) (v:Value),Tr T K objs s→VR K s.heap d v→∃ Ty f,s.TypeIs v Ty∧typeLookup (.type Ty) "__iter__"=pure (some f)
theorem has_list {d:D} {l:List D} (h:asL objs d=some l):HasIt T d objs:=fun s K v X r=>by
 obtain ⟨a,xs,m,rfl,ha,hl,hn⟩:=asL_at X r h
 exact ⟨"list",_,(listO_is ha).typeIs,slot_list_iter.lookup⟩
theorem has_tup {l:List D}:HasIt T (.tup l) objs:=fun s K v X r=>by
 obtain ⟨_,_,_,rfl,ha,hk,hn,hl⟩:=r.inv
 exact ⟨"tuple",_,(tupO_is ha).typeIs,slot_tuple_iter.lookup⟩
inductive DrawO (T:TopT) (K:Kt) (H:List Addr) (objs:List AO) (ds:List D) (i:Nat) (St:Nat→Kt→List AO→Shared→Prop) (s:Shared) (vs:List Value) (s':Shared):Prop
 | mk (P:Pres H s s') (X:Tr T K objs s') (r:VRs K s'.heap (ds.drop i) vs) (st:St ds.length K objs s')
theorem draw_src {I:Addr} {H:List Addr} {ok:List AO→Prop} {ds:List D} {St:Nat→Kt→List AO→Shared→Prop} (src:Src T w I H ok ds St) (hok:ok objs) {A:Around} (hh:A.handled=none) {K:Kt} (hH:∀ a∈H,a∈K.hid) (hlow:∀ a∈H,T.N≤a) (hoff:∀ L,OnFs T L→L∉H) :
  ∀ (k i:Nat) (s:Shared),i+k=ds.length→Tr T K objs s→St i K objs s→wpAny (model pw w) A (draw (.ref I) k) (DrawO T K H objs ds i St s) noE s
 | 0,i,s,hk,X,st=>by
  have:i=ds.length:=hk
  subst this
  exact wpAny_pure ⟨.refl _ _,X,by rw[List.drop_length];exact .nil,st⟩
 | k+1,i,s,hk,X,st=>by
  show wpAny _ _ (pyNext (.ref I) >>= _) _ _ s
  refine wpAny_bind (leaf X (wE (src.next hh X hH hok st) fun r s₃ hr ht₃=>?_))
  cases hr with
  | item v d' e P₃ hd' rv st₃ =>
   subst e
   refine wpAny_bind (wpAny_holding (wE (draw_src src hok hh hH hlow hoff k (i+1) s₃ (by lia) (X.behindH hH hlow hoff P₃ ht₃) st₃) fun vs s₄ hh=>wpAny_pure ?_))
   obtain ⟨P₄,X₄,r₄,st₄⟩:=hh
   refine ⟨P₃.trans P₄ fun a h=>.inl h,X₄,?_,st₄⟩
   obtain ⟨hlt,e⟩:=List.getElem?_eq_some_iff.mp hd'
   rw[List.drop_eq_getElem_cons hlt,e]
   exact .cons (rv.map (.behind hH P₄)) r₄
  | stop e P₃ he=>lia
theorem unpackD {d:D} {ds:List D} {ok:List AO→Prop} (it:IterD T w n d objs ok ds) (hok:ok objs) (hi:HasIt T d objs) {A:Around} {s:Shared} {K:Kt} {v:Value} (R:Room T A n) (X:Tr T K objs s) (r:VR K s.heap d v) :
  wpAny (model pw w) A (unpackItems v ds.length none) (fun vs s'=>Post T K s K objs s'∧VRs K s'.heap ds vs) noE s:=by
 obtain ⟨Ty,f,hT,hl⟩:=hi s K v X r
 unfold unpackItems
 refine wpAny_bind ?_
 unfold notIterableAtAll
 refine wpAny_bind (wpAny_specialOf hT hl ?_)
 refine wpAny_pure ?_
 simp only [Bool.false_eq_true,if_false]
 refine wpAny_bind (wpAny_holding (wE (it A s K v R X r) fun itv s₂ hh=>?_))
 obtain ⟨I,H,St,rfl,src,p₂,ht₂,hH,hst⟩:=hh
 have X₂:Tr T (K.hide H) objs s₂:=X.hide p₂ hH ht₂
 have hHK:∀ a∈H,a∈(K.hide H).hid:=fun a ha=>List.mem_append_left _ ha
 have hlow:∀ a∈H,T.N≤a:=fun a ha=>Nat.le_trans X.top.size (hH a ha).1
 have hoff:∀ L,OnFs T L→L∉H:=fun L hL q=>absurd (X.fs_at hL).1.lt (Nat.not_lt.mpr (hH L q).1)
 refine wpAny_bind (wpAny_holding (wE (draw_src src hok R.hnd hHK hlow hoff ds.length 0 s₂ (Nat.zero_add _) X₂ (hst hok X₂)) fun vs s₃ hh=>?_))
 obtain ⟨P₃,X₃,r₃,st₃⟩:=hh
 rw[List.drop_zero] at r₃
 rw[if_neg (by rw[← r₃.length];lia)]
 refine wpAny_bind (wpAny_holding (leaf X₃ (wE (src.next R.hnd X₃ hHK hok st₃) fun r s₄ hr ht₄=>?_)))
 cases hr with
 | item v d' e P₃ hd'=>have:=(List.getElem?_eq_some_iff.mp hd').1;lia
 | stop e P₄ he =>
  subst e
  simp only [Option.isSome_none,Bool.false_eq_true,if_false]
  have sub:∀ a∈K.hid,a∈(K.hide H).hid:=fun a ha=>List.mem_append_right _ ha
  have mb:Mv (K.hide H) K s₄.heap s₄.heap:=.bare sub
  refine wpAny_pure ⟨⟨(X₃.behindH hHK hlow hoff P₄ ht₄).bare sub,?_,.refl _ _⟩,(r₃.map (.behind hHK P₄)).map mb⟩
  have P24:Pres H s s₄:=(p₂.wider (W':=H) fun _ h=>by cases h).trans (P₃.trans P₄ fun a h=>.inl h) fun a h=>.inl h
  exact ((pres_dropX (W:=[]) (H:=H) (by rw[List.append_nil];exact P24) fun a ha=>(hH a ha).1).wider fun a h=>by cases h).soft
theorem assign_names {A:Around} {K:Kt}:∀ (xs:List (Str×Pos)) (ds:List D) (loc:List (Str×D)) (vs:List Value) (s:Shared),xs.length=ds.length→(∀ x∈xs,env.scope.names.lookup x.1=some .local∨env.scope.names.lookup x.1=some .cell) →
  Tr T K objs s→Frm T K env loc s→VRs K s.heap ds vs →
  wpAny (model pw w) A (assignInOrder (xs.map fun x=>assign (.Name x.1 x.2) env) vs) (fun _ s'=>PostL T (own env) K s K objs s'∧Frm T K env (((xs.map (·.1)).zip ds).reverse++loc) s') noE s:=by
 intro xs
 induction xs with
 | nil =>
  intro ds loc vs s hl hk X F rs
  cases ds with
  | nil=>exact assignInOrder_nil ⟨(Post.refl X).toL,F⟩
  | cons d ds=>exact absurd hl (by simp)
 | cons x xs ih =>
  intro ds loc vs s hl hk X F rs
  cases ds with
  | nil=>exact absurd hl (by simp)
  | cons d ds =>
   cases rs with
   | cons r rs =>
   rename_i v vs
   refine assignInOrder_cons (wpAny_assign_Name (wE (store_any X F r (hk _ (.head _))) fun _ s₁ hh=>?_))
   obtain ⟨P,F₁⟩:=hh
   have rs':VRs K s₁.heap ds vs:=rs.map (.of (P.still F.unicy) P.grows)
   refine wE (ih ds _ vs s₁ (by simpa using hl) (fun y hy=>hk y (.tail _ hy)) P.tr F₁ rs') fun _ s₂ hh=>?_
   obtain ⟨P₂,F₂⟩:=hh
   refine ⟨P.trans P₂,?_⟩
   rw[List.map_cons,List.zip_cons_cons,List.reverse_cons,List.append_assoc]
   exact F₂
theorem assignEach_names:∀ {xs:List (Str×Pos)},assignEach (xs.map fun x=>.Name x.1 x.2) env=xs.map fun x=>(false,assign (.Name x.1 x.2) env)
 | []=>rfl
 | (x,p) :: xs=>by
  show (false,assign (.Name x p) env) :: assignEach (xs.map fun x=>.Name x.1 x.2) env=_
  rw[assignEach_names];rfl
theorem find_false {α:Type}:∀ {l:List α} {f:α→(Bool×(Value→Sem Unit))},(∀ a,(f a).1=false)→(l.map f).findIdx? (·.1)=none
 | [],_,_=>rfl
 | a :: l,f,h=>by rw[List.map_cons,List.findIdx?_cons,h a,find_false h];rfl
theorem a_tup {xs:List (Str×Pos)} {k:Nat} {pos:Pos} {d:D} {ds:List D} {ok:List AO→Prop} (it:IterD T w n d objs ok ds) (hok:ok objs) (hi:HasIt T d objs) (hn:xs.length=ds.length)
  (hl:∀ x∈xs,env.scope.names.lookup x.1=some .local∨env.scope.names.lookup x.1=some .cell) :
  AsgD T w n env (.Tuple (xs.map fun x=>.Name x.1 x.2) k pos) d loc objs (((xs.map (·.1)).zip ds).reverse++loc):=fun A s K v R X F r=>by
 rw[arm_assign_Tuple,assignEach_names]
 refine wpAny_bind (wpAny_standAt ?_)
 unfold unpack
 rw[find_false fun _=>rfl,List.length_map,List.map_map,hn]
 refine wpAny_bind (wpAny_holding (wE (unpackD it hok hi R X r) fun vs s₁ ⟨P,rs⟩=>?_))
 exact wE (assign_names xs ds loc vs s₁ hn hl P.tr (F.post P) rs) fun _ s₂ hh=>⟨K,P.toL.trans hh.1,hh.2⟩
theorem s_unpack {elts:List PySem.Expr} {k:Nat} {tpos pos:Pos} {e:PySem.Expr} {Q:Fl→List (Str×D)→List AO→Prop}
  (hs:swapsWithSole [.Tuple elts k tpos] e pos.line env=pure false) (hw:swappedStores [.Tuple elts k tpos] e env=pure none)
  (h:EvE T w n env e loc objs fun d o=>∃ loc',AsgD T w n env (.Tuple elts k tpos) d loc o loc'∧Q .next loc' o):EvS T w n env (.Assign [.Tuple elts k tpos] e pos) loc objs Q:=fun A s K R X F =>
 Assign_Tuple (wE (h A s K R X F) fun v s₁ ⟨K₁,d,o₁,p₁,r₁,loc',ha,q₁⟩=>wE (ha A s₁ K₁ v R p₁.tr (F.post p₁) r₁) fun _ s₂ ⟨K₂,P₂,F₂⟩=>⟨K₂,.next,loc',o₁,p₁.toL.trans P₂,F₂,.next,q₁⟩) hs hw
abbrev LoC (env:Env) (x:Str):Prop:=env.scope.names.lookup x=some .local∨env.scope.names.lookup x=some .cell
theorem a_tup2 {x y:Str} {p q pos:Pos} {k:Nat} {d a b:D} {ok:List AO→Prop} (it:IterD T w n d objs ok [a,b]) (hok:ok objs) (hi:HasIt T d objs) (hx:LoC env x) (hy:LoC env y) :
  AsgD T w n env (.Tuple [.Name x p,.Name y q] k pos) d loc objs ((y,b) :: (x,a) :: loc):=a_tup (xs:=[(x,p),(y,q)]) it hok hi rfl (by
 intro z hz;rcases List.mem_cons.mp hz with rfl | hz
 ·exact hx
 rcases List.mem_cons.mp hz with rfl | hz
 ·exact hy
 ·cases hz)
theorem a_tup3 {x y z:Str} {p q r pos:Pos} {k:Nat} {d a b c:D} {ok:List AO→Prop} (it:IterD T w n d objs ok [a,b,c]) (hok:ok objs) (hi:HasIt T d objs) (hx:LoC env x) (hy:LoC env y) (hz:LoC env z) :
  AsgD T w n env (.Tuple [.Name x p,.Name y q,.Name z r] k pos) d loc objs ((z,c) :: (y,b) :: (x,a) :: loc):=a_tup (xs:=[(x,p),(y,q),(z,r)]) it hok hi rfl (by
 intro u hu;rcases List.mem_cons.mp hu with rfl | hu
 ·exact hx
 rcases List.mem_cons.mp hu with rfl | hu
 ·exact hy
 rcases List.mem_cons.mp hu with rfl | hu
 ·exact hz
 ·cases hu)
end
section
variable {T:TopT} {w:World} {n:Nat} {env:Env} {loc:List (Str×D)} {objs:List AO}
def Sub (l l':List (Str×D)):Prop:=∀ x d,lk l x=some d→lk l' x=some d
theorem Sub.refl (l:List (Str×D)):Sub l l:=fun _ _ h=>h
theorem Sub.cons {l l':List (Str×D)} {x:Str} {d:D} (hx:lk l x=none) (h:Sub l l'):Sub l ((x,d) :: l'):=fun y e hy=>by
 rw[lk_cons]
 by_cases q:y=x
 ·subst q;rw[hx] at hy;cases hy
 ·rw[if_neg q];exact h y e hy
theorem Sub.both {l l':List (Str×D)} {x:Str} {d:D} (h:Sub l l'):Sub ((x,d) :: l) ((x,d) :: l'):=fun y e hy=>by
 rw[lk_cons] at hy ⊢
 by_cases q:y=x
 ·rw[if_pos q] at hy ⊢;exact hy
 ·rw[if_neg q] at hy ⊢;exact h y e hy
theorem Frm.weak {K:Kt} {s:Shared} {l l':List (Str×D)} (F:Frm T K env l s) (h:Sub l' l):Frm T K env l' s:=by
 obtain ⟨m,h1,h2⟩:=F.ns
 exact ⟨F.kind,F.glob,F.bi,F.out,F.hi,F.apart,F.apart',F.live,F.mute,F.cel,F.fr,m,h1,fun x d hd=>h2 x d (h x d hd)⟩
theorem EvSs.weak {sts:List Stmt} {l l':List (Str×D)} {Q:Fl→List (Str×D)→List AO→Prop} (h:Sub l' l) (k:EvSs T w n env sts l' objs Q):EvSs T w n env sts l objs Q:=fun A s K R X F=>k A s K R X (F.weak h)
theorem EvE.weak {e:PySem.Expr} {l l':List (Str×D)} {Q:D→List AO→Prop} (h:Sub l' l) (k:EvE T w n env e l' objs Q):EvE T w n env e l objs Q:=fun A s K R X F=>k A s K R X (F.weak h)
theorem EvB.weak {e:PySem.Expr} {l l':List (Str×D)} {Q:Bool→List AO→Prop} (h:Sub l' l) (k:EvB T w n env e l' objs Q):EvB T w n env e l objs Q:=fun A s K R X F=>k A s K R X (F.weak h)
structure ForN (d:D) (ds:List D) (loc0:List (Str×D)) (I:Nat→List AO→Prop) (i:Nat) (l:List (Str×D)) (o:List AO):Prop where
 a:asL o d=some ds
 s:Sub loc0 l
 h:I i o
theorem for_list {x:Str} {p pos:Pos} {iter:PySem.Expr} {body orelse:List Stmt} {Q:Fl→List (Str×D)→List AO→Prop} (loc0:List (Str×D)) (hsub:Sub loc0 loc) (hs:∀ x,foldedSetIterable iter env x=pure x) (hx:LoC env x)
  (h:EvE T w n env iter loc objs fun d o=>∃ ds,asL o d=some ds∧∃ I:Nat→List AO→Prop,I 0 o ∧
   (∀ i o' dd,ds[i]?=some dd→asL o' d=some ds→I i o'→EvSs T w n env body ((x,dd) :: loc0) o' (kLoop (ForN d ds loc0 I (i+1)) Q)) ∧
   (∀ o',I ds.length o'→EvSs T w n env orelse loc0 o' Q)):EvS T w n env (.For (.Name x p) iter body orelse pos) loc objs Q:=by
 refine s_for hs (fun _ _=>rfl) (h.mono fun d o ⟨ds,hd,I,h0,hturn,hfin⟩=>⟨ds,fun o=>asL o d=some ds,fun i l o=>Sub loc0 l∧I i o,it_list hd,hd,⟨hsub,h0⟩,⟨fun i l o' dd hdd hok ⟨hl,hi⟩=>⟨_,a_name hx,?_⟩,fun l o' ⟨hl,hi⟩=>(hfin o' hi).weak hl⟩⟩)
 refine EvSs.weak hl.both ((hturn i o' dd hdd hok hi).mono fun f l₂ o₂ q=>?_)
 cases f with
 | next=>exact ⟨q.1,q.2,q.3⟩
 | cont=>exact ⟨q.1,q.2,q.3⟩
 | brk=>exact q
 | ret d=>exact q
theorem s_new {x:Str} {p' lp pos:Pos} {Q:Fl→List (Str×D)→List AO→Prop} (hl:env.scope.names.lookup x=some .local∨env.scope.names.lookup x=some .cell) (hs:swapsWith (.List [] lp) (some (.Name x p')) pos.line env=pure false)
  (h:Q .next ((x,.obj objs.length) :: loc) (objs++[.lst []])):EvS T w n env (.Assign [.Name x p'] (.List [] lp) pos) loc objs Q :=
 s_assign hl hs (ev_newlist (es_nil ⟨Nat.zero_le _,h⟩))
theorem s_newb {x:Str} {p' lp pos:Pos} {Q:Fl→List (Str×D)→List AO→Prop} (hb:isLC env x=true) (hs:swapsWith (.List [] lp) (some (.Name x p')) pos.line env=pure false)
  (h:Q .next ((x,.obj objs.length) :: loc) (objs++[.lst []])):EvS T w n env (.Assign [.Name x p'] (.List [] lp) pos) loc objs Q:=s_new (isLC_or hb) hs h
theorem asL_last {l:List D}:asL (objs++[.lst l]) (.obj objs.length)=some l:=by
 simp [asL]
theorem c_append_last {l:List D} {d:D} {Q:D→List AO→Prop} (hn:l.length+1≤100000) (h:Q .none (objs++[.lst (l++[d])])):XCall T w n (.builtin "list.append") [.obj objs.length,d] [] [] (objs++[.lst l]) Q :=
 c_append (l:=l) (by simp) hn (by simpa using h)
@[reducible] def kOrW (T:TopT) (w:World) (n:Nat) (env:Env) (b:PySem.Expr) (loc:List (Str×D)) (Q:D→List AO→Prop) (d:D) (c:Bool) (o:List AO):Prop:=match c with | true=>Q d o | false=>EvE T w n env b loc o Q
theorem k_orv {b:PySem.Expr} {Q:D→List AO→Prop} {d:D} {c:Bool} {o:List AO} (h1:c=true→Q d o) (h2:c=false→EvE T w n env b loc o Q):kOrW T w n env b loc Q d c o:=by
 cases c
 ·exact h2 rfl
 ·exact h1 rfl
@[reducible] def kOrV (T:TopT) (w:World) (n:Nat) (env:Env) (b:PySem.Expr) (loc:List (Str×D)) (Q:D→List AO→Prop) (d:D) (o:List AO):Prop:=TruD T w n d o (kOrW T w n env b loc Q d)
theorem ev_or {a b:PySem.Expr} {pos:Pos} {Q:D→List AO→Prop} (h:EvE T w n env a loc objs (kOrV T w n env b loc Q)):EvE T w n env (.BoolOp .Or [a,b] pos) loc objs Q:=fun A s K R X F=>by
 refine wpAny_Or2 (wE (h A s K R X F) fun u s₁ ⟨K₁,d,o₁,p₁,r₁,q₁⟩=>wE (q₁ A s₁ K₁ u R p₁.tr r₁) fun c s₂ ⟨K₂,o₂,p₂,q₂⟩=>?_)
 cases c with
 | true=>exact ⟨K₂,d,o₂,p₁.trans p₂,p₂.vr r₁,q₂⟩
 | false=>exact wE (q₂ A s₂ K₂ R p₂.tr ((F.post p₁).post p₂)) fun _ _ x=>(x.behind p₂).behind p₁
end
@[reducible] def invL (ob:Nat→List AO) (lc:Nat→List (Str×D)) (i:Nat) (l:List (Str×D)) (o:List AO):Prop:=o=ob i∧Sub (lc i) l
theorem ForOk.fn {α:Type} {g:α→D} {ys:List α} {ob:Nat→List AO} {lc:Nat→List (Str×D)} {T:TopT} {w:World} {n:Nat} {env:Env} {x:Str} {p:Pos} {body orelse:List Stmt} {ok:List AO→Prop} {Q:Fl→List (Str×D)→List AO→Prop} (hx:env.scope.names.lookup x=some .local∨env.scope.names.lookup x=some .cell)
  (turn:∀ i y,ys[i]?=some y→EvSs T w n env body ((x,g y) :: lc i) (ob i) (kLoop (OkInv ok (invL ob lc) (i+1)) Q)) (fin:EvSs T w n env orelse (lc ys.length) (ob ys.length) Q):ForOk T w n env (.Name x p) body orelse (ys.map g) ok (invL ob lc) Q where
 turn i l o d hd _ hI:=by
  obtain ⟨rfl,hl⟩:=hI
  rw[List.getElem?_map] at hd
  obtain ⟨y,hy,rfl⟩:=Option.map_eq_some_iff.mp hd
  exact ⟨_,a_name hx,EvSs.weak (Sub.both hl) (turn i y hy)⟩
 fin l o hI:=by
  obtain ⟨rfl,hl⟩:=hI
  rw[List.length_map] at hl ⊢
  exact EvSs.weak hl fin
end Mine.Internal
end
section
open PySem PySem.W PyProof.Rows
set_option maxHeartbeats 1000000
namespace Mine.Internal
section
variable {T:TopT} {w:World} {n:Nat} {env:Env} {loc:List (Str×D)} {objs:List AO}
def AsgL (T:TopT) (w:World) (n:Nat) (env:Env) (target:PySem.Expr) (d:D) (loc:List (Str×D)) (objs:List AO) (loc':List (Str×D)):Prop :=
 ∀ (A:Around) (s:Shared) (K:Kt) (v:Value),Room T A n→Tr T K objs s→Frm T K env loc s→VR K s.heap d v →
  wpAny (model pw w) A (assign target env v) (fun _ s'=>PostL T [env.locals] K s K objs s'∧Frm T K env loc' s') noE s
theorem l_name {x:Str} {p:Pos} {d:D} (hl:env.scope.names.lookup x=some .local):AsgL T w n env (.Name x p) d loc objs ((x,d) :: loc):=fun A s K v R X F r =>
 wpAny_assign_Name (store_rule X F r hl)
theorem l_names {A:Around} {K:Kt}:∀ (xs:List (Str×Pos)) (ds:List D) (loc:List (Str×D)) (vs:List Value) (s:Shared),xs.length=ds.length→(∀ x∈xs,env.scope.names.lookup x.1=some .local) →
  Tr T K objs s→Frm T K env loc s→VRs K s.heap ds vs →
  wpAny (model pw w) A (assignInOrder (xs.map fun x=>assign (.Name x.1 x.2) env) vs) (fun _ s'=>PostL T [env.locals] K s K objs s'∧Frm T K env (((xs.map (·.1)).zip ds).reverse++loc) s') noE s:=by
 intro xs
 induction xs with
 | nil =>
  intro ds loc vs s hl hk X F rs
  cases ds with
  | nil=>exact assignInOrder_nil ⟨(Post.refl X).toL,F⟩
  | cons d ds=>exact absurd hl (by simp)
 | cons x xs ih =>
  intro ds loc vs s hl hk X F rs
  cases ds with
  | nil=>exact absurd hl (by simp)
  | cons d ds =>
   cases rs with
   | cons r rs =>
   rename_i v vs
   refine assignInOrder_cons (wpAny_assign_Name (wE (store_rule X F r (hk _ (.head _))) fun _ s₁ hh=>?_))
   obtain ⟨P,F₁⟩:=hh
   have rs':VRs K s₁.heap ds vs:=rs.map (.of (P.still fun a ha=>F.unicy a (by rw[List.mem_singleton.mp ha];exact .head _)) P.grows)
   refine wE (ih ds _ vs s₁ (by simpa using hl) (fun y hy=>hk y (.tail _ hy)) P.tr F₁ rs') fun _ s₂ hh=>?_
   obtain ⟨P₂,F₂⟩:=hh
   refine ⟨P.trans P₂,?_⟩
   rw[List.map_cons,List.zip_cons_cons,List.reverse_cons,List.append_assoc]
   exact F₂
theorem l_tup2 {x y:Str} {p q pos:Pos} {k:Nat} {d a b:D} {ok:List AO→Prop} (it:IterD T w n d objs ok [a,b]) (hok:ok objs) (hi:HasIt T d objs) (hx:env.scope.names.lookup x=some .local) (hy:env.scope.names.lookup y=some .local) :
  AsgL T w n env (.Tuple [.Name x p,.Name y q] k pos) d loc objs ((y,b) :: (x,a) :: loc):=fun A s K v R X F r=>by
 rw[arm_assign_Tuple]
 show wpAny _ _ (do standAt pos;unpack v (([(x,p),(y,q)]:List (Str×Pos)).map fun x=>(false,assign (.Name x.1 x.2) env))) _ _ _
 refine wpAny_bind (wpAny_standAt ?_)
 unfold unpack
 rw[find_false fun _=>rfl,List.length_map,List.map_map]
 refine wpAny_bind (wpAny_holding (wE (unpackD it hok hi R X r) fun vs s₁ hh=>?_))
 obtain ⟨P,rs⟩:=hh
 refine wE (l_names [(x,p),(y,q)] [a,b] loc vs s₁ rfl (fun z hz=>?_) P.tr (F.post P) rs) fun _ s₂ hh=>⟨P.toL.trans hh.1,hh.2⟩
 rcases List.mem_cons.mp hz with rfl | hz
 ·exact hx
 rcases List.mem_cons.mp hz with rfl | hz
 ·exact hy
 ·cases hz
structure CompOk (env:Env) (scope:Scope) (cl:List (Str×Addr)) (loc locC:List (Str×D)):Prop where
 clos:closureFor scope env=pure cl
 kind:scope.kind=.function
 nocell:∀ y∈scope.names,y.2≠.cell
 names:∀ x∈scope.names,x.2=.local→scope.names.lookup x.1=some .local
 mem:∀ y c,(y,c)∈cl→env.cells.lookup y=some c
 apart:cl.Pairwise fun x y=>x.2≠y.2
 bound:∀ y c,cl.lookup y=some c→(env.scope.names.lookup y=some .cell∨env.scope.names.lookup y=some .free)∧∃ d,lk loc y=some d
 locs:∀ y d,lk locC y=some d→lk loc y=some d∧(∃ c,cl.lookup y=some c)∧(relabel scope env).names.lookup y≠some .local
 cel:∀ y,(relabel scope env).names.lookup y=some .cell→∃ c,cl.lookup y=some c
theorem comp_frame {scope:Scope} {cl:List (Str×Addr)} {locC:List (Str×D)} (ck:CompOk env scope cl loc locC) {K:Kt} {s s':Shared} {C:Addr} {mC:Str→Option Value} (F:Frm T K env loc s) (X:Tr T K objs s') (m:Mv K K s.heap s'.heap)
  (hk:∀ b o,s.heap.get? b=some o→s'.heap.get? b=some o) (hz:s.heap.objs.size≤s'.heap.objs.size) (hC:C∉offs K) (hCs:s.heap.objs.size≤C) (hns:s'.heap.Ns C mC) (hN:T.N≤s.heap.objs.size):Frm T K (compEnvC scope cl C env) locC s':=by
 obtain ⟨mm,h1,h2⟩:=F.ns
 have hmem:∀ a∈cl.map (·.2),a∈own env:=fun a ha=>by
  obtain ⟨⟨y,c⟩,hm,rfl⟩:=List.mem_map.mp ha
  exact own_cell (ck.mem y c hm)
 have cellv:∀ y c,cl.lookup y=some c→∃ d v,lk loc y=some d∧s'.heap.IsCell c (some v)∧VR K s'.heap d v:=fun y c hy=>by
  obtain ⟨hkd,d,hd⟩:=ck.bound y c hy
  obtain ⟨c',v,e1,⟨o,e2,e3⟩,e4⟩:=(h2 y d hd).2 hkd
  have:env.cells.lookup y=some c:=ck.mem y c (mem_of_lookup hy)
  rw[this] at e1;cases e1
  exact ⟨d,v,hd,⟨o,hk _ _ e2,e3⟩,e4.map m⟩
 obtain ⟨oC,eC,epC,hoC,hdC,rC⟩:=id hns
 refine ⟨ck.kind,F.glob,F.bi,fun a ha=>?_,fun a ha=>?_,ck.apart,fun x c hx e=>?_,fun a ha=>?_,fun a ha=>?_,fun y hy=>?_,F.fr,_,hns,fun y d hd=>⟨fun hl=>?_,fun hl=>?_⟩⟩
 ·rcases List.mem_cons.mp ha with rfl | ha
  ·exact offs_adrs hC
  ·exact F.out a (hmem a ha)
 ·rcases List.mem_cons.mp ha with rfl | ha
  ·exact Nat.le_trans hN hCs
  ·exact F.hi a (hmem a ha)
 ·have:=F.live c (own_cell (ck.mem x c (mem_of_lookup hx)))
  have e:c=C:=e
  rw[e] at this
  exact absurd this (Nat.not_lt.mpr hCs)
 ·rcases List.mem_cons.mp ha with rfl | ha
  ·exact Heap.lt_size hoC
  ·exact Nat.lt_of_lt_of_le (F.live a (hmem a ha)) hz
 ·rcases List.mem_cons.mp ha with rfl | ha
  ·exact ⟨oC,hoC,by rw[hdC];rfl⟩
  ·obtain ⟨o,q1,q2⟩:=F.mute a (hmem a ha)
   exact ⟨o,hk _ _ q1,q2⟩
 ·obtain ⟨c,hc⟩:=ck.cel y hy
  obtain ⟨d,v,_,q,_⟩:=cellv y c hc
  exact ⟨c,_,hc,q⟩
 ·exact absurd hl (ck.locs y d hd).2.2
 ·obtain ⟨q1,⟨c,hc⟩,_⟩:=ck.locs y d hd
  obtain ⟨d',v,q2,q3,q4⟩:=cellv y c hc
  rw[q1] at q2;cases q2
  exact ⟨c,v,hc,q3,q4⟩
def EvTs (T:TopT) (w:World) (n:Nat) (env:Env) (ifs:List PySem.Expr) (loc:List (Str×D)) (objs:List AO) (Q:Bool→List AO→Prop):Prop :=
 ∀ (A:Around) (s:Shared) (K:Kt),Room T A n→Tr T K objs s→Frm T K env loc s →
  wpAny (model pw w) A (forIn ifs true fun c r=>if r=true then do let ok ← isTrue c env (eval c env);pure (ForInStep.yield ok) else pure (ForInStep.yield r)) (OutB T K s Q) noE s
theorem ts_nil {Q:Bool→List AO→Prop} (h:Q true objs):EvTs T w n env [] loc objs Q:=fun A s K R X F=>wpAny_tests_nil ⟨K,objs,.refl X,h⟩
theorem EvTs.mono {ifs:List PySem.Expr} {Q Q':Bool→List AO→Prop} (h:EvTs T w n env ifs loc objs Q) (k:∀ b o,Q b o→Q' b o):EvTs T w n env ifs loc objs Q':=fun A s K R X F=>wE (h A s K R X F) fun _ _ ⟨K',o,p,q⟩=>⟨K',o,p,k _ _ q⟩
theorem ts_one {c:PySem.Expr} {Q:Bool→List AO→Prop} (h:EvB T w n env c loc objs Q):EvTs T w n env [c] loc objs Q:=fun A s K R X F=>wpAny_tests_one (h A s K R X F)
@[reducible] def kElt (ok:List AO→Prop) (Inv:Nat→List D→List AO→Prop) (i:Nat) (res:List D) (d:D) (o:List AO):Prop:=ok o∧Inv (i+1) (res++[d]) o
@[reducible] def kTest (T:TopT) (w:World) (n:Nat) (env:Env) (elt:PySem.Expr) (l:List (Str×D)) (ok:List AO→Prop) (Inv:Nat→List D→List AO→Prop) (i:Nat) (res:List D) (b:Bool) (o:List AO):Prop:=match b with
 | true=>EvE T w n env elt l o (kElt ok Inv i res)
 | false=>ok o∧Inv (i+1) res o
theorem k_test {elt:PySem.Expr} {l:List (Str×D)} {ok:List AO→Prop} {Inv:Nat→List D→List AO→Prop} {i:Nat} {res:List D} {b:Bool} {o:List AO} (h1:b=true→EvE T w n env elt l o (kElt ok Inv i res)) (h2:b=false→ok o∧Inv (i+1) res o):kTest T w n env elt l ok Inv i res b o:=by
 cases b
 ·exact h2 rfl
 ·exact h1 rfl
inductive CompO (T:TopT) (w:World) (n:Nat) (env:Env) (target elt:PySem.Expr) (ifs:List PySem.Expr) (locC:List (Str×D)) (ok:List AO→Prop) (Inv:Nat→List D→List AO→Prop) (i:Nat) (res:List D) (o:List AO) (dd:D):Prop
 | mk (l':List (Str×D)) (a:AsgL T w n env target dd locC o l') (s:Sub locC l') (h:EvTs T w n env ifs l' o (kTest T w n env elt l' ok Inv i res))
def CompT (T:TopT) (w:World) (n:Nat) (env:Env) (scope:Scope) (cl:List (Str×Addr)) (target elt:PySem.Expr) (ifs:List PySem.Expr) (locC:List (Str×D)) (ds:List D) (ok:List AO→Prop) (Inv:Nat→List D→List AO→Prop):Prop :=
 ∀ C i res o dd,ds[i]?=some dd→ok o→Inv i res o→CompO T w n (compEnvC scope cl C env) target elt ifs locC ok Inv i res o dd
end
@[reducible] def invF {α:Type} (ob:List AO) (rs:List α→List D) (xs:List α) (i:Nat) (res:List D) (o:List AO):Prop:=o=ob∧res=rs (xs.take i)
theorem CompT.fn {α:Type} {g:α→D} {xs:List α} {ob:List AO} {rs:List α→List D} {T:TopT} {w:World} {n:Nat} {env:Env} {scope:Scope} {cl:List (Str×Addr)} {target elt:PySem.Expr} {ifs:List PySem.Expr} {locC:List (Str×D)} {ok:List AO→Prop}
  (turn:∀ C i x,xs[i]?=some x→CompO T w n (compEnvC scope cl C env) target elt ifs locC ok (invF ob rs xs) i (rs (xs.take i)) ob (g x)):CompT T w n env scope cl target elt ifs locC (xs.map g) ok (invF ob rs xs):=fun C i res o dd hd _ hI=>by
 obtain ⟨rfl,rfl⟩:=hI
 rw[List.getElem?_map] at hd
 obtain ⟨x,hx,rfl⟩:=Option.map_eq_some_iff.mp hd
 exact turn C i x hx
theorem finF {α:Type} {g:α→D} {xs:List α} {ob:List AO} {rs:List α→List D} {R:List D→List AO→Prop} (h:R (rs xs) ob):∀ res o,invF ob rs xs (xs.map g).length res o→R res o:=fun res o hI=>by
 obtain ⟨rfl,rfl⟩:=hI
 rw[List.length_map,List.take_length];exact h
end Mine.Internal
end
section
open PySem PySem.W PyProof.Rows
set_option maxHeartbeats 1000000
namespace Mine.Internal
section
variable {T:TopT} {w:World} {n:Nat} {env:Env} {loc:List (Str×D)} {objs:List AO}
inductive CompQ (T:TopT) (w:World) (n:Nat) (env:Env) (scope:Scope) (cl:List (Str×Addr)) (target elt:PySem.Expr) (ifs:List PySem.Expr) (locC:List (Str×D)) (d:D) (o:List AO) (Q:D→List AO→Prop):Prop
 | mk (ds:List D) (ok:List AO→Prop) (Inv:Nat→List D→List AO→Prop) (it:IterD T w n d o ok ds) (hok:ok o) (h0:Inv 0 [] o) (hn:ds.length≤100000) (turn:CompT T w n env scope cl target elt ifs locC ds ok Inv) (fin:∀ res o',Inv ds.length res o'→Q (.list res) o')
@[reducible] def kComp (T:TopT) (w:World) (n:Nat) (env:Env) (scope:Scope) (cl:List (Str×Addr)) (target elt:PySem.Expr) (ifs:List PySem.Expr) (locC:List (Str×D)) (Q:D→List AO→Prop) (d:D) (o:List AO):Prop:=CompQ T w n env scope cl target elt ifs locC d o Q
theorem let_go {K:Kt} {s s':Shared} {K':Kt} {o:List AO} {C:Addr} {m:Str→Option Value} {h':Heap} (X:Tr T K' o s') (P:PreS (adrs K) s s') (hC:s'.heap.Ns C m) (hCs:s.heap.objs.size≤C) (hCa:C∉adrs K') (hN:T.N≤s.heap.objs.size) (hoff:¬ OnFs T C) (hs:Heap.SameBut C s'.heap h') :
  Tr T K' o {s' with heap:=h'}∧PreS (adrs K) s {s' with heap:=h'}∧Mv K' K' s'.heap h':=by
 obtain ⟨oC,es,ep,hoC,hdC,_⟩:=hC
 have hic:icy oC.data=false:=by rw[hdC];rfl
 have Q:=X.same hCa (Nat.le_trans hN hCs) ⟨oC,hoC,hic⟩ hs s'.toks X.toks fun q=>absurd q hoff
 refine ⟨Q.tr,?_,.of (s:=s') (s':={s' with heap:=h',toks:=s'.toks}) (Q.still fun a ha o' ho=>?_) Q.grows⟩
 ·have P2:PreS ([C]++adrs K) s {s' with heap:=h'}:=(P.wider (W':=[C]++adrs K) fun a ha=>List.mem_append_right _ ha).trans (W':=[C]) (.of (fun b o' e hb=>(hs.2 b fun q=>hb (by rw[q];exact .head _)).trans e) (by show _≤h'.objs.size;rw[hs.1];exact Nat.le_refl _) rfl id) fun a ha=>.inl (List.mem_append_left _ ha)
  exact pres_drop P2 fun a ha=>by rw[List.mem_singleton.mp ha];exact hCs
 ·rw[List.mem_singleton.mp ha,hoC] at ho;cases ho;exact hic
end
end Mine.Internal
end
section
open PySem PySem.W PyProof.Rows
namespace Mine.Internal
section
variable {T:TopT} {w:World} {n:Nat} {env:Env} {loc:List (Str×D)} {objs:List AO} {Q:D→List AO→Prop}
theorem small_div (a b:Int) (hb:b.natAbs<2 ^ 64):¬ (Builtin.divisionGoesByPylong a b)=true:=by
 unfold Builtin.divisionGoesByPylong
 have h:b.natAbs.log2<64:=by
  by_cases h0:b.natAbs=0
  ·rw[h0];decide
  ·exact (Nat.log2_lt h0).mpr hb
 intro q
 simp only [Bool.and_eq_true,decide_eq_true_eq] at q
 have h1:=q.1
 split at h1 <;> lia
theorem o_mod_int {a b:Int} (hb:(b==0)=false) (h:Q (.int (a.fmod b)) objs):Op2 T w n (binaryOp .Mod) (.int a) (.int b) objs Q:=fun A s K u v R X ru rv=>by
 obtain ⟨_,rfl,_⟩:=ru.inv;obtain ⟨_,rfl,_⟩:=rv.inv;exact leaf X (AutoIntOps.mod_1 (by rw[hb];decide) (out_tok X _ (.int _ _ X.tk) h))
theorem o_fdiv_int {a b:Int} (hb:(b==0)=false) (hz:b.natAbs<2 ^ 64) (h:Q (.int (a.fdiv b)) objs):Op2 T w n (binaryOp .FloorDiv) (.int a) (.int b) objs Q:=fun A s K u v R X ru rv=>by
 obtain ⟨_,rfl,_⟩:=ru.inv;obtain ⟨_,rfl,_⟩:=rv.inv;exact leaf X (AutoIntOps.floordiv_1 (by rw[hb];decide) (small_div a b hz) (out_tok X _ (.int _ _ X.tk) h))
theorem o_add_list {a b:D} {l l':List D} (ha:asL objs a=some l) (hb:asL objs b=some l') (hn:l.length+l'.length≤100000) (h:Q (.list (l++l')) objs):Op2 T w n (binaryOp .Add) a b objs Q:=fun A s K u v R X ru rv=>by
 obtain ⟨x,xs,m,rfl,hx,rx,_⟩:=asL_at X ru ha
 obtain ⟨y,ys,m',rfl,hy,ry,_⟩:=asL_at X rv hb
 have e1:=rx.length
 have e2:=ry.length
 refine P.add_list (items:=xs.toArray) (items2:=ys.toArray) (n:=m) (n2:=m') hx hy ?_ (by rw[List.size_toArray,List.size_toArray,← e1,← e2];exact Nat.le_trans hn (by decide))
 have P:=Post.push X (listO (xs++ys) 0)
 have e:(xs.toArray++ys.toArray)=(xs++ys).toArray:=by simp
 rw[e]
 exact ⟨K,_,objs,P,.list (Heap.get?_push_size _ rfl) (fresh_not X) (by rw[List.length_append];exact hn) (P.vrs (rx.app ry)),h⟩
theorem t_list {a:D} {l:List D} {Q:Bool→List AO→Prop} (ha:asL objs a=some l) (h:Q (!l.isEmpty) objs):TruD T w n a objs Q:=fun A s K u R X r=>by
 obtain ⟨x,xs,m,rfl,hx,rx,hn⟩:=asL_at X r ha
 have e1:=rx.length
 have e:(!xs.toArray.isEmpty)=!l.isEmpty:=by
  cases rx with
  | nil=>rfl
  | cons _ _=>simp
 exact leaf X (wpAny_truthy_list (listO_is hx) (by rw[List.size_toArray,← e1];lia) (by rw[e];exact outB_tok X _ h))
theorem c_len_list {a:D} {l:List D} (ha:asL objs a=some l) (h:Q (.int l.length) objs):XCall T w n (.builtin "len") [a] [] [] objs Q:=fun A s K vs ks R X r rk=>by
 obtain ⟨_,rfl,rfl,r1⟩:=args1 r rk
 obtain ⟨x,xs,m,rfl,hx,rx,hn⟩:=asL_at X r1 ha
 have e1:=rx.length
 refine leaf X (PySem.Calls.call_len_list (listO_is hx) (by rw[List.size_toArray,← e1];lia) ?_)
 rw[List.size_toArray,← e1]
 exact out_tok X _ (.int _ _ (Nat.succ_ne_zero _)) h
noncomputable def plainScope (scope:Scope):Bool:=(match scope.kind with | .function=>true | _=>false) && scope.names.all fun x=>match x.2 with
 | .cell=>false
 | .free=>false
 | .local=>match scope.names.lookup x.1 with
  | some .local=>true
  | _=>false
 | _=>true
theorem comp_ok0 {scope:Scope} (h:plainScope scope=true):CompOk env scope [] loc []:=by
 unfold plainScope at h
 rw[Bool.and_eq_true,List.all_eq_true] at h
 obtain ⟨hk,hn⟩:=h
 have nf:∀ x∈scope.names,x.2≠.free:=fun x hx e=>by have:=hn x hx;simp [e] at this
 have nc:∀ x∈scope.names,x.2≠.cell:=fun x hx e=>by have:=hn x hx;simp [e] at this
 have hrel:(relabel scope env).names=scope.names:=by
  unfold relabel
  refine map_eq_self fun x hx=>?_
  have:=nf x hx
  have e:(x.2==NameKind.free)=false:=by simpa using this
  obtain ⟨a,b⟩:=x
  simp [show (b==NameKind.free)=false from e]
 refine ⟨closureFor_none nf,?_,nc,fun x hx e=>?_,fun y c hm=>(by cases hm),.nil,fun y c hm=>(by cases hm),fun y d hm=>(by cases hm),fun y hy=>?_⟩
 ·split at hk
  ·assumption
  ·cases hk
 ·have:=hn x hx
  rw[e] at this
  dsimp only at this
  split at this
  ·assumption
  ·cases this
 ·rw[hrel] at hy
  exact absurd rfl (nc _ (mem_of_lookup hy))
end
theorem mem_lookup {α β:Type} [BEq α] [LawfulBEq α]:∀ {l:List (α×β)} {a:α} {b:β},l.lookup a=some b→(a,b)∈l
 | (x,y) :: l,a,b,h=>by
  rw[List.lookup_cons] at h
  cases e:(a==x) with
  | true=>rw[e] at h;cases h;rw[beq_iff_eq.mp e];exact .head _
  | false=>rw[e] at h;exact .tail _ (mem_lookup h)
theorem TopOK.fin {T:TopT} {h:Heap} (x:TopOK T h):Frag.In T.objs h:=fun a o e=>x.objs (a,o) (mem_lookup e)
noncomputable def upd:List (Str×D)→Str→D→List (Str×D)
 | [],x,d=>[(x,d)]
 | p :: r,x,d=>match Fast.sEq p.1 x with
  | true=>(p.1,d) :: r
  | false=>p :: upd r x d
theorem isStr_str {x y:Str} {t:Tok}:(Value.str x t).isStr y=Fast.sEq x y:=by
 have h1:(Value.str x t).isStr y=(x==y):=rfl
 rw[h1]
 cases h:Fast.sEq x y with
 | true=>exact beq_iff_eq.mpr (Fast.sEq_iff.mp h)
 | false=>exact beq_eq_false_iff_ne.mpr fun e=>by rw[Fast.sEq_iff.mpr e] at h;cases h
section
variable {P:Params} {K:Kt} {h:Heap}
theorem EntR.find {at_:List (Str×D)} {es:List DictEntry} (x:EntR P K h at_ es) (name:Str):(∀ d,lk at_ name=some d→∃ e,es.find? (·.key.isStr name)=some e∧VR K h d e.val)∧(lk at_ name=none→es.find? (·.key.isStr name)=none):=by
 induction x with
 | nil=>exact ⟨fun d hd=>(by cases hd),fun _=>rfl⟩
 | cons hv hr ih =>
  rename_i x d v t r es
  rw[List.find?_cons]
  show (∀ d',(match Fast.sEq x name with | true=>some d | false=>lk r name)=some d'→_)∧((match Fast.sEq x name with | true=>some d | false=>lk r name)=none→_)
  rw[show (Value.str x t).isStr name=Fast.sEq x name from isStr_str]
  cases Fast.sEq x name with
  | true=>exact ⟨fun d' hd=>(by cases hd;exact ⟨_,rfl,hv⟩),fun hd=>(by cases hd)⟩
  | false=>exact ih
theorem EntR.noref {at_:List (Str×D)} {es:List DictEntry} (x:EntR P K h at_ es):es.any (·.refKey)=false:=by
 induction x with
 | nil=>rfl
 | cons hv hr ih=>rw[List.any_cons,ih];rfl
theorem EntR.len {at_:List (Str×D)} {es:List DictEntry} (x:EntR P K h at_ es):es.length=at_.length:=by
 induction x with
 | nil=>rfl
 | cons hv hr ih=>rw[List.length_cons,List.length_cons,ih]
theorem EntR.lookIn {at_:List (Str×D)} {es:List DictEntry} {n:Nat} (x:EntR P K h at_ es) (name:Str):(∀ d,lk at_ name=some d→∃ v,lookIn name (dictOf es n)=some (some v)∧VR K h d v)∧(lk at_ name=none→PySem.W.lookIn name (dictOf es n)=some none):=by
 obtain ⟨h1,h2⟩:=x.find name
 refine ⟨fun d hd=>?_,fun hd=>?_⟩
 ·obtain ⟨e,e1,e2⟩:=h1 d hd
  refine ⟨e.val,?_,e2⟩
  unfold PySem.W.lookIn
  simp only [e1]
 ·have e1:=h2 hd
  unfold PySem.W.lookIn
  simp only [e1,x.noref,Bool.false_eq_true,if_false]
theorem put_name (name:Str) (t:Tok) (v:Value) (f:Option DictEntry→DictEntry) (f1:∀ e,f (some e)={e with val:=v}) (f2:f none=⟨PyData.keyHash P name,.str name t,v⟩):∀ {at_:List (Str×D)} {es:List DictEntry} {d:D},EntR P K h at_ es→VR K h d v →
  ∃ es' b,nsPutIn name.cps.size name.cps.toList f es=(es',b)∧EntR P K h (upd at_ name d) es'
 | _,_,d,.nil,hd=>⟨_,_,rfl,by rw[f2];exact .cons hd .nil⟩
 | _,_,d,.cons (x:=x) (d:=d') (v:=v') (t:=t') (r:=r) (es:=es) hv hr,hd=>by
  obtain ⟨es',b,e1,e2⟩:=put_name name t v f f1 f2 hr hd
  rw[nsPutIn,Value.isStrByCps_eq]
  show ∃ es' b,(if (Value.str x t').isStr name=true then _ else _)=_∧EntR P K h (match Fast.sEq x name with | true=>(x,d) :: r | false=>(x,d') :: upd r name d) es'
  rw[isStr_str]
  cases Fast.sEq x name with
  | true=>exact ⟨_,_,rfl,by rw[f1];exact .cons hd hr⟩
  | false =>
   rw[if_neg (by decide),e1]
   exact ⟨_,_,rfl,.cons hv e2⟩
theorem put_dict (name:Str) (t:Tok) {v:Value} {at_:List (Str×D)} {es:List DictEntry} {d:D} {n:Nat} (x:EntR P K h at_ es) (hd:VR K h d v) :
  ∃ es' n',Obj.putName name (PyData.keyHash P name) (.str name t) v (dictOf es n)=dictOf es' n'∧EntR P K h (upd at_ name d) es':=by
 have key:∀ f:Option DictEntry→DictEntry,(∀ e,f (some e)={e with val:=v})→f none=⟨PyData.keyHash P name,.str name t,v⟩ →
   ∃ es' n',(match nsPutIn name.cps.size name.cps.toList f es with | (es',false)=>dictOf es' n | (es',true)=>dictOf es' (n+1))=dictOf es' n'∧EntR P K h (upd at_ name d) es':=fun f f1 f2=>by
  obtain ⟨es',b,e1,e2⟩:=put_name name t v f f1 f2 x hd
  rw[e1]
  cases b
  ·exact ⟨es',n,rfl,e2⟩
  ·exact ⟨es',n+1,rfl,e2⟩
 exact key _ (fun _=>rfl) rfl
end
theorem upd_len (x:Str) (d:D):∀ (l:List (Str×D)),(upd l x d).length≤l.length+1
 | []=>Nat.le_refl _
 | p :: r=>by
  show (match Fast.sEq p.1 x with | true=>(p.1,d) :: r | false=>p :: upd r x d).length≤_
  cases Fast.sEq p.1 x
  ·show (upd r x d).length+1≤_;exact Nat.succ_le_succ (upd_len x d r)
  ·exact Nat.le_succ _
section
variable {T:TopT} {w:World} {n:Nat} {env:Env} {loc:List (Str×D)} {objs:List AO} {Q:D→List AO→Prop}
def GetA (T:TopT) (w:World) (n:Nat) (d:D) (name:Str) (objs:List AO) (Q:D→List AO→Prop):Prop :=
 ∀ (A:Around) (s:Shared) (K:Kt) (u:Value),Room T A n→Tr T K objs s→VR K s.heap d u→wpAny (model pw w) A (getAttr u name true) (OutE T K s Q) noE s
@[reducible] def kGet (T:TopT) (w:World) (n:Nat) (attr:Str) (Q:D→List AO→Prop) (d:D) (o:List AO):Prop:=GetA T w n d attr o Q
theorem ev_attr {value:PySem.Expr} {attr:Str} {pos:Pos} (he:eval (.Attribute value attr pos) env=(do
   let o ← eval value env
   standAt pos.atName
   let r ← holding [o] (getAttr o attr true)
   letTemporaryGo value o r
   pure r)) (h:EvE T w n env value loc objs (kGet T w n attr Q)):EvE T w n env (.Attribute value attr pos) loc objs Q:=fun A s K R X F =>
 Attribute_any_ (wE (h A s K R X F) fun u s₁ ⟨K₁,d,o₁,p₁,r₁,q₁⟩=>wE (q₁ A s₁ K₁ u R p₁.tr r₁) fun _ _ x=>x.behind p₁) he
structure ClsOk (T:TopT) (c:Addr):Prop where
 ga:findIn T.objs (.ref c) "__getattribute__"=some (some (.builtin "object.__getattribute__"))
 gh:findIn T.objs (.ref c) "__getattr__"=some none
 sa:findIn T.objs (.ref c) "__setattr__"=some (some (.builtin "object.__setattr__"))
 over:plainOver T.objs c=true
 dict:∃ cd,clsIn T.objs c=some cd∧cd.hasDict=true
inductive InstO (T:TopT) (K:Kt) (s:Shared) (k:Nat) (c:Addr) (at_:List (Str×D)) (v:Value):Prop
 | mk (x dx:Addr) (sl:Array (Option Value)) (es:List DictEntry) (m:Nat) (e:v=.ref x) (hK:K.k[k]?=some (x,[dx])) (e1:s.heap.get? dx=some (dictOf es m)) (e2:EntR T.P K s.heap at_ es) (e3:at_.length≤500) (I:InstAt s.heap x ⟨.ref c,some dx,.plain,sl⟩ c (some (dictOf es m)))
theorem inst_at {K:Kt} {s:Shared} {k:Nat} {c:Addr} {at_:List (Str×D)} {v:Value} (X:Tr T K objs s) (r:VR K s.heap (.obj k) v) (hk:objs[k]?=some (.inst c at_)) :
  InstO T K s k c at_ v:=by
 obtain ⟨_,_,rfl,hK⟩:=r.inv
 rename_i a m
 obtain ⟨dx,sl,es,m',h1,h2,h3,h4,h5⟩:=X.ob k (a,m) _ hK hk
 have h1:m=[dx]:=h1
 subst h1
 exact ⟨a,dx,sl,es,m',rfl,hK,h3,h4,h5,⟨h2,rfl,rfl,h3⟩⟩
noncomputable def notBi:D→Bool
 | .val (.builtin _)=>false
 | _=>true
theorem handed_D {K:Kt} {h:Heap} {d:D} {v:Value} (r:VR K h d v) (e:notBi d=true):handedIn v=true:=by
 cases r with
 | val v=>cases v <;> first | rfl | cases e
 | _=>rfl
theorem ga_inst {k:Nat} {c:Addr} {at_:List (Str×D)} {name:Str} {d:D} (C:ClsOk T c) (hk:objs[k]?=some (.inst c at_)) (hn:findIn T.objs (.ref c) name=some none) (hd:lk at_ name=some d) (hb:notBi d=true) (h:Q d objs) :
  GetA T w n (.obj k) name objs Q:=fun A s K u R X r=>by
 obtain ⟨x,dx,sl,es,m,rfl,hK,e1,e2,e3,I⟩:=inst_at X r hk
 obtain ⟨v,l1,l2⟩:=(e2.lookIn (n:=m) name).1 d hd
 obtain ⟨cd,c1,c2⟩:=C.dict
 refine leaf X (get_value (v:=v) X.top.fin I C.ga ?_ (handed_D l2 hb) (out_tok X _ l2 h))
 unfold findObj
 rw[c1,hn,Option.bind_some]
 unfold PySem.W.ownOf
 rw[c2,if_pos rfl]
 dsimp only
 rw[l1]
 rfl
theorem gm_inst {k:Nat} {c f:Addr} {at_:List (Str×D)} {name:Str} (C:ClsOk T c) (hk:objs[k]?=some (.inst c at_)) (hf:findIn T.objs (.ref c) name=some (some (.ref f))) (ht:typeIn T.objs (.ref f)=some (.type "function"))
  (hs:lk at_ name=none):GetM T w n (.obj k) name (.ref f) [.obj k] objs:=fun A s K v pl Q R X r hq=>by
 obtain ⟨x,dx,sl,es,m,rfl,hK,e1,e2,e3,I⟩:=inst_at X r hk
 refine method_fn X.top.fin I C.ga C.gh hf ht ?_ (hq _ (.cons r .nil))
 show (PySem.W.lookIn name (dictOf es m)).map (·.isSome)=some false
 rw[(e2.lookIn (n:=m) name).2 hs];rfl
theorem set_attr {k:Nat} {c:Addr} {at_:List (Str×D)} {name:Str} {d:D} (hP:T.P=w.params) (C:ClsOk T c) (hk:objs[k]?=some (.inst c at_)) (ht:takerIn T.objs c name=some none) (hz:Nat.ble (at_.length+1) 500=true)
  {A:Around} {s:Shared} {K:Kt} {u v:Value} (X:Tr T K objs s) (r:VR K s.heap (.obj k) u) (rd:VR K s.heap d v) :
  wpAny (model pw w) A (setAttr u name v) (fun _ s'=>Post T K s K (objs.set k (.inst c (upd at_ name d))) s') noE s:=by
 obtain ⟨x,dx,sl,es,m,rfl,hK,e1,e2,e3,I⟩:=inst_at X r hk
 obtain ⟨cd,c1,c2⟩:=C.dict
 obtain ⟨es',n',u1,u2⟩:=put_dict name (s.toks+1) (n:=m) e2 rd
 have hz':at_.length+1≤500:=Nat.le_of_ble_eq_true hz
 refine set_plain X.top.fin I C.sa ?_
 have I':InstAt ({s with toks:=s.toks+1}:Shared).heap x ⟨.ref c,some dx,.plain,sl⟩ c (some (dictOf es m)):=I
 refine osa_open (s:={s with toks:=s.toks+1}) X.top.fin I' C.over ht fun b=>?_
 have D1:({s with toks:=s.toks+1}:Shared).heap.get? dx=some (dictOf es m):=e1
 have hfr:(dictOf es' n').isFreed=false:=rfl
 have D2:(s.heap.update dx (Obj.putName name (PyData.keyHash w.params name) (.str name (s.toks+1)) v)).get? dx=some (dictOf es' n'):=by
  rw[← hP,Heap.get?_update_self _ e1 (by rw[u1];exact hfr),u1]
 refine wpAny_bind (wpAny_pure (wpAny_bind (wpAny_bind (wpAny_loadPart I'.at_ (wpAny_bind (looks_clsIn X.top.fin c1 _ _ _ _ (fun _ _ e=>e) ?_))))))
 rw[c2]
 refine wpAny_pure (a:=some dx) (wpAny_bind (wpAny_pure (wpAny_bind ?_)))
 unfold nsSet
 refine wpAny_bind (wpAny_bind (wpAny_askSetting (wpAny_pure (wpAny_bind (wpAny_mkText (wpAny_bind (wpAny_loadPart D1 ?_)))))))
 have cc:(!es.toArray.any (·.key.isStr name) && es.toArray.any (·.refKey))=false:=by
  rw[← Array.any_toList,← Array.any_toList]
  show (_ && es.any _)=false
  rw[e2.noref,Bool.and_false]
 rw[show (dictOf es m).data=.dict es.toArray m from rfl]
 dsimp only
 rw[aRefKeyMayBeTheName_at,cc]
 refine wpAny_updatePart D1 ?_
 refine wpAny_bind (wpAny_lookBehind D2 (by
  refine pastItsLine_dict ?_
  show es'.toArray.size≤_
  have:=u2.len
  have:=upd_len name d at_
  rw[List.size_toArray,sizeLine_eq];lia) ?_)
 have P:Pres (x :: [dx]) s {s with heap:=s.heap.update dx (Obj.putName name (PyData.keyHash w.params name) (.str name (s.toks+1)) v),toks:=s.toks+1+1} :=
  ⟨fun b o e hb=>(Heap.get?_update_ne _ _ _ _ fun q=>hb (by rw[q];exact .tail _ (.head _))).trans e,by show _≤(s.heap.update _ _).objs.size;rw[Heap.size_update];exact Nat.le_refl _,rfl,id⟩
 refine wpAny_pure (Post.upd (p:=(x,[dx])) (ao:=.inst c (upd at_ name d)) X hK P (Nat.succ_pos _) fun mv=>⟨dx,sl,es',n',rfl,?_,D2,u2.map mv,Nat.le_trans (upd_len name d at_) hz'⟩)
 have hne:x≠dx:=fun e=>by have q:=I.at_;rw[e,e1] at q;cases q
 exact (Heap.get?_update_ne _ _ _ _ hne).trans I.at_
end
mutual
noncomputable def D.und (m:Nat):D→Bool
 | .obj k=>Nat.blt k m
 | .list l=>D.unds m l
 | .tup l=>D.unds m l
 | _=>true
noncomputable def D.unds (m:Nat):List D→Bool
 | []=>true
 | d :: r=>D.und m d && D.unds m r
end
noncomputable def AO.und (m:Nat):AO→Bool
 | .lst l=>D.unds m l
 | .inst _ at_=>D.unds m (at_.map (·.2))
 | .dct r=>D.unds m (r.map (·.2))
 | .tab _=>true
mutual
inductive Fz (objs:List AO) (m:Nat):D→D→Prop
 | none:Fz objs m .none .none
 | bool (b:Bool):Fz objs m (.bool b) (.bool b)
 | int (i:Int):Fz objs m (.int i) (.int i)
 | str (s:Str):Fz objs m (.str s) (.str s)
 | val (v:Value):Fz objs m (.val v) (.val v)
 | emp (c:String):Fz objs m (.emp c) (.emp c)
 | list {l l':List D} (h:Fzs objs m l l'):Fz objs m (.list l) (.list l')
 | tup {l l':List D} (h:Fzs objs m l l'):Fz objs m (.tup l) (.tup l')
 | keep {k:Nat} (h:k<m):Fz objs m (.obj k) (.obj k)
 | melt {k:Nat} {l l':List D} (h:m≤k) (e:objs[k]?=some (.lst l)) (r:Fzs objs m l l'):Fz objs m (.obj k) (.list l')
inductive Fzs (objs:List AO) (m:Nat):List D→List D→Prop
 | nil:Fzs objs m [] []
 | cons {d d':D} {l l':List D} (h:Fz objs m d d') (r:Fzs objs m l l'):Fzs objs m (d :: l) (d' :: l')
end
theorem Fzs.length {objs:List AO} {m:Nat}:∀ {l l':List D},Fzs objs m l l'→l.length=l'.length
 | _,_,.nil=>rfl
 | _,_,.cons _ r=>congrArg (·+1) r.length
mutual
theorem D.und_fz {objs:List AO} {m:Nat}:∀ {d:D},d.und m=true→Fz objs m d d
 | .none,_=>.none
 | .bool b,_=>.bool b
 | .int i,_=>.int i
 | .str s,_=>.str s
 | .val v,_=>.val v
 | .emp c,_=>.emp c
 | .list l,h=>.list (D.unds_fz (by rw[D.und] at h;exact h))
 | .tup l,h=>.tup (D.unds_fz (by rw[D.und] at h;exact h))
 | .obj k,h=>.keep (by rw[D.und] at h;exact Nat.le_of_ble_eq_true h)
theorem D.unds_fz {objs:List AO} {m:Nat}:∀ {l:List D},D.unds m l=true→Fzs objs m l l
 | [],_=>.nil
 | d :: r,h=>by
  rw[D.unds,Bool.and_eq_true] at h
  exact .cons (D.und_fz h.1) (D.unds_fz h.2)
end
mutual
theorem VR.und {K:Kt} {h:Heap} {d:D} {v:Value} (x:VR K h d v):d.und K.k.length=true:=by
 cases x with
 | list _ _ _ hl=>rw[D.und];exact VRs.und hl
 | tup _ _ _ hl=>rw[D.und];exact VRs.und hl
 | obj hk=>rw[D.und];exact Nat.ble_eq_true_of_le (List.getElem?_eq_some_iff.mp hk).1
 | _=>simp [D.und]
theorem VRs.und {K:Kt} {h:Heap} {ds:List D} {vs:List Value} (x:VRs K h ds vs):D.unds K.k.length ds=true:=by
 cases x with
 | nil=>rw[D.unds]
 | cons x r=>rw[D.unds,VR.und x,VRs.und r];rfl
end
theorem EntR.und {P:Params} {K:Kt} {h:Heap} {r:List (Str×D)} {es:List DictEntry} (x:EntR P K h r es):D.unds K.k.length (r.map (·.2))=true:=by
 induction x with
 | nil=>rw[List.map_nil,D.unds]
 | cons hv _ ih=>rw[List.map_cons,D.unds,hv.und,ih];rfl
theorem AR.und {T:TopT} {K:Kt} {h:Heap} {p:Addr×List Addr} {ao:AO} (x:AR T K h p ao):ao.und K.k.length=true:=by
 cases ao with
 | lst l=>obtain ⟨xs,n,_,_,h3,_⟩:=x;exact h3.und
 | inst c at_=>obtain ⟨dx,sl,es,n,_,_,_,h4,_⟩:=x;exact h4.und
 | dct r=>obtain ⟨es,n,_,_,h3,_⟩:=x;exact h3.und
 | tab b=>rfl
theorem Tr.und {T:TopT} {K:Kt} {objs:List AO} {s:Shared} (X:Tr T K objs s):∀ ao∈objs,ao.und objs.length=true:=fun ao hm=>by
 obtain ⟨k,hk⟩:=List.getElem?_of_mem hm
 obtain ⟨hlt,_⟩:=List.getElem?_eq_some_iff.mp hk
 have hK:k<K.k.length:=by rw[X.len];exact hlt
 have:=(X.ob k _ ao (List.getElem?_eq_getElem hK) hk).und
 rw[X.len] at this;exact this
section
variable {T:TopT} {w:World} {n:Nat} {objs:List AO} {K K':Kt}
theorem Grows.adrs_sub {s:Shared} (g:Grows s K K'):∀ a∈adrs K,a∈adrs K':=fun a h=>by
 obtain ⟨⟨K₂,e⟩,_⟩:=g
 unfold adrs at h ⊢
 rw[e,List.flatMap_append]
 exact List.mem_append_left _ h
theorem Grows.offs_sub {s:Shared} (g:Grows s K K'):∀ a∈Mine.Internal.offs K,a∈Mine.Internal.offs K':=fun a h=>by
 rcases List.mem_append.mp h with h | h
 ·exact List.mem_append_left _ (g.adrs_sub a h)
 ·exact List.mem_append_right _ (by rw[g.hid];exact h)
theorem Grows.low {s:Shared} (g:Grows s K K') {k:Nat} (hk:k<K.k.length):K'.k[k]?=K.k[k]?:=by
 obtain ⟨⟨K₂,e⟩,_⟩:=g
 rw[e,List.getElem?_append_left hk]
mutual
theorem VR.fz {s₀ s:Shared} (g:Grows s₀ K K') (X:Tr T K' objs s) {d d':D} (z:Fz objs K.k.length d d') {v:Value} (x:VR K' s.heap d v):VR K s.heap d' v:=by
 cases z with
 | none=>cases x;exact .none
 | bool=>cases x;exact .bool _
 | int=>cases x with | int _ _ ht=>exact .int _ _ ht
 | str=>cases x with | str _ _ hs ht=>exact .str _ _ hs ht
 | val=>cases x;exact .val _
 | emp=>cases x with | emp ha hc hk=>exact .emp ha hc fun q=>hk (g.offs_sub _ q)
 | list h=>cases x with | list ha hk hn hl=>exact .list ha (fun q=>hk (g.offs_sub _ q)) (h.length▸hn) (VRs.fz g X h hl)
 | tup h=>cases x with | tup ha hk hn hl=>exact .tup ha (fun q=>hk (g.offs_sub _ q)) (h.length▸hn) (VRs.fz g X h hl)
 | keep h=>cases x with | obj hk=>exact .obj ((g.low h).symm.trans hk)
 | melt h e r=>cases x with
  | obj hk =>
   obtain ⟨xs,n,h1,h2,h3,h4⟩:=X.ob _ _ _ hk e
   refine .list h2 (fun q=>?_) (r.length▸h4) (VRs.fz g X r h3)
   rcases List.mem_append.mp q with q | q
   ·obtain ⟨p,hp,hq⟩:=List.mem_flatMap.mp q
    obtain ⟨j,hj⟩:=List.getElem?_of_mem hp
    have hjl:=(List.getElem?_eq_some_iff.mp hj).1
    have hj':K'.k[j]?=some p:=(g.low hjl).trans hj
    exact adrs_apart X.nd.1 hk hj' (Nat.ne_of_gt (Nat.lt_of_lt_of_le hjl h)) _ (.head _) hq
   ·exact X.hd _ (by rw[g.hid];exact q) (mem_adrs hk (.head _))
theorem VRs.fz {s₀ s:Shared} (g:Grows s₀ K K') (X:Tr T K' objs s) {l l':List D} (z:Fzs objs K.k.length l l') {vs:List Value} (x:VRs K' s.heap l vs):VRs K s.heap l' vs:=by
 cases z with
 | nil=>cases x;exact .nil
 | cons h r=>cases x with | cons y r'=>exact .cons (VR.fz g X h y) (VRs.fz g X r r')
end
theorem EntR.fz {P:Params} {s₀ s:Shared} (g:Grows s₀ K K') (X:Tr T K' objs s) {r:List (Str×D)} {es:List DictEntry} (x:EntR P K' s.heap r es) (z:D.unds K.k.length (r.map (·.2))=true):EntR P K s.heap r es:=by
 induction x with
 | nil=>exact .nil
 | cons hv _ ih =>
  rw[List.map_cons,D.unds,Bool.and_eq_true] at z
  exact .cons (hv.fz g X (D.und_fz z.1)) (ih z.2)
theorem AR.fz {s₀ s:Shared} (g:Grows s₀ K K') (X:Tr T K' objs s) {p:Addr×List Addr} {ao:AO} (x:AR T K' s.heap p ao) (z:ao.und K.k.length=true):AR T K s.heap p ao:=by
 cases ao with
 | lst l=>obtain ⟨xs,n,h1,h2,h3,h4⟩:=x;exact ⟨xs,n,h1,h2,h3.fz g X (D.unds_fz z),h4⟩
 | inst c at_=>obtain ⟨dx,sl,es,n,h1,h2,h3,h4,h5⟩:=x;exact ⟨dx,sl,es,n,h1,h2,h3,h4.fz g X z,h5⟩
 | dct r=>obtain ⟨es,n,h1,h2,h3,h4⟩:=x;exact ⟨es,n,h1,h2,h3.fz g X z,h4⟩
 | tab b=>exact x
theorem Post.drop {s s':Shared} {objs₀ objs' new:List AO} (X:Tr T K objs₀ s) (P:Post T K s K' (objs'++new) s') (hl:objs'.length=objs₀.length) (hb:∀ ao∈objs',ao.und objs₀.length=true):Post T K s K objs' s':=by
 have X':=P.tr
 have g:=P.grows
 have hlen:K.k.length=objs'.length:=by rw[X.len,hl]
 have sub:=g.adrs_sub
 have osub:=g.offs_sub
 refine ⟨⟨X'.well,X'.top,hlen,⟨?_,fun q hq=>?_⟩,fun a h=>X'.low a (sub a h),fun a h=>X'.live a (osub a h),fun k p ao h1 h2=>?_,X'.gens,X'.toks,fun a h q=>?_,fun e he=>?_⟩,P.pres,.refl _ _⟩
 ·obtain ⟨⟨K₂,e⟩,_⟩:=g
  have:=X'.nd.1
  rw[e] at this
  exact (List.pairwise_append.mp this).1
 ·obtain ⟨⟨K₂,e⟩,_⟩:=g
  exact X'.nd.2 q (by rw[e];exact List.mem_append_left _ hq)
 ·have hk:k<objs'.length:=(List.getElem?_eq_some_iff.mp h2).1
  refine (X'.ob k p ao ((g.low (by rw[hlen];exact hk)).trans h1) (by rw[List.getElem?_append_left hk];exact h2)).fz g X' ?_
  rw[hlen,hl];exact hb ao (List.mem_of_getElem? h2)
 ·exact X'.hd a (by rw[g.hid];exact h) (sub a q)
 ·obtain ⟨q0,L,q1,q2,q3,q4⟩:=X'.fs e he
  exact ⟨q0,L,q1,q2,fun q=>q3 (sub L q),q4⟩
inductive Dropped (objs:List AO) (Q:D→List AO→Prop) (d:D) (o:List AO):Prop
 | mk (o' new:List AO) (d':D) (e:o=o'++new) (hl:o'.length=objs.length) (hb:o'=objs∨∀ ao∈o',ao.und objs.length=true) (z:Fz o objs.length d d') (q:Q d' o')
theorem OutE.drop {s s':Shared} {Q:D→List AO→Prop} {v:Value} (X:Tr T K objs s) (h:OutE T K s (Dropped objs Q) v s'):OutE T K s Q v s':=by
 obtain ⟨K',d,ob,P,r,o',new,d',rfl,hl,hb,z,q⟩:=h
 have hb':∀ ao∈o',ao.und objs.length=true:=by
  rcases hb with rfl | hb
  ·exact X.und
  ·exact hb
 exact ⟨K,d',o',P.drop X hl hb',r.fz P.grows P.tr (by rw[X.len];exact z),q⟩
theorem xc_drop {f:Value} {ds:List D} {names:List Str} {kds:List D} {Q:D→List AO→Prop} (h:XC T w n f ds names kds objs (Dropped objs Q)):XC T w n f ds names kds objs Q :=
 ⟨h.1,fun A s K vs ks R X r rk=>wE (h.2 A s K vs ks R X r rk) fun _ _ x=>x.drop X⟩
theorem dropped {new:List AO} {d d':D} {Q:D→List AO→Prop} (z:Fz (objs++new) objs.length d d') (q:Q d' objs):Dropped objs Q d (objs++new):=⟨objs,new,d',rfl,rfl,.inl rfl,z,q⟩
end
section
variable {T:TopT} {w:World} {n:Nat} {env:Env} {loc:List (Str×D)} {objs:List AO} {Q:D→List AO→Prop}
theorem keep_cls {c:Addr} (h:makesIn T.objs c=true):KeepF T w (.ref c):=fun A K objs s Q X hq=>by
 have Y:=makes_of (M:=model pw w) X.top.fin h
 obtain ⟨oc,od,cd,sl,hC,_⟩:=Y.obj
 unfold keeperOf
 refine wpAny_bind (wpAny_load hC ?_)
 dsimp only
 refine wpAny_bind (Y.call.here ?_)
 exact wpAny_pure (hq _)
theorem Post.inst {K:Kt} {s:Shared} {c:Addr} (X:Tr T K objs s) :
  Post T K s (K.add (s.heap.objs.size+1,[s.heap.objs.size])) (objs++[.inst c []]) {s with heap:=(s.heap.push emptyDict).push (instObj c s.heap.objs.size)}:=by
 have hz:((s.heap.push emptyDict).push (instObj c s.heap.objs.size)).objs.size=s.heap.objs.size+1+1:=by rw[Heap.size_push,Heap.size_push]
 have P:Pres [] s {s with heap:=(s.heap.push emptyDict).push (instObj c s.heap.objs.size)}:=⟨fun b o e _=>Heap.get?_push_of_some _ (Heap.get?_push_of_some _ e),by show _≤((s.heap.push _).push _).objs.size;rw[hz];lia,rfl,id⟩
 have e1:((s.heap.push emptyDict).push (instObj c s.heap.objs.size)).get? s.heap.objs.size=some emptyDict:=Heap.get?_push_of_some _ (Heap.get?_push_size _ rfl)
 have e2:((s.heap.push emptyDict).push (instObj c s.heap.objs.size)).get? (s.heap.objs.size+1)=some (instObj c s.heap.objs.size):=by
  have:=Heap.get?_push_size (s.heap.push emptyDict) (o:=instObj c s.heap.objs.size) rfl
  rw[Heap.size_push] at this
  exact this
 refine Post.track (p:=(s.heap.objs.size+1,[s.heap.objs.size])) X P X.toks (fun a ha=>?_) ?_ fun mv=>⟨s.heap.objs.size,#[],[],0,rfl,e2,e1,.nil,Nat.zero_le _⟩
 ·show _∧a<((s.heap.push _).push _).objs.size
  rw[hz]
  rcases List.mem_cons.mp ha with rfl | ha
  ·exact ⟨Nat.le_succ _,Nat.lt_succ_self _⟩
  ·rw[List.mem_singleton.mp ha];exact ⟨Nat.le_refl _,Nat.lt_succ_of_lt (Nat.lt_succ_self _)⟩
 ·exact List.nodup_cons.mpr ⟨fun h=>absurd (List.mem_singleton.mp h) (Nat.succ_ne_self _),List.nodup_cons.mpr ⟨fun h=>(by cases h),List.nodup_nil⟩⟩
theorem obj_last {K:Kt} {s:Shared} {h:Heap} {p:Addr×List Addr} (X:Tr T K objs s):VR (K.add p) h (.obj objs.length) (.ref p.1):=by
 refine .obj (k:=objs.length) (a:=p.1) (m:=p.2) ?_
 show (K.k++[_])[objs.length]?=_
 rw[← X.len,List.getElem?_append_right (Nat.le_refl _),Nat.sub_self];rfl
theorem Room.in1 {A:Around} (R:Room T A (n+1)):Room T A.in1 n:=⟨by have:=R.depth;show A.depth+n≤900;lia,by have:=R.units;show A.units+1+8 * n≤4000;lia,R.hnd,R.frs⟩
theorem Room.tc {A:Around} {c:Addr} {rest:List Value} {kw:List (Str×Value)} (R:Room T A (n+1)):Room T (A.under (.builtin "type.__call__" ⟨.ref c :: rest,kw⟩)) n:=by
 have hw:(Code.builtin "type.__call__" ⟨.ref c :: rest,kw⟩).weight=1:=by kernel_rfl
 have hu:(Code.builtin "type.__call__" ⟨.ref c :: rest,kw⟩).cUnits=1:=by kernel_rfl
 have he:(Code.builtin "type.__call__" ⟨.ref c :: rest,kw⟩).envs=[]:=by kernel_rfl
 refine ⟨?_,?_,R.hnd,?_⟩
 ·have:=R.depth;show A.depth+(Code.builtin "type.__call__" ⟨.ref c :: rest,kw⟩).weight+n≤900;rw[hw];lia
 ·have:=R.units;show A.units+(Code.builtin "type.__call__" ⟨.ref c :: rest,kw⟩).cUnits+8 * n≤4000;rw[hu];lia
 ·show pushEnvs (Code.builtin "type.__call__" ⟨.ref c :: rest,kw⟩).envs A.frames=_
  rw[he,R.frs];rfl
theorem x_make {c fI:Addr} {ds:List D} {names:List Str} {kds:List D} (hm:makesIn T.objs c=true) (hi:findIn T.objs (.ref c) "__init__"=some (some (.ref fI))) (hf:typeIn T.objs (.ref fI)=some (.type "function"))
  (h:XCode T w n (.ref fI) (.obj objs.length :: ds) names kds (objs++[.inst c []]) fun d o=>d=.none∧Q (.obj objs.length) o):XC T w (n+1) (.ref c) ds names kds objs Q :=
 ⟨keep_cls hm,fun A s K vs ks R X r rk=>by
  have P:=Post.inst (c:=c) X
  obtain ⟨hh,g,d,t,os⟩:=s
  refine wpAny_call (codeAny_mono (make_core (R:=OutR T K ⟨hh,g,d,t,os⟩ Q) (makes_of X.top.fin hm) (looks_findIn X.top.fin hi) (fun self=>bind_fn X.top.fin self hf) (.inl rfl) ?_) fun r s' z=>by rcases r with e | (v | _ | _ | _) <;> exact z)
  refine codeAny_mono (h _ _ _ _ ks R.tc P.tr (.cons (obj_last (p:=(hh.objs.size+1,[hh.objs.size])) X) (P.vrs r)) (P.vrs rk)) fun r s' z=>?_
  rcases r with e | (v | _ | _ | _) <;> first | exact z | skip
  obtain ⟨K',d',ob,P',r',e,q⟩:=z
  subst e
  cases r'
  refine ⟨rfl,K',_,ob,P.trans P',?_,q⟩
  exact P'.vr (obj_last (p:=(hh.objs.size+1,[hh.objs.size])) X)⟩
end
structure Soft (F:List Addr) (s s':Shared):Prop where
 eq:∃ h',s'={s with heap:=h'}
 size:s'.heap.objs.size=s.heap.objs.size
 kp:∀ b o,s.heap.get? b=some o→∃ o',s'.heap.get? b=some o'∧o'.data=o.data∧(b∉F→o'=o)
theorem Soft.refl (F:List Addr) (s:Shared):Soft F s s:=⟨⟨s.heap,rfl⟩,rfl,fun b o e=>⟨o,e,rfl,fun _=>rfl⟩⟩
theorem Soft.trans {F:List Addr} {s s' s'':Shared} (x:Soft F s s') (y:Soft F s' s''):Soft F s s'':=by
 obtain ⟨⟨h1,rfl⟩,z1,k1⟩:=x
 obtain ⟨⟨h2,rfl⟩,z2,k2⟩:=y
 refine ⟨⟨h2,rfl⟩,z2.trans z1,fun b o e=>?_⟩
 obtain ⟨o1,a1,a2,a3⟩:=k1 b o e
 obtain ⟨o2,b1,b2,b3⟩:=k2 b o1 a1
 exact ⟨o2,b1,b2.trans a2,fun q=>by rw[b3 q,a3 q]⟩
noncomputable def frms (l:List Env):List Addr:=l.filterMap (·.frame)
theorem frms_mem {l:List Env} {e:Env} {L:Addr} (h:e∈l) (hf:e.frame=some L):L∈frms l:=List.mem_filterMap.mpr ⟨e,h,hf⟩
theorem ready_frames {M:Model} {A:Around} {E:Value→Shared→Prop} {F:List Addr}:∀ (l:List Env) (s:Shared) (Q:Unit→Shared→Prop),(∀ e∈l,e.scope.kind≠.module∧∃ L,e.frame=some L∧L∈F∧Dk s.heap L)→(∀ s',Soft F s s'→Q () s') →
  wpAny M A (readyFrames l) Q E s
 | [],s,Q,_,hq=>wpAny_pure (hq _ (.refl _ _))
 | env :: outer,s,Q,h,hq=>by
  obtain ⟨hk,L,hf,hL,o,es,n,ho,hd⟩:=h env (.head _)
  unfold readyFrames
  rw[hf]
  refine wpAny_bind (wpAny_load ho ?_)
  by_cases hr:((o.slots.getD 3 none).isSome)=true
  ·rw[if_pos hr];exact wpAny_pure (hq _ (.refl _ _))
  ·rw[if_neg hr]
   refine wpAny_bind (wpAny_of_eq (a:=false) (by simp [behindIsImport,hk]) ?_)
   refine wpAny_bind (wpAny_keptBack_false fun back=>?_)
   refine wpAny_bind (wpAny_update ho ?_)
   generalize hg:(fun o:Obj=>({o with slots:=#[some env.code,some (.ref env.globals),o.slots.getD 2 none,some back,o.slots.getD 4 none,env.func.map Value.ref,some (.ref env.builtins)]++(env.cells.map fun c=>some (.ref c.2)).toArray}:Obj))=g
   have gd:∀ o,(g o).data=o.data:=fun o=>by rw[← hg]
   have hnf:(g o).isFreed=false:=by
    have:=gd o
    rw[hd] at this
    generalize g o=o' at this
    obtain ⟨c,d,dt,sl⟩:=o'
    have this:dt=.dict es n:=this
    subst this;rfl
   have S:Soft F s {s with heap:=s.heap.update L g}:=by
    refine ⟨⟨_,rfl⟩,by show (s.heap.update L g).objs.size=_;rw[Heap.size_update],fun b o' e=>?_⟩
    by_cases q:b=L
    ·subst q
     rw[ho] at e;cases e
     exact ⟨g o,Heap.get?_update_self _ ho hnf,gd o,fun z=>absurd hL z⟩
    ·exact ⟨o',(Heap.get?_update_ne _ _ _ _ q).trans e,rfl,fun _=>rfl⟩
   refine ready_frames outer _ Q (fun e he=>?_) fun s' S'=>hq s' (S.trans S')
   obtain ⟨q1,L',q2,q3,q4⟩:=h e (.tail _ he)
   exact ⟨q1,L',q2,q3,q4.dat fun o ho=>let ⟨o',z1,z2,_⟩:=S.kp _ _ ho;⟨o',z1,z2⟩⟩
section
variable {T:TopT} {w:World} {n:Nat} {env:Env} {loc:List (Str×D)} {objs:List AO}
theorem Tr.soft {K:Kt} {s s':Shared} (X:Tr T K objs s) (S:Soft (frms T.fs) s s'):Tr T K objs s'∧PreS [] s s'∧Mv K K s.heap s'.heap:=by
 have hF:∀ L∈frms T.fs,Dk s.heap L∧L∉adrs K∧T.N≤L:=fun L hL=>by
  obtain ⟨e,he,hf⟩:=List.mem_filterMap.mp hL
  exact X.fs_at ⟨e,he,hf⟩
 have ice:∀ b o,s.heap.get? b=some o→hard b o→s'.heap.get? b=some o:=fun b o e hd=>by
  obtain ⟨o',h1,h2,h3⟩:=S.kp b o e
  by_cases q:b∈frms T.fs
  ·obtain ⟨⟨o₁,es,n,e1,e2⟩,_,q3⟩:=hF b q
   rcases hd with hd | hd
   ·rw[X.well.N] at q3;exact absurd hd (Nat.not_lt.mpr q3)
   ·rw[e] at e1;cases e1;exact absurd e2 (hd es n)
  ·rw[h1,h3 q]
 have mv:Mv K K s.heap s'.heap:=⟨fun b o e hk hi=>⟨ice b o e (icy_hard hi),hk⟩,fun _ _ h=>h⟩
 have out:∀ b o,s.heap.get? b=some o→b∉frms T.fs→s'.heap.get? b=some o:=fun b o e q=>by
  obtain ⟨o',h1,h2,h3⟩:=S.kp b o e
  rw[h1,h3 q]
 obtain ⟨h',rfl⟩:=S.eq
 have z:h'.objs.size=s.heap.objs.size:=S.size
 refine ⟨X.map rfl mv (fun b o e hb=>out b o e fun q=>?_) (fun a ha=>by show a<h'.objs.size;rw[z];exact X.live a (List.mem_append_right _ ha)) (Nat.le_of_eq z.symm) X.gens X.toks X.hd fun L hL d=>d.dat fun o ho=>let ⟨o',z1,z2,_⟩:=S.kp _ _ ho;⟨o',z1,z2⟩,
  ⟨fun b o e _=>?_,Nat.le_of_eq z.symm,rfl,id⟩,mv⟩
 ·obtain ⟨_,q2,q3⟩:=hF b q
  exact hb.elim q2 fun hb=>absurd hb (Nat.not_lt.mpr q3)
 ·obtain ⟨o',h1,h2,h3⟩:=S.kp b o e
  refine ⟨o',h1,h2,fun hd=>?_⟩
  have:=ice b o e hd
  rw[h1] at this;cases this;rfl
theorem Tr.hidupd {K:Kt} {s:Shared} {a:Addr} {o:Obj} {vs:Array Value} {f:Array Value→Array Value} (X:Tr T K objs s) (ha:a∈K.hid) (hl:T.N≤a) (ho:s.heap.get? a=some o) (hd:o.data=.fields vs) :
  Tr T K objs {s with heap:=s.heap.update a (Obj.mapFields f)}∧PreS [a] s {s with heap:=s.heap.update a (Obj.mapFields f)}∧Mv K K s.heap (s.heap.update a (Obj.mapFields f)):=by
 have ne:∀ b o,b≠a→s.heap.get? b=some o→(s.heap.update a (Obj.mapFields f)).get? b=some o:=fun b o q e=>(Heap.get?_update_ne _ _ _ _ q).trans e
 have mv:Mv K K s.heap (s.heap.update a (Obj.mapFields f)):=⟨fun b o e hk hi=>⟨ne b o (fun q=>hk (by rw[q];exact List.mem_append_right _ ha)) e,hk⟩,fun _ _ h=>h⟩
 have z:(s.heap.update a (Obj.mapFields f)).objs.size=s.heap.objs.size:=Heap.size_update ..
 refine ⟨X.map (s':={s with heap:=s.heap.update a (Obj.mapFields f)}) rfl mv (fun b o e hb=>ne b o (fun q=>?_) e) (fun b hb=>by show b<(s.heap.update a _).objs.size;rw[z];exact X.live b (List.mem_append_right _ hb)) (Nat.le_of_eq z.symm) X.gens X.toks X.hd
   fun L hL d=>d.dat fun o' ho'=>⟨o',ne L o' (fun q=>?_) ho',rfl⟩,
  .of (fun b o e hb=>ne b o (fun q=>hb (by rw[q];exact .head _)) e) (Nat.le_of_eq z.symm) rfl id,mv⟩
 ·subst q;exact hb.elim (X.hd b ha) fun hb=>absurd hb (Nat.not_lt.mpr hl)
 ·subst q
  obtain ⟨o₁,es,n,e1,e2⟩:=d
  rw[ho] at e1;cases e1;rw[hd] at e2;cases e2
inductive ExcD (H:List Addr) (h:Heap) (e:Addr) (cls:String):Prop
 | mk (oe:Obj) (vs:Array Value) (h1:h.get? e=some oe) (h2:oe.cls=.type cls) (h3:oe.data=.fields vs) (h4:5≤vs.size) (h5 :
  vs[1]?=some .none∨∃ tb otb tvs,vs[1]?=some (.ref tb)∧tb∈H∧tb≠e∧h.get? tb=some otb∧otb.data=.fields tvs∧4≤tvs.size)
structure ExS (T:TopT) (W:List Addr) (K₀:Kt) (s₀:Shared) (K:Kt) (H:List Addr) (objs:List AO) (cls:String) (e:Addr) (s:Shared):Prop where
 tr:Tr T (K.hide H) objs s
 pres:PreS (W++adrs K₀) s₀ s
 grows:Grows s₀ K₀ K
 new:∀ a∈H,s₀.heap.objs.size≤a
 low:∀ a∈H,T.N≤a
 me:e∈H
 exc:ExcD H s.heap e cls
variable {W:List Addr} {K₀ K:Kt} {s₀ s:Shared} {H:List Addr} {cls:String} {e:Addr}
theorem ExcD.more {h:Heap} {a:Addr} (x:ExcD H h e cls):ExcD (a :: H) h e cls:=by
 obtain ⟨oe,vs,h1,h2,h3,h4,h5⟩:=x
 refine ⟨oe,vs,h1,h2,h3,h4,h5.imp id fun ⟨tb,otb,tvs,q1,q2,q3⟩=>⟨tb,otb,tvs,q1,.tail _ q2,q3⟩⟩
theorem ExS.flight {A:Around} {E:Value→Shared→Prop} {Q:Unit→Shared→Prop} (x:ExS T W K₀ s₀ K H objs cls e s) (k:∀ s',ExS T W K₀ s₀ K H objs cls e s'→Mv (K.hide H) (K.hide H) s.heap s'.heap→PreS H s s'→Q () s') :
  wpAny (model pw w) A (setFlight (.ref e) none) Q E s:=by
 obtain ⟨oe,vs,h1,h2,h3,h4,h5⟩:=x.exc
 unfold setFlight
 rcases h5 with h5 | ⟨tb,otb,tvs,q1,q2,q3,q4,q5,q6⟩
 ·refine wpAny_bind (wpAny_field h1 h3 h5 ?_)
  rw[if_neg (by decide)]
  exact wpAny_pure (k s x ⟨fun b o e hk _=>⟨e,hk⟩,fun _ _ h=>h⟩ (.refl _ _))
 ·refine wpAny_bind (wpAny_field h1 h3 q1 ?_)
  rw[if_pos (show (Value.ref tb != Value.none)=true from by simp)]
  refine wpAny_setField q4 q5 (by lia) ?_
  obtain ⟨X',P',mv⟩:=x.tr.hidupd (f:=(·.setIfInBounds 3 .none)) (List.mem_append_left _ q2) (x.low tb q2) q4 q5
  refine k _ ⟨X',x.pres.trans P' fun a ha=>.inr (by rw[List.mem_singleton.mp ha];exact x.new tb q2),x.grows,x.new,x.low,x.me,oe,vs,?_,h2,h3,h4,.inr ⟨tb,_,_,q1,q2,q3,Heap.get?_update_self _ q4 ?_,Obj.data_mapFields q5 _,by rw[Array.size_setIfInBounds];exact q6⟩⟩ mv (P'.wider fun a ha=>by rw[List.mem_singleton.mp ha];exact q2)
  ·exact (Heap.get?_update_ne _ _ _ _ (Ne.symm q3)).trans h1
  ·exact Obj.isFreed_of_fields (Obj.data_mapFields q5 _)
theorem ExcD.upd1 {s':Shared} {oe:Obj} {vs:Array Value} {tb:Addr} {otb:Obj} {tvs:Array Value} (h1:s'.heap.get? e=some (Obj.mapFields (·.setIfInBounds 1 (.ref tb)) oe)) (h2:oe.cls=.type cls) (h3:oe.data=.fields vs) (h4:5≤vs.size)
  (q2:tb∈H) (q3:tb≠e) (q4:s'.heap.get? tb=some otb) (q5:otb.data=.fields tvs) (q6:4≤tvs.size):ExcD H s'.heap e cls:=by
 refine ⟨_,_,h1,?_,Obj.data_mapFields h3 _,by rw[Array.size_setIfInBounds];exact h4,.inr ⟨tb,otb,tvs,?_,q2,q3,q4,q5,q6⟩⟩
 ·obtain ⟨c,d,dt,sl⟩:=oe
  have h3:dt=.fields vs:=h3
  subst h3;exact h2
 ·rw[Array.getElem?_setIfInBounds_self_of_lt (by lia)]
theorem ExS.entry {A:Around} {E:Value→Shared→Prop} {Q:Unit→Shared→Prop} (x:ExS T W K₀ s₀ K H objs cls e s) (R:A.frames=some T.fs) {L:Addr} (hf:env.frame=some L) (hfr:∃ e₀ r,T.fs=e₀ :: r∧e₀.frame=env.frame) {head:Value} {oe:Obj} {vs:Array Value}
  (h1:s.heap.get? e=some oe) (h2:oe.cls=.type cls) (h3:oe.data=.fields vs) (h4:5≤vs.size)
  (k:∀ s' t,ExS T W K₀ s₀ K (t :: H) objs cls e s'→s.heap.objs.size≤t→Mv (K.hide H) (K.hide (t :: H)) s.heap s'.heap→PreS H s s'→Q () s') :
  wpAny (model pw w) A (do setField (.ref e) 1 (← EntryCells.newEntry head (← PySem.frameOf env) .none (rawInt L) .none (← entryPlaceOf L (head != .none)))) Q E s:=by
 obtain ⟨e₀,r,hT,he₀⟩:=hfr
 unfold PySem.frameOf
 refine wpAny_bind (wpAny_bind (wpAny_frameEnvs R ?_))
 have hdw:(T.fs.dropWhile fun x=>x.frame != env.frame)=e₀ :: r:=by
  rw[hT,List.dropWhile_cons,if_neg]
  rw[he₀];simp
 rw[hdw]
 unfold frameObject
 have hall:∀ e'∈e₀ :: r,e'.scope.kind≠.module∧∃ L,e'.frame=some L∧L∈frms T.fs∧Dk s.heap L:=fun e' he'=>by
  obtain ⟨q0,L',q1,q2,_⟩:=x.tr.fs e' (by rw[hT];exact he')
  exact ⟨q0,L',q1,frms_mem (by rw[hT];exact he') q1,q2⟩
 refine wpAny_bind (wpAny_bind (ready_frames _ _ _ hall fun s₁ S=>?_))
 rw[he₀,hf]
 refine wpAny_pure ?_
 refine wpAny_pure ?_
 obtain ⟨X₁,P₁,m₁⟩:=x.tr.soft S
 refine wpAny_bind (wpAny_entryPlaceOf fun pl hpl=>?_)
 unfold EntryCells.newEntry newFields
 refine wpAny_bind (wpAny_newObj_type ?_ (hpl.sizeOk5 _ _ _ _ _))
 have hard_e:hard e oe:=.inr fun es n q=>by rw[h3] at q;cases q
 have he₁:s₁.heap.get? e=some oe:=P₁.keep e oe h1 (fun h=>by cases h) hard_e
 generalize hto:({cls:=.type "traceback",dict:=none,data:=.fields ([head,Value.ref L,.none,rawInt L,.none]++(if pl.isEmpty then List.replicate 6 Value.none else pl)).toArray}:Obj)=to
 have hP2:Pres [] s₁ {s₁ with heap:=s₁.heap.push to}:=⟨fun b o e _=>Heap.get?_push_of_some _ e,by show _≤(s₁.heap.push _).objs.size;rw[Heap.size_push];exact Nat.le_succ _,rfl,id⟩
 have ht:∀ a∈[s₁.heap.objs.size],s₁.heap.objs.size≤a∧a<(s₁.heap.push to).objs.size:=fun a ha=>by rw[List.mem_singleton.mp ha,Heap.size_push];exact ⟨Nat.le_refl _,Nat.lt_succ_self _⟩
 have X₂:Tr T (K.hide (s₁.heap.objs.size :: H)) objs {s₁ with heap:=s₁.heap.push to}:=X₁.hide (H:=[s₁.heap.objs.size]) hP2 ht X₁.toks
 have m₂:Mv (K.hide H) (K.hide (s₁.heap.objs.size :: H)) s₁.heap (s₁.heap.push to):=Mv.hide (K:=K.hide H) (H:=[s₁.heap.objs.size]) (s:=s₁) (s':={s₁ with heap:=s₁.heap.push to}) hP2 fun a ha=>(ht a ha).1
 have he₂:(s₁.heap.push to).get? e=some oe:=Heap.get?_push_of_some _ he₁
 have hne:s₁.heap.objs.size≠e:=Nat.ne_of_gt (Heap.lt_size he₁)
 have hzs:s.heap.objs.size≤s₁.heap.objs.size:=P₁.size
 have hlow:T.N≤s₁.heap.objs.size:=X₁.top.size
 refine wpAny_setField he₂ h3 (by lia) ?_
 obtain ⟨X₃,P₃,m₃⟩:=X₂.hidupd (s:={s₁ with heap:=s₁.heap.push to}) (a:=e) (f:=(·.setIfInBounds 1 (.ref s₁.heap.objs.size))) (.tail _ (List.mem_append_left _ x.me)) (x.low e x.me) he₂ h3
 have hs0:s₀.heap.objs.size≤s₁.heap.objs.size:=Nat.le_trans x.pres.size hzs
 have P13:PreS [e] s {s₁ with heap:=(s₁.heap.push to).update e (Obj.mapFields (·.setIfInBounds 1 (.ref s₁.heap.objs.size)))}:=((P₁.wider (W':=[e]) fun a ha=>by cases ha).trans hP2.soft fun a ha=>by cases ha).trans P₃ fun a ha=>.inl ha
 refine k _ s₁.heap.objs.size ⟨X₃,x.pres.trans P13 fun a ha=>.inr (by rw[List.mem_singleton.mp ha];exact x.new e x.me),x.grows,fun a ha=>?_,fun a ha=>?_,.tail _ x.me,?_⟩ hzs ?_ (P13.wider fun a ha=>by rw[List.mem_singleton.mp ha];exact x.me)
 ·rcases List.mem_cons.mp ha with rfl | ha
  ·exact hs0
  ·exact x.new a ha
 ·rcases List.mem_cons.mp ha with rfl | ha
  ·exact hlow
  ·exact x.low a ha
 ·refine ExcD.upd1 (Heap.get?_update_self _ he₂ (Obj.isFreed_of_fields (Obj.data_mapFields h3 _))) h2 h3 h4 (.head _) hne ((Heap.get?_update_ne _ _ _ _ hne).trans (Heap.get?_push_size _ (by rw[← hto];rfl))) (tvs:=([head,Value.ref L,.none,rawInt L,.none]++(if pl.isEmpty then List.replicate 6 Value.none else pl)).toArray) (by rw[← hto]) ?_
  rw[List.size_toArray,List.length_append]
  show 4≤5+_
  lia
 ·exact ⟨fun b o e hk hi=>by
   have q1:=m₁.ice b o e hk hi
   have q2:=m₂.ice b o q1.1 q1.2 hi
   exact m₃.ice b o q2.1 q2.2 hi,fun _ _ h=>h⟩
theorem ExS.note {A:Around} {E:Value→Shared→Prop} {Q:Unit→Shared→Prop} (x:ExS T W K₀ s₀ K H objs cls e s) (R:A.frames=some T.fs) (hfr:∃ e₀ r,T.fs=e₀ :: r∧e₀.frame=env.frame)
  (k:∀ s' H',ExS T W K₀ s₀ K H' objs cls e s'→(∀ a∈H',a∈H∨s.heap.objs.size≤a)→Mv (K.hide H) (K.hide H') s.heap s'.heap→PreS H s s'→Q () s') :
  wpAny (model pw w) A (noteFrame (.ref e) env) Q E s:=by
 obtain ⟨L,hf⟩:∃ L,env.frame=some L:=by
  obtain ⟨e₀,r,hT,he₀⟩:=hfr
  obtain ⟨_,L,q1,_⟩:=x.tr.fs e₀ (by rw[hT];exact .head _)
  exact ⟨L,he₀▸q1⟩
 obtain ⟨oe,vs,h1,h2,h3,h4,h5⟩:=id x.exc
 unfold noteFrame
 rw[hf]
 rcases h5 with h5 | ⟨tb,otb,tvs,q1,q2,q3,q4,q5,q6⟩
 ·refine wpAny_bind (wpAny_field h1 h3 h5 ?_)
  rw[if_neg (by decide)]
  refine x.entry R hf hfr h1 h2 h3 h4 fun s' t x' ht mv P=>k s' _ x' (fun a ha=>?_) mv P
  rcases List.mem_cons.mp ha with rfl | ha
  ·exact .inr ht
  ·exact .inl ha
 ·refine wpAny_bind (wpAny_field h1 h3 q1 ?_)
  rw[if_pos (show (Value.ref tb != Value.none)=true from by simp)]
  obtain ⟨v3,hv3⟩:∃ v,tvs[3]?=some v:=⟨_,Array.getElem?_eq_getElem (by lia)⟩
  refine wpAny_bind (wpAny_field q4 q5 hv3 ?_)
  by_cases hh:(v3==rawInt L)=true
  ·rw[if_pos hh]
   exact wpAny_pure (k s H x (fun a ha=>.inl ha) ⟨fun b o e hk _=>⟨e,hk⟩,fun _ _ h=>h⟩ (.refl _ _))
  ·rw[if_neg hh]
   refine wpAny_bind (wpAny_setField q4 q5 (by lia) ?_)
   obtain ⟨X',P',mv'⟩:=x.tr.hidupd (f:=(·.setIfInBounds 3 .none)) (List.mem_append_left _ q2) (x.low tb q2) q4 q5
   have h1':(s.heap.update tb (Obj.mapFields (·.setIfInBounds 3 .none))).get? e=some oe:=(Heap.get?_update_ne _ _ _ _ (Ne.symm q3)).trans h1
   have x':ExS T W K₀ s₀ K H objs cls e {s with heap:=s.heap.update tb (Obj.mapFields (·.setIfInBounds 3 .none))} :=
    ⟨X',x.pres.trans P' fun a ha=>.inr (by rw[List.mem_singleton.mp ha];exact x.new tb q2),x.grows,x.new,x.low,x.me,oe,vs,h1',h2,h3,h4,.inr ⟨tb,_,_,q1,q2,q3,Heap.get?_update_self _ q4 (Obj.isFreed_of_fields (Obj.data_mapFields q5 _)),Obj.data_mapFields q5 _,by rw[Array.size_setIfInBounds];exact q6⟩⟩
   refine x'.entry R hf hfr h1' h2 h3 h4 fun s' t x'' ht mv P=>k s' _ x'' (fun a ha=>?_) ⟨fun b o e hk hi=>by
     have q1:=mv'.ice b o e hk hi
     exact mv.ice b o q1.1 q1.2 hi,fun _ _ h=>h⟩ ((P'.wider fun a ha=>by rw[List.mem_singleton.mp ha];exact q2).trans P fun a ha=>.inl ha)
   rcases List.mem_cons.mp ha with rfl | ha
   ·exact .inr (by
     have:(s.heap.update tb (Obj.mapFields (·.setIfInBounds 3 .none))).objs.size=s.heap.objs.size:=Heap.size_update ..
     have ht:(s.heap.update tb (Obj.mapFields (·.setIfInBounds 3 .none))).objs.size≤_:=ht
     rw[this] at ht;exact ht)
   ·exact .inl ha
end
section
variable (T:TopT) (w:World)
noncomputable abbrev XPost:=String→List AO→Prop
inductive OutXF (W:List Addr) (K:Kt) (s:Shared) (X:XPost) (ev:Value) (s':Shared):Prop
 | mk (e:Addr) (cls:String) (K':Kt) (H:List Addr) (objs':List AO) (h:ev=.ref e) (x:ExS T W K s K' H objs' cls e s') (q:X cls objs')
inductive OutXS (env:Env) (K:Kt) (s:Shared) (X:String→List (Str×D)→List AO→Prop) (ev:Value) (s':Shared):Prop
 | mk (e:Addr) (cls:String) (K':Kt) (H:List Addr) (loc':List (Str×D)) (objs':List AO) (h:ev=.ref e) (x:ExS T (own env) K s K' H objs' cls e s') (F:Frm T (K'.hide H) env loc' s') (q:X cls loc' objs')
def OutRX (K:Kt) (s:Shared) (Q:D→List AO→Prop) (X:XPost) (r:Result) (s':Shared):Prop:=match r with
 | .ok (.ret v)=>OutE T K s Q v s'
 | .ok _=>False
 | .error ev=>OutXF T [] K s X ev s'
def XCodeX (n:Nat) (f:Value) (ds:List D) (names:List Str) (kds:List D) (objs:List AO) (Q:D→List AO→Prop) (X:XPost):Prop :=
 ∀ (A:Around) (s:Shared) (K:Kt) (vs ks:List Value),Room T A n→Tr T K objs s→VRs K s.heap ds vs→VRs K s.heap kds ks→codeAny (model pw w) A (.call f ⟨vs,names.zip ks⟩) (OutRX T K s Q X) s
def EvEX (n:Nat) (env:Env) (e:PySem.Expr) (loc:List (Str×D)) (objs:List AO) (Q:D→List AO→Prop) (X:XPost):Prop :=
 ∀ (A:Around) (s:Shared) (K:Kt),Room T A n→Tr T K objs s→Frm T K env loc s→wpAny (model pw w) A (eval e env) (OutE T K s Q) (OutXF T [] K s X) s
noncomputable abbrev XLPost:=String→List (Str×D)→List AO→Prop
@[reducible] noncomputable def kX (X:XPost):XLPost:=fun c _ o=>X c o
@[reducible] noncomputable def kXl (X:XLPost) (loc:List (Str×D)):XPost:=fun c o=>X c loc o
def EvSX (n:Nat) (env:Env) (st:Stmt) (loc:List (Str×D)) (objs:List AO) (Q:Fl→List (Str×D)→List AO→Prop) (X:XLPost):Prop :=
 ∀ (A:Around) (s:Shared) (K:Kt),Room T A n→Tr T K objs s→Frm T K env loc s→wpAny (model pw w) A (exec st env) (OutS T K env s Q) (OutXS T env K s X) s
def EvSsX (n:Nat) (env:Env) (sts:List Stmt) (loc:List (Str×D)) (objs:List AO) (Q:Fl→List (Str×D)→List AO→Prop) (X:XLPost):Prop :=
 ∀ (A:Around) (s:Shared) (K:Kt),Room T A n→Tr T K objs s→Frm T K env loc s→wpAny (model pw w) A (execs sts env) (OutS T K env s Q) (OutXS T env K s X) s
end
section
variable {T:TopT} {w:World} {n:Nat} {env:Env} {loc:List (Str×D)} {objs:List AO}
theorem wX {α:Type} {A:Around} {t:Sem α} {P Q:α→Shared→Prop} {E:Value→Shared→Prop} {s:Shared} (h:wpAny (model pw w) A t P noE s) (k:∀ a s',P a s'→Q a s'):wpAny (model pw w) A t Q E s :=
 wpAny_mono h k fun _ _ x=>x.elim
theorem ExS.behind {W W':List Addr} {K K₁ K':Kt} {s s₁ s₂:Shared} {objs₁ objs':List AO} {H:List Addr} {cls:String} {e:Addr} (p:PostL T W K s K₁ objs₁ s₁) (x:ExS T W' K₁ s₁ K' H objs' cls e s₂) (hw:∀ a∈W',a∈W):ExS T W K s K' H objs' cls e s₂ :=
 ⟨x.tr,p.pres.trans x.pres fun a h=>by
  rcases List.mem_append.mp h with h | h
  ·exact .inl (List.mem_append_left _ (hw a h))
  ·exact (p.grows.fresh a h).imp (List.mem_append_right _) id,p.grows.trans x.grows p.pres.size,fun a h=>Nat.le_trans p.pres.size (x.new a h),x.low,x.me,x.exc⟩
theorem OutXS.behind {K K₁:Kt} {s s₁ s₂:Shared} {objs₁:List AO} {X:XLPost} {v:Value} (p:PostL T (own env) K s K₁ objs₁ s₁) (o:OutXS T env K₁ s₁ X v s₂):OutXS T env K s X v s₂:=by
 obtain ⟨e,cls,K',H,l,ob,h1,h2,h3,h4⟩:=o
 exact ⟨e,cls,K',H,l,ob,h1,h2.behind p fun _ h=>h,h3,h4⟩
theorem OutXF.behind {W:List Addr} {K K₁:Kt} {s s₁ s₂:Shared} {objs₁:List AO} {X:XPost} {v:Value} (p:PostL T W K s K₁ objs₁ s₁) (o:OutXF T W K₁ s₁ X v s₂):OutXF T W K s X v s₂:=by
 obtain ⟨e,cls,K',H,ob,h1,h2,h4⟩:=o
 exact ⟨e,cls,K',H,ob,h1,h2.behind p fun _ h=>h,h4⟩
theorem ExS.frame {K K':Kt} {s s':Shared} {objs':List AO} {H:List Addr} {cls:String} {e:Addr} (x:ExS T [] K s K' H objs' cls e s') (F:Frm T K env loc s):Frm T (K'.hide H) env loc s':=by
 have P:PreS (adrs K) s s':=x.pres
 refine F.map ⟨fun b o e hk hi=>⟨P.keep b o e (offs_adrs hk) (icy_hard hi),fun h=>?_⟩,fun _ _ h=>x.grows.get h⟩ (fun b o e hb=>P.dat b o e (F.out b hb)) (fun a ha h=>?_) P.size
 ·rcases offs_hide h with h | h
  ·exact (x.grows.offs _ h).elim hk fun q=>absurd (Heap.lt_size e) (Nat.not_lt.mpr q)
  ·exact absurd (Heap.lt_size e) (Nat.not_lt.mpr (x.new b h))
 ·rcases x.grows.fresh a h with h | h
  ·exact F.out a ha h
  ·exact absurd (F.live a ha) (Nat.not_lt.mpr h)
theorem ExS.widerW {W W':List Addr} {K K':Kt} {s s':Shared} {objs':List AO} {H:List Addr} {cls:String} {e:Addr} (x:ExS T W K s K' H objs' cls e s') (h:∀ a∈W,a∈W'):ExS T W' K s K' H objs' cls e s' :=
 ⟨x.tr,x.pres.wider fun a ha=>(List.mem_append.mp ha).elim (fun q=>List.mem_append_left _ (h a q)) (List.mem_append_right _),x.grows,x.new,x.low,x.me,x.exc⟩
section
variable (T:TopT) (w:World) (n:Nat) (env:Env)
@[reducible] def kSeqX (rest:List Stmt) (Q:Fl→List (Str×D)→List AO→Prop) (X:XLPost) (f:Fl) (l:List (Str×D)) (o:List AO):Prop:=match f with | .next=>EvSsX T w n env rest l o Q X | f=>Q f l o
@[reducible] def kIfX (x y:List Stmt) (loc:List (Str×D)) (Q:Fl→List (Str×D)→List AO→Prop) (X:XLPost) (c:Bool) (o:List AO):Prop:=match c with | true=>EvSsX T w n env x loc o Q X | false=>EvSsX T w n env y loc o Q X
end
theorem ssx_cons {st:Stmt} {rest:List Stmt} {Q:Fl→List (Str×D)→List AO→Prop} {X:XLPost} (h:EvS T w n env st loc objs (kSeqX T w n env rest Q X)):EvSsX T w n env (st :: rest) loc objs Q X :=
 fun A s K R Xt F=>wpAny_execs_cons (wX (h A s K R Xt F) fun fl s₁ ⟨K₁,f,l,o,p,F₁,r,q⟩=>by
  cases r with
  | next=>exact wpAny_mono (q A s₁ K₁ R p.tr F₁) (fun _ _ x=>x.behind p) fun _ _ x=>x.behind p
  | brk=>exact ⟨K₁,_,l,o,p,F₁,.brk,q⟩
  | cont=>exact ⟨K₁,_,l,o,p,F₁,.cont,q⟩
  | ret r=>exact ⟨K₁,_,l,o,p,F₁,.ret r,q⟩)
theorem ssx_consX {st:Stmt} {rest:List Stmt} {Q:Fl→List (Str×D)→List AO→Prop} {X:XLPost} (h:EvSX T w n env st loc objs (kSeqX T w n env rest Q X) X):EvSsX T w n env (st :: rest) loc objs Q X :=
 fun A s K R Xt F=>wpAny_execs_cons (wpAny_mono (h A s K R Xt F) (fun fl s₁ ⟨K₁,f,l,o,p,F₁,r,q⟩=>by
  cases r with
  | next=>exact wpAny_mono (q A s₁ K₁ R p.tr F₁) (fun _ _ x=>x.behind p) fun _ _ x=>x.behind p
  | brk=>exact ⟨K₁,_,l,o,p,F₁,.brk,q⟩
  | cont=>exact ⟨K₁,_,l,o,p,F₁,.cont,q⟩
  | ret r=>exact ⟨K₁,_,l,o,p,F₁,.ret r,q⟩) fun _ _ x=>x)
theorem ssx_of {sts:List Stmt} {Q:Fl→List (Str×D)→List AO→Prop} {X:XLPost} (h:EvSs T w n env sts loc objs Q):EvSsX T w n env sts loc objs Q X:=fun A s K R Xt F=>wX (h A s K R Xt F) fun _ _ x=>x
theorem sx_if {t:PySem.Expr} {b o:List Stmt} {pos:Pos} {Q:Fl→List (Str×D)→List AO→Prop} {X:XLPost} (h:EvB T w n env t loc objs (kIfX T w n env b o loc Q X)):EvSX T w n env (.If t b o pos) loc objs Q X:=fun A s K R Xt F =>
 wpAny_If (wX (h A s K R Xt F) fun c s₁ ⟨K₁,o₁,p₁,q₁⟩=>by
  cases c with
  | true=>exact wpAny_mono (q₁ A s₁ K₁ R p₁.tr (F.post p₁)) (fun _ _ x=>x.behind p₁.toL) fun _ _ x=>x.behind p₁.toL
  | false=>exact wpAny_mono (q₁ A s₁ K₁ R p₁.tr (F.post p₁)) (fun _ _ x=>x.behind p₁.toL) fun _ _ x=>x.behind p₁.toL)
theorem sx_assign {x:Str} {p' pos:Pos} {e:PySem.Expr} {Q:Fl→List (Str×D)→List AO→Prop} {X:XLPost} (hl:env.scope.names.lookup x=some .local∨env.scope.names.lookup x=some .cell) (hs:swapsWith e (some (.Name x p')) pos.line env=pure false)
  (h:EvEX T w n env e loc objs (kAsg x loc Q) (kXl X loc)):EvSX T w n env (.Assign [.Name x p'] e pos) loc objs Q X:=fun A s K R Xt F =>
 wpAny_Assign_Name (wpAny_mono (h A s K R Xt F) (fun v s₁ ⟨K₁,d,o₁,p₁,r₁,q₁⟩=>wX (store_any p₁.tr (F.post p₁) r₁ hl) fun _ s₂ ⟨P,F₂⟩=>⟨K₁,.next,_,o₁,p₁.toL.trans P,F₂,.next,q₁⟩)
  fun ev s' ⟨e,cls,K',H,ob,h1,x,q⟩=>⟨e,cls,K',H,loc,ob,h1,x.widerW (fun a ha=>by cases ha),x.frame F,q⟩) hs
end
def Dead (h h':Heap):Prop:=h.objs.size≤h'.objs.size∧∀ a,a<h.objs.size→h.get? a=none→h'.get? a=none
theorem Dead.refl (h:Heap):Dead h h:=⟨Nat.le_refl _,fun _ _ e=>e⟩
theorem Dead.trans {h h' h'':Heap} (x:Dead h h') (y:Dead h' h''):Dead h h'':=⟨Nat.le_trans x.1 y.1,fun a ha e=>y.2 a (Nat.lt_of_lt_of_le ha x.1) (x.2 a ha e)⟩
theorem Dead.push (h:Heap) (o:Obj):Dead h (h.push o):=⟨by rw[Heap.size_push];exact Nat.le_succ _,fun a ha e=>(Heap.get?_push_ne h a o (Nat.ne_of_lt ha)).trans e⟩
theorem Dead.update {h:Heap} {a:Addr} (f:Obj→Obj) (ha:(h.get? a).isSome=true):Dead h (h.update a f):=⟨by rw[Heap.size_update];exact Nat.le_refl _,fun b hb e=>by
 have:b≠a:=fun q=>by rw[q] at e;rw[e] at ha;cases ha
 exact (Heap.get?_update_ne _ _ _ _ this).trans e⟩
theorem runs_dead {M:Model} {Γ:Ctx} {p:Pos} {t:Sem PySem.Fin} {fs:List Frame} {s s':Shared} {e:End} (h:Runs M Γ p t fs s e s'):Dead s.heap s'.heap:=by
 induction h with
 | update ha _ ih=>exact (Dead.update _ ha).trans ih
 | alloc _ ih=>exact (Dead.push _ _).trans ih
 | done=>exact .refl _
 | raise=>exact .refl _
 | yield=>exact .refl _
 | call _ _ ih1 ih2=>exact ih1.trans ih2
 | resumeFresh _ _ _ _ ih1 ih2=>exact Dead.trans (show Dead _ _ from ih1) (show Dead _ _ from ih2)
 | resumeSuspended _ _ _ _ ih1 ih2=>exact Dead.trans (show Dead _ _ from ih1) (show Dead _ _ from ih2)
 | segRet _ _ ih1 ih2=>exact ih1.trans ih2
 | segSuspGen _ _ _ _ ih1 ih2=>exact Dead.trans (show Dead _ _ from ih1) (show Dead _ _ from ih2)
 | segGen _ _ ih1 ih2=>exact Dead.trans (show Dead _ _ from ih1) (show Dead _ _ from ih2)
 | _=>assumption
theorem returns_dead {M:Model} {Γ:Ctx} {p:Pos} {s s':Shared} {r:Result} (h:Returns M Γ p s r s'):Dead s.heap s'.heap:=runs_dead h
theorem wakes_dead {M:Model} {Γ:Ctx} {p:Pos} {g:Nat} {r:Resume} {s s':Shared} {res:GenResult} (h:Wakes M Γ p g r s res s'):Dead s.heap s'.heap:=by
 unfold Wakes at h
 split at h
 ·exact h.elim
 ·split at h
  ·obtain ⟨e₁,s₁,hr,_,_,rfl⟩:=h;exact (runs_dead hr:Dead (s.setGen g .running).heap s₁.heap)
  ·rw[h.2];exact .refl _
  ·rw[h.2];exact .refl _
 ·obtain ⟨e₁,s₁,hr,_,_,rfl⟩:=h;exact (runs_dead hr:Dead (s.setGen g .running).heap s₁.heap)
 ·rw[h.2];exact .refl _
 ·rw[h.2];exact .refl _
theorem wp_dead {α:Type} (M:Model) (Γ:Ctx) (h₀:Heap) (t:Sem α):∀ (Q:α→Pos→Shared→Prop) (E:Value→Pos→Shared→Prop) (p:Pos) (s:Shared),Dead h₀ s.heap→Sem.wp M Γ t Q E p s →
  Sem.wp M Γ t (fun a p' s'=>Dead h₀ s'.heap∧Q a p' s') (fun e p' s'=>Dead h₀ s'.heap∧E e p' s') p s:=by
 induction t with
 | pure a=>intro Q E p s hn h;exact ⟨hn,h⟩
 | raise e=>intro Q E p s hn h;exact ⟨hn,h⟩
 | unsupported _=>intro Q E p s _ h;exact h
 | finish _=>intro Q E p s _ h;exact h
 | rule _ k ih=>intro Q E p s hn h;exact ih () Q E p s hn h
 | «at» p' k ih=>intro Q E p s hn h;exact ih () Q E p' s hn h
 | load a _ k ih=>intro Q E p s hn h;obtain ⟨o,ho,h⟩:=h;exact ⟨o,ho,ih o Q E p s hn h⟩
 | update a _ f k ih=>intro Q E p s hn h;exact ⟨h.1,ih () Q E p _ (hn.trans (Dead.update f h.1)) h.2⟩
 | loadIfAlive a k ih=>intro Q E p s hn h;exact ih _ Q E p s hn h
 | point _ k ih=>intro Q E p s hn h;exact ih () Q E p s hn h
 | register _ _=>intro Q E p s _ h;exact h
 | alloc o k ih=>intro Q E p s hn h;exact ih _ Q E p _ (hn.trans (Dead.push _ o)) h
 | fresh k ih=>intro Q E p s hn h;exact ih _ Q E p _ hn h
 | ask k ih=>intro Q E p s hn h;exact ih _ Q E p s hn h
 | choose src m k ih=>intro Q E p s hn h;exact ⟨h.1,ih _ Q E p _ hn h.2⟩
 | os q _ k ih=>intro Q E p s hn h;exact ih _ Q E p _ hn h
 | call c hd _ _ k ih=>intro Q E p s hn h;obtain ⟨r,s',hr,h⟩:=h;exact ⟨r,s',hr,ih r Q E p s' (hn.trans (returns_dead hr)) h⟩
 | handled own k ih=>intro Q E p s hn h;exact ih _ Q E p s hn h
 | genState g k ih=>intro Q E p s hn h;obtain ⟨st,hs,h⟩:=h;exact ⟨st,hs,ih _ Q E p s hn h⟩
 | newGen c k ih=>intro Q E p s hn h;exact ih _ Q E p _ hn h
 | resume g r _ k ih=>intro Q E p s hn h;obtain ⟨res,s',hw,h⟩:=h;exact ⟨res,s',hw,ih res Q E p s' (hn.trans (wakes_dead hw)) h⟩
 | yield _ _ _ _=>intro Q E p s _ h;exact h
 | stack k ih=>intro Q E p s hn h;exact ih _ Q E p s hn h
 | fork _ _=>intro Q E p s _ h;exact h
 | thread k ih=>intro Q E p s hn h;exact ih _ Q E p s hn h
 | await _ _ _ _ _=>intro Q E p s _ h;exact h
theorem wpAny_dead_of {α:Type} {M:Model} {A:Around} {s:Shared} {t:Sem α} {Q:α→Shared→Prop} {E:Value→Shared→Prop} (h:wpAny M A t Q E s) :
  wpAny M A t (fun a s'=>Dead s.heap s'.heap∧Q a s') (fun e s'=>Dead s.heap s'.heap∧E e s') s :=
 fun Γ p hΓ=>wp_dead M Γ s.heap t _ _ p s (.refl _) (h Γ p hΓ)
theorem Dead.new {h h':Heap} {a:Addr} {o:Obj} (x:Dead h h') (h1:h.get? a=none) (h2:h'.get? a=some o):h.objs.size≤a:=by
 rcases Nat.lt_or_ge a h.objs.size with q | q
 ·rw[x.2 a q h1] at h2;cases h2
 ·exact q
section
variable {T:TopT} {w:World} {n:Nat} {env:Env} {loc:List (Str×D)} {objs:List AO} {Q:Fl→List (Str×D)→List AO→Prop} {X:XLPost}
theorem exc_made {W:List Addr} {K:Kt} {s s':Shared} {h':Heap} {e:Addr} {cls:String} {args:List Value} {tk:Nat} (Xt:Tr T K objs s) (m:Heap.MadeExc s.heap h' e cls args) (d:Dead s.heap h') (hs:s'={s with heap:=h',toks:=tk}) (ht:0<tk) :
  ExS T W K s K [e] objs cls e s':=by
 subst hs
 obtain ⟨t,m1,m2,m3⟩:=m.there
 have hn:=d.new m.new m1
 have P:Pres [] s {s with heap:=h',toks:=tk}:=⟨fun b o e _=>m.keeps b o e,d.1,rfl,id⟩
 refine ⟨Xt.hide P (fun a ha=>?_) ht,P.soft.wider (fun a ha=>by cases ha),.refl _ _,fun a ha=>by rw[List.mem_singleton.mp ha];exact hn,fun a ha=>by rw[List.mem_singleton.mp ha];exact Nat.le_trans Xt.top.size hn,.head _,_,_,m1,rfl,rfl,by show 5≤6;lia,.inl rfl⟩
 rw[List.mem_singleton.mp ha]
 exact ⟨hn,Heap.lt_size m1⟩
inductive RaisedHere (s:Shared) (cls:String) (ev:Value) (s':Shared):Prop
 | mk (h':Heap) (e:Addr) (tk:Nat) (args:List Value) (m:Heap.MadeExc s.heap h' e cls args) (e1:ev=.ref e) (e2:s'={s with heap:=h',toks:=tk}) (ht:0<tk)
theorem sx_of_here {st:Stmt} {cls:String} (h:∀ (A:Around) (s:Shared) (K:Kt),Room T A n→Tr T K objs s→Frm T K env loc s→wpAny (model pw w) A (exec st env) (fun _ _=>False) (RaisedHere s cls) s) (q:X cls loc objs):EvSX T w n env st loc objs Q X:=fun A s K R Xt F=>by
 refine wpAny_mono (wpAny_dead_of (h A s K R Xt F)) (fun _ _ x=>x.2.elim) fun ev s' ⟨d,h',e,tk,args,m,e1,e2,ht⟩=>?_
 subst e2
 have x:ExS T [] K s K [e] objs cls e {s with heap:=h',toks:=tk}:=exc_made Xt m d rfl ht
 exact ⟨e,cls,K,[e],loc,objs,e1,x.widerW (fun a ha=>by cases ha),x.frame F,q⟩
theorem sx_raise_str {cls newId initId:String} (EF:ExcCallFacts cls newId initId) (G:ExcRaiseFacts cls) {x msg:Str} {np cpos pos p':Pos} {k:Nat} (hl:env.scope.names.lookup x=some .globalImplicit) (hx:lkV T.bts x=some (.type cls)) (hd:(x==("__debug__":Str))=false)
  (q:X cls loc objs):EvSX T w n env (.Raise (some (.Call (.Name x np) [.Constant (.str msg) k p'] [] cpos)) none pos) loc objs Q X :=
 sx_of_here (cls:=cls) (fun A s K R Xt F=>by
  obtain ⟨mg,mb,h1,h2,h3,h4⟩:=Xt.top.ns
  obtain ⟨q1,q2⟩:=h4 x _ hx
  refine wpAny_Raise_call EF G R.hnd rfl (Calls.Name_function_global F.kind hl (Calls.loadGlobal_builtin (F.glob▸h1) q1 (F.bi▸h2) q2 ⟨rfl,?_⟩) hd)
  refine evalArgs_kw (keywords:=[]) rfl (Calls.spliced_cons (Calls.Constant_str (pos:=p') (k:=k) (Calls.spliced_nil (wpAny_evalAll_nil ⟨rfl,(show 1≤sizeLine by decide),fun h' e m=>⟨h',e,s.toks+1,_,m,rfl,rfl,Nat.succ_pos _⟩⟩)))) ) q
theorem sx_raise_stop {x:Str} {np pos:Pos} (hl:env.scope.names.lookup x=some .globalImplicit) (hx:lkV T.bts x=some (.type "StopIteration")) (hd:(x==("__debug__":Str))=false)
  (q:X "StopIteration" loc objs):EvSX T w n env (.Raise (some (.Name x np)) none pos) loc objs Q X :=
 sx_of_here (cls := "StopIteration") (fun A s K R Xt F=>by
  obtain ⟨mg,mb,h1,h2,h3,h4⟩:=Xt.top.ns
  obtain ⟨q1,q2⟩:=h4 x _ hx
  exact owsi_raiseC R.hnd (Calls.Name_function_global F.kind hl (Calls.loadGlobal_builtin (F.glob▸h1) q1 (F.bi▸h2) q2 ⟨rfl,rfl⟩) hd) fun h' e m=>⟨h',e,s.toks,_,m,rfl,rfl,Xt.toks⟩) q
end
section
variable {T:TopT} {w:World} {n:Nat} {env:Env} {loc:List (Str×D)} {objs:List AO}
def XCX (T:TopT) (w:World) (n:Nat) (f:Value) (ds:List D) (names:List Str) (kds:List D) (objs:List AO) (Q:D→List AO→Prop) (X:XPost):Prop:=KeepF T w f∧XCodeX T w n f ds names kds objs Q X
@[reducible] def kXCX (T:TopT) (w:World) (n:Nat) (names:List Str) (f:Value) (ds:List D) (Q:D→List AO→Prop) (X:XPost) (kds:List D) (o:List AO):Prop:=XCX T w n f ds names kds o Q X
@[reducible] def kArgsX (T:TopT) (w:World) (n:Nat) (env:Env) (pos:Pos) (kws:List Keyword) (f:Value) (loc:List (Str×D)) (Q:D→List AO→Prop) (X:XPost) (ds:List D) (o:List AO):Prop:=EvKs T w n env pos kws loc o (kXCX T w n (kws.filterMap (·.arg)) f ds Q X)
@[reducible] def kCallX (T:TopT) (w:World) (n:Nat) (env:Env) (pos:Pos) (args:List PySem.Expr) (kws:List Keyword) (loc:List (Str×D)) (Q:D→List AO→Prop) (X:XPost) (d:D) (o:List AO):Prop:=match d with | .val f=>EvEs T w n env pos args loc o (kArgsX T w n env pos kws f loc Q X) | _=>False
theorem call_tailX {pos cpos:Pos} {f:Value} {args:List PySem.Expr} {kws:List Keyword} {Q:D→List AO→Prop} {X:XPost} (ha:args.all notStar=true) (hk:kws.all (·.arg.isSome)=true)
  {K:Kt} {s:Shared} {A:Around} (R:Room T A n) (Xt:Tr T K objs s) (F:Frm T K env loc s)
  (h:EvEs T w n env pos args loc objs (kArgsX T w n env pos kws f loc Q X)) :
  wpAny (model pw w) A (callWith cpos f [] (backTo pos (starEach args env)) (backToKw pos (keywordEach kws env))) (OutE T K s Q) (OutXF T [] K s X) s:=by
 have hn:=kws_names (pos:=pos) (env:=env) hk
 refine callWith_gen (args_plain ha) hn.1 (wX (h A s K R Xt F) fun vs s₁ ⟨K₁,ds,o₁,p₁,r₁,q₁⟩=>wX (q₁ A s₁ K₁ R p₁.tr (F.post p₁)) fun ks s₂ ⟨K₂,kds,o₂,p₂,r₂,q₂⟩=>⟨fun Q' hQ=>wX (q₂.1 A K₂ o₂ s₂ Q' p₂.tr hQ) fun _ _ x=>x,?_⟩)
 rw[hn.2,List.nil_append]
 have P12:=p₁.trans p₂
 refine wpAny_call (codeAny_mono (q₂.2 A s₂ K₂ _ ks R p₂.tr (p₂.vrs r₁) r₂) fun r s' z=>?_)
 rcases r with e | f
 ·exact OutXF.behind P12.toL z
 ·cases f <;> first | exact OutE.behind P12 z | exact z
theorem ev_callX {id:Str} {p pos:Pos} {args:List PySem.Expr} {kws:List Keyword} {Q:D→List AO→Prop} {X:XPost} (ha:args.all notStar=true) (hk:kws.all (·.arg.isSome)=true)
  (h:EvE T w n env (.Name id p) loc objs (kCallX T w n env pos args kws loc Q X)) :
  EvEX T w n env (.Call (.Name id p) args kws pos) loc objs Q X:=fun A s K R Xt F =>
 wpAny_Call_Name_kw (wX (h A s K R Xt F) fun fv s₁ ⟨K₁,d,o₁,p₁,r₁,q₁⟩=>by
  cases r₁ <;> try exact q₁.elim
  exact wpAny_mono (call_tailX ha hk R p₁.tr (F.post p₁) q₁) (fun _ _ x=>x.behind p₁) fun _ _ x=>x.behind p₁.toL)
theorem ExS.frm {W:List Addr} {K₀ K:Kt} {s₀ s s':Shared} {H H':List Addr} {cls:String} {e:Addr} (x:ExS T W K₀ s₀ K H objs cls e s) (x':ExS T W K₀ s₀ K H' objs cls e s') (F₀:∀ a∈own env,a<s₀.heap.objs.size) (F:Frm T (K.hide H) env loc s) (mv:Mv (K.hide H) (K.hide H') s.heap s'.heap) (P:PreS H s s'):Frm T (K.hide H') env loc s' :=
 F.map mv (fun b o e hb=>P.dat b o e fun q=>absurd (F₀ b hb) (Nat.not_lt.mpr (x.new b q))) F.out P.size
theorem ExcD.type {H:List Addr} {s:Shared} {e:Addr} {cls:String} (x:ExcD H s.heap e cls):s.TypeIs (.ref e) cls:=let ⟨oe,_,h1,h2,_,_,_⟩:=x;⟨oe,h1,h2⟩
theorem s_try_ret {body:List Stmt} {tn msg:Str} {np p' rp hp pos:Pos} {k:Nat} {C Tn:String} {Q:Fl→List (Str×D)→List AO→Prop} (hl:env.scope.names.lookup tn=some .globalImplicit) (hx:lkV T.bts tn=some (.type Tn)) (hd:(tn==("__debug__":Str))=false)
  (hexc:isSubtype (.type Tn) (.type "BaseException")=pure true) (hnt:isSubtype (.type ((Manifest.find? Tn).elim "type" fun x=>x.metatype)) (.type "tuple")=pure false) (hsub:isSubtype (.type C) (.type Tn)=pure true) (hm:Nat.ble msg.length 1000=true)
  (h:EvSsX T w n env body loc objs Q fun c l o=>c=C∧Q (.ret (.str msg)) l o) :
  EvS T w n env (.Try body [.ExceptHandler (some (.Name tn np)) none [.Return (some (.Constant (.str msg) k p')) rp] hp] [] [] pos) loc objs Q:=fun A s K R Xt F=>by
 refine wpAny_Try_except (wpAny_mono (h A s K R Xt F) (fun fl s₁ hq=>?_) fun ev s₁ hq=>?_)
 ·obtain ⟨K₁,f,l,o,p,F₁,r,q⟩:=hq
  cases r with
  | next=>exact wpAny_execs_nil ⟨K₁,.next,l,o,p,F₁,.next,q⟩
  | brk=>exact ⟨K₁,_,l,o,p,F₁,.brk,q⟩
  | cont=>exact ⟨K₁,_,l,o,p,F₁,.cont,q⟩
  | ret r=>exact ⟨K₁,_,l,o,p,F₁,.ret r,q⟩
 ·obtain ⟨e,cls,K₁,H,l,o,e1,x,F₁,ec,q⟩:=hq
  subst e1;subst ec
  refine x.note R.frs F₁.fr fun s₂ H₂ x₂ _ m₂ P₂=>?_
  have F₂:=x.frm x₂ F.live F₁ m₂ P₂
  refine x₂.flight fun s₃ x₃ m₃ P₃=>?_
  have F₃:=x₂.frm x₃ F.live F₂ m₃ P₃
  refine wpAny_handleBy_builtin hexc hnt hsub ?_
  obtain ⟨mg,mb,h1,h2,h3,h4⟩:=x₃.tr.top.ns
  obtain ⟨q1,q2⟩:=h4 tn _ hx
  refine Calls.Name_function_global F₃.kind hl (Calls.loadGlobal_builtin (F₃.glob▸h1) q1 (F₃.bi▸h2) q2 ⟨rfl,x₃.exc.type,?_⟩) hd
  rw[if_pos rfl]
  refine x₃.flight fun s₄ x₄ m₄ P₄=>?_
  have F₄:=x₃.frm x₄ F.live F₃ m₄ P₄
  refine wpAny_execs_cons (wpAny_Return_some (Calls.Constant_str ?_))
  have sub:∀ a∈K₁.hid,a∈(K₁.hide H₂).hid:=fun a ha=>List.mem_append_right _ ha
  have X₅:Tr T (K₁.hide H₂) o {s₄ with toks:=s₄.toks+1}:=(Post.tok x₄.tr _ (Nat.succ_pos _)).tr
  have X₆:Tr T ((K₁.hide H₂).bare K₁.hid) o {s₄ with toks:=s₄.toks+1}:=X₅.bare sub
  have F₅:Frm T (K₁.hide H₂) env l {s₄ with toks:=s₄.toks+1}:=F₄.post (Post.tok x₄.tr _ (Nat.succ_pos _))
  refine ⟨K₁,_,l,o,⟨X₆,x₄.pres.trans (PreS.tok _) fun a ha=>.inl ha,x₄.grows⟩,F₅.map (.bare sub) (fun b o e _=>⟨o,e,rfl⟩) F₅.out (Nat.le_refl _),.ret (.str _ _ (Nat.le_trans (Nat.le_of_ble_eq_true hm) (by decide)) x₄.tr.tk),q⟩
end
section
variable {T:TopT} {w:World} {n:Nat} {env:Env} {loc:List (Str×D)} {objs:List AO}
theorem Tr.hidset {K:Kt} {s:Shared} {a:Addr} {o:Obj} {g:Obj→Obj} (X:Tr T K objs s) (ha:a∈K.hid) (hl:T.N≤a) (ho:s.heap.get? a=some o) (hd:∀ es n,o.data≠.dict es n) :
  Tr T K objs {s with heap:=s.heap.update a g}∧Pres [a] s {s with heap:=s.heap.update a g}∧Mv K K s.heap (s.heap.update a g):=by
 have ne:∀ b o,b≠a→s.heap.get? b=some o→(s.heap.update a g).get? b=some o:=fun b o q e=>(Heap.get?_update_ne _ _ _ _ q).trans e
 have mv:Mv K K s.heap (s.heap.update a g):=⟨fun b o e hk hi=>⟨ne b o (fun q=>hk (by rw[q];exact List.mem_append_right _ ha)) e,hk⟩,fun _ _ h=>h⟩
 have z:(s.heap.update a g).objs.size=s.heap.objs.size:=Heap.size_update ..
 refine ⟨X.map (s':={s with heap:=s.heap.update a g}) rfl mv (fun b o e hb=>ne b o (fun q=>?_) e) (fun b hb=>by show b<(s.heap.update a _).objs.size;rw[z];exact X.live b (List.mem_append_right _ hb)) (Nat.le_of_eq z.symm) X.gens X.toks X.hd
   fun L hL d=>d.dat fun o' ho'=>⟨o',ne L o' (fun q=>?_) ho',rfl⟩,
  ⟨fun b o e hb=>ne b o (fun q=>hb (by rw[q];exact .head _)) e,Nat.le_of_eq z.symm,rfl,id⟩,mv⟩
 ·subst q;exact hb.elim (X.hd b ha) fun hb=>absurd hb (Nat.not_lt.mpr hl)
 ·subst q
  obtain ⟨o₁,es,n,e1,e2⟩:=d
  rw[ho] at e1;cases e1;exact hd es n e2
theorem listO_hard {xs:List Value} {n:Nat}:∀ es m,(listO xs n).data≠.dict es m:=fun es m q=>by cases q
theorem PostL.stillH {T:TopT} {W:List Addr} {K K':Kt} {objs':List AO} {s s':Shared} (p:PostL T W K s K' objs' s') (F:∀ a∈W,a∈K.hid):Still K s.heap s'.heap:=fun b o e hb hd =>
 p.pres.keep b o e (fun q=>(List.mem_append.mp q).elim (fun q=>hb (List.mem_append_right _ (F b q))) fun q=>hb (List.mem_append_left _ q)) (icy_hard hd)
theorem PostL.vrsH {T:TopT} {W:List Addr} {K K':Kt} {objs':List AO} {s s':Shared} {d:List D} {v:List Value} (p:PostL T W K s K' objs' s') (F:∀ a∈W,a∈K.hid) (h:VRs K s.heap d v):VRs K' s'.heap d v:=h.mono0 (p.stillH F) p.grows
inductive CStep (T:TopT) (W:List Addr) (K:Kt) (s:Shared) (d:D) (Inv:Nat→Kt→List AO→Shared→Prop) (j:Nat) (r:Option Value) (s':Shared):Prop
 | mk (v:Value) (K':Kt) (o':List AO) (e:r=some v) (P:PostL T W K s K' o' s') (rv:VR K' s'.heap d v) (i:Inv (j+1) K' o' s')
inductive CDone (T:TopT) (W:List Addr) (K:Kt) (s:Shared) (Fin:Kt→List AO→Shared→Prop) (r:Option Value) (s':Shared):Prop
 | mk (e:r=none) (K':Kt) (o':List AO) (P:PostL T W K s K' o' s') (f:Fin K' o' s')
theorem extend_loopH {A:Around} {W:List Addr} {S I:Addr} (hSW:S∉W) {res:Value} {ds:List D} (hn:ds.length≤100000) (Inv:Nat→Kt→List AO→Shared→Prop) (Fin:Kt→List AO→Shared→Prop) {R:Result→Shared→Prop}
  (step:∀ j K o s d,S∈K.hid→Tr T K o s→Inv j K o s→ds[j]?=some d→wpAny (model pw w) A.in1 (pyNext (.ref I)) (CStep T W K s d Inv j) noE s)
  (done:∀ K o s,S∈K.hid→Tr T K o s→Inv ds.length K o s→wpAny (model pw w) A.in1 (pyNext (.ref I)) (CDone T W K s Fin) noE s)
  (icyF:∀ j K o s,Inv j K o s→∀ a∈W,a∈K.hid)
  (stay:∀ j K o s h',S∈K.hid→Inv j K o s→Mv K K s.heap h'→(∀ b ob,b≠S→s.heap.get? b=some ob→h'.get? b=some ob)→Inv j K o {s with heap:=h'}) :
  ∀ (k j:Nat) (K:Kt) (o:List AO) (s:Shared) (xs:List Value) (m:Nat),ds.length - j=k→j≤ds.length→Tr T K o s→S∈K.hid→T.N≤S→s.heap.get? S=some (listO xs m)→VRs K s.heap (ds.take j) xs→Inv j K o s →
   (∀ s' K' o' xs' m',Tr T K' o' s'→PreS (S :: (W++adrs K)) s s'→Grows s K K'→s'.heap.get? S=some (listO xs' m')→VRs K' s'.heap ds xs'→Fin K' o' s'→R (.ok (.ret res)) s') →
   codeAny (model pw w) A (.builtin "list.extend.loop" ⟨[.ref S,.ref I,res],[]⟩) R s:=by
 intro k
 induction k with
 | zero =>
  intro j K o s xs m hk hj X hS hlow ho hv hi hR
  have:j=ds.length:=Nat.le_antisymm hj (Nat.le_of_sub_eq_zero hk)
  subst this
  refine codeAny_builtin F.entry_extend_loop ?_
  rw[Around.under_plainId F.plain_extend_loop _]
  show wpAny _ A.in1 (pyNext (.ref I) >>= _) _ _ s
  refine wpAny_bind (wX (done K o s hS X hi) fun r s' hq=>?_)
  obtain ⟨rfl,K',o',P,f⟩:=hq
  have hSa:S∉W++adrs K:=fun q=>(List.mem_append.mp q).elim hSW (X.hd S hS)
  refine wpAny_pure (hR s' K' o' xs m P.tr (P.pres.wider fun a h=>.tail _ h) P.grows (P.pres.keep S _ ho hSa (icy_hard rfl)) ?_ f)
  rw[List.take_length] at hv
  exact P.vrsH (icyF _ _ _ _ hi) hv
 | succ k ih =>
  intro j K o s xs m hk hj X hS hlow ho hv hi hR
  have hlt:j<ds.length:=Nat.lt_of_sub_eq_succ hk
  have hd:ds[j]?=some ds[j]:=List.getElem?_eq_getElem hlt
  refine codeAny_builtin F.entry_extend_loop ?_
  rw[Around.under_plainId F.plain_extend_loop _]
  show wpAny _ A.in1 (pyNext (.ref I) >>= _) _ _ s
  refine wpAny_bind (wX (step j K o s _ hS X hi hd) fun r s₁ hq=>?_)
  obtain ⟨v,K₁,o₁,rfl,P,rv,i₁⟩:=hq
  have hSa:S∉W++adrs K:=fun q=>(List.mem_append.mp q).elim hSW (X.hd S hS)
  have ho₁:s₁.heap.get? S=some (listO xs m):=P.pres.keep S _ ho hSa (icy_hard rfl)
  have hS₁:S∈K₁.hid:=by rw[P.grows.hid];exact hS
  have hlen:xs.length=j:=by rw[← hv.length,List.length_take];exact Nat.min_eq_left hj
  show wpAny _ A.in1 (updateSeq S (·.push v) >>= _) _ _ _
  obtain ⟨X₂,P₂,mv₂⟩:=P.tr.hidset (g:=Obj.mapSeq (·.push v)) hS₁ hlow ho₁ listO_hard
  refine wpAny_bind ?_
  have e2:(s₁.heap.update S (Obj.mapSeq (·.push v))).get? S=some (listO (xs++[v]) (Obj.mapSeq (·.push v) (listO xs m) |> fun o=>match o.data with | .seq _ n=>n | _=>0)):=by
   rw[Heap.get?_update_self _ ho₁ rfl];simp [Obj.mapSeq,listO]
  refine wpAny_updateSeq ho₁ rfl (wpAny_pure ⟨plainId_quiet F.plain_extend_loop _,ih (j+1) K₁ o₁ _ (xs++[v]) _ (by rw[Nat.sub_add_eq,hk];rfl) hlt X₂ hS₁ hlow e2 ?_ (stay _ _ _ _ _ hS₁ i₁ mv₂ fun b ob hb e=>(Heap.get?_update_ne _ _ _ _ hb).trans e) fun s' K' o' xs' m' X' P' G' e' v' f'=>?_⟩) (by
    rw[List.size_toArray,hlen];exact Nat.le_trans (Nat.le_trans hj hn) (by decide)) (by
    rw[Array.size_push,List.size_toArray,hlen];exact Nat.le_trans (Nat.le_trans hlt hn) (by decide))
  ·rw[show ds.take (j+1)=ds.take j++[ds[j]] from by rw[List.take_add_one,hd];rfl]
   exact ((P.vrsH (icyF _ _ _ _ hi) hv).map mv₂).app (.cons (rv.map mv₂) .nil)
  ·refine hR s' K' o' xs' m' X' ((P.pres.wider (W':=S :: (W++adrs K)) fun a h=>.tail _ h).trans ((P₂.wider (W':=S :: (W++adrs K₁)) fun a h=>by rw[List.mem_singleton.mp h];exact .head _).soft.trans P' fun a h=>.inl h) fun a h=>?_) (P.grows.trans G' (Nat.le_trans P.pres.size P₂.size)) e' v' f'
   rcases List.mem_cons.mp h with rfl | h
   ·exact .inl (.head _)
   ·rcases List.mem_append.mp h with h | h
    ·exact .inl (.tail _ (List.mem_append_left _ h))
    ·exact (P.grows.fresh a h).imp (fun q=>.tail _ (List.mem_append_right _ q)) id
end
section
variable {T:TopT} {w:World} {n:Nat} {env:Env} {loc:List (Str×D)} {objs:List AO}
theorem Room.in2 {A:Around} (R:Room T A (n+1)):Room T A.in1.in1 n:=⟨by have:=R.depth;show A.depth+n≤900;lia,by have:=R.units;show A.units+1+1+8 * n≤4000;lia,R.hnd,R.frs⟩
inductive StillI (T:TopT) (k:Nat) (c:Addr) (v:Value) (s:Shared):Prop
 | mk (K:Kt) (o:List AO) (at_:List (Str×D)) (X:Tr T K o s) (r:VR K s.heap (.obj k) v) (h:o[k]?=some (.inst c at_))
theorem iter_inst {A:Around} {s:Shared} {K:Kt} {k:Nat} {c f:Addr} {at_:List (Str×D)} {v g:Value} {Q:Value→Shared→Prop} (X:Tr T K objs s) (r:VR K s.heap (.obj k) v) (hk:objs[k]?=some (.inst c at_))
  (hs:findIn T.objs (.ref c) "__iter__"=some (some (.ref f))) (hf:typeIn T.objs (.ref f)=some (.type "function")) (hx:findIn T.objs (.ref c) "__next__"=some (some g))
  (h:wpAny (model pw w) A (call (.ref f) [v]) (fun u s'=>u=v∧StillI T k c v s'∧Q v s') noE s):wpAny (model pw w) A (pyIter v) Q noE s:=by
 obtain ⟨x,dx,sl,es,m,rfl,hK,e1,e2,e3,I⟩:=inst_at X r hk
 have Xf:=X.top.fin
 have fin:wpAny (model pw w) A (call (.ref f) [.ref x] >>= fun v=>pure (some v)) (fun r s'=>r=some (.ref x)∧StillI T k c (.ref x) s'∧Q (.ref x) s') noE s :=
  wpAny_bind (wE h fun u s' h'=>wpAny_pure ⟨by rw[h'.1],h'.2⟩)
 have one:∀ refuse:Sem Value,wpAny (model pw w) A (callSpecialIfBoundUnlessNone? (.ref x) "__iter__" refuse) (fun r s'=>r=some (.ref x)∧StillI T k c (.ref x) s'∧Q (.ref x) s') noE s:=by
  intro refuse
  simp only [callSpecialIfBoundUnlessNone?,bindSpecialIfBound?]
  refine wpAny_holding (wpAny_bind (wpAny_bind (wpAny_bind (I.type.here ((looks_findIn Xf hs).here ?_)))))
  refine wpAny_bind (wpAny_askSetting (wpAny_ite ?_))
  have fin2:wpAny (model pw w) A (if (Value.ref f==Value.none)=true then (refuse >>= fun v=>pure (some v)) else (call (.ref f) [.ref x] >>= fun v=>pure (some v))) (fun r s'=>r=some (.ref x)∧StillI T k c (.ref x) s'∧Q (.ref x) s') noE s:=by
   rw[if_neg (show ¬ ((Value.ref f==Value.none)=true) from Bool.false_ne_true)]
   exact fin
  split
  ·exact wpAny_bind ((bind_fn Xf _ hf).here (wpAny_pure (by exact fin2)))
  ·exact wpAny_tryCatch (wpAny_bind ((bind_fn Xf _ hf).here (wpAny_pure (by exact fin2))))
 unfold pyIter
 refine wpAny_bind (wpAny_bind (I.type.here ((looks_findIn Xf hs).here ?_)))
 show wpAny (model pw w) A (callSpecialIfBoundUnlessNone? (.ref x) "__iter__" _ >>= _) Q noE s
 refine wpAny_bind (wE (one _) fun r s' hr=>?_)
 obtain ⟨rfl,⟨K',o',at',X',r',hk'⟩,q⟩:=hr
 obtain ⟨x',dx',sl',es',m',ex,_,_,_,_,I'⟩:=inst_at X' r' hk'
 cases ex
 exact wpAny_bind (wpAny_bind (I'.type.here ((looks_findIn X'.top.fin hx).here (wpAny_pure q))))
inductive NxtO (T:TopT) (K:Kt) (s:Shared) (Qn:D→List AO→Prop) (Xn:XPost) (r:Option Value) (s':Shared):Prop
 | item (u:Value) (K':Kt) (o':List AO) (d:D) (e:r=some u) (p:Post T K s K' o' s') (rv:VR K' s'.heap d u) (q:Qn d o')
 | stop (e:r=none) (K':Kt) (o':List AO) (p:Post T K s K' o' s') (q:Xn "StopIteration" o')
theorem next_inst {A:Around} {s:Shared} {K:Kt} {k:Nat} {c f:Addr} {at_:List (Str×D)} {v:Value} {Qn:D→List AO→Prop} {Xn:XPost} (R:Room T A n) (X:Tr T K objs s) (r:VR K s.heap (.obj k) v) (hk:objs[k]?=some (.inst c at_))
  (hs:findIn T.objs (.ref c) "__next__"=some (some (.ref f))) (hf:typeIn T.objs (.ref f)=some (.type "function")) (hX:∀ cls o,Xn cls o→cls = "StopIteration")
  (h:XCodeX T w n (.ref f) [.obj k] [] [] objs Qn Xn) :
  wpAny (model pw w) A (pyNext v) (NxtO T K s Qn Xn) noE s:=by
 obtain ⟨x,dx,sl,es,m,rfl,hK,e1,e2,e3,I⟩:=inst_at X r hk
 unfold pyNext
 refine wpAny_bind (wpAny_attempt (special_fn X.top.fin I hs hf (wpAny_call (codeAny_mono (h A s K _ [] R X (.cons r .nil) .nil) fun r s' z=>?_))))
 rcases r with ev | fl
 ·obtain ⟨e,cls,K',H,o',rfl,x',q⟩:=z
  obtain rfl:=hX _ _ q
  refine wpAny_bind (wpAny_isInstance (T := "StopIteration") (b:=true) x'.exc.type isSubtype_stop ?_)
  rw[if_pos rfl]
  have sub:∀ a∈K'.hid,a∈(K'.hide H).hid:=fun a ha=>List.mem_append_right _ ha
  exact wpAny_pure (.stop rfl K' o' ⟨x'.tr.bare sub,x'.pres,x'.grows⟩ q)
 ·cases fl with
  | ret u =>
   obtain ⟨K',d,o',p,rv,q⟩:=z
   exact wpAny_pure (.item u K' o' d rfl p rv q)
  | _=>exact z.elim
theorem Mv.trans {K K' K'':Kt} {h h' h'':Heap} (m:Mv K K' h h') (m':Mv K' K'' h' h''):Mv K K'' h h'':=⟨fun b o e hb hi=>have q:=m.ice b o e hb hi;m'.ice b o q.1 q.2 hi,fun k p e=>m'.obs k p (m.obs k p e)⟩
inductive Touched (T:TopT) (K:Kt) (o:List AO) (S:Addr) (s s':Shared):Prop
 | mk (X:Tr T K o s') (P:Pres [S] s s') (mv:Mv K K s.heap s'.heap) (m:Nat) (g:s'.heap.get? S=some (listO [] m))
theorem touch {K:Kt} {s:Shared} {o:List AO} {S:Addr} {m:Nat} (X:Tr T K o s) (hS:S∈K.hid) (hlow:T.N≤S) (g:s.heap.get? S=some (listO [] m)) :
  Touched T K o S s {s with heap:=(s.heap.update S (Obj.mapSeq (·.push Value.none))).update S (Obj.mapSeq (·.pop))}:=by
 obtain ⟨X₄,P₄,m₄⟩:=X.hidset (g:=Obj.mapSeq (·.push Value.none)) hS hlow g (fun es n q=>by cases q)
 have g₄:=Heap.get?_update_self (Obj.mapSeq (·.push Value.none)) g rfl
 obtain ⟨X₅,P₅,m₅⟩:=X₄.hidset (g:=Obj.mapSeq (·.pop)) hS hlow g₄ (fun es n q=>by cases q)
 exact ⟨X₅,P₄.trans P₅ fun a h=>.inl h,m₄.trans m₅,_,Heap.get?_update_self (Obj.mapSeq (·.pop)) g₄ rfl⟩
theorem list_fill {A:Around} {s:Shared} {K:Kt} {S x k:Nat} {c f fi:Addr} {at_:List (Str×D)} {ds:List D} {m:Nat} {Inv:Nat→List AO→Prop} {Fn:List AO→Prop} {R':Result→Shared→Prop} (R:Room T A (n+1)) (X:Tr T K objs s) (r:VR K s.heap (.obj k) (.ref x)) (hk:objs[k]?=some (.inst c at_)) (hxS:S≠x)
  (hSh:S∈K.hid) (hlow:T.N≤S) (hS:s.heap.get? S=some (listO [] m)) (hn:ds.length≤100000)
  (hi:findIn T.objs (.ref c) "__iter__"=some (some (.ref fi))) (hfi:typeIn T.objs (.ref fi)=some (.type "function")) (hx:findIn T.objs (.ref c) "__next__"=some (some (.ref f))) (hf:typeIn T.objs (.ref f)=some (.type "function"))
  (hl:findIn T.objs (.ref c) "__len__"=some none) (hh:findIn T.objs (.ref c) "__length_hint__"=some none)
  (iter:XCall T w n (.ref fi) [.obj k] [] [] objs fun d o=>d=.obj k∧o=objs) (h0:Inv 0 objs)
  (next:∀ j o,Inv j o→(∃ at',o[k]?=some (.inst c at'))∧XCodeX T w n (.ref f) [.obj k] [] [] o (fun d o'=>ds[j]?=some d∧Inv (j+1) o') (fun cls o'=>cls = "StopIteration"∧j=ds.length∧Fn o'))
  (fin:∀ s' K' o' xs m,Tr T K' o' s'→PreS (S :: adrs K) s s'→Grows s K K'→s'.heap.get? S=some (listO xs m)→VRs K' s'.heap ds xs→Fn o'→R' (.ok (.ret .none)) s') :
  wpAny (model pw w) A.in1.in1 (Builtin.List.listExtendWith (.ref S) (.ref x) .none) (fun fin s'=>match fin with | .done f=>R' (.ok f) s' | .again c'=>c'.quiet=true∧codeAny (model pw w) A.in1 c' R' s') (fun e s'=>R' (.error e) s') s:=by
 obtain ⟨x',dx',sl',es',m',ex,_,_,_,_,I₂⟩:=inst_at X r hk
 cases ex
 unfold Builtin.List.listExtendWith
 refine wpAny_bind (I₂.type.here ?_)
 have h1:Builtin.List.listSameRef (.ref S) (.ref x)=false:=by simp [Builtin.List.listSameRef,hxS]
 have h2:(Value.ref c==Value.type "list")=false:=rfl
 have h3:(Value.ref c==Value.type "tuple")=false:=rfl
 simp only [h1,h2,h3,Bool.or_false,Bool.false_eq_true,if_false]
 refine wpAny_bind (wX (iter_inst X r hk hi hfi hx (wE (iter A.in1.in1 _ _ [_] [] R.in2 X (.cons r .nil) .nil) fun u s₃ hq=>?_) (Q:=fun u s₃=>∃ K₃,u=.ref x∧Post T K s K₃ objs s₃∧VR K₃ s₃.heap (.obj k) (.ref x))) fun u s₃ hq=>?_)
 ·obtain ⟨K₃,d,o₃,p,rv,rfl,rfl⟩:=hq
  have rx:=p.vr r
  obtain ⟨_,_,rfl,h1'⟩:=rv.inv
  obtain ⟨_,_,e0,h2'⟩:=rx.inv;cases e0
  rw[h1'] at h2'
  cases h2'
  exact ⟨rfl,⟨K₃,o₃,_,p.tr,.obj h1',hk⟩,K₃,rfl,p,.obj h1'⟩
 obtain ⟨K₃,rfl,p₃,r₃⟩:=hq
 obtain ⟨x',dx',sl',es',m',ex,_,_,_,_,I₃⟩:=inst_at p₃.tr r₃ hk
 cases ex
 have hS₃:S∈K₃.hid:=by rw[p₃.grows.hid];exact hSh
 have g₃:=p₃.pres.keep S _ hS (X.hd S hSh) (.inr fun es n q=>by cases q)
 refine wpAny_bind (wpAny_holding ?_)
 unfold Builtin.List.listLengthHint
 have sp:∀ (nm:Str),findIn T.objs (.ref c) nm=some none→Looks (model pw w) s₃.heap (specialOf (.ref x) nm) none:=fun nm e=>I₃.type.andThen (looks_findIn p₃.tr.top.fin e)
 refine wpAny_bind ((sp _ hl).here ?_)
 show wpAny _ A.in1.in1 (specialOf (Value.ref x) (Str.ofString "__length_hint__") >>= _) _ _ _
 refine wpAny_bind ((sp _ hh).here (wpAny_pure ?_))
 show wpAny _ A.in1.in1 (rule "list.extend.makes-room" >>= fun _=>Builtin.List.listTouch (.ref S) >>= fun _=>again (.builtin "list.extend.loop" ⟨[.ref S,.ref x,.none],[]⟩)) _ _ _
 refine wpAny_bind (wpAny_rule (wpAny_bind ?_))
 show wpAny _ A.in1.in1 (updateSeq S (·.push .none) >>= fun _=>updateSeq S (·.pop)) _ _ _
 refine wpAny_bind (wpAny_updateSeq g₃ rfl ?_)
 have t:=touch p₃.tr hS₃ hlow g₃
 refine wpAny_updateSeq (hz:=by seq_fits) (Heap.get?_update_self (Obj.mapSeq (·.push Value.none)) g₃ rfl) rfl (wpAny_pure ⟨plainId_quiet F.plain_extend_loop _,?_⟩)
 change Touched T K₃ objs S s₃ {heap:=_,gens:=s₃.gens,drawn:=s₃.drawn,toks:=s₃.toks,os:=s₃.os} at t
 generalize ({heap:=(s₃.heap.update S (Obj.mapSeq (·.push Value.none))).update S (Obj.mapSeq (·.pop)),gens:=s₃.gens,drawn:=s₃.drawn,toks:=s₃.toks,os:=s₃.os}:Shared)=s₅ at t ⊢
 obtain ⟨X₅,P₅,m₅,_,g₅⟩:=t
 refine extend_loopH (T:=T) (W:=[]) (fun q=>by cases q) (ds:=ds) hn (fun j K' o s'=>Inv j o∧VR K' s'.heap (.obj k) (.ref x)) (fun K' o s'=>Fn o) (fun j K' o s' d hSK X' i hd=>?_) (fun K' o s' hSK X' i=>?_) (fun _ _ _ _ _ _ q=>by cases q) (fun j K' o s' h' hSK i mv ke=>⟨i.1,i.2.map mv⟩) ds.length 0 K₃ objs _ [] _ rfl (Nat.zero_le _) X₅ hS₃ hlow g₅ .nil ⟨h0,r₃.map m₅⟩ fun s' K' o' xs' m' X' P' G' e' v' f'=>?_
 ·obtain ⟨⟨at',hk'⟩,hc⟩:=next j o i.1
  refine wE (next_inst R.in2 X' i.2 hk' hx hf (fun cls o q=>q.1) hc) fun r s₂ hq=>?_
  rcases hq with ⟨u,K₂,o₂,d',rfl,p,rv,q1,q2⟩ | ⟨_,K₂,o₂,p,_,q2,_⟩
  ·rw[hd] at q1;cases q1
   exact ⟨u,K₂,o₂,rfl,p.toL,rv,q2,p.vr i.2⟩
  ·exact absurd (List.getElem?_eq_some_iff.mp hd).1 (by rw[q2];exact Nat.lt_irrefl _)
 ·obtain ⟨⟨at',hk'⟩,hc⟩:=next ds.length o i.1
  refine wE (next_inst R.in2 X' i.2 hk' hx hf (fun cls o q=>q.1) hc) fun r s₂ hq=>?_
  rcases hq with ⟨u,K₂,o₂,d',rfl,p,rv,q1,q2⟩ | ⟨rfl,K₂,o₂,p,_,_,q3⟩
  ·rw[List.getElem?_eq_none (Nat.le_refl _)] at q1;cases q1
  ·exact ⟨rfl,K₂,o₂,p.toL,q3⟩
 ·refine fin s' K' o' xs' m' X' ?_ (p₃.grows.trans G' (Nat.le_trans p₃.pres.size P₅.size)) e' v' f'
  refine ((p₃.pres.wider (W':=S :: adrs K) fun a h=>.tail _ h).trans P₅.soft fun a h=>.inl (by rw[List.mem_singleton.mp h];exact .head _)).trans P' fun a h=>?_
  rcases List.mem_cons.mp h with rfl | h
  ·exact .inl (.head _)
  ·exact (p₃.grows.fresh a h).imp (.tail _) id
theorem c_list_inst {k:Nat} {c f fi:Addr} {at_:List (Str×D)} {ds:List D} {Inv:Nat→List AO→Prop} {Fn:List AO→Prop} {Q:D→List AO→Prop} (hk:objs[k]?=some (.inst c at_)) (hn:ds.length≤100000)
  (hi:findIn T.objs (.ref c) "__iter__"=some (some (.ref fi))) (hfi:typeIn T.objs (.ref fi)=some (.type "function")) (hx:findIn T.objs (.ref c) "__next__"=some (some (.ref f))) (hf:typeIn T.objs (.ref f)=some (.type "function"))
  (hl:findIn T.objs (.ref c) "__len__"=some none) (hh:findIn T.objs (.ref c) "__length_hint__"=some none)
  (iter:XCall T w n (.ref fi) [.obj k] [] [] objs fun d o=>d=.obj k∧o=objs) (h0:Inv 0 objs)
  (next:∀ j o,Inv j o→(∃ at',o[k]?=some (.inst c at'))∧XCodeX T w n (.ref f) [.obj k] [] [] o (fun d o'=>ds[j]?=some d∧Inv (j+1) o') (fun cls o'=>cls = "StopIteration"∧j=ds.length∧Fn o'))
  (hQ:∀ o,Fn o→Q (.list ds) o):XCall T w (n+1) (.type "list") [.obj k] [] [] objs Q:=fun A s K vs ks R X r rk=>by
 obtain ⟨_,rfl,rfl,r1⟩:=args1 r rk
 rename_i u
 obtain ⟨x,dx,sl,es,m,rfl,hK,e1,e2,e3,I⟩:=inst_at X r1 hk
 refine callType_codes (Q₁:=fun obj s₁=>obj=.ref s.heap.objs.size∧s₁={s with heap:=s.heap.push {cls:=.type "list",data:=.seq #[]}}) F.called_list (F.typeCall_list_1 _) F.entry_list_init (code_list_new _ ⟨rfl,rfl⟩) fun obj s₁ h₁=>?_
 obtain ⟨rfl,h₁⟩:=h₁
 have hS:s₁.heap.get? s.heap.objs.size=some (listO [] 0):=by rw[h₁];exact Heap.get?_push_size _ rfl
 have hz:s₁.heap.objs.size=s.heap.objs.size+1:=by rw[h₁];exact Heap.size_push ..
 have P₀:Pres [] s s₁:=⟨fun b o e _=>by rw[h₁];exact Heap.get?_push_of_some _ e,by rw[hz];exact Nat.le_succ _,by rw[h₁],by rw[h₁];exact id⟩
 have X₁:Tr T (K.hide [s.heap.objs.size]) objs s₁:=X.hide P₀ (fun a ha=>by rw[List.mem_singleton.mp ha,hz];exact ⟨Nat.le_refl _,Nat.lt_succ_self _⟩) (by rw[h₁];exact X.toks)
 have m₁:Mv K (K.hide [s.heap.objs.size]) s.heap s₁.heap:=.hide P₀ fun a ha=>by rw[List.mem_singleton.mp ha];exact Nat.le_refl _
 clear h₁ hz
 generalize hSe:s.heap.objs.size=S at *
 refine ⟨⟨_,hS,rfl⟩,F.args_list_init_2 _ _,?_⟩
 have hlow:T.N≤S:=hSe▸X.top.size
 have hxS:S≠x:=fun e=>Nat.lt_irrefl _ (e▸hSe▸Heap.lt_size I.at_)
 show wpAny _ A.in1.in1 (do let old ← Builtin.List.listItems (.ref S);Builtin.List.listUpdate (.ref S) (fun _=>#[]);letGo old.toList.reverse;Builtin.List.listExtendWith (.ref S) (.ref x) .none) _ _ _
 refine wpAny_bind ?_
 unfold Builtin.List.listItems
 refine wpAny_bind (wpAny_seqItems hS rfl (wpAny_pure ?_))
 show wpAny _ A.in1.in1 (updateSeq S (fun _=>#[]) >>= fun _=>letGo (#[]:Array Value).toList.reverse >>= fun _=>Builtin.List.listExtendWith (.ref S) (.ref x) .none) _ _ _
 refine wpAny_bind (wpAny_updateSeq hS rfl ?_)
 obtain ⟨X₂,P₂,m₂⟩:=X₁.hidset (g:=Obj.mapSeq (fun _=>(#[]:Array Value))) (.head _) hlow hS listO_hard
 refine wpAny_bind (wpAny_letGo (list_fill R X₂ ((r1.map m₁).map m₂) hk hxS (.head _) hlow (Heap.get?_update_self (Obj.mapSeq (fun _=>(#[]:Array Value))) hS rfl) hn hi hfi hx hf hl hh iter h0 next fun s' K' o' xs' m' X' P' G' e' v' f'=>⟨rfl,?_⟩))
 have sub:∀ a∈K.hid,a∈K'.hid:=fun a ha=>by rw[G'.hid];exact .tail _ ha
 refine ⟨K'.bare K.hid,.list ds,o',⟨X'.bare sub,?_,?_⟩,.list e' (fun q=>?_) hn (v'.map (.bare sub)),hQ _ f'⟩
 ·have a1:PreS [S] s _:=((P₀.wider (W':=[S]) fun a h=>by cases h).trans P₂ fun a h=>.inl h).soft
  exact pres_drop (H:=[S]) ((a1.wider (W':=S :: adrs K) fun a h=>by rw[List.mem_singleton.mp h];exact .head _).trans P' fun a h=>.inl h) fun a h=>by rw[List.mem_singleton.mp h,hSe];exact Nat.le_refl _
 ·exact ⟨G'.ext,fun a ha=>(G'.fresh a ha).imp id fun q=>Nat.le_trans (Nat.le_trans P₀.size P₂.size) q,rfl⟩
 ·rcases List.mem_append.mp q with q | q
  ·exact X'.hd S (by rw[G'.hid];exact .head _) q
  ·exact absurd (X.live S (List.mem_append_right _ q)) (hSe▸Nat.lt_irrefl _)
end
end Mine.Internal
end
section
open PySem PySem.W PyProof.Rows PySem.SeqAt
namespace Mine.Internal
inductive Cmp:Nat→D→Prop
 | int {k:Nat} (i:Int):Cmp k (.int i)
 | str {k:Nat} (s:Str):Cmp k (.str s)
 | bool {k:Nat} (b:Bool):Cmp k (.bool b)
 | list {k:Nat} {l:List D} (h:∀ d∈l,Cmp k d):Cmp (k+1) (.list l)
theorem cmp_strs {k:Nat} (l:List Str):∀ d∈strD l,Cmp k d:=fun d hd=>by
 obtain ⟨s,_,rfl⟩:=List.mem_map.mp hd
 exact .str s
theorem room_cline {T:TopT} {A:Around} {n:Nat} (R:Room T A n) {k:Nat} (hk:k≤100):A.units+k<cLine:=by
 have:=R.units
 show A.units+k<9900
 lia
section
variable {K:Kt} {s:Shared}
theorem eq_same:∀ (k:Nat) {A:Around} {d:D} {u v:Value},Cmp k d→A.units+k<cLine→VR K s.heap d u→VR K s.heap d v→EqAt A s u v true
 | k,A,_,_,_,.int i,_,ru,rv=>by obtain ⟨_,rfl,_⟩:=ru.inv;obtain ⟨_,rfl,_⟩:=rv.inv;rw[← beq_self_eq_true i];exact EqAt.int_int _ _ _ _
 | k,A,_,_,_,.str x,_,ru,rv=>by obtain ⟨_,rfl,_⟩:=ru.inv;obtain ⟨_,rfl,_⟩:=rv.inv;rw[← beq_self_eq_true x];exact EqAt.str_str _ _ _ _
 | k,A,_,_,_,.bool x,_,ru,rv=>by obtain rfl:=ru.inv;obtain rfl:=rv.inv;exact EqAt.same _
 | k+1,A,_,_,_,.list h,hu,ru,rv=>by
  obtain ⟨a,xs,n,rfl,ha,_,_,hl⟩:=ru.inv
  obtain ⟨b,ys,n',rfl,hb,_,_,hl'⟩:=rv.inv
  by_cases e:a=b
  ·subst e;exact EqAt.same _
  ·refine EqAt.of_refs e ?_
   have z:xs.toArray.size=ys.toArray.size:=by rw[List.size_toArray,List.size_toArray,← hl.length,← hl'.length]
   have:=RcAt.lists (A:=A) (e:=fun _=>true) (listO_is ha) (listO_is hb) z (by lia) fun j h1 h2=>(by
    have h1':j<xs.length:=by simpa using h1
    have hd:=hl.length
    obtain ⟨d,hdj⟩:∃ d,_[j]?=some d:=⟨_,List.getElem?_eq_getElem (by rw[hd];exact h1')⟩
    obtain ⟨x,hx,rx⟩:=hl.get hdj
    obtain ⟨y,hy,ry⟩:=hl'.get hdj
    have ex:xs.toArray[j]=x:=by
     have:=(List.getElem?_eq_some_iff.mp hx).2;simpa using this
    have ey:ys.toArray[j]=y:=by
     have:=(List.getElem?_eq_some_iff.mp hy).2;simpa using this
    rw[ex,ey]
    exact eq_same k (A:=A.in1) (h d (List.mem_of_getElem? hdj)) (by show A.units+1+k<cLine;lia) rx ry)
   have al:((List.range xs.toArray.size).all fun _=>true)=true:=List.all_eq_true.mpr fun _ _=>rfl
   rw[al] at this
   exact this
theorem range_all {a b:List Str} (h:a.length=b.length):((List.range a.length).all fun j=>a.getD j Str.empty==b.getD j Str.empty)=decide (a=b):=by
 by_cases e:a=b
 ·subst e
  rw[decide_eq_true rfl]
  exact List.all_eq_true.mpr fun j _=>beq_self_eq_true _
 ·rw[decide_eq_false e]
  refine Bool.eq_false_iff.mpr fun q=>e (List.ext_getElem h fun j h1 h2=>?_)
  have:=List.all_eq_true.mp q j (List.mem_range.mpr h1)
  rw[List.getD_eq_getElem?_getD,List.getD_eq_getElem?_getD,List.getElem?_eq_getElem h1,List.getElem?_eq_getElem h2] at this
  exact beq_iff_eq.mp this
theorem strs_at {a:List Str} {xs:List Value} {j:Nat} (hl:VRs K s.heap (strD a) xs) (h:j<xs.length):∃ t,xs[j]=.str (a.getD j Str.empty) t:=by
 have hlen:a.length=xs.length:=by rw[← hl.length];unfold strD;rw[List.length_map]
 have hd:(strD a)[j]?=some (.str (a.getD j Str.empty)):=by
  unfold strD
  rw[List.getElem?_map,List.getElem?_eq_getElem (by lia),List.getD_eq_getElem?_getD,List.getElem?_eq_getElem (by lia)];rfl
 obtain ⟨x,hx,rx⟩:=hl.get hd
 have:=(List.getElem?_eq_some_iff.mp hx).2
 rw[this]
 obtain ⟨_,rfl,_⟩:=rx.inv
 exact ⟨_,rfl⟩
end
section
variable {T:TopT} {w:World} {n:Nat} {objs:List AO} {Q:D→List AO→Prop}
theorem el_strs {K:Kt} {s:Shared} {a b:List Str} {xs ys:List Value} (A:Around) (hl:VRs K s.heap (strD a) xs) (hl':VRs K s.heap (strD b) ys):∀ j (h1:j<xs.toArray.size) (h2:j<ys.toArray.size),EqAt A s xs.toArray[j] ys.toArray[j] (a.getD j Str.empty==b.getD j Str.empty):=fun j h1 h2=>by
 obtain ⟨t,e1⟩:=strs_at hl (j:=j) (by simpa using h1)
 obtain ⟨t',e2⟩:=strs_at hl' (j:=j) (by simpa using h2)
 rw[show xs.toArray[j]=_ from e1,show ys.toArray[j]=_ from e2]
 exact EqAt.str_str _ _ _ _
theorem o_eq_strs {da db:D} {a b:List Str} (ha:asL objs da=some (strD a)) (hb:asL objs db=some (strD b)) (h:Q (.bool (decide (a=b))) objs):Op2 T w n (compareOp .Eq) da db objs Q:=fun A s K u v R X ru rv=>by
 obtain ⟨x,xs,m,rfl,hx,rx,_⟩:=asL_at X ru ha
 obtain ⟨y,ys,m',rfl,hy,ry,_⟩:=asL_at X rv hb
 have lx:a.length=xs.length:=by rw[← rx.length];unfold strD;rw[List.length_map]
 have ly:b.length=ys.length:=by rw[← ry.length];unfold strD;rw[List.length_map]
 by_cases e:a.length=b.length
 ·refine eq_listAt (e:=fun j=>a.getD j Str.empty==b.getD j Str.empty) (listO_is hx) (listO_is hy) (by simp;lia) (room_cline R (k:=0) (by lia)) (el_strs _ rx ry) ?_
  rw[show xs.toArray.size=a.length by simp;lia,range_all e]
  exact ⟨K,_,objs,.refl X,.bool _,h⟩
 ·refine eq_list_lengthsAt (listO_is hx) (listO_is hy) (by rw[bne_iff_ne];simp;lia) (room_cline R (k:=0) (by lia)) ?_
  rw[decide_eq_false (fun q=>e (by rw[q]))] at h
  exact ⟨K,_,objs,.refl X,.bool _,h⟩
theorem o_ne_strs {da db:D} {a b:List Str} (ha:asL objs da=some (strD a)) (hb:asL objs db=some (strD b)) (h:Q (.bool (!decide (a=b))) objs):Op2 T w n (compareOp .NotEq) da db objs Q:=fun A s K u v R X ru rv=>by
 obtain ⟨x,xs,m,rfl,hx,rx,_⟩:=asL_at X ru ha
 obtain ⟨y,ys,m',rfl,hy,ry,_⟩:=asL_at X rv hb
 have lx:a.length=xs.length:=by rw[← rx.length];unfold strD;rw[List.length_map]
 have ly:b.length=ys.length:=by rw[← ry.length];unfold strD;rw[List.length_map]
 have ne:∀ {k:Bool},RcNeAt A s (.ref x) (.ref y) k→Q (.bool k) objs→wpAny (model pw w) A (compareOp .NotEq (.ref x) (.ref y)) (OutE T K s Q) noE s:=fun hk q=>hk pw w _ _ ⟨K,_,objs,.refl X,.bool _,q⟩
 by_cases e:a.length=b.length
 ·refine ne (RcNeAt.lists (e:=fun j=>a.getD j Str.empty==b.getD j Str.empty) (listO_is hx) (listO_is hy) (by simp;lia) (room_cline R (k:=0) (by lia)) (el_strs _ rx ry)) ?_
  rw[show xs.toArray.size=a.length by simp;lia,range_all e]
  exact h
 ·refine ne (RcNeAt.lists_lengths (listO_is hx) (listO_is hy) (by rw[bne_iff_ne];simp;lia) (room_cline R (k:=0) (by lia))) ?_
  rw[decide_eq_false (fun q=>e (by rw[q]))] at h
  exact h
theorem o_eq_same {da db:D} {l:List D} {k:Nat} (ha:asL objs da=some l) (hb:asL objs db=some l) (hk:∀ d∈l,Cmp k d) (hz:k≤50) (h:Q (.bool true) objs):Op2 T w n (compareOp .Eq) da db objs Q:=fun A s K u v R X ru rv=>by
 obtain ⟨x,xs,m,rfl,hx,rx,_⟩:=asL_at X ru ha
 obtain ⟨y,ys,m',rfl,hy,ry,_⟩:=asL_at X rv hb
 have lx:=rx.length
 have ly:=ry.length
 refine eq_listAt (e:=fun _=>true) (listO_is hx) (listO_is hy) (by simp;lia) (room_cline R (k:=0) (by lia)) (fun j h1 h2=>?_) ?_
 ·have h1':j<xs.length:=by simpa using h1
  obtain ⟨d,hdj⟩:∃ d,l[j]?=some d:=⟨_,List.getElem?_eq_getElem (by rw[lx];exact h1')⟩
  obtain ⟨x,hx,rx⟩:=rx.get hdj
  obtain ⟨y,hy,ry⟩:=ry.get hdj
  have ex:xs.toArray[j]=x:=by
   have:=(List.getElem?_eq_some_iff.mp hx).2;simpa using this
  have ey:ys.toArray[j]=y:=by
   have:=(List.getElem?_eq_some_iff.mp hy).2;simpa using this
  rw[ex,ey]
  exact eq_same k (A:=A.in1) (hk d (List.mem_of_getElem? hdj)) (by have:=room_cline R (k:=k+1) (by lia);show A.units+1+k<cLine;lia) rx ry
 ·have al:((List.range xs.toArray.size).all fun _=>true)=true:=List.all_eq_true.mpr fun _ _=>rfl
  rw[al]
  exact ⟨K,_,objs,.refl X,.bool _,h⟩
theorem o_ne_same {da db:D} {l:List D} {k:Nat} (ha:asL objs da=some l) (hb:asL objs db=some l) (hk:∀ d∈l,Cmp k d) (hz:k≤50) (h:Q (.bool false) objs):Op2 T w n (compareOp .NotEq) da db objs Q:=fun A s K u v R X ru rv=>by
 obtain ⟨x,xs,m,rfl,hx,rx,_⟩:=asL_at X ru ha
 obtain ⟨y,ys,m',rfl,hy,ry,_⟩:=asL_at X rv hb
 have lx:=rx.length
 have ly:=ry.length
 have:=RcNeAt.lists (A:=A) (e:=fun _=>true) (listO_is hx) (listO_is hy) (by simp;lia) (room_cline R (k:=0) (by lia)) (fun j h1 h2=>(by
  have h1':j<xs.length:=by simpa using h1
  obtain ⟨d,hdj⟩:∃ d,l[j]?=some d:=⟨_,List.getElem?_eq_getElem (by rw[lx];exact h1')⟩
  obtain ⟨x,hx,rx⟩:=rx.get hdj
  obtain ⟨y,hy,ry⟩:=ry.get hdj
  have ex:xs.toArray[j]=x:=by
   have:=(List.getElem?_eq_some_iff.mp hx).2;simpa using this
  have ey:ys.toArray[j]=y:=by
   have:=(List.getElem?_eq_some_iff.mp hy).2;simpa using this
  rw[ex,ey]
  exact eq_same k (A:=A.in1) (hk d (List.mem_of_getElem? hdj)) (by have:=room_cline R (k:=k+1) (by lia);show A.units+1+k<cLine;lia) rx ry))
 have al:(!((List.range xs.toArray.size).all fun _=>true))=false:=by rw[List.all_eq_true.mpr fun _ _=>rfl];rfl
 rw[al] at this
 exact this pw w _ _ ⟨K,_,objs,.refl X,.bool _,h⟩
theorem o_eq_nil {da db:D} {l:List D} (ha:asL objs da=some l) (hb:asL objs db=some []) (h:Q (.bool l.isEmpty) objs):Op2 T w n (compareOp .Eq) da db objs Q:=fun A s K u v R X ru rv=>by
 cases l with
 | nil=>exact o_eq_same (T:=T) (n:=n) (k:=0) ha hb (fun d hd=>by cases hd) (by lia) h A s K u v R X ru rv
 | cons d l =>
  obtain ⟨x,xs,m,rfl,hx,rx,_⟩:=asL_at X ru ha
  obtain ⟨y,ys,m',rfl,hy,ry,_⟩:=asL_at X rv hb
  have lx:=rx.length
  have ly:=ry.length
  refine eq_list_lengthsAt (listO_is hx) (listO_is hy) (by rw[bne_iff_ne];simp at lx ly ⊢;lia) (room_cline R (k:=0) (by lia)) ?_
  exact ⟨K,_,objs,.refl X,.bool _,h⟩
theorem o_nin_ints {db:D} {i:Int} {l:List Int} (hb:asL objs db=some (l.map .int)) (h:Q (.bool (!decide (i∈l))) objs):Op2 T w n (compareOp .NotIn) (.int i) db objs Q:=fun A s K u v R X ru rv=>by
 obtain ⟨_,rfl,_⟩:=ru.inv
 obtain ⟨y,ys,m',rfl,hy,ry,_⟩:=asL_at X rv hb
 rename_i t _
 have at_:∀ v∈ys,∃ j t,v=.int j t∧j∈l:=fun v hv=>by
  obtain ⟨k,hk⟩:=List.getElem?_of_mem hv
  have hlen:=ry.length
  rw[List.length_map] at hlen
  have hkl:=(List.getElem?_eq_some_iff.mp hk).1
  have hd:(l.map D.int)[k]?=some (.int l[k]):=by rw[List.getElem?_map,List.getElem?_eq_getElem (by lia)];rfl
  obtain ⟨x,hx,rx⟩:=ry.get hd
  rw[hk] at hx;cases hx
  obtain ⟨_,rfl,_⟩:=rx.inv
  exact ⟨_,_,rfl,List.getElem_mem _⟩
 have back:∀ j∈l,∃ t,Value.int j t∈ys:=fun j hj=>by
  obtain ⟨k,hk⟩:=List.getElem?_of_mem hj
  have hd:(l.map D.int)[k]?=some (.int j):=by rw[List.getElem?_map,hk];rfl
  obtain ⟨x,hx,rx⟩:=ry.get hd
  obtain ⟨_,rfl,_⟩:=rx.inv
  exact ⟨_,List.mem_of_getElem? hx⟩
 let e:Value→Bool:=fun v=>match v with | .int j _=>j==i | _=>false
 refine notIn_listAt e (listO_is hy) (fun v hv=>?_) ?_
 ·obtain ⟨j,t',rfl,_⟩:=at_ v (by simpa using hv)
  exact EqAt.int_int _ _ _ _
 ·have:ys.toArray.any e=decide (i∈l):=by
   rw[← Array.any_toList]
   show ys.any e=_
   by_cases q:i∈l
   ·rw[decide_eq_true q]
    obtain ⟨t,ht⟩:=back i q
    exact List.any_eq_true.mpr ⟨_,ht,beq_self_eq_true i⟩
   ·rw[decide_eq_false q]
    refine Bool.eq_false_iff.mpr fun z=>q ?_
    obtain ⟨v,hv,hz⟩:=List.any_eq_true.mp z
    obtain ⟨j,t',rfl,hj⟩:=at_ v hv
    have:j=i:=beq_iff_eq.mp hz
    rw[← this];exact hj
  rw[this]
  exact ⟨K,_,objs,.refl X,.bool _,h⟩
theorem o_in_tstrs {x:Str} {l:List Str} (h:Q (.bool (l.any (·==x))) objs):Op2 T w n (compareOp .In) (.str x) (.tup (strD l)) objs Q:=fun A s K u v R X ru rv=>by
 obtain ⟨_,rfl,_⟩:=ru.inv
 obtain ⟨_,_,_,rfl,ha,hk,hn,hl⟩:=rv.inv
 rename_i t _ a xs m
 obtain ⟨y,rfl,rfl,hy⟩:=strs_vals hl
 refine in_tuple_strs (tupO_is ha) (ys:=y.map (·.1)) ?_ ⟨K,_,objs,.refl X,.bool _,h⟩
 show StrsAre (strValues y) (y.map (·.1))
 clear rv hl ha hk hn hy h
 induction y with
 | nil=>exact .nil
 | cons p r ih=>exact .cons _ _ ih
end
end Mine.Internal
end
section
open PySem PySem.W PyProof.Rows
namespace Mine.Internal
namespace DQ
theorem mro:mroOf (.type "collections.deque")=pure [.type "collections.deque",.type "object"]:=by rw[mroOf_type];kernel_rfl
theorem lnew:typeLookup (.type "collections.deque") "__new__"=pure (some (.builtin "collections.deque.__new__")):=by rw[typeLookup_type,builtinLookup_eq_fast];kernel_rfl
theorem slot_init:Slot "collections.deque" "__init__" "collections.deque.__init__":=.of (owner := "collections.deque") (n := "__init__") (by rw[typeLookup_type,builtinLookup_eq_fast];kernel_rfl) (by decide +kernel) (by decide +kernel) (by decide +kernel)
  (by first | exact .inl (by decide +kernel) | exact .inr (by decide +kernel)) (by rw[isSubtype_type];kernel_rfl)
theorem called:TypeCalled "collections.deque" "collections.deque.__new__" "collections.deque.__init__" :=
 ⟨by decide +kernel,by decide +kernel,⟨_,_,mro⟩,madeBy_type mro lnew (by decide +kernel),by decide +kernel,by rw[isSubtype_type];kernel_rfl,slot_init⟩
theorem typeCall:checkTypeCall "collections.deque" ⟨[],[]⟩=pure ():=by kernel_rfl
theorem newCall:checkBuiltinCall "collections.deque.__new__" ⟨[.type "collections.deque"],[]⟩=pure ():=by rw[PySem.W.Fast.te10254737850608025244];kernel_rfl
theorem entry_new:entryFor table "collections.deque.__new__"=some Builtin.«collections.deque.__new__»:=entryFor_of_tree (by kernel_rfl)
theorem entry_init:entryFor table "collections.deque.__init__"=some Builtin.«collections.deque.__init__»:=entryFor_of_tree (by kernel_rfl)
theorem plain_new:plainId "collections.deque.__new__"=true:=by decide +kernel
theorem args_init (a:Value):argsOk "collections.deque.__init__" ⟨[a],[]⟩:=by unfold argsOk;kernel_rfl
theorem sub_self:isSubtype (.type "collections.deque") (.type "collections.deque")=pure true:=by rw[isSubtype_type];kernel_rfl
theorem noDict:typeHasDict (.type "collections.deque")=false:=by kernel_rfl
end DQ
section
variable {prog:Program} {w:World} {A:Around} {E:Value→Shared→Prop} {s:Shared}
noncomputable abbrev dqO (vs:Array Value):Obj:={cls:=.type "collections.deque",data:=.fields vs}
theorem code_deque_new {Q₁:Value→Shared→Prop} (h:Q₁ (.ref s.heap.objs.size) {s with heap:=s.heap.push (dqO #[.none,rawInt 0])}) :
  codeAny (model prog w) A (.call (.builtin "collections.deque.__new__") ⟨[.type "collections.deque"],[]⟩) (wants Q₁ E) s:=by
 refine codeAny_call_builtin DQ.plain_new DQ.entry_new (wpAny_of_eq DQ.newCall ?_)
 have hsub:=DQ.sub_self
 obtain ⟨hp,g,d,tk,os⟩:=s
 wp_walk
 refine wpAny_of_eq hsub ?_
 rw[if_neg (by decide)]
 dsimp only
 refine wpAny_pure ?_
 dsimp only
 unfold Builtin.Deque.new
 rw[if_neg (by decide)]
 refine wpAny_bind ?_
 show wpAny _ _ (if typeHasDict (Value.type "collections.deque")=true then _ else _) _ _ _
 rw[if_neg (by rw[DQ.noDict];decide)]
 refine wpAny_bind (wpAny_pure ?_)
 simp only [newObj]
 refine wpAny_bind (wpAny_alloc (wpAny_pure ?_))
 exact wpAny_pure h
theorem deque_init {a:Addr} {vs:Array Value} {P:PySem.Fin→Shared→Prop} (ha:s.heap.get? a=some (dqO vs)) (hz:vs.size=2) (h:P (.done (.ret .none)) {s with heap:=s.heap.update a (Obj.mapFields (·.setIfInBounds 0 .none))}) :
  wpAny (model prog w) A (Builtin.«collections.deque.__init__» ⟨[.ref a],[]⟩) P E s:=by
 show wpAny _ A (do
  setField (.ref a) 0 .none
  Builtin.Deque.clear (.ref a)
  ret .none) P E s
 refine wpAny_bind (wpAny_setField ha rfl (by lia) ?_)
 have ha':=Heap.get?_update_self (Obj.mapFields (·.setIfInBounds 0 Value.none)) ha rfl
 unfold Builtin.Deque.clear Builtin.Deque.items
 refine wpAny_bind (wpAny_bind (wpAny_bind (wpAny_fieldsOf ha' rfl (wpAny_pure ?_))))
 rw[if_neg (by simp [hz])]
 exact wpAny_pure (wpAny_pure h)
theorem call_deque {Q:Value→Shared→Prop} (h:∀ (a:Addr) (h':Heap) (vs:Array Value),(∀ b o,s.heap.get? b=some o→h'.get? b=some o)→s.heap.objs.size=a→h'.objs.size=a+1→h'.get? a=some (dqO vs)→vs.size=2→Q (.ref a) {s with heap:=h'}) :
  wpAny (model prog w) A (call (.type "collections.deque") []) Q E s:=by
 refine callType_codes (Q₁:=fun obj s₁=>obj=.ref s.heap.objs.size∧s₁={s with heap:=s.heap.push (dqO #[.none,rawInt 0])}) DQ.called DQ.typeCall DQ.entry_init (code_deque_new ⟨rfl,rfl⟩) fun obj s₁ h₁=>?_
 obtain ⟨rfl,rfl⟩:=h₁
 have hS:(s.heap.push (dqO #[.none,rawInt 0])).get? s.heap.objs.size=some (dqO #[.none,rawInt 0]):=Heap.get?_push_size _ rfl
 refine ⟨⟨_,hS,rfl⟩,DQ.args_init _,deque_init hS rfl ⟨rfl,h _ _ (#[Value.none,rawInt 0].setIfInBounds 0 .none) (fun b o e=>?_) rfl ?_ ?_ (by simp)⟩⟩
 ·exact (Heap.get?_update_ne _ _ _ _ (Nat.ne_of_lt (Heap.lt_size e))).trans (Heap.get?_push_of_some _ e)
 ·rw[Heap.size_update,Heap.size_push]
 ·rw[Heap.get?_update_self _ hS rfl];rfl
end
section
variable {T:TopT} {w:World} {n:Nat} {env:Env} {loc:List (Str×D)} {objs:List AO} {Q:D→List AO→Prop}
theorem c_deque (h:Q (.emp "collections.deque") objs):XCall T w n (.type "collections.deque") [] [] [] objs Q:=fun A s K vs ks R X r rk=>by
 obtain rfl:=rk.inv;obtain rfl:=r.inv
 refine call_deque fun a h' vs hk ha hz hg hv=>?_
 have P:Post T K s K objs {s with heap:=h'}:=.keeps X hk (by show _≤h'.objs.size;rw[hz,ha];exact Nat.le_succ _) id rfl X.toks
 refine ⟨K,_,objs,P,.emp hg ⟨rfl,rfl,.inr ⟨rfl,vs,rfl,hv⟩⟩ ?_,h⟩
 rw[← ha];exact fresh_not X
end
namespace DQ
theorem noBool:typeLookup (.type "collections.deque") "__bool__"=pure none:=by rw[typeLookup_type,builtinLookup_eq_fast];kernel_rfl
theorem slot_len:Slot "collections.deque" "__len__" "collections.deque.__len__":=.of (owner := "collections.deque") (n := "__len__") (by rw[typeLookup_type,builtinLookup_eq_fast];kernel_rfl) (by decide +kernel) (by decide +kernel) (by decide +kernel)
  (by first | exact .inl (by decide +kernel) | exact .inr (by decide +kernel)) (by rw[isSubtype_type];kernel_rfl)
theorem entry_len:entryFor table "collections.deque.__len__"=some Builtin.«collections.deque.__len__»:=entryFor_of_tree (by kernel_rfl)
theorem args_len (a:Value):argsOk "collections.deque.__len__" ⟨[a],[]⟩:=by unfold argsOk;kernel_rfl
end DQ
section
variable {prog:Program} {w:World} {A:Around} {E:Value→Shared→Prop} {s:Shared}
theorem wpAny_len_body_deque {a:Addr} {o:Obj} {vs:Array Value} {Q:Value→Shared→Prop} (ho:s.heap.get? a=some o) (hc:o.cls=.type "collections.deque") (hd:o.data=.fields vs) (hz:vs.size=2)
  (h:Q (.int 0 (s.toks+1)) {s with toks:=s.toks+1+1}):wpAny (model prog w) A (Builtin.«len» ⟨[.ref a],[]⟩) (fun fin s'=>∃ r,fin=.done (.ret r)∧Q r s') E s:=by
 have hT:s.TypeIs (.ref a) "collections.deque":=⟨o,ho,hc⟩
 unfold Builtin.«len»
 refine wpAny_bind (m:=oneArg "len" _) (wpAny_pure ?_)
 refine wpAny_bind (m:=callSpecial? (.ref a) (Str.ofString "__len__")) (wpAny_callSpecial?_slot (name:=Str.ofString "__len__") hT DQ.slot_len
  (wpAny_call_entry DQ.slot_len hT DQ.entry_len ?_ (DQ.args_len _)))
 ·unfold Builtin.«collections.deque.__len__» slotArgs Builtin.Deque.size
  simp only [List.isEmpty_nil,Bool.not_true,Bool.false_eq_true,↓reduceIte,bind_assoc,List.length_nil,bne_self_eq_false]
  refine wpAny_bind (wpAny_pure ?_)
  try dsimp only
  refine wpAny_bind (wpAny_fieldsOf ho hd ?_)
  refine wpAny_bind (wpAny_pure ?_)
  rw[hz]
  show wpAny _ _ (retInt _) _ _ _
  unfold retInt
  refine wpAny_bind (wpAny_mkInt (wpAny_pure ⟨_,rfl,?_⟩))
  refine wpAny_bind (wpAny_holding (wpAny_pure ?_))
  refine wpAny_bind (wpAny_letGo ?_)
  show wpAny _ _ (if (((2 - 2:Nat):Int))<0 then _ else _) _ _ _
  rw[if_neg (by lia)]
  show wpAny _ _ (if (((2 - 2:Nat):Int))≥2 ^ 63 then _ else _) _ _ _
  rw[if_neg (by lia)]
  exact wpAny_bind (wpAny_mkInt (wpAny_pure ⟨_,rfl,h⟩))
theorem wpAny_truthy_deque {a:Addr} {o:Obj} {vs:Array Value} {Q:Bool→Shared→Prop} (ho:s.heap.get? a=some o) (hc:o.cls=.type "collections.deque") (hd:o.data=.fields vs) (hz:vs.size=2)
  (h:Q false {s with toks:=s.toks+1+1}):wpAny (model prog w) A (truthy (.ref a)) Q E s:=by
 have hT:s.TypeIs (.ref a) "collections.deque":=⟨o,ho,hc⟩
 have key:wpAny (model prog w) A (runValue (.builtin "len" ⟨[.ref a],[]⟩)) (fun r s'=>r=.int 0 (s.toks+1)∧Q false s') E s:=by
  refine wpAny_runValue (codeAny_builtin entry_len ?_)
  rw[Around.under_plainId plain_len _]
  exact wpAny_mono (wpAny_len_body_deque (Q:=fun r s'=>r=.int 0 (s.toks+1)∧Q false s') ho hc hd hz ⟨rfl,h⟩)
   (fun fin s' h'=>by obtain ⟨r,rfl,hq⟩:=h';exact hq) fun _ _ e=>e
 unfold truthy
 first
  | refine wpAny_bind (wpAny_callSpecial?_none (name:=Str.ofString "__bool__") hT DQ.noBool ?_)
  | refine wpAny_bind (wpAny_pure (wpAny_bind (wpAny_callSpecial?_none (name:=Str.ofString "__bool__") hT DQ.noBool ?_)))
 first
  | refine wpAny_bind (wpAny_specialOf (name:=Str.ofString "__len__") hT DQ.slot_len.lookup ?_)
  | refine wpAny_bind (wpAny_pure (wpAny_bind (wpAny_specialOf (name:=Str.ofString "__len__") hT DQ.slot_len.lookup ?_)))
 first
  | exact wpAny_bind (wpAny_mono key (fun r s' h'=>by obtain ⟨rfl,hq⟩:=h';exact wpAny_pure hq) fun _ _ e=>e)
  | exact wpAny_bind (wpAny_pure (wpAny_bind (wpAny_mono key (fun r s' h'=>by obtain ⟨rfl,hq⟩:=h';exact wpAny_pure hq) fun _ _ e=>e)))
end
section
variable {T:TopT} {w:World} {n:Nat} {env:Env} {loc:List (Str×D)} {objs:List AO} {Q:D→List AO→Prop}
theorem t_deque {Q:Bool→List AO→Prop} (h:Q false objs):TruD T w n (.emp "collections.deque") objs Q:=fun A s K u R X r=>by
 obtain ⟨_,_,rfl,ha,hc,hk⟩:=r.inv
 rcases hc.emp with ⟨e,_⟩ | ⟨_,vs,h1,h2⟩
 ·exact absurd e (by decide)
 ·exact wpAny_truthy_deque ha hc.cls h1 h2 ⟨K,objs,.tok X _ (Nat.succ_pos _),h⟩
end
namespace SI
theorem entry_iter:entryFor table "set.__iter__"=some Builtin.«frozenset.__iter__»:=entryFor_alias (id' := "frozenset.__iter__") (by rw[fastTable_eq_tree];kernel_rfl) rfl (by decide +kernel) (by rw[fastTable_eq_tree];kernel_rfl)
theorem slot_next:Slot "set_iterator" "__next__" "set_iterator.__next__":=.of (owner := "set_iterator") (n := "__next__") (by rw[typeLookup_type,builtinLookup_eq_fast];kernel_rfl) (by decide +kernel) (by decide +kernel) (by decide +kernel)
  (by first | exact .inl (by decide +kernel) | exact .inr (by decide +kernel)) (by rw[isSubtype_type];kernel_rfl)
theorem slot_iter:Slot "set_iterator" "__iter__" "set_iterator.__iter__":=.of (owner := "set_iterator") (n := "__iter__") (by rw[typeLookup_type,builtinLookup_eq_fast];kernel_rfl) (by decide +kernel) (by decide +kernel) (by decide +kernel)
  (by first | exact .inl (by decide +kernel) | exact .inr (by decide +kernel)) (by rw[isSubtype_type];kernel_rfl)
theorem entry_next:entryFor table "set_iterator.__next__"=some Builtin.«set_iterator.__next__»:=entryFor_of_tree (by kernel_rfl)
theorem entry_self:entryFor table "set_iterator.__iter__"=some Builtin.«dict_keyiterator.__iter__»:=entryFor_alias (id' := "dict_keyiterator.__iter__") (by rw[fastTable_eq_tree];kernel_rfl) rfl (by decide +kernel) (by rw[fastTable_eq_tree];kernel_rfl)
theorem args_next (a:Value):argsOk "set_iterator.__next__" ⟨[a],[]⟩:=by unfold argsOk;kernel_rfl
theorem args_iter (a:Value):argsOk "set_iterator.__iter__" ⟨[a],[]⟩:=by unfold argsOk;kernel_rfl
end SI
noncomputable abbrev setO (led:Bool):Obj:={cls:=.type "set",data:=.set #[] 0 (.fresh 0 0 led)}
noncomputable abbrev setItO (a:Addr):Obj:={cls:=.type "set_iterator",data:=.fields #[rawInt 0,rawInt 0,.ref a,rawInt 0,rawInt 0]}
section
variable {prog:Program} {w:World} {A:Around} {E:Value→Shared→Prop} {s:Shared}
theorem wpAny_pyIter_set0 {a:Addr} {led:Bool} {Q:Value→Shared→Prop} (ho:s.heap.get? a=some (setO led))
  (h:Q (.ref s.heap.objs.size) {s with heap:=s.heap.push (setItO a)}):wpAny (model prog w) A (pyIter (.ref a)) Q E s:=by
 have hT:s.TypeIs (.ref a) "set":=⟨_,ho,rfl⟩
 refine wpAny_pyIter_slot hT F.slot_set_iter (wpAny_call_entry F.slot_set_iter hT SI.entry_iter ?_ (F.args_set_iter_1 _))
 unfold Builtin.«frozenset.__iter__» Builtin.Frozenset.slot0 slotArgs
 simp only [List.isEmpty_nil,Bool.not_true,Bool.false_eq_true,↓reduceIte,bind_assoc,List.length_nil,bne_self_eq_false]
 unfold Builtin.Frozenset.addrOf Builtin.Frozenset.sizeOf setDrawn setsByText setEpoch
 refine wpAny_bind (wpAny_pure ?_)
 try dsimp only
 refine wpAny_bind (wpAny_pure ?_)
 refine wpAny_bind (wpAny_bind (wpAny_setEntries_of ho rfl rfl (wpAny_pure ?_)))
 refine wpAny_bind (wpAny_bind (wpAny_setState_of ho rfl rfl ?_))
 dsimp only
 refine wpAny_bind (wpAny_bind (wpAny_askSetting (wpAny_pure ?_)))
 refine wpAny_pure ?_
 split
 ·rename_i e
  exact (Bool.false_ne_true (Bool.and_eq_true_iff.mp e).2).elim
 refine wpAny_bind (wpAny_pure ?_)
 refine wpAny_bind (wpAny_bind (wpAny_setState_of ho rfl rfl (wpAny_pure ?_)))
 simp only [newFields,newObj]
 refine wpAny_bind (wpAny_bind (wpAny_alloc (wpAny_pure ?_)))
 exact wpAny_pure ⟨_,rfl, "set_iterator",_,⟨_,Heap.get?_push_size _ rfl,rfl⟩,SI.slot_next.lookup,h⟩
theorem wpAny_pyNext_set0 {it a:Addr} {led:Bool} {Q:Option Value→Shared→Prop} (hh:A.handled=none) (hit:s.heap.get? it=some (setItO a)) (ho:s.heap.get? a=some (setO led))
  (hQ:∀ h',Heap.ExtBut it s.heap h'→Q none {s with heap:=h'}):wpAny (model prog w) A (pyNext (.ref it)) Q E s:=by
 have hT:s.TypeIs (.ref it) "set_iterator":=⟨_,hit,rfl⟩
 unfold pyNext
 refine wpAny_bind (wpAny_attempt (wpAny_callSpecial?_slot (name:=Str.ofString "__next__") hT SI.slot_next
  (wpAny_call_entry SI.slot_next hT SI.entry_next ?_ (SI.args_next _))))
 refine wpAny_bind (wpAny_of_eq (a:=(Value.ref it,[])) rfl ?_)
 refine wpAny_bind (wpAny_fieldsOf hit rfl ?_)
 show wpAny _ _ (setEntries a >>= _) _ _ _
 refine wpAny_bind (wpAny_setEntries_of ho rfl rfl ?_)
 rw[if_neg (by decide)]
 show wpAny _ _ (setNext a 0 0 0 >>= _) _ _ _
 have X:∀ {Q':Option (Value×Nat)→Shared→Prop} {A':Around} {E':Value→Shared→Prop},Q' none s→wpAny (model prog w) A' (setNext a 0 0 0) Q' E' s:=by
  intro Q' A' E' hq
  unfold setNext setsByText
  refine wpAny_bind (wpAny_setState_of ho rfl rfl ?_)
  dsimp only
  refine wpAny_bind (wpAny_bind (wpAny_askSetting (wpAny_pure ?_)))
  split
  ·rename_i ht
   rw[if_neg (by decide)]
   refine wpAny_bind ?_
   unfold setWalk setsByText
   refine wpAny_bind (wpAny_setState_of ho rfl rfl ?_)
   dsimp only
   refine wpAny_bind (wpAny_bind (wpAny_askSetting (wpAny_pure ?_)))
   rw[if_pos ht]
   refine wpAny_bind (wpAny_askSetting ?_)
   exact wpAny_pure (wpAny_pure hq)
  ·split
   ·rename_i e
    exact (Bool.false_ne_true e).elim
   ·refine wpAny_bind (wpAny_of_eq (a:=()) (by cases led <;> rfl) ?_)
    exact wpAny_pure hq
 refine wpAny_bind (X ?_)
 dsimp only
 refine wpAny_bind (wpAny_setField hit rfl (by simp) ?_)
 refine wpAny_bind ?_
 simp only [newExc,newTuple]
 refine wpAny_bind (wpAny_newObj_type ?_ (by size_fits))
 refine wpAny_bind (m:=firstArgMember _ _) (wpAny_of_eq (a:=Value.none) (by first | rfl | (simp only [firstArgMember];rfl)) ?_)
 refine wpAny_newObj_type ?_ (by size_fits)
 unfold raiseNew
 refine wpAny_bind (wpAny_handled ?_)
 rw[show A.in1.handled=none from hh]
 refine wpAny_bind (wpAny_pure (wpAny_throw ?_))
 refine wpAny_bind (wpAny_isInstance (T := "StopIteration") (b:=true) ⟨_,Heap.get?_push_size _ rfl,rfl⟩ isSubtype_stop ?_)
 exact wpAny_pure (hQ _ (((Heap.SameBut.update ..).extBut.push _).push _))
end
section
variable {T:TopT} {w:World} {n:Nat} {env:Env} {loc:List (Str×D)} {objs:List AO} {Q:D→List AO→Prop}
theorem c_set (h:Q (.emp "set") objs):XCall T w n (.type "set") [] [] [] objs Q:=fun A s K vs ks R X r rk=>by
 obtain rfl:=rk.inv;obtain rfl:=r.inv
 refine call_set_0 fun led=>⟨K,_,objs,.push X _,.emp (Heap.get?_push_size _ rfl) ⟨rfl,rfl,.inl ⟨rfl,led,rfl,rfl⟩⟩ (fresh_not X),h⟩
theorem emp_set {K:Kt} {h:Heap} {v:Value} (r:VR K h (.emp "set") v):∃ a led,v=.ref a∧h.get? a=some (setO led)∧a∉offs K:=by
 obtain ⟨_,_,rfl,ha,hc,hk⟩:=r.inv
 rename_i a o
 rcases hc.emp with ⟨_,led,h1,h2⟩ | ⟨e,_⟩
 ·refine ⟨a,led,rfl,?_,hk⟩
  rw[ha]
  obtain ⟨c,d,dt,sl⟩:=o
  have e1:=hc.cls
  have e2:=hc.dict
  dsimp only at e1 e2 h1 h2
  rw[e1,e2,h1,h2]
 ·exact absurd e (by decide)
theorem o_nin_set0 {x:Str} (h:Q (.bool false) objs):Op2 T w n (compareOp .In) (.str x) (.emp "set") objs Q:=fun A s K u v R X ru rv=>by
 obtain ⟨a,led,rfl,ha,hk⟩:=emp_set rv
 obtain ⟨t,rfl,hs,ht⟩:=ru.inv
 exact wpAny_inSet_of (knd:=strKind pw w) (k:=x) (S:=fun _=>false) (n:=0) (strKind_is pw w x t) rfl ⟨_,#[],0,_,ha,⟨rfl,rfl,rfl⟩,rfl,(fun e he=>by cases he),(fun k=>by simp),by decide,rfl,rfl⟩ (out_tok X _ (.bool _) h (Nat.succ_pos _))
inductive SetSt (I a i:Nat) (led:Bool) (K:Kt) (s:Shared):Prop
 | mk (hi:i=0) (h1:s.heap.get? I=some (setItO a)) (h2:s.heap.get? a=some (setO led)) (h3:a∉offs K)
theorem it_set0:IterD T w n (.emp "set") objs (fun _=>True) []:=itg_d (target:=.Name "" default) fun A s K v R X r=>by
 obtain ⟨a,led,rfl,ha,hk⟩:=emp_set r
 refine wpAny_pyIter_set0 ha (.new X (fun i K _ s'=>SetSt s.heap.objs.size a i led K s') ⟨fun hh _ _ _ ⟨hi,h1,h2,h3⟩=>wpAny_up (wpAny_pyNext_set0 hh h1 h2 fun h' he _ hz'=>.stop rfl (.ends he hz') hi),
  fun ⟨hi,h1,h2,h3⟩ X₁ X₂ mv keep hok=>⟨hi,keep _ (.head _) _ h1 (.inr fun es n q=>by cases q),(mv.ice _ _ h2 h3 rfl).1,(mv.ice _ _ h2 h3 rfl).2⟩,?_⟩ (fun A s K o i v _=>wpAny_pure rfl) fun _=>⟨rfl,Heap.get?_push_size _ rfl,Heap.get?_push_of_some _ ha,fun q=>?_⟩)
 ·intro A s' K' o i st
  obtain ⟨hi,h1,h2,h3⟩:=st
  have hT:s'.TypeIs (.ref s.heap.objs.size) "set_iterator":=⟨_,h1,rfl⟩
  refine wpAny_pyIter_slot hT SI.slot_iter (wpAny_call_entry SI.slot_iter hT SI.entry_self ?_ (SI.args_iter _))
  exact wpAny_pure ⟨_,rfl, "set_iterator",_,hT,SI.slot_next.lookup,rfl,rfl⟩
 ·rcases offs_hide q with q | q
  ·exact hk q
  ·rw[List.mem_singleton.mp q] at ha;exact absurd (Heap.lt_size ha) (Nat.lt_irrefl _)
end
theorem upd_nil {x:Str} {d:D}:upd [] x d=[(x,d)]:=rfl
theorem upd_here {x:Str} {d d':D} {r:List (Str×D)}:upd ((x,d') :: r) x d=(x,d) :: r:=by
 show (match Fast.sEq x x with | true=>_ | false=>_)=_
 rw[show Fast.sEq x x=true from Fast.sEq_iff.mpr rfl]
theorem upd_next {x:Str} {d:D} {p:Str×D} {r r':List (Str×D)} (h:Fast.sEq p.1 x=false) (e:upd r x d=r'):upd (p :: r) x d=p :: r':=by
 show (match Fast.sEq p.1 x with | true=>_ | false=>_)=_
 rw[h,← e]
section
variable {T:TopT} {w:World} {n:Nat} {env:Env} {loc:List (Str×D)} {objs:List AO} {Q:D→List AO→Prop}
theorem ga_prop {k:Nat} {c p fget:Addr} {rest:List Value} {at_:List (Str×D)} {name:Str} (C:ClsOk T c) (hk:objs[k]?=some (.inst c at_)) (hn:findIn T.objs (.ref c) name=some (some (.ref p)))
  (hg:specialIn T.objs (.ref p) "__get__"=some (some (.builtin "property.__get__"))) (ht:takesIn T.objs (.ref p)=some true) (hp:recIn T.objs p "property"=some (.ref fget :: rest))
  (h:XCode T w n (.ref fget) [.obj k] [] [] objs fun d o=>notBi d=true∧Q d o):GetA T w (n+1) (.obj k) name objs Q:=fun A s K u R X r=>by
 obtain ⟨x,dx,sl,es,m,rfl,hK,e1,e2,e3,I⟩:=inst_at X r hk
 obtain ⟨cd,c1,c2⟩:=C.dict
 refine get_bind X.top.fin I C.ga (g:=.builtin "property.__get__") (a:=.ref p) ?_ C.gh ?_
 ·unfold findObj
  rw[c1,hn]
  show (specialIn T.objs (.ref p) "__get__").bind _=_
  rw[hg]
  show (takesIn T.objs (.ref p)).bind _=_
  rw[ht]
  rfl
 ·have P:=Post.tok X (s.toks+1) (Nat.succ_pos _)
  refine wpAny_call (prop_get P.tr.top.fin hp ?_)
  refine codeAny_mono (h _ _ _ _ _ R.in1 P.tr (.cons (P.vr r) .nil) .nil) fun r' s' z=>?_
  rcases r' with e | fl
  ·exact z.elim
  rcases fl with _ | _ | _ | v
  ·exact z.elim
  ·exact z.elim
  ·exact z.elim
  ·obtain ⟨K',d,o',p',r',hb,q⟩:=z
   show wpAny _ _ (handedOut v) _ _ _
   rw[handedOut_of (handed_D r' hb)]
   exact wpAny_pure ⟨K',d,o',P.trans p',r',q⟩
end
end Mine.Internal
end
section
open PySem PySem.W PyProof.Rows PySem.Calls Builtin
namespace Mine.Internal
section
variable {T:TopT} {w:World} {n:Nat} {loc:List (Str×D)} {objs:List AO} {Q:D→List AO→Prop} {X:XPost}
theorem body_run {A:Around} {s₀ s s₁:Shared} {K₀ K:Kt} {e:Env} {body:List Stmt} (R:Room T A (n+1)) (P₀:Post T K₀ s₀ K objs s) (P:Post T K s K objs s₁) (hk:∀ b o,s.heap.get? b=some o→s₁.heap.get? b=some o)
  (ge:∀ b∈own e,s.heap.objs.size≤b) (hf:∃ L,e.frame=some L∧Dk s₁.heap L∧L∉adrs K∧T.N≤L) (F:Frm (T.withFs (e :: T.fs)) K e loc s₁) (h:EvSsX (T.withFs (e :: T.fs)) w n e body loc objs (kBody Q) (kX X)) :
  codeAny (model pw w) A (.func body e) (OutRX T K₀ s₀ Q X) s₁:=by
 have RD:Room (T.withFs (e :: T.fs)) (A.deeper e) n:=⟨R.depth1,R.units3,R.hnd,(by show A.frames.map _=_;rw[R.frs];rfl)⟩
 have pr:∀ {s':Shared},PreS (own e++adrs K) s₁ s'→PreS (adrs K) s s':=fun p=>⟨fun b o q hb=>p.kp b o (hk b o q) fun hm=>by
   rcases List.mem_append.mp hm with q' | hm
   ·exact absurd (Heap.lt_size q) (Nat.not_lt.mpr (ge b q'))
   ·exact hb hm,Nat.le_trans P.pres.size p.size,p.os.trans P.pres.os,fun g=>p.gens (P.pres.gens g)⟩
 refine codeAny_func (wpAny_mono (h (A.deeper e) s₁ K RD (P.tr.inn _ ⟨by rw[F.kind];decide,hf⟩) F) (fun fl s' hh=>?_) fun ev s' hh=>?_)
 ·obtain ⟨K',f,l,ob,p,F',rf,q⟩:=hh
  have fin:Post T K₀ s₀ K' ob s':=P₀.trans ⟨p.tr.off,pr p.pres,P.grows.trans p.grows P.pres.size⟩
  cases rf with
  | next=>exact ⟨K',_,ob,fin,.none,q⟩
  | brk=>exact ⟨K',_,ob,fin,.none,q⟩
  | cont=>exact ⟨K',_,ob,fin,.none,q⟩
  | ret r=>exact ⟨K',_,ob,fin,r,q⟩
 ·obtain ⟨e',cls,K',H,l,ob,rfl,x,F',q⟩:=hh
  show wpAny _ _ (do noteFrame (.ref e') _;setFlight (.ref e') none) _ _ _
  refine wpAny_bind (x.note RD.frs F.fr fun s₂ H' x' _ _ _=>?_)
  refine x'.flight fun s₃ x'' _ _=>?_
  exact OutXF.behind (W:=[]) P₀.toL ⟨e',cls,K',H',ob,rfl,⟨x''.tr.off,pr x''.pres,P.grows.trans x''.grows P.pres.size,fun a h=>Nat.le_trans P.pres.size (x''.new a h),x''.low,x''.me,x''.exc⟩,q⟩
theorem no_cell {names:List (Str×NameKind)} {y:Str} (hl:∀ p∈loc,names.lookup p.1=some .local) {d:D} (hy:lk loc y=some d) (hk:names.lookup y=some .cell∨names.lookup y=some .free):False:=by
 obtain ⟨p,hp,e⟩:∃ p∈loc,p.1=y:=lk_mem hy
 have:=hl p hp
 rw[e] at this
 rw[this] at hk
 rcases hk with q | q <;> cases q
theorem all_local {names:List (Str×NameKind)} {binds:List (Str×Value)} {K:Kt} {h:Heap} (b2:BindR K h binds loc) (hl:∀ p∈loc,names.lookup p.1=some .local):∀ x∈binds,names.lookup x.1=some .local:=fun x hx=>by
 have:x.1∈loc.map (·.1):=by rw[← b2.names];exact List.mem_map_of_mem hx
 obtain ⟨p,hp,e⟩:=List.mem_map.mp this
 rw[← e];exact hl p hp
def BindsS (T:TopT) (w:World) (fd:FuncData) (ds:List D) (names:List Str) (kds:List D) (objs:List AO) (loc:Value→List (Str×D)) (objs₁:List AO):Prop :=
 ∀ (A:Around) (K:Kt) (s:Shared) (vs ks:List Value) (R:List (Str×Value)→Shared→Prop) (E:Value→Shared→Prop),Tr T K objs s→VRs K s.heap ds vs→VRs K s.heap kds ks→(∀ binds s₁ K₁ v,Post T K s K₁ objs₁ s₁→BindR K₁ s₁.heap binds (loc v)→R binds s₁) →
  wpAny (model pw w) A (bindArgs fd ⟨vs,names.zip ks⟩) R E s
theorem Binds.toS {fd:FuncData} {ds:List D} {names:List Str} {kds:List D} (hb:Binds T fd ds names kds objs loc):BindsS T w fd ds names kds objs (fun _=>loc) objs:=fun A K s vs ks R E Xt r rk k=>by
 obtain ⟨binds,b1,b2⟩:=hb K s vs ks Xt r rk
 exact b1 _ _ _ _ (k binds s K .none (.refl Xt) b2)
theorem xcodeX_defS {a:Addr} {fd:FuncData} {body:List Stmt} {ds:List D} {names:List Str} {kds:List D} {objs₁:List AO} {locv:Value→List (Str×D)} (d:DefOK T a fd body)
  (hb:BindsS T w fd ds names kds objs locv objs₁) (hok:∀ v,locOk fd.scope.names (locv v)=true)
  (h:∀ v L fs,EvSsX (T.withFs fs) w n (callEnv fd L a) body (locv v) objs₁ (kBody Q) (kX X)):XCodeX T w (n+1) (.ref a) ds names kds objs Q X:=fun A s₀ K₀ vs ks R X₀ r rk=>by
 obtain ⟨o,ho,hd⟩:=d.at_
 refine codeAny_call_function R.depth0 (X₀.top.objs _ ho) hd d.co d.gen d.body (d.code _ X₀.top) (hb _ K₀ s₀ vs ks _ _ X₀ r rk fun binds s K v P₀ b2=>?_)
 have Xt:=P₀.tr
 have hnl:=locOk_ok (hok v)
 refine wpAny_newFunctionEnv d.cell (all_local b2 hnl.2) (fun h₀ hns hsb=>⟨Xt.top.nolimit.fresh _ hsb,?_⟩) d.kind
 have hk:∀ b o,s.heap.get? b=some o→h₀.get? b=some o:=fun b o e=>hsb.extBut b o (Nat.ne_of_lt (Heap.lt_size e)) (Heap.get?_push_of_some _ e)
 have P:Post T K s K objs₁ {s with heap:=h₀,toks:=s.toks+binds.length}:=Post.keeps Xt hk (Nat.le_of_lt hns.lt) id rfl (Nat.lt_of_lt_of_le Xt.toks (Nat.le_add_right _ _))
 have B:=b2.mono P.pres.still P.grows
 have cl0:(callEnv fd s.heap.objs.size a).cells=[]:=d.clo
 have ow:∀ b∈own (callEnv fd s.heap.objs.size a),b=s.heap.objs.size:=fun b hb=>by unfold own at hb;rw[cl0] at hb;exact List.mem_singleton.mp hb
 refine body_run (e:=callEnv fd s.heap.objs.size a) (objs:=objs₁) R P₀ P hk (fun b hb=>Nat.le_of_eq (ow b hb).symm) ⟨_,rfl,Dk.ns hns,offs_adrs (fresh_not Xt),Xt.top.size⟩ ⟨d.kind,d.glob,d.bi,fun b hb=>ow b hb▸offs_adrs (fresh_not Xt),fun b hb=>ow b hb▸Xt.top.size,cl0▸List.Pairwise.nil,fun x c h=>(by rw[cl0] at h;cases h),fun b hb=>ow b hb▸hns.lt,fun b hb=>?_,fun y hy=>absurd rfl (d.cell _ (mem_of_lookup hy)),⟨_,_,rfl,rfl⟩,_,hns,fun y d' hy=>⟨fun _=>?_,fun hk=>(no_cell hnl.2 hy hk).elim⟩⟩ (h v _ _)
 ·obtain ⟨oL,es,ep,hoL,hdL,_⟩:=hns
  rw[ow b hb]
  exact ⟨oL,hoL,by rw[hdL];rfl⟩
 ·obtain ⟨v,h1,h2⟩:=B.lk.1 y d' hy
  exact ⟨v,by show binds.reverse.lookup y=some v;rw[lookup_rev (by rw[b2.names];exact hnl.1)];exact h1,h2⟩
theorem xcodeX_defC {a:Addr} {fd:FuncData} {body:List Stmt} {ds:List D} (d:DefOKC T a fd body)
  (hb:Binds T fd ds [] [] objs loc) (hok:locOk fd.scope.names loc=true)
  (h:∀ L fs,EvSsX (T.withFs fs) w n (callEnvC fd L a) body loc objs (kBody Q) (kX X)):XCodeX T w (n+1) (.ref a) ds [] [] objs Q X:=fun A s K vs ks R Xt r rk=>by
 obtain rfl:=rk.inv
 have hnl:=locOk_ok hok
 obtain ⟨binds,b1,b2⟩:=hb K s vs [] Xt r .nil
 obtain ⟨o,ho,hd⟩:=d.at_
 have hloc:=all_local b2 hnl.2
 refine codeAny_call_function R.depth0 (Xt.top.objs _ ho) hd d.co d.gen d.body (d.code _ Xt.top) (b1 _ _ _ _ ?_)
 rw[d.clo]
 refine wpAny_mono (wpAny_toks_of Xt.toks (wpAny_newFunctionEnv_cells (E:=noE) (Q:=fun env s'=>env=newEnv fd.scope s.heap.objs.size fd.globals (cellsFrom (s.heap.objs.size+1) fd.scope.names []) (fd.qualname ++ ".<locals>.") (some a) fd.code none fd.builtins ∧
  InCallC s env.locals (bindL env.kindOf binds fun _=>none) env.cells (bindC env.kindOf binds fun _=>none) s') d.kind (fun x hx=>.inl (hloc x hx)) fun env he s₁ I=>⟨he,I⟩)) (fun env s₁ hh=>?_) fun _ _ hh=>hh.2.elim
 obtain ⟨htk,rfl,I⟩:=hh
 refine ⟨Xt.top.nolimit.keeps I.toInCall.keep,?_⟩
 obtain ⟨h₀,tk,rfl,hk⟩:=I.done
 obtain ⟨⟨_,hns,_,_⟩,hcell,hap,hab⟩:=I
 have hcn:=cells_nodup (names:=fd.scope.names) (k:=s.heap.objs.size+1) (acc:=[]) (by rw[List.map_nil,List.append_nil];exact d.nd)
 obtain ⟨oL,es,ep,hoL,hdL,_⟩:=id hns
 have hz:=Heap.lt_size hoL
 have P:Post T K s K objs {s with heap:=h₀,toks:=tk}:=Post.keeps Xt hk (Nat.le_of_lt hz) id rfl htk
 have B:=b2.mono P.pres.still P.grows
 have ow:∀ b∈own (callEnvC fd s.heap.objs.size a),b=s.heap.objs.size∨(s.heap.objs.size<b∧∃ v,h₀.IsCell b v):=fun b hb=>by
  rcases List.mem_cons.mp hb with rfl | hb
  ·exact .inl rfl
  ·obtain ⟨⟨x,c⟩,hm,rfl⟩:=List.mem_map.mp hb
   exact .inr ⟨hab x c hm,_,hcell x c (lookup_mem_nodup hcn hm)⟩
 have ge:∀ b∈own (callEnvC fd s.heap.objs.size a),s.heap.objs.size≤b:=fun b hb=>(ow b hb).elim (fun e=>Nat.le_of_eq e.symm) fun q=>Nat.le_of_lt q.1
 refine body_run (e:=callEnvC fd s.heap.objs.size a) R (.refl Xt) P hk ge ⟨_,rfl,Dk.ns hns,offs_adrs (fresh_not Xt),Xt.top.size⟩ ⟨d.kind,d.glob,d.bi,fun b hb hm=>absurd (Xt.live b (List.mem_append_left _ hm)) (Nat.not_lt.mpr (ge b hb)),fun b hb=>Nat.le_trans Xt.top.size (ge b hb),hap,fun x c h e=>absurd (hab x c (mem_of_lookup h)) (by rw[e];exact Nat.lt_irrefl _),fun b hb=>?_,fun b hb=>?_,fun y hy=>?_,⟨_,_,rfl,rfl⟩,_,hns,fun y d' hy=>⟨fun _=>?_,fun hk=>(no_cell hnl.2 hy hk).elim⟩⟩ (h _ _)
 ·rcases ow b hb with rfl | ⟨_,v,hv⟩
  ·exact hz
  ·exact hv.lt
 ·rcases ow b hb with rfl | ⟨_,v,o,h1,h2⟩
  ·exact ⟨oL,hoL,by rw[hdL];rfl⟩
  ·exact ⟨o,h1,by rw[h2];rfl⟩
 ·obtain ⟨c,hc⟩:=cells_has (names:=fd.scope.names) (k:=s.heap.objs.size+1) (acc:=[]) y (.inr hy)
  exact ⟨c,_,hc,hcell y c hc⟩
 ·obtain ⟨v,h1,h2⟩:=B.lk.1 y d' hy
  refine ⟨v,?_,h2⟩
  rw[bindL_all hloc,lookup_rev (by rw[b2.names];exact hnl.1),h1];rfl
theorem XCodeX.code {f:Value} {ds:List D} {names:List Str} {kds:List D} (x:XCodeX T w n f ds names kds objs Q fun _ _=>False):XCode T w n f ds names kds objs Q:=fun A s K vs ks R Xt r rk =>
 codeAny_mono (x A s K vs ks R Xt r rk) fun r s' z=>by
  rcases r with e | (v | _ | _ | _)
  ·obtain ⟨_,_,_,_,_,_,_,q⟩:=z;exact q.elim
  all_goals exact z
end
section
variable {P:Params} {fs:List Env} {w:World} {n:Nat} {loc:List (Str×D)} {objs:List AO} {Q:D→List AO→Prop} {X:XPost}
theorem xcode_defS {T:TopT} {a:Addr} {fd:FuncData} {body:List Stmt} {ds:List D} {names:List Str} {kds:List D} {objs₁:List AO} {locv:Value→List (Str×D)} (d:DefOK T a fd body)
  (hb:BindsS T w fd ds names kds objs locv objs₁) (hok:∀ v,locOk fd.scope.names (locv v)=true)
  (h:∀ v L fs,EvSs (T.withFs fs) w n (callEnv fd L a) body (locv v) objs₁ (kBody Q)):XCode T w (n+1) (.ref a) ds names kds objs Q:=(xcodeX_defS d hb hok fun v L fs=>ssx_of (h v L fs)).code
theorem xcodeX_def {T:TopT} {a:Addr} {fd:FuncData} {body:List Stmt} {ds:List D} {names:List Str} {kds:List D} (d:DefOK T a fd body) (hb:Binds T fd ds names kds objs loc) (hok:locOk fd.scope.names loc=true)
  (h:∀ L fs,EvSsX (T.withFs fs) w n (callEnv fd L a) body loc objs (kBody Q) (kX X)):XCodeX T w (n+1) (.ref a) ds names kds objs Q X:=xcodeX_defS d hb.toS (fun _=>hok) fun _=>h
theorem xcd {a:Addr} {fd:FuncData} {body:List Stmt} {ds:List D} {names:List Str} {kds:List D} (d:DefOK (topT P fs) a fd body)
  (hb:Binds (topT P fs) fd ds names kds objs loc) (hok:locOk fd.scope.names loc=true)
  (h:∀ L fs,EvSs (topT P fs) w n (callEnv fd L a) body loc objs (kBody Q)):XCode (topT P fs) w (n+1) (.ref a) ds names kds objs Q:=xcode_defS d hb.toS (fun _=>hok) fun _=>h
theorem xd {a:Addr} {fd:FuncData} {body:List Stmt} {ds:List D} {names:List Str} {kds:List D} (d:DefOK (topT P fs) a fd body)
  (hb:Binds (topT P fs) fd ds names kds objs loc) (hok:locOk fd.scope.names loc=true)
  (h:∀ L fs,EvSs (topT P fs) w n (callEnv fd L a) body loc objs (kBody Q)):XC (topT P fs) w (n+1) (.ref a) ds names kds objs Q:=⟨let ⟨_,hm,hd⟩:=d.at_;keep_func hm hd,(xcd d hb hok h).call⟩
theorem xdC {a:Addr} {fd:FuncData} {body:List Stmt} {ds:List D} (d:DefOKC (topT P fs) a fd body)
  (hb:Binds (topT P fs) fd ds [] [] objs loc) (hok:locOk fd.scope.names loc=true)
  (h:∀ L fs,EvSs (topT P fs) w n (callEnvC fd L a) body loc objs (kBody Q)):XC (topT P fs) w (n+1) (.ref a) ds [] [] objs Q:=⟨let ⟨_,hm,hd⟩:=d.at_;keep_func hm hd,(xcodeX_defC d hb hok fun L fs=>ssx_of (h L fs)).code.call⟩
end
end Mine.Internal
end
section
open PySem PySem.W PyProof.Rows
namespace Mine.Internal
section
variable {T:TopT} {w:World} {n:Nat} {env:Env} {loc:List (Str×D)} {objs:List AO} {Q:D→List AO→Prop}
theorem ga_set {k:Nat} {c:Addr} {at_:List (Str×D)} {name:Str} {d:D} (C:ClsOk T c) (kl:k<objs.length) (hn:findIn T.objs (.ref c) name=some none) (hd:lk at_ name=some d) (hb:notBi d=true) (h:Q d (objs.set k (.inst c at_))) :
  GetA T w n (.obj k) name (objs.set k (.inst c at_)) Q:=ga_inst C (List.getElem?_set_self kl) hn hd hb h
theorem ev_self {x attr:Str} {p pos:Pos} {k:Nat} {c:Addr} {at_:List (Str×D)} {d:D} (hb:isLoc env x=true) (hl:lk loc x=some (.obj k)) (C:ClsOk T c) (kl:k<objs.length) (hn:findIn T.objs (.ref c) attr=some none) (hd:lk at_ attr=some d) (hv:notBi d=true) (h:Q d (objs.set k (.inst c at_))) :
  EvE T w n env (.Attribute (.Name x p) attr pos) loc (objs.set k (.inst c at_)) Q:=ev_attr rfl (ev_loc hb hl (ga_set C kl hn hd hv h))
theorem gp_set {k:Nat} {c p fget:Addr} {rest:List Value} {at_:List (Str×D)} {name:Str} (C:ClsOk T c) (kl:k<objs.length) (hn:findIn T.objs (.ref c) name=some (some (.ref p)))
  (hg:specialIn T.objs (.ref p) "__get__"=some (some (.builtin "property.__get__"))) (ht:takesIn T.objs (.ref p)=some true) (hp:recIn T.objs p "property"=some (.ref fget :: rest))
  (h:XCode T w n (.ref fget) [.obj k] [] [] (objs.set k (.inst c at_)) fun d o=>notBi d=true∧Q d o):GetA T w (n+1) (.obj k) name (objs.set k (.inst c at_)) Q:=ga_prop C (List.getElem?_set_self kl) hn hg ht hp h
theorem gm_set (f:Addr) {k:Nat} {c:Addr} {at_:List (Str×D)} {name:Str} (C:ClsOk T c) (kl:k<objs.length) (hf:findIn T.objs (.ref c) name=some (some (.ref f))) (ht:typeIn T.objs (.ref f)=some (.type "function"))
  (hs:lk at_ name=none):GetM T w n (.obj k) name (.ref f) [.obj k] (objs.set k (.inst c at_)):=gm_inst C (List.getElem?_set_self kl) hf ht hs
inductive KPut (T:TopT) (attr:Str) (loc:List (Str×D)) (Q:Fl→List (Str×D)→List AO→Prop) (d u:D) (o:List AO):Prop
 | mk (k:Nat) (c:Addr) (at_ at':List (Str×D)) (o₃:List AO) (e1:o=o₃.set k (.inst c at_)) (e2:u=.obj k) (kl:k<o₃.length) (C:ClsOk T c) (ht:takerIn T.objs c attr=some none) (hz:Nat.ble (at_.length+1) 500=true) (hu:upd at_ attr d=at') (q:Q .next loc (o₃.set k (.inst c at')))
@[reducible] def kPut (T:TopT) (w:World) (n:Nat) (env:Env) (x:PySem.Expr) (attr:Str) (loc:List (Str×D)) (Q:Fl→List (Str×D)→List AO→Prop) (d:D) (o:List AO):Prop:=EvE T w n env x loc o (KPut T attr loc Q d)
@[reducible] def kAug3 (T:TopT) (attr:Str) (loc:List (Str×D)) (Q:Fl→List (Str×D)→List AO→Prop) (u d:D) (o:List AO):Prop:=KPut T attr loc Q d u o
@[reducible] def kAug2 (T:TopT) (w:World) (n:Nat) (env:Env) (f:Value→Value→Sem Value) (e:PySem.Expr) (attr:Str) (loc:List (Str×D)) (Q:Fl→List (Str×D)→List AO→Prop) (u old:D) (o:List AO):Prop:=EvE T w n env e loc o (kOp2 T w n f old (kAug3 T attr loc Q u))
@[reducible] def kAug (T:TopT) (w:World) (n:Nat) (env:Env) (f:Value→Value→Sem Value) (e:PySem.Expr) (attr:Str) (loc:List (Str×D)) (Q:Fl→List (Str×D)→List AO→Prop) (u:D) (o:List AO):Prop:=GetA T w n u attr o (kAug2 T w n env f e attr loc Q u)
theorem s_setat {o:PySem.Expr} {attr:Str} {pos' pos:Pos} {e:PySem.Expr} {Q:Fl→List (Str×D)→List AO→Prop} (hP:T.P=w.params) (hs:swapsWith e (some (.Attribute o attr pos')) pos.line env=pure false)
  (h:EvE T w n env e loc objs (kPut T w n env o attr loc Q)) :
  EvS T w n env (.Assign [.Attribute o attr pos'] e pos) loc objs Q:=fun A s K R X F=>plainObj_wpAny_Assign_Attribute (wE (h A s K R X F) fun v s₁ hh=>by
 obtain ⟨K₁,d,o₁,p₁,r₁,q₁⟩:=hh
 refine wE (q₁ A s₁ K₁ R p₁.tr (F.post p₁)) fun ov s₂ hh=>?_
 obtain ⟨K₂,u,o₂,p₂,r₂,k,c,at_,at',o₃,rfl,rfl,kl,C,ht,hz,rfl,q⟩:=hh
 exact wE (set_attr hP C (List.getElem?_set_self kl) ht hz p₂.tr r₂ (p₂.vr r₁)) fun _ s₃ P₃=>⟨K₂,.next,loc,_,((p₁.trans p₂).trans P₃).toL,((F.post p₁).post p₂).post P₃,.next,by rw[List.set_set];exact q⟩) hs
theorem s_augat {o:PySem.Expr} {attr:Str} {tpos pos:Pos} {op:Operator} {e:PySem.Expr} {Q:Fl→List (Str×D)→List AO→Prop} (hP:T.P=w.params)
  (h:EvE T w n env o loc objs (kAug T w n env (inplaceOp op) e attr loc Q)) :
  EvS T w n env (.AugAssign (.Attribute o attr tpos) op e pos) loc objs Q:=fun A s K R X F=>wpAny_AugAssign_AttributeAny (wE (h A s K R X F) fun ov s₁ hh=>by
 obtain ⟨K₁,u,o₁,p₁,r₁,q₁⟩:=hh
 refine wE (q₁ A s₁ K₁ ov R p₁.tr r₁) fun old s₂ hh=>?_
 obtain ⟨K₂,od,o₂,p₂,r₂,q₂⟩:=hh
 have p12:=p₁.trans p₂
 refine wE (q₂ A s₂ K₂ R p₂.tr (F.post p12)) fun v s₃ hh=>?_
 obtain ⟨K₃,b,o₃,p₃,r₃,q₃⟩:=hh
 have p13:=p12.trans p₃
 refine wE (q₃ A s₃ K₃ old v R p₃.tr (p₃.vr r₂) r₃) fun new s₄ hh=>?_
 obtain ⟨K₄,d,o₄,p₄,r₄,k,c,at_,at',o₅,rfl,rfl,kl,C,ht,hz,rfl,q⟩:=hh
 have p14:=p13.trans p₄
 exact wE (set_attr hP C (List.getElem?_set_self kl) ht hz p₄.tr (p₄.vr (p₃.vr (p₂.vr r₁))) r₄) fun _ s₅ P₅=>⟨K₄,.next,loc,_,(p14.trans P₅).toL,(F.post p14).post P₅,.next,by rw[List.set_set];exact q⟩)
theorem set_intro {k:Nat} {ao:AO} (h:objs[k]?=some ao):objs=objs.set k ao∧k<objs.length:=by
 obtain ⟨h1,h2⟩:=List.getElem?_eq_some_iff.mp h
 exact ⟨(by rw[← h2];exact (List.set_getElem_self h1).symm),h1⟩
end
section
variable {T:TopT} {objs:List AO}
theorem bk1 {fd:FuncData} {x:Str} {d:D} {more:List (Str×Value)} {ml:List (Str×D)} (hm:∀ K h,BindR K h more ml) (h:∀ v S,peek T.objs S (bindArgs fd ⟨[v],[]⟩)=some ((x,v) :: more)):Binds T fd [d] [] [] objs ((x,d) :: ml):=fun K s vs ks X r rk=>by
 obtain ⟨_,rfl,rfl,r1⟩:=args1 r rk
 exact ⟨_,kp_binds X.top.fin (h _),.cons r1 (hm _ _)⟩
theorem bk2 {fd:FuncData} {x y:Str} {d e:D} {more:List (Str×Value)} {ml:List (Str×D)} (hm:∀ K h,BindR K h more ml) (h:∀ v u S,peek T.objs S (bindArgs fd ⟨[v,u],[]⟩)=some ((x,v) :: (y,u) :: more)):Binds T fd [d,e] [] [] objs ((x,d) :: (y,e) :: ml):=fun K s vs ks X r rk=>by
 obtain ⟨_,_,rfl,rfl,r1,r2⟩:=args2 r rk
 exact ⟨_,kp_binds X.top.fin (h _ _),.cons r1 (.cons r2 (hm _ _))⟩
theorem bk3 {fd:FuncData} {x y z:Str} {d e f:D} {more:List (Str×Value)} {ml:List (Str×D)} (hm:∀ K h,BindR K h more ml) (h:∀ v u t S,peek T.objs S (bindArgs fd ⟨[v,u,t],[]⟩)=some ((x,v) :: (y,u) :: (z,t) :: more)):Binds T fd [d,e,f] [] [] objs ((x,d) :: (y,e) :: (z,f) :: ml):=fun K s vs ks X r rk=>by
 obtain ⟨_,_,_,rfl,rfl,r1,r2,r3⟩:=args3 r rk
 exact ⟨_,kp_binds X.top.fin (h _ _ _),.cons r1 (.cons r2 (.cons r3 (hm _ _)))⟩
end
section
variable {P:Params} {fs:List Env}
theorem cls_894:ClsOk (topT P fs) 894:=⟨by kernel_rfl,by kernel_rfl,by kernel_rfl,by kernel_rfl,Option.map_eq_some_iff.mp (show (clsIn (topT P fs).objs _).map (·.hasDict)=some true by kernel_rfl)⟩
theorem cls_710:ClsOk (topT P fs) 710:=⟨by kernel_rfl,by kernel_rfl,by kernel_rfl,by kernel_rfl,Option.map_eq_some_iff.mp (show (clsIn (topT P fs).objs _).map (·.hasDict)=some true by kernel_rfl)⟩
theorem cls_944:ClsOk (topT P fs) 944:=⟨by kernel_rfl,by kernel_rfl,by kernel_rfl,by kernel_rfl,Option.map_eq_some_iff.mp (show (clsIn (topT P fs).objs _).map (·.hasDict)=some true by kernel_rfl)⟩
end
end Mine.Internal
end
section
open PySem PySem.W PyProof.Rows
open PySem.Builtin PySem.Builtin.Str PySem.StrLaws
namespace Mine.Internal
noncomputable abbrev L (x:Str):List Nat:=x.cps.toList
noncomputable def mk (l:List Nat):Str:=⟨l.toArray⟩
theorem L_mk (l:List Nat):L (mk l)=l:=by simp [L,mk]
theorem mk_L (x:Str):mk (L x)=x:=by cases x;simp [L,mk]
theorem L_len (x:Str):x.length=(L x).length:=by simp [Str.length,L]
theorem mk_len (l:List Nat):(mk l).length=l.length:=by simp [Str.length,mk]
theorem L_add (x y:Str):L (x++y)=L x++L y:=by
 show (x++y).cps.toList=_
 rw[Str.cps_append];simp [L]
theorem mk_add (a b:List Nat):mk a++mk b=mk (a++b):=by
 have:=L_add (mk a) (mk b)
 rw[L_mk,L_mk] at this
 rw[← this,mk_L]
theorem L_inj {x y:Str} (h:L x=L y):x=y:=by rw[← mk_L x,← mk_L y,h]
theorem slice_text (x:Str) (a b:Option Int):Txt.slice x a b=sliceText x a b:=by
 unfold Txt.slice sliceText
 rfl
theorem clip_lo (x:Str) (i:Nat) (b:Option Int):Txt.slice x (some (i:Int)) b=Txt.slice x (some ((min i x.length:Nat):Int)) b:=by
 have:strSliceIndices (some (i:Int)) b 1 x.length=strSliceIndices (some ((min i x.length:Nat):Int)) b 1 x.length:=by
  unfold strSliceIndices
  simp only [show (1:Int)>0 by decide,if_true,if_neg (show ¬ (i:Int)<0 by lia),if_neg (show ¬ ((min i x.length:Nat):Int)<0 by lia)]
  rw[show min ((min i x.length:Nat):Int) (x.length:Int)=min (i:Int) (x.length:Int) by lia]
 unfold Txt.slice
 rw[this]
theorem clip_hi (x:Str) (j:Nat) (a:Option Int):Txt.slice x a (some (j:Int))=Txt.slice x a (some ((min j x.length:Nat):Int)):=by
 have:strSliceIndices a (some (j:Int)) 1 x.length=strSliceIndices a (some ((min j x.length:Nat):Int)) 1 x.length:=by
  unfold strSliceIndices
  simp only [show (1:Int)>0 by decide,if_true,if_neg (show ¬ (j:Int)<0 by lia),if_neg (show ¬ ((min j x.length:Nat):Int)<0 by lia)]
  rw[show min ((min j x.length:Nat):Int) (x.length:Int)=min (j:Int) (x.length:Int) by lia]
 unfold Txt.slice
 rw[this]
theorem take_clip (l:List Nat) (i j:Nat):(l.drop (min i l.length)).take (min j l.length - min i l.length)=(l.drop i).take (j - i):=by
 by_cases h:i≤l.length
 ·rw[Nat.min_eq_left h,List.take_eq_take_iff,List.length_drop,← Nat.sub_min_sub_right,Nat.min_assoc,Nat.min_self]
 ·have h:=Nat.le_of_lt (Nat.not_le.mp h)
  rw[Nat.min_eq_right h,List.drop_length,List.drop_of_length_le h,List.take_nil,List.take_nil]
theorem slice_mid (x:Str) (i j:Nat) (h:i≤j):Txt.slice x (some (i:Int)) (some (j:Int))=mk (((L x).drop i).take (j - i)):=by
 rw[clip_lo,clip_hi,slice_text,sliceText_plain ⟨Int.natCast_nonneg _,Int.ofNat_le.mpr (Nat.le_min.mpr ⟨Nat.le_trans (Nat.min_le_left _ _) h,Nat.min_le_right _ _⟩),(show ((min j x.length:Nat):Int)≤x.cps.toList.length from Int.ofNat_le.mpr (Nat.min_le_right _ _))⟩]
 rw[Int.toNat_natCast,Int.toNat_sub]
 exact congrArg mk (take_clip (L x) i j)
theorem slice_to (x:Str) (j:Nat):Txt.slice x none (some (j:Int))=mk ((L x).take j):=by
 have e:sliceText x none (some (j:Int))=sliceText x (some ((0:Nat):Int)) (some (j:Int)):=by unfold sliceText;rw[sliceIdx_none_lo];rfl
 rw[slice_text,e,← slice_text,slice_mid x 0 j (Nat.zero_le j)]
 rfl
theorem slice_from (x:Str) (i:Nat):Txt.slice x (some (i:Int)) none=mk ((L x).drop i):=by
 have e:∀ a,sliceText x a none=sliceText x a (some (((L x).length:Nat):Int)):=fun a=>by unfold sliceText;rw[sliceIdx_none_hi];rfl
 have hm:min i x.length≤(L x).length:=Nat.min_le_right _ _
 rw[clip_lo,slice_text,e,← slice_text,slice_mid x _ _ hm,List.take_of_length_le (by rw[List.length_drop];exact Nat.le_refl _)]
 by_cases h:i≤(L x).length
 ·rw[show min i x.length=i from Nat.min_eq_left h]
 ·have h:=Nat.le_of_lt (Nat.not_le.mp h)
  rw[show min i x.length=(L x).length from Nat.min_eq_right h,List.drop_length,List.drop_of_length_le h]
theorem slice_m1 (x:Str):Txt.slice x none (some (-1))=mk (L x).dropLast:=by
 by_cases h:x.length=0
 ·have e:L x=[]:=List.length_eq_zero_iff.mp (by rw[← L_len];exact h)
  rw[e]
  have:x=mk []:=by rw[← e,mk_L]
  rw[this];rfl
 ·rw[slice_text,sliceText_to_neg (by decide) (show -(x.length:Int)≤-1 from Int.neg_le_neg (Int.ofNat_le.mpr (Nat.pos_of_ne_zero h))),Int.sub_zero,Int.add_comm,List.dropLast_eq_take,show ((x.length:Int)+-1).toNat=x.length - 1 from Int.toNat_sub x.length 1]
  rfl
theorem shelf_eq (x:Str):Txt.slice (x++Str.ofString "/") none (some (-1))=x:=by
 rw[slice_m1,L_add]
 have:L (Str.ofString "/")=[47]:=by decide +kernel
 rw[this,List.dropLast_concat,mk_L]
end Mine.Internal
end
section
open PySem PySem.Sre
namespace Mine.Internal
noncomputable def cdP:Array Nat:=#[14,17,4,1,1,21,9,0,604043296,1,0,0,0,0,0,8,4,0,13,14,21,9,0,604043296,1,0,0,0,0,0,8,4,0,1]
noncomputable def chsC (c:Nat):Bool:=decide (c<256) && (cdP.getD (6+(1+c / 32)) 0).testBit (c % 32)
noncomputable def safeC (c:Nat):Bool:=chsC c || isWord c
theorem inSet5 (c:Nat) (seen:Seen):∃ s',inSet cdP c 34 5 true seen=.ok (!safeC c,s'):=by
 have e1:∀ s,inSet cdP c 34 5 true s=inSet cdP c 33 6 false (s.add 21):=fun s=>rfl
 have e2:∀ s,inSet cdP c 33 6 false s=if chsC c then .ok (false,s.add 9) else inSet cdP c 32 15 false (s.add 9):=fun s=>rfl
 have e3:∀ s:Seen,inSet cdP c 32 15 false s=if isWord c then .ok (false,(s.add 8).add 59) else .ok (true,((s.add 8).add 59).add 0):=fun s=>by
  show (category 4 c >>= fun b=>if b=true then pure (false,(s.add 8).add 59) else inSet cdP c 31 17 false ((s.add 8).add 59))=_
  rw[show category 4 c=.ok (isWord c) by unfold category;cases isWord c <;> rfl]
  show (if isWord c=true then _ else _)=_
  cases isWord c <;> rfl
 rw[e1,e2]
 unfold safeC
 cases chsC c
 ·rw[if_neg (by decide),e3]
  cases isWord c
  ·exact ⟨_,rfl⟩
  ·exact ⟨_,rfl⟩
 ·exact ⟨_,rfl⟩
theorem chs20 (c:Nat):(decide (c<256) && (cdP.getD (21+(1+c / 32)) 0).testBit (c % 32))=chsC c:=by
 unfold chsC
 by_cases h:c<256
 ·have:c / 32=0∨c / 32=1∨c / 32=2∨c / 32=3∨c / 32=4∨c / 32=5∨c / 32=6∨c / 32=7:=by lia
  rcases this with e | e | e | e | e | e | e | e <;> rw[e] <;> rfl
 ·rw[decide_eq_false h];rfl
theorem inSet20 (c:Nat) (seen:Seen):∃ s',inSet cdP c 34 20 true seen=.ok (!safeC c,s'):=by
 have e1:∀ s,inSet cdP c 34 20 true s=inSet cdP c 33 21 false (s.add 21):=fun s=>rfl
 have e2:∀ s,inSet cdP c 33 21 false s=if (decide (c<256) && (cdP.getD (21+(1+c / 32)) 0).testBit (c % 32))=true then .ok (false,s.add 9) else inSet cdP c 32 30 false (s.add 9):=fun s=>rfl
 have e3:∀ s:Seen,inSet cdP c 32 30 false s=if isWord c then .ok (false,(s.add 8).add 59) else .ok (true,((s.add 8).add 59).add 0):=fun s=>by
  show (category 4 c >>= fun b=>if b=true then pure (false,(s.add 8).add 59) else inSet cdP c 31 32 false ((s.add 8).add 59))=_
  rw[show category 4 c=.ok (isWord c) by unfold category;cases isWord c <;> rfl]
  show (if isWord c=true then _ else _)=_
  cases isWord c <;> rfl
 rw[e1,e2,chs20]
 unfold safeC
 cases chsC c
 ·rw[if_neg (by decide),e3]
  cases isWord c
  ·exact ⟨_,rfl⟩
  ·exact ⟨_,rfl⟩
 ·exact ⟨_,rfl⟩
theorem adm_none {m:M} (hc:m.code=cdP):∀ (fuel s:Nat) (seen:Seen),(∀ i,s≤i→i<m.lim→safeC (m.text.getD i 0)=true)→∃ s',m.admitted fuel s seen=.ok (none,s')
 | 0,s,seen,h=>⟨_,rfl⟩
 | fuel+1,s,seen,h=>by
  unfold M.admitted
  by_cases hs:s≥m.lim
  ·rw[if_pos hs];exact ⟨_,rfl⟩
  ·rw[if_neg hs]
   obtain ⟨s',e⟩:=inSet5 (m.text.getD s 0) seen
   rw[h s (Nat.le_refl _) (by lia)] at e
   rw[hc,show cdP.size=34 from rfl,e]
   exact adm_none hc fuel (s+1) s' fun i h1 h2=>h i (by lia) h2
theorem adm_some {m:M} (hc:m.code=cdP):∀ (fuel s:Nat) (seen:Seen),m.lim<s+fuel→(∃ i,s≤i∧i<m.lim∧safeC (m.text.getD i 0)=false)→∃ p s',m.admitted fuel s seen=.ok (some p,s')∧p<m.lim∧safeC (m.text.getD p 0)=false
 | 0,s,seen,hf,⟨i,h1,h2,_⟩=>by lia
 | fuel+1,s,seen,hf,⟨i,h1,h2,h3⟩=>by
  unfold M.admitted
  rw[if_neg (by lia)]
  obtain ⟨s',e⟩:=inSet5 (m.text.getD s 0) seen
  rw[hc,show cdP.size=34 from rfl,e]
  cases hq:safeC (m.text.getD s 0) with
  | false=>exact ⟨s,s',rfl,by lia,hq⟩
  | true =>
   refine adm_some hc fuel (s+1) s' (by lia) ⟨i,?_,h2,h3⟩
   rcases Nat.lt_or_ge s i with q | q
   ·exact q
   ·have:s=i:=by lia
    rw[this,h3] at hq;cases hq
noncomputable def m0 (text:Array Nat):M:={code:=cdP,text,lim:=text.size,start:=0,pc:=18,pos:=0,handed:=0,marks:=#[],mustAdvance:=false,seen:=({}:Seen).add 14,lastStart:=text.size}
theorem forSearch_eq (text:Array Nat) (h:0<text.size):forSearch cdP text 0 0 text.size false=(m0 text).attemptFrom 0 true:=by
 have e:forSearch cdP text 0 0 text.size false=if (decide (0>text.size) || decide (text.size - 0<1))=true then _ else (m0 text).attemptFrom 0 true:=rfl
 rw[e,if_neg (by rw[decide_eq_false (show ¬ (0>text.size) by lia),decide_eq_false (show ¬ (text.size - 0<1) by lia)];decide)]
theorem search_none (text:Array Nat) (h0:0<text.size) (h:∀ c∈text.toList,safeC c=true):∃ m,(forSearch cdP text 0 0 text.size false).runFor 4=m∧m.outcome=some .failed:=by
 rw[forSearch_eq text h0]
 obtain ⟨s',e⟩:=adm_none (m:=m0 text) rfl (text.size+1 - 0) 0 (({}:Seen).add 14) fun i _ h2=>by
  have h2:i<text.size:=h2
  have:(m0 text).text.getD i 0=text[i]:=by show text.getD i 0=_;simp [Array.getD,h2]
  rw[this];exact h _ (by simp)
 have e2:(m0 text).attemptFrom 0 true=match (m0 text).admitted (text.size+1 - 0) 0 (({}:Seen).add 14) with
  | .ok (some s,seen)=>{m0 text with mustAdvance:=false,seen}.attemptAt s true
  | .ok (none,seen)=>{m0 text with seen}.say false
  | .error why=>(m0 text).stick why:=rfl
 rw[e2,e]
 exact ⟨_,rfl,rfl⟩
theorem search_some (text:Array Nat) (h:∃ c∈text.toList,safeC c=false):∃ m,(forSearch cdP text 0 0 text.size false).runFor 4=m∧m.outcome=some .matched:=by
 obtain ⟨c,hc,hs⟩:=h
 obtain ⟨i,hi,ei⟩:=List.mem_iff_getElem.mp hc
 have hi':i<text.size:=by simpa using hi
 have h0:0<text.size:=by lia
 rw[forSearch_eq text h0]
 obtain ⟨p,s',e,hp,hb⟩:=adm_some (m:=m0 text) rfl (text.size+1 - 0) 0 (({}:Seen).add 14) (by show text.size<_;lia) ⟨i,Nat.zero_le _,hi',by
  have:(m0 text).text.getD i 0=text[i]:=by show text.getD i 0=_;simp [Array.getD,hi']
  rw[this]
  have ei:text[i]=c:=by simpa using ei
  rw[ei];exact hs⟩
 have e2:(m0 text).attemptFrom 0 true=match (m0 text).admitted (text.size+1 - 0) 0 (({}:Seen).add 14) with
  | .ok (some s,seen)=>{m0 text with mustAdvance:=false,seen}.attemptAt s true
  | .ok (none,seen)=>{m0 text with seen}.say false
  | .error why=>(m0 text).stick why:=rfl
 rw[e2,e]
 have hp:p<text.size:=hp
 have hb:safeC (text.getD p 0)=false:=hb
 let m1:M:={m0 text with mustAdvance:=false,seen:=s',start:=p,pos:=p,lastmark:=-1,lastindex:=-1,frames:=[{wait:=.nextStart,pc:=18,pos:=p,outermost:=true}],weight:=1,pc:=18,handed:=p,outermost:=true}
 have a1:({m0 text with mustAdvance:=false,seen:=s'}:M).attemptAt p true=m1:=rfl
 obtain ⟨s'',e3⟩:=inSet20 (text.getD p 0) (s'.add 13)
 rw[hb] at e3
 have a2:m1.step=if p≥text.size then _ else match inSet cdP (text.getD p 0) 34 20 true (s'.add 13) with
  | .error why=>_
  | .ok (false,seen)=>_
  | .ok (true,seen)=>{m1 with seen,pc:=33,pos:=p+1}:=rfl
 rw[if_neg (by lia),e3] at a2
 show ∃ m,(({m0 text with mustAdvance:=false,seen:=s'}:M).attemptAt p true).runFor 4=m∧_
 rw[a1]
 show ∃ m,m1.step.runFor 3=m∧_
 rw[a2]
 exact ⟨_,rfl,rfl⟩
end Mine.Internal
end
section
open PySem PySem.StrLaws
namespace Mine.Internal
noncomputable def qtE (l:List Nat):List Nat:=l.flatMap fun c=>if c=39 then [39,34,39,34,39] else [c]
noncomputable def qt (l:List Nat):List Nat:=if l=[] then [39,39] else if l.all safeC then l else 39 :: qtE l++[39]
theorem qtE_append (a b:List Nat):qtE (a++b)=qtE a++qtE b:=List.flatMap_append
theorem qtE_free:∀ l:List Nat,39∉l→qtE l=l
 | [],_=>rfl
 | k :: r,h=>by
  have h1:¬ k=39:=fun e=>h (e▸List.mem_cons_self ..)
  show (if k=39 then _ else [k])++qtE r=_
  rw[if_neg h1,qtE_free r fun m=>h (List.mem_cons_of_mem _ m)];rfl
theorem qtE_join:∀ parts:List Str,(∀ p∈parts,39∉p.cps.toList)→qtE (Str.join ⟨#[39]⟩ parts).cps.toList=(Str.join ⟨#[39,34,39,34,39]⟩ parts).cps.toList
 | [],_=>rfl
 | [p],h=>qtE_free _ (h p (List.mem_singleton.mpr rfl))
 | p :: q :: r,h=>by
  have ih:=qtE_join (q :: r) fun a ha=>h a (List.mem_cons_of_mem _ ha)
  show qtE (p++⟨#[39]⟩++Str.join ⟨#[39]⟩ (q :: r)).cps.toList=(p++⟨#[39,34,39,34,39]⟩++Str.join ⟨#[39,34,39,34,39]⟩ (q :: r)).cps.toList
  simp only [Str.cps_append,Array.toList_append]
  rw[qtE_append,qtE_append,ih,qtE_free _ (h p (List.mem_cons_self ..))]
  rfl
theorem replace_q (x:Str):Txt.replace x (mk [39]) (mk [39,34,39,34,39])=mk (qtE (L x)):=by
 refine L_inj ?_
 rw[L_mk]
 show (Txt.replace x ⟨#[39]⟩ ⟨#[39,34,39,34,39]⟩).cps.toList=_
 rw[replace_one,← qtE_join _ (split_free x 39),join_split]
theorem qtE_len:∀ l:List Nat,(qtE l).length≤5 * l.length
 | []=>Nat.le_refl _
 | k :: r=>by
  show ((if k=39 then [39,34,39,34,39] else [k])++qtE r).length≤_
  have:=qtE_len r
  rw[List.length_append,List.length_cons]
  split <;> simp <;> lia
theorem qt_len (l:List Nat):(qt l).length≤5 * l.length+2:=by
 unfold qt
 have:=qtE_len l
 split
 ·simp
 ·split
  ·lia
  ·simp;lia
end Mine.Internal
end
section
open PySem
namespace Mine.Internal
noncomputable def SP:List Nat:=[10,9,13,32,39,34,92]
inductive LS where
 | sp | wd | qs | qd
inductive LexR where
 | tok (t:List Nat) (q:Bool) (st:Bool) (rest:List Nat)
noncomputable def lexGo:LS→List Nat→Bool→List Nat→LexR
 | .sp,tok,q,[]=>.tok tok q false []
 | .wd,tok,q,[]=>.tok tok q false []
 | .qs,tok,q,[]=>.tok tok q false []
 | .qd,tok,q,[]=>.tok tok q false []
 | .sp,tok,q,c :: r=>if c=32 then (if tok=[]∧q=false then lexGo .sp tok q r else .tok tok q true r) else if c=39 then lexGo .qs tok q r else if c=34 then lexGo .qd tok q r else lexGo .wd [c] q r
 | .wd,tok,q,c :: r=>if c=32 then (if tok=[]∧q=false then lexGo .sp tok q r else .tok tok q true r) else if c=39 then lexGo .qs tok q r else if c=34 then lexGo .qd tok q r else lexGo .wd (tok++[c]) q r
 | .qs,tok,q,c :: r=>if c=39 then lexGo .wd tok true r else lexGo .qs (tok++[c]) true r
 | .qd,tok,q,c :: r=>if c=34 then lexGo .wd tok true r else lexGo .qd (tok++[c]) true r
noncomputable def lexOk:LS→List Nat→Bool
 | .sp,[]=>true
 | .wd,[]=>true
 | .qs,[]=>false
 | .qd,[]=>false
 | .sp,c :: r=>if c=39 then lexOk .qs r else if c=34 then lexOk .qd r else if c=32 then lexOk .sp r else lexOk .wd r
 | .wd,c :: r=>if c=39 then lexOk .qs r else if c=34 then lexOk .qd r else if c=32 then lexOk .sp r else lexOk .wd r
 | .qs,c :: r=>if c=39 then lexOk .wd r else lexOk .qs r
 | .qd,c :: r=>if c=34 then lexOk .wd r else lexOk .qd r
noncomputable def lexC (c:Nat):Bool:=c==32 || c==39 || c==34 || !SP.contains c
inductive Toks:List Nat→List (List Nat)→Prop
 | nil {r s:List Nat} {st:Bool} (h:lexGo .sp [] false r=.tok [] false st s) (hc:r.all lexC=true) (hq:lexOk .sp r=true):Toks r []
 | last {r tk:List Nat} {q:Bool} {s:List Nat} (h:lexGo .sp [] false r=.tok tk q false s) (hx:¬ (q=false∧tk=[])) (hs:s=[]) (hc:r.all lexC=true) (hq:lexOk .sp r=true):Toks r [tk]
 | cons {r tk:List Nat} {q:Bool} {s p:List Nat} {l:List (List Nat)} (h:lexGo .sp [] false r=.tok tk q true s) (hx:¬ (q=false∧tk=[])) (hs:r=p++s) (hc:r.all lexC=true) (hq:lexOk .sp r=true) (hr:Toks s l):Toks r (tk :: l)
end Mine.Internal
end
section
open PySem PySem.W PyProof.Rows
namespace Mine.Internal
noncomputable def wcP:Str:=Str.ofString "abcdfeghijklmnopqrstuvwxyzABCDEFGHIJKLMNOPQRSTUVWXYZ0123456789_"++Str.ofString "ßàáâãäåæçèéêëìíîïðñòóôõöøùúûüýþÿÀÁÂÃÄÅÆÇÈÉÊËÌÍÎÏÐÑÒÓÔÕÖØÙÚÛÜÝÞ"
noncomputable def lexAt (j:Nat) (st:D) (tok:Str):List (Str×D):=[("instream",.obj j),("infile",.none),("posix",.bool true),("eof",.none),("commenters",.str ""),("wordchars",.str wcP),("whitespace",.str " \t\r\n"),("whitespace_split",.bool true),("quotes",.str "'\""),("escape",.str "\\"),("escapedquotes",.str "\""),("state",st),("pushback",.emp "collections.deque"),("lineno",.int 1),("debug",.int 0),("token",.str tok),("filestack",.emp "collections.deque"),("source",.none),("_punctuation_chars",.str "")]
section
variable {j:Nat} {st:D} {tok:Str}
theorem lx0:lk (lexAt j st tok) "instream"=some (.obj j):=by kernel_rfl
theorem lx2:lk (lexAt j st tok) "posix"=some (.bool true):=by kernel_rfl
theorem lx3:lk (lexAt j st tok) "eof"=some (.none):=by kernel_rfl
theorem lx4:lk (lexAt j st tok) "commenters"=some (.str ""):=by kernel_rfl
theorem lx5:lk (lexAt j st tok) "wordchars"=some (.str wcP):=by kernel_rfl
theorem lx6:lk (lexAt j st tok) "whitespace"=some (.str " \t\r\n"):=by kernel_rfl
theorem lx7:lk (lexAt j st tok) "whitespace_split"=some (.bool true):=by kernel_rfl
theorem lx8:lk (lexAt j st tok) "quotes"=some (.str "'\""):=by kernel_rfl
theorem lx9:lk (lexAt j st tok) "escape"=some (.str "\\"):=by kernel_rfl
theorem lx11:lk (lexAt j st tok) "state"=some (st):=by kernel_rfl
theorem lx12:lk (lexAt j st tok) "pushback"=some (.emp "collections.deque"):=by kernel_rfl
theorem lx14:lk (lexAt j st tok) "debug"=some (.int 0):=by kernel_rfl
theorem lx15:lk (lexAt j st tok) "token"=some (.str tok):=by kernel_rfl
theorem lx16:lk (lexAt j st tok) "filestack"=some (.emp "collections.deque"):=by kernel_rfl
theorem lx17:lk (lexAt j st tok) "source"=some (.none):=by kernel_rfl
theorem lx18:lk (lexAt j st tok) "_punctuation_chars"=some (.str ""):=by kernel_rfl
theorem lu0 {d:D}:upd (lexAt j st tok) "state" d=lexAt j d tok:=by kernel_rfl
theorem lu1 {s:Str}:upd (lexAt j st tok) "token" (.str s)=lexAt j st s:=by kernel_rfl
end
theorem lkm {x:Str} {d:D}:∀ {l:List (Str×D)},lk l x=some d→(x,d)∈l
 | [],h=>by cases h
 | (y,e) :: r,h=>by
  rw[lk_cons] at h
  by_cases q:x=y
  ·rw[if_pos q] at h;cases h;rw[q];exact .head _
  ·rw[if_neg q] at h;exact .tail _ (lkm h)
theorem Sub.of3 {l:List (Str×D)} {x y z:Str} {a b c:D} (h1:lk l x=some a) (h2:lk l y=some b) (h3:lk l z=some c):Sub [(x,a),(y,b),(z,c)] l:=fun u d hu=>by
 have:=lkm hu
 rcases List.mem_cons.mp this with e | this
 ·cases e;exact h1
 rcases List.mem_cons.mp this with e | this
 ·cases e;exact h2
 rcases List.mem_cons.mp this with e | this
 ·cases e;exact h3
 ·cases this
theorem contains_one (y:Str) (c:Nat):Txt.contains y (mk [c])=decide (c∈L y):=PySem.StrLaws.found_one y c
noncomputable def LX:List Nat:=[10,9,13,92]
def Oth (c:Nat):Prop:=lexC c=true
theorem Oth.ne {c:Nat} (h:Oth c) {d:Nat} (hd:LX.contains d=true):c≠d:=fun e=>by
 subst e
 have:c∈LX:=by simpa using hd
 have hn:∀ d∈LX,lexC d=false:=by decide
 unfold Oth at h
 rw[hn c this] at h;cases h
section
variable {T:TopT} {w:World} {n:Nat} {env:Env} {loc:List (Str×D)} {objs:List AO} {Q:D→List AO→Prop}
theorem EvS.mono {st:Stmt} {Q Q':Fl→List (Str×D)→List AO→Prop} (h:EvS T w n env st loc objs Q) (k:∀ f l o,Q f l o→Q' f l o):EvS T w n env st loc objs Q' :=
 fun A s K R X F=>wE (h A s K R X F) fun _ _ ⟨K',f,l,o,p,F',r,q⟩=>⟨K',f,l,o,p,F',r,k _ _ _ q⟩
theorem EvS.to {st:Stmt} {Q:Fl→List (Str×D)→List AO→Prop} (l:List (Str×D)) (o:List AO) (h:EvS T w n env st loc objs fun f l' o'=>f=.next∧l'=l∧o'=o) (k:Q .next l o):EvS T w n env st loc objs Q:=h.mono fun f l' o' ⟨a,b,c⟩=>by subst a b c;exact k
theorem EvS.toS {st:Stmt} {rest:List Stmt} {Q:Fl→List (Str×D)→List AO→Prop} (l:List (Str×D)) (o:List AO) (h:EvS T w n env st loc objs fun f l' o'=>f=.next∧o'=o∧Sub l l') (k:EvSs T w n env rest l o Q):EvS T w n env st loc objs (kSeq T w n env rest Q):=h.mono fun f l' o' ⟨a,b,c⟩=>by subst a b;exact EvSs.weak c k
theorem o_ge_f {a b:Int} (e:decide (a≥b)=false) (h:Q (.bool false) objs):Op2 T w n (compareOp .GtE) (.int a) (.int b) objs Q:=o_ge_int (by rw[e];exact h)
theorem o_gt_f {a b:Int} (e:decide (a>b)=false) (h:Q (.bool false) objs):Op2 T w n (compareOp .Gt) (.int a) (.int b) objs Q:=o_gt_int (by rw[e];exact h)
theorem o_eqs_t {x y:Str} (e:(x.cps.toList==y.cps.toList)=true) (h:Q (.bool true) objs):Op2 T w n (compareOp .Eq) (.str x) (.str y) objs Q:=o_eq_str (by rw[e];exact h)
theorem o_eqs_f {x y:Str} (e:(x.cps.toList==y.cps.toList)=false) (h:Q (.bool false) objs):Op2 T w n (compareOp .Eq) (.str x) (.str y) objs Q:=o_eq_str (by rw[e];exact h)
theorem o_eqs_oth {c:Nat} {y:Str} (hc:Oth c) (hy:((L y).length != 1 || LX.contains ((L y).headD 0))=true) (h:Q (.bool false) objs):Op2 T w n (compareOp .Eq) (.str (mk [c])) (.str y) objs Q:=o_eqs_f (by
 show ([c]==L y)=false
 cases hl:L y with
 | nil=>rfl
 | cons d r =>
  rw[hl] at hy
  cases r with
  | cons d' r=>simp
  | nil =>
   have hd:LX.contains d=true:=by simpa using hy
   have:=hc.ne hd
   simpa using this) h
theorem inC {x y:Str} {c:Nat} (hx:L x=[c]):Txt.contains y x=decide (c∈L y):=by rw[← mk_L x,hx];exact contains_one y c
theorem o_ins_t {x y:Str} (hx:(match L x with | [c]=>decide (c∈L y) | _=>false)=true) (h:Q (.bool true) objs):Op2 T w n (compareOp .In) (.str x) (.str y) objs Q:=o_in_str (by
 match hl:L x with
 | []=>rw[hl] at hx;cases hx
 | [c]=>rw[hl] at hx;rw[inC hl,show decide (c∈L y)=_ from hx];exact h
 | _ :: _ :: _=>rw[hl] at hx;cases hx)
theorem o_ins_f {x y:Str} (hx:(match L x with | [c]=>decide (c∈L y) | _=>true)=false) (h:Q (.bool false) objs):Op2 T w n (compareOp .In) (.str x) (.str y) objs Q:=o_in_str (by
 match hl:L x with
 | []=>rw[hl] at hx;cases hx
 | [c]=>rw[hl] at hx;rw[inC hl,show decide (c∈L y)=_ from hx];exact h
 | _ :: _ :: _=>rw[hl] at hx;cases hx)
theorem o_in_tup2 {x a b:Str} (e:([a,b].any fun y=>y.cps.toList==x.cps.toList)=true) (h:Q (.bool true) objs):Op2 T w n (compareOp .In) (.str x) (.tup [.str a,.str b]) objs Q:=o_in_tstrs (l:=[a,b]) (by
 rw[show ([a,b].any (·==x))=true from by
  obtain ⟨y,hy,e⟩:=List.any_eq_true.mp e
  exact List.any_eq_true.mpr ⟨y,hy,beq_iff_eq.mpr (L_inj (by simpa [L] using e))⟩]
 exact h)
theorem o_nins_oth {c:Nat} {y:Str} (hc:Oth c) (hy:(L y).all LX.contains=true) (h:Q (.bool true) objs):Op2 T w n (compareOp .NotIn) (.str (mk [c])) (.str y) objs Q:=o_nin_str (by
 rw[contains_one,decide_eq_false (fun hm=>hc.ne (List.all_eq_true.mp hy c hm) rfl)];exact h)
theorem o_ins_oth {c:Nat} {y:Str} (hc:Oth c) (hy:(L y).all LX.contains=true) (h:Q (.bool false) objs):Op2 T w n (compareOp .In) (.str (mk [c])) (.str y) objs Q:=o_in_str (by
 rw[contains_one,decide_eq_false (fun hm=>hc.ne (List.all_eq_true.mp hy c hm) rfl)];exact h)
end
section
variable {fs:List Env} {w:World} {n:Nat} {objs:List AO} {Q:D→List AO→Prop}
theorem f_punct {k:Nat} {at_:List (Str×D)} {d:D} (kl:k<objs.length) (hd:lk at_ ("_punctuation_chars":Str)=some d) (hb:notBi d=true) (h:Q d (objs.set k (.inst 894 at_))):XCode (topT w.params fs) w (n+1) (.ref 825) [.obj k] [] [] (objs.set k (.inst 894 at_)) Q:=by
 refine xcd (dk_825 _) (bind1 (x := "self") fun _=>rfl) (by kernel_rfl) fun L fs=>?_
 refine ss_cons (s_return (ev_attr rfl (ev_local (by kernel_rfl) lk_here (ga_set cls_894 kl (by kernel_rfl) hd hb ?_) rfl)))
 exact h
theorem ga_punct {k:Nat} {at_:List (Str×D)} {y:Str} (kl:k<objs.length) (hd:lk at_ ("_punctuation_chars":Str)=some (.str y)) (h:Q (.str y) (objs.set k (.inst 894 at_))):GetA (topT w.params fs) w (n+2) (.obj k) ("punctuation_chars":Str) (objs.set k (.inst 894 at_)) Q :=
 gp_set (p:=826) (fget:=825) (rest:=[.none,.none,.none,.str "punctuation_chars" 1361,.bool false]) cls_894 kl (by kernel_rfl) (by kernel_rfl) (by kernel_rfl) (by kernel_rfl) (f_punct kl hd rfl ⟨rfl,h⟩)
end
end Mine.Internal
end
section
open PySem PySem.W PyProof.Rows PySem.Calls Builtin
namespace Mine.Internal
section
variable {fs:List Env} {w:World} {n:Nat} {objs:List AO} {Q:D→List AO→Prop}
theorem bindArgs_203 (v u:Value):bindArgs fd_203 ⟨[v,u],[]⟩=(do let t ← newTuple [u];let d ← alloc {cls:=.type "dict",data:=.dict #[]};pure [("cls",v),("args",t),("kwargs",.ref d)]):=by rfl
theorem binds_203 {e:D}:BindsS (topT w.params fs) w fd_203 [.val (.ref 710),e] [] [] objs (fun v=>[("cls",.val (.ref 710)),("args",.tup [e]),("kwargs",.val v)]) objs:=fun A K s vs ks R E X r rk hR=>by
 obtain ⟨_,_,rfl,rfl,r1,r2⟩:=args2 r rk
 obtain rfl:=r1.inv
 rename_i u
 show wpAny _ A (bindArgs fd_203 ⟨[.ref 710,u],[]⟩) _ _ _
 rw[bindArgs_203]
 refine wpAny_bind (wpAny_newObj_type ?_ (by size_fits))
 refine wpAny_bind (wpAny_alloc (wpAny_pure ?_))
 have P₁:=Post.push X (tupO [u] 0)
 have P₂:=Post.push P₁.tr emptyDict
 exact hR _ _ K _ (P₁.trans P₂) (.cons (.val _) (.cons (P₂.vr (.tup (Heap.get?_push_size _ rfl) (fresh_not X) (Nat.le_of_ble_eq_true rfl) (.cons (P₁.vr r2) .nil))) (.cons (.val _) .nil)))
end
end Mine.Internal
end
section
open PySem PySem.W PyProof.Rows PySem.Calls Builtin Builtin.ObjectAttr Builtin.Getset_descriptor
set_option maxHeartbeats 4000000
namespace Mine.Internal
section
variable {fs:List Env} {w:World} {n:Nat} {objs:List AO} {Q:D→List AO→Prop} {A:Around}
theorem io_cls (P:Params):∃ oc od cd sl,(topObjs P).lookup 710=some ⟨oc,od,.cls cd,sl⟩∧cd.abstract=false∧cd.hasDel=false:=⟨_,_,_,_,rfl,rfl,rfl⟩
theorem new_io0 {h:Heap} {g:Array GenState} {d:Drawn} {t:Nat} {os:OsState} {R:Result→Shared→Prop} (X:Frag.In (topObjs w.params) h)
  (hq:R (.ok (.ret (.ref (h.objs.size+1)))) ⟨(h.push emptyDict).push (instObj 710 h.objs.size),g,d,t,os⟩) :
  codeAny (model pw w) A (.call (.builtin "object.__new__") ⟨[.ref 710],[]⟩) R ⟨h,g,d,t,os⟩:=by
 obtain ⟨oc,od,cd,sl,hC,e1,e2⟩:=io_cls w.params
 have hC:=X _ _ hC
 have F:=PySem.F.objNew
 have base:Looks (model pw w) h (Bind.staticBase (.ref 710)) (.type "object"):=Looks.of_peek X (by kernel_rfl)
 have made:Looks (model pw w) h (Bind.madeBy (.type "object")) (some "object.__new__"):=Looks.of_peek X (by kernel_rfl)
 have here:Looks (model pw w) h (Bind.madeHere "object.__new__" (.ref 710)) ():=Looks.of_peek X (by kernel_rfl)
 have top:Looks (model pw w) h (isSubtype (.ref 710) (.type "object")) true:=Looks.of_peek X (by kernel_rfl)
 have typ:Looks (model pw w) h (isInstance (.ref 710) (.type "type")) true:=Looks.of_peek X (by kernel_rfl)
 refine codeAny_call_builtin_code (Code.quiet_builtin _ F.quiet) ?_
 unfold checkBuiltinCall
 rw[F.kind,F.split,F.row]
 dsimp only
 have args:Bind.checkArgs "object.__new__" ⟨.hand, "object.__new__", "__new__",.cls,[]⟩ ⟨[.ref 710],[]⟩=pure ():=by kernel_rfl
 rw[args]
 repeat (first | simp only [bne_self_eq_false,Bool.false_eq_true,if_false] | lk)
 refine codeAny_builtin F.entry ?_
 unfold Builtin.«object.__new__»
 have fin:∀ A',wpAny (model pw w) A' (do
   let d ← if typeHasDict (.ref 710) then some <$> alloc {cls:=.type "dict",data:=.dict #[]} else pure none
   ret (← newObj (.ref 710) .plain d)) (fun fin s'=>match fin with | .done f=>R (.ok f) s' | .again c'=>c'.quiet=true∧codeAny (model pw w) A c' R s') (fun e s'=>R (.error e) s') ⟨h,g,d,t,os⟩:=by
  intro A'
  show wpAny _ _ ((alloc emptyDict >>= fun x=>pure (some x)) >>= _) _ _ _
  refine wpAny_bind (wpAny_bind (wpAny_alloc (wpAny_pure (wpAny_bind ?_))))
  show wpAny _ _ (newObjAsIs _ _ _) _ _ _
  unfold newObjAsIs classHasDel
  refine wpAny_bind (wpAny_alloc (wpAny_bind (wpAny_bind (wpAny_load (Heap.get?_push_of_some _ (Heap.get?_push_of_some _ hC)) (wpAny_pure ?_)))))
  rw[e2]
  refine wpAny_pure (wpAny_pure ?_)
  show R _ _
  rw[Heap.size_push]
  exact hq
 repeat (first | simp only [e1,Bool.false_eq_true,if_false] | exact fin _ | lk)
theorem gm_object {s:Shared} {pl:Sem Bool} {Q:Value×List Value→Shared→Prop} {E:Value→Shared→Prop} (X:Frag.In (topObjs w.params) s.heap) (h:Q (.builtin "object.__new__",[]) {s with toks:=s.toks+1}):wpAny (model pw w) A (getMethod (.type "object") "__new__" pl) Q E s:=by
 have hstub:opaqueClassAbove (.type "object")=pure none:=by
  unfold opaqueClassAbove;dsimp only;rw[show Manifest.isStub "object"=false by kernel_rfl];rfl
 have L0:Looks (model pw w) s.heap (typeOf (.type "object")) (.type "type"):=Looks.of_pure (by kernel_rfl)
 have hg:findIn (topObjs w.params) (.type "type") "__getattribute__"=some (some (.builtin "type.__getattribute__")):=type_tga
 unfold getMethod specialOf
 with_reducible refine wpAny_bind (wpAny_bind (L0.here ((looks_findIn X hg).here ?_)))
 dsimp only
 rw[if_pos canon_tga]
 refine wpAny_bind (wpAny_mono (Q:=fun v=>Q (v,[])) (E:=E) ?_ (fun _ _ z=>wpAny_pure z) fun _ _ z=>z)
 have LO:Looks (model pw w) s.heap (opaqueClassAbove (.type "object")) none:=Looks.of_pure hstub
 refine cls_open (r:=.val (.builtin "object.__new__")) X LO L0 hg (looks_hook X (r:=none) (by rfl)) (by show subIn _ _ _=_;rfl) (by kernel_rfl)
  (wpAny_pure (by show wpAny _ _ (handedOut _) _ _ _;rw[handedOut_of (by rfl)];exact wpAny_pure h))
end
section
variable {fs:List Env} {w:World} {n:Nat} {env:Env} {loc:List (Str×D)} {objs:List AO} {Q:D→List AO→Prop}
theorem x_objnew:XC (topT w.params fs) w n (.builtin "object.__new__") [.val (.ref 710)] [] [] objs fun d o=>d=.obj objs.length∧o=objs++[.inst 710 []] :=
 ⟨keep_builtin,fun A s K vs ks R X r rk=>by
  obtain ⟨_,rfl,rfl,r1⟩:=args1 r rk
  obtain rfl:=r1.inv
  have P:=Post.inst (c:=710) X
  obtain ⟨hh,g,d,t,os⟩:=s
  refine wpAny_call (new_io0 X.top.fin ⟨_,_,_,P,obj_last (p:=(hh.objs.size+1,[hh.objs.size])) X,rfl,rfl⟩)⟩
theorem ev_objnew {o:PySem.Expr} {apos pos:Pos} {a:PySem.Expr} (ha:[a].all notStar=true)
  (hb:∀ whole,attributeBase o "__new__" env whole=whole) (hline:(apos.endLine==pos.line)=true)
  (h:EvE (topT w.params fs) w n env o loc objs fun d o₁=>d=.val (.type "object")∧EvE (topT w.params fs) w n env a loc o₁ fun d o₂=>d=.val (.ref 710)∧Q (.obj o₂.length) (o₂++[.inst 710 []])) :
  EvE (topT w.params fs) w n env (.Call (.Attribute o "__new__" apos) [a] [] pos) loc objs Q:=fun A s K R X F=>by
 rw[arm_mcall,hb]
 refine wpAny_bind (wE (h A s K R X F) fun ov s₁ ⟨K₁,d,o₁,p₁,r₁,ed,q₁⟩=>wpAny_bind (wpAny_standAt ?_))
 subst ed
 obtain rfl:=r₁.inv
 have few:methodCallForm ([a].length+([]:List Keyword).length) (backTo pos (starEach [a] env)) (backToKw pos (keywordEach [] env))=true:=by
  unfold methodCallForm
  rw[args_plain ha,(kws_names (pos:=pos) (env:=env) (ks:=[]) (by rfl)).1,Bool.true_and,Bool.true_and,decide_eq_true_eq]
  split <;> simp
 unfold methodCall
 rw[few]
 with_reducible refine wpAny_bind (wpAny_holding ?_)
 show wpAny _ _ (getMethod (.type "object") "__new__" _) _ _ _
 refine gm_object p₁.tr.top.fin ?_
 dsimp only
 have hp:methodCallPos true o env apos pos=pure pos:=by unfold methodCallPos;rw[hline];rfl
 rw[hp]
 refine wpAny_bind (wpAny_pure ?_)
 have P₁:=Post.tok p₁.tr (s₁.toks+1) (Nat.succ_pos _)
 refine wE (call_tail (kws:=[]) (f:=.builtin "object.__new__") (first:=[]) (fv:=[]) (Q:=Q) ha rfl R P₁.tr ((F.post p₁).post P₁) .nil ?_) fun _ _ x=>x.behind (p₁.trans P₁)
 refine es_cons (by simpa using ha) (fun A s K R X F=>wE (q₁ A s K R X F) fun v s' ⟨K',d',o',p',r',ed',q'⟩=>⟨K',d',o',p',r',es_nil (ks_nil ?_)⟩)
 subst ed'
 refine ⟨keep_builtin,fun A s K vs ks R X r rk=>wE (x_objnew.2 A s K vs ks R X r rk) fun v s' ⟨K',d',o',p',r',e1,e2⟩=>?_⟩
 subst e1
 subst e2
 exact ⟨K',_,_,p',r',q'⟩
end
end Mine.Internal
end
section
open PySem PySem.W PyProof.Rows PySem.Calls Builtin Builtin.ObjectAttr Builtin.Getset_descriptor
set_option maxHeartbeats 4000000
namespace Mine.Internal
section
variable {T:TopT} {w:World} {n:Nat} {env:Env} {loc:List (Str×D)} {objs:List AO} {Q:D→List AO→Prop}
theorem o_nes_t {x y:Str} (e:(x.cps.toList != y.cps.toList)=true) (h:Q (.bool true) objs):Op2 T w n (compareOp .NotEq) (.str x) (.str y) objs Q:=o_ne_str (by rw[e];exact h)
theorem o_nes_f {x y:Str} (e:(x.cps.toList != y.cps.toList)=false) (h:Q (.bool false) objs):Op2 T w n (compareOp .NotEq) (.str x) (.str y) objs Q:=o_ne_str (by rw[e];exact h)
theorem set_last {X:AO}:objs++[X]=(objs++[X]).set objs.length X∧objs.length<(objs++[X]).length:=set_intro (by rw[List.getElem?_append_right (Nat.le_refl _),Nat.sub_self];rfl)
theorem o_isnot_ref {a b:Addr} (hne:Nat.beq a b=false) (hx:(T.objs.lookup a).any (fun o=>!(o.cls==.type "tuple"))=true) (hy:(T.objs.lookup b).isSome=true) (h:Q (.bool true) objs):Op2 T w n (compareOp .IsNot) (.val (.ref a)) (.val (.ref b)) objs Q:=fun A s K u v R X ru rv=>by
 obtain rfl:=ru.inv;obtain rfl:=rv.inv
 obtain ⟨ox,e1,e2⟩:=any_some hx
 obtain ⟨oy,e3⟩:=Option.isSome_iff_exists.mp hy
 exact wpAny_isNot_ref_other (fun e=>by rw[e,show Nat.beq b b=true from Nat.beq_refl b] at hne;cases hne) (X.top.fin _ _ e1) (X.top.fin _ _ e3) (fun e=>by rw[e] at e2;simp at e2) ⟨K,_,objs,.refl X,.bool _,h⟩
theorem o_isnot_refself {a:Addr} (h:Q (.bool false) objs):Op2 T w n (compareOp .IsNot) (.val (.ref a)) (.val (.ref a)) objs Q:=fun A s K u v R X ru rv=>by
 obtain rfl:=ru.inv;obtain rfl:=rv.inv
 exact wpAny_isNot_ref_self ⟨K,_,objs,.refl X,.bool _,h⟩
end
section
variable {fs:List Env} {w:World} {n:Nat} {objs:List AO} {Q:D→List AO→Prop}
theorem xcdS {a:Addr} {fd:FuncData} {body:List Stmt} {ds:List D} {names:List Str} {kds:List D} {Q:D→List AO→Prop} {objs₁:List AO} {locv:Value→List (Str×D)} (d:DefOK (topT w.params fs) a fd body)
  (hb:BindsS (topT w.params fs) w fd ds names kds objs locv objs₁) (hok:∀ v,locOk fd.scope.names (locv v)=true)
  (h:∀ v L fs,EvSs (topT w.params fs) w n (callEnv fd L a) body (locv v) objs₁ (kBody Q)):XCode (topT w.params fs) w (n+1) (.ref a) ds names kds objs Q:=xcode_defS d hb hok h
theorem keep_io:KeepF (topT w.params fs) w (.ref 710):=fun A K objs s Q X hq=>by
 obtain ⟨oc,od,cd,sl,hC,e1,e2⟩:=io_cls w.params
 have hC:=X.top.fin _ _ hC
 have call:Looks (model pw w) s.heap (specialOf (.ref 710) "__call__") (some (.builtin "type.__call__")):=Looks.of_peek X.top.fin (by kernel_rfl)
 unfold keeperOf
 refine wpAny_bind (wpAny_load hC ?_)
 dsimp only
 refine wpAny_bind (call.here ?_)
 exact wpAny_pure (hq _)
theorem x_make_io {e:D} (hnew:∀ {fs:List Env} {objs:List AO},XCode (topT w.params fs) w (n+1) (.ref 203) [.val (.ref 710),e] [] [] objs fun d o=>d=.obj objs.length∧o=objs++[.inst 710 []])
  (h:XCode (topT w.params fs) w (n+1) (.ref 480) [.obj objs.length,e] [] [] (objs++[.inst 710 []]) fun d o=>d=.none∧Q (.obj objs.length) o):XC (topT w.params fs) w (n+2) (.ref 710) [e] [] [] objs Q :=
 ⟨keep_io,fun A s K vs ks R X r rk=>by
  obtain ⟨_,rfl,rfl,r1⟩:=args1 r rk
  rename_i u
  obtain ⟨oc,od,cd,sl,hC,e1,e2⟩:=io_cls w.params
  have hC:=X.top.fin _ _ hC
  have X₀:=X.top.fin
  have Rt:Room (topT w.params fs) (A.under (.builtin "type.__call__" ⟨[.ref 710,u],[]⟩)) (n+1):=R.tc
  have call:Looks (model pw w) s.heap (specialOf (.ref 710) "__call__") (some (.builtin "type.__call__")):=Looks.of_peek X₀ (by kernel_rfl)
  have typ:Looks (model pw w) s.heap (isInstance (.ref 710) (.type "type")) true:=Looks.of_peek X₀ (by kernel_rfl)
  have hm:Looks (model pw w) s.heap (mroOf (.ref 710)) [.ref 710,.ref 233,.ref 206,.type "object"]:=Looks.of_peek X₀ (by kernel_rfl)
  have made:Looks (model pw w) s.heap (Bind.madeBy (.ref 710)) none:=Looks.of_peek X₀ (by kernel_rfl)
  refine wpAny_call (codeAny_of_tree ?_)
  show wpAny _ _ (callAny (.ref 710) _) _ _ _
  refine nd_load hC ?_
  show wpAny _ _ (callAny.viaDunder (.ref 710) _) _ _ _
  unfold callAny.viaDunder
  obtain ⟨hh,g,d,t,os⟩:=s
  refine wpAny_bind (call.at ?_)
  dsimp only
  rw[tc_bind]
  refine wpAny_bind (wpAny_pure (wpAny_bind (wpAny_pure ?_)))
  refine wpAny_pure (a:=Fin.again (.call (.builtin "type.__call__") ⟨[.ref 710,u],[]⟩)) (And.intro rfl ?_)
  refine codeAny_call_builtin_at (Code.quiet_builtin _ (by decide +kernel)) entry_typeCall ?_
  with_reducible refine check_slot tc_kind tc_split typ (tc_args _ _ _) ?_
  unfold Builtin.«type.__call__»
  dsimp only
  generalize hga:getAttr (Value.ref 710) (Str.ofString "__new__")=ga
  rw[if_neg (show ¬ ((Value.ref 710==Value.type "type")=true) from Bool.false_ne_true)]
  refine wpAny_bind (hm.here ?_)
  rw[if_neg (show ¬ (List.isEmpty [Value.ref 710,.ref 233,.ref 206,.type "object"]=true) from Bool.false_ne_true)]
  refine wpAny_bind (made.here ?_)
  dsimp only
  subst hga
  refine wpAny_bind (cls_bind (g:=.builtin "staticmethod.__get__") (a:=.ref 207) (obj:=.none) (tp:=.ref 710) X₀ (mc:=.type "type") (by kernel_rfl) (by kernel_rfl) ?_)
  refine wpAny_call (sm_get (f:=.ref 203) (rest:=[]) X₀ (by kernel_rfl) ?_)
  show wpAny _ _ (handedOut (.ref 203)) _ _ _
  rw[handedOut_of (by rfl)]
  have P₀:=Post.tok X (t+1) (Nat.succ_pos _)
  refine wpAny_pure (wpAny_bind (wpAny_holding (wpAny_call (codeAny_mono (hnew _ _ K [.ref 710,u] [] Rt P₀.tr (.cons (.val _) (.cons (P₀.vr r1) .nil)) .nil) fun r' s' z=>?_))))
  rcases r' with er | fl
  ·exact z.elim
  rcases fl with _ | _ | _ | v
  ·exact z.elim
  ·exact z.elim
  ·exact z.elim
  obtain ⟨K₁,d₁,o₁,p₁,rv,ed,eo⟩:=z
  subst ed
  subst eo
  obtain ⟨x,dx,sl',es,m,ev,hK,q1,q2,q3,I⟩:=inst_at p₁.tr rv (c:=710) (at_:=[]) (by rw[List.getElem?_append_right (Nat.le_refl _),Nat.sub_self];rfl)
  subst ev
  have P₁:=P₀.trans p₁
  have sub:Looks (model pw w) s'.heap (isSubtype (.ref 710) (.ref 710)) true:=Looks.of_peek p₁.tr.top.fin (by kernel_rfl)
  show wpAny _ _ (isInstance (.ref x) (.ref 710) >>= _) _ _ _
  refine wpAny_bind (wpAny_bind (I.type.here (sub.here ?_)))
  rw[if_neg (by decide)]
  refine wpAny_bind (wpAny_holding (special_fn (f:=480) p₁.tr.top.fin I (by kernel_rfl) (by kernel_rfl) (wpAny_call (codeAny_mono (h _ _ K₁ [.ref x,u] [] Rt p₁.tr (.cons rv (.cons (P₁.vr r1) .nil)) .nil) fun r' s₂ z=>?_))))
  rcases r' with er | fl
  ·exact z.elim
  rcases fl with _ | _ | _ | v
  ·exact z.elim
  ·exact z.elim
  ·exact z.elim
  obtain ⟨K₂,d₂,o₂,p₂,r₂,ed,q⟩:=z
  subst ed
  obtain rfl:=r₂.inv
  dsimp only
  rw[if_neg (show ¬ ((Value.none != Value.none)=true) by decide)]
  exact wpAny_pure ⟨K₂,_,o₂,P₁.trans p₂,p₂.vr rv,q⟩⟩
end
end Mine.Internal
end
section
open PySem PySem.W PyProof.Rows PySem.Calls Builtin PySem.SeqAt
namespace Mine.Internal
theorem unds_strs {m:Nat}:∀ (l:List Str),D.und m (.list (strD l))=true
 | []=>rfl
 | x :: l=>by
  have:=unds_strs (m:=m) l
  simpa [strD,D.und,D.unds] using this
section
variable {T:TopT} {w:World} {n:Nat} {env:Env} {loc:List (Str×D)} {objs:List AO} {Q:D→List AO→Prop}
theorem o_eq_nn (h:Q (.bool true) objs):Op2 T w n (compareOp .Eq) .none .none objs Q:=fun A s K u v R X ru rv=>by
 obtain rfl:=ru.inv;obtain rfl:=rv.inv
 exact RcAt.none_none pw w _ _ ⟨K,_,objs,.refl X,.bool _,h⟩
theorem o_eq_sn {x:Str} (h:Q (.bool false) objs):Op2 T w n (compareOp .Eq) (.str x) .none objs Q:=fun A s K u v R X ru rv=>by
 obtain ⟨_,rfl,_⟩:=ru.inv;obtain rfl:=rv.inv
 exact RcAt.str_none _ _ pw w _ _ ⟨K,_,objs,.refl X,.bool _,h⟩
theorem EvB.mono {e:PySem.Expr} {Q Q':Bool→List AO→Prop} (h:EvB T w n env e loc objs Q) (k:∀ b o,Q b o→Q' b o):EvB T w n env e loc objs Q':=fun A s K R X F=>wE (h A s K R X F) fun _ _ ⟨K',o,p,q⟩=>⟨K',o,p,k _ _ q⟩
inductive InvA {α:Type} (loc0:α→List (Str×D)) (I:Nat→α→List AO→Prop) (m:Nat) (l:List (Str×D)) (o:List AO):Prop
 | mk (x:α) (s:Sub (loc0 x) l) (i:I m x o)
theorem s_whileA {α:Type} {test:PySem.Expr} {body orelse:List Stmt} {pos:Pos} {Q:Fl→List (Str×D)→List AO→Prop} (loc0:α→List (Str×D)) (I:Nat→α→List AO→Prop) (n₀:Nat) (x₀:α) (hs:Sub (loc0 x₀) loc) (h0:I n₀ x₀ objs)
  (turn:∀ m x o,I m x o→EvB T w n env test (loc0 x) o (kWh T w n env body orelse (InvA loc0 I) Q m (loc0 x))):EvS T w n env (.While test body orelse pos) loc objs Q :=
 s_while (InvA loc0 I) n₀ ⟨x₀,hs,h0⟩ fun m l o ⟨x,hl,hi⟩=>EvB.weak hl (EvB.mono (turn m x o hi) fun b o₁ q=>by
  cases b with
  | true=>exact EvSs.weak hl (EvSs.mono q fun f l₂ o₂ z=>by cases f <;> exact z)
  | false=>exact EvSs.weak hl q)
@[reducible] def invW {α:Type} (ob:List AO) (ms:α→Nat) (P:α→Prop) (m:Nat) (x:α) (o:List AO):Prop:=o=ob∧m=ms x∧P x
theorem s_whileF {α:Type} {test:PySem.Expr} {body orelse:List Stmt} {pos:Pos} {Q:Fl→List (Str×D)→List AO→Prop} (loc0:α→List (Str×D)) (ms:α→Nat) (P:α→Prop) (x₀:α) (hs:Sub (loc0 x₀) loc) (hp:P x₀)
  (turn:∀ x,P x→EvB T w n env test (loc0 x) objs (kWh T w n env body orelse (InvA loc0 (invW objs ms P)) Q (ms x) (loc0 x))):EvS T w n env (.While test body orelse pos) loc objs Q :=
 s_whileA loc0 (invW objs ms P) (ms x₀) x₀ hs ⟨rfl,rfl,hp⟩ fun m x o hI=>by
  obtain ⟨rfl,rfl,hp⟩:=hI
  exact turn x hp
end
section
variable {fs:List Env} {w:World} {n:Nat} {objs:List AO} {Q:D→List AO→Prop} {P:Params} {loc:List (Str×D)}
theorem xcdX {a:Addr} {fd:FuncData} {body:List Stmt} {ds:List D} {names:List Str} {kds:List D} {Q:D→List AO→Prop} {X:XPost} (d:DefOK (topT P fs) a fd body)
  (hb:Binds (topT P fs) fd ds names kds objs loc) (hok:locOk fd.scope.names loc=true)
  (h:∀ L fs,EvSsX (topT P fs) w n (callEnv fd L a) body loc objs (kBody Q) (kX X)):XCodeX (topT P fs) w (n+1) (.ref a) ds names kds objs Q X:=xcodeX_def d hb hok h
end
end Mine.Internal
end
section
open PySem PySem.W PyProof.Rows PySem.Calls Builtin PySem.Builtin.Re
namespace Mine.Internal
section
variable {w:World} {A:Around} {E:Value→Shared→Prop} {s:Shared}
theorem forIn_quiet {l:List Nat} {b:Nat→PUnit→Sem (ForInStep PUnit)} (hb:∀ i u (Q:ForInStep PUnit→Shared→Prop),Q (.yield ⟨⟩) s→wpAny (model pw w) A (b i u) Q E s) {Q:PUnit→Shared→Prop} (h:Q ⟨⟩ s):wpAny (model pw w) A (forIn l ⟨⟩ b) Q E s:=by
 induction l with
 | nil=>exact wpAny_pure h
 | cons i l ih =>
  rw[List.forIn_cons]
  exact wpAny_bind (hb i ⟨⟩ _ ih)
theorem reDrive_one {m m':Sre.M} (e:m.runFor 4=m') (h:m'.outcome.isSome=true):reDrive (2 ^ 64) m=pure m':=by
 rw[show (2:Nat) ^ 64=18446744073709551615+1 from rfl,reDrive]
 show (if (m.runFor 4).outcome.isSome=true then pure (m.runFor 4) else _)=_
 rw[e,if_pos h]
theorem reRun {m m':Sre.M} (e:m.runFor 4=m') {y:Bool} (h:m'.outcome=some (if y then .matched else .failed)) {Q:Option Sre.M→Shared→Prop} (hq:Q (if y then some m' else none) s):wpAny (model pw w) A (reRunToEnd m) Q E s:=by
 unfold reRunToEnd
 rw[reDrive_one e (by rw[h];rfl)]
 refine wpAny_bind (wpAny_pure ?_)
 refine wpAny_bind (forIn_quiet (fun i u Q hQ=>?_) ?_)
 ·split
  ·exact wpAny_bind (wpAny_rule (wpAny_pure hQ))
  ·exact wpAny_pure hQ
 ·rw[h]
  cases y
  ·exact wpAny_pure hq
  ·exact wpAny_pure hq
end
theorem check_search (P:Params) (S:Setting) (x:Str) (t:Tok):peek (topObjs P) S (checkBoundCall "re.Pattern.search" ⟨[.ref 162,.str x t],[]⟩)=some ():=by kernel_rfl
theorem target_search (P:Params) (S:Setting) (x:Str) (t:Tok):peek (topObjs P) S (reTarget "re.Pattern.search" "search" ⟨[.ref 162,.str x t],[]⟩)=some {pattern:=.ref 162,string:=.str x t,code:=cdP,text:=x.cps,kind:=0,groups:=0,pos:=0,lim:=min ((2:Int) ^ 63 - 1).toNat x.cps.size}:=by kernel_rfl
theorem entry_search:entryFor table "re.Pattern.search"=some Builtin.«re.Pattern.search»:=entryFor_of_tree (by kernel_rfl)
theorem quiet_search {as:Args}:(Code.builtin "re.Pattern.search" as).quiet=true:=Code.quiet_builtin _ (by decide +kernel)
section
variable {fs:List Env} {w:World} {n:Nat} {objs:List AO} {Q:D→List AO→Prop}
theorem keep_search:KeepF (topT w.params fs) w (.ref 914):=fun A K objs s Q X hq=>by
 unfold keeperOf
 refine wpAny_bind (wpAny_load (X.top.objs _ (mem_914 w.params)) ?_)
 dsimp only
 show wpAny _ _ (if (Value.type "builtin_function_or_method" != Value.type "method")=true then _ else _) _ _ _
 rw[if_pos (by decide)]
 exact wpAny_pure (hq _)
theorem c_search {x:Str} (h0:(L x).isEmpty=false) (h:if (L x).all safeC then Q .none objs else ∀ a,Q (.val (.ref a)) objs):XC (topT w.params fs) w n (.ref 914) [.str x] [] [] objs Q :=
 ⟨keep_search,fun A s K vs ks R X r rk=>by
  obtain ⟨_,rfl,rfl,r1⟩:=args1 r rk
  obtain ⟨t,rfl,hs,ht⟩:=r1.inv
  have X₀:=X.top.fin
  have ho:=X.top.objs _ (mem_914 w.params)
  refine wpAny_call (codeAny_of_tree ?_)
  show wpAny _ _ (callAny (.ref 914) ⟨[.str x t],[]⟩) _ _ _
  refine wpAny_bind (wpAny_load ho ?_)
  show wpAny _ _ (if (Value.type "builtin_function_or_method"==Value.type "method" || Value.type "builtin_function_or_method"==Value.type "builtin_function_or_method" || Value.type "builtin_function_or_method"==Value.type "method-wrapper")=true then _ else _) _ _ _
  rw[if_pos (by decide)]
  show wpAny _ _ (if (Value.type "builtin_function_or_method" != Value.type "method")=true then _ else _) _ _ _
  rw[if_pos (by decide)]
  have ck:Looks (model pw w) s.heap (checkBoundCall "re.Pattern.search" ⟨[.ref 162,.str x t],[]⟩) ():=Looks.of_peek X₀ (check_search _ _ _ _)
  have tg:=Looks.of_peek (M:=model pw w) X₀ (target_search w.params ⟨pw,w.params⟩ x t)
  refine wpAny_bind (ck.here (wpAny_pure ⟨quiet_search,codeAny_builtin entry_search ?_⟩))
  unfold Builtin.«re.Pattern.search»
  refine wpAny_bind (tg.here ?_)
  dsimp only
  have hsz:x.cps.size=x.length:=rfl
  have hlim:min ((2:Int) ^ 63 - 1).toNat x.cps.size=x.cps.size:=Nat.min_eq_right (by rw[hsz];have:=sizeLine_eq;lia)
  rw[hlim]
  have hpos:0<x.cps.size:=by
   cases hl:L x with
   | nil=>rw[hl] at h0;cases h0
   | cons a b=>rw[hsz,L_len,hl];exact Nat.succ_pos _
  unfold reAnswer
  cases ha:(L x).all safeC with
  | true =>
   rw[ha,if_pos rfl] at h
   obtain ⟨m,e1,e2⟩:=search_none x.cps hpos (fun c hc=>List.all_eq_true.mp ha c hc)
   refine wpAny_bind (reRun (y:=false) e1 e2 ?_)
   exact wpAny_pure ⟨K,_,objs,.refl X,.none,h⟩
  | false =>
   rw[ha,if_neg (by decide)] at h
   obtain ⟨m,e1,e2⟩:=search_some x.cps (by
    obtain ⟨c,hc,hs⟩:=List.all_eq_false.mp ha
    exact ⟨c,hc,by simpa using hs⟩)
   refine wpAny_bind (reRun (y:=true) e1 e2 ?_)
   refine wpAny_bind ?_
   unfold reNewMatch
   rw[if_neg (fun q:(List.range 0).any _=true=>Bool.false_ne_true q)]
   unfold newTuple newFields
   refine wpAny_bind (wpAny_newObj_type ?_ (show sizeOk (Data.seq #[rawInt m.start,rawInt m.handed]) from by size_fits))
   refine wpAny_newObj_type ?_ (by size_fits)
   exact wpAny_pure ⟨K,_,objs,(Post.push X _).trans (Post.push (Post.push X _).tr _),.val _,h _⟩⟩
end
end Mine.Internal
end
section
open PySem PySem.W PyProof.Rows PySem.Calls Builtin Builtin.Str
namespace Mine.Internal
section
variable {T:TopT} {w:World} {n:Nat} {env:Env} {loc:List (Str×D)} {objs:List AO} {Q:D→List AO→Prop}
theorem c_replace {K:Kt} {s:Shared} {A:Around} {x y z:Str} {t u v:Tok} (X:Tr T K objs s) (hx:x.length≤100000) (ht:t≠0) (hu:u≠0) (hv:v≠0) (huv:u≠v) (hyz:(y==z)=false) (hz:Nat.ble z.length 14=true) (h:Q (.str (Txt.replace x y z)) objs) :
  wpAny (model pw w) A (call (.builtin "str.replace") [.str x t,.str y u,.str z v]) (OutE T K s Q) noE s:=by
 have hz:=Nat.le_of_ble_eq_true hz
 have hb:x.length+(x.length+1) * z.length≤16777216:=by
  have h1:(x.length+1) * z.length≤(x.length+1) * 14:=Nat.mul_le_mul_left _ hz
  lia
 have hl:tooLong (x.length+(occurrences x y 0 x.length (x.length+1)).length * z.length)=false:=by
  have h1:=StrLaws.occ_length_le x y 0 x.length (x.length+1)
  have h2:(occurrences x y 0 x.length (x.length+1)).length * z.length≤(x.length+1) * z.length:=Nat.mul_le_mul_right _ h1
  unfold tooLong sizeLine
  exact decide_eq_false (by lia)
 have hf:=fits_replaced (x:=x) (z:=z) y hb
 refine leaf X (call_gives F.slot_str_replace (typeIs_str _ _ _) F.entry_str_replace (F.args_str_replace_3 _ _ _)
  (gives_str_replace x y z t u v fun _=>⟨by simp [hu,hv],by simp [huv],hyz,hl⟩) (pv_made (fun _=>hf) ht X.tk fun t' k h'=>out_tok X _ (.str _ _ ?_ h') h))
 split
 ·exact Nat.le_trans hx (by decide)
 ·exact hf
theorem ev_replace {o:PySem.Expr} {a b:Str} {apos pos p1 p2:Pos} {k1 k2:Nat}
  (hb:∀ whole,attributeBase o "replace" env whole=whole) (hline:(apos.endLine==pos.line)=true) (hab:(a==b)=false) (hz:Nat.ble b.length 14=true)
  (h:EvE T w n env o loc objs fun d o₁=>∃ x,d=.str x∧x.length≤100000∧Q (.str (Txt.replace x a b)) o₁) :
  EvE T w n env (.Call (.Attribute o "replace" apos) [.Constant (.str a) k1 p1,.Constant (.str b) k2 p2] [] pos) loc objs Q:=fun A s K R X F=>by
 rw[arm_mcall,hb]
 refine wpAny_bind (wE (h A s K R X F) fun ov s₁ ⟨K₁,d,o₁,p₁,r₁,q₁⟩=>wpAny_bind (wpAny_standAt ?_))
 obtain ⟨x,ed,hx,q₁⟩:=q₁
 subst ed
 have few:methodCallForm ([PySem.Expr.Constant (.str a) k1 p1,.Constant (.str b) k2 p2].length+([]:List Keyword).length) (backTo pos (starEach [PySem.Expr.Constant (.str a) k1 p1,.Constant (.str b) k2 p2] env)) (backToKw pos (keywordEach [] env))=true:=by
  unfold methodCallForm
  rw[args_plain rfl,(kws_names (pos:=pos) (env:=env) (ks:=[]) (by rfl)).1,Bool.true_and,Bool.true_and,decide_eq_true_eq]
  split <;> simp
 unfold methodCall
 rw[few]
 refine wpAny_bind (wpAny_holding ?_)
 show wpAny _ _ (getMethod ov "replace" _) _ _ _
 refine g_replace (T:=T) (w:=w) (n:=n) (objs:=o₁) A s₁ K₁ ov _ _ R p₁.tr r₁ fun fv rf=>?_
 obtain ⟨_,_,rfl,rf1,rf2⟩:=rf.inv
 obtain rfl:=rf2.inv
 obtain ⟨t,rfl,hs,ht⟩:=rf1.inv
 dsimp only
 have hp:methodCallPos true o env apos pos=pure pos:=by unfold methodCallPos;rw[hline];rfl
 rw[hp]
 refine wpAny_bind (wpAny_pure ?_)
 refine callWith_gen (args_plain rfl) (kws_names (pos:=pos) (env:=env) (ks:=[]) (by rfl)).1 ?_
 show wpAny _ _ (spliced ((false,eval (.Constant (.str a) k1 p1) env) :: backTo pos ((false,eval (.Constant (.str b) k2 p2) env) :: []))) _ _ _
 refine Calls.spliced_cons (Calls.Constant_str ?_)
 show wpAny _ _ (spliced ((false,eval (.Constant (.str b) k2 p2) env) :: backTo pos [])) _ _ _
 refine Calls.spliced_cons (Calls.Constant_str (Calls.spliced_nil (wpAny_evalAll_nil ⟨fun Q' hQ=>wpAny_pure (hQ _),?_⟩)))
 have P:=Post.tok p₁.tr (s₁.toks+1+1) (Nat.succ_pos _)
 refine wE (c_replace (T:=T) P.tr hx ht p₁.tr.tk (Nat.succ_ne_zero _) (Nat.ne_of_lt (Nat.lt_succ_self _)) hab hz q₁) fun _ _ z=>z.behind (p₁.trans P)
end
end Mine.Internal
end
section
open PySem PySem.W PyProof.Rows PySem.Calls
namespace Mine.Internal
inductive KV (K:Kt) (h:Heap):List (Str×D)→List (Str×Value)→Prop
 | nil:KV K h [] []
 | cons {x:Str} {d:D} {v:Value} {r:List (Str×D)} {kvs:List (Str×Value)} (hv:VR K h d v) (hr:KV K h r kvs):KV K h ((x,d) :: r) ((x,v) :: kvs)
section
variable {K K':Kt} {h h':Heap} {w:World}
theorem KV.keys {r:List (Str×D)} {kvs:List (Str×Value)} (x:KV K h r kvs):kvs.map (·.1)=r.map (·.1):=by
 induction x with
 | nil=>rfl
 | cons _ _ ih=>rw[List.map_cons,List.map_cons,ih]
theorem KV.map {r:List (Str×D)} {kvs:List (Str×Value)} (x:KV K h r kvs) (m:Mv K K' h h'):KV K' h' r kvs:=by
 induction x with
 | nil=>exact .nil
 | cons hv _ ih=>exact .cons (hv.map m) ih
theorem EntR.kv {r:List (Str×D)} {es:List DictEntry} (x:EntR w.params K h r es):∃ kvs,KV K h r kvs∧Pairs (strKind pw w) es kvs∧∀ e∈es,∃ k,(strKind pw w).is k e.key=true∧e.hash=(strKind pw w).hash k:=by
 induction x with
 | nil=>exact ⟨[],.nil,.nil,fun _ h=>by cases h⟩
 | cons hv hr ih =>
  rename_i x d v t r es
  obtain ⟨kvs,i1,i2,i3⟩:=ih
  refine ⟨(x,v) :: kvs,.cons hv i1,.cons (strKind_is pw w x t) rfl i2,fun e he=>?_⟩
  rcases List.mem_cons.mp he with rfl | he
  ·exact ⟨x,strKind_is pw w x t,rfl⟩
  ·exact i3 e he
theorem KV.ent {r:List (Str×D)} {kvs:List (Str×Value)} (x:KV K h r kvs):∀ {es:List DictEntry},Pairs (strKind pw w) es kvs→(∀ e∈es,∃ k,(strKind pw w).is k e.key=true∧e.hash=(strKind pw w).hash k)→EntR w.params K h r es:=by
 induction x with
 | nil=>intro es p _;cases p;exact .nil
 | cons hv _ ih =>
  intro es p q
  cases p with
  | cons h1 h2 h3 =>
   rename_i e es
   obtain ⟨t,ht⟩:=Value.isStrOf_shape h1
   obtain ⟨k,k1,k2⟩:=q _ (.head _)
   have ek:k=_:=(strKind pw w).inj _ _ _ k1 h1
   subst ek
   obtain ⟨eh,ek,ev⟩:=e
   dsimp only at ht k2 h2
   subst ht;subst k2;subst h2
   exact .cons hv (ih h3 fun e he=>q e (.tail _ he))
theorem KV.look {r:List (Str×D)} {kvs:List (Str×Value)} (x:KV K h r kvs) (y:Str):(∀ d,lk r y=some d→∃ v,valueAt kvs y=some v∧VR K h d v)∧(lk r y=none→valueAt kvs y=none):=by
 induction x with
 | nil=>exact ⟨fun _ e=>(by cases e),fun _=>rfl⟩
 | cons hv hr ih =>
  rename_i x d v r kvs
  rw[lk_cons]
  unfold valueAt at ih ⊢
  by_cases e:y=x
  ·subst e
   rw[if_pos rfl]
   refine ⟨fun d' h=>?_,fun h=>?_⟩
   ·injection h with h;subst h;exact ⟨v,by simp,hv⟩
   ·cases h
  ·rw[if_neg e]
   have:¬ x=y:=fun q=>e q.symm
   simpa [List.find?_cons,this] using ih
theorem upd_cons {x y:Str} {d d':D} {r:List (Str×D)}:upd ((x,d') :: r) y d=if y=x then (x,d) :: r else (x,d') :: upd r y d:=by
 show (match Fast.sEq x y with | true=>_ | false=>_)=_
 by_cases e:y=x
 ·rw[if_pos e,Fast.sEq_iff.mpr e.symm]
 ·rw[if_neg e]
  cases q:Fast.sEq x y with
  | true=>exact absurd (Fast.sEq_iff.mp q).symm e
  | false=>rfl
theorem KV.put {r:List (Str×D)} {kvs:List (Str×Value)} (x:KV K h r kvs) {y:Str} {d:D} {v:Value} (hv:VR K h d v) (nd:(r.map (·.1)).Nodup):KV K h (upd r y d) (stored kvs y v):=by
 have keep:∀ {r:List (Str×D)} {kvs:List (Str×Value)},KV K h r kvs→y∉r.map (·.1)→kvs.map (fun kv=>if kv.1=y then (kv.1,v) else kv)=kvs∧kvs.any (fun kv=>decide (kv.1=y))=false:=by
  intro r kvs z
  induction z with
  | nil=>exact fun _=>⟨rfl,rfl⟩
  | cons _ _ ih =>
   intro hn
   rw[List.map_cons,List.mem_cons,not_or] at hn
   obtain ⟨i1,i2⟩:=ih hn.2
   have:¬ _=y:=fun e=>hn.1 e.symm
   exact ⟨by rw[List.map_cons,if_neg this,i1],by rw[List.any_cons,i2];simp [this]⟩
 induction x with
 | nil=>exact .cons hv .nil
 | cons hv' hr ih =>
  rename_i x d' v' r kvs
  rw[List.map_cons,List.nodup_cons] at nd
  rw[upd_cons]
  by_cases e:y=x
  ·subst e
   rw[if_pos rfl]
   obtain ⟨k1,k2⟩:=keep hr nd.1
   unfold stored
   rw[if_pos (by simp),List.map_cons,if_pos rfl,k1]
   exact .cons hv hr
  ·rw[if_neg e]
   have ih:=ih nd.2
   have ne:¬ x=y:=fun q=>e q.symm
   unfold stored at ih ⊢
   rw[List.any_cons,decide_eq_false ne,Bool.false_or,List.map_cons,if_neg ne]
   split at ih
   ·rename_i q;rw[if_pos q];exact .cons hv' ih
   ·rename_i q;rw[if_neg q];exact .cons hv' ih
end
section
variable {T:TopT} {w:World} {n:Nat} {env:Env} {loc:List (Str×D)} {objs:List AO} {Q:D→List AO→Prop}
inductive DctO (w:World) (K:Kt) (s:Shared) (k:Nat) (r:List (Str×D)) (v:Value):Prop
 | mk (a:Addr) (kvs:List (Str×Value)) (e:v=.ref a) (h1:K.k[k]?=some (a,[])) (h2:KV K s.heap r kvs) (h3:s.heap.DictOf (strKind pw w) a kvs) (h4:r.length≤500) (h5:(a==sysModules)=false)
theorem dct_at {K:Kt} {s:Shared} {k:Nat} {r:List (Str×D)} {v:Value} (hP:T.P=w.params∧T.pj≠sysModules) (X:Tr T K objs s) (rv:VR K s.heap (.obj k) v) (hk:objs[k]?=some (.dct r)) (nd:(r.map (·.1)).Nodup) :
  DctO w K s k r v:=by
 obtain ⟨_,_,rfl,hK⟩:=rv.inv
 rename_i a m
 obtain ⟨es,n,h1,h2,h3,h4⟩:=X.ob k (a,m) _ hK hk
 have h1:m=[]:=h1
 subst h1
 rw[hP.1] at h3
 obtain ⟨kvs,k1,k2,k3⟩:=h3.kv
 refine ⟨a,kvs,rfl,hK,k1,⟨_,_,n,h2,⟨rfl,rfl,rfl⟩,rfl,fun e he=>k3 e (by simpa using he),by simpa using k2,by rw[k1.keys];exact nd⟩,h4,?_⟩
 rw[beq_eq_false_iff_ne]
 intro e
 rcases X.low a (mem_adrs hK (.head _)) with q | q
 ·rw[e,X.well.N] at q;exact absurd q (by decide)
 ·exact hP.2 (q▸e)
theorem o_in_dct {k:Nat} {r:List (Str×D)} {x:Str} (hP:T.P=w.params∧T.pj≠sysModules) (hk:objs[k]?=some (.dct r)) (nd:(r.map (·.1)).Nodup) (h:Q (.bool (lk r x).isSome) objs):Op2 T w n (compareOp .In) (.str x) (.obj k) objs Q:=fun A s K u v R X ru rv=>by
 obtain ⟨a,kvs,rfl,hK,k1,k2,h4,hs⟩:=dct_at hP X rv hk nd
 obtain ⟨t,rfl,_,ht⟩:=ru.inv
 refine wpAny_in_of (strKind_is pw w x t) hs k2.mapOf (out_tok X _ (.bool _) ?_ (Nat.succ_pos _))
 obtain ⟨l1,l2⟩:=k1.look x
 cases q:lk r x with
 | none=>rw[l2 q];rw[q] at h;exact h
 | some d=>obtain ⟨v,e,_⟩:=l1 d q;rw[e];rw[q] at h;exact h
inductive KSd (loc:List (Str×D)) (Q:Fl→List (Str×D)→List AO→Prop) (d u y:D) (o:List AO):Prop
 | mk (k:Nat) (r:List (Str×D)) (x:Str) (eu:u=.obj k) (ey:y=.str x) (hk:o[k]?=some (.dct r)) (nd:(r.map (·.1)).Nodup) (hz:Nat.ble (r.length+1) 500=true) (q:Q .next loc (o.set k (.dct (upd r x d))))
@[reducible] def kSd2 (T:TopT) (w:World) (n:Nat) (env:Env) (i:PySem.Expr) (loc:List (Str×D)) (Q:Fl→List (Str×D)→List AO→Prop) (d u:D) (o:List AO):Prop:=EvE T w n env i loc o (KSd loc Q d u)
@[reducible] def kSd1 (T:TopT) (w:World) (n:Nat) (env:Env) (x i:PySem.Expr) (loc:List (Str×D)) (Q:Fl→List (Str×D)→List AO→Prop) (d:D) (o:List AO):Prop:=EvE T w n env x loc o (kSd2 T w n env i loc Q d)
theorem s_setdct {o i:PySem.Expr} {pos' pos:Pos} {e:PySem.Expr} {Q:Fl→List (Str×D)→List AO→Prop} (hP:T.P=w.params∧T.pj≠sysModules) (hs:swapsWith e (some (.Subscript o i pos')) pos.line env=pure false)
  (h:EvE T w n env e loc objs (kSd1 T w n env o i loc Q)) :
  EvS T w n env (.Assign [.Subscript o i pos'] e pos) loc objs Q:=fun A s K R X F =>
 wpAny_Assign_Subscript (wE (h A s K R X F) fun v s₁ hh=>by
  obtain ⟨K₁,d,o₁,p₁,r₁,q₁⟩:=hh
  refine wE (q₁ A s₁ K₁ R p₁.tr (F.post p₁)) fun ov s₂ hh=>?_
  obtain ⟨K₂,u,o₂,p₂,r₂,q₂⟩:=hh
  have p12:=p₁.trans p₂
  refine wE (q₂ A s₂ K₂ R p₂.tr (F.post p12)) fun iv s₃ hh=>?_
  obtain ⟨K₃,y,o₃,p₃,r₃,k,r,x,rfl,rfl,hk,nd,hz,q⟩:=hh
  obtain ⟨a,kvs,rfl,hK,k1,k2,h4,hs'⟩:=dct_at hP p₃.tr (p₃.vr r₂) hk nd
  have hv:=p₃.vr (p₂.vr r₁)
  have hkl:kvs.length=r.length:=by have:=congrArg List.length k1.keys;simpa using this
  obtain ⟨t,rfl,_,ht⟩:=r₃.inv
  refine wpAny_setItem_pairs (strKind_is pw w x t) k2 (fun h' D' B=>?_) (by rw[hkl];exact Nat.le_trans h4 (by decide))
  obtain ⟨ob,es,ep,g1,g2,g3,g4,g5,g6⟩:=D'
  have P:Pres (a :: []) s₃ {s₃ with heap:=h',toks:=s₃.toks+1}:=⟨fun b o e hb=>(B.2 b fun q=>hb (by rw[q];exact .head _)).trans e,by show _≤h'.objs.size;rw[B.1];exact Nat.le_refl _,rfl,id⟩
  have P':Post T K₃ s₃ K₃ (o₃.set k (.dct (upd r x d))) {s₃ with heap:=h',toks:=s₃.toks+1}:=Post.upd (p:=(a,[])) (ao:=.dct (upd r x d)) p₃.tr hK P (Nat.succ_pos _) fun mv=>by
   refine ⟨es.toList,ep,rfl,?_,?_,Nat.le_trans (upd_len x d r) (Nat.le_of_ble_eq_true hz)⟩
   ·rw[g1]
    obtain ⟨c,dd,dt,sl⟩:=ob
    obtain ⟨g21,g22,g23⟩:=g2
    dsimp only at g21 g22 g23 g3
    rw[g21,g22,g23,g3]
   ·rw[hP.1]
    exact ((k1.put hv nd).map mv).ent g5 fun e he=>g4 e (by simpa using he)
  exact ⟨K₃,.next,loc,_,((p12.trans p₃).trans P').toL,(F.post (p12.trans p₃)).post P',.next,q⟩) hs
theorem t_dct {k:Nat} {r:List (Str×D)} {Q:Bool→List AO→Prop} (hP:T.P=w.params∧T.pj≠sysModules) (hk:objs[k]?=some (.dct r)) (nd:(r.map (·.1)).Nodup) (h:Q (!r.isEmpty) objs):TruD T w n (.obj k) objs Q:=fun A s K u R X ru=>by
 obtain ⟨a,kvs,rfl,hK,k1,k2,h4,hs⟩:=dct_at hP X ru hk nd
 have hkl:kvs.length=r.length:=by have:=congrArg List.length k1.keys;simpa using this
 refine wpAny_truthy_dict hs k2 (by rw[hkl];lia) ⟨K,objs,.tok X _ (Nat.succ_pos _),?_⟩
 have:kvs.isEmpty=r.isEmpty:=by cases kvs <;> cases r <;> first | rfl | cases hkl
 rw[this];exact h
theorem ev_dict1 {x:Str} {k1:Nat} {p1 pos:Pos} {e:PySem.Expr} {Q:D→List AO→Prop} (hP:T.P=w.params) (hx:Nat.ble x.length 1000=true) {i:Int} {k2:Nat} {p2:Pos} (he:e=.Constant (.int i) k2 p2)
  (h:Q (.obj objs.length) (objs++[.dct [(x,.int i)]])):EvE T w n env (.Dict [some (.Constant (.str x) k1 p1)] [e] pos) loc objs Q:=fun A s K R X F=>by
 subst he
 refine wpAny_Dict_walk (knd:=strKind pw w) rfl rfl (by simp) (by simp) ?_
 refine pairTrees_cons_walk (Calls.Constant_str ?_)
 refine wpAny_Constant_int (pairTrees_nil_walk ⟨[(x,.int i (s.toks+1))],⟨strKind_is pw w x _,rfl,trivial⟩,Heap.DictOf.new _,fun h' D' B=>?_⟩)
 obtain ⟨ob,es,ep,g1,g2,g3,g4,g5,g6⟩:=D'
 have hz:h'.objs.size=s.heap.objs.size+1:=by rw[B.1];exact Heap.size_push ..
 have P:Pres [] s {s with heap:=h',toks:=s.toks+1+1+1}:=⟨fun b o e _=>(B.2 b fun q=>absurd (Heap.lt_size e) (by rw[q];exact Nat.lt_irrefl _)).trans (Heap.get?_push_of_some _ e),by show _≤h'.objs.size;rw[hz];exact Nat.le_succ _,rfl,id⟩
 have P':Post T K s (K.add (s.heap.objs.size,[])) (objs++[.dct [(x,.int i)]]) {s with heap:=h',toks:=s.toks+1+1+1}:=Post.track (p:=(s.heap.objs.size,[])) X P (Nat.succ_pos _) (fun a ha=>by
   rw[List.mem_singleton.mp ha];exact ⟨Nat.le_refl _,by show _<h'.objs.size;rw[hz];exact Nat.lt_succ_self _⟩) (List.nodup_cons.mpr ⟨fun h=>(by cases h),List.nodup_nil⟩) fun mv=>by
  refine ⟨es.toList,ep,rfl,?_,?_,Nat.le_of_ble_eq_true rfl⟩
  ·show h'.get? s.heap.objs.size=_
   rw[g1]
   obtain ⟨c,dd,dt,sl⟩:=ob
   obtain ⟨g21,g22,g23⟩:=g2
   dsimp only at g21 g22 g23 g3
   rw[g21,g22,g23,g3]
  ·rw[hP]
   exact (KV.cons (.int i _ (Nat.succ_ne_zero _)) .nil).ent g5 fun e he=>g4 e (by simpa using he)
 exact ⟨_,_,_,P',obj_last (p:=(s.heap.objs.size,[])) X,h⟩
end
end Mine.Internal
end
section
open PySem PySem.W PyProof.Rows PySem.Calls
namespace Mine.Internal
section
variable {prog:Program} {w:World} {A:Around} {E:Value→Shared→Prop} {s:Shared}
theorem noBool_tuple:typeLookup (.type "tuple") "__bool__"=pure none:=by rw[typeLookup_type,builtinLookup_eq_fast];kernel_rfl
theorem wpAny_len_body_tup {l:Addr} {xs:List Value} {m:Nat} {Q:Value→Shared→Prop} (ho:s.heap.get? l=some (tupO xs m)) (hfit:(xs.length:Int)<2 ^ 63)
  (h:Q (.int xs.length (s.toks+1)) {s with toks:=s.toks+1+1}):wpAny (model prog w) A (Builtin.«len» ⟨[.ref l],[]⟩) (fun fin s'=>∃ r,fin=.done (.ret r)∧Q r s') E s:=by
 have hT:s.TypeIs (.ref l) "tuple":=⟨_,ho,rfl⟩
 unfold Builtin.«len»
 refine wpAny_bind (m:=oneArg "len" _) (wpAny_pure ?_)
 refine wpAny_bind (m:=callSpecial? (.ref l) (Str.ofString "__len__")) (wpAny_callSpecial?_slot (name:=Str.ofString "__len__") hT F.slot_tuple_len
  (call_meets F.slot_tuple_len hT F.entry_tuple_len (F.args_tuple_len_1 _) (AutoSeq1.tuple___len___tuple_0 l xs.toArray m) ⟨ho,?_⟩))
 ·show wpAny _ _ _ _ _ _
  refine wpAny_bind (wpAny_holding (wpAny_pure ?_))
  refine wpAny_bind (wpAny_letGo ?_)
  show wpAny _ _ (if ((xs.toArray.size:Nat):Int)<0 then _ else _) _ _ _
  rw[if_neg (by lia)]
  show wpAny _ _ (if ((xs.toArray.size:Nat):Int)≥2 ^ 63 then _ else _) _ _ _
  rw[if_neg (by rw[List.size_toArray];lia)]
  exact wpAny_bind (wpAny_mkInt (wpAny_pure ⟨_,rfl,by rw[List.size_toArray];exact h⟩))
theorem wpAny_truthy_tup {l:Addr} {xs:List Value} {m:Nat} {Q:Bool→Shared→Prop} (ho:s.heap.get? l=some (tupO xs m)) (hfit:(xs.length:Int)<2 ^ 63)
  (h:Q (!xs.isEmpty) {s with toks:=s.toks+1+1}):wpAny (model prog w) A (truthy (.ref l)) Q E s:=by
 have hT:s.TypeIs (.ref l) "tuple":=⟨_,ho,rfl⟩
 have hne:((xs.length:Int) != 0)=!xs.isEmpty:=by
  cases xs with
  | nil=>rfl
  | cons a r=>exact bne_iff_ne.mpr (by simp;lia)
 have key:wpAny (model prog w) A (runValue (.builtin "len" ⟨[.ref l],[]⟩)) (fun r s'=>r=.int xs.length (s.toks+1)∧Q (!xs.isEmpty) s') E s:=by
  refine wpAny_runValue (codeAny_builtin entry_len ?_)
  rw[Around.under_plainId plain_len _]
  exact wpAny_mono (wpAny_len_body_tup (Q:=fun r s'=>r=.int xs.length (s.toks+1)∧Q (!xs.isEmpty) s') ho hfit ⟨rfl,h⟩)
   (fun fin s' h'=>by obtain ⟨r,rfl,hq⟩:=h';exact hq) fun _ _ e=>e
 unfold truthy
 first
  | refine wpAny_bind (wpAny_callSpecial?_none (name:=Str.ofString "__bool__") hT noBool_tuple ?_)
  | refine wpAny_bind (wpAny_pure (wpAny_bind (wpAny_callSpecial?_none (name:=Str.ofString "__bool__") hT noBool_tuple ?_)))
 first
  | refine wpAny_bind (wpAny_specialOf (name:=Str.ofString "__len__") hT F.slot_tuple_len.lookup ?_)
  | refine wpAny_bind (wpAny_pure (wpAny_bind (wpAny_specialOf (name:=Str.ofString "__len__") hT F.slot_tuple_len.lookup ?_)))
 first
  | exact wpAny_bind (wpAny_mono key (fun r s' h'=>by obtain ⟨rfl,hq⟩:=h';exact wpAny_pure (hne▸hq)) fun _ _ e=>e)
  | exact wpAny_bind (wpAny_pure (wpAny_bind (wpAny_mono key (fun r s' h'=>by obtain ⟨rfl,hq⟩:=h';exact wpAny_pure (hne▸hq)) fun _ _ e=>e)))
end
section
variable {T:TopT} {w:World} {n:Nat} {env:Env} {loc:List (Str×D)} {objs:List AO} {Q:D→List AO→Prop}
theorem tup_at {K:Kt} {h:Heap} {l:List D} {v:Value} (r:VR K h (.tup l) v):InvSeq' K h tupO l v:=by
 obtain ⟨_,_,_,rfl,ha,hk,hn,hl⟩:=r.inv
 exact ⟨_,_,_,rfl,ha,hl,hn⟩
theorem i_tupi {l:List D} {i:Int} {d:D} (h0:0≤i) (hd:l[i.toNat]?=some d) (h:Q d objs):ItemD T w n (.tup l) (.int i) objs Q:=by
 have:=i_tup (T:=T) (w:=w) (n:=n) (objs:=objs) (Q:=Q) (i:=i.toNat) hd h
 rwa [Int.toNat_of_nonneg h0] at this
theorem c_len_tup {l:List D} (h:Q (.int l.length) objs):XCall T w n (.builtin "len") [.tup l] [] [] objs Q:=fun A s K vs ks R X r rk=>by
 obtain ⟨_,rfl,rfl,r1⟩:=args1 r rk
 obtain ⟨x,xs,m,rfl,hx,rx,hn⟩:=tup_at r1
 have e1:=rx.length
 refine leaf X (Calls.call_function_entry kind_len plain_len entry_len (args_len1 _) (wpAny_len_body_tup hx (by lia) ?_))
 rw[← e1]
 exact out_tok X _ (.int _ _ (Nat.succ_ne_zero _)) h
theorem t_tup {l:List D} {Q:Bool→List AO→Prop} (h:Q (!l.isEmpty) objs):TruD T w n (.tup l) objs Q:=fun A s K u R X r=>by
 obtain ⟨x,xs,m,rfl,hx,rx,hn⟩:=tup_at r
 have e1:=rx.length
 refine wpAny_truthy_tup hx (by lia) ⟨K,objs,.tok X _ (Nat.succ_pos _),?_⟩
 have:xs.isEmpty=l.isEmpty:=by cases xs <;> cases l <;> first | rfl | cases e1
 rw[this];exact h
end
section
variable {T:TopT} {w:World} {n:Nat} {env:Env} {loc:List (Str×D)} {objs:List AO} {Q:D→List AO→Prop}
theorem bind5 {fd:FuncData} {x1 x2 x3 x4 x5:Str} {d1 d2 d3 d4 d5:D} (h:∀ v1 v2 v3 v4 v5,bindArgs fd ⟨[v1,v2,v3,v4,v5],[]⟩=pure [(x1,v1),(x2,v2),(x3,v3),(x4,v4),(x5,v5)]):Binds T fd [d1,d2,d3,d4,d5] [] [] objs [(x1,d1),(x2,d2),(x3,d3),(x4,d4),(x5,d5)]:=fun K s vs ks X r rk=>by
 obtain rfl:=rk.inv
 obtain ⟨_,_,rfl,r1,q1⟩:=r.inv
 obtain ⟨_,_,rfl,r2,q2⟩:=q1.inv
 obtain ⟨_,_,rfl,r3,q3⟩:=q2.inv
 obtain ⟨_,_,rfl,r4,q4⟩:=q3.inv
 obtain ⟨_,_,rfl,r5,q5⟩:=q4.inv
 obtain rfl:=q5.inv
 exact ⟨_,.of_eq (h _ _ _ _ _),.cons r1 (.cons r2 (.cons r3 (.cons r4 (.cons r5 .nil))))⟩
end
section
variable {fs:List Env} {w:World} {n:Nat} {objs:List AO} {Q:D→List AO→Prop}
theorem hPw:(topT w.params fs).P=w.params∧(topT w.params fs).pj≠sysModules:=⟨rfl,fun e=>nomatch (show (908:Nat)=1 from e)⟩
theorem bindArgs_803 (v:Value):bindArgs fd_803 ⟨[v],[]⟩=(do let t ← newTuple [v];let d ← alloc {cls:=.type "dict",data:=.dict #[]};pure [("args",t),("kwargs",.ref d)]):=by rfl
theorem binds_803 {e:D}:BindsS (topT w.params fs) w fd_803 [e] [] [] objs (fun v=>[("args",.tup [e]),("kwargs",.obj objs.length)]) (objs++[.dct []]):=fun A K s vs ks R E X r rk hR=>by
 obtain ⟨_,rfl,rfl,r1⟩:=args1 r rk
 rename_i u
 show wpAny _ A (bindArgs fd_803 ⟨[u],[]⟩) _ _ _
 rw[bindArgs_803]
 refine wpAny_bind (wpAny_newObj_type ?_ (by size_fits))
 refine wpAny_bind (wpAny_alloc (wpAny_pure ?_))
 have P₁:=Post.push X (tupO [u] 0)
 have X₁:=P₁.tr
 have hz:=Heap.size_push (s.heap.push (tupO [u] 0)) (o:=emptyDict)
 have P₂:Post (topT w.params fs) K {s with heap:=s.heap.push (tupO [u] 0)} (K.add ((s.heap.push (tupO [u] 0)).objs.size,[])) (objs++[.dct []]) {s with heap:=(s.heap.push (tupO [u] 0)).push emptyDict} :=
  Post.track (p:=((s.heap.push (tupO [u] 0)).objs.size,[])) X₁ ⟨fun b o e _=>Heap.get?_push_of_some _ e,by show _≤((s.heap.push _).push _).objs.size;rw[hz];exact Nat.le_succ _,rfl,id⟩ X₁.toks (fun a ha=>by
   rw[List.mem_singleton.mp ha];exact ⟨Nat.le_refl _,by show _<((s.heap.push _).push _).objs.size;rw[hz];exact Nat.lt_succ_self _⟩) (List.nodup_cons.mpr ⟨fun h=>(by cases h),List.nodup_nil⟩) fun mv=>⟨[],0,rfl,Heap.get?_push_size _ rfl,.nil,Nat.zero_le _⟩
 exact hR _ _ _ u (P₁.trans P₂) (.cons (P₂.vr (.tup (Heap.get?_push_size _ rfl) (fresh_not X) (Nat.le_of_ble_eq_true rfl) (.cons (P₁.vr r1) .nil))) (.cons (obj_last (p:=((s.heap.push (tupO [u] 0)).objs.size,[])) X₁) .nil))
end
end Mine.Internal
end
section
open PySem PySem.W PyProof.Rows PySem.Calls PySem.SeqAt
namespace Mine.Internal
section
variable {T:TopT} {w:World} {n:Nat} {env:Env} {loc:List (Str×D)} {objs:List AO} {Q:D→List AO→Prop}
@[reducible] def kAndW (T:TopT) (w:World) (n:Nat) (env:Env) (b:PySem.Expr) (loc:List (Str×D)) (Q:D→List AO→Prop) (d:D) (c:Bool) (o:List AO):Prop:=match c with | true=>EvE T w n env b loc o Q | false=>Q d o
theorem k_andv {b:PySem.Expr} {Q:D→List AO→Prop} {d:D} {c:Bool} {o:List AO} (h1:c=true→EvE T w n env b loc o Q) (h2:c=false→Q d o):kAndW T w n env b loc Q d c o:=by
 cases c
 ·exact h2 rfl
 ·exact h1 rfl
@[reducible] def kAndV (T:TopT) (w:World) (n:Nat) (env:Env) (b:PySem.Expr) (loc:List (Str×D)) (Q:D→List AO→Prop) (d:D) (o:List AO):Prop:=TruD T w n d o (kAndW T w n env b loc Q d)
theorem ev_and {a b:PySem.Expr} {pos:Pos} {Q:D→List AO→Prop} (h:EvE T w n env a loc objs (kAndV T w n env b loc Q)):EvE T w n env (.BoolOp .And [a,b] pos) loc objs Q:=fun A s K R X F=>by
 refine wpAny_And2 (wE (h A s K R X F) fun u s₁ ⟨K₁,d,o₁,p₁,r₁,q₁⟩=>wE (q₁ A s₁ K₁ u R p₁.tr r₁) fun c s₂ ⟨K₂,o₂,p₂,q₂⟩=>?_)
 cases c with
 | false=>exact ⟨K₂,d,o₂,p₁.trans p₂,p₂.vr r₁,q₂⟩
 | true=>exact wE (q₂ A s₂ K₂ R p₂.tr ((F.post p₁).post p₂)) fun _ _ x=>(x.behind p₂).behind p₁
theorem o_ne_nil {da db:D} {l:List D} (ha:asL objs da=some l) (hb:asL objs db=some []) (h:Q (.bool (!l.isEmpty)) objs):Op2 T w n (compareOp .NotEq) da db objs Q:=fun A s K u v R X ru rv=>by
 cases l with
 | nil=>exact o_ne_same (T:=T) (n:=n) (k:=0) ha hb (fun d hd=>by cases hd) (by lia) h A s K u v R X ru rv
 | cons d l =>
  obtain ⟨x,xs,m,rfl,hx,rx,_⟩:=asL_at X ru ha
  obtain ⟨y,ys,m',rfl,hy,ry,_⟩:=asL_at X rv hb
  have lx:=rx.length
  have ly:=ry.length
  have:=RcNeAt.lists_lengths (A:=A) (listO_is hx) (listO_is hy) (by rw[bne_iff_ne];simp at lx ly ⊢;lia) (room_cline R (k:=0) (by lia))
  exact this pw w _ _ ⟨K,_,objs,.refl X,.bool _,h⟩
end
end Mine.Internal
end
section
open PySem PySem.W PyProof.Rows PySem.Calls PySem.SeqAt
open AutoSeq1 (wpAny_loadPart')
namespace Mine.Internal
def RcOp (op:CmpOp) (A:Around) (s:Shared) (y x:Value) (b:Bool):Prop :=
 ∀ (prog:Program) (w:World) (E:Value→Shared→Prop) (Q:Value→Shared→Prop),Q (.bool b) s→wpAny (model prog w) A (richCompare op y x) Q E s
noncomputable def cmpL (e f:Nat→Bool) (sz:Bool):Nat→Nat→Bool
 | 0,_=>sz
 | k+1,i=>if e i then cmpL e f sz k (i+1) else f i
theorem lt_min {i k a b:Nat} (h:i+(k+1)=min a b):i<a∧i<b:=by lia
theorem min_r {i a b:Nat} (h:i+0=min a b) (hc:i<a):b≤i:=by lia
theorem lt_loop (l b:Addr) (items items2:Array Value) (n n2:Nat) (e f:Nat→Bool) (k:Nat) :
  ∀ i:Nat,i+k=min items.size items2.size→Meets (Builtin.«list.__eq__.loop» ⟨[.ref l,.ref b,rawInt i,rawInt 0],[]⟩)
   (fun A R s=>s.heap.get? l=some {cls:=.type "list",dict:=none,data:=.seq items n,slots:=#[]}∧s.heap.get? b=some {cls:=.type "list",dict:=none,data:=.seq items2 n2,slots:=#[]} ∧
    (∀ j (h1:j<items.size) (h2:j<items2.size),EqAt A.in1 s items[j] items2[j] (e j))∧(∀ j (h1:j<items.size) (h2:j<items2.size),RcOp .Lt A.in1 s items[j] items2[j] (f j)) ∧
    R (.ok (.ret (.bool (cmpL e f (decide (items.size<items2.size)) k i)))) s):=by
 induction k with
 | zero =>
  intro i hk prog w A R s h
  obtain ⟨hp,g,d,tk,os⟩:=s;obtain ⟨hl,hb,he,hf,h⟩:=h
  wp_walk using wpAny_loadPart' hl,wpAny_loadPart' hb
  by_cases hc:i<items.size
  ·have hi1:items[((i:Nat):Int).toNat]?=some items[i]:=by simp [hc]
   have hi2:items2[((i:Nat):Int).toNat]?=none:=Array.getElem?_eq_none (min_r hk hc)
   rw[hi1,hi2]
   wp_walk using wpAny_loadPart' hl,wpAny_loadPart' hb
   exact h
  ·have hi1:items[((i:Nat):Int).toNat]?=none:=Array.getElem?_eq_none (Nat.not_lt.mp hc)
   rw[hi1]
   wp_walk using wpAny_loadPart' hl,wpAny_loadPart' hb
   exact h
 | succ k ih =>
  intro i hk prog w A R s h
  obtain ⟨hp,g,d,tk,os⟩:=s;obtain ⟨hl,hb,he,hf,h⟩:=h
  wp_walk using wpAny_loadPart' hl,wpAny_loadPart' hb
  have hlt:i<items.size:=(lt_min hk).1
  have hlt2:i<items2.size:=(lt_min hk).2
  have hi1:items[((i:Nat):Int).toNat]?=some items[i]:=by simp [hlt]
  have hi2:items2[((i:Nat):Int).toNat]?=some items2[i]:=by simp [hlt2]
  have hc:((i:Int)+1)=((i+1:Nat):Int):=by push_cast;rfl
  rw[hi1,hi2]
  refine wpAny_bind (he i hlt hlt2 prog w _ _ ?_)
  unfold cmpL at h
  cases hb':e i with
  | true =>
   rw[hb',if_pos rfl] at h
   wp_walk
   rw[hc]
   exact ⟨plainId_quiet PySem.MeetsSeq3.plain_eq_loop _,codeAny_builtin PySem.MeetsSeq3.entry_eq_loop (by
    rw[Around.under_plainId PySem.MeetsSeq3.plain_eq_loop _]
    exact ih (i+1) ((Nat.succ_add_eq_add_succ i k).trans hk) prog w A R _ ⟨hl,hb,he,hf,h⟩)⟩
  | false =>
   rw[hb',if_neg Bool.false_ne_true] at h
   wp_walk using wpAny_loadPart' hl,wpAny_loadPart' hb
   rw[hi1,hi2]
   show wpAny _ _ (richCompare .Lt items[i] items2[i] >>= fun a=>ret a) _ _ _
   refine wpAny_bind (hf i hlt hlt2 prog w _ _ ?_)
   exact wpAny_pure h
theorem gt_loop (l b:Addr) (items items2:Array Value) (n n2:Nat) (e f:Nat→Bool) (k:Nat) :
  ∀ i:Nat,i+k=min items.size items2.size→Meets (Builtin.«list.__eq__.loop» ⟨[.ref l,.ref b,rawInt i,rawInt 4],[]⟩)
   (fun A R s=>s.heap.get? l=some {cls:=.type "list",dict:=none,data:=.seq items n,slots:=#[]}∧s.heap.get? b=some {cls:=.type "list",dict:=none,data:=.seq items2 n2,slots:=#[]} ∧
    (∀ j (h1:j<items.size) (h2:j<items2.size),EqAt A.in1 s items[j] items2[j] (e j))∧(∀ j (h1:j<items.size) (h2:j<items2.size),RcOp .Gt A.in1 s items[j] items2[j] (f j)) ∧
    R (.ok (.ret (.bool (cmpL e f (decide (items.size>items2.size)) k i)))) s):=by
 induction k with
 | zero =>
  intro i hk prog w A R s h
  obtain ⟨hp,g,d,tk,os⟩:=s;obtain ⟨hl,hb,he,hf,h⟩:=h
  wp_walk using wpAny_loadPart' hl,wpAny_loadPart' hb
  by_cases hc:i<items.size
  ·have hi1:items[((i:Nat):Int).toNat]?=some items[i]:=by simp [hc]
   have hi2:items2[((i:Nat):Int).toNat]?=none:=Array.getElem?_eq_none (min_r hk hc)
   rw[hi1,hi2]
   wp_walk using wpAny_loadPart' hl,wpAny_loadPart' hb
   exact h
  ·have hi1:items[((i:Nat):Int).toNat]?=none:=Array.getElem?_eq_none (Nat.not_lt.mp hc)
   rw[hi1]
   wp_walk using wpAny_loadPart' hl,wpAny_loadPart' hb
   exact h
 | succ k ih =>
  intro i hk prog w A R s h
  obtain ⟨hp,g,d,tk,os⟩:=s;obtain ⟨hl,hb,he,hf,h⟩:=h
  wp_walk using wpAny_loadPart' hl,wpAny_loadPart' hb
  have hlt:i<items.size:=(lt_min hk).1
  have hlt2:i<items2.size:=(lt_min hk).2
  have hi1:items[((i:Nat):Int).toNat]?=some items[i]:=by simp [hlt]
  have hi2:items2[((i:Nat):Int).toNat]?=some items2[i]:=by simp [hlt2]
  have hc:((i:Int)+1)=((i+1:Nat):Int):=by push_cast;rfl
  rw[hi1,hi2]
  refine wpAny_bind (he i hlt hlt2 prog w _ _ ?_)
  unfold cmpL at h
  cases hb':e i with
  | true =>
   rw[hb',if_pos rfl] at h
   wp_walk
   rw[hc]
   exact ⟨plainId_quiet PySem.MeetsSeq3.plain_eq_loop _,codeAny_builtin PySem.MeetsSeq3.entry_eq_loop (by
    rw[Around.under_plainId PySem.MeetsSeq3.plain_eq_loop _]
    exact ih (i+1) ((Nat.succ_add_eq_add_succ i k).trans hk) prog w A R _ ⟨hl,hb,he,hf,h⟩)⟩
  | false =>
   rw[hb',if_neg Bool.false_ne_true] at h
   wp_walk using wpAny_loadPart' hl,wpAny_loadPart' hb
   rw[hi1,hi2]
   show wpAny _ _ (richCompare .Gt items[i] items2[i] >>= fun a=>ret a) _ _ _
   refine wpAny_bind (hf i hlt hlt2 prog w _ _ ?_)
   exact wpAny_pure h
end Mine.Internal
end
section
open PySem
namespace Mine.Internal
theorem wd_run:∀ (l tok:List Nat) (q:Bool) (rest:List Nat),(∀ c∈l,c≠32∧c≠39∧c≠34)→lexGo .wd tok q (l++rest)=lexGo .wd (tok++l) q rest
 | [],tok,q,rest,h=>by simp
 | c :: l,tok,q,rest,h=>by
  obtain ⟨h1,h2,h3⟩:=h c (.head _)
  show lexGo .wd tok q (c :: (l++rest))=_
  rw[lexGo,if_neg h1,if_neg h2,if_neg h3,wd_run l _ q rest fun c hc=>h c (.tail _ hc),List.append_assoc];rfl
theorem wd_ok:∀ (l rest:List Nat),(∀ c∈l,c≠32∧c≠39∧c≠34)→lexOk .wd (l++rest)=lexOk .wd rest
 | [],rest,h=>rfl
 | c :: l,rest,h=>by
  obtain ⟨h1,h2,h3⟩:=h c (.head _)
  show lexOk .wd (c :: (l++rest))=_
  rw[lexOk,if_neg h2,if_neg h3,if_neg h1,wd_ok l rest fun c hc=>h c (.tail _ hc)]
theorem qs_run:∀ (l tok:List Nat) (q:Bool) (rest:List Nat),lexGo .qs tok q (qtE l++39 :: rest)=lexGo .wd (tok++l) true rest
 | [],tok,q,rest=>by
  show lexGo .qs tok q (39 :: rest)=_
  rw[lexGo,if_pos rfl,List.append_nil]
 | c :: l,tok,q,rest=>by
  by_cases h:c=39
  ·subst h
   show lexGo .qs tok q (39 :: 34 :: 39 :: 34 :: 39 :: (qtE l++39 :: rest))=_
   rw[lexGo,if_pos rfl,lexGo,if_neg (by decide),if_neg (by decide),if_pos rfl,lexGo,if_neg (by decide),lexGo,if_pos rfl,lexGo,if_neg (by decide),if_pos rfl,qs_run l _ _ rest,List.append_assoc];rfl
  ·have e:qtE (c :: l)=c :: qtE l:=by show (if c=39 then _ else [c])++qtE l=_;rw[if_neg h];rfl
   rw[e]
   show lexGo .qs tok q (c :: (qtE l++39 :: rest))=_
   rw[lexGo,if_neg h,qs_run l _ _ rest,List.append_assoc];rfl
theorem qs_ok:∀ (l rest:List Nat),lexOk .qs (qtE l++39 :: rest)=lexOk .wd rest
 | [],rest=>by
  show lexOk .qs (39 :: rest)=_
  rw[lexOk,if_pos rfl]
 | c :: l,rest=>by
  by_cases h:c=39
  ·subst h
   show lexOk .qs (39 :: 34 :: 39 :: 34 :: 39 :: (qtE l++39 :: rest))=_
   rw[lexOk,if_pos rfl,lexOk,if_neg (by decide),if_pos rfl,lexOk,if_neg (by decide),lexOk,if_pos rfl,lexOk,if_pos rfl,qs_ok l rest]
  ·have e:qtE (c :: l)=c :: qtE l:=by show (if c=39 then _ else [c])++qtE l=_;rw[if_neg h];rfl
   rw[e]
   show lexOk .qs (c :: (qtE l++39 :: rest))=_
   rw[lexOk,if_neg h,qs_ok l rest]
theorem safe_ne {c:Nat} (h:safeC c=true):c≠32∧c≠39∧c≠34:=⟨fun e=>by subst e;revert h;decide,fun e=>by subst e;revert h;decide,fun e=>by subst e;revert h;decide⟩
theorem lex_word (l rest:List Nat):∃ q,lexGo .sp [] false (qt l++rest)=lexGo .wd l q rest∧¬ (q=false∧l=[])∧lexOk .sp (qt l++rest)=lexOk .wd rest:=by
 unfold qt
 split
 ·rename_i h
  subst h
  refine ⟨true,?_,by simp,?_⟩
  ·have:=qs_run [] [] false rest
   show lexGo .sp [] false (39 :: 39 :: rest)=_
   rw[lexGo,if_neg (by decide),if_pos rfl];exact this
  ·have:=qs_ok [] rest
   show lexOk .sp (39 :: 39 :: rest)=_
   rw[lexOk,if_pos rfl];exact this
 ·rename_i h0
  split
  ·rename_i hs
   cases l with
   | nil=>exact absurd rfl h0
   | cons c l =>
    have hall:∀ c'∈c :: l,c'≠32∧c'≠39∧c'≠34:=fun c' hc'=>safe_ne (List.all_eq_true.mp hs c' hc')
    obtain ⟨h1,h2,h3⟩:=hall c (.head _)
    refine ⟨false,?_,by simp,?_⟩
    ·show lexGo .sp [] false (c :: (l++rest))=_
     rw[lexGo,if_neg h1,if_neg h2,if_neg h3,wd_run l _ _ _ fun c hc=>hall c (.tail _ hc)];rfl
    ·show lexOk .sp (c :: (l++rest))=_
     rw[lexOk,if_neg h2,if_neg h3,if_neg h1,wd_ok l _ fun c hc=>hall c (.tail _ hc)]
  ·refine ⟨true,?_,by simp,?_⟩
   ·have:=qs_run l [] false rest
    show lexGo .sp [] false (39 :: (qtE l++[39]++rest))=_
    rw[lexGo,if_neg (by decide),if_pos rfl,List.append_assoc];exact this
   ·have:=qs_ok l rest
    show lexOk .sp (39 :: (qtE l++[39]++rest))=_
    rw[lexOk,if_pos rfl,List.append_assoc];exact this
theorem qtE_lexC {l:List Nat} (h:l.all lexC=true):(qtE l).all lexC=true:=by
 refine List.all_eq_true.mpr fun c hc=>?_
 obtain ⟨d,hd,hc⟩:=List.mem_flatMap.mp hc
 split at hc
 ·rcases List.mem_cons.mp hc with rfl | hc
  ·rfl
  rcases List.mem_cons.mp hc with rfl | hc
  ·rfl
  rcases List.mem_cons.mp hc with rfl | hc
  ·rfl
  rcases List.mem_cons.mp hc with rfl | hc
  ·rfl
  rcases List.mem_cons.mp hc with rfl | hc
  ·rfl
  ·cases hc
 ·rw[List.mem_singleton.mp hc];exact List.all_eq_true.mp h d hd
theorem qt_lexC {l:List Nat} (h:l.all lexC=true):(qt l).all lexC=true:=by
 unfold qt
 split
 ·rfl
 ·split
  ·exact h
  ·rw[List.all_append,List.all_cons,qtE_lexC h];rfl
noncomputable def joinQ:List (List Nat)→List Nat
 | []=>[]
 | [x]=>qt x
 | x :: y :: r=>qt x++32 :: joinQ (y :: r)
theorem joinQ_lexC:∀ {ws:List (List Nat)},(∀ l∈ws,l.all lexC=true)→(joinQ ws).all lexC=true
 | [],_=>rfl
 | [x],h=>qt_lexC (h x (.head _))
 | x :: y :: r,h=>by
  show (qt x++32 :: joinQ (y :: r)).all lexC=true
  rw[List.all_append,List.all_cons,qt_lexC (h x (.head _)),joinQ_lexC fun l hl=>h l (.tail _ hl)];rfl
theorem joinQ_ok:∀ (ws:List (List Nat)),lexOk .sp (joinQ ws)=true
 | []=>rfl
 | [x]=>by
  obtain ⟨q,_,_,h⟩:=lex_word x []
  rw[List.append_nil] at h
  show lexOk .sp (qt x)=true
  rw[h];rfl
 | x :: y :: r=>by
  obtain ⟨q,_,_,h⟩:=lex_word x (32 :: joinQ (y :: r))
  show lexOk .sp (qt x++32 :: joinQ (y :: r))=true
  rw[h,lexOk,if_neg (by decide),if_neg (by decide),if_pos rfl];exact joinQ_ok (y :: r)
theorem toks_joinQ:∀ (ws:List (List Nat)),(∀ l∈ws,l.all lexC=true)→Toks (joinQ ws) ws
 | [],h=>.nil (s:=[]) (st:=false) rfl rfl rfl
 | [x],h=>by
  obtain ⟨q,h1,h2,_⟩:=lex_word x []
  rw[List.append_nil] at h1
  exact .last (q:=q) (s:=[]) (by show lexGo .sp [] false (qt x)=_;rw[h1];rfl) h2 rfl (joinQ_lexC h) (joinQ_ok [x])
 | x :: y :: r,h=>by
  obtain ⟨q,h1,h2,_⟩:=lex_word x (32 :: joinQ (y :: r))
  refine .cons (q:=q) (s:=joinQ (y :: r)) (p:=qt x++[32]) ?_ h2 (by rw[List.append_assoc];rfl) (joinQ_lexC h) (joinQ_ok _) (toks_joinQ (y :: r) fun l hl=>h l (.tail _ hl))
  show lexGo .sp [] false (qt x++32 :: joinQ (y :: r))=_
  rw[h1,lexGo,if_pos rfl,if_neg (fun e=>h2 ⟨e.2,e.1⟩)]
end Mine.Internal
end
section
open PySem PySem.W PyProof.Rows
open PySem.Builtin PySem.Builtin.Str PySem.StrLaws
namespace Mine.Internal
theorem fold_sum (s:Nat):∀ (l:List Str) (a:Nat),l.foldl (fun n x=>n+x.length+s) a=a+(l.map (·.length)).sum+l.length * s
 | [],a=>by simp
 | x :: l,a=>by
  rw[List.foldl_cons,fold_sum s l]
  simp only [List.map_cons,List.sum_cons,List.length_cons,Nat.succ_mul]
  lia
theorem sum_le {b:Nat}:∀ (l:List Str),(∀ x∈l,x.length≤b)→(l.map (·.length)).sum≤l.length * b
 | [],_=>by simp
 | x :: l,h=>by
  rw[List.map_cons,List.sum_cons,List.length_cons,Nat.succ_mul]
  have:=h x (.head _)
  have:=sum_le l fun y hy=>h y (.tail _ hy)
  lia
theorem join_ok {sep:Str} {l:List Str} {b k:Nat} (h:∀ x∈l,x.length≤b) (hl:l.length≤k) (hz:k * b+k * sep.length≤100000):JoinOk sep l=true∧(Txt.join sep l).length≤k * b+k * sep.length:=by
 have h1:=sum_le l h
 have h2:l.length * b≤k * b:=Nat.mul_le_mul_right _ hl
 have h3:l.length * sep.length≤k * sep.length:=Nat.mul_le_mul_right _ hl
 refine ⟨?_,?_⟩
 ·unfold JoinOk
  have e:l.toArray.foldl (fun n x=>n+x.length+sep.length) 0=0+(l.map (·.length)).sum+l.length * sep.length:=by
   rw[← fold_sum];simp
  rw[e]
  unfold tooLong sizeLine
  simp;lia
 ·have:=StrLaws.join_length_le sep l
  show (glued sep l).length≤_
  rw[StrLaws.glued_eq_join]
  lia
end Mine.Internal
end
section
open PySem PySem.StrLaws
namespace Mine.Internal
theorem tjoin (sep:Str) (l:List Str):Txt.join sep l=Str.join sep l:=glued_eq_join sep l
theorem tjoin_cons (sep x y:Str) (r:List Str):Txt.join sep (x :: y :: r)=x++sep++Txt.join sep (y :: r):=by rw[tjoin,tjoin];rfl
theorem join_joinQ:∀ (ws:List (List Nat)),Txt.join (Str.ofString " ") (ws.map fun l=>mk (qt l))=mk (joinQ ws)
 | []=>rfl
 | [x]=>by rw[tjoin];rfl
 | x :: y :: r=>by
  have ih:=join_joinQ (y :: r)
  rw[List.map_cons,List.map_cons,tjoin_cons]
  rw[List.map_cons] at ih
  rw[ih,show Str.ofString " "=mk [32] from rfl,mk_add,mk_add,List.append_assoc];rfl
theorem joinQ_len {b:Nat}:∀ (ws:List (List Nat)),(∀ l∈ws,l.length≤b)→(joinQ ws).length≤ws.length * (5 * b+3)
 | [],_=>Nat.zero_le _
 | [x],h=>by
  have:=qt_len x
  have:=h x (.head _)
  show (qt x).length≤_
  simp;lia
 | x :: y :: r,h=>by
  have h1:=qt_len x
  have h2:=h x (.head _)
  have ih:=joinQ_len (y :: r) fun l hl=>h l (.tail _ hl)
  show (qt x++32 :: joinQ (y :: r)).length≤_
  rw[List.length_append,List.length_cons,List.length_cons,Nat.succ_mul]
  lia
end Mine.Internal
end
section
open PySem PySem.W PyProof.Rows PySem.Calls PySem.SeqAt
open AutoSeq1 (wpAny_loadPart')
namespace Mine.Internal
noncomputable def ltL:List Str→List Str→Bool
 | [],[]=>false
 | [],_ :: _=>true
 | _ :: _,[]=>false
 | a :: as,b :: bs=>if a=b then ltL as bs else decide (L a<L b)
theorem cmpL_succ (e f:Nat→Bool) (z:Bool):∀ (k i:Nat),cmpL e f z k (i+1)=cmpL (fun j=>e (j+1)) (fun j=>f (j+1)) z k i
 | 0,_=>rfl
 | k+1,i=>by unfold cmpL;rw[cmpL_succ e f z k (i+1)]
theorem cmpL_lt:∀ a b:List Str,cmpL (fun j=>a.getD j Str.empty==b.getD j Str.empty) (fun j=>decide (L (a.getD j Str.empty)<L (b.getD j Str.empty))) (decide (a.length<b.length)) (min a.length b.length) 0=ltL a b
 | [],[]=>rfl
 | [],_ :: _=>rfl
 | _ :: _,[]=>rfl
 | x :: a,y :: b=>by
  rw[List.length_cons,List.length_cons,Nat.succ_min_succ,decide_eq_decide.mpr Nat.succ_lt_succ_iff]
  unfold cmpL ltL
  rw[cmpL_succ]
  refine Eq.trans (congrArg (fun c=>if (x==y)=true then c else decide (L x<L y)) (cmpL_lt a b)) ?_
  by_cases e:x=y
  ·rw[if_pos (by rw[e];exact beq_self_eq_true _),if_pos e]
  ·rw[if_neg (by rw[beq_eq_false_iff_ne.mpr e];exact Bool.false_ne_true),if_neg e]
theorem cmpL_gt (a b:List Str):cmpL (fun j=>a.getD j Str.empty==b.getD j Str.empty) (fun j=>decide (L (b.getD j Str.empty)<L (a.getD j Str.empty))) (decide (a.length>b.length)) (min a.length b.length) 0=ltL b a:=by
 rw[Nat.min_comm,← cmpL_lt b a]
 exact congrArg (fun e=>cmpL e _ _ _ _) (funext fun j=>Bool.beq_comm)
section
variable {A:Around} {s:Shared}
theorem list_ltAt (l b:Addr) (items items2:Array Value) (n n2:Nat) (e f:Nat→Bool) :
  Meets (Builtin.«list.__lt__» ⟨[.ref l,.ref b],[]⟩)
   (fun A R s=>s.heap.get? l=some {cls:=.type "list",dict:=none,data:=.seq items n,slots:=#[]}∧s.heap.get? b=some {cls:=.type "list",dict:=none,data:=.seq items2 n2,slots:=#[]} ∧
    (∀ j (h1:j<items.size) (h2:j<items2.size),EqAt A.in1 s items[j] items2[j] (e j))∧(∀ j (h1:j<items.size) (h2:j<items2.size),RcOp .Lt A.in1 s items[j] items2[j] (f j)) ∧
    R (.ok (.ret (.bool (cmpL e f (decide (items.size<items2.size)) (min items.size items2.size) 0)))) s):=by
 intro prog w A R s h
 obtain ⟨hp,g,d,tk,os⟩:=s;obtain ⟨hl,hb,he,hf,h⟩:=h
 have f3:=AutoSeq1.sub_list_list
 wp_walk using wpAny_loadPart' hl,wpAny_loadPart' hb
 exact ⟨plainId_quiet PySem.MeetsSeq3.plain_eq_loop _,codeAny_builtin PySem.MeetsSeq3.entry_eq_loop (by
  rw[Around.under_plainId PySem.MeetsSeq3.plain_eq_loop _]
  exact lt_loop l b items items2 n n2 e f _ 0 (Nat.zero_add _) prog w A R _ ⟨hl,hb,he,hf,h⟩)⟩
theorem list_gtAt (l b:Addr) (items items2:Array Value) (n n2:Nat) (e f:Nat→Bool) :
  Meets (Builtin.«list.__gt__» ⟨[.ref l,.ref b],[]⟩)
   (fun A R s=>s.heap.get? l=some {cls:=.type "list",dict:=none,data:=.seq items n,slots:=#[]}∧s.heap.get? b=some {cls:=.type "list",dict:=none,data:=.seq items2 n2,slots:=#[]} ∧
    (∀ j (h1:j<items.size) (h2:j<items2.size),EqAt A.in1 s items[j] items2[j] (e j))∧(∀ j (h1:j<items.size) (h2:j<items2.size),RcOp .Gt A.in1 s items[j] items2[j] (f j)) ∧
    R (.ok (.ret (.bool (cmpL e f (decide (items.size>items2.size)) (min items.size items2.size) 0)))) s):=by
 intro prog w A R s h
 obtain ⟨hp,g,d,tk,os⟩:=s;obtain ⟨hl,hb,he,hf,h⟩:=h
 have f3:=AutoSeq1.sub_list_list
 wp_walk using wpAny_loadPart' hl,wpAny_loadPart' hb
 exact ⟨plainId_quiet PySem.MeetsSeq3.plain_eq_loop _,codeAny_builtin PySem.MeetsSeq3.entry_eq_loop (by
  rw[Around.under_plainId PySem.MeetsSeq3.plain_eq_loop _]
  exact gt_loop l b items items2 n n2 e f _ 0 (Nat.zero_add _) prog w A R _ ⟨hl,hb,he,hf,h⟩)⟩
theorem RcOp.lt_str (a:Str) (t:Tok) (b:Str) (u:Tok):RcOp .Lt A s (.str a t) (.str b u) (decide (L a<L b)):=fun prog w E Q h =>
 richCompare_gives (op:=.Lt) (typeIs_str s a t) (typeIs_str s b u) F.slot_str_lt F.entry_str_lt (F.args_str_lt_2 _ _) (gives_str_lt a b t u) (fun x=>nomatch x) h
theorem RcOp.gt_str (a:Str) (t:Tok) (b:Str) (u:Tok):RcOp .Gt A s (.str a t) (.str b u) (decide (L b<L a)):=fun prog w E Q h =>
 richCompare_gives (op:=.Gt) (typeIs_str s a t) (typeIs_str s b u) F.slot_str_gt F.entry_str_gt (F.args_str_gt_2 _ _) (gives_str_gt a b t u) (fun x=>nomatch x) h
theorem RcOp.lt_strs {K:Kt} {x y:Addr} {xs ys:List Value} {n m:Nat} {a b:List Str} (hx:s.heap.get? x=some (listO xs n)) (hy:s.heap.get? y=some (listO ys m)) (rx:VRs K s.heap (strD a) xs) (ry:VRs K s.heap (strD b) ys) (hu:A.units<cLine):RcOp .Lt A s (.ref x) (.ref y) (ltL a b):=fun prog w E Q h=>by
 have la:a.length=xs.length:=by rw[← rx.length];unfold strD;rw[List.length_map]
 have lb:b.length=ys.length:=by rw[← ry.length];unfold strD;rw[List.length_map]
 have e:cmpL (fun j=>a.getD j Str.empty==b.getD j Str.empty) (fun j=>decide (L (a.getD j Str.empty)<L (b.getD j Str.empty))) (decide (xs.toArray.size<ys.toArray.size)) (min xs.toArray.size ys.toArray.size) 0=ltL a b:=by
  have:=cmpL_lt a b
  rw[List.size_toArray,List.size_toArray,← la,← lb];exact this
 exact richCompare_meets_room (op:=.Lt) ⟨_,hx,rfl⟩ ⟨_,hy,rfl⟩ F.slot_list_lt F.entry_list_lt (F.args_list_lt_2 _ _) (list_ltAt x y xs.toArray ys.toArray n m _ _)
  ⟨hx,hy,el_strs _ rx ry,fun j h1 h2=>by
   obtain ⟨t,e1⟩:=strs_at rx (j:=j) (by simpa using h1)
   obtain ⟨t',e2⟩:=strs_at ry (j:=j) (by simpa using h2)
   rw[show xs.toArray[j]=_ from e1,show ys.toArray[j]=_ from e2]
   exact RcOp.lt_str _ _ _ _,by rw[e];exact ⟨(fun x=>nomatch x),h⟩⟩ hu
theorem RcOp.gt_strs {K:Kt} {x y:Addr} {xs ys:List Value} {n m:Nat} {a b:List Str} (hx:s.heap.get? x=some (listO xs n)) (hy:s.heap.get? y=some (listO ys m)) (rx:VRs K s.heap (strD a) xs) (ry:VRs K s.heap (strD b) ys) (hu:A.units<cLine):RcOp .Gt A s (.ref x) (.ref y) (ltL b a):=fun prog w E Q h=>by
 have la:a.length=xs.length:=by rw[← rx.length];unfold strD;rw[List.length_map]
 have lb:b.length=ys.length:=by rw[← ry.length];unfold strD;rw[List.length_map]
 have e:cmpL (fun j=>a.getD j Str.empty==b.getD j Str.empty) (fun j=>decide (L (b.getD j Str.empty)<L (a.getD j Str.empty))) (decide (xs.toArray.size>ys.toArray.size)) (min xs.toArray.size ys.toArray.size) 0=ltL b a:=by
  have:=cmpL_gt a b
  rw[List.size_toArray,List.size_toArray,← la,← lb];exact this
 exact richCompare_meets_room (op:=.Gt) ⟨_,hx,rfl⟩ ⟨_,hy,rfl⟩ F.slot_list_gt F.entry_list_gt (F.args_list_gt_2 _ _) (list_gtAt x y xs.toArray ys.toArray n m _ _)
  ⟨hx,hy,el_strs _ rx ry,fun j h1 h2=>by
   obtain ⟨t,e1⟩:=strs_at rx (j:=j) (by simpa using h1)
   obtain ⟨t',e2⟩:=strs_at ry (j:=j) (by simpa using h2)
   rw[show xs.toArray[j]=_ from e1,show ys.toArray[j]=_ from e2]
   exact RcOp.gt_str _ _ _ _,by rw[e];exact ⟨(fun x=>nomatch x),h⟩⟩ hu
end
end Mine.Internal
end
section
open PySem PySem.W PyProof.Rows PySem.Calls PySem.SeqAt
namespace Mine.Internal
section
variable {w:World}
theorem min_loop {K:Kt} {s₀:Shared} {I S l:Addr} {xs:List Value} {m:Nat} {ls:List (List Str)} {A:Around} {R:Result→Shared→Prop} (hh:A.handled=none) (hu:A.units+50<cLine) (hlen:ls.length=xs.length) (hl:s₀.heap.get? l=some (listO xs m)) (hI:s₀.heap.objs.size≤I) (hS:s₀.heap.objs.size≤S) (hIS:S≠I)
  (rx:VRs K s₀.heap (ls.map fun x=>.list (strD x)) xs) :
  ∀ (k j:Nat) (s:Shared) (c:Nat) (cl:List Str) (vb:Value) (cn:Nat),j+1+k=ls.length→ls[c]?=some cl→xs[c]?=some vb→(∀ b o,s₀.heap.get? b=some o→s.heap.get? b=some o)→s.heap.IsListIter I l (j+1)→s.heap.get? S=some (listO [vb,vb] cn) →
   (∀ (h':Heap) (c':Nat) (v':Value),ls[c']?=some ((ls.drop (j+1)).foldl (fun c x=>if ltL x c then x else c) cl)→xs[c']?=some v'→(∀ b o,s₀.heap.get? b=some o→h'.get? b=some o)→R (.ok (.ret v')) {s with heap:=h'}) →
   codeAny (model pw w) A (.builtin "min.loop" ⟨[.ref I,.none,.ref S],[]⟩) R s:=by
 have hname:(toString "min"++toString ".loop":String) = "min.loop":=by decide
 have old:∀ {b o},s₀.heap.get? b=some o→b≠I∧b≠S:=fun e=>⟨fun q=>absurd (Heap.lt_size e) (Nat.not_lt.mpr (by rw[q];exact hI)),fun q=>absurd (Heap.lt_size e) (Nat.not_lt.mpr (by rw[q];exact hS))⟩
 intro k
 induction k with
 | zero =>
  intro j s c cl vb cn hk hc hv hx hit hSl hR
  refine codeAny_builtin F.entry_min_loop ?_
  rw[Around.under_plainId F.plain_min_loop _]
  show wpAny _ A.in1 (seqItems? (.ref S) >>= _) _ _ s
  refine wpAny_bind (wpAny_seqItems hSl rfl ?_)
  show wpAny _ A.in1 (tryCatch (pyNext (.ref I)) _ >>= _) _ _ s
  refine wpAny_bind (wpAny_tryCatch (wpAny_pyNext_list_end hh hit (listO_is (hx _ _ hl)) (Array.getElem?_eq_none (Nat.le_of_eq (hlen.symm.trans hk.symm))) fun h' he=>?_))
  have hS':h'.get? S=some (listO [vb,vb] cn):=he S _ hIS hSl
  show wpAny _ A.in1 (updateSeq S (fun _=>#[]) >>= _) _ _ _
  refine wpAny_bind ?_
  refine wpAny_updateSeq hS' rfl (wpAny_bind (wpAny_letGo (wpAny_pure ?_)))
  refine hR _ c vb ?_ hv fun b o e=>(Heap.get?_update_other _ _ (old e).2.symm).trans (he b o (old e).1 (hx b o e))
  rw[List.drop_eq_nil_iff.mpr (Nat.le_of_eq hk.symm)];exact hc
 | succ k ih =>
  intro j s c cl vb cn hk hc hv hx hit hSl hR
  have hl0:j+1<ls.length:=hk▸Nat.lt_add_of_pos_right (Nat.succ_pos k)
  have hlt:j+1<xs.length:=hlen▸hl0
  have hk':j+1+1+k=ls.length:=(Nat.succ_add_eq_add_succ (j+1) k).trans hk
  obtain ⟨u1,hx1⟩:∃ u,xs[j+1]?=some u:=⟨_,List.getElem?_eq_getElem hlt⟩
  refine codeAny_builtin F.entry_min_loop ?_
  rw[Around.under_plainId F.plain_min_loop _]
  show wpAny _ A.in1 (seqItems? (.ref S) >>= _) _ _ s
  refine wpAny_bind (wpAny_seqItems hSl rfl ?_)
  show wpAny _ A.in1 (tryCatch (pyNext (.ref I)) _ >>= _) _ _ s
  refine wpAny_bind (wpAny_tryCatch (wpAny_pyNext_list_item hit (listO_is (hx _ _ hl)) (x:=u1) (by simpa using hx1) fun h' hit' hs'=>?_))
  have hx':∀ b o,s₀.heap.get? b=some o→h'.get? b=some o:=fun b o e=>(hs'.2 b (old e).1).trans (hx b o e)
  have hS':h'.get? S=some (listO [vb,vb] cn):=(hs'.2 S hIS).trans hSl
  have get:∀ {i:Nat} {y:List Str} {v:Value},ls[i]?=some y→xs[i]?=some v→∃ a ys n,v=.ref a∧h'.get? a=some (listO ys n)∧VRs K h' (strD y) ys:=fun {i y v} h1 h2=>by
   obtain ⟨u,hu,ru⟩:=rx.get (i:=i) (d:=.list (strD y)) (by rw[List.getElem?_map,h1];rfl)
   rw[h2] at hu;cases hu
   obtain ⟨_,_,_,rfl,ha,hk,hn,hl⟩:=ru.inv
   exact ⟨_,_,_,rfl,hx' _ _ ha,hl.map (K':=K) (h':=h') ⟨fun b o e hk _=>⟨hx' b o e,hk⟩,fun _ _ h=>h⟩⟩
  have hl1:ls[j+1]?=some (ls[j+1]'hl0):=List.getElem?_eq_getElem hl0
  obtain ⟨a1,ys1,n1,ev1,ho1,r1⟩:=get hl1 hx1
  obtain ⟨a2,ys2,n2,ev2,ho2,r2⟩:=get hc hv
  have hdrop:ls.drop (j+1)=(ls[j+1]'hl0) :: ls.drop (j+1+1):=List.drop_eq_getElem_cons hl0
  rw[hdrop,List.foldl_cons] at hR
  show wpAny _ A.in1 (tryCatch (holding [u1,u1] (richCompare .Lt u1 vb >>= _)) _ >>= _) _ _ _
  subst ev1
  subst ev2
  refine wpAny_bind (wpAny_tryCatch (wpAny_holding (wpAny_bind (RcOp.lt_strs (s:={s with heap:=h'}) ho1 ho2 r1 r2 (by show A.units+1<cLine;lia) pw w _ _ ?_))))
  refine wpAny_bind (wpAny_holding (wpAny_truthy_bool ?_))
  refine wpAny_bind (wpAny_letGo (wpAny_pure ?_))
  cases hb:ltL (ls[j+1]'hl0) cl with
  | true =>
   rw[hb,if_pos rfl] at hR
   simp only [if_true]
   refine wpAny_bind ?_
   refine wpAny_updateSeq hS' rfl (wpAny_bind (wpAny_letGo ?_))
   rw[hname]
   refine wpAny_pure ⟨plainId_quiet F.plain_min_loop _,ih (j+1) {s with heap:=h'.update S (Obj.mapSeq fun _=>#[.ref a1,.ref a1])} (j+1) _ (.ref a1) _ hk' hl1 hx1 (fun b o e=>(Heap.get?_update_other _ _ (old e).2.symm).trans (hx' b o e)) ?_ (Heap.get?_update_self _ hS' rfl) hR⟩
   obtain ⟨o,q1,q2⟩:=hit'
   exact ⟨o,(Heap.get?_update_other _ _ hIS).trans q1,q2⟩
  | false =>
   rw[hb,if_neg Bool.false_ne_true] at hR
   simp only [Bool.false_eq_true,if_false]
   refine wpAny_bind (wpAny_letGo ?_)
   rw[hname]
   exact wpAny_pure ⟨plainId_quiet F.plain_min_loop _,ih (j+1) {s with heap:=h'} c cl (.ref a2) cn hk' hc hv hx' hit' hS' hR⟩
theorem max_loop {K:Kt} {s₀:Shared} {I S l:Addr} {xs:List Value} {m:Nat} {ls:List (List Str)} {A:Around} {R:Result→Shared→Prop} (hh:A.handled=none) (hu:A.units+50<cLine) (hlen:ls.length=xs.length) (hl:s₀.heap.get? l=some (listO xs m)) (hI:s₀.heap.objs.size≤I) (hS:s₀.heap.objs.size≤S) (hIS:S≠I)
  (rx:VRs K s₀.heap (ls.map fun x=>.list (strD x)) xs) :
  ∀ (k j:Nat) (s:Shared) (c:Nat) (cl:List Str) (vb:Value) (cn:Nat),j+1+k=ls.length→ls[c]?=some cl→xs[c]?=some vb→(∀ b o,s₀.heap.get? b=some o→s.heap.get? b=some o)→s.heap.IsListIter I l (j+1)→s.heap.get? S=some (listO [vb,vb] cn) →
   (∀ (h':Heap) (c':Nat) (v':Value),ls[c']?=some ((ls.drop (j+1)).foldl (fun c x=>if ltL c x then x else c) cl)→xs[c']?=some v'→(∀ b o,s₀.heap.get? b=some o→h'.get? b=some o)→R (.ok (.ret v')) {s with heap:=h'}) →
   codeAny (model pw w) A (.builtin "max.loop" ⟨[.ref I,.none,.ref S],[]⟩) R s:=by
 have hname:(toString "max"++toString ".loop":String) = "max.loop":=by decide
 have old:∀ {b o},s₀.heap.get? b=some o→b≠I∧b≠S:=fun e=>⟨fun q=>absurd (Heap.lt_size e) (Nat.not_lt.mpr (by rw[q];exact hI)),fun q=>absurd (Heap.lt_size e) (Nat.not_lt.mpr (by rw[q];exact hS))⟩
 intro k
 induction k with
 | zero =>
  intro j s c cl vb cn hk hc hv hx hit hSl hR
  refine codeAny_builtin F.entry_max_loop ?_
  rw[Around.under_plainId F.plain_max_loop _]
  show wpAny _ A.in1 (seqItems? (.ref S) >>= _) _ _ s
  refine wpAny_bind (wpAny_seqItems hSl rfl ?_)
  show wpAny _ A.in1 (tryCatch (pyNext (.ref I)) _ >>= _) _ _ s
  refine wpAny_bind (wpAny_tryCatch (wpAny_pyNext_list_end hh hit (listO_is (hx _ _ hl)) (Array.getElem?_eq_none (Nat.le_of_eq (hlen.symm.trans hk.symm))) fun h' he=>?_))
  have hS':h'.get? S=some (listO [vb,vb] cn):=he S _ hIS hSl
  show wpAny _ A.in1 (updateSeq S (fun _=>#[]) >>= _) _ _ _
  refine wpAny_bind ?_
  refine wpAny_updateSeq hS' rfl (wpAny_bind (wpAny_letGo (wpAny_pure ?_)))
  refine hR _ c vb ?_ hv fun b o e=>(Heap.get?_update_other _ _ (old e).2.symm).trans (he b o (old e).1 (hx b o e))
  rw[List.drop_eq_nil_iff.mpr (Nat.le_of_eq hk.symm)];exact hc
 | succ k ih =>
  intro j s c cl vb cn hk hc hv hx hit hSl hR
  have hl0:j+1<ls.length:=hk▸Nat.lt_add_of_pos_right (Nat.succ_pos k)
  have hlt:j+1<xs.length:=hlen▸hl0
  have hk':j+1+1+k=ls.length:=(Nat.succ_add_eq_add_succ (j+1) k).trans hk
  obtain ⟨u1,hx1⟩:∃ u,xs[j+1]?=some u:=⟨_,List.getElem?_eq_getElem hlt⟩
  refine codeAny_builtin F.entry_max_loop ?_
  rw[Around.under_plainId F.plain_max_loop _]
  show wpAny _ A.in1 (seqItems? (.ref S) >>= _) _ _ s
  refine wpAny_bind (wpAny_seqItems hSl rfl ?_)
  show wpAny _ A.in1 (tryCatch (pyNext (.ref I)) _ >>= _) _ _ s
  refine wpAny_bind (wpAny_tryCatch (wpAny_pyNext_list_item hit (listO_is (hx _ _ hl)) (x:=u1) (by simpa using hx1) fun h' hit' hs'=>?_))
  have hx':∀ b o,s₀.heap.get? b=some o→h'.get? b=some o:=fun b o e=>(hs'.2 b (old e).1).trans (hx b o e)
  have hS':h'.get? S=some (listO [vb,vb] cn):=(hs'.2 S hIS).trans hSl
  have get:∀ {i:Nat} {y:List Str} {v:Value},ls[i]?=some y→xs[i]?=some v→∃ a ys n,v=.ref a∧h'.get? a=some (listO ys n)∧VRs K h' (strD y) ys:=fun {i y v} h1 h2=>by
   obtain ⟨u,hu,ru⟩:=rx.get (i:=i) (d:=.list (strD y)) (by rw[List.getElem?_map,h1];rfl)
   rw[h2] at hu;cases hu
   obtain ⟨_,_,_,rfl,ha,hk,hn,hl⟩:=ru.inv
   exact ⟨_,_,_,rfl,hx' _ _ ha,hl.map (K':=K) (h':=h') ⟨fun b o e hk _=>⟨hx' b o e,hk⟩,fun _ _ h=>h⟩⟩
  have hl1:ls[j+1]?=some (ls[j+1]'hl0):=List.getElem?_eq_getElem hl0
  obtain ⟨a1,ys1,n1,ev1,ho1,r1⟩:=get hl1 hx1
  obtain ⟨a2,ys2,n2,ev2,ho2,r2⟩:=get hc hv
  have hdrop:ls.drop (j+1)=(ls[j+1]'hl0) :: ls.drop (j+1+1):=List.drop_eq_getElem_cons hl0
  rw[hdrop,List.foldl_cons] at hR
  show wpAny _ A.in1 (tryCatch (holding [u1,u1] (richCompare .Gt u1 vb >>= _)) _ >>= _) _ _ _
  subst ev1
  subst ev2
  refine wpAny_bind (wpAny_tryCatch (wpAny_holding (wpAny_bind (RcOp.gt_strs (s:={s with heap:=h'}) ho1 ho2 r1 r2 (by show A.units+1<cLine;lia) pw w _ _ ?_))))
  refine wpAny_bind (wpAny_holding (wpAny_truthy_bool ?_))
  refine wpAny_bind (wpAny_letGo (wpAny_pure ?_))
  cases hb:ltL cl (ls[j+1]'hl0) with
  | true =>
   rw[hb,if_pos rfl] at hR
   simp only [if_true]
   refine wpAny_bind ?_
   refine wpAny_updateSeq hS' rfl (wpAny_bind (wpAny_letGo ?_))
   rw[hname]
   refine wpAny_pure ⟨plainId_quiet F.plain_max_loop _,ih (j+1) {s with heap:=h'.update S (Obj.mapSeq fun _=>#[.ref a1,.ref a1])} (j+1) _ (.ref a1) _ hk' hl1 hx1 (fun b o e=>(Heap.get?_update_other _ _ (old e).2.symm).trans (hx' b o e)) ?_ (Heap.get?_update_self _ hS' rfl) hR⟩
   obtain ⟨o,q1,q2⟩:=hit'
   exact ⟨o,(Heap.get?_update_other _ _ hIS).trans q1,q2⟩
  | false =>
   rw[hb,if_neg Bool.false_ne_true] at hR
   simp only [Bool.false_eq_true,if_false]
   refine wpAny_bind (wpAny_letGo ?_)
   rw[hname]
   exact wpAny_pure ⟨plainId_quiet F.plain_max_loop _,ih (j+1) {s with heap:=h'} c cl (.ref a2) cn hk' hc hv hx' hit' hS' hR⟩
end
end Mine.Internal
end
section
open PySem PySem.W PyProof.Rows PySem.Calls PySem.SeqAt
namespace Mine.Internal
noncomputable def minL:List (List Str)→List Str
 | []=>[]
 | x :: r=>r.foldl (fun c x=>if ltL x c then x else c) x
section
variable {T:TopT} {w:World} {n:Nat} {objs:List AO} {Q:D→List AO→Prop}
theorem c_min {a:D} {ls:List (List Str)} (ha:asL objs a=some (ls.map fun x=>.list (strD x))) (hne:ls.isEmpty=false) (h:Q (.list (strD (minL ls))) objs):XCall T w n (.builtin "min") [a] [] [] objs Q:=fun A s K vs ks R X r rk=>by
 obtain ⟨_,rfl,rfl,r1⟩:=args1 r rk
 obtain ⟨l,xs,m,rfl,hl,rx,hn⟩:=asL_at X r1 ha
 have hlen:ls.length=xs.length:=by rw[← rx.length,List.length_map]
 have hname:(toString "min"++toString ".loop":String) = "min.loop":=by decide
 obtain ⟨l0,lr,rfl⟩:∃ l0 lr,ls=l0 :: lr:=by cases ls with | nil=>cases hne | cons a b=>exact ⟨a,b,rfl⟩
 obtain ⟨x0,xr,rfl⟩:∃ x0 xr,xs=x0 :: xr:=by cases xs with | nil=>cases hlen | cons a b=>exact ⟨a,b,rfl⟩
 have hIl:s.heap.objs.size≠l:=fun e=>by have:=Heap.lt_size hl;rw[← e] at this;exact absurd this (Nat.lt_irrefl _)
 refine wpAny_up (call_function_tree F.kind_min F.plain_min F.entry_min (F.args_min1 _) ?_)
 show wpAny _ A.in1 (Builtin.Builtins.bindParams "min" ["key", "default"] 0 ⟨[],[]⟩ >>= _) _ _ s
 refine wpAny_bind (wpAny_of_eq (show Builtin.Builtins.bindParams "min" ["key", "default"] 0 ⟨[],[]⟩=pure [none,none] from rfl) ?_)
 refine wpAny_bind (wpAny_pure ?_)
 refine wpAny_bind (wpAny_pyIter_list (listO_is hl) ?_)
 have hz1:=Heap.size_push s.heap (o:={cls:=.type "list_iterator",data:=.fields #[.ref l,.int 0 0]})
 have hit:(s.heap.push {cls:=.type "list_iterator",data:=.fields #[.ref l,.int 0 0]}).IsListIter s.heap.objs.size l 0:=⟨_,Heap.get?_push_size _ rfl,rfl,rfl⟩
 refine wpAny_bind (wpAny_newObj_type ?_ (by size_fits))
 rw[hname]
 have hsz:(s.heap.push {cls:=.type "list_iterator",data:=.fields #[.ref l,.int 0 0]}).objs.size=s.heap.objs.size+1:=hz1
 refine wpAny_pure ⟨plainId_quiet F.plain_min_loop _,codeAny_builtin F.entry_min_loop ?_⟩
 rw[Around.under_plainId F.plain_min_loop _]
 generalize hS:(s.heap.push {cls:=.type "list_iterator",data:=.fields #[.ref l,.int 0 0]}).objs.size=S
 have hS0:=Heap.get?_push_size (s.heap.push {cls:=.type "list_iterator",data:=.fields #[.ref l,.int 0 0]}) (o:={cls:=.type "list",data:=.seq (([]:List Value).toArray)}) rfl
 rw[hS] at hS0 hsz
 have old0:∀ b o,s.heap.get? b=some o→((s.heap.push {cls:=.type "list_iterator",data:=.fields #[.ref l,.int 0 0]}).push {cls:=.type "list",data:=.seq (([]:List Value).toArray)}).get? b=some o:=fun b o e=>Heap.get?_push_of_some _ (Heap.get?_push_of_some _ e)
 have hit0:((s.heap.push {cls:=.type "list_iterator",data:=.fields #[.ref l,.int 0 0]}).push {cls:=.type "list",data:=.seq (([]:List Value).toArray)}).IsListIter s.heap.objs.size l 0:=let ⟨o,q1,q2⟩:=hit;⟨o,Heap.get?_push_of_some _ q1,q2⟩
 generalize ((s.heap.push {cls:=.type "list_iterator",data:=.fields #[.ref l,.int 0 0]}).push {cls:=.type "list",data:=.seq (([]:List Value).toArray)})=h1 at hS0 old0 hit0 ⊢
 show wpAny _ A.in1 (seqItems? (.ref S) >>= _) _ _ _
 refine wpAny_bind (wpAny_seqItems hS0 rfl ?_)
 show wpAny _ A.in1 (tryCatch (pyNext (.ref s.heap.objs.size)) _ >>= _) _ _ _
 refine wpAny_bind (wpAny_tryCatch (wpAny_pyNext_list_item hit0 (listO_is (old0 _ _ hl)) (x:=x0) rfl fun h' hit' hs'=>?_))
 have hIS:S≠s.heap.objs.size:=by lia
 have hS':=(hs'.2 S hIS).trans hS0
 show wpAny _ A.in1 (updateSeq S (fun _=>#[x0,x0]) >>= _) _ _ _
 refine wpAny_bind ?_
 refine wpAny_updateSeq hS' rfl ?_
 rw[hname]
 have old1:∀ b o,s.heap.get? b=some o→h'.get? b=some o:=fun b o e=>(hs'.2 b fun q=>absurd (Heap.lt_size e) (by rw[q];exact Nat.lt_irrefl _)).trans (old0 b o e)
 refine wpAny_pure ⟨plainId_quiet F.plain_min_loop _,min_loop (A:=A) (K:=K) (s₀:=s) (I:=s.heap.objs.size) (S:=S) (l:=l) (ls:=l0 :: lr) R.hnd (room_cline R (k:=50) (by lia)) hlen hl (Nat.le_refl _) (by lia) hIS rx lr.length 0 _ 0 l0 x0 _ (Nat.add_comm 1 lr.length) rfl rfl (fun b o e=>(Heap.get?_update_other _ _ (fun q=>absurd (Heap.lt_size e) (Nat.not_lt.mpr (by rw[← q];lia)))).trans (old1 b o e)) ?_ (Heap.get?_update_self _ hS' rfl) fun h'' c' v' e1 e2 hx=>?_⟩
 ·obtain ⟨o,q1,q2⟩:=hit'
  exact ⟨o,(Heap.get?_update_other _ _ hIS).trans q1,q2⟩
 ·intro ht hz
  have P:Post T K s K objs {s with heap:=h''}:=.keeps X hx hz id rfl X.toks
  obtain ⟨u,hu,ru⟩:=rx.get (i:=c') (d:=.list (strD (minL (l0 :: lr)))) (by rw[List.getElem?_map,e1];rfl)
  rw[e2] at hu;cases hu
  exact ⟨K,_,objs,P,P.vr ru,h⟩
end
noncomputable def maxL:List (List Str)→List Str
 | []=>[]
 | x :: r=>r.foldl (fun c x=>if ltL c x then x else c) x
section
variable {T:TopT} {w:World} {n:Nat} {objs:List AO} {Q:D→List AO→Prop}
theorem c_max {a:D} {ls:List (List Str)} (ha:asL objs a=some (ls.map fun x=>.list (strD x))) (hne:ls.isEmpty=false) (h:Q (.list (strD (maxL ls))) objs):XCall T w n (.builtin "max") [a] [] [] objs Q:=fun A s K vs ks R X r rk=>by
 obtain ⟨_,rfl,rfl,r1⟩:=args1 r rk
 obtain ⟨l,xs,m,rfl,hl,rx,hn⟩:=asL_at X r1 ha
 have hlen:ls.length=xs.length:=by rw[← rx.length,List.length_map]
 have hname:(toString "max"++toString ".loop":String) = "max.loop":=by decide
 obtain ⟨l0,lr,rfl⟩:∃ l0 lr,ls=l0 :: lr:=by cases ls with | nil=>cases hne | cons a b=>exact ⟨a,b,rfl⟩
 obtain ⟨x0,xr,rfl⟩:∃ x0 xr,xs=x0 :: xr:=by cases xs with | nil=>cases hlen | cons a b=>exact ⟨a,b,rfl⟩
 have hIl:s.heap.objs.size≠l:=fun e=>by have:=Heap.lt_size hl;rw[← e] at this;exact absurd this (Nat.lt_irrefl _)
 refine wpAny_up (call_function_tree F.kind_max F.plain_max F.entry_max (F.args_max1 _) ?_)
 show wpAny _ A.in1 (Builtin.Builtins.bindParams "max" ["key", "default"] 0 ⟨[],[]⟩ >>= _) _ _ s
 refine wpAny_bind (wpAny_of_eq (show Builtin.Builtins.bindParams "max" ["key", "default"] 0 ⟨[],[]⟩=pure [none,none] from rfl) ?_)
 refine wpAny_bind (wpAny_pure ?_)
 refine wpAny_bind (wpAny_pyIter_list (listO_is hl) ?_)
 have hz1:=Heap.size_push s.heap (o:={cls:=.type "list_iterator",data:=.fields #[.ref l,.int 0 0]})
 have hit:(s.heap.push {cls:=.type "list_iterator",data:=.fields #[.ref l,.int 0 0]}).IsListIter s.heap.objs.size l 0:=⟨_,Heap.get?_push_size _ rfl,rfl,rfl⟩
 refine wpAny_bind (wpAny_newObj_type ?_ (by size_fits))
 rw[hname]
 have hsz:(s.heap.push {cls:=.type "list_iterator",data:=.fields #[.ref l,.int 0 0]}).objs.size=s.heap.objs.size+1:=hz1
 refine wpAny_pure ⟨plainId_quiet F.plain_max_loop _,codeAny_builtin F.entry_max_loop ?_⟩
 rw[Around.under_plainId F.plain_max_loop _]
 generalize hS:(s.heap.push {cls:=.type "list_iterator",data:=.fields #[.ref l,.int 0 0]}).objs.size=S
 have hS0:=Heap.get?_push_size (s.heap.push {cls:=.type "list_iterator",data:=.fields #[.ref l,.int 0 0]}) (o:={cls:=.type "list",data:=.seq (([]:List Value).toArray)}) rfl
 rw[hS] at hS0 hsz
 have old0:∀ b o,s.heap.get? b=some o→((s.heap.push {cls:=.type "list_iterator",data:=.fields #[.ref l,.int 0 0]}).push {cls:=.type "list",data:=.seq (([]:List Value).toArray)}).get? b=some o:=fun b o e=>Heap.get?_push_of_some _ (Heap.get?_push_of_some _ e)
 have hit0:((s.heap.push {cls:=.type "list_iterator",data:=.fields #[.ref l,.int 0 0]}).push {cls:=.type "list",data:=.seq (([]:List Value).toArray)}).IsListIter s.heap.objs.size l 0:=let ⟨o,q1,q2⟩:=hit;⟨o,Heap.get?_push_of_some _ q1,q2⟩
 generalize ((s.heap.push {cls:=.type "list_iterator",data:=.fields #[.ref l,.int 0 0]}).push {cls:=.type "list",data:=.seq (([]:List Value).toArray)})=h1 at hS0 old0 hit0 ⊢
 show wpAny _ A.in1 (seqItems? (.ref S) >>= _) _ _ _
 refine wpAny_bind (wpAny_seqItems hS0 rfl ?_)
 show wpAny _ A.in1 (tryCatch (pyNext (.ref s.heap.objs.size)) _ >>= _) _ _ _
 refine wpAny_bind (wpAny_tryCatch (wpAny_pyNext_list_item hit0 (listO_is (old0 _ _ hl)) (x:=x0) rfl fun h' hit' hs'=>?_))
 have hIS:S≠s.heap.objs.size:=by lia
 have hS':=(hs'.2 S hIS).trans hS0
 show wpAny _ A.in1 (updateSeq S (fun _=>#[x0,x0]) >>= _) _ _ _
 refine wpAny_bind ?_
 refine wpAny_updateSeq hS' rfl ?_
 rw[hname]
 have old1:∀ b o,s.heap.get? b=some o→h'.get? b=some o:=fun b o e=>(hs'.2 b fun q=>absurd (Heap.lt_size e) (by rw[q];exact Nat.lt_irrefl _)).trans (old0 b o e)
 refine wpAny_pure ⟨plainId_quiet F.plain_max_loop _,max_loop (A:=A) (K:=K) (s₀:=s) (I:=s.heap.objs.size) (S:=S) (l:=l) (ls:=l0 :: lr) R.hnd (room_cline R (k:=50) (by lia)) hlen hl (Nat.le_refl _) (by lia) hIS rx lr.length 0 _ 0 l0 x0 _ (Nat.add_comm 1 lr.length) rfl rfl (fun b o e=>(Heap.get?_update_other _ _ (fun q=>absurd (Heap.lt_size e) (Nat.not_lt.mpr (by rw[← q];lia)))).trans (old1 b o e)) ?_ (Heap.get?_update_self _ hS' rfl) fun h'' c' v' e1 e2 hx=>?_⟩
 ·obtain ⟨o,q1,q2⟩:=hit'
  exact ⟨o,(Heap.get?_update_other _ _ hIS).trans q1,q2⟩
 ·intro ht hz
  have P:Post T K s K objs {s with heap:=h''}:=.keeps X hx hz id rfl X.toks
  obtain ⟨u,hu,ru⟩:=rx.get (i:=c') (d:=.list (strD (maxL (l0 :: lr)))) (by rw[List.getElem?_map,e1];rfl)
  rw[e2] at hu;cases hu
  exact ⟨K,_,objs,P,P.vr ru,h⟩
end
end Mine.Internal
end
section
open PySem
open PySem.AutoSeq1 (wpAny_loadPart')
namespace Mine.Internal
theorem sub_map:isSubtype (.type "map") (.type "map")=pure true:=by rw[isSubtype_type];kernel_rfl
noncomputable abbrev mapHeap2 (h:Heap) (l:Addr):Heap :=
 (h.push {cls:=.type "list_iterator",data:=.fields #[.ref l,.int 0 0]}).push {cls:=.type "tuple",data:=.seq #[.ref h.objs.size]}
noncomputable abbrev mapHeap (h:Heap) (l:Addr) (f:Value):Heap :=
 (mapHeap2 h l).push {cls:=.type "map",data:=.fields #[.ref (h.push {cls:=.type "list_iterator",data:=.fields #[.ref l,.int 0 0]}).objs.size,f]}
theorem meets_map_new (f:Value) (l:Addr) (items:Array Value) (n:Nat) :
  Meets (Builtin.«map.__new__» ⟨[.type "map",f,.ref l],[]⟩) (fun _ R s=>s.heap.get? l=some {cls:=.type "list",dict:=none,data:=.seq items n,slots:=#[]} ∧
   R (.ok (.ret (.ref (mapHeap2 s.heap l).objs.size))) {s with heap:=mapHeap s.heap l f}) :=
 .of_wp fun prog w A R s h=>by
  obtain ⟨hp,g,d,tk,os⟩:=s;obtain ⟨hl,h⟩:=h
  have hsub:=sub_map
  have hL:Heap.IsList (Shared.heap ⟨hp,g,d,tk,os⟩) l items:=⟨_,hl,rfl,n,rfl⟩
  wp_walk using wpAny_loadPart' hl,wpAny_pyIter_list hL
  exact ⟨_,rfl,h⟩
end Mine.Internal
end
section
open PySem
namespace Mine.Internal
section
variable {prog:Program} {w:World} {A:Around} {E:Value→Shared→Prop} {s:Shared}
abbrev IsMap (h:Heap) (m tp:Addr) (f:Value):Prop:=h.get? m=some {cls:=.type "map",data:=.fields #[.ref tp,f]}
abbrev IsOne (h:Heap) (tp it:Addr):Prop:=h.get? tp=some {cls:=.type "tuple",data:=.seq #[.ref it]}
theorem map_next_item {m tp it l:Addr} {f:Value} {i:Nat} {items:Array Value} {x:Value} {Q:Value→Shared→Prop}
  (hm:IsMap s.heap m tp f) (ht:IsOne s.heap tp it) (hit:s.heap.IsListIter it l i) (hl:s.heap.IsList l items) (hx:items[i]?=some x) (h1:m≠it) (h2:tp≠it)
  (hQ:∀ h',h'.IsListIter it l (i+1)→Heap.SameBut it s.heap h'→wpAny (model prog w) A (call f [x]) Q E {s with heap:=h'}) :
  wpAny (model prog w) A (Builtin.«map.__next__» ⟨[.ref m],[]⟩) (fun fin s'=>∃ v,fin=.done (.ret v)∧Q v s') E s:=by
 obtain ⟨hp,g,d,tk,os⟩:=s
 show wpAny _ _ (field (.ref m) 0 >>= _) _ _ _
 refine wpAny_bind (wpAny_field hm rfl (x:=.ref tp) rfl ?_)
 show wpAny _ _ (seqItems? (.ref tp) >>= _) _ _ _
 refine wpAny_bind (wpAny_seqItems ht rfl ?_)
 show wpAny _ _ (forIn #[Value.ref it] _ _ >>= _) _ _ _
 rw[← Array.forIn_toList]
 show wpAny _ _ (forIn [Value.ref it] _ _ >>= _) _ _ _
 rw[List.forIn_cons]
 refine wpAny_bind (wpAny_bind (wpAny_bind (wpAny_holding (wpAny_nextOf_list_item hit hl hx fun h₁ hit₁ hs₁=>wpAny_pure ?_))))
 show wpAny _ _ (forIn [] _ _) _ _ _
 rw[List.forIn_nil]
 refine wpAny_pure ?_
 show wpAny _ _ (field (.ref m) 1 >>= _) _ _ _
 have hm₁:IsMap h₁ m tp f:=(hs₁.2 m h1).trans hm
 refine wpAny_bind (wpAny_field hm₁ rfl (x:=f) rfl ?_)
 show wpAny _ _ (holding [x] (call f [x]) >>= _) _ _ _
 refine wpAny_bind (wpAny_holding (wpAny_mono (hQ h₁ hit₁ hs₁) (fun v s' hv=>?_) fun _ _ h=>h))
 exact wpAny_bind (wpAny_letGo (wpAny_pure ⟨v,rfl,hv⟩))
theorem map_next_end {m tp it l:Addr} {f:Value} {i:Nat} {items:Array Value} {Q:Value→Shared→Prop} (hh:A.handled=none)
  (hm:IsMap s.heap m tp f) (ht:IsOne s.heap tp it) (hit:s.heap.IsListIter it l i) (hl:s.heap.IsList l items) (hx:items[i]?=none)
  (hE:∀ h' e,Heap.ExtBut it s.heap h'→(∃ o,h'.get? e=some o∧o.cls=.type "StopIteration")→E (.ref e) {s with heap:=h'}) :
  wpAny (model prog w) A (Builtin.«map.__next__» ⟨[.ref m],[]⟩) (fun fin s'=>∃ v,fin=.done (.ret v)∧Q v s') E s:=by
 obtain ⟨hp,g,d,tk,os⟩:=s
 show wpAny _ _ (field (.ref m) 0 >>= _) _ _ _
 refine wpAny_bind (wpAny_field hm rfl (x:=.ref tp) rfl ?_)
 show wpAny _ _ (seqItems? (.ref tp) >>= _) _ _ _
 refine wpAny_bind (wpAny_seqItems ht rfl ?_)
 show wpAny _ _ (forIn #[Value.ref it] _ _ >>= _) _ _ _
 rw[← Array.forIn_toList]
 show wpAny _ _ (forIn [Value.ref it] _ _ >>= _) _ _ _
 rw[List.forIn_cons]
 exact wpAny_bind (wpAny_bind (wpAny_bind (wpAny_holding (wpAny_nextOf_list_end hh hit hl hx hE))))
theorem slot_map_next:Slot "map" "__next__" "map.__next__":=.of (owner := "map") (n := "__next__") (by rw[typeLookup_type,builtinLookup_eq_fast];kernel_rfl) (by decide +kernel) (by decide +kernel) (by decide +kernel)
  (by first | exact .inl (by decide +kernel) | exact .inr (by decide +kernel)) (by rw[isSubtype_type];kernel_rfl)
theorem entry_map_next:entryFor table "map.__next__"=some Builtin.«map.__next__»:=entryFor_of_tree (by kernel_rfl)
theorem args_map_next (a:Value):argsOk "map.__next__" ⟨[a],[]⟩:=by unfold argsOk;kernel_rfl
end
end Mine.Internal
end
section
open PySem
namespace Mine.Internal
section
variable {prog:Program} {w:World} {A:Around} {E:Value→Shared→Prop} {s:Shared}
theorem pyNext_map_end {m tp it l:Addr} {f:Value} {i:Nat} {items:Array Value} {Q:Option Value→Shared→Prop} (hh:A.handled=none)
  (hm:IsMap s.heap m tp f) (ht:IsOne s.heap tp it) (hit:s.heap.IsListIter it l i) (hl:s.heap.IsList l items) (hx:items[i]?=none)
  (hQ:∀ h',Heap.ExtBut it s.heap h'→Q none {s with heap:=h'}):wpAny (model prog w) A (pyNext (.ref m)) Q E s:=by
 have hT:s.TypeIs (.ref m) "map":=⟨_,hm,rfl⟩
 unfold pyNext
 refine wpAny_bind (wpAny_attempt (wpAny_callSpecial?_slot (name:=Str.ofString "__next__") hT slot_map_next
  (wpAny_call_entry slot_map_next hT entry_map_next (map_next_end hh hm ht hit hl hx fun h' x he' hx'=>?_) (args_map_next _))))
 obtain ⟨o,ho,hc⟩:=hx'
 refine wpAny_bind (wpAny_isInstance (T := "StopIteration") (b:=true) ⟨o,ho,hc⟩ isSubtype_stop ?_)
 exact wpAny_pure (hQ _ he')
theorem slot_map_iter:Slot "map" "__iter__" "map.__iter__":=.of (owner := "map") (n := "__iter__") (by rw[typeLookup_type,builtinLookup_eq_fast];kernel_rfl) (by decide +kernel) (by decide +kernel) (by decide +kernel)
  (by first | exact .inl (by decide +kernel) | exact .inr (by decide +kernel)) (by rw[isSubtype_type];kernel_rfl)
end
end Mine.Internal
end
section
open PySem
namespace Mine.Internal
section
variable {prog:Program} {w:World} {A:Around} {E:Value→Shared→Prop} {s:Shared}
theorem map_mro:mroOf (.type "map")=pure [.type "map",.type "object"]:=by rw[mroOf_type];kernel_rfl
theorem map_lnew:typeLookup (.type "map") "__new__"=pure (some (.builtin "map.__new__")):=by rw[typeLookup_type,builtinLookup_eq_fast];kernel_rfl
theorem map_slot_init:Slot "map" "__init__" "object.__init__":=.of (owner := "object") (n := "__init__") (by rw[typeLookup_type,builtinLookup_eq_fast];kernel_rfl) (by decide +kernel) (by decide +kernel) (by decide +kernel)
  (by first | exact .inl (by decide +kernel) | exact .inr (by decide +kernel)) (by rw[isSubtype_type];kernel_rfl)
theorem map_called:TypeCalled "map" "map.__new__" "object.__init__" :=
 ⟨by decide +kernel,by decide +kernel,⟨_,_,map_mro⟩,madeBy_type map_mro map_lnew (by decide +kernel),by decide +kernel,by rw[isSubtype_type];kernel_rfl,map_slot_init⟩
theorem map_typeCall (a b:Value):checkTypeCall "map" ⟨[a,b],[]⟩=pure ():=by kernel_rfl
theorem map_newCall (a b:Value):checkBuiltinCall "map.__new__" ⟨[.type "map",a,b],[]⟩=pure ():=by rw[PySem.W.Fast.te10254737850608025244];kernel_rfl
theorem map_entry_new:entryFor table "map.__new__"=some Builtin.«map.__new__»:=entryFor_of_tree (by kernel_rfl)
theorem object_init_3 (a b c:Value):argsOk "object.__init__" ⟨[a,b,c],[]⟩:=by
 unfold argsOk;rw[signature?_of (id := "object.__init__") (n:=['_','_','t','i','n','i','_','_']) (o:=['t','c','e','j','b','o']) (by kernel_rfl) F.owner_object];kernel_rfl
theorem call_map {f:Value} {l:Addr} {items:Array Value} {n:Nat} {Q:Value→Shared→Prop} (hl:s.heap.get? l=some {cls:=.type "list",dict:=none,data:=.seq items n,slots:=#[]})
  (h:∀ h',IsMap h' (s.heap.objs.size+2) (s.heap.objs.size+1) f→IsOne h' (s.heap.objs.size+1) s.heap.objs.size→h'.IsListIter s.heap.objs.size l 0→h'.objs.size=s.heap.objs.size+3 →
   (∀ b o,s.heap.get? b=some o→h'.get? b=some o)→Q (.ref (s.heap.objs.size+2)) {s with heap:=h'}) :
  wpAny (model prog w) A (call (.type "map") [f,.ref l]) Q E s:=by
 refine callType_new map_called (by decide) (map_typeCall _ _) (map_newCall _ _) (fun obj=>object_init_3 obj _ _) map_entry_new (meets_map_new f l items n) ⟨hl,?_⟩
 have hz1:(s.heap.push {cls:=.type "list_iterator",data:=.fields #[.ref l,.int 0 0]}).objs.size=s.heap.objs.size+1:=Heap.size_push ..
 have hz2:(mapHeap2 s.heap l).objs.size=s.heap.objs.size+2:=by rw[mapHeap2,Heap.size_push,hz1]
 have hm:IsMap (mapHeap s.heap l f) (s.heap.objs.size+2) (s.heap.objs.size+1) f:=by
  have:=Heap.get?_push_size (mapHeap2 s.heap l) (o:={cls:=.type "map",data:=.fields #[.ref (s.heap.push {cls:=.type "list_iterator",data:=.fields #[.ref l,.int 0 0]}).objs.size,f]}) rfl
  rw[hz2,hz1] at this
  show (mapHeap s.heap l f).get? _=_
  rw[mapHeap,hz1];exact this
 have ht:IsOne (mapHeap s.heap l f) (s.heap.objs.size+1) s.heap.objs.size:=by
  have:=Heap.get?_push_size (s.heap.push {cls:=.type "list_iterator",data:=.fields #[.ref l,.int 0 0]}) (o:={cls:=.type "tuple",data:=.seq #[.ref s.heap.objs.size]}) rfl
  rw[hz1] at this
  exact Heap.get?_push_of_some _ this
 show _∧_
 rw[hz2]
 exact ⟨⟨_,hm,rfl⟩,h _ hm ht ⟨_,Heap.get?_push_of_some _ (Heap.get?_push_of_some _ (Heap.get?_push_size _ rfl)),rfl,rfl⟩ (by rw[mapHeap,Heap.size_push,hz2]) fun b o x=>Heap.get?_push_of_some _ (Heap.get?_push_of_some _ (Heap.get?_push_of_some _ x))⟩
end
end Mine.Internal
end
section
open PySem
namespace Mine.Internal
section
variable {prog:Program} {w:World} {A:Around} {E:Value→Shared→Prop} {s:Shared}
theorem map_args_iter (a:Value):argsOk "map.__iter__" ⟨[a],[]⟩:=by unfold argsOk;kernel_rfl
theorem map_entry_iter:entryFor table "map.__iter__"=some Builtin.«dict_keyiterator.__iter__» :=
 entryFor_alias (id' := "dict_keyiterator.__iter__") (by rw[fastTable_eq_tree];kernel_rfl) (by first | rfl | decide +kernel | (unfold String.splitOn;simp +decide [String.splitOnAux])) (by decide +kernel) (by rw[fastTable_eq_tree];kernel_rfl)
theorem pyIter_map {m tp:Addr} {f:Value} {Q:Value→Shared→Prop} (hm:IsMap s.heap m tp f) (h:Q (.ref m) s):wpAny (model prog w) A (pyIter (.ref m)) Q E s:=by
 have hT:s.TypeIs (.ref m) "map":=⟨_,hm,rfl⟩
 refine wpAny_pyIter_slot hT slot_map_iter (wpAny_call_entry slot_map_iter hT map_entry_iter ?_ (map_args_iter _))
 show wpAny _ _ (ret (.ref m)) _ _ s
 exact wpAny_pure ⟨_,rfl, "map",_,hT,slot_map_next.lookup,h⟩
end
end Mine.Internal
end
section
open PySem PySem.W PyProof.Rows
namespace Mine.Internal
section
variable {T:TopT} {w:World} {n:Nat} {env:Env} {loc:List (Str×D)} {objs:List AO}
theorem collect_hid {A:Around} {s₀:Shared} {K₀:Kt} {W:List Addr} {I:Addr} {cls:String} {ds:List D} {Q:List Value→Shared→Prop} (hn:ds.length≤100000) (Inv:Nat→Kt→List AO→Shared→Prop) (Fin:List AO→Prop)
  (X:Tr T K₀ objs s₀) (hIs:I<s₀.heap.objs.size) (hWs:∀ a∈W,a<s₀.heap.objs.size)
  (hT:∀ j K o s,Inv j K o s→s.TypeIs (.ref I) cls) (hc1:(Value.type cls==Value.type "list")=false) (hc2:(Value.type cls==Value.type "tuple")=false)
  (hlen:typeLookup (.type cls) "__len__"=pure none) (hhint:typeLookup (.type cls) "__length_hint__"=pure none)
  (self:∀ (A:Around) (s:Shared) (K:Kt) (E:Value→Shared→Prop) (Q':Value→Shared→Prop),Inv 0 K objs s→Q' (.ref I) s→wpAny (model pw w) A (pyIter (.ref I)) Q' E s)
  (step:∀ j K o s d,Tr T K o s→Inv j K o s→ds[j]?=some d→wpAny (model pw w) A.in1 (pyNext (.ref I)) (CStep T W K s d Inv j) noE s)
  (done:∀ K o s,Tr T K o s→Inv ds.length K o s→wpAny (model pw w) A.in1 (pyNext (.ref I)) (CDone T W K s fun _ o _=>Fin o) noE s)
  (hidF:∀ j K o s,Inv j K o s→∀ a∈W,a∈K.hid)
  (start:∀ s',Mv K₀ (K₀.hide [s₀.heap.objs.size]) s₀.heap s'.heap→(∀ b ob,s₀.heap.get? b=some ob→s'.heap.get? b=some ob)→s'.gens=s₀.gens→Inv 0 (K₀.hide [s₀.heap.objs.size]) objs s')
  (stay:∀ j K o s s',Inv j K o s→Mv K K s.heap s'.heap→(∀ b ob,b<s₀.heap.objs.size→s.heap.get? b=some ob→s'.heap.get? b=some ob)→s'.gens=s.gens→Inv j K o s')
  (hQ:∀ s' K' o' vs,Tr T K' o' s'→PreS (W++adrs K₀) s₀ s'→Grows s₀ K₀ K'→VRs K' s'.heap ds vs→Fin o'→Q vs s') :
  wpAny (model pw w) A (collect (.ref I)) Q noE s₀:=by
 let S:=s₀.heap.objs.size
 have hSI:S≠I:=Nat.ne_of_gt hIs
 have hSW:S∉W:=fun q=>Nat.lt_irrefl _ (hWs _ q)
 unfold collect
 refine wpAny_bind (wpAny_runValue (codeAny_builtin F.entry_proto_collect ?_))
 rw[Around.under_plainId F.plain_proto_collect _]
 show wpAny _ A.in1 (newList [] >>= fun l=>again (.builtin "list.__iadd__" ⟨[l,.ref I],[]⟩)) _ _ s₀
 refine wpAny_bind (wpAny_newObj_type ?_)
 refine wpAny_pure ⟨plainId_quiet F.plain_list_iadd _,codeAny_builtin F.entry_list_iadd ?_⟩
 rw[Around.under_plainId F.plain_list_iadd _]
 have hS:(s₀.heap.push {cls:=.type "list",data:=.seq ([]:List Value).toArray}).get? S=some (listO [] 0):=Heap.get?_push_size _ rfl
 have hlow:T.N≤S:=X.top.size
 have P₀:Pres [] s₀ {s₀ with heap:=s₀.heap.push {cls:=.type "list",data:=.seq ([]:List Value).toArray}}:=⟨fun b o e _=>Heap.get?_push_of_some _ e,by show _≤(s₀.heap.push _).objs.size;rw[Heap.size_push];exact Nat.le_succ _,rfl,id⟩
 have hf0:∀ a∈[S],s₀.heap.objs.size≤a∧a<(s₀.heap.push {cls:=.type "list",data:=.seq ([]:List Value).toArray}).objs.size:=fun a ha=>by rw[List.mem_singleton.mp ha,Heap.size_push];exact ⟨Nat.le_refl _,Nat.lt_succ_self _⟩
 have X₁:Tr T (K₀.hide [S]) objs {s₀ with heap:=s₀.heap.push {cls:=.type "list",data:=.seq ([]:List Value).toArray}}:=X.hide P₀ hf0 X.toks
 have m₁:=Mv.hide (K:=K₀) (H:=[S]) P₀ fun a ha=>(hf0 a ha).1
 have hSh:S∈(K₀.hide [S]).hid:=.head _
 have hst₁:=start {s₀ with heap:=s₀.heap.push {cls:=.type "list",data:=.seq ([]:List Value).toArray}} m₁ (fun b ob e=>Heap.get?_push_of_some _ e) rfl
 show wpAny _ A.in1 (Builtin.List.listExtendWith (.ref S) (.ref I) (.ref S)) _ _ _
 unfold Builtin.List.listExtendWith
 refine wpAny_bind (wpAny_typeOf (hT 0 _ _ _ hst₁) ?_)
 have h1:Builtin.List.listSameRef (.ref S) (.ref I)=false:=by simp [Builtin.List.listSameRef,hSI]
 simp only [h1,hc1,hc2,Bool.or_false,Bool.false_eq_true,if_false]
 refine wpAny_bind (self _ _ _ _ _ hst₁ ?_)
 refine wpAny_bind (wpAny_holding ?_)
 unfold Builtin.List.listLengthHint
 refine wpAny_bind (wpAny_specialOf (hT 0 _ _ _ hst₁) hlen ?_)
 show wpAny _ A.in1 (specialOf (Value.ref I) (Str.ofString "__length_hint__") >>= _) _ _ _
 refine wpAny_bind (wpAny_specialOf (hT 0 _ _ _ hst₁) hhint ?_)
 refine wpAny_pure ?_
 show wpAny _ A.in1 (rule "list.extend.makes-room" >>= fun _=>Builtin.List.listTouch (.ref S) >>= fun _ =>
  again (.builtin "list.extend.loop" ⟨[.ref S,.ref I,.ref S],[]⟩)) _ _ _
 refine wpAny_bind (wpAny_rule ?_)
 refine wpAny_bind ?_
 show wpAny _ A.in1 (updateSeq S (·.push .none) >>= fun _=>updateSeq S (·.pop)) _ _ _
 refine wpAny_bind (wpAny_updateSeq hS rfl ?_)
 obtain ⟨X₄,P₄,m₄⟩:=X₁.hidset (g:=Obj.mapSeq (·.push Value.none)) hSh hlow hS (fun es n q=>by cases q)
 have g₄:=Heap.get?_update_self (Obj.mapSeq (·.push Value.none)) hS rfl
 refine wpAny_updateSeq (hz:=by seq_fits) g₄ rfl ?_
 obtain ⟨X₅,P₅,m₅⟩:=X₄.hidset (g:=Obj.mapSeq (·.pop)) hSh hlow g₄ (fun es n q=>by cases q)
 have g₅:=Heap.get?_update_self (Obj.mapSeq (·.pop)) g₄ rfl
 have hst₅:=stay 0 _ objs _ {s₀ with heap:=((s₀.heap.push {cls:=.type "list",data:=.seq ([]:List Value).toArray}).update S (Obj.mapSeq (·.push Value.none))).update S (Obj.mapSeq (·.pop))} (stay 0 _ objs _ {s₀ with heap:=(s₀.heap.push {cls:=.type "list",data:=.seq ([]:List Value).toArray}).update S (Obj.mapSeq (·.push Value.none))} hst₁ m₄ (fun b ob hb e=>(Heap.get?_update_ne _ _ _ _ (Nat.ne_of_lt hb)).trans e) rfl) m₅ (fun b ob hb e=>(Heap.get?_update_ne _ _ _ _ (Nat.ne_of_lt hb)).trans e) rfl
 refine wpAny_pure ⟨plainId_quiet F.plain_extend_loop _,extend_loopH (T:=T) (W:=W) hSW (ds:=ds) hn Inv (fun _ o _=>Fin o) (fun j K o s d _ Xj i hd=>step j K o s d Xj i hd) (fun K o s _ Xj i=>done K o s Xj i) hidF
  (fun j K o s h' _ i mv ke=>stay j K o s {s with heap:=h'} i mv (fun b ob hb e=>ke b ob (Nat.ne_of_lt hb) e) rfl) ds.length 0 _ objs _ [] _ (by lia) (Nat.zero_le _) X₅ hSh hlow g₅ .nil hst₅ fun s' K' o' xs' m' X' P' G' e' v' f'=>?_⟩
 show wpAny _ A (load S >>= _) _ _ s'
 refine wpAny_bind (wpAny_load e' ?_)
 refine wpAny_pure ?_
 show Q xs'.toArray.toList s'
 have hid':K'.hid=S :: K₀.hid:=by rw[G'.hid];rfl
 have sub:∀ a∈K₀.hid,a∈K'.hid:=fun a ha=>by rw[hid'];exact .tail _ ha
 refine hQ s' (K'.bare K₀.hid) o' xs' (X'.bare sub) ?_ ?_ (v'.map (.bare sub)) f'
 ·have a1:PreS [S] s₀ _:=(((P₀.wider (W':=[S]) fun a h=>by cases h).trans P₄ fun a h=>.inl h).trans P₅ fun a h=>.inl h).soft
  have a4:=(a1.wider (W':=S :: (W++adrs K₀)) fun a h=>by rw[List.mem_singleton.mp h];exact .head _).trans P' fun a h=>.inl h
  exact pres_drop (H:=[S]) a4 fun a h=>by rw[List.mem_singleton.mp h];exact Nat.le_refl _
 ·exact ⟨G'.ext,fun a ha=>(G'.fresh a ha).imp id fun q=>Nat.le_trans (Nat.le_trans P₀.size (Nat.le_trans P₄.size P₅.size)) q,rfl⟩
end
section
variable {prog:Program} {w:World} {A:Around} {E:Value→Shared→Prop} {s:Shared}
theorem pyNext_map_at {m tp it l:Addr} {f:Value} {i:Nat} {items:Array Value} {x:Value} {Q:Option Value→Shared→Prop}
  (hm:IsMap s.heap m tp f) (ht:IsOne s.heap tp it) (hit:s.heap.IsListIter it l i) (hl:s.heap.IsList l items) (hx:items[i]?=some x) (h1:m≠it) (h2:tp≠it)
  (hQ:∀ h' (E':Value→Shared→Prop),h'.IsListIter it l (i+1)→Heap.SameBut it s.heap h'→wpAny (model prog w) A.in1 (call f [x]) (fun v s'=>Q (some v) s') E' {s with heap:=h'}) :
  wpAny (model prog w) A (pyNext (.ref m)) Q E s:=by
 have hT:s.TypeIs (.ref m) "map":=⟨_,hm,rfl⟩
 unfold pyNext
 exact wpAny_bind (wpAny_attempt (wpAny_callSpecial?_slot (name:=Str.ofString "__next__") hT slot_map_next
  (wpAny_call_entry slot_map_next hT entry_map_next
   (map_next_item hm ht hit hl hx h1 h2 fun h' a b=>wpAny_mono (hQ h' _ a b) (fun v s' hv=>wpAny_pure hv) fun _ _ h=>h) (args_map_next _))))
theorem map_no_len:typeLookup (.type "map") "__len__"=pure none:=by rw[typeLookup_type,builtinLookup_eq_fast];kernel_rfl
theorem map_no_hint:typeLookup (.type "map") "__length_hint__"=pure none:=by rw[typeLookup_type,builtinLookup_eq_fast];kernel_rfl
end
section
variable {T:TopT} {w:World} {n:Nat} {env:Env} {loc:List (Str×D)} {objs:List AO}
theorem Tr.hidext {K:Kt} {s:Shared} {a:Addr} {o:Obj} {h':Heap} (X:Tr T K objs s) (ha:a∈K.hid) (hl:T.N≤a) (ho:s.heap.get? a=some o) (hd:∀ es n,o.data≠.dict es n) (hs:Heap.ExtBut a s.heap h') (hz:s.heap.objs.size≤h'.objs.size) :
  Tr T K objs {s with heap:=h'}∧Pres [a] s {s with heap:=h'}∧Mv K K s.heap h':=by
 have ne:∀ b o,b≠a→s.heap.get? b=some o→h'.get? b=some o:=fun b o q e=>hs b o q e
 have mv:Mv K K s.heap h':=⟨fun b o e hk hi=>⟨ne b o (fun q=>hk (by rw[q];exact List.mem_append_right _ ha)) e,hk⟩,fun _ _ h=>h⟩
 refine ⟨X.map (s':={s with heap:=h'}) rfl mv (fun b o e hb=>ne b o (fun q=>?_) e) (fun b hb=>Nat.lt_of_lt_of_le (X.live b (List.mem_append_right _ hb)) hz) hz X.gens X.toks X.hd
   fun L hL d=>d.dat fun o' ho'=>⟨o',ne L o' (fun q=>?_) ho',rfl⟩,
  ⟨fun b o e hb=>ne b o (fun q=>hb (by rw[q];exact .head _)) e,hz,rfl,id⟩,mv⟩
 ·subst q;exact hb.elim (X.hd b ha) fun hb=>absurd hb (Nat.not_lt.mpr hl)
 ·subst q
  obtain ⟨o₁,es,n,e1,e2⟩:=d
  rw[ho] at e1;cases e1;exact hd es n e2
theorem Room.in4 {A:Around} (R:Room T A (n+1)):Room T A.in1.in1.in1.in1 n:=⟨by have:=R.depth;show A.depth+n≤900;lia,by have:=R.units;show A.units+1+1+1+1+8 * n≤4000;lia,R.hnd,R.frs⟩
structure MapAt (K:Kt) (it tp m l:Addr) (f:Value) (xs:List Value) (nn:Nat) (ld:List D) (j:Nat) (s:Shared):Prop where
 hid:it∈K.hid∧tp∈K.hid∧m∈K.hid
 hm:IsMap s.heap m tp f
 htp:IsOne s.heap tp it
 hit:s.heap.IsListIter it l j
 hl:s.heap.get? l=some (listO xs nn)
 out:l∉offs K
 vs:VRs K s.heap ld xs
 ne:m≠it∧tp≠it
theorem ListIter.dat {h:Heap} {it l:Addr} {j:Nat} (x:h.IsListIter it l j) {h':Heap} (k:∀ o,h.get? it=some o→h'.get? it=some o):h'.IsListIter it l j:=by
 obtain ⟨o,h1,h2,h3⟩:=x
 exact ⟨o,k o h1,h2,h3⟩
theorem collect_map {A:Around} {s₀:Shared} {K₀:Kt} {it tp m l f:Addr} {xs:List Value} {nn:Nat} {ld ds:List D} {Q:List Value→Shared→Prop} (R:Room T A.in1.in1 n)
  (X:Tr T K₀ objs s₀) (M:MapAt K₀ it tp m l (.ref f) xs nn ld 0 s₀) (hlow:T.N≤it) (hn:ds.length≤100000) (hlen:ds.length=ld.length)
  (hf:∀ (j:Nat) (d:D),ld[j]?=some d→XC T w n (.ref f) [d] [] [] objs fun d' o'=>ds[j]?=some d'∧o'=objs)
  (hQ:∀ s' K' vs,Tr T K' objs s'→PreS (it :: adrs K₀) s₀ s'→Grows s₀ K₀ K'→VRs K' s'.heap ds vs→Q vs s') :
  wpAny (model pw w) A (collect (.ref m)) Q noE s₀:=by
 have lt:∀ a∈K₀.hid,a<s₀.heap.objs.size:=fun a ha=>X.live a (List.mem_append_right _ ha)
 have hfld:∀ {j s K},MapAt K it tp m l (.ref f) xs nn ld j s→∃ o,s.heap.get? it=some o∧∀ es n,o.data≠.dict es n:=fun M=>by
  obtain ⟨o,h1,h2,h3⟩:=M.hit
  exact ⟨o,h1,fun es n e=>by rw[h3] at e;cases e⟩
 refine collect_hid (W:=[it]) (ds:=ds) (cls := "map") hn (fun j K o s=>o=objs∧MapAt K it tp m l (.ref f) xs nn ld j s) (fun o=>o=objs) X (lt _ M.hid.2.2) (fun a ha=>by rw[List.mem_singleton.mp ha];exact lt _ M.hid.1)
  (fun j K o s i=>⟨_,i.2.hm,rfl⟩) rfl rfl map_no_len map_no_hint (fun A s K E Q' i q=>pyIter_map i.2.hm q) (fun j K o s d Xs i hd=>?_) (fun K o s Xs i=>?_) (fun j K o s i a ha=>by rw[List.mem_singleton.mp ha];exact i.2.hid.1) (fun s' mv ke ge=>⟨rfl,?_⟩) (fun j K o s s' i mv ke ge=>⟨i.1,?_⟩) fun s' K' o' vs X' P' G' v' f'=>?_
 ·obtain ⟨rfl,M⟩:=i
  have hj:j<ds.length:=(List.getElem?_eq_some_iff.mp hd).1
  have hjx:j<xs.length:=by rw[← M.vs.length,← hlen];exact hj
  have hld:ld[j]?=some (ld[j]'(by lia)):=List.getElem?_eq_getElem (by lia)
  obtain ⟨u,hu,ru⟩:=M.vs.get hld
  obtain ⟨oi,hoi,hdi⟩:=hfld M
  refine pyNext_map_at M.hm M.htp M.hit (listO_is M.hl) (x:=u) (by simpa using hu) M.ne.1 M.ne.2 fun h' E' hit' hs'=>?_
  obtain ⟨X₁,P₁,mv₁⟩:=Xs.hidext M.hid.1 hlow hoi hdi hs'.extBut (by rw[hs'.1];exact Nat.le_refl _)
  refine wX ((hf j _ hld).2 A.in1.in1 _ K [u] [] R X₁ (.cons (ru.map mv₁) .nil) .nil) fun v s₂ ⟨K₂,d₂,o₂,p₂,rv,q1,q2⟩=>?_
  subst q2
  rw[hd] at q1;cases q1
  have hh:∀ a∈K.hid,a∈K₂.hid:=fun a ha=>by rw[p₂.grows.hid];exact ha
  have kp:∀ b o,b∈K.hid→icy o.data=true→h'.get? b=some o→s₂.heap.get? b=some o:=fun b o hb hi e=>p₂.pres.keep b o e (X₁.hd b hb) (icy_hard hi)
  have ko:l∉offs K₂:=fun q=>(p₂.grows.offs _ q).elim M.out fun q=>by
   have h1:=Heap.lt_size M.hl
   have h2:s.heap.objs.size≤l:=by rw[← hs'.1];exact q
   exact absurd h1 (Nat.not_lt.mpr h2)
  have li:l≠it:=fun q=>M.out (by rw[q];exact List.mem_append_right _ M.hid.1)
  have hl₁:h'.get? l=some (listO xs nn):=(hs'.2 l li).trans M.hl
  refine ⟨v,K₂,_,rfl,⟨p₂.tr,?_,⟨p₂.grows.ext,fun a ha=>(p₂.grows.fresh a ha).imp id fun q=>by rw[← hs'.1];exact q,p₂.grows.hid⟩⟩,rv,rfl,⟨⟨hh _ M.hid.1,hh _ M.hid.2.1,hh _ M.hid.2.2⟩,?_,?_,?_,?_,ko,(p₂.vrs (M.vs.map mv₁)),M.ne⟩⟩
  ·exact (P₁.soft.wider (W':=[it]++adrs K) fun a h=>List.mem_append_left _ h).trans p₂.pres fun a h=>.inl (List.mem_append_right _ h)
  ·exact kp m _ M.hid.2.2 rfl ((hs'.2 m M.ne.1).trans M.hm)
  ·exact kp tp _ M.hid.2.1 rfl ((hs'.2 tp M.ne.2).trans M.htp)
  ·exact ListIter.dat hit' fun o e=>by
    obtain ⟨o',h1,h2,h3⟩:=hit'
    rw[h1] at e;cases e
    exact kp it _ M.hid.1 (by rw[h3];rfl) h1
  ·exact p₂.pres.keep l _ hl₁ (offs_adrs M.out) (icy_hard rfl)
 ·obtain ⟨rfl,M⟩:=i
  have hjx:xs.length≤ds.length:=by rw[← M.vs.length,← hlen];exact Nat.le_refl _
  obtain ⟨oi,hoi,hdi⟩:=hfld M
  refine wpAny_up (pyNext_map_end R.hnd M.hm M.htp M.hit (listO_is M.hl) (by simpa using hjx) fun h' he _ hz=>⟨rfl,K,_,?_,rfl⟩)
  obtain ⟨X₁,P₁,mv₁⟩:=Xs.hidext M.hid.1 hlow hoi hdi he hz
  exact ⟨X₁,P₁.soft.wider fun a h=>List.mem_append_left _ h,.refl _ _⟩
 ·have sub:∀ a∈K₀.hid,a∈(K₀.hide [s₀.heap.objs.size]).hid:=fun a ha=>List.mem_append_right _ ha
  refine ⟨⟨sub _ M.hid.1,sub _ M.hid.2.1,sub _ M.hid.2.2⟩,ke _ _ M.hm,ke _ _ M.htp,ListIter.dat M.hit fun o e=>ke _ _ e,ke _ _ M.hl,fun q=>?_,M.vs.map mv,M.ne⟩
  rcases offs_hide q with q | q
  ·exact M.out q
  ·have e:=List.mem_singleton.mp q
   have:=Heap.lt_size M.hl
   rw[e] at this;exact absurd this (Nat.lt_irrefl _)
 ·have M':=i.2
  have hb:∀ {b o},b∈K₀.hid→s.heap.get? b=some o→s'.heap.get? b=some o:=fun h e=>ke _ _ (lt _ h) e
  exact ⟨M'.hid,hb M.hid.2.2 M'.hm,hb M.hid.2.1 M'.htp,ListIter.dat M'.hit fun o e=>hb M.hid.1 e,ke _ _ (Heap.lt_size M.hl) M'.hl,M'.out,M'.vs.map mv,M'.ne⟩
 ·subst f'
  exact hQ s' K' vs X' P' G' v'
end
section
variable {prog:Program} {w:World} {A:Around} {E:Value→Shared→Prop} {s:Shared}
theorem code_tuple_new_col {Q₁:Value→Shared→Prop} {m:Addr} {cls:String} {Fin:List Value→Shared→Prop} (hT:s.TypeIs (.ref m) cls) (hc:(Value.type cls==Value.type "tuple")=false)
  (hcol:∀ (Q:List Value→Shared→Prop) (E:Value→Shared→Prop),(∀ vs s',Fin vs s'→Q vs s')→wpAny (model prog w) A.in1 (collect (.ref m)) Q E s)
  (h:∀ s' vs,Fin vs s'→vs.length≤sizeLine∧Q₁ (.ref s'.heap.objs.size) {s' with heap:=s'.heap.push {cls:=.type "tuple",data:=.seq vs.toArray}}) :
  codeAny (model prog w) A (.call (.builtin "tuple.__new__") ⟨[.type "tuple",.ref m],[]⟩) (wants Q₁ E) s:=by
 refine codeAny_of_tree ?_
 show wpAny _ A.in1 (do checkBuiltinCall "tuple.__new__" ⟨[.type "tuple",.ref m],[]⟩;again (.builtin "tuple.__new__" ⟨[.type "tuple",.ref m],[]⟩)) _ _ s
 refine wpAny_bind (wpAny_of_eq (F.newCall_tuple_1 _) (wpAny_pure ⟨plainId_quiet F.plain_tuple_new _,codeAny_builtin F.entry_tuple_new ?_⟩))
 rw[Around.under_plainId F.plain_tuple_new _]
 have hsub:=sub_tuple_self
 have hinit:=init_tuple_lookup
 have hmh:=madeHere_tuple
 wp_walk using wpAny_typeOf hT,hcol
 intro vs s' hv
 obtain ⟨hz,hq⟩:=h s' vs hv
 show wpAny _ _ (Builtin.Tuple.tupleExact vs.toArray >>= fun v=>ret v) _ _ _
 unfold Builtin.Tuple.tupleExact
 refine wpAny_bind (wpAny_newObj_type ?_ (by show vs.toArray.size≤sizeLine;simpa using hz))
 exact wpAny_pure hq
theorem call_tuple_col {Q:Value→Shared→Prop} {m:Addr} {cls:String} {Fin:List Value→Shared→Prop} (hT:s.TypeIs (.ref m) cls) (hc:(Value.type cls==Value.type "tuple")=false)
  (hcol:∀ (Q:List Value→Shared→Prop) (E:Value→Shared→Prop),(∀ vs s',Fin vs s'→Q vs s')→wpAny (model prog w) A.in1.in1 (collect (.ref m)) Q E s)
  (h:∀ s' vs,Fin vs s'→vs.length≤sizeLine∧Q (.ref s'.heap.objs.size) {s' with heap:=s'.heap.push {cls:=.type "tuple",data:=.seq vs.toArray}}) :
  wpAny (model prog w) A (call (.type "tuple") [.ref m]) Q E s:=by
 refine callType_codes (Q₁:=fun obj s₁=>s₁.TypeIs obj "tuple"∧Q obj s₁) F.called_tuple (F.typeCall_tuple_1 _) F.entry_object_init
  (code_tuple_new_col hT hc hcol fun s' vs hv=>⟨(h s' vs hv).1,⟨_,Heap.get?_push_size _ rfl,rfl⟩,(h s' vs hv).2⟩) fun obj s₁ h₁=>?_
 exact ⟨h₁.1,F.args_object_init_2 obj _,object_init_meets F.called_tuple.init.lookup F.called_tuple.made (by decide) prog w A.in1 _ s₁ ⟨h₁.1,rfl,h₁.2⟩⟩
end
section
variable {T:TopT} {w:World} {n:Nat} {env:Env} {loc:List (Str×D)} {objs:List AO}
theorem call_tuple_map {A:Around} {s₀:Shared} {K₀:Kt} {it tp m l f:Addr} {xs:List Value} {nn:Nat} {ld ds:List D} {E:Value→Shared→Prop} {Q:Value→Shared→Prop} (R:Room T A (n+1))
  (X:Tr T K₀ objs s₀) (M:MapAt K₀ it tp m l (.ref f) xs nn ld 0 s₀) (hlow:T.N≤it) (hn:ds.length≤100000) (hlen:ds.length=ld.length)
  (hf:∀ (j:Nat) (d:D),ld[j]?=some d→XC T w n (.ref f) [d] [] [] objs fun d' o'=>ds[j]?=some d'∧o'=objs)
  (hQ:∀ s' K' v,Tr T K' objs s'→PreS (it :: adrs K₀) s₀ s'→Grows s₀ K₀ K'→VR K' s'.heap (.tup ds) v→Q v s') :
  wpAny (model pw w) A (call (.type "tuple") [.ref m]) Q E s₀:=by
 refine call_tuple_col (cls := "map") (Fin:=fun vs s'=>∃ K',Tr T K' objs s'∧PreS (it :: adrs K₀) s₀ s'∧Grows s₀ K₀ K'∧VRs K' s'.heap ds vs) ⟨_,M.hm,rfl⟩ rfl (fun Q' E' hq=>?_) fun s' vs ⟨K',X',P',G',v'⟩=>?_
 ·exact wX (collect_map (A:=A.in1.in1) (n:=n) R.in4 X M hlow hn hlen hf (Q:=Q') fun s' K' vs a b c d=>hq vs s' ⟨K',a,b,c,d⟩) fun _ _ h=>h
 ·have P:=Post.push X' (tupO vs 0)
  refine ⟨by rw[← v'.length];exact Nat.le_trans hn (by decide),hQ _ K' _ P.tr (P'.trans P.pres fun a h=>?_) (G'.trans P.grows P'.size) (.tup (Heap.get?_push_size _ rfl) (fresh_not X') hn (P.vrs v'))⟩
  exact (G'.fresh a h).imp (.tail _) id
theorem tm_run {A:Around} {s₃:Shared} {K₃:Kt} {l f S:Addr} {xs:List Value} {nn:Nat} {ld ds:List D} {Q:D→List AO→Prop} {P:Value→Shared→Prop} {h':Heap} (R:Room T A (n+1)) (X₃:Tr T K₃ objs s₃) (ha:s₃.heap.get? l=some (listO xs nn)) (hk:l∉offs K₃) (hl:VRs K₃ s₃.heap ld xs)
  (hn:ds.length≤100000) (hlen:ds.length=ld.length) (hf:∀ (j:Nat) (d:D),ld[j]?=some d→XC T w n (.ref f) [d] [] [] objs fun d' o'=>ds[j]?=some d'∧o'=objs) (h:Q (.tup ds) objs)
  (hS:s₃.heap.objs.size=S) (hm':IsMap h' (S+2) (S+1) (.ref f)) (ht':IsOne h' (S+1) S) (hi':h'.IsListIter S l 0) (hz':h'.objs.size=S+3) (hk':∀ b o,s₃.heap.get? b=some o→h'.get? b=some o) (fin:∀ v s',OutE T K₃ s₃ Q v s'→P v s') :
  (∃ K₄,Tr T K₄ objs {s₃ with heap:=h'})∧wpAny (model pw w) A (call (.type "tuple") [.ref (S+2)]) P noE {s₃ with heap:=h'}:=by
 have hrun:∀ a∈[S,S+1,S+2],s₃.heap.objs.size≤a∧a<h'.objs.size:=fun a ha=>by
  simp only [List.mem_cons,List.not_mem_nil,or_false] at ha
  rw[hz'];lia
 have P₀:Pres [] s₃ {s₃ with heap:=h'}:=⟨fun b o e _=>hk' b o e,by show _≤h'.objs.size;rw[hz',hS];exact Nat.le_add_right _ _,rfl,id⟩
 have X₄:=X₃.hide (H:=[S,S+1,S+2]) P₀ hrun X₃.toks
 refine ⟨⟨_,X₄⟩,?_⟩
 have M:MapAt (K₃.hide [S,S+1,S+2]) S (S+1) (S+2) l (.ref f) xs nn ld 0 {s₃ with heap:=h'}:=by
  refine ⟨⟨.head _,.tail _ (.head _),.tail _ (.tail _ (.head _))⟩,hm',ht',hi',hk' _ _ ha,fun q=>?_,hl.map (Mv.hide P₀ fun a ha=>(hrun a ha).1),Nat.ne_of_gt (Nat.lt_add_of_pos_right (by decide)),Nat.ne_of_gt (Nat.lt_succ_self _)⟩
  exact (offs_hide q).elim hk fun q=>absurd (Heap.lt_size ha) (Nat.not_lt.mpr (hrun _ q).1)
 refine call_tuple_map (n:=n) R X₄ M (hS▸X₃.top.size) hn hlen hf fun s' K' v X' P' G' v'=>fin _ _ ?_
 have sub:∀ a∈K₃.hid,a∈K'.hid:=fun a ha=>by rw[G'.hid];exact List.mem_append_right _ ha
 refine ⟨K'.bare K₃.hid,_,_,⟨X'.bare sub,?_,⟨G'.ext,fun a ha=>(G'.fresh a ha).imp id fun q=>Nat.le_trans P₀.size q,rfl⟩⟩,v'.map (.bare sub),h⟩
 exact pres_drop (H:=[S]) ((P₀.soft.wider (W':=S :: adrs K₃) fun a h=>by cases h).trans P' fun a h=>.inl h) fun a h=>by rw[List.mem_singleton.mp h,hS];exact Nat.le_refl _
theorem ev_tuplemap {tn mn:Str} {tp mp p1 p2:Pos} {fe xe:PySem.Expr} {f:Addr} {ld ds:List D} {Q:D→List AO→Prop}
  (ht:EvE T w (n+1) env (.Name tn tp) loc objs fun d o=>d=.val (.type "tuple")∧o=objs) (hm:EvE T w (n+1) env (.Name mn mp) loc objs fun d o=>d=.val (.type "map")∧o=objs)
  (hs1:notStar fe=true) (hs2:notStar xe=true) (hfe:EvE T w (n+1) env fe loc objs fun d o=>d=.val (.ref f)∧o=objs) (hxe:EvE T w (n+1) env xe loc objs fun d o=>d=.list ld∧o=objs)
  (hn:ds.length≤100000) (hlen:ds.length=ld.length) (hf:∀ (j:Nat) (d:D),ld[j]?=some d→XC T w n (.ref f) [d] [] [] objs fun d' o'=>ds[j]?=some d'∧o'=objs) (h:Q (.tup ds) objs) :
  EvE T w (n+1) env (.Call (.Name tn tp) [.Call (.Name mn mp) [fe,xe] [] p1] [] p2) loc objs Q:=fun A s K R X F=>by
 refine wpAny_Call_Name_kw (ht.isV R X F fun s₁ K₁ p₁=>callWith_gen (args_plain (es:=[_]) rfl) rfl ?_)
 rw[starEach_cons rfl]
 refine Calls.spliced_cons (wpAny_Call_Name_kw (hm.isV R p₁.tr (F.post p₁) fun s₂ K₂ p₂=>callWith_gen (args_plain (by simp [hs1,hs2])) rfl ?_))
 have F₂:=F.post (p₁.trans p₂)
 rw[starEach_cons hs1]
 refine Calls.spliced_cons (hfe.isV R p₂.tr F₂ fun s₃ K₃ p₃=>?_)
 have F₃:=F₂.post p₃
 show wpAny _ _ (spliced (backTo p1 (starEach [xe] env))) _ _ _
 rw[starEach_cons hs2]
 refine Calls.spliced_cons (hxe.isL R p₃.tr F₃ fun s₄ K₄ l xs nn p₄ ha hk hl=>Calls.spliced_nil (wpAny_evalAll_nil ⟨fun Q' hq=>keep_type A K₄ _ s₄ Q' p₄.tr hq,call_map ha fun h' hm' ht' hi' hz' hk'=>?_⟩))
 have q₄:=(p₁.trans p₂).trans (p₃.trans p₄)
 have c:=tm_run R p₄.tr ha hk hl hn hlen hf h rfl hm' ht' hi' hz' hk' fun v s' o=>o.behind q₄
 exact Calls.spliced_nil (wpAny_evalAll_nil ⟨fun Q' hq=>c.1.elim fun K₅ X₅=>keep_type A K₅ _ _ Q' X₅ hq,c.2⟩)
end
section
variable {T:TopT} {w:World} {n:Nat} {env:Env} {loc:List (Str×D)} {objs:List AO}
theorem Kt.same {K K':Kt} {s s':Shared} {o:List AO} (g:Grows s K K') (X:Tr T K objs s) (X':Tr T K' o s') (hl:o.length=objs.length):K'=K:=by
 obtain ⟨⟨K₂,e⟩,_,h⟩:=g
 have l1:=X.len
 have l2:=X'.len
 rw[e,List.length_append,hl,← l1] at l2
 have:K₂=[]:=List.eq_nil_of_length_eq_zero (by lia)
 subst this
 rw[List.append_nil] at e
 cases K;cases K'
 simp only at e h
 subst e h
 rfl
theorem Tr.gens' {K:Kt} {s:Shared} {gs:Array GenState} (X:Tr T K objs s) (h:GB 0 gs):Tr T K objs {s with gens:=gs} :=
 X.map (s':={s with gens:=gs}) rfl ⟨fun b o e hk _=>⟨e,hk⟩,fun _ _ h=>h⟩ (fun b o e _=>e) (fun b hb=>X.live b (List.mem_append_right _ hb)) (Nat.le_refl _) h X.toks X.hd (fun L _ d=>d)
theorem Tr.other {K:Kt} {s s':Shared} (X:Tr T K objs s) (e:s'.heap=s.heap) (h:GB 0 s'.gens) (ht:0<s'.toks):Tr T K objs s':=by
 obtain ⟨hp,g,d,tk,os⟩:=s'
 simp only at e;subst e
 exact X.map (s':=⟨s.heap,g,d,tk,os⟩) rfl ⟨fun b o e hk _=>⟨e,hk⟩,fun _ _ h=>h⟩ (fun b o e _=>e) (fun b hb=>X.live b (List.mem_append_right _ hb)) (Nat.le_refl _) h ht X.hd (fun L _ d=>d)
theorem GB.set {m g:Nat} {a:Array GenState} {x:GenState} (h:GB m a) (hx:x.bare=true):GB m (a.setIfInBounds g x):=by
 refine ⟨fun y hy=>?_,by rw[Array.size_setIfInBounds];exact h.2⟩
 obtain ⟨i,hi,rfl⟩:=Array.mem_iff_getElem.mp hy
 rw[Array.getElem_setIfInBounds (by simpa using hi)]
 split
 ·exact hx
 ·exact h.1 _ (Array.getElem_mem _)
structure GSt (K:Kt) (l I C:Addr) (xs:List Value) (nn:Nat) (ds:List D) (i:Nat) (s:Shared):Prop where
 it:s.heap.IsListIter I l i
 li:s.heap.get? l=some (listO xs nn)
 vs:VRs K s.heap ds xs
 fr:∃ m,s.heap.Ns C m
structure GK (T:TopT) (K:Kt) (l I C:Addr):Prop where
 hidC:C∈K.hid
 hidI:I∈K.hid
 ne:C≠I
 lowC:T.N≤C
 lowI:T.N≤I
 out:l∉offs K
noncomputable abbrev GR (T:TopT) (K:Kt) (objs:List AO) (I:Addr):GenEnd:=fun n s₀ r s₁=>r=.ok .next∧(n=0∧Tr T K objs s₁∧Pres [I] s₀ s₁)
inductive GYo (T:TopT) (K:Kt) (objs:List AO) (l I C:Addr) (xs:List Value) (nn:Nat) (ds res:List D) (m:Nat) (s₀:Shared) (v:Value) (s:Shared) (kap:Resume→Shared→Prop):Prop
 | mk (i:Nat) (d:D) (hi:i+1+m=ds.length) (hr:res[i]?=some d) (rv:VR K s.heap d v) (X:Tr T K objs s) (P:PreS ([C,I]++adrs K) s₀ s) (S:GSt K l I C xs nn ds (i+1) s) (k:∀ s'',Tr T K objs s''→GSt K l I C xs nn ds (i+1) s''→kap (.send .none) s'')
noncomputable def GY (T:TopT) (K:Kt) (objs:List AO) (l I C:Addr) (xs:List Value) (nn:Nat) (ds res:List D):Protocol:=fun m s₀ v s kap=>GYo T K objs l I C xs nn ds res m s₀ v s kap
theorem gen_frm {K:Kt} {l I C:Addr} {xs:List Value} {nn:Nat} {ds:List D} {i:Nat} {s:Shared} {scope:Scope} {code:Value} (g:GK T K l I C) (S:GSt K l I C xs nn ds i s) (X:Tr T K objs s)
  (hk:scope.kind=.function) (hg:env.globals=mainGlobals) (hcell:∀ y∈scope.names,y.2≠.cell):Frm (T.withFs (genEnv scope [] C code builtinsNs env :: T.fs)) K (genEnv scope [] C code builtinsNs env) [] s:=by
 obtain ⟨m,hns⟩:=S.fr
 have ow:own (genEnv scope [] C code builtinsNs env)=[C]:=rfl
 refine ⟨hk,hg,rfl,fun b hb=>?_,fun b hb=>?_,.nil,fun x c h=>(by cases h),fun b hb=>?_,fun b hb=>?_,fun y hy=>absurd rfl (hcell _ (mem_of_lookup hy)),⟨_,_,rfl,rfl⟩,m,hns,fun y d' hy=>(by cases hy)⟩
 all_goals rw[ow] at hb;rw[List.mem_singleton.mp hb]
 ·exact X.hd C g.hidC
 ·exact g.lowC
 ·exact X.live C (List.mem_append_right _ g.hidC)
 ·obtain ⟨oL,es,ep,hoL,hdL,_⟩:=hns
  exact ⟨oL,hoL,by rw[hdL];rfl⟩
theorem gen_inn {K:Kt} {l I C:Addr} {xs:List Value} {nn:Nat} {ds:List D} {i:Nat} {s:Shared} {scope:Scope} {code:Value} (g:GK T K l I C) (S:GSt K l I C xs nn ds i s) (X:Tr T K objs s)
  (hk:scope.kind=.function):Tr (T.withFs (genEnv scope [] C code builtinsNs env :: T.fs)) K objs s:=by
 obtain ⟨m,hns⟩:=S.fr
 exact X.inn _ ⟨(by show scope.kind≠_;rw[hk];decide),_,rfl,Dk.ns hns,X.hd C g.hidC,g.lowC⟩
theorem gen_step {K:Kt} {l I C:Addr} {xs:List Value} {nn:Nat} {ds:List D} {i:Nat} {s s':Shared} (g:GK T K l I C) (S:GSt K l I C xs nn ds i s) (X:Tr T K objs s) (P:PreS ([C]++adrs K) s s') (hv:VRs K s'.heap ds xs) (hf:∃ m,s'.heap.Ns C m):GSt K l I C xs nn ds i s':=by
 have hI:I∉[C]++adrs K:=fun q=>(List.mem_append.mp q).elim (fun q=>g.ne (List.mem_singleton.mp q).symm) (X.hd I g.hidI)
 have hl:l∉[C]++adrs K:=fun q=>(List.mem_append.mp q).elim (fun q=>g.out (by rw[List.mem_singleton.mp q];exact List.mem_append_right _ g.hidC)) fun q=>g.out (List.mem_append_left _ q)
 refine ⟨ListIter.dat S.it fun o e=>P.keep I o e hI (icy_hard ?_),P.keep l _ S.li hl (icy_hard rfl),hv,hf⟩
 obtain ⟨o',h1,h2,h3⟩:=S.it
 rw[h1] at e;cases e;rw[h3];rfl
theorem seg_gen {A:Around} {elt iter:PySem.Expr} {x:Str} {px pos:Pos} {scope:Scope} {code:Value} {K:Kt} {l I C:Addr} {xs:List Value} {nn:Nat} {ds res:List D} (R:Room T A (n+1))
  (g:GK T K l I C) (hx:scope.names.lookup x=some .local) (hk:scope.kind=.function) (hco:scope.isCoroutine=false) (hg:env.globals=mainGlobals) (hcell:∀ y∈scope.names,y.2≠.cell)
  (turn:∀ (i:Nat) (d:D),ds[i]?=some d→EvE (T.withFs (genEnv scope [] C code builtinsNs env :: T.fs)) w n (genEnv scope [] C code builtinsNs env) elt [(x,d)] objs fun d' o'=>res[i]?=some d'∧o'=objs) :
  ∀ (k i:Nat) (s:Shared),ds.length - i=k→i≤ds.length→Tr T K objs s→GSt K l I C xs nn ds i s →
   Seg (model pw w) A (GR T K objs I) (GY T K objs l I C xs nn ds res) (ds.length - i) s (.compLoop (.GeneratorExp elt [⟨.Name x px,iter,[],0⟩] scope pos) 0 (.ref I) .none (genEnv scope [] C code builtinsNs env))
    ((model pw w).den (.compLoop (.GeneratorExp elt [⟨.Name x px,iter,[],0⟩] scope pos) 0 (.ref I) .none (genEnv scope [] C code builtinsNs env))) [] s:=by
 have hh':(A.over (.compLoop (.GeneratorExp elt [⟨.Name x px,iter,[],0⟩] scope pos) 0 (.ref I) .none (genEnv scope [] C code builtinsNs env)) []).handled=none:=R.hnd
 have RG:Room (T.withFs (genEnv scope [] C code builtinsNs env :: T.fs)) (A.over (.compLoop (.GeneratorExp elt [⟨.Name x px,iter,[],0⟩] scope pos) 0 (.ref I) .none (genEnv scope [] C code builtinsNs env)) []) n :=
  ⟨R.depth1,R.units3,R.hnd,by show A.frames.map _=_;rw[R.frs];rfl⟩
 intro k
 induction k with
 | zero =>
  intro i s hki hi X S
  have hin:i=ds.length:=Nat.le_antisymm hi (Nat.le_of_sub_eq_zero hki)
  subst hin
  obtain ⟨oi,hoi,_,hdi⟩:=S.it
  show Seg _ A _ _ _ s _ ((compTurn (.GeneratorExp elt [⟨.Name x px,iter,[],0⟩] scope pos) 0 (.ref I) .none (genEnv scope [] C code builtinsNs env)).onRaise (leaving (genEnv scope [] C code builtinsNs env))) [] s
  rw[compTurn_gen,Sem.onRaise_eq_wrap]
  refine seg_bind_wrap (wpAny_standAt ?_)
  refine seg_bind_wrap (wX (wpAny_up (Q:=fun r s'=>r=none∧∃ h',s'={s with heap:=h'}∧Heap.ExtBut I s.heap h'∧s.heap.objs.size≤h'.objs.size) (wpAny_pyNext_list_end hh' S.it (listO_is S.li) (by rw[S.vs.length];simp) fun h' he _ hz=>⟨rfl,h',rfl,he,hz⟩)) fun r s' hr=>?_)
  obtain ⟨rfl,h',rfl,he,hz⟩:=hr
  obtain ⟨X₁,P₁,mv₁⟩:=X.hidext g.hidI g.lowI hoi (fun es n e=>by rw[hdi] at e;cases e) he hz
  exact seg_end (.ok .next) ⟨rfl,Nat.sub_self _,X₁,P₁⟩
 | succ k ih =>
  intro i s hki hi X S
  have hlt:i<ds.length:=Nat.lt_of_sub_eq_succ hki
  have hd:ds[i]?=some ds[i]:=List.getElem?_eq_getElem hlt
  obtain ⟨u,hu,ru⟩:=S.vs.get hd
  obtain ⟨oi,hoi,_,hdi⟩:=S.it
  show Seg _ A _ _ _ s _ ((compTurn (.GeneratorExp elt [⟨.Name x px,iter,[],0⟩] scope pos) 0 (.ref I) .none (genEnv scope [] C code builtinsNs env)).onRaise (leaving (genEnv scope [] C code builtinsNs env))) [] s
  rw[compTurn_gen,Sem.onRaise_eq_wrap]
  refine seg_bind_wrap (wpAny_standAt ?_)
  refine seg_bind_wrap (wpAny_pyNext_list_item S.it (listO_is S.li) (x:=u) (by simpa using hu) fun h₁ hit₁ hs₁=>?_)
  obtain ⟨X₁,P₁,mv₁⟩:=X.hidext g.hidI g.lowI hoi (fun es n e=>by rw[hdi] at e;cases e) hs₁.extBut (by rw[hs₁.1];exact Nat.le_refl _)
  have hlI:l≠I:=fun q=>g.out (by rw[q];exact List.mem_append_right _ g.hidI)
  have S₁:GSt K l I C xs nn ds (i+1) {s with heap:=h₁}:=⟨hit₁,(hs₁.2 l hlI).trans S.li,S.vs.map mv₁,let ⟨m,hm⟩:=S.fr;⟨m,hm.at' fun o e=>(hs₁.2 C g.ne).trans e⟩⟩
  refine seg_bind_wrap (wpAny_of_eq (rfl:letOwnedTupleGo (.Name x px) (.ref I) u=pure ()) ?_)
  refine seg_bind_wrap (wX (l_name (env:=genEnv scope [] C code builtinsNs env) (p:=px) (loc:=[]) (n:=n) hx _ _ K u RG (gen_inn (env:=env) (code:=code) g S₁ X₁ hk) (gen_frm g S₁ X₁ hk hg hcell) (ru.map mv₁)) fun _ s₂ hq=>?_)
  obtain ⟨p₂,F₂⟩:=hq
  have X₂:Tr T K objs s₂:=p₂.tr.off
  have st₂:Mv K K h₁ s₂.heap:=.of (p₂.stillH fun a h=>by rw[List.mem_singleton.mp h];exact g.hidC) (.refl _ _)
  have S₂:GSt K l I C xs nn ds (i+1) s₂:=gen_step g S₁ X₁ p₂.pres (S₁.vs.map st₂) (let ⟨m,hm,_⟩:=F₂.ns;⟨m,hm⟩)
  refine seg_bind_wrap (m:=(pure true:Sem Bool)) (wpAny_pure ?_)
  simp only [if_true]
  have hy:∀ v,yieldOut (genEnv scope [] C code builtinsNs env) v=yieldValue v:=fun v=>by show (if scope.isCoroutine=true then _ else _)=_;simp only [hco,Bool.false_eq_true,if_false]
  simp only [hy]
  rw[Sem.bind_eq_wrap',Sem.bind_eq_wrap',Sem.wrap_wrap,Sem.wrap_wrap]
  refine seg_wrap (wX (turn i _ hd _ _ K RG p₂.tr F₂) fun y s₃ h₃=>?_)
  obtain ⟨K₃,d₃,o₃,p₃,r₃,q₃,e₃⟩:=h₃
  subst e₃
  obtain rfl:=Kt.same p₃.grows p₂.tr p₃.tr rfl
  have X₃:Tr T K₃ o₃ s₃:=p₃.tr.off
  have F₃:=F₂.post p₃
  have P₃:PreS ([C]++adrs K₃) s₂ s₃:=p₃.pres.wider fun a h=>List.mem_append_right _ h
  have S₃:GSt K₃ l I C xs nn ds (i+1) s₃:=gen_step g S₂ X₂ P₃ (p₃.vrs S₂.vs) (let ⟨m,hm,_⟩:=F₃.ns;⟨m,hm⟩)
  have hP:PreS ([C,I]++adrs K₃) s s₃:=by
   have a1:=P₁.soft.wider (W':=[C,I]++adrs K₃) fun a h=>by rw[List.mem_singleton.mp h];exact List.mem_append_left _ (.tail _ (.head _))
   have sub:∀ a∈[C]++adrs K₃,a∈[C,I]++adrs K₃:=fun a h=>(List.mem_append.mp h).elim (fun h=>by rw[List.mem_singleton.mp h];exact List.mem_append_left _ (.head _)) fun h=>List.mem_append_right _ h
   exact (a1.trans (p₂.pres.wider sub) fun a h=>.inl h).trans (P₃.wider sub) fun a h=>.inl h
  rw[hki]
  refine seg_at (seg_yield rfl rfl rfl ⟨i,d₃,by rw[Nat.add_assoc,Nat.add_comm 1 k,← hki];exact Nat.add_sub_cancel' hi,q₃,r₃,X₃,hP,S₃,fun s'' X'' S''=>?_⟩)
  have hm':k=ds.length - (i+1):=by rw[Nat.sub_add_eq,hki];rfl
  rw[hm']
  exact seg_again rfl (ih (i+1) s'' hm'.symm hlt X'' S'')
theorem seg_genStart' {A:Around} {elt iter:PySem.Expr} {x:Str} {px pos:Pos} {scope:Scope} {code:Value} {K:Kt} {l I C:Addr} {xs:List Value} {nn:Nat} {ds res:List D} (R:Room T A (n+1))
  (g:GK T K l I C) (hx:scope.names.lookup x=some .local) (hk:scope.kind=.function) (hco:scope.isCoroutine=false) (hg:env.globals=mainGlobals) (hcell:∀ y∈scope.names,y.2≠.cell)
  (turn:∀ (i:Nat) (d:D),ds[i]?=some d→EvE (T.withFs (genEnv scope [] C code builtinsNs env :: T.fs)) w n (genEnv scope [] C code builtinsNs env) elt [(x,d)] objs fun d' o'=>res[i]?=some d'∧o'=objs)
  {s:Shared} (X:Tr T K objs s) (S:GSt K l I C xs nn ds 0 s) :
   Seg (model pw w) A (GR T K objs I) (GY T K objs l I C xs nn ds res) (ds.length - 0) s (.compStart (.GeneratorExp elt [⟨.Name x px,iter,[],0⟩] scope pos) 0 (.ref I) .none (genEnv scope [] C code builtinsNs env))
    ((model pw w).den (.compStart (.GeneratorExp elt [⟨.Name x px,iter,[],0⟩] scope pos) 0 (.ref I) .none (genEnv scope [] C code builtinsNs env))) [] s:=by
 have loop:=seg_gen (iter:=iter) (px:=px) (pos:=pos) R g hx hk hco hg hcell turn ds.length 0 s rfl (Nat.zero_le _) X S
 show Seg _ A _ _ _ s _ ((compStart (.GeneratorExp elt [⟨.Name x px,iter,[],0⟩] scope pos) 0 (.ref I) .none (genEnv scope [] C code builtinsNs env)).onRaise (leaving (genEnv scope [] C code builtinsNs env))) [] s
 unfold compStart
 rw[Sem.onRaise_eq_wrap]
 show Seg _ A _ _ _ s _ ((ask >>= _).wrap _ _ _ _) [] s
 refine seg_bind_wrap (wpAny_askSetting ?_)
 split
 ·exact seg_again rfl loop
 ·refine seg_bind_wrap (wpAny_rule ?_)
  show Seg _ A _ _ _ s _ ((standAt iter.pos >>= _).wrap _ _ _ _) [] s
  exact seg_bind_wrap (wpAny_standAt (seg_bind_wrap (wpAny_pyIter_listiter S.it (seg_again rfl loop))))
end
section
variable {T:TopT} {w:World} {n:Nat} {env:Env} {loc:List (Str×D)} {objs:List AO}
theorem GK.hide {K:Kt} {l I C:Addr} {s:Shared} {H:List Addr} {nn:Nat} {xs:List Value} (g:GK T K l I C) (hl:s.heap.get? l=some (listO xs nn)) (hH:∀ a∈H,s.heap.objs.size≤a):GK T (K.hide H) l I C :=
 ⟨List.mem_append_right _ g.hidC,List.mem_append_right _ g.hidI,g.ne,g.lowC,g.lowI,fun q=>(offs_hide q).elim g.out fun q=>absurd (Heap.lt_size hl) (Nat.not_lt.mpr (hH _ q))⟩
inductive GenInv (T:TopT) (w:World) (A:Around) (K₁:Kt) (objs:List AO) (a:Addr) (gn:Nat) (l I C:Addr) (xs:List Value) (nn:Nat) (ld res:List D) (j:Nat) (K:Kt) (o:List AO) (s:Shared):Prop
 | mk (e:K=K₁) (e':o=objs) (S:GSt K l I C xs nn ld j s) (h:s.heap.IsGen a gn) (gs:GenState) (hg:s.gens[gn]?=some gs) (go:∀ s'',Tr T K objs s''→GSt K l I C xs nn ld j s''→gs.Goes (model pw w) A (GR T K objs I) (GY T K objs l I C xs nn ld res) (ld.length - j) (.send .none) s'')
theorem collect_gen {A:Around} {s₀:Shared} {K₀:Kt} {a l I C:Addr} {gn:Nat} {gs:GenState} {xs:List Value} {nn:Nat} {ld res:List D} {Q:List Value→Shared→Prop} (R:Room T A (n+1))
  (X:Tr T K₀ objs s₀) (g:GK T K₀ l I C) (S:GSt K₀ l I C xs nn ld 0 s₀) (ha:a∈K₀.hid) (hag:s₀.heap.IsGen a gn) (aC:a≠C) (aI:a≠I)
  (hgs:s₀.gens[gn]?=some gs) (hlen:res.length=ld.length) (hn:res.length≤100000)
  (hgo:∀ (A:Around) (K':Kt) (s'':Shared),Room T A (n+1)→GK T K' l I C→Tr T K' objs s''→GSt K' l I C xs nn ld 0 s''→gs.Goes (model pw w) A (GR T K' objs I) (GY T K' objs l I C xs nn ld res) (ld.length - 0) (.send .none) s'')
  (RG:Room T A.in1.in1 (n+1))
  (hQ:∀ s' K' vs,Tr T K' objs s'→PreS ([C,I]++adrs K₀) s₀ s'→Grows s₀ K₀ K'→VRs K' s'.heap res vs→Q vs s') :
  wpAny (model pw w) A (collect (.ref a)) Q noE s₀:=by
 have lt:∀ a∈K₀.hid,a<s₀.heap.objs.size:=fun a ha=>X.live a (List.mem_append_right _ ha)
 have gk:GK T (K₀.hide [s₀.heap.objs.size]) l I C:=g.hide S.li fun a h=>by rw[List.mem_singleton.mp h];exact Nat.le_refl _
 have hdep:A.in1.depth<recursionLimit:=R.depth0
 have setg:∀ {s:Shared} {x:GenState},s.setGen gn x={s with gens:=s.gens.setIfInBounds gn x}:=rfl
 have gst:∀ {j:Nat} {s:Shared} {gs:Array GenState} {K:Kt},GSt K l I C xs nn ld j s→GSt K l I C xs nn ld j {s with gens:=gs}:=fun S=>⟨S.it,S.li,S.vs,S.fr⟩
 refine collect_hid (W:=[C,I]) (ds:=res) (cls := "generator") hn (fun j K o s=>GenInv T w A.in1.in1 (K₀.hide [s₀.heap.objs.size]) objs a gn l I C xs nn ld res j K o s) (fun o=>o=objs) X (lt _ ha)
  (fun b hb=>(List.mem_cons.mp hb).elim (fun e=>by rw[e];exact lt _ g.hidC) fun hb=>by rw[List.mem_singleton.mp hb];exact lt _ g.hidI)
  (fun j K o s ⟨_,_,_,h,_,_,_⟩=>h.typeIs) rfl rfl F.gen_no_len F.gen_no_hint (fun A s K E Q' ⟨_,_,_,h,_,_,_⟩ q=>wpAny_pyIter_gen h q) (fun j K o s d Xs i hd=>?_) (fun K o s Xs i=>?_)
  (fun j K o s ⟨e,_,_,_,_,_,_⟩ b hb=>by rw[e];exact (List.mem_cons.mp hb).elim (fun e=>by rw[e];exact gk.hidC) fun hb=>by rw[List.mem_singleton.mp hb];exact gk.hidI)
  (fun s' mv ke ge=>⟨rfl,rfl,⟨ListIter.dat S.it fun o e=>ke _ _ e,ke _ _ S.li,S.vs.map mv,let ⟨m,hm⟩:=S.fr;⟨m,hm.keeps ke⟩⟩,hag.keeps ke,gs,by rw[ge];exact hgs,fun s'' X'' S''=>hgo _ _ s'' RG gk X'' S''⟩)
  (fun j K o s s' i mv ke ge=>?_) fun s' K' o' vs X' P' G' v' f'=>?_
 ·obtain ⟨rfl,rfl,S,hag,gs,hgs,hgo⟩:=i
  have hj:j<ld.length:=by rw[← hlen];exact (List.getElem?_eq_some_iff.mp hd).1
  obtain ⟨m,hm⟩:∃ m,ld.length - j=m+1:=Nat.exists_eq_add_one.mpr (Nat.sub_pos_of_lt hj)
  have Xr:Tr T (K₀.hide [s₀.heap.objs.size]) o (s.setGen gn .running):=Xs.gens' (Xs.gens.set rfl)
  have gb:∀ {m:Nat},GB m s.gens→GB m (s.setGen gn .running).gens:=fun h=>h.set rfl
  rw[hm] at hgo
  refine wpAny_pyNext_genexpQ (P:=fun n s₁ s₂=>n=0∧Tr T (K₀.hide [s₀.heap.objs.size]) o s₂∧Pres [I] s₁ s₂) R.hnd Xs.top.nolimit hdep hag hgs (hgo _ Xr (gst S)) (fun v s₁ gs' hb hv=>?_) (fun s₁ hp h' hk=>absurd hp.1 (Nat.succ_ne_zero m))
  obtain ⟨i,d',hi,hr,rv,X₁,P₁,S₁,kap⟩:=hv
  obtain rfl:i=j:=by simp only [Nat.add_sub_cancel] at hi;lia
  rw[hd] at hr;cases hr
  have hgsz:gn<s.gens.size:=(Array.getElem?_eq_some_iff.mp hgs).1
  have g1:GB (gn+1) s₁.gens:=P₁.gens (gb ⟨Xs.gens.1,hgsz⟩)
  have X₂:Tr T (K₀.hide [s₀.heap.objs.size]) o (s₁.setGen gn gs'):=X₁.gens' (X₁.gens.set hb)
  have P₂:PreS ([C,I]++adrs (K₀.hide [s₀.heap.objs.size])) s (s₁.setGen gn gs'):=⟨P₁.kp,P₁.size,P₁.os,fun h=>(P₁.gens (gb h)).set hb⟩
  refine ⟨v,_,o,rfl,⟨X₂,P₂,.refl _ _⟩,rv,rfl,rfl,gst S₁,?_,gs',?_,fun s'' X'' S''=>?_⟩
  ·obtain ⟨og,nm,qn,ho,r1,r2,r3⟩:=hag
   refine ⟨og,nm,qn,P₁.keep a og ho (fun q=>?_) (icy_hard (by rw[r2];rfl)),r1,r2,r3⟩
   rcases List.mem_append.mp q with q | q
   ·rcases List.mem_cons.mp q with q | q
    ·exact aC q
    ·exact aI (List.mem_singleton.mp q)
   ·exact Xs.hd a (List.mem_append_right _ ha) q
  ·show (s₁.gens.setIfInBounds gn gs')[gn]?=some gs'
   rw[Array.getElem?_setIfInBounds,if_pos rfl,if_pos (show gn<s₁.gens.size from g1.2)]
  ·have e:ld.length - (i+1)=m:=by rw[Nat.sub_add_eq,hm];rfl
   rw[e]
   exact kap s'' X'' S''
 ·obtain ⟨rfl,rfl,S,hag,gs,hgs,hgo⟩:=i
  have Xr:Tr T (K₀.hide [s₀.heap.objs.size]) o (s.setGen gn .running):=Xs.gens' (Xs.gens.set rfl)
  have gb:∀ {m:Nat},GB m s.gens→GB m (s.setGen gn .running).gens:=fun h=>h.set rfl
  rw[hlen,Nat.sub_self] at hgo
  refine wpAny_up (wpAny_pyNext_genexpQ (P:=fun n s₁ s₂=>n=0∧Tr T (K₀.hide [s₀.heap.objs.size]) o s₂∧Pres [I] s₁ s₂) R.hnd Xs.top.nolimit hdep hag hgs (hgo _ Xr (gst (by rw[← hlen];exact S))) (fun v s₁ gs' hb hv=>?_) (fun s₁ hp h' hk htk hz=>?_))
  ·obtain ⟨i,d',hi,hr,rv,X₁,P₁,S₁,kap⟩:=hv
   exact (kap s₁ X₁ S₁).elim
  ·obtain ⟨_,X₁,P₁⟩:=hp
   obtain ⟨oi,hoi,_,hdi⟩:=S.it
   have he:Heap.ExtBut I s.heap h':=fun b ob hb e=>hk b ob (P₁.keep b ob e fun q=>hb (List.mem_singleton.mp q))
   obtain ⟨X₂,P₂,mv₂⟩:=Xs.hidext gk.hidI g.lowI hoi (fun es n e=>by rw[hdi] at e;cases e) he hz
   have X₃:Tr T (K₀.hide [s₀.heap.objs.size]) o {s₁.setGen gn .finished with heap:=h'}:=X₂.other rfl (X₁.gens.set rfl) X₁.toks
   exact ⟨rfl,_,o,⟨X₃,PreS.wider (W:=[I]) (.of P₂.keep P₂.size P₁.os fun h=>(P₁.gens (gb h)).set rfl) fun a h=>by rw[List.mem_singleton.mp h];exact List.mem_append_left _ (.tail _ (.head _)),.refl _ _⟩,rfl⟩
 ·obtain ⟨rfl,rfl,S',hag',gs',hgs',hgo'⟩:=i
  have hb:∀ {b o},b∈K₀.hid→s.heap.get? b=some o→s'.heap.get? b=some o:=fun h e=>ke _ _ (lt _ h) e
  refine ⟨rfl,rfl,⟨ListIter.dat S'.it fun o e=>hb g.hidI e,ke _ _ (Heap.lt_size S.li) S'.li,S'.vs.map mv,let ⟨m,hm⟩:=S'.fr;⟨m,hm.at' fun o e=>hb g.hidC e⟩⟩,?_,gs',by rw[ge];exact hgs',hgo'⟩
  obtain ⟨og,nm,qn,ho,r⟩:=hag'
  exact ⟨og,nm,qn,hb ha ho,r⟩
 ·subst f'
  exact hQ s' K' vs X' P' G' v'
end
end Mine.Internal
end
section
open PySem PySem.W PyProof.Rows
namespace Mine.Internal
open Builtin Builtin.Str in
theorem gives_join' {sep:Str} {l:List (Str×Tok)} (hok:tooLong ((l.map (·.1)).toArray.foldl (·+·.length+sep.length) 0)=false):Gives (joinTail sep (strValues l)) (joinMade sep l):=by
 have g0:=gives_joinTail sep l hok
 cases l with
 | nil=>exact g0
 | cons p r=>cases r with
  | nil=>exact g0
  | cons q r'=>exact g0
section
variable {T:TopT} {w:World} {n:Nat} {env:Env} {loc:List (Str×D)} {objs:List AO}
theorem genexprCode2 {M:Model} {A:Around} {E:Value→Shared→Prop} {s:Shared} {env:Env} {c P:Addr} {ps:Array Value} {pos:Pos} {qualname:Str} {scope:Scope} {Q:Value→Shared→Prop} (hc:env.code=.ref c) (hok:s.heap.IsCode c P ps) (htab:s.heap.TableAt c P ps)
  (hQ:∀ code h' tk ps',Heap.ExtBut P s.heap h'→h'.IsCode c P ps'→h'.TableAt c P ps'→Q code {s with heap:=h',toks:=tk}):wpAny M A (genexprCode env pos qualname scope) Q E s:=by
 cases hnf:codeAmong pos ps.toList with
 | some cv=>exact wpAny_genexprCode_hit hc hok hnf (hQ cv s.heap s.toks ps (Heap.ExtBut.refl _ _) hok htab)
 | none=>exact wpAny_genexprCodeX hc hok htab hnf fun c' h' tk h1 _ _ h2 _ h3 _=>hQ _ h' tk _ h1 h2 h3
inductive MadeG (T:TopT) (w:World) (n:Nat) (K₂:Kt) (s₂:Shared) (o:List AO) (ld res:List D) (v:Value) (s₅:Shared):Prop
 | mk (l I C a:Addr) (gn:Nat) (G:GenState) (xs:List Value) (nn:Nat) (e:v=.ref a) (X:Tr T ((K₂.hide [I]).hide [C,a]) o s₅) (g:GK T ((K₂.hide [I]).hide [C,a]) l I C) (S:GSt ((K₂.hide [I]).hide [C,a]) l I C xs nn ld 0 s₅) (ag:s₅.heap.IsGen a gn) (aC:a≠C) (aI:a≠I) (gs:s₅.gens[gn]?=some G)
  (go:∀ (A:Around) (K':Kt) (s'':Shared),Room T A (n+1)→GK T K' l I C→Tr T K' o s''→GSt K' l I C xs nn ld 0 s''→G.Goes (model pw w) A (GR T K' o I) (GY T K' o l I C xs nn ld res) (ld.length - 0) (.send .none) s'')
  (P:PreS (adrs K₂) s₂ s₅) (hI:s₂.heap.objs.size≤I) (hC:s₂.heap.objs.size≤C) (sz:s₂.heap.objs.size≤s₅.heap.objs.size)
theorem fv_str {K:Kt} {h:Heap} {sep:Str} {vs:List Value} (r:VRs K h [.str sep] vs):∃ t,vs=[.str sep t]:=by
 obtain ⟨_,_,rfl,x,y⟩:=r.inv
 obtain rfl:=y.inv
 obtain ⟨t,rfl,_,_⟩:=x.inv
 exact ⟨t,rfl⟩
theorem join_run {sep:Str} {t:Tok} {A:Around} {K₂:Kt} {s₂ s₅:Shared} {o:List AO} {ld:List D} {texts:List Str} {v:Value} {Q:D→List AO→Prop} {P:Value→Shared→Prop} (R:Room T A (n+2)) (m:MadeG T w n K₂ s₂ o ld (strD texts) v s₅)
  (hlen:texts.length=ld.length) (hn:texts.length≤100000) (hok:JoinOk sep texts=true) (h:Q (.str (Txt.join sep texts)) o) (fin:∀ v s',OutE T K₂ s₂ Q v s'→P v s') :
  (∃ K₅ o',Tr T K₅ o' s₅)∧wpAny (model pw w) A (call (.builtin "str.join") [.str sep t,v]) P noE s₅:=by
 obtain ⟨l,I,C,a,gn,G,xs,nn,rfl,X,g,S,ag,aC,aI,gs,go,P₀,hI,hC,sz⟩:=m
 refine ⟨⟨_,_,X⟩,leaf X ?_⟩
 refine wpAny_call (codeAny_call_builtin F.slot_str_join.plain F.entry_str_join (F.slot_str_join.check _ _ _ _ _ _ _ _ (typeIs_str _ _ _) (F.args_str_join_2 _ _) ?_))
 rw[join_tree_other]
 refine wpAny_bind (wpAny_typeOf ag.typeIs ?_)
 show wpAny _ A.in1 ((pyIter (.ref a)).tryCatch _ >>= fun it=>collect it >>= fun items=>joinTail sep items) _ _ _
 refine wpAny_bind (wpAny_tryCatch (wpAny_pyIter_gen ag ?_))
 have RR:∀ m,m≤3→∀ A':Around,A'.depth=A.depth→A'.units=A.units+m→A'.handled=A.handled→A'.frames=A.frames→Room T A' (n+1):=fun m hm A' h1 h2 h3 h4=>⟨by have:=R.depth;rw[h1];lia,by have:=R.units;rw[h2];lia,by rw[h3];exact R.hnd,by rw[h4];exact R.frs⟩
 refine wpAny_bind (wX (collect_gen (RR 1 (by decide) A.in1 rfl rfl rfl rfl) X g S (.tail _ (.head _)) ag aC aI gs (by unfold strD;rw[List.length_map];exact hlen) (by unfold strD;rw[List.length_map];exact hn) go (RR 3 (by decide) A.in1.in1.in1 rfl rfl rfl rfl) fun s' K' vs X' P' G' v'=>?_) fun _ _ hq=>hq)
 ·obtain ⟨lt,rfl,rfl,hlt⟩:=strs_vals v'
  unfold JoinOk at hok
  rw[Bool.not_eq_true'] at hok
  refine gives_join' hok (pw) w A (wants (fun v s'=>0<s'.toks→P v s') noE) s' (pv_join X'.tk lt hlt ⟨joinFit_length hok,fun t' k ht'=>?_⟩)
  show 0<k→P (.str (Txt.join sep (lt.map (·.1))) t') {s' with toks:=k}
  intro hk
  have sub:∀ a∈K₂.hid,a∈K'.hid:=fun a ha=>by rw[G'.hid];exact List.mem_append_right _ (List.mem_append_right _ ha)
  have Pt:=Post.tok (X'.bare sub) k hk
  refine fin _ _ ⟨K'.bare K₂.hid,_,_,⟨Pt.tr,?_,⟨G'.ext,fun a ha=>(G'.fresh a ha).imp id fun q=>Nat.le_trans sz q,rfl⟩⟩,.str _ _ (joinFit_length hok) ht',h⟩
  have a1:=(P₀.wider (W':=[C,I]++adrs K₂) fun a h=>List.mem_append_right _ h).trans (P'.trans (PreS.tok (W:=[]) k) fun a h=>by cases h) fun a h=>.inl h
  exact pres_drop (H:=[C,I]) a1 fun a h=>by
   rcases List.mem_cons.mp h with h | h
   ·rw[h];exact hC
   ·rw[List.mem_singleton.mp h];exact hI
section
variable {K₂:Kt} {s₂:Shared} {oi:Obj} {h₃:Heap} {tk₃ kk c:Nat} {b:Bool} {ps':Array Value}
theorem join_hide (X₂:Tr T K₂ objs s₂):Pres [] s₂ {s₂ with heap:=s₂.heap.push oi}∧Tr T (K₂.hide [s₂.heap.objs.size]) objs {s₂ with heap:=s₂.heap.push oi}:=by
 have Pa:Pres [] s₂ {s₂ with heap:=s₂.heap.push oi}:=⟨fun b o e _=>Heap.get?_push_of_some _ e,by show _≤(s₂.heap.push _).objs.size;rw[Heap.size_push];exact Nat.le_succ _,rfl,id⟩
 exact ⟨Pa,X₂.hide Pa (fun a ha=>by rw[List.mem_singleton.mp ha];exact ⟨Nat.le_refl _,by show _<(s₂.heap.push oi).objs.size;rw[Heap.size_push];exact Nat.lt_succ_self _⟩) X₂.toks⟩
inductive Tabbed (T:TopT) (K₂:Kt) (s₂:Shared) (objs:List AO) (kk:Nat) (oi:Obj) (h₃:Heap) (tk₃:Nat):Prop
 | mk (pk:Addr×List Addr) (hpk:K₂.k[kk]?=some pk) (e:T.pj∈adrs K₂) (Pb:Pres [T.pj] {s₂ with heap:=s₂.heap.push oi} {s₂ with heap:=h₃,toks:=tk₃}) (pb:Post T (K₂.hide [s₂.heap.objs.size]) {s₂ with heap:=s₂.heap.push oi} (K₂.hide [s₂.heap.objs.size]) (objs.set kk (.tab true)) {s₂ with heap:=h₃,toks:=tk₃})
theorem join_tab (X₂:Tr T K₂ objs s₂) (htab:objs[kk]?=some (.tab b)) (hup:∀ (h:Heap) ps,h.IsCode c T.pj ps→h.TableAt c T.pj ps→∃ o,h.get? T.pj=some o∧T.tab true o)
  (hx₃:Heap.ExtBut T.pj (s₂.heap.push oi) h₃) (hc₃:h₃.IsCode c T.pj ps') (ht₃:h₃.TableAt c T.pj ps') (htk₃:s₂.toks≤tk₃) (hz₃:(s₂.heap.push oi).objs.size≤h₃.objs.size):Tabbed T K₂ s₂ objs kk oi h₃ tk₃:=by
 have Xa:=(join_hide (oi:=oi) X₂).2
 have hpk:=List.getElem?_eq_getElem (show kk<K₂.k.length by rw[X₂.len];exact (List.getElem?_eq_some_iff.mp htab).1)
 obtain ⟨e,ot,hot,htb⟩:=Xa.ob kk _ _ hpk htab
 have Pb:Pres [T.pj] {s₂ with heap:=s₂.heap.push oi} {s₂ with heap:=h₃,toks:=tk₃}:=⟨fun b o e hb=>hx₃ b o (fun q=>hb (List.mem_singleton.mpr q)) e,hz₃,rfl,id⟩
 exact ⟨_,hpk,mem_adrs (K:=K₂) hpk (e▸.head _),Pb,Post.upd (ao:=.tab true) Xa hpk (e▸Pb) (Nat.lt_of_lt_of_le X₂.toks htk₃) fun _=>⟨e,by rw[e];exact hup _ _ hc₃ ht₃⟩⟩
theorem join_made {l:Addr} {xs:List Value} {nn:Nat} {ld res:List D} {h':Heap} {og:Obj} {G:GenState} {s₅:Shared} {mm:Str→Option Value} (X₂:Tr T K₂ objs s₂) (hla:s₂.heap.get? l=some (listO xs nn)) (hlk:l∉offs K₂) (hlv:VRs K₂ s₂.heap ld xs)
  (hoi:oi={cls:=.type "list_iterator",data:=.fields #[.ref l,.int 0 0]}) (tb:Tabbed T K₂ s₂ objs kk oi h₃ tk₃) (hx₃:Heap.ExtBut T.pj (s₂.heap.push oi) h₃) (hz₃:(s₂.heap.push oi).objs.size≤h₃.objs.size)
  (hns:h'.Ns h₃.objs.size mm) (hsame:Heap.SameBut h₃.objs.size (h₃.push {cls:=.type "frame",data:=.dict #[]}) h') (hog:∀ h:Heap,h.get? h'.objs.size=some og→h.IsGen h'.objs.size s₂.gens.size) (hof:og.isFreed=false)
  (hGb:G.bare=true) (e5:s₅.heap=h'.push og) (eg5:s₅.gens=s₂.gens.push G) (eo5:s₅.os=s₂.os) (et5:0<s₅.toks)
  (go:∀ (A:Around) (K':Kt) (s'':Shared),Room T A (n+1)→GK T K' l s₂.heap.objs.size h₃.objs.size→Tr T K' (objs.set kk (.tab true)) s''→GSt K' l s₂.heap.objs.size h₃.objs.size xs nn ld 0 s''→G.Goes (model pw w) A (GR T K' (objs.set kk (.tab true)) s₂.heap.objs.size) (GY T K' (objs.set kk (.tab true)) l s₂.heap.objs.size h₃.objs.size xs nn ld res) (ld.length - 0) (.send .none) s'') :
  MadeG T w n K₂ s₂ (objs.set kk (.tab true)) ld res (.ref h'.objs.size) s₅:=by
 obtain ⟨pk,hpk,hpj,Pb,pb⟩:=tb
 have Pa:=(join_hide (oi:=oi) X₂).1
 have hsz:h'.objs.size=h₃.objs.size+1:=by rw[hsame.1];exact Heap.size_push ..
 have hzi:s₂.heap.objs.size+1≤h₃.objs.size:=by rw[Heap.size_push] at hz₃;exact hz₃
 have z5:s₅.heap.objs.size=h₃.objs.size+2:=by rw[e5,Heap.size_push,hsz]
 have k5:∀ b o,h₃.get? b=some o→s₅.heap.get? b=some o:=fun b o e=>e5▸Heap.get?_push_of_some _ (hsame.extBut b o (Nat.ne_of_lt (Heap.lt_size e)) (Heap.get?_push_of_some _ e))
 have Pc:Pres [] {s₂ with heap:=h₃,toks:=tk₃} s₅:=⟨fun b o e _=>k5 b o e,by rw[z5];exact Nat.le_add_right _ 2,eo5,fun h=>by rw[eg5];exact ⟨h.1.push hGb,by rw[Array.size_push];exact Nat.le_succ_of_le h.2⟩⟩
 have hfc:∀ a∈[h₃.objs.size,h'.objs.size],h₃.objs.size≤a∧a<s₅.heap.objs.size:=fun a ha=>by
  simp only [List.mem_cons,List.not_mem_nil,or_false] at ha
  lia
 have hlz:=Heap.lt_size hla
 have hlo:=X₂.top.size
 have ka:∀ b o,b≠T.pj→(s₂.heap.push oi).get? b=some o→s₅.heap.get? b=some o:=fun b o hb e=>k5 b o (hx₃ b o hb e)
 refine ⟨l,s₂.heap.objs.size,h₃.objs.size,h'.objs.size,s₂.gens.size,G,xs,nn,rfl,pb.tr.hide Pc hfc et5,⟨.head _,.tail _ (.tail _ (.head _)),Nat.ne_of_gt hzi,Nat.le_trans hlo (Nat.le_of_lt hzi),hlo,fun q=>?_⟩,
  ⟨⟨oi,ka _ _ (Nat.ne_of_gt (Nat.lt_of_lt_of_le X₂.well.pjlow hlo)) (Heap.get?_push_size _ (hoi▸rfl)),hoi▸rfl,hoi▸rfl⟩,ka _ _ (fun q=>hlk (List.mem_append_left _ (q▸hpj))) (Heap.get?_push_of_some _ hla),(pb.vrs (hlv.map (.hide Pa fun a ha=>by rw[List.mem_singleton.mp ha];exact Nat.le_refl _))).map (.hide Pc fun a ha=>(hfc a ha).1),mm,e5▸hns.push _⟩,
  hog _ (e5▸Heap.get?_push_size _ hof),by rw[hsz];exact Nat.succ_ne_self _,by rw[hsz];exact Nat.ne_of_gt (Nat.lt_succ_of_lt hzi),by rw[eg5];exact Array.getElem?_push_size ..,go,?_,Nat.le_refl _,Nat.le_of_lt hzi,by rw[z5];exact Nat.le_trans (Nat.le_of_lt hzi) (Nat.le_add_right _ 2)⟩
 ·rcases offs_hide q with q | q
  ·rcases offs_hide q with q | q
   ·exact hlk q
   ·rw[List.mem_singleton.mp q] at hlz;exact Nat.lt_irrefl _ hlz
  ·exact absurd (Nat.lt_of_lt_of_le (Nat.lt_trans hlz hzi) (hfc _ q).1) (Nat.lt_irrefl _)
 ·exact (((Pa.wider (W':=[T.pj]) fun a h=>by cases h).trans Pb fun a h=>.inl h).trans Pc fun a h=>by cases h).soft.wider fun a h=>by rw[List.mem_singleton.mp h];exact hpj
end
inductive BIn (s:Shared):Prop
 | mk (m:Str→Option Value) (bm:Addr) (ob:Obj) (h1:s.heap.Ns mainGlobals m) (h2:m "__builtins__"=some (.ref bm)) (h3:bm≠builtinsNs) (h4:s.heap.get? bm=some ob) (h5:ob.cls=.type "module") (h6:ob.dict=some builtinsNs) (h7:ob.data=.plain)
inductive TabC (T:TopT) (c:Addr) (s:Shared):Prop
 | mk (ps:Array Value) (h:s.heap.IsCode c T.pj ps) (h':s.heap.TableAt c T.pj ps)
theorem mk_gen {elt iter:PySem.Expr} {scope:Scope} {x:Str} {px gpos:Pos} {ld res:List D} {kk c:Nat} {b:Bool} {A:Around} {s:Shared} {K:Kt} {P:Value→Shared→Prop}
  (hco:scope.isCoroutine=false) (hclos:closureFor scope env=pure []) (hcell:(scope.names.all fun x=>match x.2 with | .cell=>false | _=>true)=true) (h0:scope.names.lookup (".0":Str)=some .local) (hx:scope.names.lookup x=some .local)
  (hkd:scope.kind=.function) (hs:∀ x,genFold iter env x=pure x) (hcode:env.code=.ref c)
  (hic:∀ K s,Tr T K objs s→TabC T c s) (hup:∀ (h:Heap) ps,h.IsCode c T.pj ps→h.TableAt c T.pj ps→∃ o,h.get? T.pj=some o∧T.tab true o)
  (hbi:∀ K s o,Tr T K o s→BIn s) (htab:objs[kk]?=some (.tab b)) (hit:EvE T w (n+2) env iter loc objs fun d o=>d=.list ld∧o=objs)
  (turn:∀ (C:Addr) (code:Value) (i:Nat) (d:D),ld[i]?=some d→EvE (T.withFs (genEnv scope [] C code builtinsNs env :: T.fs)) w n (genEnv scope [] C code builtinsNs env) elt [(x,d)] (objs.set kk (.tab true)) fun d' o'=>res[i]?=some d'∧o'=objs.set kk (.tab true))
  (R:Room T A (n+2)) (X:Tr T K objs s) (Fm:Frm T K env loc s) (k:∀ v s₅ K₂ s₂,Post T K s K₂ objs s₂→MadeG T w n K₂ s₂ (objs.set kk (.tab true)) ld res v s₅→P v s₅) :
  wpAny (model pw w) A (eval (.GeneratorExp elt [⟨.Name x px,iter,[],0⟩] scope gpos) env) P noE s:=by
 have hcell':∀ y∈scope.names,y.2≠.cell:=fun y hy=>by
  have:=List.all_eq_true.mp hcell y hy
  intro e;simp [e] at this
 refine wpAny_GeneratorExp_make hco hclos hcell' h0 hkd (R.depth0) (hit.isL R X Fm fun s₂ K₂ l xs nn p₂ hla hlk hlv=>wpAny_pyIter_list (listO_is hla) ⟨p₂.tr.top.nolimit.push _,?_⟩) hs
 obtain ⟨ps,hps,hpt⟩:=hic K₂ s₂ p₂.tr
 refine wpAny_up (genexprCode2 hcode (hps.push _) (hpt.push _) fun code h₃ tk₃ ps' hx₃ hc₃ ht₃ htk₃ hz₃=>?_)
 have tb:=join_tab p₂.tr htab hup hx₃ hc₃ ht₃ htk₃ hz₃
 obtain ⟨mg,bm,ob,b1,b2,b3,b4,b5,b6,b7⟩:BIn {s₂ with heap:=h₃,toks:=tk₃}:=by obtain ⟨_,_,_,_,pb⟩:=tb;exact hbi _ _ _ pb.tr
 exact wpAny_builtinsFor (m:=mg) (show Heap.Ns h₃ env.globals mg from (Fm.glob:env.globals=mainGlobals)▸b1) b2 b3 b4 b5 b6 b7 fun h' hns hsame=>k _ _ K₂ s₂ p₂ (join_made p₂.tr hla hlk hlv rfl tb hx₃ hz₃ hns hsame (fun h e=>⟨_,_,_,e,rfl,rfl,rfl⟩) rfl rfl rfl rfl rfl (Nat.succ_pos _)
  fun A' K' s'' R' g' X' S'=>⟨rfl,seg_genStart' R' g' hx hkd hco Fm.glob hcell' (turn _ _) X' S'⟩)
theorem ev_joingen {sep:Str} {k:Nat} {p apos gpos pos px:Pos} {elt iter:PySem.Expr} {scope:Scope} {x:Str} {ld:List D} {texts:List Str} {kk c:Nat} {b:Bool} {Q:D→List AO→Prop}
  (hline:(apos.endLine==pos.line)=true) (hsep:Nat.ble sep.length 1000=true)
  (hco:scope.isCoroutine=false) (hclos:closureFor scope env=pure []) (hcell:(scope.names.all fun x=>match x.2 with | .cell=>false | _=>true)=true) (h0:scope.names.lookup (".0":Str)=some .local) (hx:scope.names.lookup x=some .local)
  (hkd:scope.kind=.function) (hs:∀ x,genFold iter env x=pure x) (hcode:env.code=.ref c)
  (hic:∀ K s,Tr T K objs s→TabC T c s) (hup:∀ (h:Heap) ps,h.IsCode c T.pj ps→h.TableAt c T.pj ps→∃ o,h.get? T.pj=some o∧T.tab true o)
  (hbi:∀ K s o,Tr T K o s→BIn s)
  (htab:objs[kk]?=some (.tab b)) (hit:EvE T w (n+2) env iter loc objs fun d o=>d=.list ld∧o=objs)
  (hlen:texts.length=ld.length) (hn:texts.length≤100000) (hok:JoinOk sep texts=true)
  (turn:∀ (C:Addr) (code:Value) (i:Nat) (d:D),ld[i]?=some d→EvE (T.withFs (genEnv scope [] C code builtinsNs env :: T.fs)) w n (genEnv scope [] C code builtinsNs env) elt [(x,d)] (objs.set kk (.tab true)) fun d' o'=>(strD texts)[i]?=some d'∧o'=objs.set kk (.tab true))
  (h:Q (.str (Txt.join sep texts)) (objs.set kk (.tab true))) :
  EvE T w (n+2) env (.Call (.Attribute (.Constant (.str sep) k p) ("join":Str) apos) [.GeneratorExp elt [⟨.Name x px,iter,[],0⟩] scope gpos] [] pos) loc objs Q:=fun A s K R X Fm=>by
 rw[arm_mcall,show ∀ whole,attributeBase (.Constant (.str sep) k p) ("join":Str) env whole=whole from fun _=>rfl]
 refine wpAny_bind ((ev_str (T:=T) (w:=w) (n:=n+2) (loc:=loc) (objs:=objs) (Q:=fun d o=>d=.str sep∧o=objs) ⟨rfl,rfl⟩ hsep:EvE T w (n+2) env (.Constant (.str sep) k p) loc objs _).is R X Fm fun ov s₁ K₁ p₁ r₁=>wpAny_bind (wpAny_standAt ?_))
 have few:methodCallForm ([PySem.Expr.GeneratorExp elt [⟨.Name x px,iter,[],0⟩] scope gpos].length+([]:List Keyword).length) (backTo pos (starEach [.GeneratorExp elt [⟨.Name x px,iter,[],0⟩] scope gpos] env)) (backToKw pos (keywordEach [] env))=true:=by
  unfold methodCallForm
  rw[args_plain (es:=[_]) rfl,(kws_names (ks:=[]) (pos:=pos) (env:=env) rfl).1,Bool.true_and,Bool.true_and,decide_eq_true_eq]
  split <;> simp
 unfold methodCall
 rw[few]
 refine wpAny_bind (wpAny_holding (g_join (n:=n+2) A s₁ K₁ ov _ _ R p₁.tr r₁ fun fv rf=>?_))
 dsimp only
 rw[show methodCallPos true (.Constant (.str sep) k p) env apos pos=pure pos by unfold methodCallPos;rw[hline];rfl]
 refine wpAny_bind (wpAny_pure ?_)
 obtain ⟨t,rfl⟩:=fv_str rf
 refine callWith_gen (args_plain (es:=[_]) rfl) rfl ?_
 rw[starEach_cons rfl]
 refine Calls.spliced_cons (mk_gen hco hclos hcell h0 hx hkd hs hcode hic hup hbi htab hit turn R p₁.tr (Fm.post p₁) fun v s₅ K₂ s₂ p₂ md=>?_)
 have c:=join_run (sep:=sep) (t:=t) R md hlen hn hok h fun v s' o=>o.behind (p₁.trans p₂)
 exact Calls.spliced_nil (wpAny_evalAll_nil ⟨fun Q' hq=>c.1.elim fun K₅ e=>e.elim fun o₅ X₅=>keep_builtin A K₅ o₅ _ Q' X₅ hq,c.2⟩)
end
end Mine.Internal
end
section
open PySem PySem.W PyProof.Rows
namespace Mine.Internal
section
variable {P:Params} {fs:List Env} {objs:List AO}
theorem tab_code {K:Kt} {s:Shared} {kk:Nat} {b:Bool} (X:Tr (topT P fs) K objs s) (h:objs[kk]?=some (.tab b)):TabC (topT P fs) 912 s:=by
 obtain ⟨pk,hpk⟩:∃ pk,K.k[kk]?=some pk:=⟨_,List.getElem?_eq_getElem (by rw[X.len];exact (List.getElem?_eq_some_iff.mp h).1)⟩
 obtain ⟨rfl,o,ho,ps,rfl,tri,_⟩:=X.ob kk pk _ hpk h
 exact ⟨ps,⟨o_912 P,_,_,_,_,_,_,_,_,_,X.top.objs _ (mem_912 P),rfl,rfl,rfl,rfl,rfl,rfl,ho,rfl,tri,show (912:Nat)≠908 by decide⟩,⟨o_912 P,_,X.top.objs _ (mem_912 P),rfl,rfl,rfl⟩,ho⟩
theorem tab_up (h:Heap) (ps:Array Value) (x:h.IsCode 912 (topT P fs).pj ps) (y:h.TableAt 912 (topT P fs).pj ps):∃ o,h.get? (topT P fs).pj=some o∧(topT P fs).tab true o:=by
 obtain ⟨_,_,_,_,_,_,_,_,_,op,_,_,_,_,_,_,_,h1,h2,h3,_⟩:=x
 exact ⟨_,y.2,ps,rfl,h3,fun e=>by cases e⟩
theorem gl_bm:lkV (topT P fs).globs ("__builtins__":Str)=some (.ref 4):=by kernel_rfl
theorem top_bm (K:Kt) (s:Shared) (o:List AO) (X:Tr (topT P fs) K o s):BIn s:=by
 obtain ⟨mg,mb,h1,h2,h3,h4⟩:=X.top.ns
 exact ⟨mg,4,o_4 P,h1,h3 _ _ gl_bm,by decide,X.top.objs _ (mem_4 P),rfl,rfl,rfl⟩
end
noncomputable def turnOf (e:PySem.Expr) (dep:Nat) (target iter:PySem.Expr) (ifs:List PySem.Expr) (acc:Value) (env:Env) (act:Sem Unit) (it:Value):Sem PySem.Fin:=do
 standAt iter.pos
 match ← pyNext it with
 | none=>pure (.done .next)
 | some v =>
  letOwnedTupleGo target it v
  assign target env v
  let mut ok:=true
  for c in ifs do
   if ok then ok ← isTrue c env (eval c env)
  if ok then
   act
  again (.compLoop e dep it acc env)
def CLAny (w:World) (e:PySem.Expr) (dep:Nat) (target:PySem.Expr) (ifs:List PySem.Expr) (acc:Value) (env:Env) (act:Sem Unit):Prop :=
 ∀ (A:Around) (R:Result→Shared→Prop) (it:Value) (I:Nat→Shared→Prop),
  (∀ n s,I n s→wpAny (model pw w) A (pyNext it) (fun r s₁=>match r with
   | none=>R (.ok .next) s₁
   | some v=>wpAny (model pw w) A (letOwnedTupleGo target it v) (fun _ s₁'=>wpAny (model pw w) A (assign target env v) (fun _ s₂ =>
     wpAny (model pw w) A (forIn ifs true fun c r=>if r=true then do let ok ← isTrue c env (eval c env);pure (ForInStep.yield ok) else pure (ForInStep.yield r)) (fun ok s₃ =>
      if ok=true then wpAny (model pw w) A act (fun _ s₅=>∃ m,m<n∧I m s₅) noE s₃
      else ∃ m,m<n∧I m s₃) noE s₂) noE s₁') noE s₁) noE s) →
  ∀ n s,I n s→codeAny (model pw w) A (.compLoop e dep it acc env) R s
section
variable {w:World}
theorem cla_list {elt target iter:PySem.Expr} {gens:List Comprehension} {ifs:List PySem.Expr} {scope:Scope} {pos:Pos} {dep:Nat} {acc:Value} {env:Env} {act:Sem Unit}
  (h:∀ it,compTurn (.ListComp elt gens scope pos) dep it acc env=turnOf (.ListComp elt gens scope pos) dep target iter ifs acc env act it):CLAny w (.ListComp elt gens scope pos) dep target ifs acc env act:=fun A R it I turn n s hI=>by
 refine codeAny_loop rfl I (fun n s hI=>?_) n hI
 show wpAny _ A ((compTurn (.ListComp elt gens scope pos) dep it acc env).onRaise (fun x=>do noteFrame x env;theTreesLotGoes x)) _ _ s
 refine wpAny_noted ?_
 rw[h]
 refine wpAny_bind (wpAny_standAt (wpAny_bind (wX (turn n s hI) fun r s₁ h₁=>?_)))
 cases r with
 | none=>exact wpAny_pure h₁
 | some v =>
  refine wpAny_bind (wX h₁ fun _ s₁' h₁'=>wpAny_bind (wX h₁' fun _ s₂ h₂=>wpAny_bind (wX h₂ fun ok s₃ h₃=>?_)))
  cases ok with
  | false=>exact wpAny_pure ⟨rfl,h₃⟩
  | true=>exact wpAny_bind (wX h₃ fun _ s₅ h₅=>wpAny_pure ⟨rfl,h₅⟩)
theorem cla_set {elt target iter:PySem.Expr} {gens:List Comprehension} {ifs:List PySem.Expr} {scope:Scope} {pos:Pos} {dep:Nat} {acc:Value} {env:Env} {act:Sem Unit}
  (h:∀ it,compTurn (.SetComp elt gens scope pos) dep it acc env=turnOf (.SetComp elt gens scope pos) dep target iter ifs acc env act it):CLAny w (.SetComp elt gens scope pos) dep target ifs acc env act:=fun A R it I turn n s hI=>by
 refine codeAny_loop rfl I (fun n s hI=>?_) n hI
 show wpAny _ A ((compTurn (.SetComp elt gens scope pos) dep it acc env).onRaise (fun x=>do noteFrame x env;theTreesLotGoes x)) _ _ s
 refine wpAny_noted ?_
 rw[h]
 refine wpAny_bind (wpAny_standAt (wpAny_bind (wX (turn n s hI) fun r s₁ h₁=>?_)))
 cases r with
 | none=>exact wpAny_pure h₁
 | some v =>
  refine wpAny_bind (wX h₁ fun _ s₁' h₁'=>wpAny_bind (wX h₁' fun _ s₂ h₂=>wpAny_bind (wX h₂ fun ok s₃ h₃=>?_)))
  cases ok with
  | false=>exact wpAny_pure ⟨rfl,h₃⟩
  | true=>exact wpAny_bind (wX h₃ fun _ s₅ h₅=>wpAny_pure ⟨rfl,h₅⟩)
noncomputable def actAppend (elt:PySem.Expr) (acc:Value) (env:Env):Sem Unit:=do let _ ← call (.builtin "list.append") [acc,← eval elt env]
noncomputable def actAdd (elt:PySem.Expr) (acc:Value) (env:Env):Sem Unit:=do let v ← eval elt env;standAt elt.pos;let _ ← call (.builtin "set.add") [acc,v]
noncomputable def actNest (e iter:PySem.Expr) (acc:Value) (env:Env):Sem Unit:=do
 let x ← eval iter env
 standAt iter.pos
 let x ← foldedSetIterable iter env x
 let _ ← runOwn (.compStart e 1 (← holding [x] (pyIter x)) acc env) env
theorem turn_l1 (elt target iter:PySem.Expr) (ifs:List PySem.Expr) (scope:Scope) (pos:Pos) (acc:Value) (env:Env) (it:Value) :
  compTurn (.ListComp elt [⟨target,iter,ifs,0⟩] scope pos) 0 it acc env=turnOf (.ListComp elt [⟨target,iter,ifs,0⟩] scope pos) 0 target iter ifs acc env (actAppend elt acc env) it:=by rfl
theorem turn_s1 (elt target iter:PySem.Expr) (ifs:List PySem.Expr) (scope:Scope) (pos:Pos) (acc:Value) (env:Env) (it:Value) :
  compTurn (.SetComp elt [⟨target,iter,ifs,0⟩] scope pos) 0 it acc env=turnOf (.SetComp elt [⟨target,iter,ifs,0⟩] scope pos) 0 target iter ifs acc env (actAdd elt acc env) it:=by rfl
theorem turn_l2a (elt t1 i1 t2 i2:PySem.Expr) (f1 f2:List PySem.Expr) (scope:Scope) (pos:Pos) (acc:Value) (env:Env) (it:Value) :
  compTurn (.ListComp elt [⟨t1,i1,f1,0⟩,⟨t2,i2,f2,0⟩] scope pos) 0 it acc env=turnOf (.ListComp elt [⟨t1,i1,f1,0⟩,⟨t2,i2,f2,0⟩] scope pos) 0 t1 i1 f1 acc env (actNest (.ListComp elt [⟨t1,i1,f1,0⟩,⟨t2,i2,f2,0⟩] scope pos) i2 acc env) it:=by
 unfold turnOf actNest
 simp only [bind_assoc,pure_bind]
 rfl
theorem turn_l2b (elt t1 i1 t2 i2:PySem.Expr) (f1 f2:List PySem.Expr) (scope:Scope) (pos:Pos) (acc:Value) (env:Env) (it:Value) :
  compTurn (.ListComp elt [⟨t1,i1,f1,0⟩,⟨t2,i2,f2,0⟩] scope pos) 1 it acc env=turnOf (.ListComp elt [⟨t1,i1,f1,0⟩,⟨t2,i2,f2,0⟩] scope pos) 1 t2 i2 f2 acc env (actAppend elt acc env) it:=by rfl
end
structure AccOk (Dd:Addr) (Acc:List D→Kt→Shared→Prop):Prop where
 stay:∀ {res:List D} {K K':Kt} {s s':Shared},Acc res K s→Mv K K' s.heap s'.heap→(∀ o,s.heap.get? Dd=some o→icy o.data=true→s'.heap.get? Dd=some o)→Acc res K' s'
 at_:∀ {res:List D} {K:Kt} {s:Shared},Acc res K s→∃ o,s.heap.get? Dd=some o∧icy o.data=true
theorem mv_of {W:List Addr} {K K':Kt} {s s':Shared} (P:PreS (W++adrs K) s s') (hW:∀ a∈W,a∈K.hid∨∀ o,s.heap.get? a=some o→icy o.data=false) (G:Grows s K K'):Mv K K' s.heap s'.heap :=
 .of (s:=s) (s':=s') (fun b o e hk hi=>P.keep b o e (fun q=>by
  rcases List.mem_append.mp q with q | q
  ·rcases hW b q with z | z
   ·exact hk (List.mem_append_right _ z)
   ·rw[z o e] at hi;cases hi
  ·exact hk (List.mem_append_left _ q)) (icy_hard hi)) G
inductive ActO (T:TopT) (W:List Addr) (env:Env) (Acc:List D→Kt→Shared→Prop) (loc:List (Str×D)) (Q:List AO→List D→Prop) (K:Kt) (s s':Shared):Prop
 | mk (K':Kt) (o':List AO) (res':List D) (X:Tr T K' o' s') (P:PreS W s s') (G:Grows s K K') (F:Frm T K' env loc s') (ac:Acc res' K' s') (q:Q o' res')
section
variable (T:TopT) (w:World) (n:Nat) (env:Env)
def EvC (Dd:Addr) (Acc:List D→Kt→Shared→Prop) (act:Sem Unit) (loc:List (Str×D)) (objs:List AO) (res:List D) (Q:List AO→List D→Prop):Prop :=
 ∀ (A:Around) (s:Shared) (K:Kt),Room T A n→Tr T K objs s→Frm T K env loc s→AccIn T K env Dd→Acc res K s →
  wpAny (model pw w) A act (fun _ s'=>ActO T ([Dd,env.locals]++adrs K) env Acc loc Q K s s') noE s
@[reducible] def kAct (ok:List AO→Prop) (Inv:Nat→List AO→List D→Prop) (i:Nat) (o:List AO) (res:List D):Prop:=ok o∧Inv (i+1) o res
@[reducible] def kTurn (Dd:Addr) (Acc:List D→Kt→Shared→Prop) (act:Sem Unit) (l:List (Str×D)) (ok:List AO→Prop) (Inv:Nat→List AO→List D→Prop) (i:Nat) (res:List D) (b:Bool) (o:List AO):Prop:=match b with
 | true=>EvC T w n env Dd Acc act l o res (kAct ok Inv i)
 | false=>ok o∧Inv (i+1) o res
inductive TurnO (Dd:Addr) (Acc:List D→Kt→Shared→Prop) (target:PySem.Expr) (ifs:List PySem.Expr) (act:Sem Unit) (loc:List (Str×D)) (ok:List AO→Prop) (Inv:Nat→List AO→List D→Prop) (i:Nat) (res:List D) (o:List AO) (d:D):Prop
 | mk (l':List (Str×D)) (a:AsgL T w n env target d loc o l') (s:Sub loc l') (h:EvTs T w n env ifs l' o (kTurn T w n env Dd Acc act l' ok Inv i res))
def TurnOk (Dd:Addr) (Acc:List D→Kt→Shared→Prop) (target:PySem.Expr) (ifs:List PySem.Expr) (act:Sem Unit) (loc:List (Str×D)) (ds:List D) (ok:List AO→Prop) (Inv:Nat→List AO→List D→Prop):Prop :=
 ∀ (i:Nat) (res:List D) (o:List AO) (d:D),ds[i]?=some d→ok o→Inv i o res→TurnO T w n env Dd Acc target ifs act loc ok Inv i res o d
end
@[reducible] def invG {α:Type} (ob:List α→List AO) (rs:List α→List D) (xs:List α) (i:Nat) (o:List AO) (res:List D):Prop:=o=ob (xs.take i)∧res=rs (xs.take i)
theorem TurnOk.fn {α:Type} {g:α→D} {xs:List α} {ob:List α→List AO} {rs:List α→List D} {T:TopT} {w:World} {n:Nat} {env:Env} {Dd:Addr} {Acc:List D→Kt→Shared→Prop} {target:PySem.Expr} {ifs:List PySem.Expr} {act:Sem Unit} {loc:List (Str×D)} {ok:List AO→Prop}
  (turn:∀ i x,xs[i]?=some x→TurnO T w n env Dd Acc target ifs act loc ok (invG ob rs xs) i (rs (xs.take i)) (ob (xs.take i)) (g x)):TurnOk T w n env Dd Acc target ifs act loc (xs.map g) ok (invG ob rs xs):=fun i res o dd hd _ hI=>by
 obtain ⟨rfl,rfl⟩:=hI
 rw[List.getElem?_map] at hd
 obtain ⟨x,hx,rfl⟩:=Option.map_eq_some_iff.mp hd
 exact turn i x hx
theorem finG {α:Type} {g:α→D} {xs:List α} {ob:List α→List AO} {rs:List α→List D} {R:List D→List AO→Prop} (h:R (rs xs) (ob xs)):∀ res o,invG ob rs xs (xs.map g).length o res→R res o:=fun res o hI=>by
 obtain ⟨rfl,rfl⟩:=hI
 rw[List.length_map,List.take_length];exact h
theorem finN {α:Type} {g:α→D} {xs:List α} {ob:List α→List AO} {rs:List α→List D} {ok:List AO→Prop} {R:List AO→List D→Prop} (h:R (ob xs) (rs xs)):∀ o res,ok o→invG ob rs xs (xs.map g).length o res→R o res:=fun o res _ hI=>finG (g:=g) (R:=fun a b=>R b a) h res o hI
section
variable {T:TopT} {w:World} {n:Nat} {env:Env} {loc:List (Str×D)} {objs:List AO}
inductive ClSt (T:TopT) (W:List Addr) (env:Env) (K:Kt) (s:Shared) (ds:List D) (ok:List AO→Prop) (St:Nat→Kt→List AO→Shared→Prop) (Acc:List D→Kt→Shared→Prop) (loc:List (Str×D)) (Inv:Nat→List AO→List D→Prop) (m:Nat) (s':Shared):Prop
 | mk (i:Nat) (K':Kt) (res:List D) (o:List AO) (em:m=ds.length - i) (X:Tr T K' o s') (P:PreS W s s') (G:Grows s K K') (F:Frm T K' env loc s') (ok':ok o) (st:St i K' o s') (ac:Acc res K' s') (inv:Inv i o res)
structure ClO (T:TopT) (W:List Addr) (env:Env) (Acc:List D→Kt→Shared→Prop) (loc:List (Str×D)) (Q:List AO→List D→Prop) (K:Kt) (s:Shared) (r:Result) (s':Shared):Prop where
 e:r=.ok .next
 a:ActO T W env Acc loc Q K s s'
theorem cl_loop {e target:PySem.Expr} {ifs:List PySem.Expr} {dep:Nat} {act:Sem Unit} {Dd I:Addr} {H:List Addr} {Acc:List D→Kt→Shared→Prop} {ds res₀:List D} {ok:List AO→Prop} {Inv:Nat→List AO→List D→Prop} {St:Nat→Kt→List AO→Shared→Prop}
  (cla:CLAny w e dep target ifs (.ref Dd) env act) (ha:AccOk Dd Acc) {A:Around} {s:Shared} {K:Kt} (R:Room T A n) (X:Tr T K objs s) (Fm:Frm T K env loc s) (src:Src T w I H ok ds St) (lg:LetGo w I target St)
  (hH:∀ a∈H,AccIn T K env a) (hD:AccIn T K env Dd) (hDH:Dd∉H) (hok:ok objs) (st:St 0 K objs s) (a0:Acc res₀ K s) (h0:Inv 0 objs res₀) (turn:TurnOk T w n env Dd Acc target ifs act loc ds ok Inv) :
  codeAny (model pw w) A (.compLoop e dep (.ref I) (.ref Dd) env) (ClO T ((Dd :: H)++([env.locals]++adrs K)) env Acc loc (fun o res=>ok o∧Inv ds.length o res) K s) s:=by
 refine cla A _ _ (ClSt T ((Dd :: H)++([env.locals]++adrs K)) env K s ds ok St Acc loc Inv) (fun m s' hI=>?_) ds.length s ⟨0,K,res₀,objs,rfl,X,.refl _ _,.refl _ _,Fm,hok,st,a0,h0⟩
 obtain ⟨i,K',res,o,rfl,X',P',G',F',ok',st',ac',inv'⟩:=hI
 have hDH':∀ a∈Dd :: H,AccIn T K' env a:=fun a ha=>(List.mem_cons.mp ha).elim (fun q=>by rw[q];exact hD.mono G'.hid) fun q=>(hH a q).mono G'.hid
 have hH':∀ a∈H,AccIn T K' env a:=fun a h=>hDH' a (.tail _ h)
 refine leaf X' (wE (src.next R.hnd X' (fun a h=>(hH' a h).hid) ok' st') fun r s₃ hr ht₃=>?_)
 cases hr with
 | item v d' e P₃ hd' rv st₃ =>
  subst e
  have X₃:=X'.behind hH' P₃ ht₃
  have F₃:=F'.behind hH' P₃
  have mv₃:=Mv.behind (fun a h=>(hH' a h).hid) P₃
  have ac₃:Acc res K' s₃:=ha.stay ac' mv₃ fun o e _=>P₃.keep Dd o e hDH
  have P₃':PreS ((Dd :: H)++([env.locals]++adrs K)) s s₃:=P'.trans P₃.soft fun a ha=>.inl (List.mem_append_left _ (.tail _ ha))
  obtain ⟨l',hasg,hsub,hb⟩:=turn i res o d' hd' ok' inv'
  refine wE (lg A s₃ K' o (i+1) v st₃) fun _ s₃' e₃=>?_
  subst e₃
  refine wE (hasg A s₃' K' v R X₃ F₃ rv) fun _ s₅ hh=>?_
  obtain ⟨P₅,F₅⟩:=hh
  refine wE (hb A s₅ K' R P₅.tr F₅) fun b s₆ hh=>?_
  obtain ⟨K₆,o₆,P₆,q₆⟩:=hh
  have G6:Grows s K K₆:=G'.trans P₆.grows (P₃'.trans (P₅.pres.wider fun a h=>h) (fun a ha=>by
   rcases List.mem_append.mp ha with ha | ha
   ·exact .inl (List.mem_append_right _ (List.mem_append_left _ ha))
   ·exact (G'.fresh a ha).imp (fun z=>List.mem_append_right _ (List.mem_append_right _ z)) id)).size
  have P36:PreS (own env++adrs K') s₃' s₆:=(P₅.pres.wider fun a h=>(List.mem_append.mp h).elim (fun q=>by rw[List.mem_singleton.mp q];exact .head _) (List.mem_append_right _)).trans P₆.pres fun a h=>.inl (List.mem_append_right _ h)
  have P46:PreS ((Dd :: H)++([env.locals]++adrs K)) s s₆:=(P₃'.trans P₅.pres fun a ha=>by
   rcases List.mem_append.mp ha with ha | ha
   ·exact .inl (List.mem_append_right _ (List.mem_append_left _ ha))
   ·exact (G'.fresh a ha).imp (fun z=>List.mem_append_right _ (List.mem_append_right _ z)) id).trans P₆.pres fun a ha=>(G'.fresh a ha).imp (fun z=>List.mem_append_right _ (List.mem_append_right _ z)) id
  have keep6:=pres_hid X₃ hDH' P36
  have mv36:Mv K' K₆ s₃'.heap s₆.heap:=mv_of P36 (fun a ha=>.inr (F₃.unicy a ha)) ⟨P₆.grows.ext,fun a ha=>(P₆.grows.fresh a ha).imp id fun z=>Nat.le_trans P₅.pres.size z,P₆.grows.hid⟩
  have ac₆:Acc res K₆ s₆:=ha.stay ac₃ mv36 fun o e hi=>keep6 Dd (.head _) o e (icy_hard hi)
  have hlt:ds.length - (i+1)<ds.length - i:=Nat.sub_succ_lt_self _ _ (List.getElem?_eq_some_iff.mp hd').1
  cases b with
  | false =>
   rw[if_neg (by decide)]
   exact ⟨ds.length - (i+1),hlt,i+1,K₆,res,o₆,rfl,P₆.tr,P46,G6,(F₅.post P₆).weak hsub,q₆.1,src.stay st₃ X₃ P₆.tr mv36 (fun a ha=>keep6 a (.tail _ ha)) q₆.1,ac₆,q₆.2⟩
  | true =>
   rw[if_pos rfl]
   have hH6:∀ a∈Dd :: H,AccIn T K₆ env a:=fun a ha=>(hDH' a ha).mono P₆.grows.hid
   refine wE (q₆ A s₆ K₆ R P₆.tr (F₅.post P₆) (hH6 Dd (.head _)) ac₆) fun y s₇ hh=>?_
   obtain ⟨K₇,o₇,res₇,X₇,P₇,G₇,F₇,ac₇,ok₇,inv₇⟩:=hh
   have mv67:Mv K₆ K₇ s₆.heap s₇.heap:=mv_of P₇ (fun a ha=>by
    rcases List.mem_cons.mp ha with q | q
    ·rw[q];exact .inl (hH6 Dd (.head _)).hid
    ·rw[List.mem_singleton.mp q];exact .inr ((F₅.post P₆).unicy _ (.head _))) G₇
   refine ⟨ds.length - (i+1),hlt,i+1,K₇,res₇,o₇,rfl,X₇,P46.trans P₇ fun a ha=>?_,G6.trans G₇ P46.size,F₇.weak hsub,ok₇,src.stay st₃ X₃ X₇ (mv36.trans mv67) (fun a ha o e hd=>P₇.keep a o (keep6 a (.tail _ ha) o e hd) (fun q=>?_) hd) ok₇,ac₇,inv₇⟩
   ·rcases List.mem_append.mp ha with ha | ha
    ·rcases List.mem_cons.mp ha with q | q
     ·rw[q];exact .inl (List.mem_append_left _ (.head _))
     ·exact .inl (List.mem_append_right _ (List.mem_append_left _ q))
    ·exact (G6.fresh a ha).imp (fun z=>List.mem_append_right _ (List.mem_append_right _ z)) id
   ·rcases List.mem_append.mp q with q | q
    ·rcases List.mem_cons.mp q with q | q
     ·exact hDH (by rw[← q];exact ha)
     ·exact (hH6 a (.tail _ ha)).own (by rw[List.mem_singleton.mp q];exact .head _)
    ·exact P₆.tr.hd a (hH6 a (.tail _ ha)).hid q
 | stop e P₃ he =>
  subst e;subst he
  exact ⟨rfl,K',o,res,X'.behind hH' P₃ ht₃,P'.trans P₃.soft fun a ha=>.inl (List.mem_append_left _ (.tail _ ha)),G',F'.behind hH' P₃,ha.stay ac' (.behind (fun a h=>(hH' a h).hid) P₃) fun o e _=>P₃.keep Dd o e hDH,ok',inv'⟩
end
section
variable {T:TopT} {w:World} {n:Nat} {env:Env} {loc:List (Str×D)} {objs:List AO}
theorem itg_name {x:Str} {p:Pos} {d:D} {ok:List AO→Prop} {ds:List D} (it:IterD T w n d objs ok ds):IterG T w n (.Name x p) d objs ok ds:=itg_any (fun _ _=>rfl) it
end
inductive AccL (Dd:Addr) (res:List D) (K:Kt) (s:Shared):Prop
 | mk (xs:List Value) (nn:Nat) (h1:s.heap.get? Dd=some (listO xs nn)) (h2:VRs K s.heap res xs) (h3:res.length≤100000)
theorem accL_ok (Dd:Addr):AccOk Dd (AccL Dd) :=
 ⟨fun ⟨xs,nn,h1,h2,h3⟩ mv ke=>⟨xs,nn,ke _ h1 rfl,h2.map mv,h3⟩,fun ⟨_,_,h1,_,_⟩=>⟨_,h1,rfl⟩⟩
section
variable {w:World}
def CLStart (w:World) (e:PySem.Expr) (dep:Nat) (acc:Value) (env:Env):Prop :=
 ∀ (A:Around) (R:Result→Shared→Prop) (I:Addr) (s:Shared),codeAny (model pw w) A (.compLoop e dep (.ref I) acc env) R s→wpAny (model pw w) A (pyIter (.ref I)) (fun v s'=>v=.ref I∧s'=s) noE s→codeAny (model pw w) A (.compStart e dep (.ref I) acc env) R s
theorem cst_list {elt:PySem.Expr} {gens:List Comprehension} {scope:Scope} {pos:Pos} {dep:Nat} {acc:Value} {env:Env} {t i:PySem.Expr} {f:List PySem.Expr} (h:gens[dep]?=some ⟨t,i,f,0⟩):CLStart w (.ListComp elt gens scope pos) dep acc env:=fun A R I s h0 h1=>by
 refine codeAny_of_tree ?_
 show wpAny _ _ ((compStart (.ListComp elt gens scope pos) dep (.ref I) acc env).onRaise (fun x=>do noteFrame x env;standAt theWindowsPlace)) _ _ s
 refine wpAny_notedAt ?_
 unfold compStart
 rw[show clausesOf (.ListComp elt gens scope pos)=gens from rfl,h]
 show wpAny _ _ (ask >>= _) _ _ s
 refine wpAny_bind (wpAny_askSetting (wpAny_ite ?_))
 have h1':wpAny (model pw w) A (pyIter (.ref I)) (fun v s'=>v=.ref I∧s'=s) (fun e s'=>notedBy (model pw w) A env (fun e s'=>R (.error e) s') e s') s:=wX h1 fun _ _ x=>x
 split
 ·first
   | exact wpAny_bind (wpAny_pure (wpAny_pure (And.intro rfl h0)))
   | exact wpAny_pure (And.intro rfl h0)
 ·refine wpAny_bind (wpAny_rule ?_)
  show wpAny _ _ (standAt i.pos >>= _) _ _ s
  refine wpAny_bind (wpAny_standAt (wpAny_bind (wX h1 fun it' s' h'=>?_)))
  obtain ⟨rfl,rfl⟩:=h'
  exact wpAny_pure (And.intro rfl h0)
theorem cst_set {elt:PySem.Expr} {gens:List Comprehension} {scope:Scope} {pos:Pos} {dep:Nat} {acc:Value} {env:Env} {t i:PySem.Expr} {f:List PySem.Expr} (h:gens[dep]?=some ⟨t,i,f,0⟩):CLStart w (.SetComp elt gens scope pos) dep acc env:=fun A R I s h0 h1=>by
 refine codeAny_of_tree ?_
 show wpAny _ _ ((compStart (.SetComp elt gens scope pos) dep (.ref I) acc env).onRaise (fun x=>do noteFrame x env;standAt theWindowsPlace)) _ _ s
 refine wpAny_notedAt ?_
 unfold compStart
 rw[show clausesOf (.SetComp elt gens scope pos)=gens from rfl,h]
 show wpAny _ _ (ask >>= _) _ _ s
 refine wpAny_bind (wpAny_askSetting (wpAny_ite ?_))
 split
 ·first
   | exact wpAny_bind (wpAny_pure (wpAny_pure (And.intro rfl h0)))
   | exact wpAny_pure (And.intro rfl h0)
 ·refine wpAny_bind (wpAny_rule ?_)
  show wpAny _ _ (standAt i.pos >>= _) _ _ s
  refine wpAny_bind (wpAny_standAt (wpAny_bind (wX h1 fun it' s' h'=>?_)))
  obtain ⟨rfl,rfl⟩:=h'
  exact wpAny_pure (And.intro rfl h0)
end
section
variable {T:TopT} {w:World} {n:Nat} {env:Env} {loc:List (Str×D)} {objs:List AO}
theorem hid_adrs {K:Kt} {s:Shared} {a:Addr} (X:Tr T K objs s) (h:AccIn T K env a):a∉adrs K:=X.hd a h.hid
@[reducible] def kApp (res:List D) (Q:List AO→List D→Prop) (d:D) (o:List AO):Prop:=res.length+1≤100000∧Q o (res++[d])
theorem ec_append {elt:PySem.Expr} {Dd:Addr} {res:List D} {Q:List AO→List D→Prop} (h:EvE T w n env elt loc objs (kApp res Q)):EvC T w n env Dd (AccL Dd) (actAppend elt (.ref Dd) env) loc objs res Q:=fun A s K R X F hD ac=>by
 unfold actAppend
 refine wpAny_bind (wE (h A s K R X F) fun y s₇ hh=>?_)
 obtain ⟨K₇,dy,o₇,P₇,ry,hlen,q⟩:=hh
 obtain ⟨xs,nn,hl,vr,_⟩:=ac
 have hD7:AccIn T K₇ env Dd:=hD.mono P₇.grows.hid
 have hl₇:=P₇.pres.keep Dd _ hl (hid_adrs X hD) (icy_hard rfl)
 have vr₇:=P₇.vrs vr
 have hxl:xs.length=res.length:=vr.length.symm
 refine wpAny_bind (leaf P₇.tr (wpAny_list_append_plain (items:=xs.toArray) ⟨nn,hl₇⟩ (fun h' hp hs=>?_) (by rw[List.size_toArray];exact Nat.le_trans (show _≤100000 by lia) (by decide))))
 intro ht₈
 obtain ⟨m₂,hp⟩:=hp
 obtain ⟨X₈,P8,mv78⟩:=P₇.tr.hidext hD7.hid hD7.low hl₇ listO_hard hs.extBut (by rw[hs.1];exact Nat.le_refl _)
 refine wpAny_pure ⟨K₇,o₇,res++[dy],X₈,(P₇.pres.wider fun a h=>List.mem_append_right _ h).trans P8.soft fun a h=>.inl (by rw[List.mem_singleton.mp h];exact List.mem_append_left _ (.head _)),⟨P₇.grows.ext,P₇.grows.fresh,P₇.grows.hid⟩,
  (F.post P₇).map mv78 (fun b o e hb=>⟨o,P8.keep b o e fun q=>hD.own (by rw[← List.mem_singleton.mp q];exact hb),rfl⟩) (F.post P₇).out P8.size,⟨xs++[y],m₂,?_,(vr₇.map mv78).app (.cons (ry.map mv78) .nil),by rw[List.length_append];exact hlen⟩,q⟩
 rw[hp];simp [listO]
inductive NestQ (T:TopT) (w:World) (n:Nat) (env:Env) (Dd:Addr) (Acc:List D→Kt→Shared→Prop) (target:PySem.Expr) (ifs:List PySem.Expr) (act:Sem Unit) (loc:List (Str×D)) (res:List D) (Q:List AO→List D→Prop) (d:D) (o:List AO):Prop
 | mk (ds:List D) (ok:List AO→Prop) (Inv:Nat→List AO→List D→Prop) (it:IterG T w n target d o ok ds) (hok:ok o) (h0:Inv 0 o res) (turn:TurnOk T w n env Dd Acc target ifs act loc ds ok Inv) (fin:∀ o' res',ok o'→Inv ds.length o' res'→Q o' res')
theorem ec_nest {e iter target:PySem.Expr} {ifs:List PySem.Expr} {act:Sem Unit} {Dd:Addr} {Acc:List D→Kt→Shared→Prop} {res:List D} {Q:List AO→List D→Prop} (cla:CLAny w e 1 target ifs (.ref Dd) env act) (cst:CLStart w e 1 (.ref Dd) env) (ha:AccOk Dd Acc)
  (hs:∀ x,foldedSetIterable iter env x=pure x) (h:EvE T w n env iter loc objs (NestQ T w n env Dd Acc target ifs act loc res Q)) :
  EvC T w n env Dd Acc (actNest e iter (.ref Dd) env) loc objs res Q:=fun A s K R X F hD ac=>by
 unfold actNest
 refine wpAny_bind (wE (h A s K R X F) fun v s₁ hh=>?_)
 obtain ⟨K₁,d,o₁,P₁,r₁,ds,ok,Inv,it,hok,h0,turn,hfin⟩:=hh
 refine wpAny_bind (wpAny_standAt (wpAny_bind (wpAny_of_eq (hs v) (wpAny_bind (wpAny_holding (wE (it A s₁ K₁ v R P₁.tr r₁) fun itv s₂ hh=>?_))))))
 obtain ⟨I,H,St,rfl,src,lg,P₂,ht₂,hH,hst⟩:=hh
 have F₁:=F.post P₁
 have hH₁:∀ a∈H,s₁.heap.objs.size≤a:=fun a h=>(hH a h).1
 have X₂:Tr T (K₁.hide H) o₁ s₂:=P₁.tr.hide P₂ hH ht₂
 have hD1:AccIn T K₁ env Dd:=hD.mono P₁.grows.hid
 have ac₂:Acc res (K₁.hide H) s₂:=ha.stay (ha.stay ac (.of P₁.pres.still P₁.grows) fun o e hi=>P₁.pres.keep Dd o e (hid_adrs X hD) (icy_hard hi)) (.hide P₂ hH₁) fun o e _=>P₂.keep Dd o e fun q=>by cases q
 have hDH:Dd∉H:=fun q=>absurd (P₁.tr.live Dd (List.mem_append_right _ hD1.hid)) (Nat.not_lt.mpr (hH Dd q).1)
 have st:=hst hok X₂
 have loop:=cl_loop cla ha R X₂ (F₁.hide P₂ hH₁) src lg (acc_new P₁.tr F₁ hH₁) ⟨List.mem_append_right _ hD1.hid,hD1.low,hD1.own,hD1.fs⟩ hDH hok st ac₂ h0 turn
 refine wpAny_bind (wpAny_runOwn (codeAny_mono (cst A _ I s₂ loop (src.self st)) fun r s' hr=>?_))
 obtain ⟨rfl,K',o',res',X',P',G',F',ac',ok',inv'⟩:=hr
 have sub:∀ a∈K₁.hid,a∈K'.hid:=fun a ha=>by rw[G'.hid];exact List.mem_append_right _ ha
 have mb:Mv K' (K'.bare K₁.hid) s'.heap s'.heap:=.bare sub
 refine wpAny_pure ⟨K'.bare K₁.hid,o',res',X'.bare sub,?_,⟨?_,?_,P₁.grows.hid⟩,F'.map mb (fun b o e _=>⟨o,e,rfl⟩) F'.out (Nat.le_refl _),ha.stay ac' mb (fun o e _=>e),hfin o' res' ok' inv'⟩
 ·have a1:PreS (H++([Dd,env.locals]++adrs K)) s s₂:=(P₁.pres.wider (W':=H++([Dd,env.locals]++adrs K)) fun a h=>List.mem_append_right _ (List.mem_append_right _ h)).trans (P₂.wider (W':=[]) fun _ h=>by cases h).soft fun a h=>by cases h
  have a2:=a1.trans P' fun a h=>by
   rcases List.mem_append.mp h with h | h
   ·rcases List.mem_cons.mp h with h | h
    ·rw[h];exact .inl (List.mem_append_right _ (List.mem_append_left _ (.head _)))
    ·exact .inl (List.mem_append_left _ h)
   ·rcases List.mem_append.mp h with h | h
    ·rw[List.mem_singleton.mp h];exact .inl (List.mem_append_right _ (List.mem_append_left _ (.tail _ (.head _))))
    ·exact (P₁.grows.fresh a h).imp (fun q=>List.mem_append_right _ (List.mem_append_right _ q)) id
  exact pres_drop a2 fun a ha=>Nat.le_trans P₁.pres.size (hH a ha).1
 ·obtain ⟨K₂,e⟩:=G'.ext
  obtain ⟨K₃,e'⟩:=P₁.grows.ext
  exact ⟨K₃++K₂,by show K'.k=_;rw[e];show K₁.k++K₂=_;rw[e',List.append_assoc]⟩
 ·intro a ha
  rcases G'.fresh a ha with q | q
  ·exact P₁.grows.fresh a q
  ·exact .inr (Nat.le_trans P₁.pres.size (Nat.le_trans P₂.size q))
end
section
variable {T:TopT} {w:World} {n:Nat} {env:Env} {loc:List (Str×D)} {objs:List AO}
theorem comp_coreG {e target:PySem.Expr} {ifs:List PySem.Expr} {scope:Scope} {cl:List (Str×Addr)} {locC:List (Str×D)} {act:Addr→Addr→Sem Unit} {newAcc:Sem Value} {o0:Obj} {Acc:Addr→List D→Kt→Shared→Prop} (ck:CompOk env scope cl loc locC)
  (hnew:∀ (A:Around) (s:Shared) (Q:Value→Shared→Prop),Q (.ref s.heap.objs.size) {s with heap:=s.heap.push o0}→wpAny (model pw w) A newAcc Q noE s) (hfree:o0.isFreed=false)
  (hacc0:∀ (Dd:Addr) (K:Kt) (s:Shared),s.heap.get? Dd=some o0→Acc Dd [] K s) (haok:∀ Dd,AccOk Dd (Acc Dd))
  (cla:∀ C Dd,CLAny w e 0 target ifs (.ref Dd) (compEnvC scope cl C env) (act C Dd)) (cst:∀ C Dd,CLStart w e 0 (.ref Dd) (compEnvC scope cl C env))
  {A:Around} {s₁:Shared} {K₁:Kt} {v:Value} {d:D} {ds:List D} {ok:List AO→Prop} {Inv:Nat→List AO→List D→Prop} (R:Room T A n) (X:Tr T K₁ objs s₁) (Fm:Frm T K₁ env loc s₁) (r:VR K₁ s₁.heap d v)
  (it:IterG T w n target d objs ok ds) (hok:ok objs) (h0:Inv 0 objs []) (turn:∀ C Dd,TurnOk T w n (compEnvC scope cl C env) Dd (Acc Dd) target ifs (act C Dd) locC ds ok Inv) {RR:Value→Addr→Result→Shared→Prop}
  (hRR:∀ (Dd C:Addr) K'' K' o res s' m,Tr T K' o s'→PreS (adrs K₁) s₁ s'→Grows s₁ K₁ K'→Acc Dd res K'' s'→Mv K'' K' s'.heap s'.heap→Dd∉offs K'→s'.heap.Ns C m→s₁.heap.objs.size≤C→C∉adrs K'→Inv ds.length o res→RR (.ref Dd) C (.ok .next) s') :
  wpAny (model pw w) A (pyIter v) (fun it s₂=>wpAny (model pw w) A newAcc (fun acc s₃=>wpAny (model pw w) A (newFunctionEnv scope env.globals cl [] env.qual none .none (some env)) (fun cenv s₄ =>
   codeAny (model pw w) A (.compStart e 0 it acc {cenv with scope:=relabel scope env}) (RR acc cenv.locals) s₄) noE s₃) noE s₂) noE s₁:=by
 refine wE (it A s₁ K₁ v R X r) fun itv s₂ hh=>?_
 obtain ⟨I,H,St,eI,src,lg,p₂,ht₂,hH,hst⟩:=hh
 subst eI
 refine hnew A s₂ _ (wpAny_newFunctionEnv ck.nocell (by intro y hy;simp at hy) (fun h₁ hns₁ hsb₁=>?_) ck.kind)
 dsimp only at hns₁ hsb₁ ⊢
 generalize hH2:s₂.heap.push o0=H2 at hns₁ hsb₁ ⊢
 have hC:H2.objs.size=s₂.heap.objs.size+1:=by rw[← hH2,Heap.size_push]
 have hDC:s₂.heap.objs.size≠H2.objs.size:=by rw[hC];exact Nat.ne_of_lt (Nat.lt_succ_self _)
 have old:∀ b o,s₂.heap.get? b=some o→h₁.get? b=some o:=fun b o e=>hsb₁.extBut b o (by have:=Heap.lt_size e;rw[hC];exact Nat.ne_of_lt (Nat.lt_succ_of_lt this)) (Heap.get?_push_of_some _ (hH2▸Heap.get?_push_of_some _ e))
 have hacc:h₁.get? s₂.heap.objs.size=some o0:=hsb₁.extBut _ _ hDC (Heap.get?_push_of_some _ (hH2▸Heap.get?_push_size _ hfree))
 have hz₁:h₁.objs.size=s₂.heap.objs.size+2:=by rw[hsb₁.1,Heap.size_push,hC]
 generalize hs₄:({s₂ with heap:=h₁,toks:=s₂.toks+([]:List (Str×Value)).length}:Shared)=s₄
 have e4h:s₄.heap=h₁:=by rw[← hs₄]
 have e4t:s₄.toks=s₂.toks:=by rw[← hs₄];rfl
 have e4g:s₄.gens=s₂.gens:=by rw[← hs₄]
 have e4o:s₄.os=s₂.os:=by rw[← hs₄]
 have hz₄:s₄.heap.objs.size=s₂.heap.objs.size+2:=by rw[e4h];exact hz₁
 have p₁₄:Pres [] s₁ s₄:=⟨fun b o e hb=>by rw[e4h];exact old b o (p₂.keep b o e hb),by rw[hz₄];exact Nat.le_trans p₂.size (Nat.le_add_right _ _),e4o.trans p₂.os,fun g=>by rw[e4g];exact p₂.gens g⟩
 generalize hD:s₂.heap.objs.size=Dd at *
 have hHD:∀ a∈Dd :: H,s₁.heap.objs.size≤a∧a<s₄.heap.objs.size:=fun a ha=>by
  rcases List.mem_cons.mp ha with rfl | ha
  ·exact ⟨hD▸p₂.size,by rw[hz₄];exact Nat.lt_add_of_pos_right (by decide)⟩
  ·exact ⟨(hH a ha).1,by rw[hz₄];exact Nat.lt_of_lt_of_le (hH a ha).2 (Nat.le_add_right _ _)⟩
 have hDH:Dd∉H:=fun q=>absurd (hH Dd q).2 (Nat.lt_irrefl _)
 have X₂:Tr T (K₁.hide H) objs s₂:=X.hide p₂ (fun a ha=>⟨(hH a ha).1,hD.symm▸(hH a ha).2⟩) ht₂
 have X₄:Tr T (K₁.hide (Dd :: H)) objs s₄:=X.hide p₁₄ hHD (by rw[e4t];exact ht₂)
 have fr:∀ b o,s₂.heap.get? b=some o→b≠Dd:=fun b o e q=>by have:=Heap.lt_size e;rw[hD,q] at this;exact Nat.lt_irrefl _ this
 have mv24:Mv (K₁.hide H) (K₁.hide (Dd :: H)) s₂.heap s₄.heap:=⟨fun b o e hk _=>⟨by rw[e4h];exact old b o e,fun q=>by
  rcases List.mem_append.mp q with q | q
  ·exact hk (List.mem_append_left _ q)
  ·rcases List.mem_cons.mp q with q | q
   ·exact fr b o e q
   ·exact hk (List.mem_append_right _ q)⟩,fun _ _ h=>h⟩
 have st₄:=src.stay (hst hok X₂) X₂ X₄ mv24 (fun a _ o e _=>by rw[e4h];exact old a o e) hok
 have F₂:Frm T (K₁.hide (Dd :: H)) env loc s₂:=Fm.hide p₂ fun a h=>(hHD a h).1
 have mvs:Mv (K₁.hide (Dd :: H)) (K₁.hide (Dd :: H)) s₂.heap s₄.heap:=⟨fun b o e hk _=>⟨by rw[e4h];exact old b o e,hk⟩,fun _ _ h=>h⟩
 have hCo:H2.objs.size∉offs (K₁.hide (Dd :: H)):=fun q=>by
  rcases offs_hide q with q | q
  ·exact absurd (X.live _ q) (Nat.not_lt.mpr (Nat.le_trans (hHD Dd (.head _)).1 (by rw[hC];exact Nat.le_succ _)))
  ·rcases List.mem_cons.mp q with q | q
   ·exact hDC q.symm
   ·have:=(hH _ q).2
    rw[hC] at this
    exact absurd this (Nat.not_lt.mpr (Nat.le_succ _))
 have FC:Frm T (K₁.hide (Dd :: H)) (compEnvC scope cl H2.objs.size env) locC s₄:=comp_frame ck F₂ X₄ mvs (fun b o e=>by rw[e4h];exact old b o e) (by rw[hz₄,hD];exact Nat.le_add_right _ _) hCo (by rw[hC,hD];exact Nat.le_succ _) (by rw[e4h];exact hns₁) (Nat.le_trans X.top.size p₂.size)
 have hCs:s₁.heap.objs.size≤H2.objs.size:=Nat.le_trans (hHD Dd (.head _)).1 (by rw[hC];exact Nat.le_succ _)
 have hown:∀ a∈Dd :: H,a∉own (compEnvC scope cl H2.objs.size env):=fun a ha q=>by
  rcases List.mem_cons.mp q with rfl | q
  ·exact hCo (List.mem_append_right _ (List.mem_append_left _ ha))
  ·obtain ⟨⟨y,c⟩,hm,rfl⟩:=List.mem_map.mp q
   exact absurd (Fm.live _ (own_cell (ck.mem y c hm))) (Nat.not_lt.mpr (hHD _ ha).1)
 have hin:∀ a∈Dd :: H,AccIn T (K₁.hide (Dd :: H)) (compEnvC scope cl H2.objs.size env) a:=fun a ha=>⟨List.mem_append_left _ ha,Nat.le_trans X.top.size (hHD a ha).1,hown a ha,fun q=>absurd (X.fs_at q).1.lt (Nat.not_lt.mpr (hHD a ha).1)⟩
 have loop:=cl_loop (cla H2.objs.size Dd) (haok Dd) R X₄ FC src lg (fun a ha=>hin a (.tail _ ha)) (hin Dd (.head _)) hDH hok st₄ (hacc0 Dd _ s₄ (by rw[e4h];exact hacc)) h0 (turn _ _)
 refine cst _ Dd A _ I s₄ (codeAny_mono loop fun r s' hr=>?_) (src.self st₄)
 obtain ⟨rfl,K',o,res,X',P',G',F',ac',ok',inv'⟩:=hr
 have sub:∀ a∈K₁.hid,a∈K'.hid:=fun a ha=>by rw[G'.hid];exact List.mem_append_right _ ha
 obtain ⟨mC,hC1,_⟩:=F'.ns
 have P13:PreS ((Dd :: H)++([H2.objs.size]++adrs K₁)) s₁ s':=(p₁₄.wider fun _ h=>by cases h).soft.trans P' fun a ha=>.inl ha
 refine hRR Dd H2.objs.size K' (K'.bare K₁.hid) o res s' mC (X'.bare sub) (pres_drop (H:=[H2.objs.size]) (pres_drop (H:=Dd :: H) P13 fun a ha=>(hHD a ha).1) fun a ha=>by rw[List.mem_singleton.mp ha];exact hCs)
  ⟨G'.ext,fun a ha=>(G'.fresh a ha).imp id fun q=>Nat.le_trans p₁₄.size q,rfl⟩ ac' (.bare sub) (fun q=>?_) hC1 hCs (F'.out _ (.head _)) inv'
 have hDK:Dd∈K'.hid:=by rw[G'.hid];exact List.mem_append_left _ (.head _)
 rcases List.mem_append.mp q with q | q
 ·exact X'.hd Dd hDK q
 ·exact absurd (X.live Dd (List.mem_append_right _ q)) (Nat.not_lt.mpr (hHD Dd (.head _)).1)
inductive CompG (T:TopT) (w:World) (n:Nat) (env:Env) (scope:Scope) (cl:List (Str×Addr)) (target:PySem.Expr) (ifs:List PySem.Expr) (act:Addr→Addr→Sem Unit) (locC:List (Str×D)) (d:D) (o:List AO) (Q:D→List AO→Prop):Prop
 | mk (ds:List D) (ok:List AO→Prop) (Inv:Nat→List AO→List D→Prop) (it:IterG T w n target d o ok ds) (hok:ok o) (h0:Inv 0 o []) (turn:∀ C Dd,TurnOk T w n (compEnvC scope cl C env) Dd (AccL Dd) target ifs (act C Dd) locC ds ok Inv) (fin:∀ res o',Inv ds.length o' res→Q (.list res) o')
@[reducible] def kCompG (T:TopT) (w:World) (n:Nat) (env:Env) (scope:Scope) (cl:List (Str×Addr)) (target:PySem.Expr) (ifs:List PySem.Expr) (act:Addr→Addr→Sem Unit) (locC:List (Str×D)) (Q:D→List AO→Prop) (d:D) (o:List AO):Prop:=CompG T w n env scope cl target ifs act locC d o Q
theorem new_list (A:Around) (s:Shared) (Q:Value→Shared→Prop) (h:Q (.ref s.heap.objs.size) {s with heap:=s.heap.push (listO [] 0)}):wpAny (model pw w) A (newList []) Q noE s:=wpAny_newObj_type h (show 0≤sizeLine by decide)
theorem accL_0 (Dd:Addr) (K:Kt) (s:Shared) (h:s.heap.get? Dd=some (listO [] 0)):AccL Dd [] K s:=⟨[],0,h,.nil,Nat.zero_le _⟩
theorem ev_compG {elt target iter:PySem.Expr} {ifs:List PySem.Expr} {rest:List Comprehension} {scope:Scope} {pos:Pos} {cl:List (Str×Addr)} {locC:List (Str×D)} {act:Addr→Addr→Sem Unit} {Q:D→List AO→Prop} (ck:CompOk env scope cl loc locC)
  (hs:∀ x,foldedSetIterable iter env x=pure x) (cla:∀ C Dd,CLAny w (.ListComp elt (⟨target,iter,ifs,0⟩ :: rest) scope pos) 0 target ifs (.ref Dd) (compEnvC scope cl C env) (act C Dd))
  (h:EvE T w n env iter loc objs (kCompG T w n env scope cl target ifs act locC Q)) :
  EvE T w n env (.ListComp elt (⟨target,iter,ifs,0⟩ :: rest) scope pos) loc objs Q:=fun A s K R X F=>by
 rw[eval_ListComp]
 refine wpAny_comprehension_free (use:=none) rfl hs ck.clos ck.kind ck.names (wE (h A s K R X F) fun v s₁ hh=>?_)
 obtain ⟨K₁,d,o₁,p₁,r₁,ds,ok,Inv,it,hok,h0,turn,hfin⟩:=hh
 refine comp_coreG (RR:=fun acc C=>compPost (model pw w) A noE none (OutE T K s Q) acc C) (Acc:=AccL) ck new_list rfl accL_0 accL_ok cla (fun C Dd=>cst_list rfl) R p₁.tr (F.post p₁) r₁ it hok h0 turn fun Dd C K'' K' o res s' m X' P' G' ac' mv' hDo hC hCs hCa inv'=>⟨m,hC,fun h' hs'=>?_⟩
 obtain ⟨X2,P2,mv⟩:=let_go X' P' hC hCs hCa p₁.tr.top.size (fun q=>absurd (p₁.tr.fs_at q).1.lt (Nat.not_lt.mpr hCs)) hs'
 obtain ⟨xs,nn,h1,h2,h3⟩:=ac'
 exact ⟨K',_,o,p₁.trans ⟨X2,P2,⟨G'.ext,G'.fresh,G'.hid⟩⟩,(VR.list h1 hDo h3 (h2.map mv')).map mv,hfin res o inv'⟩
theorem s_assign_compG {elt target iter:PySem.Expr} {ifs:List PySem.Expr} {rest:List Comprehension} {scope:Scope} {pos spos py:Pos} {y:Str} {cl:List (Str×Addr)} {locC:List (Str×D)} {act:Addr→Addr→Sem Unit} {Q:Fl→List (Str×D)→List AO→Prop} (ck:CompOk env scope cl loc locC)
  (hsw:swapsWith (.ListComp elt (⟨target,iter,ifs,0⟩ :: rest) scope pos) (some (.Name y py)) spos.line env=pure true) (hy:LoC env y)
  (hs:∀ x,foldedSetIterable iter env x=pure x) (cla:∀ C Dd,CLAny w (.ListComp elt (⟨target,iter,ifs,0⟩ :: rest) scope pos) 0 target ifs (.ref Dd) (compEnvC scope cl C env) (act C Dd))
  (h:EvE T w n env iter loc objs (kCompG T w n env scope cl target ifs act locC (kAsg y loc Q))) :
  EvS T w n env (.Assign [.Name y py] (.ListComp elt (⟨target,iter,ifs,0⟩ :: rest) scope pos) spos) loc objs Q:=fun A s K R X F=>by
 rw[exec_Assign_Name_used _ _ _ _ hsw]
 refine wpAny_bind (wpAny_standAt (wpAny_bind ?_))
 show wpAny _ A (do let _ ← comprehension (.ListComp elt (⟨target,iter,ifs,0⟩ :: rest) scope pos) scope env _ (newList []) false (eval iter env) (some (assign (.Name y py) env))) _ _ s
 refine wpAny_bind (wE (wpAny_comprehension_free (use:=some (assign (.Name y py) env)) (Q:=fun _ s'=>OutS T K env s Q .next s') rfl hs ck.clos ck.kind ck.names (wE (h A s K R X F) fun v s₁ hh=>?_)) fun _ s' hq=>wpAny_pure (wpAny_pure hq))
 obtain ⟨K₁,d,o₁,p₁,r₁,ds,ok,Inv,it,hok,h0,turn,hfin⟩:=hh
 have F₁:=F.post p₁
 refine comp_coreG (RR:=fun acc C=>compPost (model pw w) A noE (some (assign (.Name y py) env)) (fun _ s'=>OutS T K env s Q .next s') acc C) (Acc:=AccL) ck new_list rfl accL_0 accL_ok cla (fun C Dd=>cst_list rfl) R p₁.tr F₁ r₁ it hok h0 turn fun Dd C K'' K' o res s' m X' P' G' ac' mv' hDo hC hCs hCa inv'=>?_
 have PP:Post T K₁ s₁ K' o s':=⟨X',P',G'⟩
 obtain ⟨xs,nn,h1,h2,h3⟩:=ac'
 show wpAny _ A (assign (.Name y py) env (.ref Dd)) _ _ _
 refine wpAny_assign_Name (wE (store_any X' (F₁.post PP) (VR.list h1 hDo h3 (h2.map mv')) hy) fun _ s₃ hh=>?_)
 obtain ⟨P₃,F₃⟩:=hh
 have hCo:C∉own env:=fun q=>absurd (F₁.live C q) (Nat.not_lt.mpr hCs)
 have hC3:s₃.heap.Ns C m:=Ns_dat hC fun o' e=>P₃.pres.dat C o' e fun q=>(List.mem_append.mp q).elim hCo hCa
 refine ⟨m,hC3,fun h' hs'=>?_⟩
 have P13:PostL T (own env) K₁ s₁ K' o s₃:=PP.toL.trans P₃
 obtain ⟨oC,es,ep,hoC,hdC,_⟩:=hC3
 have hic:icy oC.data=false:=by rw[hdC];rfl
 have hCN:T.N≤C:=Nat.le_trans p₁.tr.top.size hCs
 have Q3:=P₃.tr.same hCa hCN ⟨oC,hoC,hic⟩ hs' s₃.toks P₃.tr.toks fun q=>absurd (p₁.tr.fs_at q).1.lt (Nat.not_lt.mpr hCs)
 have mv3:Mv K' K' s₃.heap h':=.of (s:=s₃) (s':={s₃ with heap:=h',toks:=s₃.toks}) (Q3.still fun a ha o' ho=>by rw[List.mem_singleton.mp ha,hoC] at ho;cases ho;exact hic) Q3.grows
 have P14:PreS (own env++adrs K₁) s₁ {s₃ with heap:=h'}:=pres_drop (H:=[C]) ((P13.pres.wider (W':=[C]++(own env++adrs K₁)) fun a ha=>List.mem_append_right _ ha).trans (W':=[C]) (.of (fun b o' e hb=>(hs'.2 b fun q=>hb (by rw[q];exact .head _)).trans e) (by show _≤h'.objs.size;rw[hs'.1];exact Nat.le_refl _) rfl id) fun a ha=>.inl (List.mem_append_left _ ha)) fun a ha=>by rw[List.mem_singleton.mp ha];exact hCs
 refine ⟨K',.next,_,o,p₁.toL.trans ⟨Q3.tr,P14,P13.grows⟩,F₃.map mv3 (fun b o' e hb=>⟨o',(hs'.2 b fun q=>hCo (q▸hb)).trans e,rfl⟩) F₃.out (by show _≤h'.objs.size;rw[hs'.1];exact Nat.le_refl _),.next,hfin res o inv'⟩
end
inductive E2 (h:Heap) (e:Addr) (c:Value):Prop
 | mk (oe:Obj) (vs:Array Value) (h1:h.get? e=some oe) (h2:oe.data=.fields vs) (h3:vs[2]?=some c)
inductive TbOk (h:Heap) (e:Addr):Prop
 | mk (oe:Obj) (vs:Array Value) (tb:Addr) (h1:h.get? e=some oe) (h2:oe.data=.fields vs) (h3:vs[1]?=some (.ref tb))
section
variable {T:TopT} {w:World} {n:Nat} {env:Env} {loc:List (Str×D)} {objs:List AO}
variable {W:List Addr} {K₀ K:Kt} {s₀ s:Shared} {H:List Addr} {cls:String} {e:Addr}
theorem ExS.flightG {fr:Option Addr} {A:Around} {E:Value→Shared→Prop} {Q:Unit→Shared→Prop} (x:ExS T W K₀ s₀ K H objs cls e s) (k:∀ s',ExS T W K₀ s₀ K H objs cls e s'→Mv (K.hide H) (K.hide H) s.heap s'.heap→PreS H s s'→(∀ c,E2 s.heap e c→E2 s'.heap e c)→(TbOk s.heap e→TbOk s'.heap e)→Q () s') :
  wpAny (model pw w) A (setFlight (.ref e) fr) Q E s:=by
 obtain ⟨oe,vs,h1,h2,h3,h4,h5⟩:=x.exc
 unfold setFlight
 rcases h5 with h5 | ⟨tb,otb,tvs,q1,q2,q3,q4,q5,q6⟩
 ·refine wpAny_bind (wpAny_field h1 h3 h5 ?_)
  rw[if_neg (by decide)]
  exact wpAny_pure (k s x ⟨fun b o e hk _=>⟨e,hk⟩,fun _ _ h=>h⟩ (.refl _ _) (fun _ h=>h) id)
 ·refine wpAny_bind (wpAny_field h1 h3 q1 ?_)
  rw[if_pos (show (Value.ref tb != Value.none)=true from by simp)]
  refine wpAny_setField q4 q5 (by lia) ?_
  obtain ⟨X',P',mv⟩:=x.tr.hidupd (f:=(·.setIfInBounds 3 (fr.elim .none fun f=>rawInt f))) (List.mem_append_left _ q2) (x.low tb q2) q4 q5
  have ke:∀ o,s.heap.get? e=some o→(s.heap.update tb (Obj.mapFields (·.setIfInBounds 3 (fr.elim .none fun f=>rawInt f)))).get? e=some o:=fun o h=>(Heap.get?_update_ne _ _ _ _ (Ne.symm q3)).trans h
  refine k _ ⟨X',x.pres.trans P' fun a ha=>.inr (by rw[List.mem_singleton.mp ha];exact x.new tb q2),x.grows,x.new,x.low,x.me,oe,vs,?_,h2,h3,h4,.inr ⟨tb,_,_,q1,q2,q3,Heap.get?_update_self _ q4 ?_,Obj.data_mapFields q5 _,by rw[Array.size_setIfInBounds];exact q6⟩⟩ mv (P'.wider fun a ha=>by rw[List.mem_singleton.mp ha];exact q2) (fun c ⟨o,v,z1,z2,z3⟩=>⟨o,v,ke _ z1,z2,z3⟩) fun ⟨o,v,t,z1,z2,z3⟩=>⟨o,v,t,ke _ z1,z2,z3⟩
  ·exact (Heap.get?_update_ne _ _ _ _ (Ne.symm q3)).trans h1
  ·exact Obj.isFreed_of_fields (Obj.data_mapFields q5 _)
theorem ExS.entry2 {A:Around} {E:Value→Shared→Prop} {Q:Unit→Shared→Prop} (x:ExS T W K₀ s₀ K H objs cls e s) (R:A.frames=some T.fs) {L:Addr} (hf:env.frame=some L) (hfr:∃ e₀ r,T.fs=e₀ :: r∧e₀.frame=env.frame) {head:Value} {oe:Obj} {vs:Array Value}
  (h1:s.heap.get? e=some oe) (h2:oe.cls=.type cls) (h3:oe.data=.fields vs) (h4:5≤vs.size)
  (k:∀ s' t,ExS T W K₀ s₀ K (t :: H) objs cls e s'→s.heap.objs.size≤t→Mv (K.hide H) (K.hide (t :: H)) s.heap s'.heap→PreS H s s'→(∀ c,E2 s.heap e c→E2 s'.heap e c)→TbOk s'.heap e→Q () s') :
  wpAny (model pw w) A (do setField (.ref e) 1 (← EntryCells.newEntry head (← PySem.frameOf env) .none (rawInt L) .none (← entryPlaceOf L (head != .none)))) Q E s:=by
 obtain ⟨e₀,r,hT,he₀⟩:=hfr
 unfold PySem.frameOf
 refine wpAny_bind (wpAny_bind (wpAny_frameEnvs R ?_))
 have hdw:(T.fs.dropWhile fun x=>x.frame != env.frame)=e₀ :: r:=by
  rw[hT,List.dropWhile_cons,if_neg]
  rw[he₀];simp
 rw[hdw]
 unfold frameObject
 have hall:∀ e'∈e₀ :: r,e'.scope.kind≠.module∧∃ L,e'.frame=some L∧L∈frms T.fs∧Dk s.heap L:=fun e' he'=>by
  obtain ⟨q0,L',q1,q2,_⟩:=x.tr.fs e' (by rw[hT];exact he')
  exact ⟨q0,L',q1,frms_mem (by rw[hT];exact he') q1,q2⟩
 refine wpAny_bind (wpAny_bind (ready_frames _ _ _ hall fun s₁ S=>?_))
 rw[he₀,hf]
 refine wpAny_pure ?_
 refine wpAny_pure ?_
 obtain ⟨X₁,P₁,m₁⟩:=x.tr.soft S
 refine wpAny_bind (wpAny_entryPlaceOf fun pl hpl=>?_)
 unfold EntryCells.newEntry newFields
 refine wpAny_bind (wpAny_newObj_type ?_ (hpl.sizeOk5 _ _ _ _ _))
 have hard_e:hard e oe:=.inr fun es n q=>by rw[h3] at q;cases q
 have he₁:s₁.heap.get? e=some oe:=P₁.keep e oe h1 (fun h=>by cases h) hard_e
 generalize hto:({cls:=.type "traceback",dict:=none,data:=.fields ([head,Value.ref L,.none,rawInt L,.none]++(if pl.isEmpty then List.replicate 6 Value.none else pl)).toArray}:Obj)=to
 have hP2:Pres [] s₁ {s₁ with heap:=s₁.heap.push to}:=⟨fun b o e _=>Heap.get?_push_of_some _ e,by show _≤(s₁.heap.push _).objs.size;rw[Heap.size_push];exact Nat.le_succ _,rfl,id⟩
 have ht:∀ a∈[s₁.heap.objs.size],s₁.heap.objs.size≤a∧a<(s₁.heap.push to).objs.size:=fun a ha=>by rw[List.mem_singleton.mp ha,Heap.size_push];exact ⟨Nat.le_refl _,Nat.lt_succ_self _⟩
 have X₂:Tr T (K.hide (s₁.heap.objs.size :: H)) objs {s₁ with heap:=s₁.heap.push to}:=X₁.hide (H:=[s₁.heap.objs.size]) hP2 ht X₁.toks
 have m₂:Mv (K.hide H) (K.hide (s₁.heap.objs.size :: H)) s₁.heap (s₁.heap.push to):=Mv.hide (K:=K.hide H) (H:=[s₁.heap.objs.size]) (s:=s₁) (s':={s₁ with heap:=s₁.heap.push to}) hP2 fun a ha=>(ht a ha).1
 have he₂:(s₁.heap.push to).get? e=some oe:=Heap.get?_push_of_some _ he₁
 have hne:s₁.heap.objs.size≠e:=Nat.ne_of_gt (Heap.lt_size he₁)
 have hzs:s.heap.objs.size≤s₁.heap.objs.size:=P₁.size
 have hlow:T.N≤s₁.heap.objs.size:=X₁.top.size
 refine wpAny_setField he₂ h3 (by lia) ?_
 obtain ⟨X₃,P₃,m₃⟩:=X₂.hidupd (s:={s₁ with heap:=s₁.heap.push to}) (a:=e) (f:=(·.setIfInBounds 1 (.ref s₁.heap.objs.size))) (.tail _ (List.mem_append_left _ x.me)) (x.low e x.me) he₂ h3
 have hs0:s₀.heap.objs.size≤s₁.heap.objs.size:=Nat.le_trans x.pres.size hzs
 have P13:PreS [e] s {s₁ with heap:=(s₁.heap.push to).update e (Obj.mapFields (·.setIfInBounds 1 (.ref s₁.heap.objs.size)))}:=((P₁.wider (W':=[e]) fun a ha=>by cases ha).trans hP2.soft fun a ha=>by cases ha).trans P₃ fun a ha=>.inl ha
 refine k _ s₁.heap.objs.size ⟨X₃,x.pres.trans P13 fun a ha=>.inr (by rw[List.mem_singleton.mp ha];exact x.new e x.me),x.grows,fun a ha=>?_,fun a ha=>?_,.tail _ x.me,?_⟩ hzs ?_ (P13.wider fun a ha=>by rw[List.mem_singleton.mp ha];exact x.me) (fun c ⟨o,v,z1,z2,z3⟩=>?_) ?_
 ·rcases List.mem_cons.mp ha with rfl | ha
  ·exact hs0
  ·exact x.new a ha
 ·rcases List.mem_cons.mp ha with rfl | ha
  ·exact hlow
  ·exact x.low a ha
 ·refine ExcD.upd1 (Heap.get?_update_self _ he₂ (Obj.isFreed_of_fields (Obj.data_mapFields h3 _))) h2 h3 h4 (.head _) hne ((Heap.get?_update_ne _ _ _ _ hne).trans (Heap.get?_push_size _ (by rw[← hto];rfl))) (tvs:=([head,Value.ref L,.none,rawInt L,.none]++(if pl.isEmpty then List.replicate 6 Value.none else pl)).toArray) (by rw[← hto]) ?_
  rw[List.size_toArray,List.length_append]
  show 4≤5+_
  lia
 ·exact ⟨fun b o e hk hi=>by
   have q1:=m₁.ice b o e hk hi
   have q2:=m₂.ice b o q1.1 q1.2 hi
   exact m₃.ice b o q2.1 q2.2 hi,fun _ _ h=>h⟩
 ·rw[h1] at z1;cases z1
  rw[h3] at z2;cases z2
  exact ⟨_,_,Heap.get?_update_self _ he₂ (Obj.isFreed_of_fields (Obj.data_mapFields h3 _)),Obj.data_mapFields h3 _,by rw[Array.getElem?_setIfInBounds_ne (by decide)];exact z3⟩
 ·exact ⟨_,_,_,Heap.get?_update_self _ he₂ (Obj.isFreed_of_fields (Obj.data_mapFields h3 _)),Obj.data_mapFields h3 _,Array.getElem?_setIfInBounds_self_of_lt (by lia)⟩
theorem ExS.note2 {A:Around} {E:Value→Shared→Prop} {Q:Unit→Shared→Prop} (x:ExS T W K₀ s₀ K H objs cls e s) (R:A.frames=some T.fs) (hfr:∃ e₀ r,T.fs=e₀ :: r∧e₀.frame=env.frame)
  (k:∀ s' H',ExS T W K₀ s₀ K H' objs cls e s'→(∀ a∈H',a∈H∨s.heap.objs.size≤a)→Mv (K.hide H) (K.hide H') s.heap s'.heap→PreS H s s'→(∀ c,E2 s.heap e c→E2 s'.heap e c)→TbOk s'.heap e→Q () s') :
  wpAny (model pw w) A (noteFrame (.ref e) env) Q E s:=by
 obtain ⟨L,hf⟩:∃ L,env.frame=some L:=by
  obtain ⟨e₀,r,hT,he₀⟩:=hfr
  obtain ⟨_,L,q1,_⟩:=x.tr.fs e₀ (by rw[hT];exact .head _)
  exact ⟨L,he₀▸q1⟩
 obtain ⟨oe,vs,h1,h2,h3,h4,h5⟩:=id x.exc
 unfold noteFrame
 rw[hf]
 rcases h5 with h5 | ⟨tb,otb,tvs,q1,q2,q3,q4,q5,q6⟩
 ·refine wpAny_bind (wpAny_field h1 h3 h5 ?_)
  rw[if_neg (by decide)]
  refine x.entry2 R hf hfr h1 h2 h3 h4 fun s' t x' ht mv P ke tb=>k s' _ x' (fun a ha=>?_) mv P ke tb
  rcases List.mem_cons.mp ha with rfl | ha
  ·exact .inr ht
  ·exact .inl ha
 ·refine wpAny_bind (wpAny_field h1 h3 q1 ?_)
  rw[if_pos (show (Value.ref tb != Value.none)=true from by simp)]
  obtain ⟨v3,hv3⟩:∃ v,tvs[3]?=some v:=⟨_,Array.getElem?_eq_getElem (by lia)⟩
  refine wpAny_bind (wpAny_field q4 q5 hv3 ?_)
  by_cases hh:(v3==rawInt L)=true
  ·rw[if_pos hh]
   exact wpAny_pure (k s H x (fun a ha=>.inl ha) ⟨fun b o e hk _=>⟨e,hk⟩,fun _ _ h=>h⟩ (.refl _ _) (fun _ h=>h) ⟨oe,vs,tb,h1,h3,q1⟩)
  ·rw[if_neg hh]
   refine wpAny_bind (wpAny_setField q4 q5 (by lia) ?_)
   obtain ⟨X',P',mv'⟩:=x.tr.hidupd (f:=(·.setIfInBounds 3 .none)) (List.mem_append_left _ q2) (x.low tb q2) q4 q5
   have h1':(s.heap.update tb (Obj.mapFields (·.setIfInBounds 3 .none))).get? e=some oe:=(Heap.get?_update_ne _ _ _ _ (Ne.symm q3)).trans h1
   have x':ExS T W K₀ s₀ K H objs cls e {s with heap:=s.heap.update tb (Obj.mapFields (·.setIfInBounds 3 .none))} :=
    ⟨X',x.pres.trans P' fun a ha=>.inr (by rw[List.mem_singleton.mp ha];exact x.new tb q2),x.grows,x.new,x.low,x.me,oe,vs,h1',h2,h3,h4,.inr ⟨tb,_,_,q1,q2,q3,Heap.get?_update_self _ q4 (Obj.isFreed_of_fields (Obj.data_mapFields q5 _)),Obj.data_mapFields q5 _,by rw[Array.size_setIfInBounds];exact q6⟩⟩
   refine x'.entry2 R hf hfr h1' h2 h3 h4 fun s' t x'' ht mv P ke tbk=>k s' _ x'' (fun a ha=>?_) ⟨fun b o e hk hi=>by
     have q1:=mv'.ice b o e hk hi
     exact mv.ice b o q1.1 q1.2 hi,fun _ _ h=>h⟩ ((P'.wider fun a ha=>by rw[List.mem_singleton.mp ha];exact q2).trans P fun a ha=>.inl ha) (fun c ⟨o,v,z1,z2,z3⟩=>ke c ⟨o,v,(Heap.get?_update_ne _ _ _ _ (Ne.symm q3)).trans z1,z2,z3⟩) tbk
   rcases List.mem_cons.mp ha with rfl | ha
   ·exact .inr (by
     have:(s.heap.update tb (Obj.mapFields (·.setIfInBounds 3 .none))).objs.size=s.heap.objs.size:=Heap.size_update ..
     have ht:(s.heap.update tb (Obj.mapFields (·.setIfInBounds 3 .none))).objs.size≤_:=ht
     rw[this] at ht;exact ht)
   ·exact .inl ha
end
end Mine.Internal
end
section
open PySem
namespace Mine.Internal
noncomputable def hB (b:Bool):Int:=match b with | true=>1 | false=>0
noncomputable def sbE (f t:Bool):Array (Int×Value):=match f,t with
 | false,false=>#[] | true,false=>#[(0,.bool false)] | false,true=>#[(1,.bool true)] | true,true=>#[(0,.bool false),(1,.bool true)]
noncomputable def inB (b f t:Bool):Bool:=match b with | true=>t | false=>f
noncomputable def sbP (f t:Bool):Array Nat:=match f,t with
 | false,false=>#[] | true,false=>#[0] | false,true=>#[1] | true,true=>#[0,1]
noncomputable def sbT (led f t:Bool):SetTable:={mask:=7,place:=sbP f t,dummies:=#[],finger:=0,led:=led,moves:=0,plain:=true}
noncomputable def sbO (led f t:Bool) (ep:Nat):Obj:={cls:=.type "set",dict:=none,data:=.set (sbE f t) ep (sbT led f t),slots:=#[]}
section
variable {prog:Program} {w:World} {A:Around} {E:Value→Shared→Prop} {s:Shared}
theorem pyHash_bool {b:Bool} {Q:Int→Shared→Prop} (h:Q (hB b) {s with toks:=s.toks+1}):wpAny (model prog w) A (pyHash (.bool b)) Q E s:=by
 have hT:s.TypeIs (.bool b) "bool":=rfl
 have hv:[Value.bool b].any Value.onHeap=false:=rfl
 unfold pyHash
 refine wpAny_bind ?_
 rw[cRoomFor,if_neg (by rw[hv];exact Bool.false_ne_true)];refine wpAny_pure ?_
 refine wpAny_bind (wpAny_specialOf hT F.slot_bool_hash.lookup ?_)
 show wpAny _ _ (if (some (Value.builtin "int.__hash__")==some Value.none)=true then _ else _) Q E s
 rw[if_neg (by rw[beq_builtin_none];exact Bool.false_ne_true)]
 refine wpAny_bind (wpAny_specialOf hT F.slot_bool_hash.lookup ?_)
 show wpAny _ _ (callSpecialIfBoundUnlessNone? (.bool b) "__hash__" _ >>= _) Q E s
 cases b with
 | true =>
  refine wpAny_bind (wpAny_callSpecialIfBoundUnlessNone?_slot hT F.slot_bool_hash
   (wpAny_call_entry F.slot_bool_hash hT entry_int_hash
    (show wpAny _ _ (do ret (← mkInt (rawHash 1))) _ _ s from wpAny_ret_mkInt ?_) (args_int_hash _)))
  exact wpAny_pure h
 | false =>
  refine wpAny_bind (wpAny_callSpecialIfBoundUnlessNone?_slot hT F.slot_bool_hash
   (wpAny_call_entry F.slot_bool_hash hT entry_int_hash
    (show wpAny _ _ (do ret (← mkInt (rawHash 0))) _ _ s from wpAny_ret_mkInt ?_) (args_int_hash _)))
  exact wpAny_pure h
theorem eqBool_same {b:Bool} {Q:Bool→Shared→Prop} (h:Q true s):wpAny (model prog w) A (eqBool (.bool b) (.bool b)) Q E s:=by
 unfold eqBool
 refine wpAny_holding ?_
 show wpAny _ _ (if (Value.bool b==Value.bool b)=true then _ else _) Q E s
 rw[if_pos (by cases b <;> rfl)]
 exact wpAny_bind (wpAny_rule (wpAny_pure h))
theorem state_set {led f t:Bool} {ep:Nat} {a:Addr} {Q:(Array (Int×Value)×Nat×SetTable)→Shared→Prop} (ho:s.heap.get? a=some (sbO led f t ep)) (h:Q (sbE f t,ep,sbT led f t) s):wpAny (model prog w) A (setState a) Q E s :=
 wpAny_setState_of ho rfl (by cases f <;> cases t <;> rfl) h
theorem epoch_set {led f t:Bool} {ep:Nat} {a:Addr} {Q:Nat→Shared→Prop} (ho:s.heap.get? a=some (sbO led f t ep)) (h:Q ep s):wpAny (model prog w) A (setEpoch a) Q E s:=by
 unfold setEpoch
 exact wpAny_bind (state_set ho (wpAny_pure h))
theorem scan_hit {led f t:Bool} {ep:Nat} {a:Addr} {b:Bool} {r:List (Int×Value)} {i:Nat} {Q:ScanMet→Shared→Prop} (ho:s.heap.get? a=some (sbO led f t ep)) (h:Q (.found i) s):wpAny (model prog w) A (setScanFrom a (.bool b) (hB b) true ((hB b,.bool b) :: r) i) Q E s:=by
 unfold setScanFrom
 rw[if_pos (by cases b <;> rfl)]
 refine wpAny_bind (epoch_set ho (wpAny_bind (eqBool_same ?_)))
 exact wpAny_pure h
theorem scan_skip {a:Addr} {b c:Bool} {r:List (Int×Value)} {i:Nat} {Q:ScanMet→Shared→Prop} (hbc:c=!b) (h:wpAny (model prog w) A (setScanFrom a (.bool b) (hB b) true r (i+1)) Q E s):wpAny (model prog w) A (setScanFrom a (.bool b) (hB b) true ((hB c,.bool c) :: r) i) Q E s:=by
 subst hbc
 unfold setScanFrom
 cases b <;> exact h
theorem scan_end {a:Addr} {b:Bool} {i:Nat} {Q:ScanMet→Shared→Prop} (h:Q .absent s):wpAny (model prog w) A (setScanFrom a (.bool b) (hB b) true [] i) Q E s:=wpAny_pure h
theorem scan_set {led f t:Bool} {ep:Nat} {a:Addr} {b:Bool} {Q:ScanMet→Shared→Prop} (ho:s.heap.get? a=some (sbO led f t ep)) (h1:(inB b f t)=true→∀ i,Q (.found i) s) (h2:(inB b f t)=false→Q .absent s) :
  wpAny (model prog w) A (setScan a (.bool b) (hB b) true (sbE f t)) Q E s:=by
 show wpAny _ _ (setScanFrom a (.bool b) (hB b) true (sbE f t).toList 0) _ _ _
 cases b <;> cases f <;> cases t
 ·exact scan_end (h2 rfl)
 ·exact scan_skip (c:=true) rfl (scan_end (h2 rfl))
 ·exact scan_hit ho (h1 rfl _)
 ·exact scan_hit ho (h1 rfl _)
 ·exact scan_end (h2 rfl)
 ·exact scan_hit ho (h1 rfl _)
 ·exact scan_skip (c:=false) rfl (scan_end (h2 rfl))
 ·exact scan_skip (c:=false) rfl (scan_hit ho (h1 rfl _))
noncomputable def addF (b f:Bool):Bool:=match b with | true=>f | false=>true
noncomputable def addT (b t:Bool):Bool:=match b with | true=>true | false=>t
theorem lay_bool (led f t b:Bool) (h:(inB b f t)=false):layNew (sbT led f t) (sbE f t) (hB b) (.bool b)=(sbE (addF b f) (addT b t),sbT led (addF b f) (addT b t),false,false):=by
 cases b <;> cases f <;> cases t <;> first | (cases h;done) | (cases led <;> kernel_rfl)
theorem full_bool (led f t:Bool):(sbT led f t).tooFull=false:=by cases led <;> cases f <;> cases t <;> kernel_rfl
theorem byscan_bool (b f t:Bool):byScan (.bool b) (sbE f t)=true:=by cases b <;> cases f <;> cases t <;> decide +kernel
theorem put_bool (led f t:Bool) (ep:Nat) (f' t':Bool):Obj.putSet (sbE f' t') (sbT led f' t') (sbO led f t ep)=sbO led f' t' (ep+1):=rfl
theorem set_add {led f t:Bool} {ep:Nat} {a:Addr} {b:Bool} {Q:Value→Shared→Prop} (ho:s.heap.get? a=some (sbO led f t ep))
  (h:∀ h' ep',Heap.SameBut a s.heap h'→h'.get? a=some (sbO led (addF b f) (addT b t) ep')→Q .none {s with heap:=h',toks:=s.toks+1}):wpAny (model prog w) A (call (.builtin "set.add") [.ref a,.bool b]) Q E s:=by
 have hT:s.TypeIs (.ref a) "set":=⟨_,ho,rfl⟩
 refine wpAny_call_entry F.slot_set_add hT F.entry_set_add ?_ (F.args_set_add_2 _ _)
 unfold Builtin.«set.add» Builtin.Frozenset.oneOther
 simp only [List.isEmpty_nil,bind_assoc]
 unfold Builtin.Frozenset.addrOf setAdd
 refine wpAny_bind (wpAny_pure ?_)
 try dsimp only
 refine wpAny_bind (wpAny_pure ?_)
 try dsimp only
 refine wpAny_bind ?_
 refine wpAny_holding ?_
 refine wpAny_bind (pyHash_bool ?_)
 have ho':({s with toks:=s.toks+1}:Shared).heap.get? a=some (sbO led f t ep):=ho
 unfold setAddHashed setAddHashedIn
 refine wpAny_holding (wpAny_bind (state_set ho' ?_))
 dsimp only
 rw[byscan_bool b f t]
 simp only [↓reduceIte]
 unfold setAddByScan
 refine wpAny_bind ?_
 refine wpAny_bind (wpAny_rule ?_)
 refine wpAny_bind (scan_set ho' (fun hb i=>?_) fun hb=>?_)
 ·refine wpAny_pure (wpAny_pure ?_)
  show wpAny _ _ (ret Value.none) _ _ _
  refine wpAny_pure ⟨_,rfl,h s.heap ep (Heap.SameBut.refl ..) ?_⟩
  have:addF b f=f∧addT b t=t:=by cases b <;> simp_all [addF,addT,inB]
  rw[this.1,this.2];exact ho
 ·rw[lay_bool led f t b hb]
  refine wpAny_bind (wpAny_pure ?_)
  refine wpAny_bind (wpAny_pure ?_)
  show wpAny _ _ (storeSet a (sbE (addF b f) (addT b t)) (sbT led (addF b f) (addT b t)) >>= _) _ _ _
  refine wpAny_bind (wpAny_storeSet_of ho' rfl ?_ (by show (sbE _ _).size≤sizeLine;cases (addF b f) <;> cases (addT b t) <;> decide))
  simp only [↓reduceIte,full_bool,Bool.and_false,Bool.false_eq_true]
  refine wpAny_pure (wpAny_pure ?_)
  show wpAny _ _ (ret Value.none) _ _ _
  exact wpAny_pure ⟨_,rfl,h _ _ (Heap.SameBut.update ..) (Heap.get?_update_self _ ho (by rw[put_bool];rfl))⟩
theorem new_set {Q:Value→Shared→Prop} (h:Q (.ref s.heap.objs.size) {s with heap:=s.heap.push (sbO (!w.params.followText "set-order") false false 0)}):wpAny (model prog w) A (newSet (.type "set")) Q E s:=by
 unfold newSet setsByText
 refine wpAny_bind (wpAny_bind (wpAny_askSetting (wpAny_pure ?_)))
 simp only [newObj]
 exact wpAny_newObjAsIs_type h
end
end Mine.Internal
end
section
open PySem
namespace Mine.Internal
theorem pick1 {α:Type} (next:Nat→Nat) (x:α):pickOrder next #[x]=#[x]:=by
 have h:[x][next 0 % [x].length]?=some x:=by rw[show [x].length=1 from rfl,Nat.mod_one];rfl
 unfold pickOrder
 show pickOrder.go next 1 0 [x] #[]=_
 unfold pickOrder.go
 rw[h]
 show pickOrder.go next 0 1 _ _=_
 unfold pickOrder.go
 rfl
theorem pick2 {α:Type} (next:Nat→Nat) (x y:α):pickOrder next #[x,y]=#[x,y]∨pickOrder next #[x,y]=#[y,x]:=by
 unfold pickOrder
 show pickOrder.go next 2 0 [x,y] #[]=_∨pickOrder.go next 2 0 [x,y] #[]=_
 have one:∀ (a b:α),pickOrder.go next 1 1 [b] #[a]=#[a,b]:=fun a b=>by
  have h:[b][next 1 % [b].length]?=some b:=by rw[show [b].length=1 from rfl,Nat.mod_one];rfl
  unfold pickOrder.go
  rw[h]
  show pickOrder.go next 0 2 _ _=_
  unfold pickOrder.go
  rfl
 rcases Nat.mod_two_eq_zero_or_one (next 0) with h | h
 ·left
  unfold pickOrder.go
  rw[show [x,y].length=2 from rfl,h]
  exact one x y
 ·right
  unfold pickOrder.go
  rw[show [x,y].length=2 from rfl,h]
  exact one y x
noncomputable def siO (slot i:Nat) (a:Addr) (n ep:Nat):Obj:={cls:=.type "set_iterator",data:=.fields #[.int slot 0,.int i 0,.ref a,.int n 0,.int ep 0]}
section
variable {prog:Program} {w:World} {A:Around} {E:Value→Shared→Prop} {s:Shared}
theorem entry_set_iter':entryFor table "set.__iter__"=some Builtin.«frozenset.__iter__» :=
 entryFor_alias (id' := "frozenset.__iter__") (by rw[fastTable_eq_tree];kernel_rfl) rfl (by decide +kernel) (by rw[fastTable_eq_tree];kernel_rfl)
theorem slot_si_next:Slot "set_iterator" "__next__" "set_iterator.__next__":=.of (owner := "set_iterator") (n := "__next__") (by rw[typeLookup_type,builtinLookup_eq_fast];kernel_rfl) (by decide +kernel) (by decide +kernel) (by decide +kernel)
  (by first | exact .inl (by decide +kernel) | exact .inr (by decide +kernel)) (by rw[isSubtype_type];kernel_rfl)
theorem entry_si_next:entryFor table "set_iterator.__next__"=some Builtin.«set_iterator.__next__»:=entryFor_of_tree (by kernel_rfl)
theorem args_si_next (a:Value):argsOk "set_iterator.__next__" ⟨[a],[]⟩:=by unfold argsOk;kernel_rfl
theorem iter_set {led f t:Bool} {ep:Nat} {a:Addr} {Q:Value→Shared→Prop} (ho:s.heap.get? a=some (sbO led f t ep))
  (h:Q (.ref s.heap.objs.size) {s with heap:=s.heap.push (siO 0 0 a (sbE f t).size ep)}):wpAny (model prog w) A (pyIter (.ref a)) Q E s:=by
 have hT:s.TypeIs (.ref a) "set":=⟨_,ho,rfl⟩
 refine wpAny_pyIter_slot hT F.slot_set_iter (wpAny_call_entry F.slot_set_iter hT entry_set_iter' ?_ (F.args_set_iter_1 _))
 unfold Builtin.«frozenset.__iter__» Builtin.Frozenset.slot0 slotArgs
 simp only [List.isEmpty_nil,Bool.not_true,Bool.false_eq_true,↓reduceIte,bind_assoc,List.length_nil,bne_self_eq_false]
 unfold Builtin.Frozenset.addrOf Builtin.Frozenset.sizeOf
 refine wpAny_bind (wpAny_pure ?_)
 try dsimp only
 refine wpAny_bind (wpAny_pure ?_)
 refine wpAny_bind (wpAny_bind ?_)
 unfold setEntries
 refine wpAny_bind (state_set ho (wpAny_pure (wpAny_pure ?_)))
 unfold setDrawn setsByText
 refine wpAny_bind (wpAny_bind (state_set ho ?_))
 refine wpAny_bind (wpAny_bind (wpAny_askSetting (wpAny_pure (wpAny_pure ?_))))
 have hd:∀ b:Bool,(!b && (!(sbT led f t).plain && decide ((sbE f t).size>1)))=false:=fun b=>by cases b <;> rfl
 split
 ·rename_i hq
  exact absurd (hq.symm.trans (hd _)) (by decide)
 refine wpAny_bind (wpAny_pure ?_)
 refine wpAny_bind (epoch_set ho ?_)
 unfold newFields
 refine wpAny_bind (wpAny_newObj_type (wpAny_pure ⟨_,rfl, "set_iterator",_,⟨_,Heap.get?_push_size _ rfl,rfl⟩,slot_si_next.lookup,h⟩))
end
end Mine.Internal
end
section
open PySem
namespace Mine.Internal
noncomputable def nxtB (bt:Bool) (ord:Nat→Nat) (f t:Bool) (slot i:Nat):Option (Value×Nat):=match bt with
 | true=>((pickOrder ord (sbE f t))[i]?).map fun e=>(e.2,slot)
 | false=>match (sbE f t)[SetTable.below (sbP f t) slot]?,(sbP f t)[SetTable.below (sbP f t) slot]? with
  | some (_,x),some j=>some (x,j+1)
  | _,_=>none
section
variable {prog:Program} {w:World} {A:Around} {E:Value→Shared→Prop} {s:Shared}
theorem setNext_eq {led f t:Bool} {ep slot i:Nat} {a:Addr} {Q:Option (Value×Nat)→Shared→Prop} (hl:led=!w.params.followText "set-order") (ho:s.heap.get? a=some (sbO led f t ep))
  (h:Q (nxtB (w.params.followText "set-order") (w.params.setOrder a ep) f t slot i) s):wpAny (model prog w) A (setNext a slot i ep) Q E s:=by
 unfold setNext setsByText
 refine wpAny_bind (state_set ho ?_)
 refine wpAny_bind (wpAny_bind (wpAny_askSetting (wpAny_pure ?_)))
 cases hb:w.params.followText "set-order" with
 | true =>
  rw[hb] at h
  rw[if_pos (by exact hb)]
  rw[if_neg (by simp)]
  unfold setWalk setsByText
  refine wpAny_bind (wpAny_bind (state_set ho ?_))
  refine wpAny_bind (wpAny_bind (wpAny_askSetting (wpAny_pure ?_)))
  rw[if_pos (by exact hb)]
  refine wpAny_bind (wpAny_askSetting (wpAny_pure (wpAny_pure h)))
 | false =>
  rw[hb] at h hl
  rw[if_neg (by rw[show (model prog w).w.params.followText "set-order"=false from hb];exact Bool.false_ne_true)]
  split
  ·rename_i hq
   have hd:(!(sbT led f t).plain && decide ((sbE f t).size>1))=false:=rfl
   exact absurd (hq.symm.trans hd) (by decide)
  ·subst hl
   refine wpAny_bind (wpAny_pure ?_)
   exact wpAny_pure h
theorem si_next_body {led f t:Bool} {ep slot i:Nat} {a it:Addr} {Q:PySem.Fin→Shared→Prop} (hl:led=!w.params.followText "set-order") (ho:s.heap.get? a=some (sbO led f t ep)) (hi:s.heap.get? it=some (siO slot i a (sbE f t).size ep))
  (h:wpAny (model prog w) A (match nxtB (w.params.followText "set-order") (w.params.setOrder a ep) f t slot i with
   | some (x,next)=>do setField (.ref it) 0 (rawInt next);setField (.ref it) 1 (rawInt ((i:Int)+1));ret x
   | none=>do setField (.ref it) 2 .none;raiseNew (← newExc (.type "StopIteration") [])) Q E s):wpAny (model prog w) A (Builtin.«set_iterator.__next__» ⟨[.ref it],[]⟩) Q E s:=by
 refine wpAny_bind (wpAny_of_eq (a:=(Value.ref it,[])) rfl ?_)
 refine wpAny_bind (wpAny_fieldsOf hi rfl ?_)
 dsimp only
 unfold setEntries
 refine wpAny_bind (wpAny_bind (state_set ho (wpAny_pure ?_)))
 rw[if_neg (by simp)]
 refine wpAny_bind (setNext_eq hl ho ?_)
 exact h
theorem pyNext_set_item {led f t:Bool} {ep slot i nx:Nat} {a it:Addr} {x:Value} {Q:Option Value→Shared→Prop} (hl:led=!w.params.followText "set-order") (ho:s.heap.get? a=some (sbO led f t ep)) (hi:s.heap.get? it=some (siO slot i a (sbE f t).size ep))
  (hx:nxtB (w.params.followText "set-order") (w.params.setOrder a ep) f t slot i=some (x,nx)) (hQ:∀ h',h'.get? it=some (siO nx (i+1) a (sbE f t).size ep)→Heap.SameBut it s.heap h'→Q (some x) {s with heap:=h'}) :
  wpAny (model prog w) A (pyNext (.ref it)) Q E s:=by
 have hT:s.TypeIs (.ref it) "set_iterator":=⟨_,hi,rfl⟩
 unfold pyNext
 refine wpAny_bind (wpAny_attempt (wpAny_callSpecial?_slot (name:=Str.ofString "__next__") hT slot_si_next
  (wpAny_call_entry slot_si_next hT entry_si_next (si_next_body hl ho hi ?_) (args_si_next _))))
 rw[hx]
 refine wpAny_bind (wpAny_setField hi rfl (by simp) ?_)
 have h1:=Heap.get?_update_self (Obj.mapFields (·.setIfInBounds 0 (rawInt nx))) hi rfl
 refine wpAny_bind (wpAny_setField h1 rfl (by simp [siO]) (wpAny_pure ⟨x,rfl,wpAny_pure (hQ _ ?_ ((Heap.SameBut.update ..).trans (Heap.SameBut.update ..)))⟩))
 rw[Heap.get?_update_self _ h1 rfl]
 rfl
theorem pyNext_set_end {led f t:Bool} {ep slot i:Nat} {a it:Addr} {Q:Option Value→Shared→Prop} (hh:A.handled=none) (hl:led=!w.params.followText "set-order") (ho:s.heap.get? a=some (sbO led f t ep)) (hi:s.heap.get? it=some (siO slot i a (sbE f t).size ep))
  (hx:nxtB (w.params.followText "set-order") (w.params.setOrder a ep) f t slot i=none) (hQ:∀ h',Heap.ExtBut it s.heap h'→Q none {s with heap:=h'}) :
  wpAny (model prog w) A (pyNext (.ref it)) Q E s:=by
 have hT:s.TypeIs (.ref it) "set_iterator":=⟨_,hi,rfl⟩
 unfold pyNext
 refine wpAny_bind (wpAny_attempt (wpAny_callSpecial?_slot (name:=Str.ofString "__next__") hT slot_si_next
  (wpAny_call_entry slot_si_next hT entry_si_next (si_next_body hl ho hi ?_) (args_si_next _))))
 rw[hx]
 refine wpAny_bind (wpAny_setField hi rfl (by simp) ?_)
 show wpAny _ _ (newExc (.type "StopIteration") [] >>= _) _ _ _
 refine wpAny_bind ?_
 simp only [newExc,newTuple]
 refine wpAny_bind (wpAny_newObj_type ?_ (by size_fits))
 refine wpAny_bind (m:=firstArgMember _ _) (wpAny_of_eq (a:=Value.none) (by first | rfl | (simp only [firstArgMember];rfl)) ?_)
 refine wpAny_newObj_type ?_ (by size_fits)
 unfold raiseNew
 refine wpAny_bind (wpAny_handled ?_)
 first | rw[show A.in1.handled=none from hh] | rw[hh]
 refine wpAny_bind (wpAny_pure (wpAny_throw ?_))
 refine wpAny_bind (wpAny_isInstance (T := "StopIteration") (b:=true) ⟨_,Heap.get?_push_size _ rfl,rfl⟩ isSubtype_stop ?_)
 exact wpAny_pure (hQ _ (((Heap.SameBut.update ..).extBut.push _).push _))
noncomputable def oneB (f t:Bool):Option Bool:=match f,t with | true,false=>some false | false,true=>some true | _,_=>none
theorem nxt_one {bt f t b:Bool} {ord:Nat→Nat} (h:oneB f t=some b):∃ nx,nxtB bt ord f t 0 0=some (.bool b,nx)∧nxtB bt ord f t nx 1=none:=by
 cases f <;> cases t <;> cases h <;> cases bt
 ·exact ⟨2,rfl,rfl⟩
 ·refine ⟨0,?_,?_⟩ <;> (unfold nxtB;dsimp only [sbE];rw[pick1];rfl)
 ·exact ⟨1,rfl,rfl⟩
 ·refine ⟨0,?_,?_⟩ <;> (unfold nxtB;dsimp only [sbE];rw[pick1];rfl)
theorem nxt_two {bt:Bool} {ord:Nat→Nat}:∃ x nx y ny,nxtB bt ord true true 0 0=some (x,nx)∧nxtB bt ord true true nx 1=some (y,ny):=by
 cases bt
 ·exact ⟨_,1,_,2,rfl,rfl⟩
 ·rcases pick2 ord ((0,.bool false):Int×Value) (1,.bool true) with h | h
  ·refine ⟨.bool false,0,.bool true,0,?_,?_⟩ <;> (unfold nxtB;dsimp only [sbE];rw[h];rfl)
  ·refine ⟨.bool true,0,.bool false,0,?_,?_⟩ <;> (unfold nxtB;dsimp only [sbE];rw[h];rfl)
theorem unpack_one {led f t b:Bool} {ep:Nat} {a:Addr} {Q:List Value→Shared→Prop} (hh:A.handled=none) (hl:led=!w.params.followText "set-order") (ho:s.heap.get? a=some (sbO led f t ep)) (hb:oneB f t=some b)
  (hQ:∀ h',(∀ b o,s.heap.get? b=some o→h'.get? b=some o)→Q [.bool b] {s with heap:=h'}):wpAny (model prog w) A (unpackItems (.ref a) 1 none) Q E s:=by
 have hT:s.TypeIs (.ref a) "set":=⟨_,ho,rfl⟩
 have hne:s.heap.objs.size≠a:=Nat.ne_of_gt (Heap.lt_size ho)
 obtain ⟨nx,h1,h2⟩:=nxt_one (bt:=w.params.followText "set-order") (ord:=w.params.setOrder a ep) hb
 unfold unpackItems
 refine wpAny_bind ?_
 unfold notIterableAtAll
 refine wpAny_bind (wpAny_specialOf hT F.slot_set_iter.lookup ?_)
 refine wpAny_pure ?_
 simp only [Bool.false_eq_true,if_false]
 refine wpAny_bind (wpAny_holding (iter_set ho ?_))
 have ho₁:(s.heap.push (siO 0 0 a (sbE f t).size ep)).get? a=some (sbO led f t ep):=Heap.get?_push_of_some _ ho
 refine wpAny_bind (wpAny_holding ?_)
 show wpAny _ _ (pyNext (.ref s.heap.objs.size) >>= _) _ _ _
 refine wpAny_bind (pyNext_set_item hl ho₁ (Heap.get?_push_size _ rfl) h1 fun h' hi' hs'=>?_)
 have ho₂:h'.get? a=some (sbO led f t ep):=(hs'.2 a (Ne.symm hne)).trans ho₁
 refine wpAny_bind (wpAny_holding (wpAny_pure (wpAny_pure ?_)))
 rw[if_neg (by simp)]
 refine wpAny_bind (wpAny_holding (pyNext_set_end hh hl ho₂ hi' h2 fun h'' he=>?_))
 simp only [Option.isSome_none,Bool.false_eq_true,if_false]
 exact wpAny_pure (hQ h'' fun b o e=>he b o (Nat.ne_of_lt (Heap.lt_size e)) (hs'.extBut b o (Nat.ne_of_lt (Heap.lt_size e)) (Heap.get?_push_of_some _ e)))
theorem unpack_two {led:Bool} {ep:Nat} {a:Addr} {Q:List Value→Shared→Prop} (hh:A.handled=none) (hl:led=!w.params.followText "set-order") (ho:s.heap.get? a=some (sbO led true true ep))
  (hE:∀ h' tk e,Heap.NewExc s.heap h' e "ValueError"→E (.ref e) {s with heap:=h',toks:=tk}):wpAny (model prog w) A (unpackItems (.ref a) 1 none) Q E s:=by
 have hT:s.TypeIs (.ref a) "set":=⟨_,ho,rfl⟩
 have hne:s.heap.objs.size≠a:=Nat.ne_of_gt (Heap.lt_size ho)
 obtain ⟨x,nx,y,ny,h1,h2⟩:=nxt_two (bt:=w.params.followText "set-order") (ord:=w.params.setOrder a ep)
 unfold unpackItems
 refine wpAny_bind ?_
 unfold notIterableAtAll
 refine wpAny_bind (wpAny_specialOf hT F.slot_set_iter.lookup ?_)
 refine wpAny_pure ?_
 simp only [Bool.false_eq_true,if_false]
 refine wpAny_bind (wpAny_holding (iter_set ho ?_))
 have ho₁:(s.heap.push (siO 0 0 a (sbE true true).size ep)).get? a=some (sbO led true true ep):=Heap.get?_push_of_some _ ho
 refine wpAny_bind (wpAny_holding ?_)
 show wpAny _ _ (pyNext (.ref s.heap.objs.size) >>= _) _ _ _
 refine wpAny_bind (pyNext_set_item hl ho₁ (Heap.get?_push_size _ rfl) h1 fun h' hi' hs'=>?_)
 have ho₂:h'.get? a=some (sbO led true true ep):=(hs'.2 a (Ne.symm hne)).trans ho₁
 refine wpAny_bind (wpAny_holding (wpAny_pure (wpAny_pure ?_)))
 rw[if_neg (by simp)]
 refine wpAny_bind (wpAny_holding (pyNext_set_item hl ho₂ hi' h2 fun h'' hi'' hs''=>?_))
 simp only [Option.isSome_some,if_true]
 refine wpAny_bind (wpAny_rule (wpAny_bind (wpAny_raiseErrorMade plainExc_ValueError hh (fun h₃ tk e m=>hE h₃ tk e ⟨fun b o hb=>m.keeps b o ?_,?_,m.there⟩) ?_)))
 ·have:=Heap.lt_size hb
  exact hs''.extBut b o (Nat.ne_of_lt this) (hs'.extBut b o (Nat.ne_of_lt this) (Heap.get?_push_of_some _ hb))
 ·have hn:=m.new
  cases hg:s.heap.get? e with
  | none=>rfl
  | some ob =>
   have:=Heap.lt_size hg
   rw[hs''.extBut e ob (Nat.ne_of_lt this) (hs'.extBut e ob (Nat.ne_of_lt this) (Heap.get?_push_of_some _ hg))] at hn
   cases hn
 ·decide +kernel
end
end Mine.Internal
end
section
open PySem PySem.W PyProof.Rows
namespace Mine.Internal
section
variable {prog:Program} {w:World} {A:Around} {E:Value→Shared→Prop} {s:Shared}
theorem entry_unchain:entryFor table "proto.unchain"=some Builtin.«proto.unchain»:=entryFor_of_tree (by kernel_rfl)
theorem plain_unchain:plainId "proto.unchain"=true:=by decide +kernel
theorem raiseNew_in {e1 e:Addr} {α:Type} {ob:Obj} {vs:Array Value} {Q:α→Shared→Prop} (hh:A.handled=some (.ref e1)) (hne:e1≠e) (h1:E2 s.heap e1 .none) (ho:s.heap.get? e=some ob) (hd:ob.data=.fields vs) (hz:2<vs.size)
  (h:E (.ref e) {s with heap:=s.heap.update e (Obj.mapFields (·.setIfInBounds 2 (.ref e1)))}):wpAny (model prog w) A (raiseNew (.ref e):Sem α) Q E s:=by
 obtain ⟨o1,v1,q1,q2,q3⟩:=h1
 unfold raiseNew
 refine wpAny_bind (wpAny_handled ?_)
 rw[hh]
 dsimp only
 rw[if_pos (by simp [hne])]
 refine wpAny_bind (wpAny_holding (wpAny_runValue (codeAny_builtin entry_unchain ?_)))
 rw[Around.under_plainId plain_unchain _]
 show wpAny _ A.in1 (field (.ref e1) 2 >>= _) _ _ s
 refine wpAny_bind (wpAny_field q1 q2 q3 ?_)
 rw[if_pos (by rfl)]
 refine wpAny_bind (wpAny_pure (wpAny_pure ?_))
 show wpAny _ A (updateField e 2 (.ref e1) >>= _) _ _ s
 simp only [updateField]
 refine wpAny_bind (wpAny_bind (wpAny_load ho ?_))
 rw[hd]
 show wpAny _ A (if 2<vs.size then _ else _) _ _ s
 rw[if_pos hz]
 exact wpAny_update ho (wpAny_throw h)
theorem raise_none {cls:String} (F:ExcRaiseFacts cls) {env:Env} {x c:Sem Value} {e1:Addr} {Q:Flow→Shared→Prop} (hh:A.handled=some (.ref e1))
  (h:wpAny (model prog w) A x (fun v s₁=>∃ e t,v=.ref e∧e1≠e∧E2 s₁.heap e1 .none∧s₁.heap.get? e=some {cls:=.type cls,data:=.fields #[.ref t,.none,.none,.none,.bool false,.none]}∧wpAny (model prog w) A c (fun cv s₂=>cv=.none∧s₂=s₁) E s₁ ∧
   ∀ h',Heap.SameBut e s₁.heap h'→h'.get? e=some {cls:=.type cls,data:=.fields #[.ref t,.none,.ref e1,.none,.bool true,.none]}→E (.ref e) {s₁ with heap:=h'}) E s):wpAny (model prog w) A (raiseStmt env (some x) (some c)) Q E s:=by
 unfold raiseStmt
 refine wpAny_bind (wpAny_mono h (fun v s₁ h₁=>?_) fun _ _ x=>x)
 obtain ⟨e,t,rfl,hne,hc2,he,hc,hE⟩:=h₁
 refine wpAny_bind (wpAny_holding (wpAny_mono hc (fun cv s₂ h₂=>?_) fun _ _ x=>x))
 obtain ⟨rfl,rfl⟩:=h₂
 refine wpAny_bind (wpAny_pure ?_)
 obtain ⟨hp,g,d,tk,os⟩:=s₂
 have hsub:=F.isExc
 have hmeta:=F.plainMeta
 repeat (first | refine wpAny_loadPart he ?_ | wp_step)
 have h3:=Heap.get?_update_self (Obj.mapFields (·.setIfInBounds 3 Value.none)) he rfl
 have h4:=Heap.get?_update_self (Obj.mapFields (·.setIfInBounds 4 (.bool true))) h3 rfl
 have ne1:∀ {h:Heap} {f:Obj→Obj},(h.update e f).get? e1=h.get? e1:=fun {h f}=>Heap.get?_update_ne _ _ _ _ hne
 refine raiseNew_in hh hne ?_ h4 rfl (by simp) (hE _ (((Heap.SameBut.update ..).trans (Heap.SameBut.update ..)).trans (Heap.SameBut.update ..)) ?_)
 ·obtain ⟨o1,v1,q1,q2,q3⟩:=hc2
  exact ⟨o1,v1,ne1.trans (ne1.trans q1),q2,q3⟩
 ·rw[Heap.get?_update_self _ h4 rfl];rfl
end
section
variable (T:TopT) (w:World)
inductive OutXN (env:Env) (K:Kt) (s:Shared) (X:XLPost) (ev:Value) (s':Shared):Prop
 | mk (e:Addr) (cls:String) (K':Kt) (H:List Addr) (loc':List (Str×D)) (objs':List AO) (h:ev=.ref e) (x:ExS T (own env) K s K' H objs' cls e s') (F:Frm T (K'.hide H) env loc' s') (n:E2 s'.heap e .none) (q:X cls loc' objs')
def EvSXN (n:Nat) (env:Env) (st:Stmt) (loc:List (Str×D)) (objs:List AO) (Q:Fl→List (Str×D)→List AO→Prop) (X:XLPost):Prop :=
 ∀ (A:Around) (s:Shared) (K:Kt),Room T A n→Tr T K objs s→Frm T K env loc s→wpAny (model pw w) A (exec st env) (OutS T K env s Q) (OutXN T env K s X) s
end
section
variable {T:TopT} {w:World} {n:Nat} {env:Env} {loc:List (Str×D)} {objs:List AO} {Q:Fl→List (Str×D)→List AO→Prop} {X:XLPost}
theorem exc_newE {W:List Addr} {K:Kt} {s s':Shared} {h':Heap} {e:Addr} {cls:String} {tk:Nat} (Xt:Tr T K objs s) (m:Heap.NewExc s.heap h' e cls) (d:Dead s.heap h') (hs:s'={s with heap:=h',toks:=tk}) (ht:0<tk) :
  ExS T W K s K [e] objs cls e s'∧E2 s'.heap e .none:=by
 subst hs
 obtain ⟨ob,t,m1,m2,m3⟩:=m.there
 have hn:=d.new m.new m1
 have P:Pres [] s {s with heap:=h',toks:=tk}:=⟨fun b o e _=>m.keeps b o e,d.1,rfl,id⟩
 refine ⟨⟨Xt.hide P (fun a ha=>?_) ht,P.soft.wider (fun a ha=>by cases ha),.refl _ _,fun a ha=>by rw[List.mem_singleton.mp ha];exact hn,fun a ha=>by rw[List.mem_singleton.mp ha];exact Nat.le_trans Xt.top.size hn,.head _,_,_,m1,m2,m3,by show 5≤6;lia,.inl rfl⟩,_,_,m1,m3,rfl⟩
 rw[List.mem_singleton.mp ha]
 exact ⟨hn,Heap.lt_size m1⟩
noncomputable def hasB (b:Bool) (res:List D):Bool:=res.any fun d=>match d with | .bool c=>c==b | _=>false
def AccS (led:Bool) (Dd:Addr) (res:List D) (K:Kt) (s:Shared):Prop:=∃ ep,s.heap.get? Dd=some (sbO led (hasB false res) (hasB true res) ep)
theorem accS_ok (led:Bool) (Dd:Addr):AccOk Dd (AccS led Dd):=⟨fun ⟨ep,h1⟩ mv ke=>⟨ep,ke _ h1 rfl⟩,fun ⟨ep,h1⟩=>⟨_,h1,rfl⟩⟩
theorem hasB_snoc (b c:Bool) (res:List D):hasB b (res++[.bool c])=(hasB b res || (c==b)):=by simp [hasB]
theorem ec_add {elt:PySem.Expr} {led:Bool} {Dd:Addr} {res:List D} {Q:List AO→List D→Prop} (h:EvE T w n env elt loc objs fun d o=>∃ b,d=.bool b∧Q o (res++[.bool b])):EvC T w n env Dd (AccS led Dd) (actAdd elt (.ref Dd) env) loc objs res Q:=fun A s K R X F hD ac=>by
 unfold actAdd
 refine wpAny_bind (wE (h A s K R X F) fun y s₇ hh=>?_)
 obtain ⟨K₇,dy,o₇,P₇,ry,b,rfl,q⟩:=hh
 obtain rfl:=ry.inv
 obtain ⟨ep,hl⟩:=ac
 have hD7:AccIn T K₇ env Dd:=hD.mono P₇.grows.hid
 have hl₇:=P₇.pres.keep Dd _ hl (hid_adrs X hD) (icy_hard rfl)
 refine wpAny_bind (wpAny_standAt (wpAny_bind (set_add hl₇ fun h' ep' hs hg=>?_)))
 obtain ⟨X₈,P8,mv78⟩:=P₇.tr.hidext hD7.hid hD7.low hl₇ (fun es n e=>by cases e) hs.extBut (by rw[hs.1];exact Nat.le_refl _)
 have X₉:Tr T K₇ o₇ {s₇ with heap:=h',toks:=s₇.toks+1}:=X₈.other rfl X₈.gens (Nat.succ_pos _)
 have P9:Pres [Dd] s₇ {s₇ with heap:=h',toks:=s₇.toks+1}:=⟨P8.keep,P8.size,rfl,id⟩
 refine wpAny_pure ⟨K₇,o₇,res++[.bool b],X₉,(P₇.pres.wider fun a h=>List.mem_append_right _ h).trans P9.soft fun a h=>.inl (by rw[List.mem_singleton.mp h];exact List.mem_append_left _ (.head _)),⟨P₇.grows.ext,P₇.grows.fresh,P₇.grows.hid⟩,
  (F.post P₇).map (s':={s₇ with heap:=h',toks:=s₇.toks+1}) mv78 (fun b o e hb=>⟨o,P8.keep b o e fun q=>hD.own (by rw[← List.mem_singleton.mp q];exact hb),rfl⟩) (F.post P₇).out P8.size,⟨ep',?_⟩,q⟩
 rw[hasB_snoc,hasB_snoc]
 show h'.get? Dd=_
 rw[hg]
 have e1:∀ x,addF b x=(x || (b==false)):=fun x=>by cases b <;> cases x <;> rfl
 have e2:∀ x,addT b x=(x || (b==true)):=fun x=>by cases b <;> cases x <;> rfl
 rw[e1,e2]
inductive SetQ (T:TopT) (w:World) (n:Nat) (env:Env) (scope:Scope) (cl:List (Str×Addr)) (target elt:PySem.Expr) (ifs:List PySem.Expr) (locC:List (Str×D)) (d:D) (o:List AO) (Q:Bool→List AO→Prop) (X:List AO→Prop):Prop
 | mk (ds:List D) (ok:List AO→Prop) (Inv:Nat→List AO→List D→Prop) (it:IterG T w n target d o ok ds) (hok:ok o) (h0:Inv 0 o []) (turn:∀ C Dd,TurnOk T w n (compEnvC scope cl C env) Dd (AccS (!w.params.followText "set-order") Dd) target ifs (actAdd elt (.ref Dd) (compEnvC scope cl C env)) locC ds ok Inv) (fin :
  ∀ res o',Inv ds.length o' res→(hasB false res=true→hasB true res=true→X o')∧(∀ b,(∀ c,hasB c res=(c==b))→Q b o')∧(hasB false res=false→hasB true res=false→False))
@[reducible] def kSetB (y:Str) (loc:List (Str×D)) (Q:Fl→List (Str×D)→List AO→Prop) (b:Bool) (o:List AO):Prop:=Q .next ((y,.bool b) :: loc) o
@[reducible] def kSetX (X:XLPost) (loc:List (Str×D)) (o:List AO):Prop:=X "ValueError" loc o
@[reducible] def kSet (T:TopT) (w:World) (n:Nat) (env:Env) (scope:Scope) (cl:List (Str×Addr)) (target elt:PySem.Expr) (ifs:List PySem.Expr) (locC:List (Str×D)) (Q:Bool→List AO→Prop) (X:List AO→Prop) (d:D) (o:List AO):Prop:=SetQ T w n env scope cl target elt ifs locC d o Q X
theorem sx_set1 {y:Str} {py tp spos pos:Pos} {k:Nat} {elt target iter:PySem.Expr} {ifs:List PySem.Expr} {scope:Scope} {cl:List (Str×Addr)} {locC:List (Str×D)} (ck:CompOk env scope cl loc locC)
  (hs1:swapsWithSole [.Tuple [.Name y py] k tp] (.SetComp elt [⟨target,iter,ifs,0⟩] scope pos) spos.line env=pure false) (hw:swappedStores [.Tuple [.Name y py] k tp] (.SetComp elt [⟨target,iter,ifs,0⟩] scope pos) env=pure none) (hy:LoC env y)
  (hs:∀ x,foldedSetIterable iter env x=pure x) (h:EvE T w n env iter loc objs (kSet T w n env scope cl target elt ifs locC (kSetB y loc Q) (kSetX X loc))) :
  EvSXN T w n env (.Assign [.Tuple [.Name y py] k tp] (.SetComp elt [⟨target,iter,ifs,0⟩] scope pos) spos) loc objs Q X:=fun A s K R Xt Fm=>by
 refine Assign_Tuple (wX (P:=fun v s₁=>∃ Dd K₁ o₁ ep f t,v=.ref Dd∧Post T K s K₁ o₁ s₁∧s₁.heap.get? Dd=some (sbO (!w.params.followText "set-order") f t ep)∧match f,t with | true,true=>X "ValueError" loc o₁ | true,false=>Q .next ((y,.bool false) :: loc) o₁ | false,true=>Q .next ((y,.bool true) :: loc) o₁ | false,false=>False) ?_ fun v s₁ hh=>?_) hs1 hw
 ·rw[arm_eval_SetComp]
  show wpAny _ A (comprehension (.SetComp elt [⟨target,iter,ifs,0⟩] scope pos) scope env _ (newSet (.type "set")) false (eval iter env)) _ _ s
  refine wpAny_comprehension_free (use:=none) rfl hs ck.clos ck.kind ck.names (wE (h A s K R Xt Fm) fun v s₁ hh=>?_)
  obtain ⟨K₁,d,o₁,p₁,r₁,ds,ok,Inv,it,hok,h0,turn,hfin⟩:=hh
  refine comp_coreG (RR:=fun acc C=>compPost (model pw w) A noE none _ acc C) (Acc:=AccS (!w.params.followText "set-order")) ck (fun A s Q h=>new_set h) rfl (fun Dd K s e=>⟨0,e⟩) (accS_ok _) (fun C Dd=>cla_set (turn_s1 _ _ _ _ _ _ _ _)) (fun C Dd=>cst_set rfl) R p₁.tr (Fm.post p₁) r₁ it hok h0 turn fun Dd C K'' K' o res s' m X' P' G' ac' mv' hDo hC hCs hCa inv'=>⟨m,hC,fun h' hs'=>?_⟩
  obtain ⟨X2,P2,mv⟩:=let_go X' P' hC hCs hCa p₁.tr.top.size (fun q=>absurd (p₁.tr.fs_at q).1.lt (Nat.not_lt.mpr hCs)) hs'
  obtain ⟨ep,hg⟩:=ac'
  refine ⟨Dd,K',o,ep,_,_,rfl,p₁.trans ⟨X2,P2,⟨G'.ext,G'.fresh,G'.hid⟩⟩,(mv.ice Dd _ hg hDo rfl).1,?_⟩
  obtain ⟨k1,k2,k3⟩:=hfin res o inv'
  cases hf:hasB false res <;> cases ht:hasB true res
  ·exact k3 hf ht
  ·exact k2 true fun c=>by cases c <;> simp [hf,ht]
  ·exact k2 false fun c=>by cases c <;> simp [hf,ht]
  ·exact k1 hf ht
 ·obtain ⟨Dd,K₁,o₁,ep,f,t,rfl,P₁,hg,q⟩:=hh
  have F₁:=Fm.post P₁
  have one:∀ b,oneB f t=some b→Q .next ((y,.bool b) :: loc) o₁→wpAny (model pw w) A (assign (.Tuple [.Name y py] k tp) env (.ref Dd)) (fun _=>OutS T K env s Q .next) (OutXN T env K s X) s₁:=fun b hb q=>by
   rw[arm_assign_Tuple]
   refine wpAny_bind (wpAny_standAt ?_)
   unfold unpack
   refine wpAny_bind (wpAny_holding (wX (wpAny_up (Q:=fun vs s₂=>vs=[.bool b]∧Post T K₁ s₁ K₁ o₁ s₂) (unpack_one R.hnd rfl hg hb fun h' ke _ hz=>⟨rfl,.keeps P₁.tr ke hz id rfl P₁.tr.toks⟩)) fun vs s₂ hv=>?_))
   obtain ⟨rfl,P₂⟩:=hv
   refine wX (assign_names [(y,py)] [.bool b] loc [.bool b] s₂ rfl (fun x hx=>by rw[List.mem_singleton.mp hx];exact hy) P₂.tr (F₁.post P₂) (.cons (.bool _) .nil)) fun _ s₃ hh=>?_
   obtain ⟨P₃,F₃⟩:=hh
   exact ⟨K₁,.next,_,o₁,(P₁.trans P₂).toL.trans P₃,F₃,.next,q⟩
  cases f <;> cases t
  ·exact q.elim
  ·exact one _ rfl q
  ·exact one _ rfl q
  ·rw[arm_assign_Tuple]
   refine wpAny_bind (wpAny_standAt ?_)
   unfold unpack
   have e0:wpAny (model pw w) A (unpackItems (.ref Dd) 1 none) (fun _ _=>False) (fun ev s₂=>∃ h' tk e,Heap.NewExc s₁.heap h' e "ValueError"∧ev=.ref e∧s₂={s₁ with heap:=h',toks:=tk}) s₁:=unpack_two R.hnd rfl hg fun h' tk e m=>⟨h',tk,e,m,rfl,rfl⟩
   refine wpAny_bind (wpAny_holding (wpAny_mono (wpAny_toks_of P₁.tr.toks (wpAny_dead_of e0)) (fun _ _ x=>x.2.2.elim) fun ev s₂ hh=>?_))
   obtain ⟨ht,d,h',tk,e,m,rfl,rfl⟩:=hh
   obtain ⟨x,n2⟩:=exc_newE (W:=[]) P₁.tr m d rfl ht
   exact ⟨e, "ValueError",K₁,[e],loc,o₁,rfl,(x.widerW (W':=own env) fun a ha=>by cases ha).behind (P₁.toL) (fun a ha=>ha),x.frame F₁,n2,q⟩
end
section
variable {T:TopT} {w:World} {n:Nat} {env:Env} {loc:List (Str×D)} {objs:List AO} {Q:Fl→List (Str×D)→List AO→Prop} {X:XLPost}
theorem raise_from {cls newId initId:String} (EF:ExcCallFacts cls newId initId) (G:ExcRaiseFacts cls) {x msg:Str} {np cpos pos p' p2:Pos} {k k2:Nat} {A:Around} {s:Shared} {K:Kt} {e1:Addr} (hl:env.scope.names.lookup x=some .globalImplicit) (hx:lkV T.bts x=some (.type cls)) (hd:(x==("__debug__":Str))=false)
  (Xt:Tr T K objs s) (F:Frm T K env loc s) (hh:A.handled=some (.ref e1)) (h2:E2 s.heap e1 .none) :
  wpAny (model pw w) A (exec (.Raise (some (.Call (.Name x np) [.Constant (.str msg) k p'] [] cpos)) (some (.Constant .none k2 p2)) pos) env) (fun _ _=>False) (fun ev s'=>∃ e t h',ev=.ref e∧s.heap.get? e=none∧(∀ b o,s.heap.get? b=some o→h'.get? b=some o) ∧
   h'.get? e=some {cls:=.type cls,data:=.fields #[.ref t,.none,.ref e1,.none,.bool true,.none]}∧s'={s with heap:=h',toks:=s.toks+1}) s:=by
 obtain ⟨mg,mb,n1,n2,n3,n4⟩:=Xt.top.ns
 obtain ⟨q1,q2⟩:=n4 x _ hx
 rw[arm_exec_Raise]
 refine wpAny_bind (wpAny_standAt ?_)
 show wpAny _ A (raiseStmt env (some (do let v ← eval (.Call (.Name x np) [.Constant (.str msg) k p'] [] cpos) env;standAt pos;pure v)) (some (do let v ← eval (.Constant .none k2 p2) env;standAt pos;pure v))) _ _ s
 refine raise_none G hh (wpAny_bind (wpAny_Call_ofName (Calls.Name_function_global F.kind hl (Calls.loadGlobal_builtin (F.glob▸n1) q1 (F.bi▸n2) q2 (callWith_excType rfl ?_)) hd)))
 refine evalArgs_kw (keywords:=[]) rfl (Calls.spliced_cons (Calls.Constant_str (pos:=p') (k:=k) (Calls.spliced_nil (wpAny_evalAll_nil ?_))))
 obtain ⟨hp,g,d,tk,os⟩:=s
 refine wpAny_call_exc EF fun h' e m=>wpAny_bind (wpAny_standAt (wpAny_pure ?_))
 obtain ⟨t,ht,_,_⟩:=m.there
 have hne:e1≠e:=fun q=>by
  obtain ⟨o1,v1,z1,_⟩:=h2
  rw[q] at z1
  have z2:hp.get? e=none:=m.new
  rw[z2] at z1;cases z1
 obtain ⟨o1,v1,z1,z2,z3⟩:=h2
 refine ⟨e,t,rfl,hne,⟨o1,v1,m.keeps _ _ z1,z2,z3⟩,ht,wpAny_bind (wpAny_Constant_none (wpAny_bind (wpAny_standAt (wpAny_pure ⟨rfl,rfl⟩)))),fun h'' hs hg=>⟨e,t,h'',rfl,m.new,fun b o hb=>hs.extBut b o (fun q=>?_) (m.keeps b o hb),hg,rfl⟩⟩
 rw[q] at hb
 have z2:hp.get? e=none:=m.new
 have hb:hp.get? e=some o:=hb
 rw[z2] at hb;cases hb
theorem came_back {A:Around} {E:Value→Shared→Prop} {W:List Addr} {K₀ K:Kt} {s₀ s:Shared} {H:List Addr} {cls:String} {e:Addr} (x:ExS T W K₀ s₀ K H objs cls e s) (tb:TbOk s.heap e)
  (k:∀ s',ExS T W K₀ s₀ K H objs cls e s'→Mv (K.hide H) (K.hide H) s.heap s'.heap→PreS H s s'→E (.ref e) s'):cameBackBy (model pw w) A env E (.ref e) s:=by
 obtain ⟨oe,vs,t,h1,h2,h3⟩:=tb
 show wpAny (model pw w) A (field (.ref e) 1 >>= _) _ _ s
 refine wpAny_bind (wpAny_field h1 h2 h3 ?_)
 rw[if_neg (by simp)]
 exact x.flightG fun s' x' m P _ _=>k s' x' m P
theorem sx_try_none {st:Stmt} {tn x msg:Str} {np np' p' p2 cpos rpos hp pos:Pos} {k k2:Nat} {C Tn cls newId initId:String} (EF:ExcCallFacts cls newId initId) (G:ExcRaiseFacts cls) (hl:env.scope.names.lookup tn=some .globalImplicit) (hx:lkV T.bts tn=some (.type Tn)) (hd:(tn==("__debug__":Str))=false)
  (hl':env.scope.names.lookup x=some .globalImplicit) (hx':lkV T.bts x=some (.type cls)) (hd':(x==("__debug__":Str))=false)
  (hexc:isSubtype (.type Tn) (.type "BaseException")=pure true) (hnt:isSubtype (.type ((Manifest.find? Tn).elim "type" fun x=>x.metatype)) (.type "tuple")=pure false) (hsub:isSubtype (.type C) (.type Tn)=pure true)
  (h:EvSXN T w n env st loc objs Q fun c l o=>c=C∧X cls l o) :
  EvSX T w n env (.Try [st] [.ExceptHandler (some (.Name tn np)) none [.Raise (some (.Call (.Name x np') [.Constant (.str msg) k p'] [] cpos)) (some (.Constant .none k2 p2)) rpos] hp] [] [] pos) loc objs Q X:=fun A s K R Xt F=>by
 refine wpAny_Try_except (wpAny_execs_cons (wpAny_mono (h A s K R Xt F) (fun fl s₁ hq=>?_) fun ev s₁ hq=>?_))
 ·obtain ⟨K₁,f,l,o,p,F₁,r,q⟩:=hq
  cases r with
  | next=>exact wpAny_execs_nil (wpAny_execs_nil ⟨K₁,.next,l,o,p,F₁,.next,q⟩)
  | brk=>exact ⟨K₁,_,l,o,p,F₁,.brk,q⟩
  | cont=>exact ⟨K₁,_,l,o,p,F₁,.cont,q⟩
  | ret r=>exact ⟨K₁,_,l,o,p,F₁,.ret r,q⟩
 ·obtain ⟨e,cls',K₁,H,l,o,e1,x₁,F₁,c₁,ec,q⟩:=hq
  subst e1;subst ec
  refine x₁.note2 R.frs F₁.fr fun s₂ H₂ x₂ _ m₂ P₂ k₂ t₂=>?_
  have F₂:=x₁.frm x₂ F.live F₁ m₂ P₂
  refine x₂.flightG fun s₃ x₃ m₃ P₃ k₃ t₃=>?_
  have F₃:=x₂.frm x₃ F.live F₂ m₃ P₃
  refine wpAny_handleBy_builtin hexc hnt hsub ?_
  obtain ⟨mg,mb,h1,h2,h3,h4⟩:=x₃.tr.top.ns
  obtain ⟨q1,q2⟩:=h4 tn _ hx
  refine Calls.Name_function_global F₃.kind hl (Calls.loadGlobal_builtin (F₃.glob▸h1) q1 (F₃.bi▸h2) q2 ⟨rfl,x₃.exc.type,?_⟩) hd
  rw[if_pos rfl]
  refine x₃.flightG fun s₄ x₄ m₄ P₄ k₄ t₄=>?_
  have F₄:=x₃.frm x₄ F.live F₃ m₄ P₄
  have c₄:=k₄ _ (k₃ _ (k₂ _ c₁))
  refine wpAny_execs_cons (wpAny_mono (wpAny_dead_of (raise_from EF G hl' hx' hd' x₄.tr F₄ rfl c₄)) (fun _ _ z=>z.2.elim) fun ev s₅ hq=>?_)
  obtain ⟨dd,e2,t,h',rfl,hn,hk,hg,rfl⟩:=hq
  have hz:=dd.1
  have he2:=dd.new hn hg
  have he2l:=Heap.lt_size hg
  have P5:Pres [] s₄ {s₄ with heap:=h',toks:=s₄.toks+1}:=⟨fun b o e _=>hk b o e,hz,rfl,id⟩
  have hf5:∀ a∈[e2],s₄.heap.objs.size≤a∧a<h'.objs.size:=fun a ha=>by rw[List.mem_singleton.mp ha];exact ⟨he2,he2l⟩
  have X5:Tr T (K₁.hide (e2 :: H₂)) o {s₄ with heap:=h',toks:=s₄.toks+1}:=Tr.hide (K:=K₁.hide H₂) (H:=[e2]) x₄.tr P5 hf5 (Nat.succ_pos _)
  have m5:Mv (K₁.hide H₂) (K₁.hide (e2 :: H₂)) s₄.heap h':=Mv.hide (K:=K₁.hide H₂) (H:=[e2]) (s:=s₄) (s':={s₄ with heap:=h',toks:=s₄.toks+1}) P5 fun a ha=>(hf5 a ha).1
  have x5:ExS T (own env) K s K₁ (e2 :: H₂) o cls e2 {s₄ with heap:=h',toks:=s₄.toks+1}:=by
   refine ⟨X5,x₄.pres.trans P5.soft (fun a ha=>by cases ha),x₄.grows,fun a ha=>?_,fun a ha=>?_,.head _,_,_,hg,rfl,rfl,by show 5≤6;lia,.inl rfl⟩
   ·rcases List.mem_cons.mp ha with rfl | ha
    ·exact Nat.le_trans x₄.pres.size he2
    ·exact x₄.new a ha
   ·rcases List.mem_cons.mp ha with rfl | ha
    ·exact Nat.le_trans x₄.tr.top.size he2
    ·exact x₄.low a ha
  have F5:Frm T (K₁.hide (e2 :: H₂)) env l {s₄ with heap:=h',toks:=s₄.toks+1}:=F₄.map m5 (fun b o e _=>⟨o,hk b o e,rfl⟩) F₄.out hz
  show notedBy (model pw w) (A.mark (some (.ref e))) env (cameBackBy (model pw w) A env (OutXS T env K s X)) (.ref e2) _
  refine x5.note2 R.frs F5.fr fun s₆ H₆ x6 _ m6 P6 _ t6=>?_
  have F6:=x5.frm x6 F.live F5 m6 P6
  refine came_back x6 t6 fun s₇ x7 m7 P7=>?_
  exact ⟨e2,cls,K₁,H₆,l,o,rfl,x7,x6.frm x7 F.live F6 m7 P7,q⟩
theorem sx_try_pass {body suite:List Stmt} {b₀:Stmt} {t1 t2:Str} {p1 p2 tp hp pos:Pos} {k:Nat} {C T1 T2:String} (hl1:env.scope.names.lookup t1=some .globalImplicit) (hx1:lkV T.bts t1=some (.type T1)) (hd1:(t1==("__debug__":Str))=false)
  (hl2:env.scope.names.lookup t2=some .globalImplicit) (hx2:lkV T.bts t2=some (.type T2)) (hd2:(t2==("__debug__":Str))=false)
  (hexc1:isSubtype (.type T1) (.type "BaseException")=pure true) (hnt1:isSubtype (.type ((Manifest.find? T1).elim "type" fun x=>x.metatype)) (.type "tuple")=pure false)
  (hexc2:isSubtype (.type T2) (.type "BaseException")=pure true) (hnt2:isSubtype (.type ((Manifest.find? T2).elim "type" fun x=>x.metatype)) (.type "tuple")=pure false)
  (hsub1:isSubtype (.type C) (.type T1)=pure false) (hsub2:isSubtype (.type C) (.type T2)=pure false)
  (h:EvSsX T w n env body loc objs Q fun c l o=>c=C∧X C l o) :
  EvSX T w n env (.Try body [.ExceptHandler (some (.Tuple [.Name t1 p1,.Name t2 p2] k tp)) none (b₀ :: suite) hp] [] [] pos) loc objs Q X:=fun A s K R Xt F=>by
 refine wpAny_Try_except (wpAny_mono (h A s K R Xt F) (fun fl s₁ hq=>?_) fun ev s₁ hq=>?_)
 ·obtain ⟨K₁,f,l,o,p,F₁,r,q⟩:=hq
  cases r with
  | next=>exact wpAny_execs_nil ⟨K₁,.next,l,o,p,F₁,.next,q⟩
  | brk=>exact ⟨K₁,_,l,o,p,F₁,.brk,q⟩
  | cont=>exact ⟨K₁,_,l,o,p,F₁,.cont,q⟩
  | ret r=>exact ⟨K₁,_,l,o,p,F₁,.ret r,q⟩
 ·obtain ⟨e,cls',K₁,H,l,o,e1,x₁,F₁,ec,q⟩:=hq
  subst e1;subst ec
  refine x₁.note2 R.frs F₁.fr fun s₂ H₂ x₂ _ m₂ P₂ k₂ t₂=>?_
  have F₂:=x₁.frm x₂ F.live F₁ m₂ P₂
  refine x₂.flightG fun s₃ x₃ m₃ P₃ k₃ t₃=>?_
  have F₃:=x₂.frm x₃ F.live F₂ m₃ P₃
  have tb₃:=t₃ t₂
  obtain ⟨mg,mb,h1,h2,h3,h4⟩:=x₃.tr.top.ns
  obtain ⟨q1,q2⟩:=h4 t1 _ hx1
  obtain ⟨q3,q4⟩:=h4 t2 _ hx2
  refine wpAny_handleBy_cons (codeAny_handlers_test ?_) (by intro q;cases q)
  refine wpAny_Tuple_spliced ?_
  rw[starEach_cons rfl]
  refine Calls.spliced_cons (Calls.Name_function_global F₃.kind hl1 (Calls.loadGlobal_builtin (F₃.glob▸h1) q1 (F₃.bi▸h2) q2 ?_) hd1)
  rw[starEach_cons rfl]
  refine Calls.spliced_cons (Calls.Name_function_global F₃.kind hl2 (Calls.loadGlobal_builtin (F₃.glob▸h1) q3 (F₃.bi▸h2) q4 ?_) hd2)
  refine Calls.spliced_nil ⟨by show 2≤sizeLine;decide,?_⟩
  have P4:=Post.push x₃.tr (tupO [.type T1,.type T2] 0)
  have x4:ExS T (own env) K s K₁ H₂ o cls' e {s₃ with heap:=s₃.heap.push (tupO [.type T1,.type T2] 0)}:=by
   obtain ⟨oe,vs,z1,z2,z3,z4,z5⟩:=x₃.exc
   refine ⟨P4.tr,x₃.pres.trans (P4.pres.wider (W':=own env++adrs (K₁.hide H₂)) fun a h=>List.mem_append_right _ h) fun a ha=>?_,x₃.grows,x₃.new,x₃.low,x₃.me,oe,vs,Heap.get?_push_of_some _ z1,z2,z3,z4,z5.imp id fun ⟨tb,otb,tvs,y1,y2,y3,y4,y5⟩=>⟨tb,otb,tvs,y1,y2,y3,Heap.get?_push_of_some _ y4,y5⟩⟩
   rcases List.mem_append.mp ha with ha | ha
   ·exact .inl (List.mem_append_left _ ha)
   ·exact (x₃.grows.fresh a ha).imp (fun z=>List.mem_append_right _ z) id
  have F4:Frm T (K₁.hide H₂) env l {s₃ with heap:=s₃.heap.push (tupO [.type T1,.type T2] 0)}:=F₃.post P4
  have tb₄:TbOk (s₃.heap.push (tupO [.type T1,.type T2] 0)) e:=by
   obtain ⟨a,b,c,d,r,r2⟩:=tb₃
   exact ⟨a,b,c,Heap.get?_push_of_some _ d,r,r2⟩
  refine wpAny_excMatches_tup2 (T1:=T1) (T2:=T2) (b1:=false) (b2:=false) ⟨_,Heap.get?_push_size _ rfl,rfl,_,rfl⟩ x4.exc.type hexc1 hnt1 hexc2 hnt2 hsub1 hsub2 ?_
  show wpAny _ A (handleBy (.ref e) env []) _ _ _
  refine wpAny_handleBy_nil ?_
  obtain ⟨oe,vs,tb,z1,z2,z3⟩:=tb₄
  show wpAny (model pw w) A (field (.ref e) 1 >>= _) _ _ _
  refine wpAny_bind (wpAny_field z1 z2 z3 ?_)
  rw[if_neg (by simp)]
  refine wpAny_bind (x4.flightG fun s₅ x5 m5 P5 _ _=>wpAny_throw ?_)
  exact ⟨e,_,K₁,H₂,l,o,rfl,x5,x4.frm x5 F.live F4 m5 P5,q⟩
end
section
variable {T:TopT} {w:World} {n:Nat} {env:Env} {loc:List (Str×D)} {objs:List AO}
theorem let_owned {A:Around} {E:Value→Shared→Prop} {s:Shared} {e it a:Addr} {i:Int} {x:Value} {elts:List PySem.Expr} {k:Nat} {tp:Pos} {Q:Unit→Shared→Prop} (h:IsEnumOut s.heap e it i x a)
  (hQ:Q () {s with heap:=s.heap.update e (Obj.mapFields (·.setIfInBounds 0 .none))}):wpAny (model pw w) A (letOwnedTupleGo (.Tuple elts k tp) (.ref e) (.ref a)) Q E s:=by
 show wpAny _ A (load e >>= _) _ _ s
 refine wpAny_bind (wpAny_load h ?_)
 dsimp only
 rw[if_pos (by simp)]
 refine wpAny_bind (wpAny_rule ?_)
 simp only [updateField]
 refine wpAny_bind (wpAny_load h ?_)
 dsimp only
 rw[if_pos (by simp)]
 exact wpAny_update h hQ
noncomputable def enD (l:List D):List D:=l.zipIdx.map fun p=>.tup [.int (p.2:Nat),p.1]
theorem enD_len (l:List D):(enD l).length=l.length:=by unfold enD;rw[List.length_map,List.length_zipIdx]
theorem enD_get {l:List D} {i:Nat} {d:D} (h:l[i]?=some d):(enD l)[i]?=some (.tup [.int (i:Nat),d]):=by
 unfold enD
 rw[List.getElem?_map,List.getElem?_zipIdx,h];simp
inductive EnSt (e it L:Addr) (l:List D) (xs:List Value) (nn i:Nat) (K:Kt) (s:Shared):Prop
 | mk (old:Value) (ien:IsEnum s.heap e it ((i:Nat):Int) old) (iit:s.heap.IsListIter it L i) (hL:s.heap.get? L=some (listO xs nn)) (hLo:L∉offs K) (hv:VRs K s.heap l xs) (hi:i≤l.length)
theorem en_next {e it L:Addr} {l:List D} {xs:List Value} {nn i:Nat} {K:Kt} {s:Shared} {A:Around} {elts:List PySem.Expr} {k:Nat} {tp:Pos} (hei:e≠it) (hh:A.handled=none) (X:Tr T K objs s) (hH:∀ a∈[e,it],a∈K.hid) (st:EnSt e it L l xs nn i K s) :
  wpAny (model pw w) A (pyNext (.ref e)) (StepR w A (.Tuple elts k tp) e [e,it] (enD l) (fun i K _ s=>EnSt e it L l xs nn i K s) i K objs s) noE s:=by
 obtain ⟨old,ien,iit,hL,hLo,hv,hi⟩:=st
 have he:e∈[e,it]:=.head _
 have hi':it∈[e,it]:=.tail _ (.head _)
 by_cases hlt:i<xs.length
 ·obtain ⟨d,hd,ru⟩:=nth_rel hv hlt
  refine wpAny_pyNext_enum_item ien iit (listO_is hL) (x:=xs[i]) (by simp [hlt]) hei fun h₃ io it₃ tup hz₃ hk₃=>let_owned io ?_
  have hne:s.heap.objs.size≠e:=fun q=>absurd (X.live e (List.mem_append_right _ (hH e he))) (by rw[q];exact Nat.lt_irrefl _)
  have P:Pres [e,it] s {s with heap:=h₃.update e (Obj.mapFields (·.setIfInBounds 0 .none)),toks:=s.toks+1}:=⟨fun b o q hb=>(Heap.get?_update_ne _ _ _ _ fun z=>hb (by rw[z];exact he)).trans (hk₃ b o (fun z=>hb (by rw[z];exact he)) (fun z=>hb (by rw[z];exact hi')) q),
   by show _≤(h₃.update e _).objs.size;rw[Heap.size_update,hz₃];exact Nat.le_succ _,rfl,id⟩
  have mv:=Mv.behind hH P
  refine ⟨_,P,Nat.succ_pos _,enD_get hd,.tup (xs:=[.int i s.toks,xs[i]]) (n:=0) ((Heap.get?_update_ne _ _ _ _ hne).trans tup) (fresh_not X) (by show 2≤100000;decide) (.cons (.int _ _ X.tk) (.cons (ru.map mv) .nil)),
   xs[i],?_,ListIter.dat it₃ fun o q=>(Heap.get?_update_ne _ _ _ _ (Ne.symm hei)).trans q,P.keep L _ hL fun q=>hLo (List.mem_append_right _ (hH L q)),hLo,hv.map mv,by rw[hv.length];exact hlt⟩
  show _=_
  rw[Heap.get?_update_self (Obj.mapFields (·.setIfInBounds 0 Value.none)) io rfl];simp [Obj.mapFields]
 ·have hle:=Nat.not_lt.mp hlt
  have hlen:i=(enD l).length:=by rw[enD_len];rw[← hv.length] at hle;exact Nat.le_antisymm hi hle
  exact wpAny_up (wpAny_pyNext_enum_end hh ien iit (listO_is hL) (by simp [hle]) fun h₃ he₃ _ hz₃=>⟨⟨fun b o q hb=>he₃ b o (fun z=>hb (by rw[z];exact hi')) q,hz₃,rfl,id⟩,X.toks,hlen⟩)
inductive KEnum (T:TopT) (w:World) (n:Nat) (env:Env) (xi xv:Str) (body orelse:List Stmt) (loc:List (Str×D)) (Inv:Nat→List (Str×D)→List AO→Prop) (Q:Fl→List (Str×D)→List AO→Prop) (d:D) (o:List AO):Prop
 | mk (l:List D) (e:d=.list l) (h0:Inv 0 loc o) (turn:∀ (i:Nat) (lc:List (Str×D)) (o':List AO) (dd:D),l[i]?=some dd→Inv i lc o'→EvSs T w n env body ((xv,dd) :: (xi,.int i) :: lc) o' (kLoop (Inv (i+1)) Q)) (fin:∀ lc o',Inv l.length lc o'→EvSs T w n env orelse lc o' Q)
theorem en_ok {xi xv:Str} {pi pv tp:Pos} {k:Nat} {body orelse:List Stmt} {Inv:Nat→List (Str×D)→List AO→Prop} {Q:Fl→List (Str×D)→List AO→Prop} {l:List D} (hxi:LoC env xi) (hxv:LoC env xv)
  (turn:∀ (i:Nat) (lc:List (Str×D)) (o':List AO) (dd:D),l[i]?=some dd→Inv i lc o'→EvSs T w n env body ((xv,dd) :: (xi,.int i) :: lc) o' (kLoop (Inv (i+1)) Q)) (fin:∀ lc o',Inv l.length lc o'→EvSs T w n env orelse lc o' Q) :
  ForOk T w n env (.Tuple [.Name xi pi,.Name xv pv] k tp) body orelse (enD l) (fun _=>True) Inv Q:=by
 refine ⟨fun i lc o dd hd _ hI=>?_,fun lc o hI=>fin lc o (by rw[enD_len] at hI;exact hI)⟩
 have hlt:=(List.getElem?_eq_some_iff.mp hd).1
 rw[enD_len] at hlt
 have hl:=List.getElem?_eq_getElem hlt
 rw[enD_get hl] at hd;cases hd
 refine ⟨_,a_tup2 it_tup trivial has_tup hxi hxv,EvSs.mono (turn i lc o _ hl hI) ?_⟩
 intro f l₂ o₂ q
 cases f <;> first | exact ⟨trivial,q⟩ | exact q
theorem s_for_enum {xi xv en:Str} {pi pv tp np cpos pos:Pos} {k:Nat} {xe:PySem.Expr} {body orelse:List Stmt} {Q:Fl→List (Str×D)→List AO→Prop} (Inv:Nat→List (Str×D)→List AO→Prop)
  (hs:∀ x,foldedSetIterable (.Call (.Name en np) [xe] [] cpos) env x=pure x) (hxi:LoC env xi) (hxv:LoC env xv) (hstar:notStar xe=true)
  (hen:EvE T w n env (.Name en np) loc objs fun d o=>d=.val (.type "enumerate")∧o=objs)
  (h:EvE T w n env xe loc objs (KEnum T w n env xi xv body orelse loc Inv Q)) :
  EvS T w n env (.For (.Tuple [.Name xi pi,.Name xv pv] k tp) (.Call (.Name en np) [xe] [] cpos) body orelse pos) loc objs Q:=s_forI hs fun A s K R X F=>by
 refine wpAny_Call_Name_kw (wE (hen A s K R X F) fun v s₀ hh=>?_)
 obtain ⟨K₀,d,o₀,p₀,r₀,rfl,e₂⟩:=hh
 have e₂:=e₂.symm;subst e₂
 obtain rfl:=r₀.inv
 refine callWith_gen (args_plain (es:=[_]) (by simp [hstar])) rfl ?_
 rw[starEach_cons hstar]
 refine Calls.spliced_cons (wE (h A s₀ K₀ R p₀.tr (F.post p₀)) fun v s₁ hh=>?_)
 obtain ⟨K₁,d,o₁,p₁,r₁,l,rfl,h0,hturn,hfin⟩:=hh
 refine Calls.spliced_nil (wpAny_evalAll_nil ⟨fun Q' hq=>keep_type A K₁ _ s₁ Q' p₁.tr hq,?_⟩)
 obtain ⟨L,xs,nn,rfl,hla,hlk,_,hlv⟩:=r₁.inv
 refine call_enumerate_1 hla fun h' hen' hit' hz' hk'=>wpAny_pyIter_enum hen' ?_
 have hei:s₁.heap.objs.size+1≠s₁.heap.objs.size:=Nat.ne_of_gt (Nat.lt_succ_self _)
 have p₂:Pres [] s₁ {s₁ with heap:=h'}:=⟨fun b o q _=>hk' b o q,by show s₁.heap.objs.size≤h'.objs.size;rw[hz'];exact Nat.le_add_right _ _,rfl,id⟩
 have hH:∀ a∈[s₁.heap.objs.size+1,s₁.heap.objs.size],s₁.heap.objs.size≤a∧a<h'.objs.size:=fun a ha=>by
  rcases List.mem_cons.mp ha with rfl | ha
  ·rw[hz'];exact ⟨Nat.le_succ _,Nat.lt_succ_self _⟩
  ·rw[List.mem_singleton.mp ha,hz'];exact ⟨Nat.le_refl _,Nat.lt_add_of_pos_right (by decide)⟩
 have mv₂:Mv K₁ (K₁.hide [s₁.heap.objs.size+1,s₁.heap.objs.size]) s₁.heap h':=.hide p₂ fun a h=>(hH a h).1
 refine ⟨s₁,K₁,o₁,enD l,fun _=>True,Inv,_,_,fun i K' _ s'=>EnSt (s₁.heap.objs.size+1) s₁.heap.objs.size L l xs nn i K' s',rfl,p₀.trans p₁,fun hh X' hH' _ st=>en_next hei hh X' hH' st,?_,p₂,p₁.tr.toks,hH,fun _ _=>⟨.none,hen',hit',hk' _ _ hla,(mv₂.ice L _ hla hlk rfl).2,hlv.map mv₂,Nat.zero_le _⟩,trivial,h0,en_ok hxi hxv hturn hfin⟩
 intro i K K' o o' s s' st X X' mv keep _
 obtain ⟨old,ien,iit,hL,hLo,hv,hi⟩:=st
 refine ⟨old,keep _ (.head _) _ ien (icy_hard rfl),ListIter.dat iit fun o z=>?_,(mv.ice L _ hL hLo rfl).1,(mv.ice L _ hL hLo rfl).2,hv.map mv,hi⟩
 obtain ⟨o',z1,z2,z3⟩:=iit
 rw[z1] at z;cases z
 exact keep _ (.tail _ (.head _)) _ z1 (icy_hard (by rw[z3];rfl))
end
section
variable {env:Env} {loc:List (Str×D)}
theorem clos_loop {y:Str} {c:Addr} (hc:cellOf env y=pure c):∀ (l:List (Str×NameKind)) (acc:List (Str×Addr)),(∀ x∈l,x.2=.free→x.1=y) →
  (forIn l acc fun (x:Str×NameKind) (cs:List (Str×Addr))=>if (x.2==NameKind.free)=true then do let a ← cellOf env x.1;pure (ForInStep.yield ((x.1,a) :: cs)) else pure (ForInStep.yield cs))=(pure ((l.filter (·.2==.free)).foldl (fun cs _=>(y,c) :: cs) acc):Sem (List (Str×Addr)))
 | [],acc,_=>rfl
 | (n,k) :: l,acc,h=>by
  rw[List.forIn_cons]
  by_cases e:k=.free
  ·subst e
   have:=h _ (.head _) rfl
   simp only at this
   subst this
   simp only [beq_self_eq_true,if_true,hc,pure_bind,List.filter_cons_of_pos,List.foldl_cons]
   exact clos_loop hc l _ fun x hx=>h x (.tail _ hx)
  ·have e':(k==NameKind.free)=false:=by simpa using e
   simp only [e',Bool.false_eq_true,if_false,pure_bind,List.filter_cons]
   exact clos_loop hc l _ fun x hx=>h x (.tail _ hx)
noncomputable def freeScope (y:Str) (s:Scope):Bool:=(match s.kind with | .function=>true | _=>false) && (s.names.all fun x=>match x.2 with | .cell=>false | .free=>Fast.sEq x.1 y | .local=>(match s.names.lookup x.1 with | some .local=>true | _=>false) | _=>true) &&
 (match s.names.filter (·.2==.free) with | [_]=>true | _=>false) && (match s.names.lookup y with | some .free=>true | _=>false)
theorem lookup_key {α β:Type} (f:Str→α→β) (z:Str):∀ l:List (Str×α),(l.map fun p=>(p.1,f p.1 p.2)).lookup z=(l.lookup z).map (f z)
 | []=>rfl
 | (n,k) :: r=>by
  rw[List.map_cons,List.lookup_cons,List.lookup_cons]
  cases e:z==n with
  | true=>rw[eq_of_beq e];rfl
  | false=>exact lookup_key f z r
theorem comp_ok1 {scope:Scope} {y:Str} {c:Addr} {d:D} (h:freeScope y scope=true) (hc:env.cells.lookup y=some c) (hk:env.scope.names.lookup y=some .cell∨env.scope.names.lookup y=some .free) (hd:lk loc y=some d):CompOk env scope [(y,c)] loc [(y,d)]:=by
 unfold freeScope at h
 simp only [Bool.and_eq_true] at h
 obtain ⟨⟨⟨h1,h2⟩,h3⟩,h4⟩:=h
 rw[List.all_eq_true] at h2
 have nc:∀ x∈scope.names,x.2≠.cell:=fun x hx e=>by have:=h2 x hx;simp [e] at this
 have nf:∀ x∈scope.names,x.2=.free→x.1=y:=fun x hx e=>by
  have:=h2 x hx;rw[e] at this;exact Fast.sEq_iff.mp this
 have hy:scope.names.lookup y=some .free:=by
  split at h4
  ·assumption
  ·cases h4
 have hcl:closureFor scope env=pure [(y,c)]:=by
  have hco:cellOf env y=pure c:=by unfold cellOf;rw[hc]
  have:=clos_loop (y:=y) hco scope.names [] nf
  unfold closureFor
  split at h3
  ·rename_i z hz
   rw[hz] at this
   exact (congrArg (· >>= fun cs=>pure cs) this).trans rfl
  ·cases h3
 have rl:∀ (z:Str),(relabel scope env).names.lookup z=(scope.names.lookup z).map fun k=>if (k==NameKind.free && env.scope.kind==.function && env.kindOf z==some .cell) then NameKind.cell else k:=fun z=>by
  have e:(relabel scope env).names=scope.names.map fun p=>(p.1,if (p.2==NameKind.free && env.scope.kind==.function && env.kindOf p.1==some .cell) then NameKind.cell else p.2):=List.map_congr_left fun p _=>by
   show (if _ then (p.1,NameKind.cell) else (p.1,p.2))=_
   split <;> rfl
  rw[e]
  exact lookup_key (fun n k=>if (k==NameKind.free && env.scope.kind==.function && env.kindOf n==some .cell) then NameKind.cell else k) z scope.names
 have one:∀ {z c'},([(y,c)]:List (Str×Addr)).lookup z=some c'→z=y:=fun {z c'} q=>by
  rw[List.lookup_cons] at q
  by_cases e:z=y
  ·exact e
  ·have e':(z==y)=false:=by simpa using e
   rw[e'] at q;cases q
 refine ⟨hcl,?_,nc,fun x hx e=>?_,fun z c' hm=>?_,List.pairwise_singleton _ _,fun z c' hm=>?_,fun z d' hz=>?_,fun z hz=>?_⟩
 ·split at h1
  ·assumption
  ·cases h1
 ·have:=h2 x hx
  rw[e] at this
  dsimp only at this
  split at this
  ·assumption
  ·cases this
 ·rw[List.mem_singleton] at hm;cases hm;exact hc
 ·rw[one hm];exact ⟨hk,d,hd⟩
 ·have e:z=y:=by
   by_cases e:z=y
   ·exact e
   ·rw[lk_cons,if_neg e] at hz;cases hz
  subst e
  rw[lk_cons,if_pos rfl] at hz;cases hz
  refine ⟨hd,⟨c,by simp⟩,?_⟩
  rw[rl,hy]
  show some (if _ then NameKind.cell else NameKind.free)≠_
  split <;> intro q <;> cases q
 ·rw[rl] at hz
  obtain ⟨k,k1,k2⟩:=Option.map_eq_some_iff.mp hz
  have hkf:k=.free:=by
   by_cases e:k=.free
   ·exact e
   ·have e':(k==NameKind.free)=false:=by simpa using e
    rw[e'] at k2
    simp at k2
    subst k2
    exact absurd rfl (nc _ (mem_of_lookup k1))
  subst hkf
  have:=nf _ (mem_of_lookup k1) rfl
  simp only at this
  subst this
  exact ⟨c,by simp⟩
end
section
variable {T:TopT} {w:World} {n:Nat} {env:Env} {loc:List (Str×D)} {objs:List AO}
structure LenInv (Inv:Nat→List D→List AO→Prop) (i:Nat) (o:List AO) (res:List D):Prop where
 h:Inv i res o
 z:res.length≤i
theorem comp_g {elt target:PySem.Expr} {ifs:List PySem.Expr} {scope:Scope} {cl:List (Str×Addr)} {locC:List (Str×D)} {Q:D→List AO→Prop} {d:D} {o:List AO} (ht:∀ it v,letOwnedTupleGo target it v=pure ()) (h:CompQ T w n env scope cl target elt ifs locC d o Q) :
  CompG T w n env scope cl target ifs (fun C Dd=>actAppend elt (.ref Dd) (compEnvC scope cl C env)) locC d o Q:=by
 obtain ⟨ds,ok,Inv,it,hok,h0,hn,turn,fin⟩:=h
 refine ⟨ds,ok,LenInv Inv,itg_any ht it,hok,⟨h0,Nat.le_refl _⟩,fun C Dd i res o d hd hok hI=>?_,fun res o' hI=>fin res o' hI.h⟩
 obtain ⟨l',ha,hs,hb⟩:=turn C i res o d hd hok hI.h
 refine ⟨l',ha,hs,hb.mono fun b o₁ q=>?_⟩
 cases b with
 | true=>exact ec_append (EvE.mono q fun d o q=>⟨Nat.le_trans (Nat.succ_le_succ hI.z) (Nat.le_trans (List.getElem?_eq_some_iff.mp hd).1 hn),q.1,q.2,by rw[List.length_append];exact Nat.succ_le_succ hI.z⟩)
 | false=>exact ⟨q.1,q.2,Nat.le_succ_of_le hI.z⟩
theorem ev_listcomp {elt target iter:PySem.Expr} {ifs:List PySem.Expr} {scope:Scope} {pos:Pos} {cl:List (Str×Addr)} {locC:List (Str×D)} {Q:D→List AO→Prop} (ck:CompOk env scope cl loc locC)
  (hs:∀ x,foldedSetIterable iter env x=pure x) (ht:∀ it v,letOwnedTupleGo target it v=pure ()) (h:EvE T w n env iter loc objs (kComp T w n env scope cl target elt ifs locC Q)) :
  EvE T w n env (.ListComp elt [⟨target,iter,ifs,0⟩] scope pos) loc objs Q:=ev_compG ck hs (fun C Dd=>cla_list (turn_l1 _ _ _ _ _ _ _ _)) (h.mono fun _ _=>comp_g ht)
theorem s_assign_comp {elt target iter:PySem.Expr} {ifs:List PySem.Expr} {scope:Scope} {pos spos py:Pos} {y:Str} {cl:List (Str×Addr)} {locC:List (Str×D)} {Q:Fl→List (Str×D)→List AO→Prop} (ck:CompOk env scope cl loc locC)
  (hsw:swapsWith (.ListComp elt [⟨target,iter,ifs,0⟩] scope pos) (some (.Name y py)) spos.line env=pure true) (hy:LoC env y)
  (hs:∀ x,foldedSetIterable iter env x=pure x) (ht:∀ it v,letOwnedTupleGo target it v=pure ()) (h:EvE T w n env iter loc objs (kComp T w n env scope cl target elt ifs locC (kAsg y loc Q))) :
  EvS T w n env (.Assign [.Name y py] (.ListComp elt [⟨target,iter,ifs,0⟩] scope pos) spos) loc objs Q:=s_assign_compG ck hsw hy hs (fun C Dd=>cla_list (turn_l1 _ _ _ _ _ _ _ _)) (h.mono fun _ _=>comp_g ht)
end
end Mine.Internal
end
section
open PySem PySem.StrLaws
namespace Mine.Internal
theorem L_join_cons (c:Nat) (a b:Str) (r:List Str):L (Str.join (mk [c]) (a :: b :: r))=L a++c :: L (Str.join (mk [c]) (b :: r)):=by
 show L (a++mk [c]++Str.join (mk [c]) (b :: r))=_
 rw[L_add,L_add,L_mk,List.append_assoc];rfl
theorem cut_uniq {c:Nat}:∀ {x y u v:List Nat},c∉x→c∉y→x++c :: u=y++c :: v→x=y∧u=v
 | [],[],u,v,_,_,h=>⟨rfl,(List.cons.inj h).2⟩
 | [],b :: y,u,v,_,hy,h=>absurd (by rw[(List.cons.inj h).1];exact List.mem_cons_self) hy
 | a :: x,[],u,v,hx,_,h=>absurd (by rw[← (List.cons.inj h).1];exact List.mem_cons_self) hx
 | a :: x,b :: y,u,v,hx,hy,h=>by
  obtain ⟨h1,h2⟩:=List.cons.inj h
  obtain ⟨i1,i2⟩:=cut_uniq (fun m=>hx (List.mem_cons_of_mem _ m)) (fun m=>hy (List.mem_cons_of_mem _ m)) h2
  exact ⟨by rw[h1,i1],i2⟩
theorem join_uniq {c:Nat}:∀ {as bs:List Str},(∀ p∈as,c∉L p)→(∀ p∈bs,c∉L p)→as≠[]→bs≠[]→Str.join (mk [c]) as=Str.join (mk [c]) bs→as=bs
 | [],_,_,_,h,_,_=>absurd rfl h
 | _ :: _,[],_,_,_,h,_=>absurd rfl h
 | [a],[b],_,_,_,_,e=>by
  have e:a=b:=e
  rw[e]
 | [a],b :: b2 :: br,ha,hb,_,_,e=>by
  have e:a=Str.join (mk [c]) (b :: b2 :: br):=e
  exact absurd (by rw[e,L_join_cons];simp) (ha a (.head _))
 | a :: a2 :: ar,[b],ha,hb,_,_,e=>by
  have e:Str.join (mk [c]) (a :: a2 :: ar)=b:=e
  exact absurd (by rw[← e,L_join_cons];simp) (hb b (.head _))
 | a :: a2 :: ar,b :: b2 :: br,ha,hb,_,_,e=>by
  have e:=congrArg L e
  rw[L_join_cons,L_join_cons] at e
  obtain ⟨e1,e2⟩:=cut_uniq (ha a (.head _)) (hb b (.head _)) e
  rw[L_inj e1,join_uniq (fun p hp=>ha p (.tail _ hp)) (fun p hp=>hb p (.tail _ hp)) (by simp) (by simp) (L_inj e2)]
theorem split_ne (x:Str) (c:Nat):Txt.split x (mk [c])≠[]:=by
 unfold Txt.split
 split
 ·simp
 ·split
  ·simp
  ·rw[PySem.StrLaws.partsBetween_eq]
   obtain ⟨p,r,e⟩:=PySem.StrLaws.partsFrom_ne x (mk [c]).length 0 (Builtin.Str.occurrences x (mk [c]) 0 x.length (x.length+1))
   rw[e];simp
theorem split_join {c:Nat} {ps:List Str} (h:∀ p∈ps,c∉L p) (hn:ps≠[]):Txt.split (Txt.join (mk [c]) ps) (mk [c])=ps:=by
 rw[tjoin]
 exact join_uniq (split_free _ c) h (split_ne _ c) hn (join_split _ (mk [c]))
end Mine.Internal
end
section
open PySem PySem.StrLaws
namespace Mine.Internal
theorem at_one (x:Str) (c i:Nat):PySem.StrLaws.At x (mk [c]) x.length i↔(L x)[i]?=some c:=subAt_one x c i
theorem rfind_at {x:Str} {c:Nat} {u v:List Nat} (h:L x=u++c :: v) (hv:c∉v):Txt.rfind x (mk [c])=u.length:=by
 have hu:PySem.StrLaws.At x (mk [c]) x.length u.length:=(at_one _ _ _).mpr (by rw[h];simp)
 rcases last_spec x (mk [c]) with ⟨h1,h2⟩ | ⟨i,h1,h2,h3⟩
 ·exact absurd hu (h2 u.length)
 ·have hi:i=u.length:=by
   have hAt:(L x)[i]?=some c:=(at_one _ _ _).mp h2
   rcases Nat.lt_trichotomy i u.length with q | q | q
   ·exact absurd hu (h3 _ q)
   ·exact q
   ·exfalso
    rw[h,List.getElem?_append_right (by lia)] at hAt
    obtain ⟨k,hk⟩:∃ k,i - u.length=k+1:=⟨i - u.length - 1,by lia⟩
    rw[hk,List.getElem?_cons_succ] at hAt
    exact hv (List.mem_of_getElem? hAt)
  unfold Txt.rfind
  rw[h1,hi]
theorem rfind_none {x:Str} {c:Nat} (h:c∉L x):Txt.rfind x (mk [c])=-1:=by
 rcases last_spec x (mk [c]) with ⟨h1,h2⟩ | ⟨i,h1,h2,h3⟩
 ·unfold Txt.rfind;rw[h1]
 ·exact absurd (List.mem_of_getElem? ((at_one _ _ _).mp h2)) h
end Mine.Internal
end
section
open PySem PySem.W PyProof.Rows
namespace Mine.Internal
section
variable {T:TopT} {w:World} {n:Nat} {env:Env} {loc:List (Str×D)} {objs:List AO}
theorem range_size (k:Nat):Builtin.Range.rangeSize 0 (k:Int) 1=(k:Int):=by
 rw[rangeSize_one];split <;> lia
inductive KRange (T:TopT) (w:World) (n:Nat) (env:Env) (x:Str) (body orelse:List Stmt) (loc:List (Str×D)) (Inv:Nat→List (Str×D)→List AO→Prop) (Q:Fl→List (Str×D)→List AO→Prop) (d:D) (o:List AO):Prop
 | mk (k:Nat) (e:d=.int k) (hk:k≤100000) (h0:Inv 0 loc o) (turn:∀ (i:Nat) (lc:List (Str×D)) (o':List AO),i<k→Inv i lc o'→EvSs T w n env body ((x,.int i) :: lc) o' (kLoop (Inv (i+1)) Q)) (fin:∀ lc o',Inv k lc o'→EvSs T w n env orelse lc o' Q)
inductive RngSt (I k i:Nat) (s:Shared):Prop
 | mk (st:IsRangeIter s.heap I (0+(i:Nat) * 1) ((k:Int) - (i:Nat)) 1) (hi:i≤k)
theorem rng_next {I k i:Nat} {K:Kt} {s:Shared} {A:Around} {x:Str} {px:Pos} (hh:A.handled=none) (X:Tr T K objs s) (st:RngSt I k i s) :
  wpAny (model pw w) A (pyNext (.ref I)) (NextO [I] ((List.range k).map fun i:Nat=>D.int i) (fun i _ _ s=>RngSt I k i s) i K objs s) noE s:=by
 obtain ⟨st,hi⟩:=st
 by_cases hlt:i<k
 ·refine wpAny_pyNext_range_item st (by lia) fun h' hit' hs'=>.item _ (.int i) rfl ⟨(Pres.same hs').keep,(Pres.same (s:=s) hs').size,rfl,id⟩ (by simp [hlt]) ?_ ⟨?_,hlt⟩
  ·rw[show (0:Int)+(i:Nat) * 1=(i:Int) by lia];exact .int _ _ X.tk
  ·show IsRangeIter h' _ _ _ _
   rw[show (0:Int)+((i+1:Nat):Int) * 1=0+(i:Int) * 1+1 by lia,show (k:Int) - ((i+1:Nat):Int)=k - (i:Int) - 1 by lia];exact hit'
 ·exact wpAny_up (wpAny_pyNext_range_end hh st (by lia) fun h' he' _ hz'=>.stop rfl (.ends he' hz') (by rw[List.length_map,List.length_range];lia))
theorem rng_ok {x:Str} {px:Pos} {body orelse:List Stmt} {Inv:Nat→List (Str×D)→List AO→Prop} {Q:Fl→List (Str×D)→List AO→Prop} {k:Nat} (hx:LoC env x) (turn:∀ (i:Nat) (lc:List (Str×D)) (o':List AO),i<k→Inv i lc o'→EvSs T w n env body ((x,.int i) :: lc) o' (kLoop (Inv (i+1)) Q)) (fin:∀ lc o',Inv k lc o'→EvSs T w n env orelse lc o' Q) :
  ForOk T w n env (.Name x px) body orelse ((List.range k).map fun i:Nat=>D.int i) (fun _=>True) Inv Q:=by
 refine ⟨fun i lc o dd hd _ hI=>?_,fun lc o hI=>fin lc o (by rw[List.length_map,List.length_range] at hI;exact hI)⟩
 rw[List.getElem?_map] at hd
 obtain ⟨j,hj,rfl⟩:=Option.map_eq_some_iff.mp hd
 obtain ⟨hlt,rfl⟩:=List.getElem?_eq_some_iff.mp hj
 rw[List.length_range] at hlt
 rw[List.getElem_range]
 refine ⟨_,a_name hx,EvSs.mono (turn i lc o hlt hI) ?_⟩
 intro f l₂ o₂ q
 cases f <;> first | exact ⟨trivial,q⟩ | exact q
theorem rng_src {x:Str} {px:Pos} {body orelse:List Stmt} {Q:Fl→List (Str×D)→List AO→Prop} {Inv:Nat→List (Str×D)→List AO→Prop} {K K₁:Kt} {s s₂:Shared} {o₁:List AO} {k:Nat} (p:Post T K s K₁ o₁ s₂) (h0:Inv 0 loc o₁) (F:ForOk T w n env (.Name x px) body orelse ((List.range k).map fun i:Nat=>D.int i) (fun _=>True) Inv Q) :
  ForSrc T w n env (.Name x px) body orelse loc Q K s (.ref s₂.heap.objs.size) {s₂ with heap:=s₂.heap.push {cls:=.type "range_iterator",data:=.fields #[rawInt 0,rawInt (k:Int),rawInt 1]}}:=by
 refine ⟨s₂,K₁,o₁,_,fun _=>True,Inv,s₂.heap.objs.size,[s₂.heap.objs.size],fun i _ _ s'=>RngSt s₂.heap.objs.size k i s',rfl,p,fun hh X' _ _ st=>leaf X' (wE (rng_next (x:=x) (px:=px) hh X' st) fun r s' hr ht'=>?_),fun ⟨st,hi⟩ _ _ _ keep _=>⟨keep _ (.head _) _ st (.inr fun es n q=>by cases q),hi⟩,
  .push s₂ _,p.tr.toks,fun b hb=>?_,fun _ _=>⟨?_,Nat.zero_le _⟩,trivial,h0,F⟩
 ·cases hr with
  | item v d e p hd rv st=>subst e;show wpAny _ _ _ _ _ _;exact wpAny_pure ⟨d,p,ht',hd,rv,st⟩
  | stop e p he=>subst e;exact ⟨p,ht',he⟩
 ·rw[List.mem_singleton.mp hb];exact ⟨Nat.le_refl _,by show _<(s₂.heap.push _).objs.size;rw[Heap.size_push];exact Nat.lt_succ_self _⟩
 ·show _=_
  rw[Heap.get?_push_size s₂.heap (o:={cls:=.type "range_iterator",data:=.fields #[rawInt 0,rawInt (k:Int),rawInt 1]}) rfl];simp
theorem s_for_range {x en:Str} {px np cpos pos:Pos} {e:PySem.Expr} {body orelse:List Stmt} {Q:Fl→List (Str×D)→List AO→Prop} (Inv:Nat→List (Str×D)→List AO→Prop)
  (hs:∀ x,foldedSetIterable (.Call (.Name en np) [e] [] cpos) env x=pure x) (hx:LoC env x) (hstar:notStar e=true)
  (hen:EvE T w n env (.Name en np) loc objs fun d o=>d=.val (.type "range")∧o=objs)
  (h:EvE T w n env e loc objs (KRange T w n env x body orelse loc Inv Q)) :
  EvS T w n env (.For (.Name x px) (.Call (.Name en np) [e] [] cpos) body orelse pos) loc objs Q:=by
 refine s_forI hs fun A s K R X F=>?_
 refine wpAny_Call_Name_kw (wE (hen A s K R X F) fun v s₀ hh=>?_)
 obtain ⟨K₀,d,o₀,p₀,r₀,rfl,e₂⟩:=hh
 have e₂:=e₂.symm;subst e₂
 obtain rfl:=r₀.inv
 refine callWith_gen (args_plain (es:=[_]) (by simp [hstar])) rfl ?_
 rw[starEach_cons hstar]
 refine Calls.spliced_cons (wE (h A s₀ K₀ R p₀.tr (F.post p₀)) fun v s₁ hh=>?_)
 obtain ⟨K₁,d,o₁,p₁',r₁,k,rfl,hk,h0,hturn,hfin⟩:=hh
 refine Calls.spliced_nil (wpAny_evalAll_nil ⟨fun Q' hq=>keep_type A K₁ _ s₁ Q' p₁'.tr hq,?_⟩)
 obtain ⟨t,rfl,_⟩:=r₁.inv
 refine call_range_1 (wpAny_pyIter_range (IsRange.new ..) (small_one (by decide) (by decide) (by lia) (by lia)) ?_)
 rw[range_size]
 have P₂:=Post.push p₁'.tr {cls:=.type "range",data:=.fields #[.int 0 s₁.toks,.int (k:Int) t,.int 1 (s₁.toks+1)]}
 exact rng_src ((p₀.trans p₁').trans (P₂.trans (Post.tok P₂.tr (s₁.toks+1+1) (Nat.succ_pos _)))) h0 (rng_ok hx hturn hfin)
end
end Mine.Internal
end
open PySem PySem.W PyProof.Rows
namespace Mine.Internal
section
open Lean
def zN (k:String) (a:List Syntax):Syntax:=.node .none k.toName a.toArray
def zK (s:String):Syntax:=.atom .none s
def zX (s:String):Syntax:=mkIdent s.toName
def zS (a:List Syntax):Syntax:=zN "Lean.Parser.Tactic.tacticSeq" [zN "Lean.Parser.Tactic.tacticSeq1Indented" [zN "null" a]]
def zB (t:Syntax):Syntax:=zN "Lean.Parser.Term.byTactic" [zK "by",zS [t]]
def z1 (k s:String) (a:List Syntax):Syntax:=zN ("Lean.Parser.Tactic."++k) (zK s :: a)
def zF (ts:List Syntax):Syntax:=z1 "first" "first" [zN "null" (ts.map fun t=>zN "group" [zK "|",zS [t]])]
def zR (t:Syntax):Syntax:=z1 "withReducible" "with_reducible" [zS [t]]
def zE (p s:String):Syntax:=zF ((s.splitOn " ").map fun x=>zR (z1 "exact" "exact" [zX (p++x)]))
def zW (s:String):Syntax:=zN "PyProof.Rows.tacticWalk_at_" [zK "walk_at",Syntax.mkStrLit s]
def zP (h:Syntax) (a:List Syntax):Syntax:=zN "Lean.Parser.Term.app" [h,zN "null" a]
def zk:Syntax:=zB (zN "PyProof.Rows.tacticKernel_rfl!" [zK "kernel_rfl!"])
def zr:Syntax:=zX "rfl"
def zH:Syntax:=zN "Lean.Parser.Term.hole" [zK "_"]
def zU (t:Syntax):Syntax:=zN "Lean.Parser.Term.fun" [zK "fun",zN "Lean.Parser.Term.basicFun" [zN "null" [zH],zN "null" [],zK "=>",t]]
def zD:List (String×Syntax):=[
 ("?",zN "Lean.Parser.Term.syntheticHole" [zK "?",zK "_"]),
 ("_",zH),("k",zk),("r",zr),("R",zU zr),("K",zU (zN "Lean.Parser.Term.syntheticHole" [zK "?",zK "_"])),
 ("a",zB (z1 "assumption" "assumption" [])),
 ("d",zB (z1 "decide" "decide" [zN "Lean.Parser.Tactic.optConfig" [zN "null" [zN "Lean.Parser.Tactic.configItem" [zN "Lean.Parser.Tactic.posConfigItem" [zK "+",zX "kernel"]]]]])),
 ("b",zP (zX "Nat.le_of_ble_eq_true") [zk]),
 ("u",zB (z1 "withUnfoldingAll" "with_unfolding_all" [zS [z1 "tacticRfl" "rfl" []]])),
 ("m",zP (zX "gm_list") [zX "asL_last"])]++["l", "x", "y", "c", "h", "g"].map fun s=>(s,zB (zW s))
def zT (s:String):Syntax:=(zD.lookup s).getD (if s.isNat then Syntax.mkNumLit s else if s.startsWith "'" then Syntax.mkStrLit (s.drop 1).toString else zX s)
def zL (s:String):List Syntax:=(s.splitOn " ").map zT
def zJ (s:String):Syntax:=match zL s with
 | [h]=>h
 | h :: a=>zP h a
 | []=>zH
def zQ (s:String):Syntax:=z1 "refine" "refine" [zJ s]
def zC (a:List Syntax):Syntax:=z1 "refine" "refine" [zN "Lean.Parser.Term.anonymousCtor" [zK "⟨",zN "null" (a.intersperse (zK ",")),zK "⟩"]]
def zG (s:String):Syntax:=match s.splitOn ": " with
 | [j,a]=>z1 "paren" "(" [zS [z1 "guardTarget" "guard_target" [zN "Lean.Parser.equal" [zN "Lean.Parser.equalR" [zK "="]],zJ j],zK ";",zF ((a.splitOn ", ").map zQ)],zK ")"]
 | _=>match s.splitOn "; " with
  | [a, "!"]=>zC (zL a)
  | [a,_]=>zC [zH,zH,zJ a,zT "?"]
  | _=>zQ s
def zV (a:List Syntax):Syntax:=z1 "tacticRepeat_" "repeat" [zS [zF a]]
def zO (s:String):Syntax:=z1 "paren" "(" [zS [zW s,zK ";",z1 "done" "done" []],zK ")"]
def zY (s:String):Syntax:=z1 "paren" "(" [zS [zR (z1 "apply" "apply" [zX s]),zK ";",zN "PyProof.Rows.tacticKernel_rfl!" [zK "kernel_rfl!"]],zK ")"]
def zAll:List (String×Syntax):=[
 ("sp",zF (["andv", "if", "or", "and", "orv"].map fun s=>zR (zQ ("k_"++s ++ " K K")))),
 ("l",zV [zR (zF (["lk_here", "lk_1 k", "lk_2 k", "lk_3 k", "lk_4 k"].map zQ)),zY "lk_6",zY "lk_next"]),
 ("u",zV [zR (zF (["upd_nil", "upd_here"].map zQ)),zY "upd_next"]),
 ("x",zF [zE "lx" "0 1 2 3 4 5 6 7 8 9 10 11 12 13 14 15 16 17 18",zO "l"]),
 ("y",zF [zE "lu" "0 1",zO "u"]),
 ("c",zE "cls_" "894 710 944"),
 ("h",zE "gl" "52 54 55 56 57 58 63 66 70 71 72 73 74 75 76 78 79"),
 ("g",zE "gl" "1 3 8 11 12 14 16 17 20 25 26 27 28 33 34 35 36 37 39 40 41 42 43 44 45 46 47 48 49 50"),
 ("go",zV [zR (zF ("EvSs _ _ _ _ _ _ _ _: ss_cons ?, ss_nil ?\nEvS _ _ _ _ _ _ _ _: s_newb k r ?, s_asg k r ?, s_aug k l ?, s_setat r r ?, s_setdct hPw r ?, s_augat r ?, s_if ?, s_return ?, s_return_none ?, s_expr r r ?, s_pass ?, s_break ?, s_continue ?\nEvE _ _ _ _ _ _ _ _: ev_loc k l ?, ev_cel k l ?, ev_b k h r ?, ev_gl k g r ?, ev_str ? r, ev_int ?, ev_none ?, ev_bool ?, ev_self k l c a k x r ?, ev_attr r ?, ev_slice ?, ev_item ?, ev_call r r ?, ev_replace R r k k ?, ev_objnew r R r ?, ev_mcall r r R r r ?, ev_binop ?, ev_unop ?, ev_compare ? r, ev_ifexp ?, ev_or ?, ev_and ?, ev_list ?, ev_tuple ?\nEvB _ _ _ _ _ _ _ _: eb_not ?, eb_boolop ?, eb_compare ? r, eb_value ? R\nEvAll _ _ _ _ _ _ _ _ _: all_and_cons ?, all_and_nil ?, all_or_cons ?, all_or_nil ?\nEvEs _ _ _ _ _ _ _ _ _: es_nil ?, es_cons r ?\nEvKs _ _ _ _ _ _ _ _ _: ks_nil ?, ks_cons ?\nEvP _ _ _ _ _ _ _ _: ep_none ?, ep_some ?\nOp2 _ _ _ _ _ _ _ _: o_add_int ?, o_sub_int ?, o_mod_int k ?, o_fdiv_int k d ?, o_add_list u u b ?, o_iadd_str ? b, o_eq_int ?, o_eq_nn ?, o_eq_sn ?, o_ne_int ?, o_lt_int ?, o_gt_t k ?, o_gt_f k ?, o_gt_int ?, o_ge_t k ?, o_ge_f k ?, o_ge_int ?, o_eqs_oth a k ?, o_eqs_t k ?, o_eqs_f k ?, o_eq_str ?, o_nes_t k ?, o_nes_f k ?, o_ne_str ?, o_in_tup2 k ?, o_ins_oth a k ?, o_ins_t k ?, o_ins_f k ?, o_in_str ?, o_nins_oth a k ?, o_nin_str ?, o_is_none r ?, o_isnot_none r ?, o_is_t u u u k ?, o_is_f u u u k ?, o_isnot_t u u u k ?, o_isnot_f u u u k ?, o_isnot_refself ?, o_isnot_ref k k k ?\nOp1 _ _ _ _ _ _ _: o_not ?, o_neg_int ?\nTruD _ _ _ _ _ _: t_bool ?, t_none ?, t_tup ?, t_deque ?, t_int ?, t_list asL_last ?, t_str_f k ?, t_str_t k ?, t_str ?\nSliD _ _ _ _ _ _ _ _: sl_str ?\nXCall _ _ _ _ _ _ _ _ _: c_deque ?, c_set ?, c_startswith ?, c_endswith ?, c_rfind ?, c_find ?, c_rstrip ?, c_len_str ?, c_len_tup ?, c_len_list asL_last ?, c_chr k ?, c_issub ?, c_isi_str_bytes ?, c_isi_str_str ?, c_type_str ?, c_type_int ?, c_int_int ?\nXC _ _ _ _ _ _ _ _ _: xb ?, xt ?\nGetA _ _ _ _ _ _ _: ga_set c a k x r ?, ga_punct a x ?\n_ r ?; !\nk_notT ?\nk_notF ?\nk_not ?\nk_nvT ?\nk_nvF ?\nk_nv ?\nlen_ok k ?\nm; \ngm_set 494 cls_710 a k k k; \ngm_set 487 cls_710 a k k k; \ngm_set 656 cls_710 a k k k; \ngm_set 855 cls_894 a k k k; \ngm_set 862 cls_894 a k k k; \ngm_set 941 cls_944 a k k k; \nkm 'rfind g_rfind ?\nkm 'find g_find ?\nkm 'rstrip g_rstrip ?\nkm 'split g_split ?\nkm 'join g_join ?\nkm 'startswith g_startswith ?\nkm 'endswith g_endswith ?\n_ _ _ _ _ r r a c k k y ?; !".splitOn "\n" |>.map zG)),
  z1 "dsimp" "dsimp" [zN "Lean.Parser.Tactic.optConfig" [zN "null" []],zN "null" [],zN "null" [zK "only"],zN "null" [zK "[",zN "null" ((["vD", "List.filterMap", "List.cons_append", "List.nil_append", "Bool.not"].map fun s=>zN "Lean.Parser.Tactic.simpLemma" [zN "null" [],zN "null" [],zX s]).intersperse (zK ",")),zK "]"],zN "null" []]])]
end
local macro_rules | `(tactic| walk_at $s)=>match zAll.lookup s.getString with
 | some t=>pure t
 | _=>Lean.Macro.throwUnsupported
section
variable {P:Params} {fs:List Env} {w:World} {n:Nat} {objs:List AO} {Q:D→List AO→Prop}
theorem f_get_sep {x:Str} (h:Q (.str "/") objs):XC (topT P fs) w (n+1) (.ref 131) [.str x] [] [] objs Q:=by
 refine xd (dk_131 P) (bind1 (x := "path") fun _=>rfl) (by kernel_rfl!) fun L fs=>?_
 refine ss_cons ?_
 walk_at "go"
 exact h
theorem f_fspath {x:Str} (h:Q (.str x) objs):XC (topT P fs) w (n+1) (.ref 117) [.str x] [] [] objs Q:=by
 refine xd (dk_117 P) (bind1 (x := "path") fun _=>rfl) (by kernel_rfl!) fun L fs=>?_
 refine ss_cons ?_
 walk_at "go"
 exact h
theorem len1 {x y:Str} (hx:x.length≤100000) (hy:Nat.ble y.length 1000=true):x.length+y.length≤sizeLine:=by
 have:=Nat.le_of_ble_eq_true hy
 exact Nat.le_trans (show _≤101000 by lia) (by decide)
theorem f_shelf {x:Str} (hx:x.length≤100000) (h:Q (.str x) objs):XC (topT P fs) w (n+1) (.ref 768) [.str x] [] [] objs Q:=by
 refine xd (dk_768 P) (bind1 (x := "s") fun _=>rfl) (by kernel_rfl!) fun L fs=>?_
 refine ss_cons ?_
 walk_at "go"
 refine o_add_str ?_ (len1 hx rfl)
 walk_at "go"
 rw[shelf_eq]
 exact h
theorem f_kind {x y:Str} (h:Q (.str "") objs):XC (topT P fs) w (n+1) (.ref 719) [.str y,.str x] [] [] objs Q:=by
 refine xd (dk_719 P) (bind2 (x := "name") (y := "x") fun _ _=>rfl) (by kernel_rfl!) fun L fs=>?_
 refine ss_cons ?_
 walk_at "go"
 exact h
theorem f_fspath2 {x y:Str} (h:Q (.str x) objs):XC (topT P fs) w (n+1+1) (.ref 726) [.str y,.str x] [] [] objs Q:=by
 refine xd (dk_726 P) (bind2 (x := "name") (y := "x") fun _ _=>rfl) (by kernel_rfl!) fun L fs=>?_
 refine ss_cons ?_
 walk_at "go"
 refine f_kind ?_
 walk_at "go"
 exact h
theorem f_basename {x:Str} (h:Q (.str (Txt.slice x (some (Txt.rfind x "/"+1)) none)) objs):XC (topT P fs) w (n+1+1+1) (.ref 782) [.str x] [] [] objs Q:=by
 refine xd (dk_782 P) (bind1 (x := "p") fun _=>rfl) (by kernel_rfl!) fun L fs=>?_
 refine ss_cons ?_
 walk_at "go"
 refine f_fspath2 ?_
 walk_at "go"
 exact h
end
section
variable {P:Params} {fs:List Env} {w:World} {n:Nat} {objs:List AO} {Q:D→List AO→Prop}
noncomputable def rootP (x:Str):Str×Str :=
 match (Txt.slice x none (some 1)).cps.toList != (Str.ofString "/").cps.toList with
 | true=>(Str.ofString "",x)
 | false=>match (Txt.slice x (some 1) (some 2)).cps.toList != (Str.ofString "/").cps.toList with
  | true=>(Str.ofString "/",Txt.slice x (some 1) none)
  | false=>match (Txt.slice x (some 2) (some 3)).cps.toList==(Str.ofString "/").cps.toList with
   | true=>(Str.ofString "/",Txt.slice x (some 1) none)
   | false=>(Txt.slice x none (some 2),Txt.slice x (some 2) none)
theorem f_splitroot {x:Str} (hx:x.length≤100000) (h:Q (.tup [.str "",.str (rootP x).1,.str (rootP x).2]) objs):XC (topT P fs) w (n+1+1) (.ref 775) [.str x] [] [] objs Q:=by
 refine xd (dk_775 P) (bind1 (x := "p") fun _=>rfl) (by kernel_rfl!) fun L fs=>?_
 unfold rootP at h
 refine ss_cons ?_
 walk_at "go"
 walk_at "sp" <;> rename_i h1 <;> rw[h1] at h <;> walk_at "go"
 ·refine f_shelf hx ?_
  walk_at "go"
  exact h
 walk_at "sp" <;> rename_i h2 <;> rw[h2] at h <;> walk_at "go"
 walk_at "sp" <;> rename_i h3 <;> rw[h3] at h <;> walk_at "go"
 ·refine f_shelf (Nat.le_trans (Txt.slice_le _ _ _) hx) ?_
  walk_at "go"
  exact h
 ·exact h
 ·exact h
theorem f_psplitroot {x:Str} (h:Q (.tup [.str "",.str (rootP x).1,.str (rootP x).2]) objs):XC (topT P fs) w (n+1+1) (.ref 138) [.str x] [] [] objs Q:=by
 refine xd (dk_138 P) (bind1 (x := "p") fun _=>rfl) (by kernel_rfl!) fun L fs=>?_
 unfold rootP at h
 refine ss_cons ?_
 walk_at "go"
 refine f_fspath ?_
 walk_at "go"
 walk_at "sp" <;> rename_i h1 <;> rw[h1] at h <;> walk_at "go"
 ·exact h
 walk_at "sp" <;> rename_i h2 <;> rw[h2] at h <;> walk_at "go"
 walk_at "sp" <;> rename_i h3 <;> rw[h3] at h <;> walk_at "go"
 ·exact h
 ·exact h
 ·exact h
end
section
variable {fs:List Env} {w:World} {n:Nat} {objs:List AO} {Q:D→List AO→Prop}
theorem f_quote {x:Str} (hx:x.length≤1000) (h:Q (.str (mk (qt (L x)))) objs):XC (topT w.params fs) w (n+1) (.ref 921) [.str x] [] [] objs Q:=by
 refine xd (dk_921 _) (bind1 (x := "s") fun _=>rfl) (by kernel_rfl!) fun L' fs=>?_
 refine ss_cons ?_
 walk_at "go"
 cases hl:L x with
 | nil =>
  have e:x=mk []:=by rw[← mk_L x,hl]
  subst e
  rw[show (((mk []).length:Int) != 0)=false from rfl]
  try dsimp only
  walk_at "go"
  exact h
 | cons a r =>
  rw[show ((x.length:Int) != 0)=true by rw[L_len,hl];rfl]
  try dsimp only
  walk_at "go"
  refine c_search (by rw[hl];rfl) ?_
  have h2:(mk (qtE (L x))).length≤10000:=by rw[mk_len];have:=qtE_len (L x);rw[← L_len] at this;lia
  split
  ·rename_i hs
   walk_at "go"
   rw[show qt (L x)=L x by unfold qt;rw[if_neg (by rw[hl];simp),if_pos hs],mk_L] at h
   exact h
  ·rename_i hs
   intro a'
   walk_at "go"
   refine ⟨Nat.le_trans hx (by decide),?_⟩
   rw[show Txt.replace x (Str.ofString "'") (Str.ofString "'\"'\"'")=mk (qtE (L x)) from replace_q x]
   refine o_add_str ?_ (Nat.le_trans (Nat.add_le_add (show (Str.ofString "'").length≤1 from Nat.le_of_ble_eq_true rfl) h2) (by decide))
   walk_at "go"
   refine o_add_str ?_ (len1 (by rw[show Str.ofString "'"=mk [39] from rfl,mk_add,mk_len];have:=qtE_len (L x);rw[← L_len] at this;simp;lia) rfl)
   walk_at "go"
   rw[show qt (L x)=39 :: qtE (L x)++[39] by unfold qt;rw[if_neg (by rw[hl];simp),if_neg hs]] at h
   rw[show Str.ofString "'"=mk [39] from rfl,mk_add,mk_add]
   exact h
end
section
variable {P:Params} {fs:List Env} {w:World} {n:Nat} {objs:List AO} {Q:D→List AO→Prop}
theorem f_splitext {x:Str} (h1:Txt.rfind x "/"=-1) (h2:Txt.rfind x "."=1) (h3:((Txt.slice x (some (-1+1)) (some (-1+1+1))).cps.toList != (Str.ofString ".").cps.toList)=true)
  (h:Q (.tup [.str (Txt.slice x none (some 1)),.str (Txt.slice x (some 1) none)]) objs):XC (topT P fs) w (n+1+1+1) (.ref 754) [.str x] [] [] objs Q:=by
 refine xd (dk_754 P) (bind1 (x := "p") fun _=>rfl) (by kernel_rfl!) fun L fs=>?_
 refine ss_cons ?_
 walk_at "go"
 refine f_fspath2 ?_
 walk_at "go"
 rw[h1,h2,show decide ((1:Int)>-1)=true from rfl]
 walk_at "go"
 refine s_while (fun m l o=>l=_∧o=objs) 0 ⟨rfl,rfl⟩ fun m l o hI=>?_
 obtain ⟨rfl,rfl⟩:=hI
 walk_at "go"
 rw[show decide ((-1:Int)+1<1)=true from rfl]
 walk_at "go"
 rw[h3]
 walk_at "go"
 exact h
theorem f_modname {x:Str} (b:Str) (hb:b=Txt.slice x (some (Txt.rfind x "/"+1)) none) (h1:Txt.rfind b "/"=-1) (h2:Txt.rfind b "."=1) (h3:((Txt.slice b (some (-1+1)) (some (-1+1+1))).cps.toList != (Str.ofString ".").cps.toList)=true)
  (h:Q (.str (Txt.slice b none (some 1))) objs):XC (topT P fs) w (n+1+1+1+1) (.ref 955) [.str x] [] [] objs Q:=by
 refine xd (dk_955 P) (bind1 (x := "path") fun _=>rfl) (by kernel_rfl!) fun L fs=>?_
 refine ss_cons ?_
 walk_at "go"
 refine f_basename ?_
 rw[← hb]
 walk_at "go"
 refine s_unpack rfl rfl ?_
 walk_at "go"
 refine f_splitext h1 h2 h3 ?_
 refine ⟨_,a_tup2 it_tup trivial has_tup (.inl (by kernel_rfl!)) (.inl (by kernel_rfl!)),?_⟩
 walk_at "go"
 exact h
theorem mul_slash (k:Nat) (hk:k≤100000):MulOk (Str.ofString "/") (k:Int)∧Txt.mul (Str.ofString "/") (k:Int)=mk (List.replicate k 47):=by
 have e1:(Str.ofString "/").length=1:=by decide +kernel
 have ec:(Str.ofString "/").cps=#[47]:=by decide +kernel
 have hs:Builtin.Str.tooLong (1 * k)=false:=by
  unfold Builtin.Str.tooLong sizeLine
  exact decide_eq_false (by lia)
 refine ⟨⟨?_,fun h1 _=>?_,fun h1 _=>?_⟩,?_⟩
 ·rw[Bool.or_eq_false_iff];exact ⟨decide_eq_false (by lia),decide_eq_false (by lia)⟩
 ·rw[e1]
  have:(1:Int)≤(2 ^ 63 - 1) / (k:Int):=Int.le_ediv_of_mul_le (by lia) (by lia)
  lia
 ·rw[e1,show ((k:Int)).toNat=k by lia];exact hs
 ·unfold Txt.mul
  by_cases h0:k=0
  ·subst h0;rfl
  rw[if_neg (by lia)]
  have aux:∀ (j:Nat) (acc:Array Nat),((List.replicate j (#[47]:Array Nat)).foldl (·++·) acc)=(acc.toList++List.replicate j 47).toArray:=by
   intro j
   induction j with
   | zero=>intro acc;simp
   | succ j ih=>intro acc;rw[List.replicate_succ,List.foldl_cons,ih];simp [List.replicate_succ]
  by_cases h1:k=1
  ·subst h1;decide +kernel
  ·rw[if_neg (by rw[e1];simp;lia),ec,show ((k:Int)).toNat=k by lia,aux];rfl
noncomputable def dirP (x:Str):Str :=
 let head:=Txt.slice x none (some (Txt.rfind x "/"+1))
 match (head.length:Int) != 0 with
 | false=>head
 | true=>match head.cps.toList != List.replicate head.length 47 with
  | true=>Txt.rstripChars head "/"
  | false=>head
theorem f_dirname {x:Str} (hx:x.length≤100000) (h:Q (.str (dirP x)) objs):XC (topT P fs) w (n+1+1) (.ref 145) [.str x] [] [] objs Q:=by
 refine xd (dk_145 P) (bind1 (x := "p") fun _=>rfl) (by kernel_rfl!) fun L fs=>?_
 unfold dirP at h
 dsimp only at h
 refine ss_cons ?_
 walk_at "go"
 refine f_fspath ?_
 walk_at "go"
 refine f_get_sep ?_
 walk_at "go"
 have hle:=Txt.slice_le x none (some (Txt.rfind x "/"+1))
 generalize Txt.slice x none (some (Txt.rfind x (Str.ofString "/")+1))=head at h hle
 walk_at "sp" <;> rename_i h1 <;> rw[h1] at h <;> walk_at "go"
 ·obtain ⟨m1,m2⟩:=mul_slash head.length (by lia)
  refine o_mul_str ?_ m1 (by rw[m2,mk_len,List.length_replicate];exact Nat.le_trans (show _≤100000 by lia) (by decide))
  walk_at "go"
  rw[m2,show (mk (List.replicate head.length 47)).cps.toList=List.replicate head.length 47 from L_mk _]
  walk_at "sp" <;> rename_i h2 <;> rw[h2] at h <;> walk_at "go" <;> exact h
 ·exact h
end
section
variable {P:Params} {fs:List Env} {w:World} {n:Nat} {objs:List AO} {Q:D→List AO→Prop}
noncomputable def keepC (c:Str):Bool:=((c.length:Int) != 0) && !(c.cps.toList==(Str.ofString ".").cps.toList)
noncomputable def normP (x:Str):Str :=
 let r:=(rootP x).1++Txt.join (Str.ofString "/") ((Txt.split (rootP x).2 (Str.ofString "/")).filter keepC)
 match (r.length:Int) != 0 with
 | true=>r
 | false=>Str.ofString "."
structure NormOk (x:Str):Prop where
 ne:((x.length:Int) != 0)=true
 len:x.length≤100000
 two:∀ c∈Txt.split (rootP x).2 (Str.ofString "/"),(c.cps.toList != (Str.ofString "..").cps.toList)=true∧c.length≤100000
 num:(Txt.split (rootP x).2 (Str.ofString "/")).length≤1000
 join:JoinOk (Str.ofString "/") ((Txt.split (rootP x).2 (Str.ofString "/")).filter keepC)=true
 sum:(rootP x).1.length+(Txt.join (Str.ofString "/") ((Txt.split (rootP x).2 (Str.ofString "/")).filter keepC)).length≤100000
theorem take_step {l:List Str} {i:Nat} {c:Str} (h:l[i]?=some c) (f:Str→Bool):(l.take (i+1)).filter f=if f c then (l.take i).filter f++[c] else (l.take i).filter f:=by
 rw[List.take_add_one,h,List.filter_append]
 by_cases e:f c=true
 ·simp [e]
 ·simp [e]
theorem strD_get {l:List Str} {i:Nat} {d:D} (h:(strD l)[i]?=some d):∃ c,l[i]?=some c∧d=.str c:=by
 unfold strD at h
 rw[List.getElem?_map] at h
 cases e:l[i]? with
 | none=>rw[e] at h;cases h
 | some c=>rw[e] at h;cases h;exact ⟨c,rfl,rfl⟩
theorem f_pnormpath {x:Str} (hx:NormOk x) (h:Q (.str (normP x)) (objs++[.lst (strD ((Txt.split (rootP x).2 (Str.ofString "/")).filter keepC))])):XC (topT P fs) w (n+1+1+1) (.ref 152) [.str x] [] [] objs Q:=by
 refine xd (dk_152 P) (bind1 (x := "path") fun _=>rfl) (by kernel_rfl!) fun L fs=>?_
 refine ss_cons ?_
 walk_at "go"
 refine f_fspath ?_
 walk_at "go"
 rw[hx.ne]
 walk_at "go"
 refine s_unpack rfl rfl ?_
 walk_at "go"
 refine f_psplitroot ?_
 refine ⟨_,a_tup3 it_tup trivial has_tup (.inl (by kernel_rfl!)) (.inl (by kernel_rfl!)) (.inl (by kernel_rfl!)),?_⟩
 walk_at "go"
 refine c_split ?_ rfl (fun c hc=>Nat.le_trans (hx.two c hc).2 (by decide)) (Nat.le_trans hx.num (by decide))
 walk_at "go"
 refine for_list _ (Sub.refl _) (fun _=>rfl) (.inl (by kernel_rfl!)) ?_
 walk_at "go"
 refine ⟨fun i o=>o=objs++[.lst (strD (((Txt.split (rootP x).2 (Str.ofString "/")).take i).filter keepC))],rfl,fun i o dd hdd _ ho=>?_,fun o ho=>?_⟩
 ·obtain ⟨c,hc,rfl⟩:=strD_get hdd
  subst ho
  have hst:=take_step hc keepC
  have hmem:c∈Txt.split (rootP x).2 (Str.ofString "/"):=List.mem_of_getElem? hc
  have hk:keepC c=(((c.length:Int) != 0) && !(c.cps.toList==(Str.ofString ".").cps.toList)):=rfl
  refine ss_cons ?_
  walk_at "go"
  have hsz:(strD (((Txt.split (rootP x).2 (Str.ofString "/")).take i).filter keepC)).length+1≤100000:=by
   unfold strD
   rw[List.length_map]
   have h1:=List.length_filter_le keepC ((Txt.split (rootP x).2 (Str.ofString "/")).take i)
   have h2:=List.length_take_le i (Txt.split (rootP x).2 (Str.ofString "/"))
   have h3:=hx.num
   have h4:((Txt.split (rootP x).2 (Str.ofString "/")).take i).length≤(Txt.split (rootP x).2 (Str.ofString "/")).length:=by rw[List.length_take];exact Nat.min_le_right _ _
   lia
  cases h1:((c.length:Int) != 0) <;> walk_at "go"
  ·rw[h1,Bool.false_and] at hk
   rw[hk,if_neg (by decide)] at hst
   exact ⟨rfl,.cons (by kernel_rfl!) (.refl _),by rw[hst]⟩
  ·cases h2:(c.cps.toList==(Str.ofString ".").cps.toList) <;> walk_at "go"
   ·rw[(hx.two c hmem).1]
    walk_at "go"
    refine c_append_last hsz ?_
    walk_at "go"
    rw[h1,h2] at hk
    rw[hk,if_pos (by decide)] at hst
    refine ⟨rfl,.cons (by kernel_rfl!) (.refl _),?_⟩
    rw[hst];simp [strD]
   ·rw[h1,h2] at hk
    rw[hk,if_neg (by decide)] at hst
    exact ⟨rfl,.cons (by kernel_rfl!) (.refl _),by rw[hst]⟩
 ·subst ho
  rw[show (strD (Txt.split (rootP x).2 (Str.ofString "/"))).length=(Txt.split (rootP x).2 (Str.ofString "/")).length from List.length_map _,List.take_length]
  walk_at "go"
  refine c_join asL_last hx.join ?_
  walk_at "go"
  refine o_add_str ?_ (Nat.le_trans hx.sum (by decide))
  walk_at "go"
  unfold normP at h
  dsimp only at h
  walk_at "sp" <;> rename_i h1 <;> rw[h1] at h <;> walk_at "go" <;> exact h
end
section
variable {P:Params} {fs:List Env} {w:World} {n:Nat} {objs:List AO} {Q:D→List AO→Prop}
theorem norm_len {x:Str} (hx:NormOk x):(normP x).length≤100000:=by
 unfold normP
 try dsimp only
 split
 ·rw[size_cat];exact hx.sum
 ·decide +kernel
theorem f_normpath2 {x:Str} (hx:NormOk x) (h:Q (.str (normP x)) (objs++[.lst (strD ((Txt.split (rootP x).2 (Str.ofString "/")).filter keepC))])):XC (topT P fs) w (n+1+1+1) (.ref 796) [.str x] [] [] objs Q:=by
 refine xd (dk_796 P) (bind1 (x := "path") fun _=>rfl) (by kernel_rfl!) fun L fs=>?_
 refine ss_cons ?_
 walk_at "go"
 rw[hx.ne]
 walk_at "go"
 refine s_unpack rfl rfl ?_
 walk_at "go"
 refine f_splitroot hx.len ?_
 refine ⟨_,a_tup3 it_tup trivial has_tup (.inl (by kernel_rfl!)) (.inl (by kernel_rfl!)) (.inl (by kernel_rfl!)),?_⟩
 walk_at "go"
 refine c_split ?_ rfl (fun c hc=>Nat.le_trans (hx.two c hc).2 (by decide)) (Nat.le_trans hx.num (by decide))
 walk_at "go"
 refine for_list _ (Sub.refl _) (fun _=>rfl) (.inl (by kernel_rfl!)) ?_
 walk_at "go"
 refine ⟨fun i o=>o=objs++[.lst (strD (((Txt.split (rootP x).2 (Str.ofString "/")).take i).filter keepC))],rfl,fun i o dd hdd _ ho=>?_,fun o ho=>?_⟩
 ·obtain ⟨c,hc,rfl⟩:=strD_get hdd
  subst ho
  have hst:=take_step hc keepC
  have hmem:c∈Txt.split (rootP x).2 (Str.ofString "/"):=List.mem_of_getElem? hc
  have hk:keepC c=(((c.length:Int) != 0) && !(c.cps.toList==(Str.ofString ".").cps.toList)):=rfl
  refine ss_cons ?_
  walk_at "go"
  have hsz:(strD (((Txt.split (rootP x).2 (Str.ofString "/")).take i).filter keepC)).length+1≤100000:=by
   unfold strD
   rw[List.length_map]
   have h1:=List.length_filter_le keepC ((Txt.split (rootP x).2 (Str.ofString "/")).take i)
   have h3:=hx.num
   have h4:((Txt.split (rootP x).2 (Str.ofString "/")).take i).length≤(Txt.split (rootP x).2 (Str.ofString "/")).length:=by rw[List.length_take];exact Nat.min_le_right _ _
   lia
  cases h1:((c.length:Int) != 0) <;> walk_at "go"
  ·rw[h1,Bool.false_and] at hk
   rw[hk,if_neg (by decide)] at hst
   exact ⟨rfl,.cons (by kernel_rfl!) (.refl _),by rw[hst]⟩
  ·cases h2:(c.cps.toList==(Str.ofString ".").cps.toList) <;> walk_at "go"
   ·rw[(hx.two c hmem).1]
    walk_at "go"
    refine c_append_last hsz ?_
    walk_at "go"
    rw[h1,h2] at hk
    rw[hk,if_pos (by decide)] at hst
    refine ⟨rfl,.cons (by kernel_rfl!) (.refl _),?_⟩
    rw[hst];simp [strD]
   ·rw[h1,h2] at hk
    rw[hk,if_neg (by decide)] at hst
    exact ⟨rfl,.cons (by kernel_rfl!) (.refl _),by rw[hst]⟩
 ·subst ho
  rw[show (strD (Txt.split (rootP x).2 (Str.ofString "/"))).length=(Txt.split (rootP x).2 (Str.ofString "/")).length from List.length_map _,List.take_length]
  walk_at "go"
  refine c_join asL_last hx.join ?_
  walk_at "go"
  refine o_add_str ?_ (Nat.le_trans hx.sum (by decide))
  walk_at "go"
  have hn:=norm_len hx
  unfold normP at h hn
  dsimp only at h hn
  walk_at "sp" <;> rename_i h1
  ·have h1':(((((rootP x).1++Txt.join (Str.ofString "/") ((Txt.split (rootP x).2 (Str.ofString "/")).filter keepC)).length:Int) != 0))=false:=by
    cases e:(((((rootP x).1++Txt.join (Str.ofString "/") ((Txt.split (rootP x).2 (Str.ofString "/")).filter keepC)).length:Int) != 0)) with
    | false=>rfl
    | true=>rw[e] at h1;cases h1
   rw[h1'] at h
   walk_at "go"
   exact h
  ·have h1':(((((rootP x).1++Txt.join (Str.ofString "/") ((Txt.split (rootP x).2 (Str.ofString "/")).filter keepC)).length:Int) != 0))=true:=by
    cases e:(((((rootP x).1++Txt.join (Str.ofString "/") ((Txt.split (rootP x).2 (Str.ofString "/")).filter keepC)).length:Int) != 0)) with
    | true=>rfl
    | false=>rw[e] at h1;cases h1
   rw[h1'] at h hn
   walk_at "go"
   refine f_shelf hn ?_
   walk_at "go"
   exact h
end
section
variable {fs:List Env} {w:World} {n:Nat} {objs:List AO} {Q:D→List AO→Prop}
noncomputable def qtS (x:Str):Str:=mk (qt (L x))
theorem f_join {kk:Nat} {b:Bool} {xs:List Str} (ht:objs[kk]?=some (.tab b)) (hl:xs.length≤1000) (hx:∀ x∈xs,x.length≤1000) (hok:JoinOk (Str.ofString " ") (xs.map qtS)=true) (h:Q (.str (Txt.join (Str.ofString " ") (xs.map qtS))) (objs.set kk (.tab true))):XC (topT w.params fs) w (n+4) (.ref 913) [.list (strD xs)] [] [] objs Q:=by
 refine xd (dk_913 _) (bind1 (x := "split_command") fun _=>rfl) (by kernel_rfl!) fun L fs=>?_
 refine ss_cons (s_return ?_)
 refine ev_joingen (n:=n+1) (c:=912) (ld:=strD xs) (texts:=xs.map qtS) rfl rfl rfl rfl rfl (by kernel_rfl!) (by kernel_rfl!) rfl (fun _=>rfl) rfl (fun K s X=>tab_code X ht) tab_up top_bm ht ?_ (by simp [strD]) (by rw[List.length_map];lia) hok (fun C code i d hd=>?_) h
 ·walk_at "go"
  exact ⟨rfl,rfl⟩
 ·obtain ⟨c,hc,rfl⟩:=strD_get hd
  show EvE (topT w.params _) w (n+1) _ _ _ _ _
  walk_at "go"
  refine f_quote (hx c (List.mem_of_getElem? hc)) ⟨?_,rfl⟩
  unfold strD
  rw[List.map_map,List.getElem?_map,hc]
  rfl
end
theorem Sub.nil {l':List (Str×D)}:Sub [] l':=fun _ _ e=>by cases e
theorem Sub.add {l l':List (Str×D)} {x:Str} {d:D} (h:lk l' x=some d) (r:Sub l l'):Sub ((x,d) :: l) l':=fun y e hy=>by
 rw[lk_cons] at hy
 by_cases q:y=x
 ·rw[if_pos q] at hy;cases hy;rw[q];exact h
 ·rw[if_neg q] at hy;exact r y e hy
theorem strD_take (l:List Str) (k:Nat):(strD l).take k=strD (l.take k):=by simp [strD]
theorem strD_drop1 {l:List Str} {m:Nat} (h:m+1≤l.length):(strD (l.take (m+1))).dropLast=strD (l.take m):=by
 have e:(l.take (m+1)).dropLast=l.take m:=by
  rw[List.dropLast_eq_take,List.length_take,Nat.min_eq_left h,List.take_take]
  congr 1
  lia
 unfold strD
 rw[← List.map_dropLast,e]
theorem nat_beq (a b:Nat):((a:Int)==(b:Int))=(a==b):=by
 by_cases e:a=b
 ·subst e;simp
 ·rw[beq_eq_false_iff_ne.mpr e,beq_eq_false_iff_ne.mpr (by lia)]
structure File where
 word:Str
 sl:Nat
 way:List Str
 lett:Str
noncomputable def fileD (f:File):D:=.list [.str f.word,.int f.sl,.list (strD f.way),.str f.lett]
noncomputable def shrAt (sh w:List Str):Nat→List Str
 | 0=>sh.take 0
 | i+1=>if w.take (i+1)=sh.take (i+1) then sh.take (i+1) else shrAt sh w i
noncomputable def shr (sh w:List Str):List Str:=shrAt sh w sh.length
noncomputable def rootedF (fg:List File):List File:=fg.filter fun f=>decide ((f.sl:Int)>0)
noncomputable def sharedF (fg:List File):List Str:=fg.foldl (fun sh f=>shr sh f.way) ((fg.head?.map (·.way)).getD [])
noncomputable def rootF (fg:List File):Nat:=if (rootedF fg).isEmpty then 0 else 1
noncomputable def leftF (sh:List Str) (root:Nat) (f:File):Bool:=if sh=[] then root==1 && f.sl==2 else f.sl==root && decide (f.way.take sh.length=sh)
noncomputable def ansF (sh:List Str) (root:Nat) (f:File):D:=.list [.str f.lett,.str (if leftF sh root f then Str.ofString "1" else Str.ofString "0")]
noncomputable def refusedF (fg:List File):Bool:=fg.isEmpty || !decide (((rootedF fg).length:Int)∈[(0:Int),fg.length])
noncomputable def dueF (fg fe:List File):D:=if refusedF fg then .str (Str.ofString "refused") else
 .list [.str (Txt.mul (Str.ofString "/") (rootF fg:Nat)++Txt.join (Str.ofString "/") (sharedF fg)),.list (fe.map (ansF (sharedF fg) (rootF fg)))]
theorem asL_app {objs:List AO} {d:D} {l:List D} {x:List AO} (h:asL objs d=some l):asL (objs++x) d=some l:=by
 cases d with
 | list l'=>exact h
 | obj k =>
  have h:(match objs[k]? with | some (.lst l)=>some l | _=>none)=some l:=h
  show (match (objs++x)[k]? with | some (.lst l)=>some l | _=>none)=some l
  cases q:objs[k]? with
  | none=>rw[q] at h;cases h
  | some ao=>rw[List.getElem?_append_left (List.getElem?_eq_some_iff.mp q).1,q];rw[q] at h;exact h
 | _=>cases h
theorem und_ans {sh:List Str} {root:Nat} (m:Nat):∀ (l:List File),D.und m (.list (l.map (ansF sh root)))=true
 | []=>rfl
 | f :: l=>by
  have:=und_ans (sh:=sh) (root:=root) m l
  simpa [ansF,D.und,D.unds] using this
theorem takeF {α:Type} {l:List α} {i:Nat} {c:α} (h:l[i]?=some c) (p:α→Bool):(l.take (i+1)).filter p=if p c then (l.take i).filter p++[c] else (l.take i).filter p:=by
 rw[List.take_add_one,h,List.filter_append]
 cases e:p c <;> simp [e]
section
variable {fs:List Env} {w:World} {n:Nat} {objs:List AO} {Q:D→List AO→Prop}
theorem f_law_due {g every:D} {fg fe:List File} (hg:asL objs g=some (fg.map fileD)) (he:asL objs every=some (fe.map fileD)) (hgn:fg.length≤100) (hen:fe.length≤100) (hjo:JoinOk (Str.ofString "/") (sharedF fg)=true) (hjl:(Txt.join (Str.ofString "/") (sharedF fg)).length≤1000) (h:Q (dueF fg fe) objs):XC (topT w.params fs) w (n+2) (.ref 970) [g,every] [] [] objs Q:=by
 refine xc_drop ?_
 refine xd (dk_970 _) (bind2 (x := "group") (y := "every") fun _ _=>rfl) (by kernel_rfl!) fun L fs=>?_
 refine ss_cons ?_
 refine s_assign_comp (comp_ok0 (by kernel_rfl!)) rfl (.inl (by kernel_rfl!)) (fun _=>rfl) (fun _ _=>rfl) ?_
 walk_at "go"
 refine ⟨fg.map fileD,_,invF objs (fun p=>(p.filter fun f=>decide ((f.sl:Int)>0)).map fileD) fg,it_list hg,hg,⟨rfl,rfl⟩,by rw[List.length_map];lia,CompT.fn fun C i f hf=>?_,finF ?_⟩
 ·refine ⟨_,l_name (by kernel_rfl!),.cons (by kernel_rfl!) (.refl _),ts_one ?_⟩
  walk_at "go"
  refine i_list (l:=[.str f.word,.int f.sl,.list (strD f.way),.str f.lett]) rfl (by decide) rfl ?_
  walk_at "go"
  have hst:=takeF hf fun f=>decide ((f.sl:Int)>0)
  refine k_test (fun h1=>?_) fun h1=>⟨hg,rfl,by dsimp only;rw[hst,h1];rfl⟩
  ·walk_at "go"
   rw[h1,if_pos rfl] at hst
   exact ⟨hg,rfl,by dsimp only;rw[hst,List.map_append];rfl⟩
 ·walk_at "go"
  refine o_eq_nil hg rfl ?_
  cases fg with
  | nil =>
   dsimp only [List.map,List.isEmpty]
   walk_at "go"
   exact ⟨objs,[],_,(List.append_nil _).symm,rfl,.inl rfl,.str _,h⟩
  | cons f0 fr =>
   rw[show (List.map fileD (f0 :: fr)).isEmpty=false from rfl]
   walk_at "go"
   refine c_len_list rfl ?_
   walk_at "go"
   refine c_len_list hg ?_
   walk_at "go"
   refine o_nin_ints (l:=[0,((f0 :: fr).length:Int)]) (by rw[List.length_map];rfl) ?_
   rw[List.length_map]
   have hrf:refusedF (f0 :: fr)=!decide ((((f0 :: fr).filter fun f=>decide ((f.sl:Int)>0)).length:Int)∈[(0:Int),(f0 :: fr).length]):=rfl
   walk_at "go"
   refine k_or (fun hd=>?_) fun hd=>?_
   rotate_left
   ·unfold dueF at h
    rw[if_pos (hrf.trans hd)] at h
    walk_at "go"
    exact ⟨objs,[],_,(List.append_nil _).symm,rfl,.inl rfl,.str _,h⟩
   ·unfold dueF at h
    rw[if_neg (fun q=>Bool.false_ne_true ((hrf.trans hd).symm.trans q))] at h
    walk_at "go"
    refine i_list hg (by decide) (d:=fileD f0) rfl ?_
    walk_at "go"
    refine i_list (l:=[.str f0.word,.int f0.sl,.list (strD f0.way),.str f0.lett]) rfl (by decide) rfl ?_
    walk_at "go"
    generalize hrt:D.list (List.map fileD (List.filter (fun f=>decide ((f.sl:Int)>0)) (f0 :: fr)))=rt
    refine s_for (fun _=>rfl) (fun _ _=>rfl) ?_
    walk_at "go"
    refine ⟨(f0 :: fr).map fileD,_,invL (fun _=>objs) (fun i=>[(Str.ofString "shared",.list (strD (((f0 :: fr).take i).foldl (fun sh f=>shr sh f.way) f0.way))),(Str.ofString "rooted",rt),(Str.ofString "group",g),(Str.ofString "every",every)]),it_list hg,hg,⟨rfl,.refl _⟩,ForOk.fn (.inl (by kernel_rfl!)) (fun i f hf=>?_) ?_⟩
    ·have hfold:((f0 :: fr).take (i+1)).foldl (fun sh f=>shr sh f.way) f0.way=shr (((f0 :: fr).take i).foldl (fun sh f=>shr sh f.way) f0.way) f.way:=by
      rw[List.take_add_one,hf];simp
     generalize (((f0 :: fr).take i).foldl (fun sh f=>shr sh f.way) f0.way)=sh at hfold ⊢
     refine ss_cons ?_
     refine s_whileF (fun k:Nat=>[(Str.ofString "shared",.list (strD (sh.take k))),(Str.ofString "one",fileD f),(Str.ofString "rooted",rt),(Str.ofString "group",g),(Str.ofString "every",every)]) id (fun k=>k≤sh.length∧shrAt sh f.way k=shr sh f.way) sh.length
      (by rw[List.take_length];exact .add (by walk_at "l") (.add (by walk_at "l") (.add (by walk_at "l") (.add (by walk_at "l") (.add (by walk_at "l") .nil))))) ⟨Nat.le_refl _,rfl⟩ fun m hP=>?_
     have hk:=hP.1
     have hs:=hP.2
     walk_at "go"
     refine i_list (l:=[.str f.word,.int f.sl,.list (strD f.way),.str f.lett]) rfl (by decide) rfl ?_
     walk_at "go"
     refine c_len_list rfl ?_
     have hkl:(strD (sh.take m)).length=m:=by unfold strD;rw[List.length_map,List.length_take];exact Nat.min_eq_left hk
     rw[hkl]
     try dsimp only
     refine sl_list (l:=strD f.way) (l':=strD (f.way.take m)) rfl (by rw[slcD,if_pos (Int.natCast_nonneg m),Int.toNat_natCast,strD_take]) ?_
     walk_at "go"
     refine o_ne_strs rfl rfl ?_
     cases m with
     | zero =>
      rw[show decide (f.way.take 0=sh.take 0)=true from rfl]
      walk_at "go"
      refine ⟨hg,rfl,?_⟩
      dsimp only
      rw[hfold,← hs,shrAt]
      exact .add (by walk_at "l") (.add (by walk_at "l") (.add (by walk_at "l") (.add (by walk_at "l") .nil)))
     | succ m =>
      unfold shrAt at hs
      cases hd:decide (f.way.take (m+1)=sh.take (m+1)) <;> walk_at "go"
      ·rw[if_neg (of_decide_eq_false hd)] at hs
       refine sl_list (l:=strD (sh.take (m+1))) (l':=strD (sh.take m)) rfl (by
        rw[slcD,if_neg (by decide),if_pos rfl,strD_drop1 hk]) ?_
       walk_at "go"
       exact ⟨m,Nat.lt_succ_self _,m,.add (by walk_at "l") (.add (by walk_at "l") (.add (by walk_at "l") (.add (by walk_at "l") (.add (by walk_at "l") .nil)))),rfl,rfl,by lia,hs⟩
      ·rw[if_pos (of_decide_eq_true hd)] at hs
       refine ⟨hg,rfl,?_⟩
       dsimp only
       rw[hfold,← hs]
       exact .add (by walk_at "l") (.add (by walk_at "l") (.add (by walk_at "l") (.add (by walk_at "l") .nil)))
    ·rw[List.take_length]
     refine ss_nil ?_
     subst hrt
     refine ss_cons (s_assign (Or.inl (by kernel_rfl!)) rfl (EvE.to (.int (rootF (f0 :: fr):Nat)) objs ?_ ?_))
     ·walk_at "go"
      refine o_ne_nil rfl rfl ?_
      have hr:rootF (f0 :: fr)=if (List.map fileD (List.filter (fun f=>decide ((f.sl:Int)>0)) (f0 :: fr))).isEmpty then 0 else 1:=by rw[List.isEmpty_map];rfl
      cases hb:(List.map fileD (List.filter (fun f=>decide ((f.sl:Int)>0)) (f0 :: fr))).isEmpty <;> walk_at "go"
      ·rw[hb] at hr;exact ⟨by rw[hr];rfl,rfl⟩
      ·rw[hb] at hr;exact ⟨by rw[hr];rfl,rfl⟩
     ·rw[show List.foldl (fun sh f=>shr sh f.way) f0.way (f0 :: fr)=sharedF (f0 :: fr) from rfl]
      have hroot1:rootF (f0 :: fr)≤1:=by unfold rootF;split <;> lia
      generalize sharedF (f0 :: fr)=sh at h hjo hjl ⊢
      generalize rootF (f0 :: fr)=root at h hroot1 ⊢
      generalize D.list (List.map fileD (List.filter (fun f=>decide ((f.sl:Int)>0)) (f0 :: fr)))=rt
      try dsimp only
      walk_at "go"
      refine s_for (fun _=>rfl) (fun _ _=>rfl) ?_
      walk_at "go"
      refine ⟨fe.map fileD,fun o'=>asL o' every=some (fe.map fileD),invL (fun i=>objs++[.lst ((fe.take i).map (ansF sh root))]) (fun _=>[(Str.ofString "answers",.obj objs.length),(Str.ofString "root",.int root),(Str.ofString "shared",.list (strD sh))]),it_list (asL_app he),asL_app he,⟨rfl,.add (by walk_at "l") (.add (by walk_at "l") (.add (by walk_at "l") .nil))⟩,ForOk.fn (.inl (by kernel_rfl!)) (fun i f hf=>?_) ?_⟩
      ·have htk:(fe.take (i+1)).map (ansF sh root)=(fe.take i).map (ansF sh root)++[ansF sh root f]:=by rw[List.take_add_one,hf];simp
       have hln:((fe.take i).map (ansF sh root)).length+1≤100000:=by rw[List.length_map,List.length_take];lia
       generalize (fe.take i).map (ansF sh root)=done at hln htk ⊢
       refine ss_cons (EvS.to [(Str.ofString "left",.bool (leftF sh root f)),(Str.ofString "one",fileD f),(Str.ofString "answers",.obj objs.length),(Str.ofString "root",.int root),(Str.ofString "shared",.list (strD sh))] (objs++[.lst done]) ?_ ?_)
       ·walk_at "go"
        refine o_eq_nil rfl rfl ?_
        cases sh with
        | nil =>
         rw[show (strD ([]:List Str)).isEmpty=true from rfl]
         walk_at "go"
         rw[show ((root:Int)==1)=(root==1) from nat_beq root 1]
         have hlf:leftF [] root f=(root==1 && f.sl==2):=rfl
         refine k_andv (fun hb=>?_) fun hb=>?_
         rotate_left
         ·walk_at "go"
          exact ⟨rfl,by rw[hlf,hb];rfl,rfl⟩
         ·walk_at "go"
          refine i_list (l:=[.str f.word,.int f.sl,.list (strD f.way),.str f.lett]) rfl (by decide) rfl ?_
          walk_at "go"
          rw[show ((f.sl:Int)==2)=(f.sl==2) from nat_beq f.sl 2]
          rw[hb] at hlf
          exact ⟨rfl,by rw[hlf];rfl,rfl⟩
        | cons s0 sr =>
         rw[show (strD (s0 :: sr)).isEmpty=false from rfl]
         walk_at "go"
         refine i_list (l:=[.str f.word,.int f.sl,.list (strD f.way),.str f.lett]) rfl (by decide) rfl ?_
         walk_at "go"
         rw[nat_beq f.sl root]
         have hlf:leftF (s0 :: sr) root f=(f.sl==root && decide (f.way.take (s0 :: sr).length=s0 :: sr)):=if_neg (fun e=>by cases e)
         refine k_andv (fun hb=>?_) fun hb=>?_
         rotate_left
         ·walk_at "go"
          exact ⟨rfl,by rw[hlf,hb];rfl,rfl⟩
         ·walk_at "go"
          refine i_list (l:=[.str f.word,.int f.sl,.list (strD f.way),.str f.lett]) rfl (by decide) rfl ?_
          walk_at "go"
          refine c_len_list rfl ?_
          try dsimp only
          refine sl_list (l:=strD f.way) (l':=strD (f.way.take (s0 :: sr).length)) rfl (by rw[slcD,if_pos (Int.natCast_nonneg _),Int.toNat_natCast,strD_take];unfold strD;rw[List.length_map]) ?_
          walk_at "go"
          refine o_eq_strs rfl rfl ?_
          walk_at "go"
          rw[hb] at hlf
          exact ⟨rfl,by rw[hlf];rfl,rfl⟩
       ·walk_at "go"
        refine i_list (l:=[.str f.word,.int f.sl,.list (strD f.way),.str f.lett]) rfl (by decide) rfl ?_
        walk_at "go"
        have hans:ansF sh root f=.list [.str f.lett,.str (if leftF sh root f then Str.ofString "1" else Str.ofString "0")]:=rfl
        cases hb:leftF sh root f <;> walk_at "go"
        ·rw[hb] at hans
         refine c_append_last hln ?_
         walk_at "go"
         exact ⟨asL_app he,by dsimp only;rw[htk,hans];rfl,.add (by walk_at "l") (.add (by walk_at "l") (.add (by walk_at "l") .nil))⟩
        ·rw[hb] at hans
         refine c_append_last hln ?_
         walk_at "go"
         exact ⟨asL_app he,by dsimp only;rw[htk,hans];rfl,.add (by walk_at "l") (.add (by walk_at "l") (.add (by walk_at "l") .nil))⟩
      ·rw[List.take_length]
       walk_at "go"
       refine o_mul_str ?_ (mul_slash root (by lia)).1 (by rw[(mul_slash root (by lia)).2,mk_len,List.length_replicate];exact Nat.le_trans (show _≤100000 by lia) (by decide))
       walk_at "go"
       refine c_join (texts:=sh) rfl hjo ?_
       walk_at "go"
       refine o_add_str ?_ (by rw[(mul_slash root (by lia)).2,mk_len,List.length_replicate];exact Nat.le_trans (show _≤100000 by lia) (by decide))
       walk_at "go"
       have z:Fz (objs++[.lst (fe.map (ansF sh root))]) objs.length (.list (fe.map (ansF sh root))) (.list (fe.map (ansF sh root))):=D.und_fz (und_ans _ fe)
       cases z with
       | list z=>exact dropped (new:=[.lst (fe.map (ansF sh root))]) (.list (.cons (.str _) (.cons (.melt (Nat.le_refl _) (by rw[List.getElem?_append_right (Nat.le_refl _),Nat.sub_self];rfl) z) .nil))) h
end
section
open PySem
noncomputable def lcp:List Str→List Str→List Str
 | a :: as,b :: bs=>if a=b then a :: lcp as bs else []
 | _,_=>[]
theorem pre_lcp:∀ (p a b:List Str),p <+: lcp a b↔p <+: a∧p <+: b
 | [],a,b=>⟨fun _=>⟨List.nil_prefix,List.nil_prefix⟩,fun _=>List.nil_prefix⟩
 | x :: p,[],b=>by simp [lcp]
 | x :: p,a :: as,[]=>by simp [lcp]
 | x :: p,a :: as,b :: bs=>by
  unfold lcp
  by_cases h:a=b
  ·subst h
   rw[if_pos rfl,List.cons_prefix_cons,List.cons_prefix_cons,List.cons_prefix_cons,pre_lcp p as bs]
   constructor
   ·rintro ⟨h1,h2,h3⟩;exact ⟨⟨h1,h2⟩,h1,h3⟩
   ·rintro ⟨⟨h1,h2⟩,_,h3⟩;exact ⟨h1,h2,h3⟩
  ·rw[if_neg h,List.cons_prefix_cons,List.cons_prefix_cons]
   constructor
   ·intro h;cases (List.prefix_nil.mp h)
   ·rintro ⟨⟨h1,_⟩,h2,_⟩;exact absurd (h1.symm.trans h2) h
theorem pre_ext {a b:List Str} (h:∀ p,p <+: a↔p <+: b):a=b:=by
 have h1:=(h a).mp (List.prefix_refl _)
 have h2:=(h b).mpr (List.prefix_refl _)
 exact h1.eq_of_length_le h2.length_le
theorem pre_shrAt (sh w:List Str):∀ (i:Nat),i≤sh.length→∀ p,p <+: shrAt sh w i↔p <+: sh.take i∧p <+: w
 | 0,_,p=>by
  show p <+: sh.take 0↔_
  rw[List.take_zero]
  constructor
  ·intro h;rw[List.prefix_nil.mp h];exact ⟨List.nil_prefix,List.nil_prefix⟩
  ·intro h;exact h.1
 | i+1,hi,p=>by
  unfold shrAt
  by_cases e:w.take (i+1)=sh.take (i+1)
  ·rw[if_pos e]
   constructor
   ·intro h;exact ⟨h,(e▸h).trans (List.take_prefix _ _)⟩
   ·intro h;exact h.1
  ·rw[if_neg e,pre_shrAt sh w i (by lia) p]
   constructor
   ·rintro ⟨h1,h2⟩
    exact ⟨h1.trans (List.take_prefix_take_left (by lia)),h2⟩
   ·rintro ⟨h1,h2⟩
    refine ⟨?_,h2⟩
    have hp:p.length≤i:=by
     have hl:=h1.length_le
     rw[List.length_take,Nat.min_eq_left hi] at hl
     rcases Nat.lt_or_ge i p.length with q | q
     ·exfalso
      have hpe:p.length=i+1:=by lia
      have h3:p=sh.take (i+1):=h1.eq_of_length (by rw[List.length_take,Nat.min_eq_left hi,hpe])
      have h4:p=w.take (i+1):=by rw[← hpe];exact List.prefix_iff_eq_take.mp h2
      exact e (h4.symm.trans h3)
     ·exact q
    exact List.prefix_take_iff.mpr ⟨h1.trans (List.take_prefix _ _),hp⟩
theorem pre_shr (sh w p:List Str):p <+: shr sh w↔p <+: sh∧p <+: w:=by
 unfold shr
 rw[pre_shrAt sh w _ (Nat.le_refl _),List.take_length]
theorem pre_fold (fg:List File):∀ (a p:List Str),p <+: fg.foldl (fun sh f=>shr sh f.way) a↔p <+: a∧∀ f∈fg,p <+: f.way:=by
 induction fg with
 | nil=>intro a p;simp
 | cons f r ih =>
  intro a p
  rw[List.foldl_cons,ih,pre_shr]
  simp [and_assoc]
theorem pre_shared (f:File) (r:List File) (p:List Str):p <+: sharedF (f :: r)↔∀ g∈f :: r,p <+: g.way:=by
 unfold sharedF
 rw[pre_fold]
 exact ⟨fun h=>h.2,fun h=>⟨h f (.head _),h⟩⟩
theorem lt_irr (a:List Str):ltL a a=false:=by
 induction a with
 | nil=>rfl
 | cons x r ih=>rw[ltL,if_pos rfl,ih]
theorem lt_tri {a b:Str} (h1:¬ L a<L b) (h2:¬ L b<L a):a=b:=L_inj (List.le_antisymm (List.not_lt.mp h2) (List.not_lt.mp h1))
theorem ltL_trans:∀ {a b c:List Str},ltL a b=true→ltL b c=true→ltL a c=true
 | [],[],_,h1,_=>by cases h1
 | _ :: _,[],_,h1,_=>by cases h1
 | _,_ :: _,[],_,h2=>by cases h2
 | [],_ :: _,_ :: _,_,_=>rfl
 | a :: as,b :: bs,c :: cs,h1,h2=>by
  rw[ltL] at h1 h2 ⊢
  by_cases e1:a=b
  ·subst e1
   rw[if_pos rfl] at h1
   by_cases e2:a=c
   ·subst e2;rw[if_pos rfl] at h2 ⊢;exact ltL_trans h1 h2
   ·rw[if_neg e2] at h2 ⊢;exact h2
  ·rw[if_neg e1] at h1
   by_cases e2:b=c
   ·subst e2;rw[if_neg e1];exact h1
   ·rw[if_neg e2] at h2
    have h1':=of_decide_eq_true h1
    have h2':=of_decide_eq_true h2
    have h3:L a<L c:=List.lt_trans h1' h2'
    by_cases e3:a=c
    ·subst e3;exact absurd h3 (List.lt_irrefl _)
    ·rw[if_neg e3];exact decide_eq_true h3
theorem pre_between:∀ {p a b c:List Str},p <+: a→p <+: c→ltL b a=false→ltL c b=false→p <+: b
 | [],_,_,_,_,_,_,_=>List.nil_prefix
 | x :: p,[],_,_,h,_,_,_=>by cases (List.prefix_nil.mp h)
 | x :: p,_ :: _,_,[],_,h,_,_=>by cases (List.prefix_nil.mp h)
 | x :: p,a :: as,[],c :: cs,_,_,h,_=>by cases h
 | x :: p,a :: as,b :: bs,c :: cs,h1,h2,h3,h4=>by
  obtain ⟨e1,k1⟩:=List.cons_prefix_cons.mp h1
  obtain ⟨e2,k2⟩:=List.cons_prefix_cons.mp h2
  subst e1;subst e2
  rw[ltL] at h3 h4
  by_cases e:b=x
  ·subst e
   rw[if_pos rfl] at h3 h4
   exact List.cons_prefix_cons.mpr ⟨rfl,pre_between k1 k2 h3 h4⟩
  ·rw[if_neg e] at h3
   rw[if_neg (Ne.symm e)] at h4
   exact absurd (lt_tri (of_decide_eq_false h3) (of_decide_eq_false h4)) e
theorem lt_tot:∀ {a b:List Str},ltL a b=false→ltL b a=false→a=b
 | [],[],_,_=>rfl
 | [],_ :: _,h,_=>by cases h
 | _ :: _,[],_,h=>by cases h
 | a :: as,b :: bs,h1,h2=>by
  rw[ltL] at h1 h2
  by_cases e:a=b
  ·subst e
   rw[if_pos rfl] at h1 h2
   rw[lt_tot h1 h2]
  ·rw[if_neg e] at h1
   rw[if_neg (Ne.symm e)] at h2
   exact absurd (lt_tri (of_decide_eq_false h1) (of_decide_eq_false h2)) e
theorem nlt_trans {a b c:List Str} (h1:ltL a b=false) (h2:ltL b c=false):ltL a c=false:=by
 cases h:ltL a c with
 | false=>rfl
 | true =>
  cases h3:ltL c b with
  | true=>rw[ltL_trans h h3] at h1;cases h1
  | false=>rw[lt_tot h3 h2,h1] at h;cases h
theorem nlt_of {a b:List Str} (h:ltL a b=true):ltL b a=false:=by
 cases h1:ltL b a with
 | false=>rfl
 | true=>have:=ltL_trans h h1;rw[lt_irr] at this;cases this
theorem min_fold:∀ (r:List (List Str)) (c:List Str),(r.foldl (fun c x=>if ltL x c then x else c) c∈c :: r)∧∀ y∈c :: r,ltL y (r.foldl (fun c x=>if ltL x c then x else c) c)=false
 | [],c=>⟨.head _,fun y hy=>by rw[List.mem_singleton.mp hy];exact lt_irr c⟩
 | x :: r,c=>by
  rw[List.foldl_cons]
  cases hb:ltL x c with
  | true =>
   obtain ⟨h1,h2⟩:=min_fold r x
   refine ⟨.tail _ h1,fun y hy=>?_⟩
   show ltL y (r.foldl _ x)=false
   rcases List.mem_cons.mp hy with rfl | hy
   ·exact nlt_trans (nlt_of hb) (h2 x (.head _))
   ·exact h2 y hy
  | false =>
   obtain ⟨h1,h2⟩:=min_fold r c
   refine ⟨?_,fun y hy=>?_⟩
   ·rcases List.mem_cons.mp h1 with h | h
    ·show r.foldl _ c∈_
     rw[h];exact .head _
    ·exact .tail _ (.tail _ h)
   ·show ltL y (r.foldl _ c)=false
    rcases List.mem_cons.mp hy with rfl | hy
    ·exact h2 y (.head _)
    ·rcases List.mem_cons.mp hy with rfl | hy
     ·exact nlt_trans hb (h2 c (.head _))
     ·exact h2 y (.tail _ hy)
theorem max_fold:∀ (r:List (List Str)) (c:List Str),(r.foldl (fun c x=>if ltL c x then x else c) c∈c :: r)∧∀ y∈c :: r,ltL (r.foldl (fun c x=>if ltL c x then x else c) c) y=false
 | [],c=>⟨.head _,fun y hy=>by rw[List.mem_singleton.mp hy];exact lt_irr c⟩
 | x :: r,c=>by
  rw[List.foldl_cons]
  cases hb:ltL c x with
  | true =>
   obtain ⟨h1,h2⟩:=max_fold r x
   refine ⟨.tail _ h1,fun y hy=>?_⟩
   show ltL (r.foldl _ x) y=false
   rcases List.mem_cons.mp hy with rfl | hy
   ·exact nlt_trans (h2 x (.head _)) (nlt_of hb)
   ·exact h2 y hy
  | false =>
   obtain ⟨h1,h2⟩:=max_fold r c
   refine ⟨?_,fun y hy=>?_⟩
   ·rcases List.mem_cons.mp h1 with h | h
    ·show r.foldl _ c∈_
     rw[h];exact .head _
    ·exact .tail _ (.tail _ h)
   ·show ltL (r.foldl _ c) y=false
    rcases List.mem_cons.mp hy with rfl | hy
    ·exact h2 y (.head _)
    ·rcases List.mem_cons.mp hy with rfl | hy
     ·exact nlt_trans (h2 c (.head _)) hb
     ·exact h2 y (.tail _ hy)
theorem shared_minmax (f:File) (r:List File):lcp (minL ((f :: r).map (·.way))) (maxL ((f :: r).map (·.way)))=sharedF (f :: r):=by
 apply pre_ext
 intro p
 rw[pre_lcp,pre_shared]
 obtain ⟨m1,m2⟩:=min_fold (r.map (·.way)) f.way
 obtain ⟨x1,x2⟩:=max_fold (r.map (·.way)) f.way
 have ex:∀ {l:List Str},l∈f.way :: r.map (·.way)→∃ g∈f :: r,g.way=l:=fun {l} h=>by
  have:l∈(f :: r).map (·.way):=h
  obtain ⟨g,hg,e⟩:=List.mem_map.mp this
  exact ⟨g,hg,e⟩
 constructor
 ·rintro ⟨h1,h2⟩ g hg
  have hm:g.way∈f.way :: r.map (·.way):=List.mem_map.mpr ⟨g,hg,rfl⟩
  exact pre_between h1 h2 (m2 _ hm) (x2 _ hm)
 ·intro h
  obtain ⟨g1,hg1,e1⟩:=ex m1
  obtain ⟨g2,hg2,e2⟩:=ex x1
  exact ⟨by rw[show minL ((f :: r).map (·.way))=_ from e1.symm];exact h g1 hg1,by rw[show maxL ((f :: r).map (·.way))=_ from e2.symm];exact h g2 hg2⟩
theorem lcp_take:∀ {a b:List Str},ltL b a=false→∀ i,a.take i=b.take i→i<a.length→i<b.length∧(a[i]?≠b[i]?→lcp a b=a.take i)
 | [],_,_,_,_,h=>absurd h (by simp)
 | _ :: _,[],h,_,_,_=>by cases h
 | a :: as,b :: bs,h,0,_,_=>⟨by simp,fun hn=>by rw[lcp,if_neg (by intro e;exact hn (by simp [e]))];rfl⟩
 | a :: as,b :: bs,h,i+1,ht,hl=>by
  rw[List.take_succ_cons,List.take_succ_cons] at ht
  obtain ⟨e,ht'⟩:=List.cons.inj ht
  subst e
  rw[ltL,if_pos rfl] at h
  obtain ⟨h1,h2⟩:=lcp_take h i ht' (by simpa using hl)
  refine ⟨by simpa using h1,fun hn=>?_⟩
  rw[lcp,if_pos rfl,List.take_succ_cons,h2 (by simpa using hn)]
theorem lcp_all {a b:List Str} (h:a=b.take a.length):lcp a b=a:=by
 apply pre_ext
 intro p
 rw[pre_lcp]
 exact ⟨fun h=>h.1,fun hp=>⟨hp,hp.trans (h▸List.take_prefix _ _)⟩⟩
end
section
variable {P:Params} {fs:List Env} {w:World} {n:Nat} {loc:List (Str×D)} {objs:List AO} {Q:D→List AO→Prop} {X:XPost}
theorem xcdXC {a:Addr} {fd:FuncData} {body:List Stmt} {ds:List D} (d:DefOKC (topT P fs) a fd body)
  (hb:Binds (topT P fs) fd ds [] [] objs loc) (hok:locOk fd.scope.names loc=true)
  (h:∀ L fs,EvSsX (topT P fs) w n (callEnvC fd L a) body loc objs (kBody Q) (kX X)):XCodeX (topT P fs) w (n+1) (.ref a) ds [] [] objs Q X:=xcodeX_defC d hb hok h
noncomputable def spC (p:Str):List Str:=(Txt.split p (Str.ofString "/")).filter keepC
noncomputable def stC (p:Str):Bool:=Txt.startswith p (Str.ofString "/")
structure ComOk (ps:List Str):Prop where
 len:ps.length≤1000
 piece:∀ p∈ps,∀ q∈Txt.split p (Str.ofString "/"),q.length≤sizeLine
 num:∀ p∈ps,(Txt.split p (Str.ofString "/")).length≤100000
 join:JoinOk (Str.ofString "/") (lcp (minL (ps.map spC)) (maxL (ps.map spC)))=true
 jlen:(Txt.join (Str.ofString "/") (lcp (minL (ps.map spC)) (maxL (ps.map spC)))).length≤100000
theorem take_map {α β:Type} {l:List α} {i:Nat} {c:α} (h:l[i]?=some c) (f:α→β):(l.take (i+1)).map f=(l.take i).map f++[f c]:=by
 rw[List.take_add_one,h,List.map_append];rfl
theorem hasB_map (b:Bool) (ps:List Str):hasB b (ps.map fun p=>D.bool (stC p))=ps.any fun p=>stC p==b:=by
 unfold hasB;rw[List.any_map];rfl
noncomputable def tryB:Stmt→List Stmt
 | .Try b _ _ _ _=>b
 | _=>[]
noncomputable def comRest:List Stmt:=(tryB ((fnB (st 23)).getD 3 noS)).drop 2
theorem L_same {x y:Str} (h:x.cps.toList=y.cps.toList):x=y:=by
 obtain ⟨a⟩:=x;obtain ⟨b⟩:=y
 exact congrArg Str.mk (Array.toList_inj.mp h)
theorem minmax_le {ls:List (List Str)} (h:ls≠[]):ltL (maxL ls) (minL ls)=false:=by
 cases ls with
 | nil=>exact absurd rfl h
 | cons x r=>exact (min_fold r x).2 _ (max_fold r x).1
theorem nat_toList {l:List Str} {i:Nat} {c:Str} (h:l[i]?=some c):(strD l)[i]?=some (.str c):=by unfold strD;rw[List.getElem?_map,h];rfl
set_option maxHeartbeats 4000000 in
theorem com_tail {ps:List Str} (ok:ComOk ps) (hne:ps≠[]) {L:Addr} {b:Bool} {objs:List AO}
  (h3:Q (.str ((if b then Str.ofString "/" else Str.ofString "")++Txt.join (Str.ofString "/") (lcp (minL (ps.map spC)) (maxL (ps.map spC))))) objs) :
  EvSs (topT P fs) w (n+3) (callEnvC fd_157 L 157) comRest [(Str.ofString "isabs",.bool b),(Str.ofString "split_paths",.list (ps.map fun p=>.list (strD (Txt.split p (Str.ofString "/"))))),(Str.ofString "curdir",.str (Str.ofString ".")),(Str.ofString "sep",.str (Str.ofString "/"))] objs
   fun f l o=>∃ d,f=.ret d∧Q d o:=by
 refine ss_cons ?_
 refine s_assign_comp (comp_ok1 (y := "curdir") (c:=L+2) (by kernel_rfl!) (by kernel_rfl!) (Or.inl (by kernel_rfl!)) (by walk_at "l")) rfl (.inl (by kernel_rfl!)) (fun _=>rfl) (fun _ _=>rfl) ?_
 walk_at "go"
 refine ⟨ps.map fun p=>.list (strD (Txt.split p (Str.ofString "/"))),_,invF objs (fun p=>p.map fun p=>.list (strD (spC p))) ps,it_list rfl,rfl,⟨rfl,rfl⟩,by rw[List.length_map];have:=ok.len;lia,CompT.fn fun C i p hp=>?_,finF ?_⟩
 ·have hm:=List.mem_of_getElem? hp
  refine ⟨_,l_name (by kernel_rfl!),.cons (by kernel_rfl!) (.refl _),ts_nil ?_⟩
  try dsimp only
  refine ev_listcomp (comp_ok1 (y := "curdir") (c:=L+2) (by kernel_rfl!) (by kernel_rfl!) (Or.inl (by kernel_rfl!)) (by walk_at "l")) (fun _=>rfl) (fun _ _=>rfl) ?_
  walk_at "go"
  refine ⟨strD (Txt.split p (Str.ofString "/")),_,invF objs (fun q=>strD (q.filter keepC)) (Txt.split p (Str.ofString "/")),it_list rfl,rfl,⟨rfl,rfl⟩,by unfold strD;rw[List.length_map];exact ok.num p hm,CompT.fn (g:=D.str) fun C i c hc=>?_,finF (g:=D.str) ?_⟩
  ·have hst:=take_step hc keepC
   refine ⟨_,l_name (by kernel_rfl!),.cons (by kernel_rfl!) (.refl _),ts_one ?_⟩
   walk_at "go"
   have hk:keepC c=(((c.length:Int) != 0) && !(c.cps.toList==(Str.ofString ".").cps.toList)):=rfl
   cases q1:((c.length:Int) != 0)
   ·rw[q1,Bool.false_and] at hk
    rw[hk,if_neg (by decide)] at hst
    exact ⟨rfl,rfl,by dsimp only;rw[hst]⟩
   ·walk_at "go"
    rw[q1,Bool.true_and] at hk
    have hk':keepC c=(c.cps.toList != (Str.ofString ".").cps.toList):=hk
    cases q2:(c.cps.toList != (Str.ofString ".").cps.toList) <;> walk_at "go"
    ·rw[q2] at hk'
     rw[hk',if_neg (by decide)] at hst
     exact ⟨rfl,rfl,by dsimp only;rw[hst]⟩
    ·rw[q2] at hk'
     rw[hk',if_pos rfl] at hst
     exact ⟨rfl,rfl,by dsimp only;rw[hst];simp [strD]⟩
  ·exact ⟨rfl,rfl,(take_map hp _).symm⟩
 ·have hmin:asL objs (.list (ps.map fun p=>.list (strD (spC p))))=some ((ps.map spC).map fun x=>.list (strD x)):=by rw[List.map_map];rfl
  walk_at "go"
  refine c_min hmin (by cases ps <;> first | rfl | exact absurd rfl hne) ?_
  walk_at "go"
  refine c_max hmin (by cases ps <;> first | rfl | exact absurd rfl hne) ?_
  walk_at "go"
  have hle:=minmax_le (ls:=ps.map spC) (by cases ps <;> first | exact absurd rfl hne | (intro q;cases q))
  have hjo:=ok.join
  have hjl:=ok.jlen
  clear hmin
  generalize hps:(D.list (List.map (fun p=>D.list (strD (spC p))) ps))=d1
  generalize minL (ps.map spC)=a at hle h3 hjo hjl ⊢
  generalize maxL (ps.map spC)=m at hle h3 hjo hjl ⊢
  refine EvS.toS [(Str.ofString "common",.list (strD (lcp a m))),(Str.ofString "isabs",.bool b),(Str.ofString "sep",.str (Str.ofString "/"))] objs ?_ ?_
  ·refine s_for_enum (Inv:=fun i l o'=>o'=objs∧i≤a.length∧a.take i=m.take i∧Sub [(Str.ofString "common",.list (strD a)),(Str.ofString "s2",.list (strD m)),(Str.ofString "s1",.list (strD a)),(Str.ofString "isabs",.bool b),(Str.ofString "sep",.str (Str.ofString "/"))] l) (fun _=>rfl) (Or.inl (by kernel_rfl!)) (Or.inl (by kernel_rfl!)) rfl ?_ ?_
   ·walk_at "go"
    exact ⟨rfl,rfl⟩
   ·walk_at "go"
    refine ⟨_,rfl,⟨rfl,Nat.zero_le _,rfl,.add (by walk_at "l") (.add (by walk_at "l") (.add (by walk_at "l") (.add (by walk_at "l") (.add (by walk_at "l") .nil))))⟩,fun i lc o' dd hdd hI=>?_,fun lc o' hI=>?_⟩
    ·obtain ⟨ho,hi,ht,hl⟩:=hI
     have ho:=ho.symm;subst ho
     obtain ⟨c,hc,rfl⟩:=strD_get hdd
     have hlt:i<a.length:=(List.getElem?_eq_some_iff.mp hc).1
     obtain ⟨hm1,hm2⟩:=lcp_take hle i ht hlt
     have hmi:m[i]?=some m[i]:=List.getElem?_eq_getElem hm1
     refine EvSs.weak (Sub.both (Sub.both hl)) ?_
     walk_at "go"
     refine i_list rfl (Int.natCast_nonneg i) (d:=.str m[i]) (by rw[Int.toNat_natCast];exact nat_toList hmi) ?_
     walk_at "go"
     cases q:(c.cps.toList != (m[i]).cps.toList) <;> walk_at "go"
     ·have hcm:c=m[i]:=L_same (by simpa using q)
      refine ⟨rfl,hlt,?_,?_⟩
      ·rw[List.take_add_one,List.take_add_one,ht,hc,hmi,← hcm]
      ·exact .add (by walk_at "l") (.add (by walk_at "l") (.add (by walk_at "l") (.add (by walk_at "l") (.add (by walk_at "l") .nil))))
     ·refine sl_list (l:=strD a) (l':=strD (a.take i)) rfl (by rw[slcD,if_pos (Int.natCast_nonneg i),Int.toNat_natCast,strD_take]) ?_
      walk_at "go"
      rw[hm2 (by rw[hc,hmi];intro e;cases e;simp at q)]
      exact ⟨rfl,rfl,.add (by walk_at "l") (.add (by walk_at "l") (.add (by walk_at "l") .nil))⟩
    ·obtain ⟨ho,hi,ht,hl⟩:=hI
     have ho:=ho.symm;subst ho
     rw[show (strD a).length=a.length from List.length_map _] at ht
     rw[List.take_length] at ht
     refine EvSs.weak hl ?_
     refine ss_nil ⟨rfl,rfl,?_⟩
     rw[lcp_all ht]
     exact .add (by walk_at "l") (.add (by walk_at "l") (.add (by walk_at "l") .nil))
  ·refine ss_cons (s_assign (Or.inl (by kernel_rfl!)) rfl (EvE.to (.str (if b then Str.ofString "/" else Str.ofString "")) objs ?_ ?_))
   ·walk_at "go"
    cases b <;> walk_at "go"
    ·exact ⟨rfl,rfl⟩
    ·exact ⟨rfl,rfl⟩
   ·walk_at "go"
    refine c_join (texts:=lcp a m) rfl hjo ?_
    walk_at "go"
    refine o_add_str ?_ ?_
    ·exact ⟨_,rfl,h3⟩
    ·have:(if b=true then Str.ofString "/" else Str.ofString "").length≤1:=by cases b <;> decide
     exact Nat.le_trans (Nat.add_le_add this hjl) (by decide)
set_option maxHeartbeats 4000000 in
theorem f_commonpath {ps:List Str} (ok:ComOk ps) (h1:ps=[]→X "ValueError" objs) (h2:ps≠[]→(∃ p∈ps,stC p=true)→(∃ p∈ps,stC p=false)→X "ValueError" objs)
  (h3:∀ b,ps≠[]→(∀ p∈ps,stC p=b)→Q (.str ((if b then Str.ofString "/" else Str.ofString "")++Txt.join (Str.ofString "/") (lcp (minL (ps.map spC)) (maxL (ps.map spC))))) objs) :
  XCodeX (topT P fs) w (n+4) (.ref 157) [.list (strD ps)] [] [] objs Q X:=by
 refine xcdXC (dk_157 P) (bind1 (x := "paths") fun _=>rfl) (by kernel_rfl!) fun L fs=>?_
 refine ssx_cons ?_
 refine s_assign (Or.inl (by kernel_rfl!)) rfl ?_
 refine ev_tuplemap (n:=n+2) (f:=117) (ld:=strD ps) (ds:=strD ps) ?_ ?_ rfl rfl ?_ ?_ (by unfold strD;rw[List.length_map];have:=ok.len;lia) rfl (fun j d hd=>?_) ?_
 ·walk_at "go"
  exact ⟨rfl,rfl⟩
 ·walk_at "go"
  exact ⟨rfl,rfl⟩
 ·walk_at "go"
  exact ⟨rfl,rfl⟩
 ·walk_at "go"
  exact ⟨rfl,rfl⟩
 ·obtain ⟨c,hc,rfl⟩:=strD_get hd
  exact f_fspath ⟨hd,rfl⟩
 try dsimp only
 refine ssx_consX (sx_if ?_)
 walk_at "go"
 cases ps with
 | nil =>
  dsimp only [strD,List.map,List.isEmpty,Bool.not]
  refine ssx_consX (sx_raise_str F.excCall_ValueError F.excRaise_ValueError (by kernel_rfl!) (by kernel_rfl!) rfl (h1 rfl))
 | cons p0 pr =>
  dsimp only [strD,List.map,List.isEmpty,Bool.not]
  refine ssx_of (ss_nil ?_)
  try dsimp only
  refine ssx_cons ?_
  walk_at "go"
  refine i_tupi (Int.le_refl _) rfl ?_
  walk_at "go"
  have hT:strD (p0 :: pr)=D.str p0 :: List.map D.str pr:=rfl
  rw[← hT]
  have hne:p0 :: pr≠[]:=by intro q;cases q
  clear hT
  clear h1
  generalize p0 :: pr=ps at ok h2 h3 hne ⊢
  refine ssx_consX ?_
  refine sx_try_pass (C := "ValueError") (T1 := "TypeError") (T2 := "AttributeError") (by kernel_rfl!) (by kernel_rfl!) rfl (by kernel_rfl!) (by kernel_rfl!) rfl (by rw[isSubtype_type];kernel_rfl) (by rw[isSubtype_type];kernel_rfl) (by rw[isSubtype_type];kernel_rfl) (by rw[isSubtype_type];kernel_rfl) (by rw[isSubtype_type];kernel_rfl) (by rw[isSubtype_type];kernel_rfl) ?_
  refine ssx_cons ?_
  refine s_assign_comp (comp_ok1 (y := "sep") (c:=L+1) (by kernel_rfl!) (by kernel_rfl!) (Or.inl (by kernel_rfl!)) (by walk_at "l")) rfl (.inl (by kernel_rfl!)) (fun _=>rfl) (fun _ _=>rfl) ?_
  walk_at "go"
  refine ⟨strD ps,fun _=>True,invF objs (fun q=>q.map fun p=>.list (strD (Txt.split p (Str.ofString "/")))) ps,it_tup,trivial,⟨rfl,rfl⟩,by unfold strD;rw[List.length_map];have:=ok.len;lia,CompT.fn (g:=D.str) fun C i c hc=>?_,finF (g:=D.str) ?_⟩
  ·have hm:=List.mem_of_getElem? hc
   refine ⟨_,l_name (by kernel_rfl!),.cons (by kernel_rfl!) (.refl _),ts_nil ?_⟩
   walk_at "go"
   refine c_split ?_ rfl (ok.piece c hm) (ok.num c hm)
   exact ⟨trivial,rfl,(take_map hc _).symm⟩
  refine ssx_consX ?_
  refine sx_try_none (C := "ValueError") (Tn := "ValueError") F.excCall_ValueError F.excRaise_ValueError (by kernel_rfl!) (by kernel_rfl!) rfl (by kernel_rfl!) (by kernel_rfl!) rfl (by rw[isSubtype_type];kernel_rfl) (by rw[isSubtype_type];kernel_rfl) (by rw[isSubtype_type];kernel_rfl) ?_
  refine sx_set1 (comp_ok1 (y := "sep") (c:=L+1) (by kernel_rfl!) (by kernel_rfl!) (Or.inl (by kernel_rfl!)) (by walk_at "l")) rfl rfl (.inl (by kernel_rfl!)) (fun _=>rfl) ?_
  walk_at "go"
  refine ⟨strD ps,fun _=>True,invG (fun _=>objs) (fun q=>q.map fun p=>.bool (stC p)) ps,itg_name it_tup,trivial,⟨rfl,rfl⟩,fun C Dd=>TurnOk.fn (g:=D.str) fun i c hc=>?_,finG (g:=D.str) ?_⟩
  ·refine ⟨_,l_name (by kernel_rfl!),.cons (by kernel_rfl!) (.refl _),ts_nil (ec_add ?_)⟩
   walk_at "go"
   exact ⟨trivial,rfl,(take_map hc _).symm⟩
  simp only [hasB_map]
  refine ⟨fun q1 q2=>⟨rfl,trivial,h2 hne ?_ ?_⟩,fun b hb=>?_,fun q1 q2=>?_⟩
  ·obtain ⟨p,hp,e⟩:=List.any_eq_true.mp q2
   exact ⟨p,hp,by simpa using e⟩
  ·obtain ⟨p,hp,e⟩:=List.any_eq_true.mp q1
   exact ⟨p,hp,by simpa using e⟩
  rotate_left
  ·cases ps with
   | nil=>exact hne rfl
   | cons p r =>
    rw[List.any_cons,Bool.or_eq_false_iff] at q1 q2
    cases hs:stC p
    ·have:=q1.1;rw[hs] at this;cases this
    ·have:=q2.1;rw[hs] at this;cases this
  have hall:∀ p∈ps,stC p=b:=fun p hp=>by
   have:=hb (stC p)
   have e:(ps.any fun x=>stC x==stC p)=true:=List.any_eq_true.mpr ⟨p,hp,by simp⟩
   rw[e] at this
   exact (by simpa using this.symm)
  have h3:=h3 b hne hall
  clear hb h2
  refine ssx_of (EvSs.weak (l':=[(Str.ofString "isabs",.bool b),(Str.ofString "split_paths",.list (ps.map fun p=>.list (strD (Txt.split p (Str.ofString "/"))))),(Str.ofString "curdir",.str (Str.ofString ".")),(Str.ofString "sep",.str (Str.ofString "/"))])
   (.add (by walk_at "l") (.add (by walk_at "l") (.add (by walk_at "l") (.add (by walk_at "l") .nil)))) (EvSs.mono (com_tail ok hne h3) ?_))
  rintro f l o ⟨d,rfl,q⟩
  exact q
end
section
variable {fs:List Env} {w:World} {n:Nat} {objs:List AO} {Q:D→List AO→Prop}
theorem f_norm796 {x:Str} (hx:NormOk x) (h:Q (.str (normP x)) objs):XC (topT w.params fs) w (n+3) (.ref 796) [.str x] [] [] objs Q:=xc_drop (f_normpath2 hx (dropped (.str _) h))
theorem f_norm152 {x:Str} (hx:NormOk x) (h:Q (.str (normP x)) objs):XC (topT w.params fs) w (n+3) (.ref 152) [.str x] [] [] objs Q:=xc_drop (f_pnormpath hx (dropped (.str _) h))
theorem f_cpath {a b c x:Str} {k:Nat} (hk:objs[k]?=some (.dct [])) (h:Q (.str x) objs):XC (topT w.params fs) w (n+2) (.ref 761) [.str a,.str b,.str c,.tup [.str x],.obj k] [] [] objs Q:=by
 refine xd (dk_761 _) (bind5 (x1 := "name") (x2 := "cname") (x3 := "argname") (x4 := "args") (x5 := "kwargs") fun _ _ _ _ _=>rfl) (by kernel_rfl!) fun L fs=>?_
 refine ss_cons ?_
 walk_at "go"
 rw[show ((([D.str x].length:Nat):Int)==1)=true from rfl]
 try dsimp only
 walk_at "go"
 refine t_dct hPw hk List.nodup_nil ?_
 dsimp only [List.isEmpty]
 walk_at "go"
 refine i_tupi (Int.le_refl _) rfl ?_
 walk_at "go"
 refine f_kind ?_
 walk_at "go"
 exact h
theorem f_normpath803 {x:Str} (hx:NormOk x) (h:Q (.str (normP x)) objs):XC (topT w.params fs) w (n+4) (.ref 803) [.str x] [] [] objs Q:=by
 refine xc_drop ⟨keep_func (mem_803 _) rfl,(XCode.call ?_)⟩
 refine xcdS (dk_803 _) binds_803 (fun v=>by kernel_rfl!) fun v L fs=>?_
 refine ss_cons ?_
 walk_at "go"
 refine f_cpath (k:=objs.length) (by rw[List.getElem?_append_right (Nat.le_refl _),Nat.sub_self];rfl) ?_
 walk_at "go"
 refine f_norm796 hx ?_
 walk_at "go"
 exact dropped (.str _) h
end
section
variable {fs:List Env} {w:World} {n:Nat} {objs:List AO} {Q:D→List AO→Prop}
theorem f_norm803e (h:Q (.str (Str.ofString ".")) objs):XC (topT w.params fs) w (n+4) (.ref 803) [.str (mk [])] [] [] objs Q:=by
 refine xc_drop ⟨keep_func (mem_803 _) rfl,(XCode.call ?_)⟩
 refine xcdS (dk_803 _) binds_803 (fun v=>by kernel_rfl!) fun v L fs=>?_
 refine ss_cons ?_
 walk_at "go"
 refine f_cpath (k:=objs.length) (by rw[List.getElem?_append_right (Nat.le_refl _),Nat.sub_self];rfl) ?_
 walk_at "go"
 refine xd (dk_796 _) (bind1 (x := "path") fun _=>rfl) (by kernel_rfl!) fun L fs=>?_
 refine ss_cons ?_
 walk_at "go"
 exact dropped (.str _) h
noncomputable abbrev ignA (d:Str) (j:Nat):AO:=.inst 944 [("_mods",.emp "set"),("_dirs",.list [.str d]),("_ignore",.obj j)]
theorem f_ignoreinit {k:Nat} {f d:Str} (hk:k<objs.length) (hd:∀ {n:Nat} {fs:List Env} {objs:List AO} {Q:D→List AO→Prop},Q (.str d) objs→XC (topT w.params fs) w (n+4) (.ref 803) [.str f] [] [] objs Q)
  (h:Q .none ((objs++[AO.dct [("<string>",.int 1)]]).set k (ignA d objs.length))):XCode (topT w.params fs) w (n+8) (.ref 934) [.obj k,.none,.list [.str f]] [] [] (objs.set k (.inst 944 [])) Q:=by
 refine xcd (dk_934 _) (bk3 (x := "self") (y := "modules") (z := "dirs") (fun _ _=>.nil) fun _ _ _ _=>by kernel_rfl!) (by kernel_rfl!) fun L fs=>?_
 refine ss_cons ?_
 walk_at "go"
 refine t_list (l:=[.str f]) rfl ?_
 dsimp only [List.isEmpty]
 walk_at "go"
 refine ev_listcomp (comp_ok0 (by kernel_rfl!)) (fun _=>rfl) (fun _ _=>rfl) ?_
 walk_at "go"
 refine ⟨[.str f],_,invF (objs.set k (.inst 944 [("_mods",.emp "set")])) (fun q=>q.map fun _=>.str d) [f],it_list rfl,rfl,⟨rfl,rfl⟩,Nat.le_of_ble_eq_true rfl,CompT.fn (g:=D.str) (xs:=[f]) fun C i x hdd=>?_,finF (g:=D.str) (xs:=[f]) ?_⟩
 ·have hi:i=0:=by
   have:=(List.getElem?_eq_some_iff.mp hdd).1
   simpa using this
  subst hi
  cases hdd
  refine ⟨_,l_name (by kernel_rfl!),.cons (by kernel_rfl!) (.refl _),ts_nil ?_⟩
  walk_at "go"
  refine hd ?_
  exact ⟨rfl,rfl,rfl⟩
 ·walk_at "go"
  refine ev_dict1 rfl rfl rfl ?_
  rw[List.length_set,← List.set_append_left _ _ hk]
  have hk':k<(objs++[AO.dct [("<string>",.int 1)]]).length:=by rw[List.length_append];exact Nat.lt_add_right _ hk
  walk_at "go"
  exact h
theorem f_names {k j:Nat} {f m d:Str} {r:List (Str×D)} (hk:k<objs.length) (hj:(objs.set k (ignA d j))[j]?=some (.dct r)) (nd:(r.map (·.1)).Nodup) (hz:Nat.ble (r.length+1) 500=true) (hm:lk r m=none) (hf:d.length≤100000)
  (h:Q (.int (if Txt.startswith f (d++Str.ofString "/") then 1 else 0)) ((objs.set k (ignA d j)).set j (.dct (upd r m (.int (if Txt.startswith f (d++Str.ofString "/") then 1 else 0)))))) :
  XC (topT w.params fs) w (n+4) (.ref 941) [.obj k,.str f,.str m] [] [] (objs.set k (ignA d j)) Q:=by
 refine xd (dk_941 _) (bind3 (x := "self") (y := "filename") (z := "modulename") fun _ _ _=>rfl) (by kernel_rfl!) fun L fs=>?_
 refine ss_cons ?_
 walk_at "go"
 refine o_in_dct hPw hj nd ?_
 rw[hm]
 dsimp only [Option.isSome]
 walk_at "go"
 refine o_nin_set0 ?_
 walk_at "go"
 refine s_for (fun _=>rfl) (fun _ _=>rfl) ?_
 walk_at "go"
 refine ⟨[],fun _=>True,fun i l o=>l=[(Str.ofString "self",.obj k),(Str.ofString "filename",.str f),(Str.ofString "modulename",.str m)]∧o=objs.set k (ignA d j),it_set0,trivial,⟨rfl,rfl⟩,fun i l o dd hd=>(by cases hd),fun l o hI=>?_⟩
 obtain ⟨rfl,rfl⟩:=hI
 walk_at "go"
 refine s_for (fun _=>rfl) (fun _ _=>rfl) ?_
 walk_at "go"
 refine ⟨[.str d],fun o=>asL o (.list [.str d])=some [.str d],fun i l o=>Sub [(Str.ofString "self",.obj k),(Str.ofString "filename",.str f),(Str.ofString "modulename",.str m)] l∧o=objs.set k (ignA d j)∧(i=1→Txt.startswith f (d++Str.ofString "/")=false),it_list rfl,rfl,⟨.refl _,rfl,fun e=>absurd e (by decide)⟩,fun i l o dd hdd _ hI=>?_,fun l o hI=>?_⟩
 ·obtain ⟨hl,rfl,_⟩:=hI
  have hi:i=0:=by
   have:=(List.getElem?_eq_some_iff.mp hdd).1
   simpa using this
  subst hi
  cases hdd
  refine ⟨_,a_name (.inl (by kernel_rfl!)),?_⟩
  refine EvSs.weak (Sub.both hl) ?_
  refine ss_cons ?_
  walk_at "go"
  refine o_add_str ?_ (len1 hf rfl)
  walk_at "go"
  cases hs:Txt.startswith f (d++Str.ofString "/") <;> walk_at "go"
  ·refine ⟨rfl,?_,rfl,fun _=>rfl⟩
   exact .cons (by kernel_rfl!) (.refl _)
  ·rw[hs,if_pos rfl] at h
   refine ⟨j,r,m,rfl,rfl,hj,nd,hz,?_⟩
   walk_at "go"
   exact h
 ·obtain ⟨hl,rfl,hs⟩:=hI
  have hs:=hs rfl
  rw[hs,if_neg Bool.false_ne_true] at h
  refine EvSs.weak hl ?_
  walk_at "go"
  refine ⟨j,r,m,rfl,rfl,hj,nd,hz,?_⟩
  walk_at "go"
  exact h
end
section
variable {fs:List Env} {w:World} {n:Nat} {objs:List AO} {Q:D→List AO→Prop}
noncomputable def folC (ws:List Str) (b:Bool):Str:=(if b then Str.ofString "/" else Str.ofString "")++Txt.join (Str.ofString "/") (lcp (minL (ws.map spC)) (maxL (ws.map spC)))
noncomputable def pairD (p:Str×Str):D:=.list [.str p.1,.str p.2]
noncomputable def ansN (d:Str) (p:Str×Str):Int:=if Txt.startswith p.1 (d++Str.ofString "/") then 1 else 0
noncomputable def ansS (d:Str) (p:Str×Str):D:=.list [.str p.2,.str (if Txt.startswith p.1 (d++Str.ofString "/") then Str.ofString "1" else Str.ofString "0")]
noncomputable def ignR (d:Str) (pp:List (Str×Str)):List (Str×D):=(Str.ofString "<string>",.int 1) :: pp.map fun p=>(p.2,.int (ansN d p))
structure ToldOk (w:World) (ws:List Str) (pp:List (Str×Str)):Prop where
 ok:ComOk (ws.map dirP)
 len:∀ x∈ws,x.length≤100000
 nd:(pp.map (·.2)).Nodup
 ns:Str.ofString "<string>"∉pp.map (·.2)
 num:pp.length≤400
theorem lk_none {x:Str}:∀ {l:List (Str×D)},x∉l.map (·.1)→lk l x=none
 | [],_=>rfl
 | (y,d) :: l,h=>by
  rw[lk_cons,if_neg fun e=>h (by rw[e];exact .head _)]
  exact lk_none fun q=>h (.tail _ q)
theorem upd_new {x:Str} {d:D}:∀ {l:List (Str×D)},x∉l.map (·.1)→upd l x d=l++[(x,d)]
 | [],_=>rfl
 | (y,d') :: l,h=>by
  rw[upd_cons,if_neg fun e=>h (by rw[e];exact .head _),upd_new fun q=>h (.tail _ q)];rfl
theorem two_0 {o:List AO} {a b:AO}:(o++[a,b])[o.length]?=some a:=by rw[List.getElem?_append_right (Nat.le_refl _),Nat.sub_self];rfl
theorem two_1 {o:List AO} {a b:AO}:(o++[a,b])[o.length+1]?=some b:=by rw[List.getElem?_append_right (Nat.le_add_right _ 1),Nat.add_sub_cancel_left];rfl
theorem two_s0 {o:List AO} {a b c:AO}:(o++[a,b]).set o.length c=o++[c,b]:=by rw[List.set_append_right _ _ (Nat.le_refl _),Nat.sub_self];rfl
theorem two_s1 {o:List AO} {a b c:AO}:(o++[a,b]).set (o.length+1) c=o++[a,c]:=by rw[List.set_append_right _ _ (Nat.le_add_right _ 1),Nat.add_sub_cancel_left];rfl
theorem ignR_map (d:Str) (pp:List (Str×Str)):(ignR d pp).map (·.1)=Str.ofString "<string>" :: pp.map (·.2):=by
 unfold ignR
 rw[List.map_cons,List.map_map];rfl
theorem und_ansS {d:Str} (m:Nat):∀ (l:List (Str×Str)),D.und m (.list (l.map (ansS d)))=true
 | []=>rfl
 | f :: l=>by
  have:=und_ansS (d:=d) m l
  simpa [ansS,D.und,D.unds] using this
set_option maxHeartbeats 4000000 in
theorem f_law_told {ws:List Str} {pp:List (Str×Str)} (ok:ToldOk w ws pp) (h1:ws=[]→Q (.str (Str.ofString "refused")) objs)
  (h1':ws≠[]→(∃ p∈ws.map dirP,stC p=true)→(∃ p∈ws.map dirP,stC p=false)→Q (.str (Str.ofString "refused")) objs)
  (h2:∀ b,ws≠[]→(∀ p∈ws.map dirP,stC p=b)→∃ d:Str,d.length≤100000∧(∀ {n:Nat} {fs:List Env} {objs:List AO} {Q:D→List AO→Prop},Q (.str d) objs→XC (topT w.params fs) w (n+4) (.ref 803) [.str (folC (ws.map dirP) b)] [] [] objs Q) ∧
   Q (.list [.str (folC (ws.map dirP) b),.list (pp.map (ansS d))]) objs) :
  XC (topT w.params fs) w (n+13) (.ref 965) [.list (strD ws),.list (pp.map pairD)] [] [] objs Q:=by
 refine xc_drop ?_
 refine xdC (dk_965 _) (bind2 (x := "words") (y := "paths") fun _ _=>rfl) (by kernel_rfl!) fun L fs=>?_
 refine ss_cons ?_
 refine s_try_ret (C := "ValueError") (Tn := "ValueError") (by kernel_rfl!) (by kernel_rfl!) rfl (by rw[isSubtype_type];kernel_rfl) (by rw[isSubtype_type];kernel_rfl) (by rw[isSubtype_type];kernel_rfl) rfl ?_
 refine ssx_consX (sx_assign (Or.inl (by kernel_rfl!)) rfl (ev_callX rfl rfl ?_))
 walk_at "go"
 refine ev_listcomp (comp_ok0 (by kernel_rfl!)) (fun _=>rfl) (fun _ _=>rfl) ?_
 walk_at "go"
 refine ⟨strD ws,_,invF objs (fun q=>strD (q.map dirP)) ws,it_list rfl,rfl,⟨rfl,rfl⟩,by unfold strD;rw[List.length_map];have:=ok.ok.len;rw[List.length_map] at this;lia,CompT.fn (g:=D.str) fun C i c hc=>?_,finF (g:=D.str) ?_⟩
 ·refine ⟨_,l_name (by kernel_rfl!),.cons (by kernel_rfl!) (.refl _),ts_nil ?_⟩
  walk_at "go"
  refine f_dirname (ok.len c (List.mem_of_getElem? hc)) ?_
  exact ⟨rfl,rfl,by dsimp only;rw[take_map hc];simp [strD]⟩
 walk_at "go"
 refine ⟨keep_func (mem_157 _) rfl,f_commonpath (n:=n+8) ok.ok (fun e=>?_) (fun e e1 e2=>?_) fun b e hb=>?_⟩
 ·have e:ws=[]:=List.map_eq_nil_iff.mp e
  exact ⟨rfl,objs,[],_,(List.append_nil _).symm,rfl,.inl rfl,.str _,h1 e⟩
 ·exact ⟨rfl,objs,[],_,(List.append_nil _).symm,rfl,.inl rfl,.str _,h1' (fun q=>e (by rw[q];rfl)) e1 e2⟩
 obtain ⟨d,hdl,hd,hQ⟩:=h2 b (fun q=>e (by rw[q];rfl)) hb
 refine ssx_of (ss_nil ?_)
 try dsimp only
 change EvSs (topT w.params fs) w (n+12) (callEnvC fd_965 L 965) _ [(Str.ofString "folder",D.str (folC (ws.map dirP) b)),(Str.ofString "words",D.list (strD ws)),(Str.ofString "paths",D.list (List.map pairD pp))] _ _
 refine ss_cons ?_
 walk_at "go"
 refine x_make (fI:=934) (by kernel_rfl!) (by kernel_rfl!) (by kernel_rfl!) ?_
 rw[(set_last (objs:=objs) (X:=.inst 944 [])).1]
 refine f_ignoreinit (n:=n+3) (d:=d) (set_last (objs:=objs) (X:=.inst 944 [])).2 hd ⟨rfl,?_⟩
 rw[List.append_assoc,List.length_append]
 show EvSs _ _ _ _ _ _ ((objs++[AO.inst 944 [],AO.dct [("<string>",.int 1)]]).set objs.length (ignA d (objs.length+1))) _
 rw[two_s0]
 walk_at "go"
 refine ev_compG (comp_ok1 (y := "reader") (c:=L+1) (by kernel_rfl!) (by kernel_rfl!) (Or.inl (by kernel_rfl!)) (by walk_at "l")) (fun _=>rfl) (fun C Dd=>cla_list (turn_l1 _ _ _ _ _ _ _ _)) ?_
 walk_at "go"
 refine ⟨pp.map pairD,_,invG (fun q=>objs++[ignA d (objs.length+1),.dct (ignR d q)]) (fun q=>q.map (ansS d)) pp,itg_list rfl,rfl,⟨rfl,rfl⟩,fun C Dd=>TurnOk.fn fun i p hp=>?_,finG ?_⟩
 ·have hm:=List.mem_of_getElem? hp
  refine ⟨_,l_tup2 (it_list (l:=[.str p.1,.str p.2]) rfl) rfl (has_list (l:=[.str p.1,.str p.2]) rfl) (by kernel_rfl!) (by kernel_rfl!),.cons (by kernel_rfl!) (.cons (by kernel_rfl!) (.refl _)),ts_nil (ec_append ?_)⟩
  have hP:(objs++[ignA d (objs.length+1),.dct (ignR d (pp.take i))])[objs.length]?=some (ignA d (objs.length+1)):=two_0
  walk_at "go"
  refine ⟨_,_,gm_inst (f:=941) cls_944 hP (by kernel_rfl!) (by kernel_rfl!) (by kernel_rfl!),?_⟩
  walk_at "go"
  have hnd:=ok.nd
  have hsub:∀ j,(pp.take j).length≤400:=fun j=>by rw[List.length_take];have:=ok.num;lia
  have hnew:p.2∉(ignR d (pp.take i)).map (·.1):=fun q=>by
   rw[ignR_map] at q
   rcases List.mem_cons.mp q with q | q
   ·exact ok.ns (by rw[← q];exact List.mem_map.mpr ⟨p,hm,rfl⟩)
   ·obtain ⟨p',hp',e'⟩:=List.mem_map.mp q
    obtain ⟨j,hj⟩:=List.mem_iff_getElem?.mp hp'
    have hji:j<i:=by
     have:=(List.getElem?_eq_some_iff.mp hj).1
     rw[List.length_take] at this;lia
    rw[List.getElem?_take_of_lt hji] at hj
    have a1:(pp.map (·.2))[j]?=some p.2:=by rw[List.getElem?_map,hj];simp [e']
    have a2:(pp.map (·.2))[i]?=some p.2:=by rw[List.getElem?_map,hp];rfl
    have:=(List.getElem?_inj (List.getElem?_eq_some_iff.mp a1).1 hnd).mp (a1.trans a2.symm)
    lia
  have hnd2:((ignR d (pp.take i)).map (·.1)).Nodup:=by
   rw[ignR_map]
   refine List.nodup_cons.mpr ⟨fun q=>ok.ns ?_,?_⟩
   ·obtain ⟨p',hp',e'⟩:=List.mem_map.mp q
    exact List.mem_map.mpr ⟨p',List.mem_of_mem_take hp',e'⟩
   ·exact hnd.sublist ((List.take_sublist _ _).map _)
  have hlen:(ignR d (pp.take i)).length≤401:=by
   unfold ignR
   rw[List.length_cons,List.length_map]
   have:=hsub i;lia
  have hnext:ignR d (pp.take i)++[(p.2,D.int (ansN d p))]=ignR d (pp.take (i+1)):=by
   unfold ignR
   rw[List.take_add_one,hp];simp
  rw[← two_s0 (o:=objs) (a:=ignA d (objs.length+1)) (b:=.dct (ignR d (pp.take i))) (c:=ignA d (objs.length+1))]
  refine f_names (r:=ignR d (pp.take i)) (by rw[List.length_append];show objs.length<objs.length+2;lia) (by rw[two_s0];exact two_1) hnd2 (Nat.ble_eq_true_of_le (by lia)) (lk_none hnew) hdl ?_
  rw[two_s0,two_s1,upd_new hnew]
  walk_at "go"
  have hstep:(pp.take (i+1)).map (ansS d)=(pp.take i).map (ansS d)++[ansS d p]:=by rw[List.take_add_one,hp];simp
  have hll:((pp.take i).map (ansS d)).length+1≤100000:=by rw[List.length_map];have:=hsub i;lia
  have hnn:ansN d p=if Txt.startswith p.1 (d++Str.ofString "/")=true then 1 else 0:=rfl
  have hss:ansS d p=.list [.str p.2,.str (if Txt.startswith p.1 (d++Str.ofString "/") then Str.ofString "1" else Str.ofString "0")]:=rfl
  rw[hss] at hstep
  rw[hnn] at hnext
  cases hb:Txt.startswith p.1 (d++Str.ofString "/") <;> rw[hb] at hstep hnext
  ·refine c_str_int (by decide) ?_ (by decide)
   walk_at "go"
   exact ⟨hll,rfl,by dsimp only;rw[← hnext],by dsimp only;rw[hstep];rfl⟩
  ·refine c_str_int (by decide) ?_ (by decide)
   walk_at "go"
   exact ⟨hll,rfl,by dsimp only;rw[← hnext],by dsimp only;rw[hstep];rfl⟩
 ·walk_at "go"
  exact dropped (new:=[ignA d (objs.length+1),.dct (ignR d pp)]) (.list (.cons (.str _) (.cons (D.und_fz (und_ansS _ pp)) .nil))) hQ
end
section
open PySem PySem.StrLaws
noncomputable def sl (s:Nat):Str:=mk (List.replicate s 47)
noncomputable def pth (s:Nat) (ps:List Str):Str:=sl s++Txt.join (mk [47]) ps
structure Pcs (ps:List Str):Prop where
 ne:ps≠[]
 free:∀ p∈ps,47∉L p
 first:∀ p r,ps=p :: r→L p≠[]
theorem L_join_one (p:Str):L (Txt.join (mk [47]) [p])=L p:=by rw[tjoin];rfl
theorem L_join_more (p q:Str) (r:List Str):L (Txt.join (mk [47]) (p :: q :: r))=L p++47 :: L (Txt.join (mk [47]) (q :: r)):=by rw[tjoin,tjoin,L_join_cons]
theorem pcs_head {ps:List Str} (h:Pcs ps):∃ c t,L (Txt.join (mk [47]) ps)=c :: t∧c≠47:=by
 obtain ⟨h1,h2,h3⟩:=h
 cases ps with
 | nil=>exact absurd rfl h1
 | cons p r =>
  have hp:=h3 p r rfl
  have hf:=h2 p (.head _)
  cases hl:L p with
  | nil=>exact absurd hl hp
  | cons c t =>
   have hc:c≠47:=fun e=>hf (by rw[hl,e];exact .head _)
   cases r with
   | nil=>exact ⟨c,t,by rw[L_join_one,hl],hc⟩
   | cons q r=>exact ⟨c,t++47 :: L (Txt.join (mk [47]) (q :: r)),by rw[L_join_more,hl];rfl,hc⟩
theorem L_sl (s:Nat):L (sl s)=List.replicate s 47:=L_mk _
theorem L_pth (s:Nat) (ps:List Str):L (pth s ps)=List.replicate s 47++L (Txt.join (mk [47]) ps):=by unfold pth;rw[L_add,L_sl]
theorem sl_txt:Str.ofString "/"=mk [47]:=rfl
theorem cps_mk (l:List Nat):(mk l).cps.toList=l:=L_mk l
theorem rootP_pth {s:Nat} {ps:List Str} (h:Pcs ps) (hs:s≤3):rootP (pth s ps)=(sl ([0,1,2,1].getD s 0),sl (if s=3 then 2 else 0)++Txt.join (mk [47]) ps):=by
 obtain ⟨c,t,hj,hc⟩:=pcs_head h
 have hx:∀ {s:Nat},L (pth s ps)=List.replicate s 47++c :: t:=fun {s}=>by rw[L_pth,hj]
 have e1:∀ s,(Txt.slice (pth s ps) none (some 1)).cps.toList=(L (pth s ps)).take 1:=fun s=>by
  rw[show (some 1:Option Int)=some ((1:Nat):Int) from rfl,slice_to,cps_mk]
 have e2:∀ s,(Txt.slice (pth s ps) (some 1) (some 2)).cps.toList=((L (pth s ps)).drop 1).take 1:=fun s=>by
  rw[show Txt.slice (pth s ps) (some 1) (some 2)=Txt.slice (pth s ps) (some ((1:Nat):Int)) (some ((2:Nat):Int)) from rfl,slice_mid _ _ _ (by decide),cps_mk]
 have e3:∀ s,(Txt.slice (pth s ps) (some 2) (some 3)).cps.toList=((L (pth s ps)).drop 2).take 1:=fun s=>by
  rw[show Txt.slice (pth s ps) (some 2) (some 3)=Txt.slice (pth s ps) (some ((2:Nat):Int)) (some ((3:Nat):Int)) from rfl,slice_mid _ _ _ (by decide),cps_mk]
 have e4:∀ s,Txt.slice (pth s ps) (some 1) none=mk ((L (pth s ps)).drop 1):=fun s=>by
  rw[show Txt.slice (pth s ps) (some 1) none=Txt.slice (pth s ps) (some ((1:Nat):Int)) none from rfl,slice_from]
 have e5:∀ s,Txt.slice (pth s ps) (some 2) none=mk ((L (pth s ps)).drop 2):=fun s=>by
  rw[show Txt.slice (pth s ps) (some 2) none=Txt.slice (pth s ps) (some ((2:Nat):Int)) none from rfl,slice_from]
 have e6:∀ s,Txt.slice (pth s ps) none (some 2)=mk ((L (pth s ps)).take 2):=fun s=>by
  rw[show Txt.slice (pth s ps) none (some 2)=Txt.slice (pth s ps) none (some ((2:Nat):Int)) from rfl,slice_to]
 have hjm:Txt.join (mk [47]) ps=mk (c :: t):=by rw[← hj,mk_L]
 have hcb:([c] != [47])=true:=by simpa using hc
 have hcb2:([c]==[47])=false:=by simpa using hc
 unfold rootP
 rw[e1,e2,e3,e4,e5,e6,sl_txt,cps_mk,hjm]
 have:s=0∨s=1∨s=2∨s=3:=by lia
 rcases this with rfl | rfl | rfl | rfl
 ·rw[hx]
  show (match [c] != [47] with | true=>_ | false=>_)=_
  rw[hcb]
  refine Prod.ext rfl (L_inj ?_)
  show L (pth 0 ps)=_
  rw[hx,L_add,L_sl,L_mk];rfl
 ·rw[hx]
  show (match [c] != [47] with | true=>_ | false=>_)=_
  rw[hcb]
  refine Prod.ext rfl (L_inj ?_)
  show L (mk (c :: t))=_
  rw[L_add,L_sl,L_mk];rfl
 ·rw[hx]
  show (match [c]==[47] with | true=>_ | false=>_)=_
  rw[hcb2]
  refine Prod.ext rfl (L_inj ?_)
  show L (mk (c :: t))=_
  rw[L_add,L_sl,L_mk];rfl
 ·rw[hx]
  refine Prod.ext rfl (L_inj ?_)
  show L (mk (47 :: 47 :: c :: t))=_
  rw[L_add,L_sl,L_mk,L_mk];rfl
end
section
open PySem PySem.StrLaws
theorem L_nil:L (mk [])=[]:=rfl
theorem split_pth {ps:List Str} (h:Pcs ps) {e:Nat} (he:e=0∨e=2):Txt.split (sl e++Txt.join (mk [47]) ps) (mk [47])=List.replicate e (mk [])++ps:=by
 rcases he with rfl | rfl
 ·rw[show sl 0++Txt.join (mk [47]) ps=Txt.join (mk [47]) ps from L_inj (by rw[L_add,L_sl];rfl)]
  exact split_join h.free h.ne
 ·have hfree:∀ p∈mk [] :: mk [] :: ps,47∉L p:=by
   intro p hp
   rcases List.mem_cons.mp hp with rfl | hp
   ·rw[L_nil];exact fun q=>by cases q
   ·rcases List.mem_cons.mp hp with rfl | hp
    ·rw[L_nil];exact fun q=>by cases q
    ·exact h.free p hp
  have:sl 2++Txt.join (mk [47]) ps=Txt.join (mk [47]) (mk [] :: mk [] :: ps):=by
   cases hps:ps with
   | nil=>exact absurd hps h.ne
   | cons p r =>
    apply L_inj
    rw[tjoin_cons,tjoin_cons,L_add,L_add,L_add,L_add,L_add,L_sl,L_nil,L_mk];rfl
  rw[this,split_join hfree (by intro q;cases q)];rfl
noncomputable def rootN (s:Nat):Nat:=[0,1,2,1].getD s 0
noncomputable def kept (ps:List Str):List Str:=ps.filter keepC
theorem kept_split {ps:List Str} (h:Pcs ps) {s:Nat} (hs:s≤3):(Txt.split (rootP (pth s ps)).2 (Str.ofString "/")).filter keepC=kept ps:=by
 rw[rootP_pth h hs,sl_txt]
 show (Txt.split (sl (if s=3 then 2 else 0)++Txt.join (mk [47]) ps) (mk [47])).filter keepC=_
 rw[split_pth h (by split <;> simp),List.filter_append]
 have:(List.replicate (if s=3 then 2 else 0) (mk [])).filter keepC=[]:=by
  rw[List.filter_eq_nil_iff]
  intro x hx
  rw[List.eq_of_mem_replicate hx];decide
 rw[this];rfl
theorem len_L (x:Str):x.length=(L x).length:=by
 show x.cps.size=x.cps.toList.length
 simp
theorem normP_pth {ps:List Str} (h:Pcs ps) {s:Nat} (hs:s≤3):normP (pth s ps)=if L (pth (rootN s) (kept ps))=[] then Str.ofString "." else pth (rootN s) (kept ps):=by
 have hr:(rootP (pth s ps)).1=sl (rootN s):=by rw[rootP_pth h hs];rfl
 unfold normP
 rw[kept_split h hs,hr,sl_txt]
 show (match ((pth (rootN s) (kept ps)).length:Int) != 0 with | true=>pth (rootN s) (kept ps) | false=>Str.ofString ".")=_
 rw[len_L]
 by_cases hl:L (pth (rootN s) (kept ps))=[]
 ·rw[if_pos hl,hl];rfl
 ·rw[if_neg hl,show ((((L (pth (rootN s) (kept ps))).length:Nat):Int) != 0)=true from by
   have:(L (pth (rootN s) (kept ps))).length≠0:=fun e=>hl (List.length_eq_zero_iff.mp e)
   simp only [bne_iff_ne,ne_eq];lia]
end
section
open PySem PySem.StrLaws
theorem rstrip_one {x:Str} {u:List Nat} {c:Nat} (h:L x=u++[c,47]) (hc:c≠47):Txt.rstripChars x (Str.ofString "/")=mk (u++[c]):=by
 unfold Txt.rstripChars
 rw[W.stripBy_eq]
 have h':x.cps.toList=u++[c,47]:=h
 have hlen:x.length=u.length+2:=by rw[len_L,h];simp
 have hg:∀ d,(Str.ofString "/").cps.contains d=(d==47):=by
  intro d
  rw[sl_txt]
  show (#[47]:Array Nat).contains d=_
  simp [Array.contains]
 have ht:((x.cps.toList.drop 0).reverse.takeWhile (Str.ofString "/").cps.contains).length=1:=by
  rw[List.drop_zero,h',List.reverse_append]
  show (List.takeWhile _ (47 :: c :: u.reverse)).length=1
  rw[List.takeWhile_cons,hg,if_pos (by rfl),List.takeWhile_cons,hg,if_neg (by simpa using hc)];rfl
 apply L_inj
 rw[L_mk]
 show (Builtin.Str.strSub x 0 (x.length - _)).cps.toList=_
 show (x.cps.extract 0 (x.length - ((x.cps.toList.drop 0).reverse.takeWhile (Str.ofString "/").cps.contains).length)).toList=_
 rw[ht,hlen,Array.toList_extract,h',show u.length+2 - 1=u.length+1 from rfl]
 rw[show u++[c,47]=(u++[c])++[47] by simp]
 simp [List.extract,List.take_append]
 exact List.take_of_length_le (by lia)
theorem join_snoc:∀ (ps:List Str) (q:Str),ps≠[]→L (Txt.join (mk [47]) (ps++[q]))=L (Txt.join (mk [47]) ps)++47 :: L q
 | [],_,h=>absurd rfl h
 | [p],q,_=>by rw[show [p]++[q]=p :: q :: [] from rfl,L_join_more,L_join_one,L_join_one]
 | p :: a :: r,q,_=>by
  rw[show (p :: a :: r)++[q]=p :: a :: (r++[q]) from rfl,L_join_more,L_join_more,show a :: (r++[q])=(a :: r)++[q] from rfl,join_snoc (a :: r) q (by intro e;cases e)]
  simp
theorem last_free {l:List Nat} (h:l≠[]) (hf:47∉l):∃ v c,l=v++[c]∧c≠47:=by
 refine ⟨l.dropLast,l.getLast h,(List.dropLast_concat_getLast h).symm,fun e=>hf (e▸List.getLast_mem h)⟩
theorem join_last:∀ (ps:List Str),ps≠[]→(∀ p∈ps,47∉L p∧L p≠[])→∃ v c,L (Txt.join (mk [47]) ps)=v++[c]∧c≠47
 | [],h,_=>absurd rfl h
 | [p],_,h=>by
  rw[L_join_one]
  exact last_free (h p (.head _)).2 (h p (.head _)).1
 | p :: a :: r,_,h=>by
  obtain ⟨v,c,e,hc⟩:=join_last (a :: r) (by intro e;cases e) (fun q hq=>h q (.tail _ hq))
  exact ⟨L p++47 :: v,c,by rw[L_join_more,e];simp,hc⟩
theorem int_ne {n:Nat} (h:n≠0):(((n:Nat):Int) != 0)=true:=by simp only [bne_iff_ne,ne_eq];lia
theorem dirP_pth {ps:List Str} {q:Str} (hp:∀ p∈ps,47∉L p∧L p≠[]) (hq:47∉L q) (s:Nat):dirP (pth s (ps++[q]))=pth s ps:=by
 have key:∀ (u:List Nat),L (pth s (ps++[q]))=u++47 :: L q→Txt.slice (pth s (ps++[q])) none (some (Txt.rfind (pth s (ps++[q])) (mk [47])+1))=mk (u++[47]):=by
  intro u hu
  rw[rfind_at hu hq,show ((u.length:Int)+1)=((u.length+1:Nat):Int) from rfl,slice_to,hu]
  congr 1
  rw[show u++47 :: L q=(u++[47])++L q by simp,List.take_append_of_le_length (by simp),List.take_of_length_le (by simp)]
 unfold dirP
 rw[sl_txt]
 cases ps with
 | nil =>
  have hx:L (pth s ([]++[q]))=List.replicate s 47++L q:=by rw[L_pth,List.nil_append,L_join_one]
  have hg:pth s []=mk (List.replicate s 47):=L_inj (by rw[L_pth,L_mk];exact List.append_nil _)
  rw[hg]
  cases s with
  | zero =>
   rw[rfind_none (by rw[hx];exact hq),show (-1+1:Int)=((0:Nat):Int) from rfl,slice_to]
   rfl
  | succ s =>
   rw[key (List.replicate s 47) (by rw[hx,List.replicate_succ'];simp),← List.replicate_succ']
   dsimp only
   rw[len_L,L_mk,List.length_replicate,int_ne (by lia)]
   dsimp only
   rw[show (mk (List.replicate (s+1) 47)).cps.toList=List.replicate (s+1) 47 from L_mk _]
   rw[show (List.replicate (s+1) 47 != List.replicate (s+1) 47)=false by simp]
 | cons p r =>
  obtain ⟨v,c,hj,hc⟩:=join_last (p :: r) (by intro e;cases e) hp
  have hx:L (pth s ((p :: r)++[q]))=(List.replicate s 47++v++[c])++47 :: L q:=by
   rw[L_pth,join_snoc _ _ (by intro e;cases e),hj];simp
  have hg:pth s (p :: r)=mk ((List.replicate s 47++v)++[c]):=L_inj (by rw[L_pth,L_mk,hj];simp)
  rw[key _ hx,hg,show List.replicate s 47++v++[c]++[47]=(List.replicate s 47++v)++[c,47] by simp]
  generalize List.replicate s 47++v=u
  dsimp only
  rw[len_L,L_mk,int_ne (by simp)]
  dsimp only
  rw[show (mk (u++[c,47])).cps.toList=u++[c,47] from L_mk _]
  rw[show (u++[c,47] != List.replicate (u++[c,47]).length 47)=true by
   rw[bne_iff_ne]
   intro e
   have:c∈List.replicate (u++[c,47]).length 47:=e▸(by simp)
   exact hc (List.eq_of_mem_replicate this)]
  dsimp only
  exact rstrip_one (L_mk _) hc
end
section
open PySem PySem.StrLaws
noncomputable def fn (l:Nat):Str:=mk [l,46,112]
theorem fn_free {l:Nat} (h:l≠47):47∉L (fn l):=by
 show 47∉[l,46,112]
 simp [Ne.symm h]
theorem L_pth_snoc (s:Nat) (ps:List Str) (q:Str):∃ u,L (pth s (ps++[q]))=u++L q∧(u=[]∨∃ v,u=v++[47]):=by
 cases ps with
 | nil =>
  refine ⟨List.replicate s 47,by rw[L_pth,List.nil_append,L_join_one],?_⟩
  cases s with
  | zero=>exact .inl rfl
  | succ s=>exact .inr ⟨List.replicate s 47,List.replicate_succ'⟩
 | cons p r=>exact ⟨List.replicate s 47++L (Txt.join (mk [47]) (p :: r))++[47],by rw[L_pth,join_snoc _ _ (by intro e;cases e)];simp,.inr ⟨_,rfl⟩⟩
theorem base_pth (s:Nat) (ps:List Str) {q:Str} (hq:47∉L q):Txt.slice (pth s (ps++[q])) (some (Txt.rfind (pth s (ps++[q])) "/"+1)) none=q:=by
 rw[show ("/":Str)=mk [47] from rfl]
 obtain ⟨u,hu,h⟩:=L_pth_snoc s ps q
 rcases h with rfl | ⟨v,rfl⟩
 ·rw[rfind_none (by rw[hu];exact hq),show (-1+1:Int)=((0:Nat):Int) from rfl,slice_from,hu]
  exact L_inj (by rw[L_mk];rfl)
 ·rw[rfind_at (u:=v) (by rw[hu];simp) hq,show ((v.length:Int)+1)=((v.length+1:Nat):Int) from rfl,slice_from,hu,List.drop_left' (by simp),mk_L]
theorem fn_facts {l:Nat} (h1:l≠47) (h2:l≠46):Txt.rfind (fn l) "/"=-1∧Txt.rfind (fn l) "."=1∧((Txt.slice (fn l) (some (-1+1)) (some (-1+1+1))).cps.toList != (Str.ofString ".").cps.toList)=true∧Txt.slice (fn l) none (some 1)=mk [l]:=by
 refine ⟨rfind_none (c:=47) (fn_free h1),rfind_at (c:=46) (u:=[l]) (v:=[112]) rfl (by decide),?_,?_⟩
 ·rw[show Txt.slice (fn l) (some (-1+1)) (some (-1+1+1))=Txt.slice (fn l) (some ((0:Nat):Int)) (some ((1:Nat):Int)) from rfl,slice_mid _ _ _ (by decide),cps_mk]
  show ([l] != [46])=true
  simpa using h2
 ·rw[show Txt.slice (fn l) none (some 1)=Txt.slice (fn l) none (some ((1:Nat):Int)) from rfl,slice_to];rfl
theorem starts_iff (x y:Str):Txt.startswith x y=true↔L y <+: L x:=by
 have hs:Builtin.Str.subAt x y 0=true↔(L x).take y.length=L y:=by
  unfold Builtin.Str.subAt
  rw[beq_iff_eq]
  constructor
  ·intro h
   have:=congrArg Array.toList h
   rw[Array.toList_extract] at this
   simpa [L,List.extract] using this
  ·intro h
   apply Array.toList_inj.mp
   rw[Array.toList_extract]
   simpa [L,List.extract] using h
 unfold Txt.startswith
 rw[Bool.and_eq_true,hs,len_L]
 constructor
 ·intro h;rw[← h.2];exact List.take_prefix _ _
 ·intro h;exact ⟨decide_eq_true (by have:=h.length_le;rw[len_L];lia),(List.prefix_iff_eq_take.mp h).symm⟩
end
section
open PySem PySem.StrLaws
theorem join_app:∀ (as bs:List Str),as≠[]→bs≠[]→L (Txt.join (mk [47]) (as++bs))=L (Txt.join (mk [47]) as)++47 :: L (Txt.join (mk [47]) bs)
 | [],_,h,_=>absurd rfl h
 | _ :: _,[],_,h=>absurd rfl h
 | [p],b :: r,_,_=>by rw[show [p]++b :: r=p :: b :: r from rfl,L_join_more,L_join_one]
 | p :: a :: r,b :: s,_,h=>by
  rw[show (p :: a :: r)++b :: s=p :: a :: (r++b :: s) from rfl,L_join_more,L_join_more,show a :: (r++b :: s)=(a :: r)++b :: s from rfl,join_app (a :: r) (b :: s) (by intro e;cases e) h]
  simp
theorem join_begins:∀ (as bs:List Str) (z:List Nat),as≠[]→bs≠[]→(∀ p∈as,47∉L p)→(∀ p∈bs,47∉L p)→L (Txt.join (mk [47]) as)++47 :: z=L (Txt.join (mk [47]) bs)→∃ r,r≠[]∧bs=as++r
 | [],_,_,h,_,_,_,_=>absurd rfl h
 | _ :: _,[],_,_,h,_,_,_=>absurd rfl h
 | [p],[b],z,_,_,hp,hb,e=>by
  rw[L_join_one,L_join_one] at e
  exact absurd (by rw[← e];simp) (hb b (.head _))
 | [p],b :: c :: r,z,_,_,hp,hb,e=>by
  rw[L_join_one,L_join_more] at e
  obtain ⟨e1,e2⟩:=cut_uniq (hp p (.head _)) (hb b (.head _)) e
  exact ⟨c :: r,(by intro q;cases q),by rw[L_inj e1];rfl⟩
 | p :: a :: s,[b],z,_,_,hp,hb,e=>by
  rw[L_join_more,L_join_one] at e
  exact absurd (by rw[← e];simp) (hb b (.head _))
 | p :: a :: s,b :: c :: r,z,_,_,hp,hb,e=>by
  rw[L_join_more,L_join_more,List.append_assoc,List.cons_append] at e
  obtain ⟨e1,e2⟩:=cut_uniq (hp p (.head _)) (hb b (.head _)) e
  obtain ⟨u,hu,h⟩:=join_begins (a :: s) (c :: r) z (by intro q;cases q) (by intro q;cases q) (fun q hq=>hp q (.tail _ hq)) (fun q hq=>hb q (.tail _ hq)) e2
  exact ⟨u,hu,by rw[h,L_inj e1];rfl⟩
theorem rep_uniq {c d:Nat} (hc:c≠47) (hd:d≠47):∀ {r t:Nat} {u v:List Nat},List.replicate r 47++c :: u=List.replicate t 47++d :: v→r=t∧c :: u=d :: v
 | 0,0,u,v,h=>⟨rfl,h⟩
 | 0,t+1,u,v,h=>by
  rw[List.replicate_succ] at h
  exact absurd (List.cons.inj h).1 hc
 | r+1,0,u,v,h=>by
  rw[List.replicate_succ] at h
  exact absurd (List.cons.inj h).1.symm hd
 | r+1,t+1,u,v,h=>by
  rw[List.replicate_succ,List.replicate_succ] at h
  obtain ⟨e1,e2⟩:=rep_uniq hc hd (List.cons.inj h).2
  exact ⟨by rw[e1],e2⟩
theorem pcs_of {ps:List Str} (h:∀ p∈ps,47∉L p∧L p≠[]) (hn:ps≠[]):Pcs ps:=⟨hn,fun p hp=>(h p hp).1,fun p r e=>(h p (e▸.head _)).2⟩
theorem begins_pth {sh ws:List Str} {q:Str} (hs:∀ p∈sh,47∉L p∧L p≠[]) (hw:∀ p∈ws++[q],47∉L p∧L p≠[]) (hn:sh≠[]) (r t:Nat) :
  Txt.startswith (pth t (ws++[q])) (pth r sh++Str.ofString "/")=(t==r && decide (ws.take sh.length=sh)):=by
 have hwn:ws++[q]≠[]:=by simp
 obtain ⟨c,u,hc1,hc2⟩:=pcs_head (pcs_of hs hn)
 obtain ⟨d,v,hd1,hd2⟩:=pcs_head (pcs_of hw hwn)
 have hy:L (pth r sh++Str.ofString "/")=List.replicate r 47++c :: (u++[47]):=by
  rw[L_add,L_pth,hc1,show L (Str.ofString "/")=[47] from rfl];simp
 have hx:L (pth t (ws++[q]))=List.replicate t 47++d :: v:=by rw[L_pth,hd1]
 rw[Bool.eq_iff_iff,starts_iff,hx,hy,Bool.and_eq_true,beq_iff_eq,decide_eq_true_iff]
 constructor
 ·rintro ⟨z,hz⟩
  rw[List.append_assoc,List.cons_append,List.append_assoc] at hz
  obtain ⟨e1,e2⟩:=rep_uniq hc2 hd2 hz
  refine ⟨e1.symm,?_⟩
  have e3:L (Txt.join (mk [47]) sh)++47 :: z=L (Txt.join (mk [47]) (ws++[q])):=by rw[hc1,hd1,← e2];rfl
  obtain ⟨m,hm,he⟩:=join_begins sh (ws++[q]) z hn hwn (fun p hp=>(hs p hp).1) (fun p hp=>(hw p hp).1) e3
  have hl:sh.length≤ws.length:=by
   have:=congrArg List.length he
   rw[List.length_append,List.length_append] at this
   have:m.length≠0:=fun e=>hm (List.length_eq_zero_iff.mp e)
   have:([q]:List Str).length=1:=rfl
   lia
  rw[← List.take_append_of_le_length hl (l₂:=[q]),he,List.take_left' rfl]
 ·rintro ⟨rfl,h⟩
  have hws:ws=sh++ws.drop sh.length:=by rw[← List.take_append_drop sh.length ws,h];simp
  have e3:L (Txt.join (mk [47]) (ws++[q]))=L (Txt.join (mk [47]) sh)++47 :: L (Txt.join (mk [47]) (ws.drop sh.length++[q])):=by
   rw[← join_app sh _ hn (by simp),← List.append_assoc,← hws]
  refine ⟨L (Txt.join (mk [47]) (ws.drop sh.length++[q])),?_⟩
  rw[← hd1,e3,hc1];simp
theorem begins_root {ws:List Str} {q:Str} (hw:∀ p∈ws++[q],47∉L p∧L p≠[]) {t:Nat} (ht:t≤2) :
  Txt.startswith (pth t (ws++[q])) (sl 1++Str.ofString "/")=(t==2):=by
 obtain ⟨d,v,hd1,hd2⟩:=pcs_head (pcs_of hw (by simp))
 have hx:L (pth t (ws++[q]))=List.replicate t 47++d :: v:=by rw[L_pth,hd1]
 rw[Bool.eq_iff_iff,starts_iff,hx,beq_iff_eq,show L (sl 1++Str.ofString "/")=[47,47] from rfl]
 have:t=0∨t=1∨t=2:=by lia
 rcases this with rfl | rfl | rfl
 ·simp [List.replicate,Ne.symm hd2]
 ·simp [List.replicate,Ne.symm hd2]
 ·simp [List.replicate]
theorem begins_dot {ws:List Str} {q:Str} (hw:∀ p∈ws++[q],47∉L p∧L p≠[]) (hd:∀ p∈ws++[q],L p≠[46]) (t:Nat) :
  Txt.startswith (pth t (ws++[q])) (Str.ofString "."++Str.ofString "/")=false:=by
 rw[Bool.eq_false_iff,ne_eq,starts_iff,show L (Str.ofString "."++Str.ofString "/")=[46,47] from rfl,L_pth]
 rintro ⟨z,hz⟩
 cases t with
 | succ t=>rw[List.replicate_succ] at hz;exact absurd (List.cons.inj hz).1 (by decide)
 | zero =>
  have hz:[46]++47 :: z=L (Txt.join (mk [47]) (ws++[q])):=hz
  obtain ⟨m,hm,he⟩:=join_begins [mk [46]] (ws++[q]) z (by simp) (by simp) (by intro p hp;rcases List.mem_singleton.mp hp with rfl;decide) (fun p hp=>(hw p hp).1) (by rw[L_join_one];exact hz)
  exact hd (mk [46]) (by rw[he];simp) rfl
end
section
variable {P:Params} {fs:List Env} {w:World} {n:Nat} {objs:List AO} {Q:D→List AO→Prop}
noncomputable def stepsP:List Str:=[Str.ofString ".",Str.ofString "a",Str.ofString "b",Str.ofString "ab",Str.ofString " ",Str.ofString "a",Str.ofString "b",Str.ofString "#"]
noncomputable def T4:List (List Int):=[[1,1,2,3],[0,0,0,0],[0,1,2,0],[1,1,1,1]]
noncomputable def slashP (m:Nat):Int:=(T4.getD (m % 4) []).getD (m / 4 % 4) 0
noncomputable def wayF:Nat→Nat→List Str
 | 0,_=>[]
 | f+1,r=>if r=0 then [] else stepsP.getD (r % 8) Str.empty :: wayF f (r / 8)
theorem fmod_nat (a b:Nat):((a:Int)).fmod (b:Int)=((a % b:Nat):Int):=by
 rw[Int.fmod_eq_emod_of_nonneg _ (by lia)];rfl
theorem fdiv_nat (a b:Nat):((a:Int)).fdiv (b:Int)=((a / b:Nat):Int):=by
 rw[Int.fdiv_eq_ediv_of_nonneg _ (by lia)];rfl
theorem row_get {i:Nat} (h:i<4):(T4.map fun r=>D.list (r.map D.int))[i]?=some (.list ((T4.getD i []).map .int)):=by
 have:i=0∨i=1∨i=2∨i=3:=by lia
 rcases this with rfl | rfl | rfl | rfl <;> rfl
theorem cell_get {i j:Nat} (h:i<4) (hj:j<4):((T4.getD i []).map D.int)[j]?=some (.int ((T4.getD i []).getD j 0)):=by
 have hi:i=0∨i=1∨i=2∨i=3:=by lia
 have hj:j=0∨j=1∨j=2∨j=3:=by lia
 rcases hi with rfl | rfl | rfl | rfl <;> rcases hj with rfl | rfl | rfl | rfl <;> rfl
theorem step_get {i:Nat} (h:i<8):(strD stepsP)[i]?=some (.str (stepsP.getD i Str.empty)):=by
 have:i=0∨i=1∨i=2∨i=3∨i=4∨i=5∨i=6∨i=7:=by lia
 rcases this with rfl | rfl | rfl | rfl | rfl | rfl | rfl | rfl <;> rfl
theorem wayF_len2:∀ (f r:Nat),∀ x∈wayF f r,x.length≤2
 | 0,r,x,h=>by cases h
 | f+1,r,x,h=>by
  unfold wayF at h
  split at h
  ·cases h
  ·rcases List.mem_cons.mp h with rfl | h
   ·have key:∀ i,i<8→(stepsP.getD i Str.empty).length≤2:=by decide +kernel
    exact key _ (Nat.mod_lt _ (by decide))
   ·exact wayF_len2 f _ x h
theorem wayF_num:∀ (f r:Nat),(wayF f r).length≤f
 | 0,r=>Nat.le_refl _
 | f+1,r=>by
  unfold wayF
  split
  ·exact Nat.zero_le _
  ·exact Nat.succ_le_succ (wayF_num f _)
noncomputable def notDot (c:Str):Bool:=c.cps.toList != (Str.ofString ".").cps.toList
noncomputable def slashN (m:Nat):Nat:=(slashP m).toNat
theorem slash_nat (m:Nat):slashP m=(slashN m:Int)∧slashN m≤3:=by
 have key:∀ i,i<4→∀ j,j<4→(T4.getD i []).getD j 0=(((T4.getD i []).getD j 0).toNat:Int)∧((T4.getD i []).getD j 0).toNat≤3:=by decide +kernel
 exact key (m % 4) (by lia) (m / 4 % 4) (by lia)
theorem f_law_file {m k:Nat} (hm:m<8192) (hk:k<10) (h:Q (.list [.str (Txt.mul (Str.ofString "/") (slashN m)++Txt.join (Str.ofString "/") (wayF 4 (m / 16)++[mk [97+k]++Str.ofString ".p"])),.int (([0,1,2,1]:List Int).getD (slashN m) 0),.list (strD ((wayF 4 (m / 16)).filter notDot)),.str (mk [97+k])]) objs):XC (topT P fs) w (n+1) (.ref 960) [.int m,.int k] [] [] objs Q:=by
 obtain ⟨hsl,hsl3⟩:=slash_nat m
 refine xc_drop ?_
 refine xd (dk_960 P) (bind2 (x := "n") (y := "k") fun _ _=>rfl) (by kernel_rfl!) fun L fs=>?_
 refine ss_cons ?_
 walk_at "go"
 rw[show ((m:Int)).fmod 4=((m % 4:Nat):Int) from fmod_nat m 4]
 refine i_list (l:=T4.map fun r=>D.list (r.map D.int)) rfl (by lia) (by rw[Int.toNat_natCast];exact row_get (by lia)) ?_
 walk_at "go"
 rw[show ((m:Int)).fdiv 4=((m / 4:Nat):Int) from fdiv_nat m 4,show (((m / 4:Nat):Int)).fmod 4=((m / 4 % 4:Nat):Int) from fmod_nat (m / 4) 4]
 refine i_list rfl (by lia) (by rw[Int.toNat_natCast];exact cell_get (by lia) (by lia)) ?_
 rw[show (T4.getD (m % 4) []).getD (m / 4 % 4) 0=slashP m from rfl]
 walk_at "go"
 rw[show ((m:Int)).fdiv 16=((m / 16:Nat):Int) from fdiv_nat m 16]
 refine s_while (fun u l o=>∃ done f,o=objs++[.lst (strD done)]∧Sub [(Str.ofString "rest",.int (u:Int)),(Str.ofString "way",.obj objs.length),(Str.ofString "slashes",.int (slashP m)),(Str.ofString "steps",.list (strD stepsP)),(Str.ofString "n",.int m),(Str.ofString "k",.int k)] l ∧
  u<8 ^ f∧done.length+f≤4∧done++wayF f u=wayF 4 (m / 16)) (m / 16) ⟨[],4,rfl,.refl _,by lia,by simp,rfl⟩ fun u l o hI=>?_
 obtain ⟨done,f,rfl,hl,hu,hf,hw⟩:=hI
 refine EvB.weak hl ?_
 walk_at "go"
 by_cases h0:u=0
 ·subst h0
  rw[show decide (((0:Nat):Int)>0)=false from rfl]
  try dsimp only
  refine EvSs.weak hl ?_
  have hd:done=wayF 4 (m / 16):=by
   rw[← hw]
   cases f with
   | zero=>simp [wayF]
   | succ f=>simp [wayF]
  subst hd
  walk_at "go"
  refine c_chr (by rw[Bool.or_eq_false_iff];exact ⟨decide_eq_false (by lia),decide_eq_false (by lia)⟩) ?_
  walk_at "go"
  rw[hsl]
  refine o_mul_str ?_ (mul_slash (slashN m) (by lia)).1 (by rw[(mul_slash (slashN m) (by lia)).2,mk_len,List.length_replicate];exact Nat.le_trans (show _≤100000 by lia) (by decide))
  walk_at "go"
  refine o_add_str ?_ (len1 (show 1≤100000 by decide) rfl)
  walk_at "go"
  have hw4:(wayF 4 (m / 16)).length≤4:=by lia
  have hjo:=join_ok (sep:=Str.ofString "/") (l:=wayF 4 (m / 16)++[mk [97+k]++Str.ofString ".p"]) (b:=3) (k:=5) (fun x hx=>by
   rcases List.mem_append.mp hx with hx | hx
   ·exact Nat.le_succ_of_le (wayF_len2 _ _ x hx)
   ·rw[List.mem_singleton.mp hx];exact Nat.le_of_eq rfl) (by rw[List.length_append];exact Nat.succ_le_succ hw4) (by decide)
  refine o_add_list asL_last rfl (by unfold strD;rw[List.length_map];simp only [List.length_cons,List.length_nil];lia) ?_
  walk_at "go"
  refine c_join (texts:=wayF 4 (m / 16)++[mk [97+k]++Str.ofString ".p"]) (by
   show some _=some _
   rw[show (97+(k:Int)).toNat=97+k by lia];simp [strD,mk]) hjo.1 ?_
  walk_at "go"
  refine o_add_str ?_ ?_
  rotate_left
  ·rw[(mul_slash (slashN m) (by lia)).2,mk_len,List.length_replicate]
   have h2:=hjo.2
   rw[show (Str.ofString "/").length=1 from rfl] at h2
   exact Nat.le_trans (show _≤100000 by lia) (by decide)
  walk_at "go"
  refine i_list (l:=[.int 0,.int 1,.int 2,.int 1]) rfl (by lia) (d:=.int (([0,1,2,1]:List Int).getD (slashN m) 0)) (by
   rw[Int.toNat_natCast]
   have:slashN m=0∨slashN m=1∨slashN m=2∨slashN m=3:=by lia
   rcases this with e | e | e | e <;> rw[e] <;> rfl) ?_
  walk_at "go"
  refine ev_listcomp (comp_ok0 (by kernel_rfl!)) (fun _=>rfl) (fun _ _=>rfl) ?_
  walk_at "go"
  refine ⟨strD (wayF 4 (m / 16)),_,invF (objs++[.lst (strD (wayF 4 (m / 16)))]) (fun q=>strD (q.filter notDot)) (wayF 4 (m / 16)),it_list asL_last,asL_last,⟨rfl,rfl⟩,by unfold strD;rw[List.length_map];lia,CompT.fn (g:=D.str) fun C i c hc=>?_,finF (g:=D.str) ?_⟩
  ·have hst:=take_step hc notDot
   refine ⟨_,l_name (by kernel_rfl!),.cons (by kernel_rfl!) (.refl _),ts_one ?_⟩
   walk_at "go"
   have hk:notDot c=(c.cps.toList != (Str.ofString ".").cps.toList):=rfl
   refine k_test (fun h1=>?_) fun h1=>⟨asL_last,rfl,by dsimp only;rw[hst,hk,h1];rfl⟩
   ·walk_at "go"
    rw[hk,h1,if_pos rfl] at hst
    refine ⟨asL_last,rfl,?_⟩
    dsimp only
    rw[hst];simp [strD]
  ·walk_at "go"
   rw[show (⟨#[(97+(k:Int)).toNat]⟩:Str)=mk [97+k] by rw[show (97+(k:Int)).toNat=97+k by lia];rfl]
   exact dropped (D.und_fz (by have:=unds_strs (m:=objs.length) ((wayF 4 (m / 16)).filter notDot);simp [D.und,D.unds] at this ⊢;exact this)) h
 ·rw[show decide (((u:Nat):Int)>0)=true from decide_eq_true (by lia)]
  try dsimp only
  refine EvSs.weak hl ?_
  walk_at "go"
  rw[show ((u:Int)).fmod 8=((u % 8:Nat):Int) from fmod_nat u 8]
  refine i_list rfl (by lia) (by rw[Int.toNat_natCast];exact step_get (by lia)) ?_
  walk_at "go"
  refine c_append_last (by unfold strD;rw[List.length_map];lia) ?_
  walk_at "go"
  rw[show ((u:Int)).fdiv 8=((u / 8:Nat):Int) from fdiv_nat u 8]
  cases f with
  | zero=>exfalso;rw[Nat.pow_zero] at hu;lia
  | succ f =>
   refine ⟨u / 8,by lia,done++[stepsP.getD (u % 8) Str.empty],f,by simp [strD],?_,by rw[Nat.pow_succ] at hu;lia,by rw[List.length_append];simp only [List.length_cons,List.length_nil];lia,?_⟩
   ·intro y e hy
    rw[lk_cons] at hy ⊢
    by_cases q:y=Str.ofString "rest"
    ·rw[if_pos q] at hy ⊢;exact hy
    ·rw[if_neg q] at hy ⊢;rw[lk_cons,if_neg q];exact hy
   ·rw[← hw]
    simp [wayF,h0]
end
section
open PySem PySem.StrLaws
def Good (p:Str):Prop:=47∉L p∧L p≠[]
def GoodN (p:Str):Prop:=Good p∧L p≠[46]
noncomputable def fileF (m k:Nat):File:=⟨pth (slashN m) (wayF 4 (m / 16)++[fn (97+k)]),rootN (slashN m),(wayF 4 (m / 16)).filter notDot,mk [97+k]⟩
theorem fn_dot (l:Nat):mk [l]++Str.ofString ".p"=fn l:=L_inj (by rw[L_add];rfl)
theorem word_eq (m k:Nat):Txt.mul (Str.ofString "/") (slashN m)++Txt.join (Str.ofString "/") (wayF 4 (m / 16)++[mk [97+k]++Str.ofString ".p"])=(fileF m k).word:=by
 rw[fn_dot,(mul_slash (slashN m) (by have:=(slash_nat m).2;lia)).2];rfl
theorem root_int (s:Nat) (h:s≤3):(([0,1,2,1]:List Int).getD s 0)=(rootN s:Int):=by
 have:s=0∨s=1∨s=2∨s=3:=by lia
 rcases this with rfl | rfl | rfl | rfl <;> rfl
theorem fileD_eq (m k:Nat):D.list [.str (Txt.mul (Str.ofString "/") (slashN m)++Txt.join (Str.ofString "/") (wayF 4 (m / 16)++[mk [97+k]++Str.ofString ".p"])),.int (([0,1,2,1]:List Int).getD (slashN m) 0),.list (strD ((wayF 4 (m / 16)).filter notDot)),.str (mk [97+k])]=fileD (fileF m k):=by
 rw[word_eq,root_int _ (slash_nat m).2];rfl
theorem way_good:∀ (f r:Nat),∀ p∈wayF f r,Good p
 | 0,r,p,h=>by cases h
 | f+1,r,p,h=>by
  unfold wayF at h
  split at h
  ·cases h
  ·rcases List.mem_cons.mp h with rfl | h
   ·have key:∀ i,i<8→47∉L (stepsP.getD i Str.empty)∧L (stepsP.getD i Str.empty)≠[]:=by decide +kernel
    exact key _ (Nat.mod_lt _ (by decide))
   ·exact way_good f _ p h
theorem fn_good {k:Nat}:GoodN (fn (97+k)):=⟨⟨fn_free (by lia),by intro h;cases h⟩,fun h=>absurd (show (3:Nat)=1 from congrArg List.length h) (by decide)⟩
theorem keep_dot {p:Str} (h:Good p):keepC p=notDot p:=by
 unfold keepC
 rw[len_L,int_ne (fun e=>h.2 (List.length_eq_zero_iff.mp e))];rfl
theorem keep_good {ps:List Str} (h:∀ p∈ps,Good p):kept ps=ps.filter notDot:=List.filter_congr fun p hp=>keep_dot (h p hp)
theorem notDot_iff {p:Str}:notDot p=true↔L p≠[46]:=by
 unfold notDot
 rw[bne_iff_ne];rfl
theorem wayN_good (m k:Nat):∀ p∈(fileF m k).way,GoodN p:=fun p hp=>⟨way_good _ _ p (List.mem_filter.mp hp).1,notDot_iff.mp (List.mem_filter.mp hp).2⟩
theorem keep_self {ps:List Str} (h:∀ p∈ps,GoodN p):kept ps=ps:=by
 rw[keep_good fun p hp=>(h p hp).1]
 exact List.filter_eq_self.mpr fun p hp=>notDot_iff.mpr (h p hp).2
theorem good_snoc {ps:List Str} {P:Str→Prop} (h:∀ p∈ps,P p) {q:Str} (hq:P q):∀ p∈ps++[q],P p:=fun p hp=>by
 rcases List.mem_append.mp hp with hp | hp
 ·exact h p hp
 ·rw[List.mem_singleton.mp hp];exact hq
theorem root_le (s:Nat) (h:s≤3):rootN s≤2:=by
 have:s=0∨s=1∨s=2∨s=3:=by lia
 rcases this with rfl | rfl | rfl | rfl <;> decide
theorem norm_file (m k:Nat):normP (fileF m k).word=pth (fileF m k).sl ((fileF m k).way++[fn (97+k)]):=by
 have hg:∀ p∈wayF 4 (m / 16)++[fn (97+k)],Good p:=good_snoc (way_good _ _) fn_good.1
 show normP (pth (slashN m) (wayF 4 (m / 16)++[fn (97+k)]))=_
 rw[normP_pth (pcs_of hg (by simp)) (slash_nat m).2,keep_good hg,List.filter_append]
 have e1:[fn (97+k)].filter notDot=[fn (97+k)]:=by
  rw[List.filter_cons,notDot_iff.mpr fn_good.2];rfl
 rw[e1]
 show (if L (pth (rootN (slashN m)) ((fileF m k).way++[fn (97+k)]))=[] then _ else _)=_
 obtain ⟨c,t,hj,_⟩:=pcs_head (pcs_of (ps:=(fileF m k).way++[fn (97+k)]) (good_snoc (fun p hp=>(wayN_good m k p hp).1) fn_good.1) (by simp))
 rw[if_neg (by rw[L_pth,hj];simp)];rfl
theorem dir_file (m k:Nat):dirP (fileF m k).word=pth (slashN m) (wayF 4 (m / 16)):=dirP_pth (way_good _ _) (fn_free (by lia)) _
noncomputable def dirN (root:Nat) (sh:List Str):Str:=if sh=[] then (if root=1 then sl 1 else Str.ofString ".") else pth root sh
theorem names_left {sh:List Str} (hs:∀ p∈sh,GoodN p) {root:Nat} (hr:root≤1) (m k:Nat) :
  Txt.startswith (normP (fileF m k).word) (dirN root sh++Str.ofString "/")=leftF sh root (fileF m k):=by
 rw[norm_file]
 have hw:=wayN_good m k
 have hgg:=good_snoc hw (fn_good (k:=k))
 unfold dirN leftF
 by_cases h:sh=[]
 ·rw[if_pos h,if_pos h]
  have:root=0∨root=1:=by lia
  rcases this with rfl | rfl
  ·exact begins_dot (fun p hp=>(hgg p hp).1) (fun p hp=>(hgg p hp).2) _
  ·exact begins_root (fun p hp=>(hgg p hp).1) (root_le _ (slash_nat m).2)
 ·rw[if_neg h,if_neg h]
  exact begins_pth (fun p hp=>(hs p hp).1) (fun p hp=>(hgg p hp).1) h _ _
theorem norm_dir {sh:List Str} (hs:∀ p∈sh,GoodN p) (hn:sh≠[]) {root:Nat} (hr:root≤1):normP (pth root sh)=pth root sh:=by
 obtain ⟨c,t,hj,_⟩:=pcs_head (pcs_of (fun p hp=>(hs p hp).1) hn)
 rw[normP_pth (pcs_of (fun p hp=>(hs p hp).1) hn) (by lia),keep_self hs]
 have:rootN root=root:=by
  have:root=0∨root=1:=by lia
  rcases this with rfl | rfl <;> rfl
 rw[this,if_neg (by rw[L_pth,hj];simp)]
end
section
open PySem PySem.StrLaws
theorem pth_join {ps:List Str} (hn:ps≠[]):∀ s,L (pth s ps)=L (Txt.join (mk [47]) (List.replicate s (mk [])++ps))
 | 0=>by rw[L_pth];rfl
 | s+1=>by
  have ih:=pth_join hn s
  rw[L_pth] at ih ⊢
  have hne:List.replicate s (mk [])++ps≠[]:=by simp [hn]
  rw[List.replicate_succ,List.replicate_succ,List.cons_append,List.cons_append,ih]
  cases hx:List.replicate s (mk [])++ps with
  | nil=>exact absurd hx hne
  | cons a r=>rw[L_join_more];rfl
theorem split_keep {ps:List Str} (h:∀ p∈ps,Good p) {s:Nat} (hs:s≤3):(Txt.split (pth s ps) (mk [47])).filter keepC=kept ps:=by
 by_cases hn:ps=[]
 ·subst hn
  have:s=0∨s=1∨s=2∨s=3:=by lia
  rcases this with rfl | rfl | rfl | rfl <;> decide +kernel
 ·rw[L_inj (pth_join hn s),split_join (fun p hp=>?_) (by simp [hn]),List.filter_append]
  ·have:(List.replicate s (mk [])).filter keepC=[]:=by
    rw[List.filter_eq_nil_iff]
    intro x hx
    rw[List.eq_of_mem_replicate hx];decide
   rw[this];rfl
  ·rcases List.mem_append.mp hp with hp | hp
   ·rw[List.eq_of_mem_replicate hp,L_nil];exact fun q=>by cases q
   ·exact (h p hp).1
theorem starts_slash {ps:List Str} (h:∀ p∈ps,Good p) (s:Nat):Txt.startswith (pth s ps) (mk [47])=decide (0<s):=by
 rw[Bool.eq_iff_iff,starts_iff,decide_eq_true_iff,L_pth,L_mk]
 cases s with
 | succ s=>simp [List.replicate_succ]
 | zero =>
  by_cases hn:ps=[]
  ·subst hn;decide
  ·obtain ⟨c,t,hj,hc⟩:=pcs_head (pcs_of h hn)
   rw[hj]
   simp [Ne.symm hc]
end
section
open PySem
theorem root_pos {s:Nat} (h:s≤3):decide (0<rootN s)=decide (0<s):=by
 have:s=0∨s=1∨s=2∨s=3:=by lia
 rcases this with rfl | rfl | rfl | rfl <;> rfl
theorem refused_iff (f:File) (r:List File):refusedF (f :: r)=false↔∀ g∈f :: r,decide ((g.sl:Int)>0)=decide ((f.sl:Int)>0):=by
 unfold refusedF
 rw[show (f :: r).isEmpty=false from rfl,Bool.false_or,Bool.not_eq_false',decide_eq_true_iff]
 have h0:(rootedF (f :: r)).length=0↔∀ g∈f :: r,¬ decide ((g.sl:Int)>0)=true:=by
  unfold rootedF
  rw[List.length_eq_zero_iff,List.filter_eq_nil_iff]
 have h1:(rootedF (f :: r)).length=(f :: r).length↔∀ g∈f :: r,decide ((g.sl:Int)>0)=true:=by
  unfold rootedF
  rw[List.length_filter_eq_length_iff]
 have hm:(((rootedF (f :: r)).length:Int)∈[(0:Int),(f :: r).length])↔(rootedF (f :: r)).length=0∨(rootedF (f :: r)).length=(f :: r).length:=by
  rw[List.mem_cons,List.mem_singleton];lia
 rw[hm,h0,h1]
 constructor
 ·rintro (h | h) g hg
  ·have a:=h g hg;have b:=h f (.head _)
   rw[Bool.not_eq_true] at a b;rw[a,b]
  ·rw[h g hg,h f (.head _)]
 ·intro h
  cases hf:decide ((f.sl:Int)>0) with
  | true=>exact .inr fun g hg=>(h g hg).trans hf
  | false=>exact .inl fun g hg=>by rw[h g hg,hf];exact Bool.false_ne_true
end
section
variable {fs:List Env} {w:World} {n:Nat} {objs:List AO} {Q:D→List AO→Prop}
noncomputable abbrev sio (t:Str) (p:Nat):AO:=.inst 710 [("_StringIO__newline",.str "\n"),("_StringIO__buf",.str t),("_StringIO__pos",.int p)]
theorem f_index {i:Int} {what:Str} (hi:i≤1099511627776) (h2:-1099511627776≤i) (h:Q (.int i) objs):XC (topT w.params fs) w (n+1) (.ref 176) [.int i,.str what] [] [] objs Q:=by
 refine xd (dk_176 _) (bind2 (x := "n") (y := "what") fun _ _=>rfl) (by kernel_rfl!) fun L fs=>?_
 refine ss_cons ?_
 walk_at "go"
 rw[show decide (i>1099511627776)=false from decide_eq_false (by lia)]
 walk_at "go"
 rw[show decide (i < -1099511627776)=false from decide_eq_false (by lia)]
 walk_at "go"
 exact h
theorem f_scheck {k:Nat} {t:Str} {p:Nat} (hk:k<objs.length) (h:Q .none (objs.set k (sio t p))):XC (topT w.params fs) w (n+1) (.ref 494) [.obj k] [] [] (objs.set k (sio t p)) Q:=by
 refine xd (dk_494 _) (bind1 (x := "self") fun _=>rfl) (by kernel_rfl!) fun L fs=>?_
 refine ss_cons ?_
 walk_at "go"
 exact h
theorem f_read_end {k:Nat} {t:Str} {p:Nat} (hk:k<objs.length) (hp:p=t.length) (ht:t.length≤100000)
  (h:Q (.str (mk [])) (objs.set k (sio t p))):XC (topT w.params fs) w (n+2) (.ref 656) [.obj k,.int 1] [] [] (objs.set k (sio t p)) Q:=by
 refine xd (dk_656 _) (bk2 (x := "self") (y := "size") (fun _ _=>.nil) fun _ _ _=>by kernel_rfl!) (by kernel_rfl!) fun L fs=>?_
 refine ss_cons ?_
 walk_at "go"
 refine f_index (by lia) (by lia) ?_
 walk_at "go"
 refine f_scheck hk ?_
 walk_at "go"
 rw[show decide ((p:Int)≥t.length)=true from decide_eq_true (by lia)]
 walk_at "go"
 exact h
theorem f_read_ch {k:Nat} {t:Str} {pre rest:List Nat} {c:Nat} (hk:k<objs.length) (hp:L t=pre++c :: rest) (ht:t.length≤100000)
  (h:Q (.str (mk [c])) (objs.set k (sio t (pre.length+1)))):XC (topT w.params fs) w (n+2) (.ref 656) [.obj k,.int 1] [] [] (objs.set k (sio t pre.length)) Q:=by
 have hl:t.length=pre.length+(rest.length+1):=by rw[L_len,hp];simp
 have hs:Txt.slice (Txt.slice t (some (pre.length:Int)) (some ((pre.length+1:Nat):Int))++Str.ofString " ") none (some (-1))=mk [c]:=by
  rw[slice_mid t _ _ (Nat.le_succ _),hp,slice_m1,L_add,L_mk];simp [L,Str.ofString];rfl
 refine xd (dk_656 _) (bk2 (x := "self") (y := "size") (fun _ _=>.nil) fun _ _ _=>by kernel_rfl!) (by kernel_rfl!) fun L fs=>?_
 refine ss_cons ?_
 walk_at "go"
 refine f_index (by lia) (by lia) ?_
 walk_at "go"
 refine f_scheck hk ?_
 walk_at "go"
 rw[show decide ((pre.length:Int)≥t.length)=false from decide_eq_false (by lia)]
 walk_at "go"
 try (rw[show decide ((1:Int)≥0)=true from rfl];walk_at "go")
 have hz:(Txt.slice t (some (pre.length:Int)) (some ((pre.length+1:Nat):Int))).length≤100000:=by
  rw[slice_mid t _ _ (Nat.le_succ _),mk_len,List.length_take];lia
 cases rest with
 | nil =>
  have hl:t.length=pre.length+1:=hl
  rw[show decide ((pre.length:Int)+1<t.length)=false from decide_eq_false (by lia)]
  walk_at "go"
  rw[hl]
  walk_at "go"
  refine o_add_str ?_ (len1 hz rfl)
  walk_at "go"
  rw[hs]
  exact h
 | cons c' rest =>
  have hl:t.length=pre.length+(rest.length+1+1):=hl
  rw[show decide ((pre.length:Int)+1<t.length)=true from decide_eq_true (by lia)]
  walk_at "go"
  rw[show (pre.length:Int)+1=((pre.length+1:Nat):Int) from rfl]
  walk_at "go"
  refine o_add_str ?_ (len1 hz rfl)
  walk_at "go"
  rw[hs]
  exact h
end
section
variable {fs:List Env} {w:World} {n:Nat} {objs:List AO} {Q:D→List AO→Prop}
theorem f_ionew {e:D}:XCode (topT w.params fs) w (n+1) (.ref 203) [.val (.ref 710),e] [] [] objs fun d o=>d=.obj objs.length∧o=objs++[.inst 710 []]:=by
 refine xcdS (dk_203 _) binds_203 (fun v=>by kernel_rfl!) fun v L fs=>?_
 refine ss_cons ?_
 walk_at "go"
 refine ⟨rfl,?_⟩
 walk_at "go"
 exact ⟨rfl,rfl,rfl⟩
theorem f_iotrans {k:Nat} {at_:List (Str×D)} {x:Str} (hk:k<objs.length) (hn:lk at_ ("_StringIO__newline":Str)=some (.str (Str.ofString "\n"))) (h:Q (.str x) (objs.set k (.inst 710 at_))):XC (topT w.params fs) w (n+1) (.ref 487) [.obj k,.str x] [] [] (objs.set k (.inst 710 at_)) Q:=by
 refine xd (dk_487 _) (bind2 (x := "self") (y := "s") fun _ _=>rfl) (by kernel_rfl!) fun L fs=>?_
 refine ss_cons ?_
 walk_at "go"
 refine ga_set cls_710 hk (by kernel_rfl!) hn rfl ?_
 walk_at "go"
 exact h
theorem f_ioinit {k:Nat} {x:Str} (hk:k<objs.length) (h:Q .none (objs.set k (sio x 0))):XCode (topT w.params fs) w (n+2) (.ref 480) [.obj k,.str x] [] [] (objs.set k (.inst 710 [])) Q:=by
 refine xcd (dk_480 _) (bk2 (x := "self") (y := "initial_value") (more:=[("newline",.str "\n" 922)]) (ml:=[("newline",.str "\n")]) (fun _ _=>.cons (.str _ _ (Nat.le_of_ble_eq_true rfl) (by decide)) .nil) fun _ _ _=>by kernel_rfl!) (by kernel_rfl!) fun L fs=>?_
 refine ss_cons ?_
 walk_at "go"
 refine f_iotrans hk lk_here ?_
 walk_at "go"
 exact h
theorem x_stringio {x:Str} (h:Q (.obj objs.length) (objs++[sio x 0])):XC (topT w.params fs) w (n+3) (.ref 710) [.str x] [] [] objs Q:=by
 refine x_make_io f_ionew ?_
 obtain ⟨e1,e2⟩:=set_last (objs:=objs) (X:=.inst 710 [])
 rw[e1]
 refine f_ioinit e2 ⟨rfl,?_⟩
 rw[List.set_append_right _ _ (Nat.le_refl _),Nat.sub_self]
 exact h
end
noncomputable def LS.s:LS→Str
 | .sp=>Str.ofString " "
 | .wd=>Str.ofString "a"
 | .qs=>mk [39]
 | .qd=>mk [34]
noncomputable abbrev lexA (j:Nat) (st:D) (tok:Str):AO:=.inst 894 (lexAt j st tok)
noncomputable abbrev lexO (objs:List AO) (t:Str) (j k p:Nat) (st:D) (tok:Str):List AO:=(objs.set j (sio t p)).set k (lexA j st tok)
noncomputable abbrev lexL (k:Nat) (q:Bool):List (Str×D):=[(Str.ofString "quoted",.bool q),(Str.ofString "self",.obj k)]
inductive LexOut (objs:List AO) (t:Str) (j k:Nat) (rest₀:List Nat) (f:Fl) (l:List (Str×D)) (o:List AO):Prop
 | mk (tk:List Nat) (q st:Bool) (r:List Nat) (ef:f=.next) (hR:lexGo .sp [] false rest₀=.tok tk q st r) (hl:Sub (lexL k q) l) (ho:o=lexO objs t j k (t.length - r.length) (if st then .str (Str.ofString " ") else .none) (mk tk))
inductive LexInv (objs:List AO) (t:Str) (j k:Nat) (rest₀:List Nat) (m:Nat) (l:List (Str×D)) (o:List AO):Prop
 | mk (st:LS) (tok:List Nat) (q:Bool) (pre rest:List Nat) (ho:o=lexO objs t j k pre.length (.str st.s) (mk tok)) (hl:Sub ((Str.ofString "escapedstate",.str (Str.ofString " ")) :: lexL k q) l) (hp:L t=pre++rest) (hc:rest.all lexC=true) (hq:lexOk st rest=true)
   (hm:m=rest.length) (hR:lexGo st tok q rest=lexGo .sp [] false rest₀) (hz:tok.length≤pre.length)
section
variable {fs:List Env} {w:World} {n:Nat} {objs:List AO} {Q:D→List AO→Prop}
theorem f_read2_end {k j:Nat} {t:Str} {p:Nat} {Y:AO} (hj:j<objs.length) (hne:j≠k) (hp:p=t.length) (ht:t.length≤100000)
  (h:Q (.str (mk [])) ((objs.set j (sio t p)).set k Y)):XC (topT w.params fs) w (n+2) (.ref 656) [.obj j,.int 1] [] [] ((objs.set j (sio t p)).set k Y) Q:=by
 rw[List.set_comm _ _ hne] at h ⊢
 exact f_read_end (by rw[List.length_set];exact hj) hp ht h
theorem f_read2_ch {k j:Nat} {t:Str} {pre rest:List Nat} {c:Nat} {Y:AO} (hj:j<objs.length) (hne:j≠k) (hp:L t=pre++c :: rest) (ht:t.length≤100000)
  (h:Q (.str (mk [c])) ((objs.set j (sio t (pre.length+1))).set k Y)):XC (topT w.params fs) w (n+2) (.ref 656) [.obj j,.int 1] [] [] ((objs.set j (sio t pre.length)).set k Y) Q:=by
 rw[List.set_comm _ _ hne] at h ⊢
 exact f_read_ch (by rw[List.length_set];exact hj) hp ht h
theorem gm_read2 {j k:Nat} {t:Str} {p:Nat} {Y:AO} (hj:j<objs.length) (hne:j≠k):GetM (topT w.params fs) w n (.obj j) ("read":Str) (.ref 656) [.obj j] ((objs.set j (sio t p)).set k Y):=by
 rw[List.set_comm _ _ hne]
 exact gm_set _ cls_710 (by rw[List.length_set];exact hj) (by kernel_rfl!) (by kernel_rfl!) (by kernel_rfl!)
theorem mem_c {y:Str} {c:Nat} {b:Bool} (e:Txt.contains y (mk [c])=b):decide (c∈L y)=b:=contains_one y c▸e
theorem ws_c {c:Nat} (h:Oth c) (e:Txt.contains " \t\r\n" (mk [c])=true):c=32:=by
 have:=of_decide_eq_true (mem_c e)
 have hn:∀ d∈L (Str.ofString " \t\r\n"),d=32∨LX.contains d=true:=by decide
 exact (hn c this).elim id fun q=>absurd rfl (h.ne q)
theorem nws_c {c:Nat} (e:Txt.contains " \t\r\n" (mk [c])=false):c≠32:=fun q=>of_decide_eq_false (mem_c e) (q▸by decide)
theorem wc_c {c:Nat} (e:Txt.contains wcP (mk [c])=true):c≠39∧c≠34:=by
 have hn:(L wcP).all (fun d=>decide (d≠39∧d≠34))=true:=by decide +kernel
 exact of_decide_eq_true (List.all_eq_true.mp hn c (of_decide_eq_true (mem_c e)))
theorem qt_c {c:Nat} (e:Txt.contains "'\"" (mk [c])=true):c=39∨c=34:=by
 have hn:∀ d∈L (Str.ofString "'\""),d=39∨d=34:=by decide
 exact hn c (of_decide_eq_true (mem_c e))
theorem nqt_c {c:Nat} (e:Txt.contains "'\"" (mk [c])=false):c≠39∧c≠34:=⟨fun q=>of_decide_eq_false (mem_c e) (q▸by decide),fun q=>of_decide_eq_false (mem_c e) (q▸by decide)⟩
theorem eq_c {c d:Nat} (e:((mk [c]).cps.toList==(mk [d]).cps.toList)=true):c=d:=by
 have:[c]=[d]:=eq_of_beq e
 injection this
theorem ne_c {c d:Nat} (e:((mk [c]).cps.toList==(mk [d]).cps.toList)=false):c≠d:=fun q=>by
 subst q
 rw[beq_self_eq_true] at e;cases e
set_option maxHeartbeats 8000000 in
theorem f_read_token {k j:Nat} {t:Str} {pre₀ rest₀:List Nat} (hj:j<objs.length) (hk:k<objs.length) (hne:j≠k) (hp:L t=pre₀++rest₀) (ht:t.length≤100000) (hc:rest₀.all lexC=true) (hq:lexOk .sp rest₀=true)
  (h:match lexGo .sp [] false rest₀ with | .tok tk q st r=>Q (if q=false∧tk=[] then .none else .str (mk tk)) ((objs.set j (sio t (t.length - r.length))).set k (lexA j (if st then .str " " else .none) ""))) :
  XC (topT w.params fs) w (n+4) (.ref 862) [.obj k] [] [] ((objs.set j (sio t pre₀.length)).set k (lexA j (.str " ") "")) Q:=by
 refine xd (dk_862 _) (bind1 (x := "self") fun _=>rfl) (by kernel_rfl!) fun L' fs=>?_
 refine ss_cons ?_
 walk_at "go"
 refine EvS.mono (Q:=LexOut objs t j k rest₀) ?_ ?_
 rotate_left
 ·intro f l o hh
  obtain ⟨tk,q,st,r,ef,hR,hl,ho⟩:=hh
  subst ef
  subst ho
  try dsimp only
  rw[hR] at h
  have hk':k<(objs.set j (sio t (t.length - r.length))).length:=by rw[List.length_set];exact hk
  refine EvSs.weak hl ?_
  walk_at "go"
  dsimp only at h
  cases q with
  | true =>
   walk_at "go"
   exact h
  | false =>
   cases tk with
   | nil =>
    walk_at "go"
    exact h
   | cons a tk =>
    walk_at "go"
    exact h
 refine s_while (LexInv objs t j k rest₀) rest₀.length ⟨.sp,[],false,pre₀,rest₀,rfl,.refl _,hp,hc,hq,rfl,rfl,Nat.zero_le _⟩ fun m l o hI=>?_
 obtain ⟨st,tok,q,pre,rest,rfl,hl,hp,hc,hq,rfl,hR,hz⟩:=hI
 have hk':k<(objs.set j (sio t pre.length)).length:=by rw[List.length_set];exact hk
 refine eb_value (ev_bool (t_bool ?_)) (fun _=>rfl)
 try dsimp only
 refine EvSs.weak hl ?_
 walk_at "go"
 refine ⟨_,_,gm_read2 hj hne,?_⟩
 walk_at "go"
 cases rest with
 | nil =>
  have hpl:pre.length=t.length:=by rw[L_len,hp,List.append_nil]
  refine f_read2_end hj hne hpl ht ?_
  cases st with
  | sp =>
   dsimp only [LS.s]
   walk_at "go"
   exact ⟨tok,q,false,[],rfl,hR.symm,.cons (by kernel_rfl!) (.cons (by kernel_rfl!) (.refl _)),by rw[hpl];rfl⟩
  | wd =>
   dsimp only [LS.s]
   walk_at "go"
   exact ⟨tok,q,false,[],rfl,hR.symm,.cons (by kernel_rfl!) (.cons (by kernel_rfl!) (.refl _)),by rw[hpl];rfl⟩
  | qs=>cases hq
  | qd=>cases hq
 | cons c r =>
  have hp2:L t=(pre++[c])++r:=by rw[hp,List.append_assoc];rfl
  have hlen:t.length - r.length=pre.length+1:=by rw[L_len,hp2];simp;lia
  have hlt:t.length=pre.length+(r.length+1):=by rw[L_len,hp];simp
  have hcc:lexC c=true∧r.all lexC=true:=by simpa using hc
  have hk2:k<(objs.set j (sio t (pre.length+1))).length:=by rw[List.length_set];exact hk
  have hadd:(mk tok).length+(mk [c]).length≤sizeLine:=len1 (by rw[mk_len];lia) (by rw[mk_len];rfl)
  have nxt:∀ (st':LS) (tok':List Nat) (q':Bool) {l':List (Str×D)} {o':List AO},o'=(objs.set j (sio t (pre.length+1))).set k (lexA j (.str st'.s) (mk tok')) →
    Sub [(Str.ofString "escapedstate",.str (Str.ofString " ")),(Str.ofString "quoted",.bool q'),(Str.ofString "self",.obj k)] l'→lexOk st' r=true→lexGo st' tok' q' r=lexGo st tok q (c :: r)→tok'.length≤pre.length+1 →
    Less (LexInv objs t j k rest₀) (c :: r).length l' o' :=
   fun st' tok' q' l' o' ho hs h1 h2 h3=>⟨r.length,Nat.lt_succ_self _,st',tok',q',pre++[c],r,by rw[ho,List.length_append];rfl,hs,hp2,hcc.2,h1,rfl,h2.trans hR,by rw[List.length_append];exact h3⟩
  refine f_read2_ch hj hne hp ht ?_
  have ho:Oth c:=hcc.1
  walk_at "go"
  cases st with
  | sp =>
   refine k_if (fun _=>?_) fun e=>absurd e (by decide)
   dsimp only [LS.s]
   walk_at "go"
   refine k_if (fun e=>?_) fun e=>?_
   ·have h32:=ws_c ho e
    rcases tok with _ | ⟨a,tok⟩
    ·cases q with
     | true =>
      walk_at "go"
      exact ⟨[],true,true,r,rfl,(by rw[← hR,h32];simp [lexGo]),.cons (by kernel_rfl!) (.cons (by kernel_rfl!) (.refl _)),by rw[hlen];rfl⟩
     | false =>
      walk_at "go"
      exact nxt .sp [] false rfl (.cons (by kernel_rfl!) (.refl _)) (by simpa [lexOk,h32] using hq) (by simp [lexGo,h32]) (Nat.zero_le _)
    ·walk_at "go"
     exact ⟨a :: tok,q,true,r,rfl,(by rw[← hR,h32];simp [lexGo]),.cons (by kernel_rfl!) (.cons (by kernel_rfl!) (.refl _)),by rw[hlen];rfl⟩
   have h32:=nws_c e
   walk_at "go"
   refine k_if (fun e2=>?_) fun e2=>?_
   ·obtain ⟨h39,h34⟩:=wc_c e2
    walk_at "go"
    exact nxt .wd [c] q rfl (.cons (by kernel_rfl!) (.refl _)) (by simpa [lexOk,h32,h39,h34] using hq) (by simp [lexGo,h32,h39,h34]) (by simp)
   walk_at "go"
   refine k_if (fun e3=>?_) fun e3=>?_
   ·walk_at "go"
    rcases qt_c e3 with rfl | rfl
    ·exact nxt .qs tok q rfl (.cons (by kernel_rfl!) (.refl _)) (by simpa [lexOk] using hq) (by simp [lexGo]) (by lia)
    ·exact nxt .qd tok q rfl (.cons (by kernel_rfl!) (.refl _)) (by simpa [lexOk] using hq) (by simp [lexGo]) (by lia)
   ·obtain ⟨h39,h34⟩:=nqt_c e3
    walk_at "go"
    exact nxt .wd [c] q rfl (.cons (by kernel_rfl!) (.refl _)) (by simpa [lexOk,h32,h39,h34] using hq) (by simp [lexGo,h32,h39,h34]) (by simp)
  | wd =>
   refine k_if (fun e=>absurd e (by decide)) fun _=>?_
   dsimp only [LS.s]
   walk_at "go"
   refine k_if (fun e=>?_) fun e=>?_
   ·have h32:=ws_c ho e
    rcases tok with _ | ⟨a,tok⟩
    ·cases q with
     | true =>
      walk_at "go"
      exact ⟨[],true,true,r,rfl,(by rw[← hR,h32];simp [lexGo]),.cons (by kernel_rfl!) (.cons (by kernel_rfl!) (.refl _)),by rw[hlen];rfl⟩
     | false =>
      walk_at "go"
      exact nxt .sp [] false rfl (.cons (by kernel_rfl!) (.refl _)) (by simpa [lexOk,h32] using hq) (by simp [lexGo,h32]) (Nat.zero_le _)
    ·walk_at "go"
     exact ⟨a :: tok,q,true,r,rfl,(by rw[← hR,h32];simp [lexGo]),.cons (by kernel_rfl!) (.cons (by kernel_rfl!) (.refl _)),by rw[hlen];rfl⟩
   have h32:=nws_c e
   walk_at "go"
   refine k_and (fun e3=>?_) fun e3=>?_
   ·walk_at "go"
    rcases qt_c e3 with rfl | rfl
    ·exact nxt .qs tok q rfl (.cons (by kernel_rfl!) (.refl _)) (by simpa [lexOk] using hq) (by simp [lexGo]) (by lia)
    ·exact nxt .qd tok q rfl (.cons (by kernel_rfl!) (.refl _)) (by simpa [lexOk] using hq) (by simp [lexGo]) (by lia)
   obtain ⟨h39,h34⟩:=nqt_c e3
   walk_at "go"
   refine k_or (fun _=>?_) fun _=>?_
   ·walk_at "go"
    refine k_or (fun _=>?_) fun e4=>absurd (e3.symm.trans e4) Bool.false_ne_true
    walk_at "go"
    refine o_iadd_str ?_ hadd
    walk_at "go"
    rw[mk_add]
    exact nxt .wd (tok++[c]) q rfl (.cons (by kernel_rfl!) (.refl _)) (by simpa [lexOk,h32,h39,h34] using hq) (by simp [lexGo,h32,h39,h34]) (by simp;lia)
   ·walk_at "go"
    refine o_iadd_str ?_ hadd
    walk_at "go"
    rw[mk_add]
    exact nxt .wd (tok++[c]) q rfl (.cons (by kernel_rfl!) (.refl _)) (by simpa [lexOk,h32,h39,h34] using hq) (by simp [lexGo,h32,h39,h34]) (by simp;lia)
  | qs =>
   refine k_if (fun e=>absurd e (by decide)) fun _=>?_
   dsimp only [LS.s]
   walk_at "go"
   refine k_if (fun e=>?_) fun e=>?_
   ·have h:=eq_c e
    walk_at "go"
    exact nxt .wd tok true rfl (Sub.of3 (by walk_at "l") (by walk_at "l") (by walk_at "l")) (by simpa [lexOk,h] using hq) (by simp [lexGo,h]) (by lia)
   ·have h:=ne_c e
    walk_at "go"
    refine o_iadd_str ?_ hadd
    walk_at "go"
    rw[mk_add]
    exact nxt .qs (tok++[c]) true rfl (Sub.of3 (by walk_at "l") (by walk_at "l") (by walk_at "l")) (by simpa [lexOk,h] using hq) (by simp [lexGo,h]) (by simp;lia)
  | qd =>
   refine k_if (fun e=>absurd e (by decide)) fun _=>?_
   dsimp only [LS.s]
   walk_at "go"
   refine k_if (fun e=>?_) fun e=>?_
   ·have h:=eq_c e
    walk_at "go"
    exact nxt .wd tok true rfl (Sub.of3 (by walk_at "l") (by walk_at "l") (by walk_at "l")) (by simpa [lexOk,h] using hq) (by simp [lexGo,h]) (by lia)
   ·have h:=ne_c e
    walk_at "go"
    refine o_iadd_str ?_ hadd
    walk_at "go"
    rw[mk_add]
    exact nxt .qd (tok++[c]) true rfl (Sub.of3 (by walk_at "l") (by walk_at "l") (by walk_at "l")) (by simpa [lexOk,h] using hq) (by simp [lexGo,h]) (by simp;lia)
end
section
variable {fs:List Env} {w:World} {n:Nat} {objs:List AO} {Q:D→List AO→Prop}
theorem binds_818 {P:Params} {k:Nat} {t:Str}:Binds (topT P fs) fd_818 [.obj k,.str t] ["posix"] [.bool true] objs [("self",.obj k),("instream",.str t),("infile",.none),("posix",.bool true),("punctuation_chars",.bool false)]:=fun K s vs ks X r rk=>by
 obtain ⟨v,_,rfl,r1,q1⟩:=r.inv
 obtain ⟨u,_,rfl,r2,q2⟩:=q1.inv
 obtain rfl:=q2.inv
 obtain ⟨p,_,rfl,k1,q3⟩:=rk.inv
 obtain rfl:=q3.inv
 exact ⟨[("self",v),("instream",u),("infile",.none),("posix",p),("punctuation_chars",.bool false)],kp_binds X.top.fin (fun S=>by kernel_rfl!),.cons r1 (.cons r2 (.cons .none (.cons k1 (.cons (.bool _) .nil))))⟩
noncomputable abbrev lexI (j:Nat):AO:=.inst 894 [("instream",.obj j),("infile",.none),("posix",.bool true),("eof",.none),("commenters",.str "#"),("wordchars",.str wcP),("whitespace",.str " \t\r\n"),
 ("whitespace_split",.bool false),("quotes",.str "'\""),("escape",.str "\\"),("escapedquotes",.str "\""),("state",.str " "),("pushback",.emp "collections.deque"),("lineno",.int 1),("debug",.int 0),("token",.str ""),
 ("filestack",.emp "collections.deque"),("source",.none),("_punctuation_chars",.str "")]
theorem f_lexinit {k:Nat} {t:Str} (hk:k<objs.length) (h:Q .none ((objs++[sio t 0]).set k (lexI objs.length))):XCode (topT w.params fs) w (n+4) (.ref 818) [.obj k,.str t] ["posix"] [.bool true] (objs.set k (.inst 894 [])) Q:=by
 refine xcd (dk_818 _) binds_818 (by kernel_rfl!) fun L fs=>?_
 refine ss_cons ?_
 walk_at "go"
 refine x_stringio ?_
 have hk':k<(objs++[sio t 0]).length:=by rw[List.length_append];exact Nat.lt_add_right _ hk
 rw[List.length_set,← List.set_append_left _ _ hk]
 walk_at "go"
 exact h
theorem f_read_token_end {k j:Nat} {t:Str} (hj:j<objs.length) (hk:k<objs.length) (hne:j≠k) (ht:t.length≤100000)
  (h:Q .none ((objs.set j (sio t t.length)).set k (lexA j .none ""))):XC (topT w.params fs) w (n+4) (.ref 862) [.obj k] [] [] ((objs.set j (sio t t.length)).set k (lexA j .none "")) Q:=by
 refine xd (dk_862 _) (bind1 (x := "self") fun _=>rfl) (by kernel_rfl!) fun L' fs=>?_
 refine ss_cons ?_
 have hk':k<(objs.set j (sio t t.length)).length:=by rw[List.length_set];exact hk
 walk_at "go"
 refine s_while (fun m l o=>o=(objs.set j (sio t t.length)).set k (lexA j .none "")∧Sub [(Str.ofString "escapedstate",.str (Str.ofString " ")),(Str.ofString "quoted",.bool false),(Str.ofString "self",.obj k)] l) 0 ⟨rfl,.refl _⟩ fun m l o hI=>?_
 obtain ⟨rfl,hl⟩:=hI
 refine eb_value (ev_bool (t_bool ?_)) (fun _=>rfl)
 try dsimp only
 refine EvSs.weak hl ?_
 walk_at "go"
 refine ⟨_,_,gm_read2 hj hne,?_⟩
 walk_at "go"
 refine f_read2_end hj hne rfl ht ?_
 walk_at "go"
 exact h
theorem f_get_token {k j:Nat} {t:Str} {pre₀ rest₀:List Nat} (hj:j<objs.length) (hk:k<objs.length) (hne:j≠k) (hp:L t=pre₀++rest₀) (ht:t.length≤100000) (hc:rest₀.all lexC=true) (hq:lexOk .sp rest₀=true)
  (h:match lexGo .sp [] false rest₀ with | .tok tk q st r=>Q (if q=false∧tk=[] then .none else .str (mk tk)) ((objs.set j (sio t (t.length - r.length))).set k (lexA j (if st then .str " " else .none) ""))) :
  XC (topT w.params fs) w (n+5) (.ref 855) [.obj k] [] [] ((objs.set j (sio t pre₀.length)).set k (lexA j (.str " ") "")) Q:=by
 refine xd (dk_855 _) (bind1 (x := "self") fun _=>rfl) (by kernel_rfl!) fun L' fs=>?_
 refine ss_cons ?_
 have hk':k<(objs.set j (sio t pre₀.length)).length:=by rw[List.length_set];exact hk
 walk_at "go"
 refine f_read_token hj hk hne hp ht hc hq ?_
 cases hg:lexGo .sp [] false rest₀ with
 | tok tk q st r =>
  rw[hg] at h
  dsimp only at h ⊢
  have hk2:k<(objs.set j (sio t (t.length - r.length))).length:=by rw[List.length_set];exact hk
  generalize hd:(if q=false∧tk=[] then D.none else .str (mk tk))=dd at h ⊢
  walk_at "go"
  by_cases hx:q=false∧tk=[]
  ·rw[if_pos hx] at hd
   subst hd
   refine s_whileA (fun _:Unit=>[(Str.ofString "raw",.none),(Str.ofString "self",.obj k)]) (fun m _ o=>o=(objs.set j (sio t (t.length - r.length))).set k (lexA j (if st then .str " " else .none) "")) 0 () (.refl _) rfl fun m _ o hI=>?_
   subst hI
   walk_at "go"
   exact h
  ·rw[if_neg hx] at hd
   subst hd
   refine s_whileA (fun _:Unit=>[(Str.ofString "raw",.str (mk tk)),(Str.ofString "self",.obj k)]) (fun m _ o=>o=(objs.set j (sio t (t.length - r.length))).set k (lexA j (if st then .str " " else .none) "")) 0 () (.refl _) rfl fun m _ o hI=>?_
   subst hI
   walk_at "go"
   exact h
theorem f_get_token_end {k j:Nat} {t:Str} (hj:j<objs.length) (hk:k<objs.length) (hne:j≠k) (ht:t.length≤100000)
  (h:Q .none ((objs.set j (sio t t.length)).set k (lexA j .none ""))):XC (topT w.params fs) w (n+5) (.ref 855) [.obj k] [] [] ((objs.set j (sio t t.length)).set k (lexA j .none "")) Q:=by
 refine xd (dk_855 _) (bind1 (x := "self") fun _=>rfl) (by kernel_rfl!) fun L' fs=>?_
 refine ss_cons ?_
 have hk':k<(objs.set j (sio t t.length)).length:=by rw[List.length_set];exact hk
 walk_at "go"
 refine f_read_token_end hj hk hne ht ?_
 walk_at "go"
 refine s_whileA (fun _:Unit=>[(Str.ofString "raw",.none),(Str.ofString "self",.obj k)]) (fun m _ o=>o=(objs.set j (sio t t.length)).set k (lexA j .none "")) 0 () (.refl _) rfl fun m _ o hI=>?_
 subst hI
 walk_at "go"
 exact h
theorem f_next_tok {k j:Nat} {t:Str} {pre₀ rest₀:List Nat} {tk:List Nat} {q st:Bool} {r:List Nat} {X:XPost} (hj:j<objs.length) (hk:k<objs.length) (hne:j≠k) (hp:L t=pre₀++rest₀) (ht:t.length≤100000) (hc:rest₀.all lexC=true) (hq:lexOk .sp rest₀=true)
  (hg:lexGo .sp [] false rest₀=.tok tk q st r) (hx:¬ (q=false∧tk=[])) (h:Q (.str (mk tk)) ((objs.set j (sio t (t.length - r.length))).set k (lexA j (if st then .str " " else .none) ""))) :
  XCodeX (topT w.params fs) w (n+6) (.ref 891) [.obj k] [] [] ((objs.set j (sio t pre₀.length)).set k (lexA j (.str " ") "")) Q X:=by
 refine xcdX (dk_891 _) (bind1 (x := "self") fun _=>rfl) (by kernel_rfl!) fun L' fs=>ssx_of ?_
 refine ss_cons ?_
 have hk':k<(objs.set j (sio t pre₀.length)).length:=by rw[List.length_set];exact hk
 walk_at "go"
 refine f_get_token hj hk hne hp ht hc hq ?_
 rw[hg]
 try dsimp only
 rw[if_neg hx]
 have hk2:k<(objs.set j (sio t (t.length - r.length))).length:=by rw[List.length_set];exact hk
 walk_at "go"
 exact h
end
theorem drop_head {α:Type} {l:List α} {i:Nat} {x:α} {r:List α} (h:l.drop i=x :: r):l[i]?=some x∧i+1≤l.length∧l.drop (i+1)=r:=by
 have h1:l[i]?=some x:=by
  have:(l.drop i)[0]?=some x:=by rw[h];rfl
  rwa [List.getElem?_drop] at this
 refine ⟨h1,(List.getElem?_eq_some_iff.mp h1).1,?_⟩
 have:(l.drop i).drop 1=r:=by rw[h];rfl
 rwa [List.drop_drop] at this
section
variable {fs:List Env} {w:World} {n:Nat} {objs:List AO} {Q:D→List AO→Prop}
theorem f_next_stop {k j:Nat} {t:Str} {pre₀ rest₀:List Nat} {st:Bool} {r:List Nat} {X:XPost} (hj:j<objs.length) (hk:k<objs.length) (hne:j≠k) (hp:L t=pre₀++rest₀) (ht:t.length≤100000) (hc:rest₀.all lexC=true) (hq:lexOk .sp rest₀=true)
  (hg:lexGo .sp [] false rest₀=.tok [] false st r) (h:X "StopIteration" ((objs.set j (sio t (t.length - r.length))).set k (lexA j (if st then .str " " else .none) ""))) :
  XCodeX (topT w.params fs) w (n+6) (.ref 891) [.obj k] [] [] ((objs.set j (sio t pre₀.length)).set k (lexA j (.str " ") "")) Q X:=by
 refine xcdX (dk_891 _) (bind1 (x := "self") fun _=>rfl) (by kernel_rfl!) fun L' fs=>?_
 refine ssx_cons ?_
 have hk':k<(objs.set j (sio t pre₀.length)).length:=by rw[List.length_set];exact hk
 walk_at "go"
 refine f_get_token hj hk hne hp ht hc hq ?_
 rw[hg]
 try dsimp only
 rw[if_pos ⟨rfl,rfl⟩]
 have hk2:k<(objs.set j (sio t (t.length - r.length))).length:=by rw[List.length_set];exact hk
 walk_at "go"
 refine ssx_consX (sx_if ?_)
 walk_at "go"
 refine ssx_consX (sx_raise_stop (by kernel_rfl!) (by kernel_rfl!) rfl ?_)
 exact h
theorem f_next_end {k j:Nat} {t:Str} {X:XPost} (hj:j<objs.length) (hk:k<objs.length) (hne:j≠k) (ht:t.length≤100000)
  (h:X "StopIteration" ((objs.set j (sio t t.length)).set k (lexA j .none ""))) :
  XCodeX (topT w.params fs) w (n+6) (.ref 891) [.obj k] [] [] ((objs.set j (sio t t.length)).set k (lexA j .none "")) Q X:=by
 refine xcdX (dk_891 _) (bind1 (x := "self") fun _=>rfl) (by kernel_rfl!) fun L' fs=>?_
 refine ssx_cons ?_
 have hk':k<(objs.set j (sio t t.length)).length:=by rw[List.length_set];exact hk
 walk_at "go"
 refine f_get_token_end hj hk hne ht ?_
 walk_at "go"
 refine ssx_consX (sx_if ?_)
 walk_at "go"
 refine ssx_consX (sx_raise_stop (by kernel_rfl!) (by kernel_rfl!) rfl ?_)
 exact h
theorem f_lexiter {k:Nat} (h:Q (.obj k) objs):XC (topT w.params fs) w (n+1) (.ref 884) [.obj k] [] [] objs Q:=by
 refine xd (dk_884 _) (bind1 (x := "self") fun _=>rfl) (by kernel_rfl!) fun L fs=>?_
 refine ss_cons ?_
 walk_at "go"
 exact h
def LexAt (objs:List AO) (j k:Nat) (t:Str) (l:List (List Nat)) (o:List AO):Prop :=
 (∃ pre rest,L t=pre++rest∧Toks rest l∧o=(objs.set j (sio t pre.length)).set k (lexA j (.str " ") ""))∨(l=[]∧o=(objs.set j (sio t t.length)).set k (lexA j .none ""))
theorem f_split {t:Str} {l:List (List Nat)} (ht:t.length≤100000) (hl:Toks (L t) l) (hn:l.length≤100000) (h:Q (.list (strD (l.map mk))) objs):XC (topT w.params fs) w (n+10) (.ref 906) [.str t] [] [] objs Q:=by
 refine xc_drop ?_
 refine xd (dk_906 _) (bk1 (x := "s") (more:=[("comments",.bool false),("posix",.bool true)]) (ml:=[("comments",.bool false),("posix",.bool true)]) (fun _ _=>.cons (.bool _) (.cons (.bool _) .nil)) fun _ _=>by kernel_rfl!) (by kernel_rfl!) fun L' fs=>?_
 refine ss_cons ?_
 walk_at "go"
 refine x_make (fI:=818) (by kernel_rfl!) (by kernel_rfl!) (by kernel_rfl!) ?_
 obtain ⟨e1,e2⟩:=set_last (objs:=objs) (X:=.inst 894 [])
 rw[e1]
 refine f_lexinit e2 ⟨rfl,?_⟩
 generalize hB:objs++[AO.inst 894 []]++[sio t 0]=B
 have hBl:B=objs++[.inst 894 [],sio t 0]:=by rw[← hB,List.append_assoc];rfl
 have hj0:(objs++[AO.inst 894 []]).length=objs.length+1:=by rw[List.length_append];rfl
 rw[hj0]
 have hk:objs.length<B.length:=by rw[hBl,List.length_append];simp
 have hj:objs.length+1<B.length:=by rw[hBl,List.length_append];simp
 have hne:objs.length+1≠objs.length:=Nat.succ_ne_self _
 have hBj:B=B.set (objs.length+1) (sio t 0):=(set_intro (by rw[hBl,List.getElem?_append_right (Nat.le_succ _)];simp)).1
 walk_at "go"
 refine c_list_inst (c:=894) (f:=891) (fi:=884) (ds:=strD (l.map mk)) (Inv:=fun i o=>i≤l.length∧LexAt B (objs.length+1) objs.length t (l.drop i) o) (Fn:=fun o=>∃ x y,o=(B.set (objs.length+1) y).set objs.length x) (List.getElem?_set_self hk) (by unfold strD;rw[List.length_map,List.length_map];exact hn) (by kernel_rfl!) (by kernel_rfl!) (by kernel_rfl!) (by kernel_rfl!) (by kernel_rfl!) (by kernel_rfl!) (f_lexiter ⟨rfl,rfl⟩).2 ⟨Nat.zero_le _,.inl ⟨[],L t,rfl,hl,by rw[List.length_nil,← hBj];rfl⟩⟩ (fun i o ⟨hi,hI⟩=>?_) (fun o ⟨x,y,ho⟩=>?_)
 ·rcases hI with ⟨pre,rest,hp,hT,ho⟩ | ⟨hd,ho⟩
  ·subst ho
   refine ⟨⟨_,List.getElem?_set_self (by rw[List.length_set];exact hk)⟩,?_⟩
   generalize hld:l.drop i=ld at hT
   cases hT with
   | nil h1 hc hq =>
    rename_i s' st
    refine f_next_stop hj hk hne hp ht hc hq (st:=st) (r:=s') h1 ⟨rfl,?_,_,_,rfl⟩
    unfold strD;rw[List.length_map,List.length_map]
    have:=List.drop_eq_nil_iff.mp hld
    lia
   | last h1 hx hs hc hq =>
    rename_i tk q s'
    subst hs
    obtain ⟨g1,g2,g3⟩:=drop_head hld
    refine f_next_tok hj hk hne hp ht hc hq h1 hx ⟨?_,g2,.inr ⟨g3,rfl⟩⟩
    simp [strD,List.getElem?_map,g1]
   | cons h1 hx hs hc hq hr =>
    rename_i tk q s' p ld'
    obtain ⟨g1,g2,g3⟩:=drop_head hld
    have hp2:L t=(pre++p)++s':=by rw[hp,hs,List.append_assoc]
    refine f_next_tok hj hk hne hp ht hc hq h1 hx ⟨?_,g2,.inl ⟨pre++p,s',hp2,by rw[g3];exact hr,?_⟩⟩
    ·simp [strD,List.getElem?_map,g1]
    ·rw[show t.length - s'.length=(pre++p).length by rw[L_len,hp2,List.length_append (as:=pre++p)];lia];rfl
  ·subst ho
   refine ⟨⟨_,List.getElem?_set_self (by rw[List.length_set];exact hk)⟩,f_next_end hj hk hne ht ⟨rfl,?_,_,_,rfl⟩⟩
   unfold strD;rw[List.length_map,List.length_map]
   have:=List.drop_eq_nil_iff.mp hd
   lia
 ·subst ho
  have e:(B.set (objs.length+1) y).set objs.length x=objs++[x,y]:=by
   rw[hBl,List.set_append_right _ _ (Nat.le_succ _),List.set_append_right _ _ (Nat.le_refl _)];simp
  rw[e]
  walk_at "go"
  exact dropped (D.und_fz (unds_strs _)) h
end
section
variable {fs:List Env} {w:World} {n:Nat} {objs:List AO} {Q:D→List AO→Prop}
noncomputable def stO (b:Bool) (g:Nat→List File):List AO:=.tab b :: (List.range 4).map fun i=>.lst ((g i).map fileD)
theorem lt4 {i:Nat} (h:i<4):i=0∨i=1∨i=2∨i=3:=by lia
theorem stO_get {b:Bool} {g:Nat→List File} {i:Nat} (h:i<4):(stO b g)[i+1]?=some (.lst ((g i).map fileD)):=by
 rcases lt4 h with rfl | rfl | rfl | rfl <;> rfl
theorem stO_set {b:Bool} {g g':Nat→List File} {i:Nat} (h:i<4) (hg:∀ j,j≠i→g' j=g j):(stO b g).set (i+1) (.lst ((g' i).map fileD))=stO b g':=by
 unfold stO
 rcases lt4 h with rfl | rfl | rfl | rfl
 ·rw[show List.range 4=[0,1,2,3] from rfl];simp [hg 1,hg 2,hg 3]
 ·rw[show List.range 4=[0,1,2,3] from rfl];simp [hg 0,hg 2,hg 3]
 ·rw[show List.range 4=[0,1,2,3] from rfl];simp [hg 0,hg 1,hg 3]
 ·rw[show List.range 4=[0,1,2,3] from rfl];simp [hg 0,hg 1,hg 2]
theorem stO_tab {b:Bool} {g:Nat→List File}:(stO b g)[0]?=some (.tab b)∧(stO b g).set 0 (.tab true)=stO true g:=⟨rfl,rfl⟩
noncomputable def gsD:List D:=(List.range 4).map fun i:Nat=>D.obj (i+1)
theorem gsD_get {i:Nat} (h:i<4):gsD[i]?=some (.obj (i+1)):=by
 rcases lt4 h with rfl | rfl | rfl | rfl <;> rfl
theorem stO_asL {b:Bool} {g:Nat→List File} {i:Nat} (h:i<4):asL (stO b g) (.obj (i+1))=some ((g i).map fileD):=by
 show (match (stO b g)[i+1]? with | some (.lst l)=>some l | _=>none)=_
 rw[stO_get h]
noncomputable def grp (ns:List Nat) (k i:Nat):List File:=((ns.take k).zipIdx.filter fun p=>p.1 % 4==i).map fun p=>fileF p.1 p.2
theorem grp_step {ns:List Nat} {k m:Nat} (h:ns[k]?=some m) (i:Nat):grp ns (k+1) i=if m % 4=i then grp ns k i++[fileF m k] else grp ns k i:=by
 unfold grp
 rw[List.take_add_one,h,Option.toList_some,List.zipIdx_append,List.filter_append,List.map_append]
 have hk:(ns.take k).length=k:=by rw[List.length_take];have:=(List.getElem?_eq_some_iff.mp h).1;lia
 rw[hk]
 by_cases e:m % 4=i
 ·rw[if_pos e];simp [e]
 ·rw[if_neg e];simp [e]
noncomputable def numN (sc:List Int):List Nat:=(sc.take 6).map (fun x=>(x.fmod 8192).toNat)++[272,2320,193,282]
theorem fmod_cast (x:Int):x.fmod 8192=(((x.fmod 8192).toNat:Nat):Int):=by
 have:=Int.fmod_nonneg_of_pos x (b:=8192) (by decide)
 lia
noncomputable def wordsG (G:Nat→List File) (i:Nat):List Str:=(G i).map (·.word)
noncomputable def lineG (G:Nat→List File) (i:Nat):Str:=Txt.join (Str.ofString " ") ((wordsG G i).map qtS)
noncomputable def linesG (G:Nat→List File):List Str:=(List.range 4).map (lineG G)
noncomputable def textG (G:Nat→List File):Str:=Txt.join (Str.ofString " ") ((linesG G).map qtS)
noncomputable def evG (G:Nat→List File):List File:=(List.range 4).flatMap G
@[irreducible] noncomputable def npF (f:File):Str:=normP f.word
theorem npF_eq (f:File):npF f=normP f.word:=by unfold npF;rfl
noncomputable def ppG (G:Nat→List File):List (Str×Str):=(evG G).map fun f=>(npF f,f.lett)
structure ModOk (x l:Str):Prop where
 ok:∃ b,b=Txt.slice x (some (Txt.rfind x "/"+1)) none∧Txt.rfind b "/"=-1∧Txt.rfind b "."=1∧((Txt.slice b (some (-1+1)) (some (-1+1+1))).cps.toList != (Str.ofString ".").cps.toList)=true∧Txt.slice b none (some 1)=l
structure LawOk (w:World) (G:Nat→List File):Prop where
 num:∀ i,(G i).length≤10
 word:∀ i,∀ f∈G i,f.word.length≤1000
 j1:∀ i,JoinOk (Str.ofString " ") ((wordsG G i).map qtS)=true
 line:∀ i,(lineG G i).length≤1000
 j2:JoinOk (Str.ofString " ") ((linesG G).map qtS)=true
 text:(textG G).length≤100000
 t1:Toks (L (textG G)) ((linesG G).map L)
 t2:∀ i,Toks (L (lineG G i)) ((wordsG G i).map L)
 norm:∀ i,∀ f∈G i,NormOk f.word
 mod:∀ i,∀ f∈G i,ModOk (npF f) f.lett
 told:∀ i,ToldOk w (wordsG G i) (ppG G)
 t3:∀ i,wordsG G i=[]→dueF (G i) (evG G)=.str (Str.ofString "refused")
 t4:∀ i,wordsG G i≠[]→(∃ p∈(wordsG G i).map dirP,stC p=true)→(∃ p∈(wordsG G i).map dirP,stC p=false)→dueF (G i) (evG G)=.str (Str.ofString "refused")
 t5:∀ i b,wordsG G i≠[]→(∀ p∈(wordsG G i).map dirP,stC p=b)→∃ d:Str,d.length≤100000∧(∀ {n:Nat} {fs:List Env} {objs:List AO} {Q:D→List AO→Prop},Q (.str d) objs→XC (topT w.params fs) w (n+4) (.ref 803) [.str (folC ((wordsG G i).map dirP) b)] [] [] objs Q) ∧
   dueF (G i) (evG G)=.list [.str (folC ((wordsG G i).map dirP) b),.list ((ppG G).map (ansS d))]
 j3:∀ i,JoinOk (Str.ofString "/") (sharedF (G i))=true
 l3:∀ i,(Txt.join (Str.ofString "/") (sharedF (G i))).length≤1000
theorem mkL_map (l:List Str):(l.map L).map mk=l:=by
 rw[List.map_map]
 exact (List.map_congr_left fun x _=>mk_L x).trans (List.map_id' l)
theorem take4 {i:Nat} (h:i<4):(List.range 4)[i]?=some i:=by rcases lt4 h with rfl | rfl | rfl | rfl <;> rfl
theorem ev_step {G:Nat→List File} {i:Nat} (h:i<4):((List.range 4).take (i+1)).flatMap G=((List.range 4).take i).flatMap G++G i:=by
 rw[List.take_add_one,take4 h];simp
theorem ev_len {G:Nat→List File} (h:∀ i,(G i).length≤10) {i j:Nat} (hi:i<4):(((List.range 4).take i).flatMap G++(G i).take j).length≤50:=by
 have h0:=h 0;have h1:=h 1;have h2:=h 2;have h3:=h 3
 have hj:∀ i,((G i).take j).length≤10:=fun i=>by rw[List.length_take];have:=h i;lia
 have j0:=hj 0;have j1:=hj 1;have j2:=hj 2;have j3:=hj 3
 rw[show List.range 4=[0,1,2,3] from rfl,List.length_append]
 rcases lt4 hi with rfl | rfl | rfl | rfl <;> simp only [List.take_zero,List.take_succ_cons,List.flatMap_nil,List.flatMap_cons,List.length_append,List.length_nil] <;> lia
theorem evG_len {G:Nat→List File} (h:∀ i,(G i).length≤10):(evG G).length≤100000:=by
 have h0:=h 0;have h1:=h 1;have h2:=h 2;have h3:=h 3
 unfold evG
 rw[show List.range 4=[0,1,2,3] from rfl]
 simp only [List.flatMap_nil,List.flatMap_cons,List.length_append,List.length_nil]
 lia
theorem evG_100 {G:Nat→List File} (h:∀ i,(G i).length≤10):(evG G).length≤100:=by
 have h0:=h 0;have h1:=h 1;have h2:=h 2;have h3:=h 3
 unfold evG
 rw[show List.range 4=[0,1,2,3] from rfl]
 simp only [List.flatMap_nil,List.flatMap_cons,List.length_append,List.length_nil]
 lia
theorem cmp_due (fg fe:List File):Cmp 3 (dueF fg fe):=by
 unfold dueF
 split
 ·exact .str _
 ·refine .list fun d hd=>?_
  rcases List.mem_cons.mp hd with rfl | hd
  ·exact .str _
  ·rw[List.mem_singleton] at hd
   subst hd
   refine .list fun d hd=>?_
   obtain ⟨f,_,rfl⟩:=List.mem_map.mp hd
   refine .list fun d hd=>?_
   rcases List.mem_cons.mp hd with rfl | hd
   ·exact .str _
   ·rw[List.mem_singleton] at hd
    subst hd;exact .str _
noncomputable def lawRest2:List Stmt:=(fnB (st 66)).drop 7
theorem mapS {α:Type} (f:α→Str) (l:List α):strD (l.map f)=l.map fun x=>D.str (f x):=List.map_map
theorem r4 {i x:Nat} (h:(List.range 4)[i]?=some x):x<4∧i=x:=by
 obtain ⟨h1,h2⟩:=List.getElem?_eq_some_iff.mp h
 rw[List.getElem_range] at h2
 rw[List.length_range] at h1
 exact ⟨h2▸h1,h2⟩
set_option maxHeartbeats 400000 in
theorem law_tail2 {G:Nat→List File} (ok:LawOk w G) {L:Addr} :
  EvSs (topT w.params fs) w (n+13) (callEnvC fd_975 L 975) lawRest2 [(Str.ofString "plain",.list (strD ((evG G).map fun f=>npF f))),(Str.ofString "lines",.list ((List.range 4).map fun i=>.list (strD (wordsG G i)))),(Str.ofString "groups",.list gsD)] (stO true G) fun f l o=>f=.ret (.bool true)∧o=stO true G:=by
 refine ss_cons ?_
 walk_at "go"
 refine ev_listcomp (comp_ok0 (by kernel_rfl!)) (fun _=>rfl) (fun _ _=>rfl) ?_
 walk_at "go"
 have e:asL (stO true G) (.list (strD ((evG G).map fun f=>npF f)))=some (strD ((evG G).map fun f=>npF f)):=rfl
 refine ⟨((evG G).map fun f=>D.str (npF f)),fun o=>asL o (.list (strD ((evG G).map fun f=>npF f)))=some (strD ((evG G).map fun f=>npF f)),invF (stO true G) (fun q=>q.map fun f=>pairD (npF f,f.lett)) (evG G),?_,e,⟨rfl,rfl⟩,?_,CompT.fn fun C i f hf=>?_,finF ?_⟩
 ·rw[← mapS];exact it_list e
 ·rw[List.length_map]
  exact evG_len ok.num
 ·obtain ⟨i',hi',hf'⟩:=List.mem_flatMap.mp (List.mem_of_getElem? hf)
  obtain ⟨b,m1,m2,m3,m4,m5⟩:=(ok.mod i' f hf').ok
  refine ⟨_,l_name (by kernel_rfl!),.cons (by kernel_rfl!) (.refl _),ts_nil ?_⟩
  walk_at "go"
  refine f_modname (n:=n+9) b m1 m2 m3 m4 ?_
  rw[m5]
  walk_at "go"
  refine ⟨e,rfl,?_⟩
  dsimp only
  rw[take_map hf]
  rfl
 walk_at "go"
 refine ev_compG (comp_ok0 (by kernel_rfl!)) (fun _=>rfl) (fun C Dd=>cla_list (turn_l2a _ _ _ _ _ _ _ _ _ _ _)) ?_
 walk_at "go"
 refine ⟨gsD,_,invG (fun _=>stO true G) (fun q=>(q.flatMap G).map fileD) (List.range 4),itg_name (it_list rfl),rfl,⟨rfl,rfl⟩,fun C Dd=>TurnOk.fn (g:=fun i:Nat=>D.obj (i+1)) fun i x hx=>?_,finG (g:=fun i:Nat=>D.obj (i+1)) ?_⟩
 ·have hi:=r4 hx
  refine ⟨_,l_name (by kernel_rfl!),.cons (by kernel_rfl!) (.refl _),ts_nil (ec_nest (cla_list (turn_l2b _ _ _ _ _ _ _ _ _ _ _)) (cst_list rfl) (accL_ok _) (fun _=>rfl) ?_)⟩
  walk_at "go"
  refine ⟨(G x).map fileD,_,invG (fun _=>stO true G) (fun q=>(((List.range 4).take i).flatMap G++q).map fileD) (G x),itg_name (it_list (stO_asL hi.1)),stO_asL hi.1,⟨rfl,by dsimp only;rw[List.take_zero,List.append_nil]⟩,TurnOk.fn fun j f hf=>?_,finN ?_⟩
  ·refine ⟨_,l_name (by kernel_rfl!),.cons (by kernel_rfl!) (.refl _),ts_nil (ec_append ?_)⟩
   walk_at "go"
   refine ⟨?_,stO_asL hi.1,rfl,?_⟩
   ·rw[List.length_map]
    obtain ⟨h4,rfl⟩:=hi
    have:=ev_len ok.num (j:=j) h4
    lia
   ·dsimp only;rw[List.take_add_one,hf];simp
  ·exact ⟨rfl,rfl,by obtain ⟨h4,rfl⟩:=hi;dsimp only;rw[ev_step h4]⟩
 walk_at "go"
 refine s_assign_comp (comp_ok1 (y := "paths") (c:=L+1) (by kernel_rfl!) (by kernel_rfl!) (Or.inl (by kernel_rfl!)) (by walk_at "l")) rfl (.inl (by kernel_rfl!)) (fun _=>rfl) (fun _ _=>rfl) ?_
 walk_at "go"
 rw[show List.map (fun f=>pairD (npF f,f.lett)) (evG G)=(ppG G).map pairD by unfold ppG;rw[List.map_map];rfl]
 refine ⟨(List.range 4).map fun i=>.list (strD (wordsG G i)),_,invF (stO true G) (fun q=>q.map fun i=>dueF (G i) (evG G)) (List.range 4),it_list rfl,rfl,⟨rfl,rfl⟩,Nat.le_of_ble_eq_true rfl,CompT.fn fun C i x hx=>?_,finF ?_⟩
 ·refine ⟨_,l_name (by kernel_rfl!),.cons (by kernel_rfl!) (.refl _),ts_nil ?_⟩
  walk_at "go"
  have hst:=take_map hx fun i=>dueF (G i) (evG G)
  refine f_law_told (ok.told x) (fun h0=>?_) (fun h0 h1 h2=>?_) fun b h0 hb=>?_
  ·refine ⟨rfl,rfl,?_⟩
   dsimp only
   rw[hst,ok.t3 x h0]
  ·refine ⟨rfl,rfl,?_⟩
   dsimp only
   rw[hst,ok.t4 x h0 h1 h2]
  ·obtain ⟨d,d1,d2,d3⟩:=ok.t5 x b h0 hb
   refine ⟨d,d1,d2,rfl,rfl,?_⟩
   dsimp only
   rw[hst,d3]
 walk_at "go"
 refine ev_listcomp (comp_ok1 (y := "every") (c:=L+2) (by kernel_rfl!) (by kernel_rfl!) (Or.inl (by kernel_rfl!)) (by walk_at "l")) (fun _=>rfl) (fun _ _=>rfl) ?_
 walk_at "go"
 refine ⟨gsD,_,invF (stO true G) (fun q=>q.map fun i=>dueF (G i) (evG G)) (List.range 4),it_list rfl,rfl,⟨rfl,rfl⟩,Nat.le_of_ble_eq_true rfl,CompT.fn (g:=fun i:Nat=>D.obj (i+1)) fun C i x hx=>?_,finF (g:=fun i:Nat=>D.obj (i+1)) ?_⟩
 ·have hi:=r4 hx
  refine ⟨_,l_name (by kernel_rfl!),.cons (by kernel_rfl!) (.refl _),ts_nil ?_⟩
  walk_at "go"
  exact f_law_due (n:=n+11) (stO_asL hi.1) (fe:=evG G) rfl (Nat.le_trans (ok.num x) (by decide)) (evG_100 ok.num) (ok.j3 x) (ok.l3 x) ⟨rfl,rfl,(take_map hx _).symm⟩
 walk_at "go"
 refine o_eq_same (l:=(List.range 4).map fun i=>dueF (G i) (evG G)) (k:=3) rfl rfl (fun d hd=>?_) (by decide) ?_
 ·obtain ⟨i,_,rfl⟩:=List.mem_map.mp hd
  exact cmp_due _ _
 walk_at "go"
 exact ⟨rfl,rfl⟩
end
section
variable {fs:List Env} {w:World} {n:Nat} {objs:List AO} {Q:D→List AO→Prop}
noncomputable def lawRest:List Stmt:=(fnB (st 66)).drop 3
set_option maxHeartbeats 4000000 in
theorem law_tail {G:Nat→List File} (ok:LawOk w G) {L:Addr} :
  EvSs (topT w.params fs) w (n+13) (callEnvC fd_975 L 975) lawRest [(Str.ofString "groups",.list gsD)] (stO false G) fun f l o=>f=.ret (.bool true)∧o=stO true G:=by
 refine ss_cons ?_
 walk_at "go"
 refine ev_listcomp (comp_ok0 (by kernel_rfl!)) (fun _=>rfl) (fun _ _=>rfl) ?_
 walk_at "go"
 refine ⟨gsD,_,fun i res o=>(∃ b,o=stO b G)∧res=strD (((List.range 4).take i).map (lineG G)),it_list rfl,rfl,⟨⟨_,rfl⟩,rfl⟩,by decide,fun C i res o dd hdd hok hI=>?_,fun res o hI=>?_⟩
 ·obtain ⟨⟨b,rfl⟩,rfl⟩:=hI
  have hi:i<4:=(List.getElem?_eq_some_iff.mp hdd).1
  rw[gsD_get hi] at hdd
  cases hdd
  refine ⟨_,l_name (by kernel_rfl!),.cons (by kernel_rfl!) (.refl _),ts_nil ?_⟩
  walk_at "go"
  refine ev_listcomp (comp_ok0 (by kernel_rfl!)) (fun _=>rfl) (fun _ _=>rfl) ?_
  walk_at "go"
  refine ⟨(G i).map fileD,_,invF (stO b G) (fun q=>strD (q.map (·.word))) (G i),it_list (stO_asL hi),stO_asL hi,⟨rfl,rfl⟩,by rw[List.length_map];have:=ok.num i;lia,CompT.fn fun C' j f hf=>?_,finF ?_⟩
  ·refine ⟨_,l_name (by kernel_rfl!),.cons (by kernel_rfl!) (.refl _),ts_nil ?_⟩
   walk_at "go"
   refine i_list (l:=[.str f.word,.int f.sl,.list (strD f.way),.str f.lett]) rfl (by decide) rfl ?_
   exact ⟨stO_asL hi,rfl,by dsimp only;rw[take_map hf];simp [strD]⟩
  walk_at "go"
  refine f_join (kk:=0) (n:=n+9) (b:=b) rfl (by rw[List.length_map];have:=ok.num i;lia) (fun x hx=>?_) (ok.j1 i) ⟨rfl,⟨_,stO_tab.2⟩,?_⟩
  ·obtain ⟨f,hf,rfl⟩:=List.mem_map.mp hx
   exact ok.word i f hf
  ·rw[take_map (take4 hi)]
   unfold strD
   rw[List.map_append];rfl
 obtain ⟨⟨b,rfl⟩,rfl⟩:=hI
 walk_at "go"
 rw[show List.map (lineG G) (List.take gsD.length (List.range 4))=linesG G from rfl]
 refine f_join (kk:=0) (n:=n+9) (b:=b) rfl (Nat.le_of_ble_eq_true rfl) (fun x hx=>?_) ok.j2 ?_
 ·obtain ⟨i,_,rfl⟩:=List.mem_map.mp hx
  exact ok.line i
 rw[stO_tab.2]
 walk_at "go"
 refine s_assign_comp (comp_ok0 (by kernel_rfl!)) rfl (.inl (by kernel_rfl!)) (fun _=>rfl) (fun _ _=>rfl) ?_
 walk_at "go"
 refine f_split (n:=n+3) ok.text ok.t1 (Nat.le_of_ble_eq_true rfl) ?_
 rw[mkL_map]
 refine ⟨(List.range 4).map fun i=>D.str (lineG G i),_,invF (stO true G) (fun q=>q.map fun i=>.list (strD (wordsG G i))) (List.range 4),it_list rfl,rfl,⟨rfl,rfl⟩,Nat.le_of_ble_eq_true rfl,CompT.fn fun C i x hx=>?_,finF ?_⟩
 ·refine ⟨_,l_name (by kernel_rfl!),.cons (by kernel_rfl!) (.refl _),ts_nil ?_⟩
  walk_at "go"
  refine f_split (n:=n+3) (Nat.le_trans (ok.line x) (by decide)) (ok.t2 x) (by rw[List.length_map,wordsG,List.length_map];have:=ok.num x;lia) ⟨rfl,rfl,?_⟩
  dsimp only
  rw[mkL_map,take_map hx]
 walk_at "go"
 refine ev_listcomp (comp_ok0 (by kernel_rfl!)) (fun _=>rfl) (fun _ _=>rfl) ?_
 walk_at "go"
 refine ⟨gsD,_,invF (stO true G) (fun q=>q.map fun i=>.list (strD (wordsG G i))) (List.range 4),it_list rfl,rfl,⟨rfl,rfl⟩,by decide,CompT.fn (g:=fun i:Nat=>D.obj (i+1)) fun C i x hx=>?_,finF (g:=fun i:Nat=>D.obj (i+1)) ?_⟩
 ·have hi:=r4 hx
  refine ⟨_,l_name (by kernel_rfl!),.cons (by kernel_rfl!) (.refl _),ts_nil ?_⟩
  walk_at "go"
  refine ev_listcomp (comp_ok0 (by kernel_rfl!)) (fun _=>rfl) (fun _ _=>rfl) ?_
  walk_at "go"
  refine ⟨(G x).map fileD,_,invF (stO true G) (fun q=>strD (q.map (·.word))) (G x),it_list (stO_asL hi.1),stO_asL hi.1,⟨rfl,rfl⟩,by rw[List.length_map];have:=ok.num x;lia,CompT.fn fun C' j f hf=>?_,finF ?_⟩
  ·refine ⟨_,l_name (by kernel_rfl!),.cons (by kernel_rfl!) (.refl _),ts_nil ?_⟩
   walk_at "go"
   refine i_list (l:=[.str f.word,.int f.sl,.list (strD f.way),.str f.lett]) rfl (by decide) rfl ?_
   exact ⟨stO_asL hi.1,rfl,by dsimp only;rw[take_map hf];simp [strD]⟩
  exact ⟨rfl,rfl,(take_map hx _).symm⟩
 walk_at "go"
 refine o_ne_same (l:=(List.range 4).map fun i=>.list (strD (wordsG G i))) (k:=1) rfl rfl (fun d hd=>?_) (by decide) ?_
 ·obtain ⟨i,_,rfl⟩:=List.mem_map.mp hd
  exact .list (cmp_strs _)
 walk_at "go"
 refine s_assign_compG (comp_ok0 (by kernel_rfl!)) rfl (.inl (by kernel_rfl!)) (fun _=>rfl) (fun C Dd=>cla_list (turn_l2a _ _ _ _ _ _ _ _ _ _ _)) ?_
 walk_at "go"
 refine ⟨(List.range 4).map fun i=>.list (strD (wordsG G i)),_,invG (fun _=>stO true G) (fun q=>strD ((q.flatMap G).map fun f=>npF f)) (List.range 4),itg_name (it_list rfl),rfl,⟨rfl,rfl⟩,fun C Dd=>TurnOk.fn fun i x hx=>?_,finG ?_⟩
 ·have hi:=r4 hx
  refine ⟨_,l_name (by kernel_rfl!),.cons (by kernel_rfl!) (.refl _),ts_nil (ec_nest (cla_list (turn_l2b _ _ _ _ _ _ _ _ _ _ _)) (cst_list rfl) (accL_ok _) (fun _=>rfl) ?_)⟩
  walk_at "go"
  refine ⟨(G x).map fun f=>D.str f.word,_,invG (fun _=>stO true G) (fun q=>strD ((((List.range 4).take i).flatMap G++q).map fun f=>npF f)) (G x),itg_name (it_list (mapS _ _▸rfl)),(mapS _ _▸rfl),⟨rfl,by dsimp only;rw[List.take_zero,List.append_nil]⟩,TurnOk.fn fun j f hf=>?_,finN ?_⟩
  ·refine ⟨_,l_name (by kernel_rfl!),.cons (by kernel_rfl!) (.refl _),ts_nil (ec_append ?_)⟩
   walk_at "go"
   refine f_norm152 (n:=n+10) (ok.norm x f (List.mem_of_getElem? hf)) ?_
   rw[← npF_eq]
   refine ⟨?_,congrArg some (mapS _ _),rfl,?_⟩
   ·unfold strD
    rw[List.length_map,List.length_map]
    obtain ⟨h4,rfl⟩:=hi
    have:=ev_len ok.num (j:=j) h4
    lia
   ·dsimp only;rw[List.take_add_one,hf];simp [strD]
  ·exact ⟨rfl,rfl,by obtain ⟨h4,rfl⟩:=hi;dsimp only;rw[ev_step h4]⟩
 rw[show (List.range 4).flatMap G=evG G from rfl]
 refine EvSs.mono (EvSs.weak (.add (by walk_at "l") (.add (by walk_at "l") (.add (by walk_at "l") .nil))) (law_tail2 ok)) ?_
 rintro f l o ⟨rfl,rfl⟩
 exact ⟨rfl,rfl⟩
set_option maxHeartbeats 4000000 in
theorem f_law {sc:List Int} (hok:∀ ns:List Nat,ns.length≤10→(∀ m∈ns,m<8192)→LawOk w (grp ns ns.length)) (h:∀ o,o[0]?=some (.tab true)→Q (.bool true) o):XC (topT w.params fs) w (n+14) (.ref 975) [.list (sc.map .int)] [] [] [.tab false] Q:=by
 refine xdC (dk_975 _) (bind1 (x := "script") fun _=>rfl) (by kernel_rfl!) fun L fs=>?_
 refine ss_cons ?_
 walk_at "go"
 refine ev_listcomp (comp_ok0 (by kernel_rfl!)) (fun _=>rfl) (fun _ _=>rfl) ?_
 walk_at "go"
 refine sl_list (l:=sc.map D.int) (l':=(sc.take 6).map D.int) rfl (by rw[slcD,if_pos (by decide),List.map_take];rfl) ?_
 refine ⟨(sc.take 6).map D.int,_,invF [.tab false] (fun q=>q.map fun x=>D.int (x.fmod 8192)) (sc.take 6),it_list rfl,rfl,⟨rfl,rfl⟩,by rw[List.length_map,List.length_take];lia,CompT.fn fun C i c hc=>?_,finF ?_⟩
 ·refine ⟨_,l_name (by kernel_rfl!),.cons (by kernel_rfl!) (.refl _),ts_nil ?_⟩
  walk_at "go"
  exact ⟨rfl,rfl,(take_map hc _).symm⟩
 walk_at "go"
 refine o_add_list rfl rfl (by rw[List.length_map,List.length_take];show _+4≤_;lia) ?_
 have hnum:List.map (fun x=>D.int (x.fmod 8192)) (sc.take 6)++[D.int 272,D.int 2320,D.int 193,D.int 282]=(numN sc).map fun m:Nat=>D.int m:=by
  unfold numN
  rw[List.map_append,List.map_map]
  congr 1
  exact List.map_congr_left fun x _=>congrArg D.int (fmod_cast x)
 rw[hnum]
 have hnl:(numN sc).length≤10:=by unfold numN;rw[List.length_append,List.length_map,List.length_take];show _+4≤_;lia
 have hlt:∀ m∈numN sc,m<8192:=fun m hm=>by
  unfold numN at hm
  rcases List.mem_append.mp hm with hm | hm
  ·obtain ⟨x,_,rfl⟩:=List.mem_map.mp hm
   have:=Int.fmod_lt_of_pos x (b:=8192) (by decide)
   lia
  ·have:∀ m∈[272,2320,193,282],m<8192:=by decide
   exact this m hm
 generalize numN sc=ns at hnl hlt ⊢
 with_reducible refine ss_cons (s_assign (Or.inl (by kernel_rfl!)) (by kernel_rfl!) (ev_list (es_cons (by kernel_rfl!) (ev_newlist (es_nil ⟨by decide,es_cons (by kernel_rfl!) (ev_newlist (es_nil ⟨by decide,es_cons (by kernel_rfl!) (ev_newlist (es_nil ⟨by decide,es_cons (by kernel_rfl!) (ev_newlist (es_nil ⟨by decide,es_nil ⟨by decide,?_⟩⟩))⟩))⟩))⟩)))))
 show EvSs _ _ _ _ _ [(Str.ofString "groups",.list gsD),_,_] (stO false (grp ns 0)) _
 refine ss_cons ?_
 refine s_for_range (fun i l o=>o=stO false (grp ns i)∧Sub [(Str.ofString "groups",.list gsD),(Str.ofString "numbers",.list (ns.map fun m:Nat=>D.int m)),(Str.ofString "script",.list (sc.map .int))] l) (fun _=>rfl) (Or.inl (by kernel_rfl!)) rfl ?_ ?_
 ·walk_at "go"
  exact ⟨rfl,rfl⟩
 walk_at "go"
 refine c_len_list rfl ?_
 rw[List.length_map]
 walk_at "go"
 refine ⟨_,rfl,by lia,⟨rfl,.refl _⟩,fun i l o hi hI=>?_,fun l o hI=>?_⟩
 ·obtain ⟨rfl,hl⟩:=hI
  refine EvSs.weak (Sub.both hl) ?_
  walk_at "go"
  obtain ⟨m,hm⟩:∃ m,ns[i]?=some m:=⟨_,List.getElem?_eq_getElem hi⟩
  have hmd:(ns.map fun m:Nat=>D.int m)[(i:Int).toNat]?=some (.int (m:Nat)):=by rw[Int.toNat_natCast,List.getElem?_map,hm];rfl
  have h4:m % 4<4:=Nat.mod_lt _ (by decide)
  refine i_list rfl (by lia) hmd ?_
  walk_at "go"
  rw[show ((m:Nat):Int).fmod 4=((m % 4:Nat):Int) from fmod_nat m 4]
  refine i_list rfl (by lia) (d:=.obj (m % 4+1)) (by rw[Int.toNat_natCast];exact gsD_get h4) ?_
  refine ⟨_,_,gm_list (stO_asL h4),?_⟩
  walk_at "go"
  refine i_list rfl (by lia) hmd ?_
  walk_at "go"
  refine f_law_file (hlt m (List.mem_of_getElem? hm)) (by lia) ?_
  rw[fileD_eq]
  walk_at "go"
  have hgl:(grp ns i (m % 4)).length≤i:=by
   unfold grp
   rw[List.length_map]
   refine Nat.le_trans (List.length_filter_le _ _) ?_
   rw[List.length_zipIdx,List.length_take];lia
  refine c_append (stO_get h4) (by rw[List.length_map];lia) ?_
  walk_at "go"
  have hst:(stO false (grp ns i)).set (m % 4+1) (.lst ((grp ns i (m % 4)).map fileD++[fileD (fileF m i)]))=stO false (grp ns (i+1)):=by
   rw[show (grp ns i (m % 4)).map fileD++[fileD (fileF m i)]=(grp ns (i+1) (m % 4)).map fileD by rw[grp_step hm,if_pos rfl,List.map_append];rfl]
   exact stO_set h4 fun j hj=>by rw[grp_step hm,if_neg (Ne.symm hj)]
  exact ⟨hst,.add (by walk_at "l") (.add (by walk_at "l") (.add (by walk_at "l") .nil))⟩
 obtain ⟨rfl,hl⟩:=hI
 refine ss_nil ?_
 try dsimp only
 refine EvSs.weak (l':=[(Str.ofString "groups",.list gsD)]) (.add (hl _ _ (by walk_at "l")) .nil) ?_
 refine EvSs.mono (law_tail (hok ns hnl hlt)) ?_
 rintro f l o ⟨rfl,rfl⟩
 exact h _ rfl
end
theorem way_all {P:Str→Prop} (h:∀ i,i<8→P (stepsP.getD i Str.empty)):∀ (f r:Nat),∀ p∈wayF f r,P p
 | 0,r,x,hx=>by cases hx
 | f+1,r,x,hx=>by
  unfold wayF at hx
  split at hx
  ·cases hx
  ·rcases List.mem_cons.mp hx with rfl | hx
   ·exact h _ (Nat.mod_lt _ (by decide))
   ·exact way_all h f _ x hx
theorem join_len3 (q:Str):∀ (ps:List Str),(∀ p∈ps,p.length≤2)→(L (Txt.join (mk [47]) (ps++[q]))).length≤3 * ps.length+q.length
 | [],_=>by rw[List.nil_append,L_join_one,L_len];simp
 | p :: r,h=>by
  have ih:=join_len3 q r fun x hx=>h x (.tail _ hx)
  have hp:=h p (.head _)
  rw[L_len] at hp
  cases hr:r++[q] with
  | nil=>simp at hr
  | cons a t =>
   rw[List.cons_append,hr,L_join_more]
   rw[hr] at ih
   simp only [List.length_append,List.length_cons]
   lia
theorem word_len (m k:Nat):(fileF m k).word.length≤18:=by
 have h1:=join_len3 (fn (97+k)) (wayF 4 (m / 16)) (wayF_len2 4 _)
 have h2:=wayF_num 4 (m / 16)
 have h3:=(slash_nat m).2
 show (pth (slashN m) (wayF 4 (m / 16)++[fn (97+k)])).length≤18
 rw[L_len,L_pth,List.length_append,List.length_replicate]
 have:(fn (97+k)).length=3:=by rw[fn,mk_len];rfl
 lia
theorem join_all {P:Nat→Bool} (h47:P 47=true):∀ (ps:List Str),(∀ p∈ps,(L p).all P=true)→(L (Txt.join (mk [47]) ps)).all P=true
 | [],_=>rfl
 | [p],h=>by rw[L_join_one];exact h p (.head _)
 | p :: q :: r,h=>by
  rw[L_join_more,List.all_append,List.all_cons,h p (.head _),h47,join_all h47 (q :: r) fun x hx=>h x (.tail _ hx)];rfl
theorem word_lexC {m k:Nat} (hk:k<10):(L (fileF m k).word).all lexC=true:=by
 show (L (pth (slashN m) (wayF 4 (m / 16)++[fn (97+k)]))).all lexC=true
 rw[L_pth,List.all_append,Bool.and_eq_true]
 refine ⟨List.all_eq_true.mpr fun c hc=>by rw[List.eq_of_mem_replicate hc];decide,join_all (by decide) _ ?_⟩
 refine good_snoc (way_all (by decide +kernel) _ _) ?_
 have key:∀ k,k<10→(L (fn (97+k))).all lexC=true:=by decide +kernel
 exact key k hk
theorem fn_len (l:Nat):(fn l).length=3:=by rw[fn,mk_len];rfl
theorem norm_ok {ps:List Str} {s:Nat} (hg:∀ p∈ps,Good p) (hn:ps≠[]) (h3:∀ p∈ps,p.length≤3) (hk:ps.length≤5) (hd:∀ p∈ps,L p≠[46,46]) (hs:s≤3):NormOk (pth s ps):=by
 have hp:=pcs_of hg hn
 have hj:=(join_ok (sep:=mk [47]) (b:=3) (k:=5) h3 hk (by decide)).2
 have hj:(Txt.join (mk [47]) ps).length≤20:=hj
 have hr:=rootP_pth hp hs
 have hsp:Txt.split (rootP (pth s ps)).2 (Str.ofString "/")=List.replicate (if s=3 then 2 else 0) (mk [])++ps:=by
  rw[hr];exact split_pth hp (by split <;> simp)
 have hkk:=kept_split hp hs
 have hks:∀ p∈kept ps,p.length≤3:=fun p q=>h3 p (List.mem_filter.mp q).1
 have hkl:(kept ps).length≤5:=Nat.le_trans (List.length_filter_le _ _) hk
 have hjk:=join_ok (sep:=mk [47]) (b:=3) (k:=5) hks hkl (by decide)
 have hl:(pth s ps).length≤23:=by
  rw[L_len,L_pth,List.length_append,List.length_replicate,← L_len];lia
 refine ⟨?_,by lia,fun c hc=>?_,?_,?_,?_⟩
 ·obtain ⟨c,t,hj,_⟩:=pcs_head hp
  have:(pth s ps).length≠0:=by rw[L_len,L_pth,hj];simp
  exact int_ne this
 ·rw[hsp] at hc
  rcases List.mem_append.mp hc with hc | hc
  ·rw[List.eq_of_mem_replicate hc];exact ⟨by decide,by decide⟩
  ·refine ⟨?_,Nat.le_trans (h3 c hc) (by decide)⟩
   rw[bne_iff_ne]
   exact hd c hc
 ·rw[hsp,List.length_append,List.length_replicate]
  split <;> lia
 ·rw[hkk];exact hjk.1
 ·rw[hkk,hr]
  have h2:=hjk.2
  have h2:(Txt.join (Str.ofString "/") (kept ps)).length≤20:=h2
  have:(sl ([0,1,2,1].getD s 0)).length≤2:=by
   have:s=0∨s=1∨s=2∨s=3:=by lia
   rcases this with rfl | rfl | rfl | rfl <;> decide
  show (sl _).length+_≤_
  lia
theorem file_norm (m k:Nat):NormOk (fileF m k).word:=by
 have h4:=wayF_num 4 (m / 16)
 refine norm_ok (good_snoc (way_good _ _) fn_good.1) (by simp) (good_snoc (fun p hp=>Nat.le_trans (wayF_len2 4 _ p hp) (by decide)) (by rw[fn_len];decide)) ?_ (good_snoc (way_all (by decide +kernel) _ _) ?_) (slash_nat m).2
 ·rw[List.length_append];show _+1≤5;lia
 ·intro h
  exact absurd (show (3:Nat)=2 from congrArg List.length h) (by decide)
theorem file_mod {m k:Nat}:ModOk (npF (fileF m k)) (fileF m k).lett:=by
 rw[npF_eq,norm_file]
 obtain ⟨h1,h2,h3,h4⟩:=fn_facts (l:=97+k) (by lia) (by lia)
 exact ⟨fn (97+k),(base_pth _ _ (fn_free (by lia))).symm,h1,h2,h3,h4⟩
def Fil (f:File):Prop:=∃ m k,k<10∧f=fileF m k
theorem grp_fil {ns:List Nat} (hn:ns.length≤10) {k i:Nat} {f:File} (h:f∈grp ns k i):Fil f:=by
 unfold grp at h
 obtain ⟨⟨m,j⟩,hp,rfl⟩:=List.mem_map.mp h
 have:=(List.mem_filter.mp hp).1
 have:=List.mk_mem_zipIdx_iff_getElem?.mp this
 have:=(List.getElem?_eq_some_iff.mp this).1
 rw[List.length_take] at this
 exact ⟨m,j,by lia,rfl⟩
theorem grp_len {ns:List Nat} (hn:ns.length≤10) (k i:Nat):(grp ns k i).length≤10:=by
 unfold grp
 rw[List.length_map]
 refine Nat.le_trans (List.length_filter_le _ _) ?_
 rw[List.length_zipIdx,List.length_take];lia
section
variable {G:Nat→List File}
theorem line_eq (G:Nat→List File) (i:Nat):lineG G i=mk (joinQ ((wordsG G i).map L)):=by
 rw[← join_joinQ,List.map_map];rfl
theorem text_eq (G:Nat→List File):textG G=mk (joinQ ((linesG G).map L)):=by
 rw[← join_joinQ,List.map_map];rfl
theorem words_fil (hf:∀ i,∀ f∈G i,Fil f) {i:Nat} {x:Str} (h:x∈wordsG G i):x.length≤18∧(L x).all lexC=true:=by
 obtain ⟨f,hf',rfl⟩:=List.mem_map.mp h
 obtain ⟨m,k,hk,rfl⟩:=hf i f hf'
 exact ⟨word_len m k,word_lexC hk⟩
theorem wordsL (hf:∀ i,∀ f∈G i,Fil f) {i:Nat}:∀ l∈(wordsG G i).map L,l.length≤18∧l.all lexC=true:=fun l hl=>by
 obtain ⟨x,hx,rfl⟩:=List.mem_map.mp hl
 rw[← L_len]
 exact words_fil hf hx
theorem words_len (hn:∀ i,(G i).length≤10) (i:Nat):(wordsG G i).length≤10:=by
 unfold wordsG;rw[List.length_map];exact hn i
theorem line_len (hf:∀ i,∀ f∈G i,Fil f) (hn:∀ i,(G i).length≤10) (i:Nat):(lineG G i).length≤1000:=by
 rw[line_eq,mk_len]
 have h1:=joinQ_len (b:=18) ((wordsG G i).map L) fun l hl=>(wordsL hf l hl).1
 have h2:=words_len hn i
 rw[List.length_map] at h1
 have:(wordsG G i).length * (5 * 18+3)≤10 * (5 * 18+3):=Nat.mul_le_mul_right _ h2
 lia
theorem lines_len (hf:∀ i,∀ f∈G i,Fil f) (hn:∀ i,(G i).length≤10):∀ l∈(linesG G).map L,l.length≤1000∧l.all lexC=true:=fun l hl=>by
 obtain ⟨x,hx,rfl⟩:=List.mem_map.mp hl
 obtain ⟨i,_,rfl⟩:=List.mem_map.mp hx
 rw[← L_len]
 refine ⟨line_len hf hn i,?_⟩
 rw[line_eq,L_mk]
 exact joinQ_lexC fun l hl=>(wordsL hf l hl).2
theorem text_len (hf:∀ i,∀ f∈G i,Fil f) (hn:∀ i,(G i).length≤10):(textG G).length≤100000:=by
 rw[text_eq,mk_len]
 have h1:=joinQ_len (b:=1000) ((linesG G).map L) fun l hl=>(lines_len hf hn l hl).1
 rw[List.length_map,show (linesG G).length=4 from rfl] at h1
 lia
theorem ev_mem {f:File} (h:f∈evG G):∃ i,f∈G i:=by
 obtain ⟨i,_,h⟩:=List.mem_flatMap.mp h
 exact ⟨i,h⟩
theorem dirs_eq (hf:∀ i,∀ f∈G i,Fil f) (i:Nat):((wordsG G i).map dirP).map spC=(G i).map (·.way):=by
 unfold wordsG
 rw[List.map_map,List.map_map]
 refine List.map_congr_left fun f h=>?_
 obtain ⟨m,k,hk,rfl⟩:=hf i f h
 show spC (dirP (fileF m k).word)=_
 rw[dir_file]
 show (Txt.split (pth _ _) (mk [47])).filter keepC=_
 rw[split_keep (way_good _ _) (slash_nat m).2,keep_good (way_good _ _)]
 rfl
theorem dir_split {m:Nat}:∀ q∈Txt.split (pth (slashN m) (wayF 4 (m / 16))) (mk [47]),q.length≤2:=fun q hq=>by
 have hs:=(slash_nat m).2
 generalize slashN m=s at hq hs
 have hg:=way_good 4 (m / 16)
 have h2:=wayF_len2 4 (m / 16)
 generalize wayF 4 (m / 16)=ps at hq hg h2
 by_cases hn:ps=[]
 ·subst hn
  have key:∀ s,s<4→∀ q∈Txt.split (pth s []) (mk [47]),q.length≤2:=by decide +kernel
  exact key s (by lia) q hq
 ·rw[L_inj (pth_join hn s),split_join (fun p hp=>?_) (by simp [hn])] at hq
  ·rcases List.mem_append.mp hq with hq | hq
   ·rw[List.eq_of_mem_replicate hq];decide
   ·exact h2 q hq
  ·rcases List.mem_append.mp hp with hp | hp
   ·rw[List.eq_of_mem_replicate hp,L_nil];exact fun q=>by cases q
   ·exact (hg p hp).1
theorem dir_num {m:Nat}:(Txt.split (pth (slashN m) (wayF 4 (m / 16))) (mk [47])).length≤10:=by
 have hs:=(slash_nat m).2
 generalize slashN m=s at hs
 have hg:=way_good 4 (m / 16)
 have h2:=wayF_num 4 (m / 16)
 generalize wayF 4 (m / 16)=ps at hg h2
 by_cases hn:ps=[]
 ·subst hn
  have key:∀ s,s<4→(Txt.split (pth s []) (mk [47])).length≤10:=by decide +kernel
  exact key s (by lia)
 ·rw[L_inj (pth_join hn s),split_join (fun p hp=>?_) (by simp [hn])]
  ·rw[List.length_append,List.length_replicate];lia
  ·rcases List.mem_append.mp hp with hp | hp
   ·rw[List.eq_of_mem_replicate hp,L_nil];exact fun q=>by cases q
   ·exact (hg p hp).1
theorem shared_way {f:File} {r:List File}:∀ p∈sharedF (f :: r),p∈f.way:=fun p hp=>by
 have:=(pre_shared f r (sharedF (f :: r))).mp (List.prefix_refl _) f (.head _)
 exact this.subset hp
theorem shared_len {f:File} {r:List File}:(sharedF (f :: r)).length≤f.way.length :=
 ((pre_shared f r (sharedF (f :: r))).mp (List.prefix_refl _) f (.head _)).length_le
theorem file_way {f:File} (h:Fil f):f.way.length≤4∧∀ p∈f.way,p.length≤2∧GoodN p∧L p≠[46,46]:=by
 obtain ⟨m,k,hk,rfl⟩:=h
 refine ⟨Nat.le_trans (List.length_filter_le _ _) (wayF_num 4 _),fun p hp=>⟨wayF_len2 4 _ p (List.mem_filter.mp hp).1,wayN_good m k p hp,?_⟩⟩
 have key:∀ i,i<8→L (stepsP.getD i Str.empty)≠[46,46]:=by decide +kernel
 exact way_all (P:=fun p=>L p≠[46,46]) key _ _ p (List.mem_filter.mp hp).1
theorem shared_ok {fg:List File} (h:∀ f∈fg,Fil f):(∀ p∈sharedF fg,p.length≤2∧GoodN p∧L p≠[46,46])∧(sharedF fg).length≤4∧JoinOk (Str.ofString "/") (sharedF fg)=true∧(Txt.join (Str.ofString "/") (sharedF fg)).length≤1000:=by
 cases fg with
 | nil=>exact ⟨fun p hp=>(by cases hp),Nat.zero_le _,by decide +kernel,by decide +kernel⟩
 | cons f r =>
  obtain ⟨w1,w2⟩:=file_way (h f (.head _))
  have a:∀ p∈sharedF (f :: r),p.length≤2∧GoodN p∧L p≠[46,46]:=fun p hp=>w2 p (shared_way p hp)
  have b:(sharedF (f :: r)).length≤4:=Nat.le_trans shared_len w1
  obtain ⟨c1,c2⟩:=join_ok (sep:=mk [47]) (b:=2) (k:=4) (fun p hp=>(a p hp).1) b (by decide)
  exact ⟨a,b,c1,Nat.le_trans c2 (by decide)⟩
theorem com_ok (hf:∀ i,∀ f∈G i,Fil f) (hn:∀ i,(G i).length≤10) (i:Nat):ComOk ((wordsG G i).map dirP)∧(G i≠[]→lcp (minL (((wordsG G i).map dirP).map spC)) (maxL (((wordsG G i).map dirP).map spC))=sharedF (G i)):=by
 have hd:∀ p∈(wordsG G i).map dirP,∃ m,p=pth (slashN m) (wayF 4 (m / 16)):=fun p hp=>by
  obtain ⟨x,hx,rfl⟩:=List.mem_map.mp hp
  obtain ⟨f,hf',rfl⟩:=List.mem_map.mp hx
  obtain ⟨m,k,hk,rfl⟩:=hf i f hf'
  exact ⟨m,dir_file m k⟩
 have hl:lcp (minL (((wordsG G i).map dirP).map spC)) (maxL (((wordsG G i).map dirP).map spC))=sharedF (G i):=by
  rw[dirs_eq hf]
  cases hG:G i with
  | nil=>rfl
  | cons f r=>exact shared_minmax f r
 obtain ⟨s1,s2,s3,s4⟩:=shared_ok (hf i)
 refine ⟨⟨?_,fun p hp q hq=>?_,fun p hp=>?_,by rw[hl];exact s3,by rw[hl];exact Nat.le_trans s4 (by decide)⟩,fun _=>hl⟩
 ·rw[List.length_map];exact Nat.le_trans (words_len hn i) (by decide)
 ·obtain ⟨m,rfl⟩:=hd p hp
  exact Nat.le_trans (dir_split q hq) (by decide)
 ·obtain ⟨m,rfl⟩:=hd p hp
  exact Nat.le_trans dir_num (by decide)
end
theorem lett_inj {a b:Nat} (h:mk [97+a]=mk [97+b]):a=b:=by
 have:=congrArg L h
 rw[L_mk,L_mk] at this
 injection this with h1 _
 lia
theorem letts_nodup (ns:List Nat):((evG (grp ns ns.length)).map (·.lett)).Nodup:=by
 unfold evG
 rw[List.nodup_iff_pairwise_ne,List.pairwise_map,List.pairwise_flatMap]
 have hz:(ns.take ns.length).zipIdx.Pairwise fun p q:Nat×Nat=>p.2≠q.2:=by
  rw[← List.pairwise_map (f:=Prod.snd) (R:=fun a b:Nat=>a≠b),List.zipIdx_map_snd]
  exact List.nodup_range'
 refine ⟨fun i _=>?_,?_⟩
 ·unfold grp
  rw[List.pairwise_map]
  exact (hz.imp fun {p q} h=>show mk [97+p.2]≠mk [97+q.2] from fun e=>h (lett_inj e)).filter _
 ·refine List.Pairwise.imp ?_ (List.nodup_iff_pairwise_ne.mp (List.nodup_range (n:=4)))
  intro i j hij x hx y hy e
  unfold grp at hx hy
  obtain ⟨p,hp,rfl⟩:=List.mem_map.mp hx
  obtain ⟨q,hq,rfl⟩:=List.mem_map.mp hy
  obtain ⟨hp1,hp2⟩:=List.mem_filter.mp hp
  obtain ⟨hq1,hq2⟩:=List.mem_filter.mp hq
  have e2:p.2=q.2:=lett_inj e
  have a1:=List.mk_mem_zipIdx_iff_getElem?.mp (show (p.1,p.2)∈_ from hp1)
  have a2:=List.mk_mem_zipIdx_iff_getElem?.mp (show (q.1,q.2)∈_ from hq1)
  rw[e2,a2] at a1
  injection a1 with a1
  rw[beq_iff_eq] at hp2 hq2
  exact hij (by rw[← hp2,← hq2,a1])
theorem st_file {f:File} (h:Fil f):stC (dirP f.word)=decide ((f.sl:Int)>0):=by
 obtain ⟨m,k,hk,rfl⟩:=h
 rw[dir_file]
 show Txt.startswith (pth _ _) (mk [47])=_
 rw[starts_slash (way_good _ _),← root_pos (slash_nat m).2]
 show decide (0<(fileF m k).sl)=_
 rw[Bool.eq_iff_iff,decide_eq_true_iff,decide_eq_true_iff];lia
theorem due_refused {fg fe:List File} (h:refusedF fg=true):dueF fg fe=.str (Str.ofString "refused"):=by
 unfold dueF;rw[if_pos h]
theorem root_eq {fg:List File} (hn:fg≠[]) {b:Bool} (h:∀ f∈fg,decide ((f.sl:Int)>0)=b):rootF fg=if b then 1 else 0:=by
 unfold rootF rootedF
 cases b with
 | true =>
  rw[List.filter_eq_self.mpr fun f hf=>h f hf]
  cases fg with
  | nil=>exact absurd rfl hn
  | cons=>rfl
 | false =>
  rw[List.filter_eq_nil_iff.mpr fun f hf=>by rw[h f hf];decide];rfl
theorem fol_eq {sh:List Str} {b:Bool}:(if b then Str.ofString "/" else Str.ofString "")++Txt.join (Str.ofString "/") sh=pth (if b then 1 else 0) sh:=by
 cases b <;> rfl
theorem norm_root:NormOk (pth 1 [])∧normP (pth 1 [])=sl 1:=by
 refine ⟨⟨by decide +kernel,by decide +kernel,by decide +kernel,by decide +kernel,by decide +kernel,by decide +kernel⟩,L_inj (by decide +kernel)⟩
theorem dir_len {sh:List Str} (h2:∀ p∈sh,p.length≤2) (h4:sh.length≤4) {root:Nat} (hr:root≤1):(dirN root sh).length≤100000:=by
 unfold dirN
 split
 ·split <;> decide
 ·have:=(join_ok (sep:=mk [47]) (b:=2) (k:=4) h2 h4 (by decide)).2
  have:(Txt.join (mk [47]) sh).length≤12:=this
  rw[L_len,L_pth,List.length_append,List.length_replicate,← L_len];lia
section
variable {w:World}
theorem dir_norm {sh:List Str} (hs:∀ p∈sh,p.length≤2∧GoodN p∧L p≠[46,46]) (h4:sh.length≤4) {root:Nat} (hr:root≤1) {n:Nat} {fs:List Env} {objs:List AO} {Q:D→List AO→Prop} (h:Q (.str (dirN root sh)) objs) :
  XC (topT w.params fs) w (n+4) (.ref 803) [.str (pth root sh)] [] [] objs Q:=by
 by_cases hn:sh=[]
 ·subst hn
  have:root=0∨root=1:=by lia
  rcases this with rfl | rfl
  ·exact f_norm803e h
  ·exact f_normpath803 norm_root.1 (by rw[norm_root.2];exact h)
 ·refine f_normpath803 (norm_ok (fun p hp=>(hs p hp).2.1.1) hn (fun p hp=>Nat.le_trans (hs p hp).1 (by decide)) (by lia) (fun p hp=>(hs p hp).2.2) (by lia)) ?_
  rw[norm_dir (fun p hp=>(hs p hp).2.1) hn hr]
  unfold dirN at h
  rw[if_neg hn] at h
  exact h
theorem law_ok {ns:List Nat} (hl:ns.length≤10):LawOk w (grp ns ns.length):=by
 have hf:∀ i,∀ f∈grp ns ns.length i,Fil f:=fun i f h=>grp_fil hl h
 have hn:∀ i,(grp ns ns.length i).length≤10:=fun i=>grp_len hl _ i
 have hnd:=letts_nodup ns
 generalize grp ns ns.length=G at hf hn hnd
 have hst:∀ i,∀ f∈G i,stC (dirP f.word)=decide ((f.sl:Int)>0):=fun i f h=>st_file (hf i f h)
 refine {num:=hn,word:=fun i f h=>?_,j1:=fun i=>?_,line:=line_len hf hn,j2:=?_,text:=text_len hf hn,t1:=?_,t2:=fun i=>?_,norm:=fun i f h=>?_,mod:=fun i f h=>?_,told:=fun i=>?_,t3:=fun i h=>?_,t4:=fun i h h1 h2=>?_,t5:=fun i b h hb=>?_,j3:=fun i=>(shared_ok (hf i)).2.2.1,l3:=fun i=>(shared_ok (hf i)).2.2.2}
 ·obtain ⟨m,k,hk,rfl⟩:=hf i f h
  exact Nat.le_trans (word_len m k) (by decide)
 ·refine (join_ok (b:=92) (k:=10) (fun x hx=>?_) (by rw[List.length_map];exact words_len hn i) (by decide)).1
  obtain ⟨y,hy,rfl⟩:=List.mem_map.mp hx
  have:=qt_len (L y)
  have h2:=(words_fil hf hy).1
  rw[L_len] at h2
  unfold qtS
  rw[mk_len];lia
 ·refine (join_ok (b:=5002) (k:=4) (fun x hx=>?_) (by rw[List.length_map];exact Nat.le_refl 4) (by decide)).1
  obtain ⟨y,hy,rfl⟩:=List.mem_map.mp hx
  have:=qt_len (L y)
  have h2:=(lines_len hf hn (L y) (List.mem_map_of_mem hy)).1
  unfold qtS
  rw[mk_len];lia
 ·rw[text_eq,L_mk]
  exact toks_joinQ _ fun l hl=>(lines_len hf hn l hl).2
 ·rw[line_eq,L_mk]
  exact toks_joinQ _ fun l hl=>(wordsL hf l hl).2
 ·obtain ⟨m,k,hk,rfl⟩:=hf i f h
  exact file_norm m k
 ·obtain ⟨m,k,hk,rfl⟩:=hf i f h
  exact file_mod
 ·refine ⟨(com_ok hf hn i).1,fun x hx=>Nat.le_trans (words_fil hf hx).1 (by decide),?_,?_,?_⟩
  ·unfold ppG
   rw[List.map_map]
   exact hnd
  ·intro h
   unfold ppG at h
   rw[List.map_map] at h
   obtain ⟨f,hf',e⟩:=List.mem_map.mp h
   obtain ⟨i',hi'⟩:=ev_mem hf'
   obtain ⟨m,k,hk,rfl⟩:=hf i' f hi'
   exact absurd (show (1:Nat)=8 from congrArg Str.length e) (by decide)
  ·unfold ppG
   rw[List.length_map]
   exact Nat.le_trans (evG_100 hn) (by decide)
 ·have:G i=[]:=List.map_eq_nil_iff.mp h
  rw[this]
  exact due_refused rfl
 ·refine due_refused ?_
  cases hG:G i with
  | nil=>rfl
  | cons f r =>
   cases hr:refusedF (f :: r) with
   | true=>rfl
   | false =>
    exfalso
    have hall:=(refused_iff f r).mp hr
    obtain ⟨p,hp,e1⟩:=h1
    obtain ⟨q,hq,e2⟩:=h2
    obtain ⟨x,hx,rfl⟩:=List.mem_map.mp hp
    obtain ⟨y,hy,rfl⟩:=List.mem_map.mp hq
    obtain ⟨fx,hfx,rfl⟩:=List.mem_map.mp hx
    obtain ⟨fy,hfy,rfl⟩:=List.mem_map.mp hy
    rw[hst i fx hfx] at e1
    rw[hst i fy hfy] at e2
    rw[hG] at hfx hfy
    rw[hall fx hfx] at e1
    rw[hall fy hfy,e1] at e2
    cases e2
 ·have hne:G i≠[]:=fun e=>h (by unfold wordsG;rw[e];rfl)
  have hall:∀ f∈G i,decide ((f.sl:Int)>0)=b:=fun f hf'=>by
   rw[← hst i f hf']
   exact hb _ (List.mem_map_of_mem (List.mem_map_of_mem hf'))
  have hrf:refusedF (G i)=false:=by
   cases hG:G i with
   | nil=>exact absurd hG hne
   | cons f r =>
    rw[hG] at hall
    exact (refused_iff f r).mpr fun g hg=>by rw[hall g hg,hall f (.head _)]
  have hroot:=root_eq hne hall
  obtain ⟨s1,s2,s3,s4⟩:=shared_ok (hf i)
  have hfol:folC ((wordsG G i).map dirP) b=pth (rootF (G i)) (sharedF (G i)):=by
   unfold folC
   rw[(com_ok hf hn i).2 hne,hroot]
   exact fol_eq
  have hr1:rootF (G i)≤1:=by rw[hroot];split <;> decide
  rw[hfol]
  refine ⟨dirN (rootF (G i)) (sharedF (G i)),dir_len (fun p hp=>(s1 p hp).1) s2 hr1,fun h=>dir_norm s1 s2 hr1 h,?_⟩
  unfold dueF
  rw[if_neg (by rw[hrf];decide)]
  have e1:Txt.mul (Str.ofString "/") (rootF (G i):Nat)++Txt.join (Str.ofString "/") (sharedF (G i))=pth (rootF (G i)) (sharedF (G i)):=by
   rw[(mul_slash (rootF (G i)) (by lia)).2];rfl
  rw[e1]
  have e2:(evG G).map (ansF (sharedF (G i)) (rootF (G i)))=(ppG G).map (ansS (dirN (rootF (G i)) (sharedF (G i)))):=by
   unfold ppG
   rw[List.map_map]
   refine List.map_congr_left fun f hf'=>?_
   obtain ⟨i',hi'⟩:=ev_mem hf'
   obtain ⟨m,k,hk,rfl⟩:=hf i' f hi'
   show ansF _ _ _=ansS _ (npF (fileF m k),(fileF m k).lett)
   rw[npF_eq]
   unfold ansF ansS
   dsimp only
   rw[names_left (fun p hp=>(s1 p hp).2.1) hr1 m k]
  rw[e2]
end
end Mine.Internal
end
theorem PySem.Challenge.cw_ik0093_01_holds : PySem.Challenge.rw_ik0093_01.Holds :=
 Mine.Internal.law_holds fun h=>Mine.Internal.f_law (n:=0) (fun ns hl _=>Mine.Internal.law_ok hl) h
