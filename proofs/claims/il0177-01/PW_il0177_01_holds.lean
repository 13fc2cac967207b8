import PyProof.Rows.All
import Wide.All
import OpenK.AllK
import Wide.FinOn
import PySem.Challenge.RW_il0177_01
open PySem PySem.W PyProof.Rows PySem.Spec PySem.SeqAt PySem.W.X
set_option Elab.async false
set_option maxRecDepth 100000
set_option maxHeartbeats 4000000
set_option linter.all false
set_option tactic.hygienic false
set_option genInjectivity false
set_option genSizeOf false
namespace Mine
theorem m_s {α:Type} {a b:α} (h:a∈[b]):a=b:=List.mem_singleton.mp h
theorem m_c {α:Type} {a b:α} {l:List α} (h:a∈b::l):a=b∨a∈l:=List.mem_cons.mp h
theorem m_a {α:Type} {a:α} {l k:List α} (h:a∈l++k):a∈l∨a∈k:=List.mem_append.mp h
theorem m_l {α:Type} {a:α} {l:List α} (k:List α) (h:a∈l):a∈l++k:=List.mem_append_left k h
theorem m_r {α:Type} {a:α} (k:List α) {l:List α} (h:a∈l):a∈k++l:=List.mem_append_right k h
noncomputable abbrev XHP:=List Addr→Heap→Prop
noncomputable abbrev VSP:=Value→Shared→Prop
noncomputable abbrev FSP:=Flow→Shared→Prop
variable {b m on:Int} {X X' F tv Xb:List Addr} {h h' h0a h1a hb h0 hs hx:Heap} {a C L f dx fa CN CS:Addr} {v u fv dV kV:Value} {d:PyData} {vs first:List Value} {ds:List PyData} {t j N k1 k2 k3 kk n0a:Nat} {A A0:Around} {I J R R':XHP} {prog:Program} {w:World} {env cenv:Env} {s:Shared} {E:VSP} {K:Frag} {mg mb:Str→Option Value} {ρ ρ' κ κ':List (Str×VD)} {qual y:Str} {q ks:List Str}
noncomputable abbrev Ext (h h':Heap):Prop:=∀ b o,h.get? b=some o→h'.get? b=some o
theorem Ext.refl (h:Heap):Ext h h:=fun zz zz e=>e
theorem Ext.trans {a b c:Heap} (x:Ext a b) (y:Ext b c):Ext a c:=fun q o e=>y q o (x q o e)
theorem Ext.push (h:Heap) (o:Obj):Ext h (h.push o):=fun zz zz e=>Heap.get?_push_of_some _ e
noncomputable def At (X:List Addr) (h:Heap) (v:Value) (d:PyData):Prop:=∃ as,Reads h v d as∧∀ a∈as,a∉X
noncomputable def AtAll (X:List Addr) (h:Heap) (vs:List Value) (ds:List PyData):Prop:=∃ as,ReadsAll h vs ds as∧∀ a∈as,a∉X
noncomputable def TupObj (o:Obj):Prop:=o.cls=.type "tuple"∧∃ vs n,o.data=.seq vs n
noncomputable def Chg (X:List Addr) (h h':Heap):Prop:=∀ b o,h.get? b=some o→(b∉X∨TupObj o)→h'.get? b=some o
theorem Ext.chg (x:Ext h h'):Chg X h h':=fun b o e zz=>x b o e
noncomputable def Off (M:List Addr) (h h':Heap):Prop:=∀ b o,b∉M→h.get? b=some o→h'.get? b=some o
theorem Off.chg {M:List Addr} (k:Off M h h') (hM:∀ b∈M,b∈X∧∀ o,h.get? b=some o→¬ TupObj o):Chg X h h':=fun b o e q=>by
 by_cases hb:b∈M
 ·obtain ⟨a,n⟩:=hM b hb
  rcases q with q|q
  ·exact absurd a q
  ·exact absurd q (n o e)
 ·exact k b o hb e
theorem Off.trans {M:List Addr} {a b c:Heap} (x:Off M a b) (y:Off M b c):Off M a c:=fun q o n e=>y q o n (x q o n e)
theorem Off.mono {M M':List Addr} {a b:Heap} (x:Off M a b) (h:∀ q∈M,q∈M'):Off M' a b:=fun q o n e=>x q o (fun m=>n (h q m)) e
theorem Ext.off {M:List Addr} (x:Ext h h'):Off M h h':=fun b o zz e=>x b o e
noncomputable def Hid (X X':List Addr) (h:Heap):Prop:=∀ x∈X',x∈X∨h.get? x=none
theorem Hid.refl (X:List Addr) (h:Heap):Hid X X h:=fun zz m=>.inl m
theorem Hid.new (e:h.get? a=none):Hid X (a::X) h:=fun x m=>by
 rcases m_c m with rfl|m
 ·exact .inr e
 ·exact .inl m
theorem Hid.less:Hid (a::X) X h:=fun x m=>.inl (.tail _ m)
theorem cps {G:Prop} (H:∀ g:Prop,(G→g)→g):G:=H G id
theorem mC {α:Type} {a b:α} {l:List α} (h:a∈b::l):b=a∨a∈l:=(m_c h).imp Eq.symm id
theorem reads_ind (P:Value→PyData→List Addr→Prop) (Q:List Value→List PyData→List Addr→Prop)
  (p1:P .none .none []) (p2:∀ b,P (.bool b) (.bool b) []) (p3:∀ i t,P (.int i t) (.int i) []) (p4:∀ x t,P (.str x t) (.str x) [])
  (p5:∀ {a o vs n xs as},h.get? a=some o→o.cls=.type "list"→o.data=.seq vs n→Q vs.toList xs as→P (.ref a) (.list xs) (a::as))
  (p6:∀ {a o vs n xs as},h.get? a=some o→o.cls=.type "tuple"→o.data=.seq vs n→Q vs.toList xs as→P (.ref a) (.tuple xs) as)
  (p7:∀ {a o es n kvs as bs},h.get? a=some o→o.cls=.type "dict"→o.data=.dict es n→Q (es.toList.map (·.key)) (kvs.map (·.1)) as→Q (es.toList.map (·.val)) (kvs.map (·.2)) bs→P (.ref a) (.dict kvs) (a::as++bs))
  (p8:Q [] [] []) (p9:∀ {v vs d ds as bs},P v d as→Q vs ds bs→Q (v::vs) (d::ds) (as++bs)) :
  (∀ {v d as},Reads h v d as→P v d as)∧∀ {v d as},ReadsAll h v d as→Q v d as :=
 have q5 {a o vs n xs as} ho hc hd (_:ReadsAll h vs.toList xs as) i:=@p5 a o vs n xs as ho hc hd i
 have q6 {a o vs n xs as} ho hc hd (_:ReadsAll h vs.toList xs as) i:=@p6 a o vs n xs as ho hc hd i
 have q7 {a o es n kvs as bs} ho hc hd (_:ReadsAll h (es.toList.map (·.key)) (kvs.map (·.1)) as) (_:ReadsAll h (es.toList.map (·.val)) (kvs.map (·.2)) bs) i j:=@p7 a o es n kvs as bs ho hc hd i j
 have q9 {v vs d ds as bs} (_:Reads h v d as) (_:ReadsAll h vs ds bs) i j:=@p9 v vs d ds as bs i j
 ⟨fun x=>Reads.rec (motive_1:=fun v d as zz=>P v d as) (motive_2:=fun v d as zz=>Q v d as) p1 p2 p3 p4 q5 q6 q7 p8 q9 x,
 fun x=>ReadsAll.rec (motive_1:=fun v d as zz=>P v d as) (motive_2:=fun v d as zz=>Q v d as) p1 p2 p3 p4 q5 q6 q7 p8 q9 x⟩
theorem reads_there2:(∀ {v d as},Reads h v d as→∀ a∈as,∃ o,h.get? a=some o)∧∀ {v d as},ReadsAll h v d as→∀ a∈as,∃ o,h.get? a=some o :=
 reads_ind (fun zz zz as=>∀ a∈as,∃ o,h.get? a=some o) (fun zz zz as=>∀ a∈as,∃ o,h.get? a=some o)
  (fun zz m=>absurd m List.not_mem_nil) (fun zz zz m=>absurd m List.not_mem_nil) (fun zz zz zz m=>absurd m List.not_mem_nil) (fun zz zz zz m=>absurd m List.not_mem_nil)
  (fun ho zz zz ih a m=>(m_c m).elim (fun e=>⟨_,e▸ho⟩) (ih a))
  (fun zz zz zz ih=>ih)
  (fun ho zz zz i1 i2 a m=>(m_a m).elim (fun m=>(m_c m).elim (fun e=>⟨_,e▸ho⟩) (i1 a)) (i2 a))
  (fun zz m=>absurd m List.not_mem_nil) (fun i1 i2 a m=>(m_a m).elim (i1 a) (i2 a))
theorem reads_there {as:List Addr} (x:Reads h v d as):∀ a∈as,∃ o,h.get? a=some o:=reads_there2.1 x
theorem readsAll_there {v:List Value} {d:List PyData} {as:List Addr} (x:ReadsAll h v d as):∀ a∈as,∃ o,h.get? a=some o:=reads_there2.2 x
theorem reads_chg2 (k:Chg X h h'):(∀ {v d as},Reads h v d as→(∀ a∈as,a∉X)→Reads h' v d as)∧∀ {v d as},ReadsAll h v d as→(∀ a∈as,a∉X)→ReadsAll h' v d as :=
 reads_ind (fun v d as=>(∀ a∈as,a∉X)→Reads h' v d as) (fun v d as=>(∀ a∈as,a∉X)→ReadsAll h' v d as)
  (fun zz=>.none) (fun zz zz=>.bool _) (fun zz zz zz=>.int _ _) (fun zz zz zz=>.str _ _)
  (fun ho hc hd ih n=>.list (k _ _ ho (.inl (n _ (.head _)))) hc hd (ih fun a m=>n a (.tail _ m)))
  (fun ho hc hd ih n=>.tuple (k _ _ ho (.inr ⟨hc,_,_,hd⟩)) hc hd (ih n))
  (fun ho hc hd i1 i2 n=>.dict (k _ _ ho (.inl (n _ (m_l _ (.head _))))) hc hd (i1 fun a m=>n a (m_l _ (.tail _ m))) (i2 fun a m=>n a (m_r _ m)))
  (fun zz=>.nil) (fun i1 i2 n=>.cons (i1 fun a m=>n a (m_l _ m)) (i2 fun a m=>n a (m_r _ m)))
theorem reads_chg (k:Chg X h h') {as:List Addr} (x:Reads h v d as):(∀ a∈as,a∉X)→Reads h' v d as:=(reads_chg2 k).1 x
theorem readsAll_chg (k:Chg X h h') {v:List Value} {d:List PyData} {as:List Addr} (x:ReadsAll h v d as):(∀ a∈as,a∉X)→ReadsAll h' v d as:=(reads_chg2 k).2 x
section
theorem At.chg (x:At X h v d) (k:Chg X h h'):At X h' v d:=by obtain ⟨as,r,n⟩:=x;exact ⟨as,reads_chg k r n,n⟩
theorem AtAll.chg (x:AtAll X h vs ds) (k:Chg X h h'):AtAll X h' vs ds:=by obtain ⟨as,r,n⟩:=x;exact ⟨as,readsAll_chg k r n,n⟩
theorem At.ext (x:At X h v d) (k:Ext h h'):At X h' v d:=x.chg k.chg
theorem AtAll.ext (x:AtAll X h vs ds) (k:Ext h h'):AtAll X h' vs ds:=x.chg k.chg
theorem At.hid (x:At X h v d) (k:Hid X X' h):At X' h v d:=by
 obtain ⟨as,r,n⟩:=x
 refine ⟨as,r,fun a m q=>?_⟩
 rcases k a q with q|q
 ·exact n a m q
 ·obtain ⟨o,e⟩:=reads_there r a m;rw[q] at e;cases e
theorem AtAll.hid (x:AtAll X h vs ds) (k:Hid X X' h):AtAll X' h vs ds:=by
 obtain ⟨as,r,n⟩:=x
 refine ⟨as,r,fun a m q=>?_⟩
 rcases k a q with q|q
 ·exact n a m q
 ·obtain ⟨o,e⟩:=readsAll_there r a m;rw[q] at e;cases e
theorem At.int (i:Int) (t:Tok):At X h (.int i t) (.int i):=⟨_,.int i t,fun zz m=>nomatch m⟩
theorem At.bool (b:Bool):At X h (.bool b) (.bool b):=⟨_,.bool b,fun zz m=>nomatch m⟩
theorem At.str (b:Str) (t:Tok):At X h (.str b t) (.str b):=⟨_,.str b t,fun zz m=>nomatch m⟩
theorem At.none:At X h .none .none:=⟨_,.none,fun zz m=>nomatch m⟩
theorem At.int_inv {i:Int} (x:At X h v (.int i)):∃ t,v=.int i t:=by
 obtain ⟨as,r,_⟩:=x;cases r;exact ⟨_,rfl⟩
theorem At.bool_inv {i:Bool} (x:At X h v (.bool i)):v=.bool i:=by
 obtain ⟨as,r,_⟩:=x;cases r;rfl
theorem At.none_inv (x:At X h v .none):v=.none:=by
 obtain ⟨as,r,_⟩:=x;cases r;rfl
theorem At.str_inv {i:Str} (x:At X h v (.str i)):∃ t,v=.str i t:=by
 obtain ⟨as,r,_⟩:=x;cases r;exact ⟨_,rfl⟩
theorem At.list_inv (x:At X h v (.list ds)):∃ a items,v=.ref a∧a∉X∧h.IsList a items∧AtAll X h items.toList ds:=by
 obtain ⟨as,r,n⟩:=x
 cases r with
 | list ho hc hd hr=>exact ⟨_,_,rfl,n _ (.head _),⟨_,ho,hc,_,hd⟩,_,hr,fun a m=>n a (.tail _ m)⟩
theorem At.tuple_inv (x:At X h v (.tuple ds)):∃ a items,v=.ref a∧h.IsTuple a items∧AtAll X h items.toList ds:=by
 obtain ⟨as,r,n⟩:=x
 cases r with
 | tuple ho hc hd hr=>exact ⟨_,_,rfl,⟨_,ho,hc,_,hd⟩,_,hr,n⟩
theorem At.list {items:Array Value} (ha:a∉X) (hl:h.IsList a items) (x:AtAll X h items.toList ds):At X h (.ref a) (.list ds):=by
 obtain ⟨o,ho,hc,n,hd⟩:=hl
 obtain ⟨as,r,q⟩:=x
 exact ⟨_,.list ho hc hd r,fun b m=>by rcases mC m with rfl|m;exact ha;exact q b m⟩
theorem At.tuple {items:Array Value} (hl:h.IsTuple a items) (x:AtAll X h items.toList ds):At X h (.ref a) (.tuple ds):=by
 obtain ⟨o,ho,hc,n,hd⟩:=hl
 obtain ⟨as,r,q⟩:=x
 exact ⟨_,.tuple ho hc hd r,q⟩
theorem AtAll.nil:AtAll X h [] []:=⟨_,.nil,fun zz m=>nomatch m⟩
theorem AtAll.cons (x:At X h v d) (y:AtAll X h vs ds):AtAll X h (v::vs) (d::ds):=by
 obtain ⟨_,r,n⟩:=x;obtain ⟨_,q,k⟩:=y;exact ⟨_,.cons r q,fun a m=>(m_a m).elim (n a) (k a)⟩
theorem AtAll.nil_inv (x:AtAll X h vs []):vs=[]:=by
 obtain ⟨_,r,_⟩:=x;cases r;rfl
theorem AtAll.nil_inv' (x:AtAll X h [] ds):ds=[]:=by
 obtain ⟨_,r,_⟩:=x;cases r;rfl
theorem AtAll.cons_inv (x:AtAll X h vs (d::ds)):∃ v ws,vs=v::ws∧At X h v d∧AtAll X h ws ds:=by
 obtain ⟨_,r,n⟩:=x
 cases r with
 | cons a b=>exact ⟨_,_,rfl,⟨_,a,fun c m=>n c (m_l _ m)⟩,⟨_,b,fun c m=>n c (m_r _ m)⟩⟩
theorem AtAll.cons_inv' (x:AtAll X h (v::vs) ds):∃ d es,ds=d::es∧At X h v d∧AtAll X h vs es:=by
 obtain ⟨_,r,n⟩:=x
 cases r with
 | cons a b=>exact ⟨_,_,rfl,⟨_,a,fun c m=>n c (m_l _ m)⟩,⟨_,b,fun c m=>n c (m_r _ m)⟩⟩
end
section
theorem AtAll.length:∀ {vs:List Value} {ds:List PyData},AtAll X h vs ds→vs.length=ds.length
 | [],_,x=>by rw[x.nil_inv'];rfl
 | _::_,_,x=>by obtain ⟨d,es,rfl,_,y⟩:=x.cons_inv';simp[y.length]
theorem AtAll.append:∀ {vs ws:List Value} {ds es:List PyData},AtAll X h vs ds→AtAll X h ws es→AtAll X h (vs++ws) (ds++es):=by
 intro vs
 induction vs with
 | nil=>intro ws ds es x y;rw[x.nil_inv'];exact y
 | cons v vs ih=>intro ws ds es x y;obtain ⟨d,es,rfl,a,z⟩:=x.cons_inv';exact .cons a (ih z y)
theorem AtAll.get:∀ {vs:List Value} {ds:List PyData},AtAll X h vs ds→∀ {i:Nat} {v:Value},vs[i]?=some v→∃ d,ds[i]?=some d∧At X h v d:=by
 intro vs
 induction vs with
 | nil=>intro zz zz zz zz e;cases e
 | cons v vs ih =>
  intro ds x i u e
  obtain ⟨d,es,rfl,a,y⟩:=x.cons_inv'
  cases i with
  | zero=>cases e;exact ⟨d,rfl,a⟩
  | succ i=>exact ih y e
theorem AtAll.get':∀ {vs:List Value} {ds:List PyData},AtAll X h vs ds→∀ {i:Nat} {d:PyData},ds[i]?=some d→∃ v,vs[i]?=some v∧At X h v d
 | [],_,x,i,d,e=>by rw[x.nil_inv'] at e;simp at e
 | v::vs,_,x,i,u,e=>by
  obtain ⟨d,es,rfl,a,y⟩:=x.cons_inv'
  cases i with
  | zero=>simp at e;subst e;exact ⟨v,rfl,a⟩
  | succ i=>simp at e;obtain ⟨d',e',a'⟩:=y.get' e;exact ⟨d',by simpa using e',a'⟩
theorem AtAll.take (n:Nat):∀ {vs:List Value} {ds:List PyData},AtAll X h vs ds→AtAll X h (vs.take n) (ds.take n):=by
 induction n with
 | zero=>intro vs ds _;simp;exact .nil
 | succ n ih =>
  intro vs ds x
  cases vs with
  | nil=>rw[x.nil_inv'];exact .nil
  | cons v vs=>obtain ⟨d,es,rfl,a,y⟩:=x.cons_inv';exact .cons a (ih y)
theorem AtAll.ofInts:∀ {vs:List Value} {ns:List Int},IntsAre vs ns→AtAll X h vs (ns.map PyData.int):=by
 intro vs ns r
 induction r with
 | nil=>exact .nil
 | cons i t zz ih=>exact .cons (.int i t) ih
end
theorem exl {α:Type} {p q:α→Prop} (h:∃ a,p a∧q a):∃ a,p a:=h.imp fun zz x=>x.1
theorem kp_refl (s:Shared):Keeps s s:=⟨s.heap,s.toks,rfl,fun zz zz e=>e⟩
theorem kp_trans {a b c:Shared} (x:Keeps a b) (y:Keeps b c):Keeps a c:=by
 obtain ⟨h,t,rfl,k⟩:=x;obtain ⟨h',t',rfl,k'⟩:=y
 exact ⟨h',t',rfl,fun q o e=>k' q o (k q o e)⟩
theorem kp_ext {a b:Shared} (x:Keeps a b):Ext a.heap b.heap:=by obtain ⟨h,t,rfl,k⟩:=x;exact k
theorem kp_tok (s:Shared) (t:Nat):Keeps s { s with toks:=t }:=⟨s.heap,t,rfl,fun zz zz e=>e⟩
theorem kp_push (s:Shared) (o:Obj):Keeps s { s with heap:=s.heap.push o }:=⟨_,s.toks,rfl,Ext.push _ _⟩
theorem kp_heap (s:Shared) {t:Nat} (k:Ext s.heap h):Keeps s { s with heap:=h,toks:=t }:=⟨h,t,rfl,k⟩
structure OKA (A:Around) (n:Nat):Prop where
 handled:A.handled=none
 depth:A.depth+n<recursionLimit
 units:A.units+10 * n+200<cLine
theorem OKA.mono {n m:Nat} (x:OKA A n) (h:m≤n):OKA A m:=⟨x.handled,by have:=x.depth;lia,by have:=x.units;lia⟩
theorem OKA.deeper {n:Nat} (x:OKA A (n+1)) (env:Env):OKA (A.deeper env) n:=⟨x.handled,by have:=x.depth;show A.depth+1+n<_;lia,by have:=x.units;show A.units+3+_+_<_;lia⟩
theorem OKA.room {n:Nat} (x:OKA A n):A.depth<recursionLimit:=by have:=x.depth;lia
theorem OKA.u100 {n:Nat} (x:OKA A n):A.units+100<cLine:=by have:=x.units;lia
noncomputable def Up (I:XHP):Prop:=∀ X X' h h',Ext h h'→Hid X X' h→I X h→I X' h'
theorem Up.ext (up:Up I) (k:Ext h h') (x:I X h):I X h':=up _ _ _ _ k (Hid.refl _ _) x
noncomputable def Bd (X:List Addr) (h:Heap):Prop:=∀ x∈X,∃ o,h.get? x=some o
theorem Bd.ext (b:Bd X h) (k:Ext h h'):Bd X h':=fun x m=>by
 obtain ⟨o,e⟩:=b x m
 exact ⟨o,k _ _ e⟩
theorem Bd.new (b:Bd X h) (e:h.get? a=none):a∉X:=fun m=>by obtain ⟨o,q⟩:=b a m;rw[e] at q;cases q
theorem size_none (h:Heap):h.get? h.objs.size=none:=Heap.get?_none_of_le (Nat.le_refl _)
section
variable (prog:Program) (w:World) (A:Around) (env:Env) (I:XHP)
noncomputable def EvR (e:Expr) (R:List Addr→Heap→Value→Prop):Prop :=
 ∀ (s:Shared) (E:VSP) (X:List Addr),Bd X s.heap→I X s.heap→wpAny (model prog w) A (eval e env) (fun v s'=>Keeps s s'∧R X s'.heap v) E s
noncomputable abbrev Ev (e:Expr) (d:PyData):Prop:=EvR prog w A env I e (fun X h v=>At X h v d)
noncomputable def Tr (e:Expr) (b:Bool):Prop :=
 ∀ (s:Shared) (E:VSP) (X:List Addr),Bd X s.heap→I X s.heap→wpAny (model prog w) A (isTrue e env (eval e env)) (fun c s'=>Keeps s s'∧c=b) E s
noncomputable def EvAll (es:List Expr) (ds:List PyData):Prop :=
 ∀ (s:Shared) (E:VSP) (X:List Addr) (pos:Pos),Bd X s.heap→I X s.heap→wpAny (model prog w) A (spliced (backTo pos (starEach es env))) (fun vs s'=>Keeps s s'∧AtAll X s'.heap vs ds) E s
noncomputable def Op (t:Sem Value) (s:Shared) (X:List Addr) (d:PyData):Prop :=
 ∀ (E:VSP),wpAny (model prog w) A t (fun v s'=>Keeps s s'∧At X s'.heap v d) E s
end
section
theorem EvR.wp {e:Expr} {R:List Addr→Heap→Value→Prop} {Q:VSP} (x:EvR prog w A env I e R) (hX:Bd X s.heap) (hI:I X s.heap)
  (k:∀ v s',Keeps s s'→R X s'.heap v→Q v s'):wpAny (model prog w) A (eval e env) Q E s :=
 wpAny_mono (x s E X hX hI) (fun v s' h=>k v s' h.1 h.2) fun zz zz h=>h
theorem Tr.wp {e:Expr} {b:Bool} {Q:Bool→Shared→Prop} (x:Tr prog w A env I e b) (hX:Bd X s.heap) (hI:I X s.heap)
  (k:∀ s',Keeps s s'→Q b s'):wpAny (model prog w) A (isTrue e env (eval e env)) Q E s :=
 wpAny_mono (x s E X hX hI) (fun v s' h=>by rw[h.2];exact k s' h.1) fun zz zz h=>h
theorem EvR.mono {e:Expr} {R R':List Addr→Heap→Value→Prop} (x:EvR prog w A env I e R) (k:∀ X h v,R X h v→R' X h v):EvR prog w A env I e R' :=
 fun s E X hX hI=>x.wp hX hI fun v s' a b=>⟨a,k _ _ _ b⟩
/- constants -/
theorem ev_int {i:Int} {k:Nat} {pos:Pos}:Ev prog w A env I (.Constant (.int i) k pos) (.int i):=fun s zz zz zz zz=>wpAny_Constant_int ⟨kp_tok _ _,.int _ _⟩
theorem ev_str {i:Str} {k:Nat} {pos:Pos}:Ev prog w A env I (.Constant (.str i) k pos) (.str i):=fun s zz zz zz zz=>wpAny_Constant_str ⟨kp_tok _ _,.str _ _⟩
theorem ev_bool {i:Bool} {k:Nat} {pos:Pos}:Ev prog w A env I (.Constant (.bool i) k pos) (.bool i):=fun s zz zz zz zz=>wpAny_Constant_bool ⟨kp_refl _,.bool _⟩
theorem ev_none {k:Nat} {pos:Pos}:Ev prog w A env I (.Constant .none k pos) .none:=fun s zz zz zz zz=>wpAny_Constant_none ⟨kp_refl _,.none⟩
noncomputable def NameIs (h:Heap) (env:Env) (x:Str) (v:Value):Prop :=
 env.scope.kind=.function∧(x == ("__debug__":Str))=false∧((env.kindOf x=some .local∧∃ m,h.Ns env.locals m∧m x=some v) ∨
  (env.kindOf x=some .cell∧∃ c,env.cells.lookup x=some c∧h.IsCell c (some v)) ∨
  (env.kindOf x=some .free∧(x == ("__classdict__":Str))=false∧∃ c,env.cells.lookup x=some c∧h.IsCell c (some v)))
theorem NameIs.load {Q:VSP} {x:Str} (n:NameIs s.heap env x v) (q:Q v s):wpAny (model prog w) A (loadName env x) Q E s:=by
 obtain ⟨a,_,⟨b,m,c,e⟩|⟨b,c,e,f⟩|⟨b,b',c,e,f⟩⟩:=n
 ·exact wpAny_loadName_local a b c e q
 ·exact wpAny_loadName_cell a b e f q
 ·exact wpAny_loadName_free a b e f q b'
theorem NameIs.eval {Q:VSP} {x:Str} {pos:Pos} (n:NameIs s.heap env x v) (q:Q v s):wpAny (model prog w) A (eval (.Name x pos) env) Q E s :=
 wpAny_Name (n.load q) n.2.1
theorem ev_nameR {x:Str} {pos:Pos} {R:List Addr→Heap→Value→Prop} (n:∀ X h,I X h→∃ v,NameIs h env x v∧R X h v):EvR prog w A env I (.Name x pos) R:=fun s zz X zz hI=>by
 obtain ⟨v,a,b⟩:=n _ _ hI
 exact a.eval ⟨kp_refl _,b⟩
theorem ev_name {x:Str} {pos:Pos} (n:∀ X h,I X h→∃ v,NameIs h env x v∧At X h v d):Ev prog w A env I (.Name x pos) d:=ev_nameR n
/- two operands -/
theorem ev_bin {l r:Expr} {op:Operator} {pos:Pos} {a b c:PyData} (up:Up I) (x:Ev prog w A env I l a) (y:Ev prog w A env I r b)
  (o:∀ s X u v,Bd X s.heap→At X s.heap u a→At X s.heap v b→Op prog w A (binaryOp op u v) s X c):Ev prog w A env I (.BinOp l op r pos) c:=fun s E X hX hI =>
 wpAny_BinOp (x.wp hX hI fun u s1a k1a a1a=>y.wp (hX.ext (kp_ext k1a)) (up.ext (kp_ext k1a) hI) fun v s2a k2a b2b=>wpAny_mono (o s2a X u v (hX.ext (Ext.trans (kp_ext k1a) (kp_ext k2a))) (a1a.ext (kp_ext k2a)) b2b E) (fun z s3a q=>⟨kp_trans k1a (kp_trans k2a q.1),q.2⟩) fun zz zz h=>h)
theorem ev_cmp {l r:Expr} {op:CmpOp} {pos:Pos} {a b c:PyData} (up:Up I) (x:Ev prog w A env I l a) (y:Ev prog w A env I r b)
  (o:∀ s X u v,Bd X s.heap→At X s.heap u a→At X s.heap v b→Op prog w A (compareOp op u v) s X c) (hm:behindInMarks op r=false:=by with_unfolding_all rfl):Ev prog w A env I (.Compare l [op] [r] pos) c:=fun s E X hX hI =>
 wpAny_Compare1 (hm:=hm) (x.wp hX hI fun u s1a k1a a1a=>y.wp (hX.ext (kp_ext k1a)) (up.ext (kp_ext k1a) hI) fun v s2a k2a b2b=>wpAny_mono (o s2a X u v (hX.ext (Ext.trans (kp_ext k1a) (kp_ext k2a))) (a1a.ext (kp_ext k2a)) b2b E) (fun z s3a q=>⟨kp_trans k1a (kp_trans k2a q.1),q.2⟩) fun zz zz h=>h)
theorem tr_cmp {l r:Expr} {op:CmpOp} {pos:Pos} {a b:PyData} {c:Bool} (up:Up I) (x:Ev prog w A env I l a) (y:Ev prog w A env I r b)
  (o:∀ s X u v,Bd X s.heap→At X s.heap u a→At X s.heap v b→Op prog w A (compareOp op u v) s X (.bool c)) (hm:behindInMarks op r=false:=by with_unfolding_all rfl):Tr prog w A env I (.Compare l [op] [r] pos) c:=fun s E X hX hI =>
 wpAny_isTrue_Compare1 (hm:=hm) (x.wp hX hI fun u s1a k1a a1a=>y.wp (hX.ext (kp_ext k1a)) (up.ext (kp_ext k1a) hI) fun v s2a k2a b2b=>wpAny_mono (o s2a X u v (hX.ext (Ext.trans (kp_ext k1a) (kp_ext k2a))) (a1a.ext (kp_ext k2a)) b2b E) (fun z s3a q=>by
  rw[q.2.bool_inv];exact wpAny_truthy_bool ⟨kp_trans k1a (kp_trans k2a q.1),rfl⟩) fun zz zz h=>h)
theorem op_add {a:Int} (x:At X s.heap u (.int a)) (y:At X s.heap v (.int b)):Op prog w A (binaryOp .Add u v) s X (.int (a+b)):=fun E=>by
 obtain ⟨t,rfl⟩:=x.int_inv;obtain ⟨t',rfl⟩:=y.int_inv
 exact PyProof.Rows.add_int ⟨kp_tok _ _,.int _ _⟩
theorem op_sub {a:Int} (x:At X s.heap u (.int a)) (y:At X s.heap v (.int b)):Op prog w A (binaryOp .Sub u v) s X (.int (a - b)):=fun E=>by
 obtain ⟨t,rfl⟩:=x.int_inv;obtain ⟨t',rfl⟩:=y.int_inv
 exact PyProof.Rows.sub_int ⟨kp_tok _ _,.int _ _⟩
theorem op_mul {a:Int} (h:IntMulOk a b) (x:At X s.heap u (.int a)) (y:At X s.heap v (.int b)):Op prog w A (binaryOp .Mult u v) s X (.int (a * b)):=fun E=>by
 obtain ⟨t,rfl⟩:=x.int_inv;obtain ⟨t',rfl⟩:=y.int_inv
 exact PyProof.Rows.mul_int (hm:=h) ⟨kp_tok _ _,.int _ _⟩
theorem op_div {a:Int} (h:b≠0) (hp:Builtin.divisionGoesByPylong a b=false) (x:At X s.heap u (.int a)) (y:At X s.heap v (.int b)):Op prog w A (binaryOp .FloorDiv u v) s X (.int (a.fdiv b)):=fun E=>by
 obtain ⟨t,rfl⟩:=x.int_inv;obtain ⟨t',rfl⟩:=y.int_inv
 exact PyProof.Rows.floordiv_int (hp:=.inl hp) h ⟨kp_tok _ _,.int _ _⟩
theorem op_mod {a:Int} (h:b≠0) (x:At X s.heap u (.int a)) (y:At X s.heap v (.int b)):Op prog w A (binaryOp .Mod u v) s X (.int (a.fmod b)):=fun E=>by
 obtain ⟨t,rfl⟩:=x.int_inv;obtain ⟨t',rfl⟩:=y.int_inv
 exact PyProof.Rows.mod_int h ⟨kp_tok _ _,.int _ _⟩
theorem op_pow {a:Int} (h:0≤b) (h2:b≤1000000) (ha:a.natAbs<2 ^ 64) (x:At X s.heap u (.int a)) (y:At X s.heap v (.int b)):Op prog w A (binaryOp .Pow u v) s X (.int (a ^ b.toNat)):=fun E=>by
 obtain ⟨t,rfl⟩:=x.int_inv;obtain ⟨t',rfl⟩:=y.int_inv
 exact PyProof.Rows.pow_int_small h h2 ha ⟨kp_tok _ _,.int _ _⟩
theorem op_lt {a:Int} (x:At X s.heap u (.int a)) (y:At X s.heap v (.int b)):Op prog w A (compareOp .Lt u v) s X (.bool (decide (a<b))):=fun E=>by
 obtain ⟨t,rfl⟩:=x.int_inv;obtain ⟨t',rfl⟩:=y.int_inv
 exact PyProof.Rows.lt_int ⟨kp_refl _,.bool _⟩
theorem op_gt {a:Int} (x:At X s.heap u (.int a)) (y:At X s.heap v (.int b)):Op prog w A (compareOp .Gt u v) s X (.bool (decide (b<a))):=fun E=>by
 obtain ⟨t,rfl⟩:=x.int_inv;obtain ⟨t',rfl⟩:=y.int_inv
 exact PyProof.Rows.gt_int ⟨kp_refl _,.bool _⟩
theorem op_le {a:Int} (x:At X s.heap u (.int a)) (y:At X s.heap v (.int b)):Op prog w A (compareOp .LtE u v) s X (.bool (decide (a≤b))):=fun E=>by
 obtain ⟨t,rfl⟩:=x.int_inv;obtain ⟨t',rfl⟩:=y.int_inv
 exact PyProof.Rows.le_int ⟨kp_refl _,.bool _⟩
theorem op_ge {a:Int} (x:At X s.heap u (.int a)) (y:At X s.heap v (.int b)):Op prog w A (compareOp .GtE u v) s X (.bool (decide (b≤a))):=fun E=>by
 obtain ⟨t,rfl⟩:=x.int_inv;obtain ⟨t',rfl⟩:=y.int_inv
 exact PyProof.Rows.ge_int ⟨kp_refl _,.bool _⟩
theorem op_eqi {a:Int} (x:At X s.heap u (.int a)) (y:At X s.heap v (.int b)):Op prog w A (compareOp .Eq u v) s X (.bool (a == b)):=fun E=>by
 obtain ⟨t,rfl⟩:=x.int_inv;obtain ⟨t',rfl⟩:=y.int_inv
 exact PyProof.Rows.eq_int ⟨kp_refl _,.bool _⟩
theorem op_nei {a:Int} (x:At X s.heap u (.int a)) (y:At X s.heap v (.int b)):Op prog w A (compareOp .NotEq u v) s X (.bool (a != b)):=fun E=>by
 obtain ⟨t,rfl⟩:=x.int_inv;obtain ⟨t',rfl⟩:=y.int_inv
 exact PyProof.Rows.ne_int ⟨kp_refl _,.bool _⟩
theorem op_eq {a b:PyData} {n:Nat} (hA:OKA A n) (ha:shaped a=true) (hb:shaped b=true) (x:At X s.heap u a) (y:At X s.heap v b):Op prog w A (compareOp .Eq u v) s X (.bool (PyData.eqv a b)):=fun E=>by
 obtain ⟨_,x,_⟩:=x;obtain ⟨_,y,_⟩:=y
 exact compareEq_shaped x y ha hb (by have:=hA.u100;lia) ⟨kp_refl _,.bool _⟩
theorem op_ne {a b:PyData} {n:Nat} (hA:OKA A n) (ha:shaped a=true) (hb:shaped b=true) (x:At X s.heap u a) (y:At X s.heap v b):Op prog w A (compareOp .NotEq u v) s X (.bool (!PyData.eqv a b)):=fun E=>by
 obtain ⟨_,x,_⟩:=x;obtain ⟨_,y,_⟩:=y
 exact compareNe_shaped x y ha hb (by have:=hA.u100;lia) ⟨kp_refl _,.bool _⟩
theorem op_in {a:PyData} {bs:List PyData} {n:Nat} (hA:OKA A n) (ha:shaped a=true) (hb:shaped (.list bs)=true) (x:At X s.heap u a) (y:At X s.heap v (.list bs)) :
  Op prog w A (compareOp .In u v) s X (.bool (bs.any fun y=>PyData.eqv y a)):=fun E=>by
 obtain ⟨_,x,_⟩:=x;obtain ⟨_,y,_⟩:=y
 exact in_list_reads y x (canLay_of_shaped hb) (canLay_of_shaped ha) (room_in_shaped ha (by have:=hA.u100;lia)) ⟨kp_refl _,.bool _⟩
theorem op_notIn {a:PyData} {bs:List PyData} {n:Nat} (hA:OKA A n) (ha:shaped a=true) (hb:shaped (.list bs)=true) (x:At X s.heap u a) (y:At X s.heap v (.list bs)) :
  Op prog w A (compareOp .NotIn u v) s X (.bool (!(bs.any fun y=>PyData.eqv y a))):=fun E=>by
 obtain ⟨_,x,_⟩:=x;obtain ⟨_,y,_⟩:=y
 exact notIn_list_reads y x (canLay_of_shaped hb) (canLay_of_shaped ha) (room_in_shaped ha (by have:=hA.u100;lia)) ⟨kp_refl _,.bool _⟩
/- and,or,not,if -/
theorem ev_and {x y:Expr} {pos:Pos} {p q:Bool} (up:Up I) (hx:Ev prog w A env I x (.bool p)) (hy:p=true→Ev prog w A env I y (.bool q)):Ev prog w A env I (.BoolOp .And [x,y] pos) (.bool (p && q)):=fun s E X hX hI =>
 wpAny_And2 (hx.wp hX hI fun v s1a k1a a1a=>by
  rw[a1a.bool_inv]
  refine wpAny_truthy_bool ?_
  cases p with
  | false=>exact ⟨k1a,.bool _⟩
  | true=>exact (hy rfl).wp (hX.ext (kp_ext k1a)) (up.ext (kp_ext k1a) hI) fun v s2a k2a a2a=>⟨kp_trans k1a k2a,by simpa using a2a⟩)
theorem ev_or {x y:Expr} {pos:Pos} {p q:Bool} (up:Up I) (hx:Ev prog w A env I x (.bool p)) (hy:p=false→Ev prog w A env I y (.bool q)):Ev prog w A env I (.BoolOp .Or [x,y] pos) (.bool (p || q)):=fun s E X hX hI =>
 wpAny_Or2 (hx.wp hX hI fun v s1a k1a a1a=>by
  rw[a1a.bool_inv]
  refine wpAny_truthy_bool ?_
  cases p with
  | true=>exact ⟨k1a,.bool _⟩
  | false=>exact (hy rfl).wp (hX.ext (kp_ext k1a)) (up.ext (kp_ext k1a) hI) fun v s2a k2a a2a=>⟨kp_trans k1a k2a,by simpa using a2a⟩)
theorem tr_and {x y:Expr} {pos:Pos} {p q:Bool} (up:Up I) (hx:Tr prog w A env I x p) (hy:p=true→Tr prog w A env I y q):Tr prog w A env I (.BoolOp .And [x,y] pos) (p && q):=fun s E X hX hI=>by
 refine wpAny_isTrue_BoolOp (wpAny_allTrue_And_cons (hx.wp hX hI fun s1a k1a=>?_))
 cases p with
 | false=>exact ⟨k1a,rfl⟩
 | true =>
  refine wpAny_allTrue_And_cons ((hy rfl).wp (hX.ext (kp_ext k1a)) (up.ext (kp_ext k1a) hI) fun s2a k2a=>?_)
  cases q with
  | false=>exact ⟨kp_trans k1a k2a,rfl⟩
  | true=>exact wpAny_allTrue_And_nil ⟨kp_trans k1a k2a,rfl⟩
theorem ev_if {t x y:Expr} {pos:Pos} {b:Bool} {c:PyData} (up:Up I) (ht:Tr prog w A env I t b) (hx:b=true→Ev prog w A env I x c) (hy:b=false→Ev prog w A env I y c):Ev prog w A env I (.IfExp t x y pos) c:=fun s E X hX hI =>
 wpAny_IfExp (ht.wp hX hI fun s1a k1a=>by
  cases b with
  | true=>exact (hx rfl).wp (hX.ext (kp_ext k1a)) (up.ext (kp_ext k1a) hI) fun v s2a k2a a2a=>⟨kp_trans k1a k2a,a2a⟩
  | false=>exact (hy rfl).wp (hX.ext (kp_ext k1a)) (up.ext (kp_ext k1a) hI) fun v s2a k2a a2a=>⟨kp_trans k1a k2a,a2a⟩)
/- displays -/
theorem ev_nil:EvAll prog w A env I [] []:=fun zz zz zz zz zz zz=>wpAny_items_nil ⟨kp_refl _,.nil⟩
theorem ev_cons {e:Expr} {es:List Expr} (up:Up I) (x:Ev prog w A env I e d) (y:EvAll prog w A env I es ds)
  (he:starEach (e::es) env=(false,eval e env)::starEach es env:=by rfl):EvAll prog w A env I (e::es) (d::ds):=fun s E X pos hX hI =>
 wpAny_items_cons (he:=he) (x.wp hX hI fun v s1a k1a a1a=>wpAny_mono (y s1a E X pos (hX.ext (kp_ext k1a)) (up.ext (kp_ext k1a) hI)) (fun vs s2a q=>⟨kp_trans k1a q.1,.cons (a1a.ext (kp_ext q.1)) q.2⟩) fun zz zz h=>h)
theorem ev_tuple {es:List Expr} {k:Nat} {pos:Pos} (x:EvAll prog w A env I es ds) (hl:ds.length≤1000:=by decide):Ev prog w A env I (.Tuple es k pos) (.tuple ds):=fun s E X hX hI =>
 wpAny_Tuple (wpAny_mono (x s E X pos hX hI) (fun vs s1a q=>⟨by rw[q.2.length,sizeLine_eq];lia,kp_trans q.1 (kp_push _ _),.tuple ⟨_,Heap.get?_push_size _ rfl,rfl,0,rfl⟩ (by simpa using q.2.ext (Ext.push _ _))⟩) fun zz zz h=>h)
theorem ev_list {es:List Expr} {pos:Pos} (x:EvAll prog w A env I es ds) (hl:ds.length≤1000:=by decide):Ev prog w A env I (.List es pos) (.list ds):=fun s E X hX hI =>
 wpAny_List (wpAny_mono (x s E X pos hX hI) (fun vs s1a q=>⟨by rw[q.2.length,sizeLine_eq];lia,kp_trans q.1 (kp_push _ _),.list ((hX.ext (kp_ext q.1)).new (size_none _)) ⟨_,Heap.get?_push_size _ rfl,rfl,0,rfl⟩ (by simpa using q.2.ext (Ext.push _ _))⟩) fun zz zz h=>h)
end
structure GK (K:Frag) (mg mb:Str→Option Value) (h:Heap):Prop where
 k:K.In h
 g:h.Ns mainGlobals mg
 b:h.Ns builtinsNs mb
 lim:h.NoLimit
theorem GK.ext (x:GK K mg mb h) (k:Ext h h'):GK K mg mb h' :=
 ⟨x.k.keeps k,x.g.at' fun o e=>k _ o e,x.b.at' fun o e=>k _ o e,x.lim.keeps k⟩
structure GEnv (env:Env):Prop where
 kind:env.scope.kind=.function
 g:env.globals=mainGlobals
 b:env.builtins=builtinsNs
section
theorem ev_global {x:Str} {pos:Pos} (hI:∀ X h,I X h→GK K mg mb h) (g:GEnv env) (hx:env.kindOf x=some .globalImplicit) (hv:mg x=some v)
  (hd:(x == ("__debug__":Str))=false:=by decide):EvR prog w A env I (.Name x pos) (fun zz zz u=>u=v):=fun s E X hX hs =>
 Calls.Name_function_global g.kind hx (Calls.loadGlobal_global (env:=env) (mg:=mg) (g.g▸(hI _ _ hs).g) hv ⟨kp_refl _,rfl⟩) hd
theorem ev_builtin {x:Str} {pos:Pos} (hI:∀ X h,I X h→GK K mg mb h) (g:GEnv env) (hx:env.kindOf x=some .globalImplicit) (hm:mg x=none) (hv:mb x=some v)
  (hd:(x == ("__debug__":Str))=false:=by decide):EvR prog w A env I (.Name x pos) (fun zz zz u=>u=v):=fun s E X hX hs =>
 Calls.Name_function_global g.kind hx (Calls.loadGlobal_builtin (env:=env) (mg:=mg) (mb:=mb) (g.g▸(hI _ _ hs).g) hm (g.b▸(hI _ _ hs).b) hv ⟨kp_refl _,rfl⟩) hd
noncomputable def Keeper1 (M:Model) (I:XHP) (f:Value):Prop:=∀ X h,I X h→∃ k,(k=Keeper.frame∨k=Keeper.machine∨k=Keeper.boundFrame)∧Looks M h (keeperOf f) k
theorem keeper_builtin {M:Model} {i:String}:Keeper1 M I (.builtin i):=fun zz zz zz=>⟨.machine,.inr (.inl rfl),Looks.now⟩
theorem keeper_type {M:Model} {i:String}:Keeper1 M I (.type i):=fun zz zz zz=>⟨.machine,.inr (.inl rfl),Looks.now⟩
theorem keeper_K {M:Model} {f:Value} (hI:∀ X h,I X h→GK K mg mb h) (hk:keepIn K f=true):Keeper1 M I f:=fun X h hs=>keeps_K hk h (hI X h hs).k
theorem ev_callR {f:Str} {np pos:Pos} {e:Expr} {es:List Expr} {R:List Addr→Heap→Value→Prop} (up:Up I)
  (hf:EvR prog w A env I (.Name f np) (fun zz zz v=>v=fv)) (hk:Keeper1 (model prog w) I fv) (ha:EvAll prog w A env I (e::es) ds)
  (hc:∀ s X vs E,Bd X s.heap→I X s.heap→AtAll X s.heap vs ds→wpAny (model prog w) A (call fv vs) (fun v s'=>Keeps s s'∧R X s'.heap v) E s)
  (he:starEach (e::es) env=(false,eval e env)::starEach es env:=by rfl) (hplain:(backTo pos (starEach es env)).any (·.1)=false:=by rfl) :
  EvR prog w A env I (.Call (.Name f np) (e::es) [] pos) R:=fun s E X hX hs=>by
 refine wpAny_Call_ofName (hf.wp hX hs fun v s1a k1a hv=>?_)
 subst hv
 have h1a:=up.ext (kp_ext k1a) hs
 have b1a:=hX.ext (kp_ext k1a)
 refine callWith_of (P:=I X) (by rw[he];show ((false || (backTo pos (starEach es env)).any (·.1)) || false)=false;rw[hplain];rfl) (hk X) ?_
 rw[he]
 refine Calls.evalArgs_plain ?_
 have ha':=ha s1a E X pos b1a h1a
 rw[he] at ha'
 exact wpAny_mono ha' (fun vs s2a q=>⟨up.ext (kp_ext q.1) h1a,wpAny_mono (hc s2a X vs E (b1a.ext (kp_ext q.1)) (up.ext (kp_ext q.1) h1a) q.2) (fun r s3a z=>⟨kp_trans k1a (kp_trans q.1 z.1),z.2⟩) fun zz zz x=>x⟩) fun zz zz x=>x
theorem ev_call {f:Str} {np pos:Pos} {e:Expr} {es:List Expr} (up:Up I)
  (hf:EvR prog w A env I (.Name f np) (fun zz zz v=>v=fv)) (hk:Keeper1 (model prog w) I fv) (ha:EvAll prog w A env I (e::es) ds)
  (hc:∀ s X vs,Bd X s.heap→I X s.heap→AtAll X s.heap vs ds→Op prog w A (call fv vs) s X d)
  (he:starEach (e::es) env=(false,eval e env)::starEach es env:=by rfl) (hplain:(backTo pos (starEach es env)).any (·.1)=false:=by rfl) :
  Ev prog w A env I (.Call (.Name f np) (e::es) [] pos) d:=ev_callR up hf hk ha (fun s X vs E a b c=>hc s X vs a b c E) he hplain
theorem ev_call1R {f:Str} {np pos:Pos} {e:Expr} {R R':List Addr→Heap→Value→Prop} (up:Up I)
  (hf:EvR prog w A env I (.Name f np) (fun zz zz v=>v=fv)) (hk:Keeper1 (model prog w) I fv) (ha:EvR prog w A env I e R')
  (hc:∀ s X v E,Bd X s.heap→I X s.heap→R' X s.heap v→wpAny (model prog w) A (call fv [v]) (fun v s'=>Keeps s s'∧R X s'.heap v) E s)
  (he:starEach [e] env=(false,eval e env)::starEach [] env:=by rfl) :
  EvR prog w A env I (.Call (.Name f np) [e] [] pos) R:=fun s E X hX hs=>by
 refine wpAny_Call_ofName (hf.wp hX hs fun v s1a k1a hv=>?_)
 subst hv
 have h1a:=up.ext (kp_ext k1a) hs
 have b1a:=hX.ext (kp_ext k1a)
 refine callWith_of (P:=I X) (by rw[he];rfl) (hk X) ?_
 rw[he]
 refine Calls.evalArgs_plain ?_
 have ha':wpAny (model prog w) A (spliced (backTo pos (starEach [e] env))) (fun vs s'=>I X s'.heap∧wpAny (model prog w) A (call v ([]++vs)) (fun v s'=>Keeps s s'∧R X s'.heap v) E s') E s1a :=
  wpAny_items_cons (he:=he) (ha.wp b1a h1a fun u s2a k2a q=>wpAny_items_nil ⟨up.ext (kp_ext k2a) h1a,wpAny_mono (hc s2a X u E (b1a.ext (kp_ext k2a)) (up.ext (kp_ext k2a) h1a) q) (fun r s3a z=>⟨kp_trans k1a (kp_trans k2a z.1),z.2⟩) fun zz zz x=>x⟩)
 rw[he] at ha'
 exact ha'
/- built-in functions -/
theorem one_inv (x:AtAll X h vs [d]):∃ v,vs=[v]∧At X h v d:=by
 obtain ⟨v,ws,rfl,a,y⟩:=x.cons_inv
 rw[y.nil_inv];exact ⟨v,rfl,a⟩
theorem two_inv {e:PyData} (x:AtAll X h vs [d,e]):∃ v u,vs=[v,u]∧At X h v d∧At X h u e:=by
 obtain ⟨v,ws,rfl,a,y⟩:=x.cons_inv
 obtain ⟨u,rfl,b⟩:=one_inv y
 exact ⟨v,u,rfl,a,b⟩
theorem isTup {items:Array Value} (x:h.IsTuple a items):IsTup h a items:=x
theorem op_len_list (x:AtAll X s.heap vs [.list ds]) (hl:ds.length≤1000000):Op prog w A (call (.builtin "len") vs) s X (.int ds.length):=fun E=>by
 obtain ⟨v,rfl,y⟩:=one_inv x
 obtain ⟨a,items,rfl,hn,hli,r⟩:=y.list_inv
 have:=r.length
 simp at this
 exact Calls.call_len_list hli (by lia) ⟨kp_tok _ _,this▸.int _ _⟩
theorem op_len_tuple (x:AtAll X s.heap vs [.tuple ds]) (hl:ds.length≤1000000):Op prog w A (call (.builtin "len") vs) s X (.int ds.length):=fun E=>by
 obtain ⟨v,rfl,y⟩:=one_inv x
 obtain ⟨a,items,rfl,hli,r⟩:=y.tuple_inv
 have:=r.length
 simp at this
 exact len_tuple hli (by lia) ⟨kp_tok _ _,this▸.int _ _⟩
theorem op_chr {i:Int} (x:AtAll X s.heap vs [.int i]) (h0:0≤i) (h1:i<1000):Op prog w A (call (.builtin "chr") vs) s X (.str ⟨#[i.toNat]⟩):=fun E=>by
 obtain ⟨v,rfl,y⟩:=one_inv x
 obtain ⟨t,rfl⟩:=y.int_inv
 exact P.chr_of_int (by simp;lia) ⟨kp_tok _ _,.str _ _⟩
theorem op_tuple_list (x:AtAll X s.heap vs [.list ds]) (hl:ds.length≤1000000):Op prog w A (call (.type "tuple") vs) s X (.tuple ds):=fun E=>by
 obtain ⟨v,rfl,y⟩:=one_inv x
 obtain ⟨a,items,rfl,hn,hli,r⟩:=y.list_inv
 have:=r.length
 simp at this
 refine call_tuple_list (hsz:=by rw[sizeLine_eq];lia) hli fun h' k=>?_
 exact ⟨kp_heap _ (Ext.trans k (Ext.push _ _)),.tuple ⟨_,Heap.get?_push_size _ rfl,rfl,0,rfl⟩ (r.ext (Ext.trans k (Ext.push _ _)))⟩
theorem ints_of_at:∀ {vs:List Value} {ns:List Int},AtAll X h vs (ns.map PyData.int)→IntsAre vs ns
 | _,[],x=>by rw[x.nil_inv];exact .nil
 | _,n::ns,x=>by
  obtain ⟨v,ws,rfl,a,y⟩:=x.cons_inv
  obtain ⟨t,rfl⟩:=a.int_inv
  exact .cons n t (ints_of_at y)
/- items -/
theorem ev_sub {value slice:Expr} {pos:Pos} {a b c:PyData} (up:Up I) (x:Ev prog w A env I value a) (y:Ev prog w A env I slice b)
  (o:∀ s X u v E,Bd X s.heap→At X s.heap u a→At X s.heap v b→wpAny (model prog w) A (subscriptTail value slice u v) (fun v s'=>Keeps s s'∧At X s'.heap v c) E s):Ev prog w A env I (.Subscript value slice pos) c:=fun s E X hX hI =>
 Subscript_ (x.wp hX hI fun u s1a k1a a1a=>y.wp (hX.ext (kp_ext k1a)) (up.ext (kp_ext k1a) hI) fun v s2a k2a b2b=>wpAny_mono (o s2a X u v E (hX.ext (Ext.trans (kp_ext k1a) (kp_ext k2a))) (a1a.ext (kp_ext k2a)) b2b) (fun z s3a q=>⟨kp_trans k1a (kp_trans k2a q.1),q.2⟩) fun zz zz h=>h)
theorem sub_list {value slice:Expr} {i:Int} (h0:0≤i) (h1:i<2 ^ 63) (hd:ds[i.toNat]?=some d) (x:At X s.heap u (.list ds)) (y:At X s.heap v (.int i))
  (hs:∀ a t,subscripted slice false (.ref a) (.int i t)=operate [.ref a,.int i t] (getItem (.ref a) (.int i t)):=by intro _ _;with_unfolding_all rfl) :
  wpAny (model prog w) A (subscriptTail value slice u v) (fun v s'=>Keeps s s'∧At X s'.heap v d) E s:=by
 obtain ⟨a,items,rfl,hn,hl,r⟩:=x.list_inv
 obtain ⟨t,rfl⟩:=y.int_inv
 obtain ⟨z,hz,az⟩:=r.get' hd
 exact tail_any hl.typeIs slot_list_getitem.lookup (wpAny_getItem_list hl h0 h1 (by simpa using hz) ⟨kp_refl _,az⟩) (hs _ _)
theorem sub_tuple {value slice:Expr} {i:Int} (h0:-(2 ^ 63)≤i) (h1:i<2 ^ 63) (hj:seqIndex? i ds.length=some j) (hd:ds[j]?=some d) (x:At X s.heap u (.tuple ds)) (y:At X s.heap v (.int i))
  (hs:∀ a t,subscripted slice false (.ref a) (.int i t)=operate [.ref a,.int i t] (getItem (.ref a) (.int i t)):=by intro _ _;with_unfolding_all rfl) :
  wpAny (model prog w) A (subscriptTail value slice u v) (fun v s'=>Keeps s s'∧At X s'.heap v d) E s:=by
 obtain ⟨a,items,rfl,hl,r⟩:=x.tuple_inv
 obtain ⟨t,rfl⟩:=y.int_inv
 obtain ⟨z,hz,az⟩:=r.get' hd
 have hlen:=r.length
 simp at hlen
 exact tail_any (isTup hl).typeIs slot_tuple_getitem.lookup (getItem_tuple hl h0 h1 (by rw[hlen];exact hj) (by simpa using hz) ⟨kp_refl _,az⟩) (hs _ _)
end
structure Iter {α:Type} (T:List Addr→Heap→Value→α→Prop) (prog:Program) (w:World) (A:Around) (target:Expr) (X:List Addr) (h0a h1a:Heap) (ds:List α) (s2a:Shared) (I:Addr) (fp wr:List Addr) (St:Nat→Heap→Prop) (Mid:Nat→Value→Heap→Prop):Prop where
 stab:∀ X h h' v d,T X h v d→Chg X h h'→T X h' v d
 sub:∀ b∈wr,b∈fp
 frame:∀ i h h',St i h→(∀ b∈fp,∀ o,h.get? b=some o→h'.get? b=some o)→St i h'
 next:∀ i (s:Shared) (Q:Option Value→Shared→Prop) (E:VSP),i<ds.length→St i s.heap →
  (∀ v h' tk,Mid i v h'→Off wr s.heap h'→Q (some v) { s with heap:=h',toks:=tk })→wpAny (model prog w) A (pyNext (.ref I)) Q E s
 done:∀ (s:Shared) (Q:Option Value→Shared→Prop) (E:VSP),St ds.length s.heap →
  (∀ h' tk,Off wr s.heap h'→Q none { s with heap:=h',toks:=tk })→wpAny (model prog w) A (pyNext (.ref I)) Q E s
 self:∀ i (s:Shared) (Q:VSP) (E:VSP),St i s.heap→Q (.ref I) s→wpAny (model prog w) A (pyIter (.ref I)) Q E s
 st:St 0 s2a.heap
 there:∀ b∈fp,∃ o,s2a.heap.get? b=some o
 new:∀ b∈wr,h0a.get? b=none
 apart:∀ b∈fp,b∈wr∨b∉X∨∃ o,h1a.get? b=some o∧TupObj o
 cls:∀ i h,St i h→∀ b∈wr,∃ o,h.get? b=some o∧¬ TupObj o
 mcls:∀ i v h,Mid i v h→∀ b∈wr,∃ o,h.get? b=some o∧¬ TupObj o
 item:∀ i v h X',Mid i v h→(∀ x∈X',x∈X∨x∈wr∨h1a.get? x=none)→Chg X' h1a h→∃ d,ds[i]?=some d∧T X' h v d
 go:∀ i v (s':Shared) (Q:Unit→Shared→Prop) (E:VSP),Mid i v s'.heap→(∀ h',St (i+1) h'→Off wr s'.heap h'→Q () { s' with heap:=h' })→wpAny (model prog w) A (letOwnedTupleGo target (.ref I) v) Q E s'
noncomputable def Itb {α:Type} (T:List Addr→Heap→Value→α→Prop) (prog:Program) (w:World) (A:Around) (target:Expr) (X:List Addr) (h0a:Heap) (s:Shared) (xv:Value) (ds:List α):Prop :=
 ∀ (Q:VSP) (E:VSP),(∀ I fp wr St Mid s2a,Keeps s s2a→Iter T prog w A target X h0a s.heap ds s2a I fp wr St Mid→Q (.ref I) s2a)→wpAny (model prog w) A (pyIter xv) Q E s
noncomputable def Src {α:Type} (T:List Addr→Heap→Value→α→Prop) (prog:Program) (w:World) (A:Around) (env:Env) (I:XHP) (target e:Expr) (ds:List α):Prop :=
 ∀ (s:Shared) (E:VSP) (X:List Addr),Bd X s.heap→I X s.heap→wpAny (model prog w) A (eval e env) (fun v s'=>Keeps s s'∧Itb T prog w A target X s.heap s' v ds) E s
theorem Src.wp {α:Type} {T:List Addr→Heap→Value→α→Prop} {target e:Expr} {ds:List α} {Q:VSP} (x:Src T prog w A env I target e ds) (hX:Bd X s.heap) (hI:I X s.heap)
  (k:∀ v s',Keeps s s'→Itb T prog w A target X s.heap s' v ds→Q v s'):wpAny (model prog w) A (eval e env) Q E s :=
 wpAny_mono (x s E X hX hI) (fun v s' h=>k v s' h.1 h.2) fun zz zz h=>h
theorem none_before (k:Ext h h') (e:h'.get? a=none):h.get? a=none:=by
 cases q:h.get? a with
 | none=>rfl
 | some o=>rw[k _ _ q] at e;cases e
theorem not_tup_of_fields {o:Obj} {vs:Array Value} (h:o.data=.fields vs):¬ TupObj o:=by rintro ⟨_,_,_,e⟩;exact by rw[h] at e;cases e
theorem not_tup_of_dict {o:Obj} {vs:Array DictEntry} {n:Nat} (h:o.data=.dict vs n):¬ TupObj o:=by rintro ⟨_,_,_,e⟩;exact by rw[h] at e;cases e
theorem not_tup_of_cell {o:Obj} {v:Option Value} (h:o.data=.cell v):¬ TupObj o:=by rintro ⟨_,_,_,e⟩;exact by rw[h] at e;cases e
theorem not_tup_of_cls {o:Obj} {T:String} (h:o.cls=.type T) (n:T≠"tuple"):¬ TupObj o:=by rintro ⟨e,_⟩;exact by rw[h] at e;exact n (Value.type.inj e)
section
set_option tactic.hygienic true in
theorem go_plain {target:Expr} {I:Addr} {o:Obj} {T:String} {vs:Array Value} {Q:Unit→Shared→Prop} (ho:s.heap.get? I=some o) (hc:o.cls=.type T) (hd:o.data=.fields vs)
  (hn:(["enumerate","zip","dict_itemiterator","dict_reverseitemiterator","odict_iterator","itertools.zip_longest","itertools.pairwise"].contains T)=false) (q:Q () s) :
  wpAny (model prog w) A (letOwnedTupleGo target (.ref I) v) Q E s:=by
 have h1:wpAny (model prog w) A (do
   let (.ref r,.ref a):=(Value.ref I,v)|return
   let o ← load r
   match o.cls,o.data with
   | .type n,.fields vs =>
    if ["enumerate","zip","dict_itemiterator","dict_reverseitemiterator","odict_iterator","itertools.zip_longest","itertools.pairwise"].contains n && vs[0]? == some (rawInt a) then
     rule "for.unpacks-the-owned-tuple"
     updateField r 0 .none
   | _,_=>pure ()) Q E s:=by
  cases v
  case ref a =>
   refine wpAny_bind (wpAny_load ho ?_)
   rw[hc,hd]
   show wpAny _ A (if (_ && _)=true then _ else _) Q E s
   rw[hn,Bool.false_and]
   exact wpAny_pure q
  all_goals exact wpAny_pure q
 cases target
 case Tuple=>exact h1
 case List=>exact h1
 all_goals exact wpAny_pure q
theorem iter_of_walks {α:Type} {T:List Addr→Heap→Value→α→Prop} {target:Expr} {ds:List α} {s2a:Shared} {I:Addr} {fp wr:List Addr} {P:Nat→Value→Prop} {St:Nat→Heap→Prop} (stab:∀ X h h' v d,T X h v d→Chg X h h'→T X h' v d)
  (W:Walks prog w A I fp wr ds.length P St) (st:St 0 s2a.heap) (there:∀ b∈fp,∃ o,s2a.heap.get? b=some o) (new:∀ b∈wr,h0a.get? b=none) (apart:∀ b∈fp,b∈wr∨b∉X∨∃ o,h1a.get? b=some o∧TupObj o)
  (cls:∀ i h,St i h→∀ b∈wr,∃ o,h.get? b=some o∧¬ TupObj o) (hw:∀ b∈wr,h1a.get? b=none) (item:∀ i v X',P i v→Hid X X' h1a→∃ d,ds[i]?=some d∧T X' h1a v d)
  (go:∀ i v (s':Shared) (Q:Unit→Shared→Prop) (E:VSP),St i s'.heap→Q () s'→wpAny (model prog w) A (letOwnedTupleGo target (.ref I) v) Q E s') :
  Iter T prog w A target X h0a h1a ds s2a I fp wr St (fun i v h=>P i v∧St (i+1) h) :=
 ⟨stab,W.sub,W.frame,fun i s Q E hi hs k=>W.item i s Q E hi hs fun v h' tk p q o=>k v h' tk ⟨p,q⟩ o,fun s Q E hs k=>W.done s Q E hs fun h' tk o=>k h' tk o,W.self,st,there,new,apart,cls,fun i v h q=>cls _ _ q.2,fun i v h X' q hd c=>by
  obtain ⟨d,a,b⟩:=item i v X' q.1 (fun x m=>(hd x m).elim .inl fun z=>z.elim (fun z=>.inr (hw x z)) .inr)
  exact ⟨d,a,stab _ _ _ _ _ b c⟩,fun i v s' Q E q k=>go (i+1) v s' Q E q.2 (k s'.heap q.2 fun zz zz zz e=>e)⟩
theorem itb_list {target:Expr} (hh:A.handled=none) (ke:Ext h0a s.heap) (x:At X s.heap v (.list ds)):Itb At prog w A target X h0a s v ds:=fun Q E k=>by
 obtain ⟨a,items,rfl,hn,hl,r⟩:=x.list_inv
 have hlen:items.size=ds.length:=by have:=r.length;simpa using this
 obtain ⟨o,ho,_⟩:=id hl
 have hne:a≠s.heap.objs.size:=Nat.ne_of_lt (Heap.lt_size ho)
 refine wpAny_pyIter_list hl (k _ _ _ _ _ _ (kp_push _ _) (iter_of_walks (fun zz zz zz zz zz a b=>At.chg a b) (hlen▸Walks.list hh s.heap.objs.size a hne items) ⟨⟨_,Heap.get?_push_size _ rfl,rfl,rfl⟩,hl.at fun o e=>Heap.get?_push_of_some _ e⟩ ?_ ?_ ?_ ?_ (fun b hb=>by rw[m_s hb];exact size_none _) ?_ ?_))
 ·intro b hb
  rcases mC hb with rfl|hb
  ·exact ⟨_,Heap.get?_push_size _ rfl⟩
  ·rw[m_s hb];exact ⟨_,Heap.get?_push_of_some _ ho⟩
 ·intro b hb
  rw[m_s hb];exact none_before ke (size_none _)
 ·intro b hb
  rcases mC hb with rfl|hb
  ·exact .inl (.head _)
  ·rw[m_s hb];exact .inr (.inl hn)
 ·intro i h hst b hb
  rw[m_s hb]
  obtain ⟨⟨o,e,c,d⟩,_⟩:=hst
  exact ⟨o,e,not_tup_of_fields d⟩
 ·intro i v X' hv hd
  obtain ⟨d,e,a⟩:=r.get (by simpa using hv)
  exact ⟨d,e,a.hid hd⟩
 ·intro i v s' Q E hst q
  obtain ⟨⟨o,e,c,d⟩,_⟩:=hst
  exact go_plain e c d (by decide) q
theorem itb_tuple {target:Expr} (hh:A.handled=none) (ke:Ext h0a s.heap) (x:At X s.heap v (.tuple ds)):Itb At prog w A target X h0a s v ds:=fun Q E k=>by
 obtain ⟨a,items,rfl,hl,r⟩:=x.tuple_inv
 have hlen:items.size=ds.length:=by have:=r.length;simpa using this
 obtain ⟨o,ho,_⟩:=id hl
 have hne:a≠s.heap.objs.size:=Nat.ne_of_lt (Heap.lt_size ho)
 refine wpAny_pyIter_tuple hl (k _ _ _ _ _ _ (kp_push _ _) (iter_of_walks (fun zz zz zz zz zz a b=>At.chg a b) (hlen▸Walks.tuple hh s.heap.objs.size a hne items) ⟨⟨_,Heap.get?_push_size _ rfl,rfl,rfl⟩,hl.at fun o e=>Heap.get?_push_of_some _ e⟩ ?_ ?_ ?_ ?_ (fun b hb=>by rw[m_s hb];exact size_none _) ?_ ?_))
 ·intro b hb
  rcases mC hb with rfl|hb
  ·exact ⟨_,Heap.get?_push_size _ rfl⟩
  ·rw[m_s hb];exact ⟨_,Heap.get?_push_of_some _ ho⟩
 ·intro b hb
  rw[m_s hb];exact none_before ke (size_none _)
 ·intro b hb
  rcases mC hb with rfl|hb
  ·exact .inl (.head _)
  ·rw[m_s hb];exact .inr (.inr (by
    obtain ⟨o,e,c,n,d⟩:=hl
    exact ⟨o,e,c,_,_,d⟩))
 ·intro i h hst b hb
  rw[m_s hb]
  obtain ⟨⟨o,e,c,d⟩,_⟩:=hst
  exact ⟨o,e,not_tup_of_fields d⟩
 ·intro i v X' hv hd
  obtain ⟨d,e,a⟩:=r.get (by simpa using hv)
  exact ⟨d,e,a.hid hd⟩
 ·intro i v s' Q E hst q
  obtain ⟨⟨o,e,c,d⟩,_⟩:=hst
  exact go_plain e c d (by decide) q
theorem src_list {target e:Expr} (hh:A.handled=none) (x:Ev prog w A env I e (.list ds)):Src At prog w A env I target e ds:=fun s E X hX hI =>
 x.wp hX hI fun v s' k a=>⟨k,itb_list hh (kp_ext k) a⟩
theorem src_tuple {target e:Expr} (hh:A.handled=none) (x:Ev prog w A env I e (.tuple ds)):Src At prog w A env I target e ds:=fun s E X hX hI =>
 x.wp hX hI fun v s' k a=>⟨k,itb_tuple hh (kp_ext k) a⟩
end
noncomputable def Lst (h:Heap) (D:Addr) (items:Array Value):Prop:=∃ n,h.get? D=some { cls:=.type "list",data:=.seq items n }
theorem Lst.isList {D:Addr} {its:Array Value} (x:Lst h D its):h.IsList D its:=by obtain ⟨n,e⟩:=x;exact ⟨_,e,rfl,n,rfl⟩
theorem Lst.at {D:Addr} {its:Array Value} (x:Lst h D its) (k:∀ o,h.get? D=some o→h'.get? D=some o):Lst h' D its:=by obtain ⟨n,e⟩:=x;exact ⟨n,k _ e⟩
section
variable (prog:Program) (w:World) (A:Around)
noncomputable def Ts (cenv:Env) (J:XHP) (ifs:List Expr) (b:Bool):Prop :=
 ∀ (s:Shared) (E:VSP) (X:List Addr),Bd X s.heap→J X s.heap →
  wpAny (model prog w) A (forIn ifs true fun c r=>if r=true then do let ok ← isTrue c cenv (eval c cenv);pure (ForInStep.yield ok) else pure (ForInStep.yield r)) (fun ok s'=>Keeps s s'∧ok=b) E s
noncomputable def Em (hb:Heap) (b:Nat) (mt:List Addr) (S:Heap→Prop) (J:XHP) (em:Value→Sem Unit) (outs:List PyData):Prop :=
 ∀ (s:Shared) (E:VSP) (X:List Addr) (D:Addr) (ys:Array Value),Bd X s.heap→J X s.heap→S s.heap→D∈X→hb.get? D=none→(∀ a∈mt,a∈X∧hb.get? a=none)→D∉mt→Lst s.heap D ys→ys.size≤b →
  wpAny (model prog w) A (em (.ref D)) (fun zz s'=>∃ h' tk zs,s'={ s with heap:=h',toks:=tk }∧Off (D::mt) s.heap h'∧S h'∧Lst h' D (ys++zs)∧AtAll X h' zs.toList outs) E s
structure TgtT {α:Type} (T:List Addr→Heap→Value→α→Prop) (cenv:Env) (target:Expr) (mt:List Addr) (S:Heap→Prop) (B:XHP) (d:α):Prop where
 assign:∀ (s:Shared) (v:Value) (E:VSP) (X:List Addr),Bd X s.heap→S s.heap→T X s.heap v d→(∀ a∈mt,a∈X) →
  wpAny (model prog w) A (assign target cenv v) (fun zz s'=>∃ h' tk,s'={ s with heap:=h',toks:=tk }∧Off mt s.heap h'∧S h'∧B X h') E s
structure Shp (mt:List Addr) (S:Heap→Prop):Prop where
 keep:∀ h h',S h→(∀ b o,h.get? b=some o→(b∈mt∨TupObj o)→h'.get? b=some o)→S h'
 there:∀ h,S h→∀ b∈mt,∃ o,h.get? b=some o∧¬ TupObj o
end
section
theorem ts_nil:Ts prog w A cenv J [] true:=fun s E X zz zz=>wpAny_tests_nil ⟨kp_refl _,rfl⟩
theorem ts_one {c:Expr} {b:Bool} (x:Tr prog w A cenv J c b):Ts prog w A cenv J [c] b:=fun s E X hX hJ=>wpAny_tests_one (x.wp hX hJ fun s' k=>⟨k,rfl⟩)
theorem em_elt {elt:Expr} {b:Nat} {mt:List Addr} {S:Heap→Prop} (hS:Shp mt S) (x:Ev prog w A cenv J elt d) (hbb:b≤1000000:=by decide):Em prog w A hb b mt S J (fun acc=>do let _ ← call (.builtin "list.append") [acc,← eval elt cenv]) [d]:=fun s E X D ys hX hJ hs hD zz zz hDm hl hz=>by
 refine wpAny_bind (x.wp hX hJ fun v s1a k1a a1a=>wpAny_bind ?_)
 obtain ⟨h1a,tk,rfl,k⟩:=k1a
 obtain ⟨n,hl⟩:=hl
 have hl:h1a.get? D=_:=k _ _ hl
 refine append_at (hsz:=by rw[sizeLine_eq];grind) hl fun h' hs' hl'=>wpAny_pure ?_
 have hnt:∀ b∈[D],b∈X∧∀ o,h1a.get? b=some o→¬ TupObj o:=fun b hb=>by
  rw[m_s hb]
  refine ⟨hD,fun o e=>?_⟩
  rw[hl] at e;cases e
  exact not_tup_of_cls rfl (by decide)
 have hoff:Off [D] h1a h':=fun b o n e=>hs'.extBut b o (fun q=>n (q▸List.mem_singleton_self _)) e
 refine ⟨h',_,#[v],rfl,Off.trans (Ext.off k) (hoff.mono fun q m=>by rw[m_s m];exact .head _),hS.keep _ _ hs fun b o e q=>hoff b o (fun m=>q.elim (fun q=>hDm (m_s m▸q)) fun q=>(hnt b m).2 o (k b o e) q) (k b o e),⟨_,by simpa using hl'⟩,?_⟩
 exact AtAll.cons (a1a.chg (hoff.chg hnt)) .nil
noncomputable def outsOf {α:Type} (p:α→Bool) (outs:α→List PyData) (ds:List α):List PyData:=ds.flatMap fun d=>if p d then outs d else []
theorem outsOf_snoc {α:Type} (p:α→Bool) (outs:α→List PyData) (ds:List α) (d:α):outsOf p outs (ds++[d])=outsOf p outs ds++if p d then outs d else []:=by simp[outsOf]
theorem comp_loop {α:Type} {T:List Addr→Heap→Value→α→Prop} {elt:Expr} {gens:List Comprehension} {scope:Scope} {pos:Pos} {depth:Nat} {target:Expr} {ifs:List Expr} {p0a:Pos} {em:Value→Sem Unit} {mt:List Addr} {S:Heap→Prop}
  {B:α→List Addr→Heap→Prop} {ds:List α} {it:Addr} {fp wr:List Addr} {St:Nat→Heap→Prop} {Mid:Nat→Value→Heap→Prop} {D:Addr} {ys:Array Value} {R:Result→Shared→Prop} {b:Nat}
  (p:α→Bool) (outs:α→List PyData)
  (hturn:∀ it acc,compTurn (.ListComp elt gens scope pos) depth it acc cenv=(do
   standAt p0a
   match ← pyNext it with
   | none=>pure (.done .next)
   | some v =>
    letOwnedTupleGo target it v
    assign target cenv v
    let mut ok:=true
    for c in ifs do
     if ok then ok ← isTrue c cenv (eval c cenv)
    if ok then
     em acc
    again (.compLoop (.ListComp elt gens scope pos) depth it acc cenv)))
  (hS:Shp mt S) (hT:∀ d∈ds,TgtT prog w A T cenv target mt S (B d) d)
  (hts:∀ d∈ds,Ts prog w A cenv (fun X h=>I X h∧B d X h) ifs (p d))
  (hem:∀ d∈ds,p d=true→Em prog w A hb b mt S (fun X h=>I X h∧B d X h) em (outs d))
  (hBe:∀ d X h h',Ext h h'→B d X h→B d X h')
  (hlen:ds.length≤1000) (hout:∀ d∈ds,p d=true→(outs d).length≤100) (hys:ys.size+100000≤b)
  (It:Iter T prog w A target X h0a h1a ds s it fp wr St Mid) (h0:Ext h1a s.heap)
  (hX:Bd X s.heap) (hD:D∈X) (hmut:∀ a∈mt,a∈X) (hwr:∀ a∈wr,a∈X) (hDm:D∉mt) (hDb:hb.get? D=none) (hmb:∀ a∈mt,hb.get? a=none) (hDf:D∉fp) (hfm:∀ b∈fp,b∉mt)
  (hS0:S s.heap) (hl0:Lst s.heap D ys)
  (hI:∀ h,Off (D::mt++wr) s.heap h→I X h)
  (hR:∀ h' tk zs,Off (D::mt++wr) s.heap h'→S h'→Lst h' D (ys++zs)→AtAll X h' zs.toList (outsOf p outs ds)→R (.ok .next) { s with heap:=h',toks:=tk }) :
  codeAny (model prog w) A (.compLoop (.ListComp elt gens scope pos) depth (.ref it) (.ref D) cenv) R s:=by
 have nl:∀ {h:Heap} {zs:Array Value},Lst h D zs→∃ o,h.get? D=some o∧¬ TupObj o:=fun hl=>by
  obtain ⟨n,e⟩:=hl
  exact ⟨_,e,not_tup_of_cls rfl (by decide)⟩
 have mk:∀ {h:Heap} {b:Addr},(∃ o,h.get? b=some o∧¬ TupObj o)→∀ o,h.get? b=some o→¬ TupObj o:=by
  rintro h b ⟨o,e,n⟩ o' e'
  rw[e] at e';cases e';exact n
 have chgW:∀ {h h':Heap} {i:Nat},St i h→Off wr h h'→Chg X h h':=fun hst k=>k.chg fun b hb=>⟨hwr b hb,mk (It.cls _ _ hst b hb)⟩
 have chgM:∀ {h h':Heap},S h→Off mt h h'→Chg X h h':=fun hs k=>k.chg fun b hb=>⟨hmut b hb,mk (hS.there _ hs b hb)⟩
 have chgD:∀ {h h':Heap} {zs:Array Value},Lst h D zs→Off [D] h h'→Chg X h h':=fun hs k=>k.chg fun b hb=>by
  rw[m_s hb];exact ⟨hD,mk (nl hs)⟩
 have chgA:∀ {h:Heap},Off (D::mt++wr) s.heap h→Chg X s.heap h:=fun k=>k.chg fun b hb=>by
  rcases m_a hb with hb|hb
  ·rcases mC hb with rfl|hb
   ·exact ⟨hD,mk (nl hl0)⟩
   ·exact ⟨hmut b hb,mk (hS.there _ hS0 b hb)⟩
  ·exact ⟨hwr b hb,mk (It.cls _ _ It.st b hb)⟩
 have bd:∀ {h:Heap} {i:Nat} {zs:Array Value},Off (D::mt++wr) s.heap h→St i h→S h→Lst h D zs→Bd X h:=fun k hst hs hl b hb=>by
  by_cases hm:b∈D::mt++wr
  ·rcases m_a hm with hm|hm
   ·rcases mC hm with rfl|hm
    ·exact exl (nl hl)
    ·exact exl (hS.there _ hs b hm)
   ·exact exl (It.cls _ _ hst b hm)
  ·obtain ⟨o,e⟩:=hX b hb
   exact ⟨o,k b o hm e⟩
 have inW:∀ {h h':Heap},Off wr h h'→Off (D::mt++wr) h h':=fun k=>k.mono fun q m=>m_r _ m
 have inM:∀ {h h':Heap},Off mt h h'→Off (D::mt++wr) h h':=fun k=>k.mono fun q m=>m_l _ (.tail _ m)
 have inD:∀ {h h':Heap},Off [D] h h'→Off (D::mt++wr) h h':=fun k=>k.mono fun q m=>by rw[m_s m];exact m_l _ (.head _)
 have hDw:D∉wr:=fun m=>hDf (It.sub _ m)
 have hmw:∀ b∈mt,b∉wr:=fun b m q=>hfm b (It.sub _ q) m
 have keepW:∀ {h h':Heap} {i:Nat},St i h→Off wr h h'→S h→S h':=fun hst k s=>hS.keep _ _ s fun b o e q=>k b o (fun m=>q.elim (fun q=>hmw b q m) fun q=>mk (It.cls _ _ hst b m) o e q) e
 refine codeAny_loop rfl (fun k s'=>∃ h' tk i zs,s'={ s with heap:=h',toks:=tk }∧i≤ds.length∧k=ds.length+1 - i∧St i h'∧S h'∧Lst h' D (ys++zs)∧zs.size≤100 * i∧AtAll X h' zs.toList (outsOf p outs (ds.take i))∧Off (D::mt++wr) s.heap h')
  ?_ (ds.length+1) ⟨s.heap,s.toks,0,#[],rfl,Nat.zero_le _,rfl,It.st,hS0,by simpa using hl0,by simp,by simpa [outsOf] using AtAll.nil,fun zz zz zz e=>e⟩
 rintro k s' ⟨h',tk,i,zs,rfl,hi,rfl,hst,hs,hl,hzs,hat,hoff⟩
 show wpAny _ A ((compTurn (.ListComp elt gens scope pos) depth (.ref it) (.ref D) cenv).onRaise (fun x=>do noteFrame x cenv;theTreesLotGoes x)) _ _ _
 refine wpAny_noted ?_
 rw[hturn]
 refine wpAny_bind (wpAny_standAt (wpAny_bind ?_))
 by_cases hlt:i<ds.length
 ·refine It.next i _ _ _ hlt hst fun v h1a tk1 hmid o1a=>?_
  have o1a:Off wr h' h1a:=o1a
  have O1:Off (D::mt++wr) s.heap h1a:=hoff.trans (inW o1a)
  obtain ⟨d,hd,had⟩:=It.item i v h1a X hmid (fun zz m=>.inl m) fun b o e q=>chgA O1 b o (h0 b o e) q
  have hdm:d∈ds:=List.mem_of_getElem? hd
  have s1a:S h1a:=keepW hst o1a hs
  have l1a:Lst h1a D (ys++zs):=hl.at fun o e=>o1a D o hDw e
  have a1a:=hat.chg (chgW hst o1a)
  refine wpAny_bind (It.go i v _ _ _ hmid fun h1' hst1 o1'=>?_)
  have o1':Off wr h1a h1':=o1'
  have c1':Chg X h1a h1':=o1'.chg fun b hb=>⟨hwr b hb,mk (It.mcls _ _ _ hmid b hb)⟩
  have O1:Off (D::mt++wr) s.heap h1':=O1.trans (inW o1')
  have had:=It.stab _ _ _ _ _ had c1'
  have s1a:S h1':=hS.keep _ _ s1a fun b o e q=>o1' b o (fun m=>q.elim (fun q=>hmw b q m) fun q=>mk (It.mcls _ _ _ hmid b m) o e q) e
  have l1a:Lst h1' D (ys++zs):=l1a.at fun o e=>o1' D o hDw e
  have a1a:=a1a.chg c1'
  refine wpAny_bind (wpAny_mono ((hT d hdm).assign _ v _ X (bd O1 hst1 s1a l1a) s1a had hmut) (fun zz s2a q=>?_) fun zz zz x=>x)
  obtain ⟨h2a,tk2,rfl,o2a,s2a,b2b⟩:=q
  have O2:=O1.trans (inM o2a)
  have hst2:St (i+1) h2a:=It.frame _ _ _ hst1 fun b hb o e=>o2a b o (hfm b hb) e
  have l2a:Lst h2a D (ys++zs):=l1a.at fun o e=>o2a D o hDm e
  have a2a:=a1a.chg (chgM s1a o2a)
  refine wpAny_bind (wpAny_mono (hts d hdm _ _ X (bd O2 hst2 s2a l2a) ⟨hI _ O2,b2b⟩) (fun ok s3a q=>?_) fun zz zz x=>x)
  obtain ⟨⟨h3a,tk3,rfl,k3a⟩,rfl⟩:=q
  have k3a:Ext h2a h3a:=k3a
  have O3:=O2.trans k3a.off
  have hst3:St (i+1) h3a:=It.frame _ _ _ hst2 fun b hb o e=>k3a b o e
  have s3a:S h3a:=hS.keep _ _ s2a fun b o e zz=>k3a b o e
  have l3a:Lst h3a D (ys++zs):=l2a.at fun o e=>k3a D o e
  have a3a:=a2a.chg k3a.chg
  have htake:ds.take (i+1)=ds.take i++[d]:=by rw[List.take_add_one,hd];rfl
  cases hp:p d with
  | false =>
   refine wpAny_pure ⟨rfl,ds.length+1 - (i+1),by grind,h3a,tk3,i+1,zs,rfl,hlt,rfl,hst3,s3a,l3a,by grind,?_,O3⟩
   rw[htake,outsOf_snoc,hp]
   simpa using a3a
  | true =>
   have hsz:(ys++zs).size≤b:=by rw[Array.size_append];grind
   refine wpAny_bind (wpAny_mono (hem d hdm hp _ _ X D (ys++zs) (bd O3 hst3 s3a l3a) ⟨hI _ O3,hBe _ _ _ _ k3a b2b⟩ s3a hD hDb (fun a m=>⟨hmut a m,hmb a m⟩) hDm l3a hsz) (fun zz s4a q=>?_) fun zz zz x=>x)
   obtain ⟨h4a,tk4,us,rfl,o4a,s4a,l4a,a4a⟩:=q
   have o4a:Off (D::mt) h3a h4a:=o4a
   have hus:us.size≤100:=by have:=a4a.length;have:=hout d hdm hp;simp at *;grind
   refine wpAny_pure ⟨rfl,ds.length+1 - (i+1),by grind,h4a,tk4,i+1,zs++us,rfl,hlt,rfl,?_,s4a,?_,?_,?_,O3.trans (o4a.mono fun q m=>m_l _ m)⟩
   ·exact It.frame _ _ _ hst3 fun b hb o e=>o4a b o (fun q=>(m_c q).elim (fun q=>hDf (q▸hb)) (hfm b hb)) e
   ·rw[← Array.append_assoc];exact l4a
   ·rw[Array.size_append];grind
   ·rw[htake,outsOf_snoc,hp,if_pos rfl,Array.toList_append]
    exact (a3a.chg (o4a.chg fun b hb=>(m_c hb).elim (fun e=>by rw[e];exact ⟨hD,mk (nl l3a)⟩) fun hb=>⟨hmut b hb,mk (hS.there _ s3a b hb)⟩)).append a4a
 ·have hin:i=ds.length:=by grind
  subst hin
  refine It.done _ _ _ hst fun h1a tk1 hk1=>wpAny_pure ?_
  have o1a:Off wr h' h1a:=hk1
  rw[List.take_length] at hat
  exact hR h1a tk1 zs (hoff.trans (inW o1a)) (keepW hst hk1 hs) (hl.at fun o e=>hk1 D o hDw e) (hat.chg (chgW hst o1a))
end
noncomputable def cEnv (scope:Scope) (cl:List (Str×Addr)) (C:Addr) (env:Env):Env :=
 { scope:=relabel scope env,locals:=C,globals:=env.globals,cells:=cellsFrom (C+1) scope.names cl,qual:=env.qual,func:=none,code:=env.code,frame:=env.frame,builtins:=env.builtins }
section
theorem newCompEnv {M:Model} {scope:Scope} {cl:List (Str×Addr)} {Q:Env→Shared→Prop}
  (h:Q { scope,locals:=s.heap.objs.size,globals:=env.globals,cells:=cellsFrom (s.heap.objs.size+1) scope.names cl,qual:=env.qual,func:=none,code:=env.code,frame:=env.frame,builtins:=env.builtins }
   { s with heap:=pushCells (s.heap.push { cls:=.type "dict",data:=.dict #[] }) scope.names }) :
  wpAny M A (newFunctionEnv scope env.globals cl [] env.qual none .none (some env)) Q E s:=by
 simp only[newFunctionEnv,Option.isSome_some,if_true]
 refine wpAny_bind (wpAny_alloc ?_)
 refine wpAny_bind (wpAny_layCells _ (fun name kind cells=>by cases hkc:kind == NameKind.cell <;> simp[hkc]) _ _ _ _ ?_)
 rw[show ({ s with heap:=s.heap.push { cls:=.type "dict",data:=.dict #[] } }:Shared).heap.objs.size=s.heap.objs.size+1 from Heap.size_push ..]
 refine wpAny_bind ?_
 rw[List.forIn_nil]
 exact wpAny_pure (wpAny_pure h)
structure ShpC (scope:Scope) (mt:Addr→List Addr) (S:Addr→Heap→Prop):Prop where
 shp:∀ C,Shp (mt C) (S C)
 low:∀ C a,a∈mt C→Nat.le C a
 self:∀ C,C∈mt C
 start:∀ H:Heap,S H.objs.size (pushCells (H.push { cls:=.type "dict",data:=.dict #[] }) scope.names)
 ns:∀ C h,S C h→∃ m,h.Ns C m
theorem comp_block {α:Type} {T:List Addr→Heap→Value→α→Prop} {elt target iter:Expr} {ifs:List Expr} {rest:List Comprehension} {scope:Scope} {pos:Pos} {cl:List (Str×Addr)} {p0a:Pos} {em:Env→Value→Sem Unit} {mt:Addr→List Addr} {S:Addr→Heap→Prop}
  {B:Addr→α→List Addr→Heap→Prop} {ds:List α} {it:Addr} {fp wr:List Addr} {St:Nat→Heap→Prop} {Mid:Nat→Value→Heap→Prop} {RR:Value→Addr→Result→Shared→Prop} {E:VSP}
  (p:α→Bool) (outs:α→List PyData) (up:Up I) (hC:ShpC scope mt S)
  (hturn:∀ cenv it acc,compTurn (.ListComp elt (⟨target,iter,ifs,0⟩::rest) scope pos) 0 it acc cenv=(do
   standAt p0a
   match ← pyNext it with
   | none=>pure (.done .next)
   | some v =>
    letOwnedTupleGo target it v
    assign target cenv v
    let mut ok:=true
    for c in ifs do
     if ok then ok ← isTrue c cenv (eval c cenv)
    if ok then
     em cenv acc
    again (.compLoop (.ListComp elt (⟨target,iter,ifs,0⟩::rest) scope pos) 0 it acc cenv)))
  (hT:∀ C,∀ d∈ds,TgtT prog w A T (cEnv scope cl C env) target (mt C) (S C) (B C d) d)
  (hts:∀ C,∀ d∈ds,Ts prog w A (cEnv scope cl C env) (fun X h=>I X h∧B C d X h) ifs (p d))
  (hem:∀ C,∀ d∈ds,p d=true→Em prog w A h0a 200000 (mt C) (S C) (fun X h=>I X h∧B C d X h) (em (cEnv scope cl C env)) (outs d))
  (hBe:∀ C d X h h',Ext h h'→B C d X h→B C d X h')
  (hlen:ds.length≤1000) (hout:∀ d∈ds,p d=true→(outs d).length≤100)
  (It:Iter T prog w A target X h0a h1a ds s it fp wr St Mid) (h01:Ext h0a h1a) (h1s:Ext h1a s.heap) (hX:Bd X h0a) (hI:I X h0a)
  (hRR:∀ D C h' tk items,s.heap.get? D=none→s.heap.get? C=none→D≠C→Ext h0a h'→(∃ m,h'.Ns C m)→Lst h' D items→D∉X→AtAll (C::X) h' items.toList (outsOf p outs ds)→RR (.ref D) C (.ok .next) { s with heap:=h',toks:=tk }) :
  wpAny (model prog w) A (newList []) (fun acc s3a=>wpAny (model prog w) A (newFunctionEnv scope env.globals cl [] env.qual none .none (some env)) (fun cenv s4a =>
   codeAny (model prog w) A (.compStart (.ListComp elt (⟨target,iter,ifs,0⟩::rest) scope pos) 0 (.ref it) acc { cenv with scope:=relabel scope env }) (RR acc cenv.locals) s4a) E s3a) E s:=by
 have h0:Ext h0a s.heap:=Ext.trans h01 h1s
 refine wpAny_newObj_type (newCompEnv ?_)
 dsimp only
 generalize hH:s.heap.push { cls:=.type "list",dict:=none,data:=.seq ([]:List Value).toArray }=H
 have hCs:H.objs.size=s.heap.objs.size+1:=by rw[← hH,Heap.size_push]
 generalize hG:pushCells (H.push { cls:=.type "dict",data:=.dict #[] }) scope.names=G
 have kHG:Ext H G:=fun b o e=>hG▸pushCells_keeps _ _ _ _ (Heap.get?_push_of_some _ e)
 have ksG:Ext s.heap G:=fun b o e=>kHG b o (hH▸Heap.get?_push_of_some _ e)
 have hDG:Lst G s.heap.objs.size #[]:=⟨0,by simpa using kHG _ _ (hH▸Heap.get?_push_size _ rfl)⟩
 have hSG:S H.objs.size G:=hG▸hC.start H
 have fresh:∀ {b:Addr} {o:Obj},s.heap.get? b=some o→b<s.heap.objs.size:=fun e=>Heap.lt_size e
 have hlow:∀ a∈mt H.objs.size,s.heap.objs.size<a:=fun a m=>by have h:H.objs.size≤a:=hC.low _ a m;omega
 have none_of:∀ a,s.heap.objs.size≤a→s.heap.get? a=none:=fun a h=>Heap.get?_none_of_le h
 have none0:∀ a,s.heap.get? a=none→h0a.get? a=none:=fun a e=>by
  cases q:h0a.get? a with
  | none=>rfl
  | some o=>rw[h0 _ _ q] at e;cases e
 have hfpl:∀ b∈fp,b<s.heap.objs.size:=fun b m=>by
  obtain ⟨o,e⟩:=It.there b m
  exact fresh e
 let X':=s.heap.objs.size::mt H.objs.size++wr++X
 have hX':Hid X X' h0a:=fun x m=>by
  rcases m_a m with m|m
  ·rcases m_a m with m|m
   ·rcases mC m with rfl|m
    ·exact .inr (none0 _ (size_none _))
    ·exact .inr (none0 _ (none_of _ (Nat.le_of_lt (hlow x m))))
   ·exact .inr (It.new x m)
  ·exact .inl m
 have hX1:∀ x∈X',x∈X∨x∈wr∨h1a.get? x=none:=fun x m=>by
  rcases m_a m with m|m
  ·rcases m_a m with m|m
   ·rcases mC m with rfl|m
    ·exact .inr (.inr (none_before h1s (size_none _)))
    ·exact .inr (.inr (none_before h1s (none_of _ (Nat.le_of_lt (hlow x m)))))
   ·exact .inr (.inl m)
  ·exact .inl m
 have It':Iter T prog w A target X' h0a h1a ds { s with heap:=G,toks:=s.toks } it fp wr St Mid :=
  ⟨It.stab,It.sub,It.frame,It.next,It.done,It.self,It.frame _ _ _ It.st fun b m o e=>ksG b o e,fun b m=>by
   obtain ⟨o,e⟩:=It.there b m
   exact ⟨o,ksG _ _ e⟩,It.new,fun b m=>by
   rcases It.apart b m with q|q|q
   ·exact .inl q
   ·by_cases z:b∈wr
    ·exact .inl z
    ·refine .inr (.inl fun y=>?_)
     rcases m_a y with y|y
     ·rcases m_a y with y|y
      ·rcases mC y with rfl|y
       ·exact Nat.lt_irrefl _ (hfpl _ m)
       ·exact Nat.lt_irrefl _ (Nat.lt_trans (hfpl b m) (hlow b y))
      ·exact z y
     ·exact q y
   ·exact .inr (.inr q),It.cls,It.mcls,fun i v h X'' hv hd c=>It.item i v h X'' hv (fun x m=>(hd x m).elim (hX1 x) .inr) c,It.go⟩
 have hBd:Bd X' G:=fun x m=>by
  rcases m_a m with m|m
  ·rcases m_a m with m|m
   ·rcases mC m with rfl|m
    ·exact by
      obtain ⟨o,e⟩:=hDG
      exact ⟨_,e⟩
    ·exact exl ((hC.shp _).there _ hSG x m)
   ·exact exl (It'.cls _ _ It'.st x m)
  ·exact (hX.ext (Ext.trans h0 ksG)) x m
 have offExt:∀ {h:Heap},Off (s.heap.objs.size::mt H.objs.size++wr) G h→Ext h0a h:=fun k b o e=>k b o (fun m=>by
  have eb:=Ext.trans h0 ksG b o e
  have lb:=fresh (h0 b o e)
  rcases m_a m with m|m
  ·rcases mC m with rfl|m
   ·exact Nat.lt_irrefl _ lb
   ·exact Nat.lt_irrefl _ (Nat.lt_trans lb (hlow b m))
  ·rw[It.new b m] at e;cases e) (Ext.trans h0 ksG b o e)
 have loop:codeAny (model prog w) A (.compLoop (.ListComp elt (⟨target,iter,ifs,0⟩::rest) scope pos) 0 (.ref it) (.ref s.heap.objs.size) (cEnv scope cl H.objs.size env)) (RR (.ref s.heap.objs.size) H.objs.size) { s with heap:=G,toks:=s.toks }:=by
  refine comp_loop (X:=X') (mt:=mt H.objs.size) (S:=S H.objs.size) (I:=I) (B:=B H.objs.size) (em:=em (cEnv scope cl H.objs.size env)) (ys:=#[]) p outs (hturn _) (hC.shp _) (hT _) (hts _) (hem _) (hBe _) hlen hout (by decide) It' (Ext.trans h1s ksG) hBd
   (m_l _ (m_l _ (.head _))) (fun a m=>m_l _ (m_l _ (.tail _ m))) (fun a m=>m_l _ (m_r _ m))
   (fun m=>Nat.lt_irrefl _ (hlow _ m)) (none0 _ (size_none _)) (fun a m=>none0 _ (none_of _ (Nat.le_of_lt (hlow a m)))) (fun m=>Nat.lt_irrefl _ (hfpl _ m)) (fun b m q=>Nat.lt_irrefl _ (Nat.lt_trans (hfpl b m) (hlow b q))) hSG hDG (fun h k=>up _ _ _ _ (offExt k) hX' hI) fun h' tk zs k hs hl ha=>?_
  refine hRR s.heap.objs.size H.objs.size h' tk zs (size_none _) (none_of _ (by rw[hCs];exact Nat.le_succ _)) (by rw[hCs];exact Nat.ne_of_lt (Nat.lt_succ_self _)) (offExt k) (hC.ns _ _ hs) (by simpa using hl) (fun m=>?_) (ha.hid fun x m=>.inl ?_)
  ·obtain ⟨o,e⟩:=hX _ m
   rw[none0 _ (size_none _)] at e;cases e
  ·rcases mC m with rfl|m
   ·exact m_l _ (m_l _ (.tail _ (hC.self _)))
   ·exact m_r _ m
 refine codeAny_compStart_list loop (It'.self 0 _ _ _ It'.st loop)
theorem comp_new {α:Type} {T:List Addr→Heap→Value→α→Prop} {elt target iter:Expr} {ifs:List Expr} {rest:List Comprehension} {scope:Scope} {pos:Pos} {cl:List (Str×Addr)} {p0a:Pos} {em:Env→Value→Sem Unit} {mt:Addr→List Addr} {S:Addr→Heap→Prop}
  {B:Addr→α→List Addr→Heap→Prop} {ds:List α}
  (p:α→Bool) (outs:α→List PyData) (up:Up I) (hC:ShpC scope mt S) (hclos:closureFor scope env=pure cl)
  (hkind:scope.kind=.function) (hnames:∀ x∈scope.names,x.2=.local→scope.names.lookup x.1=some .local)
  (hsrc:Src T prog w A env I target iter ds)
  (hturn:∀ cenv it acc,compTurn (.ListComp elt (⟨target,iter,ifs,0⟩::rest) scope pos) 0 it acc cenv=(do
   standAt p0a
   match ← pyNext it with
   | none=>pure (.done .next)
   | some v =>
    letOwnedTupleGo target it v
    assign target cenv v
    let mut ok:=true
    for c in ifs do
     if ok then ok ← isTrue c cenv (eval c cenv)
    if ok then
     em cenv acc
    again (.compLoop (.ListComp elt (⟨target,iter,ifs,0⟩::rest) scope pos) 0 it acc cenv)))
  (hT:∀ C,∀ d∈ds,TgtT prog w A T (cEnv scope cl C env) target (mt C) (S C) (B C d) d)
  (hts:∀ C,∀ d∈ds,Ts prog w A (cEnv scope cl C env) (fun X h=>I X h∧B C d X h) ifs (p d))
  (hem:∀ C,∀ d∈ds,p d=true→Em prog w A s.heap 200000 (mt C) (S C) (fun X h=>I X h∧B C d X h) (em (cEnv scope cl C env)) (outs d))
  (hBe:∀ C d X h h',Ext h h'→B C d X h→B C d X h')
  (hlen:ds.length≤1000) (hout:∀ d∈ds,p d=true→(outs d).length≤100) (hX:Bd X s.heap) (hI:I X s.heap)
  (hs:∀ x,foldedSetIterable iter env x=pure x:=by intro _;rfl) :
  wpAny (model prog w) A (eval (.ListComp elt (⟨target,iter,ifs,0⟩::rest) scope pos) env) (fun v s'=>Keeps s s'∧∃ D items,v=.ref D∧s.heap.get? D=none∧D∉X∧Lst s'.heap D items∧AtAll X s'.heap items.toList (outsOf p outs ds)) E s:=by
 rw[eval_ListComp]
 refine wpAny_comprehension_free (use:=none) rfl hs hclos hkind hnames (hsrc.wp hX hI fun v s1a k1a r=>r _ _ fun it fp wr St Mid s2a k2a It=>?_)
 refine comp_block (RR:=fun acc C=>compPost (model prog w) A E none _ acc C) p outs up hC hturn hT hts hem hBe hlen hout It (kp_ext k1a) (kp_ext k2a) hX hI fun D C h' tk items hD hCn hDC k hn hl hDX ha=>?_
 obtain ⟨m,hn⟩:=hn
 have hC0:=none_before (kp_ext k1a) (none_before (kp_ext k2a) hCn)
 refine ⟨m,hn,fun h'' hs''=>⟨?_,D,items,rfl,none_before (kp_ext k1a) (none_before (kp_ext k2a) hD),hDX,hl.at fun o e=>hs''.extBut _ _ hDC e,?_⟩⟩
 ·obtain ⟨g1a,t1a,rfl,e1a⟩:=k1a
  obtain ⟨g2a,t2a,rfl,e2a⟩:=k2a
  exact ⟨h'',tk,rfl,fun b o e=>hs''.extBut b o (fun q=>by rw[q] at e;have e:s.heap.get? C=some o:=e;rw[show s.heap.get? C=none from hC0] at e;cases e) (k b o e)⟩
 ·have hoff:Off [C] h' h'':=fun b o n e=>hs''.extBut b o (fun q=>n (q▸List.mem_singleton_self _)) e
  refine (ha.chg (hoff.chg fun b hb=>?_)).hid Hid.less
  rw[m_s hb]
  refine ⟨.head _,fun o e=>?_⟩
  obtain ⟨o',_,_,e',hd,_⟩:=hn
  rw[e] at e';cases e'
  exact not_tup_of_dict hd
theorem ev_comp {α:Type} {T:List Addr→Heap→Value→α→Prop} {elt target iter:Expr} {ifs:List Expr} {rest:List Comprehension} {scope:Scope} {pos:Pos} {cl:List (Str×Addr)} {p0a:Pos} {em:Env→Value→Sem Unit} {mt:Addr→List Addr} {S:Addr→Heap→Prop}
  {B:Addr→α→List Addr→Heap→Prop} {ds:List α}
  (p:α→Bool) (outs:α→List PyData) (up:Up I) (hC:ShpC scope mt S) (hclos:closureFor scope env=pure cl)
  (hkind:scope.kind=.function) (hnames:∀ x∈scope.names,x.2=.local→scope.names.lookup x.1=some .local)
  (hsrc:Src T prog w A env I target iter ds)
  (hturn:∀ cenv it acc,compTurn (.ListComp elt (⟨target,iter,ifs,0⟩::rest) scope pos) 0 it acc cenv=(do
   standAt p0a
   match ← pyNext it with
   | none=>pure (.done .next)
   | some v =>
    letOwnedTupleGo target it v
    assign target cenv v
    let mut ok:=true
    for c in ifs do
     if ok then ok ← isTrue c cenv (eval c cenv)
    if ok then
     em cenv acc
    again (.compLoop (.ListComp elt (⟨target,iter,ifs,0⟩::rest) scope pos) 0 it acc cenv)))
  (hT:∀ C,∀ d∈ds,TgtT prog w A T (cEnv scope cl C env) target (mt C) (S C) (B C d) d)
  (hts:∀ C,∀ d∈ds,Ts prog w A (cEnv scope cl C env) (fun X h=>I X h∧B C d X h) ifs (p d))
  (hem:∀ hb Xb,I Xb hb→∀ C,∀ d∈ds,p d=true→Em prog w A hb 200000 (mt C) (S C) (fun X h=>I X h∧B C d X h) (em (cEnv scope cl C env)) (outs d))
  (hBe:∀ C d X h h',Ext h h'→B C d X h→B C d X h')
  (hlen:ds.length≤1000) (hout:∀ d∈ds,p d=true→(outs d).length≤100)
  (hs:∀ x,foldedSetIterable iter env x=pure x:=by intro _;rfl) :
  Ev prog w A env I (.ListComp elt (⟨target,iter,ifs,0⟩::rest) scope pos) (.list (outsOf p outs ds)):=fun s E X hX hI=>by
 exact wpAny_mono (comp_new p outs up hC hclos hkind hnames hsrc hturn hT hts (hem _ _ hI) hBe hlen hout hX hI (hs:=hs)) (fun v s'=>by
  rintro ⟨k,D,items,e,_,hD,l,a⟩
  exact ⟨k,by rw[e];exact .list hD l.isList a⟩) fun zz zz x=>x
end
noncomputable abbrev S0 (C:Addr) (h:Heap):Prop:=∃ m,h.Ns C m
noncomputable abbrev S1 (C:Addr) (h:Heap):Prop:=(∃ m,h.Ns C m)∧∃ v,h.IsCell (C+1) v
theorem ns_not_tup {m:Str→Option Value} (hn:h.Ns C m):∃ o,h.get? C=some o∧¬ TupObj o:=by
 obtain ⟨o,_,_,e,hd,_⟩:=hn
 exact ⟨o,e,not_tup_of_dict hd⟩
theorem cell_not_tup {v:Option Value} (hn:h.IsCell C v):∃ o,h.get? C=some o∧¬ TupObj o:=by
 obtain ⟨o,e,hd⟩:=hn
 exact ⟨o,e,not_tup_of_cell hd⟩
theorem pushCells_none:∀ {names:List (Str×NameKind)},(∀ x∈names,x.2≠.cell)→pushCells h names=h
 | [],_=>rfl
 | (n,k)::r,hc=>by
  have:(k == NameKind.cell)=false:=by simpa using hc _ (.head _)
  unfold pushCells
  rw[this,if_neg (by decide)]
  exact pushCells_none fun x m=>hc x (.tail _ m)
theorem shp_ns (C:Addr):Shp [C] (S0 C) where
 keep:=fun h h'=>by
  rintro ⟨m,hn⟩ k
  exact ⟨m,hn.at' fun o e=>k C o e (.inl (.head _))⟩
 there:=fun h=>by
  rintro ⟨m,hn⟩ b hb
  rw[m_s hb];exact ns_not_tup hn
theorem shp0 {scope:Scope} (hc:∀ x∈scope.names,x.2≠.cell):ShpC scope (fun C=>[C]) S0 where
 shp:=shp_ns
 low:=fun C a m=>by rw[m_s m];exact Nat.le_refl _
 self:=fun C=>.head _
 start:=fun H=>by rw[pushCells_none hc];exact ⟨_,Heap.Ns.new H (.type "dict")⟩
 ns:=fun zz zz h=>h
theorem shp1 {scope:Scope} (hc:∀ H:Heap,pushCells H scope.names=H.push { cls:=.type "cell",data:=.cell none }):ShpC scope (fun C=>[C,C+1]) S1 where
 shp:=fun C=>⟨fun h h'=>by
  rintro ⟨⟨m,hn⟩,v,hv⟩ k
  exact ⟨⟨m,hn.at' fun o e=>k C o e (.inl (.head _))⟩,v,by
   obtain ⟨o,e,d⟩:=hv
   exact ⟨o,k _ o e (.inl (.tail _ (.head _))),d⟩⟩,
  fun h=>by
   rintro ⟨⟨m,hn⟩,v,hv⟩ b hb
   rcases mC hb with rfl|hb
   ·exact ns_not_tup hn
   ·rw[m_s hb];exact cell_not_tup hv⟩
 low:=fun C a m=>by
  rcases mC m with rfl|m
  ·exact Nat.le_refl _
  ·rw[m_s m];exact Nat.le_succ _
 self:=fun C=>.head _
 start:=fun H=>by
  rw[hc]
  refine ⟨⟨_,(Heap.Ns.new H (.type "dict")).keeps fun b o e=>Heap.get?_push_of_some _ e⟩,none,?_⟩
  have:(H.push { cls:=.type "dict",data:=.dict #[] }).objs.size=H.objs.size+1:=Heap.size_push ..
  exact ⟨_,this▸Heap.get?_push_size _ rfl,rfl⟩
 ns:=fun zz zz h=>h.1
section
structure LocEnv (cenv:Env) (L:Addr):Prop where
 kind:cenv.scope.kind=.function
 loc:cenv.locals=L
theorem LocEnv.p (x:LocEnv cenv L):(cenv.scope.kind == .class || (cenv.scope.kind == .module && cenv.locals != cenv.globals))=false:=by rw[x.kind];rfl
theorem LocEnv.name {x:Str} (e:LocEnv cenv L) (hx:cenv.kindOf x=some .local) {m:Str→Option Value} (hn:h.Ns L m) (hm:m x=some v) (hd:(x == ("__debug__":Str))=false:=by decide):NameIs h cenv x v :=
 ⟨e.kind,hd,.inl ⟨hx,m,e.loc▸hn,hm⟩⟩
theorem store_local {x:Str} {Q:Unit→Shared→Prop} {m:Str→Option Value} (e:LocEnv cenv L) (hx:cenv.kindOf x=some .local) (hn:s.heap.Ns L m)
  (k:∀ h',h'.Ns L (fun y=>if y=x then some v else m y)→Off [L] s.heap h'→Q () { s with heap:=h',toks:=s.toks+1 }):wpAny (model prog w) A (storeName cenv x v) Q E s:=by
 obtain ⟨a,rfl⟩:=e
 exact wpAny_storeName_local hx hn (fun h' hn' hs=>k h' hn' fun b o n q=>hs.extBut b o (fun z=>n (z▸List.mem_singleton_self _)) q) (LocEnv.p ⟨a,rfl⟩)
noncomputable def four (a b c d:Addr):Nat→Addr|0=>a|1=>b|2=>c|_=>d
theorem lt3 {P:Nat→Prop} (a:P 0) (b:P 1) (c:P 2) (h:j<3):P j:=by
 rcases j with _|_|_|j
 ·exact a
 ·exact b
 ·exact c
 ·exact absurd h (Nat.not_lt.mpr (Nat.le_add_left 3 j))
theorem lt5 {P:Nat→Prop} (a:P 0) (b:P 1) (c:P 2) (d:P 3) (e:P 4) (h:j<5):P j:=by
 rcases j with _|_|_|_|_|j
 ·exact a
 ·exact b
 ·exact c
 ·exact d
 ·exact e
 ·exact absurd h (Nat.not_lt.mpr (Nat.le_add_left 5 j))
theorem lt4 {P:Nat→Prop} (a:P 0) (b:P 1) (c:P 2) (d:P 3) (h:j<4):P j :=
 (Nat.lt_or_ge j 3).elim (lt3 a b c) fun q=>Nat.le_antisymm (Nat.le_of_lt_succ h) q▸d
theorem inj3 {f:Nat→Addr} (a:f 0≠f 1) (b:f 0≠f 2) (c:f 1≠f 2) {i:Nat} (hi:i<3) (hj:j<3):f i=f j→i=j :=
 lt3 (P:=fun i=>f i=f j→i=j) (lt3 (P:=fun j=>f 0=f j→0=j) (fun zz=>rfl) (fun e=>absurd e a) (fun e=>absurd e b) hj)
  (lt3 (P:=fun j=>f 1=f j→1=j) (fun e=>absurd e.symm a) (fun zz=>rfl) (fun e=>absurd e c) hj) (lt3 (P:=fun j=>f 2=f j→2=j) (fun e=>absurd e.symm b) (fun e=>absurd e.symm c) (fun zz=>rfl) hj) hi
theorem inj4 {f:Nat→Addr} (a:f 0≠f 1) (b:f 0≠f 2) (c:f 1≠f 2) (x:f 0≠f 3) (y:f 1≠f 3) (z:f 2≠f 3) {i:Nat} (hi:i<4) (hj:j<4) (e:f i=f j):i=j:=by
 rcases Nat.lt_or_ge i 3 with p|p
 ·rcases Nat.lt_or_ge j 3 with q|q
  ·exact inj3 a b c p q e
  ·have:=Nat.le_antisymm (Nat.le_of_lt_succ hj) q
   subst this
   exact absurd e (lt3 (P:=fun i=>f i≠f 3) x y z p)
 ·have:=Nat.le_antisymm (Nat.le_of_lt_succ hi) p
  subst this
  exact lt4 (P:=fun j=>f 3=f j→3=j) (fun e=>absurd e.symm x) (fun e=>absurd e.symm y) (fun e=>absurd e.symm z) (fun zz=>rfl) hj e
theorem chg_ns {m:Str→Option Value} (hn:h.Ns L m) (hL:L∈X) (k:Off [L] h h'):Chg X h h':=k.chg fun b hb=>by
 rw[m_s hb]
 obtain ⟨o,q,nt⟩:=ns_not_tup hn
 exact ⟨hL,fun o' q'=>by rw[q] at q';cases q';exact nt⟩
theorem eo_off (n:h.get? a=none) (k:Heap.ExtBut a h h'):Ext h h':=fun b o e=>k b o (fun q=>by rw[q,n] at e;cases e) e
end
inductive VD where
 | dat (d:PyData)
 | val (v:Value)
noncomputable def VD.at (X:List Addr) (h:Heap) (v:Value):VD→Prop
 | .dat d=>At X h v d
 | .val u=>v=u
theorem VD.chg {D:VD} (k:Chg X h h') (x:D.at X h v):D.at X h' v:=by
 cases D with
 | dat d=>exact At.chg x k
 | val u=>exact x
theorem VD.hid {D:VD} (k:Hid X X' h) (x:D.at X h v):D.at X' h v:=by
 cases D with
 | dat d=>exact At.hid x k
 | val u=>exact x
noncomputable def Loc (L:Addr) (ρ:List (Str×VD)) (X:List Addr) (h:Heap):Prop :=
 ∃ m,h.Ns L m∧∀ x D,ρ.lookup x=some D→∃ v,m x=some v∧D.at X h v
section
theorem Loc.ns (l:Loc L ρ X h):∃ m,h.Ns L m:=by obtain ⟨m,a,_⟩:=l;exact ⟨m,a⟩
theorem Loc.there (l:Loc L ρ X h):∃ o,h.get? L=some o∧¬ TupObj o:=by obtain ⟨m,a⟩:=l.ns;exact ns_not_tup a
theorem Loc.off {M:List Addr} (l:Loc L ρ X h) (k:Off M h h') (hL:L∉M) (hM:∀ b∈M,b∈X∧∀ o,h.get? b=some o→¬ TupObj o):Loc L ρ X h' :=
 by
  obtain ⟨m,a,b⟩:=l
  exact ⟨m,a.at' fun o e=>k _ o hL e,fun x D e=>by
   obtain ⟨v,p,q⟩:=b x D e
   exact ⟨v,p,VD.chg (k.chg hM) q⟩⟩
theorem Loc.ext (l:Loc L ρ X h) (k:Ext h h'):Loc L ρ X h' :=
 by
  obtain ⟨m,a,b⟩:=l
  exact ⟨m,a.at' fun o e=>k _ o e,fun x D e=>by
   obtain ⟨v,p,q⟩:=b x D e
   exact ⟨v,p,VD.chg k.chg q⟩⟩
theorem Loc.hid (l:Loc L ρ X h) (k:Hid X X' h):Loc L ρ X' h :=
 by
  obtain ⟨m,a,b⟩:=l
  exact ⟨m,a,fun x D e=>by
   obtain ⟨v,p,q⟩:=b x D e
   exact ⟨v,p,VD.hid k q⟩⟩
theorem Loc.sub (l:Loc L ρ X h) (k:∀ x D,ρ'.lookup x=some D→ρ.lookup x=some D):Loc L ρ' X h :=
 by
  obtain ⟨m,a,b⟩:=l
  exact ⟨m,a,fun x D e=>b x D (k x D e)⟩
theorem up_loc:Up (Loc L ρ):=fun X X' h h' k q l=>(l.hid q).ext k
theorem Loc.set {x:Str} {D:VD} {m m':Str→Option Value} (hn:h.Ns L m) (hr:∀ x D,ρ.lookup x=some D→∃ v,m x=some v∧D.at X h v) (hd:D.at X h v) (hL:L∈X) (k:Off [L] h h') (hn':h'.Ns L (fun y=>if y=x then some v else m y)) :
  Loc L ((x,D)::ρ) X h':=by
 have c:=chg_ns hn hL k
 refine ⟨_,hn',fun y E e=>?_⟩
 rw[List.lookup_cons] at e
 by_cases q:y=x
 ·subst q
  simp at e
  subst e
  exact ⟨v,by simp,VD.chg c hd⟩
 ·have:(y == x)=false:=by simpa using q
  rw[this] at e
  obtain ⟨u,p,z⟩:=hr y E e
  exact ⟨u,by simp[q,p],VD.chg c z⟩
end
section
noncomputable abbrev NR (prog:Program) (w:World) {α:Type} (A:Around) (t:Sem α) (Q:α→Shared→Prop) (s:Shared):Prop:=wpAny (model prog w) A t Q (fun zz zz=>False) s
noncomputable abbrev Nx (M:Model) (A:Around) (env:Env) (xs:List Stmt) (Q:FSP) (E:VSP) (f:Flow) (s:Shared):Prop:=match f with
 | .next=>wpAny M A (execs xs env) Q E s
 | f=>Q f s
theorem xc {M:Model} {x:Stmt} {xs:List Stmt} {Q:FSP} (h:wpAny M A (exec x env) (Nx M A env xs Q E) E s):wpAny M A (execs (x::xs) env) Q E s :=
 wpAny_execs_cons (wpAny_mono h (fun f zz q=>by cases f <;> exact q) fun zz zz e=>e)
theorem hideQ {α:Type} {t:Sem α} {Q0:α→Shared→Prop} (h:∀ Q:α→Shared→Prop,(∀ a s',Q0 a s'→Q a s')→NR prog w A t Q s):NR prog w A t Q0 s:=h Q0 fun zz zz x=>x
theorem ev_loc {x:Str} {pos:Pos} (le:LocEnv env L) (hx:env.kindOf x=some .local) (hI:∀ X h,I X h→Loc L ρ X h) (hl:ρ.lookup x=some (.dat d)) (hd:(x == ("__debug__":Str))=false:=by decide):Ev prog w A env I (.Name x pos) d :=
 ev_name fun X h i=>by
  obtain ⟨m,a,b⟩:=hI X h i
  obtain ⟨v,p,q⟩:=b x _ hl
  exact ⟨v,le.name hx a p hd,q⟩
theorem ev_locv {x:Str} {pos:Pos} (le:LocEnv env L) (hx:env.kindOf x=some .local) (hI:∀ X h,I X h→Loc L ρ X h) (hl:ρ.lookup x=some (.val u)) (hd:(x == ("__debug__":Str))=false:=by decide):EvR prog w A env I (.Name x pos) (fun zz zz v=>v=u) :=
 ev_nameR fun X h i=>by
  obtain ⟨m,a,b⟩:=hI X h i
  obtain ⟨v,p,q⟩:=b x _ hl
  exact ⟨v,le.name hx a p hd,q⟩
theorem asg {x:Str} {px pos:Pos} {e:Expr} {Q:FSP} (hev:Ev prog w A env I e d) (hX:Bd X s.heap) (hI:I X s.heap) (le:LocEnv env L) (hx:env.kindOf x=some .local)
  (hl:Loc L ρ X s.heap) (hL:L∈X) (k:∀ h' tk,Off [L] s.heap h'→Loc L ((x,.dat d)::ρ) X h'→Q .next { s with heap:=h',toks:=tk })
  (hs:swapsWith e (some (.Name x px)) pos.line env=pure false:=by rfl):NR prog w A (exec (.Assign [.Name x px] e pos) env) Q s :=
 wpAny_Assign_Name (hs:=hs) (hev.wp hX hI fun v s1a k1a r=>by
  obtain ⟨h1a,tk,rfl,e1a⟩:=k1a
  obtain ⟨m,hn,hr⟩:=hl.ext e1a
  refine store_local le hx hn fun h' hn' ko=>?_
  exact k h' _ ((Ext.off e1a).trans ko) (Loc.set (D:=.dat d) (m':=m) hn hr r hL ko hn'))
theorem ret {e:Expr} {pos:Pos} {Q:FSP} {R:List Addr→Heap→Value→Prop} (hev:EvR prog w A env I e R) (hX:Bd X s.heap) (hI:I X s.heap)
  (k:∀ v s',Keeps s s'→R X s'.heap v→Q (.ret v) s'):NR prog w A (exec (.Return (some e) pos) env) Q s:=wpAny_Return_some (hev.wp hX hI k)
theorem ifs {t:Expr} {x y:List Stmt} {pos:Pos} {b:Bool} {Q:FSP} (ht:Tr prog w A env I t b) (hX:Bd X s.heap) (hI:I X s.heap)
  (k:∀ s',Keeps s s'→if b then NR prog w A (execs x env) Q s' else NR prog w A (execs y env) Q s'):NR prog w A (exec (.If t x y pos) env) Q s :=
 wpAny_If (ht.wp hX hI fun s' ks=>by cases b <;> exact k s' ks)
theorem for_zone {α:Type} {T:List Addr→Heap→Value→α→Prop} {target iter:Expr} {body:List Stmt} {pos:Pos} {M:List Addr} {ds:List α} {Inv:Heap→Nat→List Addr→Heap→Prop} {Q:FSP}
  (hsrc:Src T prog w A env I target iter ds) (hX:Bd X s.heap) (hI:I X s.heap)
  (hM:∀ b∈M,b∈X∧∃ o,s.heap.get? b=some o)
  (start:∀ h X',Ext s.heap h→Hid X X' s.heap→(∀ x∈X,x∈X')→Inv h 0 X' h)
  (nt:∀ hs i X' h,Inv hs i X' h→∀ b∈M,∃ o,h.get? b=some o∧¬ TupObj o)
  (stab:∀ hs i X' h h' Wr,Ext s.heap hs→Inv hs i X' h→(∀ b∈Wr,b∈X'∧s.heap.get? b=none∧∀ o,h.get? b=some o→¬ TupObj o)→Off Wr h h'→(∀ b∈Wr,∃ o,hs.get? b=some o)→Inv hs i X' h')
  (turn:∀ hs i d v h' tk X',Ext s.heap hs→ds[i]?=some d→T X' h' v d→Bd X' h'→Hid X X' s.heap→(∀ x∈X,x∈X')→Off M s.heap h'→(∀ b o,hs.get? b=some o→∃ o',h'.get? b=some o')→Inv hs i X' h' →
   NR prog w A (assign target env v) (fun zz s1a=>NR prog w A (execs body env) (fun f s2a=>(match f with
    | .next|.cont=>∃ h2a tk2,s2a={ s with heap:=h2a,toks:=tk2 }∧(∀ b o,b∉M→(∃ o',hs.get? b=some o')→h'.get? b=some o→h2a.get? b=some o)∧Inv hs (i+1) X' h2a
    | .brk=>Q .next s2a
    | .ret v=>Q (.ret v) s2a:Prop)) s1a) { s with heap:=h',toks:=tk })
  (done:∀ hs h' tk X',Ext s.heap hs→Bd X h'→(∀ x∈X,x∈X')→Off M s.heap h'→Inv hs ds.length X' h'→Q .next { s with heap:=h',toks:=tk })
  (hs:∀ x,foldedSetIterable iter env x=pure x:=by intro _;rfl):NR prog w A (exec (.For target iter body [] pos) env) Q s:=by
 refine wpAny_For (hs:=hs) (hsrc.wp hX hI fun xv s1a k1a r=>r _ _ fun it fp wr St Mid s2a k2a It=>?_)
 obtain ⟨h1a,t1a,rfl,e1a⟩:=k1a
 obtain ⟨h2a,t2a,rfl,e2a⟩:=k2a
 have e1a:Ext s.heap h1a:=e1a
 have e2a:Ext h1a h2a:=e2a
 dsimp only at It ⊢
 have wnone:∀ b∈wr,s.heap.get? b=none:=It.new
 have hMw:∀ b∈M,b∉wr:=fun b m q=>by obtain ⟨_,o,e⟩:=hM b m;rw[wnone b q] at e;cases e
 let X':=wr++X
 have hX':Hid X X' s.heap:=fun x m=>(m_a m).elim (fun m=>.inr (wnone x m)) .inl
 have hX1:∀ x∈X',x∈X∨x∈wr∨h1a.get? x=none:=fun x m=>(m_a m).elim (fun m=>.inr (.inl m)) .inl
 have sub:∀ x∈X,x∈X':=fun x m=>m_r _ m
 have mk:∀ {h:Heap} {b:Addr},(∃ o,h.get? b=some o∧¬ TupObj o)→∀ o,h.get? b=some o→¬ TupObj o:=by
  rintro h b ⟨o,e,n⟩ o' e'
  rw[e] at e';cases e';exact n
 have nt0:=nt _ 0 X' s.heap (start _ _ (Ext.refl _) hX' sub)
 have hMf:∀ b∈fp,b∉M:=fun b m q=>by
  rcases It.apart b m with z|z|⟨o,e,t⟩
  ·exact hMw b q z
  ·exact z (hM b q).1
  ·obtain ⟨o',e',n⟩:=nt0 b q
   have:=e1a _ _ e'
   rw[e] at this;cases this
   exact n t
 have bd:∀ {h:Heap} {i j:Nat},Off (M++wr) s.heap h→St i h→Inv h2a j X' h→Bd X' h:=fun k hst hin b hb=>by
  by_cases hw:b∈wr
  ·exact exl (It.cls _ _ hst b hw)
  ·by_cases hm:b∈M
   ·exact exl (nt _ _ _ _ hin b hm)
   ·have hbX:b∈X:=(m_a hb).elim (fun z=>absurd z hw) id
    obtain ⟨o,e⟩:=hX b hbX
    exact ⟨o,k b o (fun z=>(m_a z).elim hm hw) e⟩
 have offM:∀ {h:Heap},Off (M++wr) s.heap h→Off M s.heap h:=fun k b o n e=>k b o (fun z=>(m_a z).elim n (fun y=>by rw[wnone b y] at e;cases e)) e
 have chg:∀ {h:Heap},Off (M++wr) h2a h→Chg X' h2a h:=fun k=>k.chg fun b hb=>by
  rcases m_a hb with hb|hb
  ·exact ⟨sub _ (hM b hb).1,fun o e=>by
    obtain ⟨o',e',n⟩:=nt0 b hb
    have:=e2a _ _ (e1a _ _ e')
    rw[e] at this;cases this
    exact n⟩
  ·exact ⟨m_l _ hb,mk (It.cls _ _ It.st b hb)⟩
 refine codeAny_forLoop_any (fun k s'=>∃ h' tk i,s'={ s with heap:=h',toks:=tk }∧i≤ds.length∧k=ds.length+1 - i∧St i h'∧Inv h2a i X' h'∧Off (M++wr) h2a h') ?_ (ds.length+1)
  ⟨h2a,t2a,0,rfl,Nat.zero_le _,rfl,It.st,start _ _ (Ext.trans e1a e2a) hX' sub,fun zz zz zz e=>e⟩
 rintro k s' ⟨h',tk,i,rfl,hi,rfl,hst,hin,hoff⟩
 have hoff0:Off (M++wr) s.heap h':=(Ext.off (Ext.trans e1a e2a)).trans hoff
 by_cases hlt:i<ds.length
 ·refine It.next i _ _ _ hlt hst fun v h3a tk3 hmid o3a=>?_
  have o3a:Off wr h' h3a:=o3a
  refine It.go i v _ _ _ hmid fun h3' hst3 o3'=>?_
  have o3':Off wr h3a h3':=o3'
  have cm:Chg X' h3a h3':=o3'.chg fun b hb=>⟨m_l _ hb,mk (It.mcls _ _ _ hmid b hb)⟩
  have O3m:Off (M++wr) h2a h3a:=hoff.trans (o3a.mono fun q m=>m_r _ m)
  obtain ⟨d,hd,had⟩:=It.item i v h3a X' hmid hX1 fun b o e q=>chg O3m b o (e2a b o e) q
  have had:=It.stab _ _ _ _ _ had cm
  have o3a:Off wr h' h3':=o3a.trans o3'
  have O3:Off (M++wr) h2a h3':=hoff.trans (o3a.mono fun q m=>m_r _ m)
  have O3':Off (M++wr) s.heap h3':=(Ext.off (Ext.trans e1a e2a)).trans O3
  have wthere:∀ b∈wr,∃ o,h2a.get? b=some o:=fun b m=>It.there b (It.sub b m)
  have hin3:=stab h2a i X' h' h3' wr (Ext.trans e1a e2a) hin (fun b m=>⟨m_l _ m,wnone b m,mk (It.cls _ _ hst b m)⟩) o3a wthere
  refine wpAny_noRaise ?_
  refine wpAny_mono (turn h2a i d v h3' tk3 X' (Ext.trans e1a e2a) hd had (bd O3' hst3 hin3) hX' sub (offM O3') (fun b ob eb=>by
   by_cases hw:b∈wr
   ·exact exl (It.cls _ _ hst3 b hw)
   ·by_cases hm:b∈M
    ·exact exl (nt _ _ _ _ hin3 b hm)
    ·exact ⟨ob,O3 b ob (fun z=>(m_a z).elim hm hw) eb⟩) hin3) (fun zz s4a q=>?_) fun zz zz x=>x.elim
  refine wpAny_noRaise (wpAny_mono q (fun f s5a q=>?_) fun zz zz x=>x)
  have fin:(∃ h2' tk2,s5a={ s with heap:=h2',toks:=tk2 }∧(∀ b o,b∉M→(∃ o',h2a.get? b=some o')→h3'.get? b=some o→h2'.get? b=some o)∧Inv h2a (i+1) X' h2')→∃ m,m<ds.length+1 - i∧∃ h' tk j,s5a={ s with heap:=h',toks:=tk }∧j≤ds.length∧m=ds.length+1 - j∧St j h'∧Inv h2a j X' h'∧Off (M++wr) h2a h':=by
   rintro ⟨h5,tk5,rfl,o5a,hin5⟩
   exact ⟨ds.length+1 - (i+1),by omega,h5,tk5,i+1,rfl,hlt,rfl,It.frame _ _ _ hst3 fun b hb o e=>o5a b o (hMf b hb) (It.there b hb) e,hin5,fun b o n e=>o5a b o (fun m=>n (m_l _ m)) ⟨o,e⟩ (O3 b o n e)⟩
  cases f with
  | next=>exact fin q
  | cont=>exact fin q
  | brk=>exact q
  | ret v=>exact q
 ·have hie:i=ds.length:=by omega
  subst hie
  refine It.done _ _ _ hst fun h3a tk3 hk3=>?_
  have o3a:Off wr h' h3a:=hk3
  have O3':Off (M++wr) s.heap h3a:=hoff0.trans (o3a.mono fun q m=>m_r _ m)
  have hin3:=stab h2a _ X' h' h3a wr (Ext.trans e1a e2a) hin (fun b m=>⟨m_l _ m,wnone b m,mk (It.cls _ _ hst b m)⟩) o3a fun b m=>It.there b (It.sub b m)
  refine wpAny_execs_nil (done h2a h3a tk3 X' (Ext.trans e1a e2a) (fun b m=>?_) sub (offM O3') hin3)
  by_cases hm:b∈M
  ·exact exl (nt _ _ _ _ hin3 b hm)
  ·obtain ⟨o,e⟩:=hX b m
   exact ⟨o,offM O3' b o hm e⟩
theorem for_loop {α:Type} {T:List Addr→Heap→Value→α→Prop} {target iter:Expr} {body:List Stmt} {pos:Pos} {M:List Addr} {ds:List α} {Inv:Nat→List Addr→Heap→Prop} {Q:FSP}
  (hsrc:Src T prog w A env I target iter ds) (hX:Bd X s.heap) (hI:I X s.heap)
  (hM:∀ b∈M,b∈X∧∃ o,s.heap.get? b=some o)
  (start:∀ h X',Ext s.heap h→Hid X X' s.heap→(∀ x∈X,x∈X')→Inv 0 X' h)
  (nt:∀ i X' h,Inv i X' h→∀ b∈M,∃ o,h.get? b=some o∧¬ TupObj o)
  (stab:∀ i X' h h' Wr,Inv i X' h→(∀ b∈Wr,b∈X'∧s.heap.get? b=none∧∀ o,h.get? b=some o→¬ TupObj o)→Off Wr h h'→Inv i X' h')
  (turn:∀ i d v h' tk X',ds[i]?=some d→T X' h' v d→Bd X' h'→Hid X X' s.heap→(∀ x∈X,x∈X')→Off M s.heap h'→Inv i X' h' →
   NR prog w A (assign target env v) (fun zz s1a=>NR prog w A (execs body env) (fun f s2a=>(match f with
    | .next|.cont=>∃ h2a tk2,s2a={ s with heap:=h2a,toks:=tk2 }∧Off M h' h2a∧Inv (i+1) X' h2a
    | .brk=>Q .next s2a
    | .ret v=>Q (.ret v) s2a:Prop)) s1a) { s with heap:=h',toks:=tk })
  (done:∀ h' tk X',Bd X h'→(∀ x∈X,x∈X')→Off M s.heap h'→Inv ds.length X' h'→Q .next { s with heap:=h',toks:=tk })
  (hs:∀ x,foldedSetIterable iter env x=pure x:=by intro _;rfl):NR prog w A (exec (.For target iter body [] pos) env) Q s :=
 for_zone (hs:=hs) (Inv:=fun zz=>Inv) hsrc hX hI hM start (fun zz=>nt) (fun zz i X' h h' Wr zz a b c zz=>stab i X' h h' Wr a b c) (fun hs i d v h' tk X' zz a b c e f g zz k=>wpAny_mono (turn i d v h' tk X' a b c e f g k) (fun zz s1a q=>wpAny_mono q (fun fl s2a q=>by
  cases fl with
  | next=>obtain ⟨h2a,tk2,e,o,i⟩:=q;exact ⟨h2a,tk2,e,fun b ob n zz eb=>o b ob n eb,i⟩
  | cont=>obtain ⟨h2a,tk2,e,o,i⟩:=q;exact ⟨h2a,tk2,e,fun b ob n zz eb=>o b ob n eb,i⟩
  | brk=>exact q
  | ret v=>exact q) fun zz zz e=>e) fun zz zz e=>e) fun zz h' tk X' zz a b c d=>done h' tk X' a b c d
end
noncomputable def topS (i:Nat):Stmt:=PySem.Challenge.pw_il0177_01.main.body.getD i (.Pass ⟨0,0,0,0⟩)
noncomputable def inS (s:Stmt) (i:Nat):Stmt:=match s with
 | .ClassDef (body:=b) ..=>b.getD i (.Pass ⟨0,0,0,0⟩)
 | s=>s
noncomputable def fBody:Stmt→List Stmt
 | .FunctionDef (body:=b) ..=>b
 | _=>[]
noncomputable def fScope:Stmt→Scope
 | .FunctionDef (scope:=b) ..=>b
 | _=>{ kind:=.function,names:=[],isGenerator:=false,isCoroutine:=false }
noncomputable def fParams:Stmt→Arguments
 | .FunctionDef (args:=b) ..=>b
 | _=>⟨[],[],none,[],[],none,[]⟩
noncomputable def fName:Stmt→Str
 | .FunctionDef (name:=b) ..=>b
 | _=>""
noncomputable def FnK (K:Frag) (f:Addr) (qual:Str) (st:Stmt) (dV kV:Value):Prop :=
 ∃ oc od doc pm an cdv ct osl,K.lookup f=some ⟨oc,od,.func (fnOf (fName st) qual (fParams st) (fBody st) (fScope st) dV kV doc pm an cdv ct),osl⟩∧codeIn K cdv qual=true
section
theorem FnK.keep {M:Model} {st:Stmt} (F:FnK K f qual st dV kV) (hI:∀ X h,I X h→GK K mg mb h):Keeper1 M I (.ref f):=fun X h i=>by
 obtain ⟨oc,od,doc,pm,an,cdv,ct,osl,hf,_⟩:=F
 exact ⟨.frame,.inl rfl,(Looks.ld (part:=none) ((hI X h i).k _ _ hf)).andThen .now⟩
theorem fn_call {st:Stmt} {n:Nat} {kw:List (Str×Value)} {binds:List (Str×Value)} {P:VSP}
  (F:FnK K f qual st dV kV) (hA:OKA A (n+1)) (G:GK K mg mb s.heap)
  (hb:∀ doc pm an cdv ct,BindsTo s (fnOf (fName st) qual (fParams st) (fBody st) (fScope st) dV kV doc pm an cdv ct) ⟨vs,kw⟩ binds)
  (hcell:∀ x∈(fScope st).names,x.2≠.cell) (hloc:∀ x∈binds,(fScope st).names.lookup x.1=some .local)
  (hco:(fScope st).isCoroutine=false) (hgen:(fScope st).isGenerator=false) (hk:(fScope st).kind=.function)
  (body:∀ h1a tk env,env.scope=fScope st→env.cells=[]→LocEnv env s.heap.objs.size→GEnv env→OKA (A.deeper env) n→Ext s.heap h1a→h1a.Ns s.heap.objs.size (fun x=>binds.reverse.lookup x) →
   NR prog w (A.deeper env) (execs (fBody st) env) (fun fl s'=>P (match fl with|.ret v=>v|_=>.none) s') { s with heap:=h1a,toks:=tk }) :
  wpAny (model prog w) A (call (.ref f) vs kw) P E s:=by
 obtain ⟨oc,od,doc,pm,an,cdv,ct,osl,hf,hcd⟩:=F
 refine wpAny_call (codeAny_call_def (fd:=fnOf (fName st) qual (fParams st) (fBody st) (fScope st) dV kV doc pm an cdv ct) (body:=fBody st) (binds:=binds) hA.room (G.k _ _ hf) rfl G.lim (codeRec_of G.k hcd) rfl (hb _ _ _ _ _) hcell hloc (fun h1a hns hk1=>?_) hco hgen hk)
 refine wpAny_mono (body h1a _ (callEnv (fnOf (fName st) qual (fParams st) (fBody st) (fScope st) dV kV doc pm an cdv ct) s.heap.objs.size f) rfl rfl ⟨hk,rfl⟩ ⟨hk,rfl,rfl⟩ (hA.deeper _) hk1 hns) (fun fl s' p=>?_) fun zz zz x=>x.elim
 cases fl <;> exact p
end
section
noncomputable def Fs (K:Frag) (mg mb:Str→Option Value) (h0a:Heap) (L:Addr) (ρ:List (Str×VD)) (X:List Addr) (h:Heap):Prop:=GK K mg mb h∧Ext h0a h∧Loc L ρ X h
theorem up_fs:Up (Fs K mg mb h0a L ρ):=fun X X' h h' k q=>by
 rintro ⟨a,b,c⟩
 exact ⟨a.ext k,Ext.trans b k,(c.hid q).ext k⟩
theorem Fs.gk:∀ X h,Fs K mg mb h0a L ρ X h→GK K mg mb h:=fun zz zz x=>x.1
theorem Fs.loc:∀ X h,Fs K mg mb h0a L ρ X h→Loc L ρ X h:=fun zz zz x=>x.2.2
end
section
noncomputable def Mat (X:List Addr) (h:Heap):List (Str×Value)→List (Str×VD)→Prop
 | [],[]=>True
 | (x,v)::bs,(y,D)::ρ=>x=y∧D.at X h v∧Mat X h bs ρ
 | _,_=>False
theorem mat_get {bs:List (Str×Value)} (hm:Mat X h bs ρ) (x) (D) (e:ρ.lookup x=some D):∃ v,bs.lookup x=some v∧D.at X h v:=by
 induction bs generalizing ρ with
 | nil=>cases ρ with
  | nil=>cases e
  | cons a r=>exact hm.elim
 | cons b bs ih=>cases ρ with
  | nil=>exact hm.elim
  | cons a r =>
   obtain ⟨e1,c,q⟩:=hm
   rw[List.lookup_cons] at e ⊢
   rw[e1]
   cases hq:x == a.1 with
   | true=>rw[hq] at e;cases e;exact ⟨_,rfl,c⟩
   | false=>rw[hq] at e;exact ih q e
theorem loc_of {bs:List (Str×Value)} (hn:h.Ns L (fun x=>bs.lookup x)) (m:Mat X h bs ρ):Loc L ρ X h:=⟨_,hn,mat_get m⟩
end
section
theorem bd_off {M:List Addr} (b:Bd X h) (k:Off M h h') (hM:∀ a∈M,∃ o,h'.get? a=some o):Bd X h':=fun x m=>by
 by_cases q:x∈M
 ·exact hM x q
 ·obtain ⟨o,e⟩:=b x m;exact ⟨o,k x o q e⟩
theorem ext_off {M:List Addr} (x:Ext h0a h) (k:Off M h h') (n:∀ b∈M,h0a.get? b=none):Ext h0a h':=fun b o e=>k b o (fun m=>by rw[n b m] at e;cases e) (x b o e)
theorem fs_next (st:Fs K mg mb h0a L ρ X h) (G:GK K mg mb h0a) (hL0:h0a.get? L=none) (k:Off [L] h h') (l:Loc L ρ' X h'):Fs K mg mb h0a L ρ' X h':=by
 have e:=ext_off st.2.1 k fun b m=>by rw[m_s m];exact hL0
 exact ⟨G.ext e,e,l⟩
theorem fs_bd (b:Bd X h) (k:Off [L] h h') (l:Loc L ρ' X h'):Bd X h':=bd_off b k fun a m=>by
 rw[m_s m];exact exl (l.there)
theorem asg_fs {x:Str} {px pos:Pos} {e:Expr} {Q:FSP} (st:Fs K mg mb h0a L ρ X s.heap) (hev:Ev prog w A env (Fs K mg mb h0a L ρ) e d) (hX:Bd X s.heap) (le:LocEnv env L) (hx:env.kindOf x=some .local)
  (G:GK K mg mb h0a) (hL0:h0a.get? L=none) (hL:L∈X) (k:∀ h' tk,Off [L] s.heap h'→Bd X h'→Fs K mg mb h0a L ((x,.dat d)::ρ) X h'→Q .next { s with heap:=h',toks:=tk })
  (hs:swapsWith e (some (.Name x px)) pos.line env=pure false:=by rfl):NR prog w A (exec (.Assign [.Name x px] e pos) env) Q s :=
 asg (hs:=hs) hev hX st le hx st.2.2 hL fun h' tk o l=>k h' tk o (fs_bd hX o l) (fs_next st G hL0 o l)
theorem name_fs {x:Str} {px:Pos} {Q:Unit→Shared→Prop} (st:Fs K mg mb h0a L ρ X s.heap) (hv:At X s.heap v d) (hX:Bd X s.heap) (le:LocEnv env L) (hx:env.kindOf x=some .local)
  (G:GK K mg mb h0a) (hL0:h0a.get? L=none) (hL:L∈X) (k:∀ h' tk,Off [L] s.heap h'→Bd X h'→Fs K mg mb h0a L ((x,.dat d)::ρ) X h'→Q () { s with heap:=h',toks:=tk }) :
  NR prog w A (assign (.Name x px) env v) Q s:=by
 obtain ⟨m,hn,hr⟩:=st.2.2
 refine wpAny_assign_Name (store_local le hx hn fun h' hn' ko=>?_)
 have l:=Loc.set (D:=.dat d) (m':=m) hn hr hv hL ko hn'
 exact k h' _ ko (fs_bd hX ko l) (fs_next st G hL0 ko l)
theorem for_fs {α:Type} {T:List Addr→Heap→Value→α→Prop} {target iter:Expr} {body:List Stmt} {pos:Pos} {ds:List α} {Q:FSP} (ρi:Nat→List (Str×VD))
  (st:Fs K mg mb h0a L ρ X s.heap) (hsrc:Src T prog w A env (Fs K mg mb h0a L ρ) target iter ds) (hX:Bd X s.heap)
  (G:GK K mg mb h0a) (hL0:h0a.get? L=none) (hL:L∈X) (start:∀ x D,(ρi 0).lookup x=some D→ρ.lookup x=some D)
  (turn:∀ i d v h' tk X',ds[i]?=some d→T X' h' v d→Bd X' h'→L∈X'→Fs K mg mb h0a L (ρi i) X' h'→Ext h0a h' →
   NR prog w A (assign target env v) (fun zz s1a=>NR prog w A (execs body env) (fun f s2a=>(match f with
    | .next|.cont=>∃ h2a tk2,s2a={ s with heap:=h2a,toks:=tk2 }∧Off [L] h' h2a∧Fs K mg mb h0a L (ρi (i+1)) X' h2a
    | .brk=>Q .next s2a
    | .ret v=>Q (.ret v) s2a:Prop)) s1a) { s with heap:=h',toks:=tk })
  (done:∀ h' tk,Bd X h'→Fs K mg mb h0a L (ρi ds.length) X h'→Off [L] s.heap h'→Q .next { s with heap:=h',toks:=tk })
  (hs:∀ x,foldedSetIterable iter env x=pure x:=by intro _;rfl):NR prog w A (exec (.For target iter body [] pos) env) Q s:=by
 have hLs:∃ o,s.heap.get? L=some o:=by obtain ⟨o,e,_⟩:=st.2.2.there;exact ⟨o,e⟩
 refine for_loop (hs:=hs) (M:=[L]) (Inv:=fun i X' h=>Fs K mg mb h0a L (ρi i) X' h) hsrc hX st (fun b m=>?_) (fun h X' k q zz=>?_) (fun i X' h f b m=>?_) (fun i X' h h' Wr f hW k=>?_) (fun i d v h' tk X' hd hv hb hh sub o f=>?_) (fun h' tk X' hb sub o f=>?_)
 ·rw[m_s m];exact ⟨hL,hLs⟩
 ·have z:=up_fs _ _ _ _ k q st
  exact ⟨z.1,z.2.1,z.2.2.sub start⟩
 ·rw[m_s m];exact f.2.2.there
 ·have hLW:L∉Wr:=fun m=>by obtain ⟨o,e⟩:=hLs;rw[(hW L m).2.1] at e;cases e
  have e':Ext h0a h':=fun b o e=>k b o (fun m=>by have:=st.2.1 _ _ e;rw[(hW b m).2.1] at this;cases this) (f.2.1 b o e)
  exact ⟨G.ext e',e',f.2.2.off k hLW fun b m=>⟨(hW b m).1,(hW b m).2.2⟩⟩
 ·exact turn i d v h' tk X' hd hv hb (sub _ hL) f f.2.1
 ·exact done h' tk hb ⟨f.1,f.2.1,f.2.2.hid fun x m=>.inl (sub x m)⟩ o
end
noncomputable def Sub (ρ:List (Str×VD)):List (Str×VD)→Prop
 | []=>True
 | (x,D)::r=>ρ.lookup x=some D∧Sub ρ r
theorem Sub.get:∀ {ρ':List (Str×VD)},Sub ρ ρ'→∀ x D,ρ'.lookup x=some D→ρ.lookup x=some D:=by
 intro r
 induction r with
 | nil=>intro zz x D e;cases e
 | cons p r ih =>
  intro z x D e
  obtain ⟨y,D'⟩:=p
  rw[List.lookup_cons] at e
  by_cases q:x == y
  ·rw[q] at e;cases e;rw[beq_iff_eq.mp q];exact z.1
  ·rw[Bool.eq_false_iff.mpr q] at e;exact ih z.2 x D e
theorem Fs.sub (f:Fs K mg mb h0a L ρ X h) (s:Sub ρ ρ'):Fs K mg mb h0a L ρ' X h:=⟨f.1,f.2.1,f.2.2.sub s.get⟩
theorem small_mul {a:Int} (h1:-(2 ^ 64)<a) (h2:a<2 ^ 64):IntMulOk a b:=.of_left (intBits_le_64 h1 h2)
section
structure Fr (A:Around) (st:Stmt) (n:Nat) (h0a:Heap) (L:Addr) (env:Env):Prop where
 le:LocEnv env L
 ge:GEnv env
 sc:env.scope=fScope st
 cells:env.cells=[]
 k:∀ y,env.kindOf y=(fScope st).names.lookup y
 ok:OKA (A.deeper env) n
 new:h0a.get? L=none
theorem GEnv.inter (g:GEnv env):interactive env=false:=by unfold interactive;rw[g.kind];rfl
theorem fn_go {st:Stmt} {n:Nat} {kw:List (Str×Value)} (binds:List (Str×Value)) (ρ:List (Str×VD)) {P:VSP}
  (F:FnK K f qual st dV kV) (hA:OKA A (n+1)) (G:GK K mg mb s.heap) (hX:Bd X s.heap)
  (hb:∀ doc pm an cdv ct,BindsTo s (fnOf (fName st) qual (fParams st) (fBody st) (fScope st) dV kV doc pm an cdv ct) ⟨vs,kw⟩ binds)
  (hcell:∀ x∈(fScope st).names,x.2≠.cell) (hloc:∀ x∈binds,(fScope st).names.lookup x.1=some .local)
  (hco:(fScope st).isCoroutine=false) (hgen:(fScope st).isGenerator=false) (hk:(fScope st).kind=.function)
  (mat:∀ X' h',Hid X X' s.heap→Ext s.heap h'→Mat X' h' binds.reverse ρ)
  (body:∀ L env h1a tk,Fr A st n s.heap L env→Bd (L::X) h1a→Hid X (L::X) s.heap→Fs K mg mb s.heap L ρ (L::X) h1a →
   NR prog w (A.deeper env) (execs (fBody st) env) (fun fl s'=>P (match fl with|.ret v=>v|_=>.none) s') { s with heap:=h1a,toks:=tk }) :
  wpAny (model prog w) A (call (.ref f) vs kw) P E s :=
 fn_call F hA G hb hcell hloc hco hgen hk fun h1a tk env hs hc le ge hA' e1a hn=>by
  have hLn:s.heap.get? s.heap.objs.size=none:=size_none _
  have hid:Hid X (s.heap.objs.size::X) s.heap:=.new hLn
  have l0:Loc s.heap.objs.size ρ (s.heap.objs.size::X) h1a:=loc_of hn (mat _ _ hid e1a)
  refine body _ env h1a tk ⟨le,ge,hs,hc,fun y=>by unfold Env.kindOf;rw[hs],hA',hLn⟩ (fun y m=>?_) hid ⟨G.ext e1a,e1a,l0⟩
  rcases mC m with rfl|m
  ·exact exl (l0.there)
  ·exact hX.ext e1a y m
theorem ret_fs {e:Expr} {pos:Pos} {s0a:Shared} {tk:Nat} {Q:FSP} (st:Fs K mg mb s0a.heap L ρ (L::X) h1a)
  (hev:Ev prog w A env (Fs K mg mb s0a.heap L ρ) e d) (hX:Bd (L::X) h1a) (k:∀ v s',Keeps s0a s'∧At X s'.heap v d→Q (.ret v) s'):NR prog w A (exec (.Return (some e) pos) env) Q { s0a with heap:=h1a,toks:=tk } :=
 ret hev hX st fun v s' k' r=>by
  obtain ⟨h4a,tk4,rfl,e4a⟩:=k'
  exact k _ _ ⟨⟨h4a,tk4,rfl,Ext.trans st.2.1 e4a⟩,r.hid Hid.less⟩
theorem Fs.nm {x:Str} {pos:Pos} {st:Stmt} {n:Nat} (fr:Fr A0 st n h0a L env) (hx:(fScope st).names.lookup x=some .local) (hl:ρ.lookup x=some (.dat d)) (hd:(x == ("__debug__":Str))=false:=by decide) :
  Ev prog w A env (Fs K mg mb h1a L ρ) (.Name x pos) d:=ev_loc fr.le (by rw[fr.k];exact hx) Fs.loc hl hd
theorem ev_at {value:Expr} {i:Int} {k:Nat} {p pos:Pos} (j:Nat) (up:Up I) (x:Ev prog w A env I value (.tuple ds)) (h0:-(2 ^ 63)≤i) (h1:i<2 ^ 63) (hj:seqIndex? i ds.length=some j) (hd:ds[j]?=some d) :
  Ev prog w A env I (.Subscript value (.Constant (.int i) k p) pos) d:=ev_sub up x ev_int fun s X u v E zz a b=>sub_tuple h0 h1 hj hd a b (by intro _ _;rfl)
theorem ev_lat {value sl:Expr} {i:Int} {pos:Pos} (up:Up I) (x:Ev prog w A env I value (.list ds)) (y:Ev prog w A env I sl (.int i)) (h0:0≤i) (h1:i<2 ^ 63) (hd:ds[i.toNat]?=some d)
  (hs:∀ a t,subscripted sl false (.ref a) (.int i t)=operate [.ref a,.int i t] (getItem (.ref a) (.int i t)):=by intro _ _;with_unfolding_all rfl) :
  Ev prog w A env I (.Subscript value sl pos) d:=ev_sub up x y fun s X u v E zz a b=>sub_list h0 h1 hd a b hs
end
section
theorem call_wp {f:Str} {np pos:Pos} {e:Expr} {es:List Expr} {Q:VSP} (up:Up I)
  (hf:EvR prog w A env I (.Name f np) (fun zz zz v=>v=fv)) (hk:Keeper1 (model prog w) I fv) (ha:EvAll prog w A env I (e::es) ds) (hX:Bd X s.heap) (hs:I X s.heap)
  (hc:∀ s' vs,Keeps s s'→Bd X s'.heap→I X s'.heap→AtAll X s'.heap vs ds→wpAny (model prog w) A (call fv vs) Q E s')
  (he:starEach (e::es) env=(false,eval e env)::starEach es env:=by rfl) (hplain:(backTo pos (starEach es env)).any (·.1)=false:=by rfl) :
  wpAny (model prog w) A (eval (.Call (.Name f np) (e::es) [] pos) env) Q E s:=by
 refine wpAny_Call_ofName (hf.wp hX hs fun v s1a k1a hv=>?_)
 subst hv
 have h1a:=up.ext (kp_ext k1a) hs
 have b1a:=hX.ext (kp_ext k1a)
 refine callWith_of (P:=I X) (by rw[he];show ((false || (backTo pos (starEach es env)).any (·.1)) || false)=false;rw[hplain];rfl) (hk X) ?_
 rw[he]
 refine Calls.evalArgs_plain ?_
 have ha':=ha s1a E X pos b1a h1a
 rw[he] at ha'
 exact wpAny_mono ha' (fun vs s2a q=>⟨up.ext (kp_ext q.1) h1a,hc s2a vs (kp_trans k1a q.1) (b1a.ext (kp_ext q.1)) (up.ext (kp_ext q.1) h1a) q.2⟩) fun zz zz x=>x
noncomputable def enumD (ds:List PyData):List PyData:=ds.zipIdx.map fun p=>.tuple [.int (p.2:Nat),p.1]
theorem enumD_get (ds:List PyData) (i:Nat):(enumD ds)[i]?=ds[i]?.map fun d=>.tuple [.int i,d]:=by
 simp[enumD,List.getElem?_map,List.getElem?_zipIdx]
 cases ds[i]? <;> simp
theorem enumD_length (ds:List PyData):(enumD ds).length=ds.length:=by simp[enumD]
theorem src_enum {np pos:Pos} {e:Expr} {elts:List Expr} {k:Nat} {tp:Pos} (up:Up I) (hh:A.handled=none) (hf:EvR prog w A env I (.Name "enumerate" np) (fun zz zz v=>v=.type "enumerate")) (x:Ev prog w A env I e (.list ds))
  (he:starEach [e] env=(false,eval e env)::starEach [] env:=by rfl) :
  Src At prog w A env I (.Tuple elts k tp) (.Call (.Name "enumerate" np) [e] [] pos) (enumD ds):=fun s E X hX hI=>by
 refine call_wp up hf keeper_type (ev_cons up x ev_nil (he:=he)) hX hI (fun s1a vs k1a b1a i1a a1a=>?_) (he:=he) (hplain:=rfl)
 obtain ⟨v,rfl,a⟩:=one_inv a1a
 obtain ⟨l,items,rfl,hn,hl,r⟩:=a.list_inv
 have hlen:items.size=ds.length:=by have:=r.length;simpa using this
 obtain ⟨o,ho,hoc,_⟩:=id hl
 have hlt:l<s1a.heap.objs.size:=Heap.lt_size ho
 refine call_enumerate_list hl fun h' hen hit hsz kk=>?_
 have kk:Ext s1a.heap h':=kk
 refine ⟨kp_trans k1a ⟨h',s1a.toks,rfl,kk⟩,fun Q E' kont=>?_⟩
 have hei:s1a.heap.objs.size+1≠s1a.heap.objs.size:=Nat.succ_ne_self _
 have hle:l≠s1a.heap.objs.size+1:=Nat.ne_of_lt (Nat.lt_succ_of_lt hlt)
 have hli:l≠s1a.heap.objs.size:=Nat.ne_of_lt hlt
 have W:=WalksT.enumerate (prog:=prog) (w:=w) (A:=A) hh (s1a.heap.objs.size+1) s1a.heap.objs.size l hei hle hli items
 have n0:∀ b,s1a.heap.objs.size≤b→s1a.heap.get? b=none:=fun b q=>Heap.get?_none_of_le q
 have wr_low:∀ b∈[s1a.heap.objs.size+1,s1a.heap.objs.size],s1a.heap.get? b=none:=fun b m=>by
  rcases mC m with rfl|m
  ·exact n0 _ (Nat.le_succ _)
  ·rw[m_s m];exact n0 _ (Nat.le_refl _)
 have ntE:∀ {h:Heap} {i:Int} {old:Value},IsEnum h (s1a.heap.objs.size+1) s1a.heap.objs.size i old→∃ o,h.get? (s1a.heap.objs.size+1)=some o∧¬ TupObj o:=fun q=>⟨_,q,not_tup_of_fields rfl⟩
 have ntI:∀ {h:Heap} {i:Nat},h.IsListIter s1a.heap.objs.size l i→∃ o,h.get? s1a.heap.objs.size=some o∧¬ TupObj o:=by
  rintro h i ⟨o,q,_,d⟩
  exact ⟨o,q,not_tup_of_fields d⟩
 refine wpAny_pyIter_enum hen (kont _ [s1a.heap.objs.size+1,s1a.heap.objs.size,l] [s1a.heap.objs.size+1,s1a.heap.objs.size] (fun i h=>(∃ old,IsEnum h (s1a.heap.objs.size+1) s1a.heap.objs.size i old)∧h.IsListIter s1a.heap.objs.size l i∧h.IsList l items) (fun i v h=>∃ T vals t x,v=.ref T∧items[i]?=some x∧vals=#[.int i t,x]∧h.IsTuple T vals∧(∃ x,IsEnumOut h (s1a.heap.objs.size+1) s1a.heap.objs.size ((i:Int)+1) x T)∧h.IsListIter s1a.heap.objs.size l (i+1)∧h.IsList l items∧T≠s1a.heap.objs.size+1∧T≠s1a.heap.objs.size) _ (kp_refl _) ?_)
 refine ⟨fun zz zz zz zz zz a b=>At.chg a b,W.sub,W.frame,fun i s' Q E hi hs k=>?_,fun s' Q E hs k=>?_,W.self,⟨⟨_,hen⟩,hit,hl.at fun o q=>kk _ _ q⟩,?_,fun b m=>none_before (kp_ext k1a) (wr_low b m),?_,?_,?_,?_,?_⟩
 ·rw[enumD_length,← hlen] at hi
  refine W.item i s' Q E hi hs fun T vals h2a tk=>by
   rintro ⟨t,x,hx,hv⟩ _ hT hm o
   exact k _ _ _ ⟨T,vals,t,x,rfl,hx,hv,hT,hm⟩ o
 ·rw[enumD_length,← hlen] at hs
  exact W.done s' Q E hs fun h2a tk o=>k _ _ o
 ·intro b m
  rcases mC m with rfl|m
  ·exact ⟨_,hen⟩
  ·rcases mC m with rfl|m
   ·obtain ⟨o,q,_⟩:=hit;exact ⟨o,q⟩
   ·rw[m_s m];exact ⟨o,kk _ _ ho⟩
 ·intro b m
  rcases mC m with rfl|m
  ·exact .inl (.head _)
  ·rcases mC m with rfl|m
   ·exact .inl (.tail _ (.head _))
   ·rw[m_s m];exact .inr (.inl hn)
 ·rintro i h ⟨⟨old,q⟩,q',_⟩ b m
  rcases mC m with rfl|m
  ·exact ntE q
  ·rw[m_s m];exact ntI q'
 ·rintro i v h ⟨T,vals,t,x,_,_,_,_,⟨_,q⟩,q',_⟩ b m
  rcases mC m with rfl|m
  ·exact ⟨_,q,not_tup_of_fields rfl⟩
  ·rw[m_s m];exact ntI q'
 ·rintro i v h X' ⟨T,vals,t,x,rfl,hx,rfl,hT,_⟩ hd c
  obtain ⟨d,hd',ad⟩:=r.get (show items.toList[i]?=some x by simpa using hx)
  refine ⟨_,by rw[enumD_get,hd'];rfl,.tuple hT (.cons (.int _ _) (.cons ?_ .nil))⟩
  have a1:At ((s1a.heap.objs.size+1)::s1a.heap.objs.size::X) s1a.heap x d:=ad.hid fun y m=>by
   rcases mC m with rfl|m
   ·exact .inr (n0 _ (Nat.le_succ _))
   ·rcases mC m with rfl|m
    ·exact .inr (n0 _ (Nat.le_refl _))
    ·exact .inl m
  refine ((a1.ext kk).hid (fun y m=>?_)).chg c
  rcases hd y m with q|q|q
  ·exact .inl (.tail _ (.tail _ q))
  ·rcases mC q with rfl|q
   ·exact .inl (.head _)
   ·rw[m_s q];exact .inl (.tail _ (.head _))
  ·exact .inr q
 ·rintro i v s' Q E ⟨T,vals,t,x,rfl,hx,hv,hT,hm⟩ kk'
  exact W.go elts k _ i T s' Q E hm fun h' st o=>kk' h' st o
/- slices -/
noncomputable def pickD {α:Type} (ds:List α) (lo hi st:Option Int):List α:=(sliceRange (sliceBounds lo hi st ds.length).1 (sliceBounds lo hi st ds.length).2.1 (sliceBounds lo hi st ds.length).2.2).filterMap (ds[·]?)
theorem pickD_map {α β:Type} (f:α→β) (ds:List α) (lo hi st:Option Int):pickD (ds.map f) lo hi st=(pickD ds lo hi st).map f:=by
 unfold pickD
 rw[List.length_map,List.map_filterMap]
 congr 1
 funext i
 simp
theorem pick_len {α β:Type} {ds:List α} {vs:List β} (e:ds.length=vs.length):∀ is:List Nat,(is.filterMap (ds[·]?)).length=(is.filterMap (vs[·]?)).length
 | []=>rfl
 | i::is=>by
  rw[List.filterMap_cons,List.filterMap_cons]
  by_cases q:i<ds.length
  ·rw[List.getElem?_eq_getElem q,List.getElem?_eq_getElem (e▸q)]
   simp[pick_len e is]
  ·rw[List.getElem?_eq_none (by lia),List.getElem?_eq_none (by lia)]
   exact pick_len e is
theorem pickD_le {α:Type} (ds:List α) (lo hi st:Option Int):(pickD ds lo hi st).length≤ds.length:=by
 have:=slicePick_size_le (List.replicate ds.length Value.none).toArray lo hi st
 rw[show (List.replicate ds.length Value.none).toArray.size=ds.length by simp] at this
 refine Nat.le_trans (Nat.le_of_eq ?_) this
 unfold slicePick pickD
 rw[List.size_toArray,show (List.replicate ds.length Value.none).toArray.size=ds.length by simp]
 have:=pick_len (ds:=ds) (vs:=List.replicate ds.length Value.none) (by simp) (sliceRange (sliceBounds lo hi st ds.length).1 (sliceBounds lo hi st ds.length).2.1 (sliceBounds lo hi st ds.length).2.2)
 rw[this]
 congr 2
 funext x
 rw[List.getElem?_toArray]
theorem AtAll.picked (x:AtAll X h vs ds):∀ is:List Nat,AtAll X h (is.filterMap (vs[·]?)) (is.filterMap (ds[·]?))
 | []=>.nil
 | i::is=>by
  rw[List.filterMap_cons,List.filterMap_cons]
  cases q:vs[i]? with
  | none =>
   have:ds[i]?=none:=by
    rw[List.getElem?_eq_none_iff] at q ⊢;rw[← x.length];exact q
   rw[this];exact x.picked is
  | some v =>
   obtain ⟨d,e,a⟩:=x.get q
   rw[e];exact .cons a (x.picked is)
noncomputable def EvP (prog:Program) (w:World) (A:Around) (env:Env) (I:XHP) (e:Option Expr) (oi:Option Int):Prop :=
 ∀ (s:Shared) (E:VSP) (X:List Addr),Bd X s.heap→I X s.heap→wpAny (model prog w) A (evalPart e env) (fun v s'=>Keeps s s'∧IsPart v oi) E s
theorem evp_none:EvP prog w A env I none none:=fun s E X zz zz=>by rw[evalPart_none];exact wpAny_pure ⟨kp_refl _,.none⟩
theorem evp_some {e:Expr} {i:Int} (x:Ev prog w A env I e (.int i)):EvP prog w A env I (some e) (some i):=fun s E X hX hI=>by
 rw[evalPart_some]
 exact x.wp hX hI fun v s' k a=>by obtain ⟨t,rfl⟩:=a.int_inv;exact ⟨k,.int _ _⟩
theorem slice_wp {lo up st:Option Expr} {l u k:Option Int} {p:Pos} {Q:VSP} (hu:Up I) (x:EvP prog w A env I lo l) (y:EvP prog w A env I up u) (z:EvP prog w A env I st k) (hX:Bd X s.heap) (hI:I X s.heap)
  (q:∀ s' a b c d,Keeps s s'→s'.heap.IsSliceOf a b c d→IsPart b l→IsPart c u→IsPart d k→Q (.ref a) s'):wpAny (model prog w) A (eval (.Slice lo up st p) env) Q E s :=
 wpAny_Slice (wpAny_mono (x s E X hX hI) (fun v1a s1a h1a=>wpAny_mono (y s1a E X (hX.ext (kp_ext h1a.1)) (hu.ext (kp_ext h1a.1) hI)) (fun v2a s2a h2a =>
  wpAny_mono (z s2a E X (hX.ext (Ext.trans (kp_ext h1a.1) (kp_ext h2a.1))) (hu.ext (Ext.trans (kp_ext h1a.1) (kp_ext h2a.1)) hI)) (fun v3a s3a h3a=>q _ _ _ _ _ (kp_trans h1a.1 (kp_trans h2a.1 (kp_trans h3a.1 (kp_push _ _)))) (Heap.IsSliceOf.new _ _ _ _) h1a.2 h2a.2 h3a.2) fun zz zz e=>e) fun zz zz e=>e) fun zz zz e=>e)
theorem pick_at {items:Array Value} {l u k:Option Int} (r:AtAll X h items.toList ds):AtAll X h (slicePick items l u k).toList (pickD ds l u k):=by
 have hlen:items.size=ds.length:=by have:=r.length;simpa using this
 have e:(slicePick items l u k).toList=(sliceRange (sliceBounds l u k ds.length).1 (sliceBounds l u k ds.length).2.1 (sliceBounds l u k ds.length).2.2).filterMap (items.toList[·]?):=by
  unfold slicePick;rw[hlen];simp
 rw[e];exact r.picked _
theorem ev_slice_step {value st:Expr} {lo up:Option Expr} {l u:Option Int} {k:Int} {p pos:Pos} (hu:Up I) (v:Ev prog w A env I value (.list ds)) (x:EvP prog w A env I lo l) (y:EvP prog w A env I up u) (z:Ev prog w A env I st (.int k)) (hk:k≠0) (hl:ds.length≤1000000)
  (ht:∀ o r,letTemporaryGo value o r=pure ():=by intro _ _;rfl):Ev prog w A env I (.Subscript value (.Slice lo up (some st) p) pos) (.list (pickD ds l u (some k))):=fun s E X hX hI=>by
 refine wpAny_Subscript_Slice_step slot_list_getitem.lookup (v.wp hX hI fun o s1a k1a a1a=>slice_wp hu x y (evp_some z) (hX.ext (kp_ext k1a)) (hu.ext (kp_ext k1a) hI) fun s2a a b c d k2a hs pb pc pd=>?_) ht
 obtain ⟨t,items,rfl,hn,hL,r⟩:=a1a.list_inv
 have hlen:items.size=ds.length:=by have:=r.length;simpa using this
 have hL2:=hL.at fun o e=>kp_ext k2a _ o e
 refine ⟨hL2.typeIs,wpAny_getItem_list_slice (hsz:=by rw[sizeLine_eq];lia) hL2 hs pb pc pd (fun h=>hk (by cases h;rfl)) ⟨kp_trans k1a (kp_trans k2a (kp_push _ _)),?_⟩⟩
 refine .list ((hX.ext (Ext.trans (kp_ext k1a) (kp_ext k2a))).new (size_none _)) ⟨_,Heap.get?_push_size _ rfl,rfl,0,rfl⟩ ((pick_at r).ext (Ext.trans (kp_ext k2a) (Ext.push _ _)))
theorem ev_slice {value:Expr} {lo up:Option Expr} {l u:Option Int} {p pos:Pos} (hu:Up I) (v:Ev prog w A env I value (.list ds)) (x:EvP prog w A env I lo l) (y:EvP prog w A env I up u) (hl:ds.length≤1000000)
  (ht:∀ o r,letTemporaryGo value o r=pure ():=by intro _ _;rfl):Ev prog w A env I (.Subscript value (.Slice lo up none p) pos) (.list (pickD ds l u none)):=fun s E X hX hI=>by
 refine wpAny_Subscript_Slice slot_list_getitem.lookup (v.wp hX hI fun o s1a k1a a1a=>slice_wp hu x y evp_none (hX.ext (kp_ext k1a)) (hu.ext (kp_ext k1a) hI) fun s2a a b c d k2a hs pb pc pd=>?_) ht
 obtain ⟨t,items,rfl,hn,hL,r⟩:=a1a.list_inv
 have hlen:items.size=ds.length:=by have:=r.length;simpa using this
 have hL2:=hL.at fun o e=>kp_ext k2a _ o e
 refine ⟨hL2.typeIs,wpAny_getItem_list_slice (hsz:=by rw[sizeLine_eq];lia) hL2 hs pb pc pd (fun h=>by cases h) ⟨kp_trans k1a (kp_trans k2a (kp_push _ _)),?_⟩⟩
 refine .list ((hX.ext (Ext.trans (kp_ext k1a) (kp_ext k2a))).new (size_none _)) ⟨_,Heap.get?_push_size _ rfl,rfl,0,rfl⟩ ((pick_at r).ext (Ext.trans (kp_ext k2a) (Ext.push _ _)))
/- sum -/
noncomputable def sumOf (ns:List Int):Int:=preSum (fun i=>ns[i]?.getD 0) ns.length
theorem op_sum {ns:List Int} (hh:A.handled=none) (x:AtAll X s.heap vs [.list (ns.map .int)]):Op prog w A (call (.builtin "sum") vs) s X (.int (sumOf ns)):=fun E=>by
 obtain ⟨v,rfl,a⟩:=one_inv x
 obtain ⟨l,items,rfl,hn,hl,r⟩:=a.list_inv
 have hlen:items.size=ns.length:=by have:=r.length;simpa using this
 obtain ⟨o,ho,_⟩:=id hl
 have hlt:l<s.heap.objs.size:=Heap.lt_size ho
 refine call_sum_walkG (wpAny_pyIter_list hl ?_)
 refine ⟨_,_,_,ns.length,_,_,fun i=>ns[i]?.getD 0,rfl,hlen▸Walks.list (A:=A.in1) hh s.heap.objs.size l (Nat.ne_of_lt hlt) items,⟨⟨_,Heap.get?_push_size _ rfl,rfl,rfl⟩,hl.at fun o e=>Heap.get?_push_of_some _ e⟩,fun b hb=>?_,fun i v hv=>?_,fun h' tk t' hk=>?_⟩
 ·show b<(s.heap.push _).objs.size
  rw[Heap.size_push]
  rcases mC hb with rfl|hb
  ·exact Nat.lt_succ_self _
  ·rw[m_s hb];exact Nat.lt_succ_of_lt hlt
 ·obtain ⟨d,e,a⟩:=r.get (show items.toList[i]?=some v by simpa using hv)
  rw[List.getElem?_map] at e
  cases q:ns[i]? with
  | none=>rw[q] at e;cases e
  | some n =>
   rw[q] at e;cases e
   simpa [q] using a.int_inv
 ·exact ⟨⟨h',tk,rfl,fun b o e=>hk b o (fun m=>by rw[m_s m] at e;exact Nat.lt_irrefl _ (Heap.lt_size e)) (Heap.get?_push_of_some _ e)⟩,.int _ _⟩
end
noncomputable abbrev NT (h:Heap) (a:Addr):Prop:=∃ o,h.get? a=some o∧¬ TupObj o
theorem NT.mk {b:Addr}:NT h b→∀ o,h.get? b=some o→¬ TupObj o:=by
 rintro ⟨o,e,n⟩ o' e'
 rw[e] at e';cases e';exact n
structure Rest (L:Addr) (R:XHP):Prop where
 up:Up R
 off:∀ X h h',R X h→L∈X→NT h L→Off [L] h h'→R X h'
theorem rest_true:Rest L (fun zz zz=>True):=⟨fun zz zz zz zz zz zz zz=>trivial,fun zz zz zz zz zz zz zz=>trivial⟩
theorem up_and (a:Up I) (b:Up J):Up (fun X h=>I X h∧J X h):=fun X X' h h' k q=>by
 rintro ⟨x,y⟩
 exact ⟨a _ _ _ _ k q x,b _ _ _ _ k q y⟩
theorem Rest.and (a:Rest L I) (b:Rest L J):Rest L (fun X h=>I X h∧J X h):=⟨up_and a.up b.up,fun X h h'=>by
 rintro ⟨x,y⟩ hL n k
 exact ⟨a.off _ _ _ x hL n k,b.off _ _ _ y hL n k⟩⟩
theorem Lst.nt {D:Addr} {its:Array Value} (x:Lst h D its):NT h D:=by obtain ⟨n,e⟩:=x;exact ⟨_,e,not_tup_of_cls rfl (by decide)⟩
theorem Lst.off {D:Addr} {its:Array Value} {M:List Addr} (x:Lst h D its) (k:Off M h h') (hD:D∉M):Lst h' D its:=by obtain ⟨n,e⟩:=x;exact ⟨n,k _ _ hD e⟩
theorem Lst.ext {D:Addr} {its:Array Value} (x:Lst h D its) (k:Ext h h'):Lst h' D its:=by obtain ⟨n,e⟩:=x;exact ⟨n,k _ _ e⟩
noncomputable def Ml (D:Addr) (ds:List PyData) (X:List Addr) (h:Heap):Prop:=∃ items,Lst h D items∧AtAll X h items.toList ds
section
variable {D:Addr}
theorem Ml.ext (x:Ml D ds X h) (k:Ext h h'):Ml D ds X h':=by
 obtain ⟨i,a,b⟩:=x
 exact ⟨i,a.ext k,b.ext k⟩
theorem Ml.hid (x:Ml D ds X h) (k:Hid X X' h):Ml D ds X' h:=by
 obtain ⟨i,a,b⟩:=x
 exact ⟨i,a,b.hid k⟩
theorem Ml.nt (x:Ml D ds X h):NT h D:=by
 obtain ⟨i,a,b⟩:=x
 exact a.nt
theorem up_ml:Up (Ml D ds):=fun X X' h h' k q x=>(x.hid q).ext k
theorem Ml.off {M:List Addr} (x:Ml D ds X h) (k:Off M h h') (hD:D∉M) (hM:∀ b∈M,b∈X∧∀ o,h.get? b=some o→¬ TupObj o):Ml D ds X h' :=
 by
  obtain ⟨i,a,b⟩:=x
  exact ⟨i,a.off k hD,b.chg (k.chg hM)⟩
theorem rest_ml (hL:D≠L):Rest L (Ml D ds):=⟨up_ml,fun X h h' x m n k=>x.off k (fun q=>hL (m_s q)) fun b q=>by rw[m_s q];exact ⟨m,n.mk⟩⟩
theorem Ml.at (x:Ml D ds X h) (k:Hid X X' h) (hD:D∉X'):At X' h (.ref D) (.list ds):=by
 obtain ⟨i,a,b⟩:=x
 exact .list hD a.isList (b.hid k)
end
section
noncomputable abbrev Fr2 (K:Frag) (mg mb:Str→Option Value) (h0a:Heap) (L:Addr) (ρ:List (Str×VD)) (R:XHP) (X:List Addr) (h:Heap):Prop:=Fs K mg mb h0a L ρ X h∧R X h
theorem up2 (r:Rest L R):Up (Fr2 K mg mb h0a L ρ R):=up_and up_fs r.up
theorem gk2:∀ X h,Fr2 K mg mb h0a L ρ R X h→GK K mg mb h:=fun zz zz x=>x.1.1
theorem loc2:∀ X h,Fr2 K mg mb h0a L ρ R X h→Loc L ρ X h:=fun zz zz x=>x.1.2.2
theorem Fs.nt (f:Fs K mg mb h0a L ρ X h):NT h L:=f.2.2.there
theorem Fs.off {M:List Addr} (f:Fs K mg mb h0a L ρ X h) (G:GK K mg mb h0a) (k:Off M h h') (hM:∀ b∈M,h0a.get? b=none∧b∈X∧b≠L∧∀ o,h.get? b=some o→¬ TupObj o):Fs K mg mb h0a L ρ X h':=by
 have e':Ext h0a h':=ext_off f.2.1 k fun b m=>(hM b m).1
 exact ⟨G.ext e',e',f.2.2.off k (fun m=>(hM L m).2.2.1 rfl) fun b m=>⟨(hM b m).2.1,(hM b m).2.2.2⟩⟩
theorem asg2 {x:Str} {px pos:Pos} {e:Expr} {Q:FSP} (r:Rest L R) (st:Fr2 K mg mb h0a L ρ R X s.heap) (hev:Ev prog w A env (Fr2 K mg mb h0a L ρ R) e d) (hX:Bd X s.heap) (le:LocEnv env L) (hx:env.kindOf x=some .local)
  (G:GK K mg mb h0a) (hL0:h0a.get? L=none) (hL:L∈X) (k:∀ h' tk,Off [L] s.heap h'→Bd X h'→Fr2 K mg mb h0a L ((x,.dat d)::ρ) R X h'→Q .next { s with heap:=h',toks:=tk })
  (hs:swapsWith e (some (.Name x px)) pos.line env=pure false:=by rfl):NR prog w A (exec (.Assign [.Name x px] e pos) env) Q s :=
 wpAny_Assign_Name (hs:=hs) (hev.wp hX st fun v s1a k1a a=>by
  obtain ⟨h1a,tk,rfl,e1a⟩:=k1a
  have e1a:Ext s.heap h1a:=e1a
  have st1:=up2 r _ _ _ _ e1a (Hid.refl X _) st
  obtain ⟨m,hn,hr⟩:=st1.1.2.2
  refine store_local le hx hn fun h' hn' ko=>?_
  have l:=Loc.set (D:=.dat d) (m':=m) hn hr a hL ko hn'
  exact k h' _ ((Ext.off e1a).trans ko) (fs_bd (hX.ext e1a) ko l) ⟨fs_next st1.1 G hL0 ko l,r.off _ _ _ st1.2 hL st1.1.nt ko⟩)
theorem name2 {x:Str} {px:Pos} {D:VD} {Q:Unit→Shared→Prop} (r:Rest L R) (st:Fr2 K mg mb h0a L ρ R X s.heap) (hv:D.at X s.heap v) (hX:Bd X s.heap) (le:LocEnv env L) (hx:env.kindOf x=some .local)
  (G:GK K mg mb h0a) (hL0:h0a.get? L=none) (hL:L∈X) (k:∀ h' tk,Off [L] s.heap h'→Bd X h'→Fr2 K mg mb h0a L ((x,D)::ρ) R X h'→Q () { s with heap:=h',toks:=tk }) :
  NR prog w A (assign (.Name x px) env v) Q s:=by
 obtain ⟨m,hn,hr⟩:=st.1.2.2
 refine wpAny_assign_Name (store_local le hx hn fun h' hn' ko=>?_)
 have l:=Loc.set (D:=D) (m':=m) hn hr hv hL ko hn'
 exact k h' _ ko (fs_bd hX ko l) ⟨fs_next st.1 G hL0 ko l,r.off _ _ _ st.2 hL st.1.nt ko⟩
theorem two2 {x:Str} {px py tp:Pos} {tk:Nat} {d1a d2a:PyData} {Q:Unit→Shared→Prop} (r:Rest L R) (hh:A.handled=none) (st:Fr2 K mg mb h0a L ρ R X s.heap) (hv:At X s.heap v (.tuple [d1a,d2a])) (hX:Bd X s.heap) (le:LocEnv env L) (hx:env.kindOf x=some .local) (hy:env.kindOf y=some .local)
  (G:GK K mg mb h0a) (hL0:h0a.get? L=none) (hL:L∈X) (k:∀ h' tk,Off [L] s.heap h'→Bd X h'→Fr2 K mg mb h0a L ((y,.dat d2a)::(x,.dat d1a)::ρ) R X h'→Q () { s with heap:=h',toks:=tk }) :
  NR prog w A (assign (.Tuple [.Name x px,.Name y py] tk tp) env v) Q s:=by
 obtain ⟨t,items,rfl,ht,q⟩:=hv.tuple_inv
 have hlen:items.size=2:=by have:=q.length;simpa using this
 refine wpAny_assign_Tuple hh ht (by rw[hlen];rfl) rfl fun h1a k1a=>?_
 have k1a:=eo_off (size_none _) k1a
 obtain ⟨v1a,v2a,e1,a1a,a2a⟩:=two_inv q
 rw[e1]
 have st1:=up2 r _ _ _ _ k1a (Hid.refl X _) st
 refine wpAny_assignInOrder_more (name2 (D:=.dat d1a) r st1 (a1a.ext k1a) (hX.ext k1a) le hx G hL0 hL fun h2a tk2 o2a b2b st2a=>?_)
 have c2a:Chg X h1a h2a:=o2a.chg fun b m=>by rw[m_s m];exact ⟨hL,st1.1.nt.mk⟩
 refine wpAny_assignInOrder_more (name2 (D:=.dat d2a) r st2a ((a2a.ext k1a).chg c2a) b2b le hy G hL0 hL fun h3a tk3 o3a b3a st3=>?_)
 exact wpAny_assignInOrder_none (k _ _ ((Ext.off k1a).trans (o2a.trans o3a)) b3a st3)
theorem asg_nil {x:Str} {px pos lp:Pos} {Q:FSP} (r:Rest L R) (st:Fr2 K mg mb h0a L ρ R X s.heap) (hX:Bd X s.heap) (le:LocEnv env L) (hx:env.kindOf x=some .local)
  (G:GK K mg mb h0a) (hL0:h0a.get? L=none) (hL:L∈X) (k:∀ h' tk D,s.heap.get? D=none→Off [L] s.heap h'→Bd (D::X) h'→Fr2 K mg mb h0a L ((x,.val (.ref D))::ρ) R (D::X) h'→Ml D [] (D::X) h'→Q .next { s with heap:=h',toks:=tk })
  (hs:swapsWith (.List [] lp) (some (.Name x px)) pos.line env=pure false:=by rfl):NR prog w A (exec (.Assign [.Name x px] (.List [] lp) pos) env) Q s :=
 wpAny_Assign_Name (hs:=hs) (wpAny_List (wpAny_items_nil ⟨by rw[sizeLine_eq];exact Nat.zero_le _,by
  have hn0:=size_none s.heap
  have e1a:Ext s.heap (s.heap.push { cls:=.type "list",data:=.seq ([]:List Value).toArray }):=Ext.push _ _
  have st1:=up2 r _ _ _ _ e1a (Hid.new hn0) st
  obtain ⟨m,hn,hr⟩:=st1.1.2.2
  refine store_local le hx hn fun h' hn' ko=>?_
  have hL':L∈s.heap.objs.size::X:=.tail _ hL
  have hne:s.heap.objs.size≠L:=fun q=>by obtain ⟨o,e⟩:=hX L hL;rw[← q,hn0] at e;cases e
  have l:=Loc.set (D:=.val (.ref s.heap.objs.size)) (m':=m) hn hr rfl hL' ko hn'
  have ml:Lst h' s.heap.objs.size #[]:=⟨0,ko _ _ (fun q=>hne (m_s q)) (Heap.get?_push_size _ rfl)⟩
  exact k h' _ _ hn0 ((Ext.off e1a).trans ko) (fun y q=>by
   rcases mC q with rfl|q
   ·exact ⟨_,ml.choose_spec⟩
   ·exact fs_bd (hX.ext e1a) ko ⟨_,hn',fun zz zz e=>by cases e⟩ (ρ':=[]) y q) ⟨fs_next st1.1 G hL0 ko l,r.off _ _ _ st1.2 hL' st1.1.nt ko⟩ ⟨#[],ml,.nil⟩⟩))
theorem append2 {x:Str} {px apos pos p:Pos} {e:Expr} {D:Addr} {Q:FSP} (up:Up I) (hI:I X s.heap) (hX:Bd X s.heap)
  (hn:EvR prog w A env I (.Name x px) (fun zz zz v=>v=.ref D)) (hev:Ev prog w A env I e d) (hD:D∈X) (ml:Ml D ds X s.heap) (hlen:ds.length≤1000000)
  (k:∀ h' tk,Off [D] s.heap h'→Bd X h'→Ml D (ds++[d]) X h'→(∃ h1a,Ext s.heap h1a∧NT h1a D∧I X h1a∧Off [D] h1a h')→Q .next { s with heap:=h',toks:=tk })
  (hi:interactive env=false:=by rfl) (hs:swapsWith (.Call (.Attribute (.Name x px) "append" apos) [e] [] pos) none p.line env=pure false:=by rfl)
  (hline:(apos.endLine == pos.line)=true:=by rfl) (hfew:((backTo pos (starEach [e] env)).all (fun x=>!x.1) && (backToKw pos (keywordEach [] env)).all (fun x=>x.1.isSome)
   && decide (([e]:List Expr).length+([]:List Keyword).length+(if ([]:List Keyword).isEmpty then 0 else 1)<30))=true:=by rfl) (htrees:backTo pos (starEach [e] env)=[(false,eval e env)]:=by rfl)
  (hbase:attributeBase (.Name x px) "append" env (eval (.Name x px) env)=eval (.Name x px) env:=by rfl) :
  NR prog w A (exec (.Expr (.Call (.Attribute (.Name x px) "append" apos) [e] [] pos) p) env) Q s:=by
 refine wpAny_Expr_any (hi:=hi) (hs:=hs) (wpAny_Call_append hbase hfew hline htrees (hn.wp hX hI fun v s1a k1a hv=>?_))
 have ml1:=ml.ext (kp_ext k1a)
 obtain ⟨its,⟨n,ho⟩,r⟩:=ml1
 refine ⟨D,its,hv,⟨_,n,ho,rfl,rfl,rfl⟩,hev.wp (hX.ext (kp_ext k1a)) (up.ext (kp_ext k1a) hI) fun y s2a k2a a=>?_⟩
 have ho2a:=kp_ext k2a _ _ ho
 have hsz:its.size=ds.length:=by have:=r.length;simpa using this
 refine append_at (hsz:=by rw[sizeLine_eq];lia) ho2a fun h' hsb ho'=>?_
 obtain ⟨h2a,tk2,rfl,e2a⟩:=kp_trans k1a k2a
 have e2a:Ext s.heap h2a:=e2a
 have nt:NT h2a D:=⟨_,ho2a,not_tup_of_cls rfl (by decide)⟩
 have o':Off [D] h2a h':=fun b o m e=>hsb.extBut b o (fun q=>m (q▸List.mem_singleton_self _)) e
 have c:Chg X h2a h':=o'.chg fun b m=>by rw[m_s m];exact ⟨hD,nt.mk⟩
 refine k h' _ ((Ext.off e2a).trans o') (fun b m=>?_) ⟨its.push y,⟨_,ho'⟩,by rw[Array.toList_push];exact ((r.ext (kp_ext k2a)).chg c).append (.cons (a.chg c) .nil)⟩ ⟨h2a,e2a,nt,up.ext e2a hI,o'⟩
 by_cases q:b=D
 ·exact q▸⟨_,ho'⟩
 ·obtain ⟨o,e⟩:=(hX.ext e2a) b m;exact ⟨o,o' b o (fun z=>q (m_s z)) e⟩
end
section
theorem Ev.eq {e:Expr} {d':PyData} (h:d=d') (x:Ev prog w A env I e d):Ev prog w A env I e d':=h▸x
noncomputable abbrev AtF {α:Type} (f:α→PyData) (X:List Addr) (h:Heap) (v:Value) (a:α):Prop:=At X h v (f a)
theorem Itb.typed {α:Type} (f:α→PyData) {target:Expr} {xv:Value} {as:List α} (x:Itb At prog w A target X h0a s xv (as.map f)):Itb (AtF f) prog w A target X h0a s xv as:=fun Q E k =>
 x Q E fun I fp wr St Mid s2a k2a It=>k I fp wr St Mid s2a k2a ⟨fun zz zz zz zz zz a b=>At.chg a b,It.sub,It.frame,fun i s Q E hi=>It.next i s Q E (by rw[List.length_map];exact hi),fun s Q E hs=>It.done s Q E (by rw[List.length_map];exact hs),It.self,It.st,It.there,It.new,It.apart,It.cls,It.mcls,fun i v h X' m hd c=>by
  obtain ⟨d,e,a⟩:=It.item i v h X' m hd c
  rw[List.getElem?_map] at e
  cases q:as[i]? with
  | none=>rw[q] at e;cases e
  | some y=>rw[q] at e;cases e;exact ⟨y,rfl,a⟩,It.go⟩
theorem Src.typed {α:Type} (f:α→PyData) {target e:Expr} {as:List α} (x:Src At prog w A env I target e (as.map f)):Src (AtF f) prog w A env I target e as:=fun s E X hX hI =>
 x.wp hX hI fun v s' k i=>⟨k,i.typed f⟩
theorem src_listF {α:Type} (f:α→PyData) {target e:Expr} {as:List α} (hh:A.handled=none) (x:Ev prog w A env I e (.list (as.map f))):Src (AtF f) prog w A env I target e as:=(src_list hh x).typed f
theorem src_tupleF {α:Type} (f:α→PyData) {target e:Expr} {as:List α} (hh:A.handled=none) (x:Ev prog w A env I e (.tuple (as.map f))):Src (AtF f) prog w A env I target e as:=(src_tuple hh x).typed f
structure CEnv (scope:Scope) (cl:List (Str×Addr)) (env:Env) (C:Addr) (cenv:Env):Prop where
 le:LocEnv cenv C
 ge:GEnv env→GEnv cenv
 cells:cenv.cells=cellsFrom (C+1) scope.names cl
 k:∀ y k,scope.names.lookup y=some k→k≠.free→cenv.kindOf y=some k
 free:∀ y,scope.names.lookup y=some .free→cenv.kindOf y=some .cell∨cenv.kindOf y=some .free
theorem lookup_relabel {env:Env}:∀ {names:List (Str×NameKind)} {y:Str} {k:NameKind},names.lookup y=some k →
  ∃ k',(names.map fun (n,k)=>if (k == NameKind.free && env.scope.kind == .function && env.kindOf n == some .cell) then (n,NameKind.cell) else (n,k)).lookup y=some k'∧(k'=k∨(k=.free∧k'=.cell))
 | [],_,_,h=>by simp at h
 | (n,k0a)::r,y,k,h=>by
  have ih:=lookup_relabel (env:=env) (names:=r) (y:=y) (k:=k)
  show ∃ k',List.lookup y ((if (k0a == NameKind.free && env.scope.kind == .function && env.kindOf n == some .cell)=true then (n,NameKind.cell) else (n,k0a))::_)=_∧_
  cases hx:y == n with
  | true =>
   simp only[List.lookup_cons,hx] at h
   cases h
   by_cases hc:(k0a == NameKind.free && env.scope.kind == .function && env.kindOf n == some .cell)=true
   ·rw[if_pos hc]
    refine ⟨.cell,by simp only[List.lookup_cons,hx],.inr ⟨?_,rfl⟩⟩
    simp only[Bool.and_eq_true,beq_iff_eq] at hc
    exact hc.1.1
   ·rw[if_neg hc]
    exact ⟨k0a,by simp only[List.lookup_cons,hx],.inl rfl⟩
  | false =>
   simp only[List.lookup_cons,hx] at h
   obtain ⟨k',e,q⟩:=ih h
   refine ⟨k',?_,q⟩
   by_cases hc:(k0a == NameKind.free && env.scope.kind == .function && env.kindOf n == some .cell)=true
   ·rw[if_pos hc];simp only[List.lookup_cons,hx];exact e
   ·rw[if_neg hc];simp only[List.lookup_cons,hx];exact e
theorem cenv_of {scope:Scope} {cl:List (Str×Addr)} (hkind:scope.kind=.function):CEnv scope cl env C (cEnv scope cl C env) where
 le:=⟨hkind,rfl⟩
 ge:=fun g=>⟨hkind,g.g,g.b⟩
 cells:=rfl
 k:=fun y k h n=>by
  obtain ⟨k',e,q⟩:=lookup_relabel (env:=env) h
  rcases q with rfl|⟨rfl,_⟩
  ·exact e
  ·exact absurd rfl n
 free:=fun y h=>by
  obtain ⟨k',e,q⟩:=lookup_relabel (env:=env) h
  rcases q with rfl|⟨_,rfl⟩
  ·exact .inr e
  ·exact .inl e
/- targets -/
theorem tgt1 {α:Type} {f:α→PyData} {x:Str} {px:Pos} {a:α} (e:LocEnv cenv C) (hx:cenv.kindOf x=some .local):TgtT prog w A (AtF f) cenv (.Name x px) [C] (S0 C) (Loc C [(x,.dat (f a))]) a where
 assign:=fun s v E X hX=>by
  rintro ⟨m,hn⟩ q hm
  exact wpAny_assign_Name (store_local e hx hn fun h' hn' k =>
  ⟨h',_,rfl,k,⟨_,hn'⟩,Loc.set (D:=.dat (f a)) (ρ:=[]) (m':=m) hn (fun zz zz e=>by cases e) q (hm _ (.head _)) k hn'⟩)
inductive Binds (cenv:Env):List Expr→List PyData→List (Str×VD)→List (Str×VD)→Prop
 | nil {ρ:List (Str×VD)}:Binds cenv [] [] ρ ρ
 | cons {x:Str} {px:Pos} {es:List Expr} {d:PyData} {ds:List PyData} {ρ ρ':List (Str×VD)} (hx:cenv.kindOf x=some .local) (r:Binds cenv es ds ((x,.dat d)::ρ) ρ'):Binds cenv (.Name x px::es) (d::ds) ρ ρ'
theorem binds_go {E:VSP} {s0a:Heap} (e:LocEnv cenv C) (hC:C∈X) {es:List Expr} (b:Binds cenv es ds ρ ρ'):∀ {s:Shared} {vs:List Value},Loc C ρ X s.heap→AtAll X s.heap vs ds→Off [C] s0a s.heap →
  wpAny (model prog w) A (assignInOrder ((assignEach es cenv).map (·.2)) vs) (fun zz s'=>∃ h' tk,s'={ s with heap:=h',toks:=tk }∧Off [C] s0a h'∧Loc C ρ' X h') E s:=by
 induction b with
 | nil =>
  intro s vs l a o
  rw[a.nil_inv]
  exact wpAny_assignInOrder_none ⟨s.heap,s.toks,rfl,o,l⟩
 | cons hx _ ih =>
  intro s vs l a o
  obtain ⟨v,ws,rfl,a1a,a2a⟩:=a.cons_inv
  obtain ⟨m,hn,hr⟩:=l
  refine wpAny_assignInOrder_more (wpAny_assign_Name (store_local e hx hn fun h' hn' k=>?_))
  exact wpAny_mono (ih (Loc.set (m':=m) hn hr a1a hC k hn') (a2a.chg (chg_ns hn hC k)) (o.trans k)) (fun _ s'=>by
   rintro ⟨h2a,tk,q,r⟩
   exact ⟨h2a,tk,q,r⟩) fun zz zz x=>x
theorem tgtN {α:Type} {f:α→PyData} {es:List Expr} {k:Nat} {tp:Pos} {a:α} (hh:A.handled=none) (e:LocEnv cenv C) (hf:f a=.tuple ds) (hl:(assignEach es cenv).length=ds.length) (hs:(assignEach es cenv).findIdx? (·.1)=none) (hb:Binds cenv es ds [] ρ) :
  TgtT prog w A (AtF f) cenv (.Tuple es k tp) [C] (S0 C) (Loc C ρ) a where
 assign:=fun s v E X hX=>by
  rintro ⟨m,hn⟩ q hm
  have q:At X s.heap v (.tuple ds):=hf▸q
  obtain ⟨t,items,rfl,ht,r⟩:=q.tuple_inv
  have hlen:items.size=ds.length:=by have:=r.length;simpa using this
  refine wpAny_assign_Tuple hh ht (by rw[hlen,hl]) hs fun h1a k1a=>?_
  have k1a:=eo_off (size_none _) k1a
  refine wpAny_mono (binds_go (s0a:=s.heap) e (hm _ (.head _)) hb ⟨m,hn.at' fun o q=>k1a _ o q,fun zz zz e=>by cases e⟩ (r.ext k1a) (Ext.off k1a)) (fun _ s'=>by
   rintro ⟨h2a,tk,q,o,l⟩
   exact ⟨h2a,tk,q,o,l.ns,l⟩) fun zz zz x=>x
end
section
theorem compL {α:Type} {f:α→PyData} {elt target iter:Expr} {ifs:List Expr} {scope:Scope} {pos:Pos} {cl:List (Str×Addr)} {as:List α} (ρ:α→List (Str×VD)) (p:α→Bool) (o:α→PyData) (up:Up I)
  (hc:∀ x∈scope.names,x.2≠.cell) (hclos:closureFor scope env=pure cl) (hkind:scope.kind=.function) (hnames:∀ x∈scope.names,x.2=.local→scope.names.lookup x.1=some .local)
  (hsrc:Src (AtF f) prog w A env I target iter as)
  (hT:∀ C cenv,CEnv scope cl env C cenv→∀ a∈as,TgtT prog w A (AtF f) cenv target [C] (S0 C) (Loc C (ρ a)) a)
  (hts:∀ C cenv,CEnv scope cl env C cenv→∀ a∈as,Ts prog w A cenv (fun X h=>I X h∧Loc C (ρ a) X h) ifs (p a))
  (hel:∀ C cenv,CEnv scope cl env C cenv→∀ a∈as,p a=true→Ev prog w A cenv (fun X h=>I X h∧Loc C (ρ a) X h) elt (o a))
  (hlen:as.length≤1000) (hs:∀ x,foldedSetIterable iter env x=pure x:=by intro _;rfl) :
  Ev prog w A env I (.ListComp elt [⟨target,iter,ifs,0⟩] scope pos) (.list ((as.filter p).map o)):=by
 have h:=ev_comp (elt:=elt) (rest:=[]) (p0a:=iter.pos) (pos:=pos) (em:=fun cenv acc=>do let _ ← call (.builtin "list.append") [acc,← eval elt cenv]) (hs:=hs) (T:=AtF f) (ds:=as) (mt:=fun C=>[C]) (S:=S0) (B:=fun C a=>Loc C (ρ a)) (cl:=cl) p (fun a=>[o a]) up (shp0 hc) hclos hkind hnames hsrc (fun zz zz zz=>rfl)
  (fun C a m=>hT C _ (cenv_of hkind) a m) (fun C a m=>hts C _ (cenv_of hkind) a m) (fun zz zz zz C a m q=>em_elt (shp_ns C) (hel C _ (cenv_of hkind) a m q)) (fun C a X h h' k l=>l.ext k) hlen (fun zz zz zz=>by simp)
 refine Ev.eq ?_ h
 congr 1
 clear h hsrc hT hts hel hlen
 induction as with
 | nil=>rfl
 | cons a as ih =>
  rw[outsOf,List.flatMap_cons,List.filter_cons]
  cases q:p a <;> simp[← ih,outsOf]
end
section
theorem op_shl {a:Int} (h0:0≤b) (h1:b≤1000000) (ha:a.natAbs<2 ^ 64) (x:At X s.heap u (.int a)) (y:At X s.heap v (.int b)):Op prog w A (binaryOp .LShift u v) s X (.int (a * 2 ^ b.toNat)):=fun E=>by
 obtain ⟨t,rfl⟩:=x.int_inv;obtain ⟨t',rfl⟩:=y.int_inv
 exact PyProof.Rows.lshift_int_small h0 h1 ha ⟨kp_tok _ _,.int _ _⟩
theorem op_shr {a:Int} (h0:0≤b) (x:At X s.heap u (.int a)) (y:At X s.heap v (.int b)):Op prog w A (binaryOp .RShift u v) s X (.int (a.fdiv (2 ^ b.toNat))):=fun E=>by
 obtain ⟨t,rfl⟩:=x.int_inv;obtain ⟨t',rfl⟩:=y.int_inv
 exact PyProof.Rows.rshift_int h0 ⟨kp_tok _ _,.int _ _⟩
theorem op_band {a:Int} (x:At X s.heap u (.int a)) (y:At X s.heap v (.int b)):Op prog w A (binaryOp .BitAnd u v) s X (.int (Builtin.bitAnd a b)):=fun E=>by
 obtain ⟨t,rfl⟩:=x.int_inv;obtain ⟨t',rfl⟩:=y.int_inv
 exact PyProof.Rows.and_int ⟨kp_tok _ _,.int _ _⟩
theorem op_bor {a:Int} (x:At X s.heap u (.int a)) (y:At X s.heap v (.int b)):Op prog w A (binaryOp .BitOr u v) s X (.int (Builtin.bitOr a b)):=fun E=>by
 obtain ⟨t,rfl⟩:=x.int_inv;obtain ⟨t',rfl⟩:=y.int_inv
 exact PyProof.Rows.or_int ⟨kp_tok _ _,.int _ _⟩
/- bytes -/
noncomputable def IsB (ns:List Int) (v:Value):Prop:=∃ t,v=.bytes (byteArr ns) t
noncomputable def Oct (ns:List Int):Prop:=∀ n∈ns,0≤n∧n<256
theorem oct_get {ns:List Int} {i:Nat} {c:UInt8} (ho:Oct ns) (h:(byteArr ns)[i]?=some c):ns[i]?=some (c.toNat:Int):=by
 unfold byteArr at h
 rw[List.getElem?_toArray,List.getElem?_map] at h
 cases q:ns[i]? with
 | none=>rw[q] at h;cases h
 | some n =>
  rw[q] at h
  have hn:=ho n (List.mem_of_getElem? q)
  simp only[Option.map_some,Option.some.injEq] at h
  subst h
  have:(n.toNat.toUInt8).toNat=n.toNat:=by
   show n.toNat % 256=n.toNat
   lia
  rw[this]
  congr 1
  lia
theorem itb_bytes {target:Expr} {ns:List Int} (hh:A.handled=none) (ke:Ext h0a s.heap) (ho:Oct ns) (b:IsB ns v):Itb (AtF PyData.int) prog w A target X h0a s v ns:=fun Q E k=>by
 obtain ⟨t,rfl⟩:=b
 have W:=KBw.walks (prog:=prog) (w:=w) (A:=A) hh s.heap.objs.size (byteArr ns) t
 rw[byteArr_size] at W
 refine KBw.pyIter_bytes (k _ _ _ _ _ _ (kp_push _ _) (iter_of_walks (fun zz zz zz zz zz a b=>At.chg a b) W ⟨_,Heap.get?_push_size _ rfl,rfl,rfl⟩ ?_ ?_ ?_ ?_ ?_ ?_ ?_))
 ·intro b hb;rw[m_s hb];exact ⟨_,Heap.get?_push_size _ rfl⟩
 ·intro b hb;rw[m_s hb];exact none_before ke (size_none _)
 ·intro b hb;exact .inl hb
 ·rintro i h ⟨o,e,c,d⟩ b hb
  rw[m_s hb];exact ⟨o,e,not_tup_of_fields d⟩
 ·intro b hb;rw[m_s hb];exact size_none _
 ·rintro i v X' ⟨c,u,hc,rfl⟩ hd
  exact ⟨_,oct_get ho hc,.int _ _⟩
 ·rintro i v s' Q E ⟨o,e,c,d⟩ q
  exact go_plain e c d (by decide) q
theorem src_bytes {target e:Expr} {ns:List Int} (hh:A.handled=none) (ho:Oct ns) (x:EvR prog w A env I e (fun zz zz v=>IsB ns v)):Src (AtF PyData.int) prog w A env I target e ns:=fun s E X hX hI =>
 x.wp hX hI fun v s' k a=>⟨k,itb_bytes hh (kp_ext k) ho a⟩
theorem call_bytes {ns:List Int} (hh:A.handled=none) (ho:Oct ns) (hl:ns.length≤1000) (x:AtAll X s.heap vs [.list (ns.map .int)]) (E:VSP) :
  wpAny (model prog w) A (call (.type "bytes") vs) (fun v s'=>Keeps s s'∧IsB ns v) E s:=by
 obtain ⟨v,rfl,a⟩:=one_inv x
 obtain ⟨l,items,rfl,hn,hL,r⟩:=a.list_inv
 have hlen:items.size=ns.length:=by have:=r.length;simpa using this
 exact call_bytes_ints (vs:=items.toList) (by simpa using hL) (ints_of_at r) ho (by rw[sizeLine_eq];simp;lia) hh fun h' t k kk=>⟨⟨h',k,rfl,kk⟩,t,rfl⟩
theorem sub_bytes {value slice:Expr} {ns:List Int} {i n:Int} (ho:Oct ns) (hl:ns.length≤1000) (h0:0≤i) (hd:ns[i.toNat]?=some n) (x:IsB ns u) (y:At X s.heap v (.int i))
  (hs:∀ a t b,subscripted slice false (.bytes a b) (.int i t)=operate [.bytes a b,.int i t] (getItem (.bytes a b) (.int i t)):=by intro _ _ _;with_unfolding_all rfl) :
  wpAny (model prog w) A (subscriptTail value slice u v) (fun v s'=>Keeps s s'∧At X s'.heap v (.int n)) E s:=by
 obtain ⟨t,rfl⟩:=x
 obtain ⟨t',rfl⟩:=y.int_inv
 have hi:=(List.getElem?_eq_some_iff.mp hd).1
 have hn:=ho n (List.mem_of_getElem? hd)
 obtain ⟨l,hl'⟩:∃ l:List UInt8,l=ns.map fun n=>n.toNat.toUInt8:=⟨_,rfl⟩
 have hb:byteArr ns=l.toArray:=by rw[hl'];rfl
 have hlen:l.length=ns.length:=by rw[hl'];simp
 have hv:((l.getD i.toNat 0).toNat:Int)=n:=by
  rw[List.getD_eq_getElem?_getD,hl',List.getElem?_map,hd]
  show ((n.toNat % 256:Nat):Int)=n
  lia
 rw[hb]
 exact tail_any (typeIs_bytes s _ t) FB.slot_bytes_getitem.lookup (getItem_bytes (by lia) h0 (by lia) ⟨kp_tok _ _,hv▸.int _ _⟩) (hs _ _ _)
theorem ev_subR {value slice:Expr} {pos:Pos} {R:Value→Prop} {b c:PyData} (up:Up I) (x:EvR prog w A env I value (fun zz zz v=>R v)) (y:Ev prog w A env I slice b)
  (o:∀ s X u v E,R u→At X s.heap v b→wpAny (model prog w) A (subscriptTail value slice u v) (fun v s'=>Keeps s s'∧At X s'.heap v c) E s):Ev prog w A env I (.Subscript value slice pos) c:=fun s E X hX hI =>
 Subscript_ (x.wp hX hI fun u s1a k1a a1a=>y.wp (hX.ext (kp_ext k1a)) (up.ext (kp_ext k1a) hI) fun v s2a k2a b2b=>wpAny_mono (o s2a X u v E a1a b2b) (fun z s3a q=>⟨kp_trans k1a (kp_trans k2a q.1),q.2⟩) fun zz zz h=>h)
/- or,of any length -/
inductive Ors (prog:Program) (w:World) (A:Around) (env:Env) (I:XHP):List Expr→Bool→Prop
 | nil:Ors prog w A env I [] false
 | yes {x:Expr} {xs:List Expr} (h:Tr prog w A env I x true):Ors prog w A env I (x::xs) true
 | no {x:Expr} {xs:List Expr} {b:Bool} (h:Tr prog w A env I x false) (r:Ors prog w A env I xs b):Ors prog w A env I (x::xs) b
theorem ors_go (up:Up I) {xs:List Expr} {b:Bool} (o:Ors prog w A env I xs b):∀ (s:Shared) (E:VSP) (X:List Addr),Bd X s.heap→I X s.heap→wpAny (model prog w) A (allTrue .Or xs env) (fun c s'=>Keeps s s'∧c=b) E s:=by
 induction o with
 | nil=>exact fun s E X zz zz=>wpAny_allTrue_Or_nil ⟨kp_refl _,rfl⟩
 | yes h=>exact fun s E X hX hI=>wpAny_allTrue_Or_cons (h.wp hX hI fun s1a k1a=>⟨k1a,rfl⟩)
 | no h _ ih=>exact fun s E X hX hI=>wpAny_allTrue_Or_cons (h.wp hX hI fun s1a k1a=>wpAny_mono (ih s1a E X (hX.ext (kp_ext k1a)) (up.ext (kp_ext k1a) hI)) (fun c s2a q=>⟨kp_trans k1a q.1,q.2⟩) fun zz zz e=>e)
theorem tr_or {xs:List Expr} {pos:Pos} {b:Bool} (up:Up I) (o:Ors prog w A env I xs b):Tr prog w A env I (.BoolOp .Or xs pos) b:=fun s E X hX hI=>wpAny_isTrue_BoolOp (ors_go up o s E X hX hI)
theorem tr_is {l r:Expr} {pos:Pos} {R R':Value→Prop} {b:Bool} (up:Up I) (x:EvR prog w A env I l (fun zz zz v=>R v)) (y:EvR prog w A env I r (fun zz zz v=>R' v)) (h:∀ u v,R u→R' v→plainIs u v=true∧(u == v)=b) (hm:behindInMarks .Is r=false:=by with_unfolding_all rfl) :
  Tr prog w A env I (.Compare l [.Is] [r] pos) b:=fun s E X hX hI =>
 wpAny_isTrue_Compare1 (hm:=hm) (x.wp hX hI fun u s1a k1a a1a=>y.wp (hX.ext (kp_ext k1a)) (up.ext (kp_ext k1a) hI) fun v s2a k2a b2b=>wpAny_is_plain (h u v a1a b2b).1 (by rw[(h u v a1a b2b).2];exact wpAny_truthy_bool ⟨kp_trans k1a k2a,rfl⟩))
theorem tr_isnt {l r:Expr} {pos:Pos} {R R':Value→Prop} {b:Bool} (up:Up I) (x:EvR prog w A env I l (fun zz zz v=>R v)) (y:EvR prog w A env I r (fun zz zz v=>R' v)) (h:∀ u v,R u→R' v→plainIs u v=true∧(!(u == v))=b) (hm:behindInMarks .IsNot r=false:=by with_unfolding_all rfl) :
  Tr prog w A env I (.Compare l [.IsNot] [r] pos) b:=fun s E X hX hI =>
 wpAny_isTrue_Compare1 (hm:=hm) (x.wp hX hI fun u s1a k1a a1a=>y.wp (hX.ext (kp_ext k1a)) (up.ext (kp_ext k1a) hI) fun v s2a k2a b2b=>wpAny_isNot_plain (h u v a1a b2b).1 (by rw[(h u v a1a b2b).2];exact wpAny_truthy_bool ⟨kp_trans k1a k2a,rfl⟩))
theorem tr_val {e:Expr} {b:Bool} {P:Value→Prop} (up:Up I) (x:EvR prog w A env I e (fun zz zz v=>P v)) (ht:∀ v s Q E,P v→Q b s→wpAny (model prog w) A (truthy v) Q E s)
  (h:isTrue e env (eval e env)=(do let v ← eval e env;standAt e.pos;holding [v] (truthy v)):=by rfl):Tr prog w A env I e b:=fun s E X hX hI =>
 wpAny_isTrue_value (x.wp hX hI fun v s1a k1a a=>ht _ _ _ _ a ⟨k1a,rfl⟩) h
/- while -/
theorem while_nr {test:Expr} {body:List Stmt} {pos:Pos} {Q:FSP} (J:Nat→Heap→Prop) (n0a:Nat) (h0:J n0a s.heap)
  (turn:∀ n h tk,J n h→NR prog w A (isTrue test env (eval test env)) (fun b s1a=>if b then NR prog w A (execs body env) (fun f s2a=>match f with
    | .next|.cont=>∃ m h' tk',s2a={ s with heap:=h',toks:=tk' }∧m<n∧J m h'
    | .brk=>Q .next s2a
    | .ret v=>Q (.ret v) s2a) s1a else Q .next s1a) { s with heap:=h,toks:=tk }):NR prog w A (exec (.While test body [] pos) env) Q s:=by
 refine wpAny_While (codeAny_whileLoop (fun n s'=>∃ h tk,s'={ s with heap:=h,toks:=tk }∧J n h) ?_ n0a ⟨s.heap,s.toks,rfl,h0⟩)
 rintro n s' ⟨h,tk,rfl,hJ⟩
 refine wpAny_noRaise (wpAny_mono (turn n h tk hJ) (fun b s1a q=>?_) fun zz zz x=>x)
 cases b with
 | false=>exact wpAny_execs_nil q
 | true =>
  refine wpAny_noRaise (wpAny_mono q (fun f s2a q=>?_) fun zz zz x=>x)
  cases f with
  | next=>obtain ⟨m,h',tk',rfl,hm,hj⟩:=q;exact ⟨m,hm,h',tk',rfl,hj⟩
  | cont=>obtain ⟨m,h',tk',rfl,hm,hj⟩:=q;exact ⟨m,hm,h',tk',rfl,hj⟩
  | brk=>exact q
  | ret v=>exact q
end
section
theorem asgx2 {x:Str} {px pos:Pos} {e:Expr} {P:Value→Prop} {Q:FSP} (r:Rest L R) (st:Fr2 K mg mb h0a L ρ R X s.heap) (hev:EvR prog w A env (Fr2 K mg mb h0a L ρ R) e (fun zz zz v=>P v)) (hX:Bd X s.heap) (le:LocEnv env L) (hx:env.kindOf x=some .local)
  (G:GK K mg mb h0a) (hL0:h0a.get? L=none) (hL:L∈X) (k:∀ h' tk u,P u→Off [L] s.heap h'→Bd X h'→Fr2 K mg mb h0a L ((x,.val u)::ρ) R X h'→Q .next { s with heap:=h',toks:=tk })
  (hs:swapsWith e (some (.Name x px)) pos.line env=pure false:=by rfl):NR prog w A (exec (.Assign [.Name x px] e pos) env) Q s :=
 wpAny_Assign_Name (hs:=hs) (hev.wp hX st fun v s1a k1a a=>by
  obtain ⟨h1a,tk,rfl,e1a⟩:=k1a
  have e1a:Ext s.heap h1a:=e1a
  have st1:=up2 r _ _ _ _ e1a (Hid.refl X _) st
  obtain ⟨m,hn,hr⟩:=st1.1.2.2
  refine store_local le hx hn fun h' hn' ko=>?_
  have l:=Loc.set (D:=.val v) (m':=m) hn hr rfl hL ko hn'
  exact k h' _ v a ((Ext.off e1a).trans ko) (fs_bd (hX.ext e1a) ko l) ⟨fs_next st1.1 G hL0 ko l,r.off _ _ _ st1.2 hL st1.1.nt ko⟩)
end
section
theorem off1 {D:Addr} {a b:Heap} (k:Off [L] a b):Off [L,D] a b:=k.mono fun q m=>by rw[m_s m];exact .head _
theorem off2 {D:Addr} {a b:Heap} (k:Off [D] a b):Off [L,D] a b:=k.mono fun q m=>.tail _ m
theorem for_d {α β:Type} {T:List Addr→Heap→Value→α→Prop} {target iter:Expr} {body:List Stmt} {pos:Pos} {ds:List α} {D:Addr} {Q:FSP} (P:Nat→β→Prop) (ρ:β→List (Str×VD)) (dd:β→List PyData) {ρ0a:List (Str×VD)} {d0a:List PyData}
  (st:Fr2 K mg mb h0a L ρ0a (Ml D d0a) X s.heap) (start:∃ b,P 0 b∧(∀ x E,(ρ b).lookup x=some E→ρ0a.lookup x=some E)∧dd b=d0a) (hsrc:Src T prog w A env (Fr2 K mg mb h0a L ρ0a (Ml D d0a)) target iter ds) (hX:Bd X s.heap)
  (G:GK K mg mb h0a) (hL:L∈X) (hD:D∈X) (hDL:D≠L)
  (turn:∀ i d v h' tk X' b,ds[i]?=some d→T X' h' v d→Bd X' h'→L∈X'→D∈X'→P i b→Fr2 K mg mb h0a L (ρ b) (Ml D (dd b)) X' h' →
   NR prog w A (assign target env v) (fun zz s1a=>NR prog w A (execs body env) (fun f s2a=>(match f with
    | .next|.cont=>∃ h2a tk2 b',s2a={ s with heap:=h2a,toks:=tk2 }∧Off [L,D] h' h2a∧P (i+1) b'∧Fr2 K mg mb h0a L (ρ b') (Ml D (dd b')) X' h2a
    | .brk=>Q .next s2a
    | .ret v=>Q (.ret v) s2a:Prop)) s1a) { s with heap:=h',toks:=tk })
  (done:∀ h' tk b,Bd X h'→P ds.length b→Fr2 K mg mb h0a L (ρ b) (Ml D (dd b)) X h'→Off [L,D] s.heap h'→Q .next { s with heap:=h',toks:=tk })
  (hs:∀ x,foldedSetIterable iter env x=pure x:=by intro _;rfl):NR prog w A (exec (.For target iter body [] pos) env) Q s:=by
 have rm:∀ ds,Rest L (Ml D ds):=fun ds=>rest_ml hDL
 refine for_loop (hs:=hs) (M:=[L,D]) (Inv:=fun i X' h=>∃ b,P i b∧Fr2 K mg mb h0a L (ρ b) (Ml D (dd b)) X' h) hsrc hX st (fun b m=>?_) (fun h X' k q zz=>?_) ?_ ?_ (fun i d v h' tk X' hd hv hb hh sub o bpf=>?_) fun h' tk X' hb sub o bpf=>?_
 ·rcases mC m with rfl|m
  ·exact ⟨hL,exl (st.1.nt)⟩
  ·rw[m_s m];exact ⟨hD,exl (st.2.nt)⟩
 ·obtain ⟨b,p,e1,e2⟩:=start
  have q:=up2 (rm d0a) _ _ _ _ k q st
  refine ⟨b,p,⟨q.1.1,q.1.2.1,q.1.2.2.sub e1⟩,e2▸q.2⟩
 ·rintro i X' h ⟨b,_,f,m⟩ a ha
  rcases mC ha with rfl|ha
  ·exact f.nt
  ·rw[m_s ha];exact m.nt
 ·rintro i X' h h' Wr ⟨b,p,f,m⟩ hW k
  have hDW:D∉Wr:=fun q=>by obtain ⟨o,e,_⟩:=st.2.nt;rw[(hW D q).2.1] at e;cases e
  have hLW:∀ b∈Wr,b≠L:=fun b q e=>by obtain ⟨o,e',_⟩:=st.1.nt;have:=(hW b q).2.1;rw[e] at this;rw[this] at e';cases e'
  exact ⟨b,p,f.off G k fun b q=>⟨none_before st.1.2.1 (hW b q).2.1,(hW b q).1,hLW b q,(hW b q).2.2⟩,m.off k hDW fun b q=>⟨(hW b q).1,(hW b q).2.2⟩⟩
 ·obtain ⟨b,p,f⟩:=bpf
  refine wpAny_mono (turn i d v h' tk X' b hd hv hb (sub _ hL) (sub _ hD) p f) (fun zz s1a q=>wpAny_mono q (fun fl s2a q=>?_) fun zz zz e=>e) fun zz zz e=>e
  cases fl with
  | next=>obtain ⟨h2a,tk2,b',e,o,p,f⟩:=q;exact ⟨h2a,tk2,e,o,b',p,f⟩
  | cont=>obtain ⟨h2a,tk2,b',e,o,p,f⟩:=q;exact ⟨h2a,tk2,e,o,b',p,f⟩
  | brk=>exact q
  | ret v=>exact q
 ·obtain ⟨b,p,f⟩:=bpf
  exact done h' tk b hb p (up2 (rm _) _ _ _ _ (Ext.refl _) (fun x m=>.inl (sub x m)) f) o
theorem fr2_append {D:Addr} {ds':List PyData} (G:GK K mg mb h0a) (f:Fr2 K mg mb h0a L ρ (Ml D ds) X h1a) (n:NT h1a D) (o:Off [D] h1a h') (hD0:h0a.get? D=none) (hD:D∈X) (hDL:D≠L) (m:Ml D ds' X h'):Fr2 K mg mb h0a L ρ (Ml D ds') X h' :=
 ⟨f.1.off G o fun b q=>by rw[m_s q];exact ⟨hD0,hD,hDL,n.mk⟩,m⟩
noncomputable def Fl (D:Addr) (ds:List PyData) (X:List Addr) (h:Heap):Prop:=Ml D ds X h∧D∉X
theorem up_fl {D:Addr}:Up (Fl D ds):=fun X X' h h' k q=>by
 rintro ⟨m,n⟩
 exact ⟨(m.hid q).ext k,fun x=>(q D x).elim n fun e=>by obtain ⟨o,e',_⟩:=m.nt;rw[e] at e';cases e'⟩
theorem rest_fl {D:Addr} (hDL:D≠L):Rest L (Fl D ds):=⟨up_fl,fun X h h'=>by
 rintro ⟨x,n⟩ hL nt k
 exact ⟨(rest_ml hDL).off X h h' x hL nt k,n⟩⟩
theorem ev_fl {e:Expr} {D:Addr} (up:Up I) (hn:EvR prog w A env I e (fun zz zz v=>v=.ref D)) (hI:∀ X h,I X h→Fl D ds X h):Ev prog w A env I e (.list ds):=fun s E X hX i =>
 hn.wp hX i fun v s' k e=>⟨k,by rw[e];have:=hI _ _ (up.ext (kp_ext k) i);exact this.1.at (Hid.refl _ _) this.2⟩
end
theorem off_update (h:Heap) (a:Addr) (f:Obj→Obj):Off [a] h (h.update a f):=fun b o n e=>by
 rw[Heap.get?_update_other h f (fun q=>n (by rw[q];exact List.mem_singleton_self _))];exact e
section
variable {x:Addr}
set_option tactic.hygienic true in
theorem osa_at {ox od:Obj} {od':Tok→Obj} {name:Str} {es:Tok→List DictEntry} {n:Nat} {tk0a:Tok} {R:Result→Shared→Prop} (X:K.In s.heap) (I:InstAt s.heap x ox C (some od)) (hd:ox.dict=some dx) (D:s.heap.get? dx=some od)
  (hp:plainOver K C=true) (ht:takerIn K C name=some none) (hh:(clsIn K C).any (·.hasDict)=true)
  (hl:(lookIn name od).isSome=true) (e:∀ t,Obj.putName name (PyData.keyHash w.params name) (.str name t) v od=od' t) (e':∀ t,(od' t).data=.dict (es t).toArray n) (hz:∀ t,(es t).length≤1000)
  (h:∀ h' t tk,Off [dx] s.heap h'→h'.get? dx=some (od' t)→R (.ok (.ret .none)) { s with heap:=h',toks:=tk }) :
  codeAny (model prog w) A (.call (.builtin "object.__setattr__") ⟨[.ref x,.str name tk0a,v],[]⟩) R s:=by
 refine osa_open X I hp ht fun b=>?_
 obtain ⟨cd,hc,hd'⟩:=any_some hh
 obtain ⟨hx,hcl,hn,-⟩:=I
 obtain ⟨oc,odi,oda,osl⟩:=ox
 dsimp only at hcl hd
 subst hcl hd
 refine wpAny_bind (wpAny_pure (wpAny_bind (wpAny_bind (wpAny_loadPart hx (wpAny_bind ((looks_clsIn X hc).here ?_))))))
 rw[hd']
 refine wpAny_pure (a:=some dx) (wpAny_bind (wpAny_pure (wpAny_bind ?_)))
 unfold nsSet
 refine wpAny_bind (wpAny_bind (wpAny_askSetting (wpAny_pure (wpAny_bind (wpAny_mkText (wpAny_bind (wpAny_loadPart D ?_)))))))
 obtain ⟨es0,n0a,q,c⟩:∃ es0 n0a,od.data=.dict es0 n0a∧(!es0.any (·.key.isStr name) && es0.any (·.refKey))=false:=by
  unfold lookIn at hl
  split at hl
  ·rename_i es0 n0a q
   refine ⟨es0,n0a,q,?_⟩
   rw[← Array.any_toList,← Array.any_toList]
   split at hl
   ·rename_i en he
    rw[List.any_eq_true.mpr ⟨en,List.mem_of_find?_eq_some he,List.find?_some he⟩];rfl
   ·split at hl
    ·cases hl
    ·rename_i z;rw[Bool.not_eq_true] at z;rw[z,Bool.and_false]
  ·cases hl
 rw[q]
 dsimp only
 rw[aRefKeyMayBeTheName_at,c]
 have D':=Heap.get?_update_self (h:=s.heap) (Obj.putName name (PyData.keyHash w.params name) (.str name (s.toks)) v) D (by rw[e];have:=e' s.toks;generalize od' s.toks=oo at this ⊢;obtain ⟨_,_,dd,_⟩:=oo;dsimp only at this;subst this;rfl)
 refine wpAny_updatePart D (wpAny_bind (wpAny_lookBehind D' (by rw[e,e'];exact pastItsLine_dict (by rw[List.size_toArray,sizeLine_eq];have:=hz (s.toks);lia)) ?_))
 exact wpAny_pure (h _ (s.toks) _ (off_update _ _ _) (by rw[← e];exact D'))
theorem store_own {ox od:Obj} {od':Tok→Obj} {name:Str} {es:Tok→List DictEntry} {n:Nat} {Q:Unit→Shared→Prop} (X:K.In s.heap) (I:InstAt s.heap x ox C (some od)) (hd:ox.dict=some dx) (D:s.heap.get? dx=some od)
  (hs:findIn K (.ref C) "__setattr__"=some (some (.builtin "object.__setattr__"))) (hp:plainOver K C=true) (ht:takerIn K C name=some none) (hh:(clsIn K C).any (·.hasDict)=true)
  (hl:(lookIn name od).isSome=true) (e:∀ t,Obj.putName name (PyData.keyHash w.params name) (.str name t) v od=od' t) (e':∀ t,(od' t).data=.dict (es t).toArray n) (hz:∀ t,(es t).length≤1000)
  (h:∀ h' t tk,Off [dx] s.heap h'→h'.get? dx=some (od' t)→Q () { s with heap:=h',toks:=tk }) :
  wpAny (model prog w) A (setAttr (.ref x) name v) Q E s :=
 set_plain X I hs (osa_at (s:={ s with toks:=s.toks+1 }) X I hd D hp ht hh hl e e' hz fun h' t tk o d=>h h' t tk o d)
end
structure Nd where
 fl:Int→Bool
 nf:Nat
 rf:Int→Bool
 nr:Nat
noncomputable abbrev Sg:=List Str→Option Nd
noncomputable def Live (σ:Sg) (p:List Str) (i:Nat):Prop:=(p=[]∧i=0)∨(p≠[]∧(σ p).isSome=true∧i<4)
structure Rep (prog:Program) (w:World) (hb h:Heap) (adr:List Str→Nat→Addr) (σ:Sg) (N:Nat):Prop where
 cont:∀ p,Live σ p 0→∃ kvs:List (Str×Value),h.DictOf (strKind prog w) (adr p 0) kvs∧kvs.length≤N∧∀ k,valueAt kvs k=if (σ (p++[k])).isSome then some (.ref (adr (p++[k]) 1)) else none
 node:∀ p nd,p≠[]→σ p=some nd→h.DictOf (strKind prog w) (adr p 1) [("flags",.ref (adr p 2)),("recursive_flags",.ref (adr p 3)),("nested",.ref (adr p 0))] ∧
  h.SetOf (intKind prog w) (adr p 2) nd.fl nd.nf∧h.SetOf (intKind prog w) (adr p 3) nd.rf nd.nr∧nd.nf≤N∧nd.nr≤N
 closed:∀ p k,(σ (p++[k])).isSome=true→Live σ p 0
 inj:∀ p i q j,Live σ p i→Live σ q j→adr p i=adr q j→p=q∧i=j
 new:∀ p i,Live σ p i→hb.get? (adr p i)=none
theorem dictOf_keep {K:Type} [DecidableEq K] {knd:KeyKind prog w K} {kvs:List (K×Value)} (d:h.DictOf knd a kvs) (k:∀ o,h.get? a=some o→h'.get? a=some o):h'.DictOf knd a kvs :=
 by
  obtain ⟨o,es,ep,e,r⟩:=d
  exact ⟨o,es,ep,k o e,r⟩
theorem setOf_keep {K:Type} [DecidableEq K] {knd:KeyKind prog w K} {S:K→Bool} {n:Nat} (d:h.SetOf knd a S n) (k:∀ o,h.get? a=some o→h'.get? a=some o):h'.SetOf knd a S n :=
 by
  obtain ⟨o,es,ep,t,e,r⟩:=d
  exact ⟨o,es,ep,t,k o e,r⟩
noncomputable def OffL (adr:List Str→Nat→Addr) (σ:Sg) (h h':Heap):Prop:=∀ b o,h.get? b=some o→(∀ p i,Live σ p i→adr p i≠b)→h'.get? b=some o
section
variable {adr:List Str→Nat→Addr} {σ:Sg}
theorem live0 {p:List Str} (h:p≠[]→(σ p).isSome=true):Live σ p 0:=by
 by_cases q:p=[]
 ·exact .inl ⟨q,rfl⟩
 ·exact .inr ⟨q,h q,by decide⟩
theorem live_of {p:List Str} {i:Nat} (hp:p≠[]) (hs:(σ p).isSome=true) (hi:i<4:=by decide):Live σ p i:=.inr ⟨hp,hs,hi⟩
theorem snoc_ne (p:List Str) (k:Str):p++[k]≠[]:=by simp
theorem Rep.ext (r:Rep prog w hb h adr σ N) (k:Ext h h'):Rep prog w hb h' adr σ N where
 cont:=fun p l=>by
  obtain ⟨kvs,a,b⟩:=r.cont p l
  exact ⟨kvs,dictOf_keep a fun o e=>k _ _ e,b⟩
 node:=fun p nd hp e=>by
  obtain ⟨a,b,c,d⟩:=r.node p nd hp e
  exact ⟨dictOf_keep a fun o e=>k _ _ e,setOf_keep b fun o e=>k _ _ e,setOf_keep c fun o e=>k _ _ e,d⟩
 closed:=r.closed
 inj:=r.inj
 new:=r.new
theorem Rep.off {M:List Addr} (r:Rep prog w hb h adr σ N) (k:Off M h h') (hM:∀ p i,Live σ p i→adr p i∉M):Rep prog w hb h' adr σ N where
 cont:=fun p l=>by
  obtain ⟨kvs,a,b⟩:=r.cont p l
  exact ⟨kvs,dictOf_keep a fun o e=>k _ _ (hM p 0 l) e,b⟩
 node:=fun p nd hp e=>by
  obtain ⟨a,b,c,d⟩:=r.node p nd hp e
  exact ⟨dictOf_keep a fun o q=>k _ _ (hM _ _ (live_of hp (by rw[e];rfl))) q,setOf_keep b fun o q=>k _ _ (hM _ _ (live_of hp (by rw[e];rfl))) q,setOf_keep c fun o q=>k _ _ (hM _ _ (live_of hp (by rw[e];rfl))) q,d⟩
 closed:=r.closed
 inj:=r.inj
 new:=r.new
theorem Rep.there (r:Rep prog w hb h adr σ N) {p:List Str} {i:Nat} (l:Live σ p i):∃ o,h.get? (adr p i)=some o∧¬ TupObj o:=by
 have dt:∀ {a:Addr} {kvs:List (Str×Value)},h.DictOf (strKind prog w) a kvs→∃ o,h.get? a=some o∧¬ TupObj o:=by
  rintro a kvs ⟨o,es,ep,e,_,d,_⟩
  exact ⟨o,e,not_tup_of_dict d⟩
 have st:∀ {a:Addr} {S:Int→Bool} {n:Nat},h.SetOf (intKind prog w) a S n→∃ o,h.get? a=some o∧¬ TupObj o:=by
  rintro a S n ⟨o,es,ep,t,e,c,_⟩
  exact ⟨o,e,not_tup_of_cls c.1 (by decide)⟩
 rcases l with ⟨rfl,rfl⟩|⟨hp,hs,hi⟩
 ·obtain ⟨kvs,a,_⟩:=r.cont [] (.inl ⟨rfl,rfl⟩)
  exact dt a
 ·obtain ⟨nd,e⟩:=Option.isSome_iff_exists.mp hs
  obtain ⟨a,b,c,_⟩:=r.node p nd hp e
  rcases i with _|_|_|_|i
  ·obtain ⟨kvs,a,_⟩:=r.cont p (live_of hp hs);exact dt a
  ·exact dt a
  ·exact st b
  ·exact st c
  ·exact absurd hi (by lia)
theorem Rep.mono (r:Rep prog w hb h adr σ N) {M:Nat} (q:N≤M):Rep prog w hb h adr σ M where
 cont:=fun p l=>by
  obtain ⟨kvs,a,b,c⟩:=r.cont p l
  exact ⟨kvs,a,Nat.le_trans b q,c⟩
 node:=fun p nd hp e=>by
  obtain ⟨a,b,c,d,f⟩:=r.node p nd hp e
  exact ⟨a,b,c,Nat.le_trans d q,Nat.le_trans f q⟩
 closed:=r.closed
 inj:=r.inj
 new:=r.new
end
theorem valueAt_stored {K:Type} [DecidableEq K] (kvs:List (K×Value)) (k j:K) (v:Value):valueAt (stored kvs k v) j=if j=k then some v else valueAt kvs j:=by
 have app:∀ l:List (K×Value),(∀ x∈l,x.1≠k)→valueAt (l++[(k,v)]) j=if j=k then some v else valueAt l j:=fun l hl=>by
  unfold valueAt
  rw[List.find?_append]
  by_cases q:j=k
  ·subst q
   rw[if_pos rfl,List.find?_eq_none.mpr (fun x m=>by simpa using hl x m)]
   simp
  ·rw[if_neg q]
   have:List.find? (fun kv:K×Value=>decide (kv.1=j)) [(k,v)]=none:=by simp[Ne.symm q]
   rw[this,Option.or_none]
 have mp:∀ l:List (K×Value),valueAt (l.map fun kv=>if kv.1=k then (kv.1,v) else kv) j=if j=k then (if l.any (fun kv=>kv.1=k) then some v else none) else valueAt l j:=fun l=>by
  induction l with
  | nil =>
   show (none:Option Value)=if j=k then (if false=true then some v else none) else none
   rw[if_neg Bool.false_ne_true,ite_self]
  | cons x l ih =>
   unfold valueAt at ih ⊢
   rw[List.map_cons,List.find?_cons,List.find?_cons,List.any_cons]
   by_cases hx:x.1=k
   ·rw[if_pos hx]
    by_cases q:j=k
    ·subst q;simp[hx]
    ·have:¬ x.1=j:=fun e=>q (e.symm.trans hx)
     simp only[this,decide_false]
     rw[ih,if_neg q,if_neg q]
   ·rw[if_neg hx]
    by_cases q:x.1=j
    ·have:¬ j=k:=fun e=>hx (q.trans e)
     simp[q,this]
    ·simp only[q,decide_false,hx,Bool.false_or]
     exact ih
 unfold stored
 by_cases h:kvs.any (fun kv=>kv.1=k)=true
 ·rw[if_pos h,mp,h,if_pos rfl]
 ·rw[if_neg h]
  exact app kvs fun x m e=>h (List.any_eq_true.mpr ⟨x,m,by simpa using e⟩)
theorem valueAt_without {K:Type} [DecidableEq K] (kvs:List (K×Value)) (k j:K):valueAt (without kvs k) j=if j=k then none else valueAt kvs j:=by
 induction kvs with
 | nil =>
  show (none:Option Value)=if j=k then none else none
  rw[ite_self]
 | cons x l ih =>
  unfold valueAt without at ih ⊢
  rw[List.filter_cons,List.find?_cons]
  by_cases hx:x.1=k
  ·rw[if_neg (by simpa using hx),ih]
   by_cases q:j=k
   ·rw[if_pos q,if_pos q]
   ·rw[if_neg q,if_neg q]
    have:¬ x.1=j:=fun e=>q (e.symm.trans hx)
    simp[this]
  ·rw[if_pos (by simpa using hx),List.find?_cons]
   by_cases q:x.1=j
   ·have:¬ j=k:=fun e=>hx (q.trans e)
    simp[q,this]
   ·simp only[q,decide_false]
    exact ih
theorem stored_le {K:Type} [DecidableEq K] (kvs:List (K×Value)) (k:K) (v:Value):(stored kvs k v).length≤kvs.length+1:=by
 unfold stored;split <;> simp
theorem without_le {K:Type} [DecidableEq K] (kvs:List (K×Value)) (k:K):(without kvs k).length≤kvs.length:=List.length_filter_le _ _
noncomputable def mkN (σ:Sg) (q:List Str):Sg:=fun p=>if p=q then some ⟨fun zz=>false,0,fun zz=>false,0⟩ else σ p
noncomputable def mkA (adr:List Str→Nat→Addr) (q:List Str) (a:Nat→Addr):List Str→Nat→Addr:=fun p i=>if p=q then a i else adr p i
section
variable {h2a:Heap} {adr:List Str→Nat→Addr} {σ:Sg}
theorem live_mk {p:List Str} {i:Nat} (h:σ q=none):Live (mkN σ q) p i→Live σ p i∨(p=q∧i<4):=fun l=>by
 rcases l with ⟨a,b⟩|⟨a,b,c⟩
 ·exact .inl (.inl ⟨a,b⟩)
 ·unfold mkN at b
  split at b
  ·exact .inr ⟨‹_›,c⟩
  ·exact .inl (.inr ⟨a,b,c⟩)
theorem Rep.create (r:Rep prog w hb h adr σ N) {p:List Str} {k:Str} (lp:Live σ p 0) (hn:σ (p++[k])=none) {a:Nat→Addr} (ha:∀ i,i<4→h.get? (a i)=none) (haj:∀ i j,i<4→j<4→a i=a j→i=j) (hbn:Ext hb h)
  (e1:Ext h h1a) (d0:h1a.DictOf (strKind prog w) (a 0) []) (d1:h1a.DictOf (strKind prog w) (a 1) [("flags",.ref (a 2)),("recursive_flags",.ref (a 3)),("nested",.ref (a 0))])
  (s2:h1a.SetOf (intKind prog w) (a 2) (fun zz=>false) 0) (s3:h1a.SetOf (intKind prog w) (a 3) (fun zz=>false) 0)
  {kvs:List (Str×Value)} (hd:h1a.DictOf (strKind prog w) (adr p 0) kvs) (hv:∀ k,valueAt kvs k=if (σ (p++[k])).isSome then some (.ref (adr (p++[k]) 1)) else none) (hl:kvs.length≤N)
  (hd':h2a.DictOf (strKind prog w) (adr p 0) (stored kvs k (.ref (a 1)))) (o2a:Off [adr p 0] h1a h2a):Rep prog w hb h2a (mkA adr (p++[k]) a) (mkN σ (p++[k])) (N+1):=by
 have old:∀ {q i},Live σ q i→q≠p++[k]:=fun {q i} l e=>by
  rcases l with ⟨a,_⟩|⟨_,b,_⟩
  ·exact snoc_ne p k (e.symm.trans a)
  ·rw[e,hn] at b;cases b
 have hne:∀ {q i j},Live σ q i→j<4→adr q i≠a j:=fun l hj e=>by
  obtain ⟨o,q,_⟩:=r.there l
  rw[e,ha _ hj] at q;cases q
 have A:∀ {q i},Live σ q i→mkA adr (p++[k]) a q i=adr q i:=fun l=>if_neg (old l)
 have A':∀ i,mkA adr (p++[k]) a (p++[k]) i=a i:=fun i=>if_pos rfl
 have kp:∀ {b:Addr},b≠adr p 0→∀ o,h1a.get? b=some o→h2a.get? b=some o:=fun n o e=>o2a _ o (fun m=>n (m_s m)) e
 have below:∀ j,mkN σ (p++[k]) (p++[k]++[j])=none:=fun j=>by
  unfold mkN
  rw[if_neg (by simp)]
  cases q:σ (p++[k]++[j]) with
  | none=>rfl
  | some nd =>
   have:=r.closed (p++[k]) j (by rw[q];rfl)
   exact absurd rfl (old this)
 refine ⟨fun q l=>?_,fun q nd hq e=>?_,fun q j hs=>?_,fun q i q' i' l l' e=>?_,fun q i l=>?_⟩
 ·rcases live_mk hn l with l0a|⟨rfl,_⟩
  ·by_cases hqp:q=p
   ·subst hqp
    refine ⟨_,(A l0a).symm▸hd',Nat.le_trans (stored_le _ _ _) (by lia),fun j=>?_⟩
    rw[valueAt_stored,hv]
    by_cases hj:j=k
    ·subst hj
     rw[if_pos rfl,A'];unfold mkN;rw[if_pos rfl];rfl
    ·have:q++[j]≠q++[k]:=fun e=>hj (by simpa using e)
     rw[if_neg hj];unfold mkN mkA;rw[if_neg this,if_neg this]
   ·obtain ⟨kvs',d,l',v⟩:=r.cont q l0a
    have hadr:adr q 0≠adr p 0:=fun e=>hqp (r.inj _ _ _ _ l0a lp e).1
    refine ⟨kvs',(A l0a).symm▸dictOf_keep d fun o e=>kp hadr o (e1 _ _ e),by lia,fun j=>?_⟩
    have:q++[j]≠p++[k]:=fun e=>hqp (List.append_inj_left' e rfl)
    rw[v];unfold mkN mkA;rw[if_neg this,if_neg this]
  ·refine ⟨[],(A' 0).symm▸dictOf_keep d0 (kp fun e=>hne lp (by decide) e.symm),by simp,fun j=>?_⟩
   rw[below];rfl
 ·by_cases hqp:q=p++[k]
  ·subst hqp
   unfold mkN at e;rw[if_pos rfl] at e;cases e
   rw[A',A',A',A']
   exact ⟨dictOf_keep d1 (kp fun e=>hne lp (by decide) e.symm),setOf_keep s2 (kp fun e=>hne lp (by decide) e.symm),setOf_keep s3 (kp fun e=>hne lp (by decide) e.symm),Nat.zero_le _,Nat.zero_le _⟩
  ·unfold mkN at e;rw[if_neg hqp] at e
   obtain ⟨d,s,t,x,y⟩:=r.node q nd hq e
   have hs:(σ q).isSome=true:=by rw[e];rfl
   have L:=fun i (hi:i<4)=>live_of (σ:=σ) (i:=i) hq hs hi
   have nep:∀ i,i<4→i≠0→adr q i≠adr p 0:=fun i hi n e=>n (r.inj _ _ _ _ (L i hi) lp e).2
   unfold mkA;rw[if_neg hqp,if_neg hqp,if_neg hqp,if_neg hqp]
   exact ⟨dictOf_keep d fun o e=>kp (nep 1 (by decide) (by decide)) o (e1 _ _ e),setOf_keep s fun o e=>kp (nep 2 (by decide) (by decide)) o (e1 _ _ e),setOf_keep t fun o e=>kp (nep 3 (by decide) (by decide)) o (e1 _ _ e),by lia,by lia⟩
 ·have up:∀ {q},Live σ q 0→Live (mkN σ (p++[k])) q 0:=fun {q} l=>by
   rcases l with l|⟨a,b,c⟩
   ·exact .inl l
   ·refine .inr ⟨a,?_,c⟩
    unfold mkN;split
    ·rfl
    ·exact b
  by_cases hqp:q++[j]=p++[k]
  ·have:q=p:=List.append_inj_left' hqp rfl
   exact up (this▸lp)
  ·unfold mkN at hs;rw[if_neg hqp] at hs
   exact up (r.closed q j hs)
 ·rcases live_mk hn l with l|⟨rfl,hi⟩ <;> rcases live_mk hn l' with l'|⟨rfl,hi'⟩
  ·rw[A l,A l'] at e;exact r.inj _ _ _ _ l l' e
  ·rw[A l,A'] at e;exact absurd e (hne l hi')
  ·rw[A',A l'] at e;exact absurd e.symm (hne l' hi)
  ·rw[A',A'] at e;exact ⟨rfl,haj _ _ hi hi' e⟩
 ·rcases live_mk hn l with l|⟨rfl,hi⟩
  ·rw[A l];exact r.new _ _ l
  ·rw[A'];exact none_before hbn (ha _ hi)
noncomputable def putN (σ:Sg) (q:List Str) (rec:Bool) (f:Int):Sg:=fun p=>if p=q then (σ q).map fun nd=>if rec then { nd with rf:=fun j=>nd.rf j || decide (j=f),nr:=if nd.rf f then nd.nr else nd.nr+1 } else { nd with fl:=fun j=>nd.fl j || decide (j=f),nf:=if nd.fl f then nd.nf else nd.nf+1 } else σ p
theorem put_some {p:List Str} {rec:Bool} {f:Int}:(putN σ q rec f p).isSome=(σ p).isSome:=by
 unfold putN;split
 ·rename_i e;rw[e];cases σ q <;> simp
 ·rfl
theorem live_put {p:List Str} {rec:Bool} {f:Int} {i:Nat}:Live (putN σ q rec f) p i↔Live σ p i:=by unfold Live;rw[put_some]
theorem Rep.flag (r:Rep prog w hb h adr σ N) {nd:Nd} {rec:Bool} {f:Int} (hq:q≠[]) (e:σ q=some nd) (hs:h1a.SetOf (intKind prog w) (adr q (if rec then 3 else 2)) (fun j=>(if rec then nd.rf else nd.fl) j || decide (j=f)) (if (if rec then nd.rf else nd.fl) f then (if rec then nd.nr else nd.nf) else (if rec then nd.nr else nd.nf)+1))
  (o:Off [adr q (if rec then 3 else 2)] h h1a):Rep prog w hb h1a adr (putN σ q rec f) (N+1):=by
 have hsm:(σ q).isSome=true:=by rw[e];rfl
 have hi:(if rec then 3 else 2)<4:=by cases rec <;> decide
 have lq:=live_of (σ:=σ) (i:=if rec then 3 else 2) hq hsm hi
 have kp:∀ {p i},Live σ p i→¬ (p=q∧i=if rec then 3 else 2)→∀ o,h.get? (adr p i)=some o→h1a.get? (adr p i)=some o:=fun l n ob eo=>o _ ob (fun m=>n (r.inj _ _ _ _ l lq (m_s m))) eo
 refine ⟨fun p l=>?_,fun p nd' hp e'=>?_,fun p k hk=>?_,fun p i p' i' l l'=>r.inj _ _ _ _ (live_put.mp l) (live_put.mp l'),fun p i l=>r.new _ _ (live_put.mp l)⟩
 ·obtain ⟨kvs,d,l',v⟩:=r.cont p (live_put.mp l)
  exact ⟨kvs,dictOf_keep d (kp (live_put.mp l) fun x=>by cases rec <;> simp at x),by lia,fun k=>by rw[v,put_some]⟩
 ·by_cases hpq:p=q
  ·subst hpq
   obtain ⟨d,s,t,x,y⟩:=r.node p nd hp e
   have L:=fun i (hi:i<4)=>live_of (σ:=σ) (i:=i) hp hsm hi
   unfold putN at e';rw[if_pos rfl,e] at e'
   cases rec with
   | true =>
    simp only[if_true,Option.map_some,Option.some.injEq] at e' hs kp
    subst e'
    refine ⟨dictOf_keep d (kp (L 1 (by decide)) (by simp)),setOf_keep s (kp (L 2 (by decide)) (by simp)),hs,by dsimp only;lia,by dsimp only;split <;> lia⟩
   | false =>
    simp only[Bool.false_eq_true,if_false,Option.map_some,Option.some.injEq] at e' hs kp
    subst e'
    refine ⟨dictOf_keep d (kp (L 1 (by decide)) (by simp)),hs,setOf_keep t (kp (L 3 (by decide)) (by simp)),by dsimp only;split <;> lia,by dsimp only;lia⟩
  ·unfold putN at e';rw[if_neg hpq] at e'
   obtain ⟨d,s,t,x,y⟩:=r.node p nd' hp e'
   have L:=fun i (hi:i<4)=>live_of (σ:=σ) (i:=i) hp (by rw[e'];rfl) hi
   exact ⟨dictOf_keep d (kp (L 1 (by decide)) fun x=>hpq x.1),setOf_keep s (kp (L 2 (by decide)) fun x=>hpq x.1),setOf_keep t (kp (L 3 (by decide)) fun x=>hpq x.1),by lia,by lia⟩
 ·rw[put_some] at hk;exact live_put.mpr (r.closed p k hk)
noncomputable def cutN (σ:Sg) (q:List Str):Sg:=fun p=>if q <+: p then none else σ p
theorem cut_some {p:List Str} (h:(cutN σ q p).isSome=true):(σ p).isSome=true∧¬ q <+: p:=by
 unfold cutN at h;split at h
 ·cases h
 ·exact ⟨h,‹_›⟩
theorem live_cut {p:List Str} {i:Nat}:Live (cutN σ q) p i→Live σ p i:=fun l=>by
 rcases l with l|⟨a,b,c⟩
 ·exact .inl l
 ·exact .inr ⟨a,(cut_some b).1,c⟩
theorem Rep.erase (r:Rep prog w hb h adr σ N) {p:List Str} {k:Str} (lp:Live σ p 0) {kvs:List (Str×Value)} (hv:∀ k,valueAt kvs k=if (σ (p++[k])).isSome then some (.ref (adr (p++[k]) 1)) else none) (hl:kvs.length≤N)
  (hd':h1a.DictOf (strKind prog w) (adr p 0) (without kvs k)) (o:Off [adr p 0] h h1a):Rep prog w hb h1a adr (cutN σ (p++[k])) N:=by
 have kp:∀ {q i},Live σ q i→¬ (q=p∧i=0)→∀ o,h.get? (adr q i)=some o→h1a.get? (adr q i)=some o:=fun l n ob eo=>o _ ob (fun m=>n (r.inj _ _ _ _ l lp (m_s m))) eo
 have npre:∀ q,Live (cutN σ (p++[k])) q 0→¬ (p++[k]) <+: q:=fun q l e=>by
  rcases l with ⟨a,_⟩|⟨_,b,_⟩
  ·rw[a] at e;simp at e
  ·exact (cut_some b).2 e
 have val:∀ q,¬ (p++[k]) <+: q→∀ j,¬ (q=p∧j=k)→cutN σ (p++[k]) (q++[j])=σ (q++[j]):=fun q n j hj=>by
  unfold cutN
  rw[if_neg]
  intro e
  rcases List.prefix_concat_iff.mp e with e|e
  ·exact hj ⟨(List.append_inj_left' e rfl).symm,by have:=List.append_inj_right' e rfl;simpa using this.symm⟩
  ·exact n e
 refine ⟨fun q l=>?_,fun q nd hq e=>?_,fun q j hs=>?_,fun q i q' i' l l'=>r.inj _ _ _ _ (live_cut l) (live_cut l'),fun q i l=>r.new _ _ (live_cut l)⟩
 ·by_cases hqp:q=p
  ·subst hqp
   refine ⟨_,hd',Nat.le_trans (without_le _ _) hl,fun j=>?_⟩
   rw[valueAt_without,hv]
   by_cases hj:j=k
   ·subst hj
    rw[if_pos rfl];unfold cutN;rw[if_pos (List.prefix_refl _)];rfl
   ·rw[if_neg hj,val q (npre q l) j fun x=>hj x.2]
  ·obtain ⟨kvs',d,l',v⟩:=r.cont q (live_cut l)
   exact ⟨kvs',dictOf_keep d (kp (live_cut l) fun x=>hqp x.1),l',fun j=>by rw[v,val q (npre q l) j fun x=>hqp x.1]⟩
 ·have hs:(cutN σ (p++[k]) q).isSome=true:=by rw[e];rfl
  have e':σ q=some nd:=by
   unfold cutN at e
   split at e
   ·cases e
   ·exact e
  obtain ⟨d,s,t,x⟩:=r.node q nd hq e'
  have L:=fun i (hi:i<4)=>live_of (σ:=σ) (i:=i) hq (cut_some hs).1 hi
  exact ⟨dictOf_keep d (kp (L 1 (by decide)) fun x=>by simp at x),setOf_keep s (kp (L 2 (by decide)) fun x=>by simp at x),setOf_keep t (kp (L 3 (by decide)) fun x=>by simp at x),x⟩
 ·obtain ⟨a,b⟩:=cut_some hs
  have:=r.closed q j a
  rcases this with l|⟨x,y,z⟩
  ·exact .inl l
  ·refine .inr ⟨x,?_,z⟩
   unfold cutN;rw[if_neg fun e=>b (e.trans (List.prefix_append _ _))];exact y
end
section
/- t[:-1] -/
theorem sliced_upto {sl:Addr} {n:Nat} {u:Tok} {Q:Int×Int×Nat→Shared→Prop} (hs:s.heap.IsSliceOf sl .none (.int (-1) u) .none) (hn:1≤n) (h:Q (0,1,n - 1) s) :
  wpAny (model prog w) A (Builtin.Slice.sliceApplied (.ref sl) (pure (n:Int))) Q E s:=by
 obtain ⟨os,hos,hcs,hds⟩:=id hs
 unfold Builtin.Slice.sliceApplied Builtin.Slice.sliceFields
 refine wpAny_bind (wpAny_bind (wpAny_field hos hds (x:=.none) rfl (wpAny_bind (wpAny_field hos hds (x:=.int (-1) u) rfl (wpAny_bind (wpAny_field hos hds (x:=.none) rfl (wpAny_pure ?_)))))))
 refine wpAny_bind (slicePart_none ?_)
 show wpAny _ _ (if ((1:Int) == 0)=true then _ else _) _ _ s
 rw[if_neg (by decide)]
 refine wpAny_bind (slicePart_none (wpAny_bind (slicePart_int (wpAny_bind (wpAny_pure ?_)))))
 have e1:Builtin.Slice.sliceAdjust none (some (-1)) 1 (n:Int)=(0,(n:Int) - 1):=by
  unfold Builtin.Slice.sliceAdjust
  simp only[show ¬ ((1:Int)<0) by decide,show ((-1:Int)<0) by decide,if_false,if_true]
  congr 1
  lia
 have e2:Builtin.Slice.slicePlaces 0 ((n:Int) - 1) 1=n - 1:=by
  unfold Builtin.Slice.slicePlaces
  simp only[show ((1:Int)>0) by decide,if_true,Int.ediv_one]
  split <;> lia
 show wpAny _ _ (match Builtin.Slice.sliceAdjust none (some (-1)) 1 (n:Int) with|(lo,hi)=>pure (lo,(1:Int),Builtin.Slice.slicePlaces lo hi 1)) _ _ s
 rw[e1]
 show wpAny _ _ (pure ((0:Int),(1:Int),Builtin.Slice.slicePlaces 0 ((n:Int) - 1) 1)) _ _ s
 rw[e2]
 exact wpAny_pure h
theorem pick_upto (xs:Array Value) (n:Nat) (hn:n≤xs.size):((List.range n).filterMap fun (k:Nat)=>xs[((0:Int)+(k:Int) * 1).toNat]?).toArray=(xs.toList.take n).toArray:=by
 congr 1
 apply List.ext_getElem?
 intro i
 have e:(fun (k:Nat)=>xs[((0:Int)+(k:Int) * 1).toNat]?)=fun k=>xs.toList[k]?:=by
  funext k
  rw[show ((0:Int)+(k:Int) * 1).toNat=k by lia];simp
 rw[e]
 clear e
 induction n generalizing i with
 | zero=>simp
 | succ n ih =>
  rw[List.range_succ,List.filterMap_append,List.take_add_one]
  have ih':=fun i=>ih (by lia) i
  have:(List.range n).filterMap (fun k=>xs.toList[k]?)=xs.toList.take n:=List.ext_getElem? ih'
  rw[this]
  congr 1
theorem getItem_tuple_upto {t sl:Addr} {items:Array Value} {u:Tok} {Q:VSP} (ht:s.heap.IsTuple t items) (hs:s.heap.IsSliceOf sl .none (.int (-1) u) .none) (h1:1≤items.size) (hz:items.size≤1000)
  (h:Q (.ref s.heap.objs.size) { s with heap:=s.heap.push { cls:=.type "tuple",data:=.seq (items.toList.take (items.size - 1)).toArray } }):wpAny (model prog w) A (getItem (.ref t) (.ref sl)) Q E s:=by
 have ht':IsTup s.heap t items:=ht
 have hdrop:sizeOk (.seq (items.toList.take (items.size - 1)).toArray):=by
  show (items.toList.take (items.size - 1)).toArray.size≤sizeLine
  rw[List.size_toArray,List.length_take,Array.length_toList,sizeLine_eq]
  lia
 obtain ⟨os,hos,hcs,hds⟩:=id hs
 have hTs:s.TypeIs (.ref sl) "slice":=⟨os,hos,hcs⟩
 unfold getItem
 refine wpAny_holding ?_
 refine wpAny_bind (wpAny_sequenceKey ht'.typeIs (by decide) ?_)
 refine wpAny_bind (wpAny_callSpecial?_slot (name:=Str.ofString "__getitem__") ht'.typeIs slot_tuple_getitem
  (wpAny_call_entry slot_tuple_getitem ht'.typeIs entry_tuple_getitem ?_ (args_tuple_getitem _ _)))
 show wpAny _ _ (Builtin.Tuple.tupleItemsOf (.ref t) >>= _) _ _ s
 refine wpAny_bind (tupleItemsOf_ ht' ?_)
 refine wpAny_bind (wpAny_typeOf hTs ?_)
 rw[if_pos (by decide)]
 refine wpAny_bind (sliced_upto hs h1 ?_)
 have hno:¬ (((0:Int) == 0 && (1:Int) == 1 && (items.size - 1) == items.size)=true):=by
  have:((items.size - 1) == items.size)=false:=by rw[beq_eq_false_iff_ne];lia
  rw[this];simp
 show wpAny _ _ (if ((0:Int) == 0 && (1:Int) == 1 && (items.size - 1) == items.size)=true then _ else _) _ _ s
 rw[if_neg hno,pick_upto items _ (Nat.sub_le _ _)]
 first
  | exact wpAny_bind (m:=Builtin.Tuple.tupleExact _) (wpAny_newObj_type (wpAny_pure ⟨_,rfl,wpAny_pure h⟩) hdrop)
  | exact wpAny_bind (m:=Builtin.Tuple.tupleExact _) (wpAny_newObj_type (wpAny_bind (wpAny_pure (wpAny_pure ⟨_,rfl,wpAny_pure h⟩))) hdrop)
  | exact wpAny_bind (wpAny_bind (m:=Builtin.Tuple.tupleExact _) (wpAny_newObj_type (wpAny_pure (wpAny_pure ⟨_,rfl,wpAny_pure h⟩)) hdrop))
  | exact wpAny_bind (wpAny_bind (m:=Builtin.Tuple.tupleExact _) (wpAny_newObj_type (wpAny_pure ⟨_,rfl,wpAny_pure h⟩) hdrop))
theorem ev_neg {e:Expr} {i:Int} {pos:Pos} (x:Ev prog w A env I e (.int i)):Ev prog w A env I (.UnaryOp .USub e pos) (.int (-i)):=fun s E X hX hI =>
 wpAny_UnaryOp (x.wp hX hI fun v s1a k1a a=>by obtain ⟨t,rfl⟩:=a.int_inv;exact PyProof.Rows.neg_int ⟨kp_trans k1a (kp_tok _ _),.int _ _⟩)
theorem ev_butlast {value up:Expr} {p pos:Pos} (hu:Up I) (v:Ev prog w A env I value (.tuple ds)) (y:Ev prog w A env I up (.int (-1))) (h1:1≤ds.length) (hl:ds.length≤1000)
  (ht:∀ o r,letTemporaryGo value o r=pure ():=by intro _ _;rfl):Ev prog w A env I (.Subscript value (.Slice none (some up) none p) pos) (.tuple ds.dropLast):=fun s E X hX hI=>by
 refine wpAny_Subscript_Slice slot_tuple_getitem.lookup (v.wp hX hI fun o s1a k1a a1a=>slice_wp hu evp_none (evp_some y) evp_none (hX.ext (kp_ext k1a)) (hu.ext (kp_ext k1a) hI) fun s2a a b c d k2a hs pb pc pd=>?_) ht
 obtain ⟨t,items,rfl,hL,r⟩:=a1a.tuple_inv
 have hlen:items.size=ds.length:=by have:=r.length;simpa using this
 have hL2:=hL.at fun o e=>kp_ext k2a _ o e
 cases pb;cases pd;cases pc
 refine ⟨(isTup hL2).typeIs,getItem_tuple_upto hL2 hs (by lia) (by lia) ⟨kp_trans k1a (kp_trans k2a (kp_push _ _)),?_⟩⟩
 refine .tuple ⟨_,Heap.get?_push_size _ rfl,rfl,0,rfl⟩ ?_
 rw[hlen,List.dropLast_eq_take]
 exact (r.take (ds.length - 1)).ext (Ext.trans (kp_ext k2a) (Ext.push _ _))
theorem tr_tuple {e:Expr} (up:Up I) (x:Ev prog w A env I e (.tuple ds)) (hl:ds.length≤1000)
  (h:isTrue e env (eval e env)=(do let v ← eval e env;standAt e.pos;holding [v] (truthy v)):=by rfl):Tr prog w A env I e (decide (ds≠[])):=fun s E X hX hI =>
 wpAny_isTrue_value (x.wp hX hI fun v s1a k1a a=>by
  obtain ⟨t,items,rfl,hL,r⟩:=a.tuple_inv
  have hlen:items.size=ds.length:=by have:=r.length;simpa using this
  refine truthy_tuple (isTup hL) (by lia) ⟨kp_trans k1a (kp_tok _ _),?_⟩
  have:items.isEmpty=decide (ds.length=0):=by rw[← hlen];rfl
  rw[this]
  cases ds <;> simp) h
theorem tr_not {e:Expr} {pos:Pos} {b:Bool} (x:Tr prog w A env I e b):Tr prog w A env I (.UnaryOp .Not e pos) (!b):=fun s E X hX hI =>
 wpAny_isTrue_Not (x.wp hX hI fun s1a k1a=>⟨k1a,rfl⟩)
/- dicts with string keys -/
theorem ev_dget {value slice:Expr} {pos:Pos} {K:Type} [DecidableEq K] {knd:KeyKind prog w K} {P:Value→Prop} {d:Addr} {k:K} (up:Up I) (x:EvR prog w A env I value (fun zz zz v=>v=.ref d)) (y:EvR prog w A env I slice (fun zz zz v=>knd.is k v=true∧(∀ a,v≠.ref a)∧P v))
  (hI':∀ X h,I X h→∃ kvs,h.DictOf knd d kvs∧valueAt kvs k=some u)
  (hs:∀ a v,P v→subscripted slice false (.ref a) v=operate [.ref a,v] (getItem (.ref a) v):=by intro _ _ _;with_unfolding_all rfl):EvR prog w A env I (.Subscript value slice pos) (fun zz zz v=>v=u):=fun s E X hX hI =>
 Subscript_ (x.wp hX hI fun o s1a k1a a1a=>y.wp (hX.ext (kp_ext k1a)) (up.ext (kp_ext k1a) hI) fun v s2a k2a b2b=>by
  subst a1a
  obtain ⟨kvs,hd,hv⟩:=hI' _ _ (up.ext (kp_ext k2a) (up.ext (kp_ext k1a) hI))
  exact tail_any hd.mapOf.typeIs slot_dict_getitem.lookup (wpAny_getItem_of b2b.1 hd.mapOf hv ⟨kp_trans k1a (kp_trans k2a (kp_tok _ _)),rfl⟩) (hs _ _ b2b.2.2))
end
section
theorem for_r {α β:Type} {T:List Addr→Heap→Value→α→Prop} {target iter:Expr} {body:List Stmt} {pos:Pos} {ds:List α} {Q:FSP} (P:Nat→β→Prop) (ρ:β→List (Str×VD)) {ρ0a:List (Str×VD)} (b0:β)
  (r:Rest L R) (rst:∀ X h h' Wr,R X h→(∀ b∈Wr,s.heap.get? b=none∧b∈X∧∀ o,h.get? b=some o→¬ TupObj o)→Off Wr h h'→R X h') (st:Fr2 K mg mb h0a L ρ0a R X s.heap) (p0:P 0 b0) (sub:Sub ρ0a (ρ b0)) (hsrc:Src T prog w A env (Fr2 K mg mb h0a L ρ0a R) target iter ds) (hX:Bd X s.heap)
  (G:GK K mg mb h0a) (hL:L∈X)
  (turn:∀ i d v h' tk X' b,ds[i]?=some d→T X' h' v d→Bd X' h'→L∈X'→P i b→Fr2 K mg mb h0a L (ρ b) R X' h' →
   NR prog w A (assign target env v) (fun zz s1a=>NR prog w A (execs body env) (fun f s2a=>(match f with
    | .next|.cont=>∃ h2a tk2 b',s2a={ s with heap:=h2a,toks:=tk2 }∧Off [L] h' h2a∧P (i+1) b'∧Fr2 K mg mb h0a L (ρ b') R X' h2a
    | .brk=>Q .next s2a
    | .ret v=>Q (.ret v) s2a:Prop)) s1a) { s with heap:=h',toks:=tk })
  (done:∀ h' tk b,Bd X h'→P ds.length b→Fr2 K mg mb h0a L (ρ b) R X h'→Off [L] s.heap h'→Q .next { s with heap:=h',toks:=tk })
  (hs:∀ x,foldedSetIterable iter env x=pure x:=by intro _;rfl):NR prog w A (exec (.For target iter body [] pos) env) Q s:=by
 refine for_loop (hs:=hs) (M:=[L]) (Inv:=fun i X' h=>∃ b,P i b∧Fr2 K mg mb h0a L (ρ b) R X' h) hsrc hX st (fun b m=>?_) (fun h X' k q zz=>?_) ?_ ?_ (fun i d v h' tk X' hd hv hb hh sb o bpf=>?_) fun h' tk X' hb sb o bpf=>?_
 ·rw[m_s m];exact ⟨hL,exl (st.1.nt)⟩
 ·have q:=up2 r _ _ _ _ k q st
  exact ⟨b0,p0,q.1.sub sub,q.2⟩
 ·rintro i X' h ⟨b,_,f,m⟩ a ha
  rw[m_s ha];exact f.nt
 ·rintro i X' h h' Wr ⟨b,p,f,m⟩ hW k
  have hLW:∀ b∈Wr,b≠L:=fun b q e=>by obtain ⟨o,e',_⟩:=st.1.nt;have:=(hW b q).2.1;rw[e] at this;rw[this] at e';cases e'
  exact ⟨b,p,f.off G k fun b q=>⟨none_before st.1.2.1 (hW b q).2.1,(hW b q).1,hLW b q,(hW b q).2.2⟩,rst _ _ _ _ m (fun b q=>⟨(hW b q).2.1,(hW b q).1,(hW b q).2.2⟩) k⟩
 ·obtain ⟨b,p,f⟩:=bpf
  refine wpAny_mono (turn i d v h' tk X' b hd hv hb (sb _ hL) p f) (fun zz s1a q=>wpAny_mono q (fun fl s2a q=>?_) fun zz zz e=>e) fun zz zz e=>e
  cases fl with
  | next=>obtain ⟨h2a,tk2,b',e,o,p,f⟩:=q;exact ⟨h2a,tk2,e,o,b',p,f⟩
  | cont=>obtain ⟨h2a,tk2,b',e,o,p,f⟩:=q;exact ⟨h2a,tk2,e,o,b',p,f⟩
  | brk=>exact q
  | ret v=>exact q
 ·obtain ⟨b,p,f⟩:=bpf
  exact done h' tk b hb p (up2 r _ _ _ _ (Ext.refl _) (fun x m=>.inl (sb x m)) f) o
end
noncomputable def fobj (P:Params) (t1 t2:Tok) (r p:Value):Obj:={ cls:=.type "dict",data:=.dict #[⟨PyData.keyHash P "_flags",.str "_flags" t1,r⟩,⟨PyData.keyHash P "_pending_flags",.str "_pending_flags" t2,p⟩] 2 }
structure FlagsK (K:Frag) (w:World) (C:Addr):Prop where
 ga:findIn K (.ref C) "__getattribute__"=some (some (.builtin "object.__getattribute__"))
 gk:findIn K (.ref C) "__getattr__"=some none
 sa:findIn K (.ref C) "__setattr__"=some (some (.builtin "object.__setattr__"))
 po:plainOver K C=true
 hd:(clsIn K C).any (·.hasDict)=true
 t1:takerIn K C "_flags"=some none
 t2:takerIn K C "_pending_flags"=some none
 mkI:makesIn K C=true
 init:∃ f,findIn K (.ref C) "__init__"=some (some (.ref f))∧typeIn K (.ref f)=some (.type "function")∧FnK K f "Flags.__init__" (inS (topS 2) 2) .none .none
 unset:∃ f,findIn K (.ref C) "unset_all"=some (some (.ref f))∧typeIn K (.ref f)=some (.type "function")∧FnK K f "Flags.unset_all" (inS (topS 2) 5) .none .none
 set:∃ f,findIn K (.ref C) "set"=some (some (.ref f))∧typeIn K (.ref f)=some (.type "function")∧FnK K f "Flags.set" (inS (topS 2) 6) .none .none
 is_:∃ f,findIn K (.ref C) "is_"=some (some (.ref f))∧typeIn K (.ref f)=some (.type "function")∧FnK K f "Flags.is_" (inS (topS 2) 7) .none .none
 at_:∀ t1 t2 r p,findObj K C (some (fobj w.params t1 t2 r p)) "_flags"=some (.value r)
 sys:∃ o,K.lookup sysModules=some o
noncomputable def FObj (prog:Program) (w:World) (C:Addr) (hb:Heap) (x dx:Addr) (adr:List Str→Nat→Addr) (σ:Sg) (N:Nat) (h:Heap):Prop :=
 Rep prog w hb h adr σ N∧(∃ t1 t2 p,h.get? x=some (instObj C dx)∧h.get? dx=some (fobj w.params t1 t2 (.ref (adr [] 0)) p))∧∀ q i,Live σ q i→adr q i≠x∧adr q i≠dx
noncomputable def Own (x dx:Addr) (adr:List Str→Nat→Addr) (σ:Sg) (b:Addr):Prop:=b=x∨b=dx∨∃ p i,Live σ p i∧b=adr p i
section
variable {x:Addr} {adr:List Str→Nat→Addr} {σ:Sg}
theorem FObj.ext (f:FObj prog w C hb x dx adr σ N h) (k:Ext h h'):FObj prog w C hb x dx adr σ N h' :=
 by
  obtain ⟨r,⟨t1,t2,p,a,b⟩,c⟩:=f
  exact ⟨r.ext k,⟨t1,t2,p,k _ _ a,k _ _ b⟩,c⟩
theorem FObj.off {M:List Addr} (f:FObj prog w C hb x dx adr σ N h) (k:Off M h h') (hM:∀ b∈M,¬ Own x dx adr σ b):FObj prog w C hb x dx adr σ N h':=by
 obtain ⟨r,⟨t1,t2,p,a,b⟩,c⟩:=f
 exact ⟨r.off k fun p i l m=>hM _ m (.inr (.inr ⟨p,i,l,rfl⟩)),⟨t1,t2,p,k _ _ (fun m=>hM _ m (.inl rfl)) a,k _ _ (fun m=>hM _ m (.inr (.inl rfl))) b⟩,c⟩
theorem FObj.there (f:FObj prog w C hb x dx adr σ N h) {b:Addr} (o:Own x dx adr σ b):NT h b:=by
 obtain ⟨r,⟨t1,t2,p,a,b'⟩,c⟩:=f
 rcases o with rfl|rfl|⟨p,i,l,rfl⟩
 ·exact ⟨_,a,by
   rintro ⟨e,_⟩
   cases e⟩
 ·exact ⟨_,b',not_tup_of_dict rfl⟩
 ·exact r.there l
theorem FObj.free (f:FObj prog w C hb x dx adr σ N h) {b:Addr} (n:h.get? b=none):¬ Own x dx adr σ b:=fun o=>by
 obtain ⟨ob,e,_⟩:=f.there o;rw[n] at e;cases e
theorem FObj.inst (f:FObj prog w C hb x dx adr σ N h):∃ t1 t2 p,InstAt h x (instObj C dx) C (some (fobj w.params t1 t2 (.ref (adr [] 0)) p)):=by
 obtain ⟨r,⟨t1,t2,p,a,b⟩,c⟩:=f
 exact ⟨t1,t2,p,a,rfl,rfl,b⟩
end
section
noncomputable def numOf (os:List Int):Int:=os.foldl (fun n o=>256 * n+o) 0
noncomputable def rowD (os:List Int):PyData:=.tuple [.int ((os.length:Int)+1),.int (numOf os * 4 ^ (3 - (os.length:Int)).toNat)]
theorem numOf_snoc (os:List Int) (o:Int):numOf (os++[o])=256 * numOf os+o:=by simp[numOf]
theorem num_bound:∀ (os:List Int),(∀ o∈os,0≤o∧o<256)→os.length≤3→0≤numOf os∧numOf os<16777216:=by
 intro os h l
 rcases os with _|⟨a,_|⟨b,_|⟨c,_|⟨d,r⟩⟩⟩⟩
 ·simp[numOf]
 ·have:=h a (by simp);simp[numOf];lia
 ·have:=h a (by simp);have:=h b (by simp);simp[numOf];lia
 ·have:=h a (by simp);have:=h b (by simp);have:=h c (by simp);simp[numOf];lia
 ·simp at l
set_option maxHeartbeats 1000000 in
theorem law_row {n:Nat} {os:List Int} (F:FnK K f "_law_row" (topS 18) .none .none) (hA:OKA A (n+1)) (G:GK K mg mb s.heap)
  (hm:mg "len"=none) (hb:mb "len"=some (.builtin "len")) (h1:1≤os.length) (h3:os.length≤3) (ho:∀ o∈os,0≤o∧o<256) (hX:Bd X s.heap) (x:AtAll X s.heap vs [.list (os.map .int)]) :
  Op prog w A (call (.ref f) vs) s X (rowD os):=fun E=>by
 obtain ⟨v,rfl,a⟩:=one_inv x
 refine fn_call F hA G (binds:=[("octets",v)]) (fun doc pm an cdv ct=>.of_eq (by kernel_rfl)) (by decide +kernel) (locs (by kernel_rfl)) (by kernel_rfl) (by kernel_rfl) (by kernel_rfl) (fun h1a tk env hs hc le ge hA' e1a hn=>?_)
 generalize hL:s.heap.objs.size=L at le hn
 have hLn:s.heap.get? L=none:=hL▸size_none _
 have hid:Hid X (L::X) s.heap:=.new hLn
 have a1a:=(a.hid hid).ext e1a
 have l0:Loc L [("octets",.dat (.list (os.map .int)))] (L::X) h1a:=loc_of hn ⟨rfl,a1a,trivial⟩
 have hX1:Bd (L::X) h1a:=fun y m=>by
  rcases mC m with rfl|m
  ·exact exl (l0.there)
  ·exact hX.ext e1a y m
 have kx:∀ y,env.kindOf y=(fScope (topS 18)).names.lookup y:=fun y=>by unfold Env.kindOf;rw[hs]
 have f0:Fs K mg mb s.heap L [("octets",.dat (.list (os.map .int)))] (L::X) h1a:=⟨G.ext e1a,e1a,l0⟩
 show NR prog w _ (execs (_::_) env) _ _
 refine xc (asg_fs f0 ev_int hX1 le (by rw[kx];kernel_rfl) G hLn (.head _) fun h2a tk2 zz hX2 f2=>?_)
 show NR prog w _ (execs (_::_) env) _ _
 refine xc (for_fs (ds:=os.map .int) (fun i=>[("number",.dat (.int (numOf (os.take i)))),("octets",.dat (.list (os.map .int)))]) f2
  (src_list hA'.handled (ev_loc le (by rw[kx];kernel_rfl) Fs.loc (by kernel_rfl) (by decide +kernel))) hX2 G hLn (.head _) (fun y D e=>e) (fun i d v h' tk X' hd hv hb hL f e=>?_) fun h3a tk3 hX3 f3 zz=>?_)
 ·obtain ⟨o,hio,rfl⟩:∃ o,os[i]?=some o∧d=.int o:=by
   rw[List.getElem?_map] at hd
   cases q:os[i]? with
   | none=>rw[q] at hd;cases hd
   | some o=>rw[q] at hd;cases hd;exact ⟨o,rfl,rfl⟩
  refine name_fs f hv hb le (by rw[kx];kernel_rfl) G hLn hL fun h4a tk4 o4a hb4 f4a=>?_
  show NR prog w _ (execs (_::_) env) _ _
  have bnd:=num_bound (os.take i) (fun o m=>ho o (List.mem_of_mem_take m)) (by rw[List.length_take];lia)
  refine xc (asg_fs (d:=.int (256 * numOf (os.take i)+o)) f4a ?_ hb4 le (by rw[kx];kernel_rfl) G hLn hL fun h5 tk5 o5a hb5 f5a=>?_)
  ·exact ev_bin up_fs (ev_bin up_fs ev_int (ev_loc le (by rw[kx];kernel_rfl) Fs.loc (by kernel_rfl) (by decide +kernel)) fun s X u v zz=>op_mul (small_mul (by decide) (by decide))) (ev_loc le (by rw[kx];kernel_rfl) Fs.loc (by kernel_rfl) (by decide +kernel)) fun s X u v zz=>op_add
  ·have e1:numOf (os.take (i+1))=256 * numOf (os.take i)+o:=by rw[List.take_add_one,hio,show (some o).toList=[o] from rfl,numOf_snoc]
   refine wpAny_execs_nil ⟨h5,tk5,rfl,o4a.trans o5a,?_⟩
   rw[e1]
   exact f5a.sub ⟨by kernel_rfl,by kernel_rfl,trivial⟩
 ·show NR prog w _ (execs (_::_) env) _ _
  rw[List.length_map,List.take_length] at f3
  have bnd:=num_bound os ho h3
  refine xc (ret (R:=fun X h v=>At X h v (rowD os)) (I:=Fs K mg mb s.heap L [("number",.dat (.int (numOf os))),("octets",.dat (.list (os.map .int)))]) ?_ hX3 f3 fun v s' k r=>?_)
  ·have hl:(PyData.list (os.map .int))=.list (os.map .int):=rfl
   have lenOp:∀ (s':Shared) (X:List Addr) (vs:List Value),AtAll X s'.heap vs [.list (os.map .int)]→Op prog w (A.deeper env) (call (.builtin "len") vs) s' X (.int os.length):=fun s' X vs x=>by
    have:=op_len_list (prog:=prog) (w:=w) (A:=A.deeper env) x (by simp;lia)
    simpa using this
   have lenE:∀ p q r,Ev prog w (A.deeper env) env (Fs K mg mb s.heap L [("number",.dat (.int (numOf os))),("octets",.dat (.list (os.map .int)))]) (.Call (.Name "len" p) [.Name "octets" q] [] r) (.int os.length):=fun p q r =>
    ev_call up_fs (ev_builtin Fs.gk ge (by rw[kx];kernel_rfl) hm hb) keeper_builtin (ev_cons up_fs (ev_loc le (by rw[kx];kernel_rfl) Fs.loc (by kernel_rfl) (by decide +kernel)) ev_nil) fun s X vs zz zz x=>lenOp s X vs x
   have p4:4 ^ (3 - (os.length:Int)).toNat≤(16:Int):=by
    have:(3 - (os.length:Int)).toNat≤2:=by lia
    generalize (3 - (os.length:Int)).toNat=z at *
    exact lt3 (P:=fun z=>(4:Int) ^ z≤16) (by decide) (by decide) (by decide) (Nat.lt_succ_of_le this)
   have p4':(0:Int)≤(4:Int) ^ (3 - (os.length:Int)).toNat:=Int.pow_nonneg (by decide)
   refine ev_tuple (ev_cons up_fs (ev_bin up_fs (lenE _ _ _) ev_int fun s X u v zz=>op_add) (ev_cons up_fs (ev_bin up_fs (ev_loc le (by rw[kx];kernel_rfl) Fs.loc (by kernel_rfl) (by decide +kernel)) (ev_bin up_fs ev_int (ev_bin up_fs ev_int (lenE _ _ _) fun s X u v zz=>op_sub) fun s X u v zz=>op_pow (a:=4) (b:=3 - (os.length:Int)) (by lia) (by lia) (by decide)) fun s X u v zz=>op_mul (a:=numOf os) (b:=4 ^ (3 - (os.length:Int)).toNat) (small_mul (by lia) (by lia))) ev_nil)) (hl:=by simp)
  ·obtain ⟨h4a,tk4,rfl,e4a⟩:=k
   exact ⟨⟨h4a,tk4,rfl,Ext.trans f3.2.1 e4a⟩,r.hid Hid.less⟩
end
section
noncomputable def beginsI (a b c d:Int):Bool:=decide (a≤c) && (d.fdiv (64 ^ (c - a).toNat) == b)
set_option maxHeartbeats 1000000 in
theorem law_begins {n:Nat} {a c d:Int} (F:FnK K f "_law_begins" (topS 19) .none .none) (hA:OKA A (n+1)) (G:GK K mg mb s.heap)
  (ha:0≤a∧a≤4) (hc:0≤c∧c≤4) (hX:Bd X s.heap) (x:AtAll X s.heap vs [.tuple [.int a,.int b],.tuple [.int c,.int d]]) :
  Op prog w A (call (.ref f) vs) s X (.bool (beginsI a b c d)):=fun E=>by
 obtain ⟨v,u,rfl,av,au⟩:=two_inv x
 refine fn_go [("one",v),("other",u)] [("other",.dat (.tuple [.int c,.int d])),("one",.dat (.tuple [.int a,.int b]))] F hA G hX (fun doc pm an cdv ct=>.of_eq (by kernel_rfl)) (by decide +kernel) (locs (by kernel_rfl)) (by kernel_rfl) (by kernel_rfl) (by kernel_rfl)
  (fun X' h' hd e=>⟨rfl,(au.hid hd).ext e,rfl,(av.hid hd).ext e,trivial⟩) fun L env h1a tk fr hX1 hid f0=>?_
 show NR prog w _ (execs (_::_) env) _ _
 have one:∀ p,Ev prog w (A.deeper env) env (Fs K mg mb s.heap L [("other",.dat (.tuple [.int c,.int d])),("one",.dat (.tuple [.int a,.int b]))]) (.Name "one" p) (.tuple [.int a,.int b]):=fun p=>Fs.nm fr (by kernel_rfl) (by kernel_rfl) (by decide +kernel)
 have two:∀ p,Ev prog w (A.deeper env) env (Fs K mg mb s.heap L [("other",.dat (.tuple [.int c,.int d])),("one",.dat (.tuple [.int a,.int b]))]) (.Name "other" p) (.tuple [.int c,.int d]):=fun p=>Fs.nm fr (by kernel_rfl) (by kernel_rfl) (by decide +kernel)
 refine xc (ret_fs f0 (d:=.bool (beginsI a b c d)) ?_ hX1 fun v s' k=>k)
 refine ev_and up_fs (ev_cmp up_fs (ev_at 0 up_fs (one _) (by decide) (by decide) rfl rfl) (ev_at 0 up_fs (two _) (by decide) (by decide) rfl rfl) fun s X u v zz=>op_le) (fun hle=>ev_cmp up_fs (ev_bin up_fs (ev_at 1 up_fs (two _) (by decide) (by decide) rfl rfl) (ev_bin up_fs ev_int (ev_bin up_fs (ev_at 0 up_fs (two _) (by decide) (by decide) rfl rfl) (ev_at 0 up_fs (one _) (by decide) (by decide) rfl rfl) fun s X u v zz=>op_sub) fun s X u v zz=>op_pow (a:=64) (b:=c - a) ?_ ?_ (by decide)) fun s X u v zz=>op_div (a:=d) (b:=64 ^ (c - a).toNat) ?_ ?_) (ev_at 1 up_fs (one _) (by decide) (by decide) rfl rfl) fun s X u v zz=>op_eqi)
 ·have:=of_decide_eq_true hle;omega
 ·omega
 ·exact Int.pow_ne_zero (by decide)
 ·have:(c - a).toNat≤4:=by omega
  generalize (c - a).toNat=z at *
  apply PyProof.noPylong_small
  exact lt5 (P:=fun z=>((64:Int) ^ z).natAbs<1073741824) (by decide) (by decide) (by decide) (by decide) (by decide) (Nat.lt_succ_of_le this)
end
section
noncomputable def restI (c:Int):Int:=c.fdiv 6
noncomputable def octsAll (c:Int):List Int:=[([5,20]:List Int)[(((restI c).fdiv 3).fmod 2).toNat]?.getD 0,([5,20,200]:List Int)[(((restI c).fdiv 6).fmod 3).toNat]?.getD 0,([5,20,200]:List Int)[(((restI c).fdiv 18).fmod 3).toNat]?.getD 0]
noncomputable def octs (c:Int):List Int:=(octsAll c).take (1+(restI c).fmod 3).toNat
noncomputable def deedD (c:Int):PyData:=.tuple [.int ((restI c).fdiv 54),.int (c.fmod 6),.list ((octs c).map .int)]
theorem fmod_rng (a:Int) (h:0<b):0≤a.fmod b∧a.fmod b<b:=⟨Int.fmod_nonneg_of_pos a h,Int.fmod_lt_of_pos a h⟩
theorem get2 (i:Int) (h:0≤i∧i<2):(([5,20]:List Int).map PyData.int)[i.toNat]?=some (.int (([5,20]:List Int)[i.toNat]?.getD 0)):=by
 have:i=0∨i=1:=by lia
 rcases this with rfl|rfl <;> rfl
theorem get3 (i:Int) (h:0≤i∧i<3):(([5,20,200]:List Int).map PyData.int)[i.toNat]?=some (.int (([5,20,200]:List Int)[i.toNat]?.getD 0)):=by
 have:i=0∨i=1∨i=2:=by lia
 rcases this with rfl|rfl|rfl <;> rfl
theorem pick_take3 {α:Type} (a b c:α) (k:Int) (h:1≤k∧k≤3):pickD [a,b,c] none (some k) none=[a,b,c].take k.toNat:=by
 have:k=1∨k=2∨k=3:=by lia
 rcases this with rfl|rfl|rfl <;> rfl
set_option maxHeartbeats 2000000 in
theorem law_deeds {n:Nat} {ns:List Int} (F:FnK K f "_law_deeds" (topS 17) .none .none) (hA:OKA A (n+1)) (G:GK K mg mb s.heap)
  (m1:mg "enumerate"=none) (b1:mb "enumerate"=some (.type "enumerate")) (m2:mg "sum"=none) (b2:mb "sum"=some (.builtin "sum")) (hl:ns.length≤63) (hX:Bd X s.heap) (x:AtAll X s.heap vs [.list (ns.map .int)]) (E:VSP) :
  wpAny (model prog w) A (call (.ref f) vs) (fun v s'=>Keeps s s'∧∃ cs:List Int,cs.length=7∧(∀ c∈cs,0≤c∧c<972)∧At X s'.heap v (.list (cs.map deedD))) E s:=by
 obtain ⟨v,rfl,av⟩:=one_inv x
 refine fn_go [("script",v)] [("script",.dat (.list (ns.map .int)))] F hA G hX (fun doc pm an cdv ct=>.of_eq (by kernel_rfl)) (by decide +kernel) (locs (by kernel_rfl)) (by kernel_rfl) (by kernel_rfl) (by kernel_rfl)
  (fun X' h' hd e=>⟨rfl,(av.hid hd).ext e,trivial⟩) fun L env h1a tk fr hX1 hid f0=>?_
 refine hideQ fun Q1 hQ1=>?_
 try dsimp only
 show NR prog w _ (execs (_::_) env) _ _
 have hLX:L∈L::X:=.head _
 refine xc (asg_nil (R:=fun zz zz=>True) rest_true ⟨f0,trivial⟩ hX1 fr.le (by rw[fr.k];kernel_rfl) G fr.new hLX fun h2a tk2 D hD0 o2a hX2 f2 ml=>?_)
 have hDL:D≠L:=fun q=>by obtain ⟨o,e⟩:=hX1 L hLX;rw[q] at hD0;have hD0:h1a.get? L=none:=hD0;rw[hD0] at e;cases e
 have hD0:h1a.get? D=none:=hD0
 have hDs:=none_before f0.2.1 hD0
 have f2:=f2.1
 have hh:(A.deeper env).handled=none:=hA.handled
 have ktrue:∀ (R:XHP) (y:Str) (ρ:List (Str×VD)) {p:Pos} {d:PyData},(fScope (topS 17)).names.lookup y=some .local→ρ.lookup y=some (.dat d)→(y == ("__debug__":Str))=false→Ev prog w (A.deeper env) env (Fr2 K mg mb s.heap L ρ R) (.Name y p) d:=fun R y ρ p d a b c=>ev_loc fr.le (by rw[fr.k];exact a) loc2 b c
 try dsimp only
 show NR prog w _ (execs (_::_) env) _ _
 refine xc (for_loop (I:=Fr2 K mg mb s.heap L [("deeds",.val (.ref D)),("script",.dat (.list (ns.map .int)))] (Ml D [])) (M:=[L,D]) (T:=At) (ds:=enumD (([10,324,447,769,695,50,772]:List Int).map .int))
  (Inv:=fun i X' h=>∃ cs:List Int,cs.length=i∧(∀ c∈cs,0≤c∧c<972)∧Fr2 K mg mb s.heap L [("deeds",.val (.ref D)),("script",.dat (.list (ns.map .int)))] (Ml D (cs.map deedD)) X' h)
  (src_enum (up2 (rest_ml hDL)) hh ?_ ?_) hX2 ⟨f2,ml⟩ ?_ ?_ ?_ ?_ ?_ ?_)
 ·exact ev_builtin gk2 fr.ge (by rw[fr.k];kernel_rfl) m1 b1
 ·exact ev_list (ev_cons (up2 (rest_ml hDL)) ev_int (ev_cons (up2 (rest_ml hDL)) ev_int (ev_cons (up2 (rest_ml hDL)) ev_int (ev_cons (up2 (rest_ml hDL)) ev_int (ev_cons (up2 (rest_ml hDL)) ev_int (ev_cons (up2 (rest_ml hDL)) ev_int (ev_cons (up2 (rest_ml hDL)) ev_int ev_nil)))))))
 ·intro b m
  rcases mC m with rfl|m
  ·exact ⟨.tail _ (.head _),exl (f2.nt)⟩
  ·rw[m_s m];exact ⟨.head _,exl (ml.nt)⟩
 ·exact fun h X' k q sub=>⟨[],rfl,(by decide),up2 (rest_ml hDL) _ _ _ _ k q ⟨f2,ml⟩⟩
 ·rintro i X' h ⟨cs,_,_,f,m⟩ b hb
  rcases mC hb with rfl|hb
  ·exact f.nt
  ·rw[m_s hb];exact m.nt
 ·rintro i X' h h' Wr ⟨cs,a,b,f,m⟩ hW k
  have hDW:D∉Wr:=fun q=>by obtain ⟨o,e,_⟩:=ml.nt;have:=(hW D q).2.1;rw[show h2a.get? D=none from this] at e;cases e
  have hLW:∀ b∈Wr,b≠L:=fun b q e=>by obtain ⟨o,e',_⟩:=f2.nt;have:=(hW b q).2.1;rw[e] at this;rw[show h2a.get? L=none from this] at e';cases e'
  exact ⟨cs,a,b,f.off G k fun b q=>⟨none_before f2.2.1 (hW b q).2.1,(hW b q).1,hLW b q,(hW b q).2.2⟩,m.off k hDW fun b q=>⟨(hW b q).1,(hW b q).2.2⟩⟩
 ·intro i d v h' tk X' hd hv hb hX' sub o iv
  refine cps fun zz kG=>?_
  obtain ⟨cs,hlen,hcs,f,m⟩:=iv
  refine kG ?_
  rw[enumD_get,List.getElem?_map] at hd
  obtain ⟨st,hst,rfl⟩:∃ st,([10,324,447,769,695,50,772]:List Int)[i]?=some st∧d=.tuple [.int i,.int st]:=by
   cases q:([10,324,447,769,695,50,772]:List Int)[i]? with
   | none=>rw[q] at hd;cases hd
   | some st=>rw[q] at hd;cases hd;exact ⟨st,rfl,rfl⟩
  have rm:=rest_ml (L:=L) (ds:=cs.map deedD) hDL
  have hL':L∈X':=sub _ (.tail _ (.head _))
  have hi63:cs.length≤1000000:=by
   have:=(List.getElem?_eq_some_iff.mp hst).1
   simp at this;lia
  refine two2 rm hh ⟨f,m⟩ hv hb fr.le (by rw[fr.k];kernel_rfl) (by rw[fr.k];kernel_rfl) G fr.new hL' fun h3a tk3 o3a b3a f3a=>?_
  refine hideQ fun Q2 hQ2=>?_
  try dsimp only
  show NR prog w _ (execs (_::_) env) _ _
  obtain ⟨pk,hpk,hpl⟩:∃ pk:List Int,pickD (ns.map PyData.int) (some (i:Int)) none (some 7)=pk.map .int∧pk.length≤63:=⟨_,pickD_map _ _ _ _ _,Nat.le_trans (pickD_le _ _ _ _) hl⟩
  obtain ⟨c,hce,hc⟩:∃ c:Int,(st+sumOf (pk.map (·.fmod 972))).fmod 972=c∧(0≤c∧c<972):=⟨_,rfl,fmod_rng _ (by decide)⟩
  refine xc (asg2 (d:=.int c) rm f3a ?_ b3a fr.le (by rw[fr.k];kernel_rfl) G fr.new hL' fun h4a tk4 o4a b4a f4a=>?_)
  ·rw[← hce]
   refine ev_bin (up2 rm) (ev_bin (up2 rm) (ktrue _ _ _ (by kernel_rfl) (by rfl) (by kernel_rfl)) (ev_call (up2 rm) (ev_builtin gk2 fr.ge (by rw[fr.k];kernel_rfl) m2 b2) keeper_builtin (ev_cons (up2 rm) (d:=.list ((pk.map (·.fmod 972)).map .int)) ?_ ev_nil) fun s X vs zz zz y=>op_sum hh y) fun s X u v zz=>op_add) ev_int fun s X u v zz=>op_mod (by decide)
   refine Ev.eq ?_ (compL (f:=PyData.int) (as:=pk) (cl:=[]) (fun a=>[("x",.dat (.int a))]) (fun zz=>true) (fun a=>.int (a.fmod 972)) (up2 rm) (by decide +kernel) (by rfl) rfl (by decide +kernel)
    (src_listF PyData.int hh (Ev.eq (by rw[hpk]) (ev_slice_step (up2 rm) (ktrue _ _ _ (by kernel_rfl) (by rfl) (by kernel_rfl)) (evp_some (ktrue _ _ _ (by kernel_rfl) (by rfl) (by kernel_rfl))) evp_none ev_int (by decide) (by simp;lia))))
    (fun C cenv ce a zz=>tgt1 ce.le (ce.k _ _ (by kernel_rfl) (by decide))) (fun C cenv ce a zz=>ts_nil) (fun C cenv ce a zz zz=>ev_bin (up_and (up2 rm) up_loc) (ev_loc ce.le (ce.k _ _ (by kernel_rfl) (by decide)) (fun zz zz i=>i.2) (by rfl) (by kernel_rfl)) ev_int fun s X u v zz=>op_mod (by decide)) (by lia))
   rw[List.map_map,List.filter_eq_self.mpr (fun zz zz=>rfl)]
   rfl
  try dsimp only
  show NR prog w _ (execs (_::_) env) _ _
  refine xc (asg2 (d:=.int (restI c)) rm f4a (ev_bin (up2 rm) (ktrue _ _ _ (by kernel_rfl) (by rfl) (by kernel_rfl)) ev_int fun s X u v zz=>op_div (by decide) (PyProof.noPylong_small (by decide))) b4a fr.le (by rw[fr.k];kernel_rfl) G fr.new hL' fun h5 tk5 o5a b5a f5a=>?_)
  have rst:∀ (ρ:List (Str×VD)) {p:Pos},ρ.lookup ("rest":Str)=some (.dat (.int (restI c)))→Ev prog w (A.deeper env) env (Fr2 K mg mb s.heap L ρ (Ml D (cs.map deedD))) (.Name "rest" p) (.int (restI c)):=fun ρ p a=>ktrue _ _ _ (by kernel_rfl) a (by decide +kernel)
  try dsimp only
  show NR prog w _ (execs (_::_) env) _ _
  obtain ⟨o1,ho1⟩:∃ o,(([5,20]:List Int)[(((restI c).fdiv 3).fmod 2).toNat]?.getD 0)=o:=⟨_,rfl⟩
  obtain ⟨o2,ho2⟩:∃ o,(([5,20,200]:List Int)[(((restI c).fdiv 6).fmod 3).toNat]?.getD 0)=o:=⟨_,rfl⟩
  obtain ⟨o3,ho3⟩:∃ o,(([5,20,200]:List Int)[(((restI c).fdiv 18).fmod 3).toNat]?.getD 0)=o:=⟨_,rfl⟩
  have hoct:octsAll c=[o1,o2,o3]:=by rw[← ho1,← ho2,← ho3];rfl
  have g1:=get2 _ (fmod_rng ((restI c).fdiv 3) (b:=2) (by decide));rw[ho1] at g1
  have g2:=get3 _ (fmod_rng ((restI c).fdiv 6) (b:=3) (by decide));rw[ho2] at g2
  have g3:=get3 _ (fmod_rng ((restI c).fdiv 18) (b:=3) (by decide));rw[ho3] at g3
  have r1:=fmod_rng ((restI c).fdiv 3) (b:=2) (by decide)
  have r2:=fmod_rng ((restI c).fdiv 6) (b:=3) (by decide)
  have r3:=fmod_rng ((restI c).fdiv 18) (b:=3) (by decide)
  generalize hi1:((restI c).fdiv 3).fmod 2=i1 at g1 r1
  generalize hi2:((restI c).fdiv 6).fmod 3=i2 at g2 r2
  generalize hi3:((restI c).fdiv 18).fmod 3=i3 at g3 r3
  have ix:∀ (a b j:Int) {p1a p2a p3a p4a p5a:Pos} {k1a k2a:Nat} (ρ:List (Str×VD)),ρ.lookup ("rest":Str)=some (.dat (.int (restI c)))→(b≠0)→(a≠0)→a.natAbs<1073741824→((restI c).fdiv a).fmod b=j→Ev prog w (A.deeper env) env (Fr2 K mg mb s.heap L ρ (Ml D (cs.map deedD))) (.BinOp (.BinOp (.Name "rest" p1a) .FloorDiv (.Constant (.int a) k1a p2a) p3a) .Mod (.Constant (.int b) k2a p4a) p5a) (.int j):=fun a b j p1a p2a p3a p4a p5a k1a k2a ρ h hb ha hp hj=>by
   rw[← hj]
   exact ev_bin (up2 rm) (ev_bin (up2 rm) (rst _ h) ev_int fun s X u v zz=>op_div ha (PyProof.noPylong_small hp)) ev_int fun s X u v zz=>op_mod hb
  refine xc (asg2 (d:=.list [.int o1,.int o2,.int o3]) rm f5a ?_ b5a fr.le (by rw[fr.k];kernel_rfl) G fr.new hL' fun h6a tk6 o6 b6 f6a=>?_)
  ·refine ev_list (ev_cons (up2 rm) (ev_lat (ds:=[.int 5,.int 20]) (i:=i1) (up2 rm) (ev_list (ev_cons (up2 rm) ev_int (ev_cons (up2 rm) ev_int ev_nil))) (ix 3 2 i1 _ rfl (by decide) (by decide) (by decide) hi1) r1.1 (Int.lt_trans r1.2 (by decide)) g1)
    (ev_cons (up2 rm) (ev_lat (ds:=[.int 5,.int 20,.int 200]) (i:=i2) (up2 rm) (ev_list (ev_cons (up2 rm) ev_int (ev_cons (up2 rm) ev_int (ev_cons (up2 rm) ev_int ev_nil)))) (ix 6 3 i2 _ rfl (by decide) (by decide) (by decide) hi2) r2.1 (Int.lt_trans r2.2 (by decide)) g2)
    (ev_cons (up2 rm) (ev_lat (ds:=[.int 5,.int 20,.int 200]) (i:=i3) (up2 rm) (ev_list (ev_cons (up2 rm) ev_int (ev_cons (up2 rm) ev_int (ev_cons (up2 rm) ev_int ev_nil)))) (ix 18 3 i3 _ rfl (by decide) (by decide) (by decide) hi3) r3.1 (Int.lt_trans r3.2 (by decide)) g3) ev_nil))) (hl:=by simp)
  try dsimp only
  show NR prog w _ (execs (_::_) env) _ _
  refine xc (append2 (hi:=fr.ge.inter) (D:=D) (d:=deedD c) (ds:=cs.map deedD) (up2 rm) f6a b6 (ev_locv fr.le (by rw[fr.k];kernel_rfl) loc2 (by rfl) (by kernel_rfl)) ?_ (sub _ (.head _)) f6a.2 (by simpa using hi63) fun h7a tk7 o7 b7 m7a z7=>?_)
  ·refine Ev.eq ?_ (ev_tuple (ev_cons (up2 rm) (ev_bin (up2 rm) (rst _ rfl) ev_int fun s X u v zz=>op_div (b:=54) (by decide) (PyProof.noPylong_small (by decide))) (ev_cons (up2 rm) (ev_bin (up2 rm) (ktrue _ _ _ (by kernel_rfl) (by rfl) (by kernel_rfl)) ev_int fun s X u v zz=>op_mod (b:=6) (by decide)) (ev_cons (up2 rm) (ev_slice (up2 rm) (ktrue _ _ _ (by kernel_rfl) (by rfl) (by kernel_rfl)) evp_none (evp_some (ev_bin (up2 rm) ev_int (ev_bin (up2 rm) (rst _ rfl) ev_int fun s X u v zz=>op_mod (b:=3) (by decide)) fun s X u v zz=>op_add)) (by simp)) ev_nil))) (hl:=by simp))
   have r4:=fmod_rng (restI c) (b:=3) (by decide)
   rw[pick_take3 _ _ _ _ (by lia),deedD,octs,hoct,List.map_take]
   rfl
  ·obtain ⟨h8a,e8a,nt8,f8a,o8⟩:=z7
   refine wpAny_execs_nil (hQ2 _ _ ⟨h7a,_,rfl,?_,cs++[c],by simp[hlen],?_,?_,by simpa using m7a⟩)
   ·have up1:∀ {a b:Heap},Off [L] a b→Off [L,D] a b:=fun k=>k.mono fun q m=>by rw[m_s m];exact .head _
    exact (up1 o3a).trans ((up1 o4a).trans ((up1 o5a).trans ((up1 o6).trans (o7.mono fun q m=>.tail _ m))))
   ·intro y m
    rcases m_a m with m|m
    ·exact hcs y m
    ·rw[m_s m];exact hc
   ·exact (f8a.1.off G o8 fun b m=>by rw[m_s m];exact ⟨hDs,sub _ (.head _),hDL,nt8.mk⟩).sub ⟨rfl,rfl,trivial⟩
 ·intro h' tk X' hb sub o iv
  refine cps fun zz kG=>?_
  obtain ⟨cs,hlen,hcs,f,m⟩:=iv
  refine kG ?_
  try dsimp only
  show NR prog w _ (execs (_::_) env) _ _
  have st:=up2 (rest_ml (L:=L) (ds:=cs.map deedD) hDL) _ _ _ _ (Ext.refl _) (fun x m=>.inl (sub x m)) (show Fr2 K mg mb s.heap L [("deeds",.val (.ref D)),("script",.dat (.list (ns.map .int)))] (Ml D (cs.map deedD)) X' h' from ⟨f,m⟩)
  refine xc (ret (I:=Fr2 K mg mb s.heap L [("deeds",.val (.ref D)),("script",.dat (.list (ns.map .int)))] (Ml D (cs.map deedD))) (R:=fun zz zz v=>v=.ref D) (ev_locv fr.le (by rw[fr.k];kernel_rfl) loc2 (by rfl) (by kernel_rfl)) (X:=D::L::X) hb st fun v s' k r=>?_)
  subst r
  obtain ⟨h4a,tk4,rfl,e4a⟩:=k
  have e4a:Ext h' h4a:=e4a
  refine hQ1 _ _ ⟨⟨h4a,tk4,rfl,Ext.trans st.1.2.1 e4a⟩,cs,by rw[hlen,enumD_length];rfl,hcs,(st.2.ext e4a).at (fun x m=>.inl (.tail _ (.tail _ m))) fun q=>?_⟩
  obtain ⟨o,e⟩:=hX D q
  rw[hDs] at e;cases e
end
section
set_option maxHeartbeats 1000000 in
theorem buffer {n:Nat} {b:Array UInt8} {t:Tok} (F:FnK K f "_buffer" (topS 4) .none .none) (hA:OKA A (n+1)) (G:GK K mg mb s.heap) (m1:mg "type"=none) (b1:mb "type"=some (.type "type")) (m2:mg "bytes"=none) (b2:mb "bytes"=some (.type "bytes"))
  (E:VSP):wpAny (model prog w) A (call (.ref f) [.bytes b t]) (fun v s'=>Keeps s s'∧v=.bytes b t) E s:=by
 refine fn_go (X:=[]) [("data",.bytes b t)] [("data",.val (.bytes b t))] F hA G (fun zz m=>by cases m) (fun doc pm an cdv ct=>.of_eq (by kernel_rfl)) (by decide +kernel) (locs (by kernel_rfl)) (by kernel_rfl) (by kernel_rfl) (by kernel_rfl)
  (fun X' h' hd e=>⟨rfl,rfl,trivial⟩) fun L env h1a tk fr hX1 hid f0=>?_
 show NR prog w _ (execs (_::_) env) _ _
 refine xc (asgx2 (R:=fun zz zz=>True) (P:=fun v=>v=.type "bytes") rest_true ⟨f0,trivial⟩ ?_ hX1 fr.le (by rw[fr.k];kernel_rfl) G fr.new (.head _) fun h2a tk2 u hu o2a b2b f2a=>?_)
 ·exact ev_call1R (R':=fun zz zz v=>v=.bytes b t) (up2 rest_true) (ev_builtin gk2 fr.ge (by rw[fr.k];kernel_rfl) m1 b1) keeper_type (ev_locv fr.le (by rw[fr.k];kernel_rfl) loc2 (by rfl) (by kernel_rfl)) fun s X v E zz zz hv=>by
   rw[hv];exact call_type_of (typeIs_bytes s b t) (by decide) ⟨kp_refl _,rfl⟩
 subst hu
 show NR prog w _ (execs (_::_) env) _ _
 refine xc (ifs (b:=true) (I:=Fr2 K mg mb s.heap L [("t",.val (.type "bytes")),("data",.val (.bytes b t))] fun zz zz=>True) (tr_is (R:=fun v=>v=.type "bytes") (R':=fun v=>v=.type "bytes") (up2 rest_true) (ev_locv fr.le (by rw[fr.k];kernel_rfl) loc2 (by rfl) (by kernel_rfl)) (ev_builtin gk2 fr.ge (by rw[fr.k];kernel_rfl) m2 b2) (fun u v hu hv=>by rw[hu,hv];exact ⟨rfl,rfl⟩)) b2b f2a fun s' k'=>?_)
 rw[if_pos rfl]
 show NR prog w _ (execs (_::_) env) _ _
 have f3:=up2 rest_true _ _ _ _ (kp_ext k') (Hid.refl _ _) f2a
 refine xc (ret (I:=Fr2 K mg mb s.heap L [("t",.val (.type "bytes")),("data",.val (.bytes b t))] fun zz zz=>True) (R:=fun zz zz v=>v=.bytes b t) (ev_locv fr.le (by rw[fr.k];kernel_rfl) loc2 (by rfl) (by kernel_rfl)) (b2b.ext (kp_ext k')) f3 fun v s'' k'' r=>?_)
 obtain ⟨h3a,tk3,rfl,e3a⟩:=kp_trans k' k''
 exact ⟨⟨h3a,tk3,rfl,Ext.trans f2a.1.2.1 e3a⟩,r⟩
set_option maxHeartbeats 1000000 in
theorem truth {n:Nat} {b:Bool} (F:FnK K f "_truth" (topS 5) .none .none) (hA:OKA A (n+1)) (G:GK K mg mb s.heap) (m1:mg "type"=none) (b1:mb "type"=some (.type "type")) (m2:mg "bool"=none) (b2:mb "bool"=some (.type "bool"))
  (E:VSP):wpAny (model prog w) A (call (.ref f) [.bool b]) (fun v s'=>Keeps s s'∧v=.bool b) E s:=by
 refine fn_go (X:=[]) [("x",.bool b)] [("x",.val (.bool b))] F hA G (fun zz m=>by cases m) (fun doc pm an cdv ct=>.of_eq (by kernel_rfl)) (by decide +kernel) (locs (by kernel_rfl)) (by kernel_rfl) (by kernel_rfl) (by kernel_rfl)
  (fun X' h' hd e=>⟨rfl,rfl,trivial⟩) fun L env h1a tk fr hX1 hid f0=>?_
 show NR prog w _ (execs (_::_) env) _ _
 refine xc (asgx2 (R:=fun zz zz=>True) (P:=fun v=>v=.type "bool") rest_true ⟨f0,trivial⟩ ?_ hX1 fr.le (by rw[fr.k];kernel_rfl) G fr.new (.head _) fun h2a tk2 u hu o2a b2b f2a=>?_)
 ·exact ev_call1R (R':=fun zz zz v=>v=.bool b) (up2 rest_true) (ev_builtin gk2 fr.ge (by rw[fr.k];kernel_rfl) m1 b1) keeper_type (ev_locv fr.le (by rw[fr.k];kernel_rfl) loc2 (by rfl) (by kernel_rfl)) fun s X v E zz zz hv=>by
   rw[hv];exact call_type_of (PySem.typeIs_bool s b) (by decide) ⟨kp_refl _,rfl⟩
 subst hu
 show NR prog w _ (execs (_::_) env) _ _
 have xe:∀ p,EvR prog w (A.deeper env) env (Fr2 K mg mb s.heap L [("t",.val (.type "bool")),("x",.val (.bool b))] fun zz zz=>True) (.Name "x" p) (fun zz zz v=>v=.bool b):=fun p=>ev_locv fr.le (by rw[fr.k];kernel_rfl) loc2 (by rfl) (by kernel_rfl)
 refine xc (ifs (b:=true) (I:=Fr2 K mg mb s.heap L [("t",.val (.type "bool")),("x",.val (.bool b))] fun zz zz=>True) (tr_or (up2 rest_true) (.no (tr_is (R:=fun v=>v=.bool b) (R':=fun v=>v=.none) (up2 rest_true) (xe _) (ev_none.mono fun X h v a=>At.none_inv a) (fun u v hu hv=>by rw[hu,hv];exact ⟨rfl,rfl⟩))
  (.yes (tr_is (R:=fun v=>v=.type "bool") (R':=fun v=>v=.type "bool") (up2 rest_true) (ev_locv fr.le (by rw[fr.k];kernel_rfl) loc2 (by rfl) (by kernel_rfl)) (ev_builtin gk2 fr.ge (by rw[fr.k];kernel_rfl) m2 b2) (fun u v hu hv=>by rw[hu,hv];exact ⟨rfl,rfl⟩))))) b2b f2a fun s' k'=>?_)
 rw[if_pos rfl]
 show NR prog w _ (execs (_::_) env) _ _
 have f3:=up2 rest_true _ _ _ _ (kp_ext k') (Hid.refl _ _) f2a
 refine xc (ret (I:=Fr2 K mg mb s.heap L [("t",.val (.type "bool")),("x",.val (.bool b))] fun zz zz=>True) (R:=fun X h v=>At X h v (.bool b)) (ev_if (b:=b) (up2 rest_true) (tr_val (up2 rest_true) (xe _) fun v s Q E e q=>by rw[e];exact wpAny_truthy_bool q) (fun e=>e▸ev_bool) (fun e=>e▸ev_bool)) (b2b.ext (kp_ext k')) f3 fun v s'' k'' r=>?_)
 obtain ⟨h3a,tk3,rfl,e3a⟩:=kp_trans k' k''
 exact ⟨⟨h3a,tk3,rfl,Ext.trans f2a.1.2.1 e3a⟩,r.bool_inv⟩
end
noncomputable def b64codes:List Int:=(List.range 26).map (fun (i:Nat)=>(i:Int)+65)++(List.range 26).map (fun (i:Nat)=>(i:Int)+97)++(List.range 10).map (fun (i:Nat)=>(i:Int)+48)++[43,47]
theorem codes_len:b64codes.length=64:=by decide
theorem codes_oct:Oct b64codes:=by unfold Oct;decide
noncomputable def sign (i:Int):Int:=b64codes[i.toNat]?.getD 0
theorem sign_get {i:Int} (h:0≤i∧i<64):b64codes[i.toNat]?=some (sign i):=by
 have:i.toNat<b64codes.length:=by rw[codes_len];lia
 rw[sign,List.getElem?_eq_getElem this];rfl
theorem sign_oct (i:Int):0≤sign i∧sign i<256:=by
 unfold sign
 cases q:b64codes[i.toNat]? with
 | none=>decide
 | some n=>exact codes_oct n (List.mem_of_getElem? q)
noncomputable def drain:Nat→Int→Int→List Int→Int×List Int
 | 0,_,lb,out=>(lb,out)
 | n+1,lc,lb,out=>if 6≤lb then drain n lc (lb - 6) (out++[sign ((lc.fdiv (2 ^ (lb - 6).toNat)) % 64)]) else (lb,out)
theorem drain_s {n:Nat} {lc lb:Int} {out:List Int}:drain (n+1) lc lb out=if 6≤lb then drain n lc (lb - 6) (out++[sign ((lc.fdiv (2 ^ (lb - 6).toNat)) % 64)]) else (lb,out):=rfl
noncomputable def b64step (st:Int×Int×List Int) (b:Int):Int×Int×List Int :=
 let lc:=(Builtin.bitOr (st.1 * 2 ^ 8) b) % 65536
 (lc,drain 2 lc (st.2.1+8) st.2.2)
noncomputable def b64fin (st:Int×Int×List Int):List Int :=
 if st.2.1=2 then st.2.2++[sign ((st.1 % 4) * 2 ^ 4),61,61] else if st.2.1=4 then st.2.2++[sign ((st.1 % 16) * 2 ^ 2),61] else st.2.2
noncomputable def b64 (os:List Int):List Int:=b64fin (os.foldl b64step (0,0,[]))
theorem drain_rng:∀ (n:Nat) (lc lb:Int) (out:List Int),0≤lb→lb<6 * ((n:Int)+1)→0≤(drain n lc lb out).1∧(drain n lc lb out).1<6:=by
 intro n
 induction n with
 | zero=>intro lc lb out h0 h1;exact ⟨h0,h1⟩
 | succ n ih =>
  intro lc lb out h0 h1
  rw[drain_s]
  split
  ·exact ih lc (lb - 6) _ (by lia) (by lia)
  ·exact ⟨h0,by show lb<6;lia⟩
theorem drain_oct:∀ (n:Nat) (lc lb:Int) (out:List Int),Oct out→Oct (drain n lc lb out).2
 | 0,_,_,_,h=>h
 | n+1,lc,lb,out,h=>by
  rw[drain_s]
  split
  ·refine drain_oct n lc (lb - 6) _ fun x m=>?_
   rcases m_a m with m|m
   ·exact h x m
   ·rw[m_s m];exact sign_oct _
  ·exact h
theorem drain_len:∀ (n:Nat) (lc lb:Int) (out:List Int),(drain n lc lb out).2.length≤out.length+n
 | 0,_,_,_=>Nat.le_refl _
 | n+1,lc,lb,out=>by
  rw[drain_s]
  split
  ·have:=drain_len n lc (lb - 6) (out++[sign ((lc.fdiv (2 ^ (lb - 6).toNat)) % 64)])
   simp at this;lia
  ·show out.length≤_;lia
structure B64St (st:Int×Int×List Int) (n:Nat):Prop where
 lc:0≤st.1∧st.1<65536
 lb:0≤st.2.1∧st.2.1<6
 out:Oct st.2.2
 len:st.2.2.length≤2 * n
theorem b64_st:∀ (os:List Int),B64St (os.foldl b64step (0,0,[])) os.length:=fun os=>by
 have go:∀ (os:List Int) (st:Int×Int×List Int) (n:Nat),B64St st n→B64St (os.foldl b64step st) (n+os.length):=fun os=>by
  induction os with
  | nil=>exact fun st n h=>h
  | cons o os ih =>
   intro st n h
   have h':B64St (b64step st o) (n+1):=⟨⟨Int.emod_nonneg _ (by decide),Int.emod_lt_of_pos _ (by decide)⟩,drain_rng 2 _ _ _ (by have:=h.lb;lia) (by have:=h.lb;lia),drain_oct _ _ _ _ h.out,by
    have:=drain_len 2 ((Builtin.bitOr (st.1 * 2 ^ 8) o) % 65536) (st.2.1+8) st.2.2
    have:=h.len
    show (drain 2 _ _ _).2.length≤_
    lia⟩
   have:=ih _ _ h'
   rw[List.foldl_cons,List.length_cons,show n+(os.length+1)=n+1+os.length by lia]
   exact this
 have:=go os (0,0,[]) 0 ⟨by decide,by decide,(fun zz m=>by cases m),by decide⟩
 simpa using this
theorem b64_snoc (os:List Int) (o:Int):(os++[o]).foldl b64step (0,0,[])=b64step (os.foldl b64step (0,0,[])) o:=by simp
theorem b64_oct (os:List Int):Oct (b64 os):=by
 have h:=(b64_st os).out
 have q:∀ (l m:List Int),Oct l→Oct m→Oct (l++m):=fun l m a b x hx=>(m_a hx).elim (a x) (b x)
 unfold b64 b64fin
 split
 ·exact q _ _ h fun x m=>by
   rcases mC m with rfl|m
   ·exact sign_oct _
   ·simp at m;subst m;decide
 ·split
  ·exact q _ _ h fun x m=>by
    rcases mC m with rfl|m
    ·exact sign_oct _
    ·simp at m;subst m;decide
  ·exact h
section
structure B64Names (K:Frag) (mg mb:Str→Option Value):Prop where
 fb:∃ a,FnK K a "_buffer" (topS 4) .none .none∧mg "_buffer"=some (.ref a)
 ft:∃ a,FnK K a "_truth" (topS 5) .none .none∧mg "_truth"=some (.ref a)
 b64:∃ t,mg "_B64"=some (.bytes (byteArr b64codes) t)
 m1:mg "type"=none
 b1:mb "type"=some (.type "type")
 m2:mg "bytes"=none
 b2:mb "bytes"=some (.type "bytes")
 m3:mg "bool"=none
 b3:mb "bool"=some (.type "bool")
noncomputable def bst (os:List Int):Int×Int×List Int:=os.foldl b64step (0,0,[])
noncomputable def rb (bv:Value) (D:Addr) (st:Int×Int×List Int):List (Str×VD):=[("leftchar",.dat (.int st.1)),("leftbits",.dat (.int st.2.1)),("out",.val (.ref D)),("newline",.val (.bool false)),("bin_data",.val bv)]
set_option maxHeartbeats 2000000 in
theorem b2a {n:Nat} {os:List Int} {bv:Value} (F:FnK K f "b2a_base64" (topS 7) .none kV) (hA:OKA A (n+2)) (G:GK K mg mb s.heap) (N:B64Names K mg mb) (ho:Oct os) (hl:os.length≤100) (hb:IsB os bv)
  (E:VSP):wpAny (model prog w) A (call (.ref f) [bv] [("newline",.bool false)]) (fun v s'=>Keeps s s'∧IsB (b64 os) v) E s:=by
 obtain ⟨tb,rfl⟩:=hb
 obtain ⟨ab,Fb,mB⟩:=N.fb
 obtain ⟨at',Ft,mT⟩:=N.ft
 obtain ⟨t64,mC⟩:=N.b64
 refine fn_go (X:=[]) [("data",.bytes (byteArr os) tb),("newline",.bool false)] [("newline",.val (.bool false)),("data",.val (.bytes (byteArr os) tb))] F hA G (fun zz m=>by cases m) (fun doc pm an cdv ct=>.of_eq (by kernel_rfl)) (by decide +kernel) (locs (by kernel_rfl)) (by kernel_rfl) (by kernel_rfl) (by kernel_rfl)
  (fun X' h' hd e=>⟨rfl,rfl,rfl,rfl,trivial⟩) fun L env h1a tk fr hX1 hid f0=>?_
 refine hideQ fun Q hQ=>?_
 have hLX:L∈[L]:=.head _
 have lv:∀ (R:XHP) (y:Str) (ρ:List (Str×VD)) {p:Pos} {u:Value},(fScope (topS 7)).names.lookup y=some .local→ρ.lookup y=some (.val u)→(y == ("__debug__":Str))=false→EvR prog w (A.deeper env) env (Fr2 K mg mb s.heap L ρ R) (.Name y p) (fun zz zz v=>v=u):=fun R y ρ p d a b c=>ev_locv fr.le (by rw[fr.k];exact a) loc2 b c
 have ld:∀ (R:XHP) (y:Str) (ρ:List (Str×VD)) {p:Pos} {d:PyData},(fScope (topS 7)).names.lookup y=some .local→ρ.lookup y=some (.dat d)→(y == ("__debug__":Str))=false→Ev prog w (A.deeper env) env (Fr2 K mg mb s.heap L ρ R) (.Name y p) d:=fun R y ρ p d a b c=>ev_loc fr.le (by rw[fr.k];exact a) loc2 b c
 have gl:∀ (R:XHP) (y:Str) (ρ:List (Str×VD)) {p:Pos} {u:Value},(fScope (topS 7)).names.lookup y=some .globalImplicit→mg y=some u→(y == ("__debug__":Str))=false→EvR prog w (A.deeper env) env (Fr2 K mg mb s.heap L ρ R) (.Name y p) (fun zz zz v=>v=u):=fun R y ρ p u a b c=>ev_global gk2 fr.ge (by rw[fr.k];exact a) b c
 try dsimp only
 show NR prog w _ (execs (_::_) env) _ _
 refine xc (asgx2 (R:=fun zz zz=>True) (P:=fun v=>v=.bytes (byteArr os) tb) rest_true ⟨f0,trivial⟩ ?_ hX1 fr.le (by rw[fr.k];kernel_rfl) G fr.new hLX fun h2a tk2 u hu o2a b2b f2a=>?_)
 ·exact ev_call1R (R':=fun zz zz v=>v=.bytes (byteArr os) tb) (up2 rest_true) (gl _ _ _ (by kernel_rfl) mB (by decide +kernel)) (Fb.keep gk2) (lv _ _ _ (by kernel_rfl) (by rfl) (by kernel_rfl)) fun s X v E zz i hv=>by
   rw[hv];exact buffer Fb fr.ok i.1.1 N.m1 N.b1 N.m2 N.b2 E
 subst hu
 try dsimp only
 show NR prog w _ (execs (_::_) env) _ _
 refine xc (asgx2 (R:=fun zz zz=>True) (P:=fun v=>v=.bool false) rest_true f2a ?_ b2b fr.le (by rw[fr.k];kernel_rfl) G fr.new hLX fun h3a tk3 u hu o3a b3a f3a=>?_)
 ·exact ev_call1R (R':=fun zz zz v=>v=.bool false) (up2 rest_true) (gl _ _ _ (by kernel_rfl) mT (by decide +kernel)) (Ft.keep gk2) (lv _ _ _ (by kernel_rfl) (by rfl) (by kernel_rfl)) fun s X v E zz i hv=>by
   rw[hv];exact truth Ft fr.ok i.1.1 N.m1 N.b1 N.m3 N.b3 E
 subst hu
 try dsimp only
 show NR prog w _ (execs (_::_) env) _ _
 refine xc (asg_nil rest_true f3a b3a fr.le (by rw[fr.k];kernel_rfl) G fr.new hLX fun h4a tk4 D hD o4a b4a f4a ml=>?_)
 have hD:h3a.get? D=none:=hD
 have hDL:D≠L:=fun q=>by obtain ⟨o,e,_⟩:=f3a.1.nt;rw[← q,hD] at e;cases e
 have hDs:=none_before f3a.1.2.1 hD
 have hLX:L∈[D,L]:=.tail _ (.head _)
 have rm:∀ ds,Rest L (Ml D ds):=fun ds=>rest_ml hDL
 try dsimp only
 show NR prog w _ (execs (_::_) env) _ _
 refine xc (asg2 (rm _) ⟨f4a.1,ml⟩ ev_int b4a fr.le (by rw[fr.k];kernel_rfl) G fr.new hLX fun h5 tk5 o5a b5a f5a=>?_)
 try dsimp only
 show NR prog w _ (execs (_::_) env) _ _
 refine xc (asg2 (rm _) f5a ev_int b5a fr.le (by rw[fr.k];kernel_rfl) G fr.new hLX fun h6a tk6 o6 b6 f6a=>?_)
 try dsimp only
 show NR prog w _ (execs (_::_) env) _ _
 refine xc (for_d (T:=AtF PyData.int) (β:=Unit×Nat) (ds:=os) (fun i b=>b.2=i) (fun b=>rb (.bytes (byteArr os) tb) D (bst (os.take b.2))) (fun b=>(bst (os.take b.2)).2.2.map .int) f6a
  ⟨((),0),rfl,?_,rfl⟩ (src_bytes hA.handled ho ((lv _ _ _ (by kernel_rfl) (by rfl) (by kernel_rfl)).mono fun X h v e=>⟨tb,e⟩)) b6 G hLX (.head _) hDL ?_ ?_)
 ·exact Sub.get (show Sub _ (rb _ _ _) from ⟨rfl,rfl,rfl,rfl,rfl,trivial⟩)
 ·rintro i o v h' tk X' ⟨_,j⟩ hd hv hb hL' hD' e f
  obtain rfl:j=i:=e
  obtain ⟨st,hst⟩:∃ st,st=bst (os.take j):=⟨_,rfl⟩
  have hS:B64St st (os.take j).length:=hst▸b64_st _
  have hlen:(os.take j).length≤100:=Nat.le_trans (List.length_take_le' ..) hl
  have hlc:=hS.lc
  have hlb:=hS.lb
  have hout:=hS.len
  simp only[← hst] at f
  refine name2 (D:=.dat (.int o)) (rm _) f hv hb fr.le (by rw[fr.k];kernel_rfl) G fr.new hL' fun h7a tk7 o7 b7 f7a=>?_
  refine hideQ fun Q2 hQ2=>?_
  try dsimp only
  show NR prog w _ (execs (_::_) env) _ _
  obtain ⟨lc,hlc'⟩:∃ lc,lc=(Builtin.bitOr (st.1 * 2 ^ 8) o) % 65536:=⟨_,rfl⟩
  refine xc (asg2 (d:=.int lc) (rm _) f7a ?_ b7 fr.le (by rw[fr.k];kernel_rfl) G fr.new hL' fun h8a tk8 o8 b8 f8a=>?_)
  ·refine Ev.eq ?_ (ev_bin (up2 (rm _)) (ev_bin (up2 (rm _)) (ev_bin (up2 (rm _)) (ld _ _ _ (by kernel_rfl) (by rfl) (by kernel_rfl)) ev_int fun s X u v zz=>op_shl (a:=st.1) (b:=8) (by decide) (by decide) (by lia)) (ld _ _ _ (by kernel_rfl) (by rfl) (by kernel_rfl)) fun s X u v zz=>op_bor) ev_int fun s X u v zz=>op_band)
   rw[hlc',bitAnd_m16];rfl
  try dsimp only
  show NR prog w _ (execs (_::_) env) _ _
  refine xc (asg2 (d:=.int (st.2.1+8)) (rm _) f8a (ev_bin (up2 (rm _)) (ld _ _ _ (by kernel_rfl) (by rfl) (by kernel_rfl)) ev_int fun s X u v zz=>op_add) b8 fr.le (by rw[fr.k];kernel_rfl) G fr.new hL' fun h9 tk9 o9 b9 f9a=>?_)
  have hoff9:Off [L,D] h' h9:=(off1 o7).trans ((off1 o8).trans (off1 o9))
  obtain ⟨fin,hfin⟩:∃ fin,fin=drain 2 lc (st.2.1+8) st.2.2:=⟨_,rfl⟩
  have hnext:b64step st o=(lc,fin):=by rw[hfin,hlc'];rfl
  let rw':Int→List (Str×VD):=fun lb=>[("leftbits",.dat (.int lb)),("leftchar",.dat (.int lc)),("out",.val (.ref D)),("newline",.val (.bool false)),("bin_data",.val (.bytes (byteArr os) tb))]
  try dsimp only
  show NR prog w _ (execs (_::_) env) _ _
  have lb0:0≤lc:=by rw[hlc'];exact Int.emod_nonneg _ (by decide)
  refine xc (while_nr (fun n h=>∃ lb out,drain n lc lb out=fin∧0≤lb∧lb<6 * ((n:Int)+1)∧out.length+n≤1000∧Fr2 K mg mb s.heap L (rw' lb) (Ml D (out.map .int)) X' h∧Off [L,D] h' h∧Bd X' h) 2
   ⟨_,_,hfin.symm,by lia,by lia,by lia,⟨f9a.1.sub ⟨rfl,rfl,rfl,rfl,rfl,trivial⟩,f9a.2⟩,hoff9,b9⟩ ?_)
  rintro n h tk ⟨lb,out,hdr,hlb0,hlb1,hol,fw,ow,bw⟩
  refine (tr_cmp (up2 (rm _)) (ld _ _ _ (by kernel_rfl) (by rfl) (by kernel_rfl)) ev_int fun s X u v zz=>op_ge).wp bw fw fun s1a k1a=>?_
  obtain ⟨h10,tk10,rfl,e10⟩:=k1a
  have e10:Ext h h10:=e10
  have f10a:=up2 (rm _) _ _ _ _ e10 (Hid.refl _ _) fw
  by_cases h6:6≤lb
  ·rw[if_pos (by simpa using h6)]
   cases n with
   | zero=>lia
   | succ n =>
    refine hideQ fun Q3 hQ3=>?_
    try dsimp only
    show NR prog w _ (execs (_::_) env) _ _
    obtain ⟨sg,hsg⟩:∃ sg,sg=sign ((lc.fdiv (2 ^ (lb - 6).toNat)) % 64):=⟨_,rfl⟩
    have hix:=fun x:Int=>(⟨Int.emod_nonneg x (by decide),Int.emod_lt_of_pos x (by decide)⟩:0≤x % 64∧x % 64<64)
    refine xc (append2 (hi:=fr.ge.inter) (D:=D) (d:=.int sg) (ds:=out.map .int) (up2 (rm _)) f10a (bw.ext e10) (lv _ _ _ (by kernel_rfl) (by rfl) (by kernel_rfl)) ?_ hD' f10a.2 (by simp;lia) fun h11 tk11 o11 b11 m11 z11=>?_)
    ·refine ev_subR (R:=IsB b64codes) (b:=.int ((lc.fdiv (2 ^ (lb - 6).toNat)) % 64)) (up2 (rm _)) ((gl _ _ _ (by kernel_rfl) mC (by decide +kernel)).mono fun X h v e=>⟨t64,e⟩) (Ev.eq ?_ (ev_bin (up2 (rm _)) (ev_bin (up2 (rm _)) (ld _ _ _ (by kernel_rfl) (by rfl) (by kernel_rfl)) (ev_bin (up2 (rm _)) (ld _ _ _ (by kernel_rfl) (by rfl) (by kernel_rfl)) ev_int fun s X u v zz=>op_sub) fun s X u v zz=>op_shr (a:=lc) (b:=lb - 6) (by lia)) ev_int fun s X u v zz=>op_band)) fun s X u v E a b=>sub_bytes codes_oct (by rw[codes_len];decide) (hix _).1 (hsg▸sign_get (hix _)) a b
     rw[bitAnd_m6]
    obtain ⟨h12,e12a,n12,f12,o12⟩:=z11
    have f13:=fr2_append G f12 n12 o12 hDs hD' hDL m11
    try dsimp only
    show NR prog w _ (execs (_::_) env) _ _
    refine xc (asg2 (d:=.int (lb - 6)) (rm _) f13 (ev_bin (up2 (rm _)) (ld _ _ _ (by kernel_rfl) (by rfl) (by kernel_rfl)) ev_int fun s X u v zz=>op_sub) b11 fr.le (by rw[fr.k];kernel_rfl) G fr.new hL' fun h14 tk14 o14a b14 f14=>?_)
    refine wpAny_execs_nil (hQ3 _ _ ⟨n,h14,_,rfl,Nat.lt_succ_self _,lb - 6,out++[sg],?_,by lia,by lia,by simp;lia,⟨f14.1.sub ⟨rfl,rfl,rfl,rfl,rfl,trivial⟩,by simpa using f14.2⟩,ow.trans ((Ext.off e10).trans ((off2 o11).trans (off1 o14a))),b14⟩)
    rw[← hdr,hsg]
    show _=if 6≤lb then _ else _
    rw[if_pos h6]
  ·rw[if_neg (by simpa using h6)]
   have hfe:fin=(lb,out):=by
    rw[← hdr]
    cases n with
    | zero=>rfl
    | succ n=>show (if 6≤lb then _ else _)=_;rw[if_neg h6]
   have hj:bst (os.take (j+1))=(lc,lb,out):=by
    rw[bst,List.take_add_one,hd,show (some o).toList=[o] from rfl,b64_snoc]
    show b64step (bst (os.take j)) o=_
    rw[← hst,hnext,hfe]
   refine wpAny_execs_nil (hQ2 _ _ ⟨h10,_,((),j+1),rfl,ow.trans (Ext.off e10),rfl,?_⟩)
   simp only[hj]
   exact ⟨f10a.1.sub ⟨rfl,rfl,rfl,rfl,rfl,trivial⟩,f10a.2⟩
 ·rintro h' tk ⟨_,j⟩ hb e f o
  obtain rfl:j=os.length:=e
  simp only[List.take_length] at f
  obtain ⟨st,hst⟩:∃ st,st=bst os:=⟨_,rfl⟩
  have hS:B64St st os.length:=hst▸b64_st _
  simp only[← hst] at f
  have hout:=hS.len
  have hb64:b64 os=b64fin st:=by rw[hst];rfl
  let rr:List (Str×VD):=rb (.bytes (byteArr os) tb) D st
  have tl:∀ h tk (outs:List Int),b64 os=outs→Bd [D,L] h→Fr2 K mg mb s.heap L rr (Ml D (outs.map .int)) [D,L] h→outs.length≤1000→NR prog w (A.deeper env) (execs ((fBody (topS 7)).drop 7) env) Q { s with heap:=h,toks:=tk }:=fun h tk outs ho' bh fh hbl=>by
   subst ho'
   try dsimp only
   show NR prog w _ (execs (_::_) env) _ _
   refine xc (ifs (b:=false) (I:=Fr2 K mg mb s.heap L rr (Ml D ((b64 os).map .int))) (tr_val (up2 (rm _)) (lv _ _ _ (by kernel_rfl) (by rfl) (by kernel_rfl)) fun v s Q E e q=>by rw[e];exact wpAny_truthy_bool q) bh fh fun s' k'=>?_)
   rw[if_neg (by decide)]
   obtain ⟨h7a,tk7,rfl,e7a⟩:=k'
   have e7a:Ext h h7a:=e7a
   have f7a:=up2 (rm _) _ _ _ _ e7a (Hid.refl _ _) fh
   refine wpAny_execs_nil ?_
   try dsimp only
   show NR prog w _ (execs (_::_) env) _ _
   have f8a:Fr2 K mg mb s.heap L rr (Fl D ((b64 os).map .int)) [L] h7a:=by
    have:=up2 (rm _) _ _ _ _ (Ext.refl _) (fun x m=>.inl (.tail _ m)) f7a
    exact ⟨this.1,this.2,fun m=>hDL (m_s m)⟩
   refine xc (ret (I:=Fr2 K mg mb s.heap L rr (Fl D ((b64 os).map .int))) (X:=[L]) (R:=fun zz zz v=>IsB (b64 os) v) ?_ (fun x m=>bh.ext e7a x (.tail _ m)) f8a fun v s'' k'' r=>?_)
   ·exact ev_callR (up2 (rest_fl hDL)) (ev_builtin gk2 fr.ge (by rw[fr.k];kernel_rfl) N.m2 N.b2) keeper_type (ev_cons (up2 (rest_fl hDL)) (ev_fl (up2 (rest_fl hDL)) (lv _ _ _ (by kernel_rfl) (by rfl) (by kernel_rfl)) fun X h i=>i.2) ev_nil) fun s X vs E zz zz x=>call_bytes fr.ok.handled (b64_oct os) hbl x E
   ·obtain ⟨h8a,tk8,rfl,e8a⟩:=k''
    have e8a:Ext h7a h8a:=e8a
    exact hQ _ _ ⟨⟨h8a,tk8,rfl,Ext.trans f7a.1.2.1 e8a⟩,r⟩
  have app:∀ (h:Heap) (tk:Nat) (e:Expr) (n:Int) (outs:List Int) (rest:List Stmt) (Q:FSP) (px apos pos p:Pos),Fr2 K mg mb s.heap L rr (Ml D (outs.map .int)) [D,L] h→Bd [D,L] h→outs.length≤1000→Ev prog w (A.deeper env) env (Fr2 K mg mb s.heap L rr (Ml D (outs.map .int))) e (.int n) →
    (hs:swapsWith (.Call (.Attribute (.Name "out" px) "append" apos) [e] [] pos) none p.line env=pure false)→(hline:(apos.endLine == pos.line)=true)→(hfew:((backTo pos (starEach [e] env)).all (fun x=>!x.1) && (backToKw pos (keywordEach [] env)).all (fun x=>x.1.isSome)
   && decide (([e]:List Expr).length+([]:List Keyword).length+(if ([]:List Keyword).isEmpty then 0 else 1)<30))=true)→(htrees:backTo pos (starEach [e] env)=[(false,eval e env)]) →
    (∀ h' tk',Fr2 K mg mb s.heap L rr (Ml D ((outs++[n]).map .int)) [D,L] h'→Bd [D,L] h'→NR prog w (A.deeper env) (execs rest env) Q { s with heap:=h',toks:=tk' }) →
    NR prog w (A.deeper env) (execs (.Expr (.Call (.Attribute (.Name "out" px) "append" apos) [e] [] pos) p::rest) env) Q { s with heap:=h,toks:=tk }:=fun h tk e n outs rest Q px apos pos p fh bh hlo hev hs hline hfew htrees k =>
   xc (append2 (hs:=hs) (hline:=hline) (hfew:=hfew) (htrees:=htrees) (hi:=fr.ge.inter) (D:=D) (ds:=outs.map .int) (up2 (rm _)) fh bh (lv _ _ _ (by kernel_rfl) (by rfl) (by kernel_rfl)) hev (.head _) fh.2 (by simp;lia) fun h11 tk11 o11 b11 m11=>by
    rintro ⟨h12,e12a,n12,f12,o12⟩
    have:=fr2_append G f12 n12 o12 hDs (.head _) hDL m11
    exact k _ _ (by rw[List.map_append];exact this) b11)
  have lbe:∀ (ds:List PyData) (p:Pos) (q:Pos) (k:Nat) (r:Pos) (m:Int),Tr prog w (A.deeper env) env (Fr2 K mg mb s.heap L rr (Ml D ds)) (.Compare (.Name "leftbits" p) [.Eq] [.Constant (.int m) k q] r) (st.2.1 == m):=fun ds p q k r m=>tr_cmp (up2 (rm _)) (ld _ _ _ (by kernel_rfl) (by rfl) (by kernel_rfl)) ev_int fun s X u v zz=>op_eqi
  have sge:∀ (ds:List PyData) (m sh:Int) (j:Int) (e:Expr) (px pos:Pos),(Ev prog w (A.deeper env) env (Fr2 K mg mb s.heap L rr (Ml D ds)) e (.int j))→0≤j∧j<64→(∀ a t b,subscripted e false (.bytes a b) (.int j t)=operate [.bytes a b,.int j t] (getItem (.bytes a b) (.int j t)))→Ev prog w (A.deeper env) env (Fr2 K mg mb s.heap L rr (Ml D ds)) (.Subscript (.Name "_B64" px) e pos) (.int (sign j)):=fun ds m sh j e px pos he hj hsub =>
   ev_subR (R:=IsB b64codes) (b:=.int j) (up2 (rm _)) ((gl _ _ _ (by kernel_rfl) mC (by decide +kernel)).mono fun X h v e=>⟨t64,e⟩) he fun s X u v E a b=>sub_bytes codes_oct (by rw[codes_len];decide) hj.1 (sign_get hj) a b hsub
  try dsimp only
  show NR prog w _ (execs (_::_) env) _ _
  refine xc (ifs (b:=st.2.1 == 2) (I:=Fr2 K mg mb s.heap L rr (Ml D (st.2.2.map .int))) (lbe _ _ _ _ _ _) hb f fun s' k'=>?_)
  obtain ⟨h7a,tk7,rfl,e7a⟩:=k'
  have e7a:Ext h' h7a:=e7a
  have f7a:=up2 (rm _) _ _ _ _ e7a (Hid.refl _ _) f
  have b7:=hb.ext e7a
  by_cases h2:st.2.1=2
  ·rw[if_pos (by simpa using h2)]
   try dsimp only
   show NR prog w _ (execs (_::_) env) _ _
   refine wpAny_noRaise (app h7a _ _ (sign ((st.1 % 4) * 2 ^ 4)) st.2.2 _ _ _ _ _ _ f7a b7 (by lia) (sge _ 0 0 _ _ _ _ (Ev.eq ?_ (ev_bin (up2 (rm _)) (ev_bin (up2 (rm _)) (ld _ _ _ (by kernel_rfl) (by rfl) (by kernel_rfl)) ev_int fun s X u v zz=>op_band) ev_int fun s X u v zz=>op_shl (a:=Builtin.bitAnd st.1 3) (b:=4) (by decide) (by decide) (by rw[bitAnd_m2];lia))) (by have:=Int.emod_nonneg st.1 (show (4:Int)≠0 by decide);have:=Int.emod_lt_of_pos st.1 (show (0:Int)<4 by decide);lia) (by intro _ _ _;rfl)) rfl rfl rfl rfl fun h8a tk8 f8a b8=>?_)
   ·rw[bitAnd_m2];rfl
   refine app h8a _ _ 61 _ _ _ _ _ _ _ f8a b8 (by simp;lia) ev_int rfl rfl rfl rfl fun h9 tk9 f9a b9=>?_
   refine app h9 _ _ 61 _ _ _ _ _ _ _ f9a b9 (by simp;lia) ev_int rfl rfl rfl rfl fun h10 tk10 f10a b10=>?_
   exact wpAny_execs_nil (tl h10 _ _ (by rw[hb64,b64fin,if_pos h2];simp) b10 f10a (by simp;lia))
  ·rw[if_neg (by simpa using h2)]
   try dsimp only
   show NR prog w _ (execs (_::_) env) _ _
   refine xc (ifs (b:=st.2.1 == 4) (I:=Fr2 K mg mb s.heap L rr (Ml D (st.2.2.map .int))) (lbe _ _ _ _ _ _) b7 f7a fun s' k'=>?_)
   obtain ⟨h8a,tk8,rfl,e8a⟩:=k'
   have e8a:Ext h7a h8a:=e8a
   have f8a:=up2 (rm _) _ _ _ _ e8a (Hid.refl _ _) f7a
   have b8:=b7.ext e8a
   by_cases h4:st.2.1=4
   ·rw[if_pos (by simpa using h4)]
    try dsimp only
    show NR prog w _ (execs (_::_) env) _ _
    refine app h8a _ _ (sign ((st.1 % 16) * 2 ^ 2)) st.2.2 _ _ _ _ _ _ f8a b8 (by lia) (sge _ 0 0 _ _ _ _ (Ev.eq ?_ (ev_bin (up2 (rm _)) (ev_bin (up2 (rm _)) (ld _ _ _ (by kernel_rfl) (by rfl) (by kernel_rfl)) ev_int fun s X u v zz=>op_band) ev_int fun s X u v zz=>op_shl (a:=Builtin.bitAnd st.1 15) (b:=2) (by decide) (by decide) (by rw[bitAnd_m4];lia))) (by have:=Int.emod_nonneg st.1 (show (16:Int)≠0 by decide);have:=Int.emod_lt_of_pos st.1 (show (0:Int)<16 by decide);lia) (by intro _ _ _;rfl)) rfl rfl rfl rfl fun h9 tk9 f9a b9=>?_
    ·rw[bitAnd_m4];rfl
    refine app h9 _ _ 61 _ _ _ _ _ _ _ f9a b9 (by simp;lia) ev_int rfl rfl rfl rfl fun h10 tk10 f10a b10=>?_
    exact wpAny_execs_nil (wpAny_execs_nil (tl h10 _ _ (by rw[hb64,b64fin,if_neg h2,if_pos h4];simp) b10 f10a (by simp;lia)))
   ·rw[if_neg (by simpa using h4)]
    exact wpAny_execs_nil (wpAny_execs_nil (tl h8a _ _ (by rw[hb64,b64fin,if_neg h2,if_neg h4]) b8 f8a (by lia)))
end
section
theorem ev_callKw1 {f:Str} {np pos:Pos} {e ke:Expr} {kw:Keyword} {nm:Str} {P P' R:Value→Prop} (up:Up I)
  (hf:EvR prog w A env I (.Name f np) (fun zz zz v=>v=fv)) (hk:Keeper1 (model prog w) I fv) (ha:EvR prog w A env I e (fun zz zz v=>P v)) (hke:EvR prog w A env I ke (fun zz zz v=>P' v))
  (hc:∀ s X v u E,Bd X s.heap→I X s.heap→P v→P' u→wpAny (model prog w) A (call fv [v] [(nm,u)]) (fun v s'=>Keeps s s'∧R v) E s)
  (hkw:backToKw pos (keywordEach [kw] env)=[(some nm,do let v ← eval ke env;standAt pos;pure v)]:=by rfl)
  (he:starEach [e] env=(false,eval e env)::starEach [] env:=by rfl) :
  EvR prog w A env I (.Call (.Name f np) [e] [kw] pos) (fun zz zz v=>R v):=fun s E X hX hs=>by
 refine wpAny_Call_ofName (hf.wp hX hs fun v s1a k1a hv=>?_)
 subst hv
 have h1a:=up.ext (kp_ext k1a) hs
 have b1a:=hX.ext (kp_ext k1a)
 refine callWith_of (P:=I X) (by rw[he,hkw];rfl) (hk X) ?_
 refine evalArgs_kw2 (he:=he) (by rw[hkw];rfl) ?_
 rw[hkw]
 refine wpAny_items_cons (he:=he) (ha.wp b1a h1a fun u s2a k2a q=>wpAny_items_nil ?_)
 refine wpAny_evalAll_cons (wpAny_bind (hke.wp (b1a.ext (kp_ext k2a)) (up.ext (kp_ext k2a) h1a) fun y s3a k3a p=>wpAny_bind (wpAny_standAt (wpAny_pure (wpAny_evalAll_nil ?_)))))
 have h3a:=up.ext (kp_ext k3a) (up.ext (kp_ext k2a) h1a)
 exact ⟨h3a,wpAny_mono (hc s3a X u y E ((b1a.ext (kp_ext k2a)).ext (kp_ext k3a)) h3a q p) (fun r s4a z=>⟨kp_trans k1a (kp_trans k2a (kp_trans k3a z.1)),z.2⟩) fun zz zz x=>x⟩
set_option maxHeartbeats 1000000 in
theorem b64encode {n:Nat} {os:List Int} {bv:Value} {T:Addr} (F:FnK K f "b64encode" (topS 9) (.ref T) .none) (hT:∃ oc od osl m,K.lookup T=some ⟨oc,od,.seq #[.none] m,osl⟩) (hA:OKA A (n+3)) (G:GK K mg mb s.heap) (N:B64Names K mg mb)
  (hb2:∃ a kV,FnK K a "b2a_base64" (topS 7) .none kV∧mg "b2a_base64"=some (.ref a)) (ho:Oct os) (hl:os.length≤100) (hb:IsB os bv)
  (E:VSP):wpAny (model prog w) A (call (.ref f) [bv]) (fun v s'=>Keeps s s'∧IsB (b64 os) v) E s:=by
 obtain ⟨ab,kV,Fb,mB⟩:=hb2
 obtain ⟨oc,od,osl,m,hT⟩:=hT
 refine fn_go (X:=[]) [("s",bv),("altchars",.none)] [("altchars",.val .none),("s",.val bv)] F hA G (fun zz m=>by cases m) (fun doc pm an cdv ct=>BindsTo.of_defaults rfl (G.k _ _ hT) rfl (by with_unfolding_all exact Eq.refl (bindArgs _ _)) (by with_unfolding_all exact Eq.refl (pure [("s",bv),("altchars",.none)]:Sem (List (Str×Value))))) (by decide +kernel) (locs (by kernel_rfl)) (by kernel_rfl) (by kernel_rfl) (by kernel_rfl)
  (fun X' h' hd e=>⟨rfl,rfl,rfl,rfl,trivial⟩) fun L env h1a tk fr hX1 hid f0=>?_
 have lv:∀ (R:XHP) (y:Str) (ρ:List (Str×VD)) {p:Pos} {u:Value},(fScope (topS 9)).names.lookup y=some .local→ρ.lookup y=some (.val u)→(y == ("__debug__":Str))=false→EvR prog w (A.deeper env) env (Fr2 K mg mb s.heap L ρ R) (.Name y p) (fun zz zz v=>v=u):=fun R y ρ p d a b c=>ev_locv fr.le (by rw[fr.k];exact a) loc2 b c
 show NR prog w _ (execs (_::_) env) _ _
 refine xc (asgx2 (R:=fun zz zz=>True) (P:=IsB (b64 os)) rest_true ⟨f0,trivial⟩ ?_ hX1 fr.le (by rw[fr.k];kernel_rfl) G fr.new (.head _) fun h2a tk2 u hu o2a b2b f2a=>?_)
 ·exact ev_callKw1 (nm:="newline") (P:=IsB os) (P':=fun v=>v=.bool false) (up2 rest_true) (ev_global gk2 fr.ge (by rw[fr.k];kernel_rfl) mB (by decide +kernel)) (Fb.keep gk2) ((lv _ _ _ (by kernel_rfl) (by rfl) (by kernel_rfl)).mono fun X h v e=>e▸hb) (ev_bool.mono fun X h v a=>At.bool_inv a) fun s X v u E zz i hv hu=>by
   rw[hu];exact b2a Fb (n:=n) fr.ok i.1.1 N ho hl hv E
 show NR prog w _ (execs (_::_) env) _ _
 refine xc (ifs (b:=false) (I:=Fr2 K mg mb s.heap L [("encoded",.val u),("altchars",.val .none),("s",.val bv)] fun zz zz=>True) (tr_isnt (R:=fun v=>v=.none) (R':=fun v=>v=.none) (up2 rest_true) (lv _ _ _ (by kernel_rfl) (by rfl) (by kernel_rfl)) (ev_none.mono fun X h v a=>At.none_inv a) (fun u v hu hv=>by rw[hu,hv];exact ⟨rfl,rfl⟩)) b2b f2a fun s' k'=>?_)
 rw[if_neg (by decide)]
 refine wpAny_execs_nil ?_
 have f3:=up2 rest_true _ _ _ _ (kp_ext k') (Hid.refl _ _) f2a
 show NR prog w _ (execs (_::_) env) _ _
 refine xc (ret (I:=Fr2 K mg mb s.heap L [("encoded",.val u),("altchars",.val .none),("s",.val bv)] fun zz zz=>True) (R:=fun zz zz v=>v=u) (lv _ _ _ (by kernel_rfl) (by rfl) (by kernel_rfl)) (b2b.ext (kp_ext k')) f3 fun v s'' k'' r=>?_)
 obtain ⟨h3a,tk3,rfl,e3a⟩:=kp_trans k' k''
 exact ⟨⟨h3a,tk3,rfl,Ext.trans f2a.1.2.1 e3a⟩,r▸hu⟩
end
section
variable {x:Addr} {adr:List Str→Nat→Addr} {σ:Sg}
theorem Tr.eq {e:Expr} {b b':Bool} (h:b=b') (x:Tr prog w A env I e b):Tr prog w A env I e b':=h▸x
theorem tr_cmpR {l r:Expr} {op:CmpOp} {pos:Pos} {P P':Value→Prop} {c:Bool} (up:Up I) (x:EvR prog w A env I l (fun zz zz v=>P v)) (y:EvR prog w A env I r (fun zz zz v=>P' v))
  (o:∀ s X u v E,I X s.heap→P u→P' v→wpAny (model prog w) A (compareOp op u v) (fun z s'=>Keeps s s'∧z=.bool c) E s) (hm:behindInMarks op r=false:=by with_unfolding_all rfl):Tr prog w A env I (.Compare l [op] [r] pos) c:=fun s E X hX hI =>
 wpAny_isTrue_Compare1 (hm:=hm) (x.wp hX hI fun u s1a k1a a1a=>y.wp (hX.ext (kp_ext k1a)) (up.ext (kp_ext k1a) hI) fun v s2a k2a b2b=>wpAny_mono (o s2a X u v E (up.ext (kp_ext k2a) (up.ext (kp_ext k1a) hI)) a1a b2b) (fun z s3a q=>by
  rw[q.2];exact wpAny_truthy_bool ⟨kp_trans k1a (kp_trans k2a q.1),rfl⟩) fun zz zz h=>h)
theorem ev_cmpR {l r:Expr} {op:CmpOp} {pos:Pos} {P P':Value→Prop} {c:Bool} (up:Up I) (x:EvR prog w A env I l (fun zz zz v=>P v)) (y:EvR prog w A env I r (fun zz zz v=>P' v))
  (o:∀ s X u v E,I X s.heap→P u→P' v→wpAny (model prog w) A (compareOp op u v) (fun z s'=>Keeps s s'∧z=.bool c) E s) (hm:behindInMarks op r=false:=by with_unfolding_all rfl):Ev prog w A env I (.Compare l [op] [r] pos) (.bool c):=fun s E X hX hI =>
 wpAny_Compare1 (hm:=hm) (x.wp hX hI fun u s1a k1a a1a=>y.wp (hX.ext (kp_ext k1a)) (up.ext (kp_ext k1a) hI) fun v s2a k2a b2b=>wpAny_mono (o s2a X u v E (up.ext (kp_ext k2a) (up.ext (kp_ext k1a) hI)) a1a b2b) (fun z s3a q=>⟨kp_trans k1a (kp_trans k2a q.1),by rw[q.2];exact .bool _⟩) fun zz zz h=>h)
theorem ev_last {value slice:Expr} {pos:Pos} (up:Up I) (x:Ev prog w A env I value (.tuple (ds++[d]))) (y:Ev prog w A env I slice (.int (-1))) (hl:ds.length≤1000)
  (hs:∀ a t,subscripted slice false (.ref a) (.int (-1) t)=operate [.ref a,.int (-1) t] (getItem (.ref a) (.int (-1) t)):=by intro _ _;with_unfolding_all rfl):Ev prog w A env I (.Subscript value slice pos) d :=
 ev_sub up x y fun s X u v E zz a b=>sub_tuple (j:=ds.length) (by decide) (by decide) (by
  unfold seqIndex?
  rw[List.length_append]
  simp only[show ((-1:Int)<0) from by decide,if_true,List.length_singleton]
  rw[if_pos (by simp only[Bool.and_eq_true,decide_eq_true_eq];lia)]
  congr 1
  lia) (by simp) a b hs
noncomputable def IsS (k:Str) (v:Value):Prop:=∃ t,v=.str k t
noncomputable def IsI (k:Int) (v:Value):Prop:=∃ t,v=.int k t
theorem EvR.str {e:Expr} {k:Str} (x:Ev prog w A env I e (.str k)):EvR prog w A env I e (fun zz zz v=>IsS k v):=x.mono fun zz zz zz a=>a.str_inv
theorem EvR.int {e:Expr} {k:Int} (x:Ev prog w A env I e (.int k)):EvR prog w A env I e (fun zz zz v=>IsI k v):=x.mono fun zz zz zz a=>a.int_inv
theorem ev_sget {value slice:Expr} {pos:Pos} {d:Addr} {k:Str} (up:Up I) (x:EvR prog w A env I value (fun zz zz v=>v=.ref d)) (y:Ev prog w A env I slice (.str k))
  (hI':∀ X h,I X h→∃ kvs,h.DictOf (strKind prog w) d kvs∧valueAt kvs k=some u)
  (hs:∀ a t,subscripted slice false (.ref a) (.str k t)=operate [.ref a,.str k t] (getItem (.ref a) (.str k t)):=by intro _ _;with_unfolding_all rfl):EvR prog w A env I (.Subscript value slice pos) (fun zz zz v=>v=u) :=
 ev_dget (knd:=strKind prog w) (k:=k) (P:=IsS k) up x (y.mono fun X h v a=>by obtain ⟨t,rfl⟩:=a.str_inv;exact ⟨strKind_is prog w k t,(fun a e=>nomatch e),t,rfl⟩) hI' fun a v=>by
  rintro ⟨t,e⟩
  rw[e];exact hs a t
theorem in_sdict {d:Addr} {k:Str} {kvs:List (Str×Value)} (hd:s.heap.DictOf (strKind prog w) d kvs) (hn:d≠sysModules) (hu:IsS k u) (hv:v=.ref d) :
  wpAny (model prog w) A (compareOp .In u v) (fun z s'=>Keeps s s'∧z=.bool (valueAt kvs k).isSome) E s:=by
 obtain ⟨t,rfl⟩:=hu;subst hv
 exact wpAny_in_of (strKind_is prog w k t) (beq_eq_false_iff_ne.mpr hn) hd.mapOf ⟨kp_tok _ _,rfl⟩
theorem notin_sdict {d:Addr} {k:Str} {kvs:List (Str×Value)} (hd:s.heap.DictOf (strKind prog w) d kvs) (hn:d≠sysModules) (hu:IsS k u) (hv:v=.ref d) :
  wpAny (model prog w) A (compareOp .NotIn u v) (fun z s'=>Keeps s s'∧z=.bool (!(valueAt kvs k).isSome)) E s:=by
 obtain ⟨t,rfl⟩:=hu;subst hv
 exact wpAny_notIn_of (strKind_is prog w k t) (beq_eq_false_iff_ne.mpr hn) hd.mapOf ⟨kp_tok _ _,rfl⟩
theorem in_iset {d:Addr} {k:Int} {S:Int→Bool} {n:Nat} (hd:s.heap.SetOf (intKind prog w) d S n) (hu:IsI k u) (hv:v=.ref d) :
  wpAny (model prog w) A (compareOp .In u v) (fun z s'=>Keeps s s'∧z=.bool (S k)) E s:=by
 obtain ⟨t,rfl⟩:=hu;subst hv
 exact wpAny_inSet_of (intKind_is prog w k t) rfl hd ⟨kp_tok _ _,rfl⟩
theorem ev_field {y:Expr} {attr:Str} {pos:Pos} (up:Up I) (hn:EvR prog w A env I y (fun zz zz v=>v=.ref x)) (hga:findIn K (.ref C) "__getattribute__"=some (some (.builtin "object.__getattribute__"))) (hu:handedIn u=true)
  (hI:∀ X h,I X h→K.In h∧∃ ox od,InstAt h x ox C od∧findObj K C od attr=some (.value u))
  (hbase:attributeBase y attr env (eval y env)=eval y env:=by rfl) (ht:∀ o r,letTemporaryGo y o r=pure ():=by intro _ _;rfl):EvR prog w A env I (.Attribute y attr pos) (fun zz zz v=>v=u):=fun s E X hX i=>by
 rw[arm_eval_Attribute,hbase]
 refine wpAny_bind (hn.wp hX i fun v s1a k1a e=>?_)
 subst e
 obtain ⟨kin,ox,od,I',ho⟩:=hI _ _ (up.ext (kp_ext k1a) i)
 refine wpAny_bind (wpAny_standAt (wpAny_bind (wpAny_holding (get_value kin I' hga ho hu (wpAny_bind (wpAny_of_eq (ht _ _) (wpAny_pure ⟨kp_trans k1a (kp_tok _ _),rfl⟩)))))))
noncomputable def isF (σ:Sg):List Str→List Str→Str→Int→Bool
 | p,[],st,f=>match σ (p++[st]) with|none=>false|some nd=>nd.fl f || nd.rf f
 | p,k::ks,st,f=>match σ (p++[k]) with|none=>false|some nd=>if nd.rf f then true else isF σ (p++[k]) ks st f
theorem isF_n {σ:Sg} {p:List Str} {st:Str} {f:Int}:isF σ p [] st f=match σ (p++[st]) with|none=>false|some nd=>nd.fl f || nd.rf f:=rfl
theorem isF_c {σ:Sg} {p:List Str} {k st:Str} {f:Int}:isF σ p (k::ks) st f=match σ (p++[k]) with|none=>false|some nd=>if nd.rf f then true else isF σ (p++[k]) ks st f:=rfl
end
section
variable {x:Addr} {adr:List Str→Nat→Addr} {σ:Sg}
theorem own_live {p:List Str} {i:Nat} (l:Live σ p i):Own x dx adr σ (adr p i):=.inr (.inr ⟨p,i,l,rfl⟩)
theorem no_sys (FK:FlagsK K w C) (G:GK K mg mb hb) (r:Rep prog w hb h adr σ N) {p:List Str} {i:Nat} (l:Live σ p i):adr p i≠sysModules:=fun e=>by
 obtain ⟨o,ho⟩:=FK.sys
 have:=r.new p i l
 rw[e,G.k _ _ ho] at this;cases this
end
section
variable {x:Addr} {adr:List Str→Nat→Addr} {σ:Sg}
noncomputable def rI (x:Addr) (kd:List Str) (f:Int) (c:Addr):List (Str×VD):=[("cont",.val (.ref c)),("flag",.dat (.int f)),("key",.dat (.tuple (kd.map .str))),("self",.val (.ref x))]
set_option maxHeartbeats 2000000 in
theorem flags_is {n:Nat} {kv:Value} {st:Str} {f:Int} (F:FnK K fa "Flags.is_" (inS (topS 2) 7) .none .none) (FK:FlagsK K w C) (hA:OKA A (n+1)) (Gb:GK K mg mb hb) (G:GK K mg mb s.heap)
  (fo:FObj prog w C hb x dx adr σ N s.heap) (hX:Bd X s.heap) (hl:ks.length≤100) (ak:At X s.heap kv (.tuple ((ks++[st]).map .str))) (af:At X s.heap fv (.int f)) (E:VSP) :
  wpAny (model prog w) A (call (.ref fa) [.ref x,kv,fv]) (fun v s'=>Keeps s s'∧v=.bool (isF σ [] ks st f)) E s:=by
 refine fn_go [("self",.ref x),("key",kv),("flag",fv)] [("flag",.dat (.int f)),("key",.dat (.tuple ((ks++[st]).map .str))),("self",.val (.ref x))] F hA G hX (fun doc pm an cdv ct=>.of_eq (by kernel_rfl)) (by decide +kernel) (locs (by kernel_rfl)) (by kernel_rfl) (by kernel_rfl) (by kernel_rfl)
  (fun X' h' hd e=>⟨rfl,(af.hid hd).ext e,rfl,(ak.hid hd).ext e,rfl,rfl,trivial⟩) fun L env h1a tk fr hX1 hid f0=>?_
 refine hideQ fun Q hQ=>?_
 have hLX:L∈L::X:=.head _
 let I:=fun (ρ:List (Str×VD))=>Fr2 K mg mb s.heap L ρ (fun zz zz=>True)
 have lv:∀ (y:Str) (ρ:List (Str×VD)) {p:Pos} {u:Value},(fScope (inS (topS 2) 7)).names.lookup y=some .local→ρ.lookup y=some (.val u)→(y == ("__debug__":Str))=false→EvR prog w (A.deeper env) env (I ρ) (.Name y p) (fun zz zz v=>v=u):=fun y ρ p d a b c=>ev_locv fr.le (by rw[fr.k];exact a) loc2 b c
 have ld:∀ (y:Str) (ρ:List (Str×VD)) {p:Pos} {d:PyData},(fScope (inS (topS 2) 7)).names.lookup y=some .local→ρ.lookup y=some (.dat d)→(y == ("__debug__":Str))=false→Ev prog w (A.deeper env) env (I ρ) (.Name y p) d:=fun y ρ p d a b c=>ev_loc fr.le (by rw[fr.k];exact a) loc2 b c
 have up:∀ {ρ:List (Str×VD)} {R:XHP},Rest L R→Up (Fr2 K mg mb s.heap L ρ R):=up2
 have rep:∀ {ρ:List (Str×VD)} {X h},I ρ X h→Rep prog w hb h adr σ N:=fun i=>(fo.ext i.1.2.1).1
 have sz:(ks++[st]).length≤101:=by simp;omega
 have stF:∀ {p:List Str} {k:Str} {nd:Nd},σ (p++[k])=some nd→∀ {ρ:List (Str×VD)} {X h},I ρ X h→∃ kvs,h.DictOf (strKind prog w) (adr (p++[k]) 1) kvs∧valueAt kvs ("flags":Str)=some (.ref (adr (p++[k]) 2))∧valueAt kvs ("recursive_flags":Str)=some (.ref (adr (p++[k]) 3))∧valueAt kvs ("nested":Str)=some (.ref (adr (p++[k]) 0)):=fun e ρ X h i =>
  ⟨_,((rep i).node _ _ (snoc_ne _ _) e).1,by kernel_rfl,by kernel_rfl,by kernel_rfl⟩
 try dsimp only
 show NR prog w _ (execs (_::_) env) _ _
 refine xc (ifs (b:=false) (I:=I _) (Tr.eq ?_ (tr_not (tr_tuple (up rest_true) (ld _ _ (by kernel_rfl) (by rfl) (by kernel_rfl)) (by simp;omega)))) hX1 ⟨f0,trivial⟩ fun s' k'=>?_)
 ·simp
 rw[if_neg (by decide)]
 obtain ⟨h2a,tk2,rfl,e2a⟩:=k'
 have e2a:Ext h1a h2a:=e2a
 have f2a:=up rest_true _ _ _ _ e2a (Hid.refl _ _) (show I _ (L::X) h1a from ⟨f0,trivial⟩)
 have b2b:=hX1.ext e2a
 refine wpAny_execs_nil ?_
 try dsimp only
 show NR prog w _ (execs (_::_) env) _ _
 refine xc (asgx2 (R:=fun zz zz=>True) (P:=fun v=>v=.ref (adr [] 0)) rest_true f2a ?_ b2b fr.le (by rw[fr.k];kernel_rfl) G fr.new hLX fun h3a tk3 u hu o3a b3a f3a=>?_)
 ·refine ev_field (K:=K) (C:=C) (up rest_true) (lv _ _ (by kernel_rfl) (by rfl) (by kernel_rfl)) FK.ga rfl fun X h i=>?_
  obtain ⟨t1,t2,p,I'⟩:=(fo.ext i.1.2.1).inst
  exact ⟨i.1.1.k,_,_,I',FK.at_ _ _ _ _⟩
 subst hu
 try dsimp only
 show NR prog w _ (execs (_::_) env) _ _
 have hks:((ks++[st]).map PyData.str).dropLast=ks.map .str:=by rw[List.map_append];simp
 have hret:∀ (h:Heap) (tk:Nat) (ρ:List (Str×VD)) (e:Expr) (pos:Pos) (rest:List Stmt) (X':List Addr) (b:Bool) (Q:FSP),I ρ X' h→Bd X' h→Ev prog w (A.deeper env) env (I ρ) e (.bool b)→(∀ s',Keeps s s'→Q (.ret (.bool b)) s')→NR prog w (A.deeper env) (exec (.Return (some e) pos) env) Q { s with heap:=h,toks:=tk }:=fun h tk ρ e pos rest X' b Q i bd ev k=>ret (I:=I ρ) (X:=X') (R:=fun X h v=>At X h v (.bool b)) ev bd i fun v s' k' r=>by
  obtain ⟨h4a,tk4,rfl,e4a⟩:=k'
  rw[r.bool_inv]
  exact k _ ⟨h4a,tk4,rfl,Ext.trans i.1.2.1 e4a⟩
 refine xc (for_r (T:=AtF PyData.str) (β:=Nat) (ds:=ks) (R:=fun zz zz=>True) (fun i b=>b=i∧i≤ks.length∧Live σ (ks.take i) 0∧isF σ [] ks st f=isF σ (ks.take i) (ks.drop i) st f) (fun b=>rI x (ks++[st]) f (adr (ks.take b) 0)) 0
  rest_true (fun zz zz zz zz zz zz zz=>trivial) f3a ⟨rfl,Nat.zero_le _,.inl ⟨rfl,rfl⟩,rfl⟩ ⟨rfl,rfl,rfl,rfl,trivial⟩ (src_tupleF PyData.str hA.handled (Ev.eq (by rw[hks]) (ev_butlast (up rest_true) (ld _ _ (by kernel_rfl) (by rfl) (by kernel_rfl)) (ev_neg ev_int) (by simp) (by simp;omega)))) b3a G hLX ?_ ?_)
 ·rintro i k v h' tk X' b hd hv hb hL' ⟨rfl,hi,lp,hF⟩ g
  obtain ⟨p,hp⟩:∃ p,p=ks.take b:=⟨_,rfl⟩
  have hdrop:ks.drop b=k::ks.drop (b+1):=List.drop_eq_getElem?_toList_append .. |>.trans (by rw[hd];rfl)
  have htake:ks.take (b+1)=p++[k]:=by rw[List.take_add_one,hd,hp];rfl
  rw[← hp,hdrop] at hF
  rw[← hp] at lp
  refine name2 (D:=.dat (.str k)) rest_true g hv hb fr.le (by rw[fr.k];kernel_rfl) G fr.new hL' fun h4a tk4 o4a b4a g4a=>?_
  refine hideQ fun Q2 hQ2=>?_
  rw[← hp] at g4a
  try dsimp only
  show NR prog w _ (execs (_::_) env) _ _
  have hc:∀ {ρ:List (Str×VD)} {X h},I ρ X h→∃ kvs,h.DictOf (strKind prog w) (adr p 0) kvs∧(valueAt kvs k).isSome=(σ (p++[k])).isSome∧((σ (p++[k])).isSome=true→valueAt kvs k=some (.ref (adr (p++[k]) 1))):=fun i=>by
   obtain ⟨kvs,d,_,v⟩:=(rep i).cont p lp
   refine ⟨kvs,d,?_,fun h=>by rw[v,if_pos h]⟩
   rw[v];split
   ·rename_i q;rw[q];rfl
   ·rename_i q;simp only[Bool.not_eq_true] at q;rw[q];rfl
  refine xc (ifs (b:=!(σ (p++[k])).isSome) (I:=I _) (tr_cmpR (P:=IsS k) (P':=fun v=>v=.ref (adr p 0)) (up rest_true) (EvR.str (ld _ _ (by kernel_rfl) (by rfl) (by kernel_rfl))) (lv _ _ (by kernel_rfl) (by rfl) (by kernel_rfl)) fun s X u v E i hu hv=>?_) b4a g4a fun s' k'=>?_)
  ·obtain ⟨kvs,d,hs,_⟩:=hc i
   rw[← hs]
   exact notin_sdict d (no_sys FK Gb (rep i) lp) hu hv
  obtain ⟨h5,tk5,rfl,e5a⟩:=k'
  have e5a:Ext h4a h5:=e5a
  have g5:=up rest_true _ _ _ _ e5a (Hid.refl _ _) g4a
  have b5a:=b4a.ext e5a
  cases hn:σ (p++[k]) with
  | none =>
   rw[if_pos (by rfl)]
   try dsimp only
   show NR prog w _ (execs (_::_) env) _ _
   refine xc (hret h5 _ _ _ _ [] X' false _ g5 b5a ev_bool fun s' k=>?_)
   refine hQ2 _ _ (hQ _ _ ?_)
   show Keeps s s'∧_
   rw[hF,isF_c,hn];exact ⟨k,rfl⟩
  | some nd =>
   rw[if_neg (by simp)]
   refine wpAny_execs_nil ?_
   have hsm:(σ (p++[k])).isSome=true:=by rw[hn];rfl
   have lk:Live σ (p++[k]) 0:=live_of (snoc_ne _ _) hsm
   try dsimp only
   show NR prog w _ (execs (_::_) env) _ _
   refine xc (asgx2 (R:=fun zz zz=>True) (P:=fun v=>v=.ref (adr (p++[k]) 1)) rest_true g5 (ev_sget (up rest_true) (lv _ _ (by kernel_rfl) (by rfl) (by kernel_rfl)) (ld _ _ (by kernel_rfl) (by rfl) (by kernel_rfl)) fun X h i=>?_) b5a fr.le (by rw[fr.k];kernel_rfl) G fr.new hL' fun h6a tk6 u hu o6 b6 g6=>?_)
   ·obtain ⟨kvs,d,_,hv⟩:=hc i;exact ⟨kvs,d,hv hsm⟩
   subst hu
   try dsimp only
   show NR prog w _ (execs (_::_) env) _ _
   refine xc (ifs (b:=nd.rf f) (I:=I _) (tr_cmpR (P:=IsI f) (P':=fun v=>v=.ref (adr (p++[k]) 3)) (up rest_true) (EvR.int (ld _ _ (by kernel_rfl) (by rfl) (by kernel_rfl))) (ev_sget (k:="recursive_flags") (up rest_true) (lv _ _ (by kernel_rfl) (by rfl) (by kernel_rfl)) ev_str fun X h i=>by
    obtain ⟨kvs,d,_,v,_⟩:=stF hn i
    exact ⟨kvs,d,v⟩) fun s X u v E i hu hv=>in_iset ((rep i).node _ _ (snoc_ne _ _) hn).2.2.1 hu hv) b6 g6 fun s' k'=>?_)
   obtain ⟨h7a,tk7,rfl,e7a⟩:=k'
   have e7a:Ext h6a h7a:=e7a
   have g7:=up rest_true _ _ _ _ e7a (Hid.refl _ _) g6
   have b7:=b6.ext e7a
   cases hr:nd.rf f with
   | true =>
    rw[if_pos rfl]
    try dsimp only
    show NR prog w _ (execs (_::_) env) _ _
    refine xc (hret h7a _ _ _ _ [] X' true _ g7 b7 ev_bool fun s' k=>?_)
    refine hQ2 _ _ (hQ _ _ ?_)
    show Keeps s s'∧_
    rw[hF,isF_c,hn]
    exact ⟨k,by simp[hr]⟩
   | false =>
    rw[if_neg (by decide)]
    refine wpAny_execs_nil ?_
    try dsimp only
    show NR prog w _ (execs (_::_) env) _ _
    refine xc (asgx2 (R:=fun zz zz=>True) (P:=fun v=>v=.ref (adr (p++[k]) 0)) rest_true g7 (ev_sget (k:="nested") (up rest_true) (lv _ _ (by kernel_rfl) (by rfl) (by kernel_rfl)) ev_str fun X h i=>by
     obtain ⟨kvs,d,_,_,v⟩:=stF hn i
     exact ⟨kvs,d,v⟩) b7 fr.le (by rw[fr.k];kernel_rfl) G fr.new hL' fun h8a tk8 u hu o8 b8 g8=>?_)
    subst hu
    refine wpAny_execs_nil (hQ2 _ _ ⟨h8a,_,b+1,rfl,?_,⟨rfl,?_,?_,?_⟩,?_⟩)
    ·exact o4a.trans ((Ext.off e5a).trans (o6.trans ((Ext.off e7a).trans o8)))
    ·exact (List.getElem?_eq_some_iff.mp hd).1
    ·rw[htake];exact lk
    ·rw[hF,isF_c,hn,htake];simp[hr]
    ·rw[htake];exact ⟨g8.1.sub ⟨rfl,rfl,rfl,rfl,trivial⟩,trivial⟩
 ·rintro h' tk b hb ⟨rfl,_,lp,hF⟩ g o
  rw[List.take_length,List.drop_length] at hF
  rw[List.take_length] at lp
  simp only[List.take_length] at g
  try dsimp only
  show NR prog w _ (execs (_::_) env) _ _
  refine xc (asg2 (d:=.str st) rest_true g (ev_last (ds:=ks.map .str) (up rest_true) (Ev.eq (d:=.tuple ((ks++[st]).map .str)) (by rw[List.map_append];rfl) (ld _ _ (by kernel_rfl) (by rfl) (by kernel_rfl))) (ev_neg ev_int) (by simp;omega)) hb fr.le (by rw[fr.k];kernel_rfl) G fr.new hLX fun h4a tk4 o4a b4a g4a=>?_)
  have hc:∀ {ρ:List (Str×VD)} {X h},I ρ X h→∃ kvs,h.DictOf (strKind prog w) (adr ks 0) kvs∧(valueAt kvs st).isSome=(σ (ks++[st])).isSome∧((σ (ks++[st])).isSome=true→valueAt kvs st=some (.ref (adr (ks++[st]) 1))):=fun i=>by
   obtain ⟨kvs,d,_,v⟩:=(rep i).cont ks lp
   refine ⟨kvs,d,?_,fun h=>by rw[v,if_pos h]⟩
   rw[v];split
   ·rename_i q;rw[q];rfl
   ·rename_i q;simp only[Bool.not_eq_true] at q;rw[q];rfl
  try dsimp only
  show NR prog w _ (execs (_::_) env) _ _
  refine xc (ifs (b:=(σ (ks++[st])).isSome) (I:=I _) (tr_cmpR (P:=IsS st) (P':=fun v=>v=.ref (adr ks 0)) (up rest_true) (EvR.str (ld _ _ (by kernel_rfl) (by rfl) (by kernel_rfl))) (lv _ _ (by kernel_rfl) (by rfl) (by kernel_rfl)) fun s X u v E i hu hv=>?_) b4a g4a fun s' k'=>?_)
  ·obtain ⟨kvs,d,hs,_⟩:=hc i
   rw[← hs]
   exact in_sdict d (no_sys FK Gb (rep i) lp) hu hv
  obtain ⟨h5,tk5,rfl,e5a⟩:=k'
  have e5a:Ext h4a h5:=e5a
  have g5:=up rest_true _ _ _ _ e5a (Hid.refl _ _) g4a
  have b5a:=b4a.ext e5a
  cases hn:σ (ks++[st]) with
  | none =>
   rw[if_neg (by simp)]
   refine wpAny_execs_nil ?_
   try dsimp only
   show NR prog w _ (execs (_::_) env) _ _
   refine xc (hret h5 _ _ _ _ [] _ false _ g5 b5a ev_bool fun s' k=>?_)
   refine hQ _ _ ?_
   show Keeps s s'∧_
   rw[hF,isF_n,hn];exact ⟨k,rfl⟩
  | some nd =>
   rw[if_pos (by rfl)]
   have hsm:(σ (ks++[st])).isSome=true:=by rw[hn];rfl
   try dsimp only
   show NR prog w _ (execs (_::_) env) _ _
   refine xc (asgx2 (R:=fun zz zz=>True) (P:=fun v=>v=.ref (adr (ks++[st]) 1)) rest_true g5 (ev_sget (up rest_true) (lv _ _ (by kernel_rfl) (by rfl) (by kernel_rfl)) (ld _ _ (by kernel_rfl) (by rfl) (by kernel_rfl)) fun X h i=>?_) b5a fr.le (by rw[fr.k];kernel_rfl) G fr.new hLX fun h6a tk6 u hu o6 b6 g6=>?_)
   ·obtain ⟨kvs,d,_,hv⟩:=hc i;exact ⟨kvs,d,hv hsm⟩
   subst hu
   try dsimp only
   show NR prog w _ (execs (_::_) env) _ _
   refine xc (hret h6a _ _ _ _ [] _ (nd.fl f || nd.rf f) _ g6 b6 (ev_or (up rest_true) (ev_cmpR (P:=IsI f) (P':=fun v=>v=.ref (adr (ks++[st]) 2)) (up rest_true) (EvR.int (ld _ _ (by kernel_rfl) (by rfl) (by kernel_rfl))) (ev_sget (k:="flags") (up rest_true) (lv _ _ (by kernel_rfl) (by rfl) (by kernel_rfl)) ev_str fun X h i=>by
    obtain ⟨kvs,d,v,_⟩:=stF hn i
    exact ⟨kvs,d,v⟩) fun s X u v E i hu hv=>in_iset ((rep i).node _ _ (snoc_ne _ _) hn).2.1 hu hv)
    fun zz=>ev_cmpR (P:=IsI f) (P':=fun v=>v=.ref (adr (ks++[st]) 3)) (up rest_true) (EvR.int (ld _ _ (by kernel_rfl) (by rfl) (by kernel_rfl))) (ev_sget (k:="recursive_flags") (up rest_true) (lv _ _ (by kernel_rfl) (by rfl) (by kernel_rfl)) ev_str fun X h i=>by
     obtain ⟨kvs,d,_,v,_⟩:=stF hn i
     exact ⟨kvs,d,v⟩) fun s X u v E i hu hv=>in_iset ((rep i).node _ _ (snoc_ne _ _) hn).2.2.1 hu hv) fun s' k=>?_)
   refine hQ _ _ ?_
   show Keeps s s'∧_
   rw[hF,isF_n,hn];exact ⟨k,rfl⟩
end
section
variable {x:Addr} {adr:List Str→Nat→Addr} {σ:Sg}
theorem rep_none (r:Rep prog w hb h adr σ N):∀ (t p:List Str),p≠[]→σ p=none→σ (p++t)=none
 | [],p,hp,hn=>by simpa using hn
 | k::t,p,hp,hn=>by
  rw[show p++k::t=(p++[k])++t by simp]
  refine rep_none r t _ (snoc_ne p k) ?_
  cases q:σ (p++[k]) with
  | none=>rfl
  | some nd =>
   rcases r.closed p k (by rw[q];rfl) with ⟨a,_⟩|⟨_,a,_⟩
   ·exact absurd a hp
   ·rw[hn] at a;cases a
theorem cut_none (r:Rep prog w hb h adr σ N) {p:List Str} (hp:p≠[]) (hn:σ p=none) (hq:p <+: q):cutN σ q=σ:=by
 funext t
 unfold cutN
 split
 ·rename_i e
  obtain ⟨u,rfl⟩:=hq.trans e
  exact (rep_none r u p hp hn).symm
 ·rfl
theorem pop_wp {py apos pos:Pos} {e e':Expr} {p:List Str} {k:Str} {Q:VSP} (up:Up I) (hX:Bd X s.heap) (hI:I X s.heap)
  (hn:EvR prog w A env I (.Name y py) (fun zz zz v=>v=.ref (adr p 0))) (he:Ev prog w A env I e (.str k)) (he':Ev prog w A env I e' .none) (rep:∀ X h,I X h→Rep prog w hb h adr σ N) (lp:Live σ p 0) (hN:N≤1000) (hsys:adr p 0≠sysModules)
  (q:∀ s' h1a h' tk v,Keeps s s'→h1a=s'.heap→Off [adr p 0] h1a h'→Rep prog w hb h' adr (cutN σ (p++[k])) N→Q v { s' with heap:=h',toks:=tk })
  (hline:(apos.endLine == pos.line)=true:=by rfl) (htrees:backTo pos (starEach [e,e'] env)=[(false,eval e env),(false,eval e' env)]:=by rfl) (hbase:attributeBase (.Name y py) "pop" env (eval (.Name y py) env)=eval (.Name y py) env:=by rfl) :
  wpAny (model prog w) A (eval (.Call (.Attribute (.Name y py) "pop" apos) [e,e'] [] pos) env) Q E s:=by
 refine wpAny_Call_method2_late hbase hline htrees (hn.wp hX hI fun v s1a k1a ev=>?_)
 subst ev
 have i1a:=up.ext (kp_ext k1a) hI
 obtain ⟨kvs1,d1a,_⟩:=(rep _ _ i1a).cont p lp
 refine ⟨"dict","dict.pop",PySem.F.plainAttrs_dict,PySem.F.slot_dict_pop,PySem.F.type_dict_pop,d1a.mapOf.typeIs,fun a ea=>?_,?_⟩
 ·cases ea
  obtain ⟨o,es,ep,eo,hx,_⟩:=d1a
  exact ⟨o,eo,hx.2.1⟩
 refine method2_meetsIn PySem.F.slot_dict_pop PySem.F.entry_dict_pop (he.wp (hX.ext (kp_ext k1a)) i1a fun u s2a k2a a2a=>he'.wp ((hX.ext (kp_ext k1a)).ext (kp_ext k2a)) (up.ext (kp_ext k2a) i1a) fun z s3a k3a a3a=>?_)
 have i3a:=up.ext (kp_ext k3a) (up.ext (kp_ext k2a) i1a)
 have r3a:=rep _ _ i3a
 obtain ⟨kvs,d,hl,hv⟩:=r3a.cont p lp
 obtain ⟨t,rfl⟩:=a2a.str_inv
 have hz:=a3a.none_inv
 subst hz
 have kk:=kp_trans k1a (kp_trans k2a k3a)
 cases hk:valueAt kvs k with
 | some val =>
  refine ⟨d.mapOf.typeIs,PySem.F.args_dict_pop_3 _ _ _,_,meets_dict_pop_there (strKind prog w) (adr p 0) (strKind_is prog w k t) [.none] (.inr ⟨_,rfl⟩) rfl,kvs,val,d,by rw[sizeLine_eq];lia,hk,fun h' d' sb=>?_⟩
  have o:Off [adr p 0] s3a.heap h':=fun b ob n eb=>sb.extBut b ob (fun e=>n (by rw[e];exact List.mem_singleton_self _)) eb
  exact q s3a _ h' _ val kk rfl o (r3a.erase lp hv hl d' o)
 | none =>
  refine ⟨d.mapOf.typeIs,PySem.F.args_dict_pop_3 _ _ _,_,meets_dict_pop_default (strKind prog w) (adr p 0) (strKind_is prog w k t) (beq_eq_false_iff_ne.mpr hsys) rfl .none,kvs,d,hk,?_⟩
  have hn:σ (p++[k])=none:=by
   rw[hv] at hk
   cases q:σ (p++[k]) with
   | none=>rfl
   | some nd=>rw[q,if_pos (by rfl)] at hk;cases hk
  exact q s3a _ s3a.heap _ .none kk rfl (fun zz zz zz e=>e) (by rw[cut_none r3a (snoc_ne _ _) hn (List.prefix_refl _)];exact r3a)
end
section
variable {x:Addr} {adr:List Str→Nat→Addr} {σ:Sg}
theorem FObj.turn {σ':Sg} {N':Nat} {M:List Addr} (f:FObj prog w C hb x dx adr σ N h) (r:Rep prog w hb h' adr σ' N') (lv:∀ p i,Live σ' p i→Live σ p i) (o:Off M h h') (hM:∀ b∈M,∃ p i,Live σ p i∧b=adr p i):FObj prog w C hb x dx adr σ' N' h':=by
 obtain ⟨_,⟨t1,t2,p,a,b⟩,c⟩:=f
 exact ⟨r,⟨t1,t2,p,o _ _ (fun m=>by obtain ⟨q,i,l,e⟩:=hM _ m;exact (c q i l).1 e.symm) a,o _ _ (fun m=>by obtain ⟨q,i,l,e⟩:=hM _ m;exact (c q i l).2 e.symm) b⟩,fun q i l=>c q i (lv q i l)⟩
noncomputable def rU (x:Addr) (kd:List Str) (c:Addr):List (Str×VD):=[("cont",.val (.ref c)),("key",.dat (.tuple (kd.map .str))),("self",.val (.ref x))]
set_option maxHeartbeats 2000000 in
theorem flags_unset {n:Nat} {kv:Value} {st:Str} (F:FnK K fa "Flags.unset_all" (inS (topS 2) 5) .none .none) (FK:FlagsK K w C) (hA:OKA A (n+1)) (Gb:GK K mg mb hb) (G:GK K mg mb s.heap)
  (fo:FObj prog w C hb x dx adr σ N s.heap) (hX:Bd X s.heap) (hl:ks.length≤100) (hN:N≤1000) (ak:At X s.heap kv (.tuple ((ks++[st]).map .str))) (E:VSP) :
  wpAny (model prog w) A (call (.ref fa) [.ref x,kv]) (fun v s'=>v=.none∧∃ h' tk,s'={ s with heap:=h',toks:=tk }∧FObj prog w C hb x dx adr (cutN σ (ks++[st])) N h'∧OffL adr σ s.heap h') E s:=by
 refine fn_go [("self",.ref x),("key",kv)] [("key",.dat (.tuple ((ks++[st]).map .str))),("self",.val (.ref x))] F hA G hX (fun doc pm an cdv ct=>.of_eq (by kernel_rfl)) (by decide +kernel) (locs (by kernel_rfl)) (by kernel_rfl) (by kernel_rfl) (by kernel_rfl)
  (fun X' h' hd e=>⟨rfl,(ak.hid hd).ext e,rfl,rfl,trivial⟩) fun L env h1a tk fr hX1 hid f0=>?_
 refine hideQ fun Q hQ=>?_
 have hLX:L∈L::X:=.head _
 let I:=fun (ρ:List (Str×VD))=>Fr2 K mg mb s.heap L ρ (fun zz zz=>True)
 have lv:∀ (y:Str) (ρ:List (Str×VD)) {p:Pos} {u:Value},(fScope (inS (topS 2) 5)).names.lookup y=some .local→ρ.lookup y=some (.val u)→(y == ("__debug__":Str))=false→EvR prog w (A.deeper env) env (I ρ) (.Name y p) (fun zz zz v=>v=u):=fun y ρ p d a b c=>ev_locv fr.le (by rw[fr.k];exact a) loc2 b c
 have ld:∀ (y:Str) (ρ:List (Str×VD)) {p:Pos} {d:PyData},(fScope (inS (topS 2) 5)).names.lookup y=some .local→ρ.lookup y=some (.dat d)→(y == ("__debug__":Str))=false→Ev prog w (A.deeper env) env (I ρ) (.Name y p) d:=fun y ρ p d a b c=>ev_loc fr.le (by rw[fr.k];exact a) loc2 b c
 have up:∀ {ρ:List (Str×VD)} {R:XHP},Rest L R→Up (Fr2 K mg mb s.heap L ρ R):=up2
 have rep:∀ {ρ:List (Str×VD)} {X h},I ρ X h→Rep prog w hb h adr σ N:=fun i=>(fo.ext i.1.2.1).1
 have stF:∀ {p:List Str} {k:Str} {nd:Nd},σ (p++[k])=some nd→∀ {ρ:List (Str×VD)} {X h},I ρ X h→∃ kvs,h.DictOf (strKind prog w) (adr (p++[k]) 1) kvs∧valueAt kvs ("nested":Str)=some (.ref (adr (p++[k]) 0)):=fun e ρ X h i =>
  ⟨_,((rep i).node _ _ (snoc_ne _ _) e).1,by kernel_rfl⟩
 try dsimp only
 show NR prog w _ (execs (_::_) env) _ _
 refine xc (asgx2 (R:=fun zz zz=>True) (P:=fun v=>v=.ref (adr [] 0)) rest_true ⟨f0,trivial⟩ ?_ hX1 fr.le (by rw[fr.k];kernel_rfl) G fr.new hLX fun h3a tk3 u hu o3a b3a f3a=>?_)
 ·refine ev_field (K:=K) (C:=C) (up rest_true) (lv _ _ (by kernel_rfl) (by rfl) (by kernel_rfl)) FK.ga rfl fun X h i=>?_
  obtain ⟨t1,t2,p,I'⟩:=(fo.ext i.1.2.1).inst
  exact ⟨i.1.1.k,_,_,I',FK.at_ _ _ _ _⟩
 subst hu
 try dsimp only
 show NR prog w _ (execs (_::_) env) _ _
 have hks:((ks++[st]).map PyData.str).dropLast=ks.map .str:=by rw[List.map_append];simp
 refine xc (for_r (T:=AtF PyData.str) (β:=Nat) (ds:=ks) (R:=fun zz zz=>True) (fun i b=>b=i∧Live σ (ks.take i) 0) (fun b=>rU x (ks++[st]) (adr (ks.take b) 0)) 0
  rest_true (fun zz zz zz zz zz zz zz=>trivial) f3a ⟨rfl,.inl ⟨rfl,rfl⟩⟩ ⟨rfl,rfl,rfl,trivial⟩ (src_tupleF PyData.str hA.handled (Ev.eq (by rw[hks]) (ev_butlast (up rest_true) (ld _ _ (by kernel_rfl) (by rfl) (by kernel_rfl)) (ev_neg ev_int) (by simp) (by simp;omega)))) b3a G hLX ?_ ?_)
 ·rintro i k v h' tk X' b hd hv hb' hL' ⟨rfl,lp⟩ g
  obtain ⟨p,hp⟩:∃ p,p=ks.take b:=⟨_,rfl⟩
  have htake:ks.take (b+1)=p++[k]:=by rw[List.take_add_one,hd,hp];rfl
  rw[← hp] at lp
  refine name2 (D:=.dat (.str k)) rest_true g hv hb' fr.le (by rw[fr.k];kernel_rfl) G fr.new hL' fun h4a tk4 o4a b4a g4a=>?_
  refine hideQ fun Q2 hQ2=>?_
  rw[← hp] at g4a
  try dsimp only
  show NR prog w _ (execs (_::_) env) _ _
  have hc:∀ {ρ:List (Str×VD)} {X h},I ρ X h→∃ kvs,h.DictOf (strKind prog w) (adr p 0) kvs∧(valueAt kvs k).isSome=(σ (p++[k])).isSome∧((σ (p++[k])).isSome=true→valueAt kvs k=some (.ref (adr (p++[k]) 1))):=fun i=>by
   obtain ⟨kvs,d,_,v⟩:=(rep i).cont p lp
   refine ⟨kvs,d,?_,fun h=>by rw[v,if_pos h]⟩
   rw[v];split
   ·rename_i q;rw[q];rfl
   ·rename_i q;simp only[Bool.not_eq_true] at q;rw[q];rfl
  refine xc (ifs (b:=!(σ (p++[k])).isSome) (I:=I _) (tr_cmpR (P:=IsS k) (P':=fun v=>v=.ref (adr p 0)) (up rest_true) (EvR.str (ld _ _ (by kernel_rfl) (by rfl) (by kernel_rfl))) (lv _ _ (by kernel_rfl) (by rfl) (by kernel_rfl)) fun s X u v E i hu hv=>?_) b4a g4a fun s' k'=>?_)
  ·obtain ⟨kvs,d,hs,_⟩:=hc i
   rw[← hs]
   exact notin_sdict d (no_sys FK Gb (rep i) lp) hu hv
  obtain ⟨h5,tk5,rfl,e5a⟩:=k'
  have e5a:Ext h4a h5:=e5a
  have g5:=up rest_true _ _ _ _ e5a (Hid.refl _ _) g4a
  have b5a:=b4a.ext e5a
  cases hn:σ (p++[k]) with
  | none =>
   rw[if_pos (by rfl)]
   try dsimp only
   show NR prog w _ (execs (_::_) env) _ _
   refine xc (wpAny_Return_none (hQ2 _ _ (hQ _ _ ⟨rfl,h5,_,rfl,?_,fun b o e zz=>g5.1.2.1 b o e⟩)))
   have hpre:p++[k] <+: ks++[st]:=by
    rw[← htake];exact (List.take_prefix _ _).trans (List.prefix_append _ _)
   rw[cut_none (rep g5) (snoc_ne _ _) hn hpre]
   exact fo.ext g5.1.2.1
  | some nd =>
   rw[if_neg (by simp)]
   refine wpAny_execs_nil ?_
   have hsm:(σ (p++[k])).isSome=true:=by rw[hn];rfl
   try dsimp only
   show NR prog w _ (execs (_::_) env) _ _
   refine xc (asgx2 (R:=fun zz zz=>True) (P:=fun v=>v=.ref (adr (p++[k]) 0)) rest_true g5 (ev_sget (k:="nested") (d:=adr (p++[k]) 1) (up rest_true) (ev_sget (up rest_true) (lv _ _ (by kernel_rfl) (by rfl) (by kernel_rfl)) (ld _ _ (by kernel_rfl) (by rfl) (by kernel_rfl)) fun X h i=>?_) ev_str fun X h i=>stF hn i) b5a fr.le (by rw[fr.k];kernel_rfl) G fr.new hL' fun h8a tk8 u hu o8 b8 g8=>?_)
   ·obtain ⟨kvs,d,_,hv⟩:=hc i;exact ⟨kvs,d,hv hsm⟩
   subst hu
   refine wpAny_execs_nil (hQ2 _ _ ⟨h8a,_,b+1,rfl,o4a.trans ((Ext.off e5a).trans o8),⟨rfl,?_⟩,?_⟩)
   ·rw[htake];exact live_of (snoc_ne _ _) hsm
   ·rw[htake];exact ⟨g8.1.sub ⟨rfl,rfl,rfl,trivial⟩,trivial⟩
 ·rintro h' tk b hb' ⟨rfl,lp⟩ g o
  rw[List.take_length] at lp
  simp only[List.take_length] at g
  try dsimp only
  show NR prog w _ (execs (_::_) env) _ _
  refine xc (wpAny_Expr_any (hi:=fr.ge.inter) (pop_wp (hb:=hb) (σ:=σ) (N:=N) (p:=ks) (k:=st) (up rest_true) hb' g (lv _ _ (by kernel_rfl) (by rfl) (by kernel_rfl)) (ev_last (ds:=ks.map .str) (up rest_true) (Ev.eq (d:=.tuple ((ks++[st]).map .str)) (by rw[List.map_append];rfl) (ld _ _ (by kernel_rfl) (by rfl) (by kernel_rfl))) (ev_neg ev_int) (by simp;omega)) ev_none (fun X h i=>rep i) lp hN (no_sys FK Gb (rep g) lp) fun s' h1a h'' tk v kk eh of r=>?_))
  obtain ⟨h2a,tk2,rfl,e2a⟩:=kk
  have e2a:Ext h' h2a:=e2a
  have eh:h1a=h2a:=eh
  rw[eh] at of
  have e0:=Ext.trans g.1.2.1 e2a
  refine wpAny_execs_nil (hQ _ _ ⟨rfl,h'',_,rfl,(fo.ext e0).turn r (fun p i l=>live_cut l) of fun b m=>⟨ks,0,lp,m_s m⟩,fun b o e n=>of b o (fun m=>n _ _ lp (m_s m).symm) (e0 b o e)⟩)
end
section
theorem call0_wp {f:Str} {np pos:Pos} {Q:VSP} (up:Up I) (hf:EvR prog w A env I (.Name f np) (fun zz zz v=>v=fv)) (hk:Keeper1 (model prog w) I fv) (hX:Bd X s.heap) (hs:I X s.heap)
  (hc:∀ s',Keeps s s'→I X s'.heap→wpAny (model prog w) A (call fv []) Q E s'):wpAny (model prog w) A (eval (.Call (.Name f np) [] [] pos) env) Q E s:=by
 refine wpAny_Call_ofName (hf.wp hX hs fun v s1a k1a hv=>?_)
 subst hv
 have h1a:=up.ext (kp_ext k1a) hs
 exact callWith_of (P:=I X) rfl (hk X) (PySem.evalArgs_none ⟨h1a,hc s1a k1a h1a⟩)
theorem set_new {Q:VSP} (q:∀ h' a,Ext s.heap h'→s.heap.get? a=none→h'.SetOf (intKind prog w) a (fun zz=>false) 0→Q (.ref a) { s with heap:=h' }):wpAny (model prog w) A (call (.type "set") []) Q E s :=
 call_set_0 fun led=>q _ _ (Ext.push _ _) (size_none _) ((setObjOf_fresh (knd:=intKind prog w) led).setOf (Heap.get?_push_size _ rfl) (by decide))
theorem node_wp {p1 p2 p3 q1 q2 n1 n2 q3 pos:Pos} {Q:VSP} (up:Up I) (hf:∀ np,EvR prog w A env I (.Name "set" np) (fun zz zz v=>v=.type "set")) (hX:Bd X s.heap) (hI:I X s.heap)
  (q:∀ (h':Heap) (tk:Nat) (a:Nat→Addr),Ext s.heap h'→(∀ i,i<4→s.heap.get? (a i)=none)→(∀ i j,i<4→j<4→a i=a j→i=j)→h'.DictOf (strKind prog w) (a 0) []→h'.DictOf (strKind prog w) (a 1) [("flags",.ref (a 2)),("recursive_flags",.ref (a 3)),("nested",.ref (a 0))] →
   h'.SetOf (intKind prog w) (a 2) (fun zz=>false) 0→h'.SetOf (intKind prog w) (a 3) (fun zz=>false) 0→Q (.ref (a 1)) { s with heap:=h',toks:=tk }) :
  wpAny (model prog w) A (eval (.Dict [some (.Constant (.str "flags") k1 p1),some (.Constant (.str "recursive_flags") k2 p2),some (.Constant (.str "nested") k3 p3)] [.Call (.Name "set" n1) [] [] q1,.Call (.Name "set" n2) [] [] q2,.Dict [] [] q3] pos) env) Q E s:=by
 refine wpAny_Dict_walk (knd:=strKind prog w) rfl rfl (by simp) (by simp) ?_
 obtain ⟨H1,hH1⟩:∃ H1,H1=s.heap.push { cls:=.type "dict",data:=.dict #[] }:=⟨_,rfl⟩
 have d1:H1.DictOf (strKind prog w) s.heap.objs.size []:=hH1▸Heap.DictOf.new _
 have e1:Ext s.heap H1:=hH1▸Ext.push _ _
 rw[← hH1]
 have n1':=size_none s.heap
 generalize s.heap.objs.size=a1 at d1 n1' ⊢
 have th:∀ {h:Heap} {kvs:List (Str×Value)} {a:Addr},h.DictOf (strKind prog w) a kvs→∃ o,h.get? a=some o:=by
  rintro h kvs a ⟨o,_,_,e,_⟩
  exact ⟨o,e⟩
 have ts:∀ {h:Heap} {S:Int→Bool} {n:Nat} {a:Addr},h.SetOf (intKind prog w) a S n→∃ o,h.get? a=some o:=by
  rintro h S n a ⟨o,_,_,_,e,_⟩
  exact ⟨o,e⟩
 have ne:∀ {h:Heap} {a b:Addr},(∃ o,h.get? a=some o)→h.get? b=none→a≠b:=by
  rintro h a b ⟨o,e⟩ n q
  rw[q,n] at e;cases e
 have up1:=up.ext e1 hI
 refine pairTrees_cons_walk (wpAny_Constant_str (call0_wp (X:=X) up (hf _) keeper_type (hX.ext e1) up1 fun s2a k2a i2a=>set_new fun h2a a2 e2a na2 s2=>?_))
 have E2:=Ext.trans (kp_ext k2a) e2a
 have E12:=kp_ext k2a
 obtain ⟨g2a,t2a,rfl,_⟩:=k2a
 refine pairTrees_cons_walk (wpAny_Constant_str (call0_wp (X:=X) up (hf _) keeper_type ((hX.ext e1).ext E2) (up.ext E2 up1) fun s3a k3a i3a=>set_new fun h3a a3 e3a na3 s3=>?_))
 have E3:=Ext.trans (kp_ext k3a) e3a
 have E23:=kp_ext k3a
 obtain ⟨g3a,t3a,rfl,_⟩:=k3a
 refine pairTrees_cons_walk (wpAny_Constant_str (wpAny_Dict_empty (pairTrees_nil_walk ?_)))
 have d0:=Heap.DictOf.new (knd:=strKind prog w) h3a
 have e4:Ext h3a (h3a.push { cls:=.type "dict",data:=.dict #[] }):=Ext.push _ _
 have n4:=size_none h3a
 have E4:Ext H1 (h3a.push { cls:=.type "dict",data:=.dict #[] }):=Ext.trans E2 (Ext.trans E3 e4)
 dsimp only
 generalize h3a.push { cls:=.type "dict",data:=.dict #[] }=H4 at d0 e4 E4 ⊢
 generalize h3a.objs.size=a0 at d0 n4 ⊢
 have na2:g2a.get? a2=none:=na2
 have na3:g3a.get? a3=none:=na3
 have E2:Ext H1 h2a:=E2
 have E3:Ext h2a h3a:=E3
 have e2a:Ext g2a h2a:=e2a
 have e3a:Ext g3a h3a:=e3a
 have x1:∃ o,h3a.get? a1=some o:=by obtain ⟨o,e⟩:=th d1;exact ⟨o,E3 _ _ (E2 _ _ e)⟩
 have x2:∃ o,h3a.get? a2=some o:=by obtain ⟨o,e⟩:=ts s2;exact ⟨o,E3 _ _ e⟩
 have x3:∃ o,h3a.get? a3=some o:=ts s3
 have y2:H1.get? a2=none:=none_before E12 na2
 have y3:h2a.get? a3=none:=none_before E23 na3
 have z12:=ne (th d1) y2
 have z13:=ne (by
  obtain ⟨o,e⟩:=th d1
  exact ⟨o,E2 _ _ e⟩) y3
 have z23:=ne (ts s2) y3
 have z10:=ne x1 n4
 have z20:=ne x2 n4
 have z30:=ne x3 n4
 refine display_done_str (a:=a1) (by rfl) (by show ((["flags","recursive_flags","nested"]:List Str)).Nodup;decide +kernel) (dictOf_keep d1 fun o e=>E4 _ _ e) fun h' d' sb=>?_
 have sb':Ext H4 h'→True:=fun zz=>trivial
 have kp:∀ {b:Addr},b≠a1→∀ o,H4.get? b=some o→h'.get? b=some o:=fun n o e=>sb.extBut _ o n e
 refine q h' _ (four a0 a1 a2 a3) (fun b o e=>kp (fun eb=>by rw[eb,n1'] at e;cases e) o (E4 _ _ (e1 _ _ e))) (fun i hi=>?_) (fun i j hi hj e=>?_) (dictOf_keep d0 (kp (Ne.symm z10))) d' (setOf_keep (setOf_keep s2 fun o e=>e4 _ _ (E3 _ _ e)) (kp (Ne.symm z12))) (setOf_keep (setOf_keep s3 fun o e=>e4 _ _ e) (kp (Ne.symm z13)))
 ·exact lt4 (P:=fun i=>s.heap.get? (four a0 a1 a2 a3 i)=none) (none_before e1 (none_before E2 (none_before E3 n4))) n1' (none_before e1 y2) (none_before e1 (none_before E2 y3)) hi
 ·exact inj4 (f:=four a0 a1 a2 a3) z10.symm z20.symm z12 z30.symm z13 z23 hi hj e
end
section
variable {x:Addr} {adr:List Str→Nat→Addr} {σ:Sg}
noncomputable def RO (prog:Program) (w:World) (C:Addr) (hb:Heap) (x dx:Addr) (L:Addr) (adr:List Str→Nat→Addr) (σ:Sg) (N:Nat) (X:List Addr) (h:Heap):Prop:=FObj prog w C hb x dx adr σ N h∧¬ Own x dx adr σ L
theorem rest_ro:Rest L (RO prog w C hb x dx L adr σ N):=⟨fun X X' h h' k _=>by
 rintro ⟨a,b⟩
 exact ⟨a.ext k,b⟩,fun X h h'=>by
  rintro ⟨a,b⟩ _ _ k
  exact ⟨a.off k fun q m=>by rw[m_s m];exact b,b⟩⟩
noncomputable def Grown (adr adr':List Str→Nat→Addr) (σ σ':Sg) (h:Heap):Prop:=(∀ q i,Live σ q i→Live σ' q i∧adr' q i=adr q i)∧∀ q i,Live σ' q i→Live σ q i∨h.get? (adr' q i)=none
theorem mk_stmt {c:Str} {cp yp sp p1 p2 p3 q1 q2 n1 n2 q3 dp pos:Pos} {p:List Str} {k:Str} {Q:FSP}
  (hc:EvR prog w A env (Fr2 K mg mb hb L ρ (RO prog w C hb x dx L adr σ N)) (.Name c cp) (fun zz zz v=>v=.ref (adr p 0))) (hy:Ev prog w A env (Fr2 K mg mb hb L ρ (RO prog w C hb x dx L adr σ N)) (.Name y yp) (.str k))
  (hset:∀ np,EvR prog w A env (Fr2 K mg mb hb L ρ (RO prog w C hb x dx L adr σ N)) (.Name "set" np) (fun zz zz v=>v=.type "set")) (hX:Bd X s.heap) (st:Fr2 K mg mb hb L ρ (RO prog w C hb x dx L adr σ N) X s.heap)
  (Gb:GK K mg mb hb) (lp:Live σ p 0) (hn:σ (p++[k])=none) (hN:N≤1000) (hA:adr p 0∈X)
  (q:∀ h' tk adr',Fs K mg mb hb L ρ X h'→RO prog w C hb x dx L adr' (mkN σ (p++[k])) (N+1) X h'→Off [adr p 0] s.heap h'→Grown adr adr' σ (mkN σ (p++[k])) s.heap→Bd X h'→Q .next { s with heap:=h',toks:=tk }) :
  NR prog w A (exec (.Assign [.Subscript (.Name c cp) (.Name y yp) sp] (.Dict [some (.Constant (.str "flags") k1 p1),some (.Constant (.str "recursive_flags") k2 p2),some (.Constant (.str "nested") k3 p3)] [.Call (.Name "set" n1) [] [] q1,.Call (.Name "set" n2) [] [] q2,.Dict [] [] q3] dp) pos) env) Q s:=by
 have up:=up2 (K:=K) (mg:=mg) (mb:=mb) (h0a:=hb) (ρ:=ρ) (rest_ro (L:=L) (prog:=prog) (w:=w) (C:=C) (hb:=hb) (x:=x) (dx:=dx) (adr:=adr) (σ:=σ) (N:=N))
 refine wpAny_Assign_Subscript (node_wp up hset hX st fun h1a tk a e1a ha haj d0 d1 s2 s3=>?_)
 have i1a:=up.ext e1a st
 refine hc.wp (hX.ext e1a) i1a fun v s2a k2a ev=>?_
 subst ev
 have i2a:=up.ext (kp_ext k2a) i1a
 refine hy.wp ((hX.ext e1a).ext (kp_ext k2a)) i2a fun kv s3a k3a ak=>?_
 obtain ⟨t,rfl⟩:=ak.str_inv
 obtain ⟨h3a,tk3,rfl,e3a⟩:=kp_trans k2a k3a
 have e3a:Ext h1a h3a:=e3a
 have E3:=Ext.trans e1a e3a
 have i3a:=up.ext E3 st
 obtain ⟨⟨r,hi,hx⟩,hL⟩:=st.2
 obtain ⟨kvs,d,hl,hv⟩:=r.cont p lp
 refine wpAny_setItem_pairs (hsz:=by rw[sizeLine_eq];lia) (strKind_is prog w k t) (dictOf_keep d fun o e=>E3 _ _ e) fun h' d' sb=>?_
 have o:Off [adr p 0] h3a h':=fun b ob n e=>sb.extBut _ _ (fun q=>n (by rw[q];exact List.mem_singleton_self _)) e
 have o0:Off [adr p 0] s.heap h':=(Ext.off E3).trans o
 have hab:Ext hb s.heap:=st.1.2.1
 have cr:=r.create lp hn ha haj hab E3 (dictOf_keep d0 fun o e=>e3a _ _ e) (dictOf_keep d1 fun o e=>e3a _ _ e) (setOf_keep s2 fun o e=>e3a _ _ e) (setOf_keep s3 fun o e=>e3a _ _ e) (dictOf_keep d fun o e=>E3 _ _ e) hv hl d' o
 have old:∀ {q i},Live σ q i→q≠p++[k]:=fun {q i} l e=>by
  rcases l with ⟨a,_⟩|⟨_,b,_⟩
  ·exact snoc_ne p k (e.symm.trans a)
  ·rw[e,hn] at b;cases b
 have gr:Grown adr (mkA adr (p++[k]) a) σ (mkN σ (p++[k])) s.heap:=⟨fun q i l=>⟨by
   rcases l with l|⟨a,b,c⟩
   ·exact .inl l
   ·refine .inr ⟨a,?_,c⟩
    unfold mkN;split
    ·rfl
    ·exact b,if_neg (old l)⟩,fun q i l=>by
  rcases live_mk hn l with l|⟨rfl,hi⟩
  ·exact .inl l
  ·exact .inr (by unfold mkA;rw[if_pos rfl];exact ha i hi)⟩
 have fo:FObj prog w C hb x dx adr σ N s.heap:=⟨r,hi,hx⟩
 have sep:∀ {b},(∃ o,s.heap.get? b=some o)→¬ (∃ q i,Live σ q i∧b=adr q i)→∀ q i,Live (mkN σ (p++[k])) q i→mkA adr (p++[k]) a q i≠b:=by
  rintro b ⟨ob,eb⟩ n q i l e
  rcases gr.2 q i l with l|e'
  ·exact n ⟨q,i,l,by rw[← e,(gr.1 q i l).2]⟩
  ·rw[e,eb] at e';cases e'
 have root:mkA adr (p++[k]) a [] 0=adr [] 0:=if_neg (old (i:=0) (.inl ⟨rfl,rfl⟩))
 obtain ⟨t1,t2,pv,gx,gd⟩:=hi
 refine q h' _ _ (i3a.1.off Gb o fun b m=>?_) ⟨⟨cr,⟨t1,t2,pv,o0 _ _ (fun m=>(hx p 0 lp).1 (m_s m).symm) gx,by rw[root];exact o0 _ _ (fun m=>(hx p 0 lp).2 (m_s m).symm) gd⟩,fun q i l=>⟨sep ⟨_,gx⟩ (by
  rintro ⟨q,i,l,e⟩
  exact (hx q i l).1 e.symm) q i l,sep ⟨_,gd⟩ (by
   rintro ⟨q,i,l,e⟩
   exact (hx q i l).2 e.symm) q i l⟩⟩,fun ow=>?_⟩ o0 gr (bd_off (hX.ext E3) o fun b m=>?_)
 ·rw[m_s m]
  exact ⟨r.new _ _ lp,hA,fun e=>hL (.inr (.inr ⟨p,0,lp,e.symm⟩)),(show NT h3a (adr p 0) from i3a.2.1.1.there lp).mk⟩
 ·have hLs:∃ o,s.heap.get? L=some o:=by obtain ⟨o,e,_⟩:=st.1.nt;exact ⟨o,e⟩
  rcases ow with e|e|⟨q,i,l,e⟩
  ·exact hL (.inl e)
  ·exact hL (.inr (.inl e))
  ·exact sep hLs (fun n=>hL (.inr (.inr n))) q i l e.symm
 ·rw[m_s m];obtain ⟨ob,es,ep,e,_⟩:=d';exact ⟨ob,e⟩
end
section
theorem bind2 {x:Str} {D:VD} {Q:Unit→Shared→Prop} (r:Rest L R) (st:Fr2 K mg mb h0a L ρ R X s.heap) (hv:D.at X s.heap v) (hX:Bd X s.heap) (le:LocEnv env L) (hx:env.kindOf x=some .local)
  (G:GK K mg mb h0a) (hL0:h0a.get? L=none) (hL:L∈X) (k:∀ h' tk,Off [L] s.heap h'→Bd X h'→Fr2 K mg mb h0a L ((x,D)::ρ) R X h'→Q () { s with heap:=h',toks:=tk }) :
  NR prog w A (bindName env x v) Q s:=by
 obtain ⟨m,hn,hr⟩:=st.1.2.2
 refine bindName_ (store_local le hx hn fun h' hn' ko=>?_)
 have l:=Loc.set (D:=D) (m':=m) hn hr hv hL ko hn'
 exact k h' _ ko (fs_bd hX ko l) ⟨fs_next st.1 G hL0 ko l,r.off _ _ _ st.2 hL st.1.nt ko⟩
theorem asg_two {x:Str} {px py tp vp pos:Pos} {tk tk':Nat} {e f:Expr} {d1a d2a:PyData} {Q:FSP} (r:Rest L R) (hh:A.handled=none) (st:Fr2 K mg mb h0a L ρ R X s.heap) (he:Ev prog w A env (Fr2 K mg mb h0a L ρ R) (.Tuple [e,f] tk' vp) (.tuple [d1a,d2a])) (hX:Bd X s.heap) (le:LocEnv env L) (hx:env.kindOf x=some .local) (hy:env.kindOf y=some .local)
  (G:GK K mg mb h0a) (hL0:h0a.get? L=none) (hL:L∈X) (k:∀ h' tk,Off [L] s.heap h'→Bd X h'→Fr2 K mg mb h0a L ((x,.dat d1a)::(y,.dat d2a)::ρ) R X h'→Q .next { s with heap:=h',toks:=tk })
  (hs:swapsWithSole [.Tuple [.Name x px,.Name y py] tk tp] (.Tuple [e,f] tk' vp) pos.line env=pure false:=by rfl) (hw:swappedStores [.Tuple [.Name x px,.Name y py] tk tp] (.Tuple [e,f] tk' vp) env=pure (some [x,y])) :
  NR prog w A (exec (.Assign [.Tuple [.Name x px,.Name y py] tk tp] (.Tuple [e,f] tk' vp) pos) env) Q s:=by
 refine Assign_Tuple_swapped (hs:=hs) (hw:=hw) (he.wp hX st fun v s1a k1a a=>?_)
 obtain ⟨t,items,rfl,ht,q⟩:=a.tuple_inv
 have hlen:items.size=2:=by have:=q.length;simpa using this
 obtain ⟨v1a,v2a,e1,a1a,a2a⟩:=two_inv q
 obtain ⟨h1a,tk1,rfl,e1a⟩:=k1a
 have e1a:Ext s.heap h1a:=e1a
 rw[show ([x,y]:List Str).length=items.size by rw[hlen];rfl]
 refine unpackItems_tuple hh ht fun h2a k2a=>?_
 have k2a:Ext h1a h2a:=eo_off (size_none _) k2a
 rw[e1]
 have E2:=Ext.trans e1a k2a
 have st2a:=up2 r _ _ _ _ E2 (Hid.refl X _) st
 refine wpAny_assignInOrder_more (bind2 (D:=.dat d2a) r st2a (a2a.ext k2a) (hX.ext E2) le hy G hL0 hL fun h3a tk3 o3a b3a st3=>?_)
 have c3a:Chg X h2a h3a:=o3a.chg fun b m=>by rw[m_s m];exact ⟨hL,st2a.1.nt.mk⟩
 refine wpAny_assignInOrder_more (bind2 (D:=.dat d1a) r st3 ((a1a.ext k2a).chg c3a) b3a le hx G hL0 hL fun h4a tk4 o4a b4a st4=>?_)
 exact wpAny_assignInOrder_none (k _ _ ((Ext.off E2).trans (o3a.trans o4a)) b4a st4)
noncomputable def ens (σ:Sg):List Str→List Str→Sg
 | _,[]=>σ
 | p,k::ks=>ens (if (σ (p++[k])).isSome then σ else mkN σ (p++[k])) (p++[k]) ks
theorem ens_c {σ:Sg} {p:List Str} {k:Str}:ens σ p (k::ks)=ens (if (σ (p++[k])).isSome then σ else mkN σ (p++[k])) (p++[k]) ks:=rfl
noncomputable def setS (σ:Sg) (q:List Str) (rec:Bool) (f:Int):Sg:=putN (ens σ [] q) q rec f
theorem at_strs (a:At X h v (.tuple (ks.map .str))):At X' h v (.tuple (ks.map .str)):=by
 obtain ⟨t,items,rfl,ht,r⟩:=a.tuple_inv
 refine .tuple ht ?_
 have:∀ (vs:List Value) (ks:List Str),AtAll X h vs (ks.map .str)→AtAll X' h vs (ks.map .str):=fun vs ks=>by
  induction ks generalizing vs with
  | nil=>intro a;rw[a.nil_inv];exact .nil
  | cons k ks ih =>
   intro a
   obtain ⟨v,ws,rfl,b,c⟩:=a.cons_inv
   obtain ⟨t,rfl⟩:=b.str_inv
   exact .cons (.str _ _) (ih ws c)
 exact this _ _ r
end
section
variable {x:Addr} {adr:List Str→Nat→Addr} {σ:Sg}
noncomputable def stp (σ:Sg) (q:List Str):Sg:=if (σ q).isSome then σ else mkN σ q
theorem Grown.refl:Grown adr adr σ σ h:=⟨fun q i l=>⟨l,rfl⟩,fun q i l=>.inl l⟩
theorem ens_stmt {c:Str} {cp yp cp' yp' sp p1 p2 p3 q1 q2 n1 n2 q3 dp pos tp ip:Pos} {p:List Str} {k:Str} {Q:FSP}
  (hc:∀ cp,EvR prog w A env (Fr2 K mg mb hb L ρ (RO prog w C hb x dx L adr σ N)) (.Name c cp) (fun zz zz v=>v=.ref (adr p 0))) (hy:∀ yp,Ev prog w A env (Fr2 K mg mb hb L ρ (RO prog w C hb x dx L adr σ N)) (.Name y yp) (.str k))
  (hset:∀ np,EvR prog w A env (Fr2 K mg mb hb L ρ (RO prog w C hb x dx L adr σ N)) (.Name "set" np) (fun zz zz v=>v=.type "set")) (hX:Bd X s.heap) (st:Fr2 K mg mb hb L ρ (RO prog w C hb x dx L adr σ N) X s.heap)
  (FK:FlagsK K w C) (Gb:GK K mg mb hb) (lp:Live σ p 0) (hN:N≤1000) (hA:adr p 0∈X)
  (q:∀ h' tk adr',Fs K mg mb hb L ρ X h'→RO prog w C hb x dx L adr' (stp σ (p++[k])) (N+1) X h'→Off [adr p 0] s.heap h'→Grown adr adr' σ (stp σ (p++[k])) s.heap→Bd X h'→adr' p 0=adr p 0→Q .next { s with heap:=h',toks:=tk })
  (hm:behindInMarks .NotIn (.Name c cp')=false:=by with_unfolding_all rfl) :
  NR prog w A (exec (.If (.Compare (.Name y yp') [.NotIn] [.Name c cp'] tp) [.Assign [.Subscript (.Name c cp) (.Name y yp) sp] (.Dict [some (.Constant (.str "flags") k1 p1),some (.Constant (.str "recursive_flags") k2 p2),some (.Constant (.str "nested") k3 p3)] [.Call (.Name "set" n1) [] [] q1,.Call (.Name "set" n2) [] [] q2,.Dict [] [] q3] dp) pos] [] ip) env) Q s:=by
 have up:=up2 (K:=K) (mg:=mg) (mb:=mb) (h0a:=hb) (ρ:=ρ) (rest_ro (L:=L) (prog:=prog) (w:=w) (C:=C) (hb:=hb) (x:=x) (dx:=dx) (adr:=adr) (σ:=σ) (N:=N))
 refine ifs (b:=!(σ (p++[k])).isSome) (tr_cmpR (hm:=hm) (P:=IsS k) (P':=fun v=>v=.ref (adr p 0)) up (EvR.str (hy _)) (hc _) fun s X u v E i hu hv=>?_) hX st fun s' k'=>?_
 ·obtain ⟨kvs,d,_,v⟩:=i.2.1.1.cont p lp
  have:(valueAt kvs k).isSome=(σ (p++[k])).isSome:=by
   rw[v];split
   ·rename_i q;rw[q];rfl
   ·rename_i q;simp only[Bool.not_eq_true] at q;rw[q];rfl
  rw[← this]
  exact notin_sdict d (no_sys FK Gb i.2.1.1 lp) hu hv
 obtain ⟨h1a,tk1,rfl,e1a⟩:=k'
 have e1a:Ext s.heap h1a:=e1a
 have st1:=up.ext e1a st
 cases hn:σ (p++[k]) with
 | none =>
  rw[if_pos (by rfl)]
  refine xc (mk_stmt (hc _) (hy _) hset (hX.ext e1a) st1 Gb lp hn hN hA fun h' tk adr' f ro o g b=>wpAny_execs_nil ?_)
  have hs:stp σ (p++[k])=mkN σ (p++[k]):=by unfold stp;rw[hn];rfl
  have g':Grown adr adr' σ (mkN σ (p++[k])) s.heap:=⟨g.1,fun q i l=>(g.2 q i l).imp id (none_before e1a)⟩
  rw[hs] at q
  exact q h' _ adr' f ro ((Ext.off e1a).trans o) g' b (g.1 p 0 lp).2
 | some nd =>
  rw[if_neg (by simp)]
  have hs:stp σ (p++[k])=σ:=by unfold stp;rw[hn];rfl
  rw[hs] at q
  exact wpAny_execs_nil (q h1a _ adr st1.1 ⟨⟨st1.2.1.1.mono (Nat.le_succ _),st1.2.1.2⟩,st1.2.2⟩ (Ext.off e1a) Grown.refl (hX.ext e1a) rfl)
end
theorem bsel {α:Type} {P:α→Prop} {a b:α} (r:Bool) (x:P a) (y:P b):P (if r then a else b):=by cases r;exact y;exact x
theorem bsel2 {α β:Type} {P:α→β→Prop} {a b:α} {c d:β} (r:Bool) (x:P a c) (y:P b d):P (if r then a else b) (if r then c else d):=by cases r;exact y;exact x
theorem bsel3 {α β γ:Type} {P:α→β→γ→Prop} {a b:α} {c d:β} {e f:γ} (r:Bool) (x:P a c e) (y:P b d f):P (if r then a else b) (if r then c else d) (if r then e else f):=by cases r;exact y;exact x
theorem swap_names {x:Str} {p q r:Pos} {ts:Nat} {a b c d:Expr} {u u':Pos} {k:Nat} {r':Pos} (bk:env.blockKind=.function) (k1:env.kindOf x=some .local) (k2:env.kindOf y=some .local) (hl:(q.line == p.line)=true)
 (hd:([x,y].eraseDups.length != 2)=false) (hf:[Expr.Subscript a b u,.Subscript c d u'].all (foldedForSure 8)=false) (hc:[Expr.Subscript a b u,.Subscript c d u'].all (constantsAlone 8)=false) :
 swappedStores [.Tuple [.Name x p,.Name y q] ts r] (.Tuple [.Subscript a b u,.Subscript c d u'] k r') env=pure (some [x,y]):=by
 let g:Expr→Option Str:=fun
  | .Name id pos=>if env.kindOf id == some .local && pos.line == p.line then some id else none
  | _=>none
 have hn:[Expr.Name x p,Expr.Name y q].filterMap g=[x,y]:=by
  rw[List.filterMap_cons_some (b:=x) (by show (if env.kindOf x == some .local && p.line == p.line then some x else none)=_;rw[k1,if_pos (by rw[BEq.rfl,BEq.rfl];rfl)]),
   List.filterMap_cons_some (b:=y) (by show (if env.kindOf y == some .local && q.line == p.line then some y else none)=_;rw[k2,hl,if_pos (by rw[BEq.rfl];rfl)])]
  rfl
 let h2:List Str→Sem (Option (List Str)):=fun names=>if (names.length != 2 || names.eraseDups.length != names.length)=true then pure none else if [Expr.Subscript a b u,.Subscript c d u'].all (foldedForSure 8)=true then pure none else
  have __do_jp:=fun (_:Unit)=>(pure (some names):Sem (Option (List Str)))
  if [Expr.Subscript a b u,.Subscript c d u'].all (constantsAlone 8)=true then do
   let __r ← unsupported "assign.tuple-of-constant-expressions:order-of-the-stores"
   __do_jp __r
  else __do_jp ()
 show (if (!(([Expr.Name x p,Expr.Name y q]:List Expr).length == 2 || _) || false || env.blockKind != ScopeKind.function)=true then _ else if false=true then _ else h2 ([Expr.Name x p,Expr.Name y q].filterMap g))=_
 rw[hn,bk,if_neg (by show ¬ (false || false || false)=true;decide),if_neg (by decide)]
 show (if (2 != 2 || [x,y].eraseDups.length != 2)=true then _ else _)=_
 rw[hd,if_neg (by decide),hf,if_neg (by decide),hc]
 rfl
noncomputable def Flat (d:PyData):Prop:=∀ X X' h v,At X h v d→At X' h v d
theorem flat_int (i:Int):Flat (.int i):=fun X X' h v a=>by obtain ⟨t,rfl⟩:=a.int_inv;exact .int _ _
theorem flat_str (i:Str):Flat (.str i):=fun X X' h v a=>by obtain ⟨t,rfl⟩:=a.str_inv;exact .str _ _
theorem flat_bool (i:Bool):Flat (.bool i):=fun X X' h v a=>by rw[a.bool_inv];exact .bool _
theorem flat_strs (ks:List Str):Flat (.tuple (ks.map .str)):=fun X X' h v a=>at_strs a
noncomputable def FlatV:VD→Prop
 | .dat d=>Flat d
 | .val _=>True
noncomputable def FlatL:List (Str×VD)→Prop
 | []=>True
 | (_,D)::r=>FlatV D∧FlatL r
theorem FlatL.get:∀ {ρ:List (Str×VD)},FlatL ρ→∀ x D,ρ.lookup x=some D→FlatV D
 | [],_,x,D,e=>by simp at e
 | (y,D')::r,⟨a,b⟩,x,D,e=>by
  rw[List.lookup_cons] at e
  cases q:x == y with
  | true=>rw[q] at e;simp at e;subst e;exact a
  | false=>rw[q] at e;exact b.get x D e
section
variable {x:Addr} {adr:List Str→Nat→Addr} {σ:Sg}
theorem Fs.flat (f:Fs K mg mb h0a L ρ X h) (fl:FlatL ρ):Fs K mg mb h0a L ρ X' h :=
 ⟨f.1,f.2.1,by
  obtain ⟨m,a,b⟩:=f.2.2
  exact ⟨m,a,fun y D e=>by
   obtain ⟨v,p,q⟩:=b y D e
   exact ⟨v,p,by
  have:=fl.get y D e
  cases D with
  | dat d=>exact this _ _ _ _ q
  | val u=>exact q⟩⟩⟩
theorem Ext.trans' {a b c d:Heap} (x:Ext a b) (y:Off [L] b c) (z:Off [L] c d) (n:a.get? L=none):Ext a d:=fun q o e=>z q o (fun m=>by rw[m_s m,n] at e;cases e) (y q o (fun m=>by rw[m_s m,n] at e;cases e) (x q o e))
theorem stp_isSome (σ:Sg) (q:List Str):(stp σ q q).isSome=true:=by
 unfold stp
 split
 ·assumption
 ·unfold mkN;rw[if_pos rfl];rfl
theorem ens_snoc (σ:Sg):∀ (ks:List Str) (p:List Str) (k:Str),ens σ p (ks++[k])=stp (ens σ p ks) (p++ks++[k])
 | [],p,k=>by rw[List.append_nil];rfl
 | j::ks,p,k=>by
  show ens _ (p++[j]) (ks++[k])=_
  rw[ens_snoc]
  show stp _ _=stp (ens _ (p++[j]) ks) _
  simp
noncomputable def rS (x:Addr) (kd:List Str) (ks:List Str) (st:Str) (f:Int) (rec:Bool) (c:Addr):List (Str×VD):=[("cont",.val (.ref c)),("key_parent",.dat (.tuple (ks.map .str))),("key_stem",.dat (.str st)),("recursive",.dat (.bool rec)),("flag",.dat (.int f)),("key",.dat (.tuple (kd.map .str))),("self",.val (.ref x))]
theorem flat_rS {kd:List Str} {st:Str} {f:Int} {rec:Bool} {c:Addr}:FlatL (rS x kd ks st f rec c):=⟨trivial,flat_strs _,flat_str _,flat_bool _,flat_int _,flat_strs _,trivial,trivial⟩
set_option maxHeartbeats 2000000 in
theorem flags_set {n:Nat} {kv:Value} {st:Str} {f:Int} {rec:Bool} (F:FnK K fa "Flags.set" (inS (topS 2) 6) .none .none) (FK:FlagsK K w C) (hA:OKA A (n+1)) (Gb:GK K mg mb hb) (hbs:Ext hb s.heap)
  (m1:mg "set"=none) (b1:mb "set"=some (.type "set")) (fo:FObj prog w C hb x dx adr σ N s.heap) (hl:ks.length≤100) (hN:N≤500) (ak:At [] s.heap kv (.tuple ((ks++[st]).map .str))) (af:At [] s.heap fv (.int f)) (E:VSP) :
  wpAny (model prog w) A (call (.ref fa) [.ref x,kv,fv] [("recursive",.bool rec)]) (fun v s'=>v=.none∧∃ h' tk adr',s'={ s with heap:=h',toks:=tk }∧FObj prog w C hb x dx adr' (setS σ (ks++[st]) rec f) (N+ks.length+2) h'∧OffL adr σ s.heap h'∧Grown adr adr' σ (setS σ (ks++[st]) rec f) s.heap) E s:=by
 refine fn_go (X:=[]) [("self",.ref x),("key",kv),("flag",fv),("recursive",.bool rec)] [("recursive",.dat (.bool rec)),("flag",.dat (.int f)),("key",.dat (.tuple ((ks++[st]).map .str))),("self",.val (.ref x))] F hA (Gb.ext hbs) (fun zz m=>by cases m) (fun doc pm an cdv ct=>.of_eq (by kernel_rfl)) (by decide +kernel) (locs (by kernel_rfl)) (by kernel_rfl) (by kernel_rfl) (by kernel_rfl)
  (fun X' h' hd e=>⟨rfl,.bool _,rfl,(af.hid hd).ext e,rfl,(ak.hid hd).ext e,rfl,rfl,trivial⟩) fun L env h1a tk fr hX1 hid f0=>?_
 refine hideQ fun Q hQ=>?_
 have hLb:hb.get? L=none:=none_before hbs fr.new
 have f0':Fs K mg mb hb L [("recursive",.dat (.bool rec)),("flag",.dat (.int f)),("key",.dat (.tuple ((ks++[st]).map .str))),("self",.val (.ref x))] [L] h1a:=⟨f0.1,Ext.trans hbs f0.2.1,f0.2.2⟩
 have hO:¬ Own x dx adr σ L:=fo.free fr.new
 let R:=RO prog w C hb x dx L adr σ N
 have r0:R [L] h1a:=⟨fo.ext f0.2.1,hO⟩
 let I:=fun (ρ:List (Str×VD)) (R:XHP)=>Fr2 K mg mb hb L ρ R
 have lv:∀ (y:Str) (ρ:List (Str×VD)) (R:XHP) {p:Pos} {u:Value},(fScope (inS (topS 2) 6)).names.lookup y=some .local→ρ.lookup y=some (.val u)→(y == ("__debug__":Str))=false→EvR prog w (A.deeper env) env (I ρ R) (.Name y p) (fun zz zz v=>v=u):=fun y ρ R p d a b c=>ev_locv fr.le (by rw[fr.k];exact a) loc2 b c
 have ld:∀ (y:Str) (ρ:List (Str×VD)) (R:XHP) {p:Pos} {d:PyData},(fScope (inS (topS 2) 6)).names.lookup y=some .local→ρ.lookup y=some (.dat d)→(y == ("__debug__":Str))=false→Ev prog w (A.deeper env) env (I ρ R) (.Name y p) d:=fun y ρ R p d a b c=>ev_loc fr.le (by rw[fr.k];exact a) loc2 b c
 have sete:∀ (ρ:List (Str×VD)) (R:XHP) (p:Pos),EvR prog w (A.deeper env) env (I ρ R) (.Name "set" p) (fun zz zz v=>v=.type "set"):=fun ρ R p=>ev_builtin gk2 fr.ge (by rw[fr.k];kernel_rfl) m1 b1
 try dsimp only
 show NR prog w _ (execs (_::_) env) _ _
 refine xc (asgx2 (R:=R) (P:=fun v=>v=.ref (adr [] 0)) rest_ro ⟨f0',r0⟩ ?_ hX1 fr.le (by rw[fr.k];kernel_rfl) Gb hLb (.head _) fun h3a tk3 u hu o3a b3a f3a=>?_)
 ·refine ev_field (K:=K) (C:=C) (up2 rest_ro) (lv _ _ _ (by kernel_rfl) (by rfl) (by kernel_rfl)) FK.ga rfl fun X h i=>?_
  obtain ⟨t1,t2,p,I'⟩:=i.2.1.inst
  exact ⟨i.1.1.k,_,_,I',FK.at_ _ _ _ _⟩
 subst hu
 have hks:((ks++[st]).map PyData.str).dropLast=ks.map .str:=by rw[List.map_append];simp
 try dsimp only
 show NR prog w _ (execs (_::_) env) _ _
 refine xc (asg_two rest_ro hA.handled f3a (ev_tuple (ev_cons (up2 rest_ro) (Ev.eq (by rw[hks]) (ev_butlast (up2 rest_ro) (ld _ _ _ (by kernel_rfl) (by rfl) (by kernel_rfl)) (ev_neg ev_int) (by simp) (by simp;omega))) (ev_cons (up2 rest_ro) (ev_last (ds:=ks.map .str) (up2 rest_ro) (Ev.eq (d:=.tuple ((ks++[st]).map .str)) (by rw[List.map_append];rfl) (ld _ _ _ (by kernel_rfl) (by rfl) (by kernel_rfl))) (ev_neg ev_int) (by simp;omega)) ev_nil)) (hl:=by simp)) b3a fr.le (by rw[fr.k];kernel_rfl) (by rw[fr.k];kernel_rfl) Gb hLb (.head _) (fun h4a tk4 o4a b4a f4a=>?_) (hw:=by
  have k1:env.kindOf "key_parent"=some .local:=by rw[fr.k];kernel_rfl
  have k2:env.kindOf "key_stem"=some .local:=by rw[fr.k];kernel_rfl
  have bk:env.blockKind=.function:=by unfold Env.blockKind;rw[fr.ge.kind];rfl
  exact swap_names bk k1 k2 (by decide +kernel) (by decide +kernel) (by decide +kernel) (by decide +kernel)))
 try dsimp only
 show NR prog w _ (execs (_::_) env) _ _
 have ext4:Ext s.heap h4a:=Ext.trans' f0.2.1 o3a o4a fr.new
 obtain ⟨pre,hpre,hpre'⟩:∃ pre:List Addr,(∀ b∈pre,∃ i,i<ks.length∧Live σ (ks.take i) 0∧b=adr (ks.take i) 0)∧∀ i,i<ks.length→Live σ (ks.take i) 0→adr (ks.take i) 0∈pre:=by
  refine ⟨(List.range ks.length).filterMap fun i=>if i=0∨(σ (ks.take i)).isSome=true then some (adr (ks.take i) 0) else none,fun b m=>?_,fun i hi l=>?_⟩
  ·obtain ⟨i,hi,e⟩:=List.mem_filterMap.mp m
   rw[List.mem_range] at hi
   split at e
   ·rename_i c
    refine ⟨i,hi,?_,(Option.some.inj e).symm⟩
    rcases c with rfl|c
    ·exact .inl ⟨by simp,rfl⟩
    ·exact live0 fun zz=>c
   ·cases e
  ·refine List.mem_filterMap.mpr ⟨i,List.mem_range.mpr hi,if_pos ?_⟩
   rcases l with ⟨a,_⟩|⟨_,b,_⟩
   ·rcases List.take_eq_nil_iff.mp a with h|h
    ·exact .inl h
    ·rw[h] at hi;simp at hi
   ·exact .inr b
 have b4':Bd (pre++[L]) h4a:=fun b m=>by
  rcases m_a m with m|m
  ·obtain ⟨i,_,l,rfl⟩:=hpre b m
   obtain ⟨o,e,_⟩:=f4a.2.1.1.there l;exact ⟨o,e⟩
  ·exact b4a b m
 have fl4:FlatL [("key_parent",.dat (.tuple (ks.map .str))),("key_stem",.dat (.str st)),("cont",.val (.ref (adr [] 0))),("recursive",.dat (.bool rec)),("flag",.dat (.int f)),("key",.dat (.tuple ((ks++[st]).map .str))),("self",.val (.ref x))]:=⟨flat_strs _,flat_str _,trivial,flat_bool _,flat_int _,flat_strs _,trivial,trivial⟩
 have f4':Fr2 K mg mb hb L [("key_parent",.dat (.tuple (ks.map .str))),("key_stem",.dat (.str st)),("cont",.val (.ref (adr [] 0))),("recursive",.dat (.bool rec)),("flag",.dat (.int f)),("key",.dat (.tuple ((ks++[st]).map .str))),("self",.val (.ref x))] R (pre++[L]) h4a:=⟨f4a.1.flat fl4,f4a.2⟩
 refine xc (for_zone (T:=AtF PyData.str) (ds:=ks) (M:=L::pre) (X:=pre++[L]) (I:=I [("key_parent",.dat (.tuple (ks.map .str))),("key_stem",.dat (.str st)),("cont",.val (.ref (adr [] 0))),("recursive",.dat (.bool rec)),("flag",.dat (.int f)),("key",.dat (.tuple ((ks++[st]).map .str))),("self",.val (.ref x))] R)
  (Inv:=fun hs i X' h=>∃ adr',Fr2 K mg mb hb L (rS x (ks++[st]) ks st f rec (adr' (ks.take i) 0)) (RO prog w C hb x dx L adr' (ens σ [] (ks.take i)) (N+i)) X' h∧Live (ens σ [] (ks.take i)) (ks.take i) 0∧Grown adr adr' σ (ens σ [] (ks.take i)) hs∧i≤ks.length ∧
   ∀ b o,s.heap.get? b=some o→(∀ q i,Live σ q i→adr q i≠b)→h.get? b=some o)
  (src_tupleF PyData.str hA.handled (ld _ _ _ (by kernel_rfl) (by rfl) (by kernel_rfl))) b4' f4' ?_ ?_ ?_ ?_ ?_ ?_)
 ·intro b m
  rcases mC m with rfl|m
  ·exact ⟨m_r _ (.head _),exl (f4a.1.nt)⟩
  ·exact ⟨m_l _ m,b4' b (m_l _ m)⟩
 ·intro h X' k q sub
  have:=up2 rest_ro _ _ _ _ k q f4'
  refine ⟨adr,⟨this.1.sub ⟨rfl,rfl,rfl,rfl,rfl,rfl,rfl,trivial⟩,this.2⟩,.inl ⟨rfl,rfl⟩,Grown.refl,Nat.zero_le _,fun b o e zz=>k _ _ (ext4 _ _ e)⟩
 ·rintro hs i X' h ⟨adr',fr',_,g,_⟩ b m
  rcases mC m with rfl|m
  ·exact fr'.1.nt
  ·obtain ⟨j,_,l,rfl⟩:=hpre b m
   have:=g.1 _ _ l
   rw[← this.2];exact fr'.2.1.1.there this.1
 ·rintro hs i X' h h' Wr ehs ⟨adr',fr',lp,g,hi,off⟩ hW k hex
  have h4n:∀ b∈Wr,∀ ob,h4a.get? b≠some ob:=fun b m ob e=>by rw[(hW b m).2.1] at e;cases e
  have own4:∀ b∈Wr,¬ Own x dx adr σ b:=fun b m o=>by obtain ⟨ob,e,_⟩:=f4a.2.1.there o;exact h4n b m ob e
  refine ⟨adr',⟨fr'.1.off Gb k fun b m=>⟨none_before f4a.1.2.1 (hW b m).2.1,(hW b m).1,fun e=>by obtain ⟨ob,eo,_⟩:=f4a.1.nt;exact h4n b m ob (e▸eo),(hW b m).2.2⟩,fr'.2.1.off k fun b m ow=>?_,fr'.2.2⟩,lp,g,hi,fun b o e n=>k b o (fun m=>h4n b m _ (ext4 _ _ e)) (off b o e n)⟩
  rcases ow with e|e|⟨q,j,l,e⟩
  ·exact own4 b m (.inl e)
  ·exact own4 b m (.inr (.inl e))
  ·rcases g.2 q j l with l'|l'
   ·exact own4 b m (.inr (.inr ⟨q,j,l',e.trans (g.1 q j l').2⟩))
   ·obtain ⟨ob,eo⟩:=hex b m
    rw[e,l'] at eo;cases eo
 ·intro hs i k v h' tk X' ehs hd hv hb' hh sub o per iv
  refine cps fun zz kG=>?_
  obtain ⟨adr',g,lp,gr,hi,off⟩:=iv
  refine kG ?_
  obtain ⟨p,hp⟩:∃ p,p=ks.take i:=⟨_,rfl⟩
  have hik:=(List.getElem?_eq_some_iff.mp hd).1
  have htake:ks.take (i+1)=p++[k]:=by rw[List.take_add_one,hd,hp];rfl
  rw[← hp] at g lp gr
  have hL':L∈X':=sub _ (m_r _ (.head _))
  refine name2 (D:=.dat (.str k)) rest_ro g hv hb' fr.le (by rw[fr.k];kernel_rfl) Gb hLb hL' fun h5 tk5 o5a b5a g5=>?_
  refine hideQ fun Q2 hQ2=>?_
  try dsimp only
  show NR prog w _ (execs (_::_) env) _ _
  have fl5:FlatL (("k",.dat (.str k))::rS x (ks++[st]) ks st f rec (adr' p 0)):=⟨flat_str _,flat_rS⟩
  have hex5:∃ ob,h5.get? (adr' p 0)=some ob:=by obtain ⟨ob,e,_⟩:=g5.2.1.1.there lp;exact ⟨ob,e⟩
  refine xc (ens_stmt (X:=adr' p 0::X') (p:=p) (k:=k) (fun cp=>lv _ _ _ (by kernel_rfl) (by rfl) (by kernel_rfl)) (fun yp=>ld _ _ _ (by kernel_rfl) (by rfl) (by kernel_rfl)) (fun np=>sete _ _ _) (fun b m=>?_) ⟨g5.1.flat fl5,g5.2⟩ FK Gb lp (by omega) (.head _) fun h6a tk6 adr'' f6a ro6 o6 gr6 b6 e6a=>?_)
  ·rcases mC m with rfl|m
   ·exact hex5
   ·exact b5a b m
  have hs':ens σ [] (ks.take (i+1))=stp (ens σ [] p) (p++[k]):=by rw[htake,ens_snoc];simp
  rw[← hs'] at ro6 gr6
  have hsome:(ens σ [] (ks.take (i+1)) (p++[k])).isSome=true:=by rw[hs'];exact stp_isSome _ _
  have lk:Live (ens σ [] (ks.take (i+1))) (p++[k]) 0:=live_of (snoc_ne _ _) hsome
  have f6':Fs K mg mb hb L (("k",.dat (.str k))::rS x (ks++[st]) ks st f rec (adr' p 0)) X' h6a:=f6a.flat fl5
  have b6':Bd X' h6a:=fun b m=>b6 b (.tail _ m)
  obtain ⟨nd,hnd⟩:=Option.isSome_iff_exists.mp hsome
  have lp':Live (ens σ [] (ks.take (i+1))) p 0:=(gr6.1 p 0 lp).1
  try dsimp only
  show NR prog w _ (execs (_::_) env) _ _
  refine xc (asgx2 (R:=RO prog w C hb x dx L adr'' (ens σ [] (ks.take (i+1))) (N+i+1)) (P:=fun v=>v=.ref (adr'' (p++[k]) 0)) rest_ro ⟨f6',ro6⟩ (ev_sget (k:="nested") (d:=adr'' (p++[k]) 1) (up2 rest_ro) (ev_sget (d:=adr' p 0) (up2 rest_ro) (lv _ _ _ (by kernel_rfl) (by rfl) (by kernel_rfl)) (ld _ _ _ (by kernel_rfl) (by rfl) (by kernel_rfl)) fun X h i'=>?_) ev_str fun X h i'=>?_) b6' fr.le (by rw[fr.k];kernel_rfl) Gb hLb hL' fun h7a tk7 u hu o7 b7 g7=>?_)
  ·obtain ⟨kvs,d,_,v⟩:=i'.2.1.1.cont p lp'
   rw[e6a] at d
   exact ⟨kvs,d,by rw[v,if_pos hsome]⟩
  ·exact ⟨_,(i'.2.1.1.node _ _ (snoc_ne _ _) hnd).1,by kernel_rfl⟩
  subst hu
  have off57:∀ b ob,b≠L→b≠adr' p 0→h'.get? b=some ob→h7a.get? b=some ob:=fun b ob n1 n2 e=>o7 _ _ (fun m=>n1 (m_s m)) (o6 _ _ (fun m=>n2 (m_s m)) (o5a _ _ (fun m=>n1 (m_s m)) e))
  have pin:(∃ ob,hs.get? (adr' p 0)=some ob)→adr' p 0∈pre:=by
   rintro ⟨ob,e⟩
   rcases gr.2 p 0 lp with l|l
   ·rw[(gr.1 p 0 l).2,hp];exact hpre' i hik (hp▸l)
   ·rw[l] at e;cases e
  have hLn4:∀ ob,s.heap.get? L≠some ob:=fun ob e=>by rw[fr.new] at e;cases e
  refine wpAny_execs_nil (hQ2 _ _ ⟨h7a,_,rfl,fun b ob n=>by
   rintro ⟨ob',e'⟩ e
   exact off57 b ob (fun q=>n (q▸.head _)) (fun q=>n (.tail _ (q▸pin ⟨ob',q▸e'⟩))) e,adr'',?_,?_,⟨fun q j l=>?_,fun q j l=>?_⟩,hik,fun b ob e n=>off57 b ob (fun q=>hLn4 ob (q▸e)) (fun q=>?_) (off b ob e n)⟩)
  ·rw[htake]
   exact ⟨g7.1.sub ⟨rfl,rfl,rfl,rfl,rfl,rfl,rfl,trivial⟩,by rw[htake] at g7;exact g7.2⟩
  ·rw[htake] at lk ⊢;exact lk
  ·have a:=gr.1 q j l
   have b:=gr6.1 q j a.1
   exact ⟨b.1,b.2.trans a.2⟩
  ·rcases gr6.2 q j l with l'|l'
   ·rcases gr.2 q j l' with l''|l''
    ·exact .inl l''
    ·exact .inr (by rw[(gr6.1 q j l').2];exact l'')
   ·refine .inr ?_
    cases e:hs.get? (adr'' q j) with
    | none=>rfl
    | some ob =>
     obtain ⟨ob',e'⟩:=per _ _ e
     by_cases hq:adr'' q j=L
     ·obtain ⟨ob2,e2,_⟩:=g5.1.nt;rw[hq,e2] at l';cases l'
     ·have:=o5a _ _ (fun m=>hq (m_s m)) e'
      rw[l'] at this;cases this
  ·rcases gr.2 p 0 lp with l|l
   ·exact n p 0 l (((gr.1 p 0 l).2.symm.trans q.symm))
   ·have:=per b
    have e4:=ext4 _ _ e
    rw[← q] at l
    rw[ehs _ _ e4] at l;cases l
 ·intro hs h' tk X' ehs hb' sub o iv
  refine cps fun zz kG=>?_
  obtain ⟨adr',g,lp,gr,hi,off⟩:=iv
  refine kG ?_
  rw[List.take_length] at g lp gr
  try dsimp only
  show NR prog w _ (execs (_::_) env) _ _
  have hex5:∃ ob,h'.get? (adr' ks 0)=some ob:=by obtain ⟨ob,e,_⟩:=g.2.1.1.there lp;exact ⟨ob,e⟩
  have hLX:L∈adr' ks 0::(pre++[L]):=.tail _ (m_r _ (.head _))
  have hn9:∀ b m,∃ ob,h'.get? b=some ob:=fun b (m:b∈adr' ks 0::(pre++[L]))=>by
   rcases mC m with rfl|m
   ·exact hex5
   ·exact hb' b m
  refine xc (ens_stmt (X:=adr' ks 0::(pre++[L])) (p:=ks) (k:=st) (fun cp=>lv _ _ _ (by kernel_rfl) (by rfl) (by kernel_rfl)) (fun yp=>ld _ _ _ (by kernel_rfl) (by rfl) (by kernel_rfl)) (fun np=>sete _ _ _) hn9 ⟨g.1.flat flat_rS,g.2⟩ FK Gb lp (by omega) (.head _) fun h6a tk6 adr'' f6a ro6 o6 gr6 b6 e6a=>?_)
  have hs':ens σ [] (ks++[st])=stp (ens σ [] ks) (ks++[st]):=by rw[ens_snoc];simp
  rw[← hs'] at ro6 gr6
  have hsome:(ens σ [] (ks++[st]) (ks++[st])).isSome=true:=by rw[hs'];exact stp_isSome _ _
  obtain ⟨nd,hnd⟩:=Option.isSome_iff_exists.mp hsome
  have lp':Live (ens σ [] (ks++[st])) ks 0:=(gr6.1 ks 0 lp).1
  let R6:=RO prog w C hb x dx L adr'' (ens σ [] (ks++[st])) (N+ks.length+1)
  let ρ6:=rS x (ks++[st]) ks st f rec (adr' ks 0)
  let j:Nat:=if rec then 3 else 2
  have hj:j<4:=bsel (P:=(·<4)) rec (by decide) (by decide)
  have tgt:∀ (p1 p2 p3 p4 p5 p6 p7 p8:Pos) (k1 k2:Nat),EvR prog w (A.deeper env) env (I ρ6 R6) (.Subscript (.Subscript (.Name "cont" p1) (.Name "key_stem" p2) p3) (.IfExp (.Name "recursive" p4) (.Constant (.str "recursive_flags") k1 p5) (.Constant (.str "flags") k2 p6) p7) p8) (fun zz zz v=>v=.ref (adr'' (ks++[st]) j)):=fun p1 p2 p3 p4 p5 p6 p7 p8 k1 k2 =>
   ev_sget (k:=if rec then "recursive_flags" else "flags") (d:=adr'' (ks++[st]) 1) (up2 rest_ro) (ev_sget (d:=adr' ks 0) (up2 rest_ro) (lv _ _ _ (by kernel_rfl) (by rfl) (by kernel_rfl)) (ld _ _ _ (by kernel_rfl) (by rfl) (by kernel_rfl)) fun X h i'=>by
    obtain ⟨kvs,d,_,v⟩:=i'.2.1.1.cont ks lp'
    rw[e6a] at d
    exact ⟨kvs,d,by rw[v,if_pos hsome]⟩)
    (ev_if (b:=rec) (up2 rest_ro) (tr_val (up2 rest_ro) (P:=fun v=>v=.bool rec) ((ld _ _ _ (by kernel_rfl) (by rfl) (by kernel_rfl)).mono fun X h v a=>a.bool_inv) fun v s Q E e q=>by rw[e];exact wpAny_truthy_bool q) (fun e=>by rw[e];exact ev_str) (fun e=>by rw[e];exact ev_str))
    (fun X h i'=>⟨_,(i'.2.1.1.node _ _ (snoc_ne _ _) hnd).1,bsel2 (P:=fun (k:Str) j=>valueAt _ k=some (.ref (adr'' (ks++[st]) j))) rec (by kernel_rfl) (by kernel_rfl)⟩)
  try dsimp only
  show NR prog w _ (execs (_::_) env) _ _
  have b6':Bd (adr' ks 0::(pre++[L])) h6a:=b6
  refine xc (wpAny_Expr_any (hi:=fr.ge.inter) (wpAny_Call_method1_late rfl rfl rfl ((tgt _ _ _ _ _ _ _ _ _ _).wp b6' (show I ρ6 R6 _ h6a from ⟨f6a,ro6⟩) fun v s7 k7 ev=>?_)))
  subst ev
  have i7:=(up2 rest_ro).ext (kp_ext k7) (show I ρ6 R6 _ h6a from ⟨f6a,ro6⟩)
  have hS:∀ {X h},I ρ6 R6 X h→h.SetOf (intKind prog w) (adr'' (ks++[st]) j) (if rec then nd.rf else nd.fl) (if rec then nd.nr else nd.nf):=fun i'=>by
   have:=(i'.2.1.1.node _ _ (snoc_ne _ _) hnd).2
   exact bsel3 (P:=fun j S n=>Heap.SetOf _ _ (adr'' (ks++[st]) j) S n) rec this.2.1 this.1
  have hcnt:(if rec then nd.nr else nd.nf)≤N+ks.length+1:=by
   have:=(i7.2.1.1.node _ _ (snoc_ne _ _) hnd).2.2.2
   exact bsel (P:=(·≤N+ks.length+1)) rec this.2 this.1
  refine ⟨"set","set.add",PySem.F.plainAttrs_set,PySem.F.slot_set_add,PySem.F.type_set_add,(hS i7).typeIs,(hS i7).noDict,?_⟩
  refine Calls.callWith_builtin rfl (Calls.evalArgs_plain (Calls.spliced_cons ((ld "flag" ρ6 R6 (by kernel_rfl) (by rfl) (by kernel_rfl)).wp (b6'.ext (kp_ext k7)) i7 fun u s8 k8 a8a=>Calls.spliced_nil ?_)))
  obtain ⟨t,rfl⟩:=a8a.int_inv
  obtain ⟨h8a,tk8,rfl,e8a⟩:=kp_trans k7 k8
  have e8a:Ext h6a h8a:=e8a
  have i8:=(up2 rest_ro).ext e8a (show I ρ6 R6 _ h6a from ⟨f6a,ro6⟩)
  have S8a:=hS (h:=h8a) i8
  have hsb:scanBound=4096:=rfl
  refine call_set_add (intKind_is prog w f t) rfl S8a (by rw[hsb];omega) fun h9 sb S9=>wpAny_execs_nil (hQ _ _ ?_)
  have o9:Off [adr'' (ks++[st]) j] h8a h9:=fun b ob n e=>sb.extBut _ _ (fun q=>n (by rw[q];exact List.mem_singleton_self _)) e
  have r9:=i8.2.1.1.flag (rec:=rec) (f:=f) (snoc_ne _ _) hnd S9 o9
  have lq:Live (ens σ [] (ks++[st])) (ks++[st]) j:=live_of (snoc_ne _ _) hsome hj
  have grT:Grown adr adr'' σ (ens σ [] (ks++[st])) s.heap:=⟨fun q i l=>⟨(gr6.1 q i (gr.1 q i l).1).1,((gr6.1 q i (gr.1 q i l).1).2).trans (gr.1 q i l).2⟩,fun q i l=>by
   rcases gr6.2 q i l with l'|l'
   ·rcases gr.2 q i l' with l''|l''
    ·exact .inl l''
    ·exact .inr (none_before (Ext.trans ext4 ehs) (by rw[(gr6.1 q i l').2];exact l''))
   ·refine .inr ?_
    cases e:s.heap.get? (adr'' q i) with
    | none=>rfl
    | some ob =>
     exfalso
     apply Classical.byContradiction
     intro _
     by_cases hq:∃ q' i',Live σ q' i'∧adr q' i'=adr'' q i
     ·obtain ⟨q',i',l2,e2⟩:=hq
      obtain ⟨o2,e3,_⟩:=g.2.1.1.there (gr.1 q' i' l2).1
      rw[(gr.1 q' i' l2).2,e2,l'] at e3;cases e3
     ·have:=off _ _ e fun q' i' l2 e2=>hq ⟨q',i',l2,e2⟩
      rw[l'] at this;cases this⟩
  refine ⟨rfl,h9,_,adr'',rfl,i8.2.1.turn r9 (fun p i l=>live_put.mp l) o9 (fun b m=>⟨_,_,lq,m_s m⟩),fun b ob e n=>?_,⟨fun q i l=>⟨live_put.mpr (grT.1 q i l).1,(grT.1 q i l).2⟩,fun q i l=>grT.2 q i (live_put.mp l)⟩⟩
  refine o9 b ob (fun m=>?_) (e8a _ _ (o6 b ob (fun m=>?_) (off b ob e n)))
  ·have hb9:=m_s m
   rcases grT.2 _ _ lq with l|l
   ·exact n _ _ l (by rw[hb9,(grT.1 _ _ l).2])
   ·rw[← hb9,e] at l;cases l
  ·have hb9:=m_s m
   rcases gr.2 ks 0 lp with l|l
   ·exact n _ _ l (by rw[hb9,(gr.1 _ _ l).2])
   ·rw[← hb9,ehs _ _ (ext4 _ _ e)] at l;cases l
end
theorem OKA.make {n:Nat} (h:OKA A (n+1)):OKA (A.under (.builtin "type.__call__" ⟨.ref C::vs,[]⟩)) n :=
 ⟨h.handled,by have:=h.depth;show A.depth+1+n<_;lia,by have:=h.units;rw[units_under_make];lia⟩
section
theorem fn_code {st:Stmt} {n:Nat} {kw:List (Str×Value)} {binds:List (Str×Value)} {R:Result→Shared→Prop}
  (F:FnK K f qual st dV kV) (hA:OKA A (n+1)) (G:GK K mg mb s.heap)
  (hb:∀ doc pm an cdv ct,BindsTo s (fnOf (fName st) qual (fParams st) (fBody st) (fScope st) dV kV doc pm an cdv ct) ⟨vs,kw⟩ binds)
  (hcell:∀ x∈(fScope st).names,x.2≠.cell) (hloc:∀ x∈binds,(fScope st).names.lookup x.1=some .local)
  (hco:(fScope st).isCoroutine=false) (hgen:(fScope st).isGenerator=false) (hk:(fScope st).kind=.function)
  (body:∀ env h1a tk,Fr A st n s.heap s.heap.objs.size env→Ext s.heap h1a→h1a.Ns s.heap.objs.size (fun x=>binds.reverse.lookup x) →
   NR prog w (A.deeper env) (execs (fBody st) env) (fun fl s'=>R (.ok (.ret (match fl with|.ret v=>v|_=>.none))) s') { s with heap:=h1a,toks:=tk }) :
  codeAny (model prog w) A (.call (.ref f) ⟨vs,kw⟩) R s:=by
 obtain ⟨oc,od,doc,pm,an,cdv,ct,osl,hf,hcd⟩:=F
 refine codeAny_call_def (fd:=fnOf (fName st) qual (fParams st) (fBody st) (fScope st) dV kV doc pm an cdv ct) (body:=fBody st) (binds:=binds) hA.room (G.k _ _ hf) rfl G.lim (codeRec_of G.k hcd) rfl (hb _ _ _ _ _) hcell hloc (fun h1a hns hk1=>?_) hco hgen hk
 refine wpAny_noRaise (body (callEnv (fnOf (fName st) qual (fParams st) (fBody st) (fScope st) dV kV doc pm an cdv ct) s.heap.objs.size f) h1a _ ⟨⟨hk,rfl⟩,⟨hk,rfl,rfl⟩,rfl,rfl,fun y=>rfl,hA.deeper _,size_none _⟩ hk1 hns)
noncomputable def e0:Sg:=fun zz=>none
set_option maxHeartbeats 1000000 in
theorem flags_new {n:Nat} (FK:FlagsK K w C) (hA:OKA A (n+2)) (G:GK K mg mb s.heap) (m1:mg "set"=none) (b1:mb "set"=some (.type "set")) (E:VSP) :
  wpAny (model prog w) A (call (.ref C) []) (fun v s'=>∃ x dx adr h' tk,v=.ref x∧s'={ s with heap:=h',toks:=tk }∧Ext s.heap h'∧s.heap.get? x=none∧s.heap.get? dx=none∧FObj prog w C s.heap x dx adr e0 0 h') E s:=by
 obtain ⟨f,hf,ht,F⟩:=FK.init
 obtain ⟨h,g,d,t,os⟩:=s
 refine wpAny_call (make_core (makes_of G.k FK.mkI) (looks_findIn G.k hf) (fun self=>bind_fn G.k self ht) (.inl rfl) ?_)
 obtain ⟨dx,hdx⟩:∃ dx,dx=h.objs.size:=⟨_,rfl⟩
 have e1:Ext h ((h.push emptyDict).push (instObj C h.objs.size)):=Ext.trans (Ext.push _ _) (Ext.push _ _)
 refine fn_code (n:=n) (binds:=[("self",.ref (h.objs.size+1))]) F hA.make (G.ext e1) (fun doc pm an cdv ct=>.of_eq (by kernel_rfl)) (by decide +kernel) (locs (by kernel_rfl)) (by kernel_rfl) (by kernel_rfl) (by kernel_rfl) fun env h1a tk fr e1a hn=>?_
 refine hideQ fun Q hQ=>?_
 have hL:(Heap.push (h.push emptyDict) (instObj C h.objs.size)).objs.size≠0:=by rw[Heap.size_push];exact Nat.succ_ne_zero _
 generalize hH:(h.push emptyDict).push (instObj C h.objs.size)=H at e1 fr e1a hn ⊢
 have gx:H.get? (h.objs.size+1)=some (instObj C h.objs.size):=by
  rw[← hH]
  have:=Heap.get?_push_size (h.push emptyDict) (o:=instObj C h.objs.size) rfl
  rwa [Heap.size_push] at this
 have gd:H.get? h.objs.size=some emptyDict:=by rw[← hH];exact Heap.get?_push_of_some _ (Heap.get?_push_size _ rfl)
 generalize hLn:H.objs.size=L at fr hn
 let I:=fun (X:List Addr) (h':Heap)=>GK K mg mb h'∧Loc L [("self",.val (.ref (h.objs.size+1)))] X h'
 have upI:Up I:=fun X X' a b k q=>by
  rintro ⟨u,v⟩
  exact ⟨u.ext k,(v.hid q).ext k⟩
 have i1a:I [] h1a:=⟨(G.ext e1).ext e1a,loc_of hn ⟨rfl,rfl,trivial⟩⟩
 have bd:∀ h,Bd [] h:=fun h zz m=>by cases m
 have se:∀ p,EvR prog w ((A.under (.builtin "type.__call__" ⟨[.ref C],[]⟩)).deeper env) env I (.Name "self" p) (fun zz zz v=>v=.ref (h.objs.size+1)):=fun p=>ev_locv fr.le (by rw[fr.k];kernel_rfl) (fun zz zz i=>i.2) (by rfl) (by kernel_rfl)
 try dsimp only
 show NR prog w _ (execs (_::_) env) _ _
 refine xc (plainObj_wpAny_Assign_Attribute (wpAny_Dict_empty ((se _).wp (bd _) (upI.ext (Ext.push _ _) i1a) fun v s2a k2a ev=>?_)))
 subst ev
 obtain ⟨h2a,tk2,rfl,e2a⟩:=k2a
 have e2a:Ext (h1a.push { cls:=.type "dict",data:=.dict #[] }) h2a:=e2a
 have E2:Ext H h2a:=Ext.trans e1a (Ext.trans (Ext.push _ _) e2a)
 have i2a:I [] h2a:=upI.ext (Ext.trans (Ext.push _ _) e2a) i1a
 have inst:InstAt h2a (h.objs.size+1) (instObj C h.objs.size) C (some emptyDict):=⟨E2 _ _ gx,rfl,rfl,E2 _ _ gd⟩
 have d0:h2a.DictOf (strKind prog w) h1a.objs.size []:=dictOf_keep (Heap.DictOf.new (knd:=strKind prog w) h1a) fun o e=>e2a _ _ e
 refine store_own (od':=fun t=>{ cls:=.type "dict",data:=.dict #[⟨PyData.keyHash w.params "_flags",.str "_flags" t,.ref h1a.objs.size⟩] 1 }) (es:=fun t=>[⟨PyData.keyHash w.params "_flags",.str "_flags" t,.ref h1a.objs.size⟩]) (n:=1) i2a.1.k inst rfl (E2 _ _ gd) FK.sa FK.po FK.t1 FK.hd (by rfl) (fun t=>by kernel_rfl) (fun t=>rfl) (fun t=>by simp) fun h3a t tk3 o3a g3a=>?_
 have nd:h.get? h.objs.size=none:=size_none h
 have o3a:Off [h.objs.size] h2a h3a:=o3a
 have eh:Ext h h3a:=fun b o e=>o3a b o (fun m=>by rw[m_s m,nd] at e;cases e) (E2 _ _ (e1 _ _ e))
 have hLd:L≠h.objs.size:=fun q=>by rw[← q,← hLn] at gd;rw[size_none] at gd;cases gd
 have l2a:Loc L [("self",.val (.ref (h.objs.size+1)))] [h.objs.size] h2a:=(loc_of hn ⟨rfl,rfl,trivial⟩:Loc L [("self",.val (.ref (h.objs.size+1)))] [h.objs.size] h1a).ext (Ext.trans (Ext.push _ _) e2a)
 have l3a:=l2a.off o3a (fun m=>hLd (m_s m)) fun b m=>⟨m,fun o e=>by rw[m_s m,E2 _ _ gd] at e;cases e;exact not_tup_of_dict rfl⟩
 have i3a:I [] h3a:=⟨G.ext eh,l3a.hid fun y m=>by cases m⟩
 try dsimp only
 show NR prog w _ (execs (_::_) env) _ _
 refine xc (plainObj_wpAny_Assign_Attribute (call0_wp (X:=[]) upI (ev_builtin (fun zz zz i=>i.1) fr.ge (by rw[fr.k];kernel_rfl) m1 b1) keeper_type (bd _) i3a fun s4a k4a i4a=>set_new fun h5 a5a e5a n5a s5=>(se _).wp (bd _) (upI.ext e5a i4a) fun v s6 k6a ev=>?_))
 subst ev
 obtain ⟨h4a,tk4,rfl,e4a⟩:=k4a
 obtain ⟨h6a,tk6,rfl,e6a⟩:=k6a
 have e4a:Ext h3a h4a:=e4a
 have e5a:Ext h4a h5:=e5a
 have e6a:Ext h5 h6a:=e6a
 have E6:=Ext.trans e4a (Ext.trans e5a e6a)
 have i6a:I [] h6a:=upI.ext E6 i3a
 have gx3:h3a.get? (h.objs.size+1)=some (instObj C h.objs.size):=o3a _ _ (fun m=>Nat.succ_ne_self _ (m_s m)) (E2 _ _ gx)
 have inst6:InstAt h6a (h.objs.size+1) (instObj C h.objs.size) C (some { cls:=.type "dict",data:=.dict #[⟨PyData.keyHash w.params "_flags",.str "_flags" t,.ref h1a.objs.size⟩] 1 }):=⟨E6 _ _ gx3,rfl,rfl,E6 _ _ g3a⟩
 refine store_own (od':=fun u=>fobj w.params t u (.ref h1a.objs.size) (.ref a5a)) (es:=fun u=>[⟨PyData.keyHash w.params "_flags",.str "_flags" t,.ref h1a.objs.size⟩,⟨PyData.keyHash w.params "_pending_flags",.str "_pending_flags" u,.ref a5a⟩]) (n:=2) i6a.1.k inst6 rfl (E6 _ _ g3a) FK.sa FK.po FK.t2 FK.hd (by rfl) (fun u=>by kernel_rfl) (fun u=>rfl) (fun u=>by simp) fun h7a u tk7 o7 g7=>?_
 have o7:Off [h.objs.size] h6a h7a:=o7
 have ehT:Ext h h7a:=fun b o e=>o7 b o (fun m=>by rw[m_s m,nd] at e;cases e) (E6 _ _ (eh _ _ e))
 have hrd:h1a.objs.size≠h.objs.size:=fun q=>by have:=(Ext.trans e1a (Ext.refl _)) _ _ gd;rw[← q,size_none] at this;cases this
 have hrx:h1a.objs.size≠h.objs.size+1:=fun q=>by have:=(Ext.trans e1a (Ext.refl _)) _ _ gx;rw[← q,size_none] at this;cases this
 have d7:h7a.DictOf (strKind prog w) h1a.objs.size []:=dictOf_keep d0 fun o e=>o7 _ _ (fun m=>hrd (m_s m)) (E6 _ _ (o3a _ _ (fun m=>hrd (m_s m)) e))
 have lv0:∀ {p:List Str} {i:Nat},Live e0 p i→p=[]∧i=0:=fun l=>by
  rcases l with l|⟨_,b,_⟩
  ·exact l
  ·cases b
 refine wpAny_execs_nil (hQ _ _ ⟨rfl,h.objs.size+1,h.objs.size,fun zz zz=>h1a.objs.size,h7a,_,rfl,rfl,ehT,?_,nd,⟨⟨fun p l=>?_,(fun p nd hp e=>nomatch e),(fun p k hs=>nomatch hs),fun p i q j l l' zz=>?_,fun p i l=>?_⟩,⟨t,u,.ref a5a,?_,g7⟩,fun q i l=>⟨hrx,hrd⟩⟩⟩)
 ·exact Heap.get?_none_of_le (Nat.le_succ _)
 ·exact ⟨[],d7,by simp,fun k=>rfl⟩
 ·rw[(lv0 l).1,(lv0 l').1,(lv0 l).2,(lv0 l').2];exact ⟨rfl,rfl⟩
 ·exact none_before (Ext.trans e1 e1a) (size_none _)
 ·exact o7 _ _ (fun m=>Nat.succ_ne_self _ (m_s m)) (E6 _ _ gx3)
end
section
open Builtin Builtin.ObjectAttr Builtin.Getset_descriptor
section
variable {x p:Addr}
theorem slot_at {ox ox':Obj} {od:Option Obj} {i:Nat} {R:Result→Shared→Prop} (X:K.In s.heap) (I:InstAt s.heap x ox C od) (hp:slotIn K p C=some i) (hi:i<1000)
  (e:{ ox with slots:=(ox.slots++Array.replicate (i+1 - ox.slots.size) none).setIfInBounds i (some v) }=ox') (hf:ox'.isFreed=false)
  (h:∀ h',Off [x] s.heap h'→h'.get? x=some ox'→R (.ok (.ret .none)) { s with heap:=h' }) :
  codeAny (model prog w) A (.call (.builtin "member_descriptor.__set__") ⟨[.ref p,.ref x,v],[]⟩) R s:=by
 obtain ⟨n,tn,owner,behind,tb,d,sl,cd,ho,hc,hm,hb,rfl⟩:=slot_of X hp
 have hx:=I.at_
 have up:=Heap.get?_update_self (h:=s.heap) (fun o=>{ o with slots:=(o.slots++Array.replicate (cd.slotNames.length - 1 - behind.toNat+1 - o.slots.size) none).setIfInBounds (cd.slotNames.length - 1 - behind.toNat) (some v) }) hx (by rw[e];exact hf)
 rw[e] at up
 have fin:=h _ (off_update _ _ _) up
 obtain ⟨hh,g,dr,t,os⟩:=s
 have L0:=I.type (M:=model prog w)
 have L1:=looks_mroIn (M:=model prog w) X hm
 have L2:Looks (model prog w) hh (Slots.slotNamesOf (.ref C)) cd.slotNames:=(looks_clsIn X hc).andThen .now
 dsimp only at ho hx L0 L1 fin
 have f0:=looks_field (M:=model prog w) ho 0 (v:=.str n tn) rfl
 have f1:=looks_field (M:=model prog w) ho 1 (v:=owner) rfl
 have f3:=looks_field (M:=model prog w) ho 3 (v:=.builtin "proto.slot#set") rfl
 have f4:=looks_field (M:=model prog w) ho 4 (v:=.int behind tb) rfl
 refine codeAny_call_builtin KF.slot_mset.plain KF.entry_mset (KF.slot_mset.check _ _ _ _ _ _ _ _ ⟨_,ho,rfl⟩ (KF.args_mset _ _ _) ?_)
 unfold Builtin.«member_descriptor.__set__» descrSet descrStoreThrough descrCheckInstance descrNameAndClass isInstance
 have f5:Looks (model prog w) hh (descrItself (.ref p)) [.ref p]:=((Looks.ld (part:=none) ho).andThen .now).andThen (Looks.of_pure (by kernel_rfl))
 repeat lk
 refine ⟨Code.quiet_builtin _ (by decide +kernel),codeAny_builtin KF.entry_slotset ?_⟩
 unfold Builtin.«proto.slot#set» Slots.target
 repeat lk
 rw[if_neg hb]
 refine wpAny_pure (wpAny_bind ?_)
 unfold setSlotAt
 dsimp only
 rw[if_neg (by rw[sizeLine_eq];lia)]
 exact wpAny_updatePart hx (wpAny_pure fin)
end
section
variable {x p:Addr}
theorem get_slot {ox:Obj} {od:Option Obj} {name:Str} {i:Nat} {b:Bool} {Q:VSP} (X:K.In s.heap) (I':InstAt s.heap x ox C od) (hga:findIn K (.ref C) "__getattribute__"=some (some (.builtin "object.__getattribute__")))
  (hf:findObj K C od name=some (.bind (.builtin "member_descriptor.__get__") (.ref p))) (hk:findIn K (.ref C) "__getattr__"=some none) (hp:slotIn K p C=some i) (hv:(ox.slots[i]?).join=some v) (hh:handedIn v=true) (q:Q v { s with toks:=s.toks+1 }) :
  wpAny (model prog w) A (getAttr (.ref x) name b) Q E s :=
 get_bind X I' hga hf hk (wpAny_call (slot_get (s:={ s with toks:=s.toks+1 }) X I' hp hv (by dsimp only;rw[handedOut_of hh];exact wpAny_pure q)))
end
end
section
open Builtin Builtin.ObjectAttr Builtin.Getset_descriptor
noncomputable abbrev nobj (C dx:Addr) (sl:Array (Option Value)):Obj:={ cls:=.ref C,dict:=some dx,data:=.plain,slots:=sl }
noncomputable def SlotK (K:Frag) (C:Addr) (name:Str) (i:Nat):Prop:=∃ p,slotIn K p C=some i∧takerIn K C name=some (some (.ref p))∧typeIn K (.ref p)=some (.type "member_descriptor") ∧
 findObj K C (some emptyDict) name=some (.bind (.builtin "member_descriptor.__get__") (.ref p))
structure NodeK (K:Frag) (C:Addr):Prop where
 ga:findIn K (.ref C) "__getattribute__"=some (some (.builtin "object.__getattribute__"))
 gk:findIn K (.ref C) "__getattr__"=some none
 sa:findIn K (.ref C) "__setattr__"=some (some (.builtin "object.__setattr__"))
 po:plainOver K C=true
 mkI:makesIn K C=true
 init:∃ f,findIn K (.ref C) "__init__"=some (some (.ref f))∧typeIn K (.ref f)=some (.type "function")∧FnK K f "_NodeInfo.__init__" (inS (topS 13) 1) .none .none
 f0:SlotK K C "node" 0
 f1:SlotK K C "npredecessors" 1
 f2:SlotK K C "successors" 2
section
variable {x:Addr}
theorem store_slot {sl sl':Array (Option Value)} {name:Str} {i:Nat} {Q:Unit→Shared→Prop} (NK:NodeK K C) (S:SlotK K C name i) (hi:i<1000) (X:K.In s.heap) (hx:s.heap.get? x=some (nobj C dx sl)) (hd:s.heap.get? dx=some emptyDict)
  (e:(sl++Array.replicate (i+1 - sl.size) none).setIfInBounds i (some v)=sl') (h:∀ h' tk,Off [x] s.heap h'→h'.get? x=some (nobj C dx sl')→Q () { s with heap:=h',toks:=tk }) :
  wpAny (model prog w) A (setAttr (.ref x) name v) Q E s:=by
 obtain ⟨p,h1,h2,h3,_⟩:=S
 have I:InstAt s.heap x (nobj C dx sl) C (some emptyDict):=⟨hx,rfl,rfl,hd⟩
 exact set_plain X I NK.sa (osa_descr (s:={ s with toks:=s.toks+1 }) KF.slot_mset X I NK.po h2 h3 (slot_at (s:={ s with toks:=s.toks+1 }) X I h1 hi (by rw[← e]) rfl fun h' o g=>h h' _ o g))
theorem read_slot {sl:Array (Option Value)} {name:Str} {i:Nat} {b:Bool} {Q:VSP} (NK:NodeK K C) (S:SlotK K C name i) (X:K.In s.heap) (hx:s.heap.get? x=some (nobj C dx sl)) (hd:s.heap.get? dx=some emptyDict)
  (hv:(sl[i]?).join=some v) (hh:handedIn v=true) (q:Q v { s with toks:=s.toks+1 }):wpAny (model prog w) A (getAttr (.ref x) name b) Q E s:=by
 obtain ⟨p,h1,_,_,h4⟩:=S
 have I:InstAt s.heap x (nobj C dx sl) C (some emptyDict):=⟨hx,rfl,rfl,hd⟩
 exact get_slot X I NK.ga h4 NK.gk h1 hv hh q
set_option maxHeartbeats 1000000 in
theorem node_new {n:Nat} {i:Int} {t:Tok} (NK:NodeK K C) (hA:OKA A (n+2)) (G:GK K mg mb s.heap) (E:VSP) :
  wpAny (model prog w) A (call (.ref C) [.int i t]) (fun v s'=>∃ x dx li t1 h' tk,v=.ref x∧s'={ s with heap:=h',toks:=tk }∧Ext s.heap h'∧s.heap.get? x=none∧s.heap.get? dx=none∧s.heap.get? li=none ∧
   h'.get? x=some (nobj C dx #[some (.int i t),some (.int 0 t1),some (.ref li)])∧h'.get? dx=some emptyDict∧Lst h' li #[]) E s:=by
 obtain ⟨f,hf,ht,F⟩:=NK.init
 obtain ⟨h,g,d,tk0,os⟩:=s
 refine wpAny_call (make_core (makes_of G.k NK.mkI) (looks_findIn G.k hf) (fun self=>bind_fn G.k self ht) (.inl rfl) ?_)
 have e1:Ext h ((h.push emptyDict).push (instObj C h.objs.size)):=Ext.trans (Ext.push _ _) (Ext.push _ _)
 refine fn_code (n:=n) (binds:=[("self",.ref (h.objs.size+1)),("node",.int i t)]) F hA.make (G.ext e1) (fun doc pm an cdv ct=>.of_eq (by kernel_rfl)) (by decide +kernel) (locs (by kernel_rfl)) (by kernel_rfl) (by kernel_rfl) (by kernel_rfl) fun env h1a tk fr e1a hn=>?_
 generalize hH:(h.push emptyDict).push (instObj C h.objs.size)=H at e1 fr e1a hn ⊢
 have gx:H.get? (h.objs.size+1)=some (nobj C h.objs.size #[]):=by
  rw[← hH]
  have:=Heap.get?_push_size (h.push emptyDict) (o:=instObj C h.objs.size) rfl
  rwa [Heap.size_push] at this
 have gd:H.get? h.objs.size=some emptyDict:=by rw[← hH];exact Heap.get?_push_of_some _ (Heap.get?_push_size _ rfl)
 have nx:h.get? (h.objs.size+1)=none:=Heap.get?_none_of_le (Nat.le_succ _)
 have nd:h.get? h.objs.size=none:=size_none _
 generalize h.objs.size+1=x at gx nx hn ⊢
 generalize h.objs.size=dx at gx gd nd fr hn ⊢
 generalize hLn:H.objs.size=L at fr hn
 have nL:H.get? L=none:=by rw[← hLn];exact size_none _
 have hLx:L≠x:=fun q=>by rw[q,gx] at nL;cases nL
 have hxd:dx≠x:=fun q=>by rw[q,gx] at gd;cases gd
 let I:=fun (X:List Addr) (h':Heap)=>GK K mg mb h'∧Loc L [("node",.val (.int i t)),("self",.val (.ref x))] X h'
 have upI:Up I:=fun X X' a b k q=>by
  rintro ⟨u,v⟩
  exact ⟨u.ext k,(v.hid q).ext k⟩
 have i1a:I [x] h1a:=⟨(G.ext e1).ext e1a,loc_of hn ⟨rfl,rfl,rfl,rfl,trivial⟩⟩
 have se:∀ p,EvR prog w ((A.under (.builtin "type.__call__" ⟨[.ref C,.int i t],[]⟩)).deeper env) env I (.Name "self" p) (fun zz zz v=>v=.ref x):=fun p=>ev_locv fr.le (by rw[fr.k];kernel_rfl) (fun zz zz i=>i.2) (by rfl) (by kernel_rfl)
 have sn:∀ p,EvR prog w ((A.under (.builtin "type.__call__" ⟨[.ref C,.int i t],[]⟩)).deeper env) env I (.Name "node" p) (fun zz zz v=>v=.int i t):=fun p=>ev_locv fr.le (by rw[fr.k];kernel_rfl) (fun zz zz i=>i.2) (by rfl) (by kernel_rfl)
 have step:∀ {ha hb:Heap} {sl:Array (Option Value)},I [x] ha→Ext h ha→ha.get? dx=some emptyDict→Off [x] ha hb→ha.get? x=some (nobj C dx sl)→Ext h hb∧hb.get? dx=some emptyDict∧I [x] hb:=fun i0a e d o g=>by
  have e':Ext h _:=fun b ob eb=>o b ob (fun m=>by have q:=m_s m;subst q;rw[nx] at eb;cases eb) (e _ _ eb)
  exact ⟨e',o _ _ (fun m=>hxd (m_s m)) d,G.ext e',i0a.2.off o (fun m=>hLx (m_s m)) fun b m=>⟨m,fun ob eb=>by have q:=m_s m;subst q;rw[g] at eb;cases eb;intro ⟨c,_⟩;cases c⟩⟩
 have bx:∀ {ha:Heap} {sl:Array (Option Value)},ha.get? x=some (nobj C dx sl)→Bd [x] ha:=fun g b m=>by have q:=m_s m;rw[q];exact ⟨_,g⟩
 have E1:Ext h h1a:=Ext.trans e1 e1a
 have gx1:=e1a _ _ gx
 have gd1:=e1a _ _ gd
 refine hideQ fun Q1 hQ1=>?_
 try dsimp only
 show NR prog w _ (execs (_::_) env) _ _
 refine xc (plainObj_wpAny_Assign_Attribute ((sn _).wp (bx gx1) i1a fun u s2a k2a eu=>(se _).wp ((bx gx1).ext (kp_ext k2a)) (upI.ext (kp_ext k2a) i1a) fun v s3a k3a ev=>?_))
 subst eu ev
 obtain ⟨h2a,tk2,rfl,e2a⟩:=kp_trans k2a k3a
 have e2a:Ext h1a h2a:=e2a
 have i2a:=upI.ext e2a i1a
 refine store_slot (sl':=#[some (.int i t)]) NK NK.f0 (by decide) i2a.1.k (e2a _ _ gx1) (e2a _ _ gd1) (by kernel_rfl) fun h3a tk3 o3a g3a=>?_
 have o3a:Off [x] h2a h3a:=o3a
 obtain ⟨E3,d3,i3a⟩:=step i2a (Ext.trans E1 e2a) (e2a _ _ gd1) o3a (e2a _ _ gx1)
 try dsimp only
 show NR prog w _ (execs (_::_) env) _ _
 refine xc (plainObj_wpAny_Assign_Attribute ((EvR.int ev_int).wp (bx g3a) i3a fun u s4a k4a eu=>(se _).wp ((bx g3a).ext (kp_ext k4a)) (upI.ext (kp_ext k4a) i3a) fun v s5a k5a ev=>?_))
 obtain ⟨t1,rfl⟩:=eu
 subst ev
 obtain ⟨h5,tk5,rfl,e5a⟩:=kp_trans k4a k5a
 have e5a:Ext h3a h5:=e5a
 have i5a:=upI.ext e5a i3a
 refine store_slot (sl':=#[some (.int i t),some (.int 0 t1)]) NK NK.f1 (by decide) i5a.1.k (e5a _ _ g3a) (e5a _ _ d3) (by kernel_rfl) fun h6a tk6 o6 g6=>?_
 have o6:Off [x] h5 h6a:=o6
 obtain ⟨E6,d6,i6a⟩:=step i5a (Ext.trans E3 e5a) (e5a _ _ d3) o6 (e5a _ _ g3a)
 try dsimp only
 show NR prog w _ (execs (_::_) env) _ _
 refine xc (plainObj_wpAny_Assign_Attribute (wpAny_List (wpAny_items_nil ⟨by rw[sizeLine_eq];exact Nat.zero_le _,(se _).wp ((bx g6).ext (Ext.push _ _)) (upI.ext (Ext.push _ _) i6a) fun v s7 k7 ev=>?_⟩)))
 subst ev
 obtain ⟨h7a,tk7,rfl,e7a⟩:=k7
 obtain ⟨li,hli⟩:∃ li,li=h6a.objs.size:=⟨_,rfl⟩
 have e7a:Ext (h6a.push { cls:=.type "list",data:=.seq ([]:List Value).toArray }) h7a:=e7a
 have nli:h6a.get? li=none:=hli▸size_none _
 have l7:Lst h7a li #[]:=⟨0,e7a _ _ (hli▸Heap.get?_push_size _ rfl)⟩
 have E7:Ext h6a h7a:=Ext.trans (Ext.push _ _) e7a
 have i7:=upI.ext E7 i6a
 have hlx:li≠x:=fun q=>by rw[q,g6] at nli;cases nli
 refine store_slot (v:=.ref h6a.objs.size) (sl':=#[some (.int i t),some (.int 0 t1),some (.ref h6a.objs.size)]) NK NK.f2 (by decide) i7.1.k (E7 _ _ g6) (E7 _ _ d6) (by kernel_rfl) fun h8a tk8 o8 g8=>?_
 rw[← hli] at g8
 have o8:Off [x] h7a h8a:=o8
 obtain ⟨E8,d8,i8⟩:=step i7 (Ext.trans E6 E7) (E7 _ _ d6) o8 (E7 _ _ g6)
 exact wpAny_execs_nil (hQ1 _ _ ⟨rfl,x,dx,li,t1,h8a,_,rfl,rfl,E8,nx,nd,none_before E6 nli,g8,d8,l7.off o8 fun m=>hlx (m_s m)⟩)
end
end
structure Srt where
 ns:List Int
 np:Int→Int
 su:Int→List Int
 rd:Option (List Int)
 po:Int
 fi:Int
inductive Pl
 | x|dx|D|rl
 | nd (n:Int) (j:Nat)
noncomputable def Lv (σ:Srt):Pl→Prop
 | .x|.dx|.D=>True
 | .rl=>σ.rd.isSome=true
 | .nd n j=>n∈σ.ns∧j<3
noncomputable def sobj (P:Params) (t1 t2 t3 t4:Tok) (u1 u2 u3 u4:Value):Obj:={ cls:=.type "dict",data:=.dict #[⟨PyData.keyHash P "_node2info",.str "_node2info" t1,u1⟩,⟨PyData.keyHash P "_ready_nodes",.str "_ready_nodes" t2,u2⟩,⟨PyData.keyHash P "_npassedout",.str "_npassedout" t3,u3⟩,⟨PyData.keyHash P "_nfinished",.str "_nfinished" t4,u4⟩] 4 }
noncomputable def rdV (σ:Srt) (adr:Pl→Addr):Value:=if σ.rd.isSome then .ref (adr .rl) else .none
noncomputable def IntL (h:Heap) (a:Addr) (l:List Int):Prop:=∃ vs,Lst h a vs∧IntsAre vs.toList l
noncomputable def SAt (prog:Program) (w:World) (CN CS:Addr) (σ:Srt) (adr:Pl→Addr) (h:Heap):Pl→Prop
 | .x=>h.get? (adr .x)=some (instObj CS (adr .dx))
 | .dx=>∃ t1 t2 t3 t4 p q,h.get? (adr .dx)=some (sobj w.params t1 t2 t3 t4 (.ref (adr .D)) (rdV σ adr) (.int σ.po p) (.int σ.fi q))
 | .D=>h.DictOf (intKind prog w) (adr .D) (σ.ns.map fun n=>(n,.ref (adr (.nd n 0))))
 | .rl=>∀ l,σ.rd=some l→IntL h (adr .rl) l
 | .nd n 0=>∃ t p,h.get? (adr (.nd n 0))=some (nobj CN (adr (.nd n 1)) #[some (.int n t),some (.int (σ.np n) p),some (.ref (adr (.nd n 2)))])
 | .nd n 1=>h.get? (adr (.nd n 1))=some emptyDict
 | .nd n _=>IntL h (adr (.nd n 2)) (σ.su n)
structure SRep (prog:Program) (w:World) (CN CS:Addr) (hb h:Heap) (adr:Pl→Addr) (σ:Srt):Prop where
 at_:∀ p,Lv σ p→SAt prog w CN CS σ adr h p
 inj:∀ p q,Lv σ p→Lv σ q→adr p=adr q→p=q
 new:∀ p,Lv σ p→hb.get? (adr p)=none
section
variable {adr adr':Pl→Addr} {σ σ':Srt}
theorem IntL.keep {l:List Int} (x:IntL h a l) (k:∀ o,h.get? a=some o→h'.get? a=some o):IntL h' a l:=by obtain ⟨vs,⟨n,e⟩,i⟩:=x;exact ⟨vs,⟨n,k _ e⟩,i⟩
theorem IntL.nt {l:List Int} (x:IntL h a l):NT h a:=by obtain ⟨vs,e,i⟩:=x;exact e.nt
theorem plF {σ:Srt} {motive:(p:Pl)→Lv σ p→Prop} (x:motive .x trivial) (dx:motive .dx trivial) (D:motive .D trivial) (rl:∀ l,motive .rl l) (nd:∀ n j l,motive (.nd n j) l) (p:Pl) (l:Lv σ p):motive p l:=by
 cases p with
 | x=>exact x
 | dx=>exact dx
 | D=>exact D
 | rl=>exact rl l
 | nd n j=>exact nd n j l
theorem plE {σ:Srt} {motive:(p:Pl)→Lv σ p→Prop} (x:motive .x trivial) (dx:motive .dx trivial) (D:motive .D trivial) (rl:∀ l,motive .rl l) (n0:∀ n l,motive (.nd n 0) l) (n1:∀ n l,motive (.nd n 1) l) (n2:∀ n l,motive (.nd n 2) l) (p:Pl) (l:Lv σ p):motive p l:=by
 cases p,l using plF with
 | x=>exact x
 | dx=>exact dx
 | D=>exact D
 | rl l=>exact rl l
 | nd n j l =>
  cases j with
  | zero=>exact n0 n l
  | succ j =>
   cases j with
   | zero=>exact n1 n l
   | succ j =>
    cases j with
    | zero=>exact n2 n l
    | succ j=>exact absurd l.2 (by lia)
theorem SAt.keep {p:Pl} (l:Lv σ p) (x:SAt prog w CN CS σ adr h p) (k:∀ o,h.get? (adr p)=some o→h'.get? (adr p)=some o):SAt prog w CN CS σ adr h' p:=by
 cases p,l using plE with
 | x=>exact k _ x
 | dx=>obtain ⟨t1,t2,t3,t4,p,q,e⟩:=x;exact ⟨t1,t2,t3,t4,p,q,k _ e⟩
 | D=>exact dictOf_keep (show Heap.DictOf _ _ _ _ from x) k
 | rl _=>exact fun l e=>(x l e).keep k
 | n0 n _=>obtain ⟨t,p,e⟩:=x;exact ⟨t,p,k _ e⟩
 | n1 n _=>exact k _ x
 | n2 n _=>exact (show IntL _ _ _ from x).keep k
theorem SAt.nt {p:Pl} (l:Lv σ p) (x:SAt prog w CN CS σ adr h p):NT h (adr p):=by
 cases p,l using plE with
 | x=>exact ⟨_,x,by
  rintro ⟨e,_⟩
  cases e⟩
 | dx=>obtain ⟨t1,t2,t3,t4,p,q,e⟩:=x;exact ⟨_,e,not_tup_of_dict rfl⟩
 | D=>obtain ⟨o,es,ep,e,_,d,_⟩:=(show Heap.DictOf _ _ _ _ from x);exact ⟨o,e,not_tup_of_dict d⟩
 | rl l =>
  obtain ⟨r,e⟩:=Option.isSome_iff_exists.mp l
  exact (x r e).nt
 | n0 n _=>obtain ⟨t,p,e⟩:=x;exact ⟨_,e,by
  rintro ⟨e,_⟩
  cases e⟩
 | n1 n _=>exact ⟨_,x,not_tup_of_dict rfl⟩
 | n2 n _=>exact (show IntL _ _ _ from x).nt
theorem SRep.there (r:SRep prog w CN CS hb h adr σ) {p:Pl} (l:Lv σ p):NT h (adr p):=(r.at_ p l).nt l
theorem SRep.ext (r:SRep prog w CN CS hb h adr σ) (k:Ext h h'):SRep prog w CN CS hb h' adr σ:=⟨fun p l=>(r.at_ p l).keep l fun o e=>k _ _ e,r.inj,r.new⟩
theorem SRep.off {M:List Addr} (r:SRep prog w CN CS hb h adr σ) (k:Off M h h') (hM:∀ p,Lv σ p→adr p∉M):SRep prog w CN CS hb h' adr σ:=⟨fun p l=>(r.at_ p l).keep l fun o e=>k _ _ (hM p l) e,r.inj,r.new⟩
noncomputable def OffS (adr:Pl→Addr) (σ:Srt) (h h':Heap):Prop:=∀ b o,h.get? b=some o→(∀ p,Lv σ p→adr p≠b)→h'.get? b=some o
noncomputable def GrownS (adr adr':Pl→Addr) (σ σ':Srt) (h:Heap):Prop:=(∀ p,Lv σ p→Lv σ' p∧adr' p=adr p)∧∀ p,Lv σ' p→Lv σ p∨h.get? (adr' p)=none
theorem GrownS.refl:GrownS adr adr σ σ h:=⟨fun p l=>⟨l,rfl⟩,fun p l=>.inl l⟩
theorem GrownS.same (e:∀ p,Lv σ' p↔Lv σ p):GrownS adr adr σ σ' h:=⟨fun p l=>⟨(e p).mpr l,rfl⟩,fun p l=>.inl ((e p).mp l)⟩
theorem SRep.step {M:List Addr} (r:SRep prog w CN CS hb h adr σ) (p:Pl) (lp:Lv σ p) (e:Ext h h1a) (hbe:Ext hb h) (o:Off [adr p] h1a h')
  (g:GrownS adr adr' σ σ' h) (old:∀ q,Lv σ q→q≠p→SAt prog w CN CS σ adr h' q→SAt prog w CN CS σ' adr' h' q) (atp:SAt prog w CN CS σ' adr' h' p)
  (new:∀ q,Lv σ' q→Lv σ q∨SAt prog w CN CS σ' adr' h' q) (inj:∀ q q',Lv σ' q→Lv σ' q'→¬ Lv σ q→¬ Lv σ q'→adr' q=adr' q'→q=q'):SRep prog w CN CS hb h' adr' σ' where
 at_:=fun q l=>by
  rcases new q l with l'|l'
  ·by_cases z:q=p
   ·subst z;exact atp
   ·exact old q l' z (((r.at_ q l').keep l' fun ob eb=>e _ _ eb).keep l' fun ob eb=>o _ _ (fun m=>z (r.inj _ _ l' lp (m_s m))) eb)
  ·exact l'
 inj:=fun q q' l l' z=>by
  by_cases a:Lv σ q
  ·by_cases b:Lv σ q'
   ·exact r.inj _ _ a b (by rw[← (g.1 _ a).2,← (g.1 _ b).2,z])
   ·rcases g.2 q' l' with c|c
    ·exact absurd c b
    ·obtain ⟨ob,eb,_⟩:=r.there a
     rw[← z,(g.1 _ a).2,eb] at c;cases c
  ·by_cases b:Lv σ q'
   ·rcases g.2 q l with c|c
    ·exact absurd c a
    ·obtain ⟨ob,eb,_⟩:=r.there b
     rw[z,(g.1 _ b).2,eb] at c;cases c
   ·exact inj _ _ l l' a b z
 new:=fun q l=>by
  rcases g.2 q l with c|c
  ·rw[(g.1 _ c).2];exact r.new _ c
  ·exact none_before hbe c
noncomputable def RS (prog:Program) (w:World) (CN CS:Addr) (hb:Heap) (L:Addr) (adr:Pl→Addr) (σ:Srt) (X:List Addr) (h:Heap):Prop:=SRep prog w CN CS hb h adr σ∧∀ p,Lv σ p→adr p≠L
theorem rest_rs:Rest L (RS prog w CN CS hb L adr σ):=⟨fun X X' h h' k _=>by
 rintro ⟨a,b⟩
 exact ⟨a.ext k,b⟩,fun X h h'=>by
  rintro ⟨a,b⟩ _ _ k
  exact ⟨a.off k fun p l m=>b p l (m_s m),b⟩⟩
end
structure MethK (K:Frag) (w:World) (C:Addr) (name:Str) (qual:Str) (i:Nat) (f:Addr):Prop where
 find:findIn K (.ref C) name=some (some (.ref f))
 typ:typeIn K (.ref f)=some (.type "function")
 fn:FnK K f qual (inS (topS 15) i) .none .none
 keep:keepIn K (.ref f)=true
 fi:fnIn K f=true
 sh:∀ t1 t2 t3 t4 u1 u2 u3 u4,shadowIn (some (sobj w.params t1 t2 t3 t4 u1 u2 u3 u4)) name=some false
 bd:∀ t1 t2 t3 t4 u1 u2 u3 u4,findObj K C (some (sobj w.params t1 t2 t3 t4 u1 u2 u3 u4)) name=some (.bind (.builtin "function.__get__") (.ref f))
structure SortK (K:Frag) (w:World) (C:Addr):Prop where
 ga:findIn K (.ref C) "__getattribute__"=some (some (.builtin "object.__getattribute__"))
 gk:findIn K (.ref C) "__getattr__"=some none
 sa:findIn K (.ref C) "__setattr__"=some (some (.builtin "object.__setattr__"))
 po:plainOver K C=true
 hd:(clsIn K C).any (·.hasDict)=true
 k1:takerIn K C "_node2info"=some none
 k2:takerIn K C "_ready_nodes"=some none
 k3:takerIn K C "_npassedout"=some none
 k4:takerIn K C "_nfinished"=some none
 mkI:makesIn K C=true
 a1:∀ t1 t2 t3 t4 u1 u2 u3 u4,handedIn u1=true→findObj K C (some (sobj w.params t1 t2 t3 t4 u1 u2 u3 u4)) "_node2info"=some (.value u1)
 a2:∀ t1 t2 t3 t4 u1 u2 u3 u4,handedIn u2=true→findObj K C (some (sobj w.params t1 t2 t3 t4 u1 u2 u3 u4)) "_ready_nodes"=some (.value u2)
 a3:∀ t1 t2 t3 t4 u1 u2 u3 u4,handedIn u3=true→findObj K C (some (sobj w.params t1 t2 t3 t4 u1 u2 u3 u4)) "_npassedout"=some (.value u3)
 a4:∀ t1 t2 t3 t4 u1 u2 u3 u4,handedIn u4=true→findObj K C (some (sobj w.params t1 t2 t3 t4 u1 u2 u3 u4)) "_nfinished"=some (.value u4)
 init:∃ f T,findIn K (.ref C) "__init__"=some (some (.ref f))∧typeIn K (.ref f)=some (.type "function")∧FnK K f "TopologicalSorter.__init__" (inS (topS 15) 0) (.ref T) .none∧∃ oc od osl m,K.lookup T=some ⟨oc,od,.seq #[.none] m,osl⟩
 info:∃ f,MethK K w C "_get_nodeinfo" "TopologicalSorter._get_nodeinfo" 1 f
 add:∃ f,MethK K w C "add" "TopologicalSorter.add" 2 f
 prep:∃ f,MethK K w C "prepare" "TopologicalSorter.prepare" 3 f
 ready:∃ f,MethK K w C "get_ready" "TopologicalSorter.get_ready" 4 f
 active:∃ f,MethK K w C "is_active" "TopologicalSorter.is_active" 5 f
 done:∃ f,MethK K w C "done" "TopologicalSorter.done" 7 f
 cyc:∃ f,MethK K w C "_find_cycle" "TopologicalSorter._find_cycle" 8 f
 sys:∃ o,K.lookup sysModules=some o
section
variable {adr:Pl→Addr} {σ:Srt}
theorem SRep.inst (r:SRep prog w CN CS hb h adr σ):∃ t1 t2 t3 t4 p q,InstAt h (adr .x) (instObj CS (adr .dx)) CS (some (sobj w.params t1 t2 t3 t4 (.ref (adr .D)) (rdV σ adr) (.int σ.po p) (.int σ.fi q))):=by
 obtain ⟨t1,t2,t3,t4,p,q,e⟩:=r.at_ .dx trivial
 exact ⟨t1,t2,t3,t4,p,q,r.at_ .x trivial,rfl,rfl,e⟩
theorem rdV_handed:handedIn (rdV σ adr)=true:=by unfold rdV;split <;> rfl
theorem ev_own {y:Expr} {attr:Str} {pos:Pos} {R:Value→Prop} (SK:SortK K w CS) (up:Up I) (hn:EvR prog w A env I y (fun zz zz v=>v=.ref (adr .x))) (hK:∀ X h,I X h→K.In h) (hR:∀ X h,I X h→SRep prog w CN CS hb h adr σ)
  (ha:∀ t1 t2 t3 t4 p q,∃ u,findObj K CS (some (sobj w.params t1 t2 t3 t4 (.ref (adr .D)) (rdV σ adr) (.int σ.po p) (.int σ.fi q))) attr=some (.value u)∧handedIn u=true∧R u)
  (hbase:attributeBase y attr env (eval y env)=eval y env:=by rfl) (ht:∀ o r,letTemporaryGo y o r=pure ():=by intro _ _;rfl) :
  EvR prog w A env I (.Attribute y attr pos) (fun zz zz v=>R v):=fun s E X hX hI=>by
 rw[arm_eval_Attribute,hbase]
 refine wpAny_bind (hn.wp hX hI fun v s1a k1a ev=>?_)
 subst ev
 have i1a:=up.ext (kp_ext k1a) hI
 obtain ⟨t1,t2,t3,t4,p,q,I'⟩:=(hR _ _ i1a).inst
 obtain ⟨u,e,hu,r⟩:=ha t1 t2 t3 t4 p q
 exact wpAny_bind (wpAny_standAt (wpAny_bind (wpAny_holding (get_value (hK _ _ i1a) I' SK.ga e hu (wpAny_bind (wpAny_of_eq (ht _ _) (wpAny_pure ⟨kp_trans k1a (kp_tok _ _),r⟩)))))))
theorem ev_n2i {y:Expr} {pos:Pos} (SK:SortK K w CS) (up:Up I) (hn:EvR prog w A env I y (fun zz zz v=>v=.ref (adr .x))) (hK:∀ X h,I X h→K.In h) (hR:∀ X h,I X h→SRep prog w CN CS hb h adr σ)
  (hbase:attributeBase y "_node2info" env (eval y env)=eval y env:=by rfl) (ht:∀ o r,letTemporaryGo y o r=pure ():=by intro _ _;rfl):EvR prog w A env I (.Attribute y "_node2info" pos) (fun zz zz v=>v=.ref (adr .D)) :=
 ev_own (hbase:=hbase) (ht:=ht) SK up hn hK hR fun t1 t2 t3 t4 p q=>⟨_,SK.a1 _ _ _ _ _ _ _ _ rfl,rfl,rfl⟩
theorem ev_rd {y:Expr} {pos:Pos} (SK:SortK K w CS) (up:Up I) (hn:EvR prog w A env I y (fun zz zz v=>v=.ref (adr .x))) (hK:∀ X h,I X h→K.In h) (hR:∀ X h,I X h→SRep prog w CN CS hb h adr σ)
  (hbase:attributeBase y "_ready_nodes" env (eval y env)=eval y env:=by rfl) (ht:∀ o r,letTemporaryGo y o r=pure ():=by intro _ _;rfl):EvR prog w A env I (.Attribute y "_ready_nodes" pos) (fun zz zz v=>v=rdV σ adr) :=
 ev_own (hbase:=hbase) (ht:=ht) SK up hn hK hR fun t1 t2 t3 t4 p q=>⟨_,SK.a2 _ _ _ _ _ _ _ _ rdV_handed,rdV_handed,rfl⟩
theorem ev_po {y:Expr} {pos:Pos} (SK:SortK K w CS) (up:Up I) (hn:EvR prog w A env I y (fun zz zz v=>v=.ref (adr .x))) (hK:∀ X h,I X h→K.In h) (hR:∀ X h,I X h→SRep prog w CN CS hb h adr σ)
  (hbase:attributeBase y "_npassedout" env (eval y env)=eval y env:=by rfl) (ht:∀ o r,letTemporaryGo y o r=pure ():=by intro _ _;rfl):EvR prog w A env I (.Attribute y "_npassedout" pos) (fun zz zz v=>IsI σ.po v) :=
 ev_own (hbase:=hbase) (ht:=ht) SK up hn hK hR fun t1 t2 t3 t4 p q=>⟨_,SK.a3 _ _ _ _ _ _ _ _ rfl,rfl,_,rfl⟩
theorem ev_fi {y:Expr} {pos:Pos} (SK:SortK K w CS) (up:Up I) (hn:EvR prog w A env I y (fun zz zz v=>v=.ref (adr .x))) (hK:∀ X h,I X h→K.In h) (hR:∀ X h,I X h→SRep prog w CN CS hb h adr σ)
  (hbase:attributeBase y "_nfinished" env (eval y env)=eval y env:=by rfl) (ht:∀ o r,letTemporaryGo y o r=pure ():=by intro _ _;rfl):EvR prog w A env I (.Attribute y "_nfinished" pos) (fun zz zz v=>IsI σ.fi v) :=
 ev_own (hbase:=hbase) (ht:=ht) SK up hn hK hR fun t1 t2 t3 t4 p q=>⟨_,SK.a4 _ _ _ _ _ _ _ _ rfl,rfl,_,rfl⟩
theorem SRep.turn {σ':Srt} (r:SRep prog w CN CS hb h adr σ) (p:Pl) (lp:Lv σ p) (e:Ext h h1a) (hbe:Ext hb h) (o:Off [adr p] h1a h') (lv:∀ q,Lv σ' q↔Lv σ q)
  (old:∀ q,Lv σ q→q≠p→SAt prog w CN CS σ adr h' q→SAt prog w CN CS σ' adr h' q) (atp:SAt prog w CN CS σ' adr h' p):SRep prog w CN CS hb h' adr σ' :=
 r.step (σ':=σ') (adr':=adr) (M:=[]) p lp e hbe o (GrownS.same lv) old atp (fun q l=>.inl ((lv q).mp l)) fun q q' l zz n=>absurd ((lv q).mp l) n
theorem store_po {n:Int} {tk:Tok} {Q:Unit→Shared→Prop} (SK:SortK K w CS) (X:K.In s.heap) (hbe:Ext hb s.heap) (r:SRep prog w CN CS hb s.heap adr σ)
  (q:∀ h' tk,Off [adr .dx] s.heap h'→SRep prog w CN CS hb h' adr { σ with po:=n }→Q () { s with heap:=h',toks:=tk }):wpAny (model prog w) A (setAttr (.ref (adr .x)) "_npassedout" (.int n tk)) Q E s:=by
 obtain ⟨t1,t2,t3,t4,p,q',e⟩:=r.at_ .dx trivial
 have I:InstAt s.heap (adr .x) (instObj CS (adr .dx)) CS (some (sobj w.params t1 t2 t3 t4 (.ref (adr .D)) (rdV σ adr) (.int σ.po p) (.int σ.fi q'))):=⟨r.at_ .x trivial,rfl,rfl,e⟩
 refine store_own (od':=fun t=>sobj w.params t1 t2 t3 t4 (.ref (adr .D)) (rdV σ adr) (.int n tk) (.int σ.fi q')) (es:=fun t=>_) (n:=4) X I rfl e SK.sa SK.po SK.k3 SK.hd (by kernel_rfl) (fun t=>by kernel_rfl) (fun t=>rfl) (fun t=>by simp) fun h' t tk' o g=>?_
 refine q h' tk' o (r.turn .dx trivial (Ext.refl _) hbe o (fun q=>by cases q <;> exact Iff.rfl) (fun q l ne x=>?_) ⟨t1,t2,t3,t4,tk,q',g⟩)
 cases q,l using plE with
 | x|D|rl _|n0 n _|n1 n _|n2 n _=>exact x
 | dx=>exact absurd rfl ne
theorem store_fi {n:Int} {tk:Tok} {Q:Unit→Shared→Prop} (SK:SortK K w CS) (X:K.In s.heap) (hbe:Ext hb s.heap) (r:SRep prog w CN CS hb s.heap adr σ)
  (q:∀ h' tk,Off [adr .dx] s.heap h'→SRep prog w CN CS hb h' adr { σ with fi:=n }→Q () { s with heap:=h',toks:=tk }):wpAny (model prog w) A (setAttr (.ref (adr .x)) "_nfinished" (.int n tk)) Q E s:=by
 obtain ⟨t1,t2,t3,t4,p,q',e⟩:=r.at_ .dx trivial
 have I:InstAt s.heap (adr .x) (instObj CS (adr .dx)) CS (some (sobj w.params t1 t2 t3 t4 (.ref (adr .D)) (rdV σ adr) (.int σ.po p) (.int σ.fi q'))):=⟨r.at_ .x trivial,rfl,rfl,e⟩
 refine store_own (od':=fun t=>sobj w.params t1 t2 t3 t4 (.ref (adr .D)) (rdV σ adr) (.int σ.po p) (.int n tk)) (es:=fun t=>_) (n:=4) X I rfl e SK.sa SK.po SK.k4 SK.hd (by kernel_rfl) (fun t=>by kernel_rfl) (fun t=>rfl) (fun t=>by simp) fun h' t tk' o g=>?_
 refine q h' tk' o (r.turn .dx trivial (Ext.refl _) hbe o (fun q=>by cases q <;> exact Iff.rfl) (fun q l ne x=>?_) ⟨t1,t2,t3,t4,p,tk,g⟩)
 cases q,l using plE with
 | x|D|rl _|n0 n _|n1 n _|n2 n _=>exact x
 | dx=>exact absurd rfl ne
noncomputable def rdA (adr:Pl→Addr) (a:Addr):Pl→Addr
 | .rl=>a
 | p=>adr p
theorem store_rd {l:List Int} {Q:Unit→Shared→Prop} (SK:SortK K w CS) (X:K.In s.heap) (hbe:Ext hb h) (e1a:Ext h s.heap) (r:SRep prog w CN CS hb h adr σ) (hrd:σ.rd=none) (ha:h.get? a=none) (hl:IntL s.heap a l)
  (q:∀ h' tk,Off [adr .dx] s.heap h'→SRep prog w CN CS hb h' (rdA adr a) { σ with rd:=some l }→GrownS adr (rdA adr a) σ { σ with rd:=some l } h→Q () { s with heap:=h',toks:=tk }):wpAny (model prog w) A (setAttr (.ref (adr .x)) "_ready_nodes" (.ref a)) Q E s:=by
 obtain ⟨t1,t2,t3,t4,p,q',e⟩:=r.at_ .dx trivial
 have hdx:adr .dx≠a:=fun z=>by rw[z,ha] at e;cases e
 have I:InstAt s.heap (adr .x) (instObj CS (adr .dx)) CS (some (sobj w.params t1 t2 t3 t4 (.ref (adr .D)) (rdV σ adr) (.int σ.po p) (.int σ.fi q'))):=⟨e1a _ _ (r.at_ .x trivial),rfl,rfl,e1a _ _ e⟩
 refine store_own (od':=fun t=>sobj w.params t1 t2 t3 t4 (.ref (adr .D)) (.ref a) (.int σ.po p) (.int σ.fi q')) (es:=fun t=>_) (n:=4) X I rfl (e1a _ _ e) SK.sa SK.po SK.k2 SK.hd (by kernel_rfl) (fun t=>by kernel_rfl) (fun t=>rfl) (fun t=>by simp) fun h' t tk' o g=>?_
 have nrl:¬ Lv σ .rl:=fun z=>by rw[show Lv σ .rl=(σ.rd.isSome=true) from rfl,hrd] at z;cases z
 have gr:GrownS adr (rdA adr a) σ { σ with rd:=some l } h:=⟨fun p lp=>by
   cases p,lp using plF with
   | x|dx|D=>exact ⟨trivial,rfl⟩
   | rl l=>exact absurd l nrl
   | nd n j l=>exact ⟨l,rfl⟩,fun p lp=>by
   cases p,lp using plF with
   | x|dx|D=>exact .inl trivial
   | rl _=>exact .inr ha
   | nd n j l=>exact .inl l⟩
 refine q h' tk' o (r.step (M:=[]) .dx trivial e1a hbe o gr (fun q lq ne x=>?_) ⟨t1,t2,t3,t4,p,q',g⟩ (fun q lq=>?_) fun q q' l l' n n' z=>?_) gr
 ·cases q,lq using plE with
  | x|D|n0 n _|n1 n _|n2 n _=>exact x
  | rl l=>exact absurd l nrl
  | dx=>exact absurd rfl ne
 ·cases q,lq using plF with
  | x|dx|D=>exact .inl trivial
  | rl _=>exact .inr fun l' e'=>by cases e';exact hl.keep fun ob eb=>o _ _ (fun m=>hdx (m_s m).symm) eb
  | nd n j l=>exact .inl l
 ·cases q,l using plF with
  | x|dx|D=>exact absurd trivial n
  | nd _ _ l=>exact absurd l n
  | rl _ =>
   cases q',l' using plF with
   | x|dx|D=>exact absurd trivial n'
   | nd _ _ l=>exact absurd l n'
   | rl _=>rfl
end
section
variable {adr:Pl→Addr} {σ:Srt} {M:List Addr}
theorem Fs.turn (f:Fs K mg mb hb L ρ X h) (G:GK K mg mb hb) (fl:FlatL ρ) (k:Off M h h') (hM:∀ b∈M,hb.get? b=none∧b≠L∧NT h b):Fs K mg mb hb L ρ X' h' :=
 ((f.flat fl:Fs K mg mb hb L ρ (M++X) h).off G k fun b m=>⟨(hM b m).1,m_l _ m,(hM b m).2.1,(hM b m).2.2.mk⟩).flat fl
theorem flat_ints (ks:List Int):Flat (.tuple (ks.map .int)):=fun X X' h v a=>by
 obtain ⟨t,items,rfl,ht,r⟩:=a.tuple_inv
 refine .tuple ht ?_
 have:∀ (vs:List Value) (ks:List Int),AtAll X h vs (ks.map .int)→AtAll X' h vs (ks.map .int):=fun vs ks=>by
  induction ks generalizing vs with
  | nil=>intro a;rw[a.nil_inv];exact .nil
  | cons k ks ih =>
   intro a
   obtain ⟨v,ws,rfl,b,c⟩:=a.cons_inv
   obtain ⟨t,rfl⟩:=b.int_inv
   exact .cons (.int _ _) (ih ws c)
 exact this _ _ r
noncomputable def plsL (σ:Srt):List Pl:=.x::.dx::.D::((if σ.rd.isSome then [Pl.rl] else [])++σ.ns.flatMap fun n=>[.nd n 0,.nd n 1,.nd n 2])
theorem mem_plsL {p:Pl}:p∈plsL σ↔Lv σ p:=by
 unfold plsL
 have hnd:∀ n j,Pl.nd n j∈(σ.ns.flatMap fun n=>[Pl.nd n 0,.nd n 1,.nd n 2])↔n∈σ.ns∧j<3:=fun n j=>by
  rw[List.mem_flatMap]
  constructor
  ·rintro ⟨m,hm,e⟩
   simp at e
   rcases e with e|e|e <;> (obtain ⟨rfl,rfl⟩:=e;exact ⟨hm,by lia⟩)
  ·rintro ⟨hm,hj⟩
   refine ⟨n,hm,?_⟩
   rcases (by decide:∀ j:Nat,j<3→(j=0∨j=1∨j=2)) j hj with rfl|rfl|rfl <;> simp
 have hno:∀ p,(∀ n j,p≠Pl.nd n j)→p∉(σ.ns.flatMap fun n=>[Pl.nd n 0,.nd n 1,.nd n 2]):=fun p hp m=>by
  obtain ⟨n,_,e⟩:=List.mem_flatMap.mp m
  simp at e
  rcases e with e|e|e <;> exact hp _ _ e
 cases p with
 | x=>simp[Lv]
 | dx=>simp[Lv]
 | D=>simp[Lv]
 | rl =>
  simp only[List.mem_cons,List.mem_append,reduceCtorEq,false_or,Lv]
  constructor
  ·rintro (m|m)
   ·split at m
    ·assumption
    ·cases m
   ·exact absurd m (hno _ (by simp))
  ·intro e;exact .inl (by rw[if_pos e];exact .head _)
 | nd n j =>
  simp only[List.mem_cons,List.mem_append,reduceCtorEq,false_or,Lv]
  rw[hnd]
  constructor
  ·rintro (m|m)
   ·split at m
    ·simp at m
    ·cases m
   ·exact m
  ·exact .inr
noncomputable def ownL (adr:Pl→Addr) (σ:Srt):List Addr:=(plsL σ).map adr
theorem mem_ownL {b:Addr}:b∈ownL adr σ↔∃ p,Lv σ p∧adr p=b:=by
 unfold ownL;rw[List.mem_map];exact ⟨by
  rintro ⟨p,m,e⟩
  exact ⟨p,mem_plsL.mp m,e⟩,by
   rintro ⟨p,m,e⟩
   exact ⟨p,mem_plsL.mpr m,e⟩⟩
theorem RS.turn {σ':Srt} {adr':Pl→Addr} {p:Pl} (f:Fr2 K mg mb hb L ρ (RS prog w CN CS hb L adr σ) X h1a) (G:GK K mg mb hb) (fl:FlatL ρ) (lp:Lv σ p) (o:Off [adr p] h1a h') (r':SRep prog w CN CS hb h' adr' σ')
  (hn:∀ p,Lv σ' p→adr' p≠L):Fr2 K mg mb hb L ρ (RS prog w CN CS hb L adr' σ') X' h' :=
 ⟨f.1.turn G fl o fun b m=>by rw[m_s m];exact ⟨f.2.1.new p lp,f.2.2 p lp,f.2.1.there lp⟩,r',hn⟩
theorem RS.call {σ':Srt} {adr':Pl→Addr} (f:Fr2 K mg mb hb L ρ (RS prog w CN CS hb L adr σ) X h1a) (G:GK K mg mb hb) (fl:FlatL ρ) (o:OffS adr σ h1a h') (r':SRep prog w CN CS hb h' adr' σ') (g:GrownS adr adr' σ σ' h1a):Fr2 K mg mb hb L ρ (RS prog w CN CS hb L adr' σ') X' h' :=
 ⟨f.1.turn (M:=ownL adr σ) G fl (fun b ob n e=>o b ob e fun p l z=>n (mem_ownL.mpr ⟨p,l,z⟩)) fun b m=>by
  obtain ⟨p,l,rfl⟩:=mem_ownL.mp m
  exact ⟨f.2.1.new p l,f.2.2 p l,f.2.1.there l⟩,r',fun p l z=>by
  rcases g.2 p l with l'|l'
  ·exact f.2.2 p l' (by rw[← (g.1 p l').2];exact z)
  ·obtain ⟨ob,e,_⟩:=f.1.nt
   rw[z,e] at l';cases l'⟩
theorem for_s {α β:Type} {T:List Addr→Heap→Value→α→Prop} {target iter:Expr} {body:List Stmt} {pos:Pos} {ds:List α} {Q:FSP} (P:Nat→β→Prop) (ρ:β→List (Str×VD)) (τ:β→Srt) {ρ0a:List (Str×VD)} (b0:β)
  (st:Fr2 K mg mb hb L ρ0a (RS prog w CN CS hb L adr σ) X s.heap) (fl0a:FlatL ρ0a) (hlv:∀ b p,Lv (τ b) p↔Lv σ p) (p0:P 0 b0) (hτ:τ b0=σ) (sub:Sub ρ0a (ρ b0))
  (hsrc:Src T prog w A env (Fr2 K mg mb hb L ρ0a (RS prog w CN CS hb L adr σ)) target iter ds) (hX:Bd X s.heap) (hXs:∀ b∈L::ownL adr σ,b∈X) (G:GK K mg mb hb)
  (turn:∀ i d v h' tk X' b,ds[i]?=some d→T X' h' v d→Bd X' h'→(∀ b∈L::ownL adr σ,b∈X')→P i b→Fr2 K mg mb hb L (ρ b) (RS prog w CN CS hb L adr (τ b)) X' h' →
   NR prog w A (assign target env v) (fun zz s1a=>NR prog w A (execs body env) (fun f s2a=>(match f with
    | .next|.cont=>∃ h2a tk2 b',s2a={ s with heap:=h2a,toks:=tk2 }∧Off (L::ownL adr σ) h' h2a∧P (i+1) b'∧Fr2 K mg mb hb L (ρ b') (RS prog w CN CS hb L adr (τ b')) X' h2a
    | .brk=>Q .next s2a
    | .ret v=>Q (.ret v) s2a:Prop)) s1a) { s with heap:=h',toks:=tk })
  (done:∀ h' tk b,Bd X h'→P ds.length b→Fr2 K mg mb hb L (ρ b) (RS prog w CN CS hb L adr (τ b)) X h'→Off (L::ownL adr σ) s.heap h'→Q .next { s with heap:=h',toks:=tk })
  (hs:∀ x,foldedSetIterable iter env x=pure x:=by intro _;rfl):NR prog w A (exec (.For target iter body [] pos) env) Q s:=by
 have inM:∀ {h:Heap} {σ'},(∀ p,Lv σ' p↔Lv σ p)→SRep prog w CN CS hb h adr σ'→∀ b∈ownL adr σ,NT h b:=fun lv r b m=>by
  obtain ⟨p,l,rfl⟩:=mem_ownL.mp m
  exact r.there ((lv p).mpr l)
 refine for_loop (hs:=hs) (M:=L::ownL adr σ) (Inv:=fun i X' h=>∃ b,P i b∧Fr2 K mg mb hb L (ρ b) (RS prog w CN CS hb L adr (τ b)) X' h) hsrc hX st (fun b m=>?_) (fun h X' k q zz=>?_) ?_ ?_ (fun i d v h' tk X' hd hv hb hh sub o bpf=>?_) fun h' tk X' hb sub o bpf=>?_
 ·exact ⟨hXs b m,hX b (hXs b m)⟩
 ·have q:=up2 rest_rs _ _ _ _ k q st
  exact ⟨b0,p0,q.1.sub sub,by rw[hτ];exact q.2⟩
 ·rintro i X' h ⟨b,_,f,r,_⟩ a ha
  rcases mC ha with rfl|ha
  ·exact f.nt
  ·exact inM (hlv b) r a ha
 ·rintro i X' h h' Wr ⟨b,p,f,r,n⟩ hW k
  have hno:∀ a,(∃ o,s.heap.get? a=some o)→a∉Wr:=fun a=>by
   rintro ⟨o,e⟩ m
   rw[(hW a m).2.1] at e;cases e
  have hLW:∀ b∈Wr,b≠L:=fun b q e=>hno b (by obtain ⟨o,e',_⟩:=st.1.nt;exact ⟨o,e▸e'⟩) q
  exact ⟨b,p,f.off G k fun b q=>⟨none_before st.1.2.1 (hW b q).2.1,(hW b q).1,hLW b q,(hW b q).2.2⟩,r.off k fun p l m=>hno _ (by obtain ⟨o,e,_⟩:=st.2.1.there ((hlv b p).mp l);exact ⟨o,e⟩) m,n⟩
 ·obtain ⟨b,p,f⟩:=bpf
  refine wpAny_mono (turn i d v h' tk X' b hd hv hb (fun b m=>sub _ (hXs b m)) p f) (fun zz s1a q=>wpAny_mono q (fun fl s2a q=>?_) fun zz zz e=>e) fun zz zz e=>e
  cases fl with
  | next=>obtain ⟨h2a,tk2,b',e,o,p,f⟩:=q;exact ⟨h2a,tk2,e,o,b',p,f⟩
  | cont=>obtain ⟨h2a,tk2,b',e,o,p,f⟩:=q;exact ⟨h2a,tk2,e,o,b',p,f⟩
  | brk=>exact q
  | ret v=>exact q
 ·obtain ⟨b,p,f⟩:=bpf
  exact done h' tk b hb p (up2 rest_rs _ _ _ _ (Ext.refl _) (fun x m=>.inl (sub x m)) f) o
end
noncomputable def upd {β:Type} (f:Int→β) (i:Int) (b:β):Int→β:=fun j=>if j=i then b else f j
theorem upd_same {β:Type} {f:Int→β} {i:Int} {b:β}:upd f i b i=b:=if_pos rfl
theorem upd_other {β:Type} {f:Int→β} {i j:Int} {b:β} (h:j≠i):upd f i b j=f j:=if_neg h
section
variable {adr:Pl→Addr} {σ:Srt} {M:List Addr} {i:Int}
theorem store_np {tk:Tok} {Q:Unit→Shared→Prop} (NK:NodeK K CN) (kin:K.In s.heap) (hbe:Ext hb s.heap) (r:SRep prog w CN CS hb s.heap adr σ) (hi:i∈σ.ns)
  (q:∀ h' tk,Off [adr (.nd i 0)] s.heap h'→SRep prog w CN CS hb h' adr { σ with np:=upd σ.np i m }→Q () { s with heap:=h',toks:=tk }):wpAny (model prog w) A (setAttr (.ref (adr (.nd i 0))) "npredecessors" (.int m tk)) Q E s:=by
 have l0:Lv σ (.nd i 0):=⟨hi,by decide⟩
 obtain ⟨t,p,e⟩:=r.at_ (.nd i 0) l0
 refine store_slot (sl':=#[some (.int i t),some (.int m tk),some (.ref (adr (.nd i 2)))]) NK NK.f1 (by decide) kin e (r.at_ (.nd i 1) ⟨hi,by decide⟩) (by kernel_rfl) fun h' tk' o g=>?_
 refine q h' tk' o (r.turn (.nd i 0) l0 (Ext.refl _) hbe o (fun q=>by cases q <;> exact Iff.rfl) (fun q l ne x=>?_) ⟨t,tk,by show _=some (nobj CN _ #[_,some (.int (upd σ.np i m i) _),_]);rw[upd_same];exact g⟩)
 cases q,l using plE with
 | x|dx|D|rl _|n1 n _|n2 n _=>exact x
 | n0 n _ =>
  obtain ⟨t,p,e⟩:=x
  exact ⟨t,p,by show _=some (nobj CN _ #[_,some (.int (upd σ.np i m n) _),_]);rw[upd_other (fun z=>ne (by rw[z]))];exact e⟩
theorem ev_np {y:Expr} {pos:Pos} (NK:NodeK K CN) (up:Up I) (hn:EvR prog w A env I y (fun zz zz v=>v=.ref (adr (.nd i 0)))) (hK:∀ X h,I X h→K.In h) (hR:∀ X h,I X h→SRep prog w CN CS hb h adr σ) (hi:i∈σ.ns)
  (hbase:attributeBase y "npredecessors" env (eval y env)=eval y env:=by rfl) (ht:∀ o r,letTemporaryGo y o r=pure ():=by intro _ _;rfl) :
  EvR prog w A env I (.Attribute y "npredecessors" pos) (fun zz zz v=>IsI (σ.np i) v):=fun s E X hX hI=>by
 rw[arm_eval_Attribute,hbase]
 refine wpAny_bind (hn.wp hX hI fun v s1a k1a ev=>?_)
 subst ev
 have i1a:=up.ext (kp_ext k1a) hI
 obtain ⟨t,p,e⟩:=(hR _ _ i1a).at_ (.nd i 0) ⟨hi,by decide⟩
 exact wpAny_bind (wpAny_standAt (wpAny_bind (wpAny_holding (read_slot NK NK.f1 (hK _ _ i1a) e ((hR _ _ i1a).at_ (.nd i 1) ⟨hi,by decide⟩) (v:=.int (σ.np i) p) rfl rfl (wpAny_bind (wpAny_of_eq (ht _ _) (wpAny_pure ⟨kp_trans k1a (kp_tok _ _),p,rfl⟩)))))))
theorem ev_su {y:Expr} {pos:Pos} (NK:NodeK K CN) (up:Up I) (hn:EvR prog w A env I y (fun zz zz v=>v=.ref (adr (.nd i 0)))) (hK:∀ X h,I X h→K.In h) (hR:∀ X h,I X h→SRep prog w CN CS hb h adr σ) (hi:i∈σ.ns)
  (hbase:attributeBase y "successors" env (eval y env)=eval y env:=by rfl) (ht:∀ o r,letTemporaryGo y o r=pure ():=by intro _ _;rfl) :
  EvR prog w A env I (.Attribute y "successors" pos) (fun zz zz v=>v=.ref (adr (.nd i 2))):=fun s E X hX hI=>by
 rw[arm_eval_Attribute,hbase]
 refine wpAny_bind (hn.wp hX hI fun v s1a k1a ev=>?_)
 subst ev
 have i1a:=up.ext (kp_ext k1a) hI
 obtain ⟨t,p,e⟩:=(hR _ _ i1a).at_ (.nd i 0) ⟨hi,by decide⟩
 exact wpAny_bind (wpAny_standAt (wpAny_bind (wpAny_holding (read_slot NK NK.f2 (hK _ _ i1a) e ((hR _ _ i1a).at_ (.nd i 1) ⟨hi,by decide⟩) (v:=.ref (adr (.nd i 2))) rfl rfl (wpAny_bind (wpAny_of_eq (ht _ _) (wpAny_pure ⟨kp_trans k1a (kp_tok _ _),rfl⟩)))))))
theorem ev_nd {y:Expr} {pos:Pos} (NK:NodeK K CN) (up:Up I) (hn:EvR prog w A env I y (fun zz zz v=>v=.ref (adr (.nd i 0)))) (hK:∀ X h,I X h→K.In h) (hR:∀ X h,I X h→SRep prog w CN CS hb h adr σ) (hi:i∈σ.ns)
  (hbase:attributeBase y "node" env (eval y env)=eval y env:=by rfl) (ht:∀ o r,letTemporaryGo y o r=pure ():=by intro _ _;rfl) :
  Ev prog w A env I (.Attribute y "node" pos) (.int i):=fun s E X hX hI=>by
 rw[arm_eval_Attribute,hbase]
 refine wpAny_bind (hn.wp hX hI fun v s1a k1a ev=>?_)
 subst ev
 have i1a:=up.ext (kp_ext k1a) hI
 obtain ⟨t,p,e⟩:=(hR _ _ i1a).at_ (.nd i 0) ⟨hi,by decide⟩
 exact wpAny_bind (wpAny_standAt (wpAny_bind (wpAny_holding (read_slot NK NK.f0 (hK _ _ i1a) e ((hR _ _ i1a).at_ (.nd i 1) ⟨hi,by decide⟩) (v:=.int i t) rfl rfl (wpAny_bind (wpAny_of_eq (ht _ _) (wpAny_pure ⟨kp_trans k1a (kp_tok _ _),.int _ _⟩)))))))
theorem ints_app {ws:List Value} {ns ms:List Int} (a:IntsAre vs ns) (b:IntsAre ws ms):IntsAre (vs++ws) (ns++ms):=by
 induction a with
 | nil=>exact b
 | cons i t r ih=>exact .cons i t ih
theorem ints_len {ns:List Int} (a:IntsAre vs ns):vs.length=ns.length:=by
 induction a with
 | nil=>rfl
 | cons i t r ih=>exact congrArg Nat.succ ih
theorem append_i {o e:Expr} {apos pos:Pos} {D:Addr} {l:List Int} {Q:VSP} (up:Up I) (hX:Bd X s.heap) (hI:I X s.heap)
  (ho:EvR prog w A env I o (fun zz zz v=>v=.ref D)) (he:Ev prog w A env I e (.int m)) (hl:∀ X h,I X h→IntL h D l) (hz:l.length≤1000000)
  (q:∀ h1a h' tk,Ext s.heap h1a→Off [D] h1a h'→IntL h' D (l++[m])→Q .none { s with heap:=h',toks:=tk })
  (hline:(apos.endLine == pos.line)=true:=by rfl) (hfew:((backTo pos (starEach [e] env)).all (fun x=>!x.1) && (backToKw pos (keywordEach [] env)).all (fun x=>x.1.isSome)
   && decide (([e]:List Expr).length+([]:List Keyword).length+(if ([]:List Keyword).isEmpty then 0 else 1)<30))=true:=by rfl) (htrees:backTo pos (starEach [e] env)=[(false,eval e env)]:=by rfl)
  (hbase:attributeBase o "append" env (eval o env)=eval o env:=by rfl):wpAny (model prog w) A (eval (.Call (.Attribute o "append" apos) [e] [] pos) env) Q E s:=by
 refine wpAny_Call_append hbase hfew hline htrees (ho.wp hX hI fun v s1a k1a hv=>?_)
 obtain ⟨its,⟨n,ob⟩,r⟩:=hl _ _ (up.ext (kp_ext k1a) hI)
 refine ⟨D,its,hv,⟨_,n,ob,rfl,rfl,rfl⟩,he.wp (hX.ext (kp_ext k1a)) (up.ext (kp_ext k1a) hI) fun y s2a k2a a=>?_⟩
 obtain ⟨t,rfl⟩:=a.int_inv
 have ob2a:=kp_ext k2a _ _ ob
 have hsz:its.size=l.length:=by have:=ints_len r;simpa using this
 refine append_at (hsz:=by rw[sizeLine_eq];lia) ob2a fun h' hsb ob'=>?_
 obtain ⟨h2a,tk2,rfl,e2a⟩:=kp_trans k1a k2a
 exact q h2a h' _ e2a (fun b o m e=>hsb.extBut b o (fun q=>m (q▸List.mem_singleton_self _)) e) ⟨_,⟨_,ob'⟩,by rw[Array.toList_push];exact ints_app r (.cons _ _ .nil)⟩
theorem SRep.su {l:List Int} (r:SRep prog w CN CS hb h adr σ) (hi:i∈σ.ns) (e:Ext h h1a) (hbe:Ext hb h) (o:Off [adr (.nd i 2)] h1a h') (hl:IntL h' (adr (.nd i 2)) l):SRep prog w CN CS hb h' adr { σ with su:=upd σ.su i l }:=by
 refine r.turn (.nd i 2) ⟨hi,by decide⟩ e hbe o (fun q=>by cases q <;> exact Iff.rfl) (fun q l ne x=>?_) (by show IntL _ _ (upd σ.su i l i);rw[upd_same];exact hl)
 cases q,l using plE with
 | x|dx|D|rl _|n1 n _|n0 n _=>exact x
 | n2 n _=>show IntL _ _ (upd σ.su i _ n);rw[upd_other (fun z=>ne (by rw[z]))];exact x
theorem SRep.rdy {l l':List Int} (r:SRep prog w CN CS hb h adr σ) (hr:σ.rd=some l') (e:Ext h h1a) (hbe:Ext hb h) (o:Off [adr .rl] h1a h') (hl:IntL h' (adr .rl) l):SRep prog w CN CS hb h' adr { σ with rd:=some l }:=by
 have lr:Lv σ .rl:=by show σ.rd.isSome=true;rw[hr];rfl
 have hv:rdV { σ with rd:=some l } adr=rdV σ adr:=by unfold rdV;rw[hr];rfl
 refine r.turn .rl lr e hbe o (fun q=>by cases q <;> first|exact Iff.rfl|exact ⟨fun zz=>lr,fun zz=>rfl⟩) (fun q l ne x=>?_) (fun l' e=>by cases e;exact hl)
 cases q,l using plE with
 | x|D|n2 n _|n1 n _|n0 n _=>exact x
 | dx=>obtain ⟨t1,t2,t3,t4,p,q,e⟩:=x;exact ⟨t1,t2,t3,t4,p,q,by rw[hv];exact e⟩
 | rl _=>exact absurd rfl ne
end
section
variable {M:Model}
theorem asn_sub {o i:Expr} {pos:Pos} {Q:Unit→Shared→Prop}
  (h:wpAny M A (eval o env) (fun ov s2a=>wpAny M A (eval i env) (fun iv s3a=>wpAny M A (setItem ov iv v) Q E s3a) E s2a) E s):wpAny M A (assign (.Subscript o i pos) env v) Q E s:=fun Γ p hΓ=>by
 obtain ⟨r,e⟩:∃ r:Value→Value→List Value,assign (.Subscript o i pos) env v=(do
  let ov ← holding [v] (eval o env)
  let iv ← holding [v,ov] (eval i env)
  standAt pos
  holding [v,ov,iv] (setItem ov iv v)
  release (r ov iv) []):=⟨_,assign_Subscript o i pos v⟩
 rw[e]
 simp only[Sem.wp_bind',Sem.wp_holding,Sem.wp_cmd_standAt,Sem.wp_release]
 exact Sem.wp_mono M Γ _ (fun ov p2a s2a h2a=>Sem.wp_mono M Γ _ (fun iv zz s3a h3a=>h3a Γ _ hΓ) (fun zz zz zz h'=>h') _ _ (h2a Γ p2a hΓ)) (fun zz zz zz h'=>h') _ _ (h Γ _ hΓ)
end
theorem valueAt_ns (ns:List Int) (f:Int→Value) (k:Int):valueAt (ns.map fun n=>(n,f n)) k=if k∈ns then some (f k) else none:=by
 induction ns with
 | nil=>simp[valueAt]
 | cons n ns ih =>
  unfold valueAt at ih ⊢
  rw[List.map_cons,List.find?_cons]
  by_cases q:n=k
  ·subst q;simp
  ·have:¬ k=n:=fun e=>q e.symm
   simp only[q,decide_false]
   rw[ih]
   simp[this]
section
variable {adr:Pl→Addr} {σ:Srt} {M:List Addr} {i:Int}
theorem call1_wp {f:Str} {np pos:Pos} {e:Expr} {P:Value→Prop} {Q:VSP} (up:Up I) (hf:EvR prog w A env I (.Name f np) (fun zz zz v=>v=fv)) (hk:Keeper1 (model prog w) I fv) (he':EvR prog w A env I e (fun zz zz v=>P v)) (hX:Bd X s.heap) (hs:I X s.heap)
  (hc:∀ s' v,Keeps s s'→I X s'.heap→P v→wpAny (model prog w) A (call fv [v]) Q E s')
  (he:starEach [e] env=(false,eval e env)::starEach [] env:=by rfl):wpAny (model prog w) A (eval (.Call (.Name f np) [e] [] pos) env) Q E s:=by
 refine wpAny_Call_ofName (hf.wp hX hs fun v s1a k1a hv=>?_)
 subst hv
 have h1a:=up.ext (kp_ext k1a) hs
 have b1a:=hX.ext (kp_ext k1a)
 refine callWith_of (P:=I X) (by rw[he];rfl) (hk X) ?_
 rw[he]
 refine Calls.evalArgs_plain ?_
 have z:wpAny (model prog w) A (spliced (backTo pos (starEach [e] env))) (fun vs s'=>I X s'.heap∧wpAny (model prog w) A (call v ([]++vs)) Q E s') E s1a :=
  wpAny_items_cons (he:=he) (he'.wp b1a h1a fun u s2a k2a q=>wpAny_items_nil ⟨up.ext (kp_ext k2a) h1a,hc s2a u (kp_trans k1a k2a) (up.ext (kp_ext k2a) h1a) q⟩)
 rw[he] at z
 exact z
theorem get_wp {o e:Expr} {apos pos:Pos} {D:Addr} {kvs:List (Int×Value)} {k:Int} {Q:VSP} (up:Up I) (hX:Bd X s.heap) (hI:I X s.heap) (ho:EvR prog w A env I o (fun zz zz v=>v=.ref D)) (he:Ev prog w A env I e (.int k))
  (hD:∀ X h,I X h→h.DictOf (intKind prog w) D kvs) (hsys:D≠sysModules) (q:∀ s',Keeps s s'→Q ((valueAt kvs k).getD .none) s')
  (hline:(apos.endLine == pos.line)=true:=by rfl) (htrees:backTo pos (starEach [e] env)=[(false,eval e env)]:=by rfl) (hbase:attributeBase o "get" env (eval o env)=eval o env:=by rfl) :
  wpAny (model prog w) A (eval (.Call (.Attribute o "get" apos) [e] [] pos) env) Q E s:=by
 refine wpAny_Call_method1_late hbase hline htrees (ho.wp hX hI fun v s1a k1a ev=>?_)
 subst ev
 have i1a:=up.ext (kp_ext k1a) hI
 have d1a:=hD _ _ i1a
 refine ⟨"dict","dict.get",PySem.F.plainAttrs_dict,PySem.F.slot_dict_get,PySem.F.type_dict_get,d1a.mapOf.typeIs,fun a ea=>?_,?_⟩
 ·cases ea
  obtain ⟨o,es,ep,eo,hx,_⟩:=d1a
  exact ⟨o,eo,hx.2.1⟩
 refine wpAny_dict_get1 (knd:=intKind prog w) (beq_eq_false_iff_ne.mpr hsys) (he.wp (hX.ext (kp_ext k1a)) i1a fun u s2a k2a a=>?_)
 obtain ⟨t,rfl⟩:=a.int_inv
 exact ⟨k,valueAt kvs,intKind_is prog w k t,(hD _ _ (up.ext (kp_ext k2a) i1a)).mapOf,q _ (kp_trans k1a (kp_trans k2a (kp_tok _ _)))⟩
noncomputable def ensN (σ:Srt) (i:Int):Srt:=if i∈σ.ns then σ else { σ with ns:=σ.ns++[i],np:=upd σ.np i 0,su:=upd σ.su i [] }
noncomputable def ndA (adr:Pl→Addr) (i:Int) (a:Nat→Addr):Pl→Addr
 | .nd n j=>if n=i then a j else adr (.nd n j)
 | p=>adr p
theorem SRep.sys (SK:SortK K w CS) (G:GK K mg mb hb) (r:SRep prog w CN CS hb h adr σ):adr .D≠sysModules:=fun e=>by
 obtain ⟨o,e'⟩:=SK.sys
 have:=r.new .D trivial
 rw[e,G.k _ _ e'] at this;cases this
theorem SRep.node {x li:Addr} {t t1:Tok} (r:SRep prog w CN CS hb h adr σ) (hi:i∉σ.ns) (e:Ext h h1a) (hbe:Ext hb h) (n0:h.get? x=none) (n1:h.get? dx=none) (n2:h.get? li=none)
  (gx:h1a.get? x=some (nobj CN dx #[some (.int i t),some (.int 0 t1),some (.ref li)])) (gd:h1a.get? dx=some emptyDict) (gl:Lst h1a li #[]) (o:Off [adr .D] h1a h')
  (d:h'.DictOf (intKind prog w) (adr .D) (stored (σ.ns.map fun n=>(n,.ref (adr (.nd n 0)))) i (.ref x))) :
  ∃ adr',SRep prog w CN CS hb h' adr' (ensN σ i)∧GrownS adr adr' σ (ensN σ i) h∧adr' (.nd i 0)=x:=by
 let a:Nat→Addr:=fun j=>if j=0 then x else if j=1 then dx else li
 have hen:ensN σ i={ σ with ns:=σ.ns++[i],np:=upd σ.np i 0,su:=upd σ.su i [] }:=if_neg hi
 rw[hen]
 have aj:∀ j,h.get? (a j)=none:=fun j=>by
  show h.get? (if j=0 then x else if j=1 then dx else li)=none
  by_cases q:j=0
  ·rw[if_pos q];exact n0
  ·rw[if_neg q]
   by_cases q:j=1
   ·rw[if_pos q];exact n1
   ·rw[if_neg q];exact n2
 have rest:∀ {n j},n∈σ.ns→ndA adr i a (.nd n j)=adr (.nd n j):=fun {n j} hn=>if_neg (fun q:n=i=>hi (q▸hn))
 have here:∀ j,ndA adr i a (.nd i j)=a j:=fun j=>if_pos rfl
 have hD:∀ j,adr .D≠a j:=fun j z=>by obtain ⟨ob,e',_⟩:=r.there (p:=.D) trivial;rw[z,aj j] at e';cases e'
 have st:∀ j ob,h1a.get? (a j)=some ob→h'.get? (a j)=some ob:=fun j ob e'=>o _ _ (fun m=>hD j (m_s m).symm) e'
 have hxd:x≠dx:=fun z=>by rw[z,gd] at gx;cases gx
 have hxl:x≠li:=fun z=>by obtain ⟨_,q⟩:=gl;rw[z,q] at gx;cases gx
 have hdl:dx≠li:=fun z=>by obtain ⟨_,q⟩:=gl;rw[z,q] at gd;have:=congrArg Obj.cls (Option.some.inj gd);simp at this
 have lvn:∀ {n j},Lv { σ with ns:=σ.ns++[i],np:=upd σ.np i 0,su:=upd σ.su i [] } (.nd n j)→Lv σ (.nd n j)∨(n=i∧j<3):=fun {n j} l=>by
  obtain ⟨l1,l2⟩:=l
  rcases m_a l1 with m|m
  ·exact .inl ⟨m,l2⟩
  ·exact .inr ⟨m_s m,l2⟩
 have gr:GrownS adr (ndA adr i a) σ { σ with ns:=σ.ns++[i],np:=upd σ.np i 0,su:=upd σ.su i [] } h:=⟨fun p l=>by
   cases p,l using plF with
   | x|dx|D=>exact ⟨trivial,rfl⟩
   | rl l=>exact ⟨l,rfl⟩
   | nd n j l=>exact ⟨⟨m_l _ l.1,l.2⟩,rest l.1⟩,fun p l=>by
   cases p,l using plF with
   | x|dx|D=>exact .inl trivial
   | rl l=>exact .inl l
   | nd n j l =>
    rcases lvn l with l|⟨rfl,_⟩
    ·exact .inl l
    ·exact .inr (by rw[here];exact aj j)⟩
 refine ⟨ndA adr i a,r.step (M:=[]) .D trivial e hbe o gr (fun q l ne z=>?_) ?_ (fun q l=>?_) (fun q q' l l' n n' z=>?_),gr,here 0⟩
 ·cases q,l using plE with
  | x=>exact z
  | dx=>exact z
  | D=>exact absurd rfl ne
  | rl _=>exact z
  | n0 n l =>
   obtain ⟨t,p,e'⟩:=z
   refine ⟨t,p,?_⟩
   rw[rest l.1,rest l.1,rest l.1]
   show _=some (nobj CN _ #[_,some (.int (upd σ.np i 0 n) _),_])
   rw[upd_other (fun q:n=i=>hi (q▸l.1))];exact e'
  | n1 n l=>show h'.get? (ndA adr i a (.nd n 1))=_;rw[rest l.1];exact z
  | n2 n l=>show IntL h' (ndA adr i a (.nd n 2)) (upd σ.su i [] n);rw[rest l.1,upd_other (fun q:n=i=>hi (q▸l.1))];exact z
 ·show h'.DictOf (intKind prog w) (adr .D) ((σ.ns++[i]).map fun n=>(n,.ref (ndA adr i a (.nd n 0))))
  have:((σ.ns++[i]).map fun n=>(n,Value.ref (ndA adr i a (.nd n 0))))=stored (σ.ns.map fun n=>(n,.ref (adr (.nd n 0)))) i (.ref x):=by
   rw[stored_absent (by rw[valueAt_ns,if_neg hi]),List.map_append]
   congr 1
   ·exact List.map_congr_left fun n m=>by rw[rest m]
   ·show [(i,Value.ref (ndA adr i a (.nd i 0)))]=_;rw[here];rfl
  rw[this];exact d
 ·cases q,l using plF with
  | x|dx|D=>exact .inl trivial
  | rl l=>exact .inl l
  | nd n j l =>
   rcases lvn l with l'|⟨rfl,hj⟩
   ·exact .inl l'
   ·refine .inr ?_
    rcases j with _|_|_|j
    ·refine ⟨t,t1,?_⟩
     show _=some (nobj CN _ #[_,some (.int (upd σ.np n 0 n) _),_])
     rw[here,here,here,upd_same]
     exact st 0 _ gx
    ·show h'.get? (ndA adr n a (.nd n 1))=_;rw[here];exact st 1 _ gd
    ·show IntL h' (ndA adr n a (.nd n 2)) (upd σ.su n [] n);rw[here,upd_same];obtain ⟨m,q⟩:=gl;exact ⟨#[],⟨m,st 2 _ q⟩,.nil⟩
    ·exact absurd hj (by lia)
 ·cases q,l using plF with
  | x|dx|D=>exact absurd trivial n
  | rl l=>exact absurd l n
  | nd m j l =>
   rcases lvn l with c|⟨rfl,hj⟩
   ·exact absurd c n
   ·cases q',l' using plF with
    | x|dx|D=>exact absurd trivial n'
    | rl l=>exact absurd l n'
    | nd m' j' l' =>
     rcases lvn l' with c|⟨rfl,hj'⟩
     ·exact absurd c n'
     ·rw[here,here] at z
      congr 1
      exact inj3 hxd hxl hdl hj hj' z
end
section
variable {adr:Pl→Addr} {σ:Srt} {M:List Addr} {i:Int}
noncomputable def Aft (prog:Program) (w:World) (CN CS:Addr) (hb:Heap) (adr:Pl→Addr) (σ:Srt) (s:Shared) (σ':Srt) (adr':Pl→Addr) (s':Shared):Prop :=
 ∃ h' tk,s'={ s with heap:=h',toks:=tk }∧SRep prog w CN CS hb h' adr' σ'∧OffS adr σ s.heap h'∧GrownS adr adr' σ σ' s.heap
theorem ensN_mem:i∈(ensN σ i).ns:=by
 unfold ensN;split
 ·assumption
 ·simp
set_option maxHeartbeats 1000000 in
theorem get_info {n:Nat} {t:Tok} (F:FnK K fa "TopologicalSorter._get_nodeinfo" (inS (topS 15) 1) .none .none) (NK:NodeK K CN) (SK:SortK K w CS) (hkN:keepIn K (.ref CN)=true) (hA:OKA A (n+3)) (Gb:GK K mg mb hb) (hbs:Ext hb s.heap) (m1:mg "_NodeInfo"=some (.ref CN))
  (r:SRep prog w CN CS hb s.heap adr σ) (hz:σ.ns.length≤1000) (E:VSP) :
  wpAny (model prog w) A (call (.ref fa) [.ref (adr .x),.int i t]) (fun v s'=>(i∈σ.ns→v=.ref (adr (.nd i 0))∧Keeps s s')∧∃ adr',v=.ref (adr' (.nd i 0))∧Aft prog w CN CS hb adr σ s (ensN σ i) adr' s') E s:=by
 refine fn_go (n:=n+2) (X:=[]) [("self",.ref (adr .x)),("node",.int i t)] [("node",.dat (.int i)),("self",.val (.ref (adr .x)))] F hA (Gb.ext hbs) (fun zz m=>by cases m) (fun doc pm an cdv ct=>.of_eq (by kernel_rfl)) (by decide +kernel) (locs (by kernel_rfl)) (by kernel_rfl) (by kernel_rfl) (by kernel_rfl)
  (fun X' h' hd e=>⟨rfl,.int _ _,rfl,rfl,trivial⟩) fun L env h1a tk fr hX1 hid f0=>?_
 refine hideQ fun Q1 hQ1=>?_
 have hLb:hb.get? L=none:=none_before hbs fr.new
 have hOA:OKA (A.deeper env) (n+2):=fr.ok
 have hnL:∀ p,Lv σ p→adr p≠L:=fun p l z=>by obtain ⟨o,e,_⟩:=r.there l;rw[z,fr.new] at e;cases e
 let I:=fun (ρ:List (Str×VD)) (adr:Pl→Addr) (σ:Srt)=>Fr2 K mg mb hb L ρ (RS prog w CN CS hb L adr σ)
 have i1a:I [("node",.dat (.int i)),("self",.val (.ref (adr .x)))] adr σ [L] h1a:=⟨⟨f0.1,Ext.trans hbs f0.2.1,f0.2.2⟩,r.ext f0.2.1,hnL⟩
 have up:=fun (ρ:List (Str×VD)) (adr:Pl→Addr) (σ:Srt)=>up2 (K:=K) (mg:=mg) (mb:=mb) (h0a:=hb) (ρ:=ρ) (rest_rs (L:=L) (prog:=prog) (w:=w) (CN:=CN) (CS:=CS) (hb:=hb) (adr:=adr) (σ:=σ))
 have lv:∀ (y:Str) (ρ:List (Str×VD)) (adr:Pl→Addr) (σ:Srt) {p:Pos} {u:Value},(fScope (inS (topS 15) 1)).names.lookup y=some .local→ρ.lookup y=some (.val u)→(y == ("__debug__":Str))=false→EvR prog w (A.deeper env) env (I ρ adr σ) (.Name y p) (fun zz zz v=>v=u):=fun y ρ adr σ p d a b c=>ev_locv fr.le (by rw[fr.k];exact a) loc2 b c
 have ld:∀ (y:Str) (ρ:List (Str×VD)) (adr:Pl→Addr) (σ:Srt) {p:Pos} {d:PyData},(fScope (inS (topS 15) 1)).names.lookup y=some .local→ρ.lookup y=some (.dat d)→(y == ("__debug__":Str))=false→Ev prog w (A.deeper env) env (I ρ adr σ) (.Name y p) d:=fun y ρ adr σ p d a b c=>ev_loc fr.le (by rw[fr.k];exact a) loc2 b c
 have n2i:∀ (ρ:List (Str×VD)) {p q:Pos},ρ.lookup ("self":Str)=some (.val (.ref (adr .x)))→EvR prog w (A.deeper env) env (I ρ adr σ) (.Attribute (.Name "self" p) "_node2info" q) (fun zz zz v=>v=.ref (adr .D)):=fun ρ p q hl=>ev_n2i SK (up ρ adr σ) (lv "self" ρ adr σ (by kernel_rfl) hl (by decide +kernel)) (fun X h i=>i.1.1.k) (fun X h i=>i.2.1)
 have hval:=valueAt_ns σ.ns (fun n=>.ref (adr (.nd n 0))) i
 try dsimp only
 show NR prog w _ (execs (_::_) env) _ _
 refine xc (wpAny_If (wpAny_isTrue_Compare1 (wpAny_NamedExpr (get_wp (I:=I [("node",.dat (.int i)),("self",.val (.ref (adr .x)))] adr σ) (kvs:=σ.ns.map fun n=>(n,.ref (adr (.nd n 0)))) (k:=i) (up _ _ _) hX1 i1a (n2i _ (by rfl)) (ld _ _ _ _ (by kernel_rfl) (by rfl) (by kernel_rfl)) (fun X h i=>i.2.1.at_ .D trivial) (r.sys SK Gb) fun s2a k2a=>?_))))
 obtain ⟨h2a,tk2,rfl,e2a⟩:=k2a
 have e2a:Ext h1a h2a:=e2a
 have i2a:=(up _ _ _).ext e2a i1a
 obtain ⟨u,hu⟩:∃ u,u=(valueAt (σ.ns.map fun n=>(n,Value.ref (adr (.nd n 0)))) i).getD .none:=⟨_,rfl⟩
 rw[← hu]
 refine name2 (D:=.val u) rest_rs i2a rfl (hX1.ext e2a) fr.le (by rw[fr.k];kernel_rfl) Gb hLb (.head _) fun h3a tk3 o3a b3a i3a=>?_
 refine (ev_none (I:=fun zz zz=>True)).wp b3a trivial fun u' s4a k4a eu=>?_
 have eu:=eu.none_inv
 subst eu
 obtain ⟨h4a,tk4,rfl,e4a⟩:=k4a
 have e4a:Ext h3a h4a:=e4a
 have i4a:=(up _ _ _).ext e4a i3a
 have b4a:=b3a.ext e4a
 have s4:Ext s.heap h4a:=fun b ob eb=>e4a _ _ (o3a b ob (fun m=>by rw[m_s m,fr.new] at eb;cases eb) (e2a _ _ (f0.2.1 b ob eb)))
 have plain:plainIs u .none=true:=by rw[hu,hval];by_cases q:i∈σ.ns <;> simp[q] <;> rfl
 refine wpAny_is_plain plain (wpAny_truthy_bool ?_)
 have hres:∀ (ρ:List (Str×VD)) (adr':Pl→Addr) (σ':Srt) (v:Value) {p:Pos},ρ.lookup ("result":Str)=some (.val v)→EvR prog w (A.deeper env) env (I ρ adr' σ') (.Name "result" p) (fun zz zz u=>u=v):=fun ρ adr' σ' v p hl=>lv "result" ρ adr' σ' (by kernel_rfl) hl (by decide +kernel)
 by_cases hi:i∈σ.ns
 ·have hu':u=.ref (adr (.nd i 0)):=by rw[hu,hval,if_pos hi];rfl
  rw[show (u == Value.none)=false by rw[hu'];rfl,if_neg (by decide)]
  refine wpAny_execs_nil ?_
  try dsimp only
  show NR prog w _ (execs (_::_) env) _ _
  refine xc (ret (hres _ adr σ u (by rfl)) b4a i4a fun v s5a k5a ev=>?_)
  obtain ⟨h5,tk5,rfl,e5a⟩:=k5a
  have e5a:Ext h4a h5:=e5a
  have he:ensN σ i=σ:=if_pos hi
  refine hQ1 _ _ ?_
  rw[he]
  exact ⟨fun zz=>⟨by rw[ev,hu'],h5,_,rfl,Ext.trans s4 e5a⟩,adr,by rw[ev,hu'],h5,_,rfl,r.ext (Ext.trans s4 e5a),fun b o e zz=>(Ext.trans s4 e5a) _ _ e,GrownS.refl⟩
 ·have hu':u=.none:=by rw[hu,hval,if_neg hi];rfl
  rw[show (u == Value.none)=true by rw[hu'];rfl,if_pos rfl]
  try dsimp only
  show NR prog w _ (execs (_::_) env) _ _
  refine xc (wpAny_Assign_two (call1_wp (P:=fun v=>IsI i v) (up _ _ _) (ev_global gk2 fr.ge (by rw[fr.k];kernel_rfl) m1) (keeper_K gk2 hkN) (EvR.int (ld _ _ _ _ (by kernel_rfl) (by rfl) (by kernel_rfl))) b4a i4a fun s5a v k5a i5a hv=>?_) (hw:=?_))
  ·obtain ⟨t',rfl⟩:=hv
   refine wpAny_mono (node_new (n:=n) NK hOA i5a.1.1 _) (fun v s6 q=>?_) fun zz zz z=>z
   obtain ⟨x,dx,li,t1,h6a,tk6,rfl,rfl,e6a,n0,n1,n2,gx,gd,gl⟩:=q
   obtain ⟨h5,tk5,rfl,e5a⟩:=k5a
   have e5a:Ext h4a h5:=e5a
   have e6a:Ext h5 h6a:=e6a
   have e46:=Ext.trans e5a e6a
   have i6a:=(up _ _ _).ext e46 i4a
   refine asn_sub ((n2i _ (by rfl)).wp (b4a.ext e46) i6a fun o s7 k7 eo=>(EvR.int (ld _ _ _ _ (by kernel_rfl) (by rfl) (by kernel_rfl))).wp ((b4a.ext e46).ext (kp_ext k7)) ((up _ _ _).ext (kp_ext k7) i6a) fun iv s8 k8 ei=>?_)
   subst eo
   obtain ⟨t8,rfl⟩:=ei
   obtain ⟨h8a,tk8,rfl,e8a⟩:=kp_trans k7 k8
   have e8a:Ext h6a h8a:=e8a
   have i8:=(up _ _ _).ext e8a i6a
   refine wpAny_setItem_pairs (hsz:=by rw[List.length_map,sizeLine_eq];omega) (intKind_is prog w i t8) (i8.2.1.at_ .D trivial) fun h9 d9a sb=>?_
   have o9:Off [adr .D] h8a h9:=fun b ob n e=>sb.extBut _ _ (fun q=>n (by rw[q];exact List.mem_singleton_self _)) e
   obtain ⟨m9,l9⟩:=gl
   have r4:SRep prog w CN CS hb h4a adr σ:=i4a.2.1
   obtain ⟨adr',r9,g9,ax⟩:=r4.node hi (Ext.trans e46 e8a) i4a.1.2.1 (none_before e5a n0) (none_before e5a n1) (none_before e5a n2) (e8a _ _ gx) (e8a _ _ gd) ⟨m9,e8a _ _ l9⟩ o9 d9a
   have nL':∀ p,Lv (ensN σ i) p→adr' p≠L:=fun p l z=>by
    rcases g9.2 p l with l'|l'
    ·exact hnL p l' (by rw[← (g9.1 p l').2];exact z)
    ·obtain ⟨ob,eb,_⟩:=i4a.1.nt
     rw[z,eb] at l';cases l'
   have i9:I _ adr' (ensN σ i) [L] h9:=RS.turn (X':=[L]) (p:=.D) i8 Gb ⟨trivial,flat_int _,trivial,trivial⟩ trivial o9 r9 nL'
   refine name2 (D:=.val (.ref x)) rest_rs i9 rfl (fun b m=>by rw[m_s m];obtain ⟨ob,e,_⟩:=i9.1.nt;exact ⟨ob,e⟩) fr.le (by rw[fr.k];kernel_rfl) Gb hLb (.head _) fun h10 tk10 o10 b10 i10=>?_
   refine wpAny_execs_nil ?_
   try dsimp only
   show NR prog w _ (execs (_::_) env) _ _
   refine xc (ret (hres _ adr' (ensN σ i) (.ref x) (by rfl)) b10 i10 fun v s5a k5a ev=>?_)
   obtain ⟨h11,tk11,rfl,e11⟩:=k5a
   have e11:Ext h10 h11:=e11
   refine hQ1 _ _ ⟨fun z=>absurd z hi,adr',by rw[ev,ax],h11,_,rfl,i10.2.1.ext e11,fun b ob eb nb=>e11 _ _ (o10 b ob (fun m=>by rw[m_s m,fr.new] at eb;cases eb) (o9 b ob (fun m=>nb .D trivial (m_s m).symm) (e8a _ _ (e46 _ _ (s4 _ _ eb))))),g9.1,fun p l=>(g9.2 p l).imp id (none_before s4)⟩
  ·with_unfolding_all rfl
end
section
variable {adr:Pl→Addr} {σ:Srt} {M:List Addr} {i:Int}
noncomputable def Out (P:VSP) (E:VSP) (r:Result) (s':Shared):Prop:=match r with
 | .ok (.ret v)=>P v s'
 | .ok _=>False
 | .error e=>E e s'
theorem fn_goV {st:Stmt} {n:Nat} {rest:List Value} {kw:List (Str×Value)} (binds:Value→List (Str×Value)) (ρ:List (Str×VD)) {P:VSP}
  (F:FnK K f qual st dV kV) (hA:OKA A (n+1)) (G:GK K mg mb s.heap) (hX:Bd X s.heap)
  (hb:∀ doc pm an cdv ct,bindArgs (fnOf (fName st) qual (fParams st) (fBody st) (fScope st) dV kV doc pm an cdv ct) ⟨vs,kw⟩=(newTuple rest >>= fun t=>pure (binds t))) (hz:rest.length≤1000)
  (hcell:∀ x∈(fScope st).names,x.2≠.cell) (hloc:∀ t,∀ x∈binds t,(fScope st).names.lookup x.1=some .local)
  (hco:(fScope st).isCoroutine=false) (hgen:(fScope st).isGenerator=false) (hk:(fScope st).kind=.function)
  (mat:∀ a X' h',h'.IsTuple a rest.toArray→Hid X X' s.heap→Ext s.heap h'→Mat X' h' (binds (.ref a)).reverse ρ)
  (body:∀ L env h1a tk,Fr A st n s.heap L env→Bd (L::X) h1a→Hid X (L::X) s.heap→Fs K mg mb s.heap L ρ (L::X) h1a →
   NR prog w (A.deeper env) (execs (fBody st) env) (fun fl s'=>P (match fl with|.ret v=>v|_=>.none) s') { s with heap:=h1a,toks:=tk }) :
  codeAny (model prog w) A (.call (.ref f) ⟨vs,kw⟩) (Out P E) s:=by
 obtain ⟨oc,od,doc,pm,an,cdv,ct,osl,hf,hcd⟩:=F
 refine (codeAny_call_function (fd:=fnOf (fName st) qual (fParams st) (fBody st) (fScope st) dV kV doc pm an cdv ct) (body:=fBody st) hA.room (G.k _ _ hf) rfl hco hgen rfl (codeRec_of G.k hcd) ?_)
 rw[hb]
 refine wpAny_bind (wpAny_newTuple (wpAny_pure ?_) (by rw[sizeLine_eq];omega))
 obtain ⟨H,hH⟩:∃ H,H=s.heap.push { cls:=.type "tuple",data:=.seq rest.toArray }:=⟨_,rfl⟩
 have eH:Ext s.heap H:=hH▸Ext.push _ _
 have gH:H.IsTuple s.heap.objs.size rest.toArray:=hH▸⟨_,Heap.get?_push_size _ rfl,rfl,_,rfl⟩
 rw[← hH]
 refine wpAny_newFunctionEnv hcell (hloc _) (fun h0a hns0 hsb0=>⟨(G.lim.keeps eH).fresh _ hsb0,codeAny_func ?_⟩) hk
 have e0:Ext H h0a:=fun b o e=>hsb0.extBut b o (Nat.ne_of_lt (Heap.lt_size e)) (Heap.get?_push_of_some _ e)
 have e1:=Ext.trans eH e0
 have hLn:s.heap.get? H.objs.size=none:=none_before eH (size_none _)
 have hid:Hid X (H.objs.size::X) s.heap:=.new hLn
 have l0:Loc H.objs.size ρ (H.objs.size::X) h0a:=loc_of hns0 (mat _ _ _ (gH.at fun o e=>e0 _ o e) hid e1)
 refine wpAny_mono (body _ (callEnv (fnOf (fName st) qual (fParams st) (fBody st) (fScope st) dV kV doc pm an cdv ct) H.objs.size f) h0a _ ⟨⟨hk,rfl⟩,⟨hk,rfl,rfl⟩,rfl,rfl,fun y=>rfl,hA.deeper _,hLn⟩ (fun y m=>?_) hid ⟨G.ext e1,e1,l0⟩) (fun fl s' p=>?_) fun zz zz x=>x.elim
 ·rcases mC m with rfl|m
  ·exact exl (l0.there)
  ·exact hX.ext e1 y m
 ·cases fl <;> exact p
theorem meth_wp {o:Expr} {name:Str} {apos pos:Pos} {args:List Expr} {Q:VSP} (SK:SortK K w CS) (MK:MethK K w CS name qual j f) (up:Up I) (hX:Bd X s.heap) (hI:I X s.heap)
  (ho:EvR prog w A env I o (fun zz zz v=>v=.ref (adr .x))) (hK:∀ X h,I X h→K.In h) (hR:∀ X h,I X h→SRep prog w CN CS hb h adr σ)
  (q:∀ s',Keeps s s'→I X s'.heap→wpAny (model prog w) A (callWith pos (.ref f) [.ref (adr .x)] (backTo pos (starEach args env)) []) Q E s')
  {pl:Sem Bool} (he:eval (.Call (.Attribute o name apos) args [] pos) env=(do
   let ov ← eval o env
   standAt apos.atName
   let (f,first) ← holding [ov] (getMethod ov name pl)
   callWith pos f first (backTo pos (starEach args env)) (backToKw pos (keywordEach [] env))):=by rfl) :
  wpAny (model prog w) A (eval (.Call (.Attribute o name apos) args [] pos) env) Q E s :=
 methodCall_KW (he:=he) (ho.wp hX hI fun v s1a k1a ev=>by
  subst ev
  have i1a:=up.ext (kp_ext k1a) hI
  obtain ⟨t1,t2,t3,t4,p,q',I'⟩:=(hR _ _ i1a).inst
  exact method_fn (hK _ _ i1a) I' SK.ga SK.gk MK.find MK.typ (MK.sh _ _ _ _ _ _ _ _) (q s1a k1a i1a))
theorem with1 {e:Expr} {pos:Pos} {P:Value→Prop} {Q:VSP} (up:Up I) (hk:Keeper1 (model prog w) I (.ref f)) (he':EvR prog w A env I e (fun zz zz v=>P v)) (hX:Bd X s.heap) (hs:I X s.heap)
  (hc:∀ s' v,Keeps s s'→I X s'.heap→P v→wpAny (model prog w) A (call (.ref f) (first++[v])) Q E s')
  (he:starEach [e] env=(false,eval e env)::starEach [] env:=by rfl):wpAny (model prog w) A (callWith pos (.ref f) first (backTo pos (starEach [e] env)) []) Q E s:=by
 refine callWith_of (P:=I X) (by rw[he];rfl) (hk X) ?_
 rw[he]
 refine Calls.evalArgs_plain ?_
 have z:wpAny (model prog w) A (spliced (backTo pos (starEach [e] env))) (fun vs s'=>I X s'.heap∧wpAny (model prog w) A (call (.ref f) (first++vs)) Q E s') E s :=
  wpAny_items_cons (he:=he) (he'.wp hX hs fun u s2a k2a q=>wpAny_items_nil ⟨up.ext (kp_ext k2a) hs,hc s2a u k2a (up.ext (kp_ext k2a) hs) q⟩)
 rw[he] at z
 exact z
theorem with0 {pos:Pos} {Q:VSP} (hk:Keeper1 (model prog w) I (.ref f)) (hs:I X s.heap)
  (hc:wpAny (model prog w) A (call (.ref f) (first++[])) Q E s):wpAny (model prog w) A (callWith pos (.ref f) first (backTo pos (starEach [] env)) []) Q E s :=
 callWith_of (P:=I X) rfl (hk X) (PySem.evalArgs_none ⟨hs,hc⟩)
theorem bound_wp {name:Str} {b:Bool} {Q:VSP} (SK:SortK K w CS) (MK:MethK K w CS name qual j f) (kin:K.In s.heap) (r:SRep prog w CN CS hb s.heap adr σ)
  (q:∀ h' a tk,Ext s.heap h'→h'.get? a=some (methodObj (.ref f) (.ref (adr .x)))→s.heap.get? a=none→Q (.ref a) { s with heap:=h',toks:=tk }):wpAny (model prog w) A (getAttr (.ref (adr .x)) name b) Q E s:=by
 obtain ⟨t1,t2,t3,t4,p,q',I'⟩:=r.inst
 exact get_bind kin I' SK.ga (MK.bd _ _ _ _ _ _ _ _) SK.gk (wpAny_call (fn_get (s:={ s with toks:=s.toks+1 }) kin MK.typ (handed_on rfl (q _ s.heap.objs.size _ (Ext.push _ _) (Heap.get?_push_size _ rfl) (size_none _)))))
theorem methS_wp {o:Expr} {name:Str} {apos pos:Pos} {args:List Expr} {Q:VSP} (SK:SortK K w CS) (MK:MethK K w CS name qual j f) (up:Up I) (hX:Bd X s.heap) (hI:I X s.heap)
  (ho:EvR prog w A env I o (fun zz zz v=>v=.ref (adr .x))) (hK:∀ X h,I X h→K.In h) (hR:∀ X h,I X h→SRep prog w CN CS hb h adr σ) (hst:(backTo pos (starEach args env)).any (·.1)=true)
  (q:∀ s' a,Keeps s s'→I X s'.heap→s'.heap.get? a=some (methodObj (.ref f) (.ref (adr .x)))→wpAny (model prog w) A (evalArgs (.ref a) true (backTo pos (starEach args env)) []) (fun a s1a=>Keeps s' s1a∧codeAny (model prog w) A (.call (.ref f) ⟨.ref (adr .x)::a.pos,a.kw⟩) (Out Q E) s1a) E s')
  (he:eval (.Call (.Attribute o name apos) args [] pos) env=(do
   let ov ← eval o env
   standAt apos.atName
   let (f,first) ← holding [ov] (do pure (← getAttr ov name true,([]:List Value)))
   callWith pos f first (backTo pos (starEach args env)) []):=by rfl) :
  wpAny (model prog w) A (eval (.Call (.Attribute o name apos) args [] pos) env) Q E s:=by
 rw[he]
 refine wpAny_bind (ho.wp hX hI fun v s1a k1a ev=>?_)
 subst ev
 have i1a:=up.ext (kp_ext k1a) hI
 refine wpAny_bind (wpAny_standAt (wpAny_bind (wpAny_holding (wpAny_bind (bound_wp SK MK (hK _ _ i1a) (hR _ _ i1a) fun h' a tk e g n=>wpAny_pure ?_)))))
 have k2a:Keeps s1a { s1a with heap:=h',toks:=tk }:=kp_heap _ e
 have i2a:=up.ext e i1a
 refine ks_call (P:=fun h=>MethP K a f (.ref (adr .x)) h) hst (keeps_M MK.fi) (wpAny_mono (q _ a (kp_trans k1a k2a) i2a g) (fun x s3a z=>?_) fun zz zz z=>z)
 have k3a:=kp_ext z.1 _ _ g
 refine ⟨⟨k3a,hK X _ (up.ext (kp_ext z.1) i2a)⟩,?_⟩
 exact wpAny_call (method_call k3a z.2)
end
structure SortN (mg mb:Str→Option Value) (CN:Addr):Prop where
 ni:mg "_NodeInfo"=some (.ref CN)
 len:mg "len"=none
 lenb:mb "len"=some (.builtin "len")
 out:∃ t,mg "_NODE_OUT"=some (.int (-1) t)
 dn:∃ t,mg "_NODE_DONE"=some (.int (-2) t)
 tup:mg "tuple"=none
 tupb:mb "tuple"=some (.type "tuple")
 bool:mg "bool"=none
 boolb:mb "bool"=some (.type "bool")
 set:mg "set"=none
 setb:mb "set"=some (.type "set")
 iter:mg "iter"=none
 iterb:mb "iter"=some (.builtin "iter")
 stop:mg "StopIteration"=none
 stopb:mb "StopIteration"=some (.type "StopIteration")
section
variable {adr:Pl→Addr} {σ:Srt} {M:List Addr} {i:Int}
theorem st2 {x:Str} {D:VD} {Q:Unit→Shared→Prop} (r:Rest L R) (st:Fr2 K mg mb h0a L ρ R X s.heap) (hv:D.at X s.heap v) (hX:Bd X s.heap) (le:LocEnv env L) (hx:env.kindOf x=some .local)
  (G:GK K mg mb h0a) (hL0:h0a.get? L=none) (hL:L∈X) (k:∀ h' tk,Off [L] s.heap h'→Bd X h'→Fr2 K mg mb h0a L ((x,D)::ρ) R X h'→Q () { s with heap:=h',toks:=tk }) :
  NR prog w A (storeName env x v) Q s:=by
 obtain ⟨m,hn,hr⟩:=st.1.2.2
 refine store_local le hx hn fun h' hn' ko=>?_
 have l:=Loc.set (D:=D) (m':=m) hn hr hv hL ko hn'
 exact k h' _ ko (fs_bd hX ko l) ⟨fs_next st.1 G hL0 ko l,r.off _ _ _ st.2 hL st.1.nt ko⟩
theorem aug_np {o value:Expr} {tpos pos:Pos} {c:Int} {Q:FSP} (NK:NodeK K CN) (up:Up I) (hX:Bd X s.heap) (hI:I X s.heap) (ho:EvR prog w A env I o (fun zz zz v=>v=.ref (adr (.nd i 0)))) (hv:Ev prog w A env I value (.int c))
  (hG:∀ X h,I X h→K.In h∧Ext hb h∧SRep prog w CN CS hb h adr σ) (hi:i∈σ.ns)
  (q:∀ h1a h' tk,Ext s.heap h1a→Off [adr (.nd i 0)] h1a h'→SRep prog w CN CS hb h' adr { σ with np:=upd σ.np i (σ.np i+c) }→Q .next { s with heap:=h',toks:=tk }) :
  wpAny (model prog w) A (exec (.AugAssign (.Attribute o "npredecessors" tpos) .Add value pos) env) Q E s:=by
 refine wpAny_AugAssign_AttributeAny (ho.wp hX hI fun v s1a k1a ev=>?_)
 subst ev
 have i1a:=up.ext (kp_ext k1a) hI
 obtain ⟨t,p,e⟩:=(hG _ _ i1a).2.2.at_ (.nd i 0) ⟨hi,by decide⟩
 refine read_slot NK NK.f1 (hG _ _ i1a).1 e ((hG _ _ i1a).2.2.at_ (.nd i 1) ⟨hi,by decide⟩) (v:=.int (σ.np i) p) rfl rfl ?_
 refine hv.wp (s:={ s1a with toks:=s1a.toks+1 }) (show Bd X s1a.heap from hX.ext (kp_ext k1a)) i1a fun u s2a k2a a=>?_
 obtain ⟨t',rfl⟩:=a.int_inv
 refine AutoIntOps.iadd_0 ?_
 obtain ⟨h2a,tk2,rfl,e2a⟩:=kp_trans k1a (kp_trans (kp_tok _ _) k2a)
 have i2a:=up.ext e2a hI
 exact store_np (s:={ s with heap:=h2a,toks:=tk2+1 }) NK (hG _ _ i2a).1 (hG _ _ i2a).2.1 (hG _ _ i2a).2.2 hi fun h' tk o r=>q h2a h' tk e2a o r
theorem dec_np {o value:Expr} {tpos pos:Pos} {c:Int} {Q:FSP} (NK:NodeK K CN) (up:Up I) (hX:Bd X s.heap) (hI:I X s.heap) (ho:EvR prog w A env I o (fun zz zz v=>v=.ref (adr (.nd i 0)))) (hv:Ev prog w A env I value (.int c))
  (hG:∀ X h,I X h→K.In h∧Ext hb h∧SRep prog w CN CS hb h adr σ) (hi:i∈σ.ns)
  (q:∀ h1a h' tk,Ext s.heap h1a→Off [adr (.nd i 0)] h1a h'→SRep prog w CN CS hb h' adr { σ with np:=upd σ.np i (σ.np i - c) }→Q .next { s with heap:=h',toks:=tk }) :
  wpAny (model prog w) A (exec (.AugAssign (.Attribute o "npredecessors" tpos) .Sub value pos) env) Q E s:=by
 refine wpAny_AugAssign_AttributeAny (ho.wp hX hI fun v s1a k1a ev=>?_)
 subst ev
 have i1a:=up.ext (kp_ext k1a) hI
 obtain ⟨t,p,e⟩:=(hG _ _ i1a).2.2.at_ (.nd i 0) ⟨hi,by decide⟩
 refine read_slot NK NK.f1 (hG _ _ i1a).1 e ((hG _ _ i1a).2.2.at_ (.nd i 1) ⟨hi,by decide⟩) (v:=.int (σ.np i) p) rfl rfl ?_
 refine hv.wp (s:={ s1a with toks:=s1a.toks+1 }) (show Bd X s1a.heap from hX.ext (kp_ext k1a)) i1a fun u s2a k2a a=>?_
 obtain ⟨t',rfl⟩:=a.int_inv
 refine AutoIntOps.isub_0 ?_
 obtain ⟨h2a,tk2,rfl,e2a⟩:=kp_trans k1a (kp_trans (kp_tok _ _) k2a)
 have i2a:=up.ext e2a hI
 exact store_np (s:={ s with heap:=h2a,toks:=tk2+1 }) NK (hG _ _ i2a).1 (hG _ _ i2a).2.1 (hG _ _ i2a).2.2 hi fun h' tk o r=>q h2a h' tk e2a o r
noncomputable def addP (σ:Srt) (i:Int) (p:Int):Srt:={ σ with su:=upd σ.su p (σ.su p++[i]) }
noncomputable def addS (σ:Srt) (i:Int) (ps:List Int):Srt:=ps.foldl (fun σ p=>addP σ i p) { ensN σ i with np:=upd (ensN σ i).np i ((ensN σ i).np i+ps.length) }
theorem addP_lv (σ:Srt) (i p:Int) (q:Pl):Lv (addP σ i p) q↔Lv σ q:=by cases q <;> exact Iff.rfl
theorem addP_lvs (i:Int) (q:Pl):∀ (ps:List Int) (σ:Srt),Lv (ps.foldl (fun σ p=>addP σ i p) σ) q↔Lv σ q
 | [],σ=>Iff.rfl
 | p::ps,σ=>(addP_lvs i q ps _).trans (addP_lv σ i p q)
theorem addP_ns (i:Int):∀ (ps:List Int) (σ:Srt),(ps.foldl (fun σ p=>addP σ i p) σ).ns=σ.ns
 | [],σ=>rfl
 | p::ps,σ=>(addP_ns i ps _).trans rfl
theorem addP_su (i q:Int):∀ (ps:List Int) (σ:Srt),((ps.foldl (fun σ p=>addP σ i p) σ).su q).length≤(σ.su q).length+ps.length
 | [],σ=>by simp
 | p::ps,σ=>by
  refine Nat.le_trans (addP_su i q ps _) ?_
  show (upd σ.su p (σ.su p++[i]) q).length+ps.length≤_
  unfold upd
  split
  ·rename_i e;subst e;simp;omega
  ·simp only[List.length_cons];omega
noncomputable def rA (adr:Pl→Addr) (i:Int) (ps:List Int):List (Str×VD):=[("nodeinfo",.val (.ref (adr (.nd i 0)))),("predecessors",.dat (.tuple (ps.map .int))),("node",.dat (.int i)),("self",.val (.ref (adr .x)))]
theorem flat_rA {ps:List Int}:FlatL (rA adr i ps):=⟨trivial,flat_ints _,flat_int _,trivial,trivial⟩
set_option maxHeartbeats 2000000 in
theorem sort_add {n:Nat} {t:Tok} {rest:List Value} {ps:List Int} (F:FnK K fa "TopologicalSorter.add" (inS (topS 15) 2) .none .none) (NK:NodeK K CN) (SK:SortK K w CS) (hkN:keepIn K (.ref CN)=true) (hA:OKA A (n+4)) (Gb:GK K mg mb hb) (hbs:Ext hb s.heap) (N:SortN mg mb CN)
  (r:SRep prog w CN CS hb s.heap adr σ) (hz:σ.ns.length≤500) (hrd:σ.rd=none) (hr:IntsAre rest ps) (hrest:rest=[]∨∃ v,rest=[v]) (hps:∀ p∈ps,p∈σ.ns) (hsu:∀ p,(σ.su p).length≤500)  (E:VSP) :
  codeAny (model prog w) A (.call (.ref fa) ⟨.ref (adr .x)::.int i t::rest,[]⟩) (Out (fun v s'=>v=.none∧∃ adr',Aft prog w CN CS hb adr σ s (addS σ i ps) adr' s') E) s:=by
 have hlen:rest.length≤1:=by rcases hrest with e|⟨v,e⟩ <;> rw[e] <;> simp
 have hplen:ps.length≤1:=by have:=ints_len hr;omega
 obtain ⟨fi,MK⟩:=SK.info
 refine fn_goV (n:=n+3) (X:=[]) (rest:=rest) (fun t'=>[("self",.ref (adr .x)),("node",.int i t),("predecessors",t')]) [("predecessors",.dat (.tuple (ps.map .int))),("node",.dat (.int i)),("self",.val (.ref (adr .x)))] F hA (Gb.ext hbs) (fun zz m=>by cases m) (fun doc pm an cdv ct=>by rcases hrest with rfl|⟨v,rfl⟩ <;> kernel_rfl) (by omega) (by decide +kernel) (fun t=>locs (by kernel_rfl)) (by kernel_rfl) (by kernel_rfl) (by kernel_rfl)
  (fun a X' h' ht hd e=>⟨rfl,.tuple ht (by rw[List.toList_toArray];exact .ofInts hr),rfl,.int _ _,rfl,rfl,trivial⟩) fun L env h1a tk fr hX1 hid f0=>?_
 refine hideQ fun Q1 hQ1=>?_
 have hLb:hb.get? L=none:=none_before hbs fr.new
 have hOA:OKA (A.deeper env) (n+3):=fr.ok
 have hnL:∀ p,Lv σ p→adr p≠L:=fun p l z=>by obtain ⟨o,e,_⟩:=r.there l;rw[z,fr.new] at e;cases e
 let I:=fun (ρ:List (Str×VD)) (adr:Pl→Addr) (σ:Srt)=>Fr2 K mg mb hb L ρ (RS prog w CN CS hb L adr σ)
 have i1a:I [("predecessors",.dat (.tuple (ps.map .int))),("node",.dat (.int i)),("self",.val (.ref (adr .x)))] adr σ [L] h1a:=⟨⟨f0.1,Ext.trans hbs f0.2.1,f0.2.2⟩,r.ext f0.2.1,hnL⟩
 have up:=fun (ρ:List (Str×VD)) (adr:Pl→Addr) (σ:Srt)=>up2 (K:=K) (mg:=mg) (mb:=mb) (h0a:=hb) (ρ:=ρ) (rest_rs (L:=L) (prog:=prog) (w:=w) (CN:=CN) (CS:=CS) (hb:=hb) (adr:=adr) (σ:=σ))
 have lv:∀ (y:Str) (ρ:List (Str×VD)) (adr:Pl→Addr) (σ:Srt) {p:Pos} {u:Value},(fScope (inS (topS 15) 2)).names.lookup y=some .local→ρ.lookup y=some (.val u)→(y == ("__debug__":Str))=false→EvR prog w (A.deeper env) env (I ρ adr σ) (.Name y p) (fun zz zz v=>v=u):=fun y ρ adr σ p d a b c=>ev_locv fr.le (by rw[fr.k];exact a) loc2 b c
 have ld:∀ (y:Str) (ρ:List (Str×VD)) (adr:Pl→Addr) (σ:Srt) {p:Pos} {d:PyData},(fScope (inS (topS 15) 2)).names.lookup y=some .local→ρ.lookup y=some (.dat d)→(y == ("__debug__":Str))=false→Ev prog w (A.deeper env) env (I ρ adr σ) (.Name y p) d:=fun y ρ adr σ p d a b c=>ev_loc fr.le (by rw[fr.k];exact a) loc2 b c
 have kin:∀ {ρ adr σ},∀ X h,I ρ adr σ X h→K.In h:=fun X h i=>i.1.1.k
 have rep:∀ {ρ adr σ},∀ X h,I ρ adr σ X h→SRep prog w CN CS hb h adr σ:=fun X h i=>i.2.1
 have all:∀ {ρ adr σ},∀ X h,I ρ adr σ X h→K.In h∧Ext hb h∧SRep prog w CN CS hb h adr σ:=fun X h i=>⟨i.1.1.k,i.1.2.1,i.2.1⟩
 try dsimp only
 show NR prog w _ (execs (_::_) env) _ _
 refine xc (ifs (b:=false) (tr_isnt (I:=I _ adr σ) (R:=fun v=>v=.none) (R':=fun v=>v=.none) (up _ _ _) ((ev_rd SK (up _ _ _) (lv "self" _ _ _ (by kernel_rfl) (by rfl) (by kernel_rfl)) kin rep).mono fun X h v e=>by rw[e];unfold rdV;rw[hrd];rfl) (ev_none.mono fun X h v a=>a.none_inv) (fun u v a b=>by rw[a,b];exact ⟨rfl,rfl⟩)) hX1 i1a fun s2a k2a=>?_)
 rw[if_neg (by decide)]
 refine wpAny_execs_nil ?_
 obtain ⟨h2a,tk2,rfl,e2a⟩:=k2a
 have e2a:Ext h1a h2a:=e2a
 have i2a:=(up _ _ _).ext e2a i1a
 have b2b:=hX1.ext e2a
 try dsimp only
 show NR prog w _ (execs (_::_) env) _ _
 refine xc (wpAny_Assign_Name (hs:=by rfl) (meth_wp SK MK (up _ _ _) b2b i2a (lv "self" _ _ _ (by kernel_rfl) (by rfl) (by kernel_rfl)) kin rep fun s3a k3a i3a=>with1 (P:=IsI i) (up _ _ _) (keeper_K gk2 MK.keep) (EvR.int (ld "node" _ _ _ (by kernel_rfl) (by rfl) (by kernel_rfl))) (b2b.ext (kp_ext k3a)) i3a fun s4a v k4a i4a hv=>?_))
 obtain ⟨t4,rfl⟩:=hv
 refine wpAny_mono (get_info (n:=n) MK.fn NK SK hkN hOA Gb i4a.1.2.1 N.ni i4a.2.1 (by omega) _) (fun v s5a q=>?_) fun zz zz z=>z
 obtain ⟨_,adr',rfl,h5,tk5,rfl,r5a,o5a,g5⟩:=q
 obtain ⟨h4a,tk4,rfl,e4a⟩:=kp_trans k3a k4a
 have e4a:Ext h2a h4a:=e4a
 have o5a:OffS adr σ h4a h5:=o5a
 have g5:GrownS adr adr' σ (ensN σ i) h4a:=g5
 have hx':adr' .x=adr .x:=(g5.1 .x trivial).2
 have i5a:I [("predecessors",.dat (.tuple (ps.map .int))),("node",.dat (.int i)),("self",.val (.ref (adr .x)))] adr' (ensN σ i) [L] h5:=RS.call i4a Gb ⟨flat_ints _,flat_int _,trivial,trivial⟩ o5a r5a g5
 have bL:∀ {ρ adr σ h},I ρ adr σ [L] h→Bd [L] h:=fun i b m=>by rw[m_s m];obtain ⟨ob,e,_⟩:=i.1.nt;exact ⟨ob,e⟩
 refine st2 (D:=.val (.ref (adr' (.nd i 0)))) rest_rs i5a rfl (bL i5a) fr.le (by rw[fr.k];kernel_rfl) Gb hLb (.head _) fun h6a tk6 o6 b6 i6a=>?_
 have hi5:i∈(ensN σ i).ns:=ensN_mem
 have s4:Ext s.heap h4a:=fun b ob eb=>e4a _ _ (e2a _ _ (f0.2.1 b ob eb))
 try dsimp only
 show NR prog w _ (execs (_::_) env) _ _
 refine xc (aug_np (c:=ps.length) NK (up _ _ _) b6 i6a (lv "nodeinfo" _ _ _ (by kernel_rfl) (by rfl) (by kernel_rfl)) (ev_call (ds:=[.tuple (ps.map .int)]) (up _ _ _) (ev_builtin gk2 fr.ge (by rw[fr.k];kernel_rfl) N.len N.lenb) keeper_builtin (ev_cons (up _ _ _) (ld "predecessors" _ _ _ (by kernel_rfl) (by rfl) (by kernel_rfl)) ev_nil) fun s X vs zz zz a=>by have:=op_len_tuple (prog:=prog) (w:=w) (A:=A.deeper env) (ds:=ps.map .int) a (by rw[List.length_map];omega);rwa [List.length_map] at this) all hi5 fun h7a h8a tk8 e7a o8 r8=>?_)
 have e7a:Ext h6a h7a:=e7a
 obtain ⟨τ,hτ⟩:∃ τ:Srt,τ={ ensN σ i with np:=upd (ensN σ i).np i ((ensN σ i).np i+ps.length) }:=⟨_,rfl⟩
 rw[← hτ] at r8
 have τlv:∀ p,Lv τ p↔Lv (ensN σ i) p:=fun p=>by rw[hτ];cases p <;> exact Iff.rfl
 have τns:τ.ns=(ensN σ i).ns:=by rw[hτ]
 have i7:=(up _ _ _).ext e7a i6a
 have i8:I (rA adr' i ps) adr' τ [L] h8a:=by
  have:=RS.turn (X':=[L]) (p:=.nd i 0) i7 Gb ⟨trivial,flat_ints _,flat_int _,trivial,trivial⟩ ⟨hi5,by decide⟩ o8 r8 fun p l=>i7.2.2 p ((τlv p).mp l)
  exact ⟨this.1.sub ⟨rfl,rfl,rfl,by rw[hx'];rfl,trivial⟩,this.2⟩
 have nss:(ensN σ i).ns.length≤501:=by
  unfold ensN;split
  ·omega
  ·simp only[List.length_append,List.length_cons,List.length_nil];omega
 have suz:∀ p,(τ.su p).length≤500:=fun p=>by
  rw[hτ];show ((ensN σ i).su p).length≤500
  unfold ensN;split
  ·exact hsu p
  ·show (upd σ.su i [] p).length≤500;unfold upd;split
   ·simp
   ·exact hsu p
 have sub:∀ p∈ps,p∈τ.ns:=fun p m=>by rw[τns];exact (by unfold ensN;split;exact hps p m;exact m_l _ (hps p m))
 have i8':I (rA adr' i ps) adr' τ (L::ownL adr' τ) h8a:=⟨i8.1.flat flat_rA,i8.2⟩
 have b8:Bd (L::ownL adr' τ) h8a:=fun b m=>by
  rcases mC m with rfl|m
  ·obtain ⟨ob,e,_⟩:=i8.1.nt;exact ⟨ob,e⟩
  ·obtain ⟨p,l,rfl⟩:=mem_ownL.mp m
   obtain ⟨ob,e,_⟩:=i8.2.1.there l;exact ⟨ob,e⟩
 try dsimp only
 show NR prog w _ (execs (_::_) env) _ _
 refine xc (for_s (T:=AtF PyData.int) (ds:=ps) (β:=Nat) (fun i b=>b=i) (fun zz=>rA adr' i ps) (fun b=>(ps.take b).foldl (fun σ p=>addP σ i p) τ) 0 (L:=L) i8' flat_rA (fun b p=>addP_lvs i p _ _) rfl rfl ⟨rfl,rfl,rfl,rfl,trivial⟩ (src_tupleF PyData.int hOA.handled (ld "predecessors" _ _ _ (by kernel_rfl) (by rfl) (by kernel_rfl))) b8 (fun b m=>m) Gb ?_ ?_)
 ·rintro k v0 u h9 tk9 X' b hd hu b9 hX' rfl i9
  obtain ⟨τb,hτb⟩:∃ τb,τb=(ps.take b).foldl (fun σ p=>addP σ i p) τ:=⟨_,rfl⟩
  have hnext:(ps.take (b+1)).foldl (fun σ p=>addP σ i p) τ=addP τb i v0:=by rw[List.take_add_one,hd,hτb];simp
  rw[← hτb] at i9
  have hmem:v0∈ps:=List.mem_of_getElem? hd
  have hns:τb.ns=τ.ns:=by rw[hτb];exact addP_ns i _ _
  have hv0:v0∈τb.ns:=by rw[hns];exact sub v0 hmem
  have hlv:∀ p,Lv τb p↔Lv τ p:=fun p=>by rw[hτb];exact addP_lvs i p _ _
  refine name2 (D:=.dat (.int v0)) rest_rs i9 hu b9 fr.le (by rw[fr.k];kernel_rfl) Gb hLb (hX' _ (.head _)) fun h10 tk10 o10 b10 i10=>?_
  refine hideQ fun Q2 hQ2=>?_
  try dsimp only
  show NR prog w _ (execs (_::_) env) _ _
  refine xc (wpAny_Assign_Name (hs:=by rfl) (meth_wp SK MK (up _ _ _) b10 i10 (lv "self" _ _ _ (by kernel_rfl) (by rfl) (by kernel_rfl)) kin rep fun s3a k3a i3a=>with1 (P:=IsI v0) (up _ _ _) (keeper_K gk2 MK.keep) (EvR.int (ld "pred" _ _ _ (by kernel_rfl) (by rfl) (by kernel_rfl))) (b10.ext (kp_ext k3a)) i3a fun s4a v k4a i4a hv=>?_))
  obtain ⟨t4,rfl⟩:=hv
  refine wpAny_mono (get_info (n:=n) MK.fn NK SK hkN hOA Gb i4a.1.2.1 N.ni i4a.2.1 (by rw[hns,τns];omega) _) (fun v s5a q=>?_) fun zz zz z=>z
  obtain ⟨ev,k5a⟩:=q.1 hv0
  subst ev
  obtain ⟨h11,tk11,rfl,e11⟩:=kp_trans k3a (kp_trans k4a k5a)
  have e11:Ext h10 h11:=e11
  have i11:=(up _ _ _).ext e11 i10
  refine st2 (D:=.val (.ref (adr' (.nd v0 0)))) rest_rs i11 rfl (b10.ext e11) fr.le (by rw[fr.k];kernel_rfl) Gb hLb (hX' _ (.head _)) fun h12 tk12 o12 b12 i12=>?_
  try dsimp only
  show NR prog w _ (execs (_::_) env) _ _
  refine xc (wpAny_Expr_any (hi:=fr.ge.inter) (append_i (m:=i) (l:=τb.su v0) (up _ _ _) b12 i12 (ev_su NK (up _ _ _) (lv "pred_info" _ _ _ (by kernel_rfl) (by rfl) (by kernel_rfl)) kin rep hv0) (ld "node" _ _ _ (by kernel_rfl) (by rfl) (by kernel_rfl)) (fun X h i=>i.2.1.at_ (.nd v0 2) ⟨hv0,by decide⟩) ?_ fun h13 h14 tk14 e13 o14a l14=>?_))
  ·rw[hτb]
   have:=addP_su i v0 (ps.take b) τ
   have:=suz v0
   have:(ps.take b).length≤1:=by rw[List.length_take];omega
   omega
  ·have e13:Ext h12 h13:=e13
   have i13:=(up _ _ _).ext e13 i12
   have r14:=i13.2.1.su hv0 (Ext.refl _) i13.1.2.1 o14a l14
   have i14:=RS.turn (X':=X') (p:=.nd v0 2) i13 Gb ⟨trivial,flat_int _,flat_rA⟩ ⟨hv0,by decide⟩ o14a r14 fun p l=>i13.2.2 p l
   refine wpAny_execs_nil (hQ2 _ _ ⟨h14,_,b+1,rfl,?_,rfl,?_⟩)
   ·refine (o10.mono fun q m=>by rw[m_s m];exact .head _).trans ((Ext.off e11).trans ((o12.mono fun q m=>by rw[m_s m];exact .head _).trans ((Ext.off e13).trans (o14a.mono fun q m=>?_))))
    rw[m_s m];exact .tail _ (mem_ownL.mpr ⟨.nd v0 2,(hlv (.nd v0 2)).mp ⟨hv0,by decide⟩,rfl⟩)
   ·rw[hnext]
    exact ⟨i14.1.sub ⟨rfl,rfl,rfl,rfl,trivial⟩,i14.2⟩
 ·rintro h9 tk9 b b9 rfl i9 o9
  rw[List.take_length] at i9
  refine wpAny_execs_nil (hQ1 _ _ ⟨rfl,adr',h9,_,rfl,by unfold addS;rw[← hτ];exact i9.2.1,?_,?_⟩)
  ·intro b ob eb nb
   have n4:=s4 _ _ eb
   have ne:b≠L:=fun z=>by rw[z,fr.new] at eb;cases eb
   have no':∀ p,Lv (ensN σ i) p→adr' p≠b:=fun p l z=>by
    rcases g5.2 p l with l'|l'
    ·exact nb p l' (by rw[← (g5.1 p l').2];exact z)
    ·rw[z,n4] at l';cases l'
   refine o9 b ob (fun m=>?_) (o8 b ob (fun m=>no' (.nd i 0) ⟨hi5,by decide⟩ (m_s m).symm) (e7a _ _ (o6 b ob (fun m=>ne (m_s m)) (o5a b ob n4 nb))))
   rcases m_c m with z|m
   ·exact ne z
   ·obtain ⟨p,l,z⟩:=mem_ownL.mp m
    exact no' p ((τlv p).mp l) z
  ·have lvF:∀ p,Lv (addS σ i ps) p↔Lv (ensN σ i) p:=fun p=>by unfold addS;rw[← hτ];exact (addP_lvs i p _ _).trans (τlv p)
   exact ⟨fun p l=>⟨(lvF p).mpr (g5.1 p l).1,(g5.1 p l).2⟩,fun p l=>(g5.2 p ((lvF p).mp l)).imp id (none_before s4)⟩
end
section
variable {adr:Pl→Addr} {σ:Srt} {M:List Addr} {i:Int}
noncomputable def KV (X:List Addr) (h:Heap) (v:Value) (p:Int×Value):Prop:=∃ a t,v=.ref a∧h.IsTuple a #[.int p.1 t,p.2]
theorem int_is {k:Int} (e:(intKind prog w).is k v=true):∃ t,v=.int k t:=by
 unfold intKind at e
 cases v with
 | int j t =>
  have e:(j == k)=true:=e
  exact ⟨t,by rw[beq_iff_eq.mp e]⟩
 | _=>cases e
theorem entry_ii:entryFor table "dict_itemiterator.__iter__"=some Builtin.«dict_keyiterator.__iter__» :=
 entryFor_alias (id':="dict_keyiterator.__iter__") (by kernel_rfl) rfl (by decide +kernel) (by kernel_rfl)
theorem pyIter_itemiter {it:Addr} {Q:VSP} (hit:Shared.TypeIs s (.ref it) "dict_itemiterator") (h:Q (.ref it) s):wpAny (model prog w) A (pyIter (.ref it)) Q E s:=by
 refine wpAny_pyIter_slot hit PySem.F.slot_dict_itemiterator_iter (wpAny_call_entry PySem.F.slot_dict_itemiterator_iter hit entry_ii ?_ (PySem.F.args_dict_itemiterator_iter_1 _))
 show wpAny _ _ (PySem.ret (.ref it)) _ _ s
 exact wpAny_pure ⟨_,rfl,"dict_itemiterator",_,hit,PySem.F.slot_dict_itemiterator_next.lookup,h⟩
theorem itb_items {es:List Expr} {tp:Pos} {v d:Addr} {kvs:List (Int×Value)} (hh:A.handled=none) (ke:Ext h0a s.heap) (hv:s.heap.IsItemsView v d) (hd:s.heap.DictOf (intKind prog w) d kvs) (hdX:d∉X) :
  Itb KV prog w A (.Tuple es kk tp) X h0a s (.ref v) kvs:=fun Q E k=>by
 obtain ⟨ep,hd⟩:=hd.dictAt
 refine wpAny_pyIter_items hv hd (k _ [s.heap.objs.size,d] [s.heap.objs.size] (fun i h=>∃ ok ov,IsItemIter h s.heap.objs.size d i kvs.length ep ok ov∧h.DictAt (intKind prog w) d kvs ep)
  (fun i v h=>∃ a key val kx,v=.ref a∧IsItemIterOut h s.heap.objs.size d (i+1) kvs.length ep key val a∧h.IsTuple a #[key,val]∧kvs[i]?=some (kx,val)∧(intKind prog w).is kx key=true∧h.DictAt (intKind prog w) d kvs ep) _ (kp_push _ _) ?_)
 have hdI:d≠s.heap.objs.size:=Nat.ne_of_lt hd.lt_size
 constructor
 ·rintro X h h' v p ⟨a,t,e,o,ho,hc,n,hd⟩ k
  exact ⟨a,t,e,o,k _ _ ho (.inr ⟨hc,_,_,hd⟩),hc,n,hd⟩
 ·exact fun b m=>by rw[m_s m];exact .head _
 ·rintro i h h' ⟨ok,ov,a,b⟩ k
  exact ⟨ok,ov,k s.heap.objs.size (.head _) _ a,b.at' fun o e=>k d (.tail _ (.head _)) o e⟩
 ·rintro i s' Q E hi ⟨ok,ov,a,b⟩ k
  obtain ⟨⟨kx,val⟩,hx⟩:∃ p,kvs[i]?=some p:=⟨kvs[i],by simp[hi]⟩
  refine wpAny_pyNext_items_item a b hx fun key h1a hk ho ht hs hke=>?_
  exact k (.ref s'.heap.objs.size) h1a s'.toks ⟨_,key,val,kx,rfl,ho,⟨_,ht,rfl,_,rfl⟩,hx,hk,b.at' fun o e=>hke _ _ hdI e⟩ fun b o n e=>hke _ _ (fun z=>n (by rw[z];exact List.mem_singleton_self _)) e
 ·rintro s' Q E ⟨ok,ov,a,b⟩ k
  exact wpAny_pyNext_items_end hh a b (by simp) fun h1a hs=>k h1a s'.toks fun b o n e=>hs _ _ (fun z=>n (by rw[z];exact List.mem_singleton_self _)) e
 ·rintro i s' Q E ⟨ok,ov,a,b⟩ q
  exact pyIter_itemiter ⟨_,a,rfl⟩ q
 ·exact ⟨.none,.none,Heap.get?_push_size _ rfl,hd.push _⟩
 ·intro b m
  rcases mC m with rfl|m
  ·exact ⟨_,Heap.get?_push_size _ rfl⟩
  ·rw[m_s m];obtain ⟨o,es,e,_⟩:=hd.push { cls:=.type "dict_itemiterator",data:=.fields #[.none,.bool false,.ref d,.int 0 0,.int kvs.length 0,.int ep 0,.none,.none] };exact ⟨o,e⟩
 ·intro b m
  rw[m_s m];exact none_before ke (size_none _)
 ·intro b m
  rcases mC m with rfl|m
  ·exact .inl (.head _)
  ·rw[m_s m];exact .inr (.inl hdX)
 ·rintro i h ⟨ok,ov,a,b⟩ c m
  rw[m_s m];exact ⟨_,a,not_tup_of_fields rfl⟩
 ·rintro i v h ⟨a,key,val,kx,e,o,t,_⟩ c m
  rw[m_s m];exact ⟨_,o,not_tup_of_fields rfl⟩
 ·rintro i v h X' ⟨a,key,val,kx,e,o,t,hx,hk,_⟩ _ _
  obtain ⟨tt,rfl⟩:=int_is hk
  exact ⟨(kx,val),hx,a,tt,e,t⟩
 ·rintro i v s' Q E ⟨a,key,val,kx,rfl,o,t,hx,hk,b⟩ q
  refine wpAny_letOwnedTupleGo_items o fun h1a hi hs=>q h1a ⟨key,val,hi,b.extBut hs.extBut hdI⟩ fun b o n e=>hs.extBut _ _ (fun z=>n (by rw[z];exact List.mem_singleton_self _)) e
theorem src_items {o:Expr} {es:List Expr} {tp apos pos:Pos} {d:Addr} {kvs:List (Int×Value)} (up:Up I) (hh:A.handled=none) (ho:EvR prog w A env I o (fun zz zz v=>v=.ref d)) (hD:∀ X h,I X h→h.DictOf (intKind prog w) d kvs) (hsys:d≠sysModules)
  (hline:(apos.endLine == pos.line)=true:=by rfl) (hbase:attributeBase o "items" env (eval o env)=eval o env:=by rfl) :
  Src KV prog w A env (fun X h=>I X h∧d∉X) (.Tuple es kk tp) (.Call (.Attribute o "items" apos) [] [] pos) kvs:=fun s E X hX hI=>by
 refine wpAny_Call_method0_late hbase hline (ho.wp hX hI.1 fun v s1a k1a ev=>?_)
 subst ev
 have i1a:=up.ext (kp_ext k1a) hI.1
 have d1a:=hD _ _ i1a
 refine ⟨"dict","dict.items",PySem.F.plainAttrs_dict,PySem.F.slot_dict_items,PySem.F.type_dict_items,d1a.mapOf.typeIs,fun a ea=>?_,?_⟩
 ·cases ea
  obtain ⟨o,es,ep,eo,hx,_⟩:=d1a
  exact ⟨o,eo,hx.2.1⟩
 refine method_meetsIn PySem.F.slot_dict_items PySem.F.entry_dict_items rfl (PySem.evalArgs_none ⟨rfl,d1a.mapOf.typeIs,PySem.F.args_dict_items_1 _,_,meets_dict_items (intKind prog w) d (beq_eq_false_iff_ne.mpr hsys),⟨kvs,d1a⟩,?_⟩)
 refine ⟨kp_trans k1a (kp_push _ _),itb_items hh (Ext.trans (kp_ext k1a) (Ext.push _ _)) ⟨_,Heap.get?_push_size _ rfl,rfl,rfl⟩ (dictOf_keep d1a fun o e=>Heap.get?_push_of_some _ e) hI.2⟩
theorem two_v {x:Str} {px py tp:Pos} {tk:Nat} {D1 D2:VD} {v1a v2a:Value} {Q:Unit→Shared→Prop} (r:Rest L R) (hh:A.handled=none) (st:Fr2 K mg mb h0a L ρ R X s.heap) (ht:s.heap.IsTuple a #[v1a,v2a]) (hv1:D1.at X s.heap v1a) (hv2:D2.at X s.heap v2a) (hX:Bd X s.heap) (le:LocEnv env L) (hx:env.kindOf x=some .local) (hy:env.kindOf y=some .local)
  (G:GK K mg mb h0a) (hL0:h0a.get? L=none) (hL:L∈X) (k:∀ h' tk,Off [L] s.heap h'→Bd X h'→Fr2 K mg mb h0a L ((y,D2)::(x,D1)::ρ) R X h'→Q () { s with heap:=h',toks:=tk }) :
  NR prog w A (assign (.Tuple [.Name x px,.Name y py] tk tp) env (.ref a)) Q s:=by
 refine wpAny_assign_Tuple hh ht (by rfl) rfl fun h1a k1a=>?_
 have k1a:=eo_off (size_none _) k1a
 have st1:=up2 r _ _ _ _ k1a (Hid.refl X _) st
 refine wpAny_assignInOrder_more (name2 (D:=D1) r st1 (VD.chg k1a.chg hv1) (hX.ext k1a) le hx G hL0 hL fun h2a tk2 o2a b2b st2a=>?_)
 have c2a:Chg X h1a h2a:=o2a.chg fun b m=>by rw[m_s m];exact ⟨hL,st1.1.nt.mk⟩
 refine wpAny_assignInOrder_more (name2 (D:=D2) r st2a (VD.chg c2a (VD.chg k1a.chg hv2)) b2b le hy G hL0 hL fun h3a tk3 o3a b3a st3=>?_)
 exact wpAny_assignInOrder_none (k _ _ ((Ext.off k1a).trans (o2a.trans o3a)) b3a st3)
theorem star_nil {Q:List Value→Shared→Prop} (hl:Lst s.heap a #[]) (q:∀ h',Ext s.heap h'→Q [] { s with heap:=h' }):StarOf (model prog w) A E (.ref a) Q s:=by
 obtain ⟨n,ob⟩:=hl
 have hT:s.TypeIs (.ref a) "list":=⟨_,ob,rfl⟩
 unfold StarOf notIterableAtAll
 refine wpAny_bind (wpAny_specialOf hT PySem.F.slot_list_iter.lookup (wpAny_pure ⟨rfl,?_⟩))
 exact wpAny_collect_seq a (.inl rfl) ob rfl rfl (fun h' hk=>q h' hk) (by rw[sizeLine_eq];exact Nat.zero_le _)
end
section
open Builtin Builtin.ObjectAttr Builtin.Getset_descriptor
theorem kv3 {l0 l1 l2:Addr} {i:Nat} {kk:Int} (h:([(0,.ref l0),(1,.ref l1),(2,.ref l2)]:List (Int×Value))[i]?=some (kk,u)):([0,1,2]:List Int)[i]?=some kk∧∃ l,u=.ref l∧l∈[l0,l1,l2]:=by
 rcases i with _|_|_|i
 ·cases h;exact ⟨rfl,l0,rfl,.head _⟩
 ·cases h;exact ⟨rfl,l1,rfl,.tail _ (.head _)⟩
 ·cases h;exact ⟨rfl,l2,rfl,.tail _ (.tail _ (.head _))⟩
 ·cases h
section
noncomputable def s0:Srt:=⟨[],fun zz=>0,fun zz=>[],none,0,0⟩
noncomputable def sInit (i:Nat):Srt:=(([0,1,2]:List Int).take i).foldl (fun σ n=>addS σ n []) s0
noncomputable def pob (l:List DictEntry):Obj:={ cls:=.type "dict",data:=.dict l.toArray l.length }
noncomputable def adr0 (x dx D:Addr):Pl→Addr
 | .x=>x
 | .dx=>dx
 | _=>D
theorem sInit_succ {i:Nat} {n:Int} (h:([0,1,2]:List Int)[i]?=some n):sInit (i+1)=addS (sInit i) n []:=by
 rcases i with _|_|_|i
 ·cases h;rfl
 ·cases h;rfl
 ·cases h;rfl
 ·cases h
theorem sInit_more (i:Nat):sInit (i+3)=sInit 3:=by unfold sInit;rw[List.take_of_length_le (by simp),List.take_of_length_le (by decide)]
theorem sInit_rd (i:Nat):(sInit i).rd=none:=by
 match i with
 | 0|1|2=>rfl
 | i+3=>rw[sInit_more];rfl
theorem sInit_ns (i:Nat):(sInit i).ns.length≤3:=by
 match i with
 | 0|1|2=>decide
 | i+3=>rw[sInit_more];decide
theorem sInit_su (i:Nat) (p:Int):(sInit i).su p=[]:=by
 match i with
 | 0=>rfl
 | 1=>show upd _ _ _ p=_;unfold upd;split <;> rfl
 | 2=>show upd (upd _ _ _) _ _ p=_;unfold upd;repeat (first|rfl|split)
 | i+3=>rw[sInit_more];show upd (upd (upd _ _ _) _ _) _ _ p=_;unfold upd;repeat (first|rfl|split)
theorem lvE {motive:(p:Pl)→Lv s0 p→Prop} (x:motive .x trivial) (dx:motive .dx trivial) (D:motive .D trivial) (p:Pl) (l:Lv s0 p):motive p l:=by
 cases p,l using plF with
 | x=>exact x
 | dx=>exact dx
 | D=>exact D
 | rl l=>cases l
 | nd n j l=>cases l.1
set_option maxHeartbeats 2000000 in
theorem sort_new {n:Nat} {g l0 l1 l2:Addr} (NK:NodeK K CN) (SK:SortK K w CS) (hkN:keepIn K (.ref CN)=true) (hA:OKA A (n+6)) (G:GK K mg mb s.heap) (N:SortN mg mb CN) (hg:s.heap.DictOf (intKind prog w) g [(0,.ref l0),(1,.ref l1),(2,.ref l2)]) (hgs:g≠sysModules)
  (hl:∀ l∈[l0,l1,l2],Lst s.heap l #[]) (E:VSP) :
  wpAny (model prog w) A (call (.ref CS) [.ref g]) (fun v s'=>∃ adr h' tk,v=.ref (adr .x)∧s'={ s with heap:=h',toks:=tk }∧Ext s.heap h'∧SRep prog w CN CS s.heap h' adr (sInit 3)) E s:=by
 obtain ⟨f,T,hf,ht,F,hT⟩:=SK.init
 obtain ⟨oc,odT,osl,m,hT⟩:=hT
 obtain ⟨fa,MA⟩:=SK.add
 obtain ⟨h,gs,d,t,os⟩:=s
 refine wpAny_call (make_core (makes_of G.k SK.mkI) (looks_findIn G.k hf) (fun self=>bind_fn G.k self ht) (.inl rfl) ?_)
 have e1:Ext h ((h.push emptyDict).push (instObj CS h.objs.size)):=Ext.trans (Ext.push _ _) (Ext.push _ _)
 refine fn_code (n:=n+4) (binds:=[("self",.ref (h.objs.size+1)),("graph",.ref g)]) F hA.make (G.ext e1) (fun doc pm an cdv ct=>BindsTo.of_defaults rfl ((G.ext e1).k _ _ hT) rfl (by with_unfolding_all exact Eq.refl (bindArgs _ _)) (by with_unfolding_all exact Eq.refl (pure [("self",Value.ref (h.objs.size+1)),("graph",.ref g)]:Sem (List (Str×Value))))) (by decide +kernel) (locs (by kernel_rfl)) (by kernel_rfl) (by kernel_rfl) (by kernel_rfl) fun env h1a tk fr e1a hn=>?_
 generalize hH:(h.push emptyDict).push (instObj CS h.objs.size)=H at e1 fr e1a hn ⊢
 have gx:H.get? (h.objs.size+1)=some (instObj CS h.objs.size):=by
  rw[← hH]
  have:=Heap.get?_push_size (h.push emptyDict) (o:=instObj CS h.objs.size) rfl
  rwa [Heap.size_push] at this
 have gd:H.get? h.objs.size=some emptyDict:=by rw[← hH];exact Heap.get?_push_of_some _ (Heap.get?_push_size _ rfl)
 have nx:h.get? (h.objs.size+1)=none:=Heap.get?_none_of_le (Nat.le_succ _)
 have nd:h.get? h.objs.size=none:=size_none _
 generalize h.objs.size+1=x at gx nx hn ⊢
 generalize h.objs.size=dx at gx gd nd fr hn ⊢
 generalize hLn:H.objs.size=L at fr hn
 have nL:H.get? L=none:=by rw[← hLn];exact size_none _
 have hLx:L≠x:=fun q=>by rw[q,gx] at nL;cases nL
 have hLd:L≠dx:=fun q=>by rw[q,gd] at nL;cases nL
 have hxd:x≠dx:=fun q=>by rw[q,gd] at gx;have:=congrArg Obj.cls (Option.some.inj gx);simp at this
 have hLh:h.get? L=none:=none_before e1 nL
 let A':=(A.under (.builtin "type.__call__" ⟨[.ref CS,.ref g],[]⟩)).deeper env
 let ρ0:List (Str×VD):=[("graph",.val (.ref g)),("self",.val (.ref x))]
 let I:=fun (X:List Addr) (h':Heap)=>Fs K mg mb h L ρ0 X h'
 have upI:Up I:=up_fs
 have i1a:I [L,dx] h1a:=⟨(G.ext e1).ext e1a,Ext.trans e1 e1a,loc_of hn ⟨rfl,rfl,rfl,rfl,trivial⟩⟩
 have fl0:FlatL ρ0:=⟨trivial,trivial,trivial⟩
 have se:∀ p,EvR prog w A' env I (.Name "self" p) (fun zz zz v=>v=.ref x):=fun p=>ev_locv fr.le (by rw[fr.k];kernel_rfl) Fs.loc (by rfl) (by kernel_rfl)
 have step:∀ {ha hb:Heap} {o:Obj},I [L,dx] ha→Off [dx] ha hb→ha.get? x=some (instObj CS dx)→ha.get? dx=some o→o.cls=.type "dict"→I [L,dx] hb∧hb.get? x=some (instObj CS dx):=fun i0a o gx gd hc =>
  ⟨i0a.turn G fl0 o fun b m=>by rw[m_s m];exact ⟨nd,fun z=>hLd z.symm,_,gd,not_tup_of_cls hc (by decide)⟩,o _ _ (fun m=>hxd (m_s m)) gx⟩
 have bd:∀ {ha:Heap} {o:Obj},I [L,dx] ha→ha.get? dx=some o→Bd [L,dx] ha:=fun i g b m=>by
  rcases mC m with rfl|m
  ·obtain ⟨o,e,_⟩:=i.nt;exact ⟨o,e⟩
  ·rw[m_s m];exact ⟨_,g⟩
 refine hideQ fun Q1 hQ1=>?_
 try dsimp only
 show NR prog w _ (execs (_::_) env) _ _
 refine xc (plainObj_wpAny_Assign_Attribute (wpAny_Dict_empty ((se _).wp (bd (upI.ext (Ext.push _ _) i1a) (Heap.get?_push_of_some _ (e1a _ _ gd))) (upI.ext (Ext.push _ _) i1a) fun v s2a k2a ev=>?_)))
 subst ev
 obtain ⟨h2a,tk2,rfl,e2a⟩:=k2a
 obtain ⟨D,hD⟩:∃ D,D=h1a.objs.size:=⟨_,rfl⟩
 have e2a:Ext (h1a.push { cls:=.type "dict",data:=.dict #[] }) h2a:=e2a
 have E2:Ext h1a h2a:=Ext.trans (Ext.push _ _) e2a
 have i2a:=upI.ext E2 i1a
 have nD:h1a.get? D=none:=hD▸size_none _
 have d2:h2a.DictOf (intKind prog w) D []:=hD▸dictOf_keep (Heap.DictOf.new (knd:=intKind prog w) h1a) fun o e=>e2a _ _ e
 rw[← hD]
 have hDx:D≠x:=fun q=>by rw[q,e1a _ _ gx] at nD;cases nD
 have hDd:D≠dx:=fun q=>by rw[q,e1a _ _ gd] at nD;cases nD
 have hDL:D≠L:=fun q=>by obtain ⟨o,e,_⟩:=i1a.nt;rw[q,e] at nD;cases nD
 have inst:InstAt h2a x (instObj CS dx) CS (some emptyDict):=⟨E2 _ _ (e1a _ _ gx),rfl,rfl,E2 _ _ (e1a _ _ gd)⟩
 let en (nm:Str) (t:Tok) (v:Value):DictEntry:=⟨PyData.keyHash w.params nm,.str nm t,v⟩
 refine store_own (od':=fun t=>pob [en "_node2info" t (.ref D)]) (es:=fun t=>[en "_node2info" t (.ref D)]) (n:=1) i2a.1.k inst rfl (E2 _ _ (e1a _ _ gd)) SK.sa SK.po SK.k1 SK.hd (by rfl) (fun t=>by kernel_rfl) (fun t=>rfl) (fun t=>by simp) fun h3a t1 tk3 o3a g3a=>?_
 have o3a:Off [dx] h2a h3a:=o3a
 obtain ⟨i3a,x3⟩:=step i2a o3a (E2 _ _ (e1a _ _ gx)) (E2 _ _ (e1a _ _ gd)) rfl
 have d3:h3a.DictOf (intKind prog w) D []:=dictOf_keep d2 fun o e=>o3a _ _ (fun m=>hDd (m_s m)) e
 try dsimp only
 show NR prog w _ (execs (_::_) env) _ _
 refine xc (plainObj_wpAny_Assign_Attribute ((ev_none (I:=I)).wp (bd i3a g3a) i3a fun u s4a k4a eu=>(se _).wp ((bd i3a g3a).ext (kp_ext k4a)) (upI.ext (kp_ext k4a) i3a) fun v s5a k5a ev=>?_))
 have eu:=eu.none_inv
 subst eu ev
 obtain ⟨h5,tk5,rfl,e5a⟩:=kp_trans k4a k5a
 have e5a:Ext h3a h5:=e5a
 have i5a:=upI.ext e5a i3a
 refine store_own (od':=fun t=>pob [en "_node2info" t1 (.ref D),en "_ready_nodes" t .none]) (es:=fun t=>[en "_node2info" t1 (.ref D),en "_ready_nodes" t .none]) (n:=2) i5a.1.k (⟨e5a _ _ x3,rfl,rfl,e5a _ _ g3a⟩:InstAt h5 x (instObj CS dx) CS (some _)) rfl (e5a _ _ g3a) SK.sa SK.po SK.k2 SK.hd (by rfl) (fun t=>by kernel_rfl) (fun t=>rfl) (fun t=>by simp) fun h6a t2 tk6 o6 g6=>?_
 have o6:Off [dx] h5 h6a:=o6
 obtain ⟨i6a,x6⟩:=step i5a o6 (e5a _ _ x3) (e5a _ _ g3a) rfl
 have d6:h6a.DictOf (intKind prog w) D []:=dictOf_keep d3 fun o e=>o6 _ _ (fun m=>hDd (m_s m)) (e5a _ _ e)
 try dsimp only
 show NR prog w _ (execs (_::_) env) _ _
 refine xc (plainObj_wpAny_Assign_Attribute ((EvR.int (ev_int (I:=I))).wp (bd i6a g6) i6a fun u s7 k7 eu=>(se _).wp ((bd i6a g6).ext (kp_ext k7)) (upI.ext (kp_ext k7) i6a) fun v s8 k8 ev=>?_))
 obtain ⟨tp,rfl⟩:=eu
 subst ev
 obtain ⟨h8a,tk8,rfl,e8a⟩:=kp_trans k7 k8
 have e8a:Ext h6a h8a:=e8a
 have i8:=upI.ext e8a i6a
 refine store_own (od':=fun t=>pob [en "_node2info" t1 (.ref D),en "_ready_nodes" t2 .none,en "_npassedout" t (.int 0 tp)]) (es:=fun t=>[en "_node2info" t1 (.ref D),en "_ready_nodes" t2 .none,en "_npassedout" t (.int 0 tp)]) (n:=3) i8.1.k (⟨e8a _ _ x6,rfl,rfl,e8a _ _ g6⟩:InstAt h8a x (instObj CS dx) CS (some _)) rfl (e8a _ _ g6) SK.sa SK.po SK.k3 SK.hd (by rfl) (fun t=>by kernel_rfl) (fun t=>rfl) (fun t=>by simp) fun h9 t3 tk9 o9 g9=>?_
 have o9:Off [dx] h8a h9:=o9
 obtain ⟨i9,x9⟩:=step i8 o9 (e8a _ _ x6) (e8a _ _ g6) rfl
 have d9:h9.DictOf (intKind prog w) D []:=dictOf_keep d6 fun o e=>o9 _ _ (fun m=>hDd (m_s m)) (e8a _ _ e)
 try dsimp only
 show NR prog w _ (execs (_::_) env) _ _
 refine xc (plainObj_wpAny_Assign_Attribute ((EvR.int (ev_int (I:=I))).wp (bd i9 g9) i9 fun u s7 k7 eu=>(se _).wp ((bd i9 g9).ext (kp_ext k7)) (upI.ext (kp_ext k7) i9) fun v s8 k8 ev=>?_))
 obtain ⟨tf,rfl⟩:=eu
 subst ev
 obtain ⟨h10,tk10,rfl,e10⟩:=kp_trans k7 k8
 have e10:Ext h9 h10:=e10
 have i10:=upI.ext e10 i9
 refine store_own (od':=fun t=>sobj w.params t1 t2 t3 t (.ref D) .none (.int 0 tp) (.int 0 tf)) (es:=fun t=>[en "_node2info" t1 (.ref D),en "_ready_nodes" t2 .none,en "_npassedout" t3 (.int 0 tp),en "_nfinished" t (.int 0 tf)]) (n:=4) i10.1.k (⟨e10 _ _ x9,rfl,rfl,e10 _ _ g9⟩:InstAt h10 x (instObj CS dx) CS (some _)) rfl (e10 _ _ g9) SK.sa SK.po SK.k4 SK.hd (by rfl) (fun t=>by kernel_rfl) (fun t=>rfl) (fun t=>by simp) fun h11 t4 tk11 o11 g11=>?_
 have o11:Off [dx] h10 h11:=o11
 obtain ⟨i11,x11⟩:=step i10 o11 (e10 _ _ x9) (e10 _ _ g9) rfl
 have d11:h11.DictOf (intKind prog w) D []:=dictOf_keep d9 fun o e=>o11 _ _ (fun m=>hDd (m_s m)) (e10 _ _ e)
 have hhD:h.get? D=none:=none_before (Ext.trans e1 e1a) nD
 have rep:SRep prog w CN CS h h11 (adr0 x dx D) s0:=by
  refine ⟨fun p l=>?_,fun p q l l' z=>?_,fun p l=>?_⟩
  ·cases p,l using lvE with
   | x=>exact x11
   | dx=>exact ⟨t1,t2,t3,t4,tp,tf,g11⟩
   | D=>exact d11
  ·cases p,l using lvE with
   | x =>
    cases q,l' using lvE with
    | x=>rfl
    | dx=>exact absurd z hxd
    | D=>exact absurd z.symm hDx
   | dx =>
    cases q,l' using lvE with
    | x=>exact absurd z.symm hxd
    | dx=>rfl
    | D=>exact absurd z.symm hDd
   | D =>
    cases q,l' using lvE with
    | x=>exact absurd z hDx
    | dx=>exact absurd z hDd
    | D=>rfl
  ·cases p,l using lvE with
   | x=>exact nx
   | dx=>exact nd
   | D=>exact hhD
 have hnL:∀ p,Lv s0 p→adr0 x dx D p≠L:=fun p l=>by
  cases p,l using lvE with
  | x=>exact fun z=>hLx z.symm
  | dx=>exact fun z=>hLd z.symm
  | D=>exact hDL
 let J:=fun (ρ:List (Str×VD)) (adr:Pl→Addr) (σ:Srt)=>Fr2 K mg mb h L ρ (RS prog w CN CS h L adr σ)
 have up:=fun (ρ:List (Str×VD)) (adr:Pl→Addr) (σ:Srt)=>up2 (K:=K) (mg:=mg) (mb:=mb) (h0a:=h) (ρ:=ρ) (rest_rs (L:=L) (prog:=prog) (w:=w) (CN:=CN) (CS:=CS) (hb:=h) (adr:=adr) (σ:=σ))
 have lv:∀ (y:Str) (ρ:List (Str×VD)) (adr:Pl→Addr) (σ:Srt) {p:Pos} {u:Value},(fScope (inS (topS 15) 0)).names.lookup y=some .local→ρ.lookup y=some (.val u)→(y == ("__debug__":Str))=false→EvR prog w A' env (J ρ adr σ) (.Name y p) (fun zz zz v=>v=u):=fun y ρ adr σ p d a b c=>ev_locv fr.le (by rw[fr.k];exact a) loc2 b c
 have ld:∀ (y:Str) (ρ:List (Str×VD)) (adr:Pl→Addr) (σ:Srt) {p:Pos} {d:PyData},(fScope (inS (topS 15) 0)).names.lookup y=some .local→ρ.lookup y=some (.dat d)→(y == ("__debug__":Str))=false→Ev prog w A' env (J ρ adr σ) (.Name y p) d:=fun y ρ adr σ p d a b c=>ev_loc fr.le (by rw[fr.k];exact a) loc2 b c
 have hX0:∀ b,h.get? b≠none→b∉L::ownL (adr0 x dx D) s0:=fun b hb m=>by
  rcases mC m with rfl|m
  ·exact hb hLh
  ·obtain ⟨p,l,rfl⟩:=mem_ownL.mp m
   exact hb (rep.new p l)
 have j11:J ρ0 (adr0 x dx D) s0 (L::ownL (adr0 x dx D) s0) h11:=⟨i11.flat fl0,rep,hnL⟩
 have bj:∀ {ρ adr σ h'},J ρ adr σ (L::ownL adr σ) h'→Bd (L::ownL adr σ) h':=fun j b m=>by
  rcases mC m with rfl|m
  ·obtain ⟨ob,e,_⟩:=j.1.nt;exact ⟨ob,e⟩
  ·obtain ⟨p,l,rfl⟩:=mem_ownL.mp m
   obtain ⟨ob,e,_⟩:=j.2.1.there l;exact ⟨ob,e⟩
 have hAh:A'.handled=none:=hA.handled
 try dsimp only
 show NR prog w _ (execs (_::_) env) _ _
 refine xc (ifs (b:=true) (tr_isnt (I:=J ρ0 (adr0 x dx D) s0) (R:=fun v=>v=.ref g) (R':=fun v=>v=.none) (up _ _ _) (lv "graph" _ _ _ (by kernel_rfl) (by rfl) (by kernel_rfl)) (ev_none.mono fun X h v a=>a.none_inv) (fun u v a b=>by rw[a,b];exact ⟨rfl,rfl⟩)) (bj j11) j11 fun s2a k2a=>?_)
 obtain ⟨h12,tk12,rfl,e12a⟩:=k2a
 have e12a:Ext h11 h12:=e12a
 have j12:=(up _ _ _).ext e12a j11
 rw[if_pos rfl]
 have gin:h.get? g≠none:=by obtain ⟨o,es,ep,e,_⟩:=hg;have e:h.get? g=some o:=e;rw[e];simp
 try dsimp only
 show NR prog w _ (execs (_::_) env) _ _
 refine xc (for_zone (T:=KV) (ds:=[(0,.ref l0),(1,.ref l1),(2,.ref l2)]) (M:=L::ownL (adr0 x dx D) s0) (X:=L::ownL (adr0 x dx D) s0) (I:=fun X h=>J ρ0 (adr0 x dx D) s0 X h∧g∉X)
  (Inv:=fun hs i X' h'=>∃ adr',Fr2 K mg mb h L ρ0 (RS prog w CN CS h L adr' (sInit i)) X' h'∧GrownS (adr0 x dx D) adr' s0 (sInit i) hs∧i≤3)
  (src_items (up _ _ _) hAh (lv "graph" _ _ _ (by kernel_rfl) (by rfl) (by kernel_rfl)) (fun X h' i=>dictOf_keep hg fun o e=>i.1.2.1 _ _ e) hgs) (bj j12) ⟨j12,hX0 g gin⟩ (fun b m=>⟨m,bj j12 b m⟩) ?_ ?_ ?_ ?_ ?_)
 ·intro h' X' k q sub
  exact ⟨adr0 x dx D,(up _ _ _) _ _ _ _ k q j12,GrownS.refl,by decide⟩
 ·rintro hs i X' h' ⟨adr',f',g',_⟩ b m
  rcases mC m with rfl|m
  ·exact f'.1.nt
  ·obtain ⟨p,l,rfl⟩:=mem_ownL.mp m
   rw[← (g'.1 p l).2];exact f'.2.1.there (g'.1 p l).1
 ·rintro hs i X' ha hc Wr ehs ⟨adr',f',g',hi⟩ hW k hex
  have hno:∀ a,(∃ o,h12.get? a=some o)→a∉Wr:=fun a=>by
   rintro ⟨o,e⟩ m
   rw[(hW a m).2.1] at e;cases e
  refine ⟨adr',⟨f'.1.off G k fun b m=>⟨none_before j12.1.2.1 (hW b m).2.1,(hW b m).1,fun e=>hno b (by rw[e];obtain ⟨o,e',_⟩:=j12.1.nt;exact ⟨o,e'⟩) m,(hW b m).2.2⟩,f'.2.1.off k fun p l m=>?_,f'.2.2⟩,g',hi⟩
  rcases g'.2 p l with l'|l'
  ·exact hno _ (by rw[(g'.1 p l').2];obtain ⟨o,e,_⟩:=j12.2.1.there l';exact ⟨o,e⟩) m
  ·obtain ⟨o,e⟩:=hex _ m;rw[l'] at e;cases e
 ·rintro hs i kv v ha tk' X' ehs hd ⟨a,tt,rfl,hta⟩ hBa hhid sub offM per ⟨adr',f',g',hi⟩
  have hL':L∈X':=sub _ (.head _)
  obtain ⟨kk,lv0⟩:=kv
  obtain ⟨hk,l,rfl,hlm⟩:=kv3 hd
  have hi2:i<3:=(List.getElem?_eq_some_iff.mp hk).1
  refine two_v (D1:=.dat (.int kk)) (D2:=.val (.ref l)) rest_rs hAh f' hta (.int _ _) rfl hBa fr.le (by rw[fr.k];kernel_rfl) (by rw[fr.k];kernel_rfl) G hLh hL' fun hc tkc oc bc fc=>?_
  refine hideQ fun Q2 hQ2=>?_
  try dsimp only
  show NR prog w _ (execs (_::_) env) _ _
  have hx':adr' .x=x:=(g'.1 .x trivial).2
  refine xc (wpAny_Expr_any (hi:=fr.ge.inter) (methS_wp (adr:=adr') (σ:=sInit i) SK MA (up _ _ _) bc fc (by rw[hx'];exact lv "self" _ _ _ (by kernel_rfl) (by rfl) (by kernel_rfl)) (fun X h i=>i.1.1.k) (fun X h i=>i.2.1) rfl fun sd am kd fd gm=>?_))
  refine Calls.evalArgs_plain (wpAny_items_cons ((EvR.int (ld "node" _ _ _ (by kernel_rfl) (by rfl) (by kernel_rfl))).wp (bc.ext (kp_ext kd)) fd fun u se' ke eu=>items_star ((lv "predecessors" _ _ _ (by kernel_rfl) (by rfl) (by kernel_rfl)).wp ((bc.ext (kp_ext kd)).ext (kp_ext ke)) ((up _ _ _).ext (kp_ext ke) fd) fun v sf kf ef=>?_)))
  subst ef
  have ff:=(up _ _ _).ext (kp_ext kf) ((up _ _ _).ext (kp_ext ke) fd)
  refine star_nil ((hl l hlm).ext ff.1.2.1) fun hg' eg=>?_
  refine wpAny_items_nil ?_
  have fg:=(up _ _ _).ext eg ff
  obtain ⟨te,rfl⟩:=eu
  refine ⟨kp_trans ke (kp_trans kf (kp_heap (t:=sf.toks) sf eg)),?_⟩
  refine codeAny_mono (sort_add (n:=n) (rest:=[]) (ps:=[]) MA.fn NK SK hkN fr.ok G fg.1.2.1 N fg.2.1 (by have:=sInit_ns i;omega) (sInit_rd i) .nil (.inl rfl) (fun p m=>by cases m) (fun p=>by rw[sInit_su];decide) (fun zz zz=>False)) (fun r sz q=>?_)
  rcases r with e|(_|_|_|_) <;> try exact q
  obtain ⟨rfl,adr'',hz,tkz,rfl,rz,oz,gz⟩:=q
  obtain ⟨hy,tky,rfl,ey⟩:=kp_trans kd (kp_trans ke kf)
  have ey:Ext hc hy:=ey
  have eg:Ext hy hg':=eg
  have oz:OffS adr' (sInit i) hg' hz:=oz
  have gz:GrownS adr' adr'' (sInit i) (addS (sInit i) kk []) hg':=gz
  rw[← sInit_succ hk] at gz rz
  have fz:=RS.call (X':=X') fg G ⟨trivial,flat_int _,fl0⟩ oz rz gz
  refine wpAny_execs_nil (hQ2 _ _ ⟨hz,_,rfl,fun b o nm hhs eb=>?_,adr'',⟨fz.1.sub ⟨rfl,rfl,trivial⟩,fz.2⟩,⟨fun p l=>?_,fun p l=>?_⟩,hi2⟩)
  ·refine oz b o (eg _ _ (ey _ _ (oc b o (fun m=>nm (by rw[m_s m];exact .head _)) eb))) fun p l z=>?_
   rcases g'.2 p l with l'|l'
   ·exact nm (.tail _ (mem_ownL.mpr ⟨p,l',by rw[← (g'.1 p l').2];exact z⟩))
   ·obtain ⟨o',e'⟩:=hhs;rw[z,e'] at l';cases l'
  ·exact ⟨(gz.1 p (g'.1 p l).1).1,((gz.1 p (g'.1 p l).1).2).trans (g'.1 p l).2⟩
  ·rcases gz.2 p l with l'|l'
   ·rcases g'.2 p l' with l''|l''
    ·exact .inl l''
    ·exact .inr (by rw[(gz.1 p l').2];exact l'')
   ·refine .inr ?_
    cases e:hs.get? (adr'' p) with
    | none=>rfl
    | some o =>
     obtain ⟨o',e'⟩:=per _ _ e
     have:∃ o'',hc.get? (adr'' p)=some o'':=by
      by_cases z:adr'' p=L
      ·rw[z];obtain ⟨o,e,_⟩:=fc.1.nt;exact ⟨o,e⟩
      ·exact ⟨o',oc _ _ (fun m=>z (m_s m)) e'⟩
     obtain ⟨o'',e''⟩:=this
     rw[eg _ _ (ey _ _ e'')] at l';cases l'
 ·intro hs ha tk' X' ehs hBa sub offM iv
  refine cps fun zz kG=>?_
  obtain ⟨adr',f',g',_⟩:=iv
  refine kG ?_
  refine wpAny_execs_nil (wpAny_execs_nil (hQ1 _ _ ⟨rfl,adr',ha,_,?_,rfl,f'.1.2.1,f'.2.1⟩))
  rw[(g'.1 .x trivial).2];rfl
end
end
theorem meets_bool_list (l:Addr) (items:Array Value) (hfit:(items.size:Int)<2 ^ 63) :
  Meets (Builtin.«bool.__new__» ⟨[.type "bool",.ref l],[]⟩) (fun zz R s=>s.heap.IsList l items∧R (.ok (.ret (.bool (!items.isEmpty)))) { s with toks:=s.toks+1+1 }) :=
 Meets.of_wp fun prog w A R s=>by
  rintro ⟨hl,hs⟩
  obtain ⟨hp,g,d,tk,os⟩:=s
  have f1:=PySem.F.conv_sub_bool
  repeat (any_goals (first|assumption|(with_reducible refine wpAny_truthy_list hl hfit ?_)|wp_step))
  all_goals first|exact ⟨_,rfl,hs⟩|exact hs|skip
section
variable {adr:Pl→Addr} {σ:Srt} {M:List Addr} {i:Int} {st:Stmt} {n:Nat}
theorem Fr.lv (fr:Fr A0 st n h0a L env) (y:Str) {p:Pos} (a:(fScope st).names.lookup y=some .local) (b:ρ.lookup y=some (.val u)) (c:(y == ("__debug__":Str))=false):EvR prog w A env (Fr2 K mg mb hb L ρ R) (.Name y p) (fun zz zz v=>v=u):=ev_locv fr.le (by rw[fr.k];exact a) loc2 b c
theorem Fr.ld (fr:Fr A0 st n h0a L env) (y:Str) {p:Pos} (a:(fScope st).names.lookup y=some .local) (b:ρ.lookup y=some (.dat d)) (c:(y == ("__debug__":Str))=false):Ev prog w A env (Fr2 K mg mb hb L ρ R) (.Name y p) d:=ev_loc fr.le (by rw[fr.k];exact a) loc2 b c
theorem Fr.gl (fr:Fr A0 st n h0a L env) (y:Str) {p:Pos} (a:(fScope st).names.lookup y=some .globalImplicit) (b:mg y=some v) (c:(y == ("__debug__":Str))=false):EvR prog w A env (Fr2 K mg mb hb L ρ R) (.Name y p) (fun zz zz u=>u=v):=ev_global gk2 fr.ge (by rw[fr.k];exact a) b c
theorem Fr.bl (fr:Fr A0 st n h0a L env) (y:Str) {p:Pos} (a:(fScope st).names.lookup y=some .globalImplicit) (m:mg y=none) (b:mb y=some v) (c:(y == ("__debug__":Str))=false):EvR prog w A env (Fr2 K mg mb hb L ρ R) (.Name y p) (fun zz zz u=>u=v):=ev_builtin gk2 fr.ge (by rw[fr.k];exact a) m b c
theorem kin2:∀ X h,Fr2 K mg mb h0a L ρ R X h→K.In h:=fun X h i=>i.1.1.k
theorem rep2:∀ X h,Fr2 K mg mb h0a L ρ (RS prog w CN CS hb L adr σ) X h→SRep prog w CN CS hb h adr σ:=fun X h i=>i.2.1
theorem all2:∀ X h,Fr2 K mg mb h0a L ρ (RS prog w CN CS h0a L adr σ) X h→K.In h∧Ext h0a h∧SRep prog w CN CS h0a h adr σ:=fun X h i=>⟨i.1.1.k,i.1.2.1,i.2.1⟩
theorem upR:Up (Fr2 K mg mb hb L ρ (RS prog w CN CS hb L adr σ)):=up2 rest_rs
theorem bdL (i:Fr2 K mg mb hb L ρ R [L] h):Bd [L] h:=fun b m=>by rw[m_s m];obtain ⟨ob,e,_⟩:=i.1.nt;exact ⟨ob,e⟩
theorem bdO (i:Fr2 K mg mb hb L ρ (RS prog w CN CS hb L adr σ) X h):Bd (L::ownL adr σ) h:=fun b m=>by
 rcases mC m with rfl|m
 ·obtain ⟨ob,e,_⟩:=i.1.nt;exact ⟨ob,e⟩
 ·obtain ⟨p,l,rfl⟩:=mem_ownL.mp m
  obtain ⟨ob,e,_⟩:=i.2.1.there l;exact ⟨ob,e⟩
theorem RS.start (r:SRep prog w CN CS hb s.heap adr σ) (hbs:Ext hb s.heap) (fr:Fr A0 st n s.heap L env) (f:Fs K mg mb s.heap L ρ [L] h):Fr2 K mg mb hb L ρ (RS prog w CN CS hb L adr σ) [L] h :=
 ⟨⟨f.1,Ext.trans hbs f.2.1,f.2.2⟩,r.ext f.2.1,fun p l z=>by obtain ⟨o,e,_⟩:=r.there l;rw[z,fr.new] at e;cases e⟩
set_option maxHeartbeats 1000000 in
theorem sort_active {l:List Int} (F:FnK K fa "TopologicalSorter.is_active" (inS (topS 15) 5) .none .none) (SK:SortK K w CS) (hA:OKA A (n+2)) (Gb:GK K mg mb hb) (hbs:Ext hb s.heap) (N:SortN mg mb CN)
  (r:SRep prog w CN CS hb s.heap adr σ) (hrd:σ.rd=some l) (hz:l.length≤1000000) (E:VSP) :
  wpAny (model prog w) A (call (.ref fa) [.ref (adr .x)]) (fun v s'=>v=.bool (decide (σ.fi<σ.po) || !l.isEmpty)∧Keeps s s') E s:=by
 refine fn_go (n:=n+1) (X:=[]) [("self",.ref (adr .x))] [("self",.val (.ref (adr .x)))] F hA (Gb.ext hbs) (fun zz m=>by cases m) (fun doc pm an cdv ct=>.of_eq (by kernel_rfl)) (by decide +kernel) (locs (by kernel_rfl)) (by kernel_rfl) (by kernel_rfl) (by kernel_rfl)
  (fun X' h' hd e=>⟨rfl,rfl,trivial⟩) fun L env h1a tk fr hX1 hid f0=>?_
 have i1a:=RS.start r hbs fr f0
 have rd:∀ {p q},EvR prog w (A.deeper env) env (Fr2 K mg mb hb L [("self",.val (.ref (adr .x)))] (RS prog w CN CS hb L adr σ)) (.Attribute (.Name "self" p) "_ready_nodes" q) (fun zz zz v=>v=.ref (adr .rl)):=fun {p q} =>
  (ev_rd SK upR (fr.lv "self" (by kernel_rfl) (by rfl) (by kernel_rfl)) kin2 rep2).mono fun X h v e=>by rw[e];unfold rdV;rw[hrd];rfl
 show NR prog w _ (execs (_::_) env) _ _
 refine xc (ifs (b:=false) (tr_is (I:=Fr2 K mg mb hb L [("self",.val (.ref (adr .x)))] (RS prog w CN CS hb L adr σ)) (R:=fun v=>v=.ref (adr .rl)) (R':=fun v=>v=.none) upR rd (ev_none.mono fun X h v a=>a.none_inv) (fun u v a b=>by rw[a,b];exact ⟨rfl,rfl⟩)) hX1 i1a fun s2a k2a=>?_)
 rw[if_neg (by decide)]
 refine wpAny_execs_nil ?_
 obtain ⟨h2a,tk2,rfl,e2a⟩:=k2a
 have e2a:Ext h1a h2a:=e2a
 have i2a:=upR.ext e2a i1a
 show NR prog w _ (execs (_::_) env) _ _
 refine xc (ret (R:=fun X h v=>At X h v (.bool (decide (σ.fi<σ.po) || !l.isEmpty))) (ev_or upR (ev_cmpR (P:=IsI σ.fi) (P':=IsI σ.po) upR (ev_fi SK upR (fr.lv "self" (by kernel_rfl) (by rfl) (by kernel_rfl)) kin2 rep2) (ev_po SK upR (fr.lv "self" (by kernel_rfl) (by rfl) (by kernel_rfl)) kin2 rep2) fun s X u v E i hu hv=>?_) fun zz=>ev_call1R (R':=fun zz zz v=>v=.ref (adr .rl)) upR (fr.bl "bool" (by kernel_rfl) N.bool N.boolb (by decide +kernel)) keeper_type rd fun s X v E zz i ev=>?_) (hX1.ext e2a) i2a fun v s3a k3a a=>?_)
 ·obtain ⟨t,rfl⟩:=hu
  obtain ⟨t',rfl⟩:=hv
  exact wpAny_mono (op_lt (X:=[]) (.int _ _) (.int _ _) E) (fun z s' q=>⟨q.1,q.2.bool_inv⟩) fun zz zz z=>z
 ·rw[ev]
  obtain ⟨vs,hl,hi⟩:=i.2.1.at_ .rl (by show σ.rd.isSome=true;rw[hrd];rfl) l hrd
  have hsz:vs.size=l.length:=by have:=ints_len hi;simpa using this
  refine call_bool_1 (meets_bool_list (adr .rl) vs (by lia)) ⟨hl.isList,rfl,kp_heap (t:=s.toks+1+1) s (Ext.refl _),?_⟩
  have:vs.isEmpty=l.isEmpty:=by
   unfold Array.isEmpty;rw[hsz]
   cases l <;> rfl
  rw[this];exact .bool _
 ·obtain ⟨h3a,tk3,rfl,e3a⟩:=k3a
  exact ⟨a.bool_inv,h3a,_,rfl,Ext.trans f0.2.1 (Ext.trans e2a e3a)⟩
end
theorem upd_lst {D:Addr} {its:Array Value} {n:Nat} (f:Array Value→Array Value) (e:h.get? D=some { cls:=.type "list",data:=.seq its n }) :
  Lst (h.update D (Obj.mapSeq f)) D (f its):=by
 have q:∃ m,Obj.mapSeq f { cls:=.type "list",data:=.seq its n }={ cls:=.type "list",data:=.seq (f its) m }:=⟨_,rfl⟩
 obtain ⟨m,q⟩:=q
 exact ⟨m,by rw[Heap.get?_update_self _ e (by rw[q];rfl),q]⟩
section
variable {adr:Pl→Addr} {σ:Srt} {M:List Addr} {i:Int} {st:Stmt} {n:Nat}
theorem list0_wp {o:Expr} {name:Str} {id:String} {B:Builtin} {apos pos:Pos} {D:Addr} {its:Array Value} {Q:VSP} {f:Array Value→Array Value} {r:Value} (up:Up I) (hX:Bd X s.heap) (hI:I X s.heap) (ho:EvR prog w A env I o (fun zz zz v=>v=.ref D))
  (slot:Slot "list" name id) (entry:entryFor table id=some B) (ty:typeOf (.builtin id)=pure (.type "method_descriptor")) (ok:argsOk id ⟨[.ref D],[]⟩) (hl:∀ X h,I X h→Lst h D its)
  (g:∀ n,Meets (B ⟨[.ref D],[]⟩) (fun zz R s=>s.heap.get? D=some { cls:=.type "list",dict:=none,data:=.seq its n,slots:=#[] }∧R (.ok (.ret r)) { s with heap:=s.heap.update D (Obj.mapSeq f) }))
  (q:∀ h1a h' tk,Ext s.heap h1a→Off [D] h1a h'→Lst h' D (f its)→Q r { s with heap:=h',toks:=tk })
  (hline:(apos.endLine == pos.line)=true:=by rfl) (hbase:attributeBase o name env (eval o env)=eval o env:=by rfl):wpAny (model prog w) A (eval (.Call (.Attribute o name apos) [] [] pos) env) Q E s:=by
 refine wpAny_Call_method0_late hbase hline (ho.wp hX hI fun v s1a k1a ev=>?_)
 subst ev
 obtain ⟨n,e⟩:=hl _ _ (up.ext (kp_ext k1a) hI)
 have hT:s1a.TypeIs (.ref D) "list":=⟨_,e,rfl⟩
 refine ⟨"list",id,PySem.F.plainAttrs_list,slot,ty,hT,fun a ea=>by cases ea;exact ⟨_,e,rfl⟩,?_⟩
 refine method_meetsIn slot entry rfl (PySem.evalArgs_none ⟨rfl,hT,ok,_,(g n).inModel prog w,e,?_⟩)
 obtain ⟨h1a,tk1,rfl,e1a⟩:=k1a
 exact q h1a _ _ e1a (off_update _ _ _) (upd_lst f e)
theorem list1_wp {o e:Expr} {name:Str} {id:String} {B:Builtin} {apos pos:Pos} {D:Addr} {its:Array Value} {P:Value→Prop} {Q:VSP} {f:Array Value→Array Value} {r:Value} (up:Up I) (hX:Bd X s.heap) (hI:I X s.heap) (ho:EvR prog w A env I o (fun zz zz v=>v=.ref D)) (he:EvR prog w A env I e (fun zz zz v=>P v))
  (slot:Slot "list" name id) (entry:entryFor table id=some B) (ty:typeOf (.builtin id)=pure (.type "method_descriptor")) (ok:∀ v,argsOk id ⟨[.ref D,v],[]⟩) (hl:∀ X h,I X h→Lst h D its) (J:Value→Heap→Prop) (hJ:∀ v X h,I X h→P v→J v h)
  (g:∀ n v,P v→Meets (B ⟨[.ref D,v],[]⟩) (fun zz R s=>s.heap.get? D=some { cls:=.type "list",dict:=none,data:=.seq its n,slots:=#[] }∧J v s.heap∧R (.ok (.ret r)) { s with heap:=s.heap.update D (Obj.mapSeq f) }))
  (q:∀ h1a h' tk,Ext s.heap h1a→Off [D] h1a h'→Lst h' D (f its)→Q r { s with heap:=h',toks:=tk })
  (hline:(apos.endLine == pos.line)=true:=by rfl) (htrees:backTo pos (starEach [e] env)=[(false,eval e env)]:=by rfl) (hbase:attributeBase o name env (eval o env)=eval o env:=by rfl):wpAny (model prog w) A (eval (.Call (.Attribute o name apos) [e] [] pos) env) Q E s:=by
 refine wpAny_Call_method1_late hbase hline htrees (ho.wp hX hI fun v s1a k1a ev=>?_)
 subst ev
 have i1a:=up.ext (kp_ext k1a) hI
 obtain ⟨n,e0a⟩:=hl _ _ i1a
 have hT:s1a.TypeIs (.ref D) "list":=⟨_,e0a,rfl⟩
 refine ⟨"list",id,PySem.F.plainAttrs_list,slot,ty,hT,fun a ea=>by cases ea;exact ⟨_,e0a,rfl⟩,?_⟩
 refine method1_meetsIn slot entry (he.wp (hX.ext (kp_ext k1a)) i1a fun u s2a k2a p=>?_)
 have i2a:=up.ext (kp_ext k2a) i1a
 have e2a:=kp_ext k2a _ _ e0a
 refine ⟨⟨_,e2a,rfl⟩,ok u,_,(g n u p).inModel prog w,e2a,hJ u X _ i2a p,?_⟩
 obtain ⟨h1a,tk1,rfl,e1a⟩:=kp_trans k1a k2a
 exact q h1a _ _ e1a (off_update _ _ _) (upd_lst f e2a)
theorem ev_node {value slice:Expr} {pos:Pos} (up:Up I) (x:EvR prog w A env I value (fun zz zz v=>v=.ref (adr .D))) (y:Ev prog w A env I slice (.int i)) (hR:∀ X h,I X h→SRep prog w CN CS hb h adr σ) (hi:i∈σ.ns)
  (hs:∀ a t,subscripted slice false (.ref a) (.int i t)=operate [.ref a,.int i t] (getItem (.ref a) (.int i t)):=by intro _ _;with_unfolding_all rfl):EvR prog w A env I (.Subscript value slice pos) (fun zz zz v=>v=.ref (adr (.nd i 0))) :=
 ev_dget (K:=Int) (knd:=intKind prog w) (k:=i) (P:=IsI i) up x (y.mono fun X h v a=>by obtain ⟨t,rfl⟩:=a.int_inv;exact ⟨intKind_is prog w i t,(fun zz e=>by cases e),⟨t,rfl⟩⟩) (fun X h j=>⟨_,(hR X h j).at_ .D trivial,by rw[valueAt_ns,if_pos hi]⟩) (fun a v p=>by obtain ⟨t,rfl⟩:=p;exact hs a t)
theorem aug_po {o value:Expr} {tpos pos:Pos} {c:Int} {Q:FSP} (SK:SortK K w CS) (up:Up I) (hX:Bd X s.heap) (hI:I X s.heap) (ho:EvR prog w A env I o (fun zz zz v=>v=.ref (adr .x))) (hv:Ev prog w A env I value (.int c))
  (hG:∀ X h,I X h→K.In h∧Ext hb h∧SRep prog w CN CS hb h adr σ)
  (q:∀ h1a h' tk,Ext s.heap h1a→Off [adr .dx] h1a h'→SRep prog w CN CS hb h' adr { σ with po:=σ.po+c }→Q .next { s with heap:=h',toks:=tk }) :
  wpAny (model prog w) A (exec (.AugAssign (.Attribute o "_npassedout" tpos) .Add value pos) env) Q E s:=by
 refine wpAny_AugAssign_AttributeAny (ho.wp hX hI fun v s1a k1a ev=>?_)
 subst ev
 have i1a:=up.ext (kp_ext k1a) hI
 obtain ⟨t1,t2,t3,t4,p,q',I'⟩:=(hG _ _ i1a).2.2.inst
 refine get_value (hG _ _ i1a).1 I' SK.ga (SK.a3 _ _ _ _ _ _ _ _ rfl) rfl ?_
 refine hv.wp (s:={ s1a with toks:=s1a.toks+1 }) (show Bd X s1a.heap from hX.ext (kp_ext k1a)) i1a fun u s2a k2a a=>?_
 obtain ⟨t',rfl⟩:=a.int_inv
 refine AutoIntOps.iadd_0 ?_
 obtain ⟨h2a,tk2,rfl,e2a⟩:=kp_trans k1a (kp_trans (kp_tok _ _) k2a)
 have i2a:=up.ext e2a hI
 exact store_po (s:={ s with heap:=h2a,toks:=tk2+1 }) SK (hG _ _ i2a).1 (hG _ _ i2a).2.1 (hG _ _ i2a).2.2 fun h' tk o r=>q h2a h' tk e2a o r
theorem aug_fi {o value:Expr} {tpos pos:Pos} {c:Int} {Q:FSP} (SK:SortK K w CS) (up:Up I) (hX:Bd X s.heap) (hI:I X s.heap) (ho:EvR prog w A env I o (fun zz zz v=>v=.ref (adr .x))) (hv:Ev prog w A env I value (.int c))
  (hG:∀ X h,I X h→K.In h∧Ext hb h∧SRep prog w CN CS hb h adr σ)
  (q:∀ h1a h' tk,Ext s.heap h1a→Off [adr .dx] h1a h'→SRep prog w CN CS hb h' adr { σ with fi:=σ.fi+c }→Q .next { s with heap:=h',toks:=tk }) :
  wpAny (model prog w) A (exec (.AugAssign (.Attribute o "_nfinished" tpos) .Add value pos) env) Q E s:=by
 refine wpAny_AugAssign_AttributeAny (ho.wp hX hI fun v s1a k1a ev=>?_)
 subst ev
 have i1a:=up.ext (kp_ext k1a) hI
 obtain ⟨t1,t2,t3,t4,p,q',I'⟩:=(hG _ _ i1a).2.2.inst
 refine get_value (hG _ _ i1a).1 I' SK.ga (SK.a4 _ _ _ _ _ _ _ _ rfl) rfl ?_
 refine hv.wp (s:={ s1a with toks:=s1a.toks+1 }) (show Bd X s1a.heap from hX.ext (kp_ext k1a)) i1a fun u s2a k2a a=>?_
 obtain ⟨t',rfl⟩:=a.int_inv
 refine AutoIntOps.iadd_0 ?_
 obtain ⟨h2a,tk2,rfl,e2a⟩:=kp_trans k1a (kp_trans (kp_tok _ _) k2a)
 have i2a:=up.ext e2a hI
 exact store_fi (s:={ s with heap:=h2a,toks:=tk2+1 }) SK (hG _ _ i2a).1 (hG _ _ i2a).2.1 (hG _ _ i2a).2.2 fun h' tk o r=>q h2a h' tk e2a o r
end
section
variable {adr:Pl→Addr} {σ:Srt} {M:List Addr} {i:Int} {st:Stmt} {n:Nat}
noncomputable def outN (np:Int→Int) (l:List Int):Int→Int:=l.foldl (fun f j=>upd f j (-1)) np
noncomputable def rdyS (σ:Srt) (l:List Int):Srt:={ σ with np:=outN σ.np l,rd:=some [],po:=σ.po+l.length }
set_option maxHeartbeats 2000000 in
theorem sort_ready {l:List Int} (F:FnK K fa "TopologicalSorter.get_ready" (inS (topS 15) 4) .none .none) (NK:NodeK K CN) (SK:SortK K w CS) (hA:OKA A (n+2)) (Gb:GK K mg mb hb) (hbs:Ext hb s.heap) (N:SortN mg mb CN)
  (r:SRep prog w CN CS hb s.heap adr σ) (hrd:σ.rd=some l) (hz:l.length≤1000) (hin:∀ j∈l,j∈σ.ns) (E:VSP) :
  wpAny (model prog w) A (call (.ref fa) [.ref (adr .x)]) (fun v s'=>At [] s'.heap v (.tuple (l.map .int))∧Aft prog w CN CS hb adr σ s (rdyS σ l) adr s') E s:=by
 refine fn_go (n:=n+1) (X:=[]) [("self",.ref (adr .x))] [("self",.val (.ref (adr .x)))] F hA (Gb.ext hbs) (fun zz m=>by cases m) (fun doc pm an cdv ct=>.of_eq (by kernel_rfl)) (by decide +kernel) (locs (by kernel_rfl)) (by kernel_rfl) (by kernel_rfl) (by kernel_rfl)
  (fun X' h' hd e=>⟨rfl,rfl,trivial⟩) fun L env h1a tk fr hX1 hid f0=>?_
 refine hideQ fun Q1 hQ1=>?_
 have hLb:hb.get? L=none:=none_before hbs fr.new
 have i1a:=RS.start r hbs fr f0
 have lr:∀ {σ'},σ'.rd=some l→Lv σ' .rl:=fun h=>by show _=true;rw[h];rfl
 have rd:∀ {ρ} {σ'} {p q},σ'.rd=some l→ρ.lookup ("self":Str)=some (.val (.ref (adr .x)))→EvR prog w (A.deeper env) env (Fr2 K mg mb hb L ρ (RS prog w CN CS hb L adr σ')) (.Attribute (.Name "self" p) "_ready_nodes" q) (fun zz zz v=>v=.ref (adr .rl)):=fun {ρ σ' p q} h hl =>
  (ev_rd SK upR (fr.lv "self" (by kernel_rfl) hl (by kernel_rfl)) kin2 rep2).mono fun X zz v e=>by rw[e];unfold rdV;rw[h];rfl
 try dsimp only
 show NR prog w _ (execs (_::_) env) _ _
 refine xc (ifs (b:=false) (tr_is (I:=Fr2 K mg mb hb L [("self",.val (.ref (adr .x)))] (RS prog w CN CS hb L adr σ)) (R:=fun v=>v=.ref (adr .rl)) (R':=fun v=>v=.none) upR (rd hrd (by rfl)) (ev_none.mono fun X h v a=>a.none_inv) (fun u v a b=>by rw[a,b];exact ⟨rfl,rfl⟩)) hX1 i1a fun s2a k2a=>?_)
 rw[if_neg (by decide)]
 refine wpAny_execs_nil ?_
 obtain ⟨h2a,tk2,rfl,e2a⟩:=k2a
 have e2a:Ext h1a h2a:=e2a
 have i2a:=upR.ext e2a i1a
 try dsimp only
 show NR prog w _ (execs (_::_) env) _ _
 refine xc (asg2 (d:=.tuple (l.map .int)) rest_rs i2a (ev_call1R (R':=fun zz zz v=>v=.ref (adr .rl)) upR (fr.bl "tuple" (by kernel_rfl) N.tup N.tupb (by kernel_rfl)) keeper_type (rd hrd (by rfl)) fun s X v E zz i ev=>?_) (hX1.ext e2a) fr.le (by rw[fr.k];kernel_rfl) Gb hLb (.head _) fun h3a tk3 o3a b3a i3a=>?_)
 ·rw[ev]
  obtain ⟨vs,hl,hi⟩:=i.2.1.at_ .rl (lr hrd) l hrd
  have a:At [] s.heap (.ref (adr .rl)) (.list (l.map .int)):=.list (by simp) hl.isList (.ofInts hi)
  exact wpAny_mono (op_tuple_list (AtAll.cons a .nil) (by rw[List.length_map];omega) E) (fun v s' q=>⟨q.1,flat_ints l _ _ _ _ q.2⟩) fun zz zz z=>z
 try dsimp only
 show NR prog w _ (execs (_::_) env) _ _
 refine xc (asgx2 (P:=fun v=>v=.ref (adr .D)) rest_rs i3a (ev_n2i SK upR (fr.lv "self" (by kernel_rfl) (by rfl) (by kernel_rfl)) kin2 rep2) b3a fr.le (by rw[fr.k];kernel_rfl) Gb hLb (.head _) fun h4a tk4 u hu o4a b4a i4a=>?_)
 subst hu
 have fl:FlatL [("n2i",.val (.ref (adr .D))),("result",.dat (.tuple (l.map .int))),("self",.val (.ref (adr .x)))]:=⟨trivial,flat_ints _,trivial,trivial⟩
 have i4':Fr2 K mg mb hb L [("n2i",.val (.ref (adr .D))),("result",.dat (.tuple (l.map .int))),("self",.val (.ref (adr .x)))] (RS prog w CN CS hb L adr σ) (L::ownL adr σ) h4a:=⟨i4a.1.flat fl,i4a.2⟩
 obtain ⟨to,ht⟩:=N.out
 try dsimp only
 show NR prog w _ (execs (_::_) env) _ _
 refine xc (for_s (T:=AtF PyData.int) (ds:=l) (β:=Nat) (fun i b=>b=i) (fun zz=>[("n2i",.val (.ref (adr .D))),("result",.dat (.tuple (l.map .int))),("self",.val (.ref (adr .x)))]) (fun b=>{ σ with np:=outN σ.np (l.take b) }) 0 (L:=L) i4' fl (fun b p=>by cases p <;> exact Iff.rfl) rfl rfl ⟨rfl,rfl,rfl,trivial⟩ (src_tupleF PyData.int hA.handled (fr.ld "result" (by kernel_rfl) (by rfl) (by kernel_rfl))) (bdO i4a) (fun b m=>m) Gb ?_ ?_)
 ·rintro k v0 u h5 tk5 X' b hd hu b5a hX' rfl i5a
  have hv0:v0∈σ.ns:=hin _ (List.mem_of_getElem? hd)
  refine name2 (D:=.dat (.int v0)) rest_rs i5a hu b5a fr.le (by rw[fr.k];kernel_rfl) Gb hLb (hX' _ (.head _)) fun h6a tk6 o6 b6 i6a=>?_
  refine hideQ fun Q2 hQ2=>?_
  try dsimp only
  show NR prog w _ (execs (_::_) env) _ _
  refine xc (plainObj_wpAny_Assign_Attribute ((fr.gl "_NODE_OUT" (by kernel_rfl) ht (by kernel_rfl)).wp b6 i6a fun u s7 k7 eu=>(ev_node (i:=v0) (σ:={ σ with np:=outN σ.np (l.take b) }) upR (fr.lv "n2i" (by kernel_rfl) (by rfl) (by kernel_rfl)) (fr.ld "node" (by kernel_rfl) (by rfl) (by kernel_rfl)) rep2 hv0).wp (b6.ext (kp_ext k7)) (upR.ext (kp_ext k7) i6a) fun v s8 k8 ev=>?_))
  subst eu ev
  obtain ⟨h8a,tk8,rfl,e8a⟩:=kp_trans k7 k8
  have e8a:Ext h6a h8a:=e8a
  have i8:=upR.ext e8a i6a
  refine store_np NK i8.1.1.k i8.1.2.1 i8.2.1 hv0 fun h9 tk9 o9 r9=>?_
  have i9:=RS.turn (X':=X') (p:=.nd v0 0) i8 Gb ⟨flat_int _,fl⟩ ⟨hv0,by decide⟩ o9 r9 fun p l=>i8.2.2 p l
  refine wpAny_execs_nil (hQ2 _ _ ⟨h9,_,b+1,rfl,?_,rfl,?_⟩)
  ·exact (o6.mono fun q m=>by rw[m_s m];exact .head _).trans ((Ext.off e8a).trans (o9.mono fun q m=>by rw[m_s m];exact .tail _ (mem_ownL.mpr ⟨.nd v0 0,⟨hv0,by decide⟩,rfl⟩)))
  ·have:outN σ.np (l.take (b+1))=upd (outN σ.np (l.take b)) v0 (-1):=by
    unfold outN;rw[List.take_add_one,hd];simp
   rw[this]
   exact ⟨i9.1.sub ⟨rfl,rfl,rfl,trivial⟩,i9.2⟩
 ·rintro h5 tk5 b b5a rfl i5a o5a
  rw[List.take_length] at i5a
  have i5a:Fr2 K mg mb hb L [("n2i",.val (.ref (adr .D))),("result",.dat (.tuple (l.map .int))),("self",.val (.ref (adr .x)))] (RS prog w CN CS hb L adr { σ with np:=outN σ.np l }) [L] h5:=⟨i5a.1.flat fl,i5a.2⟩
  try dsimp only
  show NR prog w _ (execs (_::_) env) _ _
  refine xc (wpAny_Expr_any (hi:=fr.ge.inter) ?_)
  obtain ⟨vs,hl,hi⟩:=i5a.2.1.at_ .rl (lr hrd) l hrd
  have hsz:vs.size=l.length:=by have:=ints_len hi;simpa using this
  refine list0_wp (I:=fun X h=>Fr2 K mg mb hb L [("n2i",.val (.ref (adr .D))),("result",.dat (.tuple (l.map .int))),("self",.val (.ref (adr .x)))] (RS prog w CN CS hb L adr { σ with np:=outN σ.np l }) X h∧Lst h (adr .rl) vs) (f:=fun zz=>#[]) (up_and upR fun X X' a b k zz x=>x.ext k) (bdL i5a) ⟨i5a,hl⟩ (fun s E X a b=>rd (σ':={ σ with np:=outN σ.np l }) hrd (by rfl) s E X a b.1) PySem.F.slot_list_clear PySem.F.entry_list_clear PySem.F.type_list_clear (PySem.F.args_list_clear_1 _) (fun X h i=>i.2)
   (fun n=>AutoSeq1.list_clear_list_0 _ _ n (by rw[sizeLine_eq];omega)) fun h6a h7a tk7 e6a o7 l7a=>?_
  have e6a:Ext h5 h6a:=e6a
  have i6a:=upR.ext e6a i5a
  have r7a:=i6a.2.1.rdy (l:=[]) hrd (Ext.refl _) i6a.1.2.1 o7 ⟨#[],l7a,.nil⟩
  have i7:=RS.turn (X':=[L]) (p:=.rl) i6a Gb fl (lr hrd) o7 r7a fun p lp=>i6a.2.2 p (by cases p <;> first|exact lp|exact lr hrd)
  try dsimp only
  show NR prog w _ (execs (_::_) env) _ _
  refine xc (aug_po (c:=l.length) SK upR (bdL i7) i7 (fr.lv "self" (by kernel_rfl) (by rfl) (by kernel_rfl)) (ev_call (ds:=[.tuple (l.map .int)]) upR (fr.bl "len" (by kernel_rfl) N.len N.lenb (by kernel_rfl)) keeper_builtin (ev_cons upR (fr.ld "result" (by kernel_rfl) (by rfl) (by kernel_rfl)) ev_nil) fun s X vs zz zz a=>by have:=op_len_tuple (prog:=prog) (w:=w) (A:=A.deeper env) (ds:=l.map .int) a (by rw[List.length_map];omega);rwa [List.length_map] at this) all2 fun h8a h9 tk9 e8a o9 r9=>?_)
  have e8a:Ext h7a h8a:=e8a
  have i8:=upR.ext e8a i7
  have i9:=RS.turn (X':=[L]) (p:=.dx) i8 Gb fl trivial o9 r9 fun p lp=>i8.2.2 p (by cases p <;> exact lp)
  try dsimp only
  show NR prog w _ (execs (_::_) env) _ _
  refine xc (ret (R:=fun X h v=>At X h v (.tuple (l.map .int))) (fr.ld "result" (by kernel_rfl) (by rfl) (by kernel_rfl)) (bdL i9) i9 fun v s10 k10 a=>?_)
  obtain ⟨h10,tk10,rfl,e10⟩:=k10
  have e10:Ext h9 h10:=e10
  refine hQ1 _ _ ⟨flat_ints l _ _ _ _ a,h10,_,rfl,i9.2.1.ext e10,fun b ob eb nb=>?_,GrownS.same fun p=>by cases p <;> first|exact Iff.rfl|exact ⟨fun zz=>lr hrd,fun zz=>rfl⟩⟩
  have ne:b∉[L]:=fun m=>by rw[m_s m,fr.new] at eb;cases eb
  have np:∀ p,Lv σ p→b∉[adr p]:=fun p l m=>nb p l (m_s m).symm
  refine e10 _ _ (o9 b ob (np .dx trivial) (e8a _ _ (o7 b ob (np .rl (lr hrd)) (e6a _ _ (o5a b ob (fun m=>?_) (o4a b ob ne (o3a b ob ne (e2a _ _ (f0.2.1 b ob eb)))))))))
  rcases m_c m with z|m
  ·exact ne (by rw[z];exact .head _)
  ·obtain ⟨p,l,z⟩:=mem_ownL.mp m
   exact nb p l z
end
section
variable {adr:Pl→Addr} {σ:Srt} {M:List Addr} {i:Int} {st:Stmt} {n:Nat}
theorem src_hid {target e:Expr} {D:Addr} {l:List Int} (up:Up I) (hh:A.handled=none) (ho:EvR prog w A env I e (fun zz zz v=>v=.ref D)) (hl:∀ X h,I X h→IntL h D l):Src (AtF PyData.int) prog w A env (fun X h=>I X h∧D∉X) target e l:=fun s E X hX hI =>
 ho.wp hX hI.1 fun v s' k ev=>⟨k,by
  subst ev
  obtain ⟨vs,a,b⟩:=hl _ _ (up.ext (kp_ext k) hI.1)
  exact (itb_list hh (kp_ext k) (At.list hI.2 a.isList (.ofInts b))).typed PyData.int⟩
theorem for_p {α β:Type} {T:List Addr→Heap→Value→α→Prop} {target iter:Expr} {body:List Stmt} {pos:Pos} {ds:List α} {Q:FSP} (pls:List Pl) (P:Nat→β→Prop) (ρ:β→List (Str×VD)) (τ:β→Srt) {ρ0a:List (Str×VD)} (b0:β)
  (st:Fr2 K mg mb hb L ρ0a (RS prog w CN CS hb L adr σ) X s.heap) (hlv:∀ b p,Lv (τ b) p↔Lv σ p) (p0:P 0 b0) (hτ:τ b0=σ) (sub:Sub ρ0a (ρ b0))
  (hsrc:Src T prog w A env J target iter ds) (hJ:J X s.heap) (hX:Bd X s.heap) (hpl:∀ p∈pls,Lv σ p) (hXs:∀ b∈L::pls.map adr,b∈X) (G:GK K mg mb hb)
  (turn:∀ i d v h' tk X' b,ds[i]?=some d→T X' h' v d→Bd X' h'→L∈X'→P i b→Fr2 K mg mb hb L (ρ b) (RS prog w CN CS hb L adr (τ b)) X' h' →
   NR prog w A (assign target env v) (fun zz s1a=>NR prog w A (execs body env) (fun f s2a=>(match f with
    | .next|.cont=>∃ h2a tk2 b',s2a={ s with heap:=h2a,toks:=tk2 }∧Off (L::pls.map adr) h' h2a∧P (i+1) b'∧Fr2 K mg mb hb L (ρ b') (RS prog w CN CS hb L adr (τ b')) X' h2a
    | .brk=>Q .next s2a
    | .ret v=>Q (.ret v) s2a:Prop)) s1a) { s with heap:=h',toks:=tk })
  (done:∀ h' tk b,Bd X h'→P ds.length b→Fr2 K mg mb hb L (ρ b) (RS prog w CN CS hb L adr (τ b)) X h'→Off (L::pls.map adr) s.heap h'→Q .next { s with heap:=h',toks:=tk })
  (hs:∀ x,foldedSetIterable iter env x=pure x:=by intro _;rfl):NR prog w A (exec (.For target iter body [] pos) env) Q s:=by
 refine for_loop (hs:=hs) (M:=L::pls.map adr) (Inv:=fun i X' h=>∃ b,P i b∧Fr2 K mg mb hb L (ρ b) (RS prog w CN CS hb L adr (τ b)) X' h) hsrc hX hJ (fun b m=>?_) (fun h X' k q zz=>?_) ?_ ?_ (fun i d v h' tk X' hd hv hb hh sub o bpf=>?_) fun h' tk X' hb sub o bpf=>?_
 ·exact ⟨hXs b m,hX b (hXs b m)⟩
 ·have q:=up2 rest_rs _ _ _ _ k q st
  exact ⟨b0,p0,q.1.sub sub,by rw[hτ];exact q.2⟩
 ·rintro i X' h ⟨b,_,f,r,_⟩ a ha
  rcases mC ha with rfl|ha
  ·exact f.nt
  ·obtain ⟨p,m,rfl⟩:=List.mem_map.mp ha
   exact r.there ((hlv b p).mpr (hpl p m))
 ·rintro i X' h h' Wr ⟨b,p,f,r,n⟩ hW k
  have hno:∀ a,(∃ o,s.heap.get? a=some o)→a∉Wr:=fun a=>by
   rintro ⟨o,e⟩ m
   rw[(hW a m).2.1] at e;cases e
  have hLW:∀ b∈Wr,b≠L:=fun b q e=>hno b (by obtain ⟨o,e',_⟩:=st.1.nt;exact ⟨o,e▸e'⟩) q
  exact ⟨b,p,f.off G k fun b q=>⟨none_before st.1.2.1 (hW b q).2.1,(hW b q).1,hLW b q,(hW b q).2.2⟩,r.off k fun p l m=>hno _ (by obtain ⟨o,e,_⟩:=st.2.1.there ((hlv b p).mp l);exact ⟨o,e⟩) m,n⟩
 ·obtain ⟨b,p,f⟩:=bpf
  refine wpAny_mono (turn i d v h' tk X' b hd hv hb (sub _ (hXs _ (.head _))) p f) (fun zz s1a q=>wpAny_mono q (fun fl s2a q=>?_) fun zz zz e=>e) fun zz zz e=>e
  cases fl with
  | next=>obtain ⟨h2a,tk2,b',e,o,p,f⟩:=q;exact ⟨h2a,tk2,e,o,b',p,f⟩
  | cont=>obtain ⟨h2a,tk2,b',e,o,p,f⟩:=q;exact ⟨h2a,tk2,e,o,b',p,f⟩
  | brk=>exact q
  | ret v=>exact q
 ·obtain ⟨b,p,f⟩:=bpf
  exact done h' tk b hb p (up2 rest_rs _ _ _ _ (Ext.refl _) (fun x m=>.inl (sub x m)) f) o
noncomputable def stepD (σ:Srt) (j:Int):Srt:={ σ with np:=upd σ.np j (σ.np j - 1),rd:=if σ.np j - 1=0 then σ.rd.map (·++[j]) else σ.rd }
noncomputable def doneS (σ:Srt) (i:Int):Srt:=let τ:=(σ.su i).foldl stepD { σ with np:=upd σ.np i (-2) };{ τ with fi:=τ.fi+1 }
theorem stepD_some {j:Int}:(stepD σ j).rd.isSome=σ.rd.isSome:=by unfold stepD;dsimp only;split <;> simp
theorem stepD_lv (j:Int) (p:Pl):Lv (stepD σ j) p↔Lv σ p:=by
 cases p with
 | rl=>show _=true↔_=true;rw[stepD_some]
 | _=>exact Iff.rfl
theorem stepD_lvs (p:Pl):∀ (l:List Int) (σ:Srt),Lv (l.foldl stepD σ) p↔Lv σ p
 | [],σ=>Iff.rfl
 | j::l,σ=>(stepD_lvs p l _).trans (stepD_lv j p)
theorem stepD_ns:∀ (l:List Int) (σ:Srt),(l.foldl stepD σ).ns=σ.ns∧(l.foldl stepD σ).su=σ.su
 | [],σ=>⟨rfl,rfl⟩
 | j::l,σ=>⟨(stepD_ns l _).1.trans rfl,(stepD_ns l _).2.trans rfl⟩
theorem stepD_rd:∀ (l:List Int) (σ:Srt) (r:List Int),σ.rd=some r→∃ r',(l.foldl stepD σ).rd=some r'∧r'.length≤r.length+l.length
 | [],σ,r,e=>⟨r,e,Nat.le_add_right _ _⟩
 | j::l,σ,r,e=>by
  have:∃ r1a,(stepD σ j).rd=some r1a∧r1a.length≤r.length+1:=by
   unfold stepD;dsimp only;rw[e]
   split
   ·exact ⟨r++[j],rfl,by simp⟩
   ·exact ⟨r,rfl,by lia⟩
  obtain ⟨r1a,e1a,h1a⟩:=this
  obtain ⟨r2a,e2a,h2a⟩:=stepD_rd l _ r1a e1a
  exact ⟨r2a,e2a,by rw[List.length_cons];lia⟩
end
section
variable {adr:Pl→Addr} {σ:Srt} {M:List Addr} {i:Int} {st:Stmt} {n:Nat}
noncomputable def rD (adr:Pl→Addr) (i:Int):List (Str×VD):=[("n2i",.val (.ref (adr .D))),("nodes",.dat (.tuple ([i].map .int))),("self",.val (.ref (adr .x)))]
theorem flat_rD:FlatL (rD adr i):=⟨trivial,flat_ints _,trivial,trivial⟩
noncomputable def rE (adr:Pl→Addr) (i:Int) (t:Tok):List (Str×VD):=("stat",.val (.int (-1) t))::("nodeinfo",.val (.ref (adr (.nd i 0))))::("node",.dat (.int i))::rD adr i
theorem flat_rE {t:Tok}:FlatL (rE adr i t):=⟨trivial,trivial,flat_int _,flat_rD⟩
set_option maxHeartbeats 8000000 in
theorem sort_done {l:List Int} {t:Tok} (F:FnK K fa "TopologicalSorter.done" (inS (topS 15) 7) .none .none) (NK:NodeK K CN) (SK:SortK K w CS) (hA:OKA A (n+2)) (Gb:GK K mg mb hb) (hbs:Ext hb s.heap) (N:SortN mg mb CN)
  (r:SRep prog w CN CS hb s.heap adr σ) (hrd:σ.rd=some l) (hz:l.length≤1000) (hi:i∈σ.ns) (hnp:σ.np i=-1) (hin:∀ j∈σ.su i,j∈σ.ns) (hsz:(σ.su i).length≤1000) (E:VSP) :
  codeAny (model prog w) A (.call (.ref fa) ⟨[.ref (adr .x),.int i t],[]⟩) (Out (fun v s'=>v=.none∧Aft prog w CN CS hb adr σ s (doneS σ i) adr s') E) s:=by
 refine fn_goV (n:=n+1) (X:=[]) (rest:=[.int i t]) (fun t'=>[("self",.ref (adr .x)),("nodes",t')]) [("nodes",.dat (.tuple ([i].map .int))),("self",.val (.ref (adr .x)))] F hA (Gb.ext hbs) (fun zz m=>by cases m) (fun doc pm an cdv ct=>by kernel_rfl) (by simp) (by decide +kernel) (fun t=>locs (by kernel_rfl)) (by kernel_rfl) (by kernel_rfl) (by kernel_rfl)
  (fun a X' h' ht hd e=>⟨rfl,.tuple ht (by rw[List.toList_toArray];exact .ofInts (.cons _ _ .nil)),rfl,rfl,trivial⟩) fun L env h1a tk fr hX1 hid f0=>?_
 refine hideQ fun Q1 hQ1=>?_
 have hLb:hb.get? L=none:=none_before hbs fr.new
 have i1a:=RS.start r hbs fr f0
 have lr:∀ {σ':Srt},σ'.rd.isSome=true→Lv σ' .rl:=fun h=>h
 have lrs:Lv σ .rl:=by show σ.rd.isSome=true;rw[hrd];rfl
 have rd:∀ {ρ} {σ':Srt} {p q},σ'.rd.isSome=true→ρ.lookup ("self":Str)=some (.val (.ref (adr .x)))→EvR prog w (A.deeper env) env (Fr2 K mg mb hb L ρ (RS prog w CN CS hb L adr σ')) (.Attribute (.Name "self" p) "_ready_nodes" q) (fun zz zz v=>v=.ref (adr .rl)):=fun {ρ σ' p q} h hl =>
  (ev_rd SK upR (fr.lv "self" (by kernel_rfl) hl (by decide +kernel)) kin2 rep2).mono fun X zz v e=>by rw[e];unfold rdV;rw[if_pos h]
 try dsimp only
 show NR prog w _ (execs (_::_) env) _ _
 refine xc (ifs (b:=false) (tr_is (I:=Fr2 K mg mb hb L [("nodes",.dat (.tuple ([i].map .int))),("self",.val (.ref (adr .x)))] (RS prog w CN CS hb L adr σ)) (R:=fun v=>v=.ref (adr .rl)) (R':=fun v=>v=.none) upR (rd lrs (by rfl)) (ev_none.mono fun X h v a=>a.none_inv) (fun u v a b=>by rw[a,b];exact ⟨rfl,rfl⟩)) hX1 i1a fun s2a k2a=>?_)
 rw[if_neg (by decide)]
 refine wpAny_execs_nil ?_
 obtain ⟨h2a,tk2,rfl,e2a⟩:=k2a
 have e2a:Ext h1a h2a:=e2a
 have i2a:=upR.ext e2a i1a
 try dsimp only
 show NR prog w _ (execs (_::_) env) _ _
 refine xc (asgx2 (P:=fun v=>v=.ref (adr .D)) rest_rs i2a (ev_n2i SK upR (fr.lv "self" (by kernel_rfl) (by rfl) (by kernel_rfl)) kin2 rep2) (hX1.ext e2a) fr.le (by rw[fr.k];kernel_rfl) Gb hLb (.head _) fun h4a tk4 u hu o4a b4a i4a=>?_)
 subst hu
 have i4':Fr2 K mg mb hb L (rD adr i) (RS prog w CN CS hb L adr σ) (L::ownL adr σ) h4a:=⟨i4a.1.flat flat_rD,i4a.2⟩
 obtain ⟨to,ht⟩:=N.out
 obtain ⟨td,htd⟩:=N.dn
 obtain ⟨σ1,hσ1⟩:∃ σ1:Srt,σ1={ σ with np:=upd σ.np i (-2) }:=⟨_,rfl⟩
 obtain ⟨σ2,hσ2⟩:∃ σ2:Srt,σ2=(σ.su i).foldl stepD σ1:=⟨_,rfl⟩
 have hdone:doneS σ i={ σ2 with fi:=σ2.fi+1 }:=by rw[hσ2,hσ1];rfl
 have lv1:∀ p,Lv σ1 p↔Lv σ p:=fun p=>by rw[hσ1];cases p <;> exact Iff.rfl
 have lv2:∀ p,Lv σ2 p↔Lv σ p:=fun p=>by rw[hσ2];exact (stepD_lvs p _ _).trans (lv1 p)
 have lvd:∀ p,Lv (doneS σ i) p↔Lv σ p:=fun p=>by rw[hdone,← lv2 p];cases p <;> exact Iff.rfl
 try dsimp only
 show NR prog w _ (execs (_::_) env) _ _
 refine xc (for_s (T:=AtF PyData.int) (ds:=[i]) (β:=Nat) (fun i b=>b=i) (fun zz=>rD adr i) (fun b=>if b=0 then σ else doneS σ i) 0 (L:=L) i4' flat_rD (fun b p=>by split;exact Iff.rfl;exact lvd p) rfl rfl ⟨rfl,rfl,rfl,trivial⟩ (src_tupleF PyData.int hA.handled (fr.ld "nodes" (by kernel_rfl) (by rfl) (by kernel_rfl))) (bdO i4a) (fun b m=>m) Gb ?_ ?_)
 ·rintro k v0 u h5 tk5 X' b hd hu b5a hX' rfl i5a
  obtain ⟨rfl,rfl⟩:b=0∧v0=i:=by
   match b,hd with
   | 0,hd=>cases hd;exact ⟨rfl,rfl⟩
  rw[if_pos rfl] at i5a
  dsimp only
  refine name2 (D:=.dat (.int v0)) rest_rs i5a hu b5a fr.le (by rw[fr.k];kernel_rfl) Gb hLb (hX' _ (.head _)) fun h6a tk6 o6 b6 i6a=>?_
  have hL':=hX' L (.head _)
  have hval:=valueAt_ns σ.ns (fun n=>.ref (adr (.nd n 0))) v0
  rw[if_pos hi] at hval
  refine hideQ fun Q2 hQ2=>?_
  try dsimp only
  show NR prog w _ (execs (_::_) env) _ _
  refine xc (wpAny_If (wpAny_isTrue_Compare1 (wpAny_NamedExpr (get_wp (I:=Fr2 K mg mb hb L (("node",.dat (.int v0))::rD adr v0) (RS prog w CN CS hb L adr σ)) (kvs:=σ.ns.map fun n=>(n,.ref (adr (.nd n 0)))) (k:=v0) upR b6 i6a (fr.lv "n2i" (by kernel_rfl) (by rfl) (by kernel_rfl)) (fr.ld "node" (by kernel_rfl) (by rfl) (by kernel_rfl)) (fun X h i=>i.2.1.at_ .D trivial) (r.sys SK Gb) fun s7 k7=>?_))))
  obtain ⟨h7a,tk7,rfl,e7a⟩:=k7
  have e7a:Ext h6a h7a:=e7a
  have i7:=upR.ext e7a i6a
  rw[hval]
  refine name2 (D:=.val (.ref (adr (.nd v0 0)))) rest_rs i7 rfl (b6.ext e7a) fr.le (by rw[fr.k];kernel_rfl) Gb hLb hL' fun h8a tk8 o8 b8 i8=>?_
  refine (ev_none (I:=fun zz zz=>True)).wp b8 trivial fun u' s9 k9 eu=>?_
  have eu:=eu.none_inv
  subst eu
  obtain ⟨h9,tk9,rfl,e9a⟩:=k9
  have e9a:Ext h8a h9:=e9a
  have i9:=upR.ext e9a i8
  have b9:=b8.ext e9a
  refine wpAny_is_plain rfl (wpAny_truthy_bool ?_)
  rw[show (((some (Value.ref (adr (.nd v0 0)))).getD .none) == Value.none)=false from rfl,if_neg (by decide)]
  refine wpAny_execs_nil ?_
  try dsimp only
  show NR prog w _ (execs (_::_) env) _ _
  refine xc (asgx2 (P:=IsI (σ.np v0)) rest_rs i9 (ev_np NK upR (fr.lv "nodeinfo" (by kernel_rfl) (by rfl) (by kernel_rfl)) kin2 rep2 hi) b9 fr.le (by rw[fr.k];kernel_rfl) Gb hLb hL' fun h10 tk10 u hu o10 b10 i10=>?_)
  obtain ⟨tn,rfl⟩:=hu
  rw[hnp] at i10
  have i10:Fr2 K mg mb hb L (rE adr v0 tn) (RS prog w CN CS hb L adr σ) X' h10:=⟨i10.1.sub ⟨rfl,rfl,rfl,rfl,rfl,rfl,trivial⟩,i10.2⟩
  try dsimp only
  show NR prog w _ (execs (_::_) env) _ _
  refine xc (ifs (b:=false) (tr_cmpR (I:=Fr2 K mg mb hb L (rE adr v0 tn) (RS prog w CN CS hb L adr σ)) (P:=IsI (-1)) (P':=IsI (-1)) upR ((fr.lv "stat" (by kernel_rfl) (by rfl) (by kernel_rfl)).mono fun X h v e=>⟨_,e⟩) ((fr.gl "_NODE_OUT" (by kernel_rfl) ht (by decide +kernel)).mono fun X h v e=>⟨_,e⟩) fun s X u v E zz a b=>?_) b10 i10 fun s11 k11=>?_)
  ·obtain ⟨_,rfl⟩:=a
   obtain ⟨_,rfl⟩:=b
   exact wpAny_mono (op_nei (X:=[]) (.int _ _) (.int _ _) E) (fun z s' q=>⟨q.1,q.2.bool_inv⟩) fun zz zz z=>z
  rw[if_neg (by decide)]
  refine wpAny_execs_nil ?_
  obtain ⟨h11,tk11,rfl,e11⟩:=k11
  have e11:Ext h10 h11:=e11
  have i11:=upR.ext e11 i10
  have b11:=b10.ext e11
  try dsimp only
  show NR prog w _ (execs (_::_) env) _ _
  refine xc (plainObj_wpAny_Assign_Attribute ((fr.gl "_NODE_DONE" (by kernel_rfl) htd (by decide +kernel)).wp b11 i11 fun u s12 k12 eu=>(fr.lv "nodeinfo" (by kernel_rfl) (by rfl) (by kernel_rfl)).wp (b11.ext (kp_ext k12)) (upR.ext (kp_ext k12) i11) fun v s13 k13 ev=>?_))
  subst eu ev
  obtain ⟨h13,tk13,rfl,e13⟩:=kp_trans k12 k13
  have e13:Ext h11 h13:=e13
  have i13:=upR.ext e13 i11
  refine store_np NK i13.1.1.k i13.1.2.1 i13.2.1 hi fun h14 tk14 o14a r14=>?_
  rw[← hσ1] at r14
  dsimp only
  let pls:List Pl:=.rl::(σ.su v0).map fun j=>.nd j 0
  have hpl:∀ p∈pls,Lv σ p:=fun p m=>by
   rcases mC m with rfl|m
   ·exact lrs
   ·obtain ⟨j,hj,rfl⟩:=List.mem_map.mp m
    exact ⟨hin j hj,by decide⟩
  have hpl1:∀ p∈pls,Lv σ1 p:=fun p m=>(lv1 p).mpr (hpl p m)
  have i14:=RS.turn (X':=L::pls.map adr) (p:=.nd v0 0) i13 Gb flat_rE ⟨hi,by decide⟩ o14a r14 fun p l=>i13.2.2 p ((lv1 p).mp l)
  have b14:Bd (L::pls.map adr) h14:=fun b m=>by
   rcases mC m with rfl|m
   ·obtain ⟨o,e,_⟩:=i14.1.nt;exact ⟨o,e⟩
   ·obtain ⟨p,hp,rfl⟩:=List.mem_map.mp m
    obtain ⟨o,e,_⟩:=i14.2.1.there (hpl1 p hp);exact ⟨o,e⟩
  have l2:Lv σ1 (.nd v0 2):=(lv1 (.nd v0 2)).mpr ⟨hi,by decide⟩
  have hDX:adr (.nd v0 2)∉L::pls.map adr:=fun m=>by
   rcases m_c m with z|m
   ·exact i14.2.2 _ l2 z
   ·obtain ⟨p,hp,z⟩:=List.mem_map.mp m
    have q:=i14.2.1.inj _ _ (hpl1 p hp) l2 z
    subst q
    rcases m_c hp with q|hp
    ·cases q
    ·obtain ⟨j,_,q⟩:=List.mem_map.mp hp
     cases q
  have hsu1:σ1.su=σ.su:=by rw[hσ1]
  have hns1:σ1.ns=σ.ns:=by rw[hσ1]
  have hrd1:σ1.rd=some l:=by rw[hσ1];exact hrd
  try dsimp only
  show NR prog w _ (execs (_::_) env) _ _
  refine xc (for_p (T:=AtF PyData.int) (ds:=σ.su v0) (β:=Nat) (J:=fun X h=>Fr2 K mg mb hb L (rE adr v0 tn) (RS prog w CN CS hb L adr σ1) X h∧adr (.nd v0 2)∉X) pls (fun i b=>b=i) (fun zz=>rE adr v0 tn) (fun b=>((σ.su v0).take b).foldl stepD σ1) 0 (L:=L) i14 (fun b p=>stepD_lvs p _ _) rfl rfl ⟨rfl,rfl,rfl,rfl,rfl,rfl,trivial⟩
   (src_hid upR hA.handled (ev_su (i:=v0) NK upR (fr.lv "nodeinfo" (by kernel_rfl) (by rfl) (by kernel_rfl)) kin2 rep2 (by rw[hns1];exact hi)) fun X h i=>by rw[← hsu1];exact i.2.1.at_ (.nd v0 2) l2) ⟨i14,hDX⟩ b14 hpl1 (fun b m=>m) Gb ?_ ?_)
  ·rintro k2 j u h15 tk15 X2 b hd hu b15 hL2 rfl i15
   dsimp only
   obtain ⟨τ,hτ⟩:∃ τ,τ=((σ.su v0).take b).foldl stepD σ1:=⟨_,rfl⟩
   have hnext:((σ.su v0).take (b+1)).foldl stepD σ1=stepD τ j:=by rw[List.take_add_one,hd,hτ];simp
   rw[← hτ] at i15
   have hτns:τ.ns=σ.ns:=by rw[hτ,(stepD_ns _ _).1,hns1]
   have hj:j∈τ.ns:=by rw[hτns];exact hin _ (List.mem_of_getElem? hd)
   obtain ⟨lr',hτr,hτl⟩:∃ r',τ.rd=some r'∧r'.length≤l.length+((σ.su v0).take b).length:=by rw[hτ];exact stepD_rd _ _ _ hrd1
   have hτl2:lr'.length≤10000:=by have:=List.length_take_le' b (σ.su v0);omega
   have lvτ:∀ p,Lv τ p↔Lv σ1 p:=fun p=>by rw[hτ];exact stepD_lvs p _ _
   have lrτ:τ.rd.isSome=true:=by rw[hτr];rfl
   refine name2 (D:=.dat (.int j)) rest_rs i15 hu b15 fr.le (by rw[fr.k];kernel_rfl) Gb hLb hL2 fun h16 tk16 o16 b16 i16=>?_
   refine hideQ fun Q3 hQ3=>?_
   try dsimp only
   show NR prog w _ (execs (_::_) env) _ _
   refine xc (asgx2 (P:=fun v=>v=.ref (adr (.nd j 0))) rest_rs i16 (ev_node (i:=j) (σ:=τ) upR (fr.lv "n2i" (by kernel_rfl) (by rfl) (by kernel_rfl)) (fr.ld "successor" (by kernel_rfl) (by rfl) (by kernel_rfl)) rep2 hj) b16 fr.le (by rw[fr.k];kernel_rfl) Gb hLb hL2 fun h17 tk17 u hu o17 b17 i17=>?_)
   subst hu
   obtain ⟨ρj,hρj⟩:∃ ρj:List (Str×VD),ρj=(("successor_info":Str),VD.val (.ref (adr (.nd j 0))))::(("successor":Str),VD.dat (.int j))::rE adr v0 tn:=⟨_,rfl⟩
   have flj:FlatL ρj:=by rw[hρj];exact ⟨trivial,flat_int _,flat_rE⟩
   rw[← hρj] at i17
   have sinfo:∀ {σ':Srt} {p},EvR prog w (A.deeper env) env (Fr2 K mg mb hb L ρj (RS prog w CN CS hb L adr σ')) (.Name "successor_info" p) (fun zz zz v=>v=.ref (adr (.nd j 0))):=fun {σ' p}=>fr.lv "successor_info" (by kernel_rfl) (by rw[hρj];rfl) (by decide +kernel)
   try dsimp only
   show NR prog w _ (execs (_::_) env) _ _
   refine xc (dec_np (i:=j) (c:=1) (σ:=τ) NK upR b17 i17 sinfo ev_int all2 hj fun h18 h19 tk19 e18 o19 r19=>?_)
   have e18:Ext h17 h18:=e18
   have i18:=upR.ext e18 i17
   have i19:=RS.turn (X':=X2) (p:=.nd j 0) i18 Gb flj ⟨hj,by decide⟩ o19 r19 fun p l=>i18.2.2 p (by cases p <;> exact l)
   have b19:Bd X2 h19:=bd_off (b17.ext e18) o19 fun a m=>by
    rw[m_s m];obtain ⟨o,e,_⟩:=i19.2.1.there (p:=.nd j 0) ⟨hj,by decide⟩;exact ⟨o,e⟩
   have oAll:Off (L::pls.map adr) h15 h19:=(o16.mono fun q m=>by rw[m_s m];exact .head _).trans ((o17.mono fun q m=>by rw[m_s m];exact .head _).trans ((Ext.off e18).trans (o19.mono fun q m=>by
    rw[m_s m];exact .tail _ (List.mem_map.mpr ⟨.nd j 0,.tail _ (List.mem_map.mpr ⟨j,List.mem_of_getElem? hd,rfl⟩),rfl⟩))))
   obtain ⟨τ1,hτ1⟩:∃ τ1:Srt,τ1={ τ with np:=upd τ.np j (τ.np j - 1) }:=⟨_,rfl⟩
   rw[← hτ1] at i19
   have hnp1:τ1.np j=τ.np j - 1:=by rw[hτ1];exact upd_same
   have hj1:j∈τ1.ns:=by rw[hτ1];exact hj
   try dsimp only
   show NR prog w _ (execs (_::_) env) _ _
   refine xc (ifs (b:=(τ.np j - 1) == 0) (tr_cmpR (I:=Fr2 K mg mb hb L ρj (RS prog w CN CS hb L adr τ1)) (P:=IsI (τ.np j - 1)) (P':=IsI 0) upR ((ev_np (i:=j) NK upR sinfo kin2 rep2 hj1).mono fun X h v e=>by rw[hnp1] at e;exact e) (EvR.int ev_int) fun s X u v E zz a b=>?_) b19 i19 fun s20 k20=>?_)
   ·obtain ⟨_,rfl⟩:=a
    obtain ⟨_,rfl⟩:=b
    exact wpAny_mono (op_eqi (X:=[]) (.int _ _) (.int _ _) E) (fun z s' q=>⟨q.1,q.2.bool_inv⟩) fun zz zz z=>z
   obtain ⟨h20,tk20,rfl,e20⟩:=k20
   have e20:Ext h19 h20:=e20
   have i20:=upR.ext e20 i19
   have b20:=b19.ext e20
   by_cases hq:τ.np j - 1=0
   ·have hstep:stepD τ j={ τ1 with rd:=some (lr'++[j]) }:=by unfold stepD;rw[if_pos hq,hτr,hτ1];rfl
    have hτ1r:τ1.rd=some lr':=by rw[hτ1];exact hτr
    rw[if_pos (by rw[hq];rfl)]
    try dsimp only
    show NR prog w _ (execs (_::_) env) _ _
    refine xc (wpAny_Expr_any (hi:=fr.ge.inter) (append_i (m:=j) (l:=lr') upR b20 i20 (rd (by rw[hτ1r];rfl) (by rw[hρj];rfl)) (fr.ld "successor" (by kernel_rfl) (by rw[hρj];rfl) (by decide +kernel)) (fun X h i=>i.2.1.at_ .rl (by show _=true;rw[hτ1r];rfl) _ hτ1r) (by omega) fun h21 h22 tk22 e21 o22 l22=>?_))
    have e21:Ext h20 h21:=e21
    have i21:=upR.ext e21 i20
    have r22:=i21.2.1.rdy hτ1r (Ext.refl _) i21.1.2.1 o22 l22
    rw[← hstep] at r22
    have i22:=RS.turn (X':=X2) (p:=.rl) i21 Gb flj (by show _=true;rw[hτ1r];rfl) o22 r22 fun p lp=>i21.2.2 p (by have:=(stepD_lv j p).mp lp;rw[hτ1];cases p <;> exact this)
    refine wpAny_execs_nil (wpAny_execs_nil (hQ3 _ _ ⟨h22,_,b+1,rfl,?_,rfl,?_⟩))
    ·exact oAll.trans ((Ext.off e20).trans ((Ext.off e21).trans (o22.mono fun q m=>by rw[m_s m];exact .tail _ (.head _))))
    ·rw[hnext];exact ⟨i22.1.sub (by rw[hρj];exact ⟨rfl,rfl,rfl,rfl,rfl,rfl,trivial⟩),i22.2⟩
   ·have hstep:stepD τ j=τ1:=by unfold stepD;rw[if_neg hq,hτ1]
    rw[if_neg (by simpa using hq)]
    refine wpAny_execs_nil (wpAny_execs_nil (hQ3 _ _ ⟨h20,_,b+1,rfl,oAll.trans (Ext.off e20),rfl,?_⟩))
    rw[hnext,hstep];exact ⟨i20.1.sub (by rw[hρj];exact ⟨rfl,rfl,rfl,rfl,rfl,rfl,trivial⟩),i20.2⟩
  ·rintro h15 tk15 b b15 rfl i15 o15a
   rw[List.take_length,← hσ2] at i15
   try dsimp only
   show NR prog w _ (execs (_::_) env) _ _
   refine xc (aug_fi (c:=1) SK upR b15 i15 (fr.lv "self" (by kernel_rfl) (by rfl) (by kernel_rfl)) ev_int all2 fun h16 h17 tk17 e16 o17 r17=>?_)
   have e16:Ext h15 h16:=e16
   have i16:=upR.ext e16 i15
   rw[← hdone] at r17
   have i17:=RS.turn (X':=X') (p:=.dx) i16 Gb flat_rE trivial o17 r17 fun p lp=>i16.2.2 p ((lv2 p).mpr ((lvd p).mp lp))
   refine wpAny_execs_nil (hQ2 _ _ ⟨h17,_,1,rfl,?_,rfl,?_⟩)
   ·have one:∀ {a b:Heap},Off [L] a b→Off (L::ownL adr σ) a b:=fun o=>o.mono fun q m=>by rw[m_s m];exact .head _
    have pl:∀ {p} {a b:Heap},Lv σ p→Off [adr p] a b→Off (L::ownL adr σ) a b:=fun l o=>o.mono fun q m=>by rw[m_s m];exact .tail _ (mem_ownL.mpr ⟨_,l,rfl⟩)
    refine (one o6).trans ((Ext.off e7a).trans ((one o8).trans ((Ext.off e9a).trans ((one o10).trans ((Ext.off e11).trans ((Ext.off e13).trans ((pl (p:=.nd v0 0) ⟨hi,by decide⟩ o14a).trans (Off.trans (o15a.mono fun q m=>?_) ((Ext.off e16).trans (pl (p:=.dx) trivial o17))))))))))
    rcases mC m with rfl|m
    ·exact .head _
    ·obtain ⟨p,hp,rfl⟩:=List.mem_map.mp m
     exact .tail _ (mem_ownL.mpr ⟨p,hpl p hp,rfl⟩)
   ·rw[if_neg (by decide)]
    exact ⟨i17.1.sub ⟨rfl,rfl,rfl,trivial⟩,i17.2⟩
 ·rintro h5 tk5 b b5a rfl i5a o5a
  rw[if_neg (by simp)] at i5a
  refine wpAny_execs_nil (hQ1 _ _ ⟨rfl,h5,_,rfl,i5a.2.1,fun b ob eb nb=>?_,GrownS.same lvd⟩)
  have ne:b∉[L]:=fun m=>by rw[m_s m,fr.new] at eb;cases eb
  refine o5a b ob (fun m=>?_) (o4a b ob ne (e2a _ _ (f0.2.1 b ob eb)))
  rcases m_c m with z|m
  ·exact ne (by rw[z];exact .head _)
  ·obtain ⟨p,l,z⟩:=mem_ownL.mp m
   exact nb p l z
end
theorem li_ga:Slot "list_iterator" "__getattribute__" "object.__getattribute__" :=
 .of (owner:="object") (n:="__getattribute__") (by rw[typeLookup_type,builtinLookup_eq_fast];kernel_rfl) (by decide +kernel) (by decide +kernel) (by decide +kernel)
  (by first|exact .inl (by decide +kernel)|exact .inr (by decide +kernel)) (by rw[isSubtype_type];kernel_rfl)
theorem entry_oga:entryFor table "object.__getattribute__"=some Builtin.«object.__getattribute__»:=entryFor_of_tree (by kernel_rfl)
theorem args_oga (a b:Value):argsOk "object.__getattribute__" ⟨[a,b],[]⟩:=by unfold argsOk;kernel_rfl
theorem wd_get:Slot "wrapper_descriptor" "__get__" "wrapper_descriptor.__get__" :=
 .of (owner:="wrapper_descriptor") (n:="__get__") (by rw[typeLookup_type,builtinLookup_eq_fast];kernel_rfl) (by decide +kernel) (by decide +kernel) (by decide +kernel)
  (by first|exact .inl (by decide +kernel)|exact .inr (by decide +kernel)) (by rw[isSubtype_type];kernel_rfl)
theorem entry_wdg:entryFor table "wrapper_descriptor.__get__"=some Builtin.«wrapper_descriptor.__get__»:=entryFor_of_tree (by kernel_rfl)
theorem args_wdg (a b c:Value):argsOk "wrapper_descriptor.__get__" ⟨[a,b,c],[]⟩:=by unfold argsOk;kernel_rfl
theorem type_lin:typeOf (.builtin "list_iterator.__next__")=pure (.type "wrapper_descriptor"):=by show builtinType _=_;rw[builtinType_eq_fast];kernel_rfl
theorem wd_noset:typeLookup (.type "wrapper_descriptor") "__set__"=pure none:=by rw[typeLookup_type,builtinLookup_eq_fast];kernel_rfl
theorem wd_nodel:typeLookup (.type "wrapper_descriptor") "__delete__"=pure none:=by rw[typeLookup_type,builtinLookup_eq_fast];kernel_rfl
theorem li_sub:isSubtype (.type "list_iterator") (.type "list_iterator")=pure true:=by rw[isSubtype_type];kernel_rfl
noncomputable abbrev wrapObj (id:String) (a:Addr):Obj:={ cls:=.type "method-wrapper",data:=.fields #[.builtin id,.ref a] }
section
theorem wdg_wp {Q:VSP} {tp:Value} (htp:tp=.type "list_iterator") (hT:s.TypeIs (.ref a) "list_iterator") (q:Q (.ref s.heap.objs.size) { s with heap:=s.heap.push (wrapObj "list_iterator.__next__" a) }) :
  wpAny (model prog w) A (call (.builtin "wrapper_descriptor.__get__") [.builtin "list_iterator.__next__",.ref a,tp]) Q E s:=by
 subst htp
 have hT0:s.TypeIs (.builtin "list_iterator.__next__") "wrapper_descriptor":=type_lin
 refine wpAny_call_entry wd_get hT0 entry_wdg ?_ (args_wdg _ _ _)
 obtain ⟨hp,g,d,tk,os⟩:=s
 unfold Builtin.«wrapper_descriptor.__get__»
 have f1:isSubtype (.type "list_iterator") (.type (".".intercalate ("list_iterator.__next__".cutAt '.').dropLast))=pure true:=by
  rw[show (".".intercalate ("list_iterator.__next__".cutAt '.').dropLast)="list_iterator" by decide +kernel];exact li_sub
 repeat (any_goals (first|assumption|(rw[f1])|wp_step))
 exact ⟨_,rfl,q⟩
theorem li_gattr:typeLookup (.type "list_iterator") "__getattr__"=pure none:=by rw[typeLookup_type,builtinLookup_eq_fast];kernel_rfl
set_option maxHeartbeats 4000000 in
theorem next_attr {l:Addr} {i:Nat} {b:Bool} {Q:VSP} (hit:s.heap.get? a=some { cls:=.type "list_iterator",data:=.fields #[.ref l,.int i 0] })
  (q:∀ tk,Q (.ref s.heap.objs.size) { s with heap:=s.heap.push (wrapObj "list_iterator.__next__" a),toks:=tk }):wpAny (model prog w) A (getAttr (.ref a) "__next__" b) Q E s:=by
 obtain ⟨hp,g,d,tk,os⟩:=s
 have hT:∀ tk',(⟨hp,g,d,tk',os⟩:Shared).TypeIs (.ref a) "list_iterator":=fun zz=>⟨_,hit,rfl⟩
 have f3:=li_ga.lookup
 have f4:=li_ga.bind (.ref a)
 have f5:=li_gattr
 have f6:=slot_listiter_next.lookup
 have f7:=type_lin
 have f8:=wd_get.lookup
 have f9:=wd_noset
 have f10:=wd_nodel
 unfold getAttr getAttrBy
 have key:∀ tk tk',wpAny (model prog w) A (call (.builtin "object.__getattribute__") [.ref a,.str "__next__" tk]) (fun v s'=>v=.ref hp.objs.size∧s'=⟨hp.push (wrapObj "list_iterator.__next__" a),g,d,tk',os⟩) (fun zz zz=>False) ⟨hp,g,d,tk',os⟩:=fun tk tk'=>by
  refine wpAny_call_entry li_ga (hT _) entry_oga ?_ (args_oga _ _)
  unfold Builtin.«object.__getattribute__»
  repeat (any_goals (first|assumption|exact hT _|((with_reducible show wpAny _ _ (call (Value.builtin "wrapper_descriptor.__get__") _) _ _ _);refine wdg_wp rfl (hT _) ?_)|wp_step))
  exact ⟨_,rfl,rfl,rfl⟩
 repeat (any_goals (first|assumption|exact hT _|wp_step))
 rw[if_neg (by cases b <;> decide)]
 unfold boundAndCalled
 rw[f4]
 refine wpAny_bind (wpAny_pure ?_)
 refine wpAny_mono (key _ _) (fun v s' z=>?_) fun zz zz z=>?_
 ·obtain ⟨rfl,rfl⟩:=z
  exact wpAny_pure (q _)
 ·exact z.elim
theorem iter_wp {D:Addr} {its:Array Value} {Q:VSP} (hl:s.heap.IsList D its) (q:Q (.ref s.heap.objs.size) { s with heap:=s.heap.push { cls:=.type "list_iterator",data:=.fields #[.ref D,.int 0 0] } }) :
  wpAny (model prog w) A (call (.builtin "iter") [.ref D]) Q E s:=by
 refine Calls.call_function_entry (by decide +kernel) (by decide +kernel) kdk_entry_iter (kdk_args_iter _) ?_
 unfold Builtin.«iter»
 refine wpAny_bind (m:=someArgs "iter" 1 2 _) (wpAny_of_eq (a:=[Value.ref D]) (by first|rfl|kernel_rfl!) ?_)
 show wpAny _ _ (pyIter (.ref D) >>= _) _ _ _
 exact wpAny_bind (wpAny_pyIter_list hl (wpAny_pure ⟨_,rfl,q⟩))
theorem wrap_core {m:Addr} {Q:VSP} (hm:s.heap.get? m=some (wrapObj "list_iterator.__next__" a)) (h:wpAny (model prog w) (A.under (.builtin "list_iterator.__next__" ⟨[.ref a],[]⟩)) (Builtin.«list_iterator.__next__» ⟨[.ref a],[]⟩) (fun fin s'=>∃ v,fin=.done (.ret v)∧Q v s') E s) :
  wpAny (model prog w) A (call (.ref m) []) Q E s:=by
 refine wpAny_call (codeAny_of_tree ?_)
 obtain ⟨hp,g,d,tk,os⟩:=s
 show wpAny _ _ (callAny (.ref m) _) _ _ _
 dsimp only at hm
 refine nd_load hm ?_
 have hk:builtinKind "list_iterator.__next__"=some .slot:=by decide +kernel
 have hc:checkBoundCall "list_iterator.__next__" ⟨[.ref a],[]⟩=pure ():=by
  have ha:=args_listiter_next (.ref a)
  unfold argsOk at ha
  unfold checkBoundCall
  cases hs:Manifest.signature? "list_iterator.__next__" with
  | none=>rfl
  | some sig =>
   rw[hs] at ha
   rw[hk]
   exact ha
 show wpAny _ _ (checkBoundCall "list_iterator.__next__" ⟨[.ref a],[]⟩ >>= fun zz=>again (.builtin "list_iterator.__next__" ⟨[.ref a],[]⟩)) _ _ _
 rw[hc]
 refine wpAny_bind (wpAny_pure (wpAny_pure ⟨Code.quiet_builtin _ (by decide +kernel),codeAny_builtin entry_listiter_next ?_⟩))
 refine wpAny_mono h (fun fin s' z=>?_) fun zz zz z=>z
 obtain ⟨v,rfl,z⟩:=z
 exact z
noncomputable abbrev itObj (v:Value) (i:Nat):Obj:={ cls:=.type "list_iterator",data:=.fields #[v,.int i 0] }
theorem next_item {m D:Addr} {its:Array Value} {i:Nat} {x:Value} {Q:VSP} (hm:s.heap.get? m=some (wrapObj "list_iterator.__next__" a)) (hi:s.heap.get? a=some (itObj (.ref D) i)) (hl:s.heap.IsList D its) (hx:its[i]?=some x)
  (q:∀ h',Off [a] s.heap h'→h'.get? a=some (itObj (.ref D) (i+1))→Q x { s with heap:=h' }):wpAny (model prog w) A (call (.ref m) []) Q E s:=by
 refine wrap_core hm ?_
 obtain ⟨ol,hol,_,nl,hdl⟩:=hl
 show wpAny _ _ (field (.ref a) 0 >>= _) _ _ s
 refine wpAny_bind (wpAny_field hi rfl (x:=.ref D) rfl ?_)
 show wpAny _ _ (if (Value.ref D == Value.none)=true then _ else _) _ _ s
 rw[if_neg (show ¬ ((Value.ref D == Value.none)=true) from Bool.false_ne_true)]
 show wpAny _ _ (field (.ref a) 1 >>= _) _ _ s
 refine wpAny_bind (wpAny_field hi rfl (x:=.int i 0) rfl ?_)
 show wpAny _ _ (seqItems? (.ref D) >>= _) _ _ s
 refine wpAny_bind (wpAny_seqItems hol hdl ?_)
 simp only[Int.toNat_natCast,hx]
 have hd:(itObj (.ref D) i).data=.fields #[.ref D,.int i 0]:=rfl
 refine wpAny_bind (wpAny_setField hi rfl (by simp) (wpAny_pure ⟨x,rfl,q _ (off_update _ _ _) ?_⟩))
 rw[Heap.get?_update_self _ hi (Obj.isFreed_of_fields (Obj.data_mapFields hd _))]
 simp[Obj.mapFields,rawInt]
theorem next_end {m D:Addr} {its:Array Value} {i:Nat} {Q:VSP} (hh:A.handled=none) (hm:s.heap.get? m=some (wrapObj "list_iterator.__next__" a)) (hi:s.heap.get? a=some (itObj (.ref D) i)) (hl:s.heap.IsList D its) (hx:its[i]?=none)
  (q:∀ h1a h' e,Off [a] s.heap h1a→h1a.get? a=some (itObj .none i)→Heap.MadeExcOf h1a h' e (.type "StopIteration") []→E (.ref e) { s with heap:=h' }):wpAny (model prog w) A (call (.ref m) []) Q E s:=by
 refine wrap_core hm ?_
 obtain ⟨ol,hol,_,nl,hdl⟩:=hl
 show wpAny _ _ (field (.ref a) 0 >>= _) _ _ s
 refine wpAny_bind (wpAny_field hi rfl (x:=.ref D) rfl ?_)
 show wpAny _ _ (if (Value.ref D == Value.none)=true then _ else _) _ _ s
 rw[if_neg (show ¬ ((Value.ref D == Value.none)=true) from Bool.false_ne_true)]
 show wpAny _ _ (field (.ref a) 1 >>= _) _ _ s
 refine wpAny_bind (wpAny_field hi rfl (x:=.int i 0) rfl ?_)
 show wpAny _ _ (seqItems? (.ref D) >>= _) _ _ s
 refine wpAny_bind (wpAny_seqItems hol hdl ?_)
 simp only[Int.toNat_natCast,hx]
 have hd:(itObj (.ref D) i).data=.fields #[.ref D,.int i 0]:=rfl
 refine wpAny_bind (wpAny_rule (wpAny_bind (wpAny_setField hi rfl (by simp) ?_)))
 obtain ⟨h1a,hh1⟩:∃ h1a,h1a=s.heap.update a (Obj.mapFields (·.setIfInBounds 0 Value.none)):=⟨_,rfl⟩
 have o1a:Off [a] s.heap h1a:=hh1▸off_update _ _ _
 have g1a:h1a.get? a=some (itObj .none i):=by
  rw[hh1,Heap.get?_update_self _ hi (Obj.isFreed_of_fields (Obj.data_mapFields hd _))]
  simp[Obj.mapFields]
 rw[← hh1]
 show wpAny _ _ (newExc (.type "StopIteration") [] >>= _) _ _ _
 refine wpAny_bind ?_
 simp only[newExc,newTuple]
 refine wpAny_bind (wpAny_newObj_type ?_ (by size_fits))
 refine wpAny_bind (m:=firstArgMember _ _) (wpAny_of_eq (a:=Value.none) (by first|rfl|(simp only[firstArgMember];rfl)) ?_)
 refine wpAny_newObj_type ?_ (by size_fits)
 unfold raiseNew
 refine wpAny_bind (wpAny_handled ?_)
 rw[show (A.under (.builtin "list_iterator.__next__" ⟨[.ref a],[]⟩)).handled=none from hh]
 refine wpAny_bind (wpAny_pure (wpAny_throw ?_))
 refine q h1a _ _ o1a g1a ⟨fun b o hb=>Heap.get?_push_of_some _ (Heap.get?_push_of_some _ hb),Heap.get?_none_of_le (by simp),h1a.objs.size,?_,size_none _,?_⟩
 ·exact Heap.get?_push_size _ rfl
 ·exact Heap.get?_push_of_some _ (Heap.get?_push_size _ rfl)
end
noncomputable abbrev fas (l:List Env):List Addr:=l.filterMap (·.frame)
noncomputable def OutF (l:List Env) (h:Heap):Prop:=∀ env∈l,env.scope.kind≠.module∧∃ L o es n,env.frame=some L∧h.get? L=some o∧o.data=.dict es n
noncomputable def Slt (F:List Addr) (h h':Heap):Prop:=(∀ b o,h.get? b=some o→b∉F→h'.get? b=some o)∧∀ b o,h.get? b=some o→b∈F→∃ sl,h'.get? b=some { o with slots:=sl }
theorem Slt.ext {a b c:Heap} (x:Slt F a b) (y:Ext b c):Slt F a c:=⟨fun q o e n=>y _ _ (x.1 q o e n),fun q o e m=>(x.2 q o e m).imp fun zz e=>y _ _ e⟩
theorem Slt.ns {m:Str→Option Value} (x:Slt F h h') (hn:h.Ns a m):h'.Ns a m:=by
 obtain ⟨o,es,ep,ho,hd,r⟩:=hn
 by_cases q:a∈F
 ·obtain ⟨sl,e⟩:=x.2 a o ho q;exact ⟨_,es,ep,e,hd,r⟩
 ·exact ⟨o,es,ep,x.1 a o ho q,hd,r⟩
theorem OutF.ext {l:List Env} (x:OutF l h) (y:Ext h h'):OutF l h':=fun env m=>by
 obtain ⟨k,L,o,es,n,a,b,c⟩:=x env m
 exact ⟨k,L,o,es,n,a,y _ _ b,c⟩
theorem OutF.fun_ {B:Heap}:∀ {l:List Env},OutF l h→(∀ a∈fas l,B.get? a=none)→h.FunFrames B l
 | [],_,_=>trivial
 | env::l,x,n=>by
  obtain ⟨k,L,o,es,m,a,b,c⟩:=x env (.head _)
  refine ⟨k,⟨L,o,a,n L (List.mem_filterMap.mpr ⟨env,.head _,a⟩),b,fun vs e=>by rw[c] at e;cases e⟩,OutF.fun_ (fun e m=>x e (.tail _ m)) fun a m=>?_⟩
  obtain ⟨e,he,hf⟩:=List.mem_filterMap.mp m
  exact n a (List.mem_filterMap.mpr ⟨e,.tail _ he,hf⟩)
theorem outF_there {l:List Env} (x:OutF l h) {b:Addr} {o:Obj} (m:b∈fas l) (e:h.get? b=some o):∃ es n,o.data=.dict es n:=by
 obtain ⟨env,he,hf⟩:=List.mem_filterMap.mp m
 obtain ⟨k,L,o',es,n,a,b',c⟩:=x env he
 rw[hf] at a;cases a;rw[e] at b';cases b';exact ⟨es,n,c⟩
section
variable {M:Model} {outer:List Env} {e:Addr} {cls:Value}
theorem slt_of {B:Heap} {l:List Env} (hB:B=hideAll h (fas l)) (st:B.StaysIn h') (u:h.UpToSlots h') (x:OutF l h):Slt (fas l) h h' :=
 ⟨fun b o e n=>st b o (by rw[hB];exact hideAll_get _ e n),fun b o e m=>u b o e fun vs q=>by obtain ⟨es,n,d⟩:=outF_there x m e;rw[d] at q;cases q⟩
theorem land_new {Q:Unit→Shared→Prop} (hfr:A.frames=some (env::outer)) (hf:env.frame=some L) (ho:OutF (env::outer) h1a) (hx:Heap.MadeExcOf h1a s.heap e cls vs)
  (k:∀ h' a0,Slt (fas (env::outer)) h1a h'→Heap.FlyingW (hideAll h1a (fas (env::outer))) (env::outer) e cls a0 h'→Q () { s with heap:=h' }) :
  wpAny M A (noteFrame (.ref e) env) (fun zz s'=>wpAny M A (setFlight (.ref e) none) Q E s') E s:=by
 obtain ⟨t,he,hn,ht⟩:=hx.there
 obtain ⟨B,hB⟩:∃ B,B=hideAll h1a (fas (env::outer)):=⟨_,rfl⟩
 have stB:B.StaysIn h1a:=fun b o q=>of_hideAll _ (hB▸q)
 have kb:B.StaysIn s.heap:=fun b o q=>hx.keeps b o (stB b o q)
 have nB:∀ b,h1a.get? b=none→B.get? b=none:=fun b n=>none_before stB n
 have hl:s.heap.FunFrames B (env::outer):=(ho.ext hx.keeps).fun_ fun a m=>by rw[hB];exact hideAll_none _ m
 rw[← hB] at k
 unfold noteFrame
 simp only[hf]
 refine wpAny_bind (wpAny_field he rfl (x:=.none) rfl ?_)
 rw[if_neg (by decide)]
 refine wpAny_entryW hfr hl hf he kb (nB _ hx.new) rfl (by simp) rfl fun h2a hN=>?_
 obtain ⟨k1,k2,k3,k4⟩:=hN
 refine wpAny_setFlight_noneW k1 k2 k3 fun h3a j1 j2 j3 j4=>k h3a _ ?_ ⟨j1,nB _ hx.new,j2,j3⟩
 refine slt_of hB j1 (fun b o eb nf=>?_) ho
 obtain ⟨sl,e2⟩:=k4 b o (hx.keeps b o eb) nf
 exact ⟨sl,j4 b _ e2 nf⟩
theorem land_fly {Q:Unit→Shared→Prop} {B:Heap} {a0:Value} (hfr:A.frames=some (env::outer)) (hf:env.frame=some L) (hx:Heap.FlyingW B (env::outer) e cls a0 s.heap)
  (k:∀ h',s.heap.UpToSlots h'→Heap.FlyingW B (env::outer) e cls a0 h'→Q () { s with heap:=h' }) :
  wpAny M A (noteFrame (.ref e) env) (fun zz s'=>wpAny M A (setFlight (.ref e) none) Q E s') E s :=
 wpAny_looks_onW hfr hf hx fun h2a hh u=>wpAny_landsW hh fun h3a hf u'=>k h3a (u.trans u') hf
end
theorem exc_stop:isSubtype (.type "StopIteration") (.type "BaseException")=pure true:=by rw[isSubtype_type];kernel_rfl
theorem exc_stop_nt:isSubtype (.type ((Manifest.find? "StopIteration").elim "type" fun x=>x.metatype)) (.type "tuple")=pure false:=by rw[isSubtype_type];kernel_rfl
theorem exc_stop_self:isSubtype (.type "StopIteration") (.type "StopIteration")=pure true:=by rw[isSubtype_type];kernel_rfl
section
variable {outer:List Env} {e:Addr}
theorem catch_stop {x:Str} {np pos:Pos} {b0:Stmt} {suite:List Stmt} {rest:List ExceptHandler} {Q:FSP} (hfr:A.frames=some (env::outer)) (hf:env.frame=some L) (ho:OutF (env::outer) h1a) (hx:Heap.MadeExcOf h1a s.heap e (.type "StopIteration") [])
  (ht:∀ h',Slt (fas (env::outer)) h1a h'→∀ Q:VSP,∀ E,Q (.type "StopIteration") { s with heap:=h' }→wpAny (model prog w) (A.mark (some (.ref e))) (eval (.Name x np) env) Q E { s with heap:=h' })
  (k:∀ h',Slt (fas (env::outer)) h1a h'→NR prog w (A.mark (some (.ref e))) (execs (b0::suite) env) Q { s with heap:=h' }) :
  wpAny (model prog w) A (noteFrame (.ref e) env) (fun zz s2a=>wpAny (model prog w) A (setFlight (.ref e) none) (fun zz s3a=>wpAny (model prog w) A (handleBy (.ref e) env (.ExceptHandler (some (.Name x np)) none (b0::suite) pos::rest)) Q (fun zz zz=>False) s3a) (fun zz zz=>False) s2a) (fun zz zz=>False) s:=by
 refine land_new hfr hf ho hx fun h2a a0 sl fl=>?_
 refine wpAny_handleBy_builtin (X:="StopIteration") (T:="StopIteration") (b:=true) exc_stop exc_stop_nt exc_stop_self (ht h2a sl _ _ ⟨rfl,fl.there,?_⟩)
 rw[if_pos rfl]
 refine lands_againW fl fun h3a fl3 u=>?_
 exact wpAny_passesOwnAt PassesOwnAt.never (k h3a (slt_of rfl fl3.1 (fun b o eb nf=>by
  by_cases m:b∈fas (env::outer)
  ·obtain ⟨sl',e'⟩:=sl.2 b o eb m
   obtain ⟨sl2,e2⟩:=u b _ e' nf
   exact ⟨sl2,e2⟩
  ·exact u b o (sl.1 b o eb m) nf) ho))
end
section
variable (su:Int→List Int) (ns:List Int)
noncomputable def Cns (fin:List Int):Option Int→List (Int×Nat)→Prop
 | _,[]=>True
 | x,(n,k)::r=>(∀ (i:Nat) (m:Int),i<k→(su n)[i]?=some m→m∈fin∨x=some m)∧k≤(su n).length∧(∀ m,x=some m→m∈su n)∧Cns fin (some n) r
noncomputable def Topo:List Int→Prop
 | []=>True
 | b::l=>(∀ m∈su b,m∈l)∧Topo l
structure DInv (x:Option Int) (tp:List (Int×Nat)) (fin:List Int):Prop where
 c:Cns su fin x tp
 t:Topo su fin
 nd:(tp.map (·.1)++fin).Nodup
 sub:∀ n∈tp.map (·.1)++fin,n∈ns
noncomputable def Acyc:Prop:=∃ f:Int→Nat,∀ n∈ns,∀ m∈su n,f n<f m
noncomputable def wgt (tp:List (Int×Nat)):Nat:=(tp.map fun p=>(su p.1).length - p.2+1).sum
noncomputable def unseen (tp:List (Int×Nat)) (fin:List Int):Nat:=(ns.filter fun n=>decide (n∉tp.map (·.1)++fin)).length
end
section
variable {su:Int→List Int} {ns:List Int} {x:Option Int} {tp r:List (Int×Nat)} {fin:List Int} {n:Int} {k:Nat}
theorem Cns.more {fin fin':List Int} (h:∀ m∈fin,m∈fin'):∀ {x:Option Int} {tp:List (Int×Nat)},Cns su fin x tp→Cns su fin' x tp:=by
 intro x tp
 induction tp generalizing x with
 | nil=>intro zz;trivial
 | cons p r ih=>intro z;exact ⟨fun i m hi e=>(z.1 i m hi e).imp (h m) id,z.2.1,z.2.2.1,ih z.2.2.2⟩
theorem Cns.drop {x:Option Int} {tp:List (Int×Nat)} (h:∀ m,x=some m→m∈fin) (c:Cns su fin x tp):Cns su fin none tp:=by
 cases tp with
 | nil=>trivial
 | cons p r=>exact ⟨fun i m hi e=>.inl ((c.1 i m hi e).elim id (h m)),c.2.1,(fun m e=>by cases e),c.2.2.2⟩
theorem DInv.push (I:DInv su ns (some m) tp fin) (hm:m∉tp.map (·.1)++fin) (hn:m∈ns):DInv su ns none ((m,0)::tp) fin :=
 ⟨⟨fun i m hi=>absurd hi (Nat.not_lt_zero _),Nat.zero_le _,(fun m e=>by cases e),I.c⟩,I.t,by rw[List.map_cons,List.cons_append];exact List.nodup_cons.mpr ⟨hm,I.nd⟩,fun n h=>by
  rw[List.map_cons,List.cons_append] at h
  rcases mC h with rfl|h
  ·exact hn
  ·exact I.sub n h⟩
theorem DInv.root (hr:DInv su ns none [] fin):DInv su ns (some m) [] fin:=⟨trivial,hr.t,hr.nd,hr.sub⟩
theorem DInv.old (I:DInv su ns (some m) tp fin) (hm:m∈fin):DInv su ns none tp fin:=⟨I.c.drop fun m' e=>by cases e;exact hm,I.t,I.nd,I.sub⟩
theorem DInv.next (I:DInv su ns none ((n,k)::r) fin) (h:(su n)[k]?=some m):DInv su ns (some m) ((n,k+1)::r) fin:=by
 obtain ⟨⟨a,b,c,d⟩,t,nd,sub⟩:=I
 refine ⟨⟨fun i m' hi e=>?_,(List.getElem?_eq_some_iff.mp h).1,(fun m' e=>by cases e;exact List.mem_of_getElem? h),d⟩,t,nd,sub⟩
 by_cases q:i=k
 ·subst q;rw[h] at e;exact .inr e
 ·exact .inl ((a i m' (by lia) e).elim id fun e=>by cases e)
theorem DInv.pop (I:DInv su ns none ((n,k)::r) fin) (h:(su n)[k]?=none):DInv su ns none r (n::fin):=by
 obtain ⟨⟨a,b,c,d⟩,t,nd,sub⟩:=I
 have hk:k=(su n).length:=Nat.le_antisymm b (by simpa using h)
 refine ⟨(d.more fun m hm=>.tail _ hm).drop fun m e=>by cases e;exact .head _,⟨fun m hm=>?_,t⟩,?_,fun m hm=>sub m ?_⟩
 ·obtain ⟨i,hi,e⟩:=List.mem_iff_getElem.mp hm
  exact (a i m (by lia) (by rw[← e];exact List.getElem?_eq_getElem hi)).elim id fun e=>by cases e
 ·rw[List.map_cons,List.cons_append,List.nodup_cons] at nd
  rw[List.nodup_append] at nd ⊢
  refine ⟨nd.2.1,List.nodup_cons.mpr ⟨fun h=>nd.1 (m_r _ h),nd.2.2.1⟩,fun a ha b hb e=>?_⟩
  subst e
  rcases mC hb with rfl|hb
  ·exact nd.1 (m_l _ ha)
  ·exact nd.2.2.2 a ha a hb rfl
 ·rw[List.map_cons,List.cons_append]
  rcases m_a hm with hm|hm
  ·exact .tail _ (m_l _ hm)
  ·rcases mC hm with rfl|hm
   ·exact .head _
   ·exact .tail _ (m_r _ hm)
theorem Cns.less {f:Int→Nat} (hf:∀ n∈ns,∀ m∈su n,f n<f m):∀ {tp:List (Int×Nat)} {m:Int},Cns su fin (some m) tp→(∀ n∈tp.map (·.1),n∈ns)→∀ n∈tp.map (·.1),f n<f m:=by
 intro tp
 induction tp with
 | nil=>intro zz zz zz n h;cases h
 | cons p r ih =>
  intro m z sub n h
  have h1:=hf p.1 (sub p.1 (.head _)) m (z.2.2.1 m rfl)
  rcases mC h with rfl|h
  ·exact h1
  ·exact Nat.lt_trans (ih z.2.2.2 (fun n h=>sub n (.tail _ h)) n h) h1
theorem DInv.cycle (I:DInv su ns (some m) tp fin) (hm:m∈tp.map (·.1)):¬ Acyc su ns:=by
 rintro ⟨f,hf⟩
 exact
 Nat.lt_irrefl _ (I.c.less hf (fun n h=>I.sub n (m_l _ h)) m hm)
theorem topo_lt:∀ {fin:List Int},Topo su fin→fin.Nodup→∀ n∈fin,∀ m∈su n,fin.idxOf n<fin.idxOf m
 | [],_,_,n,h,_,_=>by cases h
 | b::l,⟨a,t⟩,nd,n,h,m,hm=>by
  obtain ⟨nb,nl⟩:=List.nodup_cons.mp nd
  have ml:m∈l:=by
   rcases mC h with rfl|h
   ·exact a m hm
   ·have:∀ {l:List Int},Topo su l→∀ n∈l,∀ m∈su n,m∈l:=fun {l}=>by
     induction l with
     | nil=>intro _ n h;cases h
     | cons b l ih =>
      intro ⟨a,t⟩ n h m hm
      rcases mC h with rfl|h
      ·exact .tail _ (a m hm)
      ·exact .tail _ (ih t n h m hm)
    exact this t n h m hm
  have mb:(b == m)=false:=by simpa using fun e:b=m=>nb (e▸ml)
  rw[List.idxOf_cons,List.idxOf_cons,mb]
  by_cases q:b=n
  ·subst q;simp
  ·have:(b == n)=false:=by simpa using q
   rw[this]
   have hn:n∈l:=(m_c h).elim (fun e=>absurd e.symm q) id
   simpa using topo_lt t nl n hn m hm
theorem DInv.done (I:DInv su ns none [] fin) (h:∀ n∈ns,n∈fin):Acyc su ns:=⟨fun n=>fin.idxOf n,fun n hn m hm=>topo_lt I.t (by simpa using I.nd) n (h n hn) m hm⟩
theorem filter_lt {p q:Int→Bool} (hpq:∀ n,q n=true→p n=true):∀ {l:List Int},m∈l→p m=true→q m=false→(l.filter q).length<(l.filter p).length
 | [],h,_,_=>by cases h
 | a::l,h,hp,hq=>by
  have le:∀ l:List Int,(l.filter q).length≤(l.filter p).length:=fun l=>by
   induction l with
   | nil=>simp
   | cons a l ih =>
    rw[List.filter_cons,List.filter_cons]
    by_cases e:q a=true
    ·rw[if_pos e,if_pos (hpq a e)];simpa using ih
    ·rw[if_neg e];split
     ·simp only[List.length_cons];lia
     ·exact ih
  rw[List.filter_cons,List.filter_cons]
  rcases mC h with rfl|h
  ·rw[if_neg (by rw[hq];simp),if_pos hp];have:=le l;simp only[List.length_cons];lia
  ·have ih:=filter_lt hpq h hp hq
   by_cases e:q a=true
   ·rw[if_pos e,if_pos (hpq a e)];simpa using ih
   ·rw[if_neg e];split
    ·simp only[List.length_cons];lia
    ·exact ih
theorem unseen_push (hm:m∉tp.map (·.1)++fin) (hn:m∈ns):unseen ns ((m,k)::tp) fin<unseen ns tp fin:=by
 refine filter_lt (fun n h=>?_) hn (by simpa using hm) (by simp)
 simp only[decide_eq_true_eq] at h ⊢
 exact fun q=>h (by rw[List.map_cons,List.cons_append];exact .tail _ q)
theorem unseen_next:unseen ns ((n,k+1)::r) fin=unseen ns ((n,k)::r) fin:=rfl
theorem unseen_pop:unseen ns r (n::fin)=unseen ns ((n,k)::r) fin:=by
 unfold unseen
 congr 1
 refine List.filter_congr fun a zz=>?_
 rw[List.map_cons,List.cons_append]
 simp only[List.mem_append,List.mem_cons,decide_eq_decide]
 constructor <;> (intro h q;refine h ?_;rcases q with q|q|q <;> simp[q])
end
structure PE where
 n:Int
 a:Addr
 m:Addr
 k:Nat
noncomputable abbrev AL (S T Se N2 L:Addr) (pth:List PE):List Addr:=S::T::Se::N2::L::pth.map (·.a)
structure CY (prog:Program) (w:World) (h0:Heap) (F:List Addr) (adr:Pl→Addr) (S T Se N2 L:Addr) (sv:List Int) (tv:List Addr) (sl kv:List Int) (pth:List PE) (X:List Addr) (h:Heap):Prop where
 fr:∀ b∈F,∀ o,h0.get? b=some o→∃ sl,h.get? b=some { o with slots:=sl }
 s:IntL h S sv
 t:Lst h T (tv.map Value.ref).toArray
 se:h.SetOf (intKind prog w) Se (fun i=>decide (i∈sl)) sl.length
 n2:∃ kvs,h.DictOf (intKind prog w) N2 kvs∧kvs.map (·.1)=kv∧∀ (j:Nat) x,kvs[j]?=some x→IsI j x.2
 it:∀ p∈pth,h.get? p.a=some (itObj (.ref (adr (.nd p.n 2))) p.k)∧h.get? p.m=some (wrapObj "list_iterator.__next__" p.a)
 ap:(AL S T Se N2 L pth).Nodup
 nw:∀ b∈AL S T Se N2 L pth,h0.get? b=none
 mm:∀ p∈pth,p.m∉AL S T Se N2 L pth
 nm:∀ p∈pth,h0.get? p.m=none
section
variable {adr:Pl→Addr} {S T Se N2:Addr} {sv:List Int} {sl kv:List Int} {pth:List PE}
theorem CY.ne5 (c:CY prog w h0 F adr S T Se N2 L sv tv sl kv pth X h):(S≠T∧S≠Se∧S≠N2∧S≠L)∧(T≠Se∧T≠N2∧T≠L)∧(Se≠N2∧Se≠L)∧N2≠L∧∀ p∈pth,p.a≠S∧p.a≠T∧p.a≠Se∧p.a≠N2∧p.a≠L:=by
 obtain ⟨a,h⟩:=List.nodup_cons.mp c.ap
 obtain ⟨b,h⟩:=List.nodup_cons.mp h
 obtain ⟨d,h⟩:=List.nodup_cons.mp h
 obtain ⟨e,h⟩:=List.nodup_cons.mp h
 obtain ⟨f,h⟩:=List.nodup_cons.mp h
 refine ⟨⟨fun q=>a (q▸.head _),fun q=>a (q▸.tail _ (.head _)),fun q=>a (q▸.tail _ (.tail _ (.head _))),fun q=>a (q▸.tail _ (.tail _ (.tail _ (.head _))))⟩,⟨fun q=>b (q▸.head _),fun q=>b (q▸.tail _ (.head _)),fun q=>b (q▸.tail _ (.tail _ (.head _)))⟩,⟨fun q=>d (q▸.head _),fun q=>d (q▸.tail _ (.head _))⟩,fun q=>e (q▸.head _),fun p m=>?_⟩
 have m:=List.mem_map_of_mem (f:=(·.a)) m
 exact ⟨fun q=>a (q▸.tail _ (.tail _ (.tail _ (.tail _ m)))),fun q=>b (q▸.tail _ (.tail _ (.tail _ m))),fun q=>d (q▸.tail _ (.tail _ m)),fun q=>e (q▸.tail _ m),fun q=>f (q▸m)⟩
theorem lst_keep {D:Addr} {its:Array Value} (x:Lst h D its) (k:∀ o,h.get? D=some o→h'.get? D=some o):Lst h' D its:=by obtain ⟨n,e⟩:=x;exact ⟨n,k _ e⟩
theorem CY.ext (c:CY prog w h0 F adr S T Se N2 L sv tv sl kv pth X h) (k:Ext h h'):CY prog w h0 F adr S T Se N2 L sv tv sl kv pth X' h' where
 fr:=fun b m o e=>(c.fr b m o e).imp fun zz e=>k _ _ e
 s:=c.s.keep fun o e=>k _ _ e
 t:=c.t.ext k
 se:=setOf_keep c.se fun o e=>k _ _ e
 n2:=by obtain ⟨kvs,d,r⟩:=c.n2;exact ⟨kvs,dictOf_keep d fun o e=>k _ _ e,r⟩
 it:=fun p m=>⟨k _ _ (c.it p m).1,k _ _ (c.it p m).2⟩
 ap:=c.ap
 nw:=c.nw
 mm:=c.mm
 nm:=c.nm
theorem CY.step {b:Addr} {sv':List Int} {tv':List Addr} {sl' kv':List Int} (c:CY prog w h0 F adr S T Se N2 L sv tv sl kv pth X h) (hF:∀ b∈F,∃ o,h0.get? b=some o) (o:Off [b] h h') (hb:b∈[S,T,Se,N2,L])
  (hs:if b=S then IntL h' S sv' else sv'=sv) (ht:if b=T then Lst h' T (tv'.map Value.ref).toArray else tv'=tv)
  (hse:if b=Se then h'.SetOf (intKind prog w) Se (fun i=>decide (i∈sl')) sl'.length else sl'=sl)
  (hn:if b=N2 then ∃ kvs,h'.DictOf (intKind prog w) N2 kvs∧kvs.map (·.1)=kv'∧∀ (j:Nat) x,kvs[j]?=some x→IsI j x.2 else kv'=kv):CY prog w h0 F adr S T Se N2 L sv' tv' sl' kv' pth X' h':=by
 have hbA:b∈AL S T Se N2 L pth:=by
  simp only[List.mem_cons,List.not_mem_nil,or_false] at hb
  rcases hb with rfl|rfl|rfl|rfl|rfl <;> simp
 have k:∀ {a ob},a≠b→h.get? a=some ob→h'.get? a=some ob:=fun n e=>o _ _ (fun m=>n (m_s m)) e
 have ne:=c.ne5
 refine ⟨fun a m ob e=>?_,?_,?_,?_,?_,fun p m=>⟨k (fun q=>?_) (c.it p m).1,k (fun q=>c.mm p m (q▸hbA)) (c.it p m).2⟩,c.ap,c.nw,c.mm,c.nm⟩
 ·obtain ⟨s,e'⟩:=c.fr a m ob e
  exact ⟨s,k (fun q=>by obtain ⟨_,z⟩:=hF a m;rw[q,c.nw b hbA] at z;cases z) e'⟩
 ·split at hs
  ·exact hs
  ·rename_i q;rw[hs];exact c.s.keep fun ob e=>k (Ne.symm q) e
 ·split at ht
  ·exact ht
  ·rename_i q;rw[ht];exact lst_keep c.t fun ob e=>k (Ne.symm q) e
 ·split at hse
  ·exact hse
  ·rename_i q;rw[hse];exact setOf_keep c.se fun ob e=>k (Ne.symm q) e
 ·split at hn
  ·exact hn
  ·rename_i q;rw[hn];obtain ⟨kvs,d,r⟩:=c.n2;exact ⟨kvs,dictOf_keep d fun ob e=>k (Ne.symm q) e,r⟩
 ·obtain ⟨a1,a2,a3,a4,a5⟩:=ne.2.2.2.2 p m
  simp only[List.mem_cons,List.not_mem_nil,or_false] at hb
  rcases hb with e|e|e|e|e
  ·exact a1 (q.trans e)
  ·exact a2 (q.trans e)
  ·exact a3 (q.trans e)
  ·exact a4 (q.trans e)
  ·exact a5 (q.trans e)
theorem CY.onL (c:CY prog w h0 F adr S T Se N2 L sv tv sl kv pth X h) (hF:∀ b∈F,∃ o,h0.get? b=some o) (o:Off [L] h h'):CY prog w h0 F adr S T Se N2 L sv tv sl kv pth X' h' :=
 c.step hF o (by simp) (by rw[if_neg (Ne.symm c.ne5.1.2.2.2)]) (by rw[if_neg (Ne.symm c.ne5.2.1.2.2)]) (by rw[if_neg (Ne.symm c.ne5.2.2.1.2)]) (by rw[if_neg (Ne.symm c.ne5.2.2.2.1)])
theorem CY.onS {sv':List Int} (c:CY prog w h0 F adr S T Se N2 L sv tv sl kv pth X h) (hF:∀ b∈F,∃ o,h0.get? b=some o) (o:Off [S] h h') (l:IntL h' S sv'):CY prog w h0 F adr S T Se N2 L sv' tv sl kv pth X' h' :=
 c.step hF o (by simp) (by rw[if_pos rfl];exact l) (by rw[if_neg c.ne5.1.1]) (by rw[if_neg c.ne5.1.2.1]) (by rw[if_neg c.ne5.1.2.2.1])
theorem CY.onT {tv':List Addr} (c:CY prog w h0 F adr S T Se N2 L sv tv sl kv pth X h) (hF:∀ b∈F,∃ o,h0.get? b=some o) (o:Off [T] h h') (l:Lst h' T (tv'.map Value.ref).toArray):CY prog w h0 F adr S T Se N2 L sv tv' sl kv pth X' h' :=
 c.step hF o (by simp) (by rw[if_neg (Ne.symm c.ne5.1.1)]) (by rw[if_pos rfl];exact l) (by rw[if_neg c.ne5.2.1.1]) (by rw[if_neg c.ne5.2.1.2.1])
theorem CY.onSe {sl':List Int} (c:CY prog w h0 F adr S T Se N2 L sv tv sl kv pth X h) (hF:∀ b∈F,∃ o,h0.get? b=some o) (o:Off [Se] h h') (l:h'.SetOf (intKind prog w) Se (fun i=>decide (i∈sl')) sl'.length):CY prog w h0 F adr S T Se N2 L sv tv sl' kv pth X' h' :=
 c.step hF o (by simp) (by rw[if_neg (Ne.symm c.ne5.1.2.1)]) (by rw[if_neg (Ne.symm c.ne5.2.1.1)]) (by rw[if_pos rfl];exact l) (by rw[if_neg c.ne5.2.2.1.1])
theorem CY.onN {kv':List Int} (c:CY prog w h0 F adr S T Se N2 L sv tv sl kv pth X h) (hF:∀ b∈F,∃ o,h0.get? b=some o) (o:Off [N2] h h') (l:∃ kvs,h'.DictOf (intKind prog w) N2 kvs∧kvs.map (·.1)=kv'∧∀ (j:Nat) x,kvs[j]?=some x→IsI j x.2):CY prog w h0 F adr S T Se N2 L sv tv sl kv' pth X' h' :=
 c.step hF o (by simp) (by rw[if_neg (Ne.symm c.ne5.1.2.2.1)]) (by rw[if_neg (Ne.symm c.ne5.2.1.2.1)]) (by rw[if_neg (Ne.symm c.ne5.2.2.1.1)]) (by rw[if_pos rfl];exact l)
theorem CY.onA {p:PE} (c:CY prog w h0 F adr S T Se N2 L sv tv sl kv (pth++[p]) X h) (hF:∀ b∈F,∃ o,h0.get? b=some o) (o:Off [p.a] h h') (g:h'.get? p.a=some (itObj (.ref (adr (.nd p.n 2))) (p.k+1))):CY prog w h0 F adr S T Se N2 L sv tv sl kv (pth++[{ p with k:=p.k+1 }]) X' h':=by
 have hp:p∈pth++[p]:=by simp
 have eA:AL S T Se N2 L (pth++[{ p with k:=p.k+1 }])=AL S T Se N2 L (pth++[p]):=by simp
 have hbA:p.a∈AL S T Se N2 L (pth++[p]):=by simp
 obtain ⟨n1,n2,n3,n4,n5⟩:=c.ne5.2.2.2.2 p hp
 have k:∀ {a ob},a≠p.a→h.get? a=some ob→h'.get? a=some ob:=fun n e=>o _ _ (fun m=>n (m_s m)) e
 refine ⟨fun a m ob e=>?_,c.s.keep fun ob e=>k (Ne.symm n1) e,lst_keep c.t fun ob e=>k (Ne.symm n2) e,setOf_keep c.se fun ob e=>k (Ne.symm n3) e,?_,fun q m=>?_,by rw[eA];exact c.ap,by rw[eA];exact c.nw,fun q m=>?_,fun q m=>?_⟩
 ·obtain ⟨s,e'⟩:=c.fr a m ob e
  exact ⟨s,k (fun q=>by obtain ⟨_,z⟩:=hF a m;rw[q,c.nw _ hbA] at z;cases z) e'⟩
 ·obtain ⟨kvs,d,r⟩:=c.n2;exact ⟨kvs,dictOf_keep d fun ob e=>k (Ne.symm n4) e,r⟩
 ·rcases m_a m with m|m
  ·have m':q∈pth++[p]:=m_l _ m
   refine ⟨k (fun e=>?_) (c.it q m').1,k (fun e=>c.mm q m' (e▸hbA)) (c.it q m').2⟩
   have nd:=c.ap
   simp only[AL,List.map_append,List.map_cons,List.map_nil,List.nodup_cons,List.nodup_append] at nd
   exact nd.2.2.2.2.2.2.2 q.a (List.mem_map_of_mem m) p.a (by simp) e
  ·rw[m_s m]
   exact ⟨g,k (fun e=>c.mm p hp (e▸hbA)) (c.it p hp).2⟩
 ·rw[eA]
  rcases m_a m with m|m
  ·exact c.mm q (m_l _ m)
  ·rw[m_s m];exact c.mm p hp
 ·rcases m_a m with m|m
  ·exact c.nm q (m_l _ m)
  ·rw[m_s m];exact c.nm p hp
theorem CY.addA {p:PE} (c:CY prog w h0 F adr S T Se N2 L sv tv sl kv pth X h) (k:∀ b,h.get? b=none→h0.get? b=none) (n:∀ b∈AL S T Se N2 L pth,∃ o,h.get? b=some o) (ha:h.get? p.a=none) (hm:h.get? p.m=none) (ham:p.a≠p.m) (hmo:∀ q∈pth,∃ o,h.get? q.m=some o) (e:Ext h h')
  (g1:h'.get? p.a=some (itObj (.ref (adr (.nd p.n 2))) p.k)) (g2:h'.get? p.m=some (wrapObj "list_iterator.__next__" p.a)):CY prog w h0 F adr S T Se N2 L sv tv sl kv (pth++[p]) X' h':=by
 have c':=c.ext (X':=X') e
 have mem:∀ b,b∈AL S T Se N2 L (pth++[p])↔b∈AL S T Se N2 L pth∨b=p.a:=fun b=>by simp only[AL,List.map_append,List.mem_cons,List.mem_append,List.map_cons,List.map_nil,List.not_mem_nil,or_false];grind
 have np:p.a∉AL S T Se N2 L pth:=fun m=>by obtain ⟨o,q⟩:=n _ m;rw[ha] at q;cases q
 refine ⟨c'.fr,c'.s,c'.t,c'.se,c'.n2,fun q m=>?_,?_,fun b m=>?_,fun q m z=>?_,fun q m=>?_⟩
 ·rcases m_a m with m|m
  ·exact c'.it q m
  ·rw[m_s m];exact ⟨g1,g2⟩
 ·have:AL S T Se N2 L (pth++[p])=AL S T Se N2 L pth++[p.a]:=by simp[AL]
  rw[this,List.nodup_append]
  exact ⟨c.ap,by simp,fun a ma b mb e=>by rw[m_s mb] at e;exact np (e▸ma)⟩
 ·rcases (mem b).mp m with m|rfl
  ·exact c.nw b m
  ·exact k _ ha
 ·rcases m_a m with m|m
  ·rcases (mem _).mp z with z|z
   ·exact c.mm q m z
   ·obtain ⟨o,e'⟩:=hmo q m;rw[z,ha] at e';cases e'
  ·rw[m_s m] at z
   rcases (mem _).mp z with z|z
   ·obtain ⟨o,e'⟩:=n _ z;rw[hm] at e';cases e'
   ·exact ham z.symm
 ·rcases m_a m with m|m
  ·exact c.nm q m
  ·rw[m_s m];exact k _ hm
theorem CY.dropA {p:PE} (c:CY prog w h0 F adr S T Se N2 L sv tv sl kv (pth++[p]) X h):CY prog w h0 F adr S T Se N2 L sv tv sl kv pth X' h where
 fr:=c.fr
 s:=c.s
 t:=c.t
 se:=c.se
 n2:=c.n2
 it:=fun q m=>c.it q (m_l _ m)
 ap:=by
  have:AL S T Se N2 L (pth++[p])=AL S T Se N2 L pth++[p.a]:=by simp[AL]
  have nd:=c.ap
  rw[this,List.nodup_append] at nd;exact nd.1
 nw:=fun b m=>c.nw b (by simp only[AL,List.map_append,List.mem_cons,List.mem_append] at m ⊢;grind)
 nm:=fun q m=>c.nm q (m_l _ m)
 mm:=fun q m z=>c.mm q (m_l _ m) (by simp only[AL,List.map_append,List.mem_cons,List.mem_append] at z ⊢;grind)
theorem CY.there (c:CY prog w h0 F adr S T Se N2 L sv tv sl kv pth X h) (hL:NT h L):∀ b∈AL S T Se N2 L pth,NT h b:=fun b m=>by
 rcases mC m with rfl|m
 ·exact c.s.nt
 rcases mC m with rfl|m
 ·exact c.t.nt
 rcases mC m with rfl|m
 ·obtain ⟨o,es,ep,t,e,q,_⟩:=c.se;exact ⟨o,e,not_tup_of_cls q.1 (by decide)⟩
 rcases mC m with rfl|m
 ·obtain ⟨kvs,⟨o,es,ep,e,_,d,_⟩,_⟩:=c.n2;exact ⟨o,e,not_tup_of_dict d⟩
 rcases mC m with rfl|m
 ·exact hL
 ·obtain ⟨p,hp,rfl⟩:=List.mem_map.mp m
  exact ⟨_,(c.it p hp).1,not_tup_of_fields rfl⟩
end
noncomputable abbrev To (s:Shared) (h:Heap) (t:Nat):Shared:={ s with heap:=h,toks:=t }
structure Cx where
 K:Frag
 mg:Str→Option Value
 mb:Str→Option Value
 hb:Heap
 h0:Heap
 F:List Addr
 adr:Pl→Addr
 σ:Srt
 CN:Addr
 CS:Addr
 hs:Heap
 S:Addr
 T:Addr
 Se:Addr
 N2:Addr
 L:Addr
noncomputable def Cx.M (c:Cx):List Addr:=[c.L,c.S,c.T,c.Se,c.N2]++c.F
structure CxOk (prog:Program) (w:World) (c:Cx):Prop where
 G:GK c.K c.mg c.mb c.hb
 eb:Ext c.hb c.h0
 F0:∀ b∈c.F,c.hb.get? b=none
 hbo:∀ b o,c.h0.get? b=some o→b∉c.F→c.hb.get? b=some o
 F1:∀ b∈c.F,∃ o,c.h0.get? b=some o
 r:SRep prog w c.CN c.CS c.hs c.hb c.adr c.σ
 NK:NodeK c.K c.CN
 SK:SortK c.K w c.CS
 N:SortN c.mg c.mb c.CN
 L0:c.h0.get? c.L=none
 gs:GK c.K c.mg c.mb c.hs
 n20:c.N2≠sysModules
noncomputable abbrev FC (prog:Program) (w:World) (c:Cx) (ρ:List (Str×VD)) (sv:List Int) (tv:List Addr) (sl kv:List Int) (pth:List PE):XHP :=
 Fr2 c.K c.mg c.mb c.hb c.L ρ (CY prog w c.h0 c.F c.adr c.S c.T c.Se c.N2 c.L sv tv sl kv pth)
noncomputable def rC0 (c:Cx):List (Str×VD):=[("node2stacki",.val (.ref c.N2)),("seen",.val (.ref c.Se)),("itstack",.val (.ref c.T)),("stack",.val (.ref c.S)),("n2i",.val (.ref (c.adr .D))),("self",.val (.ref (c.adr .x)))]
noncomputable def rC (c:Cx) (node:Int):List (Str×VD):=("node",.dat (.int node))::rC0 c
noncomputable def Z (M:List Addr) (hs h h':Heap):Prop:=∀ b o,b∉M→(∃ o',hs.get? b=some o')→h.get? b=some o→h'.get? b=some o
theorem Z.refl {M:List Addr}:Z M hs h h:=fun zz zz zz zz e=>e
theorem Z.trans {M:List Addr} {a b d:Heap} (x:Z M hs a b) (y:Z M hs b d):Z M hs a d:=fun q o n e z=>y q o n e (x q o n e z)
theorem Ext.z {M:List Addr} {a b:Heap} (x:Ext a b):Z M hs a b:=fun q o zz zz e=>x q o e
theorem Off.z {M:List Addr} {a b:Heap} {p:Addr} (x:Off [p] a b) (h:p∈M∨hs.get? p=none):Z M hs a b:=fun q o n e z=>x q o (fun m=>by
 rw[m_s m] at n e
 rcases h with h|h
 ·exact n h
 ·obtain ⟨_,e⟩:=e;rw[h] at e;cases e) z
section
variable {c:Cx} {sv:List Int} {sl kv:List Int} {pth:List PE} {node:Int}
theorem rest_cy (ok:CxOk prog w c):Rest c.L (CY prog w c.h0 c.F c.adr c.S c.T c.Se c.N2 c.L sv tv sl kv pth):=⟨fun X X' h h' k zz a=>a.ext k,fun X h h' a zz zz k=>a.onL ok.F1 k⟩
theorem upC (ok:CxOk prog w c):Up (FC prog w c ρ sv tv sl kv pth):=up2 (rest_cy ok)
theorem flat_rC0:FlatL (rC0 c):=⟨trivial,trivial,trivial,trivial,trivial,trivial,trivial⟩
theorem flat_rC:FlatL (rC c node):=⟨flat_int _,flat_rC0⟩
theorem FC.hb0 (ok:CxOk prog w c) (i:FC prog w c ρ sv tv sl kv pth X h):∀ b∈AL c.S c.T c.Se c.N2 c.L pth,c.hb.get? b=none:=fun b m=>none_before ok.eb (i.2.nw b m)
theorem FC.turn {b:Addr} {sv':List Int} {tv':List Addr} {sl' kv':List Int} {pth':List PE} (ok:CxOk prog w c) (i:FC prog w c ρ sv tv sl kv pth X h) (fl:FlatL ρ) (o:Off [b] h h') (hb:b∈AL c.S c.T c.Se c.N2 c.L pth) (hL:b≠c.L) (c':CY prog w c.h0 c.F c.adr c.S c.T c.Se c.N2 c.L sv' tv' sl' kv' pth' X' h') :
  FC prog w c ρ sv' tv' sl' kv' pth' X' h':=⟨i.1.turn ok.G fl o fun a m=>by rw[m_s m];exact ⟨i.hb0 ok b hb,hL,i.2.there i.1.nt b hb⟩,c'⟩
theorem FC.none (ok:CxOk prog w c) (i:FC prog w c ρ sv tv sl kv pth X h) {b:Addr} (n:h.get? b=none):c.h0.get? b=none:=by
 cases e:c.h0.get? b with
 | none=>rfl
 | some o =>
  by_cases m:b∈c.F
  ·obtain ⟨sl,e'⟩:=i.2.fr b m o e;rw[n] at e';cases e'
  ·have:=i.1.2.1 _ _ (ok.hbo b o e m);rw[n] at this;cases this
theorem FC.bd (i:FC prog w c ρ sv tv sl kv pth X h):Bd [c.L] h:=fun b m=>by rw[m_s m];obtain ⟨o,e,_⟩:=i.1.nt;exact ⟨o,e⟩
theorem FC.x (i:FC prog w c ρ sv tv sl kv pth X h) (fl:FlatL ρ):FC prog w c ρ sv tv sl kv pth X' h:=⟨i.1.flat fl,i.2.ext (Ext.refl _)⟩
theorem slt_fc (ok:CxOk prog w c) (i:FC prog w c ρ sv tv sl kv pth X h) (fl:FlatL ρ) (x:Slt (c.L::c.F) h h') (hd:∀ b∈c.F,∀ o,h.get? b=some o→¬ TupObj o):FC prog w c ρ sv tv sl kv pth X' h':=by
 have n0:∀ b∈c.L::c.F,c.hb.get? b=none:=fun b m=>by
  rcases mC m with rfl|m
  ·exact none_before ok.eb ok.L0
  ·exact ok.F0 b m
 have eb:Ext c.hb h':=fun b o e=>x.1 b o (i.1.2.1 b o e) fun m=>by rw[n0 b m] at e;cases e
 have hNT:∀ b∈c.L::c.F,∀ o,h.get? b=some o→¬ TupObj o:=fun b m o e=>by
  rcases mC m with rfl|m
  ·exact i.1.nt.mk o e
  ·exact hd b m o e
 have off:Off (c.L::c.F) h h':=fun b o n e=>x.1 b o e n
 obtain ⟨m,hn,hr⟩:=(i.1.flat fl:Fs c.K c.mg c.mb c.hb c.L ρ (c.L::c.F) h).2.2
 have f':Fs c.K c.mg c.mb c.hb c.L ρ (c.L::c.F) h':=⟨ok.G.ext eb,eb,m,x.ns hn,fun y D e=>by
  obtain ⟨v,a,b⟩:=hr y D e
  exact ⟨v,a,VD.chg (off.chg fun b m=>⟨m,hNT b m⟩) b⟩⟩
 have k:∀ {b ob},(b∈AL c.S c.T c.Se c.N2 c.L pth∨∃ p∈pth,b=p.m)→b≠c.L→h.get? b=some ob→h'.get? b=some ob:=fun {b ob} hb hL e=>x.1 b ob e fun m=>by
  rcases m_c m with z|m
  ·exact hL z
  ·obtain ⟨o1,e1⟩:=ok.F1 b m
   rcases hb with hb|⟨p,hp,rfl⟩
   ·rw[i.2.nw b hb] at e1;cases e1
   ·rw[i.2.nm p hp] at e1;cases e1
 have ne:=i.2.ne5
 refine ⟨f'.flat fl,fun b m o e=>?_,i.2.s.keep fun ob e=>k (.inl (by simp)) ne.1.2.2.2 e,lst_keep i.2.t fun ob e=>k (.inl (by simp)) ne.2.1.2.2 e,setOf_keep i.2.se fun ob e=>k (.inl (by simp)) ne.2.2.1.2 e,?_,fun p m=>⟨k (.inl (by simp only[AL,List.mem_cons];exact .inr (.inr (.inr (.inr (.inr (List.mem_map_of_mem m))))))) (ne.2.2.2.2 p m).2.2.2.2 (i.2.it p m).1,k (.inr ⟨p,m,rfl⟩) (fun q=>i.2.mm p m (by rw[q];simp)) (i.2.it p m).2⟩,i.2.ap,i.2.nw,i.2.mm,i.2.nm⟩
 ·obtain ⟨sl,e'⟩:=i.2.fr b m o e
  obtain ⟨sl',e''⟩:=x.2 b _ e' (.tail _ m)
  exact ⟨sl',e''⟩
 ·obtain ⟨kvs,d,r⟩:=i.2.n2
  exact ⟨kvs,dictOf_keep d fun ob e=>k (.inl (by simp)) ne.2.2.2.1 e,r⟩
end
section
theorem evF {e:Expr} {R:List Addr→Heap→Value→Prop} {Q:VSP} (x:EvR prog w A env I e R) (hX:Bd X h) (hI:I X h) (k:∀ v h' t',Ext h h'→R X h' v→Q v (To s h' t')):wpAny (model prog w) A (eval e env) Q E (To s h t) :=
 x.wp (s:=To s h t) hX hI fun v s' k' r=>by obtain ⟨h',t',rfl,e⟩:=k';exact k v h' t' e r
theorem ifsF {e:Expr} {x y:List Stmt} {pos:Pos} {b:Bool} {Q:FSP} (ht:Tr prog w A env I e b) (hX:Bd X h) (hI:I X h)
  (k:∀ h' t',Ext h h'→if b then NR prog w A (execs x env) Q (To s h' t') else NR prog w A (execs y env) Q (To s h' t')):NR prog w A (exec (.If e x y pos) env) Q (To s h t) :=
 ifs (s:=To s h t) ht hX hI fun s' k'=>by obtain ⟨h',t',rfl,e⟩:=k';exact k h' t' e
theorem in_idict {d:Addr} {k:Int} {kvs:List (Int×Value)} (hd:s.heap.DictOf (intKind prog w) d kvs) (hn:d≠sysModules) (hu:IsI k u) (hv:v=.ref d) :
  wpAny (model prog w) A (compareOp .In u v) (fun z s'=>Keeps s s'∧z=.bool (valueAt kvs k).isSome) E s:=by
 obtain ⟨t,rfl⟩:=hu;subst hv
 exact wpAny_in_of (intKind_is prog w k t) (beq_eq_false_iff_ne.mpr hn) hd.mapOf ⟨kp_tok _ _,rfl⟩
end
theorem valueAt_some {kvs:List (Int×Value)} {k:Int}:(valueAt kvs k).isSome=decide (k∈kvs.map (·.1)):=by
 induction kvs with
 | nil=>rfl
 | cons x l ih =>
  unfold valueAt at ih ⊢
  rw[List.find?_cons]
  by_cases q:x.1=k
  ·simp[q]
  ·simp only[q,decide_false]
   rw[ih]
   have:¬ k=x.1:=fun e=>q e.symm
   simp[this]
section
variable {c:Cx} {sv:List Int} {sl kv:List Int} {pth:List PE} {node:Int} {Q:FSP}
theorem tr_seen {p1 p2 p:Pos} (ok:CxOk prog w c) (fr:Fr A0 (inS (topS 15) 8) n0a hx c.L env) (hm:behindInMarks .In (.Name ("seen":Str) p2)=false:=by with_unfolding_all rfl):Tr prog w A env (FC prog w c (rC c node) sv tv sl kv pth) (.Compare (.Name "node" p1) [.In] [.Name "seen" p2] p) (decide (node∈sl)) :=
 tr_cmpR (hm:=hm) (P:=IsI node) (P':=fun v=>v=.ref c.Se) (upC ok) (EvR.int (fr.ld "node" (by kernel_rfl) (by rfl) (by kernel_rfl))) (fr.lv "seen" (by kernel_rfl) (by rfl) (by kernel_rfl)) fun s X u v E i hu hv=>in_iset (i.2.se) hu hv
theorem tr_n2 {p1 p2 p:Pos} (ok:CxOk prog w c) (fr:Fr A0 (inS (topS 15) 8) n0a hx c.L env) (hm:behindInMarks .In (.Name ("node2stacki":Str) p2)=false:=by with_unfolding_all rfl):Tr prog w A env (FC prog w c (rC c node) sv tv sl kv pth) (.Compare (.Name "node" p1) [.In] [.Name "node2stacki" p2] p) (decide (node∈kv)) :=
 tr_cmpR (hm:=hm) (P:=IsI node) (P':=fun v=>v=.ref c.N2) (upC ok) (EvR.int (fr.ld "node" (by kernel_rfl) (by rfl) (by kernel_rfl))) (fr.lv "node2stacki" (by kernel_rfl) (by rfl) (by kernel_rfl)) fun s X u v E i hu hv=>by
  obtain ⟨kvs,d,e,_⟩:=i.2.n2
  rw[← e,← valueAt_some]
  exact in_idict d ok.n20 hu hv
theorem op_seen {p1 p2 p3 p4 p5:Pos} (ok:CxOk prog w c) (fr:Fr A0 (inS (topS 15) 8) n0a hx c.L env) (hl:(p2.endLine == p4.line)=true) (i:FC prog w c (rC c node) sv tv sl kv pth X h) (hn:node∉sl) (hz:sl.length≤100)
  (k:∀ h' t',Z c.M hs h h'→FC prog w c (rC c node) sv tv (sl++[node]) kv pth [c.L] h'→Q .next (To s h' t')) :
  NR prog w A (exec (.Expr (.Call (.Attribute (.Name "seen" p1) "add" p2) [.Name "node" p3] [] p4) p5) env) Q (To s h t):=by
 have i:=i.x (X':=[c.L]) flat_rC
 refine wpAny_Expr_any (hi:=fr.ge.inter) (wpAny_Call_method1_late rfl hl rfl (evF (fr.lv "seen" (by kernel_rfl) (by rfl) (by kernel_rfl)) i.bd i fun v h1a t1a e1a ev=>?_))
 subst ev
 have i1a:=(upC ok).ext e1a i
 refine ⟨"set","set.add",PySem.F.plainAttrs_set,PySem.F.slot_set_add,PySem.F.type_set_add,i1a.2.se.typeIs,i1a.2.se.noDict,?_⟩
 refine Calls.callWith_builtin rfl (Calls.evalArgs_plain (Calls.spliced_cons (evF (EvR.int (fr.ld "node" (by kernel_rfl) (by rfl) (by kernel_rfl))) i1a.bd i1a fun u h2a t2a e2a a=>Calls.spliced_nil ?_)))
 obtain ⟨tt,rfl⟩:=a
 have i2a:=(upC ok).ext e2a i1a
 have hsb:scanBound=4096:=rfl
 refine call_set_add (intKind_is prog w node tt) rfl i2a.2.se (by rw[hsb];lia) fun h3a sb S3=>?_
 have o3a:Off [c.Se] h2a h3a:=fun b ob n e=>sb.extBut _ _ (fun q=>n (by rw[q];exact List.mem_singleton_self _)) e
 have hS:(fun k'=>decide (k'∈sl) || decide (k'=node))=fun k'=>decide (k'∈sl++[node]):=by funext k';simp
 have hN:(if decide (node∈sl)=true then sl.length else sl.length+1)=(sl++[node]).length:=by rw[if_neg (by simpa using hn)];simp
 rw[hS,hN] at S3
 exact k h3a _ ((Ext.trans e1a e2a).z.trans (o3a.z (.inl (by simp[Cx.M])))) (i2a.turn ok flat_rC o3a (by simp) i2a.2.ne5.2.2.1.2 (i2a.2.onSe ok.F1 o3a S3))
theorem op_push {p1 p2 p3 p4 p5:Pos} (ok:CxOk prog w c) (fr:Fr A0 (inS (topS 15) 8) n0a hx c.L env) (hl:(p2.endLine == p4.line)=true) (i:FC prog w c (rC c node) sv tv sl kv pth X h) (hz:sv.length≤100)
  (k:∀ h' t',Z c.M hs h h'→FC prog w c (rC c node) (sv++[node]) tv sl kv pth [c.L] h'→Q .next (To s h' t')) :
  NR prog w A (exec (.Expr (.Call (.Attribute (.Name "stack" p1) "append" p2) [.Name "node" p3] [] p4) p5) env) Q (To s h t):=by
 have i:=i.x (X':=[c.L]) flat_rC
 refine wpAny_Expr_any (hi:=fr.ge.inter) (append_i (s:=To s h t) (l:=sv) (D:=c.S) (upC ok) i.bd i (fr.lv "stack" (by kernel_rfl) (by rfl) (by kernel_rfl)) (fr.ld "node" (by kernel_rfl) (by rfl) (by kernel_rfl)) (fun X h i=>i.2.s) (by lia) (fun h1a h2a t2a e1a o2a l2a=>?_) hl)
 have i1a:=(upC ok).ext e1a i
 exact k h2a _ (e1a.z.trans (o2a.z (.inl (by simp[Cx.M])))) (i1a.turn ok flat_rC o2a (by simp) i1a.2.ne5.1.2.2.2 (i1a.2.onS ok.F1 o2a l2a))
theorem op_idx {p1 p2 p3 p4 p5 p6 p7:Pos} (ok:CxOk prog w c) (fr:Fr A0 (inS (topS 15) 8) n0a hx c.L env) (i:FC prog w c (rC c node) sv tv sl sv pth X h) (hn:node∉sv) (hz:sv.length≤100)
  (k:∀ h' t',Z c.M hs h h'→FC prog w c (rC c node) sv tv sl (sv++[node]) pth [c.L] h'→Q .next (To s h' t')) :
  NR prog w A (exec (.Assign [.Subscript (.Name "node2stacki" p1) (.Name "node" p2) p3] (.Call (.Name "len" p4) [.Name "stack" p5] [] p6) p7) env) Q (To s h t):=by
 have i:=i.x (X':=[c.L]) flat_rC
 refine wpAny_Assign_Subscript (evF (ev_call1R (R:=fun zz zz v=>IsI sv.length v) (R':=fun zz zz v=>v=.ref c.S) (upC ok) (fr.bl "len" (by kernel_rfl) ok.N.len ok.N.lenb (by decide +kernel)) keeper_builtin (fr.lv "stack" (by kernel_rfl) (by rfl) (by kernel_rfl)) fun s X v E zz i ev=>?_) i.bd i fun v h1a t1a e1a hv=>?_)
 ·rw[ev]
  obtain ⟨vs,hl,hi⟩:=i.2.s
  have a:At [] s.heap (.ref c.S) (.list (sv.map .int)):=.list (by simp) hl.isList (.ofInts hi)
  exact wpAny_mono (op_len_list (AtAll.cons a .nil) (by rw[List.length_map];lia) E) (fun v s' q=>⟨q.1,by have:=q.2.int_inv;rwa [List.length_map] at this⟩) fun zz zz z=>z
 obtain ⟨tv',rfl⟩:=hv
 have i1a:=(upC ok).ext e1a i
 refine evF (fr.lv "node2stacki" (by kernel_rfl) (by rfl) (by kernel_rfl)) i1a.bd i1a fun o h2a t2a e2a eo=>?_
 subst eo
 have i2a:=(upC ok).ext e2a i1a
 refine evF (EvR.int (fr.ld "node" (by kernel_rfl) (by rfl) (by kernel_rfl))) i2a.bd i2a fun u h3a t3a e3a a=>?_
 obtain ⟨tt,rfl⟩:=a
 have i3a:=(upC ok).ext e3a i2a
 obtain ⟨kvs,d,ek,hi⟩:=i3a.2.n2
 have hlen:kvs.length=sv.length:=by have:=congrArg List.length ek;simpa using this
 refine wpAny_setItem_pairs (hsz:=by rw[sizeLine_eq];lia) (intKind_is prog w node tt) d fun h4a d4a sb=>?_
 have o4a:Off [c.N2] h3a h4a:=fun b ob n e=>sb.extBut _ _ (fun q=>n (by rw[q];exact List.mem_singleton_self _)) e
 rw[stored_absent (by have:=valueAt_some (kvs:=kvs) (k:=node);rw[ek] at this;simpa [hn] using this)] at d4a
 refine k h4a _ ((Ext.trans e1a (Ext.trans e2a e3a)).z.trans (o4a.z (.inl (by simp[Cx.M])))) (i3a.turn ok flat_rC o4a (by simp) i3a.2.ne5.2.2.2.1 (i3a.2.onN ok.F1 o4a ⟨_,d4a,by rw[List.map_append,ek];rfl,fun j x e=>?_⟩))
 rw[List.getElem?_append] at e
 split at e
 ·exact hi j x e
 ·rename_i hj
  have:j - kvs.length=0:=by
   have:=(List.getElem?_eq_some_iff.mp e).1
   simp at this;lia
  rw[this] at e
  simp at e
  subst e
  exact ⟨tv',by show Value.int _ _=Value.int _ _;congr 1;lia⟩
end
section
variable {c:Cx} {sv:List Int} {sl kv:List Int} {pth:List PE} {node:Int} {Q:FSP}
theorem tv_push {m:Addr}:(tv.map Value.ref).toArray.push (.ref m)=((tv++[m]).map Value.ref).toArray:=by simp
set_option maxHeartbeats 1000000 in
theorem op_iter {p1 p2 p3 p4 p5 p6 p7 p8 p9 q1 q2:Pos} (ok:CxOk prog w c) (fr:Fr A0 (inS (topS 15) 8) n0a hx c.L env) (hl:(p2.endLine == q1.line)=true) (i:FC prog w c (rC c node) sv tv sl kv pth X h) (hn:node∈c.σ.ns) (hz:tv.length≤100)
  (k:∀ h' t' a m,Z c.M hs h h'→h.get? a=none→FC prog w c (rC c node) sv (tv++[m]) sl kv (pth++[⟨node,a,m,0⟩]) [c.L] h'→Q .next (To s h' t')) :
  NR prog w A (exec (.Expr (.Call (.Attribute (.Name "itstack" p1) "append" p2) [.Attribute (.Call (.Name "iter" p3) [.Attribute (.Subscript (.Name "n2i" p4) (.Name "node" p5) p6) "successors" p7] [] p8) "__next__" p9] [] q1) q2) env) Q (To s h t):=by
 have i:=i.x (X':=[c.L]) flat_rC
 refine wpAny_Expr_any (hi:=fr.ge.inter) (wpAny_Call_append rfl rfl hl rfl (evF (fr.lv "itstack" (by kernel_rfl) (by rfl) (by kernel_rfl)) i.bd i fun v h1a t1a e1a ev=>?_))
 have i1a:=(upC ok).ext e1a i
 obtain ⟨n,ob⟩:=i1a.2.t
 refine ⟨c.T,(tv.map Value.ref).toArray,ev,⟨_,n,ob,rfl,rfl,rfl⟩,?_⟩
 rw[arm_eval_Attribute]
 refine wpAny_bind ?_
 have su:EvR prog w A env (FC prog w c (rC c node) sv tv sl kv pth) (.Attribute (.Subscript (.Name "n2i" p4) (.Name "node" p5) p6) "successors" p7) (fun zz zz v=>v=.ref (c.adr (.nd node 2))):=fun s E X hX hI=>by
  rw[arm_eval_Attribute]
  refine wpAny_bind ((ev_node (i:=node) (σ:=c.σ) (CN:=c.CN) (CS:=c.CS) (hb:=c.hs) (upC ok) (fr.lv "n2i" (by kernel_rfl) (by rfl) (by kernel_rfl)) (fr.ld "node" (by kernel_rfl) (by rfl) (by kernel_rfl)) (fun X h i=>ok.r.ext i.1.2.1) hn).wp hX hI fun v s1a k1a ev=>?_)
  subst ev
  have i1a:=(upC ok).ext (kp_ext k1a) hI
  have r:=ok.r.ext i1a.1.2.1
  obtain ⟨t,p,e⟩:=r.at_ (.nd node 0) ⟨hn,by decide⟩
  exact wpAny_bind (wpAny_standAt (wpAny_bind (wpAny_holding (read_slot ok.NK ok.NK.f2 i1a.1.1.k e (r.at_ (.nd node 1) ⟨hn,by decide⟩) (v:=.ref (c.adr (.nd node 2))) rfl rfl (wpAny_bind (wpAny_letTemporaryGo (wpAny_pure ⟨kp_trans k1a (kp_tok _ _),rfl⟩)))))))
 show wpAny _ _ (eval (.Call (.Name "iter" p3) _ [] p8) env) _ _ _
 refine call1_wp (P:=fun v=>v=.ref (c.adr (.nd node 2))) (upC ok) (fr.bl "iter" (by kernel_rfl) ok.N.iter ok.N.iterb (by decide +kernel)) keeper_builtin su i1a.bd i1a fun s2a v k2a i2a ev=>?_
 subst ev
 obtain ⟨h2a,t2a,rfl,e2a⟩:=k2a
 have e2a:Ext h1a h2a:=e2a
 obtain ⟨vs,lst,hi⟩:=(ok.r.ext i2a.1.2.1).at_ (.nd node 2) ⟨hn,by decide⟩
 refine iter_wp lst.isList ?_
 refine wpAny_bind (wpAny_standAt (wpAny_bind (wpAny_holding (next_attr (l:=c.adr (.nd node 2)) (i:=0) (Heap.get?_push_size _ rfl) fun t3a=>wpAny_bind (wpAny_letTemporaryGo (wpAny_pure ?_))))))
 dsimp only
 obtain ⟨a,ha⟩:∃ a,a=h2a.objs.size:=⟨_,rfl⟩
 obtain ⟨H,hH⟩:∃ H,H=h2a.push { cls:=.type "list_iterator",data:=.fields #[.ref (c.adr (.nd node 2)),.int 0 0] }:=⟨_,rfl⟩
 have eH:Ext h2a H:=hH▸Ext.push _ _
 have ga:H.get? a=some (itObj (.ref (c.adr (.nd node 2))) 0):=by rw[ha,hH];exact Heap.get?_push_size _ rfl
 have na:h2a.get? a=none:=ha▸size_none _
 rw[← ha,← hH]
 obtain ⟨m,hm⟩:∃ m,m=H.objs.size:=⟨_,rfl⟩
 have nm:H.get? m=none:=hm▸size_none _
 obtain ⟨G,hG⟩:∃ G,G=H.push (wrapObj "list_iterator.__next__" a):=⟨_,rfl⟩
 have eG:Ext H G:=hG▸Ext.push _ _
 have gm:G.get? m=some (wrapObj "list_iterator.__next__" a):=by rw[hm,hG];exact Heap.get?_push_size _ rfl
 rw[← hm,← hG]
 have ham:a≠m:=fun q=>by rw[q,nm] at ga;cases ga
 have eAll:=Ext.trans e2a (Ext.trans eH eG)
 have i2a:FC prog w c (rC c node) sv tv sl kv pth [c.L] h2a:=i2a
 have iH:=(upC ok).ext eH i2a
 have cG:CY prog w c.h0 c.F c.adr c.S c.T c.Se c.N2 c.L sv tv sl kv (pth++[⟨node,a,m,0⟩]) [c.L] G :=
  (i2a.2:CY prog w c.h0 c.F c.adr c.S c.T c.Se c.N2 c.L sv tv sl kv pth [c.L] h2a).addA (p:=⟨node,a,m,0⟩) (fun b n=>i2a.none ok n) (fun b mb=>exl (i2a.2.there i2a.1.nt b mb)) na (none_before eH nm) ham (fun q mq=>⟨_,(i2a.2.it q mq).2⟩) (Ext.trans eH eG) (eG _ _ ga) gm
 have iG:FC prog w c (rC c node) sv tv sl kv (pth++[⟨node,a,m,0⟩]) [c.L] G:=⟨((upC ok).ext (Ext.trans eH eG) i2a).1,cG⟩
 obtain ⟨n',ob'⟩:=iG.2.t
 refine append_at (hsz:=by rw[List.size_toArray,List.length_map,sizeLine_eq];lia) ob' fun h5 sb ob5=>?_
 have o5a:Off [c.T] G h5:=fun b ob n e=>sb.extBut _ _ (fun q=>n (by rw[q];exact List.mem_singleton_self _)) e
 rw[tv_push] at ob5
 have eA:Ext h G:=Ext.trans e1a eAll
 exact k h5 _ a m (eA.z.trans (o5a.z (.inl (by simp[Cx.M])))) (none_before (Ext.trans e1a e2a) na) (iG.turn ok flat_rC o5a (by simp) iG.2.ne5.2.1.2.2 (iG.2.onT ok.F1 o5a ⟨_,ob5⟩))
end
section
variable {c:Cx} {sv:List Int} {sl kv:List Int} {pth:List PE} {node:Int} {p:PE}
theorem keep_wrap {M:Model} {q:Addr} (h:Heap) (g:h.get? q=some (wrapObj "list_iterator.__next__" a)):∃ k,(k=Keeper.frame∨k=Keeper.machine∨k=Keeper.boundFrame)∧Looks M h (keeperOf (.ref q)) k :=
 ⟨.machine,.inr (.inl rfl),(Looks.ld (part:=none) g).andThen .now⟩
theorem ev_next {p1 p2 p3 p4 p5:Pos} {Q:VSP} (ok:CxOk prog w c) (fr:Fr A0 (inS (topS 15) 8) n0a hx c.L env) (hA:A.handled=none) (i:FC prog w c (rC c node) sv (tv++[p.m]) sl kv (pth++[p]) X h) (hn:p.n∈c.σ.ns) (hz:tv.length≤100) (hp:hs.get? p.a=none)
  (k1:∀ x,(c.σ.su p.n)[p.k]?=some x→∀ v h' t',IsI x v→Z c.M hs h h'→FC prog w c (rC c node) sv (tv++[p.m]) sl kv (pth++[{ p with k:=p.k+1 }]) [c.L] h'→Q v (To s h' t'))
  (k2:(c.σ.su p.n)[p.k]?=none→∀ h1a h' e t',Z c.M hs h h1a→FC prog w c (rC c node) sv (tv++[p.m]) sl kv pth [c.L] h1a→Heap.MadeExcOf h1a h' e (.type "StopIteration") []→E (.ref e) (To s h' t')) :
  wpAny (model prog w) A (eval (.Call (.Subscript (.Name "itstack" p1) (.UnaryOp .USub (.Constant (.int 1) kk p2) p3) p4) [] [] p5) env) Q E (To s h t):=by
 have i:=i.x (X':=[c.L]) flat_rC
 show wpAny _ _ (eval (.Subscript (.Name "itstack" p1) (.UnaryOp .USub (.Constant (.int 1) kk p2) p3) p4) env >>= fun f=>callWith p5 f [] (backTo p5 (starEach [] env)) (backToKw p5 (keywordEach [] env))) _ _ _
 refine wpAny_bind (Subscript_ (evF (fr.lv "itstack" (by kernel_rfl) (by rfl) (by kernel_rfl)) i.bd i fun v h1a t1a e1a ev=>?_))
 subst ev
 have i1a:=(upC ok).ext e1a i
 refine evF (ev_neg ev_int) i1a.bd i1a fun u h2a t2a e2a a=>?_
 obtain ⟨tt,rfl⟩:=a.int_inv
 have i2a:=(upC ok).ext e2a i1a
 have hsz:((tv++[p.m]).map Value.ref).toArray.size=tv.length+1:=by simp
 have last:p∈pth++[p]:=by simp
 refine tail_any (s:=To s h2a t2a) i2a.2.t.isList.typeIs slot_list_getitem.lookup (wpAny_getItem_list_neg i2a.2.t.isList (x:=.ref p.m) (by decide) (by rw[hsz];lia) (by decide) (by rw[hsz,show ((-1:Int)+((tv.length+1:Nat):Int)).toNat=tv.length by lia];simp) ?_) (by with_unfolding_all rfl)
 have gm:=(i2a.2.it p last).2
 refine callWith_of (P:=fun h=>h.get? p.m=some (wrapObj "list_iterator.__next__" p.a)) rfl (fun h g=>keep_wrap h g) (PySem.evalArgs_none ⟨gm,?_⟩)
 obtain ⟨vs,lst,hi⟩:=(ok.r.ext i2a.1.2.1).at_ (.nd p.n 2) ⟨hn,by decide⟩
 have hlen:=ints_len hi
 cases hx:(c.σ.su p.n)[p.k]? with
 | some x =>
  obtain ⟨v,hv,hiv⟩:∃ v,vs[p.k]?=some v∧IsI x v:=by
   have a:AtAll [] h2a vs.toList ((c.σ.su p.n).map PyData.int):=.ofInts hi
   obtain ⟨v,e,b⟩:=a.get' (i:=p.k) (d:=.int x) (by rw[List.getElem?_map,hx];rfl)
   exact ⟨v,by simpa using e,b.int_inv⟩
  refine next_item gm (i2a.2.it p last).1 lst.isList hv fun h3a o3a g3a=>?_
  have o3a:Off [p.a] h2a h3a:=o3a
  exact k1 x hx v h3a _ hiv ((Ext.trans e1a e2a).z.trans (o3a.z (.inr hp))) (i2a.turn ok flat_rC o3a (by simp) (i2a.2.ne5.2.2.2.2 p last).2.2.2.2 (i2a.2.onA ok.F1 o3a g3a))
 | none =>
  have hv:vs[p.k]?=none:=by
   have:(c.σ.su p.n).length≤p.k:=by simpa using hx
   simp only[Array.getElem?_eq_none_iff]
   simp at hlen;lia
  refine next_end hA gm (i2a.2.it p last).1 lst.isList hv fun h3a h4a e o3a g3a mx=>?_
  have o3a:Off [p.a] h2a h3a:=o3a
  have c3a:CY prog w c.h0 c.F c.adr c.S c.T c.Se c.N2 c.L sv (tv++[p.m]) sl kv pth [c.L] h3a:=by
   have c0a:CY prog w c.h0 c.F c.adr c.S c.T c.Se c.N2 c.L sv (tv++[p.m]) sl kv pth [c.L] h2a:=i2a.2.dropA
   obtain ⟨n1,n2,n3,n4,n5⟩:=i2a.2.ne5.2.2.2.2 p last
   have kp:∀ {a ob},a≠p.a→h2a.get? a=some ob→h3a.get? a=some ob:=fun n e=>o3a _ _ (fun m=>n (m_s m)) e
   refine ⟨fun b m o e=>?_,c0a.s.keep fun ob e=>kp (Ne.symm n1) e,lst_keep c0a.t fun ob e=>kp (Ne.symm n2) e,setOf_keep c0a.se fun ob e=>kp (Ne.symm n3) e,?_,fun q m=>⟨kp (fun e=>?_) (c0a.it q m).1,kp (fun e=>?_) (c0a.it q m).2⟩,c0a.ap,c0a.nw,c0a.mm,c0a.nm⟩
   ·obtain ⟨sl,e'⟩:=c0a.fr b m o e
    exact ⟨sl,kp (fun q=>by rw[q,i2a.2.nw p.a (by simp)] at e;cases e) e'⟩
   ·obtain ⟨kvs,d,r⟩:=c0a.n2;exact ⟨kvs,dictOf_keep d fun ob e=>kp (Ne.symm n4) e,r⟩
   ·have nd:=i2a.2.ap
    simp only[AL,List.map_append,List.map_cons,List.map_nil,List.nodup_cons,List.nodup_append] at nd
    exact nd.2.2.2.2.2.2.2 q.a (List.mem_map_of_mem m) p.a (by simp) e
   ·exact i2a.2.mm q (m_l _ m) (e▸by simp)
  have f3a:FC prog w c (rC c node) sv (tv++[p.m]) sl kv pth [c.L] h3a:=i2a.turn ok flat_rC o3a (by simp) (i2a.2.ne5.2.2.2.2 p last).2.2.2.2 c3a
  exact k2 hx h3a h4a e _ ((Ext.trans e1a e2a).z.trans (o3a.z (.inr hp))) f3a mx
end
theorem erase_last (a:Array Value) (x:Value) (h:a.toList=ws++[x]):(a.eraseIdxIfInBounds (a.size - 1)).toList=ws:=by
 have hs:a.size=ws.length+1:=by have:=congrArg List.length h;simpa using this
 unfold Array.eraseIdxIfInBounds
 rw[dif_pos (by lia),Array.toList_eraseIdx,h,hs]
 rw[Nat.add_sub_cancel,List.eraseIdx_append_of_length_le (Nat.le_refl _)];simp
theorem ints_snoc {ns:List Int} {n:Int} (h:IntsAre vs (ns++[n])):∃ ws t,vs=ws++[.int n t]∧IntsAre ws ns:=by
 induction ns generalizing vs with
 | nil=>cases h with|cons _ t r=>cases r;exact ⟨[],t,rfl,.nil⟩
 | cons a ns ih =>
  cases h with
  | cons _ t r =>
   obtain ⟨ws,t',rfl,q⟩:=ih r
   exact ⟨_,t',rfl,.cons a t q⟩
theorem without_last {kvs:List (Int×Value)} {ks:List Int} {n:Int} (h:kvs.map (·.1)=ks++[n]) (nd:(ks++[n]).Nodup):without kvs n=kvs.dropLast:=by
 have hne:kvs≠[]:=fun e=>by rw[e] at h;simp at h
 obtain ⟨l,x,rfl⟩:∃ l x,kvs=l++[x]:=⟨kvs.dropLast,kvs.getLast hne,(List.dropLast_concat_getLast hne).symm⟩
 rw[List.map_append] at h
 obtain ⟨h1,h2⟩:=List.append_inj' h rfl
 simp at h2
 unfold without
 rw[List.filter_append,List.dropLast_concat]
 have:List.filter (fun kv=>decide (kv.1≠n)) [x]=[]:=by simp[h2]
 rw[this,List.append_nil,List.filter_eq_self]
 intro a ha
 have:a.1∈ks:=h1▸List.mem_map_of_mem ha
 simp only[decide_eq_true_eq]
 intro e
 exact (List.nodup_append.mp nd).2.2 a.1 this n (by simp) e
section
variable {c:Cx} {sv:List Int} {sl kv:List Int} {pth:List PE} {node:Int} {p:PE} {Q:FSP}
theorem op_del {p1 p2 p3 p4 p5 p6:Pos} {n:Int} (ok:CxOk prog w c) (fr:Fr A0 (inS (topS 15) 8) n0a hx c.L env) (hl:(p3.endLine == p4.line)=true) (i:FC prog w c (rC c node) (sv++[n]) tv sl (sv++[n]) pth X h) (nd:(sv++[n]).Nodup) (hz:sv.length≤100)
  (k:∀ h' t',Z c.M hs h h'→FC prog w c (rC c node) sv tv sl sv pth [c.L] h'→Q .next (To s h' t')) :
  NR prog w A (exec (.Delete [.Subscript (.Name "node2stacki" p1) (.Call (.Attribute (.Name "stack" p2) "pop" p3) [] [] p4) p5] p6) env) Q (To s h t):=by
 have i:=i.x (X':=[c.L]) flat_rC
 refine wpAny_Delete (wpAny_deleteEach_cons (wpAny_delete_Subscript (evF (fr.lv "node2stacki" (by kernel_rfl) (by rfl) (by kernel_rfl)) i.bd i fun v h1a t1a e1a ev=>?_)))
 subst ev
 have i1a:=(upC ok).ext e1a i
 obtain ⟨vs,ls,hi⟩:=i1a.2.s
 obtain ⟨ws,tn,ew,hw⟩:=ints_snoc hi
 have hsz:vs.size=ws.length+1:=by have:=congrArg List.length ew;simpa using this
 have hwl:=ints_len hw
 refine list0_wp (s:=To s h1a t1a) (I:=fun X h=>FC prog w c (rC c node) (sv++[n]) tv sl (sv++[n]) pth X h∧Lst h c.S vs) (r:=.int n tn) (f:=fun xs=>xs.eraseIdxIfInBounds (vs.size - 1)) (up_and (upC ok) fun X X' a b k zz x=>x.ext k) i1a.bd ⟨i1a,ls⟩ (fun s E X a b=>(fr.lv "stack" (by kernel_rfl) (by rfl) (by kernel_rfl)) s E X a b.1) PySem.F.slot_list_pop PySem.F.entry_list_pop PySem.F.type_list_pop (PySem.F.args_list_pop_1 _) (fun X h i=>i.2)
  (fun nn=>MeetsSeq.list_pop_last _ _ nn _ (by rw[hsz,← Array.getElem?_toList,ew];simp) (by rw[sizeLine_eq];lia)) (fun h2a h3a t3a e2a o3a l3a=>?_) hl
 have i2a:=(upC ok).ext e2a i1a
 have i3a:=i2a.turn (X':=[c.L]) ok flat_rC o3a (by simp) i2a.2.ne5.1.2.2.2 (i2a.2.onS ok.F1 o3a ⟨_,l3a,by rw[erase_last vs _ ew];exact hw⟩)
 have i3a:FC prog w c (rC c node) sv tv sl (sv++[n]) pth [c.L] h3a:=i3a
 obtain ⟨kvs,d,ek,hk⟩:=i3a.2.n2
 have hlen:kvs.length=sv.length+1:=by have:=congrArg List.length ek;simpa using this
 have hT:Shared.TypeIs (To s h3a t3a) (.ref c.N2) "dict":=d.mapOf.typeIs
 refine wpAny_delItem_slot hT (by decide) PySem.F.slot_dict_delitem (wpAny_call (codeAny_call_builtin PySem.F.slot_dict_delitem.plain PySem.F.entry_dict_delitem (PySem.F.slot_dict_delitem.check _ _ _ _ _ _ _ _ hT (PySem.F.args_dict_delitem_2 _ _) (meets_dict_delitem_pairs (knd:=intKind prog w) (d:=c.N2) (intKind_is prog w n tn) _ (wants _ _) (To s h3a t3a) ⟨kvs,d,by rw[sizeLine_eq];lia,by rw[valueAt_some,ek];simp,fun h4a d4a sb=>?_⟩))))
 ·have o4a:Off [c.N2] h3a h4a:=fun b ob n e=>sb.extBut _ _ (fun q=>n (by rw[q];exact List.mem_singleton_self _)) e
  rw[without_last ek nd] at d4a
  refine wpAny_deleteEach_nil (k h4a _ ((Ext.trans e1a e2a).z.trans ((o3a.z (.inl (by simp[Cx.M]))).trans (o4a.z (.inl (by simp[Cx.M]))))) (i3a.turn ok flat_rC o4a (by simp) i3a.2.ne5.2.2.2.1 (i3a.2.onN ok.F1 o4a ⟨_,d4a,by rw[List.map_dropLast,ek];simp,fun j x e=>hk j x ?_⟩)))
  rw[List.getElem?_dropLast] at e
  split at e
  ·exact e
  ·cases e
theorem op_popit {p1 p2 p3 p4:Pos} {m:Addr} (ok:CxOk prog w c) (fr:Fr A0 (inS (topS 15) 8) n0a hx c.L env) (hl:(p2.endLine == p3.line)=true) (i:FC prog w c (rC c node) sv (tv++[m]) sl kv pth X h) (hz:tv.length≤100)
  (k:∀ h' t',Z c.M hs h h'→FC prog w c (rC c node) sv tv sl kv pth [c.L] h'→Q .next (To s h' t')) :
  NR prog w A (exec (.Expr (.Call (.Attribute (.Name "itstack" p1) "pop" p2) [] [] p3) p4) env) Q (To s h t):=by
 have i:=i.x (X':=[c.L]) flat_rC
 have hsz:(((tv++[m]).map Value.ref).toArray).size=tv.length+1:=by simp
 refine wpAny_Expr_any (hi:=fr.ge.inter) (list0_wp (s:=To s h t) (its:=((tv++[m]).map Value.ref).toArray) (r:=.ref m) (f:=fun xs=>xs.eraseIdxIfInBounds (((tv++[m]).map Value.ref).toArray.size - 1)) (upC ok) i.bd i (fr.lv "itstack" (by kernel_rfl) (by rfl) (by kernel_rfl)) PySem.F.slot_list_pop PySem.F.entry_list_pop PySem.F.type_list_pop (PySem.F.args_list_pop_1 _) (fun X h i=>i.2.t)
  (fun nn=>MeetsSeq.list_pop_last _ _ nn _ (by rw[hsz];simp) (by rw[hsz,sizeLine_eq];lia)) (fun h2a h3a t3a e2a o3a l3a=>?_) hl)
 have i2a:=(upC ok).ext e2a i
 have:((((tv++[m]).map Value.ref).toArray).eraseIdxIfInBounds ((((tv++[m]).map Value.ref).toArray).size - 1))=(tv.map Value.ref).toArray:=by
  apply Array.toList_inj.mp
  rw[erase_last (ws:=tv.map Value.ref) _ (.ref m) (by simp)]
 rw[this] at l3a
 exact k h3a _ (e2a.z.trans (o3a.z (.inl (by simp[Cx.M])))) (i2a.turn ok flat_rC o3a (by simp) i2a.2.ne5.2.1.2.2 (i2a.2.onT ok.F1 o3a l3a))
end
theorem idx_at:∀ {l:List Int} {j:Nat} {k:Int},l.Nodup→l[j]?=some k→l.idxOf k=j
 | [],_,_,_,e=>by simp at e
 | a::l,0,k,_,e=>by simp at e;subst e;simp
 | a::l,j+1,k,nd,e=>by
  have e:l[j]?=some k:=by simpa using e
  obtain ⟨na,nl⟩:=List.nodup_cons.mp nd
  have:(a == k)=false:=by simpa using fun q:a=k=>na (q▸List.mem_of_getElem? e)
  rw[List.idxOf_cons,this,idx_at nl e];rfl
section
variable {c:Cx} {sv:List Int} {sl kv:List Int} {pth:List PE} {node:Int} {p:PE} {Q:FSP}
theorem op_addl {es:List PyData} (hX:Bd X s.heap) (hl:ds.length+es.length≤1000000) (x:At X s.heap u (.list ds)) (y:At X s.heap v (.list es)):Op prog w A (binaryOp .Add u v) s X (.list (ds++es)):=fun E=>by
 obtain ⟨a,i1a,rfl,n1a,l1a,r1a⟩:=x.list_inv
 obtain ⟨b,i2a,rfl,n2a,l2a,r2a⟩:=y.list_inv
 have z1a:=r1a.length
 have z2a:=r2a.length
 simp at z1a z2a
 obtain ⟨⟨cls,dd,data,sl⟩,ho,hc,n,hd⟩:=id l1a
 obtain ⟨⟨cls2,dd2,data2,sl2⟩,ho2,hc2,n2,hd2⟩:=id l2a
 simp only at hc hd hc2 hd2
 subst hc hd hc2 hd2
 refine concat_meets ⟨_,ho,rfl⟩ ⟨_,ho2,rfl⟩ noFill_list_add seq_list_add PySem.F.slot_list_add PySem.F.entry_list_add (PySem.F.args_list_add_2 _ _) (list_addW a b i1a i2a n n2 dd dd2 sl sl2 (by rw[sizeLine_eq];lia)) ⟨ho,ho2,kp_push _ _,?_⟩
 exact .list (hX.new (size_none _)) ⟨_,Heap.get?_push_size _ rfl,rfl,0,rfl⟩ (by rw[Array.toList_append];exact (r1a.append r2a).ext (Ext.push _ _))
theorem op_ret {p1 p2 p3 p4 p5 p6 p7 p8 p9 q1:Pos} (ok:CxOk prog w c) (fr:Fr A0 (inS (topS 15) 8) n0a hx c.L env) (i:FC prog w c (rC c node) sv tv sl kv pth X h) (nd:kv.Nodup) (hk:node∈kv) (hz:sv.length≤100)
  (k:∀ h' t' a its,Ext h h'→h'.IsList a its→0<its.size→its.size≤1000→Q (.ret (.ref a)) (To s h' t')) :
  NR prog w A (exec (.Return (some (.BinOp (.Subscript (.Name "stack" p1) (.Slice (some (.Subscript (.Name "node2stacki" p2) (.Name "node" p3) p4)) none none p5) p6) .Add (.List [.Name "node" p7] p8) p9)) q1) env) Q (To s h t):=by
 let J:XHP:=fun X h=>FC prog w c (rC c node) sv tv sl kv pth X h∧c.S∉X∧∃ o,h.get? c.S=some o
 have upJ:Up J:=fun X X' a b k q=>by
  rintro ⟨x,n,o,e⟩
  exact ⟨upC ok _ _ _ _ k q x,(fun m=>(q _ m).elim n fun z=>by rw[e] at z;cases z),o,k _ _ e⟩
 have i:=i.x (X':=[c.L]) flat_rC
 have j:J [c.L] h:=⟨i,fun m=>i.2.ne5.1.2.2.2 (m_s m),exl (i.2.s.nt)⟩
 have nm:∀ {p},Ev prog w A env J (.Name "node" p) (.int node):=fun {p} s E X a b=>(fr.ld "node" (by kernel_rfl) (by rfl) (by kernel_rfl):Ev prog w A env (FC prog w c (rC c node) sv tv sl kv pth) _ _) s E X a b.1
 have st:Ev prog w A env J (.Name "stack" p1) (.list (sv.map .int)):=fun s E X hX hI =>
  (fr.lv "stack" (by kernel_rfl) (by rfl) (by kernel_rfl):EvR prog w A env (FC prog w c (rC c node) sv tv sl kv pth) _ _).wp hX hI.1 fun v s' k ev=>⟨k,by
   rw[ev]
   have:=upJ.ext (kp_ext k) hI
   obtain ⟨vs,a,b⟩:=this.1.2.s
   exact .list this.2.1 a.isList (.ofInts b)⟩
 have ix:Ev prog w A env J (.Subscript (.Name "node2stacki" p2) (.Name "node" p3) p4) (.int (kv.idxOf node)):=fun s E X hX hI =>
  Subscript_ ((fr.lv "node2stacki" (by kernel_rfl) (by rfl) (by kernel_rfl):EvR prog w A env (FC prog w c (rC c node) sv tv sl kv pth) _ _).wp hX hI.1 fun o s1a k1a a1a=>(nm (p:=p3)).wp (hX.ext (kp_ext k1a)) (upJ.ext (kp_ext k1a) hI) fun v s2a k2a b2b=>by
   subst a1a
   obtain ⟨tt,rfl⟩:=b2b.int_inv
   obtain ⟨kvs,d,ek,hi⟩:=(upJ.ext (kp_ext k2a) (upJ.ext (kp_ext k1a) hI)).1.2.n2
   obtain ⟨x,hx,e⟩:=List.mem_map.mp (ek▸hk)
   obtain ⟨jj,hj,e'⟩:=List.mem_iff_getElem.mp hx
   have g:kvs[jj]?=some (node,x.2):=by rw[List.getElem?_eq_getElem hj,e',← e]
   have gk:kv[jj]?=some node:=by rw[← ek,List.getElem?_map,g];rfl
   obtain ⟨tj,hv⟩:=hi jj _ g
   exact tail_any d.mapOf.typeIs slot_dict_getitem.lookup (wpAny_getItem_of (intKind_is prog w node tt) d.mapOf (valueAt_of_get (by rw[ek];exact nd) g) ⟨kp_trans k1a (kp_trans k2a (kp_tok _ _)),by rw[idx_at nd gk];show At _ _ x.2 _;rw[show x.2=.int jj tj from hv];exact .int _ _⟩) (by with_unfolding_all rfl))
 have key:=ev_bin (pos:=p9) (op:=.Add) (c:=.list (pickD (sv.map .int) (some (kv.idxOf node)) none none++[.int node])) upJ (ev_slice (pos:=p6) (p:=p5) upJ st (evp_some ix) evp_none (by rw[List.length_map];lia)) (ev_list (pos:=p8) (ev_cons upJ (nm (p:=p7)) ev_nil) (hl:=by simp)) fun s X u v hX a b E=>?_
 ·refine wpAny_Return_some (evF key i.bd j fun v h' t' e a=>?_)
  obtain ⟨b,its,rfl,_,l,r⟩:=a.list_inv
  have:=r.length
  simp at this
  have hp:=pickD_le (sv.map PyData.int) (some (kv.idxOf node:Int)) none none
  rw[List.length_map] at hp
  exact k h' t' b its e l (by lia) (by lia)
 ·have hp:=pickD_le (sv.map PyData.int) (some (kv.idxOf node:Int)) none none
  rw[List.length_map] at hp
  exact op_addl hX (by simp only[List.length_cons,List.length_nil];lia) a b E
end
theorem nodup_len:∀ {l ns:List Int},l.Nodup→(∀ x∈l,x∈ns)→l.length≤ns.length
 | [],_,_,_=>Nat.zero_le _
 | a::l,ns,nd,h=>by
  obtain ⟨na,nl⟩:=List.nodup_cons.mp nd
  have:=nodup_len (l:=l) (ns:=ns.erase a) nl fun x hx=>(List.mem_erase_of_ne fun e:x=a=>na (e▸hx)).mpr (h x (.tail _ hx))
  have e:=List.length_erase_of_mem (h a (.head _))
  have:0<ns.length:=List.length_pos_of_mem (h a (.head _))
  simp only[List.length_cons];lia
noncomputable def tpl (pth:List PE):List (Int×Nat):=(pth.map fun p=>(p.n,p.k)).reverse
theorem tpl_snoc (r:List PE) (p:PE):tpl (r++[p])=(p.n,p.k)::tpl r:=by unfold tpl;simp
theorem mem_tpl {pth:List PE} {x:Int}:x∈(tpl pth).map (·.1)↔x∈pth.map (·.n):=by
 unfold tpl;rw[List.map_reverse,List.mem_reverse,List.map_map];rfl
structure WS (prog:Program) (w:World) (c:Cx) (hs:Heap) (node:Int) (pth:List PE) (sl fin:List Int) (x:Option Int) (h:Heap):Prop where
 f:FC prog w c (rC c node) (pth.map (·.n)) (pth.map (·.m)) sl (pth.map (·.n)) pth [c.L] h
 d:DInv c.σ.su c.σ.ns x (tpl pth) fin
 sl:∀ y,y∈sl↔y∈pth.map (·.n)∨y∈fin
 its:∀ p∈pth,hs.get? p.a=none
noncomputable def mu (c:Cx) (pth:List PE) (fin:List Int):Nat:=1000 * unseen c.σ.ns (tpl pth) fin+wgt c.σ.su (tpl pth)
theorem mu_pop {c:Cx} {r:List PE} {p:PE} {fin:List Int}:mu c r (p.n::fin)<mu c (r++[p]) fin:=by
 unfold mu;rw[tpl_snoc,unseen_pop (k:=p.k)];unfold wgt;rw[List.map_cons,List.sum_cons];lia
theorem mu_next {c:Cx} {r:List PE} {p:PE} {fin:List Int} (h:p.k<(c.σ.su p.n).length):mu c (r++[{ p with k:=p.k+1 }]) fin<mu c (r++[p]) fin:=by
 unfold mu;rw[tpl_snoc,tpl_snoc];show 1000 * unseen _ ((p.n,p.k+1)::_) _+_<_
 rw[unseen_next (k:=p.k)];unfold wgt;rw[List.map_cons,List.sum_cons,List.map_cons,List.sum_cons]
 show _+((c.σ.su p.n).length - (p.k+1)+1+_)<_+((c.σ.su p.n).length - p.k+1+_);lia
theorem mu_push {c:Cx} {r:List PE} {p:PE} {fin:List Int} (hm:p.n∉(tpl r).map (·.1)++fin) (hn:p.n∈c.σ.ns) (hl:(c.σ.su p.n).length≤900):mu c (r++[p]) fin<mu c r fin:=by
 unfold mu;rw[tpl_snoc]
 have:=unseen_push (k:=p.k) hm hn
 unfold wgt at *;rw[List.map_cons,List.sum_cons]
 show 1000 * unseen c.σ.ns ((p.n,p.k)::tpl r) fin+((c.σ.su p.n).length - p.k+1+_)<_
 lia
section
variable {outer:List Env} {c:Cx} {pth:List PE} {sl fin:List Int} {x:Option Int} {node:Int} {Q:FSP}
theorem WS.small (W:WS prog w c hs node pth sl fin x h) (hn:c.σ.ns.length≤100):pth.length≤100∧(pth.map (·.n)).Nodup∧∀ y∈pth.map (·.n),y∈c.σ.ns:=by
 have nd:=W.d.nd
 have nd1:(pth.map (·.n)).Nodup:=by
  have:=(List.nodup_append.mp nd).1
  unfold tpl at this
  rw[List.map_reverse,List.map_map] at this
  have r:=List.pairwise_reverse.mp this
  exact r.imp fun h=>h.symm
 have sub:∀ y∈pth.map (·.n),y∈c.σ.ns:=fun y hy=>W.d.sub y (m_l _ (mem_tpl.mpr hy))
 have:=nodup_len nd1 sub
 rw[List.length_map] at this
 exact ⟨by lia,nd1,sub⟩
structure FrO (A:Around) (env:Env) (outer:List Env) (c:Cx):Prop where
 hh:A.handled=none
 fr:A.frames=some (env::outer)
 F:fas outer=c.F
 f:env.frame=some c.L
 k:env.scope.kind=.function
 o:OutF outer c.h0
theorem FrO.out (fo:FrO A env outer c) {ρ sv tv sl kv pth} (i:FC prog w c ρ sv tv sl kv pth X h):OutF (env::outer) h:=fun e m=>by
 rcases m_c m with rfl|m
 ·obtain ⟨mm,o,es,ep,e1,d,_⟩:=i.1.2.2.ns
  exact ⟨by rw[fo.k];decide,c.L,o,es,ep,fo.f,e1,d⟩
 ·obtain ⟨k,L,o,es,n,a,b,d⟩:=fo.o e m
  obtain ⟨sl,e'⟩:=i.2.fr L (fo.F▸List.mem_filterMap.mpr ⟨e,m,a⟩) o b
  exact ⟨k,L,_,es,n,a,e',d⟩
theorem FrO.fas (fo:FrO A env outer c):fas (env::outer)=c.L::c.F:=by
 unfold Mine.fas;rw[List.filterMap_cons,fo.f];exact congrArg (c.L::·) fo.F
theorem slt_z (x:Slt (c.L::c.F) h h'):Z c.M hs h h':=fun b o n zz e=>x.1 b o e fun m=>n (by
 unfold Cx.M
 rcases mC m with rfl|m
 ·simp
 ·exact m_r _ m)
set_option maxHeartbeats 2000000 in
theorem in_while {p0 a1 a2 a3 a4 a5 a6 b1 b2 b3 d1 d2 d3 d4 d5 d6 f1 f2 f3 f4 g1 g2 g3 g4:Pos} (ok:CxOk prog w c) (fr:Fr A0 (inS (topS 15) 8) n0a hx c.L env) (fo:FrO A env outer c) (hl1:(d3.endLine == d4.line)=true) (hl2:(f2.endLine == f3.line)=true) (hn:c.σ.ns.length≤100) (W:WS prog w c hs node pth sl fin none h)
  (kn:∀ h' t' node' pth' fin',Z c.M hs h h'→WS prog w c hs node' pth' sl fin' (some node') h'→mu c pth' fin'<mu c pth fin→(∃ n∈c.σ.ns,node'∈c.σ.su n)→Q .next (To s h' t'))
  (kb:∀ h' t' fin',Z c.M hs h h'→WS prog w c hs node [] sl fin' none h'→Q .brk (To s h' t')) :
  NR prog w A (exec (.While (.Name "stack" p0) [.Try [.Assign [.Name "node" a1] (.Call (.Subscript (.Name "itstack" a2) (.UnaryOp .USub (.Constant (.int 1) kk a3) a4) a5) [] [] a6) b1,.Break b2]
   [.ExceptHandler (some (.Name "StopIteration" b3)) none [.Delete [.Subscript (.Name "node2stacki" d1) (.Call (.Attribute (.Name "stack" d2) "pop" d3) [] [] d4) d5] d6,.Expr (.Call (.Attribute (.Name "itstack" f1) "pop" f2) [] [] f3) f4] g1] [] [] g2] [.Break g3] g4) env) Q (To s h t):=by
 refine wpAny_While (codeAny_whileLoop (fun n s'=>∃ h' t' pth' fin',s'=To s h' t'∧n=pth'.length∧Z c.M hs h h'∧WS prog w c hs node pth' sl fin' none h'∧mu c pth' fin'≤mu c pth fin) ?_ pth.length ⟨h,t,pth,fin,rfl,rfl,Z.refl,W,Nat.le_refl _⟩)
 rintro n s' ⟨h1a,t1a,pth1,fin1,rfl,rfl,z1a,W1,m1a⟩
 refine wpAny_noRaise ?_
 have i1a:=W1.f
 refine wpAny_isTrue_value (evF (fr.lv "stack" (by kernel_rfl) (by rfl) (by kernel_rfl)) i1a.bd i1a fun v h2a t2a e2a ev=>?_) rfl
 subst ev
 have i2a:=(upC ok).ext e2a i1a
 obtain ⟨vs,ls,hi⟩:=i2a.2.s
 have hvl:=ints_len hi
 have hsm:=W1.small hn
 refine wpAny_truthy_list ls.isList (by simp at hvl;lia) ?_
 have W2:WS prog w c hs node pth1 sl fin1 none h2a:=⟨i2a,W1.d,W1.sl,W1.its⟩
 have z2a:Z c.M hs h h2a:=z1a.trans e2a.z
 rcases List.eq_nil_or_concat pth1 with rfl|⟨r,p,rfl⟩
 ·have:vs.isEmpty=true:=by simp at hvl;simp[Array.isEmpty,hvl]
  rw[this]
  rw[if_neg (by decide)]
  refine wpAny_noRaise (xc (wpAny_Break ?_))
  exact kb h2a _ fin1 z2a W2
 ·have:vs.isEmpty=false:=by simp at hvl;exact decide_eq_false (by lia)
  rw[this]
  rw[if_pos (by rfl)]
  rw[List.concat_eq_append] at *
  have hpn:p.n∈c.σ.ns:=hsm.2.2 _ (by simp)
  have hrl:r.length≤100:=by have:=hsm.1;simp at this;lia
  have iN:FC prog w c (rC c node) (r.map (·.n)++[p.n]) (r.map (·.m)++[p.m]) sl (r.map (·.n)++[p.n]) (r++[p]) [c.L] h2a:=by have:=W2.f;simpa using this
  refine wpAny_noRaise (xc (wpAny_Try_except (xc (wpAny_Assign_Name (hs:=by rfl) (ev_next (hs:=hs) (p:=p) (tv:=r.map (·.m)) (t:=_) ok fr fo.hh iN hpn (by simpa using hrl) (W2.its p (by simp)) (fun x hx v h3a t3a hv z3a i3a=>?_) fun hx h3a h4a e t4a z3a i3a mx=>?_)))))
  ·obtain ⟨tx,rfl⟩:=hv
   refine wpAny_noRaise (st2 (x:=("node":Str)) (s:=To s h3a t3a) (D:=.dat (.int x)) (rest_cy ok) i3a (.int _ _) i3a.bd fr.le (by rw[fr.k];kernel_rfl) ok.G (none_before ok.eb ok.L0) (.head _) fun h5 t5 o5a b5a i5a=>?_)
   refine xc (wpAny_Break ?_)
   have i5a:FC prog w c (rC c x) (((r++[{ p with k:=p.k+1 }]:List PE)).map (PE.n)) (((r++[{ p with k:=p.k+1 }]:List PE)).map (PE.m)) sl (((r++[{ p with k:=p.k+1 }]:List PE)).map (PE.n)) ((r++[{ p with k:=p.k+1 }]:List PE)) [c.L] h5:=⟨i5a.1.sub ⟨rfl,rfl,rfl,rfl,rfl,rfl,rfl,trivial⟩,by simpa using i5a.2⟩
   have hd:=W2.d
   rw[tpl_snoc] at hd
   refine kn h5 _ x _ fin1 (z2a.trans (z3a.trans (o5a.z (.inl (by simp[Cx.M]))))) ⟨i5a,by rw[tpl_snoc];exact hd.next hx,fun y=>by rw[W2.sl];simp,fun q m=>?_⟩ (Nat.lt_of_lt_of_le (mu_next (List.getElem?_eq_some_iff.mp hx).1) m1a) ⟨p.n,hpn,List.mem_of_getElem? hx⟩
   rcases m_a m with m|m
   ·exact W2.its q (m_l _ m)
   ·rw[m_s m];exact W2.its p (by simp)
  ·have ho:=fo.out i3a
   have hdt:∀ b∈c.F,∀ o,h3a.get? b=some o→¬ TupObj o:=fun b m o e=>by
    obtain ⟨es,n,d⟩:=outF_there (l:=env::outer) ho (by rw[fo.fas];exact .tail _ m) e
    exact not_tup_of_dict d
   refine catch_stop (s:=To s h4a t4a) fo.fr fo.f ho mx (fun h5 sl5 Q E q=>?_) fun h5 sl5=>?_
   ·rw[fo.fas] at sl5
    have i5a:=slt_fc (X':=[c.L]) ok i3a flat_rC sl5 hdt
    exact Calls.Name_function_global fr.ge.kind (by rw[fr.k];kernel_rfl) (Calls.loadGlobal_builtin (env:=env) (mg:=c.mg) (mb:=c.mb) (fr.ge.g▸i5a.1.1.g) ok.N.stop (fr.ge.b▸i5a.1.1.b) ok.N.stopb q) (by decide +kernel)
   ·rw[fo.fas] at sl5
    have i5a:=slt_fc (X':=[c.L]) ok i3a flat_rC sl5 hdt
    have nd:(r.map (·.n)++[p.n]).Nodup:=by have:=hsm.2.1;simpa using this
    refine xc (op_del (hs:=hs) (s:=s) ok fr hl1 i5a nd (by simpa using hrl) fun h6a t6 z6 i6a=>?_)
    refine xc (op_popit (hs:=hs) ok fr hl2 i6a (by simpa using hrl) fun h7a t7 z7 i7=>?_)
    refine wpAny_execs_nil (wpAny_execs_nil ⟨r.length,by simp,h7a,t7,r,p.n::fin1,rfl,rfl,z2a.trans (z3a.trans ((slt_z sl5).trans (z6.trans z7))),⟨i7,?_,fun y=>?_,fun q m=>W2.its q (m_l _ m)⟩,Nat.le_trans (Nat.le_of_lt mu_pop) m1a⟩)
    ·have hd:=W2.d
     rw[tpl_snoc] at hd
     exact hd.pop hx
    ·rw[W2.sl];simp;grind
end
noncomputable def TH (hs h:Heap):Prop:=∀ b o,hs.get? b=some o→∃ o',h.get? b=some o'
section
variable {outer:List Env} {c:Cx} {sv:List Int} {kv:List Int} {pth:List PE} {sl fin:List Int} {x:Option Int} {node:Int} {Q:FSP}
theorem FC.slt (ok:CxOk prog w c) (i:FC prog w c ρ sv tv sl kv pth X h):Slt c.F c.h0 h:=⟨fun b o e n=>i.1.2.1 _ _ (ok.hbo b o e n),fun b o e m=>i.2.fr b m o e⟩
theorem TH.z (T:TH hs h) (z:Z c.M hs h h') (ok:CxOk prog w c) (i:FC prog w c ρ sv tv sl kv pth X h'):TH hs h':=fun b o e=>by
 obtain ⟨o1,e1⟩:=T b o e
 by_cases m:b∈c.M
 ·unfold Cx.M at m
  rcases m_a m with m|m
  ·obtain ⟨o,e,_⟩:=i.2.there i.1.nt b (by simp only[AL,List.mem_cons,List.not_mem_nil,or_false] at m ⊢;grind)
   exact ⟨o,e⟩
  ·obtain ⟨o,e⟩:=ok.F1 b m
   obtain ⟨sl,e⟩:=i.2.fr b m o e
   exact ⟨_,e⟩
 ·exact ⟨o1,z b o1 m ⟨o,e⟩ e1⟩
theorem out_turn {Wst:Stmt} {p1 p2 p3 a1 a2 a3 p4 p5 p6 p7 p8 p9 q1 q2 q3 q4 q5 b1 b2 b3 b4 b5 c1 c2 c3 c4 c5 c6 c7 c8 c9 d1 d2 e1 e2 e3 e4 e5 e6 e7 f1 f2 f3 f4 f5 g1:Pos} (ok:CxOk prog w c) (fr:Fr A0 (inS (topS 15) 8) n0a hx c.L env) (fo:FrO A env outer c)
  (hl1:(b2.endLine == b4.line)=true) (hl2:(c2.endLine == d1.line)=true) (hl3:(f2.endLine == f4.line)=true) (hn:c.σ.ns.length≤100) (hsu:∀ n∈c.σ.ns,(c.σ.su n).length≤900)
  (W:WS prog w c hs node pth sl fin (some node) h) (T:TH hs h) (nd:sl.Nodup) (hnode:node∈c.σ.ns)
  (kw:∀ h' t' pth' sl' fin',Z c.M hs h h'→WS prog w c hs node pth' sl' fin' none h'→sl'.Nodup→(∀ y∈sl,y∈sl')→node∈sl'→mu c pth' fin'≤mu c pth fin→NR prog w A (execs [Wst] env) Q (To s h' t'))
  (kr:∀ h' t' a its,Slt c.F c.h0 h'→h'.IsList a its→0<its.size→its.size≤1000→¬ Acyc c.σ.su c.σ.ns→Q (.ret (.ref a)) (To s h' t')) :
  NR prog w A (execs [.If (.Compare (.Name "node" p1) [.In] [.Name "seen" p2] p3) [.If (.Compare (.Name "node" a1) [.In] [.Name "node2stacki" a2] a3) [.Return (some (.BinOp (.Subscript (.Name "stack" p4) (.Slice (some (.Subscript (.Name "node2stacki" p5) (.Name "node" p6) p7)) none none p8) p9) .Add (.List [.Name "node" q1] q2) q3)) q4] [] q5]
   [.Expr (.Call (.Attribute (.Name "seen" b1) "add" b2) [.Name "node" b3] [] b4) b5,
   .Expr (.Call (.Attribute (.Name "itstack" c1) "append" c2) [.Attribute (.Call (.Name "iter" c3) [.Attribute (.Subscript (.Name "n2i" c4) (.Name "node" c5) c6) "successors" c7] [] c8) "__next__" c9] [] d1) d2,
   .Assign [.Subscript (.Name "node2stacki" e1) (.Name "node" e2) e3] (.Call (.Name "len" e4) [.Name "stack" e5] [] e6) e7,
   .Expr (.Call (.Attribute (.Name "stack" f1) "append" f2) [.Name "node" f3] [] f4) f5] g1,Wst] env) Q (To s h t):=by
 refine hideQ fun Q hQ=>?_
 have kw:=fun h' t' p s f a b d e g m=>wpAny_mono (kw h' t' p s f a b d e g m) hQ fun zz zz x=>x
 have i:=W.f.x (X':=[c.L]) flat_rC
 refine xc (ifsF (tr_seen ok fr) i.bd i fun h1a t1a e1a=>?_)
 have i1a:=(upC ok).ext e1a i
 have hsub:∀ y∈sl,y∈c.σ.ns:=fun y m=>by
  rcases (W.sl y).mp m with m|m
  ·exact (W.small hn).2.2 y m
  ·exact W.d.sub y (m_r _ m)
 have hsl:sl.length≤100:=Nat.le_trans (nodup_len nd hsub) hn
 have hsm:=W.small hn
 by_cases m:node∈sl
 ·rw[if_pos (by simpa using m)]
  refine xc (ifsF (tr_n2 ok fr) i1a.bd i1a fun h2a t2a e2a=>?_)
  have i2a:=(upC ok).ext e2a i1a
  by_cases mp:node∈pth.map (·.n)
  ·rw[if_pos (by simpa using mp)]
   refine xc (op_ret ok fr i2a hsm.2.1 mp (by rw[List.length_map];lia) fun h3a t3a a its e3a l z1 z2=>?_)
   exact hQ _ _ (kr h3a t3a a its ((i2a.slt ok).ext e3a) l z1 z2 (W.d.cycle (mem_tpl.mpr mp)))
  ·rw[if_neg (by simpa using mp)]
   refine wpAny_execs_nil (wpAny_execs_nil ?_)
   have mf:node∈fin:=((W.sl node).mp m).elim (fun z=>absurd z mp) id
   exact kw h2a _ pth sl fin ((Ext.trans e1a e2a).z) ⟨i2a,W.d.old mf,W.sl,W.its⟩ nd (fun zz h=>h) m (Nat.le_refl _)
 ·rw[if_neg (by simpa using m)]
  have np:node∉pth.map (·.n):=fun q=>m ((W.sl node).mpr (.inl q))
  have nf:node∉fin:=fun q=>m ((W.sl node).mpr (.inr q))
  have nt:node∉(tpl pth).map (·.1)++fin:=fun q=>(m_a q).elim (fun q=>np (mem_tpl.mp q)) nf
  refine xc (op_seen (hs:=hs) ok fr hl1 i1a m hsl fun h2a t2a z2a i2a=>?_)
  have T2:=(T.z e1a.z ok i1a).z z2a ok i2a
  refine xc (op_iter (hs:=hs) ok fr hl2 i2a hnode (by rw[List.length_map];lia) fun h3a t3a a mm z3a na i3a=>?_)
  refine xc (op_idx (hs:=hs) ok fr i3a np (by rw[List.length_map];lia) fun h4a t4a z4 i4a=>?_)
  refine xc (op_push (hs:=hs) ok fr hl3 i4a (by rw[List.length_map];lia) fun h5 t5 z5 i5a=>?_)
  refine wpAny_execs_nil ?_
  have na':hs.get? a=none:=by
   cases e:hs.get? a with
   | none=>rfl
   | some o=>obtain ⟨o',e'⟩:=T2 a o e;rw[na] at e';cases e'
  have i5a:FC prog w c (rC c node) ((pth++[(⟨node,a,mm,0⟩:PE)]).map PE.n) ((pth++[(⟨node,a,mm,0⟩:PE)]).map PE.m) (sl++[node]) ((pth++[(⟨node,a,mm,0⟩:PE)]).map PE.n) (pth++[⟨node,a,mm,0⟩]) [c.L] h5:=by simpa using i5a
  refine kw h5 _ _ (sl++[node]) fin (e1a.z.trans (z2a.trans (z3a.trans (z4.trans z5)))) ⟨i5a,by rw[tpl_snoc];exact W.d.push nt hnode,fun y=>?_,fun p hp=>?_⟩ ?_ (fun y h=>m_l _ h) (by simp) (Nat.le_of_lt (mu_push (p:=⟨node,a,mm,0⟩) nt hnode (hsu node hnode)))
  ·rw[List.mem_append,W.sl];simp;grind
  ·rcases m_a hp with hp|hp
   ·exact W.its p hp
   ·rw[m_s hp];exact na'
  ·rw[List.nodup_append];exact ⟨nd,by simp,fun a ha b hb e=>by rw[m_s hb] at e;exact m (e▸ha)⟩
end
section
theorem itb_keys {target:Expr} {d:Addr} {kvs:List (Int×Value)} (hh:A.handled=none) (ke:Ext h0a s.heap) (hd:s.heap.DictOf (intKind prog w) d kvs) (hsys:d≠sysModules) (hdX:d∉X) :
  Itb (AtF PyData.int) prog w A target X h0a s (.ref d) (kvs.map (·.1)):=fun Q E k=>by
 obtain ⟨ep,hd⟩:=hd.dictAt
 have hdI:d≠s.heap.objs.size:=Nat.ne_of_lt hd.lt_size
 have lenE:kvs.length=(kvs.map (·.1)).length:=(List.length_map _).symm
 refine wpAny_pyIter_dict (beq_eq_false_iff_ne.mpr hsys) hd (k _ _ _ _ _ _ (kp_push _ _) (iter_of_walks (fun zz zz zz zz zz a b=>At.chg a b) (lenE▸Walks.dictKeys (knd:=intKind prog w) hh s.heap.objs.size d hdI kvs ep) ⟨⟨_,Heap.get?_push_size _ rfl,rfl,by rw[List.length_map];rfl⟩,hd.push _⟩ ?_ ?_ ?_ ?_ (fun b hb=>by rw[m_s hb];exact size_none _) ?_ ?_))
 ·intro b hb
  rcases mC hb with rfl|hb
  ·exact ⟨_,Heap.get?_push_size _ rfl⟩
  ·rw[m_s hb];obtain ⟨o,es,e,_⟩:=hd.push { cls:=.type "dict_keyiterator",data:=.fields #[.ref d,.int 0 0,.int kvs.length 0,.int ep 0] };exact ⟨o,e⟩
 ·intro b hb
  rw[m_s hb];exact none_before ke (size_none _)
 ·intro b hb
  rcases mC hb with rfl|hb
  ·exact .inl (.head _)
  ·rw[m_s hb];exact .inr (.inl hdX)
 ·rintro i h ⟨⟨o,e,_,q⟩,_⟩ b hb
  rw[m_s hb];exact ⟨o,e,not_tup_of_fields q⟩
 ·rintro i v X' ⟨kx,x,hx,hk⟩ _
  obtain ⟨tt,rfl⟩:=int_is hk
  exact ⟨kx,by rw[List.getElem?_map,hx];rfl,.int _ _⟩
 ·rintro i v s' Q E ⟨st,_⟩ q
  exact letGo_keyiter st q
theorem src_keys {target o:Expr} {d:Addr} {ns:List Int} (up:Up I) (hh:A.handled=none) (ho:EvR prog w A env I o (fun zz zz v=>v=.ref d)) (hD:∀ X h,I X h→∃ kvs,h.DictOf (intKind prog w) d kvs∧kvs.map (·.1)=ns) (hsys:d≠sysModules) :
  Src (AtF PyData.int) prog w A env (fun X h=>I X h∧d∉X) target o ns:=fun s E X hX hI =>
 ho.wp hX hI.1 fun v s' k ev=>⟨k,by
  subst ev
  obtain ⟨kvs,d,e⟩:=hD _ _ (up.ext (kp_ext k) hI.1)
  rw[← e]
  exact itb_keys hh (kp_ext k) d hsys hI.2⟩
end
section
variable {outer:List Env} {c:Cx} {sv:List Int} {kv:List Int} {pth:List PE} {sl fin:List Int} {x:Option Int} {Wr:List Addr} {g:Heap} {node:Int} {Q:FSP}
theorem FC.off (ok:CxOk prog w c) (i:FC prog w c ρ sv tv sl kv [] X h) (fl:FlatL ρ) (o:Off Wr h h') (hW:∀ b∈Wr,g.get? b=.none∧∀ o,h.get? b=some o→¬ TupObj o) (hg:∀ b∈c.M,∃ o,g.get? b=some o) (eg:Ext c.hb g):FC prog w c ρ sv tv sl kv [] X' h':=by
 have hM:∀ b∈c.M,b∉Wr:=fun b m q=>by obtain ⟨o,e⟩:=hg b m;rw[(hW b q).1] at e;cases e
 have mA:∀ b∈AL c.S c.T c.Se c.N2 c.L [],b∈c.M:=fun b m=>by
  simp only[AL,Cx.M,List.map_nil,List.mem_cons,List.mem_append,List.not_mem_nil,or_false] at m ⊢
  rcases m with m|m|m|m|m <;> simp[m]
 have k:∀ {b ob},b∈c.M→h.get? b=some ob→h'.get? b=some ob:=fun m e=>o _ _ (hM _ m) e
 have ik:=i.2
 refine ⟨((i.1.flat fl:Fs c.K c.mg c.mb c.hb c.L ρ (Wr++X) h).off ok.G o fun b m=>⟨none_before eg (hW b m).1,m_l _ m,fun e=>hM c.L (mA _ (by simp)) (e▸m),(hW b m).2⟩).flat fl,fun b m ob e=>?_,ik.s.keep fun ob e=>k (mA _ (by simp)) e,lst_keep ik.t fun ob e=>k (mA _ (by simp)) e,setOf_keep ik.se fun ob e=>k (mA _ (by simp)) e,?_,(fun p m=>by cases m),ik.ap,ik.nw,(fun p m=>by cases m),fun p m=>by cases m⟩
 ·obtain ⟨q,e⟩:=ik.fr b m ob e;exact ⟨q,k (m_r _ m) e⟩
 ·obtain ⟨kvs,d,r⟩:=ik.n2;exact ⟨kvs,dictOf_keep d fun ob e=>k (mA _ (by simp)) e,r⟩
theorem out_while {kk1:Nat} {p0 p1 p2 p3 a1 a2 a3 p4 p5 p6 p7 p8 p9 q1 q2 q3 q4 q5 b1 b2 b3 b4 b5 c1 c2 c3 c4 c5 c6 c7 c8 c9 d1 d2 e1 e2 e3 e4 e5 e6 e7 f1 f2 f3 f4 f5 g1 i0 i1 i2 i3 i4 i5 i6 j1 j2 j3 k1 k2 k3 k4 k5 k6 l1 l2 l3 l4 m1 m2 m3 m4 r1:Pos} (ok:CxOk prog w c) (fr:Fr A0 (inS (topS 15) 8) n0a hx c.L env) (fo:FrO A env outer c)
  (hl1:(b2.endLine == b4.line)=true) (hl2:(c2.endLine == d1.line)=true) (hl3:(f2.endLine == f4.line)=true) (hl4:(k3.endLine == k4.line)=true) (hl5:(l2.endLine == l3.line)=true) (hn:c.σ.ns.length≤100) (hsu:∀ n∈c.σ.ns,(c.σ.su n).length≤900∧∀ m∈c.σ.su n,m∈c.σ.ns)
  (W:WS prog w c hs node [] sl fin (some node) h) (T:TH hs h) (nd:sl.Nodup) (hnode:node∈c.σ.ns)
  (kn:∀ h' t' node' sl' fin',Z c.M hs h h'→WS prog w c hs node' [] sl' fin' none h'→sl'.Nodup→(∀ y∈sl,y∈sl')→node∈sl'→Q .next (To s h' t'))
  (kr:∀ h' t' a its,Slt c.F c.h0 h'→h'.IsList a its→0<its.size→its.size≤1000→¬ Acyc c.σ.su c.σ.ns→Q (.ret (.ref a)) (To s h' t')) :
  NR prog w A (exec (.While (.Constant (.bool true) kk p0) [.If (.Compare (.Name "node" p1) [.In] [.Name "seen" p2] p3) [.If (.Compare (.Name "node" a1) [.In] [.Name "node2stacki" a2] a3) [.Return (some (.BinOp (.Subscript (.Name "stack" p4) (.Slice (some (.Subscript (.Name "node2stacki" p5) (.Name "node" p6) p7)) none none p8) p9) .Add (.List [.Name "node" q1] q2) q3)) q4] [] q5]
   [.Expr (.Call (.Attribute (.Name "seen" b1) "add" b2) [.Name "node" b3] [] b4) b5,
   .Expr (.Call (.Attribute (.Name "itstack" c1) "append" c2) [.Attribute (.Call (.Name "iter" c3) [.Attribute (.Subscript (.Name "n2i" c4) (.Name "node" c5) c6) "successors" c7] [] c8) "__next__" c9] [] d1) d2,
   .Assign [.Subscript (.Name "node2stacki" e1) (.Name "node" e2) e3] (.Call (.Name "len" e4) [.Name "stack" e5] [] e6) e7,
   .Expr (.Call (.Attribute (.Name "stack" f1) "append" f2) [.Name "node" f3] [] f4) f5] g1,
   .While (.Name "stack" i0) [.Try [.Assign [.Name "node" i1] (.Call (.Subscript (.Name "itstack" i2) (.UnaryOp .USub (.Constant (.int 1) kk1 i3) i4) i5) [] [] i6) j1,.Break j2]
    [.ExceptHandler (some (.Name "StopIteration" j3)) none [.Delete [.Subscript (.Name "node2stacki" k1) (.Call (.Attribute (.Name "stack" k2) "pop" k3) [] [] k4) k5] k6,.Expr (.Call (.Attribute (.Name "itstack" l1) "pop" l2) [] [] l3) l4] m1] [] [] m2] [.Break m3] m4] [] r1) env) Q (To s h t):=by
 refine hideQ fun Q hQ=>?_
 have kn:=fun h' t' n s f a b d e g=>hQ _ _ (kn h' t' n s f a b d e g)
 have kr:=fun h' t' a i b d e f g=>hQ _ _ (kr h' t' a i b d e f g)
 refine wpAny_While (codeAny_whileLoop (fun n s'=>∃ h' t' node' pth' sl' fin',s'=To s h' t'∧n=mu c pth' fin'∧Z c.M hs h h'∧WS prog w c hs node' pth' sl' fin' (some node') h'∧TH hs h'∧sl'.Nodup∧node'∈c.σ.ns∧(∀ y∈sl,y∈sl')∧(node∈sl'∨node'=node)) ?_ _ ⟨h,t,node,[],sl,fin,rfl,rfl,Z.refl,W,T,nd,hnode,(fun zz h=>h),.inr rfl⟩)
 rintro n s' ⟨h1a,t1a,node1,pth1,sl1,fin1,rfl,rfl,z1a,W1,T1,nd1a,hn1,sub1a,in1a⟩
 refine wpAny_noRaise ?_
 refine wpAny_isTrue_value (wpAny_Constant_bool ?_) rfl
 refine wpAny_truthy_bool ?_
 rw[if_pos rfl]
 refine wpAny_noRaise ?_
 refine out_turn (hs:=hs) ok fr fo hl1 hl2 hl3 hn (fun n m=>(hsu n m).1) W1 T1 nd1a hn1 (fun h2a t2a pth2 sl2a fin2 z2a W2 nd2 sub2 in2 m2a=>?_) fun h2a t2a a its s2a l y1 y2 ac=>kr h2a t2a a its s2a l y1 y2 ac
 refine xc (in_while ok fr fo hl4 hl5 hn W2 (fun h3a t3a node3 pth3 fin3 z3a W3 m3a hx=>?_) fun h3a t3a fin3 z3a W3=>?_)
 ·obtain ⟨n,hn',hm⟩:=hx
  refine wpAny_execs_nil ⟨_,Nat.lt_of_lt_of_le m3a m2a,h3a,t3a,node3,pth3,sl2a,fin3,rfl,rfl,z1a.trans (z2a.trans z3a),W3,T1.z (z2a.trans z3a) ok W3.f,nd2,(hsu n hn').2 _ hm,(fun y m=>sub2 y (sub1a y m)),.inl ?_⟩
  exact in1a.elim (sub2 _) fun e=>e▸in2
 ·exact kn h3a t3a _ sl2a fin3 (z1a.trans (z2a.trans z3a)) W3 nd2 (fun y m=>sub2 y (sub1a y m)) (in1a.elim (sub2 _) fun e=>e▸in2)
end
noncomputable def Snap (L:Addr) (l:List (Addr×Heap)) (_:List Addr) (h:Heap):Prop:=∀ p∈l,p.1≠L∧NT p.2 p.1∧∀ o,p.2.get? p.1=some o→h.get? p.1=some o
theorem rest_snap {l:List (Addr×Heap)}:Rest L (Snap L l):=⟨fun X X' h h' k zz a p m=>⟨(a p m).1,(a p m).2.1,fun o e=>k _ _ ((a p m).2.2 o e)⟩,fun X h h' a zz zz k p m=>⟨(a p m).1,(a p m).2.1,fun o e=>k _ _ (fun q=>(a p m).1 (m_s q)) ((a p m).2.2 o e)⟩⟩
theorem Snap.there {l:List (Addr×Heap)} (a:Snap L l X h):∀ p∈l,NT h p.1:=fun p m=>by
 obtain ⟨o,e,n⟩:=(a p m).2.1
 exact ⟨o,(a p m).2.2 o e,n⟩
section
variable {st:Stmt} {l:List (Addr×Heap)} {Q:FSP}
theorem asg_new {x:Str} {px pos:Pos} {e:Expr} {P:Heap→Addr→Prop} (f:Fr2 K mg mb h0a L ρ (Snap L l) [L] h) (fr:Fr A0 st n0a hx L env) (hk:(fScope st).names.lookup x=some .local) (G:GK K mg mb h0a) (hL0:h0a.get? L=none)
  (hev:NR prog w A (eval e env) (fun v s'=>∃ h1a t1a D,s'=To s h1a t1a∧v=.ref D∧Ext h h1a∧h.get? D=none∧NT h1a D∧P h1a D) (To s h t))
  (k:∀ h' t' D g,P g D→h.get? D=none→Off [L] h h'→Fr2 K mg mb h0a L ((x,.val (.ref D))::ρ) (Snap L ((D,g)::l)) [L] h'→Q .next (To s h' t'))
  (hs:swapsWith e (some (.Name x px)) pos.line env=pure false:=by rfl):NR prog w A (exec (.Assign [.Name x px] e pos) env) Q (To s h t) :=
 wpAny_Assign_Name (hs:=hs) (wpAny_mono hev (fun v s' q=>by
  obtain ⟨h1a,t1a,D,rfl,rfl,e1a,nD,tD,pD⟩:=q
  have f1a:=up2 rest_snap _ _ _ _ e1a (Hid.refl [L] _) f
  have hne:D≠L:=fun q=>by obtain ⟨o,e,_⟩:=f.1.nt;rw[← q,nD] at e;cases e
  have f2a:Fr2 K mg mb h0a L ρ (Snap L ((D,h1a)::l)) [L] h1a:=⟨f1a.1,fun p m=>by
   rcases mC m with rfl|m
   ·exact ⟨hne,tD,fun o e=>e⟩
   ·exact f1a.2 p m⟩
  exact st2 (s:=To s h1a t1a) (D:=.val (.ref D)) rest_snap f2a rfl (bdL f2a) fr.le (by rw[fr.k];exact hk) G hL0 (.head _) fun h' t' o b i=>k h' _ D h1a pD nD ((Ext.off e1a).trans o) i) fun zz zz x=>x)
theorem new_list {pos:Pos}:NR prog w A (eval (.List [] pos) env) (fun v s'=>∃ h1a t1a D,s'=To s h1a t1a∧v=.ref D∧Ext h h1a∧h.get? D=none∧NT h1a D∧Lst h1a D #[]) (To s h t) :=
 wpAny_List (wpAny_items_nil ⟨by rw[sizeLine_eq];exact Nat.zero_le _,_,_,_,rfl,rfl,Ext.push _ _,size_none _,Lst.nt (its:=#[]) ⟨0,Heap.get?_push_size _ rfl⟩,0,Heap.get?_push_size _ rfl⟩)
theorem new_dict {pos:Pos}:NR prog w A (eval (.Dict [] [] pos) env) (fun v s'=>∃ h1a t1a D,s'=To s h1a t1a∧v=.ref D∧Ext h h1a∧h.get? D=none∧NT h1a D∧h1a.DictOf (intKind prog w) D []) (To s h t) :=
 wpAny_Dict_empty ⟨_,_,_,rfl,rfl,Ext.push _ _,size_none _,⟨_,Heap.get?_push_size _ rfl,not_tup_of_dict rfl⟩,Heap.DictOf.new (knd:=intKind prog w) h⟩
theorem new_set {pos np:Pos} (up:Up I) (hf:EvR prog w A env I (.Name "set" np) (fun zz zz v=>v=.type "set")) (hX:Bd X h) (hI:I X h):NR prog w A (eval (.Call (.Name "set" np) [] [] pos) env) (fun v s'=>∃ h1a t1a D,s'=To s h1a t1a∧v=.ref D∧Ext h h1a∧h.get? D=none∧NT h1a D∧h1a.SetOf (intKind prog w) D (fun zz=>false) 0) (To s h t) :=
 call0_wp (s:=To s h t) up hf keeper_type hX hI fun s4a k4a i4a=>set_new fun h5 a5a e5a n5a s5=>by
  obtain ⟨h4a,t4a,rfl,e4a⟩:=k4a
  have e4a:Ext h h4a:=e4a
  have e5a:Ext h4a h5:=e5a
  refine ⟨_,_,_,rfl,rfl,Ext.trans e4a e5a,none_before e4a n5a,?_,s5⟩
  obtain ⟨o,es,ep,t,e,q,_⟩:=s5;exact ⟨o,e,not_tup_of_cls q.1 (by decide)⟩
theorem fn_goE {n:Nat} {kw:List (Str×Value)} (binds:List (Str×Value)) (ρ:List (Str×VD)) {R:Result→Shared→Prop}
  (F:FnK K f qual st dV kV) (hA:OKA A (n+1)) (G:GK K mg mb s.heap)
  (hb:∀ doc pm an cdv ct,BindsTo s (fnOf (fName st) qual (fParams st) (fBody st) (fScope st) dV kV doc pm an cdv ct) ⟨vs,kw⟩ binds)
  (hcell:∀ x∈(fScope st).names,x.2≠.cell) (hloc:∀ x∈binds,(fScope st).names.lookup x.1=some .local)
  (hco:(fScope st).isCoroutine=false) (hgen:(fScope st).isGenerator=false) (hk:(fScope st).kind=.function)
  (mat:∀ X' h',Ext s.heap h'→Mat X' h' binds.reverse ρ)
  (body:∀ L env h1a t,Fr A st n s.heap L env→env.frame=some L→Fs K mg mb s.heap L ρ [L] h1a →
   wpAny (model prog w) (A.deeper env) (execs (fBody st) env) (fun fl s'=>R (.ok (.ret (match fl with|.ret v=>v|_=>.none))) s')
    (fun e s'=>wpAny (model prog w) (A.deeper env) (leaving env e) (fun zz s''=>R (.error e) s'') (fun e' s''=>R (.error e') s'') s') (To s h1a t)) :
  codeAny (model prog w) A (.call (.ref f) ⟨vs,kw⟩) R s:=by
 obtain ⟨oc,od,doc,pm,an,cdv,ct,osl,hf,hcd⟩:=F
 refine codeAny_call_def (fd:=fnOf (fName st) qual (fParams st) (fBody st) (fScope st) dV kV doc pm an cdv ct) (body:=fBody st) (binds:=binds) hA.room (G.k _ _ hf) rfl G.lim (codeRec_of G.k hcd) rfl (hb _ _ _ _ _) hcell hloc (fun h1a hns hk1=>?_) hco hgen hk
 exact body s.heap.objs.size (callEnv (fnOf (fName st) qual (fParams st) (fBody st) (fScope st) dV kV doc pm an cdv ct) s.heap.objs.size f) h1a _ ⟨⟨hk,rfl⟩,⟨hk,rfl,rfl⟩,rfl,rfl,fun y=>rfl,hA.deeper _,size_none _⟩ rfl ⟨G.ext hk1,hk1,loc_of hns (mat _ _ hk1)⟩
end
section
variable {B:Heap} {adr:Pl→Addr} {σ:Srt} {outer:List Env} {c:Cx} {Q:FSP}
noncomputable def FI (prog:Program) (w:World) (c:Cx) (i:Nat) (X:List Addr) (h:Heap):Prop :=
 ∃ sl fin,FC prog w c (rC0 c) [] [] sl [] [] X h∧DInv c.σ.su c.σ.ns none [] fin∧(∀ y,y∈sl↔y∈fin)∧sl.Nodup∧∀ j m,j<i→c.σ.ns[j]?=some m→m∈sl
theorem mem_M {b:Addr}:b∈c.M↔b∈AL c.S c.T c.Se c.N2 c.L []∨b∈c.F:=by
 simp only[AL,Cx.M,List.map_nil,List.mem_cons,List.mem_append,List.not_mem_nil,or_false];grind
theorem FC.thereM (ok:CxOk prog w c) (fo:FrO A env outer c) {ρ sv tv sl kv pth} (i:FC prog w c ρ sv tv sl kv pth X h):∀ b∈c.M,NT h b:=fun b m=>by
 rcases mem_M.mp m with m|m
 ·exact i.2.there i.1.nt b (by simp only[AL,List.mem_cons,List.map_nil,List.not_mem_nil,or_false] at m ⊢;grind)
 ·obtain ⟨o,e⟩:=ok.F1 b m
  obtain ⟨sl,e'⟩:=i.2.fr b m o e
  obtain ⟨es,n,d⟩:=outF_there fo.o (by rw[fo.F];exact m) e
  exact ⟨_,e',not_tup_of_dict (by exact d)⟩
theorem find_for {p1 p2:Pos} {b1 b2 b3 b4 b5 p0:Pos} {Wst:Stmt} (ok:CxOk prog w c) (fr:Fr A0 (inS (topS 15) 8) n0a hx c.L env) (fo:FrO A env outer c) (hn:c.σ.ns.length≤100) (nd:c.σ.ns.Nodup) (sys:c.adr .D≠sysModules) (DM:c.adr .D∉c.M) (i:FC prog w c (rC0 c) [] [] [] [] [] c.M h)
  (hw:∀ hs h t node sl fin (Q:FSP),WS prog w c hs node [] sl fin (some node) h→TH hs h→sl.Nodup→node∈c.σ.ns →
   (∀ h' t' node' sl' fin',Z c.M hs h h'→WS prog w c hs node' [] sl' fin' none h'→sl'.Nodup→(∀ y∈sl,y∈sl')→node∈sl'→Q .next (To s h' t')) →
   (∀ h' t' a its,Slt c.F c.h0 h'→h'.IsList a its→0<its.size→its.size≤1000→¬ Acyc c.σ.su c.σ.ns→Q (.ret (.ref a)) (To s h' t'))→NR prog w A (exec Wst env) Q (To s h t))
  (kd:∀ h' t',Slt c.F c.h0 h'→Acyc c.σ.su c.σ.ns→Q .next (To s h' t'))
  (kr:∀ h' t' a its,Slt c.F c.h0 h'→h'.IsList a its→0<its.size→its.size≤1000→¬ Acyc c.σ.su c.σ.ns→Q (.ret (.ref a)) (To s h' t')) :
  NR prog w A (exec (.For (.Name "node" p0) (.Name "n2i" p1) [.If (.Compare (.Name "node" b1) [.In] [.Name "seen" b2] b3) [.Continue b4] [] b5,Wst] [] p2) env) Q (To s h t):=by
 refine hideQ fun Q hQ=>?_
 have kd:=fun h' t' a b=>hQ _ _ (kd h' t' a b)
 have kr:=fun h' t' a its b d e f g=>hQ _ _ (kr h' t' a its b d e f g)
 have tM:=i.thereM ok fo
 have bM:Bd c.M h:=fun b m=>exl (tM b m)
 have eb:Ext c.hb h:=i.1.2.1
 refine for_zone (s:=To s h t) (X:=c.M) (M:=c.M) (Inv:=fun zz i X h=>FI prog w c i X h) (src_keys (ns:=c.σ.ns) (d:=c.adr .D) (upC ok (ρ:=rC0 c) (sv:=[]) (tv:=[]) (sl:=[]) (kv:=[]) (pth:=[])) fo.hh (fr.lv "n2i" (by kernel_rfl) (by rfl) (by kernel_rfl)) (fun X h i=>⟨_,(ok.r.ext i.1.2.1).at_ .D trivial,by rw[List.map_map];exact List.map_id _⟩) sys) bM ⟨i,DM⟩ (fun b m=>⟨m,bM b m⟩) (fun h1a X' k q zz=>?_) (fun hs j X' h1a a b m=>?_) (fun hs j X' h1a h2a Wr k a hW o hh=>?_) (fun hs j d v h1a t1a X' k hd hv hb hid sub o T a=>?_) (fun hs h1a t1a X' k hb sub o a=>?_)
 ·exact ⟨[],[],upC ok _ _ _ _ k q i,⟨trivial,trivial,by simp,fun n m=>by cases m⟩,fun y=>Iff.rfl,List.nodup_nil,fun j m h=>absurd h (Nat.not_lt_zero _)⟩
 ·obtain ⟨sl,fin,f,_⟩:=a
  exact f.thereM ok fo b m
 ·obtain ⟨sl,fin,f,r⟩:=a
  exact ⟨sl,fin,f.off (g:=h) ok flat_rC0 o (fun b m=>(hW b m).2) (fun b m=>bM b m) eb,r⟩
 ·obtain ⟨sl,fin,f,D,hs',ndl,done⟩:=a
  refine wpAny_assign_Name ?_
  have f:=f.x (X':=[c.L]) flat_rC0
  obtain ⟨td,rfl⟩:=hv.int_inv
  refine st2 (x:=("node":Str)) (s:=To s h1a t1a) (D:=.dat (.int d)) (rest_cy ok) f (.int _ _) f.bd fr.le (by rw[fr.k];kernel_rfl) ok.G (none_before ok.eb ok.L0) (.head _) fun h2a t2a o2a b2b i2a=>?_
  have i2a:FC prog w c (rC c d) [] [] sl [] [] [c.L] h2a:=i2a
  have z2a:Z c.M hs h1a h2a:=o2a.z (.inl (by simp[Cx.M]))
  refine xc (ifsF (tr_seen ok fr) i2a.bd i2a fun h3a t3a e3a=>?_)
  have i3a:=(upC ok).ext e3a i2a
  have dn:d∈c.σ.ns:=List.mem_of_getElem? hd
  have fin':∀ h4a t4a node' sl' fin',Z c.M hs h1a h4a→FC prog w c (rC c node') [] [] sl' [] [] [c.L] h4a→DInv c.σ.su c.σ.ns none [] fin'→(∀ y,y∈sl'↔y∈fin')→sl'.Nodup→(∀ y∈sl,y∈sl')→d∈sl'→∃ h5 t5,To s h4a t4a={ To s h t with heap:=h5,toks:=t5 }∧(∀ b o,b∉c.M→(∃ o',hs.get? b=some o')→h1a.get? b=some o→h5.get? b=some o)∧FI prog w c (j+1) X' h5:=fun h4a t4a node' sl' fin' z i D hs' nd' sub' m' =>
   ⟨h4a,t4a,rfl,fun b o n e=>z b o n e,sl',fin',FC.x (X:=[c.L]) ⟨i.1.sub ⟨rfl,rfl,rfl,rfl,rfl,rfl,trivial⟩,i.2⟩ flat_rC0,D,hs',nd',fun l m hl hm=>by
    rcases Nat.lt_succ_iff_lt_or_eq.mp hl with hl|rfl
    ·exact sub' m (done l m hl hm)
    ·rw[hd] at hm;cases hm;exact m'⟩
  by_cases m:d∈sl
  ·rw[if_pos (by simpa using m)]
   refine xc (wpAny_Continue ?_)
   exact fin' h3a t3a d sl fin (z2a.trans e3a.z) i3a D hs' ndl (fun zz h=>h) m
  ·rw[if_neg (by simpa using m)]
   refine wpAny_execs_nil (xc (hw hs h3a t3a d sl fin _ ⟨i3a,D.root,fun y=>by rw[hs' y];simp,fun p hp=>by cases hp⟩ (TH.z T (z2a.trans e3a.z) ok i3a) ndl dn (fun h4a t4a node' sl' fin4 z4 W4 nd4 sub4a m4a=>?_) fun h4a t4a a its s4a l y1 y2 ac=>?_))
   ·exact wpAny_execs_nil (fin' h4a t4a node' sl' fin4 (z2a.trans (e3a.z.trans z4)) W4.f W4.d (fun y=>by rw[W4.sl y];simp) nd4 sub4a m4a)
   ·exact kr h4a t4a a its s4a l y1 y2 ac
 ·obtain ⟨sl,fin,f,D,hs',ndl,done⟩:=a
  refine kd h1a t1a (f.slt ok) (D.done fun n m=>?_)
  obtain ⟨j,hj,e⟩:=List.mem_iff_getElem.mp m
  exact (hs' n).mp (done j n hj (by rw[List.getElem?_eq_getElem hj,e]))
end
section
variable {B:Heap} {adr:Pl→Addr} {σ:Srt} {outer:List Env} {n:Nat}
noncomputable def Found (σ:Srt) (v:Value) (h:Heap):Prop:=(v=.none∧Acyc σ.su σ.ns)∨∃ a its,v=.ref a∧h.IsList a its∧0<its.size∧its.size≤1000∧¬ Acyc σ.su σ.ns
theorem ext_hide {B:Heap} (e:Ext B h) (n:∀ b∈F,B.get? b=none):Ext B (hideAll h F):=fun b o q=>hideAll_get _ (e b o q) fun m=>by rw[n b m] at q;cases q
set_option maxHeartbeats 1000000 in
theorem sort_cycle (F:FnK K fa "TopologicalSorter._find_cycle" (inS (topS 15) 8) .none .none) (SK:SortK K w CS) (NK:NodeK K CN) (N:SortN mg mb CN) (hA:OKA A (n+2)) (hfr:A.frames=some outer) (ho:OutF outer s.heap)
  (Gb:GK K mg mb B) (Bs:Ext B s.heap) (Bn:∀ b∈fas outer,B.get? b=none) (gs:GK K mg mb hs) (r:SRep prog w CN CS hs s.heap adr σ) (rn:∀ p,Lv σ p→adr p∉fas outer)
  (hn:σ.ns.length≤100) (nd:σ.ns.Nodup) (hsu:∀ n∈σ.ns,(σ.su n).length≤900∧∀ m∈σ.su n,m∈σ.ns) (E:VSP) :
  wpAny (model prog w) A (call (.ref fa) [.ref (adr .x)]) (fun v s'=>∃ h' t',s'=To s h' t'∧Slt (fas outer) s.heap h'∧Found σ v h') E s:=by
 refine wpAny_call (fn_goE (n:=n+1) [("self",.ref (adr .x))] [("self",.val (.ref (adr .x)))] F hA (Gb.ext Bs) (fun doc pm an cdv ct=>.of_eq (by kernel_rfl)) (by decide +kernel) (locs (by kernel_rfl)) (by kernel_rfl) (by kernel_rfl) (by kernel_rfl) (fun X' h' e=>⟨rfl,rfl,trivial⟩) fun L env h1a t1a fr ef f0=>wpAny_noRaise ?_)
 refine hideQ fun Q hQ=>?_
 have GS:=Gb.ext Bs
 have L0:=fr.new
 have i1a:Fr2 K mg mb s.heap L [("self",.val (.ref (adr .x)))] (Snap L []) [L] h1a:=⟨f0,fun p m=>by cases m⟩
 show NR prog w _ (execs (_::_) env) _ _
 refine xc (asgx2 (s:=To s h1a t1a) (P:=fun v=>v=.ref (adr .D)) rest_snap i1a (ev_n2i SK (up2 rest_snap) (fr.lv "self" (by kernel_rfl) (by rfl) (by kernel_rfl)) kin2 fun X h i=>r.ext i.1.2.1) (bdL i1a) fr.le (by rw[fr.k];kernel_rfl) GS L0 (.head _) fun h2a t2a u eu o2a b2b i2a=>?_)
 subst eu
 show NR prog w _ (execs (_::_) env) _ _
 refine xc (asg_new (s:=s) (t:=t2a) (P:=fun h D=>Lst h D #[]) i2a fr (by kernel_rfl) GS L0 new_list fun h3a t3a S g3a p3a n3a o3a i3a=>?_)
 show NR prog w _ (execs (_::_) env) _ _
 refine xc (asg_new (s:=s) (t:=t3a) (P:=fun h D=>Lst h D #[]) i3a fr (by kernel_rfl) GS L0 new_list fun h4a t4a T g4a p4a n4a o4a i4a=>?_)
 show NR prog w _ (execs (_::_) env) _ _
 refine xc (asg_new (s:=s) (t:=t4a) (P:=fun h D=>h.SetOf (intKind prog w) D (fun zz=>false) 0) i4a fr (by kernel_rfl) GS L0 (new_set (up2 rest_snap) (fun s E X a b=>fr.bl "set" (by kernel_rfl) N.set N.setb (by decide +kernel) s E X a b) (bdL i4a) i4a) fun h5 t5 Se g5 p5a n5a o5a i5a=>?_)
 show NR prog w _ (execs (_::_) env) _ _
 refine xc (asg_new (s:=s) (t:=t5) (P:=fun h D=>h.DictOf (intKind prog w) D []) i5a fr (by kernel_rfl) GS L0 new_dict fun h6a t6 N2 g6 p6a n6 o6 i6a=>?_)
 have ne:∀ {D:Addr} {h:Heap} {p:Addr×Heap} {l},h.get? D=none→Snap L l [L] h→p∈l→D≠p.1:=fun {D h p l} n a m e=>by obtain ⟨o,q,_⟩:=a.there p m;rw[← e,n] at q;cases q
 have neL:∀ {D:Addr} {h:Heap} {ρ R},h.get? D=none→Fr2 K mg mb s.heap L ρ R [L] h→D≠L:=fun {D h ρ R} n i e=>by obtain ⟨o,q,_⟩:=i.1.nt;rw[← e,n] at q;cases q
 have nw:∀ {D:Addr} {h:Heap} {ρ R},h.get? D=none→Fr2 K mg mb s.heap L ρ R [L] h→s.heap.get? D=none:=fun {D h ρ R} n i=>none_before i.1.2.1 n
 obtain ⟨c,hc⟩:∃ c:Cx,c=⟨K,mg,mb,hideAll s.heap (fas outer),s.heap,fas outer,adr,σ,CN,CS,hs,S,T,Se,N2,L⟩:=⟨_,rfl⟩
 have ok:CxOk prog w c:=by
  subst hc
  exact ⟨Gb.ext (ext_hide Bs Bn),fun b o q=>of_hideAll _ q,fun b m=>hideAll_none _ m,fun b o e n=>hideAll_get _ e n,fun b m=>by
   obtain ⟨env,he,hf⟩:=List.mem_filterMap.mp m
   obtain ⟨_,L,o,_,_,a,b',_⟩:=ho env he
   rw[hf] at a;cases a;exact ⟨o,b'⟩,⟨fun p l=>(r.at_ p l).keep l fun o e=>hideAll_get _ e (rn p l),r.inj,r.new⟩,NK,SK,N,L0,gs,fun e=>by
    have e:N2=sysModules:=e
    obtain ⟨o,e'⟩:=SK.sys
    have:=nw n6 i5a
    rw[e,GS.k _ _ e'] at this;cases this⟩
 have fo:FrO (A.deeper env) env outer c:=by
  subst hc
  exact ⟨hA.handled,Around.frames_deeper hfr,rfl,ef,fr.ge.kind,ho⟩
 have hcL:c.L=L:=by rw[hc]
 have sn:∀ p∈[(N2,g6),(Se,g5),(T,g4a),(S,g3a)],∀ o,p.2.get? p.1=some o→h6a.get? p.1=some o:=fun p m=>(i6a.2 p m).2.2
 have iC:FC prog w c (rC0 c) [] [] [] [] [] c.M h6a:=by
  subst hc
  refine FC.x (X:=[L]) ⟨⟨GS.ext i6a.1.2.1,fun b o e=>i6a.1.2.1 b o (of_hideAll _ e),i6a.1.2.2⟩,fun b m o e=>⟨o.slots,i6a.1.2.1 b o e⟩,⟨#[],lst_keep p3a (sn (S,g3a) (by simp)),.nil⟩,lst_keep p4a (sn (T,g4a) (by simp)),by have:=setOf_keep p5a (sn (Se,g5) (by simp));simpa using this,⟨[],dictOf_keep p6a (sn (N2,g6) (by simp)),rfl,fun j x e=>by simp at e⟩,(fun p m=>by cases m),?_,?_,(fun p m=>by cases m),fun p m=>by cases m⟩ flat_rC0
  ·have a1:=ne n6 i5a.2 (p:=(Se,g5)) (by simp)
   have a2:=ne n6 i5a.2 (p:=(T,g4a)) (by simp)
   have a3:=ne n6 i5a.2 (p:=(S,g3a)) (by simp)
   have a4:=ne n5a i4a.2 (p:=(T,g4a)) (by simp)
   have a5:=ne n5a i4a.2 (p:=(S,g3a)) (by simp)
   have a6:=ne n4a i3a.2 (p:=(S,g3a)) (by simp)
   have b1:=neL n6 i5a
   have b2:=neL n5a i4a
   have b3:=neL n4a i3a
   have b4:=neL n3a i2a
   simp only[AL,List.map_nil,List.nodup_cons,List.mem_cons,List.not_mem_nil,or_false,not_or,List.nodup_nil,not_false_eq_true,and_true]
   exact ⟨⟨Ne.symm a6,Ne.symm a5,Ne.symm a3,b4⟩,⟨Ne.symm a4,Ne.symm a2,b3⟩,⟨Ne.symm a1,b2⟩,b1⟩
  ·intro b m
   simp only[AL,List.map_nil,List.mem_cons,List.not_mem_nil,or_false] at m
   rcases m with rfl|rfl|rfl|rfl|rfl
   ·exact nw n3a i2a
   ·exact nw n4a i3a
   ·exact nw n5a i4a
   ·exact nw n6 i5a
   ·exact L0
 have cσ:c.σ=σ:=by rw[hc]
 have cF:c.F=fas outer:=by rw[hc]
 have c0:c.h0=s.heap:=by rw[hc]
 have cD:c.adr=adr:=by rw[hc]
 subst hcL
 have kr:∀ h' t' a its,Slt c.F c.h0 h'→h'.IsList a its→0<its.size→its.size≤1000→¬ Acyc c.σ.su c.σ.ns→Q (.ret (.ref a)) (To s h' t'):=fun h' t' a its x l y1 y2 ac=>by
  rw[cσ] at ac;rw[cF,c0] at x
  exact hQ _ _ ⟨h',t',rfl,x,.inr ⟨a,its,rfl,l,y1,y2,ac⟩⟩
 show NR prog w _ (execs (_::_) env) _ _
 refine xc (find_for (c:=c) ok fr fo (by rw[cσ];exact hn) (by rw[cσ];exact nd) (by rw[cD];exact r.sys SK gs) ?_ iC (fun hs h t node sl fin Q W T nds hnode kn kr=>out_while ok fr fo (by kernel_rfl) (by kernel_rfl) (by kernel_rfl) (by kernel_rfl) (by kernel_rfl) (by rw[cσ];exact hn) (by rw[cσ];exact hsu) W T nds hnode kn kr) (fun h7a t7 x ac=>?_) kr)
 ·rw[cD]
  intro m
  rcases mem_M.mp m with m|m
  ·obtain ⟨o,e,_⟩:=r.there (p:=.D) trivial
   have:=iC.2.nw _ m
   rw[c0,e] at this;cases this
  ·rw[cF] at m
   exact rn .D trivial m
 ·rw[cσ] at ac;rw[cF,c0] at x
  show NR prog w _ (execs (_::_) env) _ _
  refine xc (wpAny_Return_some (wpAny_Constant_none ?_))
  exact hQ _ _ ⟨h7a,t7,rfl,x,.inl ⟨rfl,ac⟩⟩
end
noncomputable abbrev TV (_:List Addr) (_:Heap) (v:Value) (p:Int×Value):Prop:=v=p.2
section
theorem itb_vals {target:Expr} {v d:Addr} {kvs:List (Int×Value)} (hh:A.handled=none) (ke:Ext h0a s.heap) (hv:s.heap.IsValuesView v d) (hd:s.heap.DictOf (intKind prog w) d kvs) (hdX:d∉X):Itb TV prog w A target X h0a s (.ref v) kvs:=fun Q E k=>by
 obtain ⟨ep,hd⟩:=hd.dictAt
 have hdI:d≠s.heap.objs.size:=Nat.ne_of_lt hd.lt_size
 refine wpAny_pyIter_values hv hd (k _ _ _ _ _ _ (kp_push _ _) (iter_of_walks (fun zz zz zz zz zz a zz=>a) (Walks.dictValues (knd:=intKind prog w) hh s.heap.objs.size d hdI kvs ep) ⟨⟨_,Heap.get?_push_size _ rfl,rfl,rfl⟩,hd.push _⟩ ?_ ?_ ?_ ?_ (fun b hb=>by rw[m_s hb];exact size_none _) ?_ ?_))
 ·intro b hb
  rcases mC hb with rfl|hb
  ·exact ⟨_,Heap.get?_push_size _ rfl⟩
  ·rw[m_s hb];obtain ⟨o,es,e,_⟩:=hd.push { cls:=.type "dict_valueiterator",data:=.fields #[.ref d,.int 0 0,.int kvs.length 0,.int ep 0] };exact ⟨o,e⟩
 ·intro b hb
  rw[m_s hb];exact none_before ke (size_none _)
 ·intro b hb
  rcases mC hb with rfl|hb
  ·exact .inl (.head _)
  ·rw[m_s hb];exact .inr (.inl hdX)
 ·rintro i h ⟨⟨o,e,_,q⟩,_⟩ b hb
  rw[m_s hb];exact ⟨o,e,not_tup_of_fields q⟩
 ·rintro i v X' ⟨kx,hx⟩ _
  exact ⟨(kx,v),hx,rfl⟩
 ·rintro i v s' Q E ⟨st,_⟩ q
  exact letGo_valiter st q
theorem src_vals {o target:Expr} {apos pos:Pos} {d:Addr} {kvs:List (Int×Value)} (up:Up I) (hh:A.handled=none) (ho:EvR prog w A env I o (fun zz zz v=>v=.ref d)) (hD:∀ X h,I X h→h.DictOf (intKind prog w) d kvs∧d∉X) (hsys:d≠sysModules)
  (hline:(apos.endLine == pos.line)=true:=by rfl) (hbase:attributeBase o "values" env (eval o env)=eval o env:=by rfl) :
  Src TV prog w A env I target (.Call (.Attribute o "values" apos) [] [] pos) kvs:=fun s E X hX hI=>by
 refine wpAny_Call_method0_late hbase hline (ho.wp hX hI fun v s1a k1a ev=>?_)
 subst ev
 have i1a:=up.ext (kp_ext k1a) hI
 have d1a:=(hD _ _ i1a).1
 refine ⟨"dict","dict.values",PySem.F.plainAttrs_dict,PySem.F.slot_dict_values,PySem.F.type_dict_values,d1a.mapOf.typeIs,fun a ea=>?_,?_⟩
 ·cases ea
  obtain ⟨o,es,ep,eo,hx,_⟩:=d1a
  exact ⟨o,eo,hx.2.1⟩
 refine method_meetsIn PySem.F.slot_dict_values PySem.F.entry_dict_values rfl (PySem.evalArgs_none ⟨rfl,d1a.mapOf.typeIs,PySem.F.args_dict_values_1 _,_,meets_dict_values (intKind prog w) d (beq_eq_false_iff_ne.mpr hsys),⟨kvs,d1a⟩,?_⟩)
 refine ⟨kp_trans k1a (kp_push _ _),itb_vals hh (Ext.trans (kp_ext k1a) (Ext.push _ _)) ⟨_,Heap.get?_push_size _ rfl,rfl,rfl⟩ (dictOf_keep d1a fun o e=>Heap.get?_push_of_some _ e) (hD _ _ hI).2⟩
theorem tgtV {x:Str} {px:Pos} {a:Int×Value} (e:LocEnv cenv C) (hx:cenv.kindOf x=some .local):TgtT prog w A TV cenv (.Name x px) [C] (S0 C) (Loc C [(x,.val a.2)]) a where
 assign:=fun s v E X hX=>by
  rintro ⟨m,hn⟩ q hm
  exact wpAny_assign_Name (store_local e hx hn fun h' hn' k =>
  ⟨h',_,rfl,k,⟨_,hn'⟩,Loc.set (D:=.val a.2) (ρ:=[]) (m':=m) hn (fun zz zz e=>by cases e) q (hm _ (.head _)) k hn'⟩)
end
section
variable {adr:Pl→Addr} {σ:Srt} {st:Stmt}
noncomputable def rdy0 (σ:Srt):List Int:=σ.ns.filter fun n=>decide (σ.np n=0)
theorem outs_rdy:∀ (l:List Int) (f:Int→Value),outsOf (fun d:Int×Value=>decide (σ.np d.1=0)) (fun d=>[.int d.1]) (l.map fun n=>(n,f n))=(l.filter fun n=>decide (σ.np n=0)).map PyData.int
 | [],_=>rfl
 | a::l,f=>by
  have ih:=outs_rdy l f
  unfold outsOf at ih ⊢
  rw[List.map_cons,List.flatMap_cons,List.filter_cons,ih]
  by_cases q:σ.np a=0 <;> simp[q]
theorem ints_of:∀ {vs:List Value} {l:List Int} {X:List Addr} {h:Heap},AtAll X h vs (l.map PyData.int)→IntsAre vs l:=by
 intro vs l
 induction l generalizing vs with
 | nil=>intro zz zz a;rw[a.nil_inv];exact .nil
 | cons i l ih =>
  intro zz zz a
  obtain ⟨v,ws,rfl,a1a,a2a⟩:=a.cons_inv
  obtain ⟨t,rfl⟩:=a1a.int_inv
  exact .cons i t (ih a2a)
theorem op_rdy {p1 p2 p3 p4 p5 p6 p7 p8 p9 q1 q2 q3:Pos} {scope:Scope} (SK:SortK K w CS) (NK:NodeK K CN) (hh:A.handled=none) (fr:Fr A0 st n0a hx L env) (hself:(fScope st).names.lookup ("self":Str)=some .local) (sys:adr .D≠sysModules)
  (hc:∀ x∈scope.names,x.2≠.cell) (hclos:closureFor scope env=pure []) (hkind:scope.kind=.function) (hnames:∀ x∈scope.names,x.2=.local→scope.names.lookup x.1=some .local) (hi:scope.names.lookup ("i":Str)=some .local)
  (hline:(p6.endLine == p7.line)=true)
  (i:Fr2 K mg mb hb L [("self",.val (.ref (adr .x)))] (RS prog w CN CS hb L adr σ) [L] h) (hn:σ.ns.length≤100) :
  NR prog w A (eval (.ListComp (.Attribute (.Name "i" p1) "node" p2) [⟨.Name "i" p3,.Call (.Attribute (.Attribute (.Name "self" p4) "_node2info" p5) "values" p6) [] [] p7,[.Compare (.Attribute (.Name "i" p8) "npredecessors" p9) [.Eq] [.Constant (.int 0) kk q1] q2],0⟩] scope q3) env)
   (fun v s'=>∃ h' t' D,s'=To s h' t'∧v=.ref D∧Ext h h'∧h.get? D=none∧IntL h' D (rdy0 σ)) (To s h t):=by
 have bd:Bd [L] h:=bdL i
 have n2i:EvR prog w A env (Fr2 K mg mb hb L [("self",.val (.ref (adr .x)))] (RS prog w CN CS hb L adr σ)) (.Attribute (.Name "self" p4) "_node2info" p5) (fun zz zz v=>v=.ref (adr .D)):=ev_n2i SK upR (fr.lv "self" hself (by rfl) (by kernel_rfl)) kin2 rep2
 have eI:Up (fun X h=>Fr2 K mg mb hb L [("self",.val (.ref (adr .x)))] (RS prog w CN CS hb L adr σ) X h∧adr .D∉X∧∃ o,h.get? (adr .D)=some o):=fun X X' a b k q=>by
  rintro ⟨x,n,o,e⟩
  exact ⟨upR _ _ _ _ k q x,(fun m=>(q _ m).elim n fun z=>by rw[e] at z;cases z),o,k _ _ e⟩
 have i':Fr2 K mg mb hb L [("self",.val (.ref (adr .x)))] (RS prog w CN CS hb L adr σ) [L] h∧adr .D∉[L]∧∃ o,h.get? (adr .D)=some o:=⟨i,fun m=>i.2.2 .D trivial (m_s m),exl (i.2.1.there (p:=.D) trivial)⟩
 refine wpAny_mono (comp_new (s:=To s h t) (T:=TV) (ds:=σ.ns.map fun n=>(n,.ref (adr (.nd n 0)))) (cl:=[]) (p0a:=(Expr.Call (.Attribute (.Attribute (.Name "self" p4) "_node2info" p5) "values" p6) [] [] p7).pos) (em:=fun cenv acc=>do let _ ← call (.builtin "list.append") [acc,← eval (.Attribute (.Name "i" p1) "node" p2) cenv]) (mt:=fun C=>[C]) (S:=S0) (B:=fun C d=>Loc C [("i",.val d.2)])
  (fun d=>decide (σ.np d.1=0)) (fun d=>[.int d.1]) eI (shp0 hc) hclos hkind hnames
  (src_vals eI hh (fun s E X a b=>n2i s E X a b.1) (fun X h i=>⟨i.1.2.1.at_ .D trivial,i.2.1⟩) sys (hline:=hline)) (fun zz zz zz=>rfl)
  (fun C d m=>tgtV (cenv_of (env:=env) (cl:=[]) hkind).le ((cenv_of (env:=env) (cl:=[]) (C:=C) hkind).k _ _ hi (by decide))) (fun C d m=>?_) (fun C d m q=>?_) (fun C d X h h' k l=>l.ext k) (by rw[List.length_map];lia) (fun zz zz zz=>by simp) bd i') (fun v s' q=>?_) fun zz zz x=>x
 ·have ce:=cenv_of (env:=env) (cl:=[]) (C:=C) hkind
  obtain ⟨n,hn,rfl⟩:=List.mem_map.mp m
  refine ts_one (tr_cmpR (hm:=by with_unfolding_all rfl) (P:=IsI (σ.np n)) (P':=IsI 0) (up_and eI up_loc) (ev_np (i:=n) NK (up_and eI up_loc) (ev_locv ce.le (ce.k _ _ hi (by decide)) (fun zz zz i=>i.2) (by rfl) (by kernel_rfl)) (fun X h i=>i.1.1.1.1.k) (fun X h i=>i.1.1.2.1) hn) (EvR.int ev_int) fun s X u v E i hu hv=>?_)
  obtain ⟨t,rfl⟩:=hu
  obtain ⟨t',rfl⟩:=hv
  refine wpAny_mono (op_eqi (X:=[]) (.int _ _) (.int _ _) E) (fun z s' q=>⟨q.1,?_⟩) fun zz zz z=>z
  rw[q.2.bool_inv];rfl
 ·have ce:=cenv_of (env:=env) (cl:=[]) (C:=C) hkind
  obtain ⟨n,hn,rfl⟩:=List.mem_map.mp m
  exact em_elt (shp_ns C) (ev_nd (i:=n) NK (up_and eI up_loc) (ev_locv ce.le (ce.k _ _ hi (by decide)) (fun zz zz i=>i.2) (by rfl) (by kernel_rfl)) (fun X h i=>i.1.1.1.1.k) (fun X h i=>i.1.1.2.1) hn)
 ·obtain ⟨k,D,its,rfl,nD,_,l,a⟩:=q
  obtain ⟨h',t',rfl,e⟩:=k
  rw[outs_rdy] at a
  exact ⟨h',t',D,rfl,rfl,e,nD,its,l,ints_of a⟩
end
noncomputable def veBases:List Value:=[.type "ValueError",.type "Exception",.type "BaseException",.type "object"]
structure CycK (K:Frag) (mg:Str→Option Value) (CE:Addr):Prop where
 gl:mg "CycleError"=some (.ref CE)
 cls:∃ nm q N bs hdct sn sub ab col dd k0 k1 k2 k3 k5 mN,K.lookup CE=some (excClassObj nm q CE N bs veBases hdct sn sub ab col dd k0 k1 k2 k3 k5 "ValueError.__new__")∧(∀ h,K.In h→h.Ns N mN)∧mN "__init__"=none
noncomputable def OffP (F:List Addr) (adr:Pl→Addr) (σ:Srt) (h h':Heap):Prop :=
 (∀ b o,h.get? b=some o→b∉F→(∀ p,Lv σ p→adr p≠b)→h'.get? b=some o)∧∀ b o,h.get? b=some o→b∈F→∃ sl,h'.get? b=some { o with slots:=sl }
noncomputable def prepS (σ:Srt):Srt:={ σ with rd:=some (rdy0 σ) }
theorem truthy_none' {M:Model} {Q:Bool→Shared→Prop} (h:Q false s):wpAny M A (truthy .none) Q E s:=fun zz zz zz=>h
theorem outF_some {l:List Env} (x:OutF l h) {b:Addr} (m:b∈fas l):∃ o,h.get? b=some o:=by
 obtain ⟨env,he,hf⟩:=List.mem_filterMap.mp m
 obtain ⟨_,L,o,_,_,a,b',_⟩:=x env he
 rw[hf] at a;cases a;exact ⟨o,b'⟩
section
variable {CE:Addr} {B:Heap} {adr:Pl→Addr} {σ:Srt} {n:Nat} {outer:List Env}
theorem RS.slt (i:Fr2 K mg mb hb L ρ (RS prog w CN CS hb L adr σ) X h) (G:GK K mg mb hb) (fl:FlatL ρ) (x:Slt (L::F) h h') (n0:∀ b∈L::F,hb.get? b=none) (hn:∀ p,Lv σ p→adr p∉F) (hd:∀ b∈F,∀ o,h.get? b=some o→¬ TupObj o):Fr2 K mg mb hb L ρ (RS prog w CN CS hb L adr σ) X' h':=by
 have eb:Ext hb h':=fun b o e=>x.1 b o (i.1.2.1 b o e) fun m=>by rw[n0 b m] at e;cases e
 have hNT:∀ b∈L::F,∀ o,h.get? b=some o→¬ TupObj o:=fun b m o e=>by
  rcases mC m with rfl|m
  ·exact i.1.nt.mk o e
  ·exact hd b m o e
 have off:Off (L::F) h h':=fun b o n e=>x.1 b o e n
 obtain ⟨m,hm,hr⟩:=(i.1.flat fl:Fs K mg mb hb L ρ (L::F) h).2.2
 have f':Fs K mg mb hb L ρ (L::F) h':=⟨G.ext eb,eb,m,x.ns hm,fun y D e=>by
  obtain ⟨v,a,b⟩:=hr y D e
  exact ⟨v,a,VD.chg (off.chg fun b m=>⟨m,hNT b m⟩) b⟩⟩
 exact ⟨f'.flat fl,i.2.1.off off fun p l m=>(m_c m).elim (i.2.2 p l) (hn p l),i.2.2⟩
theorem ev_js {e:Expr} {pos:Pos} (x:Ev prog w A env I e d):Ev prog w A env I (.JoinedStr [e] pos) d:=fun s E X a b=>wpAny_JoinedStr_one (x s E X a b)
set_option maxHeartbeats 1000000 in
theorem sort_prepare {R:Result→Shared→Prop} (F:FnK K fa "TopologicalSorter.prepare" (inS (topS 15) 3) .none .none) (SK:SortK K w CS) (NK:NodeK K CN) (N:SortN mg mb CN) (CK:CycK K mg CE) (hA:OKA A (n+4)) (hfr:A.frames=some outer) (ho:OutF outer s.heap)
  (Gb:GK K mg mb B) (Bs:Ext B s.heap) (Bn:∀ b∈fas outer,B.get? b=none) (r:SRep prog w CN CS B s.heap adr σ) (rn:∀ p,Lv σ p→adr p∉fas outer) (hrd:σ.rd=none)
  (hn:σ.ns.length≤100) (nd:σ.ns.Nodup) (hsu:∀ n∈σ.ns,(σ.su n).length≤900∧∀ m∈σ.su n,m∈σ.ns)
  (kok:∀ h' t' adr',Acyc σ.su σ.ns→SRep prog w CN CS B h' adr' (prepS σ)→GrownS adr adr' σ (prepS σ) s.heap→OffP (fas outer) adr σ s.heap h'→R (.ok (.ret .none)) (To s h' t'))
  (kerr:∀ h' t' e a0,¬ Acyc σ.su σ.ns→Heap.FlyingW B outer e (.ref CE) a0 h'→OffP (fas outer) adr σ s.heap h'→R (.error (.ref e)) (To s h' t')) :
  codeAny (model prog w) A (.call (.ref fa) ⟨[.ref (adr .x)],[]⟩) R s:=by
 refine fn_goE (n:=n+3) [("self",.ref (adr .x))] [("self",.val (.ref (adr .x)))] F hA (Gb.ext Bs) (fun doc pm an cdv ct=>.of_eq (by kernel_rfl)) (by decide +kernel) (locs (by kernel_rfl)) (by kernel_rfl) (by kernel_rfl) (by kernel_rfl) (fun X' h' e=>⟨rfl,rfl,trivial⟩) fun L env h1a t1a fr ef f0=>?_
 obtain ⟨fc,MK⟩:=SK.cyc
 have L0:=fr.new
 have LB:B.get? L=none:=none_before Bs L0
 have hL:∀ b∈L::fas outer,B.get? b=none:=fun b m=>(m_c m).elim (fun e=>e▸LB) (Bn b)
 have there:∀ {p},Lv σ p→∃ o,s.heap.get? (adr p)=some o:=fun l=>exl (r.there l)
 have fl:FlatL [("self",VD.val (.ref (adr .x)))]:=⟨trivial,trivial⟩
 have i1a:=RS.start r Bs fr f0
 show wpAny _ _ (execs (_::_) env) _ _ _
 refine xc (wpAny_noRaise (ifsF (b:=false) (tr_isnt (I:=Fr2 K mg mb B L [("self",.val (.ref (adr .x)))] (RS prog w CN CS B L adr σ)) (R:=fun v=>v=.none) (R':=fun v=>v=.none) upR ((ev_rd SK upR (fr.lv "self" (by kernel_rfl) (by rfl) (by kernel_rfl)) kin2 rep2).mono fun X h v e=>by rw[e];unfold rdV;rw[hrd];rfl) (ev_none.mono fun X h v a=>a.none_inv) (fun u v a b=>by rw[a,b];exact ⟨rfl,rfl⟩)) (bdL i1a) i1a fun h2a t2a e2a=>?_))
 rw[if_neg (by decide)]
 refine wpAny_execs_nil ?_
 have i2a:=upR.ext e2a i1a
 show wpAny _ _ (execs (_::_) env) _ _ _
 refine xc (plainObj_wpAny_Assign_Attribute (wpAny_noRaise (wpAny_mono (op_rdy SK NK hA.handled fr (by kernel_rfl) (r.sys SK Gb) (by decide +kernel) (by rfl) (by kernel_rfl) (by decide +kernel) (by kernel_rfl) (by kernel_rfl) i2a hn) (fun v s' q=>?_) fun zz zz x=>x)))
 obtain ⟨h3a,t3a,D,rfl,rfl,e3a,nD,lD⟩:=q
 have i3a:=upR.ext e3a i2a
 refine evF (fr.lv "self" (by kernel_rfl) (by rfl) (by kernel_rfl)) (bdL i3a) i3a fun ov h4a t4a e4a eo=>?_
 subst eo
 have i4a:=upR.ext e4a i3a
 have lD4:IntL h4a D (rdy0 σ):=lD.keep fun o e=>e4a _ _ e
 refine store_rd (s:=To s h4a t4a) (h:=h2a) SK i4a.1.1.k i2a.1.2.1 (Ext.trans e3a e4a) i2a.2.1 hrd nD lD4 fun h5 t5 o5a r5a g5=>?_
 have DL:D≠L:=fun q=>by obtain ⟨o,e,_⟩:=i2a.1.nt;rw[← q,nD] at e;cases e
 have i5a:Fr2 K mg mb B L [("self",.val (.ref (adr .x)))] (RS prog w CN CS B L (rdA adr D) (prepS σ)) [L] h5:=RS.turn (p:=.dx) i4a Gb fl trivial o5a r5a fun p lp=>by
  cases p with
  | rl=>exact DL
  | x=>exact i2a.2.2 .x trivial
  | dx=>exact i2a.2.2 .dx trivial
  | D=>exact i2a.2.2 .D trivial
  | nd n j=>exact i2a.2.2 (.nd n j) lp
 have Ds:s.heap.get? D=none:=none_before (Ext.trans f0.2.1 e2a) nD
 have rn':∀ p,Lv (prepS σ) p→rdA adr D p∉fas outer:=fun p lp=>by
  cases p with
  | rl=>exact fun m=>by obtain ⟨o,e⟩:=outF_some ho m;rw[show rdA adr D .rl=D from rfl,Ds] at e;cases e
  | x=>exact rn .x trivial
  | dx=>exact rn .dx trivial
  | D=>exact rn .D trivial
  | nd n j=>exact rn (.nd n j) lp
 have k05:∀ b o,s.heap.get? b=some o→(∀ p,Lv σ p→adr p≠b)→h5.get? b=some o:=fun b o e n=>o5a b o (fun m=>n .dx trivial (m_s m).symm) (e4a _ _ (e3a _ _ (e2a _ _ (f0.2.1 _ _ e))))
 have o5:OutF (env::outer) h5:=fun en m=>by
  rcases m_c m with rfl|m
  ·obtain ⟨mm,ob,es,ep,e1,d,_⟩:=i5a.1.2.2.ns
   exact ⟨by rw[fr.ge.kind];decide,L,ob,es,ep,ef,e1,d⟩
  ·obtain ⟨k,L',ob,es,nn,a,b,c⟩:=ho en m
   exact ⟨k,L',ob,es,nn,a,k05 _ _ b fun p lp z=>rn p lp (List.mem_filterMap.mpr ⟨en,m,by rw[a,z]⟩),c⟩
 have fs:fas (env::outer)=L::fas outer:=by unfold fas;rw[List.filterMap_cons,ef]
 have hfr':=Around.frames_deeper (env:=env) hfr
 show wpAny _ _ (execs (_::_) env) _ _ _
 refine xc (wpAny_Assign_Name (hs:=by rfl) (meth_wp (s:=To s h5 t5) SK MK upR (bdL i5a) i5a (fr.lv "self" (by kernel_rfl) (by rfl) (by kernel_rfl)) kin2 rep2 fun s6 k6a i6a=>with0 (keeper_K gk2 MK.keep) i6a ?_))
 obtain ⟨h6a,t6,rfl,e6a⟩:=k6a
 have e6a:Ext h5 h6a:=e6a
 refine wpAny_mono (sort_cycle (n:=n+1) (s:=To s h6a t6) MK.fn SK NK N fr.ok hfr' (o5.ext e6a) Gb i6a.1.2.1 (fun b m=>hL b (fs▸m)) Gb i6a.2.1 (fun p lp m=>by rw[fs] at m;exact (m_c m).elim (i6a.2.2 p lp) (rn' p lp)) hn nd hsu _) (fun v s' q=>?_) fun zz zz x=>x
 obtain ⟨h7a,t7,rfl,x7,fd⟩:=q
 rw[fs] at x7
 have x7:Slt (L::fas outer) h6a h7a:=x7
 have hd6:∀ b∈fas outer,∀ o,h6a.get? b=some o→¬ TupObj o:=fun b m o e=>by
  obtain ⟨es,nn,d⟩:=outF_there (o5.ext e6a) (by rw[fs];exact .tail _ m) e
  exact not_tup_of_dict d
 have i6a:Fr2 K mg mb B L [("self",.val (.ref (adr .x)))] (RS prog w CN CS B L (rdA adr D) (prepS σ)) [L] h6a:=i6a
 have i7:=RS.slt (X':=[L]) i6a Gb fl x7 hL rn' hd6
 refine wpAny_noRaise (st2 (x:=("cycle":Str)) (s:=To s h7a t7) (D:=.val v) rest_rs i7 rfl (bdL i7) fr.le (by rw[fr.k];kernel_rfl) Gb LB (.head _) fun h8a t8a o8 b8 i8=>?_)
 have offP:∀ {h':Heap},(∀ b o,h8a.get? b=some o→b∉L::fas outer→h'.get? b=some o)→(∀ b o,h8a.get? b=some o→b∈fas outer→∃ sl,h'.get? b=some { o with slots:=sl })→OffP (fas outer) adr σ s.heap h':=fun {h'} u v=>by
  have nL:∀ {b o},s.heap.get? b=some o→b≠L:=fun e q=>by rw[q,L0] at e;cases e
  refine ⟨fun b o e nF np=>?_,fun b o e m=>?_⟩
  ·have nLF:b∉L::fas outer:=fun m=>(m_c m).elim (nL e) nF
   exact u b o (o8 b o (fun m=>nL e (m_s m)) (x7.1 b o (e6a _ _ (k05 b o e np)) nLF)) nLF
  ·have np:∀ p,Lv σ p→adr p≠b:=fun p lp z=>rn p lp (z▸m)
   obtain ⟨sl,e7⟩:=x7.2 b o (e6a _ _ (k05 b o e np)) (.tail _ m)
   obtain ⟨sl',e9⟩:=v b _ (o8 b _ (fun q=>nL e (m_s q)) e7) m
   exact ⟨sl',e9⟩
 show wpAny _ _ (execs (_::_) env) _ _ _
 refine xc (wpAny_If (wpAny_isTrue_value (evF (fr.lv "cycle" (by kernel_rfl) (by rfl) (by kernel_rfl)) (bdL i8) i8 fun v' h9 t9 e9a ev=>?_) rfl))
 subst ev
 have i9:=upR.ext e9a i8
 rcases fd with ⟨rfl,ac⟩|⟨a,its,rfl,la,z1,z2,ac⟩
 ·refine truthy_none' ?_
  rw[if_neg (by decide)]
  refine wpAny_execs_nil (wpAny_execs_nil (kok h9 _ (rdA adr D) ac i9.2.1 ?_ (offP (fun b o e zz=>e9a _ _ e) fun b o e zz=>⟨o.slots,e9a _ _ e⟩)))
  exact ⟨g5.1,fun p lp=>(g5.2 p lp).imp id fun n=>none_before (Ext.trans f0.2.1 e2a) n⟩
 ·have aL:a≠L:=fun q=>by
   obtain ⟨o,e,c,_,d⟩:=la
   obtain ⟨mm,ob,es,ep,e1,d',_⟩:=i7.1.2.2.ns
   rw[q,e1] at e;cases e;rw[d'] at d;cases d
  have la9:h9.IsList a its:=la.at fun o e=>e9a _ _ (o8 _ _ (fun m=>aL (m_s m)) e)
  refine wpAny_truthy_list la9 (by lia) ?_
  rw[show (!its.isEmpty)=true from by rw[Bool.not_eq_true'];exact decide_eq_false (by lia),if_pos rfl]
  obtain ⟨nm,q,Nn,bs,hdct,sn,sub,ab,col,dd,k0,k1,k2,k3,k5,mN,hC,hN,hni⟩:=CK.cls
  show wpAny _ _ (execs (_::_) env) _ _ _
  refine xc (wpAny_Raise_call_sub (C:=CE) (bm:=veBases) (nm:=nm) (q:=q) (N:=Nn) (bs:=bs) (hdct:=hdct) (sn:=sn) (sub:=sub) (ab:=ab) (col:=col) (dd:=dd) (k0:=k0) (k1:=k1) (k2:=k2) (k3:=k3) (k5:=k5) PySem.F.excBase_ValueError (mN:=mN) fr.ok.handled (by rfl) hni (evF (fr.gl "CycleError" (by kernel_rfl) CK.gl (by decide +kernel)) (bdL i9) i9 fun f hA' tA eA ef'=>⟨ef',?_⟩))
  have iA:=upR.ext eA i9
  refine Calls.evalArgs_plain (Calls.spliced_cons (evF (ev_js ev_str) (bdL iA) iA fun vj hJ tJ eJ zz=>(Calls.spliced_cons (evF (fr.lv "cycle" (by kernel_rfl) (by rfl) (by kernel_rfl)) (bdL (upR.ext eJ iA)) (upR.ext eJ iA) fun v' hB tB eB ev=>Calls.spliced_nil ?_))))
  have eB:=Ext.trans eJ eB
  have iB:=upR.ext eB iA
  refine ⟨rfl,by rw[sizeLine_eq];exact Nat.le_trans (Nat.le_refl 2) (by decide),iB.1.1.k _ _ hC,hN _ iB.1.1.k,fun hX e mx=>?_⟩
  have mx:Heap.MadeExcOf hB hX e (.ref CE) _:=mx
  have oB:OutF (env::outer) hB:=fun en m=>by
   rcases m_c m with rfl|m
   ·obtain ⟨mm,ob,es,ep,e1,d,_⟩:=iB.1.2.2.ns
    exact ⟨by rw[fr.ge.kind];decide,L,ob,es,ep,ef,e1,d⟩
   ·obtain ⟨k,L',ob,es,nn,a,b,c⟩:=(o5.ext e6a) en (.tail _ m)
    have mF:L'∈fas outer:=List.mem_filterMap.mpr ⟨en,m,a⟩
    obtain ⟨sl,e7⟩:=x7.2 _ _ b (.tail _ mF)
    have nL:L'≠L:=fun z=>by obtain ⟨o,e⟩:=outF_some ho mF;rw[z,L0] at e;cases e
    exact ⟨k,L',_,es,nn,a,eB _ _ (eA _ _ (e9a _ _ (o8 _ _ (fun q=>nL (m_s q)) e7))),c⟩
  obtain ⟨B',hB'⟩:∃ B',B'=hideAll hB (L::fas outer):=⟨_,rfl⟩
  have sB':B'.StaysIn hB:=fun b o q=>of_hideAll _ (hB'▸q)
  have BB':B.StaysIn B':=fun b o q=>hB'▸hideAll_get _ (iB.1.2.1 b o q) fun m=>by rw[hL b m] at q;cases q
  refine wpAny_leaves_madeW (base:=B') hfr' ef sB' (oB.fun_ fun a m=>by rw[hB'];exact hideAll_none _ (fs▸m)) mx fun h' tt fl' zz zz u=>?_
  refine kerr h' _ e _ ac (flyingW_base BB' fl') (offP (fun b o q n=>?_) fun b o q m=>?_)
  ·exact fl'.1 b o (hB'▸hideAll_get _ (eB _ _ (eA _ _ (e9a _ _ q))) n)
  ·have qB:=eB _ _ (eA _ _ (e9a _ _ q))
   refine u b o (mx.keeps b o qB) fun vs z=>?_
   obtain ⟨es,nn,d⟩:=outF_there oB (by rw[fs];exact .tail _ m) qB
   rw[d] at z;cases z
end
noncomputable abbrev NS3:List Int:=[0,1,2]
noncomputable def sucs (ws:List (Int×Int)) (x:Int):List Int:=(ws.filter fun p=>decide (p.1=x)).map (·.2)
noncomputable def cW (ws:List (Int×Int)) (dn:List Int) (j:Int):Nat:=(ws.filter fun p=>decide (p.2=j∧p.1∉dn)).length
noncomputable def σW (ws:List (Int×Int)):Srt:=ws.foldl (fun σ p=>addS σ p.2 [p.1]) (sInit 3)
noncomputable def okW (ws:List (Int×Int)):Prop:=∀ p∈ws,p.1∈NS3∧p.2∈NS3
theorem addS_in {σ:Srt} {a:Int} (hb:b∈σ.ns):addS σ b [a]={ σ with np:=upd σ.np b (σ.np b+1),su:=upd σ.su a (σ.su a++[b]) }:=by
 have:ensN σ b=σ:=by unfold ensN;rw[if_pos hb]
 unfold addS;rw[this];rfl
theorem sInit3:(sInit 3).ns=NS3∧(sInit 3).rd=none∧(sInit 3).po=0∧(sInit 3).fi=0∧(∀ p,(sInit 3).su p=[])∧∀ p,(sInit 3).np p=0:=by
 refine ⟨rfl,rfl,rfl,rfl,sInit_su 3,fun p=>?_⟩
 show upd (upd (upd (upd (upd (upd _ _ _) _ _) _ _) _ _) _ _) _ _ p=_
 unfold upd;repeat (first|rfl|split)
theorem sW_fold:∀ (ws:List (Int×Int)) (σ:Srt),okW ws→σ.ns=NS3→(ws.foldl (fun σ p=>addS σ p.2 [p.1]) σ).ns=NS3∧(ws.foldl (fun σ p=>addS σ p.2 [p.1]) σ).rd=σ.rd∧(ws.foldl (fun σ p=>addS σ p.2 [p.1]) σ).po=σ.po∧(ws.foldl (fun σ p=>addS σ p.2 [p.1]) σ).fi=σ.fi ∧
  (∀ x,(ws.foldl (fun σ p=>addS σ p.2 [p.1]) σ).su x=σ.su x++sucs ws x)∧∀ j,(ws.foldl (fun σ p=>addS σ p.2 [p.1]) σ).np j=σ.np j+cW ws [] j
 | [],σ,_,h=>⟨h,rfl,rfl,rfl,fun x=>by simp[sucs],fun j=>by simp[cW]⟩
 | p::ws,σ,ok,h=>by
  have hp:=ok p (.head _)
  have e:=addS_in (σ:=σ) (a:=p.1) (b:=p.2) (by rw[h];exact hp.2)
  obtain ⟨a,b,c,d,f,g⟩:=sW_fold ws (addS σ p.2 [p.1]) (fun q m=>ok q (.tail _ m)) (by rw[e];exact h)
  rw[List.foldl_cons]
  rw[e] at a b c d f g ⊢
  refine ⟨a,b,c,d,fun x=>?_,fun j=>?_⟩
  ·rw[f x]
   unfold sucs
   rw[List.filter_cons]
   by_cases q:p.1=x
   ·subst q;simp[upd]
   ·have q':¬ x=p.1:=fun z=>q z.symm
    simp[upd,q,q']
  ·rw[g j]
   unfold cW
   rw[List.filter_cons]
   by_cases q:p.2=j
   ·subst q;simp[upd];lia
   ·have q':¬ j=p.2:=fun z=>q z.symm
    simp[upd,q,q']
theorem sW_is {ws:List (Int×Int)} (ok:okW ws):(σW ws).ns=NS3∧(σW ws).rd=none∧(σW ws).po=0∧(σW ws).fi=0∧(∀ x,(σW ws).su x=sucs ws x)∧∀ j,(σW ws).np j=cW ws [] j:=by
 obtain ⟨i1,i2,i3,i4,i5,i6⟩:=sInit3
 obtain ⟨a,b,c,d,f,g⟩:=sW_fold ws (sInit 3) ok i1
 refine ⟨a,b.trans i2,c.trans i3,d.trans i4,fun x=>?_,fun j=>?_⟩
 ·exact (f x).trans (by rw[i5];rfl)
 ·exact (g j).trans (by rw[i6];lia)
theorem sucs_len {ws:List (Int×Int)} {x:Int}:(sucs ws x).length≤ws.length:=by unfold sucs;rw[List.length_map];exact List.length_filter_le _ _
theorem sucs_in {ws:List (Int×Int)} (ok:okW ws) {x:Int} (h:m∈sucs ws x):m∈NS3:=by
 unfold sucs at h
 obtain ⟨p,hp,rfl⟩:=List.mem_map.mp h
 exact (ok p (List.mem_filter.mp hp).1).2
theorem cW_cons {dn:List Int} {h j:Int} (hn:h∉dn):∀ (ws:List (Int×Int)),cW ws dn j=cW ws (h::dn) j+(sucs ws h).count j
 | []=>rfl
 | p::ws=>by
  have ih:=cW_cons (j:=j) hn ws
  unfold cW sucs at ih ⊢
  rw[List.filter_cons,List.filter_cons,List.filter_cons]
  by_cases a:p.2=j
  ·by_cases b:p.1=h
   ·have:p.1∉dn:=b▸hn
    simp[a,b,this,hn] at ih ⊢;lia
   ·by_cases d:p.1∈dn
    ·simp[a,b,d] at ih ⊢;lia
    ·simp[a,b,d] at ih ⊢;lia
  ·by_cases b:p.1=h
   ·simp[a,b,List.count_cons] at ih ⊢;lia
   ·simp[a,b] at ih ⊢;lia
theorem cW_zero {ws:List (Int×Int)} {dn:List Int} {j:Int}:cW ws dn j=0↔∀ p∈ws,p.2=j→p.1∈dn:=by
 unfold cW
 rw[List.length_eq_zero_iff,List.filter_eq_nil_iff]
 constructor
 ·intro h p m e
  have:=h p m
  simp only[decide_eq_true_eq] at this
  exact Classical.byContradiction fun n=>this ⟨e,n⟩
 ·intro h p m
  simp only[decide_eq_true_eq]
  exact by
   rintro ⟨e,n⟩
   exact n (h p m e)
theorem fold_stepD:∀ (l:List Int) (σ:Srt) (r0:List Int),σ.rd=some r0→∃ r,(l.foldl stepD σ).rd=some (r0++r)∧r.Nodup∧(∀ j,j∈r↔1≤σ.np j∧σ.np j≤l.count j)∧(∀ j,(l.foldl stepD σ).np j=σ.np j - l.count j)∧(l.foldl stepD σ).ns=σ.ns∧(l.foldl stepD σ).su=σ.su∧(l.foldl stepD σ).po=σ.po∧(l.foldl stepD σ).fi=σ.fi
 | [],σ,r0,h=>⟨[],by simpa using h,List.nodup_nil,fun j=>by simp;lia,fun j=>by simp,rfl,rfl,rfl,rfl⟩
 | a::l,σ,r0,h=>by
  obtain ⟨r1,h1,e1⟩:∃ r1,(stepD σ a).rd=some (r0++r1)∧r1=if σ.np a=1 then [a] else []:=by
   unfold stepD;dsimp only;rw[h]
   by_cases q:σ.np a=1
   ·rw[if_pos (by lia),if_pos q];exact ⟨[a],rfl,rfl⟩
   ·rw[if_neg (by lia),if_neg q];exact ⟨[],by simp,rfl⟩
  obtain ⟨r,a1,a2,a3,a4,a5,a6,a7,a8⟩:=fold_stepD l (stepD σ a) (r0++r1) h1
  have np1:∀ j,(stepD σ a).np j=if j=a then σ.np a - 1 else σ.np j:=fun j=>rfl
  have cj:∀ j,((a::l).count j:Int)=l.count j+if j=a then 1 else 0:=fun j=>by
   rw[List.count_cons]
   by_cases q:j=a
   ·subst q;simp
   ·have:¬ a=j:=fun z=>q z.symm
    simp[q,this]
  rw[List.foldl_cons]
  refine ⟨r1++r,by rw[a1,List.append_assoc],?_,fun j=>?_,fun j=>?_,a5,a6,a7,a8⟩
  ·rw[List.nodup_append]
   refine ⟨by rw[e1];split <;> simp,a2,fun x hx y hy e=>?_⟩
   subst e
   rw[e1] at hx
   split at hx
   ·rename_i q
    rw[m_s hx,a3,np1,if_pos rfl] at hy
    lia
   ·cases hx
  ·rw[List.mem_append,a3,np1,cj,e1]
   by_cases q:j=a
   ·subst q
    rw[if_pos rfl,if_pos rfl]
    by_cases z:σ.np j=1
    ·rw[if_pos z];simp;lia
    ·rw[if_neg z];simp;lia
   ·rw[if_neg q,if_neg q]
    have:j∉(if σ.np a=1 then [a] else []):=by split <;> simp[q]
    simp[this]
  ·rw[a4,np1,cj]
   by_cases q:j=a
   ·subst q;rw[if_pos rfl,if_pos rfl];lia
   ·rw[if_neg q,if_neg q];lia
theorem outN_is:∀ (l:List Int) (f:Int→Int) (j:Int),outN f l j=if j∈l then -1 else f j
 | [],f,j=>by simp[outN]
 | a::l,f,j=>by
  have ih:=outN_is l (upd f a (-1)) j
  unfold outN at ih ⊢
  rw[List.foldl_cons,ih]
  by_cases q:j∈l
  ·simp[q]
  ·by_cases z:j=a
   ·subst z;simp[upd]
   ·simp[q,z,upd]
structure LInv (ws:List (Int×Int)) (σ:Srt) (dn out:List Int):Prop where
 ns:σ.ns=NS3
 su:∀ x,σ.su x=sucs ws x
 rd:σ.rd=some []
 cnt:∀ j∈NS3,j∉dn→(j∈out∧σ.np j=-1∧cW ws dn j=0)∨(j∉out∧σ.np j=cW ws dn j∧0<cW ws dn j)
 cd:∀ j∈dn,cW ws dn j=0
 od:∀ j∈out,j∈NS3∧j∉dn
 nd:out.Nodup
 fi:σ.fi=dn.length
 po:σ.po=dn.length+out.length
noncomputable def rdD (σ:Srt) (h:Int):List Int:=(doneS σ h).rd.getD []
noncomputable def stepL (σ:Srt) (h:Int):Srt:=rdyS (doneS σ h) (rdD σ h)
theorem LInv.np {ws:List (Int×Int)} {σ:Srt} {dn out:List Int} (I:LInv ws σ dn out) {h:Int} (m:h∈out):h∈NS3∧h∉dn∧σ.np h=-1∧cW ws dn h=0:=by
 obtain ⟨a,b⟩:=I.od h m
 rcases I.cnt h a b with ⟨_,x,y⟩|⟨n,_⟩
 ·exact ⟨a,b,x,y⟩
 ·exact absurd m n
theorem LInv.done {ws:List (Int×Int)} {σ:Srt} {dn out:List Int} (ok:okW ws) (I:LInv ws σ dn out) {h:Int} (m:h∈out) :
  (doneS σ h).rd=some (rdD σ h)∧(∀ j∈rdD σ h,j∈NS3)∧(rdD σ h).Nodup∧LInv ws (stepL σ h) (h::dn) (out.erase h++rdD σ h):=by
 obtain ⟨hN,hD,hnp,hc⟩:=I.np m
 obtain ⟨r,a1,a2,a3,a4,a5,a6,a7,a8⟩:=fold_stepD (σ.su h) { σ with np:=upd σ.np h (-2) } [] I.rd
 have er:(doneS σ h).rd=some r:=by show (List.foldl stepD _ _).rd=_;rw[a1];rfl
 have eR:rdD σ h=r:=by unfold rdD;rw[er];rfl
 rw[eR]
 rw[I.su] at a3 a4 a5 a6 a7 a8
 have npD:∀ j,(doneS σ h).np j=upd σ.np h (-2) j - (sucs ws h).count j:=fun j=>by
  show (List.foldl stepD _ (σ.su h)).np j=_
  rw[I.su];exact a4 j
 have a3:∀ j,j∈r↔1≤upd σ.np h (-2) j∧upd σ.np h (-2) j≤(sucs ws h).count j:=a3
 have split:∀ j,cW ws dn j=cW ws (h::dn) j+(sucs ws h).count j:=fun j=>cW_cons hD ws
 have uo:∀ j,j≠h→upd σ.np h (-2) j=σ.np j:=fun j n=>upd_other n
 have us:upd σ.np h (-2) h=-2:=upd_same
 have rin:∀ j∈r,j∈NS3∧j≠h∧j∉dn∧j∉out:=fun j mj=>by
  obtain ⟨x,y⟩:=(a3 j).mp mj
  have jh:j≠h:=fun e=>by rw[e,us] at x;lia
  rw[uo j jh] at x y
  have cp:0<(sucs ws h).count j:=by lia
  refine ⟨sucs_in ok (List.count_pos_iff.mp cp),jh,fun md=>?_,fun mo=>?_⟩
  ·have:=I.cd j md;have:=split j;lia
  ·have:=(I.np mo).2.2.1;lia
 refine ⟨er,fun j mj=>(rin j mj).1,a2,?_⟩
 have eS:stepL σ h=rdyS (doneS σ h) r:=by unfold stepL;rw[eR]
 rw[eS]
 have np':∀ j,(rdyS (doneS σ h) r).np j=if j∈r then -1 else upd σ.np h (-2) j - (sucs ws h).count j:=fun j=>by
  show outN _ r j=_;rw[outN_is,npD]
 have mE:∀ j,j∈out.erase h↔j≠h∧j∈out:=fun j=>I.nd.mem_erase_iff
 refine ⟨?_,fun x=>?_,rfl,fun j jN jD=>?_,fun j jm=>?_,fun j jm=>?_,?_,?_,?_⟩
 ·show (List.foldl stepD _ (σ.su h)).ns=_;rw[I.su];exact a5.trans I.ns
 ·show (List.foldl stepD _ (σ.su h)).su x=_;rw[I.su h,a6];exact I.su x
 ·have jh:j≠h:=fun e=>jD (e▸.head _)
  have jd:j∉dn:=fun q=>jD (.tail _ q)
  rw[np',uo j jh,List.mem_append,mE]
  have sp:=split j
  rcases I.cnt j jN jd with ⟨x,y,z⟩|⟨x,y,z⟩
  ·have nr:j∉r:=fun q=>(rin j q).2.2.2 x
   refine .inl ⟨.inl ⟨jh,x⟩,?_,by lia⟩
   rw[if_neg nr];lia
  ·by_cases q:j∈r
   ·have:=((a3 j).mp q).2
    rw[uo j jh] at this
    refine .inl ⟨.inr q,by rw[if_pos q],by lia⟩
   ·have:cW ws (h::dn) j≠0:=fun e=>q ((a3 j).mpr (by rw[uo j jh];lia))
    refine .inr ⟨fun z=>z.elim (fun z=>x z.2) q,?_,by lia⟩
    rw[if_neg q];lia
 ·have sp:=split j
  rcases mC jm with rfl|jm
  ·lia
  ·have:=I.cd j jm;lia
 ·rcases m_a jm with jm|jm
  ·obtain ⟨x,y⟩:=(mE j).mp jm
   exact ⟨(I.od j y).1,fun q=>(m_c q).elim x (I.od j y).2⟩
  ·obtain ⟨x,y,z,_⟩:=rin j jm
   exact ⟨x,fun q=>(m_c q).elim y z⟩
 ·rw[List.nodup_append]
  exact ⟨I.nd.erase _,a2,fun x hx y hy e=>(rin y hy).2.2.2 (e▸((mE x).mp hx).2)⟩
 ·show (List.foldl stepD _ (σ.su h)).fi+1=_
  rw[I.su,a8];show σ.fi+1=_;rw[I.fi,List.length_cons];lia
 ·show (List.foldl stepD _ (σ.su h)).po+_=_
  rw[I.su,a7];show σ.po+_=_
  rw[I.po,List.length_append,List.length_erase_of_mem m,List.length_cons]
  have:=List.length_pos_of_mem m
  lia
noncomputable def letsB:Srt→List Int→List Int→Bool
 | σ,_,[]=>!(decide (σ.fi<σ.po) || !(σ.rd.getD []).isEmpty)
 | σ,out,h::t=>if h∈out then letsB (stepL σ h) (out.erase h++rdD σ h) t else false
theorem letsB_n {σ:Srt} {out:List Int}:letsB σ out []=!(decide (σ.fi<σ.po) || !(σ.rd.getD []).isEmpty):=rfl
theorem letsB_c {σ:Srt} {out t:List Int} {h:Int}:letsB σ out (h::t)=if h∈out then letsB (stepL σ h) (out.erase h++rdD σ h) t else false:=rfl
noncomputable def goodB (ws:List (Int×Int)):List Int→List Int→Bool
 | _,[]=>true
 | dn,h::t=>decide (cW ws dn h=0) && goodB ws (h::dn) t
theorem goodB_n {ws:List (Int×Int)} {dn:List Int}:goodB ws dn []=true:=rfl
theorem goodB_c {ws:List (Int×Int)} {dn t:List Int} {h:Int}:goodB ws dn (h::t)=(decide (cW ws dn h=0) && goodB ws (h::dn) t):=rfl
theorem lets_good {ws:List (Int×Int)} (ok:okW ws):∀ (od:List Int) (σ:Srt) (dn out:List Int),LInv ws σ dn out→od.Nodup→(∀ j∈od,j∈NS3∧j∉dn)→(∀ j∈NS3,j∈dn∨j∈od)→letsB σ out od=goodB ws dn od
 | [],σ,dn,out,I,_,_,all=>by
  have:out=[]:=by
   cases out with
   | nil=>rfl
   | cons a l=>exact absurd ((all a (I.od a (.head _)).1).elim id fun m=>by cases m) (I.od a (.head _)).2
  subst this
  rw[letsB_n,goodB_n,I.rd,I.fi,I.po];simp
 | h::t,σ,dn,out,I,nd,od,all=>by
  obtain ⟨hN,hD⟩:=od h (.head _)
  obtain ⟨nh,nt⟩:=List.nodup_cons.mp nd
  rw[letsB_c,goodB_c]
  rcases I.cnt h hN hD with ⟨a,b,c⟩|⟨a,b,c⟩
  ·rw[if_pos a,decide_eq_true c,Bool.true_and]
   refine lets_good ok t _ _ _ (I.done ok a).2.2.2 nt (fun j m=>⟨(od j (.tail _ m)).1,fun q=>(m_c q).elim (fun e=>nh (e▸m)) (od j (.tail _ m)).2⟩) fun j m=>?_
   rcases all j m with q|q
   ·exact .inl (.tail _ q)
   ·rcases mC q with rfl|q
    ·exact .inl (.head _)
    ·exact .inr q
  ·rw[if_neg a,decide_eq_false (by lia),Bool.false_and]
theorem first_inv {ws:List (Int×Int)} (ok:okW ws):LInv ws (rdyS (prepS (σW ws)) (rdy0 (σW ws))) [] (rdy0 (σW ws)):=by
 obtain ⟨a,b,c,d,e,f⟩:=sW_is ok
 have mr:∀ j,j∈rdy0 (σW ws)↔j∈NS3∧cW ws [] j=0:=fun j=>by
  unfold rdy0;rw[List.mem_filter,a,f];simp only[decide_eq_true_eq];exact and_congr_right fun zz=>by lia
 have np':∀ j,(rdyS (prepS (σW ws)) (rdy0 (σW ws))).np j=if j∈rdy0 (σW ws) then -1 else (cW ws [] j:Int):=fun j=>by
  show outN _ _ j=_;rw[outN_is];show (if _ then _ else (σW ws).np j)=_;rw[f]
 refine ⟨a,e,rfl,fun j jN zz=>?_,(fun j m=>by cases m),fun j m=>⟨((mr j).mp m).1,by simp⟩,?_,?_,?_⟩
 ·rw[np']
  by_cases q:cW ws [] j=0
  ·exact .inl ⟨(mr j).mpr ⟨jN,q⟩,by rw[if_pos ((mr j).mpr ⟨jN,q⟩)],q⟩
  ·have n:j∉rdy0 (σW ws):=fun z=>q ((mr j).mp z).2
   exact .inr ⟨n,by rw[if_neg n],by lia⟩
 ·unfold rdy0;rw[a];exact List.Pairwise.filter _ (by decide:NS3.Nodup)
 ·show (σW ws).fi=_;rw[d];rfl
 ·show (σW ws).po+_=_;rw[c];simp
noncomputable def perms:List (List Int):=[[0,1,2],[0,2,1],[1,0,2],[1,2,0],[2,0,1],[2,1,0]]
noncomputable def keeps (od:List Int) (p:Int×Int):Bool:=decide (od.idxOf p.1<od.idxOf p.2)
theorem in3 {a:Int} (h:a∈NS3):a=0∨a=1∨a=2:=by simpa using h
theorem good_iff {ws:List (Int×Int)} (ok:okW ws) {od:List Int} (ho:od∈perms):goodB ws [] od=ws.all (keeps od):=by
 rw[Bool.eq_iff_iff,List.all_eq_true]
 have key:∀ x y z:Int,(∀ a∈NS3,∀ b∈NS3,(keeps [x,y,z] (a,b)=true↔(b≠x∧(b=y→a=x)∧(b=z→a=y∨a=x))))→(goodB ws [] [x,y,z]=true↔∀ p∈ws,keeps [x,y,z] p=true):=fun x y z k=>by
  have:goodB ws [] [x,y,z]=true↔cW ws [] x=0∧cW ws [x] y=0∧cW ws [y,x] z=0:=by
   rw[goodB_c,goodB_c,goodB_c,goodB_n];simp
  rw[this,cW_zero,cW_zero,cW_zero]
  constructor
  ·rintro ⟨a,b,c⟩ p m
   have:=k p.1 (ok p m).1 p.2 (ok p m).2
   refine this.mpr ⟨fun e=>?_,fun e=>by simpa using b p m e,fun e=>by simpa using c p m e⟩
   have:=a p m e;cases this
  ·intro h
   have q:=fun p m=>(k p.1 (ok p m).1 p.2 (ok p m).2).mp (h p m)
   exact ⟨fun p m e=>absurd e (q p m).1,fun p m e=>by simpa using (q p m).2.1 e,fun p m e=>by simpa using (q p m).2.2 e⟩
 simp only[perms,List.mem_cons,List.not_mem_nil,or_false] at ho
 rcases ho with rfl|rfl|rfl|rfl|rfl|rfl <;> (refine key _ _ _ fun a ha b hb=>?_) <;>
  (rcases in3 ha with rfl|rfl|rfl <;> rcases in3 hb with rfl|rfl|rfl <;> decide)
theorem acyc_iff {ws:List (Int×Int)} (ok:okW ws):Acyc (σW ws).su (σW ws).ns↔∃ od∈perms,ws.all (keeps od)=true:=by
 obtain ⟨a,_,_,_,e,_⟩:=sW_is ok
 have mem:∀ {x m:Int},m∈(σW ws).su x↔(x,m)∈ws:=fun {x m}=>by
  rw[e];unfold sucs
  rw[List.mem_map]
  constructor
  ·rintro ⟨p,hp,rfl⟩
   obtain ⟨h1,h2⟩:=List.mem_filter.mp hp
   have:p.1=x:=by simpa using h2
   rw[← this];exact h1
  ·intro h;exact ⟨(x,m),List.mem_filter.mpr ⟨h,by simp⟩,rfl⟩
 constructor
 ·rintro ⟨f,hf⟩
  have ed:∀ p∈ws,f p.1<f p.2:=fun p m=>hf p.1 (by rw[a];exact (ok p m).1) p.2 (mem.mpr m)
  have pick:∃ od∈perms,∀ x∈NS3,∀ y∈NS3,f x<f y→od.idxOf x<od.idxOf y:=by
   by_cases h1:f 0≤f 1 <;> by_cases h2:f 1≤f 2 <;> by_cases h3:f 0≤f 2
   all_goals first
    | (refine ⟨[0,1,2],by decide,fun x hx y hy l=>?_⟩;rcases in3 hx with rfl|rfl|rfl <;> rcases in3 hy with rfl|rfl|rfl <;> first|decide|lia)
    | (refine ⟨[0,2,1],by decide,fun x hx y hy l=>?_⟩;rcases in3 hx with rfl|rfl|rfl <;> rcases in3 hy with rfl|rfl|rfl <;> first|decide|lia)
    | (refine ⟨[1,0,2],by decide,fun x hx y hy l=>?_⟩;rcases in3 hx with rfl|rfl|rfl <;> rcases in3 hy with rfl|rfl|rfl <;> first|decide|lia)
    | (refine ⟨[1,2,0],by decide,fun x hx y hy l=>?_⟩;rcases in3 hx with rfl|rfl|rfl <;> rcases in3 hy with rfl|rfl|rfl <;> first|decide|lia)
    | (refine ⟨[2,0,1],by decide,fun x hx y hy l=>?_⟩;rcases in3 hx with rfl|rfl|rfl <;> rcases in3 hy with rfl|rfl|rfl <;> first|decide|lia)
    | (refine ⟨[2,1,0],by decide,fun x hx y hy l=>?_⟩;rcases in3 hx with rfl|rfl|rfl <;> rcases in3 hy with rfl|rfl|rfl <;> first|decide|lia)
  obtain ⟨od,ho,hk⟩:=pick
  exact ⟨od,ho,List.all_eq_true.mpr fun p m=>decide_eq_true (hk p.1 (ok p m).1 p.2 (ok p m).2 (ed p m))⟩
 ·rintro ⟨od,ho,h⟩
  refine ⟨fun x=>od.idxOf x,fun n hn m hm=>?_⟩
  have:=List.all_eq_true.mp h _ (mem.mp hm)
  exact of_decide_eq_true this
section
variable {hb':Heap} {adr adr':Pl→Addr} {σ:Srt}
theorem SRep.base (r:SRep prog w CN CS hb h adr σ) (e:Ext hb' hb):SRep prog w CN CS hb' h adr σ:=⟨r.at_,r.inj,fun p l=>none_before e (r.new p l)⟩
theorem SRep.agree (r:SRep prog w CN CS hb h adr' σ) (g:∀ p,Lv σ p→adr' p=adr p):SRep prog w CN CS hb h adr σ:=by
 have gx:=g .x trivial
 have gd:=g .dx trivial
 have gD:=g .D trivial
 refine ⟨fun p l=>?_,fun p q l l' e=>r.inj p q l l' (by rw[g p l,g q l',e]),fun p l=>by rw[← g p l];exact r.new p l⟩
 have a:=r.at_ p l
 have gp:=g p l
 cases p,l using plE with
 | x=>have a:h.get? (adr' .x)=some (instObj CS (adr' .dx)):=a;rw[gx,gd] at a;exact a
 | dx =>
  obtain ⟨t1,t2,t3,t4,p,q,e⟩:=a
  refine ⟨t1,t2,t3,t4,p,q,?_⟩
  have hv:rdV σ adr'=rdV σ adr:=by
   unfold rdV
   cases hr:σ.rd with
   | none=>rfl
   | some l=>show Value.ref _=Value.ref _;rw[g .rl (by show σ.rd.isSome=true;rw[hr];rfl)]
  rw[gd,gD,hv] at e;exact e
 | D =>
  have a:h.DictOf (intKind prog w) (adr' .D) (σ.ns.map fun n=>(n,.ref (adr' (.nd n 0)))):=a
  rw[gD] at a
  have:(σ.ns.map fun n=>(n,Value.ref (adr' (.nd n 0))))=σ.ns.map fun n=>(n,Value.ref (adr (.nd n 0))):=List.map_congr_left fun n m=>by rw[g (.nd n 0) ⟨m,by decide⟩]
  rw[this] at a;exact a
 | rl l=>exact fun l' e=>by have:=a l' e;rw[gp] at this;exact this
 | n0 n l =>
  obtain ⟨t,p,e⟩:=a
  rw[gp,g (.nd n 1) ⟨l.1,by decide⟩,g (.nd n 2) ⟨l.1,by decide⟩] at e
  exact ⟨t,p,e⟩
 | n1 n l=>have a:h.get? (adr' (.nd n 1))=some emptyDict:=a;rw[gp] at a;exact a
 | n2 n l=>have a:IntL h (adr' (.nd n 2)) (σ.su n):=a;rw[gp] at a;exact a
theorem dict3 {e:Expr} {p1 p2 p3 q1 q2 q3 pos:Pos} {Q:VSP} (he:e=.Dict [some (.Constant (.int 0) k1 p1),some (.Constant (.int 1) k2 p2),some (.Constant (.int 2) k3 p3)] [.List [] q1,.List [] q2,.List [] q3] pos)
  (q:∀ h' t' g l0 l1 l2,Ext s.heap h'→h'.DictOf (intKind prog w) g [(0,.ref l0),(1,.ref l1),(2,.ref l2)]→s.heap.get? g=none→(∀ l∈[l0,l1,l2],Lst h' l #[])→Q (.ref g) (To s h' t')) :
  wpAny (model prog w) A (eval e env) Q E s:=by
 subst he
 refine wpAny_Dict_walk (knd:=intKind prog w) ?_ ?_ ?_ ?_ ?_
 ·rfl
 ·rfl
 ·exact List.cons_ne_nil _ _
 ·exact Nat.le_of_ble_eq_true rfl
 obtain ⟨H1,hH1⟩:∃ H1,H1=s.heap.push { cls:=.type "dict",data:=.dict #[] }:=⟨_,rfl⟩
 have d1:H1.DictOf (intKind prog w) s.heap.objs.size []:=hH1▸Heap.DictOf.new _
 have e1:Ext s.heap H1:=hH1▸Ext.push _ _
 rw[← hH1]
 have ng:=size_none s.heap
 generalize s.heap.objs.size=g at d1 ng ⊢
 have nl:∀ {pos:Pos} {s:Shared} {Q:VSP},(∀ h' t' D,Ext s.heap h'→s.heap.get? D=none→Lst h' D #[]→Q (.ref D) (To s h' t'))→wpAny (model prog w) A (eval (.List [] pos) env) Q E s:=fun {pos s Q} k=>wpAny_noRaise (wpAny_mono (new_list (s:=s) (h:=s.heap) (t:=s.toks)) (fun v s'=>by
  rintro ⟨h1a,t1a,D,a,b,c,d,_,e⟩
  rw[a,b];exact k _ _ _ c d e) fun zz zz x=>x)
 refine pairTrees_cons_walk (wpAny_Constant_int (nl fun h2a t2a l0 e2a n0 L0=>?_))
 refine pairTrees_cons_walk (wpAny_Constant_int (nl fun h3a t3a l1 e3a n1 L1=>?_))
 refine pairTrees_cons_walk (wpAny_Constant_int (nl fun h4a t4a l2 e4a n2 L2=>pairTrees_nil_walk ?_))
 have e2a:Ext H1 h2a:=e2a
 have e3a:Ext h2a h3a:=e3a
 have e4a:Ext h3a h4a:=e4a
 refine ⟨[(0,.ref l0),(1,.ref l1),(2,.ref l2)],⟨intKind_is prog w _ _,rfl,intKind_is prog w _ _,rfl,intKind_is prog w _ _,rfl,trivial⟩,dictOf_keep d1 fun o e=>e4a _ _ (e3a _ _ (e2a _ _ e)),fun h' d' sb=>?_⟩
 have gd:∃ o,H1.get? g=some o:=by obtain ⟨o,_,_,e,_⟩:=d1;exact ⟨o,e⟩
 have ne:∀ {h:Heap} {l:Addr},(∃ o,h.get? g=some o)→h.get? l=none→l≠g:=fun {h l}=>by
  rintro ⟨o,e⟩ n q
  rw[← q,n] at e;cases e
 obtain ⟨o,eo⟩:=gd
 have g0:=ne (h:=H1) ⟨_,eo⟩ n0
 have g1:=ne (h:=h2a) ⟨_,e2a _ _ eo⟩ n1
 have g2:=ne (h:=h3a) ⟨_,e3a _ _ (e2a _ _ eo)⟩ n2
 have kp:∀ {b:Addr},b≠g→∀ o,h4a.get? b=some o→h'.get? b=some o:=fun n o e=>sb.extBut _ o n e
 refine q h' _ g l0 l1 l2 (fun b o e=>kp (fun eb=>by rw[eb,ng] at e;cases e) o (e4a _ _ (e3a _ _ (e2a _ _ (e1 _ _ e))))) d' ng fun l m=>?_
 simp only[List.mem_cons,List.not_mem_nil,or_false] at m
 rcases m with rfl|rfl|rfl
 ·exact Lst.at ((L0.ext e3a).ext e4a) (kp g0)
 ·exact Lst.at (L1.ext e4a) (kp g1)
 ·exact Lst.at L2 (kp g2)
end
section
variable {Q:VSP}
theorem with1s {e:Expr} {pos:Pos} (hk:Keeper1 (model prog w) I fv)
  (h:wpAny (model prog w) A (eval e env) (fun v s'=>I X s'.heap∧wpAny (model prog w) A (call fv (first++[v])) Q E s') E s)
  (he:starEach [e] env=(false,eval e env)::starEach [] env:=by rfl):wpAny (model prog w) A (callWith pos fv first (backTo pos (starEach [e] env)) []) Q E s:=by
 refine callWith_of (P:=I X) (by rw[he];rfl) (hk X) ?_
 rw[he]
 refine Calls.evalArgs_plain ?_
 have z:wpAny (model prog w) A (spliced (backTo pos (starEach [e] env))) (fun vs s'=>I X s'.heap∧wpAny (model prog w) A (call fv (first++vs)) Q E s') E s :=
  wpAny_items_cons (he:=he) (wpAny_mono h (fun u s2a q=>wpAny_items_nil q) fun zz zz x=>x)
 rw[he] at z
 exact z
theorem with2s {e e':Expr} {pos:Pos} (hk:Keeper1 (model prog w) I fv)
  (h:wpAny (model prog w) A (eval e env) (fun v s'=>wpAny (model prog w) A (eval e' env) (fun v' s'=>I X s'.heap∧wpAny (model prog w) A (call fv (first++[v,v'])) Q E s') E s') E s)
  (he:starEach [e,e'] env=(false,eval e env)::(false,eval e' env)::starEach [] env:=by rfl) (he':starEach [e'] env=(false,eval e' env)::starEach [] env:=by rfl):wpAny (model prog w) A (callWith pos fv first (backTo pos (starEach [e,e'] env)) []) Q E s:=by
 refine callWith_of (P:=I X) (by rw[he];rfl) (hk X) ?_
 rw[he]
 refine Calls.evalArgs_plain ?_
 have z:wpAny (model prog w) A (spliced (backTo pos (starEach [e,e'] env))) (fun vs s'=>I X s'.heap∧wpAny (model prog w) A (call fv (first++vs)) Q E s') E s :=
  wpAny_items_cons (he:=by rw[he,he']) (wpAny_mono h (fun u s2a q=>wpAny_items_cons (he:=he') (wpAny_mono q (fun u s2a q=>wpAny_items_nil q) fun zz zz x=>x)) fun zz zz x=>x)
 rw[he] at z
 exact z
end
structure Lx where
 K:Frag
 mg:Str→Option Value
 mb:Str→Option Value
 B:Heap
 h0:Heap
 outer:List Env
 CN:Addr
 CS:Addr
 CE:Addr
 L:Addr
 W:Value
 O:Value
 ws:List (Int×Int)
 od:List Int
noncomputable def prD (p:Int×Int):PyData:=.tuple [.int p.1,.int p.2]
structure LxOk (prog:Program) (w:World) (c:Lx):Prop where
 G:GK c.K c.mg c.mb c.B
 e0:Ext c.B c.h0
 Bn:∀ b∈c.L::fas c.outer,c.B.get? b=none
 hbo:∀ b o,c.h0.get? b=some o→b∉fas c.outer→c.B.get? b=some o
 o0:OutF c.outer c.h0
 NK:NodeK c.K c.CN
 SK:SortK c.K w c.CS
 N:SortN c.mg c.mb c.CN
 CK:CycK c.K c.mg c.CE
 kCN:keepIn c.K (.ref c.CN)=true
 kCS:keepIn c.K (.ref c.CS)=true
 ts:c.mg "TopologicalSorter"=some (.ref c.CS)
 li:c.mg "list"=none
 lib:c.mb "list"=some (.type "list")
 L0:c.h0.get? c.L=none
 w:At [] c.B c.W (.list (c.ws.map prD))
 o:At [] c.B c.O (.tuple (c.od.map .int))
 hw:∀ p∈c.ws,p.1∈([0,1,2]:List Int)∧p.2∈([0,1,2]:List Int)
 hz:c.ws.length≤100
 ho:c.od.length≤100
noncomputable abbrev LF (prog:Program) (w:World) (c:Lx) (ρ:List (Str×VD)) (adr:Pl→Addr) (σ:Srt):XHP:=Fr2 c.K c.mg c.mb c.B c.L ρ (RS prog w c.CN c.CS c.B c.L adr σ)
noncomputable def lr0 (c:Lx):List (Str×VD):=[("order",.val c.O),("waits",.val c.W)]
noncomputable def lr1 (c:Lx) (x:Addr):List (Str×VD):=("sorter",.val (.ref x))::lr0 c
noncomputable def FS (F:List Addr) (h0 h:Heap):Prop:=∀ b∈F,∀ o,h0.get? b=some o→∃ sl,h.get? b=some { o with slots:=sl }
theorem FS.off {M:List Addr} (x:FS F h0 h) (o:Off M h h') (n:∀ b∈M,b∉F):FS F h0 h':=fun b m ob e=>(x b m ob e).imp fun zz e=>o b _ (fun q=>n b q m) e
theorem FS.ext (x:FS F h0 h) (o:Ext h h'):FS F h0 h':=fun b m ob e=>(x b m ob e).imp fun zz e=>o b _ e
section
variable {c:Lx} {n:Nat} {adr adr':Pl→Addr} {σ:Srt}
theorem ll_make {e:Expr} {p1 p2 p3 q1 q2 q3 q4 q5 q6 q7 q8:Pos} {Q:FSP} (he:e=.Dict [some (.Constant (.int 0) k1 p1),some (.Constant (.int 1) k2 p2),some (.Constant (.int 2) k3 p3)] [.List [] q1,.List [] q2,.List [] q3] q6) (ok:LxOk prog w c) (fr:Fr A0 (topS 20) n0a hx c.L env) (hA:OKA A (n+6)) (hσ:sInit 3=σ) (i:Fs c.K c.mg c.mb c.B c.L (lr0 c) [c.L] h)
  (k:∀ h' t' adr,Off [c.L] h h'→(∀ p,Lv σ p→h.get? (adr p)=none)→LF prog w c (lr1 c (adr .x)) adr σ [c.L] h'→Q .next (To s h' t')) :
  NR prog w A (exec (.Assign [.Name "sorter" q4] (.Call (.Name "TopologicalSorter" q5) [e] [] q7) q8) env) Q (To s h t):=by
 have hst:starEach [e] env=(false,eval e env)::starEach [] env:=by rw[he];rfl
 have i:Fr2 c.K c.mg c.mb c.B c.L (lr0 c) (fun zz zz=>True) [c.L] h:=⟨i,trivial⟩
 have up:=up2 (K:=c.K) (mg:=c.mg) (mb:=c.mb) (h0a:=c.B) (ρ:=lr0 c) (rest_true (L:=c.L))
 have LB:=ok.Bn _ (.head _)
 refine wpAny_Assign_Name (hs:=by rfl) (wpAny_Call_ofName (evF (fr.gl "TopologicalSorter" (by kernel_rfl) ok.ts (by decide +kernel)) (bdL i) i fun v h1a t1a e1a ev=>?_))
 subst ev
 have i1a:=up.ext e1a i
 show wpAny _ _ (callWith q7 (.ref c.CS) [] (backTo q7 (starEach [_] env)) []) _ _ _
 refine with1s (X:=[c.L]) (I:=Fr2 c.K c.mg c.mb c.B c.L (lr0 c) (fun zz zz=>True)) (first:=[]) (he:=hst) ?_ ?_
 ·exact keeper_K gk2 ok.kCS
 refine dict3 he fun h2a t2a g l0 l1 l2 e2a d gn hl=>⟨up.ext e2a i1a,?_⟩
 have i2a:=up.ext e2a i1a
 have e2a:Ext h1a h2a:=e2a
 have gn:h1a.get? g=none:=gn
 refine wpAny_noRaise (wpAny_mono (sort_new (s:=To s h2a t2a) ok.NK ok.SK ok.kCN hA i2a.1.1 ok.N d (fun e=>by
  obtain ⟨o,e'⟩:=ok.SK.sys
  have:=i1a.1.1.k _ _ e'
  rw[← e,gn] at this;cases this) hl _) (fun v s' q=>?_) fun zz zz x=>x)
 obtain ⟨adr,h3a,t3a,rfl,rfl,e3a,r⟩:=q
 rw[hσ] at r
 have e3a:Ext h2a h3a:=e3a
 have i3a:=up.ext e3a i2a
 have aL:∀ p,Lv σ p→adr p≠c.L:=fun p l z=>by
  have:=r.new p l
  obtain ⟨o,e,_⟩:=i2a.1.nt
  rw[z] at this;rw[show (To s h2a t2a).heap.get? c.L=some o from e] at this;cases this
 have i3':LF prog w c (lr0 c) adr σ [c.L] h3a:=⟨i3a.1,r.base i2a.1.2.1,aL⟩
 refine st2 (x:=("sorter":Str)) (s:=To s h3a t3a) (D:=.val (.ref (adr .x))) rest_rs i3' rfl (bdL i3') fr.le (by rw[fr.k];kernel_rfl) ok.G LB (.head _) fun h4a t4a o4a b4a i4a=>?_
 exact k h4a _ adr ((Ext.off (Ext.trans e1a (Ext.trans e2a e3a))).trans o4a) (fun p l=>none_before (Ext.trans e1a e2a) (r.new p l)) i4a
end
section
variable {c:Lx} {n:Nat} {adr adr':Pl→Addr} {σ σ':Srt}
theorem call_out {P Q:VSP} (h:codeAny (model prog w) A (.call (.ref f) ⟨vs,[]⟩) (Out P E) s) (k:∀ v s',P v s'→Q v s'):wpAny (model prog w) A (call (.ref f) vs) Q E s :=
 wpAny_call (codeAny_mono h fun r s' q=>by
  rcases r with e|f
  ·exact q
  ·cases f with
   | ret v=>exact k v s' q
   | next=>exact q.elim
   | cont=>exact q.elim
   | brk=>exact q.elim)
theorem LF.aft (ok:LxOk prog w c) (i:LF prog w c ρ adr σ X h) (fl:FlatL ρ) (a:Aft prog w c.CN c.CS c.B adr σ (To s h t) σ' adr' (To s h' n)):LF prog w c ρ adr' σ' X' h':=by
 obtain ⟨h2a,tk,e,r,o,g⟩:=a
 have:h'=h2a:=congrArg Shared.heap e
 subst this
 exact RS.call i ok.G fl o r g
theorem Aft.off {s':Shared} (a:Aft prog w CN CS hb adr σ s σ' adr' s'):∃ h' t',s'=To s h' t'∧Off (ownL adr σ) s.heap h':=by
 obtain ⟨h2a,tk,e,r,o,g⟩:=a
 exact ⟨h2a,tk,e,fun b ob n eb=>o b ob eb fun p l z=>n (mem_ownL.mpr ⟨p,l,z⟩)⟩
theorem Aft.same {s':Shared} (a:Aft prog w CN CS hb adr σ s σ' adr' s') (hl:∀ p,Lv σ' p→Lv σ p) (hl':∀ p,Lv σ p→Lv σ' p):Aft prog w CN CS hb adr σ s σ' adr s':=by
 obtain ⟨h2a,tk,e,r,o,g⟩:=a
 exact ⟨h2a,tk,e,r.agree fun p l=>(g.1 p (hl p l)).2,o,⟨fun p l=>⟨hl' p l,rfl⟩,fun p l=>.inl (hl p l)⟩⟩
noncomputable def JX (prog:Program) (w:World) (c:Lx) (ρ:List (Str×VD)) (adr:Pl→Addr) (σ:Srt) (X:List Addr) (h:Heap):Prop:=LF prog w c ρ adr σ X h∧∀ x∈X,c.B.get? x=none
theorem upJ:Up (JX prog w c ρ adr σ):=fun X X' h h' k q=>by
 rintro ⟨i,n⟩
 exact ⟨upR _ _ _ _ k q i,fun x m=>(q x m).elim (n x) fun z=>none_before i.1.2.1 z⟩
theorem jx_at (a:At [] c.B u d) (j:JX prog w c ρ adr σ X h):At X h u d:=(a.hid fun x m=>.inr (j.2 x m)).ext j.1.1.2.1
theorem ev_arg {p:Pos} (fr:Fr A0 (topS 20) n0a hx c.L env) (hk:(fScope (topS 20)).names.lookup y=some .local) (hl:ρ.lookup y=some (.val u)) (hd:(y == ("__debug__":Str))=false) (a:At [] c.B u d):Ev prog w A env (JX prog w c ρ adr σ) (.Name y p) d:=fun s E X hX hI =>
 wpAny_mono ((fr.lv y hk hl hd:EvR prog w A env (LF prog w c ρ adr σ) _ _) s E X hX hI.1) (fun v s'=>by
  rintro ⟨k,e⟩
  exact ⟨k,by rw[e];exact jx_at a (upJ.ext (kp_ext k) hI)⟩) fun zz zz x=>x
noncomputable abbrev MCall (env:Env) (o:Expr) (name:Str) (apos pos:Pos) (args:List Expr) (pl:Sem Bool):Prop:=eval (.Call (.Attribute o name apos) args [] pos) env=(do
   let ov ← eval o env
   standAt apos.atName
   let (f,first) ← holding [ov] (getMethod ov name pl)
   callWith pos f first (backTo pos (starEach args env)) (backToKw pos (keywordEach [] env)))
theorem ll_add {p1 p2 p3 p4 p5 p6 p7 p8 p9 q1 q2:Pos} {Q:FSP} (ok:LxOk prog w c) (fr:Fr A0 (topS 20) n0a hx c.L env) (hA:OKA A (n+4)) {pl:Sem Bool} (he:MCall env (.Name "sorter" p5) "add" p6 p9 [.Name "second" p7,.Name "first" p8] pl) (i:LF prog w c (lr1 c (adr .x)) adr (σW []) [c.L] h)
  (k:∀ h' t',Off (c.L::ownL adr (σW [])) h h'→LF prog w c (lr1 c (adr .x)) adr (σW c.ws) [c.L] h'→Q .next (To s h' t')) :
  NR prog w A (exec (.For (.Tuple [.Name "first" p1,.Name "second" p2] kk p3) (.Name "waits" p4) [.Expr (.Call (.Attribute (.Name "sorter" p5) "add" p6) [.Name "second" p7,.Name "first" p8] [] p9) q1] [] q2) env) Q (To s h t):=by
 refine hideQ fun Q hQ=>?_
 obtain ⟨fa,MK⟩:=ok.SK.add
 have okT:∀ b,okW (c.ws.take b):=fun b p m=>ok.hw p (List.mem_of_mem_take m)
 have LB:=ok.Bn _ (.head _)
 have fl1:FlatL (lr1 c (adr .x)):=⟨trivial,trivial,trivial,trivial⟩
 have lv:∀ ws,okW ws→∀ p,Lv (σW ws) p↔Lv (σW []) p:=fun ws o p=>by
  obtain ⟨a,b,_⟩:=sW_is o
  obtain ⟨a',b',_⟩:=sW_is (ws:=[]) (fun p m=>by cases m)
  cases p with
  | x|dx|D=>exact Iff.rfl
  | rl=>show _=true↔_=true;rw[b,b']
  | nd n j=>show _∧_↔_∧_;rw[a,a']
 have iX:LF prog w c (lr1 c (adr .x)) adr (σW []) (c.L::ownL adr (σW [])) h:=⟨i.1.flat fl1,i.2⟩
 have bX:Bd (c.L::ownL adr (σW [])) h:=bdO iX
 have nX:∀ x∈c.L::ownL adr (σW []),c.B.get? x=none:=fun x m=>by
  rcases mC m with rfl|m
  ·exact LB
  ·obtain ⟨p,l,rfl⟩:=mem_ownL.mp m;exact i.2.1.new p l
 have eo:(plsL (σW [])).map adr=ownL adr (σW []):=rfl
 refine for_p (s:=To s h t) (J:=JX prog w c (lr1 c (adr .x)) adr (σW [])) (plsL (σW [])) (fun i b=>b=i) (fun zz=>lr1 c (adr .x)) (fun b=>σW (c.ws.take b)) 0 iX (fun b=>lv _ (okT b)) rfl rfl ⟨rfl,rfl,rfl,trivial⟩ (src_listF prD hA.handled (ev_arg fr (by kernel_rfl) (by rfl) (by kernel_rfl) ok.w)) ⟨iX,nX⟩ bX (fun p m=>mem_plsL.mp m) (fun b m=>m) ok.G (fun j d v h1a t1a X' b hd hv hb hL hP i1a=>?_) fun h1a t1a b hb hP i1a o1a=>?_
 ·subst hP
  refine two2 (d1a:=.int d.1) (d2a:=.int d.2) rest_rs hA.handled i1a hv hb fr.le (by rw[fr.k];kernel_rfl) (by rw[fr.k];kernel_rfl) ok.G LB hL fun h2a t2a o2a b2b i2a=>?_
  have i2a:LF prog w c (("second",.dat (.int d.2))::("first",.dat (.int d.1))::lr1 c (adr .x)) adr (σW (c.ws.take b)) X' h2a:=i2a
  refine xc (wpAny_Expr_any (hi:=fr.ge.inter) (meth_wp ok.SK MK upR b2b i2a (fr.lv "sorter" (by kernel_rfl) (by rfl) (by kernel_rfl)) kin2 rep2 (he:=he) fun s3a k3a i3a=>?_))
  obtain ⟨h3a,t3a,rfl,e3a⟩:=k3a
  have e3a:Ext h2a h3a:=e3a
  refine with2s (I:=LF prog w c (("second",.dat (.int d.2))::("first",.dat (.int d.1))::lr1 c (adr .x)) adr (σW (c.ws.take b))) (X:=X') ?_ ?_
  ·exact keeper_K gk2 MK.keep
  refine evF (s:=s) (fr.ld "second" (by kernel_rfl) (by rfl) (by kernel_rfl)) (b2b.ext e3a) i3a fun v2a h4a t4a e4a a2a=>?_
  have i4a:=upR.ext e4a i3a
  refine evF (fr.ld "first" (by kernel_rfl) (by rfl) (by kernel_rfl)) ((b2b.ext e3a).ext e4a) i4a fun v1a h5 t5 e5a a1a=>?_
  have i5a:=upR.ext e5a i4a
  refine ⟨i5a,?_⟩
  obtain ⟨u2a,rfl⟩:=a2a.int_inv
  obtain ⟨u1a,rfl⟩:=a1a.int_inv
  obtain ⟨w1,w2,w3,w4,w5,w6⟩:=sW_is (okT b)
  have dm:d∈c.ws:=List.mem_of_getElem? hd
  refine call_out (sort_add (n:=n) (s:=To s h5 t5) (rest:=[.int d.1 u1a]) (ps:=[d.1]) MK.fn ok.NK ok.SK ok.kCN hA ok.G i5a.1.2.1 ok.N i5a.2.1 (by rw[w1];decide) w2 (.cons _ _ .nil) (.inr ⟨_,rfl⟩) (fun p m=>by rw[w1,m_s m];exact (ok.hw d dm).1) (fun p=>by rw[w5];exact Nat.le_trans sucs_len (Nat.le_trans (List.length_take_le' _ _) (by have:=ok.hz;lia))) _) fun v s6 q=>?_
  obtain ⟨rfl,adr',af⟩:=q
  have eσ:addS (σW (c.ws.take b)) d.2 [d.1]=σW (c.ws.take (b+1)):=by
   unfold σW
   rw[List.take_add_one,hd,Option.toList_some,List.foldl_append];rfl
  rw[eσ] at af
  have af:=af.same (fun p l=>(lv _ (okT b) p).mpr ((lv _ (okT _) p).mp l)) fun p l=>(lv _ (okT _) p).mpr ((lv _ (okT b) p).mp l)
  obtain ⟨h6a,t6,rfl,o6⟩:=af.off
  refine wpAny_execs_nil ⟨h6a,t6,b+1,rfl,?_,rfl,?_⟩
  ·have e24:Ext h2a h5:=Ext.trans e3a (Ext.trans e4a e5a)
   refine (o2a.mono fun q m=>by rw[m_s m];exact .head _).trans ((Ext.off e24).trans (o6.mono fun q m=>.tail _ ?_))
   obtain ⟨p,l,rfl⟩:=mem_ownL.mp m
   exact mem_ownL.mpr ⟨p,(lv _ (okT b) p).mp l,rfl⟩
  ·have i5':LF prog w c (lr1 c (adr .x)) adr (σW (c.ws.take b)) X' h5:=⟨i5a.1.sub ⟨rfl,rfl,rfl,trivial⟩,i5a.2⟩
   exact LF.aft ok i5' fl1 af
 ·subst hP
  rw[List.take_length] at i1a
  exact hQ _ _ (k h1a t1a o1a ⟨i1a.1.flat fl1,i1a.2⟩)
end
theorem UpToSlots_fs (x:FS F h0 h) (u:h.UpToSlots h') (d:∀ b∈F,∀ o,h0.get? b=some o→∃ es n,o.data=.dict es n):FS F h0 h':=fun b m o e=>by
 obtain ⟨sl,e1⟩:=x b m o e
 obtain ⟨es,n,hd⟩:=d b m o e
 obtain ⟨sl',e2⟩:=u b _ e1 fun vs q=>by rw[show ({ o with slots:=sl }:Obj).data=o.data from rfl,hd] at q;cases q
 exact ⟨sl',e2⟩
section
variable {c:Lx} {M:List Addr} {n:Nat} {adr adr':Pl→Addr} {σ σ':Srt} {outer:List Env} {B:Heap} {e CE:Addr} {a0:Value}
theorem Fs.tw (f:Fs K mg mb hb L ρ X h) (G:GK K mg mb hb) (fl:FlatL ρ) (o:∀ b o,h.get? b=some o→b∉M→h'.get? b=some o) (sl:∀ o,h.get? L=some o→∃ sl,h'.get? L=some { o with slots:=sl }) (n0:∀ b∈M,hb.get? b=none) (nt:∀ b∈M,∀ o,h.get? b=some o→¬ TupObj o):Fs K mg mb hb L ρ X' h':=by
 have eb:Ext hb h':=fun b ob e=>o b ob (f.2.1 b ob e) fun m=>by rw[n0 b m] at e;cases e
 obtain ⟨m,hm,hr⟩:=(f.flat fl:Fs K mg mb hb L ρ M h).2.2
 have off:Off M h h':=fun b ob n e=>o b ob e n
 refine Fs.flat (X:=M) ⟨G.ext eb,eb,m,?_,fun y D e=>?_⟩ fl
 ·obtain ⟨ob,es,ep,e,hd,r⟩:=hm
  obtain ⟨sl',e'⟩:=sl ob e
  exact ⟨_,es,ep,e',hd,r⟩
 ·obtain ⟨v,a,b⟩:=hr y D e
  exact ⟨v,a,VD.chg (off.chg fun b m=>⟨m,nt b m⟩) b⟩
theorem catch_own {t:Expr} {pos:Pos} {b0:Stmt} {suite:List Stmt} {rest:List ExceptHandler} {Q:FSP} (hfr:A.frames=some (env::outer)) (hf:env.frame=some L) (hx:Heap.FlyingW B (env::outer) e (.ref CE) a0 s.heap) (CK:CycK K mg CE) (hK:∀ h,B.StaysIn h→K.In h)
  (ht:∀ h',B.StaysIn h'→s.heap.UpToSlots h'→∀ Q:VSP,∀ E,Q (.ref CE) { s with heap:=h' }→wpAny (model prog w) (A.mark (some (.ref e))) (eval t env) Q E { s with heap:=h' })
  (k:∀ h',B.StaysIn h'→s.heap.UpToSlots h'→NR prog w (A.mark (some (.ref e))) (execs (b0::suite) env) Q { s with heap:=h' }) :
  wpAny (model prog w) A (noteFrame (.ref e) env) (fun zz s2a=>wpAny (model prog w) A (setFlight (.ref e) none) (fun zz s3a=>wpAny (model prog w) A (handleBy (.ref e) env (.ExceptHandler (some t) none (b0::suite) pos::rest)) Q (fun zz zz=>False) s3a) (fun zz zz=>False) s2a) (fun zz zz=>False) s:=by
 refine land_fly hfr hf hx fun h1a u1a f1a=>?_
 refine wpAny_handleBy_cons (codeAny_handlers_test (ht h1a f1a.1 u1a _ _ ?_)) (by intro q;cases q)
 obtain ⟨nm,q,N,bs,hdct,sn,sub,ab,col,dd,k0,k1,k2,k3,k5,mN,hC,hN,hni⟩:=CK.cls
 obtain ⟨oe,he,hc⟩:=f1a.there
 obtain ⟨hh,g,d,tk,os⟩:=s
 refine wpAny_excMatches_sub_self (bm:=veBases) (hK h1a f1a.1 _ _ hC) he hc (by decide) ?_
 refine codeAny_handlers_suite (lands_againW f1a fun h3a f3a u3a=>?_)
 exact wpAny_passesOwnAt PassesOwnAt.never (k h3a f3a.1 (u1a.trans u3a))
theorem ll_prep {p1 p2 p3 p4 p5 p6 p7 p8 p9:Pos} {Q:FSP} (ok:LxOk prog w c) (fr:Fr A0 (topS 20) n0a hx c.L env) (hA:OKA A (n+4)) (hfr:A.frames=some (env::c.outer)) (hf:env.frame=some c.L) {pl:Sem Bool} (he:MCall env (.Name "sorter" p1) "prepare" p2 p3 [] pl)
  (i:LF prog w c (lr1 c (adr .x)) adr (σW c.ws) [c.L] h) (fs:FS (fas c.outer) c.h0 h) (rn:∀ p,Lv (σW c.ws) p→adr p∉fas c.outer)
  (kok:∀ h' t' adr',Acyc (σW c.ws).su (σW c.ws).ns→LF prog w c (lr1 c (adr' .x)) adr' (prepS (σW c.ws)) [c.L] h'→FS (fas c.outer) c.h0 h'→(∀ p,Lv (prepS (σW c.ws)) p→adr' p∉fas c.outer)→Q .next (To s h' t'))
  (kerr:∀ h' t',¬ Acyc (σW c.ws).su (σW c.ws).ns→Slt (fas c.outer) c.h0 h'→Q (.ret .none) (To s h' t')) :
  NR prog w A (exec (.Try [.Expr (.Call (.Attribute (.Name "sorter" p1) "prepare" p2) [] [] p3) p4] [.ExceptHandler (some (.Name "CycleError" p5)) none [.Return (some (.Constant .none kk p6)) p7] p8] [] [] p9) env) Q (To s h t):=by
 refine hideQ fun Q hQ=>?_
 obtain ⟨fa,MK⟩:=ok.SK.prep
 obtain ⟨w1,w2,w3,w4,w5,w6⟩:=sW_is ok.hw
 have LB:=ok.Bn _ (.head _)
 have fl1:FlatL (lr1 c (adr .x)):=⟨trivial,trivial,trivial,trivial⟩
 have efs:fas (env::c.outer)=c.L::fas c.outer:=by unfold fas;rw[List.filterMap_cons,hf]
 have dF:∀ b∈fas c.outer,∀ o,c.h0.get? b=some o→∃ es n,o.data=.dict es n:=fun b m o e=>outF_there ok.o0 m e
 refine wpAny_Try_except (xc (wpAny_Expr_any (hi:=fr.ge.inter) (meth_wp (s:=To s h t) ok.SK MK upR (bdL i) i (fr.lv "sorter" (by kernel_rfl) (by rfl) (by kernel_rfl)) kin2 rep2 (he:=he) fun s2a k2a i2a=>with0 (keeper_K gk2 MK.keep) i2a ?_)))
 obtain ⟨h2a,t2a,rfl,e2a⟩:=k2a
 have e2a:Ext h h2a:=e2a
 have i2a:LF prog w c (lr1 c (adr .x)) adr (σW c.ws) [c.L] h2a:=i2a
 have fs2:=fs.ext e2a
 have o2a:OutF (env::c.outer) h2a:=fun en m=>by
  rcases m_c m with rfl|m
  ·obtain ⟨mm,ob,es,ep,e1,d,_⟩:=i2a.1.2.2.ns
   exact ⟨by rw[fr.ge.kind];decide,c.L,ob,es,ep,hf,e1,d⟩
  ·obtain ⟨k,L',ob,es,nn,a,b,cc⟩:=ok.o0 en m
   obtain ⟨sl,e⟩:=fs2 L' (List.mem_filterMap.mpr ⟨en,m,a⟩) ob b
   exact ⟨k,L',_,es,nn,a,e,cc⟩
 refine wpAny_call (sort_prepare (s:=To s h2a t2a) MK.fn ok.SK ok.NK ok.N ok.CK hA hfr o2a ok.G i2a.1.2.1 (fun b m=>ok.Bn b (efs▸m)) i2a.2.1 (fun p l m=>by rw[efs] at m;exact (m_c m).elim (i2a.2.2 p l) (rn p l)) w2 (by rw[w1];decide) (by rw[w1];decide) (fun x zz=>⟨by rw[w5];exact Nat.le_trans sucs_len (by have:=ok.hz;lia),fun m hm=>by rw[w5] at hm;rw[w1];exact sucs_in ok.hw hm⟩) (fun h3a t3a adr' ac r3a g3a of3=>?_) fun h3a t3a e a0 ac fly of3=>?_)
 ·rw[efs] at of3
  have of3:OffP (c.L::fas c.outer) adr (σW c.ws) h2a h3a:=of3
  have f3a:Fs c.K c.mg c.mb c.B c.L (lr1 c (adr .x)) [c.L] h3a:=Fs.tw (M:=(c.L::fas c.outer)++ownL adr (σW c.ws)) i2a.1 ok.G fl1 (fun b o e n=>of3.1 b o e (fun m=>n (m_l _ m)) fun p l z=>n (m_r _ (mem_ownL.mpr ⟨p,l,z⟩))) (fun o e=>of3.2 _ o e (.head _)) (fun b m=>by
    rcases m_a m with m|m
    ·exact ok.Bn b m
    ·obtain ⟨p,l,rfl⟩:=mem_ownL.mp m;exact i2a.2.1.new p l) fun b m o e=>by
    rcases m_a m with m|m
    ·obtain ⟨es,n,d⟩:=outF_there o2a (efs▸m) e;exact not_tup_of_dict d
    ·obtain ⟨p,l,rfl⟩:=mem_ownL.mp m;exact (i2a.2.1.there l).mk o e
  have ax:adr' .x=adr .x:=(g3a.1 .x trivial).2
  refine wpAny_execs_nil (wpAny_execs_nil (hQ _ _ (kok h3a _ adr' ac ⟨by rw[ax];exact f3a,r3a,fun p l=>?_⟩ (fun b m o e=>?_) fun p l m=>?_)))
  ·rcases g3a.2 p l with q|q
   ·rw[(g3a.1 p q).2];exact i2a.2.2 p q
   ·intro z;obtain ⟨o,e,_⟩:=i2a.1.nt;rw[z] at q;rw[show (To s h2a t2a).heap.get? c.L=some o from e] at q;cases q
  ·obtain ⟨sl,e'⟩:=fs2 b m o e
   obtain ⟨sl',e''⟩:=of3.2 b _ e' (.tail _ m)
   exact ⟨sl',e''⟩
  ·rcases g3a.2 p l with q|q
   ·exact rn p q (by rw[← (g3a.1 p q).2];exact m)
   ·obtain ⟨o,e⟩:=outF_some o2a (by rw[efs];exact .tail _ m:adr' p∈fas (env::c.outer))
    rw[show (To s h2a t2a).heap.get? (adr' p)=some o from e] at q;cases q
 ·rw[efs] at of3
  have fs3:FS (fas c.outer) c.h0 h3a:=fun b m o e=>by
   obtain ⟨sl,e'⟩:=fs2 b m o e
   obtain ⟨sl',e''⟩:=of3.2 b _ e' (.tail _ m)
   exact ⟨sl',e''⟩
  have gk:∀ h,c.B.StaysIn h→GK c.K c.mg c.mb h:=fun h st=>ok.G.ext st
  refine catch_own (s:=To s h3a t3a) hfr hf fly ok.CK (fun h st=>(gk h st).k) (fun h4a st u Q E q=>?_) fun h4a st u=>?_
  ·exact Calls.Name_function_global fr.ge.kind (by rw[fr.k];kernel_rfl) (Calls.loadGlobal_global (env:=env) (mg:=c.mg) (fr.ge.g▸(gk h4a st).g) ok.CK.gl q) (by decide +kernel)
  ·refine xc (wpAny_Return_some (wpAny_Constant_none ?_))
   exact hQ _ _ (kerr h4a _ ac ⟨fun b o e n=>st b o (ok.hbo b o e n),fun b o e m=>UpToSlots_fs fs3 u dF b m o e⟩)
end
theorem extend_tuple (l:Addr) (items:Array Value) (n:Nat) (b:Addr) (items2:Array Value) (n2:Nat) (dd:Option Addr) (sl:Array (Option Value)) (hz:items.size+items2.size≤1000) :
  Meets (Builtin.«list.extend» ⟨[.ref l,.ref b],[]⟩) (fun zz R s=>s.heap.get? l=some { cls:=.type "list",dict:=none,data:=.seq items n,slots:=#[] }∧s.heap.get? b=some { cls:=.type "tuple",dict:=dd,data:=.seq items2 n2,slots:=sl }∧R (.ok (.ret Value.none)) { s with heap:=s.heap.update l (Obj.mapSeq fun x=>x++items2),toks:=s.toks }) :=
 .of_wp fun prog w A R s h=>by
  obtain ⟨hp,g,d,tk,os⟩:=s
  obtain ⟨hl,hb,h⟩:=h
  have f1:=AutoSeq1.idx_int
  have f2:=AutoSeq1.sub_tuple_tuple
  have f3:=AutoSeq1.sub_list_list
  have f4:=AutoSeq1.sub_tuple_list
  have f5:=AutoSeq1.sub_list_tuple
  have s0:items.size≤sizeLine:=by rw[sizeLine_eq];lia
  have s1:items.size+items2.size≤sizeLine:=by rw[sizeLine_eq];lia
  have s2:¬(!items.isEmpty && Builtin.List.listTooLong (items.size+items2.size))=true:=by
   unfold Builtin.List.listTooLong;simp;lia
  have hz':(items++items2).size≤sizeLine+1:=by rw[Array.size_append];lia
  wp_walk using (wpAny_updateSeq hl rfl (hz:=s0) (_hz':=hz')),AutoSeq1.wpAny_loadPart' hl,AutoSeq1.wpAny_loadPart' hb
  exact ⟨_,rfl,h⟩
noncomputable def LI (prog:Program) (w:World) (c:Lx) (ρ:List (Str×VD)) (adr:Pl→Addr) (σ:Srt) (D:Addr) (out:List Int) (X:List Addr) (h:Heap):Prop:=LF prog w c ρ adr σ X h∧IntL h D out∧D≠c.L∧(∀ p,Lv σ p→adr p≠D)∧c.B.get? D=none
noncomputable abbrev LS (prog:Program) (w:World) (c:Lx) (ρ:List (Str×VD)) (adr:Pl→Addr) (σ:Srt) (D:Addr) (out:List Int) (X:List Addr) (h:Heap):Prop:=LI prog w c ρ adr σ D out X h∧D∉X
section
variable {c:Lx} {M:List Addr} {n:Nat} {adr adr':Pl→Addr} {σ σ':Srt} {D:Addr} {out:List Int} {hand:Int}
theorem upLI:Up (LI prog w c ρ adr σ D out):=fun X X' h h' k q=>by
 rintro ⟨i,a,r⟩
 exact ⟨upR _ _ _ _ k q i,a.keep fun o e=>k _ _ e,r⟩
theorem upLS:Up (LS prog w c ρ adr σ D out):=fun X X' h h' k q=>by
 rintro ⟨i,n⟩
 exact ⟨upLI _ _ _ _ k q i,fun m=>(q _ m).elim n fun z=>by obtain ⟨o,e,_⟩:=i.2.1.nt;rw[z] at e;cases e⟩
theorem LI.flat (i:LI prog w c ρ adr σ D out X h) (fl:FlatL ρ):LS prog w c ρ adr σ D out [c.L] h:=⟨⟨⟨i.1.1.flat fl,i.1.2⟩,i.2⟩,fun m=>i.2.2.1 (m_s m)⟩
theorem LI.to (i:LI prog w c ρ adr σ D out X h) (fl:FlatL ρ):LI prog w c ρ adr σ D out X' h:=⟨⟨i.1.1.flat fl,i.1.2⟩,i.2⟩
theorem LI.bd (i:LI prog w c ρ adr σ D out X h):Bd [c.L] h:=fun b m=>by rw[m_s m];obtain ⟨o,e,_⟩:=i.1.1.nt;exact ⟨o,e⟩
theorem LI.aft (ok:LxOk prog w c) (i:LI prog w c ρ adr σ D out X h) (fl:FlatL ρ) (lv:∀ p,Lv σ' p→Lv σ p) (a:Aft prog w c.CN c.CS c.B adr σ (To s h t) σ' adr (To s h' n)):LI prog w c ρ adr σ' D out X' h':=by
 have i':=LF.aft (X':=X') ok i.1 fl a
 obtain ⟨h2a,tk,e,r,o,g⟩:=a
 have:h'=h2a:=congrArg Shared.heap e
 subst this
 exact ⟨i',i.2.1.keep fun ob eb=>o D ob eb i.2.2.2.1,i.2.2.1,fun p l=>i.2.2.2.1 p (lv p l),i.2.2.2.2⟩
theorem LI.turn {l:List Int} (ok:LxOk prog w c) (i:LI prog w c ρ adr σ D out X h) (fl:FlatL ρ) (o:Off [D] h h') (a:IntL h' D l):LI prog w c ρ adr σ D l X' h':=by
 have nD:∀ b∈[D],c.B.get? b=none∧b≠c.L∧NT h b:=fun b m=>by rw[m_s m];exact ⟨i.2.2.2.2,i.2.2.1,i.2.1.nt⟩
 exact ⟨⟨i.1.1.turn ok.G fl o nD,i.1.2.1.off o fun p l m=>i.2.2.2.1 p l (m_s m),i.1.2.2⟩,a,i.2.2⟩
theorem LI.sub (i:LI prog w c ρ adr σ D out X h) (s:Sub ρ ρ'):LI prog w c ρ' adr σ D out X h:=⟨⟨i.1.1.sub s,i.1.2⟩,i.2⟩
theorem st_li {x:Str} {V:VD} {Q:Unit→Shared→Prop} (ok:LxOk prog w c) (fr:Fr A0 (topS 20) n0a hx c.L env) (hk:(fScope (topS 20)).names.lookup x=some .local) (i:LI prog w c ρ adr σ D out [c.L] h) (hv:V.at [c.L] h v)
  (k:∀ h' t',Off [c.L] h h'→LI prog w c ((x,V)::ρ) adr σ D out [c.L] h'→Q () (To s h' t')):NR prog w A (storeName env x v) Q (To s h t) :=
 st2 (x:=x) (s:=To s h t) (D:=V) rest_rs i.1 hv i.bd fr.le (by rw[fr.k];exact hk) ok.G (ok.Bn _ (.head _)) (.head _) fun h' t' o b i'=>k h' t' o ⟨i',i.2.1.keep fun ob eb=>o D ob (fun m=>i.2.2.1 (m_s m)) eb,i.2.2⟩
theorem LI.lv (fr:Fr A0 (topS 20) n0a hx c.L env) {p:Pos} (hk:(fScope (topS 20)).names.lookup y=some .local) (hl:ρ.lookup y=some (.val u)) (hd:(y == ("__debug__":Str))=false):EvR prog w A env (LS prog w c ρ adr σ D out) (.Name y p) (fun zz zz v=>v=u):=fun s E X a b=>(fr.lv y hk hl hd:EvR prog w A env (LF prog w c ρ adr σ) _ _) s E X a b.1.1
theorem LI.ld (fr:Fr A0 (topS 20) n0a hx c.L env) {p:Pos} (hk:(fScope (topS 20)).names.lookup y=some .local) (hl:ρ.lookup y=some (.dat d)) (hd:(y == ("__debug__":Str))=false):Ev prog w A env (LS prog w c ρ adr σ D out) (.Name y p) d:=fun s E X a b=>(fr.ld y hk hl hd:Ev prog w A env (LF prog w c ρ adr σ) _ _) s E X a b.1.1
theorem any_eqv (l:List Int) (i:Int):((l.map PyData.int).any fun y=>PyData.eqv y (.int i))=decide (i∈l):=by
 induction l with
 | nil=>rfl
 | cons a l ih =>
  rw[List.map_cons,List.any_cons,ih]
  have:PyData.eqv (.int a) (.int i)=(a == i):=rfl
  rw[this]
  by_cases q:a=i
  ·subst q;simp
  ·have:¬ i=a:=fun z=>q z.symm
   simp[q,this]
theorem shaped_ints:∀ l:List Int,shaped (.list (l.map .int))=true
 | []=>rfl
 | a::l=>shaped_ints l
theorem tr_out {p1 p2 p3:Pos} {m:Nat} (fr:Fr A0 (topS 20) n0a hx c.L env) (hA:OKA A m) (h1:ρ.lookup ("hand":Str)=some (.dat (.int hand))) (h2:ρ.lookup ("out":Str)=some (.val (.ref D))) (hm:behindInMarks .NotIn (.Name ("out":Str) p2)=false:=by with_unfolding_all rfl) :
  Tr prog w A env (LS prog w c ρ adr σ D out) (.Compare (.Name "hand" p1) [.NotIn] [.Name "out" p2] p3) (!decide (hand∈out)) :=
 tr_cmp (hm:=hm) upLS (LI.ld fr (by kernel_rfl) h1 (by decide +kernel)) (b:=.list (out.map .int)) (fun s E X a b=>wpAny_mono (LI.lv fr (by kernel_rfl) h2 (by decide +kernel) s E X a b) (fun v s'=>by
  rintro ⟨k,e⟩
  exact ⟨k,by
   rw[e]
   obtain ⟨vs,l,r⟩:=(upLS.ext (kp_ext k) b).1.2.1
   exact .list b.2 l.isList (.ofInts r)⟩) fun zz zz x=>x) fun s X u v zz a b=>by
  have:=op_notIn (prog:=prog) (w:=w) (A:=A) hA (a:=.int hand) rfl (shaped_ints out) a b
  rwa [any_eqv] at this
end
noncomputable def isI (i:Int):Value→Bool
 | .int j _=>j == i
 | _=>false
theorem ints_erase {l:List Int} {i:Nat} (a:IntsAre vs l):IntsAre (vs.eraseIdx i) (l.eraseIdx i):=by
 induction a generalizing i with
 | nil=>cases i <;> exact .nil
 | cons a t r ih=>cases i with
  | zero=>exact r
  | succ i=>exact .cons a t ih
theorem ints_at {l:List Int} (a:IntsAre vs l) (e:vs[j]?=some v):∃ i t,v=.int i t∧l[j]?=some i:=by
 induction a generalizing j with
 | nil=>cases e
 | cons a t r ih=>cases j with
  | zero=>cases e;exact ⟨a,t,rfl,rfl⟩
  | succ j=>exact ih e
section
variable {c:Lx} {M:List Addr} {n:Nat} {adr adr':Pl→Addr} {σ σ':Srt} {D:Addr} {out:List Int} {hand:Int}
theorem op_remove {p1 p2 p3 p4 p5:Pos} {Q:FSP} (ok:LxOk prog w c) (fr:Fr A0 (topS 20) n0a hx c.L env) (hline:(p2.endLine == p4.line)=true) (fl:FlatL ρ) (i:LI prog w c ρ adr σ D out [c.L] h) (h1:ρ.lookup ("hand":Str)=some (.dat (.int hand))) (h2:ρ.lookup ("out":Str)=some (.val (.ref D))) (hm:hand∈out) (hz:out.length≤100)
  (k:∀ h' t',Off [D] h h'→LI prog w c ρ adr σ D (out.erase hand) [c.L] h'→Q .next (To s h' t')) :
  NR prog w A (exec (.Expr (.Call (.Attribute (.Name "out" p1) "remove" p2) [.Name "hand" p3] [] p4) p5) env) Q (To s h t):=by
 have i':=i.flat fl
 obtain ⟨vs,l,r⟩:=i.2.1
 have hl:=ints_len r
 have hlt:out.idxOf hand<vs.size:=by have:=List.idxOf_lt_length_of_mem hm;have:vs.size=out.length:=(by simpa using hl);lia
 have itm:∀ (m:Nat) (hm:m<vs.size),∃ t,vs[m]=.int (out[m]?.getD 0) t∧∃ a,out[m]?=some a:=fun m hm=>by
  obtain ⟨a,t,e,q⟩:=ints_at (j:=m) (v:=vs[m]) r (by rw[Array.getElem?_toList,Array.getElem?_eq_getElem hm])
  exact ⟨t,by rw[e,q];rfl,a,q⟩
 refine wpAny_Expr_any (hi:=fr.ge.inter) (list1_wp (s:=To s h t) (I:=fun X h=>LS prog w c ρ adr σ D out X h∧Lst h D vs) (P:=IsI hand) (r:=.none) (f:=fun xs=>xs.eraseIdxIfInBounds (out.idxOf hand)) (up_and upLS fun X X' a b k zz x=>x.ext k) i.bd ⟨i',l⟩ (fun s E X a b=>LI.lv fr (by kernel_rfl) h2 (by decide +kernel) s E X a b.1) (fun s E X a b=>(LI.ld fr (by kernel_rfl) h1 (by decide +kernel):Ev prog w A env (LS prog w c ρ adr σ D out) _ _).int s E X a b.1) PySem.F.slot_list_remove PySem.F.entry_list_remove PySem.F.type_list_remove (fun v=>PySem.F.args_list_remove_2 _ _) (fun X h i=>i.2) (fun zz zz=>True) (fun zz zz zz zz zz=>trivial)
  (fun nn v hv=>(MeetsSeq.list_remove D vs nn v (isI hand) (fun y my=>?_) (out.idxOf hand) hlt ?_ (fun m hm' lt=>?_) (by rw[sizeLine_eq];have:vs.size=out.length:=(by simpa using hl);lia)).of_imp fun A R s q=>⟨q.1,q.2.2⟩) (fun h1a h2a t2a e1a o2a l2a=>?_) hline)
 ·obtain ⟨t',rfl⟩:=hv
  obtain ⟨m,hm',e⟩:=Array.mem_iff_getElem.mp my
  obtain ⟨tt,e',a,q⟩:=itm m hm'
  rw[← e,e']
  exact MeetsSeq.EqGives.int _ _ _ _
 ·obtain ⟨tt,e',a,q⟩:=itm _ hlt
  rw[e']
  have:out[out.idxOf hand]?=some hand:=by rw[List.getElem?_eq_getElem (List.idxOf_lt_length_of_mem hm)];simp
  rw[this];show (hand == hand)=true;simp
 ·obtain ⟨tt,e',a,q⟩:=itm m hm'
  rw[e',q]
  show (a == hand)=false
  have:a≠hand:=fun z=>by
   subst z
   have:=List.getElem?_eq_some_iff.mp q
   obtain ⟨lt',ee⟩:=this
   have:=List.not_of_lt_findIdx (p:=(· == a)) (xs:=out) lt
   simp[ee] at this
  simpa using this
 ·have i1a:=(upLS.ext e1a i').1
  refine k h2a t2a ((Ext.off e1a).trans o2a) (i1a.turn ok fl o2a ⟨_,l2a,?_⟩)
  unfold Array.eraseIdxIfInBounds
  rw[dif_pos hlt,Array.toList_eraseIdx,List.erase_eq_eraseIdx_of_idxOf rfl]
  exact ints_erase r
theorem op_done {p1 p2 p3 p4 p5:Pos} {Q:FSP} {pl:Sem Bool} {l:List Int} (ok:LxOk prog w c) (fr:Fr A0 (topS 20) n0a hx c.L env) (hA:OKA A (n+2)) (he:MCall env (.Name "sorter" p1) "done" p2 p4 [.Name "hand" p3] pl) (fl:FlatL ρ) (i:LI prog w c ρ adr σ D out [c.L] h)
  (h1:ρ.lookup ("hand":Str)=some (.dat (.int hand))) (h2:ρ.lookup ("sorter":Str)=some (.val (.ref (adr .x)))) (hrd:σ.rd=some l) (hz:l.length≤1000) (hi:hand∈σ.ns) (hnp:σ.np hand=-1) (hin:∀ j∈σ.su hand,j∈σ.ns) (hsz:(σ.su hand).length≤1000) (lv:∀ p,Lv (doneS σ hand) p→Lv σ p)
  (k:∀ h' t',Off (ownL adr σ) h h'→LI prog w c ρ adr (doneS σ hand) D out [c.L] h'→Q .next (To s h' t')) :
  NR prog w A (exec (.Expr (.Call (.Attribute (.Name "sorter" p1) "done" p2) [.Name "hand" p3] [] p4) p5) env) Q (To s h t):=by
 obtain ⟨fa,MK⟩:=ok.SK.done
 have i':=i.flat fl
 refine wpAny_Expr_any (hi:=fr.ge.inter) (meth_wp (s:=To s h t) ok.SK MK upLS i.bd i' (LI.lv fr (by kernel_rfl) h2 (by decide +kernel)) (fun X h i=>i.1.1.1.1.k) (fun X h i=>i.1.1.2.1) (he:=he) fun s2a k2a i2a=>?_)
 obtain ⟨h2a,t2a,rfl,e2a⟩:=k2a
 have e2a:Ext h h2a:=e2a
 refine with1s (I:=LS prog w c ρ adr σ D out) (X:=[c.L]) ?_ ?_
 ·exact keeper_K (fun X h i=>i.1.1.1.1) MK.keep
 refine evF (s:=s) (LI.ld fr (by kernel_rfl) h1 (by decide +kernel)) (i2a.1.bd) i2a fun v h3a t3a e3a a=>?_
 have i3a:=upLS.ext e3a i2a
 refine ⟨i3a,?_⟩
 obtain ⟨u,rfl⟩:=a.int_inv
 have i3a:LS prog w c ρ adr σ D out [c.L] h3a:=i3a
 have e3a:Ext h2a h3a:=e3a
 refine call_out (sort_done (n:=n) (s:=To s h3a t3a) MK.fn ok.NK ok.SK hA ok.G i3a.1.1.1.2.1 ok.N i3a.1.1.2.1 hrd hz hi hnp hin hsz _) fun v s4a q=>?_
 obtain ⟨rfl,af⟩:=q
 obtain ⟨h4a,t4a,rfl,o4a⟩:=af.off
 exact k h4a t4a ((Ext.off (Ext.trans e2a e3a)).trans o4a) (i3a.1.aft ok fl lv af)
theorem wp_ready {p1 p2 p4:Pos} {Q:VSP} {pl:Sem Bool} {l:List Int} (ok:LxOk prog w c) (fr:Fr A0 (topS 20) n0a hx c.L env) (hA:OKA A (n+2)) (he:MCall env (.Name "sorter" p1) "get_ready" p2 p4 [] pl) (fl:FlatL ρ) (i:LF prog w c ρ adr σ [c.L] h)
  (h2:ρ.lookup ("sorter":Str)=some (.val (.ref (adr .x)))) (hrd:σ.rd=some l) (hz:l.length≤1000) (hin:∀ j∈l,j∈σ.ns)
  (k:∀ h1a t1a h' t' v,Ext h h1a→Aft prog w c.CN c.CS c.B adr σ (To s h1a t1a) (rdyS σ l) adr (To s h' t')→At [] h' v (.tuple (l.map .int))→Q v (To s h' t')) :
  wpAny (model prog w) A (eval (.Call (.Attribute (.Name "sorter" p1) "get_ready" p2) [] [] p4) env) Q E (To s h t):=by
 obtain ⟨fa,MK⟩:=ok.SK.ready
 refine meth_wp (s:=To s h t) ok.SK MK upR (bdL i) i (fr.lv "sorter" (by kernel_rfl) h2 (by decide +kernel)) kin2 rep2 (he:=he) fun s2a k2a i2a=>with0 (keeper_K gk2 MK.keep) i2a ?_
 obtain ⟨h2a,t2a,rfl,e2a⟩:=k2a
 have e2a:Ext h h2a:=e2a
 have i2a:LF prog w c ρ adr σ [c.L] h2a:=i2a
 refine wpAny_mono (sort_ready (n:=n) (s:=To s h2a t2a) MK.fn ok.NK ok.SK hA ok.G i2a.1.2.1 ok.N i2a.2.1 hrd hz hin _) (fun v s4a q=>?_) fun zz zz x=>x
 obtain ⟨a,af⟩:=q
 obtain ⟨h4a,t4a,rfl,o4a⟩:=af.off
 exact k h2a t2a h4a t4a v e2a af a
theorem ll_out {p1 p2 p4 q1 q2 q3 q4:Pos} {Q:FSP} {pl:Sem Bool} {l:List Int} (ok:LxOk prog w c) (fr:Fr A0 (topS 20) n0a hx c.L env) (hA:OKA A (n+2)) (he:MCall env (.Name "sorter" p1) "get_ready" p2 p4 [] pl) (i:LF prog w c (lr1 c (adr .x)) adr σ [c.L] h) (hrd:σ.rd=some l) (hz:l.length≤100) (hin:∀ j∈l,j∈σ.ns)
  (lv:∀ p,Lv (rdyS σ l) p→Lv σ p)
  (k:∀ h' t' D,Off (c.L::ownL adr σ) h h'→h.get? D=none→LI prog w c (("out",.val (.ref D))::lr1 c (adr .x)) adr (rdyS σ l) D l [c.L] h'→Q .next (To s h' t')) :
  NR prog w A (exec (.Assign [.Name "out" q1] (.Call (.Name "list" q2) [.Call (.Attribute (.Name "sorter" p1) "get_ready" p2) [] [] p4] [] q3) q4) env) Q (To s h t):=by
 have fl1:FlatL (lr1 c (adr .x)):=⟨trivial,trivial,trivial,trivial⟩
 refine wpAny_Assign_Name (hs:=by rfl) (wpAny_Call_ofName (evF (fr.bl "list" (by kernel_rfl) ok.li ok.lib (by decide +kernel)) (bdL i) i fun v h1a t1a e1a ev=>?_))
 subst ev
 have i1a:=upR.ext e1a i
 show wpAny _ _ (callWith q3 (.type "list") [] (backTo q3 (starEach [_] env)) []) _ _ _
 refine with1s (X:=[c.L]) (I:=fun zz zz=>True) (first:=[]) ?_ ?_
 ·exact keeper_type
 refine wp_ready ok fr hA he fl1 i1a (by rfl) hrd (by lia) hin fun h2a t2a h3a t3a v e2a af a=>⟨trivial,?_⟩
 have i3a:LF prog w c (lr1 c (adr .x)) adr (rdyS σ l) [c.L] h3a:=LF.aft ok (upR.ext e2a i1a) fl1 af
 have o3a:=af.off
 obtain ⟨h3',t3',e3,o3a⟩:=o3a
 have:h3a=h3':=congrArg Shared.heap e3
 subst this
 obtain ⟨a',its,rfl,⟨ob,ho,hc,nn,hd⟩,r⟩:=a.tuple_inv
 have hsz:its.size=l.length:=by have:=r.length;simpa using this
 refine call_list_seq (s:=To s h3a t3a) a' (.inr rfl) ho hc hd (fun h4a cc ke hg=>?_) (by rw[sizeLine_eq];lia)
 have ke:Ext h3a h4a:=ke
 have nD:h3a.get? h3a.objs.size=none:=size_none h3a
 have i4a:=upR.ext ke i3a
 have DL:h3a.objs.size≠c.L:=fun q=>by obtain ⟨o,e,_⟩:=i3a.1.nt;rw[← q,nD] at e;cases e
 have li:LI prog w c (lr1 c (adr .x)) adr (rdyS σ l) h3a.objs.size l [c.L] h4a:=⟨i4a,⟨its,⟨_,hg⟩,ints_of r⟩,DL,(fun p lp z=>by obtain ⟨o,e,_⟩:=i3a.2.1.there lp;rw[z,nD] at e;cases e),none_before i3a.1.2.1 nD⟩
 have nDh:h.get? h3a.objs.size=none:=by
  cases q:h.get? h3a.objs.size with
  | none=>rfl
  | some o =>
   by_cases m:h3a.objs.size∈ownL adr σ
   ·obtain ⟨p,lp,z⟩:=mem_ownL.mp m
    obtain ⟨ob,eb,_⟩:=i3a.2.1.there (p:=p) (by cases p <;> first|exact lp|(show (rdyS σ l).rd.isSome=true;rfl))
    rw[z,nD] at eb;cases eb
   ·have:=o3a _ o m (e2a _ _ (e1a _ _ q))
    rw[nD] at this;cases this
 exact st_li (V:=.val (.ref h3a.objs.size)) ok fr (by kernel_rfl) li rfl fun h5 t5 o5a i5a=>k h5 t5 _ ((Ext.off (Ext.trans e1a e2a)).trans ((o3a.mono fun q m=>.tail _ m).trans ((Ext.off ke).trans (o5a.mono fun q m=>by rw[m_s m];exact .head _)))) nDh i5a
end
section
variable {c:Lx} {M Wr:List Addr} {g:Heap} {n:Nat} {adr adr':Pl→Addr} {σ σ':Srt} {D:Addr} {out:List Int} {hand:Int}
theorem op_ext {p1 p2 p4 q1 q2 q3 q4:Pos} {Q:FSP} {pl:Sem Bool} {l:List Int} (ok:LxOk prog w c) (fr:Fr A0 (topS 20) n0a hx c.L env) (hA:OKA A (n+2)) (he:MCall env (.Name "sorter" p1) "get_ready" p2 p4 [] pl) (hline:(q2.endLine == q3.line)=true) (fl:FlatL ρ) (i:LI prog w c ρ adr σ D out [c.L] h)
  (h1:ρ.lookup ("out":Str)=some (.val (.ref D))) (h2:ρ.lookup ("sorter":Str)=some (.val (.ref (adr .x)))) (hrd:σ.rd=some l) (hz:l.length≤100) (hz':out.length≤100) (hin:∀ j∈l,j∈σ.ns) (lv:∀ p,Lv (rdyS σ l) p→Lv σ p)
  (k:∀ h' t',Off (D::ownL adr σ) h h'→LI prog w c ρ adr (rdyS σ l) D (out++l) [c.L] h'→Q .next (To s h' t')) :
  NR prog w A (exec (.Expr (.Call (.Attribute (.Name "out" q1) "extend" q2) [.Call (.Attribute (.Name "sorter" p1) "get_ready" p2) [] [] p4] [] q3) q4) env) Q (To s h t):=by
 refine wpAny_Expr_any (hi:=fr.ge.inter) (wpAny_Call_method1_late rfl hline rfl (evF (LI.lv fr (by kernel_rfl) h1 (by decide +kernel)) i.bd (i.flat fl) fun v h1a t1a e1a ev=>?_))
 subst ev
 have i1a:=upLS.ext e1a (i.flat fl)
 obtain ⟨vs,⟨nn,ob⟩,r⟩:=i1a.1.2.1
 refine ⟨"list","list.extend",PySem.F.plainAttrs_list,PySem.F.slot_list_extend,PySem.F.type_list_extend,⟨_,ob,rfl⟩,fun a ea=>by cases ea;exact ⟨_,ob,rfl⟩,?_⟩
 refine method1_meetsIn PySem.F.slot_list_extend PySem.F.entry_list_extend (wp_ready ok fr hA he fl i1a.1.1 h2 hrd (by lia) hin fun h2a t2a h3a t3a v e2a af a=>?_)
 have i2a:=upLS.ext e2a i1a
 have i3a:LI prog w c ρ adr (rdyS σ l) D out [c.L] h3a:=i2a.1.aft ok fl lv af
 obtain ⟨h3',t3',e3,o3a⟩:=af.off
 have:h3a=h3':=congrArg Shared.heap e3
 subst this
 have o3a:Off (ownL adr σ) h2a h3a:=o3a
 have nD:D∉ownL adr σ:=fun m=>by obtain ⟨p,lp,z⟩:=mem_ownL.mp m;exact i.2.2.2.1 p lp z
 have ob3:h3a.get? D=_:=o3a _ _ nD (e2a _ _ ob)
 obtain ⟨a',its,rfl,⟨⟨oc,od,odt,osl⟩,ho,hc,n2,hd⟩,ra⟩:=a.tuple_inv
 simp only at hc hd
 subst hc hd
 have hsz:its.size=l.length:=by have:=ra.length;simpa using this
 have hvl:vs.size=out.length:=by have:=ints_len r;simpa using this
 refine ⟨⟨_,ob3,rfl⟩,PySem.F.args_list_extend_2 _ _,_,(extend_tuple D vs nn a' its n2 od osl (by lia)).inModel prog w,ob3,ho,?_⟩
 have o4a:Off [D] h3a (h3a.update D (Obj.mapSeq fun x=>x++its)):=off_update _ _ _
 have l4a:=upd_lst (h:=h3a) (fun x=>x++its) ob3
 exact k _ _ ((Ext.off (Ext.trans e1a e2a)).trans ((o3a.mono fun q m=>.tail _ m).trans (o4a.mono fun q m=>by rw[m_s m];exact .head _))) (i3a.turn ok fl o4a ⟨_,l4a,by rw[Array.toList_append];exact ints_app r (ints_of ra)⟩)
theorem LI.offW (ok:LxOk prog w c) (i:LI prog w c ρ adr σ D out X h) (fl:FlatL ρ) (o:Off Wr h h') (hW:∀ b∈Wr,g.get? b=none∧∀ o,h.get? b=some o→¬ TupObj o) (gL:∃ o,g.get? c.L=some o) (gD:∃ o,g.get? D=some o) (gp:∀ p,Lv σ p→∃ o,g.get? (adr p)=some o) (eg:Ext c.B g):LI prog w c ρ adr σ D out X' h':=by
 have no:∀ {b:Addr},(∃ o,g.get? b=some o)→b∉Wr:=by
  rintro b ⟨o,e⟩ m
  rw[(hW _ m).1] at e;cases e
 refine ⟨⟨((i.1.1.flat fl:Fs c.K c.mg c.mb c.B c.L ρ (Wr++X) h).off ok.G o fun b m=>⟨none_before eg (hW b m).1,m_l _ m,fun e=>no gL (e▸m),(hW b m).2⟩).flat fl,i.1.2.1.off o fun p l=>no (gp p l),i.1.2.2⟩,i.2.1.keep fun ob e=>o _ _ (no gD) e,i.2.2⟩
theorem LInv.lv {ws:List (Int×Int)} {σ σ':Srt} {dn dn' out out':List Int} (I:LInv ws σ dn out) (I':LInv ws σ' dn' out') (p:Pl):Lv σ' p↔Lv σ p:=by
 cases p with
 | x|dx|D=>exact Iff.rfl
 | rl=>show _=true↔_=true;rw[I.rd,I'.rd]
 | nd n j=>show _∧_↔_∧_;rw[I.ns,I'.ns]
theorem LInv.len {ws:List (Int×Int)} {σ:Srt} {dn out:List Int} (I:LInv ws σ dn out):out.length≤3:=nodup_len (ns:=NS3) I.nd fun x m=>(I.od x m).1
noncomputable def ro (c:Lx) (x D:Addr):List (Str×VD):=("out",.val (.ref D))::lr1 c x
noncomputable def JL (prog:Program) (w:World) (c:Lx) (ρ:List (Str×VD)) (adr:Pl→Addr) (σ:Srt) (D:Addr) (out:List Int) (X:List Addr) (h:Heap):Prop:=LI prog w c ρ adr σ D out X h∧∀ x∈X,c.B.get? x=none
theorem upJL:Up (JL prog w c ρ adr σ D out):=fun X X' h h' k q=>by
 rintro ⟨i,n⟩
 exact ⟨upLI _ _ _ _ k q i,fun x m=>(q x m).elim (n x) fun z=>none_before i.1.1.2.1 z⟩
theorem ll_loop {p1 p2 p3 q1 q2 q3 q4 q5 r1 r2 r3 r4 r5 a1 a2 a3 a4 a5 b1 b2 b3 c1 c2 c3 c4 c5:Pos} {Q:FSP} {pl pl':Sem Bool} {σ0:Srt} {out0 dn0:List Int} (ok:LxOk prog w c) (fr:Fr A0 (topS 20) n0a hx c.L env) (hA:OKA A (n+2)) (hl1:(r2.endLine == r4.line)=true) (hl2:(c2.endLine == c3.line)=true)
  (he:MCall env (.Name "sorter" a1) "done" a2 a4 [.Name "hand" a3] pl) (he':MCall env (.Name "sorter" b1) "get_ready" b2 b3 [] pl')
  (I0:LInv c.ws σ0 dn0 out0) (i:LI prog w c (ro c (adr .x) D) adr σ0 D out0 [c.L] h)
  (kd:∀ h' t' σ' out',Off (c.L::D::ownL adr σ0) h h'→LF prog w c (lr1 c (adr .x)) adr σ' [c.L] h'→σ'.rd=some []→letsB σ' out' []=letsB σ0 out0 c.od→Q .next (To s h' t'))
  (kf:∀ h' t',Off (c.L::D::ownL adr σ0) h h'→letsB σ0 out0 c.od=false→Q (.ret (.bool false)) (To s h' t')) :
  NR prog w A (exec (.For (.Name "hand" p1) (.Name "order" p2) [.If (.Compare (.Name "hand" q1) [.NotIn] [.Name "out" q2] q3) [.Return (some (.Constant (.bool false) kk q4)) q5] [] p3,
   .Expr (.Call (.Attribute (.Name "out" r1) "remove" r2) [.Name "hand" r3] [] r4) r5,.Expr (.Call (.Attribute (.Name "sorter" a1) "done" a2) [.Name "hand" a3] [] a4) a5,
   .Expr (.Call (.Attribute (.Name "out" c1) "extend" c2) [.Call (.Attribute (.Name "sorter" b1) "get_ready" b2) [] [] b3] [] c3) c4] [] c5) env) Q (To s h t):=by
 refine hideQ fun Q hQ=>?_
 have kd:=fun h' t' σ' out' a b d e=>hQ _ _ (kd h' t' σ' out' a b d e)
 have kf:=fun h' t' a b=>hQ _ _ (kf h' t' a b)
 obtain ⟨res,hres⟩:∃ b,b=letsB σ0 out0 c.od:=⟨_,rfl⟩
 rw[← hres] at kd kf
 have flr:FlatL (ro c (adr .x) D):=⟨trivial,trivial,trivial,trivial,trivial⟩
 have iX:LI prog w c (ro c (adr .x) D) adr σ0 D out0 (c.L::D::ownL adr σ0) h:=i.to flr
 have tX:∀ {σ' out' X h'},(∀ p,Lv σ' p↔Lv σ0 p)→LI prog w c (ro c (adr .x) D) adr σ' D out' X h'→∀ b∈c.L::D::ownL adr σ0,NT h' b:=fun {σ' out' X h'} lv i b m=>by
  rcases mC m with rfl|m
  ·exact i.1.1.nt
  rcases mC m with rfl|m
  ·exact i.2.1.nt
  ·obtain ⟨p,l,rfl⟩:=mem_ownL.mp m;exact i.1.2.1.there ((lv p).mpr l)
 have bX:Bd (c.L::D::ownL adr σ0) h:=fun b m=>by obtain ⟨o,e,_⟩:=tX (σ':=σ0) (fun zz=>Iff.rfl) i b m;exact ⟨o,e⟩
 have nX:∀ x∈c.L::D::ownL adr σ0,c.B.get? x=none:=fun x m=>by
  rcases mC m with rfl|m
  ·exact ok.Bn _ (.head _)
  rcases mC m with rfl|m
  ·exact i.2.2.2.2
  ·obtain ⟨p,l,rfl⟩:=mem_ownL.mp m;exact i.1.2.1.new p l
 have ord:Ev prog w A env (JL prog w c (ro c (adr .x) D) adr σ0 D out0) (.Name "order" p2) (.tuple (c.od.map .int)):=fun s E X hX hI =>
  wpAny_mono ((fr.lv "order" (by kernel_rfl) (by rfl) (by kernel_rfl):EvR prog w A env (LF prog w c (ro c (adr .x) D) adr σ0) (.Name "order" p2) (fun zz zz v=>v=c.O)) s E X hX hI.1.1) (fun v s'=>by
   rintro ⟨k,e⟩
   exact ⟨k,by
   rw[e]
   have j:=upJL.ext (kp_ext k) hI
   exact (ok.o.hid fun x m=>.inr (j.2 x m)).ext j.1.1.1.2.1⟩) fun zz zz x=>x
 refine for_loop (s:=To s h t) (X:=c.L::D::ownL adr σ0) (M:=c.L::D::ownL adr σ0) (Inv:=fun j X' h'=>∃ σ' dn out',LInv c.ws σ' dn out'∧letsB σ' out' (c.od.drop j)=res∧LI prog w c (ro c (adr .x) D) adr σ' D out' X' h') (src_tupleF PyData.int hA.handled ord) bX ⟨iX,nX⟩ (fun b m=>⟨m,bX b m⟩) (fun h1a X' k q zz=>⟨σ0,dn0,out0,I0,hres.symm,upLI _ _ _ _ k q iX⟩) (fun j X' h1a a b m=>?_) (fun j X' h1a h2a Wr a hW o=>?_) (fun j d v h1a t1a X' hd hv hb hid sub o a=>?_) fun h1a t1a X' hb sub o a=>?_
 ·obtain ⟨σ',dn,out',I,_,i'⟩:=a
  exact tX (fun p=>I0.lv I p) i' b m
 ·obtain ⟨σ',dn,out',I,e,i'⟩:=a
  exact ⟨σ',dn,out',I,e,i'.offW (g:=h) ok flr o (fun b m=>(hW b m).2) (bX _ (.head _)) (bX _ (.tail _ (.head _))) (fun p l=>bX _ (.tail _ (.tail _ (mem_ownL.mpr ⟨p,(I0.lv I p).mp l,rfl⟩)))) i.1.1.2.1⟩
 ·obtain ⟨σ',dn,out',I,e,i'⟩:=a
  obtain ⟨td,rfl⟩:=hv.int_inv
  have drop:c.od.drop j=d::c.od.drop (j+1):=by
   obtain ⟨lt,e⟩:=List.getElem?_eq_some_iff.mp hd
   rw[← e];exact (List.getElem_cons_drop lt).symm
  have flh:FlatL (("hand",VD.dat (.int d))::ro c (adr .x) D):=⟨flat_int _,flr⟩
  have i1a:=i'.to (X':=[c.L]) flr
  have lvs:∀ {σ'' dn' out''},LInv c.ws σ'' dn' out''→∀ b,b∈ownL adr σ''→b∈c.L::D::ownL adr σ0:=fun {σ'' dn' out''} I' b m=>by
   obtain ⟨p,l,z⟩:=mem_ownL.mp m
   exact .tail _ (.tail _ (mem_ownL.mpr ⟨p,(I0.lv I' p).mp l,z⟩))
  refine wpAny_assign_Name (st_li (s:=s) (V:=.dat (.int d)) ok fr (by kernel_rfl) i1a (.int _ _) fun h2a t2a o2a i2a=>?_)
  have o2a:Off (c.L::D::ownL adr σ0) h1a h2a:=o2a.mono fun q m=>by rw[m_s m];exact .head _
  refine xc (ifsF (tr_out fr hA (by rfl) (by rfl)) i2a.bd (i2a.flat flh) fun h3a t3a e3a=>?_)
  have i3a:LI prog w c (("hand",.dat (.int d))::ro c (adr .x) D) adr σ' D out' [c.L] h3a:=(upLS.ext e3a (i2a.flat flh)).1
  have o3a:Off (c.L::D::ownL adr σ0) h1a h3a:=o2a.trans (Ext.off e3a)
  rw[drop] at e
  rw[letsB_c] at e
  by_cases m:d∈out'
  ·rw[if_neg (by simpa using m)]
   rw[if_pos m] at e
   refine wpAny_execs_nil ?_
   obtain ⟨m1,m2,m3,m4⟩:=I.np m
   obtain ⟨z1,z2,z3,I'⟩:=I.done ok.hw m
   have len:=I.len
   have zl:(rdD σ' d).length≤3:=nodup_len (ns:=NS3) z3 z2
   have lvd:∀ p,Lv (doneS σ' d) p→Lv σ' p:=fun p l=>by
    cases p with
    | x|dx|D=>trivial
    | rl=>show σ'.rd.isSome=true;rw[I.rd];rfl
    | nd n j=>exact ⟨by have:=l.1;rw[show (doneS σ' d).ns=σ'.ns from (stepD_ns _ _).1] at this;exact this,l.2⟩
   have lvd':∀ p,Lv (rdyS (doneS σ' d) (rdD σ' d)) p→Lv (doneS σ' d) p:=fun p l=>by
    cases p with
    | x|dx|D=>trivial
    | rl=>show (doneS σ' d).rd.isSome=true;rw[z1];rfl
    | nd n j=>exact l
   refine xc (op_remove ok fr hl1 flh i3a (by rfl) (by rfl) m (by lia) fun h4a t4a o4a i4a=>?_)
   refine xc (op_done (l:=[]) ok fr hA he flh i4a (by rfl) (by rfl) I.rd (by decide) (by rw[I.ns];exact m1) m3 (fun x hx=>by rw[I.su] at hx;rw[I.ns];exact sucs_in ok.hw hx) (by rw[I.su];exact Nat.le_trans sucs_len (by have:=ok.hz;lia)) lvd fun h5 t5 o5a i5a=>?_)
   refine xc (op_ext (l:=rdD σ' d) ok fr hA he' hl2 flh i5a (by rfl) (by rfl) z1 (by lia) (Nat.le_trans (List.length_erase_le) (by lia)) (fun x hx=>by rw[show (doneS σ' d).ns=σ'.ns from (stepD_ns _ _).1,I.ns];exact z2 x hx) lvd' fun h6a t6 o6 i6a=>?_)
   refine wpAny_execs_nil ⟨h6a,t6,rfl,?_,stepL σ' d,d::dn,out'.erase d++rdD σ' d,I',e,(i6a.sub (ρ':=ro c (adr .x) D) ⟨rfl,rfl,rfl,rfl,trivial⟩).to flr⟩
   refine o3a.trans ((o4a.mono fun q m=>by rw[m_s m];exact .tail _ (.head _)).trans ((o5a.mono fun q m=>lvs I q m).trans (o6.mono fun q m=>?_)))
   rcases mC m with rfl|m
   ·exact .tail _ (.head _)
   ·obtain ⟨p,l,z⟩:=mem_ownL.mp m
    exact lvs I q (mem_ownL.mpr ⟨p,lvd p l,z⟩)
  ·rw[if_pos (by simpa using m)]
   rw[if_neg m] at e
   refine xc (wpAny_Return_some (wpAny_Constant_bool ?_))
   exact kf h3a _ (o.trans o3a) e.symm
 ·obtain ⟨σ',dn,out',I,e,i'⟩:=a
  rw[List.drop_length] at e
  exact kd h1a t1a σ' out' o (i'.sub (ρ':=lr1 c (adr .x)) ⟨rfl,rfl,rfl,trivial⟩ |>.to (X':=[c.L]) ⟨trivial,trivial,trivial,trivial⟩).1 I.rd e
end
section
variable {CE:Addr} {B:Heap} {n:Nat} {outer:List Env}
theorem wp_notb {x:Expr} {pos:Pos} {b:Bool} {Q:VSP} (h:wpAny (model prog w) A (eval x env) (fun v s'=>v=.bool b∧Q (.bool (!b)) s') E s):wpAny (model prog w) A (eval (.UnaryOp .Not x pos) env) Q E s:=by
 rw[arm_eval_UnaryOp]
 refine wpAny_bind (wpAny_mono h (fun v s' q=>?_) fun zz zz x=>x)
 obtain ⟨rfl,q⟩:=q
 refine wpAny_bind (wpAny_standAt (wpAny_holding (wpAny_holding ?_)))
 show wpAny _ _ (do return Value.bool (!(← truthy (.bool b)))) _ _ _
 exact wpAny_bind (wpAny_truthy_bool (wpAny_pure q))
noncomputable def Lets (ws:List (Int×Int)) (od:List Int) (v:Value):Prop:=(v=.none∧¬ Acyc (σW ws).su (σW ws).ns)∨(Acyc (σW ws).su (σW ws).ns∧v=.bool (goodB ws [] od))
set_option maxHeartbeats 1000000 in
theorem law_lets {W O:Value} {ws:List (Int×Int)} {od:List Int} (F:FnK K fa "_law_lets" (topS 20) .none .none) (hA:OKA A (n+8)) (hfr:A.frames=some outer) (ho:OutF outer s.heap) (Gb:GK K mg mb B) (Bs:Ext B s.heap) (Bn:∀ b∈fas outer,B.get? b=none)
  (NK:NodeK K CN) (SK:SortK K w CS) (N:SortN mg mb CN) (CK:CycK K mg CE) (kCN:keepIn K (.ref CN)=true) (kCS:keepIn K (.ref CS)=true) (ts:mg "TopologicalSorter"=some (.ref CS)) (li:mg "list"=none) (lib:mb "list"=some (.type "list"))
  (aw:At [] (hideAll s.heap (fas outer)) W (.list (ws.map prD))) (ao:At [] (hideAll s.heap (fas outer)) O (.tuple (od.map .int))) (hw:okW ws) (hz:ws.length≤100) (hod:od∈perms) (E:VSP) :
  wpAny (model prog w) A (call (.ref fa) [W,O]) (fun v s'=>∃ h' t',s'=To s h' t'∧Slt (fas outer) s.heap h'∧Lets ws od v) E s:=by
 refine wpAny_call (fn_goE (n:=n+7) [("waits",W),("order",O)] [("order",.val O),("waits",.val W)] F hA (Gb.ext Bs) (fun doc pm an cdv ct=>.of_eq (by kernel_rfl)) (by decide +kernel) (locs (by kernel_rfl)) (by kernel_rfl) (by kernel_rfl) (by kernel_rfl) (fun X' h' e=>⟨rfl,rfl,rfl,rfl,trivial⟩) fun L env h1a t1a fr ef f0=>wpAny_noRaise ?_)
 refine hideQ fun Q hQ=>?_
 obtain ⟨c,hc⟩:∃ c:Lx,c=⟨K,mg,mb,hideAll s.heap (fas outer),s.heap,outer,CN,CS,CE,L,W,O,ws,od⟩:=⟨_,rfl⟩
 have hodl:od.length=3:=by simp only[perms,List.mem_cons,List.not_mem_nil,or_false] at hod;rcases hod with rfl|rfl|rfl|rfl|rfl|rfl <;> rfl
 have ok:LxOk prog w c:=by
  subst hc
  exact ⟨Gb.ext (ext_hide Bs Bn),fun b o q=>of_hideAll _ q,fun b m=>(m_c m).elim (fun e=>by
   rw[e]
   cases q:(hideAll s.heap (fas outer)).get? L with
   | none=>rfl
   | some o=>have:=of_hideAll _ q;rw[fr.new] at this;cases this) fun m=>hideAll_none _ m,fun b o e n=>hideAll_get _ e n,ho,NK,SK,N,CK,kCN,kCS,ts,li,lib,fr.new,aw,ao,hw,hz,by rw[show od.length=3 from hodl];decide⟩
 have hcL:c.L=L:=by rw[hc]
 have i1a:Fs c.K c.mg c.mb c.B c.L (lr0 c) [c.L] h1a:=by subst hc;exact ⟨f0.1,fun b o q=>f0.2.1 b o (of_hideAll _ q),f0.2.2⟩
 have cF:fas c.outer=fas outer:=by rw[hc]
 have c0:c.h0=s.heap:=by rw[hc]
 have cw:c.ws=ws:=by rw[hc]
 have co:c.od=od:=by rw[hc]
 have cfr:A.frames=some c.outer:=by rw[hc];exact hfr
 have fr':Fr A (topS 20) (n+7) s.heap c.L env:=by rw[hcL];exact fr
 have ef':env.frame=some c.L:=by rw[hcL];exact ef
 have e01:Ext c.h0 h1a:=by rw[c0];exact f0.2.1
 have fin:∀ h' t' v,Slt (fas c.outer) c.h0 h'→Lets c.ws c.od v→Q (.ret v) (To s h' t'):=fun h' t' v x y=>hQ _ _ ⟨h',t',rfl,by rw[← cF,← c0];exact x,by rw[← cw,← co];exact y⟩
 have hodc:c.od∈perms:=by rw[co];exact hod
 clear hc hQ f0 fr ef cw co c0 cF aw ao Gb Bs Bn ho hfr
 have w0:okW []:=fun p m=>by cases m
 obtain ⟨v1,v2,v3,v4,v5,v6⟩:=sW_is ok.hw
 obtain ⟨u1,u2,u3,u4,u5,u6⟩:=sW_is w0
 have fs1:FS (fas c.outer) c.h0 h1a:=fun b m o e=>⟨o.slots,e01 b o e⟩
 have slt:∀ {h'},FS (fas c.outer) c.h0 h'→Ext c.B h'→Slt (fas c.outer) c.h0 h':=fun {h'} f e=>⟨fun b o q n=>e b o (ok.hbo b o q n),fun b o q m=>f b m o q⟩
 have LF':c.L∉fas c.outer:=fun m=>by obtain ⟨o,e⟩:=outF_some ok.o0 m;rw[ok.L0] at e;cases e
 have nF:∀ {h':Heap} {b:Addr},FS (fas c.outer) c.h0 h'→h'.get? b=none→b∉fas c.outer:=fun {h' b} f n m=>by
  obtain ⟨o,e⟩:=outF_some ok.o0 m
  obtain ⟨sl,e'⟩:=f b m o e
  rw[n] at e';cases e'
 have ow:∀ {adr:Pl→Addr} {σ:Srt},(∀ p,Lv σ p→adr p∉fas c.outer)→∀ b∈c.L::ownL adr σ,b∉fas c.outer:=fun {adr σ} rn b m=>by
  rcases mC m with rfl|m
  ·exact LF'
  ·obtain ⟨p,l,rfl⟩:=mem_ownL.mp m;exact rn p l
 have lv:∀ p,Lv (σW c.ws) p→Lv (σW []) p:=fun p l=>by
  cases p with
  | x|dx|D=>trivial
  | rl=>rw[show Lv (σW c.ws) .rl=((σW c.ws).rd.isSome=true) from rfl,v2] at l;cases l
  | nd m j=>exact ⟨by rw[u1];have:=l.1;rwa [v1] at this,l.2⟩
 have OA:OKA (A.deeper env) (n+7):=fr'.ok
 show NR prog w _ (execs (_::_) env) _ _
 refine xc (ll_make (n:=n+1) (σ:=σW []) rfl ok fr' OA rfl i1a fun h2a t2a adr o2a n2a i2a=>?_)
 have rn2:∀ p,Lv (σW []) p→adr p∉fas c.outer:=fun p l=>nF fs1 (n2a p l)
 have fs2:=fs1.off o2a fun b m=>by rw[m_s m];exact LF'
 show NR prog w _ (execs (_::_) env) _ _
 refine xc (ll_add (n:=n+3) ok fr' OA (by rfl) i2a fun h3a t3a o3a i3a=>?_)
 have fs3:=fs2.off o3a (ow rn2)
 show NR prog w _ (execs (_::_) env) _ _
 refine xc (ll_prep (n:=n+3) ok fr' OA (Around.frames_deeper cfr) ef' (by rfl) i3a fs3 (fun p l=>rn2 p (lv p l)) (fun h4a t4a adr' ac i4a fs4 rn4=>?_) fun h4a t4a ac sl=>fin h4a t4a _ sl (.inl ⟨rfl,ac⟩))
 have I0:=first_inv ok.hw
 have lz:(rdy0 (σW c.ws)).length≤3:=I0.len
 show NR prog w _ (execs (_::_) env) _ _
 refine xc (ll_out (n:=n+5) (l:=rdy0 (σW c.ws)) ok fr' OA (by rfl) i4a rfl (by lia) (fun j m=>by show j∈(σW c.ws).ns;exact (List.mem_filter.mp m).1) (fun p l=>by cases p <;> exact l) fun h5 t5 D o5a nD i5a=>?_)
 have fs5:=fs4.off o5a (ow rn4)
 have DF:D∉fas c.outer:=nF fs4 nD
 have rn5:∀ p,Lv (rdyS (prepS (σW c.ws)) (rdy0 (σW c.ws))) p→adr' p∉fas c.outer:=fun p l=>rn4 p (by cases p <;> exact l)
 have ow5:∀ b∈c.L::D::ownL adr' (rdyS (prepS (σW c.ws)) (rdy0 (σW c.ws))),b∉fas c.outer:=fun b m=>by
  rcases mC m with rfl|m
  ·exact LF'
  rcases mC m with rfl|m
  ·exact DF
  ·exact ow rn5 b (.tail _ m)
 have good:letsB (rdyS (prepS (σW c.ws)) (rdy0 (σW c.ws))) (rdy0 (σW c.ws)) c.od=goodB c.ws [] c.od:=by
  have:c.od.Nodup∧(∀ j∈c.od,j∈NS3)∧∀ j∈NS3,j∈c.od:=by
   revert hodc
   generalize c.od=od
   intro hodc
   simp only[perms,List.mem_cons,List.not_mem_nil,or_false] at hodc
   rcases hodc with rfl|rfl|rfl|rfl|rfl|rfl <;> decide
  exact lets_good ok.hw c.od _ [] _ I0 this.1 (fun j m=>⟨this.2.1 j m,by simp⟩) fun j m=>.inr (this.2.2 j m)
 show NR prog w _ (execs (_::_) env) _ _
 refine xc (ll_loop (n:=n+5) ok fr' OA (by kernel_rfl) (by kernel_rfl) (by rfl) (by rfl) I0 i5a (fun h6a t6 σ' out' o6 i6a rd6 e6a=>?_) fun h6a t6 o6 e6a=>?_)
 ·have fs6:=fs5.off o6 ow5
  rw[good] at e6a
  obtain ⟨fc,MK⟩:=ok.SK.active
  show NR prog w _ (execs (_::_) env) _ _
  refine xc (wpAny_Return_some (wp_notb (b:=decide (σ'.fi<σ'.po) || !([]:List Int).isEmpty) (meth_wp (s:=To s h6a t6) ok.SK MK upR (bdL i6a) i6a (fr'.lv "sorter" (by kernel_rfl) (by rfl) (by kernel_rfl)) kin2 rep2 fun s7 k7 i7=>with0 (keeper_K gk2 MK.keep) i7 ?_)))
  obtain ⟨h7a,t7,rfl,e7a⟩:=k7
  have e7a:Ext h6a h7a:=e7a
  refine wpAny_mono (sort_active (n:=n+5) (s:=To s h7a t7) MK.fn ok.SK OA ok.G i7.1.2.1 ok.N i7.2.1 rd6 (by simp) _) (fun v s8 q=>?_) fun zz zz x=>x
  obtain ⟨rfl,k8⟩:=q
  obtain ⟨h8a,t8a,rfl,e8a⟩:=k8
  have e8a:Ext h7a h8a:=e8a
  refine ⟨rfl,fin h8a t8a _ (slt ((fs6.ext e7a).ext e8a) (Ext.trans i6a.1.2.1 (Ext.trans e7a e8a))) (.inr ⟨ac,?_⟩)⟩
  rw[← e6a]
  rw[letsB_n,rd6];rfl
 ·rw[good] at e6a
  refine fin h6a t6 _ (slt (fs5.off o6 ow5) (ext_off i5a.1.1.2.1 o6 fun b m=>?_)) (.inr ⟨ac,by rw[e6a]⟩)
  rcases mC m with rfl|m
  ·exact ok.Bn _ (.head _)
  rcases mC m with rfl|m
  ·exact i5a.2.2.2.2
  ·obtain ⟨p,l,rfl⟩:=mem_ownL.mp m;exact i5a.1.2.1.new p l
end
section
noncomputable abbrev R7:List Int:=[0,1,2,3,4,5,6]
theorem walks_lt {I:Addr} {fp wr:List Addr} {n:Nat} {P:Nat→Value→Prop} {St:Nat→Heap→Prop} (W:Walks prog w A I fp wr n P St):Walks prog w A I fp wr n (fun i v=>P i v∧i<n) St :=
 ⟨W.sub,W.frame,fun i s Q E hi st hQ=>W.item i s Q E hi st fun v h' tk p=>hQ v h' tk ⟨p,hi⟩,W.done,W.self⟩
theorem r7_at (i:Nat) (h:i<7):R7[i]?=some (0+(i:Int) * 1):=by
 have:∀ i:Nat,i<7→R7[i]?=some (0+(i:Int) * 1):=by decide
 exact this i h
theorem ints_at_all:∀ (vs:List Value) (l:List Int),vs.length=l.length→(∀ (j:Nat) v,vs[j]?=some v→∃ t,some v=(l[j]?.map fun i=>Value.int i t))→AtAll X h vs (l.map .int):=by
 intro vs
 induction vs with
 | nil=>intro l e zz;rw[List.eq_nil_of_length_eq_zero e.symm];exact .nil
 | cons v vs ih =>
  intro l e q
  cases l with
  | nil=>cases e
  | cons i l =>
   obtain ⟨t,ht⟩:=q 0 v rfl
   rw[Option.some.inj ht]
   exact .cons (.int _ _) (ih l (Nat.succ.inj e) fun j u hu=>q (j+1) u hu)
theorem itb_range {target:Expr} {r:Addr} {t u v:Tok} (hh:A.handled=none) (ke:Ext h0a s.heap) (hr:IsRange s.heap r 0 7 1 t u v):Itb (AtF PyData.int) prog w A target X h0a s (.ref r) R7:=fun Q E k=>by
 refine wpAny_pyIter_range hr (by decide) (k _ _ _ _ _ _ (kp_push _ _) (iter_of_walks (fun zz zz zz zz zz a b=>At.chg a b) (walks_lt (Walks.range hh s.heap.objs.size 0 1 7)) (Heap.get?_push_size _ rfl) ?_ ?_ ?_ ?_ (fun b hb=>by rw[m_s hb];exact size_none _) ?_ ?_))
 ·intro b hb
  rw[m_s hb];exact ⟨_,Heap.get?_push_size _ rfl⟩
 ·intro b hb
  rw[m_s hb];exact none_before ke (size_none _)
 ·exact fun b hb=>.inl hb
 ·intro i h e b hb
  rw[m_s hb];exact ⟨_,e,not_tup_of_fields rfl⟩
 ·rintro i v X' ⟨⟨t,rfl⟩,hi⟩ _
  exact ⟨_,r7_at i hi,.int _ _⟩
 ·intro i v s' Q E e q
  exact go_plain e rfl rfl (by decide) q
theorem src_range {target:Expr} {np ap pos:Pos} (up:Up I) (hh:A.handled=none) (hf:EvR prog w A env I (.Name "range" np) (fun zz zz v=>v=.type "range")):Src (AtF PyData.int) prog w A env I target (.Call (.Name "range" np) [.Constant (.int 7) kk ap] [] pos) R7:=fun s E X hX hI =>
 call1_wp (P:=IsI 7) up hf keeper_type (EvR.int ev_int) hX hI fun s' v k i hv=>by
  obtain ⟨t,rfl⟩:=hv
  exact call_range_1 ⟨kp_trans k (kp_heap _ (Ext.push _ _)),itb_range hh (Ext.trans (kp_ext k) (Ext.push _ _)) (Heap.get?_push_size _ rfl)⟩
theorem two_at {a:Int} (x:At X h v (.tuple [.int a,.int b])):∃ r t u,v=.ref r∧h.IsTuple r #[.int a t,.int b u]:=by
 obtain ⟨r,items,rfl,ht,q⟩:=x.tuple_inv
 obtain ⟨v1a,v2a,e,a1a,a2a⟩:=two_inv q
 obtain ⟨t,rfl⟩:=a1a.int_inv
 obtain ⟨u,rfl⟩:=a2a.int_inv
 have:items=#[.int a t,.int b u]:=Array.toList_inj.mp e
 exact ⟨r,t,u,rfl,this▸ht⟩
theorem minmax {a:Int} {t u:Tok} {items:Array Value} (e:items=#[.int a t,.int b u]):∀ (i:Nat) (v:Value),items[i]?=some v→∃ t,v=Value.int (if i=0 then a else b) t:=fun i v q=>by
 subst e
 match i with
 | 0=>simp at q;exact ⟨t,q.symm⟩
 | 1=>simp at q;exact ⟨u,q.symm⟩
 | i+2=>simp at q
theorem op_min2 {a:Int} (hh:A.handled=none) (x:AtAll X s.heap vs [.tuple [.int a,.int b]]):Op prog w A (call (.builtin "min") vs) s X (.int (min a b)):=fun E=>by
 obtain ⟨v,rfl,av⟩:=one_inv x
 obtain ⟨r,t,u,rfl,ht⟩:=two_at av
 obtain ⟨o,ho,_⟩:=id ht
 have hne:r≠s.heap.objs.size:=Nat.ne_of_lt (Heap.lt_size ho)
 refine call_min_walk (wpAny_pyIter_tuple ht ⟨_,_,_,_,_,_,_,rfl,Walks.tuple (A:=A.in1) hh s.heap.objs.size r hne #[.int a t,.int b u],⟨⟨_,Heap.get?_push_size _ rfl,rfl,rfl⟩,ht.at fun o e=>Heap.get?_push_of_some _ e⟩,fun c hc=>?_,Nat.succ_pos _,CmpOf.ints_lt (fun i=>if i=0 then a else b) (minmax rfl),fun v h' tk hP hk=>?_⟩)
 ·show c<(s.heap.push _).objs.size
  rw[Heap.size_push]
  rcases mC hc with rfl|hc
  ·exact Nat.lt_succ_self _
  ·rw[m_s hc];exact Nat.lt_succ_of_lt (Heap.lt_size ho)
 ·refine ⟨⟨h',tk,rfl,fun b ob e=>hk b ob (fun m=>?_) (Heap.get?_push_of_some _ e)⟩,?_⟩
  ·rw[m_s m] at e;exact absurd (Heap.lt_size e) (Nat.lt_irrefl _)
  ·by_cases q:b<a
   ·have e:argBest (fun i j:Nat=>decide ((if i=0 then a else b)<if j=0 then a else b)) (#[Value.int a t,Value.int b u].size - 1)=1:=by simp[argBest,q]
    rw[e] at hP;simp at hP;rw[← hP,Int.min_eq_right (by lia)];exact .int _ _
   ·have e:argBest (fun i j:Nat=>decide ((if i=0 then a else b)<if j=0 then a else b)) (#[Value.int a t,Value.int b u].size - 1)=0:=by simp[argBest,q]
    rw[e] at hP;simp at hP;rw[← hP,Int.min_eq_left (by lia)];exact .int _ _
theorem op_max2 {a:Int} (hh:A.handled=none) (x:AtAll X s.heap vs [.tuple [.int a,.int b]]):Op prog w A (call (.builtin "max") vs) s X (.int (max a b)):=fun E=>by
 obtain ⟨v,rfl,av⟩:=one_inv x
 obtain ⟨r,t,u,rfl,ht⟩:=two_at av
 obtain ⟨o,ho,_⟩:=id ht
 have hne:r≠s.heap.objs.size:=Nat.ne_of_lt (Heap.lt_size ho)
 refine call_max_walk (wpAny_pyIter_tuple ht ⟨_,_,_,_,_,_,_,rfl,Walks.tuple (A:=A.in1) hh s.heap.objs.size r hne #[.int a t,.int b u],⟨⟨_,Heap.get?_push_size _ rfl,rfl,rfl⟩,ht.at fun o e=>Heap.get?_push_of_some _ e⟩,fun c hc=>?_,Nat.succ_pos _,CmpOf.ints_gt (fun i=>if i=0 then a else b) (minmax rfl),fun v h' tk hP hk=>?_⟩)
 ·show c<(s.heap.push _).objs.size
  rw[Heap.size_push]
  rcases mC hc with rfl|hc
  ·exact Nat.lt_succ_self _
  ·rw[m_s hc];exact Nat.lt_succ_of_lt (Heap.lt_size ho)
 ·refine ⟨⟨h',tk,rfl,fun b ob e=>hk b ob (fun m=>?_) (Heap.get?_push_of_some _ e)⟩,?_⟩
  ·rw[m_s m] at e;exact absurd (Heap.lt_size e) (Nat.lt_irrefl _)
  ·by_cases q:b>a
   ·have e:argBest (fun i j:Nat=>decide ((if i=0 then a else b)>if j=0 then a else b)) (#[Value.int a t,Value.int b u].size - 1)=1:=by simp[argBest,q]
    rw[e] at hP;simp at hP;rw[← hP,Int.max_eq_right (by lia)];exact .int _ _
   ·have e:argBest (fun i j:Nat=>decide ((if i=0 then a else b)>if j=0 then a else b)) (#[Value.int a t,Value.int b u].size - 1)=0:=by simp[argBest,q]
    rw[e] at hP;simp at hP;rw[← hP,Int.max_eq_left (by lia)];exact .int _ _
theorem op_list_range {r:Addr} {t u v:Tok} (hh:A.handled=none) (hX:Bd X s.heap) (hr:IsRange s.heap r 0 7 1 t u v) (E:VSP):wpAny (model prog w) A (call (.type "list") [.ref r]) (fun v s'=>Keeps s s'∧At X s'.heap v (.list (R7.map .int))) E s:=by
 refine call_list_range (n:=7) hh hr (by decide) (by decide) (by decide) fun h' tk acc c hk hg hi=>?_
 refine ⟨⟨h',tk,rfl,hk⟩,.list (fun m=>by obtain ⟨o,e⟩:=hX _ m;rw[size_none] at e;cases e) ⟨_,hg,rfl,_,rfl⟩ (ints_at_all _ _ (by simpa using hi.1) fun j v q=>?_)⟩
 have q':acc[j]?=some v:=by simpa using q
 have hj:j<7:=by have:=(Array.getElem?_eq_some_iff.mp q').1;rw[hi.1] at this;exact this
 obtain ⟨t,rfl⟩:=hi.2 j v q'
 exact ⟨t,by rw[r7_at j hj];rfl⟩
end
noncomputable def atI (cs:List Int) (k:Int):Int:=cs[k.toNat]?.getD 0
noncomputable def hdP (c:Int):Int:=(restI c).fdiv 54
noncomputable def kdP (c:Int):Int:=c.fmod 6
noncomputable def rowO (os:List Int):Int×Int:=((os.length:Int)+1,numOf os * 4 ^ (3 - (os.length:Int)).toNat)
noncomputable def chS (i:Int):Str:=⟨#[i.toNat]⟩
noncomputable def keyO (os:List Int):List Str:=((b64 os).filter fun s=>decide (s≠61)).map chS
noncomputable def bgO (a b:List Int):Bool:=beginsI (rowO a).1 (rowO a).2 (rowO b).1 (rowO b).2
noncomputable def all26:List (List Int):=([5,20]:List Int).flatMap fun a=>[a]::([5,20,200]:List Int).flatMap fun b=>[a,b]::([5,20,200]:List Int).map fun d=>[a,b,d]
theorem octs_in {c:Int} (h:0≤c∧c<972):octs c∈all26∧hdP c∈NS3∧0≤kdP c∧kdP c<6:=by
 have:∀ n∈List.range 972,octs (n:Int)∈all26∧hdP (n:Int)∈NS3∧0≤kdP n∧kdP n<6:=by decide +kernel
 have:=this c.toNat (List.mem_range.mpr (by lia))
 rwa [Int.toNat_of_nonneg h.1] at this
theorem row_key:∀ a∈all26,∀ b∈all26,bgO a b=(keyO a).isPrefixOf (keyO b)∧(decide (rowO a=rowO b)=decide (keyO a=keyO b)):=by decide +kernel
theorem key_ok:∀ a∈all26,keyO a≠[]∧(keyO a).length≤4∧chS 61∉keyO a:=by decide +kernel
section
variable (cs:List Int)
noncomputable def kd (k:Int):Int:=kdP (atI cs k)
noncomputable def ky (k:Int):List Str:=keyO (octs (atI cs k))
noncomputable def hd (k:Int):Int:=hdP (atI cs k)
noncomputable def offsL:List Int:=R7.filter fun k=>decide (kd cs k<2)
noncomputable def onsL:List Int:=R7.filter fun k=>decide (kd cs k>1)
noncomputable def bgI (a b:Int):Bool:=bgO (octs (atI cs a)) (octs (atI cs b))
noncomputable def clashL:List (Int×Int):=(offsL cs).flatMap fun off=>((onsL cs).filter fun on=>bgI cs off on).map fun on=>(off,on)
noncomputable def pairsL:List (Int×Int):=(clashL cs).map fun p=>(hd cs (min p.1 p.2),hd cs (max p.1 p.2))
noncomputable def waitsL:List (Int×Int):=(pairsL cs).filter fun p=>decide (p.1≠p.2)
noncomputable def keptL:List (List Int):=perms.filter fun od=>((waitsL cs).filter fun p=>decide (od.idxOf p.1>od.idxOf p.2)).isEmpty
noncomputable def leftL:List Int:=(onsL cs).filter fun on=>((clashL cs).filter fun p=>decide (p.2=on∧p.1>on)).isEmpty
noncomputable def sameL (f:Int):List Int:=(leftL cs).filter fun on=>decide ((kd cs on).fmod 2=f)
noncomputable def wideL (c f:Int):List Int:=(sameL cs f).filter fun on=>decide (kd cs on>3) && bgO (octs (atI cs on)) (octs c)
noncomputable def dueP (c f:Int):Bool×Bool:=(!(wideL cs c f).isEmpty || !((sameL cs f).filter fun on=>decide (rowO (octs (atI cs on))=rowO (octs c))).isEmpty,!(wideL cs c f).isEmpty)
noncomputable def dueL:List (Bool×Bool):=cs.flatMap fun c=>[0,1].map fun f=>dueP cs c f
noncomputable def runsL:List (List Int):=R7::(keptL cs).map fun od=>od.flatMap fun h=>R7.filter fun k=>decide (hd cs k=h)
noncomputable def stepF (σ:Sg) (k:Int):Sg:=if kd cs k<2 then cutN σ (ky cs k) else setS σ (ky cs k) (decide (kd cs k>3)) ((kd cs k).fmod 2)
noncomputable def runF (R:List Int):Sg:=R.foldl (stepF cs) e0
noncomputable def isK (σ:Sg) (key:List Str) (f:Int):Bool:=isF σ [] key.dropLast (key.getLast?.getD ⟨#[]⟩) f
noncomputable def toldP (σ:Sg) (c f:Int):Bool×Bool:=(isK σ (keyO (octs c)) f,isK σ (keyO (octs c)++[chS 61]) f)
noncomputable def toldL (σ:Sg):List (Bool×Bool):=cs.flatMap fun c=>[0,1].map fun f=>toldP σ c f
end
noncomputable def recAt (σ:Sg) (p:List Str) (f:Int):Prop:=∃ nd,σ p=some nd∧nd.rf f=true
noncomputable def flAt (σ:Sg) (p:List Str) (f:Int):Prop:=∃ nd,σ p=some nd∧nd.fl f=true
noncomputable def Clo (σ:Sg):Prop:=∀ p k,(σ (p++[k])).isSome=true→p=[]∨(σ p).isSome=true
theorem rec_some {σ:Sg} {p:List Str} {f:Int} (h:recAt σ p f):(σ p).isSome=true:=by obtain ⟨nd,e,_⟩:=h;rw[e];rfl
theorem fl_some {σ:Sg} {p:List Str} {f:Int} (h:flAt σ p f):(σ p).isSome=true:=by obtain ⟨nd,e,_⟩:=h;rw[e];rfl
theorem clo_up {σ:Sg} (c:Clo σ):∀ (q p:List Str),p≠[]→(σ (p++q)).isSome=true→(σ p).isSome=true:=by
 intro q
 induction q with
 | nil=>intro p zz h;rwa [List.append_nil] at h
 | cons a q ih=>intro p hp h;exact (c p a (ih (p++[a]) (snoc_ne _ _) (by rwa [List.append_assoc]))).resolve_left hp
set_option tactic.hygienic true in
theorem isF_iff {σ:Sg} (c:Clo σ) (st:Str) (f:Int):∀ (ks p:List Str),isF σ p ks st f=true↔(∃ q r,q≠[]∧q++r=ks++[st]∧recAt σ (p++q) f)∨flAt σ (p++(ks++[st])) f
 | [],p=>by
  rw[isF_n]
  constructor
  ·intro h
   split at h
   ·cases h
   ·rename_i nd e
    rw[Bool.or_eq_true] at h
    rcases h with h|h
    ·exact .inr ⟨nd,e,h⟩
    ·exact .inl ⟨[st],[],by simp,by simp,nd,e,h⟩
  ·rintro (⟨q,r,hq,e,nd,h,g⟩|⟨nd,h,g⟩)
   ·have:q=[st]:=by
     cases q with
     | nil=>exact absurd rfl hq
     | cons a q=>simp at e;rw[e.1,e.2.1]
    subst this
    rw[h];simp[g]
   ·rw[show p++([]++[st])=p++[st] from rfl] at h
    rw[h];simp[g]
 | k::ks,p=>by
  have ih:=isF_iff c st f ks (p++[k])
  rw[isF_c]
  have ea:p++[k]++(ks++[st])=p++(k::ks++[st]):=by simp
  rw[ea] at ih
  constructor
  ·intro h
   split at h
   ·cases h
   ·rename_i nd e
    split at h
    ·rename_i g
     exact .inl ⟨[k],ks++[st],by simp,by simp,nd,e,g⟩
    ·rcases ih.mp h with ⟨q,r,hq,e',g⟩|g
     ·exact .inl ⟨k::q,r,by simp,by simp[e'],by simpa using g⟩
     ·exact .inr g
  ·intro h
   have so:(σ (p++[k])).isSome=true:=by
    rcases h with ⟨q,r,hq,e,g⟩|g
    ·cases q with
     | nil=>exact absurd rfl hq
     | cons a q =>
      have:a=k:=by simp at e;exact e.1
      subst this
      have:=rec_some g
      exact clo_up c q (p++[a]) (by simp) (by simpa using this)
    ·exact clo_up c (ks++[st]) (p++[k]) (by simp) (by rw[ea];exact fl_some g)
   obtain ⟨nd,e⟩:=Option.isSome_iff_exists.mp so
   rw[e]
   dsimp only
   split
   ·rfl
   ·rename_i ng
    refine ih.mpr ?_
    rcases h with ⟨q,r,hq,e',g⟩|g
    ·cases q with
     | nil=>exact absurd rfl hq
     | cons a q =>
      have:a=k:=by simp at e';exact e'.1
      subst this
      cases q with
      | nil =>
       obtain ⟨nd',e2,g2⟩:=g
       rw[e] at e2;cases e2
       exact absurd g2 ng
      | cons b q=>exact .inl ⟨b::q,r,by simp,by simpa using e',by simpa using g⟩
    ·exact .inr g
theorem ens_at {p:List Str} {f:Int}:∀ (ks q:List Str) (σ:Sg),(recAt (ens σ q ks) p f↔recAt σ p f)∧(flAt (ens σ q ks) p f↔flAt σ p f)
 | [],q,σ=>⟨Iff.rfl,Iff.rfl⟩
 | k::ks,q,σ=>by
  have ih:=ens_at (p:=p) (f:=f) ks (q++[k]) (if (σ (q++[k])).isSome then σ else mkN σ (q++[k]))
  rw[ens_c,ih.1,ih.2]
  split
  ·exact ⟨Iff.rfl,Iff.rfl⟩
  ·rename_i n
   have hn:σ (q++[k])=none:=by cases e:σ (q++[k]) with
    | none=>rfl
    | some x=>rw[e] at n;exact absurd rfl n
   unfold recAt flAt mkN
   by_cases z:p=q++[k]
   ·subst z;simp[hn]
   ·simp[z]
theorem ens_clo:∀ (ks q:List Str) (σ:Sg),Clo σ→(q=[]∨(σ q).isSome=true)→Clo (ens σ q ks)∧((σ q).isSome=true→((ens σ q ks) q).isSome=true)∧(∀ p,(σ p).isSome=true→((ens σ q ks) p).isSome=true)∧(ks≠[]→((ens σ q ks) (q++ks)).isSome=true)
 | [],q,σ,c,h=>⟨c,id,fun zz=>id,fun n=>absurd rfl n⟩
 | k::ks,q,σ,c,h=>by
  obtain ⟨σ',hσ⟩:∃ σ',σ'=(if (σ (q++[k])).isSome then σ else mkN σ (q++[k])):=⟨_,rfl⟩
  have keep:∀ p,(σ p).isSome=true→(σ' p).isSome=true:=fun p e=>by
   rw[hσ];split
   ·exact e
   ·unfold mkN;split
    ·rfl
    ·exact e
  have new:(σ' (q++[k])).isSome=true:=by
   rw[hσ];split
   ·assumption
   ·unfold mkN;rw[if_pos rfl];rfl
  have back:∀ p,(σ' p).isSome=true→(σ p).isSome=true∨p=q++[k]:=fun p e=>by
   rw[hσ] at e;split at e
   ·exact .inl e
   ·unfold mkN at e;split at e
    ·exact .inr ‹_›
    ·exact .inl e
  have c':Clo σ':=fun p a e=>by
   rcases back _ e with e|e
   ·exact (c p a e).imp id (keep p)
   ·have:=List.append_inj' e rfl
    rw[this.1]
    exact h.imp id (keep q)
  obtain ⟨i1,i2,i3,i4⟩:=ens_clo ks (q++[k]) σ' c' (.inr new)
  have e0:ens σ q (k::ks)=ens σ' (q++[k]) ks:=by rw[hσ];rfl
  rw[e0]
  refine ⟨i1,fun e=>i3 _ (keep _ e),fun p e=>i3 _ (keep _ e),fun zz=>?_⟩
  cases ks with
  | nil=>exact i3 _ new
  | cons a ks=>have:=i4 (by simp);simpa using this
theorem put_at {σ:Sg} {p:List Str} {rec:Bool} {g f:Int} (hq:(σ q).isSome=true):(recAt (putN σ q rec g) p f↔recAt σ p f∨(p=q∧rec=true∧f=g))∧(flAt (putN σ q rec g) p f↔flAt σ p f∨(p=q∧rec=false∧f=g)):=by
 obtain ⟨nd,e⟩:=Option.isSome_iff_exists.mp hq
 unfold recAt flAt putN
 by_cases z:p=q
 ·subst z
  cases rec <;> simp[e]
 ·simp[z]
theorem put_clo {σ:Sg} {rec:Bool} {g:Int} (c:Clo σ):Clo (putN σ q rec g):=fun p k h=>by
 have ex:∀ r,(putN σ q rec g r).isSome=(σ r).isSome:=fun r=>by
  unfold putN;split
  ·rename_i z;rw[z];simp
  ·rfl
 rw[ex] at h
 rw[ex];exact c p k h
theorem cut_at {σ:Sg} {p:List Str} {f:Int}:(recAt (cutN σ q) p f↔recAt σ p f∧¬ q <+: p)∧(flAt (cutN σ q) p f↔flAt σ p f∧¬ q <+: p):=by
 unfold recAt flAt cutN
 by_cases z:q <+: p
 ·simp[z]
 ·simp[z]
theorem cut_clo {σ:Sg} (c:Clo σ):Clo (cutN σ q):=fun p k h=>by
 obtain ⟨a,b⟩:=cut_some h
 refine (c p k a).imp id fun e=>?_
 unfold cutN
 rw[if_neg fun z=>b (z.trans (List.prefix_append _ _))];exact e
section
variable {cs:List Int} (hc:∀ c∈cs,0≤c∧c<972) (h7:cs.length=7)
include hc h7
theorem at_in {k:Int} (h:k∈R7):atI cs k∈cs:=by
 have:∃ n:Nat,n<7∧k=n:=by
  simp only[List.mem_cons,List.not_mem_nil,or_false] at h
  exact ⟨k.toNat,by lia,by lia⟩
 obtain ⟨n,hn,rfl⟩:=this
 unfold atI
 have hl:(n:Int).toNat<cs.length:=by simpa using (by lia:n<cs.length)
 rw[List.getElem?_eq_getElem hl]
 exact List.getElem_mem hl
theorem ky_ok {k:Int} (h:k∈R7):octs (atI cs k)∈all26∧ky cs k≠[]∧chS 61∉ky cs k:=by
 have a:=(octs_in (hc _ (at_in hc h7 h))).1
 have b:=key_ok _ a
 exact ⟨a,b.1,b.2.2⟩
noncomputable def LiveR (cs:List Int) (R:List Int) (on:Int):Prop:=∃ R1 R2,R=R1++on::R2∧∀ off∈R2,kd cs off<2→¬ ky cs off <+: ky cs on
omit hc h7 in
theorem live_snoc {R:List Int} {k:Int}:LiveR cs (R++[k]) on↔(LiveR cs R on∧(kd cs k<2→¬ ky cs k <+: ky cs on))∨on=k:=by
 constructor
 ·rintro ⟨R1,R2,e,h⟩
  rcases List.eq_nil_or_concat R2 with rfl|⟨R3,b,rfl⟩
  ·have:=List.append_inj' e rfl
   exact .inr (by simpa using this.2.symm)
  ·rw[List.concat_eq_append] at e h
   have e':R++[k]=(R1++on::R3)++[b]:=by simpa using e
   have:=List.append_inj' e' rfl
   have kb:k=b:=by simpa using this.2
   subst kb
   exact .inl ⟨⟨R1,R3,this.1,fun off m=>h off (m_l _ m)⟩,h k (by simp)⟩
 ·rintro (⟨⟨R1,R2,e,h⟩,g⟩|rfl)
  ·refine ⟨R1,R2++[k],by simp[e],fun off m=>?_⟩
   rcases m_a m with m|m
   ·exact h off m
   ·rw[m_s m];exact g
  ·exact ⟨R,[],rfl,fun off m=>by cases m⟩
omit hc h7 in
theorem snoc_ind {P:List Int→Prop} (h0:P []) (h1:∀ R k,P R→P (R++[k])) (R:List Int):P R:=by
 have:∀ l:List Int,P l.reverse:=fun l=>by
  induction l with
  | nil=>exact h0
  | cons a l ih=>rw[List.reverse_cons];exact h1 _ _ ih
 have:=this R.reverse
 rwa [List.reverse_reverse] at this
noncomputable def RunAt (cs R:List Int):Prop:=Clo (runF cs R)∧(∀ p f,recAt (runF cs R) p f↔∃ on,LiveR cs R on∧¬ kd cs on<2∧kd cs on>3∧(kd cs on).fmod 2=f∧ky cs on=p) ∧
  (∀ p f,flAt (runF cs R) p f↔∃ on,LiveR cs R on∧¬ kd cs on<2∧¬ kd cs on>3∧(kd cs on).fmod 2=f∧ky cs on=p)
theorem run_at (R:List Int):(∀ k∈R,k∈R7)→RunAt cs R:=by
 refine snoc_ind (P:=fun R=>(∀ k∈R,k∈R7)→RunAt cs R) ?_ (fun R k ih=>?_) R
 ·intro _
  have no:∀ on,¬ LiveR cs [] on:=fun on=>by
   rintro ⟨R1,R2,e,_⟩
   simp at e
  refine ⟨fun p k h=>(by cases h),fun p f=>⟨by
   rintro ⟨nd,e,_⟩
   exact (by cases e),by
    rintro ⟨on,l,_⟩
    exact absurd l (no on)⟩,fun p f=>⟨by
     rintro ⟨nd,e,_⟩
     exact (by cases e),by
      rintro ⟨on,l,_⟩
      exact absurd l (no on)⟩⟩
 ·intro hR
  obtain ⟨i1,i2,i3⟩:=ih fun x m=>hR x (m_l _ m)
  have hk:=ky_ok hc h7 (hR k (by simp))
  have er:runF cs (R++[k])=stepF cs (runF cs R) k:=by unfold runF;rw[List.foldl_append];rfl
  unfold RunAt
  rw[er]
  unfold stepF
  by_cases q:kd cs k<2
  ·rw[if_pos q]
   refine ⟨cut_clo i1,fun p f=>?_,fun p f=>?_⟩
   ·rw[cut_at.1,i2]
    constructor
    ·rintro ⟨⟨on,l,a,b,d,rfl⟩,n⟩
     exact ⟨on,live_snoc.mpr (.inl ⟨l,fun zz=>n⟩),a,b,d,rfl⟩
    ·rintro ⟨on,l,a,b,d,rfl⟩
     rcases live_snoc.mp l with ⟨l,n⟩|rfl
     ·exact ⟨⟨on,l,a,b,d,rfl⟩,n q⟩
     ·exact absurd q a
   ·rw[cut_at.2,i3]
    constructor
    ·rintro ⟨⟨on,l,a,b,d,rfl⟩,n⟩
     exact ⟨on,live_snoc.mpr (.inl ⟨l,fun zz=>n⟩),a,b,d,rfl⟩
    ·rintro ⟨on,l,a,b,d,rfl⟩
     rcases live_snoc.mp l with ⟨l,n⟩|rfl
     ·exact ⟨⟨on,l,a,b,d,rfl⟩,n q⟩
     ·exact absurd q a
  ·rw[if_neg q]
   obtain ⟨e1,e2,e3,e4⟩:=ens_clo (ky cs k) [] (runF cs R) i1 (.inl rfl)
   have ex:=e4 hk.2.1
   rw[List.nil_append] at ex
   unfold setS
   have ea:=fun p f=>ens_at (p:=p) (f:=f) (ky cs k) [] (runF cs R)
   refine ⟨put_clo e1,fun p f=>?_,fun p f=>?_⟩
   ·rw[(put_at ex).1,(ea p f).1,i2]
    constructor
    ·rintro (⟨on,l,a,b,d,e⟩|⟨rfl,a,rfl⟩)
     ·exact ⟨on,live_snoc.mpr (.inl ⟨l,fun z=>absurd z q⟩),a,b,d,e⟩
     ·exact ⟨k,live_snoc.mpr (.inr rfl),q,of_decide_eq_true a,rfl,rfl⟩
    ·rintro ⟨on,l,a,b,d,e⟩
     rcases live_snoc.mp l with ⟨l,n⟩|rfl
     ·exact .inl ⟨on,l,a,b,d,e⟩
     ·exact .inr ⟨e.symm,decide_eq_true b,d.symm⟩
   ·rw[(put_at ex).2,(ea p f).2,i3]
    constructor
    ·rintro (⟨on,l,a,b,d,e⟩|⟨rfl,a,rfl⟩)
     ·exact ⟨on,live_snoc.mpr (.inl ⟨l,fun z=>absurd z q⟩),a,b,d,e⟩
     ·exact ⟨k,live_snoc.mpr (.inr rfl),q,of_decide_eq_false a,rfl,rfl⟩
    ·rintro ⟨on,l,a,b,d,e⟩
     rcases live_snoc.mp l with ⟨l,n⟩|rfl
     ·exact .inl ⟨on,l,a,b,d,e⟩
     ·exact .inr ⟨e.symm,decide_eq_false b,d.symm⟩
end
section
variable {cs:List Int} (hc:∀ c∈cs,0≤c∧c<972) (h7:cs.length=7)
theorem mem_clash {p:Int×Int}:p∈clashL cs↔(p.1∈R7∧kd cs p.1<2)∧(p.2∈R7∧kd cs p.2>1)∧bgI cs p.1 p.2=true:=by
 unfold clashL offsL onsL
 rw[List.mem_flatMap]
 constructor
 ·rintro ⟨off,h1,h2⟩
  obtain ⟨on,h3,rfl⟩:=List.mem_map.mp h2
  obtain ⟨a,b⟩:=List.mem_filter.mp h1
  obtain ⟨d,e⟩:=List.mem_filter.mp h3
  obtain ⟨g,i⟩:=List.mem_filter.mp d
  exact ⟨⟨a,of_decide_eq_true b⟩,⟨g,of_decide_eq_true i⟩,e⟩
 ·rintro ⟨⟨a,b⟩,⟨d,e⟩,g⟩
  exact ⟨p.1,List.mem_filter.mpr ⟨a,decide_eq_true b⟩,List.mem_map.mpr ⟨p.2,List.mem_filter.mpr ⟨List.mem_filter.mpr ⟨d,decide_eq_true e⟩,g⟩,rfl⟩⟩
theorem mem_left:on∈leftL cs↔(on∈R7∧kd cs on>1)∧∀ off,(off,on)∈clashL cs→¬ off>on:=by
 unfold leftL onsL
 rw[List.mem_filter,List.mem_filter,List.isEmpty_iff,List.filter_eq_nil_iff]
 simp only[decide_eq_true_eq]
 constructor
 ·rintro ⟨a,b⟩
  exact ⟨a,fun off m g=>b _ m ⟨rfl,g⟩⟩
 ·rintro ⟨a,b⟩
  exact ⟨a,fun p m=>by
   rintro ⟨e,g⟩
   exact b p.1 (by rw[← e];exact m) g⟩
include hc h7
theorem bg_pre {a:Int} (ha:a∈R7) (hb:b∈R7):bgI cs a b=true↔ky cs a <+: ky cs b:=by
 unfold bgI
 rw[(row_key _ (ky_ok hc h7 ha).1 _ (ky_ok hc h7 hb).1).1]
 exact List.isPrefixOf_iff_prefix
noncomputable def Cl (cs:List Int) (a b:Int):Prop:=(a,b)∈clashL cs∨(b,a)∈clashL cs
structure Valid (cs R:List Int):Prop where
 sub:∀ k∈R,k∈R7
 all:∀ k∈R7,k∈R
 pw:R.Pairwise fun a b=>Cl cs a b→a<b
theorem live_left {R:List Int} (V:Valid cs R) (hon:on∈R7) (hk:kd cs on>1):LiveR cs R on↔on∈leftL cs:=by
 rw[mem_left]
 constructor
 ·rintro ⟨R1,R2,e,h⟩
  refine ⟨⟨hon,hk⟩,fun off m g=>?_⟩
  obtain ⟨⟨a,b⟩,_,d⟩:=mem_clash.mp m
  have hp:=(bg_pre hc h7 a hon).mp d
  have mr:=V.all off a
  rw[e] at mr
  have pw:=V.pw
  rw[e] at pw
  rcases m_a mr with q|q
  ·have:=(List.pairwise_append.mp pw).2.2 off q on (.head _) (.inl m)
   lia
  ·rcases mC q with rfl|q
   ·lia
   ·exact h off q b hp
 ·rintro ⟨_,h⟩
  obtain ⟨R1,R2,e⟩:=List.append_of_mem (V.all on hon)
  refine ⟨R1,R2,e,fun off m b hp=>?_⟩
  have ho:off∈R7:=V.sub off (by rw[e];simp[m])
  have mc:(off,on)∈clashL cs:=mem_clash.mpr ⟨⟨ho,b⟩,⟨hon,hk⟩,(bg_pre hc h7 ho hon).mpr hp⟩
  have pw:=V.pw
  rw[e] at pw
  have:=(List.pairwise_cons.mp (List.pairwise_append.mp pw).2.1).1 off m (.inr mc)
  exact h off mc this
theorem live_in {R:List Int} (V:Valid cs R) (l:LiveR cs R on):on∈R7:=by
 obtain ⟨R1,R2,e,_⟩:=l
 exact V.sub on (by rw[e];simp)
theorem key_end {key:List Str} (h:key≠[]) (σ:Sg) (f:Int) (c:Clo σ):isK σ key f=true↔(∃ q,q≠[]∧q <+: key∧recAt σ q f)∨flAt σ key f:=by
 unfold isK
 have e:key.dropLast++[key.getLast?.getD ⟨#[]⟩]=key:=by
  rw[List.getLast?_eq_some_getLast h];exact List.dropLast_concat_getLast h
 rw[isF_iff c,e]
 simp only[List.nil_append]
 constructor
 ·rintro (⟨q,r,a,b,d⟩|h)
  ·exact .inl ⟨q,a,⟨r,b⟩,d⟩
  ·exact .inr h
 ·rintro (⟨q,a,⟨r,b⟩,d⟩|h)
  ·exact .inl ⟨q,r,a,b,d⟩
  ·exact .inr h
theorem mem_wide {c f:Int}:on∈wideL cs c f↔on∈leftL cs∧(kd cs on).fmod 2=f∧kd cs on>3∧bgO (octs (atI cs on)) (octs c)=true:=by
 unfold wideL sameL
 rw[List.mem_filter,List.mem_filter,Bool.and_eq_true,decide_eq_true_eq,decide_eq_true_eq]
 exact ⟨by
  rintro ⟨⟨a,b⟩,d,e⟩
  exact ⟨a,b,d,e⟩,by
   rintro ⟨a,b,d,e⟩
   exact ⟨⟨a,b⟩,d,e⟩⟩
theorem ne_nil_iff {α:Type} {l:List α}:(!l.isEmpty)=true↔∃ a,a∈l:=by
 cases l with
 | nil=>simp
 | cons a l=>simp
omit hc h7 in
theorem or_cr {a b d:Prop} (h:¬ a→(b↔d)):a∨b↔a∨d:=by
 by_cases q:a
 ·simp[q]
 ·simp[q,h q]
omit hc h7 in
theorem fm_congr {β:Type} {f g:Int→List β}:∀ {l:List Int},(∀ a∈l,f a=g a)→l.flatMap f=l.flatMap g
 | [],_=>rfl
 | a::l,h=>by rw[List.flatMap_cons,List.flatMap_cons,h a (.head _),fm_congr fun b m=>h b (.tail _ m)]
theorem told_due {R:List Int} (V:Valid cs R):toldL cs (runF cs R)=dueL cs:=by
 obtain ⟨r1,r2,r3⟩:=run_at hc h7 R V.sub
 unfold toldL dueL
 refine fm_congr fun c mc=>List.map_congr_left fun f mf=>?_
 have oc:=(octs_in (hc c mc)).1
 obtain ⟨k1,k2,k3⟩:=key_ok _ oc
 have pre:∀ on,on∈R7→(bgO (octs (atI cs on)) (octs c)=true↔ky cs on <+: keyO (octs c)):=fun on h=>by
  rw[(row_key _ (ky_ok hc h7 h).1 _ oc).1];exact List.isPrefixOf_iff_prefix
 have eqr:∀ on,on∈R7→(rowO (octs (atI cs on))=rowO (octs c)↔ky cs on=keyO (octs c)):=fun on h=>by
  have:=(row_key _ (ky_ok hc h7 h).1 _ oc).2
  exact decide_eq_decide.mp this
 have wide:(!(wideL cs c f).isEmpty)=true↔∃ q,q≠[]∧q <+: keyO (octs c)∧recAt (runF cs R) q f:=by
  rw[ne_nil_iff hc h7]
  constructor
  ·rintro ⟨on,m⟩
   obtain ⟨a,b,d,e⟩:=(mem_wide hc h7).mp m
   have h:=(mem_left.mp a).1
   exact ⟨ky cs on,(ky_ok hc h7 h.1).2.1,(pre on h.1).mp e,(r2 _ _).mpr ⟨on,(live_left hc h7 V h.1 h.2).mpr a,by lia,d,b,rfl⟩⟩
  ·rintro ⟨q,n,p,r⟩
   obtain ⟨on,l,a,b,d,rfl⟩:=(r2 _ _).mp r
   have h:=live_in hc h7 V l
   exact ⟨on,(mem_wide hc h7).mpr ⟨(live_left hc h7 V h (by lia)).mp l,d,b,(pre on h).mpr p⟩⟩
 unfold toldP dueP
 refine Prod.ext ?_ ?_
 ·show isK _ _ f=_
  rw[Bool.eq_iff_iff,key_end hc h7 k1 _ _ r1,Bool.or_eq_true,wide]
  refine or_cr fun nw=>?_
  rw[ne_nil_iff hc h7,r3]
  constructor
  ·rintro ⟨on,l,a,b,d,e⟩
   have h:=live_in hc h7 V l
   refine ⟨on,List.mem_filter.mpr ⟨List.mem_filter.mpr ⟨(live_left hc h7 V h (by lia)).mp l,decide_eq_true d⟩,decide_eq_true ((eqr on h).mpr e)⟩⟩
  ·rintro ⟨on,m⟩
   obtain ⟨m1,m2⟩:=List.mem_filter.mp m
   obtain ⟨m3,m4⟩:=List.mem_filter.mp m1
   have h:=(mem_left.mp m3).1
   have e:=(eqr on h.1).mp (of_decide_eq_true m2)
   have l:=(live_left hc h7 V h.1 h.2).mpr m3
   have d:=of_decide_eq_true m4
   refine ⟨on,l,by lia,fun g=>nw ⟨ky cs on,(ky_ok hc h7 h.1).2.1,e▸List.prefix_refl _,(r2 _ _).mpr ⟨on,l,by lia,g,d,rfl⟩⟩,d,e⟩
 ·show isK _ _ f=_
  rw[Bool.eq_iff_iff,key_end hc h7 (by simp) _ _ r1,wide]
  constructor
  ·rintro (⟨q,n,p,r⟩|r)
   ·obtain ⟨on,l,a,b,d,rfl⟩:=(r2 _ _).mp r
    rcases List.prefix_concat_iff.mp p with p|p
    ·exact absurd (by rw[p];simp) (ky_ok hc h7 (live_in hc h7 V l)).2.2
    ·exact ⟨_,n,p,r⟩
   ·obtain ⟨on,l,a,b,d,e⟩:=(r3 _ _).mp r
    exact absurd (by rw[e];simp) (ky_ok hc h7 (live_in hc h7 V l)).2.2
  ·rintro ⟨q,n,p,r⟩
   exact .inl ⟨q,n,p.trans (List.prefix_append _ _),r⟩
theorem hd_in {k:Int} (h:k∈R7):hd cs k∈NS3:=(octs_in (hc _ (at_in hc h7 h))).2.1
theorem mem_pairs {p:Int×Int}:p∈pairsL cs↔∃ q∈clashL cs,p=(hd cs (min q.1 q.2),hd cs (max q.1 q.2)):=by
 unfold pairsL;rw[List.mem_map];exact ⟨by
  rintro ⟨q,m,e⟩
  exact ⟨q,m,e.symm⟩,by
   rintro ⟨q,m,e⟩
   exact ⟨q,m,e.symm⟩⟩
theorem minmax_in {a:Int} (ha:a∈R7) (hb:b∈R7):min a b∈R7∧max a b∈R7:=by
 rcases Int.le_total a b with l|l
 ·rw[Int.min_eq_left l,Int.max_eq_right l];exact ⟨ha,hb⟩
 ·rw[Int.min_eq_right l,Int.max_eq_left l];exact ⟨hb,ha⟩
theorem ok_waits:okW (waitsL cs):=fun p m=>by
 unfold waitsL at m
 obtain ⟨q,mq,rfl⟩:=(mem_pairs hc h7).mp (List.mem_filter.mp m).1
 obtain ⟨⟨a,_⟩,⟨b,_⟩,_⟩:=mem_clash.mp mq
 have:=minmax_in hc h7 a b
 exact ⟨hd_in hc h7 this.1,hd_in hc h7 this.2⟩
theorem perm_ne {od:List Int} (h:od∈perms) {a:Int} (ha:a∈NS3) (hb:b∈NS3) (n:a≠b):od.idxOf a≠od.idxOf b:=by
 have:∀ od∈perms,∀ a∈NS3,∀ b∈NS3,a≠b→od.idxOf a≠od.idxOf b:=by decide
 exact this od h a ha b hb n
theorem kept_iff {od:List Int} (h:od∈perms):od∈keptL cs↔(waitsL cs).all (keeps od)=true:=by
 unfold keptL
 rw[List.mem_filter,List.isEmpty_iff,List.filter_eq_nil_iff,List.all_eq_true]
 constructor
 ·rintro ⟨_,g⟩ p m
  have:=g p m
  rw[decide_eq_true_eq] at this
  have n:p.1≠p.2:=of_decide_eq_true (List.mem_filter.mp m).2
  have o:=ok_waits hc h7 p m
  have:=perm_ne hc h7 h o.1 o.2 n
  exact decide_eq_true (by lia)
 ·intro g
  refine ⟨h,fun p m=>?_⟩
  have:=of_decide_eq_true (g p m)
  rw[decide_eq_true_eq];lia
theorem lets_kept {od:List Int} (h:od∈perms) (l:Lets (waitsL cs) od v):v=if keptL cs≠[] then .bool (decide (od∈keptL cs)) else .none:=by
 have ok:=ok_waits hc h7
 have ac:Acyc (σW (waitsL cs)).su (σW (waitsL cs)).ns↔keptL cs≠[]:=by
  rw[acyc_iff ok]
  constructor
  ·rintro ⟨od,m,a⟩ e
   have:=(kept_iff hc h7 m).mpr a
   rw[e] at this;cases this
  ·intro n
   obtain ⟨od,m⟩:=List.exists_mem_of_ne_nil _ n
   have mp:od∈perms:=(List.mem_filter.mp m).1
   exact ⟨od,mp,(kept_iff hc h7 mp).mp m⟩
 rcases l with ⟨rfl,n⟩|⟨a,rfl⟩
 ·rw[if_neg fun z=>n (ac.mpr z)]
 ·rw[if_pos (ac.mp a),good_iff ok h]
  congr 1
  rw[Bool.eq_iff_iff,decide_eq_true_eq,kept_iff hc h7 h]
theorem valid_run {R:List Int} (h:R∈runsL cs):Valid cs R:=by
 have r7:R7.Pairwise (·<·):=by decide
 unfold runsL at h
 rcases mC h with rfl|h
 ·exact ⟨fun zz=>id,fun zz=>id,r7.imp fun {a b} (l:a<b) (_:Cl cs a b)=>l⟩
 ·obtain ⟨od,mo,rfl⟩:=List.mem_map.mp h
  have mp:od∈perms:=(List.mem_filter.mp mo).1
  have kp:=List.all_eq_true.mp ((kept_iff hc h7 mp).mp mo)
  have cov:∀ j∈NS3,j∈od:=by
   have:∀ od∈perms,∀ j∈NS3,j∈od:=by decide
   exact this od mp
  have opw:od.Pairwise fun a b=>od.idxOf a<od.idxOf b:=by
   have:∀ od∈perms,od.Pairwise fun a b=>od.idxOf a<od.idxOf b:=by decide
   exact this od mp
  refine ⟨fun k m=>?_,fun k m=>?_,?_⟩
  ·obtain ⟨hh,_,m2⟩:=List.mem_flatMap.mp m
   exact (List.mem_filter.mp m2).1
  ·exact List.mem_flatMap.mpr ⟨hd cs k,cov _ (hd_in hc h7 m),List.mem_filter.mpr ⟨m,decide_eq_true rfl⟩⟩
  ·rw[List.pairwise_flatMap]
   refine ⟨fun hh zz=>(r7.filter _).imp fun {a b} (l:a<b) (_:Cl cs a b)=>l,opw.imp fun {a b} lt x mx y my=>?_⟩
   obtain ⟨x1,x2⟩:=List.mem_filter.mp mx
   obtain ⟨y1,y2⟩:=List.mem_filter.mp my
   have x2:=of_decide_eq_true x2
   have y2:=of_decide_eq_true y2
   intro cl
   have hne:a≠b:=fun e=>by rw[e] at lt;lia
   rcases Int.lt_trichotomy x y with l|l|l
   ·exact l
   ·exact absurd (by rw[← x2,← y2,l]) hne
   ·have mw:(b,a)∈waitsL cs:=by
     unfold waitsL
     refine List.mem_filter.mpr ⟨(mem_pairs hc h7).mpr ?_,decide_eq_true fun e=>hne e.symm⟩
     rcases cl with m|m
     ·exact ⟨_,m,by show _=(hd cs (min x y),hd cs (max x y));rw[Int.min_eq_right (by lia),Int.max_eq_left (by lia),x2,y2]⟩
     ·exact ⟨_,m,by show _=(hd cs (min y x),hd cs (max y x));rw[Int.min_eq_left (by lia),Int.max_eq_right (by lia),x2,y2]⟩
    have:=of_decide_eq_true (kp _ mw)
    exact absurd lt (by show ¬ _<_;have:od.idxOf b<od.idxOf a:=this;lia)
end
noncomputable def ciT:List (Str×Nat):=[("deeds",1),("rows",2),("ons",3),("clashes",4),("waits",5),("row",6),("flag",7),("flags",8)]
noncomputable def ci (y:Str):Option Nat:=ciT.lookup y
theorem lookup_mem' {α β:Type} [BEq α] [LawfulBEq α]:∀ {l:List (α×β)} {y:α} {b:β},l.lookup y=some b→(y,b)∈l
 | [],_,_,h=>by simp at h
 | (a,c)::l,y,b,h=>by
  rw[List.lookup_cons] at h
  by_cases q:y == a
  ·rw[q] at h;cases h;rw[beq_iff_eq.mp q];exact .head _
  ·rw[show (y == a)=false by simpa using q] at h;exact .tail _ (lookup_mem' h)
theorem ci_inj {y':Str} {i:Nat} (a:ci y=some i) (b:ci y'=some i):y=y':=by
 have:∀ p∈ciT,∀ q∈ciT,p.2=q.2→p.1=q.1:=by decide +kernel
 exact this _ (lookup_mem' a) _ (lookup_mem' b) rfl
theorem ci_rng {i:Nat} (a:ci y=some i):1≤i∧i≤8:=by
 have:∀ p∈ciT,1≤p.2∧p.2≤8:=by decide +kernel
 exact this _ (lookup_mem' a)
noncomputable def FA (L:Addr):List Addr:=[L,L+1,L+2,L+3,L+4,L+5,L+6,L+7,L+8]
theorem add_ne {i:Nat} (h:1≤i):L+i≠L:=fun e=>by
 have e:(L:Nat)+i=L:=e
 exact absurd (Nat.add_eq_left.mp e) (by lia)
theorem add_inj {i:Nat} (e:L+i=L+j):i=j:=Nat.add_left_cancel e
theorem le8 {i:Nat} (a:1≤i) (b:i≤8):i=1∨i=2∨i=3∨i=4∨i=5∨i=6∨i=7∨i=8 :=
 (by decide:∀ i:Nat,i<9→1≤i→(i=1∨i=2∨i=3∨i=4∨i=5∨i=6∨i=7∨i=8)) i (Nat.lt_succ_of_le b) a
theorem mem_FA:a∈FA L↔a=L∨∃ i:Nat,1≤i∧i≤8∧a=L+i:=by
 unfold FA
 simp only[List.mem_cons,List.not_mem_nil,or_false]
 constructor
 ·rintro (h|h|h|h|h|h|h|h|h)
  ·exact .inl h
  all_goals exact .inr ⟨_,by decide,by decide,h⟩
 ·rintro (h|⟨i,h1,h2,h⟩)
  ·exact .inl h
  ·rcases le8 h1 h2 with rfl|rfl|rfl|rfl|rfl|rfl|rfl|rfl <;> simp[h]
noncomputable def CL (L:Addr) (κ:List (Str×VD)) (X:List Addr) (h:Heap):Prop :=
 (∀ i:Nat,1≤i→i≤8→∃ u,h.IsCell (L+i) u)∧∀ y D,κ.lookup y=some D→∃ i v,ci y=some i∧h.IsCell (L+i) (some v)∧D.at X h v
theorem isCell_keep {u:Option Value} (x:h.IsCell a u) (k:∀ o,h.get? a=some o→h'.get? a=some o):h'.IsCell a u:=by obtain ⟨o,e,d⟩:=x;exact ⟨o,k o e,d⟩
section
variable {D:VD} {i:Nat}
theorem rest_cl:Rest L (CL L κ) where
 up:=fun X X' h h' k q=>by
  rintro ⟨a,b⟩
  exact ⟨fun i x y=>(a i x y).imp fun zz z=>isCell_keep z fun o e=>k _ o e,fun y D e=>by
  obtain ⟨i,v,c,d,f⟩:=b y D e
  exact ⟨i,v,c,isCell_keep d fun o e=>k _ o e,VD.chg k.chg (VD.hid q f)⟩⟩
 off:=fun X h h'=>by
  rintro ⟨a,b⟩ hL nt k
  have ne:∀ i:Nat,1≤i→L+i∉[L]:=fun i h m=>add_ne h (m_s m)
  refine ⟨fun i x y=>(a i x y).imp fun zz z=>isCell_keep z fun o e=>k _ o (ne i x) e,fun y D e=>?_⟩
  obtain ⟨i,v,c,d,f⟩:=b y D e
  exact ⟨i,v,c,isCell_keep d fun o e=>k _ o (ne i (ci_rng c).1) e,VD.chg (k.chg fun b m=>by rw[m_s m];exact ⟨hL,nt.mk⟩) f⟩
theorem CL.nt (c:CL L κ X h) (h1:1≤i) (h2:i≤8):NT h (L+i):=by
 obtain ⟨u,o,e,d⟩:=c.1 i h1 h2
 exact ⟨o,e,not_tup_of_cell d⟩
theorem CL.sub (c:CL L κ X h) (s:∀ y D,κ'.lookup y=some D→κ.lookup y=some D):CL L κ' X h:=⟨c.1,fun y D e=>c.2 y D (s y D e)⟩
theorem CL.set (c:CL L κ X h) (hy:ci y=some i) (o:Off [L+i] h h') (hc:h'.IsCell (L+i) (some v)) (hv:D.at X h v) (hX:L+i∈X):CL L ((y,D)::κ) X h':=by
 obtain ⟨r1,r2⟩:=ci_rng hy
 have chg:Chg X h h':=o.chg fun b m=>by rw[m_s m];exact ⟨hX,(c.nt r1 r2).mk⟩
 refine ⟨fun j x z=>?_,fun y' D' e=>?_⟩
 ·by_cases q:j=i
  ·subst q;exact ⟨_,hc⟩
  ·exact (c.1 j x z).imp fun zz z=>isCell_keep z fun ob e=>o _ ob (fun m=>q (add_inj (m_s m))) e
 ·rw[List.lookup_cons] at e
  by_cases q:y'=y
  ·subst q
   simp at e
   subst e
   exact ⟨i,v,hy,hc,VD.chg chg hv⟩
  ·rw[show (y' == y)=false by simpa using q] at e
   obtain ⟨j,u,a,b,d⟩:=c.2 y' D' e
   have:j≠i:=fun z=>q (ci_inj a (z▸hy))
   exact ⟨j,u,a,isCell_keep b fun ob e=>o _ ob (fun m=>this (add_inj (m_s m))) e,VD.chg chg d⟩
end
structure FrC (A:Around) (n:Nat) (h0a:Heap) (L:Addr) (env:Env):Prop where
 le:LocEnv env L
 ge:GEnv env
 cells:∀ y,env.cells.lookup y=(ci y).map (L+·)
 k:∀ y,env.kindOf y=(fScope (topS 21)).names.lookup y
 ok:OKA (A.deeper env) n
 new:∀ a,L≤a→h0a.get? a=none
 f:env.frame=some L
structure Wc where
 K:Frag
 mg:Str→Option Value
 mb:Str→Option Value
 h0:Heap
 L:Addr
noncomputable abbrev WF (c:Wc) (ρ κ:List (Str×VD)) (R:XHP):XHP:=Fr2 c.K c.mg c.mb c.h0 c.L ρ (fun X h=>CL c.L κ X h∧R X h)
noncomputable abbrev Tt:XHP:=fun zz zz=>True
section
variable {c:Wc} {n:Nat} {p:Pos}
theorem rest_w (r:Rest c.L R):Rest c.L (fun X h=>CL c.L κ X h∧R X h):=rest_cl.and r
theorem upW (r:Rest c.L R):Up (WF c ρ κ R):=up2 (rest_w r)
theorem ev_cellR {V:VD} (hk:env.scope.kind=.function) (hy:env.kindOf y=some .cell∨env.kindOf y=some .free) (ha:env.cells.lookup y=some a) (hd:(y == ("__debug__":Str))=false) (hdc:(y == ("__classdict__":Str))=false) (hI:∀ X h,I X h→∃ v,h.IsCell a (some v)∧V.at X h v):EvR prog w A env I (.Name y p) (fun X h v=>V.at X h v) :=
 ev_nameR fun X h i=>by
  obtain ⟨v,b,e⟩:=hI X h i
  rcases hy with hy|hy
  ·exact ⟨v,⟨hk,hd,.inr (.inl ⟨hy,a,ha,b⟩)⟩,e⟩
  ·exact ⟨v,⟨hk,hd,.inr (.inr ⟨hy,hdc,a,ha,b⟩)⟩,e⟩
theorem WF.cell {V:VD} {i:Nat} (w:WF c ρ κ R X h) (hl:κ.lookup y=some V) (hi:ci y=some i):∃ v,h.IsCell (c.L+i) (some v)∧V.at X h v:=by
 obtain ⟨j,v,a,b,e⟩:=w.2.1.2 y V hl
 rw[hi] at a;cases a
 exact ⟨v,b,e⟩
theorem FrC.cd (fr:FrC A0 n h0a c.L env) (y:Str) {i:Nat} (a:(fScope (topS 21)).names.lookup y=some .cell) (hi:ci y=some i) (b:κ.lookup y=some (.dat d)) (e:(y == ("__debug__":Str))=false) (e':(y == ("__classdict__":Str))=false):Ev prog w A env (WF c ρ κ R) (.Name y p) d :=
 ev_cellR (V:=.dat d) fr.ge.kind (.inl (by rw[fr.k];exact a)) (a:=c.L+i) (by rw[fr.cells,hi];rfl) e e' fun X h w=>w.cell b hi
theorem FrC.cv (fr:FrC A0 n h0a c.L env) (y:Str) {i:Nat} (a:(fScope (topS 21)).names.lookup y=some .cell) (hi:ci y=some i) (b:κ.lookup y=some (.val u)) (e:(y == ("__debug__":Str))=false) (e':(y == ("__classdict__":Str))=false):EvR prog w A env (WF c ρ κ R) (.Name y p) (fun zz zz v=>v=u) :=
 ev_cellR (V:=.val u) fr.ge.kind (.inl (by rw[fr.k];exact a)) (a:=c.L+i) (by rw[fr.cells,hi];rfl) e e' fun X h w=>w.cell b hi
theorem FrC.ld (fr:FrC A0 n h0a c.L env) (y:Str) (a:(fScope (topS 21)).names.lookup y=some .local) (b:ρ.lookup y=some (.dat d)) (e:(y == ("__debug__":Str))=false):Ev prog w A env (WF c ρ κ R) (.Name y p) d:=ev_loc fr.le (by rw[fr.k];exact a) loc2 b e
theorem FrC.lv (fr:FrC A0 n h0a c.L env) (y:Str) (a:(fScope (topS 21)).names.lookup y=some .local) (b:ρ.lookup y=some (.val u)) (e:(y == ("__debug__":Str))=false):EvR prog w A env (WF c ρ κ R) (.Name y p) (fun zz zz v=>v=u):=ev_locv fr.le (by rw[fr.k];exact a) loc2 b e
theorem FrC.gl (fr:FrC A0 n h0a c.L env) (y:Str) (a:(fScope (topS 21)).names.lookup y=some .globalImplicit) (b:c.mg y=some v) (e:(y == ("__debug__":Str))=false):EvR prog w A env (WF c ρ κ R) (.Name y p) (fun zz zz u=>u=v):=ev_global gk2 fr.ge (by rw[fr.k];exact a) b e
theorem FrC.bl (fr:FrC A0 n h0a c.L env) (y:Str) (a:(fScope (topS 21)).names.lookup y=some .globalImplicit) (m:c.mg y=none) (b:c.mb y=some v) (e:(y == ("__debug__":Str))=false):EvR prog w A env (WF c ρ κ R) (.Name y p) (fun zz zz u=>u=v):=ev_builtin gk2 fr.ge (by rw[fr.k];exact a) m b e
noncomputable def RestC (L:Addr) (R:XHP):Prop:=∀ X h h' (i:Nat),R X h→L+i∈X→NT h (L+i)→Off [L+i] h h'→1≤i→i≤8→R X h'
theorem restC_tt:RestC L Tt:=fun zz zz zz zz zz zz zz zz zz zz=>trivial
theorem restC_ml {D:Addr} (hD:D∉FA L):RestC L (Ml D ds):=fun X h h' i m x n k a b=>m.off k (fun q=>hD (mem_FA.mpr (.inr ⟨i,a,b,m_s q⟩))) fun b q=>by rw[m_s q];exact ⟨x,n.mk⟩
theorem st_cell {V:VD} {i:Nat} {Q:Unit→Shared→Prop} (fr:FrC A0 n c.h0 c.L env) (rc:RestC c.L R) (G:GK c.K c.mg c.mb c.h0) (hk:(fScope (topS 21)).names.lookup y=some .cell) (hi:ci y=some i) (st:WF c ρ κ R X h) (hv:V.at X h v) (hX:∀ a∈FA c.L,a∈X) (bd:Bd X h)
  (k:∀ h' t',Off [c.L+i] h h'→Bd X h'→WF c ρ ((y,V)::κ) R X h'→Q () (To s h' t')):NR prog w A (storeName env y v) Q (To s h t):=by
 obtain ⟨r1,r2⟩:=ci_rng hi
 have mX:c.L+i∈X:=hX _ (mem_FA.mpr (.inr ⟨i,r1,r2,rfl⟩))
 obtain ⟨u,hu⟩:=st.2.1.1 i r1 r2
 refine wpAny_storeName_cell fr.ge.kind (by rw[fr.k];exact hk) (by rw[fr.cells,hi];rfl) hu fun h' hc sb=>?_
 have o:Off [c.L+i] h h':=fun b ob n e=>sb.extBut b ob (fun q=>n (q▸List.mem_singleton_self _)) e
 have nt:=st.2.1.nt r1 r2
 have hM:∀ b∈[c.L+i],c.h0.get? b=none∧b∈X∧b≠c.L∧∀ ob,h.get? b=some ob→¬ TupObj ob:=fun b m=>by
  rw[m_s m];exact ⟨fr.new _ (Nat.le_add_right _ _),mX,add_ne r1,nt.mk⟩
 refine k h' _ o (fun b m=>?_) ⟨st.1.off G o hM,st.2.1.set hi o hc hv mX,rc X h h' i st.2.2 mX nt o r1 r2⟩
 by_cases q:b=c.L+i
 ·subst q;obtain ⟨ob,e,_⟩:=hc;exact ⟨ob,e⟩
 ·obtain ⟨ob,e⟩:=bd b m;exact ⟨ob,o b ob (fun z=>q (m_s z)) e⟩
theorem asgC {V:VD} {e:Expr} {px pos:Pos} {i:Nat} {Q:FSP} (fr:FrC A0 n c.h0 c.L env) (r:Rest c.L R) (rc:RestC c.L R) (G:GK c.K c.mg c.mb c.h0) (hk:(fScope (topS 21)).names.lookup y=some .cell) (hi:ci y=some i) (st:WF c ρ κ R X h) (hev:EvR prog w A env (WF c ρ κ R) e (fun X h v=>V.at X h v)) (hX:∀ a∈FA c.L,a∈X) (bd:Bd X h)
  (hs:swapsWith e (some (.Name y px)) pos.line env=pure false)
  (k:∀ h' t',Off (FA c.L) h h'→Bd X h'→WF c ρ ((y,V)::κ) R X h'→Q .next (To s h' t')):NR prog w A (exec (.Assign [.Name y px] e pos) env) Q (To s h t) :=
 wpAny_Assign_Name (hs:=hs) (evF hev bd st fun v h1a t1a e1a a=>st_cell fr rc G hk hi (upW r _ _ _ _ e1a (Hid.refl _ _) st) a hX (bd.ext e1a) fun h' t' o b i'=>k h' t' ((Ext.off e1a).trans (o.mono fun q m=>by rw[m_s m];exact mem_FA.mpr (.inr ⟨i,(ci_rng hi).1,(ci_rng hi).2,rfl⟩))) b i')
theorem asgL {e:Expr} {px pos:Pos} {Q:FSP} (fr:FrC A0 n c.h0 c.L env) (r:Rest c.L R) (G:GK c.K c.mg c.mb c.h0) (hk:(fScope (topS 21)).names.lookup y=some .local) (st:WF c ρ κ R X h) (hev:Ev prog w A env (WF c ρ κ R) e d) (hX:∀ a∈FA c.L,a∈X) (bd:Bd X h)
  (hs:swapsWith e (some (.Name y px)) pos.line env=pure false)
  (k:∀ h' t',Off (FA c.L) h h'→Bd X h'→WF c ((y,.dat d)::ρ) κ R X h'→Q .next (To s h' t')):NR prog w A (exec (.Assign [.Name y px] e pos) env) Q (To s h t) :=
 asg2 (s:=To s h t) (hs:=hs) (rest_w r) st hev bd fr.le (by rw[fr.k];exact hk) G (fr.new _ (Nat.le_refl _)) (hX _ (.head _)) fun h' t' o b i=>k h' t' (o.mono fun q m=>by rw[m_s m];exact .head _) b i
end
noncomputable def freesG (g:Str→Addr) (names:List (Str×NameKind)) (acc:List (Str×Addr)):List (Str×Addr):=names.foldl (fun cs x=>if x.2 == .free then (x.1,g x.1)::cs else cs) acc
theorem clos_of {scope:Scope} {g:Str→Addr} (h:∀ x∈scope.names,x.2=.free→env.cells.lookup x.1=some (g x.1)):closureFor scope env=pure (freesG g scope.names []):=by
 have go:∀ (names:List (Str×NameKind)) (acc:List (Str×Addr)),(∀ x∈names,x.2=.free→env.cells.lookup x.1=some (g x.1)) →
   (forIn names acc fun x cs=>do
    if x.2 == .free then do
     let a ← cellOf env x.1
     pure (ForInStep.yield ((x.1,a)::cs))
    else pure (ForInStep.yield cs):Sem (List (Str×Addr)))=pure (freesG g names acc):=by
  intro names
  induction names with
  | nil=>intro acc _;rfl
  | cons x names ih =>
   intro acc hx
   rw[List.forIn_cons]
   by_cases q:x.2=.free
   ·rw[if_pos (by rw[q];rfl)]
    have:=hx x (.head _) q
    have e:cellOf env x.1=pure (g x.1):=by unfold cellOf;rw[this]
    rw[e]
    simp only[pure_bind]
    rw[ih _ fun y m=>hx y (.tail _ m)]
    unfold freesG
    rw[List.foldl_cons,if_pos (by rw[q];rfl)]
   ·have nq:(x.2 == NameKind.free)=false:=by simpa using q
    rw[nq]
    simp only[Bool.false_eq_true,if_false,pure_bind]
    rw[ih _ fun y m=>hx y (.tail _ m)]
    unfold freesG
    rw[List.foldl_cons,if_neg (by rw[nq];decide)]
 have:=go scope.names [] h
 unfold closureFor
 exact (congrArg (fun z=>z >>= fun cs=>(pure cs:Sem _)) this).trans (pure_bind _ _)
noncomputable def gL (L:Addr) (y:Str):Addr:=L+(ci y).getD 0
section
variable {c:Wc} {n:Nat} {p:Pos} {B:XHP}
theorem clos_law (fr:FrC A0 n c.h0 c.L env) {scope:Scope} (h:(scope.names.all fun x=>x.2 != .free || (ci x.1).isSome)=true):closureFor scope env=pure (freesG (gL c.L) scope.names []) :=
 clos_of fun x m e=>by
  have:=List.all_eq_true.mp h x m
  rw[e] at this
  have:(ci x.1).isSome=true:=by simpa using this
  obtain ⟨i,hi⟩:=Option.isSome_iff_exists.mp this
  rw[fr.cells,hi];unfold gL;rw[hi];rfl
theorem ev_cap {V:VD} {scope:Scope} {cl:List (Str×Addr)} (ce:CEnv scope cl env C cenv) (hy:scope.names.lookup y=some .free) (ha:(cellsFrom (C+1) scope.names cl).lookup y=some a) (hd:(y == ("__debug__":Str))=false) (hdc:(y == ("__classdict__":Str))=false) (hI:∀ X h,I X h→∃ v,h.IsCell a (some v)∧V.at X h v):EvR prog w A cenv I (.Name y p) (fun X h v=>V.at X h v) :=
 ev_cellR ce.le.kind (ce.free y hy) (by rw[ce.cells];exact ha) hd hdc hI
theorem WF.capd {scope:Scope} {cl:List (Str×Addr)} {i:Nat} (ce:CEnv scope cl env C cenv) (hy:scope.names.lookup y=some .free) (ha:(cellsFrom (C+1) scope.names cl).lookup y=some (c.L+i)) (hi:ci y=some i) (hl:κ.lookup y=some (.dat d)) (hd:(y == ("__debug__":Str))=false) (hdc:(y == ("__classdict__":Str))=false) (hI:∀ X h,I X h→WF c ρ κ R X h):Ev prog w A cenv I (.Name y p) d :=
 ev_cap (V:=.dat d) ce hy ha hd hdc fun X h i=>(hI X h i).cell hl hi
theorem asgU {α:Type} {T:List Addr→Heap→Value→α→Prop} {elt target iter:Expr} {ifs:List Expr} {rest:List Comprehension} {scope:Scope} {px spos pos:Pos} {cl:List (Str×Addr)} {p0a:Pos} {em:Env→Value→Sem Unit} {mt:Addr→List Addr} {S:Addr→Heap→Prop}
  {B:Addr→α→List Addr→Heap→Prop} {ds:List α} {Q:FSP}
  (fr:FrC A0 n c.h0 c.L env) (r:Rest c.L R) (G:GK c.K c.mg c.mb c.h0) (hk:(fScope (topS 21)).names.lookup y=some .local) (st:WF c ρ κ R X h) (upI:Up I) (sI:I X h) (hX:∀ a∈FA c.L,a∈X) (bd:Bd X h)
  (p:α→Bool) (outs:α→List PyData) (hC:ShpC scope mt S) (hclos:closureFor scope env=pure cl)
  (hkind:scope.kind=.function) (hnames:∀ x∈scope.names,x.2=.local→scope.names.lookup x.1=some .local)
  (hsrc:Src T prog w A env I target iter ds)
  (hturn:∀ cenv it acc,compTurn (.ListComp elt (⟨target,iter,ifs,0⟩::rest) scope pos) 0 it acc cenv=(do
   standAt p0a
   match ← pyNext it with
   | none=>pure (.done .next)
   | some v =>
    letOwnedTupleGo target it v
    assign target cenv v
    let mut ok:=true
    for c in ifs do
     if ok then ok ← isTrue c cenv (eval c cenv)
    if ok then
     em cenv acc
    again (.compLoop (.ListComp elt (⟨target,iter,ifs,0⟩::rest) scope pos) 0 it acc cenv)))
  (hT:∀ C,∀ d∈ds,TgtT prog w A T (cEnv scope cl C env) target (mt C) (S C) (B C d) d)
  (hts:∀ C,∀ d∈ds,Ts prog w A (cEnv scope cl C env) (fun X h=>I X h∧B C d X h) ifs (p d))
  (hem:∀ C,∀ d∈ds,p d=true→Em prog w A h 200000 (mt C) (S C) (fun X h=>I X h∧B C d X h) (em (cEnv scope cl C env)) (outs d))
  (hBe:∀ C d X h h',Ext h h'→B C d X h→B C d X h')
  (hlen:ds.length≤1000) (hout:∀ d∈ds,p d=true→(outs d).length≤100)
  (hsw:swapsWith (.ListComp elt (⟨target,iter,ifs,0⟩::rest) scope pos) (some (.Name y px)) spos.line env=pure true)
  (k:∀ h' t',Off (FA c.L) h h'→Bd X h'→WF c ((y,.dat (.list (outsOf p outs ds)))::ρ) κ R X h'→Q .next (To s h' t'))
  (hs:∀ x,foldedSetIterable iter env x=pure x:=by intro _;rfl):NR prog w A (exec (.Assign [.Name y px] (.ListComp elt (⟨target,iter,ifs,0⟩::rest) scope pos) spos) env) Q (To s h t):=by
 have up:=upW (ρ:=ρ) (κ:=κ) r
 have hL:c.L∈X:=hX _ (.head _)
 have L0:=fr.new _ (Nat.le_refl _)
 rw[exec_Assign_Name_used _ _ _ _ hsw]
 refine wpAny_bind (wpAny_standAt (wpAny_bind ?_))
 show wpAny _ A (do let _ ← comprehension (.ListComp elt (⟨target,iter,ifs,0⟩::rest) scope pos) scope env _ (newList []) false (eval iter env) (some (assign (.Name y px) env))) _ _ _
 refine wpAny_bind (wpAny_mono (wpAny_comprehension_free (use:=some (assign (.Name y px) env)) (Q:=fun zz s'=>Q .next s') rfl hs hclos hkind hnames
  (hsrc.wp bd sI fun v s1a k1a rr=>rr _ _ fun it fp wr St Mid s2a k2a It=>?_)) (fun zz s' hq=>wpAny_pure (wpAny_pure hq)) fun zz zz e=>e)
 refine comp_block (RR:=fun acc C=>compPost (model prog w) A _ (some (assign (.Name y px) env)) (fun zz s'=>Q .next s') acc C) p outs upI hC hturn hT hts hem hBe hlen hout It (kp_ext k1a) (kp_ext k2a) bd sI fun D C h3a tk items hD hCn hDC k3a hn hl hDX ha=>?_
 obtain ⟨g1a,t1a,rfl,e1a⟩:=k1a
 obtain ⟨g2a,t2a,rfl,e2a⟩:=k2a
 have D0:h.get? D=none:=none_before e1a (none_before e2a hD)
 have C0:h.get? C=none:=none_before e1a (none_before e2a hCn)
 have k3a:Ext h h3a:=k3a
 obtain ⟨mC,hnC⟩:=hn
 have st3:=up _ _ _ _ k3a (Hid.refl X _) st
 obtain ⟨m,hn0,hr0⟩:=st.1.2.2
 have hnL:=hn0.at' fun o e=>k3a _ o e
 have LC:c.L≠C:=fun q=>by obtain ⟨o,e⟩:=bd _ hL;rw[q,C0] at e;cases e
 have LD:c.L≠D:=fun q=>by obtain ⟨o,e⟩:=bd _ hL;rw[q,D0] at e;cases e
 show wpAny _ A (assign (.Name y px) env (.ref D)) _ _ _
 refine wpAny_assign_Name (wpAny_noRaise (store_local fr.le (by rw[fr.k];exact hk) hnL fun h4a hn4 o4a=>?_))
 have o4a:Off [c.L] h3a h4a:=o4a
 refine ⟨mC,hnC.at' fun o e=>o4a _ o (fun q=>LC (m_s q).symm) e,fun h5 sb=>?_⟩
 have o5a:Off [C] h4a h5:=fun b o n e=>sb.extBut b o (fun q=>n (q▸List.mem_singleton_self _)) e
 have oL:Off [c.L] h3a h4a:=o4a
 have nC:∀ b,(∃ o,h.get? b=some o)→b∉[C]:=fun b=>by
  rintro ⟨o,e⟩ m
  rw[m_s m,C0] at e;cases e
 have o05:Off [c.L] h h5:=fun b o n e=>o5a b o (nC b ⟨o,e⟩) (o4a b o n (k3a b o e))
 have ntL:=st.1.nt
 have bd5:Bd X h5:=fun b mb=>by
  by_cases q:b=c.L
  ·obtain ⟨o,e,_⟩:NT h4a c.L:=ns_not_tup hn4
   exact ⟨o,q▸o5a _ o (fun z=>LC (m_s z)) e⟩
  ·obtain ⟨o,e⟩:=bd b mb;exact ⟨o,o05 b o (fun z=>q (m_s z)) e⟩
 have ntC:NT h4a C:=ns_not_tup (hnC.at' fun o e=>o4a _ o (fun q=>LC (m_s q).symm) e)
 have hid:Hid X (C::X) h:=.new C0
 have aD:At X h5 (.ref D) (.list (outsOf p outs ds)):=by
  refine .list hDX ((hl.at fun o e=>o5a _ o (fun q=>hDC (m_s q)) (o4a _ o (fun q=>LD (m_s q).symm) e)):Lst h5 D items).isList ?_
  have c1:Chg (C::X) h3a h4a:=o4a.chg fun b mb=>by rw[m_s mb];exact ⟨.tail _ hL,(st3.1.nt).mk⟩
  have c2:Chg (C::X) h4a h5:=o5a.chg fun b mb=>by rw[m_s mb];exact ⟨.head _,ntC.mk⟩
  exact ((ha.chg c1).chg c2).hid Hid.less
 refine k h5 _ (o05.mono fun q mq=>by rw[m_s mq];exact .head _) bd5 ⟨?_,(rest_w r).off _ _ _ st.2 hL ntL o05⟩
 have c05:Chg X h h5:=o05.chg fun b mb=>by rw[m_s mb];exact ⟨hL,ntL.mk⟩
 have e05:Ext c.h0 h5:=ext_off st.1.2.1 o05 fun b mb=>by rw[m_s mb];exact L0
 refine ⟨G.ext e05,e05,_,hn4.at' fun o e=>o5a _ o (fun q=>LC (m_s q)) e,fun z E' ez=>?_⟩
 rw[List.lookup_cons] at ez
 by_cases q:z=y
 ·subst q
  simp at ez;subst ez
  exact ⟨.ref D,by simp,aD⟩
 ·rw[show (z == y)=false by simpa using q] at ez
  obtain ⟨u,a,b⟩:=hr0 z E' ez
  exact ⟨u,by simp[q,a],VD.chg c05 b⟩
end
section
theorem compStart_in {elt:Expr} {g g2a:Comprehension} {scope:Scope} {pos:Pos} {it acc:Value} {R:Result→Shared→Prop} (ha:g2a.is_async=0)
  (h0:codeAny (model prog w) A (.compLoop (.ListComp elt [g,g2a] scope pos) 1 it acc env) R s)
  (h:wpAny (model prog w) A (pyIter it) (fun it' s'=>codeAny (model prog w) A (.compLoop (.ListComp elt [g,g2a] scope pos) 1 it' acc env) R s')
   (notedBy (model prog w) A env fun x s'=>R (.error x) s') s) :
  codeAny (model prog w) A (.compStart (.ListComp elt [g,g2a] scope pos) 1 it acc env) R s:=by
 obtain ⟨tg,itr,ifs,as⟩:=g2a
 have ha:as=0:=ha
 subst ha
 refine codeAny_of_tree ?_
 show wpAny _ _ ((compStart (.ListComp elt [g,⟨tg,itr,ifs,0⟩] scope pos) 1 it acc env).onRaise (fun x=>do noteFrame x env;standAt theWindowsPlace)) _ _ s
 refine wpAny_notedAt ?_
 unfold compStart
 show wpAny _ _ (ask >>= _) _ _ s
 refine wpAny_bind (wpAny_askSetting (wpAny_ite ?_))
 split
 ·exact wpAny_bind (wpAny_pure (wpAny_pure (And.intro rfl h0)))
 ·refine wpAny_bind (wpAny_rule ?_)
  show wpAny _ _ (standAt itr.pos >>= _) _ _ s
  exact wpAny_bind (wpAny_standAt (wpAny_bind (wpAny_mono h (fun it' s' h'=>wpAny_pure (And.intro rfl h')) fun zz zz x=>x)))
theorem em_two {α:Type} {T:List Addr→Heap→Value→α→Prop} {elt target iter:Expr} {g:Comprehension} {ifs:List Expr} {scope:Scope} {pos:Pos} {mt:List Addr} {S S1a:Heap→Prop} {B1:XHP} {B:α→List Addr→Heap→Prop} {ds:List α} {p0a:Pos} {em:Value→Sem Unit}
  (p:α→Bool) (outs:α→List PyData) (up:Up fun X h=>I X h∧B1 X h) (hS:Shp mt S) (hS1:∀ X h,I X h∧B1 X h→S h) (hS2:∀ h,S h→S1a h) (hE:∀ X h,I X h→Ext hb h)
  (hI':∀ X X' M a b,I X a→Off M a b→(∀ q∈M,hb.get? q=none∧q∈X'∧∀ o,a.get? q=some o→¬ TupObj o)→Hid X X' hb→I X' b)
  (hsrc:Src T prog w A cenv (fun X h=>I X h∧B1 X h) target iter ds)
  (hturn:∀ it acc,compTurn (.ListComp elt [g,⟨target,iter,ifs,0⟩] scope pos) 1 it acc cenv=(do
   standAt p0a
   match ← pyNext it with
   | none=>pure (.done .next)
   | some v =>
    letOwnedTupleGo target it v
    assign target cenv v
    let mut ok:=true
    for c in ifs do
     if ok then ok ← isTrue c cenv (eval c cenv)
    if ok then
     em acc
    again (.compLoop (.ListComp elt [g,⟨target,iter,ifs,0⟩] scope pos) 1 it acc cenv)))
  (hT:∀ d∈ds,TgtT prog w A T cenv target mt S (B d) d)
  (hts:∀ d∈ds,Ts prog w A cenv (fun X h=>I X h∧B d X h) ifs (p d))
  (hem:∀ d∈ds,p d=true→Em prog w A hb 400000 mt S (fun X h=>I X h∧B d X h) em (outs d))
  (hBe:∀ d X h h',Ext h h'→B d X h→B d X h')
  (hlen:ds.length≤1000) (hout:∀ d∈ds,p d=true→(outs d).length≤100)
  (hs:∀ x,foldedSetIterable iter cenv x=pure x) :
  Em prog w A hb 200000 mt S1a (fun X h=>I X h∧B1 X h) (fun acc=>do
   let x ← eval iter cenv
   standAt iter.pos
   let x ← foldedSetIterable iter cenv x
   let _ ← runOwn (.compStart (.ListComp elt [g,⟨target,iter,ifs,0⟩] scope pos) 1 (← holding [x] (pyIter x)) acc cenv) cenv) (outsOf p outs ds):=fun s E X D ys hX hJ zz hD hDb hmt hDm hl hz=>by
 refine wpAny_bind (hsrc.wp hX hJ fun v s1a k1a rr=>wpAny_bind (wpAny_standAt (wpAny_bind (wpAny_of_eq (hs v) (wpAny_bind (wpAny_holding (rr _ _ fun it fp wr St Mid s2a k2a It=>wpAny_bind ?_)))))))
 obtain ⟨h1a,t1a,rfl,e1a⟩:=k1a
 obtain ⟨h2a,t2a,rfl,e2a⟩:=k2a
 have e1a:Ext s.heap h1a:=e1a
 have e2a:Ext h1a h2a:=e2a
 have E2:=Ext.trans e1a e2a
 have J2:=up _ _ _ _ E2 (Hid.refl X _) hJ
 have S2:=hS1 _ _ J2
 have wn:∀ b∈wr,s.heap.get? b=none:=It.new
 have nl:∀ {h:Heap},Ext s.heap h→NT h D:=fun e=>by obtain ⟨n,q⟩:=hl;exact ⟨_,e _ _ q,not_tup_of_cls rfl (by decide)⟩
 have nm:∀ {h:Heap},Ext s.heap h→∀ b∈mt,NT h b:=fun {h} e b m=>hS.there _ (hS1 _ _ (up _ _ _ _ e (Hid.refl X _) hJ)) b m
 have nw:∀ {b},(∃ o,s.heap.get? b=some o)→b∉wr:=by
  rintro b ⟨o,e⟩ m
  rw[wn _ m] at e;cases e
 have hD0:∃ o,s.heap.get? D=some o:=hX D hD
 have nfp:∀ b,b∈X→NT h1a b→b∉fp:=fun b mX=>by
  rintro ⟨o,e,nt⟩ mf
  rcases It.apart b mf with z|z|⟨o',e',t⟩
  ·exact nw (hX b mX) z
  ·exact z mX
  ·have e':h1a.get? b=some o':=e'
   rw[e] at e';cases e';exact nt t
 have hhid:Hid X (wr++X) hb:=fun x m=>(m_a m).elim (fun m=>.inr (none_before (hE _ _ hJ.1) (wn x m))) .inl
 have It':Iter T prog w A target (wr++X) s.heap h1a ds { s with heap:=h2a,toks:=t2a } it fp wr St Mid :=
  ⟨It.stab,It.sub,It.frame,It.next,It.done,It.self,It.st,It.there,It.new,fun b m=>by
   rcases It.apart b m with q|q|q
   ·exact .inl q
   ·by_cases z:b∈wr
    ·exact .inl z
    ·exact .inr (.inl fun y=>(m_a y).elim z q)
   ·exact .inr (.inr q),It.cls,It.mcls,fun i v h X'' hv hd c=>It.item i v h X'' hv (fun x m=>(hd x m).elim (fun q=>(m_a q).elim (fun q=>.inr (.inl q)) .inl) .inr) c,It.go⟩
 have bd':Bd (wr++X) h2a:=fun b m=>by
  rcases m_a m with m|m
  ·exact exl (It.cls _ _ It.st b m)
  ·exact hX.ext E2 b m
 have loop:codeAny (model prog w) A (.compLoop (.ListComp elt [g,⟨target,iter,ifs,0⟩] scope pos) 1 (.ref it) (.ref D) cenv) (fun r s'=>match r with|.ok f=>wpAny (model prog w) A (pure ()) (fun zz s'=>∃ h' tk zs,s'={ s with heap:=h',toks:=tk }∧Off (D::mt) s.heap h'∧S1a h'∧Lst h' D (ys++zs)∧AtAll X h' zs.toList (outsOf p outs ds)) E s'|.error e=>cameBackBy (model prog w) A cenv E e s') { s with heap:=h2a,toks:=t2a }:=by
  refine comp_loop (X:=wr++X) (mt:=mt) (S:=S) (I:=I) (B:=B) (ys:=ys) (hb:=hb) (b:=400000) p outs hturn hS hT hts hem hBe hlen hout (by omega) It' e2a bd' (m_r _ hD) (fun a m=>m_r _ (hmt a m).1) (fun a m=>m_l _ m) hDm hDb (fun a m=>(hmt a m).2) (nfp D hD (nl e1a)) (fun b mf mm=>nfp b (hmt b mm).1 (nm e1a b mm) mf) S2 (hl.at fun o e=>E2 _ _ e) (fun h k=>?_) fun h' tk zs k hs' hl' ha=>?_
  ·refine hI' X (wr++X) (D::mt++wr) h2a h J2.1 k (fun q m=>?_) hhid
   rcases m_a m with m|m
   ·rcases mC m with rfl|m
    ·exact ⟨hDb,m_r _ hD,(nl E2).mk⟩
    ·exact ⟨(hmt q m).2,m_r _ (hmt q m).1,(nm E2 q m).mk⟩
   ·obtain ⟨o,e,n⟩:=It.cls _ _ It.st q m
    exact ⟨none_before (hE _ _ hJ.1) (wn q m),m_l _ m,NT.mk ⟨o,e,n⟩⟩
  ·refine wpAny_pure ⟨h',tk,zs,rfl,fun b o n e=>k b o (fun m=>?_) (E2 _ _ e),hS2 _ hs',hl',ha.hid fun x m=>.inl (m_r _ m)⟩
   rcases m_a m with m|m
   ·exact n m
   ·rw[wn b m] at e;cases e
 exact wpAny_runOwn (compStart_in rfl loop (It'.self 0 _ _ _ It'.st loop))
end
noncomputable def lawS (i:Nat):Stmt:=((fBody (topS 21))[i]?).getD (.Pass default)
structure LwN (c:Wc):Prop where
 G:GK c.K c.mg c.mb c.h0
 row:∃ f,c.mg "_law_row"=some (.ref f)∧FnK c.K f "_law_row" (topS 18) .none .none
 beg:∃ f,c.mg "_law_begins"=some (.ref f)∧FnK c.K f "_law_begins" (topS 19) .none .none
 b64:∃ f T,c.mg "b64encode"=some (.ref f)∧FnK c.K f "b64encode" (topS 9) (.ref T) .none∧∃ oc od osl m,c.K.lookup T=some ⟨oc,od,.seq #[.none] m,osl⟩
 b2a:∃ a kV,FnK c.K a "b2a_base64" (topS 7) .none kV∧c.mg "b2a_base64"=some (.ref a)
 BN:B64Names c.K c.mg c.mb
 len:c.mg "len"=none
 lenb:c.mb "len"=some (.builtin "len")
 chr:c.mg "chr"=none
 chrb:c.mb "chr"=some (.builtin "chr")
 tup:c.mg "tuple"=none
 tupb:c.mb "tuple"=some (.type "tuple")
 rng:c.mg "range"=none
 rngb:c.mb "range"=some (.type "range")
 mn:c.mg "min"=none
 mnb:c.mb "min"=some (.builtin "min")
 mx:c.mg "max"=none
 mxb:c.mb "max"=some (.builtin "max")
theorem oct_ok:∀ os∈all26,(1≤os.length∧os.length≤3)∧(∀ o∈os,0≤o∧o<256)∧(∀ x∈b64 os,0≤x∧x<1000)∧(b64 os).length≤100∧Oct (b64 os):=by
 have:∀ os∈all26,(1≤os.length∧os.length≤3)∧(∀ o∈os,0≤o∧o<256)∧(∀ x∈b64 os,0≤x∧x<256)∧(b64 os).length≤100:=by decide +kernel
 intro os h
 obtain ⟨a,b,c,d⟩:=this os h
 exact ⟨a,b,fun x m=>⟨(c x m).1,by have:=(c x m).2;lia⟩,d,c⟩
noncomputable def keyD (c:Int):PyData:=.tuple ((keyO (octs c)).map .str)
section
variable {c:Wc} {cs:List Int} {n:Nat} {k:Int}
theorem deed_at (h7:cs.length=7) (hk:k∈R7):(cs.map deedD)[k.toNat]?=some (deedD (atI cs k))∧0≤k∧k<7:=by
 have hr:0≤k∧k<7:=by
  simp only[List.mem_cons,List.not_mem_nil,or_false] at hk
  rcases hk with rfl|rfl|rfl|rfl|rfl|rfl|rfl <;> decide
 refine ⟨?_,hr⟩
 have:k.toNat<cs.length:=by lia
 rw[List.getElem?_map,List.getElem?_eq_getElem this]
 unfold atI
 rw[List.getElem?_eq_getElem this];rfl
theorem ev_kd {o e:Expr} {p1 p2 p3:Pos} (h7:cs.length=7) (hk:k∈R7) (up:Up I) (x:Ev prog w A env I o (.list (cs.map deedD))) (y:Ev prog w A env I e (.int k))
  (hs:∀ a t,subscripted e false (.ref a) (.int k t)=operate [.ref a,.int k t] (getItem (.ref a) (.int k t))):Ev prog w A env I (.Subscript (.Subscript o e p1) (.Constant (.int 1) kk p2) p3) (.int (kd cs k)):=by
 obtain ⟨a,b,e⟩:=deed_at (cs:=cs) h7 hk
 exact ev_at 1 up (ev_lat up x y b (by lia) a hs) (by decide) (by decide) rfl rfl
theorem ev_hd {o e:Expr} {p1 p2 p3:Pos} (h7:cs.length=7) (hk:k∈R7) (up:Up I) (x:Ev prog w A env I o (.list (cs.map deedD))) (y:Ev prog w A env I e (.int k))
  (hs:∀ a t,subscripted e false (.ref a) (.int k t)=operate [.ref a,.int k t] (getItem (.ref a) (.int k t))):Ev prog w A env I (.Subscript (.Subscript o e p1) (.Constant (.int 0) kk p2) p3) (.int (hd cs k)):=by
 obtain ⟨a,b,e⟩:=deed_at (cs:=cs) h7 hk
 exact ev_at 0 up (ev_lat up x y b (by lia) a hs) (by decide) (by decide) rfl rfl
theorem sw_cell {v:Expr} {px:Pos} {l:Nat} (h:env.kindOf y=some .cell):swapsWith v (some (.Name y px)) l env=pure false:=by
 unfold swapsWith
 have:(some NameKind.cell == some NameKind.local)=false:=rfl
 cases v <;> simp[h,this]
theorem sw_used {elt:Expr} {gs:List Comprehension} {scope:Scope} {pos px:Pos} {l:Nat} (hb:env.blockKind=.function) (h:env.kindOf y=some .local) (hl:(px.line == pos.line)=true) (hn:(scope.names.any fun x=>x.1 == y && (x.2 == .local || x.2 == .cell))=false):swapsWith (.ListComp elt gs scope pos) (some (.Name y px)) l env=pure true:=by
 unfold swapsWith
 show pure (env.blockKind == .function && env.kindOf y == some .local && px.line == pos.line && !(scope.names.any fun x=>x.1 == y && (x.2 == .local || x.2 == .cell)))=_
 rw[hb,h,hl,hn];rfl
noncomputable def Cont (c:Wc) (ρ κ:List (Str×VD)) (R:XHP) (s:Shared) (h:Heap) (Q:FSP):Prop:=∀ h' t',Off (FA c.L) h h'→Bd (FA c.L) h'→WF c ρ κ R (FA c.L) h'→Q .next (To s h' t')
noncomputable def rO (c:Int):List (Str×VD):=[("octets",.dat (.list ((octs c).map .int))),("kind",.dat (.int (c.fmod 6))),("hand",.dat (.int ((restI c).fdiv 54)))]
theorem tgtO {e:LocEnv cenv C} {k:Nat} {p1 p2 p3 p4:Pos} {a:Int} (hh:A.handled=none) (h1:cenv.kindOf "hand"=some .local) (h2:cenv.kindOf "kind"=some .local) (h3:cenv.kindOf "octets"=some .local):TgtT prog w A (AtF deedD) cenv (.Tuple [.Name "hand" p1,.Name "kind" p2,.Name "octets" p3] k p4) [C] (S0 C) (Loc C (rO a)) a :=
 tgtN hh e rfl rfl rfl (.cons h1 (.cons h2 (.cons h3 .nil)))
theorem s_rows {Q:FSP} (N:LwN c) (fr:FrC A0 n c.h0 c.L env) (hA:OKA A (n+1)) (r:Rest c.L R) (rc:RestC c.L R) (hc:∀ c∈cs,0≤c∧c<972) (h7:cs.length=7) (st:WF c ρ κ R (FA c.L) h) (bd:Bd (FA c.L) h) (hd:κ.lookup ("deeds":Str)=some (.dat (.list (cs.map deedD))))
  (k:Cont c ρ (("rows",.dat (.list (cs.map fun c=>rowD (octs c))))::κ) R s h Q):NR prog w A (exec (lawS 1) env) Q (To s h t):=by
 obtain ⟨f,hf,F⟩:=N.row
 have up:=upW (ρ:=ρ) (κ:=κ) r
 show NR prog w A (exec (.Assign [_] _ _) env) _ _
 refine asgC (V:=.dat (.list (cs.map fun c=>rowD (octs c)))) fr r rc N.G (by kernel_rfl) rfl st ?_ (fun a m=>m) bd (sw_cell (by rw[fr.k];kernel_rfl)) k
 show Ev prog w A env _ _ (.list _)
 refine Ev.eq ?_ (compL (f:=deedD) (as:=cs) (cl:=[]) rO (fun zz=>true) (fun c=>rowD (octs c)) up (by decide +kernel) (by rfl) (by kernel_rfl) (by decide +kernel) (src_listF deedD hA.handled (fr.cd "deeds" (by kernel_rfl) rfl hd (by decide +kernel) (by decide +kernel)))
  (fun C cenv ce a zz=>tgtO (e:=ce.le) hA.handled (ce.k _ _ (by kernel_rfl) (by decide)) (ce.k _ _ (by kernel_rfl) (by decide)) (ce.k _ _ (by kernel_rfl) (by decide))) (fun C cenv ce a zz=>ts_nil) (fun C cenv ce a ma zz=>ev_call (ds:=[.list ((octs a).map .int)]) (up_and up up_loc) (ev_global (fun X h i=>i.1.1.1) (ce.ge fr.ge) (ce.k _ _ (by kernel_rfl) (by decide)) hf (by decide +kernel)) (F.keep fun X h i=>i.1.1.1) (ev_cons (up_and up up_loc) (ev_loc ce.le (ce.k _ _ (by kernel_rfl) (by decide)) (fun zz zz i=>i.2) (by rfl) (by kernel_rfl)) ev_nil) fun s X vs b i a'=>?_) (by lia))
 ·rw[List.filter_eq_self.mpr (fun zz zz=>rfl)]
 ·have o:=oct_ok _ (octs_in (hc a ma)).1
  exact law_row (n:=n) F hA i.1.1.1 N.len N.lenb o.1.1 o.1.2 o.2.1 b a'
end
theorem outsOf_one {α:Type} (p:α→Bool) (o:α→PyData) (as:List α):outsOf p (fun a=>[o a]) as=(as.filter p).map o:=by
 induction as with
 | nil=>rfl
 | cons a as ih =>
  rw[outsOf,List.flatMap_cons,List.filter_cons]
  cases q:p a <;> simp[← ih,outsOf]
section
variable {c:Wc} {cs:List Int} {n:Nat} {k:Int}
theorem compUX {α:Type} {f:α→PyData} {elt target iter:Expr} {ifs:List Expr} {scope:Scope} {px spos pos:Pos} {cl:List (Str×Addr)} {as:List α} {Q:FSP} (ρ':α→List (Str×VD)) (p:α→Bool) (o:α→PyData)
  (fr:FrC A0 n c.h0 c.L env) (r:Rest c.L R) (G:GK c.K c.mg c.mb c.h0) (hk:(fScope (topS 21)).names.lookup y=some .local) (st:WF c ρ κ R X h) (hX:∀ a∈FA c.L,a∈X) (bd:Bd X h)
  (hc:∀ x∈scope.names,x.2≠.cell) (hclos:closureFor scope env=pure cl) (hkind:scope.kind=.function) (hnames:∀ x∈scope.names,x.2=.local→scope.names.lookup x.1=some .local)
  (hsrc:Src (AtF f) prog w A env (WF c ρ κ R) target iter as)
  (hT:∀ C cenv,CEnv scope cl env C cenv→∀ a∈as,TgtT prog w A (AtF f) cenv target [C] (S0 C) (Loc C (ρ' a)) a)
  (hts:∀ C cenv,CEnv scope cl env C cenv→∀ a∈as,Ts prog w A cenv (fun X h=>WF c ρ κ R X h∧Loc C (ρ' a) X h) ifs (p a))
  (hel:∀ C cenv,CEnv scope cl env C cenv→∀ a∈as,p a=true→Ev prog w A cenv (fun X h=>WF c ρ κ R X h∧Loc C (ρ' a) X h) elt (o a))
  (hlen:as.length≤1000)
  (hsw:swapsWith (.ListComp elt [⟨target,iter,ifs,0⟩] scope pos) (some (.Name y px)) spos.line env=pure true)
  (k:∀ h' t',Off (FA c.L) h h'→Bd X h'→WF c ((y,.dat (.list ((as.filter p).map o)))::ρ) κ R X h'→Q .next (To s h' t'))
  (hs:∀ x,foldedSetIterable iter env x=pure x:=by intro _;rfl):NR prog w A (exec (.Assign [.Name y px] (.ListComp elt [⟨target,iter,ifs,0⟩] scope pos) spos) env) Q (To s h t):=by
 rw[← outsOf_one] at k
 exact asgU (p0a:=iter.pos) (em:=fun cenv acc=>do let _ ← call (.builtin "list.append") [acc,← eval elt cenv]) (hs:=hs) (T:=AtF f) (ds:=as) (mt:=fun C=>[C]) (S:=S0) (B:=fun C a=>Loc C (ρ' a)) (cl:=cl) fr r G hk st (upW r) st hX bd p (fun a=>[o a]) (shp0 hc) hclos hkind hnames hsrc (fun zz zz zz=>rfl)
  (fun C a m=>hT C _ (cenv_of hkind) a m) (fun C a m=>hts C _ (cenv_of hkind) a m) (fun C a m q=>em_elt (shp_ns C) (hel C _ (cenv_of hkind) a m q)) (fun C a X h h' k l=>l.ext k) hlen (fun zz zz zz=>by simp) hsw k
theorem compU {α:Type} {f:α→PyData} {elt target iter:Expr} {ifs:List Expr} {scope:Scope} {px spos pos:Pos} {cl:List (Str×Addr)} {as:List α} {Q:FSP} (ρ':α→List (Str×VD)) (p:α→Bool) (o:α→PyData)
  (fr:FrC A0 n c.h0 c.L env) (r:Rest c.L R) (G:GK c.K c.mg c.mb c.h0) (hk:(fScope (topS 21)).names.lookup y=some .local) (st:WF c ρ κ R (FA c.L) h) (bd:Bd (FA c.L) h)
  (hc:∀ x∈scope.names,x.2≠.cell) (hclos:closureFor scope env=pure cl) (hkind:scope.kind=.function) (hnames:∀ x∈scope.names,x.2=.local→scope.names.lookup x.1=some .local)
  (hsrc:Src (AtF f) prog w A env (WF c ρ κ R) target iter as)
  (hT:∀ C cenv,CEnv scope cl env C cenv→∀ a∈as,TgtT prog w A (AtF f) cenv target [C] (S0 C) (Loc C (ρ' a)) a)
  (hts:∀ C cenv,CEnv scope cl env C cenv→∀ a∈as,Ts prog w A cenv (fun X h=>WF c ρ κ R X h∧Loc C (ρ' a) X h) ifs (p a))
  (hel:∀ C cenv,CEnv scope cl env C cenv→∀ a∈as,p a=true→Ev prog w A cenv (fun X h=>WF c ρ κ R X h∧Loc C (ρ' a) X h) elt (o a))
  (hlen:as.length≤1000)
  (hsw:swapsWith (.ListComp elt [⟨target,iter,ifs,0⟩] scope pos) (some (.Name y px)) spos.line env=pure true)
  (k:Cont c ((y,.dat (.list ((as.filter p).map o)))::ρ) κ R s h Q)
  (hs:∀ x,foldedSetIterable iter env x=pure x:=by intro _;rfl):NR prog w A (exec (.Assign [.Name y px] (.ListComp elt [⟨target,iter,ifs,0⟩] scope pos) spos) env) Q (To s h t) :=
 compUX (hs:=hs) ρ' p o fr r G hk st (fun zz m=>m) bd hc hclos hkind hnames hsrc hT hts hel hlen hsw k
theorem fr_fun (fr:FrC A0 n c.h0 c.L env):env.blockKind=.function:=by
 have:=fr.ge.kind
 unfold Env.blockKind
 simp[this,ScopeKind.isAnnotationScope]
theorem bne_decide (a b:Int):(a != b)=decide (a≠b):=by by_cases q:a=b <;> simp[q]
theorem R7_range {k:Int} (h:k∈R7):0≤k∧k<7:=by
 simp only[List.mem_cons,List.not_mem_nil,or_false] at h
 rcases h with rfl|rfl|rfl|rfl|rfl|rfl|rfl <;> decide
theorem s_offs {Q:FSP} (N:LwN c) (fr:FrC A0 n c.h0 c.L env) (hh:A.handled=none) (r:Rest c.L R) (h7:cs.length=7) (st:WF c ρ κ R (FA c.L) h) (bd:Bd (FA c.L) h) (hd:κ.lookup ("deeds":Str)=some (.dat (.list (cs.map deedD))))
  (k:Cont c (("offs",.dat (.list ((offsL cs).map .int)))::ρ) κ R s h Q):NR prog w A (exec (lawS 3) env) Q (To s h t):=by
 have up:=upW (ρ:=ρ) (κ:=κ) r
 show NR prog w A (exec (.Assign [.Name "offs" _] (.ListComp _ [⟨_,_,_,0⟩] _ _) _) env) _ _
 refine compU (f:=PyData.int) (as:=R7) (fun k=>[("k",.dat (.int k))]) (fun k=>decide (kd cs k<2)) (fun k=>.int k) fr r N.G (by kernel_rfl) st bd (by decide +kernel) (clos_law fr (by decide +kernel)) (by kernel_rfl) (by decide +kernel) (src_range up hh (fr.bl "range" (by kernel_rfl) N.rng N.rngb (by decide +kernel)))
  (fun C cenv ce a zz=>tgt1 ce.le (ce.k _ _ (by kernel_rfl) (by decide))) (fun C cenv ce a ma=>ts_one ?_) (fun C cenv ce a ma zz=>ev_loc ce.le (ce.k _ _ (by kernel_rfl) (by decide)) (fun zz zz i=>i.2) (by rfl) (by kernel_rfl)) (by decide) (sw_used (fr_fun fr) (by rw[fr.k];kernel_rfl) (by kernel_rfl) (by kernel_rfl)) k
 refine tr_cmp (up_and up up_loc) (ev_kd h7 ma (up_and up up_loc) (WF.capd (i:=1) ce (by kernel_rfl) (by kernel_rfl) rfl hd (by decide +kernel) (by decide +kernel) fun X h i=>i.1) (ev_loc ce.le (ce.k _ _ (by kernel_rfl) (by decide)) (fun zz zz i=>i.2) (by rfl) (by kernel_rfl)) fun zz zz=>by with_unfolding_all rfl) ev_int fun s X u v zz x y=>op_lt x y
theorem s_ons {Q:FSP} (N:LwN c) (fr:FrC A0 n c.h0 c.L env) (hh:A.handled=none) (r:Rest c.L R) (rc:RestC c.L R) (h7:cs.length=7) (st:WF c ρ κ R (FA c.L) h) (bd:Bd (FA c.L) h) (hd:κ.lookup ("deeds":Str)=some (.dat (.list (cs.map deedD))))
  (k:Cont c ρ (("ons",.dat (.list ((onsL cs).map .int)))::κ) R s h Q):NR prog w A (exec (lawS 4) env) Q (To s h t):=by
 have up:=upW (ρ:=ρ) (κ:=κ) r
 show NR prog w A (exec (.Assign [_] _ _) env) _ _
 refine asgC (V:=.dat (.list ((onsL cs).map .int))) fr r rc N.G (by kernel_rfl) rfl st ?_ (fun a m=>m) bd (sw_cell (by rw[fr.k];kernel_rfl)) k
 show Ev prog w A env _ _ (.list _)
 refine compL (f:=PyData.int) (as:=R7) (fun k=>[("k",.dat (.int k))]) (fun k=>decide (kd cs k>1)) (fun k=>.int k) up (by decide +kernel) (clos_law fr (by decide +kernel)) (by kernel_rfl) (by decide +kernel) (src_range up hh (fr.bl "range" (by kernel_rfl) N.rng N.rngb (by decide +kernel)))
  (fun C cenv ce a zz=>tgt1 ce.le (ce.k _ _ (by kernel_rfl) (by decide))) (fun C cenv ce a ma=>ts_one ?_) (fun C cenv ce a ma zz=>ev_loc ce.le (ce.k _ _ (by kernel_rfl) (by decide)) (fun zz zz i=>i.2) (by rfl) (by kernel_rfl)) (by decide)
 refine tr_cmp (up_and up up_loc) (ev_kd h7 ma (up_and up up_loc) (WF.capd (i:=1) ce (by kernel_rfl) (by kernel_rfl) rfl hd (by decide +kernel) (by decide +kernel) fun X h i=>i.1) (ev_loc ce.le (ce.k _ _ (by kernel_rfl) (by decide)) (fun zz zz i=>i.2) (by rfl) (by kernel_rfl)) fun zz zz=>by with_unfolding_all rfl) ev_int fun S X u v zz x y=>op_gt x y
theorem s_keys {Q:FSP} (N:LwN c) (fr:FrC A0 n c.h0 c.L env) (hA:OKA A (n+3)) (r:Rest c.L R) (hc:∀ c∈cs,0≤c∧c<972) (h7:cs.length=7) (st:WF c ρ κ R (FA c.L) h) (bd:Bd (FA c.L) h) (hd:κ.lookup ("deeds":Str)=some (.dat (.list (cs.map deedD))))
  (k:Cont c (("keys",.dat (.list (cs.map keyD)))::ρ) κ R s h Q):NR prog w A (exec (lawS 2) env) Q (To s h t):=by
 obtain ⟨f,T,hf,F,hT⟩:=N.b64
 have up:=upW (ρ:=ρ) (κ:=κ) r
 have hh:=hA.handled
 show NR prog w A (exec (.Assign [.Name "keys" _] (.ListComp _ [⟨_,_,_,0⟩] _ _) _) env) _ _
 refine compU (f:=deedD) (as:=cs) rO (fun zz=>true) keyD fr r N.G (by kernel_rfl) st bd (by decide +kernel) (clos_law fr (by decide +kernel)) (by kernel_rfl) (by decide +kernel) (src_listF deedD hh (fr.cd "deeds" (by kernel_rfl) rfl hd (by decide +kernel) (by decide +kernel)))
  (fun C cenv ce a zz=>tgtO (e:=ce.le) hh (ce.k _ _ (by kernel_rfl) (by decide)) (ce.k _ _ (by kernel_rfl) (by decide)) (ce.k _ _ (by kernel_rfl) (by decide))) (fun C cenv ce a zz=>ts_nil) (fun C cenv ce a ma zz=>?_) (by lia) (sw_used (fr_fun fr) (by rw[fr.k];kernel_rfl) (by kernel_rfl) (by kernel_rfl)) ?_
 ·obtain ⟨o1,o2,o3,o4,o5⟩:=oct_ok _ (octs_in (hc a ma)).1
  have up2:=up_and up (up_loc (L:=C) (ρ:=rO a))
  refine ev_call (ds:=[.list ((keyO (octs a)).map .str)]) up2 (ev_builtin (fun X h i=>i.1.1.1) (ce.ge fr.ge) (ce.k _ _ (by kernel_rfl) (by decide)) N.tup N.tupb (by decide +kernel)) keeper_type (ev_cons up2 ?_ ev_nil) fun s X vs zz zz a'=>op_tuple_list a' ?_
  ·refine Ev.eq ?_ (compL (f:=PyData.int) (as:=b64 (octs a)) (fun x=>[("sign",.dat (.int x))]) (fun x=>decide (x≠61)) (fun x=>.str (chS x)) up2 (by decide +kernel) (by rfl) (by kernel_rfl) (by decide +kernel) (src_bytes hh o5 ?_)
    (fun C' cenv' ce' x zz=>tgt1 ce'.le (ce'.k _ _ (by kernel_rfl) (by decide))) (fun C' cenv' ce' x mx=>ts_one ?_) (fun C' cenv' ce' x mx zz=>?_) (by lia))
   ·unfold keyO;rw[List.map_map];rfl
   ·refine ev_call1R (R':=fun zz zz v=>IsB (octs a) v) up2 (ev_global (fun X h i=>i.1.1.1) (ce.ge fr.ge) (ce.k _ _ (by kernel_rfl) (by decide)) hf (by decide +kernel)) (F.keep fun X h i=>i.1.1.1) ?_ ?_
    ·exact ev_callR (ds:=[.list ((octs a).map .int)]) up2 (ev_builtin (fun X h i=>i.1.1.1) (ce.ge fr.ge) (ce.k _ _ (by kernel_rfl) (by decide)) N.BN.m2 N.BN.b2 (by decide +kernel)) keeper_type (ev_cons up2 (ev_loc ce.le (ce.k _ _ (by kernel_rfl) (by decide)) (fun zz zz i=>i.2) (by rfl) (by kernel_rfl)) ev_nil) fun s X vs E zz zz a'=>call_bytes hh o2 (by lia) a' E
    ·exact fun s X v E zz i hv=>b64encode (n:=n) F hT hA i.1.1.1 N.BN N.b2a o2 (by lia) hv E
   ·exact Tr.eq (b:=x != 61) (by rw[bne_decide]) (tr_cmp (up_and up2 up_loc) (ev_loc ce'.le (ce'.k _ _ (by kernel_rfl) (by decide)) (fun zz zz i=>i.2) (by rfl) (by kernel_rfl)) ev_int fun S X u v zz x y=>op_nei x y)
   ·exact ev_call (ds:=[.int x]) (up_and up2 up_loc) (ev_builtin (fun X h i=>i.1.1.1.1) (ce'.ge (ce.ge fr.ge)) (ce'.k _ _ (by kernel_rfl) (by decide)) N.chr N.chrb (by decide +kernel)) keeper_builtin (ev_cons (up_and up2 up_loc) (ev_loc ce'.le (ce'.k _ _ (by kernel_rfl) (by decide)) (fun zz zz i=>i.2) (by rfl) (by kernel_rfl)) ev_nil) fun s X vs zz zz a'=>op_chr a' (o3 x mx).1 (o3 x mx).2
  ·have:=(key_ok _ (octs_in (hc a ma)).1).2.1
   rw[List.length_map];lia
 ·rw[List.filter_eq_self.mpr (fun zz zz=>rfl)];exact k
end
noncomputable def Io (hb:Heap) (Xb X:List Addr) (h:Heap):Prop:=Ext hb h∧Hid Xb X hb
theorem Hid.trans' {X'':List Addr} {a b:Heap} (x:Hid X X' a) (y:Hid X' X'' b) (e:Ext a b):Hid X X'' a:=fun z m=>by
 rcases y z m with y|y
 ·exact x z y
 ·exact .inr (none_before e y)
theorem up_io:Up (Io hb Xb):=fun X X' h h' k q=>by
 rintro ⟨a,b⟩
 exact ⟨Ext.trans a k,b.trans' q a⟩
theorem io_self:Io hb Xb Xb hb:=⟨Ext.refl _,Hid.refl _ _⟩
theorem io_in (up:Up I) (i:I Xb hb):∀ X h,Io hb Xb X h→I X h:=fun X h x=>up _ _ _ _ x.1 x.2 i
theorem io_off:∀ X X' M a b,Io hb Xb X a→Off M a b→(∀ q∈M,hb.get? q=none∧q∈X'∧∀ o,a.get? q=some o→¬ TupObj o)→Hid X X' hb→Io hb Xb X' b:=fun X X' M a b=>by
 rintro ⟨e,k⟩ o hM hx
 exact
 ⟨fun q ob eq=>o q ob (fun m=>by rw[(hM q m).1] at eq;cases eq) (e q ob eq),k.trans' hx (Ext.refl _)⟩
noncomputable def Tk (h h':Heap):Prop:=∀ b o,h.get? b=some o→TupObj o→h'.get? b=some o
noncomputable def Pl0 (D:VD):Prop:=∀ X X' h h' v,D.at X h v→Tk h h'→D.at X' h' v
theorem pl_int (i:Int):Pl0 (.dat (.int i)):=fun X X' h h' v a zz=>by obtain ⟨t,rfl⟩:=At.int_inv a;exact .int _ _
theorem pl_strs (ks:List Str):Pl0 (.dat (.tuple (ks.map .str))):=fun X X' h h' v a k=>by
 obtain ⟨t,items,rfl,⟨o,ho,hc,n,hd⟩,r⟩:=At.tuple_inv a
 refine At.tuple ⟨o,k t o ho ⟨hc,_,n,hd⟩,hc,n,hd⟩ ?_
 have:∀ (vs:List Value) (ks:List Str),AtAll X h vs (ks.map .str)→AtAll X' h' vs (ks.map .str):=fun vs ks=>by
  induction ks generalizing vs with
  | nil=>intro a;rw[a.nil_inv];exact .nil
  | cons k ks ih =>
   intro a
   obtain ⟨v,ws,rfl,b,c⟩:=a.cons_inv
   obtain ⟨t,rfl⟩:=b.str_inv
   exact .cons (.str _ _) (ih _ c)
 exact this _ _ r
noncomputable def AllPl (ρ:List (Str×VD)):Prop:=∀ x D,ρ.lookup x=some D→Pl0 D
theorem allpl_nil:AllPl []:=fun zz zz e=>by simp at e
theorem AllPl.cons {D:VD} (p:Pl0 D) (r:AllPl ρ):AllPl ((y,D)::ρ):=fun x D' e=>by
 rw[List.lookup_cons] at e
 cases q:x == y with
 | true=>rw[q] at e;simp at e;subst e;exact p
 | false=>rw[q] at e;exact r x D' e
section
theorem Loc.pl (l:Loc C ρ X h) (p:AllPl ρ):Loc C ρ X' h:=by obtain ⟨m,a,b⟩:=l;exact ⟨m,a,fun x D e=>by
 obtain ⟨v,c,d⟩:=b x D e
 exact ⟨v,c,p x D e _ _ _ _ _ d fun zz zz e zz=>e⟩⟩
theorem Loc.pl' (l:Loc C ρ X h) (p:AllPl ρ) (k:∀ b o,h.get? b=some o→(b∈[C]∨TupObj o)→h'.get? b=some o):Loc C ρ X' h':=by obtain ⟨m,a,b⟩:=l;exact ⟨m,a.at' fun o e=>k _ o e (.inl (.head _)),fun x D e=>by
 obtain ⟨v,c,d⟩:=b x D e
 exact ⟨v,c,p x D e _ _ _ _ _ d fun b o e t=>k b o e (.inr t)⟩⟩
theorem shp_pl (p:AllPl ρ):Shp [C] (Loc C ρ []) where
 keep:=fun h h' l k=>l.pl' p k
 there:=fun h l b hb=>by rw[m_s hb];exact l.there
end
section
variable {I':XHP}
theorem Src.pre {α:Type} {T:List Addr→Heap→Value→α→Prop} {target e:Expr} {ds:List α} (x:Src T prog w A env I target e ds) (k:∀ X h,I' X h→I X h):Src T prog w A env I' target e ds:=fun s E X a b=>x s E X a (k _ _ b)
theorem Ts.pre {l:List Expr} {b:Bool} (x:Ts prog w A cenv I l b) (k:∀ X h,I' X h→I X h):Ts prog w A cenv I' l b:=fun s E X a b=>x s E X a (k _ _ b)
theorem EvR.pre {e:Expr} {R:List Addr→Heap→Value→Prop} (x:EvR prog w A env I e R) (k:∀ X h,I' X h→I X h):EvR prog w A env I' e R:=fun s E X a b=>x s E X a (k _ _ b)
theorem Ev.pre {e:Expr} (x:Ev prog w A env I e d) (k:∀ X h,I' X h→I X h):Ev prog w A env I' e d:=fun s E X a b=>x s E X a (k _ _ b)
theorem tgt1p {α:Type} {f:α→PyData} {x:Str} {px:Pos} {a:α} (e:LocEnv cenv C) (p:AllPl ρ) (hx:cenv.kindOf x=some .local) (hn:ρ.lookup x=none):TgtT prog w A (AtF f) cenv (.Name x px) [C] (Loc C ρ []) (Loc C ((x,.dat (f a))::ρ)) a where
 assign:=fun s v E X hX=>by
  rintro ⟨m,hm,hr⟩ q hC
  exact wpAny_assign_Name (store_local e hx hm fun h' hm' k=>by
  have l:=Loc.set (D:=.dat (f a)) (ρ:=ρ) (X:=X) (m':=m) hm (fun x D e=>by
   obtain ⟨v,c,d⟩:=hr x D e
   exact ⟨v,c,p x D e _ _ _ _ _ d fun zz zz e zz=>e⟩) q (hC _ (.head _)) k hm'
  refine ⟨h',_,rfl,k,(l.sub fun y D e=>?_).pl p,l⟩
  rw[List.lookup_cons]
  by_cases q:y=x
  ·subst q;rw[hn] at e;cases e
  ·rw[show (y == x)=false by simpa using q];exact e)
theorem em_c2 {β:Type} {f:β→PyData} {elt t2 i2:Expr} {g:Comprehension} {ifs2:List Expr} {scope:Scope} {pos:Pos} {bs:List β} (ρ2:β→List (Str×VD)) (q:β→Bool) (o:β→PyData) (up:Up I) (hI:I Xb hb) (pl:AllPl ρ)
  (hsrc:Src (AtF f) prog w A cenv (fun X h=>I X h∧Loc C ρ X h) t2 i2 bs)
  (hT:∀ b∈bs,TgtT prog w A (AtF f) cenv t2 [C] (Loc C ρ []) (Loc C (ρ2 b)) b)
  (hts:∀ b∈bs,Ts prog w A cenv (fun X h=>I X h∧Loc C (ρ2 b) X h) ifs2 (q b))
  (hel:∀ b∈bs,q b=true→Ev prog w A cenv (fun X h=>I X h∧Loc C (ρ2 b) X h) elt (o b))
  (hlen:bs.length≤1000) (hs:∀ x,foldedSetIterable i2 cenv x=pure x:=by intro _;rfl) :
  Em prog w A hb 200000 [C] (S0 C) (fun X h=>Io hb Xb X h∧Loc C ρ X h) (fun acc=>do
   let x ← eval i2 cenv
   standAt i2.pos
   let x ← foldedSetIterable i2 cenv x
   let _ ← runOwn (.compStart (.ListComp elt [g,⟨t2,i2,ifs2,0⟩] scope pos) 1 (← holding [x] (pyIter x)) acc cenv) cenv) ((bs.filter q).map o):=by
 rw[← outsOf_one]
 exact em_two (p0a:=i2.pos) (em:=fun acc=>do let _ ← call (.builtin "list.append") [acc,← eval elt cenv]) (mt:=[C]) (S:=Loc C ρ []) (I:=Io hb Xb) (B1:=Loc C ρ) (B:=fun b=>Loc C (ρ2 b)) (T:=AtF f) (hs:=hs) q (fun b=>[o b]) (up_and up_io up_loc) (shp_pl pl) (fun X h x=>x.2.pl pl) (fun h x=>x.ns) (fun X h x=>x.1) io_off
  (hsrc.pre fun X h x=>⟨io_in up hI _ _ x.1,x.2⟩) (fun zz zz=>rfl) hT (fun b m=>(hts b m).pre fun X h x=>⟨io_in up hI _ _ x.1,x.2⟩) (fun b m z=>em_elt (shp_pl pl) ((hel b m z).pre fun X h x=>⟨io_in up hI _ _ x.1,x.2⟩)) (fun b X h h' k l=>l.ext k) hlen (fun zz zz zz=>by simp)
noncomputable abbrev em2 (elt t1 i1 t2 i2:Expr) (ifs1 ifs2:List Expr) (scope:Scope) (pos:Pos) (cenv:Env) (acc:Value):Sem Unit:=do
 let x ← eval i2 cenv
 standAt i2.pos
 let x ← foldedSetIterable i2 cenv x
 let _ ← runOwn (.compStart (.ListComp elt [⟨t1,i1,ifs1,0⟩,⟨t2,i2,ifs2,0⟩] scope pos) 1 (← holding [x] (pyIter x)) acc cenv) cenv
theorem turn2 {elt t1 i1 t2 i2:Expr} {ifs1 ifs2:List Expr} {scope:Scope} {pos:Pos} (cenv:Env) (it acc:Value):compTurn (.ListComp elt [⟨t1,i1,ifs1,0⟩,⟨t2,i2,ifs2,0⟩] scope pos) 0 it acc cenv=(do
   standAt i1.pos
   match ← pyNext it with
   | none=>pure (.done .next)
   | some v =>
    letOwnedTupleGo t1 it v
    assign t1 cenv v
    let mut ok:=true
    for c in ifs1 do
     if ok then ok ← isTrue c cenv (eval c cenv)
    if ok then
     em2 elt t1 i1 t2 i2 ifs1 ifs2 scope pos cenv acc
    again (.compLoop (.ListComp elt [⟨t1,i1,ifs1,0⟩,⟨t2,i2,ifs2,0⟩] scope pos) 0 it acc cenv)):=by
 unfold em2
 simp only[bind_assoc,pure_bind]
 rfl
theorem comp2 {α β:Type} {T:List Addr→Heap→Value→α→Prop} {f:β→PyData} {elt t1 i1 t2 i2:Expr} {ifs1 ifs2:List Expr} {scope:Scope} {pos:Pos} {cl:List (Str×Addr)} {as:List α} {bs:α→List β} (ρ1:α→List (Str×VD)) (ρ2:α→β→List (Str×VD)) (p:α→Bool) (q:α→β→Bool) (o:α→β→PyData) (up:Up I)
  (hc:∀ x∈scope.names,x.2≠.cell) (hclos:closureFor scope env=pure cl) (hkind:scope.kind=.function) (hnames:∀ x∈scope.names,x.2=.local→scope.names.lookup x.1=some .local) (pl:∀ a,AllPl (ρ1 a))
  (hsrc:Src T prog w A env I t1 i1 as)
  (hT:∀ C cenv,CEnv scope cl env C cenv→∀ a∈as,TgtT prog w A T cenv t1 [C] (S0 C) (Loc C (ρ1 a)) a)
  (hts:∀ C cenv,CEnv scope cl env C cenv→∀ a∈as,Ts prog w A cenv (fun X h=>I X h∧Loc C (ρ1 a) X h) ifs1 (p a))
  (hsrc2:∀ C cenv,CEnv scope cl env C cenv→∀ a∈as,Src (AtF f) prog w A cenv (fun X h=>I X h∧Loc C (ρ1 a) X h) t2 i2 (bs a))
  (hT2:∀ C cenv,CEnv scope cl env C cenv→∀ a∈as,∀ b∈bs a,TgtT prog w A (AtF f) cenv t2 [C] (Loc C (ρ1 a) []) (Loc C (ρ2 a b)) b)
  (hts2:∀ C cenv,CEnv scope cl env C cenv→∀ a∈as,∀ b∈bs a,Ts prog w A cenv (fun X h=>I X h∧Loc C (ρ2 a b) X h) ifs2 (q a b))
  (hel:∀ C cenv,CEnv scope cl env C cenv→∀ a∈as,∀ b∈bs a,q a b=true→Ev prog w A cenv (fun X h=>I X h∧Loc C (ρ2 a b) X h) elt (o a b))
  (hlen:as.length≤1000) (hlen2:∀ a∈as,(bs a).length≤100) (hs:∀ x,foldedSetIterable i1 env x=pure x:=by intro _;rfl) (hs2:∀ cenv x,foldedSetIterable i2 cenv x=pure x:=by intro _ _;rfl) :
  Ev prog w A env I (.ListComp elt [⟨t1,i1,ifs1,0⟩,⟨t2,i2,ifs2,0⟩] scope pos) (.list (outsOf p (fun a=>((bs a).filter (q a)).map (o a)) as)):=fun s E X hX hI=>by
 have i:=io_in (Xb:=X) (hb:=s.heap) up hI
 refine wpAny_mono (comp_new (elt:=elt) (rest:=[⟨t2,i2,ifs2,0⟩]) (p0a:=i1.pos) (pos:=pos) (em:=em2 elt t1 i1 t2 i2 ifs1 ifs2 scope pos) (hs:=hs) (T:=T) (ds:=as) (mt:=fun C=>[C]) (S:=S0) (I:=Io s.heap X) (B:=fun C a=>Loc C (ρ1 a)) (cl:=cl) p (fun a=>((bs a).filter (q a)).map (o a)) up_io (shp0 hc) hclos hkind hnames (hsrc.pre i) turn2
  (fun C a m=>hT C _ (cenv_of hkind) a m) (fun C a m=>(hts C _ (cenv_of hkind) a m).pre fun X h x=>⟨i _ _ x.1,x.2⟩) (fun C a m z=>em_c2 (ρ2 a) (q a) (o a) up hI (pl a) (hsrc2 C _ (cenv_of hkind) a m) (hT2 C _ (cenv_of hkind) a m) (hts2 C _ (cenv_of hkind) a m) (hel C _ (cenv_of hkind) a m) (Nat.le_trans (hlen2 a m) (by decide)) (hs2 _)) (fun C a X h h' k l=>l.ext k) hlen (fun a m zz=>by rw[List.length_map];exact Nat.le_trans (List.length_filter_le _ _) (hlen2 a m)) hX io_self) (fun v s'=>by
   rintro ⟨k,D,items,e,_,hD,l,a⟩
   exact ⟨k,by rw[e];exact .list hD l.isList a⟩) fun zz zz x=>x
end
theorem in_ons {cs:List Int} {k:Int} (h:k∈onsL cs):k∈R7:=(List.mem_filter.mp h).1
theorem in_offs {cs:List Int} {k:Int} (h:k∈offsL cs):k∈R7:=(List.mem_filter.mp h).1
theorem in_clash {cs:List Int} {p:Int×Int} (h:p∈clashL cs):p.1∈R7∧p.2∈R7:=by
 obtain ⟨off,mo,m⟩:=List.mem_flatMap.mp h
 obtain ⟨on,mn,rfl⟩:=List.mem_map.mp m
 exact ⟨in_offs mo,in_ons (List.mem_filter.mp mn).1⟩
theorem offs_len (cs:List Int):(offsL cs).length≤7:=List.length_filter_le _ R7
theorem ons_len (cs:List Int):(onsL cs).length≤7:=List.length_filter_le _ R7
theorem fm_len {α β:Type} {f:α→List β} {m:Nat}:∀ {l:List α},(∀ a∈l,(f a).length≤m)→(l.flatMap f).length≤l.length * m
 | [],_=>by simp
 | a::l,h=>by
  rw[List.flatMap_cons,List.length_append,List.length_cons,Nat.add_mul]
  have:=fm_len (f:=f) (m:=m) (l:=l) fun a m=>h a (.tail _ m)
  have:=h a (.head _)
  lia
theorem clash_len (cs:List Int):(clashL cs).length≤49:=by
 have:=fm_len (l:=offsL cs) (m:=7) (f:=fun off=>((onsL cs).filter fun on=>bgI cs off on).map fun on=>(off,on)) fun a zz=>by
  rw[List.length_map];exact Nat.le_trans (List.length_filter_le _ _) (ons_len cs)
 have:=offs_len cs
 unfold clashL
 lia
section
variable {c:Wc} {cs:List Int} {n:Nat} {k:Int}
theorem tr_b {e:Expr} {b:Bool} (up:Up I) (x:Ev prog w A env I e (.bool b)) (hh:isTrue e env (eval e env)=(do let v ← eval e env;standAt e.pos;holding [v] (truthy v)):=by rfl):Tr prog w A env I e b:=tr_val up (P:=fun v=>v=.bool b) (x.mono fun X h v a=>At.bool_inv a) (fun v s Q E e q=>by rw[e];exact wpAny_truthy_bool q) hh
theorem ev_row {o e:Expr} {p:Pos} (h7:cs.length=7) (hk:k∈R7) (up:Up I) (x:Ev prog w A env I o (.list (cs.map fun c=>rowD (octs c)))) (y:Ev prog w A env I e (.int k))
  (hs:∀ a t,subscripted e false (.ref a) (.int k t)=operate [.ref a,.int k t] (getItem (.ref a) (.int k t))):Ev prog w A env I (.Subscript o e p) (rowD (octs (atI cs k))):=by
 obtain ⟨a,b⟩:=R7_range hk
 have:k.toNat<cs.length:=by lia
 refine ev_lat up x y a (by lia) ?_ hs
 rw[List.getElem?_map,List.getElem?_eq_getElem this]
 unfold atI
 rw[List.getElem?_eq_getElem this];rfl
theorem at_in' (h7:cs.length=7) (hk:k∈R7):atI cs k∈cs:=by
 obtain ⟨a,b⟩:=R7_range hk
 have:k.toNat<cs.length:=by lia
 unfold atI
 rw[List.getElem?_eq_getElem this]
 exact List.getElem_mem this
theorem row_len (hc:∀ c∈cs,0≤c∧c<972) (h7:cs.length=7) (hk:k∈R7):0≤((octs (atI cs k)).length:Int)+1∧((octs (atI cs k)).length:Int)+1≤4:=by
 have:=(oct_ok _ (octs_in (hc _ (at_in' h7 hk))).1).1
 lia
theorem s_clash {Q:FSP} (N:LwN c) (fr:FrC A0 n c.h0 c.L env) (hA:OKA A (n+1)) (r:Rest c.L R) (rc:RestC c.L R) (hc:∀ c∈cs,0≤c∧c<972) (h7:cs.length=7) (st:WF c ρ κ R (FA c.L) h) (bd:Bd (FA c.L) h) (ho:κ.lookup ("ons":Str)=some (.dat (.list ((onsL cs).map .int)))) (hr:κ.lookup ("rows":Str)=some (.dat (.list (cs.map fun c=>rowD (octs c))))) (hf:ρ.lookup ("offs":Str)=some (.dat (.list ((offsL cs).map .int))))
  (k:Cont c ρ (("clashes",.dat (.list ((clashL cs).map prD)))::κ) R s h Q):NR prog w A (exec (lawS 5) env) Q (To s h t):=by
 obtain ⟨f,hb,F⟩:=N.beg
 have up:=upW (ρ:=ρ) (κ:=κ) r
 have hh:=hA.handled
 show NR prog w A (exec (.Assign [_] _ _) env) _ _
 refine asgC (V:=.dat (.list ((clashL cs).map prD))) fr r rc N.G (by kernel_rfl) rfl st ?_ (fun a m=>m) bd (sw_cell (by rw[fr.k];kernel_rfl)) k
 show Ev prog w A env _ _ (.list _)
 refine Ev.eq ?_ (comp2 (T:=AtF PyData.int) (f:=PyData.int) (as:=offsL cs) (bs:=fun zz=>onsL cs) (fun a=>[("off",.dat (.int a))]) (fun a b=>[("on",.dat (.int b)),("off",.dat (.int a))]) (fun zz=>true) (bgI cs) (fun a b=>prD (a,b)) up (by decide +kernel) (clos_law fr (by decide +kernel)) (by kernel_rfl) (by decide +kernel) (fun a=>allpl_nil.cons (pl_int _)) (src_listF PyData.int hh (fr.ld "offs" (by kernel_rfl) hf (by decide +kernel)))
  (fun C cenv ce a zz=>tgt1 ce.le (ce.k _ _ (by kernel_rfl) (by decide))) (fun C cenv ce a zz=>ts_nil) (fun C cenv ce a zz=>src_listF PyData.int hh (WF.capd (i:=3) ce (by kernel_rfl) (by kernel_rfl) rfl ho (by decide +kernel) (by decide +kernel) fun X h i=>i.1)) (fun C cenv ce a zz b zz=>tgt1p ce.le (allpl_nil.cons (pl_int _)) (ce.k _ _ (by kernel_rfl) (by decide)) (by rfl)) (fun C cenv ce a ma b mb=>ts_one ?_) (fun C cenv ce a ma b mb zz=>?_) (by have:=offs_len cs;lia) (fun a zz=>by have:=ons_len cs;lia))
 ·unfold clashL outsOf
  rw[List.map_flatMap]
  simp only[List.map_map];rfl
 all_goals
  have up2:=up_and up (up_loc (L:=C) (ρ:=[("on",.dat (.int b)),("off",.dat (.int a))]))
  have eo:∀ {p:Pos},Ev prog w A cenv (fun X h=>WF c ρ κ R X h∧Loc C [("on",.dat (.int b)),("off",.dat (.int a))] X h) (.Name "off" p) (.int a):=ev_loc ce.le (ce.k _ _ (by kernel_rfl) (by decide)) (fun zz zz i=>i.2) (by rfl) (by kernel_rfl)
  have en:∀ {p:Pos},Ev prog w A cenv (fun X h=>WF c ρ κ R X h∧Loc C [("on",.dat (.int b)),("off",.dat (.int a))] X h) (.Name "on" p) (.int b):=ev_loc ce.le (ce.k _ _ (by kernel_rfl) (by decide)) (fun zz zz i=>i.2) (by rfl) (by kernel_rfl)
 ·have er:∀ {p:Pos},Ev prog w A cenv (fun X h=>WF c ρ κ R X h∧Loc C [("on",.dat (.int b)),("off",.dat (.int a))] X h) (.Name "rows" p) (.list (cs.map fun c=>rowD (octs c))):=WF.capd (i:=2) ce (by kernel_rfl) (by kernel_rfl) rfl hr (by decide +kernel) (by decide +kernel) fun X h i=>i.1
  refine tr_b up2 (ev_call up2 (ev_global (fun X h i=>i.1.1.1) (ce.ge fr.ge) (ce.k _ _ (by kernel_rfl) (by decide)) hb (by decide +kernel)) (F.keep fun X h i=>i.1.1.1) (ev_cons up2 (ev_row h7 (in_offs ma) up2 er eo fun zz zz=>by with_unfolding_all rfl) (ev_cons up2 (ev_row h7 (in_ons mb) up2 er en fun zz zz=>by with_unfolding_all rfl) ev_nil)) fun s X vs b i a'=>?_)
  exact law_begins (n:=n) F hA i.1.1.1 (row_len hc h7 (in_offs ma)) (row_len hc h7 (in_ons mb)) b a'
 ·exact ev_tuple (ev_cons up2 eo (ev_cons up2 en ev_nil)) (by simp)
theorem mm_in {p:Int×Int} (h:p∈clashL cs):min p.1 p.2∈R7∧max p.1 p.2∈R7:=by
 obtain ⟨a,b⟩:=in_clash h
 have m:∀ (x y z:Int),z=x∨z=y→x∈R7→y∈R7→z∈R7:=fun x y z e a b=>by rcases e with rfl|rfl <;> assumption
 refine ⟨m _ _ _ (by lia) a b,m _ _ _ (by lia) a b⟩
theorem s_pairs {Q:FSP} (N:LwN c) (fr:FrC A0 n c.h0 c.L env) (hh:A.handled=none) (r:Rest c.L R) (h7:cs.length=7) (st:WF c ρ κ R (FA c.L) h) (bd:Bd (FA c.L) h) (hd:κ.lookup ("deeds":Str)=some (.dat (.list (cs.map deedD)))) (hl:κ.lookup ("clashes":Str)=some (.dat (.list ((clashL cs).map prD))))
  (k:Cont c (("pairs",.dat (.list ((pairsL cs).map prD)))::ρ) κ R s h Q):NR prog w A (exec (lawS 6) env) Q (To s h t):=by
 have up:=upW (ρ:=ρ) (κ:=κ) r
 show NR prog w A (exec (.Assign [.Name "pairs" _] (.ListComp _ [⟨_,_,_,0⟩] _ _) _) env) _ _
 refine compU (f:=prD) (as:=clashL cs) (fun p=>[("clash",.dat (prD p))]) (fun zz=>true) (fun p=>prD (Mine.hd cs (min p.1 p.2),Mine.hd cs (max p.1 p.2))) fr r N.G (by kernel_rfl) st bd (by decide +kernel) (clos_law fr (by decide +kernel)) (by kernel_rfl) (by decide +kernel) (src_listF prD hh (fr.cd "clashes" (by kernel_rfl) rfl hl (by decide +kernel) (by decide +kernel)))
  (fun C cenv ce a zz=>tgt1 ce.le (ce.k _ _ (by kernel_rfl) (by decide))) (fun C cenv ce a zz=>ts_nil) (fun C cenv ce p mp zz=>?_) (by have:=clash_len cs;lia) (sw_used (fr_fun fr) (by rw[fr.k];kernel_rfl) (by kernel_rfl) (by kernel_rfl)) ?_
 ·obtain ⟨m1,m2⟩:=mm_in mp
  have up2:=up_and up (up_loc (L:=C) (ρ:=[("clash",.dat (prD p))]))
  have ed:∀ {q:Pos},Ev prog w A cenv (fun X h=>WF c ρ κ R X h∧Loc C [("clash",.dat (prD p))] X h) (.Name "deeds" q) (.list (cs.map deedD)):=WF.capd (i:=1) ce (by kernel_rfl) (by kernel_rfl) rfl hd (by decide +kernel) (by decide +kernel) fun X h i=>i.1
  have ec:∀ {q:Pos},Ev prog w A cenv (fun X h=>WF c ρ κ R X h∧Loc C [("clash",.dat (prD p))] X h) (.Name "clash" q) (prD p):=ev_loc ce.le (ce.k _ _ (by kernel_rfl) (by decide)) (fun zz zz i=>i.2) (by rfl) (by kernel_rfl)
  refine ev_tuple (ev_cons up2 (ev_hd h7 m1 up2 ed (ev_call up2 (ev_builtin (fun X h i=>i.1.1.1) (ce.ge fr.ge) (ce.k _ _ (by kernel_rfl) (by decide)) N.mn N.mnb (by decide +kernel)) keeper_builtin (ev_cons up2 ec ev_nil) fun s X vs b i a'=>op_min2 hh a') fun zz zz=>by with_unfolding_all rfl) (ev_cons up2 (ev_hd h7 m2 up2 ed (ev_call up2 (ev_builtin (fun X h i=>i.1.1.1) (ce.ge fr.ge) (ce.k _ _ (by kernel_rfl) (by decide)) N.mx N.mxb (by decide +kernel)) keeper_builtin (ev_cons up2 ec ev_nil) fun s X vs b i a'=>op_max2 hh a') fun zz zz=>by with_unfolding_all rfl) ev_nil)) (by simp)
 ·rw[List.filter_eq_self.mpr (fun zz zz=>rfl)]
  unfold pairsL at k
  rw[List.map_map] at k
  exact k
theorem s_waits {Q:FSP} (N:LwN c) (fr:FrC A0 n c.h0 c.L env) (hh:A.handled=none) (r:Rest c.L R) (rc:RestC c.L R) (st:WF c ρ κ R (FA c.L) h) (bd:Bd (FA c.L) h) (hl:ρ.lookup ("pairs":Str)=some (.dat (.list ((pairsL cs).map prD))))
  (k:Cont c ρ (("waits",.dat (.list ((waitsL cs).map prD)))::κ) R s h Q):NR prog w A (exec (lawS 7) env) Q (To s h t):=by
 have up:=upW (ρ:=ρ) (κ:=κ) r
 show NR prog w A (exec (.Assign [_] _ _) env) _ _
 refine asgC (V:=.dat (.list ((waitsL cs).map prD))) fr r rc N.G (by kernel_rfl) rfl st ?_ (fun a m=>m) bd (sw_cell (by rw[fr.k];kernel_rfl)) k
 show Ev prog w A env _ _ (.list _)
 refine compL (f:=prD) (as:=pairsL cs) (cl:=[]) (fun p=>[("second",.dat (.int p.2)),("first",.dat (.int p.1))]) (fun p=>decide (p.1≠p.2)) prD up (by decide +kernel) (by rfl) (by kernel_rfl) (by decide +kernel) (src_listF prD hh (fr.ld "pairs" (by kernel_rfl) hl (by decide +kernel)))
  (fun C cenv ce p zz=>tgtN hh ce.le rfl rfl rfl (.cons (ce.k _ _ (by kernel_rfl) (by decide)) (.cons (ce.k _ _ (by kernel_rfl) (by decide)) .nil))) (fun C cenv ce p zz=>ts_one ?_) (fun C cenv ce p zz zz=>?_) (by have:=clash_len cs;unfold pairsL;rw[List.length_map];lia)
 all_goals
  have up2:=up_and up (up_loc (L:=C) (ρ:=[("second",.dat (.int p.2)),("first",.dat (.int p.1))]))
  have e1:∀ {q:Pos},Ev prog w A cenv (fun X h=>WF c ρ κ R X h∧Loc C [("second",.dat (.int p.2)),("first",.dat (.int p.1))] X h) (.Name "first" q) (.int p.1):=ev_loc ce.le (ce.k _ _ (by kernel_rfl) (by decide)) (fun zz zz i=>i.2) (by rfl) (by kernel_rfl)
  have e2:∀ {q:Pos},Ev prog w A cenv (fun X h=>WF c ρ κ R X h∧Loc C [("second",.dat (.int p.2)),("first",.dat (.int p.1))] X h) (.Name "second" q) (.int p.2):=ev_loc ce.le (ce.k _ _ (by kernel_rfl) (by decide)) (fun zz zz i=>i.2) (by rfl) (by kernel_rfl)
 ·exact Tr.eq (b:=p.1 != p.2) (bne_decide _ _) (tr_cmp up2 e1 e2 fun S X u v zz x y=>op_nei x y)
 ·exact ev_tuple (ev_cons up2 e1 (ev_cons up2 e2 ev_nil)) (by simp)
end
theorem loop_eq {α β:Type} {as:List α} {f:α→β→Sem (ForInStep β)}:∀ {l:List α} {b:β} {h},List.forIn'.loop as (fun a zz r=>f a r) l b h=forIn l b f
 | [],b,h=>rfl
 | a::l,b,h=>by
  rw[List.forIn_cons]
  show (f a b >>= fun x=>match x with|.done b=>pure b|.yield b=>List.forIn'.loop as (fun a zz r=>f a r) l b _)=_
  congr 1
  funext x
  cases x with
  | done b=>rfl
  | yield b=>exact loop_eq
theorem wp_loop {M:Model} {α β:Type} {as l l':List α} {b:β} {f:α→β→Sem (ForInStep β)} {Q:β→Shared→Prop} {h} (e:l=l') (w:wpAny M A (forIn l' b f) Q E s):wpAny M A (List.forIn'.loop as (fun a zz r=>f a r) l b h) Q E s:=by
 rw[loop_eq,e];exact w
theorem meets_idx3 (l:Addr) (a b c k:Int) (t u v x:Tok) (n:Nat) (dd:Option Addr) (sl:Array (Option Value)) (j:Nat) (hj:(if a == k then some 0 else if b == k then some 1 else if c == k then some 2 else none)=some j) :
  Meets (Builtin.«tuple.index» ⟨[.ref l,.int k x],[]⟩) (fun zz R s=>s.heap.get? l=some { cls:=.type "tuple",dict:=dd,data:=.seq #[.int a t,.int b u,.int c v] n,slots:=sl }∧R (.ok (.ret (.int j s.toks))) { s with toks:=s.toks+1 }) :=
 .of_wp fun prog w A R s h=>by
  obtain ⟨hp,g,d,tk,os⟩:=s;obtain ⟨hl,h⟩:=h
  unfold Builtin.«tuple.index»
  simp -iota only[Std.Legacy.Range.forIn_eq_forIn_range']
  wp_walk using AutoSeq1.wpAny_loadPart' hl
  refine wp_loop (l':=[0,1,2]) (by kernel_rfl) ?_
  iterate 3
   rw[List.forIn_cons]
   refine wpAny_bind (wpAny_bind (wpAny_eqBool_int ?_))
   split at hj
   ·rename_i q
    rw[q]
    cases hj
    wp_walk
    exact ⟨_,rfl,h⟩
   rename_i q
   rw[show (_ == k)=false by simpa using q]
   refine wpAny_pure ?_
   dsimp only
  cases hj
section
variable {c:Wc} {cs:List Int} {n:Nat} {z:Str} {k:Int}
theorem idx3 {a c k:Int} (hk:k∈[a,b,c]):(if a == k then some 0 else if b == k then some 1 else if c == k then some 2 else none)=some ([a,b,c].idxOf k):=by
 rw[List.idxOf_cons,List.idxOf_cons,List.idxOf_cons]
 cases q1:a == k
 ·cases q2:b == k
  ·have q3:(c == k)=true:=by
    simp only[List.mem_cons,List.not_mem_nil,or_false] at hk
    simp only[beq_eq_false_iff_ne] at q1 q2
    rw[beq_iff_eq];lia
   simp[q3]
  ·simp
 ·simp
noncomputable def TO (X:List Addr) (h:Heap) (v:Value) (od:List Int):Prop:=At X h v (.tuple (od.map .int))∧∀ r,v=.ref r→∃ o,h.get? r=some o∧o.dict=none∧TupObj o
theorem TO.chg {od:List Int} (x:TO X h v od) (k:Chg X h h'):TO X h' v od:=⟨x.1.chg k,fun r e=>by
 obtain ⟨o,a,b⟩:=x.2 r e
 exact ⟨o,k _ _ a (.inr b.2),b⟩⟩
theorem TO.hid {od:List Int} (x:TO X h v od) (k:Hid X X' h):TO X' h v od:=⟨x.1.hid k,x.2⟩
theorem len3 {l:List Int} (h:l.length=3):∃ a b c,l=[a,b,c]:=by
 rcases l with _|⟨a,_|⟨b,_|⟨c,_|⟨d,r⟩⟩⟩⟩
 ·cases h
 ·cases h
 ·cases h
 ·exact ⟨a,b,c,rfl⟩
 ·cases h
theorem ev_idx {o e:Expr} {apos pos:Pos} {od:List Int} (up:Up I) (h3:od.length=3) (hk:k∈od) (x:EvR prog w A env I o (fun X h v=>TO X h v od)) (y:Ev prog w A env I e (.int k))
  (hline:(apos.endLine == pos.line)=true:=by rfl) (htrees:backTo pos (starEach [e] env)=[(false,eval e env)]:=by rfl) (hbase:attributeBase o "index" env (eval o env)=eval o env:=by rfl):Ev prog w A env I (.Call (.Attribute o "index" apos) [e] [] pos) (.int (od.idxOf k:Nat)):=fun s E X hX hI=>by
 obtain ⟨a,b,c,rfl⟩:=len3 h3
 refine wpAny_Call_method1_late hbase hline htrees (x.wp hX hI fun v s1a k1a av=>?_)
 obtain ⟨av,nd⟩:=av
 obtain ⟨r,items,rfl,hl,av⟩:=av.tuple_inv
 obtain ⟨v1,vs,e0,a1,av⟩:=av.cons_inv
 obtain ⟨v2,v3,rfl,a2,a3⟩:=two_inv av
 obtain ⟨t1,rfl⟩:=a1.int_inv
 obtain ⟨t2,rfl⟩:=a2.int_inv
 obtain ⟨t3,rfl⟩:=a3.int_inv
 have e1:items=#[.int a t1,.int b t2,.int c t3]:=Array.toList_inj.mp e0
 subst e1
 obtain ⟨⟨cl,od,da,sl⟩,ho,hc,n,hd⟩:=hl
 dsimp only at hc hd
 subst hc hd
 obtain ⟨o',ho',nd,_⟩:=nd r rfl
 rw[ho] at ho';cases ho'
 refine ⟨"tuple","tuple.index",PySem.F.plainAttrs_tuple,PySem.F.slot_tuple_index,PySem.F.type_tuple_index,⟨_,ho,rfl⟩,fun a ea=>by cases ea;exact ⟨_,ho,nd⟩,?_⟩
 refine method1_meetsIn PySem.F.slot_tuple_index PySem.F.entry_tuple_index (y.wp (hX.ext (kp_ext k1a)) (up.ext (kp_ext k1a) hI) fun u s2a k2a au=>?_)
 obtain ⟨t4,rfl⟩:=au.int_inv
 have e2a:=kp_ext k2a _ _ ho
 refine ⟨⟨_,e2a,rfl⟩,PySem.F.args_tuple_index_2 _ _,_,(meets_idx3 r a b c k t1 t2 t3 t4 n od sl _ ?_).inModel prog w,e2a,kp_trans (kp_trans k1a k2a) (kp_tok _ _),.int _ _⟩
 exact idx3 hk
noncomputable def CellT {α:Type} (T:List Addr→Heap→Value→α→Prop) (a:Addr) (d:α) (X:List Addr) (h:Heap):Prop:=∃ v,h.IsCell a (some v)∧T X h v d
structure StT {α:Type} (T:List Addr→Heap→Value→α→Prop):Prop where
 chg:∀ X h h' v d,T X h v d→Chg X h h'→T X h' v d
 hid:∀ X X' h v d,T X h v d→Hid X X' h→T X' h v d
theorem stT_atF {α:Type} (f:α→PyData):StT (AtF f):=⟨fun zz zz zz zz zz a b=>At.chg a b,fun zz zz zz zz zz a b=>At.hid a b⟩
theorem stT_to:StT TO:=⟨fun zz zz zz zz zz a b=>a.chg b,fun zz zz zz zz zz a b=>a.hid b⟩
theorem up_cellT {α:Type} {T:List Addr→Heap→Value→α→Prop} {d:α} (sT:StT T):Up (CellT T a d):=fun X X' h h' k q=>by
 rintro ⟨v,b,t⟩
 exact ⟨v,b.keeps k,sT.chg _ _ _ _ _ (sT.hid _ _ _ _ _ t q) k.chg⟩
theorem tgt_cellT {α:Type} {T:List Addr→Heap→Value→α→Prop} {x:Str} {px:Pos} {d:α} (sT:StT T) (e:LocEnv cenv C) (hx:cenv.kindOf x=some .cell) (hl:cenv.cells.lookup x=some (C+1)):TgtT prog w A T cenv (.Name x px) [C,C+1] (S1 C) (CellT T (C+1) d) d where
 assign:=fun s v E X hX=>by
  rintro ⟨⟨m,hn⟩,u,hu⟩ a hm
  exact wpAny_assign_Name (wpAny_storeName_cell e.kind hx hl hu fun h' hc hs=>by
  have k:Off [C+1] s.heap h':=fun b o n q=>hs.extBut b o (fun z=>n (z▸List.mem_singleton_self _)) q
  refine ⟨h',_,rfl,k.mono fun q m=>.tail _ m,⟨⟨m,hn.sameBut hs (Nat.ne_of_lt (Nat.lt_succ_self _))⟩,some v,hc⟩,v,hc,sT.chg _ _ _ _ _ a (k.chg fun b hb=>?_)⟩
  rw[m_s hb]
  exact ⟨hm _ (.tail _ (.head _)),NT.mk (cell_not_tup hu)⟩)
theorem compUC {α:Type} {T:List Addr→Heap→Value→α→Prop} {f:α→PyData} {iter:Expr} {ifs:List Expr} {scope:Scope} {p1 p2 px spos pos:Pos} {cl:List (Str×Addr)} {as:List α} {Q:FSP} (p:α→Bool) (sT:StT T) (hT:∀ X h v a,T X h v a→At X h v (f a))
  (fr:FrC A0 n c.h0 c.L env) (r:Rest c.L R) (G:GK c.K c.mg c.mb c.h0) (hk:(fScope (topS 21)).names.lookup y=some .local) (st:WF c ρ κ R (FA c.L) h) (bd:Bd (FA c.L) h)
  (hc:∀ H:Heap,pushCells H scope.names=H.push { cls:=.type "cell",data:=.cell none }) (hclos:closureFor scope env=pure cl) (hkind:scope.kind=.function) (hnames:∀ x∈scope.names,x.2=.local→scope.names.lookup x.1=some .local)
  (hz:scope.names.lookup z=some .cell) (hzc:∀ C,(cellsFrom (C+1) scope.names cl).lookup z=some (C+1)) (hzd:(z == ("__debug__":Str))=false) (hzc':(z == ("__classdict__":Str))=false)
  (hsrc:Src T prog w A env (WF c ρ κ R) (.Name z p2) iter as)
  (hts:∀ C cenv,CEnv scope cl env C cenv→cenv.cells.lookup z=some (C+1)→∀ a∈as,Ts prog w A cenv (fun X h=>WF c ρ κ R X h∧CellT T (C+1) a X h) ifs (p a))
  (hlen:as.length≤1000)
  (hsw:swapsWith (.ListComp (.Name z p1) [⟨.Name z p2,iter,ifs,0⟩] scope pos) (some (.Name y px)) spos.line env=pure true)
  (k:Cont c ((y,.dat (.list ((as.filter p).map f)))::ρ) κ R s h Q)
  (hs:∀ x,foldedSetIterable iter env x=pure x:=by intro _;rfl):NR prog w A (exec (.Assign [.Name y px] (.ListComp (.Name z p1) [⟨.Name z p2,iter,ifs,0⟩] scope pos) spos) env) Q (To s h t):=by
 rw[← outsOf_one] at k
 have kz:∀ C,(cEnv scope cl C env).kindOf z=some .cell:=fun C=>(cenv_of hkind).k _ _ hz (by decide)
 have cz:∀ C,(cEnv scope cl C env).cells.lookup z=some (C+1):=fun C=>by rw[(cenv_of hkind).cells];exact hzc C
 exact asgU (p0a:=iter.pos) (em:=fun cenv acc=>do let _ ← call (.builtin "list.append") [acc,← eval (.Name z p1) cenv]) (hs:=hs) (T:=T) (ds:=as) (mt:=fun C=>[C,C+1]) (S:=S1) (B:=fun C a=>CellT T (C+1) a) (cl:=cl) fr r G hk st (upW r) st (fun zz m=>m) bd p (fun a=>[f a]) (shp1 hc) hclos hkind hnames hsrc (fun zz zz zz=>rfl)
  (fun C a m=>tgt_cellT sT (cenv_of hkind).le (kz C) (cz C)) (fun C a m=>hts C _ (cenv_of hkind) (cz C) a m) (fun C a m q=>em_elt ((shp1 hc).shp C) (ev_cellR (V:=.dat (f a)) (cenv_of hkind).le.kind (.inl (kz C)) (cz C) hzd hzc' fun X h i=>by
   obtain ⟨v,x,y⟩:=i.2
   exact ⟨v,x,hT _ _ _ _ y⟩)) (fun C a X h h' k l=>up_cellT sT _ _ _ _ k (Hid.refl _ _) l) hlen (fun zz zz zz=>by simp) hsw k
end
noncomputable def odD (od:List Int):PyData:=.tuple (od.map .int)
noncomputable def OrdL (D:Addr) (X:List Addr) (h:Heap):Prop:=D∉X∧∃ items,h.IsList D items∧items.size=6∧∀ (j:Nat) v,items[j]?=some v→∃ od,perms[j]?=some od∧TO X h v od
section
variable {D:Addr}
theorem OrdL.chg (x:OrdL D X h) (k:Chg X h h'):OrdL D X h' :=
 by
  obtain ⟨n,i,a,z,b⟩:=x
  exact ⟨n,i,a.at fun o e=>k _ o e (.inl n),z,fun j v e=>by
   obtain ⟨od,p,q⟩:=b j v e
   exact ⟨od,p,q.chg k⟩⟩
theorem OrdL.hid (x:OrdL D X h) (k:Hid X X' h):OrdL D X' h:=by
 obtain ⟨n,i,a,z,b⟩:=x
 refine ⟨fun m=>?_,i,a,z,fun j v e=>by
  obtain ⟨od,p,q⟩:=b j v e
  exact ⟨od,p,q.hid k⟩⟩
 rcases k D m with m|m
 ·exact n m
 ·obtain ⟨o,e,_⟩:=a;rw[m] at e;cases e
theorem rest_ord:Rest L (OrdL D):=⟨fun zz zz zz zz k q x=>(x.hid q).chg k.chg,fun zz zz zz x m n k=>x.chg (k.chg fun b z=>by rw[m_s z];exact ⟨m,n.mk⟩)⟩
end
section
variable {c:Wc} {cs:List Int} {n:Nat} {z:Str} {k:Int} {D:Addr}
theorem itb_ord {target:Expr} (hh:A.handled=none) (ke:Ext h0a s.heap) (x:OrdL D X s.heap):Itb TO prog w A target X h0a s (.ref D) perms:=fun Q E k=>by
 obtain ⟨hn,items,hl,hz,r⟩:=x
 have hlen:items.size=perms.length:=hz
 obtain ⟨o,ho,_⟩:=id hl
 have hne:D≠s.heap.objs.size:=Nat.ne_of_lt (Heap.lt_size ho)
 refine wpAny_pyIter_list hl (k _ _ _ _ _ _ (kp_push _ _) (iter_of_walks (fun zz zz zz zz zz a b=>a.chg b) (hlen▸Walks.list hh s.heap.objs.size D hne items) ⟨⟨_,Heap.get?_push_size _ rfl,rfl,rfl⟩,hl.at fun o e=>Heap.get?_push_of_some _ e⟩ ?_ ?_ ?_ ?_ (fun b hb=>by rw[m_s hb];exact size_none _) ?_ ?_))
 ·intro b hb
  rcases mC hb with rfl|hb
  ·exact ⟨_,Heap.get?_push_size _ rfl⟩
  ·rw[m_s hb];exact ⟨_,Heap.get?_push_of_some _ ho⟩
 ·intro b hb
  rw[m_s hb];exact none_before ke (size_none _)
 ·intro b hb
  rcases mC hb with rfl|hb
  ·exact .inl (.head _)
  ·rw[m_s hb];exact .inr (.inl hn)
 ·intro i h hst b hb
  rw[m_s hb]
  obtain ⟨⟨o,e,c,d⟩,_⟩:=hst
  exact ⟨o,e,not_tup_of_fields d⟩
 ·intro i v X' hv hd
  obtain ⟨od,e,a⟩:=r i v hv
  exact ⟨od,e,a.hid hd⟩
 ·intro i v s' Q E hst q
  obtain ⟨⟨o,e,c,d⟩,_⟩:=hst
  exact go_plain e c d (by decide) q
theorem src_ord {target e:Expr} (hh:A.handled=none) (x:EvR prog w A env I e (fun zz zz v=>v=.ref D)) (up:Up I) (hI:∀ X h,I X h→OrdL D X h):Src TO prog w A env I target e perms:=fun s E X hX i =>
 x.wp hX i fun v s' k e=>⟨k,by rw[e];exact itb_ord hh (kp_ext k) (hI _ _ (up.ext (kp_ext k) i))⟩
theorem ev_t3 {a c:Int} {k0:Nat} {p0 p1 p2 p3:Pos} (up:Up I):EvR prog w A env I (.Tuple [.Constant (.int a) k0 p0,.Constant (.int b) k1 p1,.Constant (.int c) k2 p2] k3 p3) (fun X h v=>TO X h v [a,b,c]):=fun s E X hX hI =>
 wpAny_Tuple (wpAny_mono ((ev_cons up ev_int (ev_cons up ev_int (ev_cons up ev_int ev_nil)):EvAll prog w A env I _ [.int a,.int b,.int c]) s E X p3 hX hI) (fun vs s1a q=>⟨by rw[q.2.length,sizeLine_eq];exact (by decide:3≤16777216),kp_trans q.1 (kp_push _ _),.tuple ⟨_,Heap.get?_push_size _ rfl,rfl,0,rfl⟩ (by simpa using q.2.ext (Ext.push _ _)),fun r e=>by
  cases e;exact ⟨_,Heap.get?_push_size _ rfl,rfl,rfl,_,_,rfl⟩⟩) fun zz zz h=>h)
noncomputable def EvTs (prog:Program) (w:World) (A:Around) (env:Env) (I:XHP) (es:List Expr) (ds:List (List Int)):Prop :=
 ∀ (s:Shared) (E:VSP) (X:List Addr) (pos:Pos),Bd X s.heap→I X s.heap→wpAny (model prog w) A (spliced (backTo pos (starEach es env))) (fun vs s'=>Keeps s s'∧vs.length=ds.length∧∀ (j:Nat) v,vs[j]?=some v→∃ od,ds[j]?=some od∧TO X s'.heap v od) E s
theorem evTs_nil:EvTs prog w A env I [] []:=fun zz zz zz zz zz zz=>wpAny_items_nil ⟨kp_refl _,rfl,fun j v e=>by cases e⟩
theorem evTs_cons {e:Expr} {es:List Expr} {d:List Int} {ds:List (List Int)} (up:Up I) (x:EvR prog w A env I e (fun X h v=>TO X h v d)) (y:EvTs prog w A env I es ds)
  (he:starEach (e::es) env=(false,eval e env)::starEach es env:=by rfl):EvTs prog w A env I (e::es) (d::ds):=fun s E X pos hX hI =>
 wpAny_items_cons (he:=he) (x.wp hX hI fun v s1a k1a a1a=>wpAny_mono (y s1a E X pos (hX.ext (kp_ext k1a)) (up.ext (kp_ext k1a) hI)) (fun vs s2a q=>⟨kp_trans k1a q.1,by rw[List.length_cons,q.2.1];rfl,fun j u e=>by
  cases j with
  | zero=>cases e;exact ⟨d,rfl,a1a.chg (kp_ext q.1).chg⟩
  | succ j=>exact q.2.2 j u e⟩) fun zz zz h=>h)
theorem sw_list {es:List Expr} {p px:Pos} {l:Nat}:swapsWith (.List es p) (some (.Name y px)) l env=pure false:=rfl
theorem storeL {V:VD} {Q:Unit→Shared→Prop} (fr:FrC A0 n c.h0 c.L env) (r:Rest c.L R) (G:GK c.K c.mg c.mb c.h0) (hk:(fScope (topS 21)).names.lookup y=some .local) (st:WF c ρ κ R X h) (hv:V.at X h v) (hX:∀ a∈FA c.L,a∈X) (bd:Bd X h)
  (k:∀ h' t',Off (FA c.L) h h'→Bd X h'→WF c ((y,V)::ρ) κ R X h'→Q () (To s h' t')):NR prog w A (storeName env y v) Q (To s h t):=by
 obtain ⟨m,hn,hr⟩:=st.1.2.2
 have hL:=hX _ (.head _)
 refine store_local (s:=To s h t) fr.le (by rw[fr.k];exact hk) hn fun h' hn' ko=>?_
 have l:=Loc.set (D:=V) (m':=m) hn hr hv hL ko hn'
 exact k h' _ (ko.mono fun q m=>by rw[m_s m];exact .head _) (fs_bd bd ko l) ⟨fs_next st.1 G (fr.new _ (Nat.le_refl _)) ko l,(rest_w r).off _ _ _ st.2 hL st.1.nt ko⟩
inductive IsT:List Expr→List (List Int)→Prop
 | nil:IsT [] []
 | cons {a b c:Int} {k0 k1 k2 k3:Nat} {p0 p1 p2 p3:Pos} {es:List Expr} {ds:List (List Int)} (r:IsT es ds):IsT (.Tuple [.Constant (.int a) k0 p0,.Constant (.int b) k1 p1,.Constant (.int c) k2 p2] k3 p3::es) ([a,b,c]::ds)
theorem evTs_all {es:List Expr} {ds:List (List Int)} (up:Up I) (h:IsT es ds):EvTs prog w A env I es ds:=by
 induction h with
 | nil=>exact evTs_nil
 | cons r ih=>exact evTs_cons up (ev_t3 up) ih
theorem asgO {e:Expr} {es:List Expr} {px lp pos:Pos} {Q:FSP} (fr:FrC A0 n c.h0 c.L env) (G:GK c.K c.mg c.mb c.h0) (hk:(fScope (topS 21)).names.lookup y=some .local) (st:WF c ρ κ Tt (FA c.L) h) (bd:Bd (FA c.L) h) (ee:e=.List es lp) (he:IsT es perms)
  (k:∀ D h' t',Off (FA c.L) h h'→Bd (FA c.L) h'→WF c ((y,.val (.ref D))::ρ) κ (OrdL D) (FA c.L) h'→Q .next (To s h' t')):NR prog w A (exec (.Assign [.Name y px] e pos) env) Q (To s h t):=by
 subst ee
 have up:=upW (ρ:=ρ) (κ:=κ) (rest_true:Rest c.L Tt)
 refine wpAny_Assign_Name (hs:=sw_list) (wpAny_List (wpAny_mono (evTs_all up he (To s h t) _ _ _ bd st) (fun vs s1a q=>?_) fun zz zz h=>h))
 obtain ⟨k1a,hl,q⟩:=q
 obtain ⟨h1a,t1a,rfl,e1a⟩:=k1a
 have e1a:Ext h h1a:=e1a
 refine ⟨by rw[hl,sizeLine_eq];decide,?_⟩
 have e2a:Ext h1a (h1a.push { cls:=.type "list",data:=.seq vs.toArray }):=Ext.push _ _
 have bd1:=bd.ext e1a
 have ord:OrdL h1a.objs.size (FA c.L) (h1a.push { cls:=.type "list",data:=.seq vs.toArray }):=⟨bd1.new (size_none _),vs.toArray,⟨_,Heap.get?_push_size _ rfl,rfl,0,rfl⟩,by rw[List.size_toArray,hl];rfl,fun j v e=>by
  obtain ⟨od,a,b⟩:=q j v (by simpa using e)
  exact ⟨od,a,b.chg e2a.chg⟩⟩
 have st2a:=up.ext (Ext.trans e1a e2a) st
 exact storeL (s:=s) (R:=OrdL h1a.objs.size) (V:=.val (.ref h1a.objs.size)) fr rest_ord G hk ⟨st2a.1,st2a.2.1,ord⟩ rfl (fun a m=>m) (bd1.ext e2a) fun h' t' o b i=>k _ h' t' ((Ext.off (Ext.trans e1a e2a)).trans o) b i
theorem s_orders {S:Stmt} {Q:FSP} (hS:S=lawS 8) (N:LwN c) (fr:FrC A0 n c.h0 c.L env) (st:WF c ρ κ Tt (FA c.L) h) (bd:Bd (FA c.L) h)
  (k:∀ D h' t',Off (FA c.L) h h'→Bd (FA c.L) h'→WF c (("orders",.val (.ref D))::ρ) κ (OrdL D) (FA c.L) h'→Q .next (To s h' t')):NR prog w A (exec S env) Q (To s h t):=by
 subst hS
 show NR prog w A (exec (.Assign [.Name "orders" _] _ _) env) _ _
 generalize he:Expr.List _ _=e
 exact asgO fr N.G (by kernel_rfl) st bd he.symm (.cons (.cons (.cons (.cons (.cons (.cons .nil)))))) k
end
theorem eqv_nil (l:List PyData):PyData.eqv (.list l) (.list [])=l.isEmpty:=by cases l <;> rfl
theorem shaped_one {α:Type}:∀ l:List α,shaped (.list (l.map fun zz=>.int 1))=true
 | []=>rfl
 | a::l=>shaped_one l
theorem isEmpty_map {α β:Type} (f:α→β) (l:List α):(l.map f).isEmpty=l.isEmpty:=by cases l <;> rfl
section
variable {c:Wc} {cs:List Int} {n:Nat} {z:Str} {k:Int} {D:Addr} {p:Pos}
theorem ev_cellT {α:Type} {T:List Addr→Heap→Value→α→Prop} {u:α} (hk:env.scope.kind=.function) (hy:env.kindOf y=some .cell∨env.kindOf y=some .free) (ha:env.cells.lookup y=some a) (hd:(y == ("__debug__":Str))=false) (hdc:(y == ("__classdict__":Str))=false) (hI:∀ X h,I X h→CellT T a u X h):EvR prog w A env I (.Name y p) (fun X h v=>T X h v u) :=
 ev_nameR fun X h i=>by
  obtain ⟨v,b,e⟩:=hI X h i
  rcases hy with hy|hy
  ·exact ⟨v,⟨hk,hd,.inr (.inl ⟨hy,a,ha,b⟩)⟩,e⟩
  ·exact ⟨v,⟨hk,hd,.inr (.inr ⟨hy,hdc,a,ha,b⟩)⟩,e⟩
theorem clos_cell {scope:Scope} (hz:cenv.cells.lookup z=some (C+1)) (h:∀ x∈scope.names,x.2=.free→x.1=z):closureFor scope cenv=pure (freesG (fun zz=>C+1) scope.names []) :=
 clos_of fun x m e=>by rw[h x m e];exact hz
theorem tr_nil {α:Type} {o:α→PyData} {l:List α} {e en:Expr} {lp pos:Pos} (hA:OKA A n) (hn:en=.List [] lp) (up:Up I) (hs:shaped (.list (l.map o))=true) (x:Ev prog w A env I e (.list (l.map o))):Tr prog w A env I (.Compare e [.Eq] [en] pos) l.isEmpty:=by
 have q:=ev_list (prog:=prog) (w:=w) (A:=A) (env:=env) (I:=I) (pos:=lp) ev_nil
 rw[← hn] at q
 have r:=tr_cmp (pos:=pos) up x q (fun s X u v zz a b=>op_eq hA hs rfl a b) (hm:=by rw[hn];with_unfolding_all rfl)
 rw[eqv_nil,isEmpty_map] at r
 exact r
theorem perm_in {od:List Int} (h:od∈perms) {j:Int} (hj:j∈NS3):j∈od:=by
 have:∀ od∈perms,∀ j∈NS3,j∈od:=by decide
 exact this od h j hj
theorem perm_len {od:List Int} (h:od∈perms):od.length=3:=by
 have:∀ od∈perms,od.length=3:=by decide
 exact this od h
theorem s_kept {Q:FSP} (N:LwN c) (fr:FrC A0 n c.h0 c.L env) (hA:OKA A (n+1)) (hc:∀ c∈cs,0≤c∧c<972) (h7:cs.length=7) (st:WF c ρ κ (OrdL D) (FA c.L) h) (bd:Bd (FA c.L) h) (ho:ρ.lookup ("orders":Str)=some (.val (.ref D))) (hw:κ.lookup ("waits":Str)=some (.dat (.list ((waitsL cs).map prD))))
  (k:Cont c (("kept",.dat (.list ((keptL cs).map odD)))::ρ) κ (OrdL D) s h Q):NR prog w A (exec (lawS 9) env) Q (To s h t):=by
 have up:=upW (ρ:=ρ) (κ:=κ) (rest_ord:Rest c.L (OrdL D))
 have hh:=hA.handled
 have ok:=ok_waits hc h7
 unfold keptL at k
 show NR prog w A (exec (.Assign [.Name "kept" _] (.ListComp (.Name "order" _) [⟨.Name "order" _,_,_,0⟩] _ _) _) env) _ _
 refine compUC (T:=TO) (f:=odD) (as:=perms) (fun (od:List Int)=>((waitsL cs).filter fun (p:Int×Int)=>decide (od.idxOf p.1>od.idxOf p.2)).isEmpty) stT_to (fun zz zz zz zz x=>x.1) fr rest_ord N.G (by kernel_rfl) st bd (fun H=>by kernel_rfl) (clos_law fr (by decide +kernel)) (by kernel_rfl) (by decide +kernel) (by kernel_rfl) (fun C=>by kernel_rfl) (by decide +kernel) (by decide +kernel)
  (src_ord hh (fr.lv "orders" (by kernel_rfl) ho (by decide +kernel)) up fun X h i=>i.2.2) (fun C cenv ce cz od mo=>ts_one ?_) (by decide) (sw_used (fr_fun fr) (by rw[fr.k];kernel_rfl) (by kernel_rfl) (by kernel_rfl)) k
 have up2:=up_and up (up_cellT (a:=C+1) (d:=od) stT_to)
 refine tr_nil hA rfl up2 (o:=fun zz=>.int 1) (shaped_one _) ?_
 refine compL (f:=prD) (as:=waitsL cs) (fun (p:Int×Int)=>[("second",.dat (.int p.2)),("first",.dat (.int p.1))]) (fun (p:Int×Int)=>decide (od.idxOf p.1>od.idxOf p.2)) (fun zz=>.int 1) up2 (by decide +kernel) (clos_cell cz (by decide +kernel)) (by kernel_rfl) (by decide +kernel) (src_listF prD hh (WF.capd (i:=5) ce (by kernel_rfl) (by kernel_rfl) rfl hw (by decide +kernel) (by decide +kernel) fun X h i=>i.1))
  (fun C' cenv' ce' p zz=>tgtN hh ce'.le rfl rfl rfl (.cons (ce'.k _ _ (by kernel_rfl) (by decide)) (.cons (ce'.k _ _ (by kernel_rfl) (by decide)) .nil))) (fun C' cenv' ce' p mp=>ts_one ?_) (fun C' cenv' ce' p zz zz=>ev_int) (by have:=clash_len cs;have:(waitsL cs).length≤(pairsL cs).length:=List.length_filter_le _ _;unfold pairsL at this;rw[List.length_map] at this;lia)
 have up3:=up_and up2 (up_loc (L:=C') (ρ:=[("second",.dat (.int p.2)),("first",.dat (.int p.1))]))
 have eo:∀ {q:Pos},EvR prog w A cenv' (fun X h=>(WF c ρ κ (OrdL D) X h∧CellT TO (C+1) od X h)∧Loc C' [("second",.dat (.int p.2)),("first",.dat (.int p.1))] X h) (.Name "order" q) (fun X h v=>TO X h v od):=ev_cellT ce'.le.kind (ce'.free _ (by kernel_rfl)) (by rw[ce'.cells];kernel_rfl) (by decide +kernel) (by decide +kernel) fun X h i=>i.1.2
 refine Tr.eq (b:=decide (((od.idxOf p.2:Nat):Int)<((od.idxOf p.1:Nat):Int))) (by rw[decide_eq_decide];lia) (tr_cmp up3 (ev_idx up3 (perm_len mo) (perm_in mo (ok p mp).1) eo (ev_loc ce'.le (ce'.k _ _ (by kernel_rfl) (by decide)) (fun zz zz i=>i.2) (by rfl) (by kernel_rfl))) (ev_idx up3 (perm_len mo) (perm_in mo (ok p mp).2) eo (ev_loc ce'.le (ce'.k _ _ (by kernel_rfl) (by decide)) (fun zz zz i=>i.2) (by rfl) (by kernel_rfl))) fun S X u v zz x y=>op_gt x y)
end
theorem eqv_ints:∀ a b:List Int,PyData.eqvAll (a.map .int) (b.map .int)=decide (a=b)
 | [],[]=>rfl
 | [],_::_=>rfl
 | _::_,[]=>rfl
 | x::a,y::b=>by
  show ((x == y) && PyData.eqvAll (a.map .int) (b.map .int))=_
  rw[eqv_ints a b,Bool.eq_iff_iff];simp
theorem any_od (l:List (List Int)) (od:List Int):((l.map odD).any fun y=>PyData.eqv y (odD od))=decide (od∈l):=by
 induction l with
 | nil=>rfl
 | cons a l ih =>
  rw[List.map_cons,List.any_cons,ih]
  rw[show PyData.eqv (odD a) (odD od)=decide (a=od) from eqv_ints a od,Bool.eq_iff_iff,Bool.or_eq_true,decide_eq_true_eq,decide_eq_true_eq,decide_eq_true_eq,List.mem_cons]
  exact or_congr_left ⟨Eq.symm,Eq.symm⟩
theorem ints_ci:∀ l:List Int,PyData.canLayAll0 (l.map .int)=true∧PyData.depthAll (l.map .int)=0
 | []=>⟨rfl,rfl⟩
 | a::l=>⟨(ints_ci l).1,by show max 0 _=0;rw[(ints_ci l).2];rfl⟩
theorem shaped_odD (od:List Int):shaped (odD od)=true:=by
 unfold shaped
 show (PyData.canLayAll0 (od.map .int) && decide (PyData.depthAll (od.map .int)+1≤64))=true
 rw[(ints_ci od).1,(ints_ci od).2];rfl
theorem shaped_od:∀ l:List (List Int),shaped (.list (l.map odD))=true:=fun l=>by
 have:PyData.canLayAll0 (l.map odD)=true∧PyData.depthAll (l.map odD)≤1:=by
  induction l with
  | nil=>exact ⟨rfl,Nat.zero_le _⟩
  | cons a l ih=>exact ⟨by show (PyData.canLayAll0 (a.map .int) && _)=true;rw[(ints_ci a).1,ih.1];rfl,by show max (PyData.depthAll (a.map .int)+1) _≤1;rw[(ints_ci a).2];exact Nat.max_le.mpr ⟨Nat.le_refl _,ih.2⟩⟩
 unfold shaped
 show (PyData.canLayAll0 (l.map odD) && decide (PyData.depthAll (l.map odD)+1≤64))=true
 rw[this.1,Bool.true_and,decide_eq_true_eq];have:=this.2;lia
section
variable {c:Wc} {cs:List Int} {M:List Addr} {n:Nat} {z:Str} {k:Int} {D:Addr} {p:Pos}
theorem WF.off (st:WF c ρ κ R X h) (G:GK c.K c.mg c.mb c.h0) (k:Off M h h') (hM:∀ b∈M,c.h0.get? b=none∧b∈X∧b∉FA c.L∧∀ o,h.get? b=some o→¬ TupObj o) (r:R' X h'):WF c ρ κ R' X h':=by
 have ne:∀ i:Nat,1≤i→i≤8→c.L+i∉M:=fun i a b m=>(hM _ m).2.2.1 (mem_FA.mpr (.inr ⟨i,a,b,rfl⟩))
 refine ⟨st.1.off G k fun b m=>⟨(hM b m).1,(hM b m).2.1,fun e=>(hM b m).2.2.1 (by rw[e];exact .head _),(hM b m).2.2.2⟩,⟨fun i a b=>(st.2.1.1 i a b).imp fun zz z=>isCell_keep z fun o e=>k _ o (ne i a b) e,fun y D e=>?_⟩,r⟩
 obtain ⟨i,v,a,b,d⟩:=st.2.1.2 y D e
 exact ⟨i,v,a,isCell_keep b fun o e=>k _ o (ne i (ci_rng a).1 (ci_rng a).2) e,VD.chg (k.chg fun b m=>⟨(hM b m).2.1,(hM b m).2.2.2⟩) d⟩
theorem WF.slt (st:WF c ρ κ Tt X h) (hL:c.L∈X) (L0:c.h0.get? c.L=none) (G:GK c.K c.mg c.mb c.h0) (k:Slt [c.L] h h'):WF c ρ κ Tt X h'∧Off [c.L] h h':=by
 have o:Off [c.L] h h':=fun b ob n e=>k.1 b ob e n
 have ch:Chg X h h':=o.chg fun b m=>by rw[m_s m];exact ⟨hL,st.1.nt.mk⟩
 obtain ⟨m,hn,hr⟩:=st.1.2.2
 have e':Ext c.h0 h':=ext_off st.1.2.1 o fun b m=>by rw[m_s m];exact L0
 refine ⟨⟨⟨G.ext e',e',m,k.ns hn,fun x D e=>by
  obtain ⟨v,a,b⟩:=hr x D e
  exact ⟨v,a,VD.chg ch b⟩⟩,(rest_cl).off _ _ _ st.2.1 hL st.1.nt o,trivial⟩,o⟩
theorem FA_nt (st:WF c ρ κ R X h):∀ a∈FA c.L,NT h a:=fun a m=>by
 rcases mem_FA.mp m with rfl|⟨i,h1,h2,rfl⟩
 ·exact st.1.nt
 ·exact st.2.1.nt h1 h2
theorem for_w {α β:Type} {T:List Addr→Heap→Value→α→Prop} {target iter:Expr} {body:List Stmt} {pos:Pos} {ds:List α} {Q:FSP} (P:Nat→β→Prop) (ρi κi:β→List (Str×VD)) (Ri:β→List Addr→Heap→Prop) (M0:List Addr) (b0:β) (G:GK c.K c.mg c.mb c.h0)
  (rst:∀ b X h' h'' Wr,Ri b X h'→(∀ a∈Wr,h.get? a=none∧a∈X∧∀ o,h'.get? a=some o→¬ TupObj o)→Off Wr h' h''→Ri b X h'') (rnt:∀ b X h',Ri b X h'→∀ a∈M0,NT h' a) (ru:∀ b,Up (Ri b))
  (st:WF c (ρi b0) (κi b0) (Ri b0) X h) (p0:P 0 b0) (hsrc:Src T prog w A env J target iter ds) (hJ:J X h) (bd:Bd X h) (hX:∀ a∈FA c.L++M0,a∈X)
  (turn:∀ i d v h' tk X' b (Q':FSP),ds[i]?=some d→T X' h' v d→Bd X' h'→(∀ a∈FA c.L++M0,a∈X')→P i b→WF c (ρi b) (κi b) (Ri b) X' h' →
   (∀ h2a t2a b',Off (FA c.L++M0) h' h2a→P (i+1) b'→WF c (ρi b') (κi b') (Ri b') X' h2a→Q' .next (To s h2a t2a))→(∀ v s2a,Q (.ret v) s2a→Q' (.ret v) s2a)→NR prog w A (assign target env v) (fun zz s1a=>NR prog w A (execs body env) Q' s1a) (To s h' tk))
  (done:∀ h' t' b,Off (FA c.L++M0) h h'→Bd X h'→P ds.length b→WF c (ρi b) (κi b) (Ri b) X h'→Q .next (To s h' t'))
  (hs:∀ x,foldedSetIterable iter env x=pure x:=by intro _;rfl):NR prog w A (exec (.For target iter body [] pos) env) Q (To s h t):=by
 have up0:Up (WF c (ρi b0) (κi b0) (Ri b0)):=up_and up_fs (up_and rest_cl.up (ru b0))
 refine for_loop (s:=To s h t) (hs:=hs) (M:=FA c.L++M0) (Inv:=fun i X' h'=>∃ b,P i b∧WF c (ρi b) (κi b) (Ri b) X' h') hsrc bd hJ (fun b m=>⟨hX b m,bd b (hX b m)⟩) (fun h1a X' k q zz=>⟨b0,p0,up0 _ _ _ _ k q st⟩) ?_ ?_ (fun i d v h' tk X' hd hv hb hh sub o bpf=>?_) fun h' tk X' hb sub o bpf=>?_
 ·rintro i X' h' ⟨b,_,f⟩ a m
  rcases m_a m with m|m
  ·exact FA_nt f a m
  ·exact rnt b X' h' f.2.2 a m
 ·rintro i X' h1a h2a Wr ⟨b,p,f⟩ hW k
  refine ⟨b,p,f.off G k (fun a m=>⟨none_before st.1.2.1 (hW a m).2.1,(hW a m).1,fun mm=>?_,(hW a m).2.2⟩) (rst b X' h1a h2a Wr f.2.2 (fun a m=>⟨(hW a m).2.1,(hW a m).1,(hW a m).2.2⟩) k)⟩
  obtain ⟨o,e,_⟩:=FA_nt st a mm
  have e0:=(hW a m).2.1
  rw[show (To s h t).heap.get? a=h.get? a from rfl,e] at e0;cases e0
 ·obtain ⟨b,p,f⟩:=bpf
  exact turn i d v h' tk X' b _ hd hv hb (fun a m=>sub _ (hX a m)) p f (fun h2a t2a b' o p' f'=>⟨h2a,t2a,rfl,o,b',p',f'⟩) fun v s2a q=>q
 ·obtain ⟨b,p,f⟩:=bpf
  exact done h' tk b o hb p ⟨⟨f.1.1,f.1.2.1,f.1.2.2.hid fun x m=>.inl (sub x m)⟩,rest_cl.up _ _ _ _ (Ext.refl _) (fun x m=>.inl (sub x m)) f.2.1,ru b _ _ _ _ (Ext.refl _) (fun x m=>.inl (sub x m)) f.2.2⟩
theorem callQ {f:Str} {np pos:Pos} {e:Expr} {es:List Expr} {Q:VSP} (up:Up I) (bd:Bd X h) (hI:I X h)
  (hf:EvR prog w A env I (.Name f np) (fun zz zz v=>v=fv)) (hk:Keeper1 (model prog w) I fv) (ha:EvAll prog w A env I (e::es) ds)
  (hc:∀ h' t' vs,Ext h h'→AtAll X h' vs ds→wpAny (model prog w) A (call fv vs) Q E (To s h' t'))
  (he:starEach (e::es) env=(false,eval e env)::starEach es env:=by rfl) (hplain:(backTo pos (starEach es env)).any (·.1)=false:=by rfl) :
  wpAny (model prog w) A (eval (.Call (.Name f np) (e::es) [] pos) env) Q E (To s h t):=by
 refine wpAny_Call_ofName (evF hf bd hI fun v h1a t1a e1a hv=>?_)
 subst hv
 have i1a:=up.ext e1a hI
 refine callWith_of (P:=I X) (by rw[he];show ((false || (backTo pos (starEach es env)).any (·.1)) || false)=false;rw[hplain];rfl) (hk X) ?_
 rw[he]
 refine Calls.evalArgs_plain ?_
 have ha':=ha (To s h1a t1a) E X pos (bd.ext e1a) i1a
 rw[he] at ha'
 refine wpAny_mono ha' (fun vs s2a q=>?_) fun zz zz x=>x
 obtain ⟨k2a,av⟩:=q
 obtain ⟨h2a,t2a,rfl,e2a⟩:=k2a
 exact ⟨up.ext e2a i1a,hc h2a t2a vs (Ext.trans e1a e2a) av⟩
end
structure LwS (c:Wc) (w:World):Prop where
 lets:∃ f,c.mg "_law_lets"=some (.ref f)∧FnK c.K f "_law_lets" (topS 20) .none .none
 K:∃ CN CS CE,NodeK c.K CN∧SortK c.K w CS∧SortN c.mg c.mb CN∧CycK c.K c.mg CE∧keepIn c.K (.ref CN)=true∧keepIn c.K (.ref CS)=true∧c.mg "TopologicalSorter"=some (.ref CS)
 li:c.mg "list"=none
 lib:c.mb "list"=some (.type "list")
noncomputable def letsD (cs od:List Int):PyData:=if keptL cs≠[] then .bool (decide (od∈keptL cs)) else .none
theorem eqv_letsD (cs od:List Int):PyData.eqv (letsD cs od) (letsD cs od)=true:=by
 unfold letsD;split
 ·show (_ == _)=true;rw[beq_iff_eq]
 ·rfl
theorem shaped_letsD (cs od:List Int):shaped (letsD cs od)=true:=by
 unfold letsD;split <;> rfl
section
variable {c:Wc} {cs:List Int} {M:List Addr} {n:Nat} {z:Str} {k:Int} {D:Addr} {p:Pos}
theorem ev_nonil {α:Type} {o:α→PyData} {l:List α} {e en:Expr} {lp pos:Pos} (hA:OKA A n) (hn:en=.List [] lp) (up:Up I) (hs:shaped (.list (l.map o))=true) (x:Ev prog w A env I e (.list (l.map o))):Tr prog w A env I (.Compare e [.NotEq] [en] pos) (!l.isEmpty)∧Ev prog w A env I (.Compare e [.NotEq] [en] pos) (.bool (!l.isEmpty)):=by
 have q:=ev_list (prog:=prog) (w:=w) (A:=A) (env:=env) (I:=I) (pos:=lp) ev_nil
 rw[← hn] at q
 have r:=tr_cmp (pos:=pos) up x q (fun s X u v zz a b=>op_ne hA hs rfl a b) (hm:=by rw[hn];with_unfolding_all rfl)
 have r':=ev_cmp (pos:=pos) up x q (fun s X u v zz a b=>op_ne hA hs rfl a b) (hm:=by rw[hn];with_unfolding_all rfl)
 rw[eqv_nil,isEmpty_map] at r r'
 exact ⟨r,r'⟩
theorem outF_law (fr:FrC A0 n h0a c.L env) (st:WF c ρ κ R X h):OutF [env] h∧fas [env]=[c.L]:=by
 obtain ⟨m,⟨o,es,ep,ho,hd,_⟩,_⟩:=st.1.2.2
 refine ⟨fun e m=>?_,?_⟩
 ·rw[m_s m]
  exact ⟨by rw[fr.ge.kind];decide,c.L,o,_,_,fr.f,ho,hd⟩
 ·show [env].filterMap _=_
  rw[List.filterMap_cons,fr.f];rfl
theorem at_hide (x:At X h v d) (hL:∀ b∈M,b∈X∧NT h b):At [] (hideAll h M) v d :=
 (x.chg fun b o e q=>hideAll_get _ e fun m=>by
  rcases q with q|q
  ·exact q (hL b m).1
  ·exact (hL b m).2.mk o e q).hid fun b m=>by cases m
theorem ev_letsD {od:List Int} {x y z en:Expr} {lp p1 p2 p3 p4:Pos} (hA:OKA A n) (hn:en=.List [] lp) (up:Up I) (ek:Ev prog w A env I x (.list ((keptL cs).map odD))) (ek':Ev prog w A env I z (.list ((keptL cs).map odD))) (eo:Ev prog w A env I y (odD od)) (hm:behindInMarks .In z=false:=by with_unfolding_all rfl) :
  Ev prog w A env I (.IfExp (.Compare x [.NotEq] [en] p1) (.Compare y [.In] [z] p2) (.Constant .none kk p3) p4) (letsD cs od):=by
 refine ev_if up (ev_nonil hA hn up (shaped_od _) ek).1 (fun b=>?_) fun b=>?_
 ·refine Ev.eq ?_ (ev_cmp (hm:=hm) up eo ek' fun s X u v zz a b=>op_in hA (shaped_odD od) (shaped_od _) a b)
  rw[any_od];unfold letsD
  rw[if_pos fun e=>by rw[e] at b;cases b]
 ·have:keptL cs=[]:=by cases q:keptL cs with
   | nil=>rfl
   | cons a l=>rw[q] at b;cases b
  unfold letsD
  rw[if_neg fun z=>z this]
  exact ev_none
theorem s_lets {Q:FSP} (N:LwN c) (S:LwS c w) (fr:FrC A0 n c.h0 c.L env) (hA:OKA A (n+8)) (hfr:A.frames=some [env]) (hc:∀ c∈cs,0≤c∧c<972) (h7:cs.length=7) (st:WF c ρ κ (OrdL D) (FA c.L) h) (bd:Bd (FA c.L) h) (ho:ρ.lookup ("orders":Str)=some (.val (.ref D))) (hw:κ.lookup ("waits":Str)=some (.dat (.list ((waitsL cs).map prD)))) (hk:ρ.lookup ("kept":Str)=some (.dat (.list ((keptL cs).map odD)))) (hr:ρ.lookup ("order":Str)=none)
  (k:Cont c ρ κ Tt s h Q):NR prog w A (exec (lawS 10) env) Q (To s h t):=by
 obtain ⟨f,hf,F⟩:=S.lets
 obtain ⟨CN,CS,CE,NK,SK,SN,CK,kCN,kCS,ts⟩:=S.K
 have hh:=hA.handled
 have ok:=ok_waits hc h7
 have wz:(waitsL cs).length≤49:=by have:=clash_len cs;have:(waitsL cs).length≤(pairsL cs).length:=List.length_filter_le _ _;unfold pairsL at this;rw[List.length_map] at this;lia
 have subρ:∀ {V:VD} {X' h'},WF c (("order",V)::ρ) κ Tt X' h'→WF c ρ κ Tt X' h':=fun {V X' h'} f=>⟨⟨f.1.1,f.1.2.1,f.1.2.2.sub fun x D e=>by
  rw[List.lookup_cons]
  by_cases q:x="order"
  ·subst q;rw[hr] at e;cases e
  ·rw[show (x == "order")=false by simpa using q];exact e⟩,f.2⟩
 have up0:=upW (ρ:=ρ) (κ:=κ) (rest_ord:Rest c.L (OrdL D))
 show NR prog w A (exec (.For (.Name "order" _) (.Name "orders" _) [.If (.Compare (.Call (.Name "_law_lets" _) [.Name "waits" _,.Name "order" _] [] _) [.NotEq] [.IfExp (.Compare (.Name "kept" _) [.NotEq] [_] _) (.Compare (.Name "order" _) [.In] [.Name "kept" _] _) (.Constant .none _ _) _] _) _ [] _] [] _) env) _ _
 refine for_w (P:=fun _ (_:Unit)=>True) (ρi:=fun zz=>ρ) (κi:=fun zz=>κ) (Ri:=fun zz=>Tt) (M0:=[]) () N.G (fun zz zz zz zz zz zz zz zz=>trivial) (fun zz zz zz zz zz m=>by cases m) (fun zz=>rest_true (L:=c.L) |>.up) ⟨st.1,st.2.1,trivial⟩ trivial
  (src_ord hh (fr.lv "orders" (by kernel_rfl) ho (by decide +kernel)) up0 fun X h i=>i.2.2) st bd (fun a m=>by rwa [List.append_nil] at m) (fun i od v h1a t1a X' zz Q' hod T bd1 hX1a zz st1 q1 q2=>?_) fun h' t' zz o b zz i=>k h' t' (by rwa [List.append_nil] at o) b i
 rw[List.append_nil] at hX1a q1
 have hod:od∈perms:=List.mem_of_getElem? hod
 refine wpAny_assign_Name (storeL (s:=s) (V:=.dat (odD od)) fr rest_true N.G (by kernel_rfl) st1 T.1 hX1a bd1 fun h2a t2a o2a b2b i2a=>?_)
 have up:=upW (ρ:=("order",.dat (odD od))::ρ) (κ:=κ) (rest_true:Rest c.L Tt)
 have ew:∀ {q:Pos},Ev prog w A env (WF c (("order",.dat (odD od))::ρ) κ Tt) (.Name "waits" q) (.list ((waitsL cs).map prD)):=fr.cd "waits" (by kernel_rfl) (i:=5) rfl hw (by decide +kernel) (by decide +kernel)
 have eo:∀ {q:Pos},Ev prog w A env (WF c (("order",.dat (odD od))::ρ) κ Tt) (.Name "order" q) (odD od):=fr.ld "order" (by kernel_rfl) (by rfl) (by kernel_rfl)
 have ek:∀ {q:Pos},Ev prog w A env (WF c (("order",.dat (odD od))::ρ) κ Tt) (.Name "kept" q) (.list ((keptL cs).map odD)):=fr.ld "kept" (by kernel_rfl) (by rw[List.lookup_cons,show (("kept":Str) == "order")=false by decide +kernel];exact hk) (by decide +kernel)
 refine xc (wpAny_If (wpAny_isTrue_Compare1 (hm:=by with_unfolding_all rfl) (callQ (ds:=[.list ((waitsL cs).map prD),odD od]) up b2b i2a (fr.gl "_law_lets" (by kernel_rfl) hf (by decide +kernel)) (F.keep gk2) (ev_cons up ew (ev_cons up eo ev_nil)) fun h3a t3a vs e3a av=>?_)))
 obtain ⟨W,O,rfl,aw,ao⟩:=two_inv av
 have i3a:=up.ext e3a i2a
 have b3a:=b2b.ext e3a
 obtain ⟨of,ff⟩:=outF_law fr i3a
 have hL:∀ b∈fas [env],b∈X'∧NT h3a b:=fun b m=>by rw[ff] at m;rw[m_s m];exact ⟨hX1a _ (.head _),i3a.1.nt⟩
 have L0:=fr.new _ (Nat.le_refl _)
 refine wpAny_mono (law_lets (n:=n) (s:=To s h3a t3a) F hA hfr of N.G i3a.1.2.1 (fun b m=>by rw[ff] at m;rw[m_s m];exact L0) NK SK SN CK kCN kCS ts S.li S.lib (at_hide aw hL) (at_hide ao hL) ok (by lia) hod _) (fun v s4a q=>?_) fun zz zz x=>x
 obtain ⟨h4a,t4a,rfl,sl,lets⟩:=q
 have sl:Slt [c.L] h3a h4a:=ff▸sl
 obtain ⟨i4a,o4a⟩:=i3a.slt (hX1a _ (.head _)) L0 N.G sl
 have b4a:Bd X' h4a:=bd_off b3a o4a fun a m=>by rw[m_s m];exact exl (i4a.1.nt)
 have hv:=lets_kept hc h7 hod lets
 have av:∀ {X h},At X h v (letsD cs od):=fun {X h}=>by
  rw[hv];unfold letsD;split
  ·exact .bool _
  ·exact .none
 refine evF (ev_letsD hA rfl up ek ek eo) b4a i4a fun u h5 t5 e5a au=>?_
 refine wpAny_mono (op_ne (s:=To s h5 t5) (X:=X') hA (shaped_letsD cs od) (shaped_letsD cs od) av au _) (fun z s6 q=>?_) fun zz zz x=>x
 obtain ⟨k6a,az⟩:=q
 rw[eqv_letsD] at az
 rw[az.bool_inv]
 obtain ⟨h6a,t6,rfl,e6a⟩:=k6a
 have e6a:Ext h5 h6a:=e6a
 refine wpAny_truthy_bool ?_
 show wpAny _ _ (execs [] env) _ _ _
 refine wpAny_execs_nil (wpAny_execs_nil (q1 h6a t6 () ?_ trivial (subρ (up.ext (Ext.trans e5a e6a) i4a))))
 exact o2a.trans ((Ext.off e3a).trans ((o4a.mono fun q m=>by rw[m_s m];exact .head _).trans (Ext.off (Ext.trans e5a e6a))))
end
theorem shaped_mapI {α:Type} (g:α→Int):∀ l:List α,shaped (.list (l.map fun a=>.int (g a)))=true
 | []=>rfl
 | a::l=>shaped_mapI g l
section
variable {c:Wc} {cs:List Int} {M:List Addr} {n:Nat} {z:Str} {k:Int} {D:Addr} {p:Pos}
theorem s_left {Q:FSP} (N:LwN c) (fr:FrC A0 n c.h0 c.L env) (hA:OKA A (n+1)) (st:WF c ρ κ Tt (FA c.L) h) (bd:Bd (FA c.L) h) (ho:κ.lookup ("ons":Str)=some (.dat (.list ((onsL cs).map .int)))) (hl:κ.lookup ("clashes":Str)=some (.dat (.list ((clashL cs).map prD))))
  (k:Cont c (("left",.dat (.list ((leftL cs).map .int)))::ρ) κ Tt s h Q):NR prog w A (exec (lawS 11) env) Q (To s h t):=by
 have up:=upW (ρ:=ρ) (κ:=κ) (rest_true:Rest c.L Tt)
 have hh:=hA.handled
 unfold leftL at k
 show NR prog w A (exec (.Assign [.Name "left" _] (.ListComp (.Name "on" _) [⟨.Name "on" _,_,_,0⟩] _ _) _) env) _ _
 refine compUC (T:=AtF PyData.int) (f:=PyData.int) (as:=onsL cs) (fun (on:Int)=>((clashL cs).filter fun (p:Int×Int)=>decide (p.2=on∧p.1>on)).isEmpty) (stT_atF _) (fun zz zz zz zz x=>x) fr rest_true N.G (by kernel_rfl) st bd (fun H=>by kernel_rfl) (clos_law fr (by decide +kernel)) (by kernel_rfl) (by decide +kernel) (by kernel_rfl) (fun C=>by kernel_rfl) (by decide +kernel) (by decide +kernel)
  (src_listF PyData.int hh (fr.cd "ons" (by kernel_rfl) (i:=3) rfl ho (by decide +kernel) (by decide +kernel))) (fun C cenv ce cz on mo=>ts_one ?_) (by have:=ons_len cs;lia) (sw_used (fr_fun fr) (by rw[fr.k];kernel_rfl) (by kernel_rfl) (by kernel_rfl)) k
 have up2:=up_and up (up_cellT (a:=C+1) (d:=on) (stT_atF PyData.int))
 refine tr_nil hA rfl up2 (o:=fun (p:Int×Int)=>.int p.1) (shaped_mapI _ _) ?_
 refine compL (f:=prD) (as:=clashL cs) (fun (p:Int×Int)=>[("hit",.dat (.int p.2)),("off",.dat (.int p.1))]) (fun (p:Int×Int)=>decide (p.2=on∧p.1>on)) (fun (p:Int×Int)=>.int p.1) up2 (by decide +kernel) (clos_cell cz (by decide +kernel)) (by kernel_rfl) (by decide +kernel) (src_listF prD hh (WF.capd (i:=4) ce (by kernel_rfl) (by kernel_rfl) rfl hl (by decide +kernel) (by decide +kernel) fun X h i=>i.1))
  (fun C' cenv' ce' p zz=>tgtN hh ce'.le rfl rfl rfl (.cons (ce'.k _ _ (by kernel_rfl) (by decide)) (.cons (ce'.k _ _ (by kernel_rfl) (by decide)) .nil))) (fun C' cenv' ce' p mp=>ts_one ?_) (fun C' cenv' ce' p zz zz=>ev_loc ce'.le (ce'.k _ _ (by kernel_rfl) (by decide)) (fun zz zz i=>i.2) (by rfl) (by kernel_rfl)) (by have:=clash_len cs;lia)
 have up3:=up_and up2 (up_loc (L:=C') (ρ:=[("hit",.dat (.int p.2)),("off",.dat (.int p.1))]))
 have eo:∀ {q:Pos},Ev prog w A cenv' (fun X h=>(WF c ρ κ Tt X h∧CellT (AtF PyData.int) (C+1) on X h)∧Loc C' [("hit",.dat (.int p.2)),("off",.dat (.int p.1))] X h) (.Name "on" q) (.int on):=ev_cellT (T:=AtF PyData.int) ce'.le.kind (ce'.free _ (by kernel_rfl)) (by rw[ce'.cells];kernel_rfl) (by decide +kernel) (by decide +kernel) fun X h i=>i.1.2
 refine Tr.eq (b:=(p.2 == on) && decide (on<p.1)) (by rw[Bool.eq_iff_iff];simp) (tr_and up3 (tr_cmp up3 (ev_loc ce'.le (ce'.k _ _ (by kernel_rfl) (by decide)) (fun zz zz i=>i.2) (by rfl) (by kernel_rfl)) eo fun S X u v zz x y=>op_eqi x y) fun zz=>tr_cmp up3 (ev_loc ce'.le (ce'.k _ _ (by kernel_rfl) (by decide)) (fun zz zz i=>i.2) (by rfl) (by kernel_rfl)) eo fun S X u v zz x y=>op_gt x y)
end
noncomputable def forB:Stmt→List Stmt
 | .For _ _ b _ _=>b
 | _=>[]
noncomputable def sub1 (l:List Stmt):Stmt:=l.headD (.Pass default)
noncomputable def bbD (p:Bool×Bool):PyData:=.tuple [.bool p.1,.bool p.2]
theorem eqv_row (a b:List Int):PyData.eqv (rowD a) (rowD b)=decide (rowO a=rowO b):=by
 have:PyData.eqv (rowD a) (rowD b)=((((rowO a).1 == (rowO b).1) && (((rowO a).2 == (rowO b).2) && true))):=rfl
 rw[this,Bool.eq_iff_iff,decide_eq_true_eq,Prod.ext_iff];simp
section
variable {c:Wc} {cs:List Int} {M:List Addr} {n:Nat} {z:Str} {k:Int} {D:Addr} {p:Pos} {V:VD}
theorem cons_sub (hr:ρ.lookup y=none):∀ x E,ρ.lookup x=some E→((y,V)::ρ).lookup x=some E:=fun x E e=>by
 rw[List.lookup_cons]
 by_cases q:x=y
 ·subst q;rw[hr] at e;cases e
 ·rw[show (x == y)=false by simpa using q];exact e
theorem WF.dropL (f:WF c ((y,V)::ρ) κ R X h) (hr:ρ.lookup y=none):WF c ρ κ R X h:=⟨⟨f.1.1,f.1.2.1,f.1.2.2.sub (cons_sub hr)⟩,f.2⟩
theorem WF.dropK (f:WF c ρ ((y,V)::κ) R X h) (hr:κ.lookup y=none):WF c ρ κ R X h:=⟨f.1,f.2.1.sub (cons_sub hr),f.2.2⟩
theorem look1 (hn:(z == y)=false) (h:ρ.lookup z=some V) {V':VD}:((y,V')::ρ).lookup z=some V:=by rw[List.lookup_cons,hn];exact h
theorem due_turn {c0 f:Int} {Q:FSP} (N:LwN c) (fr:FrC A0 n c.h0 c.L env) (hA:OKA A (n+1)) (hc:∀ c∈cs,0≤c∧c<972) (h7:cs.length=7) (h0:c0∈cs) (st:WF c ρ κ (Ml D ds) X h) (hX:∀ a∈FA c.L,a∈X) (bd:Bd X h) (hDX:D∈X) (hDF:D∉FA c.L) (hD0:c.h0.get? D=none) (hz:ds.length≤1000)
  (r1:ρ.lookup ("left":Str)=some (.dat (.list ((leftL cs).map .int)))) (r2:ρ.lookup ("due":Str)=some (.val (.ref D))) (r3:ρ.lookup ("same":Str)=none) (r4:ρ.lookup ("wide":Str)=none)
  (k1:κ.lookup ("deeds":Str)=some (.dat (.list (cs.map deedD)))) (k2:κ.lookup ("rows":Str)=some (.dat (.list (cs.map fun c=>rowD (octs c))))) (k3:κ.lookup ("row":Str)=some (.dat (rowD (octs c0)))) (k4:κ.lookup ("flag":Str)=some (.dat (.int f)))
  (k:∀ h' t',Off (FA c.L++[D]) h h'→Bd X h'→WF c ρ κ (Ml D (ds++[bbD (dueP cs c0 f)])) X h'→Q .next (To s h' t')):NR prog w A (execs (forB (sub1 (forB (lawS 13)))) env) Q (To s h t):=by
 have hh:=hA.handled
 have rD:Rest c.L (Ml D ds):=rest_ml fun e=>hDF (by rw[e];exact .head _)
 obtain ⟨fb,hb,F⟩:=N.beg
 have ll:(leftL cs).length≤7:=Nat.le_trans (List.length_filter_le _ _) (ons_len cs)
 have sl:∀ f,(sameL cs f).length≤7:=fun f=>Nat.le_trans (List.length_filter_le _ _) ll
 have in7:∀ {on},on∈sameL cs f→on∈R7:=fun m=>in_ons (List.mem_filter.mp (List.mem_filter.mp m).1).1
 show NR prog w A (execs (.Assign [.Name "same" _] (.ListComp _ [⟨_,_,_,0⟩] _ _) _::.Assign [.Name "wide" _] (.ListComp _ [⟨_,_,_,0⟩] _ _) _::.Expr (.Call (.Attribute (.Name "due" _) "append" _) [.Tuple [.BoolOp .Or [.Compare (.Name "wide" _) [.NotEq] [_] _,.Compare (.ListComp _ [⟨_,_,_,0⟩] _ _) [.NotEq] [_] _] _,.Compare (.Name "wide" _) [.NotEq] [_] _] _ _] [] _) _::[]) env) _ _
 refine xc (compUX (f:=PyData.int) (as:=leftL cs) (fun k=>[("on",.dat (.int k))]) (fun on=>decide ((kd cs on).fmod 2=f)) (fun k=>.int k) fr rD N.G (by kernel_rfl) st hX bd (by decide +kernel) (clos_law fr (by decide +kernel)) (by kernel_rfl) (by decide +kernel) (src_listF PyData.int hh (fr.ld "left" (by kernel_rfl) r1 (by decide +kernel)))
  (fun C cenv ce a zz=>tgt1 ce.le (ce.k _ _ (by kernel_rfl) (by decide))) (fun C cenv ce a ma=>ts_one ?_) (fun C cenv ce a ma zz=>ev_loc ce.le (ce.k _ _ (by kernel_rfl) (by decide)) (fun zz zz i=>i.2) (by rfl) (by kernel_rfl)) (by lia) (sw_used (fr_fun fr) (by rw[fr.k];kernel_rfl) (by kernel_rfl) (by kernel_rfl)) fun h1a t1a o1a b1a i1a=>?_)
 ·have up2:=up_and (upW (ρ:=ρ) (κ:=κ) rD) (up_loc (L:=C) (ρ:=[("on",.dat (.int a))]))
  have m7:a∈R7:=in_ons (List.mem_filter.mp ma).1
  refine Tr.eq (b:=(kd cs a).fmod 2 == f) (by rw[Bool.eq_iff_iff];simp) (tr_cmp up2 (ev_bin up2 (ev_kd h7 m7 up2 (WF.capd (i:=1) ce (by kernel_rfl) (by kernel_rfl) rfl k1 (by decide +kernel) (by decide +kernel) fun X h i=>i.1) (ev_loc ce.le (ce.k _ _ (by kernel_rfl) (by decide)) (fun zz zz i=>i.2) (by rfl) (by kernel_rfl)) fun zz zz=>by with_unfolding_all rfl) ev_int fun s X u v zz x y=>op_mod (by decide) x y)
   (WF.capd (i:=7) ce (by kernel_rfl) (by kernel_rfl) rfl k4 (by decide +kernel) (by decide +kernel) fun X h i=>i.1) fun s X u v zz x y=>op_eqi x y)
 have i1a:WF c (("same",.dat (.list ((sameL cs f).map .int)))::ρ) κ (Ml D ds) X h1a:=i1a
 refine xc (compUX (f:=PyData.int) (as:=sameL cs f) (fun k=>[("on",.dat (.int k))]) (fun on=>decide (kd cs on>3) && bgO (octs (atI cs on)) (octs c0)) (fun k=>.int k) fr rD N.G (by kernel_rfl) i1a hX b1a (by decide +kernel) (clos_law fr (by decide +kernel)) (by kernel_rfl) (by decide +kernel) (src_listF PyData.int hh (fr.ld "same" (by kernel_rfl) (by rfl) (by kernel_rfl)))
  (fun C cenv ce a zz=>tgt1 ce.le (ce.k _ _ (by kernel_rfl) (by decide))) (fun C cenv ce a ma=>ts_one ?_) (fun C cenv ce a ma zz=>ev_loc ce.le (ce.k _ _ (by kernel_rfl) (by decide)) (fun zz zz i=>i.2) (by rfl) (by kernel_rfl)) (by have:=sl f;lia) (sw_used (fr_fun fr) (by rw[fr.k];kernel_rfl) (by kernel_rfl) (by kernel_rfl)) fun h2a t2a o2a b2b i2a=>?_)
 ·have up2:=up_and (upW (ρ:=("same",.dat (.list ((sameL cs f).map .int)))::ρ) (κ:=κ) rD) (up_loc (L:=C) (ρ:=[("on",.dat (.int a))]))
  have m7:a∈R7:=in7 ma
  have eo:∀ {q:Pos},Ev prog w A cenv (fun X h=>WF c (("same",.dat (.list ((sameL cs f).map .int)))::ρ) κ (Ml D ds) X h∧Loc C [("on",.dat (.int a))] X h) (.Name "on" q) (.int a):=ev_loc ce.le (ce.k _ _ (by kernel_rfl) (by decide)) (fun zz zz i=>i.2) (by rfl) (by kernel_rfl)
  refine tr_and up2 (Tr.eq (b:=decide (3<kd cs a)) rfl (tr_cmp up2 (ev_kd h7 m7 up2 (WF.capd (i:=1) ce (by kernel_rfl) (by kernel_rfl) rfl k1 (by decide +kernel) (by decide +kernel) fun X h i=>i.1) eo fun zz zz=>by with_unfolding_all rfl) ev_int fun s X u v zz x y=>op_gt x y)) fun zz=>?_
  refine tr_b up2 (ev_call up2 (ev_global (fun X h i=>i.1.1.1) (ce.ge fr.ge) (ce.k _ _ (by kernel_rfl) (by decide)) hb (by decide +kernel)) (F.keep fun X h i=>i.1.1.1) (ev_cons up2 (ev_row h7 m7 up2 (WF.capd (i:=2) ce (by kernel_rfl) (by kernel_rfl) rfl k2 (by decide +kernel) (by decide +kernel) fun X h i=>i.1) eo fun zz zz=>by with_unfolding_all rfl)
   (ev_cons up2 (WF.capd (i:=6) (d:=rowD (octs c0)) ce (by kernel_rfl) (by kernel_rfl) rfl k3 (by decide +kernel) (by decide +kernel) fun X h i=>i.1) ev_nil)) fun s X vs b i a'=>?_)
  have:=(oct_ok _ (octs_in (hc _ h0)).1).1
  have hr:0≤((octs c0).length:Int)+1∧((octs c0).length:Int)+1≤4:=by lia
  exact law_begins (n:=n) F hA i.1.1.1 (row_len hc h7 m7) hr b a'
 have i2a:WF c (("wide",.dat (.list ((wideL cs c0 f).map .int)))::("same",.dat (.list ((sameL cs f).map .int)))::ρ) κ (Ml D ds) X h2a:=i2a
 have up:=upW (ρ:=("wide",.dat (.list ((wideL cs c0 f).map .int)))::("same",.dat (.list ((sameL cs f).map .int)))::ρ) (κ:=κ) rD
 have ew:∀ {q:Pos},Ev prog w A env (WF c (("wide",.dat (.list ((wideL cs c0 f).map .int)))::("same",.dat (.list ((sameL cs f).map .int)))::ρ) κ (Ml D ds)) (.Name "wide" q) (.list ((wideL cs c0 f).map .int)):=fr.ld "wide" (by kernel_rfl) (by rfl) (by kernel_rfl)
 have nw:∀ {q q':Pos} {en:Expr} {lp:Pos},en=.List [] lp→Ev prog w A env (WF c (("wide",.dat (.list ((wideL cs c0 f).map .int)))::("same",.dat (.list ((sameL cs f).map .int)))::ρ) κ (Ml D ds)) (.Compare (.Name "wide" q) [.NotEq] [en] q') (.bool (!(wideL cs c0 f).isEmpty)):=fun e=>(ev_nonil hA e up (shaped_mapI id _) ew).2
 refine xc (append2 (s:=To s h2a t2a) (d:=bbD (dueP cs c0 f)) up i2a b2b (fr.lv "due" (by kernel_rfl) (look1 (by decide +kernel) (look1 (by decide +kernel) r2)) (by decide +kernel)) (ev_tuple (ev_cons up (ev_or up (nw rfl) fun zz=>(ev_nonil (o:=PyData.int) (l:=(sameL cs f).filter fun on=>decide (rowO (octs (atI cs on))=rowO (octs c0))) hA rfl up (shaped_mapI id _) ?_).2) (ev_cons up (nw rfl) ev_nil)) (by simp)) hDX i2a.2.2 (by lia) (fun h3a t3a o3a b3a m3a x3a=>?_) (hi:=fr.ge.inter))
 ·refine compL (f:=PyData.int) (as:=sameL cs f) (fun k=>[("on",.dat (.int k))]) (fun on=>decide (rowO (octs (atI cs on))=rowO (octs c0))) (fun k=>.int k) up (by decide +kernel) (clos_law fr (by decide +kernel)) (by kernel_rfl) (by decide +kernel) (src_listF PyData.int hh (fr.ld "same" (by kernel_rfl) (by rfl) (by kernel_rfl)))
   (fun C cenv ce a zz=>tgt1 ce.le (ce.k _ _ (by kernel_rfl) (by decide))) (fun C cenv ce a ma=>ts_one ?_) (fun C cenv ce a ma zz=>ev_loc ce.le (ce.k _ _ (by kernel_rfl) (by decide)) (fun zz zz i=>i.2) (by rfl) (by kernel_rfl)) (by have:=sl f;lia)
  have up2:=up_and up (up_loc (L:=C) (ρ:=[("on",.dat (.int a))]))
  refine Tr.eq (eqv_row _ _) (tr_cmp up2 (ev_row h7 (in7 ma) up2 (WF.capd (i:=2) ce (by kernel_rfl) (by kernel_rfl) rfl k2 (by decide +kernel) (by decide +kernel) fun X h i=>i.1) (ev_loc ce.le (ce.k _ _ (by kernel_rfl) (by decide)) (fun zz zz i=>i.2) (by rfl) (by kernel_rfl)) fun zz zz=>by with_unfolding_all rfl)
   (WF.capd (i:=6) (d:=rowD (octs c0)) ce (by kernel_rfl) (by kernel_rfl) rfl k3 (by decide +kernel) (by decide +kernel) fun X h i=>i.1) fun s X u v zz x y=>op_eq hA rfl rfl x y)
 ·obtain ⟨g,eg,ng,ig,og⟩:=x3a
  have i3a:=WF.off ig N.G og (fun b m=>by rw[m_s m];exact ⟨hD0,hDX,hDF,ng.mk⟩) m3a
  refine wpAny_execs_nil (k h3a t3a ?_ b3a ((i3a.dropL (by rw[List.lookup_cons,show (("wide":Str) == "same")=false by decide +kernel];exact r4)).dropL r3))
  exact ((o1a.trans o2a).mono fun q m=>m_l _ m).trans (o3a.mono fun q m=>m_r _ m)
end
noncomputable def dueTo (cs l:List Int):List PyData:=(l.flatMap fun c=>[0,1].map fun f=>dueP cs c f).map bbD
theorem dueTo_snoc (cs l:List Int) (c:Int):dueTo cs (l++[c])=dueTo cs l++([0,1].map fun f=>bbD (dueP cs c f)):=by
 unfold dueTo;simp
theorem dueTo_len (cs:List Int):∀ l:List Int,(dueTo cs l).length=2 * l.length
 | []=>rfl
 | c::l=>by
  have:=dueTo_len cs l
  unfold dueTo at this ⊢
  rw[List.length_map] at this ⊢
  rw[List.flatMap_cons,List.length_append,this,List.length_cons];simp;lia
section
variable {c:Wc} {cs:List Int} {M:List Addr} {n:Nat} {z:Str} {k:Int} {D:Addr} {p:Pos} {V:VD}
theorem ev_t2 {a:Int} {e:Expr} {k0:Nat} {p0 p1 p2:Pos} (he:Expr.Tuple [.Constant (.int a) k0 p0,.Constant (.int b) k1 p1] k2 p2=e) (up:Up I):Ev prog w A env I e (.tuple ([a,b].map .int)):=by
 have x:EvAll prog w A env I [.Constant (.int a) k0 p0,.Constant (.int b) k1 p1] [.int a,.int b]:=ev_cons up ev_int (ev_cons up ev_int ev_nil)
 have:=ev_tuple (k:=k2) (pos:=p2) x (by simp)
 rw[← he];exact this
theorem s_due {S:Stmt} {Q:FSP} (hS:S=lawS 12) (N:LwN c) (fr:FrC A0 n c.h0 c.L env) (st:WF c ρ κ Tt (FA c.L) h) (bd:Bd (FA c.L) h)
  (k:∀ D h' t',h.get? D=none→Off (FA c.L) h h'→Bd (D::FA c.L) h'→WF c (("due",.val (.ref D))::ρ) κ (Ml D []) (D::FA c.L) h'→Q .next (To s h' t')):NR prog w A (exec S env) Q (To s h t):=by
 subst hS
 show NR prog w A (exec (.Assign [.Name "due" _] (.List [] _) _) env) _ _
 exact asg_nil (s:=To s h t) (rest_w rest_true) st bd fr.le (by rw[fr.k];kernel_rfl) N.G (fr.new _ (Nat.le_refl _)) (.head _) fun h' t' D n0 o b i m=>k D h' t' n0 (o.mono fun q m=>by rw[m_s m];exact .head _) b ⟨i.1,i.2.1,m⟩
theorem s_rowloop {Q:FSP} (N:LwN c) (fr:FrC A0 n c.h0 c.L env) (hA:OKA A (n+1)) (hc:∀ c∈cs,0≤c∧c<972) (h7:cs.length=7) (st:WF c ρ κ (Ml D []) (D::FA c.L) h) (bd:Bd (D::FA c.L) h) (hDF:D∉FA c.L) (hD0:c.h0.get? D=none)
  (r1:ρ.lookup ("left":Str)=some (.dat (.list ((leftL cs).map .int)))) (r2:ρ.lookup ("due":Str)=some (.val (.ref D))) (r3:ρ.lookup ("same":Str)=none) (r4:ρ.lookup ("wide":Str)=none)
  (k1:κ.lookup ("deeds":Str)=some (.dat (.list (cs.map deedD)))) (k2:κ.lookup ("rows":Str)=some (.dat (.list (cs.map fun c=>rowD (octs c))))) (k3:κ.lookup ("row":Str)=none) (k4:κ.lookup ("flag":Str)=none)
  (k:∀ h' t',Off (FA c.L++[D]) h h'→Bd (D::FA c.L) h'→WF c ρ κ (Ml D (dueTo cs cs)) (D::FA c.L) h'→Q .next (To s h' t')):NR prog w A (exec (lawS 13) env) Q (To s h t):=by
 have hh:=hA.handled
 have rD:∀ ds,Rest c.L (Ml D ds):=fun ds=>rest_ml fun e=>hDF (by rw[e];exact .head _)
 have FX:∀ a∈FA c.L++[D],a∈D::FA c.L:=fun a m=>(m_a m).elim (fun m=>.tail _ m) fun m=>by rw[m_s m];exact .head _
 have mst:∀ {hs:Heap},(∃ o,hs.get? D=some o)→∀ b X h' h'' Wr,Ml D b X h'→(∀ a∈Wr,hs.get? a=none∧a∈X∧∀ o,h'.get? a=some o→¬ TupObj o)→Off Wr h' h''→Ml D b X h'':=fun {hs}=>by
  rintro ⟨o,e⟩ b X h' h'' Wr m hW k
  exact m.off k (fun q=>by have:=(hW D q).1;rw[e] at this;cases this) fun a q=>(hW a q).2
 have mnt:∀ b X h',Ml D b X h'→∀ a∈[D],NT h' a:=fun b X h' m a q=>by rw[m_s q];exact m.nt
 show NR prog w A (exec (.For (.Name "row" _) (.Name "rows" _) (forB (lawS 13)) [] _) env) _ _
 refine for_w (P:=fun i b=>b=dueTo cs (cs.take i)) (ρi:=fun zz=>ρ) (κi:=fun zz=>κ) (Ri:=fun b=>Ml D b) (M0:=[D]) [] N.G (mst (bd D (.head _))) mnt (fun zz=>up_ml) st rfl (src_listF (fun c=>rowD (octs c)) hh (fr.cd "rows" (by kernel_rfl) (i:=2) rfl k2 (by decide +kernel) (by decide +kernel))) st bd FX
  (fun i c0 v h1a t1a X' b Q' hi T bd1 hX1a hb st1 q1 zz=>?_) fun h' t' b o bd' e i=>?_
 ·subst hb
  have h0:c0∈cs:=List.mem_of_getElem? hi
  have hX1':∀ a∈FA c.L,a∈X':=fun a m=>hX1a a (m_l _ m)
  have hDX:D∈X':=hX1a D (m_r _ (.head _))
  have bl:(dueTo cs (cs.take i)).length≤14:=by rw[dueTo_len];have:=List.length_take_le' i cs;lia
  refine wpAny_assign_Name (st_cell (s:=s) (i:=6) (V:=.dat (rowD (octs c0))) fr (restC_ml hDF) N.G (by kernel_rfl) rfl st1 T hX1' bd1 fun h2a t2a o2a b2b i2a=>?_)
  show NR prog w A (execs [.For (.Name "flag" _) (.Tuple [.Constant (.int 0) _ _,.Constant (.int 1) _ _] _ _) (forB (sub1 (forB (lawS 13)))) [] _] env) _ _
  generalize he:Expr.Tuple [.Constant (.int 0) _ _,.Constant (.int 1) _ _] _ _=e
  refine xc (for_w (P:=fun j b=>b=dueTo cs (cs.take i)++(([0,1].take j).map fun f=>bbD (dueP cs c0 f))) (ρi:=fun zz=>ρ) (κi:=fun zz=>("row",.dat (rowD (octs c0)))::κ) (Ri:=fun b=>Ml D b) (M0:=[D]) (dueTo cs (cs.take i)) N.G (mst (b2b D hDX)) mnt (fun zz=>up_ml) i2a (by simp) (src_tupleF PyData.int hh (ev_t2 he (upW (rD _)))) i2a b2b hX1a (hs:=fun x=>by rw[← he];rfl)
   (fun j f v h3a t3a X2 b Q2a hj T2 bd3 hX2a hb st3 q3 zz=>?_) fun h' t' b o bd' e i'=>?_)
  ·subst hb
   have hX2':∀ a∈FA c.L,a∈X2:=fun a m=>hX2a a (m_l _ m)
   refine wpAny_assign_Name (st_cell (s:=s) (i:=7) (V:=.dat (.int f)) fr (restC_ml hDF) N.G (by kernel_rfl) rfl st3 T2 hX2' bd3 fun h4a t4a o4a b4a i4a=>?_)
   refine due_turn (n:=n) (c0:=c0) (f:=f) N fr hA hc h7 h0 i4a hX2' b4a (hX2a D (m_r _ (.head _))) hDF hD0 (by rw[List.length_append,List.length_map];have:(([0,1]:List Int).take j).length≤2:=List.length_take_le' j _;lia) r1 r2 r3 r4 (look1 (by decide +kernel) (look1 (by decide +kernel) k1)) (look1 (by decide +kernel) (look1 (by decide +kernel) k2)) (by rfl) (by rfl) fun h5 t5 o5a b5a i5a=>?_
   refine q3 h5 t5 _ ((o4a.mono fun q m=>m_l _ (by rw[m_s m];exact mem_FA.mpr (.inr ⟨7,by decide,by decide,rfl⟩))).trans o5a) ?_ (i5a.dropK (by rw[List.lookup_cons,show (("flag":Str) == "row")=false by decide +kernel];exact k4))
   rw[List.take_add_one,hj];simp
  ·refine wpAny_execs_nil (q1 h' t' b ((o2a.mono fun q m=>m_l _ (by rw[m_s m];exact mem_FA.mpr (.inr ⟨6,by decide,by decide,rfl⟩))).trans o) ?_ (i'.dropK k3))
   rw[e,List.take_add_one,hi]
   exact (dueTo_snoc _ _ _).symm
 ·rw[e,List.take_length] at i
  exact k h' t' o bd' i
end
noncomputable def intsD (l:List Int):PyData:=.list (l.map .int)
section
variable {c:Wc} {cs:List Int} {M:List Addr} {n:Nat} {z:Str} {k:Int} {D:Addr} {p:Pos} {V:VD}
theorem op_addt {a b:List PyData} (x:At X s.heap u (.tuple a)) (y:At X s.heap v (.tuple b)) (ha:a≠[]) (hb:b≠[]) (hz:a.length+b.length≤1000):Op prog w A (binaryOp .Add u v) s X (.tuple (a++b)):=fun E=>by
 obtain ⟨l,i1,rfl,hl,r1⟩:=x.tuple_inv
 obtain ⟨m,i2,rfl,hm,r2⟩:=y.tuple_inv
 have z1:=r1.length
 have z2:=r2.length
 simp only[Array.length_toList] at z1 z2
 have ne:∀ {i:Array Value} {e:List PyData},i.size=e.length→e≠[]→¬ i.isEmpty=true:=fun z n q=>n (List.length_eq_zero_iff.mp (by rw[← z];exact Array.isEmpty_iff_size_eq_zero.mp q))
 obtain ⟨⟨cls,dd,data,sl⟩,ho,hc,n,hd⟩:=hl
 obtain ⟨⟨cls2,dd2,data2,sl2⟩,ho2,hc2,n2,hd2⟩:=hm
 simp only at hc hd hc2 hd2
 subst hc hd hc2 hd2
 refine concat_meets ⟨_,ho,rfl⟩ ⟨_,ho2,rfl⟩ noFill_tuple_add seq_tuple_add PySem.F.slot_tuple_add PySem.F.entry_tuple_add (PySem.F.args_tuple_add_2 _ _) (tuple_addW2 l m i1 i2 n n2 dd dd2 sl sl2 (ne z1 ha) (ne z2 hb) (by rw[sizeLine_eq];lia)) ⟨ho,ho2,kp_push _ _,.tuple ⟨_,Heap.get?_push_size _ rfl,rfl,0,rfl⟩ ?_⟩
 rw[Array.toList_append]
 exact (r1.append r2).ext (Ext.push _ _)
theorem ev_r7 {np np' ap pos pos':Pos} (up:Up I) (hh:A.handled=none) (hl:EvR prog w A env I (.Name "list" np) (fun zz zz v=>v=.type "list")) (hf:EvR prog w A env I (.Name "range" np') (fun zz zz v=>v=.type "range")):Ev prog w A env I (.Call (.Name "list" np) [.Call (.Name "range" np') [.Constant (.int 7) kk ap] [] pos'] [] pos) (intsD R7) :=
 ev_call1R (R':=fun zz h v=>∃ r t u v',v=.ref r∧IsRange h r 0 7 1 t u v') up hl keeper_type
  (fun s E X hX hI=>call1_wp (P:=IsI 7) up hf keeper_type (EvR.int ev_int) hX hI fun s' v k i hv=>by
   obtain ⟨t,rfl⟩:=hv
   exact call_range_1 ⟨kp_trans k (kp_heap _ (Ext.push _ _)),_,_,_,_,rfl,Heap.get?_push_size _ rfl⟩)
  fun s X v E hX _=>by
   rintro ⟨r,t,u,v',e,hr⟩
   rw[e];exact op_list_range hh hX hr E
theorem s_runs {Q:FSP} (N:LwN c) (S:LwS c w) (fr:FrC A0 n c.h0 c.L env) (hA:OKA A (n+1)) (h7:cs.length=7) (r:Rest c.L R) (st:WF c ρ κ R X h) (hX:∀ a∈FA c.L,a∈X) (bd:Bd X h)
  (hk:ρ.lookup ("kept":Str)=some (.dat (.list ((keptL cs).map odD)))) (hd:κ.lookup ("deeds":Str)=some (.dat (.list (cs.map deedD))))
  (k:∀ h' t',Off (FA c.L) h h'→Bd X h'→WF c (("runs",.dat (.list ((runsL cs).map intsD)))::ρ) κ R X h'→Q .next (To s h' t')):NR prog w A (exec (lawS 14) env) Q (To s h t):=by
 have hh:=hA.handled
 have up:=upW (ρ:=ρ) (κ:=κ) r
 have kl:(keptL cs).length≤6:=List.length_filter_le _ _
 show NR prog w A (exec (.Assign [.Name "runs" _] (.BinOp (.List [_] _) .Add (.ListComp _ [⟨.Name "order" _,.Name "kept" _,_,0⟩] _ _) _) _) env) _ _
 refine asgL (d:=.list ((runsL cs).map intsD)) fr r N.G (by kernel_rfl) st ?_ hX bd rfl k
 refine ev_bin (b:=.list ((keptL cs).map fun od=>intsD (od.flatMap fun h=>R7.filter fun k=>decide (Mine.hd cs k=h)))) up (ev_list (ev_cons up (ev_r7 up hh (fr.bl "list" (by kernel_rfl) S.li S.lib (by decide +kernel)) (fr.bl "range" (by kernel_rfl) N.rng N.rngb (by decide +kernel))) ev_nil) (by simp)) ?_ fun s X u v hX x y=>?_
 ·refine Ev.eq ?_ (compL (f:=odD) (as:=keptL cs) (fun od=>[("order",.dat (odD od))]) (fun zz=>true) (fun od=>intsD (od.flatMap fun h=>R7.filter fun k=>decide (Mine.hd cs k=h))) up (by decide +kernel) (clos_law fr (by decide +kernel)) (by kernel_rfl) (by decide +kernel) (src_listF odD hh (fr.ld "kept" (by kernel_rfl) hk (by decide +kernel)))
   (fun C cenv ce a zz=>tgt1 ce.le (ce.k _ _ (by kernel_rfl) (by decide))) (fun C cenv ce a zz=>ts_nil) (fun C cenv ce od mo zz=>?_) (by lia))
  ·rw[List.filter_eq_self.mpr (fun zz zz=>rfl)]
  ·have up2:=up_and up (up_loc (L:=C) (ρ:=[("order",.dat (odD od))]))
   have ol:od.length=3:=perm_len (List.mem_filter.mp mo).1
   refine Ev.eq ?_ (comp2 (T:=AtF PyData.int) (f:=PyData.int) (as:=od) (bs:=fun zz=>R7) (fun a=>[("hand",.dat (.int a))]) (fun a b=>[("k",.dat (.int b)),("hand",.dat (.int a))]) (fun zz=>true) (fun a b=>decide (Mine.hd cs b=a)) (fun a b=>.int b) up2 (by decide +kernel) (cl:=freesG (gL c.L) _ []) (clos_of fun x m e=>?_) (by kernel_rfl) (by decide +kernel) (fun a=>allpl_nil.cons (pl_int _)) (src_tupleF PyData.int hh (ev_loc ce.le (ce.k _ _ (by kernel_rfl) (by decide)) (fun zz zz i=>i.2) (by rfl) (by kernel_rfl)))
    (fun C' cenv' ce' a zz=>tgt1 ce'.le (ce'.k _ _ (by kernel_rfl) (by decide))) (fun C' cenv' ce' a zz=>ts_nil) (fun C' cenv' ce' a zz=>src_range (up_and up2 up_loc) hh (ev_builtin (fun X h i=>i.1.1.1.1) (ce'.ge (ce.ge fr.ge)) (ce'.k _ _ (by kernel_rfl) (by decide)) N.rng N.rngb (by decide +kernel))) (fun C' cenv' ce' a zz b zz=>tgt1p ce'.le (allpl_nil.cons (pl_int _)) (ce'.k _ _ (by kernel_rfl) (by decide)) (by rfl))
    (fun C' cenv' ce' a ma b mb=>ts_one ?_) (fun C' cenv' ce' a ma b mb zz=>ev_loc ce'.le (ce'.k _ _ (by kernel_rfl) (by decide)) (fun zz zz i=>i.2) (by rfl) (by kernel_rfl)) (by lia) (fun zz zz=>by decide))
   ·unfold intsD outsOf
    rw[List.map_flatMap];rfl
   ·have q:x.1="deeds":=by
     have:∀ {names:List (Str×NameKind)},(names.all fun x=>x.2 != .free || x.1 == "deeds")=true→∀ x∈names,x.2=.free→x.1="deeds":=fun {names} h x m e=>by
      have:=List.all_eq_true.mp h x m
      rw[e] at this;simpa using this
     exact this (by decide +kernel) x m e
    rw[q,ce.cells];kernel_rfl
   ·have up3:=up_and up2 (up_loc (L:=C') (ρ:=[("k",.dat (.int b)),("hand",.dat (.int a))]))
    refine Tr.eq (b:=Mine.hd cs b == a) (by rw[Bool.eq_iff_iff];simp) (tr_cmp up3 (ev_hd h7 mb up3 (WF.capd (i:=1) ce' (by kernel_rfl) (by kernel_rfl) rfl hd (by decide +kernel) (by decide +kernel) fun X h i=>i.1.1) (ev_loc ce'.le (ce'.k _ _ (by kernel_rfl) (by decide)) (fun zz zz i=>i.2) (by rfl) (by kernel_rfl)) fun zz zz=>by with_unfolding_all rfl) (ev_loc ce'.le (ce'.k _ _ (by kernel_rfl) (by decide)) (fun zz zz i=>i.2) (by rfl) (by kernel_rfl)) fun s X u v zz x y=>op_eqi x y)
 ·have:=op_addl (prog:=prog) (w:=w) (A:=A) hX (by rw[List.length_map];simp;lia) x y
  unfold runsL
  rw[List.map_cons,List.map_map]
  exact this
end
structure Sn where
 hs:Heap
 X0:List Addr
structure SnOk (c:Wc) (z:Sn):Prop where
 e0:Ext c.h0 z.hs
 fx:∀ a∈FA c.L,a∈z.X0∧NT z.hs a
 L0:∀ a∈FA c.L,c.h0.get? a=none
 G:GK c.K c.mg c.mb c.h0
noncomputable def SS (c:Wc) (z:Sn) (ρ κ:List (Str×VD)) (X:List Addr) (h:Heap):Prop :=
 Hid z.X0 X z.hs∧(∀ b o,b∉FA c.L→z.hs.get? b=some o→h.get? b=some o)∧(∃ m,h.Ns c.L m∧∀ x D,ρ.lookup x=some D→∃ v,m x=some v∧D.at z.X0 z.hs v) ∧
 (∀ i:Nat,1≤i→i≤8→∃ u,h.IsCell (c.L+i) u)∧∀ y D,κ.lookup y=some D→∃ i v,ci y=some i∧h.IsCell (c.L+i) (some v)∧D.at z.X0 z.hs v
section
variable {c:Wc} {z:Sn} {M:List Addr} {V:VD}
theorem SS.nt (w:SS c z ρ κ X h):∀ a∈FA c.L,NT h a:=fun a m=>by
 rcases mem_FA.mp m with rfl|⟨i,h1,h2,rfl⟩
 ·obtain ⟨m,hn,_⟩:=w.2.2.1;exact ns_not_tup hn
 ·obtain ⟨u,hu⟩:=w.2.2.2.1 i h1 h2;exact cell_not_tup hu
theorem SS.of (st:WF c ρ κ R X h):SS c ⟨h,X⟩ ρ κ X h:=⟨Hid.refl _ _,fun zz zz zz e=>e,st.1.2.2,st.2.1.1,st.2.1.2⟩
theorem SS.up (w:SS c z ρ κ X h) (k:Ext h h') (q:Hid X X' h):SS c z ρ κ X' h':=by
 obtain ⟨a,b,⟨m,hn,hr⟩,d,e⟩:=id w
 refine ⟨fun x mx=>?_,fun x o n eo=>k _ _ (b x o n eo),⟨m,hn.at' fun o eo=>k _ o eo,hr⟩,fun i x y=>(d i x y).imp fun zz z=>isCell_keep z fun o eo=>k _ o eo,fun y D ey=>by
  obtain ⟨i,v,p,q,r⟩:=e y D ey
  exact ⟨i,v,p,isCell_keep q fun o eo=>k _ o eo,r⟩⟩
 rcases q x mx with n|n
 ·exact a x n
 ·right
  cases f:z.hs.get? x with
  | none=>rfl
  | some o =>
   by_cases mf:x∈FA c.L
   ·obtain ⟨o',e',_⟩:=w.nt x mf;rw[n] at e';cases e'
   ·rw[b x o mf f] at n;cases n
theorem up_ws:Up (SS c z ρ κ):=fun X X' h h' k q w=>w.up k q
theorem SS.sub (w:SS c z ρ κ X h) (s:∀ x D,ρ'.lookup x=some D→ρ.lookup x=some D):SS c z ρ' κ X h:=by obtain ⟨a,b,⟨m,hn,hr⟩,d⟩:=w;exact ⟨a,b,⟨m,hn,fun x D e=>hr x D (s x D e)⟩,d⟩
theorem SS.ext0 (w:SS c z ρ κ X h) (ok:SnOk c z):Ext c.h0 h:=fun b o e=>by
 by_cases m:b∈FA c.L
 ·rw[ok.L0 b m] at e;cases e
 ·exact w.2.1 b o m (ok.e0 b o e)
theorem vd_snap {D:VD} {X0:List Addr} (x:D.at X0 hs v) (k:Chg X0 hs h) (q:Hid X0 X hs):D.at X h v:=by
 cases D with
 | val u=>exact x
 | dat d =>
  obtain ⟨as,r,n⟩:=(x:At X0 hs v d)
  refine ⟨as,reads_chg k r n,fun a m mx=>?_⟩
  rcases q a mx with q|q
  ·exact n a m q
  ·obtain ⟨o,e⟩:=reads_there r a m;rw[q] at e;cases e
theorem SS.chg (w:SS c z ρ κ X h) (ok:SnOk c z):Chg z.X0 z.hs h:=fun b o e q=>w.2.1 b o (fun m=>by
 rcases q with q|q
 ·exact q (ok.fx b m).1
 ·exact (ok.fx b m).2.mk o e q) e
theorem SS.wf (w:SS c z ρ κ X h) (ok:SnOk c z) (r:R X h):WF c ρ κ R X h:=by
 have ch:=w.chg ok
 have e:=w.ext0 ok
 obtain ⟨a,b,⟨m,hn,hr⟩,d,f⟩:=w
 exact ⟨⟨ok.G.ext e,e,m,hn,fun x D e=>by
  obtain ⟨v,p,q⟩:=hr x D e
  exact ⟨v,p,vd_snap q ch a⟩⟩,⟨d,fun y D e=>by
   obtain ⟨i,v,p,q,r⟩:=f y D e
   exact ⟨i,v,p,q,vd_snap r ch a⟩⟩,r⟩
theorem SS.off (w:SS c z ρ κ X h) (k:∀ b o,(b∈FA c.L∨∃ o',z.hs.get? b=some o')→h.get? b=some o→h'.get? b=some o):SS c z ρ κ X h':=by
 obtain ⟨a,b,⟨m,hn,hr⟩,d,e⟩:=w
 exact ⟨a,fun x o n eo=>k x o (.inr ⟨o,eo⟩) (b x o n eo),⟨m,hn.at' fun o eo=>k _ o (.inl (.head _)) eo,hr⟩,fun i x y=>(d i x y).imp fun zz z=>isCell_keep z fun o eo=>k _ o (.inl (mem_FA.mpr (.inr ⟨i,x,y,rfl⟩))) eo,fun y D ey=>by
  obtain ⟨i,v,p,q,r⟩:=e y D ey
  exact ⟨i,v,p,isCell_keep q fun o eo=>k _ o (.inl (mem_FA.mpr (.inr ⟨i,(ci_rng p).1,(ci_rng p).2,rfl⟩))) eo,r⟩⟩
end
section
variable {c:Wc} {z:Sn} {M:List Addr} {V:VD} {n:Nat}
theorem SS.storeL {Q:Unit→Shared→Prop} (fr:FrC A0 n c.h0 c.L env) (hk:(fScope (topS 21)).names.lookup y=some .local) (st:SS c z ρ κ X h) (hv:V.at z.X0 z.hs v)
  (k:∀ h' t',Off [c.L] h h'→SS c z ((y,V)::ρ) κ X h'→Q () (To s h' t')):NR prog w A (storeName env y v) Q (To s h t):=by
 obtain ⟨a,b,⟨m,hn,hr⟩,d,e⟩:=st
 refine store_local (s:=To s h t) fr.le (by rw[fr.k];exact hk) hn fun h' hn' ko=>?_
 have ne:∀ i:Nat,1≤i→c.L+i∉[c.L]:=fun i h m=>add_ne h (m_s m)
 refine k h' _ ko ⟨a,fun x o nx eo=>ko x o (fun mx=>nx (by rw[m_s mx];exact .head _)) (b x o nx eo),⟨_,hn',fun x D ex=>?_⟩,fun i x y=>(d i x y).imp fun zz z=>isCell_keep z fun o eo=>ko _ o (ne i x) eo,fun y D ey=>by
  obtain ⟨i,v,p,q,r⟩:=e y D ey
  exact ⟨i,v,p,isCell_keep q fun o eo=>ko _ o (ne i (ci_rng p).1) eo,r⟩⟩
 rw[List.lookup_cons] at ex
 by_cases q:x=y
 ·subst q;simp at ex;subst ex;exact ⟨v,by simp,hv⟩
 ·rw[show (x == y)=false by simpa using q] at ex
  obtain ⟨u,p,r⟩:=hr x D ex
  exact ⟨u,by simp[q,p],r⟩
theorem SS.storeC {Q:Unit→Shared→Prop} {i:Nat} (fr:FrC A0 n c.h0 c.L env) (hk:(fScope (topS 21)).names.lookup y=some .cell) (hi:ci y=some i) (st:SS c z ρ κ X h) (hv:V.at z.X0 z.hs v)
  (k:∀ h' t',Off [c.L+i] h h'→SS c z ρ ((y,V)::κ) X h'→Q () (To s h' t')):NR prog w A (storeName env y v) Q (To s h t):=by
 obtain ⟨a,b,⟨m,hn,hr⟩,d,e⟩:=st
 obtain ⟨r1,r2⟩:=ci_rng hi
 obtain ⟨u,hu⟩:=d i r1 r2
 refine wpAny_storeName_cell fr.ge.kind (by rw[fr.k];exact hk) (by rw[fr.cells,hi];rfl) hu fun h' hc sb=>?_
 have o:Off [c.L+i] h h':=fun b ob n e=>sb.extBut b ob (fun q=>n (q▸List.mem_singleton_self _)) e
 refine k h' _ o ⟨a,fun x ob nx eo=>o x ob (fun mx=>nx (by rw[m_s mx];exact mem_FA.mpr (.inr ⟨i,r1,r2,rfl⟩))) (b x ob nx eo),⟨m,hn.at' fun ob eo=>o _ ob (fun mx=>add_ne r1 (m_s mx).symm) eo,hr⟩,fun j x y=>?_,fun y' D ey=>?_⟩
 ·by_cases q:j=i
  ·subst q;exact ⟨_,hc⟩
  ·exact (d j x y).imp fun zz z=>isCell_keep z fun ob e=>o _ ob (fun m=>q (add_inj (m_s m))) e
 ·rw[List.lookup_cons] at ey
  by_cases q:y'=y
  ·subst q;simp at ey;subst ey;exact ⟨i,v,hi,hc,hv⟩
  ·rw[show (y' == y)=false by simpa using q] at ey
   obtain ⟨j,u,p,b',d'⟩:=e y' D ey
   have:j≠i:=fun z=>q (ci_inj p (z▸hi))
   exact ⟨j,u,p,isCell_keep b' fun ob e=>o _ ob (fun m=>this (add_inj (m_s m))) e,d'⟩
end
structure LwF (c:Wc) (w:World) (C:Addr):Prop where
 cl:c.mg "Flags"=some (.ref C)
 FK:FlagsK c.K w C
 kC:keepIn c.K (.ref C)=true
 m1:c.mg "set"=none
 b1:c.mb "set"=some (.type "set")
 sh:∀ nm∈([("unset_all":Str),"set","is_"]:List Str),∀ t1 t2 r p,shadowIn (some (fobj w.params t1 t2 r p)) nm=some false
structure Ob where
 C:Addr
 x:Addr
 dx:Addr
theorem FObj.base {x:Addr} {adr:List Str→Nat→Addr} {σ:Sg} (f:FObj prog w C hb x dx adr σ N h) (e:Ext h0 hb):FObj prog w C h0 x dx adr σ N h :=
 ⟨⟨f.1.cont,f.1.node,f.1.closed,f.1.inj,fun p i l=>none_before e (f.1.new p i l)⟩,f.2⟩
noncomputable def FW (prog:Program) (w:World) (c:Wc) (z:Sn) (o:Ob) (adr:List Str→Nat→Addr) (σ:Sg) (N:Nat) (h:Heap):Prop:=FObj prog w o.C c.h0 o.x o.dx adr σ N h∧∀ b,Own o.x o.dx adr σ b→z.hs.get? b=none
section
variable {c:Wc} {cs:List Int} {z:Sn} {o:Ob} {adr adr':List Str→Nat→Addr} {σ σ':Sg} {M:List Addr} {V:VD} {n:Nat} {k:Int}
theorem FW.ext (x:FW prog w c z o adr σ N h) (k:Ext h h'):FW prog w c z o adr σ N h':=⟨x.1.ext k,x.2⟩
theorem up_sf:Up (fun X h=>SS c z ρ κ X h∧FW prog w c z o adr σ N h):=fun zz zz zz zz k q x=>⟨x.1.up k q,x.2.ext k⟩
noncomputable abbrev MC (env:Env) (e:Expr) (name:Str) (apos pos:Pos) (args:List Expr) (kws:List Keyword) (pl:Sem Bool):Prop:=eval (.Call (.Attribute e name apos) args kws pos) env=(do
   let ov ← eval e env
   standAt apos.atName
   let (f,first) ← holding [ov] (getMethod ov name pl)
   callWith pos f first (backTo pos (starEach args env)) (backToKw pos (keywordEach kws env)))
theorem methF {e:Expr} {name:Str} {apos pos:Pos} {args:List Expr} {kws:List Keyword} {pl:Sem Bool} {Q:VSP} (L:LwF c w o.C) (hn:name∈([("unset_all":Str),"set","is_"]:List Str)) (hf:findIn c.K (.ref o.C) name=some (some (.ref f))) (ht:typeIn c.K (.ref f)=some (.type "function")) (up:Up I) (bd:Bd X h) (hI:I X h)
  (ho:EvR prog w A env I e (fun zz zz v=>v=.ref o.x)) (hR:∀ X h,I X h→c.K.In h∧FObj prog w o.C c.h0 o.x o.dx adr σ N h)
  (he:MC env e name apos pos args kws pl)
  (q:∀ h' t',Ext h h'→I X h'→wpAny (model prog w) A (callWith pos (.ref f) [.ref o.x] (backTo pos (starEach args env)) (backToKw pos (keywordEach kws env))) Q E (To s h' t')) :
  wpAny (model prog w) A (eval (.Call (.Attribute e name apos) args kws pos) env) Q E (To s h t) :=
 methodCall_KW (he:=he) (evF ho bd hI fun v h1a t1a e1a ev=>by
  subst ev
  have i1a:=up.ext e1a hI
  obtain ⟨t1,t2,p,I'⟩:=(hR _ _ i1a).2.inst
  exact method_fn (s:=To s h1a t1a) (hR _ _ i1a).1 I' L.FK.ga L.FK.gk hf ht (L.sh name hn _ _ _ _) (q h1a t1a e1a i1a))
theorem argsQ {e:Expr} {es:List Expr} {pos:Pos} {Q:VSP} (up:Up I) (hk:Keeper1 (model prog w) I (.ref f)) (bd:Bd X h) (hI:I X h) (ha:EvAll prog w A env I (e::es) ds)
  (hc:∀ h' t' vs,Ext h h'→AtAll X h' vs ds→wpAny (model prog w) A (call (.ref f) (first++vs)) Q E (To s h' t'))
  (he:starEach (e::es) env=(false,eval e env)::starEach es env) (hplain:(backTo pos (starEach es env)).any (·.1)=false):wpAny (model prog w) A (callWith pos (.ref f) first (backTo pos (starEach (e::es) env)) (backToKw pos (keywordEach [] env))) Q E (To s h t):=by
 refine callWith_of (P:=I X) (by rw[he];show ((false || (backTo pos (starEach es env)).any (·.1)) || false)=false;rw[hplain];rfl) (hk X) ?_
 rw[he]
 refine Calls.evalArgs_plain ?_
 have ha':=ha (To s h t) E X pos bd hI
 rw[he] at ha'
 refine wpAny_mono ha' (fun vs s2a q=>?_) fun zz zz x=>x
 obtain ⟨k2a,av⟩:=q
 obtain ⟨h2a,t2a,rfl,e2a⟩:=k2a
 exact ⟨up.ext e2a hI,hc h2a t2a vs e2a av⟩
theorem argsKw {e ke:Expr} {es:List Expr} {kw:Keyword} {nm:Str} {pos:Pos} {kd:PyData} {Q:VSP} (up:Up I) (hk:Keeper1 (model prog w) I (.ref f)) (bd:Bd X h) (hI:I X h) (ha:EvAll prog w A env I (e::es) ds) (hke:Ev prog w A env I ke kd)
  (hc:∀ h' t' vs u,Ext h h'→AtAll X h' vs ds→At X h' u kd→wpAny (model prog w) A (call (.ref f) (first++vs) [(nm,u)]) Q E (To s h' t'))
  (hkw:backToKw pos (keywordEach [kw] env)=[(some nm,do let v ← eval ke env;standAt pos;pure v)])
  (he:starEach (e::es) env=(false,eval e env)::starEach es env) (hplain:(backTo pos (starEach es env)).any (·.1)=false):wpAny (model prog w) A (callWith pos (.ref f) first (backTo pos (starEach (e::es) env)) (backToKw pos (keywordEach [kw] env))) Q E (To s h t):=by
 refine callWith_of (P:=I X) (by rw[he,hkw];show ((false || (backTo pos (starEach es env)).any (·.1)) || false)=false;rw[hplain];rfl) (hk X) ?_
 refine evalArgs_kw2 (he:=he) (by rw[hkw];rfl) ?_
 rw[hkw]
 refine wpAny_mono (ha (To s h t) E X pos bd hI) (fun vs s2a q=>?_) fun zz zz x=>x
 obtain ⟨k2a,av⟩:=q
 obtain ⟨h2a,t2a,rfl,e2a⟩:=k2a
 refine wpAny_evalAll_cons (wpAny_bind (evF hke (bd.ext e2a) (up.ext e2a hI) fun y h3a t3a e3a ay=>wpAny_bind (wpAny_standAt (wpAny_pure (wpAny_evalAll_nil ?_)))))
 exact ⟨up.ext e3a (up.ext e2a hI),hc h3a t3a vs y (Ext.trans e2a e3a) (av.ext e3a) ay⟩
theorem key_split (hc:∀ c∈cs,0≤c∧c<972) (h7:cs.length=7) (hk:k∈R7):∃ ks st,ky cs k=ks++[st]∧ks.length≤3:=by
 obtain ⟨a,b,_⟩:=key_ok _ (octs_in (hc _ (at_in' h7 hk))).1
 refine ⟨(ky cs k).dropLast,(ky cs k).getLast a,(List.dropLast_concat_getLast a).symm,?_⟩
 rw[List.length_dropLast];have:(ky cs k).length≤4:=b;lia
theorem ev_keyk {e1 e2:Expr} {p:Pos} (h7:cs.length=7) (hk:k∈R7) (up:Up I) (x:Ev prog w A env I e1 (.list (cs.map keyD))) (y:Ev prog w A env I e2 (.int k))
  (hs:∀ a t,subscripted e2 false (.ref a) (.int k t)=operate [.ref a,.int k t] (getItem (.ref a) (.int k t))):Ev prog w A env I (.Subscript e1 e2 p) (.tuple ((ky cs k).map .str)):=by
 obtain ⟨a,b⟩:=R7_range hk
 have:k.toNat<cs.length:=by lia
 refine ev_lat up x y a (by lia) ?_ hs
 rw[List.getElem?_map,List.getElem?_eq_getElem this]
 show _=some (PyData.tuple ((keyO (octs (atI cs k))).map .str))
 unfold atI
 rw[List.getElem?_eq_getElem this];rfl
theorem SS.own (st:SS c z ρ κ X h) (ok:SnOk c z) (fo:FW prog w c z o adr σ N h) (k:OffL adr σ h h'):SS c z ρ κ X h':=st.off fun b ob q e=>k b ob e fun p i l e'=>by
 have n:=fo.2 b (e'▸own_live l)
 rcases q with m|⟨o',e2⟩
 ·obtain ⟨o',e2,_⟩:=(ok.fx b m).2;rw[n] at e2;cases e2
 ·rw[n] at e2;cases e2
theorem op_unset {p1 p2 p3 p4 p5 p6 p7:Pos} {pl:Sem Bool} {Q:FSP} (L:LwF c w o.C) (ok:SnOk c z) (fr:FrC A0 n c.h0 c.L env) (hA:OKA A (n+1)) (hc:∀ c∈cs,0≤c∧c<972) (h7:cs.length=7) (hk:k∈R7) (st:SS c z ρ κ X h) (fo:FW prog w c z o adr σ N h) (bd:Bd X h) (hN:N≤1000)
  (r1:ρ.lookup ("keys":Str)=some (.dat (.list (cs.map keyD)))) (r2:ρ.lookup ("k":Str)=some (.dat (.int k))) (k1:κ.lookup ("flags":Str)=some (.val (.ref o.x)))
  (he:MC env (.Name "flags" p1) "unset_all" p2 p6 [.Subscript (.Name "keys" p3) (.Name "k" p4) p5] [] pl)
  (q:∀ h' t',OffL adr σ h h'→SS c z ρ κ X h'→FW prog w c z o adr (cutN σ (ky cs k)) N h'→Q .next (To s h' t')) :
  NR prog w A (exec (.Expr (.Call (.Attribute (.Name "flags" p1) "unset_all" p2) [.Subscript (.Name "keys" p3) (.Name "k" p4) p5] [] p6) p7) env) Q (To s h t):=by
 obtain ⟨f,hf,ht,F⟩:=L.FK.unset
 obtain ⟨ks,lst,e,kl⟩:=key_split hc h7 hk
 have up:Up (fun X h=>SS c z ρ κ X h∧FW prog w c z o adr σ N h):=up_sf
 have toW:∀ X h,(SS c z ρ κ X h∧FW prog w c z o adr σ N h)→WF c ρ κ Tt X h:=fun X h i=>i.1.wf ok trivial
 refine wpAny_Expr_any (hi:=fr.ge.inter) (methF (s:=s) (X:=X) (I:=fun X h=>SS c z ρ κ X h∧FW prog w c z o adr σ N h) L (by decide +kernel) hf ht up bd ⟨st,fo⟩ ((fr.cv "flags" (by kernel_rfl) (i:=8) rfl k1 (by decide +kernel) (by decide +kernel)).pre toW) (fun X h i=>⟨(toW X h i).1.1.k,i.2.1⟩) he fun h1a t1a e1a i1a=>?_)
 refine argsQ up (F.keep fun X h i=>(toW X h i).1.1) (bd.ext e1a) i1a (ev_cons up (ev_keyk h7 hk up ((fr.ld "keys" (by kernel_rfl) r1 (by decide +kernel)).pre toW) ((fr.ld "k" (by kernel_rfl) r2 (by decide +kernel)).pre toW) fun zz zz=>by with_unfolding_all rfl) ev_nil) (fun h2a t2a vs e2a av=>?_) (by rfl) (by rfl)
 obtain ⟨kv,rfl,ak⟩:=one_inv av
 have i2a:=up.ext e2a i1a
 refine wpAny_mono (flags_unset (n:=n) (s:=To s h2a t2a) (X:=X) F L.FK hA ok.G (toW X h2a i2a).1.1 i2a.2.1 ((bd.ext e1a).ext e2a) (by lia) hN (e▸ak) _) (fun v s3a x=>?_) fun zz zz x=>x
 obtain ⟨rfl,h3a,t3a,rfl,fo3,o3a⟩:=x
 rw[← e] at fo3
 exact q h3a t3a (fun b ob eb n=>o3a b ob (Ext.trans e1a e2a b ob eb) n) (i2a.1.own ok i2a.2 o3a) ⟨fo3,fun b ow=>fo.2 b (by
  rcases ow with m|m|⟨p,i,l,rfl⟩
  ·exact .inl m
  ·exact .inr (.inl m)
  ·exact own_live (live_cut l))⟩
end
section
variable {c:Wc} {cs:List Int} {z:Sn} {o:Ob} {adr adr':List Str→Nat→Addr} {σ σ':Sg} {M:List Addr} {V:VD} {n:Nat} {k:Int}
theorem op_set {p1 p2 p3 p4 p5 p6 p7 q1 q2 q3 u1 u2 u3:Pos} {kk':Nat} {kw:Keyword} {pl:Sem Bool} {Q:FSP} (L:LwF c w o.C) (ok:SnOk c z) (fr:FrC A0 n c.h0 c.L env) (hA:OKA A (n+1)) (hc:∀ c∈cs,0≤c∧c<972) (h7:cs.length=7) (hk:k∈R7) (st:SS c z ρ κ X h) (fo:FW prog w c z o adr σ N h) (bd:Bd X h) (hN:N≤500)
  (r1:ρ.lookup ("keys":Str)=some (.dat (.list (cs.map keyD)))) (r2:ρ.lookup ("k":Str)=some (.dat (.int k))) (r3:ρ.lookup ("kind":Str)=some (.dat (.int (kd cs k)))) (k1:κ.lookup ("flags":Str)=some (.val (.ref o.x)))
  (he:MC env (.Name "flags" p1) "set" p2 p6 [.Subscript (.Name "keys" p3) (.Name "k" p4) p5,.BinOp (.Name "kind" q1) .Mod (.Constant (.int 2) kk q2) q3] [kw] pl)
  (hkw:backToKw p6 (keywordEach [kw] env)=[(some ("recursive":Str),do let v ← eval (.Compare (.Name "kind" u1) [.Gt] [.Constant (.int 3) kk' u2] u3) env;standAt p6;pure v)])
  (q:∀ h' t' adr' N',N'≤N+5→adr' [] 0=adr [] 0→OffL adr σ h h'→(∀ b,Own o.x o.dx adr' (setS σ (ky cs k) (decide (kd cs k>3)) ((kd cs k).fmod 2)) b→Own o.x o.dx adr σ b∨h.get? b=none)→SS c z ρ κ X h'→FW prog w c z o adr' (setS σ (ky cs k) (decide (kd cs k>3)) ((kd cs k).fmod 2)) N' h'→Q .next (To s h' t')) :
  NR prog w A (exec (.Expr (.Call (.Attribute (.Name "flags" p1) "set" p2) [.Subscript (.Name "keys" p3) (.Name "k" p4) p5,.BinOp (.Name "kind" q1) .Mod (.Constant (.int 2) kk q2) q3] [kw] p6) p7) env) Q (To s h t):=by
 obtain ⟨f,hf,ht,F⟩:=L.FK.set
 obtain ⟨ks,lst,e,kl⟩:=key_split hc h7 hk
 have up:Up (fun X h=>SS c z ρ κ X h∧FW prog w c z o adr σ N h):=up_sf
 have toW:∀ X h,(SS c z ρ κ X h∧FW prog w c z o adr σ N h)→WF c ρ κ Tt X h:=fun X h i=>i.1.wf ok trivial
 have ekd:∀ {q:Pos},Ev prog w A env (fun X h=>SS c z ρ κ X h∧FW prog w c z o adr σ N h) (.Name "kind" q) (.int (kd cs k)):=(fr.ld "kind" (by kernel_rfl) r3 (by decide +kernel)).pre toW
 refine wpAny_Expr_any (hi:=fr.ge.inter) (methF (s:=s) (X:=X) (I:=fun X h=>SS c z ρ κ X h∧FW prog w c z o adr σ N h) L (by decide +kernel) hf ht up bd ⟨st,fo⟩ ((fr.cv "flags" (by kernel_rfl) (i:=8) rfl k1 (by decide +kernel) (by decide +kernel)).pre toW) (fun X h i=>⟨(toW X h i).1.1.k,i.2.1⟩) he fun h1a t1a e1a i1a=>?_)
 refine argsKw (kd:=.bool (decide (3<kd cs k))) up (F.keep fun X h i=>(toW X h i).1.1) (bd.ext e1a) i1a (ev_cons up (ev_keyk h7 hk up ((fr.ld "keys" (by kernel_rfl) r1 (by decide +kernel)).pre toW) ((fr.ld "k" (by kernel_rfl) r2 (by decide +kernel)).pre toW) fun zz zz=>by with_unfolding_all rfl) (ev_cons up (ev_bin up ekd ev_int fun s X u v zz x y=>op_mod (by decide) x y) ev_nil))
  (ev_cmp up ekd ev_int fun s X u v zz x y=>op_gt x y) (fun h2a t2a vs u e2a av au=>?_) hkw (by rfl) (by rfl)
 obtain ⟨kv,fv,rfl,ak,af⟩:=two_inv av
 obtain rfl:=au.bool_inv
 have i2a:=up.ext e2a i1a
 have le:Ext h h2a:=Ext.trans e1a e2a
 refine wpAny_mono (flags_set (n:=n) (s:=To s h2a t2a) F L.FK hA ok.G (i2a.1.ext0 ok) L.m1 L.b1 i2a.2.1 (by lia) hN ((e▸ak).hid fun x m=>by cases m) (af.hid fun x m=>by cases m) _) (fun v s3a x=>?_) fun zz zz x=>x
 obtain ⟨rfl,h3a,t3a,adr',rfl,fo3,o3a,g3a⟩:=x
 rw[← e] at fo3 g3a
 have a0:adr' [] 0=adr [] 0:=(g3a.1 [] 0 (.inl ⟨rfl,rfl⟩)).2
 have ow:∀ b,Own o.x o.dx adr' (setS σ (ky cs k) (decide (kd cs k>3)) ((kd cs k).fmod 2)) b→Own o.x o.dx adr σ b∨h2a.get? b=none:=fun b ow=>by
  rcases ow with m|m|⟨p,i,l,rfl⟩
  ·exact .inl (.inl m)
  ·exact .inl (.inr (.inl m))
  ·rcases g3a.2 p i l with l'|l'
   ·rw[(g3a.1 p i l').2];exact .inl (own_live l')
   ·exact .inr l'
 refine q h3a t3a adr' _ (by lia) a0 (fun b ob eb n=>o3a b ob (le b ob eb) n) (fun b w=>(ow b w).imp id fun n=>none_before le n) (i2a.1.own ok i2a.2 o3a) ⟨fo3,fun b w=>?_⟩
 rcases ow b w with m|m
 ·exact fo.2 b m
 ·cases f:z.hs.get? b with
  | none=>rfl
  | some ob =>
   exfalso
   by_cases mf:b∈FA c.L
   ·obtain ⟨o',e',_⟩:=i2a.1.nt b mf;rw[m] at e';cases e'
   ·rw[i2a.1.2.1 b ob mf f] at m;cases m
end
theorem runF_snoc (cs run:List Int) (k:Int):runF cs (run++[k])=stepF cs (runF cs run) k:=by unfold runF;rw[List.foldl_append];rfl
noncomputable def getB (l:List Stmt) (i:Nat):Stmt:=l.getD i (.Pass default)
section
variable {c:Wc} {cs run:List Int} {z:Sn} {o:Ob} {adr adr':List Str→Nat→Addr} {σ σ':Sg} {M:List Addr} {V:VD} {n:Nat} {k:Int}
theorem FW.offF (x:FW prog w c z o adr σ N h) (ok:SnOk c z) (k:Off M h h') (hM:∀ b∈M,b∈FA c.L):FW prog w c z o adr σ N h':=⟨x.1.off k fun b m ow=>(by
 obtain ⟨ob,e,_⟩:=(ok.fx b (hM b m)).2
 rw[x.2 b ow] at e;cases e),x.2⟩
theorem s_do {p1 p2 p3:Pos} {Q:FSP} (L:LwF c w o.C) (ok:SnOk c z) (fr:FrC A0 n c.h0 c.L env) (hA:OKA A (n+1)) (hc:∀ c∈cs,0≤c∧c<972) (h7:cs.length=7) (hr:∀ k∈run,k∈R7) (hl:run.length≤90) (st:SS c z ρ κ X h) (fo:FW prog w c z o adr e0 0 h) (bd:Bd X h) (hX:∀ a∈FA c.L++[o.x,o.dx,adr [] 0],a∈X)
  (r1:ρ.lookup ("keys":Str)=some (.dat (.list (cs.map keyD)))) (r2:ρ.lookup ("run":Str)=some (.dat (intsD run))) (r3:ρ.lookup ("k":Str)=none) (r4:ρ.lookup ("kind":Str)=none) (k1:κ.lookup ("flags":Str)=some (.val (.ref o.x))) (k2:κ.lookup ("deeds":Str)=some (.dat (.list (cs.map deedD))))
  (q:∀ h' t' adr' N',SS c z ρ κ X h'→FW prog w c z o adr' (runF cs run) N' h'→Bd X h'→Off (FA c.L++[o.x,o.dx,adr [] 0]) h h'→Q .next (To s h' t')) :
  NR prog w A (exec (.For (.Name "k" p1) (.Name "run" p2) (forB (getB (forB (lawS 15)) 1)) [] p3) env) Q (To s h t):=by
 have hh:=hA.handled
 have own0:∀ {adr' σ'},adr' [] 0=adr [] 0→∀ b∈[o.x,o.dx,adr [] 0],Own o.x o.dx adr' σ' b:=fun e b m=>by
  rcases mC m with rfl|m
  ·exact .inl rfl
  rcases mC m with rfl|m
  ·exact .inr (.inl rfl)
  ·rw[m_s m,← e];exact own_live (.inl ⟨rfl,rfl⟩)
 refine for_zone (s:=To s h t) (M:=FA c.L++[o.x,o.dx,adr [] 0]) (Inv:=fun hs i X' h'=>∃ adr' N',SS c z ρ κ X' h'∧FW prog w c z o adr' (runF cs (run.take i)) N' h'∧N'≤5 * i∧adr' [] 0=adr [] 0∧∀ b,Own o.x o.dx adr' (runF cs (run.take i)) b→b∈FA c.L++[o.x,o.dx,adr [] 0]∨hs.get? b=none)
  (src_listF PyData.int hh ((fr.ld "run" (by kernel_rfl) r2 (by decide +kernel)).pre fun X h (i:SS c z ρ κ X h)=>i.wf ok trivial)) bd st (fun b m=>⟨hX b m,bd b (hX b m)⟩) (fun h1a X' e hd zz=>⟨adr,0,st.up e hd,fo.ext e,Nat.zero_le _,rfl,fun b ow=>?_⟩) ?_ ?_ (fun hs i d v h1a t1a X' es hi T bd1 hid sub off there inv=>?_) fun hs h1a t1a X' es bd1 sub off inv=>?_
 ·rcases ow with m|m|⟨p,i,l,rfl⟩
  ·exact .inl (m_r _ (by rw[m];exact .head _))
  ·exact .inl (m_r _ (by rw[m];exact .tail _ (.head _)))
  ·rcases l with ⟨rfl,rfl⟩|⟨_,l,_⟩
   ·exact .inl (m_r _ (.tail _ (.tail _ (.head _))))
   ·cases l
 ·rintro hs i X' h' ⟨adr',N',s',f',_,e,_⟩ b m
  rcases m_a m with m|m
  ·exact s'.nt b m
  ·exact f'.1.there (own0 e b m)
 ·rintro hs i X' h1a h2a Wr es ⟨adr',N',s',f',le,e,ow⟩ hW k st'
  have hno:∀ a,(∃ ob,h.get? a=some ob)→a∉Wr:=fun a=>by
   rintro ⟨ob,e⟩ m
   have:=(hW a m).2.1;rw[show (To s h t).heap.get? a=h.get? a from rfl,e] at this;cases this
  refine ⟨adr',N',s'.off fun b ob q eb=>k b ob (hno b ?_) eb,⟨f'.1.off k fun b m o'=>?_,f'.2⟩,le,e,ow⟩
  ·rcases q with q|⟨o',e'⟩
   ·obtain ⟨o',e',_⟩:=st.nt b q;exact ⟨o',e'⟩
   ·by_cases mf:b∈FA c.L
    ·obtain ⟨o',e',_⟩:=st.nt b mf;exact ⟨o',e'⟩
    ·exact ⟨o',st.2.1 b o' mf e'⟩
  ·rcases ow b o' with q|q
   ·exact hno b (bd b (hX b q)) m
   ·obtain ⟨o'',e''⟩:=st' b m;rw[q] at e'';cases e''
 ·obtain ⟨adr',N',s1a,f1a,le,ea,ow⟩:=inv
  have mk:d∈R7:=hr d (List.mem_of_getElem? hi)
  have li:i<run.length:=(List.getElem?_eq_some_iff.mp hi).1
  have LM:c.L∈FA c.L++[o.x,o.dx,adr [] 0]:=m_l _ (.head _)
  have LF:∀ b∈[c.L],b∈FA c.L:=fun b m=>by rw[m_s m];exact .head _
  obtain ⟨tk,rfl⟩:=At.int_inv T
  refine wpAny_assign_Name (SS.storeL (s:=s) (V:=.dat (.int d)) fr (by kernel_rfl) s1a (At.int _ _) fun h2a t2a o2a s2a=>?_)
  refine hideQ fun Q' hQ=>?_
  have fin:∀ h' t' adr' N',SS c z ρ κ X' h'→FW prog w c z o adr' (stepF cs (runF cs (run.take i)) d) N' h'→N'≤5 * (i+1)→adr' [] 0=adr [] 0→(∀ b,Own o.x o.dx adr' (stepF cs (runF cs (run.take i)) d) b→b∈FA c.L++[o.x,o.dx,adr [] 0]∨hs.get? b=none)→(∀ b ob,b∉FA c.L++[o.x,o.dx,adr [] 0]→(∃ o',hs.get? b=some o')→h1a.get? b=some ob→h'.get? b=some ob)→Q' .next (To s h' t'):=fun h' t' adr' N' a b d' e f g=>by
   refine hQ _ _ ⟨h',t',rfl,g,adr',N',a,?_,d',e,?_⟩
   all_goals rw[List.take_add_one,hi,Option.toList_some,runF_snoc];assumption
  clear hQ
  have f2a:=f1a.offF ok o2a LF
  have b2b:Bd X' h2a:=bd_off bd1 o2a fun a m=>by rw[m_s m];exact exl (s2a.nt _ (.head _))
  have up:Up (SS c z (("k",.dat (.int d))::ρ) κ):=up_ws
  have toW:∀ X h,SS c z (("k",.dat (.int d))::ρ) κ X h→WF c (("k",.dat (.int d))::ρ) κ Tt X h:=fun X h i=>i.wf ok trivial
  show NR prog w A (execs (.Assign [.Name "kind" _] (.Subscript (.Subscript (.Name "deeds" _) (.Name "k" _) _) (.Constant (.int 1) _ _) _) _::.If (.Compare (.Name "kind" _) [.Lt] [.Constant (.int 2) _ _] _) [.Expr (.Call (.Attribute (.Name "flags" _) "unset_all" _) [.Subscript (.Name "keys" _) (.Name "k" _) _] [] _) _] [.Expr (.Call (.Attribute (.Name "flags" _) "set" _) [.Subscript (.Name "keys" _) (.Name "k" _) _,.BinOp (.Name "kind" _) .Mod (.Constant (.int 2) _ _) _] [_] _) _] _::[]) env) _ _
  refine xc (wpAny_Assign_Name (hs:=by rfl) (evF (ev_kd h7 mk up ((fr.cd "deeds" (by kernel_rfl) (i:=1) rfl k2 (by decide +kernel) (by decide +kernel)).pre toW) ((fr.ld "k" (by kernel_rfl) (by rfl) (by kernel_rfl)).pre toW) fun zz zz=>by with_unfolding_all rfl) b2b s2a fun v h3a t3a e3a av=>?_))
  obtain ⟨tk',rfl⟩:=av.int_inv
  refine SS.storeL (s:=s) (V:=.dat (.int (kd cs d))) fr (by kernel_rfl) (s2a.up e3a (Hid.refl _ _)) (At.int _ _) fun h4a t4a o4a s4a=>?_
  have f4a:=(f2a.ext e3a).offF ok o4a LF
  have b4a:Bd X' h4a:=bd_off (b2b.ext e3a) o4a fun a m=>by rw[m_s m];exact exl (s4a.nt _ (.head _))
  have o14:∀ b ob,b∉FA c.L++[o.x,o.dx,adr [] 0]→h1a.get? b=some ob→h4a.get? b=some ob:=fun b ob n e=>by
   have nL:b∉[c.L]:=fun m=>n (by rw[m_s m];exact LM)
   exact o4a b ob nL (e3a b ob (o2a b ob nL e))
  have up4:Up (SS c z (("kind",.dat (.int (kd cs d)))::("k",.dat (.int d))::ρ) κ):=up_ws
  have sub4:∀ {X h},SS c z (("kind",.dat (.int (kd cs d)))::("k",.dat (.int d))::ρ) κ X h→SS c z ρ κ X h:=fun {X h} s=>(s.sub (cons_sub (by rw[List.lookup_cons,show (("kind":Str) == "k")=false by decide +kernel];exact r4))).sub (cons_sub r3)
  have R1:(("kind",.dat (.int (kd cs d)))::("k",.dat (.int d))::ρ:List (Str×VD)).lookup ("keys":Str)=some (.dat (.list (cs.map keyD))):=look1 (by decide +kernel) (look1 (by decide +kernel) r1)
  refine xc (ifsF (b:=decide (kd cs d<2)) (tr_cmp up4 ((fr.ld "kind" (by kernel_rfl) (by rfl) (by kernel_rfl)).pre fun X h (i:SS c z _ κ X h)=>i.wf ok trivial) ev_int fun s X u v zz x y=>op_lt x y) b4a s4a fun h5 t5 e5a=>?_)
  have s5a:=s4a.up e5a (Hid.refl _ _)
  have f5a:=f4a.ext e5a
  have b5a:=b4a.ext e5a
  have o15:∀ b ob,b∉FA c.L++[o.x,o.dx,adr [] 0]→h1a.get? b=some ob→h5.get? b=some ob:=fun b ob n e=>e5a b ob (o14 b ob n e)
  have hb:∀ {b},(∃ o',hs.get? b=some o')→b∉FA c.L++[o.x,o.dx,adr [] 0]→∀ p i',Live (runF cs (run.take i)) p i'→adr' p i'≠b:=fun {b}=>by
   rintro ⟨o',e'⟩ n p i' l eb
   rcases ow b (eb▸own_live l) with q|q
   ·exact n q
   ·rw[q] at e';cases e'
  by_cases q2:kd cs d<2
  ·rw[decide_eq_true q2,if_pos rfl]
   refine xc (op_unset (n:=n) L ok fr hA hc h7 mk s5a f5a b5a (by lia) R1 (by rfl) k1 (by rfl) fun h6a t6 o6 s6 f6a=>wpAny_execs_nil (wpAny_execs_nil ?_))
   have es:stepF cs (runF cs (run.take i)) d=cutN (runF cs (run.take i)) (ky cs d):=by unfold stepF;rw[if_pos q2]
   refine fin h6a t6 adr' N' (sub4 s6) (es▸f6a) (by lia) ea (fun b w=>ow b ?_) fun b ob n e eb=>o6 b ob (o15 b ob n eb) (hb e n)
   rw[es] at w
   rcases w with m|m|⟨p,i',l,rfl⟩
   ·exact .inl m
   ·exact .inr (.inl m)
   ·exact own_live (live_cut l)
  ·rw[decide_eq_false q2]
   show NR prog w A (execs _ env) _ _
   refine xc (op_set (n:=n) L ok fr hA hc h7 mk s5a f5a b5a (by lia) R1 (by rfl) (by rfl) k1 (by rfl) (by rfl) fun h6a t6 adr6 N6 le6 a6a o6 w6a s6 f6a=>wpAny_execs_nil (wpAny_execs_nil ?_))
   have es:stepF cs (runF cs (run.take i)) d=setS (runF cs (run.take i)) (ky cs d) (decide (kd cs d>3)) ((kd cs d).fmod 2):=by unfold stepF;rw[if_neg q2]
   refine fin h6a t6 adr6 N6 (sub4 s6) (es▸f6a) (by lia) (a6a.trans ea) (fun b w=>?_) fun b ob n e eb=>o6 b ob (o15 b ob n eb) (hb e n)
   rw[es] at w
   rcases w6a b w with m|m
   ·exact ow b m
   ·cases g:hs.get? b with
    | none=>exact .inr rfl
    | some ob =>
     obtain ⟨o',e'⟩:=there b ob g
     by_cases n:b∈FA c.L++[o.x,o.dx,adr [] 0]
     ·exact .inl n
     ·rw[o15 b o' n e'] at m;cases m
 ·obtain ⟨adr',N',s',f',_,_,_⟩:=inv
  rw[List.take_length] at f'
  exact q h1a t1a adr' N' (s'.up (Ext.refl _) fun x m=>.inl (sub x m)) f' bd1 off
end
theorem bb_ci:∀ l:List (Bool×Bool),PyData.canLayAll0 (l.map bbD)=true∧PyData.depthAll (l.map bbD)≤1
 | []=>⟨rfl,Nat.zero_le _⟩
 | a::l=>⟨(bb_ci l).1,Nat.max_le.mpr ⟨Nat.le_refl _,(bb_ci l).2⟩⟩
theorem shaped_bb (l:List (Bool×Bool)):shaped (.list (l.map bbD))=true:=by
 unfold shaped
 show (PyData.canLayAll0 (l.map bbD) && decide (PyData.depthAll (l.map bbD)+1≤64))=true
 rw[(bb_ci l).1,Bool.true_and,decide_eq_true_eq];have:=(bb_ci l).2;omega
theorem eqv_bb (l:List (Bool×Bool)):PyData.eqv (.list (l.map bbD)) (.list (l.map bbD))=true:=by
 show PyData.eqvAll (l.map bbD) (l.map bbD)=true
 induction l with
 | nil=>rfl
 | cons a l ih =>
  show (((a.1 == a.1) && ((a.2 == a.2) && true)) && PyData.eqvAll (l.map bbD) (l.map bbD))=true
  rw[ih];simp
section
variable {c:Wc} {cs run:List Int} {z:Sn} {o:Ob} {adr adr':List Str→Nat→Addr} {σ σ':Sg} {M:List Addr} {V:VD} {n:Nat} {k:Int}
theorem mk_flags {px np p pos:Pos} {Q:FSP} (L:LwF c w C) (fr:FrC A0 n c.h0 c.L env) (hA:OKA A (n+2)) (G:GK c.K c.mg c.mb c.h0) (st:WF c ρ κ Tt X h) (hX:∀ a∈FA c.L,a∈X) (bd:Bd X h) (hs:swapsWith (.Call (.Name ("Flags":Str) np) [] [] p) (some (.Name ("flags":Str) px)) pos.line env=pure false)
  (k:∀ z x dx adr h' t',SnOk c z→SS c z ρ (("flags",.val (.ref x))::κ) ([x,dx,adr [] 0]++X) h'→FW prog w c z ⟨C,x,dx⟩ adr e0 0 h'→Bd ([x,dx,adr [] 0]++X) h'→Off (FA c.L) h h'→(∀ b∈[x,dx,adr [] 0],h.get? b=none)→Q .next (To s h' t')) :
  NR prog w A (exec (.Assign [.Name "flags" px] (.Call (.Name "Flags" np) [] [] p) pos) env) Q (To s h t):=by
 have up:=upW (ρ:=ρ) (κ:=κ) (rest_true:Rest c.L Tt)
 refine wpAny_Assign_Name (hs:=hs) (wpAny_Call_ofName (evF (fr.gl "Flags" (by kernel_rfl) L.cl (by decide +kernel)) bd st fun v h1a t1a e1a ev=>?_))
 subst ev
 have i1a:=up.ext e1a st
 refine callWith_of (P:=WF c ρ κ Tt X) rfl (keeper_K gk2 L.kC X) (PySem.evalArgs_none ⟨i1a,wpAny_mono (flags_new (n:=n) (s:=To s h1a t1a) L.FK hA i1a.1.1 L.m1 L.b1 _) (fun v s2a q=>?_) fun zz zz x=>x⟩)
 obtain ⟨x,dx,adr,h2a,t2a,rfl,rfl,e2a,nx,nd,fo⟩:=q
 have nx:h1a.get? x=none:=nx
 have nd:h1a.get? dx=none:=nd
 have e2a:Ext h1a h2a:=e2a
 have ok:SnOk c ⟨h1a,X⟩:=⟨i1a.1.2.1,fun a m=>⟨hX a m,FA_nt i1a a m⟩,fun a m=>fr.new a (by
  rcases mem_FA.mp m with rfl|⟨i,_,_,rfl⟩
  ·exact Nat.le_refl _
  ·exact Nat.le_add_right _ _),G⟩
 have n3:∀ b∈[x,dx,adr [] 0],h1a.get? b=none:=fun b m=>by
  rcases mC m with rfl|m
  ·exact nx
  rcases mC m with rfl|m
  ·exact nd
  ·rw[m_s m];exact fo.1.new [] 0 (.inl ⟨rfl,rfl⟩)
 have hid:Hid X ([x,dx,adr [] 0]++X) h1a:=fun b m=>(m_a m).elim (fun m=>.inr (n3 b m)) .inl
 have s1a:SS c ⟨h1a,X⟩ ρ κ X h1a:=SS.of i1a
 have s2a:SS c ⟨h1a,X⟩ ρ κ ([x,dx,adr [] 0]++X) h2a:=s1a.up e2a hid
 refine SS.storeC (s:=s) (i:=8) (V:=.val (.ref x)) fr (by kernel_rfl) rfl s2a rfl fun h3a t3a o3a s3a=>?_
 have f2a:FW prog w c ⟨h1a,X⟩ ⟨C,x,dx⟩ adr e0 0 h2a:=⟨fo.base i1a.1.2.1,fun b ow=>by
  rcases ow with m|m|⟨p,i,l,rfl⟩
  ·rw[m];exact nx
  ·rw[m];exact nd
  ·exact fo.1.new p i l⟩
 have m8:∀ b∈[c.L+8],b∈FA c.L:=fun b m=>by rw[m_s m];exact mem_FA.mpr (.inr ⟨8,by decide,by decide,rfl⟩)
 have f3a:=f2a.offF ok o3a m8
 refine k ⟨h1a,X⟩ x dx adr h3a _ ok s3a f3a (bd_off (M:=[c.L+8]) (h:=h2a) (fun b m=>?_) o3a fun a m=>exl (s3a.nt a (m8 a m))) ((Ext.off (Ext.trans e1a e2a)).trans (o3a.mono m8)) fun b m=>none_before e1a (n3 b m)
 rcases m_a m with m|m
 ·obtain ⟨o,e,_⟩:=f2a.1.there (b:=b) (by
   rcases mC m with rfl|m
   ·exact .inl rfl
   rcases mC m with rfl|m
   ·exact .inr (.inl rfl)
   ·rw[m_s m];exact own_live (.inl ⟨rfl,rfl⟩))
  exact ⟨o,e⟩
 ·exact (bd.ext e1a).ext e2a b m
theorem compU2 {α β:Type} {T:List Addr→Heap→Value→α→Prop} {f:β→PyData} {elt t1 i1 t2 i2:Expr} {ifs1 ifs2:List Expr} {scope:Scope} {px spos pos:Pos} {cl:List (Str×Addr)} {as:List α} {bs:α→List β} {Q:FSP} (ρ1:α→List (Str×VD)) (ρ2:α→β→List (Str×VD)) (p:α→Bool) (q:α→β→Bool) (o:α→β→PyData)
  (fr:FrC A0 n c.h0 c.L env) (r:Rest c.L R) (G:GK c.K c.mg c.mb c.h0) (hk:(fScope (topS 21)).names.lookup y=some .local) (st:WF c ρ κ R X h) (hX:∀ a∈FA c.L,a∈X) (bd:Bd X h)
  (hc:∀ x∈scope.names,x.2≠.cell) (hclos:closureFor scope env=pure cl) (hkind:scope.kind=.function) (hnames:∀ x∈scope.names,x.2=.local→scope.names.lookup x.1=some .local) (pl:∀ a,AllPl (ρ1 a))
  (hsrc:Src T prog w A env (WF c ρ κ R) t1 i1 as)
  (hT:∀ C cenv,CEnv scope cl env C cenv→∀ a∈as,TgtT prog w A T cenv t1 [C] (S0 C) (Loc C (ρ1 a)) a)
  (hts:∀ C cenv,CEnv scope cl env C cenv→∀ a∈as,Ts prog w A cenv (fun X h=>WF c ρ κ R X h∧Loc C (ρ1 a) X h) ifs1 (p a))
  (hsrc2:∀ C cenv,CEnv scope cl env C cenv→∀ a∈as,Src (AtF f) prog w A cenv (fun X h=>WF c ρ κ R X h∧Loc C (ρ1 a) X h) t2 i2 (bs a))
  (hT2:∀ C cenv,CEnv scope cl env C cenv→∀ a∈as,∀ b∈bs a,TgtT prog w A (AtF f) cenv t2 [C] (Loc C (ρ1 a) []) (Loc C (ρ2 a b)) b)
  (hts2:∀ C cenv,CEnv scope cl env C cenv→∀ a∈as,∀ b∈bs a,Ts prog w A cenv (fun X h=>WF c ρ κ R X h∧Loc C (ρ2 a b) X h) ifs2 (q a b))
  (hel:∀ C cenv,CEnv scope cl env C cenv→∀ a∈as,∀ b∈bs a,q a b=true→Ev prog w A cenv (fun X h=>WF c ρ κ R X h∧Loc C (ρ2 a b) X h) elt (o a b))
  (hlen:as.length≤1000) (hlen2:∀ a∈as,(bs a).length≤100)
  (hsw:swapsWith (.ListComp elt [⟨t1,i1,ifs1,0⟩,⟨t2,i2,ifs2,0⟩] scope pos) (some (.Name y px)) spos.line env=pure true)
  (k:∀ h' t',Off (FA c.L) h h'→Bd X h'→WF c ((y,.dat (.list (outsOf p (fun a=>((bs a).filter (q a)).map (o a)) as)))::ρ) κ R X h'→Q .next (To s h' t'))
  (hs:∀ x,foldedSetIterable i1 env x=pure x) (hs2:∀ cenv x,foldedSetIterable i2 cenv x=pure x):NR prog w A (exec (.Assign [.Name y px] (.ListComp elt [⟨t1,i1,ifs1,0⟩,⟨t2,i2,ifs2,0⟩] scope pos) spos) env) Q (To s h t):=by
 have up:=upW (ρ:=ρ) (κ:=κ) r
 have i:=io_in (Xb:=X) (hb:=h) up st
 exact asgU (p0a:=i1.pos) (em:=em2 elt t1 i1 t2 i2 ifs1 ifs2 scope pos) (hs:=hs) (T:=T) (ds:=as) (mt:=fun C=>[C]) (S:=S0) (I:=Io h X) (B:=fun C a=>Loc C (ρ1 a)) (cl:=cl) fr r G hk st up_io io_self hX bd p (fun a=>((bs a).filter (q a)).map (o a)) (shp0 hc) hclos hkind hnames (hsrc.pre i) turn2
  (fun C a m=>hT C _ (cenv_of hkind) a m) (fun C a m=>(hts C _ (cenv_of hkind) a m).pre fun X h x=>⟨i _ _ x.1,x.2⟩) (fun C a m z=>em_c2 (ρ2 a) (q a) (o a) up st (pl a) (hsrc2 C _ (cenv_of hkind) a m) (hT2 C _ (cenv_of hkind) a m) (hts2 C _ (cenv_of hkind) a m) (hel C _ (cenv_of hkind) a m) (Nat.le_trans (hlen2 a m) (by decide)) (hs2 _)) (fun C a X h h' k l=>l.ext k) hlen (fun a m zz=>by rw[List.length_map];exact Nat.le_trans (List.length_filter_le _ _) (hlen2 a m)) hsw k
theorem ev_isK {e ek ef:Expr} {apos pos:Pos} {pl:Sem Bool} {key:List Str} {f:Int} (L:LwF c w o.C) (hA:OKA A (n+1)) (G:GK c.K c.mg c.mb c.h0) (up:Up I) (hne:key≠[]) (hl:key.length≤90) (ho:EvR prog w A env I e (fun zz zz v=>v=.ref o.x)) (hk:Ev prog w A env I ek (.tuple (key.map .str))) (hf:Ev prog w A env I ef (.int f)) (hG:∀ X h,I X h→GK c.K c.mg c.mb h∧FObj prog w o.C c.h0 o.x o.dx adr σ N h)
  (he:MC env e "is_" apos pos [ek,ef] [] pl) (h1:starEach [ek,ef] env=(false,eval ek env)::starEach [ef] env) (h2:starEach [ef] env=(false,eval ef env)::starEach [] env) (hp:(backTo pos (starEach [ef] env)).any (·.1)=false):Ev prog w A env I (.Call (.Attribute e "is_" apos) [ek,ef] [] pos) (.bool (isK σ key f)):=fun s E X bd i=>by
 obtain ⟨fa,hfa,ht,F⟩:=L.FK.is_
 have ek:key.dropLast++[key.getLast?.getD ⟨#[]⟩]=key:=by
  rw[List.getLast?_eq_some_getLast hne];exact List.dropLast_concat_getLast hne
 refine methF (s:=s) (t:=s.toks) (h:=s.heap) (X:=X) (I:=I) L (by decide +kernel) hfa ht up bd i ho (fun X h i=>⟨(hG X h i).1.k,(hG X h i).2⟩) he fun h1a t1a e1a i1a=>?_
 refine argsQ up (F.keep fun X h i=>(hG X h i).1) (bd.ext e1a) i1a (ev_cons (he:=h1) up hk (ev_cons (he:=h2) up hf ev_nil)) (fun h2a t2a vs e2a av=>?_) h1 hp
 obtain ⟨kv,fv,rfl,ak,af⟩:=two_inv av
 have i2a:=up.ext e2a i1a
 refine wpAny_mono (flags_is (n:=n) (s:=To s h2a t2a) (X:=X) F L.FK hA G (hG X h2a i2a).1 (hG X h2a i2a).2 ((bd.ext e1a).ext e2a) (by rw[List.length_dropLast];omega) (ek.symm▸ak) af _) (fun v s3a q=>?_) fun zz zz x=>x
 obtain ⟨k3a,rfl⟩:=q
 exact ⟨kp_trans (kp_heap (t:=t2a) s (Ext.trans e1a e2a)) k3a,.bool _⟩
theorem ev_t1s {a:Str} {e:Expr} {k0:Nat} {p0 p1:Pos} (he:Expr.Tuple [.Constant (.str a) k0 p0] k1 p1=e) (up:Up I):Ev prog w A env I e (.tuple [.str a]):=by
 have x:EvAll prog w A env I [.Constant (.str a) k0 p0] [.str a]:=ev_cons up ev_str ev_nil
 have:=ev_tuple (k:=k1) (pos:=p1) x (by simp)
 rw[← he];exact this
end
section
variable {c:Wc} {cs run:List Int} {z:Sn} {o:Ob} {adr adr':List Str→Nat→Addr} {σ σ':Sg} {M:List Addr} {V:VD} {n:Nat} {k:Int}
theorem rest_fw (ok:SnOk c z):Rest c.L (fun zz h=>FW prog w c z o adr σ N h):=⟨fun zz zz zz zz k zz x=>x.ext k,fun zz zz zz x zz zz k=>x.offF ok k fun b m=>by rw[m_s m];exact .head _⟩
theorem told_bb (cs:List Int) (σ:Sg):outsOf (fun zz=>true) (fun c0=>((([0,1]:List Int)).filter fun zz=>true).map fun f=>bbD (toldP σ c0 f)) cs=(toldL cs σ).map bbD:=by
 unfold toldL outsOf
 rw[List.map_flatMap];rfl
theorem s_told {Q:FSP} (L:LwF c w o.C) (ok:SnOk c z) (fr:FrC A0 n c.h0 c.L env) (hA:OKA A (n+1)) (hc:∀ c∈cs,0≤c∧c<972) (h7:cs.length=7) (st:WF c ρ κ (fun zz h=>FW prog w c z o adr σ N h) X h) (hX:∀ a∈FA c.L,a∈X) (bd:Bd X h)
  (r1:ρ.lookup ("keys":Str)=some (.dat (.list (cs.map keyD)))) (k1:κ.lookup ("flags":Str)=some (.val (.ref o.x)))
  (k:∀ h' t',Off (FA c.L) h h'→Bd X h'→WF c (("told",.dat (.list ((toldL cs σ).map bbD)))::ρ) κ (fun zz h=>FW prog w c z o adr σ N h) X h'→Q .next (To s h' t')) :
  NR prog w A (exec (getB (forB (lawS 15)) 2) env) Q (To s h t):=by
 have hh:=hA.handled
 have r:=rest_fw (prog:=prog) (w:=w) (o:=o) (adr:=adr) (σ:=σ) (N:=N) ok
 have up:=upW (ρ:=ρ) (κ:=κ) r
 show NR prog w A (exec (.Assign [.Name "told" _] (.ListComp (.Tuple [.Call (.Attribute (.Name "flags" _) "is_" _) [.Name "key" _,.Name "flag" _] [] _,.Call (.Attribute (.Name "flags" _) "is_" _) [.BinOp (.Name "key" _) .Add (.Tuple [.Constant (.str "=") _ _] _ _) _,.Name "flag" _] [] _] _ _) [⟨.Name "key" _,.Name "keys" _,_,0⟩,⟨.Name "flag" _,.Tuple [.Constant (.int 0) _ _,.Constant (.int 1) _ _] _ _,_,0⟩] _ _) _) env) _ _
 generalize he:Expr.Tuple [.Constant (.int 0) _ _,.Constant (.int 1) _ _] _ _=e2
 generalize hs:Expr.Tuple [.Constant (.str "=") _ _] _ _=e1
 rw[← told_bb] at k
 refine compU2 (T:=AtF keyD) (f:=PyData.int) (as:=cs) (bs:=fun zz=>[0,1]) (fun c0=>[("key",.dat (keyD c0))]) (fun c0 f=>[("flag",.dat (.int f)),("key",.dat (keyD c0))]) (fun zz=>true) (fun zz zz=>true) (fun c0 f=>bbD (toldP σ c0 f)) fr r ok.G (by kernel_rfl) st hX bd (by decide +kernel) (clos_law fr (by decide +kernel)) (by kernel_rfl) (by decide +kernel) (fun c0=>allpl_nil.cons (pl_strs _)) (src_listF keyD hh (fr.ld "keys" (by kernel_rfl) r1 (by decide +kernel)))
  (fun C cenv ce a zz=>tgt1 ce.le (ce.k _ _ (by kernel_rfl) (by decide))) (fun C cenv ce a zz=>ts_nil) (fun C cenv ce a zz=>src_tupleF PyData.int hh (ev_t2 he (up_and up up_loc))) (fun C cenv ce a zz b zz=>tgt1p ce.le (allpl_nil.cons (pl_strs _)) (ce.k _ _ (by kernel_rfl) (by decide)) (by rfl)) (fun C cenv ce a zz b zz=>ts_nil) (fun C cenv ce c0 m0 f mf zz=>?_) (by lia) (fun zz zz=>by decide) (sw_used (fr_fun fr) (by rw[fr.k];kernel_rfl) (by kernel_rfl) (by kernel_rfl)) k (fun x=>rfl) (fun cenv x=>by rw[← he];rfl)
 obtain ⟨n1,n2,n3⟩:=key_ok _ (octs_in (hc c0 m0)).1
 have up3:=up_and up (up_loc (L:=C) (ρ:=[("flag",.dat (.int f)),("key",.dat (keyD c0))]))
 have ef:∀ {q:Pos},EvR prog w A cenv (fun X h=>WF c ρ κ (fun zz h=>FW prog w c z o adr σ N h) X h∧Loc C [("flag",.dat (.int f)),("key",.dat (keyD c0))] X h) (.Name "flags" q) (fun zz zz v=>v=.ref o.x):=ev_cap (V:=.val (.ref o.x)) ce (by kernel_rfl) (a:=c.L+8) (by kernel_rfl) (by decide +kernel) (by decide +kernel) fun X h i=>i.1.cell k1 rfl
 have ek:∀ {q:Pos},Ev prog w A cenv (fun X h=>WF c ρ κ (fun zz h=>FW prog w c z o adr σ N h) X h∧Loc C [("flag",.dat (.int f)),("key",.dat (keyD c0))] X h) (.Name "key" q) (.tuple ((keyO (octs c0)).map .str)):=ev_loc ce.le (ce.k _ _ (by kernel_rfl) (by decide)) (fun zz zz i=>i.2) (by rfl) (by kernel_rfl)
 have eg:∀ {q:Pos},Ev prog w A cenv (fun X h=>WF c ρ κ (fun zz h=>FW prog w c z o adr σ N h) X h∧Loc C [("flag",.dat (.int f)),("key",.dat (keyD c0))] X h) (.Name "flag" q) (.int f):=ev_loc ce.le (ce.k _ _ (by kernel_rfl) (by decide)) (fun zz zz i=>i.2) (by rfl) (by kernel_rfl)
 have hG:∀ X h,(WF c ρ κ (fun zz h=>FW prog w c z o adr σ N h) X h∧Loc C [("flag",.dat (.int f)),("key",.dat (keyD c0))] X h)→GK c.K c.mg c.mb h∧FObj prog w o.C c.h0 o.x o.dx adr σ N h:=fun X h i=>⟨i.1.1.1,i.1.2.2.1⟩
 have q2:∀ {p p':Pos},Ev prog w A cenv (fun X h=>WF c ρ κ (fun zz h=>FW prog w c z o adr σ N h) X h∧Loc C [("flag",.dat (.int f)),("key",.dat (keyD c0))] X h) (.BinOp (.Name "key" p) .Add e1 p') (.tuple ((keyO (octs c0)++[chS 61]).map .str)):=fun {p p'}=>by
  refine Ev.eq ?_ (ev_bin up3 ek (ev_t1s hs up3) fun s X u v zz x y=>op_addt x y (by simpa using n1) (by simp) (by rw[List.length_map];simp;lia))
  rw[List.map_append,show ("=":Str)=chS 61 by decide +kernel];rfl
 exact ev_tuple (ev_cons up3 (ev_isK (n:=n) (σ:=σ) L hA ok.G up3 n1 (by lia) ef ek eg hG (by rfl) (by rfl) (by rfl) (by rfl)) (ev_cons up3 (ev_isK (n:=n) (σ:=σ) L hA ok.G up3 (by simp) (by rw[List.length_append];simp;lia) ef q2 eg hG (by rfl) (by rfl) (by rfl) (by rfl)) ev_nil)) (by simp)
theorem runs_len (hR:run∈runsL cs):run.length≤90:=by
 unfold runsL at hR
 rcases mC hR with rfl|m
 ·decide
 ·obtain ⟨od,mo,rfl⟩:=List.mem_map.mp m
  have l3:=perm_len (List.mem_filter.mp mo).1
  have:=fm_len (l:=od) (m:=7) (f:=fun h=>R7.filter fun k=>decide (hd cs k=h)) fun a zz=>List.length_filter_le _ R7
  lia
end
theorem off_mid {N:List Addr} {a b d:Heap} (x:Off F a b) (n:∀ b'∈N,b.get? b'=none) (y:Off (F++N) b d):Off F a d:=fun q o nq e=>by
 have e':=x q o nq e
 exact y q o (fun m=>(m_a m).elim nq fun m=>by rw[n q m] at e';cases e') e'
section
variable {c:Wc} {cs run:List Int} {z:Sn} {o:Ob} {adr adr':List Str→Nat→Addr} {σ σ':Sg} {M:List Addr} {V:VD} {n:Nat} {k:Int}
theorem s_runloop {Q:FSP} (N:LwN c) (L:LwF c w C) (fr:FrC A0 n c.h0 c.L env) (hA:OKA A (n+2)) (hc:∀ c∈cs,0≤c∧c<972) (h7:cs.length=7) (st:WF c ρ κ Tt (FA c.L) h) (bd:Bd (FA c.L) h)
  (r1:ρ.lookup ("keys":Str)=some (.dat (.list (cs.map keyD)))) (r2:ρ.lookup ("runs":Str)=some (.dat (.list ((runsL cs).map intsD)))) (r3:ρ.lookup ("due":Str)=some (.dat (.list (dueTo cs cs)))) (r4:ρ.lookup ("run":Str)=none) (r5:ρ.lookup ("k":Str)=none) (r6:ρ.lookup ("kind":Str)=none) (r7:ρ.lookup ("told":Str)=none)
  (k1:κ.lookup ("deeds":Str)=some (.dat (.list (cs.map deedD)))) (k2:κ.lookup ("flags":Str)=none)
  (k:Cont c ρ κ Tt s h Q):NR prog w A (exec (lawS 15) env) Q (To s h t):=by
 have hh:=hA.handled
 show NR prog w A (exec (.For (.Name "run" _) (.Name "runs" _) (forB (lawS 15)) [] _) env) _ _
 refine for_w (P:=fun _ (_:Unit)=>True) (ρi:=fun zz=>ρ) (κi:=fun zz=>κ) (Ri:=fun zz=>Tt) (M0:=[]) () N.G (fun zz zz zz zz zz zz zz zz=>trivial) (fun zz zz zz zz zz m=>by cases m) (fun zz=>rest_true (L:=c.L) |>.up) st trivial
  (src_listF intsD hh (fr.ld "runs" (by kernel_rfl) r2 (by decide +kernel))) st bd (fun a m=>by rwa [List.append_nil] at m) (fun i run v h1a t1a X' zz Q' hi T bd1 hX1a zz st1 q1 zz=>?_) fun h' t' zz o b zz i=>k h' t' (by rwa [List.append_nil] at o) b i
 rw[List.append_nil] at hX1a q1
 have hR:run∈runsL cs:=List.mem_of_getElem? hi
 have V:=valid_run hc h7 hR
 refine wpAny_assign_Name (storeL (s:=s) (V:=.dat (intsD run)) fr rest_true N.G (by kernel_rfl) st1 T hX1a bd1 fun h2a t2a o2a b2b i2a=>?_)
 show NR prog w A (execs (.Assign [.Name "flags" _] (.Call (.Name "Flags" _) [] [] _) _::.For (.Name "k" _) (.Name "run" _) (forB (getB (forB (lawS 15)) 1)) [] _::getB (forB (lawS 15)) 2::.If (.Compare (.Name "told" _) [.NotEq] [.Name "due" _] _) _ [] _::[]) env) _ _
 refine xc (mk_flags (n:=n) L fr hA N.G i2a hX1a b2b (by rfl) fun z x dx adr h3a t3a ok s3a f3a b3a o3a n3a=>?_)
 have hX3a:∀ a∈FA c.L,a∈[x,dx,adr [] 0]++X':=fun a m=>m_r _ (hX1a a m)
 refine xc (s_do (n:=n) (o:=⟨C,x,dx⟩) L ok fr (hA.mono (by lia)) hc h7 V.sub (runs_len hR) s3a f3a b3a (fun a m=>(m_a m).elim (hX3a a) fun m=>m_l _ m) (look1 (by decide +kernel) r1) (by rfl) (by rw[List.lookup_cons,show (("k":Str) == "run")=false by decide +kernel];exact r5) (by rw[List.lookup_cons,show (("kind":Str) == "run")=false by decide +kernel];exact r6) (by rfl) (look1 (by decide +kernel) k1) fun h4a t4a adr' N' s4a f4a b4a o4a=>?_)
 have i4a:WF c (("run",.dat (intsD run))::ρ) (("flags",.val (.ref x))::κ) (fun zz h=>FW prog w c z ⟨C,x,dx⟩ adr' (runF cs run) N' h) ([x,dx,adr [] 0]++X') h4a:=s4a.wf ok f4a
 refine xc (s_told (n:=n) (o:=⟨C,x,dx⟩) L ok fr (hA.mono (by lia)) hc h7 i4a hX3a b4a (look1 (by decide +kernel) r1) (by rfl) fun h5 t5 o5a b5a i5a=>?_)
 rw[told_due hc h7 V] at i5a
 have r:=rest_fw (prog:=prog) (w:=w) (o:=⟨C,x,dx⟩) (adr:=adr') (σ:=runF cs run) (N:=N') ok
 refine xc (ifsF (b:=!PyData.eqv (.list ((dueL cs).map bbD)) (.list ((dueL cs).map bbD))) (tr_cmp (upW r) (fr.ld "told" (by kernel_rfl) (by rfl) (by kernel_rfl)) (fr.ld "due" (by kernel_rfl) (look1 (by decide +kernel) (look1 (by decide +kernel) r3)) (by decide +kernel)) fun s X u v zz x y=>op_ne hA (shaped_bb _) (shaped_bb _) x y) b5a i5a fun h6a t6 e6a=>?_)
 rw[eqv_bb]
 show NR prog w A (execs [] env) _ _
 have i6a:=(upW r).ext e6a i5a
 have i7:WF c ρ κ Tt ([x,dx,adr [] 0]++X') h6a:=((WF.dropL (WF.dropL ⟨i6a.1,i6a.2.1,trivial⟩ (by rw[List.lookup_cons,show (("told":Str) == "run")=false by decide +kernel];exact r7)) r4).dropK k2)
 refine wpAny_execs_nil (wpAny_execs_nil (q1 h6a t6 () ?_ trivial (upW (rest_true:Rest c.L Tt) _ _ _ _ (Ext.refl _) (fun a m=>.inl (m_r _ m)) i7)))
 exact (off_mid o2a n3a ((o3a.mono fun q m=>m_l _ m).trans o4a)).trans (o5a.trans (Ext.off e6a))
end
theorem ci_cells (L:Addr) (y:Str):(cellsFrom (L+1) (fScope (topS 21)).names []).lookup y=(ci y).map (L+·):=by
 have e:cellsFrom (L+1) (fScope (topS 21)).names []=(ciT.map fun p=>(p.1,L+p.2)).reverse:=by kernel_rfl
 rw[e]
 have r:∀ (l:List (Str×Nat)),(l.map (·.1)).Nodup→((l.map fun p=>(p.1,L+p.2)).reverse).lookup y=(l.lookup y).map (L+·):=by
  intro l
  induction l with
  | nil=>intro _;rfl
  | cons a l ih =>
   intro nd
   obtain ⟨a,i⟩:=a
   obtain ⟨n1,n2⟩:=List.nodup_cons.mp nd
   rw[List.map_cons,List.reverse_cons,List.lookup_append,ih n2,List.lookup_cons,List.lookup_cons]
   by_cases q:y == a
   ·have:l.lookup y=none:=by
     cases f:l.lookup y with
     | none=>rfl
     | some i=>exact absurd (List.mem_map_of_mem (f:=(·.1)) (lookup_mem' f)) (beq_iff_eq.mp q▸n1)
    rw[this,q];rfl
   ·rw[show (y == a)=false by simpa using q];cases l.lookup y <;> rfl
 exact r ciT (by decide +kernel)
structure LwD (c:Wc):Prop where
 deeds:∃ f,c.mg "_law_deeds"=some (.ref f)∧FnK c.K f "_law_deeds" (topS 17) .none .none
 m1:c.mg "enumerate"=none
 b1:c.mb "enumerate"=some (.type "enumerate")
 m2:c.mg "sum"=none
 b2:c.mb "sum"=some (.builtin "sum")
section
variable {c:Wc} {cs ns:List Int} {M:List Addr} {V:VD} {n:Nat} {D:Addr}
theorem s_deeds {Q:FSP} (N:LwN c) (S:LwD c) (fr:FrC A0 n c.h0 c.L env) (hA:OKA A (n+1)) (hl:ns.length≤63) (st:WF c ρ κ Tt (FA c.L) h) (bd:Bd (FA c.L) h) (hs:ρ.lookup ("script":Str)=some (.dat (.list (ns.map .int))))
  (k:∀ cs:List Int,cs.length=7→(∀ c∈cs,0≤c∧c<972)→Cont c ρ (("deeds",.dat (.list (cs.map deedD)))::κ) Tt s h Q):NR prog w A (exec (lawS 0) env) Q (To s h t):=by
 obtain ⟨f,hf,F⟩:=S.deeds
 have up:=upW (ρ:=ρ) (κ:=κ) (rest_true:Rest c.L Tt)
 show NR prog w A (exec (.Assign [.Name "deeds" _] (.Call (.Name "_law_deeds" _) [.Name "script" _] [] _) _) env) _ _
 refine wpAny_Assign_Name (hs:=sw_cell (by rw[fr.k];kernel_rfl)) (callQ (ds:=[.list (ns.map .int)]) up bd st (fr.gl "_law_deeds" (by kernel_rfl) hf (by decide +kernel)) (F.keep gk2) (ev_cons up (fr.ld "script" (by kernel_rfl) hs (by decide +kernel)) ev_nil) fun h1a t1a vs e1a av=>?_)
 have i1a:=up.ext e1a st
 refine wpAny_mono (law_deeds (n:=n) (s:=To s h1a t1a) F hA i1a.1.1 S.m1 S.b1 S.m2 S.b2 hl (bd.ext e1a) av _) (fun v s2a q=>?_) fun zz zz x=>x
 obtain ⟨k2a,cs,h7,hc,ac⟩:=q
 obtain ⟨h2a,t2a,rfl,e2a⟩:=k2a
 have e2a:Ext h1a h2a:=e2a
 exact st_cell (s:=s) (i:=1) (V:=.dat (.list (cs.map deedD))) fr restC_tt N.G (by kernel_rfl) rfl (up.ext e2a i1a) ac (fun a m=>m) ((bd.ext e1a).ext e2a) fun h' t' o b i=>k cs h7 hc h' t' ((Ext.off (Ext.trans e1a e2a)).trans (o.mono fun q m=>by rw[m_s m];exact mem_FA.mpr (.inr ⟨1,by decide,by decide,rfl⟩))) b i
theorem WF.seal (i:WF c ρ κ (Ml D ds) (D::FA c.L) h) (hl:ρ.lookup y=some (.val (.ref D))) (hD:D∉FA c.L):WF c ((y,.dat (.list ds))::ρ) κ Tt (FA c.L) h:=by
 have hid:Hid (D::FA c.L) (FA c.L) h:=Hid.less
 obtain ⟨m,hn,hr⟩:=i.1.2.2
 refine ⟨⟨i.1.1,i.1.2.1,m,hn,fun x E e=>?_⟩,rest_cl.up _ _ _ _ (Ext.refl _) hid i.2.1,trivial⟩
 rw[List.lookup_cons] at e
 by_cases q:x=y
 ·subst q
  simp at e;subst e
  obtain ⟨v,a,b⟩:=hr _ _ hl
  have b:v=.ref D:=b
  exact ⟨v,a,by rw[b];exact i.2.2.at hid hD⟩
 ·rw[show (x == y)=false by simpa using q] at e
  obtain ⟨v,a,b⟩:=hr x E e
  exact ⟨v,a,VD.hid hid b⟩
theorem law_body {Q:FSP} (N:LwN c) (S:LwD c) (T:LwS c w) (L:LwF c w C) (fr:FrC A0 n c.h0 c.L env) (hA:OKA A (n+8)) (hfr:A.frames=some [env]) (hl:ns.length≤63) (st:WF c [("script",.dat (.list (ns.map .int)))] [] Tt (FA c.L) h) (bd:Bd (FA c.L) h)
  (k:∀ h' t',Ext c.h0 h'→Q (.ret (.bool true)) (To s h' t')):NR prog w A (execs (fBody (topS 21)) env) Q (To s h t):=by
 have A1:OKA A (n+1):=hA.mono (by lia)
 have A2:OKA A (n+2):=hA.mono (by lia)
 have A3:OKA A (n+3):=hA.mono (by lia)
 have hh:=hA.handled
 rw[show fBody (topS 21)=[lawS 0,lawS 1,lawS 2,lawS 3,lawS 4,lawS 5,lawS 6,lawS 7,lawS 8,lawS 9,lawS 10,lawS 11,lawS 12,lawS 13,lawS 14,lawS 15,lawS 16] by kernel_rfl]
 have rt:Rest c.L Tt:=rest_true
 obtain ⟨S8,e8⟩:∃ S,S=lawS 8:=⟨_,rfl⟩
 obtain ⟨S12,e12⟩:∃ S,S=lawS 12:=⟨_,rfl⟩
 rw[← e8,← e12]
 refine xc (s_deeds N S fr A1 hl st bd (by kernel_rfl) fun cs h7 hc h1a t1a o1a b1a i1a=>?_)
 refine xc (s_rows (cs:=cs) (n:=n) N fr A1 rt restC_tt hc h7 i1a b1a (by kernel_rfl) fun h2a t2a o2a b2b i2a=>?_)
 refine xc (s_keys (cs:=cs) (n:=n) N fr A3 rt hc h7 i2a b2b (by kernel_rfl) fun h3a t3a o3a b3a i3a=>?_)
 refine xc (s_offs (cs:=cs) N fr hh rt h7 i3a b3a (by kernel_rfl) fun h4a t4a o4a b4a i4a=>?_)
 refine xc (s_ons (cs:=cs) N fr hh rt restC_tt h7 i4a b4a (by kernel_rfl) fun h5 t5 o5a b5a i5a=>?_)
 refine xc (s_clash (cs:=cs) (n:=n) N fr A1 rt restC_tt hc h7 i5a b5a (by kernel_rfl) (by kernel_rfl) (by kernel_rfl) fun h6a t6 o6 b6 i6a=>?_)
 refine xc (s_pairs (cs:=cs) N fr hh rt h7 i6a b6 (by kernel_rfl) (by kernel_rfl) fun h7a t7 o7 b7 i7=>?_)
 refine xc (s_waits (cs:=cs) N fr hh rt restC_tt i7 b7 (by kernel_rfl) fun h8a t8a o8 b8 i8=>?_)
 refine xc (s_orders e8 N fr i8 b8 fun D h9 t9 o9 b9 i9=>?_)
 refine xc (s_kept (cs:=cs) (n:=n) N fr A1 hc h7 i9 b9 (by kernel_rfl) (by kernel_rfl) fun g1a u1a p1a d1a j1a=>?_)
 refine xc (s_lets (cs:=cs) N T fr hA hfr hc h7 j1a d1a (by kernel_rfl) (by kernel_rfl) (by kernel_rfl) (by kernel_rfl) fun g2a u2a p2a d2a j2a=>?_)
 refine xc (s_left (cs:=cs) (n:=n) N fr A1 j2a d2a (by kernel_rfl) (by kernel_rfl) fun g3a u3a p3a d3a j3a=>?_)
 refine xc (s_due e12 N fr j3a d3a fun U g4a u4a nU p4a d4a j4a=>?_)
 have hUF:U∉FA c.L:=fun m=>by obtain ⟨o,e⟩:=d3a U m;rw[nU] at e;cases e
 refine xc (s_rowloop (cs:=cs) (n:=n) N fr A1 hc h7 j4a d4a hUF (none_before j3a.1.2.1 nU) (by kernel_rfl) (by kernel_rfl) (by kernel_rfl) (by kernel_rfl) (by kernel_rfl) (by kernel_rfl) (by kernel_rfl) (by kernel_rfl) fun g5 u5a p5a d5a j5=>?_)
 have j6:=j5.seal (y:="due") (by kernel_rfl) hUF
 have d6a:Bd (FA c.L) g5:=fun b m=>d5a b (.tail _ m)
 refine xc (s_runs (cs:=cs) (n:=n) N T fr A1 h7 rt j6 (fun zz m=>m) d6a (by kernel_rfl) (by kernel_rfl) fun g7 u7 p7a d7a j7=>?_)
 refine xc (s_runloop (cs:=cs) (n:=n) N L fr A2 hc h7 j7 d7a (by kernel_rfl) (by kernel_rfl) (by kernel_rfl) (by kernel_rfl) (by kernel_rfl) (by kernel_rfl) (by kernel_rfl) (by kernel_rfl) (by kernel_rfl) fun g8 u8 p8a d8a j8=>?_)
 show NR prog w A (execs (.Return (some (.Constant (.bool true) _ _)) _::[]) env) _ _
 generalize he:Expr.Constant (.bool true) _ _=e
 refine xc (wpAny_Return_some (evF (R:=fun X h v=>At X h v (.bool true)) (he▸ev_bool) d8a j8 fun v g9 u9 e9a av=>?_))
 rw[av.bool_inv]
 exact k g9 u9 (Ext.trans j8.1.2.1 e9a)
end
section
variable {c:Wc} {ns:List Int} {n:Nat}
theorem law_call {mg mb:Str→Option Value} (hc0:c.h0=s.heap) (hcL:c.L=s.heap.objs.size) (F:FnK c.K fa "law" (topS 21) .none .none) (N:LwN c) (S:LwD c) (T:LwS c w) (L:LwF c w C) (hA:OKA A (n+9)) (hfr:A.frames=some []) (hl:ns.length≤63) (av:At [] s.heap v (.list (ns.map .int))) (E:VSP) :
  wpAny (model prog w) A (call (.ref fa) [v]) (fun r s'=>Keeps s s'∧r=.bool true) E s:=by
 obtain ⟨oc,od,doc,pm,an,cdv,ct,osl,hf,hcd⟩:=F
 have G:GK c.K c.mg c.mb s.heap:=hc0▸N.G
 have bt:BindsTo s (fnOf (fName (topS 21)) "law" (fParams (topS 21)) (fBody (topS 21)) (fScope (topS 21)) .none .none doc pm an cdv ct) ⟨[v],[]⟩ [("script",v)]:=.of_eq (by kernel_rfl)
 refine wpAny_call (codeAny_call_function (fd:=fnOf (fName (topS 21)) "law" (fParams (topS 21)) (fBody (topS 21)) (fScope (topS 21)) .none .none doc pm an cdv ct) (body:=fBody (topS 21)) hA.room (G.k _ _ hf) rfl (by kernel_rfl) (by kernel_rfl) rfl (codeRec_of G.k hcd) (bt _ _ _ _ ?_))
 refine wpAny_newFunctionEnv_cells (by kernel_rfl) (fun x m=>by rw[m_s m];exact .inl (by kernel_rfl)) fun env he s' x=>?_
 have e1a:Ext s.heap s'.heap:=x.toInCall.keep
 refine ⟨G.lim.keeps e1a,codeAny_func ?_⟩
 obtain ⟨h1a,t1a,rfl,_⟩:=x.done
 have e1a:Ext s.heap h1a:=e1a
 have hk:(fScope (topS 21)).kind=.function:=by kernel_rfl
 have hL:env.locals=c.L:=by rw[he,hcL];rfl
 have fr:FrC A (n+8 - 8) c.h0 c.L env:=⟨⟨by rw[he];exact hk,hL⟩,⟨by rw[he];exact hk,by rw[he];rfl,by rw[he];rfl⟩,fun y=>by rw[he,hcL];exact ci_cells _ y,fun y=>by rw[he];rfl,(hA.mono (by lia)).deeper _,fun a h=>by rw[hc0];exact Heap.get?_none_of_le (hcL▸h),by rw[he,hcL];rfl⟩
 have FAn:∀ a∈FA c.L,s.heap.get? a=none:=fun a m=>Heap.get?_none_of_le (by
  rw[← hcL]
  rcases mem_FA.mp m with rfl|⟨i,_,_,rfl⟩
  ·exact Nat.le_refl _
  ·exact Nat.le_add_right _ _)
 have hid:Hid [] (FA c.L) s.heap:=fun a m=>.inr (FAn a m)
 have cell:∀ i:Nat,1≤i→i≤8→∃ u,h1a.IsCell (c.L+i) u:=fun i h1 h8=>by
  obtain ⟨y,hy⟩:∃ y,ci y=some i:=by
   rcases le8 h1 h8 with rfl|rfl|rfl|rfl|rfl|rfl|rfl|rfl
   ·exact ⟨"deeds",rfl⟩
   ·exact ⟨"rows",rfl⟩
   ·exact ⟨"ons",rfl⟩
   ·exact ⟨"clashes",rfl⟩
   ·exact ⟨"waits",rfl⟩
   ·exact ⟨"row",rfl⟩
   ·exact ⟨"flag",rfl⟩
   ·exact ⟨"flags",rfl⟩
  exact ⟨_,x.cell y (c.L+i) (by rw[fr.cells,hy];rfl)⟩
 have hn:h1a.Ns c.L (bindL env.kindOf [("script",v)] fun zz=>none):=hL▸x.toInCall.ns
 have st:WF c [("script",.dat (.list (ns.map .int)))] [] Tt (FA c.L) h1a:=by
  refine ⟨⟨G.ext e1a,hc0▸e1a,_,hn,fun y D e=>?_⟩,⟨cell,fun y D e=>by cases e⟩,trivial⟩
  rw[List.lookup_cons] at e
  by_cases q:y="script"
  ·subst q
   simp at e;subst e
   refine ⟨v,?_,(av.hid hid).ext e1a⟩
   unfold bindL bindL
   rw[if_pos (by rw[fr.k];kernel_rfl),if_pos rfl]
  ·rw[show (y == ("script":Str))=false by simpa using q] at e;cases e
 have bd:Bd (FA c.L) h1a:=fun a m=>exl (FA_nt st a m)
 refine wpAny_mono (law_body (n:=n) (s:=s) (t:=t1a) N S T L fr ((hA.mono (by lia)).deeper env) (Around.frames_deeper hfr) hl st bd (Q:=fun fl s'=>Keeps s s'∧fl=.ret (.bool true)) fun h' t' e=>⟨⟨h',t',rfl,hc0▸e⟩,rfl⟩) (fun fl s2a q=>?_) fun zz zz x=>x.elim
 obtain ⟨k,rfl⟩:=q
 exact ⟨k,rfl⟩
end
noncomputable def hE (P:Params) (k:Str) (t:Tok) (v:Value):DictEntry:=⟨PyData.keyHash P k,.str k t,v⟩
noncomputable def fO (st:Stmt) (qn:Str) (dV kV pm c:Value):Obj:={ cls:=.type "function",data:=.func (fnOf (fName st) qn (fParams st) (fBody st) (fScope st) dV kV .none pm none c .none) }
noncomputable def heapK (P:Params):Frag:=[
(1,{ cls:=.type "dict",data:=.dict [hE P "builtins" 162 (.ref 4),hE P "__main__" 163 (.ref 5)].toArray 2 }),
(3,{ cls:=.type "dict",data:=.dict [hE P "__name__" 165 (.str "law_il0177_01" 509),hE P "__doc__" 166 (.none),hE P "__package__" 167 (.none),hE P "__loader__" 168 (.builtin "__main__.__loader__#opaque"),hE P "__spec__" 169 (.none),hE P "__annotations__" 170 (.ref 6),hE P "__builtins__" 171 (.ref 4),hE P "__file__" 173 (.str "/claim/cut.py" 172),hE P "__cached__" 174 (.none),hE P "_wall" 193 (.ref 21),hE P "Flags" 281 (.ref 73),hE P "_buffer" 291 (.ref 84),hE P "_truth" 299 (.ref 91),hE P "_B64" 301 (.bytes (byteArr b64codes) 300),hE P "b2a_base64" 315 (.ref 99),hE P "b64encode" 326 (.ref 107),hE P "_NODE_OUT" 331 (.int (-1) 330),hE P "_NODE_DONE" 334 (.int (-2) 333),hE P "_NodeInfo" 371 (.ref 126),hE P "CycleError" 389 (.ref 141),hE P "TopologicalSorter" 508 (.ref 223),hE P "_law_deeds" 516 (.ref 232),hE P "_law_row" 525 (.ref 239),hE P "_law_begins" 533 (.ref 246),hE P "_law_lets" 546 (.ref 253),hE P "law" 552 (.ref 258)].toArray 26 }),
(72,{ cls:=.type "dict",data:=.dict [hE P "__module__" 203 (.str "cpy313.tomllib._parser" 194),hE P "__firstlineno__" 207 (.int 5 206),hE P "FROZEN" 209 (.int 0 208),hE P "EXPLICIT_NEST" 211 (.int 1 210),hE P "__init__" 218 (.ref 35),hE P "add_pending" 227 (.ref 42),hE P "finalize_pending" 234 (.ref 49),hE P "unset_all" 244 (.ref 56),hE P "set" 258 (.ref 63),hE P "is_" 271 (.ref 70),hE P "__static_attributes__" 274 (.ref 71),hE P "__dict__" 276 (.ref 74),hE P "__weakref__" 278 (.ref 75),hE P "__doc__" 279 (.none)].toArray 4 }),
(73,{ cls:=.type "type",data:=.cls { name:="Flags",bases:=[.type "object"],mro:=[.ref 73,.type "object"],ns:=72,qualname:="Flags",hasDict:=true,slotNames:=[] },slots:=#[none,none,some (.str "Flags" 196),some (.str "Flags" 204),some (.builtin "object.__new__"),some (.bool true)] }),
(125,{ cls:=.type "dict",data:=.dict [hE P "__module__" 342 (.str "cpy313.graphlib" 327),hE P "__firstlineno__" 346 (.int 100 345),hE P "__slots__" 350 (.ref 115),hE P "__init__" 358 (.ref 122),hE P "__static_attributes__" 362 (.ref 123),hE P "node" 364 (.ref 127),hE P "npredecessors" 366 (.ref 128),hE P "successors" 368 (.ref 129),hE P "__doc__" 369 (.none)].toArray 5 }),
(126,{ cls:=.type "type",data:=.cls { name:="_NodeInfo",bases:=[.type "object"],mro:=[.ref 126,.type "object"],ns:=125,qualname:="_NodeInfo",hasDict:=false,slotNames:=["node","npredecessors","successors"] },slots:=#[none,none,some (.str "_NodeInfo" 335),some (.str "_NodeInfo" 343),some (.builtin "object.__new__"),some (.bool false)] }),
(127,{ cls:=.type "member_descriptor",data:=.fields #[.str "node" 363,.ref 126,.builtin "proto.slot",.builtin "proto.slot#set",.int 2 0] }),
(128,{ cls:=.type "member_descriptor",data:=.fields #[.str "npredecessors" 365,.ref 126,.builtin "proto.slot",.builtin "proto.slot#set",.int 1 0] }),
(129,{ cls:=.type "member_descriptor",data:=.fields #[.str "successors" 367,.ref 126,.builtin "proto.slot",.builtin "proto.slot#set",.int 0 0] }),
(140,{ cls:=.type "dict",data:=.dict [hE P "__module__" 379 (.str "cpy313.graphlib" 327),hE P "__firstlineno__" 383 (.int 107 382),hE P "__static_attributes__" 384 (.ref 139),hE P "__weakref__" 386 (.ref 142),hE P "__doc__" 387 (.none)].toArray 3 }),
(141,{ cls:=.type "type",data:=.cls { name:="CycleError",bases:=[.type "ValueError"],mro:=[.ref 141,.type "ValueError",.type "Exception",.type "BaseException",.type "object"],ns:=140,qualname:="CycleError",hasDict:=true,slotNames:=[] },slots:=#[some (.ref 132),none,some (.str "CycleError" 372),some (.str "CycleError" 380),some (.builtin "ValueError.__new__"),some (.bool true)] }),
(222,{ cls:=.type "dict",data:=.dict [hE P "__module__" 397 (.str "cpy313.graphlib" 327),hE P "__firstlineno__" 401 (.int 109 400),hE P "__init__" 411 (.ref 159),hE P "_get_nodeinfo" 420 (.ref 166),hE P "add" 432 (.ref 173),hE P "prepare" 438 (.ref 178),hE P "get_ready" 448 (.ref 185),hE P "is_active" 455 (.ref 192),hE P "__bool__" 462 (.ref 199),hE P "done" 476 (.ref 206),hE P "_find_cycle" 489 (.ref 213),hE P "static_order" 496 (.ref 220),hE P "__static_attributes__" 501 (.ref 221),hE P "__dict__" 503 (.ref 224),hE P "__weakref__" 505 (.ref 225),hE P "__doc__" 506 (.none)].toArray 4 }),
(223,{ cls:=.type "type",data:=.cls { name:="TopologicalSorter",bases:=[.type "object"],mro:=[.ref 223,.type "object"],ns:=222,qualname:="TopologicalSorter",hasDict:=true,slotNames:=[] },slots:=#[none,none,some (.str "TopologicalSorter" 390),some (.str "TopologicalSorter" 398),some (.builtin "object.__new__"),some (.bool true)] }),
(35,fO (inS (topS 2) 2) "Flags.__init__" (.none) (.none) (.str "cpy313.tomllib._parser" 194) (.ref 34)),
(34,{ cls:=.type "code",data:=.fields #[.str "__init__" 212,.str "Flags.__init__" 213,.str "/claim/cut.py" 214,.int 9 0,.int 1 0,.int 0 0,.int 0 0,.int 3 0,.ref 29,.bool true,.int 181 0,.ref 30,.none,.ref 31,.ref 32,.ref 33,.int 216 0,.int 9 0,.str "/claim/cut.py" 217] }),
(56,fO (inS (topS 2) 5) "Flags.unset_all" (.none) (.none) (.str "cpy313.tomllib._parser" 194) (.ref 55)),
(55,{ cls:=.type "code",data:=.fields #[.str "unset_all" 235,.str "Flags.unset_all" 236,.str "/claim/cut.py" 237,.int 19 0,.int 2 0,.int 0 0,.int 0 0,.int 3 0,.ref 50,.bool true,.int 181 0,.ref 51,.none,.ref 52,.ref 53,.ref 54,.int 242 0,.int 19 0,.str "/claim/cut.py" 243] }),
(63,fO (inS (topS 2) 6) "Flags.set" (.none) (.none) (.str "cpy313.tomllib._parser" 194) (.ref 62)),
(62,{ cls:=.type "code",data:=.fields #[.str "set" 245,.str "Flags.set" 246,.str "/claim/cut.py" 247,.int 27 0,.int 3 0,.int 0 0,.int 1 0,.int 3 0,.ref 57,.bool true,.int 181 0,.ref 58,.none,.ref 59,.ref 60,.ref 61,.int 256 0,.int 27 0,.str "/claim/cut.py" 257] }),
(70,fO (inS (topS 2) 7) "Flags.is_" (.none) (.none) (.str "cpy313.tomllib._parser" 194) (.ref 69)),
(69,{ cls:=.type "code",data:=.fields #[.str "is_" 259,.str "Flags.is_" 260,.str "/claim/cut.py" 261,.int 38 0,.int 3 0,.int 0 0,.int 0 0,.int 3 0,.ref 64,.bool true,.int 181 0,.ref 65,.none,.ref 66,.ref 67,.ref 68,.int 269 0,.int 38 0,.str "/claim/cut.py" 270] }),
(84,fO (topS 4) "_buffer" (.none) (.none) (.str "binascii" 282) (.ref 83)),
(83,{ cls:=.type "code",data:=.fields #[.str "_buffer" 284,.str "_buffer" 285,.str "/claim/cut.py" 286,.int 55 0,.int 1 0,.int 0 0,.int 0 0,.int 3 0,.ref 78,.bool true,.int 181 0,.ref 79,.none,.ref 80,.ref 81,.ref 82,.int 289 0,.int 55 0,.str "/claim/cut.py" 290] }),
(91,fO (topS 5) "_truth" (.none) (.none) (.str "binascii" 282) (.ref 90)),
(90,{ cls:=.type "code",data:=.fields #[.str "_truth" 292,.str "_truth" 293,.str "/claim/cut.py" 294,.int 62 0,.int 1 0,.int 0 0,.int 0 0,.int 3 0,.ref 85,.bool true,.int 181 0,.ref 86,.none,.ref 87,.ref 88,.ref 89,.int 297 0,.int 62 0,.str "/claim/cut.py" 298] }),
(99,fO (topS 7) "b2a_base64" (.none) (.ref 92) (.str "binascii" 282) (.ref 98)),
(98,{ cls:=.type "code",data:=.fields #[.str "b2a_base64" 303,.str "b2a_base64" 304,.str "/claim/cut.py" 305,.int 68 0,.int 1 0,.int 1 0,.int 1 0,.int 3 0,.ref 93,.bool true,.int 181 0,.ref 94,.none,.ref 95,.ref 96,.ref 97,.int 313 0,.int 68 0,.str "/claim/cut.py" 314] }),
(92,{ cls:=.type "dict",data:=.dict [hE P "newline" 302 (.bool true)].toArray 1 }),
(107,fO (topS 9) "b64encode" (.ref 100) (.none) (.str "cpy313.base64" 316) (.ref 106)),
(106,{ cls:=.type "code",data:=.fields #[.str "b64encode" 318,.str "b64encode" 319,.str "/claim/cut.py" 320,.int 91 0,.int 2 0,.int 0 0,.int 0 0,.int 3 0,.ref 101,.bool true,.int 181 0,.ref 102,.none,.ref 103,.ref 104,.ref 105,.int 324 0,.int 91 0,.str "/claim/cut.py" 325] }),
(100,{ cls:=.type "tuple",data:=.seq #[.none] 0 }),
(122,fO (inS (topS 13) 1) "_NodeInfo.__init__" (.none) (.none) (.str "cpy313.graphlib" 327) (.ref 121)),
(121,{ cls:=.type "code",data:=.fields #[.str "__init__" 351,.str "_NodeInfo.__init__" 352,.str "/claim/cut.py" 353,.int 103 0,.int 2 0,.int 0 0,.int 0 0,.int 3 0,.ref 116,.bool true,.int 181 0,.ref 117,.none,.ref 118,.ref 119,.ref 120,.int 356 0,.int 103 0,.str "/claim/cut.py" 357] }),
(159,fO (inS (topS 15) 0) "TopologicalSorter.__init__" (.ref 152) (.none) (.str "cpy313.graphlib" 327) (.ref 158)),
(158,{ cls:=.type "code",data:=.fields #[.str "__init__" 402,.str "TopologicalSorter.__init__" 403,.str "/claim/cut.py" 404,.int 111 0,.int 2 0,.int 0 0,.int 0 0,.int 3 0,.ref 153,.bool true,.int 181 0,.ref 154,.none,.ref 155,.ref 156,.ref 157,.int 409 0,.int 111 0,.str "/claim/cut.py" 410] }),
(152,{ cls:=.type "tuple",data:=.seq #[.none] 0 }),
(166,fO (inS (topS 15) 1) "TopologicalSorter._get_nodeinfo" (.none) (.none) (.str "cpy313.graphlib" 327) (.ref 165)),
(165,{ cls:=.type "code",data:=.fields #[.str "_get_nodeinfo" 412,.str "TopologicalSorter._get_nodeinfo" 413,.str "/claim/cut.py" 414,.int 120 0,.int 2 0,.int 0 0,.int 0 0,.int 3 0,.ref 160,.bool true,.int 181 0,.ref 161,.none,.ref 162,.ref 163,.ref 164,.int 418 0,.int 120 0,.str "/claim/cut.py" 419] }),
(173,fO (inS (topS 15) 2) "TopologicalSorter.add" (.none) (.none) (.str "cpy313.graphlib" 327) (.ref 172)),
(172,{ cls:=.type "code",data:=.fields #[.str "add" 421,.str "TopologicalSorter.add" 422,.str "/claim/cut.py" 423,.int 125 0,.int 2 0,.int 0 0,.int 0 0,.int 7 0,.ref 167,.bool true,.int 181 0,.ref 168,.none,.ref 169,.ref 170,.ref 171,.int 430 0,.int 125 0,.str "/claim/cut.py" 431] }),
(178,fO (inS (topS 15) 3) "TopologicalSorter.prepare" (.none) (.none) (.str "cpy313.graphlib" 327) (.ref 177)),
(177,{ cls:=.type "code",data:=.fields #[.str "prepare" 433,.str "TopologicalSorter.prepare" 434,.str "/claim/cut.py" 435,.int 134 0,.int 1 0,.int 0 0,.int 0 0,.int 3 0,.ref 174,.bool true,.int 181 0,.ref 175,.none,.none,.none,.ref 176,.int 436 0,.int 134 0,.str "/claim/cut.py" 437] }),
(185,fO (inS (topS 15) 4) "TopologicalSorter.get_ready" (.none) (.none) (.str "cpy313.graphlib" 327) (.ref 184)),
(184,{ cls:=.type "code",data:=.fields #[.str "get_ready" 439,.str "TopologicalSorter.get_ready" 440,.str "/claim/cut.py" 441,.int 142 0,.int 1 0,.int 0 0,.int 0 0,.int 3 0,.ref 179,.bool true,.int 181 0,.ref 180,.none,.ref 181,.ref 182,.ref 183,.int 446 0,.int 142 0,.str "/claim/cut.py" 447] }),
(192,fO (inS (topS 15) 5) "TopologicalSorter.is_active" (.none) (.none) (.str "cpy313.graphlib" 327) (.ref 191)),
(191,{ cls:=.type "code",data:=.fields #[.str "is_active" 449,.str "TopologicalSorter.is_active" 450,.str "/claim/cut.py" 451,.int 153 0,.int 1 0,.int 0 0,.int 0 0,.int 3 0,.ref 186,.bool true,.int 181 0,.ref 187,.none,.ref 188,.ref 189,.ref 190,.int 453 0,.int 153 0,.str "/claim/cut.py" 454] }),
(206,fO (inS (topS 15) 7) "TopologicalSorter.done" (.none) (.none) (.str "cpy313.graphlib" 327) (.ref 205)),
(205,{ cls:=.type "code",data:=.fields #[.str "done" 463,.str "TopologicalSorter.done" 464,.str "/claim/cut.py" 465,.int 161 0,.int 1 0,.int 0 0,.int 0 0,.int 7 0,.ref 200,.bool true,.int 181 0,.ref 201,.none,.ref 202,.ref 203,.ref 204,.int 474 0,.int 161 0,.str "/claim/cut.py" 475] }),
(213,fO (inS (topS 15) 8) "TopologicalSorter._find_cycle" (.none) (.none) (.str "cpy313.graphlib" 327) (.ref 212)),
(212,{ cls:=.type "code",data:=.fields #[.str "_find_cycle" 477,.str "TopologicalSorter._find_cycle" 478,.str "/claim/cut.py" 479,.int 184 0,.int 1 0,.int 0 0,.int 0 0,.int 3 0,.ref 207,.bool true,.int 181 0,.ref 208,.none,.ref 209,.ref 210,.ref 211,.int 487 0,.int 184 0,.str "/claim/cut.py" 488] }),
(232,fO (topS 17) "_law_deeds" (.none) (.none) (.str "law_il0177_01" 509) (.ref 231)),
(231,{ cls:=.type "code",data:=.fields #[.str "_law_deeds" 511,.str "_law_deeds" 512,.str "/claim/cut.py" 513,.int 216 0,.int 1 0,.int 0 0,.int 0 0,.int 3 0,.ref 228,.bool true,.int 181 0,.ref 229,.none,.none,.none,.ref 230,.int 514 0,.int 216 0,.str "/claim/cut.py" 515] }),
(239,fO (topS 18) "_law_row" (.none) (.none) (.str "law_il0177_01" 509) (.ref 238)),
(238,{ cls:=.type "code",data:=.fields #[.str "_law_row" 517,.str "_law_row" 518,.str "/claim/cut.py" 519,.int 224 0,.int 1 0,.int 0 0,.int 0 0,.int 3 0,.ref 233,.bool true,.int 181 0,.ref 234,.none,.ref 235,.ref 236,.ref 237,.int 523 0,.int 224 0,.str "/claim/cut.py" 524] }),
(246,fO (topS 19) "_law_begins" (.none) (.none) (.str "law_il0177_01" 509) (.ref 245)),
(245,{ cls:=.type "code",data:=.fields #[.str "_law_begins" 526,.str "_law_begins" 527,.str "/claim/cut.py" 528,.int 229 0,.int 2 0,.int 0 0,.int 0 0,.int 3 0,.ref 240,.bool true,.int 181 0,.ref 241,.none,.ref 242,.ref 243,.ref 244,.int 531 0,.int 229 0,.str "/claim/cut.py" 532] }),
(253,fO (topS 20) "_law_lets" (.none) (.none) (.str "law_il0177_01" 509) (.ref 252)),
(252,{ cls:=.type "code",data:=.fields #[.str "_law_lets" 534,.str "_law_lets" 535,.str "/claim/cut.py" 536,.int 231 0,.int 2 0,.int 0 0,.int 0 0,.int 3 0,.ref 247,.bool true,.int 181 0,.ref 248,.none,.ref 249,.ref 250,.ref 251,.int 544 0,.int 231 0,.str "/claim/cut.py" 545] }),
(258,fO (topS 21) "law" (.none) (.none) (.str "law_il0177_01" 509) (.ref 257)),
(257,{ cls:=.type "code",data:=.fields #[.str "law" 547,.str "law" 548,.str "/claim/cut.py" 549,.int 247 0,.int 1 0,.int 0 0,.int 0 0,.int 3 0,.ref 254,.bool true,.int 181 0,.ref 255,.none,.none,.none,.ref 256,.int 550 0,.int 247 0,.str "/claim/cut.py" 551] })]
noncomputable def addrK:List Addr:=[1,3,72,73,125,126,127,128,129,140,141,222,223,35,34,56,55,63,62,70,69,84,83,91,90,99,98,92,107,106,100,122,121,159,158,152,166,165,173,172,178,177,185,184,192,191,206,205,213,212,232,231,239,238,246,245,253,252,258,257]
noncomputable abbrev pmL:Value:=.str "law_il0177_01" 509
noncomputable abbrev pmG:Value:=.str "cpy313.graphlib" 327
noncomputable abbrev pmF:Value:=.str "cpy313.tomllib._parser" 194
noncomputable abbrev pmB:Value:=.str "binascii" 282
theorem fnK_of {P:Params} {c:Addr} {qn:Str} {st:Stmt} (pm:Value) (e:(heapK P).lookup f=some (fO st qn dV kV pm (.ref c))) (e':codeIn (heapK P) (.ref c) qn=true):FnK (heapK P) f qn st dV kV :=
 ⟨_,_,_,_,_,_,_,_,e,e'⟩
section
theorem sysK:∃ o,(heapK w.params).lookup sysModules=some o:=Option.isSome_iff_exists.mp (by kernel_rfl)
theorem flagsK:FlagsK (heapK w.params) w 73 where
 ga:=by kernel_rfl
 gk:=by kernel_rfl
 sa:=by kernel_rfl
 po:=by kernel_rfl
 hd:=by kernel_rfl
 t1:=by kernel_rfl
 t2:=by kernel_rfl
 mkI:=by kernel_rfl
 init:=⟨35,by kernel_rfl,by kernel_rfl,fnK_of (c:=34) pmF (by kernel_rfl) (by kernel_rfl)⟩
 unset:=⟨56,by kernel_rfl,by kernel_rfl,fnK_of (c:=55) pmF (by kernel_rfl) (by kernel_rfl)⟩
 set:=⟨63,by kernel_rfl,by kernel_rfl,fnK_of (c:=62) pmF (by kernel_rfl) (by kernel_rfl)⟩
 is_:=⟨70,by kernel_rfl,by kernel_rfl,fnK_of (c:=69) pmF (by kernel_rfl) (by kernel_rfl)⟩
 at_:=fun t1 t2 r p=>by kernel_rfl
 sys:=sysK
theorem nodeK:NodeK (heapK w.params) 126 where
 ga:=by kernel_rfl
 gk:=by kernel_rfl
 sa:=by kernel_rfl
 po:=by kernel_rfl
 mkI:=by kernel_rfl
 init:=⟨122,by kernel_rfl,by kernel_rfl,fnK_of (c:=121) pmG (by kernel_rfl) (by kernel_rfl)⟩
 f0:=⟨127,by kernel_rfl,by kernel_rfl,by kernel_rfl,by kernel_rfl⟩
 f1:=⟨128,by kernel_rfl,by kernel_rfl,by kernel_rfl,by kernel_rfl⟩
 f2:=⟨129,by kernel_rfl,by kernel_rfl,by kernel_rfl,by kernel_rfl⟩
theorem methK {name qn:Str} {i:Nat} {c:Addr} (a:findIn (heapK w.params) (.ref 223) name=some (some (.ref f))) (b:(heapK w.params).lookup f=some (fO (inS (topS 15) i) qn .none .none pmG (.ref c))) (d:codeIn (heapK w.params) (.ref c) qn=true) (e:keepIn (heapK w.params) (.ref f)=true)
  (g:fnIn (heapK w.params) f=true) (h:typeIn (heapK w.params) (.ref f)=some (.type "function")) (j:∀ t1 t2 t3 t4 u1 u2 u3 u4,shadowIn (some (sobj w.params t1 t2 t3 t4 u1 u2 u3 u4)) name=some false) (k:∀ t1 t2 t3 t4 u1 u2 u3 u4,findObj (heapK w.params) 223 (some (sobj w.params t1 t2 t3 t4 u1 u2 u3 u4)) name=some (.bind (.builtin "function.__get__") (.ref f))):MethK (heapK w.params) w 223 name qn i f :=
 ⟨a,h,fnK_of pmG b d,e,g,j,k⟩
theorem sortK:SortK (heapK w.params) w 223 where
 ga:=by kernel_rfl
 gk:=by kernel_rfl
 sa:=by kernel_rfl
 po:=by kernel_rfl
 hd:=by kernel_rfl
 k1:=by kernel_rfl
 k2:=by kernel_rfl
 k3:=by kernel_rfl
 k4:=by kernel_rfl
 mkI:=by kernel_rfl
 a1:=fun t1 t2 t3 t4 u1 u2 u3 u4 h=>by kernel_rfl
 a2:=fun t1 t2 t3 t4 u1 u2 u3 u4 h=>by kernel_rfl
 a3:=fun t1 t2 t3 t4 u1 u2 u3 u4 h=>by kernel_rfl
 a4:=fun t1 t2 t3 t4 u1 u2 u3 u4 h=>by kernel_rfl
 init:=⟨159,152,by kernel_rfl,by kernel_rfl,fnK_of (c:=158) pmG (by kernel_rfl) (by kernel_rfl),.type "tuple",none,#[],0,by kernel_rfl⟩
 info:=⟨166,methK (c:=165) (by kernel_rfl) (by kernel_rfl) (by kernel_rfl) (by kernel_rfl) (by kernel_rfl) (by kernel_rfl) (fun zz zz zz zz zz zz zz zz=>by kernel_rfl) fun zz zz zz zz zz zz zz zz=>by kernel_rfl⟩
 add:=⟨173,methK (c:=172) (by kernel_rfl) (by kernel_rfl) (by kernel_rfl) (by kernel_rfl) (by kernel_rfl) (by kernel_rfl) (fun zz zz zz zz zz zz zz zz=>by kernel_rfl) fun zz zz zz zz zz zz zz zz=>by kernel_rfl⟩
 prep:=⟨178,methK (c:=177) (by kernel_rfl) (by kernel_rfl) (by kernel_rfl) (by kernel_rfl) (by kernel_rfl) (by kernel_rfl) (fun zz zz zz zz zz zz zz zz=>by kernel_rfl) fun zz zz zz zz zz zz zz zz=>by kernel_rfl⟩
 ready:=⟨185,methK (c:=184) (by kernel_rfl) (by kernel_rfl) (by kernel_rfl) (by kernel_rfl) (by kernel_rfl) (by kernel_rfl) (fun zz zz zz zz zz zz zz zz=>by kernel_rfl) fun zz zz zz zz zz zz zz zz=>by kernel_rfl⟩
 active:=⟨192,methK (c:=191) (by kernel_rfl) (by kernel_rfl) (by kernel_rfl) (by kernel_rfl) (by kernel_rfl) (by kernel_rfl) (fun zz zz zz zz zz zz zz zz=>by kernel_rfl) fun zz zz zz zz zz zz zz zz=>by kernel_rfl⟩
 done:=⟨206,methK (c:=205) (by kernel_rfl) (by kernel_rfl) (by kernel_rfl) (by kernel_rfl) (by kernel_rfl) (by kernel_rfl) (fun zz zz zz zz zz zz zz zz=>by kernel_rfl) fun zz zz zz zz zz zz zz zz=>by kernel_rfl⟩
 cyc:=⟨213,methK (c:=212) (by kernel_rfl) (by kernel_rfl) (by kernel_rfl) (by kernel_rfl) (by kernel_rfl) (by kernel_rfl) (fun zz zz zz zz zz zz zz zz=>by kernel_rfl) fun zz zz zz zz zz zz zz zz=>by kernel_rfl⟩
 sys:=sysK
noncomputable def esIn (K:Frag) (a:Addr):Array DictEntry:=match K.lookup a with
 | some ⟨_,_,.dict es _,_⟩=>es
 | _=>#[]
theorem cycK (g:mg "CycleError"=some (.ref 141)):CycK (heapK w.params) mg 141 where
 gl:=g
 cls:=⟨"CycleError","CycleError",140,[.type "ValueError"],true,[],[],false,none,none,some (.ref 132),none,some (.str "CycleError" 372),some (.str "CycleError" 380),some (.bool true),nsFind (esIn (heapK w.params) 140),by kernel_rfl,fun h X=>(by
  have e:(heapK w.params).lookup 140=some { cls:=.type "dict",data:=.dict (esIn (heapK w.params) 140) 3 }:=by kernel_rfl
  refine ⟨_,_,_,X _ _ e,rfl,?_,fun zz=>rfl⟩
  have:(esIn (heapK w.params) 140).toList.all (fun e=>match e.key with|.str _ _=>true|_=>false)=true:=by kernel_rfl
  intro d m
  have:=List.all_eq_true.mp this d (by simpa using m)
  split at this
  ·exact ⟨_,_,‹_›⟩
  ·cases this),by kernel_rfl⟩
end
section
theorem lw_all (G:GK (heapK w.params) mg mb h0) (Bt:∀ x:Str,x≠"__name__"→mb x=bootBuiltins x):LwN ⟨heapK w.params,mg,mb,h0,L⟩∧LwD ⟨heapK w.params,mg,mb,h0,L⟩∧LwS ⟨heapK w.params,mg,mb,h0,L⟩ w∧LwF ⟨heapK w.params,mg,mb,h0,L⟩ w 73:=by
 have gl:∀ {n:Str} {v:Value},nsIn (heapK w.params) mainGlobals n=some (some v)→mg n=some v:=fun e=>mg_of G.k G.g e
 have gn:∀ {n:Str},nsIn (heapK w.params) mainGlobals n=some none→mg n=none:=fun e=>mg_none_of G.k G.g e
 have bl:∀ {n:Str} {v:Value},bootBuiltins n=some v→(n != ("__name__":Str))=true→mb n=some v:=fun e q=>(Bt _ (by simpa using q)).trans e
 have b1:mb "len"=some (.builtin "len"):=bl (by boot_by_name) (by decide +kernel)
 have b2:mb "tuple"=some (.type "tuple"):=bl (by boot_by_name) (by decide +kernel)
 have b3:mb "list"=some (.type "list"):=bl (by boot_by_name) (by decide +kernel)
 have b4:mb "bool"=some (.type "bool"):=bl (by boot_by_name) (by decide +kernel)
 have BN:B64Names (heapK w.params) mg mb:=⟨⟨84,fnK_of (c:=83) pmB (by kernel_rfl) (by kernel_rfl),gl (by kernel_rfl)⟩,⟨91,fnK_of (c:=90) pmB (by kernel_rfl) (by kernel_rfl),gl (by kernel_rfl)⟩,⟨300,gl (by kernel_rfl)⟩,gn (by kernel_rfl),bl (by boot_by_name) (by decide +kernel),gn (by kernel_rfl),bl (by boot_by_name) (by decide +kernel),gn (by kernel_rfl),b4⟩
 refine ⟨⟨G,⟨239,gl (by kernel_rfl),fnK_of (c:=238) pmL (by kernel_rfl) (by kernel_rfl)⟩,⟨246,gl (by kernel_rfl),fnK_of (c:=245) pmL (by kernel_rfl) (by kernel_rfl)⟩,
  ⟨107,100,gl (by kernel_rfl),fnK_of (c:=106) (.str "cpy313.base64" 316) (by kernel_rfl) (by kernel_rfl),.type "tuple",none,#[],0,by kernel_rfl⟩,⟨99,.ref 92,fnK_of (c:=98) pmB (by kernel_rfl) (by kernel_rfl),gl (by kernel_rfl)⟩,BN,gn (by kernel_rfl),b1,gn (by kernel_rfl),bl (by boot_by_name) (by decide +kernel),gn (by kernel_rfl),b2,gn (by kernel_rfl),bl (by boot_by_name) (by decide +kernel),gn (by kernel_rfl),bl (by boot_by_name) (by decide +kernel),gn (by kernel_rfl),bl (by boot_by_name) (by decide +kernel)⟩,
  ⟨⟨232,gl (by kernel_rfl),fnK_of (c:=231) pmL (by kernel_rfl) (by kernel_rfl)⟩,gn (by kernel_rfl),bl (by boot_by_name) (by decide +kernel),gn (by kernel_rfl),bl (by boot_by_name) (by decide +kernel)⟩,
  ⟨⟨253,gl (by kernel_rfl),fnK_of (c:=252) pmL (by kernel_rfl) (by kernel_rfl)⟩,⟨126,223,141,nodeK,sortK,⟨gl (by kernel_rfl),gn (by kernel_rfl),b1,⟨330,gl (by kernel_rfl)⟩,⟨333,gl (by kernel_rfl)⟩,gn (by kernel_rfl),b2,gn (by kernel_rfl),b4,gn (by kernel_rfl),bl (by boot_by_name) (by decide +kernel),gn (by kernel_rfl),bl (by boot_by_name) (by decide +kernel),gn (by kernel_rfl),bl (by boot_by_name) (by decide +kernel)⟩,cycK (gl (by kernel_rfl)),by kernel_rfl,by kernel_rfl,gl (by kernel_rfl)⟩,gn (by kernel_rfl),b3⟩,
  ⟨gl (by kernel_rfl),flagsK,by kernel_rfl,gn (by kernel_rfl),bl (by boot_by_name) (by decide +kernel),fun nm hn t1 t2 r p=>?_⟩⟩
 simp only[List.mem_cons,List.not_mem_nil,or_false] at hn
 rcases hn with rfl|rfl|rfl <;> kernel_rfl
end
noncomputable abbrev theL:OpenLaw:=PySem.Challenge.rw_il0177_01
noncomputable abbrev theQ:Program:=view PySem.Challenge.pw_il0177_01 [21]
noncomputable def theLoose:List Str:=["_wall","__name__","Flags","_buffer","_truth","_B64","b2a_base64","b64encode","_NODE_OUT","_NODE_DONE","_NodeInfo","CycleError","TopologicalSorter","_law_deeds","_law_row","_law_begins","_law_lets"]
theorem addr_ok:∀ P,addrK=(heapK P).map (·.1):=fun zz=>by kernel_rfl
noncomputable abbrev theH:Hook:=kHook heapK addrK addr_ok
theorem left:LeftO theL.row.prog theQ theLoose (fun s=>xlAt theQ [] s && recOk (RowW.records theL.row.toRowW) s) (Hook.obs theH) (Hook.val theH) 3690:=fun w=>by kernel_rfl
noncomputable abbrev theX:Shared→Bool:=fun s=>xlAt theQ [] s && recOk (RowW.records theL.row.toRowW) s
set_option tactic.hygienic true in
theorem walk (d:DefRec) (kwd:List (Str×Expr)) (hn:d.name="law"):WalkO theQ theLoose (XL theQ []) (Hook.says theH) theL.row.toRowW d kwd fun f vs=>PySem.call f vs:=by
 intro w s0a s1a mg mb G Y fa o pm cd doc dV kV ho hd hcd hD hmg hg args vals as hpre hlay hrd hwl hlo
 have KX:=kIn_of Y
 wrow_args hpre hlay hrd hwl hlo
 rename_i ns _ _ _ _ _ _ _ a _ _ _ _ _ r0 _ _ hz _
 have e:mg "law"=some (.ref 258):=mg_of KX G.T.g (by kernel_rfl)
 rw[hn,e] at hmg
 cases hmg
 obtain ⟨N,D,S,L⟩:=lw_all (w:=w) (L:=s1a.heap.objs.size) ⟨KX,G.T.g,G.T.b,G.T.nolimit⟩ G.T.builtins
 refine wpAny_mono (law_call (c:=⟨heapK w.params,mg,mb,s1a.heap,s1a.heap.objs.size⟩) (mg:=mg) (mb:=mb) (n:=0) rfl rfl (fnK_of (c:=257) pmL (by kernel_rfl) (by kernel_rfl)) N D S L ⟨rfl,by decide,by decide⟩ rfl (ns:=ns) (by omega) ⟨_,r0,fun zz zz m=>nomatch m⟩ _) (fun v s' q=>?_) fun zz zz x=>x
 obtain ⟨k,rfl⟩:=q
 obtain ⟨h',t',rfl,e'⟩:=k
 exact GoodW.toG ⟨.inl ⟨.bool true,.bool true,[],rfl,fun zz=>rfl,.bool _,by kernel_rfl,fun zz=>⟨.nil,fun zz m=>nomatch m⟩⟩,e',rfl,hg⟩
end Mine
theorem PySem.Challenge.cw_il0177_01_holds : PySem.Challenge.rw_il0177_01.Holds := by
 refine holds_law (by kernel_rfl) fun said=>?_
 refine holds_open (q:=Mine.theQ) (loose:=Mine.theLoose) (Xt:=Mine.theX) (XP:=XL Mine.theQ []) (Yf:=Hook.obs Mine.theH) (Ya:=Hook.val Mine.theH) (YP:=Hook.says Mine.theH) (N:=3690) Mine.left (Hook.of Mine.theH) (Hook.keeps Mine.theH) (fun s e=>xl_of s (Bool.and_eq_true_iff.mp e).1) XL.keeps (by rfl) (by rfl) (by rfl) (fun s e=>recFacts_of (Bool.and_eq_true_iff.mp e).2) (by rfl) said (by decide +kernel) ⟨rfl,rfl,rfl,rfl,rfl,by decide +kernel⟩ ?hw ?hc
 case hw=>w_witness2
 case hc=>exact Mine.walk _ _ rfl
