import PyProof.Rows.All
import Wide.All
import OpenK.AllK
import Wide.FinOn
import Lean
import PySem.Challenge.RW_mr0372_01
set_option Elab.async false
set_option linter.all false
set_option maxRecDepth 100000
set_option maxHeartbeats 0
set_option genSizeOf false
namespace Mine
open PySem PySem.W PySem.Calls PyProof.Rows
theorem lookup_hd {β:Type} {x:Str} {w:β} {fs:List (Str×β)}:((x,w) :: fs).lookup x=some w:=by rw [List.lookup,beq_self_eq_true]
theorem lookup_tl {β:Type} {x y:Str} {w:β} {fs:List (Str×β)} (h:y≠x):((x,w) :: fs).lookup y=fs.lookup y:=by rw [List.lookup,beq_false_of_ne h]
theorem ex9 {α β γ δ ε ζ η θ ι:Sort _} {P:α→β→γ→δ→ε→ζ→η→θ→ι→Prop} (a:α) (b:β) (c:γ) (d:δ) (e:ε) (f:ζ) (g:η) (h:θ) (i:ι) (k:P a b c d e f g h i):∃ a b c d e f g h i,P a b c d e f g h i:=⟨a,b,c,d,e,f,g,h,i,k⟩
theorem hide {p:Prop} (h:∀ G:Prop,(p→G)→G):p:=h p id
inductive SV where
 | none | bool (b:Bool) | int (i:Int) | str (s:Str) | ref (i:Nat) | g (v:Value) | tup (xs:List SV) | fl (xs:List SV)
noncomputable abbrev Am:=Nat→Option (List Addr)
noncomputable def Am.at (am:Am) (i:Nat):Option Addr:=(am i).bind List.head?
noncomputable abbrev tupObj (vs:List Value) (n:Nat):Obj:={ cls:=.type "tuple",data:=.seq vs.toArray n }
noncomputable def Le (g g':Heap):Prop:=∀ b o,g.get? b=some o→g'.get? b=some o
noncomputable def AmLe (am am':Am):Prop:=∀ i a,am.at i=some a→am'.at i=some a
theorem Le.refl (g:Heap):Le g g:=fun _ _ e=>e
theorem Le.trans {a b c:Heap} (x:Le a b) (y:Le b c):Le a c:=fun _ _ e=>y _ _ (x _ _ e)
theorem AmLe.refl (a:Am):AmLe a a:=fun _ _ e=>e
theorem AmLe.trans {a b c:Am} (x:AmLe a b) (y:AmLe b c):AmLe a c:=fun _ _ e=>y _ _ (x _ _ e)
mutual
inductive VR (g:Heap) (am:Am):SV→Value→Prop
 | none:VR g am .none .none
 | bool (b:Bool):VR g am (.bool b) (.bool b)
 | int (i:Int) (t:Tok):VR g am (.int i) (.int i t)
 | str (s:Str) (t:Tok):VR g am (.str s) (.str s t)
 | ref {i:Nat} {a:Addr} (h:am.at i=some a):VR g am (.ref i) (.ref a)
 | g (v:Value):VR g am (.g v) v
 | tup {xs:List SV} {vs:List Value} {a:Addr} (ho:IsTup g a vs.toArray) (h:VRs g am xs vs):VR g am (.tup xs) (.ref a)
 | fl {xs:List SV} {vs:List Value} {a:Addr} (ho:g.IsList a vs.toArray) (h:VRs g am xs vs):VR g am (.fl xs) (.ref a)
inductive VRs (g:Heap) (am:Am):List SV→List Value→Prop
 | nil:VRs g am [] []
 | cons {x:SV} {xs:List SV} {v:Value} {vs:List Value} (h:VR g am x v) (hs:VRs g am xs vs):VRs g am (x :: xs) (v :: vs)
end
theorem aR {d a b:Nat} (h:d<a) (e:Nat.ble a b=true):d<b:=Nat.lt_of_lt_of_le h (Nat.le_of_ble_eq_true e)
theorem aS {d a k b:Nat} (h:d<a) (e:Nat.ble (a+k) b=true):d+k<b:=Nat.lt_of_lt_of_le (Nat.add_lt_add_right h k) (Nat.le_of_ble_eq_true e)
section
variable {g:Heap} {am:Am}
theorem VR.noneE {motive:(v:Value)→VR g am .none v→Prop} (mk:motive .none .none) {v:Value} (q:VR g am .none v):motive v q:=by cases q; exact mk
theorem VR.boolE {b:Bool} {motive:(v:Value)→VR g am (.bool b) v→Prop} (mk:motive (.bool b) (.bool b)) {v:Value} (q:VR g am (.bool b) v):motive v q:=by cases q; exact mk
theorem VR.intE {i:Int} {motive:(v:Value)→VR g am (.int i) v→Prop} (mk:∀ t,motive (.int i t) (.int i t)) {v:Value} (q:VR g am (.int i) v):motive v q:=by cases q; exact mk _
theorem VR.strE {s:Str} {motive:(v:Value)→VR g am (.str s) v→Prop} (mk:∀ t,motive (.str s t) (.str s t)) {v:Value} (q:VR g am (.str s) v):motive v q:=by cases q; exact mk _
theorem VR.gE {w:Value} {motive:(v:Value)→VR g am (.g w) v→Prop} (mk:motive w (.g w)) {v:Value} (q:VR g am (.g w) v):motive v q:=by cases q; exact mk
theorem VR.tupE {xs:List SV} {motive:(v:Value)→VR g am (.tup xs) v→Prop} (mk:∀ vs a ho h,motive (.ref a) (.tup (vs:=vs) ho h)) {v:Value} (q:VR g am (.tup xs) v):motive v q:=by cases q; exact mk _ _ ‹_› ‹_›
theorem VR.flE {xs:List SV} {motive:(v:Value)→VR g am (.fl xs) v→Prop} (mk:∀ vs a ho h,motive (.ref a) (.fl (vs:=vs) ho h)) {v:Value} (q:VR g am (.fl xs) v):motive v q:=by cases q; exact mk _ _ ‹_› ‹_›
theorem VRs.nilE {motive:(vs:List Value)→VRs g am [] vs→Prop} (mk:motive [] .nil) {vs:List Value} (q:VRs g am [] vs):motive vs q:=by cases q; exact mk
theorem VRs.consE {x:SV} {xs:List SV} {motive:(vs:List Value)→VRs g am (x :: xs) vs→Prop} (mk:∀ v ws h hs,motive (v :: ws) (.cons h hs)) {vs:List Value} (q:VRs g am (x :: xs) vs):motive vs q:=by cases q; exact mk _ _ ‹_› ‹_›
end
theorem isTup_le {g g':Heap} (h:Le g g') {a:Addr} {vs:Array Value} (x:IsTup g a vs):IsTup g' a vs:=Exists.imp (fun o k=>⟨h _ _ k.1,k.2⟩) x
theorem isList_le {g g':Heap} (h:Le g g') {a:Addr} {vs:Array Value} (x:g.IsList a vs):g'.IsList a vs:=Exists.imp (fun o k=>⟨h _ _ k.1,k.2⟩) x
section
variable {g g':Heap} {am am':Am}
theorem VRs.ind {P:List SV→List Value→Prop} (nil:P [] []) (cons:∀ {x v xs vs},VR g am x v→VRs g am xs vs→P xs vs→P (x :: xs) (v :: vs)) {xs:List SV} {vs:List Value} (h:VRs g am xs vs):P xs vs :=
 VRs.rec (motive_1:=fun _ _ _=>True) (motive_2:=fun xs vs _=>P xs vs) trivial (fun _=>trivial) (fun _ _=>trivial) (fun _ _=>trivial) (fun _=>trivial) (fun _=>trivial) (fun _ _ _=>trivial) (fun _ _ _=>trivial) nil (fun h hs _ ih=>cons h hs ih) h
theorem VR.ind {P:SV→Value→Prop} {Q:List SV→List Value→Prop} (h0:P .none .none) (h1:∀ b,P (.bool b) (.bool b)) (h2:∀ i t,P (.int i) (.int i t)) (h3:∀ s t,P (.str s) (.str s t)) (h4:∀ {i a},am.at i=some a→P (.ref i) (.ref a)) (h5:∀ v,P (.g v) v)
  (h6:∀ {xs vs a},IsTup g a vs.toArray→Q xs vs→P (.tup xs) (.ref a)) (h7:∀ {xs vs a},g.IsList a vs.toArray→Q xs vs→P (.fl xs) (.ref a)) (nil:Q [] []) (cons:∀ {x v xs vs},P x v→Q xs vs→Q (x :: xs) (v :: vs)):(∀ {x v},VR g am x v→P x v)∧∀ {xs vs},VRs g am xs vs→Q xs vs :=
 ⟨fun h=>VR.rec (motive_1:=fun x v _=>P x v) (motive_2:=fun xs vs _=>Q xs vs) h0 h1 h2 h3 h4 h5 (fun ho _ ih=>h6 ho ih) (fun ho _ ih=>h7 ho ih) nil (fun _ _ ih ihs=>cons ih ihs) h,
 fun h=>VRs.rec (motive_1:=fun x v _=>P x v) (motive_2:=fun xs vs _=>Q xs vs) h0 h1 h2 h3 h4 h5 (fun ho _ ih=>h6 ho ih) (fun ho _ ih=>h7 ho ih) nil (fun _ _ ih ihs=>cons ih ihs) h⟩
theorem VR.monos (hg:Le g g') (ha:AmLe am am'):(∀ {x v},VR g am x v→VR g' am' x v)∧∀ {xs vs},VRs g am xs vs→VRs g' am' xs vs :=
 VR.ind .none .bool .int .str (fun h=>.ref (ha _ _ h)) .g (fun ho h=>.tup (isTup_le hg ho) h) (fun ho h=>.fl (isList_le hg ho) h) .nil .cons
theorem VR.mono (hg:Le g g') (ha:AmLe am am') {x:SV} {v:Value} (h:VR g am x v):VR g' am' x v:=(VR.monos hg ha).1 h
theorem VRs.mono (hg:Le g g') (ha:AmLe am am') {xs:List SV} {vs:List Value} (h:VRs g am xs vs):VRs g' am' xs vs:=(VR.monos hg ha).2 h
theorem VRs.length {xs:List SV} {vs:List Value} (h:VRs g am xs vs):xs.length=vs.length:=h.ind (P:=fun xs vs=>xs.length=vs.length) rfl fun _ _ e=>congrArg (· + 1) e
theorem VRs.append {xs ys:List SV} {vs us:List Value} (h:VRs g am xs vs) (k:VRs g am ys us):VRs g am (xs++ys) (vs++us):=h.ind (P:=fun xs vs=>VRs g am (xs++ys) (vs++us)) k fun h _ ih=>.cons h ih
theorem VRs.get {xs:List SV} {vs:List Value} (h:VRs g am xs vs) {i:Nat} {x:SV} (e:xs[i]? = some x):∃ v:Value,vs[i]? = some v∧VR g am x v:=by
 refine h.ind (P:=fun xs vs=>∀ i:Nat,xs[i]? = some x→∃ v:Value,vs[i]? = some v∧VR g am x v) (fun i e=>nomatch e) (fun h _ ih i e=>?_) i e
 cases i with
 | zero=>cases e; exact ⟨_,rfl,h⟩
 | succ i=>exact ih i e
theorem VRs.drop {xs:List SV} {vs:List Value} (h:VRs g am xs vs):∀ n:Nat,VRs g am (xs.drop n) (vs.drop n) :=
 h.ind (P:=fun xs vs=>∀ n:Nat,VRs g am (xs.drop n) (vs.drop n)) (fun n=>by rw [List.drop_nil,List.drop_nil]; exact .nil) fun h hs ih n=>by
  cases n with
  | zero=>exact .cons h hs
  | succ n=>exact ih n
theorem VRs.take {xs:List SV} {vs:List Value} (h:VRs g am xs vs):∀ n:Nat,VRs g am (xs.take n) (vs.take n) :=
 h.ind (P:=fun xs vs=>∀ n:Nat,VRs g am (xs.take n) (vs.take n)) (fun n=>by rw [List.take_nil,List.take_nil]; exact .nil) fun h hs ih n=>by
  cases n with
  | zero=>exact .nil
  | succ n=>exact .cons h (ih n)
end
inductive FR (g:Heap) (am:Am):List (Str×SV)→List DictEntry→Prop
 | nil:FR g am [] []
 | cons {x:Str} {sv:SV} {fs:List (Str×SV)} {hsh:Int} {t:Tok} {v:Value} {es:List DictEntry} (h:VR g am sv v) (hs:FR g am fs es):FR g am ((x,sv) :: fs) (⟨hsh,.str x t,v⟩ :: es)
section
variable {g g':Heap} {am am':Am} {fs:List (Str×SV)} {es:List DictEntry}
theorem FR.ind {P:List (Str×SV)→List DictEntry→Prop} (nil:P [] []) (cons:∀ {x sv fs hsh t v es},VR g am sv v→FR g am fs es→P fs es→P ((x,sv) :: fs) (⟨hsh,.str x t,v⟩ :: es)) (h:FR g am fs es):P fs es :=
 FR.rec (motive:=fun fs es _=>P fs es) nil (fun h hs ih=>cons h hs ih) h
theorem FR.mono (hg:Le g g') (ha:AmLe am am') (h:FR g am fs es):FR g' am' fs es:=h.ind (P:=FR g' am') .nil fun h _ ih=>.cons (h.mono hg ha) ih
theorem FR.length (h:FR g am fs es):fs.length=es.length:=h.ind (P:=fun fs es=>fs.length=es.length) rfl fun _ _ e=>congrArg (· + 1) e
end
inductive SO where
 | list (xs:List SV)
 | inst (C:Addr) (fs:List (Str×SV))
 | linst (C:Addr) (xs:List SV) (fs:List (Str×SV))
 | tbl (rows:List (Str×Int))
 | obj (a:Addr) (o:Obj)
 | cell (a:Addr) (x:SV)
 | deq (xs:List SV)
noncomputable abbrev deqObj (vs:List Value) (k:Int):Obj:={ cls:=.type "collections.deque",data:=.fields (#[.none,rawInt k]++vs.toArray) }
noncomputable abbrev linstObj (C d:Addr) (vs:List Value) (k:Nat):Obj:={ cls:=.ref C,dict:=some d,data:=.seq vs.toArray k }
inductive TblR (h:Heap):List (Str×Int)→List Addr→Prop
 | nil:TblR h [] []
 | cons {x:Str} {n:Int} {rs:List (Str×Int)} {b:Addr} {bs:List Addr} {t u:Tok} (ho:h.PlainList b #[.str x t,.int n u]) (hs:TblR h rs bs):TblR h ((x,n) :: rs) (b :: bs)
inductive LayL (g h:Heap) (am:Am) (xs:List SV) (as:List Addr):Prop
 | mk (a:Addr) (vs:List Value) (e:as=[a]) (p:h.PlainList a vs.toArray) (r:VRs g am xs vs)
inductive LayI (g h:Heap) (am:Am) (C:Addr) (fs:List (Str×SV)) (as:List Addr):Prop
 | mk (a d:Addr) (es:List DictEntry) (n:Nat) (e:as=[a,d]) (p:h.get? a=some (instObj C d)) (q:h.get? d=some (dictOf es n)) (r:FR g am fs es)
inductive LayK (g h:Heap) (am:Am) (C:Addr) (xs:List SV) (fs:List (Str×SV)) (as:List Addr):Prop
 | mk (a d:Addr) (vs:List Value) (k:Nat) (es:List DictEntry) (n:Nat) (e:as=[a,d]) (p:h.get? a=some (linstObj C d vs k)) (q:h.get? d=some (dictOf es n)) (r:FR g am fs es) (s:VRs g am xs vs)
inductive LayT (h:Heap) (rows:List (Str×Int)) (as:List Addr):Prop
 | mk (a:Addr) (bs:List Addr) (e:as=a :: bs) (p:h.PlainList a (bs.map Value.ref).toArray) (r:TblR h rows bs)
inductive LayC (g h:Heap) (am:Am) (a:Addr) (x:SV) (as:List Addr):Prop
 | mk (o:Obj) (v:Value) (e:as=[a]) (p:h.get? a=some o) (q:o.data = .cell (some v)) (r:VR g am x v)
inductive LayD (g h:Heap) (am:Am) (xs:List SV) (as:List Addr):Prop
 | mk (a:Addr) (vs:List Value) (k:Int) (e:as=[a]) (p:h.get? a=some (deqObj vs k)) (r:VRs g am xs vs)
noncomputable def Lay (g h:Heap) (am:Am):SO→List Addr→Prop
 | .list xs,as=>LayL g h am xs as
 | .inst C fs,as=>LayI g h am C fs as
 | .linst C xs fs,as=>LayK g h am C xs fs as
 | .tbl rows,as=>LayT h rows as
 | .obj a o,as=>as=[a]∧h.get? a=some o
 | .cell a x,as=>LayC g h am a x as
 | .deq xs,as=>LayD g h am xs as
theorem TblR.ind {h:Heap} {P:List (Str×Int)→List Addr→Prop} (nil:P [] []) (cons:∀ {x n rs b bs t u},h.PlainList b #[.str x t,.int n u]→P rs bs→P ((x,n) :: rs) (b :: bs)) {rs:List (Str×Int)} {bs:List Addr} (k:TblR h rs bs):P rs bs :=
 TblR.rec (motive:=fun rs bs _=>P rs bs) nil (fun ho _ ih=>cons ho ih) k
theorem plain_keep {h h':Heap} {a:Addr} {vs:Array Value} (p:h.PlainList a vs) (k:h'.get? a=h.get? a):h'.PlainList a vs:=by
 obtain ⟨o,e⟩:=p
 exact ⟨o,k.trans e⟩
theorem plain_there {h:Heap} {a:Addr} {vs:Array Value} (p:h.PlainList a vs):∃ o,h.get? a=some o:=by
 obtain ⟨o,e⟩:=p
 exact ⟨_,e⟩
theorem TblR.keep {h h':Heap} {rs:List (Str×Int)} {bs:List Addr} (x:TblR h rs bs):(∀ b∈bs,h'.get? b=h.get? b)→TblR h' rs bs :=
 x.ind (P:=fun rs bs=>(∀ b∈bs,h'.get? b=h.get? b)→TblR h' rs bs) (fun _=>.nil) fun ho ih k=>.cons (plain_keep ho (k _ (.head _))) (ih fun b hb=>k b (.tail _ hb))
theorem Lay.keep {g g' h h':Heap} {am am':Am} {so:SO} {as:List Addr} (hg:Le g g') (ha:AmLe am am') (k:∀ b∈as,h'.get? b=h.get? b) (x:Lay g h am so as):Lay g' h' am' so as:=by
 have k1:∀ {a r o},as=a :: r→h.get? a=some o→h'.get? a=some o:=fun e e'=>(k _ (e▸.head _)).trans e'
 have k2:∀ {a d r o},as=a :: d :: r→h.get? d=some o→h'.get? d=some o:=fun e e'=>(k _ (e▸.tail _ (.head _))).trans e'
 cases so with
 | list xs=>exact x.rec fun a vs e p r=>⟨a,vs,e,p.rec fun o p=>⟨o,k1 e p⟩,r.mono hg ha⟩
 | inst C fs=>exact x.rec fun a d es n e p q r=>⟨a,d,es,n,e,k1 e p,k2 e q,r.mono hg ha⟩
 | linst C xs fs=>exact x.rec fun a d vs m es n e p q r s=>⟨a,d,vs,m,es,n,e,k1 e p,k2 e q,r.mono hg ha,s.mono hg ha⟩
 | tbl rows=>exact x.rec fun a bs e p r=>⟨a,bs,e,p.rec fun o p=>⟨o,k1 e p⟩,r.keep fun b hb=>k b (e▸.tail _ hb)⟩
 | obj a o=>exact ⟨x.1,k1 x.1 x.2⟩
 | cell a y=>exact x.rec fun o v e p q r=>⟨o,v,e,k1 e p,q,r.mono hg ha⟩
 | deq xs=>exact x.rec fun a vs n e p r=>⟨a,vs,n,e,k1 e p,r.mono hg ha⟩
theorem TblR.there {h:Heap} {rs:List (Str×Int)} {bs:List Addr} (x:TblR h rs bs):∀ b∈bs,∃ o,h.get? b=some o :=
 x.ind (P:=fun _ bs=>∀ b∈bs,∃ o,h.get? b=some o) (fun b hb=>nomatch hb) fun ho ih=>List.forall_mem_cons.mpr ⟨plain_there ho,ih⟩
theorem there1 {h:Heap} {a:Addr} {o:Obj} {as:List Addr} (e:as=[a]) (p:h.get? a=some o):∀ b∈as,∃ o,h.get? b=some o:=e▸List.forall_mem_singleton.mpr ⟨o,p⟩
theorem there2 {h:Heap} {a d:Addr} {o o':Obj} {as:List Addr} (e:as=[a,d]) (p:h.get? a=some o) (q:h.get? d=some o'):∀ b∈as,∃ o,h.get? b=some o:=e▸List.forall_mem_cons.mpr ⟨⟨o,p⟩,List.forall_mem_singleton.mpr ⟨o',q⟩⟩
theorem Lay.there {g h:Heap} {am:Am} {so:SO} {as:List Addr} (x:Lay g h am so as):∀ b∈as,∃ o,h.get? b=some o:=by
 cases so with
 | list xs=>exact x.rec fun a vs e p r=>p.rec fun o p=>there1 e p
 | inst C fs=>exact x.rec fun a d es n e p q r=>there2 e p q
 | linst C xs fs=>exact x.rec fun a d vs m es n e p q r s=>there2 e p q
 | tbl rows=>exact x.rec fun a bs e p r=>e▸List.forall_mem_cons.mpr ⟨plain_there p,r.there⟩
 | obj a o=>exact there1 x.1 x.2
 | cell a y=>exact x.rec fun o v e p q r=>there1 e p
 | deq xs=>exact x.rec fun a vs n e p r=>there1 e p
theorem Lay.ne_nil {g h:Heap} {am:Am} {so:SO} {as:List Addr} (x:Lay g h am so as):∃ a r,as=a :: r:=by
 cases so with
 | list xs=>exact x.rec fun a vs e p r=>⟨_,_,e⟩
 | inst C fs=>exact x.rec fun a d es n e p q r=>⟨_,_,e⟩
 | linst C xs fs=>exact x.rec fun a d vs m es n e p q r s=>⟨_,_,e⟩
 | tbl rows=>exact x.rec fun a bs e p r=>⟨_,_,e⟩
 | obj a o=>exact ⟨_,_,x.1⟩
 | cell a y=>exact x.rec fun o v e p q r=>⟨_,_,e⟩
 | deq xs=>exact x.rec fun a vs n e p r=>⟨_,_,e⟩
structure Cx where
 loc:List (Str×SV)
 obj:List (Nat×SO)
 nx:Nat
 fr:List Nat
structure Fx where
 fh:Heap
 g0:Heap
 N:Nat
noncomputable def owned (am:Am) (obj:List (Nat×SO)):List Addr:=obj.flatMap fun p=>(am p.1).getD []
structure Cst where
 w:World
 os:OsState
 K:Frag
noncomputable abbrev Cst.M (c:Cst):Model:=model PySem.Challenge.pw_mr0372_01 c.w
structure Top (c:Cst) (g:Heap):Prop where
 X:c.K.In g
 lim:g.NoLimit
 gl:∃ mg,g.Ns mainGlobals mg
 bl:∃ mb,g.Ns builtinsNs mb∧∀ x:Str,x≠"__name__"→mb x=bootBuiltins x
theorem Top.mono {c:Cst} {g g':Heap} (x:Top c g) (h:Le g g'):Top c g':=⟨x.X.keeps h,x.lim.keeps h,x.gl.imp fun _ a=>a.keeps h,x.bl.imp fun _ a=>⟨a.1.keeps h,a.2⟩⟩
structure Rep (c:Cst) (fx:Fx) (g:Heap) (am:Am) (L:Addr) (cx:Cx) (s:Shared):Prop where
 sub:Le g s.heap
 top:Top c g
 fr:∃ m,s.heap.Ns L m∧∀ x sv,cx.loc.lookup x=some sv→∃ v,m x=some v∧VR g am sv v
 lay:∀ p∈cx.obj,∃ as,am p.1=some as∧Lay g s.heap am p.2 as
 nd:(L :: owned am cx.obj).Nodup
 idnd:(cx.obj.map (·.1)).Nodup
 out:∀ b∈L :: owned am cx.obj,g.get? b=none
 lo:100≤cx.nx
 nx:∀ i,cx.nx≤i→am i=none
 free:∀ i∈cx.fr,i<100∧am i=none
 frm:Le fx.fh s.heap
 frout:∀ b∈L :: owned am cx.obj,fx.fh.get? b=none
 new:∀ b o,g.get? b=some o→fx.g0.get? b=some o∨fx.N≤b
 hiN:∀ i as,100≤i→am i=some as→∀ a∈as,fx.N≤a
 szN:fx.N≤s.heap.objs.size
 gens:AllBare s.gens
 os:s.os=c.os
 frg:∀ b,(fx.fh.get? b).isSome=true→∀ o,g.get? b=some o→fx.g0.get? b=some o
 NL:fx.N≤L
theorem mem_owned {am:Am} {obj:List (Nat×SO)} {b:Addr}:b∈owned am obj↔∃ p∈obj,∃ as,am p.1=some as∧b∈as:=by
 unfold owned
 rw [List.mem_flatMap]
 constructor
 ·rintro ⟨p,hp,hb⟩
  cases e:am p.1 with
  | none=>rw [e] at hb; cases hb
  | some as=>rw [e] at hb; exact ⟨p,hp,as,e,hb⟩
 ·rintro ⟨p,hp,as,e,hb⟩
  exact ⟨p,hp,by rw [e]; exact hb⟩
theorem Rep.owned_there {c:Cst} {fx:Fx} {g:Heap} {am:Am} {L:Addr} {cx:Cx} {s:Shared} (R:Rep c fx g am L cx s):∀ b∈L :: owned am cx.obj,∃ o,s.heap.get? b=some o:=by
 intro b hb
 cases hb with
 | head=>obtain ⟨m,⟨o,_,_,e,_⟩,_⟩:=R.fr; exact ⟨o,e⟩
 | tail _ hb =>
  refine hide fun Go jo=>?_
  obtain ⟨p,hp,as,e,hb⟩:=mem_owned.mp hb
  obtain ⟨as',e',l⟩:=R.lay p hp
  refine jo ?_
  rw [e] at e'; cases e'
  exact l.there b hb
theorem Rep.owned_lt {c:Cst} {fx:Fx} {g:Heap} {am:Am} {L:Addr} {cx:Cx} {s:Shared} (R:Rep c fx g am L cx s):∀ b∈L :: owned am cx.obj,b<s.heap.objs.size:=fun b hb=>by
 obtain ⟨o,e⟩:=R.owned_there b hb
 exact Heap.lt_size e
noncomputable def only (h:Heap) (p:Nat→Bool):Heap:=hideAll h ((List.range h.objs.size).filter fun b=>!p b)
theorem only_yes {h:Heap} {p:Nat→Bool} {b:Addr} {o:Obj} (e:h.get? b=some o) (hp:p b=true):(only h p).get? b=some o :=
 hideAll_get _ e fun hb=>by have:=(List.mem_filter.mp hb).2; rw [hp] at this; cases this
theorem only_no {h:Heap} {p:Nat→Bool} {b:Addr} (hp:p b=false):(only h p).get? b=none:=by
 cases e:(only h p).get? b with
 | none=>rfl
 | some o =>
  have lt:=Heap.lt_size (of_hideAll _ e)
  have:(only h p).get? b=none:=hideAll_none _ (List.mem_filter.mpr ⟨List.mem_range.mpr lt,by rw [hp]; rfl⟩)
  rw [this] at e; cases e
theorem of_only {h:Heap} {p:Nat→Bool} {b:Addr} {o:Obj} (e:(only h p).get? b=some o):h.get? b=some o∧p b=true:=by
 refine ⟨of_hideAll _ e,?_⟩
 cases q:p b with
 | true=>rfl
 | false=>rw [only_no q] at e; cases e

noncomputable abbrev Ar (d u:Nat):Around:={ handled:=none,depth:=d,frames:=none,guards:=none,units:=u }
noncomputable abbrev No:Value→Shared→Prop:=fun _ _=>False
section
variable {α:Type} {M:Model} {A:Around} {b:Bool} {x y:Sem α} {Q:α→Shared→Prop} {E:Value→Shared→Prop} {s:Shared}
theorem wp_neg {c:Prop} [Decidable c] (hc:¬ c) (h:wpAny M A y Q E s):wpAny M A (if c then x else y) Q E s:=by rw [if_neg hc]; exact h
theorem wp_pos {c:Prop} [Decidable c] (hc:c) (h:wpAny M A x Q E s):wpAny M A (if c then x else y) Q E s:=by rw [if_pos hc]; exact h
theorem wp_f (hb:b=false) (h:wpAny M A y Q E s):wpAny M A (if b=true then x else y) Q E s:=by subst hb; exact h
end
inductive Ends {α β:Type} (c:Cst) (fx:Fx) (g:Heap) (am:Am) (L:Addr) (R:Heap→Am→β→α→Prop) (K:β→Cx→Prop) (v:α) (s':Shared):Prop
 | mk (g':Heap) (am':Am) (cx':Cx) (x:β) (l:Le g g') (a:AmLe am am') (r:Rep c fx g' am' L cx' s') (q:R g' am' x v) (k:K x cx')
section
variable {α β:Type} {c:Cst} {fx:Fx} {g g1:Heap} {am am1:Am} {L:Addr} {R:Heap→Am→β→α→Prop} {K K':β→Cx→Prop} {v:α} {s':Shared}
theorem Ends.up (l:Le g g1) (a:AmLe am am1) (x:Ends c fx g1 am1 L R K v s'):Ends c fx g am L R K v s':=by
 refine hide fun Go jo=>?_
 obtain ⟨g',am',cx',y,l',a',r,q,k⟩:=x
 refine jo ?_
 exact ⟨g',am',cx',y,l.trans l',a.trans a',r,q,k⟩
theorem Ends.mono (h:∀ x cx,K x cx→K' x cx) (x:Ends c fx g am L R K v s'):Ends c fx g am L R K' v s':=by
 refine hide fun Go jo=>?_
 obtain ⟨g',am',cx',y,l',a',r,q,k⟩:=x
 refine jo ?_
 exact ⟨g',am',cx',y,l',a',r,q,h _ _ k⟩
theorem Ends.here {cx:Cx} {x:β} (r:Rep c fx g am L cx s') (q:R g am x v) (k:K x cx):Ends c fx g am L R K v s':=⟨g,am,cx,x,.refl _,.refl _,r,q,k⟩
end
noncomputable def Sp {α β:Type} (c:Cst) (d u:Nat) (t:Addr→Sem α) (R:Heap→Am→β→α→Prop) (cx:Cx) (K:β→Cx→Prop):Prop :=
 ∀ fx g am L s,Rep c fx g am L cx s→wpAny c.M (Ar d u) (t L) (Ends c fx g am L R K) No s
noncomputable def Sp1 {α β:Type} (c:Cst) (d u:Nat) (t:Value→Sem α) (R:Heap→Am→β→α→Prop) (x:SV) (cx:Cx) (K:β→Cx→Prop):Prop :=
 ∀ fx g am L s v,Rep c fx g am L cx s→VR g am x v→wpAny c.M (Ar d u) (t v) (Ends c fx g am L R K) No s
noncomputable def Sp2 {α β:Type} (c:Cst) (d u:Nat) (t:Value→Value→Sem α) (R:Heap→Am→β→α→Prop) (x y:SV) (cx:Cx) (K:β→Cx→Prop):Prop :=
 ∀ fx g am L s v v',Rep c fx g am L cx s→VR g am x v→VR g am y v'→wpAny c.M (Ar d u) (t v v') (Ends c fx g am L R K) No s
noncomputable def SpN {α β:Type} (c:Cst) (d u:Nat) (t:List Value→Sem α) (R:Heap→Am→β→α→Prop) (xs:List SV) (cx:Cx) (K:β→Cx→Prop):Prop :=
 ∀ fx g am L s vs,Rep c fx g am L cx s→VRs g am xs vs→wpAny c.M (Ar d u) (t vs) (Ends c fx g am L R K) No s
noncomputable abbrev SpC (c:Cst) (d u:Nat) (f:Value) (xs:List SV) (cx:Cx) (K:SV→Cx→Prop):Prop:=SpN c d u (fun vs=>call f vs) VR xs cx K
inductive Fl where
 | next | brk | cont | ret (v:SV)
inductive FlR (g:Heap) (am:Am):Fl→Flow→Prop
 | next:FlR g am .next .next
 | brk:FlR g am .brk .brk
 | cont:FlR g am .cont .cont
 | ret {x:SV} {v:Value} (h:VR g am x v):FlR g am (.ret x) (.ret v)
noncomputable def BR (_:Heap) (_:Am) (x v:Bool):Prop:=x=v
noncomputable def UR (_:Heap) (_:Am) (_ _:Unit):Prop:=True
section
variable {α β α' β':Type} {c:Cst} {d u:Nat} {fx:Fx} {g:Heap} {am:Am} {L:Addr} {s:Shared} {cx:Cx} {R:Heap→Am→β→α→Prop} {K:β→Cx→Prop}
theorem step {t:Sem α} {Q:α→Shared→Prop} {E:Value→Shared→Prop} {A:Around} (h:wpAny c.M A t (Ends c fx g am L R K) No s)
  (k:∀ v s1 g1 am1 cx1 x,Le g g1→AmLe am am1→Rep c fx g1 am1 L cx1 s1→R g1 am1 x v→K x cx1→Q v s1):wpAny c.M A t Q E s :=
 wpAny_mono h (fun v s1 e=>e.rec fun g1 am1 cx1 x l a r q kk=>k v s1 g1 am1 cx1 x l a r q kk) fun _ _ x=>x.elim
theorem wup {t:Sem α} {g1:Heap} {am1:Am} {A:Around} (l:Le g g1) (a:AmLe am am1) (h:wpAny c.M A t (Ends c fx g1 am1 L R K) No s):wpAny c.M A t (Ends c fx g am L R K) No s :=
 wpAny_mono h (fun _ _ e=>e.up l a) fun _ _ x=>x
theorem Sp.mono {t:Addr→Sem α} {K':β→Cx→Prop} (h:Sp c d u t R cx K) (k:∀ x cx,K x cx→K' x cx):Sp c d u t R cx K' :=
 fun fx g am L s r=>wpAny_mono (h fx g am L s r) (fun _ _ e=>e.mono k) fun _ _ x=>x
theorem SpN.mono {t:List Value→Sem α} {xs:List SV} {K':β→Cx→Prop} (h:SpN c d u t R xs cx K) (k:∀ x cx,K x cx→K' x cx):SpN c d u t R xs cx K' :=
 fun fx g am L s vs r v=>wpAny_mono (h fx g am L s vs r v) (fun _ _ e=>e.mono k) fun _ _ x=>x
theorem ar_le {t:Sem α} {Q:α→Shared→Prop} {E:Value→Shared→Prop} {A:Around} (h:wpAny c.M (Ar d u) t Q E s) (hh:A.handled=none) (hd:A.depth≤d) (hu:A.units≤u):wpAny c.M A t Q E s :=
 fun Γ p hΓ=>h Γ p ⟨hΓ.1.trans hh,Nat.le_trans hΓ.2.1 hd,fun _ e=>(nomatch e),fun _ e=>(nomatch e),Nat.le_trans hΓ.2.2.2.2 hu⟩
end
structure En where
 qual:Str
 scope:Scope
 f:Option Addr
 cd:Value
 cells:Addr→List (Str×Addr)
 fr:Addr→Option Addr
noncomputable abbrev En.env (e:En) (L:Addr):Env:={ scope:=e.scope,locals:=L,globals:=mainGlobals,cells:=e.cells L,qual:=e.qual,func:=e.f,code:=e.cd,frame:=e.fr L,builtins:=builtinsNs }
noncomputable abbrev En.fn (qual:Str) (scope:Scope) (f:Addr) (cd:Value) (cells:Addr→List (Str×Addr)):En:=⟨qual ++ ".<locals>.",scope,some f,cd,cells,fun L=>some L⟩
section
variable {c:Cst} {d u:Nat} {e:En} {cx:Cx} {pos:Pos}
theorem Rep.toks {fx:Fx} {g:Heap} {am:Am} {L:Addr} {s:Shared} {t:Nat} (r:Rep c fx g am L cx s):Rep c fx g am L cx { s with toks:=t }:=⟨r.sub,r.top,r.fr,r.lay,r.nd,r.idnd,r.out,r.lo,r.nx,r.free,r.frm,r.frout,r.new,r.hiN,r.szN,r.gens,r.os,r.frg,r.NL⟩
theorem sp_int {i:Int} {k:Nat} {K:SV→Cx→Prop} (h:K (.int i) cx):Sp c d u (fun L=>eval (.Constant (.int i) k pos) (e.env L)) VR cx K :=
 fun _ _ _ _ s r=>wpAny_Constant_int (Ends.here (s':={ s with toks:=s.toks+1 }) r.toks (.int i _) h)
theorem sp_name {x:Str} {sv:SV} {K:SV→Cx→Prop} (hv:cx.loc.lookup x=some sv) (h:K sv cx) (hk:e.scope.kind = .function:=by rfl) (hl:e.scope.names.lookup x=some .local:=by rfl)
  (hd:(x==("__debug__":Str))=false:=by decide):Sp c d u (fun L=>eval (.Name x pos) (e.env L)) VR cx K:=fun _ g am L s r=>by
 refine hide fun Go jo=>?_
 obtain ⟨m,hm,hl'⟩:=r.fr
 obtain ⟨v,hv',q⟩:=hl' x sv hv
 refine jo ?_
 exact wpAny_Name (wpAny_loadName_local hk hl hm hv' (Ends.here r q h)) hd
theorem sp_glob {x:Str} {v:Value} {K:SV→Cx→Prop} (hv:nsIn c.K mainGlobals x=some (some v)) (h:K (.g v) cx) (hk:e.scope.kind = .function:=by rfl) (hl:e.scope.names.lookup x=some .globalImplicit:=by rfl)
  (hd:(x==("__debug__":Str))=false:=by decide):Sp c d u (fun L=>eval (.Name x pos) (e.env L)) VR cx K:=fun _ g am L s r=>by
 obtain ⟨mg,hg⟩:=r.top.gl
 exact Name_function_global hk hl (loadGlobal_global (env:=e.env L) (hg.keeps r.sub) (mg_of r.top.X hg hv) (Ends.here r (.g v) h)) hd
theorem sp_bltn {x:Str} {v:Value} {K:SV→Cx→Prop} (hn:nsIn c.K mainGlobals x=some none) (hv:bootBuiltins x=some v) (h:K (.g v) cx) (hx:x≠"__name__":=by decide) (hk:e.scope.kind = .function:=by rfl) (hl:e.scope.names.lookup x=some .globalImplicit:=by rfl)
  (hd:(x==("__debug__":Str))=false:=by decide):Sp c d u (fun L=>eval (.Name x pos) (e.env L)) VR cx K:=fun _ g am L s r=>by
 refine hide fun Go jo=>?_
 obtain ⟨mg,hg⟩:=r.top.gl
 obtain ⟨mb,hb,hb'⟩:=r.top.bl
 refine jo ?_
 exact Name_function_global hk hl (loadGlobal_builtin (env:=e.env L) (hg.keeps r.sub) (mg_none_of r.top.X hg hn) (hb.keeps r.sub) ((hb' x hx).trans hv) (Ends.here r (.g v) h)) hd
theorem sp_bin {l r:Expr} {op:Operator} {K:SV→Cx→Prop}
  (h:Sp c d u (fun L=>eval l (e.env L)) VR cx fun x cx1=>Sp c d u (fun L=>eval r (e.env L)) VR cx1 fun y cx2=>Sp2 c d u (fun a b=>binaryOp op a b) VR x y cx2 K) :
  Sp c d u (fun L=>eval (.BinOp l op r pos) (e.env L)) VR cx K:=fun fx g am L s R =>
 wpAny_BinOp (step (h fx g am L s R) fun a _ g1 am1 _ _ l1 a1 r1 q1 k1=>step (k1 fx g1 am1 L _ r1) fun b _ g2 am2 _ _ l2 a2 r2 q2 k2 =>
  wup (l1.trans l2) (a1.trans a2) (k2 fx g2 am2 L _ a b r2 (q1.mono l2 a2) q2))
theorem sp_cmp {l r:Expr} {op:CmpOp} {K:SV→Cx→Prop}
  (h:Sp c d u (fun L=>eval l (e.env L)) VR cx fun x cx1=>Sp c d u (fun L=>eval r (e.env L)) VR cx1 fun y cx2=>Sp2 c d u (fun a b=>compareOp op a b) VR x y cx2 K)
  (hm:behindInMarks op r=false:=by with_unfolding_all rfl) :
  Sp c d u (fun L=>eval (.Compare l [op] [r] pos) (e.env L)) VR cx K:=fun fx g am L s R =>
 wpAny_Compare1 (step (h fx g am L s R) fun a _ g1 am1 _ _ l1 a1 r1 q1 k1=>step (k1 fx g1 am1 L _ r1) fun b _ g2 am2 _ _ l2 a2 r2 q2 k2 =>
  wup (l1.trans l2) (a1.trans a2) (k2 fx g2 am2 L _ a b r2 (q1.mono l2 a2) q2)) hm
theorem sp_un {x:Expr} {op:UnaryOp} {K:SV→Cx→Prop} (h:Sp c d u (fun L=>eval x (e.env L)) VR cx fun x cx1=>Sp1 c d u (fun a=>unaryOp op a) VR x cx1 K) :
  Sp c d u (fun L=>eval (.UnaryOp op x pos) (e.env L)) VR cx K:=fun fx g am L s R =>
 wpAny_UnaryOp (step (h fx g am L s R) fun a _ g1 am1 _ _ l1 a1 r1 q1 k1=>wup l1 a1 (k1 fx g1 am1 L _ a r1 q1))
noncomputable abbrev SpT (c:Cst) (d u:Nat) (e:En) (t:Expr) (cx:Cx) (K:Bool→Cx→Prop):Prop:=Sp c d u (fun L=>isTrue t (e.env L) (eval t (e.env L))) BR cx K
theorem sp_ifexp {t a b:Expr} {K:SV→Cx→Prop} (h:SpT c d u e t cx fun x cx1=>if x then Sp c d u (fun L=>eval a (e.env L)) VR cx1 K else Sp c d u (fun L=>eval b (e.env L)) VR cx1 K) :
  Sp c d u (fun L=>eval (.IfExp t a b pos) (e.env L)) VR cx K:=fun fx g am L s R =>
 PySem.wpAny_IfExp (step (h fx g am L s R) fun v _ g1 am1 _ x l1 a1 r1 q1 k1=>by
  cases q1
  cases v with
  | true=>exact wup l1 a1 ((if_pos rfl▸k1:Sp _ _ _ _ _ _ _) fx g1 am1 L _ r1)
  | false=>exact wup l1 a1 ((if_neg Bool.false_ne_true▸k1:Sp _ _ _ _ _ _ _) fx g1 am1 L _ r1))
end
section
variable {c:Cst} {fx:Fx} {g:Heap} {am:Am} {L:Addr} {cx:Cx} {s:Shared}
theorem Rep.heap (r:Rep c fx g am L cx s) {h':Heap} {t:Nat} (sub:Le g h') (frm:Le fx.fh h') (sz:s.heap.objs.size≤h'.objs.size) (own:∀ b∈L :: owned am cx.obj,h'.get? b=s.heap.get? b):Rep c fx g am L cx { s with heap:=h',toks:=t }:=by
 refine ⟨sub,r.top,?_,?_,r.nd,r.idnd,r.out,r.lo,r.nx,r.free,frm,r.frout,r.new,r.hiN,Nat.le_trans r.szN sz,r.gens,r.os,r.frg,r.NL⟩
 ·refine hide fun Go jo=>?_
  obtain ⟨m,⟨o,es,ep,ho,rest⟩,b⟩:=r.fr
  refine jo ?_
  exact ⟨m,⟨o,es,ep,(own L (.head _)).trans ho,rest⟩,b⟩
 ·intro p hp
  obtain ⟨as,a,b⟩:=r.lay p hp
  exact ⟨as,a,b.keep (.refl _) (.refl _) fun b hb=>own b (.tail _ (mem_owned.mpr ⟨p,hp,as,a,hb⟩))⟩
theorem Rep.heap' (r:Rep c fx g am L cx s) {h':Heap} {t:Nat} (sub:Le g h') (frm:Le fx.fh h') (own:∀ b∈L :: owned am cx.obj,h'.get? b=s.heap.get? b):Rep c fx g am L cx { s with heap:=h',toks:=t }:=by
 have hL:fx.N≤h'.objs.size:=by
  obtain ⟨o,e⟩:=r.owned_there L (.head _)
  exact Nat.le_trans r.NL (Nat.le_of_lt (Heap.lt_size ((own L (.head _)).trans e)))
 refine ⟨sub,r.top,?_,?_,r.nd,r.idnd,r.out,r.lo,r.nx,r.free,frm,r.frout,r.new,r.hiN,hL,r.gens,r.os,r.frg,r.NL⟩
 ·refine hide fun Go jo=>?_
  obtain ⟨m,⟨o,es,ep,ho,rest⟩,b⟩:=r.fr
  refine jo ?_
  exact ⟨m,⟨o,es,ep,(own L (.head _)).trans ho,rest⟩,b⟩
 ·intro p hp
  obtain ⟨as,a,b⟩:=r.lay p hp
  exact ⟨as,a,b.keep (.refl _) (.refl _) fun x hx=>own x (.tail _ (mem_owned.mpr ⟨p,hp,as,a,hx⟩))⟩
theorem push_le (h:Heap) (o:Obj):Le h (h.push o):=fun _ _ e=>Heap.get?_push_of_some _ e
theorem push_size (h:Heap) (o:Obj):(h.push o).objs.size=h.objs.size+1:=Heap.size_push ..
theorem Rep.push (r:Rep c fx g am L cx s) (o:Obj) {t:Nat}:Rep c fx g am L cx { s with heap:=s.heap.push o,toks:=t } :=
 r.heap (r.sub.trans (push_le _ _)) (r.frm.trans (push_le _ _)) (by rw [push_size]; exact Nat.le_succ _) fun b hb=>Heap.get?_push_ne _ _ _ (Nat.ne_of_lt (r.owned_lt b hb))
theorem Rep.fresh_out (r:Rep c fx g am L cx s):g.get? s.heap.objs.size=none:=by
 cases e:g.get? s.heap.objs.size with
 | none=>rfl
 | some o=>exact absurd (Heap.lt_size (r.sub _ _ e)) (Nat.lt_irrefl _)
theorem Rep.fresh_own (r:Rep c fx g am L cx s):s.heap.objs.size∉L :: owned am cx.obj:=fun h=>Nat.lt_irrefl _ (r.owned_lt _ h)
noncomputable def Am.set (am:Am) (i:Nat) (as:List Addr):Am:=fun j=>if j=i then some as else am j
theorem Am.set_self (am:Am) (i:Nat) (as:List Addr):(am.set i as) i=some as:=if_pos rfl
theorem Am.set_ne (am:Am) {i j:Nat} (as:List Addr) (h:j≠i):(am.set i as) j=am j:=if_neg h
theorem Am.set_le (am:Am) {i:Nat} (as:List Addr) (h:am i=none):AmLe am (am.set i as):=fun j a e=>by
 by_cases q:j=i
 ·subst q; unfold Am.at at e; rw [h] at e; cases e
 ·unfold Am.at; rw [Am.set_ne _ _ q]; exact e
theorem Am.at_set (am:Am) (i:Nat) (a:Addr) (r:List Addr):(am.set i (a :: r)).at i=some a:=by unfold Am.at; rw [Am.set_self]; rfl
theorem owned_set {am:Am} {i:Nat} {as:List Addr}:∀ {obj:List (Nat×SO)},(∀ p∈obj,p.1≠i)→owned (am.set i as) obj=owned am obj
 | [],_=>rfl
 | p :: r,h=>by
  show ((am.set i as) p.1).getD []++owned (am.set i as) r=(am p.1).getD []++owned am r
  rw [Am.set_ne _ _ (h p (.head _)),owned_set fun q hq=>h q (.tail _ hq)]
theorem Rep.id_lt (r:Rep c fx g am L cx s):∀ p∈cx.obj,p.1<cx.nx:=fun p hp=>by
 obtain ⟨as,a,_⟩:=r.lay p hp
 refine Nat.lt_of_not_le fun q=>?_
 rw [r.nx _ q] at a; cases a
theorem Rep.fresh_fr (r:Rep c fx g am L cx s):fx.fh.get? s.heap.objs.size=none:=by
 cases e:fx.fh.get? s.heap.objs.size with
 | none=>rfl
 | some o=>exact absurd (Heap.lt_size (r.frm _ _ e)) (Nat.lt_irrefl _)
theorem Rep.allocN (r:Rep c fx g am L cx s) {i:Nat} (hi:am i=none) {as:List Addr} {h':Heap} {so:SO} {t:Nat} (hle:Le s.heap h') (hsz:s.heap.objs.size≤h'.objs.size) (hown:∀ b∈L :: owned am cx.obj,h'.get? b=s.heap.get? b)
  (hnew:∀ a∈as,s.heap.objs.size≤a) (hnd:as.Nodup) (hl:Lay g h' (am.set i as) so as) {nx:Nat} {fr:List Nat} (hnx:cx.nx≤nx) (hnx':i<nx) (hfr:∀ j∈fr,j∈cx.fr∧j≠i) :
  Rep c fx g (am.set i as) L { cx with obj:=(i,so) :: cx.obj,nx:=nx,fr:=fr } { s with heap:=h',toks:=t }:=by
 have le:=Am.set_le am as hi
 have r':=r.heap (t:=t) (r.sub.trans hle) (r.frm.trans hle) hsz hown
 have ne:∀ p∈cx.obj,p.1≠i:=fun p hp q=>by
  obtain ⟨as',a,_⟩:=r.lay p hp
  rw [q,hi] at a; cases a
 have ow:owned (am.set i as) ((i,so) :: cx.obj)=as++owned am cx.obj:=by
  show ((am.set i as) i).getD []++owned (am.set i as) cx.obj=_
  rw [Am.set_self,owned_set ne]; rfl
 have gno:∀ a,s.heap.objs.size≤a→g.get? a=none:=fun a ha=>by
  cases e:g.get? a with
  | none=>rfl
  | some o=>exact absurd (Heap.lt_size (r.sub _ _ e)) (Nat.not_lt_of_le ha)
 have fno:∀ a,s.heap.objs.size≤a→fx.fh.get? a=none:=fun a ha=>by
  cases e:fx.fh.get? a with
  | none=>rfl
  | some o=>exact absurd (Heap.lt_size (r.frm _ _ e)) (Nat.not_lt_of_le ha)
 have apart:∀ a∈as,a∉L :: owned am cx.obj:=fun a ha hb=>absurd (r.owned_lt a hb) (Nat.not_lt_of_le (hnew a ha))
 refine ⟨r'.sub,r.top,?_,?_,?_,List.nodup_cons.mpr ⟨fun hm=>by obtain ⟨p,hp,q⟩:=List.mem_map.mp hm; exact ne p hp q,r.idnd⟩,?_,Nat.le_trans r.lo hnx,?_,?_,r'.frm,?_,r.new,?_,r'.szN,r.gens,r.os,r.frg,r.NL⟩
 ·obtain ⟨m,a,b⟩:=r'.fr
  exact ⟨m,a,fun x sv e=>let ⟨v,p,q⟩:=b x sv e; ⟨v,p,q.mono (.refl _) le⟩⟩
 ·intro p hp
  rcases List.mem_cons.mp hp with rfl | hp
  ·exact ⟨_,Am.set_self ..,hl⟩
  ·obtain ⟨as',a,b⟩:=r'.lay p hp
   exact ⟨as',(Am.set_ne _ _ (ne p hp)).trans a,b.keep (.refl _) le fun _ _=>rfl⟩
 ·rw [ow]
  have nd:=List.nodup_cons.mp r.nd
  refine List.nodup_cons.mpr ⟨fun hb=>?_,List.nodup_append.mpr ⟨hnd,nd.2,fun a ha b hb q=>apart a ha (q▸.tail _ hb)⟩⟩
  rcases List.mem_append.mp hb with hb | hb
  ·exact apart _ hb (.head _)
  ·exact nd.1 hb
 ·rw [ow]
  intro b hb
  rcases List.mem_cons.mp hb with rfl | hb
  ·exact r.out _ (.head _)
  ·rcases List.mem_append.mp hb with hb | hb
   ·exact gno _ (hnew b hb)
   ·exact r.out _ (.tail _ hb)
 ·intro j hj
  rw [Am.set_ne _ _ (Nat.ne_of_gt (Nat.lt_of_lt_of_le hnx' hj))]
  exact r.nx _ (Nat.le_trans hnx hj)
 ·intro j hj
  obtain ⟨a,b⟩:=hfr j hj
  rw [Am.set_ne _ _ b]
  exact r.free j a
 ·rw [ow]
  intro b hb
  rcases List.mem_cons.mp hb with rfl | hb
  ·exact r.frout _ (.head _)
  ·rcases List.mem_append.mp hb with hb | hb
   ·exact fno _ (hnew b hb)
   ·exact r.frout _ (.tail _ hb)
 ·intro j as' hj e a ha
  by_cases q:j=i
  ·subst q; rw [Am.set_self] at e; cases e; exact Nat.le_trans r.szN (hnew a ha)
  ·rw [Am.set_ne _ _ q] at e; exact r.hiN j as' hj e a ha
noncomputable def Cx.add (cx:Cx) (so:SO):Cx:={ cx with obj:=(cx.nx,so) :: cx.obj,nx:=cx.nx+1 }
theorem Rep.alloc (r:Rep c fx g am L cx s) {o:Obj} {so:SO} {t:Nat} (hl:Lay g (s.heap.push o) (am.set cx.nx [s.heap.objs.size]) so [s.heap.objs.size]) :
  Rep c fx g (am.set cx.nx [s.heap.objs.size]) L (cx.add so) { s with heap:=s.heap.push o,toks:=t } :=
 r.allocN (i:=cx.nx) (r.nx _ (Nat.le_refl _)) (push_le _ _) (by rw [push_size]; exact Nat.le_succ _) (fun b hb=>Heap.get?_push_ne _ _ _ (Nat.ne_of_lt (r.owned_lt b hb)))
  (fun a ha=>by simp at ha; exact Nat.le_of_eq ha.symm) (by simp) hl (Nat.le_succ _) (Nat.lt_succ_self _) (fun j hj=>⟨hj,fun q=>by have:=(r.free j hj).1; have:=r.lo; lia⟩)
theorem Rep.freeze (r:Rep c fx g am L cx s) {a:Addr} {o:Obj} (ho:s.heap.get? a=some o) (hN:fx.N≤a) (hown:a∉L :: owned am cx.obj) (hfh:fx.fh.get? a=none) :
  ∃ g',Le g g'∧g'.get? a=some o∧Rep c fx g' am L cx s:=by
 refine ⟨only s.heap fun b=>(g.get? b).isSome||b==a,?_,only_yes ho (by simp),?_⟩
 ·exact fun b o' e=>only_yes (r.sub _ _ e) (by rw [e]; rfl)
 ·have le:Le g (only s.heap fun b=>(g.get? b).isSome||b==a):=fun b o' e=>only_yes (r.sub _ _ e) (by rw [e]; rfl)
  refine ⟨fun b o' e=>(of_only e).1,r.top.mono le,?_,?_,r.nd,r.idnd,fun b hb=>only_no ?_,r.lo,r.nx,r.free,r.frm,r.frout,fun b o' e=>?_,r.hiN,r.szN,r.gens,r.os,fun b hb o' e=>?_,r.NL⟩
  ·obtain ⟨m,p,q⟩:=r.fr
   exact ⟨m,p,fun x sv e=>let ⟨v,p,q⟩:=q x sv e; ⟨v,p,q.mono le (.refl _)⟩⟩
  ·intro p hp
   obtain ⟨as,x,y⟩:=r.lay p hp
   exact ⟨as,x,y.keep le (.refl _) fun _ _=>rfl⟩
  ·have h1:=r.out b hb
   have h2:b≠a:=fun q=>hown (q▸hb)
   simp [h1,h2]
  ·obtain ⟨e1,e2⟩:=of_only e
   cases q:g.get? b with
   | some o''=>rw [r.sub _ _ q] at e1; cases e1; exact r.new b _ q
   | none =>
    rw [q] at e2
    have:b=a:=by simpa using e2
    exact .inr (this▸hN)
  ·obtain ⟨e1,e2⟩:=of_only e
   cases q:g.get? b with
   | some o''=>rw [r.sub _ _ q] at e1; cases e1; exact r.frg b hb _ q
   | none =>
    rw [q] at e2
    have:b=a:=by simpa using e2
    rw [this,hfh] at hb; cases hb
theorem Rep.pushF (r:Rep c fx g am L cx s) {o:Obj} (hf:o.isFreed=false) {t:Nat}:∃ g',Le g g'∧g'.get? s.heap.objs.size=some o∧Rep c fx g' am L cx { s with heap:=s.heap.push o,toks:=t } :=
 (r.push o (t:=t)).freeze (Heap.get?_push_size _ hf) r.szN r.fresh_own r.fresh_fr
noncomputable def Cx.set (cx:Cx) (i:Nat) (so:SO):Cx:={ cx with obj:=cx.obj.map fun p=>if p.1=i then (i,so) else p }
theorem owned_map {am:Am} {i:Nat} {so:SO}:∀ obj:List (Nat×SO),owned am (obj.map fun p=>if p.1=i then (i,so) else p)=owned am obj
 | []=>rfl
 | p :: r=>by
  show (am (if p.1=i then (i,so) else p).1).getD []++owned am (r.map fun p=>if p.1=i then (i,so) else p)=(am p.1).getD []++owned am r
  rw [owned_map r]
  by_cases q:p.1=i
  ·rw [if_pos q,q]
  ·rw [if_neg q]
theorem ids_map {i:Nat} {so:SO}:∀ obj:List (Nat×SO),(obj.map fun p=>if p.1=i then (i,so) else p).map (·.1)=obj.map (·.1)
 | []=>rfl
 | p :: r=>by
  simp only [List.map_cons]
  rw [ids_map r]
  by_cases q:p.1=i
  ·rw [if_pos q,q]
  ·rw [if_neg q]
theorem nodup_apart {am:Am} {i j:Nat} {as bs:List Addr} {a:Addr} (hi:am i=some as) (hj:am j=some bs) (ij:i≠j) (ha:a∈as) (hb:a∈bs) {x y:SO} (obj:List (Nat×SO)):(i,x)∈obj→(j,y)∈obj→(owned am obj).Nodup→False:=by
 induction obj with
 | nil=>intro hx; cases hx
 | cons p r ih =>
  intro hx hy nd
  have nd':=List.nodup_append.mp (show ((am p.1).getD []++owned am r).Nodup from nd)
  rcases List.mem_cons.mp hx with hx | hx
  ·rcases List.mem_cons.mp hy with hy | hy
   ·exact ij (congrArg Prod.fst (hx.trans hy.symm))
   ·exact nd'.2.2 a (by rw [← hx]; show a∈(am i).getD []; rw [hi]; exact ha) a (mem_owned.mpr ⟨_,hy,_,hj,hb⟩) rfl
  ·rcases List.mem_cons.mp hy with hy | hy
   ·exact nd'.2.2 a (by rw [← hy]; show a∈(am j).getD []; rw [hj]; exact hb) a (mem_owned.mpr ⟨_,hx,_,hi,ha⟩) rfl
   ·exact ih hx hy nd'.2.1
theorem Rep.set (r:Rep c fx g am L cx s) {i:Nat} {so so':SO} {as:List Addr} (hm:(i,so)∈cx.obj) (ha:am i=some as) {h':Heap} {t:Nat} (hs:∀ b,b∉as→h'.get? b=s.heap.get? b) (hz:s.heap.objs.size≤h'.objs.size) (hl:Lay g h' am so' as) :
  Rep c fx g am L (cx.set i so') { s with heap:=h',toks:=t }:=by
 have mo:∀ b∈as,b∈owned am cx.obj:=fun b hb=>mem_owned.mpr ⟨_,hm,as,ha,hb⟩
 have ow:owned am (cx.set i so').obj=owned am cx.obj:=owned_map _
 refine ⟨fun b o e=>?_,r.top,?_,?_,?_,?_,?_,r.lo,r.nx,r.free,fun b o e=>?_,?_,r.new,r.hiN,Nat.le_trans r.szN hz,r.gens,r.os,r.frg,r.NL⟩
 ·rw [← r.sub b o e]
  exact hs b fun hb=>by rw [r.out b (.tail _ (mo b hb))] at e; cases e
 ·refine hide fun Go jo=>?_
  obtain ⟨m,⟨o,es,ep,ho,rest⟩,b⟩:=r.fr
  refine jo ?_
  exact ⟨m,⟨o,es,ep,(hs L fun hb=>(List.nodup_cons.mp r.nd).1 (mo L hb)).trans ho,rest⟩,b⟩
 ·intro p hp
  refine hide fun Go jo=>?_
  obtain ⟨q,hq,rfl⟩:=List.mem_map.mp hp
  refine jo ?_
  by_cases e:q.1=i
  ·rw [if_pos e]; exact ⟨as,ha,hl⟩
  ·rw [if_neg e]
   obtain ⟨bs,a,b⟩:=r.lay q hq
   refine ⟨bs,a,b.keep (.refl _) (.refl _) fun x hx=>hs x fun hx'=>?_⟩
   exact nodup_apart (i:=q.1) (j:=i) (x:=q.2) (y:=so) a ha e hx hx' cx.obj hq hm (List.nodup_cons.mp r.nd).2
 ·rw [ow]; exact r.nd
 ·rw [show (cx.set i so').obj.map (·.1)=cx.obj.map (·.1) from ids_map _]; exact r.idnd
 ·rw [ow]; exact r.out
 ·rw [← r.frm b o e]
  exact hs b fun hb=>by rw [r.frout b (.tail _ (mo b hb))] at e; cases e
 ·rw [ow]; exact r.frout
noncomputable def setL (x:Str) (v:SV):List (Str×SV)→List (Str×SV)
 | []=>[(x,v)]
 | p :: r=>if p.1=x then (x,v) :: r else p :: setL x v r
theorem lookup_setL (x:Str) (v:SV) (y:Str):∀ l:List (Str×SV),(setL x v l).lookup y=if y=x then some v else l.lookup y
 | []=>by
  by_cases h:y=x
  ·subst h; simp [setL,List.lookup]
  ·have:(y==x)=false:=beq_eq_false_iff_ne.mpr h
   simp [setL,List.lookup,this,h]
 | p :: r=>by
  unfold setL
  by_cases q:p.1=x
  ·rw [if_pos q]
   by_cases h:y=x
   ·subst h; simp [List.lookup]
   ·have h1:(y==x)=false:=beq_eq_false_iff_ne.mpr h
    have h2:(y==p.1)=false:=by rw [q]; exact h1
    obtain ⟨p1,p2⟩:=p
    simp only [List.lookup,h1,h2,h,if_false]
  ·rw [if_neg q]
   obtain ⟨p1,p2⟩:=p
   have ih:=lookup_setL x v y r
   by_cases h:y=p1
   ·subst h; simp [List.lookup,q]
   ·have h2:(y==p1)=false:=beq_eq_false_iff_ne.mpr h
    simp only [List.lookup,h2]
    exact ih
section
variable {α:Type} {l:List α}
theorem lenS {n:Nat} (h:l.length=n+1):∃ a r,l=a :: r∧r.length=n:=by
 cases l with
 | nil=>exact nomatch h
 | cons a r=>exact ⟨a,r,rfl,Nat.succ.inj h⟩
theorem len1 (h:l.length=1):∃ a,l=[a]:=by
 obtain ⟨a,r,rfl,k⟩:=lenS h
 exact ⟨a,List.eq_nil_of_length_eq_zero k▸rfl⟩
theorem len2 (h:l.length=2):∃ a b,l=[a,b]:=by
 obtain ⟨a,r,rfl,k⟩:=lenS h
 exact (len1 k).elim fun b e=>⟨a,b,e▸rfl⟩
theorem len3 (h:l.length=3):∃ a b c,l=[a,b,c]:=by
 obtain ⟨a,r,rfl,k⟩:=lenS h
 exact (len2 k).elim fun b e=>e.elim fun c e=>⟨a,b,c,e▸rfl⟩
theorem len4 (h:l.length=4):∃ a b c d,l=[a,b,c,d]:=by
 obtain ⟨a,r,rfl,k⟩:=lenS h
 exact (len3 k).elim fun b e=>e.elim fun c e=>e.elim fun d e=>⟨a,b,c,d,e▸rfl⟩
theorem len5 (h:l.length=5):∃ a b c d e,l=[a,b,c,d,e]:=by
 obtain ⟨a,r,rfl,k⟩:=lenS h
 exact (len4 k).elim fun b e=>e.elim fun c e=>e.elim fun d e=>e.elim fun f e=>⟨a,b,c,d,f,e▸rfl⟩
end
theorem get_put {x:Str} {v:SV} {loc:List (Str×SV)}:(setL x v loc).lookup x=some v:=by rw [lookup_setL,if_pos rfl]
theorem get_ne {x y:Str} {v w:SV} {loc:List (Str×SV)} (h:loc.lookup y=some w) (hn:y≠x:=by decide):(setL x v loc).lookup y=some w:=by rw [lookup_setL,if_neg hn]; exact h
noncomputable def Cx.put (cx:Cx) (x:Str) (v:SV):Cx:={ cx with loc:=setL x v cx.loc }
theorem Rep.store (r:Rep c fx g am L cx s) {x:Str} {sv:SV} {v:Value} {h':Heap} {t:Nat} {m:Str→Option Value} (hm:∀ x sv,cx.loc.lookup x=some sv→∃ v,m x=some v∧VR g am sv v) (hv:VR g am sv v)
  (hn:h'.Ns L (fun y=>if y=x then some v else m y)) (hs:Heap.SameBut L s.heap h'):Rep c fx g am L (cx.put x sv) { s with heap:=h',toks:=t }:=by
 have nd:=List.nodup_cons.mp r.nd
 have k:∀ b,b≠L→h'.get? b=s.heap.get? b:=fun b hb=>hs.2 b hb
 refine ⟨fun b o e=>?_,r.top,⟨_,hn,fun y sv' e=>?_⟩,?_,r.nd,r.idnd,r.out,r.lo,r.nx,r.free,fun b o e=>?_,r.frout,r.new,r.hiN,?_,r.gens,r.os,r.frg,r.NL⟩
 ·rw [← r.sub b o e]
  exact k b fun q=>by rw [q,r.out L (.head _)] at e; cases e
 ·rw [show (cx.put x sv).loc.lookup y=_ from lookup_setL x sv y cx.loc] at e
  split at e
  ·rename_i q
   cases e
   exact ⟨v,if_pos q,hv⟩
  ·rename_i q
   rw [if_neg q]
   exact hm y sv' e
 ·intro p hp
  obtain ⟨as,a,b⟩:=r.lay p hp
  exact ⟨as,a,b.keep (.refl _) (.refl _) fun x hx=>k x fun q=>nd.1 (q▸mem_owned.mpr ⟨p,hp,as,a,hx⟩)⟩
 ·rw [← r.frm b o e]
  exact k b fun q=>by rw [q,r.frout L (.head _)] at e; cases e
 ·exact Nat.le_trans r.szN (Nat.le_of_eq hs.1.symm)
end
mutual
noncomputable def SV.lo:SV→Bool
 | .ref i=>decide (i<100)
 | .tup xs=>SV.los xs
 | .fl xs=>SV.los xs
 | _=>true
noncomputable def SV.los:List SV→Bool
 | []=>true
 | x :: xs=>x.lo&&SV.los xs
end
theorem los_cons {x:SV} {xs:List SV}:SV.los (x :: xs)=(x.lo&&SV.los xs):=rfl
section
variable {g:Heap} {am am':Am} (k:∀ i a,i<100→am.at i=some a→am'.at i=some a)
include k
theorem VR.lows:(∀ {x v},VR g am x v→x.lo=true→VR g am' x v)∧∀ {xs vs},VRs g am xs vs→SV.los xs=true→VRs g am' xs vs :=
 VR.ind (P:=fun x v=>x.lo=true→VR g am' x v) (Q:=fun xs vs=>SV.los xs=true→VRs g am' xs vs) (fun _=>.none) (fun b _=>.bool b) (fun i t _=>.int i t) (fun s t _=>.str s t) (fun h l=>.ref (k _ _ (of_decide_eq_true l) h)) (fun v _=>.g v) (fun ho ih l=>.tup ho (ih l)) (fun ho ih l=>.fl ho (ih l)) (fun _=>.nil)
  fun ih ihs l=>.cons (ih (Bool.and_eq_true_iff.mp l).1) (ihs (Bool.and_eq_true_iff.mp l).2)
theorem VR.low {x:SV} {v:Value} (h:VR g am x v):x.lo=true→VR g am' x v:=(VR.lows k).1 h
theorem VRs.low {xs:List SV} {vs:List Value} (h:VRs g am xs vs):SV.los xs=true→VRs g am' xs vs:=(VR.lows k).2 h
theorem FR.low {fs:List (Str×SV)} {es:List DictEntry} (h:FR g am fs es):SV.los (fs.map (·.2))=true→FR g am' fs es :=
 h.ind (P:=fun fs es=>SV.los (fs.map (·.2))=true→FR g am' fs es) (fun _=>.nil) fun h _ ih l=>.cons (h.low k (Bool.and_eq_true_iff.mp l).1) (ih (Bool.and_eq_true_iff.mp l).2)
end
noncomputable def SO.lo:SO→Bool
 | .list xs=>SV.los xs
 | .inst _ fs=>SV.los (fs.map (·.2))
 | .linst _ xs fs=>SV.los xs&&SV.los (fs.map (·.2))
 | .tbl _=>true
 | .obj _ _=>true
 | .cell _ x=>x.lo
 | .deq xs=>SV.los xs
theorem Lay.low {g h:Heap} {am am':Am} {so:SO} {as:List Addr} (k:∀ i a,i<100→am.at i=some a→am'.at i=some a) (x:Lay g h am so as) (l:so.lo=true):Lay g h am' so as:=by
 cases so with
 | list xs=>exact x.rec fun a vs e p r=>⟨a,vs,e,p,r.low k l⟩
 | inst C fs=>exact x.rec fun a d es n e p q r=>⟨a,d,es,n,e,p,q,r.low k l⟩
 | linst C xs fs=>exact x.rec fun a d vs m es n e p q r s=>⟨a,d,vs,m,es,n,e,p,q,r.low k (Bool.and_eq_true_iff.mp l).2,s.low k (Bool.and_eq_true_iff.mp l).1⟩
 | tbl rows=>exact x
 | obj a o=>exact x
 | cell a y=>exact x.rec fun o v e p q r=>⟨o,v,e,p,q,r.low k l⟩
 | deq xs=>exact x.rec fun a vs n e p r=>⟨a,vs,n,e,p,r.low k l⟩
theorem owned_sublist {am:Am} {l l':List (Nat×SO)} (h:l.Sublist l'):(owned am l).Sublist (owned am l'):=by
 induction h with
 | slnil=>exact List.Sublist.refl _
 | cons p _ ih=>exact ih.trans (List.sublist_append_right _ _)
 | cons_cons p _ ih=>exact List.Sublist.append (List.Sublist.refl _) ih
theorem owned_eq {am am':Am}:∀ {l:List (Nat×SO)},(∀ p∈l,am p.1=am' p.1)→owned am l=owned am' l
 | [],_=>rfl
 | p :: r,h=>by
  show (am p.1).getD []++owned am r=(am' p.1).getD []++owned am' r
  rw [h p (.head _),owned_eq fun q hq=>h q (.tail _ hq)]
theorem owned_nodup {am:Am}:∀ {obj:List (Nat×SO)},(obj.map (·.1)).Nodup→(∀ p∈obj,∀ as,am p.1=some as→as.Nodup) →
  (∀ p∈obj,∀ q∈obj,p.1≠q.1→∀ as bs,am p.1=some as→am q.1=some bs→∀ a∈as,a∉bs)→(owned am obj).Nodup
 | [],_,_,_=>List.nodup_nil
 | p :: r,nd,h1,h2=>by
  show ((am p.1).getD []++owned am r).Nodup
  rw [List.map_cons,List.nodup_cons] at nd
  refine List.nodup_append.mpr ⟨?_,owned_nodup nd.2 (fun q hq=>h1 q (.tail _ hq)) fun q hq q' hq'=>h2 q (.tail _ hq) q' (.tail _ hq'),fun a ha b hb e=>?_⟩
  ·cases e:am p.1 with
   | none=>exact List.nodup_nil
   | some as=>exact h1 p (.head _) as e
  ·refine hide fun Go jo=>?_
   subst e
   obtain ⟨q,hq,bs,eq,hb⟩:=mem_owned.mp hb
   refine jo ?_
   cases ep:am p.1 with
   | none=>rw [ep] at ha; cases ha
   | some as =>
    rw [ep] at ha
    exact h2 p (.head _) q (.tail _ hq) (fun z=>nd.1 (z▸List.mem_map_of_mem hq)) as bs ep eq a ha hb
theorem owned_parts {am:Am} {obj:List (Nat×SO)} (nd:(owned am obj).Nodup) {p:Nat×SO} (hp:p∈obj) {as:List Addr} (e:am p.1=some as):as.Nodup:=by
 have:as.Sublist (owned am obj):=by
  have h1:(owned am [p]).Sublist (owned am obj):=owned_sublist (List.singleton_sublist.mpr hp)
  have h2:owned am [p]=as:=by show (am p.1).getD []++[]=as; rw [e]; simp
  rwa [h2] at h1
 exact this.nodup nd
noncomputable def Am.low (am:Am):Am:=fun i=>if i<100 then am i else none
theorem Am.low_at {am:Am} {i:Nat} {a:Addr} (hi:i<100) (h:am.at i=some a):am.low.at i=some a:=by unfold Am.at Am.low; rw [if_pos hi]; exact h
noncomputable def Am.back (am amc:Am) (ids:List Nat):Am:=fun i=>if i∈ids then amc i else if (am.at i).isSome=true then am i else if i<100 then amc i else am i
theorem Am.back_in {am amc:Am} {ids:List Nat} {i:Nat} (h:i∈ids):(am.back amc ids) i=amc i:=if_pos h
theorem Am.back_old {am amc:Am} {ids:List Nat} {i:Nat} (h:i∉ids) (h2:(am.at i).isSome=true):(am.back amc ids) i=am i:=by unfold Am.back; rw [if_neg h,if_pos h2]
theorem Am.back_new {am amc:Am} {ids:List Nat} {i:Nat} (h:am i=none) (hi:i<100):(am.back amc ids) i=amc i:=by
 unfold Am.back
 have:(am.at i).isSome=false:=by unfold Am.at; rw [h]; rfl
 by_cases q:i∈ids
 ·rw [if_pos q]
 ·rw [if_neg q,this,if_neg Bool.false_ne_true,if_pos hi]
theorem Am.back_lo {am amc:Am} {ids:List Nat} (ha:AmLe am.low amc) {i:Nat} {a:Addr} (hi:i<100) (e:amc.at i=some a):(am.back amc ids).at i=some a:=by
 by_cases q:i∈ids
 ·unfold Am.at; rw [Am.back_in q]; exact e
 ·cases h:am.at i with
  | some b =>
   have:=ha i b (Am.low_at hi h)
   rw [e] at this; cases this
   have h2:(am.back amc ids) i=am i:=Am.back_old q (by rw [h]; rfl)
   unfold Am.at; rw [h2]; exact h
  | none =>
   have h2:(am.back amc ids) i=amc i:=by unfold Am.back; rw [if_neg q,h,if_neg (by simp),if_pos hi]
   unfold Am.at; rw [h2]; exact e
theorem Am.back_le {am amc:Am} {ids:List Nat} (ha:AmLe am.low amc) (hlt:∀ i∈ids,i<100):AmLe am (am.back amc ids):=fun i a e=>by
 by_cases q:i∈ids
 ·have:=ha i a (Am.low_at (hlt i q) e)
  unfold Am.at; rw [Am.back_in q]; exact this
 ·have h2:(am.back amc ids) i=am i:=Am.back_old q (by rw [e]; rfl)
  unfold Am.at; rw [h2]; exact e
theorem Am.back_hi {am amc:Am} {ids:List Nat} (hlt:∀ i∈ids,i<100) {i:Nat} (hi:¬ i<100):(am.back amc ids) i=am i:=by
 unfold Am.back
 rw [if_neg fun q=>hi (hlt i q)]
 by_cases q:(am.at i).isSome=true
 ·rw [if_pos q]
 ·rw [if_neg q,if_neg hi]
noncomputable def Fl.val:Fl→SV
 | .ret v=>v
 | _=>.none
noncomputable def Cx.upd (cx:Cx) (obs news:List (Nat×SO)) (fr:List Nat):Cx :=
 { cx with obj:=news++cx.obj.map (fun p=>(p.1,(obs.lookup p.1).getD p.2)),fr:=fr }
theorem upd_ids (obs:List (Nat×SO)):∀ obj:List (Nat×SO),(obj.map (fun p=>(p.1,(obs.lookup p.1).getD p.2))).map (·.1)=obj.map (·.1)
 | []=>rfl
 | p :: r=>by simp only [List.map_cons]; rw [upd_ids obs r]
theorem mem_of_lookup {obs:List (Nat×SO)} {i:Nat} {so:SO} (h:obs.lookup i=some so):(i,so)∈obs:=by
 induction obs with
 | nil=>cases h
 | cons p r ih =>
  obtain ⟨j,x⟩:=p
  simp only [List.lookup] at h
  split at h
  ·rename_i q; cases h; have:=beq_iff_eq.mp q; subst this; exact .head _
  ·exact .tail _ (ih h)
theorem lookup_of_mem {obs:List (Nat×SO)} {i:Nat} (h:i∈obs.map (·.1)):∃ so,obs.lookup i=some so:=by
 induction obs with
 | nil=>cases h
 | cons p r ih =>
  obtain ⟨j,x⟩:=p
  simp only [List.lookup]
  by_cases q:i=j
  ·subst q; exact ⟨x,by simp⟩
  ·have:(i==j)=false:=beq_eq_false_iff_ne.mpr q
   rw [this]
   exact ih (by simp only [List.map_cons,List.mem_cons] at h; rcases h with h | h; exact absurd h q; exact h)
section
variable {c:Cst} {fx:Fx} {g:Heap} {am:Am} {L:Addr} {cx:Cx} {s:Shared}
theorem Rep.enter (r:Rep c fx g am L cx s) {obs:List (Nat×SO)} (hsub:obs.Sublist cx.obj) (hlo:∀ p∈obs,p.1<100∧p.2.lo=true) {h₁:Heap} {t:Nat} {m:Str→Option Value} (hns:h₁.Ns s.heap.objs.size m) (hle:Le s.heap h₁)
  {loc:List (Str×SV)} (hloc:∀ x sv,loc.lookup x=some sv→∃ v,m x=some v∧VR g am.low sv v) :
  Rep c ⟨only s.heap fun b=>!(owned am obs).contains b,g,s.heap.objs.size⟩ g am.low s.heap.objs.size ⟨loc,obs,100,cx.fr⟩ { s with heap:=h₁,toks:=t }:=by
 have ow:owned am.low obs=owned am obs:=owned_eq fun p hp=>if_pos (hlo p hp).1
 have sub:∀ b∈owned am obs,b∈owned am cx.obj:=fun b hb=>(owned_sublist hsub).subset hb
 have there:∀ b∈owned am obs,h₁.get? b=s.heap.get? b:=fun b hb=>by
  obtain ⟨o,e⟩:=r.owned_there b (.tail _ (sub b hb))
  rw [e]; exact hle _ _ e
 refine ⟨r.sub.trans hle,r.top,⟨m,hns,hloc⟩,?_,?_,(hsub.map _).nodup r.idnd,?_,Nat.le_refl _,?_,?_,?_,?_,fun b o e=>.inl e,?_,Nat.le_of_lt hns.lt,r.gens,r.os,fun b _ o e=>e,Nat.le_refl _⟩
 ·intro p hp
  obtain ⟨as,a,b⟩:=r.lay p (hsub.subset hp)
  refine ⟨as,(if_pos (hlo p hp).1:am.low p.1=am p.1).trans a,?_⟩
  exact (b.low (fun i x hi e=>Am.low_at hi e) (hlo p hp).2).keep (.refl _) (.refl _) fun b hb=>there b (mem_owned.mpr ⟨p,hp,as,a,hb⟩)
 ·show (_ :: owned am.low obs).Nodup
  rw [ow]
  refine List.nodup_cons.mpr ⟨fun hb=>?_,(owned_sublist hsub).nodup (List.nodup_cons.mp r.nd).2⟩
  exact Nat.lt_irrefl _ (r.owned_lt _ (.tail _ (sub _ hb)))
 ·show ∀ b∈_ :: owned am.low obs,_
  rw [ow]
  intro b hb
  rcases List.mem_cons.mp hb with rfl | hb
  ·exact r.fresh_out
  ·exact r.out b (.tail _ (sub b hb))
 ·intro i hi
  exact if_neg (Nat.not_lt_of_le hi)
 ·intro i hi
  exact ⟨(r.free i hi).1,(if_pos (r.free i hi).1:am.low i=am i).trans (r.free i hi).2⟩
 ·intro b o e
  exact hle _ _ (of_only e).1
 ·show ∀ b∈_ :: owned am.low obs,_
  rw [ow]
  intro b hb
  rcases List.mem_cons.mp hb with rfl | hb
  ·cases e:(only s.heap fun b=>!(owned am obs).contains b).get? s.heap.objs.size with
   | none=>rfl
   | some o=>exact absurd (Heap.lt_size (of_only e).1) (Nat.lt_irrefl _)
  ·exact only_no (by simp [hb])
 ·intro i as hi e
  have:am.low i=none:=if_neg (Nat.not_lt_of_le hi)
  rw [this] at e; cases e
theorem Rep.leave (r:Rep c fx g am L cx s) {obs:List (Nat×SO)} (hsub:obs.Sublist cx.obj) (hlo:∀ p∈obs,p.1<100∧p.2.lo=true) {g':Heap} {amc:Am} {L':Addr} {cx':Cx} {s':Shared}
  (hg:Le g g') (ha:AmLe am.low amc) (r':Rep c ⟨only s.heap fun b=>!(owned am obs).contains b,g,s.heap.objs.size⟩ g' amc L' cx' s')
  {obs' news:List (Nat×SO)} (hids:obs'.map (·.1)=obs.map (·.1)) (hob:∀ p∈obs'++news,p∈cx'.obj∧p.1<100∧p.2.lo=true) (hnew:∀ p∈news,p.1∈cx.fr) (hnd:(news.map (·.1)).Nodup) (hfr:∀ i∈cx'.fr,i∈cx.fr) :
  Rep c fx g' (am.back amc (obs.map (·.1))) L (cx.upd obs' news cx'.fr) s'∧AmLe am (am.back amc (obs.map (·.1))):=by
 have idlt:∀ i∈obs.map (·.1),i<100:=fun i hi=>by obtain ⟨p,hp,rfl⟩:=List.mem_map.mp hi; exact (hlo p hp).1
 have le:=Am.back_le (ids:=obs.map (·.1)) ha idlt
 have kb:∀ i a,i<100→amc.at i=some a→(am.back amc (obs.map (·.1))).at i=some a:=fun i a hi e=>Am.back_lo ha hi e
 have sub:∀ b∈owned am obs,b∈owned am cx.obj:=fun b hb=>(owned_sublist hsub).subset hb
 have kept:∀ b o,s.heap.get? b=some o→b∉owned am obs→s'.heap.get? b=some o:=fun b o e hb=>r'.frm b o (only_yes e (by simp [hb]))
 have infh:∀ b o,s.heap.get? b=some o→b∉owned am obs→b∉L' :: owned amc cx'.obj:=fun b o e hb hc=>by
  have:=r'.frout b hc
  rw [only_yes e (by simp [hb])] at this; cases this
 have nd:=List.nodup_cons.mp r.nd
 have nd':=List.nodup_cons.mp r'.nd
 have Lout:L∉owned am obs:=fun h=>nd.1 (sub L h)
 have cls:∀ p∈news++cx.obj.map (fun p=>(p.1,(obs'.lookup p.1).getD p.2)),(p∈cx'.obj∧p.2.lo=true∧(am.back amc (obs.map (·.1))) p.1=amc p.1)∨(p∈cx.obj∧p.1∉obs.map (·.1)∧(am.back amc (obs.map (·.1))) p.1=am p.1):=by
  intro p hp
  rcases List.mem_append.mp hp with hp | hp
  ·obtain ⟨h1,h2,h3⟩:=hob p (List.mem_append_right _ hp)
   exact .inl ⟨h1,h3,Am.back_new (r.free _ (hnew p hp)).2 h2⟩
  ·obtain ⟨q,hq,rfl⟩:=List.mem_map.mp hp
   by_cases hi:q.1∈obs.map (·.1)
   ·obtain ⟨so,e⟩:=lookup_of_mem (hids▸hi)
    obtain ⟨h1,h2,h3⟩:=hob (q.1,so) (List.mem_append_left _ (mem_of_lookup e))
    rw [e]
    exact .inl ⟨h1,h3,Am.back_in hi⟩
   ·have e:obs'.lookup q.1=none:=by
     cases e:obs'.lookup q.1 with
     | none=>rfl
     | some so=>exact absurd (hids▸List.mem_map_of_mem (f:=(·.1)) (mem_of_lookup e)) hi
    rw [e]
    obtain ⟨as,e2,l⟩:=r.lay q hq
    obtain ⟨a,rest,rfl⟩:=l.ne_nil
    exact .inr ⟨hq,hi,Am.back_old hi (by unfold Am.at; rw [e2]; rfl)⟩
 have restOut:∀ p∈cx.obj,p.1∉obs.map (·.1)→∀ as,am p.1=some as→∀ a∈as,a∉owned am obs:=fun p hp hi as e a ha' hb=>by
  obtain ⟨q,hq,bs,eq,hb⟩:=mem_owned.mp hb
  exact nodup_apart (i:=p.1) (j:=q.1) (x:=p.2) (y:=q.2) e eq (fun z=>hi (z▸List.mem_map_of_mem hq)) ha' hb cx.obj hp (hsub.subset hq) nd.2
 have restThere:∀ p∈cx.obj,∀ as,am p.1=some as→∀ a∈as,∃ o,s.heap.get? a=some o:=fun p hp as e a ha'=>r.owned_there a (.tail _ (mem_owned.mpr ⟨p,hp,as,e,ha'⟩))
 refine ⟨⟨r'.sub,r.top.mono hg,?_,?_,?_,?_,?_,r.lo,?_,?_,?_,?_,?_,?_,Nat.le_trans r.szN r'.szN,r'.gens,r'.os,?_,r.NL⟩,le⟩
 ·refine hide fun Go jo=>?_
  obtain ⟨m,⟨o,es,ep,ho,rest⟩,b⟩:=r.fr
  refine jo ?_
  exact ⟨m,⟨o,es,ep,kept _ _ ho Lout,rest⟩,fun x sv e=>let ⟨v,p,q⟩:=b x sv e; ⟨v,p,q.mono hg le⟩⟩
 ·intro p hp
  rcases cls p hp with ⟨h1,h2,h3⟩ | ⟨h1,h2,h3⟩
  ·obtain ⟨as,e,l⟩:=r'.lay p h1
   exact ⟨as,h3.trans e,l.low kb h2⟩
  ·obtain ⟨as,e,l⟩:=r.lay p h1
   refine ⟨as,h3.trans e,l.keep hg le fun b hb=>?_⟩
   obtain ⟨o,ho⟩:=restThere p h1 as e b hb
   rw [ho]; exact kept b o ho (restOut p h1 h2 as e b hb)
 ·have idnd':((news++cx.obj.map (fun p=>(p.1,(obs'.lookup p.1).getD p.2))).map (·.1)).Nodup:=by
   rw [List.map_append,upd_ids]
   refine List.nodup_append.mpr ⟨hnd,r.idnd,fun i hi j hj q=>?_⟩
   subst q
   obtain ⟨p,hp,rfl⟩:=List.mem_map.mp hi
   obtain ⟨q,hq,e⟩:=List.mem_map.mp hj
   obtain ⟨as,e2,_⟩:=r.lay q hq
   rw [show q.1=p.1 from e,(r.free _ (hnew p hp)).2] at e2; cases e2
  refine List.nodup_cons.mpr ⟨fun hb=>?_,owned_nodup idnd' (fun p hp as e=>?_) fun p hp q hq pq as bs ep eq a ha' hb=>?_⟩
  ·refine hide fun Go jo=>?_
   obtain ⟨p,hp,as,e,hb⟩:=mem_owned.mp hb
   refine jo ?_
   rcases cls p hp with ⟨h1,h2,h3⟩ | ⟨h1,h2,h3⟩
   ·obtain ⟨o,ho⟩:=r.owned_there L (.head _)
    exact infh L o ho Lout (.tail _ (mem_owned.mpr ⟨p,h1,as,h3▸e,hb⟩))
   ·exact nd.1 (mem_owned.mpr ⟨p,h1,as,h3▸e,hb⟩)
  ·rcases cls p hp with ⟨h1,h2,h3⟩ | ⟨h1,h2,h3⟩
   ·exact owned_parts nd'.2 h1 (h3▸e)
   ·exact owned_parts nd.2 h1 (h3▸e)
  ·rcases cls p hp with ⟨h1,h2,h3⟩ | ⟨h1,h2,h3⟩ <;> rcases cls q hq with ⟨k1,k2,k3⟩ | ⟨k1,k2,k3⟩
   ·exact nodup_apart (i:=p.1) (j:=q.1) (x:=p.2) (y:=q.2) (h3▸ep) (k3▸eq) pq ha' hb cx'.obj h1 k1 nd'.2
   ·obtain ⟨o,ho⟩:=restThere q k1 bs (k3▸eq) a hb
    exact infh a o ho (restOut q k1 k2 bs (k3▸eq) a hb) (.tail _ (mem_owned.mpr ⟨p,h1,as,h3▸ep,ha'⟩))
   ·obtain ⟨o,ho⟩:=restThere p h1 as (h3▸ep) a ha'
    exact infh a o ho (restOut p h1 h2 as (h3▸ep) a ha') (.tail _ (mem_owned.mpr ⟨q,k1,bs,k3▸eq,hb⟩))
   ·exact nodup_apart (i:=p.1) (j:=q.1) (x:=p.2) (y:=q.2) (h3▸ep) (k3▸eq) pq ha' hb cx.obj h1 k1 nd.2
 ·show ((news++cx.obj.map (fun p=>(p.1,(obs'.lookup p.1).getD p.2))).map (·.1)).Nodup
  rw [List.map_append,upd_ids]
  refine List.nodup_append.mpr ⟨hnd,r.idnd,fun i hi j hj q=>?_⟩
  refine hide fun Go jo=>?_
  subst q
  obtain ⟨p,hp,rfl⟩:=List.mem_map.mp hi
  obtain ⟨q,hq,e⟩:=List.mem_map.mp hj
  obtain ⟨as,e2,_⟩:=r.lay q hq
  refine jo ?_
  rw [show q.1=p.1 from e,(r.free _ (hnew p hp)).2] at e2; cases e2
 ·have old:∀ b,b<s.heap.objs.size→g.get? b=none→g'.get? b=none:=fun b hb e=>by
   cases q:g'.get? b with
   | none=>rfl
   | some o =>
    rcases r'.new b o q with h | h
    ·have h':g.get? b=some o:=h
     rw [e] at h'; cases h'
    ·exact absurd hb (Nat.not_lt_of_le h)
  intro b hb
  rcases List.mem_cons.mp hb with rfl | hb
  ·exact old _ (r.owned_lt _ (.head _)) (r.out _ (.head _))
  ·refine hide fun Go jo=>?_
   obtain ⟨p,hp,as,e,hb⟩:=mem_owned.mp hb
   refine jo ?_
   rcases cls p hp with ⟨h1,h2,h3⟩ | ⟨h1,h2,h3⟩
   ·exact r'.out b (.tail _ (mem_owned.mpr ⟨p,h1,as,h3▸e,hb⟩))
   ·have m:b∈L :: owned am cx.obj:=.tail _ (mem_owned.mpr ⟨p,h1,as,h3▸e,hb⟩)
    exact old _ (r.owned_lt _ m) (r.out _ m)
 ·intro i hi
  rw [Am.back_hi idlt (Nat.not_lt_of_le (Nat.le_trans r.lo hi))]
  exact r.nx i hi
 ·intro i hi
  obtain ⟨h1,h2⟩:=r'.free i hi
  exact ⟨h1,(Am.back_new (r.free i (hfr i hi)).2 h1).trans h2⟩
 ·intro b o e
  exact kept b o (r.frm b o e) fun hb=>by rw [r.frout b (.tail _ (sub b hb))] at e; cases e
 ·intro b hb
  rcases List.mem_cons.mp hb with rfl | hb
  ·exact r.frout _ (.head _)
  ·refine hide fun Go jo=>?_
   obtain ⟨p,hp,as,e,hb⟩:=mem_owned.mp hb
   refine jo ?_
   rcases cls p hp with ⟨h1,h2,h3⟩ | ⟨h1,h2,h3⟩
   ·cases q:fx.fh.get? b with
    | none=>rfl
    | some o =>
     exfalso
     by_cases z:b∈owned am obs
     ·rw [r.frout b (.tail _ (sub b z))] at q; cases q
     ·exact infh b o (r.frm b o q) z (.tail _ (mem_owned.mpr ⟨p,h1,as,h3▸e,hb⟩))
   ·exact r.frout b (.tail _ (mem_owned.mpr ⟨p,h1,as,h3▸e,hb⟩))
 ·intro b o e
  rcases r'.new b o e with h | h
  ·exact r.new b o h
  ·exact .inr (Nat.le_trans r.szN h)
 ·intro i as hi e a ha'
  rw [Am.back_hi idlt (Nat.not_lt_of_le hi)] at e
  exact r.hiN i as hi e a ha'
 ·intro b hb o e
  cases q:fx.fh.get? b with
  | none=>rw [q] at hb; cases hb
  | some o' =>
   have z:b∉owned am obs:=fun z=>by rw [r.frout b (.tail _ (sub b z))] at q; cases q
   have h1:=r'.frg b (by show ((only s.heap _).get? b).isSome=true; rw [only_yes (r.frm b o' q) (by simp [z])]; rfl) o e
   exact r.frg b (by rw [q]; rfl) o h1
end
noncomputable def flV:Flow→Value
 | .ret v=>v
 | _=>.none
theorem FlR.val {g:Heap} {am:Am} {fl:Fl} {f:Flow} (h:FlR g am fl f):VR g am fl.val (flV f):=by
 cases h with
 | next=>exact .none
 | brk=>exact .none
 | cont=>exact .none
 | ret h=>exact h
structure Fn (c:Cst) (f:Addr) (fd:FuncData) (en:En) (body:List Stmt):Prop where
 obj:∃ oc od sl,c.K.lookup f=some ⟨oc,od,.func fd,sl⟩
 code:codeIn c.K fd.code fd.qualname=true
 body:fd.body = .stmts body
 cell:∀ x∈fd.scope.names,x.2≠.cell
 env:∀ L,callEnv fd L f=en.env L
 co:fd.scope.isCoroutine=false
 gen:fd.scope.isGenerator=false
 kind:fd.scope.kind = .function
noncomputable def BindOk (c:Cst) (fd:FuncData) (xs:List SV) (kw:List (Str×SV)) (loc:List (Str×SV)):Prop :=
 ∀ g am s vs ks,Top c g→Le g s.heap→VRs g am xs vs→VRs g am (kw.map (·.2)) ks→∃ binds,BindsTo s fd ⟨vs,(kw.map (·.1)).zip ks⟩ binds∧(∀ y∈binds,fd.scope.names.lookup y.1=some .local) ∧
  ∀ x sv,loc.lookup x=some sv→∃ v,binds.reverse.lookup x=some v∧VR g am sv v
noncomputable def Back (cx:Cx) (obs:List (Nat×SO)) (K:SV→Cx→Prop) (v:SV) (cx':Cx):Prop :=
 ∃ obs' news,obs'.map (·.1)=obs.map (·.1)∧(∀ p∈obs'++news,p∈cx'.obj∧p.1<100∧p.2.lo=true)∧(∀ p∈news,p.1∈cx.fr)∧(news.map (·.1)).Nodup∧(∀ i∈cx'.fr,i∈cx.fr)∧v.lo=true∧K v (cx.upd obs' news cx'.fr)
theorem los_lookup {loc:List (Str×SV)} (h:SV.los (loc.map (·.2))=true) {x:Str} {sv:SV} (e:loc.lookup x=some sv):sv.lo=true:=by
 induction loc with
 | nil=>cases e
 | cons p r ih =>
  obtain ⟨y,w⟩:=p
  simp only [List.map_cons,los_cons,Bool.and_eq_true] at h
  simp only [List.lookup] at e
  split at e
  ·cases e; exact h.1
  ·exact ih h.2 e
noncomputable def SpK (c:Cst) (d u:Nat) (f:Value) (xs:List SV) (kw:List (Str×SV)) (cx:Cx) (K:SV→Cx→Prop):Prop :=
 ∀ fx g am L s vs ks,Rep c fx g am L cx s→VRs g am xs vs→VRs g am (kw.map (·.2)) ks→wpAny c.M (Ar d u) (call f vs ((kw.map (·.1)).zip ks)) (Ends c fx g am L VR K) No s
theorem SpK.toC {c:Cst} {d u:Nat} {f:Value} {xs:List SV} {cx:Cx} {K:SV→Cx→Prop} (h:SpK c d u f xs [] cx K):SpC c d u f xs cx K:=fun fx g am L s vs r v=>h fx g am L s vs [] r v .nil
noncomputable def SpKc (c:Cst) (d u:Nat) (f:Value) (xs:List SV) (kw:List (Str×SV)) (cx:Cx) (K:SV→Cx→Prop):Prop :=
 ∀ fx g am L s vs ks,Rep c fx g am L cx s→VRs g am xs vs→VRs g am (kw.map (·.2)) ks→codeAny c.M (Ar d u) (.call f ⟨vs,(kw.map (·.1)).zip ks⟩) (fun r s'=>match r with | .ok (.ret v)=>Ends c fx g am L VR K v s' | .ok _=>False | .error e=>No e s') s
theorem SpKc.toK {c:Cst} {d u:Nat} {f:Value} {xs:List SV} {kw:List (Str×SV)} {cx:Cx} {K:SV→Cx→Prop} (h:SpKc c d u f xs kw cx K):SpK c d u f xs kw cx K:=fun fx g am L s vs ks r v k=>wpAny_call (h fx g am L s vs ks r v k)
theorem car_le {c:Cst} {d u:Nat} {s:Shared} {cd:Code} {R:Result→Shared→Prop} {A:Around} (h:codeAny c.M (Ar d u) cd R s) (hh:A.handled=none) (hd:A.depth≤d) (hu:A.units≤u):codeAny c.M A cd R s :=
 fun Γ p hc hΓ=>h Γ p hc ⟨hΓ.1.trans hh,Nat.le_trans hΓ.2.1 hd,fun _ e=>(nomatch e),fun _ e=>(nomatch e),Nat.le_trans hΓ.2.2.2.2 hu⟩
theorem fn_callKc {c:Cst} {d u:Nat} {f:Addr} {fd:FuncData} {en:En} {body:List Stmt} {xs:List SV} {kw:List (Str×SV)} {cx:Cx} {K:SV→Cx→Prop} {loc:List (Str×SV)} {obs:List (Nat×SO)} (F:Fn c f fd en body) (hd:d<1000) (hb:BindOk c fd xs kw loc)
  (hsub:obs.Sublist cx.obj) (hlo:∀ p∈obs,p.1<100∧p.2.lo=true) (hlos:SV.los (loc.map (·.2))=true)
  (h:Sp c (d+1) (u+3) (fun L=>execs body (en.env L)) FlR ⟨loc,obs,100,cx.fr⟩ fun fl cx'=>Back cx obs K fl.val cx'):SpKc c d u (.ref f) xs kw cx K:=by
 intro fx g am L s vs ks r hv hkv
 refine hide fun Go jo=>?_
 obtain ⟨oc,od,sl,ho⟩:=F.obj
 obtain ⟨binds,h1,h2,h3⟩:=hb g am s vs ks r.top r.sub hv hkv
 refine jo ?_
 have X:=r.top.X.keeps r.sub
 refine (codeAny_call_def (fd:=fd) (body:=body) (binds:=binds) hd (X _ _ ho) rfl (r.top.lim.keeps r.sub) (codeRec_of X F.code) F.body h1 F.cell h2 (fun h₀ hns hle=>?_) F.co F.gen F.kind)
 rw [F.env]
 have R:=r.enter hsub hlo (t:=s.toks+binds.length) hns hle (loc:=loc) fun x sv e=>(h3 x sv e).imp fun v k=>⟨k.1,k.2.low (fun i x hi e=>Am.low_at hi e) (los_lookup hlos e)⟩
 refine wpAny_mono (ar_le (h _ _ _ _ _ R) rfl (Nat.le_refl _) (Nat.le_refl _)) (fun fl s' hq=>?_) fun _ _ x=>x.elim
 refine hide fun Go jo=>?_
 obtain ⟨g',amc,cx',x,hg,ha,r',q,obs',news,hids,hob,hnew,hnd,hfr,vlo,k⟩:=hq
 obtain ⟨R',le⟩:=r.leave hsub hlo hg ha r' hids hob hnew hnd hfr
 refine jo ?_
 have z:VR g' (am.back amc (obs.map (·.1))) x.val (flV fl):=q.val.low (fun i a hi e=>Am.back_lo ha hi e) vlo
 cases fl <;> exact ⟨g',_,_,x.val,hg,le,R',z,k⟩
theorem fn_callK {c:Cst} {d u:Nat} {f:Addr} {fd:FuncData} {en:En} {body:List Stmt} {xs:List SV} {kw:List (Str×SV)} {cx:Cx} {K:SV→Cx→Prop} {loc:List (Str×SV)} {obs:List (Nat×SO)} (F:Fn c f fd en body) (hd:d<1000) (hb:BindOk c fd xs kw loc)
  (hsub:obs.Sublist cx.obj) (hlo:∀ p∈obs,p.1<100∧p.2.lo=true) (hlos:SV.los (loc.map (·.2))=true)
  (h:Sp c (d+1) (u+3) (fun L=>execs body (en.env L)) FlR ⟨loc,obs,100,cx.fr⟩ fun fl cx'=>Back cx obs K fl.val cx'):SpK c d u (.ref f) xs kw cx K:=(fn_callKc F hd hb hsub hlo hlos h).toK
theorem fn_call {c:Cst} {d u:Nat} {f:Addr} {fd:FuncData} {en:En} {body:List Stmt} {xs:List SV} {cx:Cx} {K:SV→Cx→Prop} {loc:List (Str×SV)} {obs:List (Nat×SO)} (F:Fn c f fd en body) (hd:d<1000) (hb:BindOk c fd xs [] loc)
  (hsub:obs.Sublist cx.obj) (hlo:∀ p∈obs,p.1<100∧p.2.lo=true) (hlos:SV.los (loc.map (·.2))=true)
  (h:Sp c (d+1) (u+3) (fun L=>execs body (en.env L)) FlR ⟨loc,obs,100,cx.fr⟩ fun fl cx'=>Back cx obs K fl.val cx'):SpC c d u (.ref f) xs cx K:=(fn_callK F hd hb hsub hlo hlos h).toC
theorem lookup_rev {names:List Str} (hn:names.Nodup):∀ {vs:List Value} {x:Str} {v:Value},(names.zip vs).lookup x=some v→(names.zip vs).reverse.lookup x=some v:=by
 induction names with
 | nil=>intro vs x v e; cases e
 | cons y r ih =>
  intro vs x v e
  rw [List.nodup_cons] at hn
  cases vs with
  | nil=>cases e
  | cons w ws =>
   simp only [List.zip_cons_cons,List.reverse_cons,List.lookup_append]
   simp only [List.zip_cons_cons,List.lookup] at e
   split at e
   ·rename_i q
    cases e
    have:=beq_iff_eq.mp q
    subst this
    have none:(r.zip ws).reverse.lookup x=none:=by
     rw [List.lookup_eq_none_iff]
     intro p hp
     have hp:=List.mem_reverse.mp hp
     have:p.1∈r:=(List.of_mem_zip hp).1
     exact bne_iff_ne.mpr fun (z:x=p.1)=>hn.1 (z▸this)
    rw [none]
    simp [List.lookup]
   ·rw [ih hn.2 e]; rfl
theorem VRs.zip {g:Heap} {am:Am} {names:List Str} {xs:List SV} {vs:List Value} (h:VRs g am xs vs) {x:Str} {sv:SV} (e:(names.zip xs).lookup x=some sv):∃ v,(names.zip vs).lookup x=some v∧VR g am sv v:=by
 refine h.ind (P:=fun xs vs=>∀ names:List Str,(names.zip xs).lookup x=some sv→∃ v,(names.zip vs).lookup x=some v∧VR g am sv v) (fun n e=>by rw [List.zip_nil_right] at e; cases e) (fun h _ ih names e=>?_) names e
 cases names with
 | nil=>cases e
 | cons y r =>
  by_cases q:x=y
  ·subst q
   exact ⟨_,lookup_hd,Option.some.inj (lookup_hd.symm.trans e)▸h⟩
  ·have:=ih r ((lookup_tl q).symm.trans e)
   rwa [List.zip_cons_cons,lookup_tl q]
theorem BindOk.pos {c:Cst} {fd:FuncData} {xs:List SV} {names:List Str} (hb:∀ vs:List Value,vs.length=xs.length→bindArgs fd ⟨vs,[]⟩=pure (names.zip vs)) (hl:∀ n∈names,fd.scope.names.lookup n=some .local) (hn:names.Nodup) :
  BindOk c fd xs [] (names.zip xs):=fun g am s vs ks _ _ hv hk=>by
 cases hk using VRs.nilE
 exact ⟨names.zip vs,.of_eq (hb vs hv.length.symm),fun y hy=>hl _ (List.of_mem_zip hy).1,fun x sv e=>(hv.zip e).imp fun v k=>⟨lookup_rev hn k.1,k.2⟩⟩
theorem iteT {a b:Prop} (h:if true=true then a else b):a:=h
theorem iteF {a b:Prop} (h:if false=true then a else b):b:=h
section
variable {c:Cst} {d u:Nat} {e:En} {cx:Cx} {pos:Pos}
theorem sp_str {x:Str} {k:Nat} {K:SV→Cx→Prop} (h:K (.str x) cx):Sp c d u (fun L=>eval (.Constant (.str x) k pos) (e.env L)) VR cx K :=
 fun _ _ _ _ s r=>Constant_str (Ends.here (s':={ s with toks:=s.toks+1 }) r.toks (.str x _) h)
theorem sp_none {k:Nat} {K:SV→Cx→Prop} (h:K .none cx):Sp c d u (fun L=>eval (.Constant .none k pos) (e.env L)) VR cx K :=
 fun _ _ _ _ _ r _ _ _=>Ends.here r .none h
theorem sp_bool {b:Bool} {k:Nat} {K:SV→Cx→Prop} (h:K (.bool b) cx):Sp c d u (fun L=>eval (.Constant (.bool b) k pos) (e.env L)) VR cx K :=
 fun _ _ _ _ _ r _ _ _=>Ends.here r (.bool b) h
theorem st_cmp {l r:Expr} {op:CmpOp} {K:Bool→Cx→Prop}
  (h:Sp c d u (fun L=>eval l (e.env L)) VR cx fun x cx1=>Sp c d u (fun L=>eval r (e.env L)) VR cx1 fun y cx2=>Sp2 c d u (fun a b=>compareOp op a b) VR x y cx2 fun z cx3=>∃ b,z = .bool b∧K b cx3)
  (hm:behindInMarks op r=false:=by with_unfolding_all rfl):SpT c d u e (.Compare l [op] [r] pos) cx K:=fun fx g am L s R =>
 wpAny_isTrue_Compare1 (step (h fx g am L s R) fun a _ g1 am1 _ _ l1 a1 r1 q1 k1=>step (k1 fx g1 am1 L _ r1) fun b _ g2 am2 _ _ l2 a2 r2 q2 k2 =>
  step (k2 fx g2 am2 L _ a b r2 (q1.mono l2 a2) q2) fun v _ g3 am3 cx3 z l3 a3 r3 q3 k3=>by
   refine hide fun Go jo=>?_
   obtain ⟨t,rfl,k⟩:=k3
   cases q3 using VR.boolE
   refine jo ?_
   exact wpAny_truthy_bool ⟨g3,am3,cx3,t,(l1.trans l2).trans l3,(a1.trans a2).trans a3,r3,rfl,k⟩) hm
theorem st_not {x:Expr} {K:Bool→Cx→Prop} (h:SpT c d u e x cx fun b cx1=>K (!b) cx1):SpT c d u e (.UnaryOp .Not x pos) cx K:=fun fx g am L s R =>
 isTrue_not (step (h fx g am L s R) fun v _ g1 am1 cx1 b l1 a1 r1 q1 k1=>by cases q1; exact ⟨g1,am1,cx1,_,l1,a1,r1,rfl,k1⟩)
theorem st_and_nil {K:Bool→Cx→Prop} (h:K true cx):SpT c d u e (.BoolOp .And [] pos) cx K:=fun _ _ _ _ _ R=>isTrue_and_nil (Ends.here R rfl h)
theorem st_or_nil {K:Bool→Cx→Prop} (h:K false cx):SpT c d u e (.BoolOp .Or [] pos) cx K:=fun _ _ _ _ _ R=>isTrue_or_nil (Ends.here R rfl h)
theorem st_and {x:Expr} {rest:List Expr} {K:Bool→Cx→Prop} (h:SpT c d u e x cx fun b cx1=>if b=true then SpT c d u e (.BoolOp .And rest pos) cx1 K else K false cx1):SpT c d u e (.BoolOp .And (x :: rest) pos) cx K:=fun fx g am L s R =>
 isTrue_and (step (h fx g am L s R) fun v _ g1 am1 cx1 b l1 a1 r1 q1 k1=>by
  cases q1
  cases v with
  | true=>exact wup l1 a1 ((iteT k1) fx g1 am1 L _ r1)
  | false=>exact ⟨g1,am1,cx1,false,l1,a1,r1,rfl,iteF k1⟩)
theorem st_or {x:Expr} {rest:List Expr} {K:Bool→Cx→Prop} (h:SpT c d u e x cx fun b cx1=>if b=true then K true cx1 else SpT c d u e (.BoolOp .Or rest pos) cx1 K):SpT c d u e (.BoolOp .Or (x :: rest) pos) cx K:=fun fx g am L s R =>
 isTrue_or (step (h fx g am L s R) fun v _ g1 am1 cx1 b l1 a1 r1 q1 k1=>by
  cases q1
  cases v with
  | true=>exact ⟨g1,am1,cx1,true,l1,a1,r1,rfl,iteT k1⟩
  | false=>exact wup l1 a1 ((iteF k1) fx g1 am1 L _ r1))
theorem st_val {x:Expr} {K:Bool→Cx→Prop} (h:Sp c d u (fun L=>eval x (e.env L)) VR cx fun v cx1=>Sp1 c d u (fun a=>truthy a) BR v cx1 K)
  (he:∀ L,isTrue x (e.env L) (eval x (e.env L))=(do let v ← eval x (e.env L); standAt x.pos; holding [v] (truthy v)):=by intro L; rfl):SpT c d u e x cx K:=fun fx g am L s R =>
 isTrue_plain (step (h fx g am L s R) fun v _ g1 am1 cx1 b l1 a1 r1 q1 k1=>wup l1 a1 (k1 fx g1 am1 L _ v r1 q1)) (he L)
theorem tr_bool {b:Bool} {K:Bool→Cx→Prop} (h:K b cx):Sp1 c d u (fun a=>truthy a) BR (.bool b) cx K:=fun _ _ _ _ _ _ R q=>by cases q using VR.boolE; exact wpAny_truthy_bool (Ends.here R rfl h)
theorem tr_str {x:Str} {K:Bool→Cx→Prop} (hx:x.length<2 ^ 62) (h:K ((x.length:Int) != 0) cx):Sp1 c d u (fun a=>truthy a) BR (.str x) cx K:=fun _ _ _ _ _ _ R q=>by
 cases q using VR.strE; exact PySem.P.truthy_str (by lia) (Ends.here R.toks rfl h)
theorem sp_and1 {x:Expr} {op:BoolOp} {K:SV→Cx→Prop} (h:Sp c d u (fun L=>eval x (e.env L)) VR cx K):Sp c d u (fun L=>eval (.BoolOp op [x] pos) (e.env L)) VR cx K:=fun fx g am L s R=>BoolOp_one (h fx g am L s R)
theorem sp_and {x y:Expr} {rest:List Expr} {K:SV→Cx→Prop}
  (h:Sp c d u (fun L=>eval x (e.env L)) VR cx fun v cx1=>Sp1 c d u (fun a=>truthy a) BR v cx1 fun b cx2=>if b=true then Sp c d u (fun L=>eval (.BoolOp .And (y :: rest) pos) (e.env L)) VR cx2 K else K v cx2) :
  Sp c d u (fun L=>eval (.BoolOp .And (x :: y :: rest) pos) (e.env L)) VR cx K:=fun fx g am L s R =>
 BoolOp_and (step (h fx g am L s R) fun v _ g1 am1 cx1 w l1 a1 r1 q1 k1=>step (k1 fx g1 am1 L _ v r1 q1) fun b _ g2 am2 cx2 t l2 a2 r2 q2 k2=>by
  cases q2
  cases b with
  | true=>exact wup (l1.trans l2) (a1.trans a2) ((iteT k2) fx g2 am2 L _ r2)
  | false=>exact ⟨g2,am2,cx2,w,l1.trans l2,a1.trans a2,r2,q1.mono l2 a2,iteF k2⟩)
theorem sp_or {x y:Expr} {rest:List Expr} {K:SV→Cx→Prop}
  (h:Sp c d u (fun L=>eval x (e.env L)) VR cx fun v cx1=>Sp1 c d u (fun a=>truthy a) BR v cx1 fun b cx2=>if b=true then K v cx2 else Sp c d u (fun L=>eval (.BoolOp .Or (y :: rest) pos) (e.env L)) VR cx2 K) :
  Sp c d u (fun L=>eval (.BoolOp .Or (x :: y :: rest) pos) (e.env L)) VR cx K:=fun fx g am L s R =>
 BoolOp_or (step (h fx g am L s R) fun v _ g1 am1 cx1 w l1 a1 r1 q1 k1=>step (k1 fx g1 am1 L _ v r1 q1) fun b _ g2 am2 cx2 t l2 a2 r2 q2 k2=>by
  cases q2
  cases b with
  | true=>exact ⟨g2,am2,cx2,w,l1.trans l2,a1.trans a2,r2,q1.mono l2 a2,iteT k2⟩
  | false=>exact wup (l1.trans l2) (a1.trans a2) ((iteF k2) fx g2 am2 L _ r2))
noncomputable def SpArgs (c:Cst) (d u:Nat) (e:En):List Expr→Cx→(List SV→Cx→Prop)→Prop
 | [],cx,K=>K [] cx
 | x :: rest,cx,K=>Sp c d u (fun L=>eval x (e.env L)) VR cx fun v cx1=>SpArgs c d u e rest cx1 fun vs cx2=>K (v :: vs) cx2
noncomputable def noStars:List Expr→Bool
 | []=>true
 | .Starred _ _ :: _=>false
 | _ :: r=>noStars r
theorem starEach_cons {x:Expr} {rest:List Expr} {env:Env} (h:noStars (x :: rest)=true):starEach (x :: rest) env=(false,eval x env) :: starEach rest env∧noStars rest=true:=by
 cases x <;> first | exact ⟨rfl,h⟩ | cases h
theorem SpArgs.spliced {es:List Expr} (hs:noStars es=true):∀ {cx:Cx} {K:List SV→Cx→Prop},SpArgs c d u e es cx K→Sp c d u (fun L=>PySem.spliced (backTo pos (starEach es (e.env L)))) VRs cx K:=by
 induction es with
 | nil=>intro cx K h fx g am L s R; exact args_nil (Ends.here R .nil h)
 | cons x rest ih =>
  intro cx K h fx g am L s R
  obtain ⟨he,hs'⟩:=starEach_cons (env:=e.env L) hs
  exact args_cons (step (h fx g am L s R) fun v _ g1 am1 cx1 w l1 a1 r1 q1 k1=>step (ih hs' k1 fx g1 am1 L _ r1) fun vs _ g2 am2 cx2 ws l2 a2 r2 q2 k2=>⟨g2,am2,cx2,w :: ws,l1.trans l2,a1.trans a2,r2,.cons (q1.mono l2 a2) q2,k2⟩) he
theorem SpArgs.evalArgs {es:List Expr} (hs:noStars es=true) {f:Value} {K:List SV→Cx→Prop} (h:SpArgs c d u e es cx K) :
  Sp c d u (fun L=>PySem.evalArgs f true (backTo pos (starEach es (e.env L))) []) (fun g am xs a=>a.kw=[]∧VRs g am xs a.pos) cx K:=by
 cases es with
 | nil=>intro fx g am L s R; exact PyProof.Rows.evalArgs_none (Ends.here R ⟨rfl,.nil⟩ h)
 | cons x rest =>
  intro fx g am L s R
  have z:=SpArgs.spliced (pos:=pos) hs h fx g am L s R
  obtain ⟨he,hs'⟩:=starEach_cons (env:=e.env L) hs
  dsimp only at z ⊢
  rw [he] at z ⊢
  exact evalArgs_plain (step z fun vs _ g1 am1 cx1 ws l1 a1 r1 q1 k1=>⟨g1,am1,cx1,ws,l1,a1,r1,⟨rfl,q1⟩,k1⟩)
noncomputable def Kp (c:Cst) (f:Value):Prop:=(∃ id,f = .builtin id)∨(∃ T,f = .type T)∨keepIn c.K f=true
theorem backTo_plain {es:List Expr} {env:Env} (hs:noStars es=true):(backTo pos (starEach es env)).any (·.1)=false:=by
 induction es with
 | nil=>rfl
 | cons x rest ih =>
  obtain ⟨he,hs'⟩:=starEach_cons (env:=env) hs
  rw [he]
  exact ih hs'
theorem sp_callWith {β:Type} {Rv:Heap→Am→β→Value→Prop} {f:Value} {es:List Expr} (hf:Kp c f) (hs:noStars es=true) {xs:List SV} {K:β→Cx→Prop} (h:SpArgs c d u e es cx fun ys cx1=>SpN c d u (fun vs=>call f vs) Rv (xs++ys) cx1 K)
  {fx:Fx} {g:Heap} {am:Am} {L:Addr} {s:Shared} (R:Rep c fx g am L cx s) {first:List Value} (hx:VRs g am xs first) :
  wpAny c.M (Ar d u) (callWith pos f first (backTo pos (starEach es (e.env L))) []) (Ends c fx g am L Rv K) No s:=by
 have z:=SpArgs.evalArgs (pos:=pos) (f:=f) hs h fx g am L s R
 have fin:wpAny c.M (Ar d u) (PySem.evalArgs f true (backTo pos (starEach es (e.env L))) []) (fun a s₁=>c.K.In s₁.heap∧wpAny c.M (Ar d u) (call f (first++a.pos) a.kw) (Ends c fx g am L Rv K) No s₁) No s :=
  step z fun a s1 g1 am1 cx1 ys l1 a1 r1 q1 k1=>⟨r1.top.X.keeps r1.sub,by rw [q1.1]; exact wup l1 a1 (k1 fx g1 am1 L s1 (first++a.pos) r1 ((hx.mono l1 a1).append q1.2))⟩
 rcases hf with ⟨id,rfl⟩ | ⟨T,rfl⟩ | hf
 ·exact callWith_builtin (backTo_plain hs) (wpAny_mono fin (fun _ _ x=>x.2) fun _ _ x=>x)
 ·exact PyProof.Rows.callWith_type (backTo_plain hs) (wpAny_mono fin (fun _ _ x=>x.2) fun _ _ x=>x)
 ·exact callWith_of (P:=fun h=>c.K.In h) (by rw [backTo_plain hs]; rfl) (keeps_K hf) fin
theorem sp_call {β:Type} {Rv:Heap→Am→β→Value→Prop} {func:Expr} {es:List Expr} {K:β→Cx→Prop} (h:Sp c d u (fun L=>eval func (e.env L)) VR cx fun f cx1=>∃ v,f = .g v∧Kp c v∧SpArgs c d u e es cx1 fun ys cx2=>SpN c d u (fun vs=>call v vs) Rv ys cx2 K)
  (hs:noStars es=true:=by rfl)
  (he:∀ L,eval (.Call func es [] pos) (e.env L)=(do callWith pos (← eval func (e.env L)) [] (backTo pos (starEach es (e.env L))) (backToKw pos (keywordEach [] (e.env L)))):=by intro L; rfl) :
  Sp c d u (fun L=>eval (.Call func es [] pos) (e.env L)) Rv cx K:=fun fx g am L s R =>
 Call_ (step (h fx g am L s R) fun v _ g1 am1 cx1 w l1 a1 r1 q1 k1=>by
  refine hide fun Go jo=>?_
  obtain ⟨f,rfl,hf,k⟩:=k1
  cases q1 using VR.gE
  refine jo ?_
  exact wup l1 a1 (sp_callWith hf hs (xs:=[]) k r1 .nil)) (he L)
noncomputable def MR (g:Heap) (am:Am) (x:Value×List SV) (v:Value×List Value):Prop:=v.1=x.1∧VRs g am x.2 v.2
noncomputable def SpM (c:Cst) (d u:Nat) (name:Str) (x:SV) (cx:Cx) (K:Value×List SV→Cx→Prop):Prop:=∀ pl,Sp1 c d u (fun v=>getMethod v name pl) MR x cx K
theorem sp_meth {o:Expr} {name:Str} {apos:Pos} {es:List Expr} {K:SV→Cx→Prop}
  (h:Sp c d u (fun L=>eval o (e.env L)) VR cx fun x cx1=>SpM c d u name x cx1 fun f cx2=>Kp c f.1∧SpArgs c d u e es cx2 fun ys cx3=>SpC c d u f.1 (f.2++ys) cx3 K)
  (hs:noStars es=true:=by rfl)
  (he:∀ L,eval (.Call (.Attribute o name apos) es [] pos) (e.env L)=(do
   let ov ← eval o (e.env L)
   standAt apos.atName
   let (f,first) ← holding [ov] (getMethod ov name (do return (← importBound o (e.env L)).getD true))
   callWith pos f first (backTo pos (starEach es (e.env L))) []):=by intro L; rfl) :
  Sp c d u (fun L=>eval (.Call (.Attribute o name apos) es [] pos) (e.env L)) VR cx K:=fun fx g am L s R =>
 MethodCall_ (step (h fx g am L s R) fun v _ g1 am1 cx1 w l1 a1 r1 q1 k1=>step (k1 _ fx g1 am1 L _ v r1 q1) fun f _ g2 am2 cx2 x l2 a2 r2 q2 k2=>by
  refine hide fun Go jo=>?_
  obtain ⟨f1,f2⟩:=f
  obtain ⟨x1,x2⟩:=x
  obtain ⟨e1,e2⟩:=q2
  refine jo ?_
  dsimp only at e1 e2 k2 ⊢
  subst e1
  exact wup (l1.trans l2) (a1.trans a2) (sp_callWith k2.1 hs k2.2 r2 e2)) (he L)
theorem sp_attr {o:Expr} {name:Str} {K:SV→Cx→Prop} (h:Sp c d u (fun L=>eval o (e.env L)) VR cx fun x cx1=>Sp1 c d u (fun v=>getAttr v name true) VR x cx1 K)
  (he:∀ L,eval (.Attribute o name pos) (e.env L)=(do
   let ov ← eval o (e.env L)
   standAt pos.atName
   let r ← holding [ov] (getAttr ov name true)
   letTemporaryGo o ov r
   pure r):=by intro L; with_unfolding_all rfl) :
  Sp c d u (fun L=>eval (.Attribute o name pos) (e.env L)) VR cx K:=fun fx g am L s R =>
 Attribute_any_ (step (h fx g am L s R) fun v _ g1 am1 cx1 w l1 a1 r1 q1 k1=>wup l1 a1 (k1 fx g1 am1 L _ v r1 q1)) (he L)
theorem sp_sub {o i:Expr} {K:SV→Cx→Prop} (h:Sp c d u (fun L=>eval o (e.env L)) VR cx fun x cx1=>Sp c d u (fun L=>eval i (e.env L)) VR cx1 fun y cx2=>Sp2 c d u (fun a b=>subscriptTail o i a b) VR x y cx2 K) :
  Sp c d u (fun L=>eval (.Subscript o i pos) (e.env L)) VR cx K:=fun fx g am L s R =>
 Subscript_ (step (h fx g am L s R) fun a _ g1 am1 _ _ l1 a1 r1 q1 k1=>step (k1 fx g1 am1 L _ r1) fun b _ g2 am2 _ _ l2 a2 r2 q2 k2 =>
  wup (l1.trans l2) (a1.trans a2) (k2 fx g2 am2 L _ a b r2 (q1.mono l2 a2) q2))
theorem sp_list {es:List Expr} {K:SV→Cx→Prop} (h:SpArgs c d u e es cx fun xs cx1=>xs.length≤1000∧K (.ref cx1.nx) (cx1.add (.list xs))) (hs:noStars es=true:=by rfl):Sp c d u (fun L=>eval (.List es pos) (e.env L)) VR cx K:=fun fx g am L s R =>
 List_ (step (SpArgs.spliced hs h fx g am L s R) fun vs s1 g1 am1 cx1 xs l1 a1 r1 q1 k1=>by
  refine wpAny_newObj_type ?_ (by show vs.toArray.size≤sizeLine; have:=q1.length; have:=k1.1; rw [List.size_toArray,sizeLine_eq]; lia)
  refine ⟨g1,am1.set cx1.nx [s1.heap.objs.size],cx1.add (.list xs),.ref cx1.nx,l1,a1.trans (Am.set_le _ _ (r1.nx _ (Nat.le_refl _))),?_,.ref (Am.at_set ..),k1.2⟩
  exact r1.alloc (t:=s1.toks) ⟨_,vs,rfl,⟨_,Heap.get?_push_size _ rfl⟩,q1.mono (.refl _) (Am.set_le _ _ (r1.nx _ (Nat.le_refl _)))⟩)
theorem sp_tup {es:List Expr} {k:Nat} {K:SV→Cx→Prop} (h:SpArgs c d u e es cx fun xs cx1=>xs.length≤1000∧K (.tup xs) cx1) (hs:noStars es=true:=by rfl):Sp c d u (fun L=>eval (.Tuple es k pos) (e.env L)) VR cx K:=fun fx g am L s R =>
 Tuple_ (step (SpArgs.spliced hs h fx g am L s R) fun vs s1 g1 am1 cx1 xs l1 a1 r1 q1 k1=>by
  refine wpAny_newObj_type ?_ (by show vs.toArray.size≤sizeLine; have:=q1.length; have:=k1.1; rw [List.size_toArray,sizeLine_eq]; lia)
  refine hide fun Go jo=>?_
  obtain ⟨g2,le,e2,r2⟩:=r1.pushF (o:={ cls:=.type "tuple",data:=.seq vs.toArray }) rfl (t:=s1.toks)
  refine jo ?_
  exact ⟨g2,am1,cx1,.tup xs,l1.trans le,a1,r2,.tup ⟨_,e2,rfl,_,rfl⟩ (q1.mono le (.refl _)),k1.2⟩)
noncomputable abbrev SpS (c:Cst) (d u:Nat) (e:En) (t:Stmt) (cx:Cx) (K:Fl→Cx→Prop):Prop:=Sp c d u (fun L=>exec t (e.env L)) FlR cx K
noncomputable abbrev SpSs (c:Cst) (d u:Nat) (e:En) (ts:List Stmt) (cx:Cx) (K:Fl→Cx→Prop):Prop:=Sp c d u (fun L=>execs ts (e.env L)) FlR cx K
noncomputable def Then (c:Cst) (d u:Nat) (e:En) (ts:List Stmt) (K:Fl→Cx→Prop):Fl→Cx→Prop
 | .next,cx=>SpSs c d u e ts cx K
 | f,cx=>K f cx
theorem ss_nil {K:Fl→Cx→Prop} (h:K .next cx):SpSs c d u e [] cx K:=fun _ _ _ _ _ R=>wpAny_execs_nil (Ends.here R .next h)
theorem ss_cons {t:Stmt} {ts:List Stmt} {K:Fl→Cx→Prop} (h:SpS c d u e t cx (Then c d u e ts K)):SpSs c d u e (t :: ts) cx K:=fun fx g am L s R =>
 wpAny_execs_cons (step (h fx g am L s R) fun f s1 g1 am1 cx1 fl l1 a1 r1 q1 k1=>by
  cases q1 with
  | next=>exact wup l1 a1 (k1 fx g1 am1 L s1 r1)
  | brk=>exact ⟨g1,am1,cx1,.brk,l1,a1,r1,.brk,k1⟩
  | cont=>exact ⟨g1,am1,cx1,.cont,l1,a1,r1,.cont,k1⟩
  | ret h=>exact ⟨g1,am1,cx1,.ret _,l1,a1,r1,.ret h,k1⟩)
theorem ss_if {t:Expr} {a b:List Stmt} {K:Fl→Cx→Prop} (h:SpT c d u e t cx fun x cx1=>if x=true then SpSs c d u e a cx1 K else SpSs c d u e b cx1 K):SpS c d u e (.If t a b pos) cx K:=fun fx g am L s R =>
 wpAny_If (step (h fx g am L s R) fun v _ g1 am1 _ x l1 a1 r1 q1 k1=>by
  cases q1
  cases v with
  | true=>exact wup l1 a1 (iteT k1 fx g1 am1 L _ r1)
  | false=>exact wup l1 a1 (iteF k1 fx g1 am1 L _ r1))
theorem ss_ret {x:Expr} {K:Fl→Cx→Prop} (h:Sp c d u (fun L=>eval x (e.env L)) VR cx fun v cx1=>K (.ret v) cx1):SpS c d u e (.Return (some x) pos) cx K:=fun fx g am L s R =>
 wpAny_Return_some (step (h fx g am L s R) fun v _ g1 am1 cx1 w l1 a1 r1 q1 k1=>⟨g1,am1,cx1,.ret w,l1,a1,r1,.ret q1,k1⟩)
theorem ss_ret0 {K:Fl→Cx→Prop} (h:K (.ret .none) cx):SpS c d u e (.Return none pos) cx K:=fun _ _ _ _ _ R=>wpAny_Return_none (Ends.here R (.ret .none) h)
theorem ss_brk {K:Fl→Cx→Prop} (h:K .brk cx):SpS c d u e (.Break pos) cx K:=fun _ _ _ _ _ R=>wpAny_Break (Ends.here R .brk h)
theorem ss_cont {K:Fl→Cx→Prop} (h:K .cont cx):SpS c d u e (.Continue pos) cx K:=fun _ _ _ _ _ R=>wpAny_Continue (Ends.here R .cont h)
theorem ss_expr {x:Expr} {K:Fl→Cx→Prop} (h:Sp c d u (fun L=>eval x (e.env L)) VR cx fun v cx1=>v = .none∧K .next cx1) (hi:∀ L,interactive (e.env L)=false:=by intro L; rfl) (hs:∀ L,swapsWith x none pos.line (e.env L)=pure false:=by intro L; rfl) :
  SpS c d u e (.Expr x pos) cx K:=fun fx g am L s R =>
 wpAny_Expr (step (h fx g am L s R) fun v _ g1 am1 cx1 w l1 a1 r1 q1 k1=>by
  refine hide fun Go jo=>?_
  obtain ⟨rfl,k⟩:=k1
  cases q1 using VR.noneE
  refine jo ?_
  exact ⟨g1,am1,cx1,.next,l1,a1,r1,.next,k⟩) (hi L) (hs L)
theorem ss_assign {x:Str} {p:Pos} {v:Expr} {K:Fl→Cx→Prop} (h:Sp c d u (fun L=>eval v (e.env L)) VR cx fun w cx1=>K .next (cx1.put x w))
  (hs:∀ L,swapsWith v (some (.Name x p)) pos.line (e.env L)=pure false:=by intro L; rfl) (hk:e.scope.kind = .function:=by rfl) (hl:e.scope.names.lookup x=some .local:=by rfl) :
  SpS c d u e (.Assign [.Name x p] v pos) cx K:=fun fx g am L s R =>
 wpAny_Assign_Name (step (h fx g am L s R) fun w s1 g1 am1 cx1 sv l1 a1 r1 q1 k1=>by
  obtain ⟨m,hm,hv⟩:=r1.fr
  refine wpAny_storeName_local hl hm (fun h' hn hs=>?_) (by show (e.scope.kind == .class||(e.scope.kind == .module&&_))=false; rw [hk]; rfl)
  exact ⟨g1,am1,_,.next,l1,a1,r1.store hv q1 hn hs,.next,k1⟩) (hs L)
end
section
open Builtin Builtin.ObjectAttr
noncomputable def GaOk (c:Cst) (C:Addr):Prop:=findIn c.K (.ref C) "__getattribute__" = some (some (.builtin "object.__getattribute__")) ∨
 (findIn c.K (.ref C) "__getattribute__" = some (some (.builtin "list.__getattribute__"))∧findIn c.K (.ref C) "__getattr__" = some none∧mroIn c.K C (.type "list")=some true)
theorem ga_ne:(Value.builtin "list.__getattribute__" == Value.builtin "object.__getattribute__")=false:=by decide +kernel
section
variable {c:Cst} {A:Around} {E:Value→Shared→Prop} {s:Shared} {x C:Addr} {ox:Obj} {od:Option Obj} {name:Str} {expr:Bool}
theorem getL_open {Q:Value→Shared→Prop} {r:Found} (X:c.K.In s.heap) (I:InstAt s.heap x ox C od) (hga:findIn c.K (.ref C) "__getattribute__" = some (some (.builtin "list.__getattribute__"))) (hk:findIn c.K (.ref C) "__getattr__" = some none) (hm:mroIn c.K C (.type "list")=some true) (hf:findObj c.K C od name=some r) (hne:r≠.missing)
  (h:wpAny c.M A.in1 (match r with | .value v=>ret v | .bind g a=>bindTo g a (.ref x) (.ref C) | .missing=>pure (.done .brk)) (fun fin s'=>match fin with | .done (.ret v)=>wpAny c.M A (handedOut v) Q E s' | _=>False) (fun _ _=>False) { s with toks:=s.toks+1 }):wpAny c.M A (getAttr (.ref x) name expr) Q E s:=by
 refine hide fun Go jo=>?_
 obtain ⟨hh,g,d,t,os⟩:=s
 refine jo ?_
 have L0:=I.type (M:=c.M)
 have L1:=looks_findIn (M:=c.M) X hga
 have L2:=looks_findIn (M:=c.M) X hk
 have L3:=looks_find (M:=c.M) X I hf
 have LI:Looks c.M hh (isInstance (.ref x) (.type "list")) true:=L0.andThen (looks_mroIn X hm)
 unfold getAttr getAttrBy
 refine wpAny_bind (wpAny_mkText (wpAny_holding (wpAny_bind (L0.at (wpAny_bind (L1.at ?_))))))
 dsimp only
 rw [ga_ne,Bool.and_false,if_neg (by decide)]
 refine wpAny_bind (L2.at (wpAny_bind (wpAny_attempt (wpAny_holding ?_))))
 unfold callGetattribute
 rw [show (expr&&onTheHeap (Value.builtin "list.__getattribute__"))=false from Bool.and_false _,if_neg (by decide)]
 unfold boundAndCalled
 rw [PySem.F.slot_list_getattribute.bind]
 refine wpAny_bind (wpAny_pure ?_)
 show wpAny _ _ (call (.builtin "list.__getattribute__") [.ref x,.str name t]) _ _ _
 refine wpAny_call (codeAny_call_builtin PySem.F.slot_list_getattribute.plain PySem.F.entry_list_ga ?_)
 refine @check_slot c.M _ _ ⟨hh,g,d,t+1,os⟩ "list.__getattribute__" "list" "__getattribute__" (.ref x) [.str name t] [] _ (by decide +kernel) (by decide +kernel) LI (PySem.F.args_list_getattribute_2 _ _) ?_
 unfold Builtin.«object.__getattribute__»
 repeat lk
 cases r with
 | missing=>exact absurd h (fun z=>hne rfl)
 | value v =>
  refine wpAny_mono h (fun fin s' z=>?_) fun _ _ z=>z.elim
  rcases fin with (_ | _ | _ | _) | _ <;> first | exact z | exact z.elim
 | bind g a =>
  refine wpAny_mono h (fun fin s' z=>?_) fun _ _ z=>z.elim
  rcases fin with (_ | _ | _ | _) | _ <;> first | exact z | exact z.elim
theorem get_valueG {v:Value} {Q:Value→Shared→Prop} (X:c.K.In s.heap) (I:InstAt s.heap x ox C od) (hga:GaOk c C) (hf:findObj c.K C od name=some (.value v)) (hh:handedIn v=true) (h:Q v { s with toks:=s.toks+1 }):wpAny c.M A (getAttr (.ref x) name expr) Q E s:=by
 rcases hga with hga | ⟨h1,h2,h3⟩
 ·exact get_value X I hga hf hh h
 ·refine getL_open X I h1 h2 h3 hf (by simp) ?_
  refine wpAny_pure ?_
  show wpAny _ _ (handedOut v) _ _ _
  rw [handedOut_of hh]; exact wpAny_pure h
theorem get_bindG {g a:Value} {Q:Value→Shared→Prop} (X:c.K.In s.heap) (I:InstAt s.heap x ox C od) (hga:GaOk c C) (hf:findObj c.K C od name=some (.bind g a)) (hk:findIn c.K (.ref C) "__getattr__" = some none)
  (h:wpAny c.M A.in1 (call g [a,.ref x,.ref C]) (fun v s'=>wpAny c.M A (handedOut v) Q E s') (fun _ _=>False) { s with toks:=s.toks+1 }):wpAny c.M A (getAttr (.ref x) name expr) Q E s:=by
 rcases hga with hga | ⟨h1,h2,h3⟩
 ·exact get_bind X I hga hf hk (wpAny_mono h (fun _ _ z=>z) fun _ _ z=>z.elim)
 ·refine getL_open X I h1 h2 h3 hf (by simp) ?_
  show wpAny _ _ (holding [a] (call g [a,.ref x,.ref C]) >>= ret) _ _ _
  exact wpAny_bind (wpAny_holding (wpAny_mono h (fun v s' z=>wpAny_pure z) fun _ _ z=>z))
theorem ga_head {Q:Option Value→Shared→Prop} {M:Model} (X:c.K.In s.heap) (hga:GaOk c C) (h:∀ id,(Manifest.canonical id != "object.__getattribute__")=false→Q (some (.builtin id)) s):wpAny c.M A (typeLookup (.ref C) "__getattribute__") Q E s:=by
 rcases hga with hga | ⟨h1,_,_⟩
 ·exact (looks_findIn X hga).here (h _ PySem.F.canon_object_ga)
 ·exact (looks_findIn X h1).here (h _ (by decide +kernel))
theorem method_fnG {f:Addr} {pl:Sem Bool} {Q:Value×List Value→Shared→Prop} (X:c.K.In s.heap) (I:InstAt s.heap x ox C od) (hga:GaOk c C) (hk:findIn c.K (.ref C) "__getattr__" = some none) (hf:findIn c.K (.ref C) name=some (some (.ref f))) (ht:typeIn c.K (.ref f)=some (.type "function")) (hs:shadowIn od name=some false) (h:Q (.ref f,[.ref x]) s) :
  wpAny c.M A (getMethod (.ref x) name pl) Q E s:=by
 unfold getMethod specialOf
 refine wpAny_bind (wpAny_bind (I.type.here (ga_head (M:=c.M) X hga fun id hcan=>?_)))
 dsimp only
 rw [hcan,if_neg (by decide)]
 refine wpAny_bind (wpAny_bind (I.type.here ((looks_findIn X hk).here ?_)))
 refine wpAny_bind (wpAny_bind (I.type.here ((looks_findIn X hf).here (wpAny_bind ((looks_typeIn X ht).here ?_)))))
 first | (with_reducible refine wp_neg ?_ ?_; · exact (by decide +kernel)) | rw [if_neg (by decide +kernel)]
 refine wpAny_bind (wpAny_loadPart I.at_ ?_)
 have hd:=I.dict
 cases e:ox.dict with
 | none=>exact wpAny_bind (wpAny_rule (wpAny_pure h))
 | some dx =>
  cases od with
  | none=>rw [e] at hd; exact hd.elim
  | some o =>
   rw [e] at hd
   obtain ⟨r,a,b⟩:=Option.map_eq_some_iff.mp hs
   refine wpAny_bind (wpAny_bind (wpAny_loadPart hd ?_))
   rw [nsLook_of a]
   refine wpAny_pure ?_
   rw [b]
   exact wpAny_bind (wpAny_rule (wpAny_pure h))
end
end
section
open Builtin Builtin.ObjectAttr
theorem getL_hd {x:Str} {k:Int} {t:Tok} {v:Value} {es:List DictEntry}:PySem.W.getL x (⟨k,.str x t,v⟩ :: es)=some (some v):=by
 unfold PySem.W.getL
 rw [List.find?_cons_of_pos (by simp [Value.isStr])]
theorem getL_tl {x y:Str} {k:Int} {t:Tok} {v:Value} {es:List DictEntry} (h:y≠x):PySem.W.getL y (⟨k,.str x t,v⟩ :: es)=PySem.W.getL y es:=by
 unfold PySem.W.getL
 rw [List.find?_cons_of_neg (by simp [Value.isStr,Ne.symm h]),List.any_cons]
 rfl
section
variable {g:Heap} {am:Am} {fs:List (Str×SV)} {es:List DictEntry} (h:FR g am fs es) {name:Str}
include h
theorem FR.getL {sv:SV} (e:fs.lookup name=some sv):∃ v,PySem.W.getL name es=some (some v)∧VR g am sv v :=
 h.ind (P:=fun fs es=>fs.lookup name=some sv→∃ v,PySem.W.getL name es=some (some v)∧VR g am sv v) (fun e=>nomatch e) (fun {x} _ _ _ _ v _ h _ ih e=>by
  by_cases q:name=x
  ·subst q
   have e:=lookup_hd.symm.trans e
   exact ⟨v,getL_hd,Option.some.inj e▸h⟩
  ·rw [getL_tl q]
   exact ih ((lookup_tl q).symm.trans e)) e
theorem FR.getL_none (e:fs.lookup name=none):PySem.W.getL name es=some none :=
 h.ind (P:=fun fs es=>fs.lookup name=none→PySem.W.getL name es=some none) (fun _=>rfl) (fun {x} _ _ _ _ _ _ _ _ ih e=>by
  by_cases q:name=x
  ·subst q
   exact nomatch lookup_hd.symm.trans e
  ·rw [getL_tl q]
   exact ih ((lookup_tl q).symm.trans e)) e
theorem FR.put {hsh:Int} {t:Tok} {sv:SV} {v:Value} (hv:VR g am sv v):FR g am (setL name sv fs) (putL name hsh (.str name t) v es) :=
 h.ind (P:=fun fs es=>FR g am (setL name sv fs) (putL name hsh (.str name t) v es)) (.cons hv .nil) fun {x} _ _ _ u _ _ h hs ih=>by
  unfold setL putL
  by_cases q:x=name
  ·subst q
   rw [if_pos rfl,if_pos (show (Value.str x u).isStr x=true by simp [Value.isStr])]
   exact .cons hv hs
  ·rw [if_neg q,if_neg (show ¬ (Value.str x u).isStr name=true by simpa [Value.isStr] using q)]
   exact .cons h ih
end
theorem setL_length (x:Str) (v:SV):∀ l:List (Str×SV),(setL x v l).length≤l.length+1
 | []=>Nat.le_refl _
 | p :: r=>by
  unfold setL
  split
  ·exact Nat.le_succ _
  ·exact Nat.succ_le_succ (setL_length x v r)
noncomputable def SV.handed:SV→Bool
 | .g v=>handedIn v
 | _=>true
theorem VR.handed {g:Heap} {am:Am} {x:SV} {v:Value} (h:VR g am x v) (e:x.handed=true):handedIn v=true:=by
 cases h <;> first | rfl | exact e
noncomputable def SO.fields?:SO→Option (Addr×List (Str×SV))
 | .inst C fs=>some (C,fs)
 | .linst C _ fs=>some (C,fs)
 | _=>none
noncomputable def SO.withFields:SO→List (Str×SV)→SO
 | .inst C _,fs=>.inst C fs
 | .linst C xs _,fs=>.linst C xs fs
 | o,_=>o
inductive LayF (g h:Heap) (am:Am) (C:Addr) (fs:List (Str×SV)) (as:List Addr):Prop
 | mk (a d:Addr) (ox:Obj) (es:List DictEntry) (n:Nat) (e:as=[a,d]) (h1:h.get? a=some ox) (hd:ox.dict=some d) (I:InstAt h a ox C (some (dictOf es n))) (h2:h.get? d=some (dictOf es n)) (r:FR g am fs es)
theorem Lay.fields {g h:Heap} {am:Am} {so:SO} {as:List Addr} {C:Addr} {fs:List (Str×SV)} (x:Lay g h am so as) (e:so.fields? = some (C,fs)) :
  LayF g h am C fs as:=by
 cases so with
 | inst C' fs' =>
  refine hide fun Go jo=>?_
  cases e
  obtain ⟨a,d,es,n,rfl,h1,h2,r⟩:=x
  refine jo ?_
  exact ⟨a,d,_,es,n,rfl,h1,rfl,⟨h1,rfl,rfl,h2⟩,h2,r⟩
 | linst C' xs fs' =>
  refine hide fun Go jo=>?_
  cases e
  obtain ⟨a,d,vs,k,es,n,rfl,h1,h2,r,r2⟩:=x
  refine jo ?_
  exact ⟨a,d,_,es,n,rfl,h1,rfl,⟨h1,rfl,rfl,h2⟩,h2,r⟩
 | _=>cases e
inductive AtR (g h:Heap) (am:Am) (cx:Cx) (i:Nat) (so:SO) (v:Value):Prop
 | mk (a:Addr) (rest:List Addr) (e:v = .ref a) (ea:am i=some (a :: rest)) (hm:(i,so)∈cx.obj) (l:Lay g h am so (a :: rest))
theorem Rep.at {c:Cst} {fx:Fx} {g:Heap} {am:Am} {L:Addr} {cx:Cx} {s:Shared} (r:Rep c fx g am L cx s) {i:Nat} {so:SO} {v:Value} (h:cx.obj.lookup i=some so) (hv:VR g am (.ref i) v) :
  AtR g s.heap am cx i so v:=by
 have hm:=mem_of_lookup h
 refine hide fun Go jo=>?_
 obtain ⟨as,e,l⟩:=r.lay _ hm
 obtain ⟨a,rest,rfl⟩:=l.ne_nil
 refine jo ?_
 cases hv with
 | ref q =>
  unfold Am.at at q
  rw [e] at q
  cases q
  exact ⟨a,rest,rfl,e,hm,l⟩
section
variable {c:Cst} {fx:Fx} {g h:Heap} {am:Am} {L:Addr} {cx:Cx} {s:Shared} {i:Nat} {so:SO} {v:Value} {C:Addr} {fs:List (Str×SV)} {xs:List SV}
inductive FldR (g h:Heap) (am:Am) (cx:Cx) (i:Nat) (so:SO) (C:Addr) (fs:List (Str×SV)) (v:Value):Prop
 | mk (a d:Addr) (ox:Obj) (es:List DictEntry) (n:Nat) (e:v = .ref a) (ea:am i=some [a,d]) (hm:(i,so)∈cx.obj) (l:Lay g h am so [a,d]) (h1:h.get? a=some ox) (hd:ox.dict=some d) (I:InstAt h a ox C (some (dictOf es n))) (h2:h.get? d=some (dictOf es n)) (r:FR g am fs es)
theorem Rep.fld (r:Rep c fx g am L cx s) (hi:cx.obj.lookup i=some so) (hf:so.fields? = some (C,fs)) (hv:VR g am (.ref i) v):FldR g s.heap am cx i so C fs v:=by
 obtain ⟨a,rest,e,ea,hm,l⟩:=r.at hi hv
 obtain ⟨a',dx,ox,es,n,e0,ho,hd,I,hdx,fr⟩:=l.fields hf
 obtain ⟨rfl,rfl⟩:=List.cons.inj e0
 exact ⟨_,_,ox,es,n,e,ea,hm,l,ho,hd,I,hdx,fr⟩
theorem Rep.layOf {as:List Addr} (r:Rep c fx g am L cx s) (hm:(i,so)∈cx.obj) (ea:am i=some as):Lay g s.heap am so as:=by
 obtain ⟨as',e,l⟩:=r.lay _ hm
 exact Option.some.inj (ea.symm.trans e)▸l
inductive FldL (g h:Heap) (am:Am) (C:Addr) (fs:List (Str×SV)) (a d:Addr):Prop
 | mk (ox:Obj) (es:List DictEntry) (n:Nat) (h1:h.get? a=some ox) (hd:ox.dict=some d) (I:InstAt h a ox C (some (dictOf es n))) (h2:h.get? d=some (dictOf es n)) (r:FR g am fs es)
theorem Lay.fld {a d:Addr} (l:Lay g h am so [a,d]) (hf:so.fields? = some (C,fs)):FldL g h am C fs a d:=by
 obtain ⟨a',d',ox,es,n,e,ho,hd,I,hdx,fr⟩:=l.fields hf
 obtain ⟨rfl,e2⟩:=List.cons.inj e
 obtain ⟨rfl,-⟩:=List.cons.inj e2
 exact ⟨ox,es,n,ho,hd,I,hdx,fr⟩
inductive LinR (g h:Heap) (am:Am) (C:Addr) (xs:List SV) (fs:List (Str×SV)) (a d:Addr):Prop
 | mk (vs:List Value) (k:Nat) (es:List DictEntry) (n:Nat) (p:h.get? a=some (linstObj C d vs k)) (q:h.get? d=some (dictOf es n)) (r:FR g am fs es) (s:VRs g am xs vs)
theorem Lay.lin {a d:Addr} (l:Lay g h am (.linst C xs fs) [a,d]):LinR g h am C xs fs a d:=by
 obtain ⟨a',d',vs,k,es,n,e,p,q,r,s⟩:=l
 obtain ⟨rfl,e2⟩:=List.cons.inj e
 obtain ⟨rfl,-⟩:=List.cons.inj e2
 exact ⟨vs,k,es,n,p,q,r,s⟩
inductive LstR (g h:Heap) (am:Am) (cx:Cx) (i:Nat) (xs:List SV) (v:Value):Prop
 | mk (a:Addr) (vs:List Value) (e:v = .ref a) (ea:am i=some [a]) (hm:(i,SO.list xs)∈cx.obj) (p:h.PlainList a vs.toArray) (q:VRs g am xs vs)
theorem Rep.lst (r:Rep c fx g am L cx s) (hi:cx.obj.lookup i=some (.list xs)) (hv:VR g am (.ref i) v):LstR g s.heap am cx i xs v:=by
 obtain ⟨a,rest,e,ea,hm,a',vs,e0,p,q⟩:=r.at hi hv
 obtain ⟨rfl,rfl⟩:=List.cons.inj e0
 exact ⟨_,vs,e,ea,hm,p,q⟩
inductive DeqR (g h:Heap) (am:Am) (cx:Cx) (i:Nat) (xs:List SV) (v:Value):Prop
 | mk (a:Addr) (vs:List Value) (k:Int) (e:v = .ref a) (ea:am i=some [a]) (hm:(i,SO.deq xs)∈cx.obj) (p:h.get? a=some (deqObj vs k)) (q:VRs g am xs vs)
theorem Rep.deqAt (r:Rep c fx g am L cx s) (hi:cx.obj.lookup i=some (.deq xs)) (hv:VR g am (.ref i) v):DeqR g s.heap am cx i xs v:=by
 obtain ⟨a,rest,e,ea,hm,a',vs,k,e0,p,q⟩:=r.at hi hv
 obtain ⟨rfl,rfl⟩:=List.cons.inj e0
 exact ⟨_,vs,k,e,ea,hm,p,q⟩
end
structure GetOk (c:Cst) (C:Addr) (name:Str):Prop where
 ga:GaOk c C
 dict:hasDictIn c.K C=true
 cls:∃ attr,findIn c.K (.ref C) name=some attr∧noGet c.K attr=true
section
variable {c:Cst} {d u:Nat} {cx:Cx}
theorem at_get {i:Nat} {so:SO} {C:Addr} {fs:List (Str×SV)} {name:Str} {sv:SV} {b:Bool} {K:SV→Cx→Prop} (hi:cx.obj.lookup i=some so) (hf:so.fields? = some (C,fs)) (ok:GetOk c C name) (hl:fs.lookup name=some sv) (hh:sv.handed=true) (h:K sv cx) :
  Sp1 c d u (fun v=>getAttr v name b) VR (.ref i) cx K:=fun fx g am L s v R hv=>by
 refine hide fun Go jo=>?_
 obtain ⟨a,dx,ox,es,n,rfl,ea,hm,l,ho,hd,I,hdx,fr⟩:=R.fld hi hf hv
 obtain ⟨w,e1,e2⟩:=fr.getL hl
 obtain ⟨attr,f1,f2⟩:=ok.cls
 refine jo ?_
 exact get_valueG (R.top.X.keeps R.sub) I ok.ga (findObj_own ok.dict f1 f2 (by rw [lookIn_dict]; exact e1)) (e2.handed hh) (Ends.here R.toks e2 h)
structure SetOk (c:Cst) (C:Addr) (name:Str):Prop where
 sa:findIn c.K (.ref C) "__setattr__" = some (some (.builtin "object.__setattr__"))
 cls:∃ cd,clsIn c.K C=some cd∧cd.hasDict=true∧cd.mro.isEmpty=false∧cd.mro.contains (.type "object")=true∧∀ self,refuseLoop self "__setattr__" cd.mro=pure ()
 tk:takerIn c.K C name=some none
theorem osa_mine {M:Cst} {A:Around} {x C:Addr} {ox:Obj} {od:Option Obj} {s:Shared} {name:Str} {tk:Tok} {v:Value} {R:Result→Shared→Prop} (X:M.K.In s.heap) (I:InstAt s.heap x ox C od) (ok:SetOk M C name)
  (h:∀ b,wpAny M.M A.in1 (storeInOwnDict (.ref x) (.ref C) (.str name tk) name v b)
   (fun fin s'=>match fin with | .done f=>R (.ok f) s' | .again c'=>c'.quiet=true∧codeAny M.M A c' R s') (fun e s'=>R (.error e) s') s) :
  codeAny M.M A (.call (.builtin "object.__setattr__") ⟨[.ref x,.str name tk,v],[]⟩) R s:=by
 have SF:=PySem.F.store_object
 refine hide fun Go jo=>?_
 obtain ⟨cd,hc,hd,ne,has,pass⟩:=ok.cls
 refine jo ?_
 have sub:Looks M.M s.heap (isInstance (.ref x) (.type "object")) true:=I.type.andThen (looks_mroIn X (by unfold mroIn; rw [hc,Option.bind_some,if_neg (by rw [ne]; decide),has]))
 refine codeAny_call_builtin SF.slot.plain SF.entry (@check_slot M.M _ _ s "object.__setattr__" "object" "__setattr__" (.ref x) [.str name tk,v] [] _ SF.kind SF.split sub (SF.args (.ref x) (.str name tk) v) ?_)
 obtain ⟨attr,ha,hr⟩:=Option.bind_eq_some_iff.mp ok.tk
 have hm:Looks M.M s.heap (mroOf (.ref C)) cd.mro:=(looks_clsIn X hc).andThen .now
 have L3:Looks M.M s.heap (storeTaker? attr) none:=by
  cases attr with
  | none=>cases hr; exact .now
  | some a =>
   obtain ⟨b,hb,hr⟩:=Option.map_eq_some_iff.mp hr
   refine (looks_takesIn X hb).andThen ?_
   cases b with
   | true=>cases hr
   | false=>exact .now
 rw [osa_eq,refuse_eq]
 refine wpAny_bind (wpAny_bind (I.type.here (wpAny_bind (hm.here ?_))))
 rw [pass]
 refine wpAny_pure (wpAny_bind (I.type.here (wpAny_bind ((looks_findIn X ha).here (wpAny_bind (L3.here ?_))))))
 exact h _
theorem set_mine {M:Cst} {A:Around} {x C dx:Addr} {ox:Obj} {es:List DictEntry} {n:Nat} {s:Shared} {name:Str} {v:Value} {Q:Unit→Shared→Prop} {E:Value→Shared→Prop} (X:M.K.In s.heap) (I:InstAt s.heap x ox C (some (dictOf es n))) (hd:ox.dict=some dx) (hdx:s.heap.get? dx=some (dictOf es n)) (ok:SetOk M C name)
  (hl:(getL name es).isSome=true) (hz:(putL name (PyData.keyHash M.w.params name) (.str name (s.toks+1)) v es).length≤1000)
  (h:Q () { s with heap:=s.heap.update dx (Obj.putName name (PyData.keyHash M.w.params name) (.str name (s.toks+1)) v),toks:=s.toks+2 }):wpAny M.M A (setAttr (.ref x) name v) Q E s:=by
 refine set_plain X I ok.sa (osa_mine (s:={ s with toks:=s.toks+1 }) X I ok fun b=>?_)
 refine hide fun Go jo=>?_
 obtain ⟨cd,hc,hdict,-⟩:=ok.cls
 have D':(s.heap.update dx (Obj.putName name (PyData.keyHash M.w.params name) (.str name (s.toks+1)) v)).get? dx=some (dictOf (putL name (PyData.keyHash M.w.params name) (.str name (s.toks+1)) v es) (putN name es n)):=by
  have:(Obj.putName name (PyData.keyHash M.w.params name) (.str name (s.toks+1)) v (dictOf es n)).isFreed=false:=by rw [putName_dict]; rfl
  have z:=Heap.get?_update_self _ hdx this
  rwa [putName_dict] at z
 obtain ⟨hx,hcl,hn,-⟩:=I
 obtain ⟨oc,odi,oda,osl⟩:=ox
 dsimp only at hcl hd
 subst hcl hd
 refine jo ?_
 refine wpAny_bind (wpAny_pure (wpAny_bind (wpAny_bind (wpAny_loadPart hx (wpAny_bind (Looks.here (s:={ s with toks:=s.toks+1 }) (looks_clsIn X hc) ?_))))))
 rw [hdict]
 refine wpAny_pure (a:=some dx) (wpAny_bind (wpAny_pure (wpAny_bind ?_)))
 unfold nsSet
 refine wpAny_bind (wpAny_bind (wpAny_askSetting (wpAny_pure (wpAny_bind (wpAny_mkText (wpAny_bind (wpAny_loadPart hdx ?_)))))))
 dsimp only
 have cc:(!es.toArray.any (·.key.isStr name)&&es.toArray.any (·.refKey))=false:=by
  rw [← Array.any_toList,← Array.any_toList]
  unfold getL at hl
  split at hl
  ·rename_i en he
   rw [List.any_eq_true.mpr ⟨en,List.mem_of_find?_eq_some he,List.find?_some he⟩]; rfl
  ·split at hl
   ·cases hl
   ·rename_i z; rw [Bool.not_eq_true] at z; rw [z,Bool.and_false]
 rw [aRefKeyMayBeTheName_at,cc]
 refine wpAny_updatePart hdx ?_
 refine wpAny_bind (wpAny_lookBehind D' (pastItsLine_dict (by rw [List.size_toArray,sizeLine_eq]; lia)) ?_)
 exact wpAny_pure h
theorem update_same {h:Heap} {a:Addr} {f:Obj→Obj} {as:List Addr} (ha:a∈as):∀ b,b∉as→(h.update a f).get? b=h.get? b:=fun b hb=>Heap.get?_update_ne _ _ _ _ fun q=>hb (q▸ha)
theorem update_size (h:Heap) (a:Addr) (f:Obj→Obj):(h.update a f).objs.size=h.objs.size:=by
 obtain ⟨objs,l⟩:=h
 show (objs.modify a f).size=objs.size
 simp
theorem at_set {i:Nat} {so:SO} {C:Addr} {fs:List (Str×SV)} {name:Str} {sv:SV} {K:Unit→Cx→Prop} (hi:cx.obj.lookup i=some so) (hf:so.fields? = some (C,fs)) (ok:SetOk c C name) (hz:fs.length<1000) (h:K () (cx.set i (so.withFields (setL name sv fs)))) :
  Sp2 c d u (fun o v=>setAttr o name v) UR (.ref i) sv cx K:=fun fx g am L s o v R ho hv=>by
 refine hide fun Go jo=>?_
 obtain ⟨a,dx,ox,es,n,rfl,ea,hm,l,hox,hd,I,hdx,fr⟩:=R.fld hi hf ho
 refine jo ?_
 have hl:(getL name es).isSome=true:=by
  cases q:fs.lookup name with
  | none=>rw [fr.getL_none q]; rfl
  | some w=>obtain ⟨w',e1,_⟩:=fr.getL q; rw [e1]; rfl
 have fr':=fr.put (name:=name) (hsh:=PyData.keyHash c.w.params name) (t:=s.toks+1) hv
 have len:(putL name (PyData.keyHash c.w.params name) (.str name (s.toks+1)) v es).length≤1000:=by
  rw [← fr'.length]; have:=setL_length name sv fs; lia
 refine set_mine (R.top.X.keeps R.sub) I hd hdx ok hl len ?_
 have nda:a≠dx:=fun q=>by
  have nd:=owned_parts (List.nodup_cons.mp R.nd).2 hm ea
  subst q
  simp at nd
 have D':(s.heap.update dx (Obj.putName name (PyData.keyHash c.w.params name) (.str name (s.toks+1)) v)).get? dx=some (dictOf (putL name (PyData.keyHash c.w.params name) (.str name (s.toks+1)) v es) (putN name es n)):=by
  have:(Obj.putName name (PyData.keyHash c.w.params name) (.str name (s.toks+1)) v (dictOf es n)).isFreed=false:=by rw [putName_dict]; rfl
  have z:=Heap.get?_update_self _ hdx this
  rwa [putName_dict] at z
 have same:(s.heap.update dx (Obj.putName name (PyData.keyHash c.w.params name) (.str name (s.toks+1)) v)).get? a=s.heap.get? a:=Heap.get?_update_ne _ _ _ _ nda
 refine Ends.here (R.set (t:=s.toks+2) hm ea (update_same (by simp)) (Nat.le_of_eq (update_size ..).symm) ?_) trivial h
 cases so with
 | inst C' fs' =>
  refine hide fun Go jo=>?_
  cases hf
  obtain ⟨a2,d2,es2,n2,e2,h1,h2,r2⟩:=l
  cases e2
  refine jo ?_
  exact ⟨a,dx,_,_,rfl,same.trans h1,D',fr'⟩
 | linst C' xs fs' =>
  refine hide fun Go jo=>?_
  cases hf
  obtain ⟨a2,d2,vs2,k2,es2,n2,e2,h1,h2,r2,r3⟩:=l
  cases e2
  refine jo ?_
  exact ⟨a,dx,vs2,k2,_,_,rfl,same.trans h1,D',fr',r3⟩
 | _=>cases hf
structure MethOk (c:Cst) (C:Addr) (name:Str) (f:Addr):Prop where
 ga:GaOk c C
 gn:findIn c.K (.ref C) "__getattr__" = some none
 cls:findIn c.K (.ref C) name=some (some (.ref f))
 fn:typeIn c.K (.ref f)=some (.type "function")
theorem at_meth {i:Nat} {so:SO} {C:Addr} {fs:List (Str×SV)} {name:Str} {f:Addr} {K:Value×List SV→Cx→Prop} (hi:cx.obj.lookup i=some so) (hf:so.fields? = some (C,fs)) (ok:MethOk c C name f) (hl:fs.lookup name=none) (h:K (.ref f,[.ref i]) cx) :
  SpM c d u name (.ref i) cx K:=fun pl fx g am L s v R hv=>by
 have hv':=hv
 refine hide fun Go jo=>?_
 obtain ⟨a,dx,ox,es,n,rfl,ea,hm,l,ho,hd,I,hdx,fr⟩:=R.fld hi hf hv
 refine jo ?_
 exact method_fnG (R.top.X.keeps R.sub) I ok.ga ok.gn ok.cls ok.fn (by show (lookIn name (dictOf es n)).map _=_; rw [lookIn_dict,fr.getL_none hl]; rfl) (Ends.here R ⟨rfl,.cons hv' .nil⟩ h)
end
end
section
variable {c:Cst} {d u:Nat} {cx:Cx}
theorem o_addi {a b:Int} {K:SV→Cx→Prop} (h:K (.int (a+b)) cx):Sp2 c d u (fun x y=>binaryOp .Add x y) VR (.int a) (.int b) cx K:=fun _ _ _ _ _ _ _ R q q'=>by cases q using VR.intE; cases q' using VR.intE; exact P.add_int (Ends.here R.toks (.int _ _) h)
theorem o_subi {a b:Int} {K:SV→Cx→Prop} (h:K (.int (a - b)) cx):Sp2 c d u (fun x y=>binaryOp .Sub x y) VR (.int a) (.int b) cx K:=fun _ _ _ _ _ _ _ R q q'=>by cases q using VR.intE; cases q' using VR.intE; exact P.sub_int (Ends.here R.toks (.int _ _) h)
theorem o_modi {a b:Int} {K:SV→Cx→Prop} (hb:b≠0) (h:K (.int (a.fmod b)) cx):Sp2 c d u (fun x y=>binaryOp .Mod x y) VR (.int a) (.int b) cx K:=fun _ _ _ _ _ _ _ R q q'=>by cases q using VR.intE; cases q' using VR.intE; exact mod_int' hb (Ends.here R.toks (.int _ _) h)
theorem o_divi {a b:Int} {K:SV→Cx→Prop} (hb:b≠0) (hs:b.natAbs<1073741824) (h:K (.int (a.fdiv b)) cx):Sp2 c d u (fun x y=>binaryOp .FloorDiv x y) VR (.int a) (.int b) cx K:=fun _ _ _ _ _ _ _ R q q'=>by
 cases q using VR.intE; cases q' using VR.intE; exact floordiv_int hb (Ends.here R.toks (.int _ _) h) (.inl (PyProof.noPylong_small hs))
theorem o_muli {a b:Int} {K:SV→Cx→Prop} (hm:IntMulOk a b) (h:K (.int (a * b)) cx):Sp2 c d u (fun x y=>binaryOp .Mult x y) VR (.int a) (.int b) cx K:=fun _ _ _ _ _ _ _ R q q'=>by cases q using VR.intE; cases q' using VR.intE; exact P.mul_int (Ends.here R.toks (.int _ _) h) hm
theorem o_iaddi {a b:Int} {K:SV→Cx→Prop} (h:K (.int (a+b)) cx):Sp2 c d u (fun x y=>inplaceOp .Add x y) VR (.int a) (.int b) cx K:=fun _ _ _ _ _ _ _ R q q'=>by cases q using VR.intE; cases q' using VR.intE; exact P.iadd_int (Ends.here R.toks (.int _ _) h)
theorem o_negi {a:Int} {K:SV→Cx→Prop} (h:K (.int (-a)) cx):Sp1 c d u (fun x=>unaryOp .USub x) VR (.int a) cx K:=fun _ _ _ _ _ _ R q=>by cases q using VR.intE; exact P.neg_int (Ends.here R.toks (.int _ _) h)
theorem o_gti {a b:Int} {K:SV→Cx→Prop} (h:K (.bool (decide (a>b))) cx):Sp2 c d u (fun x y=>compareOp .Gt x y) VR (.int a) (.int b) cx K:=fun _ _ _ _ _ _ _ R q q'=>by cases q using VR.intE; cases q' using VR.intE; exact P.gt_int (Ends.here R (.bool _) h)
theorem o_gei {a b:Int} {K:SV→Cx→Prop} (h:K (.bool (decide (a ≥ b))) cx):Sp2 c d u (fun x y=>compareOp .GtE x y) VR (.int a) (.int b) cx K:=fun _ _ _ _ _ _ _ R q q'=>by cases q using VR.intE; cases q' using VR.intE; exact P.ge_int (Ends.here R (.bool _) h)
theorem o_lti {a b:Int} {K:SV→Cx→Prop} (h:K (.bool (decide (a<b))) cx):Sp2 c d u (fun x y=>compareOp .Lt x y) VR (.int a) (.int b) cx K:=fun _ _ _ _ _ _ _ R q q'=>by cases q using VR.intE; cases q' using VR.intE; exact P.lt_int (Ends.here R (.bool _) h)
theorem o_eqi {a b:Int} {K:SV→Cx→Prop} (h:K (.bool (a==b)) cx):Sp2 c d u (fun x y=>compareOp .Eq x y) VR (.int a) (.int b) cx K:=fun _ _ _ _ _ _ _ R q q'=>by cases q using VR.intE; cases q' using VR.intE; exact P.eq_int (Ends.here R (.bool _) h)
theorem str_eq {x y:Str}:(x.cps.toList==y.cps.toList)=decide (x=y):=by
 by_cases h:x=y
 ·subst h; simp
 ·rw [decide_eq_false h]
  refine beq_eq_false_iff_ne.mpr fun q=>h ?_
  obtain ⟨⟨xs⟩⟩:=x
  obtain ⟨⟨ys⟩⟩:=y
  exact congrArg (fun l=>Str.mk ⟨l⟩) q
theorem o_eqs {x y:Str} {K:SV→Cx→Prop} (h:K (.bool (decide (x=y))) cx):Sp2 c d u (fun x y=>compareOp .Eq x y) VR (.str x) (.str y) cx K:=fun _ _ _ _ _ _ _ R q q'=>by
 cases q using VR.strE; cases q' using VR.strE; exact P.eq_str (Ends.here R (.bool _) (by rw [str_eq]; exact h))
theorem o_nes {x y:Str} {K:SV→Cx→Prop} (h:K (.bool (!decide (x=y))) cx):Sp2 c d u (fun x y=>compareOp .NotEq x y) VR (.str x) (.str y) cx K:=fun _ _ _ _ _ _ _ R q q'=>by
 cases q using VR.strE; cases q' using VR.strE; exact P.ne_str (Ends.here R (.bool _) (by rw [show (x.cps.toList != y.cps.toList) = !decide (x=y) from congrArg (!·) str_eq]; exact h))
theorem o_eqsn {x:Str} {K:SV→Cx→Prop} (h:K (.bool false) cx):Sp2 c d u (fun x y=>compareOp .Eq x y) VR (.str x) .none cx K:=fun _ _ _ _ _ _ _ R q q'=>by cases q using VR.strE; cases q' using VR.noneE; exact EqNone.eq_str_none (Ends.here R (.bool _) h)
theorem o_eqnn {K:SV→Cx→Prop} (h:K (.bool true) cx):Sp2 c d u (fun x y=>compareOp .Eq x y) VR .none .none cx K:=fun _ _ _ _ _ _ _ R q q'=>by cases q using VR.noneE; cases q' using VR.noneE; exact EqNone.eq_none_none (Ends.here R (.bool _) h)
noncomputable def strIn (y x:Str):Bool:=!(Builtin.Str.occurrences x y 0 x.length 1).isEmpty
theorem o_ins {x y:Str} {K:SV→Cx→Prop} (h:K (.bool (strIn y x)) cx):Sp2 c d u (fun x y=>compareOp .In x y) VR (.str y) (.str x) cx K:=fun _ _ _ _ _ _ _ R q q'=>by cases q using VR.strE; cases q' using VR.strE; exact P.in_str (Ends.here R (.bool _) h)
theorem app_empty_l {x y:Str} (h:(x.length==0)=true):x++y=y:=by
 obtain ⟨⟨xs⟩⟩:=x
 obtain ⟨⟨ys⟩⟩:=y
 have:xs=[]:=by simpa [Str.length] using h
 subst this
 exact Str.empty_append _
theorem app_empty_r {x y:Str} (h:(y.length==0)=true):x++y=x:=by
 obtain ⟨⟨ys⟩⟩:=y
 have:ys=[]:=by simpa [Str.length] using h
 subst this
 apply Str.ext'
 rw [Str.cps_append]
 simp
theorem made_add {x y:Str} {t v:Tok} {s:Shared} {Q:Value→Shared→Prop} (hl:(x++y).length≤sizeLine) (h:∀ w s',(∃ k,s' = { s with toks:=k })→(∃ t',w = .str (x++y) t')→Q w s') :
  (if x.length==0 then Made.val (.str y v) else if y.length==0 then Made.val (.str x t) else Made.str (x++y)).post Q s:=by
 by_cases h1:(x.length==0)=true
 ·first | (with_reducible refine wp_pos ?_ ?_; · exact h1) | rw [if_pos h1]
  exact h _ _ ⟨s.toks,rfl⟩ ⟨v,by rw [app_empty_l h1]⟩
 ·first | (with_reducible refine wp_neg ?_ ?_; · exact h1) | rw [if_neg h1]
  by_cases h2:(y.length==0)=true
  ·first | (with_reducible refine wp_pos ?_ ?_; · exact h2) | rw [if_pos h2]
   exact h _ _ ⟨s.toks,rfl⟩ ⟨t,by rw [app_empty_r h2]⟩
  ·first | (with_reducible refine wp_neg ?_ ?_; · exact h2) | rw [if_neg h2]
   exact ⟨hl,h _ _ ⟨s.toks+1,rfl⟩ ⟨s.toks,rfl⟩⟩
theorem o_adds {x y:Str} {K:SV→Cx→Prop} (hl:x.length+y.length≤16777216) (h:K (.str (x++y)) cx):Sp2 c d u (fun x y=>binaryOp .Add x y) VR (.str x) (.str y) cx K:=fun fx g am L s _ _ R q q'=>by
 cases q using VR.strE; cases q' using VR.strE
 refine P.add_str (made_add (by rw [Str.length_append,sizeLine_eq]; exact hl) fun w s' ⟨k,e⟩ ⟨t',e'⟩=>?_)
 subst e e'
 exact Ends.here R.toks (.str _ _) h
theorem o_iadds {x y:Str} {K:SV→Cx→Prop} (hl:x.length+y.length≤16777216) (h:K (.str (x++y)) cx):Sp2 c d u (fun x y=>inplaceOp .Add x y) VR (.str x) (.str y) cx K:=fun fx g am L s _ _ R q q'=>by
 cases q using VR.strE; cases q' using VR.strE
 refine P.iadd_str (made_add (by rw [Str.length_append,sizeLine_eq]; exact hl) fun w s' ⟨k,e⟩ ⟨t',e'⟩=>?_)
 subst e e'
 exact Ends.here R.toks (.str _ _) h
noncomputable def SV.isNone:SV→Bool
 | .none=>true
 | _=>false
theorem VR.none_iff {g:Heap} {am:Am} {x:SV} {v:Value} (h:VR g am x v) (hx:∀ w,x≠.g w):plainIs v .none=true∧(v == .none)=x.isNone:=by
 cases h with
 | g v=>exact absurd rfl (hx v)
 | _=>exact ⟨rfl,rfl⟩
theorem o_isn {x:SV} {K:SV→Cx→Prop} (hx:∀ w,x≠.g w) (h:K (.bool x.isNone) cx):Sp2 c d u (fun x y=>compareOp .Is x y) VR x .none cx K:=fun _ _ _ _ _ _ _ R q q'=>by
 cases q' using VR.noneE
 obtain ⟨a,b⟩:=q.none_iff hx
 exact wpAny_is_plain a (Ends.here R (.bool _) (by rw [b]; exact h))
theorem o_isnn {x:SV} {K:SV→Cx→Prop} (hx:∀ w,x≠.g w) (h:K (.bool (!x.isNone)) cx):Sp2 c d u (fun x y=>compareOp .IsNot x y) VR x .none cx K:=fun _ _ _ _ _ _ _ R q q'=>by
 cases q' using VR.noneE
 obtain ⟨a,b⟩:=q.none_iff hx
 exact wpAny_isNot_plain a (Ends.here R (.bool _) (by rw [b]; exact h))
theorem tail_of {value slice:Expr} {o i:Value} {A:Around} {Q:Value→Shared→Prop} {E:Value→Shared→Prop} {s:Shared} (hp:∀ (Q:Bool→Shared→Prop) (E:Value→Shared→Prop),Q false s→wpAny c.M A (getitemInPython o) Q E s) (h:wpAny c.M A (getItem o i) Q E s):wpAny c.M A (subscriptTail value slice o i) Q E s:=by
 unfold subscriptTail
 refine wpAny_bind (hp _ _ ?_)
 have:∃ ops,subscripted slice false o i=operate ops (getItem o i):=by
  unfold subscripted
  split
  ·exact ⟨_,rfl⟩
  ·rename_i h; cases h
  ·exact ⟨_,rfl⟩
 obtain ⟨ops,e⟩:=this
 rw [e]
 refine wpAny_bind (wpAny_operating (wpAny_mono h (fun r s₃ h₃=>?_) fun _ _ x=>x))
 exact wpAny_bind (wpAny_letTemporaryGo (wpAny_pure h₃))
theorem notPy {s:Shared} {o:Value} {A:Around} {T id:String} (hT:s.TypeIs o T) (hl:typeLookup (.type T) "__getitem__" = pure (some (.builtin id))) (Q:Bool→Shared→Prop) (E:Value→Shared→Prop) (h:Q false s):wpAny c.M A (getitemInPython o) Q E s:=by
 rw [getitemInPython_of_ne hT.not_modules]
 exact wpAny_bind (wpAny_specialOf hT hl (wpAny_pure h))
theorem i_str {o i:Expr} {x:Str} {k:Int} {ch:Nat} {K:SV→Cx→Prop} (hr:-(2 ^ 62)<k∧k<2 ^ 62) (hc:(seqIndex? k x.length).bind (x.cps[·]?)=some ch) (h:K (.str ⟨#[ch]⟩) cx):Sp2 c d u (fun a b=>subscriptTail o i a b) VR (.str x) (.int k) cx K:=fun fx g am L s _ _ R q q'=>by
 cases q using VR.strE; cases q' using VR.intE
 exact tail_of (notPy (typeIs_str s x _) F.slot_str_getitem.lookup) (P.getItem_str (by simp; lia) hc (Ends.here R.toks (.str _ _) h))
theorem i_tup {o i:Expr} {xs:List SV} {k:Int} {j:Nat} {x:SV} {K:SV→Cx→Prop} (hr:-(2 ^ 62)<k∧k<2 ^ 62) (hj:seqIndex? k xs.length=some j) (hx:xs[j]? = some x) (h:K x cx):Sp2 c d u (fun a b=>subscriptTail o i a b) VR (.tup xs) (.int k) cx K:=fun fx g am L s _ _ R q q'=>by
 cases q' using VR.intE
 cases q using VR.tupE with
 | mk _ _ ho hv =>
  rename_i vs a
  obtain ⟨v,e,q⟩:=hv.get hx
  have ht:=isTup_le R.sub ho
  exact tail_of (notPy ht.typeIs slot_tuple_getitem.lookup) (getItem_tuple ht (by lia) (by lia) (by rw [List.size_toArray,← hv.length]; exact hj) (by simpa using e) (Ends.here R q h))
theorem isList_item {A:Around} {l:Addr} {vs:List Value} {k:Int} {t:Tok} {j:Nat} {v:Value} {s:Shared} {Q:Value→Shared→Prop} {E:Value→Shared→Prop} (hl:s.heap.IsList l vs.toArray) (hr:-(2 ^ 62)<k∧k<2 ^ 62) (hj:seqIndex? k vs.length=some j) (hx:vs[j]? = some v) (h:Q v s) :
  wpAny c.M A (getItem (.ref l) (.int k t)) Q E s:=by
 unfold seqIndex? at hj
 by_cases h0:k<0
 ·simp only [h0,if_true] at hj
  split at hj
  ·rename_i q
   cases hj
   simp only [Bool.and_eq_true,decide_eq_true_eq] at q
   exact wpAny_getItem_list_neg hl h0 (by rw [List.size_toArray]; lia) (by lia) (by rw [List.size_toArray]; simpa using hx) h
  ·cases hj
 ·simp only [h0,if_false] at hj
  split at hj
  ·rename_i q
   cases hj
   exact wpAny_getItem_list hl (by lia) (by lia) (by simpa using hx) h
  ·cases hj
theorem i_fl {o i:Expr} {xs:List SV} {k:Int} {j:Nat} {x:SV} {K:SV→Cx→Prop} (hr:-(2 ^ 62)<k∧k<2 ^ 62) (hj:seqIndex? k xs.length=some j) (hx:xs[j]? = some x) (h:K x cx):Sp2 c d u (fun a b=>subscriptTail o i a b) VR (.fl xs) (.int k) cx K:=fun fx g am L s _ _ R q q'=>by
 cases q' using VR.intE
 cases q using VR.flE with
 | mk _ _ ho hv =>
  obtain ⟨v,e,q⟩:=hv.get hx
  have ht:=isList_le R.sub ho
  exact tail_of (notPy ht.typeIs slot_list_getitem.lookup) (isList_item ht hr (by rw [← hv.length]; exact hj) e (Ends.here R q h))
theorem i_list {o i:Expr} {n:Nat} {xs:List SV} {k:Int} {j:Nat} {x:SV} {K:SV→Cx→Prop} (hi:cx.obj.lookup n=some (.list xs)) (hr:-(2 ^ 62)<k∧k<2 ^ 62) (hj:seqIndex? k xs.length=some j) (hx:xs[j]? = some x) (h:K x cx):Sp2 c d u (fun a b=>subscriptTail o i a b) VR (.ref n) (.int k) cx K:=fun fx g am L s _ _ R q q'=>by
 refine hide fun Go jo=>?_
 cases q' using VR.intE
 obtain ⟨a,vs,rfl,ea,hm,ht,hv⟩:=R.lst hi q
 obtain ⟨v,e,q⟩:=hv.get hx
 refine jo ?_
 exact tail_of (notPy ht.isList.typeIs slot_list_getitem.lookup) (isList_item ht.isList hr (by rw [← hv.length]; exact hj) e (Ends.here R q h))
theorem c_append {n:Nat} {xs:List SV} {y:SV} {K:SV→Cx→Prop} (hi:cx.obj.lookup n=some (.list xs)) (hz:xs.length≤1000000) (h:K .none (cx.set n (.list (xs++[y])))):SpC c d u (.builtin "list.append") [.ref n,y] cx K:=fun fx g am L s vs R q=>by
 cases q using VRs.consE with
 | mk _ _ q1 q2 =>
  cases q2 using VRs.consE with
  | mk _ _ q2 q3 =>
   refine hide fun Go jo=>?_
   cases q3 using VRs.nilE
   obtain ⟨a,ws,rfl,ea,hm,ht,hv⟩:=R.lst hi q1
   refine jo ?_
   refine wpAny_list_append_plain ht (fun h' hl hs=>?_) (by have:=hv.length; rw [List.size_toArray,sizeLine_eq]; lia)
   refine Ends.here (R.set (so':=.list (xs++[y])) (t:=s.toks) hm ea (fun b hb=>hs.2 b (by simpa using hb)) (Nat.le_of_eq hs.1.symm) ⟨a,_,rfl,?_,hv.append (.cons q2 .nil)⟩) .none h
   rw [List.push_toArray] at hl
   exact hl
theorem m_list {n:Nat} {xs:List SV} {name:Str} {id:String} {K:Value×List SV→Cx→Prop} (hi:cx.obj.lookup n=some (.list xs)) (slot:Slot "list" name id) (htf:typeOf (.builtin id)=pure (.type "method_descriptor"))
  (h:K (.builtin id,[.ref n]) cx):SpM c d u name (.ref n) cx K:=fun pl fx g am L s v R q=>by
 have q':=q
 refine hide fun Go jo=>?_
 obtain ⟨a,ws,rfl,ea,hm,ht,hv⟩:=R.lst hi q
 obtain ⟨k,e⟩:=ht
 refine jo ?_
 exact getMethod_list_of slot htf (Heap.PlainList.isList ⟨k,e⟩) ⟨_,e,rfl⟩ (Ends.here R ⟨rfl,.cons q' .nil⟩ h)
theorem m_str {x:Str} {name:Str} {id:String} {K:Value×List SV→Cx→Prop} (slot:Slot "str" name id) (htf:typeOf (.builtin id)=pure (.type "method_descriptor")) (h:K (.builtin id,[.str x]) cx):SpM c d u name (.str x) cx K:=fun pl fx g am L s v R q=>by
 cases q using VR.strE
 exact getMethod_builtin (typeIs_str s x _) PySem.F.plainAttrs_str slot htf (fun a e=>nomatch e) (Ends.here R ⟨rfl,.cons (.str _ _) .nil⟩ h)
structure LMethOk (c:Cst) (C:Addr) (name:Str) (id:String):Prop where
 ga:GaOk c C
 gn:findIn c.K (.ref C) "__getattr__" = some none
 cls:findIn c.K (.ref C) name=some (some (.builtin id))
 fn:typeOf (.builtin id)=pure (.type "method_descriptor")
theorem method_bi {A:Around} {x C:Addr} {ox:Obj} {o:Obj} {dx:Addr} {name:Str} {id:String} {s:Shared} {pl:Sem Bool} {Q:Value×List Value→Shared→Prop} {E:Value→Shared→Prop} (X:c.K.In s.heap) (I:InstAt s.heap x ox C (some o)) (ok:LMethOk c C name id) (hdx:ox.dict=some dx) (hs:lookIn name o=some none)
  (h:Q (.builtin id,[.ref x]) s):wpAny c.M A (getMethod (.ref x) name pl) Q E s:=by
 unfold getMethod specialOf
 refine wpAny_bind (wpAny_bind (I.type.here (ga_head (M:=c.M) X ok.ga fun id hcan=>?_)))
 dsimp only
 rw [hcan,if_neg (by decide)]
 refine wpAny_bind (wpAny_bind (I.type.here ((looks_findIn X ok.gn).here ?_)))
 refine wpAny_bind (wpAny_bind (I.type.here ((looks_findIn X ok.cls).here (wpAny_bind (wpAny_of_eq ok.fn ?_)))))
 first | (with_reducible refine wp_neg ?_ ?_; · exact (by decide +kernel)) | rw [if_neg (by decide +kernel)]
 refine wpAny_bind (wpAny_loadPart I.at_ ?_)
 have hd:=I.dict
 rw [hdx] at hd ⊢
 refine wpAny_bind (wpAny_bind (wpAny_loadPart hd ?_))
 rw [nsLook_of hs]
 exact wpAny_pure (wpAny_bind (wpAny_rule (wpAny_pure h)))
theorem at_methB {i:Nat} {so:SO} {C:Addr} {fs:List (Str×SV)} {name:Str} {id:String} {K:Value×List SV→Cx→Prop} (hi:cx.obj.lookup i=some so) (hf:so.fields? = some (C,fs)) (ok:LMethOk c C name id) (hl:fs.lookup name=none) (h:K (.builtin id,[.ref i]) cx) :
  SpM c d u name (.ref i) cx K:=fun pl fx g am L s v R hv=>by
 have hv':=hv
 refine hide fun Go jo=>?_
 obtain ⟨a,dx,ox,es,n,rfl,ea,hm,l,ho,hd,I,hdx,fr⟩:=R.fld hi hf hv
 refine jo ?_
 exact method_bi (R.top.X.keeps R.sub) I ok hd (by rw [lookIn_dict,fr.getL_none hl]) (Ends.here R ⟨rfl,.cons hv' .nil⟩ h)
theorem check_sub {A:Around} {E:Value→Shared→Prop} {s:Shared} {i owner n:String} {self:Value} {rest:List Value} {Q:Unit→Shared→Prop}
  (hk:builtinKind i=some .method∨builtinKind i=some .slot) (hs:splitId i=some (owner,n)) (hi:Looks c.M s.heap (isInstance self (.type owner)) true) (ha:argsOk i ⟨self :: rest,[]⟩) (q:Q () s) :
  wpAny c.M A (checkBuiltinCall i ⟨self :: rest,[]⟩) Q E s:=by
 rcases hk with hk | hk
 all_goals
  simp only [checkBuiltinCall,hk,hs]
  refine wpAny_bind (hi.here ?_)
  simp only [Bool.not_true,Bool.false_eq_true,if_false]
  cases hsig:Manifest.signature? i with
  | none=>exact wpAny_pure q
  | some sig =>
   simp only [argsOk,hsig] at ha
   have h2:Bind.checkArgs i sig ⟨self :: rest,[]⟩=pure ():=ha
   show wpAny c.M A (Bind.checkArgs i sig ⟨self :: rest,[]⟩) Q E s
   rw [h2]; exact wpAny_pure q
theorem call_sub {A:Around} {E:Value→Shared→Prop} {s:Shared} {i owner n:String} {self:Value} {rest:List Value} {B:Builtin} {Q:Value→Shared→Prop} (hp:plainId i=true) (hb:entryFor table i=some B)
  (hk:builtinKind i=some .method∨builtinKind i=some .slot) (hs:splitId i=some (owner,n)) (hi:Looks c.M s.heap (isInstance self (.type owner)) true) (ha:argsOk i ⟨self :: rest,[]⟩)
  (h:wpAny c.M A.in1 (B ⟨self :: rest,[]⟩) (fun fin s'=>∃ v,fin = .done (.ret v)∧Q v s') E s):wpAny c.M A (call (.builtin i) (self :: rest)) Q E s:=by
 refine wpAny_call (codeAny_call_builtin hp hb (check_sub hk hs hi ha (wpAny_mono h (fun fin s' h'=>?_) fun _ _ x=>x)))
 refine hide fun Go jo=>?_
 obtain ⟨v,rfl,hv⟩:=h'
 refine jo ?_
 exact hv
theorem inst_list {x C:Addr} {ox:Obj} {od:Option Obj} {s:Shared} (X:c.K.In s.heap) (I:InstAt s.heap x ox C od) (hm:mroIn c.K C (.type "list")=some true):Looks c.M s.heap (isInstance (.ref x) (.type "list")) true:=I.type.andThen (looks_mroIn X hm)
theorem mapSeq_linst {C dx:Addr} {vs:List Value} {k:Nat} (f:Array Value→Array Value):∃ k',(linstObj C dx vs k).mapSeq f=linstObj C dx (f vs.toArray).toList k':=⟨_,rfl⟩
theorem c_appendL {n:Nat} {C:Addr} {xs:List SV} {fs:List (Str×SV)} {y:SV} {K:SV→Cx→Prop} (hi:cx.obj.lookup n=some (.linst C xs fs)) (hm:mroIn c.K C (.type "list")=some true) (hz:xs.length≤1000000) (h:K .none (cx.set n (.linst C (xs++[y]) fs))) :
  SpC c d u (.builtin "list.append") [.ref n,y] cx K:=fun fx g am L s vs R q=>by
 cases q using VRs.consE with
 | mk _ _ q1 q2 =>
  cases q2 using VRs.consE with
  | mk _ _ q2 q3 =>
   refine hide fun Go jo=>?_
   cases q3 using VRs.nilE
   obtain ⟨a,dx,ox,es0,n0,rfl,ea,hmm,l,ho0,hd0,I,hdx0,fr0⟩:=R.fld (C:=C) (fs:=fs) hi rfl q1
   obtain ⟨ws,k,es,n',h1,h2,r1,r2⟩:=l.lin
   refine jo ?_
   rename_i w2
   refine call_sub (i:="list.append") (owner:="list") (n:="append") slot_list_append.plain entry_list_append (by first | exact .inl (by decide +kernel) | exact .inr (by decide +kernel)) (by decide +kernel) (inst_list (R.top.X.keeps R.sub) I hm) (args_list_append _ _) ?_
   show wpAny _ _ (updateSeq a (·.push w2) >>= fun _=>ret .none) _ _ s
   refine wpAny_bind ?_
   obtain ⟨k',ek⟩:=mapSeq_linst (C:=C) (dx:=dx) (vs:=ws) (k:=k) (·.push w2)
   refine wpAny_updateSeq (xs:=ws.toArray) h1 rfl (wpAny_pure ⟨.none,rfl,?_⟩) (by have:=r2.length; rw [List.size_toArray,sizeLine_eq]; lia) (by have:=r2.length; rw [Array.size_push,List.size_toArray,sizeLine_eq]; lia)
   have nda:dx≠a:=fun q=>by
    have nd:=owned_parts (List.nodup_cons.mp R.nd).2 hmm ea
    subst q; simp at nd
   refine Ends.here (R.set (so':=.linst C (xs++[y]) fs) (t:=s.toks) hmm ea (update_same (by simp)) (Nat.le_of_eq (update_size ..).symm) ⟨a,dx,ws++[w2],k',es,n',rfl,?_,?_,r1,r2.append (.cons q2 .nil)⟩) .none h
   ·rw [Heap.get?_update_self _ h1 (by rw [ek]; rfl),ek]; simp
   ·exact (Heap.get?_update_ne _ _ _ _ nda).trans h2
end
theorem slot_md_get:Slot "method_descriptor" "__get__" "method_descriptor.__get__":=.of (owner:="method_descriptor") (n:="__get__") (by rw [typeLookup_type,builtinLookup_eq_fast]; kernel_rfl) (by decide +kernel) (by decide +kernel) (by decide +kernel)
 (by first | exact .inl (by decide +kernel) | exact .inr (by decide +kernel)) (by rw [isSubtype_type]; kernel_rfl)
theorem entry_md_get:entryFor table "method_descriptor.__get__" = some Builtin.«method_descriptor.__get__»:=entryFor_of_tree (by kernel_rfl)
theorem args_md_get (a b c:Value):argsOk "method_descriptor.__get__" ⟨[a,b,c],[]⟩:=by unfold argsOk; kernel_rfl
theorem slot_wd_get:Slot "wrapper_descriptor" "__get__" "wrapper_descriptor.__get__":=.of (owner:="wrapper_descriptor") (n:="__get__") (by rw [typeLookup_type,builtinLookup_eq_fast]; kernel_rfl) (by decide +kernel) (by decide +kernel) (by decide +kernel)
 (by first | exact .inl (by decide +kernel) | exact .inr (by decide +kernel)) (by rw [isSubtype_type]; kernel_rfl)
theorem entry_wd_get:entryFor table "wrapper_descriptor.__get__" = some Builtin.«wrapper_descriptor.__get__»:=entryFor_of_tree (by kernel_rfl)
theorem args_wd_get (a b c:Value):argsOk "wrapper_descriptor.__get__" ⟨[a,b,c],[]⟩:=by unfold argsOk; kernel_rfl
section
variable {c:Cst} {A:Around} {E:Value→Shared→Prop} {s:Shared}
theorem md_get {x C:Addr} {Q:Value→Shared→Prop} (hi:Looks c.M s.heap (isInstance (.ref x) (.type "list")) true)
  (h:Q (.ref s.heap.objs.size) { s with heap:=s.heap.push { cls:=.type "builtin_function_or_method",data:=.fields #[.builtin "list.pop",.ref x] } }) :
  wpAny c.M A (call (.builtin "method_descriptor.__get__") [.builtin "list.pop",.ref x,.ref C]) Q E s:=by
 refine wpAny_call_entry slot_md_get (by with_unfolding_all rfl) entry_md_get ?_ (args_md_get _ _ _)
 have e:".".intercalate ("list.pop".cutAt '.').dropLast = "list":=by decide +kernel
 unfold Builtin.«method_descriptor.__get__»
 repeat (first
  | (with_reducible refine Looks.here hi ?_)
  | (with_reducible refine ⟨_,rfl,?_⟩)
  | (simp only [e])
  | wp_step
  | dsimp only)
 all_goals first | exact h | skip
theorem wd_get {id:String} {x C:Addr} {Q:Value→Shared→Prop} (hid:id = "list.__len__"∨id = "list.__init__") (hi:Looks c.M s.heap (isInstance (.ref x) (.type "list")) true)
  (h:Q (.ref s.heap.objs.size) { s with heap:=s.heap.push { cls:=.type "method-wrapper",data:=.fields #[.builtin id,.ref x] } }) :
  wpAny c.M A (call (.builtin "wrapper_descriptor.__get__") [.builtin id,.ref x,.ref C]) Q E s:=by
 rcases hid with rfl | rfl
 all_goals
  refine wpAny_call_entry slot_wd_get (by with_unfolding_all rfl) entry_wd_get ?_ (args_wd_get _ _ _)
  have e1:".".intercalate ("list.__len__".cutAt '.').dropLast = "list":=by decide +kernel
  have e2:".".intercalate ("list.__init__".cutAt '.').dropLast = "list":=by decide +kernel
  unfold Builtin.«wrapper_descriptor.__get__»
  repeat (first
   | (with_reducible refine Looks.here hi ?_)
   | (with_reducible refine ⟨_,rfl,?_⟩)
   | (simp only [e1])
   | (simp only [e2])
   | wp_step
   | dsimp only)
  all_goals first | exact h | skip
end
section
variable {c:Cst} {A:Around} {E:Value→Shared→Prop} {h:Heap} {g:Array GenState} {d:Drawn} {t:Nat} {os:OsState}
theorem super_ga {so D x C:Addr} {l₀ l:List Value} {name:Str} {tk:Tok} {id Td gid bt:String} {Q:Fin→Shared→Prop}
  (hso:h.get? so=some { cls:=.type "super",dict:=none,data:=.fields #[.ref D,.ref x,.ref C],slots:=#[] }) (hno:Looks c.M h (opaqueClassAbove (.ref C)) none)
  (hC:Looks c.M h (mroOf (.ref C)) l₀) (hl:(l₀.dropWhile (· != .ref D)).drop 1=l) (X:c.K.In h)
  (hf:alongIn c.K name l=some (some (.builtin id))) (hfc:typeOf (.builtin id)=pure (.type Td)) (hlk:typeLookup (.type Td) "__get__" = pure (some (.builtin gid))) (hxC:x≠C) (hn:(name==("__class__":Str))=false)
  (hget:∀ (A:Around) (Q:Value→Shared→Prop),Q (.ref h.objs.size) ⟨h.push { cls:=.type bt,data:=.fields #[.builtin id,.ref x] },g,d,t,os⟩→wpAny c.M A (call (.builtin gid) [.builtin id,.ref x,.ref C]) Q E ⟨h,g,d,t,os⟩)
  (hq:Q (.done (.ret (.ref h.objs.size))) ⟨h.push { cls:=.type bt,data:=.fields #[.builtin id,.ref x] },g,d,t,os⟩) :
  wpAny c.M A (Builtin.«super.__getattribute__» ⟨[.ref so,.str name tk],[]⟩) Q E ⟨h,g,d,t,os⟩:=by
 have hne:(Value.ref x==Value.ref C)=false:=by simp [hxC]
 have hdt:({ cls:=.type "super",dict:=none,data:=.fields #[.ref D,.ref x,.ref C],slots:=#[] }:Obj).data = .fields #[.ref D,.ref x,.ref C]:=rfl
 have f0:(#[.ref D,.ref x,.ref C]:Array Value)[0]? = some (.ref D):=rfl
 have f1:(#[.ref D,.ref x,.ref C]:Array Value)[1]? = some (.ref x):=rfl
 have f2:(#[.ref D,.ref x,.ref C]:Array Value)[2]? = some (.ref C):=rfl
 unfold Builtin.«super.__getattribute__»
 repeat (first
  | (with_reducible refine wpAny_field hso hdt f0 ?_) | (with_reducible refine wpAny_field hso hdt f1 ?_) | (with_reducible refine wpAny_field hso hdt f2 ?_)
  | (with_reducible refine ks_wpAny_notOpaque hno ?_)
  | (with_reducible refine Looks.at hC ?_; rw [hl])
  | (refine ks_forIn_along X (fun _ _=>rfl) rfl ?_ hf)
  | (with_reducible refine wpAny_of_eq hfc ?_)
  | (with_reducible refine wpAny_of_eq hlk ?_)
  | (with_reducible refine hget _ _ ?_)
  | (simp only [hn,hne,Bool.or_false,Bool.false_eq_true,if_false])
  | wp_step
  | dsimp only)
 all_goals exact hq
theorem getMethod_super {so D x C:Addr} {l₀ l:List Value} {name:Str} {pl:Sem Bool} {id Td gid bt:String} {Q:Value×List Value→Shared→Prop}
  (hso:h.get? so=some { cls:=.type "super",dict:=none,data:=.fields #[.ref D,.ref x,.ref C],slots:=#[] }) (hno:Looks c.M h (opaqueClassAbove (.ref C)) none)
  (hC:Looks c.M h (mroOf (.ref C)) l₀) (hl:(l₀.dropWhile (· != .ref D)).drop 1=l) (X:c.K.In h)
  (hf:alongIn c.K name l=some (some (.builtin id))) (hfc:typeOf (.builtin id)=pure (.type Td)) (hlk:typeLookup (.type Td) "__get__" = pure (some (.builtin gid))) (hxC:x≠C) (hn:(name==("__class__":Str))=false)
  (hget:∀ (A:Around) (Q:Value→Shared→Prop) (E:Value→Shared→Prop) (t:Nat),Q (.ref h.objs.size) ⟨h.push { cls:=.type bt,data:=.fields #[.builtin id,.ref x] },g,d,t,os⟩→wpAny c.M A (call (.builtin gid) [.builtin id,.ref x,.ref C]) Q E ⟨h,g,d,t,os⟩)
  (hq:Q (.ref h.objs.size,[]) ⟨h.push { cls:=.type bt,data:=.fields #[.builtin id,.ref x] },g,d,t+1,os⟩) :
  wpAny c.M A (getMethod (.ref so) name pl) Q E ⟨h,g,d,t,os⟩:=by
 have hlk':=PySem.F.ks_slot_super_ga.lookup
 have hcan:=PySem.F.ks_canon_super_ga
 have hT:∀ t',(⟨h,g,d,t',os⟩:Shared).TypeIs (.ref so) "super":=fun _=>⟨_,hso,rfl⟩
 unfold getMethod
 refine wpAny_bind (wpAny_specialOf (hT _) hlk' ?_)
 show wpAny _ _ (if (Manifest.canonical "super.__getattribute__" != "object.__getattribute__")=true then _ else _) _ _ _
 rw [if_pos hcan]
 unfold getAttr getAttrBy
 refine wpAny_bind (wpAny_bind (wpAny_mkText (wpAny_holding (wpAny_bind (wpAny_typeOf (hT _) (wpAny_bind (wpAny_of_eq hlk' ?_)))))))
 show wpAny _ _ (getAttrByItsOwn (.ref so) (.str name t) (.type "super") (.builtin "super.__getattribute__") true false) _ _ _
 unfold getAttrByItsOwn hookBefore callGetattribute boundAndCalled
 refine wpAny_bind (wpAny_of_eq (show (if onTheHeap (.type "super") then typeLookup (.type "super") "__getattr__" else pure none)=pure none from rfl) ?_)
 refine wpAny_bind (wpAny_attempt (wpAny_holding ?_))
 show wpAny _ _ (bindSpecial (.builtin "super.__getattribute__") (.ref so) >>= _) _ _ _
 refine wpAny_bind (wpAny_of_eq (PySem.F.ks_slot_super_ga.bind _) ?_)
 refine wpAny_mono (Q:=fun v s'=>v = .ref h.objs.size∧s'=⟨h.push { cls:=.type bt,data:=.fields #[.builtin id,.ref x] },g,d,t+1,os⟩) (E:=fun _ _=>False)
  (wpAny_call_entry PySem.F.ks_slot_super_ga (hT _) PySem.F.ks_entry_super_ga (super_ga hso hno hC hl X hf hfc hlk hxC hn (fun A Q=>hget A Q _ _) ⟨_,rfl,rfl,rfl⟩) (PySem.F.ks_gaArgs_super _ _)) (fun v s' hv=>?_) fun _ _ z=>z.elim
 refine hide fun Go jo=>?_
 obtain ⟨rfl,rfl⟩:=hv
 refine jo ?_
 exact wpAny_pure (wpAny_pure hq)
end
section
variable {c:Cst} {A:Around} {E:Value→Shared→Prop} {s:Shared}
theorem bound_wrapper {b x:Addr} {id:String} {B:Builtin} {R:Result→Shared→Prop} (hid:id = "list.__len__"∨id = "list.__init__") (hb:s.heap.get? b=some { cls:=.type "method-wrapper",dict:=none,data:=.fields #[.builtin id,.ref x],slots:=#[] }) (he:entryFor table id=some B)
  (h:wpAny c.M A.in1 (B ⟨[.ref x],[]⟩) (fun fin s'=>∃ v,fin = .done (.ret v)∧R (.ok (.ret v)) s') (fun e s'=>R (.error e) s') s):codeAny c.M A (.call (.ref b) ⟨[],[]⟩) R s:=by
 refine codeAny_of_tree ?_
 show wpAny _ A.in1 (callAny (.ref b) ⟨[],[]⟩) _ _ s
 unfold callAny
 refine wpAny_bind (wpAny_load hb ?_)
 have ck:checkBoundCall id ⟨[.ref x],[]⟩=pure ():=by rcases hid with rfl | rfl <;> kernel_rfl
 have hp:plainId id=true:=by rcases hid with rfl | rfl <;> decide +kernel
 refine wpAny_bind ?_
 show wpAny _ _ (checkBoundCall id ⟨[.ref x],[]⟩) _ _ _
 rw [ck]
 refine wpAny_pure (wpAny_pure ⟨plainId_quiet hp _,codeAny_builtin he ?_⟩)
 rw [Around.under_plainId hp]
 refine wpAny_mono h (fun fin s' hv=>?_) fun _ _ z=>z
 refine hide fun Go jo=>?_
 obtain ⟨v,rfl,hv⟩:=hv
 refine jo ?_
 exact hv
theorem bound_pop {b x C:Addr} {ox:Obj} {od:Option Obj} {cd:ClassData} {R:Result→Shared→Prop} (X:c.K.In s.heap) (I:InstAt s.heap x ox C od) (hnc:∀ c,ox.data≠.cls c) (hc:clsIn c.K C=some cd) (hqn:cd.qualname.toString = "_Accumulator") (hmod:mroIn c.K C (.type "module")=some false) (hty:typeIn c.K (.ref C)=some (.type "type"))
  (hb:s.heap.get? b=some { cls:=.type "builtin_function_or_method",dict:=none,data:=.fields #[.builtin "list.pop",.ref x],slots:=#[] })
  (h:wpAny c.M A.in1 (Builtin.«list.pop» ⟨[.ref x],[]⟩) (fun fin s'=>∃ v,fin = .done (.ret v)∧R (.ok (.ret v)) s') (fun e s'=>R (.error e) s') s):codeAny c.M A (.call (.ref b) ⟨[],[]⟩) R s:=by
 refine codeAny_of_tree ?_
 show wpAny _ A.in1 (callAny (.ref b) ⟨[],[]⟩) _ _ s
 unfold callAny
 refine wpAny_bind (wpAny_load hb ?_)
 have hp:plainId "list.pop" = true:=by decide +kernel
 have hm:Looks c.M s.heap (isInstance (.ref x) (.type "module")) false:=I.type.andThen (looks_mroIn X hmod)
 refine wpAny_bind ?_
 show wpAny _ _ (checkBoundCall "list.pop" ⟨[.ref x],[]⟩) _ _ _
 have fin:∀ (Q:Unit→Shared→Prop) (E:Value→Shared→Prop),Q () s→wpAny c.M A.in1 (checkBoundCall "list.pop" ⟨[.ref x],[]⟩) Q E s:=by
  intro Q E hq
  unfold checkBoundCall
  have hk:builtinKind "list.pop" = some .method:=by decide +kernel
  have hv:Manifest.varargsMethods.contains "list.pop" = false:=by decide +kernel
  cases hs:Manifest.signature? "list.pop" with
  | none=>exact wpAny_pure hq
  | some sig =>
   simp only [hk,hv,bne_self_eq_false,Bool.false_and,Bool.false_eq_true,if_false,Bool.false_or]
   refine wpAny_bind (hm.here ?_)
   simp only [Bool.false_eq_true,if_false]
   have ck:Bind.checkArgs "list.pop" { sig with full:=s!"{"_Accumulator"}.{Bind.lastOf "list.pop"}" } ⟨[.ref x],[]⟩=pure ():=by
    have z:(match Manifest.signature? "list.pop" with | some sig=>Bind.checkArgs "list.pop" { sig with full:=s!"{"_Accumulator"}.{Bind.lastOf "list.pop"}" } ⟨[.ref x],[]⟩ | none=>pure ())=pure ():=by kernel_rfl
    rw [hs] at z
    exact z
   obtain ⟨h0,g0,d0,t0,os0⟩:=s
   refine wpAny_bind (ks_wpAny_isType_inst I.at_ hnc ?_)
   simp only [Bool.false_eq_true,if_false]
   refine wpAny_bind (I.type.here ?_)
   dsimp only
   refine wpAny_bind ((looks_clsIn X hc).here ?_)
   refine wpAny_bind ((looks_typeIn X hty).here ?_)
   first | (with_reducible refine wp_pos ?_ ?_; · exact (by rfl)) | rw [if_pos (by rfl)]
   rw [hqn,ck]
   exact wpAny_pure hq
 refine fin _ _ (wpAny_pure ⟨plainId_quiet hp _,codeAny_builtin (b:=Builtin.«list.pop») (entryFor_of_tree (by kernel_rfl)) ?_⟩)
 rw [Around.under_plainId hp]
 refine wpAny_mono h (fun fin s' hv=>?_) fun _ _ z=>z
 refine hide fun Go jo=>?_
 obtain ⟨v,rfl,hv⟩:=hv
 refine jo ?_
 exact hv
end
noncomputable def SpAt {α β:Type} (c:Cst) (d u:Nat) (e:En) (body:List Stmt) (t:Addr→Sem α) (R:Heap→Am→β→α→Prop) (cx:Cx) (K:β→Cx→Prop):Prop :=
 ∀ fx g am L s,Rep c fx g am L cx s→∀ A:Around,A.handled=none→A.depth≤d→A.units≤u→_root_.PySem.wpAt c.M A (.func body (e.env L)) (t L) (Ends c fx g am L R K) No s
structure SupFn (c:Cst) (e:En) (cell:Addr) (D:Addr):Prop where
 cells:∀ L,(e.cells L).lookup ("__class__":Str)=some cell
 kind:e.scope.kind = .function
 ks:e.scope.names.lookup ("super":Str)=some .globalImplicit
 kc:e.scope.names.lookup ("__class__":Str)=some .free
 kself:e.scope.names.lookup ("self":Str)=some .local
 isFn:∃ q sc fa cd0 cells,e=En.fn q sc fa cd0 cells
 fn:∃ fa oc od sl fd ar,e.f=some fa∧c.K.lookup fa=some ⟨oc,od,.func fd,sl⟩∧(fd.params.posonlyargs++fd.params.args).head? = some ar∧ar.arg = "self"
 code:∃ cda ccl cdd vs ccs file tf,e.cd = .ref cda∧c.K.lookup cda=some ⟨ccl,cdd,.fields vs,ccs⟩∧vs[2]? = some (.str file tf)∧((PySem.Challenge.pw_mr0372_01.main.file:Str)==file)=true
 cell:∃ cl cld csl,c.K.lookup cell=some ⟨cl,cld,.cell (some (.ref D)),csl⟩
structure SupCls (c:Cst) (C:Addr):Prop where
 cd:∃ cd,clsIn c.K C=some cd∧cd.mro=[.ref C,.type "list",.type "object"]∧cd.qualname.toString = "_Accumulator"
 sub:mroIn c.K C (.ref C)=some true
 lst:mroIn c.K C (.type "list")=some true
 mod:mroIn c.K C (.type "module")=some false
 ty:typeIn c.K (.ref C)=some (.type "type")
 gsuper:nsIn c.K mainGlobals "super" = some none
 third:nsIn c.K cStatics "thirdparty.any" = some none
theorem boot_super:bootBuiltins "super" = some (.type "super"):=by decide +kernel
theorem top_super:(PySem.Challenge.pw_mr0372_01.main.scope.names.lookup ("super":Str)).isSome=false:=by decide +kernel
section
variable {c:Cst} {d u:Nat} {cx:Cx} {e:En}
theorem bound_look {b x:Addr} {id bt:String} {s:Shared} (hbt:bt = "builtin_function_or_method"∨bt = "method-wrapper") (hb:s.heap.get? b=some { cls:=.type bt,dict:=none,data:=.fields #[.builtin id,.ref x],slots:=#[] }):Looks c.M s.heap (keeperOf (.ref b)) Keeper.machine:=by
 refine (Looks.ld (part:=none) hb).andThen ?_
 rcases hbt with rfl | rfl <;> exact .now
theorem super_common {body:List Stmt} {cell C:Addr} {i:Nat} {xs:List SV} {fs:List (Str×SV)} {name:Str} {apos pos p0 p1:Pos} {id Td gid bt:String} {K:SV→Cx→Prop} (S:SupFn c e cell C) (T:SupCls c C)
  (hself:cx.loc.lookup ("self":Str)=some (.ref i)) (hi:cx.obj.lookup i=some (.linst C xs fs))
  (hn:(name==("__class__":Str))=false) (hf:alongIn c.K name [.type "list",.type "object"]=some (some (.builtin id))) (hfc:typeOf (.builtin id)=pure (.type Td)) (hlk:typeLookup (.type Td) "__get__" = pure (some (.builtin gid)))
  (hbt:bt = "builtin_function_or_method"∨bt = "method-wrapper")
  (hget:∀ {A:Around} {E:Value→Shared→Prop} {s:Shared} {x:Addr} {Q:Value→Shared→Prop},Looks c.M s.heap (isInstance (.ref x) (.type "list")) true→Q (.ref s.heap.objs.size) { s with heap:=s.heap.push { cls:=.type bt,data:=.fields #[.builtin id,.ref x] } } →
   wpAny c.M A (call (.builtin gid) [.builtin id,.ref x,.ref C]) Q E s)
  (he:∀ L,eval (.Call (.Attribute (.Call (.Name "super" p0) [] [] p1) name apos) [] [] pos) (e.env L)=(do
   let ov ← attributeBase (.Call (.Name "super" p0) [] [] p1) name (e.env L) (eval (.Call (.Name "super" p0) [] [] p1) (e.env L))
   standAt apos.atName
   let (f,first) ← holding [ov] (getMethod ov name (do return (← importBound (.Call (.Name "super" p0) [] [] p1) (e.env L)).getD true))
   callWith pos f first (backTo pos (starEach [] (e.env L))) []))
  (h:∀ fx g am L s A a rest b,Rep c fx g am L cx s→A.handled=none→am i=some [a,rest]→Lay g s.heap am (.linst C xs fs) [a,rest]→(i,SO.linst C xs fs)∈cx.obj→s.heap.get? b=some { cls:=.type bt,dict:=none,data:=.fields #[.builtin id,.ref a],slots:=#[] } →
   wpAny c.M A (call (.ref b) []) (Ends c fx g am L VR K) No s) :
  SpAt c d u e body (fun L=>eval (.Call (.Attribute (.Call (.Name "super" p0) [] [] p1) name apos) [] [] pos) (e.env L)) VR cx K:=by
 intro fx g am L s R A hA1 hA2 hA3
 refine hide fun Go jo=>?_
 obtain ⟨q,sc,fa,cd0,cells,rfl⟩:=S.isFn
 obtain ⟨fa',oc,od,sl,fd,ar,ef,f1,f2,f3⟩:=S.fn
 cases ef
 obtain ⟨cda,ccl,cdd,vs,ccs,file,tf,k1,k2,k3,k4⟩:=S.code
 obtain ⟨cl,cld,csl,k5⟩:=S.cell
 obtain ⟨cd,t1,t2,t3⟩:=T.cd
 have X:=R.top.X.keeps R.sub
 obtain ⟨mg,hg⟩:=R.top.gl
 obtain ⟨mb,hb,hb'⟩:=R.top.bl
 obtain ⟨m,hm,hv⟩:=R.fr
 obtain ⟨v,hv1,hv2⟩:=hv _ _ hself
 obtain ⟨a,dx,ox,es,n,rfl,ea,hmm,l,ho,hd,I,hdx,fr⟩:=R.fld (C:=C) (fs:=fs) hi rfl hv2
 obtain ⟨oD,hD1,hD2⟩:∃ oD,s.heap.get? C=some oD∧oD.data = .cls cd:=by
  have t1':=t1
  unfold clsIn at t1'
  split at t1'
  ·rename_i c d cd' sl ho
   cases t1'
   exact ⟨_,X _ _ ho,rfl⟩
  ·cases t1'
 refine jo ?_
 have hnc:∀ c,ox.data≠.cls c:=fun c q=>by
  have:=I.no
  unfold notCls at this
  rw [q] at this
  exact Bool.noConfusion this
 have hxC:a≠C:=fun q=>by
  rw [q,hD1] at ho
  cases ho
  exact hnc _ hD2
 refine ks_wpAt_MethodCall ?_ (he L)
 refine hide fun Go jo=>?_
 obtain ⟨hh,gg,dd,tt,oo⟩:=s
 refine jo ?_
 refine ks_wpAt_super_base (prog:=PySem.Challenge.pw_mr0372_01) (w:=c.w) (env:=(En.fn q sc fa cd0 cells).env L) S.ks S.kc hn rfl (X _ _ f1) rfl f2 k1 (X _ _ k2) rfl k3 k4 top_super ?_
 refine ks_loadName_global S.kind S.ks (loadGlobal_builtin (env:=(En.fn q sc fa cd0 cells).env L) (hg.keeps R.sub) (mg_none_of R.top.X hg T.gsuper) (hb.keeps R.sub) ((hb' _ (by decide +kernel)).trans boot_super) ⟨rfl,?_⟩)
 refine wpAny_loadName_free S.kind S.kc (S.cells L) ⟨_,X _ _ k5,rfl⟩ ?_
 rw [f3]
 refine wpAny_loadName_local S.kind S.kself hm hv1 ?_
 refine ks_wpAny_isType_cls hD1 hD2 ⟨rfl,?_⟩
 refine ks_wpAny_call_super hD1 hD2 I.at_ I.cls hnc (looks_mroIn X T.sub) (fun h' eh k=>?_)
 have hsz:hh.objs.size≤h'.objs.size:=Nat.le_of_lt (Heap.lt_size eh)
 have R':Rep c fx g am L cx ⟨h',gg,dd,tt,oo⟩:=R.heap (t:=tt) (R.sub.trans k) (R.frm.trans k) hsz fun b hb=>by
  obtain ⟨o,eo⟩:=R.owned_there b hb
  exact (k b o eo).trans eo.symm
 have X':=R'.top.X.keeps R'.sub
 refine hide fun Go jo=>?_
 obtain ⟨ox',es',n',ho',hd',I',hdx',fr'⟩:=(R'.layOf hmm ea).fld (C:=C) (fs:=fs) rfl
 refine jo ?_
 have third:Looks c.M h' (opaqueClassAbove (.ref C)) none:=looks_opaque X' T.third
 refine getMethod_super (l₀:=cd.mro) (l:=[.type "list",.type "object"]) (id:=id) (Td:=Td) (gid:=gid) (bt:=bt) eh third ((looks_clsIn X' t1).andThen .now) (by rw [t2]; simp) X' hf hfc hlk hxC hn (fun A Q E t hq=>hget (s:=⟨h',gg,dd,t,oo⟩) (inst_list X' I' T.lst) hq) ?_
 have R'':Rep c fx g am L cx ⟨h'.push { cls:=.type bt,data:=.fields #[.builtin id,.ref a] },gg,dd,tt+1,oo⟩:=R'.push _
 have hbo:(h'.push { cls:=.type bt,data:=.fields #[.builtin id,.ref a] }).get? h'.objs.size=some { cls:=.type bt,dict:=none,data:=.fields #[.builtin id,.ref a],slots:=#[] }:=Heap.get?_push_size _ rfl
 refine callWith_of (P:=fun hp=>hp.get? h'.objs.size=some { cls:=.type bt,dict:=none,data:=.fields #[.builtin id,.ref a],slots:=#[] }) rfl (fun hp q=>⟨.machine,.inr (.inl rfl),bound_look (s:=⟨hp,gg,dd,tt,oo⟩) hbt q⟩) (PyProof.Rows.evalArgs_none ⟨hbo,?_⟩)
 exact h _ _ _ _ _ _ _ _ _ R'' hA1 ea (R''.layOf hmm ea) hmm hbo
end
theorem entry_list_len':entryFor table "list.__len__" = some Builtin.«list.__len__»:=entryFor_of_tree (by kernel_rfl)
theorem entry_list_init':entryFor table "list.__init__" = some Builtin.«list.__init__»:=entryFor_of_tree (by kernel_rfl)
theorem type_list_len':typeOf (.builtin "list.__len__")=pure (.type "wrapper_descriptor"):=by show builtinType _=_; rw [builtinType_eq_fast]; kernel_rfl
theorem type_list_init':typeOf (.builtin "list.__init__")=pure (.type "wrapper_descriptor"):=by show builtinType _=_; rw [builtinType_eq_fast]; kernel_rfl
theorem type_list_pop':typeOf (.builtin "list.pop")=pure (.type "method_descriptor"):=by show builtinType _=_; rw [builtinType_eq_fast]; kernel_rfl
section
variable {c:Cst} {d u:Nat} {cx:Cx} {e:En}
theorem len_body {A:Around} {s:Shared} {a C dx:Addr} {vs:List Value} {k:Nat} {Q:Fin→Shared→Prop} {E:Value→Shared→Prop} (h:s.heap.get? a=some (linstObj C dx vs k)) (hq:Q (.done (.ret (.int (vs.length:Int) s.toks))) { s with toks:=s.toks+1 }) :
  wpAny c.M A (Builtin.«list.__len__» ⟨[.ref a],[]⟩) Q E s:=by
 refine hide fun Go jo=>?_
 obtain ⟨hh,gg,dd,tt,oo⟩:=s
 refine jo ?_
 unfold Builtin.«list.__len__»
 repeat (first | (with_reducible refine wpAny_loadPart h ?_) | wp_step | dsimp only)
 all_goals first | exact hq | (simp only [List.size_toArray]; exact hq)
theorem init_body {A:Around} {s:Shared} {a C dx:Addr} {k:Nat} {Q:Fin→Shared→Prop} {E:Value→Shared→Prop} (h:s.heap.get? a=some (linstObj C dx [] k)) (hq:∀ h' k',h'.get? a=some (linstObj C dx [] k')→(∀ b,b≠a→h'.get? b=s.heap.get? b)→h'.objs.size=s.heap.objs.size→Q (.done (.ret .none)) { s with heap:=h' }) :
  wpAny c.M A (Builtin.«list.__init__» ⟨[.ref a],[]⟩) Q E s:=by
 unfold Builtin.«list.__init__»
 repeat (first
  | (with_reducible refine wpAny_listItems h rfl ?_)
  | (refine wpAny_updateSeq h rfl ?_ (by show _≤_; rw [sizeLine_eq]; simp) (by simp))
  | wp_step | dsimp only)
 all_goals
  obtain ⟨k',ek⟩:=mapSeq_linst (C:=C) (dx:=dx) (vs:=[]) (k:=k) (fun _=>#[])
  refine hq _ k' ?_ (fun b hb=>Heap.get?_update_ne _ _ _ _ hb) (update_size ..)
  rw [Heap.get?_update_self _ h (by rw [ek]; rfl),ek]
theorem seqIndex_last (n:Nat):seqIndex? (-1) (n+1)=some n:=by
 unfold seqIndex?
 have h1:((-1:Int)<0):=by decide
 simp only [h1,if_true]
 have h2:(-1+((n+1:Nat):Int))=n:=by lia
 rw [h2]; simp; lia
theorem pop_body {A:Around} {s:Shared} {a C dx:Addr} {vs:List Value} {v:Value} {k:Nat} {Q:Fin→Shared→Prop} {E:Value→Shared→Prop} (hz:vs.length<1000) (h:s.heap.get? a=some (linstObj C dx (vs++[v]) k)) (hq:∀ h' k',h'.get? a=some (linstObj C dx vs k')→(∀ b,b≠a→h'.get? b=s.heap.get? b)→h'.objs.size=s.heap.objs.size→Q (.done (.ret v)) { s with heap:=h' }) :
  wpAny c.M A (Builtin.«list.pop» ⟨[.ref a],[]⟩) Q E s:=by
 have hf:(!Builtin.List.listFitsIndex (-1))=false:=by decide
 have he:(vs++[v]).toArray.isEmpty=false:=by simp
 have hj:(seqIndex? (-1) (vs++[v]).toArray.size).bind (fun k=>(vs++[v]).toArray[k]?.map (k,·))=some (vs.length,v):=by
  have:seqIndex? (-1) (vs++[v]).toArray.size=some vs.length:=by
   rw [List.size_toArray,List.length_append]
   exact seqIndex_last _
  rw [this]
  simp
 have ev:((vs++[v]).toArray.eraseIdxIfInBounds vs.length).toList=vs:=by simp [List.eraseIdx_append_of_length_le]
 have hz1:(vs++[v]).toArray.size≤sizeLine:=by rw [List.size_toArray,List.length_append,sizeLine_eq]; simp; lia
 have hz2:((vs++[v]).toArray.eraseIdxIfInBounds vs.length).size≤sizeLine+1:=by rw [← Array.length_toList,ev,sizeLine_eq]; lia
 unfold Builtin.«list.pop»
 repeat (first
  | (with_reducible refine wpAny_listItems h rfl ?_)
  | (refine wpAny_updateSeq h rfl ?_ hz1 hz2)
  | (rw [hj])
  | (rw [he])
  | (rw [hf])
  | wp_step | dsimp only)
 all_goals
  obtain ⟨k',ek⟩:=mapSeq_linst (C:=C) (dx:=dx) (vs:=vs++[v]) (k:=k) (·.eraseIdxIfInBounds vs.length)
  rw [ev] at ek
  refine hq _ k' ?_ (fun b hb=>Heap.get?_update_ne _ _ _ _ hb) (update_size ..)
  rw [Heap.get?_update_self _ h (by rw [ek]; rfl),ek]
end
theorem along_len {K:Frag}:alongIn K "__len__" [.type "list",.type "object"]=some (some (.builtin "list.__len__")):=by kernel_rfl
theorem along_init {K:Frag}:alongIn K "__init__" [.type "list",.type "object"]=some (some (.builtin "list.__init__")):=by kernel_rfl
theorem along_pop {K:Frag}:alongIn K "pop" [.type "list",.type "object"]=some (some (.builtin "list.pop")):=by kernel_rfl
section
variable {c:Cst} {d u:Nat} {cx:Cx} {e:En} {body:List Stmt} {cell C:Addr} {i:Nat} {xs:List SV} {fs:List (Str×SV)} {apos pos p0 p1:Pos}
noncomputable abbrev superCall (name:Str) (p0 p1 apos pos:Pos):Expr:=.Call (.Attribute (.Call (.Name "super" p0) [] [] p1) name apos) [] [] pos
theorem sup_len {K:SV→Cx→Prop} (S:SupFn c e cell C) (T:SupCls c C) (hself:cx.loc.lookup ("self":Str)=some (.ref i)) (hi:cx.obj.lookup i=some (.linst C xs fs)) (h:K (.int xs.length) cx)
  (he:∀ L,eval (superCall "__len__" p0 p1 apos pos) (e.env L)=(do
   let ov ← attributeBase (.Call (.Name "super" p0) [] [] p1) "__len__" (e.env L) (eval (.Call (.Name "super" p0) [] [] p1) (e.env L))
   standAt apos.atName
   let (f,first) ← holding [ov] (getMethod ov "__len__" (do return (← importBound (.Call (.Name "super" p0) [] [] p1) (e.env L)).getD true))
   callWith pos f first (backTo pos (starEach [] (e.env L))) []):=by intro L; rfl) :
  SpAt c d u e body (fun L=>eval (superCall "__len__" p0 p1 apos pos) (e.env L)) VR cx K:=by
 refine super_common (bt:="method-wrapper") S T hself hi (by decide) along_len type_list_len' slot_wd_get.lookup (.inr rfl) (fun hl hq=>wd_get (.inl rfl) hl hq) he ?_
 intro fx g am L s A a rest b R hA ea l hm hb
 refine hide fun Go jo=>?_
 obtain ⟨vs,k,es,n,h1,h2,r1,r2⟩:=l.lin
 refine jo ?_
 refine wpAny_call (bound_wrapper (.inl rfl) hb entry_list_len' (len_body h1 ⟨_,rfl,?_⟩))
 have:(vs.length:Int)=xs.length:=by rw [r2.length]
 rw [this]
 exact Ends.here R.toks (.int _ _) h
theorem sup_init {K:SV→Cx→Prop} (S:SupFn c e cell C) (T:SupCls c C) (hself:cx.loc.lookup ("self":Str)=some (.ref i)) (hi:cx.obj.lookup i=some (.linst C [] fs)) (h:K .none (cx.set i (.linst C [] fs)))
  (he:∀ L,eval (superCall "__init__" p0 p1 apos pos) (e.env L)=(do
   let ov ← attributeBase (.Call (.Name "super" p0) [] [] p1) "__init__" (e.env L) (eval (.Call (.Name "super" p0) [] [] p1) (e.env L))
   standAt apos.atName
   let (f,first) ← holding [ov] (getMethod ov "__init__" (do return (← importBound (.Call (.Name "super" p0) [] [] p1) (e.env L)).getD true))
   callWith pos f first (backTo pos (starEach [] (e.env L))) []):=by intro L; rfl) :
  SpAt c d u e body (fun L=>eval (superCall "__init__" p0 p1 apos pos) (e.env L)) VR cx K:=by
 refine super_common (bt:="method-wrapper") S T hself hi (by decide) along_init type_list_init' slot_wd_get.lookup (.inr rfl) (fun hl hq=>wd_get (.inr rfl) hl hq) he ?_
 intro fx g am L s A a rest b R hA ea l hm hb
 refine hide fun Go jo=>?_
 obtain ⟨vs,k,es,n,h1,h2,r1,r2⟩:=l.lin
 cases r2 using VRs.nilE
 refine jo ?_
 have nda:rest≠a:=fun q=>by
  have nd:=owned_parts (List.nodup_cons.mp R.nd).2 hm ea
  subst q; simp at nd
 refine wpAny_call (bound_wrapper (.inr rfl) hb entry_list_init' (init_body h1 fun h' k' q1 q2 q3=>⟨_,rfl,?_⟩))
 exact Ends.here (R.set (t:=s.toks) (so':=.linst C [] fs) hm ea (fun b hb=>q2 b fun z=>hb (by simp [z])) (Nat.le_of_eq q3.symm) ⟨a,rest,[],k',es,n,rfl,q1,(q2 _ nda).trans h2,r1,.nil⟩) .none h
theorem VRs.snoc {g:Heap} {am:Am} {xs:List SV} {x:SV} {vs:List Value} (h:VRs g am (xs++[x]) vs):∃ ws w,vs=ws++[w]∧VRs g am xs ws∧VR g am x w:=by
 have h1:=h.take xs.length
 have h2:=h.drop xs.length
 rw [List.take_left] at h1
 rw [List.drop_left] at h2
 cases e:vs.drop xs.length with
 | nil=>rw [e] at h2; cases h2 using VRs.consE
 | cons w r =>
  rw [e] at h2
  cases h2 using VRs.consE with
  | mk _ _ h3 h4 =>
   cases h4 using VRs.nilE
   refine ⟨vs.take xs.length,w,?_,h1,h3⟩
   rw [← e,List.take_append_drop]
theorem sup_pop {x:SV} {K:SV→Cx→Prop} (S:SupFn c e cell C) (T:SupCls c C) (hself:cx.loc.lookup ("self":Str)=some (.ref i)) (hi:cx.obj.lookup i=some (.linst C (xs++[x]) fs)) (hz:xs.length<1000) (h:K x (cx.set i (.linst C xs fs)))
  (he:∀ L,eval (superCall "pop" p0 p1 apos pos) (e.env L)=(do
   let ov ← attributeBase (.Call (.Name "super" p0) [] [] p1) "pop" (e.env L) (eval (.Call (.Name "super" p0) [] [] p1) (e.env L))
   standAt apos.atName
   let (f,first) ← holding [ov] (getMethod ov "pop" (do return (← importBound (.Call (.Name "super" p0) [] [] p1) (e.env L)).getD true))
   callWith pos f first (backTo pos (starEach [] (e.env L))) []):=by intro L; rfl) :
  SpAt c d u e body (fun L=>eval (superCall "pop" p0 p1 apos pos) (e.env L)) VR cx K:=by
 refine super_common (bt:="builtin_function_or_method") S T hself hi (by decide) along_pop type_list_pop' slot_md_get.lookup (.inl rfl) (fun hl hq=>md_get hl hq) he ?_
 intro fx g am L s A a rest b R hA ea l hm hb
 refine hide fun Go jo=>?_
 obtain ⟨ox,es0,n0,ho,hd,I,hdx,fr⟩:=l.fld (C:=C) (fs:=fs) rfl
 obtain ⟨vs,k,es,n,h1,h2,r1,r2⟩:=l.lin
 obtain ⟨ws,w,rfl,r3,r4⟩:=r2.snoc
 have nda:rest≠a:=fun q=>by
  have nd:=owned_parts (List.nodup_cons.mp R.nd).2 hm ea
  subst q; simp at nd
 obtain ⟨cd,t1,t2,t3⟩:=T.cd
 refine jo ?_
 have hnc:∀ c,ox.data≠.cls c:=fun c q=>by
  have:=I.no
  unfold notCls at this
  rw [q] at this
  exact Bool.noConfusion this
 refine wpAny_call (bound_pop (R.top.X.keeps R.sub) I hnc t1 t3 T.mod T.ty hb (pop_body (by have:=r3.length; lia) h1 fun h' k' q1 q2 q3=>⟨_,rfl,?_⟩))
 exact Ends.here (R.set (t:=s.toks) (so':=.linst C xs fs) hm ea (fun b hb=>q2 b fun z=>hb (by simp [z])) (Nat.le_of_eq q3.symm) ⟨_,rest,ws,k',es,n,rfl,q1,(q2 _ nda).trans h2,r1,r3⟩) r4 h
theorem SpAt.of {α β:Type} {t:Addr→Sem α} {R:Heap→Am→β→α→Prop} {K:β→Cx→Prop} (h:Sp c d u t R cx K):SpAt c d u e body t R cx K:=fun fx g am L s r A h1 h2 h3=>_root_.PySem.wpAt_of_wpAny (ar_le (h fx g am L s r) h1 h2 h3)
theorem at_step {α β:Type} {fx:Fx} {g:Heap} {am:Am} {L:Addr} {s:Shared} {A:Around} {cd:Code} {t:Sem α} {R:Heap→Am→β→α→Prop} {K:β→Cx→Prop} {Q:α→Shared→Prop} {E:Value→Shared→Prop} (h:_root_.PySem.wpAt c.M A cd t (Ends c fx g am L R K) No s)
  (k:∀ v s1 g1 am1 cx1 x,Le g g1→AmLe am am1→Rep c fx g1 am1 L cx1 s1→R g1 am1 x v→K x cx1→Q v s1):_root_.PySem.wpAt c.M A cd t Q E s :=
 _root_.PySem.wpAt_mono h (fun v s1 e=>e.rec fun g1 am1 cx1 x l a r q kk=>k v s1 g1 am1 cx1 x l a r q kk) fun _ _ x=>x.elim
theorem sat_cons {t:Stmt} {ts:List Stmt} {K:Fl→Cx→Prop} (h:SpAt c d u e body (fun L=>exec t (e.env L)) FlR cx fun fl cx1=>match fl with | .next=>SpAt c d u e body (fun L=>execs ts (e.env L)) FlR cx1 K | f=>K f cx1) :
  SpAt c d u e body (fun L=>execs (t :: ts) (e.env L)) FlR cx K:=fun fx g am L s r A h1 h2 h3 =>
 ks_wpAt_execs_cons (at_step (h fx g am L s r A h1 h2 h3) fun f s1 g1 am1 cx1 fl l1 a1 r1 q1 k1=>by
  cases q1 with
  | next=>exact _root_.PySem.wpAt_mono (k1 fx g1 am1 L s1 r1 A h1 h2 h3) (fun _ _ e=>e.up l1 a1) fun _ _ x=>x
  | brk=>exact ⟨g1,am1,cx1,.brk,l1,a1,r1,.brk,k1⟩
  | cont=>exact ⟨g1,am1,cx1,.cont,l1,a1,r1,.cont,k1⟩
  | ret h=>exact ⟨g1,am1,cx1,.ret _,l1,a1,r1,.ret h,k1⟩)
theorem sat_ret {x:Expr} {K:Fl→Cx→Prop} (h:SpAt c d u e body (fun L=>eval x (e.env L)) VR cx fun v cx1=>K (.ret v) cx1):SpAt c d u e body (fun L=>exec (.Return (some x) pos) (e.env L)) FlR cx K:=fun fx g am L s r A h1 h2 h3 =>
 ks_wpAt_Return_some (at_step (h fx g am L s r A h1 h2 h3) fun v s1 g1 am1 cx1 w l1 a1 r1 q1 k1=>⟨g1,am1,cx1,.ret w,l1,a1,r1,.ret q1,k1⟩)
theorem sat_expr {x:Expr} {K:Fl→Cx→Prop} (h:SpAt c d u e body (fun L=>eval x (e.env L)) VR cx fun v cx1=>K .next cx1) (hi:∀ L,interactive (e.env L)=false:=by intro L; rfl) (hs:∀ L,swapsWith x none pos.line (e.env L)=pure false:=by intro L; rfl) :
  SpAt c d u e body (fun L=>exec (.Expr x pos) (e.env L)) FlR cx K:=fun fx g am L s r A h1 h2 h3 =>
 ks_wpAt_Expr_any (at_step (h fx g am L s r A h1 h2 h3) fun v s1 g1 am1 cx1 w l1 a1 r1 q1 k1=>⟨g1,am1,cx1,.next,l1,a1,r1,.next,k1⟩) (hi L) (hs L)
end
theorem fn_callAtc {c:Cst} {d u:Nat} {f:Addr} {fd:FuncData} {en:En} {body:List Stmt} {xs:List SV} {cx:Cx} {K:SV→Cx→Prop} {loc:List (Str×SV)} {obs:List (Nat×SO)} (F:Fn c f fd en body) (hd:d<1000) (hb:BindOk c fd xs [] loc)
  (hsub:obs.Sublist cx.obj) (hlo:∀ p∈obs,p.1<100∧p.2.lo=true) (hlos:SV.los (loc.map (·.2))=true)
  (h:SpAt c (d+1) (u+3) en body (fun L=>execs body (en.env L)) FlR ⟨loc,obs,100,cx.fr⟩ fun fl cx'=>Back cx obs K fl.val cx'):SpKc c d u (.ref f) xs [] cx K:=by
 intro fx g am L s vs ks r hv hk
 refine hide fun Go jo=>?_
 cases hk using VRs.nilE
 obtain ⟨oc,od,sl,ho⟩:=F.obj
 obtain ⟨binds,h1,h2,h3⟩:=hb g am s vs [] r.top r.sub hv .nil
 refine jo ?_
 have X:=r.top.X.keeps r.sub
 refine (ks_codeAny_call_defAt (fd:=fd) (body:=body) (binds:=binds) hd (X _ _ ho) rfl (r.top.lim.keeps r.sub) (codeRec_of X F.code) F.body h1 F.cell h2 (fun h₀ hns hle=>?_) F.co F.gen F.kind)
 rw [F.env]
 have R:=r.enter hsub hlo (t:=s.toks+binds.length) hns hle (loc:=loc) fun x sv e=>(h3 x sv e).imp fun v k=>⟨k.1,k.2.low (fun i x hi e=>Am.low_at hi e) (los_lookup hlos e)⟩
 refine _root_.PySem.wpAt_mono (h _ _ _ _ _ R _ rfl (Nat.le_refl _) (Nat.le_refl _)) (fun fl s' hq=>?_) fun _ _ x=>x.elim
 refine hide fun Go jo=>?_
 obtain ⟨g',amc,cx',x,hg,ha,r',q,obs',news,hids,hob,hnew,hnd,hfr,vlo,k⟩:=hq
 obtain ⟨R',le⟩:=r.leave hsub hlo hg ha r' hids hob hnew hnd hfr
 refine jo ?_
 have z:VR g' (am.back amc (obs.map (·.1))) x.val (flV fl):=q.val.low (fun i a hi e=>Am.back_lo ha hi e) vlo
 cases fl <;> exact ⟨g',_,_,x.val,hg,le,R',z,k⟩
theorem fn_callAt {c:Cst} {d u:Nat} {f:Addr} {fd:FuncData} {en:En} {body:List Stmt} {xs:List SV} {cx:Cx} {K:SV→Cx→Prop} {loc:List (Str×SV)} {obs:List (Nat×SO)} (F:Fn c f fd en body) (hd:d<1000) (hb:BindOk c fd xs [] loc)
  (hsub:obs.Sublist cx.obj) (hlo:∀ p∈obs,p.1<100∧p.2.lo=true) (hlos:SV.los (loc.map (·.2))=true)
  (h:SpAt c (d+1) (u+3) en body (fun L=>execs body (en.env L)) FlR ⟨loc,obs,100,cx.fr⟩ fun fl cx'=>Back cx obs K fl.val cx'):SpC c d u (.ref f) xs cx K:=(fn_callAtc F hd hb hsub hlo hlos h).toK.toC
noncomputable abbrev PW:=PySem.Challenge.pw_mr0372_01
noncomputable def ownNames:List String:=["enumerate","zip","dict_itemiterator","dict_reverseitemiterator","odict_iterator","itertools.zip_longest","itertools.pairwise"]
noncomputable def Harm (h:Heap) (it:Addr):Prop:=∃ o T,h.get? it=some o∧o.cls = .type T∧ownNames.contains T=false
theorem go_harm {M:Model} {A:Around} {s:Shared} {tgt:Expr} {it:Addr} {v:Value} {Q:Unit→Shared→Prop} {E:Value→Shared→Prop} (h:Harm s.heap it) (hq:Q () s):wpAny M A (letOwnedTupleGo tgt (.ref it) v) Q E s:=by
 refine hide fun Go jo=>?_
 obtain ⟨o,T,ho,hc,hT⟩:=h
 refine jo ?_
 have key:wpAny M A (match (Value.ref it,v) with
  | (.ref r,.ref a)=>load r >>= fun o=>match o.cls,o.data with
   | .type n,.fields vs=>if (ownNames.contains n&&vs[0]? == some (rawInt a))=true then (rule "for.unpacks-the-owned-tuple" >>= fun _=>updateField r 0 .none) else pure ()
   | _,_=>pure ()
  | _=>pure ()) Q E s:=by
  cases v with
  | ref a =>
   refine wpAny_bind (wpAny_load ho ?_)
   rw [hc]
   cases hd:o.data <;> first | exact wpAny_pure hq | skip
   simp only [hT,Bool.false_and]
   exact wpAny_pure hq
  | _=>exact wpAny_pure hq
 cases tgt <;> first | exact wpAny_pure hq | exact key
inductive It (c:Cst) (g h:Heap) (am:Am) (it:Addr) (as:List Addr) (xs:List SV):Prop
 | mk (fp:List Addr) (n:Nat) (P:Nat→Value→Prop) (St:Nat→Heap→Prop) (i:Nat) (a:∀ A:Around,A.handled=none→Walks PW c.w A it fp as n P St) (b:St i h) (e:i+xs.length=n) (f:∀ b∈fp,b∈as∨∃ o,g.get? b=some o) (v:∀ j x v,xs[j]? = some x→P (i+j) v→VR g am x v) (t:∀ i h,St i h→Harm h it)
section
variable {c:Cst} {fx:Fx} {g g' h h':Heap} {am am':Am} {L it:Addr} {cx:Cx} {s:Shared} {as:List Addr} {x:SV} {xs:List SV} {A:Around} {Q:Option Value→Shared→Prop} {E:Value→Shared→Prop}
theorem It.mono (hg:Le g g') (ha:AmLe am am') (x:It c g h am it as xs):It c g' h am' it as xs:=by
 obtain ⟨fp,n,P,St,i,a,b,e,f,v,t⟩:=x
 exact ⟨fp,n,P,St,i,a,b,e,fun b hb=>(f b hb).imp id (Exists.imp fun o e=>hg _ _ e),fun j x w hx p=>(v j x w hx p).mono hg ha,t⟩
theorem It.keep (h1:Le g h) (h2:Le g h') (k:∀ b∈as,∀ o,h.get? b=some o→h'.get? b=some o) (x:It c g h am it as xs):It c g h' am it as xs:=by
 obtain ⟨fp,n,P,St,i,a,b,e,f,v,t⟩:=x
 refine ⟨fp,n,P,St,i,a,(a (Ar 0 0) rfl).frame i _ _ b fun b hb o e=>?_,e,f,v,t⟩
 rcases f b hb with q | ⟨o',q⟩
 ·exact k b q o e
 ·rw [h1 _ _ q] at e; cases e; exact h2 _ _ q
noncomputable def Apart (fx:Fx) (g:Heap) (am:Am) (L:Addr) (cx:Cx) (as:List Addr):Prop:=∀ b∈as,b∉L :: owned am cx.obj∧g.get? b=none∧fx.fh.get? b=none
theorem Rep.apart (r:Rep c fx g am L cx s) (ap:Apart fx g am L cx as) {t:Nat} (k:∀ b o,b∉as→s.heap.get? b=some o→h'.get? b=some o):Rep c fx g am L cx { s with heap:=h',toks:=t } :=
 r.heap' (fun b o e=>k b o (fun hb=>by rw [(ap b hb).2.1] at e; cases e) (r.sub b o e)) (fun b o e=>k b o (fun hb=>by rw [(ap b hb).2.2] at e; cases e) (r.frm b o e))
  fun b hb=>by obtain ⟨o,e⟩:=r.owned_there b hb; rw [e]; exact k b o (fun h=>(ap b h).1 hb) e
theorem it_item (hh:A.handled=none) (r:Rep c fx g am L cx s) (i:It c g s.heap am it as (x :: xs)) (ap:Apart fx g am L cx as)
  (hq:∀ v s',VR g am x v→Rep c fx g am L cx s'→It c g s'.heap am it as xs→Harm s'.heap it→Q (some v) s'):wpAny c.M A (pyNext (.ref it)) Q E s:=by
 refine hide fun Go jo=>?_
 obtain ⟨fp,n,P,St,i,a,b,e,f,v,t⟩:=i
 refine jo ?_
 refine (a A hh).item i s Q E (by simp at e; lia) b fun w h' tk p st k=>?_
 refine hq w _ (v 0 x w rfl p) (r.apart ap k) ⟨fp,n,P,St,i+1,a,st,by simp at e; lia,f,fun j y w hy p=>v (j+1) y w hy (by rw [show i+(j+1)=i+1+j by lia]; exact p),t⟩ (t _ _ st)
theorem it_done (hh:A.handled=none) (r:Rep c fx g am L cx s) (i:It c g s.heap am it as []) (ap:Apart fx g am L cx as)
  (hq:∀ s',Rep c fx g am L cx s'→Q none s'):wpAny c.M A (pyNext (.ref it)) Q E s:=by
 refine hide fun Go jo=>?_
 obtain ⟨fp,n,P,St,i,a,b,e,f,v,t⟩:=i
 have e:i=n:=e
 subst e
 refine jo ?_
 exact (a A hh).done s Q E b fun h' tk k=>hq _ (r.apart ap k)
noncomputable def aside (fx:Fx) (g h:Heap) (as:List Addr):Fx:=⟨only h fun b=>(fx.fh.get? b).isSome||as.contains b,g,fx.N⟩
theorem Rep.aside (r:Rep c fx g am L cx s) (ap:Apart fx g am L cx as):Rep c (aside fx g s.heap as) g am L cx s:=by
 refine ⟨r.sub,r.top,r.fr,r.lay,r.nd,r.idnd,r.out,r.lo,r.nx,r.free,fun b o e=>(of_only e).1,fun b hb=>only_no ?_,fun b o e=>.inl e,r.hiN,r.szN,r.gens,r.os,fun b hb o e=>e,r.NL⟩
 have h1:=r.frout b hb
 have h2:b∉as:=fun q=>(ap b q).1 hb
 simp [h1,h2]
theorem aside_fr (r:Rep c fx g am L cx s) {b:Addr} {o:Obj} (e:fx.fh.get? b=some o):(Mine.aside fx g s.heap as).fh.get? b=some o:=only_yes (r.frm b o e) (by rw [e]; rfl)
theorem Rep.unaside {s1:Shared} {cx1:Cx} (r:Rep c fx g am L cx s) (r1:Rep c (Mine.aside fx g s.heap as) g' am' L cx1 s1):Rep c fx g' am' L cx1 s1:=by
 refine ⟨r1.sub,r1.top,r1.fr,r1.lay,r1.nd,r1.idnd,r1.out,r1.lo,r1.nx,r1.free,fun b o e=>r1.frm b o (aside_fr r e),fun b hb=>?_,fun b o e=>(r1.new b o e).elim (fun q=>r.new b o q) .inr,r1.hiN,r1.szN,r1.gens,r1.os,fun b hb o e=>?_,r1.NL⟩
 ·cases q:fx.fh.get? b with
  | none=>rfl
  | some o=>have:=r1.frout b hb; rw [aside_fr r q] at this; cases this
 ·cases q:fx.fh.get? b with
  | none=>rw [q] at hb; cases hb
  | some o'=>exact r.frg b hb o (r1.frg b (by rw [aside_fr r q]; rfl) o e)
theorem Rep.still {s1:Shared} {cx1:Cx} (r:Rep c fx g am L cx s) (ap:Apart fx g am L cx as) (hg:Le g g') (ha:AmLe am am') (i:It c g s.heap am it as xs) (there:∀ b∈as,∃ o,s.heap.get? b=some o) (r1:Rep c (Mine.aside fx g s.heap as) g' am' L cx1 s1) :
  It c g' s1.heap am' it as xs∧Apart fx g' am' L cx1 as∧∀ b∈as,∃ o,s1.heap.get? b=some o:=by
 have fh:∀ b∈as,∀ o,s.heap.get? b=some o→(Mine.aside fx g s.heap as).fh.get? b=some o:=fun b hb o e=>only_yes e (by simp [hb])
 refine ⟨(i.keep r.sub (hg.trans r1.sub) fun b hb o e=>r1.frm b o (fh b hb o e)).mono hg ha,fun b hb=>?_,fun b hb=>(there b hb).imp fun o e=>r1.frm b o (fh b hb o e)⟩
 obtain ⟨o,e⟩:=there b hb
 have q:=fh b hb o e
 refine ⟨fun hm=>?_,?_,(ap b hb).2.2⟩
 ·have:=r1.frout b hm; rw [q] at this; cases this
 ·cases z:g'.get? b with
  | none=>rfl
  | some o'=>have:=r1.frg b (by rw [q]; rfl) o' z; rw [show (Mine.aside fx g s.heap as).g0=g from rfl,(ap b hb).2.1] at this; cases this
end
section
variable {c:Cst} {d u:Nat} {e:En} {cx:Cx} {pos:Pos}
noncomputable def SpA (c:Cst) (d u:Nat) (e:En) (tgt:Expr) (x:SV) (cx:Cx) (K:Cx→Prop):Prop :=
 ∀ fx g am L s v,Rep c fx g am L cx s→VR g am x v→wpAny c.M (Ar d u) (assign tgt (e.env L) v) (Ends c fx g am L UR fun _ cx=>K cx) No s
theorem a_name {x:Str} {p:Pos} {sv:SV} {K:Cx→Prop} (h:K (cx.put x sv)) (hk:e.scope.kind = .function:=by rfl) (hl:e.scope.names.lookup x=some .local:=by rfl):SpA c d u e (.Name x p) sv cx K:=fun fx g am L s v R q=>by
 refine wpAny_assign_Name ?_
 obtain ⟨m,hm,hv⟩:=R.fr
 refine wpAny_storeName_local hl hm (fun h' hn hs=>?_) (by show (e.scope.kind == .class||(e.scope.kind == .module&&_))=false; rw [hk]; rfl)
 exact ⟨g,am,_,(),.refl _,.refl _,R.store hv q hn hs,trivial,h⟩
noncomputable def SpAs (c:Cst) (d u:Nat) (e:En):List Expr→List SV→Cx→(Cx→Prop)→Prop
 | t :: ts,x :: xs,cx,K=>SpA c d u e t x cx fun cx1=>SpAs c d u e ts xs cx1 K
 | _,_,cx,K=>K cx
theorem SpAs.run {ts:List Expr} (hs:noStars ts=true):∀ {xs:List SV} {cx:Cx} {K:Cx→Prop},SpAs c d u e ts xs cx K→∀ fx g am L s vs,Rep c fx g am L cx s→VRs g am xs vs →
  wpAny c.M (Ar d u) (assignInOrder ((assignEach ts (e.env L)).map (·.2)) vs) (Ends c fx g am L UR fun _ cx=>K cx) No s:=by
 induction ts with
 | nil=>intro xs cx K h fx g am L s vs R q; exact wpAny_pure (Ends.here (x:=()) R trivial (by cases xs <;> exact h))
 | cons t ts ih =>
  intro xs cx K h fx g am L s vs R q
  have he:assignEach (t :: ts) (e.env L)=(false,assign t (e.env L)) :: assignEach ts (e.env L)∧noStars ts=true:=by cases t <;> first | exact ⟨rfl,hs⟩ | cases hs
  rw [he.1]
  cases q with
  | nil=>exact wpAny_pure (Ends.here (x:=()) R trivial h)
  | cons q qs=>exact wpAny_bind (wpAny_holding (step (h fx g am L s _ R q) fun _ s1 g1 am1 cx1 _ l1 a1 r1 _ k1=>wup l1 a1 (ih he.2 k1 fx g1 am1 L s1 _ r1 (qs.mono l1 a1))))
theorem each_len {env:Env}:∀ {ts:List Expr},noStars ts=true→(assignEach ts env).length=ts.length∧(assignEach ts env).findIdx? (·.1)=none
 | [],_=>⟨rfl,rfl⟩
 | t :: ts,hs=>by
  have he:assignEach (t :: ts) env=(false,assign t env) :: assignEach ts env∧noStars ts=true:=by cases t <;> first | exact ⟨rfl,hs⟩ | cases hs
  obtain ⟨a,b⟩:=each_len (env:=env) he.2
  rw [he.1]
  exact ⟨by simp [a],by simp [List.findIdx?_cons,b]⟩
theorem a_tup {ts:List Expr} {k:Nat} {p:Pos} {xs:List SV} {K:Cx→Prop} (h:SpAs c d u e ts xs cx K) (hl:ts.length=xs.length:=by rfl) (hs:noStars ts=true:=by rfl):SpA c d u e (.Tuple ts k p) (.tup xs) cx K:=fun fx g am L s v R q=>by
 cases q using VR.tupE with
 | mk _ _ it qs =>
  obtain ⟨a,b⟩:=each_len (env:=e.env L) hs
  refine assign_Tuple_tuple rfl (isTup_le R.sub it) (a.trans (by rw [hl,qs.length]; simp)) b fun h' ext=>?_
  have R':Rep c fx g am L cx { s with heap:=h' }:=R.heap' (t:=s.toks) (fun b o e=>ext b o (Nat.ne_of_lt (Heap.lt_size (R.sub b o e))) (R.sub b o e)) (fun b o e=>ext b o (Nat.ne_of_lt (Heap.lt_size (R.frm b o e))) (R.frm b o e))
   fun b hb=>by obtain ⟨o,e⟩:=R.owned_there b hb; rw [e]; exact ext b o (Nat.ne_of_lt (Heap.lt_size e)) e
  exact SpAs.run hs h fx g am L _ _ R' (by simpa using qs)
theorem ss_tup {ts:List Expr} {k:Nat} {p:Pos} {v:Expr} {K:Fl→Cx→Prop} (h:Sp c d u (fun L=>eval v (e.env L)) VR cx fun w cx1=>SpA c d u e (.Tuple ts k p) w cx1 (K .next))
  (hs:∀ L,swapsWithSole [.Tuple ts k p] v pos.line (e.env L)=pure false:=by intro L; rfl) (hw:∀ L,swappedStores [.Tuple ts k p] v (e.env L)=pure none:=by intro L; rfl) :
  SpS c d u e (.Assign [.Tuple ts k p] v pos) cx K:=fun fx g am L s R =>
 Assign_Tuple (step (h fx g am L s R) fun w s1 g1 am1 cx1 sv l1 a1 r1 q1 k1=>step (k1 fx g1 am1 L s1 w r1 q1) fun _ s2 g2 am2 cx2 _ l2 a2 r2 _ k2=>⟨g2,am2,cx2,.next,l1.trans l2,a1.trans a2,r2,.next,k2⟩) (hs L) (hw L)
theorem ss_seta {o v:Expr} {name:Str} {p:Pos} {K:Fl→Cx→Prop} (h:Sp c d u (fun L=>eval v (e.env L)) VR cx fun w cx1=>Sp c d u (fun L=>eval o (e.env L)) VR cx1 fun x cx2=>Sp2 c d u (fun a b=>setAttr a name b) UR x w cx2 fun _ cx3=>K .next cx3)
  (hs:∀ L,swapsWith v (some (.Attribute o name p)) pos.line (e.env L)=pure false:=by intro L; rfl):SpS c d u e (.Assign [.Attribute o name p] v pos) cx K:=fun fx g am L s R =>
 plainObj_wpAny_Assign_Attribute (step (h fx g am L s R) fun w s1 g1 am1 cx1 sv l1 a1 r1 q1 k1=>step (k1 fx g1 am1 L s1 r1) fun o s2 g2 am2 cx2 so l2 a2 r2 q2 k2 =>
  step (k2 fx g2 am2 L s2 o w r2 q2 (q1.mono l2 a2)) fun _ s3 g3 am3 cx3 _ l3 a3 r3 _ k3=>⟨g3,am3,cx3,.next,(l1.trans l2).trans l3,(a1.trans a2).trans a3,r3,.next,k3⟩) (hs L)
theorem ss_auga {o v:Expr} {name:Str} {p:Pos} {op:Operator} {K:Fl→Cx→Prop} (h:Sp c d u (fun L=>eval o (e.env L)) VR cx fun x cx1=>Sp1 c d u (fun a=>getAttr a name true) VR x cx1 fun old cx2=>Sp c d u (fun L=>eval v (e.env L)) VR cx2 fun w cx3 =>
   Sp2 c d u (fun a b=>inplaceOp op a b) VR old w cx3 fun new cx4=>Sp2 c d u (fun a b=>setAttr a name b) UR x new cx4 fun _ cx5=>K .next cx5):SpS c d u e (.AugAssign (.Attribute o name p) op v pos) cx K:=fun fx g am L s R =>
 wpAny_AugAssign_AttributeAny (step (h fx g am L s R) fun o s1 g1 am1 cx1 so l1 a1 r1 q1 k1=>step (k1 fx g1 am1 L s1 o r1 q1) fun old s2 g2 am2 cx2 _ l2 a2 r2 q2 k2=>step (k2 fx g2 am2 L s2 r2) fun w s3 g3 am3 cx3 _ l3 a3 r3 q3 k3 =>
  step (k3 fx g3 am3 L s3 old w r3 (q2.mono l3 a3) q3) fun new s4 g4 am4 cx4 _ l4 a4 r4 q4 k4=>step (k4 fx g4 am4 L s4 o new r4 (q1.mono ((l2.trans l3).trans l4) ((a2.trans a3).trans a4)) q4) fun _ s5 g5 am5 cx5 _ l5 a5 r5 _ k5 =>
   ⟨g5,am5,cx5,.next,(((l1.trans l2).trans l3).trans l4).trans l5,(((a1.trans a2).trans a3).trans a4).trans a5,r5,.next,k5⟩)
theorem ss_sets {o i v:Expr} {p:Pos} {K:Fl→Cx→Prop} (h:Sp c d u (fun L=>eval v (e.env L)) VR cx fun w cx1=>Sp c d u (fun L=>eval o (e.env L)) VR cx1 fun x cx2=>Sp c d u (fun L=>eval i (e.env L)) VR cx2 fun y cx3 =>
   SpN c d u (fun vs=>match vs with | [a,b,v]=>setItem a b v | _=>pure ()) UR [x,y,w] cx3 fun _ cx4=>K .next cx4)
  (hs:∀ L,swapsWith v (some (.Subscript o i p)) pos.line (e.env L)=pure false:=by intro L; rfl):SpS c d u e (.Assign [.Subscript o i p] v pos) cx K:=fun fx g am L s R =>
 wpAny_Assign_Subscript (step (h fx g am L s R) fun w s1 g1 am1 cx1 sv l1 a1 r1 q1 k1=>step (k1 fx g1 am1 L s1 r1) fun o s2 g2 am2 cx2 so l2 a2 r2 q2 k2=>step (k2 fx g2 am2 L s2 r2) fun i s3 g3 am3 cx3 si l3 a3 r3 q3 k3 =>
  step (k3 fx g3 am3 L s3 [o,i,w] r3 (.cons (q2.mono l3 a3) (.cons q3 (.cons (q1.mono (l2.trans l3) (a2.trans a3)) .nil)))) fun _ s4 g4 am4 cx4 _ l4 a4 r4 _ k4=>⟨g4,am4,cx4,.next,((l1.trans l2).trans l3).trans l4,((a1.trans a2).trans a3).trans a4,r4,.next,k4⟩) (hs L)
theorem ss_augs {o i v:Expr} {p:Pos} {op:Operator} {K:Fl→Cx→Prop} (h:Sp c d u (fun L=>eval o (e.env L)) VR cx fun x cx1=>Sp c d u (fun L=>eval i (e.env L)) VR cx1 fun y cx2=>Sp2 c d u (fun a b=>getItem a b) VR x y cx2 fun old cx3 =>
   Sp c d u (fun L=>eval v (e.env L)) VR cx3 fun w cx4=>Sp2 c d u (fun a b=>inplaceOp op a b) VR old w cx4 fun new cx5=>SpN c d u (fun vs=>match vs with | [a,b,v]=>setItem a b v | _=>pure ()) UR [x,y,new] cx5 fun _ cx6=>K .next cx6)
  (hi:∀ ov iv new,augStore i ov iv new=(do holding [new,ov,iv] (setItem ov iv new); release [new,ov,iv] []; pure .next):=by intros; rfl):SpS c d u e (.AugAssign (.Subscript o i p) op v pos) cx K:=fun fx g am L s R =>
 wpAny_AugAssign_SubscriptAny (step (h fx g am L s R) fun o s1 g1 am1 cx1 so l1 a1 r1 q1 k1=>step (k1 fx g1 am1 L s1 r1) fun i s2 g2 am2 cx2 _ l2 a2 r2 q2 k2=>step (k2 fx g2 am2 L s2 o i r2 (q1.mono l2 a2) q2) fun old s3 g3 am3 cx3 _ l3 a3 r3 q3 k3 =>
  step (k3 fx g3 am3 L s3 r3) fun w s4 g4 am4 cx4 _ l4 a4 r4 q4 k4=>step (k4 fx g4 am4 L s4 old w r4 (q3.mono l4 a4) q4) fun new s5 g5 am5 cx5 _ l5 a5 r5 q5 k5 =>
   step (k5 fx g5 am5 L s5 [o,i,new] r5 (.cons (q1.mono (((l2.trans l3).trans l4).trans l5) (((a2.trans a3).trans a4).trans a5)) (.cons (q2.mono ((l3.trans l4).trans l5) ((a3.trans a4).trans a5)) (.cons q5 .nil)))) fun _ s6 g6 am6 cx6 _ l6 a6 r6 _ k6 =>
   ⟨g6,am6,cx6,.next,((((l1.trans l2).trans l3).trans l4).trans l5).trans l6,((((a1.trans a2).trans a3).trans a4).trans a5).trans a6,r6,.next,k6⟩) hi
noncomputable def LoopK (I:Cx→Prop) (K:Fl→Cx→Prop):Fl→Cx→Prop
 | .next,cx=>I cx
 | .cont,cx=>I cx
 | .brk,cx=>K .next cx
 | .ret v,cx=>K (.ret v) cx
inductive ForI (c:Cst) (fx:Fx) (g:Heap) (am:Am) (L it:Addr) (I:List SV→Cx→Prop) (n:Nat) (s:Shared):Prop
 | mk (g':Heap) (am':Am) (cx':Cx) (xs':List SV) (e:n=xs'.length) (l:Le g g') (a:AmLe am am') (r:Rep c fx g' am' L cx' s) (i:It c g' s.heap am' it [it] xs') (ap:Apart fx g' am' L cx' [it]) (hI:I xs' cx')
theorem for_loop {tgt:Expr} {body orelse:List Stmt} (I:List SV→Cx→Prop) {K:Fl→Cx→Prop} (turn:∀ x xs cx,I (x :: xs) cx→SpA c d u e tgt x cx fun cx1=>SpSs c d u e body cx1 (LoopK (I xs) K)) (fin:∀ cx,I [] cx→SpSs c d u e orelse cx K)
  {fx:Fx} {g:Heap} {am:Am} {L it:Addr} {s:Shared} {xs:List SV} (r:Rep c fx g am L cx s) (i:It c g s.heap am it [it] xs) (ap:Apart fx g am L cx [it]) (hI:I xs cx) :
  codeAny c.M (Ar d u) (.forLoop tgt (.ref it) body orelse (e.env L)) (fun r s'=>match r with | .ok f=>Ends c fx g am L FlR K f s' | .error _=>False) s:=by
 refine codeAny_forLoop_any (ForI c fx g am L it I) (fun n s hI=>?_) xs.length ⟨g,am,cx,xs,rfl,.refl _,.refl _,r,i,ap,hI⟩
 refine hide fun Go jo=>?_
 obtain ⟨g',am',cx',xs',rfl,l,a,r,i,ap,hI⟩:=hI
 refine jo ?_
 cases xs' with
 | nil=>exact it_done rfl r i ap fun s1 r1=>step (fin cx' hI fx g' am' L s1 r1) fun f s2 g2 am2 cx2 fl l2 a2 r2 q2 k2=>⟨g2,am2,cx2,fl,l.trans l2,a.trans a2,r2,q2,k2⟩
 | cons x xs' =>
  refine it_item rfl r i ap fun v s1 q r1 i1 hm=>go_harm hm ?_
  have there:∀ b∈[it],∃ o,s1.heap.get? b=some o:=by obtain ⟨o,_,ho,_⟩:=hm; intro b hb; simp at hb; subst hb; exact ⟨o,ho⟩
  refine step (turn x xs' cx' hI _ g' am' L s1 v (r1.aside ap) q) fun _ s2 g2 am2 cx2 _ l2 a2 r2 _ k2=>step (k2 _ g2 am2 L s2 r2) fun f s3 g3 am3 cx3 fl l3 a3 r3 q3 k3=>?_
  obtain ⟨i3,ap3,_⟩:=r1.still ap (l2.trans l3) (a2.trans a3) i1 there r3
  have r3':=r1.unaside r3
  cases q3 with
  | next=>exact ⟨xs'.length,Nat.lt_succ_self _,g3,am3,cx3,xs',rfl,l.trans (l2.trans l3),a.trans (a2.trans a3),r3',i3,ap3,k3⟩
  | cont=>exact ⟨xs'.length,Nat.lt_succ_self _,g3,am3,cx3,xs',rfl,l.trans (l2.trans l3),a.trans (a2.trans a3),r3',i3,ap3,k3⟩
  | brk=>exact ⟨g3,am3,cx3,.next,l.trans (l2.trans l3),a.trans (a2.trans a3),r3',.next,k3⟩
  | ret q=>exact ⟨g3,am3,cx3,.ret _,l.trans (l2.trans l3),a.trans (a2.trans a3),r3',.ret q,k3⟩
inductive ItEnds (c:Cst) (fx:Fx) (g:Heap) (am:Am) (L:Addr) (I:List SV→Cx→Prop) (w:Value) (s2:Shared):Prop
 | mk (g':Heap) (am':Am) (cx':Cx) (it:Addr) (xs:List SV) (e:w = .ref it) (l:Le g g') (a:AmLe am am') (r:Rep c fx g' am' L cx' s2) (i:It c g' s2.heap am' it [it] xs) (ap:Apart fx g' am' L cx' [it]) (hI:I xs cx')
noncomputable def SpIter (c:Cst) (d u:Nat) (e:En) (iter:Expr) (cx:Cx) (I:List SV→Cx→Prop):Prop :=
 ∀ fx g am L s,Rep c fx g am L cx s→wpAny c.M (Ar d u) (eval iter (e.env L)) (fun v s1=>wpAny c.M (Ar d u) (pyIter v) (ItEnds c fx g am L I) No s1) No s
theorem ss_for {tgt iter:Expr} {body orelse:List Stmt} (I:List SV→Cx→Prop) {K:Fl→Cx→Prop} (h:SpIter c d u e iter cx I) (turn:∀ x xs cx,I (x :: xs) cx→SpA c d u e tgt x cx fun cx1=>SpSs c d u e body cx1 (LoopK (I xs) K)) (fin:∀ cx,I [] cx→SpSs c d u e orelse cx K)
  (hs:∀ L x,foldedSetIterable iter (e.env L) x=pure x:=by intros; rfl):SpS c d u e (.For tgt iter body orelse pos) cx K:=fun fx g am L s R =>
 wpAny_For (wpAny_mono (h fx g am L s R) (fun v s1 h1=>wpAny_mono h1 (fun w s2 z=>by
  refine hide fun Go jo=>?_
  obtain ⟨g',am',cx',it,xs,rfl,l,a,r,i,ap,hI⟩:=z
  refine jo ?_
  refine codeAny_mono (for_loop I turn fin r i ap hI) fun r s' h=>?_
  cases r with
  | ok f=>exact h.up l a
  | error _=>exact h.elim) fun _ _ x=>x.elim) fun _ _ x=>x.elim) (hs L)
inductive WhI (c:Cst) (fx:Fx) (g:Heap) (am:Am) (L:Addr) (I:Nat→Cx→Prop) (n:Nat) (s:Shared):Prop
 | mk (g':Heap) (am':Am) (cx':Cx) (l:Le g g') (a:AmLe am am') (r:Rep c fx g' am' L cx' s) (hI:I n cx')
theorem ss_while {test:Expr} {body orelse:List Stmt} (I:Nat→Cx→Prop) {K:Fl→Cx→Prop} (turn:∀ n cx,I n cx→SpT c d u e test cx fun b cx1=>if b=true then SpSs c d u e body cx1 (LoopK (fun cx=>∃ m,m<n∧I m cx) K) else SpSs c d u e orelse cx1 K) {n:Nat} (h:I n cx) :
  SpS c d u e (.While test body orelse pos) cx K:=fun fx g am L s R=>by
 refine wpAny_While (codeAny_whileLoop (WhI c fx g am L I) (fun n s hI=>?_) n ⟨g,am,cx,.refl _,.refl _,R,h⟩)
 refine hide fun Go jo=>?_
 obtain ⟨g',am',cx',l,a,r,hI⟩:=hI
 refine jo ?_
 refine step (turn n cx' hI fx g' am' L s r) fun b s1 g1 am1 cx1 b' l1 a1 r1 q1 k1=>?_
 cases q1
 cases b with
 | true =>
  first | (with_reducible refine wp_pos ?_ ?_; · exact rfl) | rw [if_pos rfl]
  refine step (iteT k1 fx g1 am1 L s1 r1) fun f s3 g3 am3 cx3 fl l3 a3 r3 q3 k3=>?_
  cases q3 with
  | next=>obtain ⟨m,hm,k⟩:=k3; exact ⟨m,hm,g3,am3,cx3,l.trans (l1.trans l3),a.trans (a1.trans a3),r3,k⟩
  | cont=>obtain ⟨m,hm,k⟩:=k3; exact ⟨m,hm,g3,am3,cx3,l.trans (l1.trans l3),a.trans (a1.trans a3),r3,k⟩
  | brk=>exact ⟨g3,am3,cx3,.next,l.trans (l1.trans l3),a.trans (a1.trans a3),r3,.next,k3⟩
  | ret q=>exact ⟨g3,am3,cx3,.ret _,l.trans (l1.trans l3),a.trans (a1.trans a3),r3,.ret q,k3⟩
 | false =>
  first | (with_reducible refine wp_neg ?_ ?_; · exact (by decide)) | rw [if_neg (by decide)]
  exact step (iteF k1 fx g1 am1 L s1 r1) fun f s3 g3 am3 cx3 fl l3 a3 r3 q3 k3=>⟨g3,am3,cx3,fl,l.trans (l1.trans l3),a.trans (a1.trans a3),r3,q3,k3⟩
end
section
variable {c:Cst} {d u:Nat} {e:En} {cx:Cx} {pos:Pos}
noncomputable def Cx.drop (cx:Cx) (i:Nat):Cx:={ cx with obj:=cx.obj.filter fun p=>p.1 != i }
theorem drop_sub (cx:Cx) (i:Nat):(cx.drop i).obj.Sublist cx.obj:=List.filter_sublist
theorem Rep.sub_obj {fx:Fx} {g:Heap} {am:Am} {L:Addr} {s:Shared} (r:Rep c fx g am L cx s) {obj:List (Nat×SO)} (hs:obj.Sublist cx.obj):Rep c fx g am L { cx with obj } s:=by
 have sub:∀ b∈L :: owned am obj,b∈L :: owned am cx.obj:=fun b hb=>by
  rcases List.mem_cons.mp hb with rfl | hb
  ·exact .head _
  ·exact .tail _ ((owned_sublist hs).subset hb)
 exact ⟨r.sub,r.top,r.fr,fun p hp=>r.lay p (hs.subset hp),((owned_sublist hs).cons₂ L).nodup r.nd,(hs.map _).nodup r.idnd,fun b hb=>r.out b (sub b hb),r.lo,r.nx,r.free,r.frm,fun b hb=>r.frout b (sub b hb),r.new,r.hiN,r.szN,r.gens,r.os,r.frg,r.NL⟩
theorem Rep.fz {fx:Fx} {g:Heap} {am:Am} {L:Addr} {s:Shared} {i:Nat} {xs:List SV} {v:Value} (r:Rep c fx g am L cx s) (hi:100≤i) (h:cx.obj.lookup i=some (.list xs)) (hv:VR g am (.ref i) v):∃ g',Le g g'∧Rep c fx g' am L (cx.drop i) s∧VR g' am (.fl xs) v:=by
 refine hide fun Go jo=>?_
 obtain ⟨a,vs,rfl,ea,hm,ht,hq⟩:=r.lst h hv
 have r1:Rep c fx g am L (cx.drop i) s:=r.sub_obj (drop_sub cx i)
 have hown:a∉L :: owned am (cx.drop i).obj:=fun hb=>by
  rcases List.mem_cons.mp hb with rfl | hb
  ·exact (List.nodup_cons.mp r.nd).1 (mem_owned.mpr ⟨_,hm,_,ea,by simp⟩)
  ·obtain ⟨p,hp,as,e2,hb⟩:=mem_owned.mp hb
   obtain ⟨h1,h2⟩:=List.mem_filter.mp hp
   exact nodup_apart (i:=i) (j:=p.1) (x:=.list xs) (y:=p.2) ea e2 (fun q=>by simp [q] at h2) (by simp) hb cx.obj hm h1 (List.nodup_cons.mp r.nd).2
 obtain ⟨o,ho,hc⟩:=ht.isList
 obtain ⟨g',l,ho',r'⟩:=r1.freeze ho (r.hiN i _ hi ea a (by simp)) hown (r.frout a (.tail _ (mem_owned.mpr ⟨_,hm,_,ea,by simp⟩)))
 refine jo ?_
 exact ⟨g',l,r',.fl ⟨o,ho',hc⟩ (hq.mono l (.refl _))⟩
theorem sp_fz {t:Addr→Sem Value} {K:SV→Cx→Prop} (h:Sp c d u t VR cx fun v cx1=>∃ i xs,v = .ref i∧100≤i∧cx1.obj.lookup i=some (.list xs)∧K (.fl xs) (cx1.drop i)):Sp c d u t VR cx K:=fun fx g am L s R =>
 step (h fx g am L s R) fun v s1 g1 am1 cx1 w l1 a1 r1 q1 k1=>by
  refine hide fun Go jo=>?_
  obtain ⟨i,xs,rfl,hi,hl,k⟩:=k1
  obtain ⟨g2,l2,r2,q2⟩:=r1.fz hi hl q1
  refine jo ?_
  exact ⟨g2,am1,_,_,l1.trans l2,a1,r2,q2,k⟩
theorem sp_flist {es:List Expr} {K:SV→Cx→Prop} (h:SpArgs c d u e es cx fun xs cx1=>xs.length≤1000∧K (.fl xs) cx1) (hs:noStars es=true:=by rfl):Sp c d u (fun L=>eval (.List es pos) (e.env L)) VR cx K:=fun fx g am L s R =>
 List_ (step (SpArgs.spliced hs h fx g am L s R) fun vs s1 g1 am1 cx1 xs l1 a1 r1 q1 k1=>by
  refine wpAny_newObj_type ?_ (by show vs.toArray.size≤sizeLine; have:=q1.length; have:=k1.1; rw [List.size_toArray,sizeLine_eq]; lia)
  refine hide fun Go jo=>?_
  obtain ⟨g2,le,e2,r2⟩:=r1.pushF (o:={ cls:=.type "list",data:=.seq vs.toArray }) rfl (t:=s1.toks)
  refine jo ?_
  exact ⟨g2,am1,cx1,.fl xs,l1.trans le,a1,r2,.fl ⟨_,e2,rfl,_,rfl⟩ (q1.mono le (.refl _)),k1.2⟩)
noncomputable def Cx.addAt (cx:Cx) (i:Nat) (so:SO):Cx:={ cx with obj:=(i,so) :: cx.obj,fr:=cx.fr.filter fun j=>j != i }
theorem Rep.allocAt {fx:Fx} {g:Heap} {am:Am} {L:Addr} {s:Shared} {i:Nat} (r:Rep c fx g am L cx s) (hi:i∈cx.fr) {as:List Addr} {h':Heap} {so:SO} {t:Nat} (hle:Le s.heap h') (hsz:s.heap.objs.size≤h'.objs.size) (hown:∀ b∈L :: owned am cx.obj,h'.get? b=s.heap.get? b) (hnew:∀ a∈as,s.heap.objs.size≤a) (hnd:as.Nodup) (hl:Lay g h' (am.set i as) so as) :
  Rep c fx g (am.set i as) L (cx.addAt i so) { s with heap:=h',toks:=t }:=by
 have hif:=r.free i hi
 refine r.allocN (i:=i) (nx:=cx.nx) hif.2 hle hsz hown hnew hnd hl (Nat.le_refl _) (by have:=r.lo; lia) (fun j hj=>?_)
 obtain ⟨h1,h2⟩:=List.mem_filter.mp hj
 exact ⟨h1,fun q=>by simp [q] at h2⟩
theorem sp_listAt (i:Nat) {es:List Expr} {K:SV→Cx→Prop} (h:SpArgs c d u e es cx fun xs cx1=>xs.length≤1000∧i∈cx1.fr∧K (.ref i) (cx1.addAt i (.list xs))) (hs:noStars es=true:=by rfl):Sp c d u (fun L=>eval (.List es pos) (e.env L)) VR cx K:=fun fx g am L s R =>
 List_ (step (SpArgs.spliced hs h fx g am L s R) fun vs s1 g1 am1 cx1 xs l1 a1 r1 q1 k1=>by
  obtain ⟨hz,hi,k⟩:=k1
  refine wpAny_newObj_type ?_ (by show vs.toArray.size≤sizeLine; have:=q1.length; rw [List.size_toArray,sizeLine_eq]; lia)
  have le:=Am.set_le am1 [s1.heap.objs.size] (r1.free i hi).2
  exact ⟨g1,am1.set i [s1.heap.objs.size],cx1.addAt i (.list xs),.ref i,l1,a1.trans le,r1.allocAt hi (push_le _ _) (by rw [push_size]; exact Nat.le_succ _) (fun b hb=>Heap.get?_push_ne _ _ _ (Nat.ne_of_lt (r1.owned_lt b hb))) (fun a ha=>by simp at ha; exact Nat.le_of_eq ha.symm) (by simp) ⟨_,vs,rfl,⟨_,Heap.get?_push_size _ rfl⟩,q1.mono (.refl _) le⟩,.ref (Am.at_set ..),k⟩)
end
section
variable {c:Cst} {d u:Nat} {e:En} {cx:Cx} {pos:Pos}
theorem fresh_apart {fx:Fx} {g:Heap} {am:Am} {L:Addr} {s:Shared} (r:Rep c fx g am L cx s):Apart fx g am L cx [s.heap.objs.size]:=fun b hb=>by
 simp at hb; subst hb; exact ⟨r.fresh_own,r.fresh_out,r.fresh_fr⟩
theorem iter_fl {fx:Fx} {g:Heap} {am:Am} {L:Addr} {s:Shared} {xs:List SV} {v:Value} {A:Around} {E:Value→Shared→Prop} {Q:Value→Shared→Prop} (r:Rep c fx g am L cx s) (q:VR g am (.fl xs) v)
  (h:∀ it s',Rep c fx g am L cx s'→It c g s'.heap am it [it] xs→Apart fx g am L cx [it]→Q (.ref it) s'):wpAny c.M A (pyIter v) Q E s:=by
 cases q using VR.flE with
 | mk _ _ ho hv =>
  rename_i vs a
  have hl:=isList_le r.sub ho
  have hne:a≠s.heap.objs.size:=by obtain ⟨o,e,_⟩:=hl; exact Nat.ne_of_lt (Heap.lt_size e)
  refine wpAny_pyIter_list hl (h _ _ (r.push _ (t:=s.toks)) ⟨[s.heap.objs.size,a],vs.length,fun i v=>vs.toArray[i]? = some v,fun i h=>h.IsListIter s.heap.objs.size a i∧h.IsList a vs.toArray,0,fun A hA=>?_,⟨⟨_,Heap.get?_push_size _ rfl,rfl,rfl⟩,hl.push _⟩,?_,fun b hb=>?_,fun j x v hx p=>?_,fun i h st=>?_⟩ (fresh_apart r))
  ·exact Walks.list hA _ a hne vs.toArray
  ·simp [hv.length]
  ·simp at hb
   rcases hb with rfl | rfl
   ·exact .inl (by simp)
   ·obtain ⟨o,e,_⟩:=ho; exact .inr ⟨o,e⟩
  ·obtain ⟨w,e,q⟩:=hv.get hx
   rw [Nat.zero_add] at p
   have:vs[j]? = some v:=by simpa using p
   rw [this] at e; cases e; exact q
  ·refine hide fun Go jo=>?_
   obtain ⟨⟨o,ho,hc,_⟩,_⟩:=st
   refine jo ?_
   exact ⟨o,_,ho,hc,by decide⟩
theorem it_fl {iter:Expr} {I:List SV→Cx→Prop} (h:Sp c d u (fun L=>eval iter (e.env L)) VR cx fun v cx1=>∃ xs,v = .fl xs∧I xs cx1):SpIter c d u e iter cx I:=fun fx g am L s R =>
 step (h fx g am L s R) fun v s1 g1 am1 cx1 w l1 a1 r1 q1 k1=>by
  refine hide fun Go jo=>?_
  obtain ⟨xs,rfl,k⟩:=k1
  refine jo ?_
  exact iter_fl r1 q1 fun it s' r i ap=>⟨g1,am1,cx1,it,xs,rfl,l1,a1,r,i,ap,k⟩
noncomputable abbrev signs (x:Str):List SV:=x.cps.toList.map fun ch=>.str ⟨#[ch]⟩
theorem iter_str {fx:Fx} {g:Heap} {am:Am} {L:Addr} {s:Shared} {x:Str} {t:Tok} {A:Around} {E:Value→Shared→Prop} {Q:Value→Shared→Prop} (r:Rep c fx g am L cx s)
  (h:∀ it s',Rep c fx g am L cx s'→It c g s'.heap am it [it] (signs x)→Apart fx g am L cx [it]→Q (.ref it) s'):wpAny c.M A (pyIter (.str x t)) Q E s:=by
 have val:∀ j y v,(signs x)[j]? = some y→SignAt x (0+j) v→VR g am y v:=fun j y v hy ⟨ch,k,e,hv⟩=>by
  rw [Nat.zero_add] at e
  subst hv
  have:y = .str ⟨#[ch]⟩:=by
   simp only [signs,List.getElem?_map,Array.getElem?_toList,e,Option.map_some,Option.some.injEq] at hy
   exact hy.symm
  subst this
  exact .str _ _
 cases ha:x.cps.all (· < 128)
 ·refine wpAny_pyIter_wide ha (h _ _ (r.push _ (t:=s.toks)) ⟨[s.heap.objs.size],x.cps.size,_,_,0,fun A hA=>Walks.strWide hA _ x t,⟨_,Heap.get?_push_size _ rfl,rfl,rfl⟩,by simp [signs],fun b hb=>.inl hb,val,fun i h st=>?_⟩ (fresh_apart r))
  refine hide fun Go jo=>?_
  obtain ⟨o,ho,hc,_⟩:=st
  refine jo ?_
  exact ⟨o,_,ho,hc,by decide⟩
 ·refine wpAny_pyIter_ascii ha (h _ _ (r.push _ (t:=s.toks)) ⟨[s.heap.objs.size],x.cps.size,_,_,0,fun A hA=>Walks.strAscii hA _ x t,⟨_,Heap.get?_push_size _ rfl,rfl,rfl⟩,by simp [signs],fun b hb=>.inl hb,val,fun i h st=>?_⟩ (fresh_apart r))
  refine hide fun Go jo=>?_
  obtain ⟨o,ho,hc,_⟩:=st
  refine jo ?_
  exact ⟨o,_,ho,hc,by decide⟩
theorem it_str {iter:Expr} {I:List SV→Cx→Prop} (h:Sp c d u (fun L=>eval iter (e.env L)) VR cx fun v cx1=>∃ x,v = .str x∧I (signs x) cx1):SpIter c d u e iter cx I:=fun fx g am L s R =>
 step (h fx g am L s R) fun v s1 g1 am1 cx1 w l1 a1 r1 q1 k1=>by
  refine hide fun Go jo=>?_
  obtain ⟨x,rfl,k⟩:=k1
  cases q1 using VR.strE
  refine jo ?_
  exact iter_str r1 fun it s' r i ap=>⟨g1,am1,cx1,it,_,rfl,l1,a1,r,i,ap,k⟩
noncomputable def RngR (g:Heap) (am:Am) (x:Int×Int×Int) (v:Value):Prop:=∃ r t u w,v = .ref r∧IsRange g r x.1 x.2.1 x.2.2 t u w
noncomputable abbrev run (a c:Int) (n:Nat):List SV:=(List.range n).map fun (i:Nat)=>.int (a+(i:Int) * c)
theorem it_rng {iter:Expr} {I:List SV→Cx→Prop} (h:Sp c d u (fun L=>eval iter (e.env L)) RngR cx fun x cx1=>Builtin.Range.small x.1 x.2.1 x.2.2=true∧∃ n:Nat,Builtin.Range.rangeSize x.1 x.2.1 x.2.2=n∧I (run x.1 x.2.2 n) cx1):SpIter c d u e iter cx I:=fun fx g am L s R =>
 step (h fx g am L s R) fun v s1 g1 am1 cx1 x l1 a1 r1 q1 k1=>by
  refine hide fun Go jo=>?_
  obtain ⟨hs,n,hn,k⟩:=k1
  obtain ⟨rr,t,u,w,rfl,hr⟩:=q1
  refine jo ?_
  refine wpAny_pyIter_range (r1.sub _ _ hr) hs ?_
  refine ⟨g1,am1,cx1,s1.heap.objs.size,_,rfl,l1,a1,r1.push _ (t:=s1.toks),⟨[s1.heap.objs.size],n,_,_,0,fun A hA=>Walks.range hA _ x.1 x.2.2 n,?_,by simp [run],fun b hb=>.inl hb,fun j y v hy p=>?_,fun i h st=>?_⟩,fresh_apart r1,k⟩
  ·show IsRangeIter _ _ _ _ _
   rw [hn]
   simp only [Int.natCast_zero,Int.zero_mul,Int.add_zero,Int.sub_zero]
   exact Heap.get?_push_size _ rfl
  ·refine hide fun Go jo=>?_
   obtain ⟨t,rfl⟩:=p
   have hj:j<n:=by
    by_cases q:j<n
    ·exact q
    ·simp [run,q] at hy
   simp only [run,List.getElem?_map,List.getElem?_range hj,Option.map_some,Option.some.injEq] at hy
   subst hy
   refine jo ?_
   rw [Nat.zero_add]
   exact .int _ _
  ·exact ⟨_,_,st,rfl,by decide⟩
theorem c_range2 {a b:Int} {K:Int×Int×Int→Cx→Prop} (h:K (a,b,1) cx):SpN c d u (fun vs=>call (.type "range") vs) RngR [.int a,.int b] cx K:=fun fx g am L s vs R q=>by
 cases q using VRs.consE with
 | mk _ _ q1 q=>cases q using VRs.consE with
  | mk _ _ q2 q =>
         cases q using VRs.nilE; cases q1 using VR.intE; cases q2 using VR.intE
         refine call_range_2 ?_
         refine hide fun Go jo=>?_
         obtain ⟨g2,le,e2,r2⟩:=R.pushF (o:={ cls:=.type "range",data:=.fields #[.int a _,.int b _,.int 1 s.toks] }) rfl (t:=s.toks+1)
         refine jo ?_
         exact ⟨g2,am,cx,_,le,.refl _,r2,⟨_,_,_,_,rfl,e2⟩,h⟩
theorem c_range1 {b:Int} {K:Int×Int×Int→Cx→Prop} (h:K (0,b,1) cx):SpN c d u (fun vs=>call (.type "range") vs) RngR [.int b] cx K:=fun fx g am L s vs R q=>by
 cases q using VRs.consE with
 | mk _ _ q1 q =>
        cases q using VRs.nilE; cases q1 using VR.intE
        refine call_range_1 ?_
        refine hide fun Go jo=>?_
        obtain ⟨g2,le,e2,r2⟩:=R.pushF (o:={ cls:=.type "range",data:=.fields #[.int 0 s.toks,.int b _,.int 1 (s.toks+1)] }) rfl (t:=s.toks+1+1)
        refine jo ?_
        exact ⟨g2,am,cx,_,le,.refl _,r2,⟨_,_,_,_,rfl,e2⟩,h⟩
theorem c_range3 {a b k:Int} {K:Int×Int×Int→Cx→Prop} (hk:k≠0) (hp:Builtin.divisionGoesByPylong (b - a) k=false) (h:K (a,b,k) cx):SpN c d u (fun vs=>call (.type "range") vs) RngR [.int a,.int b,.int k] cx K:=fun fx g am L s vs R q=>by
 cases q using VRs.consE with
 | mk _ _ q1 q=>cases q using VRs.consE with
  | mk _ _ q2 q=>cases q using VRs.consE with
   | mk _ _ q3 q =>
          cases q using VRs.nilE; cases q1 using VR.intE; cases q2 using VR.intE; cases q3 using VR.intE
          refine call_range_3 hk ?_ (.inl hp)
          refine hide fun Go jo=>?_
          obtain ⟨g2,le,e2,r2⟩:=R.pushF (o:={ cls:=.type "range",data:=.fields #[.int a _,.int b _,.int k _] }) rfl (t:=s.toks)
          refine jo ?_
          exact ⟨g2,am,cx,_,le,.refl _,r2,⟨_,_,_,_,rfl,e2⟩,h⟩
noncomputable def SpPart (c:Cst) (d u:Nat) (e:En):Option Expr→Cx→(Option Int→Cx→Prop)→Prop
 | none,cx,K=>K none cx
 | some x,cx,K=>Sp c d u (fun L=>eval x (e.env L)) VR cx fun v cx1=>∃ k,v = .int k∧K (some k) cx1
theorem SpPart.run {x:Option Expr} {K:Option Int→Cx→Prop} (h:SpPart c d u e x cx K):Sp c d u (fun L=>evalPart x (e.env L)) (fun _ _ k v=>IsPart v k) cx K:=fun fx g am L s R=>by
 cases x with
 | none=>exact wpAny_pure (Ends.here R .none h)
 | some x =>
  exact step (h fx g am L s R) fun v s1 g1 am1 cx1 w l1 a1 r1 q1 k1=>by
   refine hide fun Go jo=>?_
   obtain ⟨k,rfl,k1⟩:=k1
   cases q1 using VR.intE
   refine jo ?_
   exact ⟨g1,am1,cx1,some k,l1,a1,r1,.int _ _,k1⟩
noncomputable def SlR (g:Heap) (am:Am) (x:Option Int×Option Int) (v:Value):Prop:=∃ sl vl vu,v = .ref sl∧g.IsSliceOf sl vl vu .none∧IsPart vl x.1∧IsPart vu x.2
theorem sp_slice {lo hi:Option Expr} {p:Pos} {K:Option Int×Option Int→Cx→Prop} (h:SpPart c d u e lo cx fun a cx1=>SpPart c d u e hi cx1 fun b cx2=>K (a,b) cx2):Sp c d u (fun L=>eval (.Slice lo hi none p) (e.env L)) SlR cx K:=fun fx g am L s R =>
 wpAny_Slice (step (SpPart.run h fx g am L s R) fun vl s1 g1 am1 cx1 a l1 a1 r1 q1 k1=>step (SpPart.run k1 fx g1 am1 L s1 r1) fun vu s2 g2 am2 cx2 b l2 a2 r2 q2 k2=>wpAny_pure (by
  refine hide fun Go jo=>?_
  obtain ⟨g3,le,e3,r3⟩:=r2.pushF (o:={ cls:=.type "slice",data:=.fields #[vl,vu,.none] }) rfl (t:=s2.toks)
  refine jo ?_
  exact ⟨g3,am2,cx2,(a,b),(l1.trans l2).trans le,a1.trans a2,r3,⟨_,vl,vu,rfl,⟨_,e3,rfl,rfl⟩,q1,q2⟩,k2⟩))
noncomputable def SpSl {α β:Type} (c:Cst) (d u:Nat) (t:Value→Value→Sem α) (R:Heap→Am→β→α→Prop) (x:SV) (y:Option Int×Option Int) (cx:Cx) (K:β→Cx→Prop):Prop :=
 ∀ fx g am L s v v',Rep c fx g am L cx s→VR g am x v→SlR g am y v'→wpAny c.M (Ar d u) (t v v') (Ends c fx g am L R K) No s
theorem sp_subsl {o:Expr} {lo hi:Option Expr} {p:Pos} {K:SV→Cx→Prop} (h:Sp c d u (fun L=>eval o (e.env L)) VR cx fun x cx1=>SpPart c d u e lo cx1 fun a cx2=>SpPart c d u e hi cx2 fun b cx3=>SpSl c d u (fun v w=>subscriptTail o (.Slice lo hi none p) v w) VR x (a,b) cx3 K) :
  Sp c d u (fun L=>eval (.Subscript o (.Slice lo hi none p) pos) (e.env L)) VR cx K:=fun fx g am L s R =>
 Subscript_ (step (h fx g am L s R) fun a _ g1 am1 _ x l1 a1 r1 q1 k1=>step (sp_slice (K:=fun y cx3=>SpSl c d u (fun v w=>subscriptTail o (.Slice lo hi none p) v w) VR x y cx3 K) k1 fx g1 am1 L _ r1) fun b _ g2 am2 _ _ l2 a2 r2 q2 k2 =>
  wup (l1.trans l2) (a1.trans a2) (k2 fx g2 am2 L _ a b r2 (q1.mono l2 a2) q2))
noncomputable def pick {α:Type} (xs:List α) (y:Option Int×Option Int):List α:=(xs.drop (y.1.elim 0 (clipAt xs.length))).take (y.2.elim xs.length (clipAt xs.length) - y.1.elim 0 (clipAt xs.length))
theorem VRs.pick {g:Heap} {am:Am} {xs:List SV} {vs:List Value} (h:VRs g am xs vs) (y:Option Int×Option Int):VRs g am (pick xs y) (pick vs y):=by
 unfold Mine.pick
 rw [h.length]
 exact (h.drop _).take _
end
section
variable {c:Cst} {d u:Nat} {e:En} {cx:Cx} {pos:Pos} {A:Around} {s:Shared} {E:Value→Shared→Prop}
theorem get_int {a:Addr} {o:Obj} {items:Array Value} {n:Nat} {k:Int} {t:Tok} {x:Value} {Q:Value→Shared→Prop} (ho:s.heap.get? a=some o) (hd:o.data = .seq items n) (h0:0≤k) (hfit:k<2 ^ 63) (hx:items[k.toNat]? = some x) (h:Q x s) :
  wpAny c.M A (Builtin.«list.__getitem__» ⟨[.ref a,.int k t],[]⟩) (fun fin s'=>∃ v,fin = .done (.ret v)∧Q v s') E s:=by
 show wpAny _ _ (Builtin.List.listSubscript? (.int k t) >>= _) _ _ s
 refine wpAny_bind (wpAny_listSubscript_int (fitsIndex_of h0 hfit) ?_)
 clear hfit
 obtain ⟨j,rfl⟩:=Int.eq_ofNat_of_zero_le h0
 have hx':items[j]? = some x:=hx
 show wpAny _ _ ((seqItemAt a j >>= fun r=>pure (r.map (j,·))) >>= _) _ _ s
 refine wpAny_bind (wpAny_bind (wpAny_seqItemAt ho hd (wpAny_pure ?_)))
 rw [hx']
 first
  | exact wpAny_bind (wpAny_pure (wpAny_pure ⟨x,rfl,h⟩))
  | exact wpAny_pure ⟨x,rfl,h⟩
theorem parts_slice {sl:Addr} {vl vu:Value} {lo hi:Option Int} {Q:Value×Value×Value→Shared→Prop} (hs:s.heap.IsSliceOf sl vl vu .none) (pl:IsPart vl lo) (pu:IsPart vu hi) (h:Q (rawPart lo,rawPart hi,rawPart none) s):wpAny c.M A (Builtin.List.listSliceParts (.ref sl)) Q E s:=by
 refine hide fun Go jo=>?_
 obtain ⟨os,hos,hcs,hds⟩:=hs
 refine jo ?_
 rw [listSliceParts_eq]
 refine wpAny_bind (wpAny_field hos hds (x:=.none) rfl (wpAny_bind (wpAny_listPart .none ?_)))
 first | (with_reducible refine wp_neg ?_ ?_; · exact (by decide)) | rw [if_neg (by decide)]
 refine wpAny_bind (wpAny_field hos hds (x:=vl) rfl (wpAny_bind (wpAny_listPart pl ?_)))
 exact wpAny_bind (wpAny_field hos hds (x:=vu) rfl (wpAny_bind (wpAny_listPart pu (wpAny_pure h))))
theorem get_slice {a sl:Addr} {o:Obj} {items:Array Value} {n:Nat} {vl vu:Value} {lo hi:Option Int} {Q:Value→Shared→Prop} (ho:s.heap.get? a=some o) (hd:o.data = .seq items n) (hs:s.heap.IsSliceOf sl vl vu .none) (pl:IsPart vl lo) (pu:IsPart vu hi) (hsz:items.size≤sizeLine)
  (h:Q (.ref s.heap.objs.size) { s with heap:=s.heap.push { cls:=.type "list",data:=.seq (slicePick items lo hi none) } }) :
  wpAny c.M A (Builtin.«list.__getitem__» ⟨[.ref a,.ref sl],[]⟩) (fun fin s'=>∃ v,fin = .done (.ret v)∧Q v s') E s:=by
 refine hide fun Go jo=>?_
 obtain ⟨os,hos,hcs,hds⟩:=id hs
 refine jo ?_
 have hTs:s.TypeIs (.ref sl) "slice":=⟨os,hos,hcs⟩
 show wpAny _ _ (Builtin.List.listSubscript? (.ref sl) >>= _) _ _ s
 refine wpAny_bind ?_
 unfold Builtin.List.listSubscript?
 refine wpAny_bind (wpAny_specialOf hTs slice_no_index ?_)
 refine wp_pos rfl (wpAny_pure ?_)
 show wpAny _ _ (typeOf (.ref sl) >>= _) _ _ s
 refine wpAny_bind (wpAny_typeOf hTs ?_)
 first | (with_reducible refine wp_neg ?_ ?_; · exact (by decide)) | rw [if_neg (by decide)]
 refine wpAny_bind (parts_slice hs pl pu ?_)
 refine wpAny_bind (m:=Builtin.List.listItems (.ref a)) ?_
 unfold Builtin.List.listItems
 refine wpAny_bind (wpAny_seqItems ho hd (wpAny_pure ?_))
 refine wpAny_bind (wpAny_of_eq (sliceIndices_raw lo hi none items.size (by simp)) ?_)
 exact wpAny_bind (wpAny_newObj_type (wpAny_pure ⟨_,rfl,h⟩) (Nat.le_trans (slicePick_size_le items lo hi none) hsz))
theorem set_last {a:Addr} {o:Obj} {items:Array Value} {n:Nat} {t:Tok} {v:Value} {Q:Value→Shared→Prop} (ho:s.heap.get? a=some o) (hd:o.data = .seq items n) (h1:1≤items.size) (h:Q .none { s with heap:=s.heap.update a (Obj.mapSeq (·.setIfInBounds (items.size - 1) v)) }) :
  wpAny c.M A (Builtin.«list.__setitem__» ⟨[.ref a,.int (-1) t,v],[]⟩) (fun fin s'=>∃ v,fin = .done (.ret v)∧Q v s') E s:=by
 show wpAny _ _ (Builtin.List.listSubscript? (.int (-1) t) >>= _) _ _ s
 refine wpAny_bind (wpAny_listSubscript_int (fitsIndex_neg (by lia) (by lia)) ?_)
 have hidx:=seqIndex_neg (k:=-1) (n:=items.size) (by lia) (by lia)
 show wpAny _ _ ((Builtin.List.listItems (.ref a) >>= fun xs=>pure ((seqIndex? (Int.negSucc 0) xs.size).bind fun i=>xs[i]?.map (i,·))) >>= _) _ _ s
 refine wpAny_bind (wpAny_bind ?_)
 show wpAny _ _ (seqItems? (.ref a) >>= _) _ _ s
 refine wpAny_bind (wpAny_seqItems ho hd (wpAny_pure (wpAny_pure ?_)))
 have e1:(-1+(items.size:Int)).toNat=items.size - 1:=by lia
 have hx':items[items.size - 1]? = some items[items.size - 1]:=Array.getElem?_eq_getElem (by lia)
 rw [show Int.negSucc 0 = -1 from rfl,hidx,e1]
 simp only [Option.bind_some,hx',Option.map_some]
 show wpAny _ _ (setSeqItemAt a (items.size - 1) v >>= _) _ _ s
 refine wpAny_bind (wpAny_setSeqItemAt ho hd ?_)
 first
  | exact wpAny_bind (wpAny_pure (wpAny_pure ⟨.none,rfl,h⟩))
  | exact wpAny_pure ⟨.none,rfl,h⟩
theorem letGo_any {removed keep:List Value} {Q:Unit→Shared→Prop} (h:Q () s):wpAny c.M A (letGo removed keep) Q E s:=by
 induction removed with
 | nil=>exact wpAny_pure h
 | cons x r ih=>exact wpAny_bind (wpAny_holding (wpAny_point ih))
theorem list_items {a:Addr} {o:Obj} {items:Array Value} {n:Nat} {Q:Array Value→Shared→Prop} (ho:s.heap.get? a=some o) (hd:o.data = .seq items n) (h:Q items s):wpAny c.M A (Builtin.List.listItems (.ref a)) Q E s:=by
 unfold Builtin.List.listItems
 exact wpAny_bind (m:=seqItems? (.ref a)) (wpAny_seqItems ho hd (wpAny_pure h))
theorem all_items {b:Addr} {new:Array Value} {msg:String} {Q:Array Value→Shared→Prop} (hb:s.heap.IsList b new) (h:Q new s):wpAny c.M A (Builtin.List.listAllItems (.ref b) msg) Q E s:=by
 refine hide fun Go jo=>?_
 obtain ⟨ob,hob,hcb,nb,hdb⟩:=id hb
 refine jo ?_
 unfold Builtin.List.listAllItems
 refine wpAny_bind (wpAny_typeOf hb.typeIs ?_)
 first | (with_reducible refine wp_pos ?_ ?_; · exact (by decide)) | rw [if_pos (by decide)]
 exact list_items hob hdb h
theorem toNat_max (x y:Nat):(max (x:Int) (y:Int)).toNat=max x y:=by
 rcases Nat.le_total x y with h | h
 ·rw [Int.max_eq_right (Int.ofNat_le.mpr h),Nat.max_eq_right h]; rfl
 ·rw [Int.max_eq_left (Int.ofNat_le.mpr h),Nat.max_eq_left h]; rfl
theorem slice_room (n k x y:Nat):min x n - 0+k+(min n n - max x y)≤n+k:=by
 have h1:n - max x y≤n - x:=Nat.sub_le_sub_left (Nat.le_max_left x y) n
 have h2:min x n+(n - x)=n:=by
  rcases Nat.le_total x n with h | h
  ·rw [Nat.min_eq_left h,Nat.add_sub_cancel' h]
  ·rw [Nat.min_eq_right h,Nat.sub_eq_zero_of_le h,Nat.add_zero]
 rw [Nat.min_self,Nat.sub_zero,Nat.add_right_comm]
 exact Nat.add_le_add_right (Nat.le_trans (Nat.add_le_add_left h1 _) (Nat.le_of_eq h2)) k
theorem set_slice {a b sl:Addr} {o:Obj} {items new:Array Value} {n:Nat} {vl vu:Value} {lo hi:Option Int} {Q:Value→Shared→Prop} (hab:a≠b) (ho:s.heap.get? a=some o) (hd:o.data = .seq items n) (hb:s.heap.IsList b new) (hs:s.heap.IsSliceOf sl vl vu .none) (pl:IsPart vl lo) (pu:IsPart vu hi) (hsz:items.size+new.size≤100000)
  (h:Q .none { s with heap:=s.heap.update a (Obj.mapSeq fun xs=>xs.extract 0 (lo.elim 0 (clipAt items.size))++new++xs.extract (max (lo.elim 0 (clipAt items.size)) (hi.elim items.size (clipAt items.size))) xs.size) }) :
  wpAny c.M A (Builtin.«list.__setitem__» ⟨[.ref a,.ref sl,.ref b],[]⟩) (fun fin s'=>∃ v,fin = .done (.ret v)∧Q v s') E s:=by
 refine hide fun Go jo=>?_
 obtain ⟨os,hos,hcs,hds⟩:=id hs
 have hTs:s.TypeIs (.ref sl) "slice":=⟨os,hos,hcs⟩
 obtain ⟨ob,hob,hcb,nb,hdb⟩:=id hb
 refine jo ?_
 show wpAny _ _ (Builtin.List.listSubscript? (.ref sl) >>= _) _ _ s
 refine wpAny_bind ?_
 unfold Builtin.List.listSubscript?
 refine wpAny_bind (wpAny_specialOf hTs slice_no_index ?_)
 refine wp_pos rfl (wpAny_pure ?_)
 show wpAny _ _ (typeOf (.ref sl) >>= _) _ _ s
 refine wpAny_bind (wpAny_typeOf hTs ?_)
 first | (with_reducible refine wp_neg ?_ ?_; · exact (by decide)) | rw [if_neg (by decide)]
 refine wpAny_bind (parts_slice hs pl pu ?_)
 have hne:Builtin.List.listSameRef (.ref a) (.ref b)=false:=by simpa [Builtin.List.listSameRef] using hab
 first | (with_reducible refine wp_neg ?_ ?_; · exact (by rw [hne]; decide)) | rw [if_neg (by rw [hne]; decide)]
 refine wpAny_bind (m:=Builtin.List.listAllItems (.ref b) _) (all_items hb ?_)
 refine wpAny_bind (m:=Builtin.List.listItems (.ref a)) (list_items ho hd ?_)
 refine wpAny_bind (wpAny_of_eq (sliceIndices_raw lo hi none items.size (by simp)) ?_)
 rw [sliceBounds_plain]
 dsimp only
 first | (with_reducible refine wp_pos ?_ ?_; · exact (by decide)) | rw [if_pos (by decide)]
 refine wpAny_bind (wpAny_rule ?_)
 have hlong:Builtin.List.listTooLong (items.size+new.size)=false:=by
  unfold Builtin.List.listTooLong
  rw [sizeLine_eq]
  simp
  lia
 first | (with_reducible refine wp_neg ?_ ?_; · exact (by rw [hlong]; decide)) | rw [if_neg (by rw [hlong]; decide)]
 have e1:(max ((lo.elim 0 (clipAt items.size):Nat):Int) ((hi.elim items.size (clipAt items.size):Nat):Int)).toNat=max (lo.elim 0 (clipAt items.size)) (hi.elim items.size (clipAt items.size)):=toNat_max _ _
 have e2:((lo.elim 0 (clipAt items.size):Nat):Int).toNat=lo.elim 0 (clipAt items.size):=rfl
 rw [e1,e2]
 refine wpAny_bind (m:=updateSeq a _) (wpAny_updateSeq ho hd (wpAny_bind (letGo_any (wpAny_pure ⟨.none,rfl,h⟩))) (by rw [sizeLine_eq]; lia) ?_)
 rw [sizeLine_eq,Array.size_append,Array.size_append,Array.size_extract,Array.size_extract]
 exact Nat.le_trans (slice_room _ _ _ _) (by lia)
structure LSpec (c:Cst) (C:Addr):Prop where
 dq:mroIn c.K C (.type "collections.deque")=some false
 lst:mroIn c.K C (.type "list")=some true
 gi:findIn c.K (.ref C) "__getitem__" = some (some (.builtin "list.__getitem__"))
 si:findIn c.K (.ref C) "__setitem__" = some (some (.builtin "list.__setitem__"))
theorem key_L {x C:Addr} {ox:Obj} {od:Option Obj} {k:Value} {name:Str} {Q:Value→Shared→Prop} (X:c.K.In s.heap) (I:InstAt s.heap x ox C od) (ok:LSpec c C) (h:Q k s):wpAny c.M A (sequenceKey (.ref x) k name) Q E s:=by
 unfold sequenceKey
 refine wpAny_bind (I.type.here ?_)
 show wpAny _ _ (([("collections.deque":String)].anyM fun n=>isSubtype (.ref C) (.type n)) >>= _) _ _ s
 refine wpAny_bind ?_
 show wpAny _ _ (isSubtype (.ref C) (.type "collections.deque") >>= _) _ _ s
 refine wpAny_bind ((looks_mroIn X ok.dq).here ?_)
 exact wpAny_pure (wpAny_pure h)
theorem spec_L {x C:Addr} {ox:Obj} {od:Option Obj} {name:Str} {id:String} {args:List Value} {Q:Option Value→Shared→Prop} (X:c.K.In s.heap) (I:InstAt s.heap x ox C od) (hf:findIn c.K (.ref C) name=some (some (.builtin id))) (ht:typeOf (.builtin id)=pure (.type "method_descriptor")∨typeOf (.builtin id)=pure (.type "wrapper_descriptor"))
  (h:wpAny c.M A (call (.builtin id) (.ref x :: args)) (fun v=>Q (some v)) E s):wpAny c.M A (callSpecial? (.ref x) name args) Q E s:=by
 unfold callSpecial? specialOf
 refine wpAny_bind (wpAny_bind (I.type.here ((looks_findIn X hf).here ?_)))
 refine wpAny_holding ?_
 unfold bindSpecial
 rcases ht with ht | ht
 all_goals
  refine wpAny_bind (wpAny_bind (wpAny_of_eq ht ?_))
  first | (with_reducible refine wp_pos ?_ ?_; · exact (by decide)) | rw [if_pos (by decide)]
  exact wpAny_pure (wpAny_bind (wpAny_mono h (fun _ _ q=>wpAny_pure q) fun _ _ x=>x))
theorem py_L {x C:Addr} {ox:Obj} {od:Option Obj} (X:c.K.In s.heap) (I:InstAt s.heap x ox C od) (ok:LSpec c C) (Q:Bool→Shared→Prop) (E:Value→Shared→Prop) (h:Q false s):wpAny c.M A (getitemInPython (.ref x)) Q E s:=by
 unfold getitemInPython specialOf
 exact wpAny_bind (wpAny_bind (I.type.here ((looks_findIn X ok.gi).here (wpAny_pure h))))
theorem type_getitem:typeOf (.builtin "list.__getitem__")=pure (.type "method_descriptor"):=by show builtinType _=_; rw [builtinType_eq_fast]; kernel_rfl
theorem type_setitem:typeOf (.builtin "list.__setitem__")=pure (.type "wrapper_descriptor"):=by show builtinType _=_; rw [builtinType_eq_fast]; kernel_rfl
theorem getItem_L {x C:Addr} {ox:Obj} {od:Option Obj} {k:Value} {Q:Value→Shared→Prop} (X:c.K.In s.heap) (I:InstAt s.heap x ox C od) (ok:LSpec c C) (h:wpAny c.M A.in1 (Builtin.«list.__getitem__» ⟨[.ref x,k],[]⟩) (fun fin s'=>∃ v,fin = .done (.ret v)∧Q v s') E s):wpAny c.M A (getItem (.ref x) k) Q E s:=by
 unfold getItem
 refine wpAny_holding (wpAny_bind (key_L X I ok ?_))
 refine wpAny_bind (spec_L X I ok.gi (.inl type_getitem) ?_)
 refine call_sub (i:="list.__getitem__") (owner:="list") (n:="__getitem__") slot_list_getitem.plain entry_list_getitem (by first | exact .inl (by decide +kernel) | exact .inr (by decide +kernel)) (by decide +kernel) (inst_list X I ok.lst) (args_list_getitem _ _) ?_
 exact wpAny_mono h (fun fin s' ⟨v,a,b⟩=>⟨v,a,wpAny_pure b⟩) fun _ _ x=>x
theorem setItem_L {x C:Addr} {ox:Obj} {od:Option Obj} {k v:Value} {Q:Unit→Shared→Prop} (X:c.K.In s.heap) (I:InstAt s.heap x ox C od) (ok:LSpec c C) (h:wpAny c.M A.in1 (Builtin.«list.__setitem__» ⟨[.ref x,k,v],[]⟩) (fun fin s'=>∃ v,fin = .done (.ret v)∧Q () s') E s):wpAny c.M A (setItem (.ref x) k v) Q E s:=by
 unfold setItem
 refine wpAny_holding (wpAny_bind (key_L X I ok ?_))
 refine wpAny_bind (spec_L X I ok.si (.inr type_setitem) ?_)
 refine call_sub (i:="list.__setitem__") (owner:="list") (n:="__setitem__") slot_list_setitem.plain entry_list_setitem (by first | exact .inl (by decide +kernel) | exact .inr (by decide +kernel)) (by decide +kernel) (inst_list X I ok.lst) (args_list_setitem _ _ _) ?_
 exact wpAny_mono h (fun fin s' ⟨v,a,b⟩=>⟨v,a,wpAny_pure b⟩) fun _ _ x=>x
end
section
variable {c:Cst} {d u:Nat} {e:En} {cx:Cx} {pos:Pos}
theorem i_linst {o i:Expr} {n C:Nat} {xs:List SV} {fs:List (Str×SV)} {k:Int} {x:SV} {K:SV→Cx→Prop} (hi:cx.obj.lookup n=some (.linst C xs fs)) (ok:LSpec c C) (h0:0≤k) (hr:k<1000000) (hx:xs[k.toNat]? = some x) (h:K x cx):Sp2 c d u (fun a b=>subscriptTail o i a b) VR (.ref n) (.int k) cx K:=fun fx g am L s _ _ R q q'=>by
 refine hide fun Go jo=>?_
 cases q' using VR.intE
 obtain ⟨a,dx,ox,es,n0,rfl,ea,hm,l,ho,hd,I,hdx,fr⟩:=R.fld (C:=C) (fs:=fs) hi rfl q
 obtain ⟨ws,k',es,n',h1,h2,r1,r2⟩:=l.lin
 obtain ⟨v,ev,qv⟩:=r2.get hx
 refine jo ?_
 have X:=R.top.X.keeps R.sub
 exact tail_of (py_L X I ok) (getItem_L X I ok (get_int (items:=ws.toArray) (n:=k') (x:=v) h1 rfl h0 (by lia) (by rw [List.getElem?_toArray]; exact ev) (Ends.here R qv h)))
theorem pick_arr (vs:List Value) (y:Option Int×Option Int):slicePick vs.toArray y.1 y.2 none=(pick vs y).toArray:=by
 rw [slicePick_plain]; simp [pick]
theorem sl_linst {o i:Expr} {n C:Nat} {xs:List SV} {fs:List (Str×SV)} {y:Option Int×Option Int} {K:SV→Cx→Prop} (hi:cx.obj.lookup n=some (.linst C xs fs)) (ok:LSpec c C) (hz:xs.length≤1000) (h:K (.fl (pick xs y)) cx):SpSl c d u (fun a b=>subscriptTail o i a b) VR (.ref n) y cx K:=fun fx g am L s _ _ R q q'=>by
 refine hide fun Go jo=>?_
 obtain ⟨sl,vl,vu,rfl,⟨os,hos,hs⟩,pl,pu⟩:=q'
 obtain ⟨a,dx,ox,es,n0,rfl,ea,hm,l,ho,hd,I,hdx,fr⟩:=R.fld (C:=C) (fs:=fs) hi rfl q
 obtain ⟨ws,k',es,n',h1,h2,r1,r2⟩:=l.lin
 refine jo ?_
 have X:=R.top.X.keeps R.sub
 refine tail_of (py_L X I ok) (getItem_L X I ok (get_slice h1 rfl ⟨os,R.sub _ _ hos,hs⟩ pl pu (by have:=r2.length; rw [sizeLine_eq]; simp; lia) ?_))
 rw [pick_arr]
 refine hide fun Go jo=>?_
 obtain ⟨g2,le,e2,r2'⟩:=R.pushF (o:={ cls:=.type "list",data:=.seq (pick ws y).toArray }) rfl (t:=s.toks)
 refine jo ?_
 exact ⟨g2,am,cx,.fl (pick xs y),le,.refl _,r2',.fl ⟨_,e2,rfl,_,rfl⟩ ((r2.pick y).mono le (.refl _)),h⟩
theorem sl_fl {o i:Expr} {xs:List SV} {y:Option Int×Option Int} {K:SV→Cx→Prop} (hz:xs.length≤1000000) (h:K (.fl (pick xs y)) cx):SpSl c d u (fun a b=>subscriptTail o i a b) VR (.fl xs) y cx K:=fun fx g am L s _ _ R q q'=>by
 refine hide fun Go jo=>?_
 obtain ⟨sl,vl,vu,rfl,⟨os,hos,hs⟩,pl,pu⟩:=q'
 refine jo ?_
 cases q using VR.flE with
 | mk _ _ ho hv =>
  rename_i vs a
  have ht:=isList_le R.sub ho
  refine tail_of (notPy ht.typeIs slot_list_getitem.lookup) (wpAny_getItem_list_slice ht ⟨os,R.sub _ _ hos,hs⟩ pl pu .none (by simp) ?_ (by have:=hv.length; rw [sizeLine_eq]; simp; lia))
  rw [pick_arr]
  refine hide fun Go jo=>?_
  obtain ⟨g2,le,e2,r2'⟩:=R.pushF (o:={ cls:=.type "list",data:=.seq (pick vs y).toArray }) rfl (t:=s.toks)
  refine jo ?_
  exact ⟨g2,am,cx,.fl (pick xs y),le,.refl _,r2',.fl ⟨_,e2,rfl,_,rfl⟩ ((hv.pick y).mono le (.refl _)),h⟩
noncomputable def putSlice (xs new:List SV) (y:Option Int×Option Int):List SV:=xs.take (y.1.elim 0 (clipAt xs.length))++new++xs.drop (max (y.1.elim 0 (clipAt xs.length)) (y.2.elim xs.length (clipAt xs.length)))
noncomputable def SpSl3 (c:Cst) (d u:Nat) (x:SV) (y:Option Int×Option Int) (w:SV) (cx:Cx) (K:Cx→Prop):Prop :=
 ∀ fx g am L s v v' v'',Rep c fx g am L cx s→VR g am x v→SlR g am y v'→VR g am w v''→wpAny c.M (Ar d u) (setItem v v' v'') (Ends c fx g am L UR fun _ cx=>K cx) No s
theorem ss_setsl {o v:Expr} {lo hi:Option Expr} {p p':Pos} {K:Fl→Cx→Prop} (h:Sp c d u (fun L=>eval v (e.env L)) VR cx fun w cx1=>Sp c d u (fun L=>eval o (e.env L)) VR cx1 fun x cx2=>SpPart c d u e lo cx2 fun a cx3=>SpPart c d u e hi cx3 fun b cx4=>SpSl3 c d u x (a,b) w cx4 (K .next))
  (hs:∀ L,swapsWith v (some (.Subscript o (.Slice lo hi none p') p)) pos.line (e.env L)=pure false:=by intro L; rfl):SpS c d u e (.Assign [.Subscript o (.Slice lo hi none p') p] v pos) cx K:=fun fx g am L s R =>
 wpAny_Assign_Subscript (step (h fx g am L s R) fun w s1 g1 am1 cx1 sw l1 a1 r1 q1 k1=>step (k1 fx g1 am1 L s1 r1) fun o s2 g2 am2 cx2 sx l2 a2 r2 q2 k2=>step (sp_slice (K:=fun y cx4=>SpSl3 c d u sx y sw cx4 (K .next)) k2 fx g2 am2 L s2 r2) fun i s3 g3 am3 cx3 si l3 a3 r3 q3 k3 =>
  step (k3 fx g3 am3 L s3 o i w r3 (q2.mono l3 a3) q3 (q1.mono (l2.trans l3) (a2.trans a3))) fun _ s4 g4 am4 cx4 _ l4 a4 r4 _ k4=>⟨g4,am4,cx4,.next,((l1.trans l2).trans l3).trans l4,((a1.trans a2).trans a3).trans a4,r4,.next,k4⟩) (hs L)
theorem set_linst {n C:Nat} {xs new:List SV} {fs:List (Str×SV)} {y:Option Int×Option Int} {K:Cx→Prop} (hi:cx.obj.lookup n=some (.linst C xs fs)) (ok:LSpec c C) (hz:xs.length+new.length≤1000) (h:K (cx.set n (.linst C (putSlice xs new y) fs))):SpSl3 c d u (.ref n) y (.fl new) cx K:=fun fx g am L s _ _ _ R q q' q''=>by
 refine hide fun Go jo=>?_
 obtain ⟨sl,vl,vu,rfl,⟨os,hos,hs⟩,pl,pu⟩:=q'
 obtain ⟨a,dx,ox,es,n0,rfl,ea,hm,l,ho,hd,I,hdx,fr⟩:=R.fld (C:=C) (fs:=fs) hi rfl q
 obtain ⟨ws,k,es,n',h1,h2,r1,r2⟩:=l.lin
 refine jo ?_
 cases q'' using VR.flE with
 | mk _ _ hob hv =>
  rename_i vs b
  have X:=R.top.X.keeps R.sub
  have hab:a≠b:=fun q=>by
   obtain ⟨o,e,_⟩:=hob
   have:=R.out a (.tail _ (mem_owned.mpr ⟨_,hm,_,ea,by simp⟩))
   rw [q,e] at this; cases this
  have lx:=r2.length
  have lv:=hv.length
  refine setItem_L X I ok (set_slice (Q:=fun _ s'=>Ends c fx g am L UR (fun _ cx=>K cx) () s') hab h1 rfl (isList_le R.sub hob) ⟨os,R.sub _ _ hos,hs⟩ pl pu (by simp; lia) ?_)
  obtain ⟨k',ek⟩:=mapSeq_linst (C:=C) (dx:=dx) (vs:=ws) (k:=k) fun xs=>xs.extract 0 (y.1.elim 0 (clipAt ws.toArray.size))++vs.toArray++xs.extract (max (y.1.elim 0 (clipAt ws.toArray.size)) (y.2.elim ws.toArray.size (clipAt ws.toArray.size))) xs.size
  have nda:dx≠a:=fun q=>by
   have nd:=owned_parts (List.nodup_cons.mp R.nd).2 hm ea
   subst q; simp at nd
  refine ⟨g,am,_,(),.refl _,.refl _,R.set (so':=.linst C (putSlice xs new y) fs) (t:=s.toks) hm ea (update_same (by simp)) (Nat.le_of_eq (update_size ..).symm) ⟨a,dx,ws.take (y.1.elim 0 (clipAt xs.length))++vs++ws.drop (max (y.1.elim 0 (clipAt xs.length)) (y.2.elim xs.length (clipAt xs.length))),k',es,n',rfl,?_,?_,r1,?_⟩,trivial,h⟩
  ·have:((ws.toArray.extract 0 (y.1.elim 0 (clipAt ws.toArray.size))++vs.toArray++ws.toArray.extract (max (y.1.elim 0 (clipAt ws.toArray.size)) (y.2.elim ws.toArray.size (clipAt ws.toArray.size))) ws.toArray.size).toList)=ws.take (y.1.elim 0 (clipAt xs.length))++vs++ws.drop (max (y.1.elim 0 (clipAt xs.length)) (y.2.elim xs.length (clipAt xs.length))):=by
    rw [lx]
    simp only [List.size_toArray,Array.toList_append,Array.toList_extract,List.extract_eq_take_drop,List.drop_zero,Nat.sub_zero,List.append_assoc]
    rw [List.take_of_length_le (l:=List.drop _ ws) (by simp)]
   rw [Heap.get?_update_self _ h1 (by rw [ek]; rfl),ek,this]
  ·exact (Heap.get?_update_ne _ _ _ _ nda).trans h2
  ·exact ((r2.take _).append hv).append (r2.drop _)
theorem mapSeq_plain {vs:List Value} {k:Nat} (f:Array Value→Array Value):∃ k',Obj.mapSeq f { cls:=.type "list",data:=.seq vs.toArray k } = { cls:=.type "list",data:=.seq (f vs.toArray).toList.toArray k' }:=⟨_,rfl⟩
theorem g_last {n:Nat} {xs:List SV} {x:SV} {K:SV→Cx→Prop} (hi:cx.obj.lookup n=some (.list (xs++[x]))) (h:K x cx):Sp2 c d u (fun a b=>getItem a b) VR (.ref n) (.int (-1)) cx K:=fun fx g am L s _ _ R q q'=>by
 refine hide fun Go jo=>?_
 cases q' using VR.intE
 obtain ⟨a,vs,rfl,ea,hm,ht,hv⟩:=R.lst hi q
 obtain ⟨v,e,q⟩:=hv.get (i:=xs.length) (x:=x) (by simp)
 refine jo ?_
 exact isList_item ht.isList (by lia) (by rw [← hv.length,List.length_append]; exact seqIndex_last xs.length) e (Ends.here R q h)
theorem s_last {n:Nat} {xs:List SV} {x y:SV} {K:Unit→Cx→Prop} (hi:cx.obj.lookup n=some (.list (xs++[x]))) (hz:xs.length<1000) (h:K () (cx.set n (.list (xs++[y])))):SpN c d u (fun vs=>match vs with | [a,b,v]=>setItem a b v | _=>pure ()) UR [.ref n,.int (-1),y] cx K:=fun fx g am L s vs R q=>by
 cases q using VRs.consE with
 | mk _ _ q1 q=>cases q using VRs.consE with
  | mk _ _ q2 q=>cases q using VRs.consE with
   | mk _ _ q3 q =>
    cases q using VRs.nilE; cases q2 using VR.intE
    rename_i v t
    refine hide fun Go jo=>?_
    obtain ⟨a,vs,rfl,ea,hm,ht,hv⟩:=R.lst hi q1
    obtain ⟨ws,w,rfl,hv1,hv2⟩:=hv.snoc
    obtain ⟨k,ho⟩:=id ht
    refine jo ?_
    show wpAny c.M (Ar d u) (setItem (.ref a) (.int (-1) t) v) _ _ s
    unfold setItem
    refine wpAny_holding (wpAny_bind (wpAny_sequenceKey ht.isList.typeIs (by decide) ?_))
    refine wpAny_bind (wpAny_callSpecial?_slot (name:=Str.ofString "__setitem__") ht.isList.typeIs slot_list_setitem (wpAny_call_entry slot_list_setitem ht.isList.typeIs entry_list_setitem ?_ (args_list_setitem _ _ _)))
    refine wpAny_mono (set_last (Q:=fun _ s'=>Ends c fx g am L UR K () s') ho rfl (by simp) ?_) (fun fin s' ⟨v,e1,e2⟩=>⟨v,e1,wpAny_pure e2⟩) fun _ _ x=>x
    refine Ends.here (x:=()) (R.set (so':=.list (xs++[y])) (t:=s.toks) hm ea (update_same (by simp)) (Nat.le_of_eq (update_size ..).symm) ⟨a,ws++[v],rfl,?_,hv1.append (.cons q3 .nil)⟩) trivial h
    obtain ⟨k',ek⟩:=mapSeq_plain (vs:=ws++[w]) (k:=k) fun xs=>xs.setIfInBounds ((ws++[w]).toArray.size - 1) v
    refine ⟨k',(Heap.get?_update_self _ ho (by rw [ek]; rfl)).trans ?_⟩
    rw [ek]
    simp
end
noncomputable def IsSeq (h:Heap) (a:Addr) (items:Array Value):Prop:=∃ o n,h.get? a=some o∧o.data = .seq items n
section
variable {prog:Program} {w:World} {A:Around} {E:Value→Shared→Prop} {s:Shared}
theorem next_item {it l:Addr} {i:Nat} {items:Array Value} {x:Value} {Q:Option Value→Shared→Prop} (hit:s.heap.IsListIter it l i) (hl:IsSeq s.heap l items) (hx:items[i]? = some x)
  (hQ:∀ h',h'.IsListIter it l (i+1)→Heap.SameBut it s.heap h'→Q (some x) { s with heap:=h' }) :
  wpAny (model prog w) A (pyNext (.ref it)) Q E s:=by
 refine hide fun Go jo=>?_
 obtain ⟨o,ho,hc,hd⟩:=id hit
 obtain ⟨ol,nl,hol,hdl⟩:=hl
 refine jo ?_
 unfold pyNext
 refine wpAny_bind (wpAny_attempt (wpAny_callSpecial?_slot (name:=Str.ofString "__next__") hit.typeIs slot_listiter_next
  (wpAny_call_entry slot_listiter_next hit.typeIs entry_listiter_next ?_ (args_listiter_next _))))
 show wpAny _ _ (field (.ref it) 0 >>= _) _ _ s
 refine wpAny_bind (wpAny_field ho hd (x:=.ref l) rfl ?_)
 show wpAny _ _ (if (Value.ref l==Value.none)=true then _ else _) _ _ s
 first | (with_reducible refine wp_neg ?_ ?_; · exact (show ¬ ((Value.ref l==Value.none)=true) from Bool.false_ne_true)) | rw [if_neg (show ¬ ((Value.ref l==Value.none)=true) from Bool.false_ne_true)]
 show wpAny _ _ (field (.ref it) 1 >>= _) _ _ s
 refine wpAny_bind (wpAny_field ho hd (x:=.int i 0) rfl ?_)
 show wpAny _ _ (seqItems? (.ref l) >>= _) _ _ s
 refine wpAny_bind (wpAny_seqItems hol hdl ?_)
 simp only [Int.toNat_natCast,hx]
 refine wpAny_bind (wpAny_setField ho hd (by simp) (wpAny_pure ⟨x,rfl,wpAny_pure (hQ _ ?_ (Heap.SameBut.update ..))⟩))
 exact ⟨_,Heap.get?_update_self _ ho (Obj.isFreed_of_fields (Obj.data_mapFields hd _)),(Obj.cls_mapFields ..).trans hc,by
  rw [Obj.data_mapFields hd]; simp [rawInt]⟩
theorem next_end {it l:Addr} {i:Nat} {items:Array Value} {Q:Option Value→Shared→Prop} (hh:A.handled=none)
  (hit:s.heap.IsListIter it l i) (hl:IsSeq s.heap l items) (hx:items[i]? = none)
  (hQ:∀ h',Heap.ExtBut it s.heap h'→Q none { s with heap:=h' }):wpAny (model prog w) A (pyNext (.ref it)) Q E s:=by
 refine hide fun Go jo=>?_
 obtain ⟨o,ho,hc,hd⟩:=id hit
 obtain ⟨ol,nl,hol,hdl⟩:=hl
 refine jo ?_
 unfold pyNext
 refine wpAny_bind (wpAny_attempt (wpAny_callSpecial?_slot (name:=Str.ofString "__next__") hit.typeIs slot_listiter_next
  (wpAny_call_entry slot_listiter_next hit.typeIs entry_listiter_next ?_ (args_listiter_next _))))
 show wpAny _ _ (field (.ref it) 0 >>= _) _ _ s
 refine wpAny_bind (wpAny_field ho hd (x:=.ref l) rfl ?_)
 show wpAny _ _ (if (Value.ref l==Value.none)=true then _ else _) _ _ s
 first | (with_reducible refine wp_neg ?_ ?_; · exact (show ¬ ((Value.ref l==Value.none)=true) from Bool.false_ne_true)) | rw [if_neg (show ¬ ((Value.ref l==Value.none)=true) from Bool.false_ne_true)]
 show wpAny _ _ (field (.ref it) 1 >>= _) _ _ s
 refine wpAny_bind (wpAny_field ho hd (x:=.int i 0) rfl ?_)
 show wpAny _ _ (seqItems? (.ref l) >>= _) _ _ s
 refine wpAny_bind (wpAny_seqItems hol hdl ?_)
 simp only [Int.toNat_natCast,hx]
 refine wpAny_bind (wpAny_rule (wpAny_bind (wpAny_setField ho hd (by simp) ?_)))
 show wpAny _ _ (newExc (.type "StopIteration") [] >>= _) _ _ _
 refine wpAny_bind ?_
 simp only [newExc,newTuple]
 refine wpAny_bind (wpAny_newObj_type ?_ (by size_fits))
 refine wpAny_bind (m:=firstArgMember _ _) (wpAny_of_eq (a:=Value.none) (by first | rfl | (simp only [firstArgMember]; rfl)) ?_)
 refine wpAny_newObj_type ?_ (by size_fits)
 simp only [raiseNew]
 refine wpAny_bind (wpAny_handled ?_)
 rw [show A.in1.handled=none from hh]
 refine wpAny_bind (wpAny_pure (wpAny_throw ?_))
 refine wpAny_bind (wpAny_isInstance (T:="StopIteration") (b:=true) ⟨_,Heap.get?_push_size _ rfl,rfl⟩ isSubtype_stop ?_)
 exact wpAny_pure (hQ _ (((Heap.SameBut.update ..).extBut.push _).push _))
theorem IsSeq.at {h h':Heap} {a:Addr} {items:Array Value} (x:IsSeq h a items) (hk:∀ o,h.get? a=some o→h'.get? a=some o):IsSeq h' a items:=let ⟨o,n,e,r⟩:=x; ⟨o,n,hk _ e,r⟩
theorem walksU_seq (hh:A.handled=none) (I ax:Addr) (hne:ax≠I) (items:Array Value) (Ts:Nat→Addr) (vals:Nat→Array Value)
  (hit:∀ j,j<items.size→items[j]? = some (.ref (Ts j))) (hTI:∀ j,j<items.size→Ts j≠I) :
  WalksU prog w A I (I :: ax :: (List.range items.size).map Ts) [I] items.size (fun j v=>v=vals j)
   (fun j h=>h.IsListIter I ax j∧IsSeq h ax items∧∀ k,k<items.size→h.IsTuple (Ts k) (vals k))
   (fun j T h=>(j<items.size∧T=Ts j)∧h.IsListIter I ax (j+1)∧IsSeq h ax items∧∀ k,k<items.size→h.IsTuple (Ts k) (vals k)) where
 sub:=fun b hb=>by simp at hb; simp [hb]
 frame:=fun _ _ _ st hk=>⟨st.1.at fun o e=>hk I (by simp) o e,st.2.1.at fun o e=>hk ax (by simp) o e,
  fun k hk'=>(st.2.2 k hk').at fun o e=>hk (Ts k) (List.mem_cons_of_mem _ (List.mem_cons_of_mem _ (List.mem_map.mpr ⟨k,List.mem_range.mpr hk',rfl⟩))) o e⟩
 item:=fun i s Q E hi st hQ=>by
  refine next_item st.1 st.2.1 (x:=.ref (Ts i)) (hit i hi) fun h' hit' hs'=>?_
  have tup:∀ k,k<items.size→h'.IsTuple (Ts k) (vals k):=fun k hk'=>(st.2.2 k hk').extBut hs'.extBut (hTI k hk')
  exact hQ (Ts i) (vals i) h' s.toks rfl (tup i hi) ⟨⟨hi,rfl⟩,hit',st.2.1.at fun o e=>hs'.extBut _ _ hne e,tup⟩ fun b o hb e=>hs'.extBut b o (fun h=>hb (by simp [h])) e
 go:=fun _ _ _ _ _ s Q _ hm hQ=>wpAny_letOwnedTupleGo_listiter hm.2.1 (hQ s.heap hm.2 fun _ _ _ e=>e)
 apart:=fun j T _ hm hmem=>by
  rcases List.mem_cons.mp hmem with e | e
  ·exact hTI j hm.1.1 (hm.1.2▸e)
  ·cases e
 done:=fun s Q E st hQ=>next_end hh st.1 st.2.1 (by simp) fun h' he'=>hQ h' s.toks fun b o hb e=>he' b o (fun h=>hb (by simp [h])) e
 self:=fun _ _ _ _ st hQ=>wpAny_pyIter_listiter st.1 hQ
end
section
variable {c:Cst} {A:Around} {E:Value→Shared→Prop} {s:Shared}
theorem type_list_iter:typeOf (.builtin "list.__iter__")=pure (.type "wrapper_descriptor"):=by show builtinType _=_; rw [builtinType_eq_fast]; kernel_rfl
structure SpF (c:Cst) (C:Addr) (name:Str) (f:Value):Prop where
 find:findIn c.K (.ref C) name=some (some f)
 ty:typeOf f=pure (.type "method_descriptor")∨typeOf f=pure (.type "wrapper_descriptor")∨typeIn c.K f=some (.type "function")
 nn:(f == .none)=false
theorem bind_ok {f self:Value} {Q:Value×List Value→Shared→Prop} (X:c.K.In s.heap) (ty:typeOf f=pure (.type "method_descriptor")∨typeOf f=pure (.type "wrapper_descriptor")∨typeIn c.K f=some (.type "function")) (h:Q (f,[self]) s):wpAny c.M A (bindSpecial f self) Q E s:=by
 unfold bindSpecial
 rcases ty with ty | ty | ty
 ·refine wpAny_bind (wpAny_of_eq ty ?_)
  first | (with_reducible refine wp_pos ?_ ?_; · exact (by decide)) | rw [if_pos (by decide)]
  exact wpAny_pure h
 ·refine wpAny_bind (wpAny_of_eq ty ?_)
  first | (with_reducible refine wp_pos ?_ ?_; · exact (by decide)) | rw [if_pos (by decide)]
  exact wpAny_pure h
 ·refine wpAny_bind ((looks_typeIn X ty).here ?_)
  first | (with_reducible refine wp_pos ?_ ?_; · exact (by decide)) | rw [if_pos (by decide)]
  exact wpAny_pure h
theorem boundIf_ok {x C:Addr} {ox:Obj} {od:Option Obj} {name:Str} {f:Value} {Q:Option (Value×List Value)→Shared→Prop} (X:c.K.In s.heap) (I:InstAt s.heap x ox C od) (F:SpF c C name f) (h:Q (some (f,[.ref x])) s):wpAny c.M A (bindSpecialIfBound? (.ref x) name) Q E s:=by
 unfold bindSpecialIfBound? specialOf
 refine wpAny_bind (wpAny_bind (I.type.here ((looks_findIn X F.find).here ?_)))
 dsimp only
 refine wpAny_bind (wpAny_askSetting (wpAny_ite ?_))
 split
 ·exact wpAny_bind (bind_ok X F.ty (wpAny_pure h))
 ·exact wpAny_tryCatch (wpAny_bind (bind_ok X F.ty (wpAny_pure h)))
theorem unlessNone_ok {x C:Addr} {ox:Obj} {od:Option Obj} {name:Str} {f:Value} {refuse:Sem Value} {Q:Option Value→Shared→Prop} (X:c.K.In s.heap) (I:InstAt s.heap x ox C od) (F:SpF c C name f) (h:wpAny c.M A (call f [.ref x]) (fun v=>Q (some v)) E s):wpAny c.M A (callSpecialIfBoundUnlessNone? (.ref x) name refuse) Q E s:=by
 unfold callSpecialIfBoundUnlessNone?
 refine wpAny_holding (wpAny_bind (boundIf_ok X I F ?_))
 dsimp only
 first | (with_reducible refine wp_neg ?_ ?_; · exact (by rw [F.nn]; decide)) | rw [if_neg (by rw [F.nn]; decide)]
 exact wpAny_bind (wpAny_mono h (fun _ _ q=>wpAny_pure q) fun _ _ x=>x)
theorem iter_L {x C:Addr} {ox:Obj} {od:Option Obj} {Q:Value→Shared→Prop} (X:c.K.In s.heap) (I:InstAt s.heap x ox C od) (F:SpF c C "__iter__" (.builtin "list.__iter__")) (hm:mroIn c.K C (.type "list")=some true)
  (hQ:Q (.ref s.heap.objs.size) { s with heap:=s.heap.push { cls:=.type "list_iterator",data:=.fields #[.ref x,.int 0 0] } }):wpAny c.M A (pyIter (.ref x)) Q E s:=by
 unfold pyIter specialOf
 refine wpAny_bind (wpAny_bind (I.type.here ((looks_findIn X F.find).here ?_)))
 dsimp only
 refine wpAny_bind (unlessNone_ok X I F ?_)
 refine call_sub (i:="list.__iter__") (owner:="list") (n:="__iter__") slot_list_iter.plain entry_list_iter (by first | exact .inl (by decide +kernel) | exact .inr (by decide +kernel)) (by decide +kernel) (inst_list X I hm) (args_list_iter _) ?_
 show wpAny _ _ (do ret (← newFields "list_iterator" [.ref x,rawInt 0])) _ _ s
 refine wpAny_bind (wpAny_newObj_type (wpAny_pure ⟨_,rfl,?_⟩))
 exact wpAny_bind (m:=specialOf _ _) (wpAny_specialOf (T:="list_iterator") ⟨_,Heap.get?_push_size _ rfl,rfl⟩ slot_listiter_next.lookup (wpAny_pure hQ))
end
section
variable {c:Cst} {fx:Fx} {g:Heap} {am:Am} {L:Addr} {cx:Cx} {s s':Shared}
theorem Rep.setExt (r:Rep c fx g am L cx s) {i:Nat} {so so':SO} {as:List Addr} (hm:(i,so)∈cx.obj) (ha:am i=some as) {h':Heap} {t:Nat} (hs:∀ b o,b∉as→s.heap.get? b=some o→h'.get? b=some o) (hl:Lay g h' am so' as) :
  Rep c fx g am L (cx.set i so') { s with heap:=h',toks:=t }:=by
 have mo:∀ b∈as,b∈owned am cx.obj:=fun b hb=>mem_owned.mpr ⟨_,hm,as,ha,hb⟩
 have ow:owned am (cx.set i so').obj=owned am cx.obj:=owned_map _
 have hs':∀ b,b∈L :: owned am cx.obj→b∉as→h'.get? b=s.heap.get? b:=fun b hb hn=>by obtain ⟨o,e⟩:=r.owned_there b hb; rw [e]; exact hs b o hn e
 have Lo:L∉as:=fun hb=>(List.nodup_cons.mp r.nd).1 (mo L hb)
 have hL:fx.N≤h'.objs.size:=by
  obtain ⟨o,e⟩:=r.owned_there L (.head _)
  exact Nat.le_trans r.NL (Nat.le_of_lt (Heap.lt_size ((hs' L (.head _) Lo).trans e)))
 refine ⟨fun b o e=>?_,r.top,?_,?_,?_,?_,?_,r.lo,r.nx,r.free,fun b o e=>?_,?_,r.new,r.hiN,hL,r.gens,r.os,r.frg,r.NL⟩
 ·exact hs b o (fun hb=>by rw [r.out b (.tail _ (mo b hb))] at e; cases e) (r.sub b o e)
 ·refine hide fun Go jo=>?_
  obtain ⟨m,⟨o,es,ep,ho,rest⟩,b⟩:=r.fr
  refine jo ?_
  exact ⟨m,⟨o,es,ep,(hs' L (.head _) Lo).trans ho,rest⟩,b⟩
 ·intro p hp
  refine hide fun Go jo=>?_
  obtain ⟨q,hq,rfl⟩:=List.mem_map.mp hp
  refine jo ?_
  by_cases e:q.1=i
  ·rw [if_pos e]; exact ⟨as,ha,hl⟩
  ·first | (with_reducible refine wp_neg ?_ ?_; · exact e) | rw [if_neg e]
   obtain ⟨bs,a,b⟩:=r.lay q hq
   refine ⟨bs,a,b.keep (.refl _) (.refl _) fun x hx=>hs' x (.tail _ (mem_owned.mpr ⟨q,hq,bs,a,hx⟩)) fun hx'=>?_⟩
   exact nodup_apart (i:=q.1) (j:=i) (x:=q.2) (y:=so) a ha e hx hx' cx.obj hq hm (List.nodup_cons.mp r.nd).2
 ·rw [ow]; exact r.nd
 ·rw [show (cx.set i so').obj.map (·.1)=cx.obj.map (·.1) from ids_map _]; exact r.idnd
 ·rw [ow]; exact r.out
 ·exact hs b o (fun hb=>by rw [r.frout b (.tail _ (mo b hb))] at e; cases e) (r.frm b o e)
 ·rw [ow]; exact r.frout
end
noncomputable abbrev tabO (ps:Array Value):Obj:={ cls:=.none,data:=.fields ps }
noncomputable def Tab (pos:Pos) (ps:Array Value):Prop:=ps = #[]∨∃ c',ps = #[rawInt pos.line,rawInt pos.col,.ref c']
noncomputable def CodeK (c:Cst) (cda P:Addr):Prop:=cda≠P∧∃ od vs sl file tf flags tg inF text tt,c.K.lookup cda=some ⟨.type "code",od,.fields vs,sl⟩∧vs[11]? = some (.ref P)∧vs[18]? = some (.str file tf)∧vs[7]? = some (.int flags tg)∧vs[9]? = some (.bool inF)∧vs[10]? = some (.int text tt)
theorem getD_of {vs:Array Value} {i:Nat} {v:Value} (h:vs[i]? = some v):vs.getD i .none=v:=by rw [Array.getD_eq_getD_getElem?,h]; rfl
section
variable {c:Cst} {s:Shared} {A:Around} {E:Value→Shared→Prop}
theorem CodeK.at {cda P:Addr} {ps:Array Value} (k:CodeK c cda P) (X:c.K.In s.heap) (hp:s.heap.get? P=some (tabO ps)) (ht:TriplesOk ps.toList):s.heap.IsCode cda P ps∧s.heap.TableAt cda P ps:=by
 refine hide fun Go jo=>?_
 obtain ⟨ne,od,vs,sl,file,tf,flags,tg,inF,text,tt,h,h11,h18,h7,h9,h10⟩:=k
 refine jo ?_
 exact ⟨⟨_,vs,file,tf,flags,tg,inF,text,tt,_,X _ _ h,rfl,getD_of h11,getD_of h18,getD_of h7,getD_of h9,getD_of h10,hp,rfl,ht,ne⟩,⟨_,vs,X _ _ h,rfl,rfl,h11⟩,hp⟩
theorem code_made {env:Env} {cda P:Addr} {ps:Array Value} {pos:Pos} {qn:Str} {sc:Scope} {Q:Value→Shared→Prop} (hc:env.code = .ref cda) (k:CodeK c cda P) (X:c.K.In s.heap) (hp:s.heap.get? P=some (tabO ps)) (ht:Tab pos ps)
  (h:∀ c' h' tk ps',Tab pos ps'→Heap.ExtBut P s.heap h'→s.heap.objs.size≤h'.objs.size→h'.get? P=some (tabO ps')→Q c' { s with heap:=h',toks:=tk }):wpAny c.M A (genexprCode env pos qn sc) Q E s:=by
 rcases ht with rfl | ⟨c',rfl⟩
 ·obtain ⟨a,b⟩:=k.at X hp (by simp [TriplesOk])
  refine wpAny_genexprCodeX hc a b rfl fun c' h' tk ext lo hi ic cr tb _=>h _ h' tk _ (.inr ⟨c',rfl⟩) ext (Nat.le_trans lo (Nat.le_of_lt hi)) ?_
  simpa using tb.2
 ·obtain ⟨a,b⟩:=k.at X hp (show TriplesOk [] from trivial)
  refine wpAny_genexprCode_hit hc a (c':=.ref c') ?_ (h _ s.heap s.toks _ (.inr ⟨c',rfl⟩) (fun _ _ _ e=>e) (Nat.le_refl _) hp)
  show (if ((pos.line:Int)==pos.line&&(pos.col:Int)==pos.col)=true then _ else _)=_
  first | (with_reducible refine wp_pos ?_ ?_; · exact (by simp)) | rw [if_pos (by simp)]
theorem Looks_builtinsFor {mg:Str→Option Value} {bm:Addr} {Q:Addr→Shared→Prop} (X:c.K.In s.heap) (hg:s.heap.Ns mainGlobals mg) (hn:nsIn c.K mainGlobals "__builtins__" = some (some (.ref bm))) (hne:bm≠builtinsNs) (ho:∃ sl,c.K.lookup bm=some ⟨.type "module",some builtinsNs,.plain,sl⟩) (h:Q builtinsNs s):wpAny c.M A (builtinsFor mainGlobals builtinsNs) Q E s:=by
 obtain ⟨sl,ho⟩:=ho
 exact wpAny_builtinsFor hg (mg_of X hg hn) hne (X _ _ ho) rfl rfl rfl h
noncomputable def Qt (c:Cst) (g:Heap) (env:Env) (m:Str→Option Value) (t:Sem Value) (P:Value→Prop):Prop :=
 ∀ (A:Around) (E:Value→Shared→Prop) (s:Shared),A.handled=none→Le g s.heap→s.heap.Ns env.locals m→wpAny c.M A t (fun v s'=>P v∧Keeps s s') E s
theorem keeps_rfl (s:Shared):Keeps s s:=⟨s.heap,s.toks,rfl,fun _ _ e=>e⟩
theorem keeps_trans {s s1 s2:Shared} (a:Keeps s s1) (b:Keeps s1 s2):Keeps s s2:=by
 refine hide fun Go jo=>?_
 obtain ⟨h1,t1,rfl,k1⟩:=a
 obtain ⟨h2,t2,rfl,k2⟩:=b
 refine jo ?_
 exact ⟨h2,t2,rfl,fun b o e=>k2 b o (k1 b o e)⟩
theorem keeps_ns {s s1:Shared} {L:Addr} {m:Str→Option Value} (a:Keeps s s1) (h:s.heap.Ns L m):s1.heap.Ns L m:=by
 refine hide fun Go jo=>?_
 obtain ⟨h1,t1,rfl,k1⟩:=a
 refine jo ?_
 exact h.keeps k1
theorem keeps_le {s s1:Shared} {g:Heap} (a:Keeps s s1) (h:Le g s.heap):Le g s1.heap:=by
 refine hide fun Go jo=>?_
 obtain ⟨h1,t1,rfl,k1⟩:=a
 refine jo ?_
 exact h.trans k1
variable {g:Heap} {env:Env} {m:Str→Option Value}
theorem q_name {x:Str} {p:Pos} {v:Value} (hd:(x==("__debug__":Str))=false) (hk:env.scope.kind = .function) (hl:env.scope.names.lookup x=some .local) (hm:m x=some v):Qt c g env m (eval (.Name x p) env) (· = v):=fun A E s hh hle hn =>
 wpAny_Name (wpAny_loadName_local hk hl hn hm ⟨rfl,keeps_rfl s⟩) hd
theorem q_bltn {e:En} {L:Addr} {x:Str} {p:Pos} {v:Value} (T:Top c g) (hn:nsIn c.K mainGlobals x=some none) (hv:bootBuiltins x=some v) (hx:x≠"__name__") (hd:(x==("__debug__":Str))=false) (hk:e.scope.kind = .function) (hl:e.scope.names.lookup x=some .globalImplicit):Qt c g (e.env L) m (eval (.Name x p) (e.env L)) (· = v):=fun A E s hh hle hm=>by
 refine hide fun Go jo=>?_
 obtain ⟨mg,hg⟩:=T.gl
 obtain ⟨mb,hb,hb'⟩:=T.bl
 refine jo ?_
 exact Name_function_global hk hl (loadGlobal_builtin (env:=e.env L) (hg.keeps hle) (mg_none_of T.X hg hn) (hb.keeps hle) ((hb' x hx).trans hv) ⟨rfl,keeps_rfl s⟩) hd
theorem q_glob {e:En} {L:Addr} {x:Str} {p:Pos} {v:Value} (T:Top c g) (hv:nsIn c.K mainGlobals x=some (some v)) (hd:(x==("__debug__":Str))=false) (hk:e.scope.kind = .function) (hl:e.scope.names.lookup x=some .globalImplicit):Qt c g (e.env L) m (eval (.Name x p) (e.env L)) (· = v):=fun A E s hh hle hm=>by
 obtain ⟨mg,hg⟩:=T.gl
 exact Name_function_global hk hl (loadGlobal_global (env:=e.env L) (hg.keeps hle) (mg_of T.X hg hv) ⟨rfl,keeps_rfl s⟩) hd
theorem q_len {fn arg:Expr} {p:Pos} {x:Str} (hf:Qt c g env m (eval fn env) (· = .builtin "len")) (ha:Qt c g env m (eval arg env) (fun v=>∃ t,v = .str x t)) (hz:x.length<2 ^ 62) (hs:noStars [arg]=true)
  (he:eval (.Call fn [arg] [] p) env=(do callWith p (← eval fn env) [] (backTo p (starEach [arg] env)) (backToKw p (keywordEach [] env)))):Qt c g env m (eval (.Call fn [arg] [] p) env) (fun v=>∃ t,v = .int x.length t):=fun A E s hh hle hm=>by
 obtain ⟨es,_⟩:=starEach_cons (env:=env) hs
 refine Call_ (wpAny_mono (hf A E s hh hle hm) (fun f s1 ⟨hf1,k1⟩=>?_) fun _ _ x=>x) he
 subst hf1
 refine callWith_builtin (backTo_plain hs) ?_
 have z:wpAny c.M A (spliced (backTo p (starEach [arg] env))) (fun vs s'=>wpAny c.M A (call (.builtin "len") ([]++vs) []) (fun v s'=>(∃ t,v = .int x.length t)∧Keeps s s') E s') E s1:=by
  refine args_cons (wpAny_mono (ha A E s1 hh (keeps_le k1 hle) (keeps_ns k1 hm)) (fun v s2 ⟨hv,k2⟩=>?_) fun _ _ x=>x) es
  obtain ⟨t,rfl⟩:=hv
  refine args_nil ?_
  exact P.len_str (by lia) ⟨⟨_,rfl⟩,keeps_trans (keeps_trans k1 k2) ⟨_,_,rfl,fun _ _ e=>e⟩⟩
 rw [es] at z ⊢
 exact evalArgs_plain z
theorem q_add {l r:Expr} {p:Pos} {a b:Int} (ha:Qt c g env m (eval l env) (fun v=>∃ t,v = .int a t)) (hb:Qt c g env m (eval r env) (fun v=>∃ t,v = .int b t)):Qt c g env m (eval (.BinOp l .Add r p) env) (fun v=>∃ t,v = .int (a+b) t):=fun A E s hh hle hm=>by
 refine wpAny_BinOp (wpAny_mono (ha A E s hh hle hm) (fun v s1 ⟨hv,k1⟩=>wpAny_mono (hb A E s1 hh (keeps_le k1 hle) (keeps_ns k1 hm)) (fun w s2 ⟨hw,k2⟩=>?_) fun _ _ x=>x) fun _ _ x=>x)
 refine hide fun Go jo=>?_
 obtain ⟨t,rfl⟩:=hv
 obtain ⟨t',rfl⟩:=hw
 refine jo ?_
 exact P.add_int ⟨⟨_,rfl⟩,keeps_trans (keeps_trans k1 k2) ⟨_,_,rfl,fun _ _ e=>e⟩⟩
end
section
variable {c:Cst} {fx:Fx} {g:Heap} {am:Am} {L:Addr} {cx:Cx} {s s':Shared}
theorem Rep.moveA (r:Rep c fx g am L cx s) {wr:List Addr} (ap:Apart fx g am L cx wr) (hk:∀ b o,b∉wr→s.heap.get? b=some o→s'.heap.get? b=some o) (hb:AllBare s'.gens) (ho:s'.os=s.os):Rep c fx g am L cx s':=by
 have r1:=r.apart ap (t:=s.toks) hk
 exact ⟨r1.sub,r1.top,r1.fr,r1.lay,r1.nd,r1.idnd,r1.out,r1.lo,r1.nx,r1.free,r1.frm,r1.frout,r1.new,r1.hiN,r1.szN,hb,ho.trans r.os,r1.frg,r1.NL⟩
noncomputable abbrev ppS (p:Str×Str):SV:=.tup [.str p.1,.str p.2]
theorem pairs_of {xs:List (Str×Str)} {vs:List Value} (h:VRs g am (xs.map ppS) vs):∀ j,∃ T vals,j<vs.length→vs[j]? = some (.ref T)∧IsTup g T vals∧∃ p ta tb,xs[j]? = some p∧vals = #[.str p.1 ta,.str p.2 tb]:=by
 induction xs generalizing vs with
 | nil=>exact fun j=>⟨0,#[],fun hj=>absurd (h.length▸hj) (Nat.not_lt_zero _)⟩
 | cons p xs ih =>
  cases h using VRs.consE with
  | mk v ws h hs =>
   intro j
   cases j with
   | succ j=>exact (ih hs j).imp fun T k=>k.imp fun vals k hj=>k (Nat.lt_of_succ_lt_succ hj)
   | zero =>
    cases h using VR.tupE with
    | mk vs a ho hv =>
     cases hv using VRs.consE with
     | mk v1 w1 h1 hv=>cases hv using VRs.consE with
      | mk v2 w2 h2 hv =>
       cases hv using VRs.nilE; cases h1 using VR.strE; cases h2 using VR.strE
       exact ⟨_,_,fun _=>⟨rfl,ho,p,_,_,rfl,rfl⟩⟩
theorem bare_push {gs:Array GenState} {x:GenState} (h:AllBare gs) (hx:x.bare=true):AllBare (gs.push x):=fun y hy=>by
 rcases Array.mem_push.mp hy with hy | rfl
 ·exact h y hy
 ·exact hx
theorem passing_all (n:Nat):passing (fun _=>true) n 0=List.range n:=by simp [passing]
end
section
variable {c:Cst} {fx:Fx} {g:Heap} {am:Am} {L:Addr} {cx:Cx} {s s':Shared}
theorem gen_made {e:En} {i tb:Nat} {C P cda bm:Addr} {xs:List (Str×Str)} {fs:List (Str×SV)} {ps:Array Value} {elt:Expr} {xa xb:Str} {pa pb pt p0 pos:Pos} {kt:Nat} {scope:Scope} {A:Around} {Q:Value→Shared→Prop} {E:Value→Shared→Prop} {Fv:Str×Str→Value→Prop}
  (r:Rep c fx g am L cx s) (hself:cx.loc.lookup ("self":Str)=some (.ref i)) (hi:cx.obj.lookup i=some (.linst C (xs.map ppS) fs)) (htb:cx.obj.lookup tb=some (.obj P (tabO ps))) (ht:Tab pos ps)
  (k:CodeK c cda P) (hcd:e.cd = .ref cda) (F:SpF c C "__iter__" (.builtin "list.__iter__")) (hm:mroIn c.K C (.type "list")=some true)
  (hbn:nsIn c.K mainGlobals "__builtins__" = some (some (.ref bm))) (hne:bm≠builtinsNs) (hbm:∃ sl,c.K.lookup bm=some ⟨.type "module",some builtinsNs,.plain,sl⟩)
  (hq:∀ C' code m p ta tb,m xa=some (.str p.1 ta)→m xb=some (.str p.2 tb)→p∈xs→Qt c g (genEnv scope [] C' code builtinsNs (e.env L)) m (eval elt (genEnv scope [] C' code builtinsNs (e.env L))) (Fv p))
  (hh:A.handled=none) (hroom:A.depth<1000) (hcw:∃ o,g.get? cStatics=some o)
  (hQ:∀ a fp wr G St s' ps',Tab pos ps'→Rep c fx g am L (cx.set tb (.obj P (tabO ps'))) s'→(∀ s'',Moved wr G s' s''→Rep c fx g am L (cx.set tb (.obj P (tabO ps'))) s'') →
   WalksS PW c.w A.in4 a fp wr G xs.length (fun j y=>∃ p,xs[j]? = some p∧Fv p y) St→St 0 s'→(∀ b∈fp,b<s'.heap.objs.size)→a∈fp→(∀ i s,St i s→s.TypeIs (.ref a) "generator")→Q (.ref a) s')
  (hco:scope.isCoroutine=false:=by rfl) (hclos:closureFor scope (e.env L)=pure []:=by rfl) (hcell:∀ y∈scope.names,y.2≠.cell:=by decide) (h0:scope.names.lookup (".0":Str)=some NameKind.local:=by rfl)
  (hxa:scope.names.lookup xa=some .local:=by rfl) (hxb:scope.names.lookup xb=some .local:=by rfl) (hab:xa≠xb:=by decide) (hkind:scope.kind = .function:=by rfl)
  (hek:e.scope.kind = .function:=by rfl) (hel:e.scope.names.lookup ("self":Str)=some .local:=by rfl) :
  wpAny c.M A (eval (.GeneratorExp elt [⟨.Tuple [.Name xa pa,.Name xb pb] kt pt,.Name "self" p0,[],0⟩] scope pos) (e.env L)) Q E s:=by
 refine wpAny_GeneratorExp_walksQT hh hco hclos hcell h0 hxa hxb hab hkind hroom ?_ (fun x=>rfl)
 refine hide fun Go jo=>?_
 obtain ⟨m,hm',hv⟩:=r.fr
 obtain ⟨v,hv1,hv2⟩:=hv _ _ hself
 refine jo ?_
 refine wpAny_Name (wpAny_loadName_local hek hel hm' hv1 ?_)
 have X:=r.top.X.keeps r.sub
 refine hide fun Go jo=>?_
 obtain ⟨ax,dx,ox,es,n0,rfl,ea,hmm,l,ho,hd,I,hdx,fr⟩:=r.fld (C:=C) (fs:=fs) hi rfl hv2
 obtain ⟨ws,kk,es,n',h1,h2,r1,r2⟩:=l.lin
 refine jo ?_
 refine iter_L X I F hm ⟨r.top.lim.keeps (r.sub.trans (push_le _ _)),?_⟩
 have apI:=fresh_apart r
 have rI:=r.push { cls:=.type "list_iterator",data:=.fields #[.ref ax,.int 0 0] } (t:=s.toks)
 refine hide fun Go jo=>?_
 have hmT:=mem_of_lookup htb
 obtain ⟨eT,hT⟩:am tb=some [P]∧s.heap.get? P=some (tabO ps):=by
  obtain ⟨as,ea,rfl,e⟩:=r.lay _ hmT
  exact ⟨ea,e⟩
 refine jo ?_
 refine code_made hcd k (X.keeps (push_le _ _)) ((push_le _ _) _ _ hT) ht fun code h' tk ps' ht' ext hsz hP'=>?_
 have r3:Rep c fx g am L (cx.set tb (.obj P (tabO ps'))) { s with heap:=h',toks:=tk }:=rI.setExt hmT eT (t:=tk) (fun b o hb e=>ext b o (fun q=>hb (by simp [q])) e) ⟨rfl,hP'⟩
 obtain ⟨mg,hg⟩:=r.top.gl
 refine Looks_builtinsFor (r.top.X.keeps r3.sub) (hg.keeps r3.sub) hbn hne hbm ?_
 obtain ⟨Ts,hTs⟩:=Classical.axiomOfChoice (pairs_of r2)
 obtain ⟨vals,hvals⟩:=Classical.axiomOfChoice hTs
 have lx:=r2.length
 simp only [List.length_map] at lx
 have axI:ax≠s.heap.objs.size:=Nat.ne_of_lt (Heap.lt_size h1)
 have axP:ax≠P:=fun q=>by
  have:=nodup_apart (i:=i) (j:=tb) (x:=.linst C (xs.map ppS) fs) (y:=.obj P (tabO ps)) (a:=ax) ea eT (fun q2=>by rw [← q2,hi] at htb; cases htb) (by simp) (by simp [q]) cx.obj hmm hmT (List.nodup_cons.mp r.nd).2
  exact this
 have up:∀ b o,b≠P→s.heap.get? b=some o→h'.get? b=some o:=fun b o hb e=>ext b o hb ((push_le _ _) _ _ e)
 have gP:g.get? P=none:=r.out P (.tail _ (mem_owned.mpr ⟨_,hmT,_,eT,by simp⟩))
 have hIP:s.heap.objs.size≠P:=Nat.ne_of_gt (Heap.lt_size hT)
 have hlt:∀ b o,g.get? b=some o→b<s.heap.objs.size:=fun b o e=>Heap.lt_size (r.sub b o e)
 have tupg:∀ j,j<ws.toArray.size→∃ o,g.get? (Ts j)=some o:=fun j hj=>by
  obtain ⟨_,⟨o,e,_⟩,_⟩:=hvals j (by simpa using hj)
  exact ⟨o,e⟩
 have hsz':s.heap.objs.size+1≤h'.objs.size:=by rw [push_size] at hsz; exact hsz
 refine ex9 s.heap.objs.size _ [s.heap.objs.size] ws.toArray.size _ _ _ (fun _=>true) (fun j y=>∃ p,xs[j]? = some p∧Fv p y) ⟨rfl,fun A' hA=>(walksU_seq hA s.heap.objs.size ax axI ws.toArray Ts vals (fun j hj=>by simpa using (hvals j (by simpa using hj)).1) (fun j hj=>?_)).bound,fun j w hw=>?_,⟨⟨_,ext _ _ hIP (Heap.get?_push_size _ rfl),rfl,rfl⟩,⟨_,_,up _ _ axP h1,rfl⟩,fun j hj=>?_⟩,?_,r3.top.lim.keeps r3.sub,?_,fun href hr=>⟨?_,?_⟩,?_⟩
 ·obtain ⟨o,e⟩:=tupg j hj
  exact Nat.ne_of_lt (hlt _ _ e)
 ·refine hide fun Go jo=>?_
  obtain ⟨hj,rfl⟩:=hw
  obtain ⟨_,_,p,ta,tb',_,e⟩:=hvals j (by simpa using hj)
  refine jo ?_
  exact ⟨_,_,e⟩
 ·obtain ⟨_,it,_⟩:=hvals j (by simpa using hj)
  exact isTup_le r3.sub it
 ·intro b hb
  simp only [List.mem_cons,List.mem_map,List.mem_range] at hb
  show b<h'.objs.size
  have hb':∀ b,b<s.heap.objs.size→b<h'.objs.size:=fun b h=>Nat.lt_of_lt_of_le h (Nat.le_of_succ_le hsz')
  rcases hb with rfl | rfl | ⟨j,hj,rfl⟩
  ·exact hsz'
  ·exact hb' _ (Heap.lt_size h1)
  ·obtain ⟨o,e⟩:=tupg j hj
   exact hb' _ (hlt _ _ e)
 ·intro hb
  simp only [List.mem_singleton] at hb
  obtain ⟨o,e⟩:=hcw
  exact Nat.ne_of_lt (hlt _ _ e) hb
 ·intro A' E' j va vb s₂ m₂ hA hP hn h1 h2 hk
  exact wpAny_pure ⟨rfl,keeps_rfl _⟩
 ·intro A' E' j va vb s₂ m₂ hA hP _ hn h1 h2 hk
  refine hide fun Go jo=>?_
  obtain ⟨hj,hP⟩:=hP
  obtain ⟨_,_,p,ta,tb',hp,e⟩:=hvals j (by simpa using hj)
  rw [← hP] at e
  have e1:va = .str p.1 ta∧vb = .str p.2 tb':=by simpa using e
  obtain ⟨rfl,rfl⟩:=e1
  refine jo ?_
  refine wpAny_mono (hq _ code m₂ p ta tb' h1 h2 (List.mem_of_getElem? hp) A' E' s₂ hA (fun b o eg=>?_) hn) (fun y s3 ⟨h1,h2⟩=>⟨⟨p,hp,h1⟩,h2⟩) fun _ _ x=>x
  have lt:=hlt _ _ eg
  exact hk b (List.mem_range.mpr (show b<h'.objs.size from Nat.lt_of_lt_of_le lt (Nat.le_of_succ_le hsz'))) (fun hb=>Nat.ne_of_lt lt (by simpa using hb)) o (hr _ _ (r3.sub _ _ eg))
 ·intro a h₅ tk' gs hbare hlo hsz5 hk5 W hG
  rw [passing_all] at W
  have apW:Apart fx g am L (cx.set tb (.obj P (tabO ps'))) (h'.objs.size :: [s.heap.objs.size]):=fun b hb=>by
   have ow:owned am (cx.set tb (.obj P (tabO ps'))).obj=owned am cx.obj:=owned_map _
   rcases List.mem_cons.mp hb with rfl | hb
   ·exact ⟨r3.fresh_own,r3.fresh_out,r3.fresh_fr⟩
   ·rw [ow]; exact apI b hb
  have r5:Rep c fx g am L (cx.set tb (.obj P (tabO ps'))) { s with gens:=s.gens.push gs,toks:=tk',heap:=h₅ } :=
   r3.moveA (wr:=[]) (fun b hb=>by cases hb) (fun b o _ e=>hk5 b o e) (bare_push r3.gens hbare) rfl
  refine hQ a (a :: h'.objs.size :: List.range h'.objs.size) (h'.objs.size :: [s.heap.objs.size]) (GenOnlyQ s.gens.size) _ _ ps' ht' r5 (fun s'' mv=>r5.moveA apW mv.heap (GenOnlyQ.bare mv.gens r5.gens) mv.os) ?_ hG (fun b hb=>?_) (by simp) (fun i s st=>?_)
  ·rw [List.length_range] at W
   have e2:(fun (j:Nat) (y:Value)=>∃ p,xs[j]? = some p∧Fv p y)=fun j y=>∃ i,(List.range ws.toArray.size)[j]? = some i∧∃ p,xs[i]? = some p∧Fv p y:=by
    funext j y
    apply propext
    constructor
    ·rintro ⟨p,hp,hf⟩
     have hj:j<xs.length:=(List.getElem?_eq_some_iff.mp hp).1
     exact ⟨j,by rw [List.getElem?_range (by simp; lia)],p,hp,hf⟩
    ·rintro ⟨i,hi,p,hp,hf⟩
     have:i=j:=by
      by_cases q:j<ws.toArray.size
      ·rw [List.getElem?_range q] at hi; cases hi; rfl
      ·rw [List.getElem?_eq_none (by simpa using q)] at hi; cases hi
     exact ⟨p,this▸hp,hf⟩
   have e3:xs.length=ws.toArray.size:=by simp [lx]
   rw [e3]
   have key:∀ St,WalksS PW c.w A.in4 a (a :: h'.objs.size :: List.range h'.objs.size) (h'.objs.size :: [s.heap.objs.size]) (GenOnlyQ s.gens.size) ws.toArray.size (fun j y=>∃ i,(List.range ws.toArray.size)[j]? = some i∧∃ p,xs[i]? = some p∧Fv p y) St →
     WalksS PW c.w A.in4 a (a :: h'.objs.size :: List.range h'.objs.size) (h'.objs.size :: [s.heap.objs.size]) (GenOnlyQ s.gens.size) ws.toArray.size (fun j y=>∃ p,xs[j]? = some p∧Fv p y) St:=fun St h=>by rw [e2]; exact h
   exact key _ W
  ·simp only [List.mem_cons,List.mem_range] at hb
   show b<h₅.objs.size
   have hlo':h'.objs.size<a:=hlo
   rw [hsz5]
   rcases hb with rfl | rfl | hb
   ·exact Nat.lt_succ_self _
   ·exact Nat.lt_succ_of_lt hlo'
   ·exact Nat.lt_succ_of_lt (Nat.lt_trans hb hlo')
  ·exact st.1.typeIs
end
theorem args_sum2 (a b:Value):argsOk "sum" ⟨[a,b],[]⟩:=by unfold argsOk; kernel_rfl
noncomputable def shiftV (k:Int) (val:Nat→Int):Nat→Int
 | 0=>k
 | j+1=>val j
theorem preSum_shift (k:Int) (val:Nat→Int):∀ n,preSum (shiftV k val) (n+1)=k+preSum val n
 | 0=>by show (0:Int)+k=k+0; lia
 | n+1=>by
  show preSum (shiftV k val) (n+1)+val n=k+(preSum val n+val n)
  rw [preSum_shift k val n]; lia
section
variable {prog:Program} {w:World} {A:Around} {E:Value→Shared→Prop} {s:Shared}
theorem walksS_shift {I:Addr} {fp wr:List Addr} {G:Array GenState→Array GenState→Prop} {n:Nat} {P:Nat→Value→Prop} {St:Nat→Shared→Prop} (W:WalksS prog w A I fp wr G n P St) :
  WalksS prog w A I fp wr G (n+1) (fun i v=>match i with | 0=>False | j+1=>P j v) (fun i s=>match i with | 0=>False | j+1=>St j s) where
 sub:=W.sub
 grefl:=W.grefl
 gtrans:=W.gtrans
 frame:=fun i s h' tk st ht hk=>by
  cases i with
  | zero=>exact st
  | succ j=>exact W.frame j s h' tk st ht hk
 item:=fun i s Q E hi st hQ=>by
  cases i with
  | zero=>exact st.elim
  | succ j=>exact W.item j s Q E (by lia) st fun v s' hp st' mv=>hQ v s' hp st' mv
 done:=fun s Q E st hQ=>W.done s Q E st hQ
 self:=fun i s Q E st hQ=>by
  cases i with
  | zero=>exact st.elim
  | succ j=>exact W.self j s Q E st hQ
theorem call_sum_start {x:Value} {k:Int} {tk:Tok} {Q:Value→Shared→Prop} (hk:InLong k)
  (h:wpAny (model prog w) A.in1 (pyIter x) (fun it s₂=>∃ I fp wr G n P St val,it = .ref I∧WalksS prog w A.in1 I fp wr G n P St∧St 0 s₂∧(∀ b∈fp,b<s₂.heap.objs.size) ∧
   (∀ i v,P i v→∃ t,v = .int (val i) t)∧(∀ j,j<n→InLong (val j)∧InLong (k+preSum val (j+1))) ∧
   ∀ s' t',Moved wr G s₂ s'→Q (.int (k+preSum val n) t') s') E s) :
  wpAny (model prog w) A (call (.builtin "sum") [x,.int k tk]) Q E s:=by
 refine call_function_tree F.kind_sum F.plain_sum F.entry_sum (args_sum2 _ _) ?_
 unfold Builtin.«sum»
 simp only [List.length_cons,List.length_nil]
 first | (with_reducible refine wp_neg ?_ ?_; · exact (by decide)) | rw [if_neg (by decide)]
 refine wpAny_bind (wpAny_of_eq (show Builtin.Builtins.bindParams "sum" ["start"] 0 ⟨[.int k tk],[]⟩=pure [some (.int k tk)] from rfl) ?_)
 refine wpAny_bind (wpAny_mono h (fun it s₂ h₂=>?_) fun _ _ e=>e)
 refine hide fun Go jo=>?_
 obtain ⟨I,fp,wr,G,n,P,St,val,rfl,W,hst,hfp,hval,hfit,hQ⟩:=h₂
 refine jo ?_
 dsimp only
 have hfl:(decide (-(2 ^ 63)≤k)&&decide (k<2 ^ 63))=true:=by
  obtain ⟨a,b⟩:=hk
  rw [decide_eq_true a,decide_eq_true b]; rfl
 split
 rotate_left
 ·rename_i hneg
  exact absurd hfl hneg
 refine wpAny_bind (wpAny_rule ?_)
 refine wpAny_bind (wpAny_mkInt ?_)
 refine wpAny_bind (wpAny_pure ?_)
 simp only [List.forIn_cons,List.forIn_nil]
 refine wpAny_bind (wpAny_bind (wpAny_bind (wpAny_isInstance (T:="int") (b:=false) (typeIs_int _ _ _) PySem.sub_int_str ?_)))
 simp only [Bool.false_eq_true,if_false]
 refine wpAny_pure (wpAny_bind (wpAny_bind (wpAny_isInstance (T:="int") (b:=false) (typeIs_int _ _ _) PySem.sub_int_bytes ?_)))
 simp only [Bool.false_eq_true,if_false]
 refine wpAny_pure (wpAny_bind (wpAny_bind (wpAny_isInstance (T:="int") (b:=false) (typeIs_int _ _ _) PySem.sub_int_bytearray ?_)))
 simp only [Bool.false_eq_true,if_false]
 refine wpAny_pure (wpAny_pure ?_)
 refine wpAny_bind (wpAny_newObj_type ?_)
 have hSf:s₂.heap.objs.size∉fp:=fun hm=>Nat.lt_irrefl _ (hfp _ hm)
 have e1:preSum (shiftV k val) 1=k:=by show (0:Int)+k=k; lia
 refine wpAny_pure ⟨plainId_quiet F.plain_sum_loop _,codeAny_sum_loopS (walksS_shift W) (shiftV k val) (fun i v hp=>?_) (fun j hj=>?_) s₂.heap.objs.size hSf n 1 _ s₂.toks 0 (by lia) (by lia)
  (W.frame 0 s₂ _ _ hst (by first | exact Nat.le_refl _ | exact Nat.le_succ _ | omega) fun b _ o e=>Heap.get?_push_of_some _ e) (by rw [e1]; exact Heap.get?_push_size _ rfl) fun s' t' hm=>?_⟩
 ·cases i with
  | zero=>exact hp.elim
  | succ j=>exact hval j v hp
 ·rw [preSum_shift]
  cases j with
  | zero=>exact ⟨hk,by show InLong (k+0); simpa using hk⟩
  | succ j=>exact hfit j (by lia)
 ·rw [preSum_shift]
  exact hQ s' t' (hm.drop_new (by first | exact Nat.le_refl _ | exact Nat.le_succ _ | omega))
end
section
variable {c:Cst} {d u:Nat} {cx:Cx} {e:En}
theorem raw_get {fx:Fx} {g:Heap} {am:Am} {L:Addr} {s:Shared} {i:Nat} {so:SO} {C:Addr} {fs:List (Str×SV)} {name:Str} {sv:SV} {b:Bool} {v:Value} {A:Around} {Q:Value→Shared→Prop} {E:Value→Shared→Prop} (R:Rep c fx g am L cx s) (hv:VR g am (.ref i) v) (hi:cx.obj.lookup i=some so) (hf:so.fields? = some (C,fs)) (ok:GetOk c C name) (hl:fs.lookup name=some sv) (hh:sv.handed=true)
  (h:∀ w,VR g am sv w→Q w { s with toks:=s.toks+1 }):wpAny c.M A (getAttr v name b) Q E s:=by
 refine hide fun Go jo=>?_
 obtain ⟨a,dx,ox,es,n,rfl,ea,hm,l,ho,hd,I,hdx,fr⟩:=R.fld hi hf hv
 obtain ⟨w,e1,e2⟩:=fr.getL hl
 obtain ⟨attr,f1,f2⟩:=ok.cls
 refine jo ?_
 exact get_valueG (R.top.X.keeps R.sub) I ok.ga (findObj_own ok.dict f1 f2 (by rw [lookIn_dict]; exact e1)) (e2.handed hh) (h w e2)
structure GenOk (c:Cst) (C:Addr) (cda P bm:Addr):Prop where
 code:CodeK c cda P
 iter:SpF c C "__iter__" (.builtin "list.__iter__")
 lst:mroIn c.K C (.type "list")=some true
 bn:nsIn c.K mainGlobals "__builtins__" = some (some (.ref bm))
 bne:bm≠builtinsNs
 bm:∃ sl,c.K.lookup bm=some ⟨.type "module",some builtinsNs,.plain,sl⟩
 st:∃ o,c.K.lookup cStatics=some o
noncomputable def total (val:Str×Str→Int) (xs:List (Str×Str)):Int:=(xs.map val).sum
theorem preSum_total (val:Str×Str→Int) (xs:List (Str×Str)):∀ n,n≤xs.length→preSum (fun j=>(xs[j]?.map val).getD 0) n=total val (xs.take n)
 | 0,_=>by simp [preSum,total]
 | n+1,h=>by
  show preSum _ n+(xs[n]?.map val).getD 0=_
  rw [preSum_total val xs n (by lia)]
  have hn:xs[n]? = some xs[n]:=List.getElem?_eq_getElem (by lia)
  rw [List.take_add_one,hn]
  simp only [total,List.map_append,Option.toList_some,List.map_cons,List.map_nil,List.sum_append,List.sum_cons,List.sum_nil,Option.map_some,Option.getD_some,Int.add_zero]
theorem total_le (val:Str×Str→Int):∀ (xs:List (Str×Str)),(∀ p∈xs,0≤val p∧val p≤1000000)→0≤total val xs∧total val xs≤1000000 * xs.length
 | [],_=>by simp [total]
 | p :: xs,h=>by
  obtain ⟨a,b⟩:=total_le val xs fun q hq=>h q (List.mem_cons_of_mem _ hq)
  obtain ⟨a',b'⟩:=h p List.mem_cons_self
  simp only [total,List.map_cons,List.sum_cons,List.length_cons] at a b ⊢
  lia
theorem lookup_map_set {i j:Nat} {so:SO} (h:j≠i):∀ l:List (Nat×SO),(l.map fun p=>if p.1=i then (i,so) else p).lookup j=l.lookup j
 | []=>rfl
 | p :: l=>by
  obtain ⟨p1,p2⟩:=p
  rw [List.map_cons]
  by_cases q:p1=i
  ·first | (with_reducible refine wp_pos ?_ ?_; · exact q) | rw [if_pos q]
   have h1:(j==i)=false:=beq_eq_false_iff_ne.mpr h
   have h2:(j==p1)=false:=by rw [q]; exact h1
   rw [List.lookup_cons,List.lookup_cons,h1,h2]
   exact lookup_map_set h l
  ·rw [if_neg q,List.lookup_cons,List.lookup_cons,lookup_map_set h l]
theorem lookup_set_ne {i j:Nat} {so:SO} (h:j≠i):(cx.set i so).obj.lookup j=cx.obj.lookup j:=lookup_map_set h _
theorem sp_sumgen {i tb:Nat} {C P cda bm:Addr} {xs:List (Str×Str)} {fs:List (Str×SV)} {ps:Array Value} {elt:Expr} {xa xb fname:Str} {pa pb pt p0 p1 p2 p3 p4 pos:Pos} {kt:Nat} {scope:Scope} {val:Str×Str→Int} {k:Int} {K:SV→Cx→Prop}
  (G:GenOk c C cda P bm) (hcd:e.cd = .ref cda) (hself:cx.loc.lookup ("self":Str)=some (.ref i)) (hi:cx.obj.lookup i=some (.linst C (xs.map ppS) fs)) (htb:cx.obj.lookup tb=some (.obj P (tabO ps))) (hit:i≠tb) (ht:Tab pos ps)
  (hsum:nsIn c.K mainGlobals "sum" = some none) (ok:GetOk c C fname) (hl:fs.lookup fname=some (.int k)) (hd:d<1000)
  (hz:xs.length≤1000) (hk:0≤k∧k≤1000000) (hv:∀ p∈xs,0≤val p∧val p≤1000000)
  (hq:∀ g,Top c g→∀ L C' code m p ta tb,m xa=some (.str p.1 ta)→m xb=some (.str p.2 tb)→p∈xs→Qt c g (genEnv scope [] C' code builtinsNs (e.env L)) m (eval elt (genEnv scope [] C' code builtinsNs (e.env L))) (fun v=>∃ t,v = .int (val p) t))
  (h:∀ ps',Tab pos ps'→K (.int (k+total val xs)) (cx.set tb (.obj P (tabO ps'))))
  (hco:scope.isCoroutine=false:=by rfl) (hclos:∀ L,closureFor scope (e.env L)=pure []:=by intro L; rfl) (hcell:∀ y∈scope.names,y.2≠.cell:=by decide) (h0:scope.names.lookup (".0":Str)=some NameKind.local:=by rfl)
  (hxa:scope.names.lookup xa=some .local:=by rfl) (hxb:scope.names.lookup xb=some .local:=by rfl) (hab:xa≠xb:=by decide) (hkind:scope.kind = .function:=by rfl)
  (hek:e.scope.kind = .function:=by rfl) (hel:e.scope.names.lookup ("self":Str)=some .local:=by rfl) (hes:e.scope.names.lookup ("sum":Str)=some .globalImplicit:=by rfl)
  (hat:∀ L,eval (.Attribute (.Name "self" p3) fname p4) (e.env L)=(do
   let ov ← eval (.Name "self" p3) (e.env L)
   standAt p4.atName
   let r ← holding [ov] (getAttr ov fname true)
   letTemporaryGo (.Name "self" p3) ov r
   pure r):=by intro L; with_unfolding_all rfl) :
  Sp c d u (fun L=>eval (.Call (.Name "sum" p1) [.GeneratorExp elt [⟨.Tuple [.Name xa pa,.Name xb pb] kt pt,.Name "self" p0,[],0⟩] scope pos,.Attribute (.Name "self" p3) fname p4] [] p2) (e.env L)) VR cx K:=fun fx g am L s R=>by
 refine hide fun Go jo=>?_
 obtain ⟨mg,hg⟩:=R.top.gl
 obtain ⟨mb,hb,hb'⟩:=R.top.bl
 obtain ⟨og,hog⟩:=G.st
 refine jo ?_
 refine Call_ (Name_function_global hek hes (loadGlobal_builtin (env:=e.env L) (hg.keeps R.sub) (mg_none_of R.top.X hg hsum) (hb.keeps R.sub) ((hb' _ (by decide)).trans (show bootBuiltins "sum" = some (.builtin "sum") by decide +kernel)) ?_) (by decide)) (by rfl)
 refine callWith_builtin (backTo_plain rfl) ?_
 have z:wpAny c.M (Ar d u) (spliced (backTo p2 (starEach [.GeneratorExp elt [⟨.Tuple [.Name xa pa,.Name xb pb] kt pt,.Name "self" p0,[],0⟩] scope pos,.Attribute (.Name "self" p3) fname p4] (e.env L)))) (fun vs s'=>wpAny c.M (Ar d u) (call (.builtin "sum") ([]++vs) []) (Ends c fx g am L VR K) No s') No s:=by
  refine args_cons (gen_made (Fv:=fun p v=>∃ t,v = .int (val p) t) R hself hi htb ht G.code hcd G.iter G.lst G.bn G.bne G.bm (fun C' code m p ta tb h1 h2 h3=>hq g R.top L C' code m p ta tb h1 h2 h3) rfl hd ⟨og,R.top.X _ _ hog⟩ (fun a fp wr GG St s' ps' ht' r' mv W hst hfp hafp hT=>?_) hco (hclos L) hcell h0 hxa hxb hab hkind hek hel) rfl
  obtain ⟨m',hm',hvv⟩:=r'.fr
  obtain ⟨v,hv1,hv2⟩:=hvv _ _ hself
  refine args_cons (Attribute_any_ (wpAny_Name (wpAny_loadName_local hek hel hm' hv1 ?_)) (hat L)) rfl
  refine raw_get r' hv2 (so:=.linst C (xs.map ppS) fs) ?_ rfl ok hl rfl fun w hw=>?_
  ·rw [lookup_set_ne hit]; exact hi
  cases hw using VR.intE
  refine args_nil ?_
  refine call_sum_start ⟨by lia,by lia⟩ ?_
  have st1:St 0 { s' with toks:=s'.toks+1 }:=W.frame 0 s' s'.heap _ hst (Nat.le_succ _) fun b _ o e=>e
  refine (W.in4_1).self 0 _ _ _ st1 ⟨a,fp,wr,GG,xs.length,_,St,fun j=>(xs[j]?.map val).getD 0,rfl,W.in4_1,st1,hfp,fun j v hp=>?_,fun j hj=>?_,fun s2 t2 m2=>?_⟩
  ·obtain ⟨p,hp,t,rfl⟩:=hp
   exact ⟨t,by simp [hp]⟩
  ·have hj':xs[j]? = some xs[j]:=List.getElem?_eq_getElem hj
   obtain ⟨a1,b1⟩:=hv xs[j] (List.getElem_mem hj)
   rw [preSum_total val xs (j+1) (by lia)]
   simp only [hj',Option.map_some,Option.getD_some]
   obtain ⟨a2,b2⟩:=total_le val (xs.take (j+1)) fun q hq=>hv q (List.mem_of_mem_take hq)
   have:(xs.take (j+1)).length≤1000:=by rw [List.length_take]; lia
   refine ⟨⟨?_,?_⟩,?_,?_⟩ <;> lia
  ·rw [preSum_total val xs _ (Nat.le_refl _),List.take_length]
   refine ⟨g,am,_,_,.refl _,.refl _,mv s2 ?_,.int _ _,h ps' ht'⟩
   exact ⟨m2.heap,m2.gens,m2.drawn,m2.os,Nat.le_trans (Nat.le_succ _) m2.toks⟩
 exact evalArgs_plain z
end
section
variable {c:Cst} {g:Heap} {env:Env} {m:Str→Option Value}
theorem q_join {o a b:Expr} {ap pos tp:Pos} {k:Nat} {sep x y:Str} (ho:Qt c g env m (eval o env) (fun v=>∃ t,v = .str sep t)) (ha:Qt c g env m (eval a env) (fun v=>∃ t,v = .str x t)) (hb:Qt c g env m (eval b env) (fun v=>∃ t,v = .str y t))
  (hz:x.length+y.length≤1000000) (hsep:sep.length≤64) (hs:noStars [a,b]=true)
  {pl:Sem Bool} (he:eval (.Call (.Attribute o "join" ap) [.Tuple [a,b] k tp] [] pos) env=(do
   let ov ← eval o env
   standAt ap.atName
   let (f,first) ← holding [ov] (getMethod ov "join" pl)
   callWith pos f first (backTo pos (starEach [.Tuple [a,b] k tp] env)) [])) :
  Qt c g env m (eval (.Call (.Attribute o "join" ap) [.Tuple [a,b] k tp] [] pos) env) (fun v=>∃ t,v = .str (Txt.join sep [x,y]) t):=fun A E s hh hle hm=>by
 obtain ⟨ea,hs'⟩:=starEach_cons (env:=env) hs
 obtain ⟨eb,_⟩:=starEach_cons (env:=env) hs'
 refine MethodCall_ (wpAny_mono (ho A E s hh hle hm) (fun v s1 ⟨hv,k1⟩=>?_) fun _ _ x=>x) he
 obtain ⟨t,rfl⟩:=hv
 refine getMethod_builtin (typeIs_str s1 sep t) PySem.F.plainAttrs_str PySem.F.slot_str_join PySem.F.type_str_join (fun a e=>nomatch e) ?_
 refine callWith_builtin (backTo_plain rfl) ?_
 have z:wpAny c.M A (spliced (backTo pos (starEach [.Tuple [a,b] k tp] env))) (fun vs s'=>wpAny c.M A (call (.builtin "str.join") ([.str sep t]++vs) []) (fun v s'=>(∃ t,v = .str (Txt.join sep [x,y]) t)∧Keeps s s') E s') E s1:=by
  refine args_cons (Tuple_ (args_cons (wpAny_mono (ha A E s1 hh (keeps_le k1 hle) (keeps_ns k1 hm)) (fun v s2 ⟨hv,k2⟩=>?_) fun _ _ x=>x) ea)) rfl
  obtain ⟨ta,rfl⟩:=hv
  have k12:=keeps_trans k1 k2
  refine args_cons (wpAny_mono (hb A E s2 hh (keeps_le k12 hle) (keeps_ns k12 hm)) (fun v s3 ⟨hv,k3⟩=>?_) fun _ _ x=>x) eb
  obtain ⟨tb,rfl⟩:=hv
  refine args_nil ?_
  refine wpAny_newObj_type ?_ (by show (2:Nat)≤sizeLine; rw [sizeLine_eq]; decide)
  refine args_nil ?_
  refine join_tupleC (ys:=[x,y]) ⟨_,Heap.get?_push_size _ rfl,rfl,_,rfl⟩ (.cons _ _ (.cons _ _ .nil)) hsep (by simp; lia) fun t' k'=>⟨⟨t',rfl⟩,?_⟩
  exact keeps_trans (keeps_trans k12 k3) ⟨_,_,rfl,fun b o e=>Heap.get?_push_of_some _ e⟩
 exact evalArgs_plain z
end
section
variable {c:Cst} {d u:Nat} {cx:Cx} {e:En}
theorem items_strs {xs:List (Str×Str)} {f:Str×Str→Str} {l:List (Str×Tok)} (h:ItemsOf (fun j y=>∃ p,xs[j]? = some p∧∃ t,y = .str (f p) t) (strValues l).toArray xs.length):l.map (·.1)=xs.map f:=by
 obtain ⟨h1,h2⟩:=h
 have hl:l.length=xs.length:=by simpa [strValues] using h1
 refine List.ext_getElem (by simp [hl]) fun j hj hj'=>?_
 have hj1:j<l.length:=by simpa using hj
 have hj2:j<xs.length:=by simpa using hj'
 refine hide fun Go jo=>?_
 obtain ⟨p,hp,t,e⟩:=h2 j (.str l[j].1 l[j].2) (by simp [strValues,hj1])
 rw [List.getElem?_eq_getElem hj2] at hp
 cases hp
 refine jo ?_
 simp only [List.getElem_map]
 exact (Value.str.inj e).1
theorem sp_joingen {i tb:Nat} {C P cda bm:Addr} {xs:List (Str×Str)} {fs:List (Str×SV)} {ps:Array Value} {elt:Expr} {xa xb sname:Str} {pa pb pt p0 p1 p2 ap pos:Pos} {kt:Nat} {scope:Scope} {f:Str×Str→Str} {sep:Str} {tsep:Tok} {K:SV→Cx→Prop}
  (G:GenOk c C cda P bm) (hcd:e.cd = .ref cda) (hself:cx.loc.lookup ("self":Str)=some (.ref i)) (hi:cx.obj.lookup i=some (.linst C (xs.map ppS) fs)) (htb:cx.obj.lookup tb=some (.obj P (tabO ps))) (hit:i≠tb) (ht:Tab pos ps)
  (hsn:nsIn c.K mainGlobals sname=some (some (.str sep tsep))) (hd:d<1000) (hok:JoinOk sep (xs.map f)=true)
  (hz:xs.length≤1000)
  (hq:∀ g,Top c g→∀ L C' code m p ta tb,m xa=some (.str p.1 ta)→m xb=some (.str p.2 tb)→p∈xs→Qt c g (genEnv scope [] C' code builtinsNs (e.env L)) m (eval elt (genEnv scope [] C' code builtinsNs (e.env L))) (fun v=>∃ t,v = .str (f p) t))
  (h:∀ ps',Tab pos ps'→K (.str (Txt.join sep (xs.map f))) (cx.set tb (.obj P (tabO ps'))))
  (hco:scope.isCoroutine=false:=by rfl) (hclos:∀ L,closureFor scope (e.env L)=pure []:=by intro L; rfl) (hcell:∀ y∈scope.names,y.2≠.cell:=by decide) (h0:scope.names.lookup (".0":Str)=some NameKind.local:=by rfl)
  (hxa:scope.names.lookup xa=some .local:=by rfl) (hxb:scope.names.lookup xb=some .local:=by rfl) (hab:xa≠xb:=by decide) (hkind:scope.kind = .function:=by rfl)
  (hek:e.scope.kind = .function:=by rfl) (hel:e.scope.names.lookup ("self":Str)=some .local:=by rfl) (hes:e.scope.names.lookup sname=some .globalImplicit:=by rfl) (hdb:(sname==("__debug__":Str))=false:=by decide)
  (he:∀ L,∃ pl:Sem Bool,eval (.Call (.Attribute (.Name sname p1) "join" ap) [.GeneratorExp elt [⟨.Tuple [.Name xa pa,.Name xb pb] kt pt,.Name "self" p0,[],0⟩] scope pos] [] p2) (e.env L)=(do
   let ov ← eval (.Name sname p1) (e.env L)
   standAt ap.atName
   let (f,first) ← holding [ov] (getMethod ov "join" pl)
   callWith p2 f first (backTo p2 (starEach [.GeneratorExp elt [⟨.Tuple [.Name xa pa,.Name xb pb] kt pt,.Name "self" p0,[],0⟩] scope pos] (e.env L))) []):=by intro L; exact ⟨_,rfl⟩) :
  Sp c d u (fun L=>eval (.Call (.Attribute (.Name sname p1) "join" ap) [.GeneratorExp elt [⟨.Tuple [.Name xa pa,.Name xb pb] kt pt,.Name "self" p0,[],0⟩] scope pos] [] p2) (e.env L)) VR cx K:=fun fx g am L s R=>by
 refine hide fun Go jo=>?_
 obtain ⟨mg,hg⟩:=R.top.gl
 obtain ⟨og,hog⟩:=G.st
 obtain ⟨pl,he⟩:=he L
 refine jo ?_
 refine MethodCall_ (Name_function_global hek hes (loadGlobal_global (env:=e.env L) (hg.keeps R.sub) (mg_of R.top.X hg hsn) ?_) hdb) he
 refine getMethod_builtin (typeIs_str s sep tsep) PySem.F.plainAttrs_str PySem.F.slot_str_join PySem.F.type_str_join (fun a e=>nomatch e) ?_
 refine callWith_builtin (backTo_plain rfl) ?_
 have z:wpAny c.M (Ar d u) (spliced (backTo p2 (starEach [.GeneratorExp elt [⟨.Tuple [.Name xa pa,.Name xb pb] kt pt,.Name "self" p0,[],0⟩] scope pos] (e.env L)))) (fun vs s'=>wpAny c.M (Ar d u) (call (.builtin "str.join") ([.str sep tsep]++vs) []) (Ends c fx g am L VR K) No s') No s:=by
  refine args_cons (gen_made (Fv:=fun p v=>∃ t,v = .str (f p) t) R hself hi htb ht G.code hcd G.iter G.lst G.bn G.bne G.bm (fun C' code m p ta tb h1 h2 h3=>hq g R.top L C' code m p ta tb h1 h2 h3) rfl hd ⟨og,R.top.X _ _ hog⟩ (fun a fp wr GG St s' ps' ht' r' mv W hst hfp hafp hT=>?_) hco (hclos L) hcell h0 hxa hxb hab hkind hek hel) rfl
  refine args_nil ?_
  refine SC.joinGen W.in4_2 hT hst hfp hafp (fun j v ⟨p,_,t,e⟩=>⟨_,t,e⟩) (fun s2 l m2 hl=>?_) (by rw [sizeLine_eq]; lia)
  rw [items_strs hl]
  exact ⟨hok,fun t' k'=>⟨g,am,_,_,.refl _,.refl _,(mv s2 m2).toks,.str _ _,h ps' ht'⟩⟩
 exact evalArgs_plain z
end
noncomputable def makesL (K:Frag) (C:Addr):Bool:=match K.lookup C with
 | some ⟨_,_,.cls cd,sl⟩=>!cd.abstract && !cd.hasDel&&cd.hasDict&&(sl.toList[4]?).join==some (.builtin "list.__new__") && !cd.mro.isEmpty&&cd.mro.contains (.ref C)&&cd.mro.contains (.type "list") &&
   specialIn K (.ref C) "__call__" == some (some (.builtin "type.__call__"))&&instIn K (.ref C) (.type "type")==some true
 | _=>false
structure MakesL (M:Model) (h:Heap) (C:Addr):Prop where
 obj:∃ oc od cd sl,h.get? C=some ⟨oc,od,.cls cd,sl⟩∧cd.abstract=false∧cd.hasDel=false∧cd.mro.isEmpty=false∧cd.hasDict=true
 made:Looks M h (Bind.madeBy (.ref C)) (some "list.__new__")
 base:Looks M h (Bind.staticBase (.ref C)) (.ref C)
 self:Looks M h (isSubtype (.ref C) (.ref C)) true
 top:Looks M h (isSubtype (.ref C) (.type "list")) true
 call:Looks M h (specialOf (.ref C) "__call__") (some (.builtin "type.__call__"))
 typ:Looks M h (isInstance (.ref C) (.type "type")) true
theorem makesL_of {K:Frag} {M:Model} {h:Heap} (X:K.In h) {C:Addr} (e:makesL K C=true):MakesL M h C:=by
 unfold makesL at e
 split at e
 ·rename_i oc od cd sl ho
  simp only [Bool.and_eq_true,Bool.not_eq_true',beq_iff_eq] at e
  refine hide fun Go jo=>?_
  obtain ⟨⟨⟨⟨⟨⟨⟨⟨e1,e2⟩,e0⟩,e3⟩,e4⟩,e5⟩,e6⟩,e7⟩,e8⟩:=e
  have hc:clsIn K C=some cd:=by unfold clsIn; rw [ho]
  have hm:Looks M h (mroOf (.ref C)) cd.mro:=(looks_clsIn X hc).andThen .now
  obtain ⟨c,l,hl⟩:∃ c l,cd.mro=c :: l:=by cases q:cd.mro with | nil=>rw [q] at e4; cases e4 | cons c l=>exact ⟨c,l,rfl⟩
  refine jo ?_
  have made:Looks M h (Bind.madeBy (.ref C)) (some "list.__new__"):=by
   intro A Q E s k q
   unfold Bind.madeBy
   refine wpAny_bind (hm A _ E s k ?_)
   rw [hl,List.forIn_cons]
   refine wpAny_bind (wpAny_bind (wpAny_bind (wpAny_bind (wpAny_loadPart (k _ _ (X _ _ ho)) (wpAny_pure ?_)))))
   dsimp only
   rw [← Array.getElem?_toList,e3]
   exact wpAny_pure (wpAny_pure (wpAny_pure q))
  refine ⟨⟨oc,od,cd,sl,X _ _ ho,e1,e2,e4,e0⟩,made,?_,looks_mroIn X ?_,looks_mroIn X ?_,looks_specialIn X e7,looks_instIn X e8⟩
  ·intro A Q E s k q
   unfold Bind.staticBase
   refine wpAny_bind (hm A _ E s k ?_)
   rw [hl,List.forIn_cons]
   exact wpAny_bind (wpAny_bind (wpAny_bind (made A _ E s k (wpAny_pure (wpAny_pure (wpAny_pure q))))))
  ·unfold mroIn; rw [hc,Option.bind_some,if_neg (by rw [e4]; decide),e5]
  ·unfold mroIn; rw [hc,Option.bind_some,if_neg (by rw [e4]; decide),e6]
 ·cases e
theorem ln_kind:builtinKind "list.__new__" = some .builtinFn:=by decide +kernel
theorem ln_split:splitId "list.__new__" = some ("list","__new__"):=by decide +kernel
section
variable {prog:Program} {w:World} {A:Around} {K:Frag} {C:Addr} {R:Result→Shared→Prop} {h:Heap} {g:Array GenState} {d:Drawn} {t:Nat} {os:OsState}
theorem ln_check {rest:List Value} {Q:Unit→Shared→Prop} {E:Value→Shared→Prop} (Y:MakesL (model prog w) h C) (q:Q () ⟨h,g,d,t,os⟩):wpAny (model prog w) A (checkBuiltinCall "list.__new__" ⟨.ref C :: rest,[]⟩) Q E ⟨h,g,d,t,os⟩:=by
 refine hide fun Go jo=>?_
 obtain ⟨⟨oc,od,cd,sl,hC,e1,e2,e4,e0⟩,made,base,self,top,call,typ⟩:=Y
 refine jo ?_
 have ar:argsOk "list.__new__" ⟨.ref C :: rest,[]⟩:=by unfold argsOk; kernel_rfl
 simp only [checkBuiltinCall,ln_kind,ln_split]
 repeat (first | with_reducible refine wp_f (by first | rfl | exact bne_self_eq_false _) ?_ | lk | simp only [bne_self_eq_false,Bool.false_eq_true,if_false,Bool.not_true])
 exact q
noncomputable abbrev emptyL (C dx:Addr):Obj:={ cls:=.ref C,dict:=some dx,data:=.seq #[] 0 }
theorem new_L {rest:List Value} (Y:MakesL (model prog w) h C) (hq:R (.ok (.ret (.ref (h.objs.size+1)))) ⟨(h.push emptyDict).push (emptyL C h.objs.size),g,d,t,os⟩) :
  codeAny (model prog w) A (.call (.builtin "list.__new__") ⟨.ref C :: rest,[]⟩) R ⟨h,g,d,t,os⟩:=by
 refine codeAny_of_tree ?_
 show wpAny _ A.in1 (do checkBuiltinCall "list.__new__" ⟨.ref C :: rest,[]⟩; again (.builtin "list.__new__" ⟨.ref C :: rest,[]⟩)) _ _ _
 refine wpAny_bind (ln_check Y (wpAny_pure ⟨plainId_quiet PySem.F.plain_list_new _,codeAny_builtin_stack PySem.F.entry_list_new rfl fun p st=>?_⟩))
 rw [Around.under_plainId PySem.F.plain_list_new _]
 have hown:=owner_list_new
 refine hide fun Go jo=>?_
 obtain ⟨⟨oc,od,cd,sl,hC,e1,e2,e4,e0⟩,made,base,self,top,call,typ⟩:=Y
 refine jo ?_
 simp only [hown]
 repeat (first | with_reducible refine wp_f (by first | rfl | exact bne_self_eq_false _) ?_ | lk | simp only [bne_self_eq_false,Bool.false_eq_true,if_false,Bool.not_true])
 refine wpAny_load (Heap.get?_push_of_some _ (Heap.get?_push_of_some _ hC)) ?_
 dsimp only
 rw [e2]
 refine wpAny_pure ?_
 first | (with_reducible refine wp_neg ?_ ?_; · exact (by decide)) | rw [if_neg (by decide)]
 refine wpAny_pure (wpAny_pure ?_)
 show R _ _
 rw [Heap.size_push]
 exact hq
theorem make_L {rest:List Value} {init:Value} (Y:MakesL (model prog w) h C) (hi:Looks (model prog w) h (typeLookup (.ref C) "__init__") (some init))
  (hb:∀ self,Looks (model prog w) h (bindSpecial init self) (init,[self]))
  (hq:codeAny (model prog w) (A.under (.builtin "type.__call__" ⟨.ref C :: rest,[]⟩)) (.call init ⟨.ref (h.objs.size+1) :: rest,[]⟩) (InitBack (h.objs.size+1) R) ⟨(h.push emptyDict).push (emptyL C h.objs.size),g,d,t,os⟩) :
  codeAny (model prog w) A (.call (.ref C) ⟨rest,[]⟩) R ⟨h,g,d,t,os⟩:=by
 have Y':=Y
 refine hide fun Go jo=>?_
 obtain ⟨⟨oc,od,cd,sl,hC,e1,e2,e4,e0⟩,made,base,self,top,call,typ⟩:=Y
 refine jo ?_
 refine codeAny_of_tree ?_
 show wpAny _ _ (callAny (.ref C) _) _ _ _
 refine nd_load hC ?_
 show wpAny _ _ (callAny.viaDunder (.ref C) _) _ _ _
 unfold callAny.viaDunder
 refine wpAny_bind (call.at ?_)
 dsimp only
 rw [tc_bind]
 refine wpAny_bind (wpAny_pure (wpAny_bind (wpAny_pure ?_)))
 refine wpAny_pure (a:=Fin.again (.call (.builtin "type.__call__") ⟨.ref C :: rest,[]⟩)) (And.intro rfl ?_)
 refine codeAny_call_builtin_at (Code.quiet_builtin _ (by decide +kernel)) entry_typeCall (check_slot tc_kind tc_split typ (tc_args _ _ _) ?_)
 unfold Builtin.«type.__call__»
 have hm:Looks (model prog w) h (mroOf (.ref C)) cd.mro:=((Looks.ld (part:=none) hC).andThen .now).andThen .now
 repeat (first | with_reducible refine wp_f (by first | rfl | exact e4) ?_ | with_reducible refine wpAny_call ?_ | lk | simp only [e4,Bool.false_eq_true,if_false])
 refine new_L Y' ?_
 have k:∀ b o,h.get? b=some o→((h.push emptyDict).push (emptyL C h.objs.size)).get? b=some o:=fun b o e=>Heap.get?_push_of_some _ (Heap.get?_push_of_some _ e)
 have hx:((h.push emptyDict).push (emptyL C h.objs.size)).get? (h.objs.size+1)=some (emptyL C h.objs.size):=by heap_get
 have t1:Looks (model prog w) ((h.push emptyDict).push (emptyL C h.objs.size)) (typeOf (.ref (h.objs.size+1))) (.ref C):=(Looks.ld hx).andThen .now
 have s1:=self.keeps k
 have i1:=hi.keeps k
 have b1:=(hb (.ref (h.objs.size+1))).keeps k
 unfold isInstance callSpecial? specialOf
 repeat (first | with_reducible refine wpAny_call ?_ | lk)
 refine codeAny_mono hq fun r s' z=>?_
 rcases r with e | (v | _ | _ | _) <;> first | exact z | exact z.elim | skip
 obtain ⟨rfl,z⟩:=z
 exact wpAny_pure (wpAny_pure z)
end
section
variable {c:Cst} {d u:Nat} {cx:Cx} {C fI:Addr} {xs:List SV} {kw:List (Str×SV)} {K:SV→Cx→Prop}
theorem two_le (h:Heap) (o o':Obj):Le h ((h.push o).push o'):=(push_le _ _).trans (push_le _ _)
theorem mk_inst (i:Nat) (hm:makesIn c.K C=true) (hi:findIn c.K (.ref C) "__init__" = some (some (.ref fI))) (hf:typeIn c.K (.ref fI)=some (.type "function")) (hfr:i∈cx.fr)
  (h:SpKc c (d+1) (u+1) (.ref fI) (.ref i :: xs) kw (cx.addAt i (.inst C [])) fun v cx'=>v = .none∧K (.ref i) cx'):SpK c d u (.ref C) xs kw cx K:=by
 intro fx g am L s vs ks r hv hk
 have X:=r.top.X.keeps r.sub
 have le:=Am.set_le am [s.heap.objs.size+1,s.heap.objs.size] (r.free i hfr).2
 have r1:Rep c fx g (am.set i [s.heap.objs.size+1,s.heap.objs.size]) L (cx.addAt i (.inst C [])) { s with heap:=(s.heap.push emptyDict).push (instObj C s.heap.objs.size) }:=by
  refine r.allocAt (t:=s.toks) hfr (two_le _ _ _) (by rw [push_size,push_size]; lia) (fun b hb=>?_) (fun a ha=>?_) ?_ ⟨_,_,[],0,rfl,by heap_get,by heap_get,.nil⟩
  ·have:=r.owned_lt b hb
   rw [Heap.get?_push_ne _ _ _ (by rw [push_size]; exact Nat.ne_of_lt (Nat.lt_succ_of_lt this)),Heap.get?_push_ne _ _ _ (Nat.ne_of_lt this)]
  ·simp at ha
   rcases ha with rfl | rfl
   ·exact Nat.le_succ _
   ·exact Nat.le_refl _
  ·simp
 have z:=h fx g _ L _ (.ref (s.heap.objs.size+1) :: vs) ks r1 (.cons (.ref (Am.at_set ..)) (hv.mono (.refl _) le)) (hk.mono (.refl _) le)
 refine hide fun Go jo=>?_
 obtain ⟨hh,gg,dd,tt,oo⟩:=s
 refine jo ?_
 refine wpAny_call (make_core (makes_of X hm) (looks_findIn X hi) (fun self=>bind_fn X self hf) (.inl rfl) ?_)
 refine codeAny_mono (car_le z rfl (Nat.le_refl _) (Nat.le_refl _)) fun res s' q=>?_
 rcases res with e | (v | _ | _ | _) <;> first | exact q | exact q.elim | skip
 refine hide fun Go jo=>?_
 obtain ⟨g',am',cx',w,l1,a1,r2,q2,rfl,k⟩:=q
 cases q2 using VR.noneE
 refine jo ?_
 exact ⟨rfl,g',am',cx',.ref i,l1,le.trans a1,r2,.ref (a1 _ _ (Am.at_set ..)),k⟩
theorem mk_list (i:Nat) (hm:makesL c.K C=true) (hi:findIn c.K (.ref C) "__init__" = some (some (.ref fI))) (hf:typeIn c.K (.ref fI)=some (.type "function")) (hfr:i∈cx.fr)
  (h:SpKc c (d+1) (u+1) (.ref fI) (.ref i :: xs) [] (cx.addAt i (.linst C [] [])) fun v cx'=>v = .none∧K (.ref i) cx'):SpC c d u (.ref C) xs cx K:=by
 intro fx g am L s vs r hv
 have X:=r.top.X.keeps r.sub
 have le:=Am.set_le am [s.heap.objs.size+1,s.heap.objs.size] (r.free i hfr).2
 have r1:Rep c fx g (am.set i [s.heap.objs.size+1,s.heap.objs.size]) L (cx.addAt i (.linst C [] [])) { s with heap:=(s.heap.push emptyDict).push (emptyL C s.heap.objs.size) }:=by
  refine r.allocAt (t:=s.toks) hfr (two_le _ _ _) (by rw [push_size,push_size]; lia) (fun b hb=>?_) (fun a ha=>?_) ?_ ⟨_,_,[],0,[],0,rfl,by heap_get,by heap_get,.nil,.nil⟩
  ·have:=r.owned_lt b hb
   rw [Heap.get?_push_ne _ _ _ (by rw [push_size]; exact Nat.ne_of_lt (Nat.lt_succ_of_lt this)),Heap.get?_push_ne _ _ _ (Nat.ne_of_lt this)]
  ·simp at ha
   rcases ha with rfl | rfl
   ·exact Nat.le_succ _
   ·exact Nat.le_refl _
  ·simp
 have z:=h fx g _ L _ (.ref (s.heap.objs.size+1) :: vs) [] r1 (.cons (.ref (Am.at_set ..)) (hv.mono (.refl _) le)) .nil
 refine hide fun Go jo=>?_
 obtain ⟨hh,gg,dd,tt,oo⟩:=s
 refine jo ?_
 refine wpAny_call (make_L (makesL_of X hm) (looks_findIn X hi) (fun self=>bind_fn X self hf) ?_)
 refine codeAny_mono (car_le z rfl (Nat.le_refl _) (Nat.le_refl _)) fun res s' q=>?_
 rcases res with e | (v | _ | _ | _) <;> first | exact q | exact q.elim | skip
 refine hide fun Go jo=>?_
 obtain ⟨g',am',cx',w,l1,a1,r2,q2,rfl,k⟩:=q
 cases q2 using VR.noneE
 refine jo ?_
 exact ⟨rfl,g',am',cx',.ref i,l1,le.trans a1,r2,.ref (a1 _ _ (Am.at_set ..)),k⟩
end
section
variable {c:Cst} {A:Around} {E:Value→Shared→Prop} {s:Shared}
theorem spec_F {x C:Addr} {ox:Obj} {od:Option Obj} {name:Str} {f:Value} {args:List Value} {Q:Option Value→Shared→Prop} (X:c.K.In s.heap) (I:InstAt s.heap x ox C od) (F:SpF c C name f)
  (h:wpAny c.M A (call f (.ref x :: args)) (fun v=>Q (some v)) E s):wpAny c.M A (callSpecial? (.ref x) name args) Q E s:=by
 unfold callSpecial? specialOf
 refine wpAny_bind (wpAny_bind (I.type.here ((looks_findIn X F.find).here ?_)))
 refine wpAny_holding (wpAny_bind (bind_ok X F.ty ?_))
 exact wpAny_bind (wpAny_mono h (fun _ _ q=>wpAny_pure q) fun _ _ x=>x)
theorem len_body' {x C:Addr} {ox:Obj} {od:Option Obj} {f:Value} {Q:Value→Shared→Prop} (X:c.K.In s.heap) (I:InstAt s.heap x ox C od) (F:SpF c C "__len__" f)
  (h:wpAny c.M A (call f [.ref x]) (fun r s'=>∃ n u,r = .int n u∧0≤n∧n<2 ^ 63∧Q (.int n s'.toks) { s' with toks:=s'.toks+1 }) E s) :
  wpAny c.M A (Builtin.«len» ⟨[.ref x],[]⟩) (fun fin s'=>∃ v,fin = .done (.ret v)∧Q v s') E s:=by
 unfold Builtin.«len»
 refine wpAny_bind (m:=oneArg "len" _) (wpAny_pure ?_)
 refine wpAny_bind (m:=callSpecial? (.ref x) (Str.ofString "__len__")) (spec_F X I F (wpAny_mono h (fun r s' hr=>?_) fun _ _ y=>y))
 refine hide fun Go jo=>?_
 obtain ⟨n,u,rfl,h0,h1,hq⟩:=hr
 refine jo ?_
 refine wpAny_bind (wpAny_holding (wpAny_pure ?_))
 refine wpAny_bind (wpAny_letGo ?_)
 show wpAny _ _ (if n<0 then _ else _) _ _ _
 first | (with_reducible refine wp_neg ?_ ?_; · exact (by lia)) | rw [if_neg (by omega)]
 show wpAny _ _ (if n ≥ 2 ^ 63 then _ else _) _ _ _
 first | (with_reducible refine wp_neg ?_ ?_; · exact (by lia)) | rw [if_neg (by omega)]
 exact wpAny_bind (wpAny_mkInt (wpAny_pure ⟨_,rfl,hq⟩))
end
section
variable {c:Cst} {d u:Nat} {cx:Cx} {C f:Addr} {i:Nat} {so:SO} {fs:List (Str×SV)}
theorem c_lenI {K:SV→Cx→Prop} (hi:cx.obj.lookup i=some so) (hf:so.fields? = some (C,fs)) (F:SpF c C "__len__" (.ref f)) (h:SpC c d (u+1) (.ref f) [.ref i] cx fun v cx'=>∃ n,v = .int n∧0≤n∧n<2 ^ 62∧K (.int n) cx'):SpC c d u (.builtin "len") [.ref i] cx K:=fun fx g am L s vs R q=>by
 cases q using VRs.consE with
 | mk _ _ q1 q =>
        cases q using VRs.nilE
        have q1':=q1
        refine hide fun Go jo=>?_
        obtain ⟨a,dx,ox,es,n,rfl,ea,hm,l,ho,hd,I,hdx,fr⟩:=R.fld hi hf q1
        refine jo ?_
        refine Calls.call_function_entry kind_len plain_len entry_len (args_len1 _) ?_
        refine len_body' (R.top.X.keeps R.sub) I F ?_
        refine step (ar_le (h fx g am L s [.ref a] R (.cons q1' .nil)) rfl (Nat.le_refl _) (Nat.le_refl _)) fun v s1 g1 am1 cx1 w l1 a1 r1 q2 k1=>?_
        refine hide fun Go jo=>?_
        obtain ⟨n,rfl,h0,h1,k⟩:=k1
        cases q2 using VR.intE
        refine jo ?_
        exact ⟨n,_,rfl,h0,by lia,g1,am1,cx1,_,l1,a1,r1.toks,.int _ _,k⟩
theorem tr_I {K:Bool→Cx→Prop} (hi:cx.obj.lookup i=some so) (hf:so.fields? = some (C,fs)) (F:SpF c C "__len__" (.ref f)) (hb:findIn c.K (.ref C) "__bool__" = some none) (h:SpC c d (u+1) (.ref f) [.ref i] cx fun v cx'=>∃ n,v = .int n∧0≤n∧n<2 ^ 62∧K (n != 0) cx'):Sp1 c d u (fun a=>truthy a) BR (.ref i) cx K:=fun fx g am L s v R q1=>by
 have q1':=q1
 refine hide fun Go jo=>?_
 obtain ⟨a,dx,ox,es,n,rfl,ea,hm,l,ho,hd,I,hdx,fr⟩:=R.fld hi hf q1
 refine jo ?_
 have X:=R.top.X.keeps R.sub
 unfold truthy
 refine wpAny_bind (m:=callSpecial? (.ref a) (Str.ofString "__bool__")) ?_
 unfold callSpecial? specialOf
 refine wpAny_bind (wpAny_bind (I.type.here ((looks_findIn X hb).here ?_)))
 refine wpAny_pure ?_
 refine wpAny_bind (m:=specialOf _ _) (wpAny_bind (I.type.here ((looks_findIn X F.find).here ?_)))
 first | (with_reducible refine wp_neg ?_ ?_; · exact (by simp)) | rw [if_neg (by simp)]
 refine wpAny_bind (wpAny_runValue (codeAny_builtin entry_len ?_))
 rw [Around.under_plainId plain_len _]
 refine wpAny_mono (len_body' (Q:=fun v s'=>∃ n t,v = .int n t∧Ends c fx g am L BR K (n != 0) s') X I F ?_) (fun fin s' hq=>?_) fun _ _ x=>x
 ·refine step (ar_le (h fx g am L s [.ref a] R (.cons q1' .nil)) rfl (Nat.le_refl _) (Nat.le_refl _)) fun v s1 g1 am1 cx1 w l1 a1 r1 q2 k1=>?_
  refine hide fun Go jo=>?_
  obtain ⟨n,rfl,h0,h1,k⟩:=k1
  cases q2 using VR.intE
  refine jo ?_
  exact ⟨n,_,rfl,h0,by lia,n,_,rfl,g1,am1,cx1,_,l1,a1,r1.toks,rfl,k⟩
 ·refine hide fun Go jo=>?_
  obtain ⟨v,rfl,n,t,rfl,hq⟩:=hq
  refine jo ?_
  exact wpAny_pure hq
theorem c_strI {K:SV→Cx→Prop} (hu:u<9000) (hi:cx.obj.lookup i=some so) (hf:so.fields? = some (C,fs)) (F:SpF c C "__str__" (.ref f)) (h:SpC c d (u+2) (.ref f) [.ref i] cx fun v cx'=>∃ x,v = .str x∧K (.str x) cx'):SpC c d u (.type "str") [.ref i] cx K:=fun fx g am L s vs R q=>by
 cases q using VRs.consE with
 | mk _ _ q1 q =>
        cases q using VRs.nilE
        have q1':=q1
        refine hide fun Go jo=>?_
        obtain ⟨a,dx,ox,es,n,rfl,ea,hm,l,ho,hd,I,hdx,fr⟩:=R.fld hi hf q1
        refine jo ?_
        refine callType_newIn PySem.F.called_str (by decide) (PySem.F.typeCall_str_1 _) (PySem.F.newCall_str_1 _) (fun obj=>PySem.F.args_object_init_2 obj _) PySem.F.entry_str_new (S:=fun A R s'=>A=(Ar d u).in1∧s'=s∧∀ v s2,(∃ x t,v = .str x t∧Ends c fx g am L VR K v s2)→R (.ok (.ret v)) s2) ?_ ⟨rfl,rfl,fun v s2 ⟨x,t,e,hv⟩=>by subst e; exact ⟨typeIs_str _ _ _,hv⟩⟩
        refine .of_wp fun A R' s' ⟨hA,hs,hq⟩=>?_
        subst hA; subst hs
        rw [str_new_tree]
        refine wpAny_bind (wpAny_pure ?_)
        refine wpAny_bind (wpAny_of_eq isSubtype_str_str ?_)
        refine wpAny_bind ?_
        unfold Builtin.Str.strOf
        first | (with_reducible refine wp_neg ?_ ?_; · exact (show ¬ (Builtin.Str.isExactStr (.ref a)=true) from Bool.false_ne_true)) | rw [if_neg (show ¬ (Builtin.Str.isExactStr (.ref a)=true) from Bool.false_ne_true)]
        refine wpAny_bind (wpAny_cRoomFor (by show u+1+1<9900; lia) ?_)
        refine wpAny_bind (m:=callSpecial? (.ref a) (Str.ofString "__str__")) (spec_F (R.top.X.keeps R.sub) I F ?_)
        refine step (ar_le (h fx g am L s' [.ref a] R (.cons q1' .nil)) rfl (Nat.le_refl _) (Nat.le_refl _)) fun v s1 g1 am1 cx1 w l1 a1 r1 q2 k1=>?_
        refine hide fun Go jo=>?_
        obtain ⟨x,rfl,k⟩:=k1
        cases q2 using VR.strE
        refine jo ?_
        refine wpAny_bind (wpAny_pure ?_)
        exact wpAny_pure (wpAny_pure ⟨_,rfl,hq _ _ ⟨x,_,rfl,g1,am1,cx1,_,l1,a1,r1,.str _ _,k⟩⟩)
end
section
variable {M:Model} {A:Around} {E:Value→Shared→Prop} {s:Shared} {f:Value} {first:List Value} {pos:Pos} {Q:Value→Shared→Prop}
theorem callWith_star {P:Heap→Prop} {args:List (Bool×Sem Value)} {keywords:List (Option Str×Sem Value)} (hstar:(args.any (·.1)||keywords.any (·.1.isNone))=true)
  (hk:∀ h,P h→∃ k,(k=Keeper.frame∨k=Keeper.machine∨k=Keeper.boundFrame)∧Looks M h (keeperOf f) k)
  (h:wpAny M A (evalArgs f true args keywords) (fun a s₁=>P s₁.heap∧wpAny M A (call f (first++a.pos) a.kw) Q E s₁) E s):wpAny M A (callWith pos f first args keywords) Q E s:=by
 unfold callWith
 refine wpAny_bind (wpAny_holding (wpAny_mono h (fun a s₁ h₁=>wpAny_bind (wpAny_standAt ?_)) fun _ _ x=>x))
 obtain ⟨k,hk',L⟩:=hk _ h₁.1
 simp only [hstar]
 refine wpAny_bind (L.here ?_)
 have tail:∀ {t:Sem Value},wpAny M A t Q E s₁→wpAny M A (t >>= fun r=>holding [r] point >>= fun _=>pure r) Q E s₁ :=
  fun ht=>wpAny_bind (wpAny_mono ht (fun r s₂ hr=>wpAny_bind (wpAny_holding (wpAny_point (wpAny_pure hr)))) fun _ _ x=>x)
 have marked (mk:Value):wpAny M A (callMarked mk f (first++a.pos) a.kw) Q E s₁:=by unfold callMarked; exact Calls.wpAny_keep h₁.2
 rcases hk' with rfl | rfl | rfl <;> dsimp only <;> first | exact tail (marked _) | exact tail (wpAny_operating h₁.2)
end
section
variable {c:Cst} {d u:Nat} {cx:Cx} {e:En} {pos:Pos}
theorem star_args {fx:Fx} {g:Heap} {am:Am} {L:Addr} {s:Shared} {x:Expr} {f:Value} {K:List SV→Cx→Prop} (R:Rep c fx g am L cx s) (h:Sp c d u (fun L=>eval x (e.env L)) VR cx fun v cx1=>∃ xs,v = .tup xs∧xs.length≤1000∧K xs cx1) {p:Pos} :
  wpAny c.M (Ar d u) (evalArgs f true (backTo pos (starEach [.Starred x p] (e.env L))) []) (Ends c fx g am L (fun g am xs a=>a.kw=[]∧VRs g am xs a.pos) K) No s:=by
 show wpAny c.M (Ar d u) (evalArgs f true [(true,eval x (e.env L) >>= fun v=>standAt pos >>= fun _=>pure v)] []) _ _ s
 unfold evalArgs
 dsimp only
 refine wpAny_bind (wpAny_bind (step (h fx g am L s R) fun v s1 g1 am1 cx1 w l1 a1 r1 q1 k1=>wpAny_bind (wpAny_standAt (wpAny_pure ?_))))
 refine hide fun Go jo=>?_
 obtain ⟨xs,rfl,k⟩:=k1
 refine jo ?_
 cases q1 using VR.tupE with
 | mk _ _ ho hv =>
  rename_i vs a
  have ht:=isTup_le r1.sub ho
  refine hide fun Go jo=>?_
  obtain ⟨o,e1,e2,n,e3⟩:=id ht
  refine jo ?_
  refine wpAny_bind (wpAny_pure ?_)
  refine wpAny_holding ?_
  dsimp only
  first | (with_reducible refine wp_pos ?_ ?_; · exact (by rfl)) | rw [if_pos (by rfl)]
  refine wpAny_bind (m:=evalAll _) (wpAny_pure ?_)
  refine wpAny_bind ?_
  refine wpAny_bind (m:=notIterableAtAll _) ?_
  unfold notIterableAtAll
  refine wpAny_bind (wpAny_specialOf ht.typeIs slot_tuple_iter.lookup (wpAny_pure ?_))
  first | (with_reducible refine wp_neg ?_ ?_; · exact (by decide)) | rw [if_neg (by decide)]
  refine wpAny_holding (wpAny_collect_seq a (.inr rfl) e1 e2 e3 (fun h' kk=>?_) ?_)
  ·refine wpAny_pure ⟨g1,am1,cx1,xs,l1,a1,r1.heap' (t:=s1.toks) (fun b o e=>kk b o (r1.sub b o e)) (fun b o e=>kk b o (r1.frm b o e)) (fun b hb=>by obtain ⟨o,e⟩:=r1.owned_there b hb; rw [e]; exact kk b o e),⟨rfl,by simpa using hv⟩,k.2⟩
  ·have:=hv.length
   rw [sizeLine_eq]
   simp
   have:=k.1
   lia
theorem o_net {a b x y:Str} {K:SV→Cx→Prop} (hu:u<9000) (h1:PyData.strOk a=true∧PyData.strOk b=true) (h2:PyData.strOk x=true∧PyData.strOk y=true) (h:K (.bool (!PyData.eqv (.tuple [.str a,.str b]) (.tuple [.str x,.str y]))) cx) :
  Sp2 c d u (fun v w=>compareOp .NotEq v w) VR (.tup [.str a,.str b]) (.tup [.str x,.str y]) cx K:=fun fx g am L s _ _ R q q'=>by
 have rd:∀ {a b:Str} {v:Value},VR g am (.tup [.str a,.str b]) v→Reads s.heap v (.tuple [.str a,.str b]) []:=fun q=>by
  cases q using VR.tupE with
  | mk _ _ ho hv=>cases hv using VRs.consE with
   | mk _ _ q1 hv=>cases hv using VRs.consE with
    | mk _ _ q2 hv =>
     cases hv using VRs.nilE; cases q1 using VR.strE; cases q2 using VR.strE
     obtain ⟨o,e1,e2,n,e3⟩:=isTup_le R.sub ho
     exact .tuple e1 e2 e3 (.cons (as:=[]) (bs:=[]) (.str _ _) (.cons (as:=[]) (bs:=[]) (.str _ _) .nil))
 have sh:∀ {a b:Str},PyData.strOk a=true∧PyData.strOk b=true→PySem.SeqAt.shaped (.tuple [.str a,.str b])=true:=fun h=>by
  unfold PySem.SeqAt.shaped
  simp only [PyData.canLay0,PyData.canLayAll0,h.1,h.2,Bool.and_true,Bool.true_and]
  rfl
 exact PySem.SeqAt.compareNe_shaped (rd q) (rd q') (sh h1) (sh h2) (by show u+64<9900; exact aS ‹_› rfl) (Ends.here R (.bool _) h)
end
structure BoundOk (c:Cst) (C:Addr) (name:Str) (f:Addr):Prop where
 ga:GaOk c C
 gn:findIn c.K (.ref C) "__getattr__" = some none
 dict:hasDictIn c.K C=true
 cls:findIn c.K (.ref C) name=some (some (.ref f))
 get:specialIn c.K (.ref f) "__get__" = some (some (.builtin "function.__get__"))
 takes:takesIn c.K (.ref f)=some false
 cop:copiedNames.contains name=false
 ty:typeIn c.K (.ref f)=some (.type "function")
 fn:fnIn c.K f=true
section
variable {c:Cst} {d u:Nat} {cx:Cx} {e:En} {pos:Pos}
theorem findObj_fn {K:Frag} {C f:Addr} {name:Str} {od:Obj} (hh:hasDictIn K C=true) (ha:findIn K (.ref C) name=some (some (.ref f))) (hn:specialIn K (.ref f) "__get__" = some (some (.builtin "function.__get__"))) (ht:takesIn K (.ref f)=some false) (hc:copiedNames.contains name=false) (hl:lookIn name od=some none) :
  findObj K C (some od) name=some (.bind (.builtin "function.__get__") (.ref f)):=by
 obtain ⟨cd,hc',hd⟩:=any_some hh
 unfold findObj
 have ho:W.ownOf cd (some od) name=some none:=by unfold W.ownOf; rw [if_pos hd]; exact hl
 rw [hc',Option.bind_some,ha,Option.bind_some]
 simp [hn,ht,ho]
 exact fun q=>absurd q (by simpa using hc)
theorem sp_boundStar {o x:Expr} {name:Str} {apos p:Pos} {K:SV→Cx→Prop}
  (h:Sp c d u (fun L=>eval o (e.env L)) VR cx fun y cx1=>∃ i so C fs f,y = .ref i∧cx1.obj.lookup i=some so∧so.fields? = some (C,fs)∧BoundOk c C name f∧fs.lookup name=none∧Sp c d u (fun L=>eval x (e.env L)) VR cx1 fun v cx3=>∃ xs,v = .tup xs∧xs.length≤1000∧SpKc c d u (.ref f) (.ref i :: xs) [] cx3 K)
  (he:∀ L,eval (.Call (.Attribute o name apos) [.Starred x p] [] pos) (e.env L)=(do
   let ov ← eval o (e.env L)
   standAt apos.atName
   let f ← holding [ov] (do pure (← getAttr ov name true,([]:List Value)))
   callWith pos f.1 f.2 (backTo pos (starEach [.Starred x p] (e.env L))) []):=by intro L; rfl) :
  Sp c d u (fun L=>eval (.Call (.Attribute o name apos) [.Starred x p] [] pos) (e.env L)) VR cx K:=fun fx g am L s R=>by
 dsimp only
 rw [he L]
 refine wpAny_bind (step (h fx g am L s R) fun v s1 g1 am1 cx1 w l1 a1 r1 q1 k1=>wpAny_bind (wpAny_standAt (wpAny_bind (wpAny_holding (wpAny_bind ?_)))))
 refine hide fun Go jo=>?_
 obtain ⟨i,so,C,fs,f,rfl,hi,hf,B,hl,k⟩:=k1
 have q1':=q1
 obtain ⟨a,dx,ox,es,n,rfl,ea,hm,lay,ho,hd,I,hdx,fr⟩:=r1.fld hi hf q1
 refine jo ?_
 have X:=r1.top.X.keeps r1.sub
 refine get_bindG X I B.ga (findObj_fn B.dict B.cls B.get B.takes B.cop (by rw [lookIn_dict,fr.getL_none hl])) B.gn ?_
 refine wpAny_call (fn_get (s:={ s1 with toks:=s1.toks+1 }) X B.ty ?_)
 refine handed_on rfl (wpAny_pure ?_)
 have r2:=r1.push (methodObj (.ref f) (.ref a)) (t:=s1.toks+1)
 refine hide fun Go jo=>?_
 obtain ⟨g2,l2,eq2,r2⟩:=r1.pushF (o:=methodObj (.ref f) (.ref a)) rfl (t:=s1.toks+1)
 refine jo ?_
 refine wup (l1.trans l2) a1 (callWith_star (P:=MethP c.K s1.heap.objs.size f (.ref a)) rfl (fun h X=>keeps_M B.fn h X) ?_)
 refine step (star_args (pos:=pos) (f:=.ref s1.heap.objs.size) (p:=p) (K:=fun xs cx3=>SpKc c d u (.ref f) (.ref i :: xs) [] cx3 K) r2 k) fun ar s3 g3 am3 cx3 ys l3 a3 r3 q3 k3=>?_
 refine ⟨⟨r3.sub _ _ (l3 _ _ eq2),r3.top.X.keeps r3.sub⟩,?_⟩
 rw [q3.1]
 refine wpAny_call (method_call (r3.sub _ _ (l3 _ _ eq2)) ?_)
 have z:=k3 fx g3 am3 L s3 (.ref a :: ([]++ar.pos)) [] r3 (.cons ((q1'.mono l2 (.refl _)).mono l3 a3) q3.2) .nil
 refine codeAny_mono z fun res s' hq=>?_
 rcases res with e | (v | _ | _ | _) <;> first | exact hq.up l3 a3 | exact hq.elim
end
section
variable {c:Cst} {fx:Fx} {g:Heap} {am:Am} {L:Addr} {cx:Cx} {s:Shared}
noncomputable def asideC (fx:Fx) (g h:Heap) (L:Addr):Fx:=⟨only h fun b=>(fx.fh.get? b).isSome||b==L,g,fx.N⟩
theorem Rep.inC (r:Rep c fx g am L cx s) {h₁:Heap} {t:Nat} {m:Str→Option Value} (hns:h₁.Ns s.heap.objs.size m) (hle:Le s.heap h₁) :
  Rep c (asideC fx g s.heap L) g am s.heap.objs.size ⟨[],cx.obj,cx.nx,cx.fr⟩ { s with heap:=h₁,toks:=t }:=by
 have nd:=List.nodup_cons.mp r.nd
 refine ⟨r.sub.trans hle,r.top,⟨m,hns,fun x sv e=>nomatch e⟩,fun p hp=>?_,?_,r.idnd,fun b hb=>?_,r.lo,r.nx,r.free,fun b o e=>hle _ _ (of_only e).1,fun b hb=>?_,fun b o e=>.inl e,r.hiN,Nat.le_trans r.szN (Nat.le_of_lt hns.lt),r.gens,r.os,fun b _ o e=>e,r.szN⟩
 ·obtain ⟨as,a,l⟩:=r.lay p hp
  exact ⟨as,a,l.keep (.refl _) (.refl _) fun b hb=>by obtain ⟨o,e⟩:=l.there b hb; exact (hle _ _ e).trans e.symm⟩
 ·exact List.nodup_cons.mpr ⟨fun hb=>Nat.lt_irrefl _ (r.owned_lt _ (.tail _ hb)),nd.2⟩
 ·rcases List.mem_cons.mp hb with rfl | hb
  ·exact r.fresh_out
  ·exact r.out b (.tail _ hb)
 ·rcases List.mem_cons.mp hb with rfl | hb
  ·cases e:(asideC fx g s.heap L).fh.get? s.heap.objs.size with
   | none=>rfl
   | some o=>exact absurd (Heap.lt_size (of_only e).1) (Nat.lt_irrefl _)
  ·refine only_no ?_
   have h1:=r.frout b (.tail _ hb)
   have h2:b≠L:=fun q=>nd.1 (q▸hb)
   simp [h1,h2]
theorem asideC_fr (r:Rep c fx g am L cx s) {b:Addr} {o:Obj} (e:fx.fh.get? b=some o):(asideC fx g s.heap L).fh.get? b=some o:=only_yes (r.frm b o e) (by rw [e]; rfl)
theorem Rep.outC (r:Rep c fx g am L cx s) {g':Heap} {am':Am} {C:Addr} {cx':Cx} {s':Shared} (hg:Le g g') (ha:AmLe am am') (r':Rep c (asideC fx g s.heap L) g' am' C cx' s') :
  Rep c fx g' am' L ⟨cx.loc,cx'.obj,cx'.nx,cx'.fr⟩ s'∧Apart fx g' am' L ⟨cx.loc,cx'.obj,cx'.nx,cx'.fr⟩ [C]:=by
 refine hide fun Go jo=>?_
 obtain ⟨m,hn,hl⟩:=r.fr
 obtain ⟨oL,eL⟩:=r.owned_there L (.head _)
 refine jo ?_
 have fhL:(asideC fx g s.heap L).fh.get? L=some oL:=only_yes eL (by simp)
 have nd':=List.nodup_cons.mp r'.nd
 have Lno:L∉C :: owned am' cx'.obj:=fun hb=>by have:=r'.frout L hb; rw [fhL] at this; cases this
 have fxo:∀ b∈C :: owned am' cx'.obj,fx.fh.get? b=none:=fun b hb=>by
  cases q:fx.fh.get? b with
  | none=>rfl
  | some o=>have:=r'.frout b hb; rw [asideC_fr r q] at this; cases this
 have gL:g'.get? L=none:=by
  cases z:g'.get? L with
  | none=>rfl
  | some o=>have:=r'.frg L (by rw [fhL]; rfl) o z; rw [show (asideC fx g s.heap L).g0=g from rfl,r.out L (.head _)] at this; cases this
 refine ⟨⟨r'.sub,r'.top,⟨m,?_,fun x sv e=>let ⟨v,a,b⟩:=hl x sv e; ⟨v,a,b.mono hg ha⟩⟩,r'.lay,List.nodup_cons.mpr ⟨fun h=>Lno (.tail _ h),nd'.2⟩,r'.idnd,fun b hb=>?_,r'.lo,r'.nx,r'.free,fun b o e=>r'.frm b o (asideC_fr r e),fun b hb=>?_,fun b o e=>(r'.new b o e).elim (fun q=>r.new b o q) .inr,r'.hiN,r'.szN,r'.gens,r'.os,fun b hb o e=>?_,r.NL⟩,fun b hb=>?_⟩
 ·refine hide fun Go jo=>?_
  obtain ⟨o,es,ep,e,q⟩:=hn
  refine jo ?_
  rw [eL] at e; cases e
  exact ⟨oL,es,ep,r'.frm L oL fhL,q⟩
 ·rcases List.mem_cons.mp hb with rfl | hb
  ·exact gL
  ·exact r'.out b (.tail _ hb)
 ·rcases List.mem_cons.mp hb with rfl | hb
  ·exact r.frout b (.head _)
  ·exact fxo b (.tail _ hb)
 ·cases q:fx.fh.get? b with
  | none=>rw [q] at hb; cases hb
  | some o'=>exact r.frg b hb o (r'.frg b (by rw [asideC_fr r q]; rfl) o e)
 ·simp at hb; subst hb
  refine ⟨fun h=>?_,r'.out b (.head _),fxo b (.head _)⟩
  rcases List.mem_cons.mp h with rfl | h
  ·exact Lno (.head _)
  ·exact nd'.1 h
theorem It.self {it:Addr} {as:List Addr} {xs:List SV} {A:Around} {Q:Value→Shared→Prop} {E:Value→Shared→Prop} (hA:A.handled=none) (i:It c g s.heap am it as xs) (h:Q (.ref it) s):wpAny c.M A (pyIter (.ref it)) Q E s:=by
 refine hide fun Go jo=>?_
 obtain ⟨fp,n,P,St,i,a,b,e⟩:=i
 refine jo ?_
 exact (a A hA).self i s Q E b h
end
theorem compStart_any {c:Cst} {A:Around} {R:Result→Shared→Prop} {s:Shared} {elt:Expr} {gens:List Comprehension} {scope:Scope} {pos:Pos} {depth:Nat} {it acc:Value} {env:Env} {gc:Comprehension} (hg:(clausesOf (.ListComp elt gens scope pos))[depth]? = some gc) (hc:gc.is_async=0)
  (h0:codeAny c.M A (.compLoop (.ListComp elt gens scope pos) depth it acc env) R s)
  (h:∀ E,wpAny c.M A (pyIter it) (fun it' s'=>codeAny c.M A (.compLoop (.ListComp elt gens scope pos) depth it' acc env) R s') E s) :
  codeAny c.M A (.compStart (.ListComp elt gens scope pos) depth it acc env) R s:=by
 refine codeAny_of_tree ?_
 show wpAny _ _ ((compStart (.ListComp elt gens scope pos) depth it acc env).onRaise (fun x=>do noteFrame x env; standAt theWindowsPlace)) _ _ s
 refine wpAny_notedAt ?_
 unfold compStart
 rw [hg]
 have h1:(Option.elim (some gc) false fun x=>x.is_async != 0)=false:=by simp [hc]
 rw [h1]
 refine wpAny_bind (wpAny_askSetting (wpAny_ite ?_))
 split
 ·first
   | exact wpAny_bind (wpAny_pure (wpAny_pure (And.intro rfl h0)))
   | exact wpAny_pure (And.intro rfl h0)
 ·first
   | exact wpAny_bind (wpAny_rule (wpAny_bind (wpAny_standAt (wpAny_bind (wpAny_mono (h _) (fun it' s' h'=>wpAny_pure (And.intro rfl h')) fun _ _ x=>x)))))
   | (refine wpAny_bind (wpAny_rule ?_); show wpAny _ _ (standAt gc.iter.pos >>= _) _ _ s; exact wpAny_bind (wpAny_standAt (wpAny_bind (wpAny_mono (h _) (fun it' s' h'=>wpAny_pure (And.intro rfl h')) fun _ _ x=>x))))
section
variable {c:Cst} {d u:Nat} {ec:En} {cx:Cx} {k:Nat}
noncomputable abbrev TB:=Value→Env→Sem Fin→Sem Fin
noncomputable def SpCl (c:Cst) (d u:Nat) (ec:En) (e:Expr) (depth k:Nat) (xs:List SV) (cx:Cx) (K:Cx→Prop):Prop :=
 ∀ fx g am C s it acc,Rep c fx g am C cx s→It c g s.heap am it [it] xs→Apart fx g am C cx [it]→VR g am (.ref k) acc →
  codeAny c.M (Ar d u) (.compLoop e depth (.ref it) acc (ec.env C)) (fun r s'=>match r with | .ok _=>Ends c fx g am C UR (fun (_:Unit)=>K) () s' | .error _=>False) s
noncomputable def SpB (c:Cst) (d u:Nat) (ec:En) (tb:TB) (k:Nat) (cx:Cx) (K:Cx→Prop):Prop :=
 ∀ fx g am C s acc kk Q,Rep c fx g am C cx s→VR g am (.ref k) acc→(∀ s',Ends c fx g am C UR (fun (_:Unit)=>K) () s'→wpAny c.M (Ar d u) kk Q No s')→wpAny c.M (Ar d u) (tb acc (ec.env C) kk) Q No s
noncomputable def TurnIs (e:Expr) (depth:Nat) (tgt:Expr) (p:Pos) (tb:TB):Prop:=∀ it acc env,compTurn e depth it acc env=(standAt p >>= fun _=>pyNext it >>= fun r=>match r with
 | none=>pure (.done .next)
 | some v=>letOwnedTupleGo tgt it v >>= fun _=>assign tgt env v >>= fun _=>tb acc env (again (.compLoop e depth it acc env)))
theorem cl_loop {elt:Expr} {gens:List Comprehension} {scope:Scope} {pos:Pos} {depth:Nat} {tgt:Expr} {p:Pos} {tb:TB} (hturn:TurnIs (.ListComp elt gens scope pos) depth tgt p tb) (I:List SV→Cx→Prop)
  (turn:∀ x xs cx,I (x :: xs) cx→SpA c d u ec tgt x cx fun cx1=>SpB c d u ec tb k cx1 (I xs)) {xs:List SV} (hI:I xs cx):SpCl c d u ec (.ListComp elt gens scope pos) depth k xs cx (I []):=by
 intro fx g am C s it acc r i ap q
 refine codeAny_loop rfl (ForI c fx g am C it I) (fun n s hI=>?_) xs.length ⟨g,am,cx,xs,rfl,.refl _,.refl _,r,i,ap,hI⟩
 refine hide fun Go jo=>?_
 obtain ⟨g',am',cx',xs',rfl,l,a,r,i,ap,hI⟩:=hI
 refine jo ?_
 show wpAny _ (Ar d u) ((compTurn (.ListComp elt gens scope pos) depth (.ref it) acc (ec.env C)).onRaise (fun x=>do noteFrame x (ec.env C); theTreesLotGoes x)) _ _ s
 refine wpAny_noted ?_
 rw [hturn]
 refine wpAny_bind (wpAny_standAt (wpAny_bind ?_))
 cases xs' with
 | nil=>exact it_done rfl r i ap fun s1 r1=>wpAny_pure ⟨g',am',cx',(),l,a,r1,trivial,hI⟩
 | cons x xs' =>
  refine it_item rfl r i ap fun v s1 qv r1 i1 hm=>wpAny_bind (go_harm hm (wpAny_bind ?_))
  have there:∀ b∈[it],∃ o,s1.heap.get? b=some o:=by obtain ⟨o,_,ho,_⟩:=hm; intro b hb; simp at hb; subst hb; exact ⟨o,ho⟩
  refine step (turn x xs' cx' hI _ g' am' C s1 v (r1.aside ap) qv) fun _ s2 g2 am2 cx2 _ l2 a2 r2 _ k2=>?_
  refine wpAny_mono (k2 _ g2 am2 C s2 acc _ _ r2 (q.mono (l.trans l2) (a.trans a2)) fun s3 e3=>wpAny_pure (And.intro rfl ?_)) (fun _ _ h=>h) fun _ _ h=>h.elim
  refine hide fun Go jo=>?_
  obtain ⟨g3,am3,cx3,_,l3,a3,r3,_,k3⟩:=e3
  obtain ⟨i3,ap3,_⟩:=r1.still ap (l2.trans l3) (a2.trans a3) i1 there r3
  refine jo ?_
  exact ⟨xs'.length,Nat.lt_succ_self _,g3,am3,cx3,xs',rfl,l.trans (l2.trans l3),a.trans (a2.trans a3),r1.unaside r3,i3,ap3,k3⟩
noncomputable def emitB (elt:Expr):TB:=fun acc env kk=>(eval elt env >>= fun x=>call (.builtin "list.append") [acc,x] >>= fun _=>pure ()) >>= fun _=>kk
theorem b_emit {elt:Expr} {K:Cx→Prop} (h:Sp c d u (fun C=>eval elt (ec.env C)) VR cx fun v cx1=>∃ ys,cx1.obj.lookup k=some (.list ys)∧ys.length≤1000000∧K (cx1.set k (.list (ys++[v])))):SpB c d u ec (emitB elt) k cx K:=fun fx g am C s acc kk Q r q hk=>by
 refine wpAny_bind (wpAny_bind (step (h fx g am C s r) fun v s1 g1 am1 cx1 w l1 a1 r1 q1 k1=>?_))
 refine hide fun Go jo=>?_
 obtain ⟨ys,hy,hz,k1⟩:=k1
 refine jo ?_
 refine wpAny_bind (step (c_append (K:=fun v cx=>v = .none∧K cx) hy hz ⟨rfl,k1⟩ fx g1 am1 C s1 [acc,v] r1 (.cons (q.mono l1 a1) (.cons q1 .nil))) fun _ s2 g2 am2 cx2 _ l2 a2 r2 _ k2=>wpAny_pure (hk s2 ⟨g2,am2,cx2,(),l1.trans l2,a1.trans a2,r2,trivial,k2.2⟩))
noncomputable def ifB (test elt:Expr):TB:=fun acc env kk=>(forIn [test] true fun c r=>if r=true then do let ok ← isTrue c env (eval c env); pure (ForInStep.yield ok) else pure (ForInStep.yield r)) >>= fun ok=>if ok=true then emitB elt acc env kk else kk
theorem b_if {test elt:Expr} {K:Cx→Prop} (h:SpT c d u ec test cx fun b cx1=>if b=true then SpB c d u ec (emitB elt) k cx1 K else K cx1):SpB c d u ec (ifB test elt) k cx K:=fun fx g am C s acc kk Q r q hk=>by
 refine wpAny_bind (wpAny_tests_one (step (h fx g am C s r) fun b s1 g1 am1 cx1 w l1 a1 r1 q1 k1=>?_))
 cases q1
 cases b with
 | true=>exact (iteT k1) fx g1 am1 C s1 acc kk Q r1 (q.mono l1 a1) fun s2 e=>hk s2 (e.up l1 a1)
 | false=>exact hk s1 ⟨g1,am1,cx1,(),l1,a1,r1,trivial,iteF k1⟩
noncomputable def forB (e:Expr) (iter:Expr):TB:=fun acc env kk=>eval iter env >>= fun x=>standAt iter.pos >>= fun _=>foldedSetIterable iter env x >>= fun x=>holding [x] (pyIter x) >>= fun it=>runOwn (.compStart e 1 it acc env) env >>= fun _=>kk
theorem b_for {elt:Expr} {gens:List Comprehension} {scope:Scope} {pos:Pos} {iter:Expr} {gc:Comprehension} {K:Cx→Prop} (hg:(clausesOf (.ListComp elt gens scope pos))[1]? = some gc) (hc:gc.is_async=0) (hs:∀ C x,foldedSetIterable iter (ec.env C) x=pure x) (h:SpIter c d u ec iter cx fun xs cx1=>SpCl c d u ec (.ListComp elt gens scope pos) 1 k xs cx1 K):SpB c d u ec (forB (.ListComp elt gens scope pos) iter) k cx K:=fun fx g am C s acc kk Q r q hk=>by
 refine wpAny_bind (wpAny_mono (h fx g am C s r) (fun v s1 h1=>?_) fun _ _ x=>x.elim)
 refine wpAny_bind (wpAny_standAt (wpAny_bind (wpAny_of_eq (hs C v) (wpAny_bind (wpAny_holding (wpAny_mono h1 (fun w s2 h2=>?_) fun _ _ x=>x.elim))))))
 refine hide fun Go jo=>?_
 obtain ⟨g',am',cx',it,xs,rfl,l,a,r,i,ap,hI⟩:=h2
 refine jo ?_
 have z:=hI fx g' am' C s2 it acc r i ap (q.mono l a)
 refine wpAny_bind (wpAny_runOwn ?_)
 refine codeAny_mono (compStart_any hg hc z fun E=>i.self rfl z) fun r s' h=>?_
 cases r with
 | ok f=>exact hk s' (h.up l a)
 | error _=>exact h.elim
theorem turn1 (elt tgt iter:Expr) (scope:Scope) (pos:Pos):TurnIs (.ListComp elt [⟨tgt,iter,[],0⟩] scope pos) 0 tgt iter.pos (emitB elt):=fun it acc env=>compTurn_list1 ..
theorem turn2a (elt t1 i1 t2 i2 c2:Expr) (scope:Scope) (pos:Pos):TurnIs (.ListComp elt [⟨t1,i1,[],0⟩,⟨t2,i2,[c2],0⟩] scope pos) 0 t1 i1.pos (forB (.ListComp elt [⟨t1,i1,[],0⟩,⟨t2,i2,[c2],0⟩] scope pos) i2):=fun it acc env=>rfl
theorem turn2b (elt t1 i1 t2 i2 c2:Expr) (scope:Scope) (pos:Pos):TurnIs (.ListComp elt [⟨t1,i1,[],0⟩,⟨t2,i2,[c2],0⟩] scope pos) 1 t2 i2.pos (ifB c2 elt):=fun it acc env=>rfl
end
section
variable {c:Cst} {d u:Nat} {e:En} {cx:Cx}
noncomputable abbrev cEn (e:En) (scope:Scope) (cl:List (Str×Addr)) (L:Addr):En:=⟨e.qual,relabel scope (e.env L),none,e.cd,fun _=>cl,fun _=>e.fr L⟩
noncomputable def okScope (sc:Scope):Bool:=sc.kind == .function&&sc.names.all fun x=>x.2 != .cell&&(x.2 != .local||sc.names.lookup x.1==some .local)
noncomputable abbrev Cx.inC (cx:Cx):Cx:=⟨[],(cx.nx,.list []) :: cx.obj,cx.nx+1,cx.fr⟩
noncomputable abbrev Cx.outC (cx cx2:Cx) (i:Nat):Cx:=⟨cx.loc,(cx2.drop i).obj,cx2.nx,cx2.fr⟩
theorem comp_core {elt tgt iter:Expr} {ifs:List Expr} {gs:List Comprehension} {scope:Scope} {pos:Pos} {cl:List (Str×Addr)} {I:List SV→Cx→Prop} {K:SV→Cx→Prop}
  (hcl:∀ L,closureFor scope (e.env L)=pure cl) (hs:∀ L x,foldedSetIterable iter (e.env L) x=pure x) (ok:okScope scope=true) (h:SpIter c d u e iter cx I)
  (body:∀ L xs cx1,I xs cx1→SpCl c d u (cEn e scope cl L) (.ListComp elt (⟨tgt,iter,ifs,0⟩ :: gs) scope pos) 0 cx1.nx xs cx1.inC fun cx2=>∃ ys,cx2.obj.lookup cx1.nx=some (.list ys)∧K (.fl ys) (cx1.outC cx2 cx1.nx))
  {use:Option (Value→Sem Unit)} {fx:Fx} {g:Heap} {am:Am} {L:Addr} {s:Shared} {Q:Value→Shared→Prop} (R:Rep c fx g am L cx s)
  (hu:∀ g1 am1 cx1 s1 v sv C m,Le g g1→AmLe am am1→Rep c fx g1 am1 L cx1 s1→VR g1 am1 sv v→K sv cx1→Apart fx g1 am1 L cx1 [C]→s1.heap.Ns C m→match use with
   | none=>∀ h',Heap.SameBut C s1.heap h'→Q v { s1 with heap:=h' }
   | some us=>wpAny c.M (Ar d u) (us v) (fun _ s2=>∃ m,s2.heap.Ns C m∧∀ h',Heap.SameBut C s2.heap h'→Q .none { s2 with heap:=h' }) No s1) :
  wpAny c.M (Ar d u) (comprehension (.ListComp elt (⟨tgt,iter,ifs,0⟩ :: gs) scope pos) scope (e.env L) (firstIterPos (⟨tgt,iter,ifs,0⟩ :: gs) pos) (newList []) false (eval iter (e.env L)) use) Q No s:=by
 unfold okScope at ok
 simp only [Bool.and_eq_true,List.all_eq_true,beq_iff_eq,bne_iff_ne,Bool.or_eq_true] at ok
 obtain ⟨hk,hn⟩:=ok
 refine wpAny_comprehension_free (cl:=cl) rfl (hs L) (hcl L) hk (fun x hx hl=>((hn x hx).2.resolve_left fun q=>q hl)) ?_
 refine wpAny_mono (h fx g am L s R) (fun v s1 h1=>wpAny_mono h1 (fun w s2 h2=>?_) fun _ _ x=>x) fun _ _ x=>x
 refine hide fun Go jo=>?_
 obtain ⟨g',am',cx',it,xs,rfl,l,a,r,i,ap,hI⟩:=h2
 refine jo ?_
 refine wpAny_newObj_type ?_ (by show (0:Nat)≤_; exact Nat.zero_le _)
 have nn:=r.nx _ (Nat.le_refl cx'.nx)
 have r3:=r.alloc (o:={ cls:=.type "list",data:=.seq ([]:List Value).toArray }) (so:=.list []) (t:=s2.toks) ⟨_,[],rfl,⟨_,Heap.get?_push_size _ rfl⟩,.nil⟩
 have a3:AmLe am' (am'.set cx'.nx [s2.heap.objs.size]):=Am.set_le _ _ nn
 refine wpAny_newFunctionEnv (fun x hx=>(hn x hx).1) (by intro y hy; simp at hy) (fun h₁ hns hsb=>?_) hk
 dsimp only at hns hsb ⊢
 have hle:Le (s2.heap.push { cls:=.type "list",data:=.seq ([]:List Value).toArray }) h₁:=fun b o e=>hsb.extBut b o (Nat.ne_of_lt (Heap.lt_size e)) (Heap.get?_push_of_some _ e)
 have r4:=r3.inC (t:=s2.toks+([]:List (Str×Value)).length) hns hle
 have there:∀ b∈[it],∃ o,s2.heap.get? b=some o:=by
  obtain ⟨fp,n,P,St,j,W,st,e,f,q,hm⟩:=i
  obtain ⟨o,T,ho,_⟩:=hm _ _ st
  intro b hb; simp at hb; subst hb; exact ⟨o,ho⟩
 have i4:=(i.keep (h':=h₁) r.sub r4.sub (fun b hb o e=>hle b o (Heap.get?_push_of_some _ e))).mono (.refl _) a3
 have ap4:Apart (asideC fx g' (s2.heap.push { cls:=.type "list",data:=.seq ([]:List Value).toArray }) L) g' (am'.set cx'.nx [s2.heap.objs.size]) (s2.heap.push { cls:=.type "list",data:=.seq ([]:List Value).toArray }).objs.size cx'.inC [it]:=fun b hb=>by
  obtain ⟨o,ho⟩:=there b hb
  obtain ⟨h1,h2,h3⟩:=ap b hb
  have lt:=Heap.lt_size ho
  have neL:b≠L:=fun q=>h1 (q▸.head _)
  refine ⟨fun hm=>?_,h2,only_no (by simp [h3,neL])⟩
  rcases List.mem_cons.mp hm with rfl | hm
  ·rw [push_size] at lt; exact Nat.lt_irrefl _ (Nat.lt_of_succ_lt lt)
  ·have:b∈owned (am'.set cx'.nx [s2.heap.objs.size]) ((cx'.nx,.list []) :: cx'.obj):=hm
   obtain ⟨p,hp,as,ep,hb2⟩:=mem_owned.mp this
   rcases List.mem_cons.mp hp with rfl | hp
   ·rw [Am.set_self] at ep; cases ep; simp at hb2; subst hb2; exact Nat.lt_irrefl _ lt
   ·rw [Am.set_ne _ _ (Nat.ne_of_lt (r.id_lt p hp))] at ep
    exact h1 (.tail _ (mem_owned.mpr ⟨p,hp,as,ep,hb2⟩))
 have z:=body L xs cx' hI _ g' (am'.set cx'.nx [s2.heap.objs.size]) _ _ it (.ref s2.heap.objs.size) r4 i4 ap4 (.ref (Am.at_set ..))
 refine codeAny_mono (compStart_any rfl rfl z fun E=>i4.self rfl z) fun rs s' hz=>?_
 cases rs with
 | error _=>exact hz.elim
 | ok f =>
  refine hide fun Go jo=>?_
  obtain ⟨g5,am5,cx5,_,l5,a5,r5,_,ys,hy,k5⟩:=hz
  have ⟨m5,n5,_⟩:=r5.fr
  obtain ⟨r6,ap6⟩:=r3.outC l5 a5 r5
  have q6:VR g5 am5 (.ref cx'.nx) (.ref s2.heap.objs.size):=.ref (a5 _ _ (Am.at_set ..))
  obtain ⟨g7,l7,r7',q7⟩:=(r6.aside ap6).fz (i:=cx'.nx) r.lo hy q6
  refine jo ?_
  have r7:=r6.unaside r7'
  have ap7:Apart fx g7 am5 L (cx'.outC cx5 cx'.nx) [(s2.heap.push { cls:=.type "list",data:=.seq ([]:List Value).toArray }).objs.size]:=fun b hb=>by
   obtain ⟨h1,h2,h3⟩:=ap6 b hb
   refine ⟨fun hm=>h1 ?_,?_,h3⟩
   ·rcases List.mem_cons.mp hm with rfl | hm
    ·exact .head _
    ·exact .tail _ ((owned_sublist (drop_sub cx5 cx'.nx)).subset hm)
   ·have hb:=List.mem_singleton.mp hb; subst hb
    obtain ⟨oC,_,_,eC,_⟩:=n5
    cases e7:g7.get? (s2.heap.push { cls:=.type "list",data:=.seq ([]:List Value).toArray }).objs.size with
    | none=>rfl
    | some o7 =>
     have:=r7'.frg _ (by rw [show (aside fx g5 s'.heap [_]).fh.get? _=some oC from only_yes eC (by simp)]; rfl) o7 e7
     rw [show (aside fx g5 s'.heap [(s2.heap.push { cls:=.type "list",data:=.seq ([]:List Value).toArray }).objs.size]).g0=g5 from rfl,h2] at this; cases this
  have hu':=hu g7 am5 _ s' _ _ _ m5 ((l.trans l5).trans l7) ((a.trans a3).trans a5) r7 q7 k5 ap7 n5
  cases use with
  | none=>exact ⟨m5,n5,hu'⟩
  | some us=>exact hu'
theorem sp_comp {elt tgt iter:Expr} {ifs:List Expr} {gs:List Comprehension} {scope:Scope} {pos:Pos} {cl:List (Str×Addr)} {I:List SV→Cx→Prop} {K:SV→Cx→Prop}
  (h:SpIter c d u e iter cx I)
  (body:∀ L xs cx1,I xs cx1→SpCl c d u (cEn e scope cl L) (.ListComp elt (⟨tgt,iter,ifs,0⟩ :: gs) scope pos) 0 cx1.nx xs cx1.inC fun cx2=>∃ ys,cx2.obj.lookup cx1.nx=some (.list ys)∧K (.fl ys) (cx1.outC cx2 cx1.nx))
  (hcl:∀ L,closureFor scope (e.env L)=pure cl:=by intro L; with_unfolding_all rfl) (hs:∀ L x,foldedSetIterable iter (e.env L) x=pure x:=by intros; rfl) (ok:okScope scope=true:=by with_unfolding_all rfl) :
  Sp c d u (fun L=>eval (.ListComp elt (⟨tgt,iter,ifs,0⟩ :: gs) scope pos) (e.env L)) VR cx K:=fun fx g am L s R=>by
 show wpAny _ _ (eval _ _) _ _ _
 rw [eval_ListComp]
 exact comp_core hcl hs ok h body (use:=none) R fun g1 am1 cx1 s1 v sv C m l a r q k ap n h' hs=>⟨g1,am1,cx1,sv,l,a,r.apart (t:=s1.toks) ap fun b o hb e=>hs.extBut b o (fun z=>hb (by simp [z])) e,q,k⟩
theorem ss_comp {x:Str} {p spos:Pos} {elt tgt iter:Expr} {ifs:List Expr} {gs:List Comprehension} {scope:Scope} {pos:Pos} {cl:List (Str×Addr)} {I:List SV→Cx→Prop} {K:Fl→Cx→Prop}
  (h:SpIter c d u e iter cx I)
  (body:∀ L xs cx1,I xs cx1→SpCl c d u (cEn e scope cl L) (.ListComp elt (⟨tgt,iter,ifs,0⟩ :: gs) scope pos) 0 cx1.nx xs cx1.inC fun cx2=>∃ ys,cx2.obj.lookup cx1.nx=some (.list ys)∧K .next ((cx1.outC cx2 cx1.nx).put x (.fl ys)))
  (hcl:∀ L,closureFor scope (e.env L)=pure cl:=by intro L; with_unfolding_all rfl) (hs:∀ L x,foldedSetIterable iter (e.env L) x=pure x:=by intros; rfl) (ok:okScope scope=true:=by with_unfolding_all rfl)
  (hsw:∀ L,swapsWith (.ListComp elt (⟨tgt,iter,ifs,0⟩ :: gs) scope pos) (some (.Name x p)) spos.line (e.env L)=pure true:=by intro L; with_unfolding_all rfl) (hk:e.scope.kind = .function:=by rfl) (hl:e.scope.names.lookup x=some .local:=by rfl) :
  SpS c d u e (.Assign [.Name x p] (.ListComp elt (⟨tgt,iter,ifs,0⟩ :: gs) scope pos) spos) cx K:=fun fx g am L s R=>by
 show wpAny _ _ (exec _ _) _ _ _
 rw [exec_Assign_Name_used _ _ _ _ (hsw L)]
 refine wpAny_bind (wpAny_standAt (wpAny_bind (wpAny_bind ?_)))
 refine comp_core (K:=fun v cx=>K .next (cx.put x v)) hcl hs ok h body (use:=some (assign (.Name x p) (e.env L))) R fun g1 am1 cx1 s1 v sv C m l a r q k ap n=>?_
 refine wpAny_assign_Name ?_
 obtain ⟨mm,hm,hv⟩:=r.fr
 have neL:C≠L:=fun z=>(ap C (by simp)).1 (z▸.head _)
 refine wpAny_storeName_local hl hm (fun h' hn hsb=>?_) (by show (e.scope.kind == .class||(e.scope.kind == .module&&_))=false; rw [hk]; rfl)
 have r1:=r.store (t:=s1.toks+1) hv q hn hsb
 refine ⟨m,n.sameBut hsb neL,fun h2 hs2=>wpAny_pure (wpAny_pure ⟨g1,am1,_,.next,l,a,r1.apart (t:=s1.toks+1) (as:=[C]) ap fun b o hb e=>hs2.extBut b o (fun z=>hb (by simp [z])) e,.next,k⟩)⟩
end
noncomputable abbrev Df:=Arguments×List Stmt×Scope
noncomputable def defAt:List Str→List Stmt→Option Df
 | [],_=>none
 | [n],ss=>ss.findSome? fun s=>match s with
  | .FunctionDef m a b _ _ _ sc _ _ _=>if m=n then some (a,b,sc) else none
  | _=>none
 | k :: r,ss=>ss.findSome? fun s=>match s with
  | .ClassDef m _ _ b _ _ _ _ _ _ _=>if m=k then defAt r b else none
  | _=>none
noncomputable abbrev prg:List Stmt:=PySem.Challenge.pw_mr0372_01.main.body
noncomputable abbrev fdOf (name qual:Str) (dd:Df) (dV doc pm:Value) (an:Option Addr) (cd:Addr) (ct:Value) (cl:List (Str×Addr)):FuncData :=
 { name,qualname:=qual,params:=dd.1,body:=.stmts dd.2.1,scope:=dd.2.2,globals:=mainGlobals,closure:=cl,defaults:=dV,kwdefaults:=.none,doc,pyModule:=pm,annotations:=an,code:=.ref cd,closureTuple:=ct,builtins:=builtinsNs }
noncomputable def FnK (c:Cst) (f:Addr) (dd:Df) (name qual:Str) (dV:Value) (cd:Addr) (cl:List (Str×Addr)):Prop :=
 codeIn c.K (.ref cd) qual=true∧∃ oc od sl doc pm an ct,c.K.lookup f=some ⟨oc,od,.func (fdOf name qual dd dV doc pm an cd ct cl),sl⟩
noncomputable abbrev enOf (f:Addr) (dd:Df) (qual:Str) (cd:Addr) (cl:List (Str×Addr)):En:=En.fn qual dd.2.2 f (.ref cd) (fun _=>cl)
noncomputable def plainDf (dd:Df):Bool:=dd.2.2.names.all (fun x=>x.2 != .cell) && !dd.2.2.isCoroutine && !dd.2.2.isGenerator&&dd.2.2.kind == .function
theorem FnK.fn {c:Cst} {f cd:Addr} {dd:Df} {name qual:Str} {dV:Value} {cl:List (Str×Addr)} (F:FnK c f dd name qual dV cd cl) (hp:plainDf dd=true):∃ doc pm an ct,Fn c f (fdOf name qual dd dV doc pm an cd ct cl) (enOf f dd qual cd cl) dd.2.1:=by
 refine hide fun Go jo=>?_
 obtain ⟨hc,oc,od,sl,doc,pm,an,ct,ho⟩:=F
 refine jo ?_
 simp only [plainDf,Bool.and_eq_true,List.all_eq_true,bne_iff_ne,Bool.not_eq_true',beq_iff_eq] at hp
 exact ⟨doc,pm,an,ct,⟨oc,od,sl,ho⟩,hc,rfl,fun x hx=>hp.1.1.1 x hx,fun L=>rfl,hp.1.1.2,hp.1.2,hp.2⟩
theorem los_zip {names:List Str} {xs:List SV} (hlos:SV.los xs=true):SV.los ((names.zip xs).map (·.2))=true:=by
 induction names generalizing xs with
 | nil=>rfl
 | cons y r ih =>
  cases xs with
  | nil=>rfl
  | cons x xs =>
   simp only [List.zip_cons_cons,List.map_cons,los_cons,Bool.and_eq_true] at hlos ⊢
   exact ⟨hlos.1,ih hlos.2⟩
noncomputable def PosOk (dd:Df) (names:List Str) (n:Nat):Prop:=∀ name qual doc pm an cd ct cl (vs:List Value),vs.length=n→bindArgs (fdOf name qual dd .none doc pm an cd ct cl) ⟨vs,[]⟩=pure (names.zip vs)
section
variable {c:Cst} {d u:Nat} {f cd:Addr} {dd:Df} {name qual:Str} {dV:Value} {cl:List (Str×Addr)} {xs:List SV} {cx:Cx} {K:SV→Cx→Prop} {obs:List (Nat×SO)}
theorem fn_pos (names:List Str) (F:FnK c f dd name qual .none cd cl) (hd:d<1000) (hb:PosOk dd names xs.length)
  (hn:names.all (fun n=>decide (dd.2.2.names.lookup n=some .local))=true) (hnd:names.Nodup)
  (hp:plainDf dd=true) (hsub:obs.Sublist cx.obj) (hlo:∀ p∈obs,p.1<100∧p.2.lo=true) (hlos:SV.los xs=true)
  (h:SpSs c (d+1) (u+3) (enOf f dd qual cd cl) dd.2.1 ⟨names.zip xs,obs,100,cx.fr⟩ fun fl cx'=>Back cx obs K fl.val cx'):SpC c d u (.ref f) xs cx K:=by
 refine hide fun Go jo=>?_
 obtain ⟨doc,pm,an,ct,F⟩:=F.fn hp
 refine jo ?_
 exact fn_call F hd (BindOk.pos (hb _ _ _ _ _ _ _ _) (fun n hn'=>of_decide_eq_true (List.all_eq_true.mp hn n hn')) hnd) hsub hlo (los_zip hlos) h
theorem fn_posAt (names:List Str) (F:FnK c f dd name qual .none cd cl) (hd:d<1000) (hb:PosOk dd names xs.length)
  (hn:names.all (fun n=>decide (dd.2.2.names.lookup n=some .local))=true) (hnd:names.Nodup)
  (hp:plainDf dd=true) (hsub:obs.Sublist cx.obj) (hlo:∀ p∈obs,p.1<100∧p.2.lo=true) (hlos:SV.los xs=true)
  (h:SpAt c (d+1) (u+3) (enOf f dd qual cd cl) dd.2.1 (fun L=>execs dd.2.1 ((enOf f dd qual cd cl).env L)) FlR ⟨names.zip xs,obs,100,cx.fr⟩ fun fl cx'=>Back cx obs K fl.val cx'):SpC c d u (.ref f) xs cx K:=by
 refine hide fun Go jo=>?_
 obtain ⟨doc,pm,an,ct,F⟩:=F.fn hp
 refine jo ?_
 exact fn_callAt F hd (BindOk.pos (hb _ _ _ _ _ _ _ _) (fun n hn'=>of_decide_eq_true (List.all_eq_true.mp hn n hn')) hnd) hsub hlo (los_zip hlos) h
theorem fn_posC (names:List Str) (F:FnK c f dd name qual .none cd cl) (hd:d<1000) (hb:PosOk dd names xs.length)
  (hn:names.all (fun n=>decide (dd.2.2.names.lookup n=some .local))=true) (hnd:names.Nodup)
  (hp:plainDf dd=true) (hsub:obs.Sublist cx.obj) (hlo:∀ p∈obs,p.1<100∧p.2.lo=true) (hlos:SV.los xs=true)
  (h:SpSs c (d+1) (u+3) (enOf f dd qual cd cl) dd.2.1 ⟨names.zip xs,obs,100,cx.fr⟩ fun fl cx'=>Back cx obs K fl.val cx'):SpKc c d u (.ref f) xs [] cx K:=by
 refine hide fun Go jo=>?_
 obtain ⟨doc,pm,an,ct,F⟩:=F.fn hp
 refine jo ?_
 exact fn_callKc F hd (BindOk.pos (hb _ _ _ _ _ _ _ _) (fun n hn'=>of_decide_eq_true (List.all_eq_true.mp hn n hn')) hnd) hsub hlo (los_zip hlos) h
theorem Back.mk {cx':Cx} {v:SV} (obs':List (Nat×SO)) (hids:obs'.map (·.1)=obs.map (·.1)) (hob:∀ p∈obs',p∈cx'.obj∧p.1<100∧p.2.lo=true) (hfr:cx'.fr=cx.fr) (hv:v.lo=true) (h:K v (cx.upd obs' [] cx.fr)):Back cx obs K v cx' :=
 ⟨obs',[],hids,by simpa using hob,by simp,by simp,fun i hi=>hfr▸hi,hv,by rw [hfr]; exact h⟩
theorem one_obj {i:Nat} {so:SO} (hi:i<100) (h:so.lo=true):∀ p∈[(i,so)],p.1<100∧p.2.lo=true:=by
 intro p hp; simp at hp; subst hp; exact ⟨hi,h⟩
theorem Back.one {cx':Cx} {v:SV} {i:Nat} {so so':SO} (hm:cx'.obj.lookup i=some so') (hi:i<100) (hlo:so'.lo=true) (hfr:cx'.fr=cx.fr) (hv:v.lo=true) (h:K v (cx.upd [(i,so')] [] cx.fr)):Back cx [(i,so)] K v cx' :=
 Back.mk [(i,so')] rfl (by intro p hp; simp at hp; subst hp; exact ⟨mem_of_lookup hm,hi,hlo⟩) hfr hv h
end
noncomputable def push_d:{ x:Df // defAt ["_Accumulator","push"] prg=some x }:=⟨_,rfl⟩
noncomputable def pop_d:{ x:Df // defAt ["_Accumulator","pop"] prg=some x }:=⟨_,rfl⟩
noncomputable def part_count_d:{ x:Df // defAt ["_Accumulator","part_count"] prg=some x }:=⟨_,rfl⟩
structure AccFacts (c:Cst):Prop where
 push:FnK c 145 push_d.1 "push" "_Accumulator.push" .none 144 []
 append:LMethOk c 201 "append" "list.append"
 lst:mroIn c.K 201 (.type "list")=some true
 sup:SupCls c 201
 part_count:FnK c 198 part_count_d.1 "part_count" "_Accumulator.part_count" .none 197 [("__class__",125)]
 part_countS:SupFn c (enOf 198 part_count_d.1 "_Accumulator.part_count" 197 [("__class__",125)]) 125 201
 pop:FnK c 161 pop_d.1 "pop" "_Accumulator.pop" .none 160 [("__class__",125)]
 popS:SupFn c (enOf 161 pop_d.1 "_Accumulator.pop" 160 [("__class__",125)]) 125 201
 m_part_count:MethOk c 201 "part_count" 198
 k_part_count:keepIn c.K (.ref 198)=true
noncomputable abbrev accO (xs:List (Str×Str)) (i:Int):SO:=.linst 201 (xs.map ppS) [("_initial_size",.int i)]
theorem acc_lo (xs:List (Str×Str)) (i:Int):(accO xs i).lo=true:=by
 have:SV.los (xs.map ppS)=true:=by
  induction xs with
  | nil=>rfl
  | cons x xs ih=>simp only [List.map_cons,los_cons,ih,Bool.and_true]; rfl
 simp only [SO.lo,this,Bool.true_and]
 rfl
section
variable {c:Cst} (A:AccFacts c) {d u:Nat} (hd:d<990) {cx:Cx} {xs:List (Str×Str)} {i:Int} {K:SV→Cx→Prop}
include A hd
theorem push_k {a b:Str} (hz:xs.length<1000) (hi:cx.obj.lookup 2=some (accO xs i)) (h:K .none (cx.upd [(2,accO (xs++[(a,b)]) i)] [] cx.fr)) :
  SpKc c d u (.ref 145) [.ref 2,.str a,.str b] [] cx K:=by
 refine fn_posC (obs:=[(2,accO xs i)]) ["self","fws","string"] A.push (by exact aR ‹_› rfl) (fun name qual doc pm an cd ct cl vs hv=>?_) (by rfl) (by decide) (by rfl) (List.singleton_sublist.mpr (mem_of_lookup hi)) (one_obj (by decide) (acc_lo _ _)) (by rfl) ?_
 ·refine hide fun Go jo=>?_
  obtain ⟨x,y,z,rfl⟩:=len3 hv
  refine jo ?_
  rfl
 ·refine ss_cons (ss_expr (sp_meth (sp_name rfl (at_methB rfl rfl A.append rfl ⟨.inl ⟨_,rfl⟩,?_⟩))))
  refine sp_tup (sp_name rfl (sp_name rfl ⟨by show 2≤1000; decide,?_⟩))
  refine c_appendL rfl A.lst (by rw [List.length_map]; lia) ⟨rfl,ss_nil ?_⟩
  have e:xs.map ppS++[.tup [.str a,.str b]]=(xs++[(a,b)]).map ppS:=by simp
  exact Back.one (so':=accO (xs++[(a,b)]) i) (by show some (SO.linst 201 (List.map ppS xs++[.tup [.str a,.str b]]) _)=_; rw [e]) (by decide) (acc_lo _ _) rfl rfl h
theorem push_c {a b:Str} (hz:xs.length<1000) (hi:cx.obj.lookup 2=some (accO xs i)) (h:K .none (cx.upd [(2,accO (xs++[(a,b)]) i)] [] cx.fr)) :
  SpC c d u (.ref 145) [.ref 2,.str a,.str b] cx K:=(push_k A hd hz hi h).toK.toC
theorem part_count_c (hi:cx.obj.lookup 2=some (accO xs i)) (h:K (.int xs.length) (cx.upd [(2,accO xs i)] [] cx.fr)):SpC c d u (.ref 198) [.ref 2] cx K:=by
 refine fn_posAt (obs:=[(2,accO xs i)]) ["self"] A.part_count (by exact aR ‹_› rfl) (fun name qual doc pm an cd ct cl vs hv=>?_) (by rfl) (by decide) (by rfl) (List.singleton_sublist.mpr (mem_of_lookup hi)) (one_obj (by decide) (acc_lo _ _)) (by rfl) ?_
 ·obtain ⟨x,rfl⟩:=len1 hv
  rfl
 ·refine sat_cons (sat_ret (sup_len A.part_countS A.sup rfl rfl ?_))
  rw [List.length_map]
  exact Back.one (so':=accO xs i) rfl (by decide) (acc_lo _ _) rfl rfl h
end
noncomputable def DfOk (c:Cst) (T:Addr) (dvs:Array Value):Prop:=∃ oc od k sl,c.K.lookup T=some ⟨oc,od,.seq dvs k,sl⟩
section
variable {c:Cst} {d u:Nat} {f cd T:Addr} {dd:Df} {name qual:Str} {cl:List (Str×Addr)} {xs:List SV} {cx:Cx} {K:SV→Cx→Prop} {obs:List (Nat×SO)} {dvs:Array Value}
noncomputable def DPos (dd:Df) (T:Addr) (dvs:Array Value) (names:List Str) (n:Nat) (ex:List Value):Prop:=∀ name qual doc pm an cd ct cl (vs:List Value),vs.length=n→∃ k,bindArgs (fdOf name qual dd (.ref T) doc pm an cd ct cl) ⟨vs,[]⟩=seqItems? (.ref T) >>= k∧k (some dvs)=pure (names.zip (vs++ex))
theorem BindOk.dpos {names:List Str} {ex:List Value} {exS:List SV} {doc pm ct:Value} {an:Option Addr} (hT:DfOk c T dvs) (hb:DPos dd T dvs names xs.length ex) (hex:∀ g am,VRs g am exS ex) (hl:∀ n∈names,dd.2.2.names.lookup n=some .local) (hn:names.Nodup) :
  BindOk c (fdOf name qual dd (.ref T) doc pm an cd ct cl) xs [] (names.zip (xs++exS)):=by
 intro g am s vs ks Tp le hv hk
 refine hide fun Go jo=>?_
 cases hk using VRs.nilE
 obtain ⟨k,h1,h2⟩:=hb name qual doc pm an cd ct cl vs hv.length.symm
 obtain ⟨oc,od,kk,sl,ho⟩:=hT
 refine jo ?_
 have X:=Tp.X.keeps le
 refine ⟨names.zip (vs++ex),BindsTo.of_defaults rfl (X _ _ ho) rfl h1 h2,fun y hy=>hl _ (List.of_mem_zip (a:=y.1) (b:=y.2) hy).1,fun x sv e=>?_⟩
 obtain ⟨v,a,b⟩:=(hv.append (hex g am)).zip e
 exact ⟨v,lookup_rev hn a,b⟩
theorem fn_dflt (names:List Str) {ex:List Value} {exS:List SV} (F:FnK c f dd name qual (.ref T) cd cl) (hd:d<1000) (hT:DfOk c T dvs) (hb:DPos dd T dvs names xs.length ex) (hex:∀ g am,VRs g am exS ex)
  (hn:names.all (fun n=>decide (dd.2.2.names.lookup n=some .local))=true) (hnd:names.Nodup)
  (hp:plainDf dd=true) (hsub:obs.Sublist cx.obj) (hlo:∀ p∈obs,p.1<100∧p.2.lo=true) (hlos:SV.los (xs++exS)=true)
  (h:SpSs c (d+1) (u+3) (enOf f dd qual cd cl) dd.2.1 ⟨names.zip (xs++exS),obs,100,cx.fr⟩ fun fl cx'=>Back cx obs K fl.val cx'):SpC c d u (.ref f) xs cx K:=by
 refine hide fun Go jo=>?_
 obtain ⟨doc,pm,an,ct,F⟩:=F.fn hp
 refine jo ?_
 exact fn_call F hd (BindOk.dpos hT hb hex (fun n hn'=>of_decide_eq_true (List.all_eq_true.mp hn n hn')) hnd) hsub hlo (los_zip hlos) h
theorem fn_dfltC (names:List Str) {ex:List Value} {exS:List SV} (F:FnK c f dd name qual (.ref T) cd cl) (hd:d<1000) (hT:DfOk c T dvs) (hb:DPos dd T dvs names xs.length ex) (hex:∀ g am,VRs g am exS ex)
  (hn:names.all (fun n=>decide (dd.2.2.names.lookup n=some .local))=true) (hnd:names.Nodup)
  (hp:plainDf dd=true) (hsub:obs.Sublist cx.obj) (hlo:∀ p∈obs,p.1<100∧p.2.lo=true) (hlos:SV.los (xs++exS)=true)
  (h:SpSs c (d+1) (u+3) (enOf f dd qual cd cl) dd.2.1 ⟨names.zip (xs++exS),obs,100,cx.fr⟩ fun fl cx'=>Back cx obs K fl.val cx'):SpKc c d u (.ref f) xs [] cx K:=by
 refine hide fun Go jo=>?_
 obtain ⟨doc,pm,an,ct,F⟩:=F.fn hp
 refine jo ?_
 exact fn_callKc F hd (BindOk.dpos hT hb hex (fun n hn'=>of_decide_eq_true (List.all_eq_true.mp hn n hn')) hnd) hsub hlo (los_zip hlos) h
theorem fn_dfltAtC (names:List Str) {ex:List Value} {exS:List SV} (F:FnK c f dd name qual (.ref T) cd cl) (hd:d<1000) (hT:DfOk c T dvs) (hb:DPos dd T dvs names xs.length ex) (hex:∀ g am,VRs g am exS ex)
  (hn:names.all (fun n=>decide (dd.2.2.names.lookup n=some .local))=true) (hnd:names.Nodup)
  (hp:plainDf dd=true) (hsub:obs.Sublist cx.obj) (hlo:∀ p∈obs,p.1<100∧p.2.lo=true) (hlos:SV.los (xs++exS)=true)
  (h:SpAt c (d+1) (u+3) (enOf f dd qual cd cl) dd.2.1 (fun L=>execs dd.2.1 ((enOf f dd qual cd cl).env L)) FlR ⟨names.zip (xs++exS),obs,100,cx.fr⟩ fun fl cx'=>Back cx obs K fl.val cx'):SpKc c d u (.ref f) xs [] cx K:=by
 refine hide fun Go jo=>?_
 obtain ⟨doc,pm,an,ct,F⟩:=F.fn hp
 refine jo ?_
 exact fn_callAtc F hd (BindOk.dpos hT hb hex (fun n hn'=>of_decide_eq_true (List.all_eq_true.mp hn n hn')) hnd) hsub hlo (los_zip hlos) h
end
theorem ite_t {p a b:Prop} [Decidable p] (hp:p) (h:a):if p then a else b:=by rw [if_pos hp]; exact h
theorem ite_f {p a b:Prop} [Decidable p] (hp:¬ p) (h:b):if p then a else b:=by rw [if_neg hp]; exact h
theorem clip_nat {n:Nat} {k:Int} (h:0≤k):clipAt n k=min k.toNat n:=by
 obtain ⟨j,rfl⟩:=Int.eq_ofNat_of_zero_le h
 exact clipAt_nat n j
theorem pick_from {α:Type} (l:List α) {k:Int} (h:0≤k):pick l (some k,none)=l.drop k.toNat:=by
 unfold pick
 simp only [Option.elim,clip_nat h]
 rw [List.take_of_length_le (by simp)]
 by_cases q:k.toNat≤l.length
 ·rw [Nat.min_eq_left q]
 ·rw [Nat.min_eq_right (by lia),List.drop_eq_nil_of_le (Nat.le_refl _),List.drop_eq_nil_of_le (by lia)]
theorem put_from (l:List SV) {k:Int} (h:0≤k):putSlice l [] (some k,none)=l.take k.toNat:=by
 unfold putSlice
 simp only [Option.elim,clip_nat h,List.append_nil]
 rw [List.drop_eq_nil_of_le (by lia),List.append_nil]
 by_cases q:k.toNat≤l.length
 ·rw [Nat.min_eq_left q]
 ·rw [Nat.min_eq_right (by lia),List.take_of_length_le (Nat.le_refl _),List.take_of_length_le (by lia)]
theorem put_all (l new:List SV):putSlice l new (none,none)=new:=by
 unfold putSlice
 simp
theorem los_pp (xs:List (Str×Str)):SV.los (xs.map ppS)=true:=by
 induction xs with
 | nil=>rfl
 | cons x xs ih=>simp only [List.map_cons,los_cons,ih,Bool.and_true]; rfl
theorem lo_nil:∀ p∈([]:List (Nat×SO)),p.1<100∧p.2.lo=true:=fun p hp=>by cases hp
theorem lo_cons {i:Nat} {so:SO} {l:List (Nat×SO)} (hi:i<100) (h:so.lo=true) (hl:∀ p∈l,p.1<100∧p.2.lo=true):∀ p∈(i,so) :: l,p.1<100∧p.2.lo=true:=fun p hp=>by
 rcases List.mem_cons.mp hp with rfl | hp
 ·exact ⟨hi,h⟩
 ·exact hl p hp
theorem ob_nil {l:List (Nat×SO)}:∀ p∈([]:List (Nat×SO)),p∈l∧p.1<100∧p.2.lo=true:=fun p hp=>by cases hp
theorem ob_cons {i:Nat} {so:SO} {l l':List (Nat×SO)} (hm:l'.lookup i=some so) (hi:i<100) (h:so.lo=true) (hl:∀ p∈l,p∈l'∧p.1<100∧p.2.lo=true):∀ p∈(i,so) :: l,p∈l'∧p.1<100∧p.2.lo=true:=fun p hp=>by
 rcases List.mem_cons.mp hp with rfl | hp
 ·exact ⟨mem_of_lookup hm,hi,h⟩
 ·exact hl p hp
noncomputable def len_d:{ x:Df // defAt ["_Accumulator","__len__"] prg=some x }:=⟨_,rfl⟩
noncomputable def str_d:{ x:Df // defAt ["_Accumulator","__str__"] prg=some x }:=⟨_,rfl⟩
noncomputable def init_d:{ x:Df // defAt ["_Accumulator","__init__"] prg=some x }:=⟨_,rfl⟩
noncomputable def pop_from_d:{ x:Df // defAt ["_Accumulator","pop_from"] prg=some x }:=⟨_,rfl⟩
noncomputable def reset_d:{ x:Df // defAt ["_Accumulator","reset"] prg=some x }:=⟨_,rfl⟩
noncomputable def is_onlyws_d:{ x:Df // defAt ["_Accumulator","is_onlyws"] prg=some x }:=⟨_,rfl⟩
noncomputable def TabL (l k:Nat) (ps:Array Value):Prop:=ps = #[]∨∃ c',ps = #[rawInt l,rawInt k,.ref c']
noncomputable abbrev tabA (ps:Array Value):SO:=.obj 163 (tabO ps)
noncomputable abbrev tabB (ps:Array Value):SO:=.obj 170 (tabO ps)
structure AccFacts2 (c:Cst):Prop where
 len:FnK c 168 len_d.1 "__len__" "_Accumulator.__len__" .none 167 []
 lenG:∃ bm,GenOk c 201 167 163 bm
 str:FnK c 175 str_d.1 "__str__" "_Accumulator.__str__" .none 174 []
 strG:∃ bm,GenOk c 201 174 170 bm
 sumN:nsIn c.K mainGlobals "sum" = some none
 lenN:nsIn c.K mainGlobals "len" = some none
 esN:∃ t,nsIn c.K mainGlobals "EMPTYSTRING" = some (some (.str "" t))
 getI:GetOk c 201 "_initial_size"
 setI:SetOk c 201 "_initial_size"
 spec:LSpec c 201
 init:FnK c 138 init_d.1 "__init__" "_Accumulator.__init__" (.ref 130) 137 [("__class__",125)]
 initS:SupFn c (enOf 138 init_d.1 "_Accumulator.__init__" 137 [("__class__",125)]) 125 201
 initD:∃ t,DfOk c 130 #[.int 0 t]
 pop_from:FnK c 153 pop_from_d.1 "pop_from" "_Accumulator.pop_from" (.ref 146) 152 []
 pop_fromD:∃ t,DfOk c 146 #[.int 0 t]
 reset:FnK c 183 reset_d.1 "reset" "_Accumulator.reset" (.ref 176) 182 []
 resetD:DfOk c 176 #[.none]
 is_onlyws:FnK c 190 is_onlyws_d.1 "is_onlyws" "_Accumulator.is_onlyws" .none 189 []
noncomputable def wide (p:Str×Str):Int:=(p.1.length:Int)+p.2.length
noncomputable def cat2 (p:Str×Str):Str:=Txt.join "" [p.1,p.2]
noncomputable def Small (xs:List (Str×Str)):Prop:=xs.length≤100∧∀ p∈xs,p.1.length≤10000∧p.2.length≤10000
section
variable {c:Cst} (A:AccFacts c) (B:AccFacts2 c) {d u:Nat} (hd:d<980) {cx:Cx} {xs:List (Str×Str)} {i:Int} {ps:Array Value} {K:SV→Cx→Prop}
include A B hd
theorem len_c (hz:Small xs) (hI:0≤i∧i≤1000000) (hsub:[(2,accO xs i),(8,tabA ps)].Sublist cx.obj) (ht:TabL 95 19 ps) (h:∀ ps',TabL 95 19 ps'→K (.int (i+total wide xs)) (cx.upd [(2,accO xs i),(8,tabA ps')] [] cx.fr)):SpC c d u (.ref 168) [.ref 2] cx K:=by
 obtain ⟨bm,G⟩:=B.lenG
 refine fn_pos (obs:=[(2,accO xs i),(8,tabA ps)]) ["self"] B.len (by exact aR ‹_› rfl) (fun name qual doc pm an cd ct cl vs hv=>?_) (by rfl) (by decide) (by rfl) hsub (lo_cons (by decide) (acc_lo _ _) (lo_cons (by decide) rfl lo_nil)) (by rfl) ?_
 ·obtain ⟨x,rfl⟩:=len1 hv
  rfl
 ·refine ss_cons (ss_ret (sp_sumgen (val:=wide) (tb:=8) G rfl rfl rfl rfl (by decide) ht B.sumN B.getI rfl (by exact aS ‹_› rfl) (by have:=hz.1; lia) hI (fun p hp=>?_) (fun g T L C' code m p ta tb h1 h2 hp=>?_) (fun ps' ht'=>?_)))
  ·obtain ⟨a,b⟩:=hz.2 p hp
   unfold wide
   lia
  ·obtain ⟨a,b⟩:=hz.2 p hp
   exact q_add (q_len (q_bltn (e:=⟨_,_,none,code,fun _=>[],fun L=>some L⟩) T B.lenN (by decide +kernel) (by decide) (by decide) rfl rfl) (fun A' E s hh hle hm=>wpAny_mono (q_name (v:=.str p.1 ta) (by decide) rfl rfl h1 A' E s hh hle hm) (fun v s' ⟨a,b⟩=>⟨⟨ta,a⟩,b⟩) fun _ _ x=>x) (by lia) rfl rfl)
    (q_len (q_bltn (e:=⟨_,_,none,code,fun _=>[],fun L=>some L⟩) T B.lenN (by decide +kernel) (by decide) (by decide) rfl rfl) (fun A' E s hh hle hm=>wpAny_mono (q_name (v:=.str p.2 tb) (by decide) rfl rfl h2 A' E s hh hle hm) (fun v s' ⟨a,b⟩=>⟨⟨tb,a⟩,b⟩) fun _ _ x=>x) (by lia) rfl rfl)
  ·exact Back.mk [(2,accO xs i),(8,tabA ps')] rfl (ob_cons rfl (by decide) (acc_lo _ _) (ob_cons rfl (by decide) rfl ob_nil)) rfl rfl (h ps' ht')
theorem str_c (hz:Small xs) (hsub:[(2,accO xs i),(9,tabB ps)].Sublist cx.obj) (ht:TabL 98 32 ps) (h:∀ ps',TabL 98 32 ps'→K (.str (Txt.join "" (xs.map cat2))) (cx.upd [(2,accO xs i),(9,tabB ps')] [] cx.fr)) (hok:JoinOk "" (xs.map cat2)=true):SpC c d u (.ref 175) [.ref 2] cx K:=by
 obtain ⟨bm,G⟩:=B.strG
 obtain ⟨te,he⟩:=B.esN
 refine fn_pos (obs:=[(2,accO xs i),(9,tabB ps)]) ["self"] B.str (by exact aR ‹_› rfl) (fun name qual doc pm an cd ct cl vs hv=>?_) (by rfl) (by decide) (by rfl) hsub (lo_cons (by decide) (acc_lo _ _) (lo_cons (by decide) rfl lo_nil)) (by rfl) ?_
 ·obtain ⟨x,rfl⟩:=len1 hv
  rfl
 ·refine ss_cons (ss_ret (sp_joingen (f:=cat2) (tb:=9) G rfl rfl rfl rfl (by decide) ht he (by exact aS ‹_› rfl) hok (by have:=hz.1; lia) (fun g T L C' code m p ta tb h1 h2 hp=>?_) (fun ps' ht'=>?_)))
  ·obtain ⟨a,b⟩:=hz.2 p hp
   exact q_join (fun A' E s hh hle hm=>wpAny_mono (q_glob (e:=⟨_,_,none,code,fun _=>[],fun L=>some L⟩) T he (by decide) rfl rfl A' E s hh hle hm) (fun v s' ⟨a,b⟩=>⟨⟨te,a⟩,b⟩) fun _ _ x=>x) (fun A' E s hh hle hm=>wpAny_mono (q_name (v:=.str p.1 ta) (by decide) rfl rfl h1 A' E s hh hle hm) (fun v s' ⟨a,b⟩=>⟨⟨ta,a⟩,b⟩) fun _ _ x=>x)
    (fun A' E s hh hle hm=>wpAny_mono (q_name (v:=.str p.2 tb) (by decide) rfl rfl h2 A' E s hh hle hm) (fun v s' ⟨a,b⟩=>⟨⟨tb,a⟩,b⟩) fun _ _ x=>x) (by lia) (by decide) rfl rfl
  ·exact Back.mk [(2,accO xs i),(9,tabB ps')] rfl (ob_cons rfl (by decide) (acc_lo _ _) (ob_cons rfl (by decide) rfl ob_nil)) rfl rfl (h ps' ht')
theorem pop_c0 (hi:cx.obj.lookup 2=some (accO [] i)) (h:K (.tup [.str "",.str ""]) (cx.upd [(2,accO [] i)] [] cx.fr)):SpC c d u (.ref 161) [.ref 2] cx K:=by
 refine fn_posAt (obs:=[(2,accO [] i)]) ["self"] A.pop (by exact aR ‹_› rfl) (fun name qual doc pm an cd ct cl vs hv=>?_) (by rfl) (by decide) (by rfl) (List.singleton_sublist.mpr (mem_of_lookup hi)) (one_obj (by decide) (acc_lo _ _)) (by rfl) ?_
 ·obtain ⟨x,rfl⟩:=len1 hv
  rfl
 ·refine sat_cons (SpAt.of (ss_if (st_cmp (sp_meth (sp_name rfl (at_meth rfl rfl A.m_part_count rfl ⟨.inr (.inr A.k_part_count),?_⟩))))))
  refine part_count_c (d:=d+1) A (by exact aS ‹_› rfl) rfl (sp_int (o_eqi ?_))
  refine ⟨_,rfl,?_⟩
  refine ite_t rfl ?_
  refine ss_cons (ss_ret (sp_tup (show SpArgs _ _ _ _ _ _ _ from sp_str (sp_str ⟨by decide,?_⟩))))
  exact Back.one (so':=accO [] i) rfl (by decide) (acc_lo _ _) rfl rfl h
theorem pop_c {p:Str×Str} (hz:xs.length<1000) (hi:cx.obj.lookup 2=some (accO (xs++[p]) i)) (h:K (ppS p) (cx.upd [(2,accO xs i)] [] cx.fr)):SpC c d u (.ref 161) [.ref 2] cx K:=by
 refine fn_posAt (obs:=[(2,accO (xs++[p]) i)]) ["self"] A.pop (by exact aR ‹_› rfl) (fun name qual doc pm an cd ct cl vs hv=>?_) (by rfl) (by decide) (by rfl) (List.singleton_sublist.mpr (mem_of_lookup hi)) (one_obj (by decide) (acc_lo _ _)) (by rfl) ?_
 ·obtain ⟨x,rfl⟩:=len1 hv
  rfl
 ·refine sat_cons (SpAt.of (ss_if (st_cmp (sp_meth (sp_name rfl (at_meth rfl rfl A.m_part_count rfl ⟨.inr (.inr A.k_part_count),?_⟩))))))
  refine part_count_c (d:=d+1) A (by exact aS ‹_› rfl) rfl (sp_int (o_eqi ?_))
  refine ⟨_,rfl,?_⟩
  refine ite_f (by simp; lia) (ss_nil ?_)
  refine sat_cons (sat_ret (sup_pop (xs:=xs.map ppS) (x:=ppS p) (fs:=[("_initial_size",.int i)]) A.popS A.sup rfl ?_ (by simpa using hz) ?_))
  ·show some (SO.linst 201 ((xs++[p]).map ppS) _)=_
   rw [List.map_append]; rfl
  ·exact Back.one (so':=accO xs i) rfl (by decide) (acc_lo _ _) rfl rfl h
theorem pop_from_c {k:Int} (hz:xs.length≤100) (hk:0≤k) (hi:cx.obj.lookup 2=some (accO xs i)) (h:K (.fl ((xs.drop k.toNat).map ppS)) (cx.upd [(2,accO (xs.take k.toNat) i)] [] cx.fr)):SpC c d u (.ref 153) [.ref 2,.int k] cx K:=by
 obtain ⟨t,hD⟩:=B.pop_fromD
 refine fn_dflt (obs:=[(2,accO xs i)]) (exS:=[]) (ex:=[]) ["self","i"] B.pop_from (by exact aR ‹_› rfl) hD (fun name qual doc pm an cd ct cl vs hv=>?_) (fun _ _=>.nil) (by rfl) (by decide) (by rfl) (List.singleton_sublist.mpr (mem_of_lookup hi)) (one_obj (by decide) (acc_lo _ _)) (by rfl) ?_
 ·refine hide fun Go jo=>?_
  obtain ⟨x,y,rfl⟩:=len2 hv
  refine jo ?_
  exact ⟨_,rfl,rfl⟩
 ·refine ss_cons (ss_assign (sp_subsl (sp_name rfl ?_)))
  refine sp_name rfl ⟨k,rfl,?_⟩
  refine sl_linst rfl B.spec (by simp; lia) ?_
  refine ss_cons (ss_setsl (sp_flist (show SpArgs _ _ _ _ _ _ _ from ⟨by decide,sp_name rfl ?_⟩)))
  refine sp_name rfl ⟨k,rfl,?_⟩
  refine set_linst rfl B.spec (by simp; lia) ?_
  refine ss_cons (ss_ret (sp_name rfl ?_))
  rw [pick_from _ hk,put_from _ hk,← List.map_drop,← List.map_take]
  exact Back.one (so':=accO (xs.take k.toNat) i) rfl (by decide) (acc_lo _ _) rfl (los_pp _) h
theorem reset_c0 (hi:cx.obj.lookup 2=some (accO xs i)) (hz:xs.length≤100) (h:K .none (cx.upd [(2,accO [] 0)] [] cx.fr)):SpC c d u (.ref 183) [.ref 2] cx K:=by
 refine fn_dflt (obs:=[(2,accO xs i)]) (exS:=[.none]) (ex:=[.none]) ["self","startval"] B.reset (by exact aR ‹_› rfl) B.resetD (fun name qual doc pm an cd ct cl vs hv=>?_) (fun _ _=>.cons .none .nil) (by rfl) (by decide) (by rfl) (List.singleton_sublist.mpr (mem_of_lookup hi)) (one_obj (by decide) (acc_lo _ _)) (by rfl) ?_
 ·obtain ⟨x,rfl⟩:=len1 hv
  exact ⟨_,rfl,rfl⟩
 ·refine ss_cons (ss_if (st_cmp (sp_name rfl (sp_none (o_isn (by intro w h; cases h) ⟨_,rfl,ite_t rfl ?_⟩)))))
  refine ss_cons (ss_assign (sp_flist (show SpArgs _ _ _ _ _ _ _ from ⟨by decide,ss_nil ?_⟩)))
  refine ss_cons (ss_setsl (sp_name rfl (sp_name rfl ?_)))
  refine set_linst rfl B.spec (by simp; lia) ?_
  refine ss_cons (ss_seta (sp_int (sp_name rfl (at_set rfl rfl B.setI (show (1:Nat)<1000 by decide) ?_))))
  refine ss_nil ?_
  rw [put_all]
  exact Back.one (so':=accO [] 0) rfl (by decide) (acc_lo _ _) rfl rfl h
theorem reset_c {ys:List (Str×Str)} (hi:cx.obj.lookup 2=some (accO xs i)) (hz:xs.length+ys.length≤100) (h:K .none (cx.upd [(2,accO ys 0)] [] cx.fr)):SpC c d u (.ref 183) [.ref 2,.fl (ys.map ppS)] cx K:=by
 refine fn_dflt (obs:=[(2,accO xs i)]) (exS:=[]) (ex:=[]) ["self","startval"] B.reset (by exact aR ‹_› rfl) B.resetD (fun name qual doc pm an cd ct cl vs hv=>?_) (fun _ _=>.nil) (by rfl) (by decide) (by rfl) (List.singleton_sublist.mpr (mem_of_lookup hi)) (one_obj (by decide) (acc_lo _ _)) (by show (_&&(SV.los (ys.map ppS)&&true))=true; rw [los_pp]; rfl) ?_
 ·refine hide fun Go jo=>?_
  obtain ⟨x,y,rfl⟩:=len2 hv
  refine jo ?_
  exact ⟨_,rfl,rfl⟩
 ·refine ss_cons (ss_if (st_cmp (sp_name rfl (sp_none (o_isn (by intro w h; cases h) ⟨_,rfl,ite_f (by intro h; cases h) ?_⟩)))))
  refine ss_nil ?_
  refine ss_cons (ss_setsl (sp_name rfl (sp_name rfl ?_)))
  refine set_linst rfl B.spec (by simp; lia) ?_
  refine ss_cons (ss_seta (sp_int (sp_name rfl (at_set rfl rfl B.setI (show (1:Nat)<1000 by decide) ?_))))
  refine ss_nil ?_
  rw [put_all]
  exact Back.one (so':=accO ys 0) rfl (by decide) (acc_lo _ _) rfl rfl h
end
structure AccFacts3 (c:Cst):Prop where
 lenS:SpF c 201 "__len__" (.ref 168)
 strS:SpF c 201 "__str__" (.ref 175)
 bool:findIn c.K (.ref 201) "__bool__" = some none
 strN:nsIn c.K mainGlobals "str" = some none
 make:makesL c.K 201=true
 initF:findIn c.K (.ref 201) "__init__" = some (some (.ref 138))
 initT:typeIn c.K (.ref 138)=some (.type "function")
theorem type_isspace:typeOf (.builtin "str.isspace")=pure (.type "method_descriptor"):=PySem.F.type_str_isspace
section
variable {c:Cst} {d u:Nat} {cx:Cx} {e:En} {pos:Pos}
theorem o_not {x:SV} {K:SV→Cx→Prop} (h:Sp1 c d u (fun a=>truthy a) BR x cx fun b cx'=>K (.bool !b) cx'):Sp1 c d u (fun a=>unaryOp .Not a) VR x cx K:=fun fx g am L s v R q =>
 not_of (step (h fx g am L s v R q) fun b s1 g1 am1 cx1 b' l1 a1 r1 q1 k1=>by cases q1; exact ⟨g1,am1,cx1,_,l1,a1,r1,.bool _,k1⟩)
theorem c_isspace {x:Str} {K:SV→Cx→Prop} (h:K (.bool (Txt.isspace x)) cx):SpC c d u (.builtin "str.isspace") [.str x] cx K:=fun fx g am L s vs R q=>by
 cases q using VRs.consE with
 | mk _ _ q1 q=>cases q using VRs.nilE; cases q1 using VR.strE; exact SC.isspace (Ends.here R (.bool _) h)
end
noncomputable def text (xs:List (Str×Str)):Str:=Txt.join "" (xs.map cat2)
noncomputable def onlyws (xs:List (Str×Str)) (i:Int):Bool:=i==0&&(i+total wide xs==0||Txt.isspace (text xs))
theorem total_small {xs:List (Str×Str)} (hz:Small xs):0≤0+total wide xs∧0+total wide xs<2 ^ 62:=by
 have h:∀ p∈xs,0≤wide p∧wide p≤1000000:=fun p hp=>by
  obtain ⟨a,b⟩:=hz.2 p hp
  unfold wide
  lia
 obtain ⟨a,b⟩:=total_le wide xs h
 have:=hz.1
 lia
noncomputable def Fits (xs:List (Str×Str)):Prop:=Small xs∧JoinOk "" (xs.map cat2)=true
section
variable {c:Cst} (A:AccFacts c) (B:AccFacts2 c) (D:AccFacts3 c) {d u:Nat} (hd:d<970) (hu:u<8000) {cx:Cx} {xs:List (Str×Str)} {i:Int} {ps qs:Array Value} {K:SV→Cx→Prop}
include A B D hd hu
theorem acc_make {k:Int} (hfr:2∈cx.fr) (h:K (.ref 2) ((cx.addAt 2 (.linst 201 [] [])).upd [(2,accO [] k)] [] (cx.addAt 2 (.linst 201 [] [])).fr)):SpC c d u (.ref 201) [.int k] cx K:=by
 obtain ⟨t,hD⟩:=B.initD
 refine mk_list 2 D.make D.initF D.initT hfr ?_
 refine fn_dfltAtC (obs:=[(2,.linst 201 [] [])]) (exS:=[]) (ex:=[]) ["self","initial_size"] B.init (by exact aS ‹_› rfl) hD (fun name qual doc pm an cd ct cl vs hv=>?_) (fun _ _=>.nil) (by rfl) (by decide) (by rfl) (List.singleton_sublist.mpr List.mem_cons_self) (one_obj (by decide) rfl) (by rfl) ?_
 ·refine hide fun Go jo=>?_
  obtain ⟨x,y,rfl⟩:=len2 hv
  refine jo ?_
  exact ⟨_,rfl,rfl⟩
 ·refine sat_cons (SpAt.of (ss_seta (sp_name rfl (sp_name rfl (at_set rfl rfl B.setI (show (0:Nat)<1000 by decide) ?_)))))
  refine sat_cons (sat_expr (sup_init (fs:=[("_initial_size",.int k)]) B.initS A.sup rfl rfl ?_))
  refine SpAt.of (ss_nil ?_)
  exact Back.one (so':=accO [] k) rfl (by decide) rfl rfl rfl ⟨rfl,h⟩
theorem is_onlyws_c (hz:Fits xs) (hI:0≤i∧i≤1000000) (hsub:[(2,accO xs i),(8,tabA ps),(9,tabB qs)].Sublist cx.obj) (hp:TabL 95 19 ps) (hq:TabL 98 32 qs)
  (h:∀ ps' qs',TabL 95 19 ps'→TabL 98 32 qs'→K (.bool (onlyws xs i)) (cx.upd [(2,accO xs i),(8,tabA ps'),(9,tabB qs')] [] cx.fr)):SpC c d u (.ref 190) [.ref 2] cx K:=by
 refine fn_pos (obs:=[(2,accO xs i),(8,tabA ps),(9,tabB qs)]) ["self"] B.is_onlyws (by exact aR ‹_› rfl) (fun name qual doc pm an cd ct cl vs hv=>?_) (by rfl) (by decide) (by rfl) hsub (lo_cons (by decide) (acc_lo _ _) (lo_cons (by decide) rfl (lo_cons (by decide) rfl lo_nil))) (by rfl) ?_
 ·obtain ⟨x,rfl⟩:=len1 hv
  rfl
 ·refine ss_cons (ss_ret (sp_and (sp_cmp (sp_attr (sp_name rfl (at_get rfl rfl B.getI rfl rfl (sp_int (o_eqi (tr_bool ?_)))))))))
  by_cases hi0:i=0
  ·subst hi0
   refine ite_t rfl (sp_and1 (sp_or (sp_un (sp_name rfl (o_not (tr_I rfl rfl D.lenS D.bool ?_))))))
   refine len_c A B (d:=d+1) (by exact aS ‹_› rfl) hz.1 hI (.cons₂ _ (.cons₂ _ (.cons _ .slnil))) hp fun ps' hp'=>⟨_,rfl,?_,?_,tr_bool ?_⟩
   ·exact (total_small hz.1).1
   ·exact (total_small hz.1).2
   by_cases ht:0+total wide xs=0
   ·refine ite_t (by simpa using ht) ?_
    have e:(!(0+total wide xs != 0))=onlyws xs 0:=by simp [onlyws,ht]
    rw [e]
    exact Back.mk [(2,accO xs 0),(8,tabA ps'),(9,tabB qs)] rfl (ob_cons rfl (by decide) (acc_lo _ _) (ob_cons rfl (by decide) rfl (ob_cons rfl (by decide) rfl ob_nil))) rfl rfl (h ps' qs hp' hq)
   ·refine ite_f (by simpa using ht) (sp_and1 (sp_meth (sp_call (sp_bltn (v:=.type "str") D.strN (by decide +kernel) ⟨_,rfl,.inr (.inl ⟨_,rfl⟩),sp_name rfl ?_⟩))))
    refine c_strI (by exact aS ‹_› rfl) rfl rfl D.strS ?_
    refine str_c A B (d:=d+1) (by exact aS ‹_› rfl) hz.1 (.cons₂ _ (.cons _ (.cons₂ _ .slnil))) hq (fun qs' hq'=>⟨_,rfl,?_⟩) hz.2
    refine m_str PySem.F.slot_str_isspace type_isspace ⟨.inl ⟨_,rfl⟩,?_⟩
    refine c_isspace ?_
    have e:Txt.isspace (Txt.join "" (xs.map cat2))=onlyws xs 0:=by
     have:(0+total wide xs==0)=false:=by simpa using ht
     unfold onlyws
     rw [this]
     rfl
    rw [e]
    exact Back.mk [(2,accO xs 0),(8,tabA ps'),(9,tabB qs')] rfl (ob_cons rfl (by decide) (acc_lo _ _) (ob_cons rfl (by decide) rfl (ob_cons rfl (by decide) rfl ob_nil))) rfl rfl (h ps' qs' hp' hq')
  ·refine ite_f (by simpa using hi0) ?_
   have e:(i==0)=onlyws xs i:=by simp [onlyws,hi0]
   rw [e]
   exact Back.mk [(2,accO xs i),(8,tabA ps),(9,tabB qs)] rfl (ob_cons rfl (by decide) (acc_lo _ _) (ob_cons rfl (by decide) rfl (ob_cons rfl (by decide) rfl ob_nil))) rfl rfl (h ps qs hp hq)
end
noncomputable def newline_d:{ x:Df // defAt ["_ValueFormatter","newline"] prg=some x }:=⟨_,rfl⟩
noncomputable def vstr_d:{ x:Df // defAt ["_ValueFormatter","_str"] prg=some x }:=⟨_,rfl⟩
noncomputable def chunk_d:{ x:Df // defAt ["_ValueFormatter","_append_chunk"] prg=some x }:=⟨_,rfl⟩
noncomputable def vinit_d:{ x:Df // defAt ["_ValueFormatter","__init__"] prg=some x }:=⟨_,rfl⟩
noncomputable abbrev makF (w:Int) (sg:Str):List (Str×SV):=[("_maxlen",.int w),("_continuation_ws",.str " "),("_continuation_ws_len",.int 1),("_splitchars",.str sg),("_lines",.ref 1),("_current_line",.ref 2)]
noncomputable abbrev makO (w:Int) (sg:Str):SO:=.inst 117 (makF w sg)
noncomputable abbrev linO (ls:List Str):SO:=.list (ls.map .str)
structure MakFacts (c:Cst):Prop where
 newline:FnK c 79 newline_d.1 "newline" "_ValueFormatter.newline" .none 78 []
 gLines:GetOk c 117 "_lines"
 gCur:GetOk c 117 "_current_line"
 gMax:GetOk c 117 "_maxlen"
 gSplit:GetOk c 117 "_splitchars"
 mPop:MethOk c 201 "pop" 161
 kPop:keepIn c.K (.ref 161)=true
 mPush:MethOk c 201 "push" 145
 kPush:keepIn c.K (.ref 145)=true
 bPush:BoundOk c 201 "push" 145
 mWs:MethOk c 201 "is_onlyws" 190
 kWs:keepIn c.K (.ref 190)=true
 mReset:MethOk c 201 "reset" 183
 kReset:keepIn c.K (.ref 183)=true
 mPopFrom:MethOk c 201 "pop_from" 153
 kPopFrom:keepIn c.K (.ref 153)=true
 mNewline:MethOk c 117 "newline" 79
 kNewline:keepIn c.K (.ref 79)=true
theorem ok_e:PyData.strOk "" = true:=by decide +kernel
theorem ok_s:PyData.strOk " " = true:=by decide +kernel
noncomputable def Nice (xs:List (Str×Str)):Prop:=xs.length≤60∧∀ p∈xs,p.1.length≤100∧p.2.length≤100∧PyData.strOk p.1=true∧PyData.strOk p.2=true
theorem cat2_len (p:Str×Str):(cat2 p).length=p.1.length+p.2.length:=by
 unfold cat2
 show (Builtin.Str.glued "" [p.1,p.2]).length=_
 rw [size_glued]
 simp [Str.length]
 rfl
theorem Nice.small {xs:List (Str×Str)} (h:Nice xs):Small xs:=⟨by have:=h.1; lia,fun p hp=>by obtain ⟨a,b,_⟩:=h.2 p hp; lia⟩
theorem total_nice {xs:List (Str×Str)} (hz:Nice xs):0≤total wide xs∧total wide xs≤60000000:=by
 have h:∀ p∈xs,0≤wide p∧wide p≤1000000:=fun p hp=>by
  obtain ⟨a,b,_⟩:=hz.2 p hp
  unfold wide
  lia
 obtain ⟨a,b⟩:=total_le wide xs h
 have:=hz.1
 lia
theorem sum_len:∀ xs:List (Str×Str),(∀ p∈xs,p.1.length≤100∧p.2.length≤100)→((xs.map cat2).map (·.length)).sum≤200 * xs.length:=by
 intro xs
 induction xs with
 | nil=>intro _; simp
 | cons p xs ih =>
  intro h
  have h1:=ih fun q hq=>h q (List.mem_cons_of_mem _ hq)
  obtain ⟨a,b⟩:=h p List.mem_cons_self
  simp only [List.map_cons,List.sum_cons,List.length_cons,cat2_len] at h1 ⊢
  lia
theorem empty_len:Str.length "" = 0:=rfl
theorem Nice.fits {xs:List (Str×Str)} (h:Nice xs):Fits xs:=by
 refine ⟨h.small,joinOk_of ?_⟩
 have h1:=sum_len xs fun p hp=>let ⟨a,b,_⟩:=h.2 p hp; ⟨a,b⟩
 have h2:=h.1
 simp only [List.length_map]
 rw [empty_len]
 lia
theorem text_len {xs:List (Str×Str)} (h:Nice xs):(text xs).length≤12000:=by
 have h1:=sum_len xs fun p hp=>let ⟨a,b,_⟩:=h.2 p hp; ⟨a,b⟩
 have h2:=h.1
 show (Builtin.Str.glued "" (xs.map cat2)).length≤12000
 rw [size_glued,empty_len]
 lia
theorem nil_or_snoc {α:Type} (l:List α):l=[]∨∃ l' z,l=l'++[z]:=by
 rcases List.eq_nil_or_concat l with h | ⟨a,b,h⟩
 ·exact .inl h
 ·exact .inr ⟨a,b,h.trans List.concat_eq_append⟩
noncomputable def stAt (l:List Stmt) (n:Nat):Stmt:=(l.drop n).headD (.Pass ⟨0,0,0,0⟩)
noncomputable def thenOf:Stmt→List Stmt
 | .If _ a _ _=>a
 | _=>[]
noncomputable def elseOf:Stmt→List Stmt
 | .If _ _ b _=>b
 | _=>[]
theorem tr_list {c:Cst} {d u:Nat} {cx:Cx} {n:Nat} {xs:List SV} {K:Bool→Cx→Prop} (hi:cx.obj.lookup n=some (.list xs)) (hz:xs.length≤1000000) (h:K (!xs.isEmpty) cx):Sp1 c d u (fun a=>truthy a) BR (.ref n) cx K:=fun fx g am L s v R q=>by
 refine hide fun Go jo=>?_
 obtain ⟨a,rest,rfl,ea,hm,a',vs,e,ht,hv⟩:=R.at hi q
 cases e
 refine jo ?_
 have:=hv.length
 refine wpAny_truthy_list ht.isList (by simp; lia) ?_
 have e:(!vs.toArray.isEmpty) = !xs.isEmpty:=by cases hv <;> rfl
 rw [e]
 exact Ends.here R.toks rfl h
noncomputable def nlX (xs:List (Str×Str)):List (Str×Str):=match xs.reverse with
 | []=>[("","")]
 | p :: r=>if PyData.eqv (.tuple [.str p.1,.str p.2]) (.tuple [.str " ",.str ""])=true then r.reverse else xs
noncomputable def nlL (ls:List Str) (xs:List (Str×Str)) (i:Int):List Str :=
 if decide (i+total wide xs>0)=true then (if onlyws xs i=true∧ls≠[] then ls.dropLast++[ls.getLast?.getD "" ++ text xs] else ls++[text xs]) else ls
section
variable {c:Cst} (A:AccFacts c) (B:AccFacts2 c) (D:AccFacts3 c) (M:MakFacts c) {d u:Nat} (hd:d<960) (hu:u<7000) {cx:Cx} {xs:List (Str×Str)} {ls:List Str} {i w:Int} {sg:Str} {ps qs:Array Value} {K:SV→Cx→Prop}
noncomputable abbrev makAll (w:Int) (sg:Str) (ls:List Str) (xs:List (Str×Str)) (i:Int) (ps qs:Array Value):List (Nat×SO):=[(0,makO w sg),(1,linO ls),(2,accO xs i),(8,tabA ps),(9,tabB qs)]
theorem lin_lo (ls:List Str):(linO ls).lo=true:=by
 show SV.los (ls.map .str)=true
 induction ls with
 | nil=>rfl
 | cons x xs ih=>simp only [List.map_cons,los_cons,ih,Bool.and_true]; rfl
theorem mak_lo:∀ p∈makAll w sg ls xs i ps qs,p.1<100∧p.2.lo=true:=lo_cons (by decide) rfl (lo_cons (by decide) (lin_lo _) (lo_cons (by decide) (acc_lo _ _) (lo_cons (by decide) rfl (lo_cons (by decide) rfl lo_nil))))
include A B D M hd hu
theorem newline_rest {loc:List (Str×SV)} {nx:Nat} {fr:List Nat} {Kf:Fl→Cx→Prop} (hs:loc.lookup ("self":Str)=some (.ref 0)) (hz:Nice xs) (hI:0≤i∧i≤1000000) (hl:ls.length≤500) (hls:∀ z∈ls,z.length≤1000000) (hp:TabL 95 19 ps) (hq:TabL 98 32 qs)
  (h:∀ ps' qs',TabL 95 19 ps'→TabL 98 32 qs'→Kf .next ⟨loc,makAll w sg (nlL ls xs i) [] 0 ps' qs',nx,fr⟩) :
  SpSs c (d+1) (u+3) (enOf 79 newline_d.1 "_ValueFormatter.newline" 78 []) (newline_d.1.2.1.drop 2) ⟨loc,makAll w sg ls xs i ps qs,nx,fr⟩ Kf:=by
 have last:∀ {ls' ps' qs'},ls'=nlL ls xs i→TabL 95 19 ps'→TabL 98 32 qs'→SpSs c (d+1) (u+3) (enOf 79 newline_d.1 "_ValueFormatter.newline" 78 []) (newline_d.1.2.1.drop 3) ⟨loc,makAll w sg ls' xs i ps' qs',nx,fr⟩ Kf:=by
  intro ls' ps' qs' e hp' hq'
  subst e
  refine ss_cons (ss_expr (sp_meth (sp_attr (sp_name hs (at_get rfl rfl M.gCur rfl rfl (at_meth rfl rfl M.mReset rfl ⟨.inr (.inr M.kReset),?_⟩))))))
  refine reset_c0 A B (d:=d+1) (by exact aS ‹_› rfl) rfl (by have:=hz.1; lia) ⟨rfl,ss_nil ?_⟩
  exact h ps' qs' hp' hq'
 refine ss_cons (ss_if (st_cmp (sp_call (sp_bltn (v:=.builtin "len") B.lenN (by decide +kernel) ⟨_,rfl,.inl ⟨_,rfl⟩,sp_attr (sp_name hs (at_get rfl rfl M.gCur rfl rfl ?_))⟩))))
 refine c_lenI rfl rfl D.lenS ?_
 refine len_c A B (d:=d+1) (by exact aS ‹_› rfl) hz.small hI (.cons _ (.cons _ (.cons₂ _ (.cons₂ _ (.cons _ .slnil))))) hp fun ps' hp'=>⟨_,rfl,?_,?_,sp_int (o_gti ⟨_,rfl,?_⟩)⟩
 ·have:=total_nice hz; lia
 ·have:=total_nice hz; lia
 by_cases ht:i+total wide xs>0
 rotate_left
 ·refine ite_f (by simpa using ht) (ss_nil ?_)
  refine last ?_ hp' hq
  unfold nlL
  rw [if_neg (by simpa using ht)]
 refine ite_t (by simpa using ht) ?_
 have one:∀ {ps' qs'},TabL 95 19 ps'→TabL 98 32 qs'→nlL ls xs i=ls++[text xs]→SpSs c (d+1) (u+3) (enOf 79 newline_d.1 "_ValueFormatter.newline" 78 []) (elseOf (stAt (thenOf (stAt newline_d.1.2.1 2)) 0)) ⟨loc,makAll w sg ls xs i ps' qs',nx,fr⟩ (Then c (d+1) (u+3) (enOf 79 newline_d.1 "_ValueFormatter.newline" 78 []) [] (Then c (d+1) (u+3) (enOf 79 newline_d.1 "_ValueFormatter.newline" 78 []) (newline_d.1.2.1.drop 3) Kf)):=by
  intro ps' qs' hp' hq' e
  refine ss_cons (ss_expr (sp_meth (sp_attr (sp_name hs (at_get rfl rfl M.gLines rfl rfl (m_list rfl slot_list_append type_list_append ⟨.inl ⟨_,rfl⟩,?_⟩))))))
  refine sp_call (sp_bltn (v:=.type "str") D.strN (by decide +kernel) ⟨_,rfl,.inr (.inl ⟨_,rfl⟩),sp_attr (sp_name hs (at_get rfl rfl M.gCur rfl rfl ?_))⟩)
  refine c_strI (by exact aS ‹_› rfl) rfl rfl D.strS ?_
  refine str_c A B (d:=d+1) (by exact aS ‹_› rfl) hz.small (.cons _ (.cons _ (.cons₂ _ (.cons _ (.cons₂ _ .slnil))))) hq' (fun qs2 hq2=>⟨_,rfl,?_⟩) hz.fits.2
  refine c_append rfl (by simp; lia) ⟨rfl,ss_nil (ss_nil ?_)⟩
  have:=last (ls':=ls++[text xs]) e.symm hp' hq2
  rw [show makAll w sg (ls++[text xs]) xs i ps' qs2=[(0,makO w sg),(1,.list (ls.map .str++[.str (text xs)])),(2,accO xs i),(8,tabA ps'),(9,tabB qs2)] by simp [makAll,linO]] at this
  exact this
 refine ss_cons (ss_if (st_and (st_val (sp_meth (sp_attr (sp_name hs (at_get rfl rfl M.gCur rfl rfl (at_meth rfl rfl M.mWs rfl ⟨.inr (.inr M.kWs),?_⟩))))))))
 refine is_onlyws_c A B D (d:=d+1) (by exact aS ‹_› rfl) (by exact aS ‹_› rfl) hz.fits hI (.cons _ (.cons _ (.cons₂ _ (.cons₂ _ (.cons₂ _ .slnil))))) hp' hq fun ps2 qs2 hp2 hq2=>tr_bool ?_
 by_cases hw:onlyws xs i=true
 ·refine ite_t hw (st_and (st_val (sp_attr (sp_name hs (at_get rfl rfl M.gLines rfl rfl (tr_list rfl (by simp; lia) ?_))))))
  rcases nil_or_snoc ls with rfl | ⟨l',z,rfl⟩
  ·refine ite_f (by simp) (ite_f (by decide) (one hp2 hq2 ?_))
   unfold nlL
   rw [if_pos (by simpa using ht),if_neg (fun q=>q.2 rfl)]
  ·refine ite_t (by simp) (st_and_nil (ite_t rfl ?_))
   refine ss_cons (ss_augs (sp_attr (sp_name hs (at_get rfl rfl M.gLines rfl rfl (sp_un (sp_int (o_negi ?_)))))))
   refine g_last (xs:=l'.map .str) (x:=.str z) (by show some (SO.list ((l'++[z]).map .str))=_; rw [List.map_append]; rfl) ?_
   refine sp_call (sp_bltn (v:=.type "str") D.strN (by decide +kernel) ⟨_,rfl,.inr (.inl ⟨_,rfl⟩),sp_attr (sp_name hs (at_get rfl rfl M.gCur rfl rfl ?_))⟩)
   refine c_strI (by exact aS ‹_› rfl) rfl rfl D.strS ?_
   refine str_c A B (d:=d+1) (by exact aS ‹_› rfl) hz.small (.cons _ (.cons _ (.cons₂ _ (.cons _ (.cons₂ _ .slnil))))) hq2 (fun qs3 hq3=>⟨_,rfl,?_⟩) hz.fits.2
   refine o_iadds ?_ ?_
   ·have h1:=hls z (by simp)
    have h2:=text_len hz
    show z.length+(text xs).length≤16777216
    lia
   refine s_last (xs:=l'.map .str) (x:=.str z) (by show some (SO.list ((l'++[z]).map .str))=_; rw [List.map_append]; rfl) (by simp at hl ⊢; lia) (ss_nil (ss_nil ?_))
   have:=last (ls':=l'++[z++text xs]) ?_ hp2 hq3
   ·rw [show makAll w sg (l'++[z++text xs]) xs i ps2 qs3=[(0,makO w sg),(1,.list (l'.map .str++[.str (z++text xs)])),(2,accO xs i),(8,tabA ps2),(9,tabB qs3)] by simp [makAll,linO]] at this
    exact this
   ·unfold nlL
    rw [if_pos (by simpa using ht),if_pos ⟨hw,by simp⟩]
    simp
 ·refine ite_f hw (ite_f (by decide) (one hp2 hq2 ?_))
  unfold nlL
  rw [if_pos (by simpa using ht),if_neg (fun q=>hw q.1)]
theorem newline_c (hz:Nice xs) (hI:0≤i∧i≤1000000) (hl:ls.length≤500) (hls:∀ z∈ls,z.length≤1000000) (hsub:(makAll w sg ls xs i ps qs).Sublist cx.obj) (hp:TabL 95 19 ps) (hq:TabL 98 32 qs)
  (h:∀ ps' qs',TabL 95 19 ps'→TabL 98 32 qs'→K .none (cx.upd (makAll w sg (nlL ls (nlX xs) i) [] 0 ps' qs') [] cx.fr)):SpC c d u (.ref 79) [.ref 0] cx K:=by
 refine fn_pos (obs:=makAll w sg ls xs i ps qs) ["self"] M.newline (by exact aR ‹_› rfl) (fun name qual doc pm an cd ct cl vs hv=>?_) (by rfl) (by decide) (by rfl) hsub mak_lo (by rfl) ?_
 ·obtain ⟨x,rfl⟩:=len1 hv
  rfl
 ·refine ss_cons (ss_assign (sp_meth (sp_attr (sp_name rfl (at_get rfl rfl M.gCur rfl rfl (at_meth rfl rfl M.mPop rfl ⟨.inr (.inr M.kPop),?_⟩))))))
  have fin:∀ {cx':Cx} {ps' qs'},TabL 95 19 ps'→TabL 98 32 qs'→cx'.obj=makAll w sg (nlL ls (nlX xs) i) [] 0 ps' qs'→cx'.fr=cx.fr→Back cx (makAll w sg ls xs i ps qs) K .none cx':=fun {cx'} {ps'} {qs'} hp' hq' ho hf =>
   Back.mk (makAll w sg (nlL ls (nlX xs) i) [] 0 ps' qs') rfl (by rw [ho]; exact ob_cons rfl (by decide) rfl (ob_cons rfl (by decide) (lin_lo _) (ob_cons rfl (by decide) (acc_lo _ _) (ob_cons rfl (by decide) rfl (ob_cons rfl (by decide) rfl ob_nil))))) hf rfl (h ps' qs' hp' hq')
  rcases nil_or_snoc xs with rfl | ⟨ys,p,rfl⟩
  ·refine pop_c0 A B (d:=d+1) (by exact aS ‹_› rfl) rfl ?_
   refine ss_cons (ss_if (st_cmp (sp_name rfl (sp_tup (show SpArgs _ _ _ _ _ _ _ from sp_str (sp_str ⟨by decide,o_net (by exact aS ‹_› rfl) ⟨ok_e,ok_e⟩ ⟨ok_s,ok_e⟩ ⟨_,rfl,ite_t (by decide +kernel) ?_⟩⟩))))))
   refine ss_cons (ss_expr (sp_boundStar (sp_attr (sp_name rfl (at_get rfl rfl M.gCur rfl rfl ⟨_,_,_,_,_,rfl,rfl,rfl,M.bPush,rfl,sp_name rfl ⟨_,rfl,by decide,?_⟩⟩)))))
   refine push_k A (d:=d+1) (by exact aS ‹_› rfl) (by decide) rfl ⟨rfl,ss_nil ?_⟩
   exact newline_rest A B D M hd hu (xs:=[("","")]) rfl ⟨by decide,fun p hp=>by simp at hp; subst hp; exact ⟨by decide,by decide,ok_e,ok_e⟩⟩ hI hl hls hp hq fun ps' qs' hp' hq'=>fin hp' hq' rfl rfl
  ·have np:=hz.2 p (by simp)
   have nys:Nice ys:=⟨by have:=hz.1; simp at this; lia,fun q hq=>hz.2 q (by simp [hq])⟩
   refine pop_c A B (d:=d+1) (xs:=ys) (p:=p) (by exact aS ‹_› rfl) (by have:=nys.1; lia) rfl ?_
   refine ss_cons (ss_if (st_cmp (sp_name rfl (sp_tup (show SpArgs _ _ _ _ _ _ _ from sp_str (sp_str ⟨by decide,o_net (by exact aS ‹_› rfl) ⟨np.2.2.1,np.2.2.2⟩ ⟨ok_s,ok_e⟩ ⟨_,rfl,?_⟩⟩))))))
   by_cases he:PyData.eqv (.tuple [.str p.1,.str p.2]) (.tuple [.str " ",.str ""])=true
   ·refine ite_f (by rw [he]; decide) (ss_nil ?_)
    have e:nlX (ys++[p])=ys:=by simp [nlX,he]
    rw [e] at fin
    exact newline_rest A B D M hd hu (xs:=ys) rfl nys hI hl hls hp hq fun ps' qs' hp' hq'=>fin hp' hq' rfl rfl
   ·refine ite_t (by simpa using he) ?_
    refine ss_cons (ss_expr (sp_boundStar (sp_attr (sp_name rfl (at_get rfl rfl M.gCur rfl rfl ⟨_,_,_,_,_,rfl,rfl,rfl,M.bPush,rfl,sp_name rfl ⟨_,rfl,by show 2≤1000; decide,?_⟩⟩)))))
    refine push_k A (d:=d+1) (xs:=ys) (a:=p.1) (b:=p.2) (by exact aS ‹_› rfl) (by have:=nys.1; lia) rfl ⟨rfl,ss_nil ?_⟩
    have e:nlX (ys++[p])=ys++[p]:=by simp [nlX,he]
    rw [e] at fin
    exact newline_rest A B D M hd hu (xs:=ys++[p]) rfl hz hI hl hls hp hq fun ps' qs' hp' hq'=>fin hp' hq' rfl rfl
end
structure MakFacts2 (c:Cst):Prop where
 vstr:FnK c 65 vstr_d.1 "_str" "_ValueFormatter._str" .none 64 []
 vinit:FnK c 58 vinit_d.1 "__init__" "_ValueFormatter.__init__" .none 57 []
 make:makesIn c.K 117=true
 initF:findIn c.K (.ref 117) "__init__" = some (some (.ref 58))
 initT:typeIn c.K (.ref 58)=some (.type "function")
 s1:SetOk c 117 "_maxlen"
 s2:SetOk c 117 "_continuation_ws"
 s3:SetOk c 117 "_continuation_ws_len"
 s4:SetOk c 117 "_splitchars"
 s5:SetOk c 117 "_lines"
 s6:SetOk c 117 "_current_line"
 accN:nsIn c.K mainGlobals "_Accumulator" = some (some (.ref 201))
 accK:keepIn c.K (.ref 201)=true
theorem strs_are {g:Heap} {am:Am}:∀ {ls:List Str} {vs:List Value},VRs g am (ls.map .str) vs→StrsAre vs ls
 | [],_,.nil=>.nil
 | x :: ls,_,.cons h hs=>by cases h using VR.strE; exact .cons _ _ (strs_are hs)
theorem c_joinL {c:Cst} {d u:Nat} {cx:Cx} {sep:Str} {n:Nat} {ls:List Str} {K:SV→Cx→Prop} (hi:cx.obj.lookup n=some (.list (ls.map .str))) (hok:(ls.map (·.length)).sum+ls.length * sep.length≤16777216) (h:K (.str (Txt.join sep ls)) cx):SpC c d u (.builtin "str.join") [.str sep,.ref n] cx K:=fun fx g am L s vs R q=>by
 cases q using VRs.consE with
 | mk _ _ q1 q=>cases q using VRs.consE with
  | mk _ _ q2 q =>
   cases q using VRs.nilE; cases q1 using VR.strE
   refine hide fun Go jo=>?_
   obtain ⟨a,rest,rfl,ea,hm,a',vs,e,ht,hv⟩:=R.at hi q2
   cases e
   refine jo ?_
   exact join_list ht.isList (by simpa using strs_are hv) hok fun t' k=>Ends.here R.toks (.str _ _) h
theorem mem_filt {i j:Nat} {l:List Nat} (h:i∈l) (hij:i≠j):i∈l.filter fun k=>k != j:=List.mem_filter.mpr ⟨h,by simpa using hij⟩
theorem c_lens {c:Cst} {d u:Nat} {cx:Cx} {x:Str} {K:SV→Cx→Prop} (hz:x.length<2 ^ 62) (h:K (.int x.length) cx):SpC c d u (.builtin "len") [.str x] cx K:=fun fx g am L s vs R q=>by
 cases q using VRs.consE with
 | mk _ _ q1 q=>cases q using VRs.nilE; cases q1 using VR.strE; exact P.len_str (by lia) (Ends.here R.toks (.int _ _) h)
theorem Back.mkN {cx cx':Cx} {obs:List (Nat×SO)} {K:SV→Cx→Prop} {v:SV} (obs' news:List (Nat×SO)) (hids:obs'.map (·.1)=obs.map (·.1)) (hob:∀ p∈obs'++news,p∈cx'.obj∧p.1<100∧p.2.lo=true) (hnew:∀ p∈news,p.1∈cx.fr) (hnd:(news.map (·.1)).Nodup) (hfr:∀ i∈cx'.fr,i∈cx.fr) (hv:v.lo=true) (h:K v (cx.upd obs' news cx'.fr)):Back cx obs K v cx' :=
 ⟨obs',news,hids,hob,hnew,hnd,hfr,hv,h⟩
section
variable {c:Cst} (A:AccFacts c) (B:AccFacts2 c) (D:AccFacts3 c) (M:MakFacts c) (N:MakFacts2 c) {d u:Nat} (hd:d<950) (hu:u<6000) {cx:Cx} {K:SV→Cx→Prop}
include A B D M N hd hu
theorem maker_make {k w:Int} {sg:Str} (h0:0∈cx.fr) (h1:1∈cx.fr) (h2:2∈cx.fr)
  (h:K (.ref 0) ((cx.addAt 0 (.inst 117 [])).upd [(0,makO w sg)] [(1,linO []),(2,accO [] k)] (((cx.fr.filter fun j=>j != 0).filter fun j=>j != 1).filter fun j=>j != 2))):SpK c d u (.ref 117) [.int k,.int w,.str " ",.str sg] [] cx K:=by
 refine mk_inst 0 N.make N.initF N.initT h0 ?_
 refine fn_posC (obs:=[(0,.inst 117 [])]) ["self","headerlen","maxlen","continuation_ws","splitchars"] N.vinit (by exact aS ‹_› rfl) (fun name qual doc pm an cd ct cl vs hv=>?_) (by rfl) (by decide) (by rfl) (List.singleton_sublist.mpr List.mem_cons_self) (one_obj (by decide) rfl) (by rfl) ?_
 ·refine hide fun Go jo=>?_
  obtain ⟨x1,x2,x3,x4,x5,rfl⟩:=len5 hv
  refine jo ?_
  rfl
 ·refine ss_cons (ss_seta (sp_name rfl (sp_name rfl (at_set rfl rfl N.s1 (show (0:Nat)<1000 by decide) ?_))))
  refine ss_cons (ss_seta (sp_name rfl (sp_name rfl (at_set rfl rfl N.s2 (show (1:Nat)<1000 by decide) ?_))))
  refine ss_cons (ss_seta (sp_call (sp_bltn (v:=.builtin "len") B.lenN (by decide +kernel) ⟨_,rfl,.inl ⟨_,rfl⟩,sp_name rfl (c_lens (by decide) (sp_name rfl (at_set rfl rfl N.s3 (show (2:Nat)<1000 by decide) ?_)))⟩)))
  refine ss_cons (ss_seta (sp_name rfl (sp_name rfl (at_set rfl rfl N.s4 (show (3:Nat)<1000 by decide) ?_))))
  refine ss_cons (ss_seta (sp_listAt 1 (show SpArgs _ _ _ _ _ _ _ from ⟨by decide,mem_filt h1 (by decide),sp_name rfl (at_set rfl rfl N.s5 (show (4:Nat)<1000 by decide) ?_)⟩)))
  refine ss_cons (ss_seta (sp_call (sp_glob N.accN ⟨_,rfl,.inr (.inr N.accK),sp_name rfl ?_⟩)))
  refine acc_make A B D (d:=d+2) (by exact aS ‹_› rfl) (by lia) (mem_filt (mem_filt h2 (by decide)) (by decide)) (sp_name rfl (at_set rfl rfl N.s6 (show (5:Nat)<1000 by decide) ?_))
  refine ss_nil ?_
  refine Back.mkN [(0,makO w sg)] [(1,linO []),(2,accO [] k)] rfl ?_ ?_ ?_ ?_ rfl ⟨rfl,h⟩
  ·exact ob_cons rfl (by decide) rfl (ob_cons rfl (by decide) rfl (ob_cons rfl (by decide) rfl ob_nil))
  ·intro p hp
   simp only [List.mem_cons,List.not_mem_nil,or_false] at hp
   rcases hp with rfl | rfl
   ·exact mem_filt h1 (show (1:Nat)≠0 by decide)
   ·exact mem_filt h2 (show (2:Nat)≠0 by decide)
  ·show [1,2].Nodup; decide
  ·intro i hi
   exact (List.mem_filter.mp (List.mem_filter.mp hi).1).1
theorem vstr_c {w i:Int} {sg sep:Str} {ls:List Str} {xs:List (Str×Str)} {ps qs:Array Value} (hz:Nice xs) (hI:0≤i∧i≤1000000) (hl:ls.length≤500) (hls:∀ z∈ls,z.length≤1000000) (hsub:(makAll w sg ls xs i ps qs).Sublist cx.obj) (hp:TabL 95 19 ps) (hq:TabL 98 32 qs)
  (hok:((nlL ls (nlX xs) i).map (·.length)).sum+(nlL ls (nlX xs) i).length * sep.length≤16777216)
  (h:∀ ps' qs',TabL 95 19 ps'→TabL 98 32 qs'→K (.str (Txt.join sep (nlL ls (nlX xs) i))) (cx.upd (makAll w sg (nlL ls (nlX xs) i) [] 0 ps' qs') [] cx.fr)):SpC c d u (.ref 65) [.ref 0,.str sep] cx K:=by
 refine fn_pos (obs:=makAll w sg ls xs i ps qs) ["self","linesep"] N.vstr (by exact aR ‹_› rfl) (fun name qual doc pm an cd ct cl vs hv=>?_) (by rfl) (by decide) (by rfl) hsub mak_lo (by rfl) ?_
 ·refine hide fun Go jo=>?_
  obtain ⟨x,y,rfl⟩:=len2 hv
  refine jo ?_
  rfl
 ·refine ss_cons (ss_expr (sp_meth (sp_name rfl (at_meth rfl rfl M.mNewline rfl ⟨.inr (.inr M.kNewline),?_⟩))))
  refine newline_c A B D M (d:=d+1) (by exact aS ‹_› rfl) (by exact aS ‹_› rfl) hz hI hl hls (List.Sublist.refl _) hp hq fun ps' qs' hp' hq'=>⟨rfl,?_⟩
  refine ss_cons (ss_ret (sp_meth (sp_name rfl (m_str PySem.F.slot_str_join PySem.F.type_str_join ⟨.inl ⟨_,rfl⟩,sp_attr (sp_name rfl (at_get rfl rfl M.gLines rfl rfl (c_joinL rfl hok ?_)))⟩))))
  exact Back.mk (makAll w sg (nlL ls (nlX xs) i) [] 0 ps' qs') rfl (ob_cons rfl (by decide) rfl (ob_cons rfl (by decide) (lin_lo _) (ob_cons rfl (by decide) (acc_lo _ _) (ob_cons rfl (by decide) rfl (ob_cons rfl (by decide) rfl ob_nil))))) rfl rfl (h ps' qs' hp' hq')
end
structure MakFacts3 (c:Cst):Prop where
 chunk:FnK c 114 chunk_d.1 "_append_chunk" "_ValueFormatter._append_chunk" .none 113 []
 rangeN:nsIn c.K mainGlobals "range" = some none
noncomputable def hit (xs:List (Str×Str)) (ch:Nat) (k:Nat):Bool :=
 (Txt.isspace ⟨#[ch]⟩&&((xs[k]?.getD ("","")).1.cps[0]? == some ch))||(xs[k - 1]?.getD ("","")).2.cps.back? == some ch
noncomputable def hitAt (xs:List (Str×Str)) (ch:Nat):List Nat→Option Nat
 | []=>none
 | k :: ks=>if hit xs ch k=true then some k else hitAt xs ch ks
noncomputable def hitIn (xs:List (Str×Str)) (ks:List Nat):List Nat→Option Nat
 | []=>none
 | ch :: cs=>match hitAt xs ch ks with
  | some k=>some k
  | none=>hitIn xs ks cs
noncomputable def forBody:Stmt→List Stmt
 | .For _ _ b _ _=>b
 | _=>[]
noncomputable def forElse:Stmt→List Stmt
 | .For _ _ _ b _=>b
 | _=>[]
theorem rs_down (m:Nat):Builtin.Range.rangeSize m 0 (-1)=m:=by
 unfold Builtin.Range.rangeSize
 rw [if_neg (by decide)]
 by_cases h:(m:Int)>0
 ·rw [if_pos h]
  show ((m:Int) - 0 - 1) / 1+1=m
  rw [Int.ediv_one]; lia
 ·rw [if_neg h]; lia
theorem small_down {m:Nat} (h:m≤60):Builtin.Range.small m 0 (-1)=true:=by
 unfold Builtin.Range.small
 rw [rs_down]
 have f:∀ i:Int,-100≤i→i≤100→Builtin.Range.rangeFitsLong i=true:=fun i a b=>by
  unfold Builtin.Range.rangeFitsLong
  rw [decide_eq_true (by lia),decide_eq_true (by lia)]; rfl
 rw [f m (by lia) (by lia),f 0 (by lia) (by lia),f (-1) (by lia) (by lia)]
 simp only [Bool.and_self,Bool.true_and,Bool.or_eq_true]
 exact .inr (by rw [if_neg (by decide)]; exact f _ (by lia) (by lia))
theorem run_succ {m:Nat} {x:SV} {ys:List SV} (h:x :: ys=run (m+1:Nat) (-1) (m+1)):x = .int ((m+1:Nat):Int)∧ys=run m (-1) m:=by
 unfold run at h
 rw [List.range_succ_eq_map,List.map_cons,List.map_map] at h
 injection h with h1 h2
 refine ⟨h1.trans (by simp),h2.trans ?_⟩
 unfold run
 refine List.map_congr_left fun j _=>?_
 show SV.int (((m+1:Nat):Int)+((j+1:Nat):Int) * (-1))=SV.int ((m:Int)+(j:Int) * (-1))
 congr 1
 lia
theorem str_last (x:Str):((x.length:Int)=0∧x.cps.back? = none)∨∃ y,(x.length:Int)≠0∧(seqIndex? (-1) x.length).bind (x.cps[·]?)=some y∧x.cps.back? = some y:=by
 by_cases h:x.cps.size=0
 ·refine .inl ⟨by show ((x.cps.size:Nat):Int)=0; lia,?_⟩
  rw [Array.back?_eq_getElem?]
  exact Array.getElem?_eq_none (by lia)
 ·have hl:x.cps.size - 1<x.cps.size:=by lia
  refine .inr ⟨x.cps[x.cps.size - 1],by show ((x.cps.size:Nat):Int)≠0; lia,?_,?_⟩
  ·have:x.length=(x.cps.size - 1)+1:=by show x.cps.size=_; lia
   rw [this,seqIndex_last]
   simp [hl]
  ·rw [Array.back?_eq_getElem?,Array.getElem?_eq_getElem hl]
theorem str_first (x:Str):((x.length:Int)=0∧x.cps[0]? = none)∨∃ y,(x.length:Int)≠0∧(seqIndex? 0 x.length).bind (x.cps[·]?)=some y∧x.cps[0]? = some y:=by
 by_cases h:x.cps.size=0
 ·exact .inl ⟨by show ((x.cps.size:Nat):Int)=0; lia,Array.getElem?_eq_none (by lia)⟩
 ·have hl:0<x.cps.size:=by lia
  have e:seqIndex? 0 x.length=some 0:=by
   unfold seqIndex?
   have h1:(0:Int)<(x.length:Int):=by show (0:Int)<((x.cps.size:Nat):Int); lia
   simp only [Int.lt_irrefl,if_false,h1,decide_true,Int.le_refl,Bool.and_self,if_true]; rfl
  refine .inr ⟨x.cps[0],by show ((x.cps.size:Nat):Int)≠0; lia,?_,Array.getElem?_eq_getElem hl⟩
  rw [e]; exact Array.getElem?_eq_getElem hl
noncomputable def outer:Stmt:=stAt (thenOf (stAt chunk_d.1.2.1 1)) 0
noncomputable def inner:Stmt:=stAt (forBody outer) 0
noncomputable def down (n:Nat):List Nat:=(List.range n).map fun j=>n - j
theorem down_succ (m:Nat):down (m+1)=(m+1) :: down m:=by
 unfold down
 rw [List.range_succ_eq_map,List.map_cons,List.map_map]
 congr 1
 refine List.map_congr_left fun j _=>?_
 show m+1 - (j+1)=m - j
 lia
noncomputable def blankOr (f:Str):Str:=if (f.length:Int)=0 then " " else f
noncomputable def chunk (w:Int) (sg:Str) (st:List Str×List (Str×Str)×Int) (p:Str×Str):List Str×List (Str×Str)×Int :=
 if st.2.2+total wide (st.2.1++[p])>w then
  match hitIn (st.2.1++[p]) (down ((st.2.1++[p]).length - 1)) sg.cps.toList with
  | some k=>(st.1++[text ((st.2.1++[p]).take k)],(st.2.1++[p]).drop k,0)
  | none=>if st.2.2>0 then (nlL st.1 (nlX st.2.1) st.2.2,[(blankOr p.1,p.2)],0) else (st.1,st.2.1++[p],st.2.2)
 else (st.1,st.2.1++[p],st.2.2)
noncomputable abbrev chEn:En:=enOf 114 chunk_d.1 "_ValueFormatter._append_chunk" 113 []
inductive InI (xs:List (Str×Str)) (ch:Nat) (obj:List (Nat×SO)) (nx:Nat) (fr:List Nat) (ys:List SV) (cx:Cx):Prop
 | mk (m:Nat) (hm:m≤xs.length - 1) (hy:ys=run m (-1) m) (hf:hitAt xs ch (down (xs.length - 1))=hitAt xs ch (down m)) (loc:List (Str×SV)) (ec:cx=⟨loc,obj,nx,fr⟩) (hs:loc.lookup ("self":Str)=some (.ref 0)) (hc:loc.lookup ("ch":Str)=some (.str ⟨#[ch]⟩))
section
variable {c:Cst} (A:AccFacts c) (B:AccFacts2 c) (D:AccFacts3 c) (M:MakFacts c) (N:MakFacts2 c) (P:MakFacts3 c) {d u:Nat} (hd:d<940) (hu:u<5000) {xs:List (Str×Str)} {ls:List Str} {i w:Int} {sg:Str} {ps qs:Array Value} {nx:Nat} {fr:List Nat}
include A B D M N P hd hu
theorem inner_c {loc:List (Str×SV)} {ch:Nat} {Kf:Fl→Cx→Prop} (hz:Nice xs) (hs:loc.lookup ("self":Str)=some (.ref 0)) (hc:loc.lookup ("ch":Str)=some (.str ⟨#[ch]⟩)) (hn:1≤xs.length)
  (h0:hitAt xs ch (down (xs.length - 1))=none→∀ loc',loc'.lookup ("self":Str)=some (.ref 0)→Kf .cont ⟨loc',makAll w sg ls xs i ps qs,nx,fr⟩)
  (h1:∀ k,hitAt xs ch (down (xs.length - 1))=some k→∀ loc',loc'.lookup ("self":Str)=some (.ref 0)→loc'.lookup ("i":Str)=some (.int k)→Kf .brk ⟨loc',makAll w sg ls xs i ps qs,nx,fr⟩) :
  SpSs c (d+1) (u+3) chEn (forBody outer) ⟨loc,makAll w sg ls xs i ps qs,nx,fr⟩ Kf:=by
 refine ss_cons (ss_for (InI xs ch (makAll w sg ls xs i ps qs) nx fr) ?_ ?_ ?_)
 ·refine it_rng (sp_call (sp_bltn (v:=.type "range") P.rangeN (by decide +kernel) ⟨_,rfl,.inr (.inl ⟨_,rfl⟩),?_⟩))
  refine sp_bin (sp_meth (sp_attr (sp_name hs (at_get rfl rfl M.gCur rfl rfl (at_meth rfl rfl A.m_part_count rfl ⟨.inr (.inr A.k_part_count),?_⟩)))))
  refine part_count_c (d:=d+1) A (by exact aS ‹_› rfl) rfl (sp_int (o_subi (sp_int (sp_un (sp_int (o_negi ?_))))))
  have e1:(xs.length:Int) - 1=((xs.length - 1:Nat):Int):=by lia
  have hm:xs.length - 1≤60:=by have:=hz.1; lia
  rw [e1]
  generalize hm':xs.length - 1=m at hm
  refine c_range3 (by decide) (PyProof.noPylong_small (by lia)) ⟨small_down hm,m,rs_down m,m,Nat.le_of_eq hm'.symm,rfl,congrArg (fun n=>hitAt xs ch (down n)) hm',loc,rfl,hs,hc⟩
 ·rintro x ys cx ⟨m,hm,hy,hf,loc',rfl,hs',hc'⟩
  refine hide fun Go jo=>?_
  obtain ⟨m,rfl⟩:∃ m',m=m'+1:=by cases m with | zero=>simp [run] at hy | succ m'=>exact ⟨m',rfl⟩
  obtain ⟨rfl,rfl⟩:=run_succ hy
  refine jo ?_
  refine a_name ?_
  have hs1:(setL ("i":Str) (.int ((m+1:Nat):Int)) loc').lookup ("self":Str)=some (.ref 0):=get_ne hs'
  have hc1:(setL ("i":Str) (.int ((m+1:Nat):Int)) loc').lookup ("ch":Str)=some (.str ⟨#[ch]⟩):=get_ne hc'
  have hi1:(setL ("i":Str) (.int ((m+1:Nat):Int)) loc').lookup ("i":Str)=some (.int ((m+1:Nat):Int)):=get_put
  show SpSs c (d+1) (u+3) chEn _ ⟨setL ("i":Str) (.int ((m+1:Nat):Int)) loc',makAll w sg ls xs i ps qs,nx,fr⟩ _
  generalize setL ("i":Str) (.int ((m+1:Nat):Int)) loc'=loc1 at hs1 hc1 hi1
  have brk:hit xs ch (m+1)=true→∀ loc2,loc2.lookup ("self":Str)=some (.ref 0)→loc2.lookup ("i":Str)=some (.int ((m+1:Nat):Int))→Kf .brk ⟨loc2,makAll w sg ls xs i ps qs,nx,fr⟩:=fun hh loc2 a b=>h1 (m+1) (hf.trans (by rw [down_succ]; simp [hitAt,hh])) loc2 a b
  have go:hit xs ch (m+1)=false→∀ loc2,loc2.lookup ("self":Str)=some (.ref 0)→loc2.lookup ("ch":Str)=some (.str ⟨#[ch]⟩)→InI xs ch (makAll w sg ls xs i ps qs) nx fr (run m (-1) m) ⟨loc2,makAll w sg ls xs i ps qs,nx,fr⟩ :=
   fun hh loc2 a b=>⟨m,by lia,rfl,hf.trans (by rw [down_succ]; simp [hitAt,hh]),loc2,rfl,a,b⟩
  obtain ⟨p,hp⟩:∃ p,xs[m+1]? = some p:=⟨_,List.getElem?_eq_getElem (by lia)⟩
  obtain ⟨q,hq'⟩:∃ q,xs[m]? = some q:=⟨_,List.getElem?_eq_getElem (by lia)⟩
  have np:=hz.2 p (List.mem_of_getElem? hp)
  have nq:=hz.2 q (List.mem_of_getElem? hq')
  have rest:∀ loc2,loc2.lookup ("self":Str)=some (.ref 0)→loc2.lookup ("ch":Str)=some (.str ⟨#[ch]⟩)→loc2.lookup ("i":Str)=some (.int ((m+1:Nat):Int))→(hit xs ch (m+1)=(q.2.cps.back? == some ch)) →
    SpSs c (d+1) (u+3) chEn ((forBody inner).drop 1) ⟨loc2,makAll w sg ls xs i ps qs,nx,fr⟩ (LoopK (InI xs ch (makAll w sg ls xs i ps qs) nx fr (run m (-1) m)) (Then c (d+1) (u+3) chEn ((forBody outer).drop 1) Kf)):=by
   intro loc2 a2 b2 c2 e2
   refine ss_cons (ss_assign (sp_sub (sp_sub (sp_attr (sp_name a2 (at_get rfl rfl M.gCur rfl rfl (sp_bin (sp_name c2 (sp_int (o_subi ?_))))))))))
   refine i_linst (x:=ppS q) rfl B.spec (by lia) (by have:=hz.1; lia) ?_ (sp_int (i_tup (x:=.str q.2) (by decide) rfl rfl ?_))
   ·have e:(((m+1:Nat):Int) - 1).toNat=m:=by lia
    rw [e,List.getElem?_map,hq']; rfl
   have a3:(setL ("prevpart":Str) (.str q.2) loc2).lookup ("self":Str)=some (.ref 0):=get_ne a2
   have b3:(setL ("prevpart":Str) (.str q.2) loc2).lookup ("ch":Str)=some (.str ⟨#[ch]⟩):=get_ne b2
   have c3:(setL ("prevpart":Str) (.str q.2) loc2).lookup ("i":Str)=some (.int ((m+1:Nat):Int)):=get_ne c2
   have d3:(setL ("prevpart":Str) (.str q.2) loc2).lookup ("prevpart":Str)=some (.str q.2):=get_put
   show SpSs c (d+1) (u+3) chEn _ ⟨setL ("prevpart":Str) (.str q.2) loc2,makAll w sg ls xs i ps qs,nx,fr⟩ _
   generalize setL ("prevpart":Str) (.str q.2) loc2=loc3 at a3 b3 c3 d3
   refine ss_cons (ss_if (st_and (st_val (sp_name d3 (tr_str (by have:=nq.2.1; lia) ?_)))))
   rcases str_last q.2 with hE | ⟨y,hy0,hy1,hy2⟩
   ·refine ite_f (by rw [hE.1]; decide) (ite_f (by decide) (ss_nil (ss_nil ?_)))
    exact go (e2.trans (by rw [hE.2]; rfl)) loc3 a3 b3
   ·refine ite_t (by simpa using hy0) (st_and (st_cmp (sp_sub (sp_name d3 (sp_un (sp_int (o_negi (i_str (ch:=y) (by decide) hy1 (sp_name b3 (o_eqs ⟨_,rfl,?_⟩))))))))))
    by_cases hyc:y=ch
    ·subst hyc
     refine ite_t (by simp) (st_and_nil (ite_t rfl (ss_cons (ss_brk ?_))))
     exact ss_cons (ss_brk (brk (e2.trans (by rw [hy2]; simp)) loc3 a3 c3))
    ·refine ite_f (by simpa using hyc) (ite_f (by decide) (ss_nil (ss_nil ?_)))
     exact go (e2.trans (by rw [hy2]; simpa using hyc)) loc3 a3 b3
  have hh:hit xs ch (m+1)=((Txt.isspace ⟨#[ch]⟩&&(p.1.cps[0]? == some ch))||q.2.cps.back? == some ch):=by unfold hit; rw [Nat.add_sub_cancel,hp,hq']; rfl
  refine ss_cons (ss_if (st_val (sp_meth (sp_name hc1 (m_str PySem.F.slot_str_isspace type_isspace ⟨.inl ⟨_,rfl⟩,c_isspace (tr_bool ?_)⟩)))))
  by_cases hsp:Txt.isspace ⟨#[ch]⟩=true
  ·refine ite_t hsp ?_
   refine ss_cons (ss_assign (sp_sub (sp_sub (sp_attr (sp_name hs1 (at_get rfl rfl M.gCur rfl rfl (sp_name hi1 ?_)))))))
   refine i_linst (x:=ppS p) rfl B.spec (by lia) (by have:=hz.1; lia) ?_ (sp_int (i_tup (x:=.str p.1) (by decide) rfl rfl ?_))
   ·have e:((m+1:Nat):Int).toNat=m+1:=by lia
    rw [e,List.getElem?_map,hp]; rfl
   have a3:(setL ("fws":Str) (.str p.1) loc1).lookup ("self":Str)=some (.ref 0):=get_ne hs1
   have b3:(setL ("fws":Str) (.str p.1) loc1).lookup ("ch":Str)=some (.str ⟨#[ch]⟩):=get_ne hc1
   have c3:(setL ("fws":Str) (.str p.1) loc1).lookup ("i":Str)=some (.int ((m+1:Nat):Int)):=get_ne hi1
   have d3:(setL ("fws":Str) (.str p.1) loc1).lookup ("fws":Str)=some (.str p.1):=get_put
   show SpSs c (d+1) (u+3) chEn _ ⟨setL ("fws":Str) (.str p.1) loc1,makAll w sg ls xs i ps qs,nx,fr⟩ _
   generalize setL ("fws":Str) (.str p.1) loc1=loc3 at a3 b3 c3 d3
   refine ss_cons (ss_if (st_and (st_val (sp_name d3 (tr_str (by have:=np.1; lia) ?_)))))
   rcases str_first p.1 with hE | ⟨y,hy0,hy1,hy2⟩
   ·refine ite_f (by rw [hE.1]; decide) (ite_f (by decide) (ss_nil (ss_nil ?_)))
    exact rest loc3 a3 b3 c3 (hh.trans (by rw [hE.2]; simp))
   ·refine ite_t (by simpa using hy0) (st_and (st_cmp (sp_sub (sp_name d3 (sp_int (i_str (ch:=y) (by decide) hy1 (sp_name b3 (o_eqs ⟨_,rfl,?_⟩))))))))
    by_cases hyc:y=ch
    ·subst hyc
     refine ite_t (by simp) (st_and_nil (ite_t rfl (ss_cons (ss_brk ?_))))
     exact ss_cons (ss_brk (brk (hh.trans (by rw [hy2,hsp]; simp)) loc3 a3 c3))
    ·refine ite_f (by simpa using hyc) (ite_f (by decide) (ss_nil (ss_nil ?_)))
     exact rest loc3 a3 b3 c3 (hh.trans (by rw [hy2]; simp [hyc]))
  ·refine ite_f hsp (ss_nil ?_)
   exact rest loc1 hs1 hc1 hi1 (hh.trans (by simp [hsp]))
 ·rintro cx ⟨m,hm,hy,hf,loc',rfl,hs',hc'⟩
  have:m=0:=by cases m with | zero=>rfl | succ m'=>simp [run,List.range_succ_eq_map] at hy
  subst this
  exact ss_cons (ss_cont (h0 (hf.trans rfl) loc' hs'))
theorem outer_c {loc:List (Str×SV)} {Kf:Fl→Cx→Prop} (hz:Nice xs) (hs:loc.lookup ("self":Str)=some (.ref 0)) (hn:1≤xs.length)
  (h0:hitIn xs (down (xs.length - 1)) sg.cps.toList=none→∀ loc',loc'.lookup ("self":Str)=some (.ref 0)→SpSs c (d+1) (u+3) chEn (forElse outer) ⟨loc',makAll w sg ls xs i ps qs,nx,fr⟩ Kf)
  (h1:∀ k,hitIn xs (down (xs.length - 1)) sg.cps.toList=some k→∀ loc',loc'.lookup ("self":Str)=some (.ref 0)→loc'.lookup ("i":Str)=some (.int k)→Kf .next ⟨loc',makAll w sg ls xs i ps qs,nx,fr⟩) :
  SpS c (d+1) (u+3) chEn outer ⟨loc,makAll w sg ls xs i ps qs,nx,fr⟩ Kf:=by
 refine ss_for (fun ys cx=>∃ cs:List Nat,ys=cs.map (fun ch=>.str ⟨#[ch]⟩)∧hitIn xs (down (xs.length - 1)) sg.cps.toList=hitIn xs (down (xs.length - 1)) cs∧∃ loc',cx=⟨loc',makAll w sg ls xs i ps qs,nx,fr⟩∧loc'.lookup ("self":Str)=some (.ref 0)) ?_ ?_ ?_
 ·exact it_str (sp_attr (sp_name hs (at_get rfl rfl M.gSplit rfl rfl ⟨sg,rfl,_,rfl,rfl,loc,rfl,hs⟩)))
 ·rintro x ys cx ⟨cs,hy,hf,loc',rfl,hs'⟩
  cases cs with
  | nil=>cases hy
  | cons ch cs =>
   simp only [List.map_cons,List.cons.injEq] at hy
   refine hide fun Go jo=>?_
   obtain ⟨rfl,rfl⟩:=hy
   refine jo ?_
   refine a_name ?_
   refine inner_c A B D M N P hd hu (ch:=ch) hz ?_ ?_ hn (fun e loc2 a=>?_) (fun k e loc2 a b=>?_)
   ·show (setL ("ch":Str) (.str ⟨#[ch]⟩) loc').lookup ("self":Str)=some (.ref 0)
    exact get_ne hs'
   ·show (setL ("ch":Str) (.str ⟨#[ch]⟩) loc').lookup ("ch":Str)=_
    rw [lookup_setL,if_pos rfl]
   ·exact ⟨cs,rfl,hf.trans (by simp [hitIn,e]),loc2,rfl,a⟩
   ·exact h1 k (hf.trans (by simp [hitIn,e])) loc2 a b
 ·rintro cx ⟨cs,hy,hf,loc',rfl,hs'⟩
  cases cs with
  | cons ch cs=>cases hy
  | nil=>exact h0 hf loc' hs'
theorem chunk_c {f sx:Str} {cx:Cx} {K:SV→Cx→Prop} (hz:Nice (xs++[(f,sx)])) (hI:0≤i∧i≤1000000) (hl:ls.length≤490) (hls:∀ z∈ls,z.length≤1000000) (hsub:(makAll w sg ls xs i ps qs).Sublist cx.obj) (hp:TabL 95 19 ps) (hq:TabL 98 32 qs)
  (h:∀ ps' qs',TabL 95 19 ps'→TabL 98 32 qs'→K .none (cx.upd (makAll w sg (chunk w sg (ls,xs,i) (f,sx)).1 (chunk w sg (ls,xs,i) (f,sx)).2.1 (chunk w sg (ls,xs,i) (f,sx)).2.2 ps' qs') [] cx.fr)):SpC c d u (.ref 114) [.ref 0,.str f,.str sx] cx K:=by
 refine fn_pos (obs:=makAll w sg ls xs i ps qs) ["self","fws","string"] P.chunk (by exact aR ‹_› rfl) (fun name qual doc pm an cd ct cl vs hv=>?_) (by rfl) (by decide) (by rfl) hsub mak_lo (by rfl) ?_
 ·refine hide fun Go jo=>?_
  obtain ⟨x,y,z,rfl⟩:=len3 hv
  refine jo ?_
  rfl
 have fin:∀ {cx':Cx} {v:SV} {ls' xs' i' ps' qs'},TabL 95 19 ps'→TabL 98 32 qs'→chunk w sg (ls,xs,i) (f,sx)=(ls',xs',i')→cx'.obj=makAll w sg ls' xs' i' ps' qs'→cx'.fr=cx.fr→v = .none→Back cx (makAll w sg ls xs i ps qs) K v cx':=by
  intro cx' v ls' xs' i' ps' qs' hp' hq' he ho hf hv
  subst hv
  have h':=h ps' qs' hp' hq'
  rw [he] at h'
  exact Back.mk (makAll w sg ls' xs' i' ps' qs') rfl (by rw [ho]; exact ob_cons rfl (by decide) rfl (ob_cons rfl (by decide) (lin_lo _) (ob_cons rfl (by decide) (acc_lo _ _) (ob_cons rfl (by decide) rfl (ob_cons rfl (by decide) rfl ob_nil))))) hf rfl h'
 have hlen:xs.length≤59:=by have:=hz.1; simp at this; lia
 have nxs:Nice xs:=⟨by lia,fun q hq=>hz.2 q (by simp [hq])⟩
 have np:=hz.2 (f,sx) (by simp)
 refine ss_cons (ss_expr (sp_meth (sp_attr (sp_name rfl (at_get rfl rfl M.gCur rfl rfl (at_meth rfl rfl M.mPush rfl ⟨.inr (.inr M.kPush),sp_name rfl (sp_name rfl ?_)⟩))))))
 refine push_c A (d:=d+1) (by exact aS ‹_› rfl) (by lia) rfl ⟨rfl,?_⟩
 show SpSs c (d+1) (u+3) chEn (chunk_d.1.2.1.drop 1) ⟨[("self",.ref 0),("fws",.str f),("string",.str sx)],makAll w sg ls (xs++[(f,sx)]) i ps qs,100,cx.fr⟩ _
 refine ss_cons (ss_if (st_cmp (sp_call (sp_bltn (v:=.builtin "len") B.lenN (by decide +kernel) ⟨_,rfl,.inl ⟨_,rfl⟩,sp_attr (sp_name rfl (at_get rfl rfl M.gCur rfl rfl ?_))⟩))))
 refine c_lenI rfl rfl D.lenS ?_
 refine len_c A B (d:=d+1) (by exact aS ‹_› rfl) hz.small hI (.cons _ (.cons _ (.cons₂ _ (.cons₂ _ (.cons _ .slnil))))) hp fun ps' hp'=>⟨_,rfl,?_,?_,sp_attr (sp_name rfl (at_get rfl rfl M.gMax rfl rfl (o_gti ⟨_,rfl,?_⟩)))⟩
 ·have:=total_nice hz; lia
 ·have:=total_nice hz; lia
 by_cases ht:i+total wide (xs++[(f,sx)])>w
 rotate_left
 ·refine ite_f (by simpa using ht) (ss_nil (ss_nil ?_))
  exact fin hp' hq (by simp only [chunk,ht,if_false]) rfl rfl rfl
 refine ite_t (by simpa using ht) ?_
 show SpSs c (d+1) (u+3) chEn (thenOf (stAt chunk_d.1.2.1 1)) ⟨[("self",.ref 0),("fws",.str f),("string",.str sx)],makAll w sg ls (xs++[(f,sx)]) i ps' qs,100,cx.fr⟩ _
 refine ss_cons (outer_c A B D M N P hd hu hz rfl (by simp) (fun e loc' hs'=>?_) (fun k e loc' hs' hi'=>?_))
 ·refine ss_cons (ss_tup (sp_meth (sp_attr (sp_name hs' (at_get rfl rfl M.gCur rfl rfl (at_meth rfl rfl M.mPop rfl ⟨.inr (.inr M.kPop),?_⟩))))))
  refine pop_c A B (d:=d+1) (xs:=xs) (p:=(f,sx)) (by exact aS ‹_› rfl) (by lia) rfl ?_
  refine a_tup (show SpAs _ _ _ _ _ _ _ _ from a_name (a_name ?_))
  have a3:(setL ("part":Str) (.str sx) (setL ("fws":Str) (.str f) loc')).lookup ("self":Str)=some (.ref 0):=by rw [lookup_setL,if_neg (by decide),lookup_setL,if_neg (by decide)]; exact hs'
  have b3:(setL ("part":Str) (.str sx) (setL ("fws":Str) (.str f) loc')).lookup ("part":Str)=some (.str sx):=get_put
  have c3:(setL ("part":Str) (.str sx) (setL ("fws":Str) (.str f) loc')).lookup ("fws":Str)=some (.str f):=by rw [lookup_setL,if_neg (by decide),lookup_setL,if_pos rfl]
  show SpSs c (d+1) (u+3) chEn ((forElse outer).drop 1) ⟨setL ("part":Str) (.str sx) (setL ("fws":Str) (.str f) loc'),makAll w sg ls xs i ps' qs,100,cx.fr⟩ _
  generalize setL ("part":Str) (.str sx) (setL ("fws":Str) (.str f) loc')=loc3 at a3 b3 c3
  have last:∀ {ls' xs' i' f' ps' qs' loc4},TabL 95 19 ps'→TabL 98 32 qs'→xs'.length<100→chunk w sg (ls,xs,i) (f,sx)=(ls',xs'++[(f',sx)],i')→loc4.lookup ("self":Str)=some (.ref 0)→loc4.lookup ("part":Str)=some (.str sx)→loc4.lookup ("fws":Str)=some (.str f') →
    SpSs c (d+1) (u+3) chEn ((forElse outer).drop 2) ⟨loc4,makAll w sg ls' xs' i' ps' qs',100,cx.fr⟩ (Then c (d+1) (u+3) chEn ((thenOf (stAt chunk_d.1.2.1 1)).drop 1) (Then c (d+1) (u+3) chEn [] fun fl cx'=>Back cx (makAll w sg ls xs i ps qs) K fl.val cx')):=by
   intro ls' xs' i' f' ps' qs' loc4 hp' hq' hx' he a4 b4 c4
   refine ss_cons (ss_expr (sp_meth (sp_attr (sp_name a4 (at_get rfl rfl M.gCur rfl rfl (at_meth rfl rfl M.mPush rfl ⟨.inr (.inr M.kPush),sp_name c4 (sp_name b4 ?_)⟩))))))
   refine push_c A (d:=d+1) (by exact aS ‹_› rfl) (by exact aR ‹_› rfl) rfl ⟨rfl,?_⟩
   exact ss_cons (ss_ret0 (fin hp' hq' he rfl rfl rfl))
  refine ss_cons (ss_if (st_cmp (sp_attr (sp_attr (sp_name a3 (at_get rfl rfl M.gCur rfl rfl (at_get rfl rfl B.getI rfl rfl (sp_int (o_gti ⟨_,rfl,?_⟩)))))))))
  by_cases hi0:i>0
  rotate_left
  ·refine ite_f (by simpa using hi0) (ss_nil ?_)
   exact last hp' hq (by lia) (by simp only [chunk,ht,if_true,e,hi0,if_false]) a3 b3 c3
  refine ite_t (by simpa using hi0) ?_
  refine ss_cons (ss_expr (sp_meth (sp_name a3 (at_meth rfl rfl M.mNewline rfl ⟨.inr (.inr M.kNewline),?_⟩))))
  refine newline_c A B D M (d:=d+1) (by exact aS ‹_› rfl) (by exact aS ‹_› rfl) nxs hI (by lia) hls (List.Sublist.refl _) hp' hq fun ps2 qs2 hp2 hq2=>⟨rfl,?_⟩
  refine ss_cons (ss_if (st_not (st_val (sp_name c3 (tr_str (by have:f.length≤100:=np.1; lia) ?_)))))
  by_cases hf0:(f.length:Int)=0
  ·refine ite_t (by simp [hf0]) ?_
   refine ss_cons (ss_assign (sp_str (ss_nil (ss_nil ?_))))
   refine last (xs':=[]) (f':=" ") hp2 hq2 (by decide) (by simp only [chunk,ht,if_true,e,hi0,blankOr,hf0]; rfl) ?_ ?_ ?_
   ·show (setL ("fws":Str) (.str " ") loc3).lookup ("self":Str)=_
    exact get_ne a3
   ·show (setL ("fws":Str) (.str " ") loc3).lookup ("part":Str)=_
    exact get_ne b3
   ·show (setL ("fws":Str) (.str " ") loc3).lookup ("fws":Str)=_
    rw [lookup_setL,if_pos rfl]
  ·refine ite_f (by simpa using hf0) (ss_nil (ss_nil ?_))
   exact last (xs':=[]) (f':=f) hp2 hq2 (by decide) (by simp only [chunk,ht,if_true,e,hi0,blankOr,hf0]; rfl) a3 b3 c3
 ·show SpSs c (d+1) (u+3) chEn ((thenOf (stAt chunk_d.1.2.1 1)).drop 1) ⟨loc',makAll w sg ls (xs++[(f,sx)]) i ps' qs,100,cx.fr⟩ _
  refine ss_cons (ss_assign (sp_meth (sp_attr (sp_name hs' (at_get rfl rfl M.gCur rfl rfl (at_meth rfl rfl M.mPopFrom rfl ⟨.inr (.inr M.kPopFrom),sp_name hi' ?_⟩))))))
  refine pop_from_c A B (d:=d+1) (by exact aS ‹_› rfl) (by simp; lia) (by lia) rfl ?_
  rw [show ((k:Nat):Int).toNat=k from rfl]
  have hs2:(setL ("remainder":Str) (.fl (((xs++[(f,sx)]).drop k).map ppS)) loc').lookup ("self":Str)=some (.ref 0):=get_ne hs'
  have hr2:(setL ("remainder":Str) (.fl (((xs++[(f,sx)]).drop k).map ppS)) loc').lookup ("remainder":Str)=some (.fl (((xs++[(f,sx)]).drop k).map ppS)):=get_put
  show SpSs c (d+1) (u+3) chEn ((thenOf (stAt chunk_d.1.2.1 1)).drop 2) ⟨setL ("remainder":Str) (.fl (((xs++[(f,sx)]).drop k).map ppS)) loc',makAll w sg ls ((xs++[(f,sx)]).take k) i ps' qs,100,cx.fr⟩ _
  generalize setL ("remainder":Str) (.fl (((xs++[(f,sx)]).drop k).map ppS)) loc'=loc3 at hs2 hr2
  have nt:Nice ((xs++[(f,sx)]).take k):=⟨Nat.le_trans (List.length_take_le' ..) hz.1,fun q hq=>hz.2 q (List.mem_of_mem_take hq)⟩
  refine ss_cons (ss_expr (sp_meth (sp_attr (sp_name hs2 (at_get rfl rfl M.gLines rfl rfl (m_list rfl slot_list_append type_list_append ⟨.inl ⟨_,rfl⟩,?_⟩))))))
  refine sp_call (sp_bltn (v:=.type "str") D.strN (by decide +kernel) ⟨_,rfl,.inr (.inl ⟨_,rfl⟩),sp_attr (sp_name hs2 (at_get rfl rfl M.gCur rfl rfl ?_))⟩)
  refine c_strI (by exact aS ‹_› rfl) rfl rfl D.strS ?_
  refine str_c A B (d:=d+1) (by exact aS ‹_› rfl) nt.small (.cons _ (.cons _ (.cons₂ _ (.cons _ (.cons₂ _ .slnil))))) hq (fun qs2 hq2=>⟨_,rfl,?_⟩) nt.fits.2
  refine c_append rfl (by simp; lia) ⟨rfl,?_⟩
  refine ss_cons (ss_expr (sp_meth (sp_attr (sp_name hs2 (at_get rfl rfl M.gCur rfl rfl (at_meth rfl rfl M.mReset rfl ⟨.inr (.inr M.kReset),sp_name hr2 ?_⟩))))))
  refine reset_c A B (d:=d+1) (by exact aS ‹_› rfl) rfl (by first | exact Nat.le_trans (Nat.le_of_eq (by rw [← List.length_append,List.take_append_drop])) (Nat.le_trans hz.1 (by decide)) | exact Nat.le_trans (Nat.le_of_eq (by rw [Nat.add_comm,← List.length_append,List.take_append_drop])) (Nat.le_trans hz.1 (by decide))) ⟨rfl,ss_nil (ss_nil ?_)⟩
  refine fin (ls':=ls++[text ((xs++[(f,sx)]).take k)]) (xs':=(xs++[(f,sx)]).drop k) (i':=0) hp' hq2 (by simp only [chunk,ht,if_true,e]) ?_ rfl rfl
  have e2:linO (ls++[text ((xs++[(f,sx)]).take k)])=SO.list (ls.map SV.str++[SV.str (text ((xs++[(f,sx)]).take k))]):=by simp [linO]
  show _=[(0,makO w sg),(1,linO (ls++[text ((xs++[(f,sx)]).take k)])),(2,accO ((xs++[(f,sx)]).drop k) 0),(8,tabA ps'),(9,tabB qs2)]
  rw [e2]
  rfl
end
theorem strs_are' {g:Heap} {am:Am}:∀ {ls:List Str} {vs:List Value},VRs g am (ls.map .str) vs→StrsAre vs ls
 | [],_,.nil=>.nil
 | x :: ls,_,.cons h hs=>by cases h using VR.strE; exact .cons _ _ (strs_are' hs)
section
variable {c:Cst} {d u:Nat} {cx:Cx}
theorem o_addf {xs ys:List SV} {K:SV→Cx→Prop} (hz:xs.length+ys.length≤1000000) (h:K (.fl (xs++ys)) cx):Sp2 c d u (fun x y=>binaryOp .Add x y) VR (.fl xs) (.fl ys) cx K:=fun fx g am L s _ _ R q q'=>by
 cases q using VR.flE with
 | mk _ _ ho hv =>
  cases q' using VR.flE with
  | mk _ _ ho2 hv2 =>
   rename_i vs a ws b
   refine hide fun Go jo=>?_
   obtain ⟨⟨cls,dd,data,sl⟩,e,hc,n,hd⟩:=isList_le R.sub ho
   obtain ⟨⟨cls2,dd2,data2,sl2⟩,e2,hc2,n2,hd2⟩:=isList_le R.sub ho2
   refine jo ?_
   simp only at hc hd hc2 hd2
   subst hc hd hc2 hd2
   have ee:vs.toArray++ws.toArray=(vs++ws).toArray:=by simp
   refine concat_meets ⟨_,e,rfl⟩ ⟨_,e2,rfl⟩ noFill_list_add seq_list_add PySem.F.slot_list_add PySem.F.entry_list_add (PySem.F.args_list_add_2 _ _) (list_addW a b vs.toArray ws.toArray n n2 dd dd2 sl sl2 (by have:=hv.length; have:=hv2.length; rw [sizeLine_eq]; simp; lia)) ⟨e,e2,?_⟩
   rw [ee]
   refine hide fun Go jo=>?_
   obtain ⟨g2,le,e3,r2⟩:=R.pushF (o:={ cls:=.type "list",data:=.seq (vs++ws).toArray }) rfl (t:=s.toks)
   refine jo ?_
   exact ⟨g2,am,cx,.fl (xs++ys),le,.refl _,r2,.fl ⟨_,e3,rfl,_,rfl⟩ ((hv.append hv2).mono le (.refl _)),h⟩
theorem o_addt {x y:SV} {xs ys:List SV} {K:SV→Cx→Prop} (hz:xs.length+ys.length≤1000) (h:K (.tup (x :: xs++y :: ys)) cx):Sp2 c d u (fun x y=>binaryOp .Add x y) VR (.tup (x :: xs)) (.tup (y :: ys)) cx K:=fun fx g am L s _ _ R q q'=>by
 cases q using VR.tupE with
 | mk _ _ ho hv =>
  cases q' using VR.tupE with
  | mk _ _ ho2 hv2 =>
   rename_i vs a ws b
   refine hide fun Go jo=>?_
   obtain ⟨⟨cls,dd,data,sl⟩,e,hc,n,hd⟩:=isTup_le R.sub ho
   obtain ⟨⟨cls2,dd2,data2,sl2⟩,e2,hc2,n2,hd2⟩:=isTup_le R.sub ho2
   refine jo ?_
   simp only at hc hd hc2 hd2
   subst hc hd hc2 hd2
   have hl:=hv.length
   have hl2:=hv2.length
   simp only [List.length_cons] at hl hl2
   have ee:vs.toArray++ws.toArray=(vs++ws).toArray:=by simp
   refine concat_meets ⟨_,e,rfl⟩ ⟨_,e2,rfl⟩ noFill_tuple_add seq_tuple_add PySem.F.slot_tuple_add PySem.F.entry_tuple_add (PySem.F.args_tuple_add_2 _ _) (tuple_addW2 a b vs.toArray ws.toArray n n2 dd dd2 sl sl2 (by cases hv using VRs.consE; simp) (by cases hv2 using VRs.consE; simp) (by rw [sizeLine_eq]; simp; lia)) ⟨e,e2,?_⟩
   rw [ee]
   refine hide fun Go jo=>?_
   obtain ⟨g2,le,e3,r2⟩:=R.pushF (o:={ cls:=.type "tuple",data:=.seq (vs++ws).toArray }) rfl (t:=s.toks)
   refine jo ?_
   exact ⟨g2,am,cx,.tup (x :: xs++y :: ys),le,.refl _,r2,.tup ⟨_,e3,rfl,_,rfl⟩ ((hv.append hv2).mono le (.refl _)),h⟩
theorem size_rep (a:Array Nat):∀ (n:Nat) (b:Array Nat),((List.replicate n a).foldl (· ++ ·) b).size=b.size+n * a.size
 | 0,b=>by simp
 | n+1,b=>by rw [List.replicate_succ,List.foldl_cons,size_rep a n,Array.size_append,Nat.succ_mul]; lia
noncomputable def repS (x:Str) (n:Int):Str:=if (n==1||x.length==0)=true then x else ⟨(List.replicate n.toNat x.cps).foldl (· ++ ·) #[]⟩
theorem sl_str {o i:Expr} {x:Str} {y:Option Int×Option Int} {K:SV→Cx→Prop} (hz:x.length≤1000000) (h:K (.str (Txt.slice x y.1 y.2)) cx):SpSl c d u (fun a b=>subscriptTail o i a b) VR (.str x) y cx K:=fun fx g am L s _ _ R q q'=>by
 refine hide fun Go jo=>?_
 obtain ⟨sl,vl,vu,rfl,⟨os,hos,hc,hd⟩,pl,pu⟩:=q'
 obtain ⟨lo,hi⟩:=y
 cases q using VR.strE
 refine jo ?_
 rename_i t
 have fit:∀ a b,(Txt.slice x a b).length≤sizeLine:=fun a b=>Nat.le_trans (Txt.slice_le x _ _) (by rw [sizeLine_eq]; lia)
 refine tail_of (notPy (typeIs_str _ _ _) PySem.F.slot_str_getitem.lookup) ?_
 cases pl <;> cases pu
 ·exact wpAny_getItem_str_slice (l:=none) (u:=none) (st:=none) ⟨os,R.sub _ _ hos,hc,hd⟩ rfl (post_val_or_str ⟨fit _ _,fun t' k=>Ends.here (R.toks (t:=k)) (.str _ _) h⟩)
 ·rename_i j uj
  exact wpAny_getItem_str_slice (l:=none) (u:=some (j,uj)) (st:=none) ⟨os,R.sub _ _ hos,hc,hd⟩ rfl (post_val_or_str ⟨fit _ _,fun t' k=>Ends.here (R.toks (t:=k)) (.str _ _) h⟩)
 ·rename_i i ui
  exact wpAny_getItem_str_slice (l:=some (i,ui)) (u:=none) (st:=none) ⟨os,R.sub _ _ hos,hc,hd⟩ rfl (post_val_or_str ⟨fit _ _,fun t' k=>Ends.here (R.toks (t:=k)) (.str _ _) h⟩)
 ·rename_i i ui j uj
  exact wpAny_getItem_str_slice (l:=some (i,ui)) (u:=some (j,uj)) (st:=none) ⟨os,R.sub _ _ hos,hc,hd⟩ rfl (post_val_or_str ⟨fit _ _,fun t' k=>Ends.here (R.toks (t:=k)) (.str _ _) h⟩)
theorem o_muls {x:Str} {n:Int} {K:SV→Cx→Prop} (hn:1≤n∧n≤100) (hx:x.length≤100) (h:K (.str (repS x n)) cx):Sp2 c d u (fun x y=>binaryOp .Mult x y) VR (.str x) (.int n) cx K:=fun fx g am L s _ _ R q q'=>by
 cases q using VR.strE; cases q' using VR.intE
 refine P.mul_str (by rw [decide_eq_false (by lia),decide_eq_false (by lia)]; rfl) (fun _ _=>?_) (fun _ _=>?_) ?_
 ·have:(1:Int)≤(2 ^ 63 - 1) / n:=(Int.le_ediv_iff_mul_le (by lia)).mpr (by lia)
  have h2:(100:Int)≤(2 ^ 63 - 1) / n:=(Int.le_ediv_iff_mul_le (by lia)).mpr (by lia)
  lia
 ·have h3:n.toNat≤100:=by lia
  have h4:=Nat.mul_le_mul hx h3
  show decide (x.length * n.toNat>sizeLine)=false
  rw [sizeLine_eq]
  exact decide_eq_false (by lia)
 ·first | (with_reducible refine wp_neg ?_ ?_; · exact (by omega)) | rw [if_neg (by lia)]
  unfold repS at h
  refine post_val_or_str ⟨?_,fun t' k=>Ends.here (R.toks (t:=k)) (.str _ _) h⟩
  rw [sizeLine_eq]
  split
  ·lia
  ·have h3:n.toNat≤100:=by lia
   have h4:=Nat.mul_le_mul h3 hx
   show ((List.replicate n.toNat x.cps).foldl (· ++ ·) #[]).size≤_
   rw [size_rep]
   have h5:x.cps.size=x.length:=rfl
   rw [h5]
   simp
   lia
theorem o_intup {x:Str} {ys:List Str} {K:SV→Cx→Prop} (hu:u<9000) (hx:PyData.strOk x=true) (hy:∀ y∈ys,PyData.strOk y=true) (h:K (.bool ((ys.map PyData.str).any fun y=>PyData.eqv y (.str x))) cx) :
  Sp2 c d u (fun x y=>compareOp .In x y) VR (.str x) (.tup (ys.map .str)) cx K:=fun fx g am L s _ _ R q q'=>by
 cases q using VR.strE
 cases q' using VR.tupE with
 | mk _ _ ho hv =>
  refine hide fun Go jo=>?_
  obtain ⟨o,e1,e2,n,e3⟩:=isTup_le R.sub ho
  refine jo ?_
  have rs:∀ {ys:List Str} {vs:List Value},VRs g am (ys.map .str) vs→ReadsAll s.heap vs (ys.map PyData.str) []:=by
   intro ys
   induction ys with
   | nil=>intro vs hv; cases hv using VRs.nilE; exact .nil
   | cons y ys ih=>intro vs hv; cases hv using VRs.consE with | mk _ _ q hv=>cases q using VR.strE; exact .cons (as:=[]) (bs:=[]) (.str _ _) (ih hv)
  have cl:∀ {ys:List Str},(∀ y∈ys,PyData.strOk y=true)→PyData.canLayAll0 (ys.map PyData.str)=true:=by
   intro ys
   induction ys with
   | nil=>intro _; rfl
   | cons y ys ih=>intro hy; simp only [List.map_cons,PyData.canLayAll0,PyData.canLay0,hy y (by simp),ih (fun z hz=>hy z (by simp [hz])),Bool.and_self]
  exact SeqAt.in_tuple_reads (.tuple e1 e2 e3 (rs hv)) (.str _ _) (cl hy) (by simp [PyData.canLay0,hx]) (by have h0:PyData.depth (.str x)=0:=rfl; rw [h0,Nat.min_zero]; show u+1+0<9900; lia) (Ends.here R (.bool _) h)
theorem c_typeS {x:Str} {K:SV→Cx→Prop} (h:K (.g (.type "str")) cx):SpC c d u (.type "type") [.str x] cx K:=fun fx g am L s vs R q=>by
 cases q using VRs.consE with
 | mk _ _ q1 q=>cases q using VRs.nilE; cases q1 using VR.strE; exact call_type_of (typeIs_str _ _ _) (by decide) (Ends.here R (.g _) h)
theorem c_typeI {x:Int} {K:SV→Cx→Prop} (h:K (.g (.type "int")) cx):SpC c d u (.type "type") [.int x] cx K:=fun fx g am L s vs R q=>by
 cases q using VRs.consE with
 | mk _ _ q1 q=>cases q using VRs.nilE; cases q1 using VR.intE; exact call_type_of (typeIs_int _ _ _) (by decide) (Ends.here R (.g _) h)
theorem o_isnT {a b:String} {K:SV→Cx→Prop} (h:K (.bool (!(Value.type a==Value.type b))) cx):Sp2 c d u (fun x y=>compareOp .IsNot x y) VR (.g (.type a)) (.g (.type b)) cx K:=fun _ _ _ _ _ _ _ R q q'=>by
 cases q using VR.gE; cases q' using VR.gE
 exact wpAny_isNot_plain rfl (Ends.here R (.bool _) h)
theorem c_isS {x:Str} {K:SV→Cx→Prop} (h:K (.bool true) cx):SpC c d u (.builtin "isinstance") [.str x,.g (.type "str")] cx K:=fun fx g am L s vs R q=>by
 cases q using VRs.consE with
 | mk _ _ q1 q=>cases q using VRs.consE with
  | mk _ _ q2 q=>cases q using VRs.nilE; cases q1 using VR.strE; cases q2 using VR.gE; exact call_isinstance_yes (typeIs_str _ _ _) (by rfl) (by rw [isSubtype_type]; kernel_rfl) (Ends.here R (.bool _) h)
theorem c_intc {n:Int} {K:SV→Cx→Prop} (h:K (.int n) cx):SpC c d u (.type "int") [.int n] cx K:=fun fx g am L s vs R q=>by
 cases q using VRs.consE with
 | mk _ _ q1 q=>cases q using VRs.nilE; cases q1 using VR.intE; exact call_int_int (Ends.here R (.int _ _) h)
theorem c_lenf {xs:List SV} {K:SV→Cx→Prop} (hz:xs.length≤1000000) (h:K (.int xs.length) cx):SpC c d u (.builtin "len") [.fl xs] cx K:=fun fx g am L s vs R q=>by
 cases q using VRs.consE with
 | mk _ _ q1 q =>
  cases q using VRs.nilE
  cases q1 using VR.flE with
  | mk _ _ ho hv =>
   have hl:=hv.length
   refine PyProof.Rows.len_list (isList_le R.sub ho) (by simp; lia) ?_
   exact Ends.here R.toks (.int _ _) (by simpa [← hl] using h)
theorem c_lenl {n:Nat} {xs:List SV} {K:SV→Cx→Prop} (hi:cx.obj.lookup n=some (.list xs)) (hz:xs.length≤1000000) (h:K (.int xs.length) cx):SpC c d u (.builtin "len") [.ref n] cx K:=fun fx g am L s vs R q=>by
 cases q using VRs.consE with
 | mk _ _ q1 q =>
  refine hide fun Go jo=>?_
  cases q using VRs.nilE
  obtain ⟨a,vs,rfl,ea,hm,ht,hv⟩:=R.lst hi q1
  refine jo ?_
  have hl:=hv.length
  refine PyProof.Rows.len_list ht.isList (by simp; lia) ?_
  exact Ends.here R.toks (.int _ _) (by simpa [← hl] using h)
theorem c_joinf {sep:Str} {ls:List Str} {K:SV→Cx→Prop} (hok:(ls.map (·.length)).sum+ls.length * sep.length≤16777216) (h:K (.str (Txt.join sep ls)) cx):SpC c d u (.builtin "str.join") [.str sep,.fl (ls.map .str)] cx K:=fun fx g am L s vs R q=>by
 cases q using VRs.consE with
 | mk _ _ q1 q=>cases q using VRs.consE with
  | mk _ _ q2 q =>
   cases q using VRs.nilE; cases q1 using VR.strE
   cases q2 using VR.flE with
   | mk _ _ ho hv=>exact join_list (isList_le R.sub ho) (by simpa using strs_are' hv) hok fun t' k=>Ends.here R.toks (.str _ _) h
end
noncomputable abbrev dqT:String:="collections.deque"
theorem mro_dq:mroOf (.type "collections.deque")=pure [.type "collections.deque",.type "object"]:=by rw [mroOf_type]; kernel_rfl
theorem lookup_dq_new:typeLookup (.type "collections.deque") "__new__" = pure (some (.builtin "collections.deque.__new__")):=by rw [typeLookup_type,builtinLookup_eq_fast]; kernel_rfl
theorem slot_dq_init:Slot "collections.deque" "__init__" "collections.deque.__init__":=.of (owner:="collections.deque") (n:="__init__") (by rw [typeLookup_type,builtinLookup_eq_fast]; kernel_rfl) (by decide +kernel) (by decide +kernel) (by decide +kernel)
 (.inl (by decide +kernel)) (by rw [isSubtype_type]; kernel_rfl)
theorem slot_dq_len:Slot "collections.deque" "__len__" "collections.deque.__len__":=.of (owner:="collections.deque") (n:="__len__") (by rw [typeLookup_type,builtinLookup_eq_fast]; kernel_rfl) (by decide +kernel) (by decide +kernel) (by decide +kernel)
 (.inl (by decide +kernel)) (by rw [isSubtype_type]; kernel_rfl)
theorem slot_dq_app:Slot "collections.deque" "appendleft" "collections.deque.appendleft":=.of (owner:="collections.deque") (n:="appendleft") (by rw [typeLookup_type,builtinLookup_eq_fast]; kernel_rfl) (by decide +kernel) (by decide +kernel) (by decide +kernel)
 (.inr (by decide +kernel)) (by rw [isSubtype_type]; kernel_rfl)
theorem slot_dq_pop:Slot "collections.deque" "popleft" "collections.deque.popleft":=.of (owner:="collections.deque") (n:="popleft") (by rw [typeLookup_type,builtinLookup_eq_fast]; kernel_rfl) (by decide +kernel) (by decide +kernel) (by decide +kernel)
 (.inr (by decide +kernel)) (by rw [isSubtype_type]; kernel_rfl)
theorem nobool_dq:typeLookup (.type "collections.deque") "__bool__" = pure none:=by rw [typeLookup_type,builtinLookup_eq_fast]; kernel_rfl
theorem called_dq:TypeCalled "collections.deque" "collections.deque.__new__" "collections.deque.__init__" :=
 ⟨by decide +kernel,by decide +kernel,⟨_,_,mro_dq⟩,madeBy_type mro_dq lookup_dq_new (by decide +kernel),by decide +kernel,by rw [isSubtype_type]; kernel_rfl,slot_dq_init⟩
theorem typeCall_dq:checkTypeCall "collections.deque" ⟨[],[]⟩=pure ():=by kernel_rfl
theorem newCall_dq:checkBuiltinCall "collections.deque.__new__" ⟨[.type "collections.deque"],[]⟩=pure ():=by kernel_rfl
theorem entry_dq_new:entryFor table "collections.deque.__new__" = some Builtin.«collections.deque.__new__»:=entryFor_of_tree (by kernel_rfl)
theorem entry_dq_init:entryFor table "collections.deque.__init__" = some Builtin.«collections.deque.__init__»:=entryFor_of_tree (by kernel_rfl)
theorem entry_dq_len:entryFor table "collections.deque.__len__" = some Builtin.«collections.deque.__len__»:=entryFor_of_tree (by kernel_rfl)
theorem entry_dq_app:entryFor table "collections.deque.appendleft" = some Builtin.«collections.deque.appendleft»:=entryFor_of_tree (by kernel_rfl)
theorem entry_dq_pop:entryFor table "collections.deque.popleft" = some Builtin.«collections.deque.popleft»:=entryFor_of_tree (by kernel_rfl)
theorem args_dq_init (a:Value):argsOk "collections.deque.__init__" ⟨[a],[]⟩:=by unfold argsOk; kernel_rfl
theorem args_dq_len (a:Value):argsOk "collections.deque.__len__" ⟨[a],[]⟩:=by unfold argsOk; kernel_rfl
theorem args_dq_app (a b:Value):argsOk "collections.deque.appendleft" ⟨[a,b],[]⟩:=by unfold argsOk; kernel_rfl
theorem args_dq_pop (a:Value):argsOk "collections.deque.popleft" ⟨[a],[]⟩:=by unfold argsOk; kernel_rfl
theorem plain_dq_new:plainId "collections.deque.__new__" = true:=by decide +kernel
theorem type_dq_app:typeOf (.builtin "collections.deque.appendleft")=pure (.type "method_descriptor"):=by show builtinType _=_; rw [builtinType_eq_fast]; kernel_rfl
theorem type_dq_pop:typeOf (.builtin "collections.deque.popleft")=pure (.type "method_descriptor"):=by show builtinType _=_; rw [builtinType_eq_fast]; kernel_rfl
theorem plainAttrs_dq:PlainAttrs "collections.deque" :=
 ⟨⟨"collections.deque.__getattribute__",by rw [typeLookup_type,builtinLookup_eq_fast]; kernel_rfl,by decide +kernel⟩,by rw [typeLookup_type,builtinLookup_eq_fast]; kernel_rfl⟩
theorem dict_dq:typeHasDict (.type "collections.deque")=false:=by kernel_rfl
theorem sub_dq:isSubtype (.type "collections.deque") (.type "collections.deque")=pure true:=by rw [isSubtype_type]; kernel_rfl
section
variable {prog:Program} {w:World} {A:Around} {E:Value→Shared→Prop} {s:Shared}
theorem dq_type {a:Addr} {vs:List Value} {k:Int} (h:s.heap.get? a=some (deqObj vs k)):s.TypeIs (.ref a) "collections.deque":=⟨_,h,rfl⟩
theorem code_dq_new {Q₁:Value→Shared→Prop} (h:Q₁ (.ref s.heap.objs.size) { s with heap:=s.heap.push (deqObj [] 0) }) :
  codeAny (model prog w) A (.call (.builtin "collections.deque.__new__") ⟨[.type "collections.deque"],[]⟩) (wants Q₁ E) s:=by
 refine codeAny_of_tree ?_
 show wpAny _ A.in1 (do checkBuiltinCall "collections.deque.__new__" ⟨[.type "collections.deque"],[]⟩; again (.builtin "collections.deque.__new__" ⟨[.type "collections.deque"],[]⟩)) _ _ s
 refine wpAny_bind (wpAny_of_eq newCall_dq (wpAny_pure ⟨plainId_quiet plain_dq_new _,codeAny_builtin entry_dq_new ?_⟩))
 rw [Around.under_plainId plain_dq_new _]
 unfold Builtin.«collections.deque.__new__» Builtin.Deque.newArgs Builtin.Deque.new
 have hsub:=sub_dq
 have hdict:=dict_dq
 refine hide fun Go jo=>?_
 obtain ⟨hp,g,d,tk,os⟩:=s
 refine jo ?_
 dsimp only
 wp_walk
 refine wpAny_of_eq (show isSubtype (.type "collections.deque") (.type Builtin.Deque.ty)=pure true from sub_dq) (wpAny_pure ?_)
 have hz:¬ ((#[]:Array Value).size>sizeLine):=by decide
 simp only [Bool.false_eq_true,if_false,if_neg hz,hdict]
 simp only [newObj]
 exact wpAny_bind (wpAny_bind (wpAny_pure (wpAny_bind (wpAny_alloc (wpAny_pure (wpAny_pure h))))))
theorem dq_map {a:Addr} {vs:List Value} {k:Int} {h:Heap} (e:h.get? a=some (deqObj vs k)) (f:Array Value→Array Value) (vs':List Value) (k':Int) (hf:f (#[.none,rawInt k]++vs.toArray) = #[.none,rawInt k']++vs'.toArray):(h.update a (Obj.mapFields f)).get? a=some (deqObj vs' k'):=by
 have:=Heap.get?_update_self (Obj.mapFields f) e rfl
 rw [this]
 show some ({ cls:=.type "collections.deque",data:=.fields (f (#[.none,rawInt k]++vs.toArray)) }:Obj)=_
 rw [hf]
theorem dq_state {a:Addr} {vs:List Value} {k:Int} {Q:Int→Shared→Prop} (e:s.heap.get? a=some (deqObj vs k)) (q:Q k s):wpAny (model prog w) A (Builtin.Deque.state (.ref a)) Q E s:=by
 unfold Builtin.Deque.state
 refine wpAny_bind (wpAny_field e rfl (x:=rawInt k) (by simp) ?_)
 exact wpAny_pure q
theorem dq_items {a:Addr} {vs:List Value} {k:Int} {Q:Array Value→Shared→Prop} (e:s.heap.get? a=some (deqObj vs k)) (q:Q vs.toArray s):wpAny (model prog w) A (Builtin.Deque.items (.ref a)) Q E s:=by
 unfold Builtin.Deque.items
 refine wpAny_bind (wpAny_fieldsOf e rfl (wpAny_pure ?_))
 have:(#[Value.none,rawInt k]++vs.toArray).extract 2 (#[Value.none,rawInt k]++vs.toArray).size=vs.toArray:=by simp
 rw [this]; exact q
theorem dq_init {n:Addr} {Q:Fin→Shared→Prop} (hS:s.heap.get? n=some (deqObj [] 0)) (hq:Q (.done (.ret .none)) { s with heap:=s.heap.update n (Obj.mapFields (·.setIfInBounds 0 .none)) }) :
  wpAny (model prog w) A (Builtin.«collections.deque.__init__» ⟨[.ref n],[]⟩) Q E s:=by
 unfold Builtin.«collections.deque.__init__»
 refine hide fun Go jo=>?_
 obtain ⟨hp,g,d,tk,os⟩:=s
 refine jo ?_
 dsimp only at hS hq ⊢
 have e2:(hp.update n (Obj.mapFields (·.setIfInBounds 0 .none))).get? n=some (deqObj [] 0):=dq_map hS _ [] 0 rfl
 wp_walk
 exact hq
theorem call_dq {Q:Value→Shared→Prop} (h:Q (.ref s.heap.objs.size) { s with heap:=(s.heap.push (deqObj [] 0)).update s.heap.objs.size (Obj.mapFields (·.setIfInBounds 0 .none)) }) :
  wpAny (model prog w) A (call (.type "collections.deque") []) Q E s:=by
 obtain ⟨c,tl,hmro⟩:=called_dq.mro
 have hmade:=called_dq.made
 have hsub:=called_dq.sub
 refine wpAny_call (codeAny_of_tree ?_)
 show wpAny _ _ (callAny (.type "collections.deque") _) _ _ _
 refine wpAny_pure ⟨Code.quiet_builtin _ (by decide +kernel),codeAny_builtin F.entry_type_call ?_⟩
 rw [Around.under_plain (weight_type_call_type "collections.deque" [] []) rfl]
 have h1:=called_dq.notType
 have h2:=called_dq.canCreate
 have hct:=typeCall_dq
 repeat (any_goals (first | assumption | wp_step))
 refine codeAny_mono (code_dq_new (E:=E) (Q₁:=fun obj s₁=>obj = .ref s.heap.objs.size∧s₁ = { s with heap:=s.heap.push (deqObj [] 0) }) ⟨rfl,rfl⟩) fun r s₁ hr=>?_
 cases r with
 | error e=>exact hr
 | ok fl =>
  cases fl with
  | ret obj =>
   refine hide fun Go jo=>?_
   obtain ⟨rfl,rfl⟩:=hr
   refine jo ?_
   have hS:(s.heap.push (deqObj [] 0)).get? s.heap.objs.size=some (deqObj [] 0):=Heap.get?_push_size _ rfl
   have hT:Shared.TypeIs { s with heap:=s.heap.push (deqObj [] 0) } (.ref s.heap.objs.size) "collections.deque":=⟨_,hS,rfl⟩
   have hli:=called_dq.init.lookup
   have hbi:=called_dq.init.bind (.ref s.heap.objs.size)
   repeat (any_goals (first | assumption | wp_step))
   refine codeAny_mono (codeAny_call_builtin (R:=wants (fun r s₂=>r = .none∧Q (.ref s.heap.objs.size) s₂) E) called_dq.init.plain entry_dq_init (slot_dq_init.check _ _ _ _ _ _ _ _ hT (args_dq_init _) (dq_init hS ⟨rfl,h⟩))) fun r₂ s₂ hr₂=>?_
   cases r₂ with
   | error e=>exact hr₂
   | ok fl₂ =>
    cases fl₂ with
    | ret r =>
     obtain ⟨rfl,hq⟩:=hr₂
     repeat (any_goals (first | assumption | wp_step))
    | _=>exact hr₂.elim
  | _=>exact hr.elim
theorem dq_len {a:Addr} {vs:List Value} {k:Int} {Q:Value→Shared→Prop} (e:s.heap.get? a=some (deqObj vs k)) (hz:vs.length<2 ^ 62) (h:Q (.int vs.length (s.toks+1)) { s with toks:=s.toks+1+1 }) :
  wpAny (model prog w) A (Builtin.«len» ⟨[.ref a],[]⟩) (fun fin s'=>∃ r,fin = .done (.ret r)∧Q r s') E s:=by
 unfold Builtin.«len»
 refine wpAny_bind (m:=oneArg "len" _) (wpAny_pure ?_)
 refine wpAny_bind (m:=callSpecial? (.ref a) (Str.ofString "__len__")) (wpAny_callSpecial?_slot (name:=Str.ofString "__len__") (dq_type e) slot_dq_len (wpAny_call_entry slot_dq_len (dq_type e) entry_dq_len ?_ (args_dq_len _)))
 unfold Builtin.«collections.deque.__len__»
 refine wpAny_bind (m:=slotArgs "__len__" 0 _) (wpAny_pure ?_)
 unfold Builtin.Deque.size
 refine wpAny_bind (wpAny_bind (wpAny_fieldsOf e rfl (wpAny_pure ?_)))
 have hsz:(#[Value.none,rawInt k]++vs.toArray).size - 2=vs.length:=by simp
 rw [hsz]
 refine wpAny_bind (wpAny_mkInt (wpAny_pure ⟨_,rfl,?_⟩))
 refine wpAny_bind (wpAny_holding (wpAny_pure ?_))
 refine wpAny_bind (wpAny_letGo ?_)
 show wpAny _ _ (if ((vs.length:Nat):Int)<0 then _ else _) _ _ _
 first | (with_reducible refine wp_neg ?_ ?_; · exact (by lia)) | rw [if_neg (by omega)]
 show wpAny _ _ (if ((vs.length:Nat):Int) ≥ 2 ^ 63 then _ else _) _ _ _
 first | (with_reducible refine wp_neg ?_ ?_; · exact (by lia)) | rw [if_neg (by omega)]
 exact wpAny_bind (wpAny_mkInt (wpAny_pure ⟨_,rfl,h⟩))
theorem dq_truth {a:Addr} {vs:List Value} {k:Int} {Q:Bool→Shared→Prop} (e:s.heap.get? a=some (deqObj vs k)) (hz:vs.length<2 ^ 62) (h:Q (!vs.isEmpty) { s with toks:=s.toks+1+1 }):wpAny (model prog w) A (truthy (.ref a)) Q E s:=by
 have hne:((vs.length:Int) != 0) = !vs.isEmpty:=by cases vs <;> simp; lia
 have key:wpAny (model prog w) A (runValue (.builtin "len" ⟨[.ref a],[]⟩)) (fun r s'=>r = .int vs.length (s.toks+1)∧Q (!vs.isEmpty) s') E s:=by
  refine wpAny_runValue (codeAny_builtin entry_len ?_)
  rw [Around.under_plainId plain_len _]
  exact wpAny_mono (dq_len (Q:=fun r s'=>r = .int vs.length (s.toks+1)∧Q (!vs.isEmpty) s') e hz ⟨rfl,h⟩) (fun fin s' h'=>by obtain ⟨r,rfl,hq⟩:=h'; exact hq) fun _ _ e=>e
 unfold truthy
 first
  | refine wpAny_bind (wpAny_callSpecial?_none (name:=Str.ofString "__bool__") (dq_type e) nobool_dq ?_)
  | refine wpAny_bind (wpAny_pure (wpAny_bind (wpAny_callSpecial?_none (name:=Str.ofString "__bool__") (dq_type e) nobool_dq ?_)))
 first
  | refine wpAny_bind (wpAny_specialOf (name:=Str.ofString "__len__") (dq_type e) slot_dq_len.lookup ?_)
  | refine wpAny_bind (wpAny_pure (wpAny_bind (wpAny_specialOf (name:=Str.ofString "__len__") (dq_type e) slot_dq_len.lookup ?_)))
 first
  | exact wpAny_bind (wpAny_mono key (fun r s' h'=>by obtain ⟨rfl,hq⟩:=h'; exact wpAny_pure (hne▸hq)) fun _ _ e=>e)
  | exact wpAny_bind (wpAny_pure (wpAny_bind (wpAny_mono key (fun r s' h'=>by obtain ⟨rfl,hq⟩:=h'; exact wpAny_pure (hne▸hq)) fun _ _ e=>e)))
theorem dq_app {a:Addr} {vs:List Value} {k:Int} {x:Value} {Q:Fin→Shared→Prop} (e:s.heap.get? a=some (deqObj vs k)) (hz:vs.length<1000)
  (hq:∀ f,(s.heap.update a (Obj.mapFields f)).get? a=some (deqObj (x :: vs) (k+1))→Q (.done (.ret .none)) { s with heap:=s.heap.update a (Obj.mapFields f) }) :
  wpAny (model prog w) A (Builtin.«collections.deque.appendleft» ⟨[.ref a,x],[]⟩) Q E s:=by
 unfold Builtin.«collections.deque.appendleft»
 refine wpAny_bind (m:=selfAndOne "deque.appendleft" _) (wpAny_pure ?_)
 unfold Builtin.Deque.pushLeft Builtin.Deque.change
 have hf:(fun vs':Array Value=>#[vs'.getD 0 .none,rawInt (if true=true then k+1 else k)]++(#[x]++vs'.extract 2 vs'.size)) (#[.none,rawInt k]++vs.toArray) = #[.none,rawInt (k+1)]++(x :: vs).toArray:=by simp
 have e2:=dq_map e (fun vs':Array Value=>#[vs'.getD 0 .none,rawInt (if true=true then k+1 else k)]++(#[x]++vs'.extract 2 vs'.size)) (x :: vs) (k+1) hf
 refine wpAny_bind (wpAny_bind (wpAny_bind (dq_state e (wpAny_updateFields e rfl ?_ ?_))))
 ·unfold Builtin.Deque.maxlen
  refine wpAny_bind (wpAny_bind (wpAny_field e2 rfl (x:=.none) (by simp) (wpAny_pure ?_)))
  exact wpAny_pure (wpAny_pure (hq _ e2))
 ·simp; rw [sizeLine_eq]; lia
theorem dq_pop {a:Addr} {vs:List Value} {k:Int} {x:Value} {Q:Fin→Shared→Prop} (e:s.heap.get? a=some (deqObj (x :: vs) k)) (hz:vs.length<1000)
  (hq:∀ f,(s.heap.update a (Obj.mapFields f)).get? a=some (deqObj vs (k+1))→Q (.done (.ret x)) { s with heap:=s.heap.update a (Obj.mapFields f) }) :
  wpAny (model prog w) A (Builtin.«collections.deque.popleft» ⟨[.ref a],[]⟩) Q E s:=by
 unfold Builtin.«collections.deque.popleft»
 refine wpAny_bind (m:=selfOnly "deque.popleft" _) (wpAny_pure ?_)
 refine wpAny_bind (dq_items e ?_)
 unfold Builtin.Deque.change
 have hf:(fun vs':Array Value=>#[vs'.getD 0 .none,rawInt (if true=true then k+1 else k)]++(vs'.extract 2 vs'.size).eraseIdxIfInBounds 0) (#[.none,rawInt k]++(x :: vs).toArray) = #[.none,rawInt (k+1)]++vs.toArray:=by simp
 have e2:=dq_map e (fun vs':Array Value=>#[vs'.getD 0 .none,rawInt (if true=true then k+1 else k)]++(vs'.extract 2 vs'.size).eraseIdxIfInBounds 0) vs (k+1) hf
 refine wpAny_bind (wpAny_bind (dq_state e (wpAny_updateFields e rfl ?_ ?_)))
 ·exact wpAny_pure (hq _ e2)
 ·simp; rw [sizeLine_eq]; lia
end
section
variable {c:Cst} {d u:Nat} {cx:Cx}
theorem tr_deq {n:Nat} {xs:List SV} {K:Bool→Cx→Prop} (hi:cx.obj.lookup n=some (.deq xs)) (hz:xs.length<1000) (h:K (!xs.isEmpty) cx):Sp1 c d u (fun a=>truthy a) BR (.ref n) cx K:=fun fx g am L s v R q=>by
 refine hide fun Go jo=>?_
 obtain ⟨a,vs,k,rfl,ea,hm,ht,hv⟩:=R.deqAt hi q
 refine jo ?_
 have:=hv.length
 refine dq_truth ht (by lia) ?_
 have e:(!vs.isEmpty) = !xs.isEmpty:=by cases hv <;> rfl
 rw [e]
 exact Ends.here R.toks rfl h
theorem m_deq {n:Nat} {xs:List SV} {name:Str} {id:String} {K:Value×List SV→Cx→Prop} (hi:cx.obj.lookup n=some (.deq xs)) (slot:Slot "collections.deque" name id) (htf:typeOf (.builtin id)=pure (.type "method_descriptor"))
  (h:K (.builtin id,[.ref n]) cx):SpM c d u name (.ref n) cx K:=fun pl fx g am L s v R q=>by
 have q':=q
 refine hide fun Go jo=>?_
 obtain ⟨a,vs,k,rfl,ea,hm,ht,hv⟩:=R.deqAt hi q
 refine jo ?_
 refine getMethod_builtin (dq_type ht) plainAttrs_dq slot htf (fun a e=>?_) (Ends.here R ⟨rfl,.cons q' .nil⟩ h)
 cases e
 exact ⟨_,ht,rfl⟩
theorem c_deq (i:Nat) {K:SV→Cx→Prop} (hf:i∈cx.fr) (h:K (.ref i) (cx.addAt i (.deq []))):SpC c d u (.type "collections.deque") [] cx K:=fun fx g am L s vs R q=>by
 cases q using VRs.nilE
 have hS:(s.heap.push (deqObj [] 0)).get? s.heap.objs.size=some (deqObj [] 0):=Heap.get?_push_size _ rfl
 have e2:((s.heap.push (deqObj [] 0)).update s.heap.objs.size (Obj.mapFields (·.setIfInBounds 0 .none))).get? s.heap.objs.size=some (deqObj [] 0):=dq_map hS _ [] 0 rfl
 refine call_dq ?_
 have keep:∀ b o,s.heap.get? b=some o→((s.heap.push (deqObj [] 0)).update s.heap.objs.size (Obj.mapFields (·.setIfInBounds 0 .none))).get? b=some o:=fun b o e=>(Heap.get?_update_ne _ _ _ _ (Nat.ne_of_lt (Heap.lt_size e))).trans (Heap.get?_push_of_some _ e)
 refine ⟨g,am.set i [s.heap.objs.size],cx.addAt i (.deq []),.ref i,.refl _,Am.set_le _ _ (R.free i hf).2,R.allocAt (t:=s.toks) hf keep (by rw [update_size,push_size]; exact Nat.le_succ _) (fun b hb=>?_) (fun a ha=>by simp at ha; exact Nat.le_of_eq ha.symm) (by simp) ⟨_,[],0,rfl,e2,.nil⟩,.ref (Am.at_set ..),h⟩
 obtain ⟨o,e⟩:=R.owned_there b hb
 rw [e]; exact keep b o e
theorem c_dapp {n:Nat} {xs:List SV} {y:SV} {K:SV→Cx→Prop} (hi:cx.obj.lookup n=some (.deq xs)) (hz:xs.length<1000) (h:K .none (cx.set n (.deq (y :: xs)))):SpC c d u (.builtin "collections.deque.appendleft") [.ref n,y] cx K:=fun fx g am L s vs R q=>by
 cases q using VRs.consE with
 | mk _ _ q1 q=>cases q using VRs.consE with
  | mk _ _ q2 q =>
   refine hide fun Go jo=>?_
   cases q using VRs.nilE
   obtain ⟨a,vs,k,rfl,ea,hm,ht,hv⟩:=R.deqAt hi q1
   refine jo ?_
   have:=hv.length
   refine wpAny_call (codeAny_call_builtin slot_dq_app.plain entry_dq_app (slot_dq_app.check _ _ _ _ _ _ _ _ (dq_type ht) (args_dq_app _ _) (dq_app ht (by lia) fun f e2=>?_)))
   exact ⟨g,am,_,.none,.refl _,.refl _,R.set (so':=.deq (y :: xs)) (t:=s.toks) hm ea (update_same (by simp)) (by rw [update_size]; exact Nat.le_refl _) ⟨_,_,_,rfl,e2,.cons q2 hv⟩,.none,h⟩
theorem c_dpop {n:Nat} {xs:List SV} {y:SV} {K:SV→Cx→Prop} (hi:cx.obj.lookup n=some (.deq (y :: xs))) (hz:xs.length<1000) (h:K y (cx.set n (.deq xs))):SpC c d u (.builtin "collections.deque.popleft") [.ref n] cx K:=fun fx g am L s vs R q=>by
 cases q using VRs.consE with
 | mk _ _ q1 q =>
  refine hide fun Go jo=>?_
  cases q using VRs.nilE
  obtain ⟨a,vs,k,rfl,ea,hm,ht,hv⟩:=R.deqAt hi q1
  refine jo ?_
  cases hv using VRs.consE with
  | mk _ _ q2 hv =>
   have:=hv.length
   refine wpAny_call (codeAny_call_builtin slot_dq_pop.plain entry_dq_pop (slot_dq_pop.check _ _ _ _ _ _ _ _ (dq_type ht) (args_dq_pop _) (dq_pop ht (by lia) fun f e2=>?_)))
   exact ⟨g,am,_,y,.refl _,.refl _,R.set (so':=.deq xs) (t:=s.toks) hm ea (update_same (by simp)) (by rw [update_size]; exact Nat.le_refl _) ⟨_,_,_,rfl,e2,hv⟩,q2,h⟩
end
structure PropOk (c:Cst) (C:Addr) (name:Str) (f:Addr):Prop where
 ga:findIn c.K (.ref C) "__getattribute__" = some (some (.builtin "object.__getattribute__"))
 gn:findIn c.K (.ref C) "__getattr__" = some none
 dict:hasDictIn c.K C=true
 cls:∃ p rest,findIn c.K (.ref C) name=some (some (.ref p))∧specialIn c.K (.ref p) "__get__" = some (some (.builtin "property.__get__"))∧takesIn c.K (.ref p)=some true∧recIn c.K p "property" = some (.ref f :: rest)
section
variable {c:Cst} {d u:Nat} {cx:Cx}
theorem at_prop {i:Nat} {so:SO} {C f:Addr} {fs:List (Str×SV)} {name:Str} {b:Bool} {K:SV→Cx→Prop} (hi:cx.obj.lookup i=some so) (hf:so.fields? = some (C,fs)) (ok:PropOk c C name f)
  (h:SpKc c d (u+1) (.ref f) [.ref i] [] cx fun v cx'=>v.handed=true∧K v cx'):Sp1 c d u (fun v=>getAttr v name b) VR (.ref i) cx K:=fun fx g am L s v R hv=>by
 have hv':=hv
 refine hide fun Go jo=>?_
 obtain ⟨a,dx,ox,es,n,rfl,ea,hm,l,ho,hd,I,hdx,fr⟩:=R.fld hi hf hv
 obtain ⟨p,rest',f1,f2,f3,f4⟩:=ok.cls
 refine jo ?_
 have X:=R.top.X.keeps R.sub
 refine get_bind X I ok.ga (findObj_data (by obtain ⟨cd,hc,_⟩:=any_some ok.dict; rw [hc]; rfl) f1 f2 f3) ok.gn (wpAny_call (prop_get (s:={ s with toks:=s.toks+1 }) X f4 ?_))
 refine codeAny_mono (car_le (h fx g am L _ [.ref a] [] R.toks (.cons hv' .nil) .nil) rfl (Nat.le_refl _) (Nat.le_refl _)) fun r s' hr=>?_
 cases r with
 | error e=>exact hr.elim
 | ok fl =>
  cases fl with
  | ret v =>
   refine hide fun Go jo=>?_
   obtain ⟨g1,am1,cx1,x,l1,a1,r1,q1,hx,k⟩:=hr
   refine jo ?_
   exact handed_on (q1.handed hx) ⟨g1,am1,cx1,x,l1,a1,r1,q1,k⟩
  | _=>exact hr.elim
end
structure Pc where
 gap:Str
 wr:Str
 words:List Str
 lone:Str
noncomputable def Pc.pr (p:Pc):Str×Str:=(p.gap,p.wr)
noncomputable def seesAt (row:List Pc) (ch:Nat) (k:Nat):Bool:=((row[k]?.map Pc.gap).getD (Str.ofString "")).cps[0]? == some ch||((row[k - 1]?.map Pc.wr).getD (Str.ofString "")).cps.back? == some ch
noncomputable def ups (row:List Pc) (ch:Nat):List Nat:=((List.range row.length).filter fun k=>decide (1≤k)&&seesAt row ch k)
noncomputable def placesFrom (row:List Pc):Nat→List Nat→List (Int×Int)
 | _,[]=>[]
 | r,ch :: cs=>(ups row ch).map (fun (k:Nat)=>(-(r:Int),(k:Int)))++placesFrom row (r+1) cs
noncomputable def lexLt (a b:Int×Int):Bool:=decide (a.1<b.1)||(decide (a.1=b.1)&&decide (a.2<b.2))
noncomputable def bestOf:List (Int×Int)→Option (Int×Int)
 | []=>none
 | x :: xs=>some (xs.foldl (fun m y=>if lexLt m y=true then y else m) x)
theorem fold_low {m:Int×Int}:∀ {l:List (Int×Int)},(∀ y∈l,lexLt m y=false)→l.foldl (fun m y=>if lexLt m y=true then y else m) m=m
 | [],_=>rfl
 | y :: l,h=>by
  rw [List.foldl_cons,h y (by simp)]
  exact fold_low fun z hz=>h z (by simp [hz])
theorem placesFrom_low (row:List Pc):∀ (cs:List Nat) (r:Nat),∀ y∈placesFrom row r cs,y.1≤-(r:Int)
 | [],_,y,hy=>by cases hy
 | ch :: cs,r,y,hy=>by
  rcases List.mem_append.mp hy with h | h
  ·obtain ⟨k,_,rfl⟩:=List.mem_map.mp h; exact Int.le_refl _
  ·have:=placesFrom_low row cs (r+1) y h; lia
theorem fold_rise (r:Int):∀ (ks:List Nat) (k:Nat),(k :: ks).Pairwise (· < ·)→(ks.map fun (j:Nat)=>(r,(j:Int))).foldl (fun m y=>if lexLt m y=true then y else m) (r,(k:Int))=(r,(((k :: ks).getLast (by simp):Nat):Int))
 | [],k,_=>rfl
 | j :: ks,k,h=>by
  rw [List.pairwise_cons] at h
  have hkj:=h.1 j (by simp)
  rw [List.map_cons,List.foldl_cons]
  have e:lexLt (r,(k:Int)) (r,(j:Int))=true:=by simp [lexLt,hkj]
  rw [e,if_pos rfl,fold_rise r ks j h.2]
  simp
theorem range_rise (n:Nat) (p:Nat→Bool):((List.range n).filter p).Pairwise (· < ·):=List.Pairwise.filter _ (List.pairwise_lt_range)
theorem best_cons (row:List Pc) (r ch:Nat) (cs:List Nat):bestOf (placesFrom row r (ch :: cs))=match (ups row ch).getLast? with
  | some k=>some (-(r:Int),(k:Int))
  | none=>bestOf (placesFrom row (r+1) cs):=by
 show bestOf ((ups row ch).map (fun (k:Nat)=>(-(r:Int),(k:Int)))++placesFrom row (r+1) cs)=_
 cases hu:ups row ch with
 | nil=>rfl
 | cons k ks =>
  have hp:(k :: ks).Pairwise (· < ·):=by rw [← hu]; exact range_rise _ _
  rw [List.map_cons,List.cons_append]
  show some (List.foldl _ _ (_++_))=_
  rw [List.foldl_append,fold_rise _ ks k hp,fold_low,List.getLast?_eq_some_getLast (by simp)]
  intro y hy
  have:=placesFrom_low row cs (r+1) y hy
  simp [lexLt]
  lia
theorem hitAt_last (xs:List (Str×Str)) (ch:Nat) (p:Nat→Bool) (hp:∀ k,1≤k→k<xs.length→p k=hit xs ch k):∀ n,n<xs.length→hitAt xs ch (down n)=((List.range (n+1)).filter fun k=>decide (1≤k)&&p k).getLast?
 | 0,_=>by simp [down,hitAt]
 | n+1,hn=>by
  rw [down_succ,List.range_succ,List.filter_append]
  unfold hitAt
  rw [← hp (n+1) (by lia) hn]
  by_cases h:p (n+1)=true
  ·simp [h]
  ·rw [if_neg h,hitAt_last xs ch p hp n (by lia)]
   simp [h]
theorem hits_ups (row:List Pc) (ch:Nat) (hn:1≤row.length) (hp:∀ k,1≤k→k<row.length→seesAt row ch k=hit (row.map Pc.pr) ch k):hitAt (row.map Pc.pr) ch (down ((row.map Pc.pr).length - 1))=(ups row ch).getLast?:=by
 rw [hitAt_last (row.map Pc.pr) ch (seesAt row ch) (fun k a b=>hp k a (by simpa using b)) _ (by simp; lia)]
 have e:(row.map Pc.pr).length - 1+1=row.length:=by simp; lia
 rw [e]
 rfl
theorem best_hit (row:List Pc) (hn:1≤row.length):∀ (cs:List Nat) (r:Nat),(∀ ch∈cs,∀ k,1≤k→k<row.length→seesAt row ch k=hit (row.map Pc.pr) ch k)→(bestOf (placesFrom row r cs)).map (·.2)=(hitIn (row.map Pc.pr) (down ((row.map Pc.pr).length - 1)) cs).map fun (k:Nat)=>(k:Int)
 | [],_,_=>rfl
 | ch :: cs,r,hp=>by
  rw [best_cons]
  unfold hitIn
  rw [hits_ups row ch hn (hp ch (by simp))]
  cases (ups row ch).getLast? with
  | some k=>rfl
  | none=>exact best_hit row hn cs (r+1) fun c hc=>hp c (by simp [hc])
structure Fine (p:Pc):Prop where
 gap:p.gap = ""∨p.gap = " "∨p.gap = "\t"∨p.gap = "  "
 wr:∃ ch,p.wr.cps.back? = some ch
 ink:Txt.isspace p.wr=false
theorem first_of {x:Str} {ch:Nat} (e:(x.cps[0]? == some ch)=true) (a:Nat) (h:x.cps[0]? = some a):ch=a:=by
 rw [h] at e; have e2:=beq_iff_eq.mp e; injection e2 with e2; exact e2.symm
theorem gap_first {p:Pc} (h:Fine p) {ch:Nat} (e:(p.gap.cps[0]? == some ch)=true):Txt.isspace ⟨#[ch]⟩=true:=by
 rcases h.gap with q | q | q | q <;> rw [q] at e
 ·have h0:(Str.ofString "").cps[0]? = none:=by decide +kernel
  rw [h0] at e; cases e
 ·rw [first_of e 32 (by decide +kernel)]; decide +kernel
 ·rw [first_of e 9 (by decide +kernel)]; decide +kernel
 ·rw [first_of e 32 (by decide +kernel)]; decide +kernel
theorem sees_hit {row:List Pc} (hf:∀ p∈row,Fine p) (ch:Nat) (k:Nat) (h1:1≤k) (h2:k<row.length):seesAt row ch k=hit (row.map Pc.pr) ch k:=by
 have e1:row[k]? = some row[k]:=List.getElem?_eq_getElem h2
 have e2:row[k - 1]? = some row[k - 1]:=List.getElem?_eq_getElem (by lia)
 unfold seesAt hit
 rw [List.getElem?_map,List.getElem?_map,e1,e2]
 show ((row[k].gap.cps[0]? == some ch)||(row[k - 1].wr.cps.back? == some ch))=((Txt.isspace ⟨#[ch]⟩&&(row[k].gap.cps[0]? == some ch))||row[k - 1].wr.cps.back? == some ch)
 by_cases h:(row[k].gap.cps[0]? == some ch)=true
 ·rw [h,gap_first (hf _ (List.getElem_mem h2)) h]; rfl
 ·rw [Bool.not_eq_true] at h; rw [h,Bool.and_false]
noncomputable def withBlank (p:Pc):Pc:={ p with gap:=blankOr p.gap }
noncomputable def rowSize (head:Int) (n:Nat) (row:List Pc):Int:=total wide (row.map Pc.pr)+(if n=1 then head else 0)
noncomputable def rowsStep (w head:Int) (sg:Str) (rows:List (List Pc)) (p:Pc):List (List Pc) :=
 if rowSize head rows.length (rows.getLast?.getD []++[p])>w then
  match bestOf (placesFrom (rows.getLast?.getD []++[p]) 0 sg.cps.toList) with
  | some b=>rows.dropLast++[(rows.getLast?.getD []++[p]).take b.2.toNat,(rows.getLast?.getD []++[p]).drop b.2.toNat]
  | none=>if head>0∧rows.length=1 then rows++[[withBlank p]] else rows.dropLast++[rows.getLast?.getD []++[p]]
 else rows.dropLast++[rows.getLast?.getD []++[p]]
noncomputable def rowTx (row:List Pc):Str:=text (row.map Pc.pr)
noncomputable def Beside (head:Int) (rows:List (List Pc)) (st:List Str×List (Str×Str)×Int):Prop :=
 rows≠[]∧(∀ row∈rows,∀ p∈row,Fine p)∧st=(rows.dropLast.map rowTx,(rows.getLast?.getD []).map Pc.pr,if rows.length=1 then head else 0)
theorem fine_blank {p:Pc} (h:Fine p):Fine (withBlank p):=by
 refine ⟨?_,h.wr,h.ink⟩
 show blankOr p.gap=_∨blankOr p.gap=_∨blankOr p.gap=_∨blankOr p.gap=_
 unfold blankOr
 split
 ·exact .inr (.inl rfl)
 ·exact h.gap
theorem wr_ne {p:Pc} (h:Fine p):PyData.eqv (.tuple [.str p.pr.1,.str p.pr.2]) (.tuple [.str " ",.str ""])=false:=by
 obtain ⟨ch,hc⟩:=h.wr
 cases e:PyData.eqv (.tuple [.str p.pr.1,.str p.pr.2]) (.tuple [.str " ",.str ""]) with
 | false=>rfl
 | true =>
  exfalso
  have:p.wr=Str.ofString "":=by
   simp [PyData.eqv,PyData.eqvAll] at e
   exact e.2
  rw [this] at hc
  revert hc
  have h0:(Str.ofString "").cps.back? = none:=by decide +kernel
  rw [h0]; simp
theorem nlX_fine {row:List Pc} (hf:∀ p∈row,Fine p) (hn:row≠[]):nlX (row.map Pc.pr)=row.map Pc.pr:=by
 rcases nil_or_snoc row with rfl | ⟨r,p,rfl⟩
 ·exact absurd rfl hn
 ·unfold nlX
  rw [List.map_append,List.map_cons,List.map_nil,List.reverse_append,List.reverse_singleton,List.singleton_append]
  show (if _ then _ else _)=_
  rw [if_neg (by rw [wr_ne (hf p (by simp))]; decide)]
theorem sum_nonneg (l:List (Str×Str)):0≤(l.map wide).sum:=by
 induction l with
 | nil=>simp
 | cons x l ih =>
  simp only [List.map_cons,List.sum_cons]
  have:0≤wide x:=by unfold wide; lia
  lia
theorem step_rows {w head:Int} {sg:Str} {rows:List (List Pc)} {st:List Str×List (Str×Str)×Int} {p:Pc} (h:Beside head rows st) (hp:Fine p) (hh:0≤head):Beside head (rowsStep w head sg rows p) (chunk w sg st p.pr):=by
 refine hide fun Go jo=>?_
 obtain ⟨hne,hf,rfl⟩:=h
 refine jo ?_
 rcases nil_or_snoc rows with rfl | ⟨rs,row,rfl⟩
 ·exact absurd rfl hne
 have hrow:∀ q∈row,Fine q:=hf row (by simp)
 have hrs:∀ r∈rs,∀ q∈r,Fine q:=fun r hr=>hf r (by simp [hr])
 have hrow':∀ q∈row++[p],Fine q:=fun q hq=>by
  rcases List.mem_append.mp hq with h | h
  ·exact hrow q h
  ·simp at h; subst h; exact hp
 have e1:(rs++[row]).getLast?.getD []=row:=by simp
 have e2:(rs++[row]).dropLast=rs:=by simp
 have e3:row.map Pc.pr++[p.pr]=(row++[p]).map Pc.pr:=by simp
 unfold rowsStep chunk
 rw [e1,e2]
 dsimp only
 rw [e3]
 have ez:(if (rs++[row]).length=1 then head else 0)+total wide ((row++[p]).map Pc.pr)=rowSize head (rs++[row]).length (row++[p]):=by unfold rowSize; lia
 rw [ez]
 have best:=best_hit (row++[p]) (by simp) sg.cps.toList 0 fun ch _ k a b=>sees_hit hrow' ch k a b
 by_cases hs:rowSize head (rs++[row]).length (row++[p])>w
 ·rw [if_pos hs,if_pos hs]
  cases hb:bestOf (placesFrom (row++[p]) 0 sg.cps.toList) with
  | some b =>
   rw [hb] at best
   cases hk:hitIn ((row++[p]).map Pc.pr) (down (((row++[p]).map Pc.pr).length - 1)) sg.cps.toList with
   | none=>rw [hk] at best; cases best
   | some k =>
    rw [hk] at best
    have eb:b.2=(k:Int):=by simpa using best
    have ek:b.2.toNat=k:=by rw [eb]; rfl
    dsimp only
    rw [ek]
    refine ⟨by simp,?_,?_⟩
    ·intro r hr q hq
     simp only [List.mem_append,List.mem_cons,List.not_mem_nil,or_false] at hr
     rcases hr with hr | rfl | rfl
     ·exact hrs r hr q hq
     ·exact hrow' q (List.mem_of_mem_take hq)
     ·exact hrow' q (List.mem_of_mem_drop hq)
    ·have a1:(rs++[(row++[p]).take k,(row++[p]).drop k]).dropLast=rs++[(row++[p]).take k]:=by
      rw [show rs++[(row++[p]).take k,(row++[p]).drop k]=(rs++[(row++[p]).take k])++[(row++[p]).drop k] by simp,List.dropLast_concat]
     have a2:(rs++[(row++[p]).take k,(row++[p]).drop k]).getLast?.getD []=(row++[p]).drop k:=by simp
     rw [a1,a2,if_neg (by simp)]
     simp [rowTx,List.map_take,List.map_drop]
  | none =>
   rw [hb] at best
   cases hk:hitIn ((row++[p]).map Pc.pr) (down (((row++[p]).map Pc.pr).length - 1)) sg.cps.toList with
   | some k=>rw [hk] at best; cases best
   | none =>
    dsimp only
    by_cases h1:rs.length=0
    ·have:rs=[]:=List.length_eq_zero_iff.mp h1
     subst this
     by_cases hh0:head>0
     ·rw [if_pos ⟨hh0,by simp⟩,if_pos (by simpa using hh0)]
      refine ⟨by simp,?_,?_⟩
      ·intro r hr q hq
       simp at hr
       rcases hr with rfl | rfl
       ·exact hrow q hq
       ·simp at hq; subst hq; exact fine_blank hp
      ·have ei:(if ([]++[row]).length=1 then head else 0)=head:=if_pos rfl
       rw [ei]
       have e4:([]++[row]++[[withBlank p]]:List (List Pc)).dropLast=[row]:=rfl
       have e5:(([]++[row]++[[withBlank p]]:List (List Pc)).getLast?.getD []).map Pc.pr=[(blankOr p.pr.1,p.pr.2)]:=rfl
       have e6:(if ([]++[row]++[[withBlank p]]:List (List Pc)).length=1 then head else 0)=0:=if_neg (by simp)
       rw [e4,e5,e6]
       have e7:nlL (List.map rowTx []) (nlX (row.map Pc.pr)) head=[rowTx row]:=by
        have ow:∀ xs,onlyws xs head=false:=fun xs=>by unfold onlyws; rw [beq_eq_false_iff_ne.mpr (by lia)]; rfl
        rcases nil_or_snoc row with rfl | ⟨r,q,rfl⟩
        ·unfold nlL
         have t0:total wide (nlX (List.map Pc.pr []))=0:=by decide +kernel
         rw [t0,if_pos (by simpa using hh0),ow,if_neg (by simp)]
         have t1:text (nlX (List.map Pc.pr []))=rowTx []:=by decide +kernel
         rw [t1]; rfl
        ·rw [nlX_fine hrow (by simp)]
         unfold nlL
         have tz:0≤total wide ((r++[q]).map Pc.pr):=by
          unfold total
          exact sum_nonneg _
         rw [if_pos (decide_eq_true (by lia)),ow,if_neg (by simp)]
         rfl
       rw [e7]
       rfl
     ·rw [if_neg (by lia),if_neg (by simpa using hh0)]
      refine ⟨by simp,fun r hr q hq=>?_,by simp⟩
      simp at hr; subst hr; exact hrow' q hq
    ·have hl:¬ (rs++[row]).length=1:=by rw [List.length_append,List.length_singleton]; lia
     have hl':¬ (rs++[row++[p]]).length=1:=by rw [List.length_append,List.length_singleton]; lia
     rw [if_neg (fun z=>hl z.2),if_neg hl,if_neg (by decide)]
     refine ⟨by simp,fun r hr q hq=>?_,?_⟩
     ·rcases List.mem_append.mp hr with hr | hr
      ·exact hrs r hr q hq
      ·simp at hr; subst hr; exact hrow' q hq
     ·rw [List.dropLast_concat,if_neg hl']
      simp
 ·rw [if_neg hs,if_neg hs]
  refine ⟨by simp,fun r hr q hq=>?_,?_⟩
  ·rcases List.mem_append.mp hr with hr | hr
   ·exact hrs r hr q hq
   ·simp at hr; subst hr; exact hrow' q hq
  ·rw [List.dropLast_concat]
   simp
noncomputable abbrev chars (x:Str):List Nat:=x.cps.toList
theorem chars_empty:chars (Str.ofString "")=[]:=by decide +kernel
theorem fold_chars (sep:Str):∀ (l:List Str) (acc:Array Nat),(l.foldl (fun acc p=>acc++sep.cps++p.cps) acc).toList=acc.toList++l.flatMap fun p=>chars sep++chars p
 | [],acc=>by simp
 | x :: l,acc=>by
  rw [List.foldl_cons,fold_chars sep l]
  simp [chars]
theorem glued_chars (l:List Str):chars (Builtin.Str.glued (Str.ofString "") l)=l.flatMap chars:=by
 cases l with
 | nil=>rfl
 | cons x l =>
  show ((l.foldl (fun acc p=>acc++(Str.ofString "").cps++p.cps) x.cps)).toList=_
  rw [fold_chars,chars_empty]
  simp [chars]
theorem cat2_chars (p:Str×Str):chars (cat2 p)=chars p.1++chars p.2:=by
 show chars (Builtin.Str.glued (Str.ofString "") [p.1,p.2])=_
 rw [glued_chars]; simp
theorem text_chars (xs:List (Str×Str)):chars (text xs)=xs.flatMap fun p=>chars p.1++chars p.2:=by
 show chars (Builtin.Str.glued (Str.ofString "") (xs.map cat2))=_
 rw [glued_chars,List.flatMap_map]
 congr 1
 funext p
 exact cat2_chars p
theorem isspace_chars (x:Str):Txt.isspace x=(!(chars x).isEmpty&&(chars x).all Unicode.isSpace):=by
 unfold Txt.isspace
 have h1:(decide (x.length>0)) = !(chars x).isEmpty:=by
  show decide (x.cps.size>0)=_
  rw [← Array.length_toList]
  cases h:x.cps.toList <;> simp [chars,h]
 rw [← Array.all_toList]
 show (decide (x.length>0)&&_)=_
 rw [h1]
theorem ink_char {x:Str} (h:Txt.isspace x=false) (hn:∃ ch,x.cps.back? = some ch):∃ ch∈chars x,Unicode.isSpace ch=false:=by
 rw [isspace_chars] at h
 have hne:(chars x).isEmpty=false:=by
  obtain ⟨ch,hc⟩:=hn
  cases e:chars x with
  | nil =>
   have:x.cps = #[]:=by apply Array.toList_inj.mp; simpa [chars] using e
   rw [this] at hc; simp at hc
  | cons _ _=>rfl
 rw [hne] at h
 simp only [Bool.not_false,Bool.true_and] at h
 rw [List.all_eq_false] at h
 obtain ⟨c,hc,hs⟩:=h
 exact ⟨c,hc,by simpa using hs⟩
theorem text_ink {row:List Pc} (hf:∀ p∈row,Fine p) (hn:row≠[]):Txt.isspace (text (row.map Pc.pr))=false∧0<total wide (row.map Pc.pr):=by
 cases row with
 | nil=>exact absurd rfl hn
 | cons p row =>
  have fp:=hf p (by simp)
  obtain ⟨ch,hc,hs⟩:=ink_char fp.ink fp.wr
  constructor
  ·rw [isspace_chars,text_chars]
   rw [Bool.and_eq_false_iff]
   right
   rw [List.all_eq_false]
   refine ⟨ch,?_,by simp [hs]⟩
   rw [List.map_cons,List.flatMap_cons]
   exact List.mem_append_left _ (List.mem_append_right _ hc)
  ·have h1:0≤((row.map Pc.pr).map wide).sum:=sum_nonneg _
   have h2:1≤p.wr.length:=by
    show 1≤p.wr.cps.size
    rw [← Array.length_toList]
    exact List.length_pos_of_mem hc
   unfold total
   simp only [List.map_cons,List.sum_cons]
   have h3:1≤wide p.pr:=by show 1≤(p.gap.length:Int)+p.wr.length; lia
   lia
theorem rows_text {head:Int} {rows:List (List Pc)} {st:List Str×List (Str×Str)×Int} (h:Beside head rows st) (hh:0≤head) (hl:rows.getLast?.getD []≠[]):nlL st.1 (nlX st.2.1) st.2.2=rows.map rowTx:=by
 refine hide fun Go jo=>?_
 obtain ⟨hne,hf,rfl⟩:=h
 refine jo ?_
 rcases nil_or_snoc rows with rfl | ⟨rs,row,rfl⟩
 ·exact absurd rfl hne
 have e1:(rs++[row]).getLast?.getD []=row:=by simp
 rw [e1] at hl
 have hrow:∀ q∈row,Fine q:=hf row (by simp)
 obtain ⟨t1,t2⟩:=text_ink hrow hl
 dsimp only
 rw [e1,List.dropLast_concat,nlX_fine hrow hl]
 unfold nlL
 have hi:0≤(if (rs++[row]).length=1 then head else 0):=by split <;> lia
 rw [if_pos (decide_eq_true (by lia)),if_neg,List.map_append]
 ·rfl
 ·rintro ⟨ow,_⟩
  unfold onlyws at ow
  rw [t1,Bool.or_false,Bool.and_eq_true,beq_iff_eq,beq_iff_eq] at ow
  lia
theorem hitAt_le (xs:List (Str×Str)) (ch:Nat):∀ n k,hitAt xs ch (down n)=some k→1≤k∧k≤n
 | 0,k,h=>by simp [down,hitAt] at h
 | n+1,k,h=>by
  rw [down_succ] at h
  unfold hitAt at h
  split at h
  ·injection h with h; lia
  ·have:=hitAt_le xs ch n k h; lia
theorem hitIn_le (xs:List (Str×Str)) (n:Nat):∀ cs k,hitIn xs (down n) cs=some k→1≤k∧k≤n
 | [],k,h=>by simp [hitIn] at h
 | ch :: cs,k,h=>by
  unfold hitIn at h
  split at h
  ·rename_i j hj; injection h with h; subst h; exact hitAt_le xs ch n _ hj
  ·exact hitIn_le xs n cs k h
theorem step_last {w head:Int} {sg:Str} {rows:List (List Pc)} {p:Pc} (hf:∀ q∈rows.getLast?.getD []++[p],Fine q):(rowsStep w head sg rows p).getLast?.getD []≠[]:=by
 unfold rowsStep
 have h3:∀ l:List (List Pc),∀ x:List Pc,(l++[x]).getLast?.getD []=x:=fun l x=>by simp
 split
 ·have best:=best_hit (rows.getLast?.getD []++[p]) (by simp) sg.cps.toList 0 fun ch _ k a b=>sees_hit hf ch k a b
  split
  ·rename_i b hb
   rw [hb] at best
   cases hk:hitIn ((rows.getLast?.getD []++[p]).map Pc.pr) (down (((rows.getLast?.getD []++[p]).map Pc.pr).length - 1)) sg.cps.toList with
   | none=>rw [hk] at best; cases best
   | some k =>
    rw [hk] at best
    have eb:b.2=(k:Int):=by simpa using best
    have ek:b.2.toNat=k:=by rw [eb]; rfl
    have le:=(hitIn_le _ _ _ _ hk).2
    rw [ek,show rows.dropLast++[(rows.getLast?.getD []++[p]).take k,(rows.getLast?.getD []++[p]).drop k]=(rows.dropLast++[(rows.getLast?.getD []++[p]).take k])++[(rows.getLast?.getD []++[p]).drop k] by simp,h3]
    intro e
    have:=List.drop_eq_nil_iff.mp e
    simp at this le
    lia
  ·split
   ·rw [h3]; simp
   ·rw [h3]; simp
 ·rw [h3]; simp
noncomputable def lawRows (w head:Int) (sg:Str) (ps:List Pc):List (List Pc):=ps.foldl (rowsStep w head sg) [[]]
noncomputable def made (w head:Int) (sg:Str) (ps:List Pc):List Str×List (Str×Str)×Int:=ps.foldl (fun st p=>chunk w sg st p.pr) ([],[],head)
theorem made_from {w head:Int} {sg:Str} (hh:0≤head):∀ (ps:List Pc),(∀ p∈ps,Fine p)→∀ rows st,Beside head rows st→Beside head (ps.foldl (rowsStep w head sg) rows) (ps.foldl (fun st p=>chunk w sg st p.pr) st)∧(rows.getLast?.getD []≠[]∨ps≠[]→(ps.foldl (rowsStep w head sg) rows).getLast?.getD []≠[])
 | [],_,rows,st,h=>⟨h,fun q=>q.elim id fun z=>absurd rfl z⟩
 | p :: ps,hf,rows,st,h=>by
  have hp:=hf p (by simp)
  have last:(rowsStep w head sg rows p).getLast?.getD []≠[]:=step_last fun q hq=>by
   rcases List.mem_append.mp hq with hq | hq
   ·obtain ⟨hne,hr,_⟩:=h
    rcases nil_or_snoc rows with rfl | ⟨rs,row,rfl⟩
    ·exact absurd rfl hne
    ·have e1:(rs++[row]).getLast?.getD []=row:=by simp
     rw [e1] at hq
     exact hr row (by simp) q hq
   ·simp at hq; subst hq; exact hp
  obtain ⟨a,b⟩:=made_from hh ps (fun q hq=>hf q (by simp [hq])) _ _ (step_rows h hp hh)
  exact ⟨a,fun _=>b (.inl last)⟩
theorem made_rows {w head:Int} {sg:Str} (hh:0≤head) {ps:List Pc} (hf:∀ p∈ps,Fine p) (hn:ps≠[]):nlL (made w head sg ps).1 (nlX (made w head sg ps).2.1) (made w head sg ps).2.2=(lawRows w head sg ps).map rowTx:=by
 obtain ⟨a,b⟩:=made_from (w:=w) (sg:=sg) hh ps hf [[]] ([],[],head) ⟨by simp,by simp,rfl⟩
 exact rows_text a hh (b (.inr hn))
inductive Md where
 | W | A (t:List Nat) | Q (t:List Nat)
noncomputable def blank (c:Nat):Bool:=c==32||c==9||c==13
noncomputable def letter (c:Nat):Bool:=decide (97≤c)&&decide (c≤122)
noncomputable def lex:Md→List Nat→Int→List (List Nat×Int)
 | .W,[],_=>[]
 | .A t,[],n=>[(t,n)]
 | .Q _,[],_=>[]
 | .W,c :: r,n=>if c=10 then lex .W r (n+1) else if blank c=true then lex .W r n else if c=39 then lex (.Q []) r n else if letter c=true then lex (.A [c]) r n else ([c],n) :: lex .W r n
 | .A t,c :: r,n=>if c=10 then (t,n+1) :: lex .W r (n+1) else if blank c=true then (t,n) :: lex .W r n else if c=39 then lex (.Q t) r n else if letter c=true then lex (.A (t++[c])) r n else (t,n) :: ([c],n) :: lex .W r n
 | .Q t,c :: r,n=>if c=39 then lex (.A t) r n else lex (.Q (t++[c])) r n
theorem lexW (c:Nat) (r:List Nat) (n:Int):lex .W (c :: r) n=if c=10 then lex .W r (n+1) else if blank c=true then lex .W r n else if c=39 then lex (.Q []) r n else if letter c=true then lex (.A [c]) r n else ([c],n) :: lex .W r n:=rfl
theorem lexA (t:List Nat) (c:Nat) (r:List Nat) (n:Int):lex (.A t) (c :: r) n=if c=10 then (t,n+1) :: lex .W r (n+1) else if blank c=true then (t,n) :: lex .W r n else if c=39 then lex (.Q t) r n else if letter c=true then lex (.A (t++[c])) r n else (t,n) :: ([c],n) :: lex .W r n:=rfl
theorem lexQ (t:List Nat) (c:Nat) (r:List Nat) (n:Int):lex (.Q t) (c :: r) n=if c=39 then lex (.A t) r n else lex (.Q (t++[c])) r n:=rfl
theorem if4 {α:Type} {P:α→Prop} {a b c d:Prop} [Decidable a] [Decidable b] [Decidable c] [Decidable d] {v w x y z:α} (h1:P v) (h2:P w) (h3:P x) (h4:P y) (h5:P z):P (if a then v else if b then w else if c then x else if d then y else z):=by
 by_cases q:a
 ·rw [if_pos q]; exact h1
 rw [if_neg q]
 by_cases q:b
 ·rw [if_pos q]; exact h2
 rw [if_neg q]
 by_cases q:c
 ·rw [if_pos q]; exact h3
 rw [if_neg q]
 by_cases q:d
 ·rw [if_pos q]; exact h4
 rw [if_neg q]; exact h5
theorem if4r {α β:Type} {R:α→β→Prop} {a b c d:Prop} [Decidable a] [Decidable b] [Decidable c] [Decidable d] {v w x y z:α} {v' w' x' y' z':β} (h1:R v v') (h2:R w w') (h3:R x x') (h4:R y y') (h5:R z z'):R (if a then v else if b then w else if c then x else if d then y else z) (if a then v' else if b then w' else if c then x' else if d then y' else z'):=by
 by_cases q:a
 ·rw [if_pos q,if_pos q]; exact h1
 rw [if_neg q,if_neg q]
 by_cases q:b
 ·rw [if_pos q,if_pos q]; exact h2
 rw [if_neg q,if_neg q]
 by_cases q:c
 ·rw [if_pos q,if_pos q]; exact h3
 rw [if_neg q,if_neg q]
 by_cases q:d
 ·rw [if_pos q,if_pos q]; exact h4
 rw [if_neg q,if_neg q]; exact h5
theorem blank_not {c:Nat} (h:blank c=true):c≠10:=by rintro rfl; revert h; decide
theorem lexWb {c:Nat} {r:List Nat} {n:Int} (h:blank c=true):lex .W (c :: r) n=lex .W r n:=(if_neg (blank_not h)).trans (if_pos h)
theorem lex_blanks (g:List Nat) (r:List Nat) (n:Int) (h:∀ c∈g,blank c=true):lex .W (g++r) n=lex .W r n:=by
 induction g with
 | nil=>rfl
 | cons c g ih=>exact (lexWb (h c (.head _))).trans (ih fun d hd=>h d (.tail _ hd))
theorem letter_not {c:Nat} (h:letter c=true):c≠10∧blank c=false∧c≠39:=by
 simp only [letter,Bool.and_eq_true,decide_eq_true_eq] at h
 refine ⟨by lia,?_,by lia⟩
 simp only [blank,Bool.or_eq_false_iff,beq_eq_false_iff_ne]
 lia
theorem if4_l {α:Type} {c:Nat} {v w x y z:α} (h:letter c=true):(if c=10 then v else if blank c=true then w else if c=39 then x else if letter c=true then y else z)=y:=by
 obtain ⟨h1,h2,h3⟩:=letter_not h
 exact (if_neg h1).trans ((if_neg (ne_true_of_eq_false h2)).trans ((if_neg h3).trans (if_pos h)))
theorem if4_b {α:Type} {c:Nat} {v w x y z:α} (h:blank c=true):(if c=10 then v else if blank c=true then w else if c=39 then x else if letter c=true then y else z)=w:=(if_neg (blank_not h)).trans (if_pos h)
theorem if4_s {α:Type} {c:Nat} {v w x y z:α} (h1:c≠10) (h2:blank c=false) (h3:c≠39) (h4:letter c=false):(if c=10 then v else if blank c=true then w else if c=39 then x else if letter c=true then y else z)=z :=
 (if_neg h1).trans ((if_neg (ne_true_of_eq_false h2)).trans ((if_neg h3).trans (if_neg (ne_true_of_eq_false h4))))
theorem lex_letters (l:List Nat) (t r:List Nat) (n:Int) (h:∀ c∈l,letter c=true):lex (.A t) (l++r) n=lex (.A (t++l)) r n:=by
 induction l generalizing t with
 | nil=>rw [List.append_nil]; rfl
 | cons c l ih =>
  refine (if4_l (h c (.head _))).trans ((ih (t++[c]) fun d hd=>h d (.tail _ hd)).trans ?_)
  rw [List.append_assoc]; rfl
theorem lex_quoted (l:List Nat) (t r:List Nat) (n:Int) (h:∀ c∈l,c≠39):lex (.Q t) (l++39 :: r) n=lex (.A (t++l)) r n:=by
 induction l generalizing t with
 | nil=>rw [List.append_nil]; rfl
 | cons c l ih =>
  refine (if_neg (h c (.head _))).trans ((ih (t++[c]) fun d hd=>h d (.tail _ hd)).trans ?_)
  rw [List.append_assoc]; rfl
noncomputable abbrev Tok2:=List Nat×Int
noncomputable def pend:Md→Int→List Tok2
 | .A t,n=>[(t,n)]
 | _,_=>[]
noncomputable def isA:Md→Bool
 | .A _=>true
 | _=>false
noncomputable def notQ:Md→Bool
 | .Q _=>false
 | _=>true
structure Tk (p:Pc):Prop where
 gap:∀ c∈chars p.gap,blank c=true
 kind:(chars p.lone=[]∧∃ w,p.words.map chars=[w]∧((chars p.wr=w∧w≠[]∧∀ c∈w,letter c=true)∨(chars p.wr=39 :: (w++[39])∧∀ c∈w,c≠39)))
  ∨ (chars p.lone=[44]∧p.words.map chars=[[98,99]]∧chars p.wr=[98,99,44])
  ∨ (chars p.lone=[59]∧p.words.map chars=[]∧chars p.wr=[59])
noncomputable def lastMap (f:Tok2→Tok2) (l:List Tok2):List Tok2:=match l.reverse with
 | []=>[]
 | x :: r=>r.reverse++[f x]
theorem lastMap_snoc (f:Tok2→Tok2) (l:List Tok2) (x:Tok2):lastMap f (l++[x])=l++[f x]:=by simp [lastMap]
noncomputable def pyV (n:Int) (st:List Tok2×Bool) (ws:List (List Nat)) (g:Bool) (l:List Nat):List Tok2×Bool :=
 let told:=ws.foldl (fun td w=>if (st.2&&g)=true then lastMap (fun x=>(x.1++w,x.2)) td else td++[(w,n)]) st.1
 (if l.isEmpty=true then told else told++[(l,n)],l.isEmpty)
noncomputable def pyPiece (n:Int) (st:List Tok2×Bool) (p:Pc):List Tok2×Bool:=pyV n st (p.words.map chars) (chars p.gap).isEmpty (chars p.lone)
noncomputable def stV (n:Int) (m:Md) (ws:List (List Nat)) (g:Bool) (l:List Nat):List Tok2×Md :=
 match ws,m,g,l.isEmpty with
 | [],m,_,_=>(pend m n++[(l,n)],.W)
 | w :: _,.A t,true,true=>([],.A (t++w))
 | w :: _,.A t,true,false=>([(t++w,n),(l,n)],.W)
 | w :: _,m,_,true=>(pend m n,.A w)
 | w :: _,m,_,false=>(pend m n++[(w,n),(l,n)],.W)
noncomputable def stepE (n:Int) (m:Md) (p:Pc):List Tok2×Md:=stV n m (p.words.map chars) (chars p.gap).isEmpty (chars p.lone)
theorem ap1 {o p q:List Tok2}:o++p++q=o++(p++q)++[]:=by rw [List.append_nil,List.append_assoc]
theorem ap2 {o p:List Tok2} {x y:Tok2}:o++p++[x]++[y]=o++(p++[x,y])++[]:=by rw [List.append_nil,List.append_assoc,List.append_assoc]; rfl
theorem ap3 {o:List Tok2} {x y:Tok2}:o++[x]++[y]=o++[x,y]++[]:=by rw [List.append_nil,List.append_assoc]; rfl
theorem py_step (n:Int) {p:Pc} (h:Tk p) (out:List Tok2) (m:Md) (hm:notQ m=true):pyPiece n (out++pend m n,isA m) p=(out++(stepE n m p).1++pend (stepE n m p).2 n,isA (stepE n m p).2):=by
 unfold pyPiece stepE
 rcases h.kind with ⟨h1,w,h2,_⟩ | ⟨h1,h2,_⟩ | ⟨h1,h2,_⟩
 ·rw [h1,h2]
  generalize (chars p.gap).isEmpty=g
  cases m with
  | Q t=>cases hm
  | W=>cases g <;> rfl
  | A t =>
   cases g with
   | false=>rfl
   | true=>exact congrArg (·,true) ((lastMap_snoc ..).trans (congrArg (· ++ _) (List.append_nil out).symm))
 ·rw [h1,h2]
  generalize (chars p.gap).isEmpty=g
  cases m with
  | Q t=>cases hm
  | W=>cases g <;> exact congrArg (·,false) ap2
  | A t =>
   cases g with
   | false=>exact congrArg (·,false) ap2
   | true=>exact congrArg (·,false) ((congrArg (· ++ _) (lastMap_snoc ..)).trans ap3)
 ·rw [h1,h2]
  exact congrArg (·,false) ap1
theorem lex_gap (g r:List Nat) (m:Md) (n:Int) (hm:notQ m=true) (hg:∀ c∈g,blank c=true):lex m (g++r) n=if g.isEmpty=true then lex m r n else pend m n++lex .W r n:=by
 cases g with
 | nil=>rfl
 | cons c g =>
  have e:=lex_blanks g r n fun d hd=>hg d (.tail _ hd)
  have hc:=hg c (.head _)
  cases m with
  | Q t=>cases hm
  | W=>exact (lexWb hc).trans e
  | A t=>exact (if_neg (blank_not hc)).trans ((if_pos hc).trans (congrArg (_ :: ·) e))
theorem lex_word (w r:List Nat) (n:Int) (hn:w≠[]) (hw:∀ c∈w,letter c=true):lex .W (w++r) n=lex (.A w) r n:=by
 cases w with
 | nil=>exact absurd rfl hn
 | cons c w=>exact (if4_l (hw c (.head _))).trans (lex_letters w [c] r n fun d hd=>hw d (.tail _ hd))
theorem lex_stV {n:Int} {m:Md} (hm:notQ m=true) {ws:List (List Nat)} {l y rest:List Nat} (hW:lex .W y n=(stV n .W ws true l).1++lex (stV n .W ws true l).2 rest n) (hA:∀ t,lex (.A t) y n=(stV n (.A t) ws true l).1++lex (stV n (.A t) ws true l).2 rest n)
  (hF:pend m n++lex .W y n=(stV n m ws false l).1++lex (stV n m ws false l).2 rest n):∀ g:Bool,(if g=true then lex m y n else pend m n++lex .W y n)=(stV n m ws g l).1++lex (stV n m ws g l).2 rest n
 | false=>hF
 | true=>by
  cases m with
  | Q t=>cases hm
  | W=>exact hW
  | A t=>exact hA t
theorem lex_step (n:Int) {p:Pc} (h:Tk p) (m:Md) (hm:notQ m=true) (rest:List Nat):lex m (chars p.gap++(chars p.wr++rest)) n=(stepE n m p).1++lex (stepE n m p).2 rest n:=by
 refine (lex_gap _ _ m n hm h.gap).trans ?_
 unfold stepE
 generalize (chars p.gap).isEmpty=g
 have bcl:∀ c∈[98,99],letter c=true:=by decide
 rcases h.kind with ⟨h1,w,h2,h3⟩ | ⟨h1,h2,h3⟩ | ⟨h1,h2,h3⟩
 ·have inW:lex .W (chars p.wr++rest) n=lex (.A w) rest n:=by
   rcases h3 with ⟨e,hn,hl⟩ | ⟨e,hq⟩
   ·rw [e,lex_word w rest n hn hl]
   ·rw [e,List.cons_append,List.append_assoc]; exact lex_quoted w [] rest n hq
  have inA:∀ t,lex (.A t) (chars p.wr++rest) n=lex (.A (t++w)) rest n:=fun t=>by
   rcases h3 with ⟨e,hn,hl⟩ | ⟨e,hq⟩
   ·rw [e,lex_letters w t rest n hl]
   ·rw [e,List.cons_append,List.append_assoc]; exact lex_quoted w t rest n hq
  rw [h1,h2]
  refine lex_stV hm inW inA (by cases m with | Q t=>cases hm | W=>exact inW | A t=>exact congrArg (_ :: ·) inW) g
 ·have inW:lex .W (chars p.wr++rest) n=([98,99],n) :: ([44],n) :: lex .W rest n:=by
   rw [h3]; exact (lex_word [98,99] (44 :: rest) n (by decide) bcl).trans rfl
  have inA:∀ t,lex (.A t) (chars p.wr++rest) n=(t++[98,99],n) :: ([44],n) :: lex .W rest n:=fun t=>by
   rw [h3]; exact (lex_letters [98,99] t (44 :: rest) n bcl).trans rfl
  rw [h1,h2]
  refine lex_stV hm inW inA (by cases m with | Q t=>cases hm | W=>exact inW | A t=>exact congrArg (_ :: ·) inW) g
 ·have inW:lex .W (chars p.wr++rest) n=([59],n) :: lex .W rest n:=by rw [h3]; rfl
  rw [h1,h2]
  refine lex_stV hm inW (fun t=>by rw [h3]; rfl) (by cases m with | Q t=>cases hm | W=>exact inW | A t=>exact congrArg (_ :: ·) inW) g
theorem stepE_notQ (n:Int) (m:Md) (hm:notQ m=true) (p:Pc):notQ (stepE n m p).2=true:=by
 unfold stepE
 generalize p.words.map chars=ws,(chars p.gap).isEmpty=g,chars p.lone=l
 cases ws with
 | nil=>rfl
 | cons w _ =>
  cases m with
  | Q t=>cases hm
  | W=>cases g <;> cases l <;> rfl
  | A t=>cases g <;> cases l <;> rfl
noncomputable def rowE (n:Int):Md→List Pc→List Tok2×Md
 | m,[]=>([],m)
 | m,p :: ps=>((stepE n m p).1++(rowE n (stepE n m p).2 ps).1,(rowE n (stepE n m p).2 ps).2)
noncomputable abbrev rowChars (row:List Pc):List Nat:=row.flatMap fun p=>chars p.gap++chars p.wr
theorem row_lex (n:Int) (row:List Pc) (h:∀ p∈row,Tk p):∀ m,notQ m=true→∀ rest,lex m (rowChars row++rest) n=(rowE n m row).1++lex (rowE n m row).2 rest n:=by
 induction row with
 | nil=>exact fun _ _ _=>rfl
 | cons p ps ih =>
  intro m hm rest
  have e:rowChars (p :: ps)++rest=chars p.gap++(chars p.wr++(rowChars ps++rest)):=by rw [← List.append_assoc,← List.append_assoc]; rfl
  refine (congrArg (lex m · n) e).trans ((lex_step n (h p (.head _)) m hm _).trans ((congrArg (_ ++ ·) (ih (fun q hq=>h q (.tail _ hq)) _ (stepE_notQ n m hm p) rest)).trans ?_))
  exact (List.append_assoc ..).symm
theorem row_py (n:Int) (row:List Pc) (h:∀ p∈row,Tk p):∀ m,notQ m=true→∀ out,row.foldl (pyPiece n) (out++pend m n,isA m)=(out++(rowE n m row).1++pend (rowE n m row).2 n,isA (rowE n m row).2):=by
 induction row with
 | nil=>exact fun m _ out=>congrArg (·,_) (congrArg (· ++ _) (List.append_nil _).symm)
 | cons p ps ih =>
  intro m hm out
  refine (congrArg (ps.foldl (pyPiece n)) (py_step n (h p (.head _)) out m hm)).trans ((ih (fun q hq=>h q (.tail _ hq)) _ (stepE_notQ n m hm p) _).trans ?_)
  rw [List.append_assoc out]; rfl
theorem rowE_notQ (n:Int) (row:List Pc):∀ (m:Md),notQ m=true→notQ (rowE n m row).2=true:=by
 induction row with
 | nil=>exact fun _ h=>h
 | cons p ps ih=>exact fun m hm=>ih _ (stepE_notQ n m hm p)
noncomputable def pyRow (n:Int) (more:Bool) (told:List Tok2) (row:List Pc):List Tok2 :=
 let r:=row.foldl (pyPiece n) (told,false)
 if (r.2&&more)=true then lastMap (fun x=>(x.1,x.2+1)) r.1 else r.1
noncomputable def pyRows:Int→List Tok2→List (List Pc)→List Tok2
 | _,told,[]=>told
 | n,told,row :: rows=>pyRows (n+1) (pyRow n (!rows.isEmpty) told row) rows
noncomputable def rowsChars:List (List Pc)→List Nat
 | []=>[]
 | row :: rows=>rowChars row++rows.flatMap fun r=>10 :: rowChars r
theorem lex_end (m:Md) (n:Int) (hm:notQ m=true) (r:List Nat):lex m (10 :: r) n=pend m (n+1)++lex .W r (n+1):=by
 cases m with
 | Q t=>cases hm
 | W=>rfl
 | A t=>rfl
theorem tokens_eq (rows:List (List Pc)):(∀ row∈rows,∀ p∈row,Tk p)→∀ (n:Int) (told:List Tok2),pyRows n told rows=told++lex .W (rowsChars rows) n:=by
 induction rows with
 | nil=>exact fun _ n told=>(List.append_nil _).symm
 | cons row rows ih =>
  intro h n told
  have hr:=h row (.head _)
  have e:row.foldl (pyPiece n) (told,false)=(told++(rowE n .W row).1++pend (rowE n .W row).2 n,isA (rowE n .W row).2):=(congrArg (fun t=>row.foldl (pyPiece n) (t,false)) (List.append_nil told).symm).trans (row_py n row hr .W rfl told)
  have q:=rowE_notQ n row .W rfl
  cases rows with
  | nil =>
   show pyRow n false told row=_
   have l:=row_lex n row hr .W rfl []
   rw [List.append_nil] at l
   unfold pyRow
   rw [e]
   show _=told++lex .W (rowChars row++[]) n
   rw [List.append_nil,l]
   generalize rowE n .W row=re at q
   obtain ⟨x,m⟩:=re
   cases m with
   | Q t=>cases q
   | W=>exact List.append_assoc ..
   | A t=>exact List.append_assoc ..
  | cons row' rows =>
   refine (ih (fun r hq=>h r (.tail _ hq)) (n+1) (pyRow n true told row)).trans ?_
   have l:=row_lex n row hr .W rfl (10 :: rowsChars (row' :: rows))
   show _=told++lex .W (rowChars row++10 :: rowsChars (row' :: rows)) n
   rw [l,lex_end _ n q]
   unfold pyRow
   rw [e]
   generalize rowE n .W row=re at q
   obtain ⟨x,m⟩:=re
   cases m with
   | Q t=>cases q
   | W =>
    refine (congrArg (· ++ _) (List.append_nil (told++x))).trans ?_
    exact List.append_assoc ..
   | A t =>
    refine (congrArg (· ++ _) (lastMap_snoc (fun x:Tok2=>(x.1,x.2+1)) (told++x) (t,n))).trans ?_
    rw [List.append_assoc,List.append_assoc]
    rfl
theorem rowTx_chars (row:List Pc):chars (rowTx row)=rowChars row:=by
 unfold rowTx
 rw [text_chars,List.flatMap_map]
 rfl
theorem nl_chars:chars (Str.ofString "\n")=[10]:=by decide +kernel
theorem join_chars (rows:List (List Pc)):chars (Txt.join (Str.ofString "\n") (rows.map rowTx))=rowsChars rows:=by
 cases rows with
 | nil=>rfl
 | cons row rows =>
  show (((rows.map rowTx).foldl (fun acc p=>acc++(Str.ofString "\n").cps++p.cps) (rowTx row).cps)).toList=_
  rw [fold_chars,nl_chars,List.flatMap_map]
  show chars (rowTx row)++_=_
  rw [rowTx_chars]
  congr 1
  congr 1
  funext r
  rw [rowTx_chars]
  rfl
theorem plain_law (rows:List (List Pc)) (h:∀ row∈rows,∀ p∈row,Tk p):lex .W (chars (Txt.join (Str.ofString "\n") (rows.map rowTx))) 1=pyRows 1 [] rows:=by
 rw [join_chars,tokens_eq rows h 1 []]; rfl
theorem tk_blank {p:Pc} (h:Tk p):Tk (withBlank p):=by
 refine ⟨?_,h.kind⟩
 show ∀ c∈chars (blankOr p.gap),blank c=true
 unfold blankOr
 split
 ·decide +kernel
 ·exact h.gap
theorem step_tk {w head:Int} {sg:Str} {rows:List (List Pc)} {p:Pc} (h:∀ row∈rows,∀ q∈row,Tk q) (hp:Tk p):∀ row∈rowsStep w head sg rows p,∀ q∈row,Tk q:=by
 have hl:∀ q∈rows.getLast?.getD []++[p],Tk q:=fun q hq=>by
  rcases List.mem_append.mp hq with hq | hq
  ·cases e:rows.getLast? with
   | none=>rw [e] at hq; cases hq
   | some row=>rw [e] at hq; exact h row (List.mem_of_getLast? e) q hq
  ·simp at hq; subst hq; exact hp
 have hd:∀ row∈rows.dropLast,∀ q∈row,Tk q:=fun row hr=>h row (List.dropLast_subset _ hr)
 intro row hr q hq
 unfold rowsStep at hr
 split at hr
 ·split at hr
  ·simp only [List.mem_append,List.mem_cons,List.not_mem_nil,or_false] at hr
   rcases hr with hr | rfl | rfl
   ·exact hd row hr q hq
   ·exact hl q (List.mem_of_mem_take hq)
   ·exact hl q (List.mem_of_mem_drop hq)
  ·split at hr
   ·simp only [List.mem_append,List.mem_cons,List.not_mem_nil,or_false] at hr
    rcases hr with hr | rfl
    ·exact h row hr q hq
    ·simp at hq; subst hq; exact tk_blank hp
   ·simp only [List.mem_append,List.mem_cons,List.not_mem_nil,or_false] at hr
    rcases hr with hr | rfl
    ·exact hd row hr q hq
    ·exact hl q hq
 ·simp only [List.mem_append,List.mem_cons,List.not_mem_nil,or_false] at hr
  rcases hr with hr | rfl
  ·exact hd row hr q hq
  ·exact hl q hq
theorem rows_tk {w head:Int} {sg:Str}:∀ (ps:List Pc),(∀ p∈ps,Tk p)→∀ rows,(∀ row∈rows,∀ q∈row,Tk q)→∀ row∈ps.foldl (rowsStep w head sg) rows,∀ q∈row,Tk q
 | [],_,rows,h=>h
 | p :: ps,hp,rows,h=>rows_tk ps (fun q hq=>hp q (by simp [hq])) _ (step_tk h (hp p (by simp)))
theorem plain_whole {w head:Int} {sg:Str} (hh:0≤head) {ps:List Pc} (hf:∀ p∈ps,Fine p) (ht:∀ p∈ps,Tk p) (hn:ps≠[]) :
  lex .W (chars (Txt.join (Str.ofString "\n") (nlL (made w head sg ps).1 (nlX (made w head sg ps).2.1) (made w head sg ps).2.2))) 1=pyRows 1 [] (lawRows w head sg ps):=by
 rw [made_rows hh hf hn]
 exact plain_law _ (rows_tk ps ht [[]] (by simp))
noncomputable def gapOf:Nat→Str
 | 0=>""
 | 1=>" "
 | 2=>"\t"
 | _=>"  "
noncomputable def someOf (k:Nat):Str:=repS "a" ((k:Int)+1)
noncomputable def kindOf (sm:Str):Nat→Str×List Str×Str
 | 0=>(sm,[sm],"")
 | 1=>("bc,",["bc"],",")
 | 2=>(";",[],";")
 | 3=>("'e f'",["e f"],"")
 | 4=>("'#,'",["#,"],"")
 | _=>("''",[""],"")
noncomputable def pieceAt (g k i:Nat):Pc:=⟨gapOf g,(kindOf (someOf k) i).1,(kindOf (someOf k) i).2.1,(kindOf (someOf k) i).2.2⟩
theorem gap_fine (g:Nat):gapOf g = ""∨gapOf g = " "∨gapOf g = "\t"∨gapOf g = "  ":=by
 unfold gapOf
 split
 ·exact .inl rfl
 ·exact .inr (.inl rfl)
 ·exact .inr (.inr (.inl rfl))
 ·exact .inr (.inr (.inr rfl))
theorem gap_tk (g:Nat):∀ c∈chars (gapOf g),blank c=true:=by
 unfold gapOf
 split <;> decide +kernel
theorem some_chars:∀ k,k<5→chars (someOf k)=List.replicate (k+1) 97:=by decide +kernel
theorem some_fine:∀ k,k<5→(someOf k).cps.back? = some 97∧Txt.isspace (someOf k)=false:=by decide +kernel
theorem piece_fine (g k i:Nat) (hk:k<5):Fine (pieceAt g k i):=by
 refine ⟨gap_fine g,?_,?_⟩
 ·show ∃ ch,(kindOf (someOf k) i).1.cps.back? = some ch
  unfold kindOf
  split
  ·exact ⟨97,(some_fine k hk).1⟩
  ·exact ⟨44,by decide +kernel⟩
  ·exact ⟨59,by decide +kernel⟩
  ·exact ⟨39,by decide +kernel⟩
  ·exact ⟨39,by decide +kernel⟩
  ·exact ⟨39,by decide +kernel⟩
 ·show Txt.isspace (kindOf (someOf k) i).1=false
  unfold kindOf
  split
  ·exact (some_fine k hk).2
  all_goals decide +kernel
theorem piece_tk (g k i:Nat) (hk:k<5):Tk (pieceAt g k i):=by
 refine ⟨gap_tk g,?_⟩
 unfold pieceAt kindOf
 dsimp only
 split
 ·refine .inl ⟨chars_empty,_,rfl,.inl ⟨rfl,?_,?_⟩⟩
  ·rw [some_chars k hk]; simp
  ·rw [some_chars k hk]
   intro c hc
   rw [List.eq_of_mem_replicate hc]; decide
 ·exact .inr (.inl (by decide +kernel))
 ·exact .inr (.inr (by decide +kernel))
 ·exact .inl ⟨chars_empty,[101,32,102],by decide +kernel,.inr (by decide +kernel)⟩
 ·exact .inl ⟨chars_empty,[35,44],by decide +kernel,.inr (by decide +kernel)⟩
 ·exact .inl ⟨chars_empty,[],by decide +kernel,.inr (by decide +kernel)⟩
noncomputable def nextTok:Md→List Nat→Int→Option (List Nat×Int×List Nat×List (List Nat))
 | .W,[],_=>none
 | .A t,[],n=>some (t,n,[],[])
 | .Q _,[],_=>none
 | .W,c :: r,n=>if c=10 then nextTok .W r (n+1) else if blank c=true then nextTok .W r n else if c=39 then nextTok (.Q []) r n else if letter c=true then nextTok (.A [c]) r n else some ([c],n,r,[])
 | .A t,c :: r,n=>if c=10 then some (t,n+1,r,[]) else if blank c=true then some (t,n,r,[]) else if c=39 then nextTok (.Q t) r n else if letter c=true then nextTok (.A (t++[c])) r n else some (t,n,r,[[c]])
 | .Q t,c :: r,n=>if c=39 then nextTok (.A t) r n else nextTok (.Q (t++[c])) r n
noncomputable def afterTok:Option (List Nat×Int×List Nat×List (List Nat))→List Tok2
 | none=>[]
 | some (t,n',r,pb)=>(t,n') :: (pb.map (fun x=>(x,n'))++lex .W r n')
theorem lex_next (l:List Nat):∀ (m:Md) (n:Int),lex m l n=afterTok (nextTok m l n):=by
 induction l with
 | nil=>intro m n; cases m <;> rfl
 | cons c r ih =>
  intro m n
  cases m with
  | W=>exact if4r (R:=fun x o=>x=afterTok o) (ih _ _) (ih _ _) (ih _ _) (ih _ _) rfl
  | A t=>exact if4r (R:=fun x o=>x=afterTok o) rfl rfl (ih _ _) (ih _ _) rfl
  | Q t =>
   by_cases h:c=39
   ·exact (if_pos h).trans ((ih (.A t) n).trans (by rw [nextTok,if_pos h]))
   ·exact (if_neg h).trans ((ih (.Q (t++[c])) n).trans (by rw [nextTok,if_neg h]))
noncomputable def index_d:{ x:Df // defAt ["_index"] prg=some x }:=⟨_,rfl⟩
noncomputable def scheck_d:{ x:Df // defAt ["StringIO","__check"] prg=some x }:=⟨_,rfl⟩
noncomputable def sread_d:{ x:Df // defAt ["StringIO","read"] prg=some x }:=⟨_,rfl⟩
structure SioFacts (c:Cst):Prop where
 index:FnK c 224 index_d.1 "_index" "_index" .none 223 []
 indexN:nsIn c.K mainGlobals "_index" = some (some (.ref 224))
 indexK:keepIn c.K (.ref 224)=true
 typeN:nsIn c.K mainGlobals "type" = some none
 intN:nsIn c.K mainGlobals "int" = some none
 boolN:nsIn c.K mainGlobals "bool" = some none
 lenN:nsIn c.K mainGlobals "len" = some none
 check:FnK c 542 scheck_d.1 "__check" "StringIO.__check" .none 541 []
 mCheck:MethOk c 758 "_StringIO__check" 542
 kCheck:keepIn c.K (.ref 542)=true
 read:FnK c 704 sread_d.1 "read" "StringIO.read" (.ref 697) 703 []
 readD:∃ t,DfOk c 697 #[.int (-1) t]
 gBuf:GetOk c 758 "_StringIO__buf"
 gPos:GetOk c 758 "_StringIO__pos"
 sPos:SetOk c 758 "_StringIO__pos"
noncomputable abbrev sioO (x:Str) (k:Int):SO:=.inst 758 [("_StringIO__newline",.str "\n"),("_StringIO__buf",.str x),("_StringIO__pos",.int k)]
section
variable {c:Cst} (S:SioFacts c) {d u:Nat} {cx:Cx} {K:SV→Cx→Prop}
include S
theorem index_c (hd:d<990) {n:Int} {w:Str} (hn:-1000000≤n∧n≤1000000) (h:K (.int n) (cx.upd [] [] cx.fr)):SpC c d u (.ref 224) [.int n,.str w] cx K:=by
 refine fn_pos (obs:=[]) ["n","what"] S.index (by exact aR ‹_› rfl) (fun name qual doc pm an cd ct cl vs hv=>?_) (by rfl) (by decide) (by rfl) (List.nil_sublist _) lo_nil (by rfl) ?_
 ·refine hide fun Go jo=>?_
  obtain ⟨x,y,rfl⟩:=len2 hv
  refine jo ?_
  rfl
 ·refine ss_cons (ss_if (st_and (st_cmp (sp_call (sp_bltn (v:=.type "type") S.typeN (by decide +kernel) ⟨_,rfl,.inr (.inl ⟨_,rfl⟩),sp_name rfl (c_typeI (sp_bltn (v:=.type "int") S.intN (by decide +kernel) (o_isnT ⟨_,rfl,?_⟩)))⟩)))))
  refine ite_f (by decide) (ite_f (by decide) (ss_nil ?_))
  refine ss_cons (ss_assign (sp_call (sp_bltn (v:=.type "int") S.intN (by decide +kernel) ⟨_,rfl,.inr (.inl ⟨_,rfl⟩),sp_name rfl (c_intc ?_)⟩)))
  refine ss_cons (ss_if (st_or (st_cmp (sp_name rfl (sp_int (o_gti ⟨_,rfl,?_⟩))))))
  refine ite_f (by simp; lia) (st_or (st_cmp (sp_name rfl (sp_un (sp_int (o_negi (o_lti ⟨_,rfl,?_⟩)))))))
  refine ite_f (by simp; lia) (st_or_nil (ite_f (by decide) (ss_nil ?_)))
  refine ss_cons (ss_ret (sp_name rfl ?_))
  exact Back.mk [] rfl ob_nil rfl rfl h
theorem scheck_c (hd:d<990) {x:Str} {k:Int} (hi:cx.obj.lookup 4=some (sioO x k)) (h:K .none (cx.upd [(4,sioO x k)] [] cx.fr)):SpC c d u (.ref 542) [.ref 4] cx K:=by
 refine fn_pos (obs:=[(4,sioO x k)]) ["self"] S.check (by exact aR ‹_› rfl) (fun name qual doc pm an cd ct cl vs hv=>?_) (by rfl) (by decide) (by rfl) (List.singleton_sublist.mpr (mem_of_lookup hi)) (one_obj (by decide) rfl) (by rfl) ?_
 ·obtain ⟨x,rfl⟩:=len1 hv
  rfl
 ·refine ss_cons (ss_if (st_cmp (sp_attr (sp_name rfl (at_get rfl rfl S.gBuf rfl rfl (sp_none (o_isn (by intro w h; cases h) ⟨_,rfl,ite_f (by intro h; cases h) (ss_nil ?_)⟩)))))))
  exact ss_nil (Back.one (so':=sioO x k) rfl (by decide) rfl rfl rfl h)
theorem sread_c (hd:d<980) {x:Str} {k:Nat} (hx:x.length≤1000000) (hk:k≤x.length) (hi:cx.obj.lookup 4=some (sioO x k))
  (h0:k=x.length→K (.str "") (cx.upd [(4,sioO x k)] [] cx.fr)) (h1:k<x.length→K (.str (Txt.slice x (some k) (some (k+1)))) (cx.upd [(4,sioO x (k+1))] [] cx.fr)):SpC c d u (.ref 704) [.ref 4,.int 1] cx K:=by
 obtain ⟨t,hD⟩:=S.readD
 refine fn_dflt (obs:=[(4,sioO x k)]) (exS:=[]) (ex:=[]) ["self","size"] S.read (by exact aR ‹_› rfl) hD (fun name qual doc pm an cd ct cl vs hv=>?_) (fun _ _=>.nil) (by rfl) (by decide) (by rfl) (List.singleton_sublist.mpr (mem_of_lookup hi)) (one_obj (by decide) rfl) (by rfl) ?_
 ·refine hide fun Go jo=>?_
  obtain ⟨x,y,rfl⟩:=len2 hv
  refine jo ?_
  exact ⟨_,rfl,rfl⟩
 ·refine ss_cons (ss_if (st_cmp (sp_name rfl (sp_none (o_isn (by intro w h; cases h) ⟨_,rfl,ite_f (by intro h; cases h) (ss_nil ?_)⟩)))))
  refine ss_cons (ss_assign (sp_call (sp_glob S.indexN ⟨_,rfl,.inr (.inr S.indexK),sp_name rfl (sp_str ?_)⟩)))
  refine index_c S (d:=d+1) (by exact aS ‹_› rfl) (by decide) ?_
  refine ss_cons (ss_expr (sp_meth (sp_name rfl (at_meth rfl rfl S.mCheck rfl ⟨.inr (.inr S.kCheck),?_⟩))))
  refine scheck_c S (d:=d+1) (by exact aS ‹_› rfl) rfl ⟨rfl,?_⟩
  refine ss_cons (ss_assign (sp_attr (sp_name rfl (at_get rfl rfl S.gPos rfl rfl ?_))))
  refine ss_cons (ss_assign (sp_call (sp_bltn (v:=.builtin "len") S.lenN (by decide +kernel) ⟨_,rfl,.inl ⟨_,rfl⟩,sp_attr (sp_name rfl (at_get rfl rfl S.gBuf rfl rfl (c_lens (by lia) ?_)))⟩)))
  refine ss_cons (ss_if (st_cmp (sp_name rfl (sp_name rfl (o_gei ⟨_,rfl,?_⟩)))))
  by_cases hq:k=x.length
  ·refine ite_t (by simp; lia) (ss_cons (ss_ret (sp_str ?_)))
   exact Back.one (so':=sioO x k) rfl (by decide) rfl rfl rfl (h0 hq)
  refine ite_f (by simp; lia) (ss_nil ?_)
  have fin:∀ {e:Int},e=k+1→SpSs c (d+1) (u+3) (enOf 704 sread_d.1 "StringIO.read" 703 []) (sread_d.1.2.1.drop 7) ⟨[("self",.ref 4),("size",.int 1),("start",.int k),("stop",.int e)],[(4,sioO x k)],100,cx.fr⟩ (fun fl cx'=>Back cx [(4,sioO x k)] K fl.val cx'):=by
   rintro e rfl
   refine ss_cons (ss_seta (sp_name rfl (sp_name rfl (at_set rfl rfl S.sPos (show (3:Nat)<1000 by decide) ?_))))
   refine ss_cons (ss_ret (sp_subsl (sp_attr (sp_name rfl (at_get rfl rfl S.gBuf rfl rfl ?_)))))
   refine sp_name rfl ⟨_,rfl,sp_name rfl ⟨_,rfl,sl_str hx ?_⟩⟩
   exact Back.one (so':=sioO x (k+1)) rfl (by decide) rfl rfl rfl (h1 (by lia))
  refine ss_cons (ss_if (st_and (st_cmp (sp_name rfl (sp_int (o_gei ⟨_,rfl,ite_t (by decide) ?_⟩))))))
  refine st_and (st_cmp (sp_bin (sp_name rfl (sp_name rfl (o_addi (sp_name rfl (o_lti ⟨_,rfl,?_⟩)))))))
  by_cases hs:(k:Int)+1<x.length
  ·refine ite_t (by simpa using hs) (st_and_nil (ite_t rfl (ss_cons (ss_assign (sp_bin (sp_name rfl (sp_name rfl (o_addi (ss_nil ?_)))))))))
   exact fin rfl
  ·refine ite_f (by simpa using hs) (ite_f (by decide) (ss_nil ?_))
   exact fin (by lia)
end
noncomputable def punct_d:{ x:Df // defAt ["shlex","punctuation_chars"] prg=some x }:=⟨_,rfl⟩
noncomputable def rtok_d:{ x:Df // defAt ["shlex","read_token"] prg=some x }:=⟨_,rfl⟩
noncomputable def gtok_d:{ x:Df // defAt ["shlex","get_token"] prg=some x }:=⟨_,rfl⟩
noncomputable def linit_d:{ x:Df // defAt ["shlex","__init__"] prg=some x }:=⟨_,rfl⟩
structure LexFacts (c:Cst):Prop where
 punct:FnK c 824 punct_d.1 "punctuation_chars" "shlex.punctuation_chars" .none 823 []
 pPunct:PropOk c 893 "punctuation_chars" 824
 gPunct:GetOk c 893 "_punctuation_chars"
 gIn:GetOk c 893 "instream"
 gDebug:GetOk c 893 "debug"
 gState:GetOk c 893 "state"
 gToken:GetOk c 893 "token"
 gLine:GetOk c 893 "lineno"
 gWs:GetOk c 893 "whitespace"
 gPosix:GetOk c 893 "posix"
 gComm:GetOk c 893 "commenters"
 gEsc:GetOk c 893 "escape"
 gWord:GetOk c 893 "wordchars"
 gQuo:GetOk c 893 "quotes"
 gSplit:GetOk c 893 "whitespace_split"
 gPush:GetOk c 893 "pushback"
 gEof:GetOk c 893 "eof"
 gFile:GetOk c 893 "filestack"
 gSrc:GetOk c 893 "source"
 sState:SetOk c 893 "state"
 sToken:SetOk c 893 "token"
 sLine:SetOk c 893 "lineno"
 mRead:MethOk c 758 "read" 704
 kRead:keepIn c.K (.ref 704)=true
noncomputable abbrev wordcs:Str:="abcdfeghijklmnopqrstuvwxyzABCDEFGHIJKLMNOPQRSTUVWXYZ0123456789_ßàáâãäåæçèéêëìíîïðñòóôõöøùúûüýþÿÀÁÂÃÄÅÆÇÈÉÊËÌÍÎÏÐÑÒÓÔÕÖØÙÚÛÜÝÞ"
noncomputable abbrev lexO (st:SV) (tok:Str) (n:Int):SO:=.inst 893 [("instream",.ref 4),("infile",.none),("posix",.bool true),("eof",.none),("commenters",.str "#"),("wordchars",.str wordcs),("whitespace",.str " \t\r\n"),("whitespace_split",.bool false),("quotes",.str "'\""),("escape",.str "\\"),("escapedquotes",.str "\""),("state",st),("pushback",.ref 5),("lineno",.int n),("debug",.int 0),("token",.str tok),("filestack",.ref 6),("source",.none),("_punctuation_chars",.str "")]
noncomputable abbrev lexAll (st:SV) (tok:Str) (n:Int) (x:Str) (k:Int) (pb:List SV):List (Nat×SO):=[(3,lexO st tok n),(4,sioO x k),(5,.deq pb),(6,.deq [])]
section
variable {c:Cst} (S:SioFacts c) (X:LexFacts c) {d u:Nat} {cx:Cx} {K:SV→Cx→Prop}
include X
theorem punct_k (hd:d<990) {st:SV} {hst:st.lo=true} {tok:Str} {n:Int} (hi:cx.obj.lookup 3=some (lexO st tok n)) (h:K (.str "") (cx.upd [(3,lexO st tok n)] [] cx.fr)):SpKc c d u (.ref 824) [.ref 3] [] cx K:=by
 have lo:(lexO st tok n).lo=true:=by simp [SO.lo,SV.los,SV.lo,hst]
 refine fn_posC (obs:=[(3,lexO st tok n)]) ["self"] X.punct (by exact aR ‹_› rfl) (fun name qual doc pm an cd ct cl vs hv=>?_) (by rfl) (by decide) (by rfl) (List.singleton_sublist.mpr (mem_of_lookup hi)) (one_obj (by decide) lo) (by rfl) ?_
 ·obtain ⟨x,rfl⟩:=len1 hv
  rfl
 ·refine ss_cons (ss_ret (sp_attr (sp_name rfl (at_get rfl rfl X.gPunct rfl rfl ?_))))
  exact Back.one (so':=lexO st tok n) rfl (by decide) lo rfl rfl h
noncomputable def whileBody:Stmt→List Stmt
 | .While _ b _ _=>b
 | _=>[]
noncomputable def rtBody:List Stmt:=whileBody (stAt rtok_d.1.2.1 2)
noncomputable abbrev rtEn:En:=enOf 861 rtok_d.1 "shlex.read_token" 860 []
include S
theorem head_c (hd:d<970) {st:SV} (hst:st.lo=true) {tok x:Str} {n:Int} {k:Nat} {pb:List SV} (hpb:SV.los pb=true) {loc:List (Str×SV)} {nx:Nat} {fr:List Nat} {Kf:Fl→Cx→Prop} (hx:x.length≤1000000) (hk:k≤x.length)
  (hs:loc.lookup ("self":Str)=some (.ref 3))
  (h0:k=x.length→SpSs c (d+1) (u+3) rtEn (rtBody.drop 3) ⟨setL ("nextchar":Str) (.str "") loc,lexAll st tok n x k pb,nx,fr⟩ Kf)
  (h1:k<x.length→∀ b,decide (Txt.slice x (some k) (some (k+1))=("\n":Str))=b→SpSs c (d+1) (u+3) rtEn (rtBody.drop 3) ⟨setL ("nextchar":Str) (.str (Txt.slice x (some k) (some (k+1)))) loc,lexAll st tok (if b=true then n+1 else n) x (k+1) pb,nx,fr⟩ Kf) :
  SpSs c (d+1) (u+3) rtEn rtBody ⟨loc,lexAll st tok n x k pb,nx,fr⟩ Kf:=by
 refine ss_cons (ss_if (st_and (st_val (sp_attr (sp_name hs (at_prop rfl rfl X.pPunct ?_))))))
 refine punct_k X (d:=d+1) (by exact aS ‹_› rfl) (hst:=hst) rfl ⟨rfl,tr_str (by decide) ?_⟩
 refine ite_f (by decide) (ite_f (by decide) ?_)
 refine ss_cons (ss_assign (sp_meth (sp_attr (sp_name hs (at_get rfl rfl X.gIn rfl rfl (at_meth rfl rfl X.mRead rfl ⟨.inr (.inr X.kRead),sp_int ?_⟩))))))
 refine sread_c S (d:=d+1) (by exact aS ‹_› rfl) hx hk rfl (fun e=>?_) (fun e=>?_)
 ·have hs':(setL ("nextchar":Str) (.str "") loc).lookup ("self":Str)=some (.ref 3):=get_ne hs
  have hn':(setL ("nextchar":Str) (.str "") loc).lookup ("nextchar":Str)=some (.str ""):=get_put
  refine ss_nil ?_
  refine ss_cons (ss_if (st_cmp (sp_name hn' (sp_str (o_eqs ⟨_,rfl,ite_f (by decide +kernel) (ss_nil ?_)⟩)))))
  refine ss_cons (ss_if (st_cmp (sp_attr (sp_name hs' (at_get rfl rfl X.gDebug rfl rfl (sp_int (o_gei ⟨_,rfl,ite_f (by decide) (ss_nil ?_)⟩)))))))
  exact h0 e
 ·have hs':(setL ("nextchar":Str) (.str (Txt.slice x (some k) (some (k+1)))) loc).lookup ("self":Str)=some (.ref 3):=get_ne hs
  have hn':(setL ("nextchar":Str) (.str (Txt.slice x (some k) (some (k+1)))) loc).lookup ("nextchar":Str)=some (.str (Txt.slice x (some k) (some (k+1)))):=get_put
  refine ss_nil ?_
  refine ss_cons (ss_if (st_cmp (sp_name hn' (sp_str (o_eqs ⟨_,rfl,?_⟩)))))
  by_cases hb:Txt.slice x (some k) (some (k+1))=("\n":Str)
  ·refine ite_t (by simpa using hb) ?_
   refine ss_cons (ss_auga (sp_name hs' (at_get rfl rfl X.gLine rfl rfl (sp_int (o_iaddi (at_set rfl rfl X.sLine (show (19:Nat)<1000 by decide) (ss_nil ?_)))))))
   refine ss_cons (ss_if (st_cmp (sp_attr (sp_name hs' (at_get rfl rfl X.gDebug rfl rfl (sp_int (o_gei ⟨_,rfl,ite_f (by decide) (ss_nil ?_)⟩)))))))
   exact h1 e true (decide_eq_true hb)
  ·refine ite_f (by simpa using hb) (ss_nil ?_)
   refine ss_cons (ss_if (st_cmp (sp_attr (sp_name hs' (at_get rfl rfl X.gDebug rfl rfl (sp_int (o_gei ⟨_,rfl,ite_f (by decide) (ss_nil ?_)⟩)))))))
   exact h1 e false (decide_eq_false hb)
end
structure ChW (ch:Str) (ws word quo:Bool):Prop where
 len:ch.length=1
 ws:strIn ch " \t\r\n" = ws
 comm:strIn ch "#" = false
 esc:strIn ch "\\" = false
 word:strIn ch wordcs=word
 punct:strIn ch "" = false
 quo:strIn ch "'\"" = quo
section
variable {c:Cst} (X:LexFacts c) {d u:Nat} (hd:d<970) {x:Str} {n:Int} {k:Int} {pb:List SV} {loc:List (Str×SV)} {nx:Nat} {fr:List Nat} {Kf:Fl→Cx→Prop}
include X hd
theorem turnW_end (hs:loc.lookup ("self":Str)=some (.ref 3)) (hn:loc.lookup ("nextchar":Str)=some (.str "")) (h:Kf .brk ⟨loc,lexAll .none "" n x k pb,nx,fr⟩) :
  SpSs c (d+1) (u+3) rtEn (rtBody.drop 3) ⟨loc,lexAll (.str " ") "" n x k pb,nx,fr⟩ Kf:=by
 refine ss_cons (ss_if (st_cmp (sp_attr (sp_name hs (at_get rfl rfl X.gState rfl rfl (sp_none (o_isn (by intro w h; cases h) ⟨_,rfl,ite_f (by intro h; cases h) ?_⟩)))))))
 refine ss_cons (ss_if (st_cmp (sp_attr (sp_name hs (at_get rfl rfl X.gState rfl rfl (sp_str (o_eqs ⟨_,rfl,ite_t (by decide +kernel) ?_⟩)))))))
 refine ss_cons (ss_if (st_not (st_val (sp_name hn (tr_str (by decide) (ite_t (by decide) ?_))))))
 refine ss_cons (ss_seta (sp_none (sp_name hs (at_set rfl rfl X.sState (show (19:Nat)<1000 by decide) ?_))))
 exact ss_cons (ss_brk h)
theorem turnW {ch:Str} {ws word quo:Bool} (H:ChW ch ws word quo) (hs:loc.lookup ("self":Str)=some (.ref 3)) (hn:loc.lookup ("nextchar":Str)=some (.str ch)) (hq:loc.lookup ("quoted":Str)=some (.bool false))
  (hb:ws=true→Kf .cont ⟨loc,lexAll (.str " ") "" n x k pb,nx,fr⟩)
  (hc:ws=false→word=true→Kf .next ⟨loc,lexAll (.str "a") ch n x k pb,nx,fr⟩)
  (hu:ws=false→word=false→quo=true→Kf .next ⟨loc,lexAll (.str ch) "" n x k pb,nx,fr⟩)
  (he:ws=false→word=false→quo=false→Kf .brk ⟨loc,lexAll (.str " ") ch n x k pb,nx,fr⟩) :
  SpSs c (d+1) (u+3) rtEn (rtBody.drop 3) ⟨loc,lexAll (.str " ") "" n x k pb,nx,fr⟩ Kf:=by
 have hl:(ch.length:Int)≠0:=by rw [H.len]; decide
 refine ss_cons (ss_if (st_cmp (sp_attr (sp_name hs (at_get rfl rfl X.gState rfl rfl (sp_none (o_isn (by intro w h; cases h) ⟨_,rfl,ite_f (by intro h; cases h) ?_⟩)))))))
 refine ss_cons (ss_if (st_cmp (sp_attr (sp_name hs (at_get rfl rfl X.gState rfl rfl (sp_str (o_eqs ⟨_,rfl,ite_t (by decide +kernel) ?_⟩)))))))
 refine ss_cons (ss_if (st_not (st_val (sp_name hn (tr_str (by rw [H.len]; decide) (ite_f (by simpa using hl) ?_))))))
 refine ss_cons (ss_if (st_cmp (sp_name hn (sp_attr (sp_name hs (at_get rfl rfl X.gWs rfl rfl (o_ins ⟨_,rfl,?_⟩)))))))
 rw [H.ws]
 cases ws with
 | true =>
  refine ite_t rfl ?_
  refine ss_cons (ss_if (st_cmp (sp_attr (sp_name hs (at_get rfl rfl X.gDebug rfl rfl (sp_int (o_gei ⟨_,rfl,ite_f (by decide) (ss_nil ?_)⟩)))))))
  refine ss_cons (ss_if (st_or (st_val (sp_attr (sp_name hs (at_get rfl rfl X.gToken rfl rfl (tr_str (by decide) (ite_f (by decide) ?_))))))))
  refine st_or (st_and (st_val (sp_attr (sp_name hs (at_get rfl rfl X.gPosix rfl rfl (tr_bool (ite_t rfl ?_)))))))
  refine st_and (st_val (sp_name hq (tr_bool (ite_f (by decide) (ite_f (by decide) (st_or_nil (ite_f (by decide) ?_)))))))
  exact ss_cons (ss_cont (hb rfl))
 | false =>
  refine ite_f (by decide) ?_
  refine ss_cons (ss_if (st_cmp (sp_name hn (sp_attr (sp_name hs (at_get rfl rfl X.gComm rfl rfl (o_ins ⟨_,rfl,ite_f (by rw [H.comm]; decide) ?_⟩)))))))
  refine ss_cons (ss_if (st_and (st_val (sp_attr (sp_name hs (at_get rfl rfl X.gPosix rfl rfl (tr_bool (ite_t rfl ?_))))))))
  refine st_and (st_cmp (sp_name hn (sp_attr (sp_name hs (at_get rfl rfl X.gEsc rfl rfl (o_ins ⟨_,rfl,ite_f (by rw [H.esc]; decide) (ite_f (by decide) ?_)⟩))))))
  refine ss_cons (ss_if (st_cmp (sp_name hn (sp_attr (sp_name hs (at_get rfl rfl X.gWord rfl rfl (o_ins ⟨_,rfl,?_⟩)))))))
  rw [H.word]
  cases word with
  | true =>
   refine ite_t rfl ?_
   refine ss_cons (ss_seta (sp_name hn (sp_name hs (at_set rfl rfl X.sToken (show (19:Nat)<1000 by decide) ?_))))
   refine ss_cons (ss_seta (sp_str (sp_name hs (at_set rfl rfl X.sState (show (19:Nat)<1000 by decide) ?_))))
   exact ss_nil (ss_nil (ss_nil (ss_nil (ss_nil (ss_nil (ss_nil (ss_nil (hc rfl rfl))))))))
  | false =>
   refine ite_f (by decide) ?_
   refine ss_cons (ss_if (st_cmp (sp_name hn (sp_attr (sp_name hs (at_prop rfl rfl X.pPunct ?_))))))
   refine punct_k X (d:=d+1) (by exact aS ‹_› rfl) (hst:=rfl) rfl ⟨rfl,o_ins ⟨_,rfl,ite_f (by rw [H.punct]; decide) ?_⟩⟩
   refine ss_cons (ss_if (st_cmp (sp_name hn (sp_attr (sp_name hs (at_get rfl rfl X.gQuo rfl rfl (o_ins ⟨_,rfl,?_⟩)))))))
   rw [H.quo]
   cases quo with
   | true =>
    refine ite_t rfl ?_
    refine ss_cons (ss_if (st_not (st_val (sp_attr (sp_name hs (at_get rfl rfl X.gPosix rfl rfl (tr_bool (ite_f (by decide) (ss_nil ?_)))))))))
    refine ss_cons (ss_seta (sp_name hn (sp_name hs (at_set rfl rfl X.sState (show (19:Nat)<1000 by decide) ?_))))
    exact ss_nil (ss_nil (ss_nil (ss_nil (ss_nil (ss_nil (ss_nil (ss_nil (ss_nil (ss_nil (hu rfl rfl rfl))))))))))
   | false =>
    refine ite_f (by decide) ?_
    refine ss_cons (ss_if (st_val (sp_attr (sp_name hs (at_get rfl rfl X.gSplit rfl rfl (tr_bool (ite_f (by decide) ?_)))))))
    refine ss_cons (ss_seta (sp_name hn (sp_name hs (at_set rfl rfl X.sToken (show (19:Nat)<1000 by decide) ?_))))
    refine ss_cons (ss_if (st_or (st_val (sp_attr (sp_name hs (at_get rfl rfl X.gToken rfl rfl (tr_str (by rw [H.len]; decide) (ite_t (by simpa using hl) (ite_t rfl ?_)))))))))
    exact ss_cons (ss_brk (he rfl rfl rfl))
theorem turnQ {ch tok:Str} (hlen:ch.length=1) (hesc:strIn ch "\\" = false) (ht:tok.length≤1000000) (hs:loc.lookup ("self":Str)=some (.ref 3)) (hn:loc.lookup ("nextchar":Str)=some (.str ch))
  (hu:ch=("'":Str)→Kf .next ⟨setL ("quoted":Str) (.bool true) loc,lexAll (.str "a") tok n x k pb,nx,fr⟩)
  (he:ch≠("'":Str)→Kf .next ⟨setL ("quoted":Str) (.bool true) loc,lexAll (.str "'") (tok++ch) n x k pb,nx,fr⟩) :
  SpSs c (d+1) (u+3) rtEn (rtBody.drop 3) ⟨loc,lexAll (.str "'") tok n x k pb,nx,fr⟩ Kf:=by
 have hl:(ch.length:Int)≠0:=by rw [hlen]; decide
 refine ss_cons (ss_if (st_cmp (sp_attr (sp_name hs (at_get rfl rfl X.gState rfl rfl (sp_none (o_isn (by intro w h; cases h) ⟨_,rfl,ite_f (by intro h; cases h) ?_⟩)))))))
 refine ss_cons (ss_if (st_cmp (sp_attr (sp_name hs (at_get rfl rfl X.gState rfl rfl (sp_str (o_eqs ⟨_,rfl,ite_f (by decide +kernel) ?_⟩)))))))
 refine ss_cons (ss_if (st_cmp (sp_attr (sp_name hs (at_get rfl rfl X.gState rfl rfl (sp_attr (sp_name hs (at_get rfl rfl X.gQuo rfl rfl (o_ins ⟨_,rfl,ite_t (by decide +kernel) ?_⟩)))))))))
 refine ss_cons (ss_assign (sp_bool ?_))
 have hs':(setL ("quoted":Str) (.bool true) loc).lookup ("self":Str)=some (.ref 3):=get_ne hs
 have hn':(setL ("quoted":Str) (.bool true) loc).lookup ("nextchar":Str)=some (.str ch):=get_ne hn
 refine ss_cons (ss_if (st_not (st_val (sp_name hn' (tr_str (by rw [hlen]; decide) (ite_f (by simpa using hl) (ss_nil ?_)))))))
 refine ss_cons (ss_if (st_cmp (sp_name hn' (sp_attr (sp_name hs' (at_get rfl rfl X.gState rfl rfl (o_eqs ⟨_,rfl,?_⟩)))))))
 by_cases hc:ch=("'":Str)
 ·refine ite_t (by simpa using hc) ?_
  refine ss_cons (ss_if (st_not (st_val (sp_attr (sp_name hs' (at_get rfl rfl X.gPosix rfl rfl (tr_bool (ite_f (by decide) ?_))))))))
  refine ss_cons (ss_seta (sp_str (sp_name hs' (at_set rfl rfl X.sState (show (19:Nat)<1000 by decide) ?_))))
  exact ss_nil (ss_nil (ss_nil (ss_nil (ss_nil (ss_nil (hu hc))))))
 ·refine ite_f (by simpa using hc) ?_
  refine ss_cons (ss_if (st_and (st_val (sp_attr (sp_name hs' (at_get rfl rfl X.gPosix rfl rfl (tr_bool (ite_t rfl ?_))))))))
  refine st_and (st_cmp (sp_name hn' (sp_attr (sp_name hs' (at_get rfl rfl X.gEsc rfl rfl (o_ins ⟨_,rfl,ite_f (by rw [hesc]; decide) (ite_f (by decide) ?_)⟩))))))
  refine ss_cons (ss_auga (sp_name hs' (at_get rfl rfl X.gToken rfl rfl (sp_name hn' (o_iadds (by lia) (at_set rfl rfl X.sToken (show (19:Nat)<1000 by decide) ?_))))))
  exact ss_nil (ss_nil (ss_nil (ss_nil (ss_nil (ss_nil (he hc))))))
end
section
variable {c:Cst} (X:LexFacts c) {d u:Nat} (hd:d<970) (huu:u<8000) {x:Str} {n:Int} {k:Int} {pb:List SV} {loc:List (Str×SV)} {nx:Nat} {fr:List Nat} {Kf:Fl→Cx→Prop}
include X hd huu
theorem toA {tok:Str} (hs:loc.lookup ("self":Str)=some (.ref 3))
  (h:SpSs c (d+1) (u+3) rtEn (thenOf (stAt (elseOf (stAt (elseOf (stAt (elseOf (stAt (elseOf (stAt rtBody 3)) 0)) 0)) 0)) 0)) ⟨loc,lexAll (.str "a") tok n x k pb,nx,fr⟩ Kf) (hK:∀ f cx,Kf f cx→Then c (d+1) (u+3) rtEn [] Kf f cx) :
  SpSs c (d+1) (u+3) rtEn (rtBody.drop 3) ⟨loc,lexAll (.str "a") tok n x k pb,nx,fr⟩ Kf:=by
 have h5:SpSs c (d+1) (u+3) rtEn (thenOf (stAt (elseOf (stAt (elseOf (stAt (elseOf (stAt (elseOf (stAt rtBody 3)) 0)) 0)) 0)) 0)) ⟨loc,lexAll (.str "a") tok n x k pb,nx,fr⟩ (Then c (d+1) (u+3) rtEn [] (Then c (d+1) (u+3) rtEn [] (Then c (d+1) (u+3) rtEn [] (Then c (d+1) (u+3) rtEn [] (Then c (d+1) (u+3) rtEn [] Kf))))):=by
  refine Sp.mono h fun f cx hf=>?_
  have up:∀ {Kg:Fl→Cx→Prop},Kg f cx→Then c (d+1) (u+3) rtEn [] Kg f cx:=fun {Kg} hg=>by
   cases f with
   | next=>exact ss_nil hg
   | brk=>exact hg
   | cont=>exact hg
   | ret v=>exact hg
  exact up (up (up (up (up hf))))
 refine ss_cons (ss_if (st_cmp (sp_attr (sp_name hs (at_get rfl rfl X.gState rfl rfl (sp_none (o_isn (by intro w h; cases h) ⟨_,rfl,ite_f (by intro h; cases h) ?_⟩)))))))
 refine ss_cons (ss_if (st_cmp (sp_attr (sp_name hs (at_get rfl rfl X.gState rfl rfl (sp_str (o_eqs ⟨_,rfl,ite_f (by decide +kernel) ?_⟩)))))))
 refine ss_cons (ss_if (st_cmp (sp_attr (sp_name hs (at_get rfl rfl X.gState rfl rfl (sp_attr (sp_name hs (at_get rfl rfl X.gQuo rfl rfl (o_ins ⟨_,rfl,ite_f (by decide +kernel) ?_⟩)))))))))
 refine ss_cons (ss_if (st_cmp (sp_attr (sp_name hs (at_get rfl rfl X.gState rfl rfl (sp_attr (sp_name hs (at_get rfl rfl X.gEsc rfl rfl (o_ins ⟨_,rfl,ite_f (by decide +kernel) ?_⟩)))))))))
 refine ss_cons (ss_if (st_cmp (sp_attr (sp_name hs (at_get rfl rfl X.gState rfl rfl (sp_tup (show SpArgs _ _ _ _ _ _ _ from sp_str (sp_str ⟨by decide,o_intup (x:="a") (ys:=["a","c"]) (by exact aS ‹_› rfl) (by decide +kernel) (by decide +kernel) ⟨_,rfl,ite_t (by decide +kernel) ?_⟩⟩))))))))
 exact h5
theorem turnA_end {tok:Str} (hs:loc.lookup ("self":Str)=some (.ref 3)) (hn:loc.lookup ("nextchar":Str)=some (.str "")) (h:Kf .brk ⟨loc,lexAll .none tok n x k pb,nx,fr⟩) :
  SpSs c (d+1) (u+3) rtEn (thenOf (stAt (elseOf (stAt (elseOf (stAt (elseOf (stAt (elseOf (stAt rtBody 3)) 0)) 0)) 0)) 0)) ⟨loc,lexAll (.str "a") tok n x k pb,nx,fr⟩ Kf:=by
 refine ss_cons (ss_if (st_not (st_val (sp_name hn (tr_str (by decide) (ite_t (by decide) ?_))))))
 refine ss_cons (ss_seta (sp_none (sp_name hs (at_set rfl rfl X.sState (show (19:Nat)<1000 by decide) ?_))))
 exact ss_cons (ss_brk h)
theorem tokOr {tok:Str} {st:SV} {q:Bool} {e1 e2:Expr} {T:Expr} (ht:tok.length≤1000000) (hs:loc.lookup ("self":Str)=some (.ref 3)) (hq:loc.lookup ("quoted":Str)=some (.bool q)) (hw:(tok.length:Int)≠0∨q=true) {pos p1 p2 p3 p4 p5 p6:Pos} {K:Bool→Cx→Prop} (h:K true ⟨loc,lexAll st tok n x k pb,nx,fr⟩) :
  SpT c (d+1) (u+3) rtEn (.BoolOp .Or [.Attribute (.Name "self" p1) "token" p2,.BoolOp .And [.Attribute (.Name "self" p3) "posix" p4,.Name "quoted" p5] p6] pos) ⟨loc,lexAll st tok n x k pb,nx,fr⟩ K:=by
 refine st_or (st_val (sp_attr (sp_name hs (at_get rfl rfl X.gToken rfl rfl (tr_str (by lia) ?_)))))
 by_cases h0:(tok.length:Int)=0
 ·refine ite_f (by simpa using h0) (st_or (st_and (st_val (sp_attr (sp_name hs (at_get rfl rfl X.gPosix rfl rfl (tr_bool (ite_t rfl ?_))))))))
  have hqt:q=true:=hw.resolve_left fun z=>z h0
  subst hqt
  exact st_and (st_val (sp_name hq (tr_bool (ite_t rfl (st_and_nil (ite_t rfl h))))))
 ·exact ite_t (by simpa using h0) h
end
section
variable {c:Cst} (X:LexFacts c) {d u:Nat} (hd:d<970) (huu:u<8000) {x:Str} {n:Int} {k:Int} {pb:List SV} {loc:List (Str×SV)} {nx:Nat} {fr:List Nat} {Kf:Fl→Cx→Prop}
include X hd huu
theorem turnA {ch tok:Str} {ws word quo q:Bool} (H:ChW ch ws word quo) (ht:tok.length≤1000000) (hp:pb.length<1000) (hs:loc.lookup ("self":Str)=some (.ref 3)) (hn:loc.lookup ("nextchar":Str)=some (.str ch)) (hq:loc.lookup ("quoted":Str)=some (.bool q)) (hw:(tok.length:Int)≠0∨q=true)
  (hb:ws=true→Kf .brk ⟨loc,lexAll (.str " ") tok n x k pb,nx,fr⟩)
  (hu:ws=false→quo=true→Kf .next ⟨loc,lexAll (.str ch) tok n x k pb,nx,fr⟩)
  (hc:ws=false→quo=false→word=true→Kf .next ⟨loc,lexAll (.str "a") (tok++ch) n x k pb,nx,fr⟩)
  (he:ws=false→quo=false→word=false→Kf .brk ⟨loc,lexAll (.str " ") tok n x k (.str ch :: pb),nx,fr⟩) :
  SpSs c (d+1) (u+3) rtEn (thenOf (stAt (elseOf (stAt (elseOf (stAt (elseOf (stAt (elseOf (stAt rtBody 3)) 0)) 0)) 0)) 0)) ⟨loc,lexAll (.str "a") tok n x k pb,nx,fr⟩ Kf:=by
 have hl:(ch.length:Int)≠0:=by rw [H.len]; decide
 refine ss_cons (ss_if (st_not (st_val (sp_name hn (tr_str (by rw [H.len]; decide) (ite_f (by simpa using hl) ?_))))))
 refine ss_cons (ss_if (st_cmp (sp_name hn (sp_attr (sp_name hs (at_get rfl rfl X.gWs rfl rfl (o_ins ⟨_,rfl,?_⟩)))))))
 rw [H.ws]
 cases ws with
 | true =>
  refine ite_t rfl ?_
  refine ss_cons (ss_if (st_cmp (sp_attr (sp_name hs (at_get rfl rfl X.gDebug rfl rfl (sp_int (o_gei ⟨_,rfl,ite_f (by decide) (ss_nil ?_)⟩)))))))
  refine ss_cons (ss_seta (sp_str (sp_name hs (at_set rfl rfl X.sState (show (19:Nat)<1000 by decide) ?_))))
  refine ss_cons (ss_if (tokOr X hd huu (e1:=.Name "self" ⟨0,0,0,0⟩) (e2:=.Name "self" ⟨0,0,0,0⟩) (T:=.Name "self" ⟨0,0,0,0⟩) (st:=.str " ") ht hs hq hw (ite_t rfl ?_)))
  exact ss_cons (ss_brk (hb rfl))
 | false =>
  refine ite_f (by decide) ?_
  refine ss_cons (ss_if (st_cmp (sp_name hn (sp_attr (sp_name hs (at_get rfl rfl X.gComm rfl rfl (o_ins ⟨_,rfl,ite_f (by rw [H.comm]; decide) ?_⟩)))))))
  refine ss_cons (ss_if (st_cmp (sp_attr (sp_name hs (at_get rfl rfl X.gState rfl rfl (sp_str (o_eqs ⟨_,rfl,ite_f (by decide +kernel) ?_⟩)))))))
  refine ss_cons (ss_if (st_and (st_val (sp_attr (sp_name hs (at_get rfl rfl X.gPosix rfl rfl (tr_bool (ite_t rfl ?_))))))))
  refine st_and (st_cmp (sp_name hn (sp_attr (sp_name hs (at_get rfl rfl X.gQuo rfl rfl (o_ins ⟨_,rfl,?_⟩))))))
  have hquo:=H.quo
  rw [hquo]
  cases quo with
  | true =>
   refine ite_t rfl (st_and_nil (ite_t rfl ?_))
   refine ss_cons (ss_seta (sp_name hn (sp_name hs (at_set rfl rfl X.sState (show (19:Nat)<1000 by decide) ?_))))
   exact ss_nil (ss_nil (ss_nil (ss_nil (ss_nil (ss_nil (hu rfl rfl))))))
  | false =>
   refine ite_f (by decide) (ite_f (by decide) ?_)
   refine ss_cons (ss_if (st_and (st_val (sp_attr (sp_name hs (at_get rfl rfl X.gPosix rfl rfl (tr_bool (ite_t rfl ?_))))))))
   refine st_and (st_cmp (sp_name hn (sp_attr (sp_name hs (at_get rfl rfl X.gEsc rfl rfl (o_ins ⟨_,rfl,ite_f (by rw [H.esc]; decide) (ite_f (by decide) ?_)⟩))))))
   refine ss_cons (ss_if (st_or (st_cmp (sp_name hn (sp_attr (sp_name hs (at_get rfl rfl X.gWord rfl rfl (o_ins ⟨_,rfl,?_⟩))))))))
   rw [H.word]
   cases word with
   | true =>
    refine ite_t rfl (ite_t rfl ?_)
    refine ss_cons (ss_auga (sp_name hs (at_get rfl rfl X.gToken rfl rfl (sp_name hn (o_iadds (by rw [H.len]; lia) (at_set rfl rfl X.sToken (show (19:Nat)<1000 by decide) ?_))))))
    exact ss_nil (ss_nil (ss_nil (ss_nil (ss_nil (ss_nil (ss_nil (ss_nil (hc rfl rfl rfl))))))))
   | false =>
    refine ite_f (by decide) (st_or (st_cmp (sp_name hn (sp_attr (sp_name hs (at_get rfl rfl X.gQuo rfl rfl (o_ins ⟨_,rfl,ite_f (by rw [hquo]; decide) ?_⟩)))))))
    refine st_or (st_and (st_val (sp_attr (sp_name hs (at_get rfl rfl X.gSplit rfl rfl (tr_bool (ite_f (by decide) (ite_f (by decide) (st_or_nil (ite_f (by decide) ?_))))))))))
    refine ss_cons (ss_if (st_val (sp_attr (sp_name hs (at_prop rfl rfl X.pPunct ?_)))))
    refine punct_k X (d:=d+1) (by exact aS ‹_› rfl) (hst:=rfl) rfl ⟨rfl,tr_str (by decide) (ite_f (by decide) ?_)⟩
    refine ss_cons (ss_expr (sp_meth (sp_attr (sp_name hs (at_get rfl rfl X.gPush rfl rfl (m_deq (xs:=pb) rfl slot_dq_app type_dq_app ⟨.inl ⟨_,rfl⟩,sp_name hn (c_dapp rfl hp ⟨rfl,ss_nil ?_⟩)⟩))))))
    refine ss_cons (ss_if (st_cmp (sp_attr (sp_name hs (at_get rfl rfl X.gDebug rfl rfl (sp_int (o_gei ⟨_,rfl,ite_f (by decide) (ss_nil ?_)⟩)))))))
    refine ss_cons (ss_seta (sp_str (sp_name hs (at_set rfl rfl X.sState (show (19:Nat)<1000 by decide) ?_))))
    refine ss_cons (ss_if (tokOr X hd huu (e1:=.Name "self" ⟨0,0,0,0⟩) (e2:=.Name "self" ⟨0,0,0,0⟩) (T:=.Name "self" ⟨0,0,0,0⟩) (st:=.str " ") (pb:=.str ch :: pb) ht hs hq hw (ite_t rfl ?_)))
    exact ss_cons (ss_brk (he rfl rfl rfl))
end
noncomputable abbrev one (c:Nat):Str:=⟨#[c]⟩
theorem ch_letter:∀ c∈[97,98,99,101,102],ChW (one c) false true false:=by
 intro c hc
 simp only [List.mem_cons,List.not_mem_nil,or_false] at hc
 rcases hc with rfl | rfl | rfl | rfl | rfl <;> exact ⟨rfl,by decide +kernel,by decide +kernel,by decide +kernel,by decide +kernel,by decide +kernel,by decide +kernel⟩
theorem ch_blank:∀ c∈[10,32,9],ChW (one c) true false false:=by
 intro c hc
 simp only [List.mem_cons,List.not_mem_nil,or_false] at hc
 rcases hc with rfl | rfl | rfl <;> exact ⟨rfl,by decide +kernel,by decide +kernel,by decide +kernel,by decide +kernel,by decide +kernel,by decide +kernel⟩
theorem ch_quote:ChW (one 39) false false true:=⟨rfl,by decide +kernel,by decide +kernel,by decide +kernel,by decide +kernel,by decide +kernel,by decide +kernel⟩
theorem ch_sign:∀ c∈[44,59],ChW (one c) false false false:=by
 intro c hc
 simp only [List.mem_cons,List.not_mem_nil,or_false] at hc
 rcases hc with rfl | rfl <;> exact ⟨rfl,by decide +kernel,by decide +kernel,by decide +kernel,by decide +kernel,by decide +kernel,by decide +kernel⟩
theorem ch_in:∀ c∈[101,32,102,35,44],strIn (one c) "\\" = false∧one c≠("'":Str):=by
 intro c hc
 simp only [List.mem_cons,List.not_mem_nil,or_false] at hc
 rcases hc with rfl | rfl | rfl | rfl | rfl <;> decide +kernel
theorem one_of {x:Str} {k:Nat} (hk:k<x.length):((chars x).drop k).take 1=[x.cps[k]'hk]:=by
 have hl:k<(chars x).length:=by rw [Array.length_toList]; exact hk
 rw [List.drop_eq_getElem_cons hl]
 simp [chars]
 rfl
theorem slice_one (x:Str) (k:Nat) (hk:k<x.length):Txt.slice x (some k) (some (k+1))=one (x.cps[k]'hk):=by
 have e:=PySem.StrLaws.sliced_plain x (a:=k) (b:=k+1) (by lia) hk
 have e0:=PySem.StrLaws.strSliceIndices_plain (a:=k) (b:=k+1) (len:=x.length) (by lia) hk
 rw [show k+1 - k=1 by lia,one_of hk] at e
 rw [show k+1 - k=1 by lia] at e0
 have key:∀ y:Str,chars y=[x.cps[k]'hk]→y=one (x.cps[k]'hk):=fun y h=>by
  cases y with
  | mk a =>
   congr 1
   exact Array.toList_inj.mp h
 unfold Txt.slice
 have ec:(some ((k:Int)+1))=some (((k+1:Nat)):Int):=rfl
 rw [ec]
 split
 ·rename_i hc
  rw [e0] at hc
  have h1:x.length=1:=by simp at hc; lia
  have h0:k=0:=by lia
  subst h0
  refine key x ?_
  have:=one_of hk
  rw [List.drop_zero,List.take_of_length_le (by rw [Array.length_toList]; show x.cps.size≤1; have:x.cps.size=x.length:=rfl; lia)] at this
  exact this
 ·refine key _ ?_
  show (List.filterMap _ _).toArray.toList=_
  simpa using e
noncomputable def okL:Md→List Nat→Bool
 | .Q _,[]=>false
 | _,[]=>true
 | .Q t,c :: r=>if c=39 then okL (.A t) r else [101,32,102,35,44].contains c&&okL (.Q t) r
 | m,c :: r=>if [10,32,9].contains c=true then okL .W r else if c=39 then okL (.Q []) r else if [97,98,99,101,102].contains c=true then okL (.A []) r else [44,59].contains c&&okL .W r
theorem okL_A (l:List Nat):∀ t t',okL (.A t) l=okL (.A t') l:=by
 intro t t'
 cases l <;> rfl
theorem okL_Q:∀ (l:List Nat) (t t':List Nat),okL (.Q t) l=okL (.Q t') l
 | [],_,_=>rfl
 | c :: r,t,t'=>by
  simp only [okL]
  rw [okL_A r t t',okL_Q r t t']
noncomputable def AtMode:Md→SV→Str→Bool→Prop
 | .W,st,tok,q=>st = .str ""∧False∨(st = .str " "∧tok = ""∧q=false)
 | .A t,st,tok,q=>st = .str "a"∧chars tok=t∧((tok.length:Int)≠0∨q=true)
 | .Q t,st,tok,q=>st = .str "'"∧chars tok=t
theorem AtMode.lo {m:Md} {st:SV} {tok:Str} {q:Bool} (h:AtMode m st tok q):st.lo=true:=by
 cases m with
 | W=>rcases h with ⟨_,h⟩ | ⟨rfl,_⟩; exact h.elim; rfl
 | A t=>obtain ⟨rfl,_⟩:=h; rfl
 | Q t=>obtain ⟨rfl,_⟩:=h; rfl
theorem rest_cons {x:Str} {k:Nat} (hk:k<x.length):(chars x).drop k=(x.cps[k]'hk) :: (chars x).drop (k+1):=by
 have hl:k<(chars x).length:=by rw [Array.length_toList]; exact hk
 rw [List.drop_eq_getElem_cons hl]
 simp [chars]
 rfl
theorem rest_nil {x:Str} {k:Nat} (hk:k=x.length):(chars x).drop k=[]:=List.drop_eq_nil_of_le (by rw [Array.length_toList]; show x.cps.size≤k; rw [hk]; exact Nat.le_refl _)
theorem chars_one (c:Nat):chars (one c)=[c]:=rfl
theorem chars_app (a b:Str):chars (a++b)=chars a++chars b:=by
 show (a.cps++b.cps).toList=_
 simp [chars]
theorem len_app (a:Str) (c:Nat):(a++one c).length=a.length+1:=by
 show (a.cps ++ #[c]).size=a.cps.size+1
 simp
theorem quo_one:one 39=("'":Str):=by decide +kernel
theorem letters5:∀ c∈[97,98,99,101,102],letter c=true∧blank c=false:=by decide
theorem signs2:∀ c∈[44,59],letter c=false∧blank c=false:=by decide
theorem blank3:∀ c∈[10,32,9],c≠10→blank c=true:=by decide
inductive RtI (x:Str) (n:Int) (k nx:Nat) (fr:List Nat) (j:Nat) (cx:Cx):Prop
 | mk (m:Md) (loc:List (Str×SV)) (st:SV) (tok:Str) (q:Bool) (n2:Int) (k2:Nat) (ej:j=x.length - k2) (hk2:k2≤x.length) (ec:cx=⟨loc,lexAll st tok n2 x (k2:Nat) [],nx,fr⟩) (hs:loc.lookup ("self":Str)=some (.ref 3)) (hq:loc.lookup ("quoted":Str)=some (.bool q)) (hm:AtMode m st tok q) (hlen:tok.length≤k2) (hok2:okL m ((chars x).drop k2)=true) (hnx:nextTok m ((chars x).drop k2) n2=nextTok .W ((chars x).drop k) n)
section
variable {c:Cst} (S:SioFacts c) (X:LexFacts c) {d u:Nat} (hd:d<960) (huu:u<8000) {x:Str} {n:Int} {k:Nat} {loc:List (Str×SV)} {nx:Nat} {fr:List Nat} {Kf:Fl→Cx→Prop}
include S X hd huu
theorem rt_loop (hx:x.length≤1000000) (hk:k≤x.length) (hs:loc.lookup ("self":Str)=some (.ref 3)) (hq:loc.lookup ("quoted":Str)=some (.bool false)) (hok:okL .W ((chars x).drop k)=true)
  (h0:nextTok .W ((chars x).drop k) n=none→∀ loc' n',loc'.lookup ("self":Str)=some (.ref 3)→loc'.lookup ("quoted":Str)=some (.bool false)→Kf .next ⟨loc',lexAll .none "" n' x x.length [],nx,fr⟩)
  (h1:∀ t n' r pb,nextTok .W ((chars x).drop k) n=some (t,n',r,pb)→∀ loc' st tok q k',loc'.lookup ("self":Str)=some (.ref 3)→loc'.lookup ("quoted":Str)=some (.bool q)→(st = .none∧r=[]∨st = .str " ")→chars tok=t→((tok.length:Int)≠0∨q=true)→tok.length≤1000000→k'≤x.length→(chars x).drop k'=r→okL .W r=true→Kf .next ⟨loc',lexAll st tok n' x (k':Nat) (pb.map fun y=>.str ⟨y.toArray⟩),nx,fr⟩) :
  SpS c (d+1) (u+3) rtEn (stAt rtok_d.1.2.1 2) ⟨loc,lexAll (.str " ") "" n x k [],nx,fr⟩ Kf:=by
 refine ss_while (RtI x n k nx fr) (fun j cx hI=>?_) (n:=x.length - k) ⟨.W,loc,.str " ","",false,n,k,rfl,hk,rfl,hs,hq,.inr ⟨rfl,rfl,rfl⟩,Nat.zero_le _,hok,rfl⟩
 refine hide fun Go jo=>?_
 obtain ⟨m,loc',st,tok,q,n2,k2,rfl,hk2,rfl,hs',hq',hm,hlen,hok2,hnx⟩:=hI
 refine jo ?_
 refine st_val (sp_bool (tr_bool (ite_t rfl ?_)))
 have ns:∀ v,(setL ("nextchar":Str) v loc').lookup ("self":Str)=some (.ref 3):=fun v=>get_ne hs'
 have nq:∀ v,(setL ("nextchar":Str) v loc').lookup ("quoted":Str)=some (.bool q):=fun v=>get_ne hq'
 have nn:∀ v,(setL ("nextchar":Str) v loc').lookup ("nextchar":Str)=some v:=fun v=>get_put
 refine head_c S X (d:=d) (by exact aR ‹_› rfl) hm.lo rfl hx hk2 hs' (fun e=>?_) (fun e b hb=>?_)
 ·rw [rest_nil e] at hok2 hnx
  subst e
  cases m with
  | W =>
   rcases hm with ⟨_,h⟩ | ⟨rfl,rfl,rfl⟩
   ·exact h.elim
   exact turnW_end X (by exact aR ‹_› rfl) (ns _) (nn _) (h0 hnx.symm _ _ (ns _) (nq _))
  | A t =>
   refine hide fun Go jo=>?_
   obtain ⟨rfl,ht,hw⟩:=hm
   refine jo ?_
   refine toA X (by exact aR ‹_› rfl) huu (ns _) (turnA_end X (by exact aR ‹_› rfl) huu (ns _) (nn _) ?_) (fun f cx hf=>?_)
   ·exact h1 t n2 [] [] hnx.symm _ .none tok q x.length (ns _) (nq _) (.inl ⟨rfl,rfl⟩) ht hw (by lia) (Nat.le_refl _) (rest_nil rfl) rfl
   ·cases f with
    | next=>exact ss_nil hf
    | brk=>exact hf
    | cont=>exact hf
    | ret v=>exact hf
  | Q t=>cases hok2
 ·rw [rest_cons e] at hok2 hnx
  rw [slice_one x k2 e] at hb ⊢
  have hr:(chars x).drop (k2+1)=(chars x).drop (k2+1):=rfl
  generalize hc0:x.cps[k2]'e=c0 at hb hok2 hnx ⊢
  have hb10:b=decide (c0=10):=by
   rw [← hb]
   by_cases z:c0=10
   ·subst z; decide +kernel
   ·rw [decide_eq_false z,decide_eq_false]
    intro y
    have:=congrArg chars y
    rw [chars_one] at this
    have hn10:chars (Str.ofString "\n")=[10]:=by decide +kernel
    rw [hn10] at this
    exact z (by simpa using this)
  have go:∀ (m':Md) (loc2:List (Str×SV)) (st':SV) (tok':Str) (q':Bool) (n3:Int),loc2.lookup ("self":Str)=some (.ref 3)→loc2.lookup ("quoted":Str)=some (.bool q')→AtMode m' st' tok' q'→tok'.length≤k2+1→okL m' ((chars x).drop (k2+1))=true→nextTok m' ((chars x).drop (k2+1)) n3=nextTok .W ((chars x).drop k) n →
    ∃ j,j<x.length - k2∧RtI x n k nx fr j ⟨loc2,lexAll st' tok' n3 x ((k2:Int)+1) [],nx,fr⟩ :=
   fun m' loc2 st' tok' q' n3 a1 a2 a3 a4 a5 a6=>⟨x.length - (k2+1),by lia,m',loc2,st',tok',q',n3,k2+1,rfl,by lia,rfl,a1,a2,a3,a4,a5,a6⟩
  have up:∀ {Kg:Fl→Cx→Prop},∀ f cx,Kg f cx→Then c (d+1) (u+3) rtEn [] Kg f cx:=fun {Kg} f cx hf=>by
   cases f with
   | next=>exact ss_nil hf
   | brk=>exact hf
   | cont=>exact hf
   | ret v=>exact hf
  have mem_of:∀ {l:List Nat},l.contains c0=true→c0∈l:=fun h=>List.contains_iff_mem.mp h
  cases m with
  | W =>
   rcases hm with ⟨_,h⟩ | ⟨rfl,rfl,rfl⟩
   ·exact h.elim
   simp only [okL] at hok2
   by_cases hw:[10,32,9].contains c0=true
   ·rw [if_pos hw] at hok2
    refine turnW X (by exact aR ‹_› rfl) (ch_blank c0 (mem_of hw)) (ns _) (nn _) (nq _) (fun _=>?_) (fun h=>by first | exact absurd h (by decide) | cases (h)) (fun h=>by first | exact absurd h (by decide) | cases (h)) (fun h=>by first | exact absurd h (by decide) | cases (h))
    refine go .W _ _ _ _ _ (ns _) (nq _) (.inr ⟨rfl,rfl,rfl⟩) (Nat.zero_le _) hok2 (Eq.trans ?_ hnx)
    by_cases z:c0=10
    ·rw [hb10,decide_eq_true z]; exact (if_pos z).symm
    ·rw [hb10,decide_eq_false z]; exact (if4_b (blank3 c0 (mem_of hw) z)).symm
   ·rw [if_neg hw] at hok2
    have h10:c0≠10:=fun z=>hw (by subst z; decide)
    rw [show (if b=true then n2+1 else n2)=n2 by rw [hb10,decide_eq_false h10]; rfl]
    by_cases hq9:c0=39
    ·subst hq9
     rw [if_pos rfl] at hok2
     refine turnW X (by exact aR ‹_› rfl) ch_quote (ns _) (nn _) (nq _) (fun h=>by first | exact absurd h (by decide) | cases (h)) (fun _ h=>by first | exact absurd h (by decide) | cases (h)) (fun _ _ _=>?_) (fun _ _ h=>by first | exact absurd h (by decide) | cases (h))
     refine go (.Q []) _ _ _ _ _ (ns _) (nq _) ⟨congrArg SV.str quo_one,chars_empty⟩ (Nat.zero_le _) hok2 (Eq.trans ?_ hnx)
     rfl
    rw [if_neg hq9] at hok2
    by_cases hl5:[97,98,99,101,102].contains c0=true
    ·rw [if_pos hl5] at hok2
     obtain ⟨lt,nb⟩:=letters5 c0 (mem_of hl5)
     refine turnW X (by exact aR ‹_› rfl) (ch_letter c0 (mem_of hl5)) (ns _) (nn _) (nq _) (fun h=>by first | exact absurd h (by decide) | cases (h)) (fun _ _=>?_) (fun _ h=>by first | exact absurd h (by decide) | cases (h)) (fun _ h=>by first | exact absurd h (by decide) | cases (h))
     refine go (.A [c0]) _ _ _ _ _ (ns _) (nq _) ⟨rfl,rfl,.inl (by show (1:Int)≠0; decide)⟩ (by show 1≤k2+1; lia) (okL_A _ [] [c0]▸hok2) (Eq.trans ?_ hnx)
     exact (if4_l lt).symm
    ·rw [if_neg hl5,Bool.and_eq_true] at hok2
     obtain ⟨lt,nb⟩:=signs2 c0 (mem_of hok2.1)
     refine turnW X (by exact aR ‹_› rfl) (ch_sign c0 (mem_of hok2.1)) (ns _) (nn _) (nq _) (fun h=>by first | exact absurd h (by decide) | cases (h)) (fun _ h=>by first | exact absurd h (by decide) | cases (h)) (fun _ _ h=>by first | exact absurd h (by decide) | cases (h)) (fun _ _ _=>?_)
     refine h1 [c0] n2 ((chars x).drop (k2+1)) [] (hnx.symm.trans ?_) _ _ (one c0) false (k2+1) (ns _) (nq _) (.inr rfl) rfl (.inl (by show (1:Int)≠0; decide)) (by show 1≤1000000; decide) (by lia) rfl hok2.2
     exact if4_s h10 nb hq9 lt
  | A t =>
   refine hide fun Go jo=>?_
   obtain ⟨rfl,ht,hwq⟩:=hm
   refine jo ?_
   simp only [okL] at hok2
   refine toA X (by exact aR ‹_› rfl) huu (ns _) ?_ (up (Kg:=_))
   by_cases hw:[10,32,9].contains c0=true
   ·rw [if_pos hw] at hok2
    refine turnA X (by exact aR ‹_› rfl) huu (ch_blank c0 (mem_of hw)) (by lia) (by decide) (ns _) (nn _) (nq _) hwq (fun _=>?_) (fun h=>by first | exact absurd h (by decide) | cases (h)) (fun h=>by first | exact absurd h (by decide) | cases (h)) (fun h=>by first | exact absurd h (by decide) | cases (h))
    refine h1 t _ ((chars x).drop (k2+1)) [] (hnx.symm.trans ?_) _ _ tok q (k2+1) (ns _) (nq _) (.inr rfl) ht hwq (by lia) (by lia) rfl hok2
    by_cases z:c0=10
    ·rw [hb10,decide_eq_true z]; exact if_pos z
    ·rw [hb10,decide_eq_false z]; exact if4_b (blank3 c0 (mem_of hw) z)
   ·rw [if_neg hw] at hok2
    have h10:c0≠10:=fun z=>hw (by subst z; decide)
    rw [show (if b=true then n2+1 else n2)=n2 by rw [hb10,decide_eq_false h10]; rfl]
    by_cases hq9:c0=39
    ·subst hq9
     rw [if_pos rfl] at hok2
     refine turnA X (by exact aR ‹_› rfl) huu ch_quote (by lia) (by decide) (ns _) (nn _) (nq _) hwq (fun h=>by first | exact absurd h (by decide) | cases (h)) (fun _ _=>?_) (fun _ h=>by first | exact absurd h (by decide) | cases (h)) (fun _ h=>by first | exact absurd h (by decide) | cases (h))
     refine go (.Q t) _ _ _ _ _ (ns _) (nq _) ⟨congrArg SV.str quo_one,ht⟩ (by lia) (okL_Q _ [] t▸hok2) (Eq.trans ?_ hnx)
     rfl
    rw [if_neg hq9] at hok2
    by_cases hl5:[97,98,99,101,102].contains c0=true
    ·rw [if_pos hl5] at hok2
     obtain ⟨lt,nb⟩:=letters5 c0 (mem_of hl5)
     refine turnA X (by exact aR ‹_› rfl) huu (ch_letter c0 (mem_of hl5)) (by lia) (by decide) (ns _) (nn _) (nq _) hwq (fun h=>by first | exact absurd h (by decide) | cases (h)) (fun _ h=>by first | exact absurd h (by decide) | cases (h)) (fun _ _ _=>?_) (fun _ _ h=>by first | exact absurd h (by decide) | cases (h))
     refine go (.A (t++[c0])) _ _ _ _ _ (ns _) (nq _) ⟨rfl,by rw [chars_app,ht,chars_one],.inl (by rw [len_app]; lia)⟩ (by rw [len_app]; lia) (okL_A _ [] (t++[c0])▸hok2) (Eq.trans ?_ hnx)
     exact (if4_l lt).symm
    ·rw [if_neg hl5,Bool.and_eq_true] at hok2
     obtain ⟨lt,nb⟩:=signs2 c0 (mem_of hok2.1)
     refine turnA X (by exact aR ‹_› rfl) huu (ch_sign c0 (mem_of hok2.1)) (by lia) (by decide) (ns _) (nn _) (nq _) hwq (fun h=>by first | exact absurd h (by decide) | cases (h)) (fun _ h=>by first | exact absurd h (by decide) | cases (h)) (fun _ _ h=>by first | exact absurd h (by decide) | cases (h)) (fun _ _ _=>?_)
     refine h1 t n2 ((chars x).drop (k2+1)) [[c0]] (hnx.symm.trans ?_) _ _ tok q (k2+1) (ns _) (nq _) (.inr rfl) ht hwq (by lia) (by lia) rfl hok2.2
     exact if4_s h10 nb hq9 lt
  | Q t =>
   obtain ⟨rfl,ht⟩:=hm
   simp only [okL] at hok2
   have qs:∀ v,(setL ("quoted":Str) (.bool true) (setL ("nextchar":Str) v loc')).lookup ("self":Str)=some (.ref 3):=fun v=>get_ne (ns v)
   have qq:∀ v,(setL ("quoted":Str) (.bool true) (setL ("nextchar":Str) v loc')).lookup ("quoted":Str)=some (.bool true):=fun v=>get_put
   by_cases hq9:c0=39
   ·subst hq9
    rw [if_pos rfl] at hok2
    rw [show (if b=true then n2+1 else n2)=n2 by rw [hb10]; rfl]
    refine turnQ X (by exact aR ‹_› rfl) rfl (by decide +kernel) (by lia) (ns _) (nn _) (fun _=>?_) (fun h=>absurd quo_one h)
    refine go (.A t) _ _ _ _ _ (qs _) (qq _) ⟨rfl,ht,.inr rfl⟩ (by lia) hok2 (Eq.trans ?_ hnx)
    rfl
   ·rw [if_neg hq9,Bool.and_eq_true] at hok2
    obtain ⟨hesc,hne⟩:=ch_in c0 (mem_of hok2.1)
    have h10:c0≠10:=fun z=>by subst z; exact absurd hok2.1 (by decide)
    rw [show (if b=true then n2+1 else n2)=n2 by rw [hb10,decide_eq_false h10]; rfl]
    refine turnQ X (by exact aR ‹_› rfl) rfl hesc (by lia) (ns _) (nn _) (fun h=>absurd h hne) (fun _=>?_)
    refine go (.Q (t++[c0])) _ _ _ _ _ (qs _) (qq _) ⟨rfl,by rw [chars_app,ht,chars_one]⟩ (by rw [len_app]; lia) (okL_Q _ t (t++[c0])▸hok2.2) (Eq.trans ?_ hnx)
    exact (if_neg hq9).symm
end
structure LexFacts2 (c:Cst):Prop where
 rtok:FnK c 861 rtok_d.1 "read_token" "shlex.read_token" .none 860 []
 mRtok:MethOk c 893 "read_token" 861
 kRtok:keepIn c.K (.ref 861)=true
 gtok:FnK c 854 gtok_d.1 "get_token" "shlex.get_token" .none 853 []
 mGtok:MethOk c 893 "get_token" 854
 kGtok:keepIn c.K (.ref 854)=true
theorem lex_lo {st:SV} (hst:st.lo=true) {tok x:Str} {n k:Int} {pb:List SV} (hpb:SV.los pb=true):∀ p∈lexAll st tok n x k pb,p.1<100∧p.2.lo=true :=
 lo_cons (by decide) (by simp [SO.lo,SV.los,SV.lo,hst]) (lo_cons (by decide) rfl (lo_cons (by decide) hpb (lo_cons (by decide) rfl lo_nil)))
theorem lex_ob {st:SV} (hst:st.lo=true) {tok x:Str} {n k:Int} {pb:List SV} (hpb:SV.los pb=true):∀ p∈lexAll st tok n x k pb,p∈lexAll st tok n x k pb∧p.1<100∧p.2.lo=true:=fun p hp=>⟨hp,lex_lo hst hpb p hp⟩
theorem pb_los (l:List (List Nat)):SV.los (l.map fun y=>SV.str ⟨y.toArray⟩)=true:=by
 induction l with
 | nil=>rfl
 | cons y l ih=>simp only [List.map_cons,los_cons,ih,Bool.and_true]; rfl
section
variable {c:Cst} (S:SioFacts c) (X:LexFacts c) (Y:LexFacts2 c) {d u:Nat} (hd:d<960) (huu:u<8000) {x:Str} {n:Int} {k:Nat} {cx:Cx} {K:SV→Cx→Prop}
include S X Y hd huu
theorem rt_fin {st:SV} {tok:Str} {q:Bool} {n' k':Int} {pb:List SV} {loc:List (Str×SV)} {nx:Nat} {fr:List Nat} {Kf:Fl→Cx→Prop} (ht:tok.length≤1000000) (hs:loc.lookup ("self":Str)=some (.ref 3)) (hq:loc.lookup ("quoted":Str)=some (.bool q))
  (h0:tok = ""→q=false→∀ loc',Kf (.ret .none) ⟨loc',lexAll st "" n' x k' pb,nx,fr⟩) (h1:(tok≠""∨q=true)→∀ loc',Kf (.ret (.str tok)) ⟨loc',lexAll st "" n' x k' pb,nx,fr⟩) :
  SpSs c (d+1) (u+3) rtEn (rtok_d.1.2.1.drop 3) ⟨loc,lexAll st tok n' x k' pb,nx,fr⟩ Kf:=by
 refine ss_cons (ss_assign (sp_attr (sp_name hs (at_get rfl rfl X.gToken rfl rfl ?_))))
 have hs1:(setL ("result":Str) (.str tok) loc).lookup ("self":Str)=some (.ref 3):=get_ne hs
 have hq1:(setL ("result":Str) (.str tok) loc).lookup ("quoted":Str)=some (.bool q):=get_ne hq
 have hr1:(setL ("result":Str) (.str tok) loc).lookup ("result":Str)=some (.str tok):=get_put
 refine ss_cons (ss_seta (sp_str (sp_name hs1 (at_set rfl rfl X.sToken (show (19:Nat)<1000 by decide) ?_))))
 show SpSs c (d+1) (u+3) rtEn (rtok_d.1.2.1.drop 5) ⟨setL ("result":Str) (.str tok) loc,lexAll st "" n' x k' pb,nx,fr⟩ Kf
 have last:∀ {v:SV} {loc2:List (Str×SV)},loc2.lookup ("self":Str)=some (.ref 3)→loc2.lookup ("result":Str)=some v→Kf (.ret v) ⟨loc2,lexAll st "" n' x k' pb,nx,fr⟩→SpSs c (d+1) (u+3) rtEn (rtok_d.1.2.1.drop 6) ⟨loc2,lexAll st "" n' x k' pb,nx,fr⟩ Kf:=fun a1 a2 a3=>by
  refine ss_cons (ss_if (st_cmp (sp_attr (sp_name a1 (at_get rfl rfl X.gDebug rfl rfl (sp_int (o_gti ⟨_,rfl,ite_f (by decide) (ss_nil ?_)⟩)))))))
  exact ss_cons (ss_ret (sp_name a2 a3))
 refine ss_cons (ss_if (st_and (st_val (sp_attr (sp_name hs1 (at_get rfl rfl X.gPosix rfl rfl (tr_bool (ite_t rfl ?_))))))))
 refine st_and (st_not (st_val (sp_name hq1 (tr_bool ?_))))
 cases q with
 | true =>
  refine ite_f (by decide) (ite_f (by decide) (ss_nil ?_))
  exact last hs1 hr1 (h1 (.inr rfl) _)
 | false =>
  refine ite_t rfl (st_and (st_cmp (sp_name hr1 (sp_str (o_eqs ⟨_,rfl,?_⟩)))))
  by_cases h:tok=("":Str)
  ·refine ite_t (by simpa using h) (st_and_nil (ite_t rfl ?_))
   refine ss_cons (ss_assign (sp_none (ss_nil ?_)))
   exact last (get_ne hs1) (get_put) (h0 h rfl _)
  ·refine ite_f (by simpa using h) (ite_f (by decide) (ss_nil ?_))
   exact last hs1 hr1 (h1 (.inl h) _)
theorem rtok_c (hx:x.length≤1000000) (hk:k≤x.length) (hok:okL .W ((chars x).drop k)=true) (hsub:(lexAll (.str " ") "" n x k []).Sublist cx.obj)
  (h0:nextTok .W ((chars x).drop k) n=none→∀ n',K .none (cx.upd (lexAll .none "" n' x x.length []) [] cx.fr))
  (h1:∀ t n' r pb,nextTok .W ((chars x).drop k) n=some (t,n',r,pb)→∀ st tok k',(st = .none∧r=[]∨st = .str " ")→chars tok=t→k'≤x.length→(chars x).drop k'=r→okL .W r=true→K (.str tok) (cx.upd (lexAll st "" n' x (k':Nat) (pb.map fun y=>.str ⟨y.toArray⟩)) [] cx.fr)):SpC c d u (.ref 861) [.ref 3] cx K:=by
 refine fn_pos (obs:=lexAll (.str " ") "" n x k []) ["self"] Y.rtok (by exact aR ‹_› rfl) (fun name qual doc pm an cd ct cl vs hv=>?_) (by rfl) (by decide) (by rfl) hsub (lex_lo rfl rfl) (by rfl) ?_
 ·obtain ⟨x,rfl⟩:=len1 hv
  rfl
 ·refine ss_cons (ss_assign (sp_bool ?_))
  refine ss_cons (ss_assign (sp_str ?_))
  refine ss_cons (rt_loop S X hd huu hx hk rfl rfl hok (fun e loc' n' a1 a2=>?_) (fun t n' r pb e loc' st tok q k' a1 a2 a3 a4 a5 a6 a7 a8 a9=>?_))
  ·refine rt_fin S X Y hd huu (by decide) a1 a2 (fun _ _ loc2=>?_) (fun h=>absurd h (by simp))
   exact Back.mk (lexAll .none "" n' x x.length []) rfl (lex_ob rfl rfl) rfl rfl (h0 e n')
  ·have hlo:st.lo=true:=by rcases a3 with ⟨rfl,_⟩ | rfl <;> rfl
   refine rt_fin S X Y hd huu a6 a1 a2 (fun h hq0 loc2=>?_) (fun _ loc2=>?_)
   ·subst h
    rcases a5 with a5 | a5
    ·exact absurd rfl a5
    ·rw [hq0] at a5; cases a5
   ·exact Back.mk (lexAll st "" n' x (k':Nat) (pb.map fun (y:List Nat)=>SV.str ⟨y.toArray⟩)) rfl (lex_ob hlo (pb_los pb)) rfl rfl (h1 t n' r pb e st tok k' a3 a4 a7 a8 a9)
end
section
variable {c:Cst} (S:SioFacts c) (X:LexFacts c) (Y:LexFacts2 c) {d u:Nat} (hd:d<950) (huu:u<7000) {x:Str} {n:Int} {k:Nat} {cx:Cx} {K:SV→Cx→Prop}
include S X Y hd huu
theorem gtok_back {st:SV} (hst:st.lo=true) {tok:Str} (hsub:(lexAll st "" n x k [.str tok]).Sublist cx.obj) (h:K (.str tok) (cx.upd (lexAll st "" n x k []) [] cx.fr)):SpC c d u (.ref 854) [.ref 3] cx K:=by
 refine fn_pos (obs:=lexAll st "" n x k [.str tok]) ["self"] Y.gtok (by exact aR ‹_› rfl) (fun name qual doc pm an cd ct cl vs hv=>?_) (by rfl) (by decide) (by rfl) hsub (lex_lo hst rfl) (by rfl) ?_
 ·obtain ⟨x,rfl⟩:=len1 hv
  rfl
 ·refine ss_cons (ss_if (st_val (sp_attr (sp_name rfl (at_get rfl rfl X.gPush rfl rfl (tr_deq rfl (by show 1<1000; decide) (ite_t rfl ?_)))))))
  refine ss_cons (ss_assign (sp_meth (sp_attr (sp_name rfl (at_get rfl rfl X.gPush rfl rfl (m_deq rfl slot_dq_pop type_dq_pop ⟨.inl ⟨_,rfl⟩,c_dpop rfl (by decide) ?_⟩))))))
  refine ss_cons (ss_if (st_cmp (sp_attr (sp_name rfl (at_get rfl rfl X.gDebug rfl rfl (sp_int (o_gei ⟨_,rfl,ite_f (by decide) (ss_nil ?_)⟩)))))))
  refine ss_cons (ss_ret (sp_name rfl ?_))
  exact Back.mk (lexAll st "" n x k []) rfl (lex_ob hst rfl) rfl rfl h
theorem gt_fin {st:SV} (hst:st.lo=true) {v:SV} {n' k':Int} {pb:List SV} {loc:List (Str×SV)} {nx:Nat} {fr:List Nat} {Kf:Fl→Cx→Prop} (hv:v = .none∨∃ y,v = .str y) (hs:loc.lookup ("self":Str)=some (.ref 3)) (hr:loc.lookup ("raw":Str)=some v)
  (h:Kf (.ret v) ⟨loc,lexAll st "" n' x k' pb,nx,fr⟩) :
  SpSs c (d+1) (u+3) (enOf 854 gtok_d.1 "shlex.get_token" 853 []) (gtok_d.1.2.1.drop 2) ⟨loc,lexAll st "" n' x k' pb,nx,fr⟩ Kf:=by
 refine ss_cons (ss_if (st_cmp (sp_attr (sp_name hs (at_get rfl rfl X.gSrc rfl rfl (sp_none (o_isnn (by intro w h; cases h) ⟨_,rfl,ite_f (by decide) (ss_nil ?_)⟩)))))))
 refine ss_cons (ss_while (fun j cx=>j=0∧cx=⟨loc,lexAll st "" n' x k' pb,nx,fr⟩) (fun j cx hI=>?_) (n:=0) ⟨rfl,rfl⟩)
 refine hide fun Go jo=>?_
 obtain ⟨rfl,rfl⟩:=hI
 refine jo ?_
 rcases hv with rfl | ⟨y,rfl⟩
 ·refine st_cmp (sp_name hr (sp_attr (sp_name hs (at_get rfl rfl X.gEof rfl rfl (o_eqnn ⟨_,rfl,ite_t rfl ?_⟩)))))
  refine ss_cons (ss_if (st_not (st_val (sp_attr (sp_name hs (at_get rfl rfl X.gFile rfl rfl (tr_deq rfl (by decide) (ite_t rfl ?_))))))))
  exact ss_cons (ss_ret (sp_attr (sp_name hs (at_get rfl rfl X.gEof rfl rfl h))))
 ·refine st_cmp (sp_name hr (sp_attr (sp_name hs (at_get rfl rfl X.gEof rfl rfl (o_eqsn ⟨_,rfl,ite_f (by decide) (ss_nil ?_)⟩)))))
  refine ss_cons (ss_if (st_cmp (sp_attr (sp_name hs (at_get rfl rfl X.gDebug rfl rfl (sp_int (o_gei ⟨_,rfl,ite_f (by decide) (ss_nil ?_)⟩)))))))
  exact ss_cons (ss_ret (sp_name hr h))
theorem gtok_c (hx:x.length≤1000000) (hk:k≤x.length) (hok:okL .W ((chars x).drop k)=true) (hsub:(lexAll (.str " ") "" n x k []).Sublist cx.obj)
  (h0:nextTok .W ((chars x).drop k) n=none→∀ n',K .none (cx.upd (lexAll .none "" n' x x.length []) [] cx.fr))
  (h1:∀ t n' r pb,nextTok .W ((chars x).drop k) n=some (t,n',r,pb)→∀ st tok k',(st = .none∧r=[]∨st = .str " ")→chars tok=t→k'≤x.length→(chars x).drop k'=r→okL .W r=true→K (.str tok) (cx.upd (lexAll st "" n' x (k':Nat) (pb.map fun y=>.str ⟨y.toArray⟩)) [] cx.fr)):SpC c d u (.ref 854) [.ref 3] cx K:=by
 refine fn_pos (obs:=lexAll (.str " ") "" n x k []) ["self"] Y.gtok (by exact aR ‹_› rfl) (fun name qual doc pm an cd ct cl vs hv=>?_) (by rfl) (by decide) (by rfl) hsub (lex_lo rfl rfl) (by rfl) ?_
 ·obtain ⟨x,rfl⟩:=len1 hv
  rfl
 ·refine ss_cons (ss_if (st_val (sp_attr (sp_name rfl (at_get rfl rfl X.gPush rfl rfl (tr_deq rfl (by decide) (ite_f (by decide) (ss_nil ?_))))))))
  refine ss_cons (ss_assign (sp_meth (sp_name rfl (at_meth rfl rfl Y.mRtok rfl ⟨.inr (.inr Y.kRtok),?_⟩))))
  refine rtok_c S X Y (d:=d+1) (by exact aS ‹_› rfl) (by exact aS ‹_› rfl) hx hk hok (List.Sublist.refl _) (fun e n'=>?_) (fun t n' r pb e st tok k' a3 a4 a7 a8 a9=>?_)
  ·refine gt_fin S X Y hd huu (st:=.none) rfl (.inl rfl) rfl rfl ?_
   exact Back.mk (lexAll .none "" n' x x.length []) rfl (lex_ob rfl rfl) rfl rfl (h0 e n')
  ·have hlo:st.lo=true:=by rcases a3 with ⟨rfl,_⟩ | rfl <;> rfl
   refine gt_fin S X Y hd huu (st:=st) hlo (.inr ⟨tok,rfl⟩) rfl rfl ?_
   exact Back.mk (lexAll st "" n' x (k':Nat) (pb.map fun (y:List Nat)=>SV.str ⟨y.toArray⟩)) rfl (lex_ob hlo (pb_los pb)) rfl rfl (h1 t n' r pb e st tok k' a3 a4 a7 a8 a9)
theorem gtok_none (hx:x.length≤1000000) (hsub:(lexAll .none "" n x x.length []).Sublist cx.obj) (h:K .none (cx.upd (lexAll .none "" n x x.length []) [] cx.fr)):SpC c d u (.ref 854) [.ref 3] cx K:=by
 refine fn_pos (obs:=lexAll .none "" n x x.length []) ["self"] Y.gtok (by exact aR ‹_› rfl) (fun name qual doc pm an cd ct cl vs hv=>?_) (by rfl) (by decide) (by rfl) hsub (lex_lo rfl rfl) (by rfl) ?_
 ·obtain ⟨x,rfl⟩:=len1 hv
  rfl
 ·refine ss_cons (ss_if (st_val (sp_attr (sp_name rfl (at_get rfl rfl X.gPush rfl rfl (tr_deq rfl (by decide) (ite_f (by decide) (ss_nil ?_))))))))
  refine ss_cons (ss_assign (sp_meth (sp_name rfl (at_meth rfl rfl Y.mRtok rfl ⟨.inr (.inr Y.kRtok),?_⟩))))
  refine fn_pos (obs:=lexAll .none "" n x x.length []) ["self"] Y.rtok (by exact aS ‹_› rfl) (fun name qual doc pm an cd ct cl vs hv=>?_) (by rfl) (by decide) (by rfl) (List.Sublist.refl _) (lex_lo rfl rfl) (by rfl) ?_
  ·obtain ⟨x,rfl⟩:=len1 hv
   rfl
  ·refine ss_cons (ss_assign (sp_bool ?_))
   refine ss_cons (ss_assign (sp_str ?_))
   refine ss_cons (ss_while (fun j cx'=>j=0∧cx'=⟨[("self",.ref 3),("quoted",.bool false),("escapedstate",.str " ")],lexAll .none "" n x x.length [],100,cx.fr⟩) (fun j cx' hI=>?_) (n:=0) ⟨rfl,rfl⟩)
   refine hide fun Go jo=>?_
   obtain ⟨rfl,rfl⟩:=hI
   refine jo ?_
   refine st_val (sp_bool (tr_bool (ite_t rfl ?_)))
   refine head_c S X (d:=d+1) (by exact aS ‹_› rfl) rfl rfl hx (Nat.le_refl _) rfl (fun _=>?_) (fun z=>absurd z (Nat.lt_irrefl _))
   refine ss_cons (ss_if (st_cmp (sp_attr (sp_name rfl (at_get rfl rfl X.gState rfl rfl (sp_none (o_isn (by intro w h; cases h) ⟨_,rfl,ite_t rfl ?_⟩)))))))
   refine ss_cons (ss_seta (sp_str (sp_name rfl (at_set rfl rfl X.sToken (show (19:Nat)<1000 by decide) ?_))))
   refine ss_cons (ss_brk ?_)
   refine rt_fin S X Y (d:=d+1) (by exact aS ‹_› rfl) (by exact aS ‹_› rfl) (by decide) rfl rfl (fun _ _ loc2=>?_) (fun h=>absurd h (by simp))
   refine Back.mk (lexAll .none "" n x x.length []) rfl (lex_ob rfl rfl) rfl rfl ?_
   refine gt_fin S X Y hd huu (st:=.none) rfl (.inl rfl) rfl rfl ?_
   exact Back.mk (lexAll .none "" n x x.length []) rfl (lex_ob rfl rfl) rfl rfl h
end
noncomputable def PbOk (o:Option (List Nat×Int×List Nat×List (List Nat))):Prop:=∀ t n' r pb,o=some (t,n',r,pb)→pb=[]∨∃ c,pb=[[c]]
theorem pb0 {t:List Nat} {n:Int} {r:List Nat}:PbOk (some (t,n,r,[])):=fun _ _ _ _ h=>by cases h; exact .inl rfl
theorem pb1 {t:List Nat} {n:Int} {r:List Nat} {c:Nat}:PbOk (some (t,n,r,[[c]])):=fun _ _ _ _ h=>by cases h; exact .inr ⟨_,rfl⟩
theorem next_pb (l:List Nat):∀ (m:Md) (n:Int),PbOk (nextTok m l n):=by
 induction l with
 | nil =>
  intro m n
  cases m with
  | W=>intro _ _ _ _ h; cases h
  | Q _=>intro _ _ _ _ h; cases h
  | A _=>exact pb0
 | cons c l ih =>
  intro m n
  cases m with
  | W=>exact if4 (P:=PbOk) (ih _ _) (ih _ _) (ih _ _) (ih _ _) pb0
  | A t=>exact if4 (P:=PbOk) pb0 pb0 (ih _ _) (ih _ _) pb1
  | Q t =>
   show PbOk (if c=39 then nextTok (.A t) l n else nextTok (.Q (t++[c])) l n)
   by_cases h:c=39
   ·rw [if_pos h]; exact ih _ _
   ·rw [if_neg h]; exact ih _ _
noncomputable def LexSt (x:Str) (n:Int) (obs:List (Nat×SO)) (R:List Tok2):Prop :=
 (∃ k:Nat,k≤x.length∧okL .W ((chars x).drop k)=true∧obs=lexAll (.str " ") "" n x k []∧R=lex .W ((chars x).drop k) n)
 ∨ (∃ (st:SV) (k:Nat) (tok:Str),(st = .none∧(chars x).drop k=[]∨st = .str " ")∧k≤x.length∧okL .W ((chars x).drop k)=true∧obs=lexAll st "" n x k [.str tok]∧R=(chars tok,n) :: lex .W ((chars x).drop k) n)
 ∨ (obs=lexAll .none "" n x x.length []∧R=[])
theorem LexSt.of {x:Str} {n:Int} {st:SV} {k:Nat} {r:List Nat} (h:st = .none∧r=[]∨st = .str " ") (hk:k≤x.length) (hr:(chars x).drop k=r) (hok:okL .W r=true):LexSt x n (lexAll st "" n x k []) (lex .W r n):=by
 rcases h with ⟨rfl,h⟩ | rfl
 ·have hl:k=x.length:=by
   rw [h] at hr
   have h2:=List.drop_eq_nil_iff.mp hr
   rw [Array.length_toList] at h2
   have h3:x.cps.size=x.length:=rfl
   lia
  subst hl
  exact .inr (.inr ⟨rfl,by rw [h]; rfl⟩)
 ·subst hr
  exact .inl ⟨k,hk,hok,rfl,rfl⟩
section
variable {c:Cst} (S:SioFacts c) (X:LexFacts c) (Y:LexFacts2 c) {d u:Nat} (hd:d<950) (huu:u<7000) {x:Str} {n:Int} {cx:Cx} {K:SV→Cx→Prop}
include S X Y hd huu
theorem gtok_any (hx:x.length≤1000000) {obs:List (Nat×SO)} {R:List Tok2} (hL:LexSt x n obs R) (hsub:obs.Sublist cx.obj)
  (h0:R=[]→∀ n' obs',LexSt x n' obs' []→K .none (cx.upd obs' [] cx.fr))
  (h1:∀ t n' R',R=(t,n') :: R'→∀ tok obs',chars tok=t→LexSt x n' obs' R'→K (.str tok) (cx.upd obs' [] cx.fr)):SpC c d u (.ref 854) [.ref 3] cx K:=by
 rcases hL with ⟨k,hk,hok,rfl,rfl⟩ | ⟨st,k,tok,hst,hk,hok,rfl,rfl⟩ | ⟨rfl,rfl⟩
 ·refine gtok_c S X Y hd huu hx hk hok hsub (fun e n'=>?_) (fun t n' r pb e st tok k' a3 a4 a7 a8 a9=>?_)
  ·exact h0 (by rw [lex_next,e]; rfl) n' _ (.inr (.inr ⟨rfl,rfl⟩))
  ·have hR:=lex_next ((chars x).drop k) .W n
   rw [e] at hR
   rcases next_pb _ _ _ _ _ _ _ e with rfl | ⟨ch,rfl⟩
   ·exact h1 t n' _ hR tok _ a4 (LexSt.of a3 a7 a8 a9)
   ·exact h1 t n' _ hR tok _ a4 (.inr (.inl ⟨st,k',⟨[ch].toArray⟩,by rw [a8]; exact a3,a7,by rw [a8]; exact a9,rfl,by rw [a8]; rfl⟩))
 ·have hlo:st.lo=true:=by rcases hst with ⟨rfl,_⟩ | rfl <;> rfl
  refine gtok_back S X Y hd huu hlo hsub ?_
  exact h1 (chars tok) n _ rfl tok _ rfl (LexSt.of hst hk rfl hok)
 ·exact gtok_none S X Y hd huu hx hsub (h0 rfl n _ (.inr (.inr ⟨rfl,rfl⟩)))
end
noncomputable def lread_d:{ x:Df // defAt ["_law_read"] prg=some x }:=⟨_,rfl⟩
noncomputable abbrev lrEn:En:=enOf 931 lread_d.1 "_law_read" 930 []
noncomputable def rowS (t:Tok2):SV:=.fl [.str ⟨t.1.toArray⟩,.int t.2]
theorem LexSt.shape {x:Str} {n:Int} {obs:List (Nat×SO)} {R:List Tok2} (h:LexSt x n obs R):∃ (st:SV) (k:Int) (pb:List SV),obs=lexAll st "" n x k pb:=by
 rcases h with ⟨k,_,_,rfl,_⟩ | ⟨st,k,tok,_,_,_,rfl,_⟩ | ⟨rfl,_⟩
 ·exact ⟨_,_,_,rfl⟩
 ·exact ⟨_,_,_,rfl⟩
 ·exact ⟨_,_,_,rfl⟩
theorem str_chars (x:Str):x=⟨(chars x).toArray⟩:=by
 cases x; simp [chars]
inductive LrI (x:Str) (R:List Tok2) (nx:Nat) (fr:List Nat) (j:Nat) (cx:Cx):Prop
 | mk (loc:List (Str×SV)) (n:Int) (obs:List (Nat×SO)) (R':List Tok2) (v:SV) (done:List Tok2) (ej:j=R.length - done.length) (hle:done.length≤R.length) (ec:cx=⟨loc,(100,.list (done.map rowS)) :: obs,nx,fr⟩) (a1:loc.lookup ("lexer":Str)=some (.ref 3)) (a2:loc.lookup ("told":Str)=some (.ref 100)) (a3:loc.lookup ("token":Str)=some v) (aL:LexSt x n obs R') (av:(v = .none∧done=R)∨∃ tok,v = .str tok∧done++(chars tok,n) :: R'=R)
section
variable {c:Cst} (S:SioFacts c) (X:LexFacts c) (Y:LexFacts2 c) {d u:Nat} (hd:d<940) (huu:u<6000) {x:Str}
include S X Y hd huu
theorem lread_loop (hx:x.length≤1000000) {R:List Tok2} (hR:R.length≤1000) {n0:Int} {obs0:List (Nat×SO)} {R0:List Tok2} {v0:SV} {loc:List (Str×SV)} {nx:Nat} {fr:List Nat} {Kf:Fl→Cx→Prop}
  (h1:loc.lookup ("lexer":Str)=some (.ref 3)) (h2:loc.lookup ("told":Str)=some (.ref 100)) (h3:loc.lookup ("token":Str)=some v0) (hL:LexSt x n0 obs0 R0) (hv:(v0 = .none∧R=[])∨∃ tok,v0 = .str tok∧(chars tok,n0) :: R0=R)
  (h:∀ loc' n' obs' R',loc'.lookup ("told":Str)=some (.ref 100)→LexSt x n' obs' R'→Kf .next ⟨loc',(100,.list (R.map rowS)) :: obs',nx,fr⟩) :
  SpS c (d+1) (u+3) lrEn (stAt lread_d.1.2.1 3) ⟨loc,(100,.list []) :: obs0,nx,fr⟩ Kf:=by
 refine ss_while (LrI x R nx fr) (fun j cx hI=>?_) (n:=R.length) ⟨loc,n0,obs0,R0,v0,[],by simp,by simp,rfl,h1,h2,h3,hL,?_⟩
 ·refine hide fun Go jo=>?_
  obtain ⟨loc',n',obs',R',v,done,rfl,hle,rfl,a1,a2,a3,aL,av⟩:=hI
  obtain ⟨st,k,pb,rfl⟩:=aL.shape
  refine jo ?_
  rcases av with ⟨rfl,rfl⟩ | ⟨tok,rfl,hd2⟩
  ·refine st_cmp (sp_name a3 (sp_none (o_isnn (by intro w h; cases h) ⟨_,rfl,ite_f (by decide) (ss_nil ?_)⟩)))
   exact h loc' n' _ R' a2 aL
  ·refine st_cmp (sp_name a3 (sp_none (o_isnn (by intro w h; cases h) ⟨_,rfl,ite_t rfl ?_⟩)))
   have hlen:done.length<R.length:=by rw [← hd2]; simp
   refine ss_cons (ss_expr (sp_meth (sp_name a2 (m_list rfl slot_list_append type_list_append ⟨.inl ⟨_,rfl⟩,sp_flist (show SpArgs _ _ _ _ _ _ _ from sp_name a3 (sp_attr (sp_name a1 (at_get rfl rfl X.gLine rfl rfl ⟨by show 2≤1000; decide,?_⟩))))⟩))))
   refine c_append rfl (by simp; lia) ⟨rfl,?_⟩
   refine ss_cons (ss_assign (sp_meth (sp_name a1 (at_meth rfl rfl Y.mGtok rfl ⟨.inr (.inr Y.kGtok),?_⟩))))
   have er:done.map rowS++[.fl [.str tok,.int n']]=(done++[(chars tok,n')]).map rowS:=by
    rw [List.map_append]
    show _=_++[SV.fl [.str ⟨(chars tok).toArray⟩,.int n']]
    rw [← str_chars]
   refine gtok_any S X Y (d:=d+1) (by exact aS ‹_› rfl) (by exact aS ‹_› rfl) hx aL (List.Sublist.cons _ (List.Sublist.refl _)) (fun e n2 obs2 L2=>?_) (fun t n2 R2 e tok2 obs2 et L2=>?_)
   ·refine hide fun Go jo=>?_
    obtain ⟨st2,k2,pb2,rfl⟩:=L2.shape
    refine jo ?_
    refine ss_nil ⟨R.length - (done++[(chars tok,n')]).length,by simp; lia,setL ("token":Str) .none loc',n2,_,[],.none,done++[(chars tok,n')],rfl,by simp; lia,?_,get_ne a1,get_ne a2,get_put,L2,.inl ⟨rfl,by rw [← hd2,e]⟩⟩
    rw [← er]; rfl
   ·refine hide fun Go jo=>?_
    obtain ⟨st2,k2,pb2,rfl⟩:=L2.shape
    refine jo ?_
    refine ss_nil ⟨R.length - (done++[(chars tok,n')]).length,by simp; lia,setL ("token":Str) (.str tok2) loc',n2,_,R2,.str tok2,done++[(chars tok,n')],rfl,by simp; lia,?_,get_ne a1,get_ne a2,get_put,L2,.inr ⟨tok2,rfl,by rw [← hd2,e,et]; simp⟩⟩
    rw [← er]; rfl
 ·rcases hv with ⟨a,b⟩ | ⟨tok,a,b⟩
  ·exact .inl ⟨a,b.symm⟩
  ·exact .inr ⟨tok,a,by simpa using b⟩
end
theorem upd_nil (cx:Cx):cx.upd [] [] cx.fr=cx:=by
 refine hide fun Go jo=>?_
 obtain ⟨a,b,c,d⟩:=cx
 refine jo ?_
 simp [Cx.upd]
noncomputable def lpiece_d:{ x:Df // defAt ["_law_piece"] prg=some x }:=⟨_,rfl⟩
noncomputable def pieceS (p:Pc):SV:=.tup [.str p.gap,.str p.wr,.fl (p.words.map .str),.str p.lone]
noncomputable abbrev lawPiece (x:Int):Pc:=pieceAt (x.fmod 4).toNat ((x.fdiv 24).fmod 5).toNat ((x.fdiv 4).fmod 6).toNat
theorem fmod_in (x:Int) (n:Nat) (hn:0<n):0≤x.fmod n∧x.fmod n<n:=by
 rw [Int.fmod_eq_emod_of_nonneg _ (by lia)]
 exact ⟨Int.emod_nonneg _ (by lia),Int.emod_lt_of_pos _ (by lia)⟩
theorem index_in {k:Int} {n:Nat} (h:0≤k∧k<n):seqIndex? k n=some k.toNat:=by
 unfold seqIndex?
 have h1:¬ k<0:=by lia
 have h2:(0:Int)≤k∧k<n:=h
 simp [h1,h2]
theorem strs_los (l:List Str):SV.los (l.map .str)=true:=by
 induction l with
 | nil=>rfl
 | cons x l ih=>simpa [SV.los,SV.lo] using ih
theorem pieceS_lo (p:Pc):(pieceS p).lo=true:=by simp [pieceS,SV.lo,SV.los,strs_los]
structure LawFacts (c:Cst):Prop where
 piece:FnK c 912 lpiece_d.1 "_law_piece" "_law_piece" .none 911 []
 pieceN:nsIn c.K mainGlobals "_law_piece" = some (some (.ref 912))
 pieceK:keepIn c.K (.ref 912)=true
section
variable {c:Cst} (X:LawFacts c) {d u:Nat} {cx:Cx} {K:SV→Cx→Prop}
include X
theorem lpiece_c (hd:d<990) {x:Int} (h:K (pieceS (lawPiece x)) cx):SpC c d u (.ref 912) [.int x] cx K:=by
 refine fn_pos (obs:=[]) ["x"] X.piece (by exact aR ‹_› rfl) (fun name qual doc pm an cd ct cl vs hv=>?_) (by rfl) (by decide) (by rfl) (List.nil_sublist _) lo_nil (by rfl) ?_
 ·obtain ⟨x,rfl⟩:=len1 hv
  rfl
 ·have h4:0≤x.fmod 4∧x.fmod 4<(4:Nat):=fmod_in x 4 (by decide)
  have h5:0≤(x.fdiv 24).fmod 5∧(x.fdiv 24).fmod 5<(5:Nat):=fmod_in (x.fdiv 24) 5 (by decide)
  have h6:0≤(x.fdiv 4).fmod 6∧(x.fdiv 4).fmod 6<(6:Nat):=fmod_in (x.fdiv 4) 6 (by decide)
  have hg:([.str "",.str " ",.str "\t",.str "  "]:List SV)[(x.fmod 4).toNat]? = some (.str (gapOf (x.fmod 4).toNat)):=by
   have:(x.fmod 4).toNat<4:=by lia
   generalize (x.fmod 4).toNat=j at this
   match j,this with
   | 0,_=>rfl
   | 1,_=>rfl
   | 2,_=>rfl
   | 3,_=>rfl
  refine ss_cons (ss_assign (sp_sub (sp_flist (show SpArgs _ _ _ _ _ _ _ from sp_str (sp_str (sp_str (sp_str ⟨by show 4≤1000; decide,sp_bin (sp_name rfl (sp_int (o_modi (by decide) (i_fl (by lia) (index_in h4) hg ?_))))⟩)))))))
  refine ss_cons (ss_assign (sp_bin (sp_str (sp_bin (sp_int (sp_bin (sp_bin (sp_name rfl (sp_int (o_divi (by decide) (by decide) (sp_int (o_modi (by decide) (o_addi (o_muls (by lia) (by decide) ?_))))))))))))))
  have e1:repS "a" (1+(x.fdiv 24).fmod 5)=someOf ((x.fdiv 24).fmod 5).toNat:=by unfold someOf; congr 1; lia
  rw [e1]
  refine ss_cons (ss_assign (sp_flist (show SpArgs _ _ _ _ _ _ _ from sp_tup (show SpArgs _ _ _ _ _ _ _ from sp_name rfl (sp_flist (show SpArgs _ _ _ _ _ _ _ from sp_name rfl (⟨by exact Nat.le_of_ble_eq_true rfl,sp_str ⟨by exact Nat.le_of_ble_eq_true rfl,sp_tup (show SpArgs _ _ _ _ _ _ _ from sp_str (sp_flist (show SpArgs _ _ _ _ _ _ _ from sp_str (⟨by exact Nat.le_of_ble_eq_true rfl,sp_str ⟨by exact Nat.le_of_ble_eq_true rfl,sp_tup (show SpArgs _ _ _ _ _ _ _ from sp_str (sp_flist (show SpArgs _ _ _ _ _ _ _ from ⟨by exact Nat.le_of_ble_eq_true rfl,sp_str ⟨by exact Nat.le_of_ble_eq_true rfl,sp_tup (show SpArgs _ _ _ _ _ _ _ from sp_str (sp_flist (show SpArgs _ _ _ _ _ _ _ from sp_str (⟨by exact Nat.le_of_ble_eq_true rfl,sp_str ⟨by exact Nat.le_of_ble_eq_true rfl,sp_tup (show SpArgs _ _ _ _ _ _ _ from sp_str (sp_flist (show SpArgs _ _ _ _ _ _ _ from sp_str (⟨by exact Nat.le_of_ble_eq_true rfl,sp_str ⟨by exact Nat.le_of_ble_eq_true rfl,sp_tup (show SpArgs _ _ _ _ _ _ _ from sp_str (sp_flist (show SpArgs _ _ _ _ _ _ _ from sp_str (⟨by exact Nat.le_of_ble_eq_true rfl,sp_str ⟨by exact Nat.le_of_ble_eq_true rfl,⟨by exact Nat.le_of_ble_eq_true rfl,?_⟩⟩⟩))))⟩⟩))))⟩⟩))))⟩⟩)))⟩⟩))))⟩⟩)))))))
  have hk:∀ sm:Str,([.tup [.str sm,.fl [.str sm],.str ""],.tup [.str "bc,",.fl [.str "bc"],.str ","],.tup [.str ";",.fl [],.str ";"],.tup [.str "'e f'",.fl [.str "e f"],.str ""],.tup [.str "'#,'",.fl [.str "#,"],.str ""],.tup [.str "''",.fl [.str ""],.str ""]]:List SV)[((x.fdiv 4).fmod 6).toNat]? = some (.tup [.str (kindOf sm ((x.fdiv 4).fmod 6).toNat).1,.fl ((kindOf sm ((x.fdiv 4).fmod 6).toNat).2.1.map .str),.str (kindOf sm ((x.fdiv 4).fmod 6).toNat).2.2]):=by
   intro sm
   have:((x.fdiv 4).fmod 6).toNat<6:=by lia
   generalize ((x.fdiv 4).fmod 6).toNat=j at this
   match j,this with
   | 0,_=>rfl
   | 1,_=>rfl
   | 2,_=>rfl
   | 3,_=>rfl
   | 4,_=>rfl
   | 5,_=>rfl
  refine ss_cons (ss_ret (sp_bin (sp_tup (show SpArgs _ _ _ _ _ _ _ from sp_name rfl ⟨by exact Nat.le_of_ble_eq_true rfl,sp_sub (sp_name rfl (sp_bin (sp_bin (sp_name rfl (sp_int (o_divi (by decide) (by decide) (sp_int (o_modi (by decide) (i_fl (by lia) (index_in h6) (hk _) (o_addt (by exact Nat.le_of_ble_eq_true rfl) ?_))))))))))⟩))))
  refine Back.mk [] rfl ob_nil rfl (pieceS_lo (lawPiece x)) ?_
  rw [upd_nil]
  exact h
end
section
variable {c:Cst} {d u:Nat} {e:En} {cx:Cx} {pos:Pos}
theorem sp_cell {x:Str} {i:Nat} {a:Addr} {sv:SV} {K:SV→Cx→Prop} (hi:cx.obj.lookup i=some (.cell a sv)) (h:K sv cx) (hc:∀ L,(e.cells L).lookup x=some a:=by intro L; rfl) (hk:e.scope.kind = .function:=by rfl) (hl:e.scope.names.lookup x=some .cell:=by rfl)
  (hd:(x==("__debug__":Str))=false:=by decide):Sp c d u (fun L=>eval (.Name x pos) (e.env L)) VR cx K:=fun _ g am L s r=>by
 refine hide fun Go jo=>?_
 obtain ⟨as,_,o,v,_,ho,hd',q⟩:=r.lay _ (mem_of_lookup hi)
 refine jo ?_
 exact wpAny_Name (wpAny_loadName_cell hk hl (hc L) ⟨o,ho,hd'⟩ (Ends.here r q h)) hd
noncomputable def cellAt (a:Addr):SO→Prop
 | .cell b _=>b=a
 | .obj b o=>b=a∧∃ v,o.data = .cell v
 | _=>False
theorem ss_cell {x:Str} {p:Pos} {v:Expr} {i:Nat} {a:Addr} {K:Fl→Cx→Prop} (h:Sp c d u (fun L=>eval v (e.env L)) VR cx fun w cx1=>(∃ so,cx1.obj.lookup i=some so∧cellAt a so)∧K .next (cx1.set i (.cell a w)))
  (hc:∀ L,(e.cells L).lookup x=some a:=by intro L; rfl)
  (hs:∀ L,swapsWith v (some (.Name x p)) pos.line (e.env L)=pure false:=by intro L; rfl) (hk:e.scope.kind = .function:=by rfl) (hl:e.scope.names.lookup x=some .cell:=by rfl) :
  SpS c d u e (.Assign [.Name x p] v pos) cx K:=fun fx g am L s R =>
 wpAny_Assign_Name (step (h fx g am L s R) fun w s1 g1 am1 cx1 sv l1 a1 r1 q1 k1=>by
  refine hide fun Go jo=>?_
  obtain ⟨⟨so,hi,hso⟩,k⟩:=k1
  obtain ⟨as,ea,l⟩:=r1.lay _ (mem_of_lookup hi)
  have z:as=[a]∧∃ v0,s1.heap.IsCell a v0:=by
   cases so with
   | cell b y=>cases hso; obtain ⟨o,v,rfl,ho,hd,_⟩:=l; exact ⟨rfl,_,o,ho,hd⟩
   | obj b o=>obtain ⟨rfl,v,hd⟩:=hso; obtain ⟨rfl,ho⟩:=l; exact ⟨rfl,_,o,ho,hd⟩
   | _=>exact hso.elim
  obtain ⟨rfl,v0,hcell⟩:=z
  refine jo ?_
  refine wpAny_storeName_cell hk hl (hc L) hcell fun h' ⟨o',ho',hd'⟩ hs=>?_
  exact ⟨g1,am1,_,.next,l1,a1,r1.set (so':=.cell a sv) (t:=s1.toks) (mem_of_lookup hi) ea (fun b hb=>hs.2 b (by simpa using hb)) (Nat.le_of_eq hs.1.symm) ⟨o',w,rfl,ho',hd',q1⟩,.next,k⟩) (hs L)
end
theorem bindL4 {k:Str→Option NameKind} {p0 p1 p2 p3:Str} {v0 v1 v2 v3:Value} (h0:k p0=some .local) (h1:k p1=some .local) (h2:k p2=some .local) (h3:k p3=some .cell) :
  bindL k [(p0,v0),(p1,v1),(p2,v2),(p3,v3)] (fun _=>none)=fun y=>if y=p2 then some v2 else if y=p1 then some v1 else if y=p0 then some v0 else none:=by
 rw [bindL,if_pos h0,bindL,if_pos h1,bindL,if_pos h2,bindL,if_neg (by rw [h3]; decide),bindL]
theorem bindC4 {k:Str→Option NameKind} {p0 p1 p2 p3:Str} {v0 v1 v2 v3:Value} (h0:k p0=some .local) (h1:k p1=some .local) (h2:k p2=some .local) (h3:k p3=some .cell) :
  bindC k [(p0,v0),(p1,v1),(p2,v2),(p3,v3)] (fun _=>none)=fun y=>if y=p3 then some v3 else none:=by
 rw [bindC,if_pos h0,bindC,if_pos h1,bindC,if_pos h2,bindC,if_neg (by rw [h3]; decide),bindC]
theorem loc3 {g:Heap} {am:Am} {p0 p1 p2:Str} {x0 x1 x2:SV} {v0 v1 v2:Value} (h1:p0≠p1) (h2:p0≠p2) (h3:p1≠p2) (q0:VR g am x0 v0) (q1:VR g am x1 v1) (q2:VR g am x2 v2) (x:Str) (sv:SV) (e:[(p0,x0),(p1,x1),(p2,x2)].lookup x=some sv) :
  ∃ v,(if x=p2 then some v2 else if x=p1 then some v1 else if x=p0 then some v0 else none)=some v∧VR g am sv v:=by
 by_cases e0:x=p0
 ·subst e0
  exact ⟨v0,by rw [if_neg h2,if_neg h1,if_pos rfl],Option.some.inj (lookup_hd.symm.trans e)▸q0⟩
 have e:=(lookup_tl e0).symm.trans e
 by_cases e1:x=p1
 ·subst e1
  exact ⟨v1,by rw [if_neg h3,if_pos rfl],Option.some.inj (lookup_hd.symm.trans e)▸q1⟩
 have e:=(lookup_tl e1).symm.trans e
 by_cases e2:x=p2
 ·subst e2
  exact ⟨v2,if_pos rfl,Option.some.inj (lookup_hd.symm.trans e)▸q2⟩
 ·exact nomatch (lookup_tl e2).symm.trans e
theorem le_push1 {h h':Heap} {o:Obj} (fo:o.isFreed=false) (ho:h'.get? h.objs.size=some o) (k:Le h h'):Le (h.push o) h':=fun b o' e=>by
 by_cases q:b=h.objs.size
 ·subst q
  exact ho.trans ((Heap.get?_push_size _ fo).symm.trans e)
 ·exact k b o' ((Heap.get?_push_ne _ _ _ q).symm.trans e)
theorem fn_cells {c:Cst} {d u:Nat} {f cd:Addr} {dd:Df} {name qual n1 n2:Str} {x0 x1 x2 x3:SV} {cx:Cx} {K:SV→Cx→Prop} {p0 p1 p2:Str}
  (F:FnK c f dd name qual .none cd []) (hd:d<1000) (hb:PosOk dd [p0,p1,p2,n1] 4) (hcs:∀ n,cellsFrom (n+1) dd.2.2.names []=[(n2,n+2),(n1,n+1)])
  (k0:dd.2.2.names.lookup p0=some .local∧dd.2.2.names.lookup p1=some .local∧dd.2.2.names.lookup p2=some .local∧dd.2.2.names.lookup n1=some .cell) (hne:p0≠p1∧p0≠p2∧p1≠p2∧n1≠n2)
  (hco:dd.2.2.isCoroutine=false) (hgen:dd.2.2.isGenerator=false) (hk:dd.2.2.kind = .function) (h11:11∈cx.fr∧12∈cx.fr) (hlos:SV.los [x0,x1,x2,x3]=true)
  (h:∀ a1 a2 o2,o2.data = .cell none→SpSs c (d+1) (u+3) (En.fn qual dd.2.2 f (.ref cd) fun _=>[(n2,a2),(n1,a1)]) dd.2.1 ⟨[(p0,x0),(p1,x1),(p2,x2)],[(12,.obj a2 o2),(11,.cell a1 x3)],100,(cx.fr.filter fun j=>j != 11).filter fun j=>j != 12⟩ fun fl cx'=>Back cx [] K fl.val cx') :
  SpC c d u (.ref f) [x0,x1,x2,x3] cx K:=by
 intro fx g am L s vs r hv
 refine hide fun Go jo=>?_
 obtain ⟨hc,oc,od,sl,doc,pm,an,ct,ho⟩:=F
 have hlen:=hv.length
 cases hv using VRs.consE with | mk _ _ q0 hv=>cases hv using VRs.consE with | mk _ _ q1 hv=>cases hv using VRs.consE with | mk _ _ q2 hv=>cases hv using VRs.consE with | mk _ _ q3 hv=>cases hv using VRs.nilE with | mk =>
 refine jo ?_
 rename_i v0 v1 v2 v3
 have X:=r.top.X.keeps r.sub
 simp only [los_cons,Bool.and_eq_true] at hlos
 have lo3:=hlos.2.2.2.1
 have cl:cellsFrom (s.heap.objs.size+1) dd.2.2.names []=[(n2,s.heap.objs.size+2),(n1,s.heap.objs.size+1)]:=hcs _
 refine wpAny_call (codeAny_call_cells (fd:=fdOf name qual dd .none doc pm an cd ct []) (body:=dd.2.1) (binds:=[p0,p1,p2,n1].zip [v0,v1,v2,v3]) hd (X _ _ ho) rfl (r.top.lim.keeps r.sub) (codeRec_of X hc) rfl (hb _ _ _ _ _ _ _ _ _ rfl) rfl (fun x hx=>?_) (fun s₁ IC=>?_) hco hgen hk)
 ·simp only [List.zip_cons_cons,List.zip_nil_right,List.mem_cons,List.not_mem_nil,or_false] at hx
  rcases hx with rfl | rfl | rfl | rfl
  ·exact .inl k0.1
  ·exact .inl k0.2.1
  ·exact .inl k0.2.2.1
  ·refine .inr ⟨k0.2.2.2,?_⟩
   rw [show cellsFrom (s.heap.objs.size+1) (fdOf name qual dd .none doc pm an cd ct []).scope.names []=_ from cl]
   simp [List.lookup,beq_false_of_ne hne.2.2.2]
 ·refine hide fun Go jo=>?_
  obtain ⟨h₁,tk,rfl⟩:=IC.toInCall.same
  refine jo ?_
  have hns:=IC.toInCall.ns
  have hkeep:=IC.toInCall.keep
  have hcell:=IC.cell
  generalize hfd:fdOf name qual dd .none doc pm an cd ct []=fd at hns hcell
  have kd0:(callEnvC fd s.heap.objs.size f).kindOf p0=some .local:=hfd▸k0.1
  have kd1:(callEnvC fd s.heap.objs.size f).kindOf p1=some .local:=hfd▸k0.2.1
  have kd2:(callEnvC fd s.heap.objs.size f).kindOf p2=some .local:=hfd▸k0.2.2.1
  have kd3:(callEnvC fd s.heap.objs.size f).kindOf n1=some .cell:=hfd▸k0.2.2.2
  have cl':(callEnvC fd s.heap.objs.size f).cells=[(n2,s.heap.objs.size+2),(n1,s.heap.objs.size+1)]:=hfd▸cl
  rw [show bindL (callEnvC fd s.heap.objs.size f).kindOf ([p0,p1,p2,n1].zip [v0,v1,v2,v3]) (fun _=>none)=_ from bindL4 kd0 kd1 kd2 kd3] at hns
  rw [show bindC (callEnvC fd s.heap.objs.size f).kindOf ([p0,p1,p2,n1].zip [v0,v1,v2,v3]) (fun _=>none)=_ from bindC4 kd0 kd1 kd2 kd3] at hcell
  rw [cl'] at hcell
  refine hide fun Go jo=>?_
  obtain ⟨o1,ho1,hd1⟩:=hcell n1 (s.heap.objs.size+1) (by simp [List.lookup,beq_false_of_ne hne.2.2.2])
  obtain ⟨o2,ho2,hd2⟩:=hcell n2 (s.heap.objs.size+2) (by simp [List.lookup])
  have hd1:o1.data = .cell (some v3):=hd1.trans (congrArg Data.cell (if_pos rfl))
  have hd2:o2.data = .cell none:=hd2.trans (congrArg Data.cell (if_neg (Ne.symm hne.2.2.2)))
  obtain ⟨oL,es,ep,hoL,hrest⟩:=hns
  have fL:=(Heap.get?_some_iff.mp hoL).2
  have f1:=(Heap.get?_some_iff.mp ho1).2
  have leL:Le (s.heap.push oL) h₁:=le_push1 fL hoL hkeep
  have le1:Le ((s.heap.push oL).push o1) h₁:=le_push1 f1 (by rw [push_size]; exact ho1) leL
  have lo3v:VR g am.low x3 v3:=q3.low (fun i x hi e=>Am.low_at hi e) lo3
  have R0:=r.enter (obs:=[]) (List.nil_sublist _) (by intro p hp; cases hp) (h₁:=s.heap.push oL) (t:=tk) (m:=fun y=>if y=p2 then some v2 else if y=p1 then some v1 else if y=p0 then some v0 else none) ⟨oL,es,ep,Heap.get?_push_size _ fL,hrest⟩ (push_le _ _)
   (loc:=[(p0,x0),(p1,x1),(p2,x2)]) (loc3 hne.1 hne.2.1 hne.2.2.1 (q0.low (fun i x hi e=>Am.low_at hi e) hlos.1) (q1.low (fun i x hi e=>Am.low_at hi e) hlos.2.1) (q2.low (fun i x hi e=>Am.low_at hi e) hlos.2.2.1))
  have R1:=R0.allocAt (i:=11) h11.1 (as:=[(s.heap.push oL).objs.size]) (h':=(s.heap.push oL).push o1) (so:=.cell (s.heap.objs.size+1) x3) (t:=tk) (push_le _ _) (by rw [push_size (s.heap.push oL) o1]; exact Nat.le_succ _) (fun b hb=>Heap.get?_push_ne _ _ _ (Nat.ne_of_lt (R0.owned_lt b hb))) (by simp) (by simp)
   ⟨o1,v3,by rw [push_size],by have:=Heap.get?_push_size (s.heap.push oL) f1; rw [push_size] at this; exact this,hd1,lo3v.mono (.refl _) (Am.set_le _ _ (R0.free 11 h11.1).2)⟩
  have R2:=R1.allocAt (i:=12) (List.mem_filter.mpr ⟨h11.2,by decide⟩) (as:=[s.heap.objs.size+2]) (h':=h₁) (so:=.obj (s.heap.objs.size+2) o2) (t:=tk) le1 (by have:=Heap.lt_size ho2; show ((s.heap.push oL).push o1).objs.size≤_; rw [push_size,push_size]; exact Nat.le_of_lt this)
   (fun b hb=>by obtain ⟨o,e⟩:=R1.owned_there b hb; rw [e]; exact le1 _ _ e) (by intro a ha; simp at ha; subst ha; show ((s.heap.push oL).push o1).objs.size≤_; rw [push_size,push_size]; exact Nat.le_refl _) (by simp) ⟨rfl,ho2⟩
  have henv:callEnvC fd s.heap.objs.size f=(En.fn qual dd.2.2 f (.ref cd) fun _=>[(n2,s.heap.objs.size+2),(n1,s.heap.objs.size+1)]).env s.heap.objs.size:=by
   have:callEnvC fd s.heap.objs.size f = { callEnvC fd s.heap.objs.size f with cells:=(callEnvC fd s.heap.objs.size f).cells }:=rfl
   rw [this,cl']; subst hfd; rfl
  subst hfd
  refine jo ?_
  rw [henv]
  refine wpAny_mono (ar_le (h _ _ o2 hd2 _ _ _ _ _ R2) rfl (Nat.le_refl _) (Nat.le_refl _)) (fun fl s' hq=>?_) fun _ _ x=>x.elim
  refine hide fun Go jo=>?_
  obtain ⟨g',amc,cx',x,hg,ha,r',q,obs',news,hids,hob,hnew,hnd,hfr,vlo,k⟩:=hq
  have ha':AmLe am.low amc:=((Am.set_le _ _ (R0.free 11 h11.1).2).trans (Am.set_le _ _ (R1.free 12 (List.mem_filter.mpr ⟨h11.2,by decide⟩)).2)).trans ha
  obtain ⟨R',le⟩:=r.leave (obs:=[]) (List.nil_sublist _) (by intro p hp; cases hp) hg ha' r' hids hob hnew hnd hfr
  refine jo ?_
  have z:VR g' (am.back amc []) x.val (flV fl):=q.val.low (fun i a hi e=>Am.back_lo ha' hi e) vlo
  cases fl <;> exact ⟨g',_,_,x.val,hg,le,R',z,k⟩
noncomputable abbrev prS (p:Int×Int):SV:=.tup [.int p.1,.int p.2]
section
variable {c:Cst}
theorem pair_tup {g h:Heap} {am:Am} {p:Int×Int} {v:Value} (hs:Le g h) (hv:VR g am (prS p) v):∃ a t u,v = .ref a∧IsTup h a #[.int p.1 t,.int p.2 u]:=by
 cases hv using VR.tupE with
 | mk _ _ ho hvs=>cases hvs using VRs.consE with
  | mk _ _ q1 hvs=>cases hvs using VRs.consE with
   | mk _ _ q2 hvs=>cases hvs using VRs.nilE; cases q1 using VR.intE; cases q2 using VR.intE; exact ⟨_,_,_,rfl,isTup_le hs ho⟩
theorem gt_pair {A:Around} {s:Shared} {g:Heap} {am:Am} {p q:Int×Int} {v w:Value} {Q:Value→Shared→Prop} {E:Value→Shared→Prop} (hs:Le g s.heap) (hv:VR g am (prS p) v) (hw:VR g am (prS q) w) (hu:A.units<cLine) (h:Q (.bool (lexLt q p)) s):wpAny c.M A (richCompare .Gt v w) Q E s:=by
 refine hide fun Go jo=>?_
 obtain ⟨a,t,u,rfl,ha⟩:=pair_tup hs hv
 obtain ⟨b,t',u',rfl,hb⟩:=pair_tup hs hw
 refine jo ?_
 refine wpAny_richCompare_same_room ha.typeIs hb.typeIs F.slot_tuple_gt (wpAny_call_entry F.slot_tuple_gt ha.typeIs F.entry_tuple_gt ?_ (F.args_tuple_gt_2 _ _)) hu
 have tb:=hb.typeIs
 refine hide fun Go jo=>?_
 obtain ⟨oa,hoa,_,na,hda⟩:=ha
 obtain ⟨ob,hob,_,nb,hdb⟩:=hb
 refine jo ?_
 show wpAny _ _ (isInstance (.ref b) (.type "tuple") >>= _) _ _ s
 refine wpAny_bind (wpAny_isInstance tb isSubtype_tuple_tuple ?_)
 simp only [Bool.not_true,Bool.false_eq_true,if_false]
 refine wpAny_bind (wpAny_tupleItemsOf hoa hda ?_)
 refine wpAny_bind (wpAny_tupleItemsOf hob hdb ?_)
 refine wpAny_bind ?_
 simp only [List.zip_cons_cons,List.zip_nil_right,List.forIn_cons,List.forIn_nil]
 unfold lexLt at h
 refine wpAny_bind (wpAny_bind (wpAny_eqBool_int ?_))
 by_cases e1:p.1=q.1
 ·rw [e1]
  simp only [beq_self_eq_true,Bool.not_true,Bool.false_eq_true,if_false]
  refine wpAny_pure (wpAny_bind (wpAny_bind (wpAny_eqBool_int ?_)))
  by_cases e2:p.2=q.2
  ·rw [e2]
   simp only [beq_self_eq_true,Bool.not_true,Bool.false_eq_true,if_false]
   refine wpAny_pure (wpAny_pure (wpAny_pure ⟨_,rfl,by simp [Builtin.Tuple.tupleCompareSizes],?_⟩))
   simp [e1,e2] at h
   exact h
  ·have:(p.2==q.2)=false:=by simpa using e2
   rw [this]
   simp only [Bool.not_false,if_true]
   refine wpAny_bind (wpAny_rule (wpAny_bind ?_))
   refine richCompare_gives (op:=.Gt) (typeIs_int s _ _) (typeIs_int s _ _) F.slot_int_gt F.entry_int_gt (F.args_int_gt_2 _ _) (gives_int_gt _ _ _ _) (fun x=>nomatch x) ?_
   simp only [e1,Int.lt_irrefl,decide_false,decide_true,Bool.false_or,Bool.true_and] at h
   exact wpAny_pure (wpAny_pure (wpAny_pure ⟨_,rfl,fun x=>(nomatch x),h⟩))
 ·have:(p.1==q.1)=false:=by simpa using e1
  rw [this]
  simp only [Bool.not_false,if_true]
  refine wpAny_bind (wpAny_rule (wpAny_bind ?_))
  refine richCompare_gives (op:=.Gt) (typeIs_int s _ _) (typeIs_int s _ _) F.slot_int_gt F.entry_int_gt (F.args_int_gt_2 _ _) (gives_int_gt _ _ _ _) (fun x=>nomatch x) ?_
  simp only [show decide (q.1=p.1)=false from decide_eq_false (Ne.symm e1),Bool.false_and,Bool.or_false] at h
  exact wpAny_pure (wpAny_pure (wpAny_pure ⟨_,rfl,fun x=>(nomatch x),h⟩))
noncomputable abbrev mxS (vs:Array Value) (n:Nat):Obj:={ cls:=.type "list",dict:=none,data:=.seq vs n,slots:=#[] }
theorem max_loop {A:Around} {fx:Fx} {g:Heap} {am:Am} {L:Addr} {cx:Cx} {R:Result→Shared→Prop} {it S:Addr} (hA:A.in1.handled=none) (hu:A.in1.units<cLine) (hne:S≠it) :
  ∀ (ps:List (Int×Int)) (b:Int×Int) (vb:Value) (n:Nat) (s:Shared),Rep c fx g am L cx s→It c g s.heap am it [it] (ps.map prS)→Apart fx g am L cx [it]→Apart fx g am L cx [S]→s.heap.get? S=some (mxS #[vb,vb] n)→VR g am (prS b) vb →
   (∀ s' v,Rep c fx g am L cx s'→VR g am (prS (ps.foldl (fun m y=>if lexLt m y=true then y else m) b)) v→R (.ok (.ret v)) s') →
   codeAny c.M A (.builtin "max.loop" ⟨[.ref it,.none,.ref S],[]⟩) R s:=by
 have hname:(toString "max" ++ toString ".loop":String) = "max.loop":=by decide
 intro ps
 induction ps with
 | nil =>
  intro b vb n s r i ap apS hS q hR
  refine codeAny_builtin F.entry_max_loop ?_
  rw [Around.under_plainId F.plain_max_loop _]
  show wpAny _ A.in1 (seqItems? (.ref S) >>= _) _ _ s
  refine wpAny_bind (wpAny_seqItems hS rfl ?_)
  show wpAny _ A.in1 (tryCatch (pyNext (.ref it)) _ >>= _) _ _ s
  have apA:Apart (aside fx g s.heap [S]) g am L cx [it]:=fun z hz=>⟨(ap z hz).1,(ap z hz).2.1,only_no (by simp at hz; subst hz; have:=(ap z (by simp)).2.2; simp [this,Ne.symm hne])⟩
  refine wpAny_bind (wpAny_tryCatch (it_done hA (r.aside apS) i apA fun s1 r1=>?_))
  have hS':=r1.frm S _ (show (aside fx g s.heap [S]).fh.get? S=_ from only_yes hS (by simp))
  show wpAny _ A.in1 (updateSeq S (fun _=>#[]) >>= _) _ _ _
  refine wpAny_bind ?_
  refine wpAny_updateSeq hS' rfl (wpAny_bind (wpAny_letGo (wpAny_pure ?_)))
  exact hR _ vb ((r.unaside r1).apart (t:=s1.toks) apS fun z o hz e=>(Heap.get?_update_other _ _ (fun h=>hz (by simp [h]))).trans e) q
 | cons y ps ih =>
  intro b vb n s r i ap apS hS q hR
  refine codeAny_builtin F.entry_max_loop ?_
  rw [Around.under_plainId F.plain_max_loop _]
  show wpAny _ A.in1 (seqItems? (.ref S) >>= _) _ _ s
  refine wpAny_bind (wpAny_seqItems hS rfl ?_)
  show wpAny _ A.in1 (tryCatch (pyNext (.ref it)) _ >>= _) _ _ s
  have apA:Apart (aside fx g s.heap [S]) g am L cx [it]:=fun z hz=>⟨(ap z hz).1,(ap z hz).2.1,only_no (by simp at hz; subst hz; have:=(ap z (by simp)).2.2; simp [this,Ne.symm hne])⟩
  refine wpAny_bind (wpAny_tryCatch (it_item hA (r.aside apS) i apA fun v s1 qv r1 i1 hm=>?_))
  have hS':=r1.frm S _ (show (aside fx g s.heap [S]).fh.get? S=_ from only_yes hS (by simp))
  have r1':=r.unaside r1
  show wpAny _ A.in1 (tryCatch (holding [v,v] (richCompare .Gt v vb >>= _)) _ >>= _) _ _ _
  refine wpAny_bind (wpAny_tryCatch (wpAny_holding (wpAny_bind (gt_pair r1.sub qv q hu ?_))))
  refine wpAny_bind (wpAny_holding (wpAny_truthy_bool ?_))
  refine wpAny_bind (wpAny_letGo (wpAny_pure ?_))
  simp only [List.foldl_cons] at hR
  cases hb:lexLt b y with
  | true =>
   simp only [if_true]
   refine wpAny_bind ?_
   refine wpAny_updateSeq hS' rfl (wpAny_bind (wpAny_letGo ?_))
   rw [hname]
   rw [if_pos hb] at hR
   have keep:∀ z o,z∉[S]→s1.heap.get? z=some o→(s1.heap.update S (Obj.mapSeq fun _=>#[v,v])).get? z=some o:=fun z o hz e=>(Heap.get?_update_other _ _ (fun h=>hz (by simp [h]))).trans e
   have r2:=r1'.apart (t:=s1.toks) apS keep
   exact wpAny_pure ⟨plainId_quiet F.plain_max_loop _,ih y v _ _ r2 (i1.keep r1.sub r2.sub fun z hz o e=>keep z o (by simp at hz ⊢; subst hz; exact Ne.symm hne) e) ap apS (Heap.get?_update_self _ hS' rfl) qv hR⟩
  | false =>
   simp only [Bool.false_eq_true,if_false]
   refine wpAny_bind (wpAny_letGo ?_)
   rw [hname]
   rw [if_neg (by rw [hb]; decide)] at hR
   exact wpAny_pure ⟨plainId_quiet F.plain_max_loop _,ih b vb _ _ r1' i1 ap apS hS' q hR⟩
theorem c_max {d u:Nat} {cx:Cx} {p:Int×Int} {ps:List (Int×Int)} {K:SV→Cx→Prop} (hu:u<9000) (h:∀ m,bestOf (p :: ps)=some m→K (prS m) cx):SpC c d u (.builtin "max") [.fl ((p :: ps).map prS)] cx K:=fun fx g am L s vs R q=>by
 cases q using VRs.consE with
 | mk _ _ q q0 =>
 cases q0 using VRs.nilE
 have hname:(toString "max" ++ toString ".loop":String) = "max.loop":=by decide
 refine call_function_tree F.kind_max F.plain_max F.entry_max (F.args_max1 _) ?_
 show wpAny _ (Ar d u).in1 (Builtin.Builtins.bindParams "max" ["key","default"] 0 ⟨[],[]⟩ >>= _) _ _ s
 refine wpAny_bind (wpAny_of_eq (show Builtin.Builtins.bindParams "max" ["key","default"] 0 ⟨[],[]⟩=pure [none,none] from rfl) ?_)
 refine wpAny_bind (wpAny_pure ?_)
 refine wpAny_bind (iter_fl R q fun it s2 r2 i2 ap2=>?_)
 refine wpAny_bind (wpAny_newObj_type ?_)
 rw [hname]
 have r3:=r2.push { cls:=.type "list",data:=.seq #[] } (t:=s2.toks)
 have there:∃ o,s2.heap.get? it=some o:=by
  obtain ⟨fp,n,P,St,j,W,st,e,f,q,hm⟩:=i2
  obtain ⟨o,T,ho,_⟩:=hm _ _ st
  exact ⟨o,ho⟩
 obtain ⟨oi,hoi⟩:=there
 have hne:s2.heap.objs.size≠it:=fun h=>absurd (Heap.lt_size hoi) (by rw [← h]; exact Nat.lt_irrefl _)
 have i3:=i2.keep r2.sub r3.sub (fun z hz o e=>Heap.get?_push_of_some _ e)
 have apS:=fresh_apart r2
 refine wpAny_pure ⟨plainId_quiet F.plain_max_loop _,codeAny_builtin F.entry_max_loop ?_⟩
 rw [Around.under_plainId F.plain_max_loop _]
 show wpAny _ (Ar d u).in1 (seqItems? (.ref s2.heap.objs.size) >>= _) _ _ _
 refine wpAny_bind (wpAny_seqItems (Heap.get?_push_size _ rfl) rfl ?_)
 show wpAny _ (Ar d u).in1 (tryCatch (pyNext (.ref it)) _ >>= _) _ _ _
 have hS:(s2.heap.push { cls:=.type "list",data:=.seq #[] }).get? s2.heap.objs.size=some (mxS #[] 0):=Heap.get?_push_size _ rfl
 have apA:Apart (aside fx g (s2.heap.push { cls:=.type "list",data:=.seq #[] }) [s2.heap.objs.size]) g am L cx [it]:=fun z hz=>⟨(ap2 z hz).1,(ap2 z hz).2.1,only_no (by simp at hz; subst hz; have:=(ap2 z (by simp)).2.2; simp [this,Ne.symm hne])⟩
 refine wpAny_bind (wpAny_tryCatch (it_item rfl (r3.aside apS) i3 apA fun v s4 qv r4 i4 hm=>?_))
 have hS':=r4.frm _ _ (show (aside fx g (s2.heap.push { cls:=.type "list",data:=.seq #[] }) [s2.heap.objs.size]).fh.get? s2.heap.objs.size=_ from only_yes hS (by simp))
 have r4':=r3.unaside r4
 show wpAny _ (Ar d u).in1 (updateSeq s2.heap.objs.size (fun _=>#[v,v]) >>= _) _ _ _
 refine wpAny_bind ?_
 refine wpAny_updateSeq hS' rfl ?_
 rw [hname]
 have keep:∀ z o,z∉[s2.heap.objs.size]→s4.heap.get? z=some o→(s4.heap.update s2.heap.objs.size (Obj.mapSeq fun _=>#[v,v])).get? z=some o:=fun z o hz e=>(Heap.get?_update_other _ _ (fun h=>hz (by simp [h]))).trans e
 have r5:=r4'.apart (t:=s4.toks) apS keep
 refine wpAny_pure ⟨plainId_quiet F.plain_max_loop _,max_loop (A:=Ar d u) rfl (by show u+1<_; unfold cLine; exact aS ‹_› rfl) hne ps p v _ _ r5 (i4.keep r4.sub r5.sub fun z hz o e=>keep z o (by simp at hz ⊢; subst hz; exact Ne.symm hne) e) ap2 apS (Heap.get?_update_self _ hS' rfl) qv fun s' w r' q'=>?_⟩
 exact ⟨g,am,cx,_,.refl _,.refl _,r',q',h _ rfl⟩
end
section
variable {c:Cst} {d u:Nat} {cx:Cx}
theorem preSum_take (ns:List Int):∀ n,n≤ns.length→preSum (fun i=>ns.getD i 0) n=(ns.take n).sum
 | 0,_=>by simp [preSum]
 | n+1,h=>by
  show preSum (fun i=>ns.getD i 0) n+ns.getD n 0=_
  rw [preSum_take ns n (by lia),take_sum_succ ns n (by lia)]
theorem sum_bound:∀ (l:List Int),(∀ n∈l,0≤n∧n≤100000)→0≤l.sum∧l.sum≤100000 * l.length
 | [],_=>by simp
 | x :: l,h=>by
  have h1:=h x (by simp)
  have h2:=sum_bound l fun n hn=>h n (by simp [hn])
  simp only [List.sum_cons,List.length_cons]
  lia
theorem c_sumf {ns:List Int} {K:SV→Cx→Prop} (hb:∀ n∈ns,0≤n∧n≤100000) (hl:ns.length≤1000) (h:K (.int ns.sum) cx):SpC c d u (.builtin "sum") [.fl (ns.map .int)] cx K:=fun fx g am L s vs R q=>by
 cases q using VRs.consE with
 | mk _ _ q q0 =>
 cases q0 using VRs.nilE
 cases q using VR.flE with
 | mk _ _ ho hv =>
 rename_i vs a
 have hli:=isList_le R.sub ho
 have hne:a≠s.heap.objs.size:=by obtain ⟨o,e,_⟩:=hli; exact Nat.ne_of_lt (Heap.lt_size e)
 have len:vs.length=ns.length:=by rw [← hv.length]; simp
 refine call_sum_walk (wpAny_pyIter_list hli ⟨_,_,_,_,_,_,fun i=>ns.getD i 0,rfl,Walks.list (A:=(Ar d u).in1) rfl _ a hne vs.toArray,⟨⟨_,Heap.get?_push_size _ rfl,rfl,rfl⟩,hli.push _⟩,fun b hb=>?_,fun i v hp=>?_,fun j hj=>?_,fun h' tk t' hk=>?_⟩)
 ·simp at hb
  rcases hb with rfl | rfl
  ·rw [push_size]; exact Nat.lt_succ_self _
  ·rw [push_size]; obtain ⟨o,e,_⟩:=hli; exact Nat.lt_succ_of_lt (Heap.lt_size e)
 ·have hp:vs[i]? = some v:=by simpa using hp
  have hi:i<ns.length:=by rw [← len]; exact (List.getElem?_eq_some_iff.mp hp).1
  obtain ⟨w,e,q⟩:=hv.get (i:=i) (x:=.int (ns.getD i 0)) (by simp [List.getElem?_map,List.getElem?_eq_getElem hi])
  rw [hp] at e; cases e; cases q using VR.intE
  exact ⟨_,rfl⟩
 ·have hj:j<ns.length:=by rw [← len]; simpa using hj
  have h1:=hb (ns.getD j 0) (by simp [List.getElem?_eq_getElem hj])
  have h2:=sum_bound (ns.take (j+1)) fun n hn=>hb n (List.mem_of_mem_take hn)
  rw [preSum_take ns (j+1) hj]
  have h3:(ns.take (j+1)).length≤1000:=by rw [List.length_take]; lia
  refine ⟨?_,?_⟩
  ·show _≤ns.getD j 0∧ns.getD j 0<_; lia
  ·unfold InLong; lia
 ·have e:preSum (fun i=>ns.getD i 0) vs.toArray.size=ns.sum:=by
   rw [List.size_toArray,len,preSum_take ns ns.length (Nat.le_refl _),List.take_length]
  rw [e]
  exact Ends.here ((R.push _ (t:=s.toks)).apart (fresh_apart R) (fun b o hb e=>hk b o hb e)) (.int _ _) h
mutual
noncomputable def SV.data:SV→Option PyData
 | .none=>some .none
 | .bool b=>some (.bool b)
 | .int i=>some (.int i)
 | .str x=>some (.str x)
 | .tup xs=>(SV.datas xs).map .tuple
 | .fl xs=>(SV.datas xs).map .list
 | _=>Option.none
noncomputable def SV.datas:List SV→Option (List PyData)
 | []=>some []
 | x :: xs=>match SV.data x,SV.datas xs with
  | some a,some b=>some (a :: b)
  | _,_=>Option.none
end
section
variable {g h:Heap} {am:Am} (hs:Le g h)
include hs
theorem VR.readss:(∀ {x v},VR g am x v→∀ D,SV.data x=some D→∃ as,Reads h v D as)∧∀ {xs vs},VRs g am xs vs→∀ D,SV.datas xs=some D→∃ as,ReadsAll h vs D as:=by
 have one:∀ {v:Value} {D0:PyData} {as:List Addr},Reads h v D0 as→∀ D,some D0=some D→∃ as,Reads h v D as:=fun r D e=>⟨_,Option.some.inj e▸r⟩
 refine VR.ind (P:=fun x v=>∀ D,SV.data x=some D→∃ as,Reads h v D as) (Q:=fun xs vs=>∀ D,SV.datas xs=some D→∃ as,ReadsAll h vs D as) (one .none) (fun b=>one (.bool b)) (fun i t=>one (.int i t)) (fun x t=>one (.str x t)) (fun _ _ e=>nomatch e) (fun _ _ e=>nomatch e) (fun ho ih D e=>?_) (fun ho ih D e=>?_)
  (fun D e=>?_) (fun {x _ xs _} ih ihs D e=>?_)
 ·obtain ⟨ds,e0,rfl⟩:=Option.map_eq_some_iff.mp e
  obtain ⟨as,r⟩:=ih ds e0
  obtain ⟨o,e1,e2,n,e3⟩:=isTup_le hs ho
  exact ⟨_,.tuple e1 e2 e3 r⟩
 ·obtain ⟨ds,e0,rfl⟩:=Option.map_eq_some_iff.mp e
  obtain ⟨as,r⟩:=ih ds e0
  obtain ⟨o,e1,e2,n,e3⟩:=isList_le hs ho
  exact ⟨_,.list e1 e2 e3 r⟩
 ·cases (show some ([]:List PyData)=some D from e)
  exact ⟨_,.nil⟩
 ·have e:(match SV.data x,SV.datas xs with | some a,some b=>some (a :: b) | _,_=>Option.none)=some D:=e
  cases ea:SV.data x with
  | none=>rw [ea] at e; cases e
  | some a=>cases eb:SV.datas xs with
   | none=>rw [ea,eb] at e; cases e
   | some b =>
    rw [ea,eb] at e
    obtain ⟨as,r1⟩:=ih a ea
    obtain ⟨bs,r2⟩:=ihs b eb
    cases e
    exact ⟨_,.cons r1 r2⟩
theorem VR.reads {x:SV} {v:Value} {D:PyData} (q:VR g am x v) (e:SV.data x=some D):∃ as,Reads h v D as:=(VR.readss hs).1 q D e
end
theorem o_eqd {x y:SV} {D D':PyData} {K:SV→Cx→Prop} (hu:u<9000) (hx:x.data=some D) (hy:y.data=some D') (h1:SeqAt.shaped D=true) (h2:SeqAt.shaped D'=true) (h:K (.bool (PyData.eqv D D')) cx):Sp2 c d u (fun v w=>compareOp .Eq v w) VR x y cx K:=fun fx g am L s _ _ R q q'=>by
 obtain ⟨as,r1⟩:=q.reads R.sub hx
 obtain ⟨bs,r2⟩:=q'.reads R.sub hy
 exact SeqAt.compareEq_shaped r1 r2 h1 h2 (by show u+64<9900; exact aS ‹_› rfl) (Ends.here R (.bool _) h)
theorem o_ned {x y:SV} {D D':PyData} {K:SV→Cx→Prop} (hu:u<9000) (hx:x.data=some D) (hy:y.data=some D') (h1:SeqAt.shaped D=true) (h2:SeqAt.shaped D'=true) (h:K (.bool (!PyData.eqv D D')) cx):Sp2 c d u (fun v w=>compareOp .NotEq v w) VR x y cx K:=fun fx g am L s _ _ R q q'=>by
 obtain ⟨as,r1⟩:=q.reads R.sub hx
 obtain ⟨bs,r2⟩:=q'.reads R.sub hy
 exact SeqAt.compareNe_shaped r1 r2 h1 h2 (by show u+64<9900; exact aS ‹_› rfl) (Ends.here R (.bool _) h)
theorem sl_tup {o i:Expr} {x:SV} {xs:List SV} {K:SV→Cx→Prop} (hz:xs.length≤1000) (h:K (.tup xs) cx):SpSl c d u (fun a b=>subscriptTail o i a b) VR (.tup (x :: xs)) (some 1,none) cx K:=fun fx g am L s _ _ R q q'=>by
 refine hide fun Go jo=>?_
 obtain ⟨sl,vl,vu,rfl,hs,pl,pu⟩:=q'
 refine jo ?_
 cases pl; cases pu
 cases q using VR.tupE with
 | mk _ _ ho hv =>
 cases hv using VRs.consE with
 | mk _ _ q1 hv =>
 rename_i vs
 have ht:=isTup_le R.sub ho
 have hsl:s.heap.IsSliceOf sl (.int 1 _) .none .none:=let ⟨os,hos,hc,hd⟩:=hs; ⟨os,R.sub _ _ hos,hc,hd⟩
 refine tail_of (notPy ht.typeIs slot_tuple_getitem.lookup) ?_
 refine getItem_tuple_from (a:=1) ht hsl (Nat.le_refl _) (by simp) ?_ (by have:=hv.length; rw [List.size_toArray,List.length_cons,sizeLine_eq]; lia)
 refine hide fun Go jo=>?_
 obtain ⟨g2,le,e2,r2⟩:=R.pushF (o:={ cls:=.type "tuple",data:=.seq vs.toArray }) rfl (t:=s.toks)
 refine jo ?_
 exact ⟨g2,am,cx,.tup xs,le,.refl _,r2,.tup ⟨_,e2,rfl,_,rfl⟩ (hv.mono le (.refl _)),h⟩
end
section
variable {c:Cst} {d u:Nat} {e ec:En} {cx:Cx} {k:Nat}
theorem cl_ids {ce:Expr} {depth:Nat} {xs:List SV} {K:Cx→Prop} (h:(cx.obj.map (·.1)).Nodup→SpCl c d u ec ce depth k xs cx K):SpCl c d u ec ce depth k xs cx K:=fun fx g am C s it acc r=>h r.idnd fx g am C s it acc r
theorem SpCl.mono {ce:Expr} {depth:Nat} {xs:List SV} {K K':Cx→Prop} (h:SpCl c d u ec ce depth k xs cx K) (hk:∀ cx,K cx→K' cx):SpCl c d u ec ce depth k xs cx K':=fun fx g am C s it acc r i ap q=>codeAny_mono (h fx g am C s it acc r i ap q) fun rs s' hr=>by
 cases rs with
 | error _=>exact hr
 | ok f=>exact Ends.mono (fun _ cx=>hk cx) hr
theorem map_same {k:Nat} {b:SO}:∀ {o:List (Nat×SO)},k∉o.map (·.1)→o.map (fun p=>if p.1=k then (k,b) else p)=o
 | [],_=>rfl
 | p :: o,h=>by
  simp only [List.map_cons,List.mem_cons,not_or] at h
  rw [List.map_cons,if_neg (Ne.symm h.1),map_same h.2]
theorem filter_same {k:Nat}:∀ {o:List (Nat×SO)},k∉o.map (·.1)→o.filter (fun p=>p.1 != k)=o
 | [],_=>rfl
 | p :: o,h=>by
  simp only [List.map_cons,List.mem_cons,not_or] at h
  rw [List.filter_cons,if_pos (bne_iff_ne.mpr (Ne.symm h.1)),filter_same h.2]
theorem set_head {loc:List (Str×SV)} {a b:SO} {o:List (Nat×SO)} {nx:Nat} {fr:List Nat} (hn:k∉o.map (·.1)):(⟨loc,(k,a) :: o,nx,fr⟩:Cx).set k b=⟨loc,(k,b) :: o,nx,fr⟩:=by
 simp only [Cx.set,List.map_cons,if_true,map_same hn]
theorem lookup_head {a:SO} {o:List (Nat×SO)}:((k,a) :: o).lookup k=some a:=by simp [List.lookup]
noncomputable def EltOk (c:Cst) (d u:Nat) (e:En) (scope:Scope) (cl:List (Str×Addr)) (tgt elt:Expr) (cx:Cx) (x y:SV):Prop :=
 ∀ L loc o nx,cx.nx<nx→(∀ i,i<100→o.lookup i=cx.obj.lookup i)→SpA c d u (cEn e scope cl L) tgt x ⟨loc,o,nx,cx.fr⟩ fun cx'=>∃ loc',cx'=⟨loc',o,nx,cx.fr⟩∧Sp c d u (fun C=>eval elt ((cEn e scope cl L).env C)) VR cx' fun v cx''=>v=y∧∃ nx'',nx≤nx''∧cx''=⟨loc',o,nx'',cx.fr⟩
theorem SpA.mono {t:Expr} {x:SV} {K K':Cx→Prop} (h:SpA c d u e t x cx K) (k:∀ cx,K cx→K' cx):SpA c d u e t x cx K':=fun fx g am L s v r q=>wpAny_mono (h fx g am L s v r q) (fun _ _ e=>e.mono fun _ cx=>k cx) fun _ _ x=>x
theorem map_body {elt tgt iter:Expr} {scope:Scope} {pos:Pos} {cl:List (Str×Addr)} {F:SV→SV} {xs:List SV} {L:Addr} {K:Cx→Prop} (h100:100≤cx.nx) (hz:xs.length≤100000)
  (hx:∀ x∈xs,EltOk c d u e scope cl tgt elt cx x (F x)) (h:∀ loc nx,cx.nx<nx→cx.nx∉cx.obj.map (·.1)→K ⟨loc,(cx.nx,.list (xs.map F)) :: cx.obj,nx,cx.fr⟩) :
  SpCl c d u (cEn e scope cl L) (.ListComp elt [⟨tgt,iter,[],0⟩] scope pos) 0 cx.nx xs cx.inC K:=by
 refine cl_ids fun hn=>?_
 have hn:cx.nx∉cx.obj.map (·.1):=(List.nodup_cons.mp (by simpa using hn)).1
 have z:=cl_loop (c:=c) (d:=d) (u:=u) (ec:=cEn e scope cl L) (k:=cx.nx) (turn1 elt tgt iter scope pos) (fun rest cx'=>∃ loc nx done,cx'=⟨loc,(cx.nx,.list (done.map F)) :: cx.obj,nx,cx.fr⟩∧cx.nx<nx∧done++rest=xs) (fun x rest cx' hI=>?_) (xs:=xs) (cx:=cx.inC) ⟨[],cx.nx+1,[],rfl,Nat.lt_succ_self _,rfl⟩
 ·refine z.mono fun cx' hc=>?_
  refine hide fun Go jo=>?_
  obtain ⟨loc,nx,done,rfl,e2,e3⟩:=hc
  refine jo ?_
  rw [List.append_nil] at e3; subst e3
  exact h loc nx e2 hn
 ·refine hide fun Go jo=>?_
  obtain ⟨loc,nx,done,rfl,hnx,hd⟩:=hI
  refine jo ?_
  have hm:x∈xs:=by rw [← hd]; simp
  refine (hx x hm L loc _ nx hnx fun i hi=>?_).mono fun cx' ⟨loc',e1,k1⟩=>?_
  ·rw [List.lookup_cons]
   have:(i==cx.nx)=false:=by simp; lia
   rw [this]
  ·refine b_emit (k1.mono fun v cx'' ⟨ev,nx'',hle,e2⟩=>?_)
   subst ev; subst e2
   refine ⟨_,lookup_head,?_,loc',nx'',done++[x],?_,by lia,by simp [hd]⟩
   ·rw [List.length_map]; have:=congrArg List.length hd; simp at this; lia
   ·rw [set_head hn]; simp
theorem sp_map {elt tgt iter:Expr} {scope:Scope} {pos:Pos} {cl:List (Str×Addr)} {F:SV→SV} {K:SV→Cx→Prop} (h100:100≤cx.nx)
  (h:SpIter c d u e iter cx fun xs cx1=>cx1=cx∧xs.length≤100000∧(∀ x∈xs,EltOk c d u e scope cl tgt elt cx x (F x))∧∀ nx,cx.nx<nx→K (.fl (xs.map F)) { cx with nx:=nx })
  (hcl:∀ L,closureFor scope (e.env L)=pure cl:=by intro L; with_unfolding_all rfl) (hs:∀ L x,foldedSetIterable iter (e.env L) x=pure x:=by intros; rfl) (ok:okScope scope=true:=by with_unfolding_all rfl) :
  Sp c d u (fun L=>eval (.ListComp elt [⟨tgt,iter,[],0⟩] scope pos) (e.env L)) VR cx K:=by
 refine sp_comp h (fun L xs cx1 hI=>?_) hcl hs ok
 refine hide fun Go jo=>?_
 obtain ⟨rfl,hz,hx,hk⟩:=hI
 refine jo ?_
 refine map_body h100 hz hx fun loc nx hnx hn=>⟨_,lookup_head,?_⟩
 have:Cx.outC cx1 ⟨loc,(cx1.nx,.list (xs.map F)) :: cx1.obj,nx,cx1.fr⟩ cx1.nx = { cx1 with nx:=nx }:=by
  simp only [Cx.outC,Cx.drop,List.filter_cons,bne_self_eq_false,Bool.false_eq_true,if_false,filter_same hn]
 rw [this]
 exact hk nx hnx
theorem ss_map {x:Str} {p spos:Pos} {elt tgt iter:Expr} {scope:Scope} {pos:Pos} {cl:List (Str×Addr)} {F:SV→SV} {K:Fl→Cx→Prop} (h100:100≤cx.nx)
  (h:SpIter c d u e iter cx fun xs cx1=>cx1=cx∧xs.length≤100000∧(∀ x∈xs,EltOk c d u e scope cl tgt elt cx x (F x))∧∀ nx,cx.nx<nx→K .next (Cx.put { cx with nx:=nx } x (.fl (xs.map F))))
  (hcl:∀ L,closureFor scope (e.env L)=pure cl:=by intro L; with_unfolding_all rfl) (hs:∀ L x,foldedSetIterable iter (e.env L) x=pure x:=by intros; rfl) (ok:okScope scope=true:=by with_unfolding_all rfl)
  (hsw:∀ L,swapsWith (.ListComp elt [⟨tgt,iter,[],0⟩] scope pos) (some (.Name x p)) spos.line (e.env L)=pure true:=by intro L; with_unfolding_all rfl) (hk:e.scope.kind = .function:=by rfl) (hl:e.scope.names.lookup x=some .local:=by rfl) :
  SpS c d u e (.Assign [.Name x p] (.ListComp elt [⟨tgt,iter,[],0⟩] scope pos) spos) cx K:=by
 refine ss_comp h (fun L xs cx1 hI=>?_) hcl hs ok hsw hk hl
 refine hide fun Go jo=>?_
 obtain ⟨rfl,hz,hx,hk⟩:=hI
 refine jo ?_
 refine map_body h100 hz hx fun loc nx hnx hn=>⟨_,lookup_head,?_⟩
 have:Cx.outC cx1 ⟨loc,(cx1.nx,.list (xs.map F)) :: cx1.obj,nx,cx1.fr⟩ cx1.nx = { cx1 with nx:=nx }:=by
  simp only [Cx.outC,Cx.drop,List.filter_cons,bne_self_eq_false,Bool.false_eq_true,if_false,filter_same hn]
 rw [this]
 exact hk nx hnx
end
structure NewOk (c:Cst) (C fN fI:Addr):Prop where
 obj:∃ oc od cd sl,c.K.lookup C=some ⟨oc,od,.cls cd,sl⟩∧cd.abstract=false∧cd.hasDel=false∧cd.mro.isEmpty=false
 made:∀ S,peek c.K S (Bind.madeBy (.ref C))=some none
 here:∀ S,peek c.K S (Bind.madeHere "object.__new__" (.ref C))=some ()
 chk:∀ S,peek c.K S (checkBuiltinCall "object.__new__" ⟨[.ref C],[]⟩)=some ()
 isT:∀ S,peek c.K S (isType (.ref C))=some true
 sub:mroIn c.K C (.ref C)=some true
 call:∀ S,peek c.K S (specialOf (.ref C) "__call__")=some (some (.builtin "type.__call__"))
 typ:∀ S,peek c.K S (isInstance (.ref C) (.type "type"))=some true
 rd:readsIn c.K C (.type "type")=true
 new:∃ p rest,findCls c.K (.ref C) (.type "type") "__new__" = some (.get (.builtin "staticmethod.__get__") (.ref p) .none (.ref C))∧recIn c.K p "staticmethod" = some (.ref fN :: rest)
 init:findIn c.K (.ref C) "__init__" = some (some (.ref fI))
 fn:typeIn c.K (.ref fI)=some (.type "function")
section
variable {c:Cst} {A:Around} {C fN fI:Addr} {R:Result→Shared→Prop} {s:Shared}
theorem make_N (O:NewOk c C fN fI) (X:c.K.In s.heap) {rest:List Value}
  (h:codeAny c.M (A.under (.builtin "type.__call__" ⟨.ref C :: rest,[]⟩)) (.call (.ref fN) ⟨.ref C :: rest,[]⟩) (fun r s1=>match r with
   | .ok (.ret v)=>∃ x ox,v = .ref x∧s1.heap.get? x=some ox∧ox.cls = .ref C∧c.K.In s1.heap∧codeAny c.M (A.under (.builtin "type.__call__" ⟨.ref C :: rest,[]⟩)) (.call (.ref fI) ⟨.ref x :: rest,[]⟩) (InitBack x R) s1
   | .ok _=>False
   | .error e=>R (.error e) s1) { s with toks:=s.toks+1 }):codeAny c.M A (.call (.ref C) ⟨rest,[]⟩) R s:=by
 refine hide fun Go jo=>?_
 obtain ⟨oc,od,cd,sl,hC,e1,e2,e4⟩:=O.obj
 obtain ⟨np,nr,n1,n2⟩:=O.new
 refine jo ?_
 have hC':=X _ _ hC
 have call:=Looks.of_peek (M:=c.M) X (O.call _)
 have typ:=Looks.of_peek (M:=c.M) X (O.typ _)
 have made:=Looks.of_peek (M:=c.M) X (O.made _)
 refine codeAny_of_tree ?_
 show wpAny _ _ (callAny (.ref C) _) _ _ _
 refine nd_load hC' ?_
 show wpAny _ _ (callAny.viaDunder (.ref C) _) _ _ _
 unfold callAny.viaDunder
 refine wpAny_bind (call.at ?_)
 dsimp only
 rw [tc_bind]
 refine wpAny_bind (wpAny_pure (wpAny_bind (wpAny_pure ?_)))
 refine wpAny_pure (a:=Fin.again (.call (.builtin "type.__call__") ⟨.ref C :: rest,[]⟩)) (And.intro rfl ?_)
 refine codeAny_call_builtin_at (Code.quiet_builtin _ (by decide +kernel)) entry_typeCall (check_slot tc_kind tc_split typ (tc_args _ _ _) ?_)
 unfold Builtin.«type.__call__»
 refine hide fun Go jo=>?_
 obtain ⟨hh,gg,dd,tt,oo⟩:=s
 refine jo ?_
 dsimp only at X hC' h
 have hm:Looks c.M hh (mroOf (.ref C)) cd.mro:=((Looks.ld (part:=none) hC').andThen .now).andThen .now
 repeat (first | with_reducible refine wp_f (by first | rfl | exact e4) ?_ | (refine cls_bind (s:=⟨hh,gg,dd,tt,oo⟩) X O.rd n1 (wpAny_call (sm_get (s:=⟨hh,gg,dd,tt+1,oo⟩) X n2 (handed_on rfl ?_)))) | with_reducible refine wpAny_call ?_ | lk | simp only [e4,Bool.false_eq_true,if_false])
 refine codeAny_mono h fun r s' z=>?_
 rcases r with e | (v | _ | _ | _) <;> first | exact z | exact z.elim | skip
 refine hide fun Go jo=>?_
 obtain ⟨x,ox,rfl,hx,hc,X1,z⟩:=z
 obtain ⟨hh,gg,dd,tt,oo⟩:=s'
 refine jo ?_
 dsimp only at X1 hx
 have t1:Looks c.M hh (typeOf (.ref x)) ox.cls:=(Looks.ld (part:=none) hx).andThen .now
 rw [hc] at t1
 have s1:Looks c.M hh (isSubtype (.ref C) (.ref C)) true:=looks_mroIn X1 O.sub
 have i1:=looks_findIn (M:=c.M) X1 O.init
 have b1:=bind_fn (M:=c.M) X1 (.ref x) O.fn
 unfold isInstance callSpecial? specialOf
 repeat (first | with_reducible refine wpAny_call ?_ | lk)
 refine codeAny_mono z fun r s' z=>?_
 rcases r with e | (v | _ | _ | _) <;> first | exact z | exact z.elim | skip
 obtain ⟨rfl,z⟩:=z
 exact wpAny_pure (wpAny_pure z)
end
section
variable {c:Cst} {d u:Nat} {cx:Cx} {C fN fI f:Addr} {fd:FuncData} {en:En} {body:List Stmt} {xs:List SV} {K:SV→Cx→Prop} {loc:List (Str×SV)} {obs:List (Nat×SO)}
theorem mk_new (i:Nat) (O:NewOk c C fN fI) (h:SpKc c (d+1) (u+1) (.ref fN) (.g (.ref C) :: xs) [] cx fun v cx1=>v = .ref i∧(∃ fs,cx1.obj.lookup i=some (.inst C fs)) ∧
   SpKc c (d+1) (u+1) (.ref fI) (.ref i :: xs) [] cx1 fun v cx2=>v = .none∧K (.ref i) cx2):SpC c d u (.ref C) xs cx K:=by
 intro fx g am L s vs r hv
 have z:=h fx g am L { s with toks:=s.toks+1 } (.ref C :: vs) [] r.toks (.cons (.g _) hv) .nil
 refine wpAny_call (make_N O (r.top.X.keeps r.sub) ?_)
 refine codeAny_mono (car_le z rfl (Nat.le_refl _) (Nat.le_refl _)) fun res s1 q=>?_
 rcases res with e | (v | _ | _ | _) <;> first | exact q | exact q.elim | skip
 refine hide fun Go jo=>?_
 obtain ⟨g1,am1,cx1,w,l1,a1,r1,q1,rfl,⟨fs,hi⟩,k⟩:=q
 obtain ⟨a,rest,rfl,ha,hm,lay⟩:=r1.at hi q1
 obtain ⟨a',dd,es,n,e0,e1,e2,e3⟩:=lay
 cases e0
 refine jo ?_
 refine ⟨a,_,rfl,e1,rfl,r1.top.X.keeps r1.sub,?_⟩
 have z2:=k fx g1 am1 L s1 (.ref a :: vs) [] r1 (.cons q1 (hv.mono l1 a1)) .nil
 refine codeAny_mono (car_le z2 rfl (Nat.le_refl _) (Nat.le_refl _)) fun res s2 q=>?_
 rcases res with e | (v | _ | _ | _) <;> first | exact q | exact q.elim | skip
 refine hide fun Go jo=>?_
 obtain ⟨g2,am2,cx2,w,l2,a2,r2,q2,rfl,k2⟩:=q
 cases q2 using VR.noneE
 refine jo ?_
 exact ⟨rfl,g2,am2,cx2,.ref i,l1.trans l2,a1.trans a2,r2,q1.mono l2 a2,k2⟩
theorem fn_va {x:SV} {nm:Str} (F:Fn c f fd en body) (hd:d<1000) (hb:∀ vs:List Value,vs.length=xs.length+1→∃ t1 t2:Obj,bindArgs fd ⟨vs,[]⟩=(alloc t1 >>= fun T=>alloc t2 >>= fun D=>pure [(nm,vs.headD .none),("args",.ref T),("kwargs",.ref D)]))
  (hl:fd.scope.names.lookup nm=some .local∧fd.scope.names.lookup ("args":Str)=some .local∧fd.scope.names.lookup ("kwargs":Str)=some .local) (hne:nm≠"args"∧nm≠"kwargs")
  (hsub:obs.Sublist cx.obj) (hlo:∀ p∈obs,p.1<100∧p.2.lo=true) (hlos:x.lo=true)
  (h:Sp c (d+1) (u+3) (fun L=>execs body (en.env L)) FlR ⟨[(nm,x)],obs,100,cx.fr⟩ fun fl cx'=>Back cx obs K fl.val cx'):SpKc c d u (.ref f) (x :: xs) [] cx K:=by
 intro fx g am L s vs ks r hv hkv
 refine hide fun Go jo=>?_
 cases hkv using VRs.nilE
 obtain ⟨oc,od,sl,ho⟩:=F.obj
 refine jo ?_
 cases hv using VRs.consE with
 | mk _ _ hx hv =>
 rename_i v vs
 obtain ⟨t1,t2,e⟩:=hb (v :: vs) (by rw [List.length_cons,hv.length])
 have X:=r.top.X.keeps r.sub
 have r1:=(r.push t1 (t:=s.toks)).push t2 (t:=s.toks)
 refine codeAny_call_function hd (X _ _ ho) rfl F.co F.gen F.body (codeRec_of X F.code) ?_
 rw [show (⟨v :: vs,(List.map (fun x=>x.1) ([]:List (Str×SV))).zip []⟩:Args)=⟨v :: vs,[]⟩ from rfl,e]
 refine wpAny_bind (wpAny_alloc (wpAny_bind (wpAny_alloc (wpAny_pure ?_))))
 refine wpAny_newFunctionEnv F.cell (fun y hy=>?_) (fun h₀ hns₀ hsb₀=>⟨Heap.NoLimit.fresh (r.top.lim.keeps r1.sub) _ hsb₀,codeAny_func ?_⟩) F.kind
 ·simp at hy
  rcases hy with rfl | rfl | rfl
  ·exact hl.1
  ·exact hl.2.1
  ·exact hl.2.2
 ·have hle:Le ((s.heap.push t1).push t2) h₀:=fun b o e=>hsb₀.extBut b o (Nat.ne_of_lt (Heap.lt_size e)) (Heap.get?_push_of_some _ e)
  have en0:=F.env ((s.heap.push t1).push t2).objs.size
  rw [show newEnv fd.scope ((s.heap.push t1).push t2).objs.size fd.globals fd.closure (fd.qualname ++ ".<locals>.") (some f) fd.code none fd.builtins=en.env ((s.heap.push t1).push t2).objs.size from en0]
  have R:=r1.enter hsub hlo (t:=s.toks+3) hns₀ hle (loc:=[(nm,x)]) fun y sv e=>by
   simp only [List.lookup] at e
   split at e
   ·rename_i q
    cases e
    have:=beq_iff_eq.mp q
    subst this
    refine ⟨v,?_,hx.low (fun i x hi e=>Am.low_at hi e) hlos⟩
    have h1:(y==("kwargs":Str))=false:=beq_eq_false_iff_ne.mpr hne.2
    have h2:(y==("args":Str))=false:=beq_eq_false_iff_ne.mpr hne.1
    simp [List.lookup,h1,h2]
   ·cases e
  refine wpAny_mono (ar_le (h _ _ _ _ _ R) rfl (Nat.le_refl _) (Nat.le_refl _)) (fun fl s' hq=>?_) fun _ _ x=>x.elim
  refine hide fun Go jo=>?_
  obtain ⟨g',amc,cx',x,hg,ha,r',q,obs',news,hids,hob,hnew,hnd,hfr,vlo,k⟩:=hq
  obtain ⟨R',le⟩:=r1.leave hsub hlo hg ha r' hids hob hnew hnd hfr
  refine jo ?_
  have z:VR g' (am.back amc (obs.map (·.1))) x.val (flV fl):=q.val.low (fun i a hi e=>Am.back_lo ha hi e) vlo
  cases fl <;> exact ⟨g',_,_,x.val,hg,le,R',z,k⟩
theorem c_onew (i:Nat) (O:NewOk c C fN fI) (hfr:i∈cx.fr) (h:K (.ref i) (cx.addAt i (.inst C []))):SpC c d u (.builtin "object.__new__") [.g (.ref C)] cx K:=by
 intro fx g am L s vs r hv
 cases hv using VRs.consE with
 | mk _ _ hx hv =>
 cases hx using VR.gE
 cases hv using VRs.nilE
 have X:=r.top.X.keeps r.sub
 have le:=Am.set_le am [s.heap.objs.size+1,s.heap.objs.size] (r.free i hfr).2
 have r1:Rep c fx g (am.set i [s.heap.objs.size+1,s.heap.objs.size]) L (cx.addAt i (.inst C [])) { s with heap:=(s.heap.push emptyDict).push (instObj C s.heap.objs.size) }:=by
  refine r.allocAt (t:=s.toks) hfr (two_le _ _ _) (by rw [push_size,push_size]; lia) (fun b hb=>?_) (fun a ha=>?_) ?_ ⟨_,_,[],0,rfl,by heap_get,by heap_get,.nil⟩
  ·have:=r.owned_lt b hb
   rw [Heap.get?_push_ne _ _ _ (by rw [push_size]; exact Nat.ne_of_lt (Nat.lt_succ_of_lt this)),Heap.get?_push_ne _ _ _ (Nat.ne_of_lt this)]
  ·simp at ha
   rcases ha with rfl | rfl
   ·exact Nat.le_succ _
   ·exact Nat.le_refl _
  ·simp
 refine wpAny_call ?_
 refine hide fun Go jo=>?_
 obtain ⟨oc,od,cd,sl,hC,e1,e2,e4⟩:=O.obj
 have chk:=Looks.of_peek (M:=c.M) X (O.chk _)
 have here:=Looks.of_peek (M:=c.M) X (O.here _)
 have isT:=Looks.of_peek (M:=c.M) X (O.isT _)
 obtain ⟨hh,gg,dd,tt,oo⟩:=s
 refine jo ?_
 have hC':=X _ _ hC
 dsimp only at hC' chk here isT X
 refine codeAny_call_builtin_code (Code.quiet_builtin _ PySem.F.objNew.quiet) (chk.at ?_)
 refine codeAny_builtin PySem.F.objNew.entry ?_
 unfold Builtin.«object.__new__»
 repeat (first | with_reducible refine wp_f (by first | rfl | exact e1) ?_ | lk | simp only [e1,Bool.false_eq_true,if_false,Bool.not_true])
 refine wpAny_load (Heap.get?_push_of_some _ (Heap.get?_push_of_some _ hC')) ?_
 dsimp only
 rw [e2]
 refine wpAny_pure ?_
 first | (with_reducible refine wp_neg ?_ ?_; · exact (by decide)) | rw [if_neg (by decide)]
 refine wpAny_pure (wpAny_pure ?_)
 refine ⟨g,_,_,.ref i,.refl _,le,r1,?_,h⟩
 rw [Heap.size_push]
 exact .ref (Am.at_set ..)
end
noncomputable def ionew_d:{ x:Df // defAt ["IOBase","__new__"] prg=some x }:=⟨_,rfl⟩
noncomputable def sinit_d:{ x:Df // defAt ["StringIO","__init__"] prg=some x }:=⟨_,rfl⟩
noncomputable def strans_d:{ x:Df // defAt ["StringIO","__translated"] prg=some x }:=⟨_,rfl⟩
structure SioFacts2 (c:Cst):Prop where
 newF:FnK c 251 ionew_d.1 "__new__" "IOBase.__new__" .none 250 []
 newO:NewOk c 758 251 528
 bytesN:nsIn c.K mainGlobals "BytesIO" = some (some (.ref 511))
 sioN:nsIn c.K mainGlobals "StringIO" = some (some (.ref 758))
 sioT:typeIn c.K (.ref 758)=some (.type "type")
 bytesT:typeIn c.K (.ref 511)=some (.type "type")
 sioK:keepIn c.K (.ref 758)=true
 objN:nsIn c.K mainGlobals "object" = some none
 strN:nsIn c.K mainGlobals "str" = some none
 init:FnK c 528 sinit_d.1 "__init__" "StringIO.__init__" (.ref 521) 527 []
 initD:∃ t t',DfOk c 521 #[.str "" t,.str "\n" t']
 trans:FnK c 535 strans_d.1 "__translated" "StringIO.__translated" .none 534 []
 mTrans:MethOk c 758 "_StringIO__translated" 535
 kTrans:keepIn c.K (.ref 535)=true
 gNew:GetOk c 758 "_StringIO__newline"
 sNew:SetOk c 758 "_StringIO__newline"
 sPos:SetOk c 758 "_StringIO__pos"
 sBuf:SetOk c 758 "_StringIO__buf"
section
variable {c:Cst} {d u:Nat} {cx:Cx} {K:SV→Cx→Prop}
theorem o_isnR {a b:Addr} {K:SV→Cx→Prop} (hab:a≠b) (ha:typeIn c.K (.ref a)=some (.type "type")) (hb:(typeIn c.K (.ref b)).isSome=true) (h:K (.bool true) cx):Sp2 c d u (fun x y=>compareOp .IsNot x y) VR (.g (.ref a)) (.g (.ref b)) cx K:=fun _ _ _ _ s _ _ R q q'=>by
 cases q using VR.gE; cases q' using VR.gE
 have X:=R.top.X.keeps R.sub
 refine hide fun Go jo=>?_
 obtain ⟨oa,ea,ta⟩:=Option.map_eq_some_iff.mp ha
 obtain ⟨tb,eb⟩:=Option.isSome_iff_exists.mp hb
 obtain ⟨ob,eb,_⟩:=Option.map_eq_some_iff.mp eb
 refine jo ?_
 exact wpAny_isNot_ref_other hab (X _ _ ea) (X _ _ eb) (by rw [ta]; decide) (Ends.here R (.bool _) h)
theorem o_isnS {a:Addr} {K:SV→Cx→Prop} (h:K (.bool false) cx):Sp2 c d u (fun x y=>compareOp .IsNot x y) VR (.g (.ref a)) (.g (.ref a)) cx K:=fun _ _ _ _ _ _ _ R q q'=>by
 cases q using VR.gE; cases q' using VR.gE
 exact wpAny_isNot_ref_self (Ends.here R (.bool _) h)
theorem obj_new (K:Frag):findCls K (.type "object") (.type "type") "__new__" = some (.val (.builtin "object.__new__")):=by rfl
theorem m_onew {K:Value×List SV→Cx→Prop} (h:K (.builtin "object.__new__",[]) cx):SpM c d u "__new__" (.g (.type "object")) cx K:=by
 intro pl fx g am L s v r hv
 cases hv using VR.gE
 have X:=r.top.X.keeps r.sub
 have L0:Looks c.M s.heap (typeOf (.type "object")) (.type "type"):=Looks.of_pure (by rfl)
 have hg:findIn c.K (.type "type") "__getattribute__" = some (some (.builtin "type.__getattribute__")):=type_tga
 unfold getMethod specialOf
 refine wpAny_bind (wpAny_bind (L0.here ((looks_findIn X hg).here ?_)))
 dsimp only
 first | (with_reducible refine wp_pos ?_ ?_; · exact canon_tga) | rw [if_pos canon_tga]
 refine wpAny_bind ?_
 have LO:Looks c.M s.heap (opaqueClassAbove (.type "object")) none:=Looks.of_pure (by rfl)
 refine cls_open X LO L0 hg (looks_hook X (r:=none) (by rfl)) (by rfl) (obj_new c.K) (wpAny_pure ?_)
 show wpAny _ _ (handedOut (.builtin "object.__new__")) _ _ _
 rw [handedOut_of (by decide +kernel)]
 exact wpAny_pure (wpAny_pure (Ends.here r.toks ⟨rfl,.nil⟩ h))
variable (S:SioFacts2 c)
include S
theorem ionew_c (hd:d<990) {x:SV} (hfr:4∈cx.fr) (h:K (.ref 4) (cx.upd [] [(4,.inst 758 [])] (cx.fr.filter fun j=>j != 4))):SpKc c d u (.ref 251) [.g (.ref 758),x] [] cx K:=by
 refine hide fun Go jo=>?_
 obtain ⟨doc,pm,an,ct,F⟩:=S.newF.fn (by rfl)
 refine jo ?_
 refine fn_va (nm:="cls") F (by exact aR ‹_› rfl) (fun vs hv=>?_) ⟨rfl,rfl,rfl⟩ (by decide) (List.nil_sublist cx.obj) lo_nil rfl ?_
 ·refine hide fun Go jo=>?_
  obtain ⟨a,b,rfl⟩:=len2 hv
  refine jo ?_
  exact ⟨_,_,rfl⟩
 ·refine ss_cons (ss_if (st_and (st_cmp (sp_name rfl (sp_glob S.bytesN (o_isnR (by decide) S.sioT (by rw [S.bytesT]; rfl) ⟨_,rfl,ite_t rfl ?_⟩))))))
  refine st_and (st_cmp (sp_name rfl (sp_glob S.sioN (o_isnS ⟨_,rfl,ite_f (by decide) (ite_f (by decide) (ss_nil ?_))⟩))))
  refine ss_cons (ss_ret (sp_meth (sp_bltn (v:=.type "object") S.objN (by decide +kernel) (m_onew ⟨.inl ⟨_,rfl⟩,sp_name rfl (c_onew 4 S.newO hfr ?_)⟩))))
  refine Back.mkN [] [(4,.inst 758 [])] rfl (ob_cons rfl (by decide) rfl ob_nil) ?_ (by decide) (fun i hi=>(List.mem_filter.mp hi).1) rfl h
  intro p hp
  simp only [List.mem_cons,List.not_mem_nil,or_false] at hp
  subst hp; exact hfr
theorem strans_c (hd:d<990) {x y:Str} {k:Int} (hi:cx.obj.lookup 4=some (sioO x k)) (h:K (.str y) (cx.upd [(4,sioO x k)] [] cx.fr)):SpC c d u (.ref 535) [.ref 4,.str y] cx K:=by
 refine fn_pos (obs:=[(4,sioO x k)]) ["self","s"] S.trans (by exact aR ‹_› rfl) (fun name qual doc pm an cd ct cl vs hv=>?_) (by rfl) (by decide) (by rfl) (List.singleton_sublist.mpr (mem_of_lookup hi)) (one_obj (by decide) rfl) (by rfl) ?_
 ·refine hide fun Go jo=>?_
  obtain ⟨a,b,rfl⟩:=len2 hv
  refine jo ?_
  rfl
 ·refine ss_cons (ss_assign (sp_attr (sp_name rfl (at_get rfl rfl S.gNew rfl rfl ?_))))
  refine ss_cons (ss_if (st_cmp (sp_name rfl (sp_none (o_isn (by intro w h; cases h) ⟨_,rfl,ite_f (by intro h; cases h) (ss_nil ?_)⟩)))))
  refine ss_cons (ss_if (st_or (st_cmp (sp_name rfl (sp_str (o_eqs ⟨_,rfl,ite_f (by decide) ?_⟩))))))
  refine st_or (st_cmp (sp_name rfl (sp_str (o_eqs ⟨_,rfl,ite_f (by decide) (st_or_nil (ite_f (by decide) (ss_nil ?_)))⟩))))
  exact ss_cons (ss_ret (sp_name rfl (Back.one (so':=sioO x k) rfl (by decide) rfl rfl rfl h)))
theorem sinit_c (hd:d<980) {x:Str} (hi:cx.obj.lookup 4=some (.inst 758 [])) (h:K .none (cx.upd [(4,sioO x 0)] [] cx.fr)) (hty:nsIn c.K mainGlobals "type" = some none):SpKc c d u (.ref 528) [.ref 4,.str x] [] cx K:=by
 obtain ⟨t,t',hD⟩:=S.initD
 refine fn_dfltC (obs:=[(4,.inst 758 [])]) (exS:=[.str "\n"]) (ex:=[.str "\n" t']) ["self","initial_value","newline"] S.init (by exact aR ‹_› rfl) hD (fun name qual doc pm an cd ct cl vs hv=>?_) (fun _ _=>.cons (.str _ _) .nil) (by rfl) (by decide) (by rfl) (List.singleton_sublist.mpr (mem_of_lookup hi)) (one_obj (by decide) rfl) (by rfl) ?_
 ·refine hide fun Go jo=>?_
  obtain ⟨a,b,rfl⟩:=len2 hv
  refine jo ?_
  exact ⟨_,rfl,rfl⟩
 ·refine ss_cons (ss_if (st_and (st_cmp (sp_name rfl (sp_none (o_isnn (by intro w h; cases h) ⟨_,rfl,ite_t rfl ?_⟩))))))
  refine st_and (st_cmp (sp_call (sp_bltn (v:=.type "type") hty (by decide +kernel) ⟨_,rfl,.inr (.inl ⟨_,rfl⟩),sp_name rfl (c_typeS (sp_bltn (v:=.type "str") S.strN (by decide +kernel) (o_isnT ⟨_,rfl,ite_f (by decide) (ite_f (by decide) (ss_nil ?_))⟩)))⟩)))
  refine ss_cons (ss_if (st_and (st_cmp (sp_name rfl (sp_none (o_isnn (by intro w h; cases h) ⟨_,rfl,ite_t rfl ?_⟩))))))
  refine st_and (st_cmp (sp_name rfl (sp_str (o_nes ⟨_,rfl,ite_t (by decide) ?_⟩))))
  refine st_and (st_cmp (sp_name rfl (sp_str (o_nes ⟨_,rfl,ite_f (by decide) (ite_f (by decide) (ss_nil ?_))⟩))))
  refine ss_cons (ss_if (st_and (st_cmp (sp_name rfl (sp_none (o_isnn (by intro w h; cases h) ⟨_,rfl,ite_t rfl ?_⟩))))))
  refine st_and (st_cmp (sp_call (sp_bltn (v:=.type "type") hty (by decide +kernel) ⟨_,rfl,.inr (.inl ⟨_,rfl⟩),sp_name rfl (c_typeS (sp_bltn (v:=.type "str") S.strN (by decide +kernel) (o_isnT ⟨_,rfl,ite_f (by decide) (ite_f (by decide) (ss_nil ?_))⟩)))⟩)))
  refine ss_cons (ss_seta (sp_name rfl (sp_name rfl (at_set rfl rfl S.sNew (show (0:Nat)<1000 by decide) ?_))))
  refine ss_cons (ss_seta (sp_str (sp_name rfl (at_set rfl rfl S.sBuf (show (1:Nat)<1000 by decide) ?_))))
  refine ss_cons (ss_seta (sp_int (sp_name rfl (at_set rfl rfl S.sPos (show (2:Nat)<1000 by decide) ?_))))
  refine ss_cons (ss_if (st_cmp (sp_name rfl (sp_none (o_isnn (by intro w h; cases h) ⟨_,rfl,ite_t rfl ?_⟩)))))
  refine ss_cons (ss_seta (sp_meth (sp_name rfl (at_meth rfl rfl S.mTrans rfl ⟨.inr (.inr S.kTrans),sp_name rfl ?_⟩))))
  refine strans_c S (d:=d+1) (x:="") (k:=0) (by exact aS ‹_› rfl) rfl (sp_name rfl (at_set rfl rfl S.sBuf (show (3:Nat)<1000 by decide) (ss_nil (ss_nil ?_))))
  exact Back.one (so':=sioO x 0) rfl (by decide) rfl rfl rfl h
theorem sio_make (hd:d<970) (hty:nsIn c.K mainGlobals "type" = some none) {x:Str} (hfr:4∈cx.fr) (h:∀ cx',cx'=(cx.upd [] [(4,.inst 758 [])] (cx.fr.filter fun j=>j != 4)).upd [(4,sioO x 0)] [] (cx.fr.filter fun j=>j != 4)→K (.ref 4) cx'):SpC c d u (.ref 758) [.str x] cx K:=by
 refine mk_new 4 S.newO ?_
 refine ionew_c S (by exact aS ‹_› rfl) hfr ⟨rfl,⟨[],?_⟩,?_⟩
 ·simp [Cx.upd]
 ·exact sinit_c S (by exact aS ‹_› rfl) (by simp [Cx.upd]) ⟨rfl,h _ rfl⟩ hty
end
section
variable {c:Cst} {d u:Nat} {e:En} {cx:Cx} {pos:Pos}
theorem owned_perm {am:Am} {a b:List (Nat×SO)} (h:a.Perm b):(owned am a).Perm (owned am b):=h.flatMap_right _
theorem Rep.perm {fx:Fx} {g:Heap} {am:Am} {L:Addr} {s:Shared} {loc:List (Str×SV)} {a b:List (Nat×SO)} {nx:Nat} {fr:List Nat} (r:Rep c fx g am L ⟨loc,a,nx,fr⟩ s) (h:a.Perm b):Rep c fx g am L ⟨loc,b,nx,fr⟩ s:=by
 have ho:=(owned_perm (am:=am) h).cons L
 exact ⟨r.sub,r.top,r.fr,fun p hp=>r.lay p (h.mem_iff.mpr hp),ho.nodup_iff.mp r.nd,(h.map _).nodup_iff.mp r.idnd,fun b hb=>r.out b (ho.mem_iff.mpr hb),r.lo,r.nx,r.free,r.frm,fun b hb=>r.frout b (ho.mem_iff.mpr hb),r.new,r.hiN,r.szN,r.gens,r.os,r.frg,r.NL⟩
theorem sp_perm {α β:Type} {t:Addr→Sem α} {R:Heap→Am→β→α→Prop} {K:β→Cx→Prop} {loc:List (Str×SV)} {a b:List (Nat×SO)} {nx:Nat} {fr:List Nat} (h:a.Perm b) (k:Sp c d u t R ⟨loc,b,nx,fr⟩ K):Sp c d u t R ⟨loc,a,nx,fr⟩ K :=
 fun fx g am L s r=>k fx g am L s (r.perm h)
theorem sp_callK {func x kv:Expr} {es:List Expr} {kn:Str} {kp:Pos} {K:SV→Cx→Prop} (h:Sp c d u (fun L=>eval func (e.env L)) VR cx fun f cx1=>∃ v,f = .g v∧keepIn c.K v=true∧SpArgs c d u e (x :: es) cx1 fun ys cx2=>Sp c d u (fun L=>eval kv (e.env L)) VR cx2 fun w cx3=>SpK c d u v ys [(kn,w)] cx3 K)
  (hs:noStars (x :: es)=true:=by rfl)
  (he:∀ L,eval (.Call func (x :: es) [⟨some kn,kv,kp⟩] pos) (e.env L)=(do callWith pos (← eval func (e.env L)) [] (backTo pos (starEach (x :: es) (e.env L))) (backToKw pos (keywordEach [⟨some kn,kv,kp⟩] (e.env L)))):=by intro L; rfl) :
  Sp c d u (fun L=>eval (.Call func (x :: es) [⟨some kn,kv,kp⟩] pos) (e.env L)) VR cx K:=fun fx g am L s R=>by
 dsimp only
 rw [he L]
 refine wpAny_bind (step (h fx g am L s R) fun v _ g1 am1 cx1 w l1 a1 r1 q1 k1=>?_)
 ·refine hide fun Go jo=>?_
  obtain ⟨f,rfl,hf,k⟩:=k1
  cases q1 using VR.gE
  refine jo ?_
  refine wup l1 a1 (callWith_KW (r1.top.X.keeps r1.sub) hf rfl (step (SpArgs.spliced (pos:=pos) hs k _ _ _ L _ r1) fun vs _ g2 am2 cx2 ys l2 a2 r2 q2 k2=>?_) (by rw [backTo_plain hs]; rfl) (starEach_cons (env:=e.env L) hs).1)
  refine kwAll_cons (step (k2 _ _ _ L _ r2) fun kw _ g3 am3 cx3 y l3 a3 r3 q3 k3=>kwAll_nil ⟨r3.top.X.keeps r3.sub,?_⟩)
  exact wup (l2.trans l3) (a2.trans a3) (k3 _ _ _ L _ vs [kw] r3 (q2.mono l3 a3) (.cons q3 .nil))
noncomputable def DKw (dd:Df) (T:Addr) (dvs:Array Value) (names:List Str) (n:Nat) (kn:Str) (out:List Value→Value→List Value):Prop:=∀ name qual doc pm an cd ct cl (vs:List Value) (kv:Value),vs.length=n→∃ k,bindArgs (fdOf name qual dd (.ref T) doc pm an cd ct cl) ⟨vs,[(kn,kv)]⟩=seqItems? (.ref T) >>= k∧k (some dvs)=pure (names.zip (out vs kv))
theorem fn_dkwC {f cd T:Addr} {dd:Df} {name qual:Str} {cl:List (Str×Addr)} {xs ys:List SV} {y:SV} {kn:Str} {K:SV→Cx→Prop} {obs:List (Nat×SO)} {dvs:Array Value} (names:List Str) {out:List Value→Value→List Value}
  (F:FnK c f dd name qual (.ref T) cd cl) (hd:d<1000) (hT:DfOk c T dvs) (hb:DKw dd T dvs names xs.length kn out) (ho:∀ g am vs kv,VRs g am xs vs→VR g am y kv→VRs g am ys (out vs kv))
  (hn:names.all (fun n=>decide (dd.2.2.names.lookup n=some .local))=true) (hnd:names.Nodup)
  (hp:plainDf dd=true) (hsub:obs.Sublist cx.obj) (hlo:∀ p∈obs,p.1<100∧p.2.lo=true) (hlos:SV.los ys=true)
  (h:SpSs c (d+1) (u+3) (enOf f dd qual cd cl) dd.2.1 ⟨names.zip ys,obs,100,cx.fr⟩ fun fl cx'=>Back cx obs K fl.val cx'):SpKc c d u (.ref f) xs [(kn,y)] cx K:=by
 refine hide fun Go jo=>?_
 obtain ⟨doc,pm,an,ct,F⟩:=F.fn hp
 refine jo ?_
 refine fn_callKc F hd (fun g am s vs ks Tp le hv hk=>?_) hsub hlo (los_zip hlos) h
 cases hk using VRs.consE with
 | mk _ _ h1 h2 =>
 refine hide fun Go jo=>?_
 cases h2 using VRs.nilE
 rename_i kv
 obtain ⟨k,h1',h2'⟩:=hb name qual doc pm an cd ct cl vs kv hv.length.symm
 obtain ⟨oc,od,kk,sl,hT⟩:=hT
 refine jo ?_
 have X:=Tp.X.keeps le
 refine ⟨names.zip (out vs kv),BindsTo.of_defaults rfl (X _ _ hT) rfl h1' h2',fun z hz=>of_decide_eq_true (List.all_eq_true.mp hn _ (List.of_mem_zip (a:=z.1) (b:=z.2) hz).1),fun x sv e=>?_⟩
 obtain ⟨v,a,b⟩:=(ho g am vs kv hv h1).zip e
 exact ⟨v,lookup_rev hnd a,b⟩
end
noncomputable abbrev lexNames:List Str:=["instream","infile","posix","eof","commenters","wordchars","whitespace","whitespace_split","quotes","escape","escapedquotes","state","pushback","lineno","debug","token","filestack","source","_punctuation_chars"]
structure LexFacts3 (c:Cst):Prop where
 init:FnK c 817 linit_d.1 "__init__" "shlex.__init__" (.ref 810) 816 []
 initD:DfOk c 810 #[.none,.none,.bool false,.bool false]
 make:makesIn c.K 893=true
 initF:findIn c.K (.ref 893) "__init__" = some (some (.ref 817))
 initT:typeIn c.K (.ref 817)=some (.type "function")
 sets:∀ (i:Nat) (n:Str),lexNames[i]? = some n→SetOk c 893 n
 isN:nsIn c.K mainGlobals "isinstance" = some none
 dqN:nsIn c.K mainGlobals "deque" = some (some (.type "collections.deque"))
noncomputable abbrev lexF (n:Nat):SO:=.inst 893 (([("instream",.ref 4),("infile",.none),("posix",.bool true),("eof",.none),("commenters",.str "#"),("wordchars",.str wordcs),("whitespace",.str " \t\r\n"),("whitespace_split",.bool false),("quotes",.str "'\""),("escape",.str "\\"),("escapedquotes",.str "\""),("state",.str " "),("pushback",.ref 5),("lineno",.int 1),("debug",.int 0),("token",.str ""),("filestack",.ref 6),("source",.none),("_punctuation_chars",.str "")]:List (Str×SV)).take n)
noncomputable abbrev liEn:En:=enOf 817 linit_d.1 "shlex.__init__" 816 []
section
variable {c:Cst} {d u:Nat} (Z:LexFacts3 c)
include Z
theorem shlex_end {x:Str} {fr:List Nat} {Kf:Fl→Cx→Prop} (h5:5∈fr) (h6:6∈fr)
  (h:Kf .next ⟨[("self",.ref 3),("instream",.ref 4),("infile",.none),("posix",.bool true),("punctuation_chars",.str "")],[(6,.deq []),(5,.deq []),(4,sioO x 0),(3,lexF 19)],100,(fr.filter fun j=>j != 5).filter fun j=>j != 6⟩) :
  SpSs c d u liEn (linit_d.1.2.1.drop 12) ⟨[("self",.ref 3),("instream",.ref 4),("infile",.none),("posix",.bool true),("punctuation_chars",.bool false)],[(4,sioO x 0),(3,lexF 11)],100,fr⟩ Kf:=by
 refine ss_cons (ss_seta (sp_str (sp_name rfl (at_set rfl rfl (Z.sets 11 _ rfl) (show (11:Nat)<1000 by decide) ?_))))
 refine ss_cons (ss_seta (sp_call (sp_glob Z.dqN ⟨_,rfl,.inr (.inl ⟨_,rfl⟩),c_deq 5 h5 (sp_name rfl (at_set rfl rfl (Z.sets 12 _ rfl) (show (12:Nat)<1000 by decide) ?_))⟩)))
 refine ss_cons (ss_seta (sp_int (sp_name rfl (at_set rfl rfl (Z.sets 13 _ rfl) (show (13:Nat)<1000 by decide) ?_))))
 refine ss_cons (ss_seta (sp_int (sp_name rfl (at_set rfl rfl (Z.sets 14 _ rfl) (show (14:Nat)<1000 by decide) ?_))))
 refine ss_cons (ss_seta (sp_str (sp_name rfl (at_set rfl rfl (Z.sets 15 _ rfl) (show (15:Nat)<1000 by decide) ?_))))
 refine ss_cons (ss_seta (sp_call (sp_glob Z.dqN ⟨_,rfl,.inr (.inl ⟨_,rfl⟩),c_deq 6 (mem_filt h6 (by decide)) (sp_name rfl (at_set rfl rfl (Z.sets 16 _ rfl) (show (16:Nat)<1000 by decide) ?_))⟩)))
 refine ss_cons (ss_seta (sp_none (sp_name rfl (at_set rfl rfl (Z.sets 17 _ rfl) (show (17:Nat)<1000 by decide) ?_))))
 refine ss_cons (ss_if (st_not (st_val (sp_name rfl (tr_bool (ite_t rfl (ss_cons (ss_assign (sp_str (ss_nil ?_))))))))))
 refine ss_cons (ss_seta (sp_name rfl (sp_name rfl (at_set rfl rfl (Z.sets 18 _ rfl) (show (18:Nat)<1000 by decide) ?_))))
 refine ss_cons (ss_if (st_val (sp_name rfl (tr_str (by decide) (ite_f (by decide) (ss_nil (ss_nil ?_)))))))
 exact h
end
section
variable {c:Cst} {d u:Nat} (X:LexFacts c) (Z:LexFacts3 c)
include X Z
theorem shlex_mid {x:Str} {fr:List Nat} {Kf:Fl→Cx→Prop} (h5:5∈fr) (h6:6∈fr)
  (h:Kf .next ⟨[("self",.ref 3),("instream",.ref 4),("infile",.none),("posix",.bool true),("punctuation_chars",.str "")],[(6,.deq []),(5,.deq []),(4,sioO x 0),(3,lexF 19)],100,(fr.filter fun j=>j != 5).filter fun j=>j != 6⟩) :
  SpSs c d u liEn (linit_d.1.2.1.drop 5) ⟨[("self",.ref 3),("instream",.ref 4),("infile",.none),("posix",.bool true),("punctuation_chars",.bool false)],[(4,sioO x 0),(3,lexF 5)],100,fr⟩ Kf:=by
 refine ss_cons (ss_seta (sp_str (sp_name rfl (at_set rfl rfl (Z.sets 5 _ rfl) (show (5:Nat)<1000 by decide) ?_))))
 refine ss_cons (ss_if (st_val (sp_attr (sp_name rfl (at_get rfl rfl X.gPosix rfl rfl (tr_bool (ite_t rfl ?_)))))))
 refine ss_cons (ss_auga (sp_name rfl (at_get rfl rfl X.gWord rfl rfl (sp_str (o_iadds (by decide) (at_set rfl rfl (Z.sets 5 _ rfl) (show (6:Nat)<1000 by decide) (ss_nil ?_)))))))
 refine ss_cons (ss_seta (sp_str (sp_name rfl (at_set rfl rfl (Z.sets 6 _ rfl) (show (6:Nat)<1000 by decide) ?_))))
 refine ss_cons (ss_seta (sp_bool (sp_name rfl (at_set rfl rfl (Z.sets 7 _ rfl) (show (7:Nat)<1000 by decide) ?_))))
 refine ss_cons (ss_seta (sp_str (sp_name rfl (at_set rfl rfl (Z.sets 8 _ rfl) (show (8:Nat)<1000 by decide) ?_))))
 refine ss_cons (ss_seta (sp_str (sp_name rfl (at_set rfl rfl (Z.sets 9 _ rfl) (show (9:Nat)<1000 by decide) ?_))))
 refine ss_cons (ss_seta (sp_str (sp_name rfl (at_set rfl rfl (Z.sets 10 _ rfl) (show (10:Nat)<1000 by decide) ?_))))
 exact shlex_end Z h5 h6 h
end
section
variable {c:Cst} (S:SioFacts c) (S2:SioFacts2 c) (X:LexFacts c) (Z:LexFacts3 c) {d u:Nat} {cx:Cx} {K:SV→Cx→Prop}
include S S2 X Z
theorem shlex_make (hd:d<940) {x:Str} (h3:3∈cx.fr) (h4:4∈cx.fr) (h5:5∈cx.fr) (h6:6∈cx.fr)
  (h:K (.ref 3) ((cx.addAt 3 (.inst 893 [])).upd [(3,lexO (.str " ") "" 1)] [(4,sioO x 0),(5,.deq []),(6,.deq [])] ((((cx.fr.filter fun j=>j != 3).filter fun j=>j != 4).filter fun j=>j != 5).filter fun j=>j != 6))):SpK c d u (.ref 893) [.str x] [("posix",.bool true)] cx K:=by
 refine mk_inst 3 Z.make Z.initF Z.initT h3 ?_
 refine fn_dkwC (obs:=[(3,.inst 893 [])]) (ys:=[.ref 3,.str x,.none,.bool true,.bool false]) (out:=fun vs kv=>vs++[.none,kv,.bool false]) ["self","instream","infile","posix","punctuation_chars"] Z.init (by exact aS ‹_› rfl) Z.initD (fun name qual doc pm an cd ct cl vs kv hv=>?_) (fun g am vs kv h1 h2=>?_) (by rfl) (by decide) (by rfl) (List.singleton_sublist.mpr List.mem_cons_self) (one_obj (by decide) rfl) (by rfl) ?_
 ·refine hide fun Go jo=>?_
  obtain ⟨a,b,rfl⟩:=len2 hv
  refine jo ?_
  exact ⟨_,rfl,rfl⟩
 ·exact h1.append (.cons .none (.cons h2 (.cons (.bool _) .nil)))
 ·refine ss_cons (ss_if (st_val (sp_call (sp_bltn (v:=.builtin "isinstance") Z.isN (by decide +kernel) ⟨_,rfl,.inl ⟨_,rfl⟩,sp_name rfl (sp_bltn (v:=.type "str") S2.strN (by decide +kernel) (c_isS (tr_bool (ite_t rfl ?_))))⟩))))
  refine ss_cons (ss_assign (sp_call (sp_glob S2.sioN ⟨_,rfl,.inr (.inr S2.sioK),sp_name rfl ?_⟩)))
  refine sio_make S2 (d:=d+2) (by exact aS ‹_› rfl) S.typeN (mem_filt h4 (by decide)) fun cx' e=>?_
  have e:cx'=⟨[("self",.ref 3),("instream",.str x),("infile",.none),("posix",.bool true),("punctuation_chars",.bool false)],[(4,sioO x 0),(3,.inst 893 [])],100,(cx.fr.filter fun j=>j != 3).filter fun j=>j != 4⟩:=e
  subst e
  refine ss_nil ?_
  refine ss_cons (ss_if (st_cmp (sp_name rfl (sp_none (o_isnn (by intro w h; cases h) ⟨_,rfl,ite_t rfl ?_⟩)))))
  refine ss_cons (ss_seta (sp_name rfl (sp_name rfl (at_set rfl rfl (Z.sets 0 _ rfl) (show (0:Nat)<1000 by decide) ?_))))
  refine ss_cons (ss_seta (sp_name rfl (sp_name rfl (at_set rfl rfl (Z.sets 1 _ rfl) (show (1:Nat)<1000 by decide) (ss_nil ?_)))))
  refine ss_cons (ss_seta (sp_name rfl (sp_name rfl (at_set rfl rfl (Z.sets 2 _ rfl) (show (2:Nat)<1000 by decide) ?_))))
  refine ss_cons (ss_if (st_val (sp_name rfl (tr_bool (ite_t rfl (ss_cons (ss_seta (sp_none (sp_name rfl (at_set rfl rfl (Z.sets 3 _ rfl) (show (3:Nat)<1000 by decide) (ss_nil ?_)))))))))))
  refine ss_cons (ss_seta (sp_str (sp_name rfl (at_set rfl rfl (Z.sets 4 _ rfl) (show (4:Nat)<1000 by decide) ?_))))
  refine shlex_mid X Z (d:=d+2) (mem_filt (mem_filt h5 (by decide)) (by decide)) (mem_filt (mem_filt h6 (by decide)) (by decide)) ?_
  refine Back.mkN [(3,lexO (.str " ") "" 1)] [(4,sioO x 0),(5,.deq []),(6,.deq [])] rfl ?_ ?_ (show [4,5,6].Nodup by decide) ?_ rfl ⟨rfl,h⟩
  ·exact ob_cons rfl (by decide) rfl (ob_cons rfl (by decide) rfl (ob_cons rfl (by decide) rfl (ob_cons rfl (by decide) rfl ob_nil)))
  ·intro p hp
   simp only [List.mem_cons,List.not_mem_nil,or_false] at hp
   rcases hp with rfl | rfl | rfl
   ·exact mem_filt h4 (show (4:Nat)≠3 by decide)
   ·exact mem_filt h5 (show (5:Nat)≠3 by decide)
   ·exact mem_filt h6 (show (6:Nat)≠3 by decide)
  ·intro i hi
   exact (List.mem_filter.mp (List.mem_filter.mp (List.mem_filter.mp hi).1).1).1
end
structure ReadFacts (c:Cst):Prop where
 lread:FnK c 931 lread_d.1 "_law_read" "_law_read" .none 930 []
 shlexN:nsIn c.K mainGlobals "shlex" = some (some (.ref 893))
 shlexK:keepIn c.K (.ref 893)=true
theorem rows_los:∀ R:List Tok2,SV.los (R.map rowS)=true
 | []=>rfl
 | t :: R=>by simp only [List.map_cons,los_cons,rows_los R,Bool.and_true]; rfl
section
variable {c:Cst} (S:SioFacts c) (S2:SioFacts2 c) (X:LexFacts c) (Y:LexFacts2 c) (Z:LexFacts3 c) (W:ReadFacts c) {d u:Nat} (hd:d<930) (huu:u<5000) {x:Str} {cx:Cx} {K:SV→Cx→Prop}
include S S2 X Y Z W hd huu
theorem lread_c (hx:x.length≤1000000) (hok:okL .W (chars x)=true) {R:List Tok2} (hR:lex .W (chars x) 1=R) (hl:R.length≤1000) (h3:3∈cx.fr) (h4:4∈cx.fr) (h5:5∈cx.fr) (h6:6∈cx.fr)
  (h:∀ fr,K (.fl (R.map rowS)) (cx.upd [] [] fr)):SpC c d u (.ref 931) [.str x] cx K:=by
 refine fn_pos (obs:=[]) ["text"] W.lread (by exact aR ‹_› rfl) (fun name qual doc pm an cd ct cl vs hv=>?_) (by rfl) (by decide) (by rfl) (List.nil_sublist _) lo_nil (by rfl) ?_
 ·obtain ⟨a,rfl⟩:=len1 hv
  rfl
 ·refine ss_cons (ss_assign (sp_callK (sp_glob W.shlexN ⟨_,rfl,W.shlexK,sp_name rfl (sp_bool ?_)⟩)))
  refine shlex_make S S2 X Z (d:=d+1) (by exact aS ‹_› rfl) h3 h4 h5 h6 ?_
  refine sp_perm (b:=lexAll (.str " ") "" 1 x (0:Nat) []) (List.perm_append_comm (l₁:=[_,_,_]) (l₂:=[_])) ?_
  refine ss_cons (ss_assign (sp_list (show SpArgs _ _ _ _ _ _ _ from ⟨by decide,?_⟩)))
  refine ss_cons (ss_assign (sp_meth (sp_name rfl (at_meth rfl rfl Y.mGtok rfl ⟨.inr (.inr Y.kGtok),?_⟩))))
  have fin:∀ {v0:SV} {n0:Int} {obs0:List (Nat×SO)} {R0:List Tok2} {fr:List Nat},LexSt x n0 obs0 R0→((v0 = .none∧R=[])∨∃ tok,v0 = .str tok∧(chars tok,n0) :: R0=R)→(∀ i∈fr,i∈cx.fr) →
    SpSs c (d+1) (u+3) lrEn (lread_d.1.2.1.drop 3) ⟨[("text",.str x),("lexer",.ref 3),("told",.ref 100),("token",v0)],(100,.list []) :: obs0,101,fr⟩ fun fl cx'=>Back cx [] K fl.val cx':=by
   intro v0 n0 obs0 R0 fr L0 hv hfr
   refine ss_cons (lread_loop S X Y (by exact aR ‹_› rfl) (by exact aR ‹_› rfl) hx hl rfl rfl rfl L0 hv fun loc' n' obs' R' e1 L1=>?_)
   refine ss_cons (ss_ret (sp_fz (sp_name e1 ⟨100,_,rfl,Nat.le_refl _,rfl,?_⟩)))
   exact Back.mkN [] [] rfl ob_nil (fun p hp=>by cases hp) (by decide) hfr (rows_los R) (h _)
  have hfr:∀ i∈((((cx.fr.filter fun j=>j != 3).filter fun j=>j != 4).filter fun j=>j != 5).filter fun j=>j != 6),i∈cx.fr:=fun i hi=>(List.mem_filter.mp (List.mem_filter.mp (List.mem_filter.mp (List.mem_filter.mp hi).1).1).1).1
  refine gtok_any S X Y (d:=d+1) (by exact aS ‹_› rfl) (by exact aS ‹_› rfl) hx (LexSt.of (n:=1) (.inr rfl) (Nat.zero_le x.length) rfl hok) (List.Sublist.cons _ (List.Sublist.refl _)) (fun e n2 obs2 L2=>?_) (fun t n2 R2 e tok2 obs2 et L2=>?_)
  ·refine hide fun Go jo=>?_
   obtain ⟨st2,k2,pb2,rfl⟩:=L2.shape
   refine jo ?_
   exact fin L2 (.inl ⟨rfl,by rw [← hR]; exact e⟩) hfr
  ·refine hide fun Go jo=>?_
   obtain ⟨st2,k2,pb2,rfl⟩:=L2.shape
   refine jo ?_
   exact fin L2 (.inr ⟨tok2,rfl,by rw [← hR,et]; exact e.symm⟩) hfr
end
noncomputable def peekN {α:Type} (K:Frag) (S:Setting):Nat→Sem α→Option (α×List Obj)
 | _,.pure a=>some (a,[])
 | n,.rule _ k=>peekN K S n (k ())
 | n,.point _ k=>peekN K S n (k ())
 | n,.ask k=>peekN K S n (k S)
 | n,.load a _ k=>(K.lookup a).bind fun o=>peekN K S n (k o)
 | n,.alloc o k=>(peekN K S (n+1) (k n)).map fun x=>(x.1,o :: x.2)
 | _,_=>none
noncomputable def pushAll (h:Heap) (l:List Obj):Heap:=l.foldl Heap.push h
theorem wp_peekN {α:Type} {K:Frag} {M:Model} {A:Around} {E:Value→Shared→Prop} {Q:α→Shared→Prop} (t:Sem α) :
  ∀ {s:Shared} {x:α×List Obj},K.In s.heap→peekN K ⟨M.prog,M.w.params⟩ s.heap.objs.size t=some x→Q x.1 { s with heap:=pushAll s.heap x.2 }→wpAny M A t Q E s:=by
 induction t with
 | pure a=>intro s x X e q; cases e; exact wpAny_pure q
 | rule _ k ih=>intro s x X e q Γ p hΓ; exact ih () X e q Γ p hΓ
 | point _ k ih=>intro s x X e q Γ p hΓ; exact ih () X e q Γ p hΓ
 | ask k ih=>intro s x X e q Γ p hΓ; exact ih _ X e q Γ p hΓ
 | load a _ k ih =>
  intro s x X e q Γ p hΓ
  obtain ⟨ob,ho,hy⟩:=Option.bind_eq_some_iff.mp (show (K.lookup a).bind (fun o=>peekN K _ s.heap.objs.size (k o))=some x from e)
  exact ⟨ob,X _ _ ho,ih ob X hy q Γ p hΓ⟩
 | alloc ob k ih =>
  intro s x X e q
  refine hide fun Go jo=>?_
  obtain ⟨y,hy,rfl⟩:=Option.map_eq_some_iff.mp (show (peekN K _ (s.heap.objs.size+1) (k s.heap.objs.size)).map (fun x=>(x.1,ob :: x.2))=some x from e)
  refine jo ?_
  refine nd_alloc (ih _ (s:={ s with heap:=s.heap.push ob }) (x:=y) (fun a o h=>Heap.get?_push_of_some _ (X a o h)) ?_ q)
  rw [show ({ s with heap:=s.heap.push ob }:Shared).heap.objs.size=s.heap.objs.size+1 from Heap.size_push ..]
  exact hy
 | _=>intro s x X e; cases e
noncomputable def isRef:Fin×List Obj→Bool
 | (.done (.ret (.ref _)),_)=>true
 | _=>false
noncomputable def quote_d:{ x:Df // defAt ["quote"] prg=some x }:=⟨_,rfl⟩
structure QuoteFacts (c:Cst):Prop where
 quote:FnK c 905 quote_d.1 "quote" "quote" .none 904 []
 findN:nsIn c.K mainGlobals "_find_unsafe" = some (some (.ref 898))
 obj:∃ od sl,c.K.lookup 898=some ⟨.type "builtin_function_or_method",od,.fields #[.builtin "re.Pattern.search",.ref 210],sl⟩
 chk:∀ S w t,peek c.K S (checkBoundCall "re.Pattern.search" ⟨[.ref 210,.str w t],[]⟩)=some ()
 run1:∀ S n t,(peekN c.K S n (Builtin.«re.Pattern.search» ⟨[.ref 210,.str "e f" t],[]⟩)).any isRef=true
 run2:∀ S n t,(peekN c.K S n (Builtin.«re.Pattern.search» ⟨[.ref 210,.str "#," t],[]⟩)).any isRef=true
theorem search_quiet (a:Args):(Code.builtin "re.Pattern.search" a).quiet=true:=Code.quiet_builtin _ (by decide +kernel)
theorem entry_search:entryFor table "re.Pattern.search" = some Builtin.«re.Pattern.search»:=entryFor_of_tree (by kernel_rfl)
section
variable {c:Cst} {d u:Nat} {e:En} {cx:Cx} {pos:Pos}
theorem Rep.pushAll {fx:Fx} {g:Heap} {am:Am} {L:Addr} (l:List Obj):∀ {s:Shared},Rep c fx g am L cx s→Rep c fx g am L cx { s with heap:=Mine.pushAll s.heap l }:=by
 induction l with
 | nil=>intro s r; exact r
 | cons o l ih=>intro s r; exact ih (r.push o (t:=s.toks))
variable (Q:QuoteFacts c)
include Q
theorem c_search {w:Str} {K:SV→Cx→Prop} (hw:w = "e f"∨w = "#,") (h:∀ a,K (.g (.ref a)) cx):SpC c d u (.ref 898) [.str w] cx K:=by
 intro fx g am L s vs r hv
 cases hv using VRs.consE with
 | mk _ _ hx hv =>
 refine hide fun Go jo=>?_
 cases hv using VRs.nilE
 cases hx using VR.strE
 rename_i t
 obtain ⟨od,sl,ho⟩:=Q.obj
 refine jo ?_
 have X:=r.top.X.keeps r.sub
 have chk:=Looks.of_peek (M:=c.M) X (Q.chk _ w t)
 refine wpAny_call (codeAny_of_tree ?_)
 show wpAny _ _ (callAny (.ref 898) _) _ _ _
 refine nd_load (X _ _ ho) (nd_bind (wpAny_pure ?_))
 dsimp only
 first | (with_reducible refine wp_pos ?_ ?_; · exact (by decide)) | rw [if_pos (by decide)]
 rw [show (#[Value.builtin "re.Pattern.search",Value.ref 210]:Array Value)[0]? = some (.builtin "re.Pattern.search") from rfl,show (#[Value.builtin "re.Pattern.search",Value.ref 210]:Array Value)[1]? = some (.ref 210) from rfl]
 dsimp only
 first | (with_reducible refine wp_pos ?_ ?_; · exact (by decide)) | rw [if_pos (by decide)]
 refine wpAny_bind (chk.at ?_)
 refine wpAny_pure (a:=Fin.again (.builtin "re.Pattern.search" ⟨[.ref 210,.str w t],[]⟩)) (And.intro (search_quiet _) (codeAny_builtin entry_search ?_))
 have z:(peekN c.K ⟨c.M.prog,c.M.w.params⟩ s.heap.objs.size (Builtin.«re.Pattern.search» ⟨[.ref 210,.str w t],[]⟩)).any isRef=true:=by
  rcases hw with rfl | rfl
  ·exact Q.run1 _ _ _
  ·exact Q.run2 _ _ _
 obtain ⟨y,hy,hr⟩:=any_some z
 refine wp_peekN _ X hy ?_
 obtain ⟨f,l⟩:=y
 rcases f with (_ | _ | _ | (_ | _ | _ | _ | _ | _ | _ | _ | _ | _)) | _ <;> first | cases hr | skip
 all_goals first | exact Ends.here (r.pushAll l) (.g _) (h _) | skip
omit Q in
theorem sp_callB {func:Expr} {es:List Expr} {f:Addr} {K:SV→Cx→Prop} (hk:∀ S,peek c.K S (keeperOf (.ref f))=some .machine) (h:Sp c d u (fun L=>eval func (e.env L)) VR cx fun v cx1=>v = .g (.ref f)∧SpArgs c d u e es cx1 fun ys cx2=>SpC c d u (.ref f) ys cx2 K)
  (hs:noStars es=true:=by rfl)
  (he:∀ L,eval (.Call func es [] pos) (e.env L)=(do callWith pos (← eval func (e.env L)) [] (backTo pos (starEach es (e.env L))) (backToKw pos (keywordEach [] (e.env L)))):=by intro L; rfl) :
  Sp c d u (fun L=>eval (.Call func es [] pos) (e.env L)) VR cx K:=fun fx g am L s R =>
 Call_ (step (h fx g am L s R) fun v _ g1 am1 cx1 w l1 a1 r1 q1 k1=>by
  refine hide fun Go jo=>?_
  obtain ⟨rfl,k⟩:=k1
  cases q1 using VR.gE
  refine jo ?_
  refine wup l1 a1 (callWith_of (P:=fun h=>c.K.In h) (by rw [backTo_plain hs]; rfl) (fun h X=>⟨.machine,.inr (.inl rfl),Looks.of_peek X (hk _)⟩) ?_)
  exact step (SpArgs.evalArgs (pos:=pos) (f:=.ref f) hs k _ _ _ L _ r1) fun a s1 g2 am2 cx2 ys l2 a2 r2 q2 k2=>⟨r2.top.X.keeps r2.sub,by rw [q2.1]; exact wup l2 a2 (k2 _ _ _ L s1 a.pos r2 q2.2)⟩) (he L)
omit Q in
theorem o_isng {a:Addr} {K:SV→Cx→Prop} (h:K (.bool false) cx):Sp2 c d u (fun x y=>compareOp .Is x y) VR (.g (.ref a)) .none cx K:=fun _ _ _ _ _ _ _ R q q'=>by
 cases q using VR.gE; cases q' using VR.noneE
 exact wpAny_is_plain rfl (Ends.here R (.bool _) h)
omit Q in
theorem rep1 (t u v:Tok):Builtin.«str.replace» ⟨[.str "e f" t,.str "'" u,.str "'\"'\"'" v],[]⟩=(do rule "str.replace.nothing"; ret (.str "e f" t)):=by kernel_rfl
omit Q in
theorem rep2 (t u v:Tok):Builtin.«str.replace» ⟨[.str "#," t,.str "'" u,.str "'\"'\"'" v],[]⟩=(do rule "str.replace.nothing"; ret (.str "#," t)):=by kernel_rfl
omit Q in
theorem c_replace {w:Str} {K:SV→Cx→Prop} (hw:w = "e f"∨w = "#,") (h:K (.str w) cx):SpC c d u (.builtin "str.replace") [.str w,.str "'",.str "'\"'\"'"] cx K:=by
 intro fx g am L s vs r hv
 cases hv using VRs.consE with
 | mk _ _ h1 hv =>
 cases hv using VRs.consE with
 | mk _ _ h2 hv =>
 cases hv using VRs.consE with
 | mk _ _ h3 hv =>
 cases hv using VRs.nilE; cases h1 using VR.strE; cases h2 using VR.strE; cases h3 using VR.strE
 rename_i t u v
 refine call_gives (m:=.val (.str w t)) PySem.F.slot_str_replace (typeIs_str _ _ _) PySem.F.entry_str_replace (PySem.F.args_str_replace_3 _ _ _) ?_ (Ends.here r (.str _ _) h)
 rcases hw with rfl | rfl
 ·rw [rep1]; exact .rule (.of_eq rfl)
 ·rw [rep2]; exact .rule (.of_eq rfl)
theorem quote_c (hd:d<990) (hk:∀ S,peek c.K S (keeperOf (.ref 898))=some .machine) {w r:Str} {K:SV→Cx→Prop} (hw:(w = ""∧r = "''")∨(w = "e f"∧r = "'e f'")∨(w = "#,"∧r = "'#,'")) (h:K (.str r) (cx.upd [] [] cx.fr)):SpC c d u (.ref 905) [.str w] cx K:=by
 refine fn_pos (obs:=[]) ["s"] Q.quote (by exact aR ‹_› rfl) (fun name qual doc pm an cd ct cl vs hv=>?_) (by rfl) (by decide) (by rfl) (List.nil_sublist _) lo_nil (by rfl) ?_
 ·obtain ⟨a,rfl⟩:=len1 hv
  rfl
 ·have fin:Back cx [] K (.str r) ⟨[("s",.str w)],[],100,cx.fr⟩:=Back.mk [] rfl ob_nil rfl rfl h
  have ne:∀ (w r:Str),(w = "e f"∧r = "'e f'")∨(w = "#,"∧r = "'#,'")→w.length<2 ^ 62∧((w.length:Int) != 0)=true∧(w = "e f"∨w = "#,")∧("'":Str).length+w.length≤16777216∧(("'":Str)++w).length+("'":Str).length≤16777216∧("'":Str)++w++("'":Str)=r:=by
   rintro w r (⟨rfl,rfl⟩ | ⟨rfl,rfl⟩)
   ·exact ⟨by decide,by decide,.inl rfl,by decide,by decide,by decide⟩
   ·exact ⟨by decide,by decide,.inr rfl,by decide,by decide,by decide⟩
  rcases hw with ⟨rfl,rfl⟩ | hw
  ·exact ss_cons (ss_if (st_not (st_val (sp_name rfl (tr_str (by decide) (ite_t (by decide) (ss_cons (ss_ret (sp_str fin)))))))))
  ·refine hide fun Go jo=>?_
   obtain ⟨h1,h2,h3,h4,h5,h6⟩:=ne w r hw
   refine jo ?_
   refine ss_cons (ss_if (st_not (st_val (sp_name rfl (tr_str h1 (ite_f (by rw [h2]; decide) (ss_nil ?_)))))))
   refine ss_cons (ss_if (st_cmp (sp_callB hk (sp_glob Q.findN ⟨rfl,sp_name rfl (c_search Q h3 fun a=>sp_none (o_isng ⟨_,rfl,ite_f (by decide) (ss_nil ?_)⟩))⟩))))
   refine ss_cons (ss_ret (sp_bin (sp_bin (sp_str (sp_meth (sp_name rfl (m_str PySem.F.slot_str_replace PySem.F.type_str_replace ⟨.inl ⟨_,rfl⟩,sp_str (sp_str (c_replace h3 (o_adds h4 (sp_str (o_adds h5 ?_)))))⟩)))))))
   rw [h6]; exact fin
end
section
variable {c:Cst} {d u:Nat} {e:En} {cx:Cx} {pos:Pos} {fx:Fx} {g g':Heap} {am am':Am} {L:Addr} {s:Shared}
inductive ItE (g h:Heap) (am:Am) (en it l:Addr) (vs:List Value) (j:Nat) (xs:List SV):Prop
 | mk (old:Value) (he:IsEnum h en it (j:Int) old) (hit:h.IsListIter it l j) (hl:g.IsList l vs.toArray) (hv:VRs g am xs (vs.drop j)) (hne:en≠it)
theorem still_E {as:List Addr} {s1:Shared} {cx1:Cx} (r:Rep c fx g am L cx s) (ap:Apart fx g am L cx as) (there:∀ b∈as,∃ o,s.heap.get? b=some o) (r1:Rep c (aside fx g s.heap as) g' am' L cx1 s1) :
  (∀ b∈as,s1.heap.get? b=s.heap.get? b)∧Apart fx g' am' L cx1 as:=by
 have fh:∀ b∈as,∀ o,s.heap.get? b=some o→(aside fx g s.heap as).fh.get? b=some o:=fun b hb o e=>only_yes e (by simp [hb])
 refine ⟨fun b hb=>?_,fun b hb=>?_⟩
 ·obtain ⟨o,e⟩:=there b hb
  rw [e]; exact r1.frm b o (fh b hb o e)
 obtain ⟨o,e⟩:=there b hb
 have q:=fh b hb o e
 refine ⟨fun hm=>?_,?_,(ap b hb).2.2⟩
 ·have:=r1.frout b hm; rw [q] at this; cases this
 ·cases z:g'.get? b with
  | none=>rfl
  | some o'=>have:=r1.frg b (by rw [q]; rfl) o' z; rw [show (aside fx g s.heap as).g0=g from rfl,(ap b hb).2.1] at this; cases this
inductive EnI (c:Cst) (fx:Fx) (g:Heap) (am:Am) (L en it l:Addr) (vs:List Value) (I:Nat→List SV→Cx→Prop) (n:Nat) (s:Shared):Prop
 | mk (g':Heap) (am':Am) (cx':Cx) (xs':List SV) (j:Nat) (e:n=xs'.length) (l1:Le g g') (a:AmLe am am') (r:Rep c fx g' am' L cx' s) (old:Value) (he:IsEnum s.heap en it (j:Int) old) (hit:s.heap.IsListIter it l j) (hl:g'.IsList l vs.toArray) (hv:VRs g' am' xs' (vs.drop j)) (ap:Apart fx g' am' L cx' [en,it]) (hI:I j xs' cx')
theorem for_enum {ts:List Expr} {k:Nat} {tp:Pos} {body orelse:List Stmt} (I:Nat→List SV→Cx→Prop) {K:Fl→Cx→Prop} (turn:∀ j x xs cx,I j (x :: xs) cx→SpA c d u e (.Tuple ts k tp) (.tup [.int j,x]) cx fun cx1=>SpSs c d u e body cx1 (LoopK (I (j+1) xs) K)) (fin:∀ j cx,I j [] cx→SpSs c d u e orelse cx K)
  {en it l:Addr} {vs:List Value} {xs:List SV} (r:Rep c fx g am L cx s) (i:ItE g s.heap am en it l vs 0 xs) (ap:Apart fx g am L cx [en,it]) (hI:I 0 xs cx) :
  codeAny c.M (Ar d u) (.forLoop (.Tuple ts k tp) (.ref en) body orelse (e.env L)) (fun r s'=>match r with | .ok f=>Ends c fx g am L FlR K f s' | .error _=>False) s:=by
 refine hide fun Go jo=>?_
 obtain ⟨old0,he0,hit0,hl0,hv0,hne⟩:=i
 refine jo ?_
 refine codeAny_forLoop_any (EnI c fx g am L en it l vs I) (fun n s hI=>?_) xs.length ⟨g,am,cx,xs,0,rfl,.refl _,.refl _,r,old0,he0,hit0,hl0,hv0,ap,hI⟩
 refine hide fun Go jo=>?_
 obtain ⟨g',am',cx',xs',j,rfl,l1,a,r,old,he,hit,hl,hv,ap,hI⟩:=hI
 refine jo ?_
 have hl':=isList_le r.sub hl
 cases xs' with
 | nil =>
  have hn:vs.toArray[j]? = none:=by
   have:=hv.length
   simp at this
   exact Array.getElem?_eq_none (by simp; lia)
  exact wpAny_pyNext_enum_end rfl he hit hl' hn fun h' hx=>step (fin j cx' hI fx g' am' L _ (r.apart (t:=s.toks) ap fun b o hb e=>hx b o (fun q=>hb (by simp [q])) e)) fun f s2 g2 am2 cx2 fl l2 a2 r2 q2 k2=>⟨g2,am2,cx2,fl,l1.trans l2,a.trans a2,r2,q2,k2⟩
 | cons x xs' =>
  obtain ⟨v,ev,qv⟩:=hv.get (i:=0) (x:=x) rfl
  have hx:vs.toArray[j]? = some v:=by simpa using ev
  refine wpAny_pyNext_enum_item he hit hl' hx hne fun h1 ho hit1 hT hsz hk=>?_
  refine wpAny_letOwnedTupleGo_enum ho fun h2 he2 hs2=>?_
  have hs2:Heap.SameBut en h1 h2:=hs2
  have hen:en<s.heap.objs.size:=Heap.lt_size he
  have hit0:it<s.heap.objs.size:=by obtain ⟨o,x,_⟩:=hit; exact Heap.lt_size x
  have hT2:=(hs2.2 _ (Nat.ne_of_gt hen)).trans hT
  have k2:∀ b o,b∉[en,it]→s.heap.get? b=some o→h2.get? b=some o:=fun b o hb e=>by
   simp at hb
   exact (hs2.2 b hb.1).trans (hk b o hb.1 hb.2 e)
  have r1:=r.apart (t:=s.toks+1) ap k2
  have ap1:Apart fx g' am' L cx' [en,it]:=ap
  have hit2:h2.IsListIter it l (j+1):=hit1.at fun o y=>(hs2.2 it hne.symm).trans y
  have there:∀ b∈[en,it],∃ o,h2.get? b=some o:=by
   intro b hb; simp at hb
   rcases hb with rfl | rfl
   ·exact ⟨_,he2⟩
   ·obtain ⟨o,e,_⟩:=hit2; exact ⟨o,e⟩
  have ra:=r1.aside ap1
  refine hide fun Go jo=>?_
  obtain ⟨g3,l3,eT,r3⟩:=ra.freeze hT2 r.szN r.fresh_own (only_no (by
   have:=r.fresh_fr
   have h1:s.heap.objs.size≠en:=Nat.ne_of_gt hen
   have h2:s.heap.objs.size≠it:=Nat.ne_of_gt hit0
   simp [this,h1,h2]))
  refine jo ?_
  have q:VR g3 am' (.tup [.int j,x]) (.ref s.heap.objs.size):=.tup ⟨_,eT,rfl,_,rfl⟩ (.cons (.int _ _) (.cons (qv.mono l3 (.refl _)) .nil))
  refine step (turn j x xs' cx' hI _ g3 am' L _ _ r3 q) fun _ s4 g4 am4 cx4 _ l4 a4 r4 _ k4=>step (k4 _ g4 am4 L s4 r4) fun f s5 g5 am5 cx5 fl l5 a5 r5 q5 k5=>?_
  obtain ⟨keep,ap5⟩:=still_E r1 ap1 there r5
  have r5':=r1.unaside r5
  have lt:=l3.trans (l4.trans l5)
  have h5:VRs g5 am5 xs' (vs.drop (j+1)):=by
   have:=(hv.drop 1).mono lt (a4.trans a5)
   rwa [List.drop_drop] at this
  have e5:=(keep en (.head _)).trans he2
  have t5:=hit2.at fun o y=>(keep it (.tail _ (.head _))).trans y
  cases q5 with
  | next=>exact ⟨xs'.length,Nat.lt_succ_self _,g5,am5,cx5,xs',j+1,rfl,l1.trans lt,a.trans (a4.trans a5),r5',_,e5,t5,isList_le lt hl,h5,ap5,k5⟩
  | cont=>exact ⟨xs'.length,Nat.lt_succ_self _,g5,am5,cx5,xs',j+1,rfl,l1.trans lt,a.trans (a4.trans a5),r5',_,e5,t5,isList_le lt hl,h5,ap5,k5⟩
  | brk=>exact ⟨g5,am5,cx5,.next,l1.trans lt,a.trans (a4.trans a5),r5',.next,k5⟩
  | ret q=>exact ⟨g5,am5,cx5,.ret _,l1.trans lt,a.trans (a4.trans a5),r5',.ret q,k5⟩
theorem ss_enum {x:Expr} {p ep:Pos} {ts:List Expr} {k:Nat} {tp:Pos} {body orelse:List Stmt} (I:Nat→List SV→Cx→Prop) {K:Fl→Cx→Prop} (hN:nsIn c.K mainGlobals "enumerate" = some none) (h:SpArgs c d u e [x] cx fun ys cx1=>∃ xs,ys=[.fl xs]∧I 0 xs cx1)
  (turn:∀ j x xs cx,I j (x :: xs) cx→SpA c d u e (.Tuple ts k tp) (.tup [.int j,x]) cx fun cx1=>SpSs c d u e body cx1 (LoopK (I (j+1) xs) K)) (fin:∀ j cx,I j [] cx→SpSs c d u e orelse cx K)
  (hst:noStars [x]=true:=by rfl) (hk:e.scope.kind = .function:=by rfl) (hl:e.scope.names.lookup ("enumerate":Str)=some .globalImplicit:=by rfl)
  (hs:∀ L x',foldedSetIterable (.Call (.Name "enumerate" p) [x] [] ep) (e.env L) x'=pure x':=by intros; rfl)
  (he:∀ L,eval (.Call (.Name "enumerate" p) [x] [] ep) (e.env L)=(do callWith ep (← eval (.Name "enumerate" p) (e.env L)) [] (backTo ep (starEach [x] (e.env L))) (backToKw ep (keywordEach [] (e.env L)))):=by intro L; rfl) :
  SpS c d u e (.For (.Tuple ts k tp) (.Call (.Name "enumerate" p) [x] [] ep) body orelse pos) cx K:=fun fx g am L s R=>by
 refine wpAny_For ?_ (hs L)
 have z:=sp_bltn (c:=c) (d:=d) (u:=u) (e:=e) (cx:=cx) (pos:=p) (K:=fun v cx1=>v = .g (.type "enumerate")∧cx1=cx) hN (v:=.type "enumerate") (by decide +kernel) ⟨rfl,rfl⟩ (hk:=hk) (hl:=hl)
 refine Call_ (step (z fx g am L s R) fun v _ g1 am1 cx1 w l1 a1 r1 q1 k1=>?_) (he L)
 refine hide fun Go jo=>?_
 obtain ⟨rfl,rfl⟩:=k1
 cases q1 using VR.gE
 refine jo ?_
 refine PyProof.Rows.callWith_type (backTo_plain hst) (step (SpArgs.evalArgs (pos:=ep) (f:=.type "enumerate") hst h _ _ _ L _ r1) fun a s1 g2 am2 cx2 ys l2 a2 r2 q2 k2=>?_)
 refine hide fun Go jo=>?_
 obtain ⟨xs,rfl,hI⟩:=k2
 obtain ⟨e1,q2⟩:=q2
 refine jo ?_
 rw [e1]
 obtain ⟨ap,ak⟩:=a
 dsimp only at e1 q2 ⊢
 cases q2 using VRs.consE with
 | mk _ _ q3 q2 =>
 cases q2 using VRs.nilE
 cases q3 using VR.flE with
 | mk _ _ ho hv =>
 rename_i vs l
 have hl':=isList_le r2.sub ho
 refine call_enumerate_list hl' fun h' he1 hit1 hsz hk1=>?_
 have r3:Rep c fx g2 am2 L cx2 { s1 with heap:=h',toks:=s1.toks }:=r2.heap (r2.sub.trans hk1) (r2.frm.trans hk1) (by lia) fun b hb=>by
  obtain ⟨o,e⟩:=r2.owned_there b hb
  rw [e]; exact hk1 b o e
 refine wpAny_pyIter_enum he1 ?_
 have i3:ItE g2 h' am2 (s1.heap.objs.size+1) s1.heap.objs.size l vs 0 xs:=⟨_,he1,hit1,ho,hv,Nat.succ_ne_self _⟩
 have ap3:Apart fx g2 am2 L cx2 [s1.heap.objs.size+1,s1.heap.objs.size]:=fun b hb=>by
  have hb:s1.heap.objs.size≤b:=by
   simp at hb
   rcases hb with rfl | rfl
   ·exact Nat.le_succ _
   ·exact Nat.le_refl _
  refine ⟨fun hm=>absurd (r2.owned_lt b hm) (Nat.not_lt_of_le hb),?_,?_⟩
  ·cases e:g2.get? b with
   | none=>rfl
   | some o=>exact absurd (Heap.lt_size (r2.sub _ _ e)) (Nat.not_lt_of_le hb)
  ·cases e:fx.fh.get? b with
   | none=>rfl
   | some o=>exact absurd (Heap.lt_size (r2.frm _ _ e)) (Nat.not_lt_of_le hb)
 refine codeAny_mono (for_enum I turn fin r3 i3 ap3 hI) fun r s' h=>?_
 cases r with
 | ok f=>exact h.up (l1.trans l2) (a1.trans a2)
 | error _=>exact h.elim
end
theorem lt2 {j:Nat} (h:j<2):j=0∨j=1:=by lia
section
variable {c:Cst} {d u:Nat} {e:En} {cx:Cx} {pos:Pos}
theorem g_at {n j:Nat} {xs:List SV} {x:SV} {k:Int} {K:SV→Cx→Prop} (hi:cx.obj.lookup n=some (.list xs)) (hr:-(2 ^ 62)<k∧k<2 ^ 62) (hj:seqIndex? k xs.length=some j) (hx:xs[j]? = some x) (h:K x cx):Sp2 c d u (fun a b=>getItem a b) VR (.ref n) (.int k) cx K:=fun fx g am L s _ _ R q q'=>by
 refine hide fun Go jo=>?_
 cases q' using VR.intE
 obtain ⟨a,vs,rfl,ea,hm,ht,hv⟩:=R.lst hi q
 obtain ⟨v,e,q⟩:=hv.get hx
 refine jo ?_
 exact isList_item ht.isList hr (by rw [← hv.length]; exact hj) e (Ends.here R q h)
theorem VRs.set {g:Heap} {am:Am} {y:SV} {w:Value} (h:VR g am y w) {xs:List SV} {vs:List Value} (hs:VRs g am xs vs):∀ k:Nat,VRs g am (xs.set k y) (vs.set k w) :=
 hs.ind (P:=fun xs vs=>∀ k:Nat,VRs g am (xs.set k y) (vs.set k w)) (fun _=>.nil) fun a hs ih k=>by
  cases k with
  | zero=>exact .cons h hs
  | succ k=>exact .cons a (ih k)
theorem s_at0 {n j:Nat} {k:Int} {xs:List SV} {y:SV} {K:Unit→Cx→Prop} (hi:cx.obj.lookup n=some (.list xs)) (hkj:k=j) (hk:j<xs.length) (hz:xs.length<1000) (h:K () (cx.set n (.list (xs.set j y)))):SpN c d u (fun vs=>match vs with | [a,b,v]=>setItem a b v | _=>pure ()) UR [.ref n,.int k,y] cx K:=fun fx g am L s vs R q=>by
 cases q using VRs.consE with
 | mk _ _ q1 q=>cases q using VRs.consE with
  | mk _ _ q2 q=>cases q using VRs.consE with
   | mk _ _ q3 q =>
    cases q using VRs.nilE; cases q2 using VR.intE
    rename_i v t
    refine hide fun Go jo=>?_
    obtain ⟨a,vs,rfl,ea,hm,ht,hv⟩:=R.lst hi q1
    obtain ⟨m,ho⟩:=id ht
    refine jo ?_
    have hlen:=hv.length
    have hj:j<vs.toArray.size:=by simp; lia
    show wpAny c.M (Ar d u) (setItem (.ref a) (.int k t) v) _ _ s
    unfold setItem
    refine wpAny_holding (wpAny_bind (wpAny_sequenceKey ht.isList.typeIs (by decide) ?_))
    refine wpAny_bind (wpAny_callSpecial?_slot (name:=Str.ofString "__setitem__") ht.isList.typeIs slot_list_setitem (wpAny_call_entry slot_list_setitem ht.isList.typeIs entry_list_setitem ?_ (args_list_setitem _ _ _)))
    show wpAny _ _ (Builtin.List.listSubscript? (.int k t) >>= _) _ _ s
    refine wpAny_bind (wpAny_listSubscript_int (fitsIndex_of (by lia) (by lia)) ?_)
    subst hkj
    have hx:vs.toArray[j]? = some vs.toArray[j]:=Array.getElem?_eq_getElem hj
    show wpAny _ _ ((seqItemAt a j >>= fun r=>pure (r.map (j,·))) >>= _) _ _ s
    refine wpAny_bind (wpAny_bind (wpAny_seqItemAt ho rfl (wpAny_pure ?_)))
    rw [hx]
    show wpAny _ _ (setSeqItemAt a j v >>= _) _ _ s
    have fin:Ends c fx g am L UR K () { s with heap:=s.heap.update a (Obj.mapSeq (·.setIfInBounds j v)) }:=by
     refine Ends.here (x:=()) (R.set (so':=.list (xs.set j y)) (t:=s.toks) hm ea (update_same (by simp)) (Nat.le_of_eq (update_size ..).symm) ⟨a,vs.set j v,rfl,?_,hv.set q3 j⟩) trivial h
     obtain ⟨k',ek⟩:=mapSeq_plain (vs:=vs) (k:=m) fun xs=>xs.setIfInBounds j v
     refine ⟨k',(Heap.get?_update_self _ ho (by rw [ek]; rfl)).trans ?_⟩
     rw [ek]
     simp
    refine wpAny_bind (wpAny_setSeqItemAt ho rfl ?_)
    first
     | exact wpAny_bind (wpAny_pure (wpAny_pure ⟨.none,rfl,wpAny_pure fin⟩))
     | exact wpAny_pure ⟨.none,rfl,wpAny_pure fin⟩
theorem s_at {n k:Nat} {xs:List SV} {y:SV} {K:Unit→Cx→Prop} (hi:cx.obj.lookup n=some (.list xs)) (hk:k<xs.length) (hz:xs.length<1000) (h:K () (cx.set n (.list (xs.set k y)))):SpN c d u (fun vs=>match vs with | [a,b,v]=>setItem a b v | _=>pure ()) UR [.ref n,.int k,y] cx K:=s_at0 hi rfl hk hz h
theorem sp_settle {α β:Type} {t:Addr→Sem α} {R:Heap→Am→β→α→Prop} {K:β→Cx→Prop} {loc:List (Str×SV)} {xs ys:List SV} {k nx:Nat} {fr:List Nat} (hk:100<k)
  (h:Sp c d u t R ⟨loc,[(100,.list (xs++[.fl ys]))],nx,fr⟩ K):Sp c d u t R ⟨loc,[(k,.list ys),(100,.list (xs++[.ref k]))],nx,fr⟩ K:=fun fx g am L s r=>by
 refine hide fun Go jo=>?_
 obtain ⟨as,ea,a,vs,rfl,ht,hv⟩:=r.lay (100,_) (.tail _ (.head _))
 obtain ⟨ws,w,rfl,hv1,hv2⟩:=hv.snoc
 obtain ⟨g',l,r',q⟩:=r.fz (i:=k) (xs:=ys) (by lia) (by simp [List.lookup]) hv2
 refine jo ?_
 have e:(Cx.drop ⟨loc,[(k,.list ys),(100,.list (xs++[.ref k]))],nx,fr⟩ k)=⟨loc,[(100,.list (xs++[.ref k]))],nx,fr⟩:=by
  have:(100 != k)=true:=bne_iff_ne.mpr (by lia)
  simp [Cx.drop,List.filter,this]
 rw [e] at r'
 have r2:=r'.set (so':=.list (xs++[.fl ys])) (h':=s.heap) (t:=s.toks) (.head _) ea (fun _ _=>rfl) (Nat.le_refl _) ⟨a,ws++[w],rfl,ht,(hv1.mono l (.refl _)).append (.cons q .nil)⟩
 exact wup l (.refl _) (h fx g' am L s r2)
end
noncomputable def Told (rows:List Tok2) (obj:List (Nat×SO)) (nx:Nat):Prop :=
 (rows=[]∧obj=[(100,.list [])]∧100<nx)∨∃ R w n k,rows=R++[(chars w,n)]∧obj=[(k,.list [.str w,.int n]),(100,.list (R.map rowS++[.ref k]))]∧100<k∧k<nx
theorem rowS_snoc (R:List Tok2) (w:Str) (n:Int):R.map rowS++[.fl [.str w,.int n]]=(R++[(chars w,n)]).map rowS:=by
 rw [List.map_append]
 show _=_++[SV.fl [.str ⟨(chars w).toArray⟩,.int n]]
 rw [← str_chars]
section
variable {c:Cst} {d u:Nat} {e:En} {rows:List Tok2} {obj:List (Nat×SO)} {nx:Nat} {loc:List (Str×SV)} {fr:List Nat}
theorem told_settle {α β:Type} {t:Addr→Sem α} {R:Heap→Am→β→α→Prop} {K:β→Cx→Prop} (hT:Told rows obj nx) (h:100<nx→Sp c d u t R ⟨loc,[(100,.list (rows.map rowS))],nx,fr⟩ K):Sp c d u t R ⟨loc,obj,nx,fr⟩ K:=by
 rcases hT with ⟨rfl,rfl,hn⟩ | ⟨R,w,n,k,rfl,rfl,hk,hn⟩
 ·exact h hn
 ·refine sp_settle hk ?_
  rw [rowS_snoc]
  exact h (by lia)
theorem seqIndex_neg1 (n:Nat):seqIndex? (-1) (n+1)=some n:=seqIndex_last n
variable (hk:e.scope.kind = .function) (hl:e.scope.names.lookup ("told":Str)=some .local)
include hk hl
theorem told_app {a b:Expr} {p1 p2 p3 p4 p5:Pos} {w:Str} {n:Int} {K:Fl→Cx→Prop} (hT:Told rows obj nx) (hz:rows.length≤1000000) (ht:loc.lookup ("told":Str)=some (.ref 100))
  (ha:∀ obj nx K,K (.str w) ⟨loc,obj,nx,fr⟩→Sp c d u (fun L=>eval a (e.env L)) VR ⟨loc,obj,nx,fr⟩ K) (hb:∀ obj nx K,K (.int n) ⟨loc,obj,nx,fr⟩→Sp c d u (fun L=>eval b (e.env L)) VR ⟨loc,obj,nx,fr⟩ K)
  (h:∀ obj' nx',Told (rows++[(chars w,n)]) obj' nx'→K .next ⟨loc,obj',nx',fr⟩) (hs:noStars [a,b]=true:=by rfl) (hin:∀ L,interactive (e.env L)=false:=by intro L; rfl)
  (he:∀ L,eval (.Call (.Attribute (.Name "told" p1) "append" p2) [.List [a,b] p3] [] p4) (e.env L)=(do
   let ov ← eval (.Name "told" p1) (e.env L)
   standAt p2.atName
   let (f,first) ← holding [ov] (getMethod ov "append" (do return (← importBound (.Name "told" p1) (e.env L)).getD true))
   callWith p4 f first (backTo p4 (starEach [.List [a,b] p3] (e.env L))) []):=by intro L; rfl) :
  SpS c d u e (.Expr (.Call (.Attribute (.Name "told" p1) "append" p2) [.List [a,b] p3] [] p4) p5) ⟨loc,obj,nx,fr⟩ K:=by
 refine told_settle hT fun hn=>?_
 refine ss_expr (sp_meth (sp_name ht (m_list rfl slot_list_append type_list_append ⟨.inl ⟨_,rfl⟩,sp_list (show SpArgs _ _ _ _ _ _ _ from ha _ _ _ (hb _ _ _ ⟨by show 2≤1000; decide,?_⟩)) hs⟩) hk hl) rfl he) hin
 have ne:((100:Nat)==nx)=false:=by simp; lia
 refine c_append (xs:=rows.map rowS) (by show List.lookup 100 ((nx,_) :: _)=_; simp [List.lookup,ne]) (by simpa using hz) ⟨rfl,?_⟩
 have e2:(Cx.set (Cx.add ⟨loc,[(100,.list (rows.map rowS))],nx,fr⟩ (.list [.str w,.int n])) 100 (.list (rows.map rowS++[.ref nx])))=⟨loc,[(nx,.list [.str w,.int n]),(100,.list (rows.map rowS++[.ref nx]))],nx+1,fr⟩:=by
  have:¬ nx=100:=by lia
  simp [Cx.set,Cx.add,this]
 exact e2▸h _ _ (.inr ⟨rows,w,n,nx,rfl,rfl,hn,Nat.lt_succ_self _⟩)
theorem told_aug {o:Operator} {p1 p2 p3 p4 p5 p6 p7:Pos} {k1 k2:Nat} {v:Expr} {j:Nat} {R:List Tok2} {w w':Str} {n n':Int} {K:Fl→Cx→Prop} (hT:Told (R++[(chars w,n)]) obj nx) (ht:loc.lookup ("told":Str)=some (.ref 100)) (hj:j<2)
  (hv:∀ K,(∀ y,(∀ cx (K:SV→Cx→Prop),K (if j=0 then .str w' else .int n') cx→Sp2 c d u (fun a b=>inplaceOp o a b) VR (if j=0 then .str w else .int n) y cx K)→K y ⟨loc,obj,nx,fr⟩)→Sp c d u (fun L=>eval v (e.env L)) VR ⟨loc,obj,nx,fr⟩ K)
  (h:∀ obj',Told (R++[(chars (if j=0 then w' else w),if j=0 then n else n')]) obj' nx→K .next ⟨loc,obj',nx,fr⟩) :
  SpS c d u e (.AugAssign (.Subscript (.Subscript (.Name "told" p1) (.UnaryOp .USub (.Constant (.int 1) k1 p2) p3) p4) (.Constant (.int (j:Int)) k2 p5) p6) o v p7) ⟨loc,obj,nx,fr⟩ K:=by
 rcases hT with ⟨e0,_,_⟩ | ⟨R',w1,n1,k,e0,rfl,hk1,hn⟩
 ·simp at e0
 refine hide fun Go jo=>?_
 obtain ⟨rfl,e1⟩:=List.append_inj' e0 rfl
 have e1:=List.cons.inj e1
 obtain ⟨e2,e3⟩:=Prod.mk.inj e1.1
 have ew:w=w1:=by rw [str_chars w,str_chars w1,e2]
 subst ew; subst e3
 refine jo ?_
 have nk:((100:Nat)==k)=false:=by simp; lia
 have l100:List.lookup 100 [(k,SO.list [.str w,.int n]),(100,.list (R.map rowS++[.ref k]))]=some (.list (R.map rowS++[.ref k])):=by simp [List.lookup,nk]
 have lk:List.lookup k [(k,SO.list [.str w,.int n]),(100,.list (R.map rowS++[.ref k]))]=some (.list [.str w,.int n]):=by simp [List.lookup]
 refine ss_augs (sp_sub (sp_name ht (sp_un (sp_int (o_negi (i_list (j:=R.length) (x:=.ref k) l100 (by decide) ?_ ?_ (sp_int ?_))))) hk hl))
 ·simp only [List.length_append,List.length_map,List.length_singleton]
  exact seqIndex_neg1 _
 ·simp
 ·refine g_at (j:=j) (x:=if j=0 then .str w else .int n) lk (by lia) ?_ ?_ (hv _ fun y hy=>hy _ _ ?_)
  ·clear hv h; rcases lt2 hj with rfl | rfl <;> rfl
  ·clear hv h; rcases lt2 hj with rfl | rfl <;> rfl
  ·refine s_at lk (by simpa using hj) (by show (2:Nat)<1000; decide) ?_
   have h100:¬ (100:Nat)=k:=by lia
   have es:(Cx.set ⟨loc,[(k,SO.list [.str w,.int n]),(100,.list (R.map rowS++[.ref k]))],nx,fr⟩ k (.list ([SV.str w,.int n].set j (if j=0 then .str w' else .int n'))))=⟨loc,[(k,.list [.str (if j=0 then w' else w),.int (if j=0 then n else n')]),(100,.list (R.map rowS++[.ref k]))],nx,fr⟩:=by
    clear hv h; rcases lt2 hj with rfl | rfl <;> simp [Cx.set,h100]
   exact es▸h _ (.inr ⟨R,_,_,k,rfl,rfl,hk1,hn⟩)
end
noncomputable def ltok_d:{ x:Df // defAt ["_law_tokens"] prg=some x }:=⟨_,rfl⟩
noncomputable abbrev ltEn:En:=enOf 924 ltok_d.1 "_law_tokens" 923 []
structure TokFacts (c:Cst):Prop where
 ltok:FnK c 924 ltok_d.1 "_law_tokens" "_law_tokens" .none 923 []
 enumN:nsIn c.K mainGlobals "enumerate" = some none
 lenN:nsIn c.K mainGlobals "len" = some none
noncomputable def cost (l:List Tok2):Nat:=(l.map fun t=>1+t.1.length).sum
noncomputable def wt (p:Pc):Nat:=1+(chars p.lone).length+(p.words.map fun w=>1+w.length).sum
noncomputable def rowWt (row:List Pc):Nat:=(row.map wt).sum
theorem cost_snoc (l:List Tok2) (t:Tok2):cost (l++[t])=cost l+(1+t.1.length):=by simp [cost]
theorem cost_len (l:List Tok2):l.length≤cost l:=by
 induction l with
 | nil=>exact Nat.le_refl _
 | cons x l ih=>simp only [cost,List.map_cons,List.sum_cons,List.length_cons] at ih ⊢; lia
theorem str_nil (x:Str):decide (x = "")=(chars x).isEmpty:=by
 have h:x = ""↔chars x=[]:=by
  constructor
  ·rintro rfl; exact chars_empty
  ·intro h; rw [str_chars x,h]; rfl
 have z:∀ l:List Nat,decide (l=[])=l.isEmpty:=by intro l; cases l <;> rfl
 exact (decide_eq_decide.mpr h).trans (z _)
noncomputable def wf (b:Bool) (n:Int) (td:List Tok2) (w:List Nat):List Tok2:=if b=true then lastMap (fun x=>(x.1++w,x.2)) td else td++[(w,n)]
noncomputable abbrev rowSV (row:List Pc):SV:=.fl (row.map pieceS)
structure LtL (R:List (List Pc)) (n:Int) (loc:List (Str×SV)):Prop where
 rows:loc.lookup ("rows":Str)=some (.fl (R.map rowSV))
 told:loc.lookup ("told":Str)=some (.ref 100)
 at_:loc.lookup ("at":Str)=some (.int n)
theorem LtL.put {R:List (List Pc)} {n:Int} {loc:List (Str×SV)} (h:LtL R n loc) {x:Str} {v:SV} (h1:("rows":Str)≠x:=by decide) (h2:("told":Str)≠x:=by decide) (h3:("at":Str)≠x:=by decide):LtL R n (setL x v loc) :=
 ⟨by rw [lookup_setL,if_neg h1]; exact h.rows,by rw [lookup_setL,if_neg h2]; exact h.told,by rw [lookup_setL,if_neg h3]; exact h.at_⟩
section
variable {c:Cst} (T:TokFacts c) {d u:Nat} {fr:List Nat} {R:List (List Pc)} {n:Int}
noncomputable abbrev wordLoop:Stmt:=stAt (forBody (stAt (forBody (stAt ltok_d.1.2.1 1)) 1)) 0
inductive WdI (R:List (List Pc)) (n:Int) (fr:List Nat) (p:Pc) (g b:Bool) (td0:List Tok2) (more:Nat) (xs:List SV) (cx:Cx):Prop
 | mk (loc:List (Str×SV)) (obj:List (Nat×SO)) (nx:Nat) (td:List Tok2) (ws:List Str) (e:xs=ws.map SV.str) (ec:cx=⟨loc,obj,nx,fr⟩) (hL:LtL R n loc) (hg:loc.lookup ("going":Str)=some (.bool g)) (hgap:loc.lookup ("gap":Str)=some (.str p.gap)) (hlone:loc.lookup ("lone":Str)=some (.str p.lone)) (hT:Told td obj nx) (hne:g=true→td≠[]) (hn0:td0≠[]∨(p.words≠[]∧ws=[])→td≠[]) (hf:(ws.map chars).foldl (wf b (n+1)) td=(p.words.map chars).foldl (wf b (n+1)) td0) (hc:cost td+(ws.map fun w=>1+w.length).sum+more≤1000000)
theorem words_c {p:Pc} {g b:Bool} (hb:(g&&(chars p.gap).isEmpty)=b) {loc:List (Str×SV)} {obj:List (Nat×SO)} {nx more:Nat} {td0:List Tok2} {Kf:Fl→Cx→Prop} (hL:LtL R n loc) (hg:loc.lookup ("going":Str)=some (.bool g)) (hgap:loc.lookup ("gap":Str)=some (.str p.gap)) (hw:loc.lookup ("words":Str)=some (.fl (p.words.map .str))) (hlone:loc.lookup ("lone":Str)=some (.str p.lone))
  (hT:Told td0 obj nx) (hne:g=true→td0≠[]) (hc:cost td0+(p.words.map fun w=>1+w.length).sum+more≤1000000)
  (h:∀ loc' obj' nx' td,td=(p.words.map chars).foldl (wf b (n+1)) td0→LtL R n loc'→loc'.lookup ("lone":Str)=some (.str p.lone)→Told td obj' nx'→(td0≠[]∨p.words≠[]→td≠[])→cost td+more≤1000000→Kf .next ⟨loc',obj',nx',fr⟩) :
  SpS c (d+1) (u+3) ltEn wordLoop ⟨loc,obj,nx,fr⟩ Kf:=by
 refine ss_for (WdI R n fr p g b td0 more)
  (it_fl (sp_name hw ⟨_,rfl,loc,obj,nx,td0,p.words,rfl,rfl,hL,hg,hgap,hlone,hT,hne,?_,rfl,hc⟩)) (fun x xs cx hI=>?_) (fun cx hI=>?_)
 ·rintro (h | ⟨h1,h2⟩)
  ·exact h
  ·exact absurd h2 h1
 ·refine hide fun Go jo=>?_
  obtain ⟨loc',obj',nx',td,ws,e,rfl,hL,hg,hgap,hlone,hT,hne,hn0,hf,hc⟩:=hI
  refine jo ?_
  cases ws with
  | nil=>cases e
  | cons w ws =>
  simp only [List.map_cons,List.cons.injEq] at e
  refine hide fun Go jo=>?_
  obtain ⟨rfl,rfl⟩:=e
  refine jo ?_
  simp only [List.map_cons,List.sum_cons,List.foldl_cons] at hf hc
  refine a_name ?_
  refine ss_cons (ss_if (st_and (st_val (sp_name (get_ne hg) (tr_bool ?_)))))
  have app:b=false→SpSs c (d+1) (u+3) ltEn (elseOf (stAt (forBody wordLoop) 0)) ⟨setL ("word":Str) (.str w) loc',obj',nx',fr⟩ (Then c (d+1) (u+3) ltEn [] (LoopK (WdI R n fr p g b td0 more (ws.map SV.str)) Kf)):=fun e=>by
   subst e
   refine ss_cons (told_app rfl rfl hT (by have:=cost_len td; lia) hL.put.told (fun obj nx K hK=>sp_name get_put hK) (fun obj nx K hK=>sp_bin (sp_name hL.put.at_ (sp_int (o_addi hK)))) fun obj2 nx2 hT2=>?_)
   refine ss_nil (ss_nil ⟨_,obj2,nx2,_,ws,rfl,rfl,hL.put,get_ne hg,get_ne hgap,get_ne hlone,hT2,fun _=>by simp,fun _=>by simp,?_,?_⟩)
   ·rw [← hf]; rfl
   ·rw [cost_snoc]; show cost td+(1+w.cps.toList.length)+_+more≤_; simp; have:w.length=w.cps.size:=rfl; lia
  cases g with
  | false=>exact ite_f (by decide) (ite_f (by decide) (app hb.symm))
  | true =>
   refine ite_t rfl (st_and (st_cmp (sp_name (get_ne hgap) (sp_str (o_eqs ⟨_,rfl,?_⟩)))))
   rw [str_nil]
   cases hq:(chars p.gap).isEmpty with
   | false=>exact ite_f (by decide) (ite_f (by decide) (app (by rw [← hb,hq]; rfl)))
   | true =>
    refine ite_t rfl (st_and_nil (ite_t rfl ?_))
    refine hide fun Go jo=>?_
    obtain ⟨R0,t0,rfl⟩:=(nil_or_snoc td).resolve_left (hne rfl)
    obtain ⟨w0,n0⟩:=t0
    refine jo ?_
    rw [show (w0,n0)=(chars ⟨w0.toArray⟩,n0) from by simp [chars]] at hT hf hc hne
    rw [cost_snoc] at hc
    dsimp only at hc
    have hlen:(⟨w0.toArray⟩:Str).length+w.length≤16777216:=by
     show w0.toArray.size+w.length≤_
     have:(chars (⟨w0.toArray⟩:Str)).length=w0.toArray.size:=by simp [chars]
     lia
    refine ss_cons (told_aug (j:=0) (w':=(⟨w0.toArray⟩:Str)++w) (n':=0) rfl rfl hT hL.put.told (by decide) (fun K hK=>sp_name get_put (hK _ fun cx K hk=>o_iadds hlen hk)) fun obj2 hT2=>?_)
    rw [if_pos rfl,if_pos rfl] at hT2
    refine ss_nil (ss_nil ⟨_,obj2,nx',_,ws,rfl,rfl,hL.put,get_ne hg,get_ne hgap,get_ne hlone,hT2,fun _=>by simp,fun _=>by simp,?_,?_⟩)
    ·rw [← hf,← hb,hq]
     simp only [wf,Bool.and_self,if_true,lastMap_snoc]
     rw [chars_app]
    ·rw [cost_snoc,chars_app,List.length_append]
     have:(chars w).length=w.length:=by simp [chars,Str.length]
     lia
 ·refine hide fun Go jo=>?_
  obtain ⟨loc',obj',nx',td,ws,e,rfl,hL,hg,hgap,hlone,hT,hne,hn0,hf,hc⟩:=hI
  refine jo ?_
  cases ws with
  | cons w ws=>cases e
  | nil =>
  refine ss_nil (h loc' obj' nx' td hf hL hlone hT (fun hq=>hn0 (hq.imp id fun q=>⟨q,rfl⟩)) ?_)
  simpa using hc
theorem wt_eq (p:Pc):wt p=(p.words.map fun w=>1+w.length).sum+(1+(chars p.lone).length):=by unfold wt; lia
theorem pyPiece_eq (n:Int) (st:List Tok2×Bool) (p:Pc):pyPiece n st p=(if (chars p.lone).isEmpty=true then (p.words.map chars).foldl (wf (st.2&&(chars p.gap).isEmpty) n) st.1 else (p.words.map chars).foldl (wf (st.2&&(chars p.gap).isEmpty) n) st.1++[(chars p.lone,n)],(chars p.lone).isEmpty):=rfl
noncomputable abbrev pieceLoop:Stmt:=stAt (forBody (stAt ltok_d.1.2.1 1)) 1
inductive PiI (R:List (List Pc)) (n:Int) (fr:List Nat) (row:List Pc) (td0:List Tok2) (more:Nat) (xs:List SV) (cx:Cx):Prop
 | mk (loc:List (Str×SV)) (obj:List (Nat×SO)) (nx:Nat) (st:List Tok2×Bool) (ps:List Pc) (e:xs=ps.map pieceS) (hr:∀ p∈ps,(chars p.lone).isEmpty=true→p.words≠[]) (ec:cx=⟨loc,obj,nx,fr⟩) (hL:LtL R n loc) (hg:loc.lookup ("going":Str)=some (.bool st.2)) (hT:Told st.1 obj nx) (hne:st.2=true→st.1≠[]) (hf:ps.foldl (pyPiece (n+1)) st=row.foldl (pyPiece (n+1)) (td0,false)) (hc:cost st.1+rowWt ps+more≤1000000)
theorem pieces_c {row:List Pc} (hr:∀ p∈row,(chars p.lone).isEmpty=true→p.words≠[]) {loc:List (Str×SV)} {obj:List (Nat×SO)} {nx more:Nat} {td0:List Tok2} {Kf:Fl→Cx→Prop} (hL:LtL R n loc) (hg:loc.lookup ("going":Str)=some (.bool false)) (hrow:loc.lookup ("row":Str)=some (rowSV row))
  (hT:Told td0 obj nx) (hc:cost td0+rowWt row+more≤1000000)
  (h:∀ loc' obj' nx' st,st=row.foldl (pyPiece (n+1)) (td0,false)→LtL R n loc'→loc'.lookup ("going":Str)=some (.bool st.2)→Told st.1 obj' nx'→(st.2=true→st.1≠[])→cost st.1+more≤1000000→Kf .next ⟨loc',obj',nx',fr⟩) :
  SpS c (d+1) (u+3) ltEn pieceLoop ⟨loc,obj,nx,fr⟩ Kf:=by
 refine ss_for (PiI R n fr row td0 more)
  (it_fl (sp_name hrow ⟨_,rfl,loc,obj,nx,(td0,false),row,rfl,hr,rfl,hL,hg,hT,(fun e=>by cases e),rfl,hc⟩)) (fun x xs cx hI=>?_) (fun cx hI=>?_)
 ·refine hide fun Go jo=>?_
  obtain ⟨loc',obj',nx',st,ps,e,hr,rfl,hL,hg,hT,hne,hf,hc⟩:=hI
  refine jo ?_
  cases ps with
  | nil=>cases e
  | cons p ps =>
  simp only [List.map_cons,List.cons.injEq] at e
  refine hide fun Go jo=>?_
  obtain ⟨rfl,rfl⟩:=e
  refine jo ?_
  simp only [rowWt,List.map_cons,List.sum_cons,List.foldl_cons] at hf hc
  rw [wt_eq] at hc
  refine a_tup (show SpAs _ _ _ _ _ _ _ _ from a_name (a_name (a_name (a_name ?_))))
  refine ss_cons (words_c rfl hL.put.put.put.put (get_ne (get_ne (get_ne (get_ne hg)))) (get_ne (get_ne (get_ne get_put))) (get_ne get_put) get_put hT hne (more:=(1+(chars p.lone).length)+rowWt ps+more) (by simp only [rowWt]; lia) fun loc2 obj2 nx2 td etd hL2 hlone hT2 hn2 hc2=>?_)
  refine ss_cons (ss_assign (sp_cmp (sp_name hlone (sp_str (o_eqs ?_)))))
  rw [str_nil]
  refine ss_cons (ss_if (st_cmp (sp_name (get_ne hlone) (sp_str (o_nes ⟨_,rfl,?_⟩)))))
  rw [str_nil]
  have ep:pyPiece (n+1) st p=(if (chars p.lone).isEmpty=true then td else td++[(chars p.lone,n+1)],(chars p.lone).isEmpty):=by rw [pyPiece_eq,etd]
  rw [ep] at hf
  cases hq:(chars p.lone).isEmpty with
  | true =>
   rw [hq] at hf
   refine ite_f (by decide) (ss_nil (ss_nil ⟨_,obj2,nx2,(td,true),ps,rfl,fun q hq=>hr q (.tail _ hq),rfl,hL2.put,get_put,hT2,fun _=>hn2 (.inr (hr p (.head _) hq)),hf,?_⟩))
   dsimp only; lia
  | false =>
   rw [hq] at hf
   refine ite_t rfl (ss_cons (told_app rfl rfl hT2 (by have:=cost_len td; lia) hL2.put.told (fun obj nx K hK=>sp_name (get_ne hlone) hK) (fun obj nx K hK=>sp_bin (sp_name hL2.put.at_ (sp_int (o_addi hK)))) fun obj3 nx3 hT3=>?_))
   refine ss_nil (ss_nil ⟨_,obj3,nx3,(td++[(chars p.lone,n+1)],false),ps,rfl,fun q hq=>hr q (.tail _ hq),rfl,hL2.put,get_put,hT3,(fun e=>by cases e),hf,?_⟩)
   dsimp only
   rw [cost_snoc]
   dsimp only; lia
 ·refine hide fun Go jo=>?_
  obtain ⟨loc',obj',nx',st,ps,e,hr,rfl,hL,hg,hT,hne,hf,hc⟩:=hI
  refine jo ?_
  cases ps with
  | cons p ps=>cases e
  | nil=>exact ss_nil (h loc' obj' nx' st hf hL hg hT hne (by simpa [rowWt] using hc))
noncomputable def rowsWt (rows:List (List Pc)):Nat:=(rows.map rowWt).sum+rows.length
noncomputable abbrev rowLoop:Stmt:=stAt ltok_d.1.2.1 1
inductive LtI (rows:List (List Pc)) (fr:List Nat) (j:Nat) (xs:List SV) (cx:Cx):Prop
 | mk (loc:List (Str×SV)) (obj:List (Nat×SO)) (nx:Nat) (td:List Tok2) (rs:List (List Pc)) (e:xs=rs.map rowSV) (hr:∀ row∈rs,∀ p∈row,(chars p.lone).isEmpty=true→p.words≠[]) (ec:cx=⟨loc,obj,nx,fr⟩) (h1:loc.lookup ("rows":Str)=some (.fl (rows.map rowSV))) (h2:loc.lookup ("told":Str)=some (.ref 100)) (hT:Told td obj nx) (hj:j+rs.length=rows.length) (hf:pyRows ((j:Int)+1) td rs=pyRows 1 [] rows) (hc:cost td+(rs.map rowWt).sum≤1000000)
include T in
theorem ltok_c (hd:d<990) {rows:List (List Pc)} (hr:∀ row∈rows,∀ p∈row,(chars p.lone).isEmpty=true→p.words≠[]) (hw:(rows.map rowWt).sum≤1000000) (hz:rows.length≤1000) {cx:Cx} {K:SV→Cx→Prop} (h:K (.fl ((pyRows 1 [] rows).map rowS)) (cx.upd [] [] cx.fr)):SpC c d u (.ref 924) [.fl (rows.map rowSV)] cx K:=by
 have hlo:∀ l:List (List Pc),SV.los (l.map rowSV)=true:=by
  intro l
  induction l with
  | nil=>rfl
  | cons x l ih =>
   have:∀ l:List Pc,SV.los (l.map pieceS)=true:=by
    intro l
    induction l with
    | nil=>rfl
    | cons y l ih=>simp only [List.map_cons,los_cons,ih,pieceS_lo,Bool.and_true]
   simp only [List.map_cons,SV.los,ih,SV.lo,this,Bool.and_true]
 refine fn_pos (obs:=[]) ["rows"] T.ltok (by exact aR ‹_› rfl) (fun name qual doc pm an cd ct cl vs hv=>?_) (by rfl) (by decide) (by rfl) (List.nil_sublist _) lo_nil (by simp only [SV.los,SV.lo,hlo,Bool.and_true]) ?_
 ·obtain ⟨a,rfl⟩:=len1 hv
  rfl
 ·refine ss_cons (ss_assign (sp_list (show SpArgs _ _ _ _ _ _ _ from ⟨by decide,?_⟩)))
  refine ss_cons (ss_enum (LtI rows cx.fr)
   T.enumN (show SpArgs _ _ _ _ _ _ _ from sp_name rfl ⟨_,rfl,_,_,_,[],rows,rfl,hr,rfl,rfl,rfl,.inl ⟨rfl,rfl,by show (100:Nat)<101; decide⟩,by simp,rfl,by simpa [cost] using hw⟩) (fun j x xs cx' hI=>?_) (fun j cx' hI=>?_))
  ·refine hide fun Go jo=>?_
   obtain ⟨loc',obj',nx',td,rs,e,hr,rfl,h1,h2,hT,hj,hf,hc⟩:=hI
   refine jo ?_
   cases rs with
   | nil=>cases e
   | cons row rs =>
   simp only [List.map_cons,List.cons.injEq] at e
   refine hide fun Go jo=>?_
   obtain ⟨rfl,rfl⟩:=e
   refine jo ?_
   simp only [List.map_cons,List.sum_cons,List.length_cons,pyRows] at hf hc hj
   refine a_tup (show SpAs _ _ _ _ _ _ _ _ from a_name (a_name ?_))
   refine ss_cons (ss_assign (sp_bool ?_))
   have hL:LtL rows (j:Int) (setL ("going":Str) (.bool false) (setL ("row":Str) (rowSV row) (setL ("at":Str) (.int j) loc'))):=⟨get_ne (get_ne (get_ne h1)),get_ne (get_ne (get_ne h2)),get_ne (get_ne get_put)⟩
   refine ss_cons (pieces_c (row:=row) (hr row (.head _)) hL get_put (get_ne get_put) hT (more:=(rs.map rowWt).sum) (by lia) fun loc2 obj2 nx2 st est hL2 hg hT2 hne hc2=>?_)
   have next:∀ td2 obj3 nx3,Told td2 obj3 nx3→cost td2+(rs.map rowWt).sum≤1000000→pyRow ((j:Int)+1) (!rs.isEmpty) td row=td2→LoopK (LtI rows cx.fr (j+1) (rs.map rowSV)) (Then c (d+1) (u+3) ltEn (ltok_d.1.2.1.drop 2) fun fl cx'=>Back cx [] K fl.val cx') .next ⟨loc2,obj3,nx3,cx.fr⟩:=fun td2 obj3 nx3 hT3 hc3 e3 =>
    ⟨loc2,obj3,nx3,td2,rs,rfl,fun r hr'=>hr r (.tail _ hr'),rfl,hL2.rows,hL2.told,hT3,by lia,by rw [← hf,e3]; rfl,hc3⟩
   have er:pyRow ((j:Int)+1) (!rs.isEmpty) td row=if (st.2 && !rs.isEmpty)=true then lastMap (fun x=>(x.1,x.2+1)) st.1 else st.1:=by rw [est]; rfl
   refine ss_cons (ss_if (st_and (st_val (sp_name hg (tr_bool ?_)))))
   cases hs:st.2 with
   | false=>exact ite_f (by decide) (ite_f (by decide) (ss_nil (ss_nil (next _ _ _ hT2 hc2 (by rw [er,hs]; rfl)))))
   | true =>
    refine ite_t rfl (st_and (st_cmp (sp_bin (sp_name hL2.at_ (sp_int (o_addi (sp_call (sp_bltn (v:=.builtin "len") T.lenN (by decide +kernel) ⟨_,rfl,.inl ⟨_,rfl⟩,sp_name hL2.rows (c_lenf (by simp; lia) (o_lti ⟨_,rfl,?_⟩))⟩))))))))
    rw [List.length_map]
    by_cases hm:(j:Int)+1<rows.length
    ·refine ite_t (by simpa using hm) (st_and_nil (ite_t rfl ?_))
     have hre:rs.isEmpty=false:=by cases rs with | nil=>simp at hj; lia | cons _ _=>rfl
     refine hide fun Go jo=>?_
     obtain ⟨R0,t0,e0⟩:=(nil_or_snoc st.1).resolve_left (hne hs)
     obtain ⟨w0,n0⟩:=t0
     refine jo ?_
     rw [e0,show (w0,n0)=(chars ⟨w0.toArray⟩,n0) from by simp [chars]] at hT2 hc2 er
     refine ss_cons (told_aug (j:=1) (w':="") (n':=n0+1) rfl rfl hT2 hL2.told (by decide) (fun K hK=>sp_int (hK _ fun cx K hk=>o_iaddi hk)) fun obj3 hT3=>?_)
     refine ss_nil (ss_nil (next _ _ _ hT3 ?_ ?_))
     ·rw [cost_snoc] at hc2 ⊢
      exact hc2
     ·rw [er,hs,hre]
      simp only [Bool.not_false,Bool.and_self,if_true,lastMap_snoc]
      rfl
    ·refine ite_f (by simpa using hm) (ite_f (by decide) (ss_nil (ss_nil (next _ _ _ hT2 hc2 ?_))))
     have hre:rs.isEmpty=true:=by cases rs with | nil=>rfl | cons _ _=>simp at hj; lia
     rw [er,hs,hre]; rfl
  ·refine hide fun Go jo=>?_
   obtain ⟨loc',obj',nx',td,rs,e,hr,rfl,h1,h2,hT,hj,hf,hc⟩:=hI
   refine jo ?_
   cases rs with
   | cons row rs=>cases e
   | nil =>
   refine ss_nil (told_settle hT fun hn=>ss_cons (ss_ret (sp_fz (sp_name h2 ⟨100,_,rfl,Nat.le_refl _,rfl,?_⟩))))
   have hf:td=pyRows 1 [] rows:=hf
   rw [hf]
   exact Back.mk [] rfl ob_nil rfl (rows_los _) h
end
noncomputable def lrows_d:{ x:Df // defAt ["_law_rows"] prg=some x }:=⟨_,rfl⟩
noncomputable abbrev roEn (a1 a2:Addr):En:=En.fn "_law_rows" lrows_d.1.2.2 917 (.ref 916) fun _=>[("row",a2),("signs",a1)]
structure RowFacts (c:Cst):Prop where
 lrows:FnK c 917 lrows_d.1 "_law_rows" "_law_rows" .none 916 []
 sumN:nsIn c.K mainGlobals "sum" = some none
 lenN:nsIn c.K mainGlobals "len" = some none
 rangeN:nsIn c.K mainGlobals "range" = some none
 maxN:nsIn c.K mainGlobals "max" = some none
structure GoodP (p:Pc):Prop where
 fine:Fine p
 len:p.wr.length≤100
 ok:PyData.strOk p.wr=true
theorem gap_ok {p:Pc} (h:Fine p):p.gap.length≤2∧PyData.strOk p.gap=true:=by
 rcases h.gap with e | e | e | e <;> rw [e] <;> decide +kernel
noncomputable def wideSV:SV→SV
 | .tup (.str g :: .str w :: _)=>.int ((g.length:Int)+w.length)
 | _=>.none
section
variable {c:Cst} (T:RowFacts c) {d u:Nat} {a1 a2:Addr} {cx:Cx}
noncomputable abbrev roBody:List Stmt:=forBody (stAt lrows_d.1.2.1 1)
include T in
theorem size_c {row:List Pc} {rs:List (List Pc)} {head:Int} {K:Fl→Cx→Prop} (h100:100<cx.nx) (hr:cx.obj.lookup 12=some (.cell a2 (rowSV row))) (hrs:cx.obj.lookup 100=some (.list (rs.map rowSV))) (hl1:cx.loc.lookup ("rows":Str)=some (.ref 100)) (hl2:cx.loc.lookup ("head":Str)=some (.int head))
  (hg:∀ p∈row,GoodP p) (hz:row.length≤1000) (hz2:rs.length≤1000000) (h:∀ nx,cx.nx≤nx→K .next (Cx.put { cx with nx:=nx } "size" (.int (rowSize head rs.length row)))) :
  SpS c (d+1) (u+3) (roEn a1 a2) (stAt roBody 1) cx K:=by
 refine ss_assign (sp_bin (sp_call (sp_bltn (v:=.builtin "sum") T.sumN (by decide +kernel) ⟨_,rfl,.inl ⟨_,rfl⟩,(show SpArgs _ _ _ _ _ _ _ from sp_map (F:=wideSV) (by lia) (it_fl (sp_cell hr ⟨_,rfl,rfl,by simp; lia,fun x hx=>?_,fun nx hn=>?_⟩)))⟩)))
 ·refine hide fun Go jo=>?_
  obtain ⟨p,hp,rfl⟩:=List.mem_map.mp hx
  refine jo ?_
  intro L loc o nx hn ho
  have g:=hg p hp
  have g2:=gap_ok g.fine
  refine a_name ⟨_,rfl,sp_bin (sp_call (sp_bltn (v:=.builtin "len") T.lenN (by decide +kernel) ⟨_,rfl,.inl ⟨_,rfl⟩,sp_sub (sp_name get_put (sp_int (i_tup (j:=0) (by decide) rfl rfl (c_lens (by lia) ?_))))⟩))⟩
  refine sp_call (sp_bltn (v:=.builtin "len") T.lenN (by decide +kernel) ⟨_,rfl,.inl ⟨_,rfl⟩,sp_sub (sp_name get_put (sp_int (i_tup (j:=1) (by decide) rfl rfl (c_lens (by have:=g.len; lia) (o_addi ⟨rfl,nx,Nat.le_refl _,rfl⟩)))))⟩)
 ·rw [show (row.map pieceS).map wideSV=(row.map fun p=>((p.gap.length:Int)+p.wr.length)).map SV.int from by rw [List.map_map,List.map_map]; rfl]
  refine c_sumf (fun n hn=>?_) (by simpa using hz) ?_
  ·refine hide fun Go jo=>?_
   obtain ⟨p,hp,rfl⟩:=List.mem_map.mp hn
   refine jo ?_
   have g:=hg p hp
   have g2:=gap_ok g.fine
   have:=g.len
   lia
  ·refine sp_ifexp (st_cmp (sp_call (sp_bltn (v:=.builtin "len") T.lenN (by decide +kernel) ⟨_,rfl,.inl ⟨_,rfl⟩,sp_name hl1 (c_lenl hrs (by simpa using hz2) (sp_int (o_eqi ⟨_,rfl,?_⟩)))⟩)))
   have es:(row.map fun p=>((p.gap.length:Int)+p.wr.length)).sum=total wide (row.map Pc.pr):=by
    unfold total; rw [List.map_map]; rfl
   rw [List.length_map,es]
   by_cases h1:rs.length=1
   ·refine ite_t (by simp [h1]) (sp_name hl2 (o_addi ?_))
    have:=h nx (Nat.le_of_lt hn)
    rwa [rowSize,if_pos h1] at this
   ·refine ite_f (by simp; lia) (sp_int (o_addi ?_))
    have:=h nx (Nat.le_of_lt hn)
    rwa [rowSize,if_neg h1] at this
end
theorem sees_in {p q:Pc} (hp:Fine p) {ch lc:Nat} (hl:q.wr.cps.back? = some lc):([Txt.slice p.gap none (some 1),one lc].map PyData.str).any (fun y=>PyData.eqv y (.str (one ch)))=(p.gap.cps[0]? == some ch||q.wr.cps.back? == some ch):=by
 have e2:PyData.eqv (.str (one lc)) (.str (one ch))=(q.wr.cps.back? == some ch):=by
  rw [hl]
  show (one lc==one ch)=_
  rw [Bool.eq_iff_iff,beq_iff_eq,beq_iff_eq]
  simp [one]
 have e1:PyData.eqv (.str (Txt.slice p.gap none (some 1))) (.str (one ch))=(p.gap.cps[0]? == some ch):=by
  show (Txt.slice p.gap none (some 1)==one ch)=_
  have k:∀ a:Nat,(one a==one ch)=(some a==some ch):=fun a=>by
   rw [Bool.eq_iff_iff,beq_iff_eq,beq_iff_eq]; simp [one]
  rcases hp.gap with e | e | e | e <;> rw [e]
  ·rw [show Txt.slice (Str.ofString "") none (some 1)=Str.ofString "" from by decide +kernel,show (Str.ofString "").cps[0]? = none from by decide +kernel]
   rw [Bool.eq_iff_iff,beq_iff_eq,beq_iff_eq]
   constructor
   ·intro h; have:=congrArg (fun x:Str=>x.cps.size) h; simp [one] at this; exact absurd this (by decide +kernel)
   ·intro h; cases h
  ·rw [show Txt.slice (Str.ofString " ") none (some 1)=one 32 from by decide +kernel,show (Str.ofString " ").cps[0]? = some 32 from by decide +kernel,k]
  ·rw [show Txt.slice (Str.ofString "\t") none (some 1)=one 9 from by decide +kernel,show (Str.ofString "\t").cps[0]? = some 9 from by decide +kernel,k]
  ·rw [show Txt.slice (Str.ofString "  ") none (some 1)=one 32 from by decide +kernel,show (Str.ofString "  ").cps[0]? = some 32 from by decide +kernel,k]
 simp only [List.map_cons,List.map_nil,List.any_cons,List.any_nil,Bool.or_false,e1,e2]
theorem sees_at {row:List Pc} {k:Nat} {p q:Pc} (hk:row[k]? = some p) (hk1:row[k - 1]? = some q) (ch:Nat):seesAt row ch k=(p.gap.cps[0]? == some ch||q.wr.cps.back? == some ch):=by
 unfold seesAt; rw [hk,hk1]; rfl
theorem slice_ok {p:Pc} (h:Fine p):PyData.strOk (Txt.slice p.gap none (some 1))=true:=by
 rcases h.gap with e | e | e | e <;> rw [e] <;> decide +kernel
noncomputable def from1 (n:Nat):List Nat:=(List.range n).filter fun k=>decide (1≤k)
theorem from1_run (n:Nat):(run 1 1 (n - 1))=(from1 n).map fun (k:Nat)=>SV.int k:=by
 cases n with
 | zero=>rfl
 | succ n =>
  have:from1 (n+1)=(List.range n).map (· + 1):=by
   unfold from1
   rw [List.range_succ_eq_map,List.filter_cons,if_neg (by decide),List.filter_eq_self.mpr (fun k hk=>by obtain ⟨j,_,rfl⟩:=List.mem_map.mp hk; simp)]
  rw [this,List.map_map]
  refine List.map_congr_left fun i _=>?_
  simp; lia
theorem ups_from (row:List Pc) (ch:Nat):ups row ch=(from1 row.length).filter fun k=>seesAt row ch k:=by
 unfold ups from1
 rw [List.filter_filter]
 refine List.filter_congr fun k _=>Bool.and_comm _ _
noncomputable abbrev runFrom (r m:Nat):List SV:=(List.range m).map fun (i:Nat)=>.int ((r:Int)+i)
theorem runFrom_succ (r m:Nat):runFrom r (m+1) = .int r :: runFrom (r+1) m:=by
 unfold runFrom
 rw [List.range_succ_eq_map,List.map_cons,List.map_map]
 rw [show (SV.int ((r:Int)+(0:Nat))) = .int r from by simp]; congr 1; refine List.map_congr_left fun i _=>?_
 simp; lia
theorem rs_up (a m:Nat):Builtin.Range.rangeSize a m 1=((m - a:Nat):Int):=by
 unfold Builtin.Range.rangeSize
 rw [if_pos (by decide)]
 by_cases h:(a:Int)<m
 ·rw [if_pos h,Int.ediv_one]; lia
 ·rw [if_neg h]; lia
theorem small_up {a m:Nat} (ha:a≤1000) (h:m≤1000):Builtin.Range.small a m 1=true:=by
 unfold Builtin.Range.small
 rw [rs_up]
 have f:∀ i:Int,-10000≤i→i≤10000→Builtin.Range.rangeFitsLong i=true:=fun i a b=>by
  unfold Builtin.Range.rangeFitsLong
  rw [decide_eq_true (by lia),decide_eq_true (by lia)]; rfl
 rw [f a (by lia) (by lia),f m (by lia) (by lia),f 1 (by lia) (by lia),f (m - a:Nat) (by lia) (by lia),if_pos (by decide),f _ (by lia) (by lia)]
 simp
inductive PlI (row:List Pc) (sg:Str) (cx1:Cx) (rest:List SV) (cx':Cx):Prop
 | mk (loc:List (Str×SV)) (nx r:Nat) (cs:List Nat) (done:List (Int×Int)) (e1:rest=runFrom r cs.length) (e2:sg.cps.toList.drop r=cs) (e3:done++placesFrom row r cs=placesFrom row 0 sg.cps.toList) (ec:cx'=⟨loc,(cx1.nx,.list (done.map prS)) :: cx1.obj,nx,cx1.fr⟩) (hnx:cx1.nx<nx) (hl:done.length≤r * 1000)
inductive PlJ (row:List Pc) (r ch:Nat) (done:List (Int×Int)) (cx1:Cx) (rest:List SV) (cx':Cx):Prop
 | mk (loc:List (Str×SV)) (nx:Nat) (ks:List Nat) (done2:List (Int×Int)) (e4:rest=ks.map (fun (k:Nat)=>SV.int k)) (hks:∀ k∈ks,1≤k∧k<row.length) (e5:done2++(ks.filter fun k=>seesAt row ch k).map (fun (k:Nat)=>(-(r:Int),(k:Int)))=done++((from1 row.length).filter fun k=>seesAt row ch k).map (fun (k:Nat)=>(-(r:Int),(k:Int)))) (ec:cx'=⟨loc,(cx1.nx,.list (done2.map prS)) :: cx1.obj,nx,cx1.fr⟩) (hnx:cx1.nx<nx) (hrank:loc.lookup ("rank":Str)=some (.int r)) (hl2:done2.length+ks.length≤(r+1) * 1000)
section
variable {c:Cst} (T:RowFacts c) {d u:Nat} (hu:u<8000) {a1 a2:Addr} {cx:Cx}
include T hu
theorem places_c {row:List Pc} {sg:Str} {K:Fl→Cx→Prop} (h100:100<cx.nx) (hr:cx.obj.lookup 12=some (.cell a2 (rowSV row))) (hs:cx.obj.lookup 11=some (.cell a1 (.str sg)))
  (hg:∀ p∈row,GoodP p) (hz:row.length≤1000) (hz2:sg.length≤100) (hok:∀ ch∈sg.cps.toList,PyData.strOk (one ch)=true) (h:∀ nx,cx.nx≤nx→K .next (Cx.put { cx with nx:=nx } "places" (.fl ((placesFrom row 0 sg.cps.toList).map prS)))) :
  SpS c (d+1) (u+3) (roEn a1 a2) (stAt roBody 2) cx K:=by
 refine ss_comp (I:=fun xs cx1=>cx1=cx∧xs=run 0 1 sg.length) (it_rng (sp_call (sp_bltn (v:=.type "range") T.rangeN (by decide +kernel) ⟨_,rfl,.inr (.inl ⟨_,rfl⟩),(show SpArgs _ _ _ _ _ _ _ from sp_call (sp_bltn (v:=.builtin "len") T.lenN (by decide +kernel) ⟨_,rfl,.inl ⟨_,rfl⟩,(show SpArgs _ _ _ _ _ _ _ from sp_cell hs (c_lens (by lia) (c_range1 ⟨?_,sg.length,?_,rfl,rfl⟩)))⟩))⟩))) (fun L xs cx1 hI=>?_)
 ·exact small_up (a:=0) (by decide) (by lia)
 ·exact rs_up 0 sg.length
 refine hide fun Go jo=>?_
 obtain ⟨rfl,rfl⟩:=hI
 refine jo ?_
 refine cl_ids fun hn=>?_
 have hn:cx1.nx∉cx1.obj.map (·.1):=(List.nodup_cons.mp (by simpa using hn)).1
 have n12:(12==cx1.nx)=false:=by simp; lia
 have n11:(11==cx1.nx)=false:=by simp; lia
 refine SpCl.mono (cl_loop (turn2a _ _ _ _ _ _ _ _) (PlI row sg cx1) (fun x rest cx' hI=>?_) ⟨[],cx1.nx+1,0,sg.cps.toList,[],?_,rfl,rfl,rfl,Nat.lt_succ_self _,Nat.zero_le _⟩) fun cx' hI=>?_
 rotate_left 2
 ·refine hide fun Go jo=>?_
  obtain ⟨loc,nx,r,cs,done,e1,e2,e3,rfl,hnx,hl⟩:=hI
  have:cs=[]:=by cases cs with | nil=>rfl | cons _ _=>rw [List.length_cons,runFrom_succ] at e1; cases e1
  subst this
  refine jo ?_
  rw [placesFrom,List.append_nil] at e3
  refine ⟨_,lookup_head,?_⟩
  have:Cx.outC cx1 ⟨loc,(cx1.nx,.list (done.map prS)) :: cx1.obj,nx,cx1.fr⟩ cx1.nx = { cx1 with nx:=nx }:=by
   simp only [Cx.outC,Cx.drop,List.filter_cons,bne_self_eq_false,Bool.false_eq_true,if_false,filter_same hn]
  rw [this,e3]
  exact h nx (Nat.le_of_lt hnx)
 ·refine hide fun Go jo=>?_
  obtain ⟨loc,nx,r,cs,done,e1,e2,e3,rfl,hnx,hl⟩:=hI
  refine jo ?_
  cases cs with
  | nil=>cases e1
  | cons ch cs =>
  rw [List.length_cons,runFrom_succ] at e1
  simp only [List.cons.injEq] at e1
  refine hide fun Go jo=>?_
  obtain ⟨rfl,rfl⟩:=e1
  refine jo ?_
  have hch:sg.cps.toList[r]? = some ch:=by
   have:=congrArg List.head? e2
   rw [List.head?_drop] at this; simpa using this
  have hcs:sg.cps.toList.drop (r+1)=cs:=by rw [← List.drop_drop,e2]; rfl
  have hr1:r<sg.length:=by
   have:=(List.getElem?_eq_some_iff.mp hch).1; rw [Array.length_toList] at this; exact this
  have hmem:ch∈sg.cps.toList:=List.mem_of_getElem? hch
  rw [placesFrom,ups_from] at e3
  refine a_name ?_
  have l12:List.lookup 12 ((cx1.nx,SO.list (done.map prS)) :: cx1.obj)=some (.cell a2 (rowSV row)):=by rw [List.lookup_cons,n12]; exact hr
  refine b_for rfl rfl (fun _ _=>rfl) (it_rng (sp_call (sp_bltn (v:=.type "range") T.rangeN (by decide +kernel) ⟨_,rfl,.inr (.inl ⟨_,rfl⟩),(show SpArgs _ _ _ _ _ _ _ from sp_int (sp_call (sp_bltn (v:=.builtin "len") T.lenN (by decide +kernel) ⟨_,rfl,.inl ⟨_,rfl⟩,(show SpArgs _ _ _ _ _ _ _ from sp_cell l12 (c_lenf (by simp; lia) (c_range2 ⟨?_,row.length - 1,?_,?_⟩)))⟩)))⟩)))
  ·rw [List.length_map]; exact small_up (a:=1) (by decide) hz
  ·rw [List.length_map]; exact rs_up 1 row.length
  refine SpCl.mono (cl_loop (turn2b _ _ _ _ _ _ _ _) (PlJ row r ch done cx1) (fun x rest cx' hI=>?_) ⟨_,nx,from1 row.length,done,?_,fun k hk=>?_,rfl,rfl,hnx,get_put,?_⟩) fun cx' hI=>?_
  rotate_left 4
  ·refine hide fun Go jo=>?_
   obtain ⟨loc2,nx2,ks,done2,e4,_,e5,rfl,hnx2,_,hl2⟩:=hI
   have:ks=[]:=by cases ks with | nil=>rfl | cons _ _=>cases e4
   subst this
   refine jo ?_
   simp only [List.filter_nil,List.map_nil,List.append_nil] at e5
   exact ⟨loc2,nx2,r+1,cs,done2,rfl,hcs,by rw [e5,List.append_assoc]; exact e3,rfl,hnx2,by simpa using hl2⟩
  ·refine hide fun Go jo=>?_
   obtain ⟨loc2,nx2,ks,done2,e4,hks,e5,rfl,hnx2,hrank,hl2⟩:=hI
   refine jo ?_
   cases ks with
   | nil=>cases e4
   | cons k ks =>
   simp only [List.map_cons,List.cons.injEq] at e4
   refine hide fun Go jo=>?_
   obtain ⟨rfl,rfl⟩:=e4
   obtain ⟨hk1,hk2⟩:=hks k (.head _)
   have ek:row[k]? = some row[k]:=List.getElem?_eq_getElem hk2
   have ek1:row[k - 1]? = some row[k - 1]:=List.getElem?_eq_getElem (by lia)
   have gp:=hg _ (List.getElem_mem hk2)
   have gq:=hg _ (List.getElem_mem (show k - 1<row.length by lia))
   obtain ⟨lc,hlc⟩:=gq.fine.wr
   refine jo ?_
   have l12':List.lookup 12 ((cx1.nx,SO.list (done2.map prS)) :: cx1.obj)=some (.cell a2 (rowSV row)):=by rw [List.lookup_cons,n12]; exact hr
   have l11':List.lookup 11 ((cx1.nx,SO.list (done2.map prS)) :: cx1.obj)=some (.cell a1 (.str sg)):=by rw [List.lookup_cons,n11]; exact hs
   have lat:(setL ("at":Str) (.int k) loc2).lookup ("at":Str)=some (.int k):=get_put
   have s1:(seqIndex? (r:Int) sg.length).bind (sg.cps[·]?)=some ch:=by
    rw [index_in ⟨by lia,by lia⟩]; simpa using hch
   have s2:seqIndex? (k:Int) (row.map pieceS).length=some k:=index_in ⟨by lia,by simpa using hk2⟩
   have s3:seqIndex? ((k:Int) - 1) (row.map pieceS).length=some (k - 1):=by
    rw [index_in ⟨by lia,by simp; lia⟩]; congr 1; lia
   have s4:(seqIndex? (-1) row[k - 1].wr.length).bind (row[k - 1].wr.cps[·]?)=some lc:=by
    rcases str_last row[k - 1].wr with ⟨_,h0⟩ | ⟨y,_,h1,h2⟩
    ·rw [h0] at hlc; cases hlc
    ·rw [h2] at hlc; cases hlc; exact h1
   refine a_name (b_if (st_cmp (sp_sub (sp_cell l11' (sp_name (get_ne hrank) (i_str (by lia) s1 ?_))))))
   refine sp_tup (show SpArgs _ _ _ _ _ _ _ from sp_subsl (sp_sub (sp_sub (sp_cell l12' (sp_name lat (i_fl (by lia) s2 (by rw [List.getElem?_map,ek]; rfl) (sp_int (i_tup (j:=0) (by decide) rfl rfl ?_))))))))
   refine sp_int ⟨_,rfl,sl_str (by have:=(gap_ok gp.fine).1; lia) ?_⟩
   refine sp_sub (sp_sub (sp_sub (sp_cell l12' (sp_bin (sp_name lat (sp_int (o_subi (i_fl (by lia) s3 (by rw [List.getElem?_map,ek1]; rfl) (sp_int (i_tup (j:=1) (by decide) rfl rfl (sp_un (sp_int (o_negi (i_str (by decide) s4 ⟨by show 2≤1000; decide,?_⟩))))))))))))))
   refine o_intup (ys:=[Txt.slice row[k].gap none (some 1),one lc]) (by exact aS ‹_› rfl) (hok ch hmem) (fun y hy=>?_) ⟨_,rfl,?_⟩
   ·simp only [List.mem_cons,List.not_mem_nil,or_false] at hy
    rcases hy with rfl | rfl
    ·exact slice_ok gp.fine
    ·have:=gq.ok
     simp only [PyData.strOk,Array.all_eq_true_iff_forall_mem] at this ⊢
     intro x hx
     simp [one] at hx
     subst hx
     exact this _ (Array.mem_of_back? hlc)
   ·rw [sees_in gp.fine hlc,← sees_at ek ek1]
    simp only [List.filter_cons] at e5
    have hks':∀ k∈ks,1≤k∧k<row.length:=fun k hk=>hks k (.tail _ hk)
    simp only [List.length_cons] at hl2
    cases hq:seesAt row ch k with
    | true =>
     rw [hq,if_pos rfl,List.map_cons] at e5
     refine ite_t rfl (b_emit (sp_tup (show SpArgs _ _ _ _ _ _ _ from sp_un (sp_name (get_ne hrank) (o_negi (sp_name lat ⟨by show 2≤1000; decide,_,lookup_head,?_,?_⟩))))))
     ·rw [List.length_map]
      have:(r+1) * 1000≤101 * 1000:=Nat.mul_le_mul_right _ (by lia)
      lia
     ·refine ⟨setL ("at":Str) (.int k) loc2,nx2,ks,done2++[(-(r:Int),(k:Int))],rfl,hks',by rw [List.append_assoc]; exact e5,?_,hnx2,get_ne hrank,by simp; lia⟩
      refine (set_head (loc:=setL ("at":Str) (.int k) loc2) hn).trans ?_
      rw [List.map_append]; rfl
    | false =>
     rw [hq,if_neg (by decide)] at e5
     exact ite_f (by decide) ⟨setL ("at":Str) (.int k) loc2,nx2,ks,done2,rfl,hks',e5,rfl,hnx2,get_ne hrank,by lia⟩
  ·rw [List.length_map]; exact from1_run _
  ·obtain ⟨h1,h2⟩:=List.mem_filter.mp hk
   exact ⟨by simpa using h2,List.mem_range.mp h1⟩
  ·have:=List.length_filter_le (fun k=>decide (1≤k)) (List.range row.length)
   rw [List.length_range] at this
   show done.length+((List.range row.length).filter _).length≤_
   lia
 ·show run 0 1 sg.length=runFrom 0 sg.cps.toList.length
  simp [run,runFrom]; rfl
end
theorem datas_some {x:SV} {xs:List SV} {a:PyData} {b:List PyData} (h1:SV.data x=some a) (h2:SV.datas xs=some b):SV.datas (x :: xs)=some (a :: b):=by
 show (match SV.data x,SV.datas xs with | some a,some b=>some (a :: b) | _,_=>Option.none)=_
 rw [h1,h2]
theorem datas_map {α:Type} {f:α→SV} {g:α→PyData}:∀ {l:List α},(∀ x∈l,(f x).data=some (g x))→SV.datas (l.map f)=some (l.map g)
 | [],_=>rfl
 | x :: l,h=>by
  exact datas_some (h x (.head _)) (datas_map fun y hy=>h y (.tail _ hy))
theorem shaped_list {α:Type} {g:α→PyData} (n:Nat) (hn:n<64):∀ {l:List α},(∀ x∈l,(g x).canLay0=true∧(g x).depth≤n)→SeqAt.shaped (.list (l.map g))=true:=by
 intro l h
 have z:PyData.canLayAll0 (l.map g)=true∧PyData.depthAll (l.map g)≤n:=by
  induction l with
  | nil=>exact ⟨rfl,Nat.zero_le _⟩
  | cons x l ih =>
   obtain ⟨a,b⟩:=ih fun y hy=>h y (.tail _ hy)
   obtain ⟨p,q⟩:=h x (.head _)
   exact ⟨by rw [List.map_cons,PyData.canLayAll0,p,a]; rfl,by rw [List.map_cons,PyData.depthAll]; lia⟩
 unfold SeqAt.shaped
 rw [PyData.canLay0,PyData.depth,z.1,Bool.true_and]
 exact decide_eq_true (by lia)
noncomputable def prD (p:Int×Int):PyData:=.tuple [.int p.1,.int p.2]
theorem best_in:∀ {l:List (Int×Int)} {m:Int×Int},bestOf l=some m→m∈l
 | x :: xs,m,h=>by
  simp only [bestOf,Option.some.injEq] at h
  subst h
  have:∀ (l:List (Int×Int)) (b:Int×Int),l.foldl (fun m y=>if lexLt m y=true then y else m) b=b∨l.foldl (fun m y=>if lexLt m y=true then y else m) b∈l:=by
   intro l
   induction l with
   | nil=>exact fun b=>.inl rfl
   | cons y l ih =>
    intro b
    rw [List.foldl_cons]
    rcases ih (if lexLt b y=true then y else b) with h | h
    ·rw [h]; split
     ·exact .inr (.head _)
     ·exact .inl rfl
    ·exact .inr (.tail _ h)
  rcases this xs x with h | h
  ·rw [h]; exact .head _
  ·exact .tail _ h
theorem places_pos (row:List Pc):∀ (cs:List Nat) (r:Nat),∀ m∈placesFrom row r cs,0≤m.2
 | [],_,_,h=>by cases h
 | ch :: cs,r,m,h=>by
  rw [placesFrom] at h
  rcases List.mem_append.mp h with h | h
  ·obtain ⟨k,_,rfl⟩:=List.mem_map.mp h; exact Int.natCast_nonneg k
  ·exact places_pos row cs (r+1) m h
theorem pick_to {α:Type} (l:List α) {k:Int} (h:0≤k):pick l (none,some k)=l.take k.toNat:=by
 unfold pick
 simp only [Option.elim,clip_nat h,List.drop_zero,Nat.sub_zero]
 by_cases q:k.toNat≤l.length
 ·rw [Nat.min_eq_left q]
 ·rw [Nat.min_eq_right (by lia),List.take_of_length_le (Nat.le_refl _),List.take_of_length_le (by lia)]
structure RoL (w head:Int) (p:Pc) (loc:List (Str×SV)):Prop where
 rows:loc.lookup ("rows":Str)=some (.ref 100)
 width:loc.lookup ("width":Str)=some (.int w)
 head:loc.lookup ("head":Str)=some (.int head)
 piece:loc.lookup ("piece":Str)=some (pieceS p)
section
variable {c:Cst} (T:RowFacts c) {d u:Nat} (hu:u<8000) {a1 a2:Addr} {w head:Int} {p:Pc} {loc:List (Str×SV)} {nx:Nat} {fr:List Nat} {rs0:List (List Pc)} {last row:List Pc} {sg:Str}
noncomputable abbrev roAll (a1 a2:Addr) (sg:Str) (rs:List (List Pc)) (row:List Pc):List (Nat×SO):=[(100,.list (rs.map rowSV)),(12,.cell a2 (rowSV row)),(11,.cell a1 (.str sg))]
include T in
theorem alt_c {Kf:Fl→Cx→Prop} {b:Bool} {size:Int} (hb:decide (size>w)=b) (hL:RoL w head p loc) (hsz:loc.lookup ("size":Str)=some (.int size)) (hp:GoodP p) (hz:rs0.length<900)
  (h:Kf .next ⟨loc,roAll a1 a2 sg (if b=true∧head>0∧(rs0++[last]).length=1 then rs0++[last]++[[withBlank p]] else rs0++[row]) row,nx,fr⟩) :
  SpSs c (d+1) (u+3) (roEn a1 a2) (elseOf (stAt roBody 3)) ⟨loc,roAll a1 a2 sg (rs0++[last]) row,nx,fr⟩ Kf:=by
 have els:¬ (b=true∧head>0∧(rs0++[last]).length=1)→SpSs c (d+1) (u+3) (roEn a1 a2) (elseOf (stAt (elseOf (stAt roBody 3)) 0)) ⟨loc,roAll a1 a2 sg (rs0++[last]) row,nx,fr⟩ (Then c (d+1) (u+3) (roEn a1 a2) [] Kf):=fun hn=>by
  rw [if_neg hn] at h
  refine ss_cons (ss_sets (sp_cell (i:=12) rfl (sp_name hL.rows (sp_un (sp_int (o_negi (s_last (xs:=rs0.map rowSV) (x:=rowSV last) (by rw [show (roAll a1 a2 sg (rs0++[last]) row).lookup 100=some (.list ((rs0++[last]).map rowSV)) from rfl,List.map_append]; rfl) (by simp; exact aR ‹_› rfl) ?_)))))))
  refine ss_nil (ss_nil ?_)
  have h:Kf .next ⟨loc,[(100,.list ((rs0++[row]).map rowSV)),(12,.cell a2 (rowSV row)),(11,.cell a1 (.str sg))],nx,fr⟩:=h
  rw [List.map_append] at h
  exact h
 refine ss_cons (ss_if (st_and (st_cmp (sp_name hsz (sp_name hL.width (o_gti ⟨_,rfl,?_⟩))))))
 rw [hb]
 cases b with
 | false=>exact ite_f (by decide) (ite_f (by decide) (els (by simp)))
 | true =>
  refine ite_t rfl (st_and (st_cmp (sp_name hL.head (sp_int (o_gti ⟨_,rfl,?_⟩)))))
  by_cases hh:head>0
  ·refine ite_t (by simpa using hh) (st_and (st_cmp (sp_call (sp_bltn (v:=.builtin "len") T.lenN (by decide +kernel) ⟨_,rfl,.inl ⟨_,rfl⟩,sp_name hL.rows (c_lenl rfl (by simp; lia) (sp_int (o_eqi ⟨_,rfl,?_⟩)))⟩))))
   by_cases h1:(rs0++[last]).length=1
   ·refine ite_t (by rw [List.length_map,h1]; rfl) (st_and_nil (ite_t rfl ?_))
    rw [if_pos ⟨rfl,hh,h1⟩] at h
    have g2:=gap_ok hp.fine
    have gl:p.gap.length<2 ^ 62:=by lia
    refine ss_cons (ss_expr (sp_meth (sp_name hL.rows (m_list rfl slot_list_append type_list_append ⟨.inl ⟨_,rfl⟩,(show SpArgs _ _ _ _ _ _ _ from sp_flist (show SpArgs _ _ _ _ _ _ _ from sp_bin (sp_tup (show SpArgs _ _ _ _ _ _ _ from sp_or (sp_sub (sp_name hL.piece (sp_int (i_tup (j:=0) (by decide) rfl rfl (tr_str gl ?_)))))))))⟩))))
    have fin:∀ {b:Str},b=blankOr p.gap→(1≤1000∧Sp c (d+1) (u+3) (fun L=>eval (.Subscript (.Name "piece" ⟨852,46,852,51⟩) (.Slice (some (.Constant (.int 1) 0 ⟨852,52,852,53⟩)) none none ⟨852,52,852,54⟩) ⟨852,46,852,55⟩) ((roEn a1 a2).env L)) VR ⟨loc,roAll a1 a2 sg (rs0++[last]) row,nx,fr⟩ fun y cx=>Sp2 c (d+1) (u+3) (fun a b=>binaryOp .Add a b) VR (.tup [.str b]) y cx fun z cx=>[z].length≤1000∧SpC c (d+1) (u+3) (.builtin "list.append") [.ref 100,.fl [z]] cx fun v cx=>v = .none∧Then c (d+1) (u+3) (roEn a1 a2) [] (Then c (d+1) (u+3) (roEn a1 a2) [] Kf) .next cx):=fun e=>by
     subst e
     refine ⟨by decide,sp_subsl (sp_name hL.piece (sp_int ⟨_,rfl,?_⟩))⟩
     refine sl_tup (by show 3≤1000; decide) (o_addt (by show 0+2≤1000; decide) ⟨by show 1≤1000; decide,c_append rfl (by simp; lia) ⟨rfl,ss_nil (ss_nil ?_)⟩⟩)
     have h:Kf .next ⟨loc,[(100,.list ((rs0++[last]++[[withBlank p]]).map rowSV)),(12,.cell a2 (rowSV row)),(11,.cell a1 (.str sg))],nx,fr⟩:=h
     rw [List.map_append (l₁:=rs0++[last])] at h
     exact h
    unfold blankOr at fin
    by_cases hq:(p.gap.length:Int)=0
    ·rw [if_pos hq] at fin
     exact ite_f (by simp [hq]) (sp_and1 (sp_str (fin rfl)))
    ·rw [if_neg hq] at fin
     exact ite_t (by simpa using hq) (fin rfl)
   ·exact ite_f (by rw [List.length_map]; intro q; have:=beq_iff_eq.mp q; exact h1 (by lia)) (ite_f (by decide) (els fun q=>h1 q.2.2))
  ·exact ite_f (by simpa using hh) (ite_f (by decide) (els fun q=>hh q.2.1))
theorem RoL.put (hL:RoL w head p loc) {x:Str} {v:SV} (h1:("rows":Str)≠x:=by decide) (h2:("width":Str)≠x:=by decide) (h3:("head":Str)≠x:=by decide) (h4:("piece":Str)≠x:=by decide):RoL w head p (setL x v loc):=⟨get_ne hL.rows h1,get_ne hL.width h2,get_ne hL.head h3,get_ne hL.piece h4⟩
include T hu in
theorem rest_c {Kf:Fl→Cx→Prop} (hL:RoL w head p loc) (h1:loc.lookup ("size":Str)=some (.int (rowSize head (rs0++[last]).length (last++[p])))) (h2:loc.lookup ("places":Str)=some (.fl ((placesFrom (last++[p]) 0 sg.cps.toList).map prS))) (hp:GoodP p) (hz:rs0.length<900) (hz2:(last++[p]).length≤1000)
  (h:Kf .next ⟨loc,roAll a1 a2 sg (rowsStep w head sg (rs0++[last]) p) (last++[p]),nx,fr⟩) :
  SpSs c (d+1) (u+3) (roEn a1 a2) (roBody.drop 3) ⟨loc,roAll a1 a2 sg (rs0++[last]) (last++[p]),nx,fr⟩ Kf:=by
 unfold rowsStep at h
 rw [show (rs0++[last]).getLast?.getD []=last from by simp,show (rs0++[last]).dropLast=rs0 from by simp] at h
 refine ss_cons (ss_if (st_and (st_cmp (sp_name h1 (sp_name hL.width (o_gti ⟨_,rfl,?_⟩))))))
 by_cases hs:rowSize head (rs0++[last]).length (last++[p])>w
 ·rw [if_pos hs] at h
  rw [decide_eq_true hs]
  have hd:SV.data (.fl ((placesFrom (last++[p]) 0 sg.cps.toList).map prS))=some (.list ((placesFrom (last++[p]) 0 sg.cps.toList).map prD)):=by
   exact congrArg (Option.map PyData.list) (datas_map (g:=prD) fun x _=>rfl)
  refine ite_t rfl (st_and (st_cmp (sp_name h2 (sp_flist (show SpArgs _ _ _ _ _ _ _ from ⟨by show 0≤1000; decide,o_ned (by exact aS ‹_› rfl) hd rfl (shaped_list 5 (by decide) fun x _=>⟨rfl,by show 1≤5; decide⟩) (by decide) ⟨_,rfl,?_⟩⟩)))))
  have hpos:=places_pos (last++[p]) sg.cps.toList 0
  generalize placesFrom (last++[p]) 0 sg.cps.toList=L at h h2 hpos ⊢
  cases L with
  | nil =>
   refine ite_f (by decide) (ite_f (by decide) ?_)
   refine alt_c T (b:=true) (size:=rowSize head (rs0++[last]).length (last++[p])) (decide_eq_true hs) hL h1 hp hz (ss_nil ?_)
   have e:(if true=true∧head>0∧(rs0++[last]).length=1 then rs0++[last]++[[withBlank p]] else rs0++[last++[p]])=(if head>0∧(rs0++[last]).length=1 then rs0++[last]++[[withBlank p]] else rs0++[last++[p]]):=by simp
   rw [e]
   exact h
  | cons x xs =>
   refine ite_t rfl (st_and_nil (ite_t rfl ?_))
   obtain ⟨m,hm⟩:∃ m,bestOf (x :: xs)=some m:=⟨_,rfl⟩
   have m0:0≤m.2:=hpos m (best_in hm)
   have h:Kf .next ⟨loc,[(100,.list ((rs0++[(last++[p]).take m.2.toNat,(last++[p]).drop m.2.toNat]).map rowSV)),(12,.cell a2 (rowSV (last++[p]))),(11,.cell a1 (.str sg))],nx,fr⟩:=by rw [hm] at h; exact h
   have hz3:((last++[p]).map pieceS).length≤1000000:=by rw [List.length_map]; lia
   have fin:Kf .next ⟨loc,[(100,.list (rs0.map rowSV++[.fl (((last++[p]).map pieceS).take m.2.toNat)]++[.fl (((last++[p]).map pieceS).drop m.2.toNat)])),(12,.cell a2 (rowSV (last++[p]))),(11,.cell a1 (.str sg))],nx,fr⟩:=by
    rw [List.append_assoc,← List.map_take,← List.map_drop]
    rw [List.map_append] at h
    exact h
   refine ss_cons (ss_sets (sp_subsl (sp_cell (i:=12) rfl ?_)))
   refine sp_sub (sp_call (sp_bltn (v:=.builtin "max") T.maxN (by decide +kernel) ⟨_,rfl,.inl ⟨_,rfl⟩,(show SpArgs _ _ _ _ _ _ _ from sp_name h2 (c_max (by exact aS ‹_› rfl) fun m' hm'=>?_))⟩))
   obtain rfl:m'=m:=by rw [hm] at hm'; exact (Option.some.inj hm').symm
   refine sp_int (i_tup (j:=1) (by decide) rfl rfl ⟨_,rfl,sl_fl hz3 ?_⟩)
   rw [pick_to _ m0]
   refine sp_name hL.rows (sp_un (sp_int (o_negi (s_last (xs:=rs0.map rowSV) (x:=rowSV last) (by show some (SO.list ((rs0++[last]).map rowSV))=_; rw [List.map_append]; rfl) (by simp; exact aR ‹_› rfl) ?_))))
   refine ss_cons (ss_expr (sp_meth (sp_name hL.rows (m_list rfl slot_list_append type_list_append ⟨.inl ⟨_,rfl⟩,(show SpArgs _ _ _ _ _ _ _ from sp_subsl (sp_cell (i:=12) rfl ?_))⟩))))
   refine sp_sub (sp_call (sp_bltn (v:=.builtin "max") T.maxN (by decide +kernel) ⟨_,rfl,.inl ⟨_,rfl⟩,(show SpArgs _ _ _ _ _ _ _ from sp_name h2 (c_max (by exact aS ‹_› rfl) fun m'' hm''=>?_))⟩))
   obtain rfl:m''=m':=by rw [hm] at hm''; exact (Option.some.inj hm'').symm
   refine sp_int (i_tup (j:=1) (by decide) rfl rfl ⟨_,rfl,?_⟩)
   refine sl_fl hz3 ?_
   rw [pick_from _ m0]
   exact c_append rfl (by simp; lia) ⟨rfl,ss_nil (ss_nil fin)⟩
 ·rw [if_neg hs] at h
  rw [decide_eq_false hs]
  refine ite_f (by decide) (ite_f (by decide) ?_)
  refine alt_c T (b:=false) (size:=rowSize head (rs0++[last]).length (last++[p])) (decide_eq_false hs) hL h1 hp hz (ss_nil ?_)
  exact h
include T hu in
theorem body_c {Kf:Fl→Cx→Prop} {so:SO} (hso:cellAt a2 so) (hn:100<nx) (hL:RoL w head p loc) (hg:∀ q∈last++[p],GoodP q) (hz:rs0.length<900) (hz2:(last++[p]).length≤1000) (hsg:sg.length≤100) (hok:∀ ch∈sg.cps.toList,PyData.strOk (one ch)=true)
  (h:∀ loc' nx',nx≤nx'→RoL w head p loc'→Kf .next ⟨loc',roAll a1 a2 sg (rowsStep w head sg (rs0++[last]) p) (last++[p]),nx',fr⟩) :
  SpSs c (d+1) (u+3) (roEn a1 a2) roBody ⟨loc,[(100,.list ((rs0++[last]).map rowSV)),(12,so),(11,.cell a1 (.str sg))],nx,fr⟩ Kf:=by
 have er:last.map pieceS++[pieceS p]=(last++[p]).map pieceS:=by simp
 have l100:([(100,.list ((rs0++[last]).map rowSV)),(12,so),(11,.cell a1 (.str sg))]:List (Nat×SO)).lookup 100=some (.list ((rs0++[last]).map rowSV)):=rfl
 have hL2:∀ a b,RoL w head p (setL "places" a (setL "size" b loc)):=fun a b=>(hL.put (x:="size")).put (x:="places")
 have fin:∀ nx2,nx≤nx2→SpSs c (d+1) (u+3) (roEn a1 a2) (roBody.drop 3) ⟨setL "places" (.fl ((placesFrom (last++[p]) 0 sg.cps.toList).map prS)) (setL "size" (.int (rowSize head (rs0++[last]).length (last++[p]))) loc),roAll a1 a2 sg (rs0++[last]) (last++[p]),nx2,fr⟩ Kf :=
  fun nx2 hn2=>rest_c T hu (hL2 _ _) (get_ne get_put) get_put (hg p (by simp)) hz hz2 (h _ nx2 hn2 (hL2 _ _))
 refine ss_cons (ss_cell (i:=12) (a:=a2) (sp_bin (sp_sub (sp_name hL.rows (sp_un (sp_int (o_negi (i_list (j:=rs0.length) (x:=rowSV last) l100 (by decide) ?_ ?_ (sp_flist (show SpArgs _ _ _ _ _ _ _ from sp_name hL.piece ⟨by show 1≤1000; decide,o_addf ?_ ⟨⟨so,rfl,hso⟩,?_⟩⟩))))))))))
 ·simp only [List.length_map,List.length_append,List.length_singleton]
  exact seqIndex_neg1 _
 ·simp
 ·simp at hz2 ⊢; lia
 rw [er]
 refine ss_cons (size_c T (row:=last++[p]) (rs:=rs0++[last]) (head:=head) hn rfl rfl hL.rows hL.head hg hz2 (by simp; lia) fun nx1 (hn1:nx≤nx1)=>?_)
 exact ss_cons (places_c T hu (row:=last++[p]) (sg:=sg) (show 100<nx1 by lia) rfl rfl hg hz2 hsg hok fun nx2 (hn2:nx1≤nx2)=>fin nx2 (by lia))
end
theorem good_blank {p:Pc} (h:GoodP p):GoodP (withBlank p):=⟨fine_blank h.fine,h.len,h.ok⟩
theorem step_all {P:Pc→Prop} (hb:∀ p,P p→P (withBlank p)) {w head:Int} {sg:Str} {rs0:List (List Pc)} {last:List Pc} {p:Pc} (h:∀ row∈rs0++[last],∀ q∈row,P q) (hp:P p):∀ row∈rowsStep w head sg (rs0++[last]) p,∀ q∈row,P q:=by
 have hl:∀ q∈last++[p],P q:=fun q hq=>by
  rcases List.mem_append.mp hq with hq | hq
  ·exact h last (by simp) q hq
  ·simp at hq; subst hq; exact hp
 have hd:∀ row∈rs0,∀ q∈row,P q:=fun row hr=>h row (by simp [hr])
 intro row hr q hq
 unfold rowsStep at hr
 rw [show (rs0++[last]).getLast?.getD []=last from by simp,show (rs0++[last]).dropLast=rs0 from by simp] at hr
 split at hr
 ·split at hr
  ·simp only [List.mem_append,List.mem_cons,List.not_mem_nil,or_false] at hr
   rcases hr with hr | rfl | rfl
   ·exact hd row hr q hq
   ·exact hl q (List.mem_of_mem_take hq)
   ·exact hl q (List.mem_of_mem_drop hq)
  ·split at hr
   ·rcases List.mem_append.mp hr with hr | hr
    ·exact h row hr q hq
    ·simp at hr; subst hr; simp at hq; subst hq; exact hb p hp
   ·simp only [List.mem_append,List.mem_cons,List.not_mem_nil,or_false] at hr
    rcases hr with hr | rfl
    ·exact hd row hr q hq
    ·exact hl q hq
 ·simp only [List.mem_append,List.mem_cons,List.not_mem_nil,or_false] at hr
  rcases hr with hr | rfl
  ·exact hd row hr q hq
  ·exact hl q hq
theorem step_size {n:Nat} {w head:Int} {sg:Str} {rs0:List (List Pc)} {last:List Pc} {p:Pc} (h:∀ row∈rs0++[last],row.length≤n):(∀ row∈rowsStep w head sg (rs0++[last]) p,row.length≤n+1)∧(rowsStep w head sg (rs0++[last]) p).length≤rs0.length+2∧rowsStep w head sg (rs0++[last]) p≠[]:=by
 have hl:(last++[p]).length≤n+1:=by have:=h last (by simp); simp; exact this
 have hd:∀ row∈rs0,row.length≤n+1:=fun row hr=>Nat.le_succ_of_le (h row (by simp [hr]))
 unfold rowsStep
 rw [show (rs0++[last]).getLast?.getD []=last from by simp,show (rs0++[last]).dropLast=rs0 from by simp]
 have hh:(∀ row∈rs0++[last++[p]],row.length≤n+1)∧(rs0++[last++[p]]).length≤rs0.length+2∧rs0++[last++[p]]≠[]:=by
  refine ⟨fun row hr=>?_,by simp,by simp⟩
  simp only [List.mem_append,List.mem_cons,List.not_mem_nil,or_false] at hr
  rcases hr with hr | rfl
  ·exact hd row hr
  ·exact hl
 split
 ·split
  ·rename_i b _
   refine ⟨fun row hr=>?_,by simp,by simp⟩
   simp only [List.mem_append,List.mem_cons,List.not_mem_nil,or_false] at hr
   rcases hr with hr | rfl | rfl
   ·exact hd row hr
   ·rw [List.length_take]; lia
   ·rw [List.length_drop]; lia
  ·split
   ·refine ⟨fun row hr=>?_,by simp,by simp⟩
    rcases List.mem_append.mp hr with hr | hr
    ·exact Nat.le_succ_of_le (h row hr)
    ·simp at hr; subst hr; simp
   ·exact hh
 ·exact hh
inductive RoI (a1 a2:Addr) (ps:List Pc) (w head:Int) (sg:Str) (fr:List Nat) (xs:List SV) (cx:Cx):Prop
 | mk (loc:List (Str×SV)) (nx:Nat) (so:SO) (rs0:List (List Pc)) (last:List Pc) (qs:List Pc) (e:xs=qs.map pieceS) (ec:cx=⟨loc,[(100,.list ((rs0++[last]).map rowSV)),(12,so),(11,.cell a1 (.str sg))],nx,fr⟩) (hso:cellAt a2 so) (h1:loc.lookup ("rows":Str)=some (.ref 100)) (h2:loc.lookup ("width":Str)=some (.int w)) (h3:loc.lookup ("head":Str)=some (.int head)) (hn:100<nx) (hgr:∀ row∈rs0++[last],∀ q∈row,GoodP q) (hgq:∀ q∈qs,GoodP q) (hf:qs.foldl (rowsStep w head sg) (rs0++[last])=lawRows w head sg ps) (hl:rs0.length+1+qs.length≤500) (hl2:∀ row∈rs0++[last],row.length+qs.length≤500)
section
variable {c:Cst} (T:RowFacts c) {d u:Nat} (hd:d<990) (hu:u<7000)
include T hd hu in
theorem lrows_c {ps:List Pc} {w head:Int} {sg:Str} {cx:Cx} {K:SV→Cx→Prop} (hg:∀ p∈ps,GoodP p) (hz:ps.length≤400) (hsg:sg.length≤100) (hok:∀ ch∈sg.cps.toList,PyData.strOk (one ch)=true) (h11:11∈cx.fr∧12∈cx.fr)
  (h:K (.fl ((lawRows w head sg ps).map rowSV)) (cx.upd [] [] ((cx.fr.filter fun j=>j != 11).filter fun j=>j != 12))):SpC c d u (.ref 917) [.fl (ps.map pieceS),.int w,.int head,.str sg] cx K:=by
 have los1:∀ l:List Pc,SV.los (l.map pieceS)=true:=fun l=>by
  induction l with
  | nil=>rfl
  | cons y l ih=>simp only [List.map_cons,los_cons,ih,pieceS_lo,Bool.and_true]
 have los2:∀ l:List (List Pc),SV.los (l.map rowSV)=true:=fun l=>by
  induction l with
  | nil=>rfl
  | cons y l ih=>simp only [List.map_cons,SV.los,SV.lo,ih,los1,Bool.and_true]
 refine fn_cells (p0:="pieces") (p1:="width") (p2:="head") (n1:="signs") (n2:="row") T.lrows (by exact aR ‹_› rfl) (fun name qual doc pm an cd ct cl vs hv=>?_) (fun n=>rfl) (by decide) (by decide) rfl rfl rfl h11 (by simp only [SV.los,SV.lo,los1,Bool.and_true]) (fun a1 a2 o2 ho2=>?_)
 ·refine hide fun Go jo=>?_
  obtain ⟨x1,x2,x3,x4,rfl⟩:=len4 hv
  refine jo ?_
  rfl
 ·refine ss_cons (ss_assign (sp_list (show SpArgs _ _ _ _ _ _ _ from sp_flist (show SpArgs _ _ _ _ _ _ _ from ⟨by show 0≤1000; decide,⟨by show 1≤1000; decide,?_⟩⟩))))
  refine ss_cons (ss_for (RoI a1 a2 ps w head sg ((cx.fr.filter fun j=>j != 11).filter fun j=>j != 12))
   (it_fl (sp_name rfl ⟨_,rfl,_,_,_,[],[],ps,rfl,rfl,⟨rfl,_,ho2⟩,rfl,rfl,rfl,by show (100:Nat)<101; decide,by simp,hg,rfl,by simp; lia,by simp; lia⟩)) (fun x xs cx' hI=>?_) (fun cx' hI=>?_))
  ·refine hide fun Go jo=>?_
   obtain ⟨loc,nx,so,rs0,last,qs,e,rfl,hso,h1,h2,h3,hn,hgr,hgq,hf,hl,hl2⟩:=hI
   refine jo ?_
   cases qs with
   | nil=>cases e
   | cons p qs =>
   simp only [List.map_cons,List.cons.injEq] at e
   refine hide fun Go jo=>?_
   obtain ⟨rfl,rfl⟩:=e
   refine jo ?_
   have hlast:=hl2 last (by simp)
   simp only [List.length_cons] at hl hlast
   refine a_name ?_
   refine body_c T (by exact aR ‹_› rfl) (rs0:=rs0) (last:=last) (p:=p) hso hn ⟨get_ne h1,get_ne h2,get_ne h3,get_put⟩ (fun q hq=>?_) (by lia) (by simp; lia) hsg hok fun loc' nx' (hnx:nx≤nx') hL=>?_
   ·rcases List.mem_append.mp hq with hq | hq
    ·exact hgr last (by simp) q hq
    ·simp at hq; subst hq; exact hgq _ (.head _)
   ·refine hide fun Go jo=>?_
    obtain ⟨s1,s2,s3⟩:=step_size (n:=499 - qs.length) (w:=w) (head:=head) (sg:=sg) (p:=p) fun row hr=>by have:=hl2 row hr; simp only [List.length_cons] at this; lia
    have s4:=step_all (P:=GoodP) (fun _=>good_blank) (w:=w) (head:=head) (sg:=sg) hgr (hgq p (.head _))
    obtain ⟨rs1,last1,e1⟩:=(nil_or_snoc (rowsStep w head sg (rs0++[last]) p)).resolve_left s3
    refine jo ?_
    rw [e1] at s1 s2 s4 ⊢
    rw [List.foldl_cons,e1] at hf
    simp only [List.length_append,List.length_singleton] at s2
    exact ⟨loc',nx',_,rs1,last1,qs,rfl,rfl,rfl,hL.rows,hL.width,hL.head,by lia,s4,fun q hq=>hgq q (.tail _ hq),hf,by lia,fun row hr=>by have:=s1 row hr; lia⟩
  ·refine hide fun Go jo=>?_
   obtain ⟨loc,nx,so,rs0,last,qs,e,rfl,hso,h1,h2,h3,hn,hgr,hgq,hf,hl,hl2⟩:=hI
   refine jo ?_
   cases qs with
   | cons p qs=>cases e
   | nil =>
   have hf:rs0++[last]=lawRows w head sg ps:=hf
   rw [hf]
   refine ss_nil (ss_cons (ss_ret (sp_fz (sp_name h1 ⟨100,_,rfl,Nat.le_refl _,rfl,?_⟩))))
   have hfr:∀ i∈((cx.fr.filter fun j=>j != 11).filter fun j=>j != 12),i∈cx.fr:=fun i hi=>(List.mem_filter.mp (List.mem_filter.mp hi).1).1
   exact Back.mkN [] [] rfl ob_nil (fun p hp=>by cases hp) (by decide) hfr (los2 _) h
end
theorem okL_WA (t:List Nat) (l:List Nat):okL (.A t) l=okL .W l:=by cases l <;> rfl
theorem okL_letters:∀ (l r:List Nat),(∀ c∈l,c=97∨c=98∨c=99)→okL .W (l++r)=okL .W r
 | [],_,_=>rfl
 | c :: l,r,h=>by
  rw [List.cons_append,← okL_letters l r fun d hd=>h d (.tail _ hd)]
  rcases h c (.head _) with rfl | rfl | rfl <;> exact okL_WA _ _
structure LawP (p:Pc):Prop where
 good:GoodP p
 tk:Tk p
 ok:∀ r,okL .W (chars p.gap++(chars p.wr++r))=okL .W r
 len:p.wr.length≤10
 wt:wt p≤50
theorem gap_okL {x:Str} (h:x = ""∨x = " "∨x = "\t"∨x = "  ") (r:List Nat):okL .W (chars x++r)=okL .W r:=by
 rcases h with rfl | rfl | rfl | rfl
 ·rfl
 ·rfl
 ·rfl
 ·rfl
theorem kind_okL (k i:Nat) (hk:k<5) (r:List Nat):okL .W (chars (kindOf (someOf k) i).1++r)=okL .W r:=by
 unfold kindOf
 split
 ·rw [some_chars k hk]; exact okL_letters _ r fun c hc=>.inl (List.eq_of_mem_replicate hc)
 ·rfl
 ·rfl
 ·show okL .W (chars (Str.ofString "'e f'")++r)=_
  rw [show chars (Str.ofString "'e f'")=[39,101,32,102,39] from by decide +kernel]
  simp [okL,okL_WA]
 ·show okL .W (chars (Str.ofString "'#,'")++r)=_
  rw [show chars (Str.ofString "'#,'")=[39,35,44,39] from by decide +kernel]
  simp [okL,okL_WA]
 ·exact okL_WA [] r
theorem kind_len (k i:Nat) (hk:k<5):(kindOf (someOf k) i).1.length≤10∧PyData.strOk (kindOf (someOf k) i).1=true∧wt (pieceAt 0 k i)≤50:=by
 have:∀ k<5,∀ i<6,(kindOf (someOf k) i).1.length≤10∧PyData.strOk (kindOf (someOf k) i).1=true∧wt (pieceAt 0 k i)≤50:=by decide +kernel
 by_cases hi:i<6
 ·exact this k hk i hi
 ·have e:∀ sm,kindOf sm i=kindOf sm 5:=fun sm=>by
   match i,hi with
   | 0,h | 1,h | 2,h | 3,h | 4,h | 5,h=>exact absurd (by decide) h
   | n+6,_=>rfl
  have z:=this k hk 5 (by decide)
  unfold pieceAt at z ⊢
  rw [e]; exact z
theorem piece_law (g k i:Nat) (hk:k<5):LawP (pieceAt g k i) where
 good:=⟨piece_fine g k i hk,Nat.le_trans (kind_len k i hk).1 (by decide),(kind_len k i hk).2.1⟩
 tk:=piece_tk g k i hk
 ok:=fun r=>by rw [show (pieceAt g k i).gap=gapOf g from rfl,gap_okL (gap_fine g)]; exact kind_okL k i hk r
 len:=(kind_len k i hk).1
 wt:=(kind_len k i hk).2.2
theorem law_blank {p:Pc} (h:LawP p):LawP (withBlank p) where
 good:=good_blank h.good
 tk:=tk_blank h.tk
 ok:=fun r=>by
  have e:=h.ok r
  rw [gap_okL h.good.fine.gap] at e
  rw [gap_okL (good_blank h.good).fine.gap]; exact e
 len:=h.len
 wt:=h.wt
theorem row_okL:∀ (row:List Pc) (r:List Nat),(∀ p∈row,LawP p)→okL .W (rowChars row++r)=okL .W r
 | [],_,_=>rfl
 | p :: row,r,h=>by
  rw [rowChars,List.flatMap_cons,List.append_assoc,List.append_assoc,(h p (.head _)).ok]
  exact row_okL row r fun q hq=>h q (.tail _ hq)
theorem rows_okL (rows:List (List Pc)) (h:∀ row∈rows,∀ p∈row,LawP p):okL .W (rowsChars rows)=true:=by
 have z:∀ (rows:List (List Pc)),(∀ row∈rows,∀ p∈row,LawP p)→okL .W (rows.flatMap fun r=>10 :: rowChars r)=true:=by
  intro rows h
  induction rows with
  | nil=>rfl
  | cons row rows ih=>exact (row_okL row _ (h row (.head _))).trans (ih fun r hr=>h r (.tail _ hr))
 cases rows with
 | nil=>rfl
 | cons row rows=>exact (row_okL row _ (h row (.head _))).trans (z rows fun r hr=>h r (.tail _ hr))
theorem lex_len (l:List Nat):∀ (m:Md) (n:Int),(lex m l n).length≤l.length+(if isA m=true then 1 else 0):=by
 induction l with
 | nil =>
  intro m n
  cases m with
  | A t=>exact Nat.le_refl _
  | W=>exact Nat.zero_le _
  | Q t=>exact Nat.zero_le _
 | cons c r ih =>
  intro m n
  have w:∀ n,(lex .W r n).length≤r.length:=ih .W
  have q:∀ t,(lex (.Q t) r n).length≤r.length:=fun t=>ih (.Q t) n
  have a:∀ t,(lex (.A t) r n).length≤r.length+1:=fun t=>ih (.A t) n
  cases m with
  | W=>exact if4 (P:=fun x:List Tok2=>x.length≤r.length+1) (Nat.le_succ_of_le (w _)) (Nat.le_succ_of_le (w _)) (Nat.le_succ_of_le (q _)) (a _) (Nat.succ_le_succ (w _))
  | A t=>exact if4 (P:=fun x:List Tok2=>x.length≤r.length+1+1) (Nat.succ_le_succ (Nat.le_succ_of_le (w _))) (Nat.succ_le_succ (Nat.le_succ_of_le (w _))) (Nat.le_succ_of_le (Nat.le_succ_of_le (q _))) (Nat.le_succ_of_le (a _)) (Nat.succ_le_succ (Nat.succ_le_succ (w _)))
  | Q t =>
   show (if c=39 then lex (.A t) r n else lex (.Q (t++[c])) r n).length≤r.length+1
   by_cases h:c=39
   ·rw [if_pos h]; exact a _
   ·rw [if_neg h]; exact Nat.le_succ_of_le (q _)
noncomputable def mdChars:Md→List Nat
 | .W=>[]
 | .A t=>t
 | .Q t=>t
noncomputable def AllC (P:Nat→Prop) (l:List Tok2):Prop:=∀ t∈l,∀ c∈t.1,P c
theorem AllC.cons {P:Nat→Prop} {l:List Tok2} {t:List Nat} {n:Int} (h1:∀ c∈t,P c) (h2:AllC P l):AllC P ((t,n) :: l):=fun u hu=>by
 rcases List.mem_cons.mp hu with rfl | hu
 ·exact h1
 ·exact h2 u hu
theorem lex_mem {P:Nat→Prop} (l:List Nat):∀ (m:Md) (n:Int),(∀ c∈l,P c)→(∀ c∈mdChars m,P c)→AllC P (lex m l n):=by
 have no:∀ c∈([]:List Nat),P c:=fun c h=>by cases h
 induction l with
 | nil =>
  intro m n _ hm
  cases m with
  | A t=>exact .cons hm fun t ht=>by cases ht
  | W=>exact fun t ht=>by cases ht
  | Q t=>exact fun t ht=>by cases ht
 | cons c r ih =>
  intro m n hl hm
  have hr:∀ d∈r,P d:=fun d hd=>hl d (.tail _ hd)
  have one:∀ d∈[c],P d:=fun d hd=>by cases hd with | head=>exact hl c (.head _) | tail _ h=>cases h
  have w:∀ n,AllC P (lex .W r n):=fun n=>ih .W n hr no
  have snoc:∀ {t:List Nat},(∀ d∈t,P d)→∀ d∈t++[c],P d:=fun h d hd=>(List.mem_append.mp hd).elim (h d) (one d)
  cases m with
  | W=>exact if4 (P:=AllC P) (w _) (w _) (ih (.Q []) n hr no) (ih (.A [c]) n hr one) (.cons one (w _))
  | A t=>exact if4 (P:=AllC P) (.cons hm (w _)) (.cons hm (w _)) (ih (.Q t) n hr hm) (ih (.A (t++[c])) n hr (snoc hm)) (.cons hm (.cons one (w _)))
  | Q t =>
   show AllC P (if c=39 then lex (.A t) r n else lex (.Q (t++[c])) r n)
   by_cases h:c=39
   ·rw [if_pos h]; exact ih (.A t) n hr hm
   ·rw [if_neg h]; exact ih (.Q (t++[c])) n hr (snoc hm)
theorem step_flat {w head:Int} {sg:Str} {rs0:List (List Pc)} {last:List Pc} {p:Pc}:(rowsStep w head sg (rs0++[last]) p).flatten.length=(rs0++[last]).flatten.length+1:=by
 unfold rowsStep
 rw [show (rs0++[last]).getLast?.getD []=last from by simp,show (rs0++[last]).dropLast=rs0 from by simp]
 split
 ·split
  ·have e:∀ (l:List Pc) k,(l.take k).length+(l.drop k).length=l.length:=fun l k=>by rw [← List.length_append,List.take_append_drop]
   rw [List.flatten_append,List.length_append,List.flatten_append,List.length_append,List.flatten_cons,List.flatten_singleton,List.flatten_singleton,List.length_append,e,List.length_append]
   rfl
  ·split
   ·simp only [List.flatten_append,List.flatten_cons,List.flatten_nil,List.append_nil,List.length_append,List.length_cons,List.length_nil]
   ·simp only [List.flatten_append,List.flatten_cons,List.flatten_nil,List.append_nil,List.length_append,List.length_cons,List.length_nil]; lia
 ·simp only [List.flatten_append,List.flatten_cons,List.flatten_nil,List.append_nil,List.length_append,List.length_cons,List.length_nil]; lia
structure RowsOk (rows:List (List Pc)) (n:Nat):Prop where
 all:∀ row∈rows,∀ p∈row,LawP p
 flat:rows.flatten.length≤n
 len:rows.length≤n+1
 ne:rows≠[]
theorem rows_step {rows:List (List Pc)} {n:Nat} {w head:Int} {sg:Str} {p:Pc} (h:RowsOk rows n) (hp:LawP p):RowsOk (rowsStep w head sg rows p) (n+1):=by
 refine hide fun Go jo=>?_
 obtain ⟨rs0,last,rfl⟩:=(nil_or_snoc rows).resolve_left h.ne
 have hl:=h.len
 simp only [List.length_append,List.length_singleton] at hl
 obtain ⟨_,s2,s3⟩:=step_size (n:=(rs0++[last]).flatten.length) (w:=w) (head:=head) (sg:=sg) (p:=p) (rs0:=rs0) (last:=last) fun row hr=>(List.sublist_flatten_of_mem hr).length_le
 refine jo ?_
 exact ⟨step_all (P:=LawP) (fun _=>law_blank) h.all hp,by rw [step_flat]; have:=h.flat; lia,by lia,s3⟩
theorem rowChars_len:∀ (row:List Pc),(∀ p∈row,LawP p)→(rowChars row).length≤12 * row.length
 | [],_=>Nat.le_refl _
 | p :: row,h=>by
  have hp:=h p (.head _)
  have:=rowChars_len row fun q hq=>h q (.tail _ hq)
  have g:=(gap_ok hp.good.fine).1
  have l:=hp.len
  have e1:(chars p.gap).length=p.gap.length:=Array.length_toList
  have e2:(chars p.wr).length=p.wr.length:=Array.length_toList
  rw [rowChars,List.flatMap_cons,List.length_append,List.length_append,List.length_cons]
  rw [rowChars] at this
  lia
theorem rowsChars_len (rows:List (List Pc)) (h:∀ row∈rows,∀ p∈row,LawP p):(rowsChars rows).length≤12 * rows.flatten.length+rows.length:=by
 have z:∀ (rows:List (List Pc)),(∀ row∈rows,∀ p∈row,LawP p)→(rows.flatMap fun r=>10 :: rowChars r).length≤12 * rows.flatten.length+rows.length:=by
  intro rows h
  induction rows with
  | nil=>exact Nat.le_refl _
  | cons row rows ih =>
   have h1:=rowChars_len row (h row (.head _))
   have h2:=ih fun r hr=>h r (.tail _ hr)
   rw [List.flatMap_cons,List.flatten_cons,List.length_append,List.length_append,List.length_cons,List.length_cons]
   lia
 cases rows with
 | nil=>exact Nat.le_refl _
 | cons row rows =>
  have h1:=rowChars_len row (h row (.head _))
  have h2:=z rows fun r hr=>h r (.tail _ hr)
  rw [rowsChars,List.length_append,List.flatten_cons,List.length_append,List.length_cons]
  lia
theorem rowsWt_le:∀ (rows:List (List Pc)),(∀ row∈rows,∀ p∈row,LawP p)→(rows.map rowWt).sum≤50 * rows.flatten.length
 | [],_=>Nat.le_refl _
 | row :: rows,h=>by
  have h1:∀ (row:List Pc),(∀ p∈row,LawP p)→rowWt row≤50 * row.length:=by
   intro row h
   induction row with
   | nil=>exact Nat.le_refl _
   | cons p row ih =>
    have:=ih fun q hq=>h q (.tail _ hq)
    have hw:=(h p (.head _)).wt
    simp only [rowWt,List.map_cons,List.sum_cons,List.length_cons] at this ⊢
    lia
  have h2:=rowsWt_le rows fun r hr=>h r (.tail _ hr)
  have h3:=h1 row (h row (.head _))
  simp only [List.map_cons,List.sum_cons,List.flatten_cons,List.length_append]
  lia
theorem rowsChars_ok:∀ (rows:List (List Pc)),(∀ row∈rows,∀ p∈row,LawP p)→∀ c∈rowsChars rows,c<0x110000:=by
 have ok:∀ x:Str,PyData.strOk x=true→∀ c∈chars x,c<0x110000:=fun x h c hc=>by
  unfold PyData.strOk at h
  rw [Array.all_eq_true_iff_forall_mem] at h
  simpa using h c (by simpa using hc)
 intro rows h c hc
 have:∀ (row:List Pc),(∀ p∈row,LawP p)→∀ c∈rowChars row,c<0x110000:=fun row h c hc=>by
  obtain ⟨p,hp,hc⟩:=List.mem_flatMap.mp hc
  rcases List.mem_append.mp hc with hc | hc
  ·exact ok _ (gap_ok (h p hp).good.fine).2 c hc
  ·exact ok _ (h p hp).good.ok c hc
 cases rows with
 | nil=>cases hc
 | cons row rows =>
  rw [rowsChars] at hc
  rcases List.mem_append.mp hc with hc | hc
  ·exact this row (h row (.head _)) c hc
  ·obtain ⟨r,hr,hc⟩:=List.mem_flatMap.mp hc
   rcases List.mem_cons.mp hc with rfl | hc
   ·decide
   ·exact this r (h r (.tail _ hr)) c hc
noncomputable def law_d:{ x:Df // defAt ["law"] prg=some x }:=⟨_,rfl⟩
noncomputable abbrev laEn:En:=enOf 936 law_d.1 "law" 935 []
structure LawFacts2 (c:Cst):Prop where
 makN:nsIn c.K mainGlobals "_ValueFormatter" = some (some (.ref 117))
 makK:keepIn c.K (.ref 117)=true
 mChunk:MethOk c 117 "_append_chunk" 114
 kChunk:keepIn c.K (.ref 114)=true
 mStr:MethOk c 117 "_str" 65
 kStr:keepIn c.K (.ref 65)=true
 quoN:nsIn c.K mainGlobals "quote" = some (some (.ref 905))
 quoK:keepIn c.K (.ref 905)=true
 quoM:∀ S,peek c.K S (keeperOf (.ref 898))=some .machine
 rowN:nsIn c.K mainGlobals "_law_rows" = some (some (.ref 917))
 rowK:keepIn c.K (.ref 917)=true
 readN:nsIn c.K mainGlobals "_law_read" = some (some (.ref 931))
 readK:keepIn c.K (.ref 931)=true
 tokN:nsIn c.K mainGlobals "_law_tokens" = some (some (.ref 924))
 tokK:keepIn c.K (.ref 924)=true
structure AllFacts (c:Cst):Prop where
 A:AccFacts c
 B:AccFacts2 c
 D:AccFacts3 c
 M:MakFacts c
 N:MakFacts2 c
 P:MakFacts3 c
 S:SioFacts c
 S2:SioFacts2 c
 X:LexFacts c
 Y:LexFacts2 c
 Z:LexFacts3 c
 W:ReadFacts c
 Q:QuoteFacts c
 T:TokFacts c
 R:RowFacts c
 V:LawFacts c
 U:LawFacts2 c
noncomputable def modSV:SV→SV
 | .int i=>.int (i.fmod 10000)
 | _=>.none
noncomputable def nums (sc:List Int):List Int:=if sc.take 10=[] then [4,8,0,13] else (sc.take 10).map fun i=>i.fmod 10000
theorem nums_ok (sc:List Int):nums sc≠[]∧(nums sc).length≤10∧∀ n∈nums sc,0≤n∧n≤9999:=by
 unfold nums
 split
 ·exact ⟨by decide,by decide,by decide⟩
 ·rename_i h
  refine ⟨by simpa using h,by simp; lia,fun n hn=>?_⟩
  refine hide fun Go jo=>?_
  obtain ⟨i,_,rfl⟩:=List.mem_map.mp hn
  refine jo ?_
  have:0≤i.fmod 10000∧i.fmod 10000<10000:=fmod_in i 10000 (by decide)
  lia
theorem tr_fl {c:Cst} {d u:Nat} {cx:Cx} {xs:List SV} {K:Bool→Cx→Prop} (hz:xs.length≤1000000) (h:K (!xs.isEmpty) cx):Sp1 c d u (fun a=>truthy a) BR (.fl xs) cx K:=fun fx g am L s v R q=>by
 cases q using VR.flE with
 | mk _ _ ho hv =>
 have:=hv.length
 refine wpAny_truthy_list (isList_le R.sub ho) (by simp; lia) ?_
 rw [show (!(List.toArray _).isEmpty) = !xs.isEmpty from by cases hv <;> rfl]
 exact Ends.here R.toks rfl h
section
variable {c:Cst} (F:AllFacts c) {d u:Nat} (hd:d<900) (hu:u<4000)
theorem law_nums {sc:List Int} {obj:List (Nat×SO)} {fr:List Nat} {K:Fl→Cx→Prop} (hz:sc.length≤1000) (h:∀ nx,100≤nx→K .next ⟨[("script",.fl (sc.map .int)),("numbers",.fl ((nums sc).map .int))],obj,nx,fr⟩) :
  SpS c (d+1) (u+3) laEn (stAt law_d.1.2.1 0) ⟨[("script",.fl (sc.map .int))],obj,100,fr⟩ K:=by
 have e10:pick (sc.map SV.int) (none,some 10)=(sc.take 10).map SV.int:=by rw [pick_to _ (by decide),List.map_take]; rfl
 refine ss_assign (sp_or (sp_map (F:=modSV) (Nat.le_refl _) (it_fl (sp_subsl (sp_name rfl ?_)))))
 refine sp_int ⟨_,rfl,sl_fl (by simp; lia) ⟨_,rfl,rfl,?_,fun x hx=>?_,fun nx hn=>?_⟩⟩
 ·rw [e10]; simp; lia
 ·rw [e10] at hx
  refine hide fun Go jo=>?_
  obtain ⟨i,_,rfl⟩:=List.mem_map.mp hx
  refine jo ?_
  intro L loc o nx hn ho
  exact a_name ⟨_,rfl,sp_bin (sp_name get_put (sp_int (o_modi (by decide) ⟨rfl,nx,Nat.le_refl _,rfl⟩)))⟩
 ·rw [e10,List.map_map]
  have e2:(sc.take 10).map (modSV ∘ SV.int)=((sc.take 10).map fun i=>i.fmod 10000).map SV.int:=by rw [List.map_map]; rfl
  rw [e2]
  refine tr_fl (by simp; lia) ?_
  have h:=h nx (Nat.le_of_lt hn)
  unfold nums at h
  by_cases hq:sc.take 10=[]
  ·rw [if_pos hq] at h
   rw [hq]
   exact ite_f (by decide) (sp_and1 (sp_flist (show SpArgs _ _ _ _ _ _ _ from sp_int (sp_int (sp_int (sp_int ⟨by show 4≤1000; decide,h⟩))))))
  ·rw [if_neg hq] at h
   refine ite_t ?_ h
   cases hx:sc.take 10 with
   | nil=>exact absurd hx hq
   | cons _ _=>rfl
noncomputable abbrev psOf (ns:List Int):List Pc:=ns.map lawPiece
noncomputable def sgOf (total:Int):Str:=match ((total.fdiv 39).fmod 6).toNat with
 | 0=>" "
 | 1=>", "
 | 2=>"\t,"
 | 3=>";, \t"
 | 4=>";,"
 | _=>"\t"
theorem sg_ok (total:Int):(sgOf total).length≤100∧∀ ch∈(sgOf total).cps.toList,PyData.strOk (one ch)=true:=by
 unfold sgOf
 split <;> decide +kernel
noncomputable abbrev wOf (total:Int):Int:=total.fmod 13
noncomputable abbrev hdOf (total:Int):Int:=(total.fdiv 13).fmod 3 * 3
structure LaL (ps:List Pc) (w head:Int) (sg:Str) (loc:List (Str×SV)):Prop where
 pieces:loc.lookup ("pieces":Str)=some (.fl (ps.map pieceS))
 maker:loc.lookup ("maker":Str)=some (.ref 0)
 width:loc.lookup ("width":Str)=some (.int w)
 head:loc.lookup ("head":Str)=some (.int head)
 signs:loc.lookup ("signs":Str)=some (.str sg)
theorem LaL.put {ps:List Pc} {w head:Int} {sg:Str} {loc:List (Str×SV)} (h:LaL ps w head sg loc) {x:Str} {v:SV} (h1:("pieces":Str)≠x:=by decide) (h2:("maker":Str)≠x:=by decide) (h3:("width":Str)≠x:=by decide) (h4:("head":Str)≠x:=by decide) (h5:("signs":Str)≠x:=by decide):LaL ps w head sg (setL x v loc) :=
 ⟨get_ne h.pieces h1,get_ne h.maker h2,get_ne h.width h3,get_ne h.head h4,get_ne h.signs h5⟩
noncomputable abbrev fr0:List Nat:=[0,1,2,3,4,5,6,11,12]
noncomputable abbrev fr1:List Nat:=((fr0.filter fun j=>j != 0).filter fun j=>j != 1).filter fun j=>j != 2
include F hd hu in
theorem law_head {ns:List Int} {sc:SV} {nx:Nat} {ps qs:Array Value} {K:Fl→Cx→Prop} (hns:ns.length≤10∧∀ n∈ns,0≤n∧n≤9999) (hnx:100≤nx)
  (h:∀ loc nx',100≤nx'→LaL (psOf ns) (wOf ns.sum) (hdOf ns.sum) (sgOf ns.sum) loc→SpSs c (d+1) (u+3) laEn (law_d.1.2.1.drop 7) ⟨loc,makAll (wOf ns.sum) (sgOf ns.sum) [] [] (hdOf ns.sum) ps qs,nx',fr1⟩ K) :
  SpSs c (d+1) (u+3) laEn (law_d.1.2.1.drop 1) ⟨[("script",sc),("numbers",.fl (ns.map .int))],[(8,tabA ps),(9,tabB qs)],nx,fr0⟩ K:=by
 let pf:SV→SV:=fun x=>match x with | .int i=>pieceS (lawPiece i) | _=>.none
 refine ss_cons (ss_map (F:=pf) hnx (it_fl (sp_name rfl ⟨_,rfl,rfl,by simp; lia,fun x hx=>?_,fun nx1 hn1=>?_⟩)))
 ·refine hide fun Go jo=>?_
  obtain ⟨i,_,rfl⟩:=List.mem_map.mp hx
  refine jo ?_
  intro L loc o nx2 hn2 ho
  exact a_name ⟨_,rfl,sp_call (sp_glob F.V.pieceN ⟨_,rfl,.inr (.inr F.V.pieceK),(show SpArgs _ _ _ _ _ _ _ from sp_name get_put (lpiece_c F.V (by exact aS ‹_› rfl) ⟨rfl,nx2,Nat.le_refl _,rfl⟩))⟩)⟩
 ·rw [show (ns.map SV.int).map pf=(psOf ns).map pieceS from by rw [List.map_map,List.map_map]; rfl]
  have hs:=sum_bound ns fun n hn=>by have:=hns.2 n hn; lia
  refine ss_cons (ss_assign (sp_call (sp_bltn (v:=.builtin "sum") F.B.sumN (by decide +kernel) ⟨_,rfl,.inl ⟨_,rfl⟩,(show SpArgs _ _ _ _ _ _ _ from sp_name rfl (c_sumf (fun n hn=>by have:=hns.2 n hn; lia) (by lia) ?_))⟩)))
  refine ss_cons (ss_assign (sp_bin (sp_name rfl (sp_int (o_modi (by decide) ?_)))))
  have h3:0≤(ns.sum.fdiv 13).fmod 3∧(ns.sum.fdiv 13).fmod 3<(3:Nat):=fmod_in _ 3 (by decide)
  have h6:0≤(ns.sum.fdiv 39).fmod 6∧(ns.sum.fdiv 39).fmod 6<(6:Nat):=fmod_in _ 6 (by decide)
  refine ss_cons (ss_assign (sp_bin (sp_bin (sp_bin (sp_name rfl (sp_int (o_divi (by decide) (by decide) (sp_int (o_modi (by decide) (sp_int (o_muli ?_ ?_)))))))))))
  ·exact IntMulOk.of_right (intBits_le_64 (by decide) (by decide))
  have hg:([.str " ",.str ", ",.str "\t,",.str ";, \t",.str ";,",.str "\t"]:List SV)[((ns.sum.fdiv 39).fmod 6).toNat]? = some (.str (sgOf ns.sum)):=by
   unfold sgOf
   have:((ns.sum.fdiv 39).fmod 6).toNat<6:=by lia
   generalize ((ns.sum.fdiv 39).fmod 6).toNat=j at this
   match j,this with
   | 0,_=>rfl
   | 1,_=>rfl
   | 2,_=>rfl
   | 3,_=>rfl
   | 4,_=>rfl
   | 5,_=>rfl
  refine ss_cons (ss_assign (sp_sub (sp_flist (show SpArgs _ _ _ _ _ _ _ from sp_str (sp_str (sp_str (sp_str (sp_str (sp_str ⟨by show 6≤1000; decide,sp_bin (sp_bin (sp_name rfl (sp_int (o_divi (by decide) (by decide) (sp_int (o_modi (by decide) (i_fl (by lia) (index_in h6) hg ?_)))))))⟩)))))))))
  refine ss_cons (ss_assign (sp_call (sp_glob F.U.makN ⟨_,rfl,.inr (.inr F.U.makK),(show SpArgs _ _ _ _ _ _ _ from sp_name rfl (sp_name rfl (sp_str (sp_name rfl ?_))))⟩)))
  refine (maker_make F.A F.B F.D F.M F.N (d:=d+1) (u:=u+3) (by exact aS ‹_› rfl) (by exact aS ‹_› rfl) (show (0:Nat)∈fr0 by decide) (show (1:Nat)∈fr0 by decide) (show (2:Nat)∈fr0 by decide) ?_).toC
  refine sp_perm (b:=makAll (wOf ns.sum) (sgOf ns.sum) [] [] (hdOf ns.sum) ps qs) ?_ (h _ nx1 (Nat.le_trans hnx (Nat.le_of_lt hn1)) ⟨rfl,rfl,rfl,rfl,rfl⟩)
  exact (List.perm_append_comm (l₁:=[(1,linO []),(2,accO [] (hdOf ns.sum))]) (l₂:=[(0,makO (wOf ns.sum) (sgOf ns.sum))])).append_right [(8,tabA ps),(9,tabB qs)]
end
noncomputable def QP (p:Pc):Prop:=(∃ ch,(seqIndex? 0 p.wr.length).bind (p.wr.cps[·]?)=some ch∧ch≠39)∨((seqIndex? 0 p.wr.length).bind (p.wr.cps[·]?)=some 39∧∃ w,p.words=[w]∧((w = ""∧p.wr = "''")∨(w = "e f"∧p.wr = "'e f'")∨(w = "#,"∧p.wr = "'#,'")))
theorem piece_qp (g k i:Nat) (hk:k<5):QP (pieceAt g k i):=by
 have h5:∀ k<5,(seqIndex? 0 (someOf k).length).bind ((someOf k).cps[·]?)=some 97:=by decide +kernel
 unfold QP pieceAt kindOf
 dsimp only
 split
 ·exact .inl ⟨97,h5 k hk,by decide⟩
 ·exact .inl ⟨98,by decide +kernel,by decide⟩
 ·exact .inl ⟨59,by decide +kernel,by decide⟩
 ·exact .inr ⟨by decide +kernel,_,rfl,.inr (.inl ⟨rfl,rfl⟩)⟩
 ·exact .inr ⟨by decide +kernel,_,rfl,.inr (.inr ⟨rfl,rfl⟩)⟩
 ·exact .inr ⟨by decide +kernel,_,rfl,.inl ⟨rfl,rfl⟩⟩
theorem one_quo (ch:Nat):decide ((⟨#[ch]⟩:Str) = "'")=decide (ch=39):=by
 refine decide_eq_decide.mpr ⟨fun h=>?_,fun h=>by subst h; rfl⟩
 have:=congrArg (fun x:Str=>x.cps.toList) h
 have e:(Str.ofString "'").cps.toList=[39]:=by decide +kernel
 simp only [e] at this
 simpa using this
theorem nice_rows {row:List Pc} (h:∀ p∈row,GoodP p) (hz:row.length≤60):Nice (row.map Pc.pr):=by
 refine ⟨by simpa using hz,fun q hq=>?_⟩
 refine hide fun Go jo=>?_
 obtain ⟨p,hp,rfl⟩:=List.mem_map.mp hq
 refine jo ?_
 have g:=gap_ok (h p hp).fine
 exact ⟨by show p.gap.length≤100; lia,(h p hp).len,g.2,(h p hp).ok⟩
theorem rowTx_len {row:List Pc} (h:∀ p∈row,GoodP p) (hz:row.length≤60):(rowTx row).length≤12000:=text_len (nice_rows h hz)
section
variable {c:Cst} (F:AllFacts c) {d u:Nat} (hd:d<900) (hu:u<3000) {ps0:List Pc} {w head:Int} {sg:Str} (hh:0≤head∧head≤1000) {nx:Nat} {fr:List Nat}
noncomputable abbrev mkSt (w:Int) (sg:Str) (st:List Str×List (Str×Str)×Int) (pt qt:Array Value):List (Nat×SO):=makAll w sg st.1 st.2.1 st.2.2 pt qt
inductive LlI (ps0:List Pc) (w head:Int) (sg:Str) (nx:Nat) (fr:List Nat) (xs:List SV) (cx:Cx):Prop
 | mk (loc':List (Str×SV)) (pt' qt':Array Value) (qs:List Pc) (rows:List (List Pc)) (st:List Str×List (Str×Str)×Int) (n:Nat) (ex:xs=qs.map pieceS) (ec:cx=⟨loc',mkSt w sg st pt' qt',nx,fr⟩) (hL:LaL ps0 w head sg loc') (hp:TabL 95 19 pt') (hq:TabL 98 32 qt') (h0:∀ p∈qs,LawP p∧QP p) (hB:Beside head rows st) (hR:RowsOk rows n) (hn:n+qs.length≤10) (e1:qs.foldl (rowsStep w head sg) rows=lawRows w head sg ps0) (e2:qs.foldl (fun st p=>chunk w sg st p.pr) st=made w head sg ps0)
include F hd hu hh in
theorem law_loop {loc:List (Str×SV)} {K:Fl→Cx→Prop} (hL:LaL ps0 w head sg loc) (h0:∀ p∈ps0,LawP p∧QP p) (hz:ps0.length≤10) {pt qt:Array Value} (hp:TabL 95 19 pt) (hq:TabL 98 32 qt)
  (h:∀ loc' pt' qt',LaL ps0 w head sg loc'→TabL 95 19 pt'→TabL 98 32 qt'→Beside head (lawRows w head sg ps0) (made w head sg ps0)→RowsOk (lawRows w head sg ps0) 10→K .next ⟨loc',mkSt w sg (made w head sg ps0) pt' qt',nx,fr⟩) :
  SpS c (d+1) (u+3) laEn (stAt law_d.1.2.1 7) ⟨loc,mkSt w sg ([],[],head) pt qt,nx,fr⟩ K:=by
 refine ss_for (LlI ps0 w head sg nx fr)
  (it_fl (sp_name hL.pieces ⟨_,rfl,loc,pt,qt,ps0,[[]],([],[],head),0,rfl,rfl,hL,hp,hq,h0,⟨by simp,by simp,rfl⟩,⟨by simp,by simp,by simp,by simp⟩,by lia,rfl,rfl⟩)) (fun x xs cx hI=>?_) (fun cx hI=>?_)
 ·refine hide fun Go jo=>?_
  obtain ⟨loc',pt',qt',qs,rows,st,n,e,rfl,hL,hp,hq,h0,hB,hR,hn,e1,e2⟩:=hI
  refine jo ?_
  cases qs with
  | nil=>cases e
  | cons p qs =>
  simp only [List.map_cons,List.cons.injEq] at e
  refine hide fun Go jo=>?_
  obtain ⟨rfl,rfl⟩:=e
  rw [List.foldl_cons] at e1 e2
  rw [List.length_cons] at hn
  obtain ⟨hp1,hp2⟩:=h0 p (.head _)
  refine jo ?_
  refine a_tup (show SpAs _ _ _ _ _ _ _ _ from a_name (a_name (a_name (a_name ?_))))
  have hL2:LaL ps0 w head sg (setL "lone" (.str p.lone) (setL "words" (.fl (p.words.map .str)) (setL "written" (.str p.wr) (setL "gap" (.str p.gap) loc')))):=hL.put.put.put.put
  have ew:(setL "lone" (.str p.lone) (setL "words" (.fl (p.words.map .str)) (setL "written" (.str p.wr) (setL "gap" (.str p.gap) loc')))).lookup ("written":Str)=some (.str p.wr):=get_ne (get_ne get_put)
  have eo:(setL "lone" (.str p.lone) (setL "words" (.fl (p.words.map .str)) (setL "written" (.str p.wr) (setL "gap" (.str p.gap) loc')))).lookup ("words":Str)=some (.fl (p.words.map .str)):=get_ne get_put
  refine ss_cons (ss_expr (sp_meth (sp_name hL2.maker (at_meth rfl rfl F.U.mChunk rfl ⟨.inr (.inr F.U.kChunk),(show SpArgs _ _ _ _ _ _ _ from sp_name (get_ne (get_ne (get_ne get_put))) ?_)⟩))))
  refine hide fun Go jo=>?_
  obtain ⟨rs0,last,rfl⟩:=(nil_or_snoc rows).resolve_left hR.ne
  refine jo ?_
  have est:st=(rs0.map rowTx,last.map Pc.pr,if (rs0++[last]).length=1 then head else 0):=by have:=hB.2.2; rw [show (rs0++[last]).getLast?.getD []=last from by simp,show (rs0++[last]).dropLast=rs0 from by simp] at this; exact this
  have hlast:∀ q∈last++[p],GoodP q:=fun q hq=>by
   rcases List.mem_append.mp hq with hq | hq
   ·exact (hR.all last (by simp) q hq).good
   ·simp at hq; subst hq; exact hp1.good
  have hll:last.length≤n:=Nat.le_trans ((List.sublist_flatten_of_mem (L:=rs0++[last]) (by simp)).length_le) hR.flat
  have hrl:=hR.len
  simp only [List.length_append,List.length_singleton] at hrl
  have fin:∀ (w0:SV),w0 = .str p.wr→SpC c (d+1) (u+3) (.ref 114) [.ref 0,.str p.gap,w0] ⟨setL "lone" (.str p.lone) (setL "words" (.fl (p.words.map .str)) (setL "written" (.str p.wr) (setL "gap" (.str p.gap) loc'))),mkSt w sg st pt' qt',nx,fr⟩ (fun v cx1=>v = .none∧Then c (d+1) (u+3) laEn [] (LoopK (LlI ps0 w head sg nx fr (qs.map pieceS)) K) .next cx1):=by
   rintro _ rfl
   refine chunk_c F.A F.B F.D F.M F.N F.P (d:=d+1) (u:=u+3) (by exact aS ‹_› rfl) (by exact aS ‹_› rfl) ?_ ?_ ?_ ?_ (List.Sublist.refl _) hp hq fun pt2 qt2 hp2 hq2=>⟨rfl,ss_nil ⟨_,pt2,qt2,qs,_,chunk w sg st p.pr,n+1,rfl,rfl,hL2,hp2,hq2,fun q hq=>h0 q (.tail _ hq),step_rows hB hp1.good.fine hh.1,rows_step hR hp1,by lia,e1,e2⟩⟩
   ·rw [est]
    have:=nice_rows hlast (by simp; lia)
    rwa [List.map_append] at this
   ·rw [est]; dsimp only; split <;> lia
   ·rw [est]; simp; lia
   ·rw [est]
    intro z hz
    obtain ⟨row,hr,rfl⟩:=List.mem_map.mp hz
    have h1:row.length≤n:=Nat.le_trans ((List.sublist_flatten_of_mem (L:=rs0++[last]) (by simp [hr])).length_le) hR.flat
    have:=rowTx_len (row:=row) (fun q hq=>(hR.all row (by simp [hr]) q hq).good) (by lia)
    lia
  rcases hp2 with ⟨ch,hc,hne⟩ | ⟨hc,w1,ewd,hw⟩
  ·refine sp_ifexp (st_cmp (sp_sub (sp_name ew (sp_int (i_str (by decide) hc (sp_str (o_eqs ⟨_,rfl,?_⟩)))))))
   rw [one_quo,decide_eq_false hne]
   exact ite_f (by decide) (sp_name ew (fin _ rfl))
  ·refine sp_ifexp (st_cmp (sp_sub (sp_name ew (sp_int (i_str (by decide) hc (sp_str (o_eqs ⟨_,rfl,?_⟩)))))))
   rw [one_quo,decide_eq_true rfl]
   refine ite_t rfl (sp_call (sp_glob F.U.quoN ⟨_,rfl,.inr (.inr F.U.quoK),(show SpArgs _ _ _ _ _ _ _ from sp_sub (sp_name eo (sp_int (i_fl (j:=0) (x:=.str w1) (by decide) ?_ ?_ ?_))))⟩))
   ·rw [ewd]; rfl
   ·rw [ewd]; rfl
   ·refine quote_c F.Q (by exact aS ‹_› rfl) F.U.quoM hw ?_
    rw [upd_nil]
    exact fin _ rfl
 ·refine hide fun Go jo=>?_
  obtain ⟨loc',pt',qt',qs,rows,st,n,e,rfl,hL,hp,hq,h0,hB,hR,hn,e1,e2⟩:=hI
  refine jo ?_
  cases qs with
  | cons p qs=>cases e
  | nil =>
  have e1:rows=lawRows w head sg ps0:=e1
  have e2:st=made w head sg ps0:=e2
  subst e1; subst e2
  exact ss_nil (h loc' pt' qt' hL hp hq hB ⟨hR.all,Nat.le_trans hR.flat hn,by have:=hR.len; lia,hR.ne⟩)
end
noncomputable def catSV:SV→Str
 | .tup (.str g :: .str w :: _)=>g++w
 | _=>""
noncomputable def joinSV:SV→SV
 | .fl xs=>.str (Txt.join "" (xs.map catSV))
 | _=>.none
theorem cat_eq (p:Pc):catSV (pieceS p)=cat2 p.pr:=by
 show p.gap++p.wr=cat2 p.pr
 rw [str_chars (p.gap++p.wr),str_chars (cat2 p.pr),chars_app,cat2_chars]; rfl
theorem join_eq (row:List Pc):joinSV (rowSV row) = .str (rowTx row):=by
 show SV.str (Txt.join "" ((row.map pieceS).map catSV))=SV.str (Txt.join "" ((row.map Pc.pr).map cat2))
 rw [List.map_map,List.map_map]
 exact congrArg (fun l=>SV.str (Txt.join "" l)) (List.map_congr_left fun p _=>cat_eq p)
theorem upd_fr (cx:Cx) (fr:List Nat):cx.upd [] [] fr = { cx with fr:=fr }:=by
 refine hide fun Go jo=>?_
 obtain ⟨a,b,c,d⟩:=cx
 refine jo ?_
 simp [Cx.upd]
noncomputable def LawEnd (fl:Fl) (cx:Cx):Prop:=fl = .ret (.bool true)∧∃ p q,TabL 95 19 p∧TabL 98 32 q∧(8,tabA p)∈cx.obj∧(9,tabB q)∈cx.obj
noncomputable def tokD (t:Tok2):PyData:=.list [.str ⟨t.1.toArray⟩,.int t.2]
theorem eqv_refl:∀ R:List Tok2,PyData.eqvAll (R.map tokD) (R.map tokD)=true
 | []=>rfl
 | t :: R=>by
  rw [List.map_cons,PyData.eqvAll,eqv_refl R,Bool.and_true]
  show (_==_&&(_==_&&true))=true
  simp
theorem sum_le_mul (l:List Nat) (n:Nat) (h:∀ x∈l,x≤n):l.sum≤n * l.length:=by
 induction l with
 | nil=>simp
 | cons x l ih =>
  have:=ih fun y hy=>h y (.tail _ hy)
  have:=h x (.head _)
  rw [List.sum_cons,List.length_cons,Nat.mul_succ]; lia
noncomputable abbrev fr2:List Nat:=(fr1.filter fun j=>j != 11).filter fun j=>j != 12
theorem rows_small {rows:List (List Pc)} (hR:RowsOk rows 10):(∀ row∈rows,row.length≤10∧(rowTx row).length≤12000)∧((rows.map rowTx).map (·.length)).sum≤12000 * 11:=by
 have hrow:∀ row∈rows,row.length≤10∧(rowTx row).length≤12000:=fun row hr=>by
  have h1:row.length≤10:=Nat.le_trans ((List.sublist_flatten_of_mem hr).length_le) hR.flat
  exact ⟨h1,rowTx_len (fun q hq=>(hR.all row hr q hq).good) (by lia)⟩
 have hlen:=hR.len
 have hsum:((rows.map rowTx).map (·.length)).sum≤12000 * 11:=by
  refine Nat.le_trans (sum_le_mul _ 12000 fun x hx=>?_) (Nat.mul_le_mul_left _ (by simpa using hlen))
  obtain ⟨z,hz,rfl⟩:=List.mem_map.mp hx
  obtain ⟨row,hr,rfl⟩:=List.mem_map.mp hz
  exact (hrow row hr).2
 exact ⟨hrow,hsum⟩
section
variable {c:Cst} (F:AllFacts c) {d u:Nat} (hd:d<900) (hu:u<3000) {ps0:List Pc} {w head:Int} {sg:Str} (hh:0≤head∧head≤1000) {nx:Nat}
include F hd hu in
theorem law_last {loc:List (Str×SV)} {obj:List (Nat×SO)} {nx1:Nat} {rows:List (List Pc)} (hR:RowsOk rows 10) (hrw:loc.lookup ("rows":Str)=some (.fl (rows.map rowSV))) (hfo:loc.lookup ("folded":Str)=some (.str (Txt.join "\n" (rows.map rowTx)))) (ewhole:lex .W (chars (Txt.join "\n" (rows.map rowTx))) 1=pyRows 1 [] rows) :
  SpSs c (d+1) (u+3) laEn (law_d.1.2.1.drop 11) ⟨loc,obj,nx1,fr2⟩ fun fl cx=>fl = .ret (.bool true)∧cx.obj=obj:=by
 have hlen:=hR.len
 have ec:=join_chars rows
 have hcl:=rowsChars_len rows hR.all
 have hfl:=hR.flat
 have hxl:(Txt.join "\n" (rows.map rowTx)).length≤1000:=by
  have:(chars (Txt.join "\n" (rows.map rowTx))).length=(Txt.join "\n" (rows.map rowTx)).length:=Array.length_toList
  rw [← this,ec]; lia
 have hlx:=lex_len (rowsChars rows) .W 1
 simp only [isA,Bool.false_eq_true,if_false] at hlx
 refine ss_cons (ss_ret (sp_cmp (sp_call (sp_glob F.U.readN ⟨_,rfl,.inr (.inr F.U.readK),(show SpArgs _ _ _ _ _ _ _ from sp_name hfo (lread_c F.S F.S2 F.X F.Y F.Z F.W (d:=d+1) (u:=u+3) (by exact aS ‹_› rfl) (by exact aS ‹_› rfl) (by lia) (by rw [ec]; exact rows_okL _ hR.all) ewhole (by rw [← ewhole,ec]; lia) (show (3:Nat)∈fr2 by decide) (show (4:Nat)∈fr2 by decide) (show (5:Nat)∈fr2 by decide) (show (6:Nat)∈fr2 by decide) fun fr=>?_))⟩))))
 rw [upd_fr]
 refine sp_call (sp_glob F.U.tokN ⟨_,rfl,.inr (.inr F.U.tokK),(show SpArgs _ _ _ _ _ _ _ from sp_name hrw (ltok_c F.T (d:=d+1) (u:=u+3) (by exact aS ‹_› rfl) (fun row hr p hp he=>?_) ?_ (by lia) ?_))⟩)
 ·rcases (hR.all row hr p hp).tk.kind with ⟨_,x,e,_⟩ | ⟨e,_⟩ | ⟨e,_⟩
  ·intro q; rw [q] at e; cases e
  ·rw [e] at he; cases he
  ·rw [e] at he; cases he
 ·have:=rowsWt_le rows hR.all; lia
 ·have hd:SV.data (.fl ((pyRows 1 [] rows).map rowS))=some (.list ((pyRows 1 [] rows).map tokD)):=by
   exact congrArg (Option.map PyData.list) (datas_map (g:=tokD) fun x _=>rfl)
  have hsh:SeqAt.shaped (.list ((pyRows 1 [] rows).map tokD))=true:=by
   refine shaped_list 5 (by decide) fun t ht=>⟨?_,by show 1≤5; decide⟩
   rw [← ewhole,ec] at ht
   have:=lex_mem (P:=fun c=>c<0x110000) _ .W 1 (rowsChars_ok _ hR.all) (by simp [mdChars]) t ht
   show (PyData.strOk ⟨t.1.toArray⟩&&true)=true
   rw [Bool.and_true]
   unfold PyData.strOk
   simpa using this
  refine o_eqd (by exact aS ‹_› rfl) hd hd hsh hsh ?_
  rw [upd_fr]
  refine ⟨?_,rfl⟩
  show Fl.ret (.bool (PyData.eqvAll _ _))=_
  rw [eqv_refl]
set_option maxHeartbeats 4000000 in
include F hd hu in
theorem law_join {loc:List (Str×SV)} {obj:List (Nat×SO)} {fr:List Nat} {rows:List (List Pc)} (hR:RowsOk rows 10) (hrw:loc.lookup ("rows":Str)=some (.fl (rows.map rowSV))) (hfo:loc.lookup ("folded":Str)=some (.str (Txt.join "\n" (rows.map rowTx)))) (hnx:100≤nx) {K:Fl→Cx→Prop} (h:∀ nx1,K .next ⟨loc,obj,nx1,fr⟩) :
  SpS c (d+1) (u+3) laEn (stAt law_d.1.2.1 10) ⟨loc,obj,nx,fr⟩ K:=by
 have hlen:=hR.len
 obtain ⟨hrow,hsum⟩:=rows_small hR
 have hnl:Str.length "\n" = 1:=by decide +kernel
 refine ss_if (st_cmp (sp_name hfo (sp_meth (sp_str (m_str PySem.F.slot_str_join PySem.F.type_str_join ⟨.inl ⟨_,rfl⟩,(show SpArgs _ _ _ _ _ _ _ from sp_map (F:=joinSV) hnx (it_fl (sp_name hrw ⟨_,rfl,rfl,by rw [List.length_map]; lia,fun x hx=>?_,fun nx1 hn1=>?_⟩)))⟩)))))
 ·refine hide fun Go jo=>?_
  obtain ⟨row,hr,rfl⟩:=List.mem_map.mp hx
  refine jo ?_
  intro L loc2 o nx2 hn2 ho
  have hrl:=hrow row hr
  have eL:(row.map pieceS).map (fun x=>SV.str (catSV x))=((row.map pieceS).map catSV).map SV.str:=by rw [List.map_map (g:=SV.str)]; rfl
  refine a_name ⟨_,rfl,sp_meth (sp_str (m_str PySem.F.slot_str_join PySem.F.type_str_join ⟨.inl ⟨_,rfl⟩,(show SpArgs _ _ _ _ _ _ _ from sp_map (F:=fun x=>.str (catSV x)) (show 100≤nx2 by have:nx<nx2:=hn2; lia) (it_fl (sp_name get_put ⟨_,rfl,rfl,by rw [List.length_map]; lia,fun y hy=>?_,fun nx3 hn3=>?_⟩)))⟩))⟩
  ·refine hide fun Go jo=>?_
   obtain ⟨p,hp,rfl⟩:=List.mem_map.mp hy
   refine jo ?_
   have g:=(hR.all row hr p hp).good
   have g2:=(gap_ok g.fine).1
   have g3:=g.len
   intro L2 loc3 o3 nx4 hn4 ho4
   exact a_name ⟨_,rfl,sp_bin (sp_sub (sp_name get_put (sp_int (i_tup (j:=0) (by decide) rfl rfl (sp_sub (sp_name get_put (sp_int (i_tup (j:=1) (by decide) rfl rfl (o_adds (by lia) ⟨rfl,nx4,Nat.le_refl _,rfl⟩)))))))))⟩
  ·rw [eL]
   refine c_joinf ?_ ⟨?_,nx3,Nat.le_of_lt hn3,rfl⟩
   ·have:(((row.map pieceS).map catSV).map (·.length)).sum≤102 * 10:=by
     refine Nat.le_trans (sum_le_mul _ 102 fun x hx=>?_) (Nat.mul_le_mul_left _ (by simpa using hrl.1))
     obtain ⟨z,hz,rfl⟩:=List.mem_map.mp hx
     obtain ⟨y,hy,rfl⟩:=List.mem_map.mp hz
     obtain ⟨p,hp,rfl⟩:=List.mem_map.mp hy
     have g:=(hR.all row hr p hp).good
     have g2:=(gap_ok g.fine).1
     have g3:=g.len
     rw [cat_eq,cat2_len]
     show p.gap.length+p.wr.length≤102
     lia
    rw [empty_len]; lia
   ·rfl
 ·have eJ:(rows.map rowSV).map joinSV=(rows.map rowTx).map SV.str:=by
   rw [List.map_map,List.map_map]
   exact List.map_congr_left fun row _=>join_eq row
  rw [eJ]
  refine c_joinf (by rw [hnl,List.length_map]; lia) (o_nes ⟨_,rfl,?_⟩)
  rw [decide_eq_true rfl]
  exact ite_f (by decide) (ss_nil (h nx1))
include F hd hu hh in
theorem law_end {loc:List (Str×SV)} (hnx:100≤nx) (hL:LaL ps0 w head sg loc) (h0:∀ p∈ps0,LawP p) (hne:ps0≠[]) (hz:ps0.length≤10) {pt qt:Array Value} (hp:TabL 95 19 pt) (hq:TabL 98 32 qt) (hsg:sg.length≤100∧∀ ch∈sg.cps.toList,PyData.strOk (one ch)=true)
  (hB:Beside head (lawRows w head sg ps0) (made w head sg ps0)) (hR:RowsOk (lawRows w head sg ps0) 10) :
  SpSs c (d+1) (u+3) laEn (law_d.1.2.1.drop 8) ⟨loc,mkSt w sg (made w head sg ps0) pt qt,nx,fr1⟩ LawEnd:=by
 have emade:=made_rows (w:=w) (sg:=sg) hh.1 (fun p hp=>(h0 p hp).good.fine) hne
 have ewhole:=plain_whole (w:=w) (sg:=sg) hh.1 (fun p hp=>(h0 p hp).good.fine) (fun p hp=>(h0 p hp).tk) hne
 rw [emade] at ewhole
 obtain ⟨hrow,hsum⟩:=rows_small hR
 have hlen:=hR.len
 have hnl:Str.length "\n" = 1:=by decide +kernel
 have e8:SpC c (d+1) (u+3) (.ref 65) [.ref 0,.str "\n"] ⟨loc,mkSt w sg (made w head sg ps0) pt qt,nx,fr1⟩ (fun v cx=>∃ obj,v = .str (Txt.join "\n" ((lawRows w head sg ps0).map rowTx))∧cx=⟨loc,obj,nx,fr1⟩∧∃ p q,TabL 95 19 p∧TabL 98 32 q∧(8,tabA p)∈obj∧(9,tabB q)∈obj):=by
  have est:=hB.2.2
  refine vstr_c F.A F.B F.D F.M F.N (d:=d+1) (u:=u+3) (by exact aS ‹_› rfl) (by exact aS ‹_› rfl) ?_ ?_ ?_ ?_ (List.Sublist.refl _) hp hq ?_ fun ps' qs' hp' hq'=>⟨_,by rw [emade],rfl,ps',qs',hp',hq',.tail _ (.tail _ (.tail _ (.head _))),.tail _ (.tail _ (.tail _ (.tail _ (.head _))))⟩
  ·rw [est]
   refine nice_rows (fun q hq=>?_) ?_
   ·obtain ⟨rs0,last,e⟩:=(nil_or_snoc (lawRows w head sg ps0)).resolve_left hR.ne
    rw [e,show (rs0++[last]).getLast?.getD []=last from by simp] at hq
    exact (hR.all last (by rw [e]; simp) q hq).good
   ·obtain ⟨rs0,last,e⟩:=(nil_or_snoc (lawRows w head sg ps0)).resolve_left hR.ne
    rw [e,show (rs0++[last]).getLast?.getD []=last from by simp]
    have:=(hrow last (by rw [e]; simp)).1
    lia
  ·rw [est]; dsimp only; split <;> lia
  ·rw [est]; simp; lia
  ·rw [est]
   intro z hz
   obtain ⟨row,hr,rfl⟩:=List.mem_map.mp hz
   have:=(hrow row (List.dropLast_subset _ hr)).2
   lia
  ·rw [emade,hnl,List.length_map]; lia
 refine ss_cons (ss_assign (sp_meth (sp_name hL.maker (at_meth rfl rfl F.U.mStr rfl ⟨.inr (.inr F.U.kStr),(show SpArgs _ _ _ _ _ _ _ from sp_str (e8.mono fun v cx hv=>?_))⟩))))
 refine hide fun Go jo=>?_
 obtain ⟨obj,rfl,rfl,hobj⟩:=hv
 refine jo ?_
 have hL:=hL.put (x:="folded") (v:=.str (Txt.join "\n" ((lawRows w head sg ps0).map rowTx)))
 have hfo:(setL "folded" (.str (Txt.join "\n" ((lawRows w head sg ps0).map rowTx))) loc).lookup ("folded":Str)=some (.str (Txt.join "\n" ((lawRows w head sg ps0).map rowTx))):=get_put
 show SpSs c (d+1) (u+3) laEn (law_d.1.2.1.drop 9) ⟨setL "folded" (.str (Txt.join "\n" ((lawRows w head sg ps0).map rowTx))) loc,obj,nx,fr1⟩ _
 generalize setL "folded" (.str (Txt.join "\n" ((lawRows w head sg ps0).map rowTx))) loc=loc at hL hfo
 refine ss_cons (ss_assign (sp_call (sp_glob F.U.rowN ⟨_,rfl,.inr (.inr F.U.rowK),(show SpArgs _ _ _ _ _ _ _ from sp_name hL.pieces (sp_name hL.width (sp_name hL.head (sp_name hL.signs ?_))))⟩)))
 refine lrows_c F.R (d:=d+1) (u:=u+3) (by exact aS ‹_› rfl) (by exact aS ‹_› rfl) (fun p hp=>(h0 p hp).good) (by lia) hsg.1 hsg.2 ⟨show (11:Nat)∈fr1 by decide,show (12:Nat)∈fr1 by decide⟩ ?_
 rw [upd_fr]
 have hrw:(setL "rows" (.fl ((lawRows w head sg ps0).map rowSV)) loc).lookup ("rows":Str)=some (.fl ((lawRows w head sg ps0).map rowSV)):=get_put
 have hfo:(setL "rows" (.fl ((lawRows w head sg ps0).map rowSV)) loc).lookup ("folded":Str)=_:=get_ne hfo
 show SpSs c (d+1) (u+3) laEn (law_d.1.2.1.drop 10) ⟨setL "rows" (.fl ((lawRows w head sg ps0).map rowSV)) loc,obj,nx,fr2⟩ _
 generalize setL "rows" (.fl ((lawRows w head sg ps0).map rowSV)) loc=loc at hrw hfo
 exact ss_cons (law_join F hd hu hR hrw hfo hnx fun nx1=>(law_last F hd hu hR hrw hfo ewhole).mono fun fl cx ⟨h1,h2⟩=>⟨h1,h2▸hobj⟩)
include F hd hu in
theorem law_c {sc:List Int} (hz:sc.length≤1000):SpSs c (d+1) (u+3) laEn law_d.1.2.1 ⟨[("script",.fl (sc.map .int))],[(8,tabA #[]),(9,tabB #[])],100,fr0⟩ LawEnd:=by
 obtain ⟨h1,h2,h3⟩:=nums_ok sc
 have hl:∀ p∈psOf (nums sc),LawP p∧QP p:=fun p hp=>by
  obtain ⟨x,_,rfl⟩:=List.mem_map.mp hp
  have h5:0≤(x.fdiv 24).fmod 5∧(x.fdiv 24).fmod 5<(5:Nat):=fmod_in _ 5 (by decide)
  exact ⟨piece_law _ _ _ (by lia),piece_qp _ _ _ (by lia)⟩
 have hh:0≤hdOf (nums sc).sum∧hdOf (nums sc).sum≤1000:=by
  have:0≤((nums sc).sum.fdiv 13).fmod 3∧((nums sc).sum.fdiv 13).fmod 3<(3:Nat):=fmod_in _ 3 (by decide)
  unfold hdOf; lia
 have hne:psOf (nums sc)≠[]:=fun q=>h1 (List.map_eq_nil_iff.mp q)
 have hz2:(psOf (nums sc)).length≤10:=by rw [List.length_map]; exact h2
 refine ss_cons (law_nums hz fun nx hnx=>?_)
 refine law_head F hd (by exact aR ‹_› rfl) ⟨h2,h3⟩ hnx fun loc nx' hnx' hL=>?_
 refine ss_cons (law_loop F hd hu hh hL hl hz2 (.inl rfl) (.inl rfl) fun loc' pt qt hL' hp hq hB hR=>?_)
 exact law_end F hd hu hh hnx' hL' (fun p hp=>(hl p hp).1) hne hz2 hp hq (sg_ok _) hB hR
end
noncomputable def notTab (b:Nat):Bool:=b != 163&&b != 170
theorem ns_only {h:Heap} {a:Addr} {m:Str→Option Value} (n:h.Ns a m) (ha:notTab a=true):(only h notTab).Ns a m:=by
 refine hide fun Go jo=>?_
 obtain ⟨o,es,ep,ho,r⟩:=n
 refine jo ?_
 exact ⟨o,es,ep,only_yes ho ha,r⟩
structure LawIn (c:Cst):Prop where
 fn:FnK c 936 law_d.1 "law" "law" .none 935 []
 off:∀ p∈c.K,notTab p.1=true
 c163:∃ od vs sl,c.K.lookup 167=some ⟨.type "code",od,.fields vs,sl⟩∧vs[11]? = some (.ref 163)
 c170:∃ od vs sl,c.K.lookup 174=some ⟨.type "code",od,.fields vs,sl⟩∧vs[11]? = some (.ref 170)
theorem lookup_mem {K:Frag} {a:Addr} {o:Obj} (h:K.lookup a=some o):(a,o)∈K:=by
 induction K with
 | nil=>cases h
 | cons p K ih =>
  obtain ⟨b,q⟩:=p
  simp only [List.lookup] at h
  split at h
  ·rename_i e; cases h; rw [beq_iff_eq.mp e]; exact .head _
  ·exact .tail _ (ih h)
section
variable {c:Cst} (F:AllFacts c) (I:LawIn c) {s:Shared} {mg mb:Str→Option Value} {d u:Nat} (hd:d<900) (hu:u<3000)
include F I hd hu in
theorem law_in (X:c.K.In s.heap) (h163:s.heap.get? 163=some (tabO #[])) (h170:s.heap.get? 170=some (tabO #[])) (hg:s.heap.Ns mainGlobals mg) (hb:s.heap.Ns builtinsNs mb) (hb2:∀ x:Str,x≠"__name__"→mb x=bootBuiltins x) (hlim:s.heap.NoLimit) (hos:s.os=c.os) (hgens:AllBare s.gens)
  {l:Addr} {vs:List Value} {sc:List Int} (hl:s.heap.IsList l vs.toArray) (hvs:∀ g am,VRs g am (sc.map .int) vs) (hz:sc.length≤1000) :
  codeAny c.M (Ar d u) (.call (.ref 936) ⟨[.ref l],[]⟩) (fun r s'=>r = .ok (.ret (.bool true))∧OldK s.heap s'.heap∧s'.os=s.os∧AllBare s'.gens) s:=by
 refine hide fun Go jo=>?_
 obtain ⟨doc,pm,an,ct,Fn⟩:=I.fn.fn (by rfl)
 obtain ⟨oc,od,sl,ho⟩:=Fn.obj
 obtain ⟨ol,hol,hcl,nl_,hdl⟩:=id hl
 refine jo ?_
 have nl:notTab l=true:=by
  have h1:l≠163:=fun e=>by rw [e,h163] at hol; cases hol; cases hcl
  have h2:l≠170:=fun e=>by rw [e,h170] at hol; cases hol; cases hcl
  simp [notTab,h1,h2]
 have s163:=Heap.lt_size h163
 have s170:=Heap.lt_size h170
 have gS:∀ b,s.heap.objs.size≤b→(only s.heap notTab).get? b=none:=fun b hb=>by
  cases e:(only s.heap notTab).get? b with
  | none=>rfl
  | some o=>exact absurd (Heap.lt_size (of_only e).1) (Nat.not_lt_of_le hb)
 refine codeAny_call_def (fd:=fdOf "law" "law" law_d.1 .none doc pm an 935 ct []) (body:=law_d.1.2.1) (binds:=[("script",.ref l)]) (by show d<1000; exact aR ‹_› rfl) (X _ _ ho) rfl hlim (codeRec_of X Fn.code) Fn.body (BindsTo.of_eq rfl) Fn.cell (fun y hy=>?_) (fun h₀ hns hle=>?_) Fn.co Fn.gen Fn.kind
 ·simp at hy; subst hy; rfl
 rw [Fn.env]
 have hle:Le s.heap h₀:=hle
 have leg:Le (only s.heap notTab) s.heap:=fun b o e=>(of_only e).1
 have am8:∀ b,b∈owned (fun i=>if i=8 then some [163] else if i=9 then some [170] else none) [(8,tabA #[]),(9,tabB #[])]→b=163∨b=170:=fun b hb=>by
  simpa [owned] using hb
 have R:Rep c ⟨only s.heap notTab,only s.heap notTab,s.heap.objs.size⟩ (only s.heap notTab) (fun i=>if i=8 then some [163] else if i=9 then some [170] else none) s.heap.objs.size ⟨[("script",.fl (sc.map .int))],[(8,tabA #[]),(9,tabB #[])],100,fr0⟩ { s with heap:=h₀,toks:=s.toks+[(("script":Str),Value.ref l)].length }:=by
  have out:∀ b∈s.heap.objs.size :: owned (fun i=>if i=8 then some [163] else if i=9 then some [170] else none) [(8,tabA #[]),(9,tabB #[])],(only s.heap notTab).get? b=none:=fun b hb=>by
   rcases List.mem_cons.mp hb with rfl | hb
   ·exact gS _ (Nat.le_refl _)
   ·rcases am8 b hb with rfl | rfl <;> exact only_no rfl
  refine ⟨leg.trans hle,⟨fun a o e=>only_yes (X _ _ e) (I.off _ (lookup_mem e)),?_,⟨mg,ns_only hg rfl⟩,⟨mb,ns_only hb rfl,hb2⟩⟩,⟨_,hns,fun x sv e=>?_⟩,fun p hp=>?_,?_,by show [8,9].Nodup; decide,out,Nat.le_refl _,fun i hi=>?_,fun i hi=>?_,leg.trans hle,out,fun b o e=>.inl e,fun i as hi e=>?_,Nat.le_of_lt hns.lt,hgens,hos,fun b _ o e=>e,Nat.le_refl _⟩
  ·obtain ⟨mc,h1,h2⟩:=hlim
   exact ⟨mc,ns_only h1 rfl,h2⟩
  ·simp only [List.lookup] at e
   split at e
   ·rename_i q
    cases e
    have:=beq_iff_eq.mp q
    subst this
    exact ⟨.ref l,rfl,.fl ⟨ol,only_yes hol nl,hcl,nl_,hdl⟩ (hvs _ _)⟩
   ·cases e
  ·simp only [List.mem_cons,List.not_mem_nil,or_false] at hp
   rcases hp with rfl | rfl
   ·exact ⟨[163],rfl,rfl,hle _ _ h163⟩
   ·exact ⟨[170],rfl,rfl,hle _ _ h170⟩
  ·show (s.heap.objs.size :: [163,170]).Nodup
   have h1:¬ s.heap.objs.size=163:=Nat.ne_of_gt s163
   have h2:¬ s.heap.objs.size=170:=Nat.ne_of_gt s170
   simp [h1,h2]
  ·have h1:¬ i=8:=by have:100≤i:=hi; lia
   have h2:¬ i=9:=by have:100≤i:=hi; lia
   simp [h1,h2]
  ·have:∀ i∈fr0,i<100∧(if i=8 then some [163] else if i=9 then some [170] else (none:Option (List Addr)))=none:=by decide
   exact this i hi
  ·exfalso
   have h1:¬ i=8:=by lia
   have h2:¬ i=9:=by lia
   simp [h1,h2] at e
 refine wpAny_mono (ar_le (law_c F hd hu hz _ _ _ _ _ R) rfl (Nat.le_refl _) (Nat.le_refl _)) (fun fl s' hq=>?_) fun _ _ x=>x.elim
 refine hide fun Go jo=>?_
 obtain ⟨g',am',cx',x,hg',ha,r',q,rfl,p,qq,hp,hq,m8,m9⟩:=hq
 refine jo ?_
 cases q with
 | ret q =>
 refine hide fun Go jo=>?_
 cases q using VR.boolE
 obtain ⟨as8,_,e8,t8⟩:=r'.lay _ m8
 obtain ⟨as9,_,e9,t9⟩:=r'.lay _ m9
 obtain ⟨od1,vs1,sl1,k1,w1⟩:=I.c163
 obtain ⟨od2,vs2,sl2,k2,w2⟩:=I.c170
 refine jo ?_
 have tab:∀ b o,s.heap.get? b=some o→notTab b=false→asItWas s.heap s'.heap b o:=fun b o e hb=>by
  have:b=163∨b=170:=by
   by_cases q:b=163
   ·exact .inl q
   ·refine .inr ?_
    simp only [notTab,Bool.and_eq_false_iff,bne_eq_false_iff_eq] at hb
    exact hb.resolve_left q
  rcases this with rfl | rfl
  ·rw [h163] at e; cases e
   exact .inr (.inl ⟨⟨167,_,vs1,X _ _ k1,rfl,rfl,w1⟩,rfl,#[],p,rfl,by simpa using t8⟩)
  ·rw [h170] at e; cases e
   exact .inr (.inl ⟨⟨174,_,vs2,X _ _ k2,rfl,rfl,w2⟩,rfl,#[],qq,rfl,by simpa using t9⟩)
 refine ⟨rfl,⟨fun b o e=>?_,fun b o e=>?_⟩,r'.os.trans hos.symm,r'.gens⟩
 ·cases hb:notTab b with
  | true=>exact .inl (r'.sub _ _ (hg' _ _ (only_yes e hb)))
  | false=>exact tab b o e hb
 ·cases hb:notTab b with
  | true=>exact ⟨o,r'.sub _ _ (hg' _ _ (only_yes e hb))⟩
  | false =>
   rcases tab b o e hb with h | ⟨_,_,vs,more,_,h⟩ | ⟨_,_,⟨o',es,n,h,_⟩,_⟩
   ·exact ⟨_,h⟩
   ·exact ⟨_,h⟩
   ·exact ⟨_,h⟩
end
namespace H
noncomputable abbrev pw:=PySem.Challenge.pw_mr0372_01
noncomputable abbrev Df:=Arguments×List Stmt×Scope
noncomputable def dfS:Stmt→Df
 | .FunctionDef _ a b _ _ _ sc _ _ _=>(a,b,sc)
 | _=>(⟨[],[],none,[],[],none,[]⟩,[],default)
noncomputable def inCls:Stmt→List Stmt
 | .ClassDef _ _ _ b _ _ _ _ _ _ _=>b
 | _=>[]
noncomputable def stI (i:Nat) (l:List Stmt):Stmt:=(l.drop i).headD (.Pass ⟨0,0,0,0⟩)
noncomputable def D1 (i:Nat):Df:=dfS (stI i pw.main.body)
noncomputable def D2 (i j:Nat):Df:=dfS (stI j (inCls (stI i pw.main.body)))
noncomputable def en (P:Params) (k:Str) (t:Tok) (v:Value):DictEntry:=⟨PyData.keyHash P k,.str k t,v⟩
noncomputable def fnG (g b:Addr) (name qual:Str) (dd:Df) (cl:List (Str×Addr)) (dV kV doc pm:Value) (an:Option Addr) (cd ct:Value):Data :=
 .func { name,qualname:=qual,params:=dd.1,body:=.stmts dd.2.1,scope:=dd.2.2,globals:=g,closure:=cl,defaults:=dV,kwdefaults:=kV,doc,pyModule:=pm,annotations:=an,code:=cd,closureTuple:=ct,builtins:=b }
noncomputable def fnD (name qual:Str) (dd:Df) (cl:List (Str×Addr)) (dV kV doc pm:Value) (an:Option Addr) (cd ct:Value):Data:=fnG mainGlobals builtinsNs name qual dd cl dV kV doc pm an cd ct
noncomputable def clD (name:Str) (bases mro:List Value) (ns:Addr) (qualname:Str) (hasDict:Bool) (slotNames:List Str) (subclasses:List Value) (abstract:Bool) (collection:Option Bool) (hasDel:Bool):Data :=
 .cls { name,bases,mro,ns,qualname,hasDict,slotNames,subclasses,abstract,collection,hasDel }
noncomputable def nones (n:Nat):Array (Option Value):=(List.replicate n none).toArray
noncomputable abbrev N:=BT.node
noncomputable abbrev Z:=BT.nil
noncomputable def oT (x:Array Value):Obj:=⟨.type "tuple",none,.seq x 0,#[]⟩
noncomputable def oC (x:Array Value):Obj:=⟨.type "code",none,.fields x,#[]⟩
noncomputable def oF (x:Array Value):Obj:=⟨.none,none,.fields x,#[]⟩
noncomputable def oD (x:Array DictEntry) (n:Nat):Obj:=⟨.type "dict",none,.dict x n,#[]⟩
noncomputable def oU (x:Data):Obj:=⟨.type "function",none,x,#[]⟩
noncomputable abbrev R (n:Addr):Value:=.ref n
noncomputable abbrev I (i:Int) (t:Tok):Value:=.int i t
noncomputable abbrev S (s:Str) (t:Tok):Value:=.str s t
noncomputable abbrev U (t:Tok):Value:=.str "/claim/cut.py" t
noncomputable abbrev O0:Value:=.int 0 0
noncomputable def o0 (P:Params):=oD #[en P "__name__" 1 (S "builtins" 160),en P "__doc__" 2 (.builtin "builtins.__doc__:str#opaque"),en P "__package__" 3 (.builtin "builtins.__package__:str#opaque"),en P "__loader__" 4 (.builtin "builtins.__loader__:shared#opaque"),en P "__spec__" 5 (.builtin "builtins.__spec__#opaque"),en P "__build_class__" 6 (.builtin "__build_class__"),en P "__import__" 7 (.builtin "__import__"),en P "abs" 8 (.builtin "abs"),en P "all" 9 (.builtin "all"),en P "any" 10 (.builtin "any"),en P "ascii" 11 (.builtin "ascii"),en P "bin" 12 (.builtin "bin"),en P "breakpoint" 13 (.builtin "breakpoint"),en P "callable" 14 (.builtin "callable"),en P "chr" 15 (.builtin "chr"),en P "compile" 16 (.builtin "compile"),en P "delattr" 17 (.builtin "delattr"),en P "dir" 18 (.builtin "dir"),en P "divmod" 19 (.builtin "divmod"),en P "eval" 20 (.builtin "eval"),en P "exec" 21 (.builtin "exec"),en P "format" 22 (.builtin "format"),en P "getattr" 23 (.builtin "getattr"),en P "globals" 24 (.builtin "globals"),en P "hasattr" 25 (.builtin "hasattr"),en P "hash" 26 (.builtin "hash"),en P "hex" 27 (.builtin "hex"),en P "id" 28 (.builtin "id"),en P "input" 29 (.builtin "input"),en P "isinstance" 30 (.builtin "isinstance"),en P "issubclass" 31 (.builtin "issubclass"),en P "iter" 32 (.builtin "iter"),en P "aiter" 33 (.builtin "aiter"),en P "len" 34 (.builtin "len"),en P "locals" 35 (.builtin "locals"),en P "max" 36 (.builtin "max"),en P "min" 37 (.builtin "min"),en P "next" 38 (.builtin "next"),en P "anext" 39 (.builtin "anext"),en P "oct" 40 (.builtin "oct"),en P "ord" 41 (.builtin "ord"),en P "pow" 42 (.builtin "pow"),en P "print" 43 (.builtin "print"),en P "repr" 44 (.builtin "repr"),en P "round" 45 (.builtin "round"),en P "setattr" 46 (.builtin "setattr"),en P "sorted" 47 (.builtin "sorted"),en P "sum" 48 (.builtin "sum"),en P "vars" 49 (.builtin "vars"),en P "None" 50 .none,en P "Ellipsis" 51 .ellipsis,en P "NotImplemented" 52 .notImplemented,en P "False" 53 (.bool false),en P "True" 54 (.bool true),en P "bool" 55 (.type "bool"),en P "memoryview" 56 (.type "memoryview"),en P "bytearray" 57 (.type "bytearray"),en P "bytes" 58 (.type "bytes"),en P "classmethod" 59 (.type "classmethod"),en P "complex" 60 (.type "complex"),en P "dict" 61 (.type "dict"),en P "enumerate" 62 (.type "enumerate"),en P "filter" 63 (.type "filter"),en P "float" 64 (.type "float"),en P "frozenset" 65 (.type "frozenset"),en P "property" 66 (.type "property"),en P "int" 67 (.type "int"),en P "list" 68 (.type "list"),en P "map" 69 (.type "map"),en P "object" 70 (.type "object"),en P "range" 71 (.type "range"),en P "reversed" 72 (.type "reversed"),en P "set" 73 (.type "set"),en P "slice" 74 (.type "slice"),en P "staticmethod" 75 (.type "staticmethod"),en P "str" 76 (.type "str"),en P "super" 77 (.type "super"),en P "tuple" 78 (.type "tuple"),en P "type" 79 (.type "type"),en P "zip" 80 (.type "zip"),en P "__debug__" 81 (.bool true),en P "BaseException" 82 (.type "BaseException"),en P "BaseExceptionGroup" 83 (.type "BaseExceptionGroup"),en P "Exception" 84 (.type "Exception"),en P "GeneratorExit" 85 (.type "GeneratorExit"),en P "KeyboardInterrupt" 86 (.type "KeyboardInterrupt"),en P "SystemExit" 87 (.type "SystemExit"),en P "ArithmeticError" 88 (.type "ArithmeticError"),en P "AssertionError" 89 (.type "AssertionError"),en P "AttributeError" 90 (.type "AttributeError"),en P "BufferError" 91 (.type "BufferError"),en P "EOFError" 92 (.type "EOFError"),en P "ImportError" 93 (.type "ImportError"),en P "LookupError" 94 (.type "LookupError"),en P "MemoryError" 95 (.type "MemoryError"),en P "NameError" 96 (.type "NameError"),en P "OSError" 97 (.type "OSError"),en P "ReferenceError" 98 (.type "ReferenceError"),en P "RuntimeError" 99 (.type "RuntimeError"),en P "StopAsyncIteration" 100 (.type "StopAsyncIteration"),en P "StopIteration" 101 (.type "StopIteration"),en P "SyntaxError" 102 (.type "SyntaxError"),en P "SystemError" 103 (.type "SystemError"),en P "TypeError" 104 (.type "TypeError"),en P "ValueError" 105 (.type "ValueError"),en P "Warning" 106 (.type "Warning"),en P "FloatingPointError" 107 (.type "FloatingPointError"),en P "OverflowError" 108 (.type "OverflowError"),en P "ZeroDivisionError" 109 (.type "ZeroDivisionError"),en P "BytesWarning" 110 (.type "BytesWarning"),en P "DeprecationWarning" 111 (.type "DeprecationWarning"),en P "EncodingWarning" 112 (.type "EncodingWarning"),en P "FutureWarning" 113 (.type "FutureWarning"),en P "ImportWarning" 114 (.type "ImportWarning"),en P "PendingDeprecationWarning" 115 (.type "PendingDeprecationWarning"),en P "ResourceWarning" 116 (.type "ResourceWarning"),en P "RuntimeWarning" 117 (.type "RuntimeWarning"),en P "SyntaxWarning" 118 (.type "SyntaxWarning"),en P "UnicodeWarning" 119 (.type "UnicodeWarning"),en P "UserWarning" 120 (.type "UserWarning"),en P "BlockingIOError" 121 (.type "BlockingIOError"),en P "ChildProcessError" 122 (.type "ChildProcessError"),en P "ConnectionError" 123 (.type "ConnectionError"),en P "FileExistsError" 124 (.type "FileExistsError"),en P "FileNotFoundError" 125 (.type "FileNotFoundError"),en P "InterruptedError" 126 (.type "InterruptedError"),en P "IsADirectoryError" 127 (.type "IsADirectoryError"),en P "NotADirectoryError" 128 (.type "NotADirectoryError"),en P "PermissionError" 129 (.type "PermissionError"),en P "ProcessLookupError" 130 (.type "ProcessLookupError"),en P "TimeoutError" 131 (.type "TimeoutError"),en P "IndentationError" 132 (.type "IndentationError"),en P "_IncompleteInputError" 133 (.type "_IncompleteInputError"),en P "IndexError" 134 (.type "IndexError"),en P "KeyError" 135 (.type "KeyError"),en P "ModuleNotFoundError" 136 (.type "ModuleNotFoundError"),en P "NotImplementedError" 137 (.type "NotImplementedError"),en P "PythonFinalizationError" 138 (.type "PythonFinalizationError"),en P "RecursionError" 139 (.type "RecursionError"),en P "UnboundLocalError" 140 (.type "UnboundLocalError"),en P "UnicodeError" 141 (.type "UnicodeError"),en P "BrokenPipeError" 142 (.type "BrokenPipeError"),en P "ConnectionAbortedError" 143 (.type "ConnectionAbortedError"),en P "ConnectionRefusedError" 144 (.type "ConnectionRefusedError"),en P "ConnectionResetError" 145 (.type "ConnectionResetError"),en P "TabError" 146 (.type "TabError"),en P "UnicodeDecodeError" 147 (.type "UnicodeDecodeError"),en P "UnicodeEncodeError" 148 (.type "UnicodeEncodeError"),en P "UnicodeTranslateError" 149 (.type "UnicodeTranslateError"),en P "ExceptionGroup" 150 (.type "ExceptionGroup"),en P "EnvironmentError" 151 (.type "OSError"),en P "IOError" 152 (.type "OSError"),en P "open" 153 (.builtin "open"),en P "quit" 154 (.builtin "builtins.quit#opaque"),en P "exit" 155 (.builtin "builtins.exit#opaque"),en P "copyright" 156 (.builtin "builtins.copyright#opaque"),en P "credits" 157 (.builtin "builtins.credits#opaque"),en P "license" 158 (.builtin "builtins.license#opaque"),en P "help" 159 (.builtin "builtins.help#opaque")] 159
noncomputable def o1 (P:Params):=oD #[en P "builtins" 162 (R 4),en P "__main__" 163 (R 5),en P "_sre" 244 (R 12),en P "_collections" 292 (R 30)] 4
noncomputable def o2 (P:Params):Obj:=⟨.none,none,.dict #[en P "\x69mport.loaded._sre" 183 (.bool true),en P "class._frozen_importlib.BuiltinImporter" 185 (R 14),en P "watched.\x69mport" 206 (R 18),en P "class._frozen_importlib.ModuleSpec" 216 (R 22),en P "sys.modules.booked-epoch" 245 (I 4 0),en P "\x69mport.later-laid._sre" 270 (.bool true),en P "watched.library" 272 (R 27),en P "watched.library-objects" 0 (.str "\x0c\x1e" 0),en P "watched.library-deep._sre" 273 (.str "\x04\x00\x00\x0b\x04\x00\x00\x0b\x04\x00\x00\x03\x04\x00\x00\x0b\x08\x04dict\x02" 0),en P "\x69mport.loaded._collections" 280 (.bool true),en P "sys.modules.landed._collections" 294 (.bool true),en P "\x69mport.later-laid._collections" 309 (.bool true),en P "watched.library-deep._collections" 311 (.str "\x04\x00\x00\x1d\x04\x00\x00\x1d\x04\x00\x00\x03\x04\x00\x00\x1d\x08\x04dict\x02" 0)] 13,#[]⟩
noncomputable def o3 (P:Params):=oD #[en P "__name__" 165 (S "__main__" 164),en P "__doc__" 166 .none,en P "__package__" 167 .none,en P "__loader__" 168 (.builtin "__main__.__loader__#opaque"),en P "__spec__" 169 .none,en P "__annotations__" 170 (R 6),en P "__builtins__" 171 (R 4),en P "__file__" 173 (U 172),en P "__cached__" 174 .none,en P "_sre" 275 (R 12),en P "deque" 317 (.type "collections.deque")] 11
noncomputable def o4:Obj:=⟨(.type "module"),(some 0),.plain,#[]⟩
noncomputable def o5:Obj:=⟨(.type "module"),(some 3),.plain,#[]⟩
noncomputable def o6:=oD #[] 0
noncomputable def o7:=oT #[]
noncomputable def o8:=oF #[]
noncomputable def o9:=oC #[S "<module>" 176,S "<module>" 177,U 178,I 1 0,O0,O0,O0,O0,R 7,.bool false,I 175 0,R 8,.none,.none,.none,.none,I 179 0,I 1 0,U 180]
noncomputable def o10:Obj:=⟨(.type "frame"),none,.plain,#[some (R 9),some (R 3),some (R 3),none,some (S "__main__" 164),none,some (R 0)]⟩
noncomputable def o11 (P:Params):=oD #[en P "__name__" 247 (S "_sre" 246),en P "__doc__" 248 .none,en P "__package__" 250 (S "" 249),en P "__loader__" 251 (.builtin "off-the-table:_sre.__loader__:shared#opaque"),en P "__spec__" 252 (.builtin "off-the-table:_sre.__spec__:shared#opaque"),en P "compile" 253 (.builtin "_sre.compile"),en P "template" 254 (.builtin "off-the-table:_sre.template:shared#opaque"),en P "getcodesize" 255 (.builtin "off-the-table:_sre.getcodesize:shared#opaque"),en P "ascii_iscased" 256 (.builtin "off-the-table:_sre.ascii_iscased:shared#opaque"),en P "unicode_iscased" 257 (.builtin "off-the-table:_sre.unicode_iscased:shared#opaque"),en P "ascii_tolower" 258 (.builtin "off-the-table:_sre.ascii_tolower:shared#opaque"),en P "unicode_tolower" 259 (.builtin "off-the-table:_sre.unicode_tolower:shared#opaque"),en P "MAGIC" 261 (I 20230612 260),en P "CODESIZE" 263 (I 4 262),en P "MAXREPEAT" 265 (I 4294967295 264),en P "MAXGROUPS" 267 (I 1073741823 266),en P "copyright" 269 (S " SRE 2.2.2 Copyright (c) 1997-2002 by Secret Labs AB " 268)] 17
noncomputable def o12:Obj:=⟨(.type "module"),(some 11),.plain,#[]⟩
noncomputable def o13 (P:Params):=oD #[en P "__module__" 189 (S "_frozen_importlib" 186),en P "__firstlineno__" 190 (I 971 187),en P "__doc__" 191 (.builtin "_frozen_importlib.BuiltinImporter.__doc__:str#opaque"),en P "_ORIGIN" 192 (S "built-in" 188),en P "find_spec" 193 (.builtin "_frozen_importlib.BuiltinImporter.find_spec#opaque"),en P "create_module" 194 (.builtin "_frozen_importlib.BuiltinImporter.create_module#opaque"),en P "exec_module" 195 (.builtin "_frozen_importlib.BuiltinImporter.exec_module#opaque"),en P "get_code" 196 (.builtin "_frozen_importlib.BuiltinImporter.get_code#opaque"),en P "get_source" 197 (.builtin "_frozen_importlib.BuiltinImporter.get_source#opaque"),en P "is_package" 198 (.builtin "_frozen_importlib.BuiltinImporter.is_package#opaque"),en P "load_module" 199 (.builtin "_frozen_importlib.BuiltinImporter.load_module#opaque"),en P "__static_attributes__" 200 (R 15),en P "__dict__" 202 (R 16),en P "__weakref__" 204 (R 17)] 14
noncomputable def o14:Obj:=⟨(.type "type"),none,clD "BuiltinImporter" [.type "object"] [R 14,.type "object"] 13 "BuiltinImporter" true [] [] false none false,#[]⟩
noncomputable def o16:Obj:=⟨(.type "getset_descriptor"),none,.fields #[S "__dict__" 201,R 14,.builtin "function.__dict__",.builtin "function.__dict__#set"],#[]⟩
noncomputable def o17:Obj:=⟨(.type "getset_descriptor"),none,.fields #[S "__weakref__" 203,R 14,.builtin "ExceptionGroup.__weakref__",.none],#[]⟩
noncomputable def o18:Obj:=⟨.none,none,.seq #[I 13 0,(.str "\x06½\n__module__\x06º\x11_frozen_importlib\x06¾\x0f__firstlineno__\x04»\x00ϋ\x06¿\x07__doc__\t4_frozen_importlib.BuiltinImporter.__doc__:str#opaque\x06À\x07_ORIGIN\x06¼\x08built-in\x06Á\tfind_spec\t2_frozen_importlib.BuiltinImporter.find_spec#opaque\x06Â\x0dcreate_module\t6_frozen_importlib.BuiltinImporter.create_module#opaque\x06Ã\x0bexec_module\t4_frozen_importlib.BuiltinImporter.exec_module#opaque\x06Ä\x08get_code\t1_frozen_importlib.BuiltinImporter.get_code#opaque\x06Å\nget_source\t3_frozen_importlib.BuiltinImporter.get_source#opaque\x06Æ\nis_package\t3_frozen_importlib.BuiltinImporter.is_package#opaque\x06Ç\x0bload_module\t4_frozen_importlib.BuiltinImporter.load_module#opaque\x06È\x15__static_attributes__\x04\x00\x00\x0f\x06Ê\x08__dict__\x04\x00\x00\x10\x06Ì\x0b__weakref__\x04\x00\x00\x11" 0),.bool true,.bool true,S "" 205,I 21 0,(.str "\x06ã\n__module__\x06Ù\x11_frozen_importlib\x06ä\x0f__firstlineno__\x04Ú\x00Ȳ\x06å\x07__doc__\t/_frozen_importlib.ModuleSpec.__doc__:str#opaque\x06æ\x08__init__\t,_frozen_importlib.ModuleSpec.__init__#opaque\x06ç\x08__repr__\t,_frozen_importlib.ModuleSpec.__repr__#opaque\x06è\x06__eq__\t*_frozen_importlib.ModuleSpec.__eq__#opaque\x06é\x06cached\t*_frozen_importlib.ModuleSpec.cached#opaque\x06ê\x06parent\t*_frozen_importlib.ModuleSpec.parent#opaque\x06ë\x0chas_location\t0_frozen_importlib.ModuleSpec.has_location#opaque\x06ì\x15__static_attributes__\x04\x00\x00\x17\x06î\x08__dict__\x04\x00\x00\x18\x06ð\x0b__weakref__\x04\x00\x00\x19\x06ñ\x08__hash__\x00" 0),.bool true,.bool true,S "" 242] 1,#[]⟩
noncomputable def o19:Obj:=⟨(.type "list"),none,.seq #[] 0,#[]⟩
noncomputable def o20 (P:Params):=oD #[en P "name" 208 (S "_sre" 207),en P "loader" 209 (R 14),en P "origin" 210 (S "built-in" 184),en P "loader_state" 211 .none,en P "submodule_search_locations" 212 .none,en P "_uninitialized_submodules" 213 (R 19),en P "_set_fileattr" 214 (.bool false),en P "_cached" 215 .none,en P "_initializing" 243 (.bool false)] 9
noncomputable def o21 (P:Params):=oD #[en P "__module__" 227 (S "_frozen_importlib" 217),en P "__firstlineno__" 228 (I 562 218),en P "__doc__" 229 (.builtin "_frozen_importlib.ModuleSpec.__doc__:str#opaque"),en P "__init__" 230 (.builtin "_frozen_importlib.ModuleSpec.__init__#opaque"),en P "__repr__" 231 (.builtin "_frozen_importlib.ModuleSpec.__repr__#opaque"),en P "__eq__" 232 (.builtin "_frozen_importlib.ModuleSpec.__eq__#opaque"),en P "cached" 233 (.builtin "_frozen_importlib.ModuleSpec.cached#opaque"),en P "parent" 234 (.builtin "_frozen_importlib.ModuleSpec.parent#opaque"),en P "has_location" 235 (.builtin "_frozen_importlib.ModuleSpec.has_location#opaque"),en P "__static_attributes__" 236 (R 23),en P "__dict__" 238 (R 24),en P "__weakref__" 240 (R 25),en P "__hash__" 241 .none] 13
noncomputable def o22:Obj:=⟨(.type "type"),none,clD "ModuleSpec" [.type "object"] [R 22,.type "object"] 21 "ModuleSpec" true [] [] false none false,#[]⟩
noncomputable def o23:=oT #[S "_cached" 219,S "_set_fileattr" 220,S "_uninitialized_submodules" 221,S "loader" 222,S "loader_state" 223,S "name" 224,S "origin" 225,S "submodule_search_locations" 226]
noncomputable def o24:Obj:=⟨(.type "getset_descriptor"),none,.fields #[S "__dict__" 237,R 22,.builtin "function.__dict__",.builtin "function.__dict__#set"],#[]⟩
noncomputable def o25:Obj:=⟨(.type "getset_descriptor"),none,.fields #[S "__weakref__" 239,R 22,.builtin "ExceptionGroup.__weakref__",.none],#[]⟩
noncomputable def o26:Obj:=⟨(R 22),(some 20),.plain,#[]⟩
noncomputable def o27:Obj:=⟨.none,none,.seq #[I 11 0,(.str ⟨#[6,247,8,95,95,110,97,109,101,95,95,6,246,4,95,115,114,101,6,248,7,95,95,100,111,99,95,95,0,6,250,11,95,95,112,97,99,107,97,103,101,95,95,6,249,0,6,251,10,95,95,108,111,97,100,101,114,95,95,4,0,0,14,6,252,8,95,95,115,112,101,99,95,95,4,0,0,26,6,253,7,99,111,109,112,105,108,101,9,12,95,115,114,101,46,99,111,109,112,105,108,101,6,254,8,116,101,109,112,108,97,116,101,9,13,95,115,114,101,46,116,101,109,112,108,97,116,101,6,255,11,103,101,116,99,111,100,101,115,105,122,101,9,16,95,115,114,101,46,103,101,116,99,111,100,101,115,105,122,101,6,256,13,97,115,99,105,105,95,105,115,99,97,115,101,100,9,18,95,115,114,101,46,97,115,99,105,105,95,105,115,99,97,115,101,100,6,257,15,117,110,105,99,111,100,101,95,105,115,99,97,115,101,100,9,20,95,115,114,101,46,117,110,105,99,111,100,101,95,105,115,99,97,115,101,100,6,258,13,97,115,99,105,105,95,116,111,108,111,119,101,114,9,18,95,115,114,101,46,97,115,99,105,105,95,116,111,108,111,119,101,114,6,259,15,117,110,105,99,111,100,101,95,116,111,108,111,119,101,114,9,20,95,115,114,101,46,117,110,105,99,111,100,101,95,116,111,108,111,119,101,114,6,261,5,77,65,71,73,67,4,260,0,20230612,6,263,8,67,79,68,69,83,73,90,69,4,262,0,4,6,265,9,77,65,88,82,69,80,69,65,84,4,264,0,4294967295,6,267,9,77,65,88,71,82,79,85,80,83,4,266,0,1073741823,6,269,9,99,111,112,121,114,105,103,104,116,6,268,53,32,83,82,69,32,50,46,50,46,50,32,67,111,112,121,114,105,103,104,116,32,40,99,41,32,49,57,57,55,45,50,48,48,50,32,98,121,32,83,101,99,114,101,116,32,76,97,98,115,32,65,66,32]⟩ 0),.bool true,.bool false,S "_sre" 271,I 29 0,(.str "\x06Ĩ\x08__name__\x06ħ\x0c_collections\x06ĩ\x07__doc__\t\x1f_collections.__doc__:str#opaque\x06ī\x0b__package__\x06Ī\x00\x06Ĭ\n__loader__\x04\x00\x00\x0e\x06ĭ\x08__spec__\x04\x00\x00!\x06Į\x0f_count_elements\t\x1c_collections._count_elements\x06į\x05deque\x08\x11collections.deque\x06İ\x0bdefaultdict\x08\x17collections.defaultdict\x06ı\x0f_deque_iterator\x08\x1bcollections._deque_iterator\x06Ĳ\x17_deque_reverse_iterator\x08#collections._deque_reverse_iterator\x06ĳ\x0c_tuplegetter\x08\x18collections._tuplegetter\x06Ĵ\x0bOrderedDict\x08\x17collections.OrderedDict" 0),.bool true,.bool false,S "_collections" 310] 1,#[]⟩
noncomputable def o28:=oT #[S "deque" 277]
noncomputable def o29 (P:Params):=oD #[en P "__name__" 296 (S "_collections" 295),en P "__doc__" 297 (.builtin "off-the-table:_collections.__doc__:shared#opaque"),en P "__package__" 299 (S "" 298),en P "__loader__" 300 (.builtin "off-the-table:_collections.__loader__:shared#opaque"),en P "__spec__" 301 (.builtin "off-the-table:_collections.__spec__:shared#opaque"),en P "_count_elements" 302 (.builtin "_collections._count_elements"),en P "deque" 303 (.type "collections.deque"),en P "defaultdict" 304 (.type "collections.defaultdict"),en P "_deque_iterator" 305 (.builtin "off-the-table:_collections._deque_iterator:shared#opaque"),en P "_deque_reverse_iterator" 306 (.builtin "off-the-table:_collections._deque_reverse_iterator:shared#opaque"),en P "_tuplegetter" 307 (.type "collections._tuplegetter"),en P "OrderedDict" 308 (.type "collections.OrderedDict")] 12
noncomputable def o30:Obj:=⟨(.type "module"),(some 29),.plain,#[]⟩
noncomputable def o32 (P:Params):=oD #[en P "name" 283 (S "_collections" 282),en P "loader" 284 (R 14),en P "origin" 285 (S "built-in" 281),en P "loader_state" 286 .none,en P "submodule_search_locations" 287 .none,en P "_uninitialized_submodules" 288 (R 31),en P "_set_fileattr" 289 (.bool false),en P "_cached" 290 .none,en P "_initializing" 291 (.bool false)] 9
noncomputable def o33:Obj:=⟨(R 22),(some 32),.plain,#[]⟩
noncomputable def h_0 (P:Params):Heap:=⟨#[(o0 P),(o1 P),(o2 P),(o3 P),o4,o5,o6,o7,o8,o9,o10,(o11 P),o12,(o13 P),o14,o7,o16,o17,o18,o19,(o20 P),(o21 P),o22,o23,o24,o25,o26,o27,o28,(o29 P),o30,o19,(o32 P),o33],{ }⟩
noncomputable def o36:=oC #[S "<module>" 319,S "<module>" 320,U 321,I 1 0,O0,O0,O0,O0,R 34,.bool false,I 318 0,R 35,.none,.none,.none,.none,I 322 0,I 1 0,U 323]
noncomputable def o37:Obj:=⟨(.type "frame"),none,.plain,#[some (R 36),some (R 3),some (R 3),none,some (S "__main__" 164),none,some (R 0)]⟩
noncomputable def t_a (P:Params):BT:=(N (o0 P) (N (o1 P) (N (o3 P) (N o7 (N o7 (N o19 Z Z) Z) (N o23 Z Z)) (N (o11 P) (N o19 (N o8 Z Z) Z) (N o27 Z Z))) (N o5 (N o9 (N o17 (N o33 Z Z) Z) (N o25 Z Z)) (N (o13 P) (N (o21 P) (N o37 Z Z) Z) (N (o29 P) Z Z)))) (N (o2 P) (N o4 (N o8 (N o16 (N (o32 P) Z Z) Z) (N o24 Z Z)) (N o12 (N (o20 P) (N o36 Z Z) Z) (N o28 Z Z))) (N o6 (N o10 (N o18 (N o7 Z Z) Z) (N o26 Z Z)) (N o14 (N o22 Z Z) (N o30 Z Z)))))
noncomputable def o3_7 (P:Params):=oD #[en P "__name__" 165 (S "cpy313.email.header" 331),en P "__doc__" 166 .none,en P "__package__" 167 .none,en P "__loader__" 168 (.builtin "__main__.__loader__#opaque"),en P "__spec__" 169 .none,en P "__annotations__" 170 (R 6),en P "__builtins__" 171 (R 4),en P "__file__" 173 (U 172),en P "__cached__" 174 .none,en P "_sre" 275 (R 12),en P "deque" 317 (.type "collections.deque"),en P "_wall" 330 (R 44),en P "NL" 334 (.str "\n" 333),en P "EMPTYSTRING" 336 (S "" 335),en P "_ValueFormatter" 444 (R 117),en P "_Accumulator" 540 (R 201),en P "_twin_re_1" 580 (R 210)] 17
noncomputable def o35_7:=oF #[I 3 0,O0,R 43,I 9 0,O0,R 50,I 75 0,O0,R 128]
noncomputable def o40:=oT #[S "k" 327]
noncomputable def o42:Obj:=⟨.none,none,fnG 0 0 "_wall" "_wall" (D1 2) [] .none .none .none .none none .none .none,#[]⟩
noncomputable def o43:=oC #[S "_wall" 324,S "_wall" 325,U 326,I 3 0,I 1 0,O0,O0,I 3 0,R 38,.bool true,I 318 0,R 39,.none,R 40,R 41,R 42,I 328 0,I 3 0,U 329]
noncomputable def o44:=oU (fnD "_wall" "_wall" (D1 2) [] .none .none .none (S "__main__" 164) none (R 43) .none)
noncomputable def o46:Obj:=⟨(.type "builtin_function_or_method"),none,.fields #[.builtin "type.__prepare__",.type "type"],#[]⟩
noncomputable def o47 (P:Params):=oD #[en P "__module__" 344 (S "cpy313.email.header" 331),en P "__qualname__" 346 (S "_ValueFormatter" 345),en P "__firstlineno__" 348 (I 9 347),en P "__init__" 359 (R 58),en P "_str" 367 (R 65),en P "__str__" 374 (R 72),en P "newline" 382 (R 79),en P "add_transition" 389 (R 86),en P "feed" 399 (R 93),en P "_maxlengths" 406 (R 100),en P "_ascii_split" 416 (R 107),en P "_append_chunk" 430 (R 114),en P "__static_attributes__" 437 (R 115)] 13
noncomputable def o49:=oF #[I 11 0,I 4 0,R 57,I 19 0,I 4 0,R 64,I 23 0,I 4 0,R 71,I 26 0,I 4 0,R 78,I 37 0,I 4 0,R 85,I 40 0,I 4 0,R 92,I 43 0,I 4 0,R 99,I 46 0,I 4 0,R 106,I 49 0,I 4 0,R 113]
noncomputable def o50:=oC #[S "_ValueFormatter" 339,S "_ValueFormatter" 340,U 341,I 9 0,O0,O0,O0,O0,R 48,.bool false,I 318 0,R 49,.none,.none,.none,.none,I 342 0,I 9 0,U 343]
noncomputable def o51:Obj:=⟨(.type "frame"),none,.plain,#[some (R 50),some (R 3),some (R 47),none,some (S "cpy313.email.header" 331),none,some (R 0)]⟩
noncomputable def o54:=oT #[S "self" 352,S "headerlen" 353,S "maxlen" 354,S "continuation_ws" 355,S "splitchars" 356]
noncomputable def o56:Obj:=⟨.none,none,fnG 0 0 "__init__" "_ValueFormatter.__init__" (D2 6 0) [] .none .none .none .none none .none .none,#[]⟩
noncomputable def o57:=oC #[S "__init__" 349,S "_ValueFormatter.__init__" 350,U 351,I 11 0,I 5 0,O0,O0,I 3 0,R 52,.bool true,I 318 0,R 53,.none,R 54,R 55,R 56,I 357 0,I 11 0,U 358]
noncomputable def o58:=oU (fnD "__init__" "_ValueFormatter.__init__" (D2 6 0) [] .none .none .none (S "cpy313.email.header" 331) none (R 57) .none)
noncomputable def o61:=oT #[S "self" 363,S "linesep" 364]
noncomputable def o63:Obj:=⟨.none,none,fnG 0 0 "_str" "_ValueFormatter._str" (D2 6 1) [] .none .none .none .none none .none .none,#[]⟩
noncomputable def o64:=oC #[S "_str" 360,S "_ValueFormatter._str" 361,U 362,I 19 0,I 2 0,O0,O0,I 3 0,R 59,.bool true,I 318 0,R 60,.none,R 61,R 62,R 63,I 365 0,I 19 0,U 366]
noncomputable def o65:=oU (fnD "_str" "_ValueFormatter._str" (D2 6 1) [] .none .none .none (S "cpy313.email.header" 331) none (R 64) .none)
noncomputable def o68:=oT #[S "self" 371]
noncomputable def o70:Obj:=⟨.none,none,fnG 0 0 "__str__" "_ValueFormatter.__str__" (D2 6 2) [] .none .none .none .none none .none .none,#[]⟩
noncomputable def o71:=oC #[S "__str__" 368,S "_ValueFormatter.__str__" 369,U 370,I 23 0,I 1 0,O0,O0,I 3 0,R 66,.bool true,I 318 0,R 67,.none,R 68,R 69,R 70,I 372 0,I 23 0,U 373]
noncomputable def o72:=oU (fnD "__str__" "_ValueFormatter.__str__" (D2 6 2) [] .none .none .none (S "cpy313.email.header" 331) none (R 71) .none)
noncomputable def o75:=oT #[S "self" 378,S "end_of_line" 379]
noncomputable def o77:Obj:=⟨.none,none,fnG 0 0 "newline" "_ValueFormatter.newline" (D2 6 3) [] .none .none .none .none none .none .none,#[]⟩
noncomputable def o78:=oC #[S "newline" 375,S "_ValueFormatter.newline" 376,U 377,I 26 0,I 1 0,O0,O0,I 3 0,R 73,.bool true,I 318 0,R 74,.none,R 75,R 76,R 77,I 380 0,I 26 0,U 381]
noncomputable def o79:=oU (fnD "newline" "_ValueFormatter.newline" (D2 6 3) [] .none .none .none (S "cpy313.email.header" 331) none (R 78) .none)
noncomputable def o82:=oT #[S "self" 386]
noncomputable def o84:Obj:=⟨.none,none,fnG 0 0 "add_transition" "_ValueFormatter.add_transition" (D2 6 4) [] .none .none .none .none none .none .none,#[]⟩
noncomputable def o85:=oC #[S "add_transition" 383,S "_ValueFormatter.add_transition" 384,U 385,I 37 0,I 1 0,O0,O0,I 3 0,R 80,.bool true,I 318 0,R 81,.none,R 82,R 83,R 84,I 387 0,I 37 0,U 388]
noncomputable def o86:=oU (fnD "add_transition" "_ValueFormatter.add_transition" (D2 6 4) [] .none .none .none (S "cpy313.email.header" 331) none (R 85) .none)
noncomputable def o89:=oT #[S "self" 393,S "fws" 394,S "string" 395,S "charset" 396]
noncomputable def o91:Obj:=⟨.none,none,fnG 0 0 "feed" "_ValueFormatter.feed" (D2 6 5) [] .none .none .none .none none .none .none,#[]⟩
noncomputable def o92:=oC #[S "feed" 390,S "_ValueFormatter.feed" 391,U 392,I 40 0,I 4 0,O0,O0,I 3 0,R 87,.bool true,I 318 0,R 88,.none,R 89,R 90,R 91,I 397 0,I 40 0,U 398]
noncomputable def o93:=oU (fnD "feed" "_ValueFormatter.feed" (D2 6 5) [] .none .none .none (S "cpy313.email.header" 331) none (R 92) .none)
noncomputable def o96:=oT #[S "self" 403]
noncomputable def o98:Obj:=⟨.none,none,fnG 0 0 "_maxlengths" "_ValueFormatter._maxlengths" (D2 6 6) [] .none .none .none .none none .none .none,#[]⟩
noncomputable def o99:=oC #[S "_maxlengths" 400,S "_ValueFormatter._maxlengths" 401,U 402,I 43 0,I 1 0,O0,O0,I 3 0,R 94,.bool true,I 318 0,R 95,.none,R 96,R 97,R 98,I 404 0,I 43 0,U 405]
noncomputable def o100:=oU (fnD "_maxlengths" "_ValueFormatter._maxlengths" (D2 6 6) [] .none .none .none (S "cpy313.email.header" 331) none (R 99) .none)
noncomputable def o103:=oT #[S "self" 410,S "fws" 411,S "string" 412,S "splitchars" 413]
noncomputable def o105:Obj:=⟨.none,none,fnG 0 0 "_ascii_split" "_ValueFormatter._ascii_split" (D2 6 7) [] .none .none .none .none none .none .none,#[]⟩
noncomputable def o106:=oC #[S "_ascii_split" 407,S "_ValueFormatter._ascii_split" 408,U 409,I 46 0,I 4 0,O0,O0,I 3 0,R 101,.bool true,I 318 0,R 102,.none,R 103,R 104,R 105,I 414 0,I 46 0,U 415]
noncomputable def o107:=oU (fnD "_ascii_split" "_ValueFormatter._ascii_split" (D2 6 7) [] .none .none .none (S "cpy313.email.header" 331) none (R 106) .none)
noncomputable def o110:=oT #[S "self" 420,S "fws" 421,S "string" 422,S "ch" 423,S "i" 424,S "prevpart" 425,S "part" 426,S "remainder" 427]
noncomputable def o112:Obj:=⟨.none,none,fnG 0 0 "_append_chunk" "_ValueFormatter._append_chunk" (D2 6 8) [] .none .none .none .none none .none .none,#[]⟩
noncomputable def o113:=oC #[S "_append_chunk" 417,S "_ValueFormatter._append_chunk" 418,U 419,I 49 0,I 3 0,O0,O0,I 3 0,R 108,.bool true,I 318 0,R 109,.none,R 110,R 111,R 112,I 428 0,I 49 0,U 429]
noncomputable def o114:=oU (fnD "_append_chunk" "_ValueFormatter._append_chunk" (D2 6 8) [] .none .none .none (S "cpy313.email.header" 331) none (R 113) .none)
noncomputable def o115:=oT #[S "_continuation_ws" 431,S "_continuation_ws_len" 432,S "_current_line" 433,S "_lines" 434,S "_maxlen" 435,S "_splitchars" 436]
noncomputable def o116 (P:Params):=oD #[en P "__module__" 344 (S "cpy313.email.header" 331),en P "__firstlineno__" 348 (I 9 347),en P "__init__" 359 (R 58),en P "_str" 367 (R 65),en P "__str__" 374 (R 72),en P "newline" 382 (R 79),en P "add_transition" 389 (R 86),en P "feed" 399 (R 93),en P "_maxlengths" 406 (R 100),en P "_ascii_split" 416 (R 107),en P "_append_chunk" 430 (R 114),en P "__static_attributes__" 437 (R 115),en P "__dict__" 439 (R 118),en P "__weakref__" 441 (R 119),en P "__doc__" 442 .none] 4
noncomputable def o117:Obj:=⟨(.type "type"),none,clD "_ValueFormatter" [.type "object"] [R 117,.type "object"] 116 "_ValueFormatter" true [] [] false none false,#[none,none,some (S "_ValueFormatter" 337),some (S "_ValueFormatter" 345),some (.builtin "object.__new__"),some (.bool true)]⟩
noncomputable def o118:Obj:=⟨(.type "getset_descriptor"),none,.fields #[S "__dict__" 438,R 117,.builtin "function.__dict__",.builtin "function.__dict__#set"],#[]⟩
noncomputable def o119:Obj:=⟨(.type "getset_descriptor"),none,.fields #[S "__weakref__" 440,R 117,.builtin "ExceptionGroup.__weakref__",.none],#[]⟩
noncomputable def o120:Obj:=⟨(.type "super"),none,.fields #[R 117,R 117,R 117],#[]⟩
noncomputable def o121:Obj:=⟨(.type "builtin_function_or_method"),none,.fields #[.builtin "object.__init_subclass__",R 117],#[]⟩
noncomputable def o122:=oT #[.type "list"]
noncomputable def o124 (P:Params):=oD #[en P "__module__" 452 (S "cpy313.email.header" 331),en P "__qualname__" 454 (S "_Accumulator" 453),en P "__firstlineno__" 456 (I 75 455),en P "__init__" 466 (R 138),en P "push" 475 (R 145),en P "pop_from" 485 (R 153),en P "pop" 493 (R 161),en P "__len__" 500 (R 168),en P "__str__" 507 (R 175),en P "reset" 515 (R 183),en P "is_onlyws" 522 (R 190),en P "part_count" 530 (R 198),en P "__static_attributes__" 532 (R 199),en P "__classcell__" 533 (R 125)] 14
noncomputable def o125:Obj:=⟨(.type "cell"),none,.cell (some (R 201)),#[]⟩
noncomputable def o127:=oF #[I 77 0,I 4 0,R 137,I 81 0,I 4 0,R 144,I 84 0,I 4 0,R 152,I 89 0,I 4 0,R 160,I 94 0,I 4 0,R 167,I 97 0,I 4 0,R 174,I 100 0,I 4 0,R 182,I 106 0,I 4 0,R 189,I 109 0,I 4 0,R 197]
noncomputable def o128:=oC #[S "_Accumulator" 447,S "_Accumulator" 448,U 449,I 75 0,O0,O0,O0,O0,R 126,.bool false,I 318 0,R 127,.none,.none,.none,.none,I 450 0,I 75 0,U 451]
noncomputable def o129:Obj:=⟨(.type "frame"),none,.plain,#[some (R 128),some (R 3),some (R 124),none,some (S "cpy313.email.header" 331),none,some (R 0)]⟩
noncomputable def o130:=oT #[I 0 457]
noncomputable def o131:=oT #[R 125]
noncomputable def o132:=oT #[S "__class__" 461]
noncomputable def o134:=oT #[S "self" 462,S "initial_size" 463]
noncomputable def o136:Obj:=⟨.none,none,fnG 0 0 "__init__" "_Accumulator.__init__" (D2 7 0) [] .none .none .none .none none .none .none,#[]⟩
noncomputable def o137:=oC #[S "__init__" 458,S "_Accumulator.__init__" 459,U 460,I 77 0,I 2 0,O0,O0,I 3 0,R 132,.bool true,I 318 0,R 133,.none,R 134,R 135,R 136,I 464 0,I 77 0,U 465]
noncomputable def o138:=oU (fnD "__init__" "_Accumulator.__init__" (D2 7 0) [("__class__",125)] (R 130) .none .none (S "cpy313.email.header" 331) none (R 137) (R 131))
noncomputable def o141:=oT #[S "self" 470,S "fws" 471,S "string" 472]
noncomputable def o143:Obj:=⟨.none,none,fnG 0 0 "push" "_Accumulator.push" (D2 7 1) [] .none .none .none .none none .none .none,#[]⟩
noncomputable def o144:=oC #[S "push" 467,S "_Accumulator.push" 468,U 469,I 81 0,I 3 0,O0,O0,I 3 0,R 139,.bool true,I 318 0,R 140,.none,R 141,R 142,R 143,I 473 0,I 81 0,U 474]
noncomputable def o145:=oU (fnD "push" "_Accumulator.push" (D2 7 1) [] .none .none .none (S "cpy313.email.header" 331) none (R 144) .none)
noncomputable def o146:=oT #[I 0 476]
noncomputable def o149:=oT #[S "self" 480,S "i" 481,S "popped" 482]
noncomputable def o151:Obj:=⟨.none,none,fnG 0 0 "pop_from" "_Accumulator.pop_from" (D2 7 2) [] .none .none .none .none none .none .none,#[]⟩
noncomputable def o152:=oC #[S "pop_from" 477,S "_Accumulator.pop_from" 478,U 479,I 84 0,I 2 0,O0,O0,I 3 0,R 147,.bool true,I 318 0,R 148,.none,R 149,R 150,R 151,I 483 0,I 84 0,U 484]
noncomputable def o153:=oU (fnD "pop_from" "_Accumulator.pop_from" (D2 7 2) [] (R 146) .none .none (S "cpy313.email.header" 331) none (R 152) .none)
noncomputable def o155:=oT #[S "__class__" 489]
noncomputable def o157:=oT #[S "self" 490]
noncomputable def o159:Obj:=⟨.none,none,fnG 0 0 "pop" "_Accumulator.pop" (D2 7 3) [] .none .none .none .none none .none .none,#[]⟩
noncomputable def o160:=oC #[S "pop" 486,S "_Accumulator.pop" 487,U 488,I 89 0,I 1 0,O0,O0,I 3 0,R 155,.bool true,I 318 0,R 156,.none,R 157,R 158,R 159,I 491 0,I 89 0,U 492]
noncomputable def o161:=oU (fnD "pop" "_Accumulator.pop" (D2 7 3) [("__class__",125)] .none .none .none (S "cpy313.email.header" 331) none (R 160) (R 154))
noncomputable def o163:=oF #[]
noncomputable def o164:=oT #[S "self" 497]
noncomputable def o166:Obj:=⟨.none,none,fnG 0 0 "__len__" "_Accumulator.__len__" (D2 7 4) [] .none .none .none .none none .none .none,#[]⟩
noncomputable def o167:=oC #[S "__len__" 494,S "_Accumulator.__len__" 495,U 496,I 94 0,I 1 0,O0,O0,I 3 0,R 162,.bool true,I 318 0,R 163,.none,R 164,R 165,R 166,I 498 0,I 94 0,U 499]
noncomputable def o168:=oU (fnD "__len__" "_Accumulator.__len__" (D2 7 4) [] .none .none .none (S "cpy313.email.header" 331) none (R 167) .none)
noncomputable def o170:=oF #[]
noncomputable def o171:=oT #[S "self" 504]
noncomputable def o173:Obj:=⟨.none,none,fnG 0 0 "__str__" "_Accumulator.__str__" (D2 7 5) [] .none .none .none .none none .none .none,#[]⟩
noncomputable def o174:=oC #[S "__str__" 501,S "_Accumulator.__str__" 502,U 503,I 97 0,I 1 0,O0,O0,I 3 0,R 169,.bool true,I 318 0,R 170,.none,R 171,R 172,R 173,I 505 0,I 97 0,U 506]
noncomputable def o175:=oU (fnD "__str__" "_Accumulator.__str__" (D2 7 5) [] .none .none .none (S "cpy313.email.header" 331) none (R 174) .none)
noncomputable def o176:=oT #[.none]
noncomputable def o179:=oT #[S "self" 511,S "startval" 512]
noncomputable def o181:Obj:=⟨.none,none,fnG 0 0 "reset" "_Accumulator.reset" (D2 7 6) [] .none .none .none .none none .none .none,#[]⟩
noncomputable def o182:=oC #[S "reset" 508,S "_Accumulator.reset" 509,U 510,I 100 0,I 2 0,O0,O0,I 3 0,R 177,.bool true,I 318 0,R 178,.none,R 179,R 180,R 181,I 513 0,I 100 0,U 514]
noncomputable def o183:=oU (fnD "reset" "_Accumulator.reset" (D2 7 6) [] (R 176) .none .none (S "cpy313.email.header" 331) none (R 182) .none)
noncomputable def o186:=oT #[S "self" 519]
noncomputable def o188:Obj:=⟨.none,none,fnG 0 0 "is_onlyws" "_Accumulator.is_onlyws" (D2 7 7) [] .none .none .none .none none .none .none,#[]⟩
noncomputable def o189:=oC #[S "is_onlyws" 516,S "_Accumulator.is_onlyws" 517,U 518,I 106 0,I 1 0,O0,O0,I 3 0,R 184,.bool true,I 318 0,R 185,.none,R 186,R 187,R 188,I 520 0,I 106 0,U 521]
noncomputable def o190:=oU (fnD "is_onlyws" "_Accumulator.is_onlyws" (D2 7 7) [] .none .none .none (S "cpy313.email.header" 331) none (R 189) .none)
noncomputable def o192:=oT #[S "__class__" 526]
noncomputable def o194:=oT #[S "self" 527]
noncomputable def o196:Obj:=⟨.none,none,fnG 0 0 "part_count" "_Accumulator.part_count" (D2 7 8) [] .none .none .none .none none .none .none,#[]⟩
noncomputable def o197:=oC #[S "part_count" 523,S "_Accumulator.part_count" 524,U 525,I 109 0,I 1 0,O0,O0,I 3 0,R 192,.bool true,I 318 0,R 193,.none,R 194,R 195,R 196,I 528 0,I 109 0,U 529]
noncomputable def o198:=oU (fnD "part_count" "_Accumulator.part_count" (D2 7 8) [("__class__",125)] .none .none .none (S "cpy313.email.header" 331) none (R 197) (R 191))
noncomputable def o199:=oT #[S "_initial_size" 531]
noncomputable def o200 (P:Params):=oD #[en P "__module__" 452 (S "cpy313.email.header" 331),en P "__firstlineno__" 456 (I 75 455),en P "__init__" 466 (R 138),en P "push" 475 (R 145),en P "pop_from" 485 (R 153),en P "pop" 493 (R 161),en P "__len__" 500 (R 168),en P "__str__" 507 (R 175),en P "reset" 515 (R 183),en P "is_onlyws" 522 (R 190),en P "part_count" 530 (R 198),en P "__static_attributes__" 532 (R 199),en P "__dict__" 535 (R 202),en P "__weakref__" 537 (R 203),en P "__doc__" 538 .none] 5
noncomputable def o201:Obj:=⟨(.type "type"),none,clD "_Accumulator" [.type "list"] [R 201,.type "list",.type "object"] 200 "_Accumulator" true [] [] false none false,#[some (R 122),none,some (S "_Accumulator" 445),some (S "_Accumulator" 453),some (.builtin "list.__new__"),some (.bool true)]⟩
noncomputable def o202:Obj:=⟨(.type "getset_descriptor"),none,.fields #[S "__dict__" 534,R 201,.builtin "function.__dict__",.builtin "function.__dict__#set"],#[]⟩
noncomputable def o203:Obj:=⟨(.type "getset_descriptor"),none,.fields #[S "__weakref__" 536,R 201,.builtin "ExceptionGroup.__weakref__",.none],#[]⟩
noncomputable def o204:Obj:=⟨(.type "super"),none,.fields #[R 201,R 201,R 201],#[]⟩
noncomputable def o205:Obj:=⟨(.type "builtin_function_or_method"),none,.fields #[.builtin "object.__init_subclass__",R 201],#[]⟩
noncomputable def o206:Obj:=⟨(.type "list"),none,.seq #[I 14 544,I 17 545,I 4 546,I 1 547,I 1 548,I 21 549,I 9 550,I 0 551,I 604043296 552,I 1 553,I 0 554,I 0 555,I 0 556,I 0 557,I 0 558,I 8 559,I 4 560,I 0 561,I 13 562,I 14 563,I 21 564,I 9 565,I 0 566,I 604043296 567,I 1 568,I 0 569,I 0 570,I 0 571,I 0 572,I 0 573,I 8 574,I 4 575,I 0 576,I 1 577] 0,#[]⟩
noncomputable def o209:=oT #[I 14 0,I 17 0,I 4 0,I 1 0,I 1 0,I 21 0,I 9 0,O0,I 604043296 0,I 1 0,O0,O0,O0,O0,O0,I 8 0,I 4 0,O0,I 13 0,I 14 0,I 21 0,I 9 0,O0,I 604043296 0,I 1 0,O0,O0,O0,O0,O0,I 8 0,I 4 0,O0,I 1 0]
noncomputable def o210:Obj:=⟨(.type "re.Pattern"),none,.fields #[S "[^\\w@%+=:,./-]" 542,I 256 579,O0,.none,.none,R 209,O0],#[]⟩
noncomputable def t_7 (P:Params):BT:=(N (o0 P) (N (o1 P) (N (o3_7 P) (N o7 (N o7 (N o19 (N o63 (N o127 Z Z) (N o131 Z Z)) (N o8 (N o159 Z Z) Z)) (N (o47 P) (N o79 (N o143 Z Z) (N o6 Z Z)) (N o7 (N o175 Z Z) Z))) (N o23 (N o8 (N o71 (N o7 Z Z) (N o199 Z Z)) (N o103 (N o167 Z Z) Z)) (N o7 (N o7 (N o151 Z Z) Z) (N o119 (N o183 Z Z) Z)))) (N (o11 P) (N o19 (N o35_7 (N o8 (N o131 Z Z) (N o7 Z Z)) (N o99 (N o163 Z Z) Z)) (N o51 (N o7 (N o7 Z Z) Z) (N o115 (N o179 Z Z) Z))) (N o27 (N o43 (N o75 (N o7 Z Z) (N o203 Z Z)) (N o107 (N o171 Z Z) Z)) (N o7 (N o91 (N o155 Z Z) Z) (N o46 (N o7 Z Z) Z))))) (N o5 (N o9 (N o17 (N o33 (N o65 (N o129 Z Z) (N o8 Z Z)) (N o7 (N o161 Z Z) Z)) (N o49 (N o8 (N o145 Z Z) (N o209 Z Z)) (N o113 (N o7 Z Z) Z))) (N o25 (N o7 (N o7 (N o137 Z Z) (N o201 Z Z)) (N o105 (N o7 Z Z) Z)) (N o57 (N o89 (N o153 Z Z) Z) (N o121 (N o8 Z Z) Z)))) (N (o13 P) (N (o21 P) (N o37 (N o7 (N o8 Z Z) (N o197 Z Z)) (N o7 (N o7 Z Z) Z)) (N o8 (N o85 (N o149 Z Z) Z) (N o117 (N o181 Z Z) Z))) (N (o29 P) (N o7 (N o77 (N o141 Z Z) (N o205 Z Z)) (N o8 (N o173 Z Z) Z)) (N o61 (N o93 (N o157 Z Z) Z) (N o125 (N o189 Z Z) Z)))))) (N (o2 P) (N o4 (N o8 (N o16 (N (o32 P) (N o64 (N o128 Z Z) (N o192 Z Z)) (N o96 (N o160 Z Z) Z)) (N o7 (N o7 (N o144 Z Z) (N o176 Z Z)) (N o112 (N o176 Z Z) Z))) (N o24 (N o40 (N o72 (N o136 Z Z) (N (o200 P) Z Z)) (N o7 (N o168 Z Z) Z)) (N o56 (N o8 (N o152 Z Z) Z) (N o120 (N o7 Z Z) Z)))) (N o12 (N (o20 P) (N o36 (N o68 (N o132 Z Z) (N o196 Z Z)) (N o100 (N o164 Z Z) Z)) (N o7 (N o84 (N o8 Z Z) Z) (N (o116 P) (N o7 Z Z) Z))) (N o28 (N o44 (N o7 (N o8 Z Z) (N o204 Z Z)) (N o7 (N o7 Z Z) Z)) (N o8 (N o92 (N o8 Z Z) Z) (N (o124 P) (N o188 Z Z) Z))))) (N o6 (N o10 (N o18 (N o7 (N o7 (N o130 Z Z) (N o194 Z Z)) (N o98 (N o7 Z Z) Z)) (N o50 (N o82 (N o146 Z Z) (N o210 Z Z)) (N o114 (N o8 Z Z) Z))) (N o26 (N o42 (N o8 (N o138 Z Z) (N o202 Z Z)) (N o106 (N o170 Z Z) Z)) (N o58 (N o7 (N o131 Z Z) Z) (N o122 (N o186 Z Z) Z)))) (N o14 (N o22 (N o7 (N o70 (N o134 Z Z) (N o198 Z Z)) (N o8 (N o166 Z Z) Z)) (N o54 (N o86 (N o7 Z Z) Z) (N o118 (N o182 Z Z) Z))) (N o30 (N o46 (N o78 (N o7 Z Z) (N o206 Z Z)) (N o110 (N o174 Z Z) Z)) (N o7 (N o7 (N o7 Z Z) Z) (N o7 (N o190 Z Z) Z)))))))
noncomputable def o2_14 (P:Params):Obj:=⟨.none,none,.dict #[en P "\x69mport.loaded._sre" 183 (.bool true),en P "class._frozen_importlib.BuiltinImporter" 185 (R 14),en P "watched.\x69mport" 206 (R 18),en P "class._frozen_importlib.ModuleSpec" 216 (R 22),en P "sys.modules.booked-epoch" 245 (I 4 0),en P "\x69mport.later-laid._sre" 270 (.bool true),en P "watched.library" 272 (R 27),en P "watched.library-objects" 0 (.str "\x0c\x1e" 0),en P "watched.library-deep._sre" 273 (.str "\x04\x00\x00\x0b\x04\x00\x00\x0b\x04\x00\x00\x03\x04\x00\x00\x0b\x08\x04dict\x02" 0),en P "\x69mport.loaded._collections" 280 (.bool true),en P "sys.modules.landed._collections" 294 (.bool true),en P "\x69mport.later-laid._collections" 309 (.bool true),en P "watched.library-deep._collections" 311 (.str "\x04\x00\x00\x1d\x04\x00\x00\x1d\x04\x00\x00\x03\x04\x00\x00\x1d\x08\x04dict\x02" 0),en P "type.__subclasses__.OSError.0" 617 (I 234 0),en P "type.__subclasses__.OSError.n" 618 (I 1 0)] 15,#[]⟩
noncomputable def o3_14 (P:Params):=oD #[en P "__name__" 165 (S "io" 581),en P "__doc__" 166 .none,en P "__package__" 167 .none,en P "__loader__" 168 (.builtin "__main__.__loader__#opaque"),en P "__spec__" 169 .none,en P "__annotations__" 170 (R 6),en P "__builtins__" 171 (R 4),en P "__file__" 173 (U 172),en P "__cached__" 174 .none,en P "_sre" 275 (R 12),en P "deque" 317 (.type "collections.deque"),en P "_wall" 330 (R 44),en P "NL" 334 (.str "\n" 333),en P "EMPTYSTRING" 336 (S "" 335),en P "_ValueFormatter" 444 (R 117),en P "_Accumulator" 540 (R 201),en P "_twin_re_1" 580 (R 210),en P "_whence" 590 (R 217),en P "_index" 598 (R 224),en P "UnsupportedOperation" 620 (R 234),en P "IOBase" 652 (R 254),en P "BufferedIOBase" 670 (R 269),en P "TextIOBase" 688 (R 281)] 23
noncomputable def o35_14:=oF #[I 3 0,O0,R 43,I 9 0,O0,R 50,I 75 0,O0,R 128,I 113 0,O0,R 216,I 118 0,O0,R 223,I 125 0,O0,R 230,I 127 0,O0,R 243,I 134 0,O0,R 265,I 136 0,O0,R 277]
noncomputable def o213:=oT #[S "n" 586,S "what" 587]
noncomputable def o215:Obj:=⟨.none,none,fnG 0 0 "_whence" "_whence" (D1 10) [] .none .none .none .none none .none .none,#[]⟩
noncomputable def o216:=oC #[S "_whence" 583,S "_whence" 584,U 585,I 113 0,I 2 0,O0,O0,I 3 0,R 211,.bool true,I 318 0,R 212,.none,R 213,R 214,R 215,I 588 0,I 113 0,U 589]
noncomputable def o217:=oU (fnD "_whence" "_whence" (D1 10) [] .none .none .none (S "io" 581) none (R 216) .none)
noncomputable def o220:=oT #[S "n" 594,S "what" 595]
noncomputable def o222:Obj:=⟨.none,none,fnG 0 0 "_index" "_index" (D1 11) [] .none .none .none .none none .none .none,#[]⟩
noncomputable def o223:=oC #[S "_index" 591,S "_index" 592,U 593,I 118 0,I 2 0,O0,O0,I 3 0,R 218,.bool true,I 318 0,R 219,.none,R 220,R 221,R 222,I 596 0,I 118 0,U 597]
noncomputable def o224:=oU (fnD "_index" "_index" (D1 11) [] .none .none .none (S "io" 581) none (R 223) .none)
noncomputable def o225:=oT #[.type "OSError",.type "ValueError"]
noncomputable def o227 (P:Params):=oD #[en P "__module__" 606 (S "io" 611),en P "__qualname__" 608 (S "UnsupportedOperation" 607),en P "__firstlineno__" 610 (I 125 609),en P "__static_attributes__" 613 (R 232)] 4
noncomputable def o230:=oC #[S "UnsupportedOperation" 601,S "UnsupportedOperation" 602,U 603,I 125 0,O0,O0,O0,O0,R 228,.bool false,I 318 0,R 229,.none,.none,.none,.none,I 604 0,I 125 0,U 605]
noncomputable def o231:Obj:=⟨(.type "frame"),none,.plain,#[some (R 230),some (R 3),some (R 227),none,some (S "io" 581),none,some (R 0)]⟩
noncomputable def o233 (P:Params):=oD #[en P "__module__" 606 (S "io" 611),en P "__firstlineno__" 610 (I 125 609),en P "__static_attributes__" 613 (R 232),en P "__weakref__" 615 (R 235),en P "__doc__" 616 .none] 3
noncomputable def o234:Obj:=⟨(.type "type"),none,clD "UnsupportedOperation" [.type "OSError",.type "ValueError"] [R 234,.type "OSError",.type "ValueError",.type "Exception",.type "BaseException",.type "object"] 233 "UnsupportedOperation" true [] [] false none false,#[some (R 225),none,some (S "UnsupportedOperation" 599),some (S "UnsupportedOperation" 607),some (.builtin "OSError.__new__"),some (.bool true)]⟩
noncomputable def o235:Obj:=⟨(.type "getset_descriptor"),none,.fields #[S "__weakref__" 614,R 234,.builtin "ExceptionGroup.__weakref__",.none],#[]⟩
noncomputable def o236:Obj:=⟨(.type "super"),none,.fields #[R 234,R 234,R 234],#[]⟩
noncomputable def o237:Obj:=⟨(.type "builtin_function_or_method"),none,.fields #[.builtin "object.__init_subclass__",R 234],#[]⟩
noncomputable def o240 (P:Params):=oD #[en P "__module__" 628 (S "io" 633),en P "__qualname__" 630 (S "IOBase" 629),en P "__firstlineno__" 632 (I 127 631),en P "__new__" 643 (R 251),en P "__static_attributes__" 644 (R 252)] 5
noncomputable def o242:=oF #[I 130 0,I 4 0,R 250]
noncomputable def o243:=oC #[S "IOBase" 623,S "IOBase" 624,U 625,I 127 0,O0,O0,O0,O0,R 241,.bool false,I 318 0,R 242,.none,.none,.none,.none,I 626 0,I 127 0,U 627]
noncomputable def o244:Obj:=⟨(.type "frame"),none,.plain,#[some (R 243),some (R 3),some (R 240),none,some (S "io" 581),none,some (R 0)]⟩
noncomputable def o247:=oT #[S "cls" 638,S "args" 639,S "kwargs" 640]
noncomputable def o249:Obj:=⟨.none,none,fnG 0 0 "__new__" "IOBase.__new__" (D2 13 1) [] .none .none .none .none none .none .none,#[]⟩
noncomputable def o250:=oC #[S "__new__" 635,S "IOBase.__new__" 636,U 637,I 130 0,I 1 0,I 1 0,O0,I 15 0,R 245,.bool true,I 318 0,R 246,.none,R 247,R 248,R 249,I 641 0,I 130 0,U 642]
noncomputable def o251:=oU (fnD "__new__" "IOBase.__new__" (D2 13 1) [] .none .none .none (S "io" 581) none (R 250) .none)
noncomputable def o253 (P:Params):=oD #[en P "__module__" 628 (S "io" 633),en P "__firstlineno__" 632 (I 127 631),en P "__new__" 643 (R 255),en P "__static_attributes__" 644 (R 252),en P "__dict__" 647 (R 256),en P "__weakref__" 649 (R 257),en P "__doc__" 650 .none] 4
noncomputable def o254:Obj:=⟨(.type "type"),none,clD "IOBase" [.type "object"] [R 254,.type "object"] 253 "IOBase" true [] [R 269,R 281] false none false,#[none,none,some (S "IOBase" 621),some (S "IOBase" 629),some .none,some (.bool true)]⟩
noncomputable def o255:Obj:=⟨(.type "staticmethod"),none,.fields #[R 251],#[]⟩
noncomputable def o256:Obj:=⟨(.type "getset_descriptor"),none,.fields #[S "__dict__" 646,R 254,.builtin "function.__dict__",.builtin "function.__dict__#set"],#[]⟩
noncomputable def o257:Obj:=⟨(.type "getset_descriptor"),none,.fields #[S "__weakref__" 648,R 254,.builtin "ExceptionGroup.__weakref__",.none],#[]⟩
noncomputable def o258:Obj:=⟨(.type "super"),none,.fields #[R 254,R 254,R 254],#[]⟩
noncomputable def o259:Obj:=⟨(.type "builtin_function_or_method"),none,.fields #[.builtin "object.__init_subclass__",R 254],#[]⟩
noncomputable def o260:=oT #[R 254]
noncomputable def o262 (P:Params):=oD #[en P "__module__" 660 (S "io" 665),en P "__qualname__" 662 (S "BufferedIOBase" 661),en P "__firstlineno__" 664 (I 134 663),en P "__static_attributes__" 667 (R 267)] 4
noncomputable def o265:=oC #[S "BufferedIOBase" 655,S "BufferedIOBase" 656,U 657,I 134 0,O0,O0,O0,O0,R 263,.bool false,I 318 0,R 264,.none,.none,.none,.none,I 658 0,I 134 0,U 659]
noncomputable def o266:Obj:=⟨(.type "frame"),none,.plain,#[some (R 265),some (R 3),some (R 262),none,some (S "io" 581),none,some (R 0)]⟩
noncomputable def o268 (P:Params):=oD #[en P "__module__" 660 (S "io" 665),en P "__firstlineno__" 664 (I 134 663),en P "__static_attributes__" 667 (R 267),en P "__doc__" 668 .none] 2
noncomputable def o269:Obj:=⟨(.type "type"),none,clD "BufferedIOBase" [R 254] [R 269,R 254,.type "object"] 268 "BufferedIOBase" true [] [] false none false,#[some (R 260),none,some (S "BufferedIOBase" 653),some (S "BufferedIOBase" 661),some .none,some (.bool true)]⟩
noncomputable def o270:Obj:=⟨(.type "super"),none,.fields #[R 269,R 269,R 269],#[]⟩
noncomputable def o271:Obj:=⟨(.type "builtin_function_or_method"),none,.fields #[.builtin "object.__init_subclass__",R 269],#[]⟩
noncomputable def o274 (P:Params):=oD #[en P "__module__" 678 (S "io" 683),en P "__qualname__" 680 (S "TextIOBase" 679),en P "__firstlineno__" 682 (I 136 681),en P "__static_attributes__" 685 (R 279)] 4
noncomputable def o277:=oC #[S "TextIOBase" 673,S "TextIOBase" 674,U 675,I 136 0,O0,O0,O0,O0,R 275,.bool false,I 318 0,R 276,.none,.none,.none,.none,I 676 0,I 136 0,U 677]
noncomputable def o278:Obj:=⟨(.type "frame"),none,.plain,#[some (R 277),some (R 3),some (R 274),none,some (S "io" 581),none,some (R 0)]⟩
noncomputable def o280 (P:Params):=oD #[en P "__module__" 678 (S "io" 683),en P "__firstlineno__" 682 (I 136 681),en P "__static_attributes__" 685 (R 279),en P "__doc__" 686 .none] 2
noncomputable def o281:Obj:=⟨(.type "type"),none,clD "TextIOBase" [R 254] [R 281,R 254,.type "object"] 280 "TextIOBase" true [] [] false none false,#[some (R 272),none,some (S "TextIOBase" 671),some (S "TextIOBase" 679),some .none,some (.bool true)]⟩
noncomputable def o282:Obj:=⟨(.type "super"),none,.fields #[R 281,R 281,R 281],#[]⟩
noncomputable def o283:Obj:=⟨(.type "builtin_function_or_method"),none,.fields #[.builtin "object.__init_subclass__",R 281],#[]⟩
noncomputable def t_14 (P:Params):BT:=(N (o0 P) (N (o1 P) (N (o3_14 P) (N o7 (N o7 (N o19 (N o63 (N o127 (N o255 Z Z) Z) (N o131 Z Z)) (N o8 (N o159 Z Z) (N o223 Z Z))) (N (o47 P) (N o79 (N o143 (N o271 Z Z) Z) (N o6 Z Z)) (N o7 (N o175 Z Z) (N o46 Z Z)))) (N o23 (N o8 (N o71 (N o7 (N o7 Z Z) Z) (N o199 Z Z)) (N o103 (N o167 Z Z) (N o231 Z Z))) (N o7 (N o7 (N o151 (N o7 Z Z) Z) (N o215 Z Z)) (N o119 (N o183 Z Z) (N o247 Z Z))))) (N (o11 P) (N o19 (N o35_14 (N o8 (N o131 (N o259 Z Z) Z) (N o7 Z Z)) (N o99 (N o163 Z Z) (N (o227 P) Z Z))) (N o51 (N o7 (N o7 (N o7 Z Z) Z) (N o7 Z Z)) (N o115 (N o179 Z Z) (N o243 Z Z)))) (N o27 (N o43 (N o75 (N o7 (N o7 Z Z) Z) (N o203 Z Z)) (N o107 (N o171 Z Z) (N o235 Z Z))) (N o7 (N o91 (N o155 (N o283 Z Z) Z) (N o8 Z Z)) (N o46 (N o7 Z Z) (N o251 Z Z)))))) (N o5 (N o9 (N o17 (N o33 (N o65 (N o129 (N o257 Z Z) Z) (N o8 Z Z)) (N o7 (N o161 Z Z) (N o225 Z Z))) (N o49 (N o8 (N o145 (N o46 Z Z) Z) (N o209 Z Z)) (N o113 (N o7 Z Z) (N o7 Z Z)))) (N o25 (N o7 (N o7 (N o137 (N o265 Z Z) Z) (N o201 Z Z)) (N o105 (N o7 Z Z) (N (o233 P) Z Z))) (N o57 (N o89 (N o153 (N o281 Z Z) Z) (N o217 Z Z)) (N o121 (N o8 Z Z) (N o249 Z Z))))) (N (o13 P) (N (o21 P) (N o37 (N o7 (N o8 (N o46 Z Z) Z) (N o197 Z Z)) (N o7 (N o7 Z Z) (N o8 Z Z))) (N o8 (N o85 (N o149 (N o277 Z Z) Z) (N o213 Z Z)) (N o117 (N o181 Z Z) (N o7 Z Z)))) (N (o29 P) (N o7 (N o77 (N o141 (N o269 Z Z) Z) (N o205 Z Z)) (N o8 (N o173 Z Z) (N o237 Z Z))) (N o61 (N o93 (N o157 Z Z) (N o7 Z Z)) (N o125 (N o189 Z Z) (N (o253 P) Z Z))))))) (N (o2_14 P) (N o4 (N o8 (N o16 (N (o32 P) (N o64 (N o128 (N o256 Z Z) Z) (N o192 Z Z)) (N o96 (N o160 Z Z) (N o224 Z Z))) (N o7 (N o7 (N o144 (N o260 Z Z) Z) (N o176 Z Z)) (N o112 (N o176 Z Z) (N (o240 P) Z Z)))) (N o24 (N o40 (N o72 (N o136 (N o8 Z Z) Z) (N (o200 P) Z Z)) (N o7 (N o168 Z Z) (N o7 Z Z))) (N o56 (N o8 (N o152 (N (o280 P) Z Z) Z) (N o216 Z Z)) (N o120 (N o7 Z Z) (N o7 Z Z))))) (N o12 (N (o20 P) (N o36 (N o68 (N o132 (N o260 Z Z) Z) (N o196 Z Z)) (N o100 (N o164 Z Z) (N o7 Z Z))) (N o7 (N o84 (N o8 (N o8 Z Z) Z) (N o8 Z Z)) (N (o116 P) (N o7 Z Z) (N o244 Z Z)))) (N o28 (N o44 (N o7 (N o8 (N (o268 P) Z Z) Z) (N o204 Z Z)) (N o7 (N o7 Z Z) (N o236 Z Z))) (N o8 (N o92 (N o8 Z Z) (N o220 Z Z)) (N (o124 P) (N o188 Z Z) (N o7 Z Z)))))) (N o6 (N o10 (N o18 (N o7 (N o7 (N o130 (N o258 Z Z) Z) (N o194 Z Z)) (N o98 (N o7 Z Z) (N o46 Z Z))) (N o50 (N o82 (N o146 (N (o274 P) Z Z) Z) (N o210 Z Z)) (N o114 (N o8 Z Z) (N o242 Z Z)))) (N o26 (N o42 (N o8 (N o138 (N o266 Z Z) Z) (N o202 Z Z)) (N o106 (N o170 Z Z) (N o234 Z Z))) (N o58 (N o7 (N o131 (N o282 Z Z) Z) (N o7 Z Z)) (N o122 (N o186 Z Z) (N o250 Z Z))))) (N o14 (N o22 (N o7 (N o70 (N o134 (N (o262 P) Z Z) Z) (N o198 Z Z)) (N o8 (N o166 Z Z) (N o230 Z Z))) (N o54 (N o86 (N o7 (N o278 Z Z) Z) (N o7 Z Z)) (N o118 (N o182 Z Z) (N o8 Z Z)))) (N o30 (N o46 (N o78 (N o7 (N o270 Z Z) Z) (N o206 Z Z)) (N o110 (N o174 Z Z) (N o7 Z Z))) (N o7 (N o7 (N o7 Z Z) (N o222 Z Z)) (N o7 (N o190 Z Z) (N o254 Z Z))))))))
noncomputable def o3_15 (P:Params):=oD #[en P "__name__" 165 (S "io" 581),en P "__doc__" 166 .none,en P "__package__" 167 .none,en P "__loader__" 168 (.builtin "__main__.__loader__#opaque"),en P "__spec__" 169 .none,en P "__annotations__" 170 (R 6),en P "__builtins__" 171 (R 4),en P "__file__" 173 (U 172),en P "__cached__" 174 .none,en P "_sre" 275 (R 12),en P "deque" 317 (.type "collections.deque"),en P "_wall" 330 (R 44),en P "NL" 334 (.str "\n" 333),en P "EMPTYSTRING" 336 (S "" 335),en P "_ValueFormatter" 444 (R 117),en P "_Accumulator" 540 (R 201),en P "_twin_re_1" 580 (R 210),en P "_whence" 590 (R 217),en P "_index" 598 (R 224),en P "UnsupportedOperation" 620 (R 234),en P "IOBase" 652 (R 254),en P "BufferedIOBase" 670 (R 269),en P "TextIOBase" 688 (R 281),en P "BytesIO" 950 (R 511)] 24
noncomputable def o35_15:=oF #[I 3 0,O0,R 43,I 9 0,O0,R 50,I 75 0,O0,R 128,I 113 0,O0,R 216,I 118 0,O0,R 223,I 125 0,O0,R 230,I 127 0,O0,R 243,I 134 0,O0,R 265,I 136 0,O0,R 277,I 138 0,O0,R 289]
noncomputable def o269_15:Obj:=⟨(.type "type"),none,clD "BufferedIOBase" [R 254] [R 269,R 254,.type "object"] 268 "BufferedIOBase" true [] [R 511] false none false,#[some (R 260),none,some (S "BufferedIOBase" 653),some (S "BufferedIOBase" 661),some .none,some (.bool true)]⟩
noncomputable def o284:=oT #[R 269]
noncomputable def o286 (P:Params):=oD #[en P "__module__" 696 (S "_io" 701),en P "__qualname__" 698 (S "BytesIO" 697),en P "__firstlineno__" 700 (I 138 699),en P "__init__" 710 (R 298),en P "_BytesIO__check" 717 (R 305),en P "_BytesIO__line" 728 (R 312),en P "closed" 736 (R 320),en P "close" 743 (R 327),en P "__enter__" 750 (R 334),en P "__exit__" 758 (R 341),en P "readable" 765 (R 348),en P "writable" 772 (R 355),en P "seekable" 779 (R 362),en P "isatty" 786 (R 369),en P "flush" 793 (R 376),en P "fileno" 800 (R 383),en P "detach" 807 (R 390),en P "getvalue" 814 (R 397),en P "getbuffer" 821 (R 404),en P "tell" 828 (R 411),en P "seek" 838 (R 419),en P "truncate" 846 (R 427),en P "read" 858 (R 435),en P "read1" 868 (R 443),en P "readinto" 878 (R 450),en P "readinto1" 886 (R 457),en P "readline" 896 (R 465),en P "readlines" 904 (R 473),en P "__iter__" 911 (R 480),en P "__next__" 919 (R 487),en P "write" 929 (R 494),en P "writelines" 937 (R 501),en P "__repr__" 944 (R 508),en P "__static_attributes__" 947 (R 509)] 34
noncomputable def o288:=oF #[I 141 0,I 4 0,R 297,I 147 0,I 4 0,R 304,I 151 0,I 4 0,R 311,I 165 0,I 4 0,R 318,I 168 0,I 4 0,R 326,I 171 0,I 4 0,R 333,I 175 0,I 4 0,R 340,I 178 0,I 4 0,R 347,I 182 0,I 4 0,R 354,I 186 0,I 4 0,R 361,I 190 0,I 4 0,R 368,I 194 0,I 4 0,R 375,I 197 0,I 4 0,R 382,I 200 0,I 4 0,R 389,I 203 0,I 4 0,R 396,I 206 0,I 4 0,R 403,I 209 0,I 4 0,R 410,I 213 0,I 4 0,R 418,I 230 0,I 4 0,R 426,I 233 0,I 4 0,R 434,I 247 0,I 4 0,R 442,I 250 0,I 4 0,R 449,I 264 0,I 4 0,R 456,I 267 0,I 4 0,R 464,I 274 0,I 4 0,R 472,I 277 0,I 4 0,R 479,I 280 0,I 4 0,R 486,I 287 0,I 4 0,R 493,I 303 0,I 4 0,R 500,I 306 0,I 4 0,R 507]
noncomputable def o289:=oC #[S "BytesIO" 691,S "BytesIO" 692,U 693,I 138 0,O0,O0,O0,O0,R 287,.bool false,I 318 0,R 288,.none,.none,.none,.none,I 694 0,I 138 0,U 695]
noncomputable def o290:Obj:=⟨(.type "frame"),none,.plain,#[some (R 289),some (R 3),some (R 286),none,some (S "io" 581),none,some (R 0)]⟩
noncomputable def o294:=oT #[S "self" 706,S "initial_bytes" 707]
noncomputable def o296:Obj:=⟨.none,none,fnG 0 0 "__init__" "BytesIO.__init__" (D2 16 1) [] .none .none .none .none none .none .none,#[]⟩
noncomputable def o297:=oC #[S "__init__" 703,S "BytesIO.__init__" 704,U 705,I 141 0,I 2 0,O0,O0,I 3 0,R 292,.bool true,I 318 0,R 293,.none,R 294,R 295,R 296,I 708 0,I 141 0,U 709]
noncomputable def o298:=oU (fnD "__init__" "BytesIO.__init__" (D2 16 1) [] (R 291) .none .none (S "io" 581) none (R 297) .none)
noncomputable def o301:=oT #[S "self" 714]
noncomputable def o303:Obj:=⟨.none,none,fnG 0 0 "__check" "BytesIO.__check" (D2 16 2) [] .none .none .none .none none .none .none,#[]⟩
noncomputable def o304:=oC #[S "__check" 711,S "BytesIO.__check" 712,U 713,I 147 0,I 1 0,O0,O0,I 3 0,R 299,.bool true,I 318 0,R 300,.none,R 301,R 302,R 303,I 715 0,I 147 0,U 716]
noncomputable def o305:=oU (fnD "__check" "BytesIO.__check" (D2 16 2) [] .none .none .none (S "io" 581) none (R 304) .none)
noncomputable def o308:=oT #[S "self" 721,S "limit" 722,S "start" 723,S "stop" 724,S "i" 725]
noncomputable def o310:Obj:=⟨.none,none,fnG 0 0 "__line" "BytesIO.__line" (D2 16 3) [] .none .none .none .none none .none .none,#[]⟩
noncomputable def o311:=oC #[S "__line" 718,S "BytesIO.__line" 719,U 720,I 151 0,I 2 0,O0,O0,I 3 0,R 306,.bool true,I 318 0,R 307,.none,R 308,R 309,R 310,I 726 0,I 151 0,U 727]
noncomputable def o312:=oU (fnD "__line" "BytesIO.__line" (D2 16 3) [] .none .none .none (S "io" 581) none (R 311) .none)
noncomputable def o315:=oT #[S "self" 732]
noncomputable def o317:Obj:=⟨.none,none,fnG 0 0 "closed" "BytesIO.closed" (D2 16 4) [] .none .none .none .none none .none .none,#[]⟩
noncomputable def o318:=oC #[S "closed" 729,S "BytesIO.closed" 730,U 731,I 164 0,I 1 0,O0,O0,I 3 0,R 313,.bool true,I 318 0,R 314,.none,R 315,R 316,R 317,I 733 0,I 164 0,U 734]
noncomputable def o319:=oU (fnD "closed" "BytesIO.closed" (D2 16 4) [] .none .none .none (S "io" 581) none (R 318) .none)
noncomputable def o320:Obj:=⟨(.type "property"),none,.fields #[R 319,.none,.none,.none,S "closed" 736,.bool false],#[]⟩
noncomputable def o323:=oT #[S "self" 740]
noncomputable def o325:Obj:=⟨.none,none,fnG 0 0 "close" "BytesIO.close" (D2 16 5) [] .none .none .none .none none .none .none,#[]⟩
noncomputable def o326:=oC #[S "close" 737,S "BytesIO.close" 738,U 739,I 168 0,I 1 0,O0,O0,I 3 0,R 321,.bool true,I 318 0,R 322,.none,R 323,R 324,R 325,I 741 0,I 168 0,U 742]
noncomputable def o327:=oU (fnD "close" "BytesIO.close" (D2 16 5) [] .none .none .none (S "io" 581) none (R 326) .none)
noncomputable def o330:=oT #[S "self" 747]
noncomputable def o332:Obj:=⟨.none,none,fnG 0 0 "__enter__" "BytesIO.__enter__" (D2 16 6) [] .none .none .none .none none .none .none,#[]⟩
noncomputable def o333:=oC #[S "__enter__" 744,S "BytesIO.__enter__" 745,U 746,I 171 0,I 1 0,O0,O0,I 3 0,R 328,.bool true,I 318 0,R 329,.none,R 330,R 331,R 332,I 748 0,I 171 0,U 749]
noncomputable def o334:=oU (fnD "__enter__" "BytesIO.__enter__" (D2 16 6) [] .none .none .none (S "io" 581) none (R 333) .none)
noncomputable def o337:=oT #[S "self" 754,S "args" 755]
noncomputable def o339:Obj:=⟨.none,none,fnG 0 0 "__exit__" "BytesIO.__exit__" (D2 16 7) [] .none .none .none .none none .none .none,#[]⟩
noncomputable def o340:=oC #[S "__exit__" 751,S "BytesIO.__exit__" 752,U 753,I 175 0,I 1 0,O0,O0,I 7 0,R 335,.bool true,I 318 0,R 336,.none,R 337,R 338,R 339,I 756 0,I 175 0,U 757]
noncomputable def o341:=oU (fnD "__exit__" "BytesIO.__exit__" (D2 16 7) [] .none .none .none (S "io" 581) none (R 340) .none)
noncomputable def o344:=oT #[S "self" 762]
noncomputable def o346:Obj:=⟨.none,none,fnG 0 0 "readable" "BytesIO.readable" (D2 16 8) [] .none .none .none .none none .none .none,#[]⟩
noncomputable def o347:=oC #[S "readable" 759,S "BytesIO.readable" 760,U 761,I 178 0,I 1 0,O0,O0,I 3 0,R 342,.bool true,I 318 0,R 343,.none,R 344,R 345,R 346,I 763 0,I 178 0,U 764]
noncomputable def o348:=oU (fnD "readable" "BytesIO.readable" (D2 16 8) [] .none .none .none (S "io" 581) none (R 347) .none)
noncomputable def o351:=oT #[S "self" 769]
noncomputable def o353:Obj:=⟨.none,none,fnG 0 0 "writable" "BytesIO.writable" (D2 16 9) [] .none .none .none .none none .none .none,#[]⟩
noncomputable def o354:=oC #[S "writable" 766,S "BytesIO.writable" 767,U 768,I 182 0,I 1 0,O0,O0,I 3 0,R 349,.bool true,I 318 0,R 350,.none,R 351,R 352,R 353,I 770 0,I 182 0,U 771]
noncomputable def o355:=oU (fnD "writable" "BytesIO.writable" (D2 16 9) [] .none .none .none (S "io" 581) none (R 354) .none)
noncomputable def o358:=oT #[S "self" 776]
noncomputable def o360:Obj:=⟨.none,none,fnG 0 0 "seekable" "BytesIO.seekable" (D2 16 10) [] .none .none .none .none none .none .none,#[]⟩
noncomputable def o361:=oC #[S "seekable" 773,S "BytesIO.seekable" 774,U 775,I 186 0,I 1 0,O0,O0,I 3 0,R 356,.bool true,I 318 0,R 357,.none,R 358,R 359,R 360,I 777 0,I 186 0,U 778]
noncomputable def o362:=oU (fnD "seekable" "BytesIO.seekable" (D2 16 10) [] .none .none .none (S "io" 581) none (R 361) .none)
noncomputable def o365:=oT #[S "self" 783]
noncomputable def o367:Obj:=⟨.none,none,fnG 0 0 "isatty" "BytesIO.isatty" (D2 16 11) [] .none .none .none .none none .none .none,#[]⟩
noncomputable def o368:=oC #[S "isatty" 780,S "BytesIO.isatty" 781,U 782,I 190 0,I 1 0,O0,O0,I 3 0,R 363,.bool true,I 318 0,R 364,.none,R 365,R 366,R 367,I 784 0,I 190 0,U 785]
noncomputable def o369:=oU (fnD "isatty" "BytesIO.isatty" (D2 16 11) [] .none .none .none (S "io" 581) none (R 368) .none)
noncomputable def o372:=oT #[S "self" 790]
noncomputable def o374:Obj:=⟨.none,none,fnG 0 0 "flush" "BytesIO.flush" (D2 16 12) [] .none .none .none .none none .none .none,#[]⟩
noncomputable def o375:=oC #[S "flush" 787,S "BytesIO.flush" 788,U 789,I 194 0,I 1 0,O0,O0,I 3 0,R 370,.bool true,I 318 0,R 371,.none,R 372,R 373,R 374,I 791 0,I 194 0,U 792]
noncomputable def o376:=oU (fnD "flush" "BytesIO.flush" (D2 16 12) [] .none .none .none (S "io" 581) none (R 375) .none)
noncomputable def o379:=oT #[S "self" 797]
noncomputable def o381:Obj:=⟨.none,none,fnG 0 0 "fileno" "BytesIO.fileno" (D2 16 13) [] .none .none .none .none none .none .none,#[]⟩
noncomputable def o382:=oC #[S "fileno" 794,S "BytesIO.fileno" 795,U 796,I 197 0,I 1 0,O0,O0,I 3 0,R 377,.bool true,I 318 0,R 378,.none,R 379,R 380,R 381,I 798 0,I 197 0,U 799]
noncomputable def o383:=oU (fnD "fileno" "BytesIO.fileno" (D2 16 13) [] .none .none .none (S "io" 581) none (R 382) .none)
noncomputable def o386:=oT #[S "self" 804]
noncomputable def o388:Obj:=⟨.none,none,fnG 0 0 "detach" "BytesIO.detach" (D2 16 14) [] .none .none .none .none none .none .none,#[]⟩
noncomputable def o389:=oC #[S "detach" 801,S "BytesIO.detach" 802,U 803,I 200 0,I 1 0,O0,O0,I 3 0,R 384,.bool true,I 318 0,R 385,.none,R 386,R 387,R 388,I 805 0,I 200 0,U 806]
noncomputable def o390:=oU (fnD "detach" "BytesIO.detach" (D2 16 14) [] .none .none .none (S "io" 581) none (R 389) .none)
noncomputable def o393:=oT #[S "self" 811]
noncomputable def o395:Obj:=⟨.none,none,fnG 0 0 "getvalue" "BytesIO.getvalue" (D2 16 15) [] .none .none .none .none none .none .none,#[]⟩
noncomputable def o396:=oC #[S "getvalue" 808,S "BytesIO.getvalue" 809,U 810,I 203 0,I 1 0,O0,O0,I 3 0,R 391,.bool true,I 318 0,R 392,.none,R 393,R 394,R 395,I 812 0,I 203 0,U 813]
noncomputable def o397:=oU (fnD "getvalue" "BytesIO.getvalue" (D2 16 15) [] .none .none .none (S "io" 581) none (R 396) .none)
noncomputable def o400:=oT #[S "self" 818]
noncomputable def o402:Obj:=⟨.none,none,fnG 0 0 "getbuffer" "BytesIO.getbuffer" (D2 16 16) [] .none .none .none .none none .none .none,#[]⟩
noncomputable def o403:=oC #[S "getbuffer" 815,S "BytesIO.getbuffer" 816,U 817,I 206 0,I 1 0,O0,O0,I 3 0,R 398,.bool true,I 318 0,R 399,.none,R 400,R 401,R 402,I 819 0,I 206 0,U 820]
noncomputable def o404:=oU (fnD "getbuffer" "BytesIO.getbuffer" (D2 16 16) [] .none .none .none (S "io" 581) none (R 403) .none)
noncomputable def o407:=oT #[S "self" 825]
noncomputable def o409:Obj:=⟨.none,none,fnG 0 0 "tell" "BytesIO.tell" (D2 16 17) [] .none .none .none .none none .none .none,#[]⟩
noncomputable def o410:=oC #[S "tell" 822,S "BytesIO.tell" 823,U 824,I 209 0,I 1 0,O0,O0,I 3 0,R 405,.bool true,I 318 0,R 406,.none,R 407,R 408,R 409,I 826 0,I 209 0,U 827]
noncomputable def o411:=oU (fnD "tell" "BytesIO.tell" (D2 16 17) [] .none .none .none (S "io" 581) none (R 410) .none)
noncomputable def o412:=oT #[I 0 829]
noncomputable def o415:=oT #[S "self" 833,S "pos" 834,S "whence" 835]
noncomputable def o417:Obj:=⟨.none,none,fnG 0 0 "seek" "BytesIO.seek" (D2 16 18) [] .none .none .none .none none .none .none,#[]⟩
noncomputable def o418:=oC #[S "seek" 830,S "BytesIO.seek" 831,U 832,I 213 0,I 3 0,I 3 0,O0,I 3 0,R 413,.bool true,I 318 0,R 414,.none,R 415,R 416,R 417,I 836 0,I 213 0,U 837]
noncomputable def o419:=oU (fnD "seek" "BytesIO.seek" (D2 16 18) [] (R 412) .none .none (S "io" 581) none (R 418) .none)
noncomputable def o423:=oT #[S "self" 842,S "size" 843]
noncomputable def o425:Obj:=⟨.none,none,fnG 0 0 "truncate" "BytesIO.truncate" (D2 16 19) [] .none .none .none .none none .none .none,#[]⟩
noncomputable def o426:=oC #[S "truncate" 839,S "BytesIO.truncate" 840,U 841,I 230 0,I 2 0,I 2 0,O0,I 3 0,R 421,.bool true,I 318 0,R 422,.none,R 423,R 424,R 425,I 844 0,I 230 0,U 845]
noncomputable def o427:=oU (fnD "truncate" "BytesIO.truncate" (D2 16 19) [] (R 420) .none .none (S "io" 581) none (R 426) .none)
noncomputable def o428:=oT #[(.int (-1) 848)]
noncomputable def o431:=oT #[S "self" 852,S "size" 853,S "start" 854,S "stop" 855]
noncomputable def o433:Obj:=⟨.none,none,fnG 0 0 "read" "BytesIO.read" (D2 16 20) [] .none .none .none .none none .none .none,#[]⟩
noncomputable def o434:=oC #[S "read" 849,S "BytesIO.read" 850,U 851,I 233 0,I 2 0,I 2 0,O0,I 3 0,R 429,.bool true,I 318 0,R 430,.none,R 431,R 432,R 433,I 856 0,I 233 0,U 857]
noncomputable def o435:=oU (fnD "read" "BytesIO.read" (D2 16 20) [] (R 428) .none .none (S "io" 581) none (R 434) .none)
noncomputable def o436:=oT #[(.int (-1) 860)]
noncomputable def o439:=oT #[S "self" 864,S "size" 865]
noncomputable def o441:Obj:=⟨.none,none,fnG 0 0 "read1" "BytesIO.read1" (D2 16 21) [] .none .none .none .none none .none .none,#[]⟩
noncomputable def o442:=oC #[S "read1" 861,S "BytesIO.read1" 862,U 863,I 247 0,I 2 0,I 2 0,O0,I 3 0,R 437,.bool true,I 318 0,R 438,.none,R 439,R 440,R 441,I 866 0,I 247 0,U 867]
noncomputable def o443:=oU (fnD "read1" "BytesIO.read1" (D2 16 21) [] (R 436) .none .none (S "io" 581) none (R 442) .none)
noncomputable def o446:=oT #[S "self" 872,S "buffer" 873,S "start" 874,S "n" 875]
noncomputable def o448:Obj:=⟨.none,none,fnG 0 0 "readinto" "BytesIO.readinto" (D2 16 22) [] .none .none .none .none none .none .none,#[]⟩
noncomputable def o449:=oC #[S "readinto" 869,S "BytesIO.readinto" 870,U 871,I 250 0,I 2 0,I 2 0,O0,I 3 0,R 444,.bool true,I 318 0,R 445,.none,R 446,R 447,R 448,I 876 0,I 250 0,U 877]
noncomputable def o450:=oU (fnD "readinto" "BytesIO.readinto" (D2 16 22) [] .none .none .none (S "io" 581) none (R 449) .none)
noncomputable def o453:=oT #[S "self" 882,S "buffer" 883]
noncomputable def o455:Obj:=⟨.none,none,fnG 0 0 "readinto1" "BytesIO.readinto1" (D2 16 23) [] .none .none .none .none none .none .none,#[]⟩
noncomputable def o456:=oC #[S "readinto1" 879,S "BytesIO.readinto1" 880,U 881,I 264 0,I 2 0,I 2 0,O0,I 3 0,R 451,.bool true,I 318 0,R 452,.none,R 453,R 454,R 455,I 884 0,I 264 0,U 885]
noncomputable def o457:=oU (fnD "readinto1" "BytesIO.readinto1" (D2 16 23) [] .none .none .none (S "io" 581) none (R 456) .none)
noncomputable def o458:=oT #[(.int (-1) 888)]
noncomputable def o461:=oT #[S "self" 892,S "size" 893]
noncomputable def o463:Obj:=⟨.none,none,fnG 0 0 "readline" "BytesIO.readline" (D2 16 24) [] .none .none .none .none none .none .none,#[]⟩
noncomputable def o464:=oC #[S "readline" 889,S "BytesIO.readline" 890,U 891,I 267 0,I 2 0,I 2 0,O0,I 3 0,R 459,.bool true,I 318 0,R 460,.none,R 461,R 462,R 463,I 894 0,I 267 0,U 895]
noncomputable def o465:=oU (fnD "readline" "BytesIO.readline" (D2 16 24) [] (R 458) .none .none (S "io" 581) none (R 464) .none)
noncomputable def o469:=oT #[S "self" 900,S "size" 901]
noncomputable def o471:Obj:=⟨.none,none,fnG 0 0 "readlines" "BytesIO.readlines" (D2 16 25) [] .none .none .none .none none .none .none,#[]⟩
noncomputable def o472:=oC #[S "readlines" 897,S "BytesIO.readlines" 898,U 899,I 274 0,I 2 0,I 2 0,O0,I 3 0,R 467,.bool true,I 318 0,R 468,.none,R 469,R 470,R 471,I 902 0,I 274 0,U 903]
noncomputable def o473:=oU (fnD "readlines" "BytesIO.readlines" (D2 16 25) [] (R 466) .none .none (S "io" 581) none (R 472) .none)
noncomputable def o476:=oT #[S "self" 908]
noncomputable def o478:Obj:=⟨.none,none,fnG 0 0 "__iter__" "BytesIO.__iter__" (D2 16 26) [] .none .none .none .none none .none .none,#[]⟩
noncomputable def o479:=oC #[S "__iter__" 905,S "BytesIO.__iter__" 906,U 907,I 277 0,I 1 0,O0,O0,I 3 0,R 474,.bool true,I 318 0,R 475,.none,R 476,R 477,R 478,I 909 0,I 277 0,U 910]
noncomputable def o480:=oU (fnD "__iter__" "BytesIO.__iter__" (D2 16 26) [] .none .none .none (S "io" 581) none (R 479) .none)
noncomputable def o483:=oT #[S "self" 915,S "line" 916]
noncomputable def o485:Obj:=⟨.none,none,fnG 0 0 "__next__" "BytesIO.__next__" (D2 16 27) [] .none .none .none .none none .none .none,#[]⟩
noncomputable def o486:=oC #[S "__next__" 912,S "BytesIO.__next__" 913,U 914,I 280 0,I 1 0,O0,O0,I 3 0,R 481,.bool true,I 318 0,R 482,.none,R 483,R 484,R 485,I 917 0,I 280 0,U 918]
noncomputable def o487:=oU (fnD "__next__" "BytesIO.__next__" (D2 16 27) [] .none .none .none (S "io" 581) none (R 486) .none)
noncomputable def o490:=oT #[S "self" 923,S "b" 924,S "n" 925,S "start" 926]
noncomputable def o492:Obj:=⟨.none,none,fnG 0 0 "write" "BytesIO.write" (D2 16 28) [] .none .none .none .none none .none .none,#[]⟩
noncomputable def o493:=oC #[S "write" 920,S "BytesIO.write" 921,U 922,I 287 0,I 2 0,I 2 0,O0,I 3 0,R 488,.bool true,I 318 0,R 489,.none,R 490,R 491,R 492,I 927 0,I 287 0,U 928]
noncomputable def o494:=oU (fnD "write" "BytesIO.write" (D2 16 28) [] .none .none .none (S "io" 581) none (R 493) .none)
noncomputable def o497:=oT #[S "self" 933,S "lines" 934]
noncomputable def o499:Obj:=⟨.none,none,fnG 0 0 "writelines" "BytesIO.writelines" (D2 16 29) [] .none .none .none .none none .none .none,#[]⟩
noncomputable def o500:=oC #[S "writelines" 930,S "BytesIO.writelines" 931,U 932,I 303 0,I 2 0,I 2 0,O0,I 3 0,R 495,.bool true,I 318 0,R 496,.none,R 497,R 498,R 499,I 935 0,I 303 0,U 936]
noncomputable def o501:=oU (fnD "writelines" "BytesIO.writelines" (D2 16 29) [] .none .none .none (S "io" 581) none (R 500) .none)
noncomputable def o504:=oT #[S "self" 941]
noncomputable def o506:Obj:=⟨.none,none,fnG 0 0 "__repr__" "BytesIO.__repr__" (D2 16 30) [] .none .none .none .none none .none .none,#[]⟩
noncomputable def o507:=oC #[S "__repr__" 938,S "BytesIO.__repr__" 939,U 940,I 306 0,I 1 0,O0,O0,I 3 0,R 502,.bool true,I 318 0,R 503,.none,R 504,R 505,R 506,I 942 0,I 306 0,U 943]
noncomputable def o508:=oU (fnD "__repr__" "BytesIO.__repr__" (D2 16 30) [] .none .none .none (S "io" 581) none (R 507) .none)
noncomputable def o509:=oT #[S "__buf" 945,S "__pos" 946]
noncomputable def o510 (P:Params):=oD #[en P "__module__" 696 (S "_io" 701),en P "__firstlineno__" 700 (I 138 699),en P "__init__" 710 (R 298),en P "_BytesIO__check" 717 (R 305),en P "_BytesIO__line" 728 (R 312),en P "closed" 736 (R 320),en P "close" 743 (R 327),en P "__enter__" 750 (R 334),en P "__exit__" 758 (R 341),en P "readable" 765 (R 348),en P "writable" 772 (R 355),en P "seekable" 779 (R 362),en P "isatty" 786 (R 369),en P "flush" 793 (R 376),en P "fileno" 800 (R 383),en P "detach" 807 (R 390),en P "getvalue" 814 (R 397),en P "getbuffer" 821 (R 404),en P "tell" 828 (R 411),en P "seek" 838 (R 419),en P "truncate" 846 (R 427),en P "read" 858 (R 435),en P "read1" 868 (R 443),en P "readinto" 878 (R 450),en P "readinto1" 886 (R 457),en P "readline" 896 (R 465),en P "readlines" 904 (R 473),en P "__iter__" 911 (R 480),en P "__next__" 919 (R 487),en P "write" 929 (R 494),en P "writelines" 937 (R 501),en P "__repr__" 944 (R 508),en P "__static_attributes__" 947 (R 509),en P "__doc__" 948 .none] 2
noncomputable def o511:Obj:=⟨(.type "type"),none,clD "BytesIO" [R 269] [R 511,R 269,R 254,.type "object"] 510 "BytesIO" true [] [] false none false,#[some (R 284),none,some (S "BytesIO" 689),some (S "BytesIO" 697),some .none,some (.bool true)]⟩
noncomputable def o512:Obj:=⟨(.type "super"),none,.fields #[R 511,R 511,R 511],#[]⟩
noncomputable def o513:Obj:=⟨(.type "builtin_function_or_method"),none,.fields #[.builtin "object.__init_subclass__",R 511],#[]⟩
noncomputable def t_15 (P:Params):BT:=(N (o0 P) (N (o1 P) (N (o3_15 P) (N o7 (N o7 (N o19 (N o63 (N o127 (N o255 (N o511 Z Z) Z) (N o383 Z Z)) (N o131 (N o319 Z Z) (N o7 Z Z))) (N o8 (N o159 (N o7 Z Z) (N o415 Z Z)) (N o223 (N o351 Z Z) (N o479 Z Z)))) (N (o47 P) (N o79 (N o143 (N o271 Z Z) (N o8 Z Z)) (N o6 (N o7 Z Z) (N o463 Z Z))) (N o7 (N o175 (N o303 Z Z) (N o431 Z Z)) (N o46 (N o367 Z Z) (N o7 Z Z))))) (N o23 (N o8 (N o71 (N o7 (N o7 Z Z) (N o7 Z Z)) (N o199 (N o327 Z Z) (N o455 Z Z))) (N o103 (N o167 (N o7 Z Z) (N o423 Z Z)) (N o231 (N o7 Z Z) (N o487 Z Z)))) (N o7 (N o7 (N o151 (N o7 Z Z) (N o407 Z Z)) (N o215 (N o8 Z Z) (N o471 Z Z))) (N o119 (N o183 (N o311 Z Z) (N o439 Z Z)) (N o247 (N o375 Z Z) (N o8 Z Z)))))) (N (o11 P) (N o19 (N o35_15 (N o8 (N o131 (N o259 Z Z) (N o7 Z Z)) (N o7 (N o323 Z Z) (N o7 Z Z))) (N o99 (N o163 (N o176 Z Z) (N o419 Z Z)) (N (o227 P) (N o355 Z Z) (N o483 Z Z)))) (N o51 (N o7 (N o7 (N o7 Z Z) (N o403 Z Z)) (N o7 (N o339 Z Z) (N o7 Z Z))) (N o115 (N o179 (N o8 Z Z) (N o435 Z Z)) (N o243 (N o8 Z Z) (N o499 Z Z))))) (N o27 (N o43 (N o75 (N o7 (N o7 Z Z) (N o395 Z Z)) (N o203 (N o7 Z Z) (N o7 Z Z))) (N o107 (N o171 (N o7 Z Z) (N o427 Z Z)) (N o235 (N o7 Z Z) (N o7 Z Z)))) (N o7 (N o91 (N o155 (N o283 Z Z) (N o411 Z Z)) (N o8 (N o347 Z Z) (N o8 Z Z))) (N o46 (N o7 (N o315 Z Z) (N o443 Z Z)) (N o251 (N o379 Z Z) (N o507 Z Z))))))) (N o5 (N o9 (N o17 (N o33 (N o65 (N o129 (N o257 (N o513 Z Z) Z) (N o8 Z Z)) (N o8 (N o7 Z Z) (N o449 Z Z))) (N o7 (N o161 (N o289 Z Z) (N o417 Z Z)) (N o225 (N o353 Z Z) (N o7 Z Z)))) (N o49 (N o8 (N o145 (N o46 Z Z) (N o7 Z Z)) (N o209 (N o337 Z Z) (N o465 Z Z))) (N o113 (N o7 (N o305 Z Z) (N o433 Z Z)) (N o7 (N o369 Z Z) (N o497 Z Z))))) (N o25 (N o7 (N o7 (N o137 (N o265 Z Z) (N o393 Z Z)) (N o201 (N o8 Z Z) (N o457 Z Z))) (N o105 (N o7 (N o297 Z Z) (N o425 Z Z)) (N (o233 P) (N o361 Z Z) (N o8 Z Z)))) (N o57 (N o89 (N o153 (N o281 Z Z) (N o409 Z Z)) (N o217 (N o7 Z Z) (N o473 Z Z))) (N o121 (N o8 (N o7 Z Z) (N o441 Z Z)) (N o249 (N o7 Z Z) (N o7 Z Z)))))) (N (o13 P) (N (o21 P) (N o37 (N o7 (N o8 (N o46 Z Z) (N o389 Z Z)) (N o197 (N o325 Z Z) (N o453 Z Z))) (N o7 (N o7 (N o8 Z Z) (N o7 Z Z)) (N o8 (N o8 Z Z) (N o485 Z Z)))) (N o8 (N o85 (N o149 (N o277 Z Z) (N o7 Z Z)) (N o213 (N o341 Z Z) (N o469 Z Z))) (N o117 (N o181 (N o7 Z Z) (N o7 Z Z)) (N o7 (N o7 Z Z) (N o501 Z Z))))) (N (o29 P) (N o7 (N o77 (N o141 (N o269_15 Z Z) (N o397 Z Z)) (N o205 (N o333 Z Z) (N o461 Z Z))) (N o8 (N o173 (N o301 Z Z) (N o7 Z Z)) (N o237 (N o365 Z Z) (N o493 Z Z)))) (N o61 (N o93 (N o157 (N o46 Z Z) (N o7 Z Z)) (N o7 (N o7 Z Z) (N o7 Z Z))) (N o125 (N o189 (N o317 Z Z) (N o8 Z Z)) (N (o253 P) (N o381 Z Z) (N o509 Z Z)))))))) (N (o2_14 P) (N o4 (N o8 (N o16 (N (o32 P) (N o64 (N o128 (N o256 (N o512 Z Z) Z) (N o7 Z Z)) (N o192 (N o320 Z Z) (N o448 Z Z))) (N o96 (N o160 (N o288 Z Z) (N o7 Z Z)) (N o224 (N o7 Z Z) (N o480 Z Z)))) (N o7 (N o7 (N o144 (N o260 Z Z) (N o400 Z Z)) (N o176 (N o8 Z Z) (N o464 Z Z))) (N o112 (N o176 (N o304 Z Z) (N o7 Z Z)) (N (o240 P) (N o368 Z Z) (N o8 Z Z))))) (N o24 (N o40 (N o72 (N o136 (N o8 Z Z) (N o8 Z Z)) (N (o200 P) (N o7 Z Z) (N o456 Z Z))) (N o7 (N o168 (N o296 Z Z) (N o7 Z Z)) (N o7 (N o360 Z Z) (N o7 Z Z)))) (N o56 (N o8 (N o152 (N (o280 P) Z Z) (N o7 Z Z)) (N o216 (N o344 Z Z) (N o472 Z Z))) (N o120 (N o7 (N o312 Z Z) (N o7 Z Z)) (N o7 (N o376 Z Z) (N o504 Z Z)))))) (N o12 (N (o20 P) (N o36 (N o68 (N o132 (N o260 Z Z) (N o388 Z Z)) (N o196 (N o7 Z Z) (N o8 Z Z))) (N o100 (N o164 (N o7 Z Z) (N o176 Z Z)) (N o7 (N o7 Z Z) (N o7 Z Z)))) (N o7 (N o84 (N o8 (N o8 Z Z) (N o404 Z Z)) (N o8 (N o340 Z Z) (N o8 Z Z))) (N (o116 P) (N o7 (N o308 Z Z) (N o436 Z Z)) (N o244 (N o372 Z Z) (N o500 Z Z))))) (N o28 (N o44 (N o7 (N o8 (N (o268 P) Z Z) (N o396 Z Z)) (N o204 (N o332 Z Z) (N o8 Z Z))) (N o7 (N o7 (N o8 Z Z) (N o428 Z Z)) (N o236 (N o8 Z Z) (N o492 Z Z)))) (N o8 (N o92 (N o8 (N o284 Z Z) (N o412 Z Z)) (N o220 (N o348 Z Z) (N o476 Z Z))) (N (o124 P) (N o188 (N o7 Z Z) (N o7 Z Z)) (N o7 (N o7 Z Z) (N o508 Z Z))))))) (N o6 (N o10 (N o18 (N o7 (N o7 (N o130 (N o258 Z Z) (N o386 Z Z)) (N o194 (N o8 Z Z) (N o450 Z Z))) (N o98 (N o7 (N o290 Z Z) (N o418 Z Z)) (N o46 (N o354 Z Z) (N o8 Z Z)))) (N o50 (N o82 (N o146 (N (o274 P) Z Z) (N o402 Z Z)) (N o210 (N o7 Z Z) (N o176 Z Z))) (N o114 (N o8 (N o7 Z Z) (N o434 Z Z)) (N o242 (N o7 Z Z) (N o7 Z Z))))) (N o26 (N o42 (N o8 (N o138 (N o266 Z Z) (N o7 Z Z)) (N o202 (N o330 Z Z) (N o458 Z Z))) (N o106 (N o170 (N o298 Z Z) (N o426 Z Z)) (N o234 (N o362 Z Z) (N o490 Z Z)))) (N o58 (N o7 (N o131 (N o282 Z Z) (N o410 Z Z)) (N o7 (N o346 Z Z) (N o7 Z Z))) (N o122 (N o186 (N o8 Z Z) (N o442 Z Z)) (N o250 (N o8 Z Z) (N o506 Z Z)))))) (N o14 (N o22 (N o7 (N o70 (N o134 (N (o262 P) Z Z) (N o390 Z Z)) (N o198 (N o326 Z Z) (N o7 Z Z))) (N o8 (N o166 (N o294 Z Z) (N o8 Z Z)) (N o230 (N o358 Z Z) (N o486 Z Z)))) (N o54 (N o86 (N o7 (N o278 Z Z) (N o8 Z Z)) (N o7 (N o7 Z Z) (N o7 Z Z))) (N o118 (N o182 (N o310 Z Z) (N o8 Z Z)) (N o8 (N o374 Z Z) (N o7 Z Z))))) (N o30 (N o46 (N o78 (N o7 (N o270 Z Z) (N o7 Z Z)) (N o206 (N o334 Z Z) (N o7 Z Z))) (N o110 (N o174 (N o7 Z Z) (N o8 Z Z)) (N o7 (N o7 Z Z) (N o494 Z Z)))) (N o7 (N o7 (N o7 (N (o286 P) Z Z) (N o8 Z Z)) (N o222 (N o8 Z Z) (N o478 Z Z))) (N o7 (N o190 (N o318 Z Z) (N o446 Z Z)) (N o254 (N o382 Z Z) (N (o510 P) Z Z)))))))))
noncomputable def o3_16 (P:Params):=oD #[en P "__name__" 165 (S "io" 581),en P "__doc__" 166 .none,en P "__package__" 167 .none,en P "__loader__" 168 (.builtin "__main__.__loader__#opaque"),en P "__spec__" 169 .none,en P "__annotations__" 170 (R 6),en P "__builtins__" 171 (R 4),en P "__file__" 173 (U 172),en P "__cached__" 174 .none,en P "_sre" 275 (R 12),en P "deque" 317 (.type "collections.deque"),en P "_wall" 330 (R 44),en P "NL" 334 (.str "\n" 333),en P "EMPTYSTRING" 336 (S "" 335),en P "_ValueFormatter" 444 (R 117),en P "_Accumulator" 540 (R 201),en P "_twin_re_1" 580 (R 210),en P "_whence" 590 (R 217),en P "_index" 598 (R 224),en P "UnsupportedOperation" 620 (R 234),en P "IOBase" 652 (R 254),en P "BufferedIOBase" 670 (R 269),en P "TextIOBase" 688 (R 281),en P "BytesIO" 950 (R 511),en P "StringIO" 1237 (R 758)] 25
noncomputable def o35_16:=oF #[I 3 0,O0,R 43,I 9 0,O0,R 50,I 75 0,O0,R 128,I 113 0,O0,R 216,I 118 0,O0,R 223,I 125 0,O0,R 230,I 127 0,O0,R 243,I 134 0,O0,R 265,I 136 0,O0,R 277,I 138 0,O0,R 289,I 308 0,O0,R 519]
noncomputable def o281_16:Obj:=⟨(.type "type"),none,clD "TextIOBase" [R 254] [R 281,R 254,.type "object"] 280 "TextIOBase" true [] [R 758] false none false,#[some (R 272),none,some (S "TextIOBase" 671),some (S "TextIOBase" 679),some .none,some (.bool true)]⟩
noncomputable def o514:=oT #[R 281]
noncomputable def o516 (P:Params):=oD #[en P "__module__" 958 (S "_io" 963),en P "__qualname__" 960 (S "StringIO" 959),en P "__firstlineno__" 962 (I 308 961),en P "__init__" 975 (R 528),en P "_StringIO__translated" 984 (R 535),en P "_StringIO__check" 991 (R 542),en P "_StringIO__check_dot" 998 (R 549),en P "_StringIO__line" 1013 (R 556),en P "closed" 1021 (R 564),en P "line_buffering" 1029 (R 572),en P "newlines" 1037 (R 580),en P "encoding" 1045 (R 588),en P "errors" 1053 (R 596),en P "close" 1060 (R 603),en P "__enter__" 1067 (R 610),en P "__exit__" 1075 (R 617),en P "readable" 1082 (R 624),en P "writable" 1089 (R 631),en P "seekable" 1096 (R 638),en P "isatty" 1103 (R 645),en P "flush" 1110 (R 652),en P "fileno" 1117 (R 659),en P "detach" 1124 (R 666),en P "getvalue" 1131 (R 673),en P "tell" 1138 (R 680),en P "seek" 1148 (R 688),en P "truncate" 1156 (R 696),en P "read" 1168 (R 704),en P "readline" 1178 (R 712),en P "readlines" 1188 (R 720),en P "__iter__" 1195 (R 727),en P "__next__" 1203 (R 734),en P "write" 1215 (R 741),en P "writelines" 1223 (R 748),en P "__repr__" 1230 (R 755),en P "__static_attributes__" 1234 (R 756)] 36
noncomputable def o518:=oF #[I 311 0,I 4 0,R 527,I 324 0,I 4 0,R 534,I 332 0,I 4 0,R 541,I 336 0,I 4 0,R 548,I 340 0,I 4 0,R 555,I 373 0,I 4 0,R 562,I 377 0,I 4 0,R 570,I 381 0,I 4 0,R 578,I 385 0,I 4 0,R 586,I 389 0,I 4 0,R 594,I 392 0,I 4 0,R 602,I 395 0,I 4 0,R 609,I 399 0,I 4 0,R 616,I 402 0,I 4 0,R 623,I 406 0,I 4 0,R 630,I 410 0,I 4 0,R 637,I 414 0,I 4 0,R 644,I 418 0,I 4 0,R 651,I 421 0,I 4 0,R 658,I 424 0,I 4 0,R 665,I 427 0,I 4 0,R 672,I 430 0,I 4 0,R 679,I 434 0,I 4 0,R 687,I 451 0,I 4 0,R 695,I 454 0,I 4 0,R 703,I 468 0,I 4 0,R 711,I 475 0,I 4 0,R 719,I 478 0,I 4 0,R 726,I 482 0,I 4 0,R 733,I 489 0,I 4 0,R 740,I 508 0,I 4 0,R 747,I 511 0,I 4 0,R 754]
noncomputable def o519:=oC #[S "StringIO" 953,S "StringIO" 954,U 955,I 308 0,O0,O0,O0,O0,R 517,.bool false,I 318 0,R 518,.none,.none,.none,.none,I 956 0,I 308 0,U 957]
noncomputable def o520:Obj:=⟨(.type "frame"),none,.plain,#[some (R 519),some (R 3),some (R 516),none,some (S "io" 581),none,some (R 0)]⟩
noncomputable def o521:=oT #[S "" 965,(.str "\n" 966)]
noncomputable def o524:=oT #[S "self" 970,S "initial_value" 971,S "newline" 972]
noncomputable def o526:Obj:=⟨.none,none,fnG 0 0 "__init__" "StringIO.__init__" (D2 17 1) [] .none .none .none .none none .none .none,#[]⟩
noncomputable def o527:=oC #[S "__init__" 967,S "StringIO.__init__" 968,U 969,I 311 0,I 3 0,O0,O0,I 3 0,R 522,.bool true,I 318 0,R 523,.none,R 524,R 525,R 526,I 973 0,I 311 0,U 974]
noncomputable def o528:=oU (fnD "__init__" "StringIO.__init__" (D2 17 1) [] (R 521) .none .none (S "io" 581) none (R 527) .none)
noncomputable def o531:=oT #[S "self" 979,S "s" 980,S "newline" 981]
noncomputable def o533:Obj:=⟨.none,none,fnG 0 0 "__translated" "StringIO.__translated" (D2 17 2) [] .none .none .none .none none .none .none,#[]⟩
noncomputable def o534:=oC #[S "__translated" 976,S "StringIO.__translated" 977,U 978,I 324 0,I 2 0,O0,O0,I 3 0,R 529,.bool true,I 318 0,R 530,.none,R 531,R 532,R 533,I 982 0,I 324 0,U 983]
noncomputable def o535:=oU (fnD "__translated" "StringIO.__translated" (D2 17 2) [] .none .none .none (S "io" 581) none (R 534) .none)
noncomputable def o538:=oT #[S "self" 988]
noncomputable def o540:Obj:=⟨.none,none,fnG 0 0 "__check" "StringIO.__check" (D2 17 3) [] .none .none .none .none none .none .none,#[]⟩
noncomputable def o541:=oC #[S "__check" 985,S "StringIO.__check" 986,U 987,I 332 0,I 1 0,O0,O0,I 3 0,R 536,.bool true,I 318 0,R 537,.none,R 538,R 539,R 540,I 989 0,I 332 0,U 990]
noncomputable def o542:=oU (fnD "__check" "StringIO.__check" (D2 17 3) [] .none .none .none (S "io" 581) none (R 541) .none)
noncomputable def o545:=oT #[S "self" 995]
noncomputable def o547:Obj:=⟨.none,none,fnG 0 0 "__check_dot" "StringIO.__check_dot" (D2 17 4) [] .none .none .none .none none .none .none,#[]⟩
noncomputable def o548:=oC #[S "__check_dot" 992,S "StringIO.__check_dot" 993,U 994,I 336 0,I 1 0,O0,O0,I 3 0,R 543,.bool true,I 318 0,R 544,.none,R 545,R 546,R 547,I 996 0,I 336 0,U 997]
noncomputable def o549:=oU (fnD "__check_dot" "StringIO.__check_dot" (D2 17 4) [] .none .none .none (S "io" 581) none (R 548) .none)
noncomputable def o552:=oT #[S "self" 1002,S "limit" 1003,S "start" 1004,S "stop" 1005,S "cut" 1006,S "newline" 1007,S "i" 1008,S "j" 1009,S "end" 1010]
noncomputable def o554:Obj:=⟨.none,none,fnG 0 0 "__line" "StringIO.__line" (D2 17 5) [] .none .none .none .none none .none .none,#[]⟩
noncomputable def o555:=oC #[S "__line" 999,S "StringIO.__line" 1000,U 1001,I 340 0,I 2 0,O0,O0,I 3 0,R 550,.bool true,I 318 0,R 551,.none,R 552,R 553,R 554,I 1011 0,I 340 0,U 1012]
noncomputable def o556:=oU (fnD "__line" "StringIO.__line" (D2 17 5) [] .none .none .none (S "io" 581) none (R 555) .none)
noncomputable def o559:=oT #[S "self" 1017]
noncomputable def o561:Obj:=⟨.none,none,fnG 0 0 "closed" "StringIO.closed" (D2 17 6) [] .none .none .none .none none .none .none,#[]⟩
noncomputable def o562:=oC #[S "closed" 1014,S "StringIO.closed" 1015,U 1016,I 372 0,I 1 0,O0,O0,I 3 0,R 557,.bool true,I 318 0,R 558,.none,R 559,R 560,R 561,I 1018 0,I 372 0,U 1019]
noncomputable def o563:=oU (fnD "closed" "StringIO.closed" (D2 17 6) [] .none .none .none (S "io" 581) none (R 562) .none)
noncomputable def o564:Obj:=⟨(.type "property"),none,.fields #[R 563,.none,.none,.none,S "closed" 1021,.bool false],#[]⟩
noncomputable def o567:=oT #[S "self" 1025]
noncomputable def o569:Obj:=⟨.none,none,fnG 0 0 "line_buffering" "StringIO.line_buffering" (D2 17 7) [] .none .none .none .none none .none .none,#[]⟩
noncomputable def o570:=oC #[S "line_buffering" 1022,S "StringIO.line_buffering" 1023,U 1024,I 376 0,I 1 0,O0,O0,I 3 0,R 565,.bool true,I 318 0,R 566,.none,R 567,R 568,R 569,I 1026 0,I 376 0,U 1027]
noncomputable def o571:=oU (fnD "line_buffering" "StringIO.line_buffering" (D2 17 7) [] .none .none .none (S "io" 581) none (R 570) .none)
noncomputable def o572:Obj:=⟨(.type "property"),none,.fields #[R 571,.none,.none,.none,S "line_buffering" 1029,.bool false],#[]⟩
noncomputable def o575:=oT #[S "self" 1033]
noncomputable def o577:Obj:=⟨.none,none,fnG 0 0 "newlines" "StringIO.newlines" (D2 17 8) [] .none .none .none .none none .none .none,#[]⟩
noncomputable def o578:=oC #[S "newlines" 1030,S "StringIO.newlines" 1031,U 1032,I 380 0,I 1 0,O0,O0,I 3 0,R 573,.bool true,I 318 0,R 574,.none,R 575,R 576,R 577,I 1034 0,I 380 0,U 1035]
noncomputable def o579:=oU (fnD "newlines" "StringIO.newlines" (D2 17 8) [] .none .none .none (S "io" 581) none (R 578) .none)
noncomputable def o580:Obj:=⟨(.type "property"),none,.fields #[R 579,.none,.none,.none,S "newlines" 1037,.bool false],#[]⟩
noncomputable def o583:=oT #[S "self" 1041]
noncomputable def o585:Obj:=⟨.none,none,fnG 0 0 "encoding" "StringIO.encoding" (D2 17 9) [] .none .none .none .none none .none .none,#[]⟩
noncomputable def o586:=oC #[S "encoding" 1038,S "StringIO.encoding" 1039,U 1040,I 384 0,I 1 0,O0,O0,I 3 0,R 581,.bool true,I 318 0,R 582,.none,R 583,R 584,R 585,I 1042 0,I 384 0,U 1043]
noncomputable def o587:=oU (fnD "encoding" "StringIO.encoding" (D2 17 9) [] .none .none .none (S "io" 581) none (R 586) .none)
noncomputable def o588:Obj:=⟨(.type "property"),none,.fields #[R 587,.none,.none,.none,S "encoding" 1045,.bool false],#[]⟩
noncomputable def o591:=oT #[S "self" 1049]
noncomputable def o593:Obj:=⟨.none,none,fnG 0 0 "errors" "StringIO.errors" (D2 17 10) [] .none .none .none .none none .none .none,#[]⟩
noncomputable def o594:=oC #[S "errors" 1046,S "StringIO.errors" 1047,U 1048,I 388 0,I 1 0,O0,O0,I 3 0,R 589,.bool true,I 318 0,R 590,.none,R 591,R 592,R 593,I 1050 0,I 388 0,U 1051]
noncomputable def o595:=oU (fnD "errors" "StringIO.errors" (D2 17 10) [] .none .none .none (S "io" 581) none (R 594) .none)
noncomputable def o596:Obj:=⟨(.type "property"),none,.fields #[R 595,.none,.none,.none,S "errors" 1053,.bool false],#[]⟩
noncomputable def o599:=oT #[S "self" 1057]
noncomputable def o601:Obj:=⟨.none,none,fnG 0 0 "close" "StringIO.close" (D2 17 11) [] .none .none .none .none none .none .none,#[]⟩
noncomputable def o602:=oC #[S "close" 1054,S "StringIO.close" 1055,U 1056,I 392 0,I 1 0,O0,O0,I 3 0,R 597,.bool true,I 318 0,R 598,.none,R 599,R 600,R 601,I 1058 0,I 392 0,U 1059]
noncomputable def o603:=oU (fnD "close" "StringIO.close" (D2 17 11) [] .none .none .none (S "io" 581) none (R 602) .none)
noncomputable def o606:=oT #[S "self" 1064]
noncomputable def o608:Obj:=⟨.none,none,fnG 0 0 "__enter__" "StringIO.__enter__" (D2 17 12) [] .none .none .none .none none .none .none,#[]⟩
noncomputable def o609:=oC #[S "__enter__" 1061,S "StringIO.__enter__" 1062,U 1063,I 395 0,I 1 0,O0,O0,I 3 0,R 604,.bool true,I 318 0,R 605,.none,R 606,R 607,R 608,I 1065 0,I 395 0,U 1066]
noncomputable def o610:=oU (fnD "__enter__" "StringIO.__enter__" (D2 17 12) [] .none .none .none (S "io" 581) none (R 609) .none)
noncomputable def o613:=oT #[S "self" 1071,S "args" 1072]
noncomputable def o615:Obj:=⟨.none,none,fnG 0 0 "__exit__" "StringIO.__exit__" (D2 17 13) [] .none .none .none .none none .none .none,#[]⟩
noncomputable def o616:=oC #[S "__exit__" 1068,S "StringIO.__exit__" 1069,U 1070,I 399 0,I 1 0,O0,O0,I 7 0,R 611,.bool true,I 318 0,R 612,.none,R 613,R 614,R 615,I 1073 0,I 399 0,U 1074]
noncomputable def o617:=oU (fnD "__exit__" "StringIO.__exit__" (D2 17 13) [] .none .none .none (S "io" 581) none (R 616) .none)
noncomputable def o620:=oT #[S "self" 1079]
noncomputable def o622:Obj:=⟨.none,none,fnG 0 0 "readable" "StringIO.readable" (D2 17 14) [] .none .none .none .none none .none .none,#[]⟩
noncomputable def o623:=oC #[S "readable" 1076,S "StringIO.readable" 1077,U 1078,I 402 0,I 1 0,O0,O0,I 3 0,R 618,.bool true,I 318 0,R 619,.none,R 620,R 621,R 622,I 1080 0,I 402 0,U 1081]
noncomputable def o624:=oU (fnD "readable" "StringIO.readable" (D2 17 14) [] .none .none .none (S "io" 581) none (R 623) .none)
noncomputable def o627:=oT #[S "self" 1086]
noncomputable def o629:Obj:=⟨.none,none,fnG 0 0 "writable" "StringIO.writable" (D2 17 15) [] .none .none .none .none none .none .none,#[]⟩
noncomputable def o630:=oC #[S "writable" 1083,S "StringIO.writable" 1084,U 1085,I 406 0,I 1 0,O0,O0,I 3 0,R 625,.bool true,I 318 0,R 626,.none,R 627,R 628,R 629,I 1087 0,I 406 0,U 1088]
noncomputable def o631:=oU (fnD "writable" "StringIO.writable" (D2 17 15) [] .none .none .none (S "io" 581) none (R 630) .none)
noncomputable def o634:=oT #[S "self" 1093]
noncomputable def o636:Obj:=⟨.none,none,fnG 0 0 "seekable" "StringIO.seekable" (D2 17 16) [] .none .none .none .none none .none .none,#[]⟩
noncomputable def o637:=oC #[S "seekable" 1090,S "StringIO.seekable" 1091,U 1092,I 410 0,I 1 0,O0,O0,I 3 0,R 632,.bool true,I 318 0,R 633,.none,R 634,R 635,R 636,I 1094 0,I 410 0,U 1095]
noncomputable def o638:=oU (fnD "seekable" "StringIO.seekable" (D2 17 16) [] .none .none .none (S "io" 581) none (R 637) .none)
noncomputable def o641:=oT #[S "self" 1100]
noncomputable def o643:Obj:=⟨.none,none,fnG 0 0 "isatty" "StringIO.isatty" (D2 17 17) [] .none .none .none .none none .none .none,#[]⟩
noncomputable def o644:=oC #[S "isatty" 1097,S "StringIO.isatty" 1098,U 1099,I 414 0,I 1 0,O0,O0,I 3 0,R 639,.bool true,I 318 0,R 640,.none,R 641,R 642,R 643,I 1101 0,I 414 0,U 1102]
noncomputable def o645:=oU (fnD "isatty" "StringIO.isatty" (D2 17 17) [] .none .none .none (S "io" 581) none (R 644) .none)
noncomputable def o648:=oT #[S "self" 1107]
noncomputable def o650:Obj:=⟨.none,none,fnG 0 0 "flush" "StringIO.flush" (D2 17 18) [] .none .none .none .none none .none .none,#[]⟩
noncomputable def o651:=oC #[S "flush" 1104,S "StringIO.flush" 1105,U 1106,I 418 0,I 1 0,O0,O0,I 3 0,R 646,.bool true,I 318 0,R 647,.none,R 648,R 649,R 650,I 1108 0,I 418 0,U 1109]
noncomputable def o652:=oU (fnD "flush" "StringIO.flush" (D2 17 18) [] .none .none .none (S "io" 581) none (R 651) .none)
noncomputable def o655:=oT #[S "self" 1114]
noncomputable def o657:Obj:=⟨.none,none,fnG 0 0 "fileno" "StringIO.fileno" (D2 17 19) [] .none .none .none .none none .none .none,#[]⟩
noncomputable def o658:=oC #[S "fileno" 1111,S "StringIO.fileno" 1112,U 1113,I 421 0,I 1 0,O0,O0,I 3 0,R 653,.bool true,I 318 0,R 654,.none,R 655,R 656,R 657,I 1115 0,I 421 0,U 1116]
noncomputable def o659:=oU (fnD "fileno" "StringIO.fileno" (D2 17 19) [] .none .none .none (S "io" 581) none (R 658) .none)
noncomputable def o662:=oT #[S "self" 1121]
noncomputable def o664:Obj:=⟨.none,none,fnG 0 0 "detach" "StringIO.detach" (D2 17 20) [] .none .none .none .none none .none .none,#[]⟩
noncomputable def o665:=oC #[S "detach" 1118,S "StringIO.detach" 1119,U 1120,I 424 0,I 1 0,O0,O0,I 3 0,R 660,.bool true,I 318 0,R 661,.none,R 662,R 663,R 664,I 1122 0,I 424 0,U 1123]
noncomputable def o666:=oU (fnD "detach" "StringIO.detach" (D2 17 20) [] .none .none .none (S "io" 581) none (R 665) .none)
noncomputable def o669:=oT #[S "self" 1128]
noncomputable def o671:Obj:=⟨.none,none,fnG 0 0 "getvalue" "StringIO.getvalue" (D2 17 21) [] .none .none .none .none none .none .none,#[]⟩
noncomputable def o672:=oC #[S "getvalue" 1125,S "StringIO.getvalue" 1126,U 1127,I 427 0,I 1 0,O0,O0,I 3 0,R 667,.bool true,I 318 0,R 668,.none,R 669,R 670,R 671,I 1129 0,I 427 0,U 1130]
noncomputable def o673:=oU (fnD "getvalue" "StringIO.getvalue" (D2 17 21) [] .none .none .none (S "io" 581) none (R 672) .none)
noncomputable def o676:=oT #[S "self" 1135]
noncomputable def o678:Obj:=⟨.none,none,fnG 0 0 "tell" "StringIO.tell" (D2 17 22) [] .none .none .none .none none .none .none,#[]⟩
noncomputable def o679:=oC #[S "tell" 1132,S "StringIO.tell" 1133,U 1134,I 430 0,I 1 0,O0,O0,I 3 0,R 674,.bool true,I 318 0,R 675,.none,R 676,R 677,R 678,I 1136 0,I 430 0,U 1137]
noncomputable def o680:=oU (fnD "tell" "StringIO.tell" (D2 17 22) [] .none .none .none (S "io" 581) none (R 679) .none)
noncomputable def o681:=oT #[I 0 1139]
noncomputable def o684:=oT #[S "self" 1143,S "pos" 1144,S "whence" 1145]
noncomputable def o686:Obj:=⟨.none,none,fnG 0 0 "seek" "StringIO.seek" (D2 17 23) [] .none .none .none .none none .none .none,#[]⟩
noncomputable def o687:=oC #[S "seek" 1140,S "StringIO.seek" 1141,U 1142,I 434 0,I 3 0,I 3 0,O0,I 3 0,R 682,.bool true,I 318 0,R 683,.none,R 684,R 685,R 686,I 1146 0,I 434 0,U 1147]
noncomputable def o688:=oU (fnD "seek" "StringIO.seek" (D2 17 23) [] (R 681) .none .none (S "io" 581) none (R 687) .none)
noncomputable def o692:=oT #[S "self" 1152,S "pos" 1153]
noncomputable def o694:Obj:=⟨.none,none,fnG 0 0 "truncate" "StringIO.truncate" (D2 17 24) [] .none .none .none .none none .none .none,#[]⟩
noncomputable def o695:=oC #[S "truncate" 1149,S "StringIO.truncate" 1150,U 1151,I 451 0,I 2 0,I 2 0,O0,I 3 0,R 690,.bool true,I 318 0,R 691,.none,R 692,R 693,R 694,I 1154 0,I 451 0,U 1155]
noncomputable def o696:=oU (fnD "truncate" "StringIO.truncate" (D2 17 24) [] (R 689) .none .none (S "io" 581) none (R 695) .none)
noncomputable def o697:=oT #[(.int (-1) 1158)]
noncomputable def o700:=oT #[S "self" 1162,S "size" 1163,S "start" 1164,S "stop" 1165]
noncomputable def o702:Obj:=⟨.none,none,fnG 0 0 "read" "StringIO.read" (D2 17 25) [] .none .none .none .none none .none .none,#[]⟩
noncomputable def o703:=oC #[S "read" 1159,S "StringIO.read" 1160,U 1161,I 454 0,I 2 0,I 2 0,O0,I 3 0,R 698,.bool true,I 318 0,R 699,.none,R 700,R 701,R 702,I 1166 0,I 454 0,U 1167]
noncomputable def o704:=oU (fnD "read" "StringIO.read" (D2 17 25) [] (R 697) .none .none (S "io" 581) none (R 703) .none)
noncomputable def o705:=oT #[(.int (-1) 1170)]
noncomputable def o708:=oT #[S "self" 1174,S "size" 1175]
noncomputable def o710:Obj:=⟨.none,none,fnG 0 0 "readline" "StringIO.readline" (D2 17 26) [] .none .none .none .none none .none .none,#[]⟩
noncomputable def o711:=oC #[S "readline" 1171,S "StringIO.readline" 1172,U 1173,I 468 0,I 2 0,I 2 0,O0,I 3 0,R 706,.bool true,I 318 0,R 707,.none,R 708,R 709,R 710,I 1176 0,I 468 0,U 1177]
noncomputable def o712:=oU (fnD "readline" "StringIO.readline" (D2 17 26) [] (R 705) .none .none (S "io" 581) none (R 711) .none)
noncomputable def o713:=oT #[(.int (-1) 1180)]
noncomputable def o716:=oT #[S "self" 1184,S "hint" 1185]
noncomputable def o718:Obj:=⟨.none,none,fnG 0 0 "readlines" "StringIO.readlines" (D2 17 27) [] .none .none .none .none none .none .none,#[]⟩
noncomputable def o719:=oC #[S "readlines" 1181,S "StringIO.readlines" 1182,U 1183,I 475 0,I 2 0,I 2 0,O0,I 3 0,R 714,.bool true,I 318 0,R 715,.none,R 716,R 717,R 718,I 1186 0,I 475 0,U 1187]
noncomputable def o720:=oU (fnD "readlines" "StringIO.readlines" (D2 17 27) [] (R 713) .none .none (S "io" 581) none (R 719) .none)
noncomputable def o723:=oT #[S "self" 1192]
noncomputable def o725:Obj:=⟨.none,none,fnG 0 0 "__iter__" "StringIO.__iter__" (D2 17 28) [] .none .none .none .none none .none .none,#[]⟩
noncomputable def o726:=oC #[S "__iter__" 1189,S "StringIO.__iter__" 1190,U 1191,I 478 0,I 1 0,O0,O0,I 3 0,R 721,.bool true,I 318 0,R 722,.none,R 723,R 724,R 725,I 1193 0,I 478 0,U 1194]
noncomputable def o727:=oU (fnD "__iter__" "StringIO.__iter__" (D2 17 28) [] .none .none .none (S "io" 581) none (R 726) .none)
noncomputable def o730:=oT #[S "self" 1199,S "line" 1200]
noncomputable def o732:Obj:=⟨.none,none,fnG 0 0 "__next__" "StringIO.__next__" (D2 17 29) [] .none .none .none .none none .none .none,#[]⟩
noncomputable def o733:=oC #[S "__next__" 1196,S "StringIO.__next__" 1197,U 1198,I 482 0,I 1 0,O0,O0,I 3 0,R 728,.bool true,I 318 0,R 729,.none,R 730,R 731,R 732,I 1201 0,I 482 0,U 1202]
noncomputable def o734:=oU (fnD "__next__" "StringIO.__next__" (D2 17 29) [] .none .none .none (S "io" 581) none (R 733) .none)
noncomputable def o737:=oT #[S "self" 1207,S "s" 1208,S "n" 1209,S "m" 1210,S "start" 1211,S "buf" 1212]
noncomputable def o739:Obj:=⟨.none,none,fnG 0 0 "write" "StringIO.write" (D2 17 30) [] .none .none .none .none none .none .none,#[]⟩
noncomputable def o740:=oC #[S "write" 1204,S "StringIO.write" 1205,U 1206,I 489 0,I 2 0,I 2 0,O0,I 3 0,R 735,.bool true,I 318 0,R 736,.none,R 737,R 738,R 739,I 1213 0,I 489 0,U 1214]
noncomputable def o741:=oU (fnD "write" "StringIO.write" (D2 17 30) [] .none .none .none (S "io" 581) none (R 740) .none)
noncomputable def o744:=oT #[S "self" 1219,S "lines" 1220]
noncomputable def o746:Obj:=⟨.none,none,fnG 0 0 "writelines" "StringIO.writelines" (D2 17 31) [] .none .none .none .none none .none .none,#[]⟩
noncomputable def o747:=oC #[S "writelines" 1216,S "StringIO.writelines" 1217,U 1218,I 508 0,I 2 0,I 2 0,O0,I 3 0,R 742,.bool true,I 318 0,R 743,.none,R 744,R 745,R 746,I 1221 0,I 508 0,U 1222]
noncomputable def o748:=oU (fnD "writelines" "StringIO.writelines" (D2 17 31) [] .none .none .none (S "io" 581) none (R 747) .none)
noncomputable def o751:=oT #[S "self" 1227]
noncomputable def o753:Obj:=⟨.none,none,fnG 0 0 "__repr__" "StringIO.__repr__" (D2 17 32) [] .none .none .none .none none .none .none,#[]⟩
noncomputable def o754:=oC #[S "__repr__" 1224,S "StringIO.__repr__" 1225,U 1226,I 511 0,I 1 0,O0,O0,I 3 0,R 749,.bool true,I 318 0,R 750,.none,R 751,R 752,R 753,I 1228 0,I 511 0,U 1229]
noncomputable def o755:=oU (fnD "__repr__" "StringIO.__repr__" (D2 17 32) [] .none .none .none (S "io" 581) none (R 754) .none)
noncomputable def o756:=oT #[S "__buf" 1231,S "__newline" 1232,S "__pos" 1233]
noncomputable def o757 (P:Params):=oD #[en P "__module__" 958 (S "_io" 963),en P "__firstlineno__" 962 (I 308 961),en P "__init__" 975 (R 528),en P "_StringIO__translated" 984 (R 535),en P "_StringIO__check" 991 (R 542),en P "_StringIO__check_dot" 998 (R 549),en P "_StringIO__line" 1013 (R 556),en P "closed" 1021 (R 564),en P "line_buffering" 1029 (R 572),en P "newlines" 1037 (R 580),en P "encoding" 1045 (R 588),en P "errors" 1053 (R 596),en P "close" 1060 (R 603),en P "__enter__" 1067 (R 610),en P "__exit__" 1075 (R 617),en P "readable" 1082 (R 624),en P "writable" 1089 (R 631),en P "seekable" 1096 (R 638),en P "isatty" 1103 (R 645),en P "flush" 1110 (R 652),en P "fileno" 1117 (R 659),en P "detach" 1124 (R 666),en P "getvalue" 1131 (R 673),en P "tell" 1138 (R 680),en P "seek" 1148 (R 688),en P "truncate" 1156 (R 696),en P "read" 1168 (R 704),en P "readline" 1178 (R 712),en P "readlines" 1188 (R 720),en P "__iter__" 1195 (R 727),en P "__next__" 1203 (R 734),en P "write" 1215 (R 741),en P "writelines" 1223 (R 748),en P "__repr__" 1230 (R 755),en P "__static_attributes__" 1234 (R 756),en P "__doc__" 1235 .none] 2
noncomputable def o758:Obj:=⟨(.type "type"),none,clD "StringIO" [R 281] [R 758,R 281,R 254,.type "object"] 757 "StringIO" true [] [] false none false,#[some (R 514),none,some (S "StringIO" 951),some (S "StringIO" 959),some .none,some (.bool true)]⟩
noncomputable def o759:Obj:=⟨(.type "super"),none,.fields #[R 758,R 758,R 758],#[]⟩
noncomputable def o760:Obj:=⟨(.type "builtin_function_or_method"),none,.fields #[.builtin "object.__init_subclass__",R 758],#[]⟩
noncomputable def t_16 (P:Params):BT:=(N (o0 P) (N (o1 P) (N (o3_16 P) (N o7 (N o7 (N o19 (N o63 (N o127 (N o255 (N o511 Z Z) Z) (N o383 (N o7 Z Z) Z)) (N o131 (N o319 (N o575 Z Z) Z) (N o7 (N o703 Z Z) Z))) (N o8 (N o159 (N o7 (N o7 Z Z) Z) (N o415 (N o671 Z Z) Z)) (N o223 (N o351 (N o7 Z Z) Z) (N o479 (N o7 Z Z) Z)))) (N (o47 P) (N o79 (N o143 (N o271 (N o527 Z Z) Z) (N o8 (N o655 Z Z) Z)) (N o6 (N o7 (N o591 Z Z) Z) (N o463 (N o719 Z Z) Z))) (N o7 (N o175 (N o303 (N o559 Z Z) Z) (N o431 (N o687 Z Z) Z)) (N o46 (N o367 (N o623 Z Z) Z) (N o7 (N o751 Z Z) Z))))) (N o23 (N o8 (N o71 (N o7 (N o7 (N o519 Z Z) Z) (N o7 (N o8 Z Z) Z)) (N o199 (N o327 (N o583 Z Z) Z) (N o455 (N o711 Z Z) Z))) (N o103 (N o167 (N o7 (N o8 Z Z) Z) (N o423 (N o679 Z Z) Z)) (N o231 (N o7 (N o615 Z Z) Z) (N o487 (N o8 Z Z) Z)))) (N o7 (N o7 (N o151 (N o7 (N o535 Z Z) Z) (N o407 (N o7 Z Z) Z)) (N o215 (N o8 (N o599 Z Z) Z) (N o471 (N o727 Z Z) Z))) (N o119 (N o183 (N o311 (N o567 Z Z) Z) (N o439 (N o695 Z Z) Z)) (N o247 (N o375 (N o631 Z Z) Z) (N o8 (N o759 Z Z) Z)))))) (N (o11 P) (N o19 (N o35_16 (N o8 (N o131 (N o259 (N o46 Z Z) Z) (N o7 (N o643 Z Z) Z)) (N o7 (N o323 (N o579 Z Z) Z) (N o7 (N o8 Z Z) Z))) (N o99 (N o163 (N o176 (N o547 Z Z) Z) (N o419 (N o8 Z Z) Z)) (N (o227 P) (N o355 (N o7 Z Z) Z) (N o483 (N o739 Z Z) Z)))) (N o51 (N o7 (N o7 (N o7 (N o531 Z Z) Z) (N o403 (N o659 Z Z) Z)) (N o7 (N o339 (N o595 Z Z) Z) (N o7 (N o723 Z Z) Z))) (N o115 (N o179 (N o8 (N o563 Z Z) Z) (N o435 (N o8 Z Z) Z)) (N o243 (N o8 (N o627 Z Z) Z) (N o499 (N o755 Z Z) Z))))) (N o27 (N o43 (N o75 (N o7 (N o7 (N o8 Z Z) Z) (N o395 (N o651 Z Z) Z)) (N o203 (N o7 (N o587 Z Z) Z) (N o7 (N o8 Z Z) Z))) (N o107 (N o171 (N o7 (N o555 Z Z) Z) (N o427 (N o8 Z Z) Z)) (N o235 (N o7 (N o8 Z Z) Z) (N o7 (N o747 Z Z) Z)))) (N o7 (N o91 (N o155 (N o283 (N o7 Z Z) Z) (N o411 (N o7 Z Z) Z)) (N o8 (N o347 (N o603 Z Z) Z) (N o8 (N o7 Z Z) Z))) (N o46 (N o7 (N o315 (N o571 Z Z) Z) (N o443 (N o8 Z Z) Z)) (N o251 (N o379 (N o7 Z Z) Z) (N o507 Z Z))))))) (N o5 (N o9 (N o17 (N o33 (N o65 (N o129 (N o257 (N o513 Z Z) Z) (N o8 (N o641 Z Z) Z)) (N o8 (N o7 (N o577 Z Z) Z) (N o449 (N o705 Z Z) Z))) (N o7 (N o161 (N o289 (N o545 Z Z) Z) (N o417 (N o673 Z Z) Z)) (N o225 (N o353 (N o609 Z Z) Z) (N o7 (N o737 Z Z) Z)))) (N o49 (N o8 (N o145 (N o46 (N o7 Z Z) Z) (N o7 (N o657 Z Z) Z)) (N o209 (N o337 (N o593 Z Z) Z) (N o465 (N o7 Z Z) Z))) (N o113 (N o7 (N o305 (N o561 Z Z) Z) (N o433 (N o176 Z Z) Z)) (N o7 (N o369 (N o7 Z Z) Z) (N o497 (N o753 Z Z) Z))))) (N o25 (N o7 (N o7 (N o137 (N o265 (N o521 Z Z) Z) (N o393 (N o7 Z Z) Z)) (N o201 (N o8 (N o585 Z Z) Z) (N o457 (N o713 Z Z) Z))) (N o105 (N o7 (N o297 (N o7 Z Z) Z) (N o425 (N o681 Z Z) Z)) (N (o233 P) (N o361 (N o617 Z Z) Z) (N o8 (N o7 Z Z) Z)))) (N o57 (N o89 (N o153 (N o281_16 (N o8 Z Z) Z) (N o409 (N o665 Z Z) Z)) (N o217 (N o7 (N o601 Z Z) Z) (N o473 (N o8 Z Z) Z))) (N o121 (N o8 (N o7 (N o569 Z Z) Z) (N o441 (N o697 Z Z) Z)) (N o249 (N o7 (N o8 Z Z) Z) (N o7 Z Z)))))) (N (o13 P) (N (o21 P) (N o37 (N o7 (N o8 (N o46 (N o7 Z Z) Z) (N o389 (N o645 Z Z) Z)) (N o197 (N o325 (N o7 Z Z) Z) (N o453 (N o7 Z Z) Z))) (N o7 (N o7 (N o8 (N o549 Z Z) Z) (N o7 (N o7 Z Z) Z)) (N o8 (N o8 (N o613 Z Z) Z) (N o485 (N o741 Z Z) Z)))) (N o8 (N o85 (N o149 (N o277 (N o533 Z Z) Z) (N o7 (N o8 Z Z) Z)) (N o213 (N o341 (N o7 Z Z) Z) (N o469 (N o725 Z Z) Z))) (N o117 (N o181 (N o7 (N o7 Z Z) Z) (N o7 (N o7 Z Z) Z)) (N o7 (N o7 (N o629 Z Z) Z) (N o501 (N (o757 P) Z Z) Z))))) (N (o29 P) (N o7 (N o77 (N o141 (N o269_15 (N o7 Z Z) Z) (N o397 (N o7 Z Z) Z)) (N o205 (N o333 (N o7 Z Z) Z) (N o461 (N o7 Z Z) Z))) (N o8 (N o173 (N o301 (N o7 Z Z) Z) (N o7 (N o7 Z Z) Z)) (N o237 (N o365 (N o7 Z Z) Z) (N o493 (N o7 Z Z) Z)))) (N o61 (N o93 (N o157 (N o46 (N o541 Z Z) Z) (N o7 (N o669 Z Z) Z)) (N o7 (N o7 (N o8 Z Z) Z) (N o7 (N o733 Z Z) Z))) (N o125 (N o189 (N o317 (N o7 Z Z) Z) (N o8 (N o7 Z Z) Z)) (N (o253 P) (N o381 (N o637 Z Z) Z) (N o509 Z Z)))))))) (N (o2_14 P) (N o4 (N o8 (N o16 (N (o32 P) (N o64 (N o128 (N o256 (N o512 Z Z) Z) (N o7 (N o8 Z Z) Z)) (N o192 (N o320 (N o7 Z Z) Z) (N o448 (N o704 Z Z) Z))) (N o96 (N o160 (N o288 (N o8 Z Z) Z) (N o7 (N o672 Z Z) Z)) (N o224 (N o7 (N o608 Z Z) Z) (N o480 (N o8 Z Z) Z)))) (N o7 (N o7 (N o144 (N o260 (N o528 Z Z) Z) (N o400 (N o7 Z Z) Z)) (N o176 (N o8 (N o7 Z Z) Z) (N o464 (N o720 Z Z) Z))) (N o112 (N o176 (N o304 (N o7 Z Z) Z) (N o7 (N o688 Z Z) Z)) (N (o240 P) (N o368 (N o624 Z Z) Z) (N o8 (N o7 Z Z) Z))))) (N o24 (N o40 (N o72 (N o136 (N o8 (N o520 Z Z) Z) (N o8 (N o648 Z Z) Z)) (N (o200 P) (N o7 (N o7 Z Z) Z) (N o456 (N o712 Z Z) Z))) (N o7 (N o168 (N o296 (N o552 Z Z) Z) (N o7 (N o680 Z Z) Z)) (N o7 (N o360 (N o616 Z Z) Z) (N o7 (N o744 Z Z) Z)))) (N o56 (N o8 (N o152 (N (o280 P) (N o7 Z Z) Z) (N o7 (N o664 Z Z) Z)) (N o216 (N o344 (N o7 Z Z) Z) (N o472 (N o7 Z Z) Z))) (N o120 (N o7 (N o312 (N o7 Z Z) Z) (N o7 (N o696 Z Z) Z)) (N o7 (N o376 (N o7 Z Z) Z) (N o504 (N o760 Z Z) Z)))))) (N o12 (N (o20 P) (N o36 (N o68 (N o132 (N o260 (N (o516 P) Z Z) Z) (N o388 (N o644 Z Z) Z)) (N o196 (N o7 (N o580 Z Z) Z) (N o8 (N o708 Z Z) Z))) (N o100 (N o164 (N o7 (N o548 Z Z) Z) (N o176 (N o676 Z Z) Z)) (N o7 (N o7 (N o8 Z Z) Z) (N o7 (N o740 Z Z) Z)))) (N o7 (N o84 (N o8 (N o8 (N o7 Z Z) Z) (N o404 (N o7 Z Z) Z)) (N o8 (N o340 (N o596 Z Z) Z) (N o8 (N o7 Z Z) Z))) (N (o116 P) (N o7 (N o308 (N o564 Z Z) Z) (N o436 (N o692 Z Z) Z)) (N o244 (N o372 (N o7 Z Z) Z) (N o500 (N o756 Z Z) Z))))) (N o28 (N o44 (N o7 (N o8 (N (o268 P) (N o524 Z Z) Z) (N o396 (N o652 Z Z) Z)) (N o204 (N o332 (N o588 Z Z) Z) (N o8 (N o716 Z Z) Z))) (N o7 (N o7 (N o8 (N o556 Z Z) Z) (N o428 (N o684 Z Z) Z)) (N o236 (N o8 (N o620 Z Z) Z) (N o492 (N o748 Z Z) Z)))) (N o8 (N o92 (N o8 (N o284 (N o540 Z Z) Z) (N o412 (N o8 Z Z) Z)) (N o220 (N o348 (N o7 Z Z) Z) (N o476 (N o732 Z Z) Z))) (N (o124 P) (N o188 (N o7 (N o572 Z Z) Z) (N o7 (N o700 Z Z) Z)) (N o7 (N o7 (N o636 Z Z) Z) (N o508 Z Z))))))) (N o6 (N o10 (N o18 (N o7 (N o7 (N o130 (N o258 (N o514 Z Z) Z) (N o386 (N o7 Z Z) Z)) (N o194 (N o8 (N o578 Z Z) Z) (N o450 (N o7 Z Z) Z))) (N o98 (N o7 (N o290 (N o7 Z Z) Z) (N o418 (N o7 Z Z) Z)) (N o46 (N o354 (N o610 Z Z) Z) (N o8 (N o7 Z Z) Z)))) (N o50 (N o82 (N o146 (N (o274 P) (N o8 Z Z) Z) (N o402 (N o658 Z Z) Z)) (N o210 (N o7 (N o594 Z Z) Z) (N o176 (N o8 Z Z) Z))) (N o114 (N o8 (N o7 (N o562 Z Z) Z) (N o434 (N o7 Z Z) Z)) (N o242 (N o7 (N o8 Z Z) Z) (N o7 (N o754 Z Z) Z))))) (N o26 (N o42 (N o8 (N o138 (N o266 (N o7 Z Z) Z) (N o7 (N o650 Z Z) Z)) (N o202 (N o330 (N o586 Z Z) Z) (N o458 (N o7 Z Z) Z))) (N o106 (N o170 (N o298 (N o554 Z Z) Z) (N o426 (N o7 Z Z) Z)) (N o234 (N o362 (N o7 Z Z) Z) (N o490 (N o746 Z Z) Z)))) (N o58 (N o7 (N o131 (N o282 (N o538 Z Z) Z) (N o410 (N o666 Z Z) Z)) (N o7 (N o346 (N o602 Z Z) Z) (N o7 (N o730 Z Z) Z))) (N o122 (N o186 (N o8 (N o570 Z Z) Z) (N o442 (N o7 Z Z) Z)) (N o250 (N o8 (N o634 Z Z) Z) (N o506 Z Z)))))) (N o14 (N o22 (N o7 (N o70 (N o134 (N (o262 P) (N o518 Z Z) Z) (N o390 (N o7 Z Z) Z)) (N o198 (N o326 (N o8 Z Z) Z) (N o7 (N o710 Z Z) Z))) (N o8 (N o166 (N o294 (N o7 Z Z) Z) (N o8 (N o678 Z Z) Z)) (N o230 (N o358 (N o7 Z Z) Z) (N o486 (N o7 Z Z) Z)))) (N o54 (N o86 (N o7 (N o278 (N o534 Z Z) Z) (N o8 (N o662 Z Z) Z)) (N o7 (N o7 (N o8 Z Z) Z) (N o7 (N o726 Z Z) Z))) (N o118 (N o182 (N o310 (N o8 Z Z) Z) (N o8 (N o694 Z Z) Z)) (N o8 (N o374 (N o630 Z Z) Z) (N o7 (N o758 Z Z) Z))))) (N o30 (N o46 (N o78 (N o7 (N o270 (N o526 Z Z) Z) (N o7 (N o8 Z Z) Z)) (N o206 (N o334 (N o8 Z Z) Z) (N o7 (N o718 Z Z) Z))) (N o110 (N o174 (N o7 (N o8 Z Z) Z) (N o8 (N o686 Z Z) Z)) (N o7 (N o7 (N o622 Z Z) Z) (N o494 (N o8 Z Z) Z)))) (N o7 (N o7 (N o7 (N (o286 P) (N o542 Z Z) Z) (N o8 (N o7 Z Z) Z)) (N o222 (N o8 (N o606 Z Z) Z) (N o478 (N o734 Z Z) Z))) (N o7 (N o190 (N o318 (N o8 Z Z) Z) (N o446 (N o702 Z Z) Z)) (N o254 (N o382 (N o638 Z Z) Z) (N (o510 P) Z Z)))))))))
noncomputable def o3_z (P:Params):=oD #[en P "__name__" 165 (S "law_mr0372_01" 1446),en P "__doc__" 166 .none,en P "__package__" 167 .none,en P "__loader__" 168 (.builtin "__main__.__loader__#opaque"),en P "__spec__" 169 .none,en P "__annotations__" 170 (R 6),en P "__builtins__" 171 (R 4),en P "__file__" 173 (U 172),en P "__cached__" 174 .none,en P "_sre" 275 (R 12),en P "deque" 317 (.type "collections.deque"),en P "_wall" 330 (R 44),en P "NL" 334 (.str "\n" 333),en P "EMPTYSTRING" 336 (S "" 335),en P "_ValueFormatter" 444 (R 117),en P "_Accumulator" 540 (R 201),en P "_twin_re_1" 580 (R 210),en P "_whence" 590 (R 217),en P "_index" 598 (R 224),en P "UnsupportedOperation" 620 (R 234),en P "IOBase" 652 (R 254),en P "BufferedIOBase" 670 (R 269),en P "TextIOBase" 688 (R 281),en P "BytesIO" 950 (R 511),en P "StringIO" 1237 (R 758),en P "_kind" 1248 (R 767),en P "_fspath" 1257 (R 774),en P "_check_arg_types" 1267 (R 781),en P "isabs" 1274 (R 788),en P "join" 1285 (R 795),en P "dirname" 1295 (R 802),en P "shlex" 1436 (R 893),en P "_find_unsafe" 1438 (R 898),en P "quote" 1445 (R 905),en P "_law_piece" 1457 (R 912),en P "_law_rows" 1463 (R 917),en P "_law_tokens" 1479 (R 924),en P "_law_read" 1489 (R 931),en P "law" 1495 (R 936)] 39
noncomputable def o35_z:=oF #[I 3 0,O0,R 43,I 9 0,O0,R 50,I 75 0,O0,R 128,I 113 0,O0,R 216,I 118 0,O0,R 223,I 125 0,O0,R 230,I 127 0,O0,R 243,I 134 0,O0,R 265,I 136 0,O0,R 277,I 138 0,O0,R 289,I 308 0,O0,R 519,I 514 0,O0,R 766,I 535 0,O0,R 773,I 540 0,O0,R 780,I 545 0,O0,R 787,I 548 0,O0,R 794,I 568 0,O0,R 801,I 577 0,O0,R 808,I 830 0,O0,R 904,I 837 0,O0,R 911,I 842 0,O0,R 916,I 856 0,O0,R 923,I 872 0,O0,R 930,I 880 0,O0,R 935]
noncomputable def o763:=oT #[S "name" 1243,S "x" 1244,S "t" 1245]
noncomputable def o765:Obj:=⟨.none,none,fnG 0 0 "_kind" "_kind" (D1 19) [] .none .none .none .none none .none .none,#[]⟩
noncomputable def o766:=oC #[S "_kind" 1240,S "_kind" 1241,U 1242,I 514 0,I 2 0,O0,O0,I 3 0,R 761,.bool true,I 318 0,R 762,.none,R 763,R 764,R 765,I 1246 0,I 514 0,U 1247]
noncomputable def o767:=oU (fnD "_kind" "_kind" (D1 19) [] .none .none .none (S "os.path" 1238) none (R 766) .none)
noncomputable def o770:=oT #[S "name" 1252,S "x" 1253,S "k" 1254]
noncomputable def o772:Obj:=⟨.none,none,fnG 0 0 "_fspath" "_fspath" (D1 20) [] .none .none .none .none none .none .none,#[]⟩
noncomputable def o773:=oC #[S "_fspath" 1249,S "_fspath" 1250,U 1251,I 535 0,I 2 0,O0,O0,I 3 0,R 768,.bool true,I 318 0,R 769,.none,R 770,R 771,R 772,I 1255 0,I 535 0,U 1256]
noncomputable def o774:=oU (fnD "_fspath" "_fspath" (D1 20) [] .none .none .none (S "os.path" 1238) none (R 773) .none)
noncomputable def o777:=oT #[S "funcname" 1261,S "args" 1262,S "s" 1263,S "k" 1264]
noncomputable def o779:Obj:=⟨.none,none,fnG 0 0 "_check_arg_types" "_check_arg_types" (D1 21) [] .none .none .none .none none .none .none,#[]⟩
noncomputable def o780:=oC #[S "_check_arg_types" 1258,S "_check_arg_types" 1259,U 1260,I 540 0,I 1 0,O0,O0,I 7 0,R 775,.bool true,I 318 0,R 776,.none,R 777,R 778,R 779,I 1265 0,I 540 0,U 1266]
noncomputable def o781:=oU (fnD "_check_arg_types" "_check_arg_types" (D1 21) [] .none .none .none (S "os.path" 1238) none (R 780) .none)
noncomputable def o784:=oT #[S "s" 1271]
noncomputable def o786:Obj:=⟨.none,none,fnG 0 0 "isabs" "isabs" (D1 22) [] .none .none .none .none none .none .none,#[]⟩
noncomputable def o787:=oC #[S "isabs" 1268,S "isabs" 1269,U 1270,I 545 0,I 1 0,O0,O0,I 3 0,R 782,.bool true,I 318 0,R 783,.none,R 784,R 785,R 786,I 1272 0,I 545 0,U 1273]
noncomputable def o788:=oU (fnD "isabs" "isabs" (D1 22) [] .none .none .none (S "os.path" 1238) none (R 787) .none)
noncomputable def o791:=oT #[S "a" 1278,S "p" 1279,S "b" 1280,S "sep" 1281,S "path" 1282]
noncomputable def o793:Obj:=⟨.none,none,fnG 0 0 "join" "join" (D1 23) [] .none .none .none .none none .none .none,#[]⟩
noncomputable def o794:=oC #[S "join" 1275,S "join" 1276,U 1277,I 548 0,I 1 0,O0,O0,I 7 0,R 789,.bool true,I 318 0,R 790,.none,R 791,R 792,R 793,I 1283 0,I 548 0,U 1284]
noncomputable def o795:=oU (fnD "join" "join" (D1 23) [] .none .none .none (S "os.path" 1238) none (R 794) .none)
noncomputable def o798:=oT #[S "p" 1289,S "sep" 1290,S "i" 1291,S "head" 1292]
noncomputable def o800:Obj:=⟨.none,none,fnG 0 0 "dirname" "dirname" (D1 24) [] .none .none .none .none none .none .none,#[]⟩
noncomputable def o801:=oC #[S "dirname" 1286,S "dirname" 1287,U 1288,I 568 0,I 1 0,O0,O0,I 3 0,R 796,.bool true,I 318 0,R 797,.none,R 798,R 799,R 800,I 1293 0,I 568 0,U 1294]
noncomputable def o802:=oU (fnD "dirname" "dirname" (D1 24) [] .none .none .none (S "os.path" 1238) none (R 801) .none)
noncomputable def o805 (P:Params):=oD #[en P "__module__" 1305 (S "cpy313.shlex" 1296),en P "__qualname__" 1307 (S "shlex" 1306),en P "__firstlineno__" 1309 (I 577 1308),en P "__init__" 1321 (R 817),en P "punctuation_chars" 1329 (R 825),en P "push_token" 1337 (R 832),en P "push_source" 1346 (R 840),en P "pop_source" 1353 (R 847),en P "get_token" 1365 (R 854),en P "read_token" 1376 (R 861),en P "sourcehook" 1384 (R 868),en P "error_leader" 1393 (R 876),en P "__iter__" 1400 (R 883),en P "__next__" 1408 (R 890),en P "__static_attributes__" 1429 (R 891)] 15
noncomputable def o807:=oF #[I 579 0,I 4 0,R 816,I 621 0,I 4 0,R 823,I 624 0,I 4 0,R 831,I 627 0,I 4 0,R 839,I 640 0,I 4 0,R 846,I 647 0,I 4 0,R 853,I 674 0,I 4 0,R 860,I 811 0,I 4 0,R 867,I 818 0,I 4 0,R 875,I 821 0,I 4 0,R 882,I 824 0,I 4 0,R 889]
noncomputable def o808:=oC #[S "shlex" 1300,S "shlex" 1301,U 1302,I 577 0,O0,O0,O0,O0,R 806,.bool false,I 318 0,R 807,.none,.none,.none,.none,I 1303 0,I 577 0,U 1304]
noncomputable def o809:Obj:=⟨(.type "frame"),none,.plain,#[some (R 808),some (R 3),some (R 805),none,some (S "cpy313.shlex" 1296),none,some (R 0)]⟩
noncomputable def o810:=oT #[.none,.none,.bool false,.bool false]
noncomputable def o813:=oT #[S "self" 1313,S "instream" 1314,S "infile" 1315,S "posix" 1316,S "punctuation_chars" 1317,S "t" 1318]
noncomputable def o815:Obj:=⟨.none,none,fnG 0 0 "__init__" "shlex.__init__" (D2 26 0) [] .none .none .none .none none .none .none,#[]⟩
noncomputable def o816:=oC #[S "__init__" 1310,S "shlex.__init__" 1311,U 1312,I 579 0,I 5 0,O0,O0,I 3 0,R 811,.bool true,I 318 0,R 812,.none,R 813,R 814,R 815,I 1319 0,I 579 0,U 1320]
noncomputable def o817:=oU (fnD "__init__" "shlex.__init__" (D2 26 0) [] (R 810) .none .none (S "cpy313.shlex" 1296) none (R 816) .none)
noncomputable def o820:=oT #[S "self" 1325]
noncomputable def o822:Obj:=⟨.none,none,fnG 0 0 "punctuation_chars" "shlex.punctuation_chars" (D2 26 1) [] .none .none .none .none none .none .none,#[]⟩
noncomputable def o823:=oC #[S "punctuation_chars" 1322,S "shlex.punctuation_chars" 1323,U 1324,I 620 0,I 1 0,O0,O0,I 3 0,R 818,.bool true,I 318 0,R 819,.none,R 820,R 821,R 822,I 1326 0,I 620 0,U 1327]
noncomputable def o824:=oU (fnD "punctuation_chars" "shlex.punctuation_chars" (D2 26 1) [] .none .none .none (S "cpy313.shlex" 1296) none (R 823) .none)
noncomputable def o825:Obj:=⟨(.type "property"),none,.fields #[R 824,.none,.none,.none,S "punctuation_chars" 1329,.bool false],#[]⟩
noncomputable def o828:=oT #[S "self" 1333,S "tok" 1334]
noncomputable def o830:Obj:=⟨.none,none,fnG 0 0 "push_token" "shlex.push_token" (D2 26 2) [] .none .none .none .none none .none .none,#[]⟩
noncomputable def o831:=oC #[S "push_token" 1330,S "shlex.push_token" 1331,U 1332,I 624 0,I 2 0,O0,O0,I 3 0,R 826,.bool true,I 318 0,R 827,.none,R 828,R 829,R 830,I 1335 0,I 624 0,U 1336]
noncomputable def o832:=oU (fnD "push_token" "shlex.push_token" (D2 26 2) [] .none .none .none (S "cpy313.shlex" 1296) none (R 831) .none)
noncomputable def o836:=oT #[S "self" 1341,S "newstream" 1342,S "newfile" 1343]
noncomputable def o838:Obj:=⟨.none,none,fnG 0 0 "push_source" "shlex.push_source" (D2 26 3) [] .none .none .none .none none .none .none,#[]⟩
noncomputable def o839:=oC #[S "push_source" 1338,S "shlex.push_source" 1339,U 1340,I 627 0,I 3 0,O0,O0,I 3 0,R 834,.bool true,I 318 0,R 835,.none,R 836,R 837,R 838,I 1344 0,I 627 0,U 1345]
noncomputable def o840:=oU (fnD "push_source" "shlex.push_source" (D2 26 3) [] (R 833) .none .none (S "cpy313.shlex" 1296) none (R 839) .none)
noncomputable def o843:=oT #[S "self" 1350]
noncomputable def o845:Obj:=⟨.none,none,fnG 0 0 "pop_source" "shlex.pop_source" (D2 26 4) [] .none .none .none .none none .none .none,#[]⟩
noncomputable def o846:=oC #[S "pop_source" 1347,S "shlex.pop_source" 1348,U 1349,I 640 0,I 1 0,O0,O0,I 3 0,R 841,.bool true,I 318 0,R 842,.none,R 843,R 844,R 845,I 1351 0,I 640 0,U 1352]
noncomputable def o847:=oU (fnD "pop_source" "shlex.pop_source" (D2 26 4) [] .none .none .none (S "cpy313.shlex" 1296) none (R 846) .none)
noncomputable def o850:=oT #[S "self" 1357,S "tok" 1358,S "raw" 1359,S "spec" 1360,S "newfile" 1361,S "newstream" 1362]
noncomputable def o852:Obj:=⟨.none,none,fnG 0 0 "get_token" "shlex.get_token" (D2 26 5) [] .none .none .none .none none .none .none,#[]⟩
noncomputable def o853:=oC #[S "get_token" 1354,S "shlex.get_token" 1355,U 1356,I 647 0,I 1 0,O0,O0,I 3 0,R 848,.bool true,I 318 0,R 849,.none,R 850,R 851,R 852,I 1363 0,I 647 0,U 1364]
noncomputable def o854:=oU (fnD "get_token" "shlex.get_token" (D2 26 5) [] .none .none .none (S "cpy313.shlex" 1296) none (R 853) .none)
noncomputable def o857:=oT #[S "self" 1369,S "quoted" 1370,S "escapedstate" 1371,S "nextchar" 1372,S "result" 1373]
noncomputable def o859:Obj:=⟨.none,none,fnG 0 0 "read_token" "shlex.read_token" (D2 26 6) [] .none .none .none .none none .none .none,#[]⟩
noncomputable def o860:=oC #[S "read_token" 1366,S "shlex.read_token" 1367,U 1368,I 674 0,I 1 0,O0,O0,I 3 0,R 855,.bool true,I 318 0,R 856,.none,R 857,R 858,R 859,I 1374 0,I 674 0,U 1375]
noncomputable def o861:=oU (fnD "read_token" "shlex.read_token" (D2 26 6) [] .none .none .none (S "cpy313.shlex" 1296) none (R 860) .none)
noncomputable def o864:=oT #[S "self" 1380,S "newfile" 1381]
noncomputable def o866:Obj:=⟨.none,none,fnG 0 0 "sourcehook" "shlex.sourcehook" (D2 26 7) [] .none .none .none .none none .none .none,#[]⟩
noncomputable def o867:=oC #[S "sourcehook" 1377,S "shlex.sourcehook" 1378,U 1379,I 811 0,I 2 0,O0,O0,I 3 0,R 862,.bool true,I 318 0,R 863,.none,R 864,R 865,R 866,I 1382 0,I 811 0,U 1383]
noncomputable def o868:=oU (fnD "sourcehook" "shlex.sourcehook" (D2 26 7) [] .none .none .none (S "cpy313.shlex" 1296) none (R 867) .none)
noncomputable def o869:=oT #[.none,.none]
noncomputable def o872:=oT #[S "self" 1388,S "infile" 1389,S "lineno" 1390]
noncomputable def o874:Obj:=⟨.none,none,fnG 0 0 "error_leader" "shlex.error_leader" (D2 26 8) [] .none .none .none .none none .none .none,#[]⟩
noncomputable def o875:=oC #[S "error_leader" 1385,S "shlex.error_leader" 1386,U 1387,I 818 0,I 3 0,O0,O0,I 3 0,R 870,.bool true,I 318 0,R 871,.none,R 872,R 873,R 874,I 1391 0,I 818 0,U 1392]
noncomputable def o876:=oU (fnD "error_leader" "shlex.error_leader" (D2 26 8) [] (R 869) .none .none (S "cpy313.shlex" 1296) none (R 875) .none)
noncomputable def o879:=oT #[S "self" 1397]
noncomputable def o881:Obj:=⟨.none,none,fnG 0 0 "__iter__" "shlex.__iter__" (D2 26 9) [] .none .none .none .none none .none .none,#[]⟩
noncomputable def o882:=oC #[S "__iter__" 1394,S "shlex.__iter__" 1395,U 1396,I 821 0,I 1 0,O0,O0,I 3 0,R 877,.bool true,I 318 0,R 878,.none,R 879,R 880,R 881,I 1398 0,I 821 0,U 1399]
noncomputable def o883:=oU (fnD "__iter__" "shlex.__iter__" (D2 26 9) [] .none .none .none (S "cpy313.shlex" 1296) none (R 882) .none)
noncomputable def o886:=oT #[S "self" 1404,S "token" 1405]
noncomputable def o888:Obj:=⟨.none,none,fnG 0 0 "__next__" "shlex.__next__" (D2 26 10) [] .none .none .none .none none .none .none,#[]⟩
noncomputable def o889:=oC #[S "__next__" 1401,S "shlex.__next__" 1402,U 1403,I 824 0,I 1 0,O0,O0,I 3 0,R 884,.bool true,I 318 0,R 885,.none,R 886,R 887,R 888,I 1406 0,I 824 0,U 1407]
noncomputable def o890:=oU (fnD "__next__" "shlex.__next__" (D2 26 10) [] .none .none .none (S "cpy313.shlex" 1296) none (R 889) .none)
noncomputable def o891:=oT #[S "_punctuation_chars" 1409,S "_pushback_chars" 1410,S "commenters" 1411,S "debug" 1412,S "eof" 1413,S "escape" 1414,S "escapedquotes" 1415,S "filestack" 1416,S "infile" 1417,S "instream" 1418,S "lineno" 1419,S "posix" 1420,S "pushback" 1421,S "quotes" 1422,S "source" 1423,S "state" 1424,S "token" 1425,S "whitespace" 1426,S "whitespace_split" 1427,S "wordchars" 1428]
noncomputable def o892 (P:Params):=oD #[en P "__module__" 1305 (S "cpy313.shlex" 1296),en P "__firstlineno__" 1309 (I 577 1308),en P "__init__" 1321 (R 817),en P "punctuation_chars" 1329 (R 825),en P "push_token" 1337 (R 832),en P "push_source" 1346 (R 840),en P "pop_source" 1353 (R 847),en P "get_token" 1365 (R 854),en P "read_token" 1376 (R 861),en P "sourcehook" 1384 (R 868),en P "error_leader" 1393 (R 876),en P "__iter__" 1400 (R 883),en P "__next__" 1408 (R 890),en P "__static_attributes__" 1429 (R 891),en P "__dict__" 1431 (R 894),en P "__weakref__" 1433 (R 895),en P "__doc__" 1434 .none] 4
noncomputable def o893:Obj:=⟨(.type "type"),none,clD "shlex" [.type "object"] [R 893,.type "object"] 892 "shlex" true [] [] false none false,#[none,none,some (S "shlex" 1298),some (S "shlex" 1306),some (.builtin "object.__new__"),some (.bool true)]⟩
noncomputable def o894:Obj:=⟨(.type "getset_descriptor"),none,.fields #[S "__dict__" 1430,R 893,.builtin "function.__dict__",.builtin "function.__dict__#set"],#[]⟩
noncomputable def o895:Obj:=⟨(.type "getset_descriptor"),none,.fields #[S "__weakref__" 1432,R 893,.builtin "ExceptionGroup.__weakref__",.none],#[]⟩
noncomputable def o896:Obj:=⟨(.type "super"),none,.fields #[R 893,R 893,R 893],#[]⟩
noncomputable def o897:Obj:=⟨(.type "builtin_function_or_method"),none,.fields #[.builtin "object.__init_subclass__",R 893],#[]⟩
noncomputable def o898:Obj:=⟨(.type "builtin_function_or_method"),none,.fields #[.builtin "re.Pattern.search",R 210],#[]⟩
noncomputable def o901:=oT #[S "s" 1442]
noncomputable def o903:Obj:=⟨.none,none,fnG 0 0 "quote" "quote" (D1 28) [] .none .none .none .none none .none .none,#[]⟩
noncomputable def o904:=oC #[S "quote" 1439,S "quote" 1440,U 1441,I 830 0,I 1 0,O0,O0,I 3 0,R 899,.bool true,I 318 0,R 900,.none,R 901,R 902,R 903,I 1443 0,I 830 0,U 1444]
noncomputable def o905:=oU (fnD "quote" "quote" (D1 28) [] .none .none .none (S "cpy313.shlex" 1296) none (R 904) .none)
noncomputable def o908:=oT #[S "x" 1451,S "gap" 1452,S "some" 1453,S "kinds" 1454]
noncomputable def o910:Obj:=⟨.none,none,fnG 0 0 "_law_piece" "_law_piece" (D1 30) [] .none .none .none .none none .none .none,#[]⟩
noncomputable def o911:=oC #[S "_law_piece" 1448,S "_law_piece" 1449,U 1450,I 837 0,I 1 0,O0,O0,I 3 0,R 906,.bool true,I 318 0,R 907,.none,R 908,R 909,R 910,I 1455 0,I 837 0,U 1456]
noncomputable def o912:=oU (fnD "_law_piece" "_law_piece" (D1 30) [] .none .none .none (S "law_mr0372_01" 1446) none (R 911) .none)
noncomputable def o915:Obj:=⟨.none,none,fnG 0 0 "_law_rows" "_law_rows" (D1 31) [] .none .none .none .none none .none .none,#[]⟩
noncomputable def o916:=oC #[S "_law_rows" 1458,S "_law_rows" 1459,U 1460,I 842 0,I 4 0,O0,O0,I 3 0,R 913,.bool true,I 318 0,R 914,.none,.none,.none,R 915,I 1461 0,I 842 0,U 1462]
noncomputable def o917:=oU (fnD "_law_rows" "_law_rows" (D1 31) [] .none .none .none (S "law_mr0372_01" 1446) none (R 916) .none)
noncomputable def o920:=oT #[S "rows" 1467,S "told" 1468,S "at" 1469,S "row" 1470,S "going" 1471,S "gap" 1472,S "written" 1473,S "words" 1474,S "lone" 1475,S "word" 1476]
noncomputable def o922:Obj:=⟨.none,none,fnG 0 0 "_law_tokens" "_law_tokens" (D1 32) [] .none .none .none .none none .none .none,#[]⟩
noncomputable def o923:=oC #[S "_law_tokens" 1464,S "_law_tokens" 1465,U 1466,I 856 0,I 1 0,O0,O0,I 3 0,R 918,.bool true,I 318 0,R 919,.none,R 920,R 921,R 922,I 1477 0,I 856 0,U 1478]
noncomputable def o924:=oU (fnD "_law_tokens" "_law_tokens" (D1 32) [] .none .none .none (S "law_mr0372_01" 1446) none (R 923) .none)
noncomputable def o927:=oT #[S "text" 1483,S "lexer" 1484,S "told" 1485,S "token" 1486]
noncomputable def o929:Obj:=⟨.none,none,fnG 0 0 "_law_read" "_law_read" (D1 33) [] .none .none .none .none none .none .none,#[]⟩
noncomputable def o930:=oC #[S "_law_read" 1480,S "_law_read" 1481,U 1482,I 872 0,I 1 0,O0,O0,I 3 0,R 925,.bool true,I 318 0,R 926,.none,R 927,R 928,R 929,I 1487 0,I 872 0,U 1488]
noncomputable def o931:=oU (fnD "_law_read" "_law_read" (D1 33) [] .none .none .none (S "law_mr0372_01" 1446) none (R 930) .none)
noncomputable def o934:Obj:=⟨.none,none,fnG 0 0 "law" "law" (D1 34) [] .none .none .none .none none .none .none,#[]⟩
noncomputable def o935:=oC #[S "law" 1490,S "law" 1491,U 1492,I 880 0,I 1 0,O0,O0,I 3 0,R 932,.bool true,I 318 0,R 933,.none,.none,.none,R 934,I 1493 0,I 880 0,U 1494]
noncomputable def o936:=oU (fnD "law" "law" (D1 34) [] .none .none .none (S "law_mr0372_01" 1446) none (R 935) .none)
noncomputable def h_z (P:Params):Heap:=⟨#[(o0 P),(o1 P),(o2_14 P),(o3_z P),o4,o5,o6,o7,o8,o9,o10,(o11 P),o12,(o13 P),o14,o7,o16,o17,o18,o19,(o20 P),(o21 P),o22,o23,o24,o25,o26,o27,o28,(o29 P),o30,o19,(o32 P),o33,o7,o35_z,o36,o37,o7,o8,o40,o7,o42,o43,o44,o7,o46,(o47 P),o7,o49,o50,o51,o7,o8,o54,o7,o56,o57,o58,o7,o8,o61,o7,o63,o64,o65,o7,o8,o68,o7,o70,o71,o72,o7,o8,o75,o7,o77,o78,o79,o7,o8,o82,o7,o84,o85,o86,o7,o8,o89,o7,o91,o92,o93,o7,o8,o96,o7,o98,o99,o100,o7,o8,o103,o7,o105,o106,o107,o7,o8,o110,o7,o112,o113,o114,o115,(o116 P),o117,o118,o119,o120,o121,o122,o46,(o124 P),o125,o7,o127,o128,o129,o130,o131,o132,o8,o134,o7,o136,o137,o138,o7,o8,o141,o7,o143,o144,o145,o146,o7,o8,o149,o7,o151,o152,o153,o131,o155,o8,o157,o7,o159,o160,o161,o7,o163,o164,o7,o166,o167,o168,o7,o170,o171,o7,o173,o174,o175,o176,o7,o8,o179,o7,o181,o182,o183,o7,o8,o186,o7,o188,o189,o190,o131,o192,o8,o194,o7,o196,o197,o198,o199,(o200 P),o201,o202,o203,o204,o205,o206,o6,o176,o209,o210,o7,o8,o213,o7,o215,o216,o217,o7,o8,o220,o7,o222,o223,o224,o225,o46,(o227 P),o7,o8,o230,o231,o7,(o233 P),o234,o235,o236,o237,o7,o46,(o240 P),o7,o242,o243,o244,o7,o8,o247,o7,o249,o250,o251,o7,(o253 P),o254,o255,o256,o257,o258,o259,o260,o46,(o262 P),o7,o8,o265,o266,o7,(o268 P),o269_15,o270,o271,o260,o46,(o274 P),o7,o8,o277,o278,o7,(o280 P),o281_16,o282,o283,o284,o46,(o286 P),o7,o288,o289,o290,o176,o7,o8,o294,o7,o296,o297,o298,o7,o8,o301,o7,o303,o304,o305,o7,o8,o308,o7,o310,o311,o312,o7,o8,o315,o7,o317,o318,o319,o320,o7,o8,o323,o7,o325,o326,o327,o7,o8,o330,o7,o332,o333,o334,o7,o8,o337,o7,o339,o340,o341,o7,o8,o344,o7,o346,o347,o348,o7,o8,o351,o7,o353,o354,o355,o7,o8,o358,o7,o360,o361,o362,o7,o8,o365,o7,o367,o368,o369,o7,o8,o372,o7,o374,o375,o376,o7,o8,o379,o7,o381,o382,o383,o7,o8,o386,o7,o388,o389,o390,o7,o8,o393,o7,o395,o396,o397,o7,o8,o400,o7,o402,o403,o404,o7,o8,o407,o7,o409,o410,o411,o412,o7,o8,o415,o7,o417,o418,o419,o176,o7,o8,o423,o7,o425,o426,o427,o428,o7,o8,o431,o7,o433,o434,o435,o436,o7,o8,o439,o7,o441,o442,o443,o7,o8,o446,o7,o448,o449,o450,o7,o8,o453,o7,o455,o456,o457,o458,o7,o8,o461,o7,o463,o464,o465,o176,o7,o8,o469,o7,o471,o472,o473,o7,o8,o476,o7,o478,o479,o480,o7,o8,o483,o7,o485,o486,o487,o7,o8,o490,o7,o492,o493,o494,o7,o8,o497,o7,o499,o500,o501,o7,o8,o504,o7,o506,o507,o508,o509,(o510 P),o511,o512,o513,o514,o46,(o516 P),o7,o518,o519,o520,o521,o7,o8,o524,o7,o526,o527,o528,o7,o8,o531,o7,o533,o534,o535,o7,o8,o538,o7,o540,o541,o542,o7,o8,o545,o7,o547,o548,o549,o7,o8,o552,o7,o554,o555,o556,o7,o8,o559,o7,o561,o562,o563,o564,o7,o8,o567,o7,o569,o570,o571,o572,o7,o8,o575,o7,o577,o578,o579,o580,o7,o8,o583,o7,o585,o586,o587,o588,o7,o8,o591,o7,o593,o594,o595,o596,o7,o8,o599,o7,o601,o602,o603,o7,o8,o606,o7,o608,o609,o610,o7,o8,o613,o7,o615,o616,o617,o7,o8,o620,o7,o622,o623,o624,o7,o8,o627,o7,o629,o630,o631,o7,o8,o634,o7,o636,o637,o638,o7,o8,o641,o7,o643,o644,o645,o7,o8,o648,o7,o650,o651,o652,o7,o8,o655,o7,o657,o658,o659,o7,o8,o662,o7,o664,o665,o666,o7,o8,o669,o7,o671,o672,o673,o7,o8,o676,o7,o678,o679,o680,o681,o7,o8,o684,o7,o686,o687,o688,o176,o7,o8,o692,o7,o694,o695,o696,o697,o7,o8,o700,o7,o702,o703,o704,o705,o7,o8,o708,o7,o710,o711,o712,o713,o7,o8,o716,o7,o718,o719,o720,o7,o8,o723,o7,o725,o726,o727,o7,o8,o730,o7,o732,o733,o734,o7,o8,o737,o7,o739,o740,o741,o7,o8,o744,o7,o746,o747,o748,o7,o8,o751,o7,o753,o754,o755,o756,(o757 P),o758,o759,o760,o7,o8,o763,o7,o765,o766,o767,o7,o8,o770,o7,o772,o773,o774,o7,o8,o777,o7,o779,o780,o781,o7,o8,o784,o7,o786,o787,o788,o7,o8,o791,o7,o793,o794,o795,o7,o8,o798,o7,o800,o801,o802,o7,o46,(o805 P),o7,o807,o808,o809,o810,o7,o8,o813,o7,o815,o816,o817,o7,o8,o820,o7,o822,o823,o824,o825,o7,o8,o828,o7,o830,o831,o832,o176,o7,o8,o836,o7,o838,o839,o840,o7,o8,o843,o7,o845,o846,o847,o7,o8,o850,o7,o852,o853,o854,o7,o8,o857,o7,o859,o860,o861,o7,o8,o864,o7,o866,o867,o868,o869,o7,o8,o872,o7,o874,o875,o876,o7,o8,o879,o7,o881,o882,o883,o7,o8,o886,o7,o888,o889,o890,o891,(o892 P),o893,o894,o895,o896,o897,o898,o7,o8,o901,o7,o903,o904,o905,o7,o8,o908,o7,o910,o911,o912,o7,o8,o915,o916,o917,o7,o8,o920,o7,o922,o923,o924,o7,o8,o927,o7,o929,o930,o931,o7,o8,o934,o935,o936],{ }⟩
noncomputable def t_z (P:Params):BT:=(N (o0 P) (N (o1 P) (N (o3_z P) (N o7 (N o7 (N o19 (N o63 (N o127 (N o255 (N o511 Z Z) (N o767 Z Z)) (N o383 (N o7 Z Z) (N o895 Z Z))) (N o131 (N o319 (N o575 Z Z) (N o831 Z Z)) (N o7 (N o703 Z Z) Z))) (N o8 (N o159 (N o7 (N o7 Z Z) (N o7 Z Z)) (N o415 (N o671 Z Z) (N o927 Z Z))) (N o223 (N o351 (N o7 Z Z) (N o8 Z Z)) (N o479 (N o7 Z Z) Z)))) (N (o47 P) (N o79 (N o143 (N o271 (N o527 Z Z) (N o8 Z Z)) (N o8 (N o655 Z Z) (N o911 Z Z))) (N o6 (N o7 (N o591 Z Z) (N o847 Z Z)) (N o463 (N o719 Z Z) Z))) (N o7 (N o175 (N o303 (N o559 Z Z) (N o815 Z Z)) (N o431 (N o687 Z Z) Z)) (N o46 (N o367 (N o623 Z Z) (N o879 Z Z)) (N o7 (N o751 Z Z) Z))))) (N o23 (N o8 (N o71 (N o7 (N o7 (N o519 Z Z) (N o7 Z Z)) (N o7 (N o8 Z Z) (N o903 Z Z))) (N o199 (N o327 (N o583 Z Z) (N o839 Z Z)) (N o455 (N o711 Z Z) Z))) (N o103 (N o167 (N o7 (N o8 Z Z) (N o807 Z Z)) (N o423 (N o679 Z Z) (N o935 Z Z))) (N o231 (N o7 (N o615 Z Z) (N o8 Z Z)) (N o487 (N o8 Z Z) Z)))) (N o7 (N o7 (N o151 (N o7 (N o535 Z Z) (N o791 Z Z)) (N o407 (N o7 Z Z) (N o8 Z Z))) (N o215 (N o8 (N o599 Z Z) (N o7 Z Z)) (N o471 (N o727 Z Z) Z))) (N o119 (N o183 (N o311 (N o567 Z Z) (N o823 Z Z)) (N o439 (N o695 Z Z) Z)) (N o247 (N o375 (N o631 Z Z) (N o7 Z Z)) (N o8 (N o759 Z Z) Z)))))) (N (o11 P) (N o19 (N o35_z (N o8 (N o131 (N o259 (N o46 Z Z) (N o7 Z Z)) (N o7 (N o643 Z Z) (N o7 Z Z))) (N o7 (N o323 (N o579 Z Z) (N o8 Z Z)) (N o7 (N o8 Z Z) Z))) (N o99 (N o163 (N o176 (N o547 Z Z) (N o7 Z Z)) (N o419 (N o8 Z Z) (N o931 Z Z))) (N (o227 P) (N o355 (N o7 Z Z) (N o867 Z Z)) (N o483 (N o739 Z Z) Z)))) (N o51 (N o7 (N o7 (N o7 (N o531 Z Z) (N o787 Z Z)) (N o403 (N o659 Z Z) (N o915 Z Z))) (N o7 (N o339 (N o595 Z Z) (N o7 Z Z)) (N o7 (N o723 Z Z) Z))) (N o115 (N o179 (N o8 (N o563 Z Z) (N o8 Z Z)) (N o435 (N o8 Z Z) Z)) (N o243 (N o8 (N o627 Z Z) (N o883 Z Z)) (N o499 (N o755 Z Z) Z))))) (N o27 (N o43 (N o75 (N o7 (N o7 (N o8 Z Z) (N o779 Z Z)) (N o395 (N o651 Z Z) (N o8 Z Z))) (N o203 (N o7 (N o587 Z Z) (N o843 Z Z)) (N o7 (N o8 Z Z) Z))) (N o107 (N o171 (N o7 (N o555 Z Z) (N o7 Z Z)) (N o427 (N o8 Z Z) Z)) (N o235 (N o7 (N o8 Z Z) (N o875 Z Z)) (N o7 (N o747 Z Z) Z)))) (N o7 (N o91 (N o155 (N o283 (N o7 Z Z) (N o795 Z Z)) (N o411 (N o7 Z Z) (N o923 Z Z))) (N o8 (N o347 (N o603 Z Z) (N o859 Z Z)) (N o8 (N o7 Z Z) Z))) (N o46 (N o7 (N o315 (N o571 Z Z) (N o8 Z Z)) (N o443 (N o8 Z Z) Z)) (N o251 (N o379 (N o7 Z Z) (N o891 Z Z)) (N o507 (N o763 Z Z) Z))))))) (N o5 (N o9 (N o17 (N o33 (N o65 (N o129 (N o257 (N o513 Z Z) (N o8 Z Z)) (N o8 (N o641 Z Z) (N o897 Z Z))) (N o8 (N o7 (N o577 Z Z) (N o176 Z Z)) (N o449 (N o705 Z Z) Z))) (N o7 (N o161 (N o289 (N o545 Z Z) (N o801 Z Z)) (N o417 (N o673 Z Z) (N o929 Z Z))) (N o225 (N o353 (N o609 Z Z) (N o7 Z Z)) (N o7 (N o737 Z Z) Z)))) (N o49 (N o8 (N o145 (N o46 (N o7 Z Z) (N o7 Z Z)) (N o7 (N o657 Z Z) (N o7 Z Z))) (N o209 (N o337 (N o593 Z Z) (N o8 Z Z)) (N o465 (N o7 Z Z) Z))) (N o113 (N o7 (N o305 (N o561 Z Z) (N o817 Z Z)) (N o433 (N o176 Z Z) Z)) (N o7 (N o369 (N o7 Z Z) (N o881 Z Z)) (N o497 (N o753 Z Z) Z))))) (N o25 (N o7 (N o7 (N o137 (N o265 (N o521 Z Z) (N o777 Z Z)) (N o393 (N o7 Z Z) (N o905 Z Z))) (N o201 (N o8 (N o585 Z Z) (N o7 Z Z)) (N o457 (N o713 Z Z) Z))) (N o105 (N o7 (N o297 (N o7 Z Z) (N o809 Z Z)) (N o425 (N o681 Z Z) Z)) (N (o233 P) (N o361 (N o617 Z Z) (N o7 Z Z)) (N o8 (N o7 Z Z) Z)))) (N o57 (N o89 (N o153 (N o281_16 (N o8 Z Z) (N o793 Z Z)) (N o409 (N o665 Z Z) (N o7 Z Z))) (N o217 (N o7 (N o601 Z Z) (N o857 Z Z)) (N o473 (N o8 Z Z) Z))) (N o121 (N o8 (N o7 (N o569 Z Z) (N o825 Z Z)) (N o441 (N o697 Z Z) Z)) (N o249 (N o7 (N o8 Z Z) (N o889 Z Z)) (N o7 (N o7 Z Z) Z)))))) (N (o13 P) (N (o21 P) (N o37 (N o7 (N o8 (N o46 (N o7 Z Z) (N o773 Z Z)) (N o389 (N o645 Z Z) (N o901 Z Z))) (N o197 (N o325 (N o7 Z Z) (N o7 Z Z)) (N o453 (N o7 Z Z) Z))) (N o7 (N o7 (N o8 (N o549 Z Z) (N (o805 P) Z Z)) (N o7 (N o7 Z Z) (N o8 Z Z))) (N o8 (N o8 (N o613 Z Z) (N o869 Z Z)) (N o485 (N o741 Z Z) Z)))) (N o8 (N o85 (N o149 (N o277 (N o533 Z Z) (N o7 Z Z)) (N o7 (N o8 Z Z) (N o917 Z Z))) (N o213 (N o341 (N o7 Z Z) (N o853 Z Z)) (N o469 (N o725 Z Z) Z))) (N o117 (N o181 (N o7 (N o7 Z Z) (N o7 Z Z)) (N o7 (N o7 Z Z) Z)) (N o7 (N o7 (N o629 Z Z) (N o8 Z Z)) (N o501 (N (o757 P) Z Z) Z))))) (N (o29 P) (N o7 (N o77 (N o141 (N o269_15 (N o7 Z Z) (N o781 Z Z)) (N o397 (N o7 Z Z) (N o7 Z Z))) (N o205 (N o333 (N o7 Z Z) (N o845 Z Z)) (N o461 (N o7 Z Z) Z))) (N o8 (N o173 (N o301 (N o7 Z Z) (N o813 Z Z)) (N o7 (N o7 Z Z) Z)) (N o237 (N o365 (N o7 Z Z) (N o7 Z Z)) (N o493 (N o7 Z Z) Z)))) (N o61 (N o93 (N o157 (N o46 (N o541 Z Z) (N o8 Z Z)) (N o7 (N o669 Z Z) (N o7 Z Z))) (N o7 (N o7 (N o8 Z Z) (N o861 Z Z)) (N o7 (N o733 Z Z) Z))) (N o125 (N o189 (N o317 (N o7 Z Z) (N o7 Z Z)) (N o8 (N o7 Z Z) Z)) (N (o253 P) (N o381 (N o637 Z Z) (N o893 Z Z)) (N o509 (N o765 Z Z) Z)))))))) (N (o2_14 P) (N o4 (N o8 (N o16 (N (o32 P) (N o64 (N o128 (N o256 (N o512 Z Z) (N o7 Z Z)) (N o7 (N o8 Z Z) (N o896 Z Z))) (N o192 (N o320 (N o7 Z Z) (N o832 Z Z)) (N o448 (N o704 Z Z) Z))) (N o96 (N o160 (N o288 (N o8 Z Z) (N o800 Z Z)) (N o7 (N o672 Z Z) (N o7 Z Z))) (N o224 (N o7 (N o608 Z Z) (N o864 Z Z)) (N o480 (N o8 Z Z) Z)))) (N o7 (N o7 (N o144 (N o260 (N o528 Z Z) (N o784 Z Z)) (N o400 (N o7 Z Z) (N o912 Z Z))) (N o176 (N o8 (N o7 Z Z) (N o7 Z Z)) (N o464 (N o720 Z Z) Z))) (N o112 (N o176 (N o304 (N o7 Z Z) (N o816 Z Z)) (N o7 (N o688 Z Z) Z)) (N (o240 P) (N o368 (N o624 Z Z) (N o7 Z Z)) (N o8 (N o7 Z Z) Z))))) (N o24 (N o40 (N o72 (N o136 (N o8 (N o520 Z Z) (N o8 Z Z)) (N o8 (N o648 Z Z) (N o904 Z Z))) (N (o200 P) (N o7 (N o7 Z Z) (N o840 Z Z)) (N o456 (N o712 Z Z) Z))) (N o7 (N o168 (N o296 (N o552 Z Z) (N o808 Z Z)) (N o7 (N o680 Z Z) (N o936 Z Z))) (N o7 (N o360 (N o616 Z Z) (N o872 Z Z)) (N o7 (N o744 Z Z) Z)))) (N o56 (N o8 (N o152 (N (o280 P) (N o7 Z Z) (N o7 Z Z)) (N o7 (N o664 Z Z) (N o920 Z Z))) (N o216 (N o344 (N o7 Z Z) (N o8 Z Z)) (N o472 (N o7 Z Z) Z))) (N o120 (N o7 (N o312 (N o7 Z Z) (N o824 Z Z)) (N o7 (N o696 Z Z) Z)) (N o7 (N o376 (N o7 Z Z) (N o888 Z Z)) (N o504 (N o760 Z Z) Z)))))) (N o12 (N (o20 P) (N o36 (N o68 (N o132 (N o260 (N (o516 P) Z Z) (N o772 Z Z)) (N o388 (N o644 Z Z) (N o8 Z Z))) (N o196 (N o7 (N o580 Z Z) (N o836 Z Z)) (N o8 (N o708 Z Z) Z))) (N o100 (N o164 (N o7 (N o548 Z Z) (N o46 Z Z)) (N o176 (N o676 Z Z) (N o7 Z Z))) (N o7 (N o7 (N o8 Z Z) (N o868 Z Z)) (N o7 (N o740 Z Z) Z)))) (N o7 (N o84 (N o8 (N o8 (N o7 Z Z) (N o788 Z Z)) (N o404 (N o7 Z Z) (N o916 Z Z))) (N o8 (N o340 (N o596 Z Z) (N o852 Z Z)) (N o8 (N o7 Z Z) Z))) (N (o116 P) (N o7 (N o308 (N o564 Z Z) (N o820 Z Z)) (N o436 (N o692 Z Z) Z)) (N o244 (N o372 (N o7 Z Z) (N o7 Z Z)) (N o500 (N o756 Z Z) Z))))) (N o28 (N o44 (N o7 (N o8 (N (o268 P) (N o524 Z Z) (N o780 Z Z)) (N o396 (N o652 Z Z) (N o908 Z Z))) (N o204 (N o332 (N o588 Z Z) (N o7 Z Z)) (N o8 (N o716 Z Z) Z))) (N o7 (N o7 (N o8 (N o556 Z Z) (N o8 Z Z)) (N o428 (N o684 Z Z) Z)) (N o236 (N o8 (N o620 Z Z) (N o876 Z Z)) (N o492 (N o748 Z Z) Z)))) (N o8 (N o92 (N o8 (N o284 (N o540 Z Z) (N o7 Z Z)) (N o412 (N o8 Z Z) (N o924 Z Z))) (N o220 (N o348 (N o7 Z Z) (N o860 Z Z)) (N o476 (N o732 Z Z) Z))) (N (o124 P) (N o188 (N o7 (N o572 Z Z) (N o828 Z Z)) (N o7 (N o700 Z Z) Z)) (N o7 (N o7 (N o636 Z Z) (N (o892 P) Z Z)) (N o508 (N o7 Z Z) Z))))))) (N o6 (N o10 (N o18 (N o7 (N o7 (N o130 (N o258 (N o514 Z Z) (N o770 Z Z)) (N o386 (N o7 Z Z) (N o898 Z Z))) (N o194 (N o8 (N o578 Z Z) (N o7 Z Z)) (N o450 (N o7 Z Z) Z))) (N o98 (N o7 (N o290 (N o7 Z Z) (N o802 Z Z)) (N o418 (N o7 Z Z) (N o930 Z Z))) (N o46 (N o354 (N o610 Z Z) (N o866 Z Z)) (N o8 (N o7 Z Z) Z)))) (N o50 (N o82 (N o146 (N (o274 P) (N o8 Z Z) (N o786 Z Z)) (N o402 (N o658 Z Z) (N o8 Z Z))) (N o210 (N o7 (N o594 Z Z) (N o850 Z Z)) (N o176 (N o8 Z Z) Z))) (N o114 (N o8 (N o7 (N o562 Z Z) (N o7 Z Z)) (N o434 (N o7 Z Z) Z)) (N o242 (N o7 (N o8 Z Z) (N o882 Z Z)) (N o7 (N o754 Z Z) Z))))) (N o26 (N o42 (N o8 (N o138 (N o266 (N o7 Z Z) (N o7 Z Z)) (N o7 (N o650 Z Z) (N o7 Z Z))) (N o202 (N o330 (N o586 Z Z) (N o8 Z Z)) (N o458 (N o7 Z Z) Z))) (N o106 (N o170 (N o298 (N o554 Z Z) (N o810 Z Z)) (N o426 (N o7 Z Z) Z)) (N o234 (N o362 (N o7 Z Z) (N o874 Z Z)) (N o490 (N o746 Z Z) Z)))) (N o58 (N o7 (N o131 (N o282 (N o538 Z Z) (N o794 Z Z)) (N o410 (N o666 Z Z) (N o922 Z Z))) (N o7 (N o346 (N o602 Z Z) (N o7 Z Z)) (N o7 (N o730 Z Z) Z))) (N o122 (N o186 (N o8 (N o570 Z Z) (N o7 Z Z)) (N o442 (N o7 Z Z) Z)) (N o250 (N o8 (N o634 Z Z) (N o890 Z Z)) (N o506 (N o8 Z Z) Z)))))) (N o14 (N o22 (N o7 (N o70 (N o134 (N (o262 P) (N o518 Z Z) (N o774 Z Z)) (N o390 (N o7 Z Z) (N o7 Z Z))) (N o198 (N o326 (N o8 Z Z) (N o838 Z Z)) (N o7 (N o710 Z Z) Z))) (N o8 (N o166 (N o294 (N o7 Z Z) (N o7 Z Z)) (N o8 (N o678 Z Z) (N o934 Z Z))) (N o230 (N o358 (N o7 Z Z) (N o7 Z Z)) (N o486 (N o7 Z Z) Z)))) (N o54 (N o86 (N o7 (N o278 (N o534 Z Z) (N o8 Z Z)) (N o8 (N o662 Z Z) (N o7 Z Z))) (N o7 (N o7 (N o8 Z Z) (N o854 Z Z)) (N o7 (N o726 Z Z) Z))) (N o118 (N o182 (N o310 (N o8 Z Z) (N o822 Z Z)) (N o8 (N o694 Z Z) Z)) (N o8 (N o374 (N o630 Z Z) (N o886 Z Z)) (N o7 (N o758 Z Z) Z))))) (N o30 (N o46 (N o78 (N o7 (N o270 (N o526 Z Z) (N o7 Z Z)) (N o7 (N o8 Z Z) (N o910 Z Z))) (N o206 (N o334 (N o8 Z Z) (N o846 Z Z)) (N o7 (N o718 Z Z) Z))) (N o110 (N o174 (N o7 (N o8 Z Z) (N o7 Z Z)) (N o8 (N o686 Z Z) Z)) (N o7 (N o7 (N o622 Z Z) (N o8 Z Z)) (N o494 (N o8 Z Z) Z)))) (N o7 (N o7 (N o7 (N (o286 P) (N o542 Z Z) (N o798 Z Z)) (N o8 (N o7 Z Z) (N o8 Z Z))) (N o222 (N o8 (N o606 Z Z) (N o7 Z Z)) (N o478 (N o734 Z Z) Z))) (N o7 (N o190 (N o318 (N o8 Z Z) (N o830 Z Z)) (N o446 (N o702 Z Z) Z)) (N o254 (N o382 (N o638 Z Z) (N o894 Z Z)) (N (o510 P) (N o766 Z Z) Z)))))))))
noncomputable abbrev bd:List Stmt:=behindTheImports pw
noncomputable def env0:Env:={ scope:=pw.main.scope,locals:=mainNs,globals:=mainNs,cells:=[],code:=.ref 36,frame:=some 37 }
noncomputable def cB:Code:=.body bd env0
noncomputable abbrev q0:Pos:=⟨0,0,0,0⟩
noncomputable abbrev d0:Drawn:=⟨0,0,0,0⟩
noncomputable def st (t:BT) (n toks:Nat) (os:OsState):SharedT:=⟨t,n,{},#[],d0,toks,os⟩
noncomputable abbrev an0:Option Value:=some (.ref 6)
noncomputable abbrev seg (w:World) (n:Nat) (s:SharedT) (a b:Nat) (p:Pos):=segRunT treeTable pw w 34 an0 1 n s (piecesOf ((bd.drop a).take (b - a)) env0 cB p [topFrame q0])
theorem p1 (w:World) (os:OsState):seg w 1137 (st (t_a w.params) 38 324 os) 0 7 q0=some (.next,st (t_7 w.params) 211 581 os,cB,⟨111,0,111,10⟩):=by kernel_rfl
theorem p2 (w:World) (os:OsState):seg w 963 (st (t_7 w.params) 211 581 os) 7 14 ⟨111,0,111,10⟩=some (.next,st (t_14 w.params) 284 689 os,cB,⟨136,0,137,21⟩):=by kernel_rfl
theorem p3 (w:World) (os:OsState):seg w 1278 (st (t_14 w.params) 284 689 os) 14 15 ⟨136,0,137,21⟩=some (.next,st (t_15 w.params) 514 951 os,cB,⟨138,0,307,17⟩):=by kernel_rfl
theorem p4 (w:World) (os:OsState):seg w 1578 (st (t_15 w.params) 514 951 os) 15 16 ⟨138,0,307,17⟩=some (.next,st (t_16 w.params) 761 1238 os,cB,⟨308,0,512,17⟩):=by kernel_rfl
theorem p5 (w:World) (os:OsState):seg w 1058 (st (t_16 w.params) 761 1238 os) 16 33 ⟨308,0,512,17⟩=some (.next,st (t_z w.params) 937 1496 os,cB,⟨880,0,894,49⟩):=by kernel_rfl
noncomputable def K (P:Params):Frag:=[(2,o2_14 P),(3,o3_z P),(4,o4),(57,o57),(58,o58),(64,o64),(65,o65),(78,o78),(79,o79),(113,o113),(114,o114),(116,o116 P),(117,o117),(125,o125),(130,o130),(137,o137),(138,o138),(144,o144),(145,o145),(146,o146),(152,o152),(153,o153),(160,o160),(161,o161),(167,o167),(168,o168),(174,o174),(175,o175),(176,o176),(182,o182),(183,o183),(189,o189),(190,o190),(197,o197),(198,o198),(200,o200 P),(201,o201),(209,o209),(210,o210),(223,o223),(224,o224),(250,o250),(251,o251),(253,o253 P),(254,o254),(255,o255),(280,o280 P),(281,o281_16),(511,o511),(521,o521),(527,o527),(528,o528),(534,o534),(535,o535),(541,o541),(542,o542),(697,o697),(703,o703),(704,o704),(757,o757 P),(758,o758),(810,o810),(816,o816),(817,o817),(823,o823),(824,o824),(825,o825),(853,o853),(854,o854),(860,o860),(861,o861),(892,o892 P),(893,o893),(898,o898),(904,o904),(905,o905),(911,o911),(912,o912),(916,o916),(917,o917),(923,o923),(924,o924),(930,o930),(931,o931),(935,o935),(936,o936)]
noncomputable def KK (P:Params):Frag:=K P++[(163,o163),(170,o170)]
noncomputable def hk:Hook:=kHook KK [2,3,4,57,58,64,65,78,79,113,114,116,117,125,130,137,138,144,145,146,152,153,160,161,167,168,174,175,176,182,183,189,190,197,198,200,201,209,210,223,224,250,251,253,254,255,280,281,511,521,527,528,534,535,541,542,697,703,704,757,758,810,816,817,823,824,825,853,854,860,861,892,893,898,904,905,911,912,916,917,923,924,930,931,935,936,163,170] (fun _=>by kernel_rfl)
theorem open0 (w:World):(fencedOpening treeTable pw w 12144).map (fun s=>(s.heap,s.gens,s.drawn,s.toks))=some (h_0 w.params,#[],d0,318):=by kernel_rfl
theorem size0 (w:World):((h_0 w.params).isNs mainGlobals&&(#[]:Array GenState).size==0,(h_0 w.params).objs.size,(h_0 w.params).nsMap mainGlobals "__annotations__")=(true,34,an0):=by kernel_rfl
theorem pre0 (w:World) (os:OsState):topGo treeTable pw w 34 an0 12 ⟨h_0 w.params,#[],d0,318,os⟩ (topStub pw)=some ((st (t_a w.params) 38 324 os).abs,⟨denote treeTable cB,cB,q0,[topFrame q0]⟩):=by kernel_rfl
theorem block0 (w:World) (os:OsState):segRun treeTable pw w 34 an0 1 1 (st (t_a w.params) 38 324 os).abs (blockOf bd env0 cB q0 [topFrame q0])=some (.next,(st (t_a w.params) 38 324 os).abs,cB,q0):=by kernel_rfl
theorem fin0 (w:World) (os:OsState):topRun treeTable pw w 34 an0 2 (st (t_z w.params) 937 1496 os).abs ⟨doneF .next,cB,⟨880,0,894,49⟩,[topFrame q0]⟩=some ⟨h_z w.params,#[],d0,1496,os⟩:=by kernel_rfl
theorem cut {α:Type} (l:List α) (a b:Nat) (h:a≤b):(l.drop a).take (b - a)++l.drop b=l.drop a:=by
 have e:l.drop b=(l.drop a).drop (b - a):=by rw [List.drop_drop]; congr 1; omega
 rw [e,List.take_append_drop]
theorem app {w:World} {n N:Nat} {s s':SharedT} {r:Shared} {a b:Nat} {p p':Pos} (hab:a≤b) (h:seg w n s a b p=some (.next,s',cB,p')) (k:topRun treeTable pw w 34 an0 N s'.abs (restOf (bd.drop b) env0 cB p' [topFrame q0])=some r) :
  topRun treeTable pw w 34 an0 (n+N) s.abs (restOf (bd.drop a) env0 cB p [topFrame q0])=some r:=by
 rw [← cut bd a b hab]
 exact piece_app (segRun_of h) k
theorem run0 (w:World) (os:OsState):topRun treeTable pw w 34 an0 (12+(1+(1137+(963+(1278+(1578+(1058+2))))))) ⟨h_0 w.params,#[],d0,318,os⟩ (topStub pw)=some ⟨h_z w.params,#[],d0,1496,os⟩ :=
 go_top (pre0 w os) (piece_block (block0 w os) (app (a:=0) (b:=7) (by decide) (p1 w os) (app (by decide) (p2 w os) (app (by decide) (p3 w os) (app (by decide) (p4 w os) (app (by decide) (p5 w os) (fin0 w os)))))))
noncomputable def qv:Program:=view pw [0,1,34]
noncomputable def loose0:List Str:=["_wall","NL","EMPTYSTRING","_ValueFormatter","_Accumulator","_twin_re_1","_whence","_index","UnsupportedOperation","IOBase","BufferedIOBase","TextIOBase","BytesIO","StringIO","_kind","_fspath","_check_arg_types","isabs","join","dirname","shlex","_find_unsafe","quote","_law_piece","_law_rows","_law_tokens","_law_read"]
noncomputable abbrev rO:OpenRow:=PySem.Challenge.rw_mr0372_01.row
noncomputable abbrev Xt0:Shared→Bool:=fun s=>xlAt qv [] s&&recOk (RowW.records rO.toRowW) s
theorem looks0 (w:World):(fun os=>((staticsOk (importedModules pw.main.body) (h_0 w.params) (h_z w.params)&&namesBound pw (h_z w.params)&&gensDone ⟨h_z w.params,#[],d0,1496,os⟩&&laidKept (h_0 w.params) (h_z w.params)),
    openSeen qv loose0 (importedModules pw.main.body) Xt0 true ⟨h_z w.params,#[],d0,1496,os⟩,Hook.obs hk ⟨h_z w.params,#[],d0,1496,os⟩))=fun _=>(true,openGood qv loose0,Hook.val hk w):=by kernel_rfl
theorem left0:LeftO pw qv loose0 Xt0 (Hook.obs hk) (Hook.val hk) 12144 :=
 LeftO.of_pieces open0 size0 run0 (by decide) looks0
noncomputable abbrev rL:OpenLaw:=PySem.Challenge.rw_mr0372_01
theorem sa1:sreFenced rL.row.prog.main=true:=by kernel_rfl
theorem sa2:namesResolve rL.row.prog=true:=by kernel_rfl
theorem sa3:namesMeet rL.row.prog rL.row.prog.main.body (fun _ n=>attrL n)=true:=by kernel_rfl
theorem sa4:looksOpen rL.row.prog=true:=by
 delta looksOpen
 rw [sa1,sa2,sa3]
 kernel_rfl
theorem sa5:namesMeet rL.prog rL.above (fun _ n=>!rL.own.contains n)=true:=by kernel_rfl
theorem said1:rL.row.wellSaid=true:=by
 delta OpenRow.wellSaid OpenRow.partSaid
 rw [sa4]
 kernel_rfl
theorem said0:rL.wellSaid=true:=by
 delta OpenLaw.wellSaid
 rw [said1,sa5]
 kernel_rfl
noncomputable def dl:DefRec×List (Str×Expr):=(defOf qv rO.name).get (by kernel_rfl)
theorem hdef0:defOf qv rO.name=some (dl.1,dl.2):=by kernel_rfl
theorem theDef0:rO.prog.theDef rO.name=some (dl.1.params,dl.1.body,dl.1.scope):=by kernel_rfl
theorem kw0:kwWritten? dl.1.params.kwonlyargs dl.1.params.kw_defaults=some dl.2:=by kernel_rfl
theorem ok0:(chainsOk qv&&opensWell rO.prog&&(frees rO.toRowW&&rO.within.isEmpty))=true:=by kernel_rfl
theorem bare0:rO.prog.bare:=⟨rfl,rfl,rfl,rfl,rfl,by kernel_rfl⟩
theorem prom0:rO.toRowW.promised:=⟨[.list []],by kernel_rfl,by kernel_rfl⟩
theorem head0 (walk:WalkO qv loose0 (XL qv []) (Hook.says hk) rO.toRowW dl.1 dl.2 fun f vs=>PySem.call f vs):PySem.Challenge.rw_mr0372_01.Holds :=
 holds_law said0 fun said=>holds_open (q:=qv) (loose:=loose0) (Xt:=Xt0) (XP:=XL qv []) (Yf:=Hook.obs hk) (Ya:=Hook.val hk) (YP:=Hook.says hk) (N:=12144) left0 (Hook.of hk) (Hook.keeps hk)
  (fun s e=>xl_of s (Bool.and_eq_true_iff.mp e).1) XL.keeps hdef0 theDef0 kw0 (fun s e=>recFacts_of (Bool.and_eq_true_iff.mp e).2) rfl said ok0 bare0 prom0 walk
noncomputable abbrev cst (w:World) (os:OsState):Cst:=⟨w,os,K w.params⟩
theorem fnk {c:Cst} {f cd:Addr} {dd dd':Mine.Df} {name qual:Str} {dV doc pm:Value} {an:Option Addr} {ct:Value} {cl:List (Str×Addr)} (h:codeIn c.K (.ref cd) qual=true) (h2:c.K.lookup f=some ⟨.type "function",none,fnD name qual dd' cl dV .none doc pm an (.ref cd) ct,#[]⟩) (e:dd'=dd):FnK c f dd name qual dV cd cl:=by
 subst e
 exact ⟨h,_,_,_,doc,pm,an,ct,h2⟩
theorem getk {c:Cst} {C:Addr} {name:Str} (a:GaOk c C) (b:hasDictIn c.K C=true) (h:findIn c.K (.ref C) name=some none):GetOk c C name:=⟨a,b,none,h,rfl⟩
theorem supk {c:Cst} {e:En} {cell D:Addr} (h1:(e.cells 0).lookup ("__class__":Str)=some cell) (h2:e.scope.kind = .function) (h3:e.scope.names.lookup ("super":Str)=some .globalImplicit) (h4:e.scope.names.lookup ("__class__":Str)=some .free) (h5:e.scope.names.lookup ("self":Str)=some .local)
  (h6:∃ q sc fa cd0 cl,e=En.fn q sc fa cd0 (fun _=>cl)) (h7:∃ fa oc od sl fd ar,e.f=some fa∧c.K.lookup fa=some ⟨oc,od,.func fd,sl⟩∧(fd.params.posonlyargs++fd.params.args).head? = some ar∧ar.arg = "self")
  (h8:∃ cda ccl cdd vs ccs file tf,e.cd = .ref cda∧c.K.lookup cda=some ⟨ccl,cdd,.fields vs,ccs⟩∧vs[2]? = some (.str file tf)∧((PySem.Challenge.pw_mr0372_01.main.file:Str)==file)=true) (h9:∃ cl cld csl,c.K.lookup cell=some ⟨cl,cld,.cell (some (.ref D)),csl⟩):SupFn c e cell D:=by
 obtain ⟨q,sc,fa,cd0,cl,rfl⟩:=h6
 exact ⟨fun _=>h1,h2,h3,h4,h5,⟨_,_,_,_,_,rfl⟩,h7,h8,h9⟩
theorem ga201 {w:World} {os:OsState}:GaOk (cst w os) 201:=.inr ⟨by kernel_rfl,by kernel_rfl,by kernel_rfl⟩
theorem genk {w:World} {os:OsState} {cda P:Addr} (h:CodeK (cst w os) cda P):∃ bm,GenOk (cst w os) 201 cda P bm:=⟨4,h,⟨by kernel_rfl,.inr (.inl type_list_iter),by kernel_rfl⟩,by kernel_rfl,by kernel_rfl,by decide,⟨_,rfl⟩,⟨_,rfl⟩⟩
theorem s117 {w:World} {os:OsState} (name:Str) (h:takerIn (K w.params) 117 name=some none):SetOk (cst w os) 117 name:=⟨by kernel_rfl,⟨_,rfl,by kernel_rfl,by kernel_rfl,by kernel_rfl,fun self=>by kernel_rfl⟩,h⟩
theorem s201 {w:World} {os:OsState} (name:Str) (h:takerIn (K w.params) 201 name=some none):SetOk (cst w os) 201 name:=⟨by kernel_rfl,⟨_,rfl,by kernel_rfl,by kernel_rfl,by kernel_rfl,fun self=>by kernel_rfl⟩,h⟩
theorem s758 {w:World} {os:OsState} (name:Str) (h:takerIn (K w.params) 758 name=some none):SetOk (cst w os) 758 name:=⟨by kernel_rfl,⟨_,rfl,by kernel_rfl,by kernel_rfl,by kernel_rfl,fun self=>by kernel_rfl⟩,h⟩
theorem s893 {w:World} {os:OsState} (name:Str) (h:takerIn (K w.params) 893 name=some none):SetOk (cst w os) 893 name:=⟨by kernel_rfl,⟨_,rfl,by kernel_rfl,by kernel_rfl,by kernel_rfl,fun self=>by kernel_rfl⟩,h⟩
theorem off0 (P:Params):∀ p∈K P,notTab p.1=true:=by
 have:(K P).all (fun p=>notTab p.1)=true:=by kernel_rfl
 exact List.all_eq_true.mp this
theorem lexsets {w:World} {os:OsState} (i:Nat) (n:Str) (h:lexNames[i]? = some n):SetOk (cst w os) 893 n:=by
 have:lexNames.all (fun n=>takerIn (K w.params) 893 n==some none)=true:=by kernel_rfl
 exact s893 _ (beq_iff_eq.mp (List.all_eq_true.mp this n (List.mem_of_getElem? h)))
theorem f_AccFacts (w:World) (os:OsState):AccFacts (cst w os) where
 push:=fnk (by kernel_rfl) rfl (by kernel_rfl)
 append:=⟨ga201,by kernel_rfl,by kernel_rfl,type_list_append⟩
 lst:=by kernel_rfl
 sup:=⟨⟨_,rfl,rfl,by kernel_rfl⟩,by kernel_rfl,by kernel_rfl,by kernel_rfl,by kernel_rfl,by kernel_rfl,by kernel_rfl⟩
 part_count:=fnk (by kernel_rfl) rfl (by kernel_rfl)
 part_countS:=supk rfl rfl rfl rfl rfl ⟨_,_,_,_,_,rfl⟩ ⟨_,_,_,_,_,_,rfl,rfl,rfl,rfl⟩ ⟨_,_,_,_,_,_,_,rfl,rfl,rfl,by kernel_rfl⟩ ⟨_,_,_,rfl⟩
 pop:=fnk (by kernel_rfl) rfl (by kernel_rfl)
 popS:=supk rfl rfl rfl rfl rfl ⟨_,_,_,_,_,rfl⟩ ⟨_,_,_,_,_,_,rfl,rfl,rfl,rfl⟩ ⟨_,_,_,_,_,_,_,rfl,rfl,rfl,by kernel_rfl⟩ ⟨_,_,_,rfl⟩
 m_part_count:=⟨ga201,by kernel_rfl,by kernel_rfl,by kernel_rfl⟩
 k_part_count:=by kernel_rfl
theorem f_AccFacts2 (w:World) (os:OsState):AccFacts2 (cst w os) where
 len:=fnk (by kernel_rfl) rfl (by kernel_rfl)
 lenG:=genk ⟨by decide,_,_,_,_,_,_,_,_,_,_,rfl,rfl,rfl,rfl,rfl,rfl⟩
 str:=fnk (by kernel_rfl) rfl (by kernel_rfl)
 strG:=genk ⟨by decide,_,_,_,_,_,_,_,_,_,_,rfl,rfl,rfl,rfl,rfl,rfl⟩
 sumN:=by kernel_rfl
 lenN:=by kernel_rfl
 esN:=⟨_,rfl⟩
 getI:=getk (ga201) (by kernel_rfl) (by kernel_rfl)
 setI:=s201 _ (by kernel_rfl)
 spec:=⟨by kernel_rfl,by kernel_rfl,by kernel_rfl,by kernel_rfl⟩
 init:=fnk (by kernel_rfl) rfl (by kernel_rfl)
 initS:=supk rfl rfl rfl rfl rfl ⟨_,_,_,_,_,rfl⟩ ⟨_,_,_,_,_,_,rfl,rfl,rfl,rfl⟩ ⟨_,_,_,_,_,_,_,rfl,rfl,rfl,by kernel_rfl⟩ ⟨_,_,_,rfl⟩
 initD:=⟨_,_,_,_,_,rfl⟩
 pop_from:=fnk (by kernel_rfl) rfl (by kernel_rfl)
 pop_fromD:=⟨_,_,_,_,_,rfl⟩
 reset:=fnk (by kernel_rfl) rfl (by kernel_rfl)
 resetD:=⟨_,_,_,_,rfl⟩
 is_onlyws:=fnk (by kernel_rfl) rfl (by kernel_rfl)
theorem f_AccFacts3 (w:World) (os:OsState):AccFacts3 (cst w os) where
 lenS:=⟨by kernel_rfl,.inr (.inr (by kernel_rfl)),by kernel_rfl⟩
 strS:=⟨by kernel_rfl,.inr (.inr (by kernel_rfl)),by kernel_rfl⟩
 bool:=by kernel_rfl
 strN:=by kernel_rfl
 make:=by kernel_rfl
 initF:=by kernel_rfl
 initT:=by kernel_rfl
theorem f_MakFacts (w:World) (os:OsState):MakFacts (cst w os) where
 newline:=fnk (by kernel_rfl) rfl (by kernel_rfl)
 gLines:=getk (.inl (by kernel_rfl)) (by kernel_rfl) (by kernel_rfl)
 gCur:=getk (.inl (by kernel_rfl)) (by kernel_rfl) (by kernel_rfl)
 gMax:=getk (.inl (by kernel_rfl)) (by kernel_rfl) (by kernel_rfl)
 gSplit:=getk (.inl (by kernel_rfl)) (by kernel_rfl) (by kernel_rfl)
 mPop:=⟨ga201,by kernel_rfl,by kernel_rfl,by kernel_rfl⟩
 kPop:=by kernel_rfl
 mPush:=⟨ga201,by kernel_rfl,by kernel_rfl,by kernel_rfl⟩
 kPush:=by kernel_rfl
 bPush:=⟨ga201,by kernel_rfl,by kernel_rfl,by kernel_rfl,by kernel_rfl,by kernel_rfl,by kernel_rfl,by kernel_rfl,by kernel_rfl⟩
 mWs:=⟨ga201,by kernel_rfl,by kernel_rfl,by kernel_rfl⟩
 kWs:=by kernel_rfl
 mReset:=⟨ga201,by kernel_rfl,by kernel_rfl,by kernel_rfl⟩
 kReset:=by kernel_rfl
 mPopFrom:=⟨ga201,by kernel_rfl,by kernel_rfl,by kernel_rfl⟩
 kPopFrom:=by kernel_rfl
 mNewline:=⟨.inl (by kernel_rfl),by kernel_rfl,by kernel_rfl,by kernel_rfl⟩
 kNewline:=by kernel_rfl
theorem f_MakFacts2 (w:World) (os:OsState):MakFacts2 (cst w os) where
 vstr:=fnk (by kernel_rfl) rfl (by kernel_rfl)
 vinit:=fnk (by kernel_rfl) rfl (by kernel_rfl)
 make:=by kernel_rfl
 initF:=by kernel_rfl
 initT:=by kernel_rfl
 s1:=s117 _ (by kernel_rfl)
 s2:=s117 _ (by kernel_rfl)
 s3:=s117 _ (by kernel_rfl)
 s4:=s117 _ (by kernel_rfl)
 s5:=s117 _ (by kernel_rfl)
 s6:=s117 _ (by kernel_rfl)
 accN:=by kernel_rfl
 accK:=by kernel_rfl
theorem f_MakFacts3 (w:World) (os:OsState):MakFacts3 (cst w os) where
 chunk:=fnk (by kernel_rfl) rfl (by kernel_rfl)
 rangeN:=by kernel_rfl
theorem f_SioFacts (w:World) (os:OsState):SioFacts (cst w os) where
 index:=fnk (by kernel_rfl) rfl (by kernel_rfl)
 indexN:=by kernel_rfl
 indexK:=by kernel_rfl
 typeN:=by kernel_rfl
 intN:=by kernel_rfl
 boolN:=by kernel_rfl
 lenN:=by kernel_rfl
 check:=fnk (by kernel_rfl) rfl (by kernel_rfl)
 mCheck:=⟨.inl (by kernel_rfl),by kernel_rfl,by kernel_rfl,by kernel_rfl⟩
 kCheck:=by kernel_rfl
 read:=fnk (by kernel_rfl) rfl (by kernel_rfl)
 readD:=⟨_,_,_,_,_,rfl⟩
 gBuf:=getk (.inl (by kernel_rfl)) (by kernel_rfl) (by kernel_rfl)
 gPos:=getk (.inl (by kernel_rfl)) (by kernel_rfl) (by kernel_rfl)
 sPos:=s758 _ (by kernel_rfl)
theorem f_LexFacts (w:World) (os:OsState):LexFacts (cst w os) where
 punct:=fnk (by kernel_rfl) rfl (by kernel_rfl)
 pPunct:=⟨by kernel_rfl,by kernel_rfl,by kernel_rfl,825,_,by kernel_rfl,by kernel_rfl,by kernel_rfl,rfl⟩
 gPunct:=getk (.inl (by kernel_rfl)) (by kernel_rfl) (by kernel_rfl)
 gIn:=getk (.inl (by kernel_rfl)) (by kernel_rfl) (by kernel_rfl)
 gDebug:=getk (.inl (by kernel_rfl)) (by kernel_rfl) (by kernel_rfl)
 gState:=getk (.inl (by kernel_rfl)) (by kernel_rfl) (by kernel_rfl)
 gToken:=getk (.inl (by kernel_rfl)) (by kernel_rfl) (by kernel_rfl)
 gLine:=getk (.inl (by kernel_rfl)) (by kernel_rfl) (by kernel_rfl)
 gWs:=getk (.inl (by kernel_rfl)) (by kernel_rfl) (by kernel_rfl)
 gPosix:=getk (.inl (by kernel_rfl)) (by kernel_rfl) (by kernel_rfl)
 gComm:=getk (.inl (by kernel_rfl)) (by kernel_rfl) (by kernel_rfl)
 gEsc:=getk (.inl (by kernel_rfl)) (by kernel_rfl) (by kernel_rfl)
 gWord:=getk (.inl (by kernel_rfl)) (by kernel_rfl) (by kernel_rfl)
 gQuo:=getk (.inl (by kernel_rfl)) (by kernel_rfl) (by kernel_rfl)
 gSplit:=getk (.inl (by kernel_rfl)) (by kernel_rfl) (by kernel_rfl)
 gPush:=getk (.inl (by kernel_rfl)) (by kernel_rfl) (by kernel_rfl)
 gEof:=getk (.inl (by kernel_rfl)) (by kernel_rfl) (by kernel_rfl)
 gFile:=getk (.inl (by kernel_rfl)) (by kernel_rfl) (by kernel_rfl)
 gSrc:=getk (.inl (by kernel_rfl)) (by kernel_rfl) (by kernel_rfl)
 sState:=s893 _ (by kernel_rfl)
 sToken:=s893 _ (by kernel_rfl)
 sLine:=s893 _ (by kernel_rfl)
 mRead:=⟨.inl (by kernel_rfl),by kernel_rfl,by kernel_rfl,by kernel_rfl⟩
 kRead:=by kernel_rfl
theorem f_LexFacts2 (w:World) (os:OsState):LexFacts2 (cst w os) where
 rtok:=fnk (by kernel_rfl) rfl (by kernel_rfl)
 mRtok:=⟨.inl (by kernel_rfl),by kernel_rfl,by kernel_rfl,by kernel_rfl⟩
 kRtok:=by kernel_rfl
 gtok:=fnk (by kernel_rfl) rfl (by kernel_rfl)
 mGtok:=⟨.inl (by kernel_rfl),by kernel_rfl,by kernel_rfl,by kernel_rfl⟩
 kGtok:=by kernel_rfl
theorem f_LawFacts (w:World) (os:OsState):LawFacts (cst w os) where
 piece:=fnk (by kernel_rfl) rfl (by kernel_rfl)
 pieceN:=by kernel_rfl
 pieceK:=by kernel_rfl
theorem f_SioFacts2 (w:World) (os:OsState):SioFacts2 (cst w os) where
 newF:=fnk (by kernel_rfl) rfl (by kernel_rfl)
 newO:=⟨⟨_,_,_,_,rfl,by kernel_rfl,by kernel_rfl,by kernel_rfl⟩,fun _=>by kernel_rfl,fun _=>by kernel_rfl,fun _=>by kernel_rfl,fun _=>by kernel_rfl,by kernel_rfl,fun _=>by kernel_rfl,fun _=>by kernel_rfl,by kernel_rfl,⟨255,_,by kernel_rfl,rfl⟩,by kernel_rfl,by kernel_rfl⟩
 bytesN:=by kernel_rfl
 sioN:=by kernel_rfl
 sioT:=by kernel_rfl
 bytesT:=by kernel_rfl
 sioK:=by kernel_rfl
 objN:=by kernel_rfl
 strN:=by kernel_rfl
 init:=fnk (by kernel_rfl) rfl (by kernel_rfl)
 initD:=⟨_,_,_,_,_,_,rfl⟩
 trans:=fnk (by kernel_rfl) rfl (by kernel_rfl)
 mTrans:=⟨.inl (by kernel_rfl),by kernel_rfl,by kernel_rfl,by kernel_rfl⟩
 kTrans:=by kernel_rfl
 gNew:=getk (.inl (by kernel_rfl)) (by kernel_rfl) (by kernel_rfl)
 sNew:=s758 _ (by kernel_rfl)
 sPos:=s758 _ (by kernel_rfl)
 sBuf:=s758 _ (by kernel_rfl)
theorem f_LexFacts3 (w:World) (os:OsState):LexFacts3 (cst w os) where
 init:=fnk (by kernel_rfl) rfl (by kernel_rfl)
 initD:=⟨_,_,_,_,rfl⟩
 make:=by kernel_rfl
 initF:=by kernel_rfl
 initT:=by kernel_rfl
 sets:=fun i n h=>lexsets i n h
 isN:=by kernel_rfl
 dqN:=by kernel_rfl
theorem f_ReadFacts (w:World) (os:OsState):ReadFacts (cst w os) where
 lread:=fnk (by kernel_rfl) rfl (by kernel_rfl)
 shlexN:=by kernel_rfl
 shlexK:=by kernel_rfl
theorem f_QuoteFacts (w:World) (os:OsState):QuoteFacts (cst w os) where
 quote:=fnk (by kernel_rfl) rfl (by kernel_rfl)
 findN:=by kernel_rfl
 obj:=⟨_,_,rfl⟩
 chk:=fun _ _ _=>by kernel_rfl
 run1:=fun _ _ _=>by kernel_rfl
 run2:=fun _ _ _=>by kernel_rfl
theorem f_TokFacts (w:World) (os:OsState):TokFacts (cst w os) where
 ltok:=fnk (by kernel_rfl) rfl (by kernel_rfl)
 enumN:=by kernel_rfl
 lenN:=by kernel_rfl
theorem f_RowFacts (w:World) (os:OsState):RowFacts (cst w os) where
 lrows:=fnk (by kernel_rfl) rfl (by kernel_rfl)
 sumN:=by kernel_rfl
 lenN:=by kernel_rfl
 rangeN:=by kernel_rfl
 maxN:=by kernel_rfl
theorem f_LawFacts2 (w:World) (os:OsState):LawFacts2 (cst w os) where
 makN:=by kernel_rfl
 makK:=by kernel_rfl
 mChunk:=⟨.inl (by kernel_rfl),by kernel_rfl,by kernel_rfl,by kernel_rfl⟩
 kChunk:=by kernel_rfl
 mStr:=⟨.inl (by kernel_rfl),by kernel_rfl,by kernel_rfl,by kernel_rfl⟩
 kStr:=by kernel_rfl
 quoN:=by kernel_rfl
 quoK:=by kernel_rfl
 quoM:=fun _=>by kernel_rfl
 rowN:=by kernel_rfl
 rowK:=by kernel_rfl
 readN:=by kernel_rfl
 readK:=by kernel_rfl
 tokN:=by kernel_rfl
 tokK:=by kernel_rfl
theorem f_LawIn (w:World) (os:OsState):LawIn (cst w os) where
 fn:=fnk (by kernel_rfl) rfl (by kernel_rfl)
 off:=fun p hp=>off0 _ p hp
 c163:=⟨_,_,_,rfl,rfl⟩
 c170:=⟨_,_,_,rfl,rfl⟩
theorem allF (w:World) (os:OsState):AllFacts (cst w os):=⟨f_AccFacts w os,f_AccFacts2 w os,f_AccFacts3 w os,f_MakFacts w os,f_MakFacts2 w os,f_MakFacts3 w os,f_SioFacts w os,f_SioFacts2 w os,f_LexFacts w os,f_LexFacts2 w os,f_LexFacts3 w os,f_ReadFacts w os,f_QuoteFacts w os,f_TokFacts w os,f_RowFacts w os,f_LawFacts w os,f_LawFacts2 w os⟩
theorem ints_of {R:WRecords} {cl:Str→Option Addr} {h:Heap}:∀ {xs:List WData} {vs:List Value} {as:List Addr},ReadsAllW R cl h vs xs as→WShape.hasItems R xs .int=true→∃ sc:List Int,sc.length=xs.length∧∀ g am,VRs g am (sc.map .int) vs:=by
 intro xs
 induction xs with
 | nil=>intro vs as r _; cases r; exact ⟨[],rfl,fun _ _=>.nil⟩
 | cons x xs ih =>
  intro vs as r e
  cases r with
  | cons r1 r2 =>
  obtain ⟨e1,e2⟩:=Bool.and_eq_true_iff.mp (show (WShape.has R x .int&&WShape.hasItems R xs .int)=true from e)
  obtain ⟨i,rfl⟩:=hasW_int e1
  cases r1
  obtain ⟨sc,h1,h2⟩:=ih r2 e2
  exact ⟨i :: sc,by rw [List.length_cons,List.length_cons,h1],fun g am=>.cons (.int _ _) (h2 g am)⟩
theorem name0:dl.1.name = "law":=by kernel_rfl
theorem law936 (P:Params):nsIn (K P) mainGlobals "law" = some (some (.ref 936)):=by kernel_rfl
theorem walk0:WalkO qv loose0 (XL qv []) (Hook.says hk) rO.toRowW dl.1 dl.2 fun f vs=>PySem.call f vs:=by
 intro w s₀ s₁ mg mb G Y a o pm cd doc dV kV ho hd hcd hD hmg hg args vals as hpre hlay hrd hwl hlo
 have Y:(KK w.params).In s₁.heap:=kIn_of Y
 have X:(cst w s₁.os).K.In s₁.heap:=fun b o e=>Y _ _ (by
  show List.lookup b (K w.params++[(163,o163),(170,o170)])=some o
  rw [List.lookup_append,show List.lookup b (K w.params)=some o from e]; rfl)
 have h163:s₁.heap.get? 163=some (tabO #[]):=Y _ _ (by kernel_rfl)
 have h170:s₁.heap.get? 170=some (tabO #[]):=Y _ _ (by kernel_rfl)
 have hm:=mg_of X G.T.g (law936 w.params)
 rw [name0] at hmg
 rw [hm] at hmg
 cases hmg
 obtain ⟨hs,hp⟩:=pre_splitW hpre
 obtain ⟨dd,r,rfl,h1,h2⟩:=hasAllW_cons hs
 obtain rfl:=hasAllW_nil h2
 obtain ⟨xs,rfl,h3⟩:=hasW_list h1
 cases hrd with
 | cons r1 r2 =>
 cases r2
 cases r1 with
 | list e1 e2 e3 e4 =>
 obtain ⟨sc,hl,hv⟩:=ints_of e4 h3
 have hz:sc.length≤1000:=by
  rw [hl]
  refine Decidable.byContradiction fun hn=>?_
  have e:(63:Int)<(xs.length:Int):=by omega
  have z:rO.toRowW.pre.holds rO.toRowW.records { args:=[.list xs] } = false:=by
   show WTm.holds [] (.and (.not (.lt (.lit (.int 63)) (.len (.arg 0)))) (.lit (.bool true))) { args:=[.list xs] } = false
   have l:decide ((63:Int)<(xs.length:Int))=true:=decide_eq_true e
   show (match (match (match (some (decide ((63:Int)<(xs.length:Int)))).map WData.bool with | some (.bool b)=>some (WData.bool (!b)) | _=>none) with | some (.bool false)=>some (WData.bool false) | some (.bool true)=>some (WData.bool true) | _=>none) with | some (.bool true)=>true | _=>false)=false
   rw [l]
   rfl
  rw [z] at hp; cases hp
 refine wpAny_call (codeAny_mono (car_le (law_in (allF w s₁.os) (f_LawIn w s₁.os) (d:=800) (u:=2000) (by decide) (by decide) X h163 h170 G.T.g G.T.b G.T.builtins G.T.nolimit rfl (.of_eq hg) ⟨_,e1,e2,_,e3⟩ hv hz) rfl (by decide) (by decide)) fun res s' q=>?_)
 obtain ⟨rfl,q1,q2,q3⟩:=q
 exact ⟨.inl ⟨.bool true,.bool true,[],rfl,fun _=>rfl,.bool true,by kernel_rfl,fun _=>⟨.nil,fun a ha=>by cases ha⟩⟩,q1,q2,q3⟩
theorem the_law:PySem.Challenge.rw_mr0372_01.Holds:=head0 walk0
end H
end Mine
theorem PySem.Challenge.cw_mr0372_01_holds : PySem.Challenge.rw_mr0372_01.Holds :=
  Mine.H.the_law
